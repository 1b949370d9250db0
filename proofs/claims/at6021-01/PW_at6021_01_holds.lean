import PyProof.Rows.All
import Wide.All
import OpenK.AllK
import Wide.FinOn
import KE.KDictLaws
import KE.KDictList
import KE.KRevIter
import KE.KDictSum
import KE.KEqDict
import PyProof.AssertRaise
import PyProof.StationsW
import PySem.Challenge.RW_at6021_01
open PySem PySem.W PyProof.Rows
set_option Elab.async false
set_option linter.unusedVariables false
set_option linter.unnecessarySimpa false

/-! G1 -/
namespace Mine

/-- abstract values: tuples of two are values, mutable objects are addresses -/
inductive AV where
  | none | bool (b : Bool) | int (i : Int) | pair (x y : AV) | ref (a : Addr) | val (v : Value) | view (d : Addr)

/-- objects that nothing changes -/
inductive Imm : Obj → Prop
  | tup {o xs n} : o.cls = .type "tuple" → o.data = .seq xs n → Imm o
  | view {o vs} : o.cls = .type "dict_keys" → o.data = .fields vs → Imm o

inductive VR (h : Heap) : Value → AV → Prop
  | none : VR h .none .none
  | bool (b) : VR h (.bool b) (.bool b)
  | int (i t) : VR h (.int i t) (.int i)
  | ref (a) : VR h (.ref a) (.ref a)
  | val (v) : VR h v (.val v)
  | pair {a o x y n p q} : h.get? a = some o → o.cls = .type "tuple" → o.data = .seq #[x, y] n → VR h x p → VR h y q → VR h (.ref a) (.pair p q)
  | view {a o d} : h.get? a = some o → o.cls = .type "dict_keys" → o.data = .fields #[.ref d] → VR h (.ref a) (.view d)

def Ext (h h' : Heap) : Prop := ∀ b o, h.get? b = some o → h'.get? b = some o
def Stab (h h' : Heap) : Prop := ∀ b o, h.get? b = some o → Imm o → h'.get? b = some o
/-- no such object stands there -/
def NT (h : Heap) (a : Addr) : Prop := ∀ o, h.get? a = some o → ¬ Imm o
theorem Ext.refl (h : Heap) : Ext h h := fun _ _ e => e
theorem Ext.trans {a b c : Heap} (x : Ext a b) (y : Ext b c) : Ext a c := fun _ _ e => y _ _ (x _ _ e)
theorem Ext.stab {h h' : Heap} (x : Ext h h') : Stab h h' := fun b o e _ => x b o e
theorem Stab.refl (h : Heap) : Stab h h := fun _ _ e _ => e
theorem Stab.trans {a b c : Heap} (x : Stab a b) (y : Stab b c) : Stab a c := fun _ _ e t => y _ _ (x _ _ e t) t
theorem Stab.extBut {h h' : Heap} {a : Addr} (s : Heap.ExtBut a h h') (ha : NT h a) : Stab h h' := fun b o e t => by
  have : b ≠ a := by rintro rfl; exact ha _ e t
  exact s b o this e
theorem Stab.sameBut {h h' : Heap} {a : Addr} (s : Heap.SameBut a h h') (ha : NT h a) : Stab h h' := .extBut s.extBut ha
theorem Imm.cls {o : Obj} (x : Imm o) : o.cls = .type "tuple" ∨ o.cls = .type "dict_keys" := by cases x <;> simp_all
theorem NT.cls {h : Heap} {a : Addr} {t : String} (x : ∃ o, h.get? a = some o ∧ o.cls = .type t) (ht : (t == "tuple" || t == "dict_keys") = false) : NT h a := fun o e i => by
  obtain ⟨o', e', c'⟩ := x
  rw [e] at e'; cases e'
  rcases i.cls with c | c <;> rw [c] at c' <;> cases c' <;> revert ht <;> decide
theorem NT.ns {h : Heap} {a : Addr} {m} (x : h.Ns a m) : NT h a := fun o e i => by
  obtain ⟨o', _, _, e', d', _⟩ := x
  rw [e] at e'; cases e'
  cases i with
  | tup _ d => rw [d] at d'; cases d'
  | view _ d => rw [d] at d'; cases d'
theorem NT.cell {h : Heap} {a : Addr} {v} (x : h.IsCell a v) : NT h a := fun o e i => by
  obtain ⟨o', e', d'⟩ := x
  rw [e] at e'; cases e'
  cases i with
  | tup _ d => rw [d] at d'; cases d'
  | view _ d => rw [d] at d'; cases d'
theorem NT.none {h : Heap} {a : Addr} (x : h.get? a = none) : NT h a := fun o e _ => by rw [x] at e; cases e
theorem Ext.push (h : Heap) (o : Obj) : Ext h (h.push o) := fun _ _ e => Heap.get?_push_of_some _ e

theorem VR.stab {h h' : Heap} {v : Value} {av : AV} (x : VR h v av) (s : Stab h h') : VR h' v av := by
  induction x with
  | none => exact .none
  | bool b => exact .bool b
  | int i t => exact .int i t
  | ref a => exact .ref a
  | val v => exact .val v
  | pair ho hc hd _ _ i1 i2 => exact .pair (s _ _ ho (.tup hc hd)) hc hd i1 i2
  | view ho hc hd => exact .view (s _ _ ho (.view hc hd)) hc hd

inductive VRs (h : Heap) : List Value → List AV → Prop
  | nil : VRs h [] []
  | cons {v a vs as} : VR h v a → VRs h vs as → VRs h (v :: vs) (a :: as)
theorem VRs.stab {h h' : Heap} {vs : List Value} {xs : List AV} (x : VRs h vs xs) (s : Stab h h') : VRs h' vs xs := by
  induction x with
  | nil => exact .nil
  | cons a _ ih => exact .cons (a.stab s) ih

/-- what is known of a variable: nothing, or its value -/
def OR (h : Heap) (v : Option Value) : Option AV → Prop
  | none => True
  | some av => ∃ u, v = some u ∧ VR h u av
theorem OR.stab {h h' : Heap} {v : Option Value} {a : Option AV} (x : OR h v a) (s : Stab h h') : OR h' v a := by
  cases a with
  | none => trivial
  | some av => obtain ⟨u, e, r⟩ := x; exact ⟨u, e, r.stab s⟩

/-- dicts keyed by ints: the keys in order, the values by key, the epoch -/
structure DI where
  keys : List Int
  val : Int → AV
  ep : Nat
/-- dicts keyed by pairs of ints -/
structure DP where
  keys : List (Int × Int)
  val : Int → Int → AV

structure AH where
  list : Addr → Option (List AV)
  dI : Addr → Option DI
  dP : Addr → Option DP
  set : Addr → Option ((Int → Bool) × Nat)
  /-- a code's table, and the code -/
  tab : Addr → Option Addr

def AH.Fresh (σ : AH) (a : Addr) : Prop := σ.list a = none ∧ σ.dI a = none ∧ σ.dP a = none ∧ σ.set a = none ∧ σ.tab a = none
def AH.setL (σ : AH) (a : Addr) (l : List AV) : AH := { σ with list := fun b => if b = a then some l else σ.list b }
def AH.setD (σ : AH) (a : Addr) (d : DI) : AH := { σ with dI := fun b => if b = a then some d else σ.dI b }
def AH.setP (σ : AH) (a : Addr) (d : DP) : AH := { σ with dP := fun b => if b = a then some d else σ.dP b }
def AH.setS (σ : AH) (a : Addr) (S : Int → Bool) (n : Nat) : AH := { σ with set := fun b => if b = a then some (S, n) else σ.set b }

section
variable (prog : Program) (w : World)

def LRep (h : Heap) (a : Addr) (xs : List AV) : Prop := ∃ vs : List Value, h.PlainList a vs.toArray ∧ VRs h vs xs
def DIRep (h : Heap) (a : Addr) (d : DI) : Prop :=
  ∃ kvs : List (Int × Value), h.DictAt (intKind prog w) a kvs d.ep ∧ kvs.map (·.1) = d.keys ∧ ∀ kv ∈ kvs, VR h kv.2 (d.val kv.1)
def DPRep (h : Heap) (a : Addr) (d : DP) : Prop :=
  ∃ xs : List (List Int × Addr × Value), h.DictOfH (tupleKind (intKind prog w)) a xs ∧ xs.map (·.1) = d.keys.map (fun p => [p.1, p.2]) ∧ ∀ x ∈ xs, ∀ i j, x.1 = [i, j] → VR h x.2.2 (d.val i j)
def SRep (h : Heap) (a : Addr) (S : (Int → Bool) × Nat) : Prop := h.SetOf (intKind prog w) a S.1 S.2
def TRep (h : Heap) (a k : Addr) : Prop := ∃ ps, h.TableAt k a ps ∧ h.IsCode k a ps

structure Basis where
  h₀ : Heap
  stat : ∃ o, h₀.get? cStatics = some o
  os : OsState
  mg : Str → Option Value
  mb : Str → Option Value

/-- an address that is new: not known, and not the table of modules -/
structure Nw (σ : AH) (D : Addr) : Prop where
  fresh : σ.Fresh D
  notMod : (D == sysModules) = false

abbrev Pins := Addr → Option Obj

structure Sees (B : Basis) (P : Pins) (σ : AH) (h : Heap) : Prop where
  base : ∀ b o, B.h₀.get? b = some o → P b = some o
  pin : ∀ b o, P b = some o → h.get? b = some o
  apart : ∀ b o, P b = some o → σ.Fresh b
  list : ∀ a xs, σ.list a = some xs → LRep h a xs
  dI : ∀ a d, σ.dI a = some d → DIRep prog w h a d
  dP : ∀ a d, σ.dP a = some d → DPRep prog w h a d
  set : ∀ a S, σ.set a = some S → SRep prog w h a S
  dd : ∀ a d, σ.dI a = some d → σ.dP a = none
  tab : ∀ a k, σ.tab a = some k → TRep h a k ∧ (B.h₀.get? k).isSome = true
end

section
variable {prog : Program} {w : World} {B : Basis} {P : Pins} {σ : AH} {h h' : Heap}

theorem LRep.get {a xs} (x : LRep h a xs) : ∃ o, h.get? a = some o ∧ o.cls = .type "list" := let ⟨_, ⟨_, ho⟩, _⟩ := x; ⟨_, ho, rfl⟩
theorem DIRep.get {a d} (x : DIRep prog w h a d) : ∃ o, h.get? a = some o ∧ o.cls = .type "dict" := let ⟨_, ⟨o, _, ho, hc, _⟩, _⟩ := x; ⟨o, ho, hc.1⟩
theorem DPRep.get {a d} (x : DPRep prog w h a d) : ∃ o, h.get? a = some o ∧ o.cls = .type "dict" := let ⟨_, ⟨o, _, _, ho, hc, _⟩, _⟩ := x; ⟨o, ho, hc.1⟩
theorem SRep.get {a S} (x : SRep prog w h a S) : ∃ o, h.get? a = some o ∧ o.cls = .type "set" := let ⟨o, _, _, _, ho, hc, _⟩ := x; ⟨o, ho, hc.1⟩

theorem LRep.at {a xs} (x : LRep h a xs) (e : h'.get? a = h.get? a) (s : Stab h h') : LRep h' a xs := by
  obtain ⟨vs, ⟨n, ho⟩, hv⟩ := x
  exact ⟨vs, ⟨n, e.trans ho⟩, hv.stab s⟩
theorem DIRep.at {a d} (x : DIRep prog w h a d) (e : h'.get? a = h.get? a) (s : Stab h h') : DIRep prog w h' a d := by
  obtain ⟨kvs, ⟨o, es, ho, r⟩, hk, hv⟩ := x
  exact ⟨kvs, ⟨o, es, e.trans ho, r⟩, hk, fun kv hkv => (hv kv hkv).stab s⟩
theorem isTupleKey_stab {ks : List Int} {a : Addr} (x : IsTupleKey (intKind prog w) h ks a) (s : Stab h h') : IsTupleKey (intKind prog w) h' ks a := by
  obtain ⟨o, items, n, ho, hc, hd, r⟩ := x
  exact ⟨o, items, n, s _ _ ho (.tup hc hd), hc, hd, r⟩
theorem DPRep.at {a d} (x : DPRep prog w h a d) (e : h'.get? a = h.get? a) (s : Stab h h') : DPRep prog w h' a d := by
  obtain ⟨xs, ⟨o, es, ep, ho, h1, h2, h3, h4, h5⟩, hk, hv⟩ := x
  exact ⟨xs, ⟨o, es, ep, e.trans ho, h1, h2, h3, fun y hy => isTupleKey_stab (h4 y hy) s, h5⟩, hk, fun y hy i j e' => (hv y hy i j e').stab s⟩
theorem SRep.at {a S} (x : SRep prog w h a S) (e : h'.get? a = h.get? a) : SRep prog w h' a S := by
  obtain ⟨o, es, ep, t, ho, r⟩ := x
  exact ⟨o, es, ep, t, e.trans ho, r⟩

theorem TRep.get {a k} (x : TRep h a k) : ∃ o, h.get? a = some o ∧ o.cls = .none := let ⟨_, ⟨_, ho⟩, _⟩ := x; ⟨_, ho, rfl⟩
theorem TRep.at {a k} (x : TRep h a k) (e : h'.get? a = h.get? a) (e' : h'.get? k = h.get? k) : TRep h' a k := by
  obtain ⟨ps, ⟨⟨o, vs, ho, r⟩, ht⟩, o2, vs2, file, tf, flags, tg, inF, text, tt, op, ho2, hd, h11, h2, h7, h9, h10, hop, hpd, htr, hne⟩ := x
  exact ⟨ps, ⟨⟨o, vs, e'.trans ho, r⟩, e.trans ht⟩, o2, vs2, file, tf, flags, tg, inF, text, tt, op, e'.trans ho2, hd, h11, h2, h7, h9, h10, e.trans hop, hpd, htr, hne⟩

theorem Sees.tabP (x : Sees prog w B P σ h) {a k : Addr} (e : σ.tab a = some k) : (P k).isSome = true := by
  obtain ⟨o, ho⟩ := Option.isSome_iff_exists.mp (x.tab a k e).2
  rw [x.base k o ho]; rfl

/-- all but the addresses in X stand as they stood -/
theorem Sees.keep (x : Sees prog w B P σ h) (hk : ∀ a, (P a).isSome = true ∨ ¬ σ.Fresh a → h'.get? a = h.get? a) (s : Stab h h') : Sees prog w B P σ h' where
  base := x.base
  pin := fun b o e => (hk b (.inl (by rw [e]; rfl))).trans (x.pin b o e)
  apart := x.apart
  list := fun a xs e => (x.list a xs e).at (hk a (.inr fun f => by rw [f.1] at e; cases e)) s
  dI := fun a d e => (x.dI a d e).at (hk a (.inr fun f => by rw [f.2.1] at e; cases e)) s
  dP := fun a d e => (x.dP a d e).at (hk a (.inr fun f => by rw [f.2.2.1] at e; cases e)) s
  set := fun a S e => (x.set a S e).at (hk a (.inr fun f => by rw [f.2.2.2.1] at e; cases e))
  dd := x.dd
  tab := fun a k e => ⟨(x.tab a k e).1.at (hk a (.inr fun f => by rw [f.2.2.2.2] at e; cases e)) (hk k (.inl (x.tabP e))), (x.tab a k e).2⟩

theorem Sees.get (x : Sees prog w B P σ h) {a : Addr} (ha : (P a).isSome = true ∨ ¬ σ.Fresh a) : ∃ o, h.get? a = some o := by
  rcases ha with ha | ha
  · obtain ⟨o, e⟩ := Option.isSome_iff_exists.mp ha; exact ⟨o, x.pin a o e⟩
  · refine Classical.byContradiction fun hn => ?_
    refine ha ⟨?_, ?_, ?_, ?_, ?_⟩
    · cases e : σ.list a with
      | none => rfl
      | some xs => obtain ⟨o, ho, _⟩ := (x.list a xs e).get; exact absurd ⟨o, ho⟩ hn
    · cases e : σ.dI a with
      | none => rfl
      | some xs => obtain ⟨o, ho, _⟩ := (x.dI a xs e).get; exact absurd ⟨o, ho⟩ hn
    · cases e : σ.dP a with
      | none => rfl
      | some xs => obtain ⟨o, ho, _⟩ := (x.dP a xs e).get; exact absurd ⟨o, ho⟩ hn
    · cases e : σ.set a with
      | none => rfl
      | some xs => obtain ⟨o, ho, _⟩ := (x.set a xs e).get; exact absurd ⟨o, ho⟩ hn
    · cases e : σ.tab a with
      | none => rfl
      | some k => obtain ⟨o, ho, _⟩ := (x.tab a k e).1.get; exact absurd ⟨o, ho⟩ hn

theorem Sees.fresh (x : Sees prog w B P σ h) {a : Addr} (ha : h.get? a = none) : P a = none ∧ σ.Fresh a := by
  have key : ¬ ((P a).isSome = true ∨ ¬ σ.Fresh a) := fun hh => by obtain ⟨o, e⟩ := x.get hh; rw [ha] at e; cases e
  rw [not_or, Classical.not_not] at key
  refine ⟨?_, key.2⟩
  cases e : P a with
  | none => rfl
  | some o => exact absurd (by rw [e]; rfl) key.1

theorem Sees.ext (x : Sees prog w B P σ h) (e : Ext h h') : Sees prog w B P σ h' :=
  x.keep (fun a ha => by obtain ⟨o, ho⟩ := x.get ha; rw [ho, e a o ho]) e.stab

/-- one object that is neither pinned nor known is changed -/
theorem Sees.but (x : Sees prog w B P σ h) {a : Addr} (hs : ∀ b o, b ≠ a → h.get? b = some o → h'.get? b = some o) (hp : P a = none) (hf : σ.Fresh a) (s : Stab h h') : Sees prog w B P σ h' :=
  x.keep (fun b hb => by
    obtain ⟨o, ho⟩ := x.get hb
    have hne : b ≠ a := by rintro rfl; rcases hb with hb | hb; (rw [hp] at hb; cases hb); exact hb hf
    rw [ho, hs b o hne ho]) s

theorem Sees.nw (x : Sees prog w B P σ h) : Nw σ h.objs.size := by
  have hn : h.get? h.objs.size = none := by
    cases e : h.get? h.objs.size with
    | none => rfl
    | some o => exact absurd (Heap.lt_size e) (Nat.lt_irrefl _)
  refine ⟨(x.fresh hn).2, ?_⟩
  obtain ⟨o, ho⟩ := B.stat
  have := Heap.lt_size (x.pin _ _ (x.base _ _ ho))
  have h2 : 2 < h.objs.size := this
  rw [beq_eq_false_iff_ne]
  intro e
  rw [e] at h2
  exact absurd h2 (by decide)
theorem AH.drop_list {σ : AH} {a : Addr} {xs} (e : σ.list a = some xs) : ¬ σ.Fresh a := fun f => by rw [f.1] at e; cases e
theorem Sees.notPinned (x : Sees prog w B P σ h) {a : Addr} (ha : ¬ σ.Fresh a) : P a = none := by
  cases e : P a with
  | none => rfl
  | some o => exact absurd (x.apart a o e) ha

end
end Mine

/-! G2 -/
namespace Mine
section
variable {prog : Program} {w : World} {B : Basis} {P : Pins} {σ : AH} {h h' : Heap}

theorem cls_apart {h : Heap} {a : Addr} {t t' : String} (x : ∃ o, h.get? a = some o ∧ o.cls = .type t) (y : ∃ o, h.get? a = some o ∧ o.cls = .type t') : t = t' := by
  obtain ⟨o, ho, hc⟩ := x
  obtain ⟨o', ho', hc'⟩ := y
  rw [ho] at ho'; cases ho'
  rw [hc] at hc'; cases hc'; rfl
theorem Sees.noTab (x : Sees prog w B P σ h) {a : Addr} {t : String} (g : ∃ o, h.get? a = some o ∧ o.cls = .type t) : σ.tab a = none := by
  cases e : σ.tab a with
  | none => rfl
  | some k =>
    obtain ⟨o, ho, hc⟩ := (x.tab a k e).1.get
    obtain ⟨o', ho', hc'⟩ := g
    rw [ho] at ho'; cases ho'; rw [hc] at hc'; cases hc'
/-- the other kinds at a list's address -/
theorem Sees.onlyL (x : Sees prog w B P σ h) {a xs} (e : σ.list a = some xs) : σ.dI a = none ∧ σ.dP a = none ∧ σ.set a = none ∧ σ.tab a = none := by
  have g := (x.list a xs e).get
  refine ⟨?_, ?_, ?_, x.noTab g⟩
  · cases e' : σ.dI a with
    | none => rfl
    | some d => exact absurd (cls_apart g (x.dI a d e').get) (by decide)
  · cases e' : σ.dP a with
    | none => rfl
    | some d => exact absurd (cls_apart g (x.dP a d e').get) (by decide)
  · cases e' : σ.set a with
    | none => rfl
    | some d => exact absurd (cls_apart g (x.set a d e').get) (by decide)
theorem Sees.onlyS (x : Sees prog w B P σ h) {a S} (e : σ.set a = some S) : σ.list a = none ∧ σ.dI a = none ∧ σ.dP a = none ∧ σ.tab a = none := by
  have g := (x.set a S e).get
  refine ⟨?_, ?_, ?_, x.noTab g⟩
  · cases e' : σ.list a with
    | none => rfl
    | some d => exact absurd (cls_apart g (x.list a d e').get) (by decide)
  · cases e' : σ.dI a with
    | none => rfl
    | some d => exact absurd (cls_apart g (x.dI a d e').get) (by decide)
  · cases e' : σ.dP a with
    | none => rfl
    | some d => exact absurd (cls_apart g (x.dP a d e').get) (by decide)
theorem Sees.onlyD (x : Sees prog w B P σ h) {a d} (e : σ.dI a = some d) : σ.list a = none ∧ σ.dP a = none ∧ σ.set a = none ∧ σ.tab a = none := by
  have g := (x.dI a d e).get
  refine ⟨?_, x.dd a d e, ?_, x.noTab g⟩
  · cases e' : σ.list a with
    | none => rfl
    | some d => exact absurd (cls_apart g (x.list a d e').get) (by decide)
  · cases e' : σ.set a with
    | none => rfl
    | some d => exact absurd (cls_apart g (x.set a d e').get) (by decide)
theorem Sees.onlyP (x : Sees prog w B P σ h) {a d} (e : σ.dP a = some d) : σ.list a = none ∧ σ.dI a = none ∧ σ.set a = none ∧ σ.tab a = none := by
  have g := (x.dP a d e).get
  have hI : σ.dI a = none := by
    cases e' : σ.dI a with
    | none => rfl
    | some d' =>
      have := x.dd a d' e'
      rw [e] at this; cases this
  refine ⟨?_, hI, ?_, x.noTab g⟩
  · cases e' : σ.list a with
    | none => rfl
    | some d => exact absurd (cls_apart g (x.list a d e').get) (by decide)
  · cases e' : σ.set a with
    | none => rfl
    | some d => exact absurd (cls_apart g (x.set a d e').get) (by decide)

theorem extBut_get {a b : Addr} {o : Obj} (hs : Heap.ExtBut a h h') (hb : b ≠ a) (ho : h.get? b = some o) : h'.get? b = h.get? b := by rw [ho]; exact hs b o hb ho

section put
variable {a : Addr} (x : Sees prog w B P σ h) (hs : Heap.ExtBut a h h') (hp : P a = none) (st : Stab h h')
include x hs hp st
theorem Sees.putL {ys : List AV} (hD : σ.dI a = none ∧ σ.dP a = none ∧ σ.set a = none ∧ σ.tab a = none) (hr : LRep h' a ys) : Sees prog w B P (σ.setL a ys) h' where
  base := x.base
  pin := fun b o e => hs b o (by rintro rfl; rw [hp] at e; cases e) (x.pin b o e)
  apart := fun b o e => by
    have hb : b ≠ a := by rintro rfl; rw [hp] at e; cases e
    have f := x.apart b o e
    exact ⟨by simp [AH.setL, hb, f.1], f.2.1, f.2.2.1, f.2.2.2⟩
  list := fun b xs e => by
    by_cases hb : b = a
    · subst hb; simp [AH.setL] at e; subst e; exact hr
    · simp [AH.setL, hb] at e
      obtain ⟨o, ho, _⟩ := (x.list b xs e).get
      exact (x.list b xs e).at (extBut_get hs hb ho) st
  dI := fun b d e => by
    have e2 : σ.dI b = some d := e
    have hb : b ≠ a := by rintro rfl; rw [hD.1] at e2; cases e2
    obtain ⟨o, ho, _⟩ := (x.dI b d e).get
    exact (x.dI b d e).at (extBut_get hs hb ho) st
  dP := fun b d e => by
    have e2 : σ.dP b = some d := e
    have hb : b ≠ a := by rintro rfl; rw [hD.2.1] at e2; cases e2
    obtain ⟨o, ho, _⟩ := (x.dP b d e).get
    exact (x.dP b d e).at (extBut_get hs hb ho) st
  set := fun b d e => by
    have e2 : σ.set b = some d := e
    have hb : b ≠ a := by rintro rfl; rw [hD.2.2.1] at e2; cases e2
    obtain ⟨o, ho, _⟩ := (x.set b d e).get
    exact (x.set b d e).at (extBut_get hs hb ho)

  dd := x.dd
  tab := fun b k e => by
    have e2 : σ.tab b = some k := e
    have hb : b ≠ a := by rintro rfl; rw [hD.2.2.2] at e2; cases e2
    have hk : k ≠ a := by rintro rfl; have := x.tabP e2; rw [hp] at this; cases this
    obtain ⟨o, ho, _⟩ := (x.tab b k e2).1.get
    obtain ⟨o', ho'⟩ := x.get (.inl (x.tabP e2))
    exact ⟨(x.tab b k e2).1.at (extBut_get hs hb ho) (extBut_get hs hk ho'), (x.tab b k e2).2⟩

theorem Sees.putD {d' : DI} (hD : σ.list a = none ∧ σ.dP a = none ∧ σ.set a = none ∧ σ.tab a = none) (hr : DIRep prog w h' a d') : Sees prog w B P (σ.setD a d') h' where
  base := x.base
  pin := fun b o e => hs b o (by rintro rfl; rw [hp] at e; cases e) (x.pin b o e)
  apart := fun b o e => by
    have hb : b ≠ a := by rintro rfl; rw [hp] at e; cases e
    have f := x.apart b o e
    exact ⟨f.1, by simp [AH.setD, hb, f.2.1], f.2.2.1, f.2.2.2⟩
  dI := fun b xs e => by
    by_cases hb : b = a
    · subst hb; simp [AH.setD] at e; subst e; exact hr
    · simp [AH.setD, hb] at e
      obtain ⟨o, ho, _⟩ := (x.dI b xs e).get
      exact (x.dI b xs e).at (extBut_get hs hb ho) st
  list := fun b d e => by
    have e2 : σ.list b = some d := e
    have hb : b ≠ a := by rintro rfl; rw [hD.1] at e2; cases e2
    obtain ⟨o, ho, _⟩ := (x.list b d e).get
    exact (x.list b d e).at (extBut_get hs hb ho) st
  dP := fun b d e => by
    have e2 : σ.dP b = some d := e
    have hb : b ≠ a := by rintro rfl; rw [hD.2.1] at e2; cases e2
    obtain ⟨o, ho, _⟩ := (x.dP b d e).get
    exact (x.dP b d e).at (extBut_get hs hb ho) st
  set := fun b d e => by
    have e2 : σ.set b = some d := e
    have hb : b ≠ a := by rintro rfl; rw [hD.2.2.1] at e2; cases e2
    obtain ⟨o, ho, _⟩ := (x.set b d e).get
    exact (x.set b d e).at (extBut_get hs hb ho)

  dd := fun b d e => by
    by_cases hb : b = a
    · subst hb; exact hD.2.1
    · simp [AH.setD, hb] at e; exact x.dd b d e
  tab := fun b k e => by
    have e2 : σ.tab b = some k := e
    have hb : b ≠ a := by rintro rfl; rw [hD.2.2.2] at e2; cases e2
    have hk : k ≠ a := by rintro rfl; have := x.tabP e2; rw [hp] at this; cases this
    obtain ⟨o, ho, _⟩ := (x.tab b k e2).1.get
    obtain ⟨o', ho'⟩ := x.get (.inl (x.tabP e2))
    exact ⟨(x.tab b k e2).1.at (extBut_get hs hb ho) (extBut_get hs hk ho'), (x.tab b k e2).2⟩

theorem Sees.putP {d' : DP} (hD : σ.list a = none ∧ σ.dI a = none ∧ σ.set a = none ∧ σ.tab a = none) (hr : DPRep prog w h' a d') : Sees prog w B P (σ.setP a d') h' where
  base := x.base
  pin := fun b o e => hs b o (by rintro rfl; rw [hp] at e; cases e) (x.pin b o e)
  apart := fun b o e => by
    have hb : b ≠ a := by rintro rfl; rw [hp] at e; cases e
    have f := x.apart b o e
    exact ⟨f.1, f.2.1, by simp [AH.setP, hb, f.2.2.1], f.2.2.2⟩
  dP := fun b xs e => by
    by_cases hb : b = a
    · subst hb; simp [AH.setP] at e; subst e; exact hr
    · simp [AH.setP, hb] at e
      obtain ⟨o, ho, _⟩ := (x.dP b xs e).get
      exact (x.dP b xs e).at (extBut_get hs hb ho) st
  list := fun b d e => by
    have e2 : σ.list b = some d := e
    have hb : b ≠ a := by rintro rfl; rw [hD.1] at e2; cases e2
    obtain ⟨o, ho, _⟩ := (x.list b d e).get
    exact (x.list b d e).at (extBut_get hs hb ho) st
  dI := fun b d e => by
    have e2 : σ.dI b = some d := e
    have hb : b ≠ a := by rintro rfl; rw [hD.2.1] at e2; cases e2
    obtain ⟨o, ho, _⟩ := (x.dI b d e).get
    exact (x.dI b d e).at (extBut_get hs hb ho) st
  set := fun b d e => by
    have e2 : σ.set b = some d := e
    have hb : b ≠ a := by rintro rfl; rw [hD.2.2.1] at e2; cases e2
    obtain ⟨o, ho, _⟩ := (x.set b d e).get
    exact (x.set b d e).at (extBut_get hs hb ho)

  dd := fun b d e => by
    have e2 : σ.dI b = some d := e
    have hb : b ≠ a := by rintro rfl; rw [hD.2.1] at e2; cases e2
    have := x.dd b d e2
    simp [AH.setP, hb, this]
  tab := fun b k e => by
    have e2 : σ.tab b = some k := e
    have hb : b ≠ a := by rintro rfl; rw [hD.2.2.2] at e2; cases e2
    have hk : k ≠ a := by rintro rfl; have := x.tabP e2; rw [hp] at this; cases this
    obtain ⟨o, ho, _⟩ := (x.tab b k e2).1.get
    obtain ⟨o', ho'⟩ := x.get (.inl (x.tabP e2))
    exact ⟨(x.tab b k e2).1.at (extBut_get hs hb ho) (extBut_get hs hk ho'), (x.tab b k e2).2⟩

theorem Sees.putS {S : Int → Bool} {n : Nat} (hD : σ.list a = none ∧ σ.dI a = none ∧ σ.dP a = none ∧ σ.tab a = none) (hr : SRep prog w h' a (S, n)) : Sees prog w B P (σ.setS a S n) h' where
  base := x.base
  pin := fun b o e => hs b o (by rintro rfl; rw [hp] at e; cases e) (x.pin b o e)
  apart := fun b o e => by
    have hb : b ≠ a := by rintro rfl; rw [hp] at e; cases e
    have f := x.apart b o e
    exact ⟨f.1, f.2.1, f.2.2.1, by simp [AH.setS, hb, f.2.2.2.1], f.2.2.2.2⟩
  set := fun b xs e => by
    by_cases hb : b = a
    · subst hb; simp [AH.setS] at e; subst e; exact hr
    · simp [AH.setS, hb] at e
      obtain ⟨o, ho, _⟩ := (x.set b xs e).get
      exact (x.set b xs e).at (extBut_get hs hb ho)
  list := fun b d e => by
    have e2 : σ.list b = some d := e
    have hb : b ≠ a := by rintro rfl; rw [hD.1] at e2; cases e2
    obtain ⟨o, ho, _⟩ := (x.list b d e).get
    exact (x.list b d e).at (extBut_get hs hb ho) st
  dI := fun b d e => by
    have e2 : σ.dI b = some d := e
    have hb : b ≠ a := by rintro rfl; rw [hD.2.1] at e2; cases e2
    obtain ⟨o, ho, _⟩ := (x.dI b d e).get
    exact (x.dI b d e).at (extBut_get hs hb ho) st
  dP := fun b d e => by
    have e2 : σ.dP b = some d := e
    have hb : b ≠ a := by rintro rfl; rw [hD.2.2.1] at e2; cases e2
    obtain ⟨o, ho, _⟩ := (x.dP b d e).get
    exact (x.dP b d e).at (extBut_get hs hb ho) st
  dd := x.dd
  tab := fun b k e => by
    have e2 : σ.tab b = some k := e
    have hb : b ≠ a := by rintro rfl; rw [hD.2.2.2] at e2; cases e2
    have hk : k ≠ a := by rintro rfl; have := x.tabP e2; rw [hp] at this; cases this
    obtain ⟨o, ho, _⟩ := (x.tab b k e2).1.get
    obtain ⟨o', ho'⟩ := x.get (.inl (x.tabP e2))
    exact ⟨(x.tab b k e2).1.at (extBut_get hs hb ho) (extBut_get hs hk ho'), (x.tab b k e2).2⟩
/-- a table grown -/
theorem Sees.putT {k : Addr} (hT : σ.tab a = some k) (hr : TRep h' a k) : Sees prog w B P σ h' where
  base := x.base
  pin := fun b o e => hs b o (by rintro rfl; rw [hp] at e; cases e) (x.pin b o e)
  apart := x.apart
  list := fun b d e => by
    have hb : b ≠ a := by rintro rfl; rw [(x.onlyL e).2.2.2] at hT; cases hT
    obtain ⟨o, ho, _⟩ := (x.list b d e).get
    exact (x.list b d e).at (extBut_get hs hb ho) st
  dI := fun b d e => by
    have hb : b ≠ a := by rintro rfl; rw [(x.onlyD e).2.2.2] at hT; cases hT
    obtain ⟨o, ho, _⟩ := (x.dI b d e).get
    exact (x.dI b d e).at (extBut_get hs hb ho) st
  dP := fun b d e => by
    have hb : b ≠ a := by rintro rfl; rw [(x.onlyP e).2.2.2] at hT; cases hT
    obtain ⟨o, ho, _⟩ := (x.dP b d e).get
    exact (x.dP b d e).at (extBut_get hs hb ho) st
  set := fun b d e => by
    have hb : b ≠ a := by rintro rfl; rw [(x.onlyS e).2.2.2] at hT; cases hT
    obtain ⟨o, ho, _⟩ := (x.set b d e).get
    exact (x.set b d e).at (extBut_get hs hb ho)
  dd := x.dd
  tab := fun b j e => by
    have hj : j ≠ a := by rintro rfl; have := x.tabP e; rw [hp] at this; cases this
    obtain ⟨o', ho'⟩ := x.get (.inl (x.tabP e))
    refine ⟨?_, (x.tab b j e).2⟩
    by_cases hb : b = a
    · subst hb; rw [hT] at e; cases e; exact hr
    · obtain ⟨o, ho, _⟩ := (x.tab b j e).1.get
      exact (x.tab b j e).1.at (extBut_get hs hb ho) (extBut_get hs hj ho')
end put

/-- a smaller knowledge -/
structure AH.Le (σ τ : AH) : Prop where
  list : ∀ a x, σ.list a = some x → τ.list a = some x
  dI : ∀ a x, σ.dI a = some x → τ.dI a = some x
  dP : ∀ a x, σ.dP a = some x → τ.dP a = some x
  set : ∀ a x, σ.set a = some x → τ.set a = some x
  tab : ∀ a x, σ.tab a = some x → τ.tab a = some x
theorem AH.Le.fresh {σ τ : AH} (l : AH.Le σ τ) {a : Addr} (f : τ.Fresh a) : σ.Fresh a := by
  refine ⟨?_, ?_, ?_, ?_, ?_⟩
  · cases e : σ.list a with
    | none => rfl
    | some x => have := l.list a x e; rw [f.1] at this; cases this
  · cases e : σ.dI a with
    | none => rfl
    | some x => have := l.dI a x e; rw [f.2.1] at this; cases this
  · cases e : σ.dP a with
    | none => rfl
    | some x => have := l.dP a x e; rw [f.2.2.1] at this; cases this
  · cases e : σ.set a with
    | none => rfl
    | some x => have := l.set a x e; rw [f.2.2.2.1] at this; cases this
  · cases e : σ.tab a with
    | none => rfl
    | some x => have := l.tab a x e; rw [f.2.2.2.2] at this; cases this
theorem Sees.weaken {τ : AH} (x : Sees prog w B P τ h) (l : AH.Le σ τ) : Sees prog w B P σ h where
  base := x.base
  pin := x.pin
  apart := fun b o e => l.fresh (x.apart b o e)
  list := fun a y e => x.list a y (l.list a y e)
  dI := fun a y e => x.dI a y (l.dI a y e)
  dP := fun a y e => x.dP a y (l.dP a y e)
  set := fun a y e => x.set a y (l.set a y e)
  tab := fun a y e => x.tab a y (l.tab a y e)
  dd := fun a d e => by
    cases e' : σ.dP a with
    | none => rfl
    | some p => have := x.dd a d (l.dI a d e); rw [l.dP a p e'] at this; cases this

/-- pinning what lies apart -/
noncomputable def pinMore (P : Pins) (h : Heap) (X : Addr → Prop) : Pins := fun b => @ite _ (X b) (Classical.propDecidable _) (h.get? b) (P b)
theorem Sees.pinMore (x : Sees prog w B P σ h) {X : Addr → Prop} (ha : ∀ a, X a → σ.Fresh a) : Sees prog w B (Mine.pinMore P h X) σ h where
  base := fun b o e => by
    have := x.base b o e
    unfold Mine.pinMore
    split
    · exact x.pin b o this
    · exact this
  pin := fun b o e => by
    unfold Mine.pinMore at e
    split at e
    · exact e
    · exact x.pin b o e
  apart := fun b o e => by
    unfold Mine.pinMore at e
    split at e
    · rename_i hm; exact ha b hm
    · exact x.apart b o e
  list := x.list
  dI := x.dI
  dP := x.dP
  set := x.set
  dd := x.dd
  tab := x.tab
/-- and back: fewer pins -/
theorem Sees.unpin {P' : Pins} (x : Sees prog w B P' σ h) (hb : ∀ b o, B.h₀.get? b = some o → P b = some o) (hp : ∀ b o, P b = some o → P' b = some o) : Sees prog w B P σ h where
  base := hb
  pin := fun b o e => x.pin b o (hp b o e)
  apart := fun b o e => x.apart b o (hp b o e)
  list := x.list
  dI := x.dI
  dP := x.dP
  set := x.set
  dd := x.dd
  tab := x.tab
theorem pinMore_sub (x : Sees prog w B P σ h) {X : Addr → Prop} : ∀ b o, P b = some o → pinMore P h X b = some o := fun b o e => by
  unfold pinMore
  split
  · exact x.pin b o e
  · exact e
end
end Mine

/-! G3 -/
namespace Mine

def NoE : Value → Shared → Prop := fun _ _ => False

structure Cx where
  A : Around
  B : Basis
  P : Pins
  env : Env
  wr : Str → Bool

abbrev Rho := List (Str × AV)

section
variable (prog : Program) (w : World)

structure FrOK (B : Basis) (P : Pins) (σ : AH) (env : Env) (ρ : Rho) (wr : Str → Bool) (h : Heap) : Prop where
  kind : env.scope.kind = .function
  glob : env.globals = mainGlobals
  bltn : env.builtins = builtinsNs
  ns : ∃ m, h.Ns env.locals m ∧ ∀ x, env.kindOf x = some .local → OR h (m x) (ρ.lookup x)
  cell : ∀ x, (env.kindOf x = some .cell ∨ env.kindOf x = some .free) → ∃ c v, env.cells.lookup x = some c ∧ h.IsCell c v ∧ OR h v (ρ.lookup x)
  freeL : σ.Fresh env.locals ∧ P env.locals = none
  freeC : ∀ x c, env.cells.lookup x = some c → σ.Fresh c ∧ (wr x = true → P c = none)
  cellC : ∀ x c, env.cells.lookup x = some c → ∃ v, h.IsCell c v
  inj : ∀ x y c, wr x = true → env.cells.lookup x = some c → env.cells.lookup y = some c → x = y

structure Core (B : Basis) (P : Pins) (σ : AH) (s : Shared) : Prop where
  sees : Sees prog w B P σ s.heap
  os : s.os = B.os
  gens : AllBare s.gens

structure St (c : Cx) (ρ : Rho) (σ : AH) (s : Shared) : Prop extends Core prog w c.B c.P σ s where
  fr : FrOK c.B c.P σ c.env ρ c.wr s.heap

/-- what only allocates -/
structure Pu (s s' : Shared) : Prop where
  ext : Ext s.heap s'.heap
  os : s'.os = s.os
  gens : AllBare s.gens → AllBare s'.gens
/-- what a pure evaluation may do -/
structure Pv (c : Cx) (ρ : Rho) (σ : AH) (s s' : Shared) : Prop where
  st : St prog w c ρ σ s'
  stab : Stab s.heap s'.heap

def PEt (c : Cx) (ρ : Rho) (σ : AH) (t : Sem Value) (av : AV) : Prop :=
  ∀ s, St prog w c ρ σ s → wpAny (model prog w) c.A t (fun v s' => VR s'.heap v av ∧ Pv prog w c ρ σ s s') NoE s
def PE (c : Cx) (ρ : Rho) (σ : AH) (e : Expr) (av : AV) : Prop := PEt prog w c ρ σ (eval e c.env) av
/-- a pure test -/
def PTt (c : Cx) (ρ : Rho) (σ : AH) (t : Sem Bool) (b : Bool) : Prop :=
  ∀ s, St prog w c ρ σ s → wpAny (model prog w) c.A t (fun v s' => v = b ∧ Pv prog w c ρ σ s s') NoE s
def PT (c : Cx) (ρ : Rho) (σ : AH) (e : Expr) (b : Bool) : Prop := PTt prog w c ρ σ (isTrue e c.env (eval e c.env)) b

/-- an evaluation that acts -/
def EVt (c : Cx) (ρ : Rho) (σ : AH) (t : Sem Value) (Q : AV → AH → Prop) : Prop :=
  ∀ s, St prog w c ρ σ s → wpAny (model prog w) c.A t (fun v s' => ∃ av σ', VR s'.heap v av ∧ St prog w c ρ σ' s' ∧ Stab s.heap s'.heap ∧ Q av σ') NoE s
def EV (c : Cx) (ρ : Rho) (σ : AH) (e : Expr) (Q : AV → AH → Prop) : Prop := EVt prog w c ρ σ (eval e c.env) Q

inductive AF where
  | next | brk | cont | ret (v : AV)

inductive FR (h : Heap) : Flow → AF → Prop
  | next : FR h .next .next
  | brk : FR h .brk .brk
  | cont : FR h .cont .cont
  | ret {v a} : VR h v a → FR h (.ret v) (.ret a)

def SXt (c : Cx) (ρ : Rho) (σ : AH) (t : Sem Flow) (Q : AF → Rho → AH → Prop) : Prop :=
  ∀ s, St prog w c ρ σ s → wpAny (model prog w) c.A t (fun f s' => ∃ af ρ' σ', FR s'.heap f af ∧ St prog w c ρ' σ' s' ∧ Stab s.heap s'.heap ∧ Q af ρ' σ') NoE s
def S1 (c : Cx) (ρ : Rho) (σ : AH) (st : Stmt) (Q : AF → Rho → AH → Prop) : Prop := SXt prog w c ρ σ (exec st c.env) Q
def SX (c : Cx) (ρ : Rho) (σ : AH) (ss : List Stmt) (Q : AF → Rho → AH → Prop) : Prop := SXt prog w c ρ σ (execs ss c.env) Q
end

section
variable {prog : Program} {w : World} {c : Cx} {ρ : Rho} {σ : AH} {s s' : Shared}

theorem FrOK.stab {B P env wr} {h h' : Heap} (x : FrOK B P σ env ρ wr h) (hk : ∀ a, a = env.locals ∨ (∃ y, env.cells.lookup y = some a) → h'.get? a = h.get? a) (st : Stab h h') : FrOK B P σ env ρ wr h' where
  kind := x.kind
  glob := x.glob
  bltn := x.bltn
  ns := by
    obtain ⟨m, ⟨o, es, ep, ho, r⟩, hm⟩ := x.ns
    exact ⟨m, ⟨o, es, ep, (hk _ (.inl rfl)).trans ho, r⟩, fun y hy => (hm y hy).stab st⟩
  cell := fun y hy => by
    obtain ⟨a, v, ha, ⟨o, ho, hd⟩, hv⟩ := x.cell y hy
    exact ⟨a, v, ha, ⟨o, (hk _ (.inr ⟨y, ha⟩)).trans ho, hd⟩, hv.stab st⟩
  freeL := x.freeL
  freeC := x.freeC
  cellC := fun y a ha => by
    obtain ⟨v, o, ho, hd⟩ := x.cellC y a ha
    exact ⟨v, o, (hk _ (.inr ⟨y, ha⟩)).trans ho, hd⟩
  inj := x.inj

theorem FrOK.get {B P env wr} {h : Heap} (x : FrOK B P σ env ρ wr h) {a : Addr} (ha : a = env.locals ∨ (∃ y, env.cells.lookup y = some a)) : ∃ o, h.get? a = some o := by
  rcases ha with rfl | ⟨y, hy⟩
  · obtain ⟨m, ⟨o, es, ep, ho, r⟩, hm⟩ := x.ns; exact ⟨o, ho⟩
  · obtain ⟨v, o, ho, hd⟩ := x.cellC y a hy; exact ⟨o, ho⟩
theorem FrOK.ext {B P env wr} {h h' : Heap} (x : FrOK B P σ env ρ wr h) (e : Ext h h') : FrOK B P σ env ρ wr h' :=
  x.stab (fun a ha => by obtain ⟨o, ho⟩ := x.get ha; rw [ho, e a o ho]) e.stab
theorem FrOK.freeA {B P env wr} {h : Heap} (x : FrOK B P σ env ρ wr h) {a : Addr} (ha : a = env.locals ∨ (∃ y, env.cells.lookup y = some a)) : σ.Fresh a := by
  rcases ha with rfl | ⟨y, hy⟩
  · exact x.freeL.1
  · exact (x.freeC y a hy).1
/-- the frame when the known objects change -/
theorem FrOK.put {B P env wr} {h h' : Heap} {σ' : AH} {a : Addr} (x : FrOK B P σ env ρ wr h) (hs : Heap.ExtBut a h h') (ha : ¬ (a = env.locals ∨ (∃ y, env.cells.lookup y = some a))) (st : Stab h h')
    (hf : ∀ b, b ≠ a → σ.Fresh b → σ'.Fresh b) : FrOK B P σ' env ρ wr h' where
  kind := x.kind
  glob := x.glob
  bltn := x.bltn
  ns := (x.stab (h' := h') (fun b hb => by obtain ⟨o, ho⟩ := x.get hb; rw [ho]; exact hs b o (by rintro rfl; exact ha hb) ho) st).ns
  cell := (x.stab (h' := h') (fun b hb => by obtain ⟨o, ho⟩ := x.get hb; rw [ho]; exact hs b o (by rintro rfl; exact ha hb) ho) st).cell
  freeL := ⟨hf _ (fun e => ha (.inl e.symm)) x.freeL.1, x.freeL.2⟩
  freeC := fun y b hb => ⟨hf _ (by rintro rfl; exact ha (.inr ⟨y, hb⟩)) (x.freeC y b hb).1, (x.freeC y b hb).2⟩
  cellC := (x.stab (h' := h') (fun b hb => by obtain ⟨o, ho⟩ := x.get hb; rw [ho]; exact hs b o (by rintro rfl; exact ha hb) ho) st).cellC
  inj := x.inj

/-- less known of the variables -/
def RLe (ρ ρ' : Rho) : Prop := ∀ x a, ρ.lookup x = some a → ρ'.lookup x = some a
theorem OR.le {h : Heap} {v : Option Value} {a b : Option AV} (x : OR h v b) (hl : ∀ y, a = some y → b = some y) : OR h v a := by
  cases a with
  | none => trivial
  | some y => rw [hl y rfl] at x; exact x
theorem FrOK.weaken {B P env wr} {h : Heap} {ρ' : Rho} (x : FrOK B P σ env ρ' wr h) (l : RLe ρ ρ') : FrOK B P σ env ρ wr h where
  kind := x.kind
  glob := x.glob
  bltn := x.bltn
  ns := let ⟨m, hn, hm⟩ := x.ns; ⟨m, hn, fun y hy => (hm y hy).le (l y)⟩
  cell := fun y hy => let ⟨a, v, h1, h2, h3⟩ := x.cell y hy; ⟨a, v, h1, h2, h3.le (l y)⟩
  freeL := x.freeL
  freeC := x.freeC
  cellC := x.cellC
  inj := x.inj
theorem FrOK.less {B P env wr} {h : Heap} {σ' : AH} (x : FrOK B P σ' env ρ wr h) (l : AH.Le σ σ') : FrOK B P σ env ρ wr h where
  kind := x.kind
  glob := x.glob
  bltn := x.bltn
  ns := x.ns
  cell := x.cell
  freeL := ⟨l.fresh x.freeL.1, x.freeL.2⟩
  freeC := fun y b hb => ⟨l.fresh (x.freeC y b hb).1, (x.freeC y b hb).2⟩
  cellC := x.cellC
  inj := x.inj

theorem St.weaken {ρ' : Rho} {σ' : AH} (x : St prog w c ρ' σ' s) (l : RLe ρ ρ') (l' : AH.Le σ σ') : St prog w c ρ σ s :=
  ⟨⟨x.sees.weaken l', x.os, x.gens⟩, (x.fr.weaken l).less l'⟩
theorem AH.Le.refl (σ : AH) : AH.Le σ σ := ⟨fun _ _ e => e, fun _ _ e => e, fun _ _ e => e, fun _ _ e => e, fun _ _ e => e⟩
theorem AH.Le.trans {a b c : AH} (x : AH.Le a b) (y : AH.Le b c) : AH.Le a c :=
  ⟨fun _ _ e => y.list _ _ (x.list _ _ e), fun _ _ e => y.dI _ _ (x.dI _ _ e), fun _ _ e => y.dP _ _ (x.dP _ _ e), fun _ _ e => y.set _ _ (x.set _ _ e), fun _ _ e => y.tab _ _ (x.tab _ _ e)⟩
theorem RLe.refl (ρ : Rho) : RLe ρ ρ := fun _ _ e => e

theorem St.pu (x : St prog w c ρ σ s) (p : Pu s s') : St prog w c ρ σ s' :=
  ⟨⟨x.sees.ext p.ext, p.os.trans x.os, p.gens x.gens⟩, x.fr.ext p.ext⟩
theorem Core.pu {B P} (x : Core prog w B P σ s) (p : Pu s s') : Core prog w B P σ s' :=
  ⟨x.sees.ext p.ext, p.os.trans x.os, p.gens x.gens⟩
theorem Pu.refl (s : Shared) : Pu s s := ⟨.refl _, rfl, id⟩
theorem Pu.trans {a b c : Shared} (x : Pu a b) (y : Pu b c) : Pu a c := ⟨x.ext.trans y.ext, y.os.trans x.os, fun g => y.gens (x.gens g)⟩
theorem Pu.toks (s : Shared) (t : Nat) : Pu s { s with toks := t } := ⟨.refl _, rfl, id⟩
theorem Pu.push (s : Shared) (o : Obj) : Pu s { s with heap := s.heap.push o } := ⟨Ext.push _ _, rfl, id⟩
theorem St.pv (x : St prog w c ρ σ s) (p : Pu s s') : Pv prog w c ρ σ s s' := ⟨x.pu p, p.ext.stab⟩
theorem Pv.refl (x : St prog w c ρ σ s) : Pv prog w c ρ σ s s := ⟨x, .refl _⟩
theorem Pv.trans {a b d : Shared} (x : Pv prog w c ρ σ a b) (y : Pv prog w c ρ σ b d) : Pv prog w c ρ σ a d := ⟨y.st, x.stab.trans y.stab⟩
theorem Pv.toks (x : St prog w c ρ σ s) (t : Nat) : Pv prog w c ρ σ s { s with toks := t } := x.pv (.toks _ _)
theorem Pv.push (x : St prog w c ρ σ s) (o : Obj) : Pv prog w c ρ σ s { s with heap := s.heap.push o } := x.pv (.push _ _)
theorem Pu.of {h : Heap} {t : Nat} (e : Ext s.heap h) : Pu s { s with heap := h, toks := t } := ⟨e, rfl, id⟩

/-! ### names -/
def isVar (env : Env) (x : Str) : Bool := match env.kindOf x with
  | some .local | some .cell | some .free => true
  | _ => false

theorem FrOK.load {B P env wr} {A : Around} {x : Str} {av : AV} {Q : Value → Shared → Prop} (X : FrOK B P σ env ρ wr s.heap) (hx : ρ.lookup x = some av) (hv : isVar env x = true)
    (hd : (x == ("__classdict__" : Str)) = false) (h : ∀ v, VR s.heap v av → Q v s) : wpAny (model prog w) A (loadName env x) Q NoE s := by
  unfold isVar at hv
  split at hv
  · rename_i hk
    obtain ⟨m, hn, hm⟩ := X.ns
    have := hm x hk
    rw [hx] at this
    obtain ⟨u, hu, hr⟩ := this
    exact wpAny_loadName_local X.kind hk hn hu (h u hr)
  · rename_i hk
    obtain ⟨a, v, ha, hc, hv'⟩ := X.cell x (.inl hk)
    rw [hx] at hv'
    obtain ⟨u, rfl, hr⟩ := hv'
    exact wpAny_loadName_cell X.kind hk ha hc (h u hr)
  · rename_i hk
    obtain ⟨a, v, ha, hc, hv'⟩ := X.cell x (.inr hk)
    rw [hx] at hv'
    obtain ⟨u, rfl, hr⟩ := hv'
    exact wpAny_loadName_free X.kind hk ha hc (h u hr) hd
  · cases hv

theorem PE.name {x : Str} {pos : Pos} {av : AV} (hx : ρ.lookup x = some av) (hv : isVar c.env x = true := by rfl)
    (hd : (x == ("__classdict__" : Str)) = false := by decide) (hd' : (x == ("__debug__" : Str)) = false := by decide) : PE prog w c ρ σ (.Name x pos) av := fun s S =>
  wpAny_Name (S.fr.load hx hv hd fun v hr => ⟨hr, .refl S⟩) hd'

structure Basis.OK (B : Basis) : Prop where
  g : B.h₀.Ns mainGlobals B.mg
  b : B.h₀.Ns builtinsNs B.mb
  nolimit : B.h₀.NoLimit
  bmod : ∃ bm ob, BMod B.h₀ mainGlobals B.mg bm ob

theorem Sees.keeps {B P} {h : Heap} (x : Sees prog w B P σ h) : ∀ b o, B.h₀.get? b = some o → h.get? b = some o := fun b o e => x.pin b o (x.base b o e)

theorem PE.global {x : Str} {pos : Pos} {v : Value} (hB : c.B.OK) (hx : c.B.mg x = some v) (hv : c.env.kindOf x = some .globalImplicit := by rfl)
    (hd' : (x == ("__debug__" : Str)) = false := by decide) : PE prog w c ρ σ (.Name x pos) (.val v) := fun s S => by
  refine Calls.Name_function_global S.fr.kind hv ?_ hd'
  exact Calls.loadGlobal_global (S.fr.glob ▸ hB.g.keeps S.sees.keeps) hx ⟨.val v, .refl S⟩
theorem PE.builtin {x : Str} {pos : Pos} {v : Value} (hB : c.B.OK) (hx : c.B.mg x = none) (hx' : c.B.mb x = some v) (hv : c.env.kindOf x = some .globalImplicit := by rfl)
    (hd' : (x == ("__debug__" : Str)) = false := by decide) : PE prog w c ρ σ (.Name x pos) (.val v) := fun s S => by
  refine Calls.Name_function_global S.fr.kind hv ?_ hd'
  exact Calls.loadGlobal_builtin (S.fr.glob ▸ hB.g.keeps S.sees.keeps) hx (S.fr.bltn ▸ hB.b.keeps S.sees.keeps) hx' ⟨.val v, .refl S⟩

theorem PE.int {i : Int} {k pos} : PE prog w c ρ σ (.Constant (.int i) k pos) (.int i) := fun s S => wpAny_Constant_int ⟨.int _ _, .toks S _⟩
theorem PE.bool {b : Bool} {k pos} : PE prog w c ρ σ (.Constant (.bool b) k pos) (.bool b) := fun s S => wpAny_pure ⟨.bool _, .refl S⟩
theorem PE.none {k pos} : PE prog w c ρ σ (.Constant .none k pos) .none := fun s S => wpAny_pure ⟨.none, .refl S⟩

/-! ### statements: the frame of the logic -/
theorem SXt.mono {t : Sem Flow} {Q Q' : AF → Rho → AH → Prop} (h : SXt prog w c ρ σ t Q) (hq : ∀ f ρ' σ', Q f ρ' σ' → Q' f ρ' σ') : SXt prog w c ρ σ t Q' := fun s S =>
  wpAny_mono (h s S) (fun f s' ⟨af, ρ', σ', a, b, c, d⟩ => ⟨af, ρ', σ', a, b, c, hq _ _ _ d⟩) fun _ _ e => e
theorem SXt.weaken {ρ₀ : Rho} {σ₀ : AH} {t : Sem Flow} {Q : AF → Rho → AH → Prop} (h : SXt prog w c ρ₀ σ₀ t Q) (l : RLe ρ₀ ρ) (l' : AH.Le σ₀ σ) : SXt prog w c ρ σ t Q := fun s S => h s (S.weaken l l')
theorem SX.nil {Q : AF → Rho → AH → Prop} (h : Q .next ρ σ) : SX prog w c ρ σ [] Q := fun s S => wpAny_pure ⟨.next, ρ, σ, .next, S, .refl _, h⟩
theorem SX.cons {st : Stmt} {rest : List Stmt} {Q : AF → Rho → AH → Prop}
    (h : S1 prog w c ρ σ st (fun f ρ' σ' => match f with | .next => SX prog w c ρ' σ' rest Q | f => Q f ρ' σ')) : SX prog w c ρ σ (st :: rest) Q := fun s S => by
  refine wpAny_execs_cons (wpAny_mono (h s S) (fun f s' h' => ?_) fun _ _ e => e)
  obtain ⟨af, ρ', σ', hf, S', st', q⟩ := h'
  cases hf with
  | next =>
    refine wpAny_mono (q s' S') (fun f s'' h'' => ?_) fun _ _ e => e
    obtain ⟨af, ρ'', σ'', hf, S'', st'', q'⟩ := h''
    exact ⟨af, ρ'', σ'', hf, S'', st'.trans st'', q'⟩
  | brk => exact ⟨.brk, ρ', σ', .brk, S', st', q⟩
  | cont => exact ⟨.cont, ρ', σ', .cont, S', st', q⟩
  | ret hr => exact ⟨.ret _, ρ', σ', .ret hr, S', st', q⟩
theorem EVt.mono {t : Sem Value} {Q Q' : AV → AH → Prop} (h : EVt prog w c ρ σ t Q) (hq : ∀ f σ', Q f σ' → Q' f σ') : EVt prog w c ρ σ t Q' := fun s S =>
  wpAny_mono (h s S) (fun f s' ⟨af, σ', a, b, c, d⟩ => ⟨af, σ', a, b, c, hq _ _ d⟩) fun _ _ e => e
theorem PEt.ev {t : Sem Value} {av : AV} {Q : AV → AH → Prop} (h : PEt prog w c ρ σ t av) (q : Q av σ) : EVt prog w c ρ σ t Q := fun s S =>
  wpAny_mono (h s S) (fun _ _ ⟨hr, p⟩ => ⟨av, σ, hr, p.st, p.stab, q⟩) fun _ _ e => e
theorem PE.ev {e : Expr} {av : AV} {Q : AV → AH → Prop} (h : PE prog w c ρ σ e av) (q : Q av σ) : EV prog w c ρ σ e Q := PEt.ev h q

theorem S1.pass {pos} {Q : AF → Rho → AH → Prop} (h : Q .next ρ σ) : S1 prog w c ρ σ (.Pass pos) Q := fun s S => wpAny_Pass ⟨.next, ρ, σ, .next, S, .refl _, h⟩
theorem S1.brk {pos} {Q : AF → Rho → AH → Prop} (h : Q .brk ρ σ) : S1 prog w c ρ σ (.Break pos) Q := fun s S => by
  show wpAny _ _ (standAt pos >>= fun _ => pure Flow.brk) _ _ s
  exact wpAny_bind (wpAny_standAt (wpAny_pure ⟨.brk, ρ, σ, .brk, S, .refl _, h⟩))
theorem S1.cont {pos} {Q : AF → Rho → AH → Prop} (h : Q .cont ρ σ) : S1 prog w c ρ σ (.Continue pos) Q := fun s S => by
  show wpAny _ _ (standAt pos >>= fun _ => pure Flow.cont) _ _ s
  exact wpAny_bind (wpAny_standAt (wpAny_pure ⟨.cont, ρ, σ, .cont, S, .refl _, h⟩))
theorem S1.ret {e : Expr} {pos} {Q : AF → Rho → AH → Prop} (h : EV prog w c ρ σ e (fun v σ' => Q (.ret v) ρ σ')) : S1 prog w c ρ σ (.Return (some e) pos) Q := fun s S => by
  refine wpAny_Return_some (wpAny_mono (h s S) (fun v s' h' => ?_) fun _ _ e => e)
  obtain ⟨av, σ', hr, S', st, q⟩ := h'
  exact ⟨.ret av, ρ, σ', .ret hr, S', st, q⟩
theorem S1.ite {test : Expr} {body orelse : List Stmt} {pos} {b : Bool} {Q : AF → Rho → AH → Prop} (ht : PT prog w c ρ σ test b)
    (h : if b = true then SX prog w c ρ σ body Q else SX prog w c ρ σ orelse Q) : S1 prog w c ρ σ (.If test body orelse pos) Q := fun s S => by
  refine wpAny_If (wpAny_mono (ht s S) (fun v s' h' => ?_) fun _ _ e => e)
  obtain ⟨rfl, p⟩ := h'
  have S' := p.st
  cases v with
  | true =>
    simp only [if_true] at h ⊢
    exact wpAny_mono (h s' S') (fun f s'' ⟨af, ρ', σ', a, b, c, d⟩ => ⟨af, ρ', σ', a, b, p.stab.trans c, d⟩) fun _ _ e => e
  | false =>
    simp only [Bool.false_eq_true, if_false] at h ⊢
    exact wpAny_mono (h s' S') (fun f s'' ⟨af, ρ', σ', a, b, c, d⟩ => ⟨af, ρ', σ', a, b, p.stab.trans c, d⟩) fun _ _ e => e
end
end Mine

/-! G4 -/
namespace Mine
section
variable {prog : Program} {w : World} {c : Cx} {ρ : Rho} {σ : AH} {s s' : Shared}

theorem PE.one {e : Expr} {a : AV} {R : Value → Shared → Prop} (S : St prog w c ρ σ s) (h1 : PE prog w c ρ σ e a)
    (k : ∀ u s₁, St prog w c ρ σ s₁ → Pv prog w c ρ σ s s₁ → VR s₁.heap u a → R u s₁) : wpAny (model prog w) c.A (eval e c.env) R NoE s :=
  wpAny_mono (h1 s S) (fun u s₁ ⟨hr, p⟩ => k u s₁ p.st p hr) fun _ _ e => e
theorem PE.two {e1 e2 : Expr} {a b : AV} {R : Value → Value → Shared → Prop} (S : St prog w c ρ σ s) (h1 : PE prog w c ρ σ e1 a) (h2 : PE prog w c ρ σ e2 b)
    (k : ∀ u v s₂, St prog w c ρ σ s₂ → Pv prog w c ρ σ s s₂ → VR s₂.heap u a → VR s₂.heap v b → R u v s₂) :
    wpAny (model prog w) c.A (eval e1 c.env) (fun u s₁ => wpAny (model prog w) c.A (eval e2 c.env) (fun v s₂ => R u v s₂) NoE s₁) NoE s :=
  wpAny_mono (h1 s S) (fun u s₁ ⟨hr, p⟩ => wpAny_mono (h2 s₁ p.st) (fun v s₂ ⟨hr2, p2⟩ => k u v s₂ p2.st (p.trans p2) (hr.stab p2.stab) hr2) fun _ _ e => e) fun _ _ e => e

theorem VR.int_inv {h : Heap} {v : Value} {i : Int} (x : VR h v (.int i)) : ∃ t, v = .int i t := by cases x; exact ⟨_, rfl⟩
theorem VR.ref_inv {h : Heap} {v : Value} {a : Addr} (x : VR h v (.ref a)) : v = .ref a := by cases x; rfl
theorem VR.bool_inv {h : Heap} {v : Value} {b : Bool} (x : VR h v (.bool b)) : v = .bool b := by cases x; rfl
theorem VR.none_inv {h : Heap} {v : Value} (x : VR h v .none) : v = .none := by cases x; rfl
theorem VR.val_inv {h : Heap} {v u : Value} (x : VR h v (.val u)) : v = u := by cases x; rfl
theorem VR.pair_inv {h : Heap} {v : Value} {p q : AV} (x : VR h v (.pair p q)) : ∃ a o u1 u2 n, v = .ref a ∧ h.get? a = some o ∧ o.cls = .type "tuple" ∧ o.data = .seq #[u1, u2] n ∧ VR h u1 p ∧ VR h u2 q := by
  cases x with | pair h1 h2 h3 h4 h5 => exact ⟨_, _, _, _, _, rfl, h1, h2, h3, h4, h5⟩

/-! ### ints -/
theorem PE.binop {l r : Expr} {op : Operator} {pos : Pos} {a b f : Int} (hl : PE prog w c ρ σ l (.int a)) (hr : PE prog w c ρ σ r (.int b))
    (hop : ∀ (s : Shared) (t u : Tok) (Q : Value → Shared → Prop), Q (.int f s.toks) { s with toks := s.toks + 1 } → wpAny (model prog w) c.A (binaryOp op (.int a t) (.int b u)) Q NoE s) :
    PE prog w c ρ σ (.BinOp l op r pos) (.int f) := fun s S => by
  refine wpAny_BinOp (PE.two S hl hr fun u v s₂ S₂ p hu hv => ?_)
  obtain ⟨t, rfl⟩ := hu.int_inv
  obtain ⟨t', rfl⟩ := hv.int_inv
  exact hop s₂ t t' _ ⟨.int _ _, p.trans (.toks S₂ _)⟩
theorem PE.add {l r : Expr} {pos : Pos} {a b : Int} (hl : PE prog w c ρ σ l (.int a)) (hr : PE prog w c ρ σ r (.int b)) : PE prog w c ρ σ (.BinOp l .Add r pos) (.int (a + b)) :=
  hl.binop hr fun s t u Q q => add_int q
theorem PE.sub {l r : Expr} {pos : Pos} {a b : Int} (hl : PE prog w c ρ σ l (.int a)) (hr : PE prog w c ρ σ r (.int b)) : PE prog w c ρ σ (.BinOp l .Sub r pos) (.int (a - b)) :=
  hl.binop hr fun s t u Q q => sub_int q
theorem PE.mul {l r : Expr} {pos : Pos} {a b : Int} (hl : PE prog w c ρ σ l (.int a)) (hr : PE prog w c ρ σ r (.int b)) (hm : IntMulOk a b) : PE prog w c ρ σ (.BinOp l .Mult r pos) (.int (a * b)) :=
  hl.binop hr fun s t u Q q => mul_int q hm
theorem PE.mod {l r : Expr} {pos : Pos} {a b : Int} (hl : PE prog w c ρ σ l (.int a)) (hr : PE prog w c ρ σ r (.int b)) (hb : 0 < b) : PE prog w c ρ σ (.BinOp l .Mod r pos) (.int (a % b)) :=
  hl.binop hr fun s t u Q q => mod_int (Int.ne_of_gt hb) (by rw [Int.fmod_eq_emod_of_nonneg _ (Int.le_of_lt hb)]; exact q)
theorem PE.fdiv {l r : Expr} {pos : Pos} {a b : Int} (hl : PE prog w c ρ σ l (.int a)) (hr : PE prog w c ρ σ r (.int b)) (hb : 0 < b)
    (hp : Builtin.divisionGoesByPylong a b = false) : PE prog w c ρ σ (.BinOp l .FloorDiv r pos) (.int (a / b)) :=
  hl.binop hr fun s t u Q q => floordiv_int (Int.ne_of_gt hb) (by rw [Int.fdiv_eq_ediv_of_nonneg _ (Int.le_of_lt hb)]; exact q) (Or.inl hp)

/-! ### comparisons -/
/-- a pure comparison of two values -/
def CP (prog : Program) (w : World) (c : Cx) (ρ : Rho) (σ : AH) (op : CmpOp) (a b : AV) (r : Bool) : Prop :=
  ∀ s u v, St prog w c ρ σ s → VR s.heap u a → VR s.heap v b → wpAny (model prog w) c.A (compareOp op u v) (fun x s' => x = .bool r ∧ Pv prog w c ρ σ s s') NoE s
theorem PT.cmp {l r : Expr} {op : CmpOp} {pos : Pos} {a b : AV} {z : Bool} (hl : PE prog w c ρ σ l a) (hr : PE prog w c ρ σ r b) (hc : CP prog w c ρ σ op a b z)
    (hm : behindInMarks op r = false := by with_unfolding_all rfl) : PT prog w c ρ σ (.Compare l [op] [r] pos) z := fun s S => by
  refine wpAny_isTrue_Compare1 (hm := hm) ?_
  refine PE.two S hl hr fun u v s₂ S₂ p hu hv => ?_
  refine wpAny_mono (hc s₂ u v S₂ hu hv) (fun x s₃ ⟨e, p₃⟩ => ?_) fun _ _ e => e
  subst e
  exact wpAny_truthy_bool ⟨rfl, p.trans p₃⟩
theorem PE.cmp {l r : Expr} {op : CmpOp} {pos : Pos} {a b : AV} {z : Bool} (hl : PE prog w c ρ σ l a) (hr : PE prog w c ρ σ r b) (hc : CP prog w c ρ σ op a b z)
    (hm : behindInMarks op r = false := by with_unfolding_all rfl) : PE prog w c ρ σ (.Compare l [op] [r] pos) (.bool z) := fun s S => by
  refine wpAny_Compare1 (hm := hm) (PE.two S hl hr fun u v s₂ S₂ p hu hv => ?_)
  exact wpAny_mono (hc s₂ u v S₂ hu hv) (fun x s₃ ⟨e, p₃⟩ => by subst e; exact ⟨.bool _, p.trans p₃⟩) fun _ _ e => e
end
end Mine

/-! G5 -/
namespace Mine

def Rm (A : Around) (n : Nat) : Prop := A.handled = none ∧ A.depth + n ≤ 900 ∧ A.units + 100 * n ≤ 9000
theorem Rm.mono {A : Around} {n m : Nat} (x : Rm A n) (h : m ≤ n) : Rm A m := ⟨x.1, by have := x.2.1; omega, by have := x.2.2; omega⟩
theorem Rm.in1 {A : Around} {n : Nat} (x : Rm A (n + 1)) : Rm A.in1 n := ⟨x.1, by have := x.2.1; show A.depth + n ≤ 900; omega, by have := x.2.2; show A.units + 1 + 100 * n ≤ 9000; omega⟩
theorem Rm.room {A : Around} {n : Nat} (x : Rm A n) : A.depth < recursionLimit := by have := x.2.1; show A.depth < 1000; omega
theorem Rm.units {A : Around} {n : Nat} (x : Rm A n) (k : Nat) (hk : k ≤ 800) : A.units + k < cLine := by have := x.2.2; show A.units + k < 9900; omega
theorem Rm.deeper {A : Around} {n : Nat} {env : Env} (x : Rm A (n + 1)) : Rm (A.deeper env) n := ⟨x.1, by have := x.2.1; show A.depth + 1 + n ≤ 900; omega, by have := x.2.2; show A.units + 3 + 100 * n ≤ 9000; omega⟩

section
variable {prog : Program} {w : World} {c : Cx} {ρ : Rho} {σ : AH} {s s' : Shared}

/-! ### comparisons of ints, is None -/
theorem CP.lt {a b : Int} : CP prog w c ρ σ .Lt (.int a) (.int b) (decide (a < b)) := fun s u v S hu hv => by
  obtain ⟨t, rfl⟩ := hu.int_inv; obtain ⟨t', rfl⟩ := hv.int_inv
  exact lt_int ⟨rfl, .refl S⟩
theorem CP.gt {a b : Int} : CP prog w c ρ σ .Gt (.int a) (.int b) (decide (b < a)) := fun s u v S hu hv => by
  obtain ⟨t, rfl⟩ := hu.int_inv; obtain ⟨t', rfl⟩ := hv.int_inv
  exact gt_int ⟨rfl, .refl S⟩
theorem CP.ge {a b : Int} : CP prog w c ρ σ .GtE (.int a) (.int b) (decide (b ≤ a)) := fun s u v S hu hv => by
  obtain ⟨t, rfl⟩ := hu.int_inv; obtain ⟨t', rfl⟩ := hv.int_inv
  exact ge_int ⟨rfl, .refl S⟩
theorem CP.eq {a b : Int} : CP prog w c ρ σ .Eq (.int a) (.int b) (decide (a = b)) := fun s u v S hu hv => by
  obtain ⟨t, rfl⟩ := hu.int_inv; obtain ⟨t', rfl⟩ := hv.int_inv
  exact eq_int ⟨by rw [Value.bool.injEq]; exact Bool.beq_eq_decide_eq a b, .refl S⟩
theorem CP.ne {a b : Int} : CP prog w c ρ σ .NotEq (.int a) (.int b) (!decide (a = b)) := fun s u v S hu hv => by
  obtain ⟨t, rfl⟩ := hu.int_inv; obtain ⟨t', rfl⟩ := hv.int_inv
  exact ne_int ⟨by rw [Value.bool.injEq]; simp [bne, Bool.beq_eq_decide_eq], .refl S⟩
/-- what is shown to be None, or not -/
def AV.isNone? : AV → Option Bool
  | .none => Option.some true
  | .bool _ | .int _ | .pair .. | .ref _ | .view _ => Option.some false
  | .val _ => Option.none
theorem CP.isNone {a : AV} {b : Bool} (h : a.isNone? = some b) : CP prog w c ρ σ .Is a .none b := fun s u v S hu hv => by
  cases hv.none_inv
  refine is_none ⟨?_, .refl S⟩
  rw [Value.bool.injEq]
  cases hu <;> simp [AV.isNone?] at h <;> subst h <;> first | rfl | exact beq_eq_false_iff_ne.mpr (by nofun)

/-! ### in -/
theorem VRs.any_int {h : Heap} {vs : List Value} {xs : List Int} (x : VRs h vs (xs.map AV.int)) : IntsAre vs xs := by
  induction xs generalizing vs with
  | nil => cases x; exact .nil
  | cons y ys ih =>
    cases x with
    | cons a b => obtain ⟨t, rfl⟩ := a.int_inv; exact .cons _ _ (ih b)
theorem intsAre_any {vs : List Value} {xs : List Int} (x : IntsAre vs xs) (k : Int) : vs.any (fun v => match v with | .int i _ => i == k | _ => false) = xs.contains k := by
  induction x with
  | nil => rfl
  | cons _ _ _ ih => simp only [List.any_cons, List.contains_cons, ih]; rw [show ∀ a b : Int, (a == b) = (b == a) from fun a b => Bool.beq_comm]
theorem intsAre_mem {vs : List Value} {xs : List Int} (x : IntsAre vs xs) : ∀ v ∈ vs, ∃ i t, v = .int i t := by
  induction x with
  | nil => intro v hv; cases hv
  | cons _ _ _ ih => intro v hv; rcases List.mem_cons.mp hv with rfl | hv; exact ⟨_, _, rfl⟩; exact ih v hv
theorem in_ints {A : Around} {l : Addr} {xs : List Int} {k : Int} {t : Tok} {Q : Value → Shared → Prop} (hl : LRep s.heap l (xs.map AV.int)) (h : Q (.bool (xs.contains k)) s) :
    wpAny (model prog w) A (compareOp .In (.int k t) (.ref l)) Q NoE s := by
  obtain ⟨vs, hl, hv⟩ := hl
  have hi := hv.any_int
  refine SeqInW.in_listW (fun v => match v with | .int i _ => i == k | _ => false) (fun y hy => ?_) hl.isList ?_
  · obtain ⟨i, t', rfl⟩ := intsAre_mem hi y (by simpa using hy)
    exact MeetsSeq.EqGives.int i k t' t
  · rw [List.any_toArray, intsAre_any hi]; exact h
theorem CP.inL {l : Addr} {xs : List Int} {k : Int} (hl : σ.list l = some (xs.map AV.int)) : CP prog w c ρ σ .In (.int k) (.ref l) (xs.contains k) := fun s u v S hu hv => by
  obtain ⟨t, rfl⟩ := hu.int_inv; cases hv.ref_inv
  exact in_ints (S.sees.list _ _ hl) ⟨rfl, .refl S⟩

theorem CP.inS {a : Addr} {T : Int → Bool} {n : Nat} {k : Int} (hl : σ.set a = some (T, n)) : CP prog w c ρ σ .In (.int k) (.ref a) (T k) := fun s u v S hu hv => by
  obtain ⟨t, rfl⟩ := hu.int_inv; cases hv.ref_inv
  exact wpAny_inSet_of (knd := intKind prog w) (intKind_is prog w k t) rfl (S.sees.set _ _ hl) ⟨rfl, .toks S _⟩
theorem CP.ninS {a : Addr} {T : Int → Bool} {n : Nat} {k : Int} (hl : σ.set a = some (T, n)) : CP prog w c ρ σ .NotIn (.int k) (.ref a) (!T k) := fun s u v S hu hv => by
  obtain ⟨t, rfl⟩ := hu.int_inv; cases hv.ref_inv
  exact wpAny_notInSet_of (knd := intKind prog w) (intKind_is prog w k t) rfl (S.sees.set _ _ hl) ⟨rfl, .toks S _⟩

/-! ### tuples and items -/
theorem PE.pair {e1 e2 : Expr} {k : Nat} {pos : Pos} {a b : AV} (h1 : PE prog w c ρ σ e1 a) (h2 : PE prog w c ρ σ e2 b)
    (he1 : starEach (e1 :: [e2]) c.env = (false, eval e1 c.env) :: starEach [e2] c.env := by rfl)
    (he2 : starEach (e2 :: []) c.env = (false, eval e2 c.env) :: starEach [] c.env := by rfl) : PE prog w c ρ σ (.Tuple [e1, e2] k pos) (.pair a b) := fun s S => by
  refine wpAny_Tuple (wpAny_items_cons (he := he1) (wpAny_mono (h1 s S) (fun u s₁ ⟨hu, p⟩ => wpAny_items_cons (he := he2) (wpAny_mono (h2 s₁ p.st) (fun v s₂ ⟨hv, p₂⟩ => wpAny_items_nil ?_) fun _ _ e => e)) fun _ _ e => e))
  refine ⟨by rw [sizeLine_eq]; simp, ?_, (p.trans p₂).trans (.push p₂.st _)⟩
  have st : Stab s₂.heap (s₂.heap.push { cls := .type "tuple", data := .seq [u, v].toArray }) := (Ext.push _ _).stab
  exact .pair (Heap.get?_push_size _ rfl) rfl rfl ((hu.stab p₂.stab).stab st) (hv.stab st)

/-- what an item is -/
inductive GI (σ : AH) : AV → AV → AV → Prop
  | list {a xs k r} : σ.list a = some xs → 0 ≤ k → k < 2 ^ 63 → xs[k.toNat]? = some r → GI σ (.ref a) (.int k) r
  | dI {a d k} : σ.dI a = some d → k ∈ d.keys → GI σ (.ref a) (.int k) (d.val k)
  | dP {a d i j} : σ.dP a = some d → (i, j) ∈ d.keys → GI σ (.ref a) (.pair (.int i) (.int j)) (d.val i j)
  | fst {x y} : GI σ (.pair x y) (.int 0) x
  | snd {x y} : GI σ (.pair x y) (.int 1) y

theorem VRs.get {h : Heap} {vs : List Value} {xs : List AV} (x : VRs h vs xs) : ∀ {i : Nat} {r : AV}, xs[i]? = some r → ∃ v, vs[i]? = some v ∧ VR h v r := by
  induction x with
  | nil => intro i r e; simp at e
  | cons a _ ih =>
    intro i r e
    cases i with
    | zero => simp at e; subst e; exact ⟨_, rfl, a⟩
    | succ j => simp at e; obtain ⟨v, h1, h2⟩ := ih e; exact ⟨v, by simpa using h1, h2⟩
theorem VRs.length {h : Heap} {vs : List Value} {xs : List AV} (x : VRs h vs xs) : vs.length = xs.length := by
  induction x with
  | nil => rfl
  | cons a _ ih => simp [ih]

theorem valueAt_mem {kvs : List (Int × Value)} {k : Int} (hk : k ∈ kvs.map (·.1)) : ∃ v, valueAt kvs k = some v ∧ (k, v) ∈ kvs := by
  induction kvs with
  | nil => cases hk
  | cons kv r ih =>
    obtain ⟨k', v'⟩ := kv
    by_cases e : k' = k
    · subst e; exact ⟨v', by simp [valueAt], .head _⟩
    · have hk' : k ∈ r.map (·.1) := by
        simp only [List.map_cons, List.mem_cons] at hk
        rcases hk with hk | hk
        · exact absurd hk.symm e
        · exact hk
      obtain ⟨v, h1, h2⟩ := ih hk'
      exact ⟨v, by simpa [valueAt, List.find?_cons, e] using h1, .tail _ h2⟩
theorem atKey_mem {xs : List (List Int × Addr × Value)} {k : List Int} (hk : k ∈ xs.map (·.1)) : ∃ p, atKey xs k = some p ∧ (k, p) ∈ xs := by
  induction xs with
  | nil => cases hk
  | cons kv r ih =>
    obtain ⟨k', v'⟩ := kv
    by_cases e : k' = k
    · subst e; exact ⟨v', by simp [atKey], .head _⟩
    · have hk' : k ∈ r.map (·.1) := by
        simp only [List.map_cons, List.mem_cons] at hk
        rcases hk with hk | hk
        · exact absurd hk.symm e
        · exact hk
      obtain ⟨v, h1, h2⟩ := ih hk'
      exact ⟨v, by simpa [atKey, List.find?_cons, e] using h1, .tail _ h2⟩

/-- the pair as a key -/
theorem VR.key {h : Heap} {v : Value} {i j : Int} (x : VR h v (.pair (.int i) (.int j))) : ∃ a, v = .ref a ∧ IsTupleKey (intKind prog w) h [i, j] a := by
  obtain ⟨a, o, u1, u2, n, rfl, ho, hc, hd, h1, h2⟩ := x.pair_inv
  obtain ⟨t1, rfl⟩ := h1.int_inv
  obtain ⟨t2, rfl⟩ := h2.int_inv
  exact ⟨a, rfl, o, _, n, ho, hc, hd, .cons (intKind_is prog w i t1) (.cons (intKind_is prog w j t2) .nil)⟩

theorem keeps_refl {s : Shared} : Keeps s s := ⟨s.heap, s.toks, rfl, fun _ _ e => e⟩
theorem keeps_toks {s : Shared} {t : Nat} : Keeps s { s with toks := t } := ⟨s.heap, t, rfl, fun _ _ e => e⟩
theorem keeps_pu {s s' : Shared} (x : Keeps s s') : Pu s s' := by obtain ⟨h, t, rfl, e⟩ := x; exact .of e
theorem getItem_GI {A : Around} {P : Pins} {B : Basis} {n : Nat} (hA : Rm A n) {o i r : AV} {u v : Value} (S : Sees prog w B P σ s.heap) (hu : VR s.heap u o) (hv : VR s.heap v i) (g : GI σ o i r) {Q : Value → Shared → Prop}
    (h : ∀ x s', VR s'.heap x r → Keeps s s' → Q x s') :
    ∃ T id, s.TypeIs u T ∧ typeLookup (.type T) "__getitem__" = pure (some (.builtin id)) ∧ wpAny (model prog w) A (getItem u v) Q NoE s := by
  cases g with
  | @list a xs k r hl h0 h1 hx =>
    cases hu.ref_inv
    obtain ⟨t, rfl⟩ := hv.int_inv
    obtain ⟨vs, hl', hvs⟩ := S.list _ _ hl
    obtain ⟨x, hx', hr⟩ := hvs.get hx
    exact ⟨_, _, hl'.isList.typeIs, slot_list_getitem.lookup, wpAny_getItem_list hl'.isList h0 h1 (by simpa using hx') (h x s hr keeps_refl)⟩
  | @dI a d k hl hk =>
    cases hu.ref_inv
    obtain ⟨t, rfl⟩ := hv.int_inv
    obtain ⟨kvs, hd, hks, hvs⟩ := S.dI _ _ hl
    rw [← hks] at hk
    obtain ⟨x, h1, h2⟩ := valueAt_mem hk
    exact ⟨_, _, hd.dictOf.typeIs, slot_dict_getitem.lookup, wpAny_getItem_of (knd := intKind prog w) (intKind_is prog w k t) hd.dictOf.mapOf h1 (h x _ (hvs _ h2) keeps_toks)⟩
  | @dP a d i j hl hk =>
    cases hu.ref_inv
    obtain ⟨b, rfl, hkey⟩ := hv.key (prog := prog) (w := w)
    obtain ⟨xs, hd, hks, hvs⟩ := S.dP _ _ hl
    have hk' : [i, j] ∈ xs.map (·.1) := by rw [hks]; exact List.mem_map.mpr ⟨(i, j), hk, rfl⟩
    obtain ⟨p, h1, h2⟩ := atKey_mem hk'
    exact ⟨_, _, hd.typeIs, slot_dict_getitem.lookup, wpAny_getItem_heap (knd := tupleKind (intKind prog w)) (show A.units + 1 < cLine from hA.units 1 (by omega)) hkey hd h1 (h p.2 _ (hvs _ h2 i j rfl) keeps_toks)⟩
  | fst =>
    obtain ⟨a, ob, u1, u2, n, rfl, ho, hc, hd, h1, h2⟩ := hu.pair_inv
    obtain ⟨t, rfl⟩ := hv.int_inv
    have ht : IsTup s.heap a #[u1, u2] := ⟨ob, ho, hc, n, hd⟩
    exact ⟨_, _, ht.typeIs, slot_tuple_getitem.lookup, getItem_tuple ht (by decide) (by decide) (j := 0) rfl rfl (h u1 s h1 keeps_refl)⟩
  | snd =>
    obtain ⟨a, ob, u1, u2, n, rfl, ho, hc, hd, h1, h2⟩ := hu.pair_inv
    obtain ⟨t, rfl⟩ := hv.int_inv
    have ht : IsTup s.heap a #[u1, u2] := ⟨ob, ho, hc, n, hd⟩
    exact ⟨_, _, ht.typeIs, slot_tuple_getitem.lookup, getItem_tuple ht (by decide) (by decide) (j := 1) rfl rfl (h u2 s h2 keeps_refl)⟩

theorem PE.sub_ {value slice : Expr} {pos : Pos} {n : Nat} (hA : Rm c.A n) {o i r : AV} (h1 : PE prog w c ρ σ value o) (h2 : PE prog w c ρ σ slice i) (g : GI σ o i r)
    (hs : ∀ o i, subscripted slice false o i = operate [o, i] (getItem o i) := by intro _ _; rfl) : PE prog w c ρ σ (.Subscript value slice pos) r := fun s S => by
  refine Subscript_ (PE.two S h1 h2 fun u v s₂ S₂ p hu hv => ?_)
  obtain ⟨T, id, hT, hl, hg⟩ := getItem_GI hA (Q := fun v s' => VR s'.heap v r ∧ Pv prog w c ρ σ s s') S₂.sees hu hv g (fun x s' hr p' => ⟨hr, p.trans (S₂.pv (keeps_pu p'))⟩)
  exact tail_any hT hl hg (hs _ _)
end
end Mine

/-! G6 -/
namespace Mine
section
variable {prog : Program} {w : World} {c : Cx} {ρ : Rho} {σ : AH} {s s' : Shared}

def isSto (env : Env) (wr : Str → Bool) (x : Str) : Bool := match env.kindOf x with
  | some .local => true
  | some .cell => wr x
  | _ => false

theorem lookup_cons_self {x : Str} {a : AV} {ρ : Rho} : ((x, a) :: ρ).lookup x = some a := by simp [List.lookup]
theorem lookup_cons_ne {x y : Str} {a : AV} {ρ : Rho} (h : y ≠ x) : ((x, a) :: ρ).lookup y = ρ.lookup y := by
  have : (y == x) = false := by simpa using h
  simp [List.lookup, this]

theorem notClass {env : Env} (hk : env.scope.kind = .function) : (env.scope.kind == .class || (env.scope.kind == .module && env.locals != env.globals)) = false := by rw [hk]; rfl

theorem St.store {A : Around} {x : Str} {av : AV} {v : Value} (S : St prog w c ρ σ s) (hv : VR s.heap v av) (hx : isSto c.env c.wr x = true) {Q : Unit → Shared → Prop}
    (h : ∀ s', St prog w c ((x, av) :: ρ) σ s' → Stab s.heap s'.heap → Q () s') : wpAny (model prog w) A (storeName c.env x v) Q NoE s := by
  unfold isSto at hx
  split at hx
  · rename_i hk
    obtain ⟨m, hn, hm⟩ := S.fr.ns
    refine wpAny_storeName_local hk hn (fun h' hn' hs => ?_) (notClass S.fr.kind)
    have st : Stab s.heap h' := .sameBut hs (.ns hn)
    have sees : Sees prog w c.B c.P σ h' := S.sees.but (fun b o hb e => (hs.2 b hb).trans e) S.fr.freeL.2 S.fr.freeL.1 st
    have cellNe : ∀ y a, c.env.cells.lookup y = some a → a ≠ c.env.locals := by
      rintro y a ha rfl
      obtain ⟨v', o, ho, hd⟩ := S.fr.cellC y _ ha
      obtain ⟨o', es, ep, ho', hd', _⟩ := hn
      rw [ho] at ho'; cases ho'; rw [hd] at hd'; cases hd'
    refine h _ ⟨⟨sees, S.os, S.gens⟩, { S.fr with ns := ⟨_, hn', fun y hy => ?_⟩, cell := fun y hy => ?_, cellC := fun y a ha => ?_ }⟩ st
    · by_cases hyx : y = x
      · subst hyx
        simp only [if_true, lookup_cons_self]
        exact ⟨v, rfl, hv.stab st⟩
      · rw [if_neg hyx, lookup_cons_ne hyx]; exact (hm y hy).stab st
    · obtain ⟨a, u, ha, hc, hu⟩ := S.fr.cell y hy
      have hyx : y ≠ x := by
        rintro rfl
        rw [hk] at hy
        rcases hy with hy | hy <;> cases hy
      rw [lookup_cons_ne hyx]
      exact ⟨a, u, ha, hc.sameBut hs (cellNe y a ha), hu.stab st⟩
    · obtain ⟨u, hc⟩ := S.fr.cellC y a ha
      exact ⟨u, hc.sameBut hs (cellNe y a ha)⟩
  · rename_i hk
    obtain ⟨a, u, ha, hc, hu⟩ := S.fr.cell x (.inl hk)
    refine wpAny_storeName_cell S.fr.kind hk ha hc (fun h' hc' hs => ?_)
    have st : Stab s.heap h' := .sameBut hs (.cell hc)
    have fc := S.fr.freeC x a ha
    have sees : Sees prog w c.B c.P σ h' := S.sees.but (fun b o hb e => (hs.2 b hb).trans e) (fc.2 hx) fc.1 st
    obtain ⟨m, hn, hm⟩ := S.fr.ns
    have hLa : c.env.locals ≠ a := by
      rintro rfl
      obtain ⟨o, ho, hd⟩ := hc
      obtain ⟨o', es, ep, ho', hd', _⟩ := hn
      rw [ho] at ho'; cases ho'; rw [hd] at hd'; cases hd'
    refine h _ ⟨⟨sees, S.os, S.gens⟩, { S.fr with ns := ⟨m, hn.sameBut hs hLa, fun y hy => ?_⟩, cell := fun y hy => ?_, cellC := fun y b hb => ?_ }⟩ st
    · have hyx : y ≠ x := by
        rintro rfl
        rw [hk] at hy; cases hy
      rw [lookup_cons_ne hyx]; exact (hm y hy).stab st
    · by_cases hyx : y = x
      · subst hyx
        exact ⟨a, some v, ha, hc', by rw [lookup_cons_self]; exact ⟨v, rfl, hv.stab st⟩⟩
      · obtain ⟨b, u', hb, hc2, hu'⟩ := S.fr.cell y hy
        have hba : b ≠ a := by rintro rfl; exact hyx (S.fr.inj x y b hx ha hb).symm
        exact ⟨b, u', hb, hc2.sameBut hs hba, by rw [lookup_cons_ne hyx]; exact hu'.stab st⟩
    · by_cases hba : b = a
      · subst hba; exact ⟨_, hc'⟩
      · obtain ⟨u', hc2⟩ := S.fr.cellC y b hb
        exact ⟨u', hc2.sameBut hs hba⟩
  · cases hx

theorem S1.assign {x : Str} {pos' pos : Pos} {value : Expr} {Q : AF → Rho → AH → Prop} (h : EV prog w c ρ σ value (fun av σ' => Q .next ((x, av) :: ρ) σ'))
    (hx : isSto c.env c.wr x = true := by rfl) (hs : swapsWith value (some (.Name x pos')) pos.line c.env = pure false := by rfl) : S1 prog w c ρ σ (.Assign [.Name x pos'] value pos) Q := fun s S => by
  refine wpAny_Assign_Name (hs := hs) (wpAny_mono (h s S) (fun v s₁ ⟨av, σ', hv, S₁, st, q⟩ => ?_) fun _ _ e => e)
  exact S₁.store hv hx fun s₂ S₂ st₂ => ⟨.next, _, σ', .next, S₂, st.trans st₂, q⟩
theorem S1.augAdd {x : Str} {npos pos : Pos} {value : Expr} {a b : Int} {Q : AF → Rho → AH → Prop} (hx : ρ.lookup x = some (.int a)) (hv : PE prog w c ρ σ value (.int b)) (q : Q .next ((x, .int (a + b)) :: ρ) σ)
    (hv' : isVar c.env x = true := by rfl) (hs : isSto c.env c.wr x = true := by rfl) (hd : (x == ("__classdict__" : Str)) = false := by decide) : S1 prog w c ρ σ (.AugAssign (.Name x npos) .Add value pos) Q := fun s S => by
  refine wpAny_AugAssign_Name (S.fr.load hx hv' hd fun u hu => wpAny_mono (hv s S) (fun v s₁ ⟨hr, p⟩ => ?_) fun _ _ e => e)
  obtain ⟨t, rfl⟩ := hu.int_inv
  obtain ⟨t', rfl⟩ := hr.int_inv
  have S₁ := p.st
  refine iadd_int ?_
  exact St.store (s := { s₁ with toks := s₁.toks + 1 }) (Pv.toks S₁ _).st (.int _ _) hs fun s₂ S₂ st₂ => ⟨.next, _, σ, .next, S₂, p.stab.trans st₂, q⟩

/-! ### tests joined -/
def PA (prog : Program) (w : World) (c : Cx) (ρ : Rho) (σ : AH) (op : BoolOp) (es : List Expr) (b : Bool) : Prop := PTt prog w c ρ σ (allTrue op es c.env) b
theorem PA.and_nil : PA prog w c ρ σ .And [] true := fun s S => wpAny_allTrue_And_nil ⟨rfl, .refl S⟩
theorem PA.or_nil : PA prog w c ρ σ .Or [] false := fun s S => wpAny_allTrue_Or_nil ⟨rfl, .refl S⟩
theorem PA.and_cons {x : Expr} {rest : List Expr} {b b' : Bool} (hx : PT prog w c ρ σ x b) (hr : b = true → PA prog w c ρ σ .And rest b') : PA prog w c ρ σ .And (x :: rest) (b && b') := fun s S => by
  refine wpAny_allTrue_And_cons (wpAny_mono (hx s S) (fun v s₁ ⟨e, p⟩ => ?_) fun _ _ e => e)
  subst e
  cases v with
  | false => exact ⟨rfl, p⟩
  | true => exact wpAny_mono (hr rfl s₁ p.st) (fun v s₂ ⟨e, p₂⟩ => ⟨by simpa using e, p.trans p₂⟩) fun _ _ e => e
theorem PA.or_cons {x : Expr} {rest : List Expr} {b b' : Bool} (hx : PT prog w c ρ σ x b) (hr : b = false → PA prog w c ρ σ .Or rest b') : PA prog w c ρ σ .Or (x :: rest) (b || b') := fun s S => by
  refine wpAny_allTrue_Or_cons (wpAny_mono (hx s S) (fun v s₁ ⟨e, p⟩ => ?_) fun _ _ e => e)
  subst e
  cases v with
  | true => exact ⟨rfl, p⟩
  | false => exact wpAny_mono (hr rfl s₁ p.st) (fun v s₂ ⟨e, p₂⟩ => ⟨by simpa using e, p.trans p₂⟩) fun _ _ e => e
theorem PT.bool {op : BoolOp} {es : List Expr} {pos : Pos} {b : Bool} (h : PA prog w c ρ σ op es b) : PT prog w c ρ σ (.BoolOp op es pos) b := fun s S => wpAny_isTrue_BoolOp (h s S)
theorem PT.not {x : Expr} {pos : Pos} {b : Bool} (h : PT prog w c ρ σ x b) : PT prog w c ρ σ (.UnaryOp .Not x pos) (!b) := fun s S =>
  wpAny_isTrue_Not (wpAny_mono (h s S) (fun v s₁ ⟨e, p⟩ => ⟨by rw [e], p⟩) fun _ _ e => e)
/-- a name that holds a bool -/
theorem PT.nameB {x : Str} {pos : Pos} {b : Bool} (h : PE prog w c ρ σ (.Name x pos) (.bool b)) : PT prog w c ρ σ (.Name x pos) b := fun s S =>
  wpAny_isTrue_value (wpAny_mono (h s S) (fun v s₁ ⟨hr, p⟩ => by rw [hr.bool_inv]; exact wpAny_truthy_bool ⟨rfl, p⟩) fun _ _ e => e)

/-! ### stores into known objects -/
theorem VRs.set {h : Heap} {vs : List Value} {xs : List AV} (x : VRs h vs xs) {v : Value} {a : AV} (hv : VR h v a) : ∀ i, VRs h (vs.set i v) (xs.set i a) := by
  induction x with
  | nil => intro i; exact .nil
  | cons h1 h2 ih => intro i; cases i with
    | zero => exact .cons hv h2
    | succ j => exact .cons h1 (ih j)
theorem VRs.append {h : Heap} {vs us : List Value} {xs ys : List AV} (x : VRs h vs xs) (y : VRs h us ys) : VRs h (vs ++ us) (xs ++ ys) := by
  induction x with
  | nil => exact y
  | cons h1 h2 ih => exact .cons h1 ih

/-- what the heap knows when one item is stored -/
inductive SI (σ : AH) : AV → AV → AV → (AH → Prop) → Prop
  | list {a xs v Q} {k : Int} : σ.list a = some xs → 0 ≤ k → k < (xs.length : Int) → xs.length ≤ 100000 → Q (σ.setL a (xs.set k.toNat v)) → SI σ (.ref a) (.int k) v Q
  | dI {a d k v Q} : σ.dI a = some d → d.keys.length ≤ 100000 → (∀ ep, Q (σ.setD a ⟨if k ∈ d.keys then d.keys else d.keys ++ [k], fun x => if x = k then v else d.val x, ep⟩)) → SI σ (.ref a) (.int k) v Q
  | dP {a d i j v Q} : σ.dP a = some d → (i, j) ∈ d.keys → d.keys.length ≤ 100000 → Q (σ.setP a ⟨d.keys, fun x y => if x = i ∧ y = j then v else d.val x y⟩) → SI σ (.ref a) (.pair (.int i) (.int j)) v Q

theorem AH.fresh_setL {σ : AH} {a b : Addr} {l} (h : b ≠ a) (f : σ.Fresh b) : (σ.setL a l).Fresh b := ⟨by simp [AH.setL, h, f.1], f.2.1, f.2.2.1, f.2.2.2⟩
theorem AH.fresh_setD {σ : AH} {a b : Addr} {l} (h : b ≠ a) (f : σ.Fresh b) : (σ.setD a l).Fresh b := ⟨f.1, by simp [AH.setD, h, f.2.1], f.2.2.1, f.2.2.2⟩
theorem AH.fresh_setP {σ : AH} {a b : Addr} {l} (h : b ≠ a) (f : σ.Fresh b) : (σ.setP a l).Fresh b := ⟨f.1, f.2.1, by simp [AH.setP, h, f.2.2.1], f.2.2.2⟩
theorem AH.fresh_setS {σ : AH} {a b : Addr} {S n} (h : b ≠ a) (f : σ.Fresh b) : (σ.setS a S n).Fresh b := ⟨f.1, f.2.1, f.2.2.1, by simp [AH.setS, h, f.2.2.2.1], f.2.2.2.2⟩

theorem St.notFrame (S : St prog w c ρ σ s) {a : Addr} (ha : ¬ σ.Fresh a) : ¬ (a = c.env.locals ∨ (∃ y, c.env.cells.lookup y = some a)) := fun h => ha (S.fr.freeA h)

theorem setItem_plain {A : Around} {E : Value → Shared → Prop} {l : Addr} {items : Array Value} {k : Int} {t : Tok} {v : Value} {Q : Unit → Shared → Prop} (hp : s.heap.PlainList l items)
    (h0 : 0 ≤ k) (hfit : k < 2 ^ 63) (hn : k < items.size)
    (hQ : ∀ h', h'.PlainList l (items.setIfInBounds k.toNat v) → Heap.SameBut l s.heap h' → Q () { s with heap := h' }) :
    wpAny (model prog w) A (setItem (.ref l) (.int k t) v) Q E s := by
  obtain ⟨ne, ho⟩ := hp
  have hl : s.heap.IsList l items := ⟨_, ho, rfl, ne, rfl⟩
  have hd : ({ cls := .type "list", data := .seq items ne } : Obj).data = .seq items ne := rfl
  unfold PySem.setItem
  try with_reducible refine wpAny_holding ?_
  first | refine wpAny_bind (wpAny_pure ?_) | skip
  refine wpAny_bind (wpAny_sequenceKey hl.typeIs (by decide) ?_)
  refine wpAny_bind (wpAny_callSpecial?_slot (name := Str.ofString "__setitem__") hl.typeIs slot_list_setitem
    (wpAny_call_entry slot_list_setitem hl.typeIs entry_list_setitem ?_ (args_list_setitem _ _ _)))
  show wpAny _ _ (Builtin.List.listSubscript? (.int k t) >>= _) _ _ s
  refine wpAny_bind (wpAny_listSubscript_int (fitsIndex_of h0 hfit) ?_)
  clear hfit
  obtain ⟨j, rfl⟩ := Int.eq_ofNat_of_zero_le h0
  have hj : j < items.size := by omega
  have hx' : items[j]? = some items[j] := Array.getElem?_eq_getElem hj
  show wpAny _ _ ((seqItemAt l j >>= fun r => pure (r.map (j, ·))) >>= _) _ _ s
  refine wpAny_bind (wpAny_bind (wpAny_seqItemAt ho hd (wpAny_pure ?_)))
  rw [hx']
  show wpAny _ _ (setSeqItemAt l j v >>= _) _ _ s
  obtain ⟨n', hd'⟩ := Obj.data_mapSeq hd (·.setIfInBounds j v)
  have hfin : (s.heap.update l (Obj.mapSeq (·.setIfInBounds j v))).PlainList l (items.setIfInBounds j v) := by
    refine ⟨n', ?_⟩
    rw [Heap.get?_update_self _ ho (Obj.isFreed_of_seq hd')]
    congr 1
    simp only [Obj.mapSeq] at hd' ⊢
    injection hd' with h1 h2
    rw [h2]
  refine wpAny_bind (wpAny_setSeqItemAt ho hd ?_)
  first
    | exact wpAny_bind (wpAny_pure (wpAny_pure ⟨.none, rfl, wpAny_pure (hQ _ hfin (Heap.SameBut.update ..))⟩))
    | exact wpAny_pure ⟨.none, rfl, wpAny_pure (hQ _ hfin (Heap.SameBut.update ..))⟩

theorem setItem_SI {A : Around} {n : Nat} (hA : Rm A n) {o i v : AV} {uo ui uv : Value} {R : AH → Prop} (S : St prog w c ρ σ s) (ho : VR s.heap uo o) (hi : VR s.heap ui i) (hv : VR s.heap uv v) (g : SI σ o i v R)
    {Q : Unit → Shared → Prop} (h : ∀ σ' s', St prog w c ρ σ' s' → Stab s.heap s'.heap → R σ' → Q () s') : wpAny (model prog w) A (setItem uo ui uv) Q NoE s := by
  cases g with
  | @list a xs v Q k hl h0 h1 hz q =>
    cases ho.ref_inv
    obtain ⟨t, rfl⟩ := hi.int_inv
    obtain ⟨vs, hl', hvs⟩ := S.sees.list _ _ hl
    have hlen := hvs.length
    refine setItem_plain hl' h0 (by omega) (by simp; omega) (fun h' hl2 hs => ?_)
    have st : Stab s.heap h' := .sameBut hs (.cls (S.sees.list _ _ hl).get (by decide))
    have nf := AH.drop_list hl
    refine h _ _ ⟨⟨S.sees.putL hs.extBut (S.sees.notPinned nf) st (S.sees.onlyL hl) ⟨vs.set k.toNat uv, by simpa using hl2, (hvs.stab st).set (hv.stab st) _⟩, S.os, S.gens⟩,
      S.fr.put hs.extBut (S.notFrame nf) st fun b hb f => AH.fresh_setL hb f⟩ st q
  | @dI a d k v Q hl hz q =>
    cases ho.ref_inv
    obtain ⟨t, rfl⟩ := hi.int_inv
    obtain ⟨kvs, hd, hks, hvs⟩ := S.sees.dI _ _ hl
    have hlen : kvs.length = d.keys.length := by rw [← hks, List.length_map]
    refine wpAny_setItem_pairs (knd := intKind prog w) (intKind_is prog w k t) hd.dictOf (fun h' hd' hs => ?_) (by rw [hlen]; exact Nat.le_trans hz (by rw [sizeLine_eq]; decide))
    have st : Stab s.heap h' := .sameBut hs (.cls (S.sees.dI _ _ hl).get (by decide))
    have nf : ¬ σ.Fresh a := fun f => by rw [f.2.1] at hl; cases hl
    obtain ⟨ep, hd2⟩ := hd'.dictAt
    have rep : DIRep prog w h' a ⟨if k ∈ d.keys then d.keys else d.keys ++ [k], fun x => if x = k then v else d.val x, ep⟩ := by
      refine ⟨_, hd2, ?_, ?_⟩
      · unfold stored
        by_cases hk : k ∈ d.keys
        · have hk' : (kvs.any fun kv => decide (kv.1 = k)) = true := by
            rw [← hks] at hk
            obtain ⟨kv, h1, h2⟩ := List.mem_map.mp hk
            exact List.any_eq_true.mpr ⟨kv, h1, by simpa using h2⟩
          rw [if_pos hk', keys_map_store, hks]; exact (if_pos hk).symm
        · have hk' : ¬ (kvs.any fun kv => decide (kv.1 = k)) = true := fun hh => by
            obtain ⟨kv, h1, h2⟩ := List.any_eq_true.mp hh
            exact hk (hks ▸ List.mem_map.mpr ⟨kv, h1, by simpa using h2⟩)
          rw [if_neg hk', List.map_append, hks]; exact (if_neg hk).symm
      · intro kv hkv
        unfold stored at hkv
        split at hkv
        · obtain ⟨kv', h1, h2⟩ := List.mem_map.mp hkv
          by_cases e : kv'.1 = k
          · rw [if_pos e] at h2
            subst h2
            simp only [e, if_true]; exact hv.stab st
          · rw [if_neg e] at h2
            subst h2
            simp only [e, if_false]; exact (hvs _ h1).stab st
        · rename_i hno
          rcases List.mem_append.mp hkv with h1 | h1
          · have e : kv.1 ≠ k := fun e => hno (List.any_eq_true.mpr ⟨kv, h1, by simpa using e⟩)
            simp only [e, if_false]; exact (hvs _ h1).stab st
          · rw [List.mem_singleton] at h1
            subst h1
            simp only [if_true]; exact hv.stab st
    have S' : St prog w c ρ (σ.setD a ⟨if k ∈ d.keys then d.keys else d.keys ++ [k], fun x => if x = k then v else d.val x, ep⟩) { s with heap := h', toks := s.toks + 1 } :=
      ⟨⟨S.sees.putD hs.extBut (S.sees.notPinned nf) st (S.sees.onlyD hl) rep, S.os, S.gens⟩, S.fr.put hs.extBut (S.notFrame nf) st fun b hb f => AH.fresh_setD hb f⟩
    exact h _ _ S' st (q ep)
  | @dP a d i j v Q hl hk hz q =>
    cases ho.ref_inv
    obtain ⟨b, rfl, hkey⟩ := hi.key (prog := prog) (w := w)
    obtain ⟨xs, hd, hks, hvs⟩ := S.sees.dP _ _ hl
    have hlen : xs.length = d.keys.length := by have := congrArg List.length hks; simpa using this
    have hk' : [i, j] ∈ xs.map (·.1) := by rw [hks]; exact List.mem_map.mpr ⟨(i, j), hk, rfl⟩
    obtain ⟨p, hp1, hp2⟩ := atKey_mem hk'
    refine wpAny_setItem_heap (knd := tupleKind (intKind prog w)) (show A.units + 1 < cLine from hA.units 1 (by omega)) hkey hd (fun h' hd' hs => ?_) (by rw [hlen]; exact Nat.le_trans hz (by rw [sizeLine_eq]; decide))
    have st : Stab s.heap h' := .sameBut hs (.cls (S.sees.dP _ _ hl).get (by decide))
    have nf : ¬ σ.Fresh a := fun f => by rw [f.2.2.1] at hl; cases hl
    rw [storedH_old hp1] at hd'
    have rep : DPRep prog w h' a ⟨d.keys, fun x y => if x = i ∧ y = j then v else d.val x y⟩ := by
      refine ⟨_, hd', ?_, ?_⟩
      · rw [keys_map_putAt, hks]
      · intro x hx i' j' e
        obtain ⟨x', h1, h2⟩ := List.mem_map.mp hx
        by_cases e' : x'.1 = [i, j]
        · simp only [putAt, e', if_true] at h2
          subst h2
          simp only [List.cons.injEq, and_true] at e
          simp only [e.1.symm, e.2.symm, and_self, if_true]; exact hv.stab st
        · simp only [putAt, e', if_false] at h2
          subst h2
          have : ¬ (i' = i ∧ j' = j) := fun ⟨h1, h2⟩ => e' (by rw [e, h1, h2])
          simp only [this, if_false]; exact (hvs _ h1 i' j' e).stab st
    refine h _ _ ⟨⟨S.sees.putP hs.extBut (S.sees.notPinned nf) st (S.sees.onlyP hl) rep, S.os, S.gens⟩, S.fr.put hs.extBut (S.notFrame nf) st fun b hb f => AH.fresh_setP hb f⟩ st q
end
end Mine

/-! G7 -/
namespace Mine
section
variable {prog : Program} {w : World} {c : Cx} {ρ : Rho} {σ : AH} {s s' : Shared}

theorem S1.setItem {n : Nat} (hA : Rm c.A n) {o i value : Expr} {pos' pos : Pos} {ov iv v : AV} {Q : AF → Rho → AH → Prop} (hv : PE prog w c ρ σ value v) (ho : PE prog w c ρ σ o ov) (hi : PE prog w c ρ σ i iv)
    (g : SI σ ov iv v (fun σ' => Q .next ρ σ')) (hs : swapsWith value (some (.Subscript o i pos')) pos.line c.env = pure false := by rfl) : S1 prog w c ρ σ (.Assign [.Subscript o i pos'] value pos) Q := fun s S => by
  refine wpAny_Assign_Subscript (hs := hs) (PE.one S hv fun uv s₁ S₁ p₁ hv₁ => PE.two S₁ ho hi fun uo ui s₂ S₂ p₂ ho₂ hi₂ => ?_)
  exact setItem_SI hA S₂ ho₂ hi₂ (hv₁.stab p₂.stab) g fun σ' s₃ S₃ st q => ⟨.next, ρ, σ', .next, S₃, (p₁.trans p₂).stab.trans st, q⟩

theorem getItem_PE {n : Nat} (hA : Rm c.A n) {o i r : AV} {u v : Value} (S : St prog w c ρ σ s) (hu : VR s.heap u o) (hv : VR s.heap v i) (g : GI σ o i r) {Q : Value → Shared → Prop}
    (h : ∀ x s', VR s'.heap x r → Pv prog w c ρ σ s s' → Q x s') : wpAny (model prog w) c.A (getItem u v) Q NoE s := by
  obtain ⟨T, id, hT, hl, hg⟩ := getItem_GI hA S.sees hu hv g fun x s' hr p => h x s' hr (S.pv (keeps_pu p))
  exact hg

theorem S1.augItem {n : Nat} (hA : Rm c.A n) {o i value : Expr} {op : Operator} {pos' pos : Pos} {ov iv : AV} {a b f : Int} {Q : AF → Rho → AH → Prop} (ho : PE prog w c ρ σ o ov) (hi : PE prog w c ρ σ i iv)
    (hg : GI σ ov iv (.int a)) (hv : PE prog w c ρ σ value (.int b)) (hop : (op = .Add ∧ f = a + b) ∨ (op = .Sub ∧ f = a - b)) (g : SI σ ov iv (.int f) (fun σ' => Q .next ρ σ'))
    (ha : ∀ ov iv new, augStore i ov iv new = (do holding [new, ov, iv] (PySem.setItem ov iv new); release [new, ov, iv] []; pure .next) := by intro _ _ _; rfl) :
    S1 prog w c ρ σ (.AugAssign (.Subscript o i pos') op value pos) Q := fun s S => by
  refine wpAny_AugAssign_Subscript_any (ha := ha) (PE.two S ho hi fun uo ui s₂ S₂ p₂ ho₂ hi₂ => ?_)
  refine getItem_PE hA S₂ ho₂ hi₂ hg fun old s₃ hold p₃ => ?_
  refine PE.one p₃.st hv fun uv s₄ S₄ p₄ hv₄ => ?_
  obtain ⟨t, rfl⟩ := hold.int_inv
  obtain ⟨t', rfl⟩ := hv₄.int_inv
  have st := (p₃.trans p₄).stab
  have fin : ∀ tk s₅, s₅ = { s₄ with toks := s₄.toks + 1 } → wpAny (model prog w) c.A (PySem.setItem uo ui (.int f tk)) (fun _ s' => ∃ af ρ' σ', FR s'.heap .next af ∧ St prog w c ρ' σ' s' ∧ Stab s.heap s'.heap ∧ Q af ρ' σ') NoE s₅ := by
    rintro tk s₅ rfl
    exact setItem_SI hA (s := { s₄ with toks := s₄.toks + 1 }) (Pv.toks S₄ _).st (ho₂.stab st) (hi₂.stab st) (.int _ _) g fun σ' s₆ S₆ st' q => ⟨.next, ρ, σ', .next, S₆, (p₂.stab.trans st).trans st', q⟩
  rcases hop with ⟨rfl, rfl⟩ | ⟨rfl, rfl⟩
  · exact iadd_int (fin _ _ rfl)
  · exact isub_int (fin _ _ rfl)

/-- an impure evaluation, then a store in a name -/
theorem SXt.seq {t : Sem Flow} {Q : AF → Rho → AH → Prop} (h : SXt prog w c ρ σ t Q) : SXt prog w c ρ σ t Q := h

/-! ### assert that holds -/
theorem S1.assertT {test : Expr} {msg : Option Expr} {pos : Pos} {Q : AF → Rho → AH → Prop} (ht : PT prog w c ρ σ test true) (q : Q .next ρ σ) : S1 prog w c ρ σ (.Assert test msg pos) Q := fun s S => by
  refine wpAny_Assert_holds (wpAny_mono (ht s S) (fun b s₁ ⟨e, p⟩ => ?_) fun _ _ e => e)
  subst e
  exact ⟨rfl, .next, ρ, σ, .next, p.st, p.stab, q⟩
end
end Mine

/-! G8 -/
namespace Mine

/-- what is known of a def of the text's top -/
structure FnF (B : Basis) (f : Str) (fa : Addr) (fd : FuncData) (body : List Stmt) : Prop where
  mg : B.mg f = some (.ref fa)
  obj : ∃ o, B.h₀.get? fa = some o ∧ o.data = .func fd
  code : B.h₀.CodeRec fd.code fd.qualname
  body : fd.body = .stmts body
  glob : fd.globals = mainGlobals
  bltn : fd.builtins = builtinsNs
  clo : fd.closure = []

/-- the bound parameters -/
inductive BRep (h : Heap) : List (Str × Value) → Rho → Prop
  | nil : BRep h [] []
  | cons {n v a bs as} : VR h v a → BRep h bs as → BRep h ((n, v) :: bs) ((n, a) :: as)
theorem BRep.stab {h h' : Heap} {bs as} (x : BRep h bs as) (s : Stab h h') : BRep h' bs as := by
  induction x with
  | nil => exact .nil
  | cons a _ ih => exact .cons (a.stab s) ih
theorem BRep.names {h : Heap} {bs as} (x : BRep h bs as) : bs.map (·.1) = as.map (·.1) := by
  induction x with
  | nil => rfl
  | cons a _ ih => simp [ih]

theorem bindL_other {kindOf : Str → Option NameKind} {x : Str} : ∀ (bs : List (Str × Value)) (m : Str → Option Value), x ∉ bs.map (·.1) → bindL kindOf bs m x = m x
  | [], _, _ => rfl
  | (n, v) :: r, m, h => by
    simp only [List.map_cons, List.mem_cons, not_or] at h
    rw [bindL, bindL_other r _ h.2]
    split
    · exact if_neg h.1
    · rfl
theorem bindC_other {kindOf : Str → Option NameKind} {x : Str} : ∀ (bs : List (Str × Value)) (m : Str → Option Value), x ∉ bs.map (·.1) → bindC kindOf bs m x = m x
  | [], _, _ => rfl
  | (n, v) :: r, m, h => by
    simp only [List.map_cons, List.mem_cons, not_or] at h
    rw [bindC, bindC_other r _ h.2]
    split
    · rfl
    · exact if_neg h.1
theorem BRep.local {h : Heap} {kindOf : Str → Option NameKind} {x : Str} (hx : kindOf x = some .local) {bs as} (B : BRep h bs as) : ∀ (m : Str → Option Value), (bs.map (·.1)).Nodup → ∀ a, as.lookup x = some a → OR h (bindL kindOf bs m x) (some a) := by
  induction B with
  | nil => intro m _ a e; cases e
  | @cons n v a bs as hv hr ih =>
    intro m hn a' e
    rw [List.map_cons, List.nodup_cons] at hn
    by_cases hxn : x = n
    · subst hxn
      rw [lookup_cons_self] at e
      cases e
      rw [bindL, if_pos hx, bindL_other _ _ hn.1]
      exact ⟨v, by simp, hv⟩
    · rw [lookup_cons_ne hxn] at e
      rw [bindL]
      exact ih _ hn.2 a' e
theorem BRep.cell {h : Heap} {kindOf : Str → Option NameKind} {x : Str} (hx : kindOf x ≠ some .local) {bs as} (B : BRep h bs as) : ∀ (m : Str → Option Value), (bs.map (·.1)).Nodup → ∀ a, as.lookup x = some a → OR h (bindC kindOf bs m x) (some a) := by
  induction B with
  | nil => intro m _ a e; cases e
  | @cons n v a bs as hv hr ih =>
    intro m hn a' e
    rw [List.map_cons, List.nodup_cons] at hn
    by_cases hxn : x = n
    · subst hxn
      rw [lookup_cons_self] at e
      cases e
      rw [bindC, if_neg hx, bindC_other _ _ hn.1]
      exact ⟨v, by simp, hv⟩
    · rw [lookup_cons_ne hxn] at e
      rw [bindC]
      exact ih _ hn.2 a' e

theorem cellsFrom_acc : ∀ (names : List (Str × NameKind)) (n : Nat) (acc : List (Str × Addr)) (x : Str), (acc.lookup x).isSome = true → ((cellsFrom n names acc).lookup x).isSome = true
  | [], _, _, _, h => h
  | (y, k) :: r, n, acc, x, h => by
    unfold cellsFrom
    split
    · refine cellsFrom_acc r _ _ x ?_
      rw [List.lookup_cons]
      split
      · rfl
      · exact h
    · exact cellsFrom_acc r _ _ x h
theorem cellsFrom_has : ∀ (names : List (Str × NameKind)) (n : Nat) (acc : List (Str × Addr)) (x : Str), names.lookup x = some .cell → ((cellsFrom n names acc).lookup x).isSome = true
  | [], _, _, _, h => by cases h
  | (y, k) :: r, n, acc, x, h => by
    rw [List.lookup_cons] at h
    unfold cellsFrom
    cases hy : x == y with
    | true =>
      rw [hy] at h
      cases h
      simp only [beq_self_eq_true, if_true]
      refine cellsFrom_acc r _ _ x ?_
      rw [List.lookup_cons, hy]; rfl
    | false =>
      rw [hy] at h
      split
      · exact cellsFrom_has r _ _ x h
      · exact cellsFrom_has r _ _ x h

theorem get?_none_of_le {h : Heap} {a : Addr} (ha : h.objs.size ≤ a) : h.get? a = none := by
  cases e : h.get? a with
  | none => rfl
  | some o => exact absurd (Heap.lt_size e) (Nat.not_lt.mpr ha)

def noFree (sc : Scope) : Bool := sc.names.all fun x => x.2 != .free

section
variable {prog : Program} {w : World} {c : Cx} {ρ : Rho} {σ : AH} {s s' : Shared} {B : Basis} {P : Pins}

theorem frame_of {fd : FuncData} {fa : Addr} {binds : List (Str × Value)} {ρ' : Rho} {s₁ : Shared} (C : Core prog w B P σ s) (hb : BRep s.heap binds ρ')
    (hn : (binds.map (·.1)).Nodup) (hk : fd.scope.kind = .function) (hf : noFree fd.scope = true) (hg : fd.globals = mainGlobals) (hbl : fd.builtins = builtinsNs)
    (x : InCallC s (callEnvC fd s.heap.objs.size fa).locals (bindL (callEnvC fd s.heap.objs.size fa).kindOf binds fun _ => none) (callEnvC fd s.heap.objs.size fa).cells
        (bindC (callEnvC fd s.heap.objs.size fa).kindOf binds fun _ => none) s₁) :
    FrOK B P σ (callEnvC fd s.heap.objs.size fa) ρ' (fun _ => true) s₁.heap := by
  have keep := x.toInCall.keep
  have st : Stab s.heap s₁.heap := Ext.stab keep
  have hb' := hb.stab st
  have fr : ∀ a, s.heap.objs.size ≤ a → P a = none ∧ σ.Fresh a := fun a ha => C.sees.fresh (get?_none_of_le ha)
  have nofree : ∀ y, (callEnvC fd s.heap.objs.size fa).kindOf y ≠ some .free := fun y e => by
    have := List.all_eq_true.mp hf _ (mem_of_lookup (show fd.scope.names.lookup y = some .free from e))
    simp at this
  refine ⟨hk, hg, hbl, ⟨_, x.toInCall.ns, fun y hy => ?_⟩, fun y hy => ?_, ⟨(fr _ (Nat.le_refl _)).2, (fr _ (Nat.le_refl _)).1⟩, fun y a ha => ?_, fun y a ha => ⟨_, x.cell y a ha⟩, fun y z a _ h1 h2 => ?_⟩
  · cases e : ρ'.lookup y with
    | none => trivial
    | some a => exact hb'.local hy _ hn a e
  · rcases hy with hy | hy
    · obtain ⟨a, ha⟩ := Option.isSome_iff_exists.mp (cellsFrom_has fd.scope.names (s.heap.objs.size + 1) [] y hy)
      refine ⟨a, _, ha, x.cell y a ha, ?_⟩
      cases e : ρ'.lookup y with
      | none => trivial
      | some b => exact hb'.cell (by rw [hy]; decide) _ hn b e
    · exact absurd hy (nofree y)
  · have := x.above y a (mem_of_lookup ha)
    have := fr a (Nat.le_of_lt this)
    exact ⟨this.2, fun _ => this.1⟩
  · exact name_of_addr x.apart (mem_of_lookup h1) (mem_of_lookup h2)

def calleeCx (A : Around) (B : Basis) (P : Pins) (fd : FuncData) (L fa : Addr) : Cx := { A := A.deeper (callEnvC fd L fa), B := B, P := P, env := callEnvC fd L fa, wr := fun _ => true }

/-- a call of a def, its body walked -/
theorem call_fn {A : Around} {n : Nat} (hA : Rm A (n + 1)) (hB : B.OK) {f : Str} {fa : Addr} {fd : FuncData} {body : List Stmt} (F : FnF B f fa fd body) {vals : List Value} {kw : List (Str × Value)}
    {binds : List (Str × Value)} {ρ' : Rho} {Q : AV → AH → Prop} (C : Core prog w B P σ s) (hbind : BindsTo s fd ⟨vals, kw⟩ binds) (hb : BRep s.heap binds ρ')
    (hn : (ρ'.map (·.1)).Nodup) (hks : ∀ x ∈ ρ'.map (·.1), fd.scope.names.lookup x = some .local ∨ fd.scope.names.lookup x = some .cell)
    (hbody : ∀ L, Rm (calleeCx A B P fd L fa).A n → SX prog w (calleeCx A B P fd L fa) ρ' σ body (fun fl _ σ' => match fl with | .ret v => Q v σ' | _ => Q .none σ'))
    (hf : noFree fd.scope = true) (hco : fd.scope.isCoroutine = false) (hgen : fd.scope.isGenerator = false) (hk : fd.scope.kind = .function) :
    wpAny (model prog w) A (call (.ref fa) vals kw) (fun v s' => ∃ av σ', VR s'.heap v av ∧ Core prog w B P σ' s' ∧ Stab s.heap s'.heap ∧ Q av σ') NoE s := by
  refine wpAny_call ?_
  obtain ⟨o, ho, hd⟩ := F.obj
  have keeps := C.sees.keeps
  refine codeAny_call_function hA.room (keeps _ _ ho) hd hco hgen F.body (F.code.keeps keeps) (hbind _ _ _ _ ?_)
  rw [F.clo]
  refine wpAny_newFunctionEnv_cells hk (fun x hx => ?_) (fun env he s₁ x => ?_)
  · have hx' : x.1 ∈ ρ'.map (·.1) := hb.names ▸ List.mem_map.mpr ⟨x, hx, rfl⟩
    rcases hks _ hx' with e | e
    · exact .inl e
    · exact .inr ⟨e, cellsFrom_has _ _ _ _ e⟩
  · have he : env = callEnvC fd s.heap.objs.size fa := he
    subst he
    refine ⟨(hB.nolimit.keeps keeps).keeps x.toInCall.keep, codeAny_func ?_⟩
    have st : Stab s.heap s₁.heap := Ext.stab x.toInCall.keep
    obtain ⟨h', tk, e, _⟩ := x.done
    have S₁ : St prog w (calleeCx A B P fd s.heap.objs.size fa) ρ' σ s₁ :=
      ⟨⟨C.sees.ext x.toInCall.keep, by rw [e]; exact C.os, by rw [e]; exact C.gens⟩, frame_of C hb (by rw [hb.names]; exact hn) hk hf F.glob F.bltn x⟩
    refine wpAny_mono (hbody s.heap.objs.size hA.deeper s₁ S₁) (fun fl s₂ h₂ => ?_) fun _ _ e => e.elim
    obtain ⟨af, ρ₂, σ₂, hf, S₂, st₂, q⟩ := h₂
    cases hf with
    | ret hr => exact ⟨_, σ₂, hr, S₂.toCore, st.trans st₂, q⟩
    | next => exact ⟨.none, σ₂, .none, S₂.toCore, st.trans st₂, q⟩
    | brk => exact ⟨.none, σ₂, .none, S₂.toCore, st.trans st₂, q⟩
    | cont => exact ⟨.none, σ₂, .none, S₂.toCore, st.trans st₂, q⟩

/-! ### the caller's frame is pinned -/
def isFr (env : Env) (a : Addr) : Prop := a = env.locals ∨ ∃ y, env.cells.lookup y = some a

theorem St.out (S : St prog w c ρ σ s) : Core prog w c.B (pinMore c.P s.heap (isFr c.env)) σ s :=
  ⟨S.sees.pinMore fun a ha => S.fr.freeA ha, S.os, S.gens⟩
theorem St.back {σ' : AH} (S : St prog w c ρ σ s) (C : Core prog w c.B (pinMore c.P s.heap (isFr c.env)) σ' s') (st : Stab s.heap s'.heap) : St prog w c ρ σ' s' := by
  have pinned : ∀ a, isFr c.env a → ∃ o, s.heap.get? a = some o ∧ pinMore c.P s.heap (isFr c.env) a = some o := fun a ha => by
    obtain ⟨o, ho⟩ := S.fr.get ha
    exact ⟨o, ho, by unfold pinMore; rw [if_pos ha]; exact ho⟩
  have same : ∀ a, a = c.env.locals ∨ (∃ y, c.env.cells.lookup y = some a) → s'.heap.get? a = s.heap.get? a := fun a ha => by
    obtain ⟨o, ho, hp⟩ := pinned a ha
    rw [ho, C.sees.pin a o hp]
  have fr := S.fr.stab same st
  have fresh : ∀ a, isFr c.env a → σ'.Fresh a := fun a ha => by
    obtain ⟨o, ho, hp⟩ := pinned a ha
    exact C.sees.apart a o hp
  exact ⟨⟨C.sees.unpin S.sees.base (pinMore_sub S.sees), C.os, C.gens⟩,
    { fr with freeL := ⟨fresh _ (.inl rfl), S.fr.freeL.2⟩, freeC := fun y a ha => ⟨fresh a (.inr ⟨y, ha⟩), (S.fr.freeC y a ha).2⟩ }⟩

/-- a function's contract, as the caller sees it -/
def CallOK (prog : Program) (w : World) (B : Basis) (A : Around) (f : Value) (σ : AH) (avs : List AV) (kws : Rho) (Q : AV → AH → Prop) : Prop :=
  ∀ P s vals kw, Core prog w B P σ s → VRs s.heap vals avs → BRep s.heap kw kws →
    wpAny (model prog w) A (call f vals kw) (fun v s' => ∃ av σ', VR s'.heap v av ∧ Core prog w B P σ' s' ∧ Stab s.heap s'.heap ∧ Q av σ') NoE s

theorem EVt.call {f : Value} {avs : List AV} {kws : Rho} {vals : List Value} {kw : List (Str × Value)} {Q : AV → AH → Prop} (S : St prog w c ρ σ s) (hv : VRs s.heap vals avs) (hk : BRep s.heap kw kws)
    (h : CallOK prog w c.B c.A f σ avs kws Q) : wpAny (model prog w) c.A (call f vals kw) (fun v s' => ∃ av σ', VR s'.heap v av ∧ St prog w c ρ σ' s' ∧ Stab s.heap s'.heap ∧ Q av σ') NoE s :=
  wpAny_mono (h _ s vals kw S.out hv hk) (fun v s' ⟨av, σ', hr, C, st, q⟩ => ⟨av, σ', hr, S.back C st, st, q⟩) fun _ _ e => e

/-! ### arguments -/
inductive PEs (prog : Program) (w : World) (c : Cx) (ρ : Rho) (σ : AH) : List Expr → List AV → Prop
  | nil : PEs prog w c ρ σ [] []
  | cons {e es a as} : PE prog w c ρ σ e a → (∀ rest, starEach (e :: rest) c.env = (false, eval e c.env) :: starEach rest c.env) → PEs prog w c ρ σ es as → PEs prog w c ρ σ (e :: es) (a :: as)
inductive PKs (prog : Program) (w : World) (c : Cx) (ρ : Rho) (σ : AH) : List Keyword → Rho → Prop
  | nil : PKs prog w c ρ σ [] []
  | cons {n e p ks a as} : PE prog w c ρ σ e a → PKs prog w c ρ σ ks as → PKs prog w c ρ σ (⟨some n, e, p⟩ :: ks) ((n, a) :: as)

theorem PEs.run {es : List Expr} {as : List AV} {pos : Pos} (h : PEs prog w c ρ σ es as) : ∀ {s : Shared} {R : List Value → Shared → Prop}, St prog w c ρ σ s →
    (∀ vs s', St prog w c ρ σ s' → Pv prog w c ρ σ s s' → VRs s'.heap vs as → R vs s') → wpAny (model prog w) c.A (spliced (backTo pos (starEach es c.env))) R NoE s := by
  induction h with
  | nil => intro s R S k; exact wpAny_items_nil (k [] s S (.refl S) .nil)
  | cons h1 he _ ih =>
    intro s R S k
    refine wpAny_items_cons (he := he _) (PE.one S h1 fun u s₁ S₁ p₁ hu => ih S₁ fun vs s₂ S₂ p₂ hvs => ?_)
    exact k _ s₂ S₂ (p₁.trans p₂) (.cons (hu.stab p₂.stab) hvs)

theorem PKs.run {ks : List Keyword} {as : Rho} {pos : Pos} (h : PKs prog w c ρ σ ks as) : ∀ {s : Shared} {R : List Value → Shared → Prop}, St prog w c ρ σ s →
    (∀ vs s', St prog w c ρ σ s' → Pv prog w c ρ σ s s' → BRep s'.heap (((backToKw pos (keywordEach ks c.env)).filterMap (·.1)).zip vs) as → R vs s') →
    wpAny (model prog w) c.A (evalAll ((backToKw pos (keywordEach ks c.env)).map (·.2))) R NoE s := by
  induction h with
  | nil => intro s R S k; exact wpAny_evalAll_nil (k [] s S (.refl S) .nil)
  | @cons n e p ks a as h1 _ ih =>
    intro s R S k
    show wpAny _ _ (evalAll ((do let v ← eval e c.env; standAt pos; pure v) :: (backToKw pos (keywordEach ks c.env)).map (·.2))) _ _ s
    refine wpAny_evalAll_cons (wpAny_bind (PE.one S h1 fun u s₁ S₁ p₁ hu => wpAny_bind (wpAny_standAt (wpAny_pure (ih S₁ fun vs s₂ S₂ p₂ hvs => ?_)))))
    exact k _ s₂ S₂ (p₁.trans p₂) (.cons (hu.stab p₂.stab) hvs)
theorem PKs.some {ks : List Keyword} {as : Rho} {pos : Pos} (h : PKs prog w c ρ σ ks as) : (backToKw pos (keywordEach ks c.env)).all (·.1.isSome) = true := by
  induction h with
  | nil => rfl
  | cons _ _ ih => show (true && _) = true; rw [Bool.true_and]; exact ih

/-- f(x, .., k=y, ..) of a def of the top -/
theorem EV.call {f : Str} {fa : Addr} {fd : FuncData} {body : List Stmt} {p pos : Pos} {es : List Expr} {ks : List Keyword} {avs : List AV} {kws : Rho} {Q : AV → AH → Prop} (hB : c.B.OK) (F : FnF c.B f fa fd body)
    (hes : PEs prog w c ρ σ es avs) (hks : PKs prog w c ρ σ ks kws) (h : CallOK prog w c.B c.A (.ref fa) σ avs kws Q)
    (hg : c.env.kindOf f = some .globalImplicit := by rfl) (hd' : (f == ("__debug__" : Str)) = false := by decide) : EV prog w c ρ σ (.Call (.Name f p) es ks pos) Q := fun s S => by
  refine wpAny_Call_Name_kw (PE.one S (PE.global hB F.mg hg hd') fun u s₁ S₁ p₁ hu => ?_)
  cases hu.val_inv
  obtain ⟨o, ho, hd⟩ := F.obj
  refine callWith_function_kw (o := o) (fd := fd) ?_
  have fin : ∀ vs (s₂ : Shared), St prog w c ρ σ s₂ → Pv prog w c ρ σ s s₂ → VRs s₂.heap vs avs → wpAny (model prog w) c.A (evalAll ((backToKw pos (keywordEach ks c.env)).map (·.2)))
      (fun kvs s₃ => (s₃.heap.get? fa = some o ∧ o.data = .func fd) ∧ wpAny (model prog w) c.A (PySem.call (.ref fa) ([] ++ vs) (((backToKw pos (keywordEach ks c.env)).filterMap (·.1)).zip kvs))
        (fun v s' => ∃ av σ', VR s'.heap v av ∧ St prog w c ρ σ' s' ∧ Stab s.heap s'.heap ∧ Q av σ') NoE s₃) NoE s₂ := fun vs s₂ S₂ p₂ hvs => by
    refine hks.run S₂ fun kvs s₃ S₃ p₃ hkv => ⟨⟨S₃.sees.keeps _ _ ho, hd⟩, ?_⟩
    have pp := (p₂.trans p₃).stab
    exact wpAny_mono (EVt.call S₃ (hvs.stab p₃.stab) hkv h) (fun v s₄ ⟨av, σ', hr, S₄, st, q⟩ => ⟨av, σ', hr, S₄, pp.trans st, q⟩) fun _ _ e => e
  cases hes with
  | nil => exact evalArgs_kw_nil hks.some (fin [] s₁ S₁ p₁ .nil)
  | @cons e es a as h1 he hr =>
    rw [he es]
    show wpAny _ _ (evalArgs (.ref fa) true ((false, eval e c.env) :: backTo pos (starEach es c.env)) _) _ _ s₁
    refine evalArgs_kw hks.some ?_
    have := PEs.run (pos := pos) (PEs.cons h1 he hr) S₁ (R := fun vs s₂ => wpAny (model prog w) c.A (evalAll ((backToKw pos (keywordEach ks c.env)).map (·.2)))
      (fun kvs s₃ => (s₃.heap.get? fa = some o ∧ o.data = .func fd) ∧ wpAny (model prog w) c.A (PySem.call (.ref fa) ([] ++ vs) (((backToKw pos (keywordEach ks c.env)).filterMap (·.1)).zip kvs))
        (fun v s' => ∃ av σ', VR s'.heap v av ∧ St prog w c ρ σ' s' ∧ Stab s.heap s'.heap ∧ Q av σ') NoE s₃) NoE s₂) (fun vs s₂ S₂ p₂ hvs => fin vs s₂ S₂ (p₁.trans p₂) hvs)
    rw [he es] at this
    exact this
end
end Mine

/-! G9 -/
namespace Mine
section
variable {prog : Program} {w : World} {c : Cx} {ρ : Rho} {σ : AH} {s s' : Shared}

theorem imm_not {o : Obj} {t : String} (h : o.cls = .type t) (ht : (t == "tuple" || t == "dict_keys") = false) : ¬ Imm o := fun i => by
  rcases i.cls with c | c <;> rw [h] at c <;> injection c with c <;> subst c <;> revert ht <;> decide

/-- an iterator over items, its place told by its object -/
structure IT (prog : Program) (w : World) (I : Addr) (items : List AV) (At : Nat → Obj → Prop) (Src : AH → Prop) : Prop where
  imm : ∀ i o, At i o → ¬ Imm o
  next : ∀ (A : Around) (B : Basis) (P : Pins) (σ : AH) (s : Shared) (i : Nat) (x : AV) (o : Obj) (Q : Option Value → Shared → Prop), A.handled = none → Sees prog w B P σ s.heap → Src σ → s.heap.get? I = some o → At i o → items[i]? = some x →
    (∀ v s' o', VR s'.heap v x → Heap.ExtBut I s.heap s'.heap → s'.heap.get? I = some o' → At (i + 1) o' → s'.gens = s.gens → s'.os = s.os → Q (some v) s') → wpAny (model prog w) A (pyNext (.ref I)) Q NoE s
  fin : ∀ (A : Around) (B : Basis) (P : Pins) (σ : AH) (s : Shared) (o : Obj) (Q : Option Value → Shared → Prop), A.handled = none → Sees prog w B P σ s.heap → Src σ → s.heap.get? I = some o → At items.length o →
    (∀ s', Heap.ExtBut I s.heap s'.heap → s'.gens = s.gens → s'.os = s.os → Q none s') → wpAny (model prog w) A (pyNext (.ref I)) Q NoE s
  self : ∀ (A : Around) (i : Nat) (s : Shared) (o : Obj) (Q : Value → Shared → Prop), s.heap.get? I = some o → At i o → Q (.ref I) s → wpAny (model prog w) A (pyIter (.ref I)) Q NoE s

/-- a value, walked from its start: the iterator is new, or the value itself -/
def Walk (prog : Program) (w : World) (v : Value) (items : List AV) (Src : AH → Prop) (s : Shared) : Prop :=
  ∀ (A : Around) (Q : Value → Shared → Prop), (∀ I At s' o, s.heap.get? I = none → Pu s s' → IT prog w I items At Src → s'.heap.get? I = some o → At 0 o → Q (.ref I) s') → wpAny (model prog w) A (pyIter v) Q NoE s

theorem IT.list (I l : Addr) (items : List AV) : IT prog w I items (fun i o => o.cls = .type "list_iterator" ∧ o.data = .fields #[.ref l, .int i 0]) (fun σ => σ.list l = some items) where
  imm := fun i o ⟨h1, h2⟩ h => imm_not h1 rfl h
  next := fun A B P σ s i x o Q hA S hsrc ho hat hx h => by
    obtain ⟨vs, hl, hvs⟩ := S.list _ _ hsrc
    obtain ⟨v, hv, hr⟩ := hvs.get hx
    refine wpAny_pyNext_list_item ⟨o, ho, hat.1, hat.2⟩ hl.isList (by simpa using hv) fun h' hit hs => ?_
    obtain ⟨o', ho', h1, h2⟩ := hit
    exact h v _ o' (hr.stab (.sameBut hs (.cls ⟨o, ho, hat.1⟩ rfl))) hs.extBut ho' ⟨h1, h2⟩ rfl rfl
  fin := fun A B P σ s o Q hA S hsrc ho hat h => by
    obtain ⟨vs, hl, hvs⟩ := S.list _ _ hsrc
    exact wpAny_pyNext_list_end hA ⟨o, ho, hat.1, hat.2⟩ hl.isList (by rw [← hvs.length]; simp) fun h' he => h _ he rfl rfl
  self := fun A i s o Q ho hat h => wpAny_pyIter_listiter (l := l) (i := i) ⟨o, ho, hat.1, hat.2⟩ h
theorem Walk.list {B P} {l : Addr} {items : List AV} (S : Sees prog w B P σ s.heap) (hl : σ.list l = some items) : Walk prog w (.ref l) items (fun σ => σ.list l = some items) s := fun A Q h => by
  obtain ⟨vs, hl', hvs⟩ := S.list _ _ hl
  refine wpAny_pyIter_list hl'.isList (h _ _ _ _ ?_ (.push _ _) (.list _ l items) (Heap.get?_push_size _ rfl) ⟨rfl, rfl⟩)
  exact get?_none_of_le (Nat.le_refl _)

theorem IT.keys (I d : Addr) (ks : List Int) (ep : Nat) :
    IT prog w I (ks.map AV.int) (fun i o => o.cls = .type "dict_keyiterator" ∧ o.data = .fields #[.ref d, .int i 0, .int ks.length 0, .int ep 0]) (fun σ => ∃ v, σ.dI d = some ⟨ks, v, ep⟩) where
  imm := fun i o ⟨h1, h2⟩ h => imm_not h1 rfl h
  next := fun A B P σ s i x o Q hA S hsrc ho hat hx h => by
    obtain ⟨f, hf⟩ := hsrc
    obtain ⟨kvs, hd, hks, hvs⟩ := S.dI _ _ hf
    dsimp only at hd hks hvs
    have hlen : kvs.length = ks.length := by rw [← hks, List.length_map]
    rw [List.getElem?_map] at hx
    obtain ⟨k, hk, rfl⟩ := Option.map_eq_some_iff.mp hx
    have : (kvs.map (·.1))[i]? = some k := by rw [hks]; exact hk
    rw [List.getElem?_map] at this
    obtain ⟨⟨k', v⟩, hkv, hk'⟩ := Option.map_eq_some_iff.mp this
    cases hk'
    refine wpAny_pyNext_dict_item (knd := intKind prog w) (it := I) (d := d) (i := i) (ep := ep) ⟨o, ho, hat.1, by rw [hat.2, hlen]⟩ hd hkv fun key h' hkey hit hs => ?_
    obtain ⟨t, rfl⟩ := Value.isInt_shape hkey
    obtain ⟨o', ho', h1, h2⟩ := hit
    exact h _ _ o' (.int _ _) hs.extBut ho' ⟨h1, by rw [h2, hlen]⟩ rfl rfl
  fin := fun A B P σ s o Q hA S hsrc ho hat h => by
    obtain ⟨f, hf⟩ := hsrc
    obtain ⟨kvs, hd, hks, hvs⟩ := S.dI _ _ hf
    dsimp only at hd hks hvs
    have hlen : kvs.length = ks.length := by rw [← hks, List.length_map]
    refine wpAny_pyNext_dict_end (knd := intKind prog w) (d := d) (i := kvs.length) (ep := ep) hA ⟨o, ho, hat.1, by rw [hat.2, hlen, List.length_map]⟩ hd (by simp) fun h' he => h _ he rfl rfl
  self := fun A i s o Q ho hat h => wpAny_pyIter_keyiter (d := d) (i := i) (n := ks.length) (ep := ep) ⟨o, ho, hat.1, hat.2⟩ h
theorem Walk.keys {B P} {d : Addr} {dd : DI} (hd : (d == sysModules) = false) (S : Sees prog w B P σ s.heap) (hl : σ.dI d = some dd) :
    Walk prog w (.ref d) (dd.keys.map AV.int) (fun σ => ∃ v, σ.dI d = some ⟨dd.keys, v, dd.ep⟩) s := fun A Q h => by
  obtain ⟨kvs, hd', hks, hvs⟩ := S.dI _ _ hl
  have hlen : kvs.length = dd.keys.length := by rw [← hks, List.length_map]
  refine wpAny_pyIter_dict (knd := intKind prog w) hd hd' (h _ _ _ _ ?_ (.push _ _) (.keys _ d dd.keys dd.ep) (Heap.get?_push_size _ rfl) ⟨rfl, by simp [hlen]⟩)
  exact get?_none_of_le (Nat.le_refl _)

/-- an iterator that is neither known, nor pinned, nor of the frame -/
structure NewI (c : Cx) (σ : AH) (I : Addr) : Prop where
  pin : c.P I = none
  fresh : σ.Fresh I
  frame : ¬ isFr c.env I
theorem St.newI (S : St prog w c ρ σ s) {I : Addr} (hn : s.heap.get? I = none) : NewI c σ I := by
  have fr := S.sees.fresh hn
  refine ⟨fr.1, fr.2, fun h => ?_⟩
  obtain ⟨o', ho'⟩ := S.fr.get h
  rw [hn] at ho'; cases ho'
def WalkN (prog : Program) (w : World) (c : Cx) (σ : AH) (v : Value) (items : List AV) (Src : AH → Prop) (s : Shared) : Prop :=
  ∀ (A : Around) (Q : Value → Shared → Prop), (∀ I At s' o, NewI c σ I → Pu s s' → IT prog w I items At Src → s'.heap.get? I = some o → At 0 o → Q (.ref I) s') → wpAny (model prog w) A (pyIter v) Q NoE s
theorem Walk.toN {v : Value} {items : List AV} {Src : AH → Prop} (S : St prog w c ρ σ s) (x : Walk prog w v items Src s) : WalkN prog w c σ v items Src s := fun A Q h =>
  x A Q fun I At s' o hn p it ho hat => h I At s' o (S.newI hn) p it ho hat

/-- the iterable expression of a loop -/
def ITt (prog : Program) (w : World) (c : Cx) (ρ : Rho) (σ : AH) (t : Sem Value) (items : List AV) (Src : AH → Prop) : Prop :=
  ∀ s, St prog w c ρ σ s → wpAny (model prog w) c.A t (fun v s₁ => Pv prog w c ρ σ s s₁ ∧ WalkN prog w c σ v items Src s₁) NoE s

theorem ITt.list {e : Expr} {l : Addr} {items : List AV} (h : PE prog w c ρ σ e (.ref l)) (hl : σ.list l = some items) : ITt prog w c ρ σ (eval e c.env) items (fun σ => σ.list l = some items) := fun s S =>
  PE.one S h fun u s₁ S₁ p hu => ⟨p, by cases hu.ref_inv; exact (Walk.list S₁.sees hl).toN S₁⟩
theorem ITt.keys {e : Expr} {d : Addr} {dd : DI} (h : PE prog w c ρ σ e (.ref d)) (hl : σ.dI d = some dd) (hd : (d == sysModules) = false) : ITt prog w c ρ σ (eval e c.env) (dd.keys.map AV.int) (fun σ => ∃ v, σ.dI d = some ⟨dd.keys, v, dd.ep⟩) := fun s S =>
  PE.one S h fun u s₁ S₁ p hu => ⟨p, by cases hu.ref_inv; exact (Walk.keys hd S₁.sees hl).toN S₁⟩

/-- the state while an iterator I waits -/
structure Wait (prog : Program) (w : World) (c : Cx) (ρ : Rho) (σ : AH) (I : Addr) (At : Obj → Prop) (s : Shared) : Prop where
  st : St prog w c ρ σ s
  at_ : ∃ o, s.heap.get? I = some o ∧ At o
  pin : c.P I = none
  fresh : σ.Fresh I
  frame : ¬ isFr c.env I

def Cx.pinned (c : Cx) (P : Pins) : Cx := { c with P := P }

theorem FrOK.repin {B P P' env wr} {h : Heap} (x : FrOK B P σ env ρ wr h) (hl : P' env.locals = none) (hc : ∀ y a, env.cells.lookup y = some a → wr y = true → P a = none → P' a = none) : FrOK B P' σ env ρ wr h :=
  { x with freeL := ⟨x.freeL.1, hl⟩, freeC := fun y a ha => ⟨(x.freeC y a ha).1, fun hw => hc y a ha hw ((x.freeC y a ha).2 hw)⟩ }

theorem Wait.into {I : Addr} {At : Obj → Prop} (W : Wait prog w c ρ σ I At s) : St prog w (c.pinned (pinMore c.P s.heap (· = I))) ρ σ s :=
  ⟨⟨W.st.sees.pinMore (X := (· = I)) (fun a ha => ha ▸ W.fresh), W.st.os, W.st.gens⟩, W.st.fr.repin
    (by show pinMore c.P s.heap (· = I) c.env.locals = none; unfold pinMore; rw [if_neg (fun e => W.frame (.inl e.symm))]; exact W.st.fr.freeL.2)
    (fun y a ha _ hp => by show pinMore c.P s.heap (· = I) a = none; unfold pinMore; rw [if_neg (fun e : a = I => W.frame (.inr ⟨y, e ▸ ha⟩))]; exact hp)⟩
theorem Wait.back {I : Addr} {At : Obj → Prop} {ρ' : Rho} {σ' : AH} (W : Wait prog w c ρ σ I At s) (S : St prog w (c.pinned (pinMore c.P s.heap (· = I))) ρ' σ' s') : Wait prog w c ρ' σ' I At s' := by
  obtain ⟨o, ho, hat⟩ := W.at_
  have hp : pinMore c.P s.heap (· = I) I = some o := by unfold pinMore; rw [if_pos rfl]; exact ho
  have hsub : ∀ b o, c.P b = some o → pinMore c.P s.heap (· = I) b = some o := pinMore_sub W.st.sees
  refine ⟨⟨⟨S.sees.unpin W.st.sees.base hsub, S.os, S.gens⟩, S.fr.repin W.st.fr.freeL.2 fun y a ha hw h => ?_⟩, ⟨o, S.sees.pin _ _ hp, hat⟩, W.pin, S.sees.apart _ _ hp, W.frame⟩
  cases e : c.P a with
  | none => rfl
  | some o' => exact absurd (hsub a o' e) (by rw [show pinMore c.P s.heap (· = I) a = none from h]; nofun)

/-- a step of the iterator -/
theorem Wait.step {I : Addr} {At At' : Obj → Prop} {o' : Obj} (W : Wait prog w c ρ σ I At s) (hi : ∀ o, At o → ¬ Imm o) (he : Heap.ExtBut I s.heap s'.heap) (ho : s'.heap.get? I = some o') (hat : At' o') (hg : s'.gens = s.gens) (hos : s'.os = s.os) :
    Wait prog w c ρ σ I At' s' ∧ Stab s.heap s'.heap := by
  obtain ⟨o, ho0, hat0⟩ := W.at_
  have st : Stab s.heap s'.heap := .extBut he fun o₁ e₁ i₁ => by rw [ho0] at e₁; cases e₁; exact hi _ hat0 i₁
  exact ⟨⟨⟨⟨W.st.sees.but he W.pin W.fresh st, by rw [hos]; exact W.st.os, by rw [hg]; exact W.st.gens⟩, W.st.fr.put he W.frame st fun b hb f => f⟩, ⟨o', ho, hat⟩, W.pin, W.fresh, W.frame⟩, st⟩
theorem Wait.ended {I : Addr} {At : Obj → Prop} (W : Wait prog w c ρ σ I At s) (hi : ∀ o, At o → ¬ Imm o) (he : Heap.ExtBut I s.heap s'.heap) (hg : s'.gens = s.gens) (hos : s'.os = s.os) :
    St prog w c ρ σ s' ∧ Stab s.heap s'.heap := by
  obtain ⟨o, ho0, hat0⟩ := W.at_
  have st : Stab s.heap s'.heap := .extBut he fun o₁ e₁ i₁ => by rw [ho0] at e₁; cases e₁; exact hi _ hat0 i₁
  exact ⟨⟨⟨W.st.sees.but he W.pin W.fresh st, by rw [hos]; exact W.st.os, by rw [hg]; exact W.st.gens⟩, W.st.fr.put he W.frame st fun b hb f => f⟩, st⟩
theorem Wait.start {I : Addr} {At : Obj → Prop} {o : Obj} {s₁ : Shared} (S : St prog w c ρ σ s) (p : Pu s s₁) (hn : NewI c σ I) (ho : s₁.heap.get? I = some o) (hat : At o) : Wait prog w c ρ σ I At s₁ :=
  ⟨S.pu p, ⟨o, ho, hat⟩, hn.pin, hn.fresh, hn.frame⟩

theorem codeAny_noE {code : Code} {R : Result → Shared → Prop} (h : codeAny (model prog w) c.A code R s) : codeAny (model prog w) c.A code R s := h

/-- for x in e: .. -/
theorem S1.for_ {x : Str} {px pos : Pos} {iter : Expr} {body orelse : List Stmt} {items : List AV} {Src : AH → Prop} {Q : AF → Rho → AH → Prop} {n : Nat} (hA : Rm c.A n)
    (hit : ITt prog w c ρ σ (eval iter c.env) items Src) (Inv : Nat → Rho → AH → Prop) (h0 : Inv 0 ρ σ) (hsrc : ∀ i ρ₁ σ₁, i ≤ items.length → Inv i ρ₁ σ₁ → Src σ₁)
    (step : ∀ i a ρ₁ σ₁ P', items[i]? = some a → Inv i ρ₁ σ₁ → SX prog w (c.pinned P') ((x, a) :: ρ₁) σ₁ body
      (fun f ρ₂ σ₂ => match f with | .next => Inv (i + 1) ρ₂ σ₂ | .cont => Inv (i + 1) ρ₂ σ₂ | .brk => Q .next ρ₂ σ₂ | .ret v => Q (.ret v) ρ₂ σ₂))
    (fin : ∀ ρ₁ σ₁, Inv items.length ρ₁ σ₁ → SX prog w c ρ₁ σ₁ orelse Q)
    (hx : isSto c.env c.wr x = true := by rfl) (hs : ∀ x, foldedSetIterable iter c.env x = pure x := by intro _; rfl) : S1 prog w c ρ σ (.For (.Name x px) iter body orelse pos) Q := fun s S => by
  refine wpAny_For (hs := hs) (wpAny_mono (hit s S) (fun v s₁ ⟨p₁, wk⟩ => wk c.A _ fun I At s₂ o hn p₂ it ho hat => ?_) fun _ _ e => e)
  have W₀ : Wait prog w c ρ σ I (At 0) s₂ := .start p₁.st p₂ hn ho hat
  refine codeAny_forLoop (fun k s' => ∃ i ρ₁ σ₁, Wait prog w c ρ₁ σ₁ I (At i) s' ∧ Stab s.heap s'.heap ∧ Inv i ρ₁ σ₁ ∧ i ≤ items.length ∧ k = items.length + 1 - i) ?_ (items.length + 1)
    ⟨0, ρ, σ, W₀, p₁.stab.trans p₂.ext.stab, h0, Nat.zero_le _, rfl⟩
  rintro k s' ⟨i, ρ₁, σ₁, W, st, hI, hi, rfl⟩
  obtain ⟨o₁, ho₁, hat₁⟩ := W.at_
  have up : ∀ {α : Type} {t : Sem α} {Q : α → Shared → Prop} {E : Value → Shared → Prop} {s : Shared}, wpAny (model prog w) c.A t Q NoE s → wpAny (model prog w) c.A t Q E s := fun h => wpAny_mono h (fun _ _ q => q) fun _ _ e => e.elim
  by_cases hlt : i < items.length
  · refine up (it.next c.A c.B c.P σ₁ s' i items[i] o₁ _ hA.1 W.st.sees (hsrc i _ _ hi hI) ho₁ hat₁ (by simp [hlt]) fun v s₃ o₃ hv he ho₃ hat₃ hg hos => ?_)
    obtain ⟨W₃, st₃⟩ := W.step (it.imm i) he ho₃ hat₃ hg hos
    have S₃ := W₃.into
    refine up (wpAny_assign_Name (St.store (c := c.pinned _) (A := c.A) S₃ hv hx fun s₄ S₄ st₄ => ?_))
    refine up (wpAny_mono (step i items[i] ρ₁ σ₁ (pinMore c.P s₃.heap (· = I)) (by simp [hlt]) hI s₄ S₄) (fun f s₅ h₅ => ?_) fun _ _ e => e)
    obtain ⟨af, ρ₂, σ₂, hf, S₅, st₅, q⟩ := h₅
    have W₅ := W₃.back S₅
    have stt := (st.trans st₃).trans (st₄.trans st₅)
    cases hf with
    | next => exact ⟨_, by omega, i + 1, ρ₂, σ₂, W₅, stt, q, hlt, rfl⟩
    | cont => exact ⟨_, by omega, i + 1, ρ₂, σ₂, W₅, stt, q, hlt, rfl⟩
    | brk => exact ⟨.next, ρ₂, σ₂, .next, W₅.st, stt, q⟩
    | ret hr => exact ⟨.ret _, ρ₂, σ₂, .ret hr, W₅.st, stt, q⟩
  · have hin : i = items.length := by omega
    subst hin
    refine up (it.fin c.A c.B c.P σ₁ s' o₁ _ hA.1 W.st.sees (hsrc _ _ _ hi hI) ho₁ hat₁ fun s₃ he hg hos => ?_)
    obtain ⟨S₃, st₃⟩ := W.ended (it.imm _) he hg hos
    refine up (wpAny_mono (fin ρ₁ σ₁ hI s₃ S₃) (fun f s₅ h₅ => ?_) fun _ _ e => e)
    obtain ⟨af, ρ₂, σ₂, hf, S₅, st₅, q⟩ := h₅
    exact ⟨af, ρ₂, σ₂, hf, S₅, (st.trans st₃).trans st₅, q⟩
end
end Mine

/-! G10 -/
namespace Mine

/-- the cells a comprehension takes over -/
def closeOver (env : Env) : List (Str × NameKind) → List (Str × Addr) → List (Str × Addr)
  | [], acc => acc
  | (n, k) :: r, acc => if k == .free then (match env.cells.lookup n with | some a => closeOver env r ((n, a) :: acc) | none => closeOver env r acc) else closeOver env r acc

def isCellVar (env : Env) (x : Str) : Bool := match env.kindOf x with
  | some .cell | some .free => true
  | _ => false
/-- a comprehension's scope fits -/
def compOK (scope : Scope) (env : Env) : Bool := (scope.names.all fun x => x.2 != .free || isCellVar env x.1) && decide ((scope.names.map (·.1)).Nodup) && (scope.kind == .function)

/-- the variables that a comprehension sees -/
def capt (scope : Scope) (ρ : Rho) : Rho := ρ.filter fun p => scope.names.lookup p.1 == some .free

def compEnv0 (env : Env) (scope : Scope) (L : Addr) : Env :=
  { scope := scope, locals := L, globals := env.globals, cells := cellsFrom (L + 1) scope.names (closeOver env scope.names []), qual := env.qual, func := none, code := env.code, frame := env.frame, builtins := env.builtins }
def compCx (c : Cx) (scope : Scope) (L : Addr) (P : Pins) : Cx :=
  { A := c.A, B := c.B, P := P,
    env := { scope := relabel scope c.env, locals := L, globals := c.env.globals, cells := cellsFrom (L + 1) scope.names (closeOver c.env scope.names []), qual := c.env.qual, func := none, code := c.env.code, frame := c.env.frame, builtins := c.env.builtins },
    wr := fun y => scope.names.lookup y == some .cell }

theorem cellsFrom_append : ∀ (names : List (Str × NameKind)) (n : Nat) (acc : List (Str × Addr)), cellsFrom n names acc = cellsFrom n names [] ++ acc
  | [], _, _ => rfl
  | (y, k) :: r, n, acc => by
    unfold cellsFrom
    split
    · rw [cellsFrom_append r _ ((y, n) :: acc), cellsFrom_append r _ [(y, n)], List.append_assoc]; rfl
    · exact cellsFrom_append r n acc
theorem cellsFrom_names : ∀ (names : List (Str × NameKind)) (n : Nat) (acc : List (Str × Addr)) (x : Str) (a : Addr), (x, a) ∈ cellsFrom n names acc → (x, NameKind.cell) ∈ names ∨ (x, a) ∈ acc
  | [], _, _, _, _, h => .inr h
  | (y, k) :: r, n, acc, x, a, h => by
    unfold cellsFrom at h
    split at h
    · rename_i hk
      have hk : k = .cell := by simpa using hk
      subst hk
      rcases cellsFrom_names r _ _ x a h with h | h
      · exact .inl (.tail _ h)
      · rcases List.mem_cons.mp h with h | h
        · cases h; exact .inl (.head _)
        · exact .inr h
    · rcases cellsFrom_names r _ _ x a h with h | h
      · exact .inl (.tail _ h)
      · exact .inr h
theorem closeOver_acc {env : Env} : ∀ (names : List (Str × NameKind)) (acc : List (Str × Addr)) (x : Str) (a : Addr), (∀ a, (x, a) ∈ acc → env.cells.lookup x = some a) → (x, a) ∈ closeOver env names acc → env.cells.lookup x = some a ∧ ((x, NameKind.free) ∈ names ∨ (x, a) ∈ acc)
  | [], _, x, a, ha, h => ⟨ha a h, .inr h⟩
  | (y, k) :: r, acc, x, a, ha, h => by
    unfold closeOver at h
    split at h
    · rename_i hk
      have hk : k = .free := by simpa using hk
      subst hk
      split at h
      · rename_i b hb
        by_cases hxy : x = y
        · subst hxy
          have h2 : ∀ a, (x, a) ∈ (x, b) :: acc → env.cells.lookup x = some a := fun a' h' => by
            rcases List.mem_cons.mp h' with h' | h'
            · cases h'; exact hb
            · exact ha a' h'
          exact ⟨(closeOver_acc r _ x a h2 h).1, .inl (.head _)⟩
        · have h2 : ∀ a, (x, a) ∈ (y, b) :: acc → env.cells.lookup x = some a := fun a' h' => by
            rcases List.mem_cons.mp h' with h' | h'
            · cases h'; exact absurd rfl hxy
            · exact ha a' h'
          obtain ⟨h3, h4⟩ := closeOver_acc r _ x a h2 h
          refine ⟨h3, ?_⟩
          rcases h4 with h4 | h4
          · exact .inl (.tail _ h4)
          · rcases List.mem_cons.mp h4 with h4 | h4
            · cases h4; exact absurd rfl hxy
            · exact .inr h4
      · obtain ⟨h3, h4⟩ := closeOver_acc r _ x a ha h
        exact ⟨h3, h4.imp (.tail _) id⟩
    · obtain ⟨h3, h4⟩ := closeOver_acc r _ x a ha h
      exact ⟨h3, h4.imp (.tail _) id⟩
theorem closeOver_mono {env : Env} : ∀ (names : List (Str × NameKind)) (acc : List (Str × Addr)) (x : Str), (acc.lookup x).isSome = true → ((closeOver env names acc).lookup x).isSome = true
  | [], _, _, h => h
  | (y, k) :: r, acc, x, h => by
    unfold closeOver
    split
    · split
      · refine closeOver_mono r _ x ?_
        rw [List.lookup_cons]
        split
        · rfl
        · exact h
      · exact closeOver_mono r _ x h
    · exact closeOver_mono r _ x h
theorem closeOver_has {env : Env} : ∀ (names : List (Str × NameKind)) (acc : List (Str × Addr)) (x : Str), (x, NameKind.free) ∈ names → (env.cells.lookup x).isSome = true → ((closeOver env names acc).lookup x).isSome = true
  | (y, k) :: r, acc, x, h, hs => by
    unfold closeOver
    rcases List.mem_cons.mp h with h | h
    · cases h
      simp only [beq_self_eq_true, if_true]
      obtain ⟨a, ha⟩ := Option.isSome_iff_exists.mp hs
      rw [ha]
      exact closeOver_mono r _ _ (by simp [List.lookup])
    · split
      · split
        · exact closeOver_has r _ x h hs
        · exact closeOver_has r _ x h hs
      · exact closeOver_has r _ x h hs

theorem closureFor_eq {env : Env} {scope : Scope} (h : ∀ x, (x, NameKind.free) ∈ scope.names → (env.cells.lookup x).isSome = true) : closureFor scope env = pure (closeOver env scope.names []) := by
  unfold closureFor
  have key : ∀ (names : List (Str × NameKind)) (acc : List (Str × Addr)), (∀ x, (x, NameKind.free) ∈ names → (env.cells.lookup x).isSome = true) →
      (forIn names acc (fun x cs => match x with | (name, kind) => if (kind == NameKind.free) = true then do let a ← cellOf env name; pure (ForInStep.yield ((name, a) :: cs)) else pure (ForInStep.yield cs)) : Sem (List (Str × Addr))) = pure (closeOver env names acc) := by
    intro names
    induction names with
    | nil => intro acc _; rfl
    | cons y r ih =>
      intro acc hh
      obtain ⟨n, k⟩ := y
      rw [List.forIn_cons]
      unfold closeOver
      by_cases hk : (k == NameKind.free) = true
      · have hk' : k = .free := by simpa using hk
        subst hk'
        obtain ⟨a, ha⟩ := Option.isSome_iff_exists.mp (hh n (.head _))
        simp only [beq_self_eq_true, if_true, cellOf, ha]
        show _ = _
        rw [pure_bind, pure_bind]
        exact ih _ fun x hx => hh x (.tail _ hx)
      · simp only [hk, if_false, Bool.false_eq_true]
        rw [pure_bind]
        exact ih _ fun x hx => hh x (.tail _ hx)
  have := key scope.names [] h
  exact (congrArg (fun t : Sem (List (Str × Addr)) => t >>= fun cs => pure cs) this).trans (pure_bind _ _)

section
variable {prog : Program} {w : World} {c : Cx} {ρ : Rho} {σ : AH} {s s' : Shared}

theorem compOK_free {scope : Scope} {env : Env} (h : compOK scope env = true) {x : Str} (hx : (x, NameKind.free) ∈ scope.names) : isCellVar env x = true := by
  unfold compOK at h
  simp only [Bool.and_eq_true] at h
  have := List.all_eq_true.mp h.1.1 _ hx
  simpa using this
theorem compOK_nodup {scope : Scope} {env : Env} (h : compOK scope env = true) : (scope.names.map (·.1)).Nodup := by
  unfold compOK at h
  simp only [Bool.and_eq_true, decide_eq_true_eq] at h
  exact h.1.2
theorem compOK_kind {scope : Scope} {env : Env} (h : compOK scope env = true) : scope.kind = .function := by
  unfold compOK at h
  simp only [Bool.and_eq_true, beq_iff_eq] at h
  exact h.2
theorem lookup_of_nodup {α : Type} : ∀ {l : List (Str × α)} {x : Str} {a : α}, (l.map (·.1)).Nodup → (x, a) ∈ l → l.lookup x = some a
  | (y, b) :: r, x, a, hn, h => by
    rw [List.map_cons, List.nodup_cons] at hn
    rcases List.mem_cons.mp h with h | h
    · cases h; simp [List.lookup]
    · have hxy : x ≠ y := fun e => hn.1 (e ▸ List.mem_map.mpr ⟨(x, a), h, rfl⟩)
      have : (x == y) = false := by simpa using hxy
      rw [List.lookup_cons, this]
      exact lookup_of_nodup hn.2 h
theorem FrOK.cellVar {B P env wr} {h : Heap} (X : FrOK B P σ env ρ wr h) {x : Str} (hx : isCellVar env x = true) : ∃ a v, env.cells.lookup x = some a ∧ h.IsCell a v ∧ OR h v (ρ.lookup x) := by
  unfold isCellVar at hx
  split at hx
  · rename_i hk; exact X.cell x (.inl hk)
  · rename_i hk; exact X.cell x (.inr hk)
  · cases hx

theorem relabel_local {scope : Scope} {env : Env} {x : Str} {k : NameKind} (h : (relabel scope env).names.lookup x = some k) (hk : k = .local) : scope.names.lookup x = some .local := by
  subst hk
  have key : ∀ names : List (Str × NameKind), (names.map fun (n, k) => if (k == NameKind.free && env.scope.kind == .function && env.kindOf n == some .cell) then (n, NameKind.cell) else (n, k)).lookup x = some .local → names.lookup x = some .local := by
    intro names
    induction names with
    | nil => intro h; cases h
    | cons y r ih =>
      intro h
      obtain ⟨n, k⟩ := y
      rw [List.map_cons] at h
      by_cases hc : (k == NameKind.free && env.scope.kind == .function && env.kindOf n == some .cell) = true
      · simp only [hc, if_true] at h
        rw [List.lookup_cons] at h ⊢
        cases hx : x == n with
        | true => rw [hx] at h; cases h
        | false => rw [hx] at h; exact ih h
      · simp only [hc, if_false, Bool.false_eq_true] at h
        rw [List.lookup_cons] at h ⊢
        cases hx : x == n with
        | true => rw [hx] at h; exact h
        | false => rw [hx] at h; exact ih h
  exact key _ h
theorem relabel_cell {scope : Scope} {env : Env} {x : Str} (h : (relabel scope env).names.lookup x = some .cell ∨ (relabel scope env).names.lookup x = some .free) : scope.names.lookup x = some .cell ∨ scope.names.lookup x = some .free := by
  have key : ∀ names : List (Str × NameKind), ((names.map fun (n, k) => if (k == NameKind.free && env.scope.kind == .function && env.kindOf n == some .cell) then (n, NameKind.cell) else (n, k)).lookup x = some .cell ∨
      (names.map fun (n, k) => if (k == NameKind.free && env.scope.kind == .function && env.kindOf n == some .cell) then (n, NameKind.cell) else (n, k)).lookup x = some .free) → names.lookup x = some .cell ∨ names.lookup x = some .free := by
    intro names
    induction names with
    | nil => intro h; rcases h with h | h <;> cases h
    | cons y r ih =>
      intro h
      obtain ⟨n, k⟩ := y
      rw [List.map_cons] at h
      by_cases hc : (k == NameKind.free && env.scope.kind == .function && env.kindOf n == some .cell) = true
      · have hk : k = .free := by simp only [Bool.and_eq_true, beq_iff_eq] at hc; exact hc.1.1
        subst hk
        simp only [hc, if_true] at h
        rw [List.lookup_cons] at h ⊢
        cases hx : x == n with
        | true => exact .inr rfl
        | false => rw [hx] at h; exact ih h
      · simp only [hc, if_false, Bool.false_eq_true] at h
        rw [List.lookup_cons] at h ⊢
        cases hx : x == n with
        | true => rw [hx] at h; exact h
        | false => rw [hx] at h; exact ih h
  exact key _ h

theorem capt_lookup {scope : Scope} {ρ : Rho} {x : Str} (hx : scope.names.lookup x = some .free) : (capt scope ρ).lookup x = ρ.lookup x := by
  induction ρ with
  | nil => rfl
  | cons p r ih =>
    obtain ⟨n, a⟩ := p
    unfold capt at ih ⊢
    rw [List.filter_cons]
    by_cases hxn : x = n
    · subst hxn
      simp only [hx, beq_self_eq_true, if_true, lookup_cons_self]
    · split
      · rw [lookup_cons_ne hxn, lookup_cons_ne hxn]; exact ih
      · rw [lookup_cons_ne hxn]; exact ih
theorem capt_none {scope : Scope} {ρ : Rho} {x : Str} (hx : scope.names.lookup x ≠ some .free) : (capt scope ρ).lookup x = none := by
  induction ρ with
  | nil => rfl
  | cons p r ih =>
    obtain ⟨n, a⟩ := p
    unfold capt at ih ⊢
    rw [List.filter_cons]
    split
    · rename_i hn
      have hn : scope.names.lookup n = some .free := by simpa using hn
      have hxn : x ≠ n := by rintro rfl; exact hx hn
      rw [lookup_cons_ne hxn]; exact ih
    · exact ih

/-- the frame of a comprehension, made -/
theorem comp_frame {scope : Scope} {P' : Pins} {σ' : AH} {A : Around} {Q : Env → Shared → Prop} (S : St prog w c ρ σ s) (hok : compOK scope c.env = true)
    (C : Core prog w c.B P' σ' s) (hpc : ∀ a, isFr c.env a → σ'.Fresh a)
    (h : ∀ s', St prog w (compCx c scope s.heap.objs.size P') (capt scope ρ) σ' s' → Pu s s' → Q (compEnv0 c.env scope s.heap.objs.size) s') :
    wpAny (model prog w) A (newFunctionEnv scope c.env.globals (closeOver c.env scope.names []) [] c.env.qual none .none (some c.env)) Q NoE s := by
  simp only [newFunctionEnv, Option.isSome_some, if_true]
  refine wpAny_bind (wpAny_alloc ?_)
  refine wpAny_bind (wpAny_layCells _ (fun name kind cells => by cases kind == NameKind.cell <;> simp) _ _ _ _ ?_)
  have ok := cellsFrom_ok scope.names (s.heap.push { cls := .type "dict", data := .dict #[] }) (s.heap.objs.size + 1) [] ⟨fun _ _ hm => (nomatch hm), List.Pairwise.nil⟩ (by rw [Heap.size_push]; exact Nat.le_refl _)
  rw [Heap.size_push] at ok
  rw [show ({ s with heap := s.heap.push { cls := .type "dict", data := .dict #[] } } : Shared).heap.objs.size = s.heap.objs.size + 1 from Heap.size_push ..]
  refine wpAny_bind (wpAny_pure (wpAny_pure ?_))
  have e : Ext s.heap (pushCells (s.heap.push { cls := .type "dict", data := .dict #[] }) scope.names) := fun b o he => pushCells_keeps _ _ b o (Heap.get?_push_of_some _ he)
  have p : Pu s { s with heap := pushCells (s.heap.push { cls := .type "dict", data := .dict #[] }) scope.names } := ⟨e, rfl, id⟩
  have fr : ∀ a, s.heap.objs.size ≤ a → P' a = none ∧ σ'.Fresh a := fun a ha => C.sees.fresh (get?_none_of_le ha)
  have hcells : cellsFrom (s.heap.objs.size + 1) scope.names (closeOver c.env scope.names []) = cellsFrom (s.heap.objs.size + 1) scope.names [] ++ closeOver c.env scope.names [] := cellsFrom_append _ _ _
  have hnd := compOK_nodup hok
  -- where a cell's address lies
  have at_ : ∀ y a, (cellsFrom (s.heap.objs.size + 1) scope.names (closeOver c.env scope.names [])).lookup y = some a →
      ((y, a) ∈ cellsFrom (s.heap.objs.size + 1) scope.names [] ∧ scope.names.lookup y = some .cell) ∨ (c.env.cells.lookup y = some a ∧ scope.names.lookup y = some .free) := fun y a ha => by
    rw [hcells] at ha
    rcases List.mem_append.mp (mem_of_lookup ha) with h1 | h1
    · rcases cellsFrom_names _ _ _ _ _ h1 with h2 | h2
      · exact .inl ⟨h1, lookup_of_nodup hnd h2⟩
      · cases h2
    · obtain ⟨h2, h3⟩ := closeOver_acc scope.names [] y a (fun a h => by cases h) h1
      rcases h3 with h3 | h3
      · exact .inr ⟨h2, lookup_of_nodup hnd h3⟩
      · cases h3
  refine h _ ⟨⟨C.sees.ext e, C.os, C.gens⟩, ?_⟩ p
  have hkind := compOK_kind (scope := scope) (env := c.env) hok
  refine ⟨hkind, S.fr.glob, S.fr.bltn, ⟨_, (Heap.Ns.new s.heap (.type "dict")).keeps (pushCells_keeps _ _), fun y hy => ?_⟩, fun y hy => ?_, ⟨(fr _ (Nat.le_refl _)).2, (fr _ (Nat.le_refl _)).1⟩, fun y a ha => ?_, fun y a ha => ?_, fun y z a hw h1 h2 => ?_⟩
  · rw [capt_none (by rw [relabel_local hy rfl]; decide)]; trivial
  · have hy2 := relabel_cell (scope := scope) (env := c.env) hy
    rcases hy2 with hy2 | hy2
    · obtain ⟨a, ha⟩ := Option.isSome_iff_exists.mp (cellsFrom_has scope.names (s.heap.objs.size + 1) (closeOver c.env scope.names []) y hy2)
      rcases at_ y a ha with ⟨h1, _⟩ | ⟨_, h2⟩
      · exact ⟨a, none, ha, (ok.empty y a h1).1, by rw [capt_none (by rw [hy2]; decide)]; trivial⟩
      · rw [hy2] at h2; cases h2
    · obtain ⟨a, v, ha, hc, hv⟩ := S.fr.cellVar (compOK_free hok (mem_of_lookup hy2))
      have hs : ((cellsFrom (s.heap.objs.size + 1) scope.names (closeOver c.env scope.names [])).lookup y).isSome = true :=
        cellsFrom_acc _ _ _ _ (closeOver_has _ _ _ (mem_of_lookup hy2) (by rw [ha]; rfl))
      obtain ⟨b, hb⟩ := Option.isSome_iff_exists.mp hs
      rcases at_ y b hb with ⟨_, h2⟩ | ⟨h1, _⟩
      · rw [hy2] at h2; cases h2
      · rw [ha] at h1; cases h1
        exact ⟨a, v, hb, hc.keeps e, by rw [capt_lookup hy2]; exact hv.stab e.stab⟩
  · rcases at_ y a ha with ⟨h1, h2⟩ | ⟨h1, h2⟩
    · have := fr a (Nat.le_of_lt (ok.empty y a h1).2)
      exact ⟨this.2, fun _ => this.1⟩
    · refine ⟨hpc a (.inr ⟨y, h1⟩), fun hw => ?_⟩
      simp only [compCx, h2] at hw; cases hw
  · rcases at_ y a ha with ⟨h1, h2⟩ | ⟨h1, h2⟩
    · exact ⟨none, (ok.empty y a h1).1⟩
    · obtain ⟨v, hc⟩ := S.fr.cellC y a h1
      exact ⟨v, hc.keeps e⟩
  · have hw : scope.names.lookup y = some .cell := by simpa [compCx] using hw
    rcases at_ y a h1 with ⟨h1, _⟩ | ⟨_, h2⟩
    · rcases at_ z a h2 with ⟨h2, _⟩ | ⟨h2, _⟩
      · exact name_of_addr ok.apart h1 h2
      · obtain ⟨v, hc⟩ := S.fr.cellC z a h2
        have l1 := hc.lt
        have l2 := (ok.empty y a h1).2
        exact absurd (Nat.lt_of_lt_of_le l1 (Nat.le_of_succ_le l2)) (Nat.lt_irrefl _)
    · rw [hw] at h2; cases h2
end
end Mine

/-! G11 -/
namespace Mine
section
variable {prog : Program} {w : World} {c : Cx} {ρ : Rho} {σ : AH} {s s' : Shared}

theorem up {α : Type} {A : Around} {t : Sem α} {Q : α → Shared → Prop} {E : Value → Shared → Prop} {s : Shared} (h : wpAny (model prog w) A t Q NoE s) : wpAny (model prog w) A t Q E s := wpAny_mono h (fun _ _ q => q) fun _ _ e => e.elim

/-- a tree that acts and gives nothing -/
def ACt (prog : Program) (w : World) (c : Cx) (ρ : Rho) (σ : AH) (t : Sem Unit) (Q : AH → Prop) : Prop :=
  ∀ s, St prog w c ρ σ s → wpAny (model prog w) c.A t (fun _ s' => ∃ σ', St prog w c ρ σ' s' ∧ Stab s.heap s'.heap ∧ Q σ') NoE s

abbrev testsOf (env : Env) (ifs : List Expr) : Sem Bool := forIn ifs true fun c r => if r = true then do let ok ← isTrue c env (eval c env); pure (ForInStep.yield ok) else pure (ForInStep.yield r)
theorem PTl.nil : PTt prog w c ρ σ (testsOf c.env []) true := fun s S => wpAny_tests_nil ⟨rfl, .refl S⟩
theorem PTl.one {e : Expr} {b : Bool} (h : PT prog w c ρ σ e b) : PTt prog w c ρ σ (testsOf c.env [e]) b := fun s S => wpAny_tests_one (h s S)

abbrev turnForm (e : Expr) (depth : Nat) (I : Addr) (acc : Value) (env : Env) (x : Str) (px ipos : Pos) (ifs : List Expr) (act : Sem Unit) : Sem Fin := do
  standAt ipos
  match ← pyNext (.ref I) with
  | none => pure (.done .next)
  | some v =>
    letOwnedTupleGo (.Name x px) (.ref I) v
    assign (.Name x px) env v
    let mut ok := true
    for c in ifs do
      if ok then ok ← isTrue c env (eval c env)
    if ok then act
    again (.compLoop e depth (.ref I) acc env)

/-- one clause's loop -/
theorem compLoop_act {e : Expr} {depth : Nat} {I : Addr} {acc : Value} {x : Str} {px ipos : Pos} {ifs : List Expr} {act : Sem Unit} {items : List AV} {At : Nat → Obj → Prop} {Src : AH → Prop} {n : Nat} (hA : Rm c.A n)
    (hturn : compTurn e depth (.ref I) acc c.env = turnForm e depth I acc c.env x px ipos ifs act)
    (hden : (model prog w).den (.compLoop e depth (.ref I) acc c.env) = (compTurn e depth (.ref I) acc c.env).onRaise (fun x => do noteFrame x c.env; theTreesLotGoes x))
    (hund : c.A.under (.compLoop e depth (.ref I) acc c.env) = c.A) (hq : (Code.compLoop e depth (.ref I) acc c.env).quiet = true)
    (it : IT prog w I items At Src) (Inv : Nat → AH → Prop) (hsrc : ∀ i σ₁, i ≤ items.length → Inv i σ₁ → Src σ₁)
    (step : ∀ i a σ₁ P', items[i]? = some a → Inv i σ₁ → ∃ b, PTt prog w (c.pinned P') ((x, a) :: ρ) σ₁ (testsOf c.env ifs) b ∧
      if b = true then ACt prog w (c.pinned P') ((x, a) :: ρ) σ₁ act (Inv (i + 1)) else Inv (i + 1) σ₁)
    (W : Wait prog w c ρ σ I (At 0) s) (h0 : Inv 0 σ) (hρ : ρ.lookup x = none) (hx : isSto c.env c.wr x = true) {R : Result → Shared → Prop}
    (hR : ∀ s' σ', St prog w c ρ σ' s' → Stab s.heap s'.heap → Inv items.length σ' → R (.ok .next) s') :
    codeAny (model prog w) c.A (.compLoop e depth (.ref I) acc c.env) R s := by
  refine codeAny_loop hq (fun k s' => ∃ i σ₁, Wait prog w c ρ σ₁ I (At i) s' ∧ Stab s.heap s'.heap ∧ Inv i σ₁ ∧ i ≤ items.length ∧ k = items.length + 1 - i) ?_ (items.length + 1) ⟨0, σ, W, .refl _, h0, Nat.zero_le _, rfl⟩
  rintro k s' ⟨i, σ₁, W, st, hI, hi, rfl⟩
  obtain ⟨o₁, ho₁, hat₁⟩ := W.at_
  rw [hund, hden, hturn]
  refine wpAny_noted ?_
  refine wpAny_bind (wpAny_standAt ?_)
  by_cases hlt : i < items.length
  · refine wpAny_bind (up (it.next c.A c.B c.P σ₁ s' i items[i] o₁ _ hA.1 W.st.sees (hsrc i _ hi hI) ho₁ hat₁ (by simp [hlt]) fun v s₃ o₃ hv he ho₃ hat₃ hg hos => ?_))
    obtain ⟨W₃, st₃⟩ := W.step (it.imm i) he ho₃ hat₃ hg hos
    have S₃ := W₃.into
    show wpAny _ _ (letOwnedTupleGo (.Name x px) (.ref I) v >>= _) _ _ s₃
    refine wpAny_bind (wpAny_of_eq (show letOwnedTupleGo (.Name x px) (.ref I) v = pure () from rfl) ?_)
    refine wpAny_bind (up (wpAny_assign_Name (St.store (c := c.pinned _) (A := c.A) S₃ hv hx fun s₄ S₄ st₄ => ?_)))
    obtain ⟨b, ht, hb⟩ := step i items[i] σ₁ (pinMore c.P s₃.heap (· = I)) (by simp [hlt]) hI
    refine wpAny_bind (up (wpAny_mono (ht s₄ S₄) (fun ok s₅ ⟨eb, p₅⟩ => ?_) fun _ _ e => e))
    subst eb
    have fin : ∀ s₆ σ₂, St prog w (c.pinned (pinMore c.P s₃.heap (· = I))) ((x, items[i]) :: ρ) σ₂ s₆ → Stab s₅.heap s₆.heap → Inv (i + 1) σ₂ →
        Code.compLoop e depth (.ref I) acc c.env = Code.compLoop e depth (.ref I) acc c.env ∧ ∃ m, m < items.length + 1 - i ∧ ∃ i σ₁, Wait prog w c ρ σ₁ I (At i) s₆ ∧ Stab s.heap s₆.heap ∧ Inv i σ₁ ∧ i ≤ items.length ∧ m = items.length + 1 - i := fun s₆ σ₂ S₆ st₆ hI₆ => by
      have W₆ := W₃.back S₆
      refine ⟨rfl, items.length + 1 - (i + 1), by omega, i + 1, σ₂, { W₆ with st := W₆.st.weaken (fun y a hy => ?_) (.refl _) }, (st.trans st₃).trans (st₄.trans (p₅.stab.trans st₆)), hI₆, hlt, rfl⟩
      have : y ≠ x := by rintro rfl; rw [hρ] at hy; cases hy
      rw [lookup_cons_ne this]; exact hy
    cases ok with
    | false =>
      simp only [Bool.false_eq_true, if_false] at hb ⊢
      exact wpAny_pure (fin s₅ σ₁ p₅.st (.refl _) hb)
    | true =>
      simp only [if_true] at hb ⊢
      refine wpAny_bind (up (wpAny_mono (hb s₅ p₅.st) (fun _ s₆ ⟨σ₂, S₆, st₆, q⟩ => wpAny_pure (fin s₆ σ₂ S₆ st₆ q)) fun _ _ e => e))
  · have hin : i = items.length := by omega
    subst hin
    refine wpAny_bind (up (it.fin c.A c.B c.P σ₁ s' o₁ _ hA.1 W.st.sees (hsrc _ _ hi hI) ho₁ hat₁ fun s₃ he hg hos => ?_))
    obtain ⟨S₃, st₃⟩ := W.ended (it.imm _) he hg hos
    exact wpAny_pure (hR s₃ σ₁ S₃ (st.trans st₃) hI)

theorem compStart_act {e : Expr} {depth : Nat} {I : Addr} {acc : Value} {R : Result → Shared → Prop}
    (hden : (model prog w).den (.compStart e depth (.ref I) acc c.env) = (compStart e depth (.ref I) acc c.env).onRaise (fun x => do noteFrame x c.env; standAt theWindowsPlace))
    (hund : c.A.under (.compStart e depth (.ref I) acc c.env) = c.A) (hq : (Code.compLoop e depth (.ref I) acc c.env).quiet = true)
    (hst : ∀ (Q : Fin → Shared → Prop), (∀ s₁, Pu s s₁ → s₁.heap = s.heap → Q (.again (.compLoop e depth (.ref I) acc c.env)) s₁) → wpAny (model prog w) c.A (compStart e depth (.ref I) acc c.env) Q NoE s)
    (h : ∀ s₁, Pu s s₁ → s₁.heap = s.heap → codeAny (model prog w) c.A (.compLoop e depth (.ref I) acc c.env) R s₁) :
    codeAny (model prog w) c.A (.compStart e depth (.ref I) acc c.env) R s := by
  refine codeAny_of_tree ?_
  rw [hund, hden]
  refine wpAny_onRaise (up (hst _ fun s₁ p e => ⟨hq, h s₁ p e⟩))
end
end Mine

/-! G12 -/
namespace Mine
section
variable {prog : Program} {w : World} {c : Cx} {ρ : Rho} {σ : AH} {s s' : Shared}

/-- the iterable evaluated: it may add to what is known -/
def IT2 (prog : Program) (w : World) (c : Cx) (ρ : Rho) (σ : AH) (t : Sem Value) (K : AH → List AV → (AH → Prop) → Prop) : Prop :=
  ∀ s, St prog w c ρ σ s → wpAny (model prog w) c.A t (fun v s₁ => ∃ σ₁ items Src, St prog w c ρ σ₁ s₁ ∧ Stab s.heap s₁.heap ∧ WalkN prog w c σ₁ v items Src s₁ ∧ K σ₁ items Src) NoE s
theorem ITt.two {t : Sem Value} {items : List AV} {Src : AH → Prop} {K : AH → List AV → (AH → Prop) → Prop} (h : ITt prog w c ρ σ t items Src) (k : K σ items Src) : IT2 prog w c ρ σ t K := fun s S =>
  wpAny_mono (h s S) (fun v s₁ ⟨p, wk⟩ => ⟨σ, items, Src, p.st, p.stab, wk, k⟩) fun _ _ e => e
/-- a comprehension's run over items -/
def CB (prog : Program) (w : World) (c : Cx) (ρ : Rho) (e : Expr) (scope : Scope) (newAcc : Sem Value) (σ : AH) (items : List AV) (Src : AH → Prop) (Q : AV → AH → Prop) : Prop := ∃ ini : AH → Addr → AH,
    (∀ (P : Pins) (s : Shared) (R : Value → Shared → Prop), Core prog w c.B P σ s → (∀ s', Core prog w c.B P (ini σ s.heap.objs.size) s' → Pu s s' → R (.ref s.heap.objs.size) s') → wpAny (model prog w) c.A newAcc R NoE s) ∧
    (∀ D b, b ≠ D → σ.Fresh b → (ini σ D).Fresh b) ∧
    (∀ (D L : Addr) (P' : Pins) (I : Addr) (At : Nat → Obj → Prop) (s₀ : Shared) (R : Result → Shared → Prop), Nw σ D → IT prog w I items At Src → Wait prog w (compCx c scope L P') (capt scope ρ) (ini σ D) I (At 0) s₀ →
      (∀ s' σ', St prog w (compCx c scope L P') (capt scope ρ) σ' s' → Stab s₀.heap s'.heap → Q (.ref D) σ' → R (.ok .next) s') →
      codeAny (model prog w) c.A (.compStart e 0 (.ref I) (.ref D) (compCx c scope L P').env) R s₀)

theorem comp_run {e : Expr} {scope : Scope} {pos : Pos} {newAcc : Sem Value} {g : Comprehension} {gs : List Comprehension} {Q : AV → AH → Prop}
    (hcl : clausesOf e = g :: gs) (hs : ∀ x, foldedSetIterable g.iter c.env x = pure x)
    (hok : compOK scope c.env = true) (hit : IT2 prog w c ρ σ (eval g.iter c.env) fun σ₁ items Src => CB prog w c ρ e scope newAcc σ₁ items Src Q)
    {use : Option (Value → Sem Unit)} {R : Value → Shared → Prop} (S : St prog w c ρ σ s)
    (fin : ∀ D L s₅ σ', St prog w c ρ σ' s₅ → Stab s.heap s₅.heap → NewI c σ' L → (∃ m, s₅.heap.Ns L m) → Q (.ref D) σ' → compPost (model prog w) c.A NoE use R (.ref D) L (.ok .next) s₅) :
    wpAny (model prog w) c.A (comprehension e scope c.env pos newAcc false (eval g.iter c.env) use) R NoE s := by
  have hnames : ∀ x ∈ scope.names, x.2 = .local → scope.names.lookup x.1 = some .local := fun x hx hl => by
    obtain ⟨n, k⟩ := x
    simp only at hl; subst hl
    exact lookup_of_nodup (compOK_nodup hok) hx
  have hcells : ∀ x, (x, NameKind.free) ∈ scope.names → (c.env.cells.lookup x).isSome = true := fun x hx => by
    obtain ⟨a, v, ha, _⟩ := S.fr.cellVar (compOK_free hok hx)
    rw [ha]; rfl
  refine wpAny_comprehension_free (use := use) hcl hs (closureFor_eq hcells) (compOK_kind hok) hnames (wpAny_mono (hit s S) (fun v s₁ ⟨σ₁, items, Src, S₁, st₁, wk, ini, hacc, hini, loop⟩ => wk c.A _ fun I At s₂ o hn p₂ it ho hat => ?_) fun _ _ e => e)
  have S₂ := S₁.pu p₂
  refine hacc _ s₂ _ S₂.out fun s₃ C₃ p₃ => ?_
  generalize hP : pinMore c.P s₂.heap (isFr c.env) = P' at C₃
  generalize hD : s₂.heap.objs.size = D at C₃
  have hDn : s₂.heap.get? D = none := get?_none_of_le (Nat.le_of_eq hD)
  have frD := S₂.sees.fresh hDn
  have nwD : Nw σ₁ D := hD ▸ S₂.sees.nw
  have frI : c.P I = none ∧ σ₁.Fresh I := ⟨hn.pin, hn.fresh⟩
  have nfI : ¬ isFr c.env I := hn.frame
  have hI2 : s₂.heap.get? I = some o := ho
  have hID : I ≠ D := by rintro rfl; rw [hDn] at hI2; cases hI2
  have S₃ : St prog w c ρ σ₁ s₃ := S₂.pu p₃
  refine comp_frame S₃ hok C₃ (fun a ha => hini D a (by rintro rfl; obtain ⟨o', ho'⟩ := S₂.fr.get ha; rw [hDn] at ho'; cases ho') (S₂.fr.freeA ha)) fun s₄ S₄ p₄ => ?_
  have hI3 : s₃.heap.get? I = some o := p₃.ext _ _ hI2
  have W : Wait prog w (compCx c scope s₃.heap.objs.size P') (capt scope ρ) (ini σ₁ D) I (At 0) s₄ := by
    refine ⟨S₄, ⟨o, p₄.ext _ _ hI3, hat⟩, ?_, hini D I hID frI.2, fun h => ?_⟩
    · show P' I = none
      rw [← hP]; unfold pinMore; rw [if_neg nfI]; exact frI.1
    · rcases h with h | ⟨y, hy⟩
      · have : I < s₃.heap.objs.size := Heap.lt_size hI3
        rw [h] at this
        exact Nat.lt_irrefl _ this
      · have hy : (cellsFrom (s₃.heap.objs.size + 1) scope.names (closeOver c.env scope.names [])).lookup y = some I := hy
        rw [cellsFrom_append] at hy
        rcases List.mem_append.mp (mem_of_lookup hy) with h1 | h1
        · have ok := cellsFrom_ok scope.names (s₃.heap.push { cls := .type "dict", data := .dict #[] }) (s₃.heap.objs.size + 1) [] ⟨fun _ _ hm => (nomatch hm), List.Pairwise.nil⟩ (by rw [Heap.size_push]; exact Nat.le_refl _)
          rw [Heap.size_push] at ok
          have l1 : I < s₃.heap.objs.size := Heap.lt_size hI3
          exact absurd (Nat.lt_of_lt_of_le l1 (Nat.le_of_succ_le (ok.empty y I h1).2)) (Nat.lt_irrefl _)
        · obtain ⟨h2, _⟩ := closeOver_acc scope.names [] y I (fun a h => by cases h) h1
          exact nfI (.inr ⟨y, h2⟩)
  refine loop D s₃.heap.objs.size P' I At s₄ _ nwD it W fun s₅ σ' S₅ st₅ q => ?_
  obtain ⟨m, hm, _⟩ := S₅.fr.ns
  have C₅ : Core prog w c.B P' σ' s₅ := ⟨S₅.sees, S₅.os, S₅.gens⟩
  have stAll : Stab s₂.heap s₅.heap := (p₃.ext.stab.trans p₄.ext.stab).trans st₅
  have S₆ : St prog w c ρ σ' s₅ := S₂.back (by rw [hP]; exact C₅) stAll
  refine fin _ s₃.heap.objs.size s₅ σ' S₆ ((st₁.trans p₂.ext.stab).trans stAll) ⟨?_, S₅.fr.freeL.1, fun h => ?_⟩ ⟨m, hm⟩ (hD ▸ q)
  · have h0 : P' s₃.heap.objs.size = none := S₅.fr.freeL.2
    show c.P s₃.heap.objs.size = none
    cases e : c.P s₃.heap.objs.size with
    | none => rfl
    | some o =>
      have := pinMore_sub S₂.sees (X := isFr c.env) _ _ e
      rw [hP, h0] at this; cases this
  · obtain ⟨o', ho'⟩ := S₃.fr.get h
    exact absurd (Heap.lt_size ho') (Nat.lt_irrefl _)

/-- a comprehension, evaluated, or put at once into a name -/
structure EC (prog : Program) (w : World) (c : Cx) (ρ : Rho) (σ : AH) (e : Expr) (Q : AV → AH → Prop) : Prop where
  ev : EV prog w c ρ σ e Q
  put : ∀ x px s, isSto c.env c.wr x = true → St prog w c ρ σ s → wpAny (model prog w) c.A (evalThenUse e c.env (assign (.Name x px) c.env)) (fun _ s' => ∃ av σ', St prog w c ((x, av) :: ρ) σ' s' ∧ Stab s.heap s'.heap ∧ Q av σ') NoE s

theorem Wait.ofNew {I : Addr} {m} (S : St prog w c ρ σ s) (N : NewI c σ I) (hn : s.heap.Ns I m) : Wait prog w c ρ σ I (fun o => ¬ Imm o) s :=
  let ⟨o, _, _, ho, _⟩ := id hn; ⟨S, ⟨o, ho, fun i => NT.ns hn o ho i⟩, N.pin, N.fresh, N.frame⟩

theorem EC.compX {e : Expr} {scope : Scope} {pos : Pos} {newAcc : Sem Value} {g : Comprehension} {gs : List Comprehension} {Q : AV → AH → Prop}
    (heval : eval e c.env = comprehension e scope c.env pos newAcc false (eval g.iter c.env)) (huse : ∀ u, evalThenUse e c.env u = (comprehension e scope c.env pos newAcc false (eval g.iter c.env) (some u) >>= fun _ => pure ()))
    (hcl : clausesOf e = g :: gs) (hs : ∀ x, foldedSetIterable g.iter c.env x = pure x)
    (hok : compOK scope c.env = true) (hit : IT2 prog w c ρ σ (eval g.iter c.env) fun σ₁ items Src => CB prog w c ρ e scope newAcc σ₁ items Src Q) : EC prog w c ρ σ e Q where
  ev := fun s S => by
    show wpAny _ _ (eval e c.env) _ _ s
    rw [heval]
    refine comp_run hcl hs hok hit S fun D L s₅ σ' S₅ st N ⟨m, hm⟩ q => ⟨m, hm, fun h' hs' => ?_⟩
    obtain ⟨S₆, st₆⟩ := (Wait.ofNew S₅ N hm).ended (s' := { s₅ with heap := h' }) (fun _ h => h) hs'.extBut rfl rfl
    exact ⟨.ref _, σ', .ref _, S₆, st.trans st₆, q⟩
  put := fun x px s hx S => by
    rw [huse]
    refine wpAny_bind (comp_run hcl hs hok hit S fun D L s₅ σ' S₅ st N ⟨m, hm⟩ q => ?_)
    have W := Wait.ofNew S₅ N hm
    show wpAny _ _ (assign (.Name x px) c.env (.ref D)) _ _ s₅
    refine wpAny_assign_Name (St.store (c := c.pinned (pinMore c.P s₅.heap (· = L))) (A := c.A) W.into (.ref D) hx fun s₆ S₆ st₆ => ?_)
    have W₆ := W.back S₆
    have hm₆ : s₆.heap.Ns L m := by
      obtain ⟨o, es, ep, ho, r⟩ := hm
      have hp : pinMore c.P s₅.heap (· = L) L = some o := by unfold pinMore; rw [if_pos rfl]; exact ho
      exact ⟨o, es, ep, S₆.sees.pin _ _ hp, r⟩
    refine ⟨m, hm₆, fun h' hs' => ?_⟩
    obtain ⟨S₇, st₇⟩ := W₆.ended (s' := { s₆ with heap := h' }) (fun _ h => h) hs'.extBut rfl rfl
    exact wpAny_pure ⟨_, σ', S₇, st.trans (st₆.trans st₇), q⟩
theorem EC.comp {e : Expr} {scope : Scope} {pos : Pos} {newAcc : Sem Value} {g : Comprehension} {gs : List Comprehension} {items : List AV} {Src : AH → Prop} {ini : AH → Addr → AH} {Q : AV → AH → Prop}
    (heval : eval e c.env = comprehension e scope c.env pos newAcc false (eval g.iter c.env)) (huse : ∀ u, evalThenUse e c.env u = (comprehension e scope c.env pos newAcc false (eval g.iter c.env) (some u) >>= fun _ => pure ()))
    (hcl : clausesOf e = g :: gs) (hs : ∀ x, foldedSetIterable g.iter c.env x = pure x)
    (hok : compOK scope c.env = true) (hit : ITt prog w c ρ σ (eval g.iter c.env) items Src)
    (hacc : ∀ (P : Pins) (s : Shared) (R : Value → Shared → Prop), Core prog w c.B P σ s → (∀ s', Core prog w c.B P (ini σ s.heap.objs.size) s' → Pu s s' → R (.ref s.heap.objs.size) s') → wpAny (model prog w) c.A newAcc R NoE s)
    (hini : ∀ D b, b ≠ D → σ.Fresh b → (ini σ D).Fresh b)
    (loop : ∀ (D L : Addr) (P' : Pins) (I : Addr) (At : Nat → Obj → Prop) (s₀ : Shared) (R : Result → Shared → Prop), Nw σ D → IT prog w I items At Src → Wait prog w (compCx c scope L P') (capt scope ρ) (ini σ D) I (At 0) s₀ →
      (∀ s' σ', St prog w (compCx c scope L P') (capt scope ρ) σ' s' → Stab s₀.heap s'.heap → Q (.ref D) σ' → R (.ok .next) s') →
      codeAny (model prog w) c.A (.compStart e 0 (.ref I) (.ref D) (compCx c scope L P').env) R s₀) : EC prog w c ρ σ e Q := EC.compX heval huse hcl hs hok (hit.two ⟨ini, hacc, hini, loop⟩)
theorem S1.assignC {x : Str} {pos' pos : Pos} {value : Expr} {Q : AF → Rho → AH → Prop} (h : EC prog w c ρ σ value (fun av σ' => Q .next ((x, av) :: ρ) σ'))
    (hx : isSto c.env c.wr x = true := by rfl) (hs : swapsWith value (some (.Name x pos')) pos.line c.env = pure true := by rfl) : S1 prog w c ρ σ (.Assign [.Name x pos'] value pos) Q := fun s S => by
  show wpAny _ _ (exec _ _) _ _ s
  rw [exec_Assign_Name_used x pos' value pos hs]
  refine wpAny_bind (wpAny_standAt (wpAny_bind (wpAny_mono (h.put x pos' s hx S) (fun _ s' ⟨av, σ', S', st, q⟩ => wpAny_pure ⟨.next, _, σ', .next, S', st, q⟩) fun _ _ e => e)))

/-! ### the new list, the new dict -/
theorem newList_core {B : Basis} {P : Pins} {A : Around} {R : Value → Shared → Prop} {vs : List Value} {xs : List AV} (C : Core prog w B P σ s) (hv : VRs s.heap vs xs) (hz : xs.length ≤ 100000)
    (h : ∀ s', Core prog w B P (σ.setL s.heap.objs.size xs) s' → Pu s s' → R (.ref s.heap.objs.size) s') : wpAny (model prog w) A (newList vs) R NoE s := by
  have hn : s.heap.get? s.heap.objs.size = none := get?_none_of_le (Nat.le_refl _)
  have fr := C.sees.fresh hn
  have hlen := hv.length
  refine wpAny_newObj_type (h _ ?_ (.push _ _)) (by show vs.toArray.size ≤ sizeLine; rw [sizeLine_eq, List.size_toArray]; omega)
  have e : Ext s.heap (s.heap.push { cls := .type "list", dict := none, data := .seq vs.toArray }) := Ext.push _ _
  exact ⟨C.sees.putL (a := s.heap.objs.size) (fun b o hb he => e b o he) fr.1 e.stab ⟨fr.2.2.1, fr.2.2.2.1, fr.2.2.2.2⟩ ⟨vs, ⟨_, Heap.get?_push_size _ rfl⟩, hv.stab e.stab⟩, C.os, C.gens⟩

theorem newDict_coreD {B : Basis} {P : Pins} {A : Around} {R : Value → Shared → Prop} (C : Core prog w B P σ s)
    (h : ∀ s', Core prog w B P (σ.setD s.heap.objs.size ⟨[], fun _ => .none, 0⟩) s' → Pu s s' → R (.ref s.heap.objs.size) s') : wpAny (model prog w) A newDict R NoE s := by
  have hn : s.heap.get? s.heap.objs.size = none := get?_none_of_le (Nat.le_refl _)
  have fr := C.sees.fresh hn
  refine wpAny_newObj_type (h _ ?_ (.push _ _)) (by show (#[] : Array DictEntry).size ≤ sizeLine + 1; rw [sizeLine_eq]; simp)
  have e : Ext s.heap (s.heap.push { cls := .type "dict", dict := none, data := .dict #[] }) := Ext.push _ _
  exact ⟨C.sees.putD (a := s.heap.objs.size) (fun b o hb he => e b o he) fr.1 e.stab ⟨fr.2.1, fr.2.2.2.1, fr.2.2.2.2⟩
    ⟨[], ⟨_, #[], Heap.get?_push_size _ rfl, ⟨rfl, rfl, rfl⟩, rfl, fun _ he => by simp at he, Pairs.nil, List.nodup_nil⟩, rfl, fun _ he => by simp at he⟩, C.os, C.gens⟩
theorem newDict_coreP {B : Basis} {P : Pins} {A : Around} {R : Value → Shared → Prop} (C : Core prog w B P σ s)
    (h : ∀ s', Core prog w B P (σ.setP s.heap.objs.size ⟨[], fun _ _ => .none⟩) s' → Pu s s' → R (.ref s.heap.objs.size) s') : wpAny (model prog w) A newDict R NoE s := by
  have hn : s.heap.get? s.heap.objs.size = none := get?_none_of_le (Nat.le_refl _)
  have fr := C.sees.fresh hn
  refine wpAny_newObj_type (h _ ?_ (.push _ _)) (by show (#[] : Array DictEntry).size ≤ sizeLine + 1; rw [sizeLine_eq]; simp)
  have e : Ext s.heap (s.heap.push { cls := .type "dict", dict := none, data := .dict #[] }) := Ext.push _ _
  exact ⟨C.sees.putP (a := s.heap.objs.size) (fun b o hb he => e b o he) fr.1 e.stab ⟨fr.2.1, fr.2.2.1, fr.2.2.2.2⟩
    ⟨[], Heap.DictOfH.new _, rfl, fun _ he => by simp at he⟩, C.os, C.gens⟩

/-! ### append -/
theorem append_st {A : Around} {a : Addr} {xs : List AV} {v : Value} {av : AV} {R : Value → Shared → Prop} (S : St prog w c ρ σ s) (hl : σ.list a = some xs) (hz : xs.length ≤ 100000) (hv : VR s.heap v av)
    (h : ∀ s', St prog w c ρ (σ.setL a (xs ++ [av])) s' → Stab s.heap s'.heap → R .none s') : wpAny (model prog w) A (PySem.call (.builtin "list.append") [.ref a, v]) R NoE s := by
  obtain ⟨vs, hl', hvs⟩ := S.sees.list _ _ hl
  have hlen := hvs.length
  refine wpAny_list_append_plain (hsz := by rw [List.size_toArray, sizeLine_eq]; omega) hl' fun h' hl2 hs => ?_
  have st : Stab s.heap h' := .sameBut hs (.cls (S.sees.list _ _ hl).get rfl)
  have nf := AH.drop_list hl
  exact h _ ⟨⟨S.sees.putL hs.extBut (S.sees.notPinned nf) st (S.sees.onlyL hl) ⟨vs ++ [v], by simpa using hl2, (hvs.stab st).append (.cons (hv.stab st) .nil)⟩, S.os, S.gens⟩,
    S.fr.put hs.extBut (S.notFrame nf) st fun b hb f => AH.fresh_setL hb f⟩ st

/-- a target of a comprehension is its own -/
theorem comp_sto {scope : Scope} {L : Addr} {P' : Pins} {x : Str} (hx : (scope.names.lookup x == some .local || scope.names.lookup x == some .cell) = true) : isSto (compCx c scope L P').env (compCx c scope L P').wr x = true := by
  have key : ∀ names : List (Str × NameKind), (names.lookup x = some .local ∨ names.lookup x = some .cell) →
      (names.map fun (n, k) => if (k == NameKind.free && c.env.scope.kind == .function && c.env.kindOf n == some .cell) then (n, NameKind.cell) else (n, k)).lookup x = names.lookup x := by
    intro names
    induction names with
    | nil => intro h; rcases h with h | h <;> cases h
    | cons y r ih =>
      intro h
      obtain ⟨n, k⟩ := y
      rw [List.map_cons]
      rw [List.lookup_cons] at h
      cases hx : x == n with
      | true =>
        rw [hx] at h
        have hk : (k == NameKind.free) = false := by rcases h with h | h <;> cases h <;> rfl
        simp [hk, List.lookup_cons, hx]
      | false =>
        rw [hx] at h
        by_cases hc : (k == NameKind.free && c.env.scope.kind == .function && c.env.kindOf n == some .cell) = true
        · simp only [hc, if_true]
          rw [List.lookup_cons, List.lookup_cons, hx]; exact ih h
        · simp only [hc, if_false, Bool.false_eq_true]
          rw [List.lookup_cons, List.lookup_cons, hx]; exact ih h
  have hx' : scope.names.lookup x = some .local ∨ scope.names.lookup x = some .cell := by simpa using hx
  have := key scope.names hx'
  unfold isSto
  have e : (compCx c scope L P').env.kindOf x = scope.names.lookup x := this
  rw [e]
  rcases hx' with h | h
  · rw [h]
  · rw [h]; show (scope.names.lookup x == some .cell) = true; rw [h]; rfl
theorem capt_target {scope : Scope} {x : Str} (hx : (scope.names.lookup x == some .local || scope.names.lookup x == some .cell) = true) : (capt scope ρ).lookup x = none := by
  refine capt_none ?_
  have hx' : scope.names.lookup x = some .local ∨ scope.names.lookup x = some .cell := by simpa using hx
  rcases hx' with h | h <;> rw [h] <;> decide

theorem listComp_CB {elt iter : Expr} {x : Str} {px pos : Pos} {ifs : List Expr} {scope : Scope} {items : List AV} {Src : AH → Prop} {Q : AV → AH → Prop} {n : Nat} (hA : Rm c.A n)
    (Inv : Addr → Nat → AH → Prop) (h0 : ∀ D, Nw σ D → Inv D 0 (σ.setL D [])) (hsrc : ∀ D i σ₁, i ≤ items.length → Inv D i σ₁ → Src σ₁)
    (step : ∀ D L P' i a σ₁, items[i]? = some a → Inv D i σ₁ → ∃ b, PTt prog w (compCx c scope L P') ((x, a) :: capt scope ρ) σ₁ (testsOf (compCx c scope L P').env ifs) b ∧
      if b = true then EV prog w (compCx c scope L P') ((x, a) :: capt scope ρ) σ₁ elt (fun av σ₂ => ∃ xs, σ₂.list D = some xs ∧ xs.length ≤ 100000 ∧ Inv D (i + 1) (σ₂.setL D (xs ++ [av]))) else Inv D (i + 1) σ₁)
    (fin : ∀ D σ₁, Nw σ D → Inv D items.length σ₁ → Q (.ref D) σ₁)
    (hx : (scope.names.lookup x == some .local || scope.names.lookup x == some .cell) = true) :
    CB prog w c ρ (.ListComp elt [⟨.Name x px, iter, ifs, 0⟩] scope pos) scope (newList []) σ items Src Q := by
  refine ⟨fun σ D => σ.setL D [], (fun P s R C h => newList_core C .nil (by simp) h), (fun D b hb f => AH.fresh_setL hb f), fun D L P' I At s₀ R fD it W hR => ?_⟩
  refine compStart_act (c := compCx c scope L P') rfl rfl rfl (fun Q hQ => ?_) fun s₁ p₁ e₁ => ?_
  · unfold compStart
    show wpAny _ _ (ask >>= _) _ _ s₀
    refine wpAny_bind (wpAny_askSetting (wpAny_ite ?_))
    split
    · first
        | exact wpAny_bind (wpAny_pure (wpAny_pure (hQ _ (.refl _) rfl)))
        | exact wpAny_pure (hQ _ (.refl _) rfl)
    · obtain ⟨o, ho, hat⟩ := W.at_
      refine wpAny_bind (wpAny_rule ?_)
      show wpAny _ _ (standAt iter.pos >>= _) _ _ s₀
      exact wpAny_bind (wpAny_standAt (wpAny_bind (it.self _ 0 s₀ o _ ho hat (wpAny_pure (hQ _ (.refl _) rfl)))))
  · have W₁ : Wait prog w (compCx c scope L P') (capt scope ρ) (σ.setL D []) I (At 0) s₁ :=
      ⟨W.st.pu p₁, by rw [e₁]; exact W.at_, W.pin, W.fresh, W.frame⟩
    refine compLoop_act (c := compCx c scope L P') (act := (do let _ ← PySem.call (.builtin "list.append") [.ref D, ← eval elt (compCx c scope L P').env])) hA rfl rfl rfl rfl it (Inv D) (fun i σ₁ hi => hsrc D i σ₁ hi) (fun i a σ₁ P'' ha hI => ?_) W₁ (h0 D fD)
      (capt_target hx) (comp_sto hx) fun s' σ' S' st' hI => hR s' σ' S' (by rw [← e₁]; exact st') (fin D σ' fD hI)
    obtain ⟨b, hb, hh⟩ := step D L P'' i a σ₁ ha hI
    refine ⟨b, hb, ?_⟩
    cases b with
    | false => simpa using hh
    | true =>
      simp only [if_true] at hh ⊢
      intro s₂ S₂
      refine wpAny_bind (wpAny_mono (hh s₂ S₂) (fun v s₃ ⟨av, σ₂, hv, S₃, st₃, xs, hl, hz, q⟩ => ?_) fun _ _ e => e)
      exact wpAny_bind (append_st S₃ hl hz hv fun s₄ S₄ st₄ => wpAny_pure ⟨_, S₄, st₃.trans st₄, q⟩)

/-- [elt for x in iter if ..] -/
theorem EC.listComp {elt iter : Expr} {x : Str} {px pos : Pos} {ifs : List Expr} {scope : Scope} {items : List AV} {Src : AH → Prop} {Q : AV → AH → Prop} {n : Nat} (hA : Rm c.A n)
    (hit : ITt prog w c ρ σ (eval iter c.env) items Src) (Inv : Addr → Nat → AH → Prop) (h0 : ∀ D, Nw σ D → Inv D 0 (σ.setL D [])) (hsrc : ∀ D i σ₁, i ≤ items.length → Inv D i σ₁ → Src σ₁)
    (step : ∀ D L P' i a σ₁, items[i]? = some a → Inv D i σ₁ → ∃ b, PTt prog w (compCx c scope L P') ((x, a) :: capt scope ρ) σ₁ (testsOf (compCx c scope L P').env ifs) b ∧
      if b = true then EV prog w (compCx c scope L P') ((x, a) :: capt scope ρ) σ₁ elt (fun av σ₂ => ∃ xs, σ₂.list D = some xs ∧ xs.length ≤ 100000 ∧ Inv D (i + 1) (σ₂.setL D (xs ++ [av]))) else Inv D (i + 1) σ₁)
    (fin : ∀ D σ₁, Nw σ D → Inv D items.length σ₁ → Q (.ref D) σ₁)
    (hok : compOK scope c.env = true := by rfl) (hx : (scope.names.lookup x == some .local || scope.names.lookup x == some .cell) = true := by rfl) (hs : ∀ x, foldedSetIterable iter c.env x = pure x := by intro _; rfl) :
    EC prog w c ρ σ (.ListComp elt [⟨.Name x px, iter, ifs, 0⟩] scope pos) Q := by 
  exact EC.compX rfl (fun _ => rfl) rfl hs hok (hit.two (listComp_CB hA Inv h0 hsrc step fin hx))
/-- [elt for x in iter if ..], the iterable being made anew -/
theorem EC.listCompV {elt iter : Expr} {x : Str} {px pos : Pos} {ifs : List Expr} {scope : Scope} {Q : AV → AH → Prop} {n : Nat} (hA : Rm c.A n)
    (hit : IT2 prog w c ρ σ (eval iter c.env) fun σ₀ items Src => ∃ Inv : Addr → Nat → AH → Prop, (∀ D, Nw σ₀ D → Inv D 0 (σ₀.setL D [])) ∧ (∀ D i σ₁, i ≤ items.length → Inv D i σ₁ → Src σ₁) ∧
      (∀ D L P' i a σ₁, items[i]? = some a → Inv D i σ₁ → ∃ b, PTt prog w (compCx c scope L P') ((x, a) :: capt scope ρ) σ₁ (testsOf (compCx c scope L P').env ifs) b ∧
        if b = true then EV prog w (compCx c scope L P') ((x, a) :: capt scope ρ) σ₁ elt (fun av σ₂ => ∃ xs, σ₂.list D = some xs ∧ xs.length ≤ 100000 ∧ Inv D (i + 1) (σ₂.setL D (xs ++ [av]))) else Inv D (i + 1) σ₁) ∧
      (∀ D σ₁, Nw σ₀ D → Inv D items.length σ₁ → Q (.ref D) σ₁))
    (hok : compOK scope c.env = true := by rfl) (hx : (scope.names.lookup x == some .local || scope.names.lookup x == some .cell) = true := by rfl) (hs : ∀ x, foldedSetIterable iter c.env x = pure x := by intro _; rfl) :
    EC prog w c ρ σ (.ListComp elt [⟨.Name x px, iter, ifs, 0⟩] scope pos) Q := by
  refine EC.compX rfl (fun _ => rfl) rfl hs hok fun s S => wpAny_mono (hit s S) (fun v s₁ ⟨σ₀, items, Src, S₁, st, wk, Inv, h0, hsrc, step, fin⟩ => ⟨σ₀, items, Src, S₁, st, wk, listComp_CB hA Inv h0 hsrc step fin hx⟩) fun _ _ e => e
end
end Mine

/-! G13 -/
namespace Mine
section
variable {prog : Program} {w : World} {c : Cx} {ρ : Rho} {σ : AH} {s s' : Shared}

abbrev innerForm (e : Expr) (d : Nat) (acc : Value) (env : Env) (iter : Expr) : Sem Unit := do
  let x ← eval iter env
  standAt iter.pos
  let x ← foldedSetIterable iter env x
  let _ ← runOwn (.compStart e d (← holding [x] (pyIter x)) acc env) env

/-- the clause within -/
theorem inner_act {e : Expr} {acc : Value} {iter : Expr} {items : List AV} {Src : AH → Prop} {Q : AH → Prop} {d : Nat}
    (hit : ITt prog w c ρ σ (eval iter c.env) items Src) (hs : ∀ x, foldedSetIterable iter c.env x = pure x)
    (loop : ∀ (I : Addr) (At : Nat → Obj → Prop) (s₀ : Shared) (R : Result → Shared → Prop), IT prog w I items At Src → Wait prog w c ρ σ I (At 0) s₀ →
      (∀ s' σ', St prog w c ρ σ' s' → Stab s₀.heap s'.heap → Q σ' → R (.ok .next) s') → codeAny (model prog w) c.A (.compStart e d (.ref I) acc c.env) R s₀) :
    ACt prog w c ρ σ (innerForm e d acc c.env iter) Q := fun s S => by
  refine wpAny_bind (wpAny_mono (hit s S) (fun v s₁ ⟨p₁, wk⟩ => ?_) fun _ _ e => e)
  refine wpAny_bind (wpAny_standAt (wpAny_bind (wpAny_of_eq (hs v) ?_)))
  refine wpAny_bind (wpAny_holding (wk c.A _ fun I At s₂ o hn p₂ it ho hat => ?_))
  have W : Wait prog w c ρ σ I (At 0) s₂ := .start p₁.st p₂ hn ho hat
  refine wpAny_bind (wpAny_runOwn (loop I At s₂ _ it W fun s₃ σ' S₃ st₃ q => ?_))
  exact wpAny_pure ⟨σ', S₃, (p₁.stab.trans p₂.ext.stab).trans st₃, q⟩

/-- compStart goes on to compLoop -/
theorem compStart_go {e : Expr} {depth : Nat} {I : Addr} {acc : Value} {items : List AV} {At : Nat → Obj → Prop} {Src : AH → Prop} {ipos : Pos} {R : Result → Shared → Prop} (it : IT prog w I items At Src) (W : Wait prog w c ρ σ I (At 0) s)
    (hden : (model prog w).den (.compStart e depth (.ref I) acc c.env) = (compStart e depth (.ref I) acc c.env).onRaise (fun x => do noteFrame x c.env; standAt theWindowsPlace))
    (hund : c.A.under (.compStart e depth (.ref I) acc c.env) = c.A) (hq : (Code.compLoop e depth (.ref I) acc c.env).quiet = true)
    (hform : compStart e depth (.ref I) acc c.env = (do
      if (← ask).params.followText "comprehension-iter-twice" then return ← again (.compLoop e depth (.ref I) acc c.env)
      rule "comprehension.iter-twice"
      standAt ipos
      again (.compLoop e depth (← pyIter (.ref I)) acc c.env)))
    (h : ∀ s₁, Wait prog w c ρ σ I (At 0) s₁ → Stab s.heap s₁.heap → codeAny (model prog w) c.A (.compLoop e depth (.ref I) acc c.env) R s₁) :
    codeAny (model prog w) c.A (.compStart e depth (.ref I) acc c.env) R s := by
  refine compStart_act hden hund hq (fun Q hQ => ?_) fun s₁ p₁ e₁ => h s₁ ⟨W.st.pu p₁, by rw [e₁]; exact W.at_, W.pin, W.fresh, W.frame⟩ p₁.ext.stab
  rw [hform]
  refine wpAny_bind (wpAny_askSetting (wpAny_ite ?_))
  split
  · first
      | exact wpAny_bind (wpAny_pure (wpAny_pure (hQ _ (.refl _) rfl)))
      | exact wpAny_pure (hQ _ (.refl _) rfl)
  · obtain ⟨o, ho, hat⟩ := W.at_
    exact wpAny_bind (wpAny_rule (wpAny_bind (wpAny_standAt (wpAny_bind (it.self _ 0 s o _ ho hat (wpAny_pure (hQ _ (.refl _) rfl)))))))

/-- one clause -/
theorem EC.comp1 {e : Expr} {scope : Scope} {pos : Pos} {newAcc : Sem Value} {x : Str} {px : Pos} {iter : Expr} {ifs : List Expr} {items : List AV} {Src : AH → Prop} {ini : AH → Addr → AH} {Q : AV → AH → Prop} {n : Nat} {emit : Addr → Env → Sem Unit} (hA : Rm c.A n)
    (heval : eval e c.env = comprehension e scope c.env pos newAcc false (eval iter c.env)) (huse : ∀ u, evalThenUse e c.env u = (comprehension e scope c.env pos newAcc false (eval iter c.env) (some u) >>= fun _ => pure ())) (hcl : clausesOf e = [⟨.Name x px, iter, ifs, 0⟩])
    (hturn : ∀ I D env, compTurn e 0 (.ref I) (.ref D) env = turnForm e 0 I (.ref D) env x px iter.pos ifs (emit D env))
    (hden : ∀ I D env, (model prog w).den (.compLoop e 0 (.ref I) (.ref D) env) = (compTurn e 0 (.ref I) (.ref D) env).onRaise (fun x => do noteFrame x env; theTreesLotGoes x))
    (hden' : ∀ I D env, (model prog w).den (.compStart e 0 (.ref I) (.ref D) env) = (compStart e 0 (.ref I) (.ref D) env).onRaise (fun x => do noteFrame x env; standAt theWindowsPlace))
    (hund : ∀ (A : Around) I D env, A.under (.compLoop e 0 (.ref I) (.ref D) env) = A) (hund' : ∀ (A : Around) I D env, A.under (.compStart e 0 (.ref I) (.ref D) env) = A)
    (hq : ∀ I D env, (Code.compLoop e 0 (.ref I) (.ref D) env).quiet = true)
    (hform : ∀ I D env, compStart e 0 (.ref I) (.ref D) env = (do
      if (← ask).params.followText "comprehension-iter-twice" then return ← again (.compLoop e 0 (.ref I) (.ref D) env)
      rule "comprehension.iter-twice"
      standAt iter.pos
      again (.compLoop e 0 (← pyIter (.ref I)) (.ref D) env)))
    (hacc : ∀ (P : Pins) (s : Shared) (R : Value → Shared → Prop), Core prog w c.B P σ s → (∀ s', Core prog w c.B P (ini σ s.heap.objs.size) s' → Pu s s' → R (.ref s.heap.objs.size) s') → wpAny (model prog w) c.A newAcc R NoE s)
    (hini : ∀ D b, b ≠ D → σ.Fresh b → (ini σ D).Fresh b)
    (hit : ITt prog w c ρ σ (eval iter c.env) items Src) (Inv : Addr → Nat → AH → Prop) (h0 : ∀ D, Nw σ D → Inv D 0 (ini σ D)) (hsrc : ∀ D i σ₁, i ≤ items.length → Inv D i σ₁ → Src σ₁)
    (step : ∀ D L P' i a σ₁, Nw σ D → items[i]? = some a → Inv D i σ₁ → ∃ b, PTt prog w (compCx c scope L P') ((x, a) :: capt scope ρ) σ₁ (testsOf (compCx c scope L P').env ifs) b ∧
      if b = true then ACt prog w (compCx c scope L P') ((x, a) :: capt scope ρ) σ₁ (emit D (compCx c scope L P').env) (Inv D (i + 1)) else Inv D (i + 1) σ₁)
    (fin : ∀ D σ₁, Nw σ D → Inv D items.length σ₁ → Q (.ref D) σ₁)
    (hok : compOK scope c.env = true) (hx : (scope.names.lookup x == some .local || scope.names.lookup x == some .cell) = true) (hs : ∀ x, foldedSetIterable iter c.env x = pure x) :
    EC prog w c ρ σ e Q := by
  refine EC.comp (ini := ini) heval huse hcl hs hok hit hacc hini fun D L P' I At s₀ R fD it W hR => ?_
  refine compStart_go (c := compCx c scope L P') it W (hden' _ _ _) (hund' _ _ _ _) (hq _ _ _) (hform _ _ _) fun s₁ W₁ st₁ => ?_
  exact compLoop_act (c := compCx c scope L P') hA (hturn _ _ _) (hden _ _ _) (hund _ _ _ _) (hq _ _ _) it (Inv D) (fun i σ₁ hi => hsrc D i σ₁ hi) (fun i a σ₁ P'' ha hI => step D L P'' i a σ₁ fD ha hI) W₁ (h0 D fD)
      (capt_target hx) (comp_sto hx) fun s' σ' S' st' hI => hR s' σ' S' (st₁.trans st') (fin D σ' fD hI)

/-- two clauses, the outer one without a test -/
theorem EC.comp2 {e : Expr} {scope : Scope} {pos : Pos} {newAcc : Sem Value} {x y : Str} {px py : Pos} {iter iter2 : Expr} {ifs : List Expr} {items : List AV} {Src : AH → Prop} {ini : AH → Addr → AH} {Q : AV → AH → Prop} {n : Nat} {emit : Addr → Env → Sem Unit} (hA : Rm c.A n)
    (heval : eval e c.env = comprehension e scope c.env pos newAcc false (eval iter c.env)) (huse : ∀ u, evalThenUse e c.env u = (comprehension e scope c.env pos newAcc false (eval iter c.env) (some u) >>= fun _ => pure ())) (hcl : clausesOf e = [⟨.Name x px, iter, [], 0⟩, ⟨.Name y py, iter2, ifs, 0⟩])
    (hturn : ∀ I D env, compTurn e 0 (.ref I) (.ref D) env = turnForm e 0 I (.ref D) env x px iter.pos [] (innerForm e 1 (.ref D) env iter2))
    (hturn2 : ∀ I D env, compTurn e 1 (.ref I) (.ref D) env = turnForm e 1 I (.ref D) env y py iter2.pos ifs (emit D env))
    (hden : ∀ d I D env, (model prog w).den (.compLoop e d (.ref I) (.ref D) env) = (compTurn e d (.ref I) (.ref D) env).onRaise (fun x => do noteFrame x env; theTreesLotGoes x))
    (hden' : ∀ d I D env, (model prog w).den (.compStart e d (.ref I) (.ref D) env) = (compStart e d (.ref I) (.ref D) env).onRaise (fun x => do noteFrame x env; standAt theWindowsPlace))
    (hund : ∀ (A : Around) d I D env, A.under (.compLoop e d (.ref I) (.ref D) env) = A) (hund' : ∀ (A : Around) d I D env, A.under (.compStart e d (.ref I) (.ref D) env) = A)
    (hq : ∀ d I D env, (Code.compLoop e d (.ref I) (.ref D) env).quiet = true)
    (hform : ∀ I D env, compStart e 0 (.ref I) (.ref D) env = (do
      if (← ask).params.followText "comprehension-iter-twice" then return ← again (.compLoop e 0 (.ref I) (.ref D) env)
      rule "comprehension.iter-twice"
      standAt iter.pos
      again (.compLoop e 0 (← pyIter (.ref I)) (.ref D) env)))
    (hform2 : ∀ I D env, compStart e 1 (.ref I) (.ref D) env = (do
      if (← ask).params.followText "comprehension-iter-twice" then return ← again (.compLoop e 1 (.ref I) (.ref D) env)
      rule "comprehension.iter-twice"
      standAt iter2.pos
      again (.compLoop e 1 (← pyIter (.ref I)) (.ref D) env)))
    (hacc : ∀ (P : Pins) (s : Shared) (R : Value → Shared → Prop), Core prog w c.B P σ s → (∀ s', Core prog w c.B P (ini σ s.heap.objs.size) s' → Pu s s' → R (.ref s.heap.objs.size) s') → wpAny (model prog w) c.A newAcc R NoE s)
    (hini : ∀ D b, b ≠ D → σ.Fresh b → (ini σ D).Fresh b)
    (hit : ITt prog w c ρ σ (eval iter c.env) items Src) (Inv : Addr → Nat → AH → Prop) (h0 : ∀ D, Nw σ D → Inv D 0 (ini σ D)) (hsrc : ∀ D i σ₁, i ≤ items.length → Inv D i σ₁ → Src σ₁)
    (step : ∀ D L P' i a σ₁, Nw σ D → items[i]? = some a → Inv D i σ₁ → ∃ (items2 : List AV) (Src2 : AH → Prop) (Inv2 : Nat → AH → Prop),
      ITt prog w (compCx c scope L P') ((x, a) :: capt scope ρ) σ₁ (eval iter2 (compCx c scope L P').env) items2 Src2 ∧ Inv2 0 σ₁ ∧ (∀ j σ₂, j ≤ items2.length → Inv2 j σ₂ → Src2 σ₂) ∧ (∀ σ₂, Inv2 items2.length σ₂ → Inv D (i + 1) σ₂) ∧
      ∀ P'' j a2 σ₂, items2[j]? = some a2 → Inv2 j σ₂ → ∃ b, PTt prog w (compCx c scope L P'') ((y, a2) :: (x, a) :: capt scope ρ) σ₂ (testsOf (compCx c scope L P'').env ifs) b ∧
        if b = true then ACt prog w (compCx c scope L P'') ((y, a2) :: (x, a) :: capt scope ρ) σ₂ (emit D (compCx c scope L P'').env) (Inv2 (j + 1)) else Inv2 (j + 1) σ₂)
    (fin : ∀ D σ₁, Nw σ D → Inv D items.length σ₁ → Q (.ref D) σ₁)
    (hok : compOK scope c.env = true) (hx : (scope.names.lookup x == some .local || scope.names.lookup x == some .cell) = true) (hy : (scope.names.lookup y == some .local || scope.names.lookup y == some .cell) = true)
    (hxy : y ≠ x) (hs : ∀ x, foldedSetIterable iter c.env x = pure x) (hs2 : ∀ env x, foldedSetIterable iter2 env x = pure x) :
    EC prog w c ρ σ e Q := by
  refine EC.comp (ini := ini) heval huse hcl hs hok hit hacc hini fun D L P' I At s₀ R fD it W hR => ?_
  refine compStart_go (c := compCx c scope L P') it W (hden' _ _ _ _) (hund' _ _ _ _ _) (hq _ _ _ _) (hform _ _ _) fun s₁ W₁ st₁ => ?_
  refine compLoop_act (c := compCx c scope L P') hA (hturn _ _ _) (hden _ _ _ _) (hund _ _ _ _ _) (hq _ _ _ _) it (Inv D) (fun i σ₁ hi => hsrc D i σ₁ hi) (fun i a σ₁ P'' ha hI => ?_) W₁ (h0 D fD)
      (capt_target hx) (comp_sto hx) fun s' σ' S' st' hI => hR s' σ' S' (st₁.trans st') (fin D σ' fD hI)
  refine ⟨true, PTl.nil, ?_⟩
  rw [if_pos rfl]
  obtain ⟨items2, Src2, Inv2, hit2, h02, hsrc2, hend, hstep⟩ := step D L P'' i a σ₁ fD ha hI
  refine inner_act (c := compCx c scope L P'') hit2 (hs2 _) fun I2 At2 s₂ R2 it2 W2 hR2 => ?_
  refine compStart_go (c := compCx c scope L P'') it2 W2 (hden' _ _ _ _) (hund' _ _ _ _ _) (hq _ _ _ _) (hform2 _ _ _) fun s₃ W₃ st₃ => ?_
  exact compLoop_act (c := compCx c scope L P'') hA (hturn2 _ _ _) (hden _ _ _ _) (hund _ _ _ _ _) (hq _ _ _ _) it2 Inv2 (fun j σ₂ hj => hsrc2 j σ₂ hj) (fun j a2 σ₂ P3 ha2 hI2 => hstep P3 j a2 σ₂ ha2 hI2) W₃ h02
      (by rw [lookup_cons_ne hxy]; exact capt_target hy) (comp_sto hy) fun s' σ' S' st' hI2 => hR2 s' σ' S' (st₃.trans st') (hend σ' hI2)

/-! ### dictSet of a new dict -/
theorem dictSetP_st {A : Around} {n : Nat} (hA : Rm A n) {a : Addr} {d : DP} {u v : Value} {i j : Int} {av : AV} {R : Unit → Shared → Prop} (S : St prog w c ρ σ s) (hl : σ.dP a = some d) (hz : d.keys.length ≤ 100000)
    (hu : VR s.heap u (.pair (.int i) (.int j))) (hv : VR s.heap v av)
    (h : ∀ s', St prog w c ρ (σ.setP a ⟨if (i, j) ∈ d.keys then d.keys else d.keys ++ [(i, j)], fun x y => if x = i ∧ y = j then av else d.val x y⟩) s' → Stab s.heap s'.heap → R () s') : wpAny (model prog w) A (dictSet a u v) R NoE s := by
  obtain ⟨b, rfl, hkey⟩ := hu.key (prog := prog) (w := w)
  obtain ⟨xs, hd, hks, hvs⟩ := S.sees.dP _ _ hl
  have hlen : xs.length = d.keys.length := by have := congrArg List.length hks; simpa using this
  refine wpAny_dictSet_heap (knd := tupleKind (intKind prog w)) (show A.units < cLine from by have := hA.units 0 (by omega); simpa using this) hkey hd (fun h' hd' hs => ?_) (by rw [hlen]; exact Nat.le_trans hz (by rw [sizeLine_eq]; decide))
  have st : Stab s.heap h' := .sameBut hs (.cls (S.sees.dP _ _ hl).get rfl)
  have nf : ¬ σ.Fresh a := fun f => by rw [f.2.2.1] at hl; cases hl
  have rep : DPRep prog w h' a ⟨if (i, j) ∈ d.keys then d.keys else d.keys ++ [(i, j)], fun x y => if x = i ∧ y = j then av else d.val x y⟩ := by
    by_cases hk : (i, j) ∈ d.keys
    · have hk' : [i, j] ∈ xs.map (·.1) := by rw [hks]; exact List.mem_map.mpr ⟨(i, j), hk, rfl⟩
      obtain ⟨p, hp1, hp2⟩ := atKey_mem hk'
      rw [storedH_old hp1] at hd'
      refine ⟨_, hd', by rw [keys_map_putAt, hks, if_pos hk], ?_⟩
      intro x hx i' j' e
      obtain ⟨x', h1, h2⟩ := List.mem_map.mp hx
      by_cases e' : x'.1 = [i, j]
      · simp only [putAt, e', if_true] at h2
        subst h2
        simp only [List.cons.injEq, and_true] at e
        simp only [e.1.symm, e.2.symm, and_self, if_true]; exact hv.stab st
      · simp only [putAt, e', if_false] at h2
        subst h2
        have : ¬ (i' = i ∧ j' = j) := fun ⟨h1, h2⟩ => e' (by rw [e, h1, h2])
        simp only [this, if_false]; exact (hvs _ h1 i' j' e).stab st
    · have hk' : atKey xs [i, j] = none := by
        cases e : atKey xs [i, j] with
        | none => rfl
        | some p =>
          exfalso
          unfold atKey at e
          obtain ⟨y, hy, _⟩ := Option.map_eq_some_iff.mp e
          have h1 := List.mem_of_find?_eq_some hy
          have h2 : y.1 = [i, j] := by simpa using List.find?_some hy
          have : y.1 ∈ xs.map (·.1) := List.mem_map.mpr ⟨y, h1, rfl⟩
          rw [hks, h2] at this
          obtain ⟨⟨p1, p2⟩, h3, h4⟩ := List.mem_map.mp this
          simp only [List.cons.injEq, and_true] at h4
          exact hk (by rw [← h4.1, ← h4.2]; exact h3)
      rw [storedH_new hk'] at hd'
      refine ⟨_, hd', by rw [List.map_append, hks, if_neg hk, List.map_append]; rfl, ?_⟩
      intro x hx i' j' e
      rcases List.mem_append.mp hx with hx | hx
      · have : ¬ (i' = i ∧ j' = j) := fun ⟨h1, h2⟩ => hk (by
          have h3 : x.1 ∈ xs.map (·.1) := List.mem_map.mpr ⟨x, hx, rfl⟩
          rw [hks, e] at h3
          obtain ⟨⟨p1, p2⟩, h4, h5⟩ := List.mem_map.mp h3
          simp only [List.cons.injEq, and_true] at h5
          rw [← h1, ← h2, ← h5.1, ← h5.2]; exact h4)
        simp only [this, if_false]; exact (hvs _ hx i' j' e).stab st
      · rw [List.mem_singleton] at hx
        subst hx
        simp only [List.cons.injEq, and_true] at e
        simp only [e.1.symm, e.2.symm, and_self, if_true]; exact hv.stab st
  exact h _ ⟨⟨S.sees.putP hs.extBut (S.sees.notPinned nf) st (S.sees.onlyP hl) rep, S.os, S.gens⟩, S.fr.put hs.extBut (S.notFrame nf) st fun b hb f => AH.fresh_setP hb f⟩ st
end
end Mine

/-! G14 -/
namespace Mine
section
variable {prog : Program} {w : World} {c : Cx} {ρ : Rho} {σ : AH} {s s' : Shared}

theorem dictSetD_st {A : Around} {a : Addr} {d : DI} {u v : Value} {k : Int} {av : AV} {R : Unit → Shared → Prop} (S : St prog w c ρ σ s) (hl : σ.dI a = some d) (hz : d.keys.length ≤ 100000)
    (hu : VR s.heap u (.int k)) (hv : VR s.heap v av)
    (h : ∀ s' ep, St prog w c ρ (σ.setD a ⟨if k ∈ d.keys then d.keys else d.keys ++ [k], fun x => if x = k then av else d.val x, ep⟩) s' → Stab s.heap s'.heap → R () s') : wpAny (model prog w) A (dictSet a u v) R NoE s := by
  obtain ⟨t, rfl⟩ := hu.int_inv
  obtain ⟨kvs, hd, hks, hvs⟩ := S.sees.dI _ _ hl
  have hlen : kvs.length = d.keys.length := by rw [← hks, List.length_map]
  refine wpAny_dictSet_pairs (knd := intKind prog w) (intKind_is prog w k t) hd.dictOf (fun h' hd' hs => ?_) (by rw [hlen]; exact Nat.le_trans hz (by rw [sizeLine_eq]; decide))
  have st : Stab s.heap h' := .sameBut hs (.cls (S.sees.dI _ _ hl).get (by decide))
  have nf : ¬ σ.Fresh a := fun f => by rw [f.2.1] at hl; cases hl
  obtain ⟨ep, hd2⟩ := hd'.dictAt
  have rep : DIRep prog w h' a ⟨if k ∈ d.keys then d.keys else d.keys ++ [k], fun x => if x = k then av else d.val x, ep⟩ := by
    refine ⟨_, hd2, ?_, ?_⟩
    · unfold stored
      by_cases hk : k ∈ d.keys
      · have hk' : (kvs.any fun kv => decide (kv.1 = k)) = true := by
          rw [← hks] at hk
          obtain ⟨kv, h1, h2⟩ := List.mem_map.mp hk
          exact List.any_eq_true.mpr ⟨kv, h1, by simpa using h2⟩
        rw [if_pos hk', keys_map_store, hks]; exact (if_pos hk).symm
      · have hk' : ¬ (kvs.any fun kv => decide (kv.1 = k)) = true := fun hh => by
          obtain ⟨kv, h1, h2⟩ := List.any_eq_true.mp hh
          exact hk (hks ▸ List.mem_map.mpr ⟨kv, h1, by simpa using h2⟩)
        rw [if_neg hk', List.map_append, hks]; exact (if_neg hk).symm
    · intro kv hkv
      unfold stored at hkv
      split at hkv
      · obtain ⟨kv', h1, h2⟩ := List.mem_map.mp hkv
        by_cases e : kv'.1 = k
        · rw [if_pos e] at h2
          subst h2
          simp only [e, if_true]; exact hv.stab st
        · rw [if_neg e] at h2
          subst h2
          simp only [e, if_false]; exact (hvs _ h1).stab st
      · rename_i hno
        rcases List.mem_append.mp hkv with h1 | h1
        · have e : kv.1 ≠ k := fun e => hno (List.any_eq_true.mpr ⟨kv, h1, by simpa using e⟩)
          simp only [e, if_false]; exact (hvs _ h1).stab st
        · rw [List.mem_singleton] at h1
          subst h1
          simp only [if_true]; exact hv.stab st
  exact h _ ep ⟨⟨S.sees.putD hs.extBut (S.sees.notPinned nf) st (S.sees.onlyD hl) rep, S.os, S.gens⟩, S.fr.put hs.extBut (S.notFrame nf) st fun b hb f => AH.fresh_setD hb f⟩ st

theorem turn_outer_list (elt iter iter2 : Expr) (x y : Str) (px py pos : Pos) (ifs : List Expr) (scope : Scope) (I D : Addr) (env : Env) :
  compTurn (.ListComp elt [⟨.Name x px, iter, [], 0⟩, ⟨.Name y py, iter2, ifs, 0⟩] scope pos) 0 (.ref I) (.ref D) env =
   turnForm (.ListComp elt [⟨.Name x px, iter, [], 0⟩, ⟨.Name y py, iter2, ifs, 0⟩] scope pos) 0 I (.ref D) env x px iter.pos [] (innerForm (.ListComp elt [⟨.Name x px, iter, [], 0⟩, ⟨.Name y py, iter2, ifs, 0⟩] scope pos) 1 (.ref D) env iter2) := by
  simp only [turnForm, innerForm, bind_assoc, pure_bind]
  rfl
theorem turn_outer_dict (kx vx iter iter2 : Expr) (x y : Str) (px py pos : Pos) (ifs : List Expr) (scope : Scope) (I D : Addr) (env : Env) :
  compTurn (.DictComp kx vx [⟨.Name x px, iter, [], 0⟩, ⟨.Name y py, iter2, ifs, 0⟩] scope pos) 0 (.ref I) (.ref D) env =
   turnForm (.DictComp kx vx [⟨.Name x px, iter, [], 0⟩, ⟨.Name y py, iter2, ifs, 0⟩] scope pos) 0 I (.ref D) env x px iter.pos [] (innerForm (.DictComp kx vx [⟨.Name x px, iter, [], 0⟩, ⟨.Name y py, iter2, ifs, 0⟩] scope pos) 1 (.ref D) env iter2) := by
  simp only [turnForm, innerForm, bind_assoc, pure_bind]
  rfl

/-- {k: v for x in iter}, its keys ints -/
theorem EC.dictCompD {kx vx iter : Expr} {x : Str} {px pos : Pos} {scope : Scope} {items : List AV} {Src : AH → Prop} {Q : AV → AH → Prop} {n : Nat} (hA : Rm c.A n)
    (hit : ITt prog w c ρ σ (eval iter c.env) items Src) (Inv : Addr → Nat → AH → Prop) (h0 : ∀ D, Nw σ D → Inv D 0 (σ.setD D ⟨[], fun _ => .none, 0⟩)) (hsrc : ∀ D i σ₁, i ≤ items.length → Inv D i σ₁ → Src σ₁)
    (step : ∀ D L P' i a σ₁, Nw σ D → items[i]? = some a → Inv D i σ₁ → ∃ k, PE prog w (compCx c scope L P') ((x, a) :: capt scope ρ) σ₁ kx (.int k) ∧
      EV prog w (compCx c scope L P') ((x, a) :: capt scope ρ) σ₁ vx (fun av σ₂ => ∃ d, σ₂.dI D = some d ∧ d.keys.length ≤ 100000 ∧ ∀ ep, Inv D (i + 1) (σ₂.setD D ⟨if k ∈ d.keys then d.keys else d.keys ++ [k], fun x => if x = k then av else d.val x, ep⟩)))
    (fin : ∀ D σ₁, Nw σ D → Inv D items.length σ₁ → Q (.ref D) σ₁)
    (hok : compOK scope c.env = true := by rfl) (hx : (scope.names.lookup x == some .local || scope.names.lookup x == some .cell) = true := by rfl) (hs : ∀ x, foldedSetIterable iter c.env x = pure x := by intro _; rfl) :
    EC prog w c ρ σ (.DictComp kx vx [⟨.Name x px, iter, [], 0⟩] scope pos) Q := by
  refine EC.comp1 (emit := fun D env => (do
            let kv ← eval kx env
            let vv ← holding [kv] (eval vx env)
            standAt { kx.pos with endLine := vx.pos.endLine, endCol := vx.pos.endCol }
            holding [kv, vv] (dictSet D kv vv))) (ini := fun σ D => σ.setD D ⟨[], fun _ => .none, 0⟩) hA rfl (fun _ => rfl) rfl (fun _ _ _ => rfl) (fun _ _ _ => rfl) (fun _ _ _ => rfl) (fun _ _ _ _ => rfl) (fun _ _ _ _ => rfl) (fun _ _ _ => rfl) (fun _ _ _ => rfl)
    (fun P s R C h => newDict_coreD C h) (fun D b hb f => AH.fresh_setD hb f) hit Inv h0 hsrc (fun D L P' i a σ₁ fD ha hI => ⟨true, PTl.nil, ?_⟩) fin hok hx hs
  rw [if_pos rfl]
  obtain ⟨k, hk, hv⟩ := step D L P' i a σ₁ fD ha hI
  intro s₂ S₂
  refine wpAny_bind (PE.one S₂ hk fun u s₃ S₃ p₃ hu => wpAny_bind (wpAny_holding (wpAny_mono (hv s₃ S₃) (fun v s₄ ⟨av, σ₂, hv₄, S₄, st₄, d, hd, hz, q⟩ => ?_) fun _ _ e => e)))
  refine wpAny_bind (wpAny_standAt (wpAny_holding ?_))
  exact dictSetD_st S₄ hd hz (hu.stab st₄) hv₄ fun s₅ ep S₅ st₅ => ⟨_, S₅, p₃.stab.trans (st₄.trans st₅), q ep⟩

/-- {(a, b): v for x in .. for y in ..}, its keys pairs of ints -/
theorem EC.dictComp2 {kx vx iter iter2 : Expr} {x y : Str} {px py pos : Pos} {scope : Scope} {items : List AV} {Src : AH → Prop} {Q : AV → AH → Prop} {n m : Nat} (hA : Rm c.A n)
    (hit : ITt prog w c ρ σ (eval iter c.env) items Src) (Inv : Addr → Nat → AH → Prop) (h0 : ∀ D, Nw σ D → Inv D 0 (σ.setP D ⟨[], fun _ _ => .none⟩)) (hsrc : ∀ D i σ₁, i ≤ items.length → Inv D i σ₁ → Src σ₁)
    (step : ∀ D L P' i a σ₁, Nw σ D → items[i]? = some a → Inv D i σ₁ → ∃ (items2 : List AV) (Src2 : AH → Prop) (Inv2 : Nat → AH → Prop),
      ITt prog w (compCx c scope L P') ((x, a) :: capt scope ρ) σ₁ (eval iter2 (compCx c scope L P').env) items2 Src2 ∧ Inv2 0 σ₁ ∧ (∀ j σ₂, j ≤ items2.length → Inv2 j σ₂ → Src2 σ₂) ∧ (∀ σ₂, Inv2 items2.length σ₂ → Inv D (i + 1) σ₂) ∧
      ∀ P'' j a2 σ₂, items2[j]? = some a2 → Inv2 j σ₂ → ∃ k1 k2, PE prog w (compCx c scope L P'') ((y, a2) :: (x, a) :: capt scope ρ) σ₂ kx (.pair (.int k1) (.int k2)) ∧
        EV prog w (compCx c scope L P'') ((y, a2) :: (x, a) :: capt scope ρ) σ₂ vx (fun av σ₃ => ∃ d, σ₃.dP D = some d ∧ d.keys.length ≤ 100000 ∧ Inv2 (j + 1) (σ₃.setP D ⟨if (k1, k2) ∈ d.keys then d.keys else d.keys ++ [(k1, k2)], fun x y => if x = k1 ∧ y = k2 then av else d.val x y⟩)))
    (fin : ∀ D σ₁, Nw σ D → Inv D items.length σ₁ → Q (.ref D) σ₁)
    (hok : compOK scope c.env = true := by rfl) (hx : (scope.names.lookup x == some .local || scope.names.lookup x == some .cell) = true := by rfl) (hy : (scope.names.lookup y == some .local || scope.names.lookup y == some .cell) = true := by rfl)
    (hxy : y ≠ x := by decide) (hs : ∀ x, foldedSetIterable iter c.env x = pure x := by intro _; rfl) (hs2 : ∀ env x, foldedSetIterable iter2 env x = pure x := by intro _ _; rfl) :
    EC prog w c ρ σ (.DictComp kx vx [⟨.Name x px, iter, [], 0⟩, ⟨.Name y py, iter2, [], 0⟩] scope pos) Q := by
  refine EC.comp2 (emit := fun D env => (do
            let kv ← eval kx env
            let vv ← holding [kv] (eval vx env)
            standAt { kx.pos with endLine := vx.pos.endLine, endCol := vx.pos.endCol }
            holding [kv, vv] (dictSet D kv vv))) (ini := fun σ D => σ.setP D ⟨[], fun _ _ => .none⟩) hA rfl (fun _ => rfl) rfl (fun _ _ _ => turn_outer_dict ..) (fun _ _ _ => rfl) (fun _ _ _ _ => rfl) (fun _ _ _ _ => rfl) (fun _ _ _ _ _ => rfl) (fun _ _ _ _ _ => rfl) (fun _ _ _ _ => rfl) (fun _ _ _ => rfl) (fun _ _ _ => rfl)
    (fun P s R C h => newDict_coreP C h) (fun D b hb f => AH.fresh_setP hb f) hit Inv h0 hsrc (fun D L P' i a σ₁ fD ha hI => ?_) fin hok hx hy hxy hs hs2
  obtain ⟨items2, Src2, Inv2, g1, g2, g3, g4, g5⟩ := step D L P' i a σ₁ fD ha hI
  refine ⟨items2, Src2, Inv2, g1, g2, g3, g4, fun P'' j a2 σ₂ ha2 hI2 => ⟨true, PTl.nil, ?_⟩⟩
  rw [if_pos rfl]
  obtain ⟨k1, k2, hk, hv⟩ := g5 P'' j a2 σ₂ ha2 hI2
  intro s₂ S₂
  refine wpAny_bind (PE.one S₂ hk fun u s₃ S₃ p₃ hu => wpAny_bind (wpAny_holding (wpAny_mono (hv s₃ S₃) (fun v s₄ ⟨av, σ₃, hv₄, S₄, st₄, d, hd, hz, q⟩ => ?_) fun _ _ e => e)))
  refine wpAny_bind (wpAny_standAt (wpAny_holding ?_))
  exact dictSetP_st (n := n) hA S₄ hd hz (hu.stab st₄) hv₄ fun s₅ S₅ st₅ => ⟨_, S₅, p₃.stab.trans (st₄.trans st₅), q⟩

/-- [elt for x in .. for y in .. if ..] -/
theorem EC.listComp2 {elt iter iter2 : Expr} {x y : Str} {px py pos : Pos} {ifs : List Expr} {scope : Scope} {items : List AV} {Src : AH → Prop} {Q : AV → AH → Prop} {n : Nat} (hA : Rm c.A n)
    (hit : ITt prog w c ρ σ (eval iter c.env) items Src) (Inv : Addr → Nat → AH → Prop) (h0 : ∀ D, Nw σ D → Inv D 0 (σ.setL D [])) (hsrc : ∀ D i σ₁, i ≤ items.length → Inv D i σ₁ → Src σ₁)
    (step : ∀ D L P' i a σ₁, Nw σ D → items[i]? = some a → Inv D i σ₁ → ∃ (items2 : List AV) (Src2 : AH → Prop) (Inv2 : Nat → AH → Prop),
      ITt prog w (compCx c scope L P') ((x, a) :: capt scope ρ) σ₁ (eval iter2 (compCx c scope L P').env) items2 Src2 ∧ Inv2 0 σ₁ ∧ (∀ j σ₂, j ≤ items2.length → Inv2 j σ₂ → Src2 σ₂) ∧ (∀ σ₂, Inv2 items2.length σ₂ → Inv D (i + 1) σ₂) ∧
      ∀ P'' j a2 σ₂, items2[j]? = some a2 → Inv2 j σ₂ → ∃ b, PTt prog w (compCx c scope L P'') ((y, a2) :: (x, a) :: capt scope ρ) σ₂ (testsOf (compCx c scope L P'').env ifs) b ∧
        if b = true then EV prog w (compCx c scope L P'') ((y, a2) :: (x, a) :: capt scope ρ) σ₂ elt (fun av σ₃ => ∃ xs, σ₃.list D = some xs ∧ xs.length ≤ 100000 ∧ Inv2 (j + 1) (σ₃.setL D (xs ++ [av]))) else Inv2 (j + 1) σ₂)
    (fin : ∀ D σ₁, Nw σ D → Inv D items.length σ₁ → Q (.ref D) σ₁)
    (hok : compOK scope c.env = true := by rfl) (hx : (scope.names.lookup x == some .local || scope.names.lookup x == some .cell) = true := by rfl) (hy : (scope.names.lookup y == some .local || scope.names.lookup y == some .cell) = true := by rfl)
    (hxy : y ≠ x := by decide) (hs : ∀ x, foldedSetIterable iter c.env x = pure x := by intro _; rfl) (hs2 : ∀ env x, foldedSetIterable iter2 env x = pure x := by intro _ _; rfl) :
    EC prog w c ρ σ (.ListComp elt [⟨.Name x px, iter, [], 0⟩, ⟨.Name y py, iter2, ifs, 0⟩] scope pos) Q := by
  refine EC.comp2 (emit := fun D env => (do let _ ← PySem.call (.builtin "list.append") [.ref D, ← eval elt env])) (ini := fun σ D => σ.setL D []) hA rfl (fun _ => rfl) rfl (fun _ _ _ => turn_outer_list ..) (fun _ _ _ => rfl) (fun _ _ _ _ => rfl) (fun _ _ _ _ => rfl) (fun _ _ _ _ _ => rfl) (fun _ _ _ _ _ => rfl) (fun _ _ _ _ => rfl) (fun _ _ _ => rfl) (fun _ _ _ => rfl)
    (fun P s R C h => newList_core C .nil (by simp) h) (fun D b hb f => AH.fresh_setL hb f) hit Inv h0 hsrc (fun D L P' i a σ₁ fD ha hI => ?_) fin hok hx hy hxy hs hs2
  obtain ⟨items2, Src2, Inv2, g1, g2, g3, g4, g5⟩ := step D L P' i a σ₁ fD ha hI
  refine ⟨items2, Src2, Inv2, g1, g2, g3, g4, fun P'' j a2 σ₂ ha2 hI2 => ?_⟩
  obtain ⟨b, hb, hh⟩ := g5 P'' j a2 σ₂ ha2 hI2
  refine ⟨b, hb, ?_⟩
  cases b with
  | false => simpa using hh
  | true =>
    simp only [if_true] at hh ⊢
    intro s₂ S₂
    refine wpAny_bind (wpAny_mono (hh s₂ S₂) (fun v s₃ ⟨av, σ₂, hv, S₃, st₃, xs, hl, hz, q⟩ => ?_) fun _ _ e => e)
    exact wpAny_bind (append_st S₃ hl hz hv fun s₄ S₄ st₄ => wpAny_pure ⟨_, S₄, st₃.trans st₄, q⟩)
end
end Mine

/-! G15 -/
namespace Mine
section
variable {prog : Program} {w : World} {c : Cx} {ρ : Rho} {σ : AH} {s s' : Shared}

/-! ### calls of builtins -/
/-- a builtin's contract at known arguments -/
def BC (prog : Program) (w : World) (c : Cx) (ρ : Rho) (σ : AH) (f : Value) (avs : List AV) (Q : AV → AH → Prop) : Prop :=
  ∀ s vs, St prog w c ρ σ s → VRs s.heap vs avs → wpAny (model prog w) c.A (call f vs) (fun v s' => ∃ av σ', VR s'.heap v av ∧ St prog w c ρ σ' s' ∧ Stab s.heap s'.heap ∧ Q av σ') NoE s

theorem EV.call1 {f : Str} {fv : Value} {e : Expr} {p pos : Pos} {R Q : AV → AH → Prop} (hf : PE prog w c ρ σ (.Name f p) (.val fv)) (he : EV prog w c ρ σ e R)
    (hc : ∀ av σ', R av σ' → BC prog w c ρ σ' fv [av] Q) (hv : (∃ id, fv = .builtin id) ∨ (∃ T, fv = .type T))
    (hs : starEach [e] c.env = [(false, eval e c.env)] := by rfl) : EV prog w c ρ σ (.Call (.Name f p) [e] [] pos) Q := fun s S => by
  refine wpAny_Call_NameR (PE.one S hf fun u s₁ S₁ p₁ hu => ?_)
  cases hu.val_inv
  rw [hs]
  have tail : wpAny (model prog w) c.A (evalArgs fv true [(false, eval e c.env)] []) (fun a s₁ => wpAny (model prog w) c.A (PySem.call fv ([] ++ a.pos) a.kw)
      (fun v s' => ∃ av σ', VR s'.heap v av ∧ St prog w c ρ σ' s' ∧ Stab s.heap s'.heap ∧ Q av σ') NoE s₁) NoE s₁ := by
    refine Calls.evalArgs_plain (Calls.spliced_cons (wpAny_mono (he s₁ S₁) (fun v s₂ ⟨av, σ', hv, S₂, st₂, r⟩ => Calls.spliced_nil ?_) fun _ _ e => e))
    exact wpAny_mono (hc av σ' r s₂ [v] S₂ (.cons hv .nil)) (fun v s₃ ⟨av, σ', hr, S₃, st₃, q⟩ => ⟨av, σ', hr, S₃, p₁.stab.trans (st₂.trans st₃), q⟩) fun _ _ e => e
  rcases hv with ⟨id, rfl⟩ | ⟨T, rfl⟩
  · exact Calls.callWith_builtin rfl tail
  · exact PySem.callWith_type rfl tail

/-! ### sum(1 for x in l if test) -/
/-- the heap that a generator's tests see -/
structure GS (prog : Program) (w : World) (c : Cx) (ρ : Rho) (σ : AH) (x : Str) (av : AV) (env' : Env) (h : Heap) : Prop where
  sees : Sees prog w c.B c.P σ h
  fr : FrOK c.B c.P σ c.env ρ c.wr h
  loc : ∃ m v, h.Ns env'.locals m ∧ m x = some v ∧ VR h v av
theorem GS.keeps {x : Str} {av : AV} {env' : Env} (G : GS prog w c ρ σ x av env' s.heap) (k : Keeps s s') : GS prog w c ρ σ x av env' s'.heap := by
  obtain ⟨h, t, rfl, e⟩ := k
  exact ⟨G.sees.ext e, G.fr.ext e, let ⟨m, v, a, b, d⟩ := G.loc; ⟨m, v, a.keeps e, b, d.stab (Ext.stab e)⟩⟩
theorem keeps_trans {a b d : Shared} (x : Keeps a b) (y : Keeps b d) : Keeps a d := by
  obtain ⟨h, t, rfl, e⟩ := x
  obtain ⟨h', t', rfl, e'⟩ := y
  exact ⟨h', t', rfl, fun b o z => e' b o (e b o z)⟩

def KE (prog : Program) (w : World) (c : Cx) (ρ : Rho) (σ : AH) (x : Str) (av : AV) (scope : Scope) (e : Expr) (r : AV) : Prop :=
  ∀ (A' : Around) (C : Addr) (code : Value) (s : Shared), Rm A' 1 → GS prog w c ρ σ x av (genEnv scope (closeOver c.env scope.names []) C code builtinsNs c.env) s.heap →
    wpAny (model prog w) A' (eval e (genEnv scope (closeOver c.env scope.names []) C code builtinsNs c.env)) (fun v s' => VR s'.heap v r ∧ Keeps s s') NoE s
def KT (prog : Program) (w : World) (c : Cx) (ρ : Rho) (σ : AH) (x : Str) (av : AV) (scope : Scope) (e : Expr) (b : Bool) : Prop :=
  ∀ (A' : Around) (C : Addr) (code : Value) (s : Shared), Rm A' 1 → GS prog w c ρ σ x av (genEnv scope (closeOver c.env scope.names []) C code builtinsNs c.env) s.heap →
    wpAny (model prog w) A' (isTrue e (genEnv scope (closeOver c.env scope.names []) C code builtinsNs c.env) (eval e (genEnv scope (closeOver c.env scope.names []) C code builtinsNs c.env))) (fun v s' => v = b ∧ Keeps s s') NoE s

variable {x : Str} {av : AV} {scope : Scope}

theorem KE.loc {pos : Pos} (hk : scope.names.lookup x = some .local) (hf : scope.kind = .function) (hd : (x == ("__debug__" : Str)) = false := by decide) : KE prog w c ρ σ x av scope (.Name x pos) av := fun A' C code s hA G => by
  obtain ⟨m, v, hn, hm, hv⟩ := G.loc
  exact wpAny_Name (wpAny_loadName_local hf hk hn hm ⟨hv, keeps_refl⟩) hd
theorem KE.free {y : Str} {r : AV} {pos : Pos} (hy : ρ.lookup y = some r) (hk : scope.names.lookup y = some .free) (hok : compOK scope c.env = true)
    (hd : (y == ("__classdict__" : Str)) = false := by decide) (hd' : (y == ("__debug__" : Str)) = false := by decide) : KE prog w c ρ σ x av scope (.Name y pos) r := fun A' C code s hA G => by
  obtain ⟨a, v, ha, hc, hv⟩ := G.fr.cellVar (compOK_free hok (mem_of_lookup hk))
  rw [hy] at hv
  obtain ⟨u, rfl, hr⟩ := hv
  have h1 := closeOver_has (env := c.env) scope.names [] y (mem_of_lookup hk) (by rw [ha]; rfl)
  obtain ⟨b, hb⟩ := Option.isSome_iff_exists.mp h1
  have h2 := (closeOver_acc scope.names [] y b (fun a h => by cases h) (mem_of_lookup hb)).1
  rw [ha] at h2; cases h2
  exact wpAny_Name (wpAny_loadName_free (compOK_kind hok) hk hb hc ⟨hr, keeps_refl⟩ hd) hd'
theorem KE.int {i : Int} {k pos} : KE prog w c ρ σ x av scope (.Constant (.int i) k pos) (.int i) := fun A' C code s hA G => wpAny_Constant_int ⟨.int _ _, keeps_toks⟩
theorem KE.two {e1 e2 : Expr} {a b : AV} {A' : Around} {C : Addr} {code : Value} {R : Value → Value → Shared → Prop} (hA : Rm A' 1) (G : GS prog w c ρ σ x av (genEnv scope (closeOver c.env scope.names []) C code builtinsNs c.env) s.heap)
    (h1 : KE prog w c ρ σ x av scope e1 a) (h2 : KE prog w c ρ σ x av scope e2 b)
    (k : ∀ u v s₂, GS prog w c ρ σ x av (genEnv scope (closeOver c.env scope.names []) C code builtinsNs c.env) s₂.heap → Keeps s s₂ → VR s₂.heap u a → VR s₂.heap v b → R u v s₂) :
    wpAny (model prog w) A' (eval e1 (genEnv scope (closeOver c.env scope.names []) C code builtinsNs c.env)) (fun u s₁ => wpAny (model prog w) A' (eval e2 (genEnv scope (closeOver c.env scope.names []) C code builtinsNs c.env)) (fun v s₂ => R u v s₂) NoE s₁) NoE s :=
  wpAny_mono (h1 A' C code s hA G) (fun u s₁ ⟨hr, p⟩ => wpAny_mono (h2 A' C code s₁ hA (G.keeps p)) (fun v s₂ ⟨hr2, p2⟩ => k u v s₂ (G.keeps (keeps_trans p p2)) (keeps_trans p p2) (hr.stab (keeps_pu p2).ext.stab) hr2) fun _ _ e => e) fun _ _ e => e
theorem KE.sub_ {value slice : Expr} {pos : Pos} {o i r : AV} (h1 : KE prog w c ρ σ x av scope value o) (h2 : KE prog w c ρ σ x av scope slice i) (g : GI σ o i r)
    (hs : ∀ o i, subscripted slice false o i = operate [o, i] (getItem o i) := by intro _ _; rfl) : KE prog w c ρ σ x av scope (.Subscript value slice pos) r := fun A' C code s hA G => by
  refine Subscript_ (KE.two hA G h1 h2 fun u v s₂ G₂ k hu hv => ?_)
  obtain ⟨T, id, hT, hl, hg⟩ := getItem_GI hA (Q := fun v s' => VR s'.heap v r ∧ Keeps s s') G₂.sees hu hv g (fun x s' hr p' => ⟨hr, keeps_trans k p'⟩)
  exact tail_any hT hl hg (hs _ _)
theorem KE.pair {e1 e2 : Expr} {k : Nat} {pos : Pos} {a b : AV} (h1 : KE prog w c ρ σ x av scope e1 a) (h2 : KE prog w c ρ σ x av scope e2 b)
    (he1 : ∀ env, starEach (e1 :: [e2]) env = (false, eval e1 env) :: starEach [e2] env := by intro _; rfl)
    (he2 : ∀ env, starEach (e2 :: []) env = (false, eval e2 env) :: starEach [] env := by intro _; rfl) : KE prog w c ρ σ x av scope (.Tuple [e1, e2] k pos) (.pair a b) := fun A' C code s hA G => by
  refine wpAny_Tuple (wpAny_items_cons (he := he1 _) (wpAny_mono (h1 A' C code s hA G) (fun u s₁ ⟨hu, p⟩ => wpAny_items_cons (he := he2 _) (wpAny_mono (h2 A' C code s₁ hA (G.keeps p)) (fun v s₂ ⟨hv, p₂⟩ => wpAny_items_nil ?_) fun _ _ e => e)) fun _ _ e => e))
  have e : Ext s₂.heap (s₂.heap.push { cls := .type "tuple", data := .seq [u, v].toArray }) := Ext.push _ _
  exact ⟨by rw [sizeLine_eq]; simp, .pair (Heap.get?_push_size _ rfl) rfl rfl ((hu.stab (keeps_pu p₂).ext.stab).stab e.stab) (hv.stab e.stab), keeps_trans (keeps_trans p p₂) ⟨_, s₂.toks, rfl, e⟩⟩
theorem KT.inL {l r : Expr} {pos : Pos} {a : Addr} {xs : List Int} {k : Int} (h1 : KE prog w c ρ σ x av scope l (.int k)) (h2 : KE prog w c ρ σ x av scope r (.ref a)) (hl : σ.list a = some (xs.map AV.int))
    (hm : behindInMarks .In r = false := by with_unfolding_all rfl) : KT prog w c ρ σ x av scope (.Compare l [.In] [r] pos) (xs.contains k) := fun A' C code s hA G => by
  refine wpAny_isTrue_Compare1 (hm := hm) (KE.two hA G h1 h2 fun u v s₂ G₂ p hu hv => ?_)
  obtain ⟨t, rfl⟩ := hu.int_inv
  cases hv.ref_inv
  exact in_ints (G₂.sees.list _ _ hl) (wpAny_truthy_bool ⟨rfl, p⟩)
theorem KT.eq {l r : Expr} {pos : Pos} {a b : Int} (h1 : KE prog w c ρ σ x av scope l (.int a)) (h2 : KE prog w c ρ σ x av scope r (.int b))
    (hm : behindInMarks .Eq r = false := by with_unfolding_all rfl) : KT prog w c ρ σ x av scope (.Compare l [.Eq] [r] pos) (decide (a = b)) := fun A' C code s hA G => by
  refine wpAny_isTrue_Compare1 (hm := hm) (KE.two hA G h1 h2 fun u v s₂ G₂ p hu hv => ?_)
  obtain ⟨t, rfl⟩ := hu.int_inv
  obtain ⟨t', rfl⟩ := hv.int_inv
  exact eq_int (wpAny_truthy_bool ⟨Bool.beq_eq_decide_eq a b, p⟩)
end
end Mine

/-! G16 -/
namespace Mine
section
variable {prog : Program} {w : World} {c : Cx} {ρ : Rho} {σ : AH} {s s' : Shared}

/-- how many of the first n pass -/
def tally (pz : Nat → Bool) (n : Nat) : Nat := ((List.range n).filter pz).length
theorem passing_tally (pz : Nat → Bool) (n : Nat) : (passing pz n 0).length = tally pz n := by unfold passing tally; simp
theorem preSum_ones : ∀ n, preSum (fun _ => (1 : Int)) n = (n : Int)
  | 0 => rfl
  | n + 1 => by rw [preSum, preSum_ones n]; simp

theorem AllBare.moved' {wr : List Addr} {g : Nat} (x : AllBare s.gens) (hm : Moved wr (GenOnlyQ g) s s') : AllBare s'.gens := x.moved hm.gens

/-- the code table of a running code, grown by a generator's code -/
theorem genexprCode_st {pos : Pos} {qn : Str} {scope : Scope} {a k : Addr} {R : Value → Shared → Prop} (S : St prog w c ρ σ s) (hc : c.env.code = .ref k) (ht : σ.tab a = some k)
    (h : ∀ code s', St prog w c ρ σ s' → Heap.ExtBut a s.heap s'.heap → s'.gens = s.gens → s'.os = s.os → Stab s.heap s'.heap → R code s') : wpAny (model prog w) c.A (genexprCode c.env pos qn scope) R NoE s := by
  obtain ⟨⟨ps, htab, hcode⟩, hk⟩ := S.sees.tab _ _ ht
  have nf : ¬ σ.Fresh a := fun f => by rw [f.2.2.2.2] at ht; cases ht
  have ni : NT s.heap a := fun o ho i => by rw [htab.2] at ho; cases ho; rcases i.cls with h | h <;> cases h
  cases hf : codeAmong pos ps.toList with
  | some cv => exact wpAny_genexprCode_hit hc hcode hf (h _ s S (Heap.ExtBut.refl _ _) rfl rfl (.refl _))
  | none =>
    refine wpAny_genexprCodeX hc hcode htab hf fun c' h' tk hx _ _ hcode' _ htab' _ => ?_
    have st : Stab s.heap h' := .extBut hx ni
    exact h _ _ ⟨⟨S.sees.putT hx (S.sees.notPinned nf) st ht ⟨_, htab', hcode'⟩, S.os, S.gens⟩, S.fr.put hx (S.notFrame nf) st fun _ _ f => f⟩ hx rfl rfl st

/-- sum(1 for x in l if test) -/
theorem genCount {f x : Str} {p px gpos pos k1 : Pos} {kk : Nat} {iter test : Expr} {scope : Scope} {l a k : Addr} {items : List AV} {n : Nat} (pz : Nat → Bool) (hA : Rm c.A (n + 4)) (hB : c.B.OK)
    (hf : PE prog w c ρ σ (.Name f p) (.val (.builtin "sum"))) (hi : PE prog w c ρ σ iter (.ref l)) (hl : σ.list l = some items) (hc : c.env.code = .ref k) (ht : σ.tab a = some k)
    (htest : ∀ i av, items[i]? = some av → KT prog w c ρ σ x av scope test (pz i))
    (hx : scope.names.lookup x = some .local) (hok : compOK scope c.env = true) (hco : scope.isCoroutine = false := by rfl) (hcell : ∀ y ∈ scope.names, y.2 ≠ .cell := by decide) (h0 : scope.names.lookup (".0" : Str) = some NameKind.local := by rfl)
    (hfo : ∀ x, genFold iter c.env x = pure x := by intro _; rfl)
    (hs : starEach [Expr.GeneratorExp (.Constant (.int 1) kk k1) [⟨.Name x px, iter, [test], 0⟩] scope gpos] c.env = [(false, eval (Expr.GeneratorExp (.Constant (.int 1) kk k1) [⟨.Name x px, iter, [test], 0⟩] scope gpos) c.env)] := by rfl) :
    PE prog w c ρ σ (.Call (.Name f p) [.GeneratorExp (.Constant (.int 1) kk k1) [⟨.Name x px, iter, [test], 0⟩] scope gpos] [] pos) (.int (tally pz items.length : Nat)) := fun s S => by
  refine wpAny_Call_NameR (PE.one S hf fun u s₁ S₁ p₁ hu => ?_)
  cases hu.val_inv
  rw [hs]
  refine Calls.callWith_builtin rfl (Calls.evalArgs_plain (Calls.spliced_cons ?_))
  have hcells : ∀ x, (x, NameKind.free) ∈ scope.names → (c.env.cells.lookup x).isSome = true := fun x hx => by
    obtain ⟨a, v, ha, _⟩ := S₁.fr.cellVar (compOK_free hok hx)
    rw [ha]; rfl
  refine wpAny_GeneratorExp_walksQD hA.1 hco (closureFor_eq hcells) hcell h0 hx (compOK_kind hok) hA.room (PE.one S₁ hi fun v s₂ S₂ p₂ hv => ?_) hfo
  cases hv.ref_inv
  obtain ⟨vs, hl₂', hvs⟩ := S₂.sees.list _ _ hl
  have hl₂ := hl₂'.isList
  refine wpAny_pyIter_list hl₂ ?_
  have hIn : s₂.heap.get? s₂.heap.objs.size = none := get?_none_of_le (Nat.le_refl _)
  have pI : Pu s₂ { s₂ with heap := s₂.heap.push { cls := .type "list_iterator", data := .fields #[.ref l, .int 0 0] } } := .push _ _
  generalize hI : s₂.heap.objs.size = I at hIn
  have frI := S₂.sees.fresh hIn
  have nfI : ¬ isFr c.env I := fun h => by obtain ⟨o', ho'⟩ := S₂.fr.get h; rw [hIn] at ho'; cases ho'
  have hit₃ : (s₂.heap.push { cls := .type "list_iterator", data := .fields #[.ref l, .int 0 0] }).IsListIter I l 0 := ⟨_, hI ▸ Heap.get?_push_size _ rfl, rfl, rfl⟩
  have S₃ := S₂.pu pI
  refine ⟨hB.nolimit.keeps S₃.sees.keeps, genexprCode_st S₃ hc ht fun code s₄ S₄ hx₄ hg₄ ho₄ st₄ => ?_⟩
  obtain ⟨bm, ob, M⟩ := hB.bmod
  have M₄ := M.keeps S₄.sees.keeps
  refine wpAny_builtinsFor (S₄.fr.glob ▸ M₄.ns) M₄.name M₄.ne M₄.obj M₄.cls M₄.dict M₄.data ?_
  have hlI : l ≠ I := by rintro rfl; obtain ⟨o, ho, _⟩ := hl₂; rw [hIn] at ho; cases ho
  have haI : I ≠ a := by
    rintro rfl
    rw [frI.2.2.2.2.2] at ht; cases ht
  have hit₄ : s₄.heap.IsListIter I l 0 := let ⟨o, ho, r⟩ := hit₃; ⟨o, hx₄ _ _ haI ho, r⟩
  obtain ⟨vs₄, hl₄', hvs₄⟩ := S₄.sees.list _ _ hl
  have hl₄ := hl₄'.isList
  have hlim₄ := hB.nolimit.keeps S₄.sees.keeps
  have hlen := hvs₄.length
  refine ⟨I, [I, l], [I], _, _, _, pz, fun _ v => ∃ t, v = .int 1 t, rfl, (fun A' hA' => Walks.list hA' I l hlI vs₄.toArray), ⟨hit₄, hl₄⟩, ?_, hlim₄, ?_, ?_, ?_⟩
  · intro b hb
    rcases List.mem_cons.mp hb with rfl | hb
    · obtain ⟨o, ho, _⟩ := hit₄; exact Heap.lt_size ho
    · rw [List.mem_singleton] at hb; subst hb
      obtain ⟨o, ho, _⟩ := hl₄; exact Heap.lt_size ho
  · rw [List.mem_singleton]
    rintro rfl
    obtain ⟨mc, ⟨o, _, _, ho, _⟩, _⟩ := hB.nolimit.keeps S₂.sees.keeps
    rw [hIn] at ho; cases ho
  · intro href hhref
    have gs : ∀ (t : Shared) (C : Addr) (i : Nat) (v : Value) (m₂ : Str → Option Value), vs₄.toArray[i]? = some v → t.heap.Ns C m₂ → m₂ x = some v → (∀ b ∈ List.range s₄.heap.objs.size, b ∉ [I] → ∀ o, href.get? b = some o → t.heap.get? b = some o) →
        ∃ av, items[i]? = some av ∧ GS prog w c ρ σ x av (genEnv scope (closeOver c.env scope.names []) C code builtinsNs c.env) t.heap := fun t C i v m₂ hv hn hm hk => by
      have keep : ∀ b o, b ≠ I → s₄.heap.get? b = some o → t.heap.get? b = some o := fun b o hb e => hk b (List.mem_range.mpr (Heap.lt_size e)) (by simpa using hb) o (hhref b o e)
      have st : Stab s₄.heap t.heap := fun b o e im => by
        refine keep b o ?_ e
        rintro rfl
        obtain ⟨o', ho', hc', _⟩ := hit₄
        rw [e] at ho'; cases ho'; exact imm_not hc' rfl im
      have hlt : i < items.length := by
        have : i < vs₄.toArray.size := (Array.getElem?_eq_some_iff.mp hv).1
        simpa [hlen] using this
      have hiv : items[i]? = some items[i] := by simp [hlt]
      obtain ⟨v', h1, h2⟩ := hvs₄.get hiv
      have : v' = v := by rw [List.getElem?_toArray, h1] at hv; exact Option.some.inj hv
      subst this
      exact ⟨_, hiv, S₄.sees.but (fun b o hb e => keep b o hb e) frI.1 frI.2 st, S₄.fr.put (fun b o hb e => keep b o hb e) nfI st (fun _ _ f => f), m₂, v', hn, hm, h2.stab st⟩
    have rm : ∀ A' : Around, A'.handled = none → A'.depth ≤ c.A.depth + 1 → A'.units ≤ c.A.units + 8 → Rm A' 1 := fun A' h1 h2 h3 => ⟨h1, by have := hA.2.1; omega, by have := hA.2.2; omega⟩
    exact ⟨fun A' E' i v t m₂ hA' hD hU hv hn hm hk => by
        obtain ⟨av, hav, G⟩ := gs t _ i v m₂ hv hn hm hk
        exact up (wpAny_tests_one (htest i av hav A' _ code t (rm A' hA' hD hU) G)),
      fun A' E' i v t m₂ hA' hD hU hv hp hn hm hk => up (wpAny_Constant_int ⟨⟨_, rfl⟩, keeps_toks⟩)⟩
  · intro a' h₅ tk gs hgb hag hsz₅ hk₅ W hat
    refine Calls.spliced_nil ?_
    have W := W.in4_1
    refine call_sum_walkAnyS (W.self 0 _ _ _ hat ⟨a', _, _, _, _, _, _, fun _ => 1, rfl, W, hat, ?_, ?_, fun s' t' hm => ?_⟩)
    · intro b hb
      show b < h₅.objs.size
      rw [hsz₅]
      rcases List.mem_cons.mp hb with rfl | hb
      · exact Nat.lt_succ_self _
      · rcases List.mem_cons.mp hb with rfl | hb
        · exact Nat.lt_succ_of_lt hag
        · exact Nat.lt_succ_of_lt (Nat.lt_trans (List.mem_range.mp hb) hag)
    · rintro j v ⟨i, _, t, rfl⟩; exact ⟨t, rfl⟩
    · have keep : ∀ b o, b ≠ I → s₄.heap.get? b = some o → s'.heap.get? b = some o := fun b o hb e => hm.heap b o (by
        simp only [List.mem_cons, not_or, List.not_mem_nil, not_false_eq_true, and_true]
        exact ⟨Nat.ne_of_lt (Heap.lt_size e), hb⟩) (hk₅ b o e)
      have st : Stab s₄.heap s'.heap := fun b o e im => by
        refine keep b o ?_ e
        rintro rfl
        obtain ⟨o', ho', hc', _⟩ := hit₄
        rw [e] at ho'; cases ho'; exact imm_not hc' rfl im
      refine ⟨?_, ⟨⟨⟨S₄.sees.but (fun b o hb e => keep b o hb e) frI.1 frI.2 st, hm.os.trans S₄.os, ?_⟩, S₄.fr.put (fun b o hb e => keep b o hb e) nfI st (fun _ _ f => f)⟩, ?_⟩⟩
      · rw [passing_tally, preSum_ones]
        have : vs₄.toArray.size = items.length := by simpa using hlen
        rw [this]; exact .int _ _
      · exact AllBare.moved (AllBare.push S₄.gens hgb) hm.gens
      · exact (p₁.stab.trans p₂.stab).trans ((pI.ext.stab.trans st₄).trans st)
end
end Mine

/-! G17 -/
namespace Mine
section
variable {prog : Program} {w : World} {c : Cx} {ρ : Rho} {σ : AH} {s s' : Shared}

theorem S1.expr {e : Expr} {pos : Pos} {Q : AF → Rho → AH → Prop} (h : EV prog w c ρ σ e (fun _ σ' => Q .next ρ σ')) (hs : swapsWith e none pos.line c.env = pure false := by rfl) :
    S1 prog w c ρ σ (.Expr e pos) Q := fun s S => by
  refine wpAny_Expr_any (wpAny_mono (h s S) (fun v s' ⟨av, σ', hv, S', st, q⟩ => ⟨.next, ρ, σ', .next, S', st, q⟩) fun _ _ e => e) ?_ hs
  unfold interactive
  rw [S.fr.kind]; rfl

/-- while: a measure goes down -/
theorem S1.while_ {test : Expr} {body orelse : List Stmt} {pos : Pos} {Q : AF → Rho → AH → Prop} (Inv : Nat → Rho → AH → Prop) (n : Nat) (h0 : Inv n ρ σ)
    (step : ∀ k ρ₁ σ₁, Inv k ρ₁ σ₁ → ∃ b, PT prog w c ρ₁ σ₁ test b ∧
      if b = true then SX prog w c ρ₁ σ₁ body (fun f ρ₂ σ₂ => match f with | .next => ∃ m, m < k ∧ Inv m ρ₂ σ₂ | .cont => ∃ m, m < k ∧ Inv m ρ₂ σ₂ | .brk => Q .next ρ₂ σ₂ | .ret v => Q (.ret v) ρ₂ σ₂)
      else SX prog w c ρ₁ σ₁ orelse Q) : S1 prog w c ρ σ (.While test body orelse pos) Q := fun s S => by
  refine wpAny_While ?_
  refine codeAny_whileLoop (fun k s' => ∃ ρ₁ σ₁, St prog w c ρ₁ σ₁ s' ∧ Stab s.heap s'.heap ∧ Inv k ρ₁ σ₁) ?_ n ⟨ρ, σ, S, .refl _, h0⟩
  rintro k s' ⟨ρ₁, σ₁, S₁, st, hI⟩
  obtain ⟨b, ht, hb⟩ := step k ρ₁ σ₁ hI
  refine up (wpAny_mono (ht s' S₁) (fun ok s₂ ⟨eb, p₂⟩ => ?_) fun _ _ e => e)
  subst eb
  cases ok with
  | false =>
    simp only [Bool.false_eq_true, if_false] at hb ⊢
    refine up (wpAny_mono (hb s₂ p₂.st) (fun f s₃ h₃ => ?_) fun _ _ e => e)
    obtain ⟨af, ρ₂, σ₂, hf, S₃, st₃, q⟩ := h₃
    exact ⟨af, ρ₂, σ₂, hf, S₃, (st.trans p₂.stab).trans st₃, q⟩
  | true =>
    simp only [if_true] at hb ⊢
    refine up (wpAny_mono (hb s₂ p₂.st) (fun f s₃ h₃ => ?_) fun _ _ e => e)
    obtain ⟨af, ρ₂, σ₂, hf, S₃, st₃, q⟩ := h₃
    have stt := (st.trans p₂.stab).trans st₃
    cases hf with
    | next => obtain ⟨m, hm, hI'⟩ := q; exact ⟨m, hm, ρ₂, σ₂, S₃, stt, hI'⟩
    | cont => obtain ⟨m, hm, hI'⟩ := q; exact ⟨m, hm, ρ₂, σ₂, S₃, stt, hI'⟩
    | brk => exact ⟨.next, ρ₂, σ₂, .next, S₃, stt, q⟩
    | ret hr => exact ⟨.ret _, ρ₂, σ₂, .ret hr, S₃, stt, q⟩

/-! ### methods -/
/-- what stands there has such a type -/
inductive Recv (σ : AH) : AV → String → Prop
  | list {a xs} : σ.list a = some xs → Recv σ (.ref a) "list"
  | dI {a d} : σ.dI a = some d → Recv σ (.ref a) "dict"
  | dP {a d} : σ.dP a = some d → Recv σ (.ref a) "dict"
  | set {a S} : σ.set a = some S → Recv σ (.ref a) "set"
theorem Recv.ok {B : Basis} {P : Pins} {av : AV} {T : String} {v : Value} (r : Recv σ av T) (S : Sees prog w B P σ s.heap) (hv : VR s.heap v av) :
    s.TypeIs v T ∧ ∀ a, v = .ref a → ∃ ob, s.heap.get? a = some ob ∧ ob.dict = none := by
  cases r with
  | list h =>
    cases hv.ref_inv
    obtain ⟨vs, ⟨n, ho⟩, _⟩ := S.list _ _ h
    exact ⟨⟨_, ho, rfl⟩, fun a e => by cases e; exact ⟨_, ho, rfl⟩⟩
  | dI h =>
    cases hv.ref_inv
    obtain ⟨vs, ⟨o, es, ho, hc, _⟩, _⟩ := S.dI _ _ h
    exact ⟨⟨_, ho, hc.1⟩, fun a e => by cases e; exact ⟨_, ho, hc.2.1⟩⟩
  | dP h =>
    cases hv.ref_inv
    obtain ⟨vs, ⟨o, es, ep, ho, hc, _⟩, _⟩ := S.dP _ _ h
    exact ⟨⟨_, ho, hc.1⟩, fun a e => by cases e; exact ⟨_, ho, hc.2.1⟩⟩
  | set h =>
    cases hv.ref_inv
    obtain ⟨o, _, _, _, ho, hc, _⟩ := S.set _ _ h
    exact ⟨⟨_, ho, hc.1⟩, fun a e => by cases e; exact ⟨_, ho, hc.2.1⟩⟩

theorem EV.meth {o : Expr} {name : Str} {apos pos : Pos} {args : List Expr} {T id : String} {R Q : AV → AH → Prop} (ho : EV prog w c ρ σ o R) (pa : PlainAttrs T) (slot : Slot T name id) (hty : typeOf (.builtin id) = pure (.type "method_descriptor"))
    (h : ∀ av σ', R av σ' → Recv σ' av T ∧ ∃ avs, PEs prog w c ρ σ' args avs ∧ BC prog w c ρ σ' (.builtin id) (av :: avs) Q)
    (hbase : attributeBase o name c.env (eval o c.env) = eval o c.env := by rfl) (hline : (apos.endLine == pos.line) = true := by rfl)
    (hfew : ((backTo pos (starEach args c.env)).all (fun x => !x.1) && (backToKw pos (keywordEach [] c.env)).all (fun x => x.1.isSome)
      && decide (args.length + ([] : List Keyword).length + (if ([] : List Keyword).isEmpty then 0 else 1) < 30)) = true := by rfl) (hpl : (backTo pos (starEach args c.env)).any (·.1) = false := by rfl) :
    EV prog w c ρ σ (.Call (.Attribute o name apos) args [] pos) Q := fun s S => by
  refine wpAny_Call_method_late hbase hfew hline rfl (wpAny_mono (ho s S) (fun ov s₁ ⟨av, σ', hv, S₁, st₁, r⟩ => ?_) fun _ _ e => e)
  obtain ⟨hrec, avs, hes, hc⟩ := h av σ' r
  obtain ⟨hT, hd⟩ := hrec.ok S₁.sees hv
  refine ⟨T, id, pa, slot, hty, hT, hd, Calls.callWith_builtin hpl ?_⟩
  have fin : ∀ vs s₂, St prog w c ρ σ' s₂ → Pv prog w c ρ σ' s₁ s₂ → VRs s₂.heap vs avs → wpAny (model prog w) c.A (PySem.call (.builtin id) ([ov] ++ vs) []) (fun v s' => ∃ av σ', VR s'.heap v av ∧ St prog w c ρ σ' s' ∧ Stab s.heap s'.heap ∧ Q av σ') NoE s₂ := fun vs s₂ S₂ p₂ hvs =>
    wpAny_mono (hc s₂ (ov :: vs) S₂ (.cons (hv.stab p₂.stab) hvs)) (fun v s₃ ⟨av, σ', hr, S₃, st₃, q⟩ => ⟨av, σ', hr, S₃, st₁.trans (p₂.stab.trans st₃), q⟩) fun _ _ e => e
  cases hes with
  | nil => exact PySem.evalArgs_none (fin [] s₁ S₁ (.refl S₁) .nil)
  | @cons e es a as h1 he hr =>
    rw [he es]
    refine Calls.evalArgs_plain ?_
    have := PEs.run (pos := pos) (PEs.cons h1 he hr) S₁ (R := fun vs s₂ => wpAny (model prog w) c.A (PySem.call (.builtin id) ([ov] ++ vs) []) (fun v s' => ∃ av σ', VR s'.heap v av ∧ St prog w c ρ σ' s' ∧ Stab s.heap s'.heap ∧ Q av σ') NoE s₂) fin
    rw [he es] at this
    exact this

theorem VRs.inv1 {h : Heap} {vs : List Value} {a : AV} (x : VRs h vs [a]) : ∃ v, vs = [v] ∧ VR h v a := by
  cases x with | cons h1 h2 => cases h2; exact ⟨_, rfl, h1⟩
theorem VRs.inv2 {h : Heap} {vs : List Value} {a b : AV} (x : VRs h vs [a, b]) : ∃ u v, vs = [u, v] ∧ VR h u a ∧ VR h v b := by
  cases x with | cons h1 h2 => obtain ⟨v, rfl, h3⟩ := h2.inv1; exact ⟨_, _, rfl, h1, h3⟩
theorem VRs.inv3 {h : Heap} {vs : List Value} {a b d : AV} (x : VRs h vs [a, b, d]) : ∃ u v z, vs = [u, v, z] ∧ VR h u a ∧ VR h v b ∧ VR h z d := by
  cases x with | cons h1 h2 => obtain ⟨v, z, rfl, h3, h4⟩ := h2.inv2; exact ⟨_, _, _, rfl, h1, h3, h4⟩

/-- one list changed -/
theorem St.putL {S : St prog w c ρ σ s} {a : Addr} {xs ys : List AV} {h' : Heap} {tk : Nat} (hl : σ.list a = some xs) (hs : Heap.SameBut a s.heap h') (hr : Stab s.heap h' → LRep h' a ys) :
    St prog w c ρ (σ.setL a ys) { s with heap := h', toks := tk } ∧ Stab s.heap h' := by
  have st : Stab s.heap h' := .sameBut hs (.cls (S.sees.list _ _ hl).get rfl)
  have nf := AH.drop_list hl
  exact ⟨⟨⟨S.sees.putL hs.extBut (S.sees.notPinned nf) st (S.sees.onlyL hl) (hr st), S.os, S.gens⟩, S.fr.put hs.extBut (S.notFrame nf) st fun b hb f => AH.fresh_setL hb f⟩, st⟩

theorem BC.append {a : Addr} {xs : List AV} {v : AV} {Q : AV → AH → Prop} (hl : σ.list a = some xs) (hz : xs.length ≤ 100000) (q : Q .none (σ.setL a (xs ++ [v]))) :
    BC prog w c ρ σ (.builtin "list.append") [.ref a, v] Q := fun s vs S hvs => by
  obtain ⟨u, x, rfl, hu, hx⟩ := hvs.inv2
  cases hu.ref_inv
  exact append_st S hl hz hx fun s' S' st => ⟨.none, _, .none, S', st, q⟩

theorem BC.extend {a b : Addr} {xs ys : List AV} {Q : AV → AH → Prop} (hl : σ.list a = some xs) (hl2 : σ.list b = some ys) (hz : xs.length ≤ 10000) (hz2 : ys.length ≤ 10000) (q : Q .none (σ.setL a (xs ++ ys))) :
    BC prog w c ρ σ (.builtin "list.extend") [.ref a, .ref b] Q := fun s vs S hvs => by
  obtain ⟨u, x, rfl, hu, hx⟩ := hvs.inv2
  cases hu.ref_inv
  cases hx.ref_inv
  obtain ⟨us, ⟨n, hl'⟩, hus⟩ := S.sees.list _ _ hl
  obtain ⟨ws, ⟨n2, hl2'⟩, hws⟩ := S.sees.list _ _ hl2
  have h1 := hus.length
  have h2 := hws.length
  have hlong : ¬(!us.toArray.isEmpty && Builtin.List.listTooLong (us.toArray.size + ws.toArray.size)) = true := by
    have : Builtin.List.listTooLong (us.toArray.size + ws.toArray.size) = false := by
      unfold Builtin.List.listTooLong
      simp only [List.size_toArray, decide_eq_false_iff_not]
      rw [sizeLine_eq]; omega
    rw [this]; simp
  refine call_meets (T := "list") F.slot_list_extend ⟨_, hl', rfl⟩ F.entry_list_extend (F.args_list_extend_2 _ _) (AutoSeq1.list_extend_list_list_0 a us.toArray n b ws.toArray n2 hlong (by rw [List.size_toArray, sizeLine_eq]; omega) (by simp only [List.size_toArray]; rw [sizeLine_eq]; omega)) ⟨hl', hl2', ?_⟩
  obtain ⟨n', hd'⟩ := Obj.data_mapSeq (o := { cls := .type "list", data := .seq us.toArray n }) rfl (fun x => x ++ ws.toArray)
  have st1 : Heap.SameBut a s.heap (s.heap.update a (Obj.mapSeq fun x => x ++ ws.toArray)) := Heap.SameBut.update ..
  obtain ⟨S', st⟩ := St.putL (S := S) (tk := s.toks) (ys := xs ++ ys) hl st1 fun st => ⟨us ++ ws, ⟨n', by
    rw [Heap.get?_update_self _ hl' (Obj.isFreed_of_seq hd')]
    congr 1
    simp only [Obj.mapSeq] at hd' ⊢
    injection hd' with h3 h4
    rw [h4]; simp⟩, (hus.stab st).append (hws.stab st)⟩
  exact ⟨.none, _, .none, S', st, q⟩
end
end Mine

/-! G18 -/
namespace Mine
section
variable {prog : Program} {w : World} {c : Cx} {ρ : Rho} {σ : AH} {s s' : Shared}

/-! ### list.remove -/
theorem eraseIdx_int {xs : List Int} {x : Int} {j : Nat} (hj : xs[j]? = some x) (hno : ∀ m, m < j → xs[m]? ≠ some x) : xs.eraseIdx j = xs.erase x := by
  induction xs generalizing j with
  | nil => simp at hj
  | cons y ys ih =>
    cases j with
    | zero => simp at hj; subst hj; simp
    | succ j =>
      have h0 := hno 0 (by omega)
      have hne : y ≠ x := by intro e; apply h0; simp [e]
      simp at hj
      have : (y == x) = false := by simpa using hne
      simp only [List.eraseIdx_cons_succ, List.erase_cons, this]
      rw [ih hj (fun m hm => by have := hno (m + 1) (by omega); simpa using this)]
      simp
theorem VRs.eraseIdx {h : Heap} {vs : List Value} {xs : List AV} (x : VRs h vs xs) : ∀ j, VRs h (vs.eraseIdx j) (xs.eraseIdx j) := by
  induction x with
  | nil => intro j; exact .nil
  | cons h1 h2 ih => intro j; cases j with
    | zero => exact h2
    | succ j => exact .cons h1 (ih j)
theorem intsAre_get {vs : List Value} {xs : List Int} (x : IntsAre vs xs) : ∀ {i : Nat} {v : Value}, vs[i]? = some v → ∃ k t, xs[i]? = some k ∧ v = .int k t := by
  induction x with
  | nil => intro i v h; simp at h
  | cons n t _ ih =>
    intro i v h
    cases i with
    | zero => simp at h; exact ⟨n, t, rfl, h.symm⟩
    | succ i => simp at h; obtain ⟨k, t', h1, h2⟩ := ih h; exact ⟨k, t', by simpa using h1, h2⟩

theorem first_at {x : Int} : ∀ {xs : List Int}, x ∈ xs → ∃ j : Nat, xs[j]? = some x ∧ ∀ m : Nat, m < j → xs[m]? ≠ some x
  | y :: ys, h => by
    by_cases e : y = x
    · exact ⟨0, by simp [e], fun m hm => by omega⟩
    · obtain ⟨j, h1, h2⟩ := first_at (x := x) (xs := ys) (by rcases List.mem_cons.mp h with h | h; exact absurd h.symm e; exact h)
      refine ⟨j + 1, by simpa using h1, fun m hm => ?_⟩
      cases m with
      | zero => simpa using e
      | succ m => simpa using h2 m (by omega)
theorem map_eraseIdx' {α β : Type} (f : α → β) : ∀ (l : List α) (j : Nat), (l.map f).eraseIdx j = (l.eraseIdx j).map f
  | [], j => by cases j <;> rfl
  | x :: r, 0 => rfl
  | x :: r, j + 1 => by simp only [List.map_cons, List.eraseIdx_cons_succ]; rw [map_eraseIdx' f r j]

theorem BC.remove {a : Addr} {xs : List Int} {x : Int} {Q : AV → AH → Prop} (hl : σ.list a = some (xs.map AV.int)) (hz : xs.length ≤ 100000) (hx : x ∈ xs) (q : Q .none (σ.setL a ((xs.erase x).map AV.int))) :
    BC prog w c ρ σ (.builtin "list.remove") [.ref a, .int x] Q := fun s vs S hvs => by
  obtain ⟨u, v, rfl, hu, hv⟩ := hvs.inv2
  cases hu.ref_inv
  obtain ⟨t, rfl⟩ := hv.int_inv
  obtain ⟨us, ⟨n, hl'⟩, hus⟩ := S.sees.list _ _ hl
  have hi := hus.any_int
  have hlen : us.length = xs.length := by rw [hus.length, List.length_map]
  -- the first place
  obtain ⟨j, hj, hno⟩ := first_at hx
  have hjl : j < xs.length := by
    rcases Nat.lt_or_ge j xs.length with h | h
    · exact h
    · rw [List.getElem?_eq_none h] at hj; cases hj
  have at_ : ∀ m (hm : m < us.toArray.size), ∃ k t, xs[m]? = some k ∧ us.toArray[m] = .int k t := fun m hm => by
    have hm' : m < us.length := by simpa using hm
    exact intsAre_get hi (i := m) (v := us.toArray[m]) (by simp [hm'])
  refine call_meets (T := "list") F.slot_list_remove ⟨_, hl', rfl⟩ F.entry_list_remove (F.args_list_remove_2 _ _)
    (MeetsSeq.list_remove a us.toArray n (.int x t) (fun v => match v with | .int i _ => i == x | _ => false) (fun y hy => ?_) j (by simp; omega) ?_ (fun m hm hmj => ?_) (by rw [List.size_toArray, sizeLine_eq]; omega)) ⟨hl', ?_⟩
  · obtain ⟨i, t', rfl⟩ := intsAre_mem hi y (by simpa using hy)
    exact MeetsSeq.EqGives.int i x t' t
  · obtain ⟨k, t', h1, h2⟩ := at_ j (by simp; omega)
    rw [h2]; rw [hj] at h1; cases h1; simp
  · obtain ⟨k, t', h1, h2⟩ := at_ m hm
    rw [h2]
    have := hno m hmj
    rw [h1] at this
    simp at this
    simpa using this
  · obtain ⟨n', hd'⟩ := Obj.data_mapSeq (o := { cls := .type "list", data := .seq us.toArray n }) rfl (fun xs => xs.eraseIdxIfInBounds j)
    have st1 : Heap.SameBut a s.heap (s.heap.update a (Obj.mapSeq fun xs => xs.eraseIdxIfInBounds j)) := Heap.SameBut.update ..
    obtain ⟨S', st⟩ := St.putL (S := S) (tk := s.toks) (ys := (xs.erase x).map AV.int) hl st1 fun st => ⟨us.eraseIdx j, ⟨n', by
      rw [Heap.get?_update_self _ hl' (Obj.isFreed_of_seq hd')]
      congr 1
      simp only [Obj.mapSeq] at hd' ⊢
      injection hd' with h3 h4
      rw [h4]
      congr 1
      rw [Array.eraseIdxIfInBounds]
      have : j < us.toArray.size := by simp; omega
      rw [dif_pos this]
      simp⟩, by
      rw [← eraseIdx_int hj hno]
      have := (hus.stab st).eraseIdx j
      rwa [map_eraseIdx'] at this⟩
    exact ⟨.none, _, .none, S', st, q⟩

/-! ### sets -/
theorem St.putS {S : St prog w c ρ σ s} {a : Addr} {T : (Int → Bool) × Nat} {T' : Int → Bool} {n' : Nat} {h' : Heap} {tk : Nat} (hl : σ.set a = some T) (hs : Heap.SameBut a s.heap h') (hr : SRep prog w h' a (T', n')) :
    St prog w c ρ (σ.setS a T' n') { s with heap := h', toks := tk } ∧ Stab s.heap h' := by
  have st : Stab s.heap h' := .sameBut hs (.cls (S.sees.set _ _ hl).get rfl)
  have nf : ¬ σ.Fresh a := fun f => by rw [f.2.2.2.1] at hl; cases hl
  exact ⟨⟨⟨S.sees.putS hs.extBut (S.sees.notPinned nf) st (S.sees.onlyS hl) hr, S.os, S.gens⟩, S.fr.put hs.extBut (S.notFrame nf) st fun b hb f => AH.fresh_setS hb f⟩, st⟩

theorem BC.setAdd {a : Addr} {T : Int → Bool} {n : Nat} {x : Int} {Q : AV → AH → Prop} (hl : σ.set a = some (T, n)) (hz : n ≤ 1000) (q : Q .none (σ.setS a (fun k => T k || decide (k = x)) (if T x then n else n + 1))) :
    BC prog w c ρ σ (.builtin "set.add") [.ref a, .int x] Q := fun s vs S hvs => by
  obtain ⟨u, v, rfl, hu, hv⟩ := hvs.inv2
  cases hu.ref_inv
  obtain ⟨t, rfl⟩ := hv.int_inv
  refine call_set_add (knd := intKind prog w) (intKind_is prog w x t) rfl (S.sees.set _ _ hl) (by unfold scanBound; omega) fun h' hs hS => ?_
  obtain ⟨S', st⟩ := St.putS (S := S) (tk := s.toks + 1) hl hs hS
  exact ⟨.none, _, .none, S', st, q⟩

theorem upd_loop {A : Around} {R : Result → Shared → Prop} {I : Addr} {fp wr : List Addr} {G : Array GenState → Array GenState → Prop} {n : Nat} {P : Nat → Value → Prop} {St : Nat → Shared → Prop}
    (W : WalksS prog w A.in1 I fp wr G n P St) (S : Addr) (hSf : S ∉ fp) (val : Nat → Int) (hval : ∀ i v, P i v → ∃ t, v = .int (val i) t) (T : Int → Bool) (m : Nat) (hb : m + n + 1 < scanBound) :
    ∀ (k i : Nat) (s : Shared), n - i = k → i ≤ n → St i s →
      (∃ m', m' ≤ m + i ∧ s.heap.SetOf (intKind prog w) S (fun k' => T k' || ((List.range i).map val).any (· == k')) m') →
      (∀ s' m', Moved (S :: wr) G s s' → m' ≤ m + n → s'.heap.SetOf (intKind prog w) S (fun k' => T k' || ((List.range n).map val).any (· == k')) m' → R (.ok (.ret .none)) s') →
      codeAny (model prog w) A (.builtin "set.update.loop" ⟨[.ref S, .ref I], []⟩) R s := by
  have hSw : S ∉ wr := fun h => hSf (W.sub _ h)
  have hsub : ∀ b ∈ wr, b ∈ S :: wr := fun b hb => List.mem_cons_of_mem _ hb
  intro k
  induction k with
  | zero =>
    intro i s hk hi hst ⟨m', hm', hS⟩ hR
    have hin : i = n := by omega
    subst hin
    refine codeAny_builtin PyProof.Rows.F.entry_set_update_loop ?_
    rw [Around.under_plainId PyProof.Rows.F.plain_set_update_loop _]
    show wpAny _ A.in1 (pyNext (.ref I) >>= _) _ _ s
    refine wpAny_bind (W.done s _ _ hst fun s' hm => ?_)
    show wpAny _ A.in1 (ret Value.none) _ _ s'
    exact wpAny_pure (hR s' m' (hm.mono hsub) hm' (by
      obtain ⟨o, es, ep, t, ho, rest⟩ := hS
      exact ⟨o, es, ep, t, hm.heap S _ hSw ho, rest⟩))
  | succ k ih =>
    intro i s hk hi hst ⟨m', hm', hS⟩ hR
    have hlt : i < n := by omega
    refine codeAny_builtin PyProof.Rows.F.entry_set_update_loop ?_
    rw [Around.under_plainId PyProof.Rows.F.plain_set_update_loop _]
    show wpAny _ A.in1 (pyNext (.ref I) >>= _) _ _ s
    refine wpAny_bind (W.item i s _ _ hlt hst fun v s' hP hst' hm => ?_)
    obtain ⟨t, rfl⟩ := hval i v hP
    have hS' : s'.heap.SetOf (intKind prog w) S (fun k' => T k' || ((List.range i).map val).any (· == k')) m' := by
      obtain ⟨o, es, ep, tb, ho, rest⟩ := hS
      exact ⟨o, es, ep, tb, hm.heap S _ hSw ho, rest⟩
    show wpAny _ A.in1 (holding [Value.int (val i) t] (setAdd S (.int (val i) t)) >>= _) _ _ s'
    refine wpAny_bind (wpAny_holding ?_)
    unfold PySem.setAdd
    refine wpAny_holding ?_
    refine wpAny_bind ((intKind prog w).pyHash (k := val i) (intKind_is _ _ _ _) ?_)
    refine wpAny_setAddHashed_of (knd := intKind prog w) (s := { s' with toks := s'.toks + 1 }) (intKind_is _ _ _ _) rfl hS' (by omega) fun h' hsb hS2 => ?_
    have hSi := SetOf_congr (S' := fun k' => T k' || ((List.range (i + 1)).map val).any (· == k')) hS2 (fun k' => by
      rw [List.range_succ, List.map_append, List.any_append]
      have : decide (k' = val i) = (val i == k') := by rw [Bool.beq_eq_decide_eq]; exact decide_eq_decide.mpr eq_comm
      simp [this, Bool.or_assoc]) rfl
    refine wpAny_pure ⟨plainId_quiet PyProof.Rows.F.plain_set_update_loop _, ih (i + 1) _ (by omega) hlt (W.frame _ s' _ _ hst' (Nat.le_succ _) fun b hb o e => ?_) ⟨_, ?_, hSi⟩ fun s'' m'' hm'' hl'' hS'' => ?_⟩
    · rw [hsb.2 b (fun h : b = S => hSf (by rw [← h]; exact hb))]; exact e
    · split <;> omega
    · refine hR s'' m'' (Moved.trans W.gtrans ((hm.mono hsub).then_heap (Nat.le_succ _) fun b o hb e => ?_) hm'') hl'' hS''
      rw [hsb.2 b (fun h : b = S => hb (by rw [h]; exact List.mem_cons_self))]; exact e

theorem vals_eq (xs : List Int) : (List.range xs.length).map (fun i => xs.getD i 0) = xs := by
  apply List.ext_getElem
  · simp
  · intro i h1 h2
    simp [List.getD_eq_getElem?_getD, h2]
theorem any_contains {xs : List Int} {k : Int} : xs.any (· == k) = xs.contains k := by
  induction xs with
  | nil => rfl
  | cons y ys ih => simp only [List.any_cons, List.contains_cons]; rw [ih, Bool.beq_comm]

theorem BC.setUpdate {a l : Addr} {T : Int → Bool} {n : Nat} {xs : List Int} {Q : AV → AH → Prop} {r : Nat} (hA : Rm c.A r) (hl : σ.set a = some (T, n)) (hl2 : σ.list l = some (xs.map AV.int)) (hz : n ≤ 1000) (hz2 : xs.length ≤ 1000)
    (q : ∀ n', n' ≤ n + xs.length → Q .none (σ.setS a (fun k => T k || xs.contains k) n')) : BC prog w c ρ σ (.builtin "set.update") [.ref a, .ref l] Q := fun s vs S hvs => by
  obtain ⟨u, v, rfl, hu, hv⟩ := hvs.inv2
  cases hu.ref_inv
  cases hv.ref_inv
  obtain ⟨us, hp, hus⟩ := S.sees.list _ _ hl2
  have hli := hp.isList
  have hi := hus.any_int
  have hlen : us.length = xs.length := by rw [hus.length, List.length_map]
  have hS := S.sees.set _ _ hl
  obtain ⟨oS, _, _, _, hoS, hcS, _⟩ := id hS
  refine wpAny_call_entry F.slot_set_update ⟨_, hoS, hcS.1⟩ F.entry_set_update ?_ (F.args_set_update_2 _ _)
  obtain ⟨nl, hol⟩ := hp
  have hsls := F.sub_list_set
  have hslf := F.sub_list_frozenset
  have hne : (Value.type "list" == Value.type "dict") = false := by decide
  have hTl : s.TypeIs (.ref l) "list" := ⟨_, hol, rfl⟩
  unfold Builtin.«set.update» Builtin.Frozenset.manyOthers Builtin.Frozenset.updateFrom
  obtain ⟨hp, g, d, tk, os⟩ := s
  generalize hPI : pyIter = PI
  wp_walk
  subst hPI
  refine wpAny_pyIter_list hli ?_
  refine wpAny_bind (wpAny_runValue ?_)
  have hlI : l < hp.objs.size := Heap.lt_size hol
  have haI : a < hp.objs.size := Heap.lt_size hoS
  have haL : a ≠ l := by
    rintro rfl
    rw [hol] at hoS; cases hoS; exact absurd hcS.1 (by simp)
  refine upd_loop ((Walks.list (A := c.A.in1.in1) hA.1 hp.objs.size l (Nat.ne_of_lt hlI) us.toArray).toS) a (by simp only [List.mem_cons, List.not_mem_nil, or_false, not_or]; exact ⟨Nat.ne_of_lt haI, haL⟩) (fun i => xs.getD i 0)
    (fun i v hv => IntsAre.int_at hi i v (by simpa using hv)) T n (by unfold scanBound; simp only [List.size_toArray]; omega) _ 0 _ rfl (Nat.zero_le _) ?h1 ⟨n, Nat.le_refl _, ?_⟩ fun s' m' hm hm' hS' => ?_
  case h1 => exact ⟨⟨_, Heap.get?_push_size _ rfl, rfl, rfl⟩, Heap.IsList.push hli _⟩
  · refine SetOf_congr (S := T) (n := n) ?_ (fun k => by simp) rfl
    obtain ⟨o, es, ep, t, ho, rest⟩ := hS
    exact ⟨o, es, ep, t, Heap.get?_push_of_some _ ho, rest⟩
  · show wpAny _ _ (pure ()) _ _ _
    refine wpAny_pure (wpAny_pure ?_)
    show wpAny _ _ (pure _) _ _ _
    refine wpAny_pure ?_
    show wpAny _ _ (ret Value.none) _ _ _
    refine wpAny_pure ⟨_, rfl, ?_⟩
    have heq : us.toArray.size = xs.length := by simpa using hlen
    rw [heq] at hS' hm'
    have hS2 := SetOf_congr (S' := fun k => T k || xs.contains k) hS' (fun k => by rw [vals_eq, any_contains]) rfl
    have keep : ∀ b o, b ≠ a → hp.get? b = some o → s'.heap.get? b = some o := fun b o hb e => hm.heap b o (by
      simp only [List.mem_cons, List.not_mem_nil, or_false, not_or]
      exact ⟨hb, Nat.ne_of_lt (Heap.lt_size e)⟩) (Heap.get?_push_of_some _ e)
    have st : Stab hp s'.heap := .extBut (fun b o hb e => keep b o hb e) (.cls ⟨oS, hoS, hcS.1⟩ rfl)
    have nf : ¬ σ.Fresh a := fun f => by rw [f.2.2.2.1] at hl; cases hl
    have hos : s'.os = c.B.os := hm.os.trans S.os
    have hge : s'.gens = g := hm.gens
    exact ⟨.none, _, .none, ⟨⟨S.sees.putS (fun b o hb e => keep b o hb e) (S.sees.notPinned nf) st (S.sees.onlyS hl) hS2, hos, by rw [hge]; exact S.gens⟩,
      S.fr.put (fun b o hb e => keep b o hb e) (S.notFrame nf) st fun b hb f => AH.fresh_setS hb f⟩, st, q m' hm'⟩
end
end Mine

/-! G19 -/
namespace Mine
section
variable {prog : Program} {w : World} {c : Cx} {ρ : Rho} {σ : AH} {s s' : Shared}

/-! ### ranges -/
def rangeL (a k : Int) (n : Nat) : List Int := (List.range n).map fun (i : Nat) => a + i * k
theorem IT.range (I : Addr) (a k : Int) (n : Nat) : IT prog w I ((rangeL a k n).map AV.int)
    (fun i o => o = { cls := .type "range_iterator", dict := none, data := .fields #[rawInt (a + i * k), rawInt ((n : Int) - i), rawInt k], slots := #[] }) (fun _ => True) where
  imm := fun i o e h => imm_not (t := "range_iterator") (by rw [e]) rfl h
  next := fun A B P σ s i x o Q hA S hsrc ho hat hx h => by
    subst hat
    unfold rangeL at hx
    rw [List.map_map, List.getElem?_map] at hx
    obtain ⟨j, hj, rfl⟩ := Option.map_eq_some_iff.mp hx
    have hlt : i < n := by
      have := (List.getElem?_eq_some_iff.mp hj).1
      simpa using this
    have hji : j = i := by rw [List.getElem?_range hlt] at hj; exact (Option.some.inj hj).symm
    subst hji
    refine wpAny_pyNext_range_item ho (by omega) fun h' hit hs => ?_
    refine h _ _ _ (.int _ _) hs.extBut hit ?_ rfl rfl
    congr 3
    have e1 : a + (j : Int) * k + k = a + ((j + 1 : Nat) : Int) * k := by push_cast; rw [Int.add_mul, Int.one_mul, Int.add_assoc]
    have e2 : (n : Int) - j - 1 = (n : Int) - ((j + 1 : Nat) : Int) := by push_cast; omega
    rw [e1, e2]
  fin := fun A B P σ s o Q hA S hsrc ho hat h => by
    subst hat
    refine wpAny_pyNext_range_end hA ho ?_ fun h' he => h _ he rfl rfl
    simp [rangeL]
  self := fun A i s o Q ho hat h => by subst hat; exact wpAny_pyIter_rangeiter ho h

/-- the evaluation of a range, walked -/
theorem ITt.range1 {f : Str} {e : Expr} {p pos : Pos} {n : Nat} (hf : PE prog w c ρ σ (.Name f p) (.val (.type "range"))) (he : PE prog w c ρ σ e (.int n)) (hn : n ≤ 100000)
    (hs : starEach [e] c.env = [(false, eval e c.env)] := by rfl) : ITt prog w c ρ σ (eval (.Call (.Name f p) [e] [] pos) c.env) ((rangeL 0 1 n).map AV.int) (fun _ => True) := fun s S => by
  refine wpAny_Call_NameR (PE.one S hf fun u s₁ S₁ p₁ hu => ?_)
  cases hu.val_inv
  rw [hs]
  refine PySem.callWith_type rfl (Calls.evalArgs_plain (Calls.spliced_cons (PE.one S₁ he fun v s₂ S₂ p₂ hv => Calls.spliced_nil ?_)))
  obtain ⟨t, rfl⟩ := hv.int_inv
  refine call_range_1 ?_
  have pp : Pu s₂ { s₂ with heap := s₂.heap.push { cls := .type "range", data := .fields #[.int 0 s₂.toks, .int n t, .int 1 (s₂.toks + 1)] }, toks := s₂.toks + 1 + 1 } := .of (Ext.push _ _)
  have S₃ := S₂.pu pp
  refine ⟨(p₁.trans p₂).trans (S₂.pv pp), fun A Q h => ?_⟩
  refine wpAny_pyIter_range (IsRange.new ..) (small_one (by decide) (by decide) (by omega) (by omega)) ?_
  have hsz : Builtin.Range.rangeSize 0 (n : Int) 1 = (n : Int) := by rw [rangeSize_one]; split <;> omega
  refine h _ _ _ _ (S₃.newI (get?_none_of_le (Nat.le_refl _))) (.push _ _) (.range _ 0 1 n) (Heap.get?_push_size _ rfl) ?_
  rw [hsz]; simp
theorem ITt.range3 {f : Str} {e1 e2 e3 : Expr} {p pos : Pos} {n : Nat} (hf : PE prog w c ρ σ (.Name f p) (.val (.type "range"))) (he1 : PE prog w c ρ σ e1 (.int n)) (he2 : PE prog w c ρ σ e2 (.int 0)) (he3 : PE prog w c ρ σ e3 (.int (-1))) (hn : n ≤ 100)
    (hs : starEach [e1, e2, e3] c.env = [(false, eval e1 c.env), (false, eval e2 c.env), (false, eval e3 c.env)] := by rfl) :
    ITt prog w c ρ σ (eval (.Call (.Name f p) [e1, e2, e3] [] pos) c.env) ((rangeL n (-1) n).map AV.int) (fun _ => True) := fun s S => by
  refine wpAny_Call_NameR (PE.one S hf fun u s₁ S₁ p₁ hu => ?_)
  cases hu.val_inv
  rw [hs]
  refine PySem.callWith_type rfl (Calls.evalArgs_plain (Calls.spliced_cons (PE.one S₁ he1 fun v1 s₂ S₂ p₂ hv1 => Calls.spliced_cons (PE.one S₂ he2 fun v2 s₃ S₃ p₃ hv2 => Calls.spliced_cons (PE.one S₃ he3 fun v3 s₄ S₄ p₄ hv3 => Calls.spliced_nil ?_)))))
  obtain ⟨t, rfl⟩ := hv1.int_inv
  obtain ⟨t2, rfl⟩ := hv2.int_inv
  obtain ⟨t3, rfl⟩ := hv3.int_inv
  have hsz : Builtin.Range.rangeSize (n : Int) 0 (-1) = (n : Int) := by
    have hb : n < 101 := by omega
    have : ∀ m : Fin 101, Builtin.Range.rangeSize ((m : Nat) : Int) 0 (-1) = ((m : Nat) : Int) := by decide +kernel
    exact this ⟨n, hb⟩
  have hsm : Builtin.Range.small (n : Int) 0 (-1) = true := by
    have hb : n < 101 := by omega
    have : ∀ m : Fin 101, Builtin.Range.small ((m : Nat) : Int) 0 (-1) = true := by decide +kernel
    exact this ⟨n, hb⟩
  refine call_range_3 (by decide) ?_ (Or.inl (PyProof.noPylong_small (by omega)))
  have pp : Pu s₄ { s₄ with heap := s₄.heap.push { cls := .type "range", data := .fields #[.int n t, .int 0 t2, .int (-1) t3] }, toks := s₄.toks } := .of (Ext.push _ _)
  have S₅ := S₄.pu pp
  refine ⟨((p₁.trans p₂).trans (p₃.trans p₄)).trans (S₄.pv pp), fun A Q h => ?_⟩
  refine wpAny_pyIter_range (IsRange.new ..) hsm ?_
  refine h _ _ _ _ (S₅.newI (get?_none_of_le (Nat.le_refl _))) (.push _ _) (.range _ n (-1) n) (Heap.get?_push_size _ rfl) ?_
  rw [hsz]; simp

theorem VRs.of_get {h : Heap} : ∀ {vs : List Value} {xs : List AV}, vs.length = xs.length → (∀ (i : Nat) (v : Value) (a : AV), vs[i]? = some v → xs[i]? = some a → VR h v a) → VRs h vs xs
  | [], [], _, _ => .nil
  | v :: vs, x :: xs, hl, hh => .cons (hh 0 v x rfl rfl) (VRs.of_get (by simpa using hl) fun i v' a' h1 h2 => hh (i + 1) v' a' (by simpa using h1) (by simpa using h2))
  | [], _ :: _, hl, _ => by simp at hl
  | _ :: _, [], hl, _ => by simp at hl
/-- list(range(n)) -/
theorem itemsOf_range {acc : Array Value} {a k : Int} {n : Nat} {h : Heap} (x : ItemsOf (fun i v => ∃ t, v = .int (a + i * k) t) acc n) : VRs h acc.toList ((rangeL a k n).map AV.int) := by
  refine VRs.of_get (by have := x.1; simp [rangeL, this]) fun i v a' h1 h2 => ?_
  obtain ⟨t, rfl⟩ := x.2 i v (by simpa using h1)
  unfold rangeL at h2
  rw [List.map_map, List.getElem?_map] at h2
  obtain ⟨j, hj, rfl⟩ := Option.map_eq_some_iff.mp h2
  have hlt : i < n := by
    have := (List.getElem?_eq_some_iff.mp hj).1
    simpa using this
  have hji : j = i := by rw [List.getElem?_range hlt] at hj; exact (Option.some.inj hj).symm
  subst hji
  exact .int _ _

/-! ### reversed -/
theorem IT.rev (I l : Addr) (items : List AV) : IT prog w I items.reverse (fun i o => o.cls = .type "list_reverseiterator" ∧ o.data = .fields #[.ref l, rawInt ((items.length : Int) - 1 - (i : Int))]) (fun σ => σ.list l = some items) where
  imm := fun i o ⟨h1, h2⟩ h => imm_not h1 rfl h
  next := fun A B P σ s i x o Q hA S hsrc ho hat hx h => by
    obtain ⟨vs, hp, hvs⟩ := S.list _ _ hsrc
    have hl := hp.isList
    have hlt : i < items.length := by
      have := (List.getElem?_eq_some_iff.mp hx).1
      simpa using this
    rw [List.getElem?_reverse hlt] at hx
    obtain ⟨v, hv, hr⟩ := hvs.get hx
    have e : (items.length : Int) - 1 - (i : Int) = ((items.length - 1 - i : Nat) : Int) := by omega
    have hit : s.heap.IsRevIter I l ((items.length - 1 - i : Nat) : Int) := ⟨o, ho, hat.1, by rw [hat.2, e]⟩
    refine wpAny_pyNext_rev_item hit hl (by simpa using hv) fun h' hit' hs => ?_
    obtain ⟨o', ho', h1, h2⟩ := hit'
    refine h v _ o' (hr.stab (.sameBut hs (.cls ⟨o, ho, hat.1⟩ rfl))) hs.extBut ho' ⟨h1, ?_⟩ rfl rfl
    have e2 : ((items.length - 1 - i : Nat) : Int) - 1 = (items.length : Int) - 1 - ((i + 1 : Nat) : Int) := by omega
    rw [h2, e2]
  fin := fun A B P σ s o Q hA S hsrc ho hat h => by
    refine wpAny_pyNext_rev_end (l := l) hA ⟨o, ho, hat.1, ?_⟩ fun h' he => h _ he rfl rfl
    have e2 : (items.length : Int) - 1 - (items.reverse.length : Nat) = -1 := by rw [List.length_reverse]; omega
    rw [hat.2, e2]
  self := fun A i s o Q ho hat h => wpAny_pyIter_revIter (l := l) (i := (items.length : Int) - 1 - (i : Int)) ⟨o, ho, hat.1, hat.2⟩ h
theorem ITt.rev {f : Str} {e : Expr} {p pos : Pos} {l : Addr} {items : List AV} (hf : PE prog w c ρ σ (.Name f p) (.val (.type "reversed"))) (he : PE prog w c ρ σ e (.ref l)) (hl : σ.list l = some items)
    (hs : starEach [e] c.env = [(false, eval e c.env)] := by rfl) : ITt prog w c ρ σ (eval (.Call (.Name f p) [e] [] pos) c.env) items.reverse (fun σ => σ.list l = some items) := fun s S => by
  refine wpAny_Call_NameR (PE.one S hf fun u s₁ S₁ p₁ hu => ?_)
  cases hu.val_inv
  rw [hs]
  refine PySem.callWith_type rfl (Calls.evalArgs_plain (Calls.spliced_cons (PE.one S₁ he fun v s₂ S₂ p₂ hv => Calls.spliced_nil ?_)))
  cases hv.ref_inv
  obtain ⟨vs, hp, hvs⟩ := S₂.sees.list _ _ hl
  refine call_reversed_list hp.isList ?_
  have pp : Pu s₂ { s₂ with heap := s₂.heap.push (revObj l ((vs.toArray.size : Int) - 1)) } := .push _ _
  have hI := S₂.newI (I := s₂.heap.objs.size) (get?_none_of_le (Nat.le_refl _))
  refine ⟨(p₁.trans p₂).trans (S₂.pv pp), fun A Q h => ?_⟩
  have hget : (s₂.heap.push (revObj l ((vs.toArray.size : Int) - 1))).get? s₂.heap.objs.size = some (revObj l ((vs.toArray.size : Int) - 1)) := Heap.get?_push_size _ rfl
  refine wpAny_pyIter_revIter ⟨_, hget, rfl, rfl⟩ (h _ _ _ _ hI (.refl _) (.rev _ l items) hget ⟨rfl, ?_⟩)
  have := hvs.length
  simp [revObj, this]

/-! ### views of keys -/
theorem BC.keys {a : Addr} {d : DI} {Q : AV → AH → Prop} (hl : σ.dI a = some d) (hm : (a == sysModules) = false) (q : Q (.view a) σ) : BC prog w c ρ σ (.builtin "dict.keys") [.ref a] Q := fun s vs S hvs => by
  obtain ⟨u, rfl, hu⟩ := hvs.inv1
  cases hu.ref_inv
  obtain ⟨kvs, hd, hks, hv⟩ := S.sees.dI _ _ hl
  refine call_meetsIn PySem.F.slot_dict_keys hd.dictOf.typeIs PySem.F.entry_dict_keys (PySem.F.args_dict_keys_1 _) (kdl_meets_keys (intKind prog w) a hm) ⟨⟨kvs, hd.dictOf⟩, ?_⟩
  have p : Pu s { s with heap := s.heap.push { cls := .type "dict_keys", data := .fields #[.ref a] } } := .push _ _
  exact ⟨.view a, σ, .view (Heap.get?_push_size _ rfl) rfl rfl, S.pu p, p.ext.stab, q⟩
theorem VR.view_inv {h : Heap} {v : Value} {d : Addr} (x : VR h v (.view d)) : ∃ a o, v = .ref a ∧ h.get? a = some o ∧ o.cls = .type "dict_keys" ∧ o.data = .fields #[.ref d] := by
  cases x with | view h1 h2 h3 => exact ⟨_, _, rfl, h1, h2, h3⟩
theorem ITt.view {e : Expr} {d : Addr} {dd : DI} (h : PE prog w c ρ σ e (.view d)) (hl : σ.dI d = some dd) : ITt prog w c ρ σ (eval e c.env) (dd.keys.map AV.int) (fun σ => ∃ v, σ.dI d = some ⟨dd.keys, v, dd.ep⟩) := fun s S =>
  PE.one S h fun u s₁ S₁ p hu => ⟨p, fun A Q k => by
    obtain ⟨a, o, rfl, ho, hc, hd⟩ := hu.view_inv
    obtain ⟨kvs, hd', hks, hvs⟩ := S₁.sees.dI _ _ hl
    have hlen : kvs.length = dd.keys.length := by rw [← hks, List.length_map]
    refine kdl_pyIter_keys (knd := intKind prog w) ⟨o, ho, hc, hd⟩ hd' (k _ _ _ _ (S₁.newI (get?_none_of_le (Nat.le_refl _))) (.push _ _) (.keys _ d dd.keys dd.ep) (Heap.get?_push_size _ rfl) ⟨rfl, by simp [hlen]⟩)⟩
end
end Mine

/-! G20 -/
namespace Mine
section
variable {prog : Program} {w : World} {c : Cx} {ρ : Rho} {σ : AH} {s s' : Shared}

/-! ### new objects -/
theorem St.newL {S : St prog w c ρ σ s} {xs : List AV} {h' : Heap} {tk : Nat} (e : Ext s.heap h') (hr : LRep h' s.heap.objs.size xs) : St prog w c ρ (σ.setL s.heap.objs.size xs) { s with heap := h', toks := tk } := by
  have N := S.newI (I := s.heap.objs.size) (get?_none_of_le (Nat.le_refl _))
  exact ⟨⟨S.sees.putL (fun b o _ he => e b o he) N.pin e.stab N.fresh.2 hr, S.os, S.gens⟩, S.fr.put (fun b o _ he => e b o he) N.frame e.stab fun b hb f => AH.fresh_setL hb f⟩
theorem St.newD {S : St prog w c ρ σ s} {d : DI} {h' : Heap} {tk : Nat} (e : Ext s.heap h') (hr : DIRep prog w h' s.heap.objs.size d) : St prog w c ρ (σ.setD s.heap.objs.size d) { s with heap := h', toks := tk } := by
  have N := S.newI (I := s.heap.objs.size) (get?_none_of_le (Nat.le_refl _))
  exact ⟨⟨S.sees.putD (fun b o _ he => e b o he) N.pin e.stab ⟨N.fresh.1, N.fresh.2.2⟩ hr, S.os, S.gens⟩, S.fr.put (fun b o _ he => e b o he) N.frame e.stab fun b hb f => AH.fresh_setD hb f⟩
theorem St.newS {S : St prog w c ρ σ s} {T : Int → Bool} {n : Nat} {h' : Heap} {tk : Nat} (e : Ext s.heap h') (hr : SRep prog w h' s.heap.objs.size (T, n)) : St prog w c ρ (σ.setS s.heap.objs.size T n) { s with heap := h', toks := tk } := by
  have N := S.newI (I := s.heap.objs.size) (get?_none_of_le (Nat.le_refl _))
  exact ⟨⟨S.sees.putS (fun b o _ he => e b o he) N.pin e.stab ⟨N.fresh.1, N.fresh.2.1, N.fresh.2.2.1, N.fresh.2.2.2.2⟩ hr, S.os, S.gens⟩, S.fr.put (fun b o _ he => e b o he) N.frame e.stab fun b hb f => AH.fresh_setS hb f⟩
theorem St.freshNew (S : St prog w c ρ σ s) : Nw σ s.heap.objs.size := S.sees.nw

/-- list(range(n)) -/
theorem EV.listRange {f r : Str} {e : Expr} {p q' pos pos' : Pos} {n : Nat} {Q : AV → AH → Prop} {m : Nat} (hA : Rm c.A m) (hf : PE prog w c ρ σ (.Name f p) (.val (.type "list"))) (hr : PE prog w c ρ σ (.Name r q') (.val (.type "range"))) (he : PE prog w c ρ σ e (.int n)) (hn : n ≤ 100000)
    (q : ∀ D, Nw σ D → Q (.ref D) (σ.setL D ((rangeL 0 1 n).map AV.int))) (hs : starEach [e] c.env = [(false, eval e c.env)] := by rfl)
    (hs2 : starEach [Expr.Call (.Name r q') [e] [] pos'] c.env = [(false, eval (.Call (.Name r q') [e] [] pos') c.env)] := by rfl) : EV prog w c ρ σ (.Call (.Name f p) [.Call (.Name r q') [e] [] pos'] [] pos) Q := fun s S => by
  refine wpAny_Call_NameR (PE.one S hf fun u s₁ S₁ p₁ hu => ?_)
  cases hu.val_inv
  rw [hs2]
  refine PySem.callWith_type rfl (Calls.evalArgs_plain (Calls.spliced_cons ?_))
  refine wpAny_Call_NameR (PE.one S₁ hr fun u s₂ S₂ p₂ hu => ?_)
  cases hu.val_inv
  rw [hs]
  refine PySem.callWith_type rfl (Calls.evalArgs_plain (Calls.spliced_cons (PE.one S₂ he fun v s₃ S₃ p₃ hv => Calls.spliced_nil ?_)))
  obtain ⟨t, rfl⟩ := hv.int_inv
  refine call_range_1 (Calls.spliced_nil ?_)
  have pp : Pu s₃ { s₃ with heap := s₃.heap.push { cls := .type "range", data := .fields #[.int 0 s₃.toks, .int n t, .int 1 (s₃.toks + 1)] }, toks := s₃.toks + 1 + 1 } := .of (Ext.push _ _)
  have S₄ := S₃.pu pp
  have hsz : Builtin.Range.rangeSize 0 (n : Int) 1 = (n : Int) := by rw [rangeSize_one]; split <;> omega
  refine call_list_range (n := n) hA.1 (IsRange.new ..) (small_one (by decide) (by decide) (by omega) (by omega)) hsz (by omega) fun h' tk acc' c' hk hS' hacc => ?_
  have e : Ext (s₃.heap.push { cls := .type "range", data := .fields #[.int 0 s₃.toks, .int n t, .int 1 (s₃.toks + 1)] }) h' := fun b o he => hk b o he
  have S₅ := St.newL (S := S₄) (tk := tk) (xs := (rangeL 0 1 n).map AV.int) e ⟨acc'.toList, ⟨c', hS'⟩, itemsOf_range hacc⟩
  exact ⟨.ref _, _, .ref _, S₅, ((p₁.trans p₂).trans p₃).stab.trans (pp.ext.stab.trans e.stab), q _ S₄.freshNew⟩

/-- [x, ..] -/
theorem EV.listLit {es : List Expr} {avs : List AV} {pos : Pos} {Q : AV → AH → Prop} (hes : PEs prog w c ρ σ es avs) (hz : avs.length ≤ 1000) (q : ∀ D, Nw σ D → Q (.ref D) (σ.setL D avs)) : EV prog w c ρ σ (.List es pos) Q := fun s S => by
  refine PySem.wpAny_List (hes.run S fun vs s₁ S₁ p₁ hvs => ?_)
  have e : Ext s₁.heap (s₁.heap.push { cls := .type "list", data := .seq vs.toArray }) := Ext.push _ _
  have S₅ := St.newL (S := S₁) (tk := s₁.toks) (xs := avs) e ⟨vs, ⟨_, Heap.get?_push_size _ rfl⟩, hvs.stab e.stab⟩
  exact ⟨by rw [hvs.length, sizeLine_eq]; omega, .ref _, _, .ref _, S₅, p₁.stab.trans e.stab, q _ S₁.freshNew⟩
/-- {} -/
theorem EV.dict0 {pos : Pos} {Q : AV → AH → Prop} (q : ∀ D, Nw σ D → Q (.ref D) (σ.setD D ⟨[], fun _ => .none, 0⟩)) : EV prog w c ρ σ (.Dict [] [] pos) Q := fun s S => by
  refine wpAny_Dict_empty ?_
  have e : Ext s.heap (s.heap.push { cls := .type "dict", data := .dict #[] }) := Ext.push _ _
  have S₅ := St.newD (S := S) (tk := s.toks) (d := ⟨[], fun _ => .none, 0⟩) e ⟨[], ⟨_, #[], Heap.get?_push_size _ rfl, ⟨rfl, rfl, rfl⟩, rfl, fun _ he => by simp at he, Pairs.nil, List.nodup_nil⟩, rfl, fun _ he => by simp at he⟩
  exact ⟨.ref _, _, .ref _, S₅, e.stab, q _ S.freshNew⟩

/-! ### sets -/
/-- set() -/
theorem EV.set0 {f : Str} {p pos : Pos} {Q : AV → AH → Prop} (hf : PE prog w c ρ σ (.Name f p) (.val (.type "set"))) (q : ∀ D, Nw σ D → Q (.ref D) (σ.setS D (fun _ => false) 0)) : EV prog w c ρ σ (.Call (.Name f p) [] [] pos) Q := fun s S => by
  refine wpAny_Call_NameR (PE.one S hf fun u s₁ S₁ p₁ hu => ?_)
  cases hu.val_inv
  show wpAny _ _ (callWith pos (.type "set") [] [] []) _ _ s₁
  refine PySem.callWith_type rfl (PySem.evalArgs_none ?_)
  refine call_set_0 fun led => ?_
  have e : Ext s₁.heap (s₁.heap.push { cls := .type "set", dict := none, data := .set #[] 0 (.fresh 0 0 led) }) := Ext.push _ _
  have S₅ := St.newS (S := S₁) (tk := s₁.toks) (T := fun _ => false) (n := 0) e ((setObjOf_fresh (knd := intKind prog w) led).setOf (Heap.get?_push_size _ rfl) (by unfold scanBound; omega))
  exact ⟨.ref _, _, .ref _, S₅, p₁.stab.trans e.stab, q _ S₁.freshNew⟩
theorem firstMet_contains (xs : List Int) (k : Int) : (firstMet (fun i => xs.getD i 0) xs.length).any (· == k) = xs.contains k := by
  rw [firstMet_any, vals_eq, any_contains]
/-- set(l) -/
theorem BC.setList {l : Addr} {xs : List Int} {Q : AV → AH → Prop} {m : Nat} (hA : Rm c.A m) (hl : σ.list l = some (xs.map AV.int)) (hz : xs.length ≤ 1000) (q : ∀ D n, Nw σ D → n ≤ xs.length → Q (.ref D) (σ.setS D (fun k => xs.contains k) n)) :
    BC prog w c ρ σ (.type "set") [.ref l] Q := fun s vs S hvs => by
  obtain ⟨u, rfl, hu⟩ := hvs.inv1
  cases hu.ref_inv
  obtain ⟨us, hp, hus⟩ := S.sees.list _ _ hl
  have hi := hus.any_int
  have hlen : us.length = xs.length := by rw [hus.length, List.length_map]
  have hsz : us.toArray.size = xs.length := by simpa using hlen
  refine call_set_list hA.1 hp.isList (ns := xs) (by simpa using hi) (by unfold scanBound; omega) fun h' tk hS hk => ?_
  rw [hsz] at hS
  have e : Ext s.heap h' := fun b o he => hk b o (Heap.lt_size he) he
  have S₅ := St.newS (S := S) (tk := tk) (T := fun k => xs.contains k) e (SetOf_congr hS (fun k => firstMet_contains xs k) rfl)
  exact ⟨.ref _, _, .ref _, S₅, e.stab, q _ _ S.freshNew (firstMet_length_le _ _)⟩

/-! ### len -/
theorem PE.len {f : Str} {e : Expr} {p pos : Pos} {av : AV} {n : Nat} (hf : PE prog w c ρ σ (.Name f p) (.val (.builtin "len"))) (he : PE prog w c ρ σ e av)
    (hl : (∃ a xs, av = .ref a ∧ σ.list a = some xs ∧ n = xs.length) ∨ (∃ a d, av = .ref a ∧ (a == sysModules) = false ∧ σ.dI a = some d ∧ n = d.keys.length) ∨ (∃ a T, av = .ref a ∧ σ.set a = some (T, n))) (hn : n ≤ 100000)
    (hs : starEach [e] c.env = [(false, eval e c.env)] := by rfl) : PE prog w c ρ σ (.Call (.Name f p) [e] [] pos) (.int n) := fun s S => by
  refine wpAny_Call_NameR (PE.one S hf fun u s₁ S₁ p₁ hu => ?_)
  cases hu.val_inv
  rw [hs]
  refine Calls.callWith_builtin rfl (Calls.evalArgs_plain (Calls.spliced_cons (PE.one S₁ he fun v s₂ S₂ p₂ hv => Calls.spliced_nil ?_)))
  have pp : ∀ t, Pv prog w c ρ σ s { s₂ with toks := t } := fun t => (p₁.trans p₂).trans (.toks S₂ t)
  rcases hl with ⟨a, xs, rfl, hl, rfl⟩ | ⟨a, d, rfl, hm, hl, rfl⟩ | ⟨a, T, rfl, hl⟩
  · cases hv.ref_inv
    obtain ⟨us, hp, hus⟩ := S₂.sees.list _ _ hl
    have hlen := hus.length
    have hsz : us.toArray.size = xs.length := by simpa using hlen
    refine PySem.Calls.call_len_list hp.isList (by rw [hsz]; omega) ?_
    rw [hsz]
    exact ⟨.int _ _, pp _⟩
  · cases hv.ref_inv
    obtain ⟨kvs, hd, hks, _⟩ := S₂.sees.dI _ _ hl
    have hlen : kvs.length = d.keys.length := by rw [← hks, List.length_map]
    refine call_len_dict hm hd.dictOf (by rw [hlen]; omega) ?_
    rw [hlen]
    exact ⟨.int _ _, pp _⟩
  · cases hv.ref_inv
    obtain ⟨o, es, ep, t, ho, hex, hd, _, _, _, hf, hsz⟩ := S₂.sees.set _ _ hl
    have hsz : es.size = n := hsz
    refine call_len_set ho hex hd hf (by omega) ?_
    rw [hsz]
    exact ⟨.int _ _, pp _⟩
end
end Mine

/-! G21 -/
namespace Mine
section
variable {prog : Program} {w : World} {c : Cx} {ρ : Rho} {σ : AH} {s s' : Shared}

/-- (x, y) = a pair -/
theorem assignPair {A : Around} {x y : Str} {px py pos : Pos} {k : Nat} {v : Value} {p q : AV} {Q : Unit → Shared → Prop} (hA : A.handled = none) (S : St prog w c ρ σ s) (hv : VR s.heap v (.pair p q))
    (hx : isSto c.env c.wr x = true) (hy : isSto c.env c.wr y = true) (h : ∀ s', St prog w c ((y, q) :: (x, p) :: ρ) σ s' → Stab s.heap s'.heap → Q () s') :
    wpAny (model prog w) A (assign (.Tuple [.Name x px, .Name y py] k pos) c.env v) Q NoE s := by
  obtain ⟨a, o, u1, u2, n, rfl, ho, hc, hd, h1, h2⟩ := hv.pair_inv
  refine wpAny_assign_Tuple (items := #[u1, u2]) hA ⟨o, ho, hc, n, hd⟩ rfl rfl fun h' hx' => ?_
  have e : Ext s.heap h' := fun b o he => hx' b o (Nat.ne_of_lt (Heap.lt_size he)) he
  have S₁ : St prog w c ρ σ { s with heap := h' } := S.pu ⟨e, rfl, id⟩
  show wpAny _ _ (do holding [u2] (assign (.Name x px) c.env u1); do holding [] (assign (.Name y py) c.env u2); pure ()) _ _ _
  refine wpAny_bind (wpAny_holding (wpAny_assign_Name (S₁.store (h1.stab e.stab) hx fun s₂ S₂ st₂ => ?_)))
  exact wpAny_bind (wpAny_holding (wpAny_assign_Name (S₂.store ((h2.stab e.stab).stab st₂) hy fun s₃ S₃ st₃ => wpAny_pure (h s₃ S₃ (e.stab.trans (st₂.trans st₃))))))

/-- for x, y in d.items(): .. -/
theorem S1.forItems {x y : Str} {px py pt apos cpos pos : Pos} {kt : Nat} {o : Expr} {body : List Stmt} {d : Addr} {dd : DI} {Q : AF → Rho → AH → Prop} {n : Nat} (hA : Rm c.A n)
    (ho : PE prog w c ρ σ o (.ref d)) (hl : σ.dI d = some dd) (hm : (d == sysModules) = false) (Inv : Nat → Rho → AH → Prop) (h0 : Inv 0 ρ σ) (hsrc : ∀ i ρ₁ σ₁, i ≤ dd.keys.length → Inv i ρ₁ σ₁ → σ₁.dI d = some dd)
    (step : ∀ i k ρ₁ σ₁ P', dd.keys[i]? = some k → Inv i ρ₁ σ₁ → SX prog w (c.pinned P') ((y, dd.val k) :: (x, .int k) :: ρ₁) σ₁ body
      (fun f ρ₂ σ₂ => match f with | .next => Inv (i + 1) ρ₂ σ₂ | .cont => Inv (i + 1) ρ₂ σ₂ | .brk => Q .next ρ₂ σ₂ | .ret v => Q (.ret v) ρ₂ σ₂))
    (fin : ∀ ρ₁ σ₁, Inv dd.keys.length ρ₁ σ₁ → Q .next ρ₁ σ₁)
    (hx : isSto c.env c.wr x = true := by rfl) (hy : isSto c.env c.wr y = true := by rfl) (hbase : attributeBase o "items" c.env (eval o c.env) = eval o c.env := by rfl) (hline : (apos.endLine == cpos.line) = true := by rfl)
    (hs : ∀ x, foldedSetIterable (.Call (.Attribute o "items" apos) [] [] cpos) c.env x = pure x := by intro _; rfl) :
    S1 prog w c ρ σ (.For (.Tuple [.Name x px, .Name y py] kt pt) (.Call (.Attribute o "items" apos) [] [] cpos) body [] pos) Q := fun s S => by
  refine wpAny_For (hs := hs) ?_
  refine wpAny_Call_method (T := "dict") (id := "dict.items") hbase rfl hline F.plainAttrs_dict F.slot_dict_items F.type_dict_items (PE.one S ho fun u s₁ S₁ p₁ hu => ?_)
  cases hu.ref_inv
  obtain ⟨kvs, hd, hks, hvs⟩ := S₁.sees.dI _ _ hl
  have hlen : kvs.length = dd.keys.length := by rw [← hks, List.length_map]
  refine ⟨hd.dictOf.typeIs, hd.dictOf.mapOf.noDict, ?_⟩
  show wpAny _ _ (callWith cpos (.builtin "dict.items") [.ref d] [] []) _ _ s₁
  refine method_meetsIn F.slot_dict_items F.entry_dict_items rfl (PySem.evalArgs_none ⟨rfl, hd.dictOf.typeIs, F.args_dict_items_1 _, _, meets_dict_items (intKind prog w) d hm, ⟨kvs, hd.dictOf⟩, ?_⟩)
  have p₂ : Pu s₁ { s₁ with heap := s₁.heap.push { cls := .type "dict_items", data := .fields #[.ref d] } } := .push _ _
  have S₂ := S₁.pu p₂
  generalize hs₂ : ({ s₁ with heap := s₁.heap.push { cls := .type "dict_items", data := .fields #[.ref d] } } : Shared) = s₂ at *
  have hview : s₂.heap.IsItemsView s₁.heap.objs.size d := by subst hs₂; exact ⟨_, Heap.get?_push_size _ rfl, rfl, rfl⟩
  obtain ⟨kvs₂, hd₂, hks₂, hvs₂⟩ := S₂.sees.dI _ _ hl
  have hlen₂ : kvs₂.length = dd.keys.length := by rw [← hks₂, List.length_map]
  refine wpAny_pyIter_items (knd := intKind prog w) hview hd₂ ?_
  have N := S₂.newI (I := s₂.heap.objs.size) (get?_none_of_le (Nat.le_refl _))
  generalize hI : s₂.heap.objs.size = I at N
  have W₀ : Wait prog w c ρ σ I (fun o => ∃ ok ov, o = { cls := .type "dict_itemiterator", dict := none, data := .fields #[.none, .bool false, .ref d, .int (0 : Nat) 0, .int dd.keys.length 0, .int dd.ep 0, ok, ov], slots := #[] })
      { s₂ with heap := s₂.heap.push { cls := .type "dict_itemiterator", data := .fields #[.none, .bool false, .ref d, .int 0 0, .int kvs₂.length 0, .int dd.ep 0, .none, .none] } } :=
    .start S₂ (.push _ _) N (hI ▸ Heap.get?_push_size _ rfl) ⟨.none, .none, by rw [hlen₂]; rfl⟩
  have stab₀ : Stab s.heap (s₂.heap.push { cls := .type "dict_itemiterator", data := .fields #[.none, .bool false, .ref d, .int 0 0, .int kvs₂.length 0, .int dd.ep 0, .none, .none] }) := p₁.stab.trans (p₂.ext.stab.trans (Ext.push _ _).stab)
  refine codeAny_forLoop_any (fun k s' => ∃ i ρ₁ σ₁, Wait prog w c ρ₁ σ₁ I (fun o => ∃ ok ov, o = { cls := .type "dict_itemiterator", dict := none, data := .fields #[.none, .bool false, .ref d, .int (i : Nat) 0, .int dd.keys.length 0, .int dd.ep 0, ok, ov], slots := #[] }) s' ∧ Stab s.heap s'.heap ∧ Inv i ρ₁ σ₁ ∧ i ≤ dd.keys.length ∧ k = dd.keys.length + 1 - i) ?_ (dd.keys.length + 1)
    ⟨0, ρ, σ, W₀, stab₀, h0, Nat.zero_le _, rfl⟩
  rintro k s' ⟨i, ρ₁, σ₁, W, st, hI', hi, rfl⟩
  obtain ⟨o₁, ho₁, ok, ov, rfl⟩ := W.at_
  obtain ⟨kv, hdi, hk1, hv1⟩ := W.st.sees.dI _ _ (hsrc i _ _ hi hI')
  have hl1 : kv.length = dd.keys.length := by rw [← hk1, List.length_map]
  have hit : IsItemIter s'.heap I d i kv.length dd.ep ok ov := by rw [hl1]; exact ho₁
  have hni : ∀ o, (∃ ok ov, o = ({ cls := .type "dict_itemiterator", dict := none, data := .fields #[.none, .bool false, .ref d, .int (i : Nat) 0, .int dd.keys.length 0, .int dd.ep 0, ok, ov], slots := #[] } : Obj)) → ¬ Imm o := by
    rintro o ⟨_, _, rfl⟩ h; exact imm_not (t := "dict_itemiterator") rfl rfl h
  by_cases hlt : i < dd.keys.length
  · obtain ⟨⟨k0, v0⟩, hkx⟩ : ∃ p, kv[i]? = some p := ⟨kv[i]'(by omega), by simp [hl1, hlt]⟩
    have hkey : dd.keys[i]? = some k0 := by rw [← hk1, List.getElem?_map, hkx]; rfl
    refine up (wpAny_pyNext_items_item (knd := intKind prog w) hit hdi (k := k0) (v := v0) hkx fun key h₁ hkk heo ht₁ hz₁ hk₁ => ?_)
    have hIs : I < s'.heap.objs.size := Heap.lt_size ho₁
    refine up (wpAny_letOwnedTupleGo_items heo fun h₂ he₂ hs₂' => ?_)
    have hs₂ : Heap.SameBut I h₁ h₂ := hs₂'
    have ext : Heap.ExtBut I s'.heap h₂ := fun b o hb e => (hs₂.2 b hb).trans (hk₁ b o hb e)
    obtain ⟨W₃, st₃⟩ := W.step (s' := { s' with heap := h₂ }) (At' := fun o => ∃ ok ov, o = { cls := .type "dict_itemiterator", dict := none, data := .fields #[.none, .bool false, .ref d, .int ((i + 1 : Nat) : Int) 0, .int dd.keys.length 0, .int dd.ep 0, ok, ov], slots := #[] }) hni ext he₂ ⟨key, v0, by rw [hl1]⟩ rfl rfl
    have S₃ := W₃.into
    obtain ⟨t, rfl⟩ := Value.isInt_shape hkk
    have hpair : VR h₂ (.ref s'.heap.objs.size) (.pair (.int k0) (dd.val k0)) :=
      .pair ((hs₂.2 _ (Nat.ne_of_gt hIs)).trans ht₁) rfl rfl (.int _ _) ((hv1 _ (List.mem_of_getElem? hkx)).stab st₃)
    refine up (assignPair (c := c.pinned (pinMore c.P h₂ (· = I))) (A := c.A) hA.1 S₃ hpair hx hy fun s₄ S₄ st₄ => ?_)
    refine up (wpAny_mono (step i _ ρ₁ σ₁ (pinMore c.P h₂ (· = I)) hkey hI' s₄ S₄) (fun f s₅ h₅ => ?_) fun _ _ e => e)
    obtain ⟨af, ρ₂, σ₂, hf, S₅, st₅, q⟩ := h₅
    have W₅ := W₃.back S₅
    have stt := (st.trans st₃).trans (st₄.trans st₅)
    cases hf with
    | next => exact ⟨_, by omega, i + 1, ρ₂, σ₂, W₅, stt, q, hlt, rfl⟩
    | cont => exact ⟨_, by omega, i + 1, ρ₂, σ₂, W₅, stt, q, hlt, rfl⟩
    | brk => exact ⟨.next, ρ₂, σ₂, .next, W₅.st, stt, q⟩
    | ret hr => exact ⟨.ret _, ρ₂, σ₂, .ret hr, W₅.st, stt, q⟩
  · have hin : i = dd.keys.length := by omega
    subst hin
    refine up (wpAny_pyNext_items_end (knd := intKind prog w) hA.1 hit hdi (by simp [hl1]) fun h₁ he₁ => PySem.wpAny_execs_nil ?_)
    obtain ⟨S₃, st₃⟩ := W.ended (s' := { s' with heap := h₁ }) hni he₁ rfl rfl
    exact ⟨.next, ρ₁, σ₁, .next, S₃, st.trans st₃, fin _ _ hI'⟩

/-! ### setdefault -/
theorem DIRep_stored {h h' : Heap} {a : Addr} {d : DI} {kvs : List (Int × Value)} {k : Int} {uv : Value} {v : AV} (hd' : h'.DictOf (intKind prog w) a (stored kvs k uv)) (hks : kvs.map (·.1) = d.keys) (hvs : ∀ kv ∈ kvs, VR h kv.2 (d.val kv.1))
    (hv : VR h uv v) (st : Stab h h') : ∃ ep, DIRep prog w h' a ⟨if k ∈ d.keys then d.keys else d.keys ++ [k], fun x => if x = k then v else d.val x, ep⟩ := by
  obtain ⟨ep, hd2⟩ := hd'.dictAt
  refine ⟨ep, _, hd2, ?_, ?_⟩
  · unfold stored
    by_cases hk : k ∈ d.keys
    · have hk' : (kvs.any fun kv => decide (kv.1 = k)) = true := by
        rw [← hks] at hk
        obtain ⟨kv, h1, h2⟩ := List.mem_map.mp hk
        exact List.any_eq_true.mpr ⟨kv, h1, by simpa using h2⟩
      rw [if_pos hk', keys_map_store, hks]; exact (if_pos hk).symm
    · have hk' : ¬ (kvs.any fun kv => decide (kv.1 = k)) = true := fun hh => by
        obtain ⟨kv, h1, h2⟩ := List.any_eq_true.mp hh
        exact hk (hks ▸ List.mem_map.mpr ⟨kv, h1, by simpa using h2⟩)
      rw [if_neg hk', List.map_append, hks]; exact (if_neg hk).symm
  · intro kv hkv
    unfold stored at hkv
    split at hkv
    · obtain ⟨kv', h1, h2⟩ := List.mem_map.mp hkv
      by_cases e : kv'.1 = k
      · rw [if_pos e] at h2
        subst h2
        simp only [e, if_true]; exact hv.stab st
      · rw [if_neg e] at h2
        subst h2
        simp only [e, if_false]; exact (hvs _ h1).stab st
    · rename_i hno
      rcases List.mem_append.mp hkv with h1 | h1
      · have e : kv.1 ≠ k := fun e => hno (List.any_eq_true.mpr ⟨kv, h1, by simpa using e⟩)
        simp only [e, if_false]; exact (hvs _ h1).stab st
      · rw [List.mem_singleton] at h1
        subst h1
        simp only [if_true]; exact hv.stab st

/-- d.setdefault(k, []) -/
theorem EV.setdefault {o e : Expr} {apos lpos pos : Pos} {a : Addr} {d : DI} {k : Int} {Q : AV → AH → Prop} (ho : PE prog w c ρ σ o (.ref a)) (hl : σ.dI a = some d) (he : PE prog w c ρ σ e (.int k)) (hm : (a == sysModules) = false) (hz : d.keys.length ≤ 10000)
    (q1 : k ∈ d.keys → ∀ D, Nw σ D → Q (d.val k) (σ.setL D []))
    (q2 : k ∉ d.keys → ∀ D ep, Nw σ D → Q (.ref D) ((σ.setL D []).setD a ⟨d.keys ++ [k], fun x => if x = k then .ref D else d.val x, ep⟩))
    (hbase : attributeBase o "setdefault" c.env (eval o c.env) = eval o c.env := by rfl) (hline : (apos.endLine == pos.line) = true := by rfl)
    (htrees : backTo pos (starEach [e, .List [] lpos] c.env) = [(false, eval e c.env), (false, eval (.List [] lpos) c.env)] := by rfl) :
    EV prog w c ρ σ (.Call (.Attribute o "setdefault" apos) [e, .List [] lpos] [] pos) Q := fun s S => by
  refine wpAny_Call_method2_late hbase hline htrees (PE.one S ho fun u s₁ S₁ p₁ hu => ?_)
  cases hu.ref_inv
  obtain ⟨hT, hd⟩ := (Recv.dI hl).ok S₁.sees (.ref a)
  refine ⟨"dict", "dict.setdefault", F.plainAttrs_dict, F.slot_dict_setdefault, F.type_dict_setdefault, hT, hd, Calls.callWith_builtin rfl (Calls.evalArgs_plain (Calls.spliced_cons (PE.one S₁ he fun u s₂ S₂ p₂ hu => Calls.spliced_cons ?_)))⟩
  obtain ⟨t, rfl⟩ := hu.int_inv
  refine PySem.wpAny_List (wpAny_items_nil ⟨by simp, Calls.spliced_nil ?_⟩)
  have e : Ext s₂.heap (s₂.heap.push { cls := .type "list", data := .seq ([] : List Value).toArray }) := Ext.push _ _
  have S₃ := St.newL (S := S₂) (tk := s₂.toks) (xs := []) e ⟨[], ⟨_, Heap.get?_push_size _ rfl⟩, .nil⟩
  have fD := S₂.freshNew
  generalize hD : s₂.heap.objs.size = D at *
  have hl3 : (σ.setL D []).dI a = some d := hl
  obtain ⟨kvs, hda, hks, hvs⟩ := S₃.sees.dI _ _ hl3
  have hlen : kvs.length = d.keys.length := by rw [← hks, List.length_map]
  have stt : Stab s.heap (s₂.heap.push { cls := .type "list", data := .seq ([] : List Value).toArray }) := (p₁.trans p₂).stab.trans e.stab
  refine call_meetsIn PySem.F.slot_dict_setdefault hda.dictOf.typeIs PySem.F.entry_dict_setdefault (F.args_dict_setdefault_3 _ _ _) (kt_meets_setdefault (intKind prog w) (k := k) a (intKind_is prog w k t) hm (.ref D))
    ⟨kvs, hda.dictOf, by rw [hlen, sizeLine_eq]; omega, fun v hv => ?_, fun hn h' hd' hs => ?_⟩
  · have hkk : k ∈ d.keys ∧ VR (s₂.heap.push { cls := .type "list", data := .seq ([] : List Value).toArray }) v (d.val k) := by
      by_cases hk : k ∈ kvs.map (·.1)
      · obtain ⟨v', h1, h2⟩ := valueAt_mem hk
        rw [h1] at hv; cases hv
        exact ⟨hks ▸ hk, hvs _ h2⟩
      · exfalso
        unfold valueAt at hv
        obtain ⟨kv, h1, h2⟩ := Option.map_eq_some_iff.mp hv
        have h3 := List.mem_of_find?_eq_some h1
        have h4 := List.find?_some h1
        simp at h4
        exact hk (List.mem_map.mpr ⟨kv, h3, h4⟩)
    exact ⟨_, _, hkk.2, (Pv.toks S₃ _).st, stt, q1 hkk.1 D fD⟩
  · have hk : k ∉ d.keys := fun hk => by
      rw [← hks] at hk
      obtain ⟨v', h1, _⟩ := valueAt_mem hk
      rw [h1] at hn; cases hn
    have st : Stab (s₂.heap.push { cls := .type "list", data := .seq ([] : List Value).toArray }) h' := .sameBut hs (.cls (S₃.sees.dI _ _ hl3).get (by decide))
    obtain ⟨ep, rep⟩ := DIRep_stored hd' hks hvs (.ref D) st
    have nf : ¬ (σ.setL D []).Fresh a := fun f => by rw [f.2.1] at hl3; cases hl3
    rw [if_neg hk] at rep
    exact ⟨.ref D, _, .ref D, ⟨⟨S₃.sees.putD hs.extBut (S₃.sees.notPinned nf) st (S₃.sees.onlyD hl3) rep, S₃.os, S₃.gens⟩, S₃.fr.put hs.extBut (S₃.notFrame nf) st fun b hb f => AH.fresh_setD hb f⟩, stt.trans st, q2 hk D ep fD⟩
end
end Mine

/-! G22 -/
namespace Mine
section
variable {prog : Program} {w : World} {c : Cx} {ρ : Rho} {σ : AH} {s s' : Shared}

theorem S1.assignTuple {x y : Str} {px py pt pos : Pos} {k : Nat} {value : Expr} {Q : AF → Rho → AH → Prop} {n : Nat} (hA : Rm c.A n) (h : EV prog w c ρ σ value (fun av σ' => ∃ p q, av = .pair p q ∧ Q .next ((y, q) :: (x, p) :: ρ) σ'))
    (hx : isSto c.env c.wr x = true := by rfl) (hy : isSto c.env c.wr y = true := by rfl) (hs : swapsWithSole [.Tuple [.Name x px, .Name y py] k pt] value pos.line c.env = pure false := by rfl)
    (hw : swappedStores [.Tuple [.Name x px, .Name y py] k pt] value c.env = pure none := by rfl) : S1 prog w c ρ σ (.Assign [.Tuple [.Name x px, .Name y py] k pt] value pos) Q := fun s S => by
  refine Assign_Tuple (hs := hs) (hw := hw) (wpAny_mono (h s S) (fun v s₁ ⟨av, σ', hv, S₁, st, p, q, e, hq⟩ => ?_) fun _ _ e => e)
  subst e
  exact assignPair hA.1 S₁ hv hx hy fun s₂ S₂ st₂ => ⟨.next, _, σ', .next, S₂, st.trans st₂, hq⟩

/-! ### sorted -/
theorem call_sorted {A : Around} {x : Value} {ns : List Int} {Q : Value → Shared → Prop}
    (h : wpAny (model prog w) A.in1 (collect x) (fun vs s₁ => IntsAre vs ns ∧ vs.length < 64 ∧ ∀ (h' : Heap) (out : Array Value) (ns' : List Int), Ext s₁.heap h' → (∃ e, h'.get? s₁.heap.objs.size = some { cls := .type "list", data := .seq out e }) →
      IntsAre out.toList ns' → ns'.Perm ns → ns'.Pairwise (· ≤ ·) → Q (.ref s₁.heap.objs.size) { s₁ with heap := h' }) NoE s) : wpAny (model prog w) A (call (.builtin "sorted") [x]) Q NoE s := by
  refine Calls.call_function_entry kind_sorted plain_sorted entry_sorted (args_sorted1 _) ?_
  unfold Builtin.«sorted»
  refine wpAny_bind (m := checkCount "sorted" 1 1 _) (wpAny_pure ?_)
  refine wpAny_bind (wpAny_mono h (fun vs s₁ ⟨hI, h64, k⟩ => ?_) fun _ _ e => e)
  refine wpAny_bind (wpAny_newList ?_)
  have hoL : (s₁.heap.push (seqObj "list" vs.toArray 0)).get? s₁.heap.objs.size = some (seqObj "list" vs.toArray 0) := Heap.get?_push_size _ rfl
  refine wpAny_bind (wpAny_holding (wpAny_call_entry slot_list_sort ⟨_, hoL, rfl⟩ entry_list_sort (list_sort_tree (s := { s₁ with heap := s₁.heap.push (seqObj "list" vs.toArray 0) }) hoL hI h64 fun out ns' a1 a2 a3 => ⟨_, rfl, ?_⟩) (args_list_sort _)))
  refine wpAny_pure ⟨_, rfl, k _ out ns' (fun b o e => ?_) (sortedHeap_at hoL) a1 a2 a3⟩
  have hlt := Heap.lt_size e
  show (sortedHeap (s₁.heap.push (seqObj "list" vs.toArray 0)) s₁.heap.objs.size vs out).get? b = some o
  rw [sortedHeap_old (Nat.ne_of_lt hlt) (by rw [size_push']; exact Nat.lt_succ_of_lt hlt)]
  exact Heap.get?_push_of_some _ e
theorem intsAre_VRs {h : Heap} {vs : List Value} {ns : List Int} (x : IntsAre vs ns) : VRs h vs (ns.map AV.int) := by
  induction x with
  | nil => exact .nil
  | cons n t _ ih => exact .cons (.int n t) ih
theorem sorted_end {Q : AV → AH → Prop} {s₀ s₁ : Shared} {h' : Heap} {out : Array Value} {ns' : List Int} (S : St prog w c ρ σ s₁) (p : Stab s₀.heap s₁.heap) (e : Ext s₁.heap h') (hg : ∃ e, h'.get? s₁.heap.objs.size = some { cls := .type "list", data := .seq out e }) (hi : IntsAre out.toList ns')
    (q : Q (.ref s₁.heap.objs.size) (σ.setL s₁.heap.objs.size (ns'.map AV.int))) :
    ∃ av σ', VR h' (.ref s₁.heap.objs.size) av ∧ St prog w c ρ σ' { s₁ with heap := h' } ∧ Stab s₀.heap h' ∧ Q av σ' := by
  obtain ⟨n, hg⟩ := hg
  have S₅ := St.newL (S := S) (tk := s₁.toks) (xs := ns'.map AV.int) e ⟨out.toList, ⟨n, hg⟩, intsAre_VRs hi⟩
  exact ⟨.ref _, _, .ref _, S₅, p.trans e.stab, q⟩
theorem BC.sortedL {l : Addr} {xs : List Int} {Q : AV → AH → Prop} (hl : σ.list l = some (xs.map AV.int)) (hz : xs.length < 64) (q : ∀ (D : Addr) (ys : List Int), Nw σ D → ys.Perm xs → ys.Pairwise (· ≤ ·) → Q (.ref D) (σ.setL D (ys.map AV.int))) :
    BC prog w c ρ σ (.builtin "sorted") [.ref l] Q := fun s vs S hvs => by
  obtain ⟨u, rfl, hu⟩ := hvs.inv1
  cases hu.ref_inv
  obtain ⟨us, hp, hus⟩ := S.sees.list _ _ hl
  have hi := hus.any_int
  have hlen : us.length = xs.length := by rw [hus.length, List.length_map]
  refine call_sorted (ns := xs) (collect_list hp.isList ⟨hi, by omega, fun h' out ns' e hg h1 h2 h3 => ?_⟩ (by rw [sizeLine_eq]; omega))
  have eL : Ext s.heap ((s.heap.push (seqObj "list" #[] 0)).update s.heap.objs.size (Obj.mapSeq (· ++ us.toArray))) := fun b o e => (Heap.get?_update_ne _ _ _ _ (Nat.ne_of_lt (Heap.lt_size e))).trans (Heap.get?_push_of_some _ e)
  have S₁ : St prog w c ρ σ { s with heap := (s.heap.push (seqObj "list" #[] 0)).update s.heap.objs.size (Obj.mapSeq (· ++ us.toArray)) } := S.pu (.of (t := s.toks) eL)
  exact sorted_end S₁ eL.stab e hg h1 (q _ _ S₁.freshNew h2 h3)
theorem BC.sortedD {l : Addr} {d : DI} {Q : AV → AH → Prop} {r : Nat} (hA : Rm c.A r) (hl : σ.dI l = some d) (hm : (l == sysModules) = false) (hz : d.keys.length < 64) (q : ∀ (D : Addr) (ys : List Int), Nw σ D → ys.Perm d.keys → ys.Pairwise (· ≤ ·) → Q (.ref D) (σ.setL D (ys.map AV.int))) :
    BC prog w c ρ σ (.builtin "sorted") [.ref l] Q := fun s vs S hvs => by
  obtain ⟨u, rfl, hu⟩ := hvs.inv1
  cases hu.ref_inv
  obtain ⟨kvs, hd, hks, hv⟩ := S.sees.dI _ _ hl
  have hlen : kvs.length = d.keys.length := by rw [← hks, List.length_map]
  refine call_sorted (ns := d.keys) (kdu_collect (A := c.A.in1) (kdl_dict (knd := intKind prog w) (kvs := kvs) (ep := d.ep) hm) hA.1 hd (by rw [hlen, sizeLine_eq]; omega) fun h₁ tk acc hk hacc => ?_)
  have hi : IntsAre acc.toList d.keys := by
    have : VRs h₁ acc.toList (d.keys.map AV.int) := VRs.of_get (by rw [List.length_map, ← hlen, ← hacc.1]; simp) fun i v a h1 h2 => by
      obtain ⟨k, x, hx, hkk⟩ := hacc.2 i v (by simpa using h1)
      obtain ⟨t, rfl⟩ := Value.isInt_shape hkk
      rw [← hks, List.getElem?_map, List.getElem?_map, hx] at h2
      cases h2
      exact .int _ _
    exact this.any_int
  refine ⟨hi, by rw [Array.length_toList, hacc.1, hlen]; exact hz, fun h' out ns' e hg h1 h2 h3 => ?_⟩
  have eL : Ext s.heap h₁ := fun b o e => hk b o e
  have S₁ : St prog w c ρ σ { s with heap := h₁, toks := tk } := S.pu (.of eL)
  exact sorted_end S₁ eL.stab e hg h1 (q _ _ S₁.freshNew h2 h3)

/-! ### equality of lists and dicts -/
theorem CP.listNe {a b : Addr} {xs ys : List Int} {n : Nat} (hA : Rm c.A n) (ha : σ.list a = some (xs.map AV.int)) (hb : σ.list b = some (ys.map AV.int)) : CP prog w c ρ σ .NotEq (.ref a) (.ref b) (!decide (xs = ys)) := fun s u v S hu hv => by
  cases hu.ref_inv; cases hv.ref_inv
  obtain ⟨us, hp, hus⟩ := S.sees.list _ _ ha
  obtain ⟨ws, hp2, hws⟩ := S.sees.list _ _ hb
  have hi := hus.any_int
  have hj := hws.any_int
  have l1 : us.length = xs.length := by rw [hus.length, List.length_map]
  have l2 : ws.length = ys.length := by rw [hws.length, List.length_map]
  by_cases hsz : us.length = ws.length
  · refine SeqAt.RcNeAt.lists (e := fun j => xs.getD j 0 == ys.getD j 0) hp.isList hp2.isList (by simpa using hsz) (hA.units 0 (by omega)) (fun j h1 h2 => ?_) prog w _ _ ⟨?_, .refl S⟩
    · obtain ⟨k1, t1, e1, v1⟩ := intsAre_get hi (i := j) (v := us.toArray[j]) (by simp at h1; simp [h1])
      obtain ⟨k2, t2, e2, v2⟩ := intsAre_get hj (i := j) (v := ws.toArray[j]) (by simp at h2; simp [h2])
      rw [v1, v2]
      simp only [List.getD_eq_getElem?_getD, e1, e2, Option.getD_some]
      exact (MeetsSeq.EqGives.int k1 k2 t1 t2).at _ _
    · rw [Value.bool.injEq]
      congr 1
      rw [Bool.eq_iff_iff]
      simp only [List.all_eq_true, List.mem_range, beq_iff_eq, decide_eq_true_eq, List.size_toArray]
      constructor
      · intro h
        apply List.ext_getElem (by omega)
        intro i h1 h2
        have := h i (by omega)
        simpa [List.getD_eq_getElem?_getD, h1, h2] using this
      · rintro rfl i _; rfl
  · refine SeqAt.RcNeAt.lists_lengths hp.isList hp2.isList (by simpa using hsz) (hA.units 0 (by omega)) prog w _ _ ⟨?_, .refl S⟩
    have : xs ≠ ys := by rintro rfl; omega
    simp [this]
theorem CP.neNil {a b : Addr} {xs : List AV} {n : Nat} (hA : Rm c.A n) (ha : σ.list a = some xs) (hb : σ.list b = some []) : CP prog w c ρ σ .NotEq (.ref a) (.ref b) (!xs.isEmpty) := fun s u v S hu hv => by
  cases hu.ref_inv; cases hv.ref_inv
  obtain ⟨us, hp, hus⟩ := S.sees.list _ _ ha
  obtain ⟨ws, hp2, hws⟩ := S.sees.list _ _ hb
  have l1 := hus.length
  cases hws
  cases xs with
  | nil =>
    cases hus
    refine SeqAt.RcNeAt.lists (e := fun _ => true) hp.isList hp2.isList rfl (hA.units 0 (by omega)) (fun j h1 h2 => by simp at h1) prog w _ _ ⟨rfl, .refl S⟩
  | cons x xs =>
    refine SeqAt.RcNeAt.lists_lengths hp.isList hp2.isList (by simp [l1]) (hA.units 0 (by omega)) prog w _ _ ⟨rfl, .refl S⟩
theorem CP.eqNil {a b : Addr} {xs : List AV} {n : Nat} (hA : Rm c.A n) (ha : σ.list a = some xs) (hb : σ.list b = some []) : CP prog w c ρ σ .Eq (.ref a) (.ref b) xs.isEmpty := fun s u v S hu hv => by
  cases hu.ref_inv; cases hv.ref_inv
  obtain ⟨us, hp, hus⟩ := S.sees.list _ _ ha
  obtain ⟨ws, hp2, hws⟩ := S.sees.list _ _ hb
  have l1 := hus.length
  cases hws
  cases xs with
  | nil =>
    cases hus
    refine SeqAt.eq_listAt (e := fun _ => true) hp.isList hp2.isList rfl (hA.units 0 (by omega)) (fun j h1 h2 => by simp at h1) ⟨rfl, .refl S⟩
  | cons x xs =>
    refine SeqAt.eq_list_lengthsAt hp.isList hp2.isList (by simp [l1]) (hA.units 0 (by omega)) ⟨rfl, .refl S⟩
end
end Mine

/-! G23 -/
namespace Mine
section
variable {prog : Program} {w : World} {c : Cx} {ρ : Rho} {σ : AH} {s s' : Shared}

/-! ### tests that act -/
def TVt (prog : Program) (w : World) (c : Cx) (ρ : Rho) (σ : AH) (t : Sem Bool) (Q : Bool → AH → Prop) : Prop :=
  ∀ s, St prog w c ρ σ s → wpAny (model prog w) c.A t (fun b s' => ∃ σ', St prog w c ρ σ' s' ∧ Stab s.heap s'.heap ∧ Q b σ') NoE s
def TV (prog : Program) (w : World) (c : Cx) (ρ : Rho) (σ : AH) (e : Expr) (Q : Bool → AH → Prop) : Prop := TVt prog w c ρ σ (isTrue e c.env (eval e c.env)) Q
def TB (prog : Program) (w : World) (c : Cx) (ρ : Rho) (σ : AH) (op : BoolOp) (es : List Expr) (Q : Bool → AH → Prop) : Prop := TVt prog w c ρ σ (allTrue op es c.env) Q

theorem TVt.mono {t : Sem Bool} {Q Q' : Bool → AH → Prop} (h : TVt prog w c ρ σ t Q) (hq : ∀ b σ', Q b σ' → Q' b σ') : TVt prog w c ρ σ t Q' := fun s S =>
  wpAny_mono (h s S) (fun f s' ⟨σ', a, b, d⟩ => ⟨σ', a, b, hq _ _ d⟩) fun _ _ e => e
theorem TV.of {e : Expr} {b : Bool} {Q : Bool → AH → Prop} (h : PT prog w c ρ σ e b) (q : Q b σ) : TV prog w c ρ σ e Q := fun s S =>
  wpAny_mono (h s S) (fun f s' ⟨e, p⟩ => ⟨σ, p.st, p.stab, e ▸ q⟩) fun _ _ e => e
/-- a test that only makes new objects -/
theorem TV.pt {e : Expr} {b : Bool} (h : TV prog w c ρ σ e (fun b' σ' => b' = b ∧ AH.Le σ σ')) : PT prog w c ρ σ e b := fun s S =>
  wpAny_mono (h s S) (fun f s' ⟨σ', S', st, e, l⟩ => ⟨e, S'.weaken (.refl _) l, st⟩) fun _ _ e => e
theorem TB.and_nil {Q : Bool → AH → Prop} (q : Q true σ) : TB prog w c ρ σ .And [] Q := fun s S => wpAny_allTrue_And_nil ⟨σ, S, .refl _, q⟩
theorem TB.or_nil {Q : Bool → AH → Prop} (q : Q false σ) : TB prog w c ρ σ .Or [] Q := fun s S => wpAny_allTrue_Or_nil ⟨σ, S, .refl _, q⟩
theorem TB.and_cons {x : Expr} {rest : List Expr} {Q : Bool → AH → Prop} (h : TV prog w c ρ σ x (fun b σ' => if b = true then TB prog w c ρ σ' .And rest Q else Q false σ')) : TB prog w c ρ σ .And (x :: rest) Q := fun s S => by
  refine wpAny_allTrue_And_cons (wpAny_mono (h s S) (fun v s₁ ⟨σ', S', st, q⟩ => ?_) fun _ _ e => e)
  cases v with
  | false => simp only [Bool.false_eq_true, if_false] at q ⊢; exact ⟨σ', S', st, q⟩
  | true => simp only [if_true] at q ⊢; exact wpAny_mono (q s₁ S') (fun v s₂ ⟨σ₂, S₂, st₂, q₂⟩ => ⟨σ₂, S₂, st.trans st₂, q₂⟩) fun _ _ e => e
theorem TB.or_cons {x : Expr} {rest : List Expr} {Q : Bool → AH → Prop} (h : TV prog w c ρ σ x (fun b σ' => if b = true then Q true σ' else TB prog w c ρ σ' .Or rest Q)) : TB prog w c ρ σ .Or (x :: rest) Q := fun s S => by
  refine wpAny_allTrue_Or_cons (wpAny_mono (h s S) (fun v s₁ ⟨σ', S', st, q⟩ => ?_) fun _ _ e => e)
  cases v with
  | true => simp only [if_true] at q ⊢; exact ⟨σ', S', st, q⟩
  | false => simp only [Bool.false_eq_true, if_false] at q ⊢; exact wpAny_mono (q s₁ S') (fun v s₂ ⟨σ₂, S₂, st₂, q₂⟩ => ⟨σ₂, S₂, st.trans st₂, q₂⟩) fun _ _ e => e
theorem TV.bool {op : BoolOp} {es : List Expr} {pos : Pos} {Q : Bool → AH → Prop} (h : TB prog w c ρ σ op es Q) : TV prog w c ρ σ (.BoolOp op es pos) Q := fun s S => wpAny_isTrue_BoolOp (h s S)
theorem TV.not {x : Expr} {pos : Pos} {Q : Bool → AH → Prop} (h : TV prog w c ρ σ x (fun b σ' => Q (!b) σ')) : TV prog w c ρ σ (.UnaryOp .Not x pos) Q := fun s S => wpAny_isTrue_Not (h s S)
/-- a value's truth -/
inductive Tru (σ : AH) : AV → Bool → Prop
  | bool {b} : Tru σ (.bool b) b
  | list {a xs} : σ.list a = some xs → xs.length ≤ 100000 → Tru σ (.ref a) (!xs.isEmpty)
theorem truthy_Tru {A : Around} {av : AV} {b : Bool} {v : Value} {R : Bool → Shared → Prop} (S : St prog w c ρ σ s) (hv : VR s.heap v av) (t : Tru σ av b) (h : ∀ n, R b { s with toks := n }) : wpAny (model prog w) A (truthy v) R NoE s := by
  cases t with
  | bool => cases hv.bool_inv; exact wpAny_truthy_bool (h s.toks)
  | @list a xs hl hz =>
    cases hv.ref_inv
    obtain ⟨us, hp, hus⟩ := S.sees.list _ _ hl
    have hlen := hus.length
    refine wpAny_truthy_list hp.isList (by simp only [List.size_toArray]; omega) ?_
    have : us.toArray.isEmpty = xs.isEmpty := by
      cases xs with
      | nil => cases hus; rfl
      | cons x xs => cases hus; simp
    rw [this]; exact h _
theorem TV.val {e : Expr} {Q : Bool → AH → Prop} (h : EV prog w c ρ σ e (fun av σ' => ∃ b, Tru σ' av b ∧ Q b σ')) (he : isTrue e c.env (eval e c.env) = (do let v ← eval e c.env; standAt e.pos; holding [v] (truthy v)) := by rfl) : TV prog w c ρ σ e Q := fun s S =>
  wpAny_isTrue_value (he := he) (wpAny_mono (h s S) (fun v s₁ ⟨av, σ', hv, S₁, st, b, t, q⟩ => truthy_Tru S₁ hv t fun n => ⟨σ', (Pv.toks S₁ n).st, st, q⟩) fun _ _ e => e)
theorem TV.cmp {l r : Expr} {op : CmpOp} {pos : Pos} {R : AV → AH → Prop} {Q : Bool → AH → Prop} (hl : EV prog w c ρ σ l R)
    (hr : ∀ a σ₁, R a σ₁ → EV prog w c ρ σ₁ r (fun b σ₂ => ∃ z, CP prog w c ρ σ₂ op a b z ∧ Q z σ₂))
    (hm : behindInMarks op r = false := by with_unfolding_all rfl) : TV prog w c ρ σ (.Compare l [op] [r] pos) Q := fun s S => by
  refine wpAny_isTrue_Compare1 (hm := hm) (wpAny_mono (hl s S) (fun u s₁ ⟨a, σ₁, hu, S₁, st₁, ra⟩ => wpAny_mono (hr a σ₁ ra s₁ S₁) (fun v s₂ ⟨b, σ₂, hv, S₂, st₂, z, hc, q⟩ => ?_) fun _ _ e => e) fun _ _ e => e)
  refine wpAny_mono (hc s₂ u v S₂ (hu.stab st₂) hv) (fun x s₃ ⟨e, p₃⟩ => ?_) fun _ _ e => e
  subst e
  exact wpAny_truthy_bool ⟨σ₂, p₃.st, (st₁.trans st₂).trans p₃.stab, q⟩
theorem EV.cmp {l r : Expr} {op : CmpOp} {pos : Pos} {R : AV → AH → Prop} {Q : AV → AH → Prop} (hl : EV prog w c ρ σ l R)
    (hr : ∀ a σ₁, R a σ₁ → EV prog w c ρ σ₁ r (fun b σ₂ => ∃ z, CP prog w c ρ σ₂ op a b z ∧ Q (.bool z) σ₂))
    (hm : behindInMarks op r = false := by with_unfolding_all rfl) : EV prog w c ρ σ (.Compare l [op] [r] pos) Q := fun s S => by
  refine wpAny_Compare1 (hm := hm) (wpAny_mono (hl s S) (fun u s₁ ⟨a, σ₁, hu, S₁, st₁, ra⟩ => wpAny_mono (hr a σ₁ ra s₁ S₁) (fun v s₂ ⟨b, σ₂, hv, S₂, st₂, z, hc, q⟩ => ?_) fun _ _ e => e) fun _ _ e => e)
  refine wpAny_mono (hc s₂ u v S₂ (hu.stab st₂) hv) (fun x s₃ ⟨e, p₃⟩ => ?_) fun _ _ e => e
  subst e
  exact ⟨_, σ₂, .bool _, p₃.st, (st₁.trans st₂).trans p₃.stab, q⟩
theorem S1.iteV {test : Expr} {body orelse : List Stmt} {pos} {Q : AF → Rho → AH → Prop} (ht : TV prog w c ρ σ test (fun b σ' => if b = true then SX prog w c ρ σ' body Q else SX prog w c ρ σ' orelse Q)) : S1 prog w c ρ σ (.If test body orelse pos) Q := fun s S => by
  refine wpAny_If (wpAny_mono (ht s S) (fun v s' ⟨σ', S', st, h⟩ => ?_) fun _ _ e => e)
  cases v with
  | true =>
    simp only [if_true] at h ⊢
    exact wpAny_mono (h s' S') (fun f s'' ⟨af, ρ', σ', a, b, c, d⟩ => ⟨af, ρ', σ', a, b, st.trans c, d⟩) fun _ _ e => e
  | false =>
    simp only [Bool.false_eq_true, if_false] at h ⊢
    exact wpAny_mono (h s' S') (fun f s'' ⟨af, ρ', σ', a, b, c, d⟩ => ⟨af, ρ', σ', a, b, st.trans c, d⟩) fun _ _ e => e

/-- e[i], e acting -/
theorem EV.sub_ {value slice : Expr} {pos : Pos} {n : Nat} {R Q : AV → AH → Prop} (hA : Rm c.A n) (h1 : EV prog w c ρ σ value R) (h2 : ∀ o σ', R o σ' → ∃ i r, PE prog w c ρ σ' slice i ∧ GI σ' o i r ∧ Q r σ')
    (hs : ∀ o i, subscripted slice false o i = operate [o, i] (getItem o i) := by intro _ _; rfl) : EV prog w c ρ σ (.Subscript value slice pos) Q := fun s S => by
  refine Subscript_ (wpAny_mono (h1 s S) (fun u s₁ ⟨o, σ', hu, S₁, st, ro⟩ => ?_) fun _ _ e => e)
  obtain ⟨i, r, hi, g, q⟩ := h2 o σ' ro
  refine PE.one S₁ hi fun v s₂ S₂ p₂ hv => ?_
  obtain ⟨T, id, hT, hl, hg⟩ := getItem_GI hA (Q := fun v s' => ∃ av σ', VR s'.heap v av ∧ St prog w c ρ σ' s' ∧ Stab s.heap s'.heap ∧ Q av σ') S₂.sees (hu.stab p₂.stab) hv g
    (fun x s' hr p' => ⟨r, σ', hr, (S₂.pv (keeps_pu p')).st, st.trans (p₂.stab.trans (keeps_pu p').ext.stab), q⟩)
  exact tail_any hT hl hg (hs _ _)

/-- dicts of pairs that are equal -/
theorem CP.dictNe {a b : Addr} {d1 d2 : DP} {n : Nat} (hA : Rm c.A (n + 2)) (ha : σ.dP a = some d1) (hb : σ.dP b = some d2) (hma : (a == sysModules) = false) (hmb : (b == sysModules) = false) (hlen : d1.keys.length = d2.keys.length)
    (hsame : ∀ i j, (i, j) ∈ d1.keys → (i, j) ∈ d2.keys ∧ ∃ m, d1.val i j = .int m ∧ d2.val i j = .int m) : CP prog w c ρ σ .NotEq (.ref a) (.ref b) false := fun s u v S hu hv => by
  cases hu.ref_inv; cases hv.ref_inv
  obtain ⟨xs, ⟨oa, es, ep, hoa, hca, hda, hes, hka, hna⟩, hk1, hv1⟩ := S.sees.dP _ _ ha
  obtain ⟨ys, ⟨ob, es', ep', hob, hcb, hdb, hes', hkb, hnb⟩, hk2, hv2⟩ := S.sees.dP _ _ hb
  have l1 : xs.length = d1.keys.length := by have := congrArg List.length hk1; simpa using this
  have l2 : ys.length = d2.keys.length := by have := congrArg List.length hk2; simpa using this
  have z1 := size_of_entries hes
  have z2 := size_of_entries hes'
  have hTa : s.TypeIs (.ref a) "dict" := ⟨oa, hoa, hca.1⟩
  have hTb : s.TypeIs (.ref b) "dict" := ⟨ob, hob, hcb.1⟩
  refine wpAny_richCompare_same_room (op := .NotEq) hTa hTb PySem.F.slot_dict_ne (wpAny_call_entry PySem.F.slot_dict_ne hTa PySem.F.entry_dict_ne ?_ (PySem.F.args_dict_ne_2 _ _)) (hA.units 0 (by omega))
  show wpAny _ _ (Builtin.Dict.dictSlotArgs "__ne__" ⟨[.ref a, .ref b], []⟩ >>= _) _ _ s
  refine wpAny_bind ?_
  unfold Builtin.Dict.dictSlotArgs
  refine wpAny_bind (wpAny_notOrdered_dict hTa ?_)
  show wpAny _ _ (pure (Value.ref a, Value.ref b)) _ _ s
  refine wpAny_pure ?_
  refine wpAny_bind (wpAny_isInstance (T := "dict") hTb PySem.F.sub_dict_dict ?_)
  simp only [Bool.not_true, Bool.false_eq_true, if_false]
  refine wpAny_bind (wpAny_pure (wpAny_bind (wpAny_pure ?_)))
  refine wpAny_bind (m := Builtin.Dict.samePairs _ a b) (Q := fun r s' => _) ?_
  have fin : ∀ {R : Bool → Shared → Prop}, R true s → wpAny (model prog w) c.A.in1 (Builtin.Dict.samePairs "dict.__ne__" a b) R NoE s := by
    intro R hR
    unfold Builtin.Dict.samePairs Builtin.Dict.showsAll
    rw [if_neg (show ¬ (a == sysModules) = true by rw [hma]; exact Bool.false_ne_true), if_neg (show ¬ (b == sysModules) = true by rw [hmb]; exact Bool.false_ne_true)]
    refine wpAny_bind (wpAny_pure (wpAny_bind (wpAny_pure ?_)))
    refine wpAny_bind (wpAny_dictEntries hoa hda ?_)
    dsimp only
    refine wpAny_bind (wpAny_dictEntries hob hdb ?_)
    have hsz : es.size = es'.size := by omega
    rw [if_neg (by rw [hsz]; simp)]
    refine wpAny_bind (wpAny_dictEpoch hoa hda ?_)
    refine wpAny_bind ?_
    rw [Std.Legacy.Range.forIn_eq_forIn_range']
    simp only [Std.Legacy.Range.size, Nat.sub_zero, Nat.add_sub_cancel, Nat.div_one]
    refine wpAny_forIn_list _ (fun rest q s' => s' = s ∧ q = (none, ()) ∧ ∃ i, rest = List.range' i (es.size - i) ∧ i ≤ es.size) _ ?_ ?_ _ _ ⟨rfl, rfl, 0, by simp, Nat.zero_le _⟩
    · rintro x rest q s' ⟨rfl, rfl, i, hr, hi⟩
      have hlt : i < es.size := by
        rcases Nat.lt_or_ge i es.size with h | h
        · exact h
        · rw [Nat.sub_eq_zero_of_le h] at hr; simp at hr
      obtain ⟨rfl, hrest⟩ : x = i ∧ rest = List.range' (i + 1) (es.size - (i + 1)) := by
        have e : es.size - i = (es.size - (i + 1)) + 1 := by omega
        rw [e, List.range'_succ] at hr
        injection hr with h1 h2
        exact ⟨h1, h2⟩
      refine wpAny_bind (wpAny_dictEntries hoa hda ?_)
      obtain ⟨⟨ks, ka, v1⟩, hx⟩ : ∃ p, xs[x]? = some p := ⟨xs[x]'(by omega), by rw [List.getElem?_eq_getElem]⟩
      have hex : es[x]? = some (entryOfKey (tupleKind (intKind prog w)) (ks, ka, v1)) := by rw [entry_at hes x, hx]; rfl
      rw [hex]
      have hm1 : (ks, ka, v1) ∈ xs := List.mem_of_getElem? hx
      have hm2 : ks ∈ d1.keys.map (fun p => [p.1, p.2]) := hk1 ▸ List.mem_map.mpr ⟨_, hm1, rfl⟩
      obtain ⟨⟨k1, k2⟩, hkk, rfl⟩ := List.mem_map.mp hm2
      obtain ⟨hin, m, e1, e2⟩ := hsame k1 k2 hkk
      have hr1 := hv1 _ hm1 k1 k2 rfl
      rw [e1] at hr1
      obtain ⟨t1, rfl⟩ := VR.int_inv hr1
      show wpAny _ _ (holding [_, _] _ >>= _) _ _ _
      refine wpAny_bind (wpAny_holding (wpAny_bind (wpAny_dictFind_heap (knd := tupleKind (intKind prog w)) (show c.A.in1.units < cLine from (hA.in1).units 0 (by omega)) (hka _ hm1) hob hdb hes' hkb hnb ?_ ?_)))
      · intro hno
        exfalso
        have : [k1, k2] ∈ ys.map (·.1) := by rw [hk2]; exact List.mem_map.mpr ⟨(k1, k2), hin, rfl⟩
        obtain ⟨⟨q1, q2⟩, hq, hqe⟩ := List.mem_map.mp this
        obtain ⟨j, hj⟩ := List.getElem?_of_mem hq
        simp only at hqe; subst hqe
        exact hno j q2 hj
      · intro j p hj
        obtain ⟨kb, v2⟩ := p
        refine wpAny_bind (wpAny_dictEntries hob hdb ?_)
        have hej : es'[j]? = some (entryOfKey (tupleKind (intKind prog w)) ([k1, k2], kb, v2)) := by rw [entry_at hes' j, hj]; rfl
        rw [hej]
        have hr2 := hv2 _ (List.mem_of_getElem? hj) k1 k2 rfl
        rw [e2] at hr2
        obtain ⟨t2, rfl⟩ := VR.int_inv hr2
        refine wpAny_holding (wpAny_eqBool_int ?_)
        show wpAny _ _ (if (!(m == m)) = true then _ else _) _ _ _
        rw [if_neg (by simp)]
        refine wpAny_bind (wpAny_dictEpoch hoa hda ?_)
        rw [if_neg (by simp)]
        exact wpAny_pure ⟨rfl, rfl, x + 1, hrest, hlt⟩
    · rintro q s' ⟨rfl, rfl, i, hr, hi⟩
      exact wpAny_pure hR
  exact fin (wpAny_pure ⟨_, rfl, by nofun, rfl, .refl S⟩)

/-- l[:n] -/
theorem IT2.sliceTo {value e : Expr} {p pos : Pos} {l : Addr} {xs : List Int} {m : Nat} {K : AH → List AV → (AH → Prop) → Prop} (hv : PE prog w c ρ σ value (.ref l)) (hl : σ.list l = some (xs.map AV.int)) (hz : xs.length ≤ sizeLine) (he : PE prog w c ρ σ e (.int m))
    (k : ∀ D, Nw σ D → K (σ.setL D ((xs.take m).map AV.int)) ((xs.take m).map AV.int) (fun σ' => σ'.list D = some ((xs.take m).map AV.int)))
    (ht : ∀ o r, letTemporaryGo value o r = pure () := by intro _ _; rfl) :
    IT2 prog w c ρ σ (eval (.Subscript value (.Slice none (some e) none p) pos) c.env) K := fun s S => by
  refine wpAny_Subscript_list_slice (PE.one S hv fun u s₁ S₁ p₁ hu => wpAny_evalPart_none (wpAny_evalPart_some (PE.one S₁ he fun v s₂ S₂ p₂ hv => ?_))) ht
  cases hu.ref_inv
  obtain ⟨t, rfl⟩ := hv.int_inv
  obtain ⟨us, hp, hus⟩ := S₂.sees.list _ _ hl
  have hi := hus.any_int
  have hlen : us.length = xs.length := by rw [hus.length, List.length_map]
  refine ⟨l, us.toArray, none, some (m : Int), rfl, hp.isList, by simpa [hlen] using hz, .none, .int _ _, ?_⟩
  have hsl := slice_ints_uptoW hi (y := (m : Int)) (by omega)
  have p₃ : Pu s₂ { s₂ with heap := s₂.heap.push { cls := .type "slice", data := .fields #[.none, .int m t, .none] } } := .push _ _
  have S₃ := S₂.pu p₃
  have e : Ext (s₂.heap.push { cls := .type "slice", data := .fields #[.none, .int m t, .none] }) ((s₂.heap.push { cls := .type "slice", data := .fields #[.none, .int m t, .none] }).push { cls := .type "list", data := .seq (slicePick us.toArray none (some (m : Int)) none) }) := Ext.push _ _
  have hsz : (s₂.heap.push { cls := .type "slice", data := .fields #[.none, .int m t, .none] }).objs.size = s₂.heap.objs.size + 1 := Heap.size_push ..
  have fD := S₃.freshNew
  have S₄ := St.newL (S := S₃) (tk := s₂.toks) (xs := (xs.take m).map AV.int) e ⟨(slicePick us.toArray none (some (m : Int)) none).toList, ⟨0, by rw [Heap.get?_push_size _ rfl, Array.toArray_toList]⟩, intsAre_VRs (by simpa using hsl)⟩
  have hsz' : ({ s₂ with heap := s₂.heap.push { cls := .type "slice", data := .fields #[.none, .int m t, .none] } } : Shared).heap.objs.size = s₂.heap.objs.size + 1 := hsz
  rw [hsz'] at S₄ fD
  refine ⟨_, _, _, S₄, (p₁.trans p₂).stab.trans (p₃.ext.stab.trans e.stab), (Walk.list S₄.sees (by simp [AH.setL])).toN S₄, k _ fD⟩
end
end Mine

/-! G24 -/
namespace Mine

/-! ### the program's parts, by their places -/
def stAt (i : Nat) : Stmt := (PySem.Challenge.pw_at6021_01.main.body[i]?).getD (.Pass default)
def stName : Stmt → Str | .FunctionDef n .. => n | _ => ""
def stArgs : Stmt → Arguments | .FunctionDef _ a .. => a | _ => default
def stBody : Stmt → List Stmt | .FunctionDef _ _ b .. => b | _ => []
def stScope : Stmt → Scope | .FunctionDef _ _ _ _ _ _ sc .. => sc | _ => default
/-- a def's function -/
def FD (i : Nat) (pm cd doc dV kV : Value) : FuncData := { Calls.docDef (stName (stAt i)) (stArgs (stAt i)) (stBody (stAt i)) (stScope (stAt i)) pm cd doc with defaults := dV, kwdefaults := kV }
end Mine

/-! P1 -/
namespace Mine

/-! ### the plain law of a recolouring -/
structure Gr where
  V : List Int
  adj : Int → List Int
structure Gr.OK (G : Gr) : Prop where
  nodup : G.V.Nodup
  anodup : ∀ v ∈ G.V, (G.adj v).Nodup
  sub : ∀ v ∈ G.V, ∀ w ∈ G.adj v, w ∈ G.V
  irr : ∀ v ∈ G.V, v ∉ G.adj v
  sym : ∀ v ∈ G.V, ∀ w ∈ G.adj v, v ∈ G.adj w

def ib (p : Bool) : Int := if p then 1 else 0
/-- how many of l are of colour c -/
def cnt (f : Int → Int) (l : List Int) (c : Int) : Int := (l.countP fun w => f w == c : Nat)
def nF (G : Gr) (f : Int → Int) (v c : Int) : Int := cnt f (G.adj v) c
def hc (V : List Int) (f : Int → Int) (n : Int → Int → Int) (c e : Int) : Int := (V.countP fun v => f v == c && n v e == 0 : Nat)
def upd (f : Int → Int) (u y : Int) : Int → Int := fun v => if v = u then y else f v

theorem countP_one {V : List Int} (hn : V.Nodup) {u : Int} (hu : u ∈ V) {p q : Int → Bool} (h : ∀ v ∈ V, v ≠ u → p v = q v) : (V.countP p : Int) = V.countP q + ib (p u) - ib (q u) := by
  induction V with
  | nil => cases hu
  | cons x xs ih =>
    rw [List.nodup_cons] at hn
    by_cases hx : x = u
    · subst hx
      have : xs.countP p = xs.countP q := List.countP_congr fun v hv => by rw [h v (.tail _ hv) (by rintro rfl; exact hn.1 hv)]
      rw [List.countP_cons, List.countP_cons, this]
      unfold ib
      cases p x <;> cases q x <;> simp <;> omega
    · have hu' : u ∈ xs := by rcases List.mem_cons.mp hu with e | e; exact absurd e.symm hx; exact e
      have := ih hn.2 hu' fun v hv => h v (.tail _ hv)
      rw [List.countP_cons, List.countP_cons, h x (.head _) hx]
      push_cast
      omega
theorem countP_none {V : List Int} {p q : Int → Bool} (h : ∀ v ∈ V, p v = q v) : (V.countP p : Int) = V.countP q := by
  rw [List.countP_congr fun v hv => by rw [h v hv]]

theorem nF_at {G : Gr} (ok : G.OK) {f : Int → Int} {u v Y : Int} (hu : u ∈ G.V) (hv : v ∈ G.adj u) (c : Int) : nF G (upd f u Y) v c = nF G f v c + ib (Y == c) - ib (f u == c) := by
  unfold nF cnt
  have hvV := ok.sub u hu v hv
  rw [countP_one (ok.anodup v hvV) (ok.sym u hu v hv) (q := fun w => f w == c) fun w hw hne => by simp [upd, hne]]
  simp [upd]
theorem nF_off {G : Gr} (ok : G.OK) {f : Int → Int} {u v Y : Int} (hu : u ∈ G.V) (hvV : v ∈ G.V) (hv : v ∉ G.adj u) (c : Int) : nF G (upd f u Y) v c = nF G f v c := by
  unfold nF cnt
  refine countP_none fun w hw => ?_
  have : w ≠ u := by rintro rfl; exact hv (ok.sym v hvV w hw)
  simp [upd, this]
theorem nF_nonneg (G : Gr) (f : Int → Int) (v c : Int) : 0 ≤ nF G f v c := by unfold nF cnt; omega
theorem nF_pos {G : Gr} (ok : G.OK) {f : Int → Int} {u v : Int} (hu : u ∈ G.V) (hv : v ∈ G.adj u) : 1 ≤ nF G f v (f u) := by
  unfold nF cnt
  have : 0 < (G.adj v).countP fun w => f w == f u := List.countP_pos_iff.mpr ⟨u, ok.sym u hu v hv, by simp⟩
  omega

/-- the first loop -/
theorem hc_move {V : List Int} (hn : V.Nodup) {f : Int → Int} {n : Int → Int → Int} {u Y : Int} (hu : u ∈ V) (c e : Int) :
    hc V (upd f u Y) n c e = hc V f n c e + (if n u e = 0 then ib (Y == c) - ib (f u == c) else 0) := by
  unfold hc
  rw [countP_one hn hu (q := fun v => f v == c && n v e == 0) fun v hv hne => by simp [upd, hne]]
  by_cases h : n u e = 0
  · simp [upd, h]; omega
  · have : (n u e == 0) = false := by simpa using h
    simp [upd, this, h, ib]
/-- a row of n changes -/
theorem hc_row {V : List Int} (hn : V.Nodup) {f : Int → Int} {n n' : Int → Int → Int} {v : Int} (hv : v ∈ V) (h : ∀ w ∈ V, w ≠ v → ∀ e, n' w e = n w e) (c e : Int) :
    hc V f n' c e = hc V f n c e + (if f v = c then ib (n' v e == 0) - ib (n v e == 0) else 0) := by
  unfold hc
  rw [countP_one hn hv (q := fun v => f v == c && n v e == 0) fun w hw hne => by rw [h w hw hne e]]
  by_cases hc : f v = c
  · simp [hc]; omega
  · have : (f v == c) = false := by simpa using hc
    simp [this, hc, ib]
theorem hc_congr {V : List Int} {f : Int → Int} {n n' : Int → Int → Int} {c e : Int} (h : ∀ w ∈ V, n' w e = n w e) : hc V f n' c e = hc V f n c e := by
  unfold hc
  exact countP_none fun w hw => by rw [h w hw]
end Mine

/-! P2 -/
namespace Mine

/-- where the tables stand -/
structure Nm where
  F : Addr
  C : Addr
  L : Addr
  N : Addr
  H : Addr
  dC : DI
  dL : DI
  lc : Int → Addr
  ll : Int → Addr
  VF : List Int
  KN : List (Int × Int)
  KH : List (Int × Int)

structure Nm.OK (G : Gr) (a : Nm) : Prop where
  cv : ∀ c ∈ a.dC.keys, a.dC.val c = .ref (a.lc c)
  lk : a.dL.keys = G.V
  lv : ∀ v ∈ G.V, a.dL.val v = .ref (a.ll v)
  lcinj : ∀ c ∈ a.dC.keys, ∀ d ∈ a.dC.keys, a.lc c = a.lc d → c = d
  kn : ∀ v c, (v, c) ∈ a.KN ↔ v ∈ G.V ∧ c ∈ a.dC.keys
  kh : ∀ c e, (c, e) ∈ a.KH ↔ c ∈ a.dC.keys ∧ e ∈ a.dC.keys
  vf : ∀ v, v ∈ a.VF ↔ v ∈ G.V
  knodup : a.dC.keys.Nodup
  fc : a.F ≠ a.C
  fl : a.F ≠ a.L
  nh : a.N ≠ a.H
  lcll : ∀ c ∈ a.dC.keys, ∀ v ∈ G.V, a.lc c ≠ a.ll v
  zf : a.VF.length ≤ 1000
  zk : a.dC.keys.length ≤ 10
  zn : a.KN.length ≤ 1000
  zh : a.KH.length ≤ 1000
  cm : (a.C == sysModules) = false
  lm : (a.L == sysModules) = false

structure Tabs (G : Gr) (a : Nm) (σ : AH) (f : Int → Int) (cls : Int → List Int) (n h : Int → Int → Int) : Prop where
  F : ∃ d, σ.dI a.F = some d ∧ d.keys = a.VF ∧ ∀ v ∈ G.V, d.val v = .int (f v)
  C : σ.dI a.C = some a.dC
  L : σ.dI a.L = some a.dL
  N : ∃ d, σ.dP a.N = some d ∧ d.keys = a.KN ∧ ∀ v ∈ G.V, ∀ c ∈ a.dC.keys, d.val v c = .int (n v c)
  H : ∃ d, σ.dP a.H = some d ∧ d.keys = a.KH ∧ ∀ c ∈ a.dC.keys, ∀ e ∈ a.dC.keys, d.val c e = .int (h c e)
  cls : ∀ c ∈ a.dC.keys, σ.list (a.lc c) = some ((cls c).map AV.int) ∧ (cls c).length ≤ 1000
  adj : ∀ v ∈ G.V, σ.list (a.ll v) = some ((G.adj v).map AV.int)

/-- nothing but these addresses differs -/
structure Off (X : Addr → Prop) (σ σ' : AH) : Prop where
  list : ∀ b, ¬ X b → σ'.list b = σ.list b
  dI : ∀ b, ¬ X b → σ'.dI b = σ.dI b
  dP : ∀ b, ¬ X b → σ'.dP b = σ.dP b
  set : ∀ b, ¬ X b → σ'.set b = σ.set b
  tab : ∀ b, ¬ X b → σ'.tab b = σ.tab b
theorem Off.refl (X : Addr → Prop) (σ : AH) : Off X σ σ := ⟨fun _ _ => rfl, fun _ _ => rfl, fun _ _ => rfl, fun _ _ => rfl, fun _ _ => rfl⟩
theorem Off.trans {X : Addr → Prop} {a b c : AH} (x : Off X a b) (y : Off X b c) : Off X a c :=
  ⟨fun z h => (y.list z h).trans (x.list z h), fun z h => (y.dI z h).trans (x.dI z h), fun z h => (y.dP z h).trans (x.dP z h), fun z h => (y.set z h).trans (x.set z h), fun z h => (y.tab z h).trans (x.tab z h)⟩
theorem Off.setL {X : Addr → Prop} (σ : AH) {a : Addr} {l} (h : X a) : Off X σ (σ.setL a l) := by
  refine ⟨fun b hb => ?_, fun b hb => ?_, fun b hb => ?_, fun b hb => ?_, fun b hb => ?_⟩
  · have : b ≠ a := by rintro rfl; exact hb h
    simp [AH.setL, this]
  · rfl
  · rfl
  · rfl
  · rfl
theorem Off.setD {X : Addr → Prop} (σ : AH) {a : Addr} {l} (h : X a) : Off X σ (σ.setD a l) := by
  refine ⟨fun b hb => ?_, fun b hb => ?_, fun b hb => ?_, fun b hb => ?_, fun b hb => ?_⟩
  · rfl
  · have : b ≠ a := by rintro rfl; exact hb h
    simp [AH.setD, this]
  · rfl
  · rfl
  · rfl
theorem Off.setP {X : Addr → Prop} (σ : AH) {a : Addr} {l} (h : X a) : Off X σ (σ.setP a l) := by
  refine ⟨fun b hb => ?_, fun b hb => ?_, fun b hb => ?_, fun b hb => ?_, fun b hb => ?_⟩
  · rfl
  · rfl
  · have : b ≠ a := by rintro rfl; exact hb h
    simp [AH.setP, this]
  · rfl
  · rfl
theorem Off.setS {X : Addr → Prop} (σ : AH) {a : Addr} {l n} (h : X a) : Off X σ (σ.setS a l n) := by
  refine ⟨fun b hb => ?_, fun b hb => ?_, fun b hb => ?_, fun b hb => ?_, fun b hb => ?_⟩
  · rfl
  · rfl
  · rfl
  · have : b ≠ a := by rintro rfl; exact hb h
    simp [AH.setS, this]
  · rfl
theorem Off.mono {X Y : Addr → Prop} {σ σ' : AH} (x : Off X σ σ') (h : ∀ b, X b → Y b) : Off Y σ σ' :=
  ⟨fun b hb => x.list b fun e => hb (h b e), fun b hb => x.dI b fun e => hb (h b e), fun b hb => x.dP b fun e => hb (h b e), fun b hb => x.set b fun e => hb (h b e), fun b hb => x.tab b fun e => hb (h b e)⟩

/-- what a recolouring may change -/
def Nm.own (a : Nm) (b : Addr) : Prop := b = a.F ∨ b = a.N ∨ b = a.H ∨ ∃ c ∈ a.dC.keys, b = a.lc c

section tabs
variable {G : Gr} {a : Nm} {σ : AH} {f : Int → Int} {cls : Int → List Int} {n h : Int → Int → Int}
theorem Tabs.setF (T : Tabs G a σ f cls n h) (ok : a.OK G) {u Y : Int} (hu : u ∈ G.V) {d : DI} (hd : σ.dI a.F = some d) (ep : Nat) :
    Tabs G a (σ.setD a.F ⟨if u ∈ d.keys then d.keys else d.keys ++ [u], fun x => if x = u then .int Y else d.val x, ep⟩) (upd f u Y) cls n h where
  F := by
    obtain ⟨d', h1, h2, h3⟩ := T.F
    rw [hd] at h1; cases h1
    refine ⟨_, if_pos rfl, by simp only [h2, (ok.vf u).mpr hu, if_true], fun v hv => ?_⟩
    by_cases e : v = u
    · simp [e, upd]
    · simp [e, upd, h3 v hv]
  C := by simp only [AH.setD, ok.fc.symm, if_false]; exact T.C
  L := by simp only [AH.setD, ok.fl.symm, if_false]; exact T.L
  N := T.N
  H := T.H
  cls := T.cls
  adj := T.adj
theorem Tabs.setN (T : Tabs G a σ f cls n h) (ok : a.OK G) {v c m : Int} {d : DP} (hd : σ.dP a.N = some d) {n' : Int → Int → Int} (hn : ∀ x ∈ G.V, ∀ y ∈ a.dC.keys, n' x y = if x = v ∧ y = c then m else n x y) :
    Tabs G a (σ.setP a.N ⟨d.keys, fun x y => if x = v ∧ y = c then .int m else d.val x y⟩) f cls n' h where
  F := T.F
  C := T.C
  L := T.L
  N := by
    obtain ⟨d', h1, h2, h3⟩ := T.N
    rw [hd] at h1; cases h1
    refine ⟨⟨d.keys, fun x y => if x = v ∧ y = c then .int m else d.val x y⟩, if_pos rfl, h2, fun x hx y hy => ?_⟩
    rw [hn x hx y hy]
    by_cases e : x = v ∧ y = c
    · simp only [e, and_self, if_true]
    · simp only [e, if_false]; exact h3 x hx y hy
  H := by simp only [AH.setP, ok.nh.symm, if_false]; exact T.H
  cls := T.cls
  adj := T.adj
theorem Tabs.setH (T : Tabs G a σ f cls n h) (ok : a.OK G) {v c m : Int} {d : DP} (hd : σ.dP a.H = some d) {h' : Int → Int → Int} (hn : ∀ x ∈ a.dC.keys, ∀ y ∈ a.dC.keys, h' x y = if x = v ∧ y = c then m else h x y) :
    Tabs G a (σ.setP a.H ⟨d.keys, fun x y => if x = v ∧ y = c then .int m else d.val x y⟩) f cls n h' where
  F := T.F
  C := T.C
  L := T.L
  N := by simp only [AH.setP, ok.nh, if_false]; exact T.N
  H := by
    obtain ⟨d', h1, h2, h3⟩ := T.H
    rw [hd] at h1; cases h1
    refine ⟨⟨d.keys, fun x y => if x = v ∧ y = c then .int m else d.val x y⟩, if_pos rfl, h2, fun x hx y hy => ?_⟩
    rw [hn x hx y hy]
    by_cases e : x = v ∧ y = c
    · simp only [e, and_self, if_true]
    · simp only [e, if_false]; exact h3 x hx y hy
  cls := T.cls
  adj := T.adj
theorem Tabs.setC (T : Tabs G a σ f cls n h) (ok : a.OK G) {c : Int} {l : List Int} (hc : c ∈ a.dC.keys) (hl : l.length ≤ 1000) :
    Tabs G a (σ.setL (a.lc c) (l.map AV.int)) f (fun e => if e = c then l else cls e) n h where
  F := T.F
  C := T.C
  L := T.L
  N := T.N
  H := T.H
  cls := fun e he => by
    by_cases e' : e = c
    · subst e'; simp [AH.setL, hl]
    · have : a.lc e ≠ a.lc c := fun x => e' (ok.lcinj e he c hc x)
      simp only [AH.setL, this, if_false, e']; exact T.cls e he
  adj := fun v hv => by
    have : a.ll v ≠ a.lc c := fun x => ok.lcll c hc v hv x.symm
    simp only [AH.setL, this, if_false]; exact T.adj v hv
theorem Tabs.congr {f' : Int → Int} {cls' : Int → List Int} {n' h' : Int → Int → Int} (T : Tabs G a σ f cls n h) (hf : ∀ v ∈ G.V, f' v = f v) (hc : ∀ c ∈ a.dC.keys, cls' c = cls c)
    (hn : ∀ v ∈ G.V, ∀ c ∈ a.dC.keys, n' v c = n v c) (hh : ∀ c ∈ a.dC.keys, ∀ e ∈ a.dC.keys, h' c e = h c e) : Tabs G a σ f' cls' n' h' where
  F := let ⟨d, h1, h2, h3⟩ := T.F; ⟨d, h1, h2, fun v hv => by rw [hf v hv]; exact h3 v hv⟩
  C := T.C
  L := T.L
  N := let ⟨d, h1, h2, h3⟩ := T.N; ⟨d, h1, h2, fun v hv c hc => by rw [hn v hv c hc]; exact h3 v hv c hc⟩
  H := let ⟨d, h1, h2, h3⟩ := T.H; ⟨d, h1, h2, fun v hv c hc => by rw [hh v hv c hc]; exact h3 v hv c hc⟩
  cls := fun c hc' => by rw [hc c hc']; exact T.cls c hc'
  adj := T.adj
theorem Tabs.off {σ' : AH} {X : Addr → Prop} (T : Tabs G a σ f cls n h) (o : Off X σ σ') (hF : ¬ X a.F) (hC : ¬ X a.C) (hL : ¬ X a.L) (hN : ¬ X a.N) (hH : ¬ X a.H) (hc : ∀ c ∈ a.dC.keys, ¬ X (a.lc c)) (hl : ∀ v ∈ G.V, ¬ X (a.ll v)) : Tabs G a σ' f cls n h where
  F := by rw [o.dI _ hF]; exact T.F
  C := by rw [o.dI _ hC]; exact T.C
  L := by rw [o.dI _ hL]; exact T.L
  N := by rw [o.dP _ hN]; exact T.N
  H := by rw [o.dP _ hH]; exact T.H
  cls := fun c hc' => by rw [o.list _ (hc c hc')]; exact T.cls c hc'
  adj := fun v hv => by rw [o.list _ (hl v hv)]; exact T.adj v hv

/-- items of the tables -/
theorem Tabs.gF (T : Tabs G a σ f cls n h) (ok : a.OK G) {v : Int} (hv : v ∈ G.V) : GI σ (.ref a.F) (.int v) (.int (f v)) := by
  obtain ⟨d, h1, h2, h3⟩ := T.F
  have := GI.dI h1 (k := v) (by rw [h2]; exact (ok.vf v).mpr hv)
  rwa [h3 v hv] at this
theorem Tabs.gC (T : Tabs G a σ f cls n h) (ok : a.OK G) {c : Int} (hc : c ∈ a.dC.keys) : GI σ (.ref a.C) (.int c) (.ref (a.lc c)) := by
  have := GI.dI T.C hc
  rwa [ok.cv c hc] at this
theorem Tabs.gL (T : Tabs G a σ f cls n h) (ok : a.OK G) {v : Int} (hv : v ∈ G.V) : GI σ (.ref a.L) (.int v) (.ref (a.ll v)) := by
  have := GI.dI T.L (k := v) (by rw [ok.lk]; exact hv)
  rwa [ok.lv v hv] at this
theorem Tabs.gN (T : Tabs G a σ f cls n h) (ok : a.OK G) {v c : Int} (hv : v ∈ G.V) (hc : c ∈ a.dC.keys) : GI σ (.ref a.N) (.pair (.int v) (.int c)) (.int (n v c)) := by
  obtain ⟨d, h1, h2, h3⟩ := T.N
  have := GI.dP h1 (i := v) (j := c) (by rw [h2]; exact (ok.kn v c).mpr ⟨hv, hc⟩)
  rwa [h3 v hv c hc] at this
theorem Tabs.gH (T : Tabs G a σ f cls n h) (ok : a.OK G) {c e : Int} (hc : c ∈ a.dC.keys) (he : e ∈ a.dC.keys) : GI σ (.ref a.H) (.pair (.int c) (.int e)) (.int (h c e)) := by
  obtain ⟨d, h1, h2, h3⟩ := T.H
  have := GI.dP h1 (i := c) (j := e) (by rw [h2]; exact (ok.kh c e).mpr ⟨hc, he⟩)
  rwa [h3 c hc e he] at this
/-- stores -/
theorem Tabs.sN (T : Tabs G a σ f cls n h) (ok : a.OK G) {v c m : Int} (hv : v ∈ G.V) (hc : c ∈ a.dC.keys) {Q : AH → Prop}
    (q : ∀ σ', Tabs G a σ' f cls (fun x y => if x = v ∧ y = c then m else n x y) h → Off a.own σ σ' → Q σ') : SI σ (.ref a.N) (.pair (.int v) (.int c)) (.int m) Q := by
  obtain ⟨d, h1, h2, h3⟩ := T.N
  exact .dP h1 (by rw [h2]; exact (ok.kn v c).mpr ⟨hv, hc⟩) (by rw [h2]; have := ok.zn; omega) (q _ (T.setN ok h1 fun _ _ _ _ => rfl) (.setP _ (.inr (.inl rfl))))
theorem Tabs.sH (T : Tabs G a σ f cls n h) (ok : a.OK G) {v c m : Int} (hv : v ∈ a.dC.keys) (hc : c ∈ a.dC.keys) {Q : AH → Prop}
    (q : ∀ σ', Tabs G a σ' f cls n (fun x y => if x = v ∧ y = c then m else h x y) → Off a.own σ σ' → Q σ') : SI σ (.ref a.H) (.pair (.int v) (.int c)) (.int m) Q := by
  obtain ⟨d, h1, h2, h3⟩ := T.H
  exact .dP h1 (by rw [h2]; exact (ok.kh v c).mpr ⟨hv, hc⟩) (by rw [h2]; have := ok.zh; omega) (q _ (T.setH ok h1 fun _ _ _ _ => rfl) (.setP _ (.inr (.inr (.inl rfl)))))
theorem Tabs.sF (T : Tabs G a σ f cls n h) (ok : a.OK G) {v m : Int} (hv : v ∈ G.V) {Q : AH → Prop}
    (q : ∀ σ', Tabs G a σ' (upd f v m) cls n h → Off a.own σ σ' → Q σ') : SI σ (.ref a.F) (.int v) (.int m) Q := by
  obtain ⟨d, h1, h2, h3⟩ := T.F
  exact .dI h1 (by rw [h2]; have := ok.zf; omega) fun ep => q _ (T.setF ok hv h1 ep) (.setD _ (.inl rfl))
end tabs
end Mine

/-! P3 -/
namespace Mine
section
variable {prog : Program} {w : World} {c : Cx} {ρ : Rho} {σ : AH} {s s' : Shared}
theorem S1.assertB {test : Expr} {msg : Option Expr} {pos : Pos} {b : Bool} {Q : AF → Rho → AH → Prop} (ht : PT prog w c ρ σ test b) (hb : b = true) (q : Q .next ρ σ) : S1 prog w c ρ σ (.Assert test msg pos) Q := by
  subst hb; exact S1.assertT ht q
theorem SX.weaken {ρ₀ : Rho} {σ₀ : AH} {ss : List Stmt} {Q : AF → Rho → AH → Prop} (h : SX prog w c ρ₀ σ₀ ss Q) (l : RLe ρ₀ ρ) (l' : AH.Le σ₀ σ) : SX prog w c ρ σ ss Q := SXt.weaken h l l'
theorem S1.iteB {test : Expr} {body orelse : List Stmt} {pos} {b : Bool} {Q : AF → Rho → AH → Prop} (ht : PT prog w c ρ σ test b)
    (h1 : b = true → SX prog w c ρ σ body Q) (h2 : b = false → SX prog w c ρ σ orelse Q) : S1 prog w c ρ σ (.If test body orelse pos) Q := S1.ite ht (by cases b <;> simp_all)
end

theorem S1.iteN {prog : Program} {w : World} {c : Cx} {ρ : Rho} {σ : AH} {test : Expr} {body orelse : List Stmt} {pos} {b : Bool} {Q : AF → Rho → AH → Prop} (ht : PT prog w c ρ σ test b) (R : Rho → AH → Prop)
    (h1 : b = true → SX prog w c ρ σ body (fun f ρ' σ' => f = .next ∧ R ρ' σ')) (h2 : b = false → SX prog w c ρ σ orelse (fun f ρ' σ' => f = .next ∧ R ρ' σ')) (k : ∀ ρ' σ', R ρ' σ' → Q .next ρ' σ') : S1 prog w c ρ σ (.If test body orelse pos) Q :=
  S1.iteB ht (fun e => SXt.mono (h1 e) fun f ρ' σ' ⟨ef, r⟩ => ef ▸ k ρ' σ' r) (fun e => SXt.mono (h2 e) fun f ρ' σ' ⟨ef, r⟩ => ef ▸ k ρ' σ' r)
theorem RLe.cons {ρ₀ ρ₁ : Rho} (h : RLe ρ₀ ρ₁) (x : Str) (a : AV) : RLe ((x, a) :: ρ₀) ((x, a) :: ρ₁) := fun y b e => by
  by_cases hy : y = x
  · subst hy; rw [lookup_cons_self] at e ⊢; exact e
  · rw [lookup_cons_ne hy] at e ⊢; exact h y b e
theorem RLe.skip {ρ₀ ρ₁ : Rho} (h : RLe ρ₀ ρ₁) {x : Str} (a : AV) (hx : ρ₀.lookup x = none := by rfl) : RLe ρ₀ ((x, a) :: ρ₁) := fun y b e => by
  have : y ≠ x := by rintro rfl; rw [hx] at e; cases e
  rw [lookup_cons_ne this]; exact h y b e
theorem getElem?_ints {l : List Int} {i : Nat} {av : AV} (h : (l.map AV.int)[i]? = some av) : ∃ k, l[i]? = some k ∧ av = .int k := by
  rw [List.getElem?_map] at h
  obtain ⟨k, h1, h2⟩ := Option.map_eq_some_iff.mp h
  exact ⟨k, h1, h2.symm⟩
theorem mem_take_succ {l : List Int} {i : Nat} {k : Int} (h : l[i]? = some k) (e : Int) : e ∈ l.take (i + 1) ↔ e ∈ l.take i ∨ e = k := by
  rw [List.take_add_one, h]; simp
theorem not_mem_take {l : List Int} (hn : l.Nodup) {i : Nat} {k : Int} (h : l[i]? = some k) : k ∉ l.take i := fun hm => by
  obtain ⟨j, hj⟩ := List.getElem?_of_mem hm
  rw [List.getElem?_take] at hj
  split at hj
  · rename_i hlt
    have h1 := (List.getElem?_eq_some_iff.mp hj)
    have h2 := (List.getElem?_eq_some_iff.mp h)
    obtain ⟨l1, e1⟩ := h1
    obtain ⟨l2, e2⟩ := h2
    have := (List.getElem_inj hn (h₀ := l1) (h₁ := l2)).mp (by rw [e1, e2])
    omega
  · cases hj

section
variable {prog : Program} {w : World} {A : Around} {B : Basis} {P : Pins} {pm cd doc dV kV : Value} {L fa : Addr} {σ : AH} {m : Nat}
variable {G : Gr} {a : Nm} {f : Int → Int} {cls : Int → List Int}

abbrev ccρ (a : Nm) (u X Y : Int) : Rho := [("u", .int u), ("X", .int X), ("Y", .int Y), ("N", .ref a.N), ("H", .ref a.H), ("F", .ref a.F), ("C", .ref a.C), ("L", .ref a.L)]

theorem cc_body {u X Y : Int} {Q : AF → Rho → AH → Prop} (hA : Rm (calleeCx A B P (FD 4 pm cd doc dV kV) L fa).A m) (g : G.OK) (ok : a.OK G) (T : Tabs G a σ f cls (nF G f) (hc G.V f (nF G f)))
    (hu : u ∈ G.V) (hX : f u = X) (hXK : X ∈ a.dC.keys) (hYK : Y ∈ a.dC.keys) (hXY : X ≠ Y) (hfK : ∀ v ∈ G.V, f v ∈ a.dC.keys) (hcl : u ∈ cls X) (hz : ∀ c ∈ a.dC.keys, (cls c).length ≤ 900)
    (q : ∀ ρ' σ', Tabs G a σ' (upd f u Y) (fun c => if c = Y then cls Y ++ [u] else if c = X then (cls X).erase u else cls c) (nF G (upd f u Y)) (hc G.V (upd f u Y) (nF G (upd f u Y))) → Off a.own σ σ' → Q .next ρ' σ') :
    SX prog w (calleeCx A B P (FD 4 pm cd doc dV kV) L fa) (ccρ a u X Y) σ (stBody (stAt 4)) Q := by
  refine SX.cons (S1.assertB (PT.bool (PA.and_cons (PT.cmp (PE.sub_ hA (PE.name rfl) (PE.name rfl) (T.gF ok hu)) (PE.name rfl) CP.eq) fun _ => PA.and_cons (PT.cmp (PE.name rfl) (PE.name rfl) CP.ne) fun _ => PA.and_nil)) (by simp [hX, hXY]) ?_)
  refine SX.cons (S1.setItem hA (PE.name rfl) (PE.name rfl) (PE.name rfl) (T.sF ok hu fun σ₁ T₁ O₁ => ?_))
  refine SX.cons (S1.for_ hA (ITt.keys (PE.name rfl) T₁.C ok.cm) (fun i ρ' σ' => RLe (ccρ a u X Y) ρ' ∧ Off a.own σ σ' ∧
    Tabs G a σ' (upd f u Y) cls (nF G f) (fun c e => if e ∈ a.dC.keys.take i then hc G.V (upd f u Y) (nF G f) c e else hc G.V f (nF G f) c e)) ?_ ?_ ?_ ?_)
  · exact ⟨.refl _, O₁, T₁.congr (fun _ _ => rfl) (fun _ _ => rfl) (fun _ _ _ _ => rfl) (fun c _ e _ => by simp)⟩
  · rintro i ρ' σ' _ ⟨_, _, T'⟩; exact ⟨_, T'.C⟩
  · rintro i av ρ₁ σ₂ P' hi ⟨hle, O₂, T₂⟩
    obtain ⟨k, hk, rfl⟩ := getElem?_ints hi
    have hkK : k ∈ a.dC.keys := List.mem_of_getElem? hk
    have hkn := not_mem_take ok.knodup hk
    have hmt := mem_take_succ hk
    replace hA : Rm ((calleeCx A B P (FD 4 pm cd doc dV kV) L fa).pinned P').A m := hA
    refine SX.weaken (ρ₀ := ("k", .int k) :: ccρ a u X Y) ?_ (hle.cons _ _) (.refl _)
    refine SX.cons (S1.iteB (PT.cmp (PE.sub_ hA (PE.name rfl) (PE.pair (PE.name rfl) (PE.name rfl)) (T₂.gN ok hu hkK)) PE.int CP.eq) (fun h0 => ?_) (fun h0 => ?_))
    · have h0 : nF G f u k = 0 := of_decide_eq_true h0
      refine SX.cons (S1.augItem hA (PE.name rfl) (PE.pair (PE.name rfl) (PE.name rfl)) (T₂.gH ok hXK hkK) PE.int (.inr ⟨rfl, rfl⟩) (T₂.sH ok hXK hkK fun σ₃ T₃ O₃ => ?_))
      refine SX.cons (S1.augItem hA (PE.name rfl) (PE.pair (PE.name rfl) (PE.name rfl)) (T₃.gH ok hYK hkK) PE.int (.inl ⟨rfl, rfl⟩) (T₃.sH ok hYK hkK fun σ₄ T₄ O₄ => ?_))
      refine SX.nil (SX.nil ⟨(RLe.refl _).skip _, (O₂.trans O₃).trans O₄, T₄.congr (fun _ _ => rfl) (fun _ _ => rfl) (fun _ _ _ _ => rfl) fun c _ e _ => ?_⟩)
      have hm := hc_move g.nodup (f := f) (n := nF G f) (Y := Y) hu c e
      by_cases hek : e = k
      · subst hek
        rw [hm]
        simp only [(hmt e).mpr (.inr rfl), if_true, hkn, if_false, h0, and_true, hX, hXY.symm]
        by_cases h1 : c = Y
        · subst h1; simp [ib, hXY]
        · by_cases h2 : c = X
          · subst h2; simp [ib, h1]; omega
          · simp [ib, h1, h2, Ne.symm h1, Ne.symm h2]
      · simp only [hmt e, hek, or_false, and_false, if_false]
    · have h0 : nF G f u k ≠ 0 := of_decide_eq_false h0
      refine SX.nil (SX.nil ⟨(RLe.refl _).skip _, O₂, T₂.congr (fun _ _ => rfl) (fun _ _ => rfl) (fun _ _ _ _ => rfl) fun c _ e _ => ?_⟩)
      have hm := hc_move g.nodup (f := f) (n := nF G f) (Y := Y) hu c e
      by_cases hek : e = k
      · subst hek
        rw [hm]
        simp [(hmt e).mpr (.inr rfl), hkn, h0]
      · simp only [hmt e, hek, or_false]
  · rintro ρ₁ σ₂ ⟨hle, O₂, T₂⟩
    refine SX.nil ?_
    rw [List.length_map] at T₂
    replace T₂ : Tabs G a σ₂ (upd f u Y) cls (nF G f) (hc G.V (upd f u Y) (nF G f)) := T₂.congr (fun _ _ => rfl) (fun _ _ => rfl) (fun _ _ _ _ => rfl) fun c _ e he => by simp [he]
    refine SX.weaken (ρ₀ := ccρ a u X Y) ?_ hle (.refl _)
    refine SX.cons (S1.for_ hA (ITt.list (PE.sub_ hA (PE.name rfl) (PE.name rfl) (T₂.gL ok hu)) (T₂.adj u hu)) (fun i ρ' σ' => RLe (ccρ a u X Y) ρ' ∧ Off a.own σ σ' ∧
      Tabs G a σ' (upd f u Y) cls (fun w c => if w ∈ (G.adj u).take i then nF G (upd f u Y) w c else nF G f w c) (hc G.V (upd f u Y) (fun w c => if w ∈ (G.adj u).take i then nF G (upd f u Y) w c else nF G f w c))) ?_ ?_ ?_ ?_)
    · exact ⟨.refl _, O₂, T₂.congr (fun _ _ => rfl) (fun _ _ => rfl) (fun _ _ _ _ => by simp) (fun c _ e _ => by simp)⟩
    · rintro i ρ' σ' _ ⟨_, _, T'⟩; exact T'.adj u hu
    · rintro i av ρ₁ σ₃ P' hi ⟨hle, O₃, T₃⟩
      obtain ⟨v, hv, rfl⟩ := getElem?_ints hi
      have hvA : v ∈ G.adj u := List.mem_of_getElem? hv
      have hvV := g.sub u hu v hvA
      have hvn := not_mem_take (g.anodup u hu) hv
      have hmt := mem_take_succ hv
      replace hA : Rm ((calleeCx A B P (FD 4 pm cd doc dV kV) L fa).pinned P').A m := hA
      have huv : v ≠ u := by rintro rfl; exact g.irr v hu hvA
      have hfv : upd f u Y v = f v := by simp [upd, huv]
      have hat := nF_at g (f := f) (Y := Y) hu hvA
      have hpos := nF_pos g (f := f) hu hvA
      rw [hX] at hpos
      have hnY := nF_nonneg G f v Y
      have hfvK := hfK v hvV
      obtain ⟨n₀, hn₀⟩ : ∃ n : Int → Int → Int, n = (fun w c => if w ∈ (G.adj u).take i then nF G (upd f u Y) w c else nF G f w c) := ⟨_, rfl⟩
      obtain ⟨n₁, hn₁⟩ : ∃ n : Int → Int → Int, n = (fun w c => if w ∈ (G.adj u).take (i + 1) then nF G (upd f u Y) w c else nF G f w c) := ⟨_, rfl⟩
      rw [← hn₀] at T₃
      have e1 : ∀ c, n₁ v c = nF G (upd f u Y) v c := fun c => by rw [hn₁]; simp [(hmt v).mpr (.inr rfl)]
      have e0 : ∀ c, n₀ v c = nF G f v c := fun c => by rw [hn₀]; simp [hvn]
      have eo : ∀ w ∈ G.V, w ≠ v → ∀ c, n₁ w c = n₀ w c := fun w _ hw c => by rw [hn₀, hn₁]; simp only [hmt w, hw, or_false]
      refine SX.weaken (ρ₀ := ("v", .int v) :: ccρ a u X Y) ?_ (hle.cons _ _) (.refl _)
      refine SX.cons (S1.augItem hA (PE.name rfl) (PE.pair (PE.name rfl) (PE.name rfl)) (T₃.gN ok hvV hXK) PE.int (.inr ⟨rfl, rfl⟩) (T₃.sN ok hvV hXK fun σ₄ T₄ O₄ => ?_))
      refine SX.cons (S1.augItem hA (PE.name rfl) (PE.pair (PE.name rfl) (PE.name rfl)) (T₄.gN ok hvV hYK) PE.int (.inl ⟨rfl, rfl⟩) (T₄.sN ok hvV hYK fun σ₅ T₅ O₅ => ?_))
      replace T₅ : Tabs G a σ₅ (upd f u Y) cls n₁ (hc G.V (upd f u Y) n₀) := T₅.congr (fun _ _ => rfl) (fun _ _ => rfl) (fun x hx y hy => by
        by_cases hxv : x = v
        · subst hxv
          rw [e1, hat y, e0, e0, e0, hX]
          by_cases h1 : y = Y
          · subst h1; simp [ib, hXY, hXY.symm]
          · by_cases h2 : y = X
            · subst h2; simp [ib, h1, Ne.symm h1]
            · simp [ib, h1, h2, Ne.symm h1, Ne.symm h2]
        · rw [eo x hx hxv y]; simp [hxv]) (fun _ _ _ _ => rfl)
      have hrow := hc_row g.nodup (f := upd f u Y) (n := n₀) (n' := n₁) hvV eo
      refine SX.cons (S1.iteN (PT.cmp (PE.sub_ hA (PE.name rfl) (PE.pair (PE.name rfl) (PE.name rfl)) (T₅.gN ok hvV hXK)) PE.int CP.eq)
        (fun ρ' σ' => ρ' = (("v", AV.int v) :: ccρ a u X Y : Rho) ∧ Off a.own σ σ' ∧ Tabs G a σ' (upd f u Y) cls n₁ (fun c e => hc G.V (upd f u Y) n₀ c e + (if c = f v ∧ e = X ∧ n₁ v X = 0 then 1 else 0))) (fun h0 => ?_) (fun h0 => ?_) fun ρ' σ' ⟨hρ, O₆, T₆⟩ => ?_)
      · have h0 : n₁ v X = 0 := of_decide_eq_true h0
        have gf := T₅.gF ok hvV
        rw [hfv] at gf
        refine SX.cons (S1.augItem hA (PE.name rfl) (PE.pair (PE.sub_ hA (PE.name rfl) (PE.name rfl) gf) (PE.name rfl)) (T₅.gH ok hfvK hXK) PE.int (.inl ⟨rfl, rfl⟩) (T₅.sH ok hfvK hXK fun σ₆ T₆ O₆ => ?_))
        refine SX.nil ⟨rfl, rfl, ((O₃.trans O₄).trans O₅).trans O₆, T₆.congr (fun _ _ => rfl) (fun _ _ => rfl) (fun _ _ _ _ => rfl) fun c _ e _ => ?_⟩
        by_cases hce : c = f v ∧ e = X
        · obtain ⟨rfl, rfl⟩ := hce; simp [h0]
        · have : ¬ (c = f v ∧ e = X ∧ n₁ v X = 0) := fun h => hce ⟨h.1, h.2.1⟩
          simp [hce, this]
      · have h0 : n₁ v X ≠ 0 := of_decide_eq_false h0
        exact SX.nil ⟨rfl, rfl, (O₃.trans O₄).trans O₅, T₅.congr (fun _ _ => rfl) (fun _ _ => rfl) (fun _ _ _ _ => rfl) fun c _ e _ => by simp [h0]⟩
      · subst hρ
        have final : ∀ σ₇, Off a.own σ σ₇ → Tabs G a σ₇ (upd f u Y) cls n₁ (fun c e => hc G.V (upd f u Y) n₀ c e + (if c = f v ∧ e = X ∧ n₁ v X = 0 then 1 else 0) - (if c = f v ∧ e = Y ∧ n₁ v Y = 1 then 1 else 0)) →
            RLe (ccρ a u X Y) (("v", AV.int v) :: ccρ a u X Y) ∧ Off a.own σ σ₇ ∧ Tabs G a σ₇ (upd f u Y) cls (fun w c => if w ∈ (G.adj u).take (i + 1) then nF G (upd f u Y) w c else nF G f w c) (hc G.V (upd f u Y) (fun w c => if w ∈ (G.adj u).take (i + 1) then nF G (upd f u Y) w c else nF G f w c)) := fun σ₇ O₇ T₇ => by
          rw [← hn₁]
          refine ⟨(RLe.refl _).skip _, O₇, T₇.congr (fun _ _ => rfl) (fun _ _ => rfl) (fun _ _ _ _ => rfl) fun c _ e _ => ?_⟩
          rw [hrow c e, hfv, e1, e1, e1, e0, hat X, hat Y, hat e, hX]
          by_cases hc1 : f v = c
          · subst hc1
            by_cases h1 : e = X
            · subst h1
              have k0 : ¬ nF G f v e = 0 := by omega
              simp [ib, hXY, hXY.symm, k0, Int.sub_eq_zero]
              
            · by_cases h2 : e = Y
              · subst h2
                have k1 : ¬ nF G f v e + 1 = 0 := by omega
                by_cases k2 : nF G f v e = 0
                · simp [ib, h1, Ne.symm h1, k1, k2]; omega
                · have k3 : ¬ nF G f v e + 1 = 1 := by omega
                  simp [ib, h1, Ne.symm h1, k1, k2, k3]
              · simp [ib, h1, h2, Ne.symm h1, Ne.symm h2]
          · have h3 : ¬ c = f v := fun h => hc1 h.symm
            simp [hc1, h3]
        refine SX.cons (S1.iteB (PT.cmp (PE.sub_ hA (PE.name rfl) (PE.pair (PE.name rfl) (PE.name rfl)) (T₆.gN ok hvV hYK)) PE.int CP.eq) (fun h0 => ?_) (fun h0 => ?_))
        · have h0 : n₁ v Y = 1 := of_decide_eq_true h0
          have gf := T₆.gF ok hvV
          rw [hfv] at gf
          refine SX.cons (S1.augItem hA (PE.name rfl) (PE.pair (PE.sub_ hA (PE.name rfl) (PE.name rfl) gf) (PE.name rfl)) (T₆.gH ok hfvK hYK) PE.int (.inr ⟨rfl, rfl⟩) (T₆.sH ok hfvK hYK fun σ₇ T₇ O₇ => ?_))
          refine SX.nil (SX.nil (final σ₇ (O₆.trans O₇) (T₇.congr (fun _ _ => rfl) (fun _ _ => rfl) (fun _ _ _ _ => rfl) fun c _ e _ => ?_)))
          by_cases hce : c = f v ∧ e = Y
          · obtain ⟨rfl, rfl⟩ := hce; simp [h0]
          · have : ¬ (c = f v ∧ e = Y ∧ n₁ v Y = 1) := fun h => hce ⟨h.1, h.2.1⟩
            simp [hce, this]
        · have h0 : n₁ v Y ≠ 1 := of_decide_eq_false h0
          exact SX.nil (SX.nil (final σ' O₆ (T₆.congr (fun _ _ => rfl) (fun _ _ => rfl) (fun _ _ _ _ => rfl) fun c _ e _ => by simp [h0])))
    · rintro ρ₁ σ₃ ⟨hle, O₃, T₃⟩
      refine SX.nil ?_
      rw [List.length_map, List.take_length] at T₃
      have en : ∀ w ∈ G.V, ∀ c, (if w ∈ G.adj u then nF G (upd f u Y) w c else nF G f w c) = nF G (upd f u Y) w c := fun w hw c => by
        split
        · rfl
        · rename_i hn; exact (nF_off g hu hw hn c).symm
      replace T₃ : Tabs G a σ₃ (upd f u Y) cls (nF G (upd f u Y)) (hc G.V (upd f u Y) (nF G (upd f u Y))) :=
        T₃.congr (fun _ _ => rfl) (fun _ _ => rfl) (fun v hv c _ => (en v hv c).symm) fun c _ e _ => (hc_congr fun w hw => en w hw e).symm
      refine SX.weaken (ρ₀ := ccρ a u X Y) ?_ hle (.refl _)
      refine SX.cons (S1.expr (EV.meth (T := "list") (id := "list.remove") (R := fun av σ' => av = .ref (a.lc X) ∧ σ' = σ₃) ((PE.sub_ hA (PE.name rfl) (PE.name rfl) (T₃.gC ok hXK)).ev ⟨rfl, rfl⟩) F.plainAttrs_list F.slot_list_remove F.type_list_remove fun av σ' ⟨e1, e2⟩ => ?_))
      subst e1 e2
      have hlX := (T₃.cls X hXK).1
      refine ⟨.list hlX, [.int u], .cons (PE.name rfl) (fun _ => rfl) .nil, BC.remove hlX (by have := (T₃.cls X hXK).2; omega) hcl ?_⟩
      have T₄ := T₃.setC ok hXK (l := (cls X).erase u) (Nat.le_trans (List.length_erase_le) (T₃.cls X hXK).2)
      have O₄ : Off a.own σ (σ'.setL (a.lc X) (((cls X).erase u).map AV.int)) := O₃.trans (.setL _ (.inr (.inr (.inr ⟨X, hXK, rfl⟩))))
      generalize σ'.setL (a.lc X) (((cls X).erase u).map AV.int) = σ₄ at T₄ O₄ ⊢
      refine SX.cons (S1.expr (EV.meth (T := "list") (id := "list.append") (R := fun av σ' => av = .ref (a.lc Y) ∧ σ' = σ₄) ((PE.sub_ hA (PE.name rfl) (PE.name rfl) (T₄.gC ok hYK)).ev ⟨rfl, rfl⟩) F.plainAttrs_list F.slot_list_append F.type_list_append fun av σ' ⟨e1, e2⟩ => ?_))
      subst e1 e2
      have hlY := (T₄.cls Y hYK).1
      simp only [hXY.symm, if_false] at hlY
      refine ⟨.list hlY, [.int u], .cons (PE.name rfl) (fun _ => rfl) .nil, BC.append hlY (by have := hz Y hYK; rw [List.length_map]; omega) ?_⟩
      have T₅ := T₄.setC ok hYK (l := cls Y ++ [u]) (by have := hz Y hYK; simp; omega)
      rw [List.map_append] at T₅
      exact SX.nil (q _ _ T₅ (O₄.trans (.setL _ (.inr (.inr (.inr ⟨Y, hYK, rfl⟩))))))
end
end Mine

/-! P4 -/
namespace Mine

/-- a def of the text, where it stands -/
structure Fn (B : Basis) (i : Nat) (fa : Addr) (cd dV : Value) : Prop where
  fn : ∃ pm doc, FnF B (stName (stAt i)) fa (FD i pm cd doc dV .none) (stBody (stAt i))

section
variable {prog : Program} {w : World} {A : Around} {B : Basis} {σ : AH} {G : Gr} {a : Nm} {f : Int → Int} {cls : Int → List Int}

theorem callOK {i n : Nat} {fa : Addr} {cd dV : Value} {avs : List AV} {kws ρ' : Rho} {Q : AV → AH → Prop} (F : Fn B i fa cd dV) (hA : Rm A (n + 1)) (hB : B.OK)
    (hbind : ∀ pm doc s vals kw P, Core prog w B P σ s → VRs s.heap vals avs → BRep s.heap kw kws → ∃ binds, BindsTo s (FD i pm cd doc dV .none) ⟨vals, kw⟩ binds ∧ BRep s.heap binds ρ')
    (hbody : ∀ pm doc P L, Rm (calleeCx A B P (FD i pm cd doc dV .none) L fa).A n → SX prog w (calleeCx A B P (FD i pm cd doc dV .none) L fa) ρ' σ (stBody (stAt i)) (fun fl _ σ' => match fl with | .ret v => Q v σ' | _ => Q .none σ'))
    (hn : decide ((ρ'.map (·.1)).Nodup) = true := by rfl)
    (hks : ((ρ'.map (·.1)).all fun x => (stScope (stAt i)).names.lookup x == some .local || (stScope (stAt i)).names.lookup x == some .cell) = true := by rfl)
    (hf : noFree (stScope (stAt i)) = true := by rfl) (hco : (stScope (stAt i)).isCoroutine = false := by rfl) (hgen : (stScope (stAt i)).isGenerator = false := by rfl) (hk : (stScope (stAt i)).kind = .function := by rfl) :
    CallOK prog w B A (.ref fa) σ avs kws Q := fun P s vals kw C hv hkw => by
  obtain ⟨pm, doc, F⟩ := F.fn
  obtain ⟨binds, hb, hr⟩ := hbind pm doc s vals kw P C hv hkw
  refine call_fn hA hB F C hb hr (of_decide_eq_true hn) (fun x hx => ?_) (fun L => hbody pm doc P L) hf hco hgen hk
  have := List.all_eq_true.mp hks x hx
  show (stScope (stAt i)).names.lookup x = _ ∨ (stScope (stAt i)).names.lookup x = _
  simpa using this

theorem BRep.inv0 {h : Heap} {bs} (x : BRep h bs []) : bs = [] := by cases x; rfl
theorem VRs.inv0 {h : Heap} {vs} (x : VRs h vs []) : vs = [] := by cases x; rfl
theorem VRs.invc {h : Heap} {vs a as} (x : VRs h vs (a :: as)) : ∃ v vs', vs = v :: vs' ∧ VR h v a ∧ VRs h vs' as := by cases x with | cons h1 h2 => exact ⟨_, _, rfl, h1, h2⟩
theorem BRep.invc {h : Heap} {bs n a as} (x : BRep h bs ((n, a) :: as)) : ∃ v bs', bs = (n, v) :: bs' ∧ VR h v a ∧ BRep h bs' as := by cases x with | cons h1 h2 => exact ⟨_, _, rfl, h1, h2⟩

/-- a state of the colouring -/
structure Good (G : Gr) (a : Nm) (σ : AH) (f : Int → Int) (cls : Int → List Int) : Prop where
  tabs : Tabs G a σ f cls (nF G f) (hc G.V f (nF G f))
  fK : ∀ v ∈ G.V, f v ∈ a.dC.keys
  mem : ∀ c ∈ a.dC.keys, ∀ v, v ∈ cls c ↔ v ∈ G.V ∧ f v = c
  nodup : ∀ c ∈ a.dC.keys, (cls c).Nodup

theorem length_le_of_nodup {l m : List Int} (h1 : l.Nodup) (h2 : ∀ x ∈ l, x ∈ m) : l.length ≤ m.length := by
  induction l generalizing m with
  | nil => simp
  | cons x xs ih =>
    rw [List.nodup_cons] at h1
    have hx : x ∈ m := h2 x (.head _)
    have := ih (m := m.erase x) h1.2 fun y hy => (List.mem_erase_of_ne (by rintro rfl; exact h1.1 hy)).mpr (h2 y (.tail _ hy))
    rw [List.length_erase_of_mem hx] at this
    have : 0 < m.length := List.length_pos_of_mem hx
    simp; omega

/-- the classes after a recolouring -/
def reC (cls : Int → List Int) (u X Y : Int) : Int → List Int := fun c => if c = Y then cls Y ++ [u] else if c = X then (cls X).erase u else cls c
theorem Good.re {X Y u : Int} {σ' : AH} (S : Good G a σ f cls) (hu : u ∈ G.V) (hX : f u = X) (hY : Y ∈ a.dC.keys) (hXY : X ≠ Y)
    (T : Tabs G a σ' (upd f u Y) (reC cls u X Y) (nF G (upd f u Y)) (hc G.V (upd f u Y) (nF G (upd f u Y)))) : Good G a σ' (upd f u Y) (reC cls u X Y) where
  tabs := T
  fK := fun v hv => by unfold upd; split; exact hY; exact S.fK v hv
  mem := fun c hc v => by
    have hXK : X ∈ a.dC.keys := hX ▸ S.fK u hu
    unfold reC upd
    by_cases h1 : c = Y
    · subst h1
      simp only [if_true, List.mem_append, List.mem_singleton, S.mem c hc v]
      by_cases hv : v = u
      · subst hv; simp [hu]
      · simp [hv]
    · simp only [h1, if_false]
      by_cases h2 : c = X
      · subst h2
        simp only [if_true]
        rw [List.Nodup.mem_erase_iff (S.nodup c hc), S.mem c hc v]
        by_cases hv : v = u
        · subst hv; simp [Ne.symm h1]
        · simp [hv]
      · simp only [h2, if_false, S.mem c hc v]
        by_cases hv : v = u
        · subst hv; simp [hX, Ne.symm h2, Ne.symm h1]
        · simp [hv]
  nodup := fun c hc => by
    unfold reC
    split
    · rename_i h; subst h
      rw [List.nodup_append]
      refine ⟨S.nodup c hc, by simp, fun x hx y hy => ?_⟩
      rw [List.mem_singleton] at hy; subst hy
      rintro rfl
      have := ((S.mem c hc x).mp hx).2
      rw [hX] at this; exact hXY this
    · split
      · rename_i h; subst h; exact (S.nodup c hc).erase u
      · exact S.nodup c hc
theorem Good.len (S : Good G a σ f cls) {c : Int} (hc : c ∈ a.dC.keys) : (cls c).length ≤ G.V.length :=
  length_le_of_nodup (S.nodup c hc) fun x hx => ((S.mem c hc x).mp hx).1

/-- change_color -/
theorem cc_ok {n : Nat} {fa : Addr} {cd : Value} {u X Y : Int} {Q : AV → AH → Prop} (F : Fn B 4 fa cd .none) (hA : Rm A (n + 1)) (hB : B.OK) (g : G.OK) (ok : a.OK G) (S : Good G a σ f cls) (hV : G.V.length ≤ 900)
    (hu : u ∈ G.V) (hX : f u = X) (hYK : Y ∈ a.dC.keys) (hXY : X ≠ Y)
    (q : ∀ σ', Good G a σ' (upd f u Y) (reC cls u X Y) → Off a.own σ σ' → Q .none σ') :
    CallOK prog w B A (.ref fa) σ [.int u, .int X, .int Y] [("N", .ref a.N), ("H", .ref a.H), ("F", .ref a.F), ("C", .ref a.C), ("L", .ref a.L)] Q ∧
    CallOK prog w B A (.ref fa) σ [.int u, .int X, .int Y, .ref a.N, .ref a.H, .ref a.F, .ref a.C, .ref a.L] [] Q := by
  have hXK : X ∈ a.dC.keys := hX ▸ S.fK u hu
  have body : ∀ pm doc P L, Rm (calleeCx A B P (FD 4 pm cd doc .none .none) L fa).A n → SX prog w (calleeCx A B P (FD 4 pm cd doc .none .none) L fa) (ccρ a u X Y) σ (stBody (stAt 4)) (fun fl _ σ' => match fl with | .ret v => Q v σ' | _ => Q .none σ') :=
    fun pm doc P L hA => cc_body hA g ok S.tabs hu hX hXK hYK hXY S.fK ((S.mem X hXK u).mpr ⟨hu, hX⟩) (fun c hc => Nat.le_trans (S.len hc) hV) fun ρ' σ' T O => q σ' (S.re hu hX hYK hXY T) O
  constructor
  · refine callOK (ρ' := ccρ a u X Y) F hA hB (fun pm doc s vals kw P C hv hk => ?_) body
    obtain ⟨v1, _, rfl, r1, hv⟩ := hv.invc
    obtain ⟨v2, _, rfl, r2, hv⟩ := hv.invc
    obtain ⟨v3, _, rfl, r3, hv⟩ := hv.invc
    cases hv.inv0
    obtain ⟨v4, _, rfl, r4, hk⟩ := hk.invc
    obtain ⟨v5, _, rfl, r5, hk⟩ := hk.invc
    obtain ⟨v6, _, rfl, r6, hk⟩ := hk.invc
    obtain ⟨v7, _, rfl, r7, hk⟩ := hk.invc
    obtain ⟨v8, _, rfl, r8, hk⟩ := hk.invc
    cases hk.inv0
    exact ⟨_, .of_eq rfl, .cons r1 (.cons r2 (.cons r3 (.cons r4 (.cons r5 (.cons r6 (.cons r7 (.cons r8 .nil)))))))⟩
  · refine callOK (ρ' := ccρ a u X Y) F hA hB (fun pm doc s vals kw P C hv hk => ?_) body
    obtain ⟨v1, _, rfl, r1, hv⟩ := hv.invc
    obtain ⟨v2, _, rfl, r2, hv⟩ := hv.invc
    obtain ⟨v3, _, rfl, r3, hv⟩ := hv.invc
    obtain ⟨v4, _, rfl, r4, hv⟩ := hv.invc
    obtain ⟨v5, _, rfl, r5, hv⟩ := hv.invc
    obtain ⟨v6, _, rfl, r6, hv⟩ := hv.invc
    obtain ⟨v7, _, rfl, r7, hv⟩ := hv.invc
    obtain ⟨v8, _, rfl, r8, hv⟩ := hv.invc
    cases hv.inv0
    cases hk.inv0
    exact ⟨_, .of_eq rfl, .cons r1 (.cons r2 (.cons r3 (.cons r4 (.cons r5 (.cons r6 (.cons r7 (.cons r8 .nil)))))))⟩
end
end Mine

/-! P5 -/
namespace Mine
section
variable {prog : Program} {w : World} {c : Cx} {ρ : Rho} {σ : AH} {s s' : Shared}

/-- an item source that new lists leave alone -/
def SrcNew (σ : AH) (Src : AH → Prop) : Prop := ∀ D l, σ.Fresh D → Src (σ.setL D l)
theorem SrcNew.list {l : Addr} {items : List AV} (h : σ.list l = some items) : SrcNew σ (fun σ => σ.list l = some items) := fun D ys hD => by
  have : l ≠ D := by rintro rfl; rw [hD.1] at h; cases h
  simp [AH.setL, this, h]
theorem SrcNew.keys {d : Addr} {dd : DI} (h : σ.dI d = some dd) : SrcNew σ (fun σ => ∃ v, σ.dI d = some ⟨dd.keys, v, dd.ep⟩) := fun D ys hD => ⟨dd.val, h⟩
theorem SrcNew.true : SrcNew σ (fun _ => True) := fun _ _ _ => trivial

/-- [x for x in ints if test] -/
theorem EC.filter {iter test : Expr} {x : Str} {px pe pos : Pos} {scope : Scope} {xs : List Int} {Src : AH → Prop} {n : Nat} (p : Int → Bool) {Q : AV → AH → Prop} (hA : Rm c.A n)
    (hit : ITt prog w c ρ σ (eval iter c.env) (xs.map AV.int) Src) (hS : SrcNew σ Src) (hz : xs.length ≤ 1000)
    (htest : ∀ D ys L P' k, Nw σ D → k ∈ xs → PT prog w (compCx c scope L P') ((x, .int k) :: capt scope ρ) (σ.setL D ys) test (p k))
    (q : ∀ D, Nw σ D → Q (.ref D) (σ.setL D ((xs.filter p).map AV.int)))
    (hv : ∀ L P', isVar (compCx c scope L P').env x = true := by intro _ _; rfl)
    (hok : compOK scope c.env = true := by rfl) (hx : (scope.names.lookup x == some .local || scope.names.lookup x == some .cell) = true := by rfl) (hs : ∀ x, foldedSetIterable iter c.env x = pure x := by intro _; rfl)
    (hd : (x == ("__classdict__" : Str)) = false := by decide) (hd' : (x == ("__debug__" : Str)) = false := by decide) :
    EC prog w c ρ σ (.ListComp (.Name x pe) [⟨.Name x px, iter, [test], 0⟩] scope pos) Q := by
  refine EC.listComp hA hit (fun D i σ₁ => Nw σ D ∧ σ₁ = σ.setL D (((xs.take i).filter p).map AV.int)) (fun D hD => ⟨hD, rfl⟩) (fun D i σ₁ _ ⟨hD, e⟩ => e ▸ hS D _ hD.fresh) (fun D L P' i av σ₁ hi ⟨hD, e⟩ => ?_) (fun D σ₁ hD ⟨_, e⟩ => ?_) hok hx hs
  · subst e
    obtain ⟨k, hk, rfl⟩ := getElem?_ints hi
    have ht : xs.take (i + 1) = xs.take i ++ [k] := by rw [List.take_add_one, hk]; rfl
    refine ⟨p k, PTl.one (htest D _ L P' k hD (List.mem_of_getElem? hk)), ?_⟩
    cases hp : p k with
    | false =>
      simp only [Bool.false_eq_true, if_false]
      exact ⟨hD, by rw [ht, List.filter_append]; simp [hp]⟩
    | true =>
      simp only [if_true]
      refine (PE.name lookup_cons_self (hv L P') hd hd').ev ⟨((xs.take i).filter p).map AV.int, by simp [AH.setL], ?_, hD, ?_⟩
      · rw [List.length_map]
        refine Nat.le_trans (List.length_filter_le _ _) (Nat.le_trans (List.length_take_le' _ _) (by omega))
      · rw [ht, List.filter_append, List.map_append]
        simp only [hp, List.filter_cons_of_pos, List.filter_nil, List.map_cons, List.map_nil, AH.setL, AH.mk.injEq, and_true]
        funext b
        by_cases hb : b = D <;> simp [hb]
  · subst e
    rw [List.length_map, List.take_length]
    exact q D hD
end

section
variable {G : Gr} {a : Nm} {σ : AH} {f : Int → Int} {cls : Int → List Int} {n h : Int → Int → Int}
def Nm.all (G : Gr) (a : Nm) (b : Addr) : Prop := b = a.F ∨ b = a.C ∨ b = a.L ∨ b = a.N ∨ b = a.H ∨ (∃ c ∈ a.dC.keys, b = a.lc c) ∨ ∃ v ∈ G.V, b = a.ll v
theorem Tabs.known (T : Tabs G a σ f cls n h) {b : Addr} (hb : a.all G b) : ¬ σ.Fresh b := fun fr => by
  rcases hb with rfl | rfl | rfl | rfl | rfl | ⟨c, hc, rfl⟩ | ⟨v, hv, rfl⟩
  · obtain ⟨d, e, _⟩ := T.F; rw [fr.2.1] at e; cases e
  · have e := T.C; rw [fr.2.1] at e; cases e
  · have e := T.L; rw [fr.2.1] at e; cases e
  · obtain ⟨d, e, _⟩ := T.N; rw [fr.2.2.1] at e; cases e
  · obtain ⟨d, e, _⟩ := T.H; rw [fr.2.2.1] at e; cases e
  · have e := (T.cls c hc).1; rw [fr.1] at e; cases e
  · have e := T.adj v hv; rw [fr.1] at e; cases e
theorem Tabs.apart {σ' : AH} {X : Addr → Prop} (T : Tabs G a σ f cls n h) (o : Off X σ σ') (hX : ∀ b, X b → ¬ a.all G b) : Tabs G a σ' f cls n h :=
  T.off o (fun x => hX _ x (.inl rfl)) (fun x => hX _ x (.inr (.inl rfl))) (fun x => hX _ x (.inr (.inr (.inl rfl)))) (fun x => hX _ x (.inr (.inr (.inr (.inl rfl))))) (fun x => hX _ x (.inr (.inr (.inr (.inr (.inl rfl))))))
    (fun c hc x => hX _ x (.inr (.inr (.inr (.inr (.inr (.inl ⟨c, hc, rfl⟩))))))) (fun v hv x => hX _ x (.inr (.inr (.inr (.inr (.inr (.inr ⟨v, hv, rfl⟩)))))))
theorem Good.apart {σ' : AH} {X : Addr → Prop} (S : Good G a σ f cls) (o : Off X σ σ') (hX : ∀ b, X b → ¬ a.all G b) : Good G a σ' f cls := { S with tabs := S.tabs.apart o hX }
theorem Good.newL (S : Good G a σ f cls) {D : Addr} (hD : σ.Fresh D) (l) : Good G a (σ.setL D l) f cls := S.apart (.setL (X := (· = D)) σ rfl) fun b e hb => S.tabs.known hb (e ▸ hD)
theorem Good.newD (S : Good G a σ f cls) {D : Addr} (hD : σ.Fresh D) (l) : Good G a (σ.setD D l) f cls := S.apart (.setD (X := (· = D)) σ rfl) fun b e hb => S.tabs.known hb (e ▸ hD)
theorem Good.newP (S : Good G a σ f cls) {D : Addr} (hD : σ.Fresh D) (l) : Good G a (σ.setP D l) f cls := S.apart (.setP (X := (· = D)) σ rfl) fun b e hb => S.tabs.known hb (e ▸ hD)
theorem Good.newS (S : Good G a σ f cls) {D : Addr} (hD : σ.Fresh D) (l k) : Good G a (σ.setS D l k) f cls := S.apart (.setS (X := (· = D)) σ rfl) fun b e hb => S.tabs.known hb (e ▸ hD)
theorem Nm.own_all {b : Addr} (h : a.own b) : a.all G b := by
  rcases h with rfl | rfl | rfl | ⟨c, hc, rfl⟩
  · exact .inl rfl
  · exact .inr (.inr (.inr (.inl rfl)))
  · exact .inr (.inr (.inr (.inr (.inl rfl))))
  · exact .inr (.inr (.inr (.inr (.inr (.inl ⟨c, hc, rfl⟩)))))

/-- another colour's counts stay -/
theorem nF_other {G : Gr} {f : Int → Int} {u d : Int} (v e : Int) (h1 : e ≠ f u) (h2 : e ≠ d) : nF G (upd f u d) v e = nF G f v e := by
  unfold nF cnt
  refine countP_none fun x _ => ?_
  unfold upd
  split
  · rename_i hx; subst hx
    have e1 : (d == e) = false := by simpa using Ne.symm h2
    have e2 : (f x == e) = false := by simpa using Ne.symm h1
    rw [e1, e2]
  · rfl

/-- a path of colours along which nodes can move -/
inductive Path (G : Gr) (K : List Int) (f : Int → Int) : List Int → Prop
  | one {c} : c ∈ K → Path G K f [c]
  | cons {c d r} : c ∈ K → c ∉ d :: r → (∃ x ∈ G.V, f x = c ∧ nF G f x d = 0) → Path G K f (d :: r) → Path G K f (c :: d :: r)
theorem Path.head {K : List Int} {c r} (p : Path G K f (c :: r)) : c ∈ K := by cases p <;> assumption
theorem Path.step {K : List Int} {u c d : Int} (hu : f u = c) : ∀ {l : List Int}, Path G K f l → c ∉ l → (l.tail.all (· != d)) = true → Path G K (upd f u d) l := by
  intro l p
  induction p with
  | one h => intro _ _; exact .one h
  | @cons c' d' r h1 h2 h3 _ ih =>
    intro hn hd
    obtain ⟨x, hx, hfx, hnx⟩ := h3
    simp only [List.tail_cons, List.all_cons, Bool.and_eq_true, bne_iff_ne, ne_eq] at hd
    have hd' : (r.all (· != d)) = true := hd.2
    refine .cons h1 h2 ⟨x, hx, ?_, ?_⟩ (ih (fun h => hn (.tail _ h)) hd')
    · have : x ≠ u := by
        rintro rfl
        rw [hu] at hfx
        exact hn (hfx ▸ .head _)
      simp [upd, this, hfx]
    · rw [nF_other x d' (by rw [hu]; rintro rfl; exact hn (.tail _ (.head _))) hd.1]; exact hnx
/-- nodes moved along a path -/
inductive Moves (G : Gr) : (Int → Int) → List Int → (Int → Int) → Prop
  | nil {f c} : Moves G f [c] f
  | cons {f c d r f'} (u) : u ∈ G.V → f u = c → c ≠ d → nF G f u d = 0 → Moves G (upd f u d) (d :: r) f' → Moves G f (c :: d :: r) f'
end
end Mine

/-! P6 -/
namespace Mine
section
variable {prog : Program} {w : World} {c : Cx} {ρ : Rho} {σ : AH} {s s' : Shared}
/-- while, what is known of the names told anew at each turn -/
theorem S1.whileR {test : Expr} {body orelse : List Stmt} {pos : Pos} {Q : AF → Rho → AH → Prop} (Inv : Nat → Rho → AH → Prop) (n : Nat) (h0 : Inv n ρ σ)
    (step : ∀ k ρ₁ σ₁, Inv k ρ₁ σ₁ → ∃ b, PT prog w c ρ₁ σ₁ test b ∧
      if b = true then SX prog w c ρ₁ σ₁ body (fun f ρ₂ σ₂ => match f with | .next => ∃ m ρ', m < k ∧ RLe ρ' ρ₂ ∧ Inv m ρ' σ₂ | .cont => ∃ m ρ', m < k ∧ RLe ρ' ρ₂ ∧ Inv m ρ' σ₂ | .brk => Q .next ρ₂ σ₂ | .ret v => Q (.ret v) ρ₂ σ₂)
      else SX prog w c ρ₁ σ₁ orelse Q) : S1 prog w c ρ σ (.While test body orelse pos) Q := fun s S => by
  refine wpAny_While ?_
  refine codeAny_whileLoop (fun k s' => ∃ ρ₁ σ₁, St prog w c ρ₁ σ₁ s' ∧ Stab s.heap s'.heap ∧ Inv k ρ₁ σ₁) ?_ n ⟨ρ, σ, S, .refl _, h0⟩
  rintro k s' ⟨ρ₁, σ₁, S₁, st, hI⟩
  obtain ⟨b, ht, hb⟩ := step k ρ₁ σ₁ hI
  refine up (wpAny_mono (ht s' S₁) (fun ok s₂ ⟨eb, p₂⟩ => ?_) fun _ _ e => e)
  subst eb
  cases ok with
  | false =>
    simp only [Bool.false_eq_true, if_false] at hb ⊢
    refine up (wpAny_mono (hb s₂ p₂.st) (fun f s₃ h₃ => ?_) fun _ _ e => e)
    obtain ⟨af, ρ₂, σ₂, hf, S₃, st₃, q⟩ := h₃
    exact ⟨af, ρ₂, σ₂, hf, S₃, (st.trans p₂.stab).trans st₃, q⟩
  | true =>
    simp only [if_true] at hb ⊢
    refine up (wpAny_mono (hb s₂ p₂.st) (fun f s₃ h₃ => ?_) fun _ _ e => e)
    obtain ⟨af, ρ₂, σ₂, hf, S₃, st₃, q⟩ := h₃
    have stt := (st.trans p₂.stab).trans st₃
    cases hf with
    | next => obtain ⟨m, ρ', hm, hl, hI'⟩ := q; exact ⟨m, hm, ρ', σ₂, S₃.weaken hl (.refl _), stt, hI'⟩
    | cont => obtain ⟨m, ρ', hm, hl, hI'⟩ := q; exact ⟨m, hm, ρ', σ₂, S₃.weaken hl (.refl _), stt, hI'⟩
    | brk => exact ⟨.next, ρ₂, σ₂, .next, S₃, stt, q⟩
    | ret hr => exact ⟨.ret _, ρ₂, σ₂, .ret hr, S₃, stt, q⟩
end

section
variable {prog : Program} {w : World} {A : Around} {B : Basis} {P : Pins} {pm doc : Value} {L : Addr} {σ : AH} {G : Gr} {a : Nm} {f : Int → Int} {cls : Int → List Int}

theorem Off.freshX {X : Addr → Prop} {σ σ' : AH} (o : Off X σ σ') (hX : ∀ b, σ.Fresh b → X b) {D : Addr} (hD : σ'.Fresh D) : X D := Classical.byContradiction fun h =>
  h (hX D ⟨(o.list D h).symm.trans hD.1, (o.dI D h).symm.trans hD.2.1, (o.dP D h).symm.trans hD.2.2.1, (o.set D h).symm.trans hD.2.2.2.1, (o.tab D h).symm.trans hD.2.2.2.2⟩)
/-- what a def may change: its own, and what was not known -/
def Nm.ownN (a : Nm) (σ : AH) (b : Addr) : Prop := a.own b ∨ σ.Fresh b
/-- the dict leads along the path -/
def TChain (d : DI) : List Int → Prop
  | c :: e :: r => c ∈ d.keys ∧ d.val c = .int e ∧ TChain d (e :: r)
  | _ => True

abbrev mwρ (a : Nm) (t : Addr) (src dst : Int) : Rho := [("src_color", .int src), ("dst_color", .int dst), ("N", .ref a.N), ("H", .ref a.H), ("F", .ref a.F), ("C", .ref a.C), ("T_cal", .ref t), ("L", .ref a.L)]

theorem mw_body {m : Nat} {fa fc : Addr} {cd cdc : Value} {t : Addr} {dT : DI} {src dst : Int} {path : List Int} {Q : AF → Rho → AH → Prop} (Fc : Fn B 4 fc cdc .none) (hA : Rm (calleeCx A B P (FD 5 pm cd doc .none .none) L fa).A (m + 1)) (hB : B.OK)
    (g : G.OK) (ok : a.OK G) (S : Good G a σ f cls) (hV : G.V.length ≤ 900) (ht : σ.dI t = some dT) (hto : ¬ a.own t) (p : Path G a.dC.keys f path) (hh : path.head? = some src) (hl : path.getLast? = some dst) (hT : TChain dT path)
    (q : ∀ ρ' σ' f' cls', Good G a σ' f' cls' → Off (a.ownN σ) σ σ' → Moves G f path f' → Q .next ρ' σ') :
    SX prog w (calleeCx A B P (FD 5 pm cd doc .none .none) L fa) (mwρ a t src dst) σ (stBody (stAt 5)) Q := by
  refine SX.cons (S1.assign ((PE.name rfl).ev ?_))
  refine SX.cons (S1.whileR (fun k ρ₁ σ₁ => ∃ c r f₁ cls₁, k = (c :: r).length ∧ ρ₁ = (("X", AV.int c) :: mwρ a t src dst : Rho) ∧ Good G a σ₁ f₁ cls₁ ∧ Off (a.ownN σ) σ σ₁ ∧ Path G a.dC.keys f₁ (c :: r) ∧ (c :: r).getLast? = some dst ∧ TChain dT (c :: r) ∧
    ∀ f', Moves G f₁ (c :: r) f' → Moves G f path f') path.length ?_ ?_)
  · cases path with
    | nil => cases hh
    | cons c r => cases hh; exact ⟨_, _, f, cls, rfl, rfl, S, .refl _ _, p, hl, hT, fun _ h => h⟩
  · rintro k _ σ₁ ⟨c, r, f₁, cls₁, rfl, rfl, S₁, O₁, p₁, hl₁, hT₁, hM⟩
    refine ⟨_, PT.cmp (PE.name rfl) (PE.name rfl) CP.ne, ?_⟩
    cases r with
    | nil =>
      simp only [List.getLast?_singleton, Option.some.injEq] at hl₁
      subst hl₁
      simp only [decide_true, Bool.not_true, Bool.false_eq_true, if_false]
      exact SX.nil (SX.nil (q _ _ _ _ S₁ O₁ (hM _ .nil)))
    | cons d r =>
      obtain ⟨k1, k2, hT₂⟩ := hT₁
      obtain ⟨x0, hx0, hfx0, hnx0, hcK, hcn, p₂⟩ : ∃ x, x ∈ G.V ∧ f₁ x = c ∧ nF G f₁ x d = 0 ∧ c ∈ a.dC.keys ∧ c ∉ d :: r ∧ Path G a.dC.keys f₁ (d :: r) := by
        cases p₁ with | cons h1 h2 h3 h4 => obtain ⟨x, a1, a2, a3⟩ := h3; exact ⟨x, a1, a2, a3, h1, h2, h4⟩
      have hne : c ≠ dst := by
        rintro rfl
        have : c ∈ d :: r := List.mem_of_getLast? (by simpa using hl₁)
        exact hcn this
      rw [if_pos (by simp [hne])]
      have htd : σ₁.dI t = some dT := (O₁.dI t (fun h => h.elim hto fun h => by rw [h.2.1] at ht; cases ht)).trans ht
      have gT : GI σ₁ (.ref t) (.int c) (.int d) := k2 ▸ GI.dI htd k1
      have hdK := p₂.head
      have hcd : c ≠ d := fun h => hcn (h ▸ .head _)
      refine SX.cons (S1.assign ((PE.sub_ hA (PE.name rfl) (PE.name rfl) gT).ev ?_))
      have hcl := S₁.tabs.cls c hcK
      refine SX.cons (S1.assign (EV.sub_ hA (R := fun av σ₂ => ∃ D, Nw σ₁ D ∧ av = .ref D ∧ σ₂ = σ₁.setL D (((cls₁ c).filter fun x => nF G f₁ x d == 0).map AV.int))
        (EC.filter (fun x => nF G f₁ x d == 0) hA (ITt.list (PE.sub_ hA (PE.name rfl) (PE.name rfl) (S₁.tabs.gC ok hcK)) hcl.1) (.list hcl.1) hcl.2 (fun D ys L' P' x hD hx => ?_) (fun D hD => ⟨D, hD, rfl, rfl⟩)).ev ?_))
      · have S₂ := S₁.newL hD.fresh ys
        have hxV := ((S₁.mem c hcK x).mp hx).1
        exact PT.cmp (PE.sub_ (by exact hA) (PE.name rfl) (PE.pair (PE.name rfl) (PE.name rfl)) (S₂.tabs.gN ok hxV hdK)) PE.int CP.eq
      · rintro _ _ ⟨D, hD, rfl, rfl⟩
        have hmem : x0 ∈ (cls₁ c).filter fun x => nF G f₁ x d == 0 := by
          rw [List.mem_filter]
          exact ⟨(S₁.mem c hcK x0).mpr ⟨hx0, hfx0⟩, by simp [hnx0]⟩
        obtain ⟨w0, rest, hw⟩ : ∃ w0 rest, ((cls₁ c).filter fun x => nF G f₁ x d == 0) = w0 :: rest := by
          cases e : ((cls₁ c).filter fun x => nF G f₁ x d == 0) with
          | nil => rw [e] at hmem; cases hmem
          | cons w0 rest => exact ⟨w0, rest, rfl⟩
        have hw0 : w0 ∈ (cls₁ c).filter fun x => nF G f₁ x d == 0 := hw ▸ .head _
        rw [List.mem_filter] at hw0
        obtain ⟨hwc, hwn⟩ := hw0
        obtain ⟨hwV, hfw⟩ := (S₁.mem c hcK w0).mp hwc
        have hwn : nF G f₁ w0 d = 0 := by simpa using hwn
        rw [hw]
        refine ⟨.int 0, .int w0, PE.int, .list (by simp [AH.setL]; rfl) (by decide) (by decide) rfl, ?_⟩
        have S₂ := S₁.newL hD.fresh ((w0 :: rest).map AV.int)
        have O₂ : Off (a.ownN σ) σ (σ₁.setL D ((w0 :: rest).map AV.int)) := O₁.trans (.setL _ (O₁.freshX (fun _ h => .inr h) hD.fresh))
        refine SX.cons (S1.expr (EV.call hB (Fc.fn.choose_spec.choose_spec) (.cons (PE.name rfl) (fun _ => rfl) (.cons (PE.name rfl) (fun _ => rfl) (.cons (PE.name rfl) (fun _ => rfl) .nil)))
          (.cons (PE.name rfl) (.cons (PE.name rfl) (.cons (PE.name rfl) (.cons (PE.name rfl) (.cons (PE.name rfl) .nil)))))
          (cc_ok Fc hA hB g ok S₂ hV hwV hfw hdK hcd fun σ₃ S₃ O₃ => ?_).1))
        refine SX.cons (S1.assign ((PE.name rfl).ev ?_))
        refine SX.nil ⟨(d :: r).length, (("X", AV.int d) :: mwρ a t src dst : Rho), by simp, ?_, d, r, _, _, rfl, rfl, S₃, ?_, ?_, ?_, hT₂, ?_⟩
        · exact (((RLe.refl _).skip _).skip _).skip _ |>.cons _ _
        · exact O₂.trans (O₃.mono fun b h => .inl h)
        · refine Path.step hfw p₂ hcn ?_
          cases p₂ with
          | one => rfl
          | cons h1 h2 h3 h4 =>
            simp only [List.tail_cons, List.all_eq_true, bne_iff_ne, ne_eq]
            rintro x hx rfl; exact h2 hx
        · simpa using hl₁
        · exact fun f' M => hM f' (.cons w0 hwV hfw hcd hwn M)
end
end Mine

/-! P7 -/
namespace Mine
section
variable {prog : Program} {w : World} {A : Around} {B : Basis} {P : Pins} {pm doc : Value} {L : Addr} {σ : AH} {G : Gr} {a : Nm} {f : Int → Int} {cls : Int → List Int}

set_option maxHeartbeats 4000000 in
theorem mw_ok {m : Nat} {fa fc : Addr} {cd cdc : Value} {t : Addr} {dT : DI} {src dst : Int} {path : List Int} {Q : AV → AH → Prop} (Fm : Fn B 5 fa cd .none) (Fc : Fn B 4 fc cdc .none) (hA : Rm A (m + 2)) (hB : B.OK)
    (g : G.OK) (ok : a.OK G) (S : Good G a σ f cls) (hV : G.V.length ≤ 900) (ht : σ.dI t = some dT) (hto : ¬ a.own t) (p : Path G a.dC.keys f path) (hh : path.head? = some src) (hl : path.getLast? = some dst) (hT : TChain dT path)
    (q : ∀ σ' f' cls', Good G a σ' f' cls' → Off (a.ownN σ) σ σ' → Moves G f path f' → Q .none σ') :
    CallOK prog w B A (.ref fa) σ [.int src, .int dst] [("N", .ref a.N), ("H", .ref a.H), ("F", .ref a.F), ("C", .ref a.C), ("T_cal", .ref t), ("L", .ref a.L)] Q ∧
    CallOK prog w B A (.ref fa) σ [] [("src_color", .int src), ("dst_color", .int dst), ("N", .ref a.N), ("H", .ref a.H), ("F", .ref a.F), ("C", .ref a.C), ("T_cal", .ref t), ("L", .ref a.L)] Q := by
  have body : ∀ pm doc P L, Rm (calleeCx A B P (FD 5 pm cd doc .none .none) L fa).A (m + 1) → SX prog w (calleeCx A B P (FD 5 pm cd doc .none .none) L fa) (mwρ a t src dst) σ (stBody (stAt 5)) (fun fl _ σ' => match fl with | .ret v => Q v σ' | _ => Q .none σ') :=
    fun pm doc P L hA => mw_body Fc hA hB g ok S hV ht hto p hh hl hT fun _ σ' f' cls' S' O M => q σ' f' cls' S' O M
  constructor
  · refine callOK (ρ' := mwρ a t src dst) Fm hA hB (fun pm doc s vals kw P C hv hk => ?_) body
    obtain ⟨v1, _, rfl, r1, hv⟩ := hv.invc
    obtain ⟨v2, _, rfl, r2, hv⟩ := hv.invc
    cases hv.inv0
    obtain ⟨v4, _, rfl, r4, hk⟩ := hk.invc
    obtain ⟨v5, _, rfl, r5, hk⟩ := hk.invc
    obtain ⟨v6, _, rfl, r6, hk⟩ := hk.invc
    obtain ⟨v7, _, rfl, r7, hk⟩ := hk.invc
    obtain ⟨v8, _, rfl, r8, hk⟩ := hk.invc
    obtain ⟨v9, _, rfl, r9, hk⟩ := hk.invc
    cases hk.inv0
    exact ⟨_, .of_eq rfl, .cons r1 (.cons r2 (.cons r4 (.cons r5 (.cons r6 (.cons r7 (.cons r8 (.cons r9 .nil)))))))⟩
  · refine callOK (ρ' := mwρ a t src dst) Fm hA hB (fun pm doc s vals kw P C hv hk => ?_) body
    cases hv.inv0
    obtain ⟨v1, _, rfl, r1, hk⟩ := hk.invc
    obtain ⟨v2, _, rfl, r2, hk⟩ := hk.invc
    obtain ⟨v4, _, rfl, r4, hk⟩ := hk.invc
    obtain ⟨v5, _, rfl, r5, hk⟩ := hk.invc
    obtain ⟨v6, _, rfl, r6, hk⟩ := hk.invc
    obtain ⟨v7, _, rfl, r7, hk⟩ := hk.invc
    obtain ⟨v8, _, rfl, r8, hk⟩ := hk.invc
    obtain ⟨v9, _, rfl, r9, hk⟩ := hk.invc
    cases hk.inv0
    exact ⟨_, .of_eq rfl, .cons r1 (.cons r2 (.cons r4 (.cons r5 (.cons r6 (.cons r7 (.cons r8 (.cons r9 .nil)))))))⟩
end
end Mine

/-! P8 -/
namespace Mine
theorem AH.setL_setL (σ : AH) (a : Addr) (l m : List AV) : (σ.setL a l).setL a m = σ.setL a m := by
  unfold AH.setL
  congr 1
  funext b
  by_cases h : b = a <;> simp [h]
theorem AH.setD_setD (σ : AH) (a : Addr) (l m : DI) : (σ.setD a l).setD a m = σ.setD a m := by
  unfold AH.setD
  congr 1
  funext b
  by_cases h : b = a <;> simp [h]
theorem AH.setD_self {σ : AH} {a : Addr} {d : DI} (h : σ.dI a = some d) : σ.setD a d = σ := by
  unfold AH.setD
  cases σ
  congr 1
  funext b
  by_cases e : b = a
  · subst e; simp; exact h.symm
  · simp [e]
theorem Recv.listL {σ : AH} {a : Addr} {l : List AV} : Recv (σ.setL a l) (.ref a) "list" := .list (xs := l) (by simp [AH.setL])

section
variable {prog : Program} {w : World} {A : Around} {B : Basis} {P : Pins} {pm cd doc dV : Value} {L fa : Addr} {σ : AH} {G : Gr} {a : Nm} {f : Int → Int} {cls : Int → List Int}

abbrev pρ (a : Nm) (vm vp : Int) (e : Addr) : Rho := [("V_minus", .int vm), ("V_plus", .int vp), ("N", .ref a.N), ("H", .ref a.H), ("F", .ref a.F), ("C", .ref a.C), ("L", .ref a.L), ("excluded_colors", .ref e)]
abbrev bρ (a : Nm) (vm vp : Int) (e ac t rc rq mk : Addr) (i : Nat) : Rho := ("idx", .int i) :: ("marked", .ref mk) :: ("reachable", .ref rq) :: ("R_cal", .ref rc) :: ("T_cal", .ref t) :: ("A_cal", .ref ac) :: pρ a vm vp e

abbrev nρ (a : Nm) (vm vp : Int) (e ac t rc rq mk nl : Addr) (pop : Int) (i : Nat) : Rho := ("next_layer", .ref nl) :: ("idx", .int ((i + 1 : Nat) : Int)) :: ("pop", .int pop) :: bρ a vm vp e ac t rc rq mk i

/-- what the search has found when i colours are taken from the queue -/
structure BS (G : Gr) (a : Nm) (f : Int → Int) (cls : Int → List Int) (σ₀ : AH) (E : Int → Bool) (e ac t rc rq mk : Addr) (vm : Int) (i : Nat) (R : List Int) (dT : DI) (σ : AH) : Prop where
  good : Good G a σ f cls
  off : Off σ₀.Fresh σ₀ σ
  hq : σ.list rq = some (R.map AV.int)
  hr : σ.list rc = some ((R.take i).map AV.int)
  ha : ∃ S, σ.set ac = some (S, i) ∧ ∀ c, S c = decide (c ∈ R.take i)
  hm : ∃ S n, σ.set mk = some (S, n) ∧ (∀ c, S c = decide (c ∈ R)) ∧ n ≤ R.length
  ht : σ.dI t = some dT
  he : ∃ n, σ.set e = some (E, n)
  le : i ≤ R.length
  nodup : R.Nodup
  sub : ∀ c ∈ R, c ∈ a.dC.keys
  head : R.head? = some vm
  tk : dT.keys.length ≤ R.length
  tree : ∀ j c, R[j]? = some c → 0 < j → c ∈ dT.keys ∧ ∃ j' p, j' < j ∧ R[j']? = some p ∧ dT.val c = .int p ∧ 0 < hc G.V f (nF G f) c p
  clos : ∀ p ∈ R.take i, ∀ c ∈ a.dC.keys, 0 < hc G.V f (nF G f) c p → c ∈ R ∨ E c = true

theorem bfs {m : Nat} {vm vp : Int} {e : Addr} {E : Int → Bool} {ne : Nat} {Q : AF → Rho → AH → Prop} (hA : Rm (calleeCx A B P (FD 6 pm cd doc dV .none) L fa).A (m + 1)) (hB : B.OK)
    (bset : B.mg "set" = none ∧ B.mb "set" = some (.type "set")) (blen : B.mg "len" = none ∧ B.mb "len" = some (.builtin "len"))
    (g : G.OK) (ok : a.OK G) (S : Good G a σ f cls) (hvm : vm ∈ a.dC.keys) (he : σ.set e = some (E, ne))
    (k : ∀ σ' R dT ac t rc rq mk, BS G a f cls σ E e ac t rc rq mk vm R.length R dT σ' → σ.Fresh t → σ.Fresh ac → SX prog w (calleeCx A B P (FD 6 pm cd doc dV .none) L fa) (bρ a vm vp e ac t rc rq mk R.length) σ' ((stBody (stAt 6)).drop 8) Q) :
    SX prog w (calleeCx A B P (FD 6 pm cd doc dV .none) L fa) (pρ a vm vp e) σ ((stBody (stAt 6)).drop 1) Q := by
  have pset : ∀ {ρ : Rho} {σ : AH} {pos : Pos}, PE prog w (calleeCx A B P (FD 6 pm cd doc dV .none) L fa) ρ σ (.Name "set" pos) (.val (.type "set")) := PE.builtin hB bset.1 bset.2
  have plen : ∀ {ρ : Rho} {σ : AH} {pos : Pos}, PE prog w (calleeCx A B P (FD 6 pm cd doc dV .none) L fa) ρ σ (.Name "len" pos) (.val (.builtin "len")) := PE.builtin hB blen.1 blen.2
  refine SX.cons (S1.assign (EV.set0 pset fun ac nac => ?_))
  refine SX.cons (S1.assign (EV.dict0 fun t nt => ?_))
  refine SX.cons (S1.assign (EV.listLit .nil (by simp) fun rc nrc => ?_))
  refine SX.cons (S1.assign (EV.listLit (.cons (PE.name rfl) (fun _ => rfl) .nil) (by simp) fun rq nrq => ?_))
  refine SX.cons (S1.assign (EV.call1 pset ((PE.name rfl).ev (Q := fun av σ' => av = .ref rq ∧ σ' = (((σ.setS ac (fun _ => false) 0).setD t ⟨[], fun _ => .none, 0⟩).setL rc []).setL rq [.int vm]) ⟨rfl, rfl⟩) (fun av σ' ⟨e1, e2⟩ => ?_) (.inr ⟨_, rfl⟩)))
  subst e1 e2
  refine BC.setList (xs := [vm]) hA (by simp [AH.setL]) (by simp) fun mk n1 nmk hn1 => ?_
  refine SX.cons (S1.assign (PE.int.ev ?_))
  -- the new objects are apart
  have o1 : Off σ.Fresh σ (σ.setS ac (fun _ => false) 0) := .setS σ nac.fresh
  have ft := o1.freshX (fun _ h => h) nt.fresh
  have o2 := o1.trans (.setD _ (l := ⟨[], fun _ => .none, 0⟩) ft)
  have frc := o2.freshX (fun _ h => h) nrc.fresh
  have o3 := o2.trans (.setL _ (l := []) frc)
  have frq := o3.freshX (fun _ h => h) nrq.fresh
  have o4 := o3.trans (.setL _ (l := [.int vm]) frq)
  have fmk := o4.freshX (fun _ h => h) nmk.fresh
  have o5 := o4.trans (.setS _ (l := fun k => [vm].contains k) (n := n1) fmk)
  have e_rq_rc : rq ≠ rc := by rintro rfl; have := nrq.fresh.1; simp [AH.setL] at this
  have e_mk_ac : mk ≠ ac := by rintro rfl; have := nmk.fresh.2.2.2.1; simp [AH.setL, AH.setD, AH.setS] at this
  have e_e_ac : e ≠ ac := by rintro rfl; have := nac.fresh.2.2.2.1; rw [he] at this; cases this
  have e_e_mk : e ≠ mk := by rintro rfl; have := fmk.2.2.2.1; rw [he] at this; cases this
  have S₅ := ((((S.newS nac.fresh (fun _ => false) 0).newD nt.fresh ⟨[], fun _ => .none, 0⟩).newL nrc.fresh []).newL nrq.fresh [.int vm]).newS nmk.fresh (fun k => [vm].contains k) n1
  have bs₀ : BS G a f cls σ E e ac t rc rq mk vm 0 [vm] ⟨[], fun _ => .none, 0⟩ (((((σ.setS ac (fun _ => false) 0).setD t ⟨[], fun _ => .none, 0⟩).setL rc []).setL rq [.int vm]).setS mk (fun k => [vm].contains k) n1) := {
    good := S₅, off := o5
    hq := by simp [AH.setL, AH.setS]
    hr := by simp [AH.setL, AH.setS, e_rq_rc.symm]
    ha := ⟨fun _ => false, by simp [AH.setL, AH.setS, AH.setD, e_mk_ac.symm], by simp⟩
    hm := ⟨fun k => [vm].contains k, n1, by simp [AH.setS], fun c => by simp, hn1⟩
    ht := by simp [AH.setL, AH.setS, AH.setD]
    he := ⟨ne, by simp [AH.setL, AH.setS, AH.setD, e_e_ac, e_e_mk, he]⟩
    le := Nat.zero_le _
    nodup := by simp
    sub := fun c hc => by simp at hc; exact hc ▸ hvm
    head := rfl
    tk := by simp
    tree := fun j c hj h0 => by
      cases j with
      | zero => omega
      | succ j => simp at hj
    clos := fun p hp => by simp at hp }
  generalize (((((σ.setS ac (fun _ => false) 0).setD t ⟨[], fun _ => .none, 0⟩).setL rc []).setL rq [.int vm]).setS mk (fun k => [vm].contains k) n1) = σ₅ at bs₀ ⊢
  refine SX.cons (S1.whileR (fun n ρ₁ σ₁ => ∃ i R dT, n = a.dC.keys.length - i ∧ ρ₁ = bρ a vm vp e ac t rc rq mk i ∧ BS G a f cls σ E e ac t rc rq mk vm i R dT σ₁) a.dC.keys.length ⟨0, [vm], _, rfl, rfl, bs₀⟩ ?_)
  rintro n ρ₁ σ₁ ⟨i, R, dT, rfl, rfl, bs⟩
  have hRl : R.length ≤ a.dC.keys.length := length_le_of_nodup bs.nodup bs.sub
  refine ⟨_, PT.cmp (PE.name rfl) (PE.len plen (PE.name rfl) (.inl ⟨rq, _, rfl, bs.hq, rfl⟩) (by have := ok.zk; simp; omega)) CP.lt, ?_⟩
  rw [List.length_map]
  by_cases hlt : i < R.length
  · rw [if_pos (by simpa using hlt)]
    obtain ⟨pop, hpop⟩ : ∃ p, R[i]? = some p := ⟨R[i], by simp [hlt]⟩
    have hpR : pop ∈ R := List.mem_of_getElem? hpop
    have hpK := bs.sub pop hpR
    have htake : R.take (i + 1) = R.take i ++ [pop] := by rw [List.take_add_one, hpop]; rfl
    have hpn := not_mem_take bs.nodup hpop
    refine SX.cons (S1.assign ((PE.sub_ hA (PE.name rfl) (PE.name rfl) (.list bs.hq (by omega) (by have := ok.zk; omega) (by simp [hpop]; rfl))).ev ?_))
    refine SX.cons (S1.augAdd rfl PE.int ?_)
    obtain ⟨Sa, hSa, hSa'⟩ := bs.ha
    refine SX.cons (S1.expr (EV.meth (T := "set") (id := "set.add") (R := fun av σ' => av = .ref ac ∧ σ' = σ₁) ((PE.name rfl).ev ⟨rfl, rfl⟩) F.plainAttrs_set F.slot_set_add F.type_set_add fun av σ' ⟨e1, e2⟩ => ?_))
    subst e1 e2
    refine ⟨.set hSa, [.int pop], .cons (PE.name rfl) (fun _ => rfl) .nil, BC.setAdd hSa (by have := ok.zk; omega) ?_⟩
    obtain ⟨Sm, nm, hSm, hSm', hnm⟩ := bs.hm
    obtain ⟨ne', hne'⟩ := bs.he
    have hSap : Sa pop = false := by rw [hSa']; simpa using hpn
    rw [hSap]
    simp only [Bool.false_eq_true, if_false]
    have good1 := bs.good.apart (.setS (X := (· = ac)) σ' (l := fun k => Sa k || decide (k = pop)) (n := i + 1) rfl) (fun b e hb => S.tabs.known hb (e ▸ nac.fresh))
    have off1 := bs.off.trans (.setS σ' (l := fun k => Sa k || decide (k = pop)) (n := i + 1) nac.fresh)
    have hr1 : (σ'.setS ac (fun k => Sa k || decide (k = pop)) (i + 1)).list rc = some ((R.take i).map AV.int) := bs.hr
    have hq1 : (σ'.setS ac (fun k => Sa k || decide (k = pop)) (i + 1)).list rq = some (R.map AV.int) := bs.hq
    have ha1 : (σ'.setS ac (fun k => Sa k || decide (k = pop)) (i + 1)).set ac = some (fun k => Sa k || decide (k = pop), i + 1) := by simp [AH.setS]
    have hm1 : (σ'.setS ac (fun k => Sa k || decide (k = pop)) (i + 1)).set mk = some (Sm, nm) := by simp [AH.setS, e_mk_ac, hSm]
    have ht1 : (σ'.setS ac (fun k => Sa k || decide (k = pop)) (i + 1)).dI t = some dT := bs.ht
    have he1 : (σ'.setS ac (fun k => Sa k || decide (k = pop)) (i + 1)).set e = some (E, ne') := by simp [AH.setS, e_e_ac, hne']
    generalize hSbd : (fun k => Sa k || decide (k = pop)) = Sb at ha1 hm1 ht1 he1 hr1 hq1 good1 off1 ⊢
    have hSb : ∀ c, Sb c = decide (c ∈ R.take (i + 1)) := fun c => by rw [← hSbd]; show (Sa c || decide (c = pop)) = _; rw [hSa', htake]; by_cases h1 : c ∈ R.take i <;> by_cases h2 : c = pop <;> simp [h1, h2]
    generalize σ'.setS ac Sb (i + 1) = σ₁ at ha1 hm1 ht1 he1 hr1 hq1 good1 off1 ⊢
    refine SX.cons (S1.expr (EV.meth (T := "list") (id := "list.append") (R := fun av σ' => av = .ref rc ∧ σ' = σ₁) ((PE.name rfl).ev ⟨rfl, rfl⟩) F.plainAttrs_list F.slot_list_append F.type_list_append fun av σ' ⟨e1, e2⟩ => ?_))
    subst e1 e2
    refine ⟨.list hr1, [.int pop], .cons (PE.name rfl) (fun _ => rfl) .nil, BC.append hr1 (by rw [List.length_map, List.length_take]; have := ok.zk; omega) ?_⟩
    have emap : (R.take i).map AV.int ++ [AV.int pop] = (R.take (i + 1)).map AV.int := by rw [htake, List.map_append]; rfl
    rw [emap]
    have good2 := good1.apart (.setL (X := (· = rc)) σ' (l := (R.take (i + 1)).map AV.int) rfl) (fun b e hb => S.tabs.known hb (e ▸ frc))
    have off2 := off1.trans (.setL σ' (l := (R.take (i + 1)).map AV.int) frc)
    have hr2 : (σ'.setL rc ((R.take (i + 1)).map AV.int)).list rc = some ((R.take (i + 1)).map AV.int) := by simp [AH.setL]
    have hq2 : (σ'.setL rc ((R.take (i + 1)).map AV.int)).list rq = some (R.map AV.int) := by simp [AH.setL, e_rq_rc, hq1]
    have ha2 : (σ'.setL rc ((R.take (i + 1)).map AV.int)).set ac = some (Sb, i + 1) := ha1
    have hm2 : (σ'.setL rc ((R.take (i + 1)).map AV.int)).set mk = some (Sm, nm) := hm1
    have ht2 : (σ'.setL rc ((R.take (i + 1)).map AV.int)).dI t = some dT := ht1
    have he2 : (σ'.setL rc ((R.take (i + 1)).map AV.int)).set e = some (E, ne') := he1
    generalize σ'.setL rc ((R.take (i + 1)).map AV.int) = σ₂ at good2 off2 hr2 hq2 ha2 hm2 ht2 he2 ⊢
    refine SX.cons (S1.assign (EV.listLit .nil (by simp) fun nl nnl => ?_))
    have fnl := off2.freshX (fun _ h => h) nnl.fresh
    have e_nl_rc : nl ≠ rc := by rintro rfl; have := nnl.fresh.1; rw [hr2] at this; cases this
    have e_nl_rq : nl ≠ rq := by rintro rfl; have := nnl.fresh.1; rw [hq2] at this; cases this
    obtain ⟨pz, hpz⟩ : ∃ pz : Int → Bool, pz = fun k => decide (0 < hc G.V f (nF G f) k pop) && (!Sb k && (!E k && (!Sm k && true))) := ⟨_, rfl⟩
    refine SX.cons (S1.for_ hA (ITt.keys (PE.name rfl) (good2.newL nnl.fresh _).tabs.C ok.cm) (fun j ρ' σ' => RLe (nρ a vm vp e ac t rc rq mk nl pop i) ρ' ∧ σ' = σ₂.setL nl (((a.dC.keys.take j).filter pz).map AV.int)) ?_ ?_ ?_ ?_)
    · exact ⟨.refl _, rfl⟩
    · rintro j ρ' _ _ ⟨_, rfl⟩; exact ⟨_, (good2.newL nnl.fresh _).tabs.C⟩
    · rintro j av ρ₁ _ P' hj ⟨hle, rfl⟩
      obtain ⟨k', hk', rfl⟩ := getElem?_ints hj
      have hkK : k' ∈ a.dC.keys := List.mem_of_getElem? hk'
      have htk : a.dC.keys.take (j + 1) = a.dC.keys.take j ++ [k'] := by rw [List.take_add_one, hk']; rfl
      refine SX.weaken (hle.cons _ _) (.refl _) (ρ₀ := ("k", .int k') :: nρ a vm vp e ac t rc rq mk nl pop i) (h := ?_)
      replace hA : Rm ((calleeCx A B P (FD 6 pm cd doc dV .none) L fa).pinned P').A (m + 1) := hA
      have gd := good2.newL nnl.fresh (((a.dC.keys.take j).filter pz).map AV.int)
      refine SX.cons (S1.iteB (PT.bool (PA.and_cons (PT.cmp (PE.sub_ hA (PE.name rfl) (PE.pair (PE.name rfl) (PE.name rfl)) (gd.tabs.gH ok hkK hpK)) PE.int CP.gt) fun _ => PA.and_cons (PT.cmp (PE.name rfl) (PE.name rfl) (CP.ninS (T := Sb) (n := i + 1) ha2)) fun _ =>
        PA.and_cons (PT.cmp (PE.name rfl) (PE.name rfl) (CP.ninS (T := E) (n := ne') he2)) fun _ => PA.and_cons (PT.cmp (PE.name rfl) (PE.name rfl) (CP.ninS (T := Sm) (n := nm) hm2)) fun _ => PA.and_nil)) (fun h0 => ?_) (fun h0 => ?_))
      · have hp : pz k' = true := by rw [hpz]; exact h0
        refine SX.cons (S1.expr (EV.meth (T := "list") (id := "list.append") (R := fun av σ' => av = .ref nl ∧ σ' = σ₂.setL nl (((a.dC.keys.take j).filter pz).map AV.int)) ((PE.name rfl).ev ⟨rfl, rfl⟩) F.plainAttrs_list F.slot_list_append F.type_list_append fun av σ' ⟨e1, e2⟩ => ?_))
        subst e1 e2
        refine ⟨.listL, [.int k'], .cons (PE.name rfl) (fun _ => rfl) .nil, BC.append (xs := ((a.dC.keys.take j).filter pz).map AV.int) (by simp [AH.setL]) ?_ ?_⟩
        · rw [List.length_map]
          exact Nat.le_trans (List.length_filter_le _ _) (Nat.le_trans (List.length_take_le' _ _) (by have := ok.zk; omega))
        · refine SX.nil (SX.nil ⟨(RLe.refl _).skip _, ?_⟩)
          rw [AH.setL_setL, htk, List.filter_append, List.map_append]
          simp [hp]
      · have hp : pz k' = false := by rw [hpz]; exact h0
        refine SX.nil (SX.nil ⟨(RLe.refl _).skip _, ?_⟩)
        rw [htk, List.filter_append]
        simp [hp]
    · rintro ρ₁ _ ⟨hle, rfl⟩
      refine SX.nil ?_
      rw [List.length_map, List.take_length]
      refine SX.weaken (ρ₀ := nρ a vm vp e ac t rc rq mk nl pop i) ?_ hle (.refl _)
      obtain ⟨NL, hNL⟩ : ∃ NL, NL = a.dC.keys.filter pz := ⟨_, rfl⟩
      rw [← hNL]
      have nlmem : ∀ c, c ∈ NL ↔ c ∈ a.dC.keys ∧ 0 < hc G.V f (nF G f) c pop ∧ c ∉ R.take (i + 1) ∧ E c = false ∧ c ∉ R := fun c => by
        rw [hNL, List.mem_filter, hpz]
        simp [hSb, hSm']
      have nlnd : NL.Nodup := hNL ▸ ok.knodup.filter _
      have hRn : (R ++ NL).Nodup := List.nodup_append.mpr ⟨bs.nodup, nlnd, fun x hx y hy => by rintro rfl; exact ((nlmem x).mp hy).2.2.2.2 hx⟩
      have hRs : ∀ c ∈ R ++ NL, c ∈ a.dC.keys := fun c hc' => by rcases List.mem_append.mp hc' with h | h; exact bs.sub c h; exact ((nlmem c).mp h).1
      have hRl' : (R ++ NL).length ≤ a.dC.keys.length := length_le_of_nodup hRn hRs
      have good3 := good2.newL nnl.fresh (NL.map AV.int)
      have off3 := off2.trans (.setL σ₂ (l := NL.map AV.int) fnl)
      have hl3 : (σ₂.setL nl (NL.map AV.int)).list nl = some (NL.map AV.int) := by simp [AH.setL]
      have hr3 : (σ₂.setL nl (NL.map AV.int)).list rc = some ((R.take (i + 1)).map AV.int) := by simp [AH.setL, e_nl_rc.symm, hr2]
      have hq3 : (σ₂.setL nl (NL.map AV.int)).list rq = some (R.map AV.int) := by simp [AH.setL, e_nl_rq.symm, hq2]
      have ha3 : (σ₂.setL nl (NL.map AV.int)).set ac = some (Sb, i + 1) := ha2
      have hm3 : (σ₂.setL nl (NL.map AV.int)).set mk = some (Sm, nm) := hm2
      have ht3 : (σ₂.setL nl (NL.map AV.int)).dI t = some dT := ht2
      have he3 : (σ₂.setL nl (NL.map AV.int)).set e = some (E, ne') := he2
      generalize σ₂.setL nl (NL.map AV.int) = σ₃ at good3 off3 hl3 hr3 hq3 ha3 hm3 ht3 he3 ⊢
      refine SX.cons (S1.for_ hA (ITt.list (PE.name rfl) hl3) (fun j ρ' σ' => RLe (nρ a vm vp e ac t rc rq mk nl pop i) ρ' ∧ ∃ d : DI, σ' = σ₃.setD t d ∧ d.keys.length ≤ dT.keys.length + j ∧ (∀ c ∈ NL.take j, c ∈ d.keys ∧ d.val c = .int pop) ∧
        (∀ c, c ∉ NL.take j → c ∈ dT.keys → c ∈ d.keys ∧ d.val c = dT.val c)) ?_ ?_ ?_ ?_)
      · exact ⟨.refl _, dT, (AH.setD_self ht3).symm, Nat.le_refl _, fun c h => by simp at h, fun c _ h => ⟨h, rfl⟩⟩
      · rintro j ρ' _ _ ⟨_, d, rfl, _⟩; exact hl3
      · rintro j av ρ₁ _ P' hj ⟨hle, d, rfl, hk1, hk2, hk3⟩
        obtain ⟨x, hx, rfl⟩ := getElem?_ints hj
        have hjl : j < NL.length := (List.getElem?_eq_some_iff.mp hx).1
        have htk := mem_take_succ hx
        replace hA : Rm ((calleeCx A B P (FD 6 pm cd doc dV .none) L fa).pinned P').A (m + 1) := hA
        refine SX.weaken (hle.cons _ _) (.refl _) (ρ₀ := ("dst", .int x) :: nρ a vm vp e ac t rc rq mk nl pop i) (h := ?_)
        have hlen : NL.length ≤ 10 := by have := ok.zk; rw [List.length_append] at hRl'; omega
        have hd : (σ₃.setD t d).dI t = some d := by simp [AH.setD]
        refine SX.cons (S1.setItem hA (PE.name rfl) (PE.name rfl) (PE.name rfl) (.dI hd (by have := bs.tk; have := ok.zk; omega) fun ep => ?_))
        refine SX.nil ⟨(RLe.refl _).skip _, _, AH.setD_setD _ _ _ _, ?_, fun c hc' => ?_, fun c hc' hcT => ?_⟩
        · dsimp only
          split
          · omega
          · simp; omega
        · dsimp only
          by_cases hcx : c = x
          · subst hcx
            exact ⟨by split; assumption; simp, by simp⟩
          · have h1 := ((htk c).mp hc').resolve_right hcx
            obtain ⟨h2, h3⟩ := hk2 c h1
            exact ⟨by split; exact h2; exact List.mem_append_left _ h2, by simp [hcx, h3]⟩
        · dsimp only
          have hcx : c ≠ x := fun h => hc' ((htk c).mpr (.inr h))
          obtain ⟨h2, h3⟩ := hk3 c (fun h => hc' ((htk c).mpr (.inl h))) hcT
          exact ⟨by split; exact h2; exact List.mem_append_left _ h2, by simp [hcx, h3]⟩
      · rintro ρ₁ _ ⟨hle, d, rfl, hk1, hk2, hk3⟩
        rw [List.length_map] at hk1
        rw [List.length_map, List.take_length] at hk2 hk3
        refine SX.nil (SX.weaken (ρ₀ := nρ a vm vp e ac t rc rq mk nl pop i) ?_ hle (.refl _))
        have good4 := good3.apart (.setD (X := (· = t)) σ₃ (l := d) rfl) (fun b e hb => S.tabs.known hb (e ▸ ft))
        have off4 := off3.trans (.setD σ₃ (l := d) ft)
        have hm4 : (σ₃.setD t d).set mk = some (Sm, nm) := hm3
        have hl4 : (σ₃.setD t d).list nl = some (NL.map AV.int) := hl3
        have ht4 : (σ₃.setD t d).dI t = some d := by simp [AH.setD]
        have hr4 : (σ₃.setD t d).list rc = some ((R.take (i + 1)).map AV.int) := hr3
        have hq4 : (σ₃.setD t d).list rq = some (R.map AV.int) := hq3
        have ha4 : (σ₃.setD t d).set ac = some (Sb, i + 1) := ha3
        have he4 : (σ₃.setD t d).set e = some (E, ne') := he3
        generalize σ₃.setD t d = σ₄ at good4 off4 hm4 hl4 ht4 hr4 hq4 ha4 he4 ⊢
        have hlen : NL.length ≤ 10 ∧ R.length ≤ 10 := by have := ok.zk; rw [List.length_append] at hRl'; omega
        refine SX.cons (S1.expr (EV.meth (T := "set") (id := "set.update") (R := fun av σ' => av = .ref mk ∧ σ' = σ₄) ((PE.name rfl).ev ⟨rfl, rfl⟩) F.plainAttrs_set F.slot_set_update F.type_set_update fun av σ' ⟨e1, e2⟩ => ?_))
        subst e1 e2
        refine ⟨.set hm4, [.ref nl], .cons (PE.name rfl) (fun _ => rfl) .nil, BC.setUpdate hA hm4 hl4 (by omega) (by omega) fun n' hn' => ?_⟩
        have good5 := good4.apart (.setS (X := (· = mk)) σ' (l := fun k => Sm k || NL.contains k) (n := n') rfl) (fun b e hb => S.tabs.known hb (e ▸ fmk))
        have off5 := off4.trans (.setS σ' (l := fun k => Sm k || NL.contains k) (n := n') fmk)
        have hm5 : (σ'.setS mk (fun k => Sm k || NL.contains k) n').set mk = some (fun k => Sm k || NL.contains k, n') := by simp [AH.setS]
        have hl5 : (σ'.setS mk (fun k => Sm k || NL.contains k) n').list nl = some (NL.map AV.int) := hl4
        have hq5 : (σ'.setS mk (fun k => Sm k || NL.contains k) n').list rq = some (R.map AV.int) := hq4
        have hr5 : (σ'.setS mk (fun k => Sm k || NL.contains k) n').list rc = some ((R.take (i + 1)).map AV.int) := hr4
        have ha5 : (σ'.setS mk (fun k => Sm k || NL.contains k) n').set ac = some (Sb, i + 1) := by simp [AH.setS, e_mk_ac.symm, ha4]
        have he5 : (σ'.setS mk (fun k => Sm k || NL.contains k) n').set e = some (E, ne') := by simp [AH.setS, e_e_mk, he4]
        have ht5 : (σ'.setS mk (fun k => Sm k || NL.contains k) n').dI t = some d := ht4
        generalize σ'.setS mk (fun k => Sm k || NL.contains k) n' = σ₅ at good5 off5 hm5 hl5 hq5 hr5 ha5 he5 ht5 ⊢
        refine SX.cons (S1.expr (EV.meth (T := "list") (id := "list.extend") (R := fun av σ' => av = .ref rq ∧ σ' = σ₅) ((PE.name rfl).ev ⟨rfl, rfl⟩) F.plainAttrs_list F.slot_list_extend F.type_list_extend fun av σ' ⟨e1, e2⟩ => ?_))
        subst e1 e2
        refine ⟨.list hq5, [.ref nl], .cons (PE.name rfl) (fun _ => rfl) .nil, BC.extend hq5 hl5 (by rw [List.length_map]; omega) (by rw [List.length_map]; omega) ?_⟩
        refine SX.nil ⟨a.dC.keys.length - (i + 1), bρ a vm vp e ac t rc rq mk (i + 1), by omega, ?_, i + 1, R ++ NL, d, rfl, rfl, ?_⟩
        · exact ((((RLe.refl _).skip _).skip _).cons _ _).skip _
        · have htk1 : (R ++ NL).take (i + 1) = R.take (i + 1) := List.take_append_of_le_length (by omega)
          exact {
            good := good5.apart (.setL (X := (· = rq)) σ' rfl) (fun b e hb => S.tabs.known hb (e ▸ frq))
            off := off5.trans (.setL σ' frq)
            hq := by simp [AH.setL]
            hr := by simp [AH.setL, e_rq_rc.symm, hr5, htk1]
            ha := ⟨Sb, ha5, fun c => by rw [htk1]; exact hSb c⟩
            hm := ⟨_, n', hm5, fun c => by rw [hSm']; by_cases h1 : c ∈ R <;> by_cases h2 : c ∈ NL <;> simp [h1, h2], by rw [List.length_append]; omega⟩
            ht := ht5
            he := ⟨ne', he5⟩
            le := by rw [List.length_append]; omega
            nodup := hRn
            sub := hRs
            head := by
              cases hR : R with
              | nil => rw [hR] at hlt; simp at hlt
              | cons y ys => have := bs.head; rw [hR] at this; simpa using this
            tk := by have := bs.tk; rw [List.length_append]; omega
            tree := fun j c hj h0 => by
              by_cases hjR : j < R.length
              · rw [List.getElem?_append_left hjR] at hj
                obtain ⟨h1, j', p, h2, h3, h4, h5⟩ := bs.tree j c hj h0
                have hcR : c ∈ R := List.mem_of_getElem? hj
                have hcN : c ∉ NL := fun h => ((nlmem c).mp h).2.2.2.2 hcR
                obtain ⟨h6, h7⟩ := hk3 c hcN h1
                exact ⟨h6, j', p, h2, by rw [List.getElem?_append_left (by omega)]; exact h3, by rw [h7, h4], h5⟩
              · rw [List.getElem?_append_right (by omega)] at hj
                have hcN : c ∈ NL := List.mem_of_getElem? hj
                obtain ⟨h1, h2⟩ := hk2 c hcN
                exact ⟨h1, i, pop, by omega, by rw [List.getElem?_append_left hlt]; exact hpop, h2, ((nlmem c).mp hcN).2.1⟩
            clos := fun p hp c hcK h => by
              rw [htk1, htake] at hp
              rcases List.mem_append.mp hp with hp | hp
              · rcases bs.clos p hp c hcK h with h1 | h1
                · exact .inl (List.mem_append_left _ h1)
                · exact .inr h1
              · simp at hp; subst hp
                by_cases hR : c ∈ R
                · exact .inl (List.mem_append_left _ hR)
                · cases hE : E c with
                  | true => exact .inr rfl
                  | false =>
                    refine .inl (List.mem_append_right _ ((nlmem c).mpr ⟨hcK, h, ?_, hE, hR⟩))
                    exact fun h' => hR (List.mem_of_mem_take h') }
  · rw [if_neg (by simpa using hlt)]
    have hi : i = R.length := by have := bs.le; omega
    subst hi
    exact SX.nil (k _ R dT ac t rc rq mk bs ft nac.fresh)
end
end Mine

/-! P9 -/
namespace Mine
section
variable {σ σ₀ : AH} {G : Gr} {a : Nm} {f : Int → Int} {cls : Int → List Int}
theorem hc_pos {V : List Int} {f : Int → Int} {n : Int → Int → Int} {c e : Int} (h : 0 < hc V f n c e) : ∃ x ∈ V, f x = c ∧ n x e = 0 := by
  unfold hc at h
  have : 0 < V.countP fun v => f v == c && n v e == 0 := by omega
  obtain ⟨x, hx, hp⟩ := List.countP_pos_iff.mp this
  simp at hp
  exact ⟨x, hx, hp.1, hp.2⟩
theorem hc_zero {V : List Int} {f : Int → Int} {n : Int → Int → Int} {c e : Int} (h : ¬ 0 < hc V f n c e) : ∀ x ∈ V, f x = c → n x e ≠ 0 := fun x hx h1 h2 => by
  apply h
  unfold hc
  have : 0 < V.countP fun v => f v == c && n v e == 0 := List.countP_pos_iff.mpr ⟨x, hx, by simp [h1, h2]⟩
  omega

/-- from a colour that the search found, the way back -/
theorem BS.way {E : Int → Bool} {e ac t rc rq mk : Addr} {vm : Int} {i : Nat} {R : List Int} {dT : DI} (b : BS G a f cls σ₀ E e ac t rc rq mk vm i R dT σ) :
    ∀ (n j : Nat) (c : Int), j < n → R[j]? = some c → ∃ r, Path G a.dC.keys f (c :: r) ∧ (c :: r).getLast? = some vm ∧ TChain dT (c :: r) ∧ ∀ x ∈ r, ∃ j', j' < j ∧ R[j']? = some x := by
  intro n
  induction n with
  | zero => intro j c hj; omega
  | succ n ih =>
    intro j c hj hc
    have hcK := b.sub c (List.mem_of_getElem? hc)
    by_cases h0 : j = 0
    · subst h0
      refine ⟨[], .one hcK, ?_, trivial, fun x hx => by cases hx⟩
      have := b.head
      cases hR : R with
      | nil => rw [hR] at hc; simp at hc
      | cons y ys => rw [hR] at this hc; simp at this hc; subst hc; subst this; rfl
    · obtain ⟨h1, j', p, h2, h3, h4, h5⟩ := b.tree j c hc (by omega)
      obtain ⟨r, q1, q2, q3, q4⟩ := ih j' p (by omega) h3
      obtain ⟨x, hx, hfx, hnx⟩ := hc_pos h5
      have idx : ∀ y ∈ p :: r, ∃ k, k < j ∧ R[k]? = some y := fun y hy => by
        rcases List.mem_cons.mp hy with rfl | hy
        · exact ⟨j', h2, h3⟩
        · obtain ⟨k, k1, k2⟩ := q4 y hy; exact ⟨k, by omega, k2⟩
      have hcn : c ∉ p :: r := fun hm => by
        obtain ⟨k, k1, k2⟩ := idx c hm
        obtain ⟨l1, e1⟩ := List.getElem?_eq_some_iff.mp k2
        obtain ⟨l2, e2⟩ := List.getElem?_eq_some_iff.mp hc
        have := (List.getElem_inj b.nodup (h₀ := l1) (h₁ := l2)).mp (by rw [e1, e2])
        omega
      refine ⟨p :: r, .cons hcK hcn ⟨x, hx, hfx, hnx⟩ q1, by simpa using q2, ⟨h1, h4, q3⟩, idx⟩

theorem Moves.one {c : Int} {f' : Int → Int} (m : Moves G f [c] f') : f' = f := by cases m; rfl

/-- no edge within a colour -/
def Proper (G : Gr) (f : Int → Int) : Prop := ∀ v ∈ G.V, nF G f v (f v) = 0
def sz (G : Gr) (f : Int → Int) (c : Int) : Int := cnt f G.V c
theorem sz_upd (g : G.OK) {u d : Int} (hu : u ∈ G.V) (c : Int) : sz G (upd f u d) c = sz G f c + ib (d == c) - ib (f u == c) := by
  unfold sz cnt
  rw [countP_one g.nodup hu (q := fun v => f v == c) fun v _ hne => by simp [upd, hne]]
  simp [upd]
theorem Proper.upd (g : G.OK) (h : Proper G f) {u d : Int} (hu : u ∈ G.V) (hn : nF G f u d = 0) : Proper G (upd f u d) := fun v hv => by
  by_cases hvu : v = u
  · subst hvu
    have e : Mine.upd f v d v = d := by simp [Mine.upd]
    rw [e, nF_off g hu hu (g.irr v hu)]; exact hn
  · have e : Mine.upd f u d v = f v := by simp [Mine.upd, hvu]
    rw [e]
    by_cases ha : v ∈ G.adj u
    · have h1 := nF_at g (f := f) (Y := d) hu ha (f v)
      have h2 := h v hv
      have h3 := nF_nonneg G (Mine.upd f u d) v (f v)
      by_cases hd : d = f v
      · exfalso
        -- u has a neighbour v of colour d
        have : 0 < (G.adj u).countP fun w => f w == d := List.countP_pos_iff.mpr ⟨v, ha, by simp [hd]⟩
        unfold nF cnt at hn
        omega
      · have : (d == f v) = false := by simpa using hd
        rw [this] at h1
        unfold ib at h1
        simp at h1
        split at h1 <;> omega
    · rw [nF_off g hu hv ha]; exact h v hv
theorem Moves.proper (g : G.OK) {l : List Int} {f' : Int → Int} (m : Moves G f l f') : Proper G f → Proper G f' := by
  induction m with
  | nil => exact id
  | cons u hu hf hcd hn _ ih => exact fun h => ih (h.upd g hu hn)
theorem Moves.size (g : G.OK) {l : List Int} {f' : Int → Int} (m : Moves G f l f') : ∀ {x y : Int}, l.head? = some x → l.getLast? = some y → ∀ c, sz G f' c = sz G f c + ib (y == c) - ib (x == c) := by
  induction m with
  | nil => intro x y hx hy c; simp at hx hy; subst hx hy; omega
  | @cons f c d r f' u hu hf hcd hn _ ih =>
    intro x y hx hy e
    simp at hx; subst hx
    rw [ih rfl (by simpa using hy) e, sz_upd g hu e, hf]
    omega
theorem Moves.colour {l : List Int} {f' : Int → Int} (m : Moves G f l f') : ∀ v, f' v = f v ∨ f' v ∈ l := by
  induction m with
  | nil => exact fun v => .inl rfl
  | @cons f c d r f' u hu hf hcd hn _ ih =>
    intro v
    rcases ih v with h | h
    · by_cases hv : v = u
      · subst hv; right; rw [h]; simp [Mine.upd]
      · left; rw [h]; simp [Mine.upd, hv]
    · exact .inr (.tail _ h)
/-- the colours off the path keep their nodes -/
theorem Moves.off {l : List Int} {f' : Int → Int} (m : Moves G f l f') : ∀ {c : Int}, c ∉ l → ∀ v, f' v = c ↔ f v = c := by
  induction m with
  | nil => intro c _ v; rfl
  | @cons f c d r f' u hu hf hcd hn _ ih =>
    intro e he v
    rw [ih (fun h => he (.tail _ h)) v]
    by_cases hv : v = u
    · subst hv
      have e1 : Mine.upd f v d v = d := by unfold Mine.upd; rw [if_pos rfl]
      rw [e1]
      constructor
      · rintro rfl; exact absurd (List.Mem.tail _ (.head _)) he
      · intro h; rw [hf] at h; subst h; exact absurd (.head _) he
    · simp [Mine.upd, hv]
theorem Moves.nF_off {l : List Int} {f' : Int → Int} (m : Moves G f l f') {c : Int} (hc : c ∉ l) (v : Int) : nF G f' v c = nF G f v c := by
  unfold nF cnt
  exact countP_none fun w _ => by
    have := m.off hc w
    rw [Bool.eq_iff_iff, beq_iff_eq, beq_iff_eq]
    exact this
end
end Mine

/-! P10 -/
namespace Mine

/-! ### the union of two small sets -/
def layOK (hs : List Int) : Bool := match SetTable.layClean 7 hs.toArray with
  | none => false
  | some owner => let live := (List.range 8).filterMap fun j => (owner.getD j none).map (j, ·)
    live.length == hs.length && live.all fun p => decide (p.2 < hs.length)
theorem layOK1 : ∀ x : Fin 4, layOK [((x : Nat) : Int)] = true := by decide +kernel
theorem layOK2 : ∀ x y : Fin 4, layOK [((x : Nat) : Int), ((y : Nat) : Int)] = true := by decide +kernel
theorem layOK3 : ∀ x y z : Fin 4, layOK [((x : Nat) : Int), ((y : Nat) : Int), ((z : Nat) : Int)] = true := by decide +kernel
theorem fin4 {x : Int} (h : 0 ≤ x ∧ x < 4) : ∃ y : Fin 4, x = ((y : Nat) : Int) := ⟨⟨x.toNat, by omega⟩, by simp; omega⟩
theorem layOK_small {hs : List Int} (h1 : hs.length ≤ 3) (h2 : ∀ x ∈ hs, 0 ≤ x ∧ x < 4) : layOK hs = true := by
  match hs with
  | [] => decide +kernel
  | [x] =>
    obtain ⟨x', rfl⟩ := fin4 (h2 x (by simp))
    exact layOK1 x'
  | [x, y] =>
    obtain ⟨x', rfl⟩ := fin4 (h2 x (by simp))
    obtain ⟨y', rfl⟩ := fin4 (h2 y (by simp))
    exact layOK2 x' y'
  | [x, y, z] =>
    obtain ⟨x', rfl⟩ := fin4 (h2 x (by simp))
    obtain ⟨y', rfl⟩ := fin4 (h2 y (by simp))
    obtain ⟨z', rfl⟩ := fin4 (h2 z (by simp))
    exact layOK3 x' y' z'
  | _ :: _ :: _ :: _ :: _ => simp at h1

theorem filterMap_size {α : Type} {xs : Array α} {ord : List Nat} (h : ∀ i ∈ ord, i < xs.size) : (ord.toArray.filterMap (xs[·]?)).size = ord.length := by
  rw [← Array.length_toList, Array.toList_filterMap]
  induction ord with
  | nil => rfl
  | cons i r ih =>
    have hi := h i (.head _)
    have : xs[i]? = some xs[i] := by simp [hi]
    rw [List.filterMap_cons, this]
    simp only [List.length_cons]
    rw [ih fun j hj => h j (.tail _ hj)]

section
variable {prog : Program} {w : World} {A : Around} {s : Shared}
/-- a new set takes over a small one -/
theorem setMerge_small {E : Value → Shared → Prop} {r o : Addr} {ob oo : Obj} {eo : Array (Int × Value)} {led : Bool} {ep' : Nat} {to : SetTable} {each : Sem Unit} {Q : Unit → Shared → Prop} (hro : r ≠ o)
    (hr : s.heap.get? r = some ob) (hex : ob.ExactSet) (hrd : ob.data = .set #[] 0 (.fresh 0 0 led)) (ho : s.heap.get? o = some oo) (hod : oo.data = .set eo ep' to) (hf : to.fits eo.size = true) (hz : eo.size ≤ 3)
    (hel : ElemsOf (intKind prog w) eo.toList) (hsm : ∀ e ∈ eo.toList, 0 ≤ e.1 ∧ e.1 < 4)
    (h : ∀ (h' : Heap) (S : Int → Bool) (n : Nat), Heap.SameBut r s.heap h' → h'.SetOf (intKind prog w) r S n → n ≤ 3 → Q () { s with heap := h' }) :
    wpAny (model prog w) A (setMerge r o each) Q E s := by
  have store : ∀ (es' : Array (Int × Value)) (t' : SetTable), (∀ e ∈ es'.toList, e ∈ eo.toList) → es'.size = eo.size → t'.fits es'.size = true → wpAny (model prog w) A (storeSet r es' t') Q E s := fun es' t' hsub hsz hfit => by
    refine wpAny_storeSet_of (hz := by rw [hsz, sizeLine_eq]; omega) hr hrd ?_
    have hst := SetOf_store (knd := intKind prog w) hr hex hrd (es' := es') (t' := t') (S' := fun k => es'.toList.any fun e => (intKind prog w).is k e.2) (fun e he => hel e (hsub e he)) (fun k => List.any_eq_true) (by unfold scanBound; omega) hfit
    exact h _ _ _ (Heap.SameBut.update ..) hst.2 (by omega)
  unfold setMerge
  rw [if_neg (by simpa using hro)]
  refine wpAny_bind (wpAny_setState_of ho hod hf ?_)
  dsimp only
  by_cases hem : eo.isEmpty = true
  · rw [if_pos hem]
    refine wpAny_pure ?_
    have := h s.heap (fun _ => false) 0 (Heap.SameBut.refl _ _) ⟨ob, #[], 0, _, hr, hex, hrd, fun e he => by simp at he, fun k => by simp, by decide, by rfl, rfl⟩ (by omega)
    exact this
  · rw [if_neg hem]
    unfold setRoomFor
    refine wpAny_bind (wpAny_bind (wpAny_setState_of hr hrd (by rfl) ?_))
    have hroom : (SetTable.fresh 0 0 led).roomFor eo.size = none := by
      unfold SetTable.roomFor SetTable.fresh SetTable.fill
      simp only [Array.size_empty]
      rw [if_neg (by omega)]
    rw [hroom]
    refine wpAny_pure ?_
    refine wpAny_bind (wpAny_setState_of hr hrd (by rfl) ?_)
    dsimp only
    have hfill : (SetTable.fresh 0 0 led).fill = 0 := rfl
    have hroad : (SetTable.fresh 0 0 led).road to = if 7 == to.mask && to.dummies.isEmpty then .slotForSlot else .clean := rfl
    rw [hroad]
    by_cases hm : (7 == to.mask && to.dummies.isEmpty) = true
    · rw [if_pos hm]
      refine store eo _ (fun e he => he) rfl ?_
      exact hf
    · rw [if_neg hm]
      have hlay := layOK_small (hs := (eo.map (·.1)).toList) (by simpa using hz) (fun x hx => by
        simp at hx
        obtain ⟨b, hb⟩ := hx
        exact hsm (x, b) (by simpa using hb))
      unfold layOK at hlay
      have e1 : (eo.map (·.1)).toList.toArray = eo.map (·.1) := Array.toArray_toList
      rw [e1] at hlay
      cases hl : SetTable.layClean 7 (eo.map (·.1)) with
      | none => rw [hl] at hlay; cases hlay
      | some owner =>
        rw [hl] at hlay
        simp only [Bool.and_eq_true, beq_iff_eq, List.all_eq_true, decide_eq_true_eq] at hlay
        obtain ⟨h1, h2⟩ := hlay
        have hmask : (SetTable.fresh 0 0 led).mask = 7 := rfl
        unfold SetTable.laid
        rw [hmask, hl]
        simp only [Option.bind_eq_bind, Option.bind_some, Option.pure_def]
        generalize hlv : (List.range (7 + 1)).filterMap (fun j => Option.map (fun x => (j, x)) (owner.getD j none)) = live at *
        have h1' : live.length = eo.size := by simpa using h1
        have h2' : ∀ i ∈ live.map (fun x => x.snd), i < eo.size := fun i hi => by
          obtain ⟨p, hp, rfl⟩ := List.mem_map.mp hi
          have := h2 p hp
          simpa using this
        have hsz := filterMap_size (xs := eo) h2'
        rw [List.length_map, h1'] at hsz
        refine wpAny_bind (wpAny_of_eq (a := (((live.map (fun x => x.snd)).toArray.filterMap (eo[·]?)), _)) (by
          show (if (((live.map (fun x => x.snd)).toArray.filterMap (eo[·]?)).size != eo.size) = true then _ else _) = _
          rw [if_neg (by rw [hsz]; simp)]) ?_)
        refine store _ _ (fun e he => ?_) hsz ?_
        · rw [Array.toList_filterMap] at he
          obtain ⟨i, _, hi⟩ := List.mem_filterMap.mp he
          exact Array.mem_toList_iff.mpr (Array.mem_of_getElem? hi)
        · rw [hsz]
          unfold SetTable.fits SetTable.fill
          simp [h1']
          omega
end
end Mine

/-! P11 -/
namespace Mine
theorem entry_set_union : entryFor table "set.union" = some Builtin.«frozenset.union» := entryFor_alias (id' := "frozenset.union") (by kernel_rfl) rfl (by decide +kernel) (by kernel_rfl)
section
variable {prog : Program} {w : World} {c : Cx} {ρ : Rho} {σ : AH} {s s' : Shared}

theorem BC.union {a b : Addr} {E S : Int → Bool} {n : Nat} {Q : AV → AH → Prop} (ha : σ.set a = some (E, 0)) (hb : σ.set b = some (S, n)) (hab : a ≠ b) (hn : n ≤ 3) (hS : ∀ k, S k = true → 0 ≤ k ∧ k < 4)
    (q : ∀ D T n', Nw σ D → n' ≤ 3 → Q (.ref D) (σ.setS D T n')) : BC prog w c ρ σ (.builtin "set.union") [.ref a, .ref b] Q := fun s vs St₀ hvs => by
  obtain ⟨u, v, rfl, hu, hv⟩ := hvs.inv2
  cases hu.ref_inv
  cases hv.ref_inv
  obtain ⟨oa, ea, epa, ta, hoa, hxa, hda, hela, hmema, hba, hfa, hza⟩ := St₀.sees.set _ _ ha
  obtain ⟨ob, eb, epb, tb, hob, hxb, hdb, helb, hmemb, hbb, hfb, hzb⟩ := St₀.sees.set _ _ hb
  have hza : ea.size = 0 := hza
  have hzb : eb.size = n := hzb
  have hTa : s.TypeIs (.ref a) "set" := ⟨oa, hoa, hxa.1⟩
  refine wpAny_call_entry F.slot_set_union hTa entry_set_union ?_ (F.args_set_union_2 _ _)
  show wpAny _ _ (Builtin.Frozenset.manyOthers "union" ⟨[.ref a, .ref b], []⟩ >>= _) _ _ s
  refine wpAny_bind (wpAny_of_eq (a := (a, [.ref b])) rfl ?_)
  dsimp only
  refine wpAny_bind ?_
  unfold Builtin.Frozenset.copyOf Builtin.Frozenset.baseOf
  refine wpAny_bind (wpAny_bind (wpAny_isInstance (T := "set") (b := true) hTa sub_set_self ?_))
  simp only [if_true]
  refine wpAny_pure ?_
  refine wpAny_bind (wpAny_newSet_of (knd := intKind prog w) fun led hS₀ => ?_)
  have e : Ext s.heap (s.heap.push { cls := .type "set", dict := none, data := .set #[] 0 (.fresh 0 0 led) }) := Ext.push _ _
  have haD : a < s.heap.objs.size := Heap.lt_size hoa
  have hbD : b < s.heap.objs.size := Heap.lt_size hob
  have hgD : (s.heap.push { cls := .type "set", dict := none, data := .set #[] 0 (.fresh 0 0 led) }).get? s.heap.objs.size = some { cls := .type "set", dict := none, data := .set #[] 0 (.fresh 0 0 led) } := Heap.get?_push_size _ rfl
  refine wpAny_bind (wpAny_of_eq (a := s.heap.objs.size) rfl ?_)
  -- the first merge does nothing
  refine wpAny_bind ?_
  unfold setMerge
  rw [if_neg (by simpa using Nat.ne_of_gt haD)]
  refine wpAny_bind (wpAny_setState_of (s := { s with heap := _ }) (e _ _ hoa) hda hfa ?_)
  dsimp only
  rw [if_pos (by simpa using hza)]
  refine wpAny_pure (wpAny_pure ?_)
  refine wpAny_bind (wpAny_holding ?_)
  simp only [List.forIn_cons, List.forIn_nil]
  refine wpAny_bind (wpAny_bind ?_)
  rw [if_pos (by simpa using hab.symm)]
  refine wpAny_bind (wpAny_of_eq (a := s.heap.objs.size) rfl ?_)
  unfold Builtin.Frozenset.updateFrom Builtin.Frozenset.isAnySet
  have hTb : ({ s with heap := s.heap.push { cls := .type "set", dict := none, data := .set #[] 0 (.fresh 0 0 led) } } : Shared).TypeIs (.ref b) "set" := ⟨ob, e _ _ hob, hxb.1⟩
  refine wpAny_bind (wpAny_bind ?_)
  refine wpAny_bind (m := isInstance (.ref b) (.type "set")) (wpAny_isInstance (T := "set") (b := true) hTb sub_set_self ?_)
  show wpAny _ _ (pure true) _ _ _
  refine wpAny_pure ?_
  simp only [if_true]
  refine wpAny_bind (wpAny_of_eq (a := b) rfl ?_)
  unfold Builtin.Frozenset.merge
  have hob' := e _ _ hob
  refine wpAny_bind (wpAny_setEpoch_of (s := { s with heap := _ }) hob' hdb hfb ?_)
  have hzb3 : eb.size ≤ 3 := by omega
  refine setMerge_small (s := { s with heap := s.heap.push { cls := .type "set", dict := none, data := .set #[] 0 (.fresh 0 0 led) } }) (Nat.ne_of_gt hbD) hgD ⟨rfl, rfl, rfl⟩ rfl hob' hdb hfb hzb3 helb (fun x hx => ?_) fun h' T n' hs hT hn' => ?_
  · obtain ⟨⟨k, hk, hh⟩, _⟩ := helb x hx
    have hk4 := hS k ((hmemb k).mpr ⟨x, hx, hk⟩)
    rw [hh]
    obtain ⟨y, rfl⟩ := fin4 hk4
    have : ∀ y : Fin 4, 0 ≤ hashInt ((y : Nat) : Int) ∧ hashInt ((y : Nat) : Int) < 4 := by decide +kernel
    exact this y
  · refine wpAny_pure (wpAny_pure (wpAny_pure ?_))
    show wpAny _ _ (ret _) _ _ _
    refine wpAny_pure ⟨_, rfl, ?_⟩
    have e' : Ext s.heap h' := fun b' o' he' => (hs.2 b' (Nat.ne_of_lt (Heap.lt_size he'))).trans (e _ _ he')
    have S₅ := St.newS (S := St₀) (tk := s.toks) (T := T) (n := n') e' hT
    exact ⟨.ref _, _, .ref _, S₅, e'.stab, q _ _ _ St₀.freshNew hn'⟩
end
end Mine

/-! P12 -/
namespace Mine
section
variable {prog : Program} {w : World} {c : Cx} {ρ : Rho} {σ : AH} {s s' : Shared}
/-- keywords, some of them acting -/
inductive EKs (prog : Program) (w : World) (c : Cx) (ρ : Rho) : AH → List Keyword → (Rho → AH → Prop) → Prop
  | nil {σ Q} : Q [] σ → EKs prog w c ρ σ [] Q
  | cons {σ n e p ks R Q} : EV prog w c ρ σ e R → (∀ av σ', R av σ' → EKs prog w c ρ σ' ks (fun as σ'' => Q ((n, av) :: as) σ'')) → EKs prog w c ρ σ (⟨some n, e, p⟩ :: ks) Q
theorem EKs.pe {n : Str} {e : Expr} {p : Pos} {ks : List Keyword} {a : AV} {Q : Rho → AH → Prop} (h : PE prog w c ρ σ e a) (k : EKs prog w c ρ σ ks (fun as σ'' => Q ((n, a) :: as) σ'')) : EKs prog w c ρ σ (⟨some n, e, p⟩ :: ks) Q :=
  .cons (h.ev (Q := fun av σ' => av = a ∧ σ' = σ) ⟨rfl, rfl⟩) fun av σ' ⟨e1, e2⟩ => by subst e1 e2; exact k
theorem EKs.run {ks : List Keyword} {Q : Rho → AH → Prop} {pos : Pos} (h : EKs prog w c ρ σ ks Q) : ∀ {s : Shared}, St prog w c ρ σ s →
    wpAny (model prog w) c.A (evalAll ((backToKw pos (keywordEach ks c.env)).map (·.2))) (fun vs s' => ∃ as σ', St prog w c ρ σ' s' ∧ Stab s.heap s'.heap ∧ BRep s'.heap (((backToKw pos (keywordEach ks c.env)).filterMap (·.1)).zip vs) as ∧ Q as σ') NoE s := by
  induction h with
  | nil q => intro s S; exact wpAny_evalAll_nil ⟨[], _, S, .refl _, .nil, q⟩
  | @cons σ n e p ks R Q h1 _ ih =>
    intro s S
    show wpAny _ _ (evalAll ((do let v ← eval e c.env; standAt pos; pure v) :: (backToKw pos (keywordEach ks c.env)).map (·.2))) _ _ s
    refine wpAny_evalAll_cons (wpAny_bind (wpAny_mono (h1 s S) (fun u s₁ ⟨av, σ', hu, S₁, st, r⟩ => wpAny_bind (wpAny_standAt (wpAny_pure ?_))) fun _ _ e => e))
    refine wpAny_mono (ih av σ' r S₁) (fun vs s₂ ⟨as, σ₂, S₂, st₂, b, q⟩ => ?_) fun _ _ e => e
    exact ⟨(n, av) :: as, σ₂, S₂, st.trans st₂, .cons (hu.stab st₂) b, q⟩
/-- f(k=.., ..) -/
theorem EV.callK {f : Str} {fa : Addr} {fd : FuncData} {body : List Stmt} {p pos : Pos} {ks : List Keyword} {R : Rho → AH → Prop} {Q : AV → AH → Prop} (hB : c.B.OK) (F : FnF c.B f fa fd body)
    (hks : EKs prog w c ρ σ ks R) (h : ∀ as σ', R as σ' → CallOK prog w c.B c.A (.ref fa) σ' [] as Q)
    (hall : (backToKw pos (keywordEach ks c.env)).all (·.1.isSome) = true := by rfl)
    (hg : c.env.kindOf f = some .globalImplicit := by rfl) (hd' : (f == ("__debug__" : Str)) = false := by decide) : EV prog w c ρ σ (.Call (.Name f p) [] ks pos) Q := fun s S => by
  refine wpAny_Call_Name_kw (PE.one S (PE.global hB F.mg hg hd') fun u s₁ S₁ p₁ hu => ?_)
  cases hu.val_inv
  obtain ⟨o, ho, hd⟩ := F.obj
  refine callWith_function_kw (o := o) (fd := fd) ?_
  refine evalArgs_kw_nil hall (wpAny_mono (hks.run S₁) (fun kvs s₂ ⟨as, σ', S₂, st, b, r⟩ => ⟨⟨S₂.sees.keeps _ _ ho, hd⟩, ?_⟩) fun _ _ e => e)
  exact wpAny_mono (EVt.call S₂ .nil b (h as σ' r)) (fun v s₄ ⟨av, σ', hr, S₄, st', q⟩ => ⟨av, σ', hr, S₄, p₁.stab.trans (st.trans st'), q⟩) fun _ _ e => e
end

section
variable {prog : Program} {w : World} {A : Around} {B : Basis} {P : Pins} {pm cd doc dV : Value} {L fa : Addr} {σ σ₀ : AH} {G : Gr} {a : Nm} {f : Int → Int} {cls : Int → List Int}

/-- what the balancing gives -/
def PPost (G : Gr) (a : Nm) (σ₀ : AH) (f : Int → Int) (vm vp : Int) (σ' : AH) : Prop :=
  ∃ f' cls', Good G a σ' f' cls' ∧ Off (a.ownN σ₀) σ₀ σ' ∧ (Proper G f → Proper G f') ∧ ∀ c, sz G f' c = sz G f c + ib (vm == c) - ib (vp == c)

theorem BS.offX {E : Int → Bool} {e ac t rc rq mk : Addr} {vm : Int} {i : Nat} {R : List Int} {dT : DI} (b : BS G a f cls σ₀ E e ac t rc rq mk vm i R dT σ) : Off (a.ownN σ₀) σ₀ σ := b.off.mono fun _ h => .inr h

theorem ownN_trans {X : Addr → Prop} {σ₁ σ₂ : AH} (o : Off (a.ownN σ₀) σ₀ σ₁) (h : Off (a.ownN σ₁) σ₁ σ₂) : Off (a.ownN σ₀) σ₀ σ₂ :=
  o.trans (h.mono fun b hb => hb.elim .inl fun fr => o.freshX (fun _ h => .inr h) fr)

theorem pp_in {m : Nat} {fm fc : Addr} {cdm cdc : Value} {vm vp : Int} {e ac t rc rq mk : Addr} {E : Int → Bool} {R : List Int} {dT : DI} {Q : AF → Rho → AH → Prop} (Fm : Fn B 5 fm cdm .none) (Fc : Fn B 4 fc cdc .none)
    (hA : Rm (calleeCx A B P (FD 6 pm cd doc dV .none) L fa).A (m + 2)) (hB : B.OK) (blen : B.mg "len" = none ∧ B.mb "len" = some (.builtin "len")) (g : G.OK) (ok : a.OK G) (hV : G.V.length ≤ 900)
    (S₀ : Good G a σ₀ f cls) (b : BS G a f cls σ₀ E e ac t rc rq mk vm R.length R dT σ) (ft : σ₀.Fresh t) (hvp : vp ∈ R)
    (q : ∀ ρ' σ', PPost G a σ₀ f vm vp σ' → Q .next ρ' σ') :
    SX prog w (calleeCx A B P (FD 6 pm cd doc dV .none) L fa) (bρ a vm vp e ac t rc rq mk R.length) σ ((stBody (stAt 6)).drop 8) Q := by
  have plen : ∀ {ρ : Rho} {σ : AH} {pos : Pos}, PE prog w (calleeCx A B P (FD 6 pm cd doc dV .none) L fa) ρ σ (.Name "len" pos) (.val (.builtin "len")) := PE.builtin hB blen.1 blen.2
  obtain ⟨Sa, hSa, hSa'⟩ := b.ha
  have hRl : R.length ≤ a.dC.keys.length := length_le_of_nodup b.nodup b.sub
  refine SX.cons (S1.assign ((PE.sub (PE.len plen (PE.name rfl) (.inr (.inl ⟨a.C, a.dC, rfl, ok.cm, b.good.tabs.C, rfl⟩)) (by have := ok.zk; omega)) (PE.len plen (PE.name rfl) (.inr (.inr ⟨ac, Sa, rfl, hSa⟩)) (by have := ok.zk; omega))).ev ?_))
  have hto : ¬ a.own t := fun h => S₀.tabs.known (Nm.own_all h) ft
  obtain ⟨j, hj⟩ := List.getElem?_of_mem hvp
  obtain ⟨r, p1, p2, p3, _⟩ := b.way (j + 1) j vp (by omega) hj
  have hin : Sa vp = true := by rw [hSa', List.take_length]; simpa using hvp
  refine SX.cons (S1.iteB (PT.cmp (PE.name rfl) (PE.name rfl) (CP.inS hSa)) (fun _ => ?_) (fun h => by rw [hin] at h; cases h))
  refine SX.cons (S1.expr (EV.call hB (Fm.fn.choose_spec.choose_spec) (.cons (PE.name rfl) (fun _ => rfl) (.cons (PE.name rfl) (fun _ => rfl) .nil))
    (.cons (PE.name rfl) (.cons (PE.name rfl) (.cons (PE.name rfl) (.cons (PE.name rfl) (.cons (PE.name rfl) (.cons (PE.name rfl) .nil))))))
    (mw_ok Fm Fc hA hB g ok b.good hV b.ht hto p1 rfl p2 p3 fun σ' f' cls' S' O M => ?_).1))
  exact SX.nil (SX.nil (q _ _ ⟨f', cls', S', ownN_trans (X := a.own) b.offX O, M.proper g, M.size g rfl p2⟩))

set_option maxHeartbeats 4000000 in
/-- balancing V_plus = V_minus does nothing; and so where V_plus is found -/
theorem pp_noop {m : Nat} {fp fm fc T : Addr} {cdp cdm cdc : Value} {v : Int} {e : Addr} {E : Int → Bool} {ne : Nat} {Q : AV → AH → Prop} (Fp : Fn B 6 fp cdp (.ref T)) (hT : ∃ o n, B.h₀.get? T = some o ∧ o.data = .seq #[.none] n) (Fm : Fn B 5 fm cdm .none) (Fc : Fn B 4 fc cdc .none)
    (hA : Rm A (m + 3)) (hB : B.OK) (blen : B.mg "len" = none ∧ B.mb "len" = some (.builtin "len")) (bset : B.mg "set" = none ∧ B.mb "set" = some (.type "set")) (g : G.OK) (ok : a.OK G) (hV : G.V.length ≤ 900)
    (S : Good G a σ f cls) (hv : v ∈ a.dC.keys) (he : σ.set e = some (E, ne)) (q : ∀ σ', PPost G a σ f v v σ' → Q .none σ') :
    CallOK prog w B A (.ref fp) σ [] [("V_minus", .int v), ("V_plus", .int v), ("N", .ref a.N), ("H", .ref a.H), ("C", .ref a.C), ("F", .ref a.F), ("L", .ref a.L), ("excluded_colors", .ref e)] Q := by
  refine callOK (ρ' := pρ a v v e) Fp hA hB (fun pm doc s vals kw P C hvs hk => ?_) (fun pm doc P L hA => ?_)
  · cases hvs.inv0
    obtain ⟨v1, _, rfl, r1, hk⟩ := hk.invc
    obtain ⟨v2, _, rfl, r2, hk⟩ := hk.invc
    obtain ⟨v3, _, rfl, r3, hk⟩ := hk.invc
    obtain ⟨v4, _, rfl, r4, hk⟩ := hk.invc
    obtain ⟨v5, _, rfl, r5, hk⟩ := hk.invc
    obtain ⟨v6, _, rfl, r6, hk⟩ := hk.invc
    obtain ⟨v7, _, rfl, r7, hk⟩ := hk.invc
    obtain ⟨v8, _, rfl, r8, hk⟩ := hk.invc
    cases hk.inv0
    obtain ⟨o, n, ho, hd⟩ := hT
    exact ⟨_, .of_defaults rfl (C.sees.keeps _ _ ho) hd rfl rfl, .cons r1 (.cons r2 (.cons r3 (.cons r4 (.cons r6 (.cons r5 (.cons r7 (.cons r8 .nil)))))))⟩
  · refine SX.cons (S1.iteB (PT.cmp (PE.name rfl) PE.none (CP.isNone (a := .ref e) (b := false) rfl)) (fun h => by cases h) fun _ => SX.nil ?_)
    refine bfs hA hB bset blen g ok S hv he fun σ' R dT ac t rc rq mk b ft fac => ?_
    have hvR : v ∈ R := List.mem_of_mem_head? b.head
    exact pp_in Fm Fc hA hB blen g ok hV S b ft hvR fun _ σ' h => q σ' h
end
end Mine

/-! P13 -/
namespace Mine
/-! ### the counting -/
theorem length_flatMap_le {α β : Type} {g : α → List β} {d : Nat} : ∀ {l : List α}, (∀ x ∈ l, (g x).length ≤ d) → (l.flatMap g).length ≤ l.length * d
  | [], _ => by simp
  | x :: r, h => by
    have h1 := h x (.head _)
    have h2 := length_flatMap_le (l := r) fun y hy => h y (.tail _ hy)
    rw [List.flatMap_cons, List.length_append, List.length_cons, Nat.succ_mul]
    omega
theorem sum_map_add {α : Type} (f g : α → Nat) : ∀ l : List α, (l.map fun x => f x + g x).sum = (l.map f).sum + (l.map g).sum
  | [] => rfl
  | x :: r => by simp only [List.map_cons, List.sum_cons, sum_map_add f g r]; omega
theorem sum_ind {R : List Int} (hn : R.Nodup) (y : Int) : (R.map fun c => if (y == c) = true then 1 else 0).sum ≤ 1 ∧ (y ∉ R → (R.map fun c => if (y == c) = true then 1 else 0).sum = 0) := by
  induction R with
  | nil => simp
  | cons c r ih =>
    rw [List.nodup_cons] at hn
    obtain ⟨h1, h2⟩ := ih hn.2
    simp only [List.map_cons, List.sum_cons]
    by_cases e : y = c
    · subst e
      have := h2 hn.1
      simp only [beq_self_eq_true, if_true]
      exact ⟨by omega, fun h => absurd (.head _) h⟩
    · have e' : (y == c) = false := by simpa using e
      simp only [e', Bool.false_eq_true, if_false, Nat.zero_add]
      exact ⟨h1, fun h => h2 fun hm => h (.tail _ hm)⟩
theorem sum_counts {R : List Int} (hn : R.Nodup) (f : Int → Int) : ∀ l : List Int, (R.map fun c => l.countP fun w => f w == c).sum ≤ l.length
  | [] => by
    have : ∀ R : List Int, (R.map fun c => ([] : List Int).countP fun w => f w == c).sum = 0 := by
      intro R; induction R with
      | nil => rfl
      | cons c r ih => simp only [List.map_cons, List.sum_cons, List.countP_nil] at ih ⊢; omega
    rw [this]; exact Nat.zero_le _
  | x :: r => by
    have h1 := sum_counts hn f r
    have h2 := (sum_ind hn (f x)).1
    have e : (R.map fun c => (x :: r).countP fun w => f w == c) = R.map fun c => (r.countP fun w => f w == c) + (if (f x == c) = true then 1 else 0) := by
      apply List.map_congr_left
      intro c _
      rw [List.countP_cons]
    rw [e, sum_map_add]
    simp only [List.length_cons]
    omega
theorem sum_ge {α : Type} {g : α → Nat} : ∀ {l : List α}, (∀ x ∈ l, 1 ≤ g x) → l.length ≤ (l.map g).sum
  | [], _ => by simp
  | x :: r, h => by
    have h1 := h x (.head _)
    have h2 := sum_ge (l := r) fun y hy => h y (.tail _ hy)
    simp only [List.length_cons, List.map_cons, List.sum_cons]; omega
theorem sum_tight {α : Type} {g : α → Nat} : ∀ {l : List α}, (∀ x ∈ l, 1 ≤ g x) → (l.map g).sum ≤ l.length → ∀ x ∈ l, g x = 1
  | [], _, _, x, hx => by cases hx
  | y :: r, h, hs, x, hx => by
    have h1 := h y (.head _)
    have h2 := sum_ge (l := r) fun z hz => h z (.tail _ hz)
    simp only [List.length_cons, List.map_cons, List.sum_cons] at hs
    rcases List.mem_cons.mp hx with rfl | hx
    · omega
    · exact sum_tight (l := r) (fun z hz => h z (.tail _ hz)) (by omega) x hx

section
variable {G : Gr} {f : Int → Int} {K R : List Int} {vm vp : Int} {k s : Nat}

structure Stuck (G : Gr) (f : Int → Int) (K R : List Int) (vm vp : Int) (k s : Nat) : Prop where
  g : G.OK
  kn : K.Nodup
  kl : K.length = k
  k2 : 2 ≤ k ∧ k ≤ 4
  s2 : 2 ≤ s ∧ s ≤ 3
  fK : ∀ v ∈ G.V, f v ∈ K
  deg : ∀ v ∈ G.V, (G.adj v).length ≤ k - 1
  size : ∀ c ∈ K, sz G f c = s + ib (vp == c) - ib (vm == c)
  ne : vm ≠ vp
  vmR : R.head? = some vm
  vpK : vp ∈ K
  vpR : vp ∉ R
  rn : R.Nodup
  rK : ∀ c ∈ R, c ∈ K
  clos : ∀ p ∈ R, ∀ c ∈ K, 0 < hc G.V f (nF G f) c p → c ∈ R

theorem sz_filter (G : Gr) (f : Int → Int) (c : Int) : sz G f c = ((G.V.filter fun v => f v == c).length : Nat) := by
  unfold sz cnt; rw [List.countP_eq_length_filter]
/-- a node that is not reached has a neighbour in each class that is -/
theorem Stuck.nbr (S : Stuck G f K R vm vp k s) {v c : Int} (hv : v ∈ G.V) (hf : f v ∉ R) (hc' : c ∈ R) : ∃ u ∈ G.V, f u = c ∧ v ∈ G.adj u ∧ u ∈ G.adj v := by
  have h1 : ¬ 0 < hc G.V f (nF G f) (f v) c := fun h => hf (S.clos c hc' _ (S.fK v hv) h)
  have h2 := hc_zero h1 v hv rfl
  have h3 : 0 < (G.adj v).countP fun w => f w == c := by
    have := nF_nonneg G f v c
    unfold nF cnt at h2 this
    omega
  obtain ⟨u, hu, hfu⟩ := List.countP_pos_iff.mp h3
  exact ⟨u, S.g.sub v hv u hu, by simpa using hfu, S.g.sym v hv u hu, hu⟩
theorem Stuck.nF_pos (S : Stuck G f K R vm vp k s) {v c : Int} (hv : v ∈ G.V) (hf : f v ∉ R) (hc' : c ∈ R) : 1 ≤ (G.adj v).countP fun w => f w == c := by
  obtain ⟨u, _, h1, _, h2⟩ := S.nbr hv hf hc'
  exact List.countP_pos_iff.mpr ⟨u, h2, by simpa using h1⟩
theorem Stuck.vm_mem (S : Stuck G f K R vm vp k s) : vm ∈ R := List.mem_of_mem_head? S.vmR
theorem Stuck.bound (S : Stuck G f K R vm vp k s) {l : List Int} (hn : l.Nodup) (h : ∀ v ∈ l, v ∈ G.V ∧ f v ∉ R) : l.length ≤ (s - 1) * (k - 1) := by
  have h1 : ∀ v ∈ l, v ∈ (G.V.filter fun u => f u == vm).flatMap G.adj := fun v hv => by
    obtain ⟨u, hu, hfu, hva, _⟩ := S.nbr (h v hv).1 (h v hv).2 S.vm_mem
    exact List.mem_flatMap.mpr ⟨u, List.mem_filter.mpr ⟨hu, by simpa using hfu⟩, hva⟩
  have h2 := length_le_of_nodup hn h1
  have h3 := length_flatMap_le (g := G.adj) (l := G.V.filter fun u => f u == vm) (d := k - 1) fun x hx => S.deg x (List.mem_filter.mp hx).1
  have h4 := S.size vm (S.rK vm S.vm_mem)
  rw [sz_filter] at h4
  have e1 : (vp == vm) = false := by simpa using S.ne.symm
  simp only [e1, beq_self_eq_true, ib, if_true, Bool.false_eq_true, if_false] at h4
  have h5 : (G.V.filter fun u => f u == vm).length = s - 1 := by have := S.s2; omega
  rw [h5] at h3
  omega
theorem Stuck.cover (S : Stuck G f K R vm vp k s) : ∀ c ∈ K, c ∈ R ∨ c = vp := fun c hcK => Classical.byContradiction fun hno => by
  rw [not_or] at hno
  obtain ⟨hcR, hcv⟩ := hno
  have hcm : c ≠ vm := by rintro rfl; exact hcR S.vm_mem
  have hb := S.bound (l := (G.V.filter fun u => f u == vp) ++ (G.V.filter fun u => f u == c)) (List.nodup_append.mpr ⟨S.g.nodup.filter _, S.g.nodup.filter _, fun x hx y hy => by
      rintro rfl
      have h1 := (List.mem_filter.mp hx).2
      have h2 := (List.mem_filter.mp hy).2
      simp at h1 h2
      exact hcv (by rw [← h2, h1])⟩) (fun v hv => by
    rcases List.mem_append.mp hv with hv | hv
    · have h2 := (List.mem_filter.mp hv).2; simp at h2; exact ⟨(List.mem_filter.mp hv).1, by rw [h2]; exact S.vpR⟩
    · have h2 := (List.mem_filter.mp hv).2; simp at h2; exact ⟨(List.mem_filter.mp hv).1, by rw [h2]; exact hcR⟩)
  rw [List.length_append] at hb
  have h1 := S.size vp S.vpK
  have h2 := S.size c hcK
  rw [sz_filter] at h1 h2
  have e1 : (vm == vp) = false := by simpa using S.ne
  have e2 : (vp == c) = false := by simpa using Ne.symm hcv
  have e3 : (vm == c) = false := by simpa using Ne.symm hcm
  simp only [e1, e2, e3, beq_self_eq_true, ib, if_true, Bool.false_eq_true, if_false] at h1 h2
  obtain ⟨s1, s2⟩ := S.s2
  obtain ⟨k1, k2⟩ := S.k2
  have hk : (s - 1) * (k - 1) ≤ (s - 1) * 3 := Nat.mul_le_mul_left _ (by omega)
  omega
theorem Stuck.size3 (S : Stuck G f K R vm vp k s) : 3 ≤ k ∧ R.length = k - 1 := by
  have hb := S.bound (l := G.V.filter fun u => f u == vp) (S.g.nodup.filter _) (fun v hv => by
    have h2 := (List.mem_filter.mp hv).2; simp at h2; exact ⟨(List.mem_filter.mp hv).1, by rw [h2]; exact S.vpR⟩)
  have h1 := S.size vp S.vpK
  rw [sz_filter] at h1
  have e1 : (vm == vp) = false := by simpa using S.ne
  simp only [e1, beq_self_eq_true, ib, if_true, Bool.false_eq_true, if_false] at h1
  obtain ⟨s1, s2⟩ := S.s2
  obtain ⟨k1, k2⟩ := S.k2
  have hk3 : 3 ≤ k := by
    rcases Nat.lt_or_ge k 3 with h | h
    · have : k = 2 := by omega
      subst this
      omega
    · exact h
  refine ⟨hk3, ?_⟩
  have h2 := length_le_of_nodup S.kn (m := vp :: R) fun c hc => by rcases S.cover c hc with h | h; exact .tail _ h; exact h ▸ .head _
  have h3 := length_le_of_nodup (l := vp :: R) (List.nodup_cons.mpr ⟨S.vpR, S.rn⟩) (m := K) fun c hc => by rcases List.mem_cons.mp hc with h | h; exact h ▸ S.vpK; exact S.rK c h
  rw [S.kl] at h2 h3
  simp only [List.length_cons] at h2 h3
  omega
/-- a node of V_plus has one neighbour in each class that is reached -/
theorem Stuck.one (S : Stuck G f K R vm vp k s) {y c : Int} (hy : y ∈ G.V) (hf : f y = vp) (hc' : c ∈ R) : (G.adj y).countP (fun w => f w == c) = 1 := by
  have h1 := sum_counts S.rn f (G.adj y)
  have h2 := S.deg y hy
  exact sum_tight (fun c hc => S.nF_pos hy (hf ▸ S.vpR) hc) (by rw [S.size3.2]; omega) c hc'
/-- in the last class that is reached there is a node with two neighbours in V_plus, and a class open to it -/
theorem Stuck.pigeon (S : Stuck G f K R vm vp k s) {W : Int} (hW : W ∈ R) (hWm : W ≠ vm) : ∃ w ∈ G.V, f w = W ∧ nF G f w vp ≠ 0 ∧ ∃ X ∈ R, X ≠ W ∧ nF G f w X = 0 := by
  have hWv : W ≠ vp := by rintro rfl; exact S.vpR hW
  have hex : ∃ w ∈ G.V, f w = W ∧ 2 ≤ (G.adj w).countP fun y => f y == vp := Classical.byContradiction fun hno => by
    have h1 : ∀ y ∈ (G.V.filter fun u => f u == vp), y ∈ (G.V.filter fun u => f u == W).flatMap fun w => (G.adj w).filter fun y => f y == vp := fun y hy => by
      obtain ⟨hyV, hfy⟩ := List.mem_filter.mp hy
      have hfy' : f y = vp := by simpa using hfy
      obtain ⟨u, hu, hfu, hya, _⟩ := S.nbr hyV (hfy' ▸ S.vpR) hW
      exact List.mem_flatMap.mpr ⟨u, List.mem_filter.mpr ⟨hu, by simpa using hfu⟩, List.mem_filter.mpr ⟨hya, hfy⟩⟩
    have h2 := length_le_of_nodup (S.g.nodup.filter _) h1
    have h3 := length_flatMap_le (g := fun w => (G.adj w).filter fun y => f y == vp) (l := G.V.filter fun u => f u == W) (d := 1) fun x hx => by
      obtain ⟨hx1, hx2⟩ := List.mem_filter.mp hx
      rw [← List.countP_eq_length_filter]
      have h6 : ¬ 2 ≤ (G.adj x).countP fun y => f y == vp := fun h => hno ⟨x, hx1, by simpa using hx2, h⟩
      omega
    have h4 := S.size vp S.vpK
    have h5 := S.size W (S.rK W hW)
    rw [sz_filter] at h4 h5
    have e1 : (vm == vp) = false := by simpa using S.ne
    have e2 : (vp == W) = false := by simpa using Ne.symm hWv
    have e3 : (vm == W) = false := by simpa using Ne.symm hWm
    simp only [e1, e2, e3, beq_self_eq_true, ib, if_true, Bool.false_eq_true, if_false] at h4 h5
    omega
  obtain ⟨w, hw, hfw, h2⟩ := hex
  refine ⟨w, hw, hfw, by unfold nF cnt; omega, Classical.byContradiction fun hno => ?_⟩
  have hge : ∀ c ∈ R.erase W, 1 ≤ (G.adj w).countP fun y => f y == c := fun c hc => by
    obtain ⟨h3, h4⟩ := (List.Nodup.mem_erase_iff S.rn).mp hc
    have this : ¬ nF G f w c = 0 := fun h => hno ⟨c, h4, h3, h⟩
    unfold nF cnt at this
    omega
  have h3 := sum_counts (R := vp :: R.erase W) (List.nodup_cons.mpr ⟨fun h => S.vpR (List.mem_of_mem_erase h), S.rn.erase W⟩) f (G.adj w)
  have h4 := sum_ge hge
  simp only [List.map_cons, List.sum_cons] at h3
  have h5 := S.deg w hw
  have h6 := S.size3
  rw [List.length_erase_of_mem hW] at h4
  omega
end
end Mine

/-! P14 -/
namespace Mine
section
variable {prog : Program} {w : World} {c : Cx} {ρ : Rho} {σ : AH}
theorem RLe.trans {a b c : Rho} (x : RLe a b) (y : RLe b c) : RLe a c := fun n v h => y n v (x n v h)
/-- for, with what holds after it -/
theorem S1.forK {x : Str} {px pos : Pos} {iter : Expr} {body orelse : List Stmt} {items : List AV} {Src : AH → Prop} {Q : AF → Rho → AH → Prop} {n : Nat} (R : Rho → AH → Prop) (hA : Rm c.A n)
    (hit : ITt prog w c ρ σ (eval iter c.env) items Src) (Inv : Nat → Rho → AH → Prop) (h0 : Inv 0 ρ σ) (hsrc : ∀ i ρ₁ σ₁, i ≤ items.length → Inv i ρ₁ σ₁ → Src σ₁)
    (step : ∀ i a ρ₁ σ₁ P', items[i]? = some a → Inv i ρ₁ σ₁ → SX prog w (c.pinned P') ((x, a) :: ρ₁) σ₁ body
      (fun f ρ₂ σ₂ => match f with | .next => Inv (i + 1) ρ₂ σ₂ | .cont => Inv (i + 1) ρ₂ σ₂ | .brk => R ρ₂ σ₂ | .ret v => False))
    (fin : ∀ ρ₁ σ₁, Inv items.length ρ₁ σ₁ → SX prog w c ρ₁ σ₁ orelse (fun f ρ₂ σ₂ => f = .next ∧ R ρ₂ σ₂)) (k : ∀ ρ₁ σ₁, R ρ₁ σ₁ → Q .next ρ₁ σ₁)
    (hx : isSto c.env c.wr x = true := by rfl) (hs : ∀ x, foldedSetIterable iter c.env x = pure x := by intro _; rfl) : S1 prog w c ρ σ (.For (.Name x px) iter body orelse pos) Q :=
  SXt.mono (S1.for_ (Q := fun f ρ₂ σ₂ => f = .next ∧ R ρ₂ σ₂) hA hit Inv h0 hsrc (fun i a ρ₁ σ₁ P' hi hI => SXt.mono (step i a ρ₁ σ₁ P' hi hI) fun f ρ₂ σ₂ h => by
    cases f with
    | next => exact h
    | cont => exact h
    | brk => exact ⟨rfl, h⟩
    | ret v => exact h.elim) fin hx hs) fun f ρ₂ σ₂ ⟨e, r⟩ => e ▸ k ρ₂ σ₂ r
end

section
variable {prog : Program} {w : World} {A : Around} {B : Basis} {P : Pins} {pm cd doc dV : Value} {L fa : Addr} {σ σ₀ : AH} {G : Gr} {a : Nm} {f : Int → Int} {cls : Int → List Int}

theorem BS.apart {E : Int → Bool} {e ac t rc rq mk : Addr} {vm : Int} {i : Nat} {R : List Int} {dT : DI} {X : Addr → Prop} {σ' : AH} (b : BS G a f cls σ₀ E e ac t rc rq mk vm i R dT σ) (o : Off X σ σ') (hX : ∀ x, X x → σ.Fresh x) : BS G a f cls σ₀ E e ac t rc rq mk vm i R dT σ' :=
  { b with
    good := b.good.apart o fun x hx h => b.good.tabs.known h (hX x hx)
    off := b.off.trans (o.mono fun x hx => b.off.freshX (fun _ h => h) (hX x hx))
    hq := (o.list rq fun h => by have := (hX _ h).1; rw [b.hq] at this; cases this).trans b.hq
    hr := (o.list rc fun h => by have := (hX _ h).1; rw [b.hr] at this; cases this).trans b.hr
    ha := let ⟨S, h1, h2⟩ := b.ha; ⟨S, (o.set ac fun h => by have := (hX _ h).2.2.2.1; rw [h1] at this; cases this).trans h1, h2⟩
    hm := let ⟨S, n, h1, h2⟩ := b.hm; ⟨S, n, (o.set mk fun h => by have := (hX _ h).2.2.2.1; rw [h1] at this; cases this).trans h1, h2⟩
    ht := (o.dI t fun h => by have := (hX _ h).2.1; rw [b.ht] at this; cases this).trans b.ht
    he := let ⟨n, h1⟩ := b.he; ⟨n, (o.set e fun h => by have := (hX _ h).2.2.2.1; rw [h1] at this; cases this).trans h1⟩ }
theorem BS.newS {E : Int → Bool} {e ac t rc rq mk : Addr} {vm : Int} {i : Nat} {R : List Int} {dT : DI} (b : BS G a f cls σ₀ E e ac t rc rq mk vm i R dT σ) {D : Addr} (hD : σ.Fresh D) (l n) : BS G a f cls σ₀ E e ac t rc rq mk vm i R dT (σ.setS D l n) :=
  b.apart (.setS (X := (· = D)) σ rfl) fun x h => h ▸ hD
theorem BS.newL {E : Int → Bool} {e ac t rc rq mk : Addr} {vm : Int} {i : Nat} {R : List Int} {dT : DI} (b : BS G a f cls σ₀ E e ac t rc rq mk vm i R dT σ) {D : Addr} (hD : σ.Fresh D) (l) : BS G a f cls σ₀ E e ac t rc rq mk vm i R dT (σ.setL D l) :=
  b.apart (.setL (X := (· = D)) σ rfl) fun x h => h ▸ hD

abbrev eρ (a : Nm) (vm vp : Int) (e ac t rc rq mk a0 a1 : Addr) (i : Nat) (bb : Int) : Rho := ("made_equitable", .bool false) :: ("num_terminal_sets_found", .int 0) :: ("A_cal_0", .ref a1) :: ("A_0", .ref a0) :: ("b", .int bb) :: bρ a vm vp e ac t rc rq mk i
abbrev oρ (a : Nm) (vm vp : Int) (e ac t rc rq mk a0 a1 : Addr) (i : Nat) (bb W : Int) : Rho := ("W_1", .int W) :: eρ a vm vp e ac t rc rq mk a0 a1 i bb
abbrev dρ (bb : Int) : Rho := [("made_equitable", .bool true), ("num_terminal_sets_found", .int 0), ("b", .int bb)]
theorem RLe.done {bb : Int} {ρ : Rho} (h1 : ρ.lookup ("made_equitable" : Str) = some (.bool true)) (h2 : ρ.lookup ("num_terminal_sets_found" : Str) = some (.int 0)) (h3 : ρ.lookup ("b" : Str) = some (.int bb)) : RLe (dρ bb) ρ := fun x a h => by
  by_cases e1 : x = ("made_equitable" : Str)
  · subst e1; rw [lookup_cons_self] at h; cases h; exact h1
  · rw [lookup_cons_ne e1] at h
    by_cases e2 : x = ("num_terminal_sets_found" : Str)
    · subst e2; rw [lookup_cons_self] at h; cases h; exact h2
    · rw [lookup_cons_ne e2] at h
      by_cases e3 : x = ("b" : Str)
      · subst e3; rw [lookup_cons_self] at h; cases h; exact h3
      · rw [lookup_cons_ne e3] at h; cases h
abbrev rρ (a : Nm) (v : Int) (e : Addr) : Rho := [("V_minus", .int v), ("V_plus", .int v), ("N", .ref a.N), ("H", .ref a.H), ("C", .ref a.C), ("F", .ref a.F), ("L", .ref a.L), ("excluded_colors", .ref e)]

set_option maxHeartbeats 8000000 in
theorem pp_out {m : Nat} {fp fm fc T : Addr} {cdp cdm cdc : Value} {vm vp : Int} {e ac t rc rq mk : Addr} {E : Int → Bool} {R : List Int} {dT : DI} {k s : Nat} {Q : AF → Rho → AH → Prop}
    (Fp : Fn B 6 fp cdp (.ref T)) (hT : ∃ o n, B.h₀.get? T = some o ∧ o.data = .seq #[.none] n) (Fm : Fn B 5 fm cdm .none) (Fc : Fn B 4 fc cdc .none)
    (hA : Rm (calleeCx A B P (FD 6 pm cd doc dV .none) L fa).A (m + 4)) (hB : B.OK) (blen : B.mg "len" = none ∧ B.mb "len" = some (.builtin "len")) (bset : B.mg "set" = none ∧ B.mb "set" = some (.type "set"))
    (brev : B.mg "reversed" = none ∧ B.mb "reversed" = some (.type "reversed")) (g : G.OK) (ok : a.OK G) (hV : G.V.length ≤ 900)
    (S₀ : Good G a σ₀ f cls) (b : BS G a f cls σ₀ E e ac t rc rq mk vm R.length R dT σ) (ft : σ₀.Fresh t) (fac : σ₀.Fresh ac) (he : σ₀.set e = some (E, 0)) (heo : ¬ a.own e) (hK4 : ∀ c ∈ a.dC.keys, 0 ≤ c ∧ c < 4)
    (K : Stuck G f a.dC.keys R vm vp k s)
    (q : ∀ ρ' σ', PPost G a σ₀ f vm vp σ' → Q .next ρ' σ') :
    SX prog w (calleeCx A B P (FD 6 pm cd doc dV .none) L fa) (bρ a vm vp e ac t rc rq mk R.length) σ ((stBody (stAt 6)).drop 8) Q := by
  have plen : ∀ {ρ : Rho} {σ : AH} {pos : Pos}, PE prog w (calleeCx A B P (FD 6 pm cd doc dV .none) L fa) ρ σ (.Name "len" pos) (.val (.builtin "len")) := PE.builtin hB blen.1 blen.2
  have pset : ∀ {ρ : Rho} {σ : AH} {pos : Pos}, PE prog w (calleeCx A B P (FD 6 pm cd doc dV .none) L fa) ρ σ (.Name "set" pos) (.val (.type "set")) := PE.builtin hB bset.1 bset.2
  have prev : ∀ {ρ : Rho} {σ : AH} {pos : Pos}, PE prog w (calleeCx A B P (FD 6 pm cd doc dV .none) L fa) ρ σ (.Name "reversed" pos) (.val (.type "reversed")) := PE.builtin hB brev.1 brev.2
  obtain ⟨Sa, hSa, hSa'⟩ := b.ha
  rw [List.take_length] at hSa'
  have hRl : R.length ≤ a.dC.keys.length := length_le_of_nodup b.nodup b.sub
  have hk3 := K.size3
  refine SX.cons (S1.assign ((PE.sub (PE.len plen (PE.name rfl) (.inr (.inl ⟨a.C, a.dC, rfl, ok.cm, b.good.tabs.C, rfl⟩)) (by have := ok.zk; omega)) (PE.len plen (PE.name rfl) (.inr (.inr ⟨ac, Sa, rfl, hSa⟩)) (by have := ok.zk; omega))).ev ?_))
  have hin : Sa vp = false := by rw [hSa']; simpa using K.vpR
  refine SX.cons (S1.iteB (PT.cmp (PE.name rfl) (PE.name rfl) (CP.inS hSa)) (fun h => by rw [hin] at h; cases h) (fun _ => ?_))
  have hbb : ((a.dC.keys.length : Nat) : Int) - (R.length : Nat) ≠ 0 := by rw [K.kl, hk3.2]; omega
  generalize ((a.dC.keys.length : Nat) : Int) - (R.length : Nat) = bb at hbb ⊢
  refine SX.cons (S1.assign (EV.set0 pset fun a0 na0 => ?_))
  have b := b.newS na0.fresh (fun _ => false) 0
  generalize σ.setS a0 (fun _ => false) 0 = σ at b ⊢
  refine SX.cons (S1.assign (EV.set0 pset fun a1 na1 => ?_))
  have b := b.newS na1.fresh (fun _ => false) 0
  generalize σ.setS a1 (fun _ => false) 0 = σe at b ⊢
  refine SX.cons (S1.assign (PE.int.ev ?_))
  refine SX.cons (S1.assign (PE.bool.ev ?_))
  -- the last colour reached
  have hRne : R ≠ [] := by intro h; rw [h] at hk3; simp at hk3; omega
  obtain ⟨W, hWl⟩ : ∃ W, R.getLast? = some W := ⟨_, List.getLast?_eq_some_getLast hRne⟩
  have hWR : W ∈ R := List.mem_of_getLast? hWl
  have hWK := K.rK W hWR
  have hWm : W ≠ vm := by
    rintro rfl
    have h1 : R[R.length - 1]? = some W := by rw [← List.getLast?_eq_getElem?]; exact hWl
    have h2 : R[0]? = some W := by rw [← List.head?_eq_getElem?]; exact K.vmR
    obtain ⟨l1, e1⟩ := List.getElem?_eq_some_iff.mp h1
    obtain ⟨l2, e2⟩ := List.getElem?_eq_some_iff.mp h2
    have := (List.getElem_inj K.rn (h₀ := l1) (h₁ := l2)).mp (by rw [e1, e2])
    omega
  have hWv : W ≠ vp := by rintro rfl; exact K.vpR hWR
  have hrc : σe.list rc = some (R.map AV.int) := by have := b.hr; rwa [List.take_length] at this
  refine SX.cons (S1.for_ hA (ITt.rev prev (PE.name rfl) hrc) (fun i ρ' σ' => i = 0 ∧ RLe (eρ a vm vp e ac t rc rq mk a0 a1 R.length bb) ρ' ∧ σe = σ') ⟨rfl, .refl _, rfl⟩ ?_ ?_ ?_)
  · rintro i ρ' _ _ ⟨_, _, rfl⟩; exact hrc
  · rintro i av ρ₁ _ P1 hi ⟨rfl, hle, rfl⟩
    have hav : av = .int W := by
      rw [← List.head?_eq_getElem?, List.head?_reverse, List.getLast?_map, hWl] at hi
      simpa using hi.symm
    subst hav
    replace hA : Rm ((calleeCx A B P (FD 6 pm cd doc dV .none) L fa).pinned P1).A (m + 4) := hA
    refine SX.weaken (hle.cons _ _) (.refl _) (ρ₀ := ("W_1", .int W) :: eρ a vm vp e ac t rc rq mk a0 a1 R.length bb) (h := ?_)
    have hclW := b.good.tabs.cls W hWK
    refine SX.cons (S1.forK (fun ρ' σ' => RLe (dρ bb) ρ' ∧ PPost G a σ₀ f vm vp σ') hA (ITt.list (PE.sub_ (by exact hA) (PE.name rfl) (PE.name rfl) (b.good.tabs.gC ok hWK)) hclW.1)
      (fun i ρ' σ' => RLe (oρ a vm vp e ac t rc rq mk a0 a1 R.length bb W) ρ' ∧ σe = σ' ∧ ∀ v ∈ (cls W).take i, ¬ ((∃ X ∈ R, X ≠ W ∧ nF G f v X = 0) ∧ nF G f v vp ≠ 0)) ⟨.refl _, rfl, fun v hv => by simp at hv⟩ ?_ ?_ ?_ ?_)
    · rintro i ρ' _ _ ⟨_, rfl, _⟩; exact hclW.1
    · rintro i av ρ₂ _ P2 hi ⟨hle, rfl, hno⟩
      obtain ⟨v, hv, rfl⟩ := getElem?_ints hi
      have hvc : v ∈ cls W := List.mem_of_getElem? hv
      obtain ⟨hvV, hfv⟩ := (b.good.mem W hWK v).mp hvc
      have hmt := mem_take_succ hv
      replace hA : Rm (((calleeCx A B P (FD 6 pm cd doc dV .none) L fa).pinned P1).pinned P2).A (m + 4) := hA
      refine SX.weaken (hle.cons _ _) (.refl _) (ρ₀ := ("v", .int v) :: oρ a vm vp e ac t rc rq mk a0 a1 R.length bb W) (h := ?_)
      refine SX.cons (S1.assign (PE.none.ev ?_))
      refine SX.cons (S1.forK (fun ρ' σ' => σe = σ' ∧ ∃ xv, RLe (("X", xv) :: ("v", .int v) :: oρ a vm vp e ac t rc rq mk a0 a1 R.length bb W) ρ' ∧ ((xv = .none ∧ ∀ U ∈ a.dC.keys, ¬ (nF G f v U = 0 ∧ U ∈ R ∧ U ≠ W)) ∨ ∃ U, xv = .int U ∧ nF G f v U = 0 ∧ U ∈ R ∧ U ≠ W)) hA (ITt.keys (PE.name rfl) b.good.tabs.C ok.cm)
        (fun j ρ' σ' => σe = σ' ∧ ∃ xv, RLe (("X", xv) :: ("v", .int v) :: oρ a vm vp e ac t rc rq mk a0 a1 R.length bb W) ρ' ∧ ((xv = .none ∧ ∀ U ∈ a.dC.keys.take j, ¬ (nF G f v U = 0 ∧ U ∈ R ∧ U ≠ W)) ∨ ∃ U, xv = .int U ∧ nF G f v U = 0 ∧ U ∈ R ∧ U ≠ W)) ?_ ?_ ?_ ?_ ?_)
      · exact ⟨rfl, .none, .refl _, .inl ⟨rfl, fun U hU => by simp at hU⟩⟩
      · rintro j ρ' _ _ ⟨rfl, _⟩; exact ⟨_, b.good.tabs.C⟩
      · rintro j av ρ₃ _ P3 hj ⟨rfl, xv, hle, hx⟩
        obtain ⟨U, hU, rfl⟩ := getElem?_ints hj
        have hUK : U ∈ a.dC.keys := List.mem_of_getElem? hU
        have hmt := mem_take_succ hU
        replace hA : Rm ((((calleeCx A B P (FD 6 pm cd doc dV .none) L fa).pinned P1).pinned P2).pinned P3).A (m + 4) := hA
        refine SX.weaken (hle.cons _ _) (.refl _) (ρ₀ := ("U", .int U) :: ("X", xv) :: ("v", .int v) :: oρ a vm vp e ac t rc rq mk a0 a1 R.length bb W) (h := ?_)
        obtain ⟨Sa, hSa, hSa'⟩ := b.ha
        rw [List.take_length] at hSa'
        refine SX.cons (S1.iteB (PT.bool (PA.and_cons (PT.cmp (PE.sub_ hA (PE.name rfl) (PE.pair (PE.name rfl) (PE.name rfl)) (b.good.tabs.gN ok hvV hUK)) PE.int CP.eq) fun _ => PA.and_cons (PT.cmp (PE.name rfl) (PE.name rfl) (CP.inS hSa)) fun _ => PA.and_cons (PT.cmp (PE.name rfl) (PE.name rfl) CP.ne) fun _ => PA.and_nil)) (fun h0 => ?_) (fun h0 => ?_))
        · have h0' : nF G f v U = 0 ∧ U ∈ R ∧ U ≠ W := by simpa [hSa'] using h0
          refine SX.cons (S1.assign ((PE.name rfl).ev ?_))
          exact SX.nil (SX.nil ⟨rfl, .int U, ((RLe.refl _).skip _).skip _ |>.cons _ _, .inr ⟨U, rfl, h0'⟩⟩)
        · have h0' : ¬ (nF G f v U = 0 ∧ U ∈ R ∧ U ≠ W) := fun h => by simp [hSa', h] at h0
          refine SX.nil (SX.nil ⟨rfl, xv, (RLe.refl _).skip _, ?_⟩)
          rcases hx with ⟨e1, e2⟩ | hx
          · exact .inl ⟨e1, fun U' hU' => by rcases (hmt U').mp hU' with h | h; exact e2 U' h; exact h ▸ h0'⟩
          · exact .inr hx
      · rintro ρ₃ _ ⟨rfl, xv, hle, hx⟩
        rw [List.length_map, List.take_length] at hx
        exact SX.nil ⟨rfl, rfl, xv, hle, hx⟩
      · rintro ρ₃ _ ⟨rfl, xv, hle, hx⟩
        refine SX.weaken (ρ₀ := ("X", xv) :: ("v", .int v) :: oρ a vm vp e ac t rc rq mk a0 a1 R.length bb W) ?_ hle (.refl _)
        rcases hx with ⟨rfl, hx⟩ | ⟨X, rfl, hx1, hx2, hx3⟩
        · refine SX.cons (S1.iteB (PT.cmp (PE.name rfl) PE.none (CP.isNone (a := .none) (b := true) rfl)) (fun _ => ?_) (fun h => by cases h))
          refine SX.cons (S1.cont ⟨((RLe.refl _).skip _).skip _, rfl, fun v' hv' => ?_⟩)
          rcases (hmt v').mp hv' with h | h
          · exact hno v' h
          · subst h
            rintro ⟨⟨X, h1, h2, h3⟩, _⟩
            exact hx X (K.rK X h1) ⟨h3, h1, h2⟩
        · refine SX.cons (S1.iteB (PT.cmp (PE.name rfl) PE.none (CP.isNone (a := .int X) (b := false) rfl)) (fun h => by cases h) (fun _ => SX.nil ?_))
          refine SX.cons (S1.forK (fun ρ' σ' => (RLe (dρ bb) ρ' ∧ PPost G a σ₀ f vm vp σ') ∨ (σe = σ' ∧ RLe (oρ a vm vp e ac t rc rq mk a0 a1 R.length bb W) ρ' ∧ nF G f v vp = 0)) hA (ITt.keys (PE.name rfl) b.good.tabs.C ok.cm)
            (fun j ρ' σ' => σe = σ' ∧ RLe (("X", .int X) :: ("v", .int v) :: oρ a vm vp e ac t rc rq mk a0 a1 R.length bb W) ρ' ∧ ∀ U ∈ a.dC.keys.take j, ¬ (1 ≤ nF G f v U ∧ U ∉ R)) ?_ ?_ ?_ ?_ ?_)
          · exact ⟨rfl, .refl _, fun U hU => by simp at hU⟩
          · rintro j ρ' _ _ ⟨rfl, _⟩; exact ⟨_, b.good.tabs.C⟩
          · rintro j av ρ₃ _ P3 hj ⟨rfl, hle, hU0⟩
            obtain ⟨U, hU, rfl⟩ := getElem?_ints hj
            have hUK : U ∈ a.dC.keys := List.mem_of_getElem? hU
            have hmt2 := mem_take_succ hU
            replace hA : Rm ((((calleeCx A B P (FD 6 pm cd doc dV .none) L fa).pinned P1).pinned P2).pinned P3).A (m + 4) := hA
            refine SX.weaken (hle.cons _ _) (.refl _) (ρ₀ := ("U", .int U) :: ("X", .int X) :: ("v", .int v) :: oρ a vm vp e ac t rc rq mk a0 a1 R.length bb W) (h := ?_)
            obtain ⟨Sa, hSa, hSa'⟩ := b.ha
            rw [List.take_length] at hSa'
            refine SX.cons (S1.iteB (PT.bool (PA.and_cons (PT.cmp (PE.sub_ hA (PE.name rfl) (PE.pair (PE.name rfl) (PE.name rfl)) (b.good.tabs.gN ok hvV hUK)) PE.int CP.ge) fun _ => PA.and_cons (PT.cmp (PE.name rfl) (PE.name rfl) (CP.ninS hSa)) fun _ => PA.and_nil)) (fun h0 => ?_) (fun h0 => ?_))
            · have h0' : 1 ≤ nF G f v U ∧ U ∉ R := by simpa [hSa'] using h0
              have hUv : U = vp := (K.cover U hUK).resolve_left h0'.2
              obtain rfl : vp = U := hUv.symm
              have hnv := h0'.1
              refine SX.cons (S1.assign ((PE.name rfl).ev ?_))
              refine SX.cons (S1.assign ((PE.name rfl).ev ?_))
              have hadj := b.good.tabs.adj v hvV
              refine SX.cons (S1.assignC (EC.filter (fun y => decide (f y = vp) && (decide (nF G f y W = 1) && true)) hA (ITt.list (PE.sub_ (by exact hA) (PE.name rfl) (PE.name rfl) (b.good.tabs.gL ok hvV)) hadj) (.list hadj)
                (by have := K.deg v hvV; have := K.k2; omega) (fun D ys L' P' y hD hy => ?_) (fun D hD => ?_)))
              · have S₂ := b.good.newL hD.fresh ys
                have hyV := g.sub v hvV y hy
                exact PT.bool (PA.and_cons (PT.cmp (PE.sub_ (by exact hA) (PE.name rfl) (PE.name rfl) (S₂.tabs.gF ok hyV)) (PE.name rfl) CP.eq) fun _ =>
                  PA.and_cons (PT.cmp (PE.sub_ (by exact hA) (PE.name rfl) (PE.pair (PE.name rfl) (PE.name rfl)) (S₂.tabs.gN ok hyV hWK)) PE.int CP.eq) fun _ => PA.and_nil)
              -- a node to come back
              obtain ⟨z, hz, hfz⟩ : ∃ z ∈ G.adj v, f z = vp := by
                have h1 : 0 < (G.adj v).countP fun w => f w == vp := by unfold nF cnt at hnv; omega
                obtain ⟨z, h2, h3⟩ := List.countP_pos_iff.mp h1
                exact ⟨z, h2, by simpa using h3⟩
              have hone : ∀ y ∈ G.V, f y = vp → nF G f y W = 1 := fun y hy hfy => by have := K.one hy hfy hWR; unfold nF cnt; omega
              have hzm : z ∈ (G.adj v).filter (fun y => decide (f y = vp) && (decide (nF G f y W = 1) && true)) := List.mem_filter.mpr ⟨hz, by simp [hfz, hone z (g.sub v hvV z hz) hfz]⟩
              obtain ⟨y, rest, hys⟩ : ∃ y rest, (G.adj v).filter (fun y => decide (f y = vp) && (decide (nF G f y W = 1) && true)) = y :: rest := by
                cases e1 : (G.adj v).filter (fun y => decide (f y = vp) && (decide (nF G f y W = 1) && true)) with
                | nil => rw [e1] at hzm; cases hzm
                | cons y rest => exact ⟨y, rest, rfl⟩
              have hyf := List.mem_filter.mp (hys ▸ (List.Mem.head rest : y ∈ y :: rest))
              obtain ⟨hyA, hyp⟩ := hyf
              have hyV := g.sub v hvV y hyA
              simp only [Bool.and_true, Bool.and_eq_true, decide_eq_true_eq] at hyp
              obtain ⟨hfy, hny⟩ := hyp
              have hlen : (y :: rest).length ≤ 1000 := by rw [← hys]; exact Nat.le_trans (List.length_filter_le _ _) (by have := K.deg v hvV; have := K.k2; omega)
              rw [hys]
              have b₂ := b.newL hD.fresh ((y :: rest).map AV.int)
              have hDl : (σe.setL D ((y :: rest).map AV.int)).list D = some ((y :: rest).map AV.int) := by simp [AH.setL]
              generalize σe.setL D ((y :: rest).map AV.int) = σ₂ at b₂ hDl ⊢
              refine SX.cons (S1.iteV (TV.val ((PE.name rfl).ev ⟨true, .list (xs := (y :: rest).map AV.int) hDl (by rw [List.length_map]; omega), ?_⟩)))
              rw [if_pos rfl]
              refine SX.cons (S1.assign ((PE.sub_ hA (PE.name rfl) PE.int (.list hDl (by decide) (by decide) rfl)).ev ?_))
              refine SX.cons (S1.assign ((PE.name rfl).ev ?_))
              have hXW : W ≠ X := Ne.symm hx3
              have hXK := K.rK X hx2
              -- w goes to X
              refine SX.cons (S1.expr (EV.call hB (Fc.fn.choose_spec.choose_spec) (.cons (PE.name rfl) (fun _ => rfl) (.cons (PE.name rfl) (fun _ => rfl) (.cons (PE.name rfl) (fun _ => rfl) .nil)))
                (.cons (PE.name rfl) (.cons (PE.name rfl) (.cons (PE.name rfl) (.cons (PE.name rfl) (.cons (PE.name rfl) .nil)))))
                (cc_ok Fc hA hB g ok b₂.good hV hvV hfv hXK hXW fun σ₃ S₃ O₃ => ?_).1))
              have hto : ¬ a.own t := fun h => S₀.tabs.known (Nm.own_all h) ft
              obtain ⟨jx, hjx⟩ := List.getElem?_of_mem hx2
              obtain ⟨r, p1, p2, p3, p4⟩ := b.way (jx + 1) jx X (by omega) hjx
              have hWi : R[R.length - 1]? = some W := by rw [← List.getLast?_eq_getElem?]; exact hWl
              have hidx : ∀ u ∈ X :: r, ∃ j', j' ≤ jx ∧ R[j']? = some u := fun u hu => by
                rcases List.mem_cons.mp hu with rfl | hu
                · exact ⟨jx, Nat.le_refl _, hjx⟩
                · obtain ⟨j', h1, h2⟩ := p4 u hu; exact ⟨j', by omega, h2⟩
              have hjxl : jx < R.length - 1 := by
                have h1 : jx < R.length := (List.getElem?_eq_some_iff.mp hjx).1
                rcases Nat.lt_or_ge jx (R.length - 1) with h | h
                · exact h
                · exfalso
                  have : jx = R.length - 1 := by omega
                  rw [this, hWi] at hjx
                  exact hXW (Option.some.inj hjx)
              have hWn : W ∉ X :: r := fun h => by
                obtain ⟨j', h1, h2⟩ := hidx W h
                obtain ⟨l1, e1⟩ := List.getElem?_eq_some_iff.mp h2
                obtain ⟨l2, e2⟩ := List.getElem?_eq_some_iff.mp hWi
                have := (List.getElem_inj K.rn (h₀ := l1) (h₁ := l2)).mp (by rw [e1, e2])
                omega
              have hvpn : vp ∉ X :: r := fun h => by
                obtain ⟨j', h1, h2⟩ := hidx vp h
                exact K.vpR (List.mem_of_getElem? h2)
              have p1' : Path G a.dC.keys (upd f v X) (X :: r) := by
                refine Path.step hfv p1 hWn ?_
                cases p1 with
                | one => rfl
                | cons h1 h2 h3 h4 =>
                  simp only [List.tail_cons, List.all_eq_true, bne_iff_ne, ne_eq]
                  rintro x hx rfl; exact h2 hx
              have ht₃ : σ₃.dI t = some dT := (O₃.dI t hto).trans b₂.ht
              have o₂ : Off (a.ownN σ₀) σ₀ σ₂ := b₂.offX
              have o₃ : Off (a.ownN σ₀) σ₀ σ₃ := o₂.trans (O₃.mono fun _ h => .inl h)
              -- along the path
              refine SX.cons (S1.expr (EV.call hB (Fm.fn.choose_spec.choose_spec) .nil
                (.cons (PE.name rfl) (.cons (PE.name rfl) (.cons (PE.name rfl) (.cons (PE.name rfl) (.cons (PE.name rfl) (.cons (PE.name rfl) (.cons (PE.name rfl) (.cons (PE.name rfl) .nil))))))))
                (mw_ok Fm Fc hA hB g ok S₃ hV ht₃ hto p1' rfl p2 p3 fun σ₄ f₄ cls₄ S₄ O₄ M₄ => ?_).2))
              have o₄ := ownN_trans (X := a.own) o₃ O₄
              have hyv : y ≠ v := by rintro rfl; exact g.irr y hyV hyA
              have hf₄y : f₄ y = vp := (M₄.off hvpn y).mpr (by simp [upd, hyv, hfy])
              have hWvp : vp ≠ W := Ne.symm hWv
              -- y comes to W
              refine SX.cons (S1.expr (EV.call hB (Fc.fn.choose_spec.choose_spec) (.cons (PE.name rfl) (fun _ => rfl) (.cons (PE.name rfl) (fun _ => rfl) (.cons (PE.name rfl) (fun _ => rfl) .nil)))
                (.cons (PE.name rfl) (.cons (PE.name rfl) (.cons (PE.name rfl) (.cons (PE.name rfl) (.cons (PE.name rfl) .nil)))))
                (cc_ok Fc hA hB g ok S₄ hV hyV hf₄y hWK hWvp fun σ₅ S₅ O₅ => ?_).1))
              have o₅ : Off (a.ownN σ₀) σ₀ σ₅ := o₄.trans (O₅.mono fun _ h => .inl h)
              have heσ : σ₅.set e = some (E, 0) := (o₅.set e fun h => h.elim heo fun h => by rw [h.2.2.2.1] at he; cases he).trans he
              have haco : ¬ a.own ac := fun h => S₀.tabs.known (Nm.own_all h) fac
              obtain ⟨Sb, hSb, hSb'⟩ := b₂.ha
              rw [List.take_length] at hSb'
              have o₂₅ : Off (fun x => a.own x ∨ σ₃.Fresh x) σ₂ σ₅ := (O₃.mono fun _ h => .inl h).trans ((O₄ : Off (a.ownN σ₃) σ₃ σ₄).trans (O₅.mono fun _ h => .inl h))
              have hac₃ : ¬ σ₃.Fresh ac := fun h => by have h1 := (O₃.set ac haco).trans hSb; rw [h.2.2.2.1] at h1; cases h1
              have hac₅ : σ₅.set ac = some (Sb, R.length) := (o₂₅.set ac fun h => h.elim haco hac₃).trans hSb
              have heac : e ≠ ac := by rintro rfl; rw [fac.2.2.2.1] at he; cases he
              refine SX.cons (S1.expr (EV.callK hB (Fp.fn.choose_spec.choose_spec) (R := fun as σ' => ∃ D' T' n', Nw σ₅ D' ∧ σ' = σ₅.setS D' T' n' ∧
                  as = rρ a vp D')
                (.pe (PE.name rfl) (.pe (PE.name rfl) (.pe (PE.name rfl) (.pe (PE.name rfl) (.pe (PE.name rfl) (.pe (PE.name rfl) (.pe (PE.name rfl)
                  (.cons (EV.meth (T := "set") (id := "set.union") (R := fun av σ' => av = .ref e ∧ σ' = σ₅) (Q := fun av σ' => ∃ D' T' n', Nw σ₅ D' ∧ σ' = σ₅.setS D' T' n' ∧ av = .ref D') ((PE.name rfl).ev ⟨rfl, rfl⟩) F.plainAttrs_set F.slot_set_union F.type_set_union (fun av σ' ⟨e1, e2⟩ => ?_))
                    (fun av σ' ⟨D', T', n', h1, h2, h3⟩ => .nil ⟨D', T', n', h1, h2, by rw [h3]⟩)))))))))
                (fun as σ' ⟨D', T', n', h1, h2, h3⟩ => ?_)))
              · subst e1 e2
                refine ⟨.set heσ, [.ref ac], .cons (PE.name rfl) (fun _ => rfl) .nil, BC.union heσ hac₅ heac (by have := K.k2; omega) (fun c hc' => ?_) fun D' T' n' h1 h2 => ⟨D', T', n', h1, rfl, rfl⟩⟩
                rw [hSb'] at hc'
                exact hK4 c (K.rK c (of_decide_eq_true hc'))
              · subst h2 h3
                have S₆ := S₅.newS h1.fresh T' n'
                refine pp_noop Fp hT Fm Fc hA hB blen bset g ok hV S₆ K.vpK (E := T') (ne := n') (by simp [AH.setS]) fun σ₇ pp => ?_
                obtain ⟨f', cls', S', o', hp', hs'⟩ := pp
                refine SX.cons (S1.assign (PE.bool.ev ?_))
                refine SX.cons (S1.brk (.inl ⟨?_, f', cls', S', ?_, ?_, ?_⟩))
                · exact RLe.done rfl rfl rfl
                · have o₆ : Off (a.ownN σ₀) σ₀ (σ₅.setS D' T' n') := o₅.trans (.setS _ (o₅.freshX (fun _ h => .inr h) h1.fresh))
                  exact ownN_trans (X := a.own) o₆ o'
                · intro hP
                  refine hp' ?_
                  have q1 := hP.upd g hvV hx1
                  have q2 := M₄.proper g q1
                  refine q2.upd g hyV ?_
                  rw [M₄.nF_off hWn y]
                  have := nF_at g (f := f) (Y := X) hvV hyA W
                  rw [this, hny, hfv]
                  have e1 : (X == W) = false := by simpa using hx3
                  simp [ib, e1]
                · intro c'
                  rw [hs' c', sz_upd g hyV c', hf₄y, M₄.size g rfl p2 c', sz_upd g hvV c', hfv]
                  omega
            · have h0' : ¬ (1 ≤ nF G f v U ∧ U ∉ R) := fun h => by simp [hSa', h] at h0
              refine SX.nil (SX.nil ⟨rfl, (RLe.refl _).skip _, fun U' hU' => ?_⟩)
              rcases (hmt2 U').mp hU' with h | h
              · exact hU0 U' h
              · exact h ▸ h0'
          · rintro ρ₃ _ ⟨rfl, hle, hU0⟩
            rw [List.length_map, List.take_length] at hU0
            refine SX.nil ⟨rfl, .inr ⟨rfl, ?_, ?_⟩⟩
            · exact (((RLe.refl (oρ a vm vp e ac t rc rq mk a0 a1 R.length bb W)).skip (.int v)).skip (.int X)).trans hle
            · have h1 := hU0 vp K.vpK
              have h2 := nF_nonneg G f v vp
              have h3 : ¬ 1 ≤ nF G f v vp := fun h => h1 ⟨h, K.vpR⟩
              omega
          · rintro ρ₃ σ₃ (⟨hle, pp⟩ | ⟨rfl, hle, h0⟩)
            · refine SX.weaken (ρ₀ := dρ bb) ?_ hle (.refl _)
              refine SX.cons (S1.iteB (PT.nameB (PE.name rfl)) (fun _ => ?_) (fun h => by cases h))
              exact SX.cons (S1.brk ⟨.refl _, pp⟩)
            · refine SX.weaken (ρ₀ := oρ a vm vp e ac t rc rq mk a0 a1 R.length bb W) ?_ hle (.refl _)
              refine SX.cons (S1.iteB (PT.nameB (PE.name rfl)) (fun h => by cases h) (fun _ => SX.nil (SX.nil ⟨.refl _, rfl, fun v' hv' => ?_⟩)))
              rcases (hmt v').mp hv' with h | h
              · exact hno v' h
              · subst h; exact fun h => h.2 h0
    · rintro ρ₂ _ ⟨_, _, hno⟩
      rw [List.length_map, List.take_length] at hno
      obtain ⟨x, hxV, hfx, h1, h2⟩ := K.pigeon hWR hWm
      exact absurd ⟨h2, h1⟩ (hno x ((b.good.mem W hWK x).mpr ⟨hxV, hfx⟩))
    · rintro ρ₂ σ₂ ⟨hle, pp⟩
      refine SX.weaken (ρ₀ := dρ bb) ?_ hle (.refl _)
      refine SX.cons (S1.iteB (PT.cmp (PE.name rfl) (PE.name rfl) CP.eq) (fun h => absurd (of_decide_eq_true h).symm hbb) (fun _ => SX.nil ?_))
      refine SX.cons (S1.iteB (PT.nameB (PE.name rfl)) (fun _ => ?_) (fun h => by cases h))
      exact SX.cons (S1.brk (SX.nil (SX.nil (q _ _ pp))))
  · rintro ρ₁ _ ⟨h0, _, _⟩
    rw [List.length_reverse, List.length_map] at h0
    omega
end
end Mine

/-! P15 -/
namespace Mine
section
variable {prog : Program} {w : World} {A : Around} {B : Basis} {σ : AH} {G : Gr} {a : Nm} {f : Int → Int} {cls : Int → List Int}

theorem PPost.back {σ₁ σ' : AH} {vm vp : Int} (o : Off (a.ownN σ) σ σ₁) (h : PPost G a σ₁ f vm vp σ') : PPost G a σ f vm vp σ' := by
  obtain ⟨f', cls', h1, h2, h3, h4⟩ := h
  exact ⟨f', cls', h1, ownN_trans (X := a.own) o h2, h3, h4⟩

abbrev p0ρ (a : Nm) (vm vp : Int) : Rho := [("V_minus", .int vm), ("V_plus", .int vp), ("N", .ref a.N), ("H", .ref a.H), ("F", .ref a.F), ("C", .ref a.C), ("L", .ref a.L), ("excluded_colors", .none)]
theorem RLe.exc {vm vp : Int} {e : Addr} : RLe (pρ a vm vp e) (("excluded_colors", .ref e) :: p0ρ a vm vp) := fun x b h => by
  by_cases e1 : x = ("excluded_colors" : Str)
  · subst e1
    rw [lookup_cons_self]
    have : (pρ a vm vp e).lookup ("excluded_colors" : Str) = some (.ref e) := rfl
    rw [← h, this]
  · rw [lookup_cons_ne e1]
    by_cases e2 : x = ("V_minus" : Str)
    · subst e2; exact h
    · rw [lookup_cons_ne e2] at h ⊢
      by_cases e3 : x = ("V_plus" : Str)
      · subst e3; exact h
      · rw [lookup_cons_ne e3] at h ⊢
        by_cases e4 : x = ("N" : Str)
        · subst e4; exact h
        · rw [lookup_cons_ne e4] at h ⊢
          by_cases e5 : x = ("H" : Str)
          · subst e5; exact h
          · rw [lookup_cons_ne e5] at h ⊢
            by_cases e6 : x = ("F" : Str)
            · subst e6; exact h
            · rw [lookup_cons_ne e6] at h ⊢
              by_cases e7 : x = ("C" : Str)
              · subst e7; exact h
              · rw [lookup_cons_ne e7] at h ⊢
                by_cases e8 : x = ("L" : Str)
                · subst e8; exact h
                · rw [lookup_cons_ne e8, lookup_cons_ne e1] at h; cases h

/-- the names of builtins that the defs use -/
structure Bn (B : Basis) : Prop where
  len : B.mg "len" = none ∧ B.mb "len" = some (.builtin "len")
  set : B.mg "set" = none ∧ B.mb "set" = some (.type "set")
  rev : B.mg "reversed" = none ∧ B.mb "reversed" = some (.type "reversed")

set_option maxHeartbeats 8000000 in
/-- procedure_P on a proper colouring, one class short of a node, one with a node too many -/
theorem pp_ok {m : Nat} {fp fm fc T : Addr} {cdp cdm cdc : Value} {vm vp : Int} {k s : Nat} {Q : AV → AH → Prop} (Fp : Fn B 6 fp cdp (.ref T)) (hT : ∃ o n, B.h₀.get? T = some o ∧ o.data = .seq #[.none] n) (Fm : Fn B 5 fm cdm .none) (Fc : Fn B 4 fc cdc .none)
    (hA : Rm A (m + 5)) (hB : B.OK) (bn : Bn B) (g : G.OK) (ok : a.OK G) (hV : G.V.length ≤ 900) (S : Good G a σ f cls) (hvm : vm ∈ a.dC.keys) (hvp : vp ∈ a.dC.keys) (hne : vm ≠ vp)
    (hK4 : ∀ c ∈ a.dC.keys, 0 ≤ c ∧ c < 4) (kl : a.dC.keys.length = k) (k2 : 2 ≤ k ∧ k ≤ 4) (s2 : 2 ≤ s ∧ s ≤ 3) (deg : ∀ v ∈ G.V, (G.adj v).length ≤ k - 1) (size : ∀ c ∈ a.dC.keys, sz G f c = s + ib (vp == c) - ib (vm == c))
    (q : ∀ σ', PPost G a σ f vm vp σ' → Q .none σ') :
    CallOK prog w B A (.ref fp) σ [] [("V_minus", .int vm), ("V_plus", .int vp), ("N", .ref a.N), ("H", .ref a.H), ("F", .ref a.F), ("C", .ref a.C), ("L", .ref a.L)] Q := by
  refine callOK (n := m + 4) (ρ' := p0ρ a vm vp) Fp hA hB (fun pm doc s vals kw P C hvs hk => ?_) (fun pm doc P L hA => ?_)
  · cases hvs.inv0
    obtain ⟨v1, _, rfl, r1, hk⟩ := hk.invc
    obtain ⟨v2, _, rfl, r2, hk⟩ := hk.invc
    obtain ⟨v3, _, rfl, r3, hk⟩ := hk.invc
    obtain ⟨v4, _, rfl, r4, hk⟩ := hk.invc
    obtain ⟨v5, _, rfl, r5, hk⟩ := hk.invc
    obtain ⟨v6, _, rfl, r6, hk⟩ := hk.invc
    obtain ⟨v7, _, rfl, r7, hk⟩ := hk.invc
    cases hk.inv0
    obtain ⟨o, n, ho, hd⟩ := hT
    exact ⟨_, .of_defaults rfl (C.sees.keeps _ _ ho) hd rfl rfl, .cons r1 (.cons r2 (.cons r3 (.cons r4 (.cons r5 (.cons r6 (.cons r7 (.cons .none .nil)))))))⟩
  · refine SX.cons (S1.iteB (PT.cmp (PE.name rfl) PE.none (CP.isNone (a := .none) (b := true) rfl)) (fun _ => ?_) (fun h => by cases h))
    refine SX.cons (S1.assign (EV.set0 (PE.builtin hB bn.set.1 bn.set.2) fun e ne => SX.nil ?_))
    refine SX.weaken (ρ₀ := pρ a vm vp e) ?_ RLe.exc (.refl _)
    have S₁ := S.newS ne.fresh (fun _ => false) 0
    have o₁ : Off (a.ownN σ) σ (σ.setS e (fun _ => false) 0) := .setS _ (.inr ne.fresh)
    have he : (σ.setS e (fun _ => false) 0).set e = some (fun _ => false, 0) := by simp [AH.setS]
    have heo : ¬ a.own e := fun h => S.tabs.known (Nm.own_all h) ne.fresh
    generalize σ.setS e (fun _ => false) 0 = σ₁ at S₁ o₁ he ⊢
    refine bfs hA hB bn.set bn.len g ok S₁ hvm he fun σ' R dT ac t rc rq mk b ft fac => ?_
    by_cases hin : vp ∈ R
    · exact pp_in Fm Fc hA hB bn.len g ok hV S₁ b ft hin fun _ σ' h => q σ' (h.back o₁)
    · refine pp_out Fp hT Fm Fc hA hB bn.len bn.set bn.rev g ok hV S₁ b ft fac he heo hK4 (k := k) (s := s) ?_ fun _ σ' h => q σ' (h.back o₁)
      exact { g := g, kn := ok.knodup, kl := kl, k2 := k2, s2 := s2, fK := S.fK, deg := deg, size := size, ne := hne, vmR := b.head, vpK := hvp, vpR := hin, rn := b.nodup, rK := b.sub
              clos := fun p hp c hc h => (b.clos p (by rw [List.take_length]; exact hp) c hc h).resolve_right (by simp) }
end
end Mine

/-! P16 -/
namespace Mine
section
variable {prog : Program} {w : World} {A : Around} {B : Basis} {σ : AH} {P : Pins} {pm cd doc dV : Value} {L fa : Addr}

/-- the classes made from a colouring -/
structure MC (σ : AH) (f : Int → Int) (l : List Int) (aC : Addr) (dC : DI) (lc : Int → Addr) (σ' : AH) : Prop where
  off : Off σ.Fresh σ σ'
  fC : σ.Fresh aC
  nC : (aC == sysModules) = false
  at_ : σ'.dI aC = some dC
  keys : ∀ c, c ∈ dC.keys ↔ ∃ v ∈ l, f v = c
  nodup : dC.keys.Nodup
  val : ∀ c ∈ dC.keys, dC.val c = .ref (lc c)
  list : ∀ c ∈ dC.keys, σ'.list (lc c) = some ((l.filter fun v => f v == c).map AV.int)
  fresh : ∀ c ∈ dC.keys, σ.Fresh (lc c)
  inj : ∀ c ∈ dC.keys, ∀ d ∈ dC.keys, lc c = lc d → c = d

theorem MC.len {f : Int → Int} {l : List Int} {aC : Addr} {dC : DI} {lc : Int → Addr} {σ' : AH} (M : MC σ f l aC dC lc σ') : dC.keys.length ≤ l.length := by
  have h := length_le_of_nodup M.nodup (m := l.map f) fun c hc => by obtain ⟨v, hv, e⟩ := (M.keys c).mp hc; exact List.mem_map.mpr ⟨v, hv, e⟩
  rwa [List.length_map] at h

theorem mC_body {m : Nat} {aF : Addr} {dF : DI} {f : Int → Int} {Q : AF → Rho → AH → Prop} (hA : Rm (calleeCx A B P (FD 1 pm cd doc dV .none) L fa).A m) (hF : σ.dI aF = some dF) (hm : (aF == sysModules) = false) (hv : ∀ v ∈ dF.keys, dF.val v = .int (f v)) (hz : dF.keys.length ≤ 100)
    (q : ∀ ρ' σ' aC dC lc, MC σ f dF.keys aC dC lc σ' → Q (.ret (.ref aC)) ρ' σ') :
    SX prog w (calleeCx A B P (FD 1 pm cd doc dV .none) L fa) [("F", .ref aF)] σ (stBody (stAt 1)) Q := by
  refine SX.cons (S1.assign (EV.dict0 fun aC naC => ?_))
  have hF' : (σ.setD aC ⟨[], fun _ => .none, 0⟩).dI aF = some dF := by
    have : aF ≠ aC := by rintro rfl; have := naC.fresh.2.1; rw [hF] at this; cases this
    simp [AH.setD, this, hF]
  refine SX.cons (S1.forItems hA (PE.name rfl) hF' hm (fun i ρ' σ' => RLe [("C", .ref aC), ("F", .ref aF)] ρ' ∧ ∃ dC lc, MC σ f (dF.keys.take i) aC dC lc σ') ?_ ?_ ?_ ?_)
  · exact ⟨.refl _, ⟨[], fun _ => .none, 0⟩, fun _ => 0, .setD σ naC.fresh, naC.fresh, naC.notMod, by simp [AH.setD], fun c => by simp, by simp, fun c hc => by simp at hc, fun c hc => by simp at hc, fun c hc => by simp at hc, fun c hc => by simp at hc⟩
  · rintro i ρ' σ' _ ⟨_, dC, lc, M⟩
    exact (M.off.dI aF fun h => by rw [h.2.1] at hF; cases hF).trans hF
  · rintro i v ρ₁ σ₁ P' hi ⟨hle, dC, lc, M⟩
    have hvF := hv v (List.mem_of_getElem? hi)
    rw [hvF]
    have htk : dF.keys.take (i + 1) = dF.keys.take i ++ [v] := by rw [List.take_add_one, hi]; rfl
    have hMl := M.len
    have hil : (dF.keys.take i).length ≤ 100 := Nat.le_trans (List.length_take_le' _ _) hz
    refine SX.weaken ((hle.cons _ _).cons _ _) (.refl _) (ρ₀ := ("color", .int (f v)) :: ("node", .int v) :: [("C", .ref aC), ("F", .ref aF)]) (h := ?_)
    replace hA : Rm ((calleeCx A B P (FD 1 pm cd doc dV .none) L fa).pinned P').A m := hA
    have fil : ∀ c, ((dF.keys.take (i + 1)).filter fun v => f v == c) = ((dF.keys.take i).filter fun v => f v == c) ++ (if f v = c then [v] else []) := fun c => by
      rw [htk, List.filter_append]
      congr 1
      by_cases h : f v = c
      · simp [h]
      · have : (f v == c) = false := by simpa using h
        simp [h, this]
    have done : ∀ ρ₂ σ₂, RLe [("C", .ref aC), ("F", .ref aF)] ρ₂ → (∃ dC lc, MC σ f (dF.keys.take (i + 1)) aC dC lc σ₂) → (RLe [("C", .ref aC), ("F", .ref aF)] ρ₂ ∧ ∃ dC lc, MC σ f (dF.keys.take (i + 1)) aC dC lc σ₂) := fun _ _ h1 h2 => ⟨h1, h2⟩
    refine SX.cons (S1.expr (EV.meth (T := "list") (id := "list.append") (R := fun av σ₂ => (f v ∈ dC.keys ∧ av = .ref (lc (f v)) ∧ ∃ D, Nw σ₁ D ∧ σ₂ = σ₁.setL D []) ∨
      (f v ∉ dC.keys ∧ ∃ D ep, Nw σ₁ D ∧ av = .ref D ∧ σ₂ = (σ₁.setL D []).setD aC ⟨dC.keys ++ [f v], fun x => if x = f v then .ref D else dC.val x, ep⟩))
      (EV.setdefault (PE.name rfl) M.at_ (PE.name rfl) M.nC (by omega) (fun h1 D hD => .inl ⟨h1, M.val _ h1, D, hD, rfl⟩) (fun h1 D ep hD => .inr ⟨h1, D, ep, hD, rfl, rfl⟩)) F.plainAttrs_list F.slot_list_append F.type_list_append ?_))
    rintro av σ₂ (⟨hc, rfl, D, hD, rfl⟩ | ⟨hc, D, ep, hD, rfl, rfl⟩)
    · have hne : ∀ c ∈ dC.keys, lc c ≠ D := fun c hc h => by have := hD.fresh.1; rw [← h, M.list c hc] at this; cases this
      have hl : (σ₁.setL D []).list (lc (f v)) = some (((dF.keys.take i).filter fun u => f u == f v).map AV.int) := by simp [AH.setL, hne _ hc, M.list _ hc]
      refine ⟨.list hl, [.int v], .cons (PE.name rfl) (fun _ => rfl) .nil, BC.append hl (by rw [List.length_map]; exact Nat.le_trans (List.length_filter_le _ _) (by omega)) ?_⟩
      have fD := M.off.freshX (fun _ h => h) hD.fresh
      refine SX.nil ⟨((RLe.refl _).skip _).skip _, dC, lc, ?_⟩
      exact {
        off := (M.off.trans (.setL _ fD)).trans (.setL _ (M.fresh _ hc))
        fC := M.fC, nC := M.nC
        at_ := M.at_
        keys := fun c => by
          rw [M.keys, htk]
          constructor
          · rintro ⟨u, hu, e⟩; exact ⟨u, List.mem_append_left _ hu, e⟩
          · rintro ⟨u, hu, e⟩
            rcases List.mem_append.mp hu with h | h
            · exact ⟨u, h, e⟩
            · simp at h; subst h; rw [← e]; exact (M.keys _).mp hc
        nodup := M.nodup
        val := M.val
        list := fun c hc' => by
          rw [fil c]
          by_cases h : f v = c
          · subst h; simp [AH.setL]
          · have : lc c ≠ lc (f v) := fun e => h (M.inj _ hc _ hc' e.symm)
            simp [AH.setL, this, hne c hc', M.list c hc', h]
        fresh := M.fresh
        inj := M.inj }
    · have hl : ((σ₁.setL D []).setD aC ⟨dC.keys ++ [f v], fun x => if x = f v then .ref D else dC.val x, ep⟩).list D = some [] := by simp [AH.setL, AH.setD]
      refine ⟨.list hl, [.int v], .cons (PE.name rfl) (fun _ => rfl) .nil, BC.append hl (by simp) ?_⟩
      have hne : ∀ c ∈ dC.keys, lc c ≠ D := fun c hc h => by have := hD.fresh.1; rw [← h, M.list c hc] at this; cases this
      have fD := M.off.freshX (fun _ h => h) hD.fresh
      have hno : ((dF.keys.take i).filter fun u => f u == f v) = [] := by
        rw [List.filter_eq_nil_iff]
        intro u hu h
        exact hc ((M.keys _).mpr ⟨u, hu, by simpa using h⟩)
      refine SX.nil ⟨((RLe.refl _).skip _).skip _, ⟨dC.keys ++ [f v], fun x => if x = f v then .ref D else dC.val x, ep⟩, fun c => if c = f v then D else lc c, ?_⟩
      exact {
        off := ((M.off.trans (.setL _ fD)).trans (.setD _ M.fC)).trans (.setL _ fD)
        fC := M.fC, nC := M.nC
        at_ := by simp [AH.setL, AH.setD]
        keys := fun c => by
          rw [List.mem_append, M.keys, htk]
          constructor
          · rintro (⟨u, hu, e⟩ | h)
            · exact ⟨u, List.mem_append_left _ hu, e⟩
            · exact ⟨v, by simp, (List.mem_singleton.mp h).symm⟩
          · rintro ⟨u, hu, e⟩
            rcases List.mem_append.mp hu with h | h
            · exact .inl ⟨u, h, e⟩
            · simp at h; subst h; exact .inr (by simp [e])
        nodup := List.nodup_append.mpr ⟨M.nodup, by simp, fun x hx y hy => by rw [List.mem_singleton] at hy; rintro rfl; exact hc (hy ▸ hx)⟩
        val := fun c hc' => by
          by_cases h : c = f v
          · simp [h]
          · have : c ∈ dC.keys := by rcases List.mem_append.mp hc' with h' | h'; exact h'; exact absurd (List.mem_singleton.mp h') h
            simp [h, M.val c this]
        list := fun c hc' => by
          rw [fil c]
          by_cases h : c = f v
          · subst h; simp [AH.setL, hno]
          · have h1 : c ∈ dC.keys := by rcases List.mem_append.mp hc' with h' | h'; exact h'; exact absurd (List.mem_singleton.mp h') h
            simp [AH.setL, AH.setD, h, hne c h1, M.list c h1, Ne.symm h]
        fresh := fun c hc' => by
          by_cases h : c = f v
          · simp [h, fD]
          · have h1 : c ∈ dC.keys := by rcases List.mem_append.mp hc' with h' | h'; exact h'; exact absurd (List.mem_singleton.mp h') h
            simp [h, M.fresh c h1]
        inj := fun c hc' d hd' => by
          have mem : ∀ x, x ∈ dC.keys ++ [f v] → x ≠ f v → x ∈ dC.keys := fun x hx h => by rcases List.mem_append.mp hx with h' | h'; exact h'; exact absurd (List.mem_singleton.mp h') h
          by_cases h1 : c = f v <;> by_cases h2 : d = f v
          · intro _; rw [h1, h2]
          · simp only [h1, h2, if_true, if_false]; intro e; exact absurd e.symm (hne d (mem d hd' h2))
          · simp only [h1, h2, if_true, if_false]; intro e; exact absurd e (hne c (mem c hc' h1))
          · simp only [h1, h2, if_false]; exact M.inj c (mem c hc' h1) d (mem d hd' h2) }
  · rintro ρ₁ σ₁ ⟨hle, dC, lc, M⟩
    rw [List.take_length] at M
    refine SX.weaken (ρ₀ := [("C", .ref aC), ("F", .ref aF)]) ?_ hle (.refl _)
    exact SX.cons (S1.ret ((PE.name rfl).ev (q _ _ _ _ _ M)))
end
end Mine

/-! P17 -/
namespace Mine
theorem mem_pairs {xs ys : List Int} {x y : Int} : (x, y) ∈ xs.flatMap (fun x => ys.map fun y => (x, y)) ↔ x ∈ xs ∧ y ∈ ys := by
  rw [List.mem_flatMap]
  constructor
  · rintro ⟨a, ha, h⟩
    obtain ⟨b, hb, e⟩ := List.mem_map.mp h
    cases e; exact ⟨ha, hb⟩
  · rintro ⟨h1, h2⟩; exact ⟨x, h1, List.mem_map.mpr ⟨y, h2, rfl⟩⟩
theorem pairs_length (xs ys : List Int) : (xs.flatMap fun x => ys.map fun y => (x, y)).length = xs.length * ys.length := by
  induction xs with
  | nil => simp
  | cons x r ih => rw [List.flatMap_cons, List.length_append, ih, List.length_map, List.length_cons, Nat.succ_mul]; omega
theorem Off.known {X : Addr → Prop} {σ σ' : AH} (o : Off X σ σ') : True := trivial
theorem Off.dI' {σ σ' : AH} (o : Off σ.Fresh σ σ') {b : Addr} {d : DI} (h : σ.dI b = some d) : σ'.dI b = some d := (o.dI b fun f => by rw [f.2.1] at h; cases h).trans h
theorem Off.dP' {σ σ' : AH} (o : Off σ.Fresh σ σ') {b : Addr} {d : DP} (h : σ.dP b = some d) : σ'.dP b = some d := (o.dP b fun f => by rw [f.2.2.1] at h; cases h).trans h
theorem Off.list' {σ σ' : AH} (o : Off σ.Fresh σ σ') {b : Addr} {d : List AV} (h : σ.list b = some d) : σ'.list b = some d := (o.list b fun f => by rw [f.1] at h; cases h).trans h
theorem Off.set' {σ σ' : AH} (o : Off σ.Fresh σ σ') {b : Addr} {d} (h : σ.set b = some d) : σ'.set b = some d := (o.set b fun f => by rw [f.2.2.2.1] at h; cases h).trans h
theorem Off.tab' {σ σ' : AH} (o : Off σ.Fresh σ σ') {b k : Addr} (h : σ.tab b = some k) : σ'.tab b = some k := (o.tab b fun f => by rw [f.2.2.2.2] at h; cases h).trans h
theorem Off.transF {σ σ₁ σ₂ : AH} (o : Off σ.Fresh σ σ₁) (h : Off σ₁.Fresh σ₁ σ₂) : Off σ.Fresh σ σ₂ := o.trans (h.mono fun b hb => o.freshX (fun _ h => h) hb)

section
variable {prog : Program} {w : World} {c : Cx} {ρ : Rho} {σ : AH}
/-- {(x, y): v for x in .. for y in ..}, over ints, its values ints -/
theorem EC.table {kx vx iter iter2 : Expr} {x y : Str} {px py pos : Pos} {scope : Scope} {xs ys : List Int} {Src Src2 : AH → Prop} {Q : AV → AH → Prop} {n : Nat} (val : Int → Int → Int) (hA : Rm c.A n)
    (hit : ITt prog w c ρ σ (eval iter c.env) (xs.map AV.int) Src) (hS : ∀ σ₁, Off σ.Fresh σ σ₁ → Src σ₁)
    (hit2 : ∀ σ₁ L P' a, Off σ.Fresh σ σ₁ → a ∈ xs → ITt prog w (compCx c scope L P') ((x, .int a) :: capt scope ρ) σ₁ (eval iter2 (compCx c scope L P').env) (ys.map AV.int) Src2) (hS2 : ∀ σ₁, Off σ.Fresh σ σ₁ → Src2 σ₁)
    (hxn : xs.Nodup) (hyn : ys.Nodup) (hxz : xs.length ≤ 100) (hyz : ys.length ≤ 100)
    (cell : ∀ σ₁ L P' a b, Off σ.Fresh σ σ₁ → a ∈ xs → b ∈ ys → PE prog w (compCx c scope L P') ((y, .int b) :: (x, .int a) :: capt scope ρ) σ₁ kx (.pair (.int a) (.int b)) ∧
      EV prog w (compCx c scope L P') ((y, .int b) :: (x, .int a) :: capt scope ρ) σ₁ vx (fun av σ₂ => av = .int (val a b) ∧ Off σ₁.Fresh σ₁ σ₂))
    (q : ∀ D d σ', Nw σ D → σ'.dP D = some d → d.keys = xs.flatMap (fun x => ys.map fun y => (x, y)) → (∀ a ∈ xs, ∀ b ∈ ys, d.val a b = .int (val a b)) → Off σ.Fresh σ σ' → Q (.ref D) σ')
    (hok : compOK scope c.env = true := by rfl) (hx : (scope.names.lookup x == some .local || scope.names.lookup x == some .cell) = true := by rfl) (hy : (scope.names.lookup y == some .local || scope.names.lookup y == some .cell) = true := by rfl)
    (hxy : y ≠ x := by decide) (hs : ∀ x, foldedSetIterable iter c.env x = pure x := by intro _; rfl) (hs2 : ∀ env x, foldedSetIterable iter2 env x = pure x := by intro _ _; rfl) :
    EC prog w c ρ σ (.DictComp kx vx [⟨.Name x px, iter, [], 0⟩, ⟨.Name y py, iter2, [], 0⟩] scope pos) Q := by
  have hmul : xs.length * ys.length ≤ 10000 := Nat.le_trans (Nat.mul_le_mul hxz hyz) (by decide)
  refine EC.dictComp2 (n := n) (m := n) hA hit (fun D i σ₁ => Off σ.Fresh σ σ₁ ∧ ∃ d, σ₁.dP D = some d ∧ d.keys = (xs.take i).flatMap (fun x => ys.map fun y => (x, y)) ∧ ∀ a ∈ xs.take i, ∀ b ∈ ys, d.val a b = .int (val a b))
    (fun D hD => ⟨.setP σ hD.fresh, _, by simp [AH.setP]; rfl, by simp, fun a ha => by simp at ha⟩) (fun D i σ₁ _ ⟨o, _⟩ => hS σ₁ o) (fun D L P' i av σ₁ hD hi ⟨o, d, hd, hk, hv⟩ => ?_) (fun D σ₁ hD ⟨o, d, hd, hk, hv⟩ => ?_) hok hx hy hxy hs hs2
  · obtain ⟨a, ha, rfl⟩ := getElem?_ints hi
    have haX := List.mem_of_getElem? ha
    have han := not_mem_take hxn ha
    have htk : xs.take (i + 1) = xs.take i ++ [a] := by rw [List.take_add_one, ha]; rfl
    refine ⟨ys.map AV.int, Src2, fun j σ₂ => Off σ.Fresh σ σ₂ ∧ ∃ d, σ₂.dP D = some d ∧ d.keys = (xs.take i).flatMap (fun x => ys.map fun y => (x, y)) ++ (ys.take j).map (fun y => (a, y)) ∧
      (∀ a ∈ xs.take i, ∀ b ∈ ys, d.val a b = .int (val a b)) ∧ ∀ b ∈ ys.take j, d.val a b = .int (val a b), hit2 σ₁ L P' a o haX, ⟨o, d, hd, by simpa using hk, hv, fun b hb => by simp at hb⟩, fun j σ₂ _ ⟨o, _⟩ => hS2 σ₂ o, ?_, ?_⟩
    · rintro σ₂ ⟨o, d, hd, hk, hv, hv2⟩
      rw [List.length_map, List.take_length] at hk hv2
      refine ⟨o, d, hd, by rw [hk, htk, List.flatMap_append]; simp, fun a' ha' b hb => ?_⟩
      rw [htk] at ha'
      rcases List.mem_append.mp ha' with h | h
      · exact hv a' h b hb
      · rw [List.mem_singleton] at h; subst h; exact hv2 b hb
    · rintro P'' j av σ₂ hj ⟨o, d, hd, hk, hv, hv2⟩
      obtain ⟨b, hb, rfl⟩ := getElem?_ints hj
      have hbY := List.mem_of_getElem? hb
      have hbn := not_mem_take hyn hb
      have htb : ys.take (j + 1) = ys.take j ++ [b] := by rw [List.take_add_one, hb]; rfl
      obtain ⟨h1, h2⟩ := cell σ₂ L P'' a b o haX hbY
      refine ⟨a, b, h1, EVt.mono h2 fun av σ₃ ⟨e1, o3⟩ => ?_⟩
      subst e1
      have hd3 := o3.dP' hd
      have hnk : (a, b) ∉ d.keys := by
        rw [hk, List.mem_append, mem_pairs, List.mem_map]
        rintro (⟨h, _⟩ | ⟨z, hz, e⟩)
        · exact han h
        · cases e; exact hbn hz
      have hlen : d.keys.length ≤ 100000 := by
        rw [hk, List.length_append, pairs_length, List.length_map]
        have h1 := List.length_take_le' i xs
        have h2 := List.length_take_le' j ys
        have h3 : (xs.take i).length * ys.length ≤ xs.length * ys.length := Nat.mul_le_mul_right _ (by rw [List.length_take]; omega)
        omega
      refine ⟨d, hd3, hlen, (o.transF o3).trans (.setP _ hD.fresh), _, by simp only [AH.setP, if_true]; rfl, ?_, fun a' ha' b' hb' => ?_, fun b' hb' => ?_⟩
      · simp only [hnk, if_false]; rw [hk, htb, List.map_append, List.append_assoc]; rfl
      · have : a' ≠ a := by rintro rfl; exact han ha'
        simp [this, hv a' ha' b' hb']
      · rw [htb] at hb'
        by_cases e : b' = b
        · subst e; simp
        · have : b' ∈ ys.take j := by rcases List.mem_append.mp hb' with h | h; exact h; exact absurd (List.mem_singleton.mp h) e
          simp [e, hv2 b' this]
  · rw [List.length_map, List.take_length] at hk hv
    exact q D d σ₁ hD hd hk hv o
end
end Mine

/-! P18 -/
namespace Mine
theorem tally_countP (p : Int → Bool) : ∀ l : List Int, tally (fun i => match l[i]? with | some w => p w | none => false) l.length = l.countP p := by
  intro l
  unfold tally
  rw [List.countP_eq_length_filter, ← List.countP_eq_length_filter, ← List.countP_eq_length_filter]
  have key : ∀ (l : List Int), (List.range l.length).countP (fun i => match l[i]? with | some w => p w | none => false) = l.countP p := by
    intro l
    induction l with
    | nil => rfl
    | cons x r ih =>
      rw [List.length_cons, List.range_succ_eq_map, List.countP_cons, List.countP_map, List.countP_cons]
      have : ((fun i => match (x :: r)[i]? with | some w => p w | none => false) ∘ Nat.succ) = (fun i => match r[i]? with | some w => p w | none => false) := by
        funext i; simp
      rw [this, ih]
      simp
  exact key l

theorem ITt.viewK {prog : Program} {w : World} {c : Cx} {ρ : Rho} {σ : AH} {e : Expr} {d : Addr} {dd : DI} {xs : List Int} (h : PE prog w c ρ σ e (.view d)) (hl : σ.dI d = some dd) (hk : dd.keys = xs) : ITt prog w c ρ σ (eval e c.env) (xs.map AV.int) (fun σ => ∃ v, σ.dI d = some ⟨xs, v, dd.ep⟩) := by subst hk; exact ITt.view h hl
/-- the neighbours' dict -/
structure GL (G : Gr) (σ : AH) (aL : Addr) (dL : DI) (ll : Int → Addr) : Prop where
  at_ : σ.dI aL = some dL
  keys : dL.keys = G.V
  val : ∀ v ∈ G.V, dL.val v = .ref (ll v)
  list : ∀ v ∈ G.V, σ.list (ll v) = some ((G.adj v).map AV.int)
  nm : (aL == sysModules) = false
/-- the classes' dict -/
structure CL (σ : AH) (aC : Addr) (dC : DI) (lc : Int → Addr) (cls : Int → List Int) : Prop where
  at_ : σ.dI aC = some dC
  nodup : dC.keys.Nodup
  val : ∀ c ∈ dC.keys, dC.val c = .ref (lc c)
  list : ∀ c ∈ dC.keys, σ.list (lc c) = some ((cls c).map AV.int)
  nm : (aC == sysModules) = false
theorem GL.off {G : Gr} {σ σ' : AH} {aL : Addr} {dL : DI} {ll : Int → Addr} (x : GL G σ aL dL ll) (o : Off σ.Fresh σ σ') : GL G σ' aL dL ll := { x with at_ := o.dI' x.at_, list := fun v hv => o.list' (x.list v hv) }
theorem CL.off {σ σ' : AH} {aC : Addr} {dC : DI} {lc : Int → Addr} {cls : Int → List Int} (x : CL σ aC dC lc cls) (o : Off σ.Fresh σ σ') : CL σ' aC dC lc cls := { x with at_ := o.dI' x.at_, list := fun v hv => o.list' (x.list v hv) }
theorem GL.gi {G : Gr} {σ : AH} {aL : Addr} {dL : DI} {ll : Int → Addr} (x : GL G σ aL dL ll) {v : Int} (hv : v ∈ G.V) : GI σ (.ref aL) (.int v) (.ref (ll v)) := by
  have := GI.dI x.at_ (k := v) (by rw [x.keys]; exact hv)
  rwa [x.val v hv] at this
theorem CL.gi {σ : AH} {aC : Addr} {dC : DI} {lc : Int → Addr} {cls : Int → List Int} (x : CL σ aC dC lc cls) {c : Int} (hc : c ∈ dC.keys) : GI σ (.ref aC) (.int c) (.ref (lc c)) := by
  have := GI.dI x.at_ hc
  rwa [x.val c hc] at this

section
variable {prog : Program} {w : World} {A : Around} {B : Basis} {σ : AH} {P : Pins} {pm doc dV : Value} {L fa : Addr} {G : Gr} {aL aC : Addr} {dL dC : DI} {ll lc : Int → Addr} {cls : Int → List Int}

theorem mN_body {m : Nat} {kk tb : Addr} {Q : AF → Rho → AH → Prop} (hA : Rm (calleeCx A B P (FD 2 pm (.ref kk) doc dV .none) L fa).A (m + 4)) (hB : B.OK) (bsum : B.mg "sum" = none ∧ B.mb "sum" = some (.builtin "sum")) (ht : σ.tab tb = some kk) (g : G.OK)
    (gl : GL G σ aL dL ll) (cl : CL σ aC dC lc cls) (hz : G.V.length ≤ 100) (hk : dC.keys.length ≤ 100)
    (q : ∀ ρ' D d σ', Nw σ D → σ'.dP D = some d → d.keys = G.V.flatMap (fun x => dC.keys.map fun y => (x, y)) → (∀ v ∈ G.V, ∀ c ∈ dC.keys, d.val v c = .int ((G.adj v).countP fun w => (cls c).contains w)) → Off σ.Fresh σ σ' → Q (.ret (.ref D)) ρ' σ') :
    SX prog w (calleeCx A B P (FD 2 pm (.ref kk) doc dV .none) L fa) [("L", .ref aL), ("C", .ref aC)] σ (stBody (stAt 2)) Q := by
  refine SX.cons (S1.assign (EV.meth (T := "dict") (id := "dict.keys") (R := fun av σ' => av = .ref aL ∧ σ' = σ) ((PE.name rfl).ev ⟨rfl, rfl⟩) F.plainAttrs_dict F.slot_dict_keys F.type_dict_keys fun av σ' ⟨e1, e2⟩ => ?_))
  subst e1 e2
  refine ⟨.dI gl.at_, [], .nil, BC.keys gl.at_ gl.nm ?_⟩
  refine SX.cons (S1.assign (EV.meth (T := "dict") (id := "dict.keys") (R := fun av σ'' => av = .ref aC ∧ σ'' = σ') ((PE.name rfl).ev ⟨rfl, rfl⟩) F.plainAttrs_dict F.slot_dict_keys F.type_dict_keys fun av σ'' ⟨e1, e2⟩ => ?_))
  subst e1 e2
  refine ⟨.dI cl.at_, [], .nil, BC.keys cl.at_ cl.nm ?_⟩
  refine SX.cons (S1.ret (EC.table (xs := G.V) (ys := dC.keys) (fun v c => ((G.adj v).countP fun w => (cls c).contains w : Nat)) hA (Src := fun σ => ∃ v, σ.dI aL = some ⟨G.V, v, dL.ep⟩) (Src2 := fun σ => ∃ v, σ.dI aC = some ⟨dC.keys, v, dC.ep⟩)
    (ITt.viewK (PE.name rfl) gl.at_ gl.keys)
    (fun σ₁ o => ⟨dL.val, by rw [(gl.off o).at_, ← gl.keys]⟩) (fun σ₁ L' P' v o hv => ITt.view (PE.name rfl) (cl.off o).at_) (fun σ₁ o => ⟨dC.val, (cl.off o).at_⟩) g.nodup cl.nodup hz hk (fun σ₁ L' P' v c o hv hc => ?_) fun D d σ' h1 h2 h3 h4 h5 => q _ D d σ' h1 h2 h3 h4 h5).ev)
  have gl₁ := gl.off o
  have cl₁ := cl.off o
  refine ⟨PE.pair (PE.name rfl) (PE.name rfl), ?_⟩
  refine (genCount (fun i => match (G.adj v)[i]? with | some w => (cls c).contains w | none => false) (by exact hA) (by exact hB) (PE.builtin hB bsum.1 bsum.2) (PE.sub_ (by exact hA) (PE.name rfl) (PE.name rfl) (gl₁.gi hv)) (gl₁.list v hv) (by rfl) (o.tab' ht) (fun i av hi => ?_) (by rfl) (by rfl)).ev ⟨?_, .refl _ _⟩
  · obtain ⟨u, hu, rfl⟩ := getElem?_ints hi
    rw [hu]
    exact KT.inL (KE.loc (by rfl) (by rfl)) (KE.sub_ (KE.free rfl (by rfl) (by rfl)) (KE.free rfl (by rfl) (by rfl)) (cl₁.gi hc)) (cl₁.list c hc)
  · rw [List.length_map, tally_countP (fun w => (cls c).contains w) (G.adj v)]
end
end Mine

/-! P19 -/
namespace Mine
/-- the table of neighbours counted -/
structure NL (G : Gr) (K : List Int) (σ : AH) (aN : Addr) (n : Int → Int → Int) (dN : DP) : Prop where
  at_ : σ.dP aN = some dN
  keys : dN.keys = G.V.flatMap fun x => K.map fun y => (x, y)
  val : ∀ v ∈ G.V, ∀ c ∈ K, dN.val v c = .int (n v c)
theorem NL.off {G : Gr} {K : List Int} {σ σ' : AH} {aN : Addr} {n : Int → Int → Int} {dN : DP} (x : NL G K σ aN n dN) (o : Off σ.Fresh σ σ') : NL G K σ' aN n dN := { x with at_ := o.dP' x.at_ }
theorem NL.gi {G : Gr} {K : List Int} {σ : AH} {aN : Addr} {n : Int → Int → Int} {dN : DP} (x : NL G K σ aN n dN) {v c : Int} (hv : v ∈ G.V) (hc : c ∈ K) : GI σ (.ref aN) (.pair (.int v) (.int c)) (.int (n v c)) := by
  have := GI.dP x.at_ (i := v) (j := c) (by rw [x.keys]; exact mem_pairs.mpr ⟨hv, hc⟩)
  rwa [x.val v hv c hc] at this

section
variable {prog : Program} {w : World} {A : Around} {B : Basis} {σ : AH} {P : Pins} {pm doc dV : Value} {L fa : Addr} {G : Gr} {aL aC aN : Addr} {dL dC : DI} {dN : DP} {ll lc : Int → Addr} {cls : Int → List Int} {n : Int → Int → Int}

theorem mH_body {m : Nat} {kk tb : Addr} {Q : AF → Rho → AH → Prop} (hA : Rm (calleeCx A B P (FD 3 pm (.ref kk) doc dV .none) L fa).A (m + 4)) (hB : B.OK) (bsum : B.mg "sum" = none ∧ B.mb "sum" = some (.builtin "sum")) (ht : σ.tab tb = some kk)
    (cl : CL σ aC dC lc cls) (hcls : ∀ c ∈ dC.keys, ∀ v ∈ cls c, v ∈ G.V) (nl : NL G dC.keys σ aN n dN) (hk : dC.keys.length ≤ 100)
    (q : ∀ ρ' D d σ', Nw σ D → σ'.dP D = some d → d.keys = dC.keys.flatMap (fun x => dC.keys.map fun y => (x, y)) → (∀ c ∈ dC.keys, ∀ e ∈ dC.keys, d.val c e = .int ((cls c).countP fun v => n v e == 0)) → Off σ.Fresh σ σ' → Q (.ret (.ref D)) ρ' σ') :
    SX prog w (calleeCx A B P (FD 3 pm (.ref kk) doc dV .none) L fa) [("C", .ref aC), ("N", .ref aN)] σ (stBody (stAt 3)) Q := by
  refine SX.cons (S1.ret (EC.table (xs := dC.keys) (ys := dC.keys) (fun c e => ((cls c).countP fun v => n v e == 0 : Nat)) hA (Src := fun σ => ∃ v, σ.dI aC = some ⟨dC.keys, v, dC.ep⟩) (Src2 := fun σ => ∃ v, σ.dI aC = some ⟨dC.keys, v, dC.ep⟩)
    (ITt.keys (PE.name rfl) cl.at_ cl.nm)
    (fun σ₁ o => ⟨dC.val, (cl.off o).at_⟩) (fun σ₁ L' P' v o hv => ITt.keys (PE.name rfl) (cl.off o).at_ cl.nm) (fun σ₁ o => ⟨dC.val, (cl.off o).at_⟩) cl.nodup cl.nodup hk hk (fun σ₁ L' P' c e o hc he => ?_) fun D d σ' h1 h2 h3 h4 h5 => q _ D d σ' h1 h2 h3 h4 h5).ev)
  have cl₁ := cl.off o
  have nl₁ := nl.off o
  refine ⟨PE.pair (PE.name rfl) (PE.name rfl), ?_⟩
  refine (genCount (fun i => match (cls c)[i]? with | some v => n v e == 0 | none => false) (by exact hA) (by exact hB) (PE.builtin hB bsum.1 bsum.2) (PE.sub_ (by exact hA) (PE.name rfl) (PE.name rfl) (cl₁.gi hc)) (cl₁.list c hc) (by rfl) (o.tab' ht) (fun i av hi => ?_) (by rfl) (by rfl)).ev ⟨?_, .refl _ _⟩
  · obtain ⟨u, hu, rfl⟩ := getElem?_ints hi
    rw [hu]
    have huV := hcls c hc u (List.mem_of_getElem? hu)
    have e1 : (n u e == 0) = decide (n u e = 0) := by by_cases h : n u e = 0 <;> simp [h]
    simp only [e1]
    exact KT.eq (KE.sub_ (KE.free rfl (by rfl) (by rfl)) (KE.pair (KE.loc (by rfl) (by rfl)) (KE.free rfl (by rfl) (by rfl))) (nl₁.gi huV he)) KE.int
  · rw [List.length_map]; exact congrArg (fun t : Nat => AV.int t) (tally_countP (fun v => n v e == 0) (cls c))
end

section
variable {prog : Program} {w : World} {A : Around} {B : Basis} {σ : AH} {G : Gr} {aL aC aN aF : Addr} {dL dC dF : DI} {dN : DP} {ll lc : Int → Addr} {cls : Int → List Int} {n : Int → Int → Int} {f : Int → Int}

theorem mC_ok {m : Nat} {fa : Addr} {cd : Value} {Q : AV → AH → Prop} (Fn1 : Fn B 1 fa cd .none) (hA : Rm A (m + 1)) (hB : B.OK) (hF : σ.dI aF = some dF) (hm : (aF == sysModules) = false) (hv : ∀ v ∈ dF.keys, dF.val v = .int (f v)) (hz : dF.keys.length ≤ 100)
    (q : ∀ σ' aC dC lc, MC σ f dF.keys aC dC lc σ' → Q (.ref aC) σ') :
    CallOK prog w B A (.ref fa) σ [.ref aF] [] Q := by
  refine callOK (ρ' := [("F", .ref aF)]) Fn1 hA hB (fun pm doc s vals kw P C hv hk => ?_) fun pm doc P L hA => mC_body hA hF hm hv hz fun _ σ' aC dC lc M => q σ' aC dC lc M
  obtain ⟨v1, _, rfl, r1, hv⟩ := hv.invc
  cases hv.inv0
  cases hk.inv0
  exact ⟨_, .of_eq rfl, .cons r1 .nil⟩

theorem mN_ok {m : Nat} {fa kk tb : Addr} {Q : AV → AH → Prop} (Fn2 : Fn B 2 fa (.ref kk) .none) (hA : Rm A (m + 5)) (hB : B.OK) (bsum : B.mg "sum" = none ∧ B.mb "sum" = some (.builtin "sum")) (ht : σ.tab tb = some kk) (g : G.OK)
    (gl : GL G σ aL dL ll) (cl : CL σ aC dC lc cls) (hcm : ∀ c ∈ dC.keys, ∀ v, v ∈ cls c ↔ v ∈ G.V ∧ f v = c) (hz : G.V.length ≤ 100) (hk : dC.keys.length ≤ 100)
    (q : ∀ D d σ', Nw σ D → NL G dC.keys σ' D (nF G f) d → Off σ.Fresh σ σ' → Q (.ref D) σ') :
    CallOK prog w B A (.ref fa) σ [.ref aL, .ref aC] [] Q := by
  refine callOK (ρ' := [("L", .ref aL), ("C", .ref aC)]) Fn2 hA hB (fun pm doc s vals kw P C hv hk => ?_) fun pm doc P L hA => mN_body (m := m) hA hB bsum ht g gl cl hz hk fun _ D d σ' h1 h2 h3 h4 h5 => q D d σ' h1 ⟨h2, h3, fun v hv c hcK => ?_⟩ h5
  · obtain ⟨v1, _, rfl, r1, hv⟩ := hv.invc
    obtain ⟨v2, _, rfl, r2, hv⟩ := hv.invc
    cases hv.inv0
    cases hk.inv0
    exact ⟨_, .of_eq rfl, .cons r1 (.cons r2 .nil)⟩
  · rw [h4 v hv c hcK]
    unfold nF cnt
    congr 2
    refine List.countP_congr fun x hx => ?_
    rw [List.contains_iff_mem, hcm c hcK x]
    simp [g.sub v hv x hx]

theorem countP_cls {V l : List Int} {f : Int → Int} {c : Int} {p : Int → Bool} (hV : V.Nodup) (hl : l.Nodup) (h : ∀ v, v ∈ l ↔ v ∈ V ∧ f v = c) : l.countP p = V.countP fun v => f v == c && p v := by
  have hp : l.Perm (V.filter fun v => f v == c) := by
    rw [List.perm_ext_iff_of_nodup hl (hV.filter _)]
    intro v
    rw [h v, List.mem_filter]
    simp
  rw [hp.countP_eq, List.countP_filter]
  refine List.countP_congr fun x hx => ?_
  simp [and_comm]

theorem mH_ok {m : Nat} {fa kk tb : Addr} {Q : AV → AH → Prop} (Fn3 : Fn B 3 fa (.ref kk) .none) (hA : Rm A (m + 5)) (hB : B.OK) (bsum : B.mg "sum" = none ∧ B.mb "sum" = some (.builtin "sum")) (ht : σ.tab tb = some kk) (g : G.OK)
    (cl : CL σ aC dC lc cls) (hcm : ∀ c ∈ dC.keys, ∀ v, v ∈ cls c ↔ v ∈ G.V ∧ f v = c) (hcn : ∀ c ∈ dC.keys, (cls c).Nodup) (nl : NL G dC.keys σ aN n dN) (hk : dC.keys.length ≤ 100)
    (q : ∀ D d σ', Nw σ D → σ'.dP D = some d → d.keys = dC.keys.flatMap (fun x => dC.keys.map fun y => (x, y)) → (∀ c ∈ dC.keys, ∀ e ∈ dC.keys, d.val c e = .int (hc G.V f n c e)) → Off σ.Fresh σ σ' → Q (.ref D) σ') :
    CallOK prog w B A (.ref fa) σ [.ref aC, .ref aN] [] Q := by
  refine callOK (ρ' := [("C", .ref aC), ("N", .ref aN)]) Fn3 hA hB (fun pm doc s vals kw P C hv hk => ?_) fun pm doc P L hA => mH_body (m := m) hA hB bsum ht cl (fun c h v hv => ((hcm c h v).mp hv).1) nl hk fun _ D d σ' h1 h2 h3 h4 h5 => q D d σ' h1 h2 h3 (fun c hcK e he => ?_) h5
  · obtain ⟨v1, _, rfl, r1, hv⟩ := hv.invc
    obtain ⟨v2, _, rfl, r2, hv⟩ := hv.invc
    cases hv.inv0
    cases hk.inv0
    exact ⟨_, .of_eq rfl, .cons r1 (.cons r2 .nil)⟩
  · rw [h4 c hcK e he, countP_cls g.nodup (hcn c hcK) (hcm c hcK)]
    rfl
end
end Mine

/-! P20 -/
namespace Mine
section
variable {prog : Program} {w : World} {c : Cx} {ρ : Rho} {σ : AH} {s s' : Shared}
theorem BC.len {a : Addr} {xs : List AV} {Q : AV → AH → Prop} (hl : σ.list a = some xs) (hz : xs.length ≤ 100000) (q : Q (.int xs.length) σ) : BC prog w c ρ σ (.builtin "len") [.ref a] Q := fun s vs S hvs => by
  obtain ⟨v, rfl, hv⟩ := hvs.inv1
  cases hv.ref_inv
  obtain ⟨us, hp, hus⟩ := S.sees.list _ _ hl
  have hlen := hus.length
  have hsz : us.toArray.size = xs.length := by simpa using hlen
  refine PySem.Calls.call_len_list hp.isList (by rw [hsz]; omega) ?_
  rw [hsz]
  exact ⟨_, σ, .int _ _, (Pv.toks S _).st, (Pv.toks S _).stab, q⟩
theorem ITt.keysK {e : Expr} {d : Addr} {dd : DI} {xs : List Int} (h : PE prog w c ρ σ e (.ref d)) (hl : σ.dI d = some dd) (hk : dd.keys = xs) (hd : (d == sysModules) = false) : ITt prog w c ρ σ (eval e c.env) (xs.map AV.int) (fun σ => ∃ v, σ.dI d = some ⟨xs, v, dd.ep⟩) := by subst hk; exact ITt.keys h hl hd
end
/-- the colours' dict -/
structure FL (G : Gr) (σ : AH) (aF : Addr) (dF : DI) (f : Int → Int) : Prop where
  at_ : σ.dI aF = some dF
  mem : ∀ v ∈ G.V, v ∈ dF.keys
  val : ∀ v ∈ G.V, dF.val v = .int (f v)
theorem FL.off {G : Gr} {σ σ' : AH} {aF : Addr} {dF : DI} {f : Int → Int} (x : FL G σ aF dF f) (o : Off σ.Fresh σ σ') : FL G σ' aF dF f := { x with at_ := o.dI' x.at_ }
theorem FL.gi {G : Gr} {σ : AH} {aF : Addr} {dF : DI} {f : Int → Int} (x : FL G σ aF dF f) {v : Int} (hv : v ∈ G.V) : GI σ (.ref aF) (.int v) (.int (f v)) := by
  have := GI.dI x.at_ (k := v) (x.mem v hv)
  rwa [x.val v hv] at this

section
variable {prog : Program} {w : World} {A : Around} {B : Basis} {σ : AH} {P : Pins} {pm cd doc dV : Value} {L fa : Addr} {G : Gr} {aL aF aK : Addr} {dL dF : DI} {ll : Int → Addr} {f : Int → Int} {K : List Int}

theorem counts_body {m : Nat} {Q : AF → Rho → AH → Prop} (hA : Rm (calleeCx A B P (FD 9 pm cd doc dV .none) L fa).A m) (hB : B.OK) (blen : B.mg "len" = none ∧ B.mb "len" = some (.builtin "len")) (g : G.OK)
    (gl : GL G σ aL dL ll) (fl : FL G σ aF dF f) (hK : σ.list aK = some (K.map AV.int)) (hKn : K.Nodup) (hz : G.V.length ≤ 100) (hKz : K.length ≤ 100)
    (q : ∀ ρ' D E d e σ', Nw σ D → (E == sysModules) = false → NL G K σ' D (nF G f) d → σ'.dP E = some e → e.keys = K.flatMap (fun x => K.map fun y => (x, y)) → (∀ c ∈ K, ∀ e' ∈ K, e.val c e' = .int (hc G.V f (nF G f) c e')) → Off σ.Fresh σ σ' → Q (.ret (.pair (.ref D) (.ref E))) ρ' σ') :
    SX prog w (calleeCx A B P (FD 9 pm cd doc dV .none) L fa) [("L", .ref aL), ("F", .ref aF), ("colours", .ref aK)] σ (stBody (stAt 9)) Q := by
  have al : ∀ v ∈ G.V, (G.adj v).length ≤ 100 := fun v hv => Nat.le_trans (length_le_of_nodup (g.anodup v hv) (g.sub v hv)) hz
  refine SX.cons (S1.assign (EC.table (xs := G.V) (ys := K) (fun v c => nF G f v c) hA (Src := fun σ => ∃ v, σ.dI aL = some ⟨G.V, v, dL.ep⟩) (Src2 := fun σ => σ.list aK = some (K.map AV.int))
    (ITt.keysK (PE.name rfl) gl.at_ gl.keys gl.nm)
    (fun σ₁ o => ⟨dL.val, by rw [(gl.off o).at_, ← gl.keys]⟩) (fun σ₁ L' P' v o hv => ITt.list (PE.name rfl) (o.list' hK)) (fun σ₁ o => o.list' hK) g.nodup hKn hz hKz (fun σ₁ L' P' v c o hv hc => ?_) fun D d σ₁ h1 h2 h3 h4 o₁ => ?_).ev)
  · have gl₁ := gl.off o
    have fl₁ := fl.off o
    refine ⟨PE.pair (PE.name rfl) (PE.name rfl), ?_⟩
    refine EV.call1 (PE.builtin (by exact hB) blen.1 blen.2) (EC.filter (fun w => f w == c) (by exact hA) (ITt.list (PE.sub_ (by exact hA) (PE.name rfl) (PE.name rfl) (gl₁.gi hv)) (gl₁.list v hv)) (.list (gl₁.list v hv)) (Nat.le_trans (al v hv) (by decide)) (fun D ys L P' k hD hk => ?_) fun D hD => ?_).ev (R := fun av σ' => ∃ D, av = .ref D ∧ Nw σ₁ D ∧ σ' = σ₁.setL D (((G.adj v).filter fun w => f w == c).map AV.int)) ?_ (.inl ⟨_, rfl⟩)
    · have e1 : (f k == c) = decide (f k = c) := by by_cases h : f k = c <;> simp [h]
      rw [e1]
      exact PT.cmp (PE.sub_ (by exact hA) (PE.name rfl) (PE.name rfl) ((fl₁.off (Off.setL σ₁ hD.fresh)).gi (g.sub v hv k hk))) (PE.name rfl) .eq
    · exact ⟨D, rfl, hD, rfl⟩
    · rintro av σ' ⟨D, rfl, hD, rfl⟩
      refine BC.len (xs := ((G.adj v).filter fun w => f w == c).map AV.int) (by simp [AH.setL]) ?_ ⟨?_, .setL _ hD.fresh⟩
      · rw [List.length_map]; exact Nat.le_trans (List.length_filter_le _ _) (Nat.le_trans (al v hv) (by decide))
      · rw [List.length_map, ← List.countP_eq_length_filter]; rfl
  have nl : NL G K σ₁ D (nF G f) d := ⟨h2, h3, h4⟩
  have glA := gl.off o₁
  have flA := fl.off o₁
  refine SX.cons (S1.assignC (EC.table (xs := K) (ys := K) (fun c e => hc G.V f (nF G f) c e) hA (Src := fun σ => σ.list aK = some (K.map AV.int)) (Src2 := fun σ => σ.list aK = some (K.map AV.int))
    (ITt.list (PE.name rfl) (o₁.list' hK)) (fun σ₂ o => o.list' (o₁.list' hK)) (fun σ₂ L' P' v o hv => ITt.list (PE.name rfl) (o.list' (o₁.list' hK))) (fun σ₂ o => o.list' (o₁.list' hK)) hKn hKn hKz hKz (fun σ₂ L' P' c e o hcK he => ?_) fun E de σ₂ k1 k2 k3 k4 o₂ => ?_))
  · have gl₁ := glA.off o
    have fl₁ := flA.off o
    have nl₁ := nl.off o
    refine ⟨PE.pair (PE.name rfl) (PE.name rfl), ?_⟩
    refine EV.call1 (PE.builtin (by exact hB) blen.1 blen.2) (EC.filter (fun v => f v == c && nF G f v e == 0) (by exact hA) (ITt.keysK (PE.name rfl) gl₁.at_ gl₁.keys gl₁.nm) (Src := fun σ => ∃ v, σ.dI aL = some ⟨G.V, v, dL.ep⟩) (fun D ys hD => ⟨dL.val, by rw [← gl.keys]; exact gl₁.at_⟩) (Nat.le_trans hz (by decide)) (fun D' ys L P' k hD hk => ?_) fun D' hD => ?_).ev (R := fun av σ' => ∃ D, av = .ref D ∧ Nw σ₂ D ∧ σ' = σ₂.setL D ((G.V.filter fun v => f v == c && nF G f v e == 0).map AV.int)) ?_ (.inl ⟨_, rfl⟩)
    · have e1 : (f k == c) = decide (f k = c) := by by_cases h : f k = c <;> simp [h]
      have e2 : (nF G f k e == 0) = decide (nF G f k e = 0) := by by_cases h : nF G f k e = 0 <;> simp [h]
      rw [e1, e2, ← Bool.and_true (decide (nF G f k e = 0))]
      refine PT.bool (PA.and_cons (PT.cmp (PE.sub_ (by exact hA) (PE.name rfl) (PE.name rfl) ((fl₁.off (Off.setL σ₂ hD.fresh)).gi hk)) (PE.name rfl) .eq) fun _ => PA.and_cons (PT.cmp (PE.sub_ (by exact hA) (PE.name rfl) (PE.pair (PE.name rfl) (PE.name rfl)) ((nl₁.off (Off.setL σ₂ hD.fresh)).gi hk he)) PE.int .eq) fun _ => PA.and_nil)
    · exact ⟨D', rfl, hD, rfl⟩
    · rintro av σ' ⟨D', rfl, hD, rfl⟩
      refine BC.len (xs := (G.V.filter fun v => f v == c && nF G f v e == 0).map AV.int) (by simp [AH.setL]) ?_ ⟨?_, .setL _ hD.fresh⟩
      · rw [List.length_map]; exact Nat.le_trans (List.length_filter_le _ _) (Nat.le_trans hz (by decide))
      · rw [List.length_map, ← List.countP_eq_length_filter]; rfl
  exact SX.cons (S1.ret ((PE.pair (PE.name rfl) (PE.name rfl)).ev (q _ D E d de σ₂ h1 k1.notMod (nl.off o₂) k2 k3 k4 (o₁.transF o₂))))
end
end Mine

/-! P21 -/
namespace Mine
theorem Off.le {σ σ' : AH} (o : Off σ.Fresh σ σ') : AH.Le σ σ' := ⟨fun _ _ h => o.list' h, fun _ _ h => o.dI' h, fun _ _ h => o.dP' h, fun _ _ h => o.set' h, fun _ _ h => o.tab' h⟩
theorem sorted_eq : ∀ {l m : List Int}, l.Perm m → l.Pairwise (· ≤ ·) → m.Pairwise (· ≤ ·) → l = m
  | [], m, p, _, _ => by rw [List.nil_perm.mp p]
  | x :: xs, [], p, _, _ => by have := p.length_eq; simp at this
  | x :: xs, y :: ys, p, h1, h2 => by
    rw [List.pairwise_cons] at h1 h2
    have e : x = y := by
      have hx : x ∈ y :: ys := p.mem_iff.mp (.head _)
      have hy : y ∈ x :: xs := p.mem_iff.mpr (.head _)
      rcases List.mem_cons.mp hx with h | h
      · exact h
      · rcases List.mem_cons.mp hy with k | k
        · exact k.symm
        · have a := h2.1 x h; have b := h1.1 y k; omega
    subst e
    rw [sorted_eq (List.perm_cons _ |>.mp p) h1.2 h2.2]
/-- how the law's own list of colours stands to the tables -/
structure Nice (G : Gr) (a : Nm) (K : List Int) : Prop where
  nodup : K.Nodup
  sorted : K.Pairwise (· ≤ ·)
  mem : ∀ c, c ∈ K ↔ c ∈ a.dC.keys
  lenN : a.KN.length = G.V.length * K.length
  lenH : a.KH.length = K.length * K.length
  nm : (a.N == sysModules) = false
  hm : (a.H == sysModules) = false
  few : G.V.length ≤ 60
theorem Nice.perm {G : Gr} {a : Nm} {K : List Int} (x : Nice G a K) (h : a.dC.keys.Nodup) : K.Perm a.dC.keys := (List.perm_ext_iff_of_nodup x.nodup h).mpr x.mem
theorem Tabs.gl {G : Gr} {a : Nm} {σ : AH} {f : Int → Int} {cls : Int → List Int} {n h : Int → Int → Int} (T : Tabs G a σ f cls n h) (ok : a.OK G) : GL G σ a.L a.dL a.ll := ⟨T.L, ok.lk, ok.lv, T.adj, ok.lm⟩
theorem Tabs.cl {G : Gr} {a : Nm} {σ : AH} {f : Int → Int} {cls : Int → List Int} {n h : Int → Int → Int} (T : Tabs G a σ f cls n h) (ok : a.OK G) : CL σ a.C a.dC a.lc cls := ⟨T.C, ok.knodup, ok.cv, fun c hc => (T.cls c hc).1, ok.cm⟩
theorem Tabs.fl {G : Gr} {a : Nm} {σ : AH} {f : Int → Int} {cls : Int → List Int} {n h : Int → Int → Int} (T : Tabs G a σ f cls n h) (ok : a.OK G) : ∃ dF, FL G σ a.F dF f := by
  obtain ⟨d, h1, h2, h3⟩ := T.F
  exact ⟨d, h1, fun v hv => by rw [h2]; exact (ok.vf v).mpr hv, h3⟩
theorem Tabs.offF {G : Gr} {a : Nm} {σ σ' : AH} {f : Int → Int} {cls : Int → List Int} {n h : Int → Int → Int} (T : Tabs G a σ f cls n h) (o : Off σ.Fresh σ σ') : Tabs G a σ' f cls n h where
  F := by obtain ⟨d, h1, h2⟩ := T.F; exact ⟨d, o.dI' h1, h2⟩
  C := o.dI' T.C
  L := o.dI' T.L
  N := by obtain ⟨d, h1, h2⟩ := T.N; exact ⟨d, o.dP' h1, h2⟩
  H := by obtain ⟨d, h1, h2⟩ := T.H; exact ⟨d, o.dP' h1, h2⟩
  cls := fun c hc => ⟨o.list' (T.cls c hc).1, (T.cls c hc).2⟩
  adj := fun v hv => o.list' (T.adj v hv)
theorem Good.offF {G : Gr} {a : Nm} {σ σ' : AH} {f : Int → Int} {cls : Int → List Int} (S : Good G a σ f cls) (o : Off σ.Fresh σ σ') : Good G a σ' f cls := { S with tabs := S.tabs.offF o }

section
variable {prog : Program} {w : World} {A : Around} {B : Basis} {σ : AH} {G : Gr} {aL aF aK : Addr} {dL dF : DI} {ll : Int → Addr} {f : Int → Int} {K : List Int}
theorem counts_ok {m : Nat} {fa : Addr} {cd : Value} {Q : AV → AH → Prop} (F9 : Fn B 9 fa cd .none) (hA : Rm A (m + 1)) (hB : B.OK) (blen : B.mg "len" = none ∧ B.mb "len" = some (.builtin "len")) (g : G.OK)
    (gl : GL G σ aL dL ll) (fl : FL G σ aF dF f) (hK : σ.list aK = some (K.map AV.int)) (hKn : K.Nodup) (hz : G.V.length ≤ 100) (hKz : K.length ≤ 100)
    (q : ∀ D E d e σ', (D == sysModules) = false → (E == sysModules) = false → NL G K σ' D (nF G f) d → σ'.dP E = some e → e.keys = K.flatMap (fun x => K.map fun y => (x, y)) → (∀ c ∈ K, ∀ e' ∈ K, e.val c e' = .int (hc G.V f (nF G f) c e')) → Off σ.Fresh σ σ' → Q (.pair (.ref D) (.ref E)) σ') :
    CallOK prog w B A (.ref fa) σ [.ref aL, .ref aF, .ref aK] [] Q := by
  refine callOK (ρ' := [("L", .ref aL), ("F", .ref aF), ("colours", .ref aK)]) F9 hA hB (fun pm doc s vals kw P C hv hk => ?_) fun pm doc P L hA => counts_body hA hB blen g gl fl hK hKn hz hKz fun _ D E d e σ' h1 h2 h3 h4 h5 h6 h7 => q D E d e σ' h1.notMod h2 h3 h4 h5 h6 h7
  obtain ⟨v1, _, rfl, r1, hv⟩ := hv.invc
  obtain ⟨v2, _, rfl, r2, hv⟩ := hv.invc
  obtain ⟨v3, _, rfl, r3, hv⟩ := hv.invc
  cases hv.inv0
  cases hk.inv0
  exact ⟨_, .of_eq rfl, .cons r1 (.cons r2 (.cons r3 .nil))⟩
end

section
variable {prog : Program} {w : World} {A : Around} {B : Basis} {σ : AH} {P : Pins} {pm cd doc dV : Value} {L fa : Addr} {G : Gr} {a : Nm} {aK : Addr} {f : Int → Int} {cls : Int → List Int} {K : List Int}
theorem agrees_body {m : Nat} {f9 : Addr} {cd9 : Value} {Q : AF → Rho → AH → Prop} (F9 : Fn B 9 f9 cd9 .none) (hA : Rm (calleeCx A B P (FD 10 pm cd doc dV .none) L fa).A (m + 2)) (hB : B.OK) (blen : B.mg "len" = none ∧ B.mb "len" = some (.builtin "len")) (bsort : B.mg "sorted" = none ∧ B.mb "sorted" = some (.builtin "sorted")) (g : G.OK)
    (ok : a.OK G) (S : Good G a σ f cls) (hK : σ.list aK = some (K.map AV.int)) (ni : Nice G a K)
    (q : ∀ ρ' σ', Off σ.Fresh σ σ' → Q (.ret (.bool true)) ρ' σ') :
    SX prog w (calleeCx A B P (FD 10 pm cd doc dV .none) L fa) [("L", .ref a.L), ("F", .ref a.F), ("C", .ref a.C), ("N", .ref a.N), ("H", .ref a.H), ("colours", .ref aK)] σ (stBody (stAt 10)) Q := by
  obtain ⟨dF, fl⟩ := S.tabs.fl ok
  have hp := ni.perm ok.knodup
  have hk10 : K.length ≤ 10 := by rw [hp.length_eq]; exact ok.zk
  have few := ni.few
  refine SX.cons (S1.assignTuple hA (EV.call hB (F9.fn.choose_spec.choose_spec) (.cons (PE.name rfl) (fun _ => rfl) (.cons (PE.name rfl) (fun _ => rfl) (.cons (PE.name rfl) (fun _ => rfl) .nil))) .nil
    (counts_ok F9 (by exact hA) (by exact hB) blen g (S.tabs.gl ok) fl hK ni.nodup (by omega) (by omega) fun D E d e σ₁ h1 h2 nl h4 h5 h6 o₁ => ⟨_, _, rfl, ?_⟩)))
  have S₁ := S.offF o₁
  obtain ⟨dN, nN, kN, vN⟩ := S₁.tabs.N
  obtain ⟨dH, nH, kH, vH⟩ := S₁.tabs.H
  refine SX.cons (S1.iteV (TV.bool (TB.or_cons (TV.cmp (R := fun av σ' => av = .ref a.N ∧ σ₁ = σ') ((PE.name rfl).ev ⟨rfl, rfl⟩) ?_))))
  rintro _ _ ⟨rfl, rfl⟩
  refine (PE.name rfl).ev ⟨false, CP.dictNe (n := m) hA nN nl.at_ ni.nm h1 ?_ ?_, ?_⟩
  · rw [kN, ni.lenN, nl.keys, pairs_length]
  · intro i j hij
    rw [kN, ok.kn] at hij
    exact ⟨by rw [nl.keys]; exact mem_pairs.mpr ⟨hij.1, (ni.mem j).mpr hij.2⟩, _, vN i hij.1 j hij.2, nl.val i hij.1 j ((ni.mem j).mpr hij.2)⟩
  simp only [Bool.false_eq_true, if_false]
  refine TB.or_cons (TV.cmp (R := fun av σ' => av = .ref a.H ∧ σ₁ = σ') ((PE.name rfl).ev ⟨rfl, rfl⟩) ?_)
  rintro _ _ ⟨rfl, rfl⟩
  refine (PE.name rfl).ev ⟨false, CP.dictNe (n := m) hA nH h4 ni.hm h2 ?_ ?_, ?_⟩
  · rw [kH, ni.lenH, h5, pairs_length]
  · intro i j hij
    rw [kH, ok.kh] at hij
    exact ⟨by rw [h5]; exact mem_pairs.mpr ⟨(ni.mem i).mpr hij.1, (ni.mem j).mpr hij.2⟩, _, vH i hij.1 j hij.2, h6 i ((ni.mem i).mpr hij.1) j ((ni.mem j).mpr hij.2)⟩
  simp only [Bool.false_eq_true, if_false]
  refine TB.or_cons (TV.cmp (R := fun av σ' => ∃ D ys, av = .ref D ∧ Nw σ₁ D ∧ ys = K ∧ σ₁.setL D (ys.map AV.int) = σ') (EV.call1 (R := fun av σ' => av = .ref a.C ∧ σ₁ = σ') (PE.builtin hB bsort.1 bsort.2) ((PE.name rfl).ev ⟨rfl, rfl⟩) ?_ (.inl ⟨_, rfl⟩)) ?_)
  · rintro _ _ ⟨rfl, rfl⟩
    refine BC.sortedD hA S₁.tabs.C ok.cm (by have := ok.zk; omega) fun D ys hD hp' hs => ⟨D, ys, rfl, hD, sorted_eq (hp'.trans hp.symm) hs ni.sorted, rfl⟩
  rintro _ _ ⟨D', ys, rfl, hD', rfl, rfl⟩
  have o₂ : Off σ₁.Fresh σ₁ (σ₁.setL D' (ys.map AV.int)) := .setL _ hD'.fresh
  refine (PE.name rfl).ev ⟨_, CP.listNe hA (xs := ys) (ys := ys) (by simp [AH.setL]) (o₂.list' (o₁.list' hK)), ?_⟩
  simp only [decide_true, Bool.not_true, Bool.false_eq_true, if_false]
  refine TB.or_nil ?_
  simp only [Bool.false_eq_true, if_false]
  refine SX.nil ?_
  have S₂ := S₁.offF o₂
  have o12 := o₁.transF o₂
  generalize hσ : σ₁.setL D' (ys.map AV.int) = σ₂ at *
  obtain ⟨dF₂, fl₂⟩ := S₂.tabs.fl ok
  refine SX.cons (S1.ret (EV.cmp (EC.filter (fun _ => false) hA (ITt.list (PE.name rfl) (o12.list' hK)) (.list (o12.list' hK)) (by omega) (fun D ys' L' P' c hD hc => ?_) fun D hD => ?_).ev (R := fun av σ' => ∃ D, av = .ref D ∧ Nw σ₂ D ∧ σ₂.setL D [] = σ') ?_))
  · have hcK := (ni.mem c).mp hc
    have o₃ : Off σ₂.Fresh σ₂ (σ₂.setL D ys') := .setL _ hD.fresh
    have S₃ := S₂.offF o₃
    generalize hσ₃ : σ₂.setL D ys' = σ₃ at *
    obtain ⟨dF₃, fl₃⟩ := S₃.tabs.fl ok
    have hlen := S₃.len hcK
    refine TV.pt (TV.cmp (R := fun av σ' => ∃ D, ∃ ys : List Int, av = .ref D ∧ Nw σ₃ D ∧ ys.Perm (cls c) ∧ ys.Pairwise (· ≤ ·) ∧ σ₃.setL D (ys.map AV.int) = σ') (EV.call1 (R := fun av σ' => av = .ref (a.lc c) ∧ σ₃ = σ') (PE.builtin (by exact hB) bsort.1 bsort.2) ((PE.sub_ (by exact hA) (PE.name rfl) (PE.name rfl) ((S₃.tabs.cl ok).gi hcK)).ev ⟨rfl, rfl⟩) ?_ (.inl ⟨_, rfl⟩)) ?_)
    · rintro _ _ ⟨rfl, rfl⟩
      exact BC.sortedL (S₃.tabs.cls c hcK).1 (by omega) fun D ys hD hp' hs => ⟨D, ys, rfl, hD, hp', hs, rfl⟩
    rintro _ _ ⟨D4, y4, rfl, hD4, hp4, hs4, rfl⟩
    have o₄ : Off σ₃.Fresh σ₃ (σ₃.setL D4 (y4.map AV.int)) := .setL _ hD4.fresh
    have e4 : (σ₃.setL D4 (y4.map AV.int)).list D4 = some (y4.map AV.int) := by simp [AH.setL]
    have S₄ := S₃.offF o₄
    generalize hσ₄ : σ₃.setL D4 (y4.map AV.int) = σ₄ at *
    have gl₄ := S₄.tabs.gl ok
    refine EV.call1 (PE.builtin (by exact hB) bsort.1 bsort.2) (EC.filter (fun v => f v == c) (by exact hA) (ITt.keysK (PE.name rfl) gl₄.at_ gl₄.keys gl₄.nm) (Src := fun σ => ∃ v, σ.dI a.L = some ⟨G.V, v, a.dL.ep⟩) (fun D ys hD => ⟨a.dL.val, by rw [← gl₄.keys]; exact gl₄.at_⟩) (by omega) (fun D5 ys L P' k hD hk => ?_) fun D5 hD => ?_).ev (R := fun av σ' => ∃ D, av = .ref D ∧ Nw σ₄ D ∧ σ₄.setL D ((G.V.filter fun v => f v == c).map AV.int) = σ') ?_ (.inl ⟨_, rfl⟩)
    · have e1 : (f k == c) = decide (f k = c) := by by_cases h : f k = c <;> simp [h]
      rw [e1]
      have o₅ : Off σ₄.Fresh σ₄ (σ₄.setL D5 ys) := .setL _ hD.fresh
      obtain ⟨dF₅, fl₅⟩ := (S₄.offF o₅).tabs.fl ok
      exact PT.cmp (PE.sub_ (by exact hA) (PE.name rfl) (PE.name rfl) (fl₅.gi hk)) (PE.name rfl) .eq
    · exact ⟨D5, rfl, hD, rfl⟩
    · rintro _ _ ⟨D5, rfl, hD5, rfl⟩
      have o₅ : Off σ₄.Fresh σ₄ (σ₄.setL D5 ((G.V.filter fun v => f v == c).map AV.int)) := .setL _ hD5.fresh
      have hl5 : (G.V.filter fun v => f v == c).length ≤ G.V.length := List.length_filter_le _ _
      refine BC.sortedL (xs := G.V.filter fun v => f v == c) (by simp [AH.setL]) (by omega) fun D6 y6 hD6 hp6 hs6 => ?_
      have o₆ : Off (σ₄.setL D5 ((G.V.filter fun v => f v == c).map AV.int)).Fresh _ ((σ₄.setL D5 ((G.V.filter fun v => f v == c).map AV.int)).setL D6 (y6.map AV.int)) := .setL _ hD6.fresh
      have hp7 : (cls c).Perm (G.V.filter fun v => f v == c) := (List.perm_ext_iff_of_nodup (S₃.nodup c hcK) (g.nodup.filter _)).mpr fun v => by rw [S₃.mem c hcK v, List.mem_filter]; simp
      have e7 : y4 = y6 := sorted_eq (hp4.trans (hp7.trans hp6.symm)) hs4 hs6
      refine ⟨_, CP.listNe (by exact hA) (xs := y4) (ys := y6) (o₆.list' (o₅.list' e4)) (by simp [AH.setL]), ?_, (o₄.transF (o₅.transF o₆)).le⟩
      simp [e7]
  · exact ⟨D, rfl, hD, by rw [List.filter_eq_nil_iff.mpr (fun _ _ => Bool.false_ne_true)]; rfl⟩
  · rintro _ _ ⟨D7, rfl, hD7, rfl⟩
    refine EV.listLit .nil (by decide) fun D8 hD8 => ⟨_, CP.eqNil hA (xs := []) ((Off.setL _ hD8.fresh : Off (σ₂.setL D7 []).Fresh _ _).list' (by simp [AH.setL])) (by simp [AH.setL]), ?_⟩
    exact q _ _ (o12.transF ((Off.setL _ hD7.fresh : Off σ₂.Fresh _ _).transF (.setL _ hD8.fresh)))
end
end Mine

/-! P22 -/
namespace Mine
section
variable {prog : Program} {w : World} {A : Around} {B : Basis} {σ : AH} {G : Gr} {a : Nm} {aK : Addr} {f : Int → Int} {cls : Int → List Int} {K : List Int}
theorem agrees_ok {m : Nat} {fa f9 : Addr} {cd cd9 : Value} {Q : AV → AH → Prop} (F10 : Fn B 10 fa cd .none) (F9 : Fn B 9 f9 cd9 .none) (hA : Rm A (m + 3)) (hB : B.OK) (blen : B.mg "len" = none ∧ B.mb "len" = some (.builtin "len")) (bsort : B.mg "sorted" = none ∧ B.mb "sorted" = some (.builtin "sorted")) (g : G.OK)
    (ok : a.OK G) (S : Good G a σ f cls) (hK : σ.list aK = some (K.map AV.int)) (ni : Nice G a K)
    (q : ∀ σ', Off σ.Fresh σ σ' → Q (.bool true) σ') :
    CallOK prog w B A (.ref fa) σ [.ref a.L, .ref a.F, .ref a.C, .ref a.N, .ref a.H, .ref aK] [] Q := by
  refine callOK (ρ' := [("L", .ref a.L), ("F", .ref a.F), ("C", .ref a.C), ("N", .ref a.N), ("H", .ref a.H), ("colours", .ref aK)]) F10 hA hB (fun pm doc s vals kw P C hv hk => ?_) fun pm doc P L hA => agrees_body (m := m) F9 hA hB blen bsort g ok S hK ni fun _ σ' o => q σ' o
  obtain ⟨v1, _, rfl, r1, hv⟩ := hv.invc
  obtain ⟨v2, _, rfl, r2, hv⟩ := hv.invc
  obtain ⟨v3, _, rfl, r3, hv⟩ := hv.invc
  obtain ⟨v4, _, rfl, r4, hv⟩ := hv.invc
  obtain ⟨v5, _, rfl, r5, hv⟩ := hv.invc
  obtain ⟨v6, _, rfl, r6, hv⟩ := hv.invc
  cases hv.inv0
  cases hk.inv0
  exact ⟨_, .of_eq rfl, .cons r1 (.cons r2 (.cons r3 (.cons r4 (.cons r5 (.cons r6 .nil)))))⟩
end
end Mine

/-! G25 -/
namespace Mine
/-- a list of ints that nothing changes -/
def PinL (B : Basis) (l : Addr) (xs : List Int) : Prop := ∃ vs : List Value, B.h₀.IsList l vs.toArray ∧ IntsAre vs xs
section
variable {prog : Program} {w : World} {c : Cx} {ρ : Rho} {σ : AH} {s s' : Shared} {B : Basis} {P : Pins} {h : Heap}
theorem PinL.now {l : Addr} {xs : List Int} (x : PinL B l xs) (S : Sees prog w B P σ h) : ∃ vs : List Value, h.IsList l vs.toArray ∧ IntsAre vs xs ∧ vs.length = xs.length := by
  obtain ⟨vs, ⟨o, ho, r⟩, hi⟩ := x
  exact ⟨vs, ⟨o, S.keeps _ _ ho, r⟩, hi, by have := (intsAre_VRs (h := h) hi).length; simpa using this⟩
theorem PE.lenB {f : Str} {e : Expr} {p pos : Pos} {l : Addr} {xs : List Int} {n : Nat} (hf : PE prog w c ρ σ (.Name f p) (.val (.builtin "len"))) (he : PE prog w c ρ σ e (.ref l)) (hl : PinL c.B l xs) (hn : n = xs.length) (hz : n ≤ 100000)
    (hs : starEach [e] c.env = [(false, eval e c.env)] := by rfl) : PE prog w c ρ σ (.Call (.Name f p) [e] [] pos) (.int n) := fun s S => by
  subst hn
  refine wpAny_Call_NameR (PE.one S hf fun u s₁ S₁ p₁ hu => ?_)
  cases hu.val_inv
  rw [hs]
  refine Calls.callWith_builtin rfl (Calls.evalArgs_plain (Calls.spliced_cons (PE.one S₁ he fun v s₂ S₂ p₂ hv => Calls.spliced_nil ?_)))
  cases hv.ref_inv
  obtain ⟨us, hp, hi, hlen⟩ := hl.now S₂.sees
  have hsz : us.toArray.size = xs.length := by simpa using hlen
  refine PySem.Calls.call_len_list hp (by rw [hsz]; omega) ?_
  rw [hsz]
  exact ⟨.int _ _, (p₁.trans p₂).trans (.toks S₂ _)⟩
theorem IT2.sliceToB {value e : Expr} {p pos : Pos} {l : Addr} {xs : List Int} {m : Nat} {K : AH → List AV → (AH → Prop) → Prop} (hv : PE prog w c ρ σ value (.ref l)) (hl : PinL c.B l xs) (hz : xs.length ≤ sizeLine) (he : PE prog w c ρ σ e (.int m))
    (k : ∀ D, Nw σ D → K (σ.setL D ((xs.take m).map AV.int)) ((xs.take m).map AV.int) (fun σ' => σ'.list D = some ((xs.take m).map AV.int)))
    (ht : ∀ o r, letTemporaryGo value o r = pure () := by intro _ _; rfl) :
    IT2 prog w c ρ σ (eval (.Subscript value (.Slice none (some e) none p) pos) c.env) K := fun s S => by
  refine wpAny_Subscript_list_slice (PE.one S hv fun u s₁ S₁ p₁ hu => wpAny_evalPart_none (wpAny_evalPart_some (PE.one S₁ he fun v s₂ S₂ p₂ hv => ?_))) ht
  cases hu.ref_inv
  obtain ⟨t, rfl⟩ := hv.int_inv
  obtain ⟨us, hp, hi, hlen⟩ := hl.now S₂.sees
  refine ⟨l, us.toArray, none, some (m : Int), rfl, hp, by simpa [hlen] using hz, .none, .int _ _, ?_⟩
  have hsl := slice_ints_uptoW hi (y := (m : Int)) (by omega)
  have p₃ : Pu s₂ { s₂ with heap := s₂.heap.push { cls := .type "slice", data := .fields #[.none, .int m t, .none] } } := .push _ _
  have S₃ := S₂.pu p₃
  have e : Ext (s₂.heap.push { cls := .type "slice", data := .fields #[.none, .int m t, .none] }) ((s₂.heap.push { cls := .type "slice", data := .fields #[.none, .int m t, .none] }).push { cls := .type "list", data := .seq (slicePick us.toArray none (some (m : Int)) none) }) := Ext.push _ _
  have hsz : (s₂.heap.push { cls := .type "slice", data := .fields #[.none, .int m t, .none] }).objs.size = s₂.heap.objs.size + 1 := Heap.size_push ..
  have fD := S₃.freshNew
  have S₄ := St.newL (S := S₃) (tk := s₂.toks) (xs := (xs.take m).map AV.int) e ⟨(slicePick us.toArray none (some (m : Int)) none).toList, ⟨0, by rw [Heap.get?_push_size _ rfl, Array.toArray_toList]⟩, intsAre_VRs (by simpa using hsl)⟩
  have hsz' : ({ s₂ with heap := s₂.heap.push { cls := .type "slice", data := .fields #[.none, .int m t, .none] } } : Shared).heap.objs.size = s₂.heap.objs.size + 1 := hsz
  rw [hsz'] at S₄ fD
  refine ⟨_, _, _, S₄, (p₁.trans p₂).stab.trans (p₃.ext.stab.trans e.stab), (Walk.list S₄.sees (by simp [AH.setL])).toN S₄, k _ fD⟩
/-- for x in a pinned list: .. -/
theorem S1.forB {x : Str} {px pos : Pos} {iter : Expr} {body orelse : List Stmt} {l : Addr} {xs : List Int} {Q : AF → Rho → AH → Prop} {n : Nat} (hA : Rm c.A n)
    (hit : PE prog w c ρ σ iter (.ref l)) (hl : PinL c.B l xs) (Inv : Nat → Rho → AH → Prop) (h0 : Inv 0 ρ σ)
    (step : ∀ i a ρ₁ σ₁ P', xs[i]? = some a → Inv i ρ₁ σ₁ → SX prog w (c.pinned P') ((x, .int a) :: ρ₁) σ₁ body
      (fun f ρ₂ σ₂ => match f with | .next => Inv (i + 1) ρ₂ σ₂ | .cont => Inv (i + 1) ρ₂ σ₂ | .brk => Q .next ρ₂ σ₂ | .ret v => Q (.ret v) ρ₂ σ₂))
    (fin : ∀ ρ₁ σ₁, Inv xs.length ρ₁ σ₁ → SX prog w c ρ₁ σ₁ orelse Q)
    (hx : isSto c.env c.wr x = true := by rfl) (hs : ∀ x, foldedSetIterable iter c.env x = pure x := by intro _; rfl) : S1 prog w c ρ σ (.For (.Name x px) iter body orelse pos) Q := fun s S => by
  refine wpAny_For (hs := hs) (PE.one S hit fun u s₁ S₁ p₁ hu => ?_)
  cases hu.ref_inv
  obtain ⟨us₁, hp₁, _, _⟩ := hl.now S₁.sees
  refine wpAny_pyIter_list hp₁ ?_
  obtain ⟨I, hI⟩ : ∃ I, I = s₁.heap.objs.size := ⟨_, rfl⟩
  rw [← hI]
  have imm : ∀ (i : Nat) o, (o.cls = .type "list_iterator" ∧ o.data = .fields #[.ref l, .int i 0]) → ¬ Imm o := fun i o ⟨h1, _⟩ => imm_not h1 rfl
  have p₂ : Pu s₁ { s₁ with heap := s₁.heap.push { cls := .type "list_iterator", data := .fields #[.ref l, .int 0 0] } } := .push _ _
  have W₀ : Wait prog w c ρ σ I (fun o => o.cls = .type "list_iterator" ∧ o.data = .fields #[.ref l, .int (0 : Nat) 0]) { s₁ with heap := s₁.heap.push { cls := .type "list_iterator", data := .fields #[.ref l, .int 0 0] } } :=
    .start S₁ p₂ (S₁.newI (hI ▸ get?_none_of_le (Nat.le_refl _))) (by rw [hI]; exact Heap.get?_push_size _ rfl) ⟨rfl, rfl⟩
  refine codeAny_forLoop (fun k s' => ∃ i ρ₁ σ₁, Wait prog w c ρ₁ σ₁ I (fun o => o.cls = .type "list_iterator" ∧ o.data = .fields #[.ref l, .int (i : Nat) 0]) s' ∧ Stab s.heap s'.heap ∧ Inv i ρ₁ σ₁ ∧ i ≤ xs.length ∧ k = xs.length + 1 - i) ?_ (xs.length + 1)
    ⟨0, ρ, σ, W₀, p₁.stab.trans p₂.ext.stab, h0, Nat.zero_le _, rfl⟩
  rintro k s' ⟨i, ρ₁, σ₁, W, st, hI, hi, rfl⟩
  obtain ⟨o₁, ho₁, hat₁⟩ := W.at_
  obtain ⟨us, hp, hints, hlen⟩ := hl.now W.st.sees
  have up : ∀ {α : Type} {t : Sem α} {Q : α → Shared → Prop} {E : Value → Shared → Prop} {s : Shared}, wpAny (model prog w) c.A t Q NoE s → wpAny (model prog w) c.A t Q E s := fun h => wpAny_mono h (fun _ _ q => q) fun _ _ e => e.elim
  by_cases hlt : i < xs.length
  · have hu : us[i]? = some us[i] := List.getElem?_eq_getElem (by omega)
    obtain ⟨v0, hv0, hr⟩ := (intsAre_VRs (h := s'.heap) hints).get (i := i) (r := .int xs[i]) (by rw [List.getElem?_map, List.getElem?_eq_getElem hlt]; rfl)
    rw [hu] at hv0
    cases hv0
    refine up (wpAny_pyNext_list_item ⟨o₁, ho₁, hat₁.1, hat₁.2⟩ hp (x := us[i]) (by rw [List.getElem?_toArray]; exact hu) fun h' hit' hs' => ?_)
    obtain ⟨o₃, ho₃, h1, h2⟩ := hit'
    obtain ⟨W₃, st₃⟩ := W.step (s' := { s' with heap := h' }) (At' := fun o => o.cls = .type "list_iterator" ∧ o.data = .fields #[.ref l, .int (i + 1 : Nat) 0]) (imm i) hs'.extBut ho₃ ⟨h1, h2⟩ rfl rfl
    have S₃ := W₃.into
    refine up (wpAny_assign_Name (St.store (c := c.pinned _) (A := c.A) S₃ (hr.stab st₃) hx fun s₄ S₄ st₄ => ?_))
    refine up (wpAny_mono (step i xs[i] ρ₁ σ₁ (pinMore c.P h' (· = I)) (by simp [hlt]) hI s₄ S₄) (fun f s₅ h₅ => ?_) fun _ _ e => e)
    obtain ⟨af, ρ₂, σ₂, hf, S₅, st₅, q⟩ := h₅
    have W₅ := W₃.back S₅
    have stt := (st.trans st₃).trans (st₄.trans st₅)
    cases hf with
    | next => exact ⟨_, by omega, i + 1, ρ₂, σ₂, W₅, stt, q, hlt, rfl⟩
    | cont => exact ⟨_, by omega, i + 1, ρ₂, σ₂, W₅, stt, q, hlt, rfl⟩
    | brk => exact ⟨.next, ρ₂, σ₂, .next, W₅.st, stt, q⟩
    | ret hr => exact ⟨.ret _, ρ₂, σ₂, .ret hr, W₅.st, stt, q⟩
  · have hin : i = xs.length := by omega
    subst hin
    refine up (wpAny_pyNext_list_end hA.1 ⟨o₁, ho₁, hat₁.1, hat₁.2⟩ hp (by simp [hlen]) fun h' he => ?_)
    obtain ⟨S₃, st₃⟩ := W.ended (s' := { s' with heap := h' }) (imm _) he rfl rfl
    refine up (wpAny_mono (fin ρ₁ σ₁ hI _ S₃) (fun f s₅ h₅ => ?_) fun _ _ e => e)
    obtain ⟨af, ρ₂, σ₂, hf, S₅, st₅, q⟩ := h₅
    exact ⟨af, ρ₂, σ₂, hf, S₅, (st.trans st₃).trans st₅, q⟩
end
end Mine

/-! P23 -/
namespace Mine
theorem setL_setL (σ : AH) (D : Addr) (x y : List AV) : (σ.setL D x).setL D y = σ.setL D y := by
  simp only [AH.setL, AH.mk.injEq, and_true]
  funext b
  by_cases hb : b = D <;> simp [hb]
theorem setL_list (σ : AH) (D : Addr) (x : List AV) : (σ.setL D x).list D = some x := by simp [AH.setL]
section
variable {prog : Program} {w : World} {c : Cx} {ρ : Rho} {σ : AH}
/-- [elt for x in iter], elt pure -/
theorem EC.map {elt iter : Expr} {x : Str} {px pos : Pos} {scope : Scope} {items vals : List AV} {Src : AH → Prop} {n : Nat} {Q : AV → AH → Prop} (hA : Rm c.A n)
    (hit : ITt prog w c ρ σ (eval iter c.env) items Src) (hS : SrcNew σ Src) (hz : items.length ≤ 1000) (hl : vals.length = items.length)
    (helt : ∀ D ys L P' (i : Nat) a b, Nw σ D → items[i]? = some a → vals[i]? = some b → PE prog w (compCx c scope L P') ((x, a) :: capt scope ρ) (σ.setL D ys) elt b)
    (q : ∀ D, Nw σ D → Q (.ref D) (σ.setL D vals))
    (hok : compOK scope c.env = true := by rfl) (hx : (scope.names.lookup x == some .local || scope.names.lookup x == some .cell) = true := by rfl) (hs : ∀ x, foldedSetIterable iter c.env x = pure x := by intro _; rfl) :
    EC prog w c ρ σ (.ListComp elt [⟨.Name x px, iter, [], 0⟩] scope pos) Q := by
  refine EC.listComp hA hit (fun D i σ₁ => Nw σ D ∧ σ₁ = σ.setL D (vals.take i)) (fun D hD => ⟨hD, rfl⟩) (fun D i σ₁ _ ⟨hD, e⟩ => e ▸ hS D _ hD.fresh) (fun D L P' i av σ₁ hi ⟨hD, e⟩ => ⟨true, PTl.nil, ?_⟩) (fun D σ₁ hD ⟨_, e⟩ => ?_) hok hx hs
  · subst e
    have hlt : i < items.length := (List.getElem?_eq_some_iff.mp hi).1
    obtain ⟨b, hb⟩ : ∃ b, vals[i]? = some b := ⟨vals[i], List.getElem?_eq_some_iff.mpr ⟨by omega, rfl⟩⟩
    simp only [if_true]
    refine (helt D _ L P' i av b hD hi hb).ev ⟨_, setL_list _ _ _, by rw [List.length_take]; omega, hD, ?_⟩
    rw [setL_setL, List.take_add_one, hb]; rfl
  · subst e
    rw [← hl, List.take_length]
    exact q D hD
end

section
variable {prog : Program} {w : World} {A : Around} {B : Basis} {σ : AH} {P : Pins} {pm cd doc dV : Value} {L fa l : Addr} {xs : List Int}
abbrev nuρ (l D : Addr) (last : Int) : Rho := [("last", .int last), ("found", .ref D), ("script", .ref l), ("many", .int 96)]
theorem nums_body {m : Nat} {Q : AF → Rho → AH → Prop} (hA : Rm (calleeCx A B P (FD 8 pm cd doc dV .none) L fa).A m) (hB : B.OK) (blen : B.mg "len" = none ∧ B.mb "len" = some (.builtin "len"))
    (hl : PinL B l xs) (hz : xs.length ≤ 63)
    (q : ∀ ρ' D (ns : List Int) σ', ns.length = 96 → σ'.list D = some (ns.map AV.int) → Off σ.Fresh σ σ' → σ.Fresh D → Q (.ret (.ref D)) ρ' σ') :
    SX prog w (calleeCx A B P (FD 8 pm cd doc dV .none) L fa) [("script", .ref l), ("many", .int 96)] σ (stBody (stAt 8)) Q := by
  refine SX.cons (S1.assignC (EC.listCompV hA (IT2.sliceToB (PE.name rfl) hl (by rw [sizeLine_eq]; omega) (m := 96) (PE.name rfl) fun D0 hD0 => ?_)))
  have et : xs.take 96 = xs := List.take_of_length_le (by omega)
  rw [et]
  have o0 : Off σ.Fresh σ (σ.setL D0 (xs.map AV.int)) := .setL _ hD0.fresh
  generalize hσ0 : σ.setL D0 (xs.map AV.int) = σ₀ at *
  have hD00 : σ₀.list D0 = some (xs.map AV.int) := by rw [← hσ0]; exact setL_list _ _ _
  refine ⟨fun D i σ₁ => Nw σ₀ D ∧ σ₁ = σ₀.setL D ((xs.take i).map AV.int), fun D hD => ⟨hD, rfl⟩, fun D i σ₁ _ ⟨hD, e⟩ => by subst e; exact (Off.setL σ₀ hD.fresh : Off σ₀.Fresh _ _).list' hD00, fun D L' P' i av σ₁ hi ⟨hD, e⟩ => ⟨true, PTl.nil, ?_⟩, fun D σ₁ hD ⟨_, e⟩ => ?_⟩
  · subst e
    obtain ⟨k, hk, rfl⟩ := getElem?_ints hi
    simp only [if_true]
    refine (PE.name rfl).ev ⟨_, setL_list _ _ _, by rw [List.length_map, List.length_take]; omega, hD, ?_⟩
    rw [setL_setL, List.take_add_one, hk]; simp
  subst e
  rw [List.length_map, List.take_length]
  have o1 : Off σ₀.Fresh σ₀ (σ₀.setL D (xs.map AV.int)) := .setL _ hD.fresh
  have o01 := o0.transF o1
  have hfD : σ.Fresh D := o0.freshX (fun _ h => h) hD.fresh
  have hDl : (σ₀.setL D (xs.map AV.int)).list D = some (xs.map AV.int) := setL_list _ _ _
  generalize hσ1 : σ₀.setL D (xs.map AV.int) = σ₁ at *
  refine SX.cons (S1.assign ((PE.add PE.int (PE.lenB (n := xs.length) (PE.builtin hB blen.1 blen.2) (PE.name rfl) hl rfl (by omega))).ev ?_))
  refine SX.cons (S1.forB hA (PE.name rfl) hl (fun i ρ' σ' => ∃ last, RLe (nuρ l D last) ρ' ∧ 0 ≤ last ∧ last < 2147483647 ∧ σ₁ = σ') ⟨_, .refl _, by omega, by omega, rfl⟩ ?_ ?_)
  · rintro i k ρ' σ' P' hi ⟨last, hle, h0, h1, rfl⟩
    refine SX.weaken (ρ₀ := ("x", .int k) :: nuρ l D last) ?_ (hle.cons _ _) (.refl _)
    refine SX.cons (S1.assign ((PE.mod (PE.add (PE.mul (PE.name rfl) PE.int (IntMulOk.of_right (by decide))) (PE.name rfl)) PE.int (by decide)).ev ?_))
    refine SX.nil ⟨(last * 31 + k) % 2147483647, ?_, Int.emod_nonneg _ (by decide), Int.emod_lt_of_pos _ (by decide), rfl⟩
    intro y b e
    by_cases hy : y = "last"
    · subst hy; rw [lookup_cons_self] at e ⊢; exact e
    · rw [lookup_cons_ne hy] at e ⊢
      by_cases hy2 : y = "x"
      · subst hy2; cases e
      · rw [lookup_cons_ne hy2, lookup_cons_ne hy]; exact e
  · rintro ρ' σ' ⟨last, hle, h0, h1, rfl⟩
    refine SX.nil (SX.weaken (ρ₀ := nuρ l D last) ?_ hle (.refl _))
    refine SX.cons (S1.whileR (fun k ρ₁ σ₂ => ∃ last, ∃ ns : List Int, ρ₁ = nuρ l D last ∧ 0 ≤ last ∧ last < 2147483647 ∧ ns.length + k = 96 ∧ σ₂ = σ₁.setL D (ns.map AV.int)) (96 - xs.length) ⟨last, xs, rfl, h0, h1, by omega, ?_⟩ ?_)
    · rw [← hσ1, setL_setL]
    · rintro k ρ₁ σ₂ ⟨last, ns, rfl, h0, h1, hn, rfl⟩
      have hDn : (σ₁.setL D (ns.map AV.int)).list D = some (ns.map AV.int) := setL_list _ _ _
      refine ⟨_, PT.cmp (PE.len (n := ns.length) (PE.builtin hB blen.1 blen.2) (PE.name rfl) (.inl ⟨_, _, rfl, hDn, by rw [List.length_map]⟩) (by omega)) (PE.name rfl) CP.lt, ?_⟩
      by_cases hlt : (ns.length : Int) < 96
      · rw [if_pos (decide_eq_true hlt)]
        refine SX.cons (S1.assign ((PE.mod (PE.add (PE.mul (PE.name rfl) PE.int (IntMulOk.of_right (by decide))) PE.int) PE.int (by decide)).ev ?_))
        refine SX.cons (S1.expr (EV.meth (T := "list") (id := "list.append") (R := fun av σ' => av = .ref D ∧ σ₁.setL D (ns.map AV.int) = σ') ((PE.name rfl).ev ⟨rfl, rfl⟩) F.plainAttrs_list F.slot_list_append F.type_list_append fun av σ' ⟨e1, e2⟩ => ?_))
        subst e1 e2
        refine ⟨.list hDn, _, .cons (PE.fdiv (PE.name rfl) PE.int (by decide) (PyProof.noPylong_small (by decide))) (fun _ => rfl) .nil, BC.append hDn (by rw [List.length_map]; omega) ?_⟩
        refine SX.nil ⟨k - 1, nuρ l D ((last * 48271 + 11) % 2147483647), by omega, ?_, _, ns ++ [(last * 48271 + 11) % 2147483647 / 13], rfl, Int.emod_nonneg _ (by decide), Int.emod_lt_of_pos _ (by decide), by rw [List.length_append]; simp; omega, by rw [setL_setL]; simp⟩
        intro y b e
        by_cases hy : y = "last"
        · subst hy; rw [lookup_cons_self] at e ⊢; exact e
        · rw [lookup_cons_ne hy] at e ⊢
          rw [lookup_cons_ne hy]; exact e
      · rw [if_neg (by rw [decide_eq_false hlt]; decide)]
        refine SX.nil ?_
        refine SX.cons (S1.ret ((PE.name rfl).ev (q _ D ns _ (by omega) hDn ?_ hfD)))
        rw [← hσ1, setL_setL]
        exact o0.transF (.setL _ hD.fresh)
end
end Mine

/-! P24 -/
namespace Mine
/-- the i-th of the law's numbers -/
def num (ns : List Int) (i : Nat) : Int := ns.getD i 0
theorem num_get {ns : List Int} {i : Nat} (h : i < ns.length) : (ns.map AV.int)[i]? = some (.int (num ns i)) := by
  unfold num
  rw [List.getElem?_map, List.getElem?_eq_getElem h, List.getD_eq_getElem?_getD, List.getElem?_eq_getElem h]; rfl
theorem num_gi {σ : AH} {D : Addr} {ns : List Int} (hD : σ.list D = some (ns.map AV.int)) {i : Int} (k : Nat) (e : i = k) (h : k < ns.length) (hz : ns.length = 96) : GI σ (.ref D) (.int i) (.int (num ns k)) := by
  subst e
  exact GI.list hD (Int.natCast_nonneg _) (by omega) (by rw [Int.toNat_natCast]; exact num_get h)
theorem fn_gi {σ : AH} {D : Addr} {n : Nat} {F : Nat → AV} (hD : σ.list D = some ((List.range n).map F)) {i : Int} (k : Nat) (e : i = k) (h : k < n) (hz : n ≤ 1000) : GI σ (.ref D) (.int i) (F k) := by
  subst e
  exact GI.list hD (Int.natCast_nonneg _) (by omega) (by rw [Int.toNat_natCast, List.getElem?_map, List.getElem?_range h]; rfl)
theorem set_range (n i : Nat) (F : Nat → AV) (v : AV) : ((List.range n).map F).set i v = (List.range n).map fun x => if x = i then v else F x := by
  apply List.ext_getElem
  · simp
  · intro j h1 h2
    simp only [List.getElem_set, List.getElem_map, List.getElem_range]
    by_cases h : i = j
    · subst h; simp
    · rw [if_neg h, if_neg (Ne.symm h)]
theorem rangeL_get {a d : Int} {n i : Nat} {av : AV} (h : ((rangeL a d n).map AV.int)[i]? = some av) : i < n ∧ av = .int (a + i * d) := by
  obtain ⟨k, hk, rfl⟩ := getElem?_ints h
  unfold rangeL at hk
  rw [List.getElem?_map] at hk
  by_cases hi : i < n
  · rw [List.getElem?_range hi] at hk
    cases hk
    exact ⟨hi, rfl⟩
  · rw [List.getElem?_eq_none (by simp; omega)] at hk; cases hk
theorem rangeL_len (a d : Int) (n : Nat) : ((rangeL a d n).map AV.int).length = n := by simp [rangeL]

section
variable {prog : Program} {w : World} {c : Cx} {ρ : Rho} {σ : AH}
theorem PE.neg {e : Expr} {pos : Pos} {a : Int} (h : PE prog w c ρ σ e (.int a)) : PE prog w c ρ σ (.UnaryOp .USub e pos) (.int (-a)) := fun s S =>
  wpAny_UnaryOp (PE.one S h fun u s₁ S₁ p₁ hu => by obtain ⟨t, rfl⟩ := hu.int_inv; exact neg_int ⟨.int _ _, p₁.trans (.toks S₁ _)⟩)
theorem PE.as {e : Expr} {a b : AV} (h : PE prog w c ρ σ e a) (e' : a = b) : PE prog w c ρ σ e b := e' ▸ h
end
/-- what stands after the law's first lines -/
structure LA (σ : AH) (σ' : AH) (D M R : Addr) (ns : List Int) (k s : Nat) (nm : Nat → Int) (g : Nat → Nat) : Prop where
  off : Off σ.Fresh σ σ'
  len : ns.length = 96
  nums : σ'.list D = some (ns.map AV.int)
  k2 : 2 ≤ k
  k4 : k ≤ 4
  s2 : 2 ≤ s
  s3 : s ≤ 3
  names : σ'.list M = some ((List.range (k * s)).map fun v => .int (nm v))
  row : σ'.list R = some ((List.range (k * s)).map fun i => .int (g i : Nat))
  inj : ∀ i < k * s, ∀ j < k * s, nm i = nm j → i = j
  lt : ∀ i < k * s, g i < k * s
  ginj : ∀ i < k * s, ∀ j < k * s, g i = g j → i = j
  md : M ≠ D
  mr : M ≠ R
abbrev lawρ (l D M R : Addr) (k s : Nat) : Rho := [("row", .ref R), ("names", .ref M), ("n", .int (k * s : Nat)), ("s", .int s), ("k", .int k), ("found", .ref D), ("script", .ref l)]

section
variable {prog : Program} {w : World} {A : Around} {B : Basis} {σ : AH} {P : Pins} {pm cd doc dV : Value} {L fa l : Addr} {xs : List Int}
theorem nums_ok {m : Nat} {f8 : Addr} {cd8 : Value} {Q : AV → AH → Prop} (F8 : Fn B 8 f8 cd8 .none) (hA : Rm A (m + 1)) (hB : B.OK) (blen : B.mg "len" = none ∧ B.mb "len" = some (.builtin "len"))
    (hl : PinL B l xs) (hz : xs.length ≤ 63)
    (q : ∀ D (ns : List Int) σ', ns.length = 96 → σ'.list D = some (ns.map AV.int) → Off σ.Fresh σ σ' → σ.Fresh D → Q (.ref D) σ') :
    CallOK prog w B A (.ref f8) σ [.ref l, .int 96] [] Q := by
  refine callOK (ρ' := [("script", .ref l), ("many", .int 96)]) F8 hA hB (fun pm doc s vals kw P C hv hk => ?_) fun pm doc P L hA => nums_body hA hB blen hl hz fun _ D ns σ' h1 h2 h3 h4 => q D ns σ' h1 h2 h3 h4
  obtain ⟨v1, _, rfl, r1, hv⟩ := hv.invc
  obtain ⟨v2, _, rfl, r2, hv⟩ := hv.invc
  cases hv.inv0
  cases hk.inv0
  exact ⟨_, .of_eq rfl, .cons r1 (.cons r2 .nil)⟩

theorem lawA {m : Nat} {f8 : Addr} {cd8 : Value} {Q : AF → Rho → AH → Prop} (F8 : Fn B 8 f8 cd8 .none) (hA : Rm (calleeCx A B P (FD 12 pm cd doc dV .none) L fa).A (m + 1)) (hB : B.OK) (blen : B.mg "len" = none ∧ B.mb "len" = some (.builtin "len"))
    (blist : B.mg "list" = none ∧ B.mb "list" = some (.type "list")) (brange : B.mg "range" = none ∧ B.mb "range" = some (.type "range"))
    (hl : PinL B l xs) (hz : xs.length ≤ 63)
    (K : ∀ D M R ns k s nm g σ', LA σ σ' D M R ns k s nm g → SX prog w (calleeCx A B P (FD 12 pm cd doc dV .none) L fa) (lawρ l D M R k s) σ' ((stBody (stAt 12)).drop 7) Q) :
    SX prog w (calleeCx A B P (FD 12 pm cd doc dV .none) L fa) [("script", .ref l)] σ (stBody (stAt 12)) Q := by
  refine SX.cons (S1.assign (EV.call hB (F8.fn.choose_spec.choose_spec) (.cons (PE.name rfl) (fun _ => rfl) (.cons PE.int (fun _ => rfl) .nil)) .nil (nums_ok F8 hA hB blen hl hz fun D ns σ₁ hn hD o1 fD => ?_)))
  obtain ⟨k, hk⟩ : ∃ k : Nat, (k : Int) = 2 + num ns 0 % 3 := ⟨(2 + num ns 0 % 3).toNat, by have := Int.emod_nonneg (num ns 0) (show (3 : Int) ≠ 0 by decide); omega⟩
  obtain ⟨s, hs⟩ : ∃ k : Nat, (k : Int) = 2 + num ns 1 % 2 := ⟨(2 + num ns 1 % 2).toNat, by have := Int.emod_nonneg (num ns 1) (show (2 : Int) ≠ 0 by decide); omega⟩
  have k0 := Int.emod_nonneg (num ns 0) (show (3 : Int) ≠ 0 by decide)
  have k1 := Int.emod_lt_of_pos (num ns 0) (show (0 : Int) < 3 by decide)
  have s0 := Int.emod_nonneg (num ns 1) (show (2 : Int) ≠ 0 by decide)
  have s1 := Int.emod_lt_of_pos (num ns 1) (show (0 : Int) < 2 by decide)
  have hk2 : 2 ≤ k := by omega
  have hk4 : k ≤ 4 := by omega
  have hs2 : 2 ≤ s := by omega
  have hs3 : s ≤ 3 := by omega
  have hn12 : k * s ≤ 12 := Nat.le_trans (Nat.mul_le_mul hk4 hs3) (by decide)
  refine SX.cons (S1.assign ((PE.add PE.int (PE.mod (PE.sub_ hA (PE.name rfl) PE.int (num_gi hD 0 rfl (by omega) hn)) PE.int (by decide))).ev ?_))
  rw [← hk]
  refine SX.cons (S1.assign ((PE.add PE.int (PE.mod (PE.sub_ hA (PE.name rfl) PE.int (num_gi hD 1 rfl (by omega) hn)) PE.int (by decide))).ev ?_))
  rw [← hs]
  refine SX.cons (S1.assign ((PE.mul (PE.name rfl) (PE.name rfl) ?_).ev ?_))
  · have : k = 2 ∨ k = 3 ∨ k = 4 := by omega
    rcases this with rfl | rfl | rfl <;> exact IntMulOk.of_left (by decide)
  rw [show ((k : Int) * s) = ((k * s : Nat) : Int) by simp]
  have hvals : ∀ (i : Nat) (a b : AV), ((rangeL 0 1 (k * s)).map AV.int)[i]? = some a → ((List.range (k * s)).map fun v => AV.int (16 * (num ns (2 + v) % 1000) + v))[i]? = some b → i < k * s ∧ a = .int i ∧ b = .int (16 * (num ns (2 + i) % 1000) + i) := by
    intro i a b ha hb
    obtain ⟨hi, rfl⟩ := rangeL_get ha
    rw [List.getElem?_map, List.getElem?_range hi] at hb
    cases hb
    exact ⟨hi, by simp, rfl⟩
  refine SX.cons (S1.assign (EC.map (vals := (List.range (k * s)).map fun v => AV.int (16 * (num ns (2 + v) % 1000) + v)) hA (ITt.range1 (PE.builtin hB brange.1 brange.2) (PE.name rfl) (by omega)) .true (by rw [rangeL_len]; omega) (by simp [rangeL]) (fun M ys L' P' i a b hM ha hb => ?_) fun M hM => ?_).ev)
  · obtain ⟨hi, rfl, rfl⟩ := hvals i a b ha hb
    exact PE.add (PE.mul PE.int (PE.mod (PE.sub_ (by exact hA) (PE.name rfl) (PE.add PE.int (PE.name rfl)) (num_gi ((Off.setL σ₁ hM.fresh : Off σ₁.Fresh _ _).list' hD) (2 + i) (by omega) (by omega) hn)) PE.int (by decide)) (IntMulOk.of_left (by decide))) (PE.name rfl)
  have o2 : Off σ₁.Fresh σ₁ (σ₁.setL M ((List.range (k * s)).map fun v => AV.int (16 * (num ns (2 + v) % 1000) + v))) := .setL _ hM.fresh
  have hM2 := setL_list σ₁ M ((List.range (k * s)).map fun v => AV.int (16 * (num ns (2 + v) % 1000) + v))
  have hD2 := o2.list' hD
  have hMD : M ≠ D := by rintro rfl; have := hM.fresh.1; rw [hD] at this; cases this
  have o12 := o1.transF o2
  generalize σ₁.setL M ((List.range (k * s)).map fun v => AV.int (16 * (num ns (2 + v) % 1000) + v)) = σ₂ at *
  refine SX.cons (S1.assign (EV.listRange hA (PE.builtin hB blist.1 blist.2) (PE.builtin hB brange.1 brange.2) (PE.name rfl) (by omega) fun R hR => ?_))
  have o3 : Off σ₂.Fresh σ₂ (σ₂.setL R ((rangeL 0 1 (k * s)).map AV.int)) := .setL _ hR.fresh
  have hMR : M ≠ R := by rintro rfl; have := hR.fresh.1; rw [hM2] at this; cases this
  have hDR : D ≠ R := by rintro rfl; have := hR.fresh.1; rw [hD2] at this; cases this
  have e3 : (rangeL 0 1 (k * s)).map AV.int = (List.range (k * s)).map fun i => AV.int (i : Nat) := by simp [rangeL]
  rw [e3] at o3 ⊢
  have LA0 : ∀ gg : Nat → Nat, (∀ i < k * s, gg i < k * s) → (∀ i < k * s, ∀ j < k * s, gg i = gg j → i = j) →
      LA σ (σ₂.setL R ((List.range (k * s)).map fun i => AV.int (gg i : Nat))) D M R ns k s (fun v => 16 * (num ns (2 + v) % 1000) + v) gg := fun gg h1 h2 => by
    have o4 : Off σ₂.Fresh σ₂ (σ₂.setL R ((List.range (k * s)).map fun i => AV.int (gg i : Nat))) := .setL _ hR.fresh
    exact ⟨o12.transF o4, hn, o4.list' hD2, hk2, hk4, hs2, hs3, o4.list' hM2, setL_list _ _ _, fun i hi j hj e => by omega, h1, h2, hMD, hMR⟩
  refine SX.cons (S1.for_ hA (ITt.range3 (n := k * s - 1) (PE.builtin hB brange.1 brange.2) ?_ PE.int ?_ (by omega))
    (fun i ρ' σ' => RLe (lawρ l D M R k s) ρ' ∧ ∃ gg : Nat → Nat, (∀ i < k * s, gg i < k * s) ∧ (∀ i < k * s, ∀ j < k * s, gg i = gg j → i = j) ∧ σ' = σ₂.setL R ((List.range (k * s)).map fun i => AV.int (gg i : Nat))) ⟨.refl _, fun i => i, fun i h => h, fun i _ j _ e => e, rfl⟩ (fun _ _ _ _ _ => trivial) ?_ ?_)
  · exact (PE.sub (PE.name rfl) PE.int).as (by
      have hpos : 0 < k * s := Nat.mul_pos (by omega) (by omega)
      show AV.int (((k * s : Nat) : Int) - 1) = AV.int ((k * s - 1 : Nat) : Int)
      generalize k * s = n at hpos ⊢
      rw [AV.int.injEq]; omega)
  · exact (PE.neg PE.int).as rfl
  · rintro i av ρ' σ' P' hi ⟨hle, gg, h1, h2, rfl⟩
    obtain ⟨hi, rfl⟩ := rangeL_get hi
    obtain ⟨v, hv⟩ : ∃ v : Nat, v = k * s - 1 - i := ⟨_, rfl⟩
    have hvn : v < k * s := by omega
    have ev : ((k * s - 1 : Nat) : Int) + i * (-1) = v := by omega
    rw [ev]
    replace hA : Rm ((calleeCx A B P (FD 12 pm cd doc dV .none) L fa).pinned P').A (m + 1) := hA
    have L0 := LA0 gg h1 h2
    have j0 := Int.emod_nonneg (num ns (14 + v)) (show ((v : Int) + 1) ≠ 0 by omega)
    have j1 := Int.emod_lt_of_pos (num ns (14 + v)) (show (0 : Int) < (v : Int) + 1 by omega)
    obtain ⟨j, hj⟩ : ∃ j : Nat, (j : Int) = num ns (14 + v) % (v + 1) := ⟨(num ns (14 + v) % (v + 1)).toNat, by omega⟩
    have hjn : j < k * s := by omega
    refine SX.weaken (ρ₀ := ("v", .int v) :: lawρ l D M R k s) ?_ (hle.cons _ _) (.refl _)
    refine SX.cons (S1.assign ((PE.mod (PE.sub_ hA (PE.name rfl) (PE.add PE.int (PE.name rfl)) (num_gi L0.nums (14 + v) (by omega) (by omega) hn)) (PE.add (PE.name rfl) PE.int) (by omega)).ev ?_))
    rw [← hj]
    refine SX.cons (S1.assign ((PE.sub_ hA (PE.name rfl) (PE.name rfl) (fn_gi L0.row v rfl hvn (by omega))).ev ?_))
    refine SX.cons (S1.setItem hA (PE.sub_ hA (PE.name rfl) (PE.name rfl) (fn_gi L0.row j rfl hjn (by omega))) (PE.name rfl) (PE.name rfl) (SI.list L0.row (by omega) (by rw [List.length_map, List.length_range]; omega) (by rw [List.length_map, List.length_range]; omega) ?_))
    rw [setL_setL, Int.toNat_natCast, set_range]
    refine SX.cons (S1.setItem hA (PE.name rfl) (PE.name rfl) (PE.name rfl) (SI.list (setL_list _ _ _) (by omega) (by rw [List.length_map, List.length_range]; omega) (by rw [List.length_map, List.length_range]; omega) ?_))
    rw [setL_setL, Int.toNat_natCast, set_range]
    refine SX.nil ⟨?_, fun i => if i = j then gg v else if i = v then gg j else gg i, fun i hi => ?_, fun i hi i' hi' e => ?_, ?_⟩
    · exact (((RLe.refl _).skip _).skip _).skip _
    · dsimp only
      split
      · exact h1 v hvn
      · split
        · exact h1 j hjn
        · exact h1 i hi
    · have hvv := h2 v hvn j hjn
      have h3 := h2 i hi i' hi'
      have h4 := h2 i hi v hvn
      have h5 := h2 i hi j hjn
      have h6 := h2 i' hi' v hvn
      have h7 := h2 i' hi' j hjn
      dsimp only at e
      split at e <;> split at e <;> (try split at e) <;> (try split at e) <;> first | omega | (subst_vars; first | rfl | omega)
    · congr 1
      refine List.map_congr_left fun x hx => ?_
      by_cases e1 : x = j
      · simp [e1]
      · by_cases e2 : x = v
        · subst e2; rw [if_neg e1]; simp [e1]
        · simp [e1, e2]
  · rintro ρ' σ' ⟨hle, gg, h1, h2, rfl⟩
    exact SX.nil (SX.weaken (K D M R ns k s _ gg _ (LA0 gg h1 h2)) hle (.refl _))
end
end Mine

/-! P25 -/
namespace Mine
/-- the graph with one more edge, as the law appends it -/
def Gr.add (G : Gr) (a b : Int) : Gr := ⟨G.V, fun v => if v = a then G.adj a ++ [b] else if v = b then G.adj b ++ [a] else G.adj v⟩
theorem Gr.mem_add {G : Gr} {a b v w : Int} (hne : a ≠ b) : w ∈ (G.add a b).adj v ↔ w ∈ G.adj v ∨ (v = a ∧ w = b) ∨ (v = b ∧ w = a) := by
  unfold Gr.add
  dsimp only
  by_cases h1 : v = a
  · subst h1; simp [hne]
  · by_cases h2 : v = b
    · subst h2; simp [h1]
    · simp [h1, h2]
theorem Gr.OK.add {G : Gr} {a b : Int} (g : G.OK) (ha : a ∈ G.V) (hb : b ∈ G.V) (hne : a ≠ b) (hn : b ∉ G.adj a) : (G.add a b).OK where
  nodup := g.nodup
  anodup := fun v hv => by
    have hn' : a ∉ G.adj b := fun h => hn (g.sym b hb a h)
    unfold Gr.add
    dsimp only
    split
    · rename_i h; subst h
      rw [List.nodup_append]
      exact ⟨g.anodup v hv, by simp, fun x hx y hy => by rw [List.mem_singleton] at hy; subst hy; rintro rfl; exact hn hx⟩
    · split
      · rename_i h; subst h
        rw [List.nodup_append]
        exact ⟨g.anodup v hv, by simp, fun x hx y hy => by rw [List.mem_singleton] at hy; subst hy; rintro rfl; exact hn' hx⟩
      · exact g.anodup v hv
  sub := fun v hv w hw => by
    rcases (Gr.mem_add hne).mp hw with h | ⟨_, rfl⟩ | ⟨_, rfl⟩
    · exact g.sub v hv w h
    · exact hb
    · exact ha
  irr := fun v hv hw => by
    rcases (Gr.mem_add hne).mp hw with h | ⟨rfl, h⟩ | ⟨rfl, h⟩
    · exact g.irr v hv h
    · exact hne h
    · exact hne h.symm
  sym := fun v hv w hw => by
    rw [Gr.mem_add hne] at hw ⊢
    rcases hw with h | ⟨h1, h2⟩ | ⟨h1, h2⟩
    · exact .inl (g.sym v hv w h)
    · exact .inr (.inr ⟨h2, h1⟩)
    · exact .inr (.inl ⟨h2, h1⟩)
theorem proper_iff {G : Gr} {f : Int → Int} : Proper G f ↔ ∀ v ∈ G.V, ∀ w ∈ G.adj v, f w ≠ f v := by
  unfold Proper nF cnt
  constructor
  · intro h v hv w hw e
    have := h v hv
    have h0 : (G.adj v).countP (fun w => f w == f v) = 0 := by omega
    rw [List.countP_eq_zero] at h0
    exact h0 w hw (by simp [e])
  · intro h v hv
    have : (G.adj v).countP (fun w => f w == f v) = 0 := List.countP_eq_zero.mpr fun w hw e => h v hv w hw (by simpa using e)
    omega
theorem properAdd {G : Gr} {f : Int → Int} {a b : Int} (p : Proper G f) (hne : f a ≠ f b) : Proper (G.add a b) f := by
  have hab : a ≠ b := by rintro rfl; exact hne rfl
  rw [proper_iff] at p ⊢
  intro v hv w hw
  rcases (Gr.mem_add hab).mp hw with h | ⟨rfl, rfl⟩ | ⟨rfl, rfl⟩
  · exact p v hv w h
  · exact hne.symm
  · exact hne
theorem properFree {G : Gr} {f : Int → Int} {a b Y : Int} (g : G.OK) (ha : a ∈ G.V) (p : Proper G f) (hab : a ≠ b) (hY : ∀ w ∈ (G.add a b).adj a, f w ≠ Y) : Proper (G.add a b) (upd f a Y) := by
  rw [proper_iff] at p ⊢
  intro v hv w hw
  have hwa : w = a → v ≠ a := by
    rintro rfl rfl
    rcases (Gr.mem_add hab).mp hw with h | ⟨_, h⟩ | ⟨h, _⟩
    · exact g.irr _ ha h
    · exact hab h
    · exact hab h
  by_cases h1 : v = a
  · subst h1
    have h2 : w ≠ v := fun e => hwa e rfl
    simp only [upd, h2, if_false, if_true]
    exact hY w hw
  · by_cases h2 : w = a
    · subst h2
      simp only [upd, h1, if_false, if_true]
      have : v ∈ (G.add w b).adj w := by
        rw [Gr.mem_add hab] at hw ⊢
        rcases hw with h | ⟨h, _⟩ | ⟨h, _⟩
        · exact .inl (g.sym v hv w h)
        · exact absurd h h1
        · exact .inr (.inl ⟨rfl, h⟩)
      exact (hY v this).symm
    · simp only [upd, h1, h2, if_false]
      rcases (Gr.mem_add hab).mp hw with h | ⟨h, _⟩ | ⟨_, h⟩
      · exact p v hv w h
      · exact absurd h h1
      · exact absurd h h2
/-- a colour is free -/
theorem free_colour {K l : List Int} {f : Int → Int} {b : Int} (hK : K.Nodup) (hb : b ∈ l) (hl : l.length < K.length) : ∃ c ∈ K, c ≠ f b ∧ ∀ w ∈ l, f w ≠ c := by
  refine Classical.byContradiction fun hno => ?_
  have hsub : ∀ c ∈ K, c ∈ l.map f := fun c hc => by
    refine Classical.byContradiction fun hn => hno ⟨c, hc, ?_, fun w hw e => hn (List.mem_map.mpr ⟨w, hw, e⟩)⟩
    rintro rfl
    exact hn (List.mem_map.mpr ⟨b, hb, rfl⟩)
  have := length_le_of_nodup hK hsub
  rw [List.length_map] at this
  omega
theorem Gr.add_len {G : Gr} {a b : Int} (v : Int) : ((G.add a b).adj v).length = (G.adj v).length + (if v = a then 1 else if v = b then 1 else 0) := by
  unfold Gr.add
  dsimp only
  split
  · rename_i h; subst h; simp
  · split
    · rename_i h; subst h; simp
    · simp
/-- how many of the first k * s numbers leave c over k -/
theorem classes_even {k s c : Nat} (k2 : 2 ≤ k) (k4 : k ≤ 4) (s2 : 2 ≤ s) (s3 : s ≤ 3) (hc : c < k) : (List.range (k * s)).countP (fun i => i % k == c) = s := by
  have hk : k = 2 ∨ k = 3 ∨ k = 4 := by omega
  have hs : s = 2 ∨ s = 3 := by omega
  have hc' : c = 0 ∨ c = 1 ∨ c = 2 ∨ c = 3 := by omega
  rcases hk with rfl | rfl | rfl <;> rcases hs with rfl | rfl <;> rcases hc' with rfl | rfl | rfl | rfl <;> first | rfl | omega
end Mine

/-! P26 -/
namespace Mine
theorem setD_setD (σ : AH) (D : Addr) (x y : DI) : (σ.setD D x).setD D y = σ.setD D y := by
  simp only [AH.setD, AH.mk.injEq, and_true, true_and]
  funext b
  by_cases hb : b = D <;> simp [hb]
theorem setD_at (σ : AH) (D : Addr) (x : DI) : (σ.setD D x).dI D = some x := by simp [AH.setD]
theorem range_succ_map {α : Type} (i : Nat) (F : Nat → α) : (List.range (i + 1)).map F = (List.range i).map F ++ [F i] := by
  rw [List.range_succ, List.map_append]; rfl
/-- the law's dict of colours -/
structure LF (σ' : AH) (aF : Addr) (dF : DI) (k s : Nat) (nm : Nat → Int) (g : Nat → Nat) : Prop where
  at_ : σ'.dI aF = some dF
  keys : dF.keys = (List.range (k * s)).map fun i => nm (g i)
  val : ∀ i < k * s, dF.val (nm (g i)) = .int (i % k : Nat)
  nm : (aF == sysModules) = false
section
variable {prog : Program} {w : World} {A : Around} {B : Basis} {σ σ' : AH} {P : Pins} {pm cd doc dV : Value} {L fa l D M R : Addr} {ns : List Int} {k s : Nat} {nm : Nat → Int} {g : Nat → Nat}
theorem LA.off' {σ₀ σ₁ : AH} (x : LA σ σ₀ D M R ns k s nm g) (o : Off σ₀.Fresh σ₀ σ₁) : LA σ σ₁ D M R ns k s nm g :=
  { x with off := x.off.transF o, nums := o.list' x.nums, names := o.list' x.names, row := o.list' x.row }
theorem LF.off' {σ₀ σ₁ : AH} {aF : Addr} {dF : DI} (x : LF σ₀ aF dF k s nm g) (o : Off σ₀.Fresh σ₀ σ₁) : LF σ₁ aF dF k s nm g := { x with at_ := o.dI' x.at_ }
theorem lawB {m : Nat} {Q : AF → Rho → AH → Prop} (hA : Rm (calleeCx A B P (FD 12 pm cd doc dV .none) L fa).A (m + 1)) (hB : B.OK)
    (blist : B.mg "list" = none ∧ B.mb "list" = some (.type "list")) (brange : B.mg "range" = none ∧ B.mb "range" = some (.type "range"))
    (la : LA σ σ' D M R ns k s nm g)
    (K : ∀ aF dF aK σ'', LA σ σ'' D M R ns k s nm g → LF σ'' aF dF k s nm g → σ''.list aK = some ((rangeL 0 1 k).map AV.int) →
      SX prog w (calleeCx A B P (FD 12 pm cd doc dV .none) L fa) (("colours", .ref aK) :: ("F", .ref aF) :: lawρ l D M R k s) σ'' ((stBody (stAt 12)).drop 9) Q) :
    SX prog w (calleeCx A B P (FD 12 pm cd doc dV .none) L fa) (lawρ l D M R k s) σ' ((stBody (stAt 12)).drop 7) Q := by
  have hn12 : k * s ≤ 12 := Nat.le_trans (Nat.mul_le_mul la.k4 la.s3) (by decide)
  have k2 := la.k2
  have k4 := la.k4
  refine SX.cons (S1.assign (EC.dictCompD hA (ITt.range1 (n := k * s) (PE.builtin hB brange.1 brange.2) (PE.name rfl) (by omega))
    (fun aF i σ₁ => Nw σ' aF ∧ ∃ d : DI, σ₁ = σ'.setD aF d ∧ d.keys = (List.range i).map (fun i => nm (g i)) ∧ ∀ j < i, d.val (nm (g j)) = .int (j % k : Nat))
    (fun aF h => ⟨h, _, rfl, rfl, fun j hj => by omega⟩) (fun _ _ _ _ _ => trivial) (fun aF L' P' i av σ₁ hF hi0 ⟨_, d, e, hk, hv⟩ => ?_) fun aF σ₁ hF ⟨_, d, e, hk, hv⟩ => ?_).ev)
  · subst e
    obtain ⟨hi, rfl⟩ := rangeL_get hi0
    have ei : (0 : Int) + i * 1 = i := by omega
    rw [ei]
    have la₁ := la.off' (Off.setD σ' hF.fresh : Off σ'.Fresh σ' (σ'.setD aF d))
    have hgi := la.lt i hi
    refine ⟨nm (g i), PE.sub_ (by exact hA) (PE.name rfl) (PE.sub_ (by exact hA) (PE.name rfl) (PE.name rfl) (fn_gi la₁.row i rfl hi (by omega))) (fn_gi la₁.names (g i) rfl hgi (by omega)), ?_⟩
    refine ((PE.mod (PE.name rfl) (PE.name rfl) (by omega)).as (b := .int (i % k : Nat)) (by simp)).ev ⟨d, setD_at _ _ _, by rw [hk, List.length_map, List.length_range]; omega, fun ep => ⟨hF, _, setD_setD _ _ _ _, ?_, fun j hj => ?_⟩⟩
    · have hnot : nm (g i) ∉ d.keys := by
        rw [hk]
        intro h
        obtain ⟨j, hj, e⟩ := List.mem_map.mp h
        rw [List.mem_range] at hj
        have h1 := la.inj _ (la.lt j (by omega)) _ hgi e
        have h2 := la.ginj j (by omega) i hi h1
        omega
      rw [if_neg hnot, hk, range_succ_map]
    · dsimp only
      by_cases e : j = i
      · subst e; rw [if_pos rfl]
      · have : nm (g j) ≠ nm (g i) := fun h => e (la.ginj j (by omega) i hi (la.inj _ (la.lt j (by omega)) _ hgi h))
        rw [if_neg this]
        exact hv j (by omega)
  subst e
  rw [rangeL_len] at hk hv
  have o1 : Off σ'.Fresh σ' (σ'.setD aF d) := .setD σ' hF.fresh
  have la₁ := la.off' o1
  have lf₁ : LF (σ'.setD aF d) aF d k s nm g := ⟨setD_at _ _ _, hk, hv, hF.notMod⟩
  generalize σ'.setD aF d = σ₁ at *
  refine SX.cons (S1.assign (EV.listRange hA (PE.builtin hB blist.1 blist.2) (PE.builtin hB brange.1 brange.2) (PE.name rfl) (by omega) fun aK hK => ?_))
  have o2 : Off σ₁.Fresh σ₁ (σ₁.setL aK ((rangeL 0 1 k).map AV.int)) := .setL _ hK.fresh
  exact K aF d aK _ (la₁.off' o2) (lf₁.off' o2) (setL_list _ _ _)
end
end Mine

/-! P27 -/
namespace Mine
/-- the law's dict of neighbours, all lists empty -/
structure LL0 (σ₀ σ' : AH) (aL : Addr) (dL : DI) (n : Nat) (nm : Nat → Int) : Prop where
  at_ : σ'.dI aL = some dL
  keys : dL.keys = (List.range n).map nm
  val : ∀ j < n, ∃ a, dL.val (nm j) = .ref a ∧ σ'.list a = some [] ∧ σ₀.Fresh a
  inj : ∀ j < n, ∀ j' < n, ∀ a, dL.val (nm j) = .ref a → dL.val (nm j') = .ref a → j = j'
  nm : (aL == sysModules) = false
section
variable {prog : Program} {w : World} {A : Around} {B : Basis} {σ σ' : AH} {P : Pins} {pm cd doc dV : Value} {L fa l D M R aF aK : Addr} {dF : DI} {ns : List Int} {k s : Nat} {nm : Nat → Int} {g : Nat → Nat}
theorem lawC {m : Nat} {Q : AF → Rho → AH → Prop} (hA : Rm (calleeCx A B P (FD 12 pm cd doc dV .none) L fa).A (m + 1)) (hB : B.OK)
    (la : LA σ σ' D M R ns k s nm g)
    (K : ∀ aL dL σ'', Off σ'.Fresh σ' σ'' → LL0 σ' σ'' aL dL (k * s) nm →
      SX prog w (calleeCx A B P (FD 12 pm cd doc dV .none) L fa) (("L", .ref aL) :: ("colours", .ref aK) :: ("F", .ref aF) :: lawρ l D M R k s) σ'' ((stBody (stAt 12)).drop 10) Q) :
    SX prog w (calleeCx A B P (FD 12 pm cd doc dV .none) L fa) (("colours", .ref aK) :: ("F", .ref aF) :: lawρ l D M R k s) σ' ((stBody (stAt 12)).drop 9) Q := by
  have hn12 : k * s ≤ 12 := Nat.le_trans (Nat.mul_le_mul la.k4 la.s3) (by decide)
  refine SX.cons (S1.assign (EC.dictCompD hA (ITt.list (PE.name rfl) la.names)
    (fun aL i σ₁ => Nw σ' aL ∧ Off σ'.Fresh σ' σ₁ ∧ ∃ d : DI, LL0 σ' σ₁ aL d i nm)
    (fun aL h => ⟨h, .setD σ' h.fresh, _, setD_at _ _ _, rfl, fun j hj => by omega, fun j hj => by omega, h.notMod⟩) (fun aL i σ₁ _ ⟨_, o, _⟩ => o.list' la.names) (fun aL L' P' i av σ₁ hL hi0 ⟨_, o, d, ld⟩ => ?_) fun aL σ₁ hL ⟨_, o, d, ld⟩ => ?_).ev)
  · have hi : i < k * s ∧ av = .int (nm i) := by
      rw [List.getElem?_map] at hi0
      by_cases h : i < k * s
      · rw [List.getElem?_range h] at hi0; cases hi0; exact ⟨h, rfl⟩
      · rw [List.getElem?_eq_none (by simp; omega)] at hi0; cases hi0
    obtain ⟨hi, rfl⟩ := hi
    refine ⟨nm i, PE.name rfl, EV.listLit .nil (by decide) fun Dn hDn => ⟨d, (Off.setL σ₁ hDn.fresh : Off σ₁.Fresh _ _).dI' ld.at_, by rw [ld.keys, List.length_map, List.length_range]; omega, fun ep => ⟨hL, ?_, _, setD_at _ _ _, ?_, fun j hj => ?_, fun j hj j' hj' a e1 e2 => ?_, ld.nm⟩⟩⟩
    · exact (o.transF (.setL _ hDn.fresh)).trans (.setD _ hL.fresh)
    · have hnot : nm i ∉ d.keys := by
        rw [ld.keys]
        intro h
        obtain ⟨j, hj, e⟩ := List.mem_map.mp h
        rw [List.mem_range] at hj
        have := la.inj j (by omega) i hi e
        omega
      dsimp only
      rw [if_neg hnot, ld.keys, range_succ_map]
    · dsimp only
      by_cases e : j = i
      · subst e
        exact ⟨Dn, by rw [if_pos rfl], by simp [AH.setD, AH.setL], o.freshX (fun _ h => h) hDn.fresh⟩
      · have hne : nm j ≠ nm i := fun h => e (la.inj j (by omega) i hi h)
        obtain ⟨a, h1, h2, h3⟩ := ld.val j (by omega)
        refine ⟨a, by rw [if_neg hne]; exact h1, ?_, h3⟩
        show (σ₁.setL Dn []).list a = some []
        exact (Off.setL σ₁ hDn.fresh : Off σ₁.Fresh _ _).list' h2
    · dsimp only at e1 e2
      have known : ∀ j < i, ∀ a, d.val (nm j) = .ref a → a ≠ Dn := fun j hj a e => by
        obtain ⟨a', h1, h2, h3⟩ := ld.val j hj
        rw [h1] at e; cases e
        rintro rfl
        have := hDn.fresh.1; rw [h2] at this; cases this
      by_cases c1 : j = i
      · by_cases c2 : j' = i
        · rw [c1, c2]
        · have hne : nm j' ≠ nm i := fun h => c2 (la.inj j' (by omega) i hi h)
          rw [if_neg hne] at e2
          rw [c1, if_pos rfl] at e1
          cases e1
          exact absurd rfl (known j' (by omega) _ e2)
      · have hne : nm j ≠ nm i := fun h => c1 (la.inj j (by omega) i hi h)
        rw [if_neg hne] at e1
        by_cases c2 : j' = i
        · rw [c2, if_pos rfl] at e2
          cases e2
          exact absurd rfl (known j (by omega) _ e1)
        · have hne' : nm j' ≠ nm i := fun h => c2 (la.inj j' (by omega) i hi h)
          rw [if_neg hne'] at e2
          exact ld.inj j (by omega) j' (by omega) a e1 e2
  rw [List.length_map, List.length_range] at ld
  exact K aL d σ₁ o ld
end
end Mine

/-! P28 -/
namespace Mine
/-- the places of all pairs a < b -/
def ipairs (n : Nat) : List (Nat × Nat) := (List.range n).flatMap fun b => (List.range b).map fun a => (a, b)
theorem ipairs_succ (n : Nat) : ipairs (n + 1) = ipairs n ++ (List.range n).map fun a => (a, n) := by
  unfold ipairs; rw [List.range_succ, List.flatMap_append]; simp
theorem mem_ipairs {n a b : Nat} : (a, b) ∈ ipairs n ↔ a < b ∧ b < n := by
  unfold ipairs
  simp only [List.mem_flatMap, List.mem_map, List.mem_range, Prod.mk.injEq]
  constructor
  · rintro ⟨b', hb, a', ha, rfl, rfl⟩; exact ⟨ha, hb⟩
  · rintro ⟨h1, h2⟩; exact ⟨b, h2, a, h1, rfl, rfl⟩
theorem ipairs_nodup : ∀ n, (ipairs n).Nodup
  | 0 => by unfold ipairs; simp
  | n + 1 => by
    rw [ipairs_succ, List.nodup_append]
    refine ⟨ipairs_nodup n, ?_, fun x hx y hy => ?_⟩
    · rw [List.Nodup, List.pairwise_map]
      exact List.Pairwise.imp (fun {a b} h e => h (by simpa using e)) List.nodup_range
    · obtain ⟨a, _, rfl⟩ := List.mem_map.mp hy
      rintro rfl
      have := (mem_ipairs.mp hx).2
      omega
theorem ipairs_len : ∀ n, n ≤ 12 → (ipairs n).length ≤ 66 := by decide
/-- a pair of names -/
def pav (nm : Nat → Int) (p : Nat × Nat) : AV := .pair (.int (nm p.1)) (.int (nm p.2))
section
variable {prog : Program} {w : World} {A : Around} {B : Basis} {σ σ' : AH} {P : Pins} {pm cd doc dV : Value} {L fa l D M R aF aK aL : Addr} {dF : DI} {ns : List Int} {k s : Nat} {nm : Nat → Int} {g : Nat → Nat}
abbrev lawρ2 (l D M R aF aK aL Pp : Addr) (k s : Nat) : Rho := ("pairs", .ref Pp) :: ("L", .ref aL) :: ("colours", .ref aK) :: ("F", .ref aF) :: lawρ l D M R k s
theorem lawD {m : Nat} {Q : AF → Rho → AH → Prop} (hA : Rm (calleeCx A B P (FD 12 pm cd doc dV .none) L fa).A (m + 1)) (hB : B.OK) (brange : B.mg "range" = none ∧ B.mb "range" = some (.type "range"))
    (la : LA σ σ' D M R ns k s nm g)
    (K : ∀ Pp, Nw σ' Pp →
      SX prog w (calleeCx A B P (FD 12 pm cd doc dV .none) L fa) (lawρ2 l D M R aF aK aL Pp k s) (σ'.setL Pp ((ipairs (k * s)).map (pav nm))) ((stBody (stAt 12)).drop 11) Q) :
    SX prog w (calleeCx A B P (FD 12 pm cd doc dV .none) L fa) (("L", .ref aL) :: ("colours", .ref aK) :: ("F", .ref aF) :: lawρ l D M R k s) σ' ((stBody (stAt 12)).drop 10) Q := by
  have hn12 : k * s ≤ 12 := Nat.le_trans (Nat.mul_le_mul la.k4 la.s3) (by decide)
  refine SX.cons (S1.assignC (EC.listComp2 hA (ITt.range1 (n := k * s) (PE.builtin hB brange.1 brange.2) (PE.name rfl) (by omega))
    (fun D i σ₁ => Nw σ' D ∧ i ≤ k * s ∧ σ₁ = σ'.setL D ((ipairs i).map (pav nm))) (fun D hD => ⟨hD, Nat.zero_le _, rfl⟩) (fun _ _ _ _ _ => trivial) (fun D L' P' b av σ₁ hD hb0 ⟨_, _, e⟩ => ?_) fun D σ₁ hD ⟨_, _, e⟩ => ?_))
  · subst e
    obtain ⟨hb, rfl⟩ := rangeL_get hb0
    have eb : (0 : Int) + b * 1 = b := by omega
    rw [eb]
    refine ⟨(rangeL 0 1 b).map AV.int, fun _ => True, fun j σ₂ => σ₂ = σ'.setL D ((ipairs b).map (pav nm) ++ (List.range j).map fun a => pav nm (a, b)), ITt.range1 (PE.builtin (by exact hB) brange.1 brange.2) (PE.name rfl) (by omega), by simp, fun _ _ _ _ => trivial, fun σ₂ h => ?_, fun P'' j a2 σ₂ hj0 h => ⟨true, PTl.nil, ?_⟩⟩
    · rw [rangeL_len] at h
      refine ⟨hD, hb, ?_⟩
      rw [h, ipairs_succ, List.map_append, List.map_map]; rfl
    · subst h
      obtain ⟨hj, rfl⟩ := rangeL_get hj0
      have ej : (0 : Int) + j * 1 = j := by omega
      rw [ej]
      have la₁ := la.off' (Off.setL σ' hD.fresh : Off σ'.Fresh σ' (σ'.setL D ((ipairs b).map (pav nm) ++ (List.range j).map fun a => pav nm (a, b))))
      simp only [if_true]
      refine (PE.pair (PE.sub_ (by exact hA) (PE.name rfl) (PE.name rfl) (fn_gi la₁.names j rfl (by omega) (by omega))) (PE.sub_ (by exact hA) (PE.name rfl) (PE.name rfl) (fn_gi la₁.names b rfl hb (by omega)))).ev ⟨_, setL_list _ _ _, ?_, ?_⟩
      · have := ipairs_len b (by omega)
        rw [List.length_append, List.length_map, List.length_map, List.length_range]; omega
      · rw [setL_setL, range_succ_map, List.append_assoc]; rfl
  · subst e
    rw [rangeL_len]
    exact K D hD
end
end Mine

/-! P29 -/
namespace Mine
theorem not_mem_takeP {α : Type} {l : List α} (hn : l.Nodup) {i : Nat} {k : α} (h : l[i]? = some k) : k ∉ l.take i := fun hm => by
  obtain ⟨j, hj⟩ := List.getElem?_of_mem hm
  rw [List.getElem?_take] at hj
  split at hj
  · rename_i hlt
    have h1 := (List.getElem?_eq_some_iff.mp hj)
    have h2 := (List.getElem?_eq_some_iff.mp h)
    obtain ⟨l1, e1⟩ := h1
    obtain ⟨l2, e2⟩ := h2
    have := (List.getElem_inj hn (h₀ := l1) (h₁ := l2)).mp (by rw [e1, e2])
    omega
  · cases hj
theorem setL_other (σ : AH) {a b : Addr} (x : List AV) (h : b ≠ a) : (σ.setL a x).list b = σ.list b := by simp [AH.setL, h]
/-- the lists after one more edge -/
def addS (σ : AH) (G : Gr) (ll : Int → Addr) (a b : Int) : AH := (σ.setL (ll a) ((G.adj a).map AV.int ++ [.int b])).setL (ll b) ((G.adj b).map AV.int ++ [.int a])
theorem addS_off (σ : AH) (G : Gr) (ll : Int → Addr) {a b : Int} (ha : a ∈ G.V) (hb : b ∈ G.V) : Off (fun x => ∃ v ∈ G.V, x = ll v) σ (addS σ G ll a b) :=
  (Off.setL σ ⟨a, ha, rfl⟩).trans (.setL _ ⟨b, hb, rfl⟩)
theorem GL.add {G : Gr} {σ : AH} {aL : Addr} {dL : DI} {ll : Int → Addr} (x : GL G σ aL dL ll) (inj : ∀ v ∈ G.V, ∀ w ∈ G.V, ll v = ll w → v = w) {a b : Int} (ha : a ∈ G.V) (hb : b ∈ G.V) (hne : a ≠ b) :
    GL (G.add a b) (addS σ G ll a b) aL dL ll where
  at_ := x.at_
  keys := x.keys
  val := x.val
  nm := x.nm
  list := fun v hv => by
    have hv : v ∈ G.V := hv
    unfold addS Gr.add
    dsimp only
    by_cases h1 : v = b
    · subst h1
      rw [setL_list, if_neg (Ne.symm hne), if_pos rfl]; simp
    · rw [setL_other _ _ fun e => h1 (inj v hv b hb e)]
      by_cases h2 : v = a
      · subst h2; rw [setL_list, if_pos rfl]; simp
      · rw [setL_other _ _ fun e => h2 (inj v hv a ha e), if_neg h2, if_neg h1]; exact x.list v hv
/-- the law's state while it makes its graph -/
structure Made (σ₀ : AH) (f : Int → Int) (n : Nat) (nm : Nat → Int) (ll : Int → Addr) (aL : Addr) (dL : DI) (d p : Nat) (G : Gr) (σ : AH) : Prop where
  V : G.V = (List.range n).map nm
  ok : G.OK
  gl : GL G σ aL dL ll
  proper : Proper G f
  deg : ∀ v ∈ G.V, (G.adj v).length ≤ d
  only : ∀ i < n, ∀ j < n, nm j ∈ G.adj (nm i) → (i, j) ∈ (ipairs n).take p ∨ (j, i) ∈ (ipairs n).take p
  off : Off (fun x => ∃ v ∈ (List.range n).map nm, x = ll v) σ₀ σ
section
variable {prog : Program} {w : World} {A : Around} {B : Basis} {σ σ' : AH} {P : Pins} {pm cd doc dV : Value} {L fa l D M R aF aK aL Pp : Addr} {dF dL : DI} {ns : List Int} {k s : Nat} {nm : Nat → Int} {g : Nat → Nat} {f : Int → Int} {ll : Int → Addr}
theorem lawE {m : Nat} {Q : AF → Rho → AH → Prop} (hA : Rm (calleeCx A B P (FD 12 pm cd doc dV .none) L fa).A (m + 1)) (hB : B.OK) (brange : B.mg "range" = none ∧ B.mb "range" = some (.type "range")) (blen : B.mg "len" = none ∧ B.mb "len" = some (.builtin "len"))
    (la : LA σ σ' D M R ns k s nm g) (lf : LF σ' aF dF k s nm g) (hf : ∀ v ∈ (List.range (k * s)).map nm, v ∈ dF.keys ∧ dF.val v = .int (f v)) (hPp : σ'.list Pp = some ((ipairs (k * s)).map (pav nm)))
    (inj : ∀ v ∈ (List.range (k * s)).map nm, ∀ w ∈ (List.range (k * s)).map nm, ll v = ll w → v = w) (apart : ∀ v ∈ (List.range (k * s)).map nm, ll v ≠ D ∧ ll v ≠ Pp ∧ ll v ≠ aF)
    {G₀ : Gr} (gs₀ : Made σ' f (k * s) nm ll aL dL (k - 2) 0 G₀ σ')
    (K : ∀ G σ'', Made σ' f (k * s) nm ll aL dL (k - 2) (ipairs (k * s)).length G σ'' →
      SX prog w (calleeCx A B P (FD 12 pm cd doc dV .none) L fa) (lawρ2 l D M R aF aK aL Pp k s) σ'' ((stBody (stAt 12)).drop 12) Q) :
    SX prog w (calleeCx A B P (FD 12 pm cd doc dV .none) L fa) (lawρ2 l D M R aF aK aL Pp k s) σ' ((stBody (stAt 12)).drop 11) Q := by
  have hn12 : k * s ≤ 12 := Nat.le_trans (Nat.mul_le_mul la.k4 la.s3) (by decide)
  have hp66 := ipairs_len (k * s) hn12
  have k2 := la.k2
  refine SX.cons (S1.for_ hA (ITt.range1 (n := (ipairs (k * s)).length) (PE.builtin hB brange.1 brange.2) (PE.len (PE.builtin hB blen.1 blen.2) (PE.name rfl) (.inl ⟨_, _, rfl, hPp, by rw [List.length_map]⟩) (by omega)) (by omega))
    (fun i ρ' σ₁ => RLe (lawρ2 l D M R aF aK aL Pp k s) ρ' ∧ ∃ G, Made σ' f (k * s) nm ll aL dL (k - 2) i G σ₁) ⟨.refl _, G₀, gs₀⟩ (fun _ _ _ _ _ => trivial) ?_ ?_)
  · rintro i av ρ' σ₁ P' hi0 ⟨hle, G, gs⟩
    obtain ⟨hi, rfl⟩ := rangeL_get hi0
    have ei : (0 : Int) + i * 1 = i := by omega
    rw [ei]
    replace hA : Rm ((calleeCx A B P (FD 12 pm cd doc dV .none) L fa).pinned P').A (m + 1) := hA
    have nD : ¬ ∃ v ∈ (List.range (k * s)).map nm, D = ll v := by rintro ⟨v, hv, e⟩; exact (apart v hv).1 e.symm
    have nP : ¬ ∃ v ∈ (List.range (k * s)).map nm, Pp = ll v := by rintro ⟨v, hv, e⟩; exact (apart v hv).2.1 e.symm
    have hD := (gs.off.list D nD).trans la.nums
    have hP := (gs.off.list Pp nP).trans hPp
    have nF' : ¬ ∃ v ∈ (List.range (k * s)).map nm, aF = ll v := by rintro ⟨v, hv, e⟩; exact (apart v hv).2.2 e.symm
    have hF1 := (gs.off.dI aF nF').trans lf.at_
    have fgi : ∀ v ∈ (List.range (k * s)).map nm, GI σ₁ (.ref aF) (.int v) (.int (f v)) := fun v hv => by
      have := GI.dI hF1 (hf v hv).1
      rwa [(hf v hv).2] at this
    refine SX.weaken (ρ₀ := ("p", .int i) :: lawρ2 l D M R aF aK aL Pp k s) ?_ (hle.cons _ _) (.refl _)
    obtain ⟨⟨ia, ib⟩, hij⟩ : ∃ q, (ipairs (k * s))[i]? = some q := ⟨_, List.getElem?_eq_getElem hi⟩
    have hmem := mem_ipairs.mp (List.mem_of_getElem? hij)
    have hav : nm ia ∈ (List.range (k * s)).map nm := List.mem_map.mpr ⟨ia, List.mem_range.mpr (by omega), rfl⟩
    have hbv : nm ib ∈ (List.range (k * s)).map nm := List.mem_map.mpr ⟨ib, List.mem_range.mpr hmem.2, rfl⟩
    have hne : nm ia ≠ nm ib := fun e => by have := la.inj ia (by omega) ib hmem.2 e; omega
    have haV : nm ia ∈ G.V := gs.V ▸ hav
    have hbV : nm ib ∈ G.V := gs.V ▸ hbv
    have gi : GI σ₁ (.ref Pp) (.int i) (pav nm (ia, ib)) := GI.list hP (Int.natCast_nonneg _) (by omega) (by rw [Int.toNat_natCast, List.getElem?_map, hij]; rfl)
    have dega := gs.deg _ haV
    have degb := gs.deg _ hbV
    refine SX.cons (S1.assignTuple hA ((PE.sub_ hA (PE.name rfl) (PE.name rfl) gi).ev ⟨_, _, rfl, ?_⟩))
    refine SX.cons (S1.iteB (PT.bool (PA.and_cons (PT.cmp (PE.sub_ hA (PE.name rfl) (PE.name rfl) (fgi _ hav)) (PE.sub_ hA (PE.name rfl) (PE.name rfl) (fgi _ hbv)) .ne)
      fun _ => PA.and_cons (PT.cmp (PE.mod (PE.sub_ hA (PE.name rfl) (PE.add PE.int (PE.name rfl)) (num_gi hD (30 + i) (by omega) (by rw [la.len]; omega) la.len)) PE.int (by decide)) PE.int .ne)
      fun _ => PA.and_cons (PT.cmp (PE.len (n := (G.adj (nm ia)).length) (PE.builtin hB blen.1 blen.2) (PE.sub_ hA (PE.name rfl) (PE.name rfl) (gs.gl.gi haV)) (.inl ⟨_, _, rfl, gs.gl.list _ haV, by rw [List.length_map]⟩) (by have := la.k4; omega)) (PE.sub (PE.name rfl) PE.int) .lt)
      fun _ => PA.and_cons (PT.cmp (PE.len (n := (G.adj (nm ib)).length) (PE.builtin hB blen.1 blen.2) (PE.sub_ hA (PE.name rfl) (PE.name rfl) (gs.gl.gi hbV)) (.inl ⟨_, _, rfl, gs.gl.list _ hbV, by rw [List.length_map]⟩) (by have := la.k4; omega)) (PE.sub (PE.name rfl) PE.int) .lt)
      fun _ => PA.and_nil)) (fun h => ?_) (fun _ => ?_))
    · simp only [Bool.and_eq_true, Bool.not_eq_true', decide_eq_false_iff_not, decide_eq_true_eq] at h
      obtain ⟨hfne, _, hla, hlb, _⟩ := h
      have hnot : nm ib ∉ G.adj (nm ia) := fun hm => by
        rcases gs.only ia (by omega) ib hmem.2 hm with h | h
        · exact not_mem_takeP (ipairs_nodup _) hij h
        · have := mem_ipairs.mp (List.mem_of_mem_take h); omega
      have hll : ll (nm ia) ≠ ll (nm ib) := fun e => hne (inj _ hav _ hbv e)
      refine SX.cons (S1.expr (EV.meth (T := "list") (id := "list.append") (R := fun av σ' => av = .ref (ll (nm ia)) ∧ σ₁ = σ') ((PE.sub_ hA (PE.name rfl) (PE.name rfl) (gs.gl.gi haV)).ev ⟨rfl, rfl⟩) F.plainAttrs_list F.slot_list_append F.type_list_append fun av σ' ⟨e1, e2⟩ => ?_))
      subst e1 e2
      refine ⟨.list (gs.gl.list _ haV), _, .cons (PE.name rfl) (fun _ => rfl) .nil, BC.append (gs.gl.list _ haV) (by rw [List.length_map]; have := la.k4; omega) ?_⟩
      have gib : GI (σ₁.setL (ll (nm ia)) ((G.adj (nm ia)).map AV.int ++ [.int (nm ib)])) (.ref aL) (.int (nm ib)) (.ref (ll (nm ib))) := by
        have := GI.dI (σ := σ₁.setL (ll (nm ia)) ((G.adj (nm ia)).map AV.int ++ [.int (nm ib)])) gs.gl.at_ (k := nm ib) (by rw [gs.gl.keys]; exact hbV)
        rwa [gs.gl.val _ hbV] at this
      have hlb2 : (σ₁.setL (ll (nm ia)) ((G.adj (nm ia)).map AV.int ++ [.int (nm ib)])).list (ll (nm ib)) = some ((G.adj (nm ib)).map AV.int) := by
        rw [setL_other _ _ (Ne.symm hll)]; exact gs.gl.list _ hbV
      refine SX.cons (S1.expr (EV.meth (T := "list") (id := "list.append") (R := fun av σ' => av = .ref (ll (nm ib)) ∧ σ₁.setL (ll (nm ia)) ((G.adj (nm ia)).map AV.int ++ [.int (nm ib)]) = σ') ((PE.sub_ hA (PE.name rfl) (PE.name rfl) gib).ev ⟨rfl, rfl⟩) F.plainAttrs_list F.slot_list_append F.type_list_append fun av σ' ⟨e1, e2⟩ => ?_))
      subst e1 e2
      refine ⟨.list hlb2, _, .cons (PE.name rfl) (fun _ => rfl) .nil, BC.append hlb2 (by rw [List.length_map]; have := la.k4; omega) ?_⟩
      have gsV := gs.V
      refine SX.nil (SX.nil ⟨?_, G.add (nm ia) (nm ib), gs.V, gs.ok.add haV hbV hne hnot, gs.gl.add (by rw [gsV]; exact inj) haV hbV hne, properAdd gs.proper hfne, fun v hv => ?_, fun i' hi' j' hj' hm => ?_, gs.off.trans ?_⟩)
      · exact (((RLe.refl _).skip _).skip _).skip _
      · have := gs.deg v hv
        rw [Gr.add_len]
        split
        · rename_i e; subst e; omega
        · split
          · rename_i e; subst e; omega
          · omega
      · rw [List.take_add_one, hij]
        simp only [Option.toList, List.mem_append, List.mem_singleton, Prod.mk.injEq]
        rcases (Gr.mem_add hne).mp hm with h | ⟨h1, h2⟩ | ⟨h1, h2⟩
        · rcases gs.only i' hi' j' hj' h with h | h
          · exact .inl (.inl h)
          · exact .inr (.inl h)
        · exact .inl (.inr ⟨la.inj _ hi' _ (by omega) h1, la.inj _ hj' _ (by omega) h2⟩)
        · exact .inr (.inr ⟨la.inj _ hj' _ (by omega) h2, la.inj _ hi' _ (by omega) h1⟩)
      · have := addS_off σ₁ G ll haV hbV
        rw [gsV] at this
        exact this
    · refine SX.nil (SX.nil ⟨?_, G, { gs with only := fun i' hi' j' hj' hm => ?_ }⟩)
      · exact (((RLe.refl _).skip _).skip _).skip _
      · rcases gs.only i' hi' j' hj' hm with h | h
        · exact .inl (by rw [List.take_add_one]; exact List.mem_append_left _ h)
        · exact .inr (by rw [List.take_add_one]; exact List.mem_append_left _ h)
  · rintro ρ' σ₁ ⟨hle, G, gs⟩
    rw [rangeL_len] at gs
    exact SX.nil (SX.weaken (K G σ₁ gs) hle (.refl _))
end
end Mine

/-! P30 -/
namespace Mine
theorem LF.count {σ' : AH} {aF : Addr} {dF : DI} {k s : Nat} {nm : Nat → Int} {g : Nat → Nat} {f : Int → Int} (lf : LF σ' aF dF k s nm g) (hf : ∀ i < k * s, f (nm (g i)) = (i % k : Nat))
    (k2 : 2 ≤ k) (k4 : k ≤ 4) (s2 : 2 ≤ s) (s3 : s ≤ 3) {c : Nat} (hc : c < k) : (dF.keys.filter fun v => f v == (c : Int)).length = s := by
  rw [lf.keys, ← List.countP_eq_length_filter, List.countP_map]
  refine Eq.trans (List.countP_congr fun i hi => ?_) (classes_even k2 k4 s2 s3 hc)
  rw [List.mem_range] at hi
  simp only [Function.comp_apply, hf i hi, beq_iff_eq]
  omega
theorem rangeL_mem {k : Nat} {c : Int} : c ∈ rangeL 0 1 k ↔ ∃ j : Nat, j < k ∧ c = j := by
  unfold rangeL
  simp only [List.mem_map, List.mem_range]
  constructor
  · rintro ⟨j, hj, rfl⟩; exact ⟨j, hj, by omega⟩
  · rintro ⟨j, hj, rfl⟩; exact ⟨j, hj, by omega⟩
theorem rangeL_nodup (k : Nat) : (rangeL 0 1 k).Nodup := by
  unfold rangeL
  rw [List.Nodup, List.pairwise_map]
  exact List.Pairwise.imp (fun {a b} h e => h (by omega)) List.nodup_range
theorem rangeL_sorted (k : Nat) : (rangeL 0 1 k).Pairwise (· ≤ ·) := by
  unfold rangeL
  rw [List.pairwise_map]
  exact List.Pairwise.imp (fun {a b} h => by omega) (List.pairwise_lt_range)
section
variable {prog : Program} {w : World} {A : Around} {B : Basis} {σ σ' : AH} {P : Pins} {pm cd doc dV : Value} {L fa l D M R aF aK aL Pp : Addr} {dF dL : DI} {ns : List Int} {k s : Nat} {nm : Nat → Int} {g : Nat → Nat} {f : Int → Int} {ll : Int → Addr}
theorem lawF {m : Nat} {f1 : Addr} {cd1 : Value} {Q : AF → Rho → AH → Prop} (F1 : Fn B 1 f1 cd1 .none) (hA : Rm (calleeCx A B P (FD 12 pm cd doc dV .none) L fa).A (m + 1)) (hB : B.OK) (blen : B.mg "len" = none ∧ B.mb "len" = some (.builtin "len")) (bsort : B.mg "sorted" = none ∧ B.mb "sorted" = some (.builtin "sorted"))
    (k2 : 2 ≤ k) (k4 : k ≤ 4) (s2 : 2 ≤ s) (s3 : s ≤ 3)
    (lf : LF σ' aF dF k s nm g) (hf : ∀ i < k * s, f (nm (g i)) = (i % k : Nat)) (hK : σ'.list aK = some ((rangeL 0 1 k).map AV.int))
    (K : ∀ aC dC lc σ'' σ₂, MC σ' f dF.keys aC dC lc σ'' → (∀ c, c ∈ dC.keys ↔ c ∈ rangeL 0 1 k) → Off σ''.Fresh σ'' σ₂ →
      SX prog w (calleeCx A B P (FD 12 pm cd doc dV .none) L fa) (("C", .ref aC) :: lawρ2 l D M R aF aK aL Pp k s) σ₂ ((stBody (stAt 12)).drop 14) Q) :
    SX prog w (calleeCx A B P (FD 12 pm cd doc dV .none) L fa) (lawρ2 l D M R aF aK aL Pp k s) σ' ((stBody (stAt 12)).drop 12) Q := by
  have hn12 : k * s ≤ 12 := Nat.le_trans (Nat.mul_le_mul k4 s3) (by decide)
  have hkl : dF.keys.length = k * s := by rw [lf.keys, List.length_map, List.length_range]
  refine SX.cons (S1.assign (EV.call hB (F1.fn.choose_spec.choose_spec) (.cons (PE.name rfl) (fun _ => rfl) .nil) .nil (mC_ok (f := f) F1 hA hB lf.at_ lf.nm (fun v hv => ?_) (by omega) fun σ₁ aC dC lc M₁ => ?_)))
  · rw [lf.keys] at hv
    obtain ⟨i, hi, rfl⟩ := List.mem_map.mp hv
    rw [List.mem_range] at hi
    rw [lf.val i hi, hf i hi]
  have hmem : ∀ c, c ∈ dC.keys ↔ c ∈ rangeL 0 1 k := fun c => by
    rw [M₁.keys, rangeL_mem]
    constructor
    · rintro ⟨v, hv, rfl⟩
      rw [lf.keys] at hv
      obtain ⟨i, hi, rfl⟩ := List.mem_map.mp hv
      rw [List.mem_range] at hi
      exact ⟨i % k, Nat.mod_lt _ (by omega), hf i hi⟩
    · rintro ⟨j, hj, rfl⟩
      have h := lf.count hf k2 k4 s2 s3 hj
      obtain ⟨v, hv⟩ : ∃ v, v ∈ dF.keys.filter fun v => f v == (j : Int) := List.exists_mem_of_length_pos (by omega)
      rw [List.mem_filter] at hv
      exact ⟨v, hv.1, by simpa using hv.2⟩
  have hperm : (rangeL 0 1 k).Perm dC.keys := (List.perm_ext_iff_of_nodup (rangeL_nodup k) M₁.nodup).mpr fun c => (hmem c).symm
  have hkc : dC.keys.length = k := by rw [← hperm.length_eq]; simp [rangeL]
  refine SX.cons (S1.iteV (TV.bool (TB.or_cons (TV.cmp (R := fun av σ₂ => ∃ D, ∃ ys : List Int, av = .ref D ∧ Nw σ₁ D ∧ ys = rangeL 0 1 k ∧ σ₁.setL D (ys.map AV.int) = σ₂) (EV.call1 (R := fun av σ₂ => av = .ref aC ∧ σ₁ = σ₂) (PE.builtin hB bsort.1 bsort.2) ((PE.name rfl).ev ⟨rfl, rfl⟩) ?_ (.inl ⟨_, rfl⟩)) ?_))))
  · rintro _ _ ⟨rfl, rfl⟩
    exact BC.sortedD hA M₁.at_ M₁.nC (by omega) fun D ys hD hp' hs => ⟨D, ys, rfl, hD, sorted_eq (hp'.trans hperm.symm) hs (rangeL_sorted k), rfl⟩
  rintro _ _ ⟨D', ys, rfl, hD', rfl, rfl⟩
  have o₂ : Off σ₁.Fresh σ₁ (σ₁.setL D' ((rangeL 0 1 k).map AV.int)) := .setL _ hD'.fresh
  have hK2 := o₂.list' (M₁.off.list' hK)
  refine (PE.name rfl).ev ⟨_, CP.listNe hA (xs := rangeL 0 1 k) (ys := rangeL 0 1 k) (setL_list _ _ _) hK2, ?_⟩
  simp only [decide_true, Bool.not_true, Bool.false_eq_true, if_false]
  have atC := o₂.dI' M₁.at_
  have lists := fun c hc => o₂.list' (M₁.list c hc)
  generalize σ₁.setL D' ((rangeL 0 1 k).map AV.int) = σ₂ at *
  refine TB.or_cons (TV.cmp (R := fun av σ' => ∃ D, av = .ref D ∧ Nw σ₂ D ∧ σ₂.setL D [] = σ') (EC.filter (fun _ => false) hA (ITt.list (PE.name rfl) hK2) (.list hK2) (by simp [rangeL]; omega) (fun D ys' L' P' c hD hc => ?_) fun D hD => ?_).ev ?_)
  · have hcK := (hmem c).mpr hc
    have o₃ : Off σ₂.Fresh σ₂ (σ₂.setL D ys') := .setL _ hD.fresh
    have gi : GI (σ₂.setL D ys') (.ref aC) (.int c) (.ref (lc c)) := by
      have := GI.dI (o₃.dI' atC) hcK
      rwa [M₁.val c hcK] at this
    obtain ⟨j, hj, rfl⟩ := rangeL_mem.mp hc
    have e0 : false = !decide ((s : Int) = s) := by simp
    rw [e0]
    exact PT.cmp (PE.len (n := s) (PE.builtin (by exact hB) blen.1 blen.2) (PE.sub_ (by exact hA) (PE.name rfl) (PE.name rfl) gi) (.inl ⟨_, _, rfl, o₃.list' (lists _ hcK), by rw [List.length_map, lf.count hf k2 k4 s2 s3 hj]⟩) (by omega)) (PE.name rfl) CP.ne
  · exact ⟨D, rfl, hD, by rw [List.filter_eq_nil_iff.mpr (fun _ _ => Bool.false_ne_true)]; rfl⟩
  · rintro _ _ ⟨D7, rfl, hD7, rfl⟩
    refine EV.listLit .nil (by decide) fun D8 hD8 => ⟨_, CP.neNil hA (xs := []) ((Off.setL _ hD8.fresh : Off (σ₂.setL D7 []).Fresh _ _).list' (setL_list _ _ _)) (setL_list _ _ _), ?_⟩
    simp only [List.isEmpty_nil, Bool.not_true, Bool.false_eq_true, if_false]
    refine TB.or_nil ?_
    simp only [Bool.false_eq_true, if_false]
    exact SX.nil (K aC dC lc σ₁ _ M₁ hmem (o₂.transF ((Off.setL _ hD7.fresh : Off σ₂.Fresh _ _).transF (.setL _ hD8.fresh))))
end
end Mine

/-! P31 -/
namespace Mine
section
variable {prog : Program} {w : World} {c : Cx} {ρ : Rho} {σ : AH}
/-- [x for x in iter if test], over any values -/
theorem EC.filterA {iter test : Expr} {x : Str} {px pe pos : Pos} {scope : Scope} {items : List AV} {Src : AH → Prop} {n : Nat} (p : AV → Bool) {Q : AV → AH → Prop} (hA : Rm c.A n)
    (hit : ITt prog w c ρ σ (eval iter c.env) items Src) (hS : SrcNew σ Src) (hz : items.length ≤ 1000)
    (htest : ∀ D ys L P' k, Nw σ D → k ∈ items → PT prog w (compCx c scope L P') ((x, k) :: capt scope ρ) (σ.setL D ys) test (p k))
    (q : ∀ D, Nw σ D → Q (.ref D) (σ.setL D (items.filter p)))
    (hv : ∀ L P', isVar (compCx c scope L P').env x = true := by intro _ _; rfl)
    (hok : compOK scope c.env = true := by rfl) (hx : (scope.names.lookup x == some .local || scope.names.lookup x == some .cell) = true := by rfl) (hs : ∀ x, foldedSetIterable iter c.env x = pure x := by intro _; rfl)
    (hd : (x == ("__classdict__" : Str)) = false := by decide) (hd' : (x == ("__debug__" : Str)) = false := by decide) :
    EC prog w c ρ σ (.ListComp (.Name x pe) [⟨.Name x px, iter, [test], 0⟩] scope pos) Q := by
  refine EC.listComp hA hit (fun D i σ₁ => Nw σ D ∧ σ₁ = σ.setL D ((items.take i).filter p)) (fun D hD => ⟨hD, rfl⟩) (fun D i σ₁ _ ⟨hD, e⟩ => e ▸ hS D _ hD.fresh) (fun D L P' i k σ₁ hk ⟨hD, e⟩ => ?_) (fun D σ₁ hD ⟨_, e⟩ => ?_) hok hx hs
  · subst e
    have ht : items.take (i + 1) = items.take i ++ [k] := by rw [List.take_add_one, hk]; rfl
    refine ⟨p k, PTl.one (htest D _ L P' k hD (List.mem_of_getElem? hk)), ?_⟩
    cases hp : p k with
    | false =>
      simp only [Bool.false_eq_true, if_false]
      exact ⟨hD, by rw [ht, List.filter_append]; simp [hp]⟩
    | true =>
      simp only [if_true]
      refine (PE.name lookup_cons_self (hv L P') hd hd').ev ⟨_, setL_list _ _ _, Nat.le_trans (List.length_filter_le _ _) (Nat.le_trans (List.length_take_le' _ _) (by omega)), hD, ?_⟩
      rw [setL_setL, ht, List.filter_append]; simp [hp]
  · subst e
    rw [List.take_length]
    exact q D hD
end
end Mine

/-! P32 -/
namespace Mine
/-- the law's tables between two rounds (N and H apart) -/
structure RS (k s : Nat) (VF : List Int) (aF aC aL : Addr) (dC dL : DI) (lc ll : Int → Addr) (G : Gr) (f : Int → Int) (cls : Int → List Int) (σ : AH) : Prop where
  ok : G.OK
  gl : GL G σ aL dL ll
  cl : CL σ aC dC lc cls
  fl : ∃ d, σ.dI aF = some d ∧ d.keys = VF ∧ ∀ v ∈ G.V, d.val v = .int (f v)
  vf : ∀ v, v ∈ VF ↔ v ∈ G.V
  fK : ∀ v ∈ G.V, f v ∈ dC.keys
  mem : ∀ c ∈ dC.keys, ∀ v, v ∈ cls c ↔ v ∈ G.V ∧ f v = c
  nodup : ∀ c ∈ dC.keys, (cls c).Nodup
  proper : Proper G f
  deg : ∀ v ∈ G.V, (G.adj v).length ≤ k - 1
  size : ∀ c ∈ dC.keys, sz G f c = s
/-- how the tables' places stand to each other -/
structure Apart (V VF : List Int) (aF aC aL : Addr) (dC : DI) (lc ll : Int → Addr) : Prop where
  fc : aF ≠ aC
  fl : aF ≠ aL
  lcinj : ∀ c ∈ dC.keys, ∀ d ∈ dC.keys, lc c = lc d → c = d
  llinj : ∀ v ∈ V, ∀ w ∈ V, ll v = ll w → v = w
  lcll : ∀ c ∈ dC.keys, ∀ v ∈ V, lc c ≠ ll v
  zf : VF.length ≤ 12
  zv : V.length ≤ 12
  zk : dC.keys.length ≤ 4
def nmOf (VF : List Int) (aF aC aL aN aH : Addr) (dC dL : DI) (lc ll : Int → Addr) (V : List Int) : Nm :=
  { F := aF, C := aC, L := aL, N := aN, H := aH, dC := dC, dL := dL, lc := lc, ll := ll, VF := VF, KN := V.flatMap (fun x => dC.keys.map fun y => (x, y)), KH := dC.keys.flatMap (fun x => dC.keys.map fun y => (x, y)) }
theorem RS.nmOK {k s : Nat} {VF : List Int} {aF aC aL aN aH : Addr} {dC dL : DI} {lc ll : Int → Addr} {G : Gr} {f : Int → Int} {cls : Int → List Int} {σ : AH} (x : RS k s VF aF aC aL dC dL lc ll G f cls σ) (ap : Apart G.V VF aF aC aL dC lc ll) (hnh : aN ≠ aH) :
    (nmOf VF aF aC aL aN aH dC dL lc ll G.V).OK G where
  cv := x.cl.val
  lk := x.gl.keys
  lv := x.gl.val
  lcinj := ap.lcinj
  kn := fun v c => mem_pairs
  kh := fun c e => mem_pairs
  vf := x.vf
  knodup := x.cl.nodup
  fc := ap.fc
  fl := ap.fl
  nh := hnh
  lcll := ap.lcll
  zf := Nat.le_trans ap.zf (by decide)
  zk := Nat.le_trans ap.zk (by decide)
  zn := by show (G.V.flatMap _).length ≤ _; rw [pairs_length]; exact Nat.le_trans (Nat.mul_le_mul ap.zv ap.zk) (by decide)
  zh := by show (dC.keys.flatMap _).length ≤ _; rw [pairs_length]; exact Nat.le_trans (Nat.mul_le_mul ap.zk ap.zk) (by decide)
  cm := x.cl.nm
  lm := x.gl.nm
end Mine

/-! P33 -/
namespace Mine
theorem RS.off {k s : Nat} {VF : List Int} {aF aC aL : Addr} {dC dL : DI} {lc ll : Int → Addr} {G : Gr} {f : Int → Int} {cls : Int → List Int} {σ σ' : AH} (x : RS k s VF aF aC aL dC dL lc ll G f cls σ) (o : Off σ.Fresh σ σ') : RS k s VF aF aC aL dC dL lc ll G f cls σ' :=
  { x with gl := x.gl.off o, cl := x.cl.off o, fl := by obtain ⟨d, h1, h2⟩ := x.fl; exact ⟨d, o.dI' h1, h2⟩ }
theorem RS.good {k s : Nat} {VF : List Int} {aF aC aL aN aH : Addr} {dC dL : DI} {dN dH : DP} {lc ll : Int → Addr} {G : Gr} {f : Int → Int} {cls : Int → List Int} {σ : AH} (x : RS k s VF aF aC aL dC dL lc ll G f cls σ) (ap : Apart G.V VF aF aC aL dC lc ll)
    (nl : NL G dC.keys σ aN (nF G f) dN) (hH : σ.dP aH = some dH) (kH : dH.keys = dC.keys.flatMap (fun x => dC.keys.map fun y => (x, y))) (vH : ∀ c ∈ dC.keys, ∀ e ∈ dC.keys, dH.val c e = .int (hc G.V f (nF G f) c e)) :
    Good G (nmOf VF aF aC aL aN aH dC dL lc ll G.V) σ f cls where
  tabs := {
    F := x.fl
    C := x.cl.at_
    L := x.gl.at_
    N := ⟨dN, nl.at_, nl.keys, nl.val⟩
    H := ⟨dH, hH, kH, vH⟩
    cls := fun c hc => ⟨x.cl.list c hc, Nat.le_trans (length_le_of_nodup (x.nodup c hc) fun v hv => ((x.mem c hc v).mp hv).1) (Nat.le_trans ap.zv (by decide))⟩
    adj := x.gl.list }
  fK := x.fK
  mem := x.mem
  nodup := x.nodup
theorem RS.back {k s : Nat} {VF : List Int} {aF aC aL aN aH : Addr} {dC dL : DI} {lc ll : Int → Addr} {G : Gr} {f f' : Int → Int} {cls cls' : Int → List Int} {σ σ' : AH} (x : RS k s VF aF aC aL dC dL lc ll G f cls σ)
    (S : Good G (nmOf VF aF aC aL aN aH dC dL lc ll G.V) σ' f' cls') (hp : Proper G f') (hs : ∀ c ∈ dC.keys, sz G f' c = s) : RS k s VF aF aC aL dC dL lc ll G f' cls' σ' where
  ok := x.ok
  gl := ⟨S.tabs.L, x.gl.keys, x.gl.val, S.tabs.adj, x.gl.nm⟩
  cl := ⟨S.tabs.C, x.cl.nodup, x.cl.val, fun c hc => (S.tabs.cls c hc).1, x.cl.nm⟩
  fl := S.tabs.F
  vf := x.vf
  fK := S.fK
  mem := S.mem
  nodup := S.nodup
  proper := hp
  deg := x.deg
  size := hs
end Mine

/-! P34 -/
namespace Mine
/-- the heap without these objects -/
def strip (h : Heap) (S : Addr → Bool) : Heap := { h with objs := h.objs.mapIdx fun i o => if S i = true then { o with data := .freed } else o }
theorem strip_get {h : Heap} {S : Addr → Bool} {b : Addr} : (strip h S).get? b = if S b = true then none else h.get? b := by
  unfold strip Heap.get?
  simp only [Array.getElem?_mapIdx]
  cases e : h.objs[b]? with
  | none => simp
  | some o =>
    simp only [Option.map_some]
    by_cases hs : S b = true
    · simp [hs]
    · simp [hs]
theorem strip_stays {h : Heap} {S : Addr → Bool} : (strip h S).StaysIn h := fun b o e => by
  rw [strip_get] at e
  split at e
  · cases e
  · exact e
end Mine

/-! P35 -/
namespace Mine
theorem entry_unchain : entryFor table "proto.unchain" = some Builtin.«proto.unchain» := entryFor_of_tree (by kernel_rfl)
section
variable {prog : Program} {w : World} {A : Around} {E : Value → Shared → Prop} {s : Shared}
/-- raising a new exception while another is handled -/
theorem wpAny_raiseNew_some {α : Type} {e h : Addr} {oe oh : Obj} {ve vh : Array Value} {Q : α → Shared → Prop} (hh : A.handled = some (.ref h)) (hne : h ≠ e) (he : s.heap.get? e = some oe) (hde : oe.data = .fields ve) (hse : 2 < ve.size)
    (hoh : s.heap.get? h = some oh) (hdh : oh.data = .fields vh) (h2 : vh[2]? = some .none)
    (k : E (.ref e) { s with heap := s.heap.update e (Obj.mapFields (·.setIfInBounds 2 (.ref h))) }) : wpAny (model prog w) A (raiseNew (.ref e) : Sem α) Q E s := by
  unfold raiseNew
  refine wpAny_bind (wpAny_handled ?_)
  rw [hh]
  dsimp only
  rw [if_pos (show (Value.ref h != Value.ref e) = true by simp [hne])]
  refine wpAny_bind (wpAny_holding (wpAny_runValue (codeAny_builtin entry_unchain ?_)))
  unfold Builtin.«proto.unchain»
  refine wpAny_bind (m := field (.ref h) 2) (wpAny_field hoh hdh h2 ?_)
  rw [if_pos (by decide)]
  refine wpAny_bind (wpAny_pure (wpAny_pure ?_))
  dsimp only
  unfold updateField
  refine wpAny_bind (wpAny_bind (wpAny_load he ?_))
  rw [hde]
  dsimp only
  rw [if_pos hse]
  exact wpAny_update he (wpAny_throw k)
end
end Mine

/-! P36 -/
namespace Mine
/-- what stood in h₀ stands, but for the frames' slots -/
def Kept (S : List Addr) (h₀ h : Heap) : Prop := ∀ b o, h₀.get? b = some o → (b ∉ S → h.get? b = some o) ∧ ∃ sl, h.get? b = some { o with slots := sl }
/-- an assertion error that no frame has noted -/
def Exc0 (h₀ h : Heap) (e : Addr) (ctx : Value) : Prop := h₀.get? e = none ∧ ∃ oe vs, h.get? e = some oe ∧ oe.cls = .type "AssertionError" ∧ oe.data = .fields vs ∧ vs[1]? = some .none ∧ vs[2]? = some ctx
/-- one that some frame has -/
def ExcT (h₀ h : Heap) (e : Addr) (ctx fl : Value) : Prop := h₀.get? e = none ∧ ∃ oe vs T oT ts, h.get? e = some oe ∧ oe.cls = .type "AssertionError" ∧ oe.data = .fields vs ∧ vs[1]? = some (.ref T) ∧ vs[2]? = some ctx ∧
  h₀.get? T = none ∧ T ≠ e ∧ h.get? T = some oT ∧ oT.data = .fields ts ∧ ts[3]? = some fl

theorem Kept.refl (S : List Addr) (h : Heap) : Kept S h h := fun b o e => ⟨fun _ => e, o.slots, e⟩
theorem Kept.trans {S : List Addr} {a b c : Heap} (x : Kept S a b) (y : Kept S b c) : Kept S a c := fun d o e => by
  obtain ⟨h1, sl, h2⟩ := x d o e
  refine ⟨fun hd => (y d o (h1 hd)).1 hd, ?_⟩
  obtain ⟨_, sl', h3⟩ := y d _ h2
  exact ⟨sl', h3⟩
theorem Kept.of_ext {S : List Addr} {h h' : Heap} (x : Ext h h') : Kept S h h' := fun b o e => ⟨fun _ => x b o e, o.slots, x b o e⟩
theorem Kept.mono {S T : List Addr} {h h' : Heap} (x : Kept S h h') (hs : ∀ b o, h.get? b = some o → b ∈ S → b ∈ T) : Kept T h h' := fun b o e => ⟨fun hb => (x b o e).1 fun hm => hb (hs b o e hm), (x b o e).2⟩
theorem Kept.ext {S : List Addr} {h₀ h h' : Heap} (x : Kept S h₀ h) (k : ∀ b o, h.get? b = some o → h'.get? b = some o) : Kept S h₀ h' := fun b o e =>
  ⟨fun hb => k _ _ ((x b o e).1 hb), let ⟨sl, h⟩ := (x b o e).2; ⟨sl, k _ _ h⟩⟩
theorem Kept.slots {S : List Addr} {h₀ h h' : Heap} (x : Kept S h₀ h) (k : Heap.SlotsOnly S h h') : Kept S h₀ h' := fun b o e =>
  ⟨fun hb => (k.2.1 b hb).trans ((x b o e).1 hb), let ⟨sl, h⟩ := (x b o e).2; let ⟨sl', h'⟩ := k.2.2 _ _ h; ⟨sl', h'⟩⟩
theorem Kept.upd {S : List Addr} {h₀ h : Heap} (x : Kept S h₀ h) {a : Addr} (ha : h₀.get? a = none) (f : Obj → Obj) : Kept S h₀ (h.update a f) := fun b o e => by
  have hne : b ≠ a := by rintro rfl; rw [ha] at e; cases e
  rw [Heap.get?_update_other _ _ (Ne.symm hne)]
  exact x b o e
theorem Kept.fresh {S : List Addr} {h₀ h : Heap} (x : Kept S h₀ h) {a : Addr} (ha : h.get? a = none) : h₀.get? a = none := by
  cases e : h₀.get? a with
  | none => rfl
  | some o => obtain ⟨_, sl, hh⟩ := x _ _ e; rw [ha] at hh; cases hh
theorem Kept.funFrames {S : List Addr} {h h' base : Heap} (x : Kept S h h') {l : List Env} (hl : h.FunFrames base l) : h'.FunFrames base l :=
  hl.of_keeps fun b o hb _ => let ⟨sl, hh⟩ := (x b o hb).2; ⟨_, hh, rfl⟩
/-- a record that is no frame -/
theorem not_frame {base h : Heap} {l : List Env} (hl : h.FunFrames base l) {e : Addr} {oe : Obj} {vs : Array Value} (he : h.get? e = some oe) (hd : oe.data = .fields vs) : e ∉ l.filterMap (·.frame) := fun hm => by
  obtain ⟨_, o, ho, hnf⟩ := hl.mem hm
  rw [he] at ho; cases ho; exact hnf vs hd

section
variable {M : Model} {A : Around} {E : Value → Shared → Prop} {s : Shared}

theorem entryA {h₀ : Heap} {S : List Addr} {env : Env} {outer : List Env} {L e : Addr} {oe : Obj} {vs : Array Value} {ctx head : Value} {hadNext : Bool} {Q : Unit → Shared → Prop} (hfr : A.frames = some (env :: outer)) (hl : s.heap.FunFrames {} (env :: outer)) (hf : env.frame = some L)
    (hS : ∀ b ∈ (env :: outer).filterMap (·.frame), h₀.get? b ≠ none → b ∈ S) (k : Kept S h₀ s.heap) (hen : h₀.get? e = none) (he : s.heap.get? e = some oe) (hc : oe.cls = .type "AssertionError") (hd : oe.data = .fields vs) (hsz : 1 < vs.size) (h2 : vs[2]? = some ctx)
    (h : ∀ h', Kept S h₀ h' → ExcT h₀ h' e ctx (rawInt L) → h'.FunFrames {} (env :: outer) → Q () { s with heap := h' }) :
    wpAny M A (do let a ← frameOf env; let pl ← entryPlaceOf L hadNext; let b ← EntryCells.newEntry head a .none (rawInt L) .none pl; setField (.ref e) 1 b) Q E s := by
  have heS := not_frame hl he hd
  refine wpAny_bind (wpAny_frameOf_fun hfr hl hf fun h₁ hs₁ => ?_)
  refine wpAny_bind (wpAny_entryPlaceOf fun pl hpl => ?_)
  unfold EntryCells.newEntry newFields
  refine wpAny_bind (wpAny_newObj_type ?_ (hpl.sizeOk5 _ _ _ _ _))
  have k₁ : Kept S h₀ h₁ := fun b o eb => by
    obtain ⟨a1, sl, a2⟩ := k b o eb
    refine ⟨fun hb => (hs₁.2.1 b fun hm => hb (hS b hm (by rw [eb]; exact fun q => by cases q))).trans (a1 hb), ?_⟩
    obtain ⟨sl', a3⟩ := hs₁.2.2 _ _ a2
    exact ⟨sl', a3⟩
  have he₁ : h₁.get? e = some oe := (hs₁.2.1 e heS).trans he
  generalize ho : ({ cls := .type "traceback", dict := none, data := .fields ([head, .ref L, .none, rawInt L, .none] ++ (if pl.isEmpty then List.replicate 6 Value.none else pl)).toArray } : Obj) = tb
  have hT1 : h₁.get? h₁.objs.size = none := get?_none_of_le (Nat.le_refl _)
  have hT0 := k₁.fresh hT1
  have he₂ := Heap.get?_push_of_some (h := h₁) tb he₁
  have hTe : h₁.objs.size ≠ e := Nat.ne_of_gt (Heap.lt_size he₁)
  have hT₂ : (h₁.push tb).get? h₁.objs.size = some tb := Heap.get?_push_size h₁ (by rw [← ho]; rfl)
  refine wpAny_setField he₂ hd hsz (h _ ?_ ?_ ?_)
  · exact (k₁.ext fun b o hb => Heap.get?_push_of_some _ hb).upd hen _
  · refine ⟨hen, _, _, h₁.objs.size, tb, _, Heap.get?_update_self _ he₂ (Obj.isFreed_of_fields (Obj.data_mapFields hd _)), (Obj.cls_mapFields _ _).trans hc, Obj.data_mapFields hd _, by simp [hsz], by rw [Array.getElem?_setIfInBounds_ne (by decide)]; exact h2, hT0, hTe,
      (Heap.get?_update_other _ _ (Ne.symm hTe)).trans hT₂, by rw [← ho], by simp⟩
  · refine hl.of_keeps fun b o hb hnf => ?_
    obtain ⟨sl, h5⟩ := hs₁.2.2 b o hb
    have hbe : b ≠ e := by rintro rfl; rw [he] at hb; cases hb; exact hnf _ hd
    exact ⟨_, (Heap.get?_update_other _ _ (Ne.symm hbe)).trans (Heap.get?_push_of_some _ h5), rfl⟩

theorem noteA {h₀ : Heap} {S : List Addr} {env : Env} {outer : List Env} {L e : Addr} {ctx : Value} {Q : Unit → Shared → Prop} (hfr : A.frames = some (env :: outer)) (hl : s.heap.FunFrames {} (env :: outer)) (hf : env.frame = some L)
    (hS : ∀ b ∈ (env :: outer).filterMap (·.frame), h₀.get? b ≠ none → b ∈ S) (k : Kept S h₀ s.heap) (x : Exc0 h₀ s.heap e ctx)
    (h : ∀ h', Kept S h₀ h' → ExcT h₀ h' e ctx (rawInt L) → h'.FunFrames {} (env :: outer) → Q () { s with heap := h' }) : wpAny M A (noteFrame (.ref e) env) Q E s := by
  obtain ⟨hen, oe, vs, he, hc, hd, h1, h2⟩ := x
  unfold noteFrame
  simp only [hf]
  refine wpAny_bind (wpAny_field he hd h1 ?_)
  rw [if_neg (by decide)]
  exact entryA hfr hl hf hS k hen he hc hd (Array.getElem?_eq_some_iff.mp h1).1 h2 h

theorem noteB {h₀ : Heap} {S : List Addr} {env : Env} {outer : List Env} {L e : Addr} {ctx : Value} {Q : Unit → Shared → Prop} (hfr : A.frames = some (env :: outer)) (hl : s.heap.FunFrames {} (env :: outer)) (hf : env.frame = some L)
    (hS : ∀ b ∈ (env :: outer).filterMap (·.frame), h₀.get? b ≠ none → b ∈ S) (k : Kept S h₀ s.heap) (x : ExcT h₀ s.heap e ctx .none)
    (h : ∀ h', Kept S h₀ h' → ExcT h₀ h' e ctx (rawInt L) → h'.FunFrames {} (env :: outer) → Q () { s with heap := h' }) : wpAny M A (noteFrame (.ref e) env) Q E s := by
  obtain ⟨hen, oe, vs, T, oT, ts, he, hc, hd, h1, h2, hnT, hTe, hT, hdT, h3⟩ := x
  unfold noteFrame
  simp only [hf]
  refine wpAny_bind (wpAny_field he hd h1 ?_)
  rw [if_pos (show (Value.ref T != Value.none) = true from by simp)]
  refine wpAny_bind (wpAny_field hT hdT h3 ?_)
  rw [if_neg (show ¬ ((Value.none == rawInt L) = true) from by simp [rawInt])]
  refine wpAny_bind (wpAny_setField hT hdT (Array.getElem?_eq_some_iff.mp h3).1 ?_)
  have other : ∀ b, b ≠ T → (s.heap.update T (Obj.mapFields (·.setIfInBounds 3 Value.none))).get? b = s.heap.get? b := fun b hb => Heap.get?_update_other _ _ (Ne.symm hb)
  have noRecord : ∀ b o, s.heap.get? b = some o → (∀ vs, o.data ≠ .fields vs) → b ≠ T := fun b o hb hnf q => by
    rw [q, hT] at hb; injection hb with hb; subst hb; exact hnf ts hdT
  exact entryA hfr (hl.of_keeps fun b o hb hnf => ⟨o, (other b (noRecord b o hb hnf)).trans hb, rfl⟩) hf hS (k.upd hnT _) hen ((other e (Ne.symm hTe)).trans he) hc hd (Array.getElem?_eq_some_iff.mp h1).1 h2 h

theorem flightN {h₀ : Heap} {S : List Addr} {l : List Env} {e : Addr} {ctx fl : Value} {Q : Unit → Shared → Prop} (hl : s.heap.FunFrames {} l) (k : Kept S h₀ s.heap) (x : ExcT h₀ s.heap e ctx fl)
    (h : ∀ h', Kept S h₀ h' → ExcT h₀ h' e ctx .none → h'.FunFrames {} l → Q () { s with heap := h' }) : wpAny M A (setFlight (.ref e) none) Q E s := by
  obtain ⟨hen, oe, vs, T, oT, ts, he, hc, hd, h1, h2, hnT, hTe, hT, hdT, h3⟩ := x
  have hsz3 : 3 < ts.size := (Array.getElem?_eq_some_iff.mp h3).1
  have other : ∀ b, b ≠ T → (s.heap.update T (Obj.mapFields (·.setIfInBounds 3 ((none : Option Addr).elim Value.none fun f => rawInt f)))).get? b = s.heap.get? b :=
    fun b hb => Heap.get?_update_other _ _ (Ne.symm hb)
  have noRecord : ∀ b o, s.heap.get? b = some o → (∀ vs, o.data ≠ .fields vs) → b ≠ T := fun b o hb hnf q => by
    rw [q, hT] at hb; injection hb with hb; subst hb; exact hnf ts hdT
  unfold setFlight
  refine wpAny_bind (wpAny_field he hd h1 ?_)
  rw [if_pos (show (Value.ref T != Value.none) = true from by simp)]
  refine wpAny_setField hT hdT hsz3 (h _ (k.upd hnT _) ?_ (hl.of_keeps fun b o hb hnf => ⟨o, (other b (noRecord b o hb hnf)).trans hb, rfl⟩))
  exact ⟨hen, oe, vs, T, _, _, (other e (Ne.symm hTe)).trans he, hc, hd, h1, h2, hnT, hTe, Heap.get?_update_self _ hT (Obj.isFreed_of_fields (Obj.data_mapFields hdT _)), Obj.data_mapFields hdT _, by simp [hsz3]⟩
end
end Mine

/-! P37 -/
namespace Mine
/-- pins up to the frames' slots -/
def PUp (S : List Addr) (P P' : Pins) : Prop := ∀ b, (P b = none → P' b = none) ∧ ∀ o, P b = some o → (b ∉ S → P' b = some o) ∧ ∃ sl, P' b = some { o with slots := sl }
theorem PUp.refl (S : List Addr) (P : Pins) : PUp S P P := fun b => ⟨id, fun o e => ⟨fun _ => e, o.slots, e⟩⟩
theorem PUp.trans {S : List Addr} {P P₁ P₂ : Pins} (x : PUp S P P₁) (y : PUp S P₁ P₂) : PUp S P P₂ := fun b => ⟨fun e => (y b).1 ((x b).1 e), fun o e => by
  obtain ⟨h1, sl, h2⟩ := (x b).2 o e
  refine ⟨fun hb => ((y b).2 o (h1 hb)).1 hb, ?_⟩
  obtain ⟨_, sl', h3⟩ := (y b).2 _ h2
  exact ⟨sl', h3⟩⟩
theorem PUp.mono {S T : List Addr} {P P' : Pins} (x : PUp S P P') (h : ∀ b o, P b = some o → b ∈ S → b ∈ T) : PUp T P P' := fun b => ⟨(x b).1, fun o e => ⟨fun hb => ((x b).2 o e).1 fun hm => hb (h b o e hm), ((x b).2 o e).2⟩⟩
theorem PUp.none_iff {S : List Addr} {P P' : Pins} (x : PUp S P P') {b : Addr} (h : P' b = none) : P b = none := by
  cases e : P b with
  | none => rfl
  | some o => obtain ⟨_, sl, hh⟩ := (x b).2 o e; rw [h] at hh; cases hh
/-- the frames of these environments are pinned -/
def PinFr (B : Basis) (P : Pins) (l : List Env) : Prop := ∀ env ∈ l, env.scope.kind ≠ .module ∧ ∃ L o es ep, env.frame = some L ∧ B.h₀.get? L = none ∧ P L = some o ∧ o.data = .dict es ep
theorem PinFr.up {B : Basis} {S : List Addr} {P P' : Pins} {l : List Env} (x : PinFr B P l) (u : PUp S P P') : PinFr B P' l := fun env he => by
  obtain ⟨h1, L, o, es, ep, h2, h3, h4, h5⟩ := x env he
  obtain ⟨_, sl, h6⟩ := (u L).2 o h4
  exact ⟨h1, L, _, es, ep, h2, h3, h6, h5⟩
theorem PinFr.sub {B : Basis} {P P' : Pins} {l : List Env} (x : PinFr B P l) (u : ∀ b o, P b = some o → P' b = some o) : PinFr B P' l := fun env he => by
  obtain ⟨h1, L, o, es, ep, h2, h3, h4, h5⟩ := x env he
  exact ⟨h1, L, o, es, ep, h2, h3, u _ _ h4, h5⟩
theorem PinFr.cons {B : Basis} {P : Pins} {env : Env} {l : List Env} {L : Addr} {o : Obj} {es ep} (hk : env.scope.kind ≠ .module) (hf : env.frame = some L) (hb : B.h₀.get? L = none) (hp : P L = some o) (hd : o.data = .dict es ep) (x : PinFr B P l) : PinFr B P (env :: l) := fun e he => by
  rcases List.mem_cons.mp he with rfl | he
  · exact ⟨hk, L, o, es, ep, hf, hb, hp, hd⟩
  · exact x e he
theorem PinFr.nil {B : Basis} {P : Pins} : PinFr B P [] := fun _ h => by cases h
theorem PinFr.mem {B : Basis} {P : Pins} {l : List Env} (x : PinFr B P l) {b : Addr} (hb : b ∈ l.filterMap (·.frame)) : B.h₀.get? b = none ∧ ∃ o es ep, P b = some o ∧ o.data = .dict es ep := by
  obtain ⟨env, he, hf⟩ := List.mem_filterMap.mp hb
  obtain ⟨h1, L, o, es, ep, h2, h3, h4, h5⟩ := x env he
  rw [h2] at hf; cases hf
  exact ⟨h3, o, es, ep, h4, h5⟩
theorem NT.dict {h : Heap} {a : Addr} {o : Obj} {es ep} (ho : h.get? a = some o) (hd : o.data = .dict es ep) : NT h a := fun o' e i => by
  rw [ho] at e; cases e
  cases i with
  | tup _ d => rw [hd] at d; cases d
  | view _ d => rw [hd] at d; cases d

section
variable {prog : Program} {w : World} {B : Basis} {P : Pins} {σ : AH} {s s' : Shared} {h h' : Heap}
theorem PinFr.fun_ : ∀ {l : List Env}, PinFr B P l → Sees prog w B P σ h → h.FunFrames {} l
  | [], _, _ => trivial
  | env :: l, x, S => by
    obtain ⟨h1, L, o, es, ep, h2, h3, h4, h5⟩ := x env (.head _)
    exact ⟨h1, ⟨L, o, h2, by simp [Heap.get?], S.pin _ _ h4, fun vs q => by rw [h5] at q; cases q⟩, PinFr.fun_ (l := l) (fun e he => x e (.tail _ he)) S⟩
/-- what the frames' addresses are -/
structure SOK (B : Basis) (P : Pins) (σ : AH) (l : List Env) (S : List Addr) (h : Heap) : Prop where
  all : ∀ b ∈ S, σ.Fresh b ∧ B.h₀.get? b = none ∧ NT h b ∧ (b ∈ l.filterMap (·.frame) ∨ P b = none)
  inc : ∀ b ∈ l.filterMap (·.frame), b ∈ S
theorem Kept.stab {S : List Addr} (x : Kept S h h') (nt : ∀ b ∈ S, NT h b) : Stab h h' := fun b o e i => (x b o e).1 fun hm => nt b hm o e i
theorem Sees.kept {l : List Env} {S : List Addr} (C : Sees prog w B P σ h) (so : SOK B P σ l S h) (k : Kept S h h') : ∃ P', PUp S P P' ∧ Sees prog w B P' σ h' := by
  have st := k.stab fun b hb => (so.all b hb).2.2.1
  have hB : ∀ b o, B.h₀.get? b = some o → b ∉ S := fun b o e hm => by rw [(so.all b hm).2.1] at e; cases e
  have same : ∀ a, ¬ σ.Fresh a → h'.get? a = h.get? a := fun a ha => by
    obtain ⟨o, ho⟩ := C.get (.inr ha)
    rw [ho]
    exact (k a o ho).1 fun hm => ha (so.all a hm).1
  refine ⟨fun b => if b ∈ S then (if P b = none then none else h'.get? b) else P b, fun b => ⟨fun e => ?_, fun o e => ⟨fun hb => ?_, ?_⟩⟩, ?_⟩
  · dsimp only; rw [if_pos e]; split <;> first | rfl | exact e
  · dsimp only; rw [if_neg hb]; exact e
  · dsimp only
    by_cases hb : b ∈ S
    · rw [if_pos hb, if_neg (by rw [e]; intro q; cases q)]
      exact (k b o (C.pin b o e)).2
    · rw [if_neg hb]; exact ⟨o.slots, e⟩
  · refine ⟨fun b o e => ?_, fun b o e => ?_, fun b o e => ?_, fun a xs e => ?_, fun a d e => ?_, fun a d e => ?_, fun a S' e => ?_, C.dd, fun a k' e => ?_⟩
    · rw [if_neg (hB b o e)]; exact C.base b o e
    · by_cases hb : b ∈ S
      · rw [if_pos hb] at e
        split at e
        · cases e
        · exact e
      · rw [if_neg hb] at e
        exact (k b o (C.pin b o e)).1 hb
    · by_cases hb : b ∈ S
      · exact (so.all b hb).1
      · rw [if_neg hb] at e; exact C.apart b o e
    · exact (C.list a xs e).at (same a fun f => by rw [f.1] at e; cases e) st
    · exact (C.dI a d e).at (same a fun f => by rw [f.2.1] at e; cases e) st
    · exact (C.dP a d e).at (same a fun f => by rw [f.2.2.1] at e; cases e) st
    · exact (C.set a S' e).at (same a fun f => by rw [f.2.2.2.1] at e; cases e)
    · refine ⟨(C.tab a k' e).1.at (same a fun f => by rw [f.2.2.2.2] at e; cases e) ?_, (C.tab a k' e).2⟩
      obtain ⟨o, ho⟩ := Option.isSome_iff_exists.mp (C.tab a k' e).2
      have hp := C.pin _ _ (C.base _ _ ho)
      rw [hp]
      exact (k _ _ hp).1 (hB _ _ ho)
/-- a frame that lost its slots -/
theorem FrOK.up {env : Env} {ρ : Rho} {wr : Str → Bool} {S : List Addr} {P' : Pins} (x : FrOK B P σ env ρ wr h) (k : Kept S h h') (st : Stab h h') (u : PUp S P P') : FrOK B P' σ env ρ wr h' where
  kind := x.kind
  glob := x.glob
  bltn := x.bltn
  ns := by
    obtain ⟨m, ⟨o, es, ep, ho, r⟩, hm⟩ := x.ns
    obtain ⟨_, sl, ho'⟩ := k _ _ ho
    exact ⟨m, ⟨_, es, ep, ho', r⟩, fun y hy => (hm y hy).stab st⟩
  cell := fun y hy => by
    obtain ⟨a, v, ha, ⟨o, ho, hd⟩, hv⟩ := x.cell y hy
    obtain ⟨_, sl, ho'⟩ := k _ _ ho
    exact ⟨a, v, ha, ⟨_, ho', hd⟩, hv.stab st⟩
  freeL := ⟨x.freeL.1, (u _).1 x.freeL.2⟩
  freeC := fun y a ha => ⟨(x.freeC y a ha).1, fun hw => (u _).1 ((x.freeC y a ha).2 hw)⟩
  cellC := fun y a ha => by
    obtain ⟨v, o, ho, hd⟩ := x.cellC y a ha
    obtain ⟨_, sl, ho'⟩ := k _ _ ho
    exact ⟨v, _, ho', hd⟩
  inj := x.inj
end
end Mine

/-! P38 -/
namespace Mine
/-- an assertion error is on its way -/
def Thrown (prog : Program) (w : World) (B : Basis) (P : Pins) (σ : AH) (l : List Env) (e : Addr) (ctx fl : Value) (s s' : Shared) : Prop := ∃ s₁ S, Core prog w B P σ s₁ ∧ Stab s.heap s₁.heap ∧ SOK B P σ l S s₁.heap ∧ Kept S s₁.heap s'.heap ∧
  ExcT s₁.heap s'.heap e ctx fl ∧ s'.os = s₁.os ∧ s'.gens = s₁.gens ∧ s'.heap.FunFrames {} l
/-- what is handled while an assertion is tried -/
def HandOK (A : Around) (P : Pins) (ctx : Value) : Prop := (A.handled = none ∧ ctx = .none) ∨ ∃ e1 oh vh, A.handled = some (.ref e1) ∧ P e1 = some oh ∧ oh.data = .fields vh ∧ vh[2]? = some .none ∧ ctx = .ref e1
section
variable {prog : Program} {w : World} {A : Around} {B : Basis} {P : Pins} {σ : AH} {s s' : Shared} {E : Value → Shared → Prop} {l outer : List Env} {env : Env} {L e : Addr} {ctx fl : Value} {Q : Unit → Shared → Prop}

theorem Thrown.note (x : Thrown prog w B P σ (env :: outer) e ctx .none s s') (hfr : A.frames = some (env :: outer)) (hf : env.frame = some L) (h : ∀ s'', Thrown prog w B P σ (env :: outer) e ctx (rawInt L) s s'' → Q () s'') :
    wpAny (model prog w) A (noteFrame (.ref e) env) Q E s' := by
  obtain ⟨s₁, S, C, st, so, k, x, ho, hg, hl⟩ := x
  exact noteB hfr hl hf (fun b hb _ => so.inc b hb) k x fun h' k' x' hl' => h _ ⟨s₁, S, C, st, so, k', x', ho, hg, hl'⟩
theorem Thrown.flight (x : Thrown prog w B P σ l e ctx fl s s') (h : ∀ s'', Thrown prog w B P σ l e ctx .none s s'' → Q () s'') :
    wpAny (model prog w) A (setFlight (.ref e) none) Q E s' := by
  obtain ⟨s₁, S, C, st, so, k, x, ho, hg, hl⟩ := x
  exact flightN hl k x fun h' k' x' hl' => h _ ⟨s₁, S, C, st, so, k', x', ho, hg, hl'⟩
theorem Thrown.typeIs (x : Thrown prog w B P σ l e ctx fl s s') : s'.TypeIs (.ref e) "AssertionError" := by
  obtain ⟨s₁, S, C, st, so, k, ⟨_, oe, vs, _, _, _, he, hc, _⟩, _⟩ := x
  exact ⟨oe, he, hc⟩
theorem Thrown.ns (x : Thrown prog w B P σ l e ctx fl s s') : ∀ b o, B.h₀.get? b = some o → s'.heap.get? b = some o := fun b o hb => by
  obtain ⟨s₁, S, C, st, so, k, _⟩ := x
  exact (k b o (C.sees.keeps b o hb)).1 fun hm => by rw [(so.all b hm).2.1] at hb; cases hb
/-- what stands once it is caught -/
theorem Thrown.core (x : Thrown prog w B P σ l e ctx fl s s') : ∃ P', PUp (l.filterMap (·.frame)) P P' ∧ Core prog w B P' σ s' ∧ Stab s.heap s'.heap ∧ σ.Fresh e ∧ P' e = none ∧ ∃ oe vs, s'.heap.get? e = some oe ∧ oe.data = .fields vs ∧ vs[2]? = some ctx := by
  obtain ⟨s₁, S, C, st, so, k, ⟨hen, oe, vs, T, oT, ts, he, hc, hd, h1, h2, _⟩, ho, hg, hl⟩ := x
  obtain ⟨P', u, C'⟩ := C.sees.kept so k
  have hf := C.sees.fresh hen
  refine ⟨P', u.mono fun b o hb hm => ?_, ⟨C', ho.trans C.os, by rw [hg]; exact C.gens⟩, st.trans (k.stab fun b hb => (so.all b hb).2.2.1), hf.2, (u e).1 hf.1, oe, vs, he, hd, h2⟩
  rcases (so.all b hm).2.2.2 with h | h
  · exact h
  · rw [h] at hb; cases hb

theorem leave_new {c : Cx} {ρ : Rho} (S₁ : St prog w c ρ σ s') (hcl : c.env.frame = some c.env.locals) (hfr : c.A.frames = some (c.env :: outer)) (pf : PinFr c.B c.P outer) (st : Stab s.heap s'.heap) {h' : Heap} (x : Exc0 s'.heap h' e ctx) (ex : Ext s'.heap h')
    (h : ∀ s'', Thrown prog w c.B c.P σ outer e ctx .none s s'' → Q () s'') : wpAny (model prog w) c.A (leaving c.env (.ref e)) Q E { s' with heap := h' } := by
  have hk : c.env.scope.kind ≠ .module := by rw [S₁.fr.kind]; decide
  obtain ⟨m, hns, _⟩ := S₁.fr.ns
  have ff : s'.heap.FunFrames {} (c.env :: outer) := Heap.FunFrames.cons hk hcl hns (by simp [Heap.get?]) (pf.fun_ S₁.sees)
  have so : SOK c.B c.P σ outer (c.env.locals :: outer.filterMap (·.frame)) s'.heap := by
    refine ⟨fun b hb => ?_, fun b hb => .tail _ hb⟩
    rcases List.mem_cons.mp hb with rfl | hb
    · refine ⟨S₁.fr.freeL.1, ?_, NT.ns hns, .inr S₁.fr.freeL.2⟩
      cases q : c.B.h₀.get? c.env.locals with
      | none => rfl
      | some o => have := S₁.sees.base _ _ q; rw [S₁.fr.freeL.2] at this; cases this
    · obtain ⟨h1, o, es, ep, h2, h3⟩ := pf.mem hb
      exact ⟨S₁.sees.apart _ _ h2, h1, NT.dict (S₁.sees.pin _ _ h2) h3, .inl hb⟩
  have k₀ : Kept (c.env.locals :: outer.filterMap (·.frame)) s'.heap h' := .of_ext ex
  have hS : ∀ b ∈ (c.env :: outer).filterMap (·.frame), s'.heap.get? b ≠ none → b ∈ c.env.locals :: outer.filterMap (·.frame) := fun b hb _ => by
    rw [List.filterMap_cons, hcl] at hb; exact hb
  unfold leaving
  refine wpAny_bind (noteA (h₀ := s'.heap) hfr (k₀.funFrames ff) hcl hS k₀ x fun h₂ k₂ x₂ ff₂ => ?_)
  exact flightN (l := c.env :: outer) ff₂ k₂ x₂ fun h₃ k₃ x₃ ff₃ => h _ ⟨s', _, S₁.toCore, st, so, k₃, x₃, rfl, rfl, ff₃.2.2⟩

/-- the assertion fails -/
theorem assert_fails {c : Cx} {ρ : Rho} {test : Expr} {pos : Pos} {rest : List Stmt} (S : St prog w c ρ σ s) (ht : PT prog w c ρ σ test false) (hh : HandOK c.A c.P ctx) :
    wpAny (model prog w) c.A (execs (.Assert test none pos :: rest) c.env) (fun _ _ => False)
      (fun x s₂ => ∃ e s₃ h', x = .ref e ∧ St prog w c ρ σ s₃ ∧ Stab s.heap s₃.heap ∧ Exc0 s₃.heap h' e ctx ∧ Ext s₃.heap h' ∧ s₂ = { s₃ with heap := h' }) s := by
  refine wpAny_execs_cons ?_
  rcases hh with ⟨hh, rfl⟩ | ⟨e1, oh, vh, hh, hp, hd, h2, rfl⟩
  · refine wpAny_Assert hh (wpAny_mono (ht s S) (fun b s₁ ⟨eb, p⟩ => ?_) fun _ _ x => x.elim)
    subst eb
    rw [if_neg (by decide)]
    intro h' e hm
    obtain ⟨t, h3, h4, h5⟩ := hm.there
    exact ⟨e, s₁, h', rfl, p.st, p.stab, ⟨hm.new, _, _, h3, rfl, rfl, rfl, rfl⟩, hm.keeps, rfl⟩
  · rw [arm_exec_Assert]
    refine wpAny_bind (wpAny_standAt (wpAny_bind (wpAny_mono (ht s S) (fun b s₁ ⟨eb, p⟩ => ?_) fun _ _ x => x.elim)))
    subst eb
    simp only [Bool.false_eq_true, if_false]
    unfold assertFails valueOfOpt
    refine wpAny_bind (wpAny_pure ?_)
    refine wpAny_bind (wpAny_standAt ?_)
    refine wpAny_bind (wpAny_rule ?_)
    refine wpAny_bind (wpAny_newExc_plain plainExc_AssertionError fun h' e hm => ?_)
    obtain ⟨t, h3, h4, h5⟩ := hm.there
    have he1 := p.st.sees.pin _ _ hp
    have hne : e1 ≠ e := by rintro rfl; rw [hm.new] at he1; cases he1
    refine wpAny_raiseNew_some hh hne (s := { s₁ with heap := h' }) h3 rfl (by show 2 < 6; decide) (hm.keeps _ _ he1) hd h2 ?_
    refine ⟨e, s₁, _, rfl, p.st, p.stab, ⟨hm.new, _, _, Heap.get?_update_self _ h3 (Obj.isFreed_of_fields (Obj.data_mapFields rfl _)), rfl, Obj.data_mapFields rfl _, rfl, rfl⟩, fun b o hb => ?_, rfl⟩
    have hbe : b ≠ e := by rintro rfl; rw [hm.new] at hb; cases hb
    rw [Heap.get?_update_other _ _ (Ne.symm hbe)]
    exact hm.keeps _ _ hb

/-- a call of a def that raises -/
theorem call_raise (hroom : A.depth < recursionLimit) (hB : B.OK) {f : Str} {fa : Addr} {fd : FuncData} {body : List Stmt} (F : FnF B f fa fd body) {vals : List Value} {kw : List (Str × Value)}
    {binds : List (Str × Value)} {ρ' : Rho} (C : Core prog w B P σ s) (hbind : BindsTo s fd ⟨vals, kw⟩ binds) (hb : BRep s.heap binds ρ')
    (hn : (ρ'.map (·.1)).Nodup) (hks : ∀ x ∈ ρ'.map (·.1), fd.scope.names.lookup x = some .local ∨ fd.scope.names.lookup x = some .cell) (hfr : A.frames = some l) (pf : PinFr B P l)
    (hbody : ∀ L s₁, St prog w (calleeCx A B P fd L fa) ρ' σ s₁ → wpAny (model prog w) (calleeCx A B P fd L fa).A (execs body (calleeCx A B P fd L fa).env) (fun _ _ => False)
      (fun x s₂ => ∃ e s₃ h', x = .ref e ∧ St prog w (calleeCx A B P fd L fa) ρ' σ s₃ ∧ Stab s₁.heap s₃.heap ∧ Exc0 s₃.heap h' e ctx ∧ Ext s₃.heap h' ∧ s₂ = { s₃ with heap := h' }) s₁)
    (hf : noFree fd.scope = true) (hco : fd.scope.isCoroutine = false) (hgen : fd.scope.isGenerator = false) (hk : fd.scope.kind = .function) :
    wpAny (model prog w) A (call (.ref fa) vals kw) (fun _ _ => False) (fun x s' => ∃ e, x = .ref e ∧ Thrown prog w B P σ l e ctx .none s s') s := by
  refine wpAny_call ?_
  obtain ⟨o, ho, hd⟩ := F.obj
  have keeps := C.sees.keeps
  refine codeAny_call_function hroom (keeps _ _ ho) hd hco hgen F.body (F.code.keeps keeps) (hbind _ _ _ _ ?_)
  rw [F.clo]
  refine wpAny_newFunctionEnv_cells hk (fun x hx => ?_) (fun env he s₁ x => ?_)
  · have hx' : x.1 ∈ ρ'.map (·.1) := hb.names ▸ List.mem_map.mpr ⟨x, hx, rfl⟩
    rcases hks _ hx' with e | e
    · exact .inl e
    · exact .inr ⟨e, cellsFrom_has _ _ _ _ e⟩
  · have he : env = callEnvC fd s.heap.objs.size fa := he
    subst he
    refine ⟨(hB.nolimit.keeps keeps).keeps x.toInCall.keep, codeAny_func ?_⟩
    have st : Stab s.heap s₁.heap := Ext.stab x.toInCall.keep
    obtain ⟨h', tk, e, _⟩ := x.done
    have S₁ : St prog w (calleeCx A B P fd s.heap.objs.size fa) ρ' σ s₁ :=
      ⟨⟨C.sees.ext x.toInCall.keep, by rw [e]; exact C.os, by rw [e]; exact C.gens⟩, frame_of C hb (by rw [hb.names]; exact hn) hk hf F.glob F.bltn x⟩
    refine wpAny_mono (hbody s.heap.objs.size s₁ S₁) (fun fl s₂ h₂ => h₂.elim) fun x s₂ h₂ => ?_
    obtain ⟨e, s₃, h'', rfl, S₃, st₃, x0, ex, rfl⟩ := h₂
    refine leave_new (c := calleeCx A B P fd s.heap.objs.size fa) (outer := l) (s := s) S₃ rfl ?_ pf (st.trans st₃) x0 ex fun s'' th => ?_
    · show A.frames.map _ = _
      rw [hfr]; rfl
    · exact ⟨e, rfl, th⟩
end
end Mine

/-! P39 -/
namespace Mine
/-- all that was pinned still is, up to slots -/
def PLe (S : List Addr) (P P' : Pins) : Prop := ∀ b o, P b = some o → (b ∉ S → P' b = some o) ∧ ∃ sl, P' b = some { o with slots := sl }
theorem PLe.trans {S : List Addr} {P P₁ P₂ : Pins} (x : PLe S P P₁) (y : PLe S P₁ P₂) : PLe S P P₂ := fun b o e => by
  obtain ⟨h1, sl, h2⟩ := x b o e
  refine ⟨fun hb => (y b o (h1 hb)).1 hb, ?_⟩
  obtain ⟨_, sl', h3⟩ := y b _ h2
  exact ⟨sl', h3⟩
theorem PLe.sub {S : List Addr} {P P' : Pins} (h : ∀ b o, P b = some o → P' b = some o) : PLe S P P' := fun b o e => ⟨fun _ => h b o e, o.slots, h b o e⟩
theorem PUp.le {S : List Addr} {P P' : Pins} (x : PUp S P P') : PLe S P P' := fun b o e => (x b).2 o e
theorem PLe.mono {S T : List Addr} {P P' : Pins} (x : PLe S P P') (h : ∀ b o, P b = some o → b ∈ S → b ∈ T) : PLe T P P' := fun b o e => ⟨fun hb => (x b o e).1 fun hm => hb (h b o e hm), (x b o e).2⟩
/-- only these pins -/
def cutP (P P' : Pins) : Pins := fun b => if P b = none then none else P' b
theorem cutP_sub {P P' : Pins} : ∀ b o, cutP P P' b = some o → P' b = some o := fun b o e => by
  unfold cutP at e
  split at e
  · cases e
  · exact e
theorem cutP_none {P P' : Pins} {b : Addr} (h : P b = none) : cutP P P' b = none := by unfold cutP; rw [if_pos h]
theorem PLe.cut {S : List Addr} {P P' : Pins} (x : PLe S P P') : PUp S P (cutP P P') := fun b => ⟨cutP_none, fun o e => by
  have : cutP P P' b = P' b := by unfold cutP; rw [if_neg (by rw [e]; exact fun q => by cases q)]
  rw [this]; exact x b o e⟩
section
variable {prog : Program} {w : World} {c : Cx} {ρ : Rho} {σ : AH} {s s' : Shared} {P₁ : Pins} {S : List Addr} {outer : List Env}
theorem Core.cut {B : Basis} {P P' : Pins} (C : Core prog w B P' σ s) (hb : ∀ b o, B.h₀.get? b = some o → P b = some o) : Core prog w B (cutP P P') σ s :=
  ⟨C.sees.unpin (fun b o e => by have := C.sees.base b o e; unfold cutP; rw [if_neg (by rw [hb b o e]; exact fun q => by cases q)]; exact this) cutP_sub, C.os, C.gens⟩
/-- a frame whose slots others wrote -/
theorem FrOK.upF {B : Basis} {P P' : Pins} {env : Env} {wr : Str → Bool} {h h' : Heap} (x : FrOK B P σ env ρ wr h) (k : ∀ a, isFr env a → ∀ o, h.get? a = some o → ∃ sl, h'.get? a = some { o with slots := sl }) (st : Stab h h') (u : ∀ b, P b = none → P' b = none) : FrOK B P' σ env ρ wr h' where
  kind := x.kind
  glob := x.glob
  bltn := x.bltn
  ns := by
    obtain ⟨m, ⟨o, es, ep, ho, r⟩, hm⟩ := x.ns
    obtain ⟨sl, ho'⟩ := k _ (.inl rfl) _ ho
    exact ⟨m, ⟨_, es, ep, ho', r⟩, fun y hy => (hm y hy).stab st⟩
  cell := fun y hy => by
    obtain ⟨a, v, ha, ⟨o, ho, hd⟩, hv⟩ := x.cell y hy
    obtain ⟨sl, ho'⟩ := k _ (.inr ⟨y, ha⟩) _ ho
    exact ⟨a, v, ha, ⟨_, ho', hd⟩, hv.stab st⟩
  freeL := ⟨x.freeL.1, u _ x.freeL.2⟩
  freeC := fun y a ha => ⟨(x.freeC y a ha).1, fun hw => u _ ((x.freeC y a ha).2 hw)⟩
  cellC := fun y a ha => by
    obtain ⟨v, o, ho, hd⟩ := x.cellC y a ha
    obtain ⟨sl, ho'⟩ := k _ (.inr ⟨y, ha⟩) _ ho
    exact ⟨v, _, ho', hd⟩
  inj := x.inj
/-- back in a frame out of which a call went -/
theorem St.back2 (S₁ : St prog w c ρ σ s) (hcl : c.env.frame = some c.env.locals) (C : Core prog w c.B P₁ σ s') (u : PLe ((c.env :: outer).filterMap (·.frame)) (pinMore c.P s.heap (isFr c.env)) P₁) (st : Stab s.heap s'.heap) :
    PUp (outer.filterMap (·.frame)) c.P (cutP c.P P₁) ∧ St prog w (c.pinned (cutP c.P P₁)) ρ σ s' := by
  have sub := pinMore_sub S₁.sees (X := isFr c.env)
  refine ⟨PLe.cut (((PLe.sub sub).trans u).mono fun b o hb hm => ?_), C.cut S₁.sees.base, S₁.fr.upF (fun a ha o ho => ?_) st fun b hb => cutP_none hb⟩
  · rw [List.filterMap_cons, hcl] at hm
    rcases List.mem_cons.mp hm with rfl | hm
    · rw [S₁.fr.freeL.2] at hb; cases hb
    · exact hm
  · have hp : pinMore c.P s.heap (isFr c.env) a = some o := by unfold pinMore; rw [if_pos ha]; exact ho
    obtain ⟨_, sl, h3⟩ := u _ _ hp
    exact ⟨sl, C.sees.pin _ _ h3⟩
/-- pinning a record -/
theorem St.pinRec (S₁ : St prog w c ρ σ s) {e : Addr} {oe : Obj} {vs : Array Value} (he : s.heap.get? e = some oe) (hd : oe.data = .fields vs) (hf : σ.Fresh e) : St prog w (c.pinned (pinMore c.P s.heap (· = e))) ρ σ s := by
  refine ⟨⟨S₁.sees.pinMore (X := (· = e)) (fun a ha => ha ▸ hf), S₁.os, S₁.gens⟩, S₁.fr.repin ?_ fun y a ha _ hp => ?_⟩
  · show pinMore c.P s.heap (· = e) c.env.locals = none
    unfold pinMore
    rw [if_neg fun q => ?_]
    · exact S₁.fr.freeL.2
    · obtain ⟨m, ⟨o, es, ep, ho, hd', r⟩, hm⟩ := S₁.fr.ns
      rw [q, he] at ho; cases ho
      rw [hd] at hd'; cases hd'
  · show pinMore c.P s.heap (· = e) a = none
    unfold pinMore
    rw [if_neg fun q => ?_]
    · exact hp
    · obtain ⟨v, o, ho, hd'⟩ := S₁.fr.cellC y a ha
      rw [q, he] at ho; cases ho
      rw [hd] at hd'; cases hd'
/-- the frame of a context, pinned -/
theorem St.pinFr (S₁ : St prog w c ρ σ s) (hcl : c.env.frame = some c.env.locals) (pf : PinFr c.B c.P outer) : PinFr c.B (pinMore c.P s.heap (isFr c.env)) (c.env :: outer) := by
  obtain ⟨m, ⟨o, es, ep, ho, hd', r⟩, hm⟩ := S₁.fr.ns
  refine PinFr.cons (by rw [S₁.fr.kind]; decide) hcl ?_ (o := o) ?_ hd' (pf.sub (pinMore_sub S₁.sees))
  · cases q : c.B.h₀.get? c.env.locals with
    | none => rfl
    | some o => have := S₁.sees.base _ _ q; rw [S₁.fr.freeL.2] at this; cases this
  · unfold pinMore; rw [if_pos (.inl rfl)]; exact ho
/-- a call of a def of the top, to whatever end -/
theorem call_at {f : Str} {fa : Addr} {fd : FuncData} {body : List Stmt} {p pos : Pos} {e : Expr} {es : List Expr} {avs : List AV} {Q E : Value → Shared → Prop} (hB : c.B.OK) (F : FnF c.B f fa fd body)
    (hes : PEs prog w c ρ σ (e :: es) avs) (S₀ : St prog w c ρ σ s)
    (h : ∀ vals s₁, St prog w c ρ σ s₁ → Stab s.heap s₁.heap → VRs s₁.heap vals avs → wpAny (model prog w) c.A (call (.ref fa) vals []) Q E s₁)
    (hg : c.env.kindOf f = some .globalImplicit := by rfl) (hd' : (f == ("__debug__" : Str)) = false := by decide) : wpAny (model prog w) c.A (eval (.Call (.Name f p) (e :: es) [] pos) c.env) Q E s := by
  refine wpAny_Call_Name_kw (wpAny_mono (PE.global hB F.mg hg hd' s S₀) (fun u s₁ ⟨hu, p₁⟩ => ?_) fun _ _ e => e.elim)
  cases hu.val_inv
  obtain ⟨o, ho, hd⟩ := F.obj
  refine callWith_function_kw (o := o) (fd := fd) ?_
  have he : starEach (e :: es) c.env = (false, eval e c.env) :: starEach es c.env := by cases hes with | cons _ he _ => exact he es
  rw [he]
  show wpAny _ _ (evalArgs (.ref fa) true ((false, eval e c.env) :: backTo pos (starEach es c.env)) []) _ _ s₁
  refine evalArgs_kw rfl ?_
  have := PEs.run (pos := pos) hes p₁.st (R := fun vs s₂ => St prog w c ρ σ s₂ ∧ Pv prog w c ρ σ s₁ s₂ ∧ VRs s₂.heap vs avs) fun vs s₂ S₂ p₂ hvs => ⟨S₂, p₂, hvs⟩
  rw [he] at this
  refine wpAny_mono this (fun vs s₂ ⟨S₂, p₂, hvs⟩ => wpAny_evalAll_nil ⟨⟨S₂.sees.keeps _ _ ho, hd⟩, ?_⟩) fun _ _ e => e.elim
  exact h vs s₂ S₂ (p₁.stab.trans p₂.stab) hvs
/-- an item of a dict of ints, whatever is handled -/
theorem PE.subD {value slice : Expr} {pos : Pos} {a : Addr} {d : DI} {k : Int} (h1 : PE prog w c ρ σ value (.ref a)) (h2 : PE prog w c ρ σ slice (.int k)) (hl : σ.dI a = some d) (hk : k ∈ d.keys)
    (hs : ∀ o i, subscripted slice false o i = operate [o, i] (getItem o i) := by intro _ _; rfl) : PE prog w c ρ σ (.Subscript value slice pos) (d.val k) := fun s S => by
  refine Subscript_ (PE.two S h1 h2 fun u v s₂ S₂ p hu hv => ?_)
  cases hu.ref_inv
  obtain ⟨t, rfl⟩ := hv.int_inv
  obtain ⟨kvs, hd, hks, hvs⟩ := S₂.sees.dI _ _ hl
  rw [← hks] at hk
  obtain ⟨x, h1, h2⟩ := valueAt_mem hk
  exact tail_any hd.dictOf.typeIs slot_dict_getitem.lookup (wpAny_getItem_of (knd := intKind prog w) (intKind_is prog w k t) hd.dictOf.mapOf h1 ⟨hvs _ h2, p.trans (S₂.pv (keeps_pu keeps_toks))⟩) (hs _ _)
end
end Mine

/-! P40 -/
namespace Mine
theorem PT.isF {prog : Program} {w : World} {c : Cx} {ρ : Rho} {σ : AH} {t : Expr} {b : Bool} (h : PT prog w c ρ σ t b) (e : b = false) : PT prog w c ρ σ t false := e ▸ h
section
variable {prog : Program} {w : World} {A : Around} {B : Basis} {P : Pins} {σ : AH} {G : Gr} {a : Nm} {f : Int → Int} {cls : Int → List Int} {s : Shared} {l outer : List Env} {ctx : Value}
/-- change_color refuses -/
theorem cc_fails {fc : Addr} {cdc : Value} {u X Y : Int} {vals : List Value} (Fc : Fn B 4 fc cdc .none) (hroom : A.depth < recursionLimit) (hB : B.OK) (ok : a.OK G) (S : Good G a σ f cls) (hu : u ∈ G.V) (hbad : f u ≠ X ∨ X = Y)
    (C : Core prog w B P σ s) (hv : VRs s.heap vals [.int u, .int X, .int Y, .ref a.N, .ref a.H, .ref a.F, .ref a.C, .ref a.L]) (hfr : A.frames = some l) (pf : PinFr B P l) (hh : HandOK A P ctx) :
    wpAny (model prog w) A (call (.ref fc) vals []) (fun _ _ => False) (fun x s' => ∃ e, x = .ref e ∧ Thrown prog w B P σ l e ctx .none s s') s := by
  obtain ⟨pm, doc, F⟩ := Fc.fn
  obtain ⟨v1, _, rfl, r1, hv⟩ := hv.invc
  obtain ⟨v2, _, rfl, r2, hv⟩ := hv.invc
  obtain ⟨v3, _, rfl, r3, hv⟩ := hv.invc
  obtain ⟨v4, _, rfl, r4, hv⟩ := hv.invc
  obtain ⟨v5, _, rfl, r5, hv⟩ := hv.invc
  obtain ⟨v6, _, rfl, r6, hv⟩ := hv.invc
  obtain ⟨v7, _, rfl, r7, hv⟩ := hv.invc
  obtain ⟨v8, _, rfl, r8, hv⟩ := hv.invc
  cases hv.inv0
  obtain ⟨d, h1, h2, h3⟩ := S.tabs.F
  refine call_raise (ρ' := ccρ a u X Y) hroom hB F C (.of_eq rfl) (.cons r1 (.cons r2 (.cons r3 (.cons r4 (.cons r5 (.cons r6 (.cons r7 (.cons r8 .nil)))))))) (of_decide_eq_true rfl) (fun x hx => ?_) hfr pf (fun L s₁ S₁ => ?_) rfl rfl rfl rfl
  · have := List.all_eq_true.mp (show (((ccρ a u X Y).map (·.1)).all fun x => (stScope (stAt 4)).names.lookup x == some .local || (stScope (stAt 4)).names.lookup x == some .cell) = true from rfl) x hx
    show (stScope (stAt 4)).names.lookup x = _ ∨ (stScope (stAt 4)).names.lookup x = _
    simpa using this
  · have hit : d.val u = .int (f u) := h3 u hu
    refine assert_fails S₁ (PT.isF (PT.bool (PA.and_cons (PT.cmp ((PE.subD (PE.name rfl) (PE.name rfl) h1 (by rw [h2]; exact (ok.vf u).mpr hu)).as hit) (PE.name rfl) CP.eq) fun _ => PA.and_cons (PT.cmp (PE.name rfl) (PE.name rfl) CP.ne) fun _ => PA.and_nil)) ?_) hh
    rcases hbad with h | h
    · simp [h]
    · simp [h]
end
end Mine

/-! P41 -/
namespace Mine
section
variable {prog : Program} {w : World} {A : Around} {B : Basis} {P : Pins} {σ : AH} {G : Gr} {a : Nm} {f : Int → Int} {cls : Int → List Int} {s : Shared} {outer : List Env}
/-- the arguments of a call of change_color in _law_held -/
theorem held_args {c : Cx} {u X Y : Int} {es : List Expr} (hv : ∀ x ∈ (["u", "X", "Y", "N", "H", "F", "C", "L"] : List Str), isVar c.env x = true) : True := trivial

theorem held_body {m : Nat} {pm cdh doc : Value} {L fh fc : Addr} {cdc : Value} {u X Y : Int} (hA : Rm (calleeCx A B P (FD 11 pm cdh doc .none .none) L fh).A (m + 1)) (hB : B.OK) (Fc : Fn B 4 fc cdc .none) (bae : B.mg "AssertionError" = none ∧ B.mb "AssertionError" = some (.type "AssertionError"))
    (ok : a.OK G) (S : Good G a σ f cls) (hu : u ∈ G.V) (hX : f u = X) (hXY : X ≠ Y) (hfr : A.frames = some outer) (pf : PinFr B P outer)
    (S₀ : St prog w (calleeCx A B P (FD 11 pm cdh doc .none .none) L fh) (ccρ a u X Y) σ s) :
    wpAny (model prog w) (calleeCx A B P (FD 11 pm cdh doc .none .none) L fh).A (execs (stBody (stAt 11)) (calleeCx A B P (FD 11 pm cdh doc .none .none) L fh).env)
      (fun fl s' => fl = .ret (.bool true) ∧ ∃ P', PUp (outer.filterMap (·.frame)) P P' ∧ Core prog w B P' σ s' ∧ Stab s.heap s'.heap) NoE s := by
  obtain ⟨pmc, docc, F4⟩ := Fc.fn
  obtain ⟨c, hc⟩ : ∃ c, c = calleeCx A B P (FD 11 pm cdh doc .none .none) L fh := ⟨_, rfl⟩
  have hroom : (calleeCx A B P (FD 11 pm cdh doc .none .none) L fh).A.depth < recursionLimit := hA.room
  have hfrA : (calleeCx A B P (FD 11 pm cdh doc .none .none) L fh).A.frames = some ((calleeCx A B P (FD 11 pm cdh doc .none .none) L fh).env :: outer) := by
    show A.frames.map _ = _
    rw [hfr]; rfl
  refine wpAny_execs_cons (wpAny_Try_except (wpAny_execs_cons (wpAny_Expr_any (call_at (c := calleeCx A B P (FD 11 pm cdh doc .none .none) L fh) hB F4
    (.cons (PE.name rfl) (fun _ => rfl) (.cons (PE.name rfl) (fun _ => rfl) (.cons (PE.name rfl) (fun _ => rfl) (.cons (PE.name rfl) (fun _ => rfl) (.cons (PE.name rfl) (fun _ => rfl) (.cons (PE.name rfl) (fun _ => rfl) (.cons (PE.name rfl) (fun _ => rfl) (.cons (PE.name rfl) (fun _ => rfl) .nil))))))))
    S₀ fun vals s₁ S₁ st₁ hv => ?_))))
  refine wpAny_mono (cc_fails Fc hroom hB ok S hu (.inl (by rw [hX]; exact hXY)) S₁.out hv hfrA (S₁.pinFr rfl pf) (.inl ⟨hA.1, rfl⟩)) (fun _ _ h => h.elim) fun x s₂ ⟨e, ex, th⟩ => ?_
  subst ex
  refine th.note hfrA rfl fun s₃ th => th.flight fun s₄ th => ?_
  refine wpAny_handleBy_builtin (T := "AssertionError") (X := "AssertionError") (b := true) F.isExc_AssertionError F.notTuple_AssertionError F.self_AssertionError ?_
  refine Calls.Name_function_global S₁.fr.kind rfl (Calls.loadGlobal_builtin (S₁.fr.glob ▸ hB.g.keeps th.ns) bae.1 (S₁.fr.bltn ▸ hB.b.keeps th.ns) bae.2 ⟨rfl, th.typeIs, ?_⟩)
  rw [if_pos rfl]
  refine th.flight fun s₅ th => ?_
  obtain ⟨P₁, u₁, C₁, st₂, fe, pe, oe, vs, he, hd, h2⟩ := th.core
  obtain ⟨u₂, S₂⟩ := S₁.back2 (outer := outer) rfl C₁ u₁.le st₂
  have S₃ : St prog w (calleeCx A B (pinMore (cutP P P₁) s₅.heap (· = e)) (FD 11 pm cdh doc .none .none) L fh) (ccρ a u X Y) σ s₅ := S₂.pinRec he hd fe
  have hpe : pinMore (cutP P P₁) s₅.heap (· = e) e = some oe := by unfold pinMore; rw [if_pos rfl]; exact he
  have pf₃ : PinFr B (pinMore (cutP P P₁) s₅.heap (· = e)) outer := (pf.up u₂).sub (pinMore_sub S₂.sees)
  have sub₃ : ∀ b o, cutP P P₁ b = some o → pinMore (cutP P P₁) s₅.heap (· = e) b = some o := pinMore_sub S₂.sees
  generalize pinMore (cutP P P₁) s₅.heap (· = e) = P₃ at *
  have S₃' : St prog w { (calleeCx A B P₃ (FD 11 pm cdh doc .none .none) L fh) with A := (calleeCx A B P (FD 11 pm cdh doc .none .none) L fh).A.mark (some (.ref e)) } (ccρ a u X Y) σ s₅ := ⟨S₃.toCore, S₃.fr⟩
  refine wpAny_execs_cons (wpAny_Try_except (wpAny_execs_cons (wpAny_Expr_any (call_at (c := { (calleeCx A B P₃ (FD 11 pm cdh doc .none .none) L fh) with A := (calleeCx A B P (FD 11 pm cdh doc .none .none) L fh).A.mark (some (.ref e)) }) hB F4
    (.cons (PE.name rfl) (fun _ => rfl) (.cons (PE.name rfl) (fun _ => rfl) (.cons (PE.name rfl) (fun _ => rfl) (.cons (PE.name rfl) (fun _ => rfl) (.cons (PE.name rfl) (fun _ => rfl) (.cons (PE.name rfl) (fun _ => rfl) (.cons (PE.name rfl) (fun _ => rfl) (.cons (PE.name rfl) (fun _ => rfl) .nil))))))))
    S₃' fun vals s₆ S₆ st₆ hv => ?_))))
  refine wpAny_mono (cc_fails (ctx := .ref e) Fc hroom hB ok S hu (.inr rfl) S₆.out hv hfrA (S₆.pinFr rfl pf₃) (.inr ⟨e, oe, vs, rfl, pinMore_sub S₆.sees _ _ hpe, hd, h2, rfl⟩)) (fun _ _ h => h.elim) fun x s₇ ⟨e', ex, th⟩ => ?_
  subst ex
  refine th.note hfrA rfl fun s₈ th => th.flight fun s₉ th => ?_
  refine wpAny_handleBy_builtin (T := "AssertionError") (X := "AssertionError") (b := true) F.isExc_AssertionError F.notTuple_AssertionError F.self_AssertionError ?_
  refine Calls.Name_function_global S₁.fr.kind rfl (Calls.loadGlobal_builtin (S₁.fr.glob ▸ hB.g.keeps th.ns) bae.1 (S₁.fr.bltn ▸ hB.b.keeps th.ns) bae.2 ⟨rfl, th.typeIs, ?_⟩)
  rw [if_pos rfl]
  refine th.flight fun s₁₀ th => ?_
  obtain ⟨P₄, u₄, C₄, st₄, _⟩ := th.core
  obtain ⟨u₅, S₅⟩ := S₆.back2 (outer := outer) rfl C₄ u₄.le st₄
  refine wpAny_execs_cons (wpAny_Return_some (wpAny_pure ⟨rfl, cutP P (cutP P₃ P₄), PLe.cut ((u₂.le.trans (PLe.sub sub₃)).trans u₅.le), ?_, ?_⟩))
  · exact S₅.toCore.cut S₀.sees.base
  · exact ((st₁.trans st₂).trans st₆).trans st₄
end
end Mine

/-! P42 -/
namespace Mine
section
variable {prog : Program} {w : World} {c : Cx} {ρ : Rho} {σ : AH} {G : Gr} {a : Nm} {f : Int → Int} {cls : Int → List Int}
/-- _law_held(u, X, Y, N, H, F, C, L), called from the law's own frame -/
theorem held_ev {m : Nat} {fh fc : Addr} {cdh cdc : Value} {u X Y : Int} {e : Expr} {es : List Expr} {p pos : Pos} {Q : AV → AH → Prop} (hA : Rm c.A (m + 2)) (hB : c.B.OK) (Fh : Fn c.B 11 fh cdh .none) (Fc : Fn c.B 4 fc cdc .none)
    (bae : c.B.mg "AssertionError" = none ∧ c.B.mb "AssertionError" = some (.type "AssertionError")) (ok : a.OK G) (S : Good G a σ f cls) (hu : u ∈ G.V) (hX : f u = X) (hXY : X ≠ Y) (hcl : c.env.frame = some c.env.locals) (hfr : c.A.frames = some [c.env])
    (hes : PEs prog w c ρ σ (e :: es) [.int u, .int X, .int Y, .ref a.N, .ref a.H, .ref a.F, .ref a.C, .ref a.L]) (q : Q (.bool true) σ)
    (hg : c.env.kindOf (stName (stAt 11)) = some .globalImplicit := by rfl) : EV prog w c ρ σ (.Call (.Name (stName (stAt 11)) p) (e :: es) [] pos) Q := fun s S₀ => by
  obtain ⟨pm, doc, F⟩ := Fh.fn
  refine call_at hB F hes S₀ (fun vals s₁ S₁ st₁ hv => ?_) hg (by decide +kernel)
  obtain ⟨v1, _, rfl, r1, hv⟩ := hv.invc
  obtain ⟨v2, _, rfl, r2, hv⟩ := hv.invc
  obtain ⟨v3, _, rfl, r3, hv⟩ := hv.invc
  obtain ⟨v4, _, rfl, r4, hv⟩ := hv.invc
  obtain ⟨v5, _, rfl, r5, hv⟩ := hv.invc
  obtain ⟨v6, _, rfl, r6, hv⟩ := hv.invc
  obtain ⟨v7, _, rfl, r7, hv⟩ := hv.invc
  obtain ⟨v8, _, rfl, r8, hv⟩ := hv.invc
  cases hv.inv0
  have C := S₁.out
  have pf := S₁.pinFr (outer := []) hcl PinFr.nil
  have hb : BRep s₁.heap _ (ccρ a u X Y) := .cons r1 (.cons r2 (.cons r3 (.cons r4 (.cons r5 (.cons r6 (.cons r7 (.cons r8 .nil)))))))
  have hks : ∀ x ∈ (ccρ a u X Y).map (·.1), (stScope (stAt 11)).names.lookup x = some .local ∨ (stScope (stAt 11)).names.lookup x = some .cell := fun x hx => by
    have := List.all_eq_true.mp (show (((ccρ a u X Y).map (·.1)).all fun x => (stScope (stAt 11)).names.lookup x == some .local || (stScope (stAt 11)).names.lookup x == some .cell) = true from rfl) x hx
    simpa using this
  refine wpAny_call ?_
  obtain ⟨o, ho, hd⟩ := F.obj
  have keeps := C.sees.keeps
  refine codeAny_call_function hA.room (keeps _ _ ho) hd rfl rfl F.body (F.code.keeps keeps) ((BindsTo.of_eq rfl) _ _ _ _ ?_)
  rw [F.clo]
  refine wpAny_newFunctionEnv_cells rfl (fun x hx => ?_) (fun env he s₂ x => ?_)
  · have hx' : x.1 ∈ (ccρ a u X Y).map (·.1) := hb.names ▸ List.mem_map.mpr ⟨x, hx, rfl⟩
    rcases hks _ hx' with e | e
    · exact .inl e
    · exact .inr ⟨e, cellsFrom_has _ _ _ _ e⟩
  · have he : env = callEnvC (FD 11 pm cdh doc .none .none) s₁.heap.objs.size fh := he
    subst he
    refine ⟨(hB.nolimit.keeps keeps).keeps x.toInCall.keep, codeAny_func ?_⟩
    have st : Stab s₁.heap s₂.heap := Ext.stab x.toInCall.keep
    obtain ⟨h', tk, e, _⟩ := x.done
    have S₂ : St prog w (calleeCx c.A c.B (pinMore c.P s₁.heap (isFr c.env)) (FD 11 pm cdh doc .none .none) s₁.heap.objs.size fh) (ccρ a u X Y) σ s₂ :=
      ⟨⟨C.sees.ext x.toInCall.keep, by rw [e]; exact C.os, by rw [e]; exact C.gens⟩, frame_of C hb (by rw [hb.names]; exact of_decide_eq_true rfl) rfl rfl F.glob F.bltn x⟩
    refine wpAny_mono (held_body (outer := [c.env]) (m := m) hA.deeper hB Fc bae ok S hu hX hXY hfr pf S₂) (fun fl s₃ h₃ => ?_) fun _ _ e => e.elim
    obtain ⟨rfl, P', u', C', st'⟩ := h₃
    have stt : Stab s₁.heap s₃.heap := st.trans st'
    obtain ⟨u₂, S₃⟩ := S₁.back2 (outer := []) hcl C' u'.le stt
    refine ⟨.bool true, σ, .bool _, ⟨⟨?_, C'.os, C'.gens⟩, ?_⟩, st₁.trans stt, q⟩
    · exact C'.sees.unpin S₁.sees.base fun b o hb => cutP_sub b o (((u₂ b).2 o hb).1 (by simp))
    · exact S₃.fr.repin S₁.fr.freeL.2 fun y b hb hw hp => (S₁.fr.freeC y b hb).2 hw
end
end Mine

/-! P43 -/
namespace Mine
def forBody : Stmt → List Stmt | .For _ _ b .. => b | _ => []
def ifBody : Stmt → List Stmt | .If _ b .. => b | _ => []
/-- the body of a round -/
def roundB : List Stmt := ifBody (((forBody (((stBody (stAt 12))[15]?).getD (.Pass default)))[1]?).getD (.Pass default))
/-- the law's tables, N and H apart, whatever the colouring -/
structure RSw (k : Nat) (VF : List Int) (aF aC aL : Addr) (dC dL : DI) (lc ll : Int → Addr) (G : Gr) (f : Int → Int) (cls : Int → List Int) (σ : AH) : Prop where
  ok : G.OK
  gl : GL G σ aL dL ll
  cl : CL σ aC dC lc cls
  fl : ∃ d, σ.dI aF = some d ∧ d.keys = VF ∧ ∀ v ∈ G.V, d.val v = .int (f v)
  vf : ∀ v, v ∈ VF ↔ v ∈ G.V
  fK : ∀ v ∈ G.V, f v ∈ dC.keys
  mem : ∀ c ∈ dC.keys, ∀ v, v ∈ cls c ↔ v ∈ G.V ∧ f v = c
  nodup : ∀ c ∈ dC.keys, (cls c).Nodup
  deg : ∀ v ∈ G.V, (G.adj v).length ≤ k - 1
section
variable {k : Nat} {VF : List Int} {aF aC aL aN aH : Addr} {dC dL : DI} {dN dH : DP} {lc ll : Int → Addr} {G : Gr} {f : Int → Int} {cls : Int → List Int} {σ σ' : AH}
theorem RSw.off (x : RSw k VF aF aC aL dC dL lc ll G f cls σ) (o : Off σ.Fresh σ σ') : RSw k VF aF aC aL dC dL lc ll G f cls σ' :=
  { x with gl := x.gl.off o, cl := x.cl.off o, fl := by obtain ⟨d, h1, h2⟩ := x.fl; exact ⟨d, o.dI' h1, h2⟩ }
theorem RSw.nmOK (x : RSw k VF aF aC aL dC dL lc ll G f cls σ) (ap : Apart G.V VF aF aC aL dC lc ll) (hnh : aN ≠ aH) :
    (nmOf VF aF aC aL aN aH dC dL lc ll G.V).OK G where
  cv := x.cl.val
  lk := x.gl.keys
  lv := x.gl.val
  lcinj := ap.lcinj
  kn := fun v c => mem_pairs
  kh := fun c e => mem_pairs
  vf := x.vf
  knodup := x.cl.nodup
  fc := ap.fc
  fl := ap.fl
  nh := hnh
  lcll := ap.lcll
  zf := Nat.le_trans ap.zf (by decide)
  zk := Nat.le_trans ap.zk (by decide)
  zn := by show (G.V.flatMap _).length ≤ _; rw [pairs_length]; exact Nat.le_trans (Nat.mul_le_mul ap.zv ap.zk) (by decide)
  zh := by show (dC.keys.flatMap _).length ≤ _; rw [pairs_length]; exact Nat.le_trans (Nat.mul_le_mul ap.zk ap.zk) (by decide)
  cm := x.cl.nm
  lm := x.gl.nm
theorem RSw.good (x : RSw k VF aF aC aL dC dL lc ll G f cls σ) (ap : Apart G.V VF aF aC aL dC lc ll)
    (nl : NL G dC.keys σ aN (nF G f) dN) (hH : σ.dP aH = some dH) (kH : dH.keys = dC.keys.flatMap (fun x => dC.keys.map fun y => (x, y))) (vH : ∀ c ∈ dC.keys, ∀ e ∈ dC.keys, dH.val c e = .int (hc G.V f (nF G f) c e)) :
    Good G (nmOf VF aF aC aL aN aH dC dL lc ll G.V) σ f cls where
  tabs := {
    F := x.fl
    C := x.cl.at_
    L := x.gl.at_
    N := ⟨dN, nl.at_, nl.keys, nl.val⟩
    H := ⟨dH, hH, kH, vH⟩
    cls := fun c hc => ⟨x.cl.list c hc, Nat.le_trans (length_le_of_nodup (x.nodup c hc) fun v hv => ((x.mem c hc v).mp hv).1) (Nat.le_trans ap.zv (by decide))⟩
    adj := x.gl.list }
  fK := x.fK
  mem := x.mem
  nodup := x.nodup
theorem RSw.back {f' : Int → Int} {cls' : Int → List Int} (x : RSw k VF aF aC aL dC dL lc ll G f cls σ) (S : Good G (nmOf VF aF aC aL aN aH dC dL lc ll G.V) σ' f' cls') : RSw k VF aF aC aL dC dL lc ll G f' cls' σ' where
  ok := x.ok
  gl := ⟨S.tabs.L, x.gl.keys, x.gl.val, S.tabs.adj, x.gl.nm⟩
  cl := ⟨S.tabs.C, x.cl.nodup, x.cl.val, fun c hc => (S.tabs.cls c hc).1, x.cl.nm⟩
  fl := S.tabs.F
  vf := x.vf
  fK := S.fK
  mem := S.mem
  nodup := S.nodup
  deg := x.deg
end
/-- what the rounds may change -/
def RX (σ₀ : AH) (V : List Int) (aF : Addr) (dC : DI) (lc ll : Int → Addr) (b : Addr) : Prop := b = aF ∨ (∃ c ∈ dC.keys, b = lc c) ∨ (∃ v ∈ V, b = ll v) ∨ σ₀.Fresh b
/-- what stands through all rounds -/
structure RC (σ₀ : AH) (D M aK Pp t2 t3 q2 q3 aF aC aL : Addr) (dC dL : DI) (lc ll : Int → Addr) (V VF : List Int) (nm : Nat → Int) (ns : List Int) (k s : Nat) : Prop where
  k2 : 2 ≤ k
  k4 : k ≤ 4
  s2 : 2 ≤ s
  s3 : s ≤ 3
  hV : V = (List.range (k * s)).map nm
  inj : ∀ i < k * s, ∀ j < k * s, nm i = nm j → i = j
  len : ns.length = 96
  nums : σ₀.list D = some (ns.map AV.int)
  names : σ₀.list M = some (V.map AV.int)
  cols : σ₀.list aK = some ((rangeL 0 1 k).map AV.int)
  pairs : σ₀.list Pp = some ((ipairs (k * s)).map (pav nm))
  tab2 : σ₀.tab t2 = some q2
  tab3 : σ₀.tab t3 = some q3
  keys : ∀ c, c ∈ dC.keys ↔ c ∈ rangeL 0 1 k
  ap : Apart V VF aF aC aL dC lc ll
  nx : ∀ x, x = D ∨ x = M ∨ x = aK ∨ x = Pp ∨ x = t2 ∨ x = t3 → ¬ RX σ₀ V aF dC lc ll x
section
variable {σ₀ σ σ' : AH} {D M aK Pp t2 t3 q2 q3 aF aC aL aN aH : Addr} {dC dL : DI} {lc ll : Int → Addr} {V VF : List Int} {nm : Nat → Int} {ns : List Int} {k s : Nat} {G : Gr}
theorem RC.nums' (x : RC σ₀ D M aK Pp t2 t3 q2 q3 aF aC aL dC dL lc ll V VF nm ns k s) (o : Off (RX σ₀ V aF dC lc ll) σ₀ σ) : σ.list D = some (ns.map AV.int) := (o.list D (x.nx D (.inl rfl))).trans x.nums
theorem RC.names' (x : RC σ₀ D M aK Pp t2 t3 q2 q3 aF aC aL dC dL lc ll V VF nm ns k s) (o : Off (RX σ₀ V aF dC lc ll) σ₀ σ) : σ.list M = some (V.map AV.int) := (o.list M (x.nx M (.inr (.inl rfl)))).trans x.names
theorem RC.cols' (x : RC σ₀ D M aK Pp t2 t3 q2 q3 aF aC aL dC dL lc ll V VF nm ns k s) (o : Off (RX σ₀ V aF dC lc ll) σ₀ σ) : σ.list aK = some ((rangeL 0 1 k).map AV.int) := (o.list aK (x.nx aK (.inr (.inr (.inl rfl))))).trans x.cols
theorem RC.pairs' (x : RC σ₀ D M aK Pp t2 t3 q2 q3 aF aC aL dC dL lc ll V VF nm ns k s) (o : Off (RX σ₀ V aF dC lc ll) σ₀ σ) : σ.list Pp = some ((ipairs (k * s)).map (pav nm)) := (o.list Pp (x.nx Pp (.inr (.inr (.inr (.inl rfl)))))).trans x.pairs
theorem RC.tab2' (x : RC σ₀ D M aK Pp t2 t3 q2 q3 aF aC aL dC dL lc ll V VF nm ns k s) (o : Off (RX σ₀ V aF dC lc ll) σ₀ σ) : σ.tab t2 = some q2 := (o.tab t2 (x.nx t2 (.inr (.inr (.inr (.inr (.inl rfl))))))).trans x.tab2
theorem RC.tab3' (x : RC σ₀ D M aK Pp t2 t3 q2 q3 aF aC aL dC dL lc ll V VF nm ns k s) (o : Off (RX σ₀ V aF dC lc ll) σ₀ σ) : σ.tab t3 = some q3 := (o.tab t3 (x.nx t3 (.inr (.inr (.inr (.inr (.inr rfl))))))).trans x.tab3
/-- new objects, upon what the rounds changed -/
theorem Off.rxF (o : Off (RX σ₀ V aF dC lc ll) σ₀ σ) (h : Off σ.Fresh σ σ') : Off (RX σ₀ V aF dC lc ll) σ₀ σ' := o.trans (h.mono fun b hb => o.freshX (fun b h => .inr (.inr (.inr h))) hb)
theorem Off.rxN (o : Off (RX σ₀ V aF dC lc ll) σ₀ σ) {D : Addr} (h : Nw σ D) : RX σ₀ V aF dC lc ll D := o.freshX (fun b h => .inr (.inr (.inr h))) h.fresh
theorem Off.rxO (o : Off (RX σ₀ V aF dC lc ll) σ₀ σ) (hN : RX σ₀ V aF dC lc ll aN) (hH : RX σ₀ V aF dC lc ll aH) (h : Off (nmOf VF aF aC aL aN aH dC dL lc ll V).own σ σ') : Off (RX σ₀ V aF dC lc ll) σ₀ σ' := o.trans (h.mono fun b hb => by
  rcases hb with rfl | rfl | rfl | ⟨c, hc, rfl⟩
  · exact .inl rfl
  · exact hN
  · exact hH
  · exact .inr (.inl ⟨c, hc, rfl⟩))
theorem Off.rxP (o : Off (RX σ₀ V aF dC lc ll) σ₀ σ) (hN : RX σ₀ V aF dC lc ll aN) (hH : RX σ₀ V aF dC lc ll aH) (h : Off ((nmOf VF aF aC aL aN aH dC dL lc ll V).ownN σ) σ σ') : Off (RX σ₀ V aF dC lc ll) σ₀ σ' := o.trans (h.mono fun b hb => by
  rcases hb with (rfl | rfl | rfl | ⟨c, hc, rfl⟩) | hb
  · exact .inl rfl
  · exact hN
  · exact hH
  · exact .inr (.inl ⟨c, hc, rfl⟩)
  · exact o.freshX (fun b h => .inr (.inr (.inr h))) hb)
theorem RC.nice (x : RC σ₀ D M aK Pp t2 t3 q2 q3 aF aC aL dC dL lc ll G.V VF nm ns k s) (hd : dC.keys.Nodup) (hN : (aN == sysModules) = false) (hH : (aH == sysModules) = false) : Nice G (nmOf VF aF aC aL aN aH dC dL lc ll G.V) (rangeL 0 1 k) := by
  have hl : dC.keys.length = (rangeL 0 1 k).length := ((List.perm_ext_iff_of_nodup hd (rangeL_nodup k)).mpr x.keys).length_eq
  exact {
    nodup := rangeL_nodup k
    sorted := rangeL_sorted k
    mem := fun c => (x.keys c).symm
    lenN := by show (G.V.flatMap _).length = _; rw [pairs_length, hl]
    lenH := by show (dC.keys.flatMap _).length = _; rw [pairs_length, hl]
    nm := hN
    hm := hH
    few := Nat.le_trans x.ap.zv (show 12 ≤ 60 by decide) }
theorem RC.klen (x : RC σ₀ D M aK Pp t2 t3 q2 q3 aF aC aL dC dL lc ll V VF nm ns k s) (hd : dC.keys.Nodup) : dC.keys.length = k := by
  have hl : dC.keys.length = (rangeL 0 1 k).length := ((List.perm_ext_iff_of_nodup hd (rangeL_nodup k)).mpr x.keys).length_eq
  rw [hl]; simp [rangeL]
end
end Mine

/-! P44 -/
namespace Mine
abbrev rρ0 (l D M R aF aK aL Pp aC aR : Addr) (k s n i : Nat) : Rho := ("room", .ref aR) :: ("r", .int i) :: ("rounds", .int n) :: ("C", .ref aC) :: lawρ2 l D M R aF aK aL Pp k s
abbrev rρ2 (l D M R aF aK aL Pp aC aR aN aH : Addr) (k s n i : Nat) (va vb : Int) : Rho := ("H", .ref aH) :: ("N", .ref aN) :: ("b", .int vb) :: ("a", .int va) :: rρ0 l D M R aF aK aL Pp aC aR k s n i
/-- the colours free for a node -/
def freeC (k : Nat) (G : Gr) (f : Int → Int) (va : Int) : List Int := (rangeL 0 1 k).filter fun c => !decide (c = f va) && (((G.adj va).filter fun w => f w == c).map AV.int).isEmpty
theorem freeC_mem {k : Nat} {G : Gr} {f : Int → Int} {va Y : Int} : Y ∈ freeC k G f va ↔ Y ∈ rangeL 0 1 k ∧ Y ≠ f va ∧ ∀ w ∈ G.adj va, f w ≠ Y := by
  unfold freeC
  rw [List.mem_filter]
  simp only [Bool.and_eq_true, Bool.not_eq_true', decide_eq_false_iff_not, List.isEmpty_iff, List.map_eq_nil_iff, List.filter_eq_nil_iff, beq_iff_eq]
theorem freeC_pos {k : Nat} {G : Gr} {f : Int → Int} {va vb : Int} (hb : vb ∈ G.adj va) (hf : f va = f vb) (hd : (G.adj va).length ≤ k - 1) (k2 : 2 ≤ k) : 0 < (freeC k G f va).length := by
  obtain ⟨c, h1, h2, h3⟩ := free_colour (f := f) (rangeL_nodup k) hb (by simp [rangeL]; omega)
  exact List.length_pos_of_mem (freeC_mem.mpr ⟨h1, by rw [hf]; exact h2, h3⟩)
section
variable {prog : Program} {w : World} {A : Around} {B : Basis} {P : Pins} {pm cd doc dV : Value} {L fa l : Addr}
variable {σ₀ σ : AH} {D M R aK Pp t2 t3 q2 q3 aF aC aL aN aH aR : Addr} {dC dL : DI} {lc ll : Int → Addr} {VF : List Int} {nm : Nat → Int} {ns : List Int} {k s n i : Nat} {G : Gr} {f : Int → Int} {cls : Int → List Int} {va vb : Int}
/-- the check of the tables, the node's colour, the colours free for it, one of them -/
theorem roundE {m : Nat} {f9 f10 : Addr} {cd9 cd10 : Value} {Q : AF → Rho → AH → Prop} (F9 : Fn B 9 f9 cd9 .none) (F10 : Fn B 10 f10 cd10 .none)
    (hA : Rm (calleeCx A B P (FD 12 pm cd doc dV .none) L fa).A (m + 5)) (hB : B.OK) (blen : B.mg "len" = none ∧ B.mb "len" = some (.builtin "len")) (bsort : B.mg "sorted" = none ∧ B.mb "sorted" = some (.builtin "sorted"))
    (rc : RC σ₀ D M aK Pp t2 t3 q2 q3 aF aC aL dC dL lc ll G.V VF nm ns k s) (o : Off (RX σ₀ G.V aF dC lc ll) σ₀ σ) (x : RSw k VF aF aC aL dC dL lc ll G f cls σ)
    (hNH : aN ≠ aH) (nN : (aN == sysModules) = false) (nH : (aH == sysModules) = false)
    (S : Good G (nmOf VF aF aC aL aN aH dC dL lc ll G.V) σ f cls) (ha : va ∈ G.V) (hb : vb ∈ G.adj va) (hfab : f va = f vb) (hi : i < 3)
    (K : ∀ Y aE σ', Y ∈ freeC k G f va → Off σ.Fresh σ σ' →
      SX prog w (calleeCx A B P (FD 12 pm cd doc dV .none) L fa) (("Y", .int Y) :: ("free", .ref aE) :: ("X", .int (f va)) :: rρ2 l D M R aF aK aL Pp aC aR aN aH k s n i va vb) σ' (roundB.drop 9) Q) :
    SX prog w (calleeCx A B P (FD 12 pm cd doc dV .none) L fa) (rρ2 l D M R aF aK aL Pp aC aR aN aH k s n i va vb) σ (roundB.drop 5) Q := by
  have ok := x.nmOK (aN := aN) (aH := aH) rc.ap hNH
  have ni := rc.nice x.cl.nodup nN nH
  have hfew : G.V.length ≤ 60 := ni.few
  have k2 := rc.k2
  have k4 := rc.k4
  have cont : ∀ σ₁, Off σ.Fresh σ σ₁ → SX prog w (calleeCx A B P (FD 12 pm cd doc dV .none) L fa) (rρ2 l D M R aF aK aL Pp aC aR aN aH k s n i va vb) σ₁ (roundB.drop 6) Q := fun σ₁ o₁ => by
    have S₁ := S.offF o₁
    have oo := o.rxF o₁
    have hK₁ := rc.cols' oo
    refine SX.cons (S1.assign ((PE.sub_ hA (PE.name rfl) (PE.name rfl) (S₁.tabs.gF ok ha)).ev ?_))
    refine SX.cons (S1.assignC (EC.filter (fun c => !decide (c = f va) && (((G.adj va).filter fun w => f w == c).map AV.int).isEmpty) hA (ITt.list (PE.name rfl) hK₁) (.list hK₁) (by simp [rangeL]; omega) (fun D ys L' P' c hD hc => ?_) fun aE hE => ?_))
    · have o₂ : Off σ₁.Fresh σ₁ (σ₁.setL D ys) := .setL _ hD.fresh
      have S₂ := S₁.offF o₂
      generalize σ₁.setL D ys = σ₂ at *
      refine TV.pt (TV.bool (TB.and_cons (TV.of (PT.cmp (PE.name rfl) (PE.name rfl) CP.ne) ?_)))
      by_cases hcf : c = f va
      · simp only [hcf, decide_true, Bool.not_true, Bool.false_eq_true, if_false, Bool.false_and]
        exact ⟨trivial, .refl _⟩
      · simp only [hcf, decide_false, Bool.not_false, if_true, Bool.true_and]
        refine TB.and_cons (TV.cmp (R := fun av σ' => ∃ D, av = .ref D ∧ Nw σ₂ D ∧ σ₂.setL D (((G.adj va).filter fun w => f w == c).map AV.int) = σ') (EC.filter (fun w => f w == c) (by exact hA) (ITt.list (PE.sub_ (by exact hA) (PE.name rfl) (PE.name rfl) (S₂.tabs.gL ok ha)) (S₂.tabs.adj va ha)) (.list (S₂.tabs.adj va ha)) ?_ (fun D5 ys L P' w hD hw => ?_) fun D5 hD => ?_).ev ?_)
        · have := x.deg va ha; omega
        · have e1 : (f w == c) = decide (f w = c) := by by_cases h : f w = c <;> simp [h]
          rw [e1]
          exact PT.cmp (PE.sub_ (by exact hA) (PE.name rfl) (PE.name rfl) ((S₂.offF (.setL _ hD.fresh)).tabs.gF ok (x.ok.sub va ha w hw))) (PE.name rfl) .eq
        · exact ⟨D5, rfl, hD, rfl⟩
        · rintro _ _ ⟨D7, rfl, hD7, rfl⟩
          refine EV.listLit .nil (by decide) fun D8 hD8 => ⟨_, CP.eqNil (by exact hA) (xs := ((G.adj va).filter fun w => f w == c).map AV.int) ((Off.setL _ hD8.fresh : Off (σ₂.setL D7 _).Fresh _ _).list' (setL_list _ _ _)) (setL_list _ _ _), ?_⟩
          have ole := ((Off.setL _ hD7.fresh : Off σ₂.Fresh _ (σ₂.setL D7 (((G.adj va).filter fun w => f w == c).map AV.int))).transF (.setL _ hD8.fresh : Off _ _ ((σ₂.setL D7 (((G.adj va).filter fun w => f w == c).map AV.int)).setL D8 []))).le
          cases h : (((G.adj va).filter fun w => f w == c).map AV.int).isEmpty with
          | true => simp only [if_true]; exact TB.and_nil ⟨rfl, ole⟩
          | false => simp only [Bool.false_eq_true, if_false]; exact ⟨trivial, ole⟩
    · have o₂ : Off σ₁.Fresh σ₁ (σ₁.setL aE ((freeC k G f va).map AV.int)) := .setL _ hE.fresh
      have hEl : (σ₁.setL aE ((freeC k G f va).map AV.int)).list aE = some ((freeC k G f va).map AV.int) := setL_list _ _ _
      have hpos := freeC_pos hb hfab (x.deg va ha) k2
      have hle : (freeC k G f va).length ≤ k := Nat.le_trans (List.length_filter_le _ _) (by simp [rangeL])
      have oo₂ := oo.rxF o₂
      show SX _ _ _ _ (σ₁.setL aE ((freeC k G f va).map AV.int)) _ _
      generalize σ₁.setL aE ((freeC k G f va).map AV.int) = σ₂ at *
      have hq0 := Int.emod_nonneg (num ns (26 + i) / 7) (show ((freeC k G f va).length : Int) ≠ 0 by omega)
      have hq1 := Int.emod_lt_of_pos (num ns (26 + i) / 7) (show (0 : Int) < (freeC k G f va).length by omega)
      obtain ⟨j, hj⟩ : ∃ j : Nat, (j : Int) = num ns (26 + i) / 7 % (freeC k G f va).length := ⟨(num ns (26 + i) / 7 % (freeC k G f va).length).toNat, by omega⟩
      have hjl : j < (freeC k G f va).length := by omega
      obtain ⟨Y, hY⟩ : ∃ Y, (freeC k G f va)[j]? = some Y := ⟨_, List.getElem?_eq_getElem hjl⟩
      have gi : GI σ₂ (.ref aE) (.int (num ns (26 + i) / 7 % (freeC k G f va).length)) (.int Y) := by
        rw [← hj]
        exact GI.list hEl (Int.natCast_nonneg _) (by omega) (by rw [Int.toNat_natCast, List.getElem?_map, hY]; rfl)
      refine SX.cons (S1.assign ((PE.sub_ hA (PE.name rfl) (PE.mod (PE.fdiv (PE.sub_ hA (PE.name rfl) (PE.add PE.int (PE.name rfl)) (num_gi (rc.nums' oo₂) (26 + i) (by omega) (by rw [rc.len]; omega) rc.len)) PE.int (by decide) (PyProof.noPylong_small (by decide)))
        (PE.len (n := (freeC k G f va).length) (PE.builtin hB blen.1 blen.2) (PE.name rfl) (.inl ⟨_, _, rfl, hEl, by rw [List.length_map]⟩) (by omega)) (by omega)) gi).ev ?_))
      exact K Y aE σ₂ (List.mem_of_getElem? hY) (o₁.transF o₂)
  refine SX.cons (S1.iteV (TV.bool (TB.and_cons (TV.of (PT.cmp (PE.name rfl) PE.int CP.eq) ?_))))
  by_cases h0 : (i : Int) = 0
  · simp only [h0, decide_true, if_true]
    refine TB.and_cons (TV.not (TV.val (EV.call hB (F10.fn.choose_spec.choose_spec) (.cons (PE.name rfl) (fun _ => rfl) (.cons (PE.name rfl) (fun _ => rfl) (.cons (PE.name rfl) (fun _ => rfl) (.cons (PE.name rfl) (fun _ => rfl) (.cons (PE.name rfl) (fun _ => rfl) (.cons (PE.name rfl) (fun _ => rfl) .nil)))))) .nil
      (agrees_ok (a := nmOf VF aF aC aL aN aH dC dL lc ll G.V) (m := m + 2) F10 F9 hA hB blen bsort x.ok ok S (rc.cols' o) ni fun σ₁ o₁ => ⟨true, .bool, ?_⟩))))
    simp only [Bool.not_true, Bool.false_eq_true, if_false]
    exact SX.nil (cont σ₁ o₁)
  · simp only [h0, decide_false, Bool.false_eq_true, if_false]
    exact SX.nil (cont σ (.refl _ _))
end
end Mine

/-! P45 -/
namespace Mine
abbrev rρ5 (l D M R aF aK aL Pp aC aR aN aH aE : Addr) (k s n i : Nat) (va vb X Y : Int) : Rho := ("Y", .int Y) :: ("free", .ref aE) :: ("X", .int X) :: rρ2 l D M R aF aK aL Pp aC aR aN aH k s n i va vb
section
variable {prog : Program} {w : World} {A : Around} {B : Basis} {P : Pins} {pm cd doc dV : Value} {L fa l : Addr}
variable {σ₀ σ : AH} {D M R aK Pp t2 t3 q2 q3 aF aC aL aN aH aR aE : Addr} {dC dL : DI} {lc ll : Int → Addr} {VF : List Int} {nm : Nat → Int} {ns : List Int} {k s n i : Nat} {G : Gr} {f : Int → Int} {cls : Int → List Int} {va vb X Y : Int}
/-- the last check: sizes, and no two neighbours alike -/
theorem roundG {m : Nat} {Q : AF → Rho → AH → Prop}
    (hA : Rm (calleeCx A B P (FD 12 pm cd doc dV .none) L fa).A (m + 5)) (hB : B.OK) (blen : B.mg "len" = none ∧ B.mb "len" = some (.builtin "len"))
    (rc : RC σ₀ D M aK Pp t2 t3 q2 q3 aF aC aL dC dL lc ll G.V VF nm ns k s) (o : Off (RX σ₀ G.V aF dC lc ll) σ₀ σ) (x : RSw k VF aF aC aL dC dL lc ll G f cls σ)
    (hp : Proper G f) (hsz : ∀ c ∈ dC.keys, sz G f c = s)
    (K : ∀ σ', Off σ.Fresh σ σ' → SX prog w (calleeCx A B P (FD 12 pm cd doc dV .none) L fa) (rρ5 l D M R aF aK aL Pp aC aR aN aH aE k s n i va vb X Y) σ' (roundB.drop 15) Q) :
    SX prog w (calleeCx A B P (FD 12 pm cd doc dV .none) L fa) (rρ5 l D M R aF aK aL Pp aC aR aN aH aE k s n i va vb X Y) σ (roundB.drop 14) Q := by
  have k4 := rc.k4
  have s3 := rc.s3
  have hK := rc.cols' o
  have hV12 : G.V.length ≤ 12 := rc.ap.zv
  refine SX.cons (S1.iteV (TV.bool (TB.or_cons (TV.cmp (R := fun av σ' => ∃ D, av = .ref D ∧ Nw σ D ∧ σ.setL D [] = σ') (EC.filter (fun _ => false) hA (ITt.list (PE.name rfl) hK) (.list hK) (by simp [rangeL]; omega) (fun D ys' L' P' c hD hc => ?_) fun D hD => ?_).ev ?_))))
  · have hcK := (rc.keys c).mpr hc
    have x₃ := x.off (Off.setL σ hD.fresh : Off σ.Fresh σ (σ.setL D ys'))
    have hlen : (cls c).length = s := by
      have h1 := hsz c hcK
      rw [sz_filter] at h1
      have h2 : (cls c).Perm (G.V.filter fun v => f v == c) := (List.perm_ext_iff_of_nodup (x.nodup c hcK) (x.ok.nodup.filter _)).mpr fun v => by rw [x.mem c hcK v, List.mem_filter]; simp
      rw [h2.length_eq]; omega
    have e0 : false = !decide ((s : Int) = s) := by simp
    rw [e0]
    exact PT.cmp (PE.len (n := s) (PE.builtin (by exact hB) blen.1 blen.2) (PE.sub_ (by exact hA) (PE.name rfl) (PE.name rfl) (x₃.cl.gi hcK)) (.inl ⟨_, _, rfl, x₃.cl.list c hcK, by rw [List.length_map, hlen]⟩) (by omega)) (PE.name rfl) CP.ne
  · exact ⟨D, rfl, hD, by rw [List.filter_eq_nil_iff.mpr (fun _ _ => Bool.false_ne_true)]; rfl⟩
  rintro _ _ ⟨D7, rfl, hD7, rfl⟩
  refine EV.listLit .nil (by decide) fun D8 hD8 => ⟨_, CP.neNil hA (xs := []) ((Off.setL _ hD8.fresh : Off (σ.setL D7 []).Fresh _ _).list' (setL_list _ _ _)) (setL_list _ _ _), ?_⟩
  simp only [List.isEmpty_nil, Bool.not_true, Bool.false_eq_true, if_false]
  have o₁ : Off σ.Fresh σ ((σ.setL D7 []).setL D8 []) := (Off.setL _ hD7.fresh : Off σ.Fresh _ _).transF (.setL _ hD8.fresh)
  generalize (σ.setL D7 []).setL D8 [] = σ₁ at *
  have x₁ := x.off o₁
  have hM := rc.names' (o.rxF o₁)
  refine TB.or_cons (TV.cmp (R := fun av σ' => ∃ D, av = .ref D ∧ Nw σ₁ D ∧ σ₁.setL D [] = σ') (EC.listComp2 hA (ITt.list (PE.name rfl) hM) (fun D i σ₂ => Nw σ₁ D ∧ σ₂ = σ₁.setL D []) (fun D hD => ⟨hD, rfl⟩) (fun D i σ₂ _ ⟨hD, e⟩ => ?_) (fun D L' P' i av σ₂ hD hi ⟨_, e⟩ => ?_) fun D σ₂ hD ⟨_, e⟩ => ?_).ev ?_)
  · subst e; exact (Off.setL σ₁ hD.fresh : Off σ₁.Fresh _ _).list' hM
  · subst e
    obtain ⟨v, hv, rfl⟩ := getElem?_ints hi
    have hvV : v ∈ G.V := List.mem_of_getElem? hv
    have x₂ := x₁.off (Off.setL σ₁ hD.fresh : Off σ₁.Fresh _ (σ₁.setL D []))
    refine ⟨_, _, fun j σ₃ => σ₃ = σ₁.setL D [], ITt.list (PE.sub_ (by exact hA) (PE.name rfl) (PE.name rfl) (x₂.gl.gi hvV)) (x₂.gl.list v hvV), rfl, fun j σ₃ _ e => e ▸ x₂.gl.list v hvV, fun σ₃ e => ⟨hD, e⟩, fun P'' j a2 σ₃ hj e => ⟨false, ?_, by simpa using e⟩⟩
    subst e
    obtain ⟨z, hz, rfl⟩ := getElem?_ints hj
    have hzA : z ∈ G.adj v := List.mem_of_getElem? hz
    have hzV := x.ok.sub v hvV z hzA
    obtain ⟨dF, h1, h2, h3⟩ := x₂.fl
    have gF : ∀ u ∈ G.V, GI (σ₁.setL D []) (.ref aF) (.int u) (.int (f u)) := fun u hu => by
      have := GI.dI h1 (k := u) (by rw [h2]; exact (x.vf u).mpr hu)
      rwa [h3 u hu] at this
    have hne := (proper_iff.mp hp) v hvV z hzA
    exact PTl.one (PT.isF (PT.cmp (PE.sub_ (by exact hA) (PE.name rfl) (PE.name rfl) (gF v hvV)) (PE.sub_ (by exact hA) (PE.name rfl) (PE.name rfl) (gF z hzV)) .eq) (by simp [Ne.symm hne]))
  rotate_left
  · subst e; exact ⟨D, rfl, hD, rfl⟩
  rintro _ _ ⟨D9, rfl, hD9, rfl⟩
  refine EV.listLit .nil (by decide) fun D10 hD10 => ⟨_, CP.neNil hA (xs := []) ((Off.setL _ hD10.fresh : Off (σ₁.setL D9 []).Fresh _ _).list' (setL_list _ _ _)) (setL_list _ _ _), ?_⟩
  simp only [List.isEmpty_nil, Bool.not_true, Bool.false_eq_true, if_false]
  refine TB.or_nil ?_
  simp only [Bool.false_eq_true, if_false]
  exact SX.nil (K _ (o₁.transF ((Off.setL _ hD9.fresh : Off σ₁.Fresh _ _).transF (.setL _ hD10.fresh))))
/-- refused, recoloured, balanced -/
theorem roundF {m : Nat} {f4 f5 f6 f9 f10 f11 T6 : Addr} {cd4 cd5 cd6 cd9 cd10 cd11 : Value} {Q : AF → Rho → AH → Prop} (F4 : Fn B 4 f4 cd4 .none) (F5 : Fn B 5 f5 cd5 .none) (F6 : Fn B 6 f6 cd6 (.ref T6)) (hT : ∃ o n, B.h₀.get? T6 = some o ∧ o.data = .seq #[.none] n)
    (F9 : Fn B 9 f9 cd9 .none) (F10 : Fn B 10 f10 cd10 .none) (F11 : Fn B 11 f11 cd11 .none)
    (hA : Rm (calleeCx A B P (FD 12 pm cd doc dV .none) L fa).A (m + 5)) (hB : B.OK) (bn : Bn B) (bsort : B.mg "sorted" = none ∧ B.mb "sorted" = some (.builtin "sorted")) (bae : B.mg "AssertionError" = none ∧ B.mb "AssertionError" = some (.type "AssertionError"))
    (hfr : (calleeCx A B P (FD 12 pm cd doc dV .none) L fa).A.frames = some [(calleeCx A B P (FD 12 pm cd doc dV .none) L fa).env])
    (rc : RC σ₀ D M aK Pp t2 t3 q2 q3 aF aC aL dC dL lc ll G.V VF nm ns k s) (o : Off (RX σ₀ G.V aF dC lc ll) σ₀ σ) (x : RSw k VF aF aC aL dC dL lc ll G f cls σ)
    (hNH : aN ≠ aH) (nN : (aN == sysModules) = false) (nH : (aH == sysModules) = false) (rN : RX σ₀ G.V aF dC lc ll aN) (rH : RX σ₀ G.V aF dC lc ll aH)
    (S : Good G (nmOf VF aF aC aL aN aH dC dL lc ll G.V) σ f cls) (ha : va ∈ G.V) (hX : f va = X) (hY : Y ∈ freeC k G f va) (hfree : ∀ Y, (∀ w ∈ G.adj va, f w ≠ Y) → Proper G (upd f va Y)) (hsz : ∀ c ∈ dC.keys, sz G f c = s)
    (K : ∀ σ' f' cls', RSw k VF aF aC aL dC dL lc ll G f' cls' σ' → Proper G f' → (∀ c ∈ dC.keys, sz G f' c = s) → Off (RX σ₀ G.V aF dC lc ll) σ₀ σ' →
      SX prog w (calleeCx A B P (FD 12 pm cd doc dV .none) L fa) (rρ5 l D M R aF aK aL Pp aC aR aN aH aE k s n i va vb X Y) σ' (roundB.drop 14) Q) :
    SX prog w (calleeCx A B P (FD 12 pm cd doc dV .none) L fa) (rρ5 l D M R aF aK aL Pp aC aR aN aH aE k s n i va vb X Y) σ (roundB.drop 9) Q := by
  have ok := x.nmOK (aN := aN) (aH := aH) rc.ap hNH
  have ni := rc.nice x.cl.nodup nN nH
  have hfew : G.V.length ≤ 60 := ni.few
  obtain ⟨hYr, hYX, hYf⟩ := freeC_mem.mp hY
  rw [hX] at hYX
  have hYK : Y ∈ dC.keys := (rc.keys Y).mpr hYr
  have hXK : X ∈ dC.keys := hX ▸ x.fK va ha
  refine SX.cons (S1.iteV (TV.not (TV.val (held_ev (c := calleeCx A B P (FD 12 pm cd doc dV .none) L fa) (a := nmOf VF aF aC aL aN aH dC dL lc ll G.V) (m := m + 3) hA hB F11 F4 bae ok S ha hX (Ne.symm hYX) rfl hfr
    (.cons (PE.name rfl) (fun _ => rfl) (.cons (PE.name rfl) (fun _ => rfl) (.cons (PE.name rfl) (fun _ => rfl) (.cons (PE.name rfl) (fun _ => rfl) (.cons (PE.name rfl) (fun _ => rfl) (.cons (PE.name rfl) (fun _ => rfl) (.cons (PE.name rfl) (fun _ => rfl) (.cons (PE.name rfl) (fun _ => rfl) .nil)))))))) ⟨true, .bool, ?_⟩))))
  simp only [Bool.not_true, Bool.false_eq_true, if_false]
  refine SX.nil ?_
  refine SX.cons (S1.expr (EV.call hB (F4.fn.choose_spec.choose_spec) (.cons (PE.name rfl) (fun _ => rfl) (.cons (PE.name rfl) (fun _ => rfl) (.cons (PE.name rfl) (fun _ => rfl) (.cons (PE.name rfl) (fun _ => rfl) (.cons (PE.name rfl) (fun _ => rfl) (.cons (PE.name rfl) (fun _ => rfl) (.cons (PE.name rfl) (fun _ => rfl) (.cons (PE.name rfl) (fun _ => rfl) .nil)))))))) .nil
    (cc_ok (a := nmOf VF aF aC aL aN aH dC dL lc ll G.V) (n := m + 4) F4 hA hB x.ok ok S (by omega) ha hX hYK (Ne.symm hYX) fun σ₁ S₁ o₁ => ?_).2))
  have oo₁ := o.rxO rN rH o₁
  have x₁ := x.back S₁
  have hp₁ := hfree Y hYf
  have hs₁ : ∀ c ∈ dC.keys, sz G (upd f va Y) c = s + ib (Y == c) - ib (X == c) := fun c hc => by rw [sz_upd x.ok ha c, hsz c hc, hX]
  have hu : upd f va Y va = Y := by simp [upd]
  generalize upd f va Y = f₁ at *
  generalize reC cls va X Y = cls₁ at *
  refine SX.cons (S1.iteV (TV.bool (TB.or_cons (TV.of (PT.cmp (PE.sub_ hA (PE.name rfl) (PE.name rfl) (S₁.tabs.gF ok ha)) (PE.name rfl) CP.ne) ?_))))
  simp only [hu, decide_true, Bool.not_true, Bool.false_eq_true, if_false]
  refine TB.or_cons (TV.not (TV.val (EV.call hB (F10.fn.choose_spec.choose_spec) (.cons (PE.name rfl) (fun _ => rfl) (.cons (PE.name rfl) (fun _ => rfl) (.cons (PE.name rfl) (fun _ => rfl) (.cons (PE.name rfl) (fun _ => rfl) (.cons (PE.name rfl) (fun _ => rfl) (.cons (PE.name rfl) (fun _ => rfl) .nil)))))) .nil
      (agrees_ok (a := nmOf VF aF aC aL aN aH dC dL lc ll G.V) (m := m + 2) F10 F9 hA hB bn.len bsort x.ok ok S₁ (rc.cols' oo₁) ni fun σ₂ o₂ => ⟨true, .bool, ?_⟩))))
  simp only [Bool.not_true, Bool.false_eq_true, if_false]
  refine TB.or_nil ?_
  simp only [Bool.false_eq_true, if_false]
  refine SX.nil ?_
  have S₂ := S₁.offF o₂
  have oo₂ := oo₁.rxF o₂
  refine SX.cons (S1.expr (EV.call hB (F6.fn.choose_spec.choose_spec) .nil (.cons (PE.name rfl) (.cons (PE.name rfl) (.cons (PE.name rfl) (.cons (PE.name rfl) (.cons (PE.name rfl) (.cons (PE.name rfl) (.cons (PE.name rfl) .nil)))))))
    (pp_ok (a := nmOf VF aF aC aL aN aH dC dL lc ll G.V) (m := m) (k := k) (s := s) F6 hT F5 F4 hA hB bn x.ok ok (by omega) S₂ hXK hYK (Ne.symm hYX) (fun c hc => ?_) (rc.klen x.cl.nodup) ⟨rc.k2, rc.k4⟩ ⟨rc.s2, rc.s3⟩ x.deg hs₁ fun σ₃ hP => ?_)))
  · obtain ⟨j, hj, rfl⟩ := rangeL_mem.mp ((rc.keys c).mp hc)
    have := rc.k4
    omega
  obtain ⟨f₃, cls₃, S₃, o₃, hp₃, hs₃⟩ := hP
  have oo₃ := oo₂.rxP rN rH o₃
  refine SX.cons (S1.iteV (TV.not (TV.val (EV.call hB (F10.fn.choose_spec.choose_spec) (.cons (PE.name rfl) (fun _ => rfl) (.cons (PE.name rfl) (fun _ => rfl) (.cons (PE.name rfl) (fun _ => rfl) (.cons (PE.name rfl) (fun _ => rfl) (.cons (PE.name rfl) (fun _ => rfl) (.cons (PE.name rfl) (fun _ => rfl) .nil)))))) .nil
      (agrees_ok (a := nmOf VF aF aC aL aN aH dC dL lc ll G.V) (m := m + 2) F10 F9 hA hB bn.len bsort x.ok ok S₃ (rc.cols' oo₃) ni fun σ₄ o₄ => ⟨true, .bool, ?_⟩)))))
  simp only [Bool.not_true, Bool.false_eq_true, if_false]
  exact SX.nil (K σ₄ f₃ cls₃ ((x.back S₃).off o₄) (hp₃ hp₁) (fun c hc => by rw [hs₃ c, hs₁ c hc]; omega) (oo₃.rxF o₄))
end
end Mine

/-! P46 -/
namespace Mine
section
variable {prog : Program} {w : World} {A : Around} {B : Basis} {P : Pins} {pm cd doc dV : Value} {L fa l : Addr}
variable {σ₀ σ : AH} {D M R aK Pp t2 t3 q2 q3 aF aC aL aR : Addr} {dC dL : DI} {lc ll : Int → Addr} {VF : List Int} {nm : Nat → Int} {ns : List Int} {k s n i : Nat} {G : Gr} {f : Int → Int} {cls : Int → List Int}
theorem RSw.add (x : RSw k VF aF aC aL dC dL lc ll G f cls σ) (ap : Apart G.V VF aF aC aL dC lc ll) {va vb : Int} (ha : va ∈ G.V) (hb : vb ∈ G.V) (hne : va ≠ vb) (hn : vb ∉ G.adj va) (da : (G.adj va).length < k - 1) (db : (G.adj vb).length < k - 1) :
    RSw k VF aF aC aL dC dL lc ll (G.add va vb) f cls (addS σ G ll va vb) where
  ok := x.ok.add ha hb hne hn
  gl := x.gl.add ap.llinj ha hb hne
  cl := ⟨x.cl.at_, x.cl.nodup, x.cl.val, fun c hc => by
    unfold addS
    rw [setL_other _ _ (ap.lcll c hc vb hb), setL_other _ _ (ap.lcll c hc va ha)]
    exact x.cl.list c hc, x.cl.nm⟩
  fl := x.fl
  vf := x.vf
  fK := x.fK
  mem := x.mem
  nodup := x.nodup
  deg := fun v hv => by
    have := x.deg v hv
    rw [Gr.add_len]
    split
    · rename_i e; subst e; omega
    · split
      · rename_i e; subst e; omega
      · omega
/-- an edge within a colour, and the tables made anew -/
theorem roundA {m : Nat} {f2 f3 : Addr} {room : List (Nat × Nat)} {Q : AF → Rho → AH → Prop} (F2 : Fn B 2 f2 (.ref q2) .none) (F3 : Fn B 3 f3 (.ref q3) .none)
    (hA : Rm (calleeCx A B P (FD 12 pm cd doc dV .none) L fa).A (m + 5)) (hB : B.OK) (blen : B.mg "len" = none ∧ B.mb "len" = some (.builtin "len")) (bsum : B.mg "sum" = none ∧ B.mb "sum" = some (.builtin "sum"))
    (rc : RC σ₀ D M aK Pp t2 t3 q2 q3 aF aC aL dC dL lc ll G.V VF nm ns k s) (o : Off (RX σ₀ G.V aF dC lc ll) σ₀ σ) (x : RSw k VF aF aC aL dC dL lc ll G f cls σ) (hp : Proper G f)
    (hR : σ.list aR = some (room.map (pav nm))) (hroom : ∀ q ∈ room, q.1 < q.2 ∧ q.2 < k * s ∧ f (nm q.1) = f (nm q.2) ∧ (G.adj (nm q.1)).length < k - 1 ∧ (G.adj (nm q.2)).length < k - 1) (hpos : 0 < room.length) (hlen : room.length ≤ 66) (hi : i < 3)
    (K : ∀ va vb aN aH σ', va ∈ G.V → vb ∈ (G.add va vb).adj va → f va = f vb → (∀ Y, (∀ w ∈ (G.add va vb).adj va, f w ≠ Y) → Proper (G.add va vb) (upd f va Y)) → RSw k VF aF aC aL dC dL lc ll (G.add va vb) f cls σ' →
      Good (G.add va vb) (nmOf VF aF aC aL aN aH dC dL lc ll G.V) σ' f cls → Off (RX σ₀ G.V aF dC lc ll) σ₀ σ' → aN ≠ aH → (aN == sysModules) = false → (aH == sysModules) = false → RX σ₀ G.V aF dC lc ll aN → RX σ₀ G.V aF dC lc ll aH →
      SX prog w (calleeCx A B P (FD 12 pm cd doc dV .none) L fa) (rρ2 l D M R aF aK aL Pp aC aR aN aH k s n i va vb) σ' (roundB.drop 5) Q) :
    SX prog w (calleeCx A B P (FD 12 pm cd doc dV .none) L fa) (rρ0 l D M R aF aK aL Pp aC aR k s n i) σ roundB Q := by
  have k4 := rc.k4
  have s3 := rc.s3
  have k2 := rc.k2
  have hq0 := Int.emod_nonneg (num ns (26 + i)) (show (room.length : Int) ≠ 0 by omega)
  have hq1 := Int.emod_lt_of_pos (num ns (26 + i)) (show (0 : Int) < room.length by omega)
  obtain ⟨j, hj⟩ : ∃ j : Nat, (j : Int) = num ns (26 + i) % room.length := ⟨(num ns (26 + i) % room.length).toNat, by omega⟩
  have hjl : j < room.length := by omega
  obtain ⟨⟨ia, ib⟩, hq⟩ : ∃ q, room[j]? = some q := ⟨_, List.getElem?_eq_getElem hjl⟩
  obtain ⟨hab, hbn, hff, hda, hdb⟩ := hroom _ (List.mem_of_getElem? hq)
  dsimp only at hab hbn hff hda hdb
  have gi : GI σ (.ref aR) (.int (num ns (26 + i) % room.length)) (pav nm (ia, ib)) := by
    rw [← hj]
    exact GI.list hR (Int.natCast_nonneg _) (by omega) (by rw [Int.toNat_natCast, List.getElem?_map, hq]; rfl)
  have hVm := rc.hV
  have haV : nm ia ∈ G.V := hVm ▸ List.mem_map.mpr ⟨ia, List.mem_range.mpr (by omega), rfl⟩
  have hbV : nm ib ∈ G.V := hVm ▸ List.mem_map.mpr ⟨ib, List.mem_range.mpr hbn, rfl⟩
  have hne : nm ia ≠ nm ib := fun e => by have := rc.inj ia (by omega) ib hbn e; omega
  have hnot : nm ib ∉ G.adj (nm ia) := fun h => (proper_iff.mp hp) _ haV _ h hff.symm
  have hll : ll (nm ia) ≠ ll (nm ib) := fun e => hne (rc.ap.llinj _ haV _ hbV e)
  refine SX.cons (S1.assignTuple hA ((PE.sub_ hA (PE.name rfl) (PE.mod (PE.sub_ hA (PE.name rfl) (PE.add PE.int (PE.name rfl)) (num_gi (rc.nums' o) (26 + i) (by omega) (by rw [rc.len]; omega) rc.len))
    (PE.len (n := room.length) (PE.builtin hB blen.1 blen.2) (PE.name rfl) (.inl ⟨_, _, rfl, hR, by rw [List.length_map]⟩) (by omega)) (by omega)) gi).ev ⟨_, _, rfl, ?_⟩))
  generalize nm ia = va at *
  generalize nm ib = vb at *
  refine SX.cons (S1.expr (EV.meth (T := "list") (id := "list.append") (R := fun av σ' => av = .ref (ll va) ∧ σ = σ') ((PE.sub_ hA (PE.name rfl) (PE.name rfl) (x.gl.gi haV)).ev ⟨rfl, rfl⟩) F.plainAttrs_list F.slot_list_append F.type_list_append fun av σ' ⟨e1, e2⟩ => ?_))
  subst e1 e2
  refine ⟨.list (x.gl.list _ haV), _, .cons (PE.name rfl) (fun _ => rfl) .nil, BC.append (x.gl.list _ haV) (by rw [List.length_map]; omega) ?_⟩
  have gib : GI (σ.setL (ll va) ((G.adj va).map AV.int ++ [.int vb])) (.ref aL) (.int vb) (.ref (ll vb)) := by
    have := GI.dI (σ := σ.setL (ll va) ((G.adj va).map AV.int ++ [.int vb])) x.gl.at_ (k := vb) (by rw [x.gl.keys]; exact hbV)
    rwa [x.gl.val _ hbV] at this
  have hlb2 : (σ.setL (ll va) ((G.adj va).map AV.int ++ [.int vb])).list (ll vb) = some ((G.adj vb).map AV.int) := by
    rw [setL_other _ _ (Ne.symm hll)]; exact x.gl.list _ hbV
  refine SX.cons (S1.expr (EV.meth (T := "list") (id := "list.append") (R := fun av σ' => av = .ref (ll vb) ∧ σ.setL (ll va) ((G.adj va).map AV.int ++ [.int vb]) = σ') ((PE.sub_ hA (PE.name rfl) (PE.name rfl) gib).ev ⟨rfl, rfl⟩) F.plainAttrs_list F.slot_list_append F.type_list_append fun av σ' ⟨e1, e2⟩ => ?_))
  subst e1 e2
  refine ⟨.list hlb2, _, .cons (PE.name rfl) (fun _ => rfl) .nil, BC.append hlb2 (by rw [List.length_map]; omega) ?_⟩
  have x₁ := x.add rc.ap haV hbV hne hnot hda hdb
  have o₁ : Off (RX σ₀ G.V aF dC lc ll) σ₀ (addS σ G ll va vb) := o.trans ((addS_off σ G ll haV hbV).mono fun b hb => .inr (.inr (.inl hb)))
  show SX _ _ _ _ (addS σ G ll va vb) _ _
  generalize addS σ G ll va vb = σ₁ at *
  have hbA : vb ∈ (G.add va vb).adj va := (Gr.mem_add hne).mpr (.inr (.inl ⟨rfl, rfl⟩))
  have hfree : ∀ Y, (∀ w ∈ (G.add va vb).adj va, f w ≠ Y) → Proper (G.add va vb) (upd f va Y) := fun Y hY => properFree x.ok haV hp hne hY
  have hz : (G.add va vb).V.length ≤ 100 := Nat.le_trans rc.ap.zv (by decide)
  have hk : dC.keys.length ≤ 100 := Nat.le_trans rc.ap.zk (by decide)
  have hV2 : (G.add va vb).V = G.V := rfl
  have K' := fun aN aH σ' => K va vb aN aH σ'
  clear K
  generalize G.add va vb = G₂ at *
  refine SX.cons (S1.assign (EV.call hB (F2.fn.choose_spec.choose_spec) (.cons (PE.name rfl) (fun _ => rfl) (.cons (PE.name rfl) (fun _ => rfl) .nil)) .nil
    (mN_ok (m := m) (f := f) F2 hA hB bsum (rc.tab2' o₁) x₁.ok x₁.gl x₁.cl x₁.mem hz hk fun aN dN σ₂ hN nl o₂ => ?_)))
  have x₂ := x₁.off o₂
  have oo₂ := o₁.rxF o₂
  refine SX.cons (S1.assign (EV.call hB (F3.fn.choose_spec.choose_spec) (.cons (PE.name rfl) (fun _ => rfl) (.cons (PE.name rfl) (fun _ => rfl) .nil)) .nil
    (mH_ok (m := m) (f := f) F3 hA hB bsum (rc.tab3' oo₂) x₂.ok x₂.cl x₂.mem x₂.nodup nl hk fun aH dH σ₃ hH h1 h2 h3 o₃ => ?_)))
  have hNH : aN ≠ aH := by rintro rfl; have := hH.fresh.2.2.1; rw [nl.at_] at this; cases this
  have x₃ := x₂.off o₃
  have ap₂ : Apart G₂.V VF aF aC aL dC lc ll := hV2 ▸ rc.ap
  refine K' aN aH σ₃ haV hbA hff hfree x₃ ?_ (oo₂.rxF o₃) hNH hN.notMod hH.notMod (o₁.rxN hN) (oo₂.rxN hH)
  rw [← hV2]
  exact x₃.good ap₂ (nl.off o₃) h1 h2 h3
end
end Mine

/-! P47 -/
namespace Mine
/-- the pairs with room -/
def roomP (k : Nat) (G : Gr) (f : Int → Int) : AV → Bool
  | .pair (.int a) (.int b) => decide (f a = f b) && (decide (((G.adj a).length : Int) < (k : Int) - 1) && (decide (((G.adj b).length : Int) < (k : Int) - 1) && true))
  | _ => false
def roomL (k s : Nat) (nm : Nat → Int) (G : Gr) (f : Int → Int) : List (Nat × Nat) := (ipairs (k * s)).filter fun q => roomP k G f (pav nm q)
theorem room_filter {k s : Nat} {nm : Nat → Int} {G : Gr} {f : Int → Int} : ((ipairs (k * s)).map (pav nm)).filter (roomP k G f) = (roomL k s nm G f).map (pav nm) := by
  unfold roomL
  rw [List.filter_map]; rfl
theorem roomL_mem {k s : Nat} {nm : Nat → Int} {G : Gr} {f : Int → Int} {q : Nat × Nat} (h : q ∈ roomL k s nm G f) : q.1 < q.2 ∧ q.2 < k * s ∧ f (nm q.1) = f (nm q.2) ∧ (G.adj (nm q.1)).length < k - 1 ∧ (G.adj (nm q.2)).length < k - 1 := by
  unfold roomL at h
  rw [List.mem_filter] at h
  obtain ⟨h1, h2⟩ := h
  have h3 := mem_ipairs.mp (show (q.1, q.2) ∈ ipairs (k * s) from h1)
  simp only [roomP, pav, Bool.and_eq_true, decide_eq_true_eq] at h2
  obtain ⟨a, b, c, _⟩ := h2
  exact ⟨h3.1, h3.2, a, by omega, by omega⟩
theorem two_of {l : List Int} (h : l.Nodup) (h2 : 2 ≤ l.length) : ∃ v w, v ∈ l ∧ w ∈ l ∧ v ≠ w := by
  match l, h, h2 with
  | v :: w :: r, h, _ =>
    refine ⟨v, w, by simp, by simp, fun e => ?_⟩
    rw [List.nodup_cons] at h
    exact h.1 (by simp [e])
theorem roomL_pos {k s : Nat} {nm : Nat → Int} {G : Gr} {f : Int → Int} (g : G.OK) (hV : G.V = (List.range (k * s)).map nm) (k2 : 2 ≤ k) (s2 : 2 ≤ s) {c : Int} (hs : sz G f c = s) (hd : ∀ v ∈ G.V, (G.adj v).length ≤ k - 2) : 0 < (roomL k s nm G f).length := by
  have hl : (G.V.filter fun v => f v == c).length = s := by rw [sz_filter] at hs; omega
  obtain ⟨v, w, hv, hw, hne⟩ := two_of (g.nodup.filter _) (show 2 ≤ (G.V.filter fun v => f v == c).length by omega)
  rw [List.mem_filter] at hv hw
  simp only [beq_iff_eq] at hv hw
  obtain ⟨hv, fv⟩ := hv
  obtain ⟨hw, fw⟩ := hw
  have dv := hd v hv
  have dw := hd w hw
  rw [hV] at hv hw
  obtain ⟨i, hi, rfl⟩ := List.mem_map.mp hv
  obtain ⟨j, hj, rfl⟩ := List.mem_map.mp hw
  rw [List.mem_range] at hi hj
  have hij : i ≠ j := by rintro rfl; exact hne rfl
  have mk : ∀ a b : Nat, a < b → b < k * s → f (nm a) = f (nm b) → (G.adj (nm a)).length ≤ k - 2 → (G.adj (nm b)).length ≤ k - 2 → 0 < (roomL k s nm G f).length := fun a b h1 h2 h3 h4 h5 => by
    refine List.length_pos_of_mem (a := (a, b)) ?_
    unfold roomL
    rw [List.mem_filter]
    refine ⟨mem_ipairs.mpr ⟨h1, h2⟩, ?_⟩
    simp only [roomP, pav, Bool.and_eq_true, decide_eq_true_eq]
    exact ⟨h3, by omega, by omega, trivial⟩
  rcases Nat.lt_or_gt_of_ne hij with h | h
  · exact mk i j h hj (fv.trans fw.symm) dv dw
  · exact mk j i h hi (fw.trans fv.symm) dw dv
section
variable {prog : Program} {w : World} {A : Around} {B : Basis} {P : Pins} {pm cd doc dV : Value} {L fa l : Addr}
variable {σ₀ σ : AH} {D M R aK Pp t2 t3 q2 q3 aF aC aL aR : Addr} {dC dL : DI} {lc ll : Int → Addr} {V VF : List Int} {nm : Nat → Int} {ns : List Int} {k s n i : Nat} {G : Gr} {f : Int → Int} {cls : Int → List Int}
/-- the state between two rounds -/
def RInv (σ₀ : AH) (aF aC aL : Addr) (dC dL : DI) (lc ll : Int → Addr) (V VF : List Int) (k s : Nat) (l D M R aK Pp : Addr) (i : Nat) (ρ' : Rho) (σ' : AH) : Prop :=
  ∃ n : Nat, RLe (("rounds", .int n) :: ("C", .ref aC) :: lawρ2 l D M R aF aK aL Pp k s) ρ' ∧ (1 ≤ i → 1 ≤ n) ∧ ∃ G f cls, G.V = V ∧ RSw k VF aF aC aL dC dL lc ll G f cls σ' ∧ Proper G f ∧ (∀ c ∈ dC.keys, sz G f c = s) ∧ Off (RX σ₀ V aF dC lc ll) σ₀ σ' ∧
    (i = 0 → ∀ v ∈ G.V, (G.adj v).length ≤ k - 2)
theorem rρ5_le {aN aH aE : Addr} {va vb X Y : Int} {z : Int} : RLe (("rounds", .int z) :: ("C", .ref aC) :: lawρ2 l D M R aF aK aL Pp k s) (("rounds", .int z) :: rρ5 l D M R aF aK aL Pp aC aR aN aH aE k s n i va vb X Y) :=
  ((((((((((RLe.refl _).skip _).skip _).skip _).skip _).skip _).skip _).skip _).skip _).skip _).skip _ |>.cons _ _
end
end Mine

/-! P48 -/
namespace Mine
section
variable {prog : Program} {w : World} {A : Around} {B : Basis} {P : Pins} {pm cd doc dV : Value} {L fa l : Addr}
variable {σ₀ σ : AH} {D M R aK Pp t2 t3 q2 q3 aF aC aL : Addr} {dC dL : DI} {lc ll : Int → Addr} {V VF : List Int} {nm : Nat → Int} {ns : List Int} {k s : Nat} {G : Gr} {f : Int → Int} {cls : Int → List Int}
/-- the rounds, and the law's answer -/
theorem lawG {m : Nat} {f2 f3 f4 f5 f6 f9 f10 f11 T6 : Addr} {cd4 cd5 cd6 cd9 cd10 cd11 : Value} {Q : AF → Rho → AH → Prop} (F2 : Fn B 2 f2 (.ref q2) .none) (F3 : Fn B 3 f3 (.ref q3) .none) (F4 : Fn B 4 f4 cd4 .none) (F5 : Fn B 5 f5 cd5 .none) (F6 : Fn B 6 f6 cd6 (.ref T6)) (hT : ∃ o n, B.h₀.get? T6 = some o ∧ o.data = .seq #[.none] n)
    (F9 : Fn B 9 f9 cd9 .none) (F10 : Fn B 10 f10 cd10 .none) (F11 : Fn B 11 f11 cd11 .none)
    (hA : Rm (calleeCx A B P (FD 12 pm cd doc dV .none) L fa).A (m + 5)) (hB : B.OK) (bn : Bn B) (bsum : B.mg "sum" = none ∧ B.mb "sum" = some (.builtin "sum")) (brange : B.mg "range" = none ∧ B.mb "range" = some (.type "range"))
    (bsort : B.mg "sorted" = none ∧ B.mb "sorted" = some (.builtin "sorted")) (bae : B.mg "AssertionError" = none ∧ B.mb "AssertionError" = some (.type "AssertionError"))
    (hfr : (calleeCx A B P (FD 12 pm cd doc dV .none) L fa).A.frames = some [(calleeCx A B P (FD 12 pm cd doc dV .none) L fa).env])
    (rc : RC σ₀ D M aK Pp t2 t3 q2 q3 aF aC aL dC dL lc ll V VF nm ns k s) (x : RSw k VF aF aC aL dC dL lc ll G f cls σ₀) (hGV : G.V = V) (hp : Proper G f) (hsz : ∀ c ∈ dC.keys, sz G f c = s) (hd : ∀ v ∈ G.V, (G.adj v).length ≤ k - 2)
    (q : ∀ ρ' σ', σ'.tab t2 = some q2 → σ'.tab t3 = some q3 → Q (.ret (.bool true)) ρ' σ') :
    SX prog w (calleeCx A B P (FD 12 pm cd doc dV .none) L fa) (("C", .ref aC) :: lawρ2 l D M R aF aK aL Pp k s) σ₀ ((stBody (stAt 12)).drop 14) Q := by
  have k2 := rc.k2
  have k4 := rc.k4
  have s2 := rc.s2
  have s3 := rc.s3
  have hn12 : k * s ≤ 12 := Nat.le_trans (Nat.mul_le_mul k4 s3) (by decide)
  have hp66 := ipairs_len (k * s) hn12
  have h0K : (0 : Int) ∈ dC.keys := (rc.keys 0).mpr (rangeL_mem.mpr ⟨0, by omega, rfl⟩)
  refine SX.cons (S1.assign (PE.int.ev ?_))
  refine SX.cons (S1.for_ hA (ITt.range1 (n := 3) (PE.builtin hB brange.1 brange.2) PE.int (by omega)) (RInv σ₀ aF aC aL dC dL lc ll V VF k s l D M R aK Pp) ?_ (fun _ _ _ _ _ => trivial) ?_ ?_)
  · exact ⟨0, .refl _, fun h => by omega, G, f, cls, hGV, x, hp, hsz, .refl _ _, fun _ => hd⟩
  · rintro i av ρ' σ₁ P' hi0 ⟨n, hle, hn, G, f, cls, hGV, x, hp, hsz, o, hd⟩
    obtain ⟨hi, rfl⟩ := rangeL_get hi0
    have ei : (0 : Int) + i * 1 = i := by omega
    rw [ei]
    subst hGV
    replace hA : Rm (calleeCx A B P' (FD 12 pm cd doc dV .none) L fa).A (m + 5) := hA
    refine SX.weaken (ρ₀ := ("r", .int i) :: ("rounds", .int n) :: ("C", .ref aC) :: lawρ2 l D M R aF aK aL Pp k s) ?_ (hle.cons _ _) (.refl _)
    have hP := rc.pairs' o
    obtain ⟨dF, hF1, hF2, hF3⟩ := x.fl
    refine SX.cons (S1.assignC (EC.filterA (roomP k G f) hA (ITt.list (PE.name rfl) hP) (.list hP) (by rw [List.length_map]; omega) (fun D ys L' P' kv hD hkv => ?_) fun aR hR => ?_))
    · obtain ⟨⟨ia, ib⟩, hq, rfl⟩ := List.mem_map.mp hkv
      have hq := mem_ipairs.mp hq
      have hVm := rc.hV
      have haV : nm ia ∈ G.V := hVm ▸ List.mem_map.mpr ⟨ia, List.mem_range.mpr (by omega), rfl⟩
      have hbV : nm ib ∈ G.V := hVm ▸ List.mem_map.mpr ⟨ib, List.mem_range.mpr hq.2, rfl⟩
      have x₂ := x.off (Off.setL σ₁ hD.fresh : Off σ₁.Fresh σ₁ (σ₁.setL D ys))
      obtain ⟨dF, h1, h2, h3⟩ := x₂.fl
      have gF : ∀ u ∈ G.V, GI (σ₁.setL D ys) (.ref aF) (.int u) (.int (f u)) := fun u hu => by
        have := GI.dI h1 (k := u) (by rw [h2]; exact (x.vf u).mpr hu)
        rwa [h3 u hu] at this
      have da := x.deg _ haV
      have db := x.deg _ hbV
      show PT _ _ _ _ _ _ (decide (f (nm ia) = f (nm ib)) && (decide (((G.adj (nm ia)).length : Int) < (k : Int) - 1) && (decide (((G.adj (nm ib)).length : Int) < (k : Int) - 1) && true)))
      exact PT.bool (PA.and_cons (PT.cmp (PE.sub_ (by exact hA) (PE.name rfl) (PE.sub_ (by exact hA) (PE.name rfl) PE.int .fst) (gF _ haV)) (PE.sub_ (by exact hA) (PE.name rfl) (PE.sub_ (by exact hA) (PE.name rfl) PE.int .snd) (gF _ hbV)) .eq)
        fun _ => PA.and_cons (PT.cmp (PE.len (n := (G.adj (nm ia)).length) (PE.builtin (by exact hB) bn.len.1 bn.len.2) (PE.sub_ (by exact hA) (PE.name rfl) (PE.sub_ (by exact hA) (PE.name rfl) PE.int .fst) (x₂.gl.gi haV)) (.inl ⟨_, _, rfl, x₂.gl.list _ haV, by rw [List.length_map]⟩) (by omega)) (PE.sub (PE.name rfl) PE.int) .lt)
        fun _ => PA.and_cons (PT.cmp (PE.len (n := (G.adj (nm ib)).length) (PE.builtin (by exact hB) bn.len.1 bn.len.2) (PE.sub_ (by exact hA) (PE.name rfl) (PE.sub_ (by exact hA) (PE.name rfl) PE.int .snd) (x₂.gl.gi hbV)) (.inl ⟨_, _, rfl, x₂.gl.list _ hbV, by rw [List.length_map]⟩) (by omega)) (PE.sub (PE.name rfl) PE.int) .lt)
        fun _ => PA.and_nil)
    · rw [room_filter]
      have o₂ : Off σ₁.Fresh σ₁ (σ₁.setL aR ((roomL k s nm G f).map (pav nm))) := .setL _ hR.fresh
      have hRl := setL_list σ₁ aR ((roomL k s nm G f).map (pav nm))
      have x₂ := x.off o₂
      have oo₂ := o.rxF o₂
      generalize σ₁.setL aR ((roomL k s nm G f).map (pav nm)) = σ₂ at *
      have hlen : (roomL k s nm G f).length ≤ 66 := Nat.le_trans (List.length_filter_le _ _) hp66
      refine SX.cons (S1.iteV (TV.cmp (R := fun av σ' => av = .ref aR ∧ σ₂ = σ') ((PE.name rfl).ev ⟨rfl, rfl⟩) ?_))
      rintro _ _ ⟨rfl, rfl⟩
      refine EV.listLit .nil (by decide) fun D8 hD8 => ⟨_, CP.neNil hA (xs := (roomL k s nm G f).map (pav nm)) ((Off.setL _ hD8.fresh : Off σ₂.Fresh _ _).list' hRl) (setL_list _ _ _), ?_⟩
      have o₃ : Off σ₂.Fresh σ₂ (σ₂.setL D8 []) := .setL _ hD8.fresh
      have hRl₃ := o₃.list' hRl
      have x₃ := x₂.off o₃
      have oo₃ := oo₂.rxF o₃
      generalize σ₂.setL D8 [] = σ₃ at *
      by_cases hz : (roomL k s nm G f) = []
      · have hi1 : 1 ≤ i := Classical.byContradiction fun h => by
          have h0 : i = 0 := by omega
          have := roomL_pos (nm := nm) x.ok rc.hV k2 s2 (hsz 0 h0K) (hd h0)
          rw [hz] at this; cases this
        simp only [hz, List.map_nil, List.isEmpty_nil, Bool.not_true, Bool.false_eq_true, if_false]
        refine SX.nil (SX.nil ⟨n, ?_, fun _ => hn hi1, G, f, cls, rfl, x₃, hp, hsz, oo₃, fun h => by omega⟩)
        exact ((RLe.refl _).skip _).skip _
      · have hne : ((roomL k s nm G f).map (pav nm)).isEmpty = false := by
          rw [List.isEmpty_eq_false_iff]
          intro h
          exact hz (List.map_eq_nil_iff.mp h)
        simp only [hne, Bool.not_false, if_true]
        refine roundA F2 F3 hA hB bn.len bsum rc oo₃ x₃ hp hRl₃ (fun q hq => roomL_mem hq) (List.length_pos_iff.mpr hz) hlen hi fun va vb aN aH σ₄ haV hbA hff hfree x₄ S₄ oo₄ hNH nN nH rN rH => ?_
        have rc₂ : RC σ₀ D M aK Pp t2 t3 q2 q3 aF aC aL dC dL lc ll (G.add va vb).V VF nm ns k s := rc
        have hsz₂ : ∀ c ∈ dC.keys, sz (G.add va vb) f c = s := hsz
        refine roundE F9 F10 hA hB bn.len bsort rc₂ oo₄ x₄ hNH nN nH S₄ haV hbA hff hi fun Y aE σ₅ hY o₅ => ?_
        refine roundF F4 F5 F6 hT F9 F10 F11 hA hB bn bsort bae hfr rc₂ (oo₄.rxF o₅) (x₄.off o₅) hNH nN nH rN rH (S₄.offF o₅) haV rfl hY hfree hsz₂ fun σ₆ f' cls' x₆ hp₆ hs₆ oo₆ => ?_
        refine roundG hA hB bn.len rc₂ oo₆ x₆ hp₆ hs₆ fun σ₇ o₇ => ?_
        refine SX.cons (S1.augAdd rfl PE.int ?_)
        refine SX.nil (SX.nil ⟨n + 1, rρ5_le, fun _ => by omega, G.add va vb, f', cls', rfl, x₆.off o₇, hp₆, hs₆, oo₆.rxF o₇, fun h => by omega⟩)
  · rintro ρ' σ₁ ⟨n, hle, hn, _, _, _, _, _, _, _, o, _⟩
    rw [rangeL_len] at hn
    have hn := hn (by omega)
    refine SX.nil (SX.weaken (ρ₀ := ("rounds", .int n) :: ("C", .ref aC) :: lawρ2 l D M R aF aK aL Pp k s) ?_ hle (.refl _))
    refine SX.cons (S1.ret ((PE.cmp (PE.name rfl) PE.int CP.gt).ev ?_))
    rw [decide_eq_true (by omega)]
    exact q _ _ (rc.tab2' o) (rc.tab3' o)
end
end Mine

/-! P49 -/
namespace Mine
theorem onto {n : Nat} {g : Nat → Nat} (lt : ∀ i < n, g i < n) (inj : ∀ i < n, ∀ j < n, g i = g j → i = j) : ∀ j < n, ∃ i < n, g i = j := fun j hj => Classical.byContradiction fun hno => by
  have hnd : ((j : Int) :: (List.range n).map fun i => (g i : Int)).Nodup := by
    rw [List.nodup_cons]
    refine ⟨fun h => ?_, ?_⟩
    · obtain ⟨i, hi, e⟩ := List.mem_map.mp h
      rw [List.mem_range] at hi
      exact hno ⟨i, hi, by omega⟩
    · rw [List.Nodup, List.pairwise_map]
      refine List.Pairwise.imp_of_mem (fun {a b} ha hb h e => ?_) (List.nodup_range (n := n))
      rw [List.mem_range] at ha hb
      exact h (inj a ha b hb (by omega))
  have := length_le_of_nodup hnd (m := (List.range n).map fun i : Nat => (i : Int)) fun x hx => by
    rcases List.mem_cons.mp hx with rfl | hx
    · exact List.mem_map.mpr ⟨j, List.mem_range.mpr hj, rfl⟩
    · obtain ⟨i, hi, rfl⟩ := List.mem_map.mp hx
      rw [List.mem_range] at hi
      exact List.mem_map.mpr ⟨g i, List.mem_range.mpr (lt i hi), rfl⟩
  simp at this
  omega
/-- the int of a value, its address -/
def AV.int! : AV → Int | .int i => i | _ => 0
def AV.ref! : AV → Addr | .ref a => a | _ => 0
section
variable {prog : Program} {w : World} {c : Cx} {ρ : Rho} {σ : AH}
theorem SX.kinds {ss : List Stmt} {Q : AF → Rho → AH → Prop} (h : (∀ a xs, σ.list a = some xs → σ.dI a = none) → (∀ a d, σ.dI a = some d → σ.tab a = none) → SX prog w c ρ σ ss Q) : SX prog w c ρ σ ss Q := fun s S =>
  h (fun a xs e => (S.sees.onlyL e).1) (fun a d e => (S.sees.onlyD e).2.2.2) s S
end
section
variable {prog : Program} {w : World} {A : Around} {B : Basis} {P : Pins} {pm cd doc dV : Value} {L fa l : Addr} {σ : AH} {xs : List Int} {t2 t3 q2 q3 : Addr}
theorem law_body {m : Nat} {f1 f2 f3 f4 f5 f6 f8 f9 f10 f11 T6 : Addr} {cd1 cd4 cd5 cd6 cd8 cd9 cd10 cd11 : Value} {Q : AF → Rho → AH → Prop} (F1 : Fn B 1 f1 cd1 .none) (F2 : Fn B 2 f2 (.ref q2) .none) (F3 : Fn B 3 f3 (.ref q3) .none) (F4 : Fn B 4 f4 cd4 .none) (F5 : Fn B 5 f5 cd5 .none)
    (F6 : Fn B 6 f6 cd6 (.ref T6)) (hT : ∃ o n, B.h₀.get? T6 = some o ∧ o.data = .seq #[.none] n) (F8 : Fn B 8 f8 cd8 .none) (F9 : Fn B 9 f9 cd9 .none) (F10 : Fn B 10 f10 cd10 .none) (F11 : Fn B 11 f11 cd11 .none)
    (hA : Rm (calleeCx A B P (FD 12 pm cd doc dV .none) L fa).A (m + 5)) (hB : B.OK) (bn : Bn B) (bsum : B.mg "sum" = none ∧ B.mb "sum" = some (.builtin "sum")) (brange : B.mg "range" = none ∧ B.mb "range" = some (.type "range"))
    (blist : B.mg "list" = none ∧ B.mb "list" = some (.type "list")) (bsort : B.mg "sorted" = none ∧ B.mb "sorted" = some (.builtin "sorted")) (bae : B.mg "AssertionError" = none ∧ B.mb "AssertionError" = some (.type "AssertionError"))
    (hfr : A.frames = some []) (hl : PinL B l xs) (hz : xs.length ≤ 63) (ht2 : σ.tab t2 = some q2) (ht3 : σ.tab t3 = some q3)
    (q : ∀ ρ' σ', σ'.tab t2 = some q2 → σ'.tab t3 = some q3 → Q (.ret (.bool true)) ρ' σ') :
    SX prog w (calleeCx A B P (FD 12 pm cd doc dV .none) L fa) [("script", .ref l)] σ (stBody (stAt 12)) Q := by
  have hfr' : (calleeCx A B P (FD 12 pm cd doc dV .none) L fa).A.frames = some [(calleeCx A B P (FD 12 pm cd doc dV .none) L fa).env] := by
    show A.frames.map _ = _
    rw [hfr]; rfl
  have hA1 : Rm (calleeCx A B P (FD 12 pm cd doc dV .none) L fa).A (0 + 1) := hA.mono (by omega)
  refine lawA F8 hA1 hB bn.len blist brange hl hz fun D M R ns k s nm g σA la => ?_
  refine lawB hA1 hB blist brange la fun aF dF aK σB la lf hK => ?_
  refine lawC hA1 hB la fun aL dL σC oC ll0 => ?_
  have k2 := la.k2
  have k4 := la.k4
  have s2 := la.s2
  have s3 := la.s3
  have hn12 : k * s ≤ 12 := Nat.le_trans (Nat.mul_le_mul k4 s3) (by decide)
  have hn1 : 1 ≤ k * s := Nat.le_trans (by decide) (Nat.mul_le_mul k2 s2)
  obtain ⟨V, hV⟩ : ∃ V, V = (List.range (k * s)).map nm := ⟨_, rfl⟩
  obtain ⟨ll, hll⟩ : ∃ ll : Int → Addr, ll = fun v => (dL.val v).ref! := ⟨_, rfl⟩
  obtain ⟨f, hf⟩ : ∃ f : Int → Int, f = fun v => (dF.val v).int! := ⟨_, rfl⟩
  have hVm : ∀ v, v ∈ V ↔ ∃ j < k * s, v = nm j := fun v => by
    rw [hV, List.mem_map]
    constructor
    · rintro ⟨j, hj, rfl⟩; exact ⟨j, List.mem_range.mp hj, rfl⟩
    · rintro ⟨j, hj, rfl⟩; exact ⟨j, List.mem_range.mpr hj, rfl⟩
  have hllv : ∀ v ∈ V, dL.val v = .ref (ll v) ∧ σC.list (ll v) = some [] ∧ σB.Fresh (ll v) := fun v hv => by
    obtain ⟨j, hj, rfl⟩ := (hVm v).mp hv
    obtain ⟨a, h1, h2, h3⟩ := ll0.val j hj
    have e : ll (nm j) = a := by rw [hll]; show (dL.val (nm j)).ref! = a; rw [h1]; rfl
    rw [e]; exact ⟨h1, h2, h3⟩
  have llinj : ∀ v ∈ V, ∀ w ∈ V, ll v = ll w → v = w := fun v hv w hw e => by
    obtain ⟨i, hi, rfl⟩ := (hVm v).mp hv
    obtain ⟨j, hj, rfl⟩ := (hVm w).mp hw
    have h1 := (hllv _ hv).1
    have h2 := (hllv _ hw).1
    rw [← e] at h2
    rw [ll0.inj i hi j hj _ h1 h2]
  have fg : ∀ i < k * s, f (nm (g i)) = (i % k : Nat) := fun i hi => by rw [hf]; show (dF.val (nm (g i))).int! = _; rw [lf.val i hi]; rfl
  have hFk : ∀ v, v ∈ dF.keys ↔ v ∈ V := fun v => by
    rw [lf.keys, hVm]
    constructor
    · intro h
      obtain ⟨i, hi, rfl⟩ := List.mem_map.mp h
      exact ⟨g i, la.lt i (List.mem_range.mp hi), rfl⟩
    · rintro ⟨j, hj, rfl⟩
      obtain ⟨i, hi, rfl⟩ := onto la.lt la.ginj j hj
      exact List.mem_map.mpr ⟨i, List.mem_range.mpr hi, rfl⟩
  have hFv : ∀ v ∈ V, dF.val v = .int (f v) := fun v hv => by
    have := (hFk v).mpr hv
    rw [lf.keys] at this
    obtain ⟨i, hi, rfl⟩ := List.mem_map.mp this
    rw [lf.val i (List.mem_range.mp hi), fg i (List.mem_range.mp hi)]
  have Vnd : V.Nodup := by
    rw [hV, List.Nodup, List.pairwise_map]
    refine List.Pairwise.imp_of_mem (fun {a b} ha hb h e => ?_) (List.nodup_range (n := k * s))
    rw [List.mem_range] at ha hb
    exact h (la.inj a ha b hb e)
  have Fnd : dF.keys.Nodup := by
    rw [lf.keys, List.Nodup, List.pairwise_map]
    refine List.Pairwise.imp_of_mem (fun {a b} ha hb h e => ?_) (List.nodup_range (n := k * s))
    rw [List.mem_range] at ha hb
    exact h (la.ginj a ha b hb (la.inj _ (la.lt a ha) _ (la.lt b hb) e))
  have laC := la.off' oC
  have lfC := lf.off' oC
  have hKC := oC.list' hK
  refine lawD hA1 hB brange laC fun Pp hPp => ?_
  have oD : Off σC.Fresh σC (σC.setL Pp ((ipairs (k * s)).map (pav nm))) := .setL _ hPp.fresh
  have hPl := setL_list σC Pp ((ipairs (k * s)).map (pav nm))
  have hPB : σB.Fresh Pp := oC.freshX (fun _ h => h) hPp.fresh
  generalize σC.setL Pp ((ipairs (k * s)).map (pav nm)) = σD at *
  have laD := laC.off' oD
  have lfD := lfC.off' oD
  have hKD := oD.list' hKC
  have know : ∀ a x, σB.list a = some x → ∀ v ∈ V, ll v ≠ a := fun a x h v hv e => by have := (hllv v hv).2.2.1; rw [e, h] at this; cases this
  have llP : ∀ v ∈ V, ll v ≠ Pp := fun v hv e => by have := hPp.fresh.1; rw [← e, (hllv v hv).2.1] at this; cases this
  have llF : ∀ v ∈ V, ll v ≠ aF := fun v hv e => by have := (hllv v hv).2.2.2.1; rw [e, lf.at_] at this; cases this
  have hFL : aF ≠ aL := fun e => by
    have h1 := lfC.at_
    rw [e, ll0.at_] at h1
    cases h1
    have h0 : nm 0 ∈ V := (hVm _).mpr ⟨0, by omega, rfl⟩
    have h2 := (hllv _ h0).1
    rw [hFv _ h0] at h2
    cases h2
  obtain ⟨G₀, hG₀⟩ : ∃ G₀ : Gr, G₀ = ⟨V, fun _ => []⟩ := ⟨_, rfl⟩
  have gs₀ : Made σD f (k * s) nm ll aL dL (k - 2) 0 G₀ σD := by
    subst hG₀
    exact {
      V := hV
      ok := ⟨Vnd, fun _ _ => .nil, fun _ _ _ h => (by cases h), fun _ _ h => (by cases h), fun _ _ _ h => (by cases h)⟩
      gl := ⟨oD.dI' ll0.at_, by rw [ll0.keys]; exact hV.symm, fun v hv => (hllv v hv).1, fun v hv => oD.list' (hllv v hv).2.1, ll0.nm⟩
      proper := fun v hv => rfl
      deg := fun v hv => Nat.zero_le _
      only := fun i hi j hj h => by cases h
      off := .refl _ _ }
  refine lawE hA1 hB brange bn.len laD lfD (fun v hv => ⟨(hFk v).mpr (hV ▸ hv), hFv v (hV ▸ hv)⟩) hPl (by rw [← hV]; exact llinj) (fun v hv => ⟨know _ _ la.nums v (hV ▸ hv), llP v (hV ▸ hv), llF v (hV ▸ hv)⟩) gs₀ fun G σE gs => ?_
  have hGV : G.V = V := gs.V.trans hV.symm
  have nx : ∀ a, (∀ v ∈ V, ll v ≠ a) → ¬ ∃ v ∈ (List.range (k * s)).map nm, a = ll v := fun a h ⟨v, hv, e⟩ => h v (hV ▸ hv) e.symm
  have lfE : LF σE aF dF k s nm g := { lfD with at_ := (gs.off.dI aF (nx _ llF)).trans lfD.at_ }
  have hDE := (gs.off.list D (nx _ (know _ _ la.nums))).trans laD.nums
  have hME := (gs.off.list M (nx _ (know _ _ la.names))).trans laD.names
  have hKE := (gs.off.list aK (nx _ (know _ _ hK))).trans hKD
  have hPE := (gs.off.list Pp (nx _ llP)).trans hPl
  have tabs : ∀ t qq, σ.tab t = some qq → σE.tab t = some qq ∧ ∀ v ∈ V, ll v ≠ t := fun t qq h => by
    have hB' := la.off.tab' h
    have hne : ∀ v ∈ V, ll v ≠ t := fun v hv e => by have := (hllv v hv).2.2.2.2.2.2; rw [e, hB'] at this; cases this
    exact ⟨(gs.off.tab t (nx _ hne)).trans (oD.tab' (oC.tab' hB')), hne⟩
  obtain ⟨ht2E, ll2⟩ := tabs _ _ ht2
  obtain ⟨ht3E, ll3⟩ := tabs _ _ ht3
  refine lawF F1 hA1 hB bn.len bsort k2 k4 s2 s3 lfE fg hKE fun aC dC lc σM σ₂ M₁ hmem o₂ => ?_
  refine SX.kinds fun kin kin2 => ?_
  have oo := M₁.off.transF o₂
  have lcne : ∀ c ∈ dC.keys, ∀ a, ¬ σE.Fresh a → lc c ≠ a := fun c hc a h e => h (e ▸ M₁.fresh c hc)
  have nfL : ∀ {a x}, σE.list a = some x → ¬ σE.Fresh a := fun h fr => by rw [fr.1] at h; cases h
  have nfT : ∀ {a x}, σE.tab a = some x → ¬ σE.Fresh a := fun h fr => by rw [fr.2.2.2.2] at h; cases h
  have nx2 : ∀ a, ¬ σE.Fresh a → (∀ v ∈ V, ll v ≠ a) → a ≠ aF → ¬ RX σ₂ V aF dC lc ll a := fun a h1 h2 h3 h => by
    rcases h with h | ⟨c, hc, h⟩ | ⟨v, hv, h⟩ | h
    · exact h3 h
    · exact lcne c hc a h1 h.symm
    · exact h2 v hv h.symm
    · exact h1 (oo.freshX (fun _ h => h) h)
  have neL : ∀ {a x}, σ₂.list a = some x → a ≠ aF := fun h e => by have := kin _ _ h; rw [e, oo.dI' lfE.at_] at this; cases this
  have neT : ∀ {a x}, σ₂.tab a = some x → a ≠ aF := fun h e => by have := kin2 _ _ (oo.dI' lfE.at_); rw [← e, h] at this; cases this
  have hperm : dC.keys.Perm (rangeL 0 1 k) := (List.perm_ext_iff_of_nodup M₁.nodup (rangeL_nodup k)).mpr hmem
  have klen : dC.keys.length = k := by rw [hperm.length_eq]; simp [rangeL]
  have gl₂ : GL G σ₂ aL dL ll := gs.gl.off oo
  have rc : RC σ₂ D M aK Pp t2 t3 q2 q3 aF aC aL dC dL lc ll V dF.keys nm ns k s := {
    k2 := k2, k4 := k4, s2 := s2, s3 := s3
    hV := hV
    inj := la.inj
    len := la.len
    nums := oo.list' hDE
    names := by rw [oo.list' hME, hV, List.map_map]; rfl
    cols := oo.list' hKE
    pairs := oo.list' hPE
    tab2 := oo.tab' ht2E
    tab3 := oo.tab' ht3E
    keys := hmem
    ap := {
      fc := fun e => by have := M₁.fC.2.1; rw [← e, lfE.at_] at this; cases this
      fl := hFL
      lcinj := M₁.inj
      llinj := llinj
      lcll := fun c hc v hv => lcne c hc _ (nfL (gs.gl.list v (hGV ▸ hv)))
      zf := by rw [lf.keys, List.length_map, List.length_range]; exact hn12
      zv := by rw [hV, List.length_map, List.length_range]; exact hn12
      zk := by rw [klen]; exact k4 }
    nx := fun x hx => by
      rcases hx with rfl | rfl | rfl | rfl | rfl | rfl
      · exact nx2 _ (nfL hDE) (know _ _ la.nums) (neL (oo.list' hDE))
      · exact nx2 _ (nfL hME) (know _ _ la.names) (neL (oo.list' hME))
      · exact nx2 _ (nfL hKE) (know _ _ hK) (neL (oo.list' hKE))
      · exact nx2 _ (nfL hPE) llP (neL (oo.list' hPE))
      · exact nx2 _ (nfT ht2E) ll2 (neT (oo.tab' ht2E))
      · exact nx2 _ (nfT ht3E) ll3 (neT (oo.tab' ht3E)) }
  have x : RSw k dF.keys aF aC aL dC dL lc ll G f (fun c => dF.keys.filter fun v => f v == c) σ₂ := {
    ok := gs.ok
    gl := gl₂
    cl := ⟨o₂.dI' M₁.at_, M₁.nodup, M₁.val, fun c hc => o₂.list' (M₁.list c hc), M₁.nC⟩
    fl := ⟨dF, oo.dI' lfE.at_, rfl, fun v hv => hFv v (hGV ▸ hv)⟩
    vf := fun v => by rw [hGV]; exact hFk v
    fK := fun v hv => (M₁.keys _).mpr ⟨v, (hFk v).mpr (hGV ▸ hv), rfl⟩
    mem := fun c hc v => by rw [List.mem_filter, hGV, hFk]; simp
    nodup := fun c hc => Fnd.filter _
    deg := fun v hv => by have := gs.deg v hv; omega }
  have hsz : ∀ c ∈ dC.keys, sz G f c = s := fun c hc => by
    obtain ⟨j, hj, rfl⟩ := rangeL_mem.mp ((hmem c).mp hc)
    have h1 := lf.count fg k2 k4 s2 s3 hj
    have h2 : (G.V.filter fun v => f v == (j : Int)).Perm (dF.keys.filter fun v => f v == (j : Int)) :=
      (((List.perm_ext_iff_of_nodup (hGV ▸ Vnd) Fnd).mpr fun v => by rw [hFk, hGV]).filter _)
    rw [sz_filter, h2.length_eq, h1]
  exact lawG F2 F3 F4 F5 F6 hT F9 F10 F11 hA hB bn bsum brange bsort bae hfr' rc x hGV gs.proper hsz gs.deg q
end
end Mine

/-! P50 -/
namespace Mine
/-- what the written heap says of the i-th def -/
structure KF (K : Frag) (i a c : Nat) (dV : Value) : Prop where
  name : nsIn K mainGlobals (stName (stAt i)) = some (some (.ref a))
  obj : ∃ o pm doc, K.lookup a = some o ∧ o.data = .func (FD i pm (.ref c) doc dV .none)
  code : codeIn K (.ref c) (stName (stAt i)) = true
/-- what the written heap says of a def that makes generators -/
structure KTab (view : Program) (K : Frag) (i a c t : Nat) : Prop where
  fn : KF K i a c .none
  rec_ : ((recsOf view).find? (fun e => e.name == stName (stAt i))).isSome = true
  tab : ∃ o vs, K.lookup c = some o ∧ o.data = .fields vs ∧ vs[11]? = some (.ref t)
  none_ : K.lookup t = none
/-- the heap without the two tables -/
def stripT (h : Heap) : Heap := strip h fun b => b == 23 || b == 28
theorem stripT_get {h : Heap} {b : Addr} {o : Obj} (h1 : b ≠ 23) (h2 : b ≠ 28) (e : h.get? b = some o) : (stripT h).get? b = some o := by
  unfold stripT
  rw [strip_get, if_neg (by simp [h1, h2]), e]
theorem stripT_none {h : Heap} {b : Addr} (hb : b = 23 ∨ b = 28) : (stripT h).get? b = none := by
  unfold stripT
  rw [strip_get, if_pos (by rcases hb with rfl | rfl <;> rfl)]
theorem ns_strip {h : Heap} {a : Addr} {m : Str → Option Value} (x : h.Ns a m) (h1 : a ≠ 23) (h2 : a ≠ 28) : (stripT h).Ns a m := by
  obtain ⟨o, es, ep, ho, r⟩ := x
  exact ⟨o, es, ep, stripT_get h1 h2 ho, r⟩
section
variable {prog : Program} {w : World} {s₁ : Shared} {K : Frag} {view : Program} {loose : List Str} {mean : ExcName → Option Value} {mg mb : Str → Option Value}
theorem KF.mgl (x : KF K i a c dV) (KX : K.In s₁.heap) (T : Top view loose mean mg mb s₁.heap) : mg (stName (stAt i)) = some (.ref a) := mg_of KX T.g x.name
theorem KF.fn {B : Basis} (x : KF K i a c dV) (KX : K.In B.h₀) (hm : B.mg (stName (stAt i)) = some (.ref a)) : Fn B i a (.ref c) dV := by
  obtain ⟨o, pm, doc, h1, h2⟩ := x.obj
  exact ⟨pm, doc, hm, ⟨o, KX _ _ h1, h2⟩, codeRec_of KX x.code, rfl, rfl, rfl, rfl⟩
theorem KTab.trep {i a c t : Nat} (x : KTab view K i a c t) (KX : K.In s₁.heap) (T : Top view loose mean mg mb s₁.heap) : s₁.heap.TableAt c t #[] ∧ s₁.heap.IsCode c t #[] := by
  obtain ⟨d, hd⟩ := Option.isSome_iff_exists.mp x.rec_
  have hn : d.name = stName (stAt i) := beq_iff_eq.mp (List.find?_some (p := fun e : DefRec => e.name == stName (stAt i)) hd)
  obtain ⟨a', o', fd', c', P, h1, h2, h3, h4, h5, h6⟩ := T.tab d (List.mem_of_find?_eq_some hd)
  rw [hn, x.fn.mgl KX T] at h1
  cases h1
  obtain ⟨o, pm, doc, k1, k2⟩ := x.fn.obj
  rw [KX _ _ k1] at h2
  cases h2
  rw [k2] at h3
  cases h3
  have h4 : Value.ref c = .ref c' := h4
  cases h4
  obtain ⟨oc, vs, k3, k4, k5⟩ := x.tab
  have h6' := h6
  obtain ⟨⟨oc', vs', e1, e2, e3, e4⟩, _⟩ := h6'
  rw [KX _ _ k3] at e1
  cases e1
  rw [k4] at e3
  cases e3
  rw [k5] at e4
  cases e4
  exact ⟨h6, h5⟩
/-- the names of builtins, all free in the program -/
def freeB (K : Frag) : Bool := (["len", "set", "reversed", "sum", "range", "list", "sorted", "AssertionError"] : List Str).all fun x => nsIn K mainGlobals x == some none
theorem head_core {l : Addr} {vs : List Value} {xs : List Int} (T : Top view loose mean mg mb s₁.heap) (KX : K.In s₁.heap) (k1 : KF K 1 21 20 .none) (k2 : KTab view K 2 26 25 23) (k3 : KTab view K 3 31 30 28) (k4 : KF K 4 38 37 .none) (k5 : KF K 5 43 42 .none)
    (k6 : KF K 6 49 48 (.ref 44)) (k6d : ∃ o n, K.lookup 44 = some o ∧ o.data = .seq #[.none] n) (k8 : KF K 8 54 53 .none) (k9 : KF K 9 59 58 .none) (k10 : KF K 10 64 63 .none) (k11 : KF K 11 71 70 .none) (k12 : KF K 12 76 75 .none)
    (hf : ∀ x ∈ (["len", "set", "reversed", "sum", "range", "list", "sorted", "AssertionError"] : List Str), nsIn K mainGlobals x = some none)
    (hl : s₁.heap.IsList l vs.toArray) (hi : IntsAre vs xs) (hz : xs.length ≤ 63) (hg : AllBare s₁.gens) :
    wpAny (model prog w) callerA (call (.ref (76 : Nat)) [.ref l]) (fun v s' => v = .bool true ∧ OldK s₁.heap s'.heap ∧ s'.os = s₁.os ∧ AllBare s'.gens) NoE s₁ := by
  obtain ⟨t2, c2⟩ := k2.trep KX T
  obtain ⟨t3, c3⟩ := k3.trep KX T
  have cls23 : ∀ o, s₁.heap.get? 23 = some o → o.cls = .none := fun o e => by rw [t2.2] at e; cases e; rfl
  have cls28 : ∀ o, s₁.heap.get? 28 = some o → o.cls = .none := fun o e => by rw [t3.2] at e; cases e; rfl
  have keep : ∀ b o, s₁.heap.get? b = some o → o.cls ≠ .none → (stripT s₁.heap).get? b = some o := fun b o e hc =>
    stripT_get (fun q => hc (cls23 o (q ▸ e))) (fun q => hc (cls28 o (q ▸ e))) e
  have KX' : K.In (stripT s₁.heap) := fun b o e => stripT_get (fun q => by rw [q, k2.none_] at e; cases e) (fun q => by rw [q, k3.none_] at e; cases e) (KX b o e)
  have stat : ∃ o, (stripT s₁.heap).get? cStatics = some o := by
    obtain ⟨mc, ⟨o, es, ep, ho, _⟩, _⟩ := T.nolimit
    exact ⟨o, stripT_get (by decide) (by decide) ho⟩
  obtain ⟨B, hB⟩ : ∃ B : Basis, B = { h₀ := stripT s₁.heap, stat := stat, os := s₁.os, mg := mg, mb := mb } := ⟨_, rfl⟩
  have e0 : B.h₀ = stripT s₁.heap := by rw [hB]
  have e1 : B.mg = mg := by rw [hB]
  have e2 : B.mb = mb := by rw [hB]
  have e3 : B.os = s₁.os := by rw [hB]
  clear hB
  have hB : B.OK := by
    refine ⟨?_, ?_, ?_, ?_⟩
    · rw [e0, e1]; exact ns_strip T.g (by decide) (by decide)
    · rw [e0, e2]; exact ns_strip T.b (by decide) (by decide)
    · rw [e0]
      obtain ⟨mc, h1, h2⟩ := T.nolimit
      exact ⟨mc, ns_strip h1 (by decide) (by decide), h2⟩
    · rw [e0, e1]
      obtain ⟨bm, ob, b1, b2, b3, b4, b5, b6⟩ := T.bmain
      exact ⟨bm, ob, ⟨ns_strip T.g (by decide) (by decide), b1, b2, keep _ _ b3 (by rw [b4]; exact fun q => by cases q), b4, b5, b6⟩⟩
  have KB : K.In B.h₀ := by rw [e0]; exact KX'
  have fn : ∀ {i a c : Nat} {dV : Value}, KF K i a c dV → Fn B i a (.ref c) dV := fun x => x.fn KB (by rw [e1]; exact x.mgl KX T)
  have bi : ∀ (x : Str) (v : Value), x ∈ (["len", "set", "reversed", "sum", "range", "list", "sorted", "AssertionError"] : List Str) → x ≠ "__name__" → bootBuiltins x = some v → B.mg x = none ∧ B.mb x = some v := fun x v hx hn hv => by
    rw [e1, e2]
    exact ⟨mg_none_of KX T.g (hf x hx), (T.builtins x hn).trans hv⟩
  have hT : ∃ o n, B.h₀.get? (44 : Nat) = some o ∧ o.data = .seq #[.none] n := by
    obtain ⟨o, n, h1, h2⟩ := k6d
    exact ⟨o, n, KB _ _ h1, h2⟩
  have hP : PinL B l xs := by
    obtain ⟨o, ho, hc, r⟩ := hl
    exact ⟨vs, ⟨o, by rw [e0]; exact keep _ _ ho (by rw [hc]; exact fun q => by cases q), hc, r⟩, hi⟩
  obtain ⟨σ, hσ⟩ : ∃ σ : AH, σ = { list := fun _ => none, dI := fun _ => none, dP := fun _ => none, set := fun _ => none, tab := fun b => if b = 23 then some 25 else if b = 28 then some 30 else none } := ⟨_, rfl⟩
  have ht2 : σ.tab 23 = some 25 := by rw [hσ]; rfl
  have ht3 : σ.tab 28 = some 30 := by rw [hσ]; rfl
  have code2 : (B.h₀.get? (25 : Nat)).isSome = true := by
    obtain ⟨o, _, h1, _⟩ := k2.tab
    rw [KB _ _ h1]; rfl
  have code3 : (B.h₀.get? (30 : Nat)).isSome = true := by
    obtain ⟨o, _, h1, _⟩ := k3.tab
    rw [KB _ _ h1]; rfl
  have C : Core prog w B B.h₀.get? σ s₁ := by
    refine ⟨⟨fun b o e => e, fun b o e => ?_, fun b o e => ?_, fun a xs e => ?_, fun a xs e => ?_, fun a xs e => ?_, fun a xs e => ?_, fun a d e => ?_, fun a k e => ?_⟩, e3.symm, hg⟩
    · rw [e0] at e; exact strip_stays b o e
    · rw [hσ]
      refine ⟨rfl, rfl, rfl, rfl, ?_⟩
      rw [e0] at e
      show (if b = 23 then some 25 else if b = 28 then some 30 else none) = none
      have n1 : b ≠ 23 := fun q => by rw [stripT_none (.inl q)] at e; cases e
      have n2 : b ≠ 28 := fun q => by rw [stripT_none (.inr q)] at e; cases e
      rw [if_neg n1, if_neg n2]
    · rw [hσ] at e; cases e
    · rw [hσ] at e; cases e
    · rw [hσ] at e; cases e
    · rw [hσ] at e; cases e
    · rw [hσ] at e; cases e
    · rw [hσ] at e
      have e : (if a = 23 then some 25 else if a = 28 then some 30 else none) = some k := e
      split at e
      · rename_i h; subst h; cases e; exact ⟨⟨_, t2, c2⟩, code2⟩
      · split at e
        · rename_i h; subst h; cases e; exact ⟨⟨_, t3, c3⟩, code3⟩
        · cases e
  have bn : Bn B := ⟨bi "len" _ (by simp) (by decide) (by kernel_rfl), bi "set" _ (by simp) (by decide) (by kernel_rfl), bi "reversed" _ (by simp) (by decide) (by kernel_rfl)⟩
  obtain ⟨pm, doc, F⟩ := (fn k12).fn
  have hA : Rm callerA 6 := ⟨rfl, by decide, by decide⟩
  refine wpAny_mono (call_fn (n := 5) (ρ' := [("script", .ref l)]) (Q := fun av σ' => av = .bool true ∧ σ'.tab 23 = some 25 ∧ σ'.tab 28 = some 30) hA hB F C (.of_eq rfl) (.cons (.ref l) .nil) (by simp) (fun x hx => ?_) (fun L hA => ?_) rfl rfl rfl rfl) (fun v s' h => ?_) fun _ _ e => e
  · simp only [List.map_cons, List.map_nil, List.mem_singleton] at hx
    subst hx
    exact .inl rfl
  · exact law_body (m := 0) (fn k1) (fn k2.fn) (fn k3.fn) (fn k4) (fn k5) (fn k6) hT (fn k8) (fn k9) (fn k10) (fn k11) hA hB bn (bi "sum" _ (by simp) (by decide) (by kernel_rfl)) (bi "range" _ (by simp) (by decide) (by kernel_rfl)) (bi "list" _ (by simp) (by decide) (by kernel_rfl))
      (bi "sorted" _ (by simp) (by decide) (by kernel_rfl)) (bi "AssertionError" _ (by simp) (by decide) (by kernel_rfl)) rfl hP hz ht2 ht3 fun _ _ h2 h3 => ⟨rfl, h2, h3⟩
  · obtain ⟨av, σ', hv, C', _, rfl, h2, h3⟩ := h
    have grown : ∀ b c : Addr, s₁.heap.TableAt c b #[] → σ'.tab b = some c → ∃ ps, s'.heap.get? b = some { cls := .none, data := .fields ps } := fun b c _ h => by
      obtain ⟨⟨ps, ht, _⟩, _⟩ := C'.sees.tab _ _ h
      exact ⟨ps, ht.2⟩
    have tabCase : ∀ b c : Addr, s₁.heap.TableAt c b #[] → σ'.tab b = some c → ∀ o, s₁.heap.get? b = some o → asItWas s₁.heap s'.heap b o ∧ ∃ o', s'.heap.get? b = some o' := fun b c t h o e => by
      obtain ⟨ps, hp⟩ := grown b c t h
      rw [t.2] at e
      cases e
      exact ⟨.inr (.inl ⟨t.isCodeTable, rfl, #[], ps, rfl, by rw [hp]; simp⟩), _, hp⟩
    have old : ∀ b o, s₁.heap.get? b = some o → asItWas s₁.heap s'.heap b o ∧ ∃ o', s'.heap.get? b = some o' := fun b o e => by
      by_cases q1 : b = 23
      · subst q1; exact tabCase _ _ t2 h2 o e
      · by_cases q2 : b = 28
        · subst q2; exact tabCase _ _ t3 h3 o e
        · have := C'.sees.keeps b o (by rw [e0]; exact stripT_get q1 q2 e)
          exact ⟨.inl this, o, this⟩
    exact ⟨hv.bool_inv, ⟨fun b o e => (old b o e).1, fun b o e => (old b o e).2⟩, C'.os.trans e3, C'.gens⟩
end
end Mine

/-! the head -/
namespace Mine
section
variable {prog : Program} {w : World} {s₁ : Shared} {K : Frag} {view : Program} {loose : List Str} {mean : ExcName → Option Value} {mg mb : Str → Option Value}
theorem head_fin {l fa : Addr} {vs : List Value} {xs : List Int} (KX : K.In s₁.heap) (T : Top view loose mean mg mb s₁.heap) (hmg : mg (stName (stAt 12)) = some (.ref fa)) (hl : s₁.heap.IsList l vs.toArray) (hi : IntsAre vs xs) (hz : ¬ (63 : Int) < xs.length) (hg : s₁.gens = #[])
    (k1 : KF K 1 21 20 .none) (k2 : KTab view K 2 26 25 23) (k3 : KTab view K 3 31 30 28) (k4 : KF K 4 38 37 .none) (k5 : KF K 5 43 42 .none)
    (k6 : KF K 6 49 48 (.ref 44)) (k6d : ∃ o n, K.lookup 44 = some o ∧ o.data = .seq #[.none] n) (k8 : KF K 8 54 53 .none) (k9 : KF K 9 59 58 .none) (k10 : KF K 10 64 63 .none) (k11 : KF K 11 71 70 .none) (k12 : KF K 12 76 75 .none)
    (hf : ∀ x ∈ (["len", "set", "reversed", "sum", "range", "list", "sorted", "AssertionError"] : List Str), nsIn K mainGlobals x = some none)
    {Q E : Value → Shared → Prop} (h : ∀ s', OldK s₁.heap s'.heap → s'.os = s₁.os → AllBare s'.gens → Q (.bool true) s') :
    wpAny (model prog w) callerA (call (.ref fa) [.ref l]) Q E s₁ := by
  have e : Value.ref fa = .ref 76 := Option.some.inj (hmg.symm.trans (k12.mgl KX T))
  cases e
  exact wpAny_mono (head_core T KX k1 k2 k3 k4 k5 k6 k6d k8 k9 k10 k11 k12 hf hl hi (by omega) (.of_eq hg)) (fun v s' ⟨h1, h2, h3, h4⟩ => by subst h1; exact h s' h2 h3 h4) fun _ _ e => e.elim
end
end Mine

namespace MineTop
set_option maxRecDepth 100000 in
set_option maxHeartbeats 8000000 in
open_top hd for PySem.Challenge.rw_at6021_01
end MineTop

set_option maxRecDepth 100000 in
set_option maxHeartbeats 8000000 in
theorem PySem.Challenge.cw_at6021_01_holds : PySem.Challenge.rw_at6021_01.Holds := by
  exact MineTop.hd (by
    intro w s₀ s₁ mg mb G Y fa o pm cd doc dV kV ho hd hcd hD hmg hg args vals as hpre hlay hrd hwl hlo
    have KX := kIn_of Y
    have T := G.T
    clear G Y ho hd hcd hD
    wrow_args hpre hlay hrd hwl hlo
    refine Mine.head_fin KX T hmg (by assumption) (by assumption) (by assumption) hg ⟨by kernel_rfl, ⟨_, _, _, rfl, rfl⟩, by kernel_rfl⟩ ⟨⟨by kernel_rfl, ⟨_, _, _, rfl, rfl⟩, by kernel_rfl⟩, by kernel_rfl, ⟨_, _, rfl, rfl, rfl⟩, by kernel_rfl⟩
      ⟨⟨by kernel_rfl, ⟨_, _, _, rfl, rfl⟩, by kernel_rfl⟩, by kernel_rfl, ⟨_, _, rfl, rfl, rfl⟩, by kernel_rfl⟩ ⟨by kernel_rfl, ⟨_, _, _, rfl, rfl⟩, by kernel_rfl⟩ ⟨by kernel_rfl, ⟨_, _, _, rfl, rfl⟩, by kernel_rfl⟩ ⟨by kernel_rfl, ⟨_, _, _, rfl, rfl⟩, by kernel_rfl⟩ ⟨_, _, rfl, rfl⟩
      ⟨by kernel_rfl, ⟨_, _, _, rfl, rfl⟩, by kernel_rfl⟩ ⟨by kernel_rfl, ⟨_, _, _, rfl, rfl⟩, by kernel_rfl⟩ ⟨by kernel_rfl, ⟨_, _, _, rfl, rfl⟩, by kernel_rfl⟩ ⟨by kernel_rfl, ⟨_, _, _, rfl, rfl⟩, by kernel_rfl⟩ ⟨by kernel_rfl, ⟨_, _, _, rfl, rfl⟩, by kernel_rfl⟩ ?_ ?_
    · intro x hx
      simp only [List.mem_cons, List.not_mem_nil, or_false] at hx
      rcases hx with rfl | rfl | rfl | rfl | rfl | rfl | rfl | rfl <;> kernel_rfl
    · intro s' h1 h2 h3
      refine ⟨.inl ⟨.bool true, .bool true, [], rfl, fun cls => ?_, ?_, ?_, fun _ => ⟨List.nodup_nil, fun a h => nomatch h⟩⟩, h1, h2, h3⟩
      · rfl
      · exact .bool true
      · wrow_post)
