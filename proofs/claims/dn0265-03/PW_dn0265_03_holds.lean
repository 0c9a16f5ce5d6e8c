import PyProof.Rows.All
import Wide.All
import OpenK.AllK
import Wide.FinOn
import PySem.Challenge.RW_dn0265_03
open PySem PySem.W PyProof.Rows
set_option Elab.async false
set_option maxRecDepth 100000
set_option linter.unusedVariables false
set_option linter.unusedSectionVars false
set_option linter.unusedSimpArgs false
namespace Hd

/-- a value without its token -/
inductive PV where
  | none | other
  | bool (b : Bool)
  | int (i : Int)
  | str (s : Str)
  | typ (n : String)
  | bi (id : String)
  | ref (a : Addr)
  deriving DecidableEq, Inhabited

def pv : Value → PV
  | .none => .none
  | .bool b => .bool b
  | .int i _ => .int i
  | .str s _ => .str s
  | .type n => .typ n
  | .builtin id => .bi id
  | .ref a => .ref a
  | _ => .other

/-- an object without its tokens -/
inductive PO where
  | list (xs : List PV)
  | flist (xs : List PV)
  | tuple (xs : List PV)
  | inst (c d : Addr)
  | attrs (es : List (Str × PV))
  | range (a b : Int)

def PO.mut : PO → Bool
  | .flist _ => false
  | _ => true

abbrev Loc := Str → Option PV
abbrev PHeap := Addr → Option PO

def upd (hp : PHeap) (a : Addr) (o : PO) : PHeap := fun b => if b = a then some o else hp b
def setL (loc : Loc) (x : Str) (v : PV) : Loc := fun y => if y = x then some v else loc y

def EntOk (e : Str × PV) (d : DictEntry) : Prop := (∃ t, d.key = .str e.1 t) ∧ pv d.val = e.2

inductive All2 {α β : Type} (R : α → β → Prop) : List α → List β → Prop where
  | nil : All2 R [] []
  | cons {a b as bs} : R a b → All2 R as bs → All2 R (a :: as) (b :: bs)

/-- the object at hand bears it -/
def RO : PO → Obj → Prop
  | .list xs, o => ∃ vs n, o = { cls := .type "list", data := .seq vs n } ∧ vs.toList.map pv = xs
  | .flist xs, o => o.cls = .type "list" ∧ ∃ vs n, o.data = .seq vs n ∧ vs.toList.map pv = xs
  | .tuple xs, o => ∃ vs n, o = { cls := .type "tuple", data := .seq vs n } ∧ vs.toList.map pv = xs
  | .inst c d, o => o = ⟨.ref c, some d, .plain, #[]⟩
  | .attrs es, o => ∃ ds n, o = dictOf ds n ∧ All2 EntOk es ds
  | .range a b, o => ∃ t u v, True ∧ o = { cls := .type "range", data := .fields #[.int a t, .int b u, .int 1 v] }

structure Cx where
  prog : Program
  w : World
  A : Around
  s₁ : Shared
  h₀ : Heap
  env : Env
  fz : Option Addr

abbrev Cx.L (C : Cx) : Addr := C.env.locals

structure Rep (C : Cx) (g : Heap) (loc : Loc) (hp : PHeap) (s : Shared) : Prop where
  sh : ∃ h t, s = { C.s₁ with heap := h, toks := t }
  ns : ∃ m, s.heap.Ns C.L m ∧ ∀ x, C.env.kindOf x = some .local → ∀ p, loc x = some p → (m x).map pv = some p
  keep : ∀ b o, C.h₀.get? b = some o → s.heap.get? b = some o
  above : C.h₀.objs.size ≤ C.L
  gkeep : ∀ b o, g.get? b = some o → s.heap.get? b = some o
  gL : g.get? C.L = none
  cells : ∀ x c, C.env.cells.lookup x = some c → ∃ v, s.heap.IsCell c v ∧ ∀ p, loc x = some p → v.map pv = some p
  coff : ∀ x c, C.env.cells.lookup x = some c → g.get? c = none ∧ C.h₀.get? c = none ∧ c ≠ C.L ∧ ∀ po, hp c = some po → po.mut = false
  capart : ∀ x y c, C.env.cells.lookup x = some c → C.env.cells.lookup y = some c → x = y
  objs : ∀ a po, hp a = some po → ∃ o, s.heap.get? a = some o ∧ RO po o
  off : ∀ a po, hp a = some po → po.mut = true → g.get? a = none ∧ C.h₀.get? a = none ∧ a ≠ C.L
  fro : ∀ a po, hp a = some po → po.mut = false → C.fz = some a ∧ (C.h₀.get? a).isSome = true

/-- what a tree does, told of the bare state -/
def W (C : Cx) (loc : Loc) {α : Type} (t : Sem α) (hp : PHeap) (Q : α → PHeap → Prop) : Prop :=
  ∀ g s, Rep C g loc hp s → wpAny (model C.prog C.w) C.A t (fun a s' => ∃ hp', Rep C g loc hp' s' ∧ Q a hp') (fun _ _ => False) s

/-- the same where the names may change -/
def WL (C : Cx) {α : Type} (t : Sem α) (loc : Loc) (hp : PHeap) (Q : α → Loc → PHeap → Prop) : Prop :=
  ∀ g s, Rep C g loc hp s → wpAny (model C.prog C.w) C.A t (fun a s' => ∃ loc' hp', Rep C g loc' hp' s' ∧ Q a loc' hp') (fun _ _ => False) s

theorem W.mono {C : Cx} {loc : Loc} {α : Type} {t : Sem α} {hp : PHeap} {Q Q' : α → PHeap → Prop} (h : W C loc t hp Q) (hq : ∀ a hp', Q a hp' → Q' a hp') : W C loc t hp Q' :=
  fun g s r => wpAny_mono (h g s r) (fun a _ ⟨hp', r', q⟩ => ⟨hp', r', hq a hp' q⟩) fun _ _ x => x
theorem WL.mono {C : Cx} {loc : Loc} {α : Type} {t : Sem α} {hp : PHeap} {Q Q' : α → Loc → PHeap → Prop} (h : WL C t loc hp Q) (hq : ∀ a l hp', Q a l hp' → Q' a l hp') : WL C t loc hp Q' :=
  fun g s r => wpAny_mono (h g s r) (fun a _ ⟨l', hp', r', q⟩ => ⟨l', hp', r', hq a l' hp' q⟩) fun _ _ x => x
theorem W.bind {C : Cx} {loc : Loc} {α β : Type} {t : Sem α} {f : α → Sem β} {hp : PHeap} {Q : β → PHeap → Prop} (h : W C loc t hp (fun a hp' => W C loc (f a) hp' Q)) : W C loc (t >>= f) hp Q :=
  fun g s r => wpAny_bind (wpAny_mono (h g s r) (fun _ s' ⟨_, r', q⟩ => q g s' r') fun _ _ x => x)
theorem WL.bind {C : Cx} {loc : Loc} {α β : Type} {t : Sem α} {f : α → Sem β} {hp : PHeap} {Q : β → Loc → PHeap → Prop} (h : WL C t loc hp (fun a loc' hp' => WL C (f a) loc' hp' Q)) : WL C (t >>= f) loc hp Q :=
  fun g s r => wpAny_bind (wpAny_mono (h g s r) (fun _ s' ⟨_, _, r', q⟩ => q g s' r') fun _ _ x => x)
theorem W.unit {C : Cx} {loc : Loc} {α : Type} {a : α} {hp : PHeap} {Q : α → PHeap → Prop} (h : Q a hp) : W C loc (pure a) hp Q :=
  fun _ _ r => wpAny_pure ⟨hp, r, h⟩
theorem WL.unit {C : Cx} {loc : Loc} {α : Type} {a : α} {hp : PHeap} {Q : α → Loc → PHeap → Prop} (h : Q a loc hp) : WL C (pure a) loc hp Q :=
  fun _ _ r => wpAny_pure ⟨loc, hp, r, h⟩
theorem W.hold {C : Cx} {loc : Loc} {α : Type} {t : Sem α} {vs : List Value} {hp : PHeap} {Q : α → PHeap → Prop} (h : W C loc t hp Q) : W C loc (holding vs t) hp Q :=
  fun g s r => wpAny_holding (h g s r)
theorem W.stand {C : Cx} {loc : Loc} {p : Pos} {hp : PHeap} {Q : Unit → PHeap → Prop} (h : Q () hp) : W C loc (standAt p) hp Q :=
  fun _ _ r => wpAny_standAt ⟨hp, r, h⟩

section
variable {C : Cx} {g : Heap} {loc : Loc} {hp : PHeap} {s : Shared}

/-- the heap grows, the frame's names stay -/
structure Kp (C : Cx) (h h' : Heap) : Prop where
  keep : ∀ b o, b ≠ C.L → h.get? b = some o → h'.get? b = some o
  ns : ∀ m, h.Ns C.L m → h'.Ns C.L m
theorem Kp.of {C : Cx} {h h' : Heap} (hk : ∀ b o, h.get? b = some o → h'.get? b = some o) : Kp C h h' := ⟨fun b o _ e => hk b o e, fun _ n => n.keeps hk⟩

theorem Rep.cne (r : Rep C g loc hp s) {x : Str} {c : Addr} (e : C.env.cells.lookup x = some c) : c ≠ C.L := (r.coff x c e).2.2.1
theorem Rep.keepL (r : Rep C g loc hp s) {b : Addr} {o : Obj} (e : C.h₀.get? b = some o) : b ≠ C.L := Nat.ne_of_lt (Nat.lt_of_lt_of_le (Heap.lt_size e) r.above)
theorem Rep.gneL (r : Rep C g loc hp s) {b : Addr} {o : Obj} (e : g.get? b = some o) : b ≠ C.L := by rintro rfl; rw [r.gL] at e; cases e

theorem RO.notNs {po : PO} {o : Obj} (h : RO po o) (hm : po.mut = false) : ∀ es ep, o.data ≠ .dict es ep := by
  cases po <;> simp [PO.mut] at hm
  obtain ⟨_, vs, n, e, _⟩ := h
  intro es ep e'; rw [e] at e'; cases e'
theorem Rep.objNe (r : Rep C g loc hp s) {a : Addr} {po : PO} (e : hp a = some po) : a ≠ C.L := by
  cases hm : po.mut with
  | true => exact (r.off a po e hm).2.2
  | false =>
    rintro rfl
    obtain ⟨o, h1, h2⟩ := r.objs _ po e
    obtain ⟨m, ⟨oL, es, ep, hL, hd, _⟩, _⟩ := r.ns
    rw [h1] at hL; cases hL
    exact h2.notNs hm es ep hd

theorem Rep.grown (r : Rep C g loc hp s) {h' : Heap} {tk : Nat} (hk : Kp C s.heap h') : Rep C g loc hp { s with heap := h', toks := tk } := by
  have cn := fun x c e => r.cne (x := x) (c := c) e
  have hn := fun a po e => r.objNe (a := a) (po := po) e
  have kn := fun b o e => r.keepL (b := b) (o := o) e
  have gn := fun b o e => r.gneL (b := b) (o := o) e
  obtain ⟨⟨h, t, rfl⟩, ⟨m, n1, n2⟩, k, ab, gk, gL, ce, co, ca, ob, of, fr⟩ := r
  exact ⟨⟨h', tk, rfl⟩, ⟨m, hk.ns m n1, n2⟩, fun b o e => hk.keep b o (kn b o e) (k b o e), ab, fun b o e => hk.keep b o (gn b o e) (gk b o e), gL,
    fun x c e => let ⟨v, ⟨oc, a1, a2⟩, b⟩ := ce x c e; ⟨v, ⟨oc, hk.keep c oc (cn x c e) a1, a2⟩, b⟩, co, ca,
    fun a po e => let ⟨o, x, y⟩ := ob a po e; ⟨o, hk.keep a o (hn a po e) x, y⟩, of, fr⟩
theorem Rep.toks (r : Rep C g loc hp s) (tk : Nat) : Rep C g loc hp { s with toks := tk } := by
  have := r.grown (h' := s.heap) (tk := tk) (Kp.of fun _ _ e => e)
  exact this

/-- a new object -/
theorem Rep.alloc (r : Rep C g loc hp s) {a : Addr} {o : Obj} {po : PO} {h' : Heap} {tk : Nat} (ha : s.heap.get? a = none) (hk : Kp C s.heap h')
    (ho : h'.get? a = some o) (hr : RO po o) (hpm : po.mut = true := by rfl) : hp a = none ∧ Rep C g loc (upd hp a po) { s with heap := h', toks := tk } := by
  have r' := r.grown (tk := tk) hk
  have hn : hp a = none := by
    cases e : hp a with
    | none => rfl
    | some po' => obtain ⟨o', e', _⟩ := r.objs a po' e; rw [ha] at e'; cases e'
  refine ⟨hn, ⟨r'.sh, r'.ns, r'.keep, r'.above, r'.gkeep, r'.gL, r'.cells, fun x c e => ?_, r'.capart, fun b q e => ?_, fun b q e hm => ?_, fun b q e hm => ?_⟩⟩
  · obtain ⟨e1, e2, e3, e4⟩ := r.coff x c e
    refine ⟨e1, e2, e3, fun q hq => ?_⟩
    unfold upd at hq
    split at hq
    · rename_i hca
      obtain ⟨v, ⟨oc, hoc, _⟩, _⟩ := r.cells x c e
      rw [hca, ha] at hoc; cases hoc
    · exact e4 q hq
  · unfold upd at e
    split at e
    · rename_i hba; cases e; subst hba; exact ⟨o, ho, hr⟩
    · exact r'.objs b q e
  · unfold upd at e
    split at e
    · rename_i hba; cases e; subst hba
      refine ⟨?_, ?_, ?_⟩
      · cases q : g.get? b with
        | none => rfl
        | some o' => have := r.gkeep b o' q; rw [ha] at this; cases this
      · cases q : C.h₀.get? b with
        | none => rfl
        | some o' => have := r.keep b o' q; rw [ha] at this; cases this
      · rintro rfl
        obtain ⟨m, ⟨oL, _, _, hL, _⟩, _⟩ := r.ns
        rw [ha] at hL; cases hL
    · exact r.off b q e hm
  · unfold upd at e
    split at e
    · cases e; rw [hpm] at hm; cases hm
    · exact r.fro b q e hm

theorem get?_size (h : Heap) : h.get? h.objs.size = none := by
  cases e : h.get? h.objs.size with
  | none => rfl
  | some o => exact absurd (Heap.lt_size e) (Nat.lt_irrefl _)

/-- one object changed -/
theorem Rep.update' (r : Rep C g loc hp s) {a : Addr} {o : Obj} {po po' : PO} {h' : Heap} {tk : Nat} (ha : hp a = some po) (hm : po.mut = true) (hk : ∀ b o, b ≠ a → b ≠ C.L → s.heap.get? b = some o → h'.get? b = some o)
    (hns : ∀ m, s.heap.Ns C.L m → h'.Ns C.L m) (ho : h'.get? a = some o) (hr : RO po' o) (hpm : po'.mut = true := by rfl) : Rep C g loc (upd hp a po') { s with heap := h', toks := tk } := by
  obtain ⟨o1, o2, o3⟩ := r.off a po ha hm
  have cn := fun x c e => r.cne (x := x) (c := c) e
  have hn := fun a po e => r.objNe (a := a) (po := po) e
  have kn := fun b o e => r.keepL (b := b) (o := o) e
  have gn := fun b o e => r.gneL (b := b) (o := o) e
  obtain ⟨⟨h, t, rfl⟩, ⟨m, n1, n2⟩, k, ab, gk, gL, ce, co, ca, ob, of, fr⟩ := r
  have cne : ∀ x c, C.env.cells.lookup x = some c → c ≠ a := fun x c e => by
    rintro rfl
    have := (co x c e).2.2.2 po ha
    rw [hm] at this; cases this
  refine ⟨⟨h', tk, rfl⟩, ⟨m, hns m n1, n2⟩, fun b o e => hk b o ?_ (kn b o e) (k b o e), ab, fun b o e => hk b o ?_ (gn b o e) (gk b o e), gL, fun x c e => ?_, fun x c e => ?_, ca, fun b q e => ?_, fun b q e hq => ?_, fun b q e hq => ?_⟩
  · rintro rfl; rw [o2] at e; cases e
  · rintro rfl; rw [o1] at e; cases e
  · obtain ⟨v, ⟨oc, h1, h2⟩, h3⟩ := ce x c e
    exact ⟨v, ⟨oc, hk c oc (cne x c e) (cn x c e) h1, h2⟩, h3⟩
  · obtain ⟨e1, e2, e3, e4⟩ := co x c e
    exact ⟨e1, e2, e3, fun q hq => e4 q (by unfold upd at hq; rwa [if_neg (cne x c e)] at hq)⟩
  · unfold upd at e
    split at e
    · rename_i hba; cases e; subst hba; exact ⟨o, ho, hr⟩
    · rename_i hba; obtain ⟨o', h1, h2⟩ := ob b q e; exact ⟨o', hk b o' hba (hn b q e) h1, h2⟩
  · unfold upd at e
    split at e
    · rename_i hba; subst hba; exact ⟨o1, o2, o3⟩
    · exact of b q e hq
  · unfold upd at e
    split at e
    · cases e; rw [hpm] at hq; cases hq
    · exact fr b q e hq
theorem Rep.update (r : Rep C g loc hp s) {a : Addr} {o : Obj} {po po' : PO} {h' : Heap} {tk : Nat} (ha : hp a = some po) (hm : po.mut = true) (hk : ∀ b o, b ≠ a → s.heap.get? b = some o → h'.get? b = some o)
    (ho : h'.get? a = some o) (hr : RO po' o) (hpm : po'.mut = true := by rfl) : Rep C g loc (upd hp a po') { s with heap := h', toks := tk } :=
  r.update' (hpm := hpm) ha hm (fun b o h1 _ e => hk b o h1 e) (fun _ n => n.at' fun o e => hk _ o (Ne.symm (r.off a po ha hm).2.2) e) ho hr

theorem Rep.less {loc' : Loc} (r : Rep C g loc hp s) (h : ∀ x p, loc' x = some p → loc x = some p) : Rep C g loc' hp s :=
  ⟨r.sh, let ⟨m, a, b⟩ := r.ns; ⟨m, a, fun x hx p e => b x hx p (h x p e)⟩, r.keep, r.above, r.gkeep, r.gL, fun x c e => let ⟨v, a, b⟩ := r.cells x c e; ⟨v, a, fun p q => b p (h x p q)⟩, r.coff, r.capart, r.objs, r.off, r.fro⟩

/-- everything that the frame's base does not hold, the frame's own namespace apart -/
def allN (h₀ : Heap) (L : Addr) (h : Heap) : List (Addr × Obj) :=
  (List.range h.objs.size).filterMap fun a => if a = L then none else match h₀.get? a with | some _ => none | none => (h.get? a).map fun o => (a, o)
theorem mem_allN {h₀ : Heap} {L : Addr} {h : Heap} {a : Addr} {o : Obj} : (a, o) ∈ allN h₀ L h ↔ a ≠ L ∧ h₀.get? a = none ∧ h.get? a = some o := by
  unfold allN
  rw [List.mem_filterMap]
  constructor
  · rintro ⟨b, _, e⟩
    split at e
    · cases e
    · rename_i hb
      split at e
      · cases e
      · rename_i h0
        cases q : h.get? b with
        | none => rw [q] at e; cases e
        | some o' => rw [q] at e; cases e; exact ⟨hb, h0, q⟩
  · rintro ⟨h1, h2, h3⟩
    refine ⟨a, List.mem_range.mpr (Heap.lt_size h3), ?_⟩
    rw [if_neg h1, h2, h3]; rfl
theorem allN_news (h₀ : Heap) (L : Addr) (h : Heap) : News h₀ L h (allN h₀ L h) := fun p hp => let ⟨h1, h2, h3⟩ := mem_allN.mp (show (p.1, p.2) ∈ _ from hp); ⟨h3, h1, h2⟩

theorem Rep.fr (r : Rep C g loc hp s) : ∃ m, Fr C.h₀ C.L s.heap m ∧ ∀ x, C.env.kindOf x = some .local → ∀ p, loc x = some p → (m x).map pv = some p :=
  let ⟨m, n1, n2⟩ := r.ns; ⟨m, ⟨n1, r.keep, r.above⟩, n2⟩
theorem ns_of_fr {h h' : Heap} {m : Str → Option Value} (F : Fr C.h₀ C.L h m) (F' : Fr C.h₀ C.L h' m) : ∀ m', h.Ns C.L m' → h'.Ns C.L m' := fun m' n' => by
  have : m' = m := by
    obtain ⟨o1, es1, ep1, a1, a2, _, a3⟩ := n'
    obtain ⟨o2, es2, ep2, b1, b2, _, b3⟩ := F.ns
    rw [a1] at b1; cases b1
    rw [a2] at b2; cases b2
    funext x; rw [← a3, ← b3]
  rw [this]; exact F'.ns
theorem kp_of_fr {h h' : Heap} {m : Str → Option Value} {news : List (Addr × Obj)} (F : Fr C.h₀ C.L h m) (F' : Fr C.h₀ C.L h' m) (N' : News C.h₀ C.L h' news) (hs : ∀ p ∈ allN C.h₀ C.L h, p ∈ news) : Kp C h h' := by
  refine ⟨fun b o hb e => ?_, fun m' n' => ?_⟩
  · cases q : C.h₀.get? b with
    | some o' => have := F.keep b o' q; rw [e] at this; cases this; exact F'.keep b _ q
    | none => exact (N' _ (hs (b, o) (mem_allN.mpr ⟨hb, q, e⟩))).1
  · have : m' = m := by
      obtain ⟨o1, es1, ep1, a1, a2, _, a3⟩ := n'
      obtain ⟨o2, es2, ep2, b1, b2, _, b3⟩ := F.ns
      rw [a1] at b1; cases b1
      rw [a2] at b2; cases b2
      funext x; rw [← a3, ← b3]
    rw [this]; exact F'.ns
end
end Hd

namespace Hd

def mutAt (hp : PHeap) (a : Addr) : Bool := match hp a with | some po => po.mut | none => false
theorem mutAt_of {hp : PHeap} {a : Addr} {po : PO} (h : hp a = some po) (hm : po.mut = true) : mutAt hp a = true := by unfold mutAt; rw [h]; exact hm
theorem of_mutAt {hp : PHeap} {a : Addr} (h : mutAt hp a = true) : ∃ po, hp a = some po ∧ po.mut = true := by
  unfold mutAt at h; split at h
  · rename_i po e; exact ⟨po, e, h⟩
  · cases h

/-- a heap without what p names -/
def hideP (p : Addr → Bool) (h : Heap) : Heap := ⟨h.objs.mapIdx fun a o => if p a then { o with data := .freed } else o, h.life⟩
theorem hideP_size (p : Addr → Bool) (h : Heap) : (hideP p h).objs.size = h.objs.size := by simp [hideP]
theorem hideP_get (p : Addr → Bool) (h : Heap) (a : Addr) : (hideP p h).get? a = if p a then none else h.get? a := by
  unfold hideP Heap.get?
  simp only [Array.getElem?_mapIdx]
  cases e : h.objs[a]? with
  | none => simp
  | some o =>
    obtain ⟨c, d, dt, sl⟩ := o
    cases hp : p a <;> simp
theorem hideP_of {p : Addr → Bool} {h : Heap} {a : Addr} {o : Obj} (e : (hideP p h).get? a = some o) : h.get? a = some o ∧ p a = false := by
  rw [hideP_get] at e
  cases hp : p a with
  | true => rw [hp] at e; cases e
  | false => rw [hp] at e; exact ⟨e, rfl⟩
theorem hideP_some {p : Addr → Bool} {h : Heap} {a : Addr} {o : Obj} (e : h.get? a = some o) (hp : p a = false) : (hideP p h).get? a = some o := by
  rw [hideP_get, hp]; exact e
theorem hideP_none {p : Addr → Bool} {h : Heap} {a : Addr} (hp : p a = true) : (hideP p h).get? a = none := by
  rw [hideP_get, hp]; rfl

structure Prg where
  K : Frag
  mg : Str → Option Value
  mb : Str → Option Value

structure Ok (P : Prg) (C : Cx) (n : Nat) : Prop where
  hh : C.A.handled = none
  room : C.A.depth + n < recursionLimit
  units : C.A.units + 8 * n + 8 < cLine
  kind : C.env.scope.kind = .function
  glob : C.env.globals = mainGlobals
  bui : C.env.builtins = builtinsNs
  K : P.K.In C.h₀
  mg : C.h₀.Ns mainGlobals P.mg
  mb : C.h₀.Ns builtinsNs P.mb
  lim : C.h₀.NoLimit
  hc : ∀ x, C.env.kindOf x = some .cell ∨ C.env.kindOf x = some .free → (C.env.cells.lookup x).isSome = true
  hl : ∀ x, C.env.kindOf x = some .local → C.env.cells.lookup x = none
  fz : ∀ a, C.fz = some a → (C.h₀.get? a).isSome = true

theorem Ok.less {P : Prg} {C : Cx} {n m : Nat} (h : Ok P C n) (hm : m ≤ n) : Ok P C m :=
  ⟨h.hh, by have := h.room; omega, by have := h.units; omega, h.kind, h.glob, h.bui, h.K, h.mg, h.mb, h.lim, h.hc, h.hl, h.fz⟩

theorem Rep.K {P : Prg} {C : Cx} {n : Nat} {g loc hp s} (r : Rep C g loc hp s) (k : Ok P C n) : P.K.In s.heap := fun a o e => r.keep a o (k.K a o e)

def bindP : List (Str × PV) → Loc → Loc
  | [], l => l
  | (n, v) :: r, l => bindP r (setL l n v)

def pvb (x : Str × Value) : Str × PV := (x.1, pv x.2)

theorem bindL_P {kindOf : Str → Option NameKind} {x : Str} (hx : kindOf x = some .local) : ∀ (binds : List (Str × Value)) (m : Str → Option Value) (l : Loc), (m x).map pv = l x →
    (bindL kindOf binds m x).map pv = bindP (binds.map pvb) l x
  | [], _, _, h => h
  | (n, v) :: r, m, l, h => by
    refine bindL_P hx r _ _ ?_
    by_cases hn : kindOf n = some .local
    · rw [if_pos hn]
      show Option.map pv (if x = n then some v else m x) = if x = n then some (pv v) else l x
      split
      · rfl
      · exact h
    · rw [if_neg hn]
      show Option.map pv (m x) = if x = n then some (pv v) else l x
      rw [if_neg (by rintro rfl; exact hn hx)]; exact h
theorem bindC_P {kindOf : Str → Option NameKind} {x : Str} (hx : kindOf x ≠ some .local) : ∀ (binds : List (Str × Value)) (m : Str → Option Value) (l : Loc), (m x).map pv = l x →
    (bindC kindOf binds m x).map pv = bindP (binds.map pvb) l x
  | [], _, _, h => h
  | (n, v) :: r, m, l, h => by
    refine bindC_P hx r _ _ ?_
    by_cases hn : kindOf n = some .local
    · rw [if_pos hn]
      show Option.map pv (m x) = if x = n then some (pv v) else l x
      rw [if_neg (by rintro rfl; exact hx hn)]; exact h
    · rw [if_neg hn]
      show Option.map pv (if x = n then some v else m x) = if x = n then some (pv v) else l x
      split
      · rfl
      · exact h

theorem cellsFrom_mem : ∀ (names : List (Str × NameKind)) (n : Nat) (acc : List (Str × Addr)) (x : Str × Addr), x ∈ cellsFrom n names acc → x ∈ acc ∨ (x.1, NameKind.cell) ∈ names
  | [], _, _, _, h => .inl h
  | (name, kind) :: r, n, acc, x, h => by
    unfold cellsFrom at h
    split at h
    · rename_i hk
      rcases cellsFrom_mem r _ _ x h with h | h
      · rcases List.mem_cons.mp h with rfl | h
        · rw [beq_iff_eq.mp hk]; exact .inr (.head _)
        · exact .inl h
      · exact .inr (.tail _ h)
    · rcases cellsFrom_mem r _ _ x h with h | h
      · exact .inl h
      · exact .inr (.tail _ h)
theorem cellsFrom_acc : ∀ (names : List (Str × NameKind)) (n : Nat) (acc : List (Str × Addr)) (x : Str), (acc.lookup x).isSome = true → ((cellsFrom n names acc).lookup x).isSome = true
  | [], _, _, _, h => h
  | (name, kind) :: r, n, acc, x, h => by
    unfold cellsFrom
    split
    · refine cellsFrom_acc r _ _ x ?_
      rw [List.lookup_cons]; split
      · rfl
      · exact h
    · exact cellsFrom_acc r _ _ x h
theorem cellsFrom_some : ∀ (names : List (Str × NameKind)) (n : Nat) (acc : List (Str × Addr)) (x : Str), (x, NameKind.cell) ∈ names → ((cellsFrom n names acc).lookup x).isSome = true
  | (name, kind) :: r, n, acc, x, h => by
    unfold cellsFrom
    rcases List.mem_cons.mp h with e | h
    · cases e
      rw [if_pos (by rfl)]
      refine cellsFrom_acc r _ _ _ ?_
      rw [List.lookup_cons]; simp
    · split <;> exact cellsFrom_some r _ _ x h
theorem mem_of_look {α : Type} {l : List (Str × α)} {n : Str} {c : α} (h : l.lookup n = some c) : (n, c) ∈ l := PySem.mem_of_lookup h

/-- what a value of the text's own, called, does: whatever frame calls it -/
def Calls (P : Prg) (n : Nat) (f : Value) (args : List PV) (kw : List (Str × PV)) (hp : PHeap) (Q : PV → PHeap → Prop) : Prop :=
  ∀ C, Ok P C n → ∀ loc vs kws, vs.map pv = args → kws.map pvb = kw → W C loc (call f vs kws) hp (fun v hp' => Q (pv v) hp')

theorem Calls.mono {P : Prg} {n : Nat} {f : Value} {args kw hp} {Q Q' : PV → PHeap → Prop} (h : Calls P n f args kw hp Q) (hq : ∀ v hp', Q v hp' → Q' v hp') : Calls P n f args kw hp Q' :=
  fun C k loc vs kws e1 e2 => (h C k loc vs kws e1 e2).mono fun _ _ q => hq _ _ q

inductive PF where
  | next | brk | cont
  | ret (v : PV)
  deriving DecidableEq
def pf : Flow → PF
  | .next => .next | .brk => .brk | .cont => .cont | .ret v => .ret (pv v)
def PF.val : PF → PV
  | .ret v => v
  | _ => .none
structure IsDef (P : Prg) (f : Addr) (fd : FuncData) (body : List Stmt) : Prop where
  obj : ∃ oc od osl, P.K.lookup f = some ⟨oc, od, .func fd, osl⟩
  code : codeIn P.K fd.code fd.qualname = true
  body : fd.body = .stmts body
  clo : fd.closure = []
  co : fd.scope.isCoroutine = false
  gen : fd.scope.isGenerator = false
  kind : fd.scope.kind = .function
  glob : fd.globals = mainGlobals
  bui : fd.builtins = builtinsNs
  cells : (fd.scope.names.all fun p => p.2 != .cell || fd.scope.names.lookup p.1 == some .cell) = true
  nofree : (fd.scope.names.all fun p => p.2 != .free) = true

/-- the arguments' names -/
def Binds (P : Prg) (fd : FuncData) (args : List PV) (kw : List (Str × PV)) (pb : List (Str × PV)) : Prop :=
  ∀ s vs kws, P.K.In s.heap → vs.map pv = args → kws.map pvb = kw → ∃ binds, BindsTo s fd ⟨vs, kws⟩ binds ∧ binds.map pvb = pb

/-- the same of the machine's own call -/
def CallsC (P : Prg) (n : Nat) (f : Value) (args : List PV) (kw : List (Str × PV)) (hp : PHeap) (Q : PV → PHeap → Prop) : Prop :=
  ∀ C, Ok P C n → ∀ loc vs kws, vs.map pv = args → kws.map pvb = kw → ∀ g s, Rep C g loc hp s →
    codeAny (model C.prog C.w) C.A (.call f ⟨vs, kws⟩) (fun r s' => match r with | .ok (.ret v) => ∃ hp', Rep C g loc hp' s' ∧ Q (pv v) hp' | .ok _ => False | .error _ => False) s
theorem CallsC.calls {P : Prg} {n : Nat} {f : Value} {args kw hp} {Q : PV → PHeap → Prop} (h : CallsC P n f args kw hp Q) : Calls P n f args kw hp Q :=
  fun C k loc vs kws e1 e2 g s r => wpAny_call (h C k loc vs kws e1 e2 g s r)

theorem callsC_def {P : Prg} {n : Nat} {f : Addr} {fd : FuncData} {body : List Stmt} {args : List PV} {kw pb : List (Str × PV)} {hp : PHeap} {Q : PV → PHeap → Prop}
    (D : IsDef P f fd body) (hb : Binds P fd args kw pb) (hk : (pb.all fun p => fd.scope.names.lookup p.1 == some .local || fd.scope.names.lookup p.1 == some .cell) = true)
    (h : ∀ C, Ok P C n → C.env.scope = fd.scope → WL C (execs body C.env) (bindP pb fun _ => none) hp (fun fl _ hp' => Q (pf fl).val hp')) :
    CallsC P (n + 1) (.ref f) args kw hp Q := by
  intro C k loc vs kws e1 e2 g s r
  obtain ⟨oc, od, osl, hK⟩ := D.obj
  have KX := r.K k
  obtain ⟨binds, hB, hpb⟩ := hb s vs kws KX e1 e2
  have kk : ∀ x ∈ binds, fd.scope.names.lookup x.1 = some .local ∨ fd.scope.names.lookup x.1 = some .cell := fun x hx => by
    have h1 : pvb x ∈ pb := hpb ▸ List.mem_map_of_mem hx
    have h2 := List.all_eq_true.mp hk _ h1
    rcases Bool.or_eq_true_iff.mp h2 with h2 | h2
    · exact .inl (beq_iff_eq.mp h2)
    · exact .inr (beq_iff_eq.mp h2)
  refine (codeAny_call_function (by have := k.room; omega) (KX _ _ hK) rfl D.co D.gen D.body (codeRec_of KX D.code) (hB _ _ _ _ ?_))
  rw [D.clo]
  refine wpAny_newFunctionEnv_cells D.kind (fun x hx => (kk x hx).elim .inl fun q => .inr ⟨q, cellsFrom_some _ _ _ _ (mem_of_look q)⟩) fun env he s' X => ?_
  have hlim : s'.heap.NoLimit := (k.lim.keeps r.keep).keeps X.toInCall.keep
  refine ⟨hlim, codeAny_func ?_⟩
  subst he
  let env' : Env := newEnv fd.scope s.heap.objs.size fd.globals (cellsFrom (s.heap.objs.size + 1) fd.scope.names []) (fd.qualname ++ ".<locals>.") (some f) fd.code none fd.builtins
  let H := hideP (mutAt hp) s.heap
  let C' : Cx := { C with A := C.A.deeper env', h₀ := H, env := env' }
  have up : ∀ b o, C.h₀.get? b = some o → H.get? b = some o := fun b o e => hideP_some (r.keep b o e) (by
    cases q : mutAt hp b with
    | false => rfl
    | true => obtain ⟨po, h1, h2⟩ := of_mutAt q; have := (r.off b po h1 h2).2.1; rw [e] at this; cases this)
  have hcells : ∀ x c, env'.cells.lookup x = some c → fd.scope.names.lookup x = some .cell ∧ s.heap.objs.size < c := fun x c e => by
    refine ⟨?_, X.above x c (mem_of_look e)⟩
    rcases cellsFrom_mem _ _ _ _ (mem_of_look e) with h | h
    · cases h
    · have := List.all_eq_true.mp D.cells _ h
      simpa using this
  have hnone : ∀ a, s.heap.objs.size ≤ a → s.heap.get? a = none := fun a ha => by
    cases e : s.heap.get? a with
    | none => rfl
    | some o => exact absurd (Heap.lt_size e) (Nat.not_lt.mpr ha)
  have hpnone : ∀ a, s.heap.objs.size ≤ a → hp a = none := fun a ha => by
    cases e : hp a with
    | none => rfl
    | some po => obtain ⟨o, h1, _⟩ := r.objs a po e; rw [hnone a ha] at h1; cases h1
  have k' : Ok P C' n := by
    refine ⟨k.hh, ?_, ?_, D.kind, D.glob, D.bui, fun a o e => up a o (k.K a o e), k.mg.keeps up, k.mb.keeps up, k.lim.keeps up, fun x hx => ?_, fun x hx => ?_, fun a ha => ?_⟩
    · have := k.room; show C.A.depth + 1 + n < _; omega
    · have := k.units; show C.A.units + 3 + 8 * n + 8 < _; omega
    · rcases hx with hx | hx
      · exact cellsFrom_some _ _ _ _ (mem_of_look hx)
      · have := List.all_eq_true.mp D.nofree _ (mem_of_look hx); simp at this
    · cases q : C'.env.cells.lookup x with
      | none => rfl
      | some c => have h1 := (hcells x c q).1; have h2 : fd.scope.names.lookup x = some .local := hx; rw [h1] at h2; cases h2
    · obtain ⟨o, ho⟩ := Option.isSome_iff_exists.mp (k.fz a ha)
      rw [up a o ho]; rfl
  obtain ⟨hs₁, ts₁, hsh⟩ := X.toInCall.same
  have r' : Rep C' ⟨#[], {}⟩ (bindP pb fun _ => none) hp s' := by
    refine ⟨?_, ⟨_, X.toInCall.ns, fun x hx => ?_⟩, fun b o e => X.toInCall.keep b o (hideP_of e).1, ?_, ?_, ?_, fun x c e => ⟨_, X.cell x c e, ?_⟩, fun x c e => ?_, fun x y c e e' => ?_, fun a po e => ?_, fun a po e hm => ?_, fun a po e hm => ?_⟩
    · obtain ⟨h, t, e⟩ := r.sh
      exact ⟨hs₁, ts₁, by rw [hsh, e]⟩
    · intro p hp'; rw [← hp', ← hpb]; exact bindL_P hx binds _ _ rfl
    · show H.objs.size ≤ s.heap.objs.size; exact Nat.le_of_eq (hideP_size _ _)
    · intro b o e; simp [Heap.get?] at e
    · simp [Heap.get?]
    · intro p hp'; rw [← hp', ← hpb]; exact bindC_P (by show fd.scope.names.lookup x ≠ _; rw [(hcells x c e).1]; decide) binds _ _ rfl
    · have hc := (hcells x c e).2
      refine ⟨by simp [Heap.get?], ?_, Nat.ne_of_gt hc, fun po q => ?_⟩
      · cases q : H.get? c with
        | none => rfl
        | some o => have := (hideP_of q).1; rw [hnone c (Nat.le_of_lt hc)] at this; cases this
      · rw [hpnone c (Nat.le_of_lt hc)] at q; cases q
    · exact name_of_addr X.apart (mem_of_look e) (mem_of_look e')
    · obtain ⟨o, h1, h2⟩ := r.objs a po e
      exact ⟨o, X.toInCall.keep a o h1, h2⟩
    · refine ⟨by simp [Heap.get?], hideP_none (mutAt_of e hm), ?_⟩
      intro q
      have q' : a = s.heap.objs.size := q
      rw [q', hpnone _ (Nat.le_refl _)] at e; cases e
    · obtain ⟨h1, h2⟩ := r.fro a po e hm
      obtain ⟨o, h2⟩ := Option.isSome_iff_exists.mp h2
      exact ⟨h1, by rw [up a o h2]; rfl⟩
  refine wpAny_mono (h C' k' rfl _ s' r') (fun fl s'' hq => ?_) fun _ _ x => x.elim
  obtain ⟨_, hp', R, q⟩ := hq
  refine ⟨hp', ?_, by cases fl <;> exact q⟩
  have keepAll : ∀ b o, s.heap.get? b = some o → mutAt hp b = false → s''.heap.get? b = some o := fun b o e hm => R.keep b o (hideP_some e hm)
  have notMut : ∀ b, (∀ po, hp b = some po → po.mut = false) → mutAt hp b = false := fun b hb => by
    cases q : mutAt hp b with
    | false => rfl
    | true => obtain ⟨po, h1, h2⟩ := of_mutAt q; rw [hb po h1] at h2; cases h2
  have gm : ∀ b o, g.get? b = some o → mutAt hp b = false := fun b o e => by
    cases q : mutAt hp b with
    | false => rfl
    | true => obtain ⟨po, h1, h2⟩ := of_mutAt q; have := (r.off b po h1 h2).1; rw [e] at this; cases this
  have hm₀ : ∀ b o, C.h₀.get? b = some o → mutAt hp b = false := fun b o e => by
    cases q : mutAt hp b with
    | false => rfl
    | true => obtain ⟨po, h1, h2⟩ := of_mutAt q; have := (r.off b po h1 h2).2.1; rw [e] at this; cases this
  have Lm : mutAt hp C.L = false := by
    cases q : mutAt hp C.L with
    | false => rfl
    | true => obtain ⟨po, h1, h2⟩ := of_mutAt q; exact absurd rfl (r.off _ po h1 h2).2.2
  refine ⟨?_, ?_, fun b o e => keepAll b o (r.keep b o e) (hm₀ b o e), r.above, fun b o e => keepAll b o (r.gkeep b o e) (gm b o e), r.gL, fun x c e => ?_, fun x c e => ?_, r.capart, R.objs, fun a po e hm => ?_, fun a po e hm => ?_⟩
  · exact R.sh
  · obtain ⟨m, ⟨oL, es, ep, hL, rest⟩, hx⟩ := r.ns
    exact ⟨m, ⟨oL, es, ep, keepAll _ _ hL Lm, rest⟩, hx⟩
  · obtain ⟨v, ⟨oc, h1, h2⟩, h3⟩ := r.cells x c e
    exact ⟨v, ⟨oc, keepAll _ _ h1 (notMut c (r.coff x c e).2.2.2), h2⟩, h3⟩
  · obtain ⟨c1, c2, c3, c4⟩ := r.coff x c e
    refine ⟨c1, c2, c3, fun po q => ?_⟩
    cases hm : po.mut with
    | false => rfl
    | true =>
      have := (R.off c po q hm).2.1
      obtain ⟨v, ⟨oc, h1, h2⟩, h3⟩ := r.cells x c e
      rw [show C'.h₀ = hideP (mutAt hp) s.heap from rfl, hideP_some h1 (notMut c c4)] at this; cases this
  · have := (R.off a po e hm).2.1
    have key : ∀ o, s.heap.get? a = some o → mutAt hp a = false → False := fun o e1 e2 => by
      rw [show C'.h₀ = hideP (mutAt hp) s.heap from rfl, hideP_some e1 e2] at this; cases this
    refine ⟨?_, ?_, ?_⟩
    · cases q : g.get? a with
      | none => rfl
      | some o => exact (key o (r.gkeep a o q) (gm a o q)).elim
    · cases q : C.h₀.get? a with
      | none => rfl
      | some o => exact (key o (r.keep a o q) (hm₀ a o q)).elim
    · rintro rfl
      obtain ⟨m, ⟨oL, es, ep, hL, rest⟩, hx⟩ := r.ns
      exact key oL hL Lm
  · have h1 := (R.fro a po e hm).1
    exact ⟨h1, k.fz a h1⟩
end Hd

namespace Hd

theorem pv_none {v : Value} (h : pv v = .none) : v = .none := by cases v <;> simp_all [pv]
theorem pv_bool {v : Value} {b : Bool} (h : pv v = .bool b) : v = .bool b := by cases v <;> simp_all [pv]
theorem pv_int {v : Value} {i : Int} (h : pv v = .int i) : ∃ t, v = .int i t := by cases v <;> simp_all [pv]
theorem pv_str {v : Value} {x : Str} (h : pv v = .str x) : ∃ t, v = .str x t := by cases v <;> simp_all [pv]
theorem pv_ref {v : Value} {a : Addr} (h : pv v = .ref a) : v = .ref a := by cases v <;> simp_all [pv]

/-- a value of the top by its name -/
def gl (P : Prg) (x : Str) : Option PV := match P.mg x with
  | some v => some (pv v)
  | none => (P.mb x).map pv

section
variable {P : Prg} {C : Cx} {n : Nat} {g : Heap} {loc : Loc} {hp : PHeap} {s : Shared}

theorem W.local {x : Str} {pos : Pos} {v : PV} {Q : PV → PHeap → Prop} (k : Ok P C n) (hx : C.env.kindOf x = some .local) (hv : loc x = some v) (h : Q v hp) (hd : (x == ("__debug__" : Str)) = false) :
    W C loc (eval (.Name x pos) C.env) hp (fun v hp' => Q (pv v) hp') := by
  intro g s r
  obtain ⟨m, n1, n2⟩ := r.ns
  have e := n2 x hx v hv
  cases q : m x with
  | none => rw [q] at e; cases e
  | some u => rw [q] at e; cases e; exact wpAny_Name (wpAny_loadName_local k.kind hx n1 q ⟨hp, r, h⟩) hd
theorem W.celln {x : Str} {pos : Pos} {v : PV} {Q : PV → PHeap → Prop} (k : Ok P C n) (hx : C.env.kindOf x = some .cell ∨ C.env.kindOf x = some .free) (hv : loc x = some v) (h : Q v hp) (hd : (x == ("__debug__" : Str)) = false)
    (hc : (x == ("__classdict__" : Str)) = false) : W C loc (eval (.Name x pos) C.env) hp (fun v hp' => Q (pv v) hp') := by
  intro g s r
  obtain ⟨c, ec⟩ := Option.isSome_iff_exists.mp (k.hc x hx)
  obtain ⟨u, h1, h2⟩ := r.cells x c ec
  have h2 := h2 v hv
  cases u with
  | none => cases h2
  | some u =>
    cases h2
    rcases hx with hx | hx
    · exact wpAny_Name (wpAny_loadName_cell k.kind hx ec h1 ⟨hp, r, h⟩) hd
    · exact wpAny_Name (wpAny_loadName_free k.kind hx ec h1 ⟨hp, r, h⟩ hc) hd
theorem W.globaln {x : Str} {pos : Pos} {v : PV} {Q : PV → PHeap → Prop} (k : Ok P C n) (hx : C.env.kindOf x = some .globalImplicit) (hv : gl P x = some v) (h : Q v hp) (hd : (x == ("__debug__" : Str)) = false) :
    W C loc (eval (.Name x pos) C.env) hp (fun v hp' => Q (pv v) hp') := by
  intro g s r
  unfold gl at hv
  have hg : s.heap.Ns C.env.globals P.mg := by rw [k.glob]; exact k.mg.keeps r.keep
  have hb : s.heap.Ns C.env.builtins P.mb := by rw [k.bui]; exact k.mb.keeps r.keep
  cases q : P.mg x with
  | some u => rw [q] at hv; cases hv; exact Calls.Name_function_global k.kind hx (Calls.loadGlobal_global hg q ⟨hp, r, h⟩) hd
  | none =>
    rw [q] at hv
    cases q' : P.mb x with
    | none => rw [q'] at hv; cases hv
    | some u => rw [q'] at hv; cases hv; exact Calls.Name_function_global k.kind hx (Calls.loadGlobal_builtin hg q hb q' ⟨hp, r, h⟩) hd

def pName (P : Prg) (sc : Scope) (x : Str) (loc : Loc) (hp : PHeap) (Q : PV → PHeap → Prop) : Prop :=
  if x = Str.ofString "__debug__" then Q (.bool true) hp else
  x ≠ Str.ofString "__classdict__" ∧
  match sc.names.lookup x with
  | some .local | some .cell | some .free => ∃ v, loc x = some v ∧ Q v hp
  | some .globalImplicit => ∃ v, gl P x = some v ∧ Q v hp
  | _ => False

theorem W.name {x : Str} {pos : Pos} {Q : PV → PHeap → Prop} (k : Ok P C n) (h : pName P C.env.scope x loc hp Q) : W C loc (eval (.Name x pos) C.env) hp (fun v hp' => Q (pv v) hp') := by
  unfold pName at h
  split at h
  · rename_i e
    subst e
    intro g s r
    have : eval (.Name (Str.ofString "__debug__") pos) C.env = (do standAt pos; debugConstant) := by
      rw [eval]; rfl
    rw [this]
    exact wpAny_bind (wpAny_standAt (show wpAny _ _ (do rule "name.__debug__"; pure (Value.bool true)) _ _ s from wpAny_bind (wpAny_rule (wpAny_pure ⟨hp, r, h⟩))))
  · rename_i e
    obtain ⟨hc, h⟩ := h
    have hd : (x == ("__debug__" : Str)) = false := beq_eq_false_iff_ne.mpr e
    have hc : (x == ("__classdict__" : Str)) = false := beq_eq_false_iff_ne.mpr hc
    split at h
    · obtain ⟨v, h1, h2⟩ := h; exact W.local k (by assumption) h1 h2 hd
    · obtain ⟨v, h1, h2⟩ := h; exact W.celln k (.inl (by assumption)) h1 h2 hd hc
    · obtain ⟨v, h1, h2⟩ := h; exact W.celln k (.inr (by assumption)) h1 h2 hd hc
    · obtain ⟨v, h1, h2⟩ := h; exact W.globaln k (by assumption) h1 h2 hd
    · exact h.elim

/-- the names' store -/
theorem Rep.setL {x : Str} {v : Value} {h' : Heap} {tk : Nat} (r : Rep C g loc hp s) (hx : C.env.kindOf x = some .local) (hn : ∀ m, s.heap.Ns C.L m → h'.Ns C.L (fun y => if y = x then some v else m y))
    (hs : Heap.SameBut C.L s.heap h') (hcx : C.env.cells.lookup x = none) : Rep C g (setL loc x (pv v)) hp { s with heap := h', toks := tk } := by
  have cn := fun x c e => r.cne (x := x) (c := c) e
  have ob := fun a po e => r.objNe (a := a) (po := po) e
  have kn := fun b o e => r.keepL (b := b) (o := o) e
  have gn := fun b o e => r.gneL (b := b) (o := o) e
  have hk := hs.extBut
  obtain ⟨⟨h, t, rfl⟩, ⟨m, n1, n2⟩, k, ab, gk, gL, ce, co, ca, obj, of, fr⟩ := r
  refine ⟨⟨h', tk, rfl⟩, ⟨_, hn m n1, fun y hy => ?_⟩, fun b o e => hk b o (kn b o e) (k b o e), ab, fun b o e => hk b o (gn b o e) (gk b o e), gL, fun y c e => ?_, co, ca, fun a po e => ?_, of, fr⟩
  · unfold Hd.setL; intro p hp'; split at hp'
    · rename_i e; cases hp'; simp [e]
    · rename_i e; simp only [e, if_false]; exact n2 y hy p hp'
  · obtain ⟨u, ⟨oc, a1, a2⟩, b⟩ := ce y c e
    refine ⟨u, ⟨oc, hk c oc (cn y c e) a1, a2⟩, ?_⟩
    unfold Hd.setL; rw [if_neg (by rintro rfl; rw [hcx] at e; cases e)]; exact b
  · obtain ⟨o, a1, a2⟩ := obj a po e; exact ⟨o, hk a o (ob a po e) a1, a2⟩
theorem Rep.setC {x : Str} {c : Addr} {v : Value} {h' : Heap} {tk : Nat} (r : Rep C g loc hp s) (hx : C.env.kindOf x = some .cell) (hc : C.env.cells.lookup x = some c) (hv : h'.IsCell c (some v))
    (hs : Heap.SameBut c s.heap h') : Rep C g (Hd.setL loc x (pv v)) hp { s with heap := h', toks := tk } := by
  obtain ⟨c1, c2, c3, c4⟩ := r.coff x c hc
  have ob : ∀ a po, hp a = some po → a ≠ c := fun a po e => by
    rintro rfl
    obtain ⟨o, h1, h2⟩ := r.objs a po e
    obtain ⟨u, ⟨oc, h3, h4⟩, _⟩ := r.cells x a hc
    rw [h1] at h3; cases h3
    have hm := c4 po e
    cases po <;> simp [PO.mut] at hm
    obtain ⟨_, vs, k, e2, _⟩ := h2
    rw [e2] at h4; cases h4
  have hk := hs.extBut
  obtain ⟨⟨h, t, rfl⟩, ⟨m, n1, n2⟩, k, ab, gk, gL, ce, co, ca, obj, of, fr⟩ := r
  refine ⟨⟨h', tk, rfl⟩, ⟨m, n1.sameBut hs (Ne.symm c3), fun y hy => ?_⟩, fun b o e => hk b o ?_ (k b o e), ab, fun b o e => hk b o ?_ (gk b o e), gL, fun y c' e => ?_, co, ca, fun a po e => ?_, of, fr⟩
  · unfold Hd.setL; rw [if_neg (by rintro rfl; rw [hx] at hy; cases hy)]; exact n2 y hy
  · rintro rfl; rw [c2] at e; cases e
  · rintro rfl; rw [c1] at e; cases e
  · by_cases hyx : y = x
    · subst hyx; rw [hc] at e; cases e
      exact ⟨some v, hv, by unfold Hd.setL; rw [if_pos rfl]; exact fun p q => q⟩
    · obtain ⟨u, a, b⟩ := ce y c' e
      exact ⟨u, a.sameBut hs (fun q => hyx (ca y x c (q ▸ e) hc)), by unfold Hd.setL; rw [if_neg hyx]; exact b⟩
  · obtain ⟨o, a1, a2⟩ := obj a po e; exact ⟨o, hk a o (ob a po e) a1, a2⟩

def pStore (sc : Scope) (x : Str) (v : PV) (loc : Loc) (Q : Loc → Prop) : Prop :=
  (sc.names.lookup x = some .local ∨ sc.names.lookup x = some .cell) ∧ Q (setL loc x v)
theorem WL.store {x : Str} {v : Value} {Q : Loc → PHeap → Prop} (k : Ok P C n) (h : pStore C.env.scope x (pv v) loc (fun l => Q l hp)) : WL C (storeName C.env x v) loc hp (fun _ => Q) := by
  intro g s r
  obtain ⟨hx, h⟩ := h
  rcases hx with hx | hx
  · obtain ⟨m, n1, n2⟩ := r.ns
    refine wpAny_storeName_local hx n1 (fun h' hn hs => ⟨_, hp, r.setL hx (fun m' n' => ?_) hs (k.hl x hx), h⟩) (by rw [k.kind]; rfl)
    have : m' = m := by
      obtain ⟨o1, es1, ep1, a1, a2, _, a3⟩ := n'
      obtain ⟨o2, es2, ep2, b1, b2, _, b3⟩ := n1
      rw [a1] at b1; cases b1
      rw [a2] at b2; cases b2
      funext x; rw [← a3, ← b3]
    rw [this]; exact hn
  · obtain ⟨c, ec⟩ := Option.isSome_iff_exists.mp (k.hc x (.inl hx))
    obtain ⟨u, h1, h2⟩ := r.cells x c ec
    exact wpAny_storeName_cell k.kind hx ec h1 fun h' hc hs => ⟨_, hp, by have := r.setC (tk := s.toks) hx ec hc hs; exact this, h⟩
end
end Hd

namespace Hd

/-- a list's items -/
def lst (hp : PHeap) (a : Addr) : Option (List PV) := match hp a with
  | some (.list xs) => some xs
  | some (.flist xs) => some xs
  | _ => none

section
variable {P : Prg} {C : Cx} {n : Nat} {g : Heap} {loc : Loc} {hp : PHeap} {s : Shared}

theorem Rep.isList (r : Rep C g loc hp s) {a : Addr} {xs : List PV} (h : lst hp a = some xs) : ∃ vs : List Value, s.heap.IsList a vs.toArray ∧ vs.map pv = xs := by
  unfold lst at h
  split at h
  · rename_i ys e
    cases h
    obtain ⟨o, h1, vs, n, rfl, h2⟩ := r.objs a _ e
    exact ⟨vs.toList, ⟨_, h1, rfl, n, rfl⟩, h2⟩
  · rename_i ys e
    cases h
    obtain ⟨o, h1, hc, vs, n, h3, h2⟩ := r.objs a _ e
    exact ⟨vs.toList, ⟨_, h1, hc, n, h3⟩, h2⟩
  · cases h
theorem Rep.isTuple (r : Rep C g loc hp s) {a : Addr} {xs : List PV} (h : hp a = some (.tuple xs)) : ∃ vs : List Value, s.heap.IsTuple a vs.toArray ∧ vs.map pv = xs := by
  obtain ⟨o, h1, vs, n, rfl, h2⟩ := r.objs a _ h
  exact ⟨vs.toList, ⟨_, h1, rfl, n, rfl⟩, h2⟩

/-- a new object of the ledger's make -/
theorem Rep.allocN (r : Rep C g loc hp s) {m : Str → Option Value} {h' : Heap} {tk : Nat} {o : Obj} {po : PO} (F : Fr C.h₀ C.L s.heap m) (F' : Fr C.h₀ C.L h' m)
    (N' : News C.h₀ C.L h' ((s.heap.objs.size, o) :: allN C.h₀ C.L s.heap)) (hr : RO po o) (hpm : po.mut = true := by rfl) : hp s.heap.objs.size = none ∧ Rep C g loc (upd hp s.heap.objs.size po) { s with heap := h', toks := tk } :=
  r.alloc (get?_size _) (kp_of_fr F F' N' fun _ h => .tail _ h) (N' _ (.head _)).1 hr hpm

def pBin (op : Operator) (a b : PV) (hp : PHeap) (Q : PV → PHeap → Prop) : Prop := match op, a, b with
  | .Add, .int i, .int j => Q (.int (i + j)) hp
  | .Sub, .int i, .int j => Q (.int (i - j)) hp
  | .Mult, .int i, .int j => IntMulOk i j ∧ Q (.int (i * j)) hp
  | .FloorDiv, .int i, .int j => 0 < j ∧ j < 1073741824 ∧ Q (.int (i.fdiv j)) hp
  | .Mod, .int i, .int j => j ≠ 0 ∧ Q (.int (i.fmod j)) hp
  | .Pow, .int i, .int j => 0 ≤ j ∧ j ≤ 1000000 ∧ i.natAbs < 2 ^ 64 ∧ Q (.int (i ^ j.toNat)) hp
  | .Add, .str x, .str y => x.length + y.length ≤ sizeLine ∧ Q (.str (x ++ y)) hp
  | .Add, .ref a, .ref b => ∃ xs ys, lst hp a = some xs ∧ lst hp b = some ys ∧ xs.length + ys.length ≤ sizeLine ∧ ∀ c, hp c = none → Q (.ref c) (upd hp c (.list (xs ++ ys)))
  | _, _, _ => False

theorem W.bin {op : Operator} {a b : Value} {Q : PV → PHeap → Prop} (h : pBin op (pv a) (pv b) hp Q) : W C loc (binaryOp op a b) hp (fun v hp' => Q (pv v) hp') := by
  intro g s r
  unfold pBin at h
  split at h
  · rename_i e1 e2; obtain ⟨t, rfl⟩ := pv_int e1; obtain ⟨u, rfl⟩ := pv_int e2
    exact add_int ⟨hp, r.toks _, h⟩
  · rename_i e1 e2; obtain ⟨t, rfl⟩ := pv_int e1; obtain ⟨u, rfl⟩ := pv_int e2
    exact sub_int ⟨hp, r.toks _, h⟩
  · rename_i e1 e2; obtain ⟨t, rfl⟩ := pv_int e1; obtain ⟨u, rfl⟩ := pv_int e2
    exact mul_int ⟨hp, r.toks _, h.2⟩ h.1
  · rename_i e1 e2; obtain ⟨t, rfl⟩ := pv_int e1; obtain ⟨u, rfl⟩ := pv_int e2
    exact floordiv_int (by omega) ⟨hp, r.toks _, h.2.2⟩ (Or.inl (PyProof.noPylong_small (by omega)))
  · rename_i e1 e2; obtain ⟨t, rfl⟩ := pv_int e1; obtain ⟨u, rfl⟩ := pv_int e2
    exact mod_int h.1 ⟨hp, r.toks _, h.2⟩
  · rename_i e1 e2; obtain ⟨t, rfl⟩ := pv_int e1; obtain ⟨u, rfl⟩ := pv_int e2
    exact pow_int_small h.1 h.2.1 h.2.2.1 ⟨hp, r.toks _, h.2.2.2⟩
  · rename_i e1 e2; obtain ⟨t, rfl⟩ := pv_str e1; obtain ⟨u, rfl⟩ := pv_str e2
    exact add_str (fun t' tk => ⟨hp, r.toks _, h.2⟩) h.1
  · rename_i x y e1 e2; cases pv_ref e1; cases pv_ref e2
    obtain ⟨xs, ys, h1, h2, h3, h4⟩ := h
    obtain ⟨vs, l1, rfl⟩ := r.isList h1
    obtain ⟨ws, l2, rfl⟩ := r.isList h2
    obtain ⟨m, F, _⟩ := r.fr
    refine add_lists (hsz := by simpa using h3) F (allN_news _ _ _) l1 l2 fun h' F' N' => ?_
    obtain ⟨hn, r'⟩ := r.allocN (tk := s.toks) (po := .list (vs.map pv ++ ws.map pv)) F F' N' ⟨_, _, rfl, by simp⟩
    exact ⟨_, r', h4 _ hn⟩
  · exact h.elim

/-- a op= b -/
def pAug (op : Operator) (a b : PV) (hp : PHeap) (Q : PV → PHeap → Prop) : Prop := match op, a, b with
  | .Add, .int i, .int j => Q (.int (i + j)) hp
  | .Sub, .int i, .int j => Q (.int (i - j)) hp
  | .Add, .str x, .str y => x.length + y.length ≤ sizeLine ∧ Q (.str (x ++ y)) hp
  | _, _, _ => False
theorem W.aug {op : Operator} {a b : Value} {Q : PV → PHeap → Prop} (h : pAug op (pv a) (pv b) hp Q) : W C loc (inplaceOp op a b) hp (fun v hp' => Q (pv v) hp') := by
  intro g s r
  unfold pAug at h
  split at h
  · rename_i e1 e2; obtain ⟨t, rfl⟩ := pv_int e1; obtain ⟨u, rfl⟩ := pv_int e2
    exact iadd_int ⟨hp, r.toks _, h⟩
  · rename_i e1 e2; obtain ⟨t, rfl⟩ := pv_int e1; obtain ⟨u, rfl⟩ := pv_int e2
    exact isub_int ⟨hp, r.toks _, h⟩
  · rename_i e1 e2; obtain ⟨t, rfl⟩ := pv_str e1; obtain ⟨u, rfl⟩ := pv_str e2
    exact iadd_str (fun t' tk => ⟨hp, r.toks _, h.2⟩) h.1
  · exact h.elim

/-- a is b -/
def pIs (hp : PHeap) (a b : PV) : Option Bool := match a, b with
  | .ref x, .ref y => if x = y then some true else match hp x, hp y with
    | some (.tuple _), _ => none
    | some _, some _ => some false
    | _, _ => none
  | .int _, .int _ => none
  | .str _, .str _ => none
  | .bi _, _ => none
  | _, .bi _ => none
  | .other, _ => none
  | _, .other => none
  | a, b => some (a == b)

theorem RO.cls_ne {po : PO} {o : Obj} (h : RO po o) (hp : ∀ xs, po ≠ .tuple xs) : o.cls ≠ .type "tuple" := by
  cases po with
  | list xs => obtain ⟨vs, n, rfl, _⟩ := h; simp
  | flist xs => rw [h.1]; simp
  | tuple xs => exact absurd rfl (hp xs)
  | inst c d => rw [show o = _ from h]; simp
  | attrs es => obtain ⟨ds, n, rfl, _⟩ := h; simp
  | range a b => obtain ⟨_, _, _, _, rfl⟩ := h; simp

theorem W.same {a b : Value} {c : Bool} {Q : Bool → PHeap → Prop} (h : pIs hp (pv a) (pv b) = some c) (hq : Q c hp) : W C loc (isSame a b) hp Q := by
  intro g s r
  by_cases hb : PySem.plainIs a b = true
  · refine wpAny_isSame_plain hb ⟨hp, r, ?_⟩
    have : (a == b) = c := by
      cases a <;> cases b <;> first | (simp [PySem.plainIs] at hb; done) | (simp only [pv, pIs, Option.some.injEq, reduceCtorEq] at h; rw [← h, Bool.eq_iff_iff, beq_iff_eq, beq_iff_eq]; simp; done) | (simp [pv, pIs] at h; done)
    rw [this]; exact hq
  · cases a <;> cases b <;> first
      | (simp [PySem.plainIs] at hb; done)
      | (simp [pv, pIs] at h; done)
      | skip
    rename_i x y
    simp only [pv, pIs] at h
    split at h
    · rename_i e; subst e; cases h; exact wpAny_isSame_ref_self ⟨hp, r, hq⟩
    · rename_i e
      split at h
      · cases h
      · rename_i po po' q1 q2 hne
        cases h
        obtain ⟨o, h1, h2⟩ := r.objs x _ q2
        obtain ⟨o', h1', _⟩ := r.objs y _ hne
        exact wpAny_isSame_ref_other e h1 h1' (h2.cls_ne (fun xs q => by subst q; exact q1 xs rfl)) ⟨hp, r, hq⟩
      · cases h

def pCmp0 (op : CmpOp) (a b : PV) (hp : PHeap) (Q : Bool → Prop) : Prop := match op, a, b with
  | .Eq, .int i, .int j => Q (decide (i = j))
  | .NotEq, .int i, .int j => Q (decide (i ≠ j))
  | .Lt, .int i, .int j => Q (decide (i < j))
  | .LtE, .int i, .int j => Q (decide (i ≤ j))
  | .Gt, .int i, .int j => Q (decide (j < i))
  | .GtE, .int i, .int j => Q (decide (j ≤ i))
  | .Eq, .str x, .str y => Q (decide (x = y))
  | .NotEq, .str x, .str y => Q (decide (x ≠ y))
  | .Eq, .bool x, .bool y => Q (decide (x = y))
  | .NotEq, .bool x, .bool y => Q (decide (x ≠ y))
  | .Is, a, b => ∃ c, pIs hp a b = some c ∧ Q c
  | .IsNot, a, b => ∃ c, pIs hp a b = some c ∧ Q (!c)
  | _, _, _ => False

theorem W.cmp0 {op : CmpOp} {a b : Value} {Q : PV → PHeap → Prop} (h : pCmp0 op (pv a) (pv b) hp (fun c => Q (.bool c) hp)) : W C loc (compareOp op a b) hp (fun v hp' => Q (pv v) hp') := by
  unfold pCmp0 at h
  split at h
  · rename_i e1 e2; obtain ⟨t, rfl⟩ := pv_int e1; obtain ⟨u, rfl⟩ := pv_int e2
    exact fun g s r => eq_int ⟨hp, r, by rw [show (_ == _) = decide _ from rfl]; simpa [pv] using h⟩
  · rename_i e1 e2; obtain ⟨t, rfl⟩ := pv_int e1; obtain ⟨u, rfl⟩ := pv_int e2
    exact fun g s r => ne_int ⟨hp, r, by simpa [pv, bne, BEq.beq] using h⟩
  · rename_i e1 e2; obtain ⟨t, rfl⟩ := pv_int e1; obtain ⟨u, rfl⟩ := pv_int e2
    exact fun g s r => lt_int ⟨hp, r, h⟩
  · rename_i e1 e2; obtain ⟨t, rfl⟩ := pv_int e1; obtain ⟨u, rfl⟩ := pv_int e2
    exact fun g s r => PyProof.Rows.le_int ⟨hp, r, h⟩
  · rename_i e1 e2; obtain ⟨t, rfl⟩ := pv_int e1; obtain ⟨u, rfl⟩ := pv_int e2
    exact fun g s r => PyProof.Rows.gt_int ⟨hp, r, h⟩
  · rename_i e1 e2; obtain ⟨t, rfl⟩ := pv_int e1; obtain ⟨u, rfl⟩ := pv_int e2
    exact fun g s r => PyProof.Rows.ge_int ⟨hp, r, h⟩
  · rename_i e1 e2; obtain ⟨t, rfl⟩ := pv_str e1; obtain ⟨u, rfl⟩ := pv_str e2
    exact fun g s r => PyProof.Rows.eq_str ⟨hp, r, by simpa [pv, BEq.beq] using h⟩
  · rename_i e1 e2; obtain ⟨t, rfl⟩ := pv_str e1; obtain ⟨u, rfl⟩ := pv_str e2
    exact fun g s r => PyProof.Rows.ne_str ⟨hp, r, by simpa [pv, bne, BEq.beq] using h⟩
  · rename_i x y e1 e2; cases pv_bool e1; cases pv_bool e2
    exact fun g s r => eq_bool ⟨hp, r, by cases x <;> cases y <;> simpa [pv] using h⟩
  · rename_i x y e1 e2; cases pv_bool e1; cases pv_bool e2
    exact fun g s r => ne_bool ⟨hp, r, by cases x <;> cases y <;> simpa [pv] using h⟩
  · obtain ⟨c, h1, h2⟩ := h
    show W C loc (isSame a b >>= fun c => pure (Value.bool c)) hp _
    exact W.bind (W.same h1 (W.unit h2))
  · obtain ⟨c, h1, h2⟩ := h
    show W C loc (isSame a b >>= fun c => pure (Value.bool (!c))) hp _
    exact W.bind (W.same h1 (W.unit h2))
  · exact h.elim
end
end Hd

namespace Hd

theorem map1 {vs : List Value} {a : PV} (h : vs.map pv = [a]) : ∃ v, vs = [v] ∧ pv v = a := by
  match vs, h with
  | [v], h => exact ⟨v, rfl, by simpa using h⟩
theorem map2 {vs : List Value} {a b : PV} (h : vs.map pv = [a, b]) : ∃ v w, vs = [v, w] ∧ pv v = a ∧ pv w = b := by
  match vs, h with
  | [v, w], h => exact ⟨v, w, rfl, by simpa using h⟩
theorem map3 {vs : List Value} {a b c : PV} (h : vs.map pv = [a, b, c]) : ∃ v w u, vs = [v, w, u] ∧ pv v = a ∧ pv w = b ∧ pv u = c := by
  match vs, h with
  | [v, w, u], h => exact ⟨v, w, u, rfl, by simpa using h⟩
theorem mapk0 {vs : List (Str × Value)} (h : vs.map pvb = []) : vs = [] := by simpa using h

section
variable {P : Prg} {C : Cx} {n : Nat} {g : Heap} {loc : Loc} {hp : PHeap} {s : Shared} {Q : PV → PHeap → Prop}

theorem call_len_list' {a : Addr} {xs : List PV} (h : lst hp a = some xs) (hz : xs.length < 2 ^ 62) (hq : Q (.int xs.length) hp) : Calls P n (.builtin "len") [.ref a] [] hp Q := by
  intro C k loc vs kws e1 e2 g s r
  obtain ⟨v, rfl, hv⟩ := map1 e1; cases pv_ref hv; cases mapk0 e2
  obtain ⟨us, hl, rfl⟩ := r.isList h
  rw [List.length_map] at hz hq
  exact len_list hl (by simp only [List.size_toArray]; omega) ⟨hp, r.toks _, by simpa [pv] using hq⟩
theorem call_upper {x : Str} (hz : x.length ≤ 5000000) (hq : Q (.str (Txt.upper x)) hp) : Calls P n (.builtin "str.upper") [.str x] [] hp Q := by
  intro C k loc vs kws e1 e2 g s r
  obtain ⟨v, rfl, hv⟩ := map1 e1; obtain ⟨t, rfl⟩ := pv_str hv; cases mapk0 e2
  exact SCL.upper (by omega) fun _ => ⟨hp, r.toks _, hq⟩
theorem call_lower {x : Str} (hz : x.length ≤ 5000000) (hq : Q (.str (Txt.lower x)) hp) : Calls P n (.builtin "str.lower") [.str x] [] hp Q := by
  intro C k loc vs kws e1 e2 g s r
  obtain ⟨v, rfl, hv⟩ := map1 e1; obtain ⟨t, rfl⟩ := pv_str hv; cases mapk0 e2
  exact SCL.lower (by omega) fun _ => ⟨hp, r.toks _, hq⟩
theorem call_append {a : Addr} {xs : List PV} {x : PV} (h : hp a = some (.list xs)) (hz : xs.length ≤ sizeLine) (hq : Q .none (upd hp a (.list (xs ++ [x])))) : Calls P n (.builtin "list.append") [.ref a, x] [] hp Q := by
  intro C k loc vs kws e1 e2 g s r
  obtain ⟨v, u, rfl, hv, hu⟩ := map2 e1; cases pv_ref hv; cases mapk0 e2
  obtain ⟨o, ho, us, m, rfl, rfl⟩ := r.objs a _ h
  refine wpAny_list_append_plain ⟨m, ho⟩ (fun h' hl hs => ?_) (by simpa using hz)
  obtain ⟨m', hl⟩ := hl
  exact ⟨_, by have := r.update (tk := s.toks) (po' := .list (us.toList.map pv ++ [x])) h rfl hs.extBut hl ⟨_, _, rfl, by simp [hu]⟩; exact this, hq⟩
theorem call_range1 {b : Int} (hq : ∀ c, hp c = none → Q (.ref c) (upd hp c (.range 0 b))) : Calls P n (.type "range") [.int b] [] hp Q := by
  intro C k loc vs kws e1 e2 g s r
  obtain ⟨v, rfl, hv⟩ := map1 e1; obtain ⟨t, rfl⟩ := pv_int hv; cases mapk0 e2
  refine call_range_1 ?_
  obtain ⟨hn, r'⟩ := r.alloc (tk := s.toks + 1 + 1) (po := .range 0 b) (get?_size _) (Kp.of fun b o e => Heap.get?_push_of_some _ e) (Heap.get?_push_size _ rfl) ⟨_, _, _, trivial, rfl⟩
  exact ⟨_, r', hq _ hn⟩
/-- which value a method's name finds -/
def MethTo (P : Prg) (hp : PHeap) (v : PV) (name : Str) (f : Value) : Prop :=
  ∀ C n loc val pl, Ok P C n → pv val = v → ∀ Q : Value × List Value → PHeap → Prop, Q (f, [val]) hp → W C loc (getMethod val name pl) hp Q

theorem meth_upper {x : Str} : MethTo P hp (.str x) (Str.ofString "upper") (.builtin "str.upper") := by
  intro C n loc val pl k hv Q hq g s r; obtain ⟨t, rfl⟩ := pv_str hv; exact GM.upper ⟨hp, r, hq⟩
theorem meth_lower {x : Str} : MethTo P hp (.str x) (Str.ofString "lower") (.builtin "str.lower") := by
  intro C n loc val pl k hv Q hq g s r; obtain ⟨t, rfl⟩ := pv_str hv; exact GM.lower ⟨hp, r, hq⟩
theorem meth_append {a : Addr} {xs : List PV} (h : hp a = some (.list xs)) : MethTo P hp (.ref a) (Str.ofString "append") (.builtin "list.append") := by
  intro C n loc val pl k hv Q hq g s r; cases pv_ref hv
  obtain ⟨o, ho, us, m, rfl, _⟩ := r.objs a _ h
  exact getMethod_builtin (T := "list") ⟨_, ho, rfl⟩ F.plainAttrs_list F.slot_list_append F.type_list_append (fun b e => by cases e; exact ⟨_, ho, rfl⟩) ⟨hp, r, hq⟩

/-- a method of an own class -/
theorem meth_own {a c d : Addr} {es : List (Str × PV)} {name : Str} {f : Addr} (h : hp a = some (.inst c d)) (hd : hp d = some (.attrs es)) (hn : (es.all fun e => e.1 != name) = true)
    (hg : plainGet P.K c name = true) (hf : findIn P.K (.ref c) name = some (some (.ref f))) (ht : isFn P.K (.ref f) = true) : MethTo P hp (.ref a) name (.ref f) := by
  intro C n loc val pl k hv Q hq g s r; cases pv_ref hv
  obtain ⟨o, ho, rfl⟩ := r.objs a _ h
  obtain ⟨od, hod, ds, m, rfl, h2⟩ := r.objs d _ hd
  obtain ⟨mm, F, _⟩ := r.fr
  refine method_inst F k.K (I := ⟨ho, rfl, rfl, hod⟩) hg hf ht ?_ ⟨hp, r, hq⟩
  clear hod hd ho h
  have hkey : ∀ e ∈ ds, e.key.isStr name = false ∧ e.refKey = false := by
    intro e he
    induction h2 with
    | nil => cases he
    | cons x _ ih =>
      simp only [List.all_cons, Bool.and_eq_true, bne_iff_ne, ne_eq] at hn
      rcases List.mem_cons.mp he with rfl | he
      · obtain ⟨⟨t, ht⟩, _⟩ := x
        rw [ht]
        exact ⟨by simp [Value.isStr, hn.1], by simp [DictEntry.refKey, ht]⟩
      · exact ih hn.2 he
  unfold getL
  rw [List.find?_eq_none.mpr fun e he => by simp [(hkey e he).1]]
  simp only
  rw [if_neg]
  intro q
  obtain ⟨e, he, h1⟩ := List.any_eq_true.mp q
  rw [(hkey e he).2] at h1; cases h1
end
end Hd

namespace Hd

def notStar : Expr → Bool
  | .Starred _ _ => false
  | _ => true

theorem starEach_plain (pos : Pos) (env : Env) : ∀ (es : List Expr), es.all notStar = true → backTo pos (starEach es env) = es.map fun e => (false, eval e env)
  | [], _ => by rw [starEach]; rfl
  | e :: r, h => by
    simp only [List.all_cons, Bool.and_eq_true] at h
    have ih := starEach_plain pos env r h.2
    have : starEach (e :: r) env = (false, eval e env) :: starEach r env := by
      cases e
      case Starred => exact absurd h.1 (by simp [notStar])
      all_goals (with_unfolding_all rfl)
    rw [this]
    show (false, eval e env) :: backTo pos (starEach r env) = _
    rw [ih]; rfl

section
variable {P : Prg} {C : Cx} {n : Nat} {g : Heap} {loc : Loc} {hp : PHeap} {s : Shared}

theorem W.splNil {Q : List Value → PHeap → Prop} (h : Q [] hp) : W C loc (spliced []) hp Q := fun _ _ r => Calls.spliced_nil ⟨hp, r, h⟩
theorem W.splCons {t : Sem Value} {rest : List (Bool × Sem Value)} {Q : List Value → PHeap → Prop} (h : W C loc t hp (fun v hp' => W C loc (spliced rest) hp' (fun vs hp'' => Q (v :: vs) hp''))) : W C loc (spliced ((false, t) :: rest)) hp Q :=
  fun g s r => Calls.spliced_cons (wpAny_mono (h g s r) (fun _ s' ⟨_, r', q⟩ => q g s' r') fun _ _ x => x)
theorem W.allNil {Q : List Value → PHeap → Prop} (h : Q [] hp) : W C loc (evalAll []) hp Q := fun _ _ r => wpAny_evalAll_nil ⟨hp, r, h⟩
theorem W.allCons {t : Sem Value} {rest : List (Sem Value)} {Q : List Value → PHeap → Prop} (h : W C loc t hp (fun v hp' => W C loc (evalAll rest) hp' (fun vs hp'' => Q (v :: vs) hp''))) : W C loc (evalAll (t :: rest)) hp Q :=
  fun g s r => wpAny_evalAll_cons (wpAny_mono (h g s r) (fun _ s' ⟨_, r', q⟩ => q g s' r') fun _ _ x => x)

theorem W.evalArgs {f : Value} {es : List (Sem Value)} {keywords : List (Option Str × Sem Value)} {Q : Args → PHeap → Prop} (hall : keywords.all (·.1.isSome) = true)
    (h : W C loc (spliced (es.map fun t => (false, t))) hp (fun vs hp' => W C loc (evalAll (keywords.map (·.2))) hp' (fun ks hp'' => Q ⟨vs, (keywords.filterMap (·.1)).zip ks⟩ hp''))) :
    W C loc (evalArgs f true (es.map fun t => (false, t)) keywords) hp Q := by
  intro g s r
  have h' := h g s r
  cases es with
  | nil =>
    refine evalArgs_kw_nil hall ?_
    have h1 : W C loc (pure []) hp (fun vs hp' => W C loc (evalAll (keywords.map (·.2))) hp' (fun ks hp'' => Q ⟨vs, (keywords.filterMap (·.1)).zip ks⟩ hp'')) := h
    have : W C loc (pure [] >>= fun vs => evalAll (keywords.map (·.2)) >>= fun ks => pure (⟨vs, (keywords.filterMap (·.1)).zip ks⟩ : Args)) hp Q := W.bind (h1.mono fun vs hp' q => W.bind (q.mono fun ks hp'' q' => W.unit q'))
    have h2 := this g s r
    have e : (pure [] >>= fun vs => evalAll (keywords.map (·.2)) >>= fun ks => pure (⟨vs, (keywords.filterMap (·.1)).zip ks⟩ : Args)) = (evalAll (keywords.map (·.2)) >>= fun ks => (pure (⟨[], (keywords.filterMap (·.1)).zip ks⟩ : Args) : Sem Args)) := rfl
    rw [e] at h2
    intro Γ p hΓ
    have h3 := h2 Γ p hΓ
    rw [Sem.wp_bind'] at h3
    exact h3
  | cons t r' =>
    exact evalArgs_kw (rest := r'.map fun t => (false, t)) hall (wpAny_mono h' (fun vs s' ⟨_, r1, q⟩ => q g s' r1) fun _ _ x => x)

def KeepOk (P : Prg) (f : Value) : Prop := (∃ id, f = .builtin id) ∨ (∃ T, f = .type T) ∨ keepIn P.K f = true

theorem W.callWith {pos : Pos} {f : Value} {first : List Value} {es : List (Sem Value)} {keywords : List (Option Str × Sem Value)} {Q : Value → PHeap → Prop} (k : Ok P C n) (hk : KeepOk P f) (hall : keywords.all (·.1.isSome) = true)
    (h : W C loc (spliced (es.map fun t => (false, t))) hp (fun vs hp' => W C loc (evalAll (keywords.map (·.2))) hp' (fun ks hp'' => W C loc (call f (first ++ vs) ((keywords.filterMap (·.1)).zip ks)) hp'' Q))) :
    W C loc (callWith pos f first (es.map fun t => (false, t)) keywords) hp Q := by
  intro g s r
  have hplain : ((es.map fun t => (false, t)).any (·.1) || keywords.any (·.1.isNone)) = false := by
    have h1 : (es.map fun t => (false, t)).any (·.1) = false := by simp
    have h2 : keywords.any (·.1.isNone) = false := by
      rw [List.any_eq_false]; intro x hx; have := List.all_eq_true.mp hall x hx; cases e : x.1 <;> simp_all
    rw [h1, h2]; rfl
  refine callWith_of (P := fun h => P.K.In h) hplain (fun h X => ?_) (wpAny_mono (W.evalArgs hall (Q := fun a hp' => W C loc (call f (first ++ a.pos) a.kw) hp' Q) h g s r) (fun a s' ⟨hp', r', q⟩ => ⟨r'.K k, q g s' r'⟩) fun _ _ x => x)
  rcases hk with ⟨id, rfl⟩ | ⟨T, rfl⟩ | hk
  · exact ⟨.machine, .inr (.inl rfl), Looks.of_pure rfl⟩
  · exact ⟨.machine, .inr (.inl rfl), Looks.of_pure rfl⟩
  · exact keeps_K hk h X

theorem map_map' (es : List Expr) (env : Env) : (es.map fun e => (false, eval e env)) = (es.map fun e => eval e env).map fun t => (false, t) := by simp

/-- f(..), f no attribute -/
theorem W.call {x : Str} {px pos : Pos} {args : List Expr} {kws : List Keyword} {Q : Value → PHeap → Prop} (k : Ok P C n) (hs : args.all notStar = true) (hall : (backToKw pos (keywordEach kws C.env)).all (·.1.isSome) = true)
    (h : W C loc (eval (.Name x px) C.env) hp (fun f hp₁ => KeepOk P f ∧ W C loc (spliced ((args.map fun e => eval e C.env).map fun t => (false, t))) hp₁ (fun vs hp' =>
      W C loc (evalAll ((backToKw pos (keywordEach kws C.env)).map (·.2))) hp' (fun ks hp'' => W C loc (call f vs (((backToKw pos (keywordEach kws C.env)).filterMap (·.1)).zip ks)) hp'' Q)))) :
    W C loc (eval (.Call (.Name x px) args kws pos) C.env) hp Q := by
  have e : eval (.Call (.Name x px) args kws pos) C.env = (eval (.Name x px) C.env >>= fun f => PySem.callWith pos f [] (backTo pos (starEach args C.env)) (backToKw pos (keywordEach kws C.env))) := by
    with_unfolding_all rfl
  rw [e, starEach_plain pos C.env args hs, map_map']
  exact W.bind (h.mono fun f hp₁ q => W.callWith k q.1 hall q.2)

def baseOk : Expr → Bool
  | .Call (.Name _ _) [] [] _ => false
  | _ => true
theorem attributeBase_ok {o : Expr} (h : baseOk o = true) (name : Str) (env : Env) (t : Sem Value) : attributeBase o name env t = t := by
  unfold attributeBase
  split
  · simp [baseOk] at h
  · rfl

/-- o.m(..) -/
theorem W.callM {o : Expr} {name : Str} {apos pos : Pos} {args : List Expr} {kws : List Keyword} {Q : Value → PHeap → Prop} (k : Ok P C n) (hb : baseOk o = true) (hs : args.all notStar = true)
    (hall : (backToKw pos (keywordEach kws C.env)).all (·.1.isSome) = true) (hline : (apos.endLine == pos.line) = true) (hlen : args.length + kws.length < 20)
    (h : W C loc (eval o C.env) hp (fun ov hp₁ => ∃ f, MethTo P hp₁ (pv ov) name f ∧ KeepOk P f ∧ W C loc (spliced ((args.map fun e => eval e C.env).map fun t => (false, t))) hp₁ (fun vs hp' =>
      W C loc (evalAll ((backToKw pos (keywordEach kws C.env)).map (·.2))) hp' (fun ks hp'' => W C loc (PySem.call f (ov :: vs) (((backToKw pos (keywordEach kws C.env)).filterMap (·.1)).zip ks)) hp'' Q)))) :
    W C loc (eval (.Call (.Attribute o name apos) args kws pos) C.env) hp Q := by
  rw [arm_eval_Call, attributeBase_ok hb]
  refine W.bind (h.mono fun ov hp₁ q => ?_)
  obtain ⟨f, hm, hk, q⟩ := q
  refine W.bind (W.stand ?_)
  rw [starEach_plain pos C.env args hs, map_map']
  have hform : methodCallForm (args.length + kws.length) ((args.map fun e => eval e C.env).map fun t => (false, t)) (backToKw pos (keywordEach kws C.env)) = true := by
    unfold methodCallForm
    rw [hall]
    have : ((args.map fun e => eval e C.env).map fun t => (false, t)).all (fun x => !x.1) = true := by simp
    rw [this]
    simp only [Bool.true_and, decide_eq_true_eq]
    split <;> omega
  have hpos : methodCallPos true o C.env apos pos = pure pos := by unfold methodCallPos; simp [hline]
  unfold methodCall
  rw [hform, hpos]
  refine W.bind (W.hold ?_)
  unfold calleeOf
  rw [if_pos rfl]
  exact hm C n loc ov _ k rfl _ (W.bind (W.unit (W.callWith k hk hall q)))
end
end Hd

namespace Hd

section
variable {P : Prg} {C : Cx} {n : Nat} {g : Heap} {loc : Loc} {hp : PHeap} {s : Shared}

theorem Rep.withA (r : Rep C g loc hp s) (A' : Around) : Rep { C with A := A' } g loc hp s :=
  ⟨r.sh, r.ns, r.keep, r.above, r.gkeep, r.gL, r.cells, r.coff, r.capart, r.objs, r.off, r.fro⟩
theorem Rep.ofA {A' : Around} (r : Rep { C with A := A' } g loc hp s) : Rep C g loc hp s :=
  ⟨r.sh, r.ns, r.keep, r.above, r.gkeep, r.gL, r.cells, r.coff, r.capart, r.objs, r.off, r.fro⟩
theorem Ok.withA {A' : Around} (k : Ok P C (n + 1)) (h1 : A'.handled = C.A.handled) (h2 : A'.depth ≤ C.A.depth + 1) (h3 : A'.units ≤ C.A.units + 8) : Ok P { C with A := A' } n :=
  ⟨h1.trans k.hh, by have := k.room; show A'.depth + n < _; omega, by have := k.units; show A'.units + 8 * n + 8 < _; omega, k.kind, k.glob, k.bui, k.K, k.mg, k.mb, k.lim, k.hc, k.hl, k.fz⟩
/-- a call a little deeper -/
theorem Calls.at {f : Value} {vs : List Value} {kws : List (Str × Value)} {Q : PV → PHeap → Prop} {A' : Around} (c : Calls P n f (vs.map pv) (kws.map pvb) hp Q) (k : Ok P C (n + 1)) (h1 : A'.handled = C.A.handled) (h2 : A'.depth ≤ C.A.depth + 1) (h3 : A'.units ≤ C.A.units + 8)
    (r : Rep C g loc hp s) : wpAny (model C.prog C.w) A' (call f vs kws) (fun v s' => ∃ hp', Rep C g loc hp' s' ∧ Q (pv v) hp') (fun _ _ => False) s :=
  wpAny_mono (c { C with A := A' } (k.withA h1 h2 h3) loc vs kws rfl rfl g s (r.withA A')) (fun _ _ ⟨hp', r', q⟩ => ⟨hp', r'.ofA, q⟩) fun _ _ x => x

/-- items, by place -/
def itemsOf (hp : PHeap) (a : Addr) : Option (List PV) := match hp a with
  | some (.list xs) => some xs
  | some (.flist xs) => some xs
  | some (.tuple xs) => some xs
  | _ => none

def pItem (o i : PV) (hp : PHeap) (Q : PV → PHeap → Prop) : Prop := match o, i with
  | .ref a, .int i => ∃ xs k v, itemsOf hp a = some xs ∧ seqIndex? i xs.length = some k ∧ xs[k]? = some v ∧ xs.length < 2 ^ 62 ∧ Q v hp
  | .str x, .int i => ∃ k c, seqIndex? i x.length = some k ∧ x.cps[k]? = some c ∧ x.length < 2 ^ 62 ∧ Q (.str ⟨#[c]⟩) hp
  | _, _ => False

theorem seqIndex_fits {i : Int} {len k : Nat} (h : seqIndex? i len = some k) : -(len : Int) ≤ i ∧ i < len ∧ k < len ∧ (0 ≤ i → k = i.toNat) ∧ (i < 0 → k = (i + len).toNat) := by
  unfold seqIndex? at h
  by_cases hi : i < 0
  · simp only [hi, if_true] at h
    split at h
    · rename_i hh; simp only [Bool.and_eq_true, decide_eq_true_eq] at hh; injection h with h; omega
    · cases h
  · simp only [hi, if_false] at h
    split at h
    · rename_i hh; simp only [Bool.and_eq_true, decide_eq_true_eq] at hh; injection h with h; omega
    · cases h

theorem sub_any (slice : Expr) (o i : Value) : ∃ ops, subscripted slice false o i = operate ops (getItem o i) := by
  unfold subscripted
  split
  · exact ⟨_, rfl⟩
  · contradiction
  · exact ⟨_, rfl⟩

theorem W.item {value slice : Expr} {o i : Value} {Q : PV → PHeap → Prop} (h : pItem (pv o) (pv i) hp Q) : W C loc (subscriptTail value slice o i) hp (fun v hp' => Q (pv v) hp') := by
  intro g s r
  obtain ⟨ops, hs⟩ := sub_any slice o i
  unfold pItem at h
  split at h
  · rename_i a i' e1 e2
    cases pv_ref e1; obtain ⟨t, rfl⟩ := pv_int e2
    obtain ⟨xs, k, v, h1, h2, h3, h4, hq⟩ := h
    obtain ⟨q1, q2, q3, q4, q5⟩ := seqIndex_fits h2
    unfold itemsOf at h1
    have lcase : ∀ us : List Value, s.heap.IsList a us.toArray → us.map pv = xs → wpAny (model C.prog C.w) C.A (subscriptTail value slice (.ref a) (.int i' t)) (fun v s' => ∃ hp', Rep C g loc hp' s' ∧ Q (pv v) hp') (fun _ _ => False) s := by
      intro us hl e
      subst e
      rw [List.length_map] at q1 q2 q3 q5 h4
      rw [List.getElem?_map] at h3
      cases e : us[k]? with
      | none => rw [e] at h3; cases h3
      | some u =>
        rw [e] at h3; cases h3
        refine tail_any hl.typeIs slot_list_getitem.lookup ?_ hs
        by_cases hi : 0 ≤ i'
        · exact wpAny_getItem_list hl hi (by omega) (by rw [← q4 hi]; simpa using e) ⟨hp, r, hq⟩
        · exact wpAny_getItem_list_neg hl (by omega) (by simpa using q1) (by omega) (by have := q5 (by omega); simp only [List.size_toArray]; rw [← this]; simpa using e) ⟨hp, r, hq⟩
    split at h1
    · rename_i ys e; cases h1
      obtain ⟨us, hl, e'⟩ := r.isList (a := a) (xs := xs) (by unfold lst; rw [e])
      exact lcase us hl e'
    · rename_i ys e; cases h1
      obtain ⟨us, hl, e'⟩ := r.isList (a := a) (xs := xs) (by unfold lst; rw [e])
      exact lcase us hl e'
    · rename_i ys e; cases h1
      obtain ⟨ob, ho, us, m, rfl, rfl⟩ := r.objs a _ e
      have hT : s.TypeIs (.ref a) "tuple" := ⟨_, ho, rfl⟩
      rw [List.length_map, Array.length_toList] at h2 h4 q1 q2
      rw [List.getElem?_map] at h3
      cases e' : us.toList[k]? with
      | none => rw [e'] at h3; cases h3
      | some u =>
        rw [e'] at h3; cases h3
        exact tail_any hT slot_tuple_getitem.lookup (PyProof.Rows.getItem_tuple ⟨_, ho, rfl, _, rfl⟩ (by omega) (by omega) h2 (by simpa using e') ⟨hp, r, hq⟩) hs
    · cases h1
  · rename_i x i' e1 e2
    obtain ⟨t, rfl⟩ := pv_str e1; obtain ⟨u, rfl⟩ := pv_int e2
    obtain ⟨k, c, h1, h2, h3, hq⟩ := h
    obtain ⟨q1, q2, q3, q4, q5⟩ := seqIndex_fits h1
    refine tail_any (typeIs_str _ _ _) slot_str_getitem.lookup (PyProof.Rows.getItem_str ?_ (by rw [h1]; exact h2) ⟨hp, r.toks _, hq⟩) hs
    rw [Bool.or_eq_false_iff, decide_eq_false_iff_not, decide_eq_false_iff_not]
    omega
  · exact h.elim

theorem W.subscript {value slice : Expr} {pos : Pos} {Q : Value → PHeap → Prop} (h : W C loc (eval value C.env) hp (fun o hp₁ => W C loc (eval slice C.env) hp₁ (fun i hp₂ => W C loc (subscriptTail value slice o i) hp₂ Q))) :
    W C loc (eval (.Subscript value slice pos) C.env) hp Q :=
  fun g s r => Subscript_ (wpAny_mono (h g s r) (fun _ s₁ ⟨_, r₁, q⟩ => wpAny_mono (q g s₁ r₁) (fun _ s₂ ⟨_, r₂, q'⟩ => q' g s₂ r₂) fun _ _ x => x) fun _ _ x => x)

/-- a cut of a list -/
def cut (xs : List PV) (lo hi : Option Int) : List PV := (xs.drop (lo.elim 0 (clipAt xs.length))).take (hi.elim xs.length (clipAt xs.length) - lo.elim 0 (clipAt xs.length))

def pPart : Option PV → Option (Option Int)
  | none => some none
  | some .none => some none
  | some (.int i) => some (some i)
  | _ => none

theorem isPart_of {v : Value} {o : Option Int} (h : pPart (some (pv v)) = some o) : IsPart v o := by
  cases v <;> simp [pPart, pv] at h
  · subst h; exact .none
  · subst h; exact .int _ _

def pSlice (o l u : PV) (hp : PHeap) (Q : PV → PHeap → Prop) : Prop := ∃ lo hi, pPart (some l) = some lo ∧ pPart (some u) = some hi ∧ match o with
  | .ref a => ∃ xs, lst hp a = some xs ∧ xs.length ≤ sizeLine ∧ ∀ c, hp c = none → Q (.ref c) (upd hp c (.list (cut xs lo hi)))
  | .str x => x.length ≤ sizeLine ∧ Q (.str (Txt.slice x lo hi)) hp
  | _ => False

theorem W.slice {value : Expr} {lower upper : Option Expr} {p pos : Pos} {Q : PV → PHeap → Prop}
    (h : W C loc (eval value C.env) hp (fun o hp₁ => W C loc (evalPart lower C.env) hp₁ (fun l hp₂ => W C loc (evalPart upper C.env) hp₂ (fun u hp₃ => pSlice (pv o) (pv l) (pv u) hp₃ Q)))) :
    W C loc (eval (.Subscript value (.Slice lower upper none p) pos) C.env) hp (fun v hp' => Q (pv v) hp') := by
  intro g s r
  refine Subscript_ (wpAny_mono (h g s r) (fun o s₁ ⟨hp₁, r₁, q⟩ => wpAny_Slice (wpAny_mono (q g s₁ r₁) (fun l s₂ ⟨hp₂, r₂, q₂⟩ => wpAny_mono (q₂ g s₂ r₂) (fun u s₃ ⟨hp₃, r₃, q₃⟩ => ?_) fun _ _ x => x) fun _ _ x => x)) fun _ _ x => x)
  rw [evalPart_none]
  refine wpAny_pure ?_
  obtain ⟨lo, hi, p1, p2, q4⟩ := q₃
  have r₄ : Rep C g loc hp₃ { s₃ with heap := s₃.heap.push { cls := .type "slice", data := .fields #[l, u, .none] }, toks := s₃.toks } := r₃.grown (Kp.of fun b o e => Heap.get?_push_of_some _ e)
  obtain ⟨ops, hs⟩ := sub_any (.Slice lower upper none p) o (.ref s₃.heap.objs.size)
  split at q4
  · rename_i a e
    cases pv_ref e
    obtain ⟨xs, h1, h2, h3⟩ := q4
    obtain ⟨us, hl, rfl⟩ := r₄.isList h1
    rw [List.length_map] at h2
    refine tail_any hl.typeIs slot_list_getitem.lookup (wpAny_getItem_list_slice hl (Heap.IsSliceOf.new ..) (isPart_of p1) (isPart_of p2) .none (by simp) ?_ (by simpa using h2)) hs
    obtain ⟨hn, r₅⟩ := r₄.alloc (tk := s₃.toks) (po := .list (cut (us.map pv) lo hi)) (get?_size _) (Kp.of fun b o e => Heap.get?_push_of_some _ e) (Heap.get?_push_size _ rfl) ⟨slicePick us.toArray lo hi none, _, rfl, by
      rw [slicePick_plain]; simp [cut, List.map_take, List.map_drop]⟩
    exact ⟨_, r₅, h3 _ hn⟩
  · rename_i x e
    obtain ⟨t, rfl⟩ := pv_str e
    refine tail_any (typeIs_str _ _ _) slot_str_getitem.lookup ?_ hs
    obtain ⟨l', rfl, hl'⟩ : ∃ l' : Option (Int × Tok), l = partValue l' ∧ l'.map (·.1) = lo := by
      cases isPart_of p1 with
      | none => exact ⟨none, rfl, rfl⟩
      | int i t => exact ⟨some (i, t), rfl, rfl⟩
    obtain ⟨u', rfl, hu'⟩ : ∃ u' : Option (Int × Tok), u = partValue u' ∧ u'.map (·.1) = hi := by
      cases isPart_of p2 with
      | none => exact ⟨none, rfl, rfl⟩
      | int i t => exact ⟨some (i, t), rfl, rfl⟩
    refine wpAny_getItem_str_slice (l := l') (u := u') (st := none) ⟨_, Heap.get?_push_size _ rfl, rfl, rfl⟩ rfl ?_
    subst hl' hu'
    obtain ⟨hz, q⟩ := q4
    have key : ∀ t' k, (∃ hp', Rep C g loc hp' { s₃ with heap := s₃.heap.push { cls := .type "slice", data := .fields #[partValue l', partValue u', .none] }, toks := k } ∧ Q (pv (.str (Txt.slice x (l'.map (·.1)) (u'.map (·.1))) t')) hp') := fun t' k =>
      ⟨hp₃, by have := r₄.toks k; exact this, q⟩
    unfold sliceMade
    unfold Txt.slice at key
    split
    · rename_i hh
      rw [if_pos (by simpa [slicePicked] using hh)] at key
      exact key _ _
    · rename_i hh
      rw [if_neg (by simpa [slicePicked] using hh)] at key
      refine ⟨?_, key _ _⟩
      show (⟨_⟩ : Str).length ≤ sizeLine
      unfold Str.length
      simp only [List.size_toArray]
      refine Nat.le_trans (List.length_filterMap_le _ _) (Nat.le_trans ?_ hz)
      exact sliceIndices_le _ _ _
  · exact q4.elim
end
end Hd

namespace Hd

section
variable {P : Prg} {C : Cx} {n : Nat} {g : Heap} {loc : Loc} {hp : PHeap} {s : Shared}

/-- xs[:] = ys -/
theorem setAll {prog : Program} {w : World} {A : Around} {E : Value → Shared → Prop} {s : Shared} {l b sl : Addr} {items new : Array Value} {k : Nat} {Q : Unit → Shared → Prop}
    (hl : s.heap.get? l = some { cls := .type "list", data := .seq items k }) (hb : s.heap.IsList b new) (hne : l ≠ b) (hs : s.heap.IsSliceOf sl .none .none .none) (hz : items.size + new.size ≤ sizeLine)
    (h : ∀ h' k', h'.get? l = some { cls := .type "list", data := .seq new k' } → Heap.SameBut l s.heap h' → Q () { s with heap := h' }) :
    wpAny (model prog w) A (setItem (.ref l) (.ref sl) (.ref b)) Q E s := by
  obtain ⟨os, hos, hcs, hds⟩ := id hs
  obtain ⟨ob, hob, hcb, nb, hdb⟩ := id hb
  have hTl : s.TypeIs (.ref l) "list" := ⟨_, hl, rfl⟩
  have hTs : s.TypeIs (.ref sl) "slice" := ⟨os, hos, hcs⟩
  have hTb : s.TypeIs (.ref b) "list" := ⟨ob, hob, hcb⟩
  unfold setItem
  refine wpAny_holding ?_
  refine wpAny_bind (wpAny_sequenceKey hTl (by decide) ?_)
  refine wpAny_bind (wpAny_callSpecial?_slot (name := Str.ofString "__setitem__") hTl slot_list_setitem (wpAny_call_entry slot_list_setitem hTl entry_list_setitem ?_ (args_list_setitem _ _ _)))
  unfold Builtin.«list.__setitem__»
  refine wpAny_bind (m := Builtin.List.listBlankSlotArgs _ _ _) (wpAny_pure ?_)
  refine wpAny_bind ?_
  · unfold Builtin.List.listSubscript?
    refine wpAny_bind (wpAny_specialOf hTs slice_no_index ?_)
    simp only [Option.isNone_none, if_true]
    refine wpAny_pure ?_
    refine wpAny_bind (wpAny_typeOf hTs ?_)
    rw [if_neg (by decide)]
    rw [listSliceParts_eq]
    refine wpAny_bind (wpAny_bind (wpAny_field hos hds (x := .none) rfl (wpAny_bind (wpAny_listPart .none ?_))))
    rw [if_neg (by decide)]
    refine wpAny_bind (wpAny_field hos hds (x := .none) rfl (wpAny_bind (wpAny_listPart .none ?_)))
    refine wpAny_bind (wpAny_field hos hds (x := .none) rfl (wpAny_bind (wpAny_listPart .none (wpAny_pure ?_))))
    have hsame : Builtin.List.listSameRef (.ref l) (.ref b) = false := by show (l == b) = false; simpa using hne
    simp only [hsame, Bool.false_eq_true, if_false]
    refine wpAny_bind (m := Builtin.List.listAllItems _ _) ?_
    unfold Builtin.List.listAllItems
    refine wpAny_bind (wpAny_typeOf hTb ?_)
    rw [if_pos (by decide)]
    refine wpAny_listItems hob hdb ?_
    refine wpAny_bind (wpAny_listItems hl rfl ?_)
    refine wpAny_bind (wpAny_of_eq (sliceIndices_raw none none none items.size (by simp)) ?_)
    have hsb : sliceBounds none none none items.size = (0, (items.size : Int), 1) := by rw [sliceBounds_plain]; rfl
    rw [hsb]
    simp only
    rw [if_pos (by decide)]
    refine wpAny_bind (wpAny_rule ?_)
    rw [if_neg (by unfold Builtin.List.listTooLong; simpa using hz)]
    have hf : ∀ xs : Array Value, xs.size = items.size → (xs.extract 0 (0 : Int).toNat ++ new ++ xs.extract (max 0 (items.size : Int)).toNat xs.size) = new := by
      intro xs hx
      have : (max 0 (items.size : Int)).toNat = xs.size := by omega
      rw [this]; simp
    refine wpAny_bind (m := Builtin.List.listUpdate _ _) ?_
    unfold Builtin.List.listUpdate
    refine wpAny_updateSeq hl rfl ?_ (by omega) (by rw [hf items rfl]; omega)
    refine wpAny_bind (wpAny_letGo (wpAny_pure ⟨_, rfl, wpAny_pure (h _ (if new.size == items.size then k else k + 1) ?_ (Heap.SameBut.update ..))⟩))
    · rw [Heap.get?_update_self _ hl rfl]
      simp only [Obj.mapSeq, hf items rfl]

/-- what the text's class has -/
structure ClsOk (P : Prg) (c : Addr) : Prop where
  get : ∀ name, plainGet P.K c name = true
  dict : hasDictIn P.K c = true
  seta : findIn P.K (.ref c) "__setattr__" = some (some (.builtin "object.__setattr__"))
  over : plainOver P.K c = true
  noseq : noSeq P.K c = true
  makes : makesIn P.K c = true
  nobool : findIn P.K (.ref c) "__bool__" = some none

theorem entry_found {es : List (Str × PV)} {ds : List DictEntry} (h : All2 EntOk es ds) {name : Str} {v : PV} (hv : es.lookup name = some v) : ∃ u, getL name ds = some (some u) ∧ pv u = v := by
  induction h with
  | nil => cases hv
  | @cons e d es ds x _ ih =>
    obtain ⟨⟨t, ht⟩, hv'⟩ := x
    obtain ⟨k, w⟩ := e
    rw [List.lookup_cons] at hv
    unfold getL
    rw [List.find?_cons, ht]
    by_cases hk : name = k
    · subst hk
      simp only [beq_self_eq_true] at hv
      cases hv
      simp only [Value.isStr, beq_self_eq_true]
      exact ⟨d.val, rfl, hv'⟩
    · have h1 : (name == k) = false := by simpa using hk
      have h2 : ((Value.str k t).isStr name) = false := by simp [Value.isStr]; exact fun q => hk q.symm
      rw [h1] at hv
      simp only [h2]
      obtain ⟨u, hu, hp⟩ := ih hv
      refine ⟨u, ?_, hp⟩
      unfold getL at hu
      cases q : ds.find? (·.key.isStr name) with
      | some e => rw [q] at hu; exact hu
      | none => rw [q] at hu; simp only at hu; split at hu <;> cases hu

theorem W.getattr {a c d : Addr} {es : List (Str × PV)} {name : Str} {v : PV} {b : Bool} {Q : PV → PHeap → Prop} (k : Ok P C n) (hc : ClsOk P c) (h : hp a = some (.inst c d)) (hd : hp d = some (.attrs es)) (hv : es.lookup name = some v)
    (hnb : ∀ id, v ≠ .bi id) (hf : findIn P.K (.ref c) name = some none) (hq : Q v hp) : W C loc (getAttr (.ref a) name b) hp (fun v hp' => Q (pv v) hp') := by
  intro g s r
  obtain ⟨o, ho, rfl⟩ := r.objs a _ h
  obtain ⟨od, hod, ds, m, rfl, h2⟩ := r.objs d _ hd
  obtain ⟨mm, F, _⟩ := r.fr
  obtain ⟨u, hu, rfl⟩ := entry_found h2 hv
  refine get_own F k.K (I := ⟨ho, rfl, rfl, hod⟩) (hc.get name) hc.dict hf rfl hu ?_ ⟨hp, r.toks _, hq⟩
  cases u <;> first | rfl | (exact absurd rfl (hnb _))

theorem W.attr {o : Expr} {name : Str} {pos : Pos} {Q : PV → PHeap → Prop} (hb : baseOk o = true) (h : W C loc (eval o C.env) hp (fun ov hp₁ => W C loc (getAttr ov name true) hp₁ (fun v hp' => Q (pv v) hp'))) :
    W C loc (eval (.Attribute o name pos) C.env) hp (fun v hp' => Q (pv v) hp') := by
  intro g s r
  refine Attribute_any_ (wpAny_mono (h g s r) (fun _ s₁ ⟨_, r₁, q⟩ => q g s₁ r₁) fun _ _ x => x) ?_
  rw [arm_eval_Attribute, attributeBase_ok hb]

/-- the first store of an attribute -/
theorem W.setattr0 {a c d : Addr} {name : Str} {v : Value} {Q : PHeap → Prop} (k : Ok P C n) (hc : ClsOk P c) (h : hp a = some (.inst c d)) (hd : hp d = some (.attrs [])) (ht : takerIn P.K c name = some none)
    (hq : Q (upd hp d (.attrs [(name, pv v)]))) : W C loc (setAttr (.ref a) name v) hp (fun _ => Q) := by
  intro g s r
  obtain ⟨o, ho, rfl⟩ := r.objs a _ h
  obtain ⟨od, hod, ds, m, rfl, h2⟩ := r.objs d _ hd
  cases h2
  obtain ⟨mm, F, _⟩ := r.fr
  obtain ⟨o1, o2, o3⟩ := r.off d _ hd rfl
  let others := (allN C.h₀ C.L s.heap).filter fun p => p.1 != d
  have N : News C.h₀ C.L s.heap ((d, dictOf [] m) :: others) := fun p hp => by
    rcases List.mem_cons.mp hp with rfl | hp
    · exact ⟨hod, o3, o2⟩
    · exact allN_news _ _ _ p (List.mem_filter.mp hp).1
  refine set_dict F k.K N (I := ⟨ho, rfl, rfl, hod⟩) rfl hc.seta hc.over ht hc.dict rfl rfl (.head fun p hp => by simpa using (List.mem_filter.mp hp).2) (by simp [putL]) fun h' F' N' => ?_
  refine ⟨_, r.update' (tk := s.toks + 2) (po' := .attrs [(name, pv v)]) hd rfl (fun b ob hb hL e => ?_) (ns_of_fr F F') (N' _ (.head _)).1 ⟨_, _, rfl, .cons ⟨⟨_, rfl⟩, rfl⟩ .nil⟩, hq⟩
  cases q : C.h₀.get? b with
    | some o' => have := F.keep b o' q; rw [e] at this; cases this; exact F'.keep b _ q
    | none => exact (N' _ (.tail _ (List.mem_filter.mpr ⟨mem_allN.mpr ⟨hL, q, e⟩, by simpa using hb⟩))).1
end
end Hd

namespace Hd

/-- a method of the class by its name -/
structure HasMeth (P : Prg) (c : Addr) (name : Str) (f : Addr) : Prop where
  find : findIn P.K (.ref c) name = some (some (.ref f))
  fn : isFn P.K (.ref f) = true
  isfn : fnIn P.K f = true
  keep : keepIn P.K (.ref f) = true

section
variable {P : Prg} {C : Cx} {n : Nat} {g : Heap} {loc : Loc} {hp : PHeap} {s : Shared}

theorem Rep.instAt (r : Rep C g loc hp s) {a c d : Addr} {es : List (Str × PV)} (h : hp a = some (.inst c d)) (hd : hp d = some (.attrs es)) :
    ∃ ds m, InstAt s.heap a ⟨.ref c, some d, .plain, #[]⟩ c (some (dictOf ds m)) ∧ All2 EntOk es ds := by
  obtain ⟨o, ho, rfl⟩ := r.objs a _ h
  obtain ⟨od, hod, ds, m, rfl, h2⟩ := r.objs d _ hd
  exact ⟨ds, m, ⟨ho, rfl, rfl, hod⟩, h2⟩
theorem W.setItemI {a c d f : Addr} {es : List (Str × PV)} {i v : Value} {Q : PHeap → Prop} (k : Ok P C n) (hc : ClsOk P c) (hm : HasMeth P c (Str.ofString "__setitem__") f) (h : hp a = some (.inst c d)) (hd : hp d = some (.attrs es))
    (hq : Calls P n (.ref f) [.ref a, pv i, pv v] [] hp (fun _ => Q)) : W C loc (setItem (.ref a) i v) hp (fun _ => Q) := by
  intro g s r
  obtain ⟨ds, m, I, h2⟩ := r.instAt h hd
  obtain ⟨mm, F, _⟩ := r.fr
  exact ksp_setItem F k.K I hc.noseq hm.find hm.fn (hq C k loc [.ref a, i, v] [] rfl rfl g s r)
theorem W.delItemI {a c d f : Addr} {es : List (Str × PV)} {i : Value} {Q : PHeap → Prop} (k : Ok P C n) (hc : ClsOk P c) (hm : HasMeth P c (Str.ofString "__delitem__") f) (h : hp a = some (.inst c d)) (hd : hp d = some (.attrs es))
    (hq : Calls P n (.ref f) [.ref a, pv i] [] hp (fun _ => Q)) : W C loc (delItem (.ref a) i) hp (fun _ => Q) := by
  intro g s r
  obtain ⟨ds, m, I, h2⟩ := r.instAt h hd
  obtain ⟨mm, F, _⟩ := r.fr
  have X := k.K.keeps F.keep
  unfold delItem sequenceKey
  refine wpAny_holding (wpAny_bind (wpAny_bind (I.type.here ?_)))
  refine wpAny_bind ((anyM_none X hc.noseq).here ?_)
  rw [if_pos (show (!false) = true from rfl)]
  exact wpAny_pure (wpAny_bind (special_fn X I hm.find (beq_iff_eq.mp hm.fn) (wpAny_mono (hq C k loc [.ref a, i] [] rfl rfl g s r) (fun _ _ z => wpAny_pure z) fun _ _ z => z)))
theorem W.inI {a c d f : Addr} {es : List (Str × PV)} {v : Value} {Q : PV → PHeap → Prop} (k : Ok P C n) (hm : HasMeth P c (Str.ofString "__contains__") f) (h : hp a = some (.inst c d)) (hd : hp d = some (.attrs es))
    (hq : Calls P n (.ref f) [.ref a, pv v] [] hp (fun r hp' => ∃ b, r = .bool b ∧ Q (.bool b) hp')) : W C loc (compareOp .In v (.ref a)) hp (fun v hp' => Q (pv v) hp') := by
  intro g s r
  obtain ⟨ds, m, I, h2⟩ := r.instAt h hd
  obtain ⟨mm, F, _⟩ := r.fr
  refine in_K F k.K I hm.find hm.fn (wpAny_mono (hq C k loc [.ref a, v] [] rfl rfl g s r) (fun u s' z => ?_) fun _ _ z => z)
  obtain ⟨hp', r', b, hb, q⟩ := z
  cases pv_bool hb
  exact wpAny_truthy_bool ⟨hp', r', q⟩
theorem W.notInI {a c d f : Addr} {es : List (Str × PV)} {v : Value} {Q : PV → PHeap → Prop} (k : Ok P C n) (hm : HasMeth P c (Str.ofString "__contains__") f) (h : hp a = some (.inst c d)) (hd : hp d = some (.attrs es))
    (hq : Calls P n (.ref f) [.ref a, pv v] [] hp (fun r hp' => ∃ b, r = .bool b ∧ Q (.bool (!b)) hp')) : W C loc (compareOp .NotIn v (.ref a)) hp (fun v hp' => Q (pv v) hp') := by
  intro g s r
  obtain ⟨ds, m, I, h2⟩ := r.instAt h hd
  obtain ⟨mm, F, _⟩ := r.fr
  refine notIn_K F k.K I hm.find hm.fn (wpAny_mono (hq C k loc [.ref a, v] [] rfl rfl g s r) (fun u s' z => ?_) fun _ _ z => z)
  obtain ⟨hp', r', b, hb, q⟩ := z
  cases pv_bool hb
  exact wpAny_truthy_bool ⟨hp', r', q⟩
theorem W.subI {value slice : Expr} {a c d f : Addr} {es : List (Str × PV)} {i : Value} {Q : PV → PHeap → Prop} (k : Ok P C (n + 1)) (hm : HasMeth P c (Str.ofString "__getitem__") f) (h : hp a = some (.inst c d)) (hd : hp d = some (.attrs es))
    (hsl : ∀ o i, subscripted slice true o i = runValue (.builtin "lifetime.subscript" ⟨[o, i], []⟩))
    (hq : Calls P n (.ref f) [.ref a, pv i] [] hp Q) : W C loc (subscriptTail value slice (.ref a) i) hp (fun v hp' => Q (pv v) hp') := by
  intro g s r
  obtain ⟨ds, m, I, h2⟩ := r.instAt h hd
  obtain ⟨mm, F, _⟩ := r.fr
  exact sub_K F k.K I hm.find hm.isfn hm.fn (Calls.at (vs := [.ref a, i]) (kws := []) hq k rfl (by show C.A.depth ≤ _; omega) (by show C.A.units + 1 ≤ _; omega) r) (hsl _ _)
theorem call_lenI {a c d f : Addr} {es : List (Str × PV)} {Q : PV → PHeap → Prop} (hm : HasMeth P c (Str.ofString "__len__") f) (h : hp a = some (.inst c d)) (hd : hp d = some (.attrs es))
    (hq : Calls P n (.ref f) [.ref a] [] hp (fun r hp' => ∃ i : Nat, r = .int i ∧ i < 2 ^ 62 ∧ Q (.int i) hp')) : Calls P (n + 1) (.builtin "len") [.ref a] [] hp Q := by
  intro C k loc vs kws e1 e2 g s r
  obtain ⟨v, rfl, hv⟩ := map1 e1; cases pv_ref hv; cases mapk0 e2
  obtain ⟨ds, m, I, h2⟩ := r.instAt h hd
  obtain ⟨mm, F, _⟩ := r.fr
  refine PySem.W.len_K F k.K I hm.find hm.fn (wpAny_mono (Calls.at (vs := [.ref a]) (kws := []) hq k rfl (by show C.A.depth ≤ _; omega) (by show C.A.units + 1 ≤ _; omega) r) (fun u s' z => ?_) fun _ _ z => z)
  obtain ⟨hp', r', i, hi, hz, q⟩ := z
  obtain ⟨t, rfl⟩ := pv_int hi
  exact ⟨⟨by omega, by omega⟩, hp', r'.toks _, q⟩

/-- an instance made -/
theorem call_make {c f : Addr} {args : List PV} {kw : List (Str × PV)} {Q : PV → PHeap → Prop} (hc : ClsOk P c) (hm : HasMeth P c (Str.ofString "__init__") f)
    (hq : ∀ x d, hp x = none → hp d = none → x ≠ d → CallsC P n (.ref f) (.ref x :: args) kw (upd (upd hp d (.attrs [])) x (.inst c d)) (fun v hp' => v = .none ∧ Q (.ref x) hp')) : Calls P (n + 1) (.ref c) args kw hp Q := by
  intro C k loc vs kws e1 e2 g s r
  obtain ⟨mm, F, _⟩ := r.fr
  refine wpAny_call (make_K F (allN_news _ _ _) (k.K.keeps F.keep) hc.makes hm.find (beq_iff_eq.mp hm.fn) fun x dx h' F' N' hlt hdx => ?_)
  have kp : Kp C s.heap h' := kp_of_fr F F' N' fun _ h => .tail _ (.tail _ h)
  have nx : ∀ b : Addr, (∀ p ∈ allN C.h₀ C.L s.heap, p.1 < b) → C.h₀.get? b = none → b ≠ C.L → s.heap.get? b = none := fun b hb h0 hL => by
    cases e : s.heap.get? b with
    | none => rfl
    | some o => exact absurd (hb _ (mem_allN.mpr ⟨hL, h0, e⟩)) (Nat.lt_irrefl _)
  have Nx := N' (x, instObj c dx) (.head _)
  have Nd := N' (dx, emptyDict) (.tail _ (.head _))
  have fd : s.heap.get? dx = none := nx dx hlt Nd.2.2 Nd.2.1
  have fx : s.heap.get? x = none := nx x (fun p hp => Nat.lt_trans (hlt p hp) hdx) Nx.2.2 Nx.2.1
  obtain ⟨hn1, r1⟩ := r.alloc (tk := s.toks) (po := .attrs []) fd kp Nd.1 ⟨[], 0, rfl, .nil⟩
  have hxd : x ≠ dx := Nat.ne_of_gt hdx
  have hn2 : hp x = none := by
    cases e : hp x with
    | none => rfl
    | some po => obtain ⟨o, h1, _⟩ := r.objs x po e; rw [fx] at h1; cases h1
  have r2 : Rep C g loc (upd (upd hp dx (.attrs [])) x (.inst c dx)) { s with heap := h' } := by
    refine ⟨r1.sh, r1.ns, r1.keep, r1.above, r1.gkeep, r1.gL, r1.cells, fun y cc e => ?_, r1.capart, fun b q e => ?_, fun b q e hmu => ?_, fun b q e hmu => ?_⟩
    · obtain ⟨a1, a2, a3, a4⟩ := r1.coff y cc e
      refine ⟨a1, a2, a3, fun q hq => ?_⟩
      unfold upd at hq
      split at hq
      · rename_i hcx
        obtain ⟨v, ⟨oc, hoc, _⟩, _⟩ := r.cells y cc e
        rw [hcx, fx] at hoc; cases hoc
      · exact a4 q hq
    · unfold upd at e
      split at e
      · rename_i hbx; cases e; subst hbx; exact ⟨_, Nx.1, rfl⟩
      · exact r1.objs b q e
    · unfold upd at e
      split at e
      · rename_i hbx; cases e; subst hbx
        refine ⟨?_, Nx.2.2, Nx.2.1⟩
        cases q : g.get? b with
        | none => rfl
        | some o' => have := r.gkeep b o' q; rw [fx] at this; cases this
      · exact r1.off b q e hmu
    · unfold upd at e
      split at e
      · cases e; cases hmu
      · exact r1.fro b q e hmu
  have hk' : Ok P { C with A := C.A.under (.builtin "type.__call__" ⟨.ref c :: vs, kws⟩) } n := k.withA rfl (by
      show C.A.depth + Code.weight _ ≤ _
      have : (Code.builtin "type.__call__" ⟨.ref c :: vs, kws⟩).weight = 1 := rfl
      omega) (by
      show C.A.units + Code.cUnits _ ≤ _
      have : (Code.builtin "type.__call__" ⟨.ref c :: vs, kws⟩).cUnits ≤ 8 := Nat.le_of_ble_eq_true rfl
      omega)
  refine codeAny_mono (hq x dx hn2 hn1 hxd _ hk' loc (.ref x :: vs) kws (by simp [e1, pv]) e2 g _ (r2.withA _)) fun r s' z => ?_
  cases r with
  | error e => exact z
  | ok fl =>
    cases fl with
    | ret v =>
      obtain ⟨hp', r', hv, q⟩ := z
      exact ⟨pv_none hv, hp', r'.ofA, q⟩
    | _ => exact z
end
end Hd

namespace Hd

theorem pa_pattern : PlainAttrs "re.Pattern" :=
  ⟨⟨"object.__getattribute__", by rw [typeLookup_type, builtinLookup_eq_fast]; kernel_rfl, by decide +kernel⟩, by rw [typeLookup_type, builtinLookup_eq_fast]; kernel_rfl⟩
theorem slot_search : Slot "re.Pattern" "search" "re.Pattern.search" :=
  .of (owner := "re.Pattern") (n := "search") (by rw [typeLookup_type, builtinLookup_eq_fast]; kernel_rfl) (by decide +kernel) (by decide +kernel) (by decide +kernel)
    (by first | exact .inl (by decide +kernel) | exact .inr (by decide +kernel)) (by rw [isSubtype_type]; kernel_rfl)
theorem type_search : typeOf (.builtin "re.Pattern.search") = pure (.type "method_descriptor") := by show builtinType _ = _; rw [builtinType_eq_fast]; kernel_rfl
theorem entry_search : entryFor table "re.Pattern.search" = some Builtin.«re.Pattern.search» := entryFor_of_fast (by kernel_rfl)
theorem args_search (a b : Value) : argsOk "re.Pattern.search" ⟨[a, b], []⟩ := by unfold argsOk; kernel_rfl

section
variable {M : Model} {A : Around} {E : Value → Shared → Prop} {s : Shared}

theorem rules_pass {seen : Sre.Seen} {names : Array String} {Q : PUnit → Shared → Prop} : ∀ (l : List Nat), Q ⟨⟩ s → wpAny M A (forIn l PUnit.unit fun i _ => if seen.has i = true then (do rule (names.getD i ""); pure (ForInStep.yield PUnit.unit)) else pure (ForInStep.yield PUnit.unit)) Q E s
  | [], h => by rw [List.forIn_nil]; exact wpAny_pure h
  | i :: r, h => by
    rw [List.forIn_cons]
    refine wpAny_bind ?_
    split
    · exact wpAny_bind (wpAny_rule (wpAny_pure (rules_pass r h)))
    · exact wpAny_pure (rules_pass r h)

theorem drive_failed {m : Sre.M} {n : Nat} (h1 : m.answer = some false) (h2 : m.frames = []) (h3 : m.outcome = none) : Builtin.Re.reDrive (n + 1) m = pure { m with outcome := some .failed } := by
  obtain ⟨⟩ := m
  simp only at h1 h2 h3
  subst h1 h2 h3
  rfl

theorem run_failed {m : Sre.M} (h1 : m.answer = some false) (h2 : m.frames = []) (h3 : m.outcome = none) {Q : Option Sre.M → Shared → Prop} (h : Q none s) : wpAny M A (Builtin.Re.reRunToEnd m) Q E s := by
  unfold Builtin.Re.reRunToEnd
  rw [show (2 ^ 64 : Nat) = 18446744073709551615 + 1 from rfl, drive_failed h1 h2 h3]
  refine wpAny_bind (wpAny_pure (wpAny_bind ?_))
  exact rules_pass _ (wpAny_pure h)
end

/-- a pattern whose first set takes no plain sign -/
structure Quiet (code : Array Nat) : Prop where
  info : Sre.ops[code.getD 0 0]? = some .INFO
  flag : code.getD 2 0 = 4
  set : ∀ c seen, 32 ≤ c → c < 127 → ∃ seen', Sre.inSet code c code.size 5 true seen = .ok (false, seen')

def Clean (x : Str) : Prop := ∀ c ∈ x.cps, 32 ≤ c ∧ c < 127

theorem admitted_none {m : Sre.M} (hq : Quiet m.code) (hc : ∀ c ∈ m.text, 32 ≤ c ∧ c < 127) (hl : m.lim ≤ m.text.size) : ∀ (fuel s : Nat) (seen : Sre.Seen), ∃ seen', m.admitted fuel s seen = .ok (none, seen')
  | 0, s, seen => ⟨seen, rfl⟩
  | fuel + 1, s, seen => by
    unfold Sre.M.admitted
    by_cases hs : s ≥ m.lim
    · rw [if_pos hs]; exact ⟨seen, rfl⟩
    · rw [if_neg hs]
      have hlt : s < m.text.size := by omega
      have hm : m.text.getD s 0 ∈ m.text := by
        rw [Array.getD_eq_getD_getElem?, Array.getElem?_eq_getElem hlt]; exact Array.getElem_mem hlt
      obtain ⟨seen', e⟩ := hq.set _ seen (hc _ hm).1 (hc _ hm).2
      rw [e]
      exact admitted_none hq hc hl fuel (s + 1) seen'

theorem admitted_is {m : Sre.M} {f t : Nat} {sn : Sre.Seen} {r : Except String (Option Nat × Sre.Seen)} {code text : Array Nat} (h : m.admitted f t sn = r) (h1 : m.code = code) (h2 : m.text = text) (h3 : m.lim = text.size) (hq : Quiet code) (hc : ∀ c ∈ text, 32 ≤ c ∧ c < 127) :
    ∃ sn', r = .ok (none, sn') := by
  subst h1 h2
  obtain ⟨sn', e⟩ := admitted_none hq hc (Nat.le_of_eq h3) f t sn
  exact ⟨sn', h ▸ e⟩

theorem search_none {code text : Array Nat} (hq : Quiet code) (hc : ∀ c ∈ text, 32 ≤ c ∧ c < 127) : (Sre.forSearch code text 0 0 text.size false).answer = some false ∧ (Sre.forSearch code text 0 0 text.size false).frames = [] ∧ (Sre.forSearch code text 0 0 text.size false).outcome = none := by
  unfold Sre.forSearch
  simp only
  split
  · exact ⟨rfl, rfl, rfl⟩
  · unfold Sre.M.attemptFrom
    have hf : ∀ m : Sre.M, m.code = code → m.hasFirstSet = true := fun m e => by
      unfold Sre.M.hasFirstSet; rw [e, hq.info, hq.flag]; rfl
    rw [if_neg (by rw [hf _ rfl]; simp)]
    split
    · rename_i heq; obtain ⟨_, e⟩ := admitted_is heq rfl rfl rfl hq hc; cases e
    · exact ⟨rfl, rfl, rfl⟩
    · rename_i heq; obtain ⟨_, e⟩ := admitted_is heq rfl rfl rfl hq hc; cases e

theorem reNamed_one (v : Value) : Builtin.Re.reNamed "re.Pattern.search" "search" ["string", "pos", "endpos"] 1 [v] [] = pure [some v, none, none] := by rfl

/-- a pattern of the text's top -/
structure PatOk (P : Prg) (re : Addr) : Prop where
  look : ∃ f0 f1 f3 f4 ct items k od sl, P.K.lookup re = some ⟨.type "re.Pattern", none, .fields #[f0, f1, .int 0 0, f3, f4, .ref ct, .int 0 0], sl⟩ ∧
    P.K.lookup ct = some ⟨.type "tuple", od, .seq items k, #[]⟩ ∧ Quiet ((items.map Builtin.Re.reRawOf).map (·.toNat))

theorem call_search {P : Prg} {n : Nat} {re : Addr} {x : Str} {hp : PHeap} {Q : PV → PHeap → Prop} (hre : PatOk P re) (hx : Clean x) (hz : x.length < 2 ^ 60) (hq : Q .none hp) : Calls P n (.builtin "re.Pattern.search") [.ref re, .str x] [] hp Q := by
  intro C k loc vs kws e1 e2 g s r
  obtain ⟨v, u, rfl, hv, hu⟩ := map2 e1; cases pv_ref hv; obtain ⟨t, rfl⟩ := pv_str hu; cases mapk0 e2
  obtain ⟨f0, f1, f3, f4, ct, items, kk, od, sl, l1, l2, Qt⟩ := hre.look
  have h1 := r.K k _ _ l1
  have h2 := r.K k _ _ l2
  refine wpAny_call_entry slot_search ⟨_, h1, rfl⟩ entry_search ?_ (args_search _ _)
  unfold Builtin.«re.Pattern.search»
  refine wpAny_bind ?_
  unfold Builtin.Re.reTarget
  simp only [reNamed_one]
  refine wpAny_bind (wpAny_pure ?_)
  refine wpAny_bind (wpAny_pure (wpAny_bind (wpAny_pure ?_)))
  refine wpAny_bind (wpAny_fieldsOf h1 rfl ?_)
  refine wpAny_bind (m := Builtin.Re.reTextOf _) (wpAny_pure ?_)
  refine wpAny_bind (m := Builtin.Re.reNoCollectionInside _ _) (wpAny_pure ?_)
  refine wpAny_bind (m := Builtin.Re.reRawItems _) ?_
  unfold Builtin.Re.reRawItems
  refine wpAny_bind (wpAny_seqItems h2 rfl (wpAny_pure (wpAny_pure ?_)))
  have hl : min ((2 ^ 63 - 1 : Int).toNat) x.cps.size = x.cps.size := by
    have : x.cps.size < 2 ^ 60 := hz
    have e : (2 ^ 63 - 1 : Int).toNat = 9223372036854775807 := rfl
    rw [e]; omega
  have hs := search_none Qt hx
  unfold Builtin.Re.reAnswer
  refine wpAny_bind (run_failed ?_ ?_ ?_ (wpAny_pure ⟨_, rfl, hp, r, hq⟩))
  all_goals (simp only [hl]; first | exact hs.1 | exact hs.2.1 | exact hs.2.2)

theorem meth_search {P : Prg} {re : Addr} {hp : PHeap} (hre : PatOk P re) : MethTo P hp (.ref re) (Str.ofString "search") (.builtin "re.Pattern.search") := by
  intro C n loc val pl k hv Q hq g s r; cases pv_ref hv
  obtain ⟨f0, f1, f3, f4, ct, items, kk, od, sl, l1, l2, Qt⟩ := hre.look
  exact getMethod_builtin (T := "re.Pattern") ⟨_, r.K k _ _ l1, rfl⟩ pa_pattern slot_search type_search (fun b e => by cases e; exact ⟨_, r.K k _ _ l1, rfl⟩) ⟨hp, r, hq⟩
end Hd

namespace Hd

inductive Src where
  | list (a : Addr)
  | tuple (a : Addr)
  | range (lo : Int) (n : Nat)
  | str (x : Str) (t : Tok) (T : String)

def ItO : Src → Addr → Nat → Heap → Prop
  | .list a, I, i, h => h.IsListIter I a i
  | .tuple a, I, i, h => h.IsTupleIter I a i
  | .range lo n, I, i, h => IsRangeIter h I (lo + (i : Nat) * 1) ((n : Int) - (i : Nat)) 1
  | .str x t T, I, i, h => (T = "str_ascii_iterator" ∨ T = "str_iterator") ∧ h.IsStrIter I T x t i

def irng (lo : Int) (n : Nat) : List PV := (List.range n).map fun (i : Nat) => PV.int (lo + i)
def signs (x : Str) : List PV := x.cps.toList.map fun c => PV.str ⟨#[c]⟩

def srcItems (hp : PHeap) : Src → Option (List PV)
  | .list a => lst hp a
  | .tuple a => match hp a with | some (.tuple xs) => some xs | _ => none
  | .range lo n => some (irng lo n)
  | .str x _ _ => some (signs x)

/-- what a loop over a value takes -/
def iterItems (hp : PHeap) : PV → Option (List PV)
  | .ref a => match hp a with
    | some (.list xs) => some xs
    | some (.flist xs) => some xs
    | some (.tuple xs) => some xs
    | some (.range lo hi) => some (irng lo (hi - lo).toNat)
    | _ => none
  | .str x => some (signs x)
  | _ => none

section
variable {P : Prg} {C : Cx} {n : Nat} {g : Heap} {loc : Loc} {hp : PHeap} {s : Shared}

theorem ItO.obj {S : Src} {I : Addr} {i : Nat} {h : Heap} (x : ItO S I i h) : ∃ o vs, h.get? I = some o ∧ o.data = .fields vs ∧ ∃ T, o.cls = .type T ∧ T ≠ "range" ∧ T ≠ "enumerate" ∧ T ≠ "zip" ∧ T ≠ "dict_itemiterator" ∧ T ≠ "dict_reverseitemiterator" ∧ T ≠ "odict_iterator" ∧ T ≠ "itertools.zip_longest" ∧ T ≠ "itertools.pairwise" := by
  cases S with
  | list a => obtain ⟨o, h1, h2, h3⟩ := x; exact ⟨o, _, h1, h3, _, h2, by decide⟩
  | tuple a => obtain ⟨o, h1, h2, h3⟩ := x; exact ⟨o, _, h1, h3, _, h2, by decide⟩
  | range lo m => exact ⟨_, _, x, rfl, _, rfl, by decide⟩
  | str y t T =>
    obtain ⟨hT, o, h1, h2, h3⟩ := x
    refine ⟨o, _, h1, h3, _, h2, ?_⟩
    rcases hT with rfl | rfl <;> decide
theorem ItO.keep {S : Src} {I : Addr} {i : Nat} {h h' : Heap} (x : ItO S I i h) (hk : ∀ o, h.get? I = some o → h'.get? I = some o) : ItO S I i h' := by
  cases S with
  | list a => obtain ⟨o, h1, r⟩ := x; exact ⟨o, hk o h1, r⟩
  | tuple a => obtain ⟨o, h1, r⟩ := x; exact ⟨o, hk o h1, r⟩
  | range lo m => exact hk _ x
  | str y t T => obtain ⟨hT, o, h1, r⟩ := x; exact ⟨hT, o, hk o h1, r⟩
theorem ItO.noObj {S : Src} {I : Addr} {i : Nat} (x : ItO S I i s.heap) (r : Rep C g loc hp s) : hp I = none := by
  cases e : hp I with
  | none => rfl
  | some po =>
    obtain ⟨o, h1, h2⟩ := r.objs I po e
    obtain ⟨o', vs, h3, h4, T, h5, hT, _⟩ := x.obj
    rw [h1] at h3; cases h3
    cases po with
    | list xs => obtain ⟨_, _, rfl, _⟩ := h2; cases h4
    | flist xs => obtain ⟨_, _, _, e2, _⟩ := h2; rw [e2] at h4; cases h4
    | tuple xs => obtain ⟨_, _, rfl, _⟩ := h2; cases h4
    | inst c d => rw [show o = _ from h2] at h4; cases h4
    | attrs es => obtain ⟨_, _, rfl, _⟩ := h2; cases h4
    | range a b => obtain ⟨_, _, _, _, rfl⟩ := h2; cases h5; exact absurd rfl hT

theorem letOwned_none {target : Expr} {I : Addr} {v : Value} {S : Src} {i : Nat} {M : Model} {A : Around} {E : Value → Shared → Prop} {Q : Unit → Shared → Prop} (x : ItO S I i s.heap) (h : Q () s) : wpAny M A (letOwnedTupleGo target (.ref I) v) Q E s := by
  obtain ⟨o, vs, h1, h2, T, h3, _, e1, e2, e3, e4, e5, e6, e7⟩ := x.obj
  unfold letOwnedTupleGo
  have hc : (["enumerate", "zip", "dict_itemiterator", "dict_reverseitemiterator", "odict_iterator", "itertools.zip_longest", "itertools.pairwise"].contains T) = false := by simp [e1, e2, e3, e4, e5, e6, e7]
  have fin : ∀ a : Addr, wpAny M A (do
      let o ← load I
      match o.cls, o.data with
      | .type n, .fields vs =>
        if ["enumerate", "zip", "dict_itemiterator", "dict_reverseitemiterator", "odict_iterator", "itertools.zip_longest", "itertools.pairwise"].contains n && vs[0]? == some (rawInt a) then
          rule "for.unpacks-the-owned-tuple"
          updateField I 0 .none
      | _, _ => pure ()) Q E s := fun a => by
    refine wpAny_bind (wpAny_load h1 ?_)
    rw [h3, h2]
    simp only [hc, Bool.false_and, Bool.false_eq_true, if_false]
    exact wpAny_pure h
  split
  · cases v <;> first | exact wpAny_pure h | exact fin _
  · cases v <;> first | exact wpAny_pure h | exact fin _
  · exact wpAny_pure h

theorem next_item {A : Around} {E : Value → Shared → Prop} {S : Src} {I : Addr} {i : Nat} {xs : List PV} {p : PV} {Q : Option Value → Shared → Prop} (r : Rep C g loc hp s) (hs : srcItems hp S = some xs) (x : ItO S I i s.heap) (hx : xs[i]? = some p)
    (h : ∀ v h' tk, pv v = p → ItO S I (i + 1) h' → (∀ b o, b ≠ I → s.heap.get? b = some o → h'.get? b = some o) → Q (some v) { s with heap := h', toks := tk }) : wpAny (model C.prog C.w) A (pyNext (.ref I)) Q E s := by
  cases S with
  | list a =>
    obtain ⟨vs, hl, rfl⟩ := r.isList hs
    rw [List.getElem?_map] at hx
    cases e : vs[i]? with
    | none => rw [e] at hx; cases hx
    | some u =>
      rw [e] at hx; cases hx
      exact wpAny_pyNext_list_item x hl (by simpa using e) fun h' h1 h2 => h u h' s.toks rfl h1 h2.extBut
  | tuple a =>
    simp only [srcItems] at hs
    split at hs
    · rename_i ys e'
      cases hs
      obtain ⟨vs, hl, rfl⟩ := r.isTuple e'
      rw [List.getElem?_map] at hx
      cases e : vs[i]? with
      | none => rw [e] at hx; cases hx
      | some u =>
        rw [e] at hx; cases hx
        exact wpAny_pyNext_tuple_item x hl (by simpa using e) fun h' h1 h2 => h u h' s.toks rfl h1 h2.extBut
    · cases hs
  | range lo m =>
    cases hs
    unfold irng at hx
    rw [List.getElem?_map] at hx
    have hi : i < m := by
      by_cases hh : i < m
      · exact hh
      · rw [List.getElem?_eq_none (by simpa using hh)] at hx; cases hx
    rw [List.getElem?_range hi] at hx
    cases hx
    refine wpAny_pyNext_range_item x (by omega) fun h' hit' hs' => ?_
    refine h _ h' _ (by simp [pv]) ?_ hs'.extBut
    show IsRangeIter h' I (lo + ((i + 1 : Nat) : Int) * 1) ((m : Int) - ((i + 1 : Nat) : Int)) 1
    have e1 : lo + ((i + 1 : Nat) : Int) * 1 = lo + (i : Int) * 1 + 1 := by push_cast; omega
    have e2 : (m : Int) - ((i + 1 : Nat) : Int) = (m : Int) - (i : Int) - 1 := by push_cast; omega
    rw [e1, e2]; exact hit'
  | str y t T =>
    cases hs
    unfold signs at hx
    rw [List.getElem?_map] at hx
    cases e : y.cps.toList[i]? with
    | none => rw [e] at hx; cases hx
    | some c =>
      rw [e] at hx; cases hx
      have e' : y.cps[i]? = some c := by simpa using e
      obtain ⟨hT, x⟩ := x
      rcases hT with rfl | rfl
      · exact wpAny_pyNext_ascii_item x e' fun h' hit' hs' => h _ h' (s.toks + 1) rfl ⟨.inl rfl, hit'⟩ hs'.extBut
      · exact wpAny_pyNext_wide_item x e' fun h' hit' hs' => h _ h' (s.toks + 1) rfl ⟨.inr rfl, hit'⟩ hs'.extBut

theorem next_end {A : Around} {E : Value → Shared → Prop} {S : Src} {I : Addr} {i : Nat} {xs : List PV} {Q : Option Value → Shared → Prop} (hh : A.handled = none) (r : Rep C g loc hp s) (hs : srcItems hp S = some xs) (x : ItO S I i s.heap) (hx : xs.length ≤ i)
    (h : ∀ h' tk, (∀ b o, b ≠ I → s.heap.get? b = some o → h'.get? b = some o) → Q none { s with heap := h', toks := tk }) : wpAny (model C.prog C.w) A (pyNext (.ref I)) Q E s := by
  cases S with
  | list a =>
    obtain ⟨vs, hl, rfl⟩ := r.isList hs
    exact wpAny_pyNext_list_end hh x hl (by simpa using hx) fun h' h1 => h h' s.toks h1
  | tuple a =>
    simp only [srcItems] at hs
    split at hs
    · rename_i ys e'
      cases hs
      obtain ⟨vs, hl, rfl⟩ := r.isTuple e'
      exact wpAny_pyNext_tuple_end hh x hl (by simpa using hx) fun h' h1 => h h' s.toks h1
    · cases hs
  | range lo m =>
    cases hs
    simp [irng] at hx
    exact wpAny_pyNext_range_end hh x (by omega) fun h' he' => h h' s.toks he'
  | str y t T =>
    cases hs
    simp [signs] at hx
    obtain ⟨hT, x⟩ := x
    rcases hT with rfl | rfl
    · exact wpAny_pyNext_ascii_end hh x (by simpa using hx) fun h' he' => h h' s.toks he'
    · exact wpAny_pyNext_wide_end hh x (by simpa using hx) fun h' he' => h h' s.toks he'

/-- the source is what it was -/
def SrcSame (hp hp' : PHeap) (v : PV) : Prop := ∀ a, v = .ref a → hp' a = hp a

theorem small_of {a b : Int} (h1 : -(2 ^ 60) ≤ a) (h2 : a ≤ 2 ^ 60) (h3 : -(2 ^ 60) ≤ b) (h4 : b ≤ 2 ^ 60) : Builtin.Range.small a b 1 = true ∧ Builtin.Range.rangeSize a b 1 = ((b - a).toNat : Int) := by
  have e : Builtin.Range.rangeSize a b 1 = ((b - a).toNat : Int) := by
    unfold Builtin.Range.rangeSize
    rw [if_pos (by decide)]
    split <;> omega
  refine ⟨?_, e⟩
  unfold Builtin.Range.small
  rw [e]
  unfold Builtin.Range.rangeFitsLong
  simp only [Bool.and_eq_true, Bool.or_eq_true, decide_eq_true_eq, show (1 : Int) > 0 by decide, if_true]
  omega

def rangeFits (hp : PHeap) : PV → Prop
  | .ref a => match hp a with
    | some (.range lo hi) => -(2 ^ 60) ≤ lo ∧ lo ≤ 2 ^ 60 ∧ -(2 ^ 60) ≤ hi ∧ hi ≤ 2 ^ 60
    | _ => True
  | _ => True

theorem iter_start {A : Around} {E : Value → Shared → Prop} {v : Value} {xs : List PV} {Q : Value → Shared → Prop} (r : Rep C g loc hp s) (hx : iterItems hp (pv v) = some xs) (hf : rangeFits hp (pv v))
    (h : ∀ S I h', (∀ hp', SrcSame hp hp' (pv v) → srcItems hp' S = some xs) → ItO S I 0 h' → s.heap.get? I = none → (∀ b o, s.heap.get? b = some o → h'.get? b = some o) → Q (.ref I) { s with heap := h' }) :
    wpAny (model C.prog C.w) A (pyIter v) Q E s := by
  cases hv : pv v <;> rw [hv] at hx <;> first | (simp [iterItems] at hx; done) | skip
  · rename_i y
    obtain ⟨t, rfl⟩ := pv_str hv
    cases hx
    cases ha : y.cps.all (· < 128)
    · exact wpAny_pyIter_wide ha (h (.str y t "str_iterator") _ _ (fun _ _ => rfl) ⟨.inr rfl, ⟨_, Heap.get?_push_size _ rfl, rfl, rfl⟩⟩ (get?_size _) fun b o e => Heap.get?_push_of_some _ e)
    · exact wpAny_pyIter_ascii ha (h (.str y t "str_ascii_iterator") _ _ (fun _ _ => rfl) ⟨.inl rfl, ⟨_, Heap.get?_push_size _ rfl, rfl, rfl⟩⟩ (get?_size _) fun b o e => Heap.get?_push_of_some _ e)
  · rename_i a
    cases pv_ref hv
    unfold iterItems at hx
    simp only at hx
    split at hx
    · rename_i ys e; cases hx
      obtain ⟨vs, hl, _⟩ := r.isList (a := a) (xs := xs) (by unfold lst; rw [e])
      exact wpAny_pyIter_list hl (h (.list a) _ _ (fun hp' q => by show lst hp' a = _; unfold lst; rw [q a hv, e]) ⟨_, Heap.get?_push_size _ rfl, rfl, rfl⟩ (get?_size _) fun b o e => Heap.get?_push_of_some _ e)
    · rename_i ys e; cases hx
      obtain ⟨vs, hl, _⟩ := r.isList (a := a) (xs := xs) (by unfold lst; rw [e])
      exact wpAny_pyIter_list hl (h (.list a) _ _ (fun hp' q => by show lst hp' a = _; unfold lst; rw [q a hv, e]) ⟨_, Heap.get?_push_size _ rfl, rfl, rfl⟩ (get?_size _) fun b o e => Heap.get?_push_of_some _ e)
    · rename_i ys e; cases hx
      obtain ⟨vs, hl, _⟩ := r.isTuple e
      exact wpAny_pyIter_tuple hl (h (.tuple a) _ _ (fun hp' q => by show (match hp' a with | some (.tuple xs) => some xs | _ => none) = _; rw [q a hv, e]) ⟨_, Heap.get?_push_size _ rfl, rfl, rfl⟩ (get?_size _) fun b o e => Heap.get?_push_of_some _ e)
    · rename_i lo hi e; cases hx
      obtain ⟨o, ho, t, u, w, _, rfl⟩ := r.objs a _ e
      have hf' : -(2 ^ 60) ≤ lo ∧ lo ≤ 2 ^ 60 ∧ -(2 ^ 60) ≤ hi ∧ hi ≤ 2 ^ 60 := by
        have := hf; rw [hv] at this; unfold rangeFits at this; simp only [e] at this; exact this
      obtain ⟨h1, h2⟩ := small_of hf'.1 hf'.2.1 hf'.2.2.1 hf'.2.2.2
      refine wpAny_pyIter_range ho h1 ?_
      refine h (.range lo (hi - lo).toNat) _ _ (fun _ _ => rfl) ?_ (get?_size _) fun b o e => Heap.get?_push_of_some _ e
      show (_ : Heap).get? _ = _
      rw [Heap.get?_push_size _ rfl, h2]; simp
    · cases hx
end
end Hd

namespace Hd

open Classical in
/-- what the frame at hand may change -/
noncomputable def own (C : Cx) (hp : PHeap) (a : Addr) : Bool := mutAt hp a || a == C.L || decide (∃ x, C.env.cells.lookup x = some a)

section
variable {P : Prg} {C : Cx} {n : Nat} {g : Heap} {loc : Loc} {hp : PHeap} {s : Shared}

theorem own_of {a : Addr} (h1 : mutAt hp a = false) (h2 : a ≠ C.L) (h3 : ∀ x, C.env.cells.lookup x ≠ some a) : own C hp a = false := by
  unfold own
  simp only [Bool.or_eq_false_iff, beq_eq_false_iff_ne, decide_eq_false_iff_not]
  exact ⟨⟨h1, h2⟩, fun ⟨x, e⟩ => h3 x e⟩

theorem Rep.rebase (r : Rep C g loc hp s) : Rep C (hideP (own C hp) s.heap) loc hp s := by
  refine ⟨r.sh, r.ns, r.keep, r.above, fun b o e => (hideP_of e).1, hideP_none (by unfold own; simp), r.cells, fun x c e => ?_, r.capart, r.objs, fun a po e hm => ?_, r.fro⟩
  · obtain ⟨_, h2, h3, h4⟩ := r.coff x c e
    refine ⟨hideP_none ?_, h2, h3, h4⟩
    unfold own
    rw [Bool.or_eq_true]; right
    simp only [decide_eq_true_eq]; exact ⟨x, e⟩
  · obtain ⟨_, h2, h3⟩ := r.off a po e hm
    exact ⟨hideP_none (by unfold own; rw [mutAt_of e hm]; rfl), h2, h3⟩

theorem Rep.back {loc' : Loc} {hp' : PHeap} {s' : Shared} (r : Rep C g loc hp s) (r' : Rep C (hideP (own C hp) s.heap) loc' hp' s') :
    Rep C g loc' hp' s' ∧ ∀ b o, s.heap.get? b = some o → own C hp b = false → s'.heap.get? b = some o := by
  have kp : ∀ b o, s.heap.get? b = some o → own C hp b = false → s'.heap.get? b = some o := fun b o e h => r'.gkeep b o (hideP_some e h)
  have gown : ∀ b o, g.get? b = some o → own C hp b = false := fun b o e => own_of (by
      cases q : mutAt hp b with
      | false => rfl
      | true => obtain ⟨po, h1, h2⟩ := of_mutAt q; have := (r.off b po h1 h2).1; rw [e] at this; cases this) (r.gneL e) (fun x q => by have := (r.coff x b q).1; rw [e] at this; cases this)
  refine ⟨⟨r'.sh, r'.ns, r'.keep, r'.above, fun b o e => kp b o (r.gkeep b o e) (gown b o e), r.gL, r'.cells, fun x c e => ?_, r'.capart, r'.objs, fun a po e hm => ?_, r'.fro⟩, kp⟩
  · obtain ⟨_, h2, h3, h4⟩ := r'.coff x c e
    exact ⟨(r.coff x c e).1, h2, h3, h4⟩
  · obtain ⟨h1, h2, h3⟩ := r'.off a po e hm
    refine ⟨?_, h2, h3⟩
    cases q : g.get? a with
    | none => rfl
    | some o => rw [hideP_some (r.gkeep a o q) (gown a o q)] at h1; cases h1

/-- an object of no one's changed -/
theorem Rep.other (r : Rep C g loc hp s) {I : Addr} {h' : Heap} {tk : Nat} (hI : hp I = none) (h0 : C.h₀.get? I = none) (hg : g.get? I = none) (hL : I ≠ C.L) (hc : ∀ x, C.env.cells.lookup x ≠ some I)
    (hk : ∀ b o, b ≠ I → s.heap.get? b = some o → h'.get? b = some o) : Rep C g loc hp { s with heap := h', toks := tk } := by
  obtain ⟨⟨h, t, rfl⟩, ⟨m, n1, n2⟩, k, ab, gk, gL, ce, co, ca, ob, of, fr⟩ := r
  refine ⟨⟨h', tk, rfl⟩, ⟨m, n1.at' fun o e => hk _ o (Ne.symm hL) e, n2⟩, fun b o e => hk b o ?_ (k b o e), ab, fun b o e => hk b o ?_ (gk b o e), gL, fun x c e => ?_, co, ca, fun a po e => ?_, of, fr⟩
  · rintro rfl; rw [h0] at e; cases e
  · rintro rfl; rw [hg] at e; cases e
  · obtain ⟨v, ⟨oc, h1, h2⟩, h3⟩ := ce x c e
    exact ⟨v, ⟨oc, hk c oc (by rintro rfl; exact hc x e) h1, h2⟩, h3⟩
  · obtain ⟨o, h1, h2⟩ := ob a po e
    exact ⟨o, hk a o (by rintro rfl; rw [hI] at e; cases e) h1, h2⟩

/-- a loop's turns, one after the other -/
def forL (step : PV → Loc → PHeap → (PF → Loc → PHeap → Prop) → Prop) (same : PHeap → Prop) (Q : PF → Loc → PHeap → Prop) : List PV → Loc → PHeap → Prop
  | [], loc, hp => Q .next loc hp
  | v :: rest, loc, hp => step v loc hp fun fl loc' hp' => match fl with
    | .next => same hp' ∧ forL step same Q rest loc' hp'
    | .cont => same hp' ∧ forL step same Q rest loc' hp'
    | .brk => Q .next loc' hp'
    | .ret w => Q (.ret w) loc' hp'

theorem for_loop {target : Expr} {body : List Stmt} {I : Addr} {S : Src} {xs : List PV} {v₀ : PV} {hp₀ : PHeap} {step : PV → Loc → PHeap → (PF → Loc → PHeap → Prop) → Prop} {Q : PF → Loc → PHeap → Prop}
    (k : Ok P C n) (hsrc : ∀ hp', SrcSame hp₀ hp' v₀ → srcItems hp' S = some xs)
    (hstep : ∀ v loc hp K, step v loc hp K → ∀ val, pv val = v → WL C (assign target C.env val) loc hp (fun _ l h => WL C (execs body C.env) l h (fun fl l' h' => K (pf fl) l' h')))
    (r : Rep C g loc hp s) (hs : SrcSame hp₀ hp v₀) (x : ItO S I 0 s.heap) (h0 : C.h₀.get? I = none) (hg : g.get? I = none) (hL : I ≠ C.L) (hc : ∀ x, C.env.cells.lookup x ≠ some I)
    (h : forL step (fun hp' => SrcSame hp₀ hp' v₀) Q xs loc hp) :
    codeAny (model C.prog C.w) C.A (.forLoop target (.ref I) body [] C.env) (fun r s' => match r with | .ok f => ∃ l' hp', Rep C g l' hp' s' ∧ Q (pf f) l' hp' | .error _ => False) s := by
  refine codeAny_forLoop_any (fun m s' => ∃ i loc hp, m = xs.length + 1 - i ∧ i ≤ xs.length ∧ Rep C g loc hp s' ∧ SrcSame hp₀ hp v₀ ∧ ItO S I i s'.heap ∧ forL step (fun hp' => SrcSame hp₀ hp' v₀) Q (xs.drop i) loc hp) ?_ (xs.length + 1)
    ⟨0, loc, hp, rfl, Nat.zero_le _, r, hs, x, by simpa using h⟩
  rintro m s' ⟨i, loc, hp, rfl, hi, r, hs, x, h⟩
  have hsi := hsrc hp hs
  by_cases hlt : i < xs.length
  · obtain ⟨p, hp'⟩ : ∃ p, xs[i]? = some p := ⟨xs[i], by simp [hlt]⟩
    refine next_item r hsi x hp' fun v h₁ tk₁ hv x₁ hk₁ => ?_
    have r₁ := r.other (tk := tk₁) (x.noObj r) h0 hg hL hc hk₁
    refine letOwned_none x₁ ?_
    have hd : xs.drop i = p :: xs.drop (i + 1) := by
      rw [List.drop_eq_getElem_cons hlt]
      have : xs[i] = p := by have := hp'; simp [hlt] at this; exact this
      rw [this]
    rw [hd] at h
    have hb := hstep p loc hp _ h v hv _ _ r₁.rebase
    refine wpAny_mono hb (fun _ s₂ ⟨l₂, hp₂, r₂, q₂⟩ => wpAny_mono (q₂ _ s₂ r₂) (fun fl s₃ h₃ => ?_) fun _ _ e => e.elim) fun _ _ e => e.elim
    obtain ⟨l', hp₃, r₃, q⟩ := h₃
    obtain ⟨R, keep⟩ := r₁.back r₃
    have hI : own C hp I = false := own_of (by unfold mutAt; rw [x.noObj r]) hL hc
    have x₃ : ItO S I (i + 1) s₃.heap := x₁.keep fun o e => keep I o e hI
    cases fl with
    | next => exact ⟨xs.length + 1 - (i + 1), by omega, i + 1, l', hp₃, rfl, hlt, R, q.1, x₃, q.2⟩
    | cont => exact ⟨xs.length + 1 - (i + 1), by omega, i + 1, l', hp₃, rfl, hlt, R, q.1, x₃, q.2⟩
    | brk => exact ⟨l', hp₃, R, q⟩
    | ret w => exact ⟨l', hp₃, R, q⟩
  · have hin : i = xs.length := by omega
    refine next_end k.hh r hsi x (by omega) fun h₁ tk₁ hk₁ => wpAny_execs_nil ?_
    rw [hin, List.drop_length] at h
    exact ⟨loc, hp, r.other (x.noObj r) h0 hg hL hc hk₁, h⟩

/-- for target in iter: body -/
theorem WL.for_ {target iter : Expr} {body : List Stmt} {pos : Pos} {step : PV → Loc → PHeap → (PF → Loc → PHeap → Prop) → Prop} {Q : PF → Loc → PHeap → Prop} (k : Ok P C n)
    (hset : ∀ x, foldedSetIterable iter C.env x = pure x)
    (hstep : ∀ v loc hp K, step v loc hp K → ∀ val, pv val = v → WL C (assign target C.env val) loc hp (fun _ l h => WL C (execs body C.env) l h (fun fl l' h' => K (pf fl) l' h')))
    (h : W C loc (eval iter C.env) hp (fun v hp₁ => ∃ xs, iterItems hp₁ (pv v) = some xs ∧ rangeFits hp₁ (pv v) ∧ forL step (fun hp' => SrcSame hp₁ hp' (pv v)) Q xs loc hp₁)) :
    WL C (exec (.For target iter body [] pos) C.env) loc hp (fun fl l' h' => Q (pf fl) l' h') := by
  intro g s r
  refine wpAny_For (wpAny_mono (h g s r) (fun v s₁ ⟨hp₁, r₁, xs, h1, h2, h3⟩ => ?_) fun _ _ e => e) hset
  refine iter_start r₁ h1 h2 fun S I h' hsrc x hn hk => ?_
  have hno : ∀ b o, s₁.heap.get? b = some o → b ≠ I := fun b o e => by rintro rfl; rw [hn] at e; cases e
  have r₂ : Rep C g loc hp₁ { s₁ with heap := h', toks := s₁.toks } := r₁.grown (Kp.of hk)
  refine codeAny_mono (for_loop k hsrc hstep r₂ (fun _ _ => rfl) x ?_ ?_ ?_ ?_ h3) fun r s' z => ?_
  · cases e : C.h₀.get? I with
    | none => rfl
    | some o => exact absurd rfl (hno I o (r₁.keep I o e))
  · cases e : g.get? I with
    | none => rfl
    | some o => exact absurd rfl (hno I o (r₁.gkeep I o e))
  · obtain ⟨m, ⟨oL, _, _, hL, _⟩, _⟩ := r₁.ns
    exact (hno _ oL hL).symm
  · intro y e
    obtain ⟨v, ⟨oc, h1, _⟩, _⟩ := r₁.cells y I e
    exact hno _ oc h1 rfl
  · cases r with
    | ok f => exact z
    | error e => exact z.elim

/-- while: so many turns at most -/
def whileL (test : Loc → PHeap → (Bool → PHeap → Prop) → Prop) (step : Loc → PHeap → (PF → Loc → PHeap → Prop) → Prop) (Q : PF → Loc → PHeap → Prop) : Nat → Loc → PHeap → Prop
  | 0, _, _ => False
  | m + 1, loc, hp => test loc hp fun b hp₁ => if b then step loc hp₁ (fun fl loc' hp' => match fl with
      | .next => whileL test step Q m loc' hp'
      | .cont => whileL test step Q m loc' hp'
      | .brk => Q .next loc' hp'
      | .ret w => Q (.ret w) loc' hp') else Q .next loc hp₁

theorem WL.while_ {te : Expr} {body : List Stmt} {pos : Pos} {test : Loc → PHeap → (Bool → PHeap → Prop) → Prop} {step : Loc → PHeap → (PF → Loc → PHeap → Prop) → Prop} {Q : PF → Loc → PHeap → Prop} {m : Nat}
    (ht : ∀ loc hp K, test loc hp K → W C loc (isTrue te C.env (eval te C.env)) hp K)
    (hs : ∀ loc hp K, step loc hp K → WL C (execs body C.env) loc hp (fun fl l' h' => K (pf fl) l' h'))
    (h : whileL test step Q m loc hp) : WL C (exec (.While te body [] pos) C.env) loc hp (fun fl l' h' => Q (pf fl) l' h') := by
  intro g s r
  refine wpAny_While (codeAny_mono (codeAny_whileLoop (R := fun r s' => match r with | .ok f => ∃ l' hp', Rep C g l' hp' s' ∧ Q (pf f) l' hp' | .error _ => False)
    (fun m s' => ∃ loc hp, Rep C g loc hp s' ∧ whileL test step Q m loc hp) ?_ m ⟨loc, hp, r, h⟩) fun r s' z => ?_)
  · rintro m s' ⟨loc, hp, r, h⟩
    cases m with
    | zero => exact h.elim
    | succ m =>
      refine wpAny_mono (ht loc hp _ h g s' r) (fun b s₁ ⟨hp₁, r₁, q⟩ => ?_) fun _ _ e => e.elim
      cases b with
      | true =>
        simp only [if_true] at q ⊢
        refine wpAny_mono (hs loc hp₁ _ q g s₁ r₁) (fun fl s₂ ⟨l₂, hp₂, r₂, q₂⟩ => ?_) fun _ _ e => e.elim
        cases fl with
        | next => exact ⟨m, Nat.lt_succ_self _, l₂, hp₂, r₂, q₂⟩
        | cont => exact ⟨m, Nat.lt_succ_self _, l₂, hp₂, r₂, q₂⟩
        | brk => exact ⟨l₂, hp₂, r₂, q₂⟩
        | ret w => exact ⟨l₂, hp₂, r₂, q₂⟩
      | false =>
        simp only [Bool.false_eq_true, if_false] at q ⊢
        exact wpAny_execs_nil ⟨loc, hp₁, r₁, q⟩
  · cases r with
    | ok f => exact z
    | error e => exact z.elim
end
end Hd

namespace Hd

/-- the captured cells -/
def closL (env : Env) : List (Str × NameKind) → List (Str × Addr) → Option (List (Str × Addr))
  | [], acc => some acc
  | (n, k) :: r, acc => if k == .free then (match env.cells.lookup n with | some a => closL env r ((n, a) :: acc) | none => none) else closL env r acc

theorem closL_forIn (env : Env) : ∀ (names : List (Str × NameKind)) (acc cl : List (Str × Addr)), closL env names acc = some cl →
    (forIn names acc (fun (p : Str × NameKind) (cs : List (Str × Addr)) => (if (p.2 == NameKind.free) = true then (do let a ← cellOf env p.1; pure (ForInStep.yield ((p.1, a) :: cs))) else pure (ForInStep.yield cs) : Sem (ForInStep (List (Str × Addr)))))) = pure cl
  | [], acc, cl, h => by cases h; rfl
  | (n, k) :: r, acc, cl, h => by
    rw [List.forIn_cons]
    unfold closL at h
    by_cases hk : (k == NameKind.free) = true
    · rw [if_pos hk] at h
      rw [if_pos hk]
      split at h
      · rename_i a e
        unfold cellOf
        rw [e]
        exact closL_forIn env r _ cl h
      · cases h
    · rw [if_neg hk] at h
      rw [if_neg hk]
      exact closL_forIn env r _ cl h
theorem closureFor_of {env : Env} {scope : Scope} {cl : List (Str × Addr)} (h : closL env scope.names [] = some cl) : closureFor scope env = pure cl := by
  unfold closureFor
  have := closL_forIn env scope.names [] cl h
  exact congrArg (fun (t : Sem (List (Str × Addr))) => t >>= fun cs => pure cs) this

theorem closL_sub (env : Env) : ∀ (names : List (Str × NameKind)) (acc cl : List (Str × Addr)), closL env names acc = some cl → ∀ x c, cl.lookup x = some c → acc.lookup x = some c ∨ ((x, NameKind.free) ∈ names ∧ env.cells.lookup x = some c)
  | [], acc, cl, h, x, c, e => by cases h; exact .inl e
  | (n, k) :: r, acc, cl, h, x, c, e => by
    unfold closL at h
    by_cases hk : (k == NameKind.free) = true
    · rw [if_pos hk] at h
      split at h
      · rename_i a q
        rcases closL_sub env r _ cl h x c e with h1 | h1
        · rw [List.lookup_cons] at h1
          split at h1
          · rename_i hx
            cases h1
            have : x = n := by simpa using hx
            subst this
            rw [show k = NameKind.free by simpa using hk]
            exact .inr ⟨.head _, q⟩
          · exact .inl h1
        · exact .inr ⟨.tail _ h1.1, h1.2⟩
      · cases h
    · rw [if_neg hk] at h
      rcases closL_sub env r _ cl h x c e with h1 | h1
      · exact .inl h1
      · exact .inr ⟨.tail _ h1.1, h1.2⟩
theorem closL_acc (env : Env) : ∀ (names : List (Str × NameKind)) (acc cl : List (Str × Addr)), closL env names acc = some cl → ∀ x, (acc.lookup x).isSome = true ∨ (x, NameKind.free) ∈ names → (cl.lookup x).isSome = true
  | [], acc, cl, h, x, e => by cases h; rcases e with e | e; exact e; cases e
  | (n, k) :: r, acc, cl, h, x, e => by
    unfold closL at h
    by_cases hk : (k == NameKind.free) = true
    · rw [if_pos hk] at h
      split at h
      · refine closL_acc env r _ cl h x ?_
        rcases e with e | e
        · left; rw [List.lookup_cons]; split; rfl; exact e
        · rcases List.mem_cons.mp e with e | e
          · cases e; left; rw [List.lookup_cons]; simp
          · exact .inr e
      · cases h
    · rw [if_neg hk] at h
      refine closL_acc env r _ cl h x ?_
      rcases e with e | e
      · exact .inl e
      · rcases List.mem_cons.mp e with e | e
        · cases e; simp at hk
        · exact .inr e
theorem closL_ex (env : Env) : ∀ (names : List (Str × NameKind)) (acc : List (Str × Addr)), (∀ x, (x, NameKind.free) ∈ names → (env.cells.lookup x).isSome = true) → ∃ cl, closL env names acc = some cl
  | [], acc, _ => ⟨acc, rfl⟩
  | (n, k) :: r, acc, h => by
    unfold closL
    by_cases hk : (k == NameKind.free) = true
    · rw [if_pos hk]
      obtain ⟨a, ha⟩ := Option.isSome_iff_exists.mp (h n (by rw [show k = NameKind.free by simpa using hk]; exact .head _))
      rw [ha]
      exact closL_ex env r _ fun x hx => h x (.tail _ hx)
    · rw [if_neg hk]
      exact closL_ex env r _ fun x hx => h x (.tail _ hx)

/-- a comprehension's names: its own, the captured ones, the top's -/
def scOk (outer inner : Scope) : Bool := inner.kind == .function && inner.names.all fun p => inner.names.lookup p.1 == some p.2 && (p.2 == .local || p.2 == .globalImplicit || (p.2 == .free && outer.names.lookup p.1 == some .cell))

def relS (inner outer : Scope) : Scope := { inner with names := inner.names.map fun (n, k) => if (k == .free && outer.kind == .function && outer.names.lookup n == some .cell) then (n, .cell) else (n, k) }
theorem relS_look {outer : Scope} (ho : outer.kind = .function) : ∀ {names : List (Str × NameKind)} {x : Str}, (∀ p ∈ names, p.2 = .local ∨ p.2 = .globalImplicit ∨ (p.2 = .free ∧ outer.names.lookup p.1 = some .cell)) →
    (names.map fun ((n, k) : Str × NameKind) => if (k == .free && outer.kind == .function && outer.names.lookup n == some .cell) then (n, NameKind.cell) else (n, k)).lookup x = (names.lookup x).map fun k => if k = .free then NameKind.cell else k
  | [], x, _ => rfl
  | (n, k) :: r, x, h => by
    have ih := relS_look ho (x := x) fun p hp => h p (.tail _ hp)
    have hk := h (n, k) (.head _)
    simp only [List.map_cons]
    rw [List.lookup_cons (a := x)]
    rcases hk with hk | hk | ⟨hk, hc⟩
    · simp only at hk; subst hk
      simp only [show (NameKind.local == NameKind.free) = false from rfl, Bool.false_and, Bool.false_eq_true, if_false, List.lookup_cons]
      split
      · simp
      · exact ih
    · simp only at hk; subst hk
      simp only [show (NameKind.globalImplicit == NameKind.free) = false from rfl, Bool.false_and, Bool.false_eq_true, if_false, List.lookup_cons]
      split
      · simp
      · exact ih
    · simp only at hk hc; subst hk
      have hc' : (NameKind.free == NameKind.free && outer.kind == ScopeKind.function && outer.names.lookup n == some NameKind.cell) = true := by rw [ho, hc]; rfl
      simp only [hc', if_true, List.lookup_cons]
      split
      · simp
      · exact ih

structure ScF (outer inner : Scope) : Prop where
  kind : inner.kind = .function
  okind : outer.kind = .function
  look : ∀ x, (relS inner outer).names.lookup x = (inner.names.lookup x).map fun k => if k = .free then NameKind.cell else k
  mem : ∀ x k, (x, k) ∈ inner.names → inner.names.lookup x = some k
  kinds : ∀ x k, inner.names.lookup x = some k → k = .local ∨ k = .globalImplicit ∨ (k = .free ∧ outer.names.lookup x = some .cell)
theorem ScF.of {outer inner : Scope} (h : scOk outer inner = true) (ho : outer.kind = .function) : ScF outer inner := by
  unfold scOk at h
  rw [Bool.and_eq_true] at h
  have h2 : ∀ p ∈ inner.names, inner.names.lookup p.1 = some p.2 ∧ (p.2 = .local ∨ p.2 = .globalImplicit ∨ (p.2 = .free ∧ outer.names.lookup p.1 = some .cell)) := fun p hp => by
    have := List.all_eq_true.mp h.2 p hp
    simp only [Bool.and_eq_true, Bool.or_eq_true, beq_iff_eq] at this
    exact ⟨this.1, by rcases this.2 with (q | q) | q; exact .inl q; exact .inr (.inl q); exact .inr (.inr q)⟩
  refine ⟨by simpa using h.1, ho, fun x => relS_look ho fun p hp => (h2 p hp).2, fun x k hx => (h2 (x, k) hx).1, fun x k hx => ?_⟩
  exact (h2 (x, k) (mem_of_look hx)).2

def compLoc (inner : Scope) (loc : Loc) : Loc := fun x => if inner.names.lookup x = some .free then loc x else none

abbrev compCx (C : Cx) (inner : Scope) (cl : List (Str × Addr)) (L' : Addr) : Cx := { C with env := compEnvC inner cl L' C.env }

section
variable {P : Prg} {C : Cx} {n : Nat} {g : Heap} {loc : Loc} {hp : PHeap} {s : Shared} {inner : Scope} {cl : List (Str × Addr)} {L' : Addr}

structure ClF (C : Cx) (inner : Scope) (cl : List (Str × Addr)) : Prop where
  sub : ∀ x c, cl.lookup x = some c → C.env.cells.lookup x = some c ∧ inner.names.lookup x = some .free
  all : ∀ x, inner.names.lookup x = some .free → (cl.lookup x).isSome = true

theorem clos (k : Ok P C n) (f : ScF C.env.scope inner) : ∃ cl, closureFor inner C.env = pure cl ∧ ClF C inner cl := by
  obtain ⟨cl, e⟩ := closL_ex C.env inner.names [] fun x hx => by
    rcases f.kinds x _ (f.mem x _ hx) with h | h | h
    · cases h
    · cases h
    · exact k.hc x (.inl h.2)
  refine ⟨cl, closureFor_of e, fun x c q => ?_, fun x q => closL_acc _ _ _ _ e x (.inr (mem_of_look q))⟩
  rcases closL_sub _ _ _ _ e x c q with h | h
  · cases h
  · exact ⟨h.2, f.mem x _ h.1⟩

theorem compOk (k : Ok P C n) (f : ScF C.env.scope inner) (c : ClF C inner cl) : Ok P (compCx C inner cl L') n := by
  have hk : ∀ x kd, (compCx C inner cl L').env.kindOf x = some kd → ∃ k₀, inner.names.lookup x = some k₀ ∧ kd = if k₀ = .free then NameKind.cell else k₀ := fun x kd h => by
    have h' : (relS inner C.env.scope).names.lookup x = some kd := h
    rw [f.look] at h'
    cases e : inner.names.lookup x with
    | none => rw [e] at h'; cases h'
    | some k₀ => rw [e] at h'; cases h'; exact ⟨k₀, rfl, rfl⟩
  refine ⟨k.hh, k.room, k.units, f.kind, k.glob, k.bui, k.K, k.mg, k.mb, k.lim, fun x hx => ?_, fun x hx => ?_, k.fz⟩
  · have : ∃ k₀, inner.names.lookup x = some k₀ ∧ k₀ = .free := by
      rcases hx with hx | hx
      · obtain ⟨k₀, h1, h2⟩ := hk x _ hx
        refine ⟨k₀, h1, ?_⟩
        split at h2
        · assumption
        · rcases f.kinds x k₀ h1 with q | q | q
          · rw [q] at h2; cases h2
          · rw [q] at h2; cases h2
          · exact q.1
      · obtain ⟨k₀, h1, h2⟩ := hk x _ hx
        refine ⟨k₀, h1, ?_⟩
        split at h2
        · assumption
        · exact h2.symm
    obtain ⟨k₀, h1, rfl⟩ := this
    exact c.all x h1
  · cases e : cl.lookup x with
    | none => exact e
    | some a =>
      have h1 := (c.sub x a e).2
      obtain ⟨k₀, h2, h3⟩ := hk x _ hx
      rw [h1] at h2; cases h2
      cases h3

theorem Rep.inComp (f : ScF C.env.scope inner) (c : ClF C inner cl) (r : Rep C g loc hp s) (hab : C.h₀.objs.size ≤ L') (hns : ∃ m, s.heap.Ns L' m) (hm : mutAt hp L' = false) (hcl : ∀ x, C.env.cells.lookup x ≠ some L') :
    Rep (compCx C inner cl L') (hideP (own (compCx C inner cl L') hp) s.heap) (compLoc inner loc) hp s := by
  obtain ⟨m, hns⟩ := hns
  refine ⟨r.sh, ⟨m, hns, fun x hx p e => ?_⟩, r.keep, hab, fun b o e => (hideP_of e).1, hideP_none (by unfold own; simp), fun x cc e => ?_, fun x cc e => ?_, fun x y cc e e' => ?_, r.objs, fun a po e hmu => ?_, r.fro⟩
  · have h' : (relS inner C.env.scope).names.lookup x = some .local := hx
    rw [f.look] at h'
    unfold compLoc at e
    split at e
    · rename_i q; rw [q] at h'; cases h'
    · cases e
  · obtain ⟨h1, h2⟩ := c.sub x cc e
    obtain ⟨v, h3, h4⟩ := r.cells x cc h1
    exact ⟨v, h3, by unfold compLoc; rw [if_pos h2]; exact h4⟩
  · obtain ⟨h1, h2⟩ := c.sub x cc e
    obtain ⟨_, q2, q3, q4⟩ := r.coff x cc h1
    refine ⟨hideP_none ?_, q2, ?_, q4⟩
    · unfold own
      rw [Bool.or_eq_true]; right
      simp only [decide_eq_true_eq]; exact ⟨x, e⟩
    · rintro rfl; exact hcl x h1
  · exact r.capart x y cc (c.sub x cc e).1 (c.sub y cc e').1
  · obtain ⟨_, q2, q3⟩ := r.off a po e hmu
    refine ⟨hideP_none (by unfold own; rw [mutAt_of e hmu]; rfl), q2, ?_⟩
    intro q
    have q' : a = L' := q
    rw [q'] at e
    rw [show mutAt hp L' = true from mutAt_of e hmu] at hm; cases hm

theorem Rep.outComp {loc' : Loc} {hp' : PHeap} {s' : Shared} (c : ClF C inner cl) (r : Rep C g loc hp s) (hL : L' ≠ C.L) (hg : g.get? L' = none) (hcl : ∀ x, C.env.cells.lookup x ≠ some L') (hl : ∀ x, inner.names.lookup x = some .free → loc' x = loc x)
    (r' : Rep (compCx C inner cl L') (hideP (own (compCx C inner cl L') hp) s.heap) loc' hp' s') :
    Rep C g loc hp' s' ∧ ∀ b o, s.heap.get? b = some o → own (compCx C inner cl L') hp b = false → s'.heap.get? b = some o := by
  have kp : ∀ b o, s.heap.get? b = some o → own (compCx C inner cl L') hp b = false → s'.heap.get? b = some o := fun b o e h => r'.gkeep b o (hideP_some e h)
  have nm : ∀ b, (∀ po, hp b = some po → po.mut = false) → mutAt hp b = false := fun b hb => by
    cases q : mutAt hp b with
    | false => rfl
    | true => obtain ⟨po, h1, h2⟩ := of_mutAt q; rw [hb po h1] at h2; cases h2
  have gown : ∀ b o, g.get? b = some o → own (compCx C inner cl L') hp b = false := fun b o e => own_of (nm b fun po h1 => by
      cases hm : po.mut with
      | false => rfl
      | true => have := (r.off b po h1 hm).1; rw [e] at this; cases this)
    (by intro q; have q' : b = L' := q; rw [q', hg] at e; cases e)
    (fun x q => by have := (r.coff x b (c.sub x b q).1).1; rw [e] at this; cases this)
  have Lown : own (compCx C inner cl L') hp C.L = false := own_of (nm _ fun po h1 => by
      cases hm : po.mut with
      | false => rfl
      | true => exact absurd rfl (r.off _ po h1 hm).2.2) (Ne.symm hL) (fun x q => (r.coff x _ (c.sub x _ q).1).2.2.1 rfl)
  obtain ⟨m, n1, n2⟩ := r.ns
  refine ⟨⟨r'.sh, ⟨m, n1.at' fun o e => kp _ o e Lown, n2⟩, r'.keep, r.above, fun b o e => kp b o (r.gkeep b o e) (gown b o e), r.gL, fun x cc e => ?_, fun x cc e => ?_, r.capart, r'.objs, fun a po e hm => ?_, r'.fro⟩, kp⟩
  · obtain ⟨v, ⟨oc, h1, h2⟩, h3⟩ := r.cells x cc e
    by_cases hc : ∃ y, cl.lookup y = some cc
    · obtain ⟨y, hy⟩ := hc
      obtain ⟨q1, q2⟩ := c.sub y cc hy
      have : y = x := r.capart y x cc q1 e
      subst this
      obtain ⟨v', w1, w2⟩ := r'.cells y cc hy
      exact ⟨v', w1, fun p hp => w2 p (by rw [hl y q2]; exact hp)⟩
    · refine ⟨v, ⟨oc, kp _ _ h1 (own_of (nm cc (r.coff x cc e).2.2.2) ?_ fun y q => hc ⟨y, q⟩), h2⟩, h3⟩
      intro q
      have q' : cc = L' := q
      exact hcl x (q' ▸ e)
  · obtain ⟨q1, q2, q3, q4⟩ := r.coff x cc e
    refine ⟨q1, q2, q3, fun po hpo => ?_⟩
    by_cases hc : ∃ y, cl.lookup y = some cc
    · obtain ⟨y, hy⟩ := hc
      exact (r'.coff y cc hy).2.2.2 po hpo
    · cases hm : po.mut with
      | false => rfl
      | true =>
        obtain ⟨v, ⟨oc, h1, h2⟩, h3⟩ := r.cells x cc e
        have := (r'.off cc po hpo hm).1
        rw [hideP_some h1 (own_of (nm cc q4) (fun q => hcl x (show C.env.cells.lookup x = some L' by rw [e]; exact congrArg some q)) fun y q => hc ⟨y, q⟩)] at this; cases this
  · obtain ⟨h1, h2, h3⟩ := r'.off a po e hm
    refine ⟨?_, h2, ?_⟩
    · cases q : g.get? a with
      | none => rfl
      | some o => rw [hideP_some (r.gkeep a o q) (gown a o q)] at h1; cases h1
    · rintro rfl
      obtain ⟨oL, es, ep, hL', _⟩ := n1
      rw [hideP_some hL' Lown] at h1; cases h1
end
end Hd

namespace Hd

theorem comp_any {prog : Program} {w : World} {A : Around} {s : Shared} {R : Result → Shared → Prop} {elt target iter : Expr} {ifs : List Expr} {scope : Scope} {pos : Pos} {it acc : Value} {env : Env} (I : Nat → Shared → Prop)
    (turn : ∀ n s, I n s → wpAny (model prog w) A (pyNext it) (fun r s₁ => match r with
      | none => R (.ok .next) s₁
      | some v => wpAny (model prog w) A (letOwnedTupleGo target it v) (fun _ s₁' => wpAny (model prog w) A (assign target env v) (fun _ s₂ =>
          wpAny (model prog w) A (forIn ifs true fun c r => if r = true then do let ok ← isTrue c env (eval c env); pure (ForInStep.yield ok) else pure (ForInStep.yield r)) (fun ok s₃ =>
            if ok = true then wpAny (model prog w) A (eval elt env) (fun x s₄ =>
              wpAny (model prog w) A (call (.builtin "list.append") [acc, x]) (fun _ s₅ => ∃ m, m < n ∧ I m s₅) (fun _ _ => False) s₄) (fun _ _ => False) s₃
            else ∃ m, m < n ∧ I m s₃) (fun _ _ => False) s₂) (fun _ _ => False) s₁') (fun _ _ => False) s₁) (fun _ _ => False) s)
    (n : Nat) (h : I n s) : codeAny (model prog w) A (.compLoop (.ListComp elt [⟨target, iter, ifs, 0⟩] scope pos) 0 it acc env) R s := by
  refine codeAny_loop rfl I (fun n s hI => ?_) n h
  show wpAny _ A ((compTurn (.ListComp elt [⟨target, iter, ifs, 0⟩] scope pos) 0 it acc env).onRaise (fun x => do noteFrame x env; theTreesLotGoes x)) _ _ s
  refine wpAny_noted ?_
  rw [compTurn_list]
  refine wpAny_bind (wpAny_standAt (wpAny_bind (wpAny_mono (turn n s hI) (fun r s₁ h₁ => ?_) fun _ _ h' => h'.elim)))
  cases r with
  | none => exact wpAny_pure h₁
  | some v =>
    refine wpAny_bind (wpAny_mono h₁ (fun _ s₁' h₁' => ?_) fun _ _ h' => h'.elim)
    refine wpAny_bind (wpAny_mono h₁' (fun _ s₂ h₂ => wpAny_bind (wpAny_mono h₂ (fun ok s₃ h₃ => ?_) fun _ _ h' => h'.elim)) fun _ _ h' => h'.elim)
    cases ok with
    | false => exact wpAny_pure ⟨rfl, h₃⟩
    | true =>
      exact wpAny_bind (wpAny_bind (wpAny_mono h₃ (fun x s₄ h₄ => wpAny_bind (wpAny_mono h₄ (fun _ s₅ h₅ => wpAny_pure (wpAny_pure ⟨rfl, h₅⟩)) fun _ _ h' => h'.elim)) fun _ _ h' => h'.elim))

/-- a comprehension's turns -/
def compL (elt : PV → PHeap → (Option PV → PHeap → Prop) → Prop) (same : PHeap → Prop) (Q : List PV → PHeap → Prop) : List PV → List PV → PHeap → Prop
  | [], acc, hp => Q acc hp
  | v :: rest, acc, hp => elt v hp fun o hp' => same hp' ∧ compL elt same Q rest (match o with | some y => acc ++ [y] | none => acc) hp'

def testsOf (ifs : List Expr) (env : Env) : Sem Bool := forIn ifs true fun c r => if r = true then do let ok ← isTrue c env (eval c env); pure (ForInStep.yield ok) else pure (ForInStep.yield r)

section
variable {P : Prg} {C : Cx} {n : Nat} {g : Heap} {loc : Loc} {hp : PHeap} {s : Shared} {inner : Scope}

/-- one turn's own work, told of any frame of the comprehension's -/
def EltOk (P : Prg) (n : Nat) (C : Cx) (inner : Scope) (loc : Loc) (target : Expr) (ifs : List Expr) (elt : Expr) (sem : PV → PHeap → (Option PV → PHeap → Prop) → Prop) : Prop :=
  ∀ cl L' v hp K, Ok P (compCx C inner cl L') n → sem v hp K → ∀ val, pv val = v → WL (compCx C inner cl L') (assign target (compCx C inner cl L').env val) (compLoc inner loc) hp (fun _ l h =>
    (∀ x, inner.names.lookup x = some .free → l x = loc x) ∧ W (compCx C inner cl L') l (testsOf ifs (compCx C inner cl L').env) h (fun ok h₁ =>
      if ok = true then W (compCx C inner cl L') l (eval elt (compCx C inner cl L').env) h₁ (fun y h₂ => K (some (pv y)) h₂) else K none h₁))

theorem iter_self {A : Around} {E : Value → Shared → Prop} {S : Src} {I : Addr} {i : Nat} {prog : Program} {w : World} {Q : Value → Shared → Prop} (x : ItO S I i s.heap) (h : Q (.ref I) s) : wpAny (model prog w) A (pyIter (.ref I)) Q E s := by
  cases S with
  | list a => exact wpAny_pyIter_listiter x h
  | tuple a => exact wpAny_pyIter_tupleiter x h
  | range lo m => exact wpAny_pyIter_rangeiter x h
  | str y t T =>
    obtain ⟨hT, x⟩ := x
    rcases hT with rfl | rfl
    · exact wpAny_pyIter_striter_ascii x h
    · exact wpAny_pyIter_striter_wide x h

/-- no one's object -/
structure Free (C : Cx) (g : Heap) (a : Addr) : Prop where
  h0 : C.h₀.get? a = none
  hg : g.get? a = none
  hL : a ≠ C.L
  hc : ∀ x, C.env.cells.lookup x ≠ some a
theorem Free.of (r : Rep C g loc hp s) {a : Addr} (h : s.heap.get? a = none) : Free C g a := by
  refine ⟨?_, ?_, ?_, ?_⟩
  · cases e : C.h₀.get? a with
    | none => rfl
    | some o => have := r.keep a o e; rw [h] at this; cases this
  · cases e : g.get? a with
    | none => rfl
    | some o => have := r.gkeep a o e; rw [h] at this; cases this
  · rintro rfl
    obtain ⟨m, ⟨oL, _, _, hL, _⟩, _⟩ := r.ns
    rw [h] at hL; cases hL
  · intro y e
    obtain ⟨v, ⟨oc, h1, _⟩, _⟩ := r.cells y a e
    rw [h] at h1; cases h1
theorem Free.mut {a : Addr} (f : Free C g a) (r : Rep C g loc hp s) (h : mutAt hp a = false) : hp a = none := by
  cases e : hp a with
  | none => rfl
  | some po =>
    cases hm : po.mut with
    | true => rw [show mutAt hp a = true from mutAt_of e hm] at h; cases h
    | false => have := (r.fro a po e hm).2; rw [f.h0] at this; cases this

theorem comp_loop {elt target iter : Expr} {ifs : List Expr} {pos : Pos} {cl : List (Str × Addr)} {L' I D : Addr} {S : Src} {xs : List PV} {v₀ : PV} {hp₀ : PHeap} {sem : PV → PHeap → (Option PV → PHeap → Prop) → Prop} {Q : List PV → PHeap → Prop}
    (k : Ok P C n) (f : ScF C.env.scope inner) (c : ClF C inner cl) (hsem : EltOk P n C inner loc target ifs elt sem) (hsrc : ∀ hp', SrcSame hp₀ hp' v₀ → srcItems hp' S = some xs) (hz : xs.length ≤ sizeLine)
    (hab : C.h₀.objs.size ≤ L') (fI : Free C g I) (fD : Free C g D) (fL : Free C g L') (hID : I ≠ D) (hIL : I ≠ L') (hDL : D ≠ L')
    (r : Rep C g loc hp s) (hs : SrcSame hp₀ hp v₀) (x : ItO S I 0 s.heap) (hD : s.heap.PlainList D #[]) (hDp : hp D = none) (hLp : hp L' = none) (hns : ∃ m, s.heap.Ns L' m)
    (h : compL sem (fun hp' => SrcSame hp₀ hp' v₀) Q xs [] hp) :
    codeAny (model C.prog C.w) C.A (.compLoop (.ListComp elt [⟨target, iter, ifs, 0⟩] inner pos) 0 (.ref I) (.ref D) (compCx C inner cl L').env)
      (fun r s' => match r with | .ok _ => ∃ acc hp', Rep C g loc hp' s' ∧ hp' D = none ∧ hp' L' = none ∧ (∃ m, s'.heap.Ns L' m) ∧ (∃ ys, s'.heap.PlainList D ys ∧ ys.toList.map pv = acc) ∧ Q acc hp' | .error _ => False) s := by
  refine comp_any (fun m s' => ∃ i hp acc ys, m = xs.length + 1 - i ∧ i ≤ xs.length ∧ Rep C g loc hp s' ∧ SrcSame hp₀ hp v₀ ∧ ItO S I i s'.heap ∧ s'.heap.PlainList D ys ∧ ys.toList.map pv = acc ∧ ys.size ≤ i ∧ hp D = none ∧ hp L' = none ∧ (∃ m, s'.heap.Ns L' m) ∧
    compL sem (fun hp' => SrcSame hp₀ hp' v₀) Q (xs.drop i) acc hp) ?_ (xs.length + 1) ⟨0, hp, [], #[], rfl, Nat.zero_le _, r, hs, x, hD, rfl, Nat.le_refl _, hDp, hLp, hns, by simpa using h⟩
  rintro m s' ⟨i, hp, acc, ys, rfl, hi, r, hs, x, hD, hacc, hys, hDp, hLp, ⟨mL, hns⟩, h⟩
  have hsi := hsrc hp hs
  by_cases hlt : i < xs.length
  · obtain ⟨p, hp'⟩ : ∃ p, xs[i]? = some p := ⟨xs[i], by simp [hlt]⟩
    refine next_item r hsi x hp' fun v h₁ tk₁ hv x₁ hk₁ => ?_
    have r₁ := r.other (tk := tk₁) (x.noObj r) fI.h0 fI.hg fI.hL fI.hc hk₁
    refine letOwned_none x₁ ?_
    have hd : xs.drop i = p :: xs.drop (i + 1) := by
      rw [List.drop_eq_getElem_cons hlt]
      have : xs[i] = p := by have := hp'; simp [hlt] at this; exact this
      rw [this]
    rw [hd] at h
    have hns₁ : h₁.Ns L' mL := hns.at' fun o e => hk₁ _ o (Ne.symm hIL) e
    obtain ⟨kD, hD⟩ := hD
    have hD₁ : h₁.get? D = some { cls := .type "list", data := .seq ys kD } := hk₁ _ _ (Ne.symm hID) hD
    have r₂ := r₁.inComp f c hab ⟨mL, hns₁⟩ (by unfold mutAt; rw [hLp]) fL.hc
    have kp : Ok P (compCx C inner cl L') n := compOk k f c
    refine wpAny_mono (hsem cl L' p hp _ kp h v hv _ _ r₂) (fun _ s₂ ⟨l₂, hp₂, R₂, q₂⟩ => ?_) fun _ _ e => e
    refine wpAny_mono (q₂.2 _ s₂ R₂) (fun ok s₃ ⟨hp₃, R₃, q₃⟩ => ?_) fun _ _ e => e
    have fin : ∀ {hp₄ : PHeap} {s₄ : Shared}, Rep (compCx C inner cl L') (hideP (own (compCx C inner cl L') hp) h₁) l₂ hp₄ s₄ →
        Rep C g loc hp₄ s₄ ∧ ItO S I (i + 1) s₄.heap ∧ s₄.heap.get? D = some { cls := .type "list", data := .seq ys kD } ∧ hp₄ D = none ∧ hp₄ L' = none ∧ ∃ m, s₄.heap.Ns L' m := fun {hp₄ s₄} R₄ => by
      obtain ⟨Rb, keep⟩ := r₁.outComp c fL.hL fL.hg fL.hc q₂.1 R₄
      have oI : own (compCx C inner cl L') hp I = false := own_of (by unfold mutAt; rw [x.noObj r]) hIL (fun y q => fI.hc y (c.sub y I q).1)
      have oD : own (compCx C inner cl L') hp D = false := own_of (by unfold mutAt; rw [hDp]) hDL (fun y q => fD.hc y (c.sub y D q).1)
      obtain ⟨mm, nn, _⟩ := R₄.ns
      have mm' : ∀ (a : Addr) (o : Obj), h₁.get? a = some o → own (compCx C inner cl L') hp a = false → Free C g a → hp₄ a = none := fun a o e1 e2 fa => fa.mut Rb (by
        cases q : mutAt hp₄ a with
        | false => rfl
        | true => obtain ⟨po, w1, w2⟩ := of_mutAt q; have := (R₄.off a po w1 w2).1; rw [hideP_some e1 e2] at this; cases this)
      refine ⟨Rb, x₁.keep fun o e => keep I o e oI, keep D _ hD₁ oD, mm' D _ hD₁ oD fD, fL.mut Rb ?_, mm, nn⟩
      cases q : mutAt hp₄ L' with
      | false => rfl
      | true => obtain ⟨po, w1, w2⟩ := of_mutAt q; exact absurd rfl (R₄.off L' po w1 w2).2.2
    cases ok with
    | false =>
      simp only [Bool.false_eq_true, if_false] at q₃ ⊢
      obtain ⟨Rb, xb, Db, d1, d2, nb⟩ := fin R₃
      exact ⟨xs.length + 1 - (i + 1), by omega, i + 1, hp₃, acc, ys, rfl, hlt, Rb, q₃.1, xb, ⟨kD, Db⟩, hacc, by omega, d1, d2, nb, q₃.2⟩
    | true =>
      simp only [if_true] at q₃ ⊢
      refine wpAny_mono (q₃ _ s₃ R₃) (fun y s₄ ⟨hp₄, R₄, q₄⟩ => ?_) fun _ _ e => e
      obtain ⟨Rb, xb, Db, d1, d2, ⟨mm, nb⟩⟩ := fin R₄
      refine wpAny_list_append_plain ⟨kD, Db⟩ (fun h₅ hl₅ hs₅ => ?_) (by omega)
      refine ⟨xs.length + 1 - (i + 1), by omega, i + 1, hp₄, acc ++ [pv y], ys.push y, rfl, hlt, ?_, q₄.1, xb.keep fun o e => hs₅.extBut I o hID e, hl₅, by simp [hacc], by simp; omega, d1, d2, ⟨mm, nb.at' fun o e => hs₅.extBut _ o (Ne.symm hDL) e⟩, q₄.2⟩
      have := Rb.other (tk := s₄.toks) d1 fD.h0 fD.hg fD.hL fD.hc hs₅.extBut
      exact this
  · have hin : i = xs.length := by omega
    refine next_end k.hh r hsi x (by omega) fun h₁ tk₁ hk₁ => ?_
    rw [hin, List.drop_length] at h
    obtain ⟨kD, hD⟩ := hD
    exact ⟨acc, hp, r.other (x.noObj r) fI.h0 fI.hg fI.hL fI.hc hk₁, hDp, hLp, ⟨mL, hns.at' fun o e => hk₁ _ o (Ne.symm hIL) e⟩, ⟨ys, ⟨kD, hk₁ _ _ (Ne.symm hID) hD⟩, hacc⟩, h⟩
end
end Hd

namespace Hd
section
variable {P : Prg} {C : Cx} {n : Nat} {g : Heap} {loc : Loc} {hp : PHeap} {s : Shared} {inner : Scope}

/-- the block: a new list, a frame of its own, the turns -/
theorem comp_block {elt target iter : Expr} {ifs : List Expr} {pos : Pos} {cl : List (Str × Addr)} {I : Addr} {S : Src} {xs : List PV} {v₀ : PV} {hp₀ : PHeap} {sem : PV → PHeap → (Option PV → PHeap → Prop) → Prop} {Q : List PV → PHeap → Prop} {RR : Value → Addr → Result → Shared → Prop} {E : Value → Shared → Prop}
    (k : Ok P C n) (f : ScF C.env.scope inner) (c : ClF C inner cl) (hsem : EltOk P n C inner loc target ifs elt sem) (hsrc : ∀ hp', SrcSame hp₀ hp' v₀ → srcItems hp' S = some xs) (hz : xs.length ≤ sizeLine)
    (fI : Free C g I) (r : Rep C g loc hp s) (hs : SrcSame hp₀ hp v₀) (x : ItO S I 0 s.heap) (h : compL sem (fun hp' => SrcSame hp₀ hp' v₀) Q xs [] hp)
    (hRR : ∀ D L' acc hp' s' fl, Free C g D → Free C g L' → D ≠ L' → Rep C g loc hp' s' → hp' D = none → hp' L' = none → (∃ m, s'.heap.Ns L' m) → (∃ ys, s'.heap.PlainList D ys ∧ ys.toList.map pv = acc) → Q acc hp' → RR (.ref D) L' (.ok fl) s') :
    wpAny (model C.prog C.w) C.A (newList []) (fun acc s₃ => wpAny (model C.prog C.w) C.A (newFunctionEnv inner C.env.globals cl [] C.env.qual none .none (some C.env)) (fun cenv s₄ =>
      codeAny (model C.prog C.w) C.A (.compStart (.ListComp elt [⟨target, iter, ifs, 0⟩] inner pos) 0 (.ref I) acc { cenv with scope := relabel inner C.env }) (RR acc cenv.locals) s₄) E s₃) E s := by
  have hcell : ∀ y ∈ inner.names, y.2 ≠ .cell := fun y hy e => by
    rcases f.kinds y.1 y.2 (f.mem y.1 y.2 hy) with q | q | q
    · rw [e] at q; cases q
    · rw [e] at q; cases q
    · rw [e] at q; cases q.1
  refine wpAny_newObj_type (wpAny_newFunctionEnv hcell (by intro y hy; simp at hy) (fun h₁ hns₁ hsb₁ => ?_) f.kind)
  dsimp only at hns₁ hsb₁ ⊢
  generalize hH2 : s.heap.push { cls := .type "list", dict := none, data := .seq ([] : List Value).toArray } = H2 at hns₁ hsb₁ ⊢
  have hC : H2.objs.size = s.heap.objs.size + 1 := by rw [← hH2, Heap.size_push]
  have hDC : s.heap.objs.size ≠ H2.objs.size := by rw [hC]; exact Nat.ne_of_lt (Nat.lt_succ_self _)
  have below : ∀ b, b < s.heap.objs.size → b ≠ H2.objs.size := fun b hb => by rw [hC]; exact Nat.ne_of_lt (Nat.lt_succ_of_lt hb)
  have old : ∀ b o, s.heap.get? b = some o → h₁.get? b = some o := fun b o e => hsb₁.extBut b o (below b (Heap.lt_size e)) (Heap.get?_push_of_some _ (hH2 ▸ Heap.get?_push_of_some _ e))
  have hacc : h₁.PlainList s.heap.objs.size #[] := ⟨_, hsb₁.extBut _ _ hDC (Heap.get?_push_of_some _ (hH2 ▸ Heap.get?_push_size _ rfl))⟩
  have fresh : ∀ a, s.heap.objs.size ≤ a → s.heap.get? a = none := fun a ha => by
    cases e : s.heap.get? a with
    | none => rfl
    | some o' => exact absurd (Heap.lt_size e) (Nat.not_lt.mpr ha)
  have hL0 : s.heap.get? H2.objs.size = none := fresh _ (by rw [hC]; exact Nat.le_succ _)
  have hD0 : s.heap.get? s.heap.objs.size = none := fresh _ (Nat.le_refl _)
  have nohp : ∀ a, s.heap.get? a = none → hp a = none := fun a ha => by
    cases e : hp a with
    | none => rfl
    | some po => obtain ⟨o, h1, _⟩ := r.objs a po e; rw [ha] at h1; cases h1
  have fD := Free.of r hD0
  have fL := Free.of r hL0
  obtain ⟨oI, _, hoI, _⟩ := x.obj
  have hab : C.h₀.objs.size ≤ H2.objs.size := by
    obtain ⟨m, hn, _⟩ := r.ns
    have h1 : C.L < s.heap.objs.size := hn.lt
    exact Nat.le_trans r.above (Nat.le_trans (Nat.le_of_lt h1) (by rw [hC]; exact Nat.le_succ _))
  have r₁ : ∀ tk, Rep C g loc hp { s with heap := h₁, toks := tk } := fun tk => r.grown (Kp.of old)
  have x₁ : ItO S I 0 h₁ := x.keep fun o e => old I o e
  have loop : codeAny (model C.prog C.w) C.A (.compLoop (.ListComp elt [⟨target, iter, ifs, 0⟩] inner pos) 0 (.ref I) (.ref s.heap.objs.size) (compCx C inner cl H2.objs.size).env) (RR (.ref s.heap.objs.size) H2.objs.size)
      { s with heap := h₁, toks := s.toks + ([] : List (Str × Value)).length } := by
    refine codeAny_mono (comp_loop k f c hsem hsrc hz hab fI fD fL (Nat.ne_of_lt (Heap.lt_size hoI)) (below _ (Heap.lt_size hoI)) hDC (r₁ _) hs x₁ hacc (nohp _ hD0) (nohp _ hL0) ⟨_, hns₁⟩ h) fun rr s' z => ?_
    cases rr with
    | error e => exact z.elim
    | ok fl =>
      obtain ⟨acc, hp', q1, q2, q3, q4, q5, q6⟩ := z
      exact hRR _ _ acc hp' s' fl fD fL hDC q1 q2 q3 q4 q5 q6
  exact codeAny_compStart_list loop (iter_self x₁ loop)

theorem Free.iter (r : Rep C g loc hp s) {I : Addr} {h' : Heap} (hn : s.heap.get? I = none) : Free C g I := Free.of r hn

theorem hnames_of {outer : Scope} (f : ScF outer inner) : ∀ x ∈ inner.names, x.2 = .local → inner.names.lookup x.1 = some .local := fun x hx e => by
  have := f.mem x.1 x.2 hx; rw [e] at this; exact this

/-- [elt for target in iter if ..] -/
theorem W.listComp {elt target iter : Expr} {ifs : List Expr} {pos : Pos} {sem : PV → PHeap → (Option PV → PHeap → Prop) → Prop} {Q : PV → PHeap → Prop} (k : Ok P C n) (hsc : scOk C.env.scope inner = true)
    (hset : ∀ x, foldedSetIterable iter C.env x = pure x) (hsem : EltOk P n C inner loc target ifs elt sem)
    (h : W C loc (eval iter C.env) hp (fun v hp₁ => ∃ xs, iterItems hp₁ (pv v) = some xs ∧ rangeFits hp₁ (pv v) ∧ xs.length ≤ sizeLine ∧
      compL sem (fun hp' => SrcSame hp₁ hp' (pv v)) (fun acc hp' => ∀ c, hp' c = none → Q (.ref c) (upd hp' c (.list acc))) xs [] hp₁)) :
    W C loc (eval (.ListComp elt [⟨target, iter, ifs, 0⟩] inner pos) C.env) hp (fun v hp' => Q (pv v) hp') := by
  intro g s r
  have f := ScF.of hsc k.kind
  obtain ⟨cl, hclos, c⟩ := clos k f
  rw [eval_ListComp]
  refine wpAny_comprehension_free (use := none) rfl hset hclos f.kind (hnames_of f) (wpAny_mono (h g s r) (fun v s₁ ⟨hp₁, r₁, xs, h1, h2, hz, h3⟩ => ?_) fun _ _ e => e)
  refine iter_start r₁ h1 h2 fun S I h' hsrc x hn hk => ?_
  have r₂ : Rep C g loc hp₁ { s₁ with heap := h', toks := s₁.toks } := r₁.grown (Kp.of hk)
  refine comp_block (RR := fun acc L' => compPost (model C.prog C.w) C.A (fun _ _ => False) none _ acc L') k f c hsem hsrc hz (Free.of r₁ hn) r₂ (fun _ _ => rfl) x h3 fun D L' acc hp' s' fl fD fL hDL R hD hL ⟨m, hns⟩ ⟨ys, ⟨kD, hl⟩, hy⟩ q => ?_
  refine ⟨m, hns, fun h'' hs'' => ?_⟩
  have R₁ := R.other (tk := s'.toks) hL fL.h0 fL.hg fL.hL fL.hc hs''.extBut
  refine ⟨upd hp' D (.list acc), ?_, q D hD⟩
  have hlD : h''.get? D = some { cls := .type "list", data := .seq ys kD } := hs''.extBut D _ hDL hl
  refine ⟨R₁.sh, R₁.ns, R₁.keep, R₁.above, R₁.gkeep, R₁.gL, R₁.cells, fun y cc e => ?_, R₁.capart, fun b o e => ?_, fun b o e hm => ?_, fun b o e hm => ?_⟩
  · obtain ⟨a1, a2, a3, a4⟩ := R₁.coff y cc e
    refine ⟨a1, a2, a3, fun po hpo => a4 po ?_⟩
    unfold upd at hpo
    rwa [if_neg (by rintro rfl; exact fD.hc y e)] at hpo
  · unfold upd at e
    split at e
    · rename_i hb; cases e; subst hb; exact ⟨_, hlD, ys, kD, rfl, hy⟩
    · exact R₁.objs b o e
  · unfold upd at e
    split at e
    · rename_i hb; subst hb; exact ⟨fD.hg, fD.h0, fD.hL⟩
    · exact R₁.off b o e hm
  · unfold upd at e
    split at e
    · cases e; cases hm
    · exact R₁.fro b o e hm

/-- y = [elt for target in iter if ..], the store within the block -/
theorem WL.assignComp {elt target iter : Expr} {ifs : List Expr} {pos spos py : Pos} {y : Str} {sem : PV → PHeap → (Option PV → PHeap → Prop) → Prop} {Q : Loc → PHeap → Prop} (k : Ok P C n) (hsc : scOk C.env.scope inner = true)
    (hsw : swapsWith (.ListComp elt [⟨target, iter, ifs, 0⟩] inner pos) (some (.Name y py)) spos.line C.env = pure true)
    (hset : ∀ x, foldedSetIterable iter C.env x = pure x) (hsem : EltOk P n C inner loc target ifs elt sem)
    (h : W C loc (eval iter C.env) hp (fun v hp₁ => ∃ xs, iterItems hp₁ (pv v) = some xs ∧ rangeFits hp₁ (pv v) ∧ xs.length ≤ sizeLine ∧
      compL sem (fun hp' => SrcSame hp₁ hp' (pv v)) (fun acc hp' => ∀ c, hp' c = none → pStore C.env.scope y (.ref c) loc (fun l => Q l (upd hp' c (.list acc)))) xs [] hp₁)) :
    WL C (exec (.Assign [.Name y py] (.ListComp elt [⟨target, iter, ifs, 0⟩] inner pos) spos) C.env) loc hp (fun fl l h' => fl = .next ∧ Q l h') := by
  intro g s r
  have f := ScF.of hsc k.kind
  obtain ⟨cl, hclos, c⟩ := clos k f
  rw [exec_Assign_Name_used _ _ _ _ hsw]
  refine wpAny_bind (wpAny_standAt (wpAny_bind ?_))
  show wpAny _ C.A (do let _ ← comprehension (.ListComp elt [⟨target, iter, ifs, 0⟩] inner pos) inner C.env _ (newList []) false (eval iter C.env) (some (assign (.Name y py) C.env))) _ _ s
  refine wpAny_bind (wpAny_mono (wpAny_comprehension_free (use := some (assign (.Name y py) C.env)) (Q := fun _ s' => ∃ l hp', Rep C g l hp' s' ∧ Q l hp') rfl hset hclos f.kind (hnames_of f) (wpAny_mono (h g s r) (fun v s₁ ⟨hp₁, r₁, xs, h1, h2, hz, h3⟩ => ?_) fun _ _ e => e))
    (fun _ s' ⟨l, hp', R, q⟩ => wpAny_pure (wpAny_pure ⟨l, hp', R, rfl, q⟩)) fun _ _ e => e)
  refine iter_start r₁ h1 h2 fun S I h' hsrc x hn hk => ?_
  have r₂ : Rep C g loc hp₁ { s₁ with heap := h', toks := s₁.toks } := r₁.grown (Kp.of hk)
  refine comp_block (RR := fun acc L' => compPost (model C.prog C.w) C.A (fun _ _ => False) (some (assign (.Name y py) C.env)) _ acc L') k f c hsem hsrc hz (Free.of r₁ hn) r₂ (fun _ _ => rfl) x h3 fun D L' acc hp' s' fl fD fL hDL R hD hL ⟨m, hns⟩ ⟨ys, ⟨kD, hl⟩, hy⟩ q => ?_
  have R₁ : Rep C g loc (upd hp' D (.list acc)) s' := by
    refine ⟨R.sh, R.ns, R.keep, R.above, R.gkeep, R.gL, R.cells, fun y cc e => ?_, R.capart, fun b o e => ?_, fun b o e hm => ?_, fun b o e hm => ?_⟩
    · obtain ⟨a1, a2, a3, a4⟩ := R.coff y cc e
      refine ⟨a1, a2, a3, fun po hpo => a4 po ?_⟩
      unfold upd at hpo
      rwa [if_neg (by rintro rfl; exact fD.hc y e)] at hpo
    · unfold upd at e
      split at e
      · rename_i hb; cases e; subst hb; exact ⟨_, hl, ys, kD, rfl, hy⟩
      · exact R.objs b o e
    · unfold upd at e
      split at e
      · rename_i hb; subst hb; exact ⟨fD.hg, fD.h0, fD.hL⟩
      · exact R.off b o e hm
    · unfold upd at e
      split at e
      · cases e; cases hm
      · exact R.fro b o e hm
  have hst := WL.store (C := C) (Q := Q) k (v := .ref D) (q D hD) _ _ R₁.rebase
  refine wpAny_mono (wpAny_assign_Name hst) (fun _ s'' ⟨l, hq, R₂, q₂⟩ => ?_) fun _ _ e => e
  obtain ⟨R₃, keep⟩ := R₁.back R₂
  have hL' : upd hp' D (.list acc) L' = none := by unfold upd; rw [if_neg (Ne.symm hDL)]; exact hL
  have oL : own C (upd hp' D (.list acc)) L' = false := own_of (by unfold mutAt; rw [hL']) fL.hL fL.hc
  have hn'' : s''.heap.Ns L' m := hns.at' fun o e => keep L' o e oL
  refine ⟨m, hn'', fun h'' hs'' => ⟨l, hq, R₃.other (tk := s''.toks) ?_ fL.h0 fL.hg fL.hL fL.hc hs''.extBut, q₂⟩⟩
  refine fL.mut R₃ ?_
  cases q : mutAt hq L' with
  | false => rfl
  | true =>
    obtain ⟨po, w1, w2⟩ := of_mutAt q
    have := (R₂.off L' po w1 w2).1
    obtain ⟨oL', _, _, ho, _⟩ := hns
    rw [hideP_some ho oL] at this; cases this
end
end Hd

namespace Hd

structure VC where
  E : Scope → Expr → Loc → PHeap → (PV → PHeap → Prop) → Prop
  T : Scope → Expr → Loc → PHeap → (Bool → PHeap → Prop) → Prop
  S : Scope → List Stmt → Loc → PHeap → (PF → Loc → PHeap → Prop) → Prop

/-- the trees do as is told -/
structure Sound (P : Prg) (n : Nat) (r : VC) : Prop where
  E : ∀ C, Ok P C n → ∀ e loc hp Q, r.E C.env.scope e loc hp Q → W C loc (eval e C.env) hp (fun v hp' => Q (pv v) hp')
  T : ∀ C, Ok P C n → ∀ e loc hp Q, r.T C.env.scope e loc hp Q → W C loc (isTrue e C.env (eval e C.env)) hp Q
  S : ∀ C, Ok P C n → ∀ b loc hp Q, r.S C.env.scope b loc hp Q → WL C (execs b C.env) loc hp (fun fl l h => Q (pf fl) l h)

def pEs (r : VC) (sc : Scope) : List Expr → Loc → PHeap → (List PV → PHeap → Prop) → Prop
  | [], _, hp, Q => Q [] hp
  | e :: es, loc, hp, Q => r.E sc e loc hp fun v hp₁ => pEs r sc es loc hp₁ fun vs hp₂ => Q (v :: vs) hp₂

def pKws (r : VC) (sc : Scope) : List Keyword → Loc → PHeap → (List (Str × PV) → PHeap → Prop) → Prop
  | [], _, hp, Q => Q [] hp
  | ⟨some x, e, _⟩ :: ks, loc, hp, Q => r.E sc e loc hp fun v hp₁ => pKws r sc ks loc hp₁ fun vs hp₂ => Q ((x, v) :: vs) hp₂
  | ⟨none, _, _⟩ :: _, _, _, _ => False

def kwNamed : List Keyword → Bool
  | [] => true
  | ⟨some _, _, _⟩ :: ks => kwNamed ks
  | ⟨none, _, _⟩ :: _ => false

def pKeep (P : Prg) : PV → Prop
  | .bi _ => True
  | .typ _ => True
  | .ref a => keepIn P.K (.ref a) = true
  | _ => False
def pCall (P : Prg) (n : Nat) (f : PV) (args : List PV) (kw : List (Str × PV)) (hp : PHeap) (Q : PV → PHeap → Prop) : Prop := match f with
  | .bi id => Calls P n (.builtin id) args kw hp Q
  | .typ T => Calls P n (.type T) args kw hp Q
  | .ref a => Calls P n (.ref a) args kw hp Q
  | _ => False

def pTruth (P : Prg) (n : Nat) (v : PV) (hp : PHeap) (Q : Bool → PHeap → Prop) : Prop := match v with
  | .none => Q false hp
  | .bool b => Q b hp
  | .int i => Q (decide (i ≠ 0)) hp
  | .str x => x.length < 2 ^ 60 ∧ Q (decide (x.length ≠ 0)) hp
  | .ref a => ∃ xs, lst hp a = some xs ∧ xs.length < 2 ^ 60 ∧ Q (!xs.isEmpty) hp
  | _ => False

def pIn (P : Prg) (n : Nat) (v b : PV) (hp : PHeap) (Q : Bool → PHeap → Prop) : Prop := match b with
  | .ref a => ∃ c d es f, hp a = some (.inst c d) ∧ hp d = some (.attrs es) ∧ HasMeth P c (Str.ofString "__contains__") f ∧ Calls P n (.ref f) [.ref a, v] [] hp (fun r hp' => ∃ bb, r = .bool bb ∧ Q bb hp')
  | _ => False

def pCmp (P : Prg) (n : Nat) (op : CmpOp) (a b : PV) (hp : PHeap) (Q : PV → PHeap → Prop) : Prop := match op with
  | .In => pIn P n a b hp fun c hp' => Q (.bool c) hp'
  | .NotIn => pIn P n a b hp fun c hp' => Q (.bool (!c)) hp'
  | op => pCmp0 op a b hp fun c => Q (.bool c) hp

def pAttr (P : Prg) (o : PV) (name : Str) (hp : PHeap) (Q : PV → PHeap → Prop) : Prop := match o with
  | .ref a => ∃ c d es v, hp a = some (.inst c d) ∧ hp d = some (.attrs es) ∧ ClsOk P c ∧ findIn P.K (.ref c) name = some none ∧ es.lookup name = some v ∧ (∀ id, v ≠ .bi id) ∧ Q v hp
  | _ => False

def isSlice : Expr → Bool
  | .Slice .. => true
  | _ => false

def pSub (P : Prg) (n : Nat) (o i : PV) (hp : PHeap) (Q : PV → PHeap → Prop) : Prop := match o with
  | .ref a => match hp a with
    | some (.inst c d) => ∃ es f m, n = m + 1 ∧ hp d = some (.attrs es) ∧ HasMeth P c (Str.ofString "__getitem__") f ∧ Calls P m (.ref f) [.ref a, i] [] hp Q
    | _ => pItem o i hp Q
  | _ => pItem o i hp Q

def pOpt (r : VC) (sc : Scope) (e : Option Expr) (loc : Loc) (hp : PHeap) (Q : PV → PHeap → Prop) : Prop := match e with
  | none => Q .none hp
  | some e => r.E sc e loc hp Q

def nameOf : Expr → Option Str
  | .Name x _ => some x
  | _ => none
theorem nameOf_eq {e : Expr} {x : Str} (h : nameOf e = some x) : ∃ p, e = .Name x p := by
  cases e <;> simp [nameOf] at h
  subst h; exact ⟨_, rfl⟩
def tgtNames : Expr → List Str
  | .Name x _ => [x]
  | .Tuple es _ _ => es.filterMap nameOf
  | _ => []

def pStores (sc : Scope) : List Expr → List PV → Loc → (Loc → Prop) → Prop
  | [], [], loc, Q => Q loc
  | e :: es, v :: vs, loc, Q => ∃ x, nameOf e = some x ∧ pStore sc x v loc fun l => pStores sc es vs l Q
  | _, _, _, _ => False

def pAssign (sc : Scope) (t : Expr) (v : PV) (loc : Loc) (hp : PHeap) (Q : Loc → Prop) : Prop := match t with
  | .Name x _ => pStore sc x v loc Q
  | .Tuple es _ _ => match v with
    | .ref a => ∃ xs, hp a = some (.tuple xs) ∧ pStores sc es xs loc Q
    | _ => False
  | _ => False

def pTests (r : VC) (sc : Scope) (ifs : List Expr) (loc : Loc) (hp : PHeap) (Q : Bool → PHeap → Prop) : Prop := match ifs with
  | [] => Q true hp
  | [c] => r.T sc c loc hp Q
  | _ => False

def compSem (r : VC) (sc inner : Scope) (t : Expr) (ifs : List Expr) (elt : Expr) (loc : Loc) (v : PV) (hp : PHeap) (K : Option PV → PHeap → Prop) : Prop :=
  pAssign (relS inner sc) t v (compLoc inner loc) hp fun l => pTests r (relS inner sc) ifs l hp fun ok h₁ => if ok = true then r.E (relS inner sc) elt l h₁ fun y h₂ => K (some y) h₂ else K none h₁

def notSet : Expr → Bool
  | .Set .. => false
  | _ => true
def compOkB (sc inner : Scope) (t iter : Expr) : Bool := scOk sc inner && notSet iter && (tgtNames t).all fun x => inner.names.lookup x == some .local

def pComp (r : VC) (sc : Scope) (elt t iter : Expr) (ifs : List Expr) (inner : Scope) (loc : Loc) (hp : PHeap) (Q : List PV → PHeap → Prop) : Prop :=
  compOkB sc inner t iter = true ∧ r.E sc iter loc hp fun v hp₁ => ∃ xs, iterItems hp₁ v = some xs ∧ rangeFits hp₁ v ∧ xs.length ≤ sizeLine ∧ compL (compSem r sc inner t ifs elt loc) (fun hp' => SrcSame hp₁ hp' v) Q xs [] hp₁

def pConst (c : Const) (hp : PHeap) (Q : PV → PHeap → Prop) : Prop := match c with
  | .int i => Q (.int i) hp
  | .str x => Q (.str x) hp
  | .bool b => Q (.bool b) hp
  | .none => Q .none hp
  | _ => False
def pUn (P : Prg) (n : Nat) (op : UnaryOp) (a : PV) (hp : PHeap) (Q : PV → PHeap → Prop) : Prop := match op with
  | .USub => ∃ i, a = .int i ∧ Q (.int (-i)) hp
  | .Not => pTruth P n a hp fun b hp₂ => Q (.bool (!b)) hp₂
  | _ => False
def pBool (P : Prg) (n : Nat) (r : VC) (sc : Scope) (op : BoolOp) (vs : List Expr) (loc : Loc) (hp : PHeap) (Q : PV → PHeap → Prop) : Prop := match vs with
  | [x, y] => r.E sc x loc hp fun a hp₁ => pTruth P n a hp₁ fun b hp₂ => match op with
    | .And => if b then r.E sc y loc hp₂ Q else Q a hp₂
    | .Or => if b then Q a hp₂ else r.E sc y loc hp₂ Q
  | _ => False
def pCmps (P : Prg) (n : Nat) (r : VC) (sc : Scope) (l : Expr) (ops : List CmpOp) (rs : List Expr) (loc : Loc) (hp : PHeap) (Q : PV → PHeap → Prop) : Prop := match ops, rs with
  | [op], [rr] => behindInMarks op rr = false ∧ r.E sc l loc hp fun a hp₁ => r.E sc rr loc hp₁ fun b hp₂ => pCmp P n op a b hp₂ Q
  | _, _ => False
def pCallE (P : Prg) (n : Nat) (r : VC) (sc : Scope) (f : Expr) (args : List Expr) (kws : List Keyword) (pos : Pos) (loc : Loc) (hp : PHeap) (Q : PV → PHeap → Prop) : Prop := match f with
  | .Attribute o name apos => (baseOk o && args.all notStar && (apos.endLine == pos.line) && kwNamed kws && decide (args.length + kws.length < 20)) = true ∧ r.E sc o loc hp fun ov hp₁ => ∃ f, MethTo P hp₁ ov name f ∧ KeepOk P f ∧
      pEs r sc args loc hp₁ fun vs hp₂ => pKws r sc kws loc hp₂ fun ks hp₃ => Calls P n f (ov :: vs) ks hp₃ Q
  | .Name x px => (args.all notStar && kwNamed kws) = true ∧ r.E sc (.Name x px) loc hp fun f hp₁ => pKeep P f ∧ pEs r sc args loc hp₁ fun vs hp₂ => pKws r sc kws loc hp₂ fun ks hp₃ => pCall P n f vs ks hp₃ Q
  | _ => False
def pSubE (P : Prg) (n : Nat) (r : VC) (sc : Scope) (v i : Expr) (loc : Loc) (hp : PHeap) (Q : PV → PHeap → Prop) : Prop := match i with
  | .Slice l u st _ => st = none ∧ r.E sc v loc hp fun o hp₁ => pOpt r sc l loc hp₁ fun lv hp₂ => pOpt r sc u loc hp₂ fun uv hp₃ => pSlice o lv uv hp₃ Q
  | i => isSlice i = false ∧ r.E sc v loc hp fun o hp₁ => r.E sc i loc hp₁ fun iv hp₂ => pSub P n o iv hp₂ Q
def pGens (r : VC) (sc : Scope) (elt : Expr) (gens : List Comprehension) (inner : Scope) (loc : Loc) (hp : PHeap) (Q : List PV → PHeap → Prop) : Prop := match gens with
  | [⟨t, iter, ifs, a⟩] => a = 0 ∧ pComp r sc elt t iter ifs inner loc hp Q
  | _ => False

def stepE (P : Prg) (n : Nat) (r : VC) (sc : Scope) (e : Expr) (loc : Loc) (hp : PHeap) (Q : PV → PHeap → Prop) : Prop := match e with
  | .Constant c _ _ => pConst c hp Q
  | .Name x _ => pName P sc x loc hp Q
  | .BinOp l op rr _ => r.E sc l loc hp fun a hp₁ => r.E sc rr loc hp₁ fun b hp₂ => pBin op a b hp₂ Q
  | .UnaryOp op x _ => r.E sc x loc hp fun a hp₁ => pUn P n op a hp₁ Q
  | .BoolOp op vs _ => pBool P n r sc op vs loc hp Q
  | .IfExp t a b _ => r.T sc t loc hp fun c hp₁ => if c then r.E sc a loc hp₁ Q else r.E sc b loc hp₁ Q
  | .Compare l ops rs _ => pCmps P n r sc l ops rs loc hp Q
  | .Call f args kws pos => pCallE P n r sc f args kws pos loc hp Q
  | .Subscript v i _ => pSubE P n r sc v i loc hp Q
  | .List es _ => es.all notStar = true ∧ pEs r sc es loc hp fun vs hp₁ => vs.length ≤ sizeLine ∧ ∀ c, hp₁ c = none → Q (.ref c) (upd hp₁ c (.list vs))
  | .Tuple es _ _ => es.all notStar = true ∧ pEs r sc es loc hp fun vs hp₁ => vs.length ≤ sizeLine ∧ ∀ c, hp₁ c = none → Q (.ref c) (upd hp₁ c (.tuple vs))
  | .Attribute o name _ => baseOk o = true ∧ r.E sc o loc hp fun ov hp₁ => pAttr P ov name hp₁ Q
  | .ListComp elt gens inner _ => pGens r sc elt gens inner loc hp fun acc hp₁ => ∀ c, hp₁ c = none → Q (.ref c) (upd hp₁ c (.list acc))
  | _ => False

def pBoolT (r : VC) (sc : Scope) (op : BoolOp) (loc : Loc) (Q : Bool → PHeap → Prop) : List Expr → PHeap → Prop
  | [], hp => Q (match op with | .And => true | .Or => false) hp
  | x :: vs, hp => r.T sc x loc hp fun b hp₁ => match op with
    | .And => if b then pBoolT r sc op loc Q vs hp₁ else Q false hp₁
    | .Or => if b then Q true hp₁ else pBoolT r sc op loc Q vs hp₁

def pCmpsT (P : Prg) (n : Nat) (r : VC) (sc : Scope) (l : Expr) (ops : List CmpOp) (rs : List Expr) (loc : Loc) (hp : PHeap) (Q : Bool → PHeap → Prop) : Prop := match ops, rs with
  | [op], [rr] => behindInMarks op rr = false ∧ r.E sc l loc hp fun a hp₁ => r.E sc rr loc hp₁ fun b hp₂ => pCmp P n op a b hp₂ fun c hp₃ => ∃ bb, c = .bool bb ∧ Q bb hp₃
  | _, _ => False
def pUnT (r : VC) (sc : Scope) (op : UnaryOp) (x : Expr) (loc : Loc) (hp : PHeap) (Q : Bool → PHeap → Prop) : Prop := match op with
  | .Not => r.T sc x loc hp fun b hp₁ => Q (!b) hp₁
  | _ => False
def stepT (P : Prg) (n : Nat) (r : VC) (sc : Scope) (e : Expr) (loc : Loc) (hp : PHeap) (Q : Bool → PHeap → Prop) : Prop := match e with
  | .UnaryOp op x _ => pUnT r sc op x loc hp Q
  | .BoolOp op vs _ => pBoolT r sc op loc Q vs hp
  | .IfExp _ _ _ _ => False
  | .Compare l ops rs _ => pCmpsT P n r sc l ops rs loc hp Q
  | e => r.E sc e loc hp fun a hp₁ => pTruth P n a hp₁ Q

section
variable {P : Prg} {C : Cx} {n : Nat} {g : Heap} {loc : Loc} {hp : PHeap} {s : Shared} {r : VC}

theorem sound_es (R : Sound P n r) (k : Ok P C n) : ∀ (es : List Expr) (hp : PHeap) (Q : List PV → PHeap → Prop), pEs r C.env.scope es loc hp Q → W C loc (spliced ((es.map fun e => eval e C.env).map fun t => (false, t))) hp (fun vs hp' => Q (vs.map pv) hp')
  | [], hp, Q, h => W.splNil h
  | e :: es, hp, Q, h => W.splCons ((R.E C k e loc hp _ h).mono fun v hp₁ q => (sound_es R k es hp₁ _ q).mono fun vs hp₂ q' => q')

theorem kwNamed_all (pos : Pos) (env : Env) : ∀ ks : List Keyword, kwNamed ks = true → (backToKw pos (keywordEach ks env)).all (·.1.isSome) = true
  | [], _ => by rw [keywordEach]; rfl
  | ⟨some x, e, p⟩ :: ks, h => by
    have ek : keywordEach (⟨some x, e, p⟩ :: ks) env = (some x, eval e env) :: keywordEach ks env := by rw [keywordEach]
    rw [ek]
    show (true && (backToKw pos (keywordEach ks env)).all (·.1.isSome)) = true
    rw [kwNamed_all pos env ks h]; rfl
  | ⟨none, _, _⟩ :: _, h => by cases h

theorem sound_kws (R : Sound P n r) (k : Ok P C n) (pos : Pos) : ∀ (ks : List Keyword) (hp : PHeap) (Q : List (Str × PV) → PHeap → Prop), pKws r C.env.scope ks loc hp Q →
    W C loc (evalAll ((backToKw pos (keywordEach ks C.env)).map (·.2))) hp (fun vs hp' => Q ((((backToKw pos (keywordEach ks C.env)).filterMap (·.1)).zip vs).map pvb) hp')
  | [], hp, Q, h => by rw [keywordEach]; exact W.allNil h
  | ⟨some x, e, p⟩ :: ks, hp, Q, h => by
    have ek : keywordEach (⟨some x, e, p⟩ :: ks) C.env = (some x, eval e C.env) :: keywordEach ks C.env := by rw [keywordEach]
    rw [ek]
    have h1 : backToKw pos ((some x, eval e C.env) :: keywordEach ks C.env) = (some x, (do let v ← eval e C.env; standAt pos; pure v)) :: backToKw pos (keywordEach ks C.env) := rfl
    rw [h1]
    have key := fun hp₁ v (q : pKws r C.env.scope ks loc hp₁ fun vs hp₂ => Q ((x, v) :: vs) hp₂) => sound_kws R k pos ks hp₁ _ q
    have hW : W C loc (do let v ← eval e C.env; standAt pos; pure v) hp (fun v hp₁ => pKws r C.env.scope ks loc hp₁ fun vs hp₂ => Q ((x, pv v) :: vs) hp₂) :=
      W.bind ((R.E C k e loc hp _ h).mono fun v hp₁ q => W.bind (W.stand (W.unit q)))
    exact W.allCons (hW.mono fun v hp₁ q => (key hp₁ (pv v) q).mono fun vs hp₂ q' => q')
  | ⟨none, _, _⟩ :: _, _, _, h => h.elim

theorem W.truth {v : Value} {Q : Bool → PHeap → Prop} (h : pTruth P n (pv v) hp Q) : W C loc (truthy v) hp Q := by
  intro g s r
  unfold pTruth at h
  split at h
  · rename_i e; cases pv_none e; exact truthy_none ⟨hp, r, h⟩
  · rename_i e; cases pv_bool e; exact wpAny_truthy_bool ⟨hp, r, h⟩
  · rename_i e; obtain ⟨t, rfl⟩ := pv_int e; exact PyProof.Rows.truthy_int ⟨hp, r, by simpa [bne, BEq.beq] using h⟩
  · rename_i x e; obtain ⟨t, rfl⟩ := pv_str e
    exact PySem.P.truthy_str (by omega) ⟨hp, r.toks _, by have e : ((x.length : Int) != 0) = decide (x.length ≠ 0) := (by rw [Bool.eq_iff_iff]; simp); rw [e]; exact h.2⟩
  · rename_i a e; cases pv_ref e
    obtain ⟨xs, h1, h2, h3⟩ := h
    obtain ⟨vs, hl, rfl⟩ := r.isList h1
    rw [List.length_map] at h2
    refine wpAny_truthy_list hl (by simp only [List.size_toArray]; omega) ⟨hp, r.toks _, ?_⟩
    have e : vs.toArray.isEmpty = (vs.map pv).isEmpty := by cases vs <;> simp
    rw [e]; exact h3
  · exact h.elim

theorem set_notSet {iter : Expr} (h : notSet iter = true) (env : Env) : ∀ x, foldedSetIterable iter env x = pure x := by
  intro x
  unfold foldedSetIterable
  split
  · simp [notSet] at h
  · rfl

theorem WL.stores (k : Ok P C n) {Q : Loc → PHeap → Prop} : ∀ (es : List Expr) (vs : List Value) (loc : Loc), pStores C.env.scope es (vs.map pv) loc (fun l => Q l hp) → (assignEach es C.env).findIdx? (·.1) = none ∧ (assignEach es C.env).length = vs.length ∧
    WL C (assignInOrder ((assignEach es C.env).map (·.2)) vs) loc hp (fun _ => Q) := by
  intro es
  induction es with
  | nil =>
    intro vs loc h
    cases vs with
    | nil => exact ⟨by rw [assignEach]; rfl, by rw [assignEach]; rfl, by rw [assignEach]; exact WL.unit h⟩
    | cons v vs => exact h.elim
  | cons e es ih =>
    intro vs loc h
    cases vs with
    | nil => exact h.elim
    | cons v vs =>
      obtain ⟨x, hx, hk, h'⟩ := h
      obtain ⟨px, rfl⟩ := nameOf_eq hx
      have e : assignEach (.Name x px :: es) C.env = (false, assign (.Name x px) C.env) :: assignEach es C.env := by with_unfolding_all rfl
      obtain ⟨i1, i2, i3⟩ := ih vs _ h'
      rw [e]
      refine ⟨?_, by simp [i2], ?_⟩
      · rw [List.findIdx?_cons]; simp [i1]
      · show WL C (do (holding vs (assign (.Name x px) C.env v)); assignInOrder ((assignEach es C.env).map (·.2)) vs) loc hp _
        refine WL.bind ?_
        intro g s r
        refine wpAny_holding ?_
        exact wpAny_assign_Name (WL.store (Q := fun l h => WL C (assignInOrder ((assignEach es C.env).map (·.2)) vs) l h (fun _ => Q)) k ⟨hk, i3⟩ g s r)

theorem WL.assign_ {t : Expr} {v : Value} {Q : Loc → PHeap → Prop} (k : Ok P C n) (h : pAssign C.env.scope t (pv v) loc hp (fun l => Q l hp)) : WL C (assign t C.env v) loc hp (fun _ => Q) := by
  unfold pAssign at h
  split at h
  · intro g s r; exact wpAny_assign_Name (WL.store k h g s r)
  · rename_i es kk pos
    split at h
    · rename_i a e
      cases pv_ref e
      obtain ⟨xs, h1, h2⟩ := h
      intro g s r
      obtain ⟨vs, ht, rfl⟩ := r.isTuple h1
      obtain ⟨i1, i2, i3⟩ := WL.stores k es vs loc h2
      refine wpAny_assign_Tuple k.hh ht (by simpa using i2) i1 fun h' hk => ?_
      refine i3 g _ ?_
      have := r.grown (h' := h') (tk := s.toks) (Kp.of fun b o e => hk b o (Nat.ne_of_lt (Heap.lt_size e)) e)
      exact this
    · exact h.elim
  · exact h.elim

end
end Hd

namespace Hd
section
variable {P : Prg} {C : Cx} {n : Nat} {g : Heap} {loc : Loc} {hp : PHeap} {s : Shared} {r : VC}

theorem W.lift2 {t : Sem Value} {l rr : Sem Value} {op : Value → Value → Sem Value} {Q : Value → PHeap → Prop}
    (hw : ∀ g s, Rep C g loc hp s → wpAny (model C.prog C.w) C.A l (fun a s₁ => wpAny (model C.prog C.w) C.A rr (fun b s₂ => wpAny (model C.prog C.w) C.A (op a b) (fun v s' => ∃ hp', Rep C g loc hp' s' ∧ Q v hp') (fun _ _ => False) s₂) (fun _ _ => False) s₁) (fun _ _ => False) s →
      wpAny (model C.prog C.w) C.A t (fun v s' => ∃ hp', Rep C g loc hp' s' ∧ Q v hp') (fun _ _ => False) s)
    (h : W C loc l hp (fun a hp₁ => W C loc rr hp₁ (fun b hp₂ => W C loc (op a b) hp₂ Q))) : W C loc t hp Q :=
  fun g s r => hw g s r (wpAny_mono (h g s r) (fun _ s₁ ⟨_, r₁, q⟩ => wpAny_mono (q g s₁ r₁) (fun _ s₂ ⟨_, r₂, q'⟩ => q' g s₂ r₂) fun _ _ x => x) fun _ _ x => x)

theorem W.cmp {op : CmpOp} {a b : Value} {Q : PV → PHeap → Prop} (k : Ok P C n) (h : pCmp P n op (pv a) (pv b) hp Q) : W C loc (compareOp op a b) hp (fun v hp' => Q (pv v) hp') := by
  unfold pCmp at h
  split at h
  · unfold pIn at h
    split at h
    · rename_i e; cases pv_ref e
      obtain ⟨c, d, es, f, h1, h2, h3, h4⟩ := h
      exact W.inI k h3 h1 h2 h4
    · exact h.elim
  · unfold pIn at h
    split at h
    · rename_i e; cases pv_ref e
      obtain ⟨c, d, es, f, h1, h2, h3, h4⟩ := h
      exact W.notInI k h3 h1 h2 h4
    · exact h.elim
  · exact W.cmp0 h

theorem W.sub {value slice : Expr} {o i : Value} {Q : PV → PHeap → Prop} (k : Ok P C n) (hsl : isSlice slice = false) (h : pSub P n (pv o) (pv i) hp Q) : W C loc (subscriptTail value slice o i) hp (fun v hp' => Q (pv v) hp') := by
  unfold pSub at h
  split at h
  · rename_i a e
    cases pv_ref e
    split at h
    · rename_i c d e1
      obtain ⟨es, f, m, rfl, h1, h2, h3⟩ := h
      refine W.subI k h2 e1 h1 (fun o i => ?_) h3
      unfold subscripted
      split
      · simp [isSlice] at hsl
      · rfl
      · contradiction
    · exact W.item h
  · exact W.item h

theorem W.opt (R : Sound P n r) (k : Ok P C n) {e : Option Expr} {Q : PV → PHeap → Prop} (h : pOpt r C.env.scope e loc hp Q) : W C loc (evalPart e C.env) hp (fun v hp' => Q (pv v) hp') := by
  cases e with
  | none => rw [evalPart_none]; exact W.unit h
  | some e => rw [evalPart_some]; exact R.E C k e loc hp Q h

theorem W.tests (R : Sound P n r) (k : Ok P C n) {ifs : List Expr} {Q : Bool → PHeap → Prop} (h : pTests r C.env.scope ifs loc hp Q) : W C loc (testsOf ifs C.env) hp Q := by
  unfold pTests at h
  unfold testsOf
  split at h
  · rw [List.forIn_nil]; exact W.unit h
  · intro g s rr; exact wpAny_tests_one (R.T C k _ loc hp Q h g s rr)
  · exact h.elim

theorem eltOk (R : Sound P n r) {inner : Scope} {t iter : Expr} {ifs : List Expr} {elt : Expr} (hc : compOkB C.env.scope inner t iter = true) : EltOk P n C inner loc t ifs elt (compSem r C.env.scope inner t ifs elt loc) := by
  intro cl L' v hp K k h val hv
  subst hv
  unfold compOkB at hc
  simp only [Bool.and_eq_true] at hc
  have hsc : (compCx C inner cl L').env.scope = relS inner C.env.scope := rfl
  unfold compSem at h
  rw [← hsc] at h
  have h' : pAssign (compCx C inner cl L').env.scope t (pv val) (compLoc inner loc) hp (fun l => (∀ x, inner.names.lookup x = some .free → l x = loc x) ∧ pTests r (compCx C inner cl L').env.scope ifs l hp fun ok h₁ => if ok = true then r.E (compCx C inner cl L').env.scope elt l h₁ fun y h₂ => K (some y) h₂ else K none h₁) := by
    have key : ∀ x, inner.names.lookup x = some .free → x ∉ tgtNames t := fun x hx hm => by
      have := List.all_eq_true.mp hc.2 x hm
      rw [hx] at this; simp at this
    unfold pAssign at h ⊢
    split at h
    · rename_i y py
      refine ⟨h.1, fun x hx => ?_, h.2⟩
      have : x ≠ y := fun e => key x hx (by simp [tgtNames, e])
      unfold setL compLoc; rw [if_neg this, if_pos hx]
    · split at h
      · obtain ⟨xs, h1, h2⟩ := h
        refine ⟨xs, h1, ?_⟩
        have gen : ∀ (es : List Expr) (vs : List PV) (l₀ : Loc) (Q : Loc → Prop), (∀ x, inner.names.lookup x = some .free → x ∉ (es.filterMap nameOf)) → (∀ x, inner.names.lookup x = some .free → l₀ x = loc x) → pStores (compCx C inner cl L').env.scope es vs l₀ Q →
            pStores (compCx C inner cl L').env.scope es vs l₀ (fun l => (∀ x, inner.names.lookup x = some .free → l x = loc x) ∧ Q l) := by
          intro es
          induction es with
          | nil => intro vs l₀ Q _ hl hh; cases vs with
            | nil => exact ⟨hl, hh⟩
            | cons v vs => exact hh.elim
          | cons e es ih =>
            intro vs l₀ Q hn hl hh
            cases vs with
            | nil => exact hh.elim
            | cons v vs =>
            obtain ⟨y, hy, hk, hh⟩ := hh
            obtain ⟨py, rfl⟩ := nameOf_eq hy
            refine ⟨y, hy, hk, ih vs _ Q (fun x hx hm => hn x hx (by simp only [List.filterMap_cons, nameOf, List.mem_cons]; exact .inr hm)) (fun x hx => ?_) hh⟩
            have : x ≠ y := fun e => hn x hx (by simp only [List.filterMap_cons, nameOf, List.mem_cons]; exact .inl e)
            unfold setL; rw [if_neg this]; exact hl x hx
        exact gen _ _ _ _ (fun x hx => key x hx) (fun x hx => by unfold compLoc; rw [if_pos hx]) h2
      · exact h.elim
    · exact h.elim
  refine (WL.assign_ k (Q := fun l h => (∀ x, inner.names.lookup x = some .free → l x = loc x) ∧ pTests r (compCx C inner cl L').env.scope ifs l h fun ok h₁ => if ok = true then r.E (compCx C inner cl L').env.scope elt l h₁ fun y h₂ => K (some y) h₂ else K none h₁) h').mono fun _ l h₁ q => ⟨q.1, (W.tests R k q.2).mono fun ok h₂ q₂ => ?_⟩
  cases ok with
  | true => simp only [if_true] at q₂ ⊢; exact R.E _ k elt l h₂ _ q₂
  | false => simpa using q₂

theorem soundE (R : Sound P n r) (k : Ok P C n) (e : Expr) (loc : Loc) (hp : PHeap) (Q : PV → PHeap → Prop) (h : stepE P n r C.env.scope e loc hp Q) : W C loc (eval e C.env) hp (fun v hp' => Q (pv v) hp') := by
  unfold stepE at h
  split at h
  · unfold pConst at h
    split at h
    · exact fun g s rr => wpAny_Constant_int ⟨hp, rr.toks _, h⟩
    · exact fun g s rr => wpAny_Constant_str ⟨hp, rr.toks _, h⟩
    · exact fun g s rr => wpAny_Constant_bool ⟨hp, rr, h⟩
    · exact fun g s rr => wpAny_Constant_none ⟨hp, rr, h⟩
    · exact h.elim
  · exact W.name k h
  · exact W.lift2 (fun g s _ w => wpAny_BinOp w) ((R.E C k _ loc hp _ h).mono fun a hp₁ q => (R.E C k _ loc hp₁ _ q).mono fun b hp₂ q' => W.bin q')
  · intro g s rr
    refine wpAny_UnaryOp (wpAny_mono (R.E C k _ loc hp _ h g s rr) (fun v s₁ ⟨hp₁, r₁, q⟩ => ?_) fun _ _ x => x)
    unfold pUn at q
    split at q
    · obtain ⟨i, e, q⟩ := q
      obtain ⟨t, rfl⟩ := pv_int e
      exact PyProof.Rows.neg_int ⟨hp₁, r₁.toks _, q⟩
    · exact not_of (W.truth q g s₁ r₁)
    · exact q.elim
  · rename_i op vs pos
    unfold pBool at h
    split at h
    · rename_i x y
      intro g s rr
      rw [arm_eval_BoolOp]
      have ev : evalEach [x, y] C.env = [eval x C.env, eval y C.env] := by rw [evalEach, evalEach, evalEach]
      rw [ev]
      cases op with
      | And =>
        refine IsLeap.wpAny_and2 (wpAny_mono (R.E C k _ loc hp _ h g s rr) (fun v s₁ ⟨hp₁, r₁, q⟩ => wpAny_mono (W.truth q g s₁ r₁) (fun b s₂ ⟨hp₂, r₂, q₂⟩ => ?_) fun _ _ x => x) fun _ _ x => x)
        cases b with
        | true => simp only [if_true] at q₂ ⊢; exact R.E C k _ loc hp₂ Q q₂ g s₂ r₂
        | false => simp only [Bool.false_eq_true, if_false] at q₂ ⊢; exact ⟨hp₂, r₂, q₂⟩
      | Or =>
        refine IsLeap.wpAny_or2 (wpAny_mono (R.E C k _ loc hp _ h g s rr) (fun v s₁ ⟨hp₁, r₁, q⟩ => wpAny_mono (W.truth q g s₁ r₁) (fun b s₂ ⟨hp₂, r₂, q₂⟩ => ?_) fun _ _ x => x) fun _ _ x => x)
        cases b with
        | false => simp only [Bool.false_eq_true, if_false] at q₂ ⊢; exact R.E C k _ loc hp₂ Q q₂ g s₂ r₂
        | true => simp only [if_true] at q₂ ⊢; exact ⟨hp₂, r₂, q₂⟩
    · exact h.elim
  · intro g s rr
    refine wpAny_IfExp (wpAny_mono (R.T C k _ loc hp _ h g s rr) (fun b s₁ ⟨hp₁, r₁, q⟩ => ?_) fun _ _ x => x)
    cases b with
    | true => simp only [if_true] at q ⊢; exact R.E C k _ loc hp₁ Q q g s₁ r₁
    | false => simp only [Bool.false_eq_true, if_false] at q ⊢; exact R.E C k _ loc hp₁ Q q g s₁ r₁
  · unfold pCmps at h
    split at h
    rotate_left
    · exact h.elim
    exact W.lift2 (fun g s _ w => wpAny_Compare1 w h.1) ((R.E C k _ loc hp _ h.2).mono fun a hp₁ q => (R.E C k _ loc hp₁ _ q).mono fun b hp₂ q' => W.cmp k q')
  · rename_i f args kws pos
    unfold pCallE at h
    split at h
    · rename_i o name apos
      obtain ⟨hc, h⟩ := h
      simp only [Bool.and_eq_true, decide_eq_true_eq] at hc
      refine W.callM k hc.1.1.1.1 hc.1.1.1.2 (kwNamed_all pos _ kws hc.1.2) hc.1.1.2 hc.2 ((R.E C k o loc hp _ h).mono fun ov hp₁ q => ?_)
      obtain ⟨f, hm, hk, q⟩ := q
      refine ⟨f, hm, hk, (sound_es R k args hp₁ _ q).mono fun vs hp₂ q₂ => (sound_kws R k pos kws hp₂ _ q₂).mono fun ks hp₃ q₃ => ?_⟩
      exact q₃ C k loc (ov :: vs) _ rfl rfl
    · rename_i x px
      obtain ⟨hc, h⟩ := h
      simp only [Bool.and_eq_true] at hc
      refine W.call k hc.1 (kwNamed_all pos _ kws hc.2) ((R.E C k _ loc hp _ h).mono fun f hp₁ q => ?_)
      obtain ⟨hk, q⟩ := q
      have hf : KeepOk P f ∧ ∀ args kw hp Q, pCall P n (pv f) args kw hp Q → Calls P n f args kw hp Q := by
        cases f <;> first | exact hk.elim | skip
        · exact ⟨.inr (.inl ⟨_, rfl⟩), fun _ _ _ _ h => h⟩
        · exact ⟨.inl ⟨_, rfl⟩, fun _ _ _ _ h => h⟩
        · exact ⟨.inr (.inr hk), fun _ _ _ _ h => h⟩
      refine ⟨hf.1, (sound_es R k args hp₁ _ q).mono fun vs hp₂ q₂ => (sound_kws R k pos kws hp₂ _ q₂).mono fun ks hp₃ q₃ => ?_⟩
      exact hf.2 _ _ _ _ q₃ C k loc vs _ rfl rfl
    · exact h.elim
  · unfold pSubE at h
    split at h
    · obtain ⟨rfl, h⟩ := h
      exact W.slice ((R.E C k _ loc hp _ h).mono fun o hp₁ q => (W.opt R k q).mono fun l hp₂ q₂ => (W.opt R k q₂).mono fun u hp₃ q₃ => q₃)
    · exact W.subscript ((R.E C k _ loc hp _ h.2).mono fun o hp₁ q => (R.E C k _ loc hp₁ _ q).mono fun i hp₂ q₂ => W.sub k h.1 q₂)
  · rename_i es pos
    intro g s rr
    refine wpAny_List_spliced ?_
    rw [starEach_plain pos C.env es h.1, map_map']
    refine wpAny_mono (sound_es R k es hp _ h.2 g s rr) (fun vs s₁ ⟨hp₁, r₁, q⟩ => ⟨by have := q.1; rwa [List.length_map] at this, ?_⟩) fun _ _ x => x
    obtain ⟨hn, r₂⟩ := r₁.alloc (tk := s₁.toks) (po := .list (vs.map pv)) (get?_size _) (Kp.of fun b o e => Heap.get?_push_of_some _ e) (Heap.get?_push_size _ rfl) ⟨_, _, rfl, rfl⟩
    exact ⟨_, r₂, q.2 _ hn⟩
  · rename_i es kk pos
    intro g s rr
    refine wpAny_Tuple_spliced ?_
    rw [starEach_plain pos C.env es h.1, map_map']
    refine wpAny_mono (sound_es R k es hp _ h.2 g s rr) (fun vs s₁ ⟨hp₁, r₁, q⟩ => ⟨by have := q.1; rwa [List.length_map] at this, ?_⟩) fun _ _ x => x
    obtain ⟨hn, r₂⟩ := r₁.alloc (tk := s₁.toks) (po := .tuple (vs.map pv)) (get?_size _) (Kp.of fun b o e => Heap.get?_push_of_some _ e) (Heap.get?_push_size _ rfl) ⟨_, _, rfl, rfl⟩
    exact ⟨_, r₂, q.2 _ hn⟩
  · refine W.attr h.1 ((R.E C k _ loc hp _ h.2).mono fun ov hp₁ q => ?_)
    unfold pAttr at q
    split at q
    · rename_i a e; cases pv_ref e
      obtain ⟨c, d, es, v, h1, h2, h3, h4, h5, h6, h7⟩ := q
      exact W.getattr k h3 h1 h2 h5 h6 h4 h7
    · exact q.elim
  · unfold pGens at h
    split at h
    rotate_left
    · exact h.elim
    obtain ⟨rfl, hc, h⟩ := h
    have hc' := hc
    unfold compOkB at hc'
    simp only [Bool.and_eq_true] at hc'
    exact W.listComp k hc'.1.1 (set_notSet hc'.1.2 _) (eltOk R hc) ((R.E C k _ loc hp _ h).mono fun v hp₁ q => q)
  · exact h.elim

theorem sound_bools (R : Sound P n r) (k : Ok P C n) (op : BoolOp) (Q : Bool → PHeap → Prop) : ∀ (vs : List Expr) (hp : PHeap) (g : Heap) (s : Shared), Rep C g loc hp s → pBoolT r C.env.scope op loc Q vs hp →
    wpAny (model C.prog C.w) C.A (allTrue op vs C.env) (fun b s' => ∃ hp', Rep C g loc hp' s' ∧ Q b hp') (fun _ _ => False) s := by
  intro vs
  induction vs with
  | nil =>
    intro hp g s rr h
    cases op with
    | And => exact wpAny_allTrue_And_nil ⟨hp, rr, h⟩
    | Or => exact wpAny_allTrue_Or_nil ⟨hp, rr, h⟩
  | cons x vs ih =>
    intro hp g s rr h
    cases op with
    | And =>
      refine wpAny_allTrue_And_cons (wpAny_mono (R.T C k _ loc hp _ h g s rr) (fun b s₁ ⟨hp₁, r₁, q⟩ => ?_) fun _ _ x => x)
      cases b with
      | false => simp only [Bool.false_eq_true, if_false] at q ⊢; exact ⟨hp₁, r₁, q⟩
      | true => simp only [if_true] at q ⊢; exact ih hp₁ g s₁ r₁ q
    | Or =>
      refine wpAny_allTrue_Or_cons (wpAny_mono (R.T C k _ loc hp _ h g s rr) (fun b s₁ ⟨hp₁, r₁, q⟩ => ?_) fun _ _ x => x)
      cases b with
      | true => simp only [if_true] at q ⊢; exact ⟨hp₁, r₁, q⟩
      | false => simp only [Bool.false_eq_true, if_false] at q ⊢; exact ih hp₁ g s₁ r₁ q
theorem soundT (R : Sound P n r) (k : Ok P C n) (e : Expr) (loc : Loc) (hp : PHeap) (Q : Bool → PHeap → Prop) (h : stepT P n r C.env.scope e loc hp Q) : W C loc (isTrue e C.env (eval e C.env)) hp Q := by
  unfold stepT at h
  split at h
  · unfold pUnT at h
    split at h
    · exact fun g s rr => wpAny_isTrue_Not (R.T C k _ loc hp _ h g s rr)
    · exact h.elim
  · exact fun g s rr => wpAny_isTrue_BoolOp (sound_bools R k _ Q _ hp g s rr h)
  · exact h.elim
  · unfold pCmpsT at h
    split at h
    rotate_left
    · exact h.elim
    intro g s rr
    refine wpAny_isTrue_Compare1 (wpAny_mono (R.E C k _ loc hp _ h.2 g s rr) (fun a s₁ ⟨hp₁, r₁, q⟩ => wpAny_mono (R.E C k _ loc hp₁ _ q g s₁ r₁) (fun b s₂ ⟨hp₂, r₂, q₂⟩ => wpAny_mono (W.cmp k q₂ g s₂ r₂) (fun c s₃ ⟨hp₃, r₃, bb, e, q₃⟩ => ?_) fun _ _ x => x) fun _ _ x => x) fun _ _ x => x) h.1
    cases pv_bool e
    exact wpAny_truthy_bool ⟨hp₃, r₃, q₃⟩
  · rename_i n1 n2 n3 n4
    intro g s rr
    refine wpAny_isTrue_value (wpAny_mono (R.E C k _ loc hp _ h g s rr) (fun v s₁ ⟨hp₁, r₁, q⟩ => W.truth q g s₁ r₁) fun _ _ x => x) ?_
    cases e <;> first | (with_unfolding_all rfl) | exact (n1 _ _ _ rfl).elim | exact (n2 _ _ _ rfl).elim | exact (n3 _ _ _ _ rfl).elim | exact (n4 _ _ _ _ rfl).elim
end
end Hd

namespace Hd

def pSetItem (P : Prg) (n : Nat) (o i v : PV) (hp : PHeap) (Q : PHeap → Prop) : Prop := match o with
  | .ref a => match hp a with
    | some (.inst c d) => ∃ es f, hp d = some (.attrs es) ∧ ClsOk P c ∧ HasMeth P c (Str.ofString "__setitem__") f ∧ Calls P n (.ref f) [.ref a, i, v] [] hp (fun _ => Q)
    | _ => False
  | _ => False
def pDelItem (P : Prg) (n : Nat) (o i : PV) (hp : PHeap) (Q : PHeap → Prop) : Prop := match o with
  | .ref a => match hp a with
    | some (.inst c d) => ∃ es f, hp d = some (.attrs es) ∧ ClsOk P c ∧ HasMeth P c (Str.ofString "__delitem__") f ∧ Calls P n (.ref f) [.ref a, i] [] hp (fun _ => Q)
    | _ => False
  | _ => False
def pSetAll (o v : PV) (hp : PHeap) (Q : PHeap → Prop) : Prop := match o, v with
  | .ref a, .ref b => ∃ xs ys, a ≠ b ∧ hp a = some (.list xs) ∧ lst hp b = some ys ∧ xs.length + ys.length ≤ sizeLine ∧ Q (upd hp a (.list ys))
  | _, _ => False
def pSetAttr (P : Prg) (o : PV) (name : Str) (v : PV) (hp : PHeap) (Q : PHeap → Prop) : Prop := match o with
  | .ref a => ∃ c d, hp a = some (.inst c d) ∧ hp d = some (.attrs []) ∧ ClsOk P c ∧ takerIn P.K c name = some none ∧ Q (upd hp d (.attrs [(name, v)]))
  | _ => False

def isComp : Expr → Bool
  | .ListComp .. | .SetComp .. | .DictComp .. => true
  | _ => false

/-- the store goes into the block -/
def swapB (sc : Scope) (x : Str) (px : Pos) (inner : Scope) (pos : Pos) : Bool := sc.names.lookup x == some .local && px.line == pos.line && !(inner.names.any fun (n, k) => n == x && (k == .local || k == .cell))

def pAsgN (P : Prg) (n : Nat) (r : VC) (sc : Scope) (x : Str) (px : Pos) (e : Expr) (loc : Loc) (hp : PHeap) (Q : PF → Loc → PHeap → Prop) : Prop := match e with
  | .ListComp elt gens inner pos =>
      if swapB sc x px inner pos = true then pGens r sc elt gens inner loc hp fun acc hp₁ => ∀ c, hp₁ c = none → pStore sc x (.ref c) loc fun l => Q .next l (upd hp₁ c (.list acc))
      else r.E sc (.ListComp elt gens inner pos) loc hp fun v hp₁ => pStore sc x v loc fun l => Q .next l hp₁
  | e => isComp e = false ∧ r.E sc e loc hp fun v hp₁ => pStore sc x v loc fun l => Q .next l hp₁
def pAsgS (P : Prg) (n : Nat) (r : VC) (sc : Scope) (o i e : Expr) (loc : Loc) (hp : PHeap) (Q : PF → Loc → PHeap → Prop) : Prop := match i with
  | .Slice l u st _ => l = none ∧ u = none ∧ st = none ∧ r.E sc e loc hp fun v hp₁ => r.E sc o loc hp₁ fun ov hp₂ => pSetAll ov v hp₂ fun hp₃ => Q .next loc hp₃
  | i => r.E sc e loc hp fun v hp₁ => r.E sc o loc hp₁ fun ov hp₂ => r.E sc i loc hp₂ fun iv hp₃ => pSetItem P n ov iv v hp₃ fun hp₄ => Q .next loc hp₄
def pAsg1 (P : Prg) (n : Nat) (r : VC) (sc : Scope) (t e : Expr) (loc : Loc) (hp : PHeap) (Q : PF → Loc → PHeap → Prop) : Prop := match t with
  | .Name x px => pAsgN P n r sc x px e loc hp Q
  | .Subscript o i _ => pAsgS P n r sc o i e loc hp Q
  | .Attribute o name _ => isComp e = false ∧ r.E sc e loc hp fun v hp₁ => r.E sc o loc hp₁ fun ov hp₂ => pSetAttr P ov name v hp₂ fun hp₃ => Q .next loc hp₃
  | _ => False
def pAsg (P : Prg) (n : Nat) (r : VC) (sc : Scope) (ts : List Expr) (e : Expr) (loc : Loc) (hp : PHeap) (Q : PF → Loc → PHeap → Prop) : Prop := match ts with
  | [t] => pAsg1 P n r sc t e loc hp Q
  | _ => False
def pAugS (P : Prg) (r : VC) (sc : Scope) (t : Expr) (op : Operator) (e : Expr) (loc : Loc) (hp : PHeap) (Q : PF → Loc → PHeap → Prop) : Prop := match t with
  | .Name x _ => x ≠ Str.ofString "__debug__" ∧ pName P sc x loc hp fun old hp₁ => r.E sc e loc hp₁ fun v hp₂ => pAug op old v hp₂ fun w hp₃ => pStore sc x w loc fun l => Q .next l hp₃
  | _ => False
def pDel1 (P : Prg) (n : Nat) (r : VC) (sc : Scope) (t : Expr) (loc : Loc) (hp : PHeap) (Q : PF → Loc → PHeap → Prop) : Prop := match t with
  | .Subscript o i _ => r.E sc o loc hp fun ov hp₁ => r.E sc i loc hp₁ fun iv hp₂ => pDelItem P n ov iv hp₂ fun hp₃ => Q .next loc hp₃
  | _ => False
def pDelS (P : Prg) (n : Nat) (r : VC) (sc : Scope) (ts : List Expr) (loc : Loc) (hp : PHeap) (Q : PF → Loc → PHeap → Prop) : Prop := match ts with
  | [t] => pDel1 P n r sc t loc hp Q
  | _ => False
def pRet (r : VC) (sc : Scope) (e : Option Expr) (loc : Loc) (hp : PHeap) (Q : PF → Loc → PHeap → Prop) : Prop := match e with
  | none => Q (.ret .none) loc hp
  | some e => r.E sc e loc hp fun v hp₁ => Q (.ret v) loc hp₁

def pX (P : Prg) (n : Nat) (r : VC) (sc : Scope) (st : Stmt) (loc : Loc) (hp : PHeap) (Q : PF → Loc → PHeap → Prop) : Prop := match st with
  | .Expr e _ => isComp e = false ∧ r.E sc e loc hp fun _ hp₁ => Q .next loc hp₁
  | .Pass _ => Q .next loc hp
  | .Break _ => Q .brk loc hp
  | .Continue _ => Q .cont loc hp
  | .Return e _ => pRet r sc e loc hp Q
  | .Assign ts e _ => pAsg P n r sc ts e loc hp Q
  | .AugAssign t op e _ => pAugS P r sc t op e loc hp Q
  | .If t b o _ => r.T sc t loc hp fun c hp₁ => if c then r.S sc b loc hp₁ Q else r.S sc o loc hp₁ Q
  | .For t iter body orelse _ => orelse = [] ∧ notSet iter = true ∧ r.E sc iter loc hp fun v hp₁ => ∃ xs, iterItems hp₁ v = some xs ∧ rangeFits hp₁ v ∧
      forL (fun v loc hp K => pAssign sc t v loc hp fun l => r.S sc body l hp K) (fun hp' => SrcSame hp₁ hp' v) Q xs loc hp₁
  | .While t body orelse _ => orelse = [] ∧ ∃ m, whileL (fun loc hp K => r.T sc t loc hp K) (fun loc hp K => r.S sc body loc hp K) Q m loc hp
  | .Delete ts _ => pDelS P n r sc ts loc hp Q
  | _ => False

def stepS (P : Prg) (n : Nat) (r : VC) (sc : Scope) : List Stmt → Loc → PHeap → (PF → Loc → PHeap → Prop) → Prop
  | [], loc, hp, Q => Q .next loc hp
  | st :: rest, loc, hp, Q => pX P n r sc st loc hp fun fl l h => match fl with
    | .next => stepS P n r sc rest l h Q
    | .brk => Q .brk l h
    | .cont => Q .cont l h
    | .ret v => Q (.ret v) l h

section
variable {P : Prg} {C : Cx} {n : Nat} {g : Heap} {loc : Loc} {hp : PHeap} {s : Shared} {r : VC}

theorem swaps_no {e : Expr} (h : isComp e = false) (t : Option Expr) (line : Nat) (env : Env) : swapsWith e t line env = pure false := by
  unfold swapsWith
  cases e <;> first | rfl | (simp [isComp] at h)

theorem swaps_other (e o i : Expr) (p : Pos) (line : Nat) (env : Env) : swapsWith e (some (.Subscript o i p)) line env = pure false := by
  unfold swapsWith
  cases e <;> rfl

theorem W.loadn {x : Str} {Q : PV → PHeap → Prop} (k : Ok P C n) (hd : x ≠ Str.ofString "__debug__") (h : pName P C.env.scope x loc hp Q) : W C loc (loadName C.env x) hp (fun v hp' => Q (pv v) hp') := by
  unfold pName at h
  rw [if_neg hd] at h
  obtain ⟨hc, h⟩ := h
  have hc : (x == ("__classdict__" : Str)) = false := beq_eq_false_iff_ne.mpr hc
  intro g s r
  split at h
  · rename_i hx
    obtain ⟨v, hv, q⟩ := h
    obtain ⟨m, n1, n2⟩ := r.ns
    have e := n2 x hx v hv
    cases q' : m x with
    | none => rw [q'] at e; cases e
    | some u => rw [q'] at e; cases e; exact wpAny_loadName_local k.kind hx n1 q' ⟨hp, r, q⟩
  · rename_i hx
    obtain ⟨v, hv, q⟩ := h
    obtain ⟨c, ec⟩ := Option.isSome_iff_exists.mp (k.hc x (.inl hx))
    obtain ⟨u, h1, h2⟩ := r.cells x c ec
    have h2 := h2 v hv
    cases u with
    | none => cases h2
    | some u => cases h2; exact wpAny_loadName_cell k.kind hx ec h1 ⟨hp, r, q⟩
  · rename_i hx
    obtain ⟨v, hv, q⟩ := h
    obtain ⟨c, ec⟩ := Option.isSome_iff_exists.mp (k.hc x (.inr hx))
    obtain ⟨u, h1, h2⟩ := r.cells x c ec
    have h2 := h2 v hv
    cases u with
    | none => cases h2
    | some u => cases h2; exact wpAny_loadName_free k.kind hx ec h1 ⟨hp, r, q⟩ hc
  · rename_i hx
    obtain ⟨v, hv, q⟩ := h
    have hx : C.env.kindOf x = some .globalImplicit := hx
    unfold loadName
    simp only [Env.blockKind, k.kind, hx, ScopeKind.isAnnotationScope, Bool.false_and, Bool.false_eq_true, if_false]
    unfold gl at hv
    have hg : s.heap.Ns C.env.globals P.mg := by rw [k.glob]; exact k.mg.keeps r.keep
    have hb : s.heap.Ns C.env.builtins P.mb := by rw [k.bui]; exact k.mb.keeps r.keep
    cases q' : P.mg x with
    | some u => rw [q'] at hv; cases hv; exact Calls.loadGlobal_global hg q' ⟨hp, r, q⟩
    | none =>
      rw [q'] at hv
      cases q'' : P.mb x with
      | none => rw [q''] at hv; cases hv
      | some u => rw [q''] at hv; cases hv; exact Calls.loadGlobal_builtin hg q' hb q'' ⟨hp, r, q⟩
  · exact h.elim

theorem sound_x (R : Sound P n r) (k : Ok P C n) (st : Stmt) (loc : Loc) (hp : PHeap) (Q : PF → Loc → PHeap → Prop) (h : pX P n r C.env.scope st loc hp Q) : WL C (exec st C.env) loc hp (fun fl l h => Q (pf fl) l h) := by
  unfold pX at h
  split at h
  · intro g s rr
    exact wpAny_Expr_any (wpAny_mono (R.E C k _ loc hp _ h.2 g s rr) (fun v s₁ ⟨hp₁, r₁, q⟩ => ⟨loc, hp₁, r₁, q⟩) fun _ _ x => x) (by unfold interactive; rw [k.kind]; rfl) (swaps_no h.1 _ _ _)
  · exact fun g s rr => wpAny_Pass ⟨loc, hp, rr, h⟩
  · exact fun g s rr => wpAny_Break ⟨loc, hp, rr, h⟩
  · exact fun g s rr => wpAny_Continue ⟨loc, hp, rr, h⟩
  · unfold pRet at h
    split at h
    · exact fun g s rr => wpAny_Return_none ⟨loc, hp, rr, h⟩
    · exact fun g s rr => wpAny_Return_some (wpAny_mono (R.E C k _ loc hp _ h g s rr) (fun v s₁ ⟨hp₁, r₁, q⟩ => ⟨loc, hp₁, r₁, q⟩) fun _ _ x => x)
  · rename_i ts e spos
    unfold pAsg at h
    split at h
    rotate_left
    · exact h.elim
    rename_i t
    unfold pAsg1 at h
    split at h
    · rename_i x px
      unfold pAsgN at h
      split at h
      · rename_i elt gens inner pos
        have sw : swapsWith (.ListComp elt gens inner pos) (some (.Name x px)) spos.line C.env = pure (swapB C.env.scope x px inner pos) := by
          unfold swapsWith swapB Env.blockKind
          simp only [k.kind, ScopeKind.isAnnotationScope]
          rfl
        split at h
        · rename_i hs
          unfold pGens at h
          split at h
          rotate_left
          · exact h.elim
          rename_i t iter ifs aa
          obtain ⟨rfl, hc, h⟩ := h
          have hc' := hc
          unfold compOkB at hc'
          simp only [Bool.and_eq_true] at hc'
          refine (WL.assignComp (Q := fun l h => Q .next l h) k hc'.1.1 (by rw [sw, hs]) (set_notSet hc'.1.2 _) (eltOk R hc) ((R.E C k _ loc hp _ h).mono fun v hp₁ q => q)).mono fun fl l h' q => ?_
          obtain ⟨rfl, q⟩ := q; exact q
        · rename_i hs
          intro g s rr
          refine wpAny_Assign_Name (wpAny_mono (R.E C k _ loc hp _ h g s rr) (fun v s₁ ⟨hp₁, r₁, q⟩ => ?_) fun _ _ x => x) (by rw [sw]; simp at hs; rw [hs])
          exact WL.store (Q := fun l h => Q .next l h) k q g s₁ r₁
      · intro g s rr
        refine wpAny_Assign_Name (wpAny_mono (R.E C k _ loc hp _ h.2 g s rr) (fun v s₁ ⟨hp₁, r₁, q⟩ => ?_) fun _ _ x => x) (swaps_no h.1 _ _ _)
        exact WL.store (Q := fun l h => Q .next l h) k q g s₁ r₁
    · unfold pAsgS at h
      split at h
      · obtain ⟨rfl, rfl, rfl, h⟩ := h
        intro g s rr
        refine wpAny_Assign_Subscript (wpAny_mono (R.E C k _ loc hp _ h g s rr) (fun v s₁ ⟨hp₁, r₁, q⟩ => wpAny_mono (R.E C k _ loc hp₁ _ q g s₁ r₁) (fun ov s₂ ⟨hp₂, r₂, q₂⟩ => ?_) fun _ _ x => x) fun _ _ x => x) (swaps_other _ _ _ _ _ _)
        refine wpAny_Slice ?_
        rw [evalPart_none]
        refine wpAny_pure (wpAny_pure (wpAny_pure ?_))
        dsimp only at q₂
        unfold pSetAll at q₂
        split at q₂
        · rename_i a b e1 e2
          cases pv_ref e1; cases pv_ref e2
          obtain ⟨xs, ys, hne, h1, h2, hz, q₃⟩ := q₂
          have r₃ : Rep C g loc hp₂ { s₂ with heap := s₂.heap.push { cls := .type "slice", data := .fields #[.none, .none, .none] }, toks := s₂.toks } := r₂.grown (Kp.of fun b o e => Heap.get?_push_of_some _ e)
          obtain ⟨us, hl, rfl⟩ := r₃.isList h2
          obtain ⟨o, ho, ws, kk, rfl, rfl⟩ := r₃.objs a _ h1
          refine setAll ho hl hne (Heap.IsSliceOf.new ..) (by simpa using hz) fun h' k' hg hs => ⟨loc, _, ?_, q₃⟩
          have := r₃.update (tk := s₂.toks) (po' := .list (us.map pv)) h1 rfl hs.extBut hg ⟨_, _, rfl, by simp⟩
          exact this
        · exact q₂.elim
      · intro g s rr
        refine wpAny_Assign_Subscript (wpAny_mono (R.E C k _ loc hp _ h g s rr) (fun v s₁ ⟨hp₁, r₁, q⟩ => wpAny_mono (R.E C k _ loc hp₁ _ q g s₁ r₁) (fun ov s₂ ⟨hp₂, r₂, q₂⟩ => wpAny_mono (R.E C k _ loc hp₂ _ q₂ g s₂ r₂) (fun iv s₃ ⟨hp₃, r₃, q₃⟩ => ?_) fun _ _ x => x) fun _ _ x => x) fun _ _ x => x) (swaps_other _ _ _ _ _ _)
        dsimp only at q₃
        unfold pSetItem at q₃
        split at q₃
        · rename_i a e
          cases pv_ref e
          split at q₃
          · rename_i c d e1
            obtain ⟨es, f, h1, h2, h3, h4⟩ := q₃
            exact wpAny_mono (W.setItemI k h2 h3 e1 h1 h4 g s₃ r₃) (fun _ s₄ ⟨hp₄, r₄, q₄⟩ => ⟨loc, hp₄, r₄, q₄⟩) fun _ _ x => x
          · exact q₃.elim
        · exact q₃.elim
    · rename_i o name px
      intro g s rr
      refine plainObj_wpAny_Assign_Attribute (wpAny_mono (R.E C k _ loc hp _ h.2 g s rr) (fun v s₁ ⟨hp₁, r₁, q⟩ => wpAny_mono (R.E C k _ loc hp₁ _ q g s₁ r₁) (fun ov s₂ ⟨hp₂, r₂, q₂⟩ => ?_) fun _ _ x => x) fun _ _ x => x) (swaps_no h.1 _ _ _)
      dsimp only at q₂
      unfold pSetAttr at q₂
      split at q₂
      · rename_i a e
        cases pv_ref e
        obtain ⟨c, d, h1, h2, h3, h4, q₃⟩ := q₂
        exact wpAny_mono (W.setattr0 (Q := fun hp₃ => Q .next loc hp₃) k h3 h1 h2 h4 q₃ g s₂ r₂) (fun _ s₄ ⟨hp₄, r₄, q₄⟩ => ⟨loc, hp₄, r₄, q₄⟩) fun _ _ x => x
      · exact q₂.elim
    · exact h.elim
  · unfold pAugS at h
    split at h
    rotate_left
    · exact h.elim
    intro g s rr
    refine wpAny_AugAssign_Name (wpAny_mono (W.loadn k h.1 h.2 g s rr) (fun old s₁ ⟨hp₁, r₁, q⟩ => wpAny_mono (R.E C k _ loc hp₁ _ q g s₁ r₁) (fun v s₂ ⟨hp₂, r₂, q₂⟩ => wpAny_mono (W.aug q₂ g s₂ r₂) (fun w s₃ ⟨hp₃, r₃, q₃⟩ => ?_) fun _ _ x => x) fun _ _ x => x) fun _ _ x => x)
    exact WL.store (Q := fun l h => Q .next l h) k q₃ g s₃ r₃
  · intro g s rr
    refine wpAny_If (wpAny_mono (R.T C k _ loc hp _ h g s rr) (fun b s₁ ⟨hp₁, r₁, q⟩ => ?_) fun _ _ x => x)
    cases b with
    | true => simp only [if_true] at q ⊢; exact R.S C k _ loc hp₁ Q q g s₁ r₁
    | false => simp only [Bool.false_eq_true, if_false] at q ⊢; exact R.S C k _ loc hp₁ Q q g s₁ r₁
  · rename_i t iter body orelse pos
    obtain ⟨rfl, h⟩ := h
    refine WL.for_ k (set_notSet h.1 _) (step := fun v loc hp K => pAssign C.env.scope t v loc hp fun l => r.S C.env.scope body l hp K) (fun v loc hp K hk val hv => ?_) ((R.E C k _ loc hp _ h.2).mono fun v hp₁ q => q)
    subst hv
    exact (WL.assign_ (Q := fun l h => r.S C.env.scope body l h K) k hk).mono fun _ l h' q => R.S C k body l h' K q
  · rename_i t body orelse pos
    obtain ⟨rfl, h⟩ := h
    obtain ⟨m, h⟩ := h
    exact WL.while_ (fun loc hp K hk => R.T C k t loc hp K hk) (fun loc hp K hk => R.S C k body loc hp K hk) h
  · unfold pDelS at h
    split at h
    rotate_left
    · exact h.elim
    unfold pDel1 at h
    split at h
    rotate_left
    · exact h.elim
    intro g s rr
    refine wpAny_Delete (wpAny_deleteEach_cons (wpAny_delete_Subscript (wpAny_mono (R.E C k _ loc hp _ h g s rr) (fun ov s₁ ⟨hp₁, r₁, q⟩ => wpAny_mono (R.E C k _ loc hp₁ _ q g s₁ r₁) (fun iv s₂ ⟨hp₂, r₂, q₂⟩ => ?_) fun _ _ x => x) fun _ _ x => x)))
    dsimp only at q₂
    unfold pDelItem at q₂
    split at q₂
    · rename_i a e
      cases pv_ref e
      split at q₂
      · rename_i c d e1
        obtain ⟨es, f, h1, h2, h3, h4⟩ := q₂
        exact wpAny_mono (W.delItemI k h2 h3 e1 h1 h4 g s₂ r₂) (fun _ s₄ ⟨hp₄, r₄, q₄⟩ => wpAny_deleteEach_nil ⟨loc, hp₄, r₄, q₄⟩) fun _ _ x => x
      · exact q₂.elim
    · exact q₂.elim
  · exact h.elim

theorem soundS (R : Sound P n r) (k : Ok P C n) : ∀ (b : List Stmt) (loc : Loc) (hp : PHeap) (Q : PF → Loc → PHeap → Prop), stepS P n r C.env.scope b loc hp Q → WL C (execs b C.env) loc hp (fun fl l h => Q (pf fl) l h)
  | [], loc, hp, Q, h => fun g s rr => wpAny_execs_nil ⟨loc, hp, rr, h⟩
  | st :: rest, loc, hp, Q, h => fun g s rr => by
    refine wpAny_execs_cons (wpAny_mono (sound_x R k st loc hp _ h g s rr) (fun fl s₁ ⟨l₁, hp₁, r₁, q⟩ => ?_) fun _ _ x => x)
    cases fl with
    | next => exact soundS R k rest l₁ hp₁ Q q g s₁ r₁
    | brk => exact ⟨l₁, hp₁, r₁, q⟩
    | cont => exact ⟨l₁, hp₁, r₁, q⟩
    | ret v => exact ⟨l₁, hp₁, r₁, q⟩
end

def vc (P : Prg) (n : Nat) : Nat → VC
  | 0 => ⟨fun _ _ _ _ _ => False, fun _ _ _ _ _ => False, fun _ _ _ _ _ => False⟩
  | m + 1 => ⟨stepE P n (vc P n m), stepT P n (vc P n m), stepS P n (vc P n m)⟩
theorem vc_sound (P : Prg) (n : Nat) : ∀ m, Sound P n (vc P n m)
  | 0 => ⟨fun _ _ _ _ _ _ h => h.elim, fun _ _ _ _ _ _ h => h.elim, fun _ _ _ _ _ _ h => h.elim⟩
  | m + 1 => ⟨fun C k e loc hp Q h => soundE (vc_sound P n m) k e loc hp Q h, fun C k e loc hp Q h => soundT (vc_sound P n m) k e loc hp Q h, fun C k b loc hp Q h => soundS (vc_sound P n m) k b loc hp Q h⟩

/-- a def, by its own tree -/
theorem calls_by {P : Prg} {n m : Nat} {f : Addr} {fd : FuncData} {body : List Stmt} {args : List PV} {kw pb : List (Str × PV)} {hp : PHeap} {Q : PV → PHeap → Prop}
    (D : IsDef P f fd body) (hb : Binds P fd args kw pb) (hk : (pb.all fun p => fd.scope.names.lookup p.1 == some .local || fd.scope.names.lookup p.1 == some .cell) = true)
    (h : (vc P n m).S fd.scope body (bindP pb fun _ => none) hp (fun fl _ hp' => Q fl.val hp')) : CallsC P (n + 1) (.ref f) args kw hp Q :=
  callsC_def D hb hk fun C k e => by
    have := (vc_sound P n m).S C k body (bindP pb fun _ => none) hp (fun fl _ hp' => Q fl.val hp') (by rw [e]; exact h)
    exact this
end Hd

namespace Hd
section
variable {P : Prg} {n : Nat} {hp : PHeap} {Q : PV → PHeap → Prop}

theorem call_typeStr {x : Str} (hq : Q (.typ "str") hp) : Calls P n (.type "type") [.str x] [] hp Q := by
  intro C k loc vs kws e1 e2 g s r
  obtain ⟨v, rfl, hv⟩ := map1 e1; obtain ⟨t, rfl⟩ := pv_str hv; cases mapk0 e2
  exact call_type_of (typeIs_str _ _ _) (by decide +kernel) ⟨hp, r, hq⟩
theorem call_typeList {a : Addr} {xs : List PV} (h : lst hp a = some xs) (hq : Q (.typ "list") hp) : Calls P n (.type "type") [.ref a] [] hp Q := by
  intro C k loc vs kws e1 e2 g s r
  obtain ⟨v, rfl, hv⟩ := map1 e1; cases pv_ref hv; cases mapk0 e2
  obtain ⟨us, ⟨o, ho, hc, _⟩, _⟩ := r.isList h
  obtain ⟨hh, gg, d, t, os⟩ := s
  exact call_type_obj ho (by rw [hc]; decide +kernel) (by rw [hc]; exact ⟨hp, r, hq⟩)
theorem call_listRange {a : Addr} {lo hi : Int} (h : hp a = some (.range lo hi)) (h1 : -(2 ^ 20) ≤ lo) (h2 : lo ≤ 2 ^ 20) (h3 : -(2 ^ 20) ≤ hi) (h4 : hi ≤ 2 ^ 20)
    (hq : ∀ c, hp c = none → Q (.ref c) (upd hp c (.list (irng lo (hi - lo).toNat)))) : Calls P n (.type "list") [.ref a] [] hp Q := by
  intro C k loc vs kws e1 e2 g s r
  obtain ⟨v, rfl, hv⟩ := map1 e1; cases pv_ref hv; cases mapk0 e2
  obtain ⟨o, ho, t, u, w, _, rfl⟩ := r.objs a _ h
  obtain ⟨q1, q2⟩ := small_of (a := lo) (b := hi) (by omega) (by omega) (by omega) (by omega)
  refine call_list_range k.hh ho q1 q2 (by omega) fun h' tk acc' c' hk hS hacc => ?_
  have hl : acc'.toList.map pv = irng lo (hi - lo).toNat := by
    obtain ⟨l1, l2⟩ := hacc
    refine List.ext_getElem? fun j => ?_
    unfold irng
    rw [List.getElem?_map, List.getElem?_map]
    by_cases hj : j < acc'.size
    · obtain ⟨t', e⟩ := l2 j acc'[j] (by simp [hj])
      rw [List.getElem?_range (by omega)]
      simp [hj, e, pv]
    · have h5 : acc'.toList[j]? = none := by simp; omega
      have h6 : (List.range (hi - lo).toNat)[j]? = none := by simp; omega
      rw [h5, h6]; rfl
  obtain ⟨hn, r'⟩ := r.alloc (tk := tk) (po := .list (irng lo (hi - lo).toNat)) (get?_size _) (Kp.of hk) hS ⟨acc', c', rfl, hl⟩
  exact ⟨_, r', hq _ hn⟩
end
end Hd

namespace Hd

structure GOk (P : Prg) : Prop where
  g : ∀ x v, nsIn P.K mainGlobals x = some (some v) → P.mg x = some v
  n : ∀ x, nsIn P.K mainGlobals x = some none → P.mg x = none
  b : ∀ x : Str, x ≠ Str.ofString "__name__" → P.mb x = bootBuiltins x
theorem gl_glob {P : Prg} (G : GOk P) {x : Str} {v : Value} (h : nsIn P.K mainGlobals x = some (some v)) : gl P x = some (pv v) := by unfold gl; rw [G.g x v h]
theorem gl_boot {P : Prg} (G : GOk P) {x : Str} {v : Value} (h : nsIn P.K mainGlobals x = some none) (hb : bootBuiltins x = some v) (hn : x ≠ Str.ofString "__name__") : gl P x = some (pv v) := by
  unfold gl; rw [G.n x h, G.b x hn, hb]; rfl

theorem ofString_inj {a b : String} : (Str.ofString a = Str.ofString b) = (a = b) := by
  apply propext
  constructor
  · intro h
    rw [Str.ofString_eq_toList, Str.ofString_eq_toList] at h
    have h1 : (a.toList.map Char.toNat).toArray = (b.toList.map Char.toNat).toArray := congrArg Str.cps h
    have h2 : a.toList.map Char.toNat = b.toList.map Char.toNat := by simpa using h1
    have h3 : a.toList = b.toList := by
      have inj : ∀ l l' : List Char, l.map Char.toNat = l'.map Char.toNat → l = l' := by
        intro l
        induction l with
        | nil => intro l' e; cases l' with
          | nil => rfl
          | cons c l' => simp at e
        | cons c l ih => intro l' e; cases l' with
          | nil => simp at e
          | cons c' l' =>
            simp only [List.map_cons, List.cons.injEq] at e
            rw [ih l' e.2, Char.toNat_inj.mp e.1]
      exact inj _ _ h2
    exact String.toList_inj.mp h3
  · intro h; rw [h]
theorem vcE {P : Prg} {n m : Nat} {sc : Scope} {e : Expr} {loc : Loc} {hp : PHeap} {Q : PV → PHeap → Prop} : (vc P n (m + 1)).E sc e loc hp Q = stepE P n (vc P n m) sc e loc hp Q := rfl
theorem vcT {P : Prg} {n m : Nat} {sc : Scope} {e : Expr} {loc : Loc} {hp : PHeap} {Q : Bool → PHeap → Prop} : (vc P n (m + 1)).T sc e loc hp Q = Hd.stepT P n (vc P n m) sc e loc hp Q := rfl
theorem vcS {P : Prg} {n m : Nat} {sc : Scope} {e : List Stmt} {loc : Loc} {hp : PHeap} {Q : PF → Loc → PHeap → Prop} : (vc P n (m + 1)).S sc e loc hp Q = stepS P n (vc P n m) sc e loc hp Q := rfl
theorem beq_ofString {a b : String} : (Str.ofString a == Str.ofString b) = decide (a = b) := by
  rw [Bool.eq_iff_iff, beq_iff_eq, decide_eq_true_eq, ofString_inj]
theorem lookup_here {α : Type} {a b : String} {v : α} {l : List (Str × α)} : List.lookup (Str.ofString a) ((Str.ofString b, v) :: l) = if a = b then some v else List.lookup (Str.ofString a) l := by
  rw [List.lookup_cons, beq_ofString]
  by_cases h : a = b <;> simp [h]
theorem bindP_cons {x : Str} {v : PV} {r : List (Str × PV)} {l : Loc} : bindP ((x, v) :: r) l = bindP r (setL l x v) := rfl
theorem bindP_nil {l : Loc} : bindP [] l = l := rfl
theorem setL_at {a b : String} {v : PV} {l : Loc} : setL l (Str.ofString b) v (Str.ofString a) = if a = b then some v else l (Str.ofString a) := by
  unfold setL; by_cases h : a = b
  · rw [if_pos h, if_pos (by rw [h])]
  · rw [if_neg h, if_neg (by rw [ofString_inj]; exact h)]

theorem calls_def {K : Frag} {P : Prg} {n m : Nat} {f : Addr} {fd : FuncData} {body : List Stmt} {args : List PV} {kw pb : List (Str × PV)} {hp : PHeap} {Q : PV → PHeap → Prop} {oc : Value} {od : Option Addr} {osl : Array (Option Value)}
    (hK : P.K = K) (look : K.lookup f = some ⟨oc, od, .func fd, osl⟩) (code : codeIn K fd.code fd.qualname = true) (bd : fd.body = .stmts body) (clo : fd.closure = []) (co : fd.scope.isCoroutine = false) (gen : fd.scope.isGenerator = false)
    (kind : fd.scope.kind = .function) (glob : fd.globals = mainGlobals) (bui : fd.builtins = builtinsNs) (cells : (fd.scope.names.all fun p => p.2 != .cell || fd.scope.names.lookup p.1 == some .cell) = true) (nofree : (fd.scope.names.all fun p => p.2 != .free) = true)
    (hb : ∀ s vs kws, K.In s.heap → vs.map pv = args → kws.map pvb = kw → ∃ binds, BindsTo s fd ⟨vs, kws⟩ binds ∧ binds.map pvb = pb) (hk : (pb.all fun p => fd.scope.names.lookup p.1 == some .local || fd.scope.names.lookup p.1 == some .cell) = true)
    (h : (vc P n m).S fd.scope body (bindP pb fun _ => none) hp (fun fl _ hp' => Q fl.val hp')) : CallsC P (n + 1) (.ref f) args kw hp Q := by
  subst hK
  exact calls_by ⟨⟨oc, od, osl, look⟩, code, bd, clo, co, gen, kind, glob, bui, cells, nofree⟩ hb hk h

section
open Sre
variable {code : Array Nat} {c f i : Nat} {y : Bool} {seen : Sre.Seen}
theorem inSet_R (h : ops[code.getD i 0]? = some .RANGE) {a b : Nat} (ha : code.getD (i + 1) 0 = a) (hb : code.getD (i + 2) 0 = b) (hc : c < a ∨ b < c) : inSet code c (f + 1) i y seen = inSet code c f (i + 3) y (seen.add (code.getD i 0)) := by
  have hc : (decide (code.getD (i + 1) 0 ≤ c) && decide (c ≤ code.getD (i + 2) 0)) = false := by rw [ha, hb]; simp; omega
  rw [inSet]; simp only [Nat.add_zero, h, hc]; rfl
theorem inSet_L (h : ops[code.getD i 0]? = some .LITERAL) {a : Nat} (ha : code.getD (i + 1) 0 = a) (hc : c ≠ a) : inSet code c (f + 1) i y seen = inSet code c f (i + 2) y (seen.add (code.getD i 0)) := by
  have hc : (c == code.getD (i + 1) 0) = false := by rw [ha]; simp [hc]
  rw [inSet]; simp only [Nat.add_zero, h, hc]; rfl
theorem inSet_C (h : ops[code.getD i 0]? = some .CHARSET) (hc : (decide (c < 256) && (code.getD (i + (1 + c / 32)) 0).testBit (c % 32)) = false) : inSet code c (f + 1) i y seen = inSet code c f (i + 9) y (seen.add (code.getD i 0)) := by
  rw [inSet]; simp only [Nat.add_zero, h, hc]; rfl
theorem inSet_F (h : ops[code.getD i 0]? = some .FAILURE) : inSet code c (f + 1) i y seen = .ok (!y, seen.add (code.getD i 0)) := by
  rw [inSet]; simp only [Nat.add_zero, h]
end

theorem cset_of {code : Array Nat} (h : ((List.range 127).all fun c => decide (c < 32) || !(decide (c < 256) && (code.getD (5 + (1 + c / 32)) 0).testBit (c % 32))) = true) {c : Nat} (h1 : 32 ≤ c) (h2 : c < 127) :
    (decide (c < 256) && (code.getD (5 + (1 + c / 32)) 0).testBit (c % 32)) = false := by
  have := List.all_eq_true.mp h c (List.mem_range.mpr h2)
  have h3 : decide (c < 32) = false := by simp; omega
  rw [h3, Bool.false_or, Bool.not_eq_true'] at this
  exact this

open Sre in
theorem quiet_name {code : Array Nat} (h0 : ops[code.getD 0 0]? = some .INFO) (h2 : code.getD 2 0 = 4) (hz : code.size = 20) (h5 : ops[code.getD 5 0]? = some .RANGE) (h6 : code.getD 6 0 = 0) (h7 : code.getD 7 0 = 31)
    (h8 : ops[code.getD 8 0]? = some .LITERAL) (h9 : code.getD 9 0 = 127) (h10 : ops[code.getD 10 0]? = some .FAILURE) : Quiet code :=
  ⟨h0, h2, fun c seen l u => ⟨_, by rw [hz]; exact (inSet_R (f := 19) h5 h6 h7 (.inr (by omega))).trans ((inSet_L (f := 18) h8 h9 (by omega)).trans (inSet_F (f := 17) h10))⟩⟩
open Sre in
theorem quiet_value {code : Array Nat} (h0 : ops[code.getD 0 0]? = some .INFO) (h2 : code.getD 2 0 = 4) (hz : code.size = 28) (h5 : ops[code.getD 5 0]? = some .CHARSET)
    (h : ((List.range 127).all fun c => decide (c < 32) || !(decide (c < 256) && (code.getD (5 + (1 + c / 32)) 0).testBit (c % 32))) = true) (h14 : ops[code.getD 14 0]? = some .FAILURE) : Quiet code :=
  ⟨h0, h2, fun c seen l u => ⟨_, by rw [hz]; exact (inSet_C (f := 27) h5 (cset_of h l u)).trans (inSet_F (f := 26) h14)⟩⟩

theorem mapk1 {vs : List (Str × Value)} {x : Str} {a : PV} (h : vs.map pvb = [(x, a)]) : ∃ v, vs = [(x, v)] ∧ pv v = a := by
  match vs, h with
  | [(y, v)], h =>
    simp only [List.map_cons, List.map_nil, pvb, List.cons.injEq, Prod.mk.injEq, and_true] at h
    obtain ⟨rfl, rfl⟩ := h
    exact ⟨v, rfl, rfl⟩

/-- all but one object stays -/
def Grow (l : Addr) (hp hp' : PHeap) : Prop := ∀ a po, a ≠ l → hp a = some po → hp' a = some po
def Prs (hp : PHeap) (xs : List PV) (es : List (Str × Str)) : Prop := All2 (fun x e => ∃ a, x = .ref a ∧ hp a = some (.tuple [.str e.1, .str e.2])) xs es
/-- a table and its pairs -/
structure Tab (HC : Addr) (hp : PHeap) (t d l : Addr) (es : List (Str × Str)) : Prop where
  t : hp t = some (.inst HC d)
  d : hp d = some (.attrs [(Str.ofString "_headers", .ref l)])
  l : ∃ xs, hp l = some (.list xs) ∧ Prs hp xs es
  size : es.length ≤ 1000
  clean : ∀ e ∈ es, Clean e.1 ∧ e.1.length ≤ 1000

theorem Prs.keep {hp hp' : PHeap} {xs : List PV} {es : List (Str × Str)} (h : Prs hp xs es) (k : ∀ a ys, hp a = some (.tuple ys) → hp' a = some (.tuple ys)) : Prs hp' xs es := by
  unfold Prs at h ⊢
  induction h with
  | nil => exact .nil
  | cons a _ ih => obtain ⟨x, rfl, h⟩ := a; exact .cons ⟨x, rfl, k _ _ h⟩ ih
theorem Prs.length {hp : PHeap} {xs : List PV} {es : List (Str × Str)} (h : Prs hp xs es) : xs.length = es.length := by
  unfold Prs at h
  induction h with
  | nil => rfl
  | cons _ _ ih => simp [ih]
end Hd

namespace Hd
section
variable {P : Prg} {n : Nat} {hp : PHeap} {Q : PV → PHeap → Prop} {B : Bool → PHeap → Prop} {args : List PV} {kw : List (Str × PV)} {a b : Addr} {i j : Int} {x y : Str} {u v : PV} {c : Bool} {p q : Bool}
theorem tr_none : pTruth P n .none hp B = B false hp := rfl
theorem tr_bool : pTruth P n (.bool c) hp B = B c hp := rfl
theorem tr_int : pTruth P n (.int i) hp B = B (decide (i ≠ 0)) hp := rfl
theorem tr_str : pTruth P n (.str x) hp B = (x.length < 2 ^ 60 ∧ B (decide (x.length ≠ 0)) hp) := rfl
theorem kp_bi {id : String} : pKeep P (.bi id) = True := rfl
theorem kp_typ {id : String} : pKeep P (.typ id) = True := rfl
theorem kp_ref : pKeep P (.ref a) = (keepIn P.K (.ref a) = true) := rfl
theorem ca_bi {id : String} : pCall P n (.bi id) args kw hp Q = Calls P n (.builtin id) args kw hp Q := rfl
theorem ca_typ {id : String} : pCall P n (.typ id) args kw hp Q = Calls P n (.type id) args kw hp Q := rfl
theorem ca_ref : pCall P n (.ref a) args kw hp Q = Calls P n (.ref a) args kw hp Q := rfl
theorem cm_in : pCmp P n .In u v hp Q = pIn P n u v hp fun c hp' => Q (.bool c) hp' := rfl
theorem cm_notin : pCmp P n .NotIn u v hp Q = pIn P n u v hp fun c hp' => Q (.bool (!c)) hp' := rfl
theorem cm_eq : pCmp P n .Eq u v hp Q = pCmp0 .Eq u v hp fun c => Q (.bool c) hp := rfl
theorem cm_ne : pCmp P n .NotEq u v hp Q = pCmp0 .NotEq u v hp fun c => Q (.bool c) hp := rfl
theorem cm_lt : pCmp P n .Lt u v hp Q = pCmp0 .Lt u v hp fun c => Q (.bool c) hp := rfl
theorem cm_le : pCmp P n .LtE u v hp Q = pCmp0 .LtE u v hp fun c => Q (.bool c) hp := rfl
theorem cm_gt : pCmp P n .Gt u v hp Q = pCmp0 .Gt u v hp fun c => Q (.bool c) hp := rfl
theorem cm_ge : pCmp P n .GtE u v hp Q = pCmp0 .GtE u v hp fun c => Q (.bool c) hp := rfl
theorem cm_is : pCmp P n .Is u v hp Q = ∃ c, pIs hp u v = some c ∧ Q (.bool c) hp := by unfold pCmp pCmp0; cases u <;> rfl
theorem cm_isnot : pCmp P n .IsNot u v hp Q = ∃ c, pIs hp u v = some c ∧ Q (.bool (!c)) hp := by unfold pCmp pCmp0; cases u <;> rfl
variable {R : Bool → Prop}
theorem c0_eqi : pCmp0 .Eq (.int i) (.int j) hp R = R (decide (i = j)) := rfl
theorem c0_nei : pCmp0 .NotEq (.int i) (.int j) hp R = R (decide (i ≠ j)) := rfl
theorem c0_lti : pCmp0 .Lt (.int i) (.int j) hp R = R (decide (i < j)) := rfl
theorem c0_lei : pCmp0 .LtE (.int i) (.int j) hp R = R (decide (i ≤ j)) := rfl
theorem c0_gti : pCmp0 .Gt (.int i) (.int j) hp R = R (decide (j < i)) := rfl
theorem c0_gei : pCmp0 .GtE (.int i) (.int j) hp R = R (decide (j ≤ i)) := rfl
theorem c0_eqs : pCmp0 .Eq (.str x) (.str y) hp R = R (decide (x = y)) := rfl
theorem c0_nes : pCmp0 .NotEq (.str x) (.str y) hp R = R (decide (x ≠ y)) := rfl
theorem c0_eqb : pCmp0 .Eq (.bool p) (.bool q) hp R = R (decide (p = q)) := rfl
theorem c0_neb : pCmp0 .NotEq (.bool p) (.bool q) hp R = R (decide (p ≠ q)) := rfl
theorem is_typ {s t : String} : pIs hp (.typ s) (.typ t) = some (decide (s = t)) := by
  show some (PV.typ s == PV.typ t) = _
  congr 1; rw [Bool.eq_iff_iff]; simp
theorem is_nn : pIs hp .none .none = some true := by rfl
theorem is_sn : pIs hp (.str x) .none = some false := by show some (PV.str x == PV.none) = _; congr 1
theorem is_rn : pIs hp (.ref a) .none = some false := by show some (PV.ref a == PV.none) = _; congr 1
theorem bi_addi : pBin .Add (.int i) (.int j) hp Q = Q (.int (i + j)) hp := rfl
theorem bi_subi : pBin .Sub (.int i) (.int j) hp Q = Q (.int (i - j)) hp := rfl
theorem bi_muli : pBin .Mult (.int i) (.int j) hp Q = (IntMulOk i j ∧ Q (.int (i * j)) hp) := rfl
theorem bi_divi : pBin .FloorDiv (.int i) (.int j) hp Q = (0 < j ∧ j < 1073741824 ∧ Q (.int (i.fdiv j)) hp) := rfl
theorem bi_modi : pBin .Mod (.int i) (.int j) hp Q = (j ≠ 0 ∧ Q (.int (i.fmod j)) hp) := rfl
theorem bi_powi : pBin .Pow (.int i) (.int j) hp Q = (0 ≤ j ∧ j ≤ 1000000 ∧ i.natAbs < 2 ^ 64 ∧ Q (.int (i ^ j.toNat)) hp) := rfl
theorem bi_adds : pBin .Add (.str x) (.str y) hp Q = (x.length + y.length ≤ sizeLine ∧ Q (.str (x ++ y)) hp) := rfl
theorem bi_addr : pBin .Add (.ref a) (.ref b) hp Q = ∃ xs ys, lst hp a = some xs ∧ lst hp b = some ys ∧ xs.length + ys.length ≤ sizeLine ∧ ∀ c, hp c = none → Q (.ref c) (upd hp c (.list (xs ++ ys))) := rfl
theorem au_addi : pAug .Add (.int i) (.int j) hp Q = Q (.int (i + j)) hp := rfl
theorem au_subi : pAug .Sub (.int i) (.int j) hp Q = Q (.int (i - j)) hp := rfl
theorem au_adds : pAug .Add (.str x) (.str y) hp Q = (x.length + y.length ≤ sizeLine ∧ Q (.str (x ++ y)) hp) := rfl
theorem in_ref : pIn P n v (.ref a) hp B = ∃ c d es f, hp a = some (.inst c d) ∧ hp d = some (.attrs es) ∧ HasMeth P c (Str.ofString "__contains__") f ∧ Calls P n (.ref f) [.ref a, v] [] hp (fun r hp' => ∃ bb, r = .bool bb ∧ B bb hp') := rfl
theorem su_str : pSub P n (.str x) v hp Q = pItem (.str x) v hp Q := rfl
theorem it_str : pItem (.str x) (.int i) hp Q = ∃ k c, seqIndex? i x.length = some k ∧ x.cps[k]? = some c ∧ x.length < 2 ^ 62 ∧ Q (.str ⟨#[c]⟩) hp := rfl
theorem su_seq {xs : List PV} (h : itemsOf hp a = some xs) : pSub P n (.ref a) (.int i) hp Q = ∃ k v, seqIndex? i xs.length = some k ∧ xs[k]? = some v ∧ xs.length < 2 ^ 62 ∧ Q v hp := by
  unfold pSub
  have h' := h
  unfold itemsOf at h'
  have key : pItem (.ref a) (.int i) hp Q = ∃ k v, seqIndex? i xs.length = some k ∧ xs[k]? = some v ∧ xs.length < 2 ^ 62 ∧ Q v hp := by
    apply propext
    show (∃ xs k v, itemsOf hp a = some xs ∧ seqIndex? i xs.length = some k ∧ xs[k]? = some v ∧ xs.length < 2 ^ 62 ∧ Q v hp) ↔ _
    constructor
    · rintro ⟨ys, k, v, h1, h2⟩
      rw [h] at h1; cases h1; exact ⟨k, v, h2⟩
    · rintro ⟨k, v, h2⟩; exact ⟨xs, k, v, h, h2⟩
  dsimp only
  split
  · rename_i c d e; rw [e] at h'; cases h'
  · exact key
/-- the last one of a list -/
theorem su_last {xs : List PV} {z : PV} (h : itemsOf hp a = some (xs ++ [z])) (hz : xs.length < 1000) (hq : Q z hp) : pSub P n (.ref a) (.int (-1)) hp Q := by
  rw [su_seq h]
  refine ⟨xs.length, z, ?_, by simp, by simp; omega, hq⟩
  unfold seqIndex?
  simp
  omega
theorem sl_str {lo hi : Option Int} {l u : PV} (h1 : pPart (some l) = some lo) (h2 : pPart (some u) = some hi) : pSlice (.str x) l u hp Q = (x.length ≤ sizeLine ∧ Q (.str (Txt.slice x lo hi)) hp) := by
  apply propext
  constructor
  · rintro ⟨lo', hi', e1, e2, h⟩; rw [h1] at e1; rw [h2] at e2; cases e1; cases e2; exact h
  · intro h; exact ⟨lo, hi, h1, h2, h⟩
theorem sl_ref {lo hi : Option Int} {l u : PV} (h1 : pPart (some l) = some lo) (h2 : pPart (some u) = some hi) : pSlice (.ref a) l u hp Q = ∃ xs, lst hp a = some xs ∧ xs.length ≤ sizeLine ∧ ∀ c, hp c = none → Q (.ref c) (upd hp c (.list (cut xs lo hi))) := by
  apply propext
  constructor
  · rintro ⟨lo', hi', e1, e2, h⟩; rw [h1] at e1; rw [h2] at e2; cases e1; cases e2; exact h
  · intro h; exact ⟨lo, hi, h1, h2, h⟩
theorem pp_none : pPart (some .none) = some none := rfl
theorem pp_int : pPart (some (.int i)) = some (some i) := rfl
theorem op_none {r : VC} {sc : Scope} {loc : Loc} : pOpt r sc none loc hp Q = Q .none hp := rfl
theorem op_some {r : VC} {sc : Scope} {loc : Loc} {e : Expr} : pOpt r sc (some e) loc hp Q = r.E sc e loc hp Q := rfl
variable {H : PHeap → Prop}
theorem setAll_ref : pSetAll (.ref a) (.ref b) hp H = ∃ xs ys, a ≠ b ∧ hp a = some (.list xs) ∧ lst hp b = some ys ∧ xs.length + ys.length ≤ sizeLine ∧ H (upd hp a (.list ys)) := rfl
theorem setAttr_ref : pSetAttr P (.ref a) x v hp H = ∃ c d, hp a = some (.inst c d) ∧ hp d = some (.attrs []) ∧ ClsOk P c ∧ takerIn P.K c x = some none ∧ H (upd hp d (.attrs [(x, v)])) := rfl
theorem setItem_inst {c d : Addr} (h : hp a = some (.inst c d)) : pSetItem P n (.ref a) u v hp H = ∃ es f, hp d = some (.attrs es) ∧ ClsOk P c ∧ HasMeth P c (Str.ofString "__setitem__") f ∧ Calls P n (.ref f) [.ref a, u, v] [] hp (fun _ => H) := by
  unfold pSetItem; dsimp only; rw [h]
theorem delItem_inst {c d : Addr} (h : hp a = some (.inst c d)) : pDelItem P n (.ref a) u hp H = ∃ es f, hp d = some (.attrs es) ∧ ClsOk P c ∧ HasMeth P c (Str.ofString "__delitem__") f ∧ Calls P n (.ref f) [.ref a, u] [] hp (fun _ => H) := by
  unfold pDelItem; dsimp only; rw [h]
variable {sc : Scope} {loc : Loc} {L : Loc → Prop} {t : Expr} {es : List Expr} {pos : Pos}
theorem as_name : pAssign sc (.Name x pos) v loc hp L = pStore sc x v loc L := rfl
theorem as_tuple {k : _} : pAssign sc (.Tuple es k pos) (.ref a) loc hp L = ∃ xs, hp a = some (.tuple xs) ∧ pStores sc es xs loc L := rfl
theorem ss_nil : pStores sc [] [] loc L = L loc := rfl
theorem ss_cons {vs : List PV} : pStores sc (.Name x pos :: es) (v :: vs) loc L = pStore sc x v loc fun l => pStores sc es vs l L := by
  apply propext
  show (∃ y, some x = some y ∧ pStore sc y v loc fun l => pStores sc es vs l L) ↔ _
  constructor
  · rintro ⟨y, e, h⟩; cases e; exact h
  · intro h; exact ⟨x, rfl, h⟩

theorem forL_ind {step : PV → Loc → PHeap → (PF → Loc → PHeap → Prop) → Prop} {same : PHeap → Prop} {K : PF → Loc → PHeap → Prop} (I : List PV → Loc → PHeap → Prop) (h0 : ∀ loc hp, I [] loc hp → K .next loc hp)
    (h1 : ∀ v rest loc hp, I (v :: rest) loc hp → ∀ F : Loc → PHeap → Prop, (∀ loc' hp', I rest loc' hp' → F loc' hp') → step v loc hp (fun fl loc' hp' => match fl with
      | .next => same hp' ∧ F loc' hp' | .cont => same hp' ∧ F loc' hp' | .brk => K .next loc' hp' | .ret w => K (.ret w) loc' hp')) : ∀ xs loc hp, I xs loc hp → forL step same K xs loc hp
  | [], loc, hp, h => h0 loc hp h
  | v :: rest, loc, hp, h => h1 v rest loc hp h (forL step same K rest) fun loc' hp' i => forL_ind I h0 h1 rest loc' hp' i
theorem compL_ind {elt : PV → PHeap → (Option PV → PHeap → Prop) → Prop} {same : PHeap → Prop} {K : List PV → PHeap → Prop} (I : List PV → List PV → PHeap → Prop) (h0 : ∀ acc hp, I [] acc hp → K acc hp)
    (h1 : ∀ v rest acc hp, I (v :: rest) acc hp → ∀ F : List PV → PHeap → Prop, (∀ acc' hp', I rest acc' hp' → F acc' hp') → elt v hp (fun o hp' => same hp' ∧ F (match o with | some y => acc ++ [y] | none => acc) hp')) : ∀ xs acc hp, I xs acc hp → compL elt same K xs acc hp
  | [], acc, hp, h => h0 acc hp h
  | v :: rest, acc, hp, h => h1 v rest acc hp h (compL elt same K rest) fun acc' hp' i => compL_ind I h0 h1 rest acc' hp' i
theorem upd_same {hp : PHeap} {a : Addr} {o : PO} : upd hp a o a = some o := by unfold upd; rw [if_pos rfl]
theorem upd_ne {hp : PHeap} {a b : Addr} {o : PO} (h : b ≠ a) : upd hp a o b = hp b := by unfold upd; rw [if_neg h]
/-- what is there stays, if the new one is new -/
theorem upd_old {hp : PHeap} {a b : Addr} {o po : PO} (h : hp a = none) (hb : hp b = some po) : upd hp a o b = some po := by
  rw [upd_ne, hb]; intro e; rw [e, h] at hb; cases hb
theorem fresh_ne {hp : PHeap} {a b : Addr} {po : PO} (h : hp a = none) (hb : hp b = some po) : b ≠ a := by intro e; rw [e, h] at hb; cases hb

/-- the value under a name that is lowered already -/
def look (es : List (Str × Str)) (nm : Str) : Option Str := (es.find? fun e => Txt.lower e.1 == nm).map (·.2)
def got (o : Option Str) (d : PV) : PV := match o with | some v => .str v | none => d
theorem tab_meth {P : Prg} {HC t d l f : Addr} {hp : PHeap} {es : List (Str × Str)} {name : String} (T : Tab HC hp t d l es) (c : ClsOk P HC) (m : HasMeth P HC (Str.ofString name) f) (hne : ("_headers" == name) = false) : MethTo P hp (.ref t) (Str.ofString name) (.ref f) :=
  meth_own T.t T.d (by simp only [List.all_cons, List.all_nil, Bool.and_true, bne, beq_ofString]; rw [show decide ("_headers" = name) = false from (by simpa using hne)]; rfl) (c.get _) m.find m.fn
theorem bind_of {s : Shared} {fd : FuncData} {args : Args} {binds : List (Str × Value)} {pb : List (Str × PV)} (h : BindsTo s fd args binds) (e : binds.map pvb = pb) : ∃ binds, BindsTo s fd args binds ∧ binds.map pvb = pb := ⟨binds, h, e⟩
theorem tab_attr {P : Prg} {HC t d l : Addr} {hp : PHeap} {es : List (Str × Str)} {Q : PV → PHeap → Prop} (T : Tab HC hp t d l es) (c : ClsOk P HC) (nh : findIn P.K (.ref HC) (Str.ofString "_headers") = some none) (h : Q (.ref l) hp) : pAttr P (.ref t) (Str.ofString "_headers") hp Q :=
  ⟨_, _, _, _, T.t, T.d, c, nh, by rw [lookup_here, if_pos rfl], fun _ => PV.noConfusion, h⟩
theorem look_cons {e : Str × Str} {es : List (Str × Str)} {nm : Str} : look (e :: es) nm = if Txt.lower e.1 = nm then some e.2 else look es nm := by
  unfold look
  rw [List.find?_cons]
  by_cases h : Txt.lower e.1 = nm
  · rw [if_pos h, show (Txt.lower e.1 == nm) = true from beq_iff_eq.mpr h]; rfl
  · rw [if_neg h, show (Txt.lower e.1 == nm) = false from beq_eq_false_iff_ne.mpr h]
theorem pv_none0 : pv Value.none = PV.none := rfl
theorem compLoc_at {inner : Scope} {loc : Loc} {x : Str} : compLoc inner loc x = if inner.names.lookup x = some .free then loc x else none := rfl
theorem tests_nil {r : VC} {sc : Scope} {loc : Loc} {hp : PHeap} {Q : Bool → PHeap → Prop} : pTests r sc [] loc hp Q = Q true hp := rfl
theorem tests_one {r : VC} {sc : Scope} {c : Expr} {loc : Loc} {hp : PHeap} {Q : Bool → PHeap → Prop} : pTests r sc [c] loc hp Q = r.T sc c loc hp Q := rfl
/-- the pairs under other names -/
def without (es : List (Str × Str)) (nm : Str) : List (Str × Str) := es.filter fun e => Txt.lower e.1 != nm
theorem Prs.snoc {hp : PHeap} {xs : List PV} {es : List (Str × Str)} (h : Prs hp xs es) {a : Addr} {k v : Str} (ha : hp a = some (.tuple [.str k, .str v])) : Prs hp (xs ++ [.ref a]) (es ++ [(k, v)]) := by
  unfold Prs at h ⊢
  induction h with
  | nil => exact .cons ⟨a, rfl, ha⟩ .nil
  | cons x _ ih => exact .cons x ih
theorem without_cons {e : Str × Str} {es : List (Str × Str)} {nm : Str} : without (e :: es) nm = if Txt.lower e.1 = nm then without es nm else e :: without es nm := by
  unfold without
  by_cases h : Txt.lower e.1 = nm
  · rw [if_pos h, List.filter_cons_of_neg]; simp [h]
  · rw [if_neg h, List.filter_cons_of_pos]; simp [h]
theorem without_nil {nm : Str} : without [] nm = [] := rfl
theorem mem_without {e : Str × Str} {es : List (Str × Str)} {nm : Str} (h : e ∈ without es nm) : e ∈ es := (List.mem_filter.mp h).1
theorem without_length {es : List (Str × Str)} {nm : Str} : (without es nm).length ≤ es.length := List.length_filter_le ..
theorem Grow.trans {l : Addr} {h1 h2 h3 : PHeap} (a : Grow l h1 h2) (b : Grow l h2 h3) : Grow l h1 h3 := fun x po hx h => b x po hx (a x po hx h)
theorem Grow.upd {l : Addr} {hp : PHeap} {o : PO} : Grow l hp (upd hp l o) := fun a po ha h => by rw [upd_ne ha, h]
theorem Grow.new {l c : Addr} {hp : PHeap} {o : PO} (hc : hp c = none) : Grow l hp (Hd.upd hp c o) := fun a po ha h => upd_old hc h
theorem Prs.grow {l : Addr} {hp hp' : PHeap} {xs ys : List PV} {es : List (Str × Str)} (h : Prs hp xs es) (hl : hp l = some (.list ys)) (G : Grow l hp hp') : Prs hp' xs es :=
  h.keep fun a zs ha => G a _ (by intro e; rw [e, hl] at ha; cases ha) ha
theorem Tab.keep {HC t d l : Addr} {hp hp' : PHeap} {es : List (Str × Str)} (T : Tab HC hp t d l es) (k : ∀ a po, hp a = some po → hp' a = some po) : Tab HC hp' t d l es := by
  obtain ⟨xs, hl, pr⟩ := T.l
  exact ⟨k _ _ T.t, k _ _ T.d, ⟨xs, k _ _ hl, pr.keep fun a ys h => k _ _ h⟩, T.size, T.clean⟩
theorem Tab.put {HC t d l : Addr} {hp hp' : PHeap} {es es' : List (Str × Str)} {ys : List PV} (T : Tab HC hp t d l es) (G : Grow l hp hp') (hy : hp' l = some (.list ys)) (hp : Prs hp' ys es') (hz : es'.length ≤ 1000) (hc : ∀ e ∈ es', Clean e.1 ∧ e.1.length ≤ 1000) : Tab HC hp' t d l es' := by
  obtain ⟨xs, hl, pr⟩ := T.l
  exact ⟨G _ _ (by intro e; rw [← e, T.t] at hl; cases hl) T.t, G _ _ (by intro e; rw [← e, T.d] at hl; cases hl) T.d, ⟨ys, hy, hp⟩, hz, hc⟩
end
end Hd

namespace Hd
/-- a def called from outside, with one frozen list -/
theorem top_def {P : Prg} {prog : Program} {w : World} {A : Around} {s : Shared} {n m : Nat} {f a : Addr} {items : Array Value} {fd : FuncData} {body : List Stmt} {pb : List (Str × PV)}
    (hA : A.handled = none) (room : A.depth + (n + 1) < recursionLimit) (units : A.units + 8 * (n + 1) + 8 < cLine) (KX : P.K.In s.heap) (mg : s.heap.Ns mainGlobals P.mg) (mb : s.heap.Ns builtinsNs P.mb) (lim : s.heap.NoLimit)
    (hl : s.heap.IsList a items) (D : IsDef P f fd body) (hb : Binds P fd [.ref a] [] pb) (hk : (pb.all fun p => fd.scope.names.lookup p.1 == some .local || fd.scope.names.lookup p.1 == some .cell) = true)
    (h : (vc P n m).S fd.scope body (bindP pb fun _ => none) (upd (fun _ => none) a (.flist (items.toList.map pv))) (fun fl _ _ => fl.val = .bool true)) :
    codeAny (model prog w) A (.call (.ref f) ⟨[.ref a], []⟩) (fun r s' => r = .ok (.ret (.bool true)) ∧ (∀ b o, s.heap.get? b = some o → s'.heap.get? b = some o) ∧ ∃ h t, s' = { s with heap := h, toks := t }) s := by
  obtain ⟨oc, od, osl, hK⟩ := D.obj
  obtain ⟨binds, hB, hpb⟩ := hb s [.ref a] [] KX rfl rfl
  have kk : ∀ x ∈ binds, fd.scope.names.lookup x.1 = some .local ∨ fd.scope.names.lookup x.1 = some .cell := fun x hx => by
    have h1 : pvb x ∈ pb := hpb ▸ List.mem_map_of_mem hx
    have h2 := List.all_eq_true.mp hk _ h1
    rcases Bool.or_eq_true_iff.mp h2 with h2 | h2
    · exact .inl (beq_iff_eq.mp h2)
    · exact .inr (beq_iff_eq.mp h2)
  refine (codeAny_call_function (by omega) (KX _ _ hK) rfl D.co D.gen D.body (codeRec_of KX D.code) (hB _ _ _ _ ?_))
  rw [D.clo]
  refine wpAny_newFunctionEnv_cells D.kind (fun x hx => (kk x hx).elim .inl fun q => .inr ⟨q, cellsFrom_some _ _ _ _ (mem_of_look q)⟩) fun env he s' X => ?_
  have hlim : s'.heap.NoLimit := lim.keeps X.toInCall.keep
  refine ⟨hlim, codeAny_func ?_⟩
  subst he
  let env' : Env := newEnv fd.scope s.heap.objs.size fd.globals (cellsFrom (s.heap.objs.size + 1) fd.scope.names []) (fd.qualname ++ ".<locals>.") (some f) fd.code none fd.builtins
  let C' : Cx := { prog := prog, w := w, A := A.deeper env', s₁ := s, h₀ := s.heap, env := env', fz := some a }
  obtain ⟨ol, hol, hcl, kl, hdl⟩ := hl
  have hcells : ∀ x c, env'.cells.lookup x = some c → fd.scope.names.lookup x = some .cell ∧ s.heap.objs.size < c := fun x c e => by
    refine ⟨?_, X.above x c (mem_of_look e)⟩
    rcases cellsFrom_mem _ _ _ _ (mem_of_look e) with h | h
    · cases h
    · have := List.all_eq_true.mp D.cells _ h
      simpa using this
  have hnone : ∀ a, s.heap.objs.size ≤ a → s.heap.get? a = none := fun a ha => by
    cases e : s.heap.get? a with
    | none => rfl
    | some o => exact absurd (Heap.lt_size e) (Nat.not_lt.mpr ha)
  have k' : Ok P C' n := by
    refine ⟨hA, ?_, ?_, D.kind, D.glob, D.bui, KX, mg, mb, lim, fun x hx => ?_, fun x hx => ?_, fun a ha => ?_⟩
    · show A.depth + 1 + n < _; omega
    · show A.units + 3 + 8 * n + 8 < _; omega
    · rcases hx with hx | hx
      · exact cellsFrom_some _ _ _ _ (mem_of_look hx)
      · have := List.all_eq_true.mp D.nofree _ (mem_of_look hx); simp at this
    · cases q : C'.env.cells.lookup x with
      | none => rfl
      | some c => have h1 := (hcells x c q).1; have h2 : fd.scope.names.lookup x = some .local := hx; rw [h1] at h2; cases h2
    · cases ha; show (s.heap.get? _).isSome = true; rw [hol]; rfl
  obtain ⟨hs₁, ts₁, hsh⟩ := X.toInCall.same
  have one : ∀ b po, (upd (fun _ => none) a (.flist (items.toList.map pv)) : PHeap) b = some po → b = a ∧ po = .flist (items.toList.map pv) := fun b po e => by
    unfold upd at e
    split at e
    · rename_i q; cases e; exact ⟨q, rfl⟩
    · cases e
  have r' : Rep C' ⟨#[], {}⟩ (bindP pb fun _ => none) (upd (fun _ => none) a (.flist (items.toList.map pv))) s' := by
    refine ⟨?_, ⟨_, X.toInCall.ns, fun x hx => ?_⟩, fun b o e => X.toInCall.keep b o e, Nat.le_refl _, ?_, ?_, fun x c e => ⟨_, X.cell x c e, ?_⟩, fun x c e => ?_, fun x y c e e' => ?_, fun b po e => ?_, fun b po e hm => ?_, fun b po e hm => ?_⟩
    · exact ⟨hs₁, ts₁, by rw [hsh]⟩
    · intro p hp'; rw [← hp', ← hpb]; exact bindL_P hx binds _ _ rfl
    · intro b o e; simp [Heap.get?] at e
    · simp [Heap.get?]
    · intro p hp'; rw [← hp', ← hpb]; exact bindC_P (by show fd.scope.names.lookup x ≠ _; rw [(hcells x c e).1]; decide) binds _ _ rfl
    · have hc := (hcells x c e).2
      refine ⟨by simp [Heap.get?], hnone c (Nat.le_of_lt hc), Nat.ne_of_gt hc, fun po q => ?_⟩
      obtain ⟨_, rfl⟩ := one _ _ q; rfl
    · exact name_of_addr X.apart (mem_of_look e) (mem_of_look e')
    · obtain ⟨rfl, rfl⟩ := one _ _ e
      exact ⟨ol, X.toInCall.keep _ _ hol, hcl, items, kl, hdl, rfl⟩
    · obtain ⟨rfl, rfl⟩ := one _ _ e; cases hm
    · obtain ⟨rfl, rfl⟩ := one _ _ e
      exact ⟨rfl, by show (s.heap.get? _).isSome = true; rw [hol]; rfl⟩
  refine wpAny_mono ((vc_sound P n m).S C' k' body _ _ (fun fl _ _ => fl.val = .bool true) h _ s' r') (fun fl s'' hq => ?_) fun _ _ x => x.elim
  obtain ⟨_, hp', R, q⟩ := hq
  have keep : ∀ b o, s.heap.get? b = some o → s''.heap.get? b = some o := R.keep
  cases fl with
  | next => cases q
  | brk => cases q
  | cont => cases q
  | ret v =>
    have q : pv v = .bool true := q
    cases pv_bool q
    exact ⟨rfl, keep, R.sh⟩

theorem top_call {K : Frag} {P : Prg} {prog : Program} {w : World} {s : Shared} {n m : Nat} {f a : Addr} {items : Array Value} {fd : FuncData} {body : List Stmt} {pb : List (Str × PV)} {oc : Value} {od : Option Addr} {osl : Array (Option Value)} {R : Result → Shared → Prop}
    (hK : P.K = K) (room : callerA.depth + (n + 1) < recursionLimit) (units : callerA.units + 8 * (n + 1) + 8 < cLine) (KX : K.In s.heap) (mg : s.heap.Ns mainGlobals P.mg) (mb : s.heap.Ns builtinsNs P.mb) (lim : s.heap.NoLimit)
    (hl : s.heap.IsList a items)
    (look : K.lookup f = some ⟨oc, od, .func fd, osl⟩) (code : codeIn K fd.code fd.qualname = true) (bd : fd.body = .stmts body) (clo : fd.closure = []) (co : fd.scope.isCoroutine = false) (gen : fd.scope.isGenerator = false)
    (kind : fd.scope.kind = .function) (glob : fd.globals = mainGlobals) (bui : fd.builtins = builtinsNs) (cells : (fd.scope.names.all fun p => p.2 != .cell || fd.scope.names.lookup p.1 == some .cell) = true) (nofree : (fd.scope.names.all fun p => p.2 != .free) = true)
    (bnd : ∀ s vs kws, K.In s.heap → vs.map pv = [.ref a] → kws.map pvb = [] → ∃ binds, BindsTo s fd ⟨vs, kws⟩ binds ∧ binds.map pvb = pb) (hk : (pb.all fun p => fd.scope.names.lookup p.1 == some .local || fd.scope.names.lookup p.1 == some .cell) = true)
    (hR : ∀ s', (∀ b o, s.heap.get? b = some o → s'.heap.get? b = some o) → (∃ h t, s' = { s with heap := h, toks := t }) → R (.ok (.ret (.bool true))) s')
    (h : (vc P n m).S fd.scope body (bindP pb fun _ => none) (upd (fun _ => none) a (.flist (items.toList.map pv))) (fun fl _ _ => fl.val = .bool true)) :
    codeAny (model prog w) callerA (.call (.ref f) ⟨[.ref a], []⟩) R s := by
  subst hK
  exact codeAny_mono (top_def rfl room units KX mg mb lim hl ⟨⟨oc, od, osl, look⟩, code, bd, clo, co, gen, kind, glob, bui, cells, nofree⟩ bnd hk h) fun r s' ⟨e, k, q⟩ => by rw [e]; exact hR s' k q

theorem ints_pv : ∀ {vs : List Value} {ns : List Int}, IntsAre vs ns → vs.map pv = ns.map PV.int
  | _, _, .nil => rfl
  | _, _, .cons n t h => by rw [List.map_cons, List.map_cons, ints_pv h]; rfl
section
variable {P : Prg} {n : Nat} {r : VC} {sc : Scope} {st : Stmt} {rest : List Stmt} {loc : Loc} {hp : PHeap} {Q : PF → Loc → PHeap → Prop}
theorem stepS_nil : stepS P n r sc [] loc hp Q = Q .next loc hp := rfl
theorem stepS_cons (h : pX P n r sc st loc hp (fun fl l h => match fl with | .next => stepS P n r sc rest l h Q | .brk => Q .brk l h | .cont => Q .cont l h | .ret v => Q (.ret v) l h)) : stepS P n r sc (st :: rest) loc hp Q := h
theorem stepS_cut (J : Loc → PHeap → Prop) (h1 : ∀ F : Loc → PHeap → Prop, (∀ l h, J l h → F l h) → pX P n r sc st loc hp (fun fl l h => match fl with | .next => F l h | .brk => Q .brk l h | .cont => Q .cont l h | .ret v => Q (.ret v) l h))
    (h2 : ∀ l h, J l h → stepS P n r sc rest l h Q) : stepS P n r sc (st :: rest) loc hp Q := h1 _ h2
end
end Hd

namespace Hd
/-- what a name is to a block: 1 its own, 2 a global, 3 the constant -/
def nk (sc : Scope) (x : Str) : Nat := if (x == Str.ofString "__debug__") = true then 3 else if (x == Str.ofString "__classdict__") = true then 0 else match sc.names.lookup x with
  | some .local => 1 | some .cell => 1 | some .free => 1 | some .globalImplicit => 2 | _ => 0
def sk (sc : Scope) (x : Str) : Bool := match sc.names.lookup x with
  | some .local => true | some .cell => true | _ => false
def fk (sc : Scope) (x : Str) : Bool := match sc.names.lookup x with
  | some .free => true | _ => false
section
variable {P : Prg} {sc inner : Scope} {x y : Str} {v : PV} {loc : Loc} {hp : PHeap} {Q : PV → PHeap → Prop} {R : Loc → Prop}
theorem pName_loc (h : nk sc x = 1) : pName P sc x loc hp Q = ∃ v, loc x = some v ∧ Q v hp := by
  unfold nk at h
  unfold pName
  by_cases h1 : x = Str.ofString "__debug__"
  · rw [if_pos (beq_iff_eq.mpr h1)] at h; cases h
  · rw [if_neg (fun q => h1 (beq_iff_eq.mp q))] at h
    rw [if_neg h1]
    by_cases h2 : x = Str.ofString "__classdict__"
    · rw [if_pos (beq_iff_eq.mpr h2)] at h; cases h
    · rw [if_neg (fun q => h2 (beq_iff_eq.mp q))] at h
      have e : (x ≠ Str.ofString "__classdict__") = True := eq_true h2
      rw [e, true_and]
      cases q : sc.names.lookup x with
      | none => rw [q] at h; cases h
      | some k => rw [q] at h; cases k <;> first | rfl | (cases h)
theorem pName_glob (h : nk sc x = 2) : pName P sc x loc hp Q = ∃ v, gl P x = some v ∧ Q v hp := by
  unfold nk at h
  unfold pName
  by_cases h1 : x = Str.ofString "__debug__"
  · rw [if_pos (beq_iff_eq.mpr h1)] at h; cases h
  · rw [if_neg (fun q => h1 (beq_iff_eq.mp q))] at h
    rw [if_neg h1]
    by_cases h2 : x = Str.ofString "__classdict__"
    · rw [if_pos (beq_iff_eq.mpr h2)] at h; cases h
    · rw [if_neg (fun q => h2 (beq_iff_eq.mp q))] at h
      have e : (x ≠ Str.ofString "__classdict__") = True := eq_true h2
      rw [e, true_and]
      cases q : sc.names.lookup x with
      | none => rw [q] at h; cases h
      | some k => rw [q] at h; cases k <;> first | rfl | (cases h)
theorem pName_debug : pName P sc (Str.ofString "__debug__") loc hp Q = Q (.bool true) hp := if_pos rfl
theorem pStore_ok (h : sk sc x = true) : pStore sc x v loc R = R (setL loc x v) := by
  unfold sk at h
  unfold pStore
  have e : (sc.names.lookup x = some .local ∨ sc.names.lookup x = some .cell) = True := by
    apply eq_true
    split at h
    · left; assumption
    · right; assumption
    · cases h
  rw [e, true_and]
theorem setL_same : setL loc x v x = some v := by unfold setL; rw [if_pos rfl]
theorem setL_ne (h : (x == y) = false) : setL loc y v x = loc x := by
  unfold setL; rw [if_neg]; rintro rfl; simp at h
theorem compLoc_free (h : fk inner x = true) : compLoc inner loc x = loc x := by
  unfold fk at h
  rw [compLoc_at, if_pos]
  split at h
  · assumption
  · cases h
end
end Hd

namespace L3
set_option maxHeartbeats 8000000 in
open_top hd for PySem.Challenge.rw_dn0265_03
end L3

namespace L3
open Hd
theorem fill : PySem.Challenge.rw_dn0265_03 = PySem.Challenge.rw_dn0265_03 ∧ hd.heap_39 = hd.heap_39 := by
  k_fill
  exact ⟨rfl, rfl⟩
class Cn (P : Prg) : Prop where
  hK : ∃ w : World, P.K = hd.heap_39 w.params
  G : GOk P
variable {P : Prg} [cn : Cn P] {n : Nat} {hp : PHeap} {Q : PV → PHeap → Prop}
theorem g_type : gl P (Str.ofString "type") = some (.typ "type") := by
  obtain ⟨w, hK⟩ := cn.hK
  exact gl_boot (x := Str.ofString "type") (v := .type "type") cn.G (by rw [hK]; k_is) (by boot_fast) (by decide)
theorem g_str : gl P (Str.ofString "str") = some (.typ "str") := by
  obtain ⟨w, hK⟩ := cn.hK
  exact gl_boot (x := Str.ofString "str") (v := .type "str") cn.G (by rw [hK]; k_is) (by boot_fast) (by decide)
theorem g_list : gl P (Str.ofString "list") = some (.typ "list") := by
  obtain ⟨w, hK⟩ := cn.hK
  exact gl_boot (x := Str.ofString "list") (v := .type "list") cn.G (by rw [hK]; k_is) (by boot_fast) (by decide)
theorem g_len : gl P (Str.ofString "len") = some (.bi "len") := by
  obtain ⟨w, hK⟩ := cn.hK
  exact gl_boot (x := Str.ofString "len") (v := .builtin "len") cn.G (by rw [hK]; k_is) (by boot_fast) (by decide)
theorem g_range : gl P (Str.ofString "range") = some (.typ "range") := by
  obtain ⟨w, hK⟩ := cn.hK
  exact gl_boot (x := Str.ofString "range") (v := .type "range") cn.G (by rw [hK]; k_is) (by boot_fast) (by decide)
theorem g_nre : gl P (Str.ofString "_name_disallowed_re") = some (.ref 43) := by
  obtain ⟨w, hK⟩ := cn.hK
  exact gl_glob (v := .ref 43) cn.G (by rw [hK]; k_is)
theorem g_vre : gl P (Str.ofString "_value_disallowed_re") = some (.ref 48) := by
  obtain ⟨w, hK⟩ := cn.hK
  exact gl_glob (v := .ref 48) cn.G (by rw [hK]; k_is)
theorem g_Headers : gl P (Str.ofString "Headers") = some (.ref 171) := by
  obtain ⟨w, hK⟩ := cn.hK
  exact gl_glob (v := .ref 171) cn.G (by rw [hK]; k_is)
theorem clsOk : ClsOk P 171 := by
  obtain ⟨w, hK⟩ := cn.hK
  constructor
  · intro name; rw [hK]; show plainGet _ 171 (Str.ofString "x") = true; k_is
  · rw [hK]; k_is
  · rw [hK]; k_is
  · rw [hK]; k_is
  · rw [hK]; k_is
  · rw [hK]; k_is
  · rw [hK]; k_is
theorem m_init : HasMeth P 171 (Str.ofString "__init__") 63 := by
  obtain ⟨w, hK⟩ := cn.hK
  constructor <;> rw [hK] <;> k_is
theorem m_len : HasMeth P 171 (Str.ofString "__len__") 77 := by
  obtain ⟨w, hK⟩ := cn.hK
  constructor <;> rw [hK] <;> k_is
theorem m_setitem : HasMeth P 171 (Str.ofString "__setitem__") 84 := by
  obtain ⟨w, hK⟩ := cn.hK
  constructor <;> rw [hK] <;> k_is
theorem m_delitem : HasMeth P 171 (Str.ofString "__delitem__") 89 := by
  obtain ⟨w, hK⟩ := cn.hK
  constructor <;> rw [hK] <;> k_is
theorem m_contains : HasMeth P 171 (Str.ofString "__contains__") 103 := by
  obtain ⟨w, hK⟩ := cn.hK
  constructor <;> rw [hK] <;> k_is
theorem m_conv : HasMeth P 171 (Str.ofString "_convert_string_type") 70 := by
  obtain ⟨w, hK⟩ := cn.hK
  constructor <;> rw [hK] <;> k_is
theorem m_get : HasMeth P 171 (Str.ofString "get") 118 := by
  obtain ⟨w, hK⟩ := cn.hK
  constructor <;> rw [hK] <;> k_is
theorem pat {K : Frag} {re ct : Addr} {f0 f1 f3 f4 : Value} {items : Array Value} {k : Nat} {od : Option Addr} {sl : Array (Option Value)} (hK : P.K = K) (h1 : K.lookup re = some ⟨.type "re.Pattern", none, .fields #[f0, f1, .int 0 0, f3, f4, .ref ct, .int 0 0], sl⟩)
    (h2 : K.lookup ct = some ⟨.type "tuple", od, .seq items k, #[]⟩) (h3 : Quiet ((items.map Builtin.Re.reRawOf).map (·.toNat))) : PatOk P re := ⟨f0, f1, f3, f4, ct, items, k, od, sl, by rw [hK]; exact h1, by rw [hK]; exact h2, h3⟩
theorem nre : PatOk P 43 := by
  obtain ⟨w, hK⟩ := cn.hK
  refine' pat hK ?a ?b ?c
  case a => k_is
  case b => k_is
  case c => exact quiet_name (by kernel_rfl) (by kernel_rfl) (by kernel_rfl) (by kernel_rfl) (by kernel_rfl) (by kernel_rfl) (by kernel_rfl) (by kernel_rfl) (by kernel_rfl)
theorem vre : PatOk P 48 := by
  obtain ⟨w, hK⟩ := cn.hK
  refine' pat hK ?a ?b ?c
  case a => k_is
  case b => k_is
  case c => exact quiet_value (by kernel_rfl) (by kernel_rfl) (by kernel_rfl) (by kernel_rfl) (by decide +kernel) (by kernel_rfl)
end L3

set_option maxHeartbeats 1000000
namespace L3
open Hd
local macro_rules | `(tactic| walk_at "vc") => `(tactic| simp (maxSteps := 2000000) (disch := decide) only [vcE, vcT, vcS, stepS, pX, stepE, Hd.stepT, pConst, pUn, pBool, pCmps, pCallE, pSubE, pGens, pBoolT, pCmpsT, pUnT, pAsgN, pAsgS, pAsg1, pAsg, pAugS, pDel1, pDelS, pRet, eq_self, pEs, pKws, pName_loc, pName_glob, pName_debug, pStore_ok, setL_same, setL_ne, compLoc_free, ofString_inj, String.reduceEq, if_true, if_false, ne_eq, not_false_eq_true, true_and, reduceCtorEq, or_false, false_or, or_true, true_or, isComp, bindP_cons, bindP_nil, Option.some.injEq, exists_eq_left', exists_eq_left, and_true, behindInMarks, baseOk, notStar, kwNamed, notSet, isSlice, List.all_cons, List.all_nil, Bool.and_self, Bool.true_and, Bool.and_true, beq_self_eq_true, List.length_cons, List.length_nil, PV.bool.injEq, PV.int.injEq, Int.reduceNeg, Nat.zero_add, Nat.reduceAdd, Nat.reduceLT, decide_true, decide_false, PF.val, Bool.false_eq_true, ite_self, Bool.not_true, Bool.not_false,
    tr_none, tr_bool, tr_int, tr_str, kp_bi, kp_typ, kp_ref, ca_bi, ca_typ, ca_ref, cm_in, cm_notin, cm_eq, cm_ne, cm_lt, cm_le, cm_gt, cm_ge, cm_is, cm_isnot, c0_eqi, c0_nei, c0_lti, c0_lei, c0_gti, c0_gei, c0_eqs, c0_nes, c0_eqb, c0_neb, is_typ, is_nn, is_sn, is_rn, bi_addi, bi_subi, bi_muli, bi_divi, bi_modi, bi_powi, bi_adds, bi_addr, au_addi, au_subi, au_adds, in_ref, su_str, it_str, sl_str pp_none pp_int, sl_str pp_int pp_none, sl_str pp_none pp_none, sl_str pp_int pp_int, sl_ref pp_none pp_int, sl_ref pp_int pp_none, sl_ref pp_none pp_none, sl_ref pp_int pp_int, op_none, op_some, setAll_ref, setAttr_ref, as_name, as_tuple, ss_nil, ss_cons, compSem, tests_nil, tests_one, Bool.false_and,
    g_type, g_str, g_list, g_len, g_range, g_nre, g_vre, g_Headers])
local macro_rules | `(tactic| walk_at "def") => `(tactic| ((case look => k_is); (case code => k_is); (case bd => rfl); (case clo => rfl); (case co => rfl); (case gen => rfl); (case kind => rfl); (case glob => rfl); (case bui => rfl); (case cells => decide +kernel); (case nofree => decide +kernel); (case hk => rfl)))
local macro_rules | `(tactic| walk_at "bnd") => `(tactic| (refine' bind_of ?bh ?be; (case bh => (first | exact BindsTo.of_eq rfl | (refine' binds_K (by assumption) ?ba ?bb ?bc ?bd ?bz; (case ba => rfl); (case bb => k_is); (case bc => rfl); (case bd => rfl); (case bz => rfl))))))
theorem fillB : PySem.Challenge.rw_dn0265_03 = PySem.Challenge.rw_dn0265_03 ∧ hd.heap_39 = hd.heap_39 := by
  k_fill
  exact ⟨rfl, rfl⟩
variable {P : Prg} [cn : Cn P] {n : Nat} {hp : PHeap} {Q : PV → PHeap → Prop}
theorem conv {self : PV} {x : Str} {b : Bool} (hx : Clean x) (hz : x.length ≤ 1000) (hq : Q (.str x) hp) : CallsC P (n + 1) (.ref 70) [self, .str x] [(Str.ofString "name", .bool b)] hp Q := by
  obtain ⟨w, hK⟩ := cn.hK
  refine' calls_def (m := 6) (pb := [(Str.ofString "self", self), (Str.ofString "value", .str x), (Str.ofString "name", .bool b)]) hK ?look ?code ?bd ?clo ?co ?gen ?kind ?glob ?bui ?cells ?nofree ?bnd ?hk ?_
  walk_at "def"
  case bnd =>
    intro s vs kws X e1 e2
    obtain ⟨v, u, rfl, hv, hu⟩ := map2 e1
    obtain ⟨k, rfl, hk⟩ := mapk1 e2
    walk_at "bnd"
    simp [pvb, hv, hu, hk, lookup_here]
  walk_at "vc"
  refine call_typeStr ?_
  walk_at "vc"
  cases b
  · walk_at "vc"
    refine ⟨_, meth_search vre, .inl ⟨_, rfl⟩, call_search vre hx (by omega) ?_⟩
    walk_at "vc"
    exact hq
  · walk_at "vc"
    refine ⟨_, meth_search nre, .inl ⟨_, rfl⟩, call_search nre hx (by omega) ?_⟩
    walk_at "vc"
    exact hq
theorem noHeaders : findIn P.K (.ref 171) (Str.ofString "_headers") = some none := by
  obtain ⟨w, hK⟩ := cn.hK
  rw [hK]; k_is
theorem taker : takerIn P.K 171 (Str.ofString "_headers") = some none := by
  obtain ⟨w, hK⟩ := cn.hK
  rw [hK]; k_is
theorem getA {args : List PV} {t d l : Addr} {es : List (Str × Str)} {nm : Str} {dflt : PV} (T : Tab 171 hp t d l es) (hx : Clean (Txt.lower nm)) (hz : nm.length ≤ 1000) (hz' : (Txt.lower nm).length ≤ 1000)
    (ha : args = [.ref t, .str nm, dflt] ∨ (args = [.ref t, .str nm] ∧ dflt = .none)) (hq : Q (got (look es (Txt.lower nm)) dflt) hp) : CallsC P (n + 2) (.ref 118) args [] hp Q := by
  obtain ⟨w, hK⟩ := cn.hK
  refine' calls_def (m := 6) (pb := [(Str.ofString "self", .ref t), (Str.ofString "name", .str nm), (Str.ofString "default", dflt)]) hK ?look ?code ?bd ?clo ?co ?gen ?kind ?glob ?bui ?cells ?nofree ?bnd ?hk ?_
  walk_at "def"
  case bnd =>
    intro s vs kws X e1 e2
    cases mapk0 e2
    rcases ha with rfl | ⟨rfl, rfl⟩
    · obtain ⟨v, u, r, rfl, hv, hu, hr⟩ := map3 e1
      walk_at "bnd"
      simp [pvb, hv, hu, hr, lookup_here]
    · obtain ⟨v, u, rfl, hv, hu⟩ := map2 e1
      walk_at "bnd"
      simp [pvb, hv, hu, lookup_here, pv_none0]
  walk_at "vc"
  refine ⟨_, tab_meth T clsOk m_conv rfl, .inr (.inr m_conv.keep), _, meth_lower, .inl ⟨_, rfl⟩, call_lower (by omega) ?_⟩
  refine (conv hx hz' ?_).calls
  refine tab_attr T clsOk noHeaders ?_
  obtain ⟨xs, hl, pr⟩ := T.l
  refine ⟨xs, by simp only [iterItems, hl], by simp only [rangeFits, hl], ?_⟩
  refine forL_ind (fun ys loc hp' => hp' = hp ∧ loc (Str.ofString "name") = some (.str (Txt.lower nm)) ∧ loc (Str.ofString "default") = some dflt ∧ ∃ es', Prs hp ys es' ∧ look es' (Txt.lower nm) = look es (Txt.lower nm) ∧ ∀ e ∈ es', e.1.length ≤ 1000) ?_ ?_ _ _ _ ?_
  · rintro loc hp' ⟨rfl, h1, h2, es', h3, h4, h5⟩
    cases h3
    refine ⟨dflt, h2, ?_⟩
    rw [← h4] at hq
    exact hq
  · rintro v rest loc hp' ⟨rfl, h1, h2, es', h3, h4, h5⟩ F hF
    cases h3 with
    | cons a r =>
      rename_i e es'
      obtain ⟨a, rfl, ha⟩ := a
      walk_at "vc"
      refine ⟨_, ha, ?_⟩
      walk_at "vc"
      refine ⟨_, meth_lower, .inl ⟨_, rfl⟩, call_lower (Nat.le_trans (h5 e (.head _)) (by decide)) ?_⟩
      refine ⟨_, h1, ?_⟩
      walk_at "vc"
      rw [look_cons] at h4
      by_cases he : Txt.lower e.1 = Txt.lower nm
      · rw [if_pos he] at h4
        simp only [he, decide_true, if_true]
        rw [← h4] at hq; exact hq
      · rw [if_neg he] at h4
        simp only [he, decide_false, Bool.false_eq_true, if_false]
        refine ⟨fun _ _ => rfl, hF _ _ ⟨rfl, ?_, ?_, es', r, h4, fun e he => h5 e (.tail _ he)⟩⟩
        · walk_at "vc"; exact h1
        · walk_at "vc"; exact h2
  · refine ⟨rfl, ?_, ?_, es, pr, rfl, fun e he => (T.clean e he).2⟩
    · walk_at "vc"
    · walk_at "vc"
theorem hasA {t d l : Addr} {es : List (Str × Str)} {nm : Str} (T : Tab 171 hp t d l es) (hx : Clean (Txt.lower nm)) (hz : nm.length ≤ 1000) (hz' : (Txt.lower nm).length ≤ 1000)
    (hq : Q (.bool (look es (Txt.lower nm)).isSome) hp) : CallsC P (n + 3) (.ref 103) [.ref t, .str nm] [] hp Q := by
  obtain ⟨w, hK⟩ := cn.hK
  refine' calls_def (m := 6) (pb := [(Str.ofString "self", .ref t), (Str.ofString "name", .str nm)]) hK ?look ?code ?bd ?clo ?co ?gen ?kind ?glob ?bui ?cells ?nofree ?bnd ?hk ?_
  walk_at "def"
  case bnd =>
    intro s vs kws X e1 e2
    cases mapk0 e2
    obtain ⟨v, u, rfl, hv, hu⟩ := map2 e1
    walk_at "bnd"
    simp [pvb, hv, hu, lookup_here, pv_none0]
  walk_at "vc"
  refine ⟨_, tab_meth T clsOk m_get rfl, .inr (.inr m_get.keep), (getA T hx hz hz' (.inr ⟨rfl, rfl⟩) ?_).calls⟩
  cases e : look es (Txt.lower nm) with
  | none => rw [e] at hq; simp only [got]; walk_at "vc"; exact hq
  | some v => rw [e] at hq; simp only [got]; walk_at "vc"; exact hq
theorem lenA {t d l : Addr} {es : List (Str × Str)} (T : Tab 171 hp t d l es) (hq : Q (.int es.length) hp) : CallsC P (n + 1) (.ref 77) [.ref t] [] hp Q := by
  obtain ⟨w, hK⟩ := cn.hK
  refine' calls_def (m := 6) (pb := [(Str.ofString "self", .ref t)]) hK ?look ?code ?bd ?clo ?co ?gen ?kind ?glob ?bui ?cells ?nofree ?bnd ?hk ?_
  walk_at "def"
  case bnd =>
    intro s vs kws X e1 e2
    cases mapk0 e2
    obtain ⟨v, rfl, hv⟩ := map1 e1
    walk_at "bnd"
    simp [pvb, hv, lookup_here, pv_none0]
  walk_at "vc"
  refine tab_attr T clsOk noHeaders ?_
  obtain ⟨xs, hl, pr⟩ := T.l
  have := T.size
  have e := pr.length
  exact call_len_list' (xs := xs) (by unfold lst; rw [hl]) (by omega) (by rw [e]; exact hq)
theorem delA {t d l : Addr} {es : List (Str × Str)} {nm : Str} (T : Tab 171 hp t d l es) (hx : Clean (Txt.lower nm)) (hz : nm.length ≤ 1000) (hz' : (Txt.lower nm).length ≤ 1000)
    (hq : ∀ hp', Grow l hp hp' → Tab 171 hp' t d l (without es (Txt.lower nm)) → Q .none hp') : CallsC P (n + 2) (.ref 89) [.ref t, .str nm] [] hp Q := by
  obtain ⟨w, hK⟩ := cn.hK
  refine' calls_def (m := 7) (pb := [(Str.ofString "self", .ref t), (Str.ofString "name", .str nm)]) hK ?look ?code ?bd ?clo ?co ?gen ?kind ?glob ?bui ?cells ?nofree ?bnd ?hk ?_
  walk_at "def"
  case bnd =>
    intro s vs kws X e1 e2
    cases mapk0 e2
    obtain ⟨v, u, rfl, hv, hu⟩ := map2 e1
    walk_at "bnd"
    simp [pvb, hv, hu, lookup_here, pv_none0]
  walk_at "vc"
  refine ⟨_, tab_meth T clsOk m_conv rfl, .inr (.inr m_conv.keep), _, meth_lower, .inl ⟨_, rfl⟩, call_lower (by omega) ?_⟩
  refine (conv hx hz' ?_).calls
  refine ⟨by rfl, ?_⟩
  walk_at "vc"
  refine tab_attr T clsOk noHeaders ?_
  obtain ⟨xs, hl, pr⟩ := T.l
  have hsz := T.size
  have hxs := pr.length
  refine ⟨xs, by simp only [iterItems, hl], by simp only [rangeFits, hl], by simp only [sizeLine]; omega, ?_⟩
  refine compL_ind (fun ys acc hp' => hp' = hp ∧ ∃ es1 es2, Prs hp acc es1 ∧ Prs hp ys es2 ∧ es1 ++ Hd.without es2 (Txt.lower nm) = Hd.without es (Txt.lower nm) ∧ ∀ e ∈ es2, e.1.length ≤ 1000) ?_ ?_ _ _ _ ?_
  · rintro acc hp' ⟨rfl, es1, es2, h1, h2, h3, h4⟩ c hc
    cases h2
    have T1 : Tab 171 (upd hp' c (.list acc)) t d l es := T.keep fun a po h => upd_old hc h
    have hcl : l ≠ c := fresh_ne hc hl
    have ha : acc.length = es1.length := h1.length
    simp only [without_nil, List.append_nil] at h3
    subst h3
    have hz2 := without_length (es := es) (nm := Txt.lower nm)
    refine tab_attr T1 clsOk noHeaders ?_
    refine ⟨xs, acc, hcl, upd_old hc hl, by unfold lst; rw [upd_same], by simp only [sizeLine]; omega, ?_⟩
    have G1 : Grow l hp' (upd (upd hp' c (.list acc)) l (.list acc)) := (Grow.new hc).trans .upd
    exact hq _ G1 (T.put G1 upd_same (h1.grow hl G1) (by omega) fun e he => T.clean e (mem_without he))
  · rintro v rest acc hp' ⟨rfl, es1, es2, h1, h2, h3, h4⟩ F hF
    cases h2 with
    | cons a r =>
      rename_i e es2
      obtain ⟨a, rfl, ha⟩ := a
      walk_at "vc"
      rw [su_seq (xs := [.str e.1, .str e.2]) (by unfold itemsOf; rw [ha])]
      refine ⟨0, .str e.1, rfl, rfl, by simp, ?_⟩
      refine ⟨_, meth_lower, .inl ⟨_, rfl⟩, call_lower (Nat.le_trans (h4 e (.head _)) (by decide)) ?_⟩
      walk_at "vc"
      rw [without_cons] at h3
      by_cases he : Txt.lower e.1 = Txt.lower nm
      · rw [if_pos he] at h3
        simp only [he, not_true_eq_false, decide_false, Bool.false_eq_true, if_false]
        exact ⟨fun _ _ => rfl, hF _ _ ⟨rfl, es1, es2, h1, r, h3, fun e he => h4 e (.tail _ he)⟩⟩
      · rw [if_neg he] at h3
        simp only [he, not_false_eq_true, decide_true, if_true]
        exact ⟨fun _ _ => rfl, hF _ _ ⟨rfl, es1 ++ [e], es2, h1.snoc ha, r, by rw [← h3]; simp, fun e he => h4 e (.tail _ he)⟩⟩
  · exact ⟨rfl, [], es, .nil, pr, rfl, fun e he => (T.clean e he).2⟩
theorem setA {t d l : Addr} {es : List (Str × Str)} {nm v : Str} (T : Tab 171 hp t d l es) (hx : Clean (Txt.lower nm)) (hz : nm.length ≤ 1000) (hz' : (Txt.lower nm).length ≤ 1000) (hn : Clean nm) (hv : Clean v) (hzv : v.length ≤ 1000) (hsz : es.length < 1000)
    (hq : ∀ hp', Grow l hp hp' → Tab 171 hp' t d l (Hd.without es (Txt.lower nm) ++ [(nm, v)]) → Q .none hp') : CallsC P (n + 3) (.ref 84) [.ref t, .str nm, .str v] [] hp Q := by
  obtain ⟨w, hK⟩ := cn.hK
  refine' calls_def (m := 7) (pb := [(Str.ofString "self", .ref t), (Str.ofString "name", .str nm), (Str.ofString "val", .str v)]) hK ?look ?code ?bd ?clo ?co ?gen ?kind ?glob ?bui ?cells ?nofree ?bnd ?hk ?_
  walk_at "def"
  case bnd =>
    intro s vs kws X e1 e2
    cases mapk0 e2
    obtain ⟨v, u, r, rfl, hv, hu, hr⟩ := map3 e1
    walk_at "bnd"
    simp [pvb, hv, hu, hr, lookup_here, pv_none0]
  walk_at "vc"
  rw [delItem_inst T.t]
  refine ⟨_, _, T.d, clsOk, m_delitem, (delA T hx hz hz' fun hp₁ G1 T1 => ?_).calls⟩
  refine tab_attr T1 clsOk noHeaders ?_
  obtain ⟨xs, hl, pr⟩ := T1.l
  refine ⟨_, meth_append hl, .inl ⟨_, rfl⟩, ?_⟩
  refine ⟨_, tab_meth T1 clsOk m_conv rfl, .inr (.inr m_conv.keep), (conv hn hz ?_).calls⟩
  refine ⟨_, tab_meth T1 clsOk m_conv rfl, .inr (.inr m_conv.keep), (conv hv hzv ?_).calls⟩
  refine ⟨by decide, fun c hc => ?_⟩
  have e1 := pr.length
  have e2 := without_length (es := es) (nm := Txt.lower nm)
  refine call_append (xs := xs) (upd_old hc hl) (by simp only [sizeLine]; omega) ?_
  have G2 : Grow l hp₁ (upd (upd hp₁ c (.tuple [.str nm, .str v])) l (.list (xs ++ [.ref c]))) := (Grow.new hc).trans .upd
  have hcl : c ≠ l := fun e => fresh_ne hc hl e.symm
  refine hq _ (G1.trans G2) (T1.put G2 upd_same ((pr.grow hl G2).snoc (by rw [upd_ne hcl, upd_same])) (by simp; omega) fun e he => ?_)
  rcases List.mem_append.mp he with he | he
  · exact T1.clean e he
  · cases List.mem_singleton.mp he; exact ⟨hn, hz⟩
theorem initA {x d : Addr} (h1 : hp x = some (.inst 171 d)) (h2 : hp d = some (.attrs [])) (hq : ∀ l, hp l = none → Q .none (upd (upd hp l (.list [])) d (.attrs [(Str.ofString "_headers", .ref l)]))) : CallsC P (n + 1) (.ref 63) [.ref x] [] hp Q := by
  obtain ⟨w, hK⟩ := cn.hK
  refine' calls_def (m := 7) (pb := [(Str.ofString "self", .ref x), (Str.ofString "headers", .none)]) hK ?look ?code ?bd ?clo ?co ?gen ?kind ?glob ?bui ?cells ?nofree ?bnd ?hk ?_
  walk_at "def"
  case bnd =>
    intro s vs kws X e1 e2
    cases mapk0 e2
    obtain ⟨v, rfl, hv⟩ := map1 e1
    walk_at "bnd"
    simp [pvb, hv, lookup_here, pv_none0]
  walk_at "vc"
  refine ⟨by decide, fun c hc => ?_⟩
  refine call_typeList (xs := []) (by unfold lst; rw [upd_same]) ?_
  walk_at "vc"
  have hcd : c ≠ d := fun e => fresh_ne hc h2 e.symm
  refine ⟨171, d, upd_old hc h1, upd_old hc h2, clsOk, taker, [], ?_, ?_, hq c hc⟩
  · simp only [iterItems]; rw [upd_ne hcd, upd_same]
  · simp only [rangeFits]; rw [upd_ne hcd, upd_same]; trivial
theorem newA (hq : ∀ t d l hp', (∀ a po, hp a = some po → hp' a = some po) → hp t = none → hp l = none → Tab 171 hp' t d l [] → Q (.ref t) hp') : Calls P (n + 2) (.ref 171) [] [] hp Q := by
  refine call_make clsOk m_init fun x d hx hd hne => initA (d := d) upd_same (by rw [upd_ne hne.symm, upd_same]) fun l hl => ⟨rfl, ?_⟩
  have hlx : l ≠ x := fun e => by rw [e, upd_same] at hl; cases hl
  have hld : l ≠ d := fun e => by rw [e, upd_ne hne.symm, upd_same] at hl; cases hl
  have hl0 : hp l = none := by rw [upd_ne hlx, upd_ne hld] at hl; exact hl
  refine hq x d l _ (fun a po ha => ?_) hx hl0 ⟨?_, ?_, ⟨[], ?_, .nil⟩, by simp, fun e he => by cases he⟩
  · rw [upd_ne (fresh_ne hd ha), upd_ne (fresh_ne hl0 ha), upd_ne (fresh_ne hx ha), upd_ne (fresh_ne hd ha), ha]
  · rw [upd_ne hne, upd_ne hlx.symm, upd_same]
  · rw [upd_same]
  · rw [upd_ne hld, upd_same]
end L3

open PySem PySem.W PyProof.Rows Hd
namespace M3
def L (i : Nat) : Str := ⟨#[97 + i]⟩
def U (i : Nat) : Str := ⟨#[65 + i]⟩
theorem L_inj {i j : Nat} : L i = L j ↔ i = j := by
  unfold L
  constructor
  · intro h
    have h1 : (#[97 + i] : Array Nat) = #[97 + j] := congrArg Str.cps h
    have h2 : 97 + i = 97 + j := by simpa using h1
    omega
  · intro h; rw [h]
theorem low_L : ∀ i, i < 8 → Txt.lower (L i) = L i := by decide +kernel
theorem low_U : ∀ i, i < 8 → Txt.lower (U i) = L i := by decide +kernel
theorem up_L : ∀ i, i < 8 → Txt.upper (L i) = U i := by decide +kernel
theorem clean_L {i : Nat} (h : i < 8) : Clean (L i) := by
  intro c hc
  simp [L] at hc
  omega
theorem clean_U {i : Nat} (h : i < 8) : Clean (U i) := by
  intro c hc
  simp [U] at hc
  omega
theorem len_L (i : Nat) : (L i).length = 1 := rfl
theorem len_U (i : Nat) : (U i).length = 1 := rfl

/-- the table's pairs as plain numbers -/
structure Abs (es : List (Str × Str)) (ps : List (Nat × Nat)) : Prop where
  all : All2 (fun e p => Txt.lower e.1 = L p.1 ∧ e.2 = L p.2) es ps
  nodup : (ps.map (·.1)).Nodup
  keys : ∀ k ∈ ps.map (·.1), k < 8

theorem all_look {es : List (Str × Str)} {ps : List (Nat × Nat)} (h : All2 (fun e p => Txt.lower e.1 = L p.1 ∧ e.2 = L p.2) es ps) (i : Nat) : look es (L i) = (ps.lookup i).map L := by
  induction h with
  | nil => rfl
  | cons a _ ih =>
    rename_i e p es ps _
    obtain ⟨k, v⟩ := p
    rw [look_cons, ih, a.1, a.2, List.lookup_cons]
    by_cases hk : k = i
    · subst hk; simp
    · rw [if_neg (fun h => hk (L_inj.mp h))]
      have : (i == k) = false := by simp; omega
      rw [this]
theorem Abs.look {es : List (Str × Str)} {ps : List (Nat × Nat)} (h : Abs es ps) (i : Nat) : Hd.look es (L i) = (ps.lookup i).map L := all_look h.all i
def off (ps : List (Nat × Nat)) (i : Nat) : List (Nat × Nat) := ps.filter fun p => p.1 != i
def put (ps : List (Nat × Nat)) (i j : Nat) : List (Nat × Nat) := off ps i ++ [(i, j)]
theorem all_off {es : List (Str × Str)} {ps : List (Nat × Nat)} (h : All2 (fun e p => Txt.lower e.1 = L p.1 ∧ e.2 = L p.2) es ps) (i : Nat) : All2 (fun e p => Txt.lower e.1 = L p.1 ∧ e.2 = L p.2) (without es (L i)) (off ps i) := by
  induction h with
  | nil => exact .nil
  | cons a _ ih =>
    rename_i e p es ps _
    rw [without_cons, a.1]
    unfold off
    by_cases hk : p.1 = i
    · rw [if_pos (by rw [hk]), List.filter_cons_of_neg (by simp [hk])]; exact ih
    · rw [if_neg (fun h => hk (L_inj.mp h)), List.filter_cons_of_pos (by simp [hk])]; exact .cons a ih
theorem all_snoc {α β : Type} {R : α → β → Prop} {as : List α} {bs : List β} {a : α} {b : β} (h : All2 R as bs) (r : R a b) : All2 R (as ++ [a]) (bs ++ [b]) := by
  induction h with
  | nil => exact .cons r .nil
  | cons x _ ih => exact .cons x ih
theorem all_length {α β : Type} {R : α → β → Prop} {as : List α} {bs : List β} (h : All2 R as bs) : as.length = bs.length := by
  induction h with
  | nil => rfl
  | cons x _ ih => simp [ih]
theorem not_mem_off {ps : List (Nat × Nat)} {i : Nat} : i ∉ (off ps i).map (·.1) := by
  intro h
  obtain ⟨p, hp, rfl⟩ := List.mem_map.mp h
  have := (List.mem_filter.mp hp).2
  simp at this
theorem Abs.set {es : List (Str × Str)} {ps : List (Nat × Nat)} (h : Abs es ps) {k : Str} {i j : Nat} (hi : i < 8) (hk : Txt.lower k = L i) : Abs (without es (L i) ++ [(k, L j)]) (put ps i j) := by
  refine ⟨all_snoc (all_off h.all i) ⟨hk, rfl⟩, ?_, fun k hk => ?_⟩
  rotate_left
  · unfold put at hk
    rw [List.map_append, List.mem_append] at hk
    rcases hk with hk | hk
    · exact h.keys k ((List.Sublist.map _ List.filter_sublist).subset hk)
    · simp at hk; omega
  unfold put
  rw [List.map_append, List.nodup_append]
  refine ⟨(h.nodup.sublist (List.Sublist.map _ List.filter_sublist)), by simp, ?_⟩
  intro a ha b hb
  simp at hb
  rintro rfl
  rw [hb] at ha
  exact not_mem_off ha
theorem look_off_ne {ps : List (Nat × Nat)} {i k : Nat} (h : k ≠ i) : (off ps i).lookup k = ps.lookup k := by
  induction ps with
  | nil => rfl
  | cons p ps ih =>
    obtain ⟨a, b⟩ := p
    unfold off at ih ⊢
    by_cases ha : a = i
    · rw [List.filter_cons_of_neg (by simp [ha]), ih, List.lookup_cons]
      have : (k == a) = false := by simp; omega
      rw [this]
    · rw [List.filter_cons_of_pos (by simp [ha]), List.lookup_cons, List.lookup_cons, ih]
theorem look_off_self {ps : List (Nat × Nat)} {i : Nat} : (off ps i).lookup i = none := by
  induction ps with
  | nil => rfl
  | cons p ps ih =>
    obtain ⟨a, b⟩ := p
    unfold off at ih ⊢
    by_cases ha : a = i
    · rw [List.filter_cons_of_neg (by simp [ha]), ih]
    · rw [List.filter_cons_of_pos (by simp [ha]), List.lookup_cons, ih]
      have : (i == a) = false := by simp; omega
      rw [this]
theorem lookup_append {ps qs : List (Nat × Nat)} {k : Nat} : (ps ++ qs).lookup k = (ps.lookup k).or (qs.lookup k) := by
  induction ps with
  | nil => simp
  | cons p ps ih =>
    obtain ⟨a, b⟩ := p
    rw [List.cons_append, List.lookup_cons, List.lookup_cons, ih]
    cases k == a <;> rfl
theorem look_put {ps : List (Nat × Nat)} {i j k : Nat} : (put ps i j).lookup k = if k = i then some j else ps.lookup k := by
  unfold put
  rw [lookup_append]
  by_cases h : k = i
  · subst h; rw [look_off_self, if_pos rfl]; simp
  · rw [look_off_ne h, if_neg h, List.lookup_cons]
    have : (k == i) = false := by simp [h]
    rw [this]; simp
theorem off_length_none {ps : List (Nat × Nat)} {i : Nat} (h : ps.lookup i = none) : (off ps i).length = ps.length := by
  induction ps with
  | nil => rfl
  | cons p ps ih =>
    obtain ⟨a, b⟩ := p
    rw [List.lookup_cons] at h
    by_cases ha : i = a
    · subst ha; simp at h
    · have e : (i == a) = false := by simp [ha]
      rw [e] at h
      have ih := ih h
      unfold off at ih ⊢
      rw [List.filter_cons_of_pos (by simp; omega)]
      simp [ih]
theorem lookup_none_of {ps : List (Nat × Nat)} {i : Nat} (h : i ∉ ps.map (·.1)) : ps.lookup i = none := by
  induction ps with
  | nil => rfl
  | cons p ps ih =>
    obtain ⟨a, b⟩ := p
    simp only [List.map_cons, List.mem_cons, not_or] at h
    rw [List.lookup_cons, show (i == a) = false by simp [h.1]]
    exact ih h.2
theorem off_length_some {ps : List (Nat × Nat)} {i j : Nat} (hn : (ps.map (·.1)).Nodup) (h : ps.lookup i = some j) : (off ps i).length + 1 = ps.length := by
  induction ps with
  | nil => cases h
  | cons p ps ih =>
    obtain ⟨a, b⟩ := p
    rw [List.map_cons, List.nodup_cons] at hn
    rw [List.lookup_cons] at h
    by_cases ha : i = a
    · subst ha
      have := off_length_none (lookup_none_of hn.1)
      unfold off at this ⊢
      rw [List.filter_cons_of_neg (by simp), this]; rfl
    · rw [show (i == a) = false by simp [ha]] at h
      have ih := ih hn.2 h
      unfold off at ih ⊢
      rw [List.filter_cons_of_pos (by simp; omega)]
      simp only [List.length_cons]; omega
theorem put_length_none {ps : List (Nat × Nat)} {i j : Nat} (h : ps.lookup i = none) : (put ps i j).length = ps.length + 1 := by
  unfold put; rw [List.length_append, off_length_none h]; rfl
theorem put_length_some {ps : List (Nat × Nat)} {i j k : Nat} (hn : (ps.map (·.1)).Nodup) (h : ps.lookup i = some k) : (put ps i j).length = ps.length := by
  unfold put; rw [List.length_append, ← off_length_some hn h]; rfl

/-- no cycle, the head of each -/
structure Forest (f : Nat → Option Nat) (rt r : Nat → Nat) : Prop where
  edge : ∀ x, x < 8 → (f x = none ∧ rt x = x) ∨ ∃ y, y < 8 ∧ f x = some y ∧ rt y = rt x ∧ r x < r y
  root : ∀ x, x < 8 → rt x < 8 ∧ f (rt x) = none
inductive Path (f : Nat → Option Nat) : Nat → List Nat → Prop where
  | stop {x : Nat} : f x = none → Path f x [x]
  | step {x y : Nat} {p : List Nat} : f x = some y → Path f y p → Path f x (x :: p)

/-- what a way in a forest is -/
theorem Path.in {f : Nat → Option Nat} {rt r : Nat → Nat} (F : Forest f rt r) {x : Nat} {p : List Nat} (h : Path f x p) : x < 8 → (∀ y ∈ p, y < 8 ∧ rt y = rt x ∧ r x ≤ r y) ∧ p.Nodup ∧ ∃ q, p = q ++ [rt x] ∧ ∀ y ∈ q, (∃ z, f y = some z) ∧ r y < r (rt x) := by
  induction h with
  | stop hx =>
    rename_i x
    intro h8
    rcases F.edge x h8 with ⟨_, e⟩ | ⟨y, _, e, _⟩
    · exact ⟨by simp [h8], by simp, [], by simp [e], by simp⟩
    · rw [hx] at e; cases e
  | step hx _ ih =>
    rename_i x y p _
    intro h8
    rcases F.edge x h8 with ⟨e, _⟩ | ⟨z, hz, e, e2, hr⟩
    · rw [hx] at e; cases e
    · rw [hx] at e; cases e
      obtain ⟨i1, i2, q, i3, i4⟩ := ih hz
      have hin : ∀ w ∈ p, r x < r w := fun w hw => Nat.lt_of_lt_of_le hr (i1 w hw).2.2
      refine ⟨fun w hw => ?_, ?_, x :: q, by rw [i3, e2]; rfl, fun w hw => ?_⟩
      · rcases List.mem_cons.mp hw with rfl | hw
        · exact ⟨h8, rfl, Nat.le_refl _⟩
        · exact ⟨(i1 w hw).1, by rw [(i1 w hw).2.1, e2], Nat.le_of_lt (hin w hw)⟩
      · rw [List.nodup_cons]
        refine ⟨fun hw => Nat.lt_irrefl _ (hin x hw), i2⟩
      · rcases List.mem_cons.mp hw with rfl | hw
        · refine ⟨⟨_, hx⟩, ?_⟩
          have : rt y ∈ p := by rw [i3]; simp
          have := hin _ this
          rw [e2] at this; exact this
        · obtain ⟨a, b⟩ := i4 w hw
          exact ⟨a, by rw [← e2]; exact b⟩
theorem nodup_le : ∀ (n : Nat) (l : List Nat), l.Nodup → (∀ x ∈ l, x < n) → l.length ≤ n
  | 0, [], _, _ => Nat.le_refl _
  | 0, x :: l, _, h => absurd (h x (.head _)) (Nat.not_lt_zero _)
  | n + 1, l, hn, h => by
    have h1 := nodup_le n (l.erase n) (hn.erase n) fun x hx => by
      have h2 := (List.Nodup.mem_erase_iff hn).mp hx
      have := h x h2.2
      have := h2.1
      omega
    by_cases hm : n ∈ l
    · rw [List.length_erase_of_mem hm] at h1; omega
    · rw [List.erase_of_not_mem hm] at h1; omega
theorem Path.le {f : Nat → Option Nat} {rt r : Nat → Nat} (F : Forest f rt r) {x : Nat} {p : List Nat} (h : Path f x p) (hx : x < 8) : p.length ≤ 8 :=
  let ⟨a, b, _⟩ := h.in F hx
  nodup_le 8 p b fun y hy => (a y hy).1
theorem bound8 (r : Nat → Nat) : ∃ B, ∀ x, x < 8 → r x ≤ B := by
  refine ⟨r 0 + r 1 + r 2 + r 3 + r 4 + r 5 + r 6 + r 7, fun x hx => ?_⟩
  have : x = 0 ∨ x = 1 ∨ x = 2 ∨ x = 3 ∨ x = 4 ∨ x = 5 ∨ x = 6 ∨ x = 7 := by omega
  rcases this with rfl | rfl | rfl | rfl | rfl | rfl | rfl | rfl <;> omega
theorem Forest.path {f : Nat → Option Nat} {rt r : Nat → Nat} (F : Forest f rt r) {x : Nat} (hx : x < 8) : ∃ p, Path f x p := by
  obtain ⟨B, hB⟩ := bound8 r
  have key : ∀ k x, x < 8 → B - r x ≤ k → ∃ p, Path f x p := by
    intro k
    induction k with
    | zero =>
      intro x hx hk
      rcases F.edge x hx with ⟨e, _⟩ | ⟨y, hy, e, _, hr⟩
      · exact ⟨_, .stop e⟩
      · have := hB y hy; have := hB x hx; omega
    | succ k ih =>
      intro x hx hk
      rcases F.edge x hx with ⟨e, _⟩ | ⟨y, hy, e, _, hr⟩
      · exact ⟨_, .stop e⟩
      · have := hB y hy
        obtain ⟨p, hp⟩ := ih y hy (by omega)
        exact ⟨_, .step e hp⟩
  exact key _ x hx (Nat.le_refl _)
theorem Forest.turn {f : Nat → Option Nat} {rt r : Nat → Nat} (F : Forest f rt r) {x y z : Nat} (hx : x < 8) (hy : y < 8) (fx : f x = some z) (e : rt y = rt x) (hr : r x < r y) : Forest (fun k => if k = x then some y else f k) rt r := by
  refine ⟨fun k hk => ?_, fun k hk => ?_⟩
  · by_cases h : k = x
    · subst h; exact .inr ⟨y, hy, if_pos rfl, e, hr⟩
    · simp only [if_neg h]; exact F.edge k hk
  · obtain ⟨h1, h2⟩ := F.root k hk
    refine ⟨h1, ?_⟩
    show (if rt k = x then some y else f (rt k)) = none
    rw [if_neg (fun h => by rw [h, fx] at h2; cases h2), h2]
theorem Forest.self {f : Nat → Option Nat} {rt r : Nat → Nat} (F : Forest f rt r) {u : Nat} (hu : u < 8) (fu : f u = none) : rt u = u := by
  rcases F.edge u hu with ⟨_, e⟩ | ⟨y, _, e, _⟩
  · exact e
  · rw [fu] at e; cases e
theorem Forest.join {f : Nat → Option Nat} {rt r : Nat → Nat} (F : Forest f rt r) {u v : Nat} (hu : u < 8) (hv : v < 8) (fu : f u = none) (fv : f v = none) (huv : u ≠ v) :
    Forest (fun x => if x = u then some v else f x) (fun x => if rt x = u then v else rt x) (fun x => r x + if rt x = v then r u + 1 else 0) := by
  have ru := F.self hu fu
  have rv := F.self hv fv
  refine ⟨fun k hk => ?_, fun k hk => ?_⟩
  · by_cases h : k = u
    · subst h
      refine .inr ⟨v, hv, if_pos rfl, ?_, ?_⟩
      · show (if rt v = k then v else rt v) = if rt k = k then v else rt k
        rw [rv, if_neg (Ne.symm huv), if_pos ru]
      · show r k + (if rt k = v then r k + 1 else 0) < r v + (if rt v = v then r k + 1 else 0)
        rw [if_neg (by rw [ru]; exact huv), if_pos rv]; omega
    · simp only [if_neg h]
      rcases F.edge k hk with ⟨a, b⟩ | ⟨y, hy, a, b, c⟩
      · refine .inl ⟨a, ?_⟩
        rw [b, if_neg h]
      · refine .inr ⟨y, hy, a, by rw [b], ?_⟩
        rw [b]; omega
  · obtain ⟨h1, h2⟩ := F.root k hk
    by_cases h : rt k = u
    · simp only [if_pos h]
      exact ⟨hv, by rw [if_neg (Ne.symm huv), fv]⟩
    · simp only [if_neg h]
      exact ⟨h1, h2⟩

structure Good (es : List (Str × Str)) (ps : List (Nat × Nat)) (rt r : Nat → Nat) : Prop where
  abs : Abs es ps
  forest : Forest (fun x => ps.lookup x) rt r
theorem put_fun {ps : List (Nat × Nat)} {i j : Nat} : (fun k => (put ps i j).lookup k) = fun k => if k = i then some j else ps.lookup k := by
  funext k; exact look_put
theorem Good.turn {es : List (Str × Str)} {ps : List (Nat × Nat)} {rt r : Nat → Nat} (g : Good es ps rt r) {k : Str} {x y z : Nat} (hx : x < 8) (hy : y < 8) (fx : ps.lookup x = some z) (e : rt y = rt x) (hr : r x < r y) (hk : Txt.lower k = L x) :
    Good (without es (L x) ++ [(k, L y)]) (put ps x y) rt r ∧ (put ps x y).length = ps.length :=
  ⟨⟨g.abs.set hx hk, by rw [put_fun]; exact g.forest.turn hx hy fx e hr⟩, put_length_some g.abs.nodup fx⟩
theorem Good.join {es : List (Str × Str)} {ps : List (Nat × Nat)} {rt r : Nat → Nat} (g : Good es ps rt r) {k : Str} {u v : Nat} (hu : u < 8) (hv : v < 8) (fu : ps.lookup u = none) (fv : ps.lookup v = none) (huv : u ≠ v) (hk : Txt.lower k = L u) :
    Good (without es (L u) ++ [(k, L v)]) (put ps u v) (fun x => if rt x = u then v else rt x) (fun x => r x + if rt x = v then r u + 1 else 0) ∧ (put ps u v).length = ps.length + 1 :=
  ⟨⟨g.abs.set hu hk, by rw [put_fun]; exact g.forest.join hu hv fu fv huv⟩, put_length_none fu⟩
theorem put_some {ps : List (Nat × Nat)} {x y w z : Nat} (h : ps.lookup w = some z) : ∃ z', (put ps x y).lookup w = some z' := by
  rw [look_put]
  split
  · exact ⟨_, rfl⟩
  · exact ⟨_, h⟩
/-- one mark for each head -/
def Marks (rt : Nat → Nat) (m : Nat → Int) : Prop := ∀ i j, i < 8 → j < 8 → (rt i = rt j ↔ m i = m j)
theorem Marks.join {rt : Nat → Nat} {m : Nat → Int} (h : Marks rt m) {a b : Nat} (ha : a < 8) (hb : b < 8) : Marks (fun x => if rt x = rt a then rt b else rt x) (fun x => if m x = m a then m b else m x) := by
  intro i j hi hj
  have h1 := h i a hi ha
  have h2 := h j a hj ha
  have h3 := h i b hi hb
  have h4 := h j b hj hb
  have h5 := h i j hi hj
  show (if rt i = rt a then rt b else rt i) = (if rt j = rt a then rt b else rt j) ↔ (if m i = m a then m b else m i) = (if m j = m a then m b else m j)
  by_cases c1 : rt i = rt a <;> by_cases c2 : rt j = rt a
  · rw [if_pos c1, if_pos c2, if_pos (h1.mp c1), if_pos (h2.mp c2)]; simp
  · rw [if_pos c1, if_neg c2, if_pos (h1.mp c1), if_neg (fun q => c2 (h2.mpr q))]
    exact ⟨fun q => (h4.mp q.symm).symm, fun q => (h4.mpr q.symm).symm⟩
  · rw [if_neg c1, if_pos c2, if_neg (fun q => c1 (h1.mpr q)), if_pos (h2.mp c2)]
    exact h3
  · rw [if_neg c1, if_neg c2, if_neg (fun q => c1 (h1.mpr q)), if_neg (fun q => c2 (h2.mpr q))]
    exact h5
theorem Marks.same {rt : Nat → Nat} {m : Nat → Int} (h : Marks rt m) {a b : Nat} (ha : a < 8) (hb : b < 8) (e : rt a = rt b) : Marks rt (fun x => if m x = m a then m b else m x) := by
  have : (fun x => if m x = m a then m b else m x) = m := by
    funext x
    split
    · rename_i q; rw [q]; exact ((h a b ha hb).mp e).symm
    · rfl
  rw [this]; exact h
theorem Abs.length {es : List (Str × Str)} {ps : List (Nat × Nat)} (h : Abs es ps) : es.length = ps.length ∧ es.length ≤ 8 := by
  have e := all_length h.all
  refine ⟨e, ?_⟩
  have := nodup_le 8 _ h.nodup h.keys
  rw [List.length_map] at this
  omega
theorem Abs.empty : Abs [] [] := ⟨.nil, by simp, by simp⟩
theorem Good.empty : Good [] [] (fun x => x) (fun _ => 0) := ⟨.empty, fun x hx => .inl ⟨rfl, rfl⟩, fun x hx => ⟨hx, rfl⟩⟩
/-- below a head or beside it -/
structure Low (ps : List (Nat × Nat)) (rt r : Nat → Nat) (q : List Nat) (u : Nat) : Prop where
  u8 : u < 8
  all : ∀ y ∈ q, y < 8 ∧ (∃ z, ps.lookup y = some z) ∧ rt y = rt u ∧ r y < r u
theorem Good.low {es : List (Str × Str)} {ps : List (Nat × Nat)} {rt r : Nat → Nat} (g : Good es ps rt r) {x : Nat} {p : List Nat} (h : Path (fun k => ps.lookup k) x p) (hx : x < 8) :
    ∃ q, p = q ++ [rt x] ∧ Low ps rt r q (rt x) ∧ ps.lookup (rt x) = none ∧ p.length ≤ 8 := by
  obtain ⟨h1, h2, q, h3, h4⟩ := h.in g.forest hx
  obtain ⟨r1, r2⟩ := g.forest.root x hx
  have r2 : ps.lookup (rt x) = none := r2
  have e := g.forest.self r1 r2
  refine ⟨q, h3, ⟨r1, fun y hy => ?_⟩, r2, h.le g.forest hx⟩
  have hy' : y ∈ p := by rw [h3]; simp [hy]
  obtain ⟨a, b, c⟩ := h1 y hy'
  exact ⟨a, (h4 y hy).1, by rw [e, b], (h4 y hy).2⟩
theorem Low.put {ps : List (Nat × Nat)} {rt r : Nat → Nat} {q : List Nat} {u x y : Nat} (h : Low ps rt r q u) : Low (put ps x y) rt r q u :=
  ⟨h.u8, fun w hw => let ⟨a, ⟨z, b⟩, c, d⟩ := h.all w hw; ⟨a, put_some b, c, d⟩⟩
theorem Low.tail {ps : List (Nat × Nat)} {rt r : Nat → Nat} {q : List Nat} {u x : Nat} (h : Low ps rt r (x :: q) u) : Low ps rt r q u := ⟨h.u8, fun w hw => h.all w (.tail _ hw)⟩
theorem Low.join1 {ps : List (Nat × Nat)} {rt r : Nat → Nat} {q : List Nat} {u v : Nat} (h : Low ps rt r q u) (ru : rt u = u) (huv : u ≠ v) :
    Low (M3.put ps u v) (fun x => if rt x = u then v else rt x) (fun x => r x + if rt x = v then r u + 1 else 0) q u := by
  refine ⟨h.u8, fun w hw => ?_⟩
  obtain ⟨a, ⟨z, b⟩, c, d⟩ := h.all w hw
  refine ⟨a, put_some b, ?_, ?_⟩
  · show (if rt w = u then v else rt w) = if rt u = u then v else rt u
    rw [c]
  · show r w + (if rt w = v then r u + 1 else 0) < r u + (if rt u = v then r u + 1 else 0)
    rw [c]; omega
theorem Low.join2 {ps : List (Nat × Nat)} {rt r : Nat → Nat} {q : List Nat} {u v : Nat} (h : Low ps rt r q v) :
    Low (M3.put ps u v) (fun x => if rt x = u then v else rt x) (fun x => r x + if rt x = v then r u + 1 else 0) q v := by
  refine ⟨h.u8, fun w hw => ?_⟩
  obtain ⟨a, ⟨z, b⟩, c, d⟩ := h.all w hw
  refine ⟨a, put_some b, ?_, ?_⟩
  · show (if rt w = u then v else rt w) = if rt v = u then v else rt v
    rw [c]
  · show r w + (if rt w = v then r u + 1 else 0) < r v + (if rt v = v then r u + 1 else 0)
    rw [c]; omega
theorem Low.step {es : List (Str × Str)} {ps : List (Nat × Nat)} {rt r : Nat → Nat} {x u : Nat} {q : List Nat} {k : Str} (g : Good es ps rt r) (h : Low ps rt r (x :: q) u) (hk : Txt.lower k = L x) :
    Good (without es (L x) ++ [(k, L u)]) (M3.put ps x u) rt r ∧ (M3.put ps x u).length = ps.length ∧ Low (M3.put ps x u) rt r q u := by
  obtain ⟨a, ⟨z, b⟩, c, d⟩ := h.all x (.head _)
  obtain ⟨g1, g2⟩ := g.turn a h.u8 b c.symm d hk
  exact ⟨g1, g2, h.tail.put⟩
end M3

set_option maxHeartbeats 1000000
namespace L3
open Hd
local macro_rules | `(tactic| walk_at "vc") => `(tactic| simp (maxSteps := 2000000) (disch := decide) only [vcE, vcT, vcS, stepS, pX, stepE, Hd.stepT, pConst, pUn, pBool, pCmps, pCallE, pSubE, pGens, pBoolT, pCmpsT, pUnT, pAsgN, pAsgS, pAsg1, pAsg, pAugS, pDel1, pDelS, pRet, eq_self, pEs, pKws, pName_loc, pName_glob, pName_debug, pStore_ok, setL_same, setL_ne, compLoc_free, ofString_inj, String.reduceEq, if_true, if_false, ne_eq, not_false_eq_true, true_and, reduceCtorEq, or_false, false_or, or_true, true_or, isComp, bindP_cons, bindP_nil, Option.some.injEq, exists_eq_left', exists_eq_left, and_true, behindInMarks, baseOk, notStar, kwNamed, notSet, isSlice, List.all_cons, List.all_nil, Bool.and_self, Bool.true_and, Bool.and_true, beq_self_eq_true, List.length_cons, List.length_nil, PV.bool.injEq, PV.int.injEq, Int.reduceNeg, Nat.zero_add, Nat.reduceAdd, Nat.reduceLT, decide_true, decide_false, PF.val, Bool.false_eq_true, ite_self, Bool.not_true, Bool.not_false,
    tr_none, tr_bool, tr_int, tr_str, kp_bi, kp_typ, kp_ref, ca_bi, ca_typ, ca_ref, cm_in, cm_notin, cm_eq, cm_ne, cm_lt, cm_le, cm_gt, cm_ge, cm_is, cm_isnot, c0_eqi, c0_nei, c0_lti, c0_lei, c0_gti, c0_gei, c0_eqs, c0_nes, c0_eqb, c0_neb, is_typ, is_nn, is_sn, is_rn, bi_addi, bi_subi, bi_muli, bi_divi, bi_modi, bi_powi, bi_adds, bi_addr, au_addi, au_subi, au_adds, in_ref, su_str, it_str, sl_str pp_none pp_int, sl_str pp_int pp_none, sl_str pp_none pp_none, sl_str pp_int pp_int, sl_ref pp_none pp_int, sl_ref pp_int pp_none, sl_ref pp_none pp_none, sl_ref pp_int pp_int, op_none, op_some, setAll_ref, setAttr_ref, as_name, as_tuple, ss_nil, ss_cons, compSem, tests_nil, tests_one, Bool.false_and,
    g_type, g_str, g_list, g_len, g_range, g_nre, g_vre, g_Headers])
local macro_rules | `(tactic| walk_at "def") => `(tactic| ((case look => k_is); (case code => k_is); (case bd => rfl); (case clo => rfl); (case co => rfl); (case gen => rfl); (case kind => rfl); (case glob => rfl); (case bui => rfl); (case cells => decide +kernel); (case nofree => decide +kernel); (case hk => rfl)))
local macro_rules | `(tactic| walk_at "bnd") => `(tactic| (refine' bind_of ?bh ?be; (case bh => (first | exact BindsTo.of_eq rfl | (refine' binds_K (by assumption) ?ba ?bb ?bc ?bd ?bz; (case ba => rfl); (case bb => k_is); (case bc => rfl); (case bd => rfl); (case bz => rfl))))))
theorem fillC : PySem.Challenge.rw_dn0265_03 = PySem.Challenge.rw_dn0265_03 ∧ hd.heap_39 = hd.heap_39 := by
  k_fill
  exact ⟨rfl, rfl⟩
variable {P : Prg} [cn : Cn P] {n : Nat} {hp : PHeap} {Q : PV → PHeap → Prop}
open M3
theorem wayA {t d l : Addr} {es : List (Str × Str)} {ps : List (Nat × Nat)} {rt r : Nat → Nat} {x : Nat} (T : Tab 171 hp t d l es) (g : Good es ps rt r) (hx : x < 8)
    (hq : ∀ p c hp', Path (fun k => ps.lookup k) x p → (∀ a po, hp a = some po → hp' a = some po) → hp c = none → hp' c = some (.list (p.map fun i => PV.str (L i))) → Q (.ref c) hp') : CallsC P (n + 3) (.ref 182) [.ref t, .str (L x)] [] hp Q := by
  obtain ⟨w, hK⟩ := cn.hK
  refine' calls_def (m := 7) (pb := [(Str.ofString "table", .ref t), (Str.ofString "letter", .str (L x))]) hK ?look ?code ?bd ?clo ?co ?gen ?kind ?glob ?bui ?cells ?nofree ?bnd ?hk ?_
  walk_at "def"
  case bnd =>
    intro s vs kws X e1 e2
    cases mapk0 e2
    obtain ⟨v, u, rfl, hv, hu⟩ := map2 e1
    walk_at "bnd"
    simp [pvb, hv, hu, lookup_here, pv_none0]
  walk_at "vc"
  refine ⟨by decide, fun c hc => ?_⟩
  refine call_range1 fun k hk => ?_
  have hkc : k ≠ c := fun e => by rw [e, upd_same] at hk; cases hk
  have hk0 : hp k = none := by rw [upd_ne hkc] at hk; exact hk
  refine ⟨irng 0 9, by simp only [iterItems, upd_same]; rfl, by simp only [rangeFits, upd_same]; decide, ?_⟩
  obtain ⟨p, hp0⟩ := g.forest.path hx
  have hp8 := hp0.le g.forest hx
  refine forL_ind (fun ys loc hp' => (∀ a po, hp a = some po → hp' a = some po) ∧ hp' k = some (.range 0 9) ∧ loc (Str.ofString "table") = some (.ref t) ∧ loc (Str.ofString "way") = some (.ref c) ∧
    ∃ y q q', loc (Str.ofString "letter") = some (.str (L y)) ∧ y < 8 ∧ Path (fun k => ps.lookup k) y (y :: q') ∧ q ++ y :: q' = p ∧ hp' c = some (.list ((q ++ [y]).map fun i => PV.str (L i))) ∧ ys.length + q.length = 9) ?_ ?_ _ _ _ ?_
  · rintro loc hp' ⟨h1, h2, h3, h4, y, q, q', h5, h6, h7, rfl, h9, h10⟩
    simp at hp8 h10; omega
  · rintro v rest loc hp' ⟨h1, h2, h3, h4, y, q, q', h5, h6, h7, rfl, h9, h10⟩ F hF
    walk_at "vc"
    have T1 : Tab 171 hp' t d l es := T.keep h1
    simp only [h3, h4, h5, Option.some.injEq, exists_eq_left']
    have hU : Txt.upper (L y) = U y := up_L y h6
    have hlo : Txt.lower (U y) = L y := low_U y h6
    refine ⟨_, tab_meth T1 clsOk m_get rfl, .inr (.inr m_get.keep), _, meth_upper, .inl ⟨_, rfl⟩, call_upper (by rw [len_L]; decide) ?_⟩
    rw [hU]
    refine (getA T1 (dflt := .str (L y)) (by rw [hlo]; exact clean_L h6) (by rw [len_U]; decide) (by rw [hlo, len_L]; decide) (.inl rfl) ?_).calls
    rw [hlo, g.abs.look y]
    cases h7 with
    | stop e =>
      have e : ps.lookup y = none := e
      simp only [e, Option.map_none, got]
      walk_at "vc"
      exact hq _ c hp' hp0 h1 hc (by simpa using h9)
    | step e pz =>
      rename_i z
      have e : ps.lookup y = some z := e
      simp only [e, Option.map_some, got]
      walk_at "vc"
      obtain ⟨hz8, hne⟩ : z < 8 ∧ z ≠ y := by
        rcases g.forest.edge y h6 with ⟨e', _⟩ | ⟨z', hz, e', _, hr⟩
        · have e' : ps.lookup y = none := e'
          rw [e] at e'; cases e'
        · have e' : ps.lookup y = some z' := e'
          rw [e] at e'; cases e'
          exact ⟨hz, fun q => by rw [q] at hr; omega⟩
      have hLz : ¬ L z = L y := fun q => hne (L_inj.mp q)
      simp only [hLz, decide_false, Bool.false_eq_true, if_false, h4, Option.some.injEq, exists_eq_left']
      refine ⟨_, meth_append h9, .inl ⟨_, rfl⟩, call_append h9 (by simp at h10 ⊢; simp only [sizeLine]; omega) ?_⟩
      have hck : k ≠ c := hkc
      refine ⟨fun a ha => by cases ha; rw [upd_ne hkc, upd_same, h2], hF _ _ ⟨fun a po h => by rw [upd_ne (fresh_ne hc h), h1 a po h], by rw [upd_ne hkc, h2], ?_, ?_, ?_⟩⟩
      · walk_at "vc"; exact h3
      · walk_at "vc"; exact h4
      · obtain ⟨q'', rfl⟩ : ∃ q'', q' = z :: q'' := by cases pz <;> exact ⟨_, rfl⟩
        refine ⟨z, q ++ [y], q'', ?_, hz8, pz, by simp, by rw [upd_same]; simp, by simp at h10 ⊢; omega⟩
        walk_at "vc"
  · refine ⟨fun a po h => by rw [upd_ne (fresh_ne hk0 h), upd_old hc h], upd_same, ?_, ?_, x, [], ?_⟩
    · walk_at "vc"
    · walk_at "vc"
    · obtain ⟨q', rfl⟩ : ∃ q', p = x :: q' := by cases hp0 <;> exact ⟨_, rfl⟩
      refine ⟨q', ?_, hx, hp0, rfl, by rw [upd_ne hkc.symm, upd_same]; rfl, rfl⟩
      walk_at "vc"
end L3

set_option maxHeartbeats 1000000
namespace L3
open Hd
theorem fillE : PySem.Challenge.rw_dn0265_03 = PySem.Challenge.rw_dn0265_03 ∧ hd.heap_39 = hd.heap_39 := by
  k_fill
  exact ⟨rfl, rfl⟩
theorem g_way {P : Prg} [cn : Cn P] : gl P (Str.ofString "_law_way") = some (.ref 182) := by
  obtain ⟨w, hK⟩ := cn.hK
  exact gl_glob (v := .ref 182) cn.G (by rw [hK]; k_is)
theorem kp_way {P : Prg} [cn : Cn P] : keepIn P.K (.ref 182) = true := by
  obtain ⟨w, hK⟩ := cn.hK
  rw [hK]; k_is
theorem kp_Headers {P : Prg} [cn : Cn P] : keepIn P.K (.ref 171) = true := by
  obtain ⟨w, hK⟩ := cn.hK
  rw [hK]; k_is
local macro_rules | `(tactic| walk_at "def") => `(tactic| ((case look => k_is); (case code => k_is); (case bd => rfl); (case clo => rfl); (case co => rfl); (case gen => rfl); (case kind => rfl); (case glob => rfl); (case bui => rfl); (case cells => decide +kernel); (case nofree => decide +kernel); (case hk => rfl)))
local macro_rules | `(tactic| walk_at "bnd") => `(tactic| (refine' bind_of ?bh ?be; (case bh => (first | exact BindsTo.of_eq rfl | (refine' binds_K (by assumption) ?ba ?bb ?bc ?bd ?bz; (case ba => rfl); (case bb => k_is); (case bc => rfl); (case bd => rfl); (case bz => rfl))))))
local macro_rules | `(tactic| walk_at "vs") => `(tactic| simp (maxSteps := 2000000) (disch := decide) only [vcE, vcT, vcS, stepS_nil, pX, stepE, Hd.stepT, pConst, pUn, pBool, pCmps, pCallE, pSubE, pGens, pBoolT, pCmpsT, pUnT, pAsgN, pAsgS, pAsg1, pAsg, pAugS, pDel1, pDelS, pRet, eq_self, pEs, pKws, pName_loc, pName_glob, pName_debug, pStore_ok, setL_same, setL_ne, compLoc_free, ofString_inj, String.reduceEq, if_true, if_false, ne_eq, not_false_eq_true, true_and, reduceCtorEq, or_false, false_or, or_true, true_or, isComp, bindP_cons, bindP_nil, Option.some.injEq, exists_eq_left', exists_eq_left, and_true, behindInMarks, baseOk, notStar, kwNamed, notSet, isSlice, List.all_cons, List.all_nil, Bool.and_self, Bool.true_and, Bool.and_true, beq_self_eq_true, List.length_cons, List.length_nil, PV.bool.injEq, PV.int.injEq, Int.reduceNeg, Nat.zero_add, Nat.reduceAdd, Nat.reduceLT, decide_true, decide_false, PF.val, Bool.false_eq_true, ite_self, Bool.not_true, Bool.not_false,
    tr_none, tr_bool, tr_int, tr_str, kp_bi, kp_typ, kp_ref, kp_way, kp_Headers, ca_bi, ca_typ, ca_ref, cm_in, cm_notin, cm_eq, cm_ne, cm_lt, cm_le, cm_gt, cm_ge, cm_is, cm_isnot, c0_eqi, c0_nei, c0_lti, c0_lei, c0_gti, c0_gei, c0_eqs, c0_nes, c0_eqb, c0_neb, is_typ, is_nn, is_sn, is_rn, bi_addi, bi_subi, bi_muli, bi_divi, bi_modi, bi_powi, bi_adds, bi_addr, au_addi, au_subi, au_adds, in_ref, su_str, it_str, sl_str pp_none pp_int, sl_str pp_int pp_none, sl_str pp_none pp_none, sl_str pp_int pp_int, sl_ref pp_none pp_int, sl_ref pp_int pp_none, sl_ref pp_none pp_none, sl_ref pp_int pp_int, op_none, op_some, setAll_ref, setAttr_ref, as_name, as_tuple, ss_nil, ss_cons, compSem, tests_nil, tests_one, Bool.false_and,
    g_type, g_str, g_list, g_len, g_range, g_nre, g_vre, g_Headers, g_way])
theorem fillD : PySem.Challenge.rw_dn0265_03 = PySem.Challenge.rw_dn0265_03 ∧ hd.heap_39 = hd.heap_39 := by
  k_fill
  exact ⟨rfl, rfl⟩
variable {P : Prg} [cn : Cn P] {n : Nat} {hp : PHeap} {Q : PV → PHeap → Prop}
open M3
theorem seqIndex_pos {i : Int} {len : Nat} (h0 : 0 ≤ i) (h1 : i < len) : seqIndex? i len = some i.toNat := by
  unfold seqIndex?
  have hn : ¬ i < 0 := by omega
  simp [hn, h0, h1]
theorem abc_at : ∀ k, k < 8 → (Str.ofString "abcdefgh").cps[k]? = some (97 + k) := by decide +kernel
theorem abc_signs : iterItems hp (.str (Str.ofString "abcdefgh")) = some ((List.range 8).map fun i => PV.str (L i)) := by
  have : Hd.signs (Str.ofString "abcdefgh") = (List.range 8).map fun i => PV.str (L i) := by decide +kernel
  show some (Hd.signs _) = _
  rw [this]
theorem letter_at {i : Int} (h0 : 0 ≤ i) (h1 : i < 8) (hq : Q (.str (L i.toNat)) hp) : pSub P n (.str (Str.ofString "abcdefgh")) (.int i) hp Q := by
  rw [su_str, it_str]
  exact ⟨i.toNat, 97 + i.toNat, seqIndex_pos h0 (by show i < 8; exact h1), abc_at _ (by omega), by decide, hq⟩
def marksL (m : Nat → Int) : List PV := (List.range 8).map fun i => .int (m i)
theorem mark_at {c : Addr} {m : Nat → Int} {i : Int} (hc : hp c = some (.list (marksL m))) (h0 : 0 ≤ i) (h1 : i < 8) (hq : Q (.int (m i.toNat)) hp) : pSub P n (.ref c) (.int i) hp Q := by
  rw [su_seq (xs := marksL m) (by unfold itemsOf; rw [hc])]
  refine ⟨i.toNat, _, seqIndex_pos h0 (by simp [marksL]; exact h1), ?_, by simp [marksL], hq⟩
  unfold marksL
  rw [List.getElem?_map, List.getElem?_range (by omega)]; rfl
theorem head_at {c : Addr} {g : Nat → Nat} {i : Int} (hc : hp c = some (.list ((List.range 8).map fun i => PV.str (L (g i))))) (h0 : 0 ≤ i) (h1 : i < 8) (hq : Q (.str (L (g i.toNat))) hp) : pSub P n (.ref c) (.int i) hp Q := by
  rw [su_seq (xs := (List.range 8).map fun i => PV.str (L (g i))) (by unfold itemsOf; rw [hc])]
  refine ⟨i.toNat, _, seqIndex_pos h0 (by simp; exact h1), ?_, by simp, hq⟩
  rw [List.getElem?_map, List.getElem?_range (by omega)]; rfl
theorem irng8 : ∀ v ∈ irng 0 8, ∃ i : Int, v = .int i ∧ 0 ≤ i ∧ i < 8 := by
  intro v hv
  unfold irng at hv
  obtain ⟨k, hk, rfl⟩ := List.mem_map.mp hv
  have := List.mem_range.mp hk
  exact ⟨_, rfl, by omega, by omega⟩
theorem cut_last {xs : List PV} {z : PV} : cut (xs ++ [z]) none (some (-1)) = xs := by
  unfold cut clipAt
  simp
  have e : (max 0 (min (-1 + ((xs.length : Int) + 1)) ((xs.length : Int) + 1))).toNat = xs.length := by omega
  rw [e]; simp
theorem setL3 {t d l : Addr} {es : List (Str × Str)} {ps : List (Nat × Nat)} {k : Str} {x u : Nat} {H : PHeap → Prop} (T : Tab 171 hp t d l es) (A : Abs es ps) (hk : k = L x ∨ k = U x) (hx : x < 8) (hu : u < 8)
    (hq : ∀ hp', Grow l hp hp' → Tab 171 hp' t d l (Hd.without es (L x) ++ [(k, L u)]) → H hp') : pSetItem P (n + 3) (.ref t) (.str k) (.str (L u)) hp H := by
  have h1 : Txt.lower k = L x := by rcases hk with rfl | rfl; exact low_L x hx; exact low_U x hx
  have h2 : Clean k := by rcases hk with rfl | rfl; exact clean_L hx; exact clean_U hx
  have h3 : k.length ≤ 1000 := by rcases hk with rfl | rfl; rw [len_L]; decide; rw [len_U]; decide
  have h4 := A.length
  rw [setItem_inst T.t]
  refine ⟨_, _, T.d, clsOk, m_setitem, (setA T (by rw [h1]; exact clean_L hx) h3 (by rw [h1, len_L]; decide) h2 (clean_L hu) (by rw [len_L]; decide) (by omega) fun hp' G T' => hq hp' G ?_).calls⟩
  rw [h1] at T'; exact T'
theorem ne_tab {t d l a : Addr} {es : List (Str × Str)} {xs : List PV} (T : Tab 171 hp t d l es) (h : hp a = some (.flist xs)) : a ≠ l := by
  obtain ⟨ys, q, _⟩ := T.l
  intro e; rw [e, q] at h; cases h
structure LF (loc : Hd.Loc) (t c c1 : Addr) (x0 y0 : Int) : Prop where
  letters : loc (Str.ofString "letters") = some (.str (Str.ofString "abcdefgh"))
  table : loc (Str.ofString "table") = some (.ref t)
  marks : loc (Str.ofString "marks") = some (.ref c)
  way : loc (Str.ofString "way") = some (.ref c1)
  one : loc (Str.ofString "one") = some (.int x0)
  two : loc (Str.ofString "two") = some (.int y0)
theorem LF.set {loc : Hd.Loc} {t c c1 : Addr} {x0 y0 : Int} (h : LF loc t c c1 x0 y0) {z : String} {v : PV} (hz : (["letters", "table", "marks", "way", "one", "two"].all fun y => y != z) = true) : LF (setL loc (Str.ofString z) v) t c c1 x0 y0 := by
  simp only [List.all_cons, List.all_nil, Bool.and_true, Bool.and_eq_true, bne_iff_ne, ne_eq] at hz
  obtain ⟨a, b, c, d, e, f⟩ := hz
  refine ⟨?_, ?_, ?_, ?_, ?_, ?_⟩ <;> rw [setL_at]
  · rw [if_neg a]; exact h.letters
  · rw [if_neg b]; exact h.table
  · rw [if_neg c]; exact h.marks
  · rw [if_neg d]; exact h.way
  · rw [if_neg e]; exact h.one
  · rw [if_neg f]; exact h.two
theorem law3 {prog : Program} {w : World} {s : Shared} {a : Addr} {items : Array Value} {ns : List Int} {R : Result → Shared → Prop} (KX : P.K.In s.heap) (mgN : s.heap.Ns mainGlobals P.mg) (mbN : s.heap.Ns builtinsNs P.mb) (lim : s.heap.NoLimit)
    (hl : s.heap.IsList a items) (hi : IntsAre items.toList ns) (hlen : ns.length ≤ 63)
    (hR : ∀ s', (∀ b o, s.heap.get? b = some o → s'.heap.get? b = some o) → (∃ h t, s' = { s with heap := h, toks := t }) → R (.ok (.ret (.bool true))) s') :
    codeAny (model prog w) callerA (.call (.ref 187) ⟨[.ref a], []⟩) R s := by
  obtain ⟨w', hK⟩ := cn.hK
  refine' top_call (n := 8) (m := 12) (pb := [(Str.ofString "script", .ref a)]) hK (by decide) (by decide) (hK ▸ KX) mgN mbN lim hl ?look ?code ?bd ?clo ?co ?gen ?kind ?glob ?bui ?cells ?nofree ?bnd ?hk hR ?_
  walk_at "def"
  case bnd =>
    intro s vs kws X e1 e2
    cases mapk0 e2
    obtain ⟨v, rfl, hv⟩ := map1 e1
    walk_at "bnd"
    simp [pvb, hv, lookup_here, pv_none0]
  rw [ints_pv hi]
  clear hR hi hl lim mbN mgN KX hK
  rw [vcS]
  refine stepS_cons ?_
  walk_at "vs"
  refine stepS_cons ?_
  walk_at "vs"
  refine newA fun t d l hp₁ k1 ht hl0 T => ?_
  refine stepS_cons ?_
  walk_at "vs"
  refine call_range1 fun c0 hc0 => call_listRange (lo := 0) (hi := 8) upd_same (by decide) (by decide) (by decide) (by decide) fun c hc => ?_
  refine stepS_cons ?_
  walk_at "vs"
  refine stepS_cons ?_
  walk_at "vs"
  simp only [show ((8 : Int) - 0).toNat = 8 from rfl]
  have T2 : Tab 171 (upd (upd hp₁ c0 (.range 0 8)) c (.list (irng 0 8))) t d l [] := T.keep fun a po h => upd_old hc (upd_old hc0 h)
  generalize hH : upd (upd hp₁ c0 (.range 0 8)) c (.list (irng 0 8)) = H at T2 ⊢
  have hHa : H a = some (.flist (ns.map PV.int)) := by rw [← hH]; exact upd_old hc (upd_old hc0 (k1 _ _ upd_same))
  have hHc : H c = some (.list (marksL fun i => i)) := by rw [← hH, upd_same]; rfl
  have hcl : c ≠ l := by
    obtain ⟨xs, q, _⟩ := T.l
    exact fun e => fresh_ne hc (upd_old hc0 q) e.symm
  refine ⟨ns.map PV.int, by simp only [iterItems, hHa], by simp only [rangeFits, hHa], ?_⟩
  refine forL_ind (fun ys loc hp' => hp' a = some (.flist (ns.map PV.int)) ∧ loc (Str.ofString "letters") = some (.str (Str.ofString "abcdefgh")) ∧ loc (Str.ofString "table") = some (.ref t) ∧
    ∃ ns' c es ps rt r m, ys = List.map PV.int ns' ∧ loc (Str.ofString "marks") = some (.ref c) ∧ hp' c = some (.list (marksL m)) ∧ c ≠ l ∧ loc (Str.ofString "joined") = some (.int (ps.length : Nat)) ∧ Tab 171 hp' t d l es ∧ Good es ps rt r ∧ Marks rt m) ?_ ?_ _ _ _ ?_
  · rintro loc hp' ⟨h1, h2, h3, ns', c, es, ps, rt, r, m, h4, h5, h6, h7, h8, h9, h10, h11⟩
    clear h4
    walk_at "vs"
    refine stepS_cons ?_
    walk_at "vs"
    refine ⟨by decide, fun ch hch => ?_⟩
    refine stepS_cons ?_
    walk_at "vs"
    simp only [h2, Option.some.injEq, exists_eq_left']
    refine ⟨(List.range 8).map fun i => PV.str (L i), abc_signs, trivial, ?_⟩
    have hcch : c ≠ ch := fresh_ne hch h6
    have hnh : ch ≠ l := by obtain ⟨xs, q, _⟩ := h9.l; exact fun e => fresh_ne hch q e.symm
    refine forL_ind (fun ys l'' h => l'' (Str.ofString "table") = some (.ref t) ∧ l'' (Str.ofString "heads") = some (.ref ch) ∧ l'' (Str.ofString "marks") = some (.ref c) ∧ l'' (Str.ofString "joined") = some (.int (ps.length : Nat)) ∧
      h c = some (.list (marksL m)) ∧ Tab 171 h t d l es ∧ ∃ is js, ys = List.map (fun i => PV.str (L i)) is ∧ js ++ is = List.range 8 ∧ h ch = some (.list (js.map fun i => PV.str (L (rt i))))) ?_ ?_ _ _ _ ?_
    · rintro l'' hp5 ⟨b1, b2, b3, b4, b5, b6, is, js, b7, b8, b9⟩
      obtain rfl : is = [] := by cases is with | nil => rfl | cons _ _ => cases b7
      rw [List.append_nil] at b8
      subst b8
      walk_at "vs"
      refine stepS_cons ?_
      walk_at "vs"
      refine call_range1 fun r1 hr1 => ?_
      refine ⟨irng 0 8, by simp only [iterItems, upd_same]; rfl, by simp only [rangeFits, upd_same]; decide, ?_⟩
      refine forL_ind (fun ys l6 h => l6 (Str.ofString "table") = some (.ref t) ∧ l6 (Str.ofString "heads") = some (.ref ch) ∧ l6 (Str.ofString "marks") = some (.ref c) ∧ l6 (Str.ofString "joined") = some (.int (ps.length : Nat)) ∧
        h c = some (.list (marksL m)) ∧ Tab 171 h t d l es ∧ h ch = some (.list ((List.range 8).map fun i => PV.str (L (rt i)))) ∧ h r1 = some (.range 0 8) ∧ ∀ v ∈ ys, ∃ i : Int, v = .int i ∧ 0 ≤ i ∧ i < 8) ?_ ?_ _ _ _ ?_
      · rintro l6 hp6 ⟨d1, d2, d3, d4, d5, d6, d7, d8, d9⟩
        walk_at "vs"
        refine stepS_cons ?_
        walk_at "vs"
        simp only [d2, Option.some.injEq, exists_eq_left']
        refine ⟨(List.range 8).map fun i => PV.str (L (rt i)), by simp only [iterItems, d7], by simp only [rangeFits, d7], ?_⟩
        refine forL_ind (fun ys l7 h => h = hp6 ∧ l7 (Str.ofString "table") = some (.ref t) ∧ l7 (Str.ofString "joined") = some (.int (ps.length : Nat)) ∧ ∃ is, ys = List.map (fun i => PV.str (L (rt i))) is ∧ ∀ i ∈ is, i < 8) ?_ ?_ _ _ _ ?_
        · rintro l7 hp7 ⟨rfl, e2, e3, _⟩
          walk_at "vs"
          refine stepS_cons ?_
          walk_at "vs"
          simp only [e2, Option.some.injEq, exists_eq_left']
          have hz := h10.abs.length
          refine call_lenI (n := 7) m_len d6.t d6.d (lenA (n := 6) d6 ⟨es.length, rfl, by omega, ?_⟩).calls
          simp only [e3, Option.some.injEq, exists_eq_left']
          walk_at "vs"
          rw [hz.1]; simp
        · rintro v rest l7 hp7 ⟨rfl, e2, e3, is, e4, e5⟩ F hF
          obtain ⟨k, is', rfl, rfl, rfl⟩ : ∃ k is', is = k :: is' ∧ v = PV.str (L (rt k)) ∧ rest = List.map (fun i => PV.str (L (rt i))) is' := by
            cases is with
            | nil => cases e4
            | cons k is' => cases e4; exact ⟨k, is', rfl, rfl, rfl⟩
          obtain ⟨rk8, rkn⟩ := h10.forest.root k (e5 k (.head _))
          have rkn : ps.lookup (rt k) = none := rkn
          have hlL : Txt.lower (L (rt k)) = L (rt k) := low_L _ rk8
          walk_at "vs"
          refine stepS_cons ?_
          walk_at "vs"
          simp only [e2, Option.some.injEq, exists_eq_left']
          refine ⟨_, _, _, _, d6.t, d6.d, m_contains, (hasA (n := 5) d6 (by rw [hlL]; exact clean_L rk8) (by rw [len_L]; decide) (by rw [hlL, len_L]; decide) ?_).calls⟩
          rw [hlL, h10.abs.look, rkn]
          refine ⟨false, rfl, ?_⟩
          walk_at "vs"
          refine ⟨fun _ _ => rfl, hF _ _ ⟨rfl, ?_, ?_, is', rfl, fun i hi => e5 i (.tail _ hi)⟩⟩
          · walk_at "vs"; exact e2
          · walk_at "vs"; exact e3
        · exact ⟨rfl, d1, d4, List.range 8, rfl, fun i hi => List.mem_range.mp hi⟩
      · rintro v rest l6 hp6 ⟨d1, d2, d3, d4, d5, d6, d7, d8, d9⟩ F hF
        obtain ⟨x0, rfl, hx0, hx1⟩ := d9 v (.head _)
        walk_at "vs"
        refine stepS_cons ?_
        walk_at "vs"
        refine call_range1 fun r2 hr2 => ?_
        refine ⟨irng 0 8, by simp only [iterItems, upd_same]; rfl, by simp only [rangeFits, upd_same]; decide, ?_⟩
        have hd6 : Tab 171 (upd hp6 r2 (.range 0 8)) t d l es := d6.keep fun a po h => upd_old hr2 h
        refine forL_ind (fun ys l7 h => h = upd hp6 r2 (.range 0 8) ∧ l7 (Str.ofString "table") = some (.ref t) ∧ l7 (Str.ofString "heads") = some (.ref ch) ∧ l7 (Str.ofString "marks") = some (.ref c) ∧ l7 (Str.ofString "joined") = some (.int (ps.length : Nat)) ∧ l7 (Str.ofString "one") = some (.int x0) ∧
          ∀ v ∈ ys, ∃ i : Int, v = .int i ∧ 0 ≤ i ∧ i < 8) ?_ ?_ _ _ _ ?_
        · rintro l7 hp7 ⟨rfl, e1, e2, e3, e4, e5, e6⟩
          walk_at "vs"
          exact ⟨fun a ha => by cases ha; rw [upd_old hr2 d8, upd_same], hF _ _ ⟨e1, e2, e3, e4, upd_old hr2 d5, hd6, upd_old hr2 d7, upd_old hr2 d8, fun v hv => d9 v (.tail _ hv)⟩⟩
        · rintro v rest l7 hp7 ⟨rfl, e1, e2, e3, e4, e5, e6⟩ F hF
          obtain ⟨y0, rfl, hy0, hy1⟩ := e6 v (.head _)
          walk_at "vs"
          refine stepS_cons ?_
          walk_at "vs"
          simp only [e2, e3, e5, Option.some.injEq, exists_eq_left']
          refine head_at (upd_old hr2 d7) hx0 hx1 (head_at (upd_old hr2 d7) hy0 hy1 ?_)
          walk_at "vs"
          refine mark_at (upd_old hr2 d5) hx0 hx1 (mark_at (upd_old hr2 d5) hy0 hy1 ?_)
          walk_at "vs"
          have hbe : decide (L (rt x0.toNat) = L (rt y0.toNat)) = decide (m x0.toNat = m y0.toNat) := by rw [decide_eq_decide, L_inj]; exact h11 _ _ (by omega) (by omega)
          simp only [hbe, not_true_eq_false, decide_false, Bool.false_eq_true, if_false]
          refine ⟨fun _ _ => rfl, hF _ _ ⟨rfl, ?_, ?_, ?_, ?_, ?_, fun v hv => e6 v (.tail _ hv)⟩⟩
          · walk_at "vs"; exact e1
          · walk_at "vs"; exact e2
          · walk_at "vs"; exact e3
          · walk_at "vs"; exact e4
          · walk_at "vs"; exact e5
        · refine ⟨rfl, ?_, ?_, ?_, ?_, ?_, irng8⟩
          · walk_at "vs"; exact d1
          · walk_at "vs"; exact d2
          · walk_at "vs"; exact d3
          · walk_at "vs"; exact d4
          · walk_at "vs"
      · exact ⟨b1, b2, b3, b4, upd_old hr1 b5, b6.keep fun a po h => upd_old hr1 h, upd_old hr1 b9, upd_same, irng8⟩
    · rintro v rest l'' hp5 ⟨b1, b2, b3, b4, b5, b6, is, js, b7, b8, b9⟩ F hF
      obtain ⟨k, is', rfl, rfl, rfl⟩ : ∃ k is', is = k :: is' ∧ v = PV.str (L k) ∧ rest = List.map (fun i => PV.str (L i)) is' := by
        cases is with
        | nil => cases b7
        | cons k is' => cases b7; exact ⟨k, is', rfl, rfl, rfl⟩
      have hk8 : k < 8 := by
        have : k ∈ List.range 8 := by rw [← b8]; simp
        exact List.mem_range.mp this
      walk_at "vs"
      refine stepS_cons ?_
      walk_at "vs"
      simp only [b1, b2, Option.some.injEq, exists_eq_left']
      refine ⟨_, meth_append b9, .inl ⟨_, rfl⟩, ?_⟩
      refine (wayA b6 h10 hk8 fun p1 c1 hp1 w1 k1 n1 e1 => ?_).calls
      obtain ⟨q1, rfl, low1, no1, le1⟩ := h10.low w1 hk8
      refine su_last (by unfold itemsOf; rw [e1, List.map_append]; rfl) (by rw [List.length_map]; simp at le1; omega) ?_
      refine call_append (k1 _ _ b9) (by simp only [sizeLine, List.length_map]; have : (js ++ k :: is').length = 8 := (by rw [b8]; simp); simp at this; omega) ?_
      have T6 : Tab 171 (upd hp1 ch (.list (List.map (fun i => PV.str (L (rt i))) js ++ [PV.str (L (rt k))]))) t d l es := by
        have T5 := b6.keep k1
        obtain ⟨xs, q, pr⟩ := T5.l
        have G5 : Grow ch hp1 (upd hp1 ch (.list (List.map (fun i => PV.str (L (rt i))) js ++ [PV.str (L (rt k))]))) := .upd
        have hb9 := k1 _ _ b9
        exact ⟨G5 _ _ (fun e => by rw [← e, T5.t] at hb9; cases hb9) T5.t, G5 _ _ (fun e => by rw [← e, T5.d] at hb9; cases hb9) T5.d, ⟨xs, G5 _ _ (Ne.symm hnh) q, pr.grow hb9 G5⟩, T5.size, T5.clean⟩
      have b5' : upd hp1 ch (.list (List.map (fun i => PV.str (L (rt i))) js ++ [PV.str (L (rt k))])) c = some (.list (marksL m)) := by
        rw [upd_ne hcch, k1 _ _ b5]
      have b9' : upd hp1 ch (.list (List.map (fun i => PV.str (L (rt i))) js ++ [PV.str (L (rt k))])) ch = some (.list (List.map (fun i => PV.str (L (rt i))) (js ++ [k]))) := by
        rw [upd_same]; simp
      generalize hH6 : upd hp1 ch (.list (List.map (fun i => PV.str (L (rt i))) js ++ [PV.str (L (rt k))])) = hp6 at T6 b5' b9' ⊢
      refine stepS_cons ?_
      walk_at "vs"
      simp only [b1, Option.some.injEq, exists_eq_left']
      have fin : F (setL l'' (Str.ofString "letter") (PV.str (L k))) hp6 := by
        refine hF _ _ ⟨?_, ?_, ?_, ?_, b5', T6, is', js ++ [k], rfl, by rw [← b8]; simp, b9'⟩
        · walk_at "vs"; exact b1
        · walk_at "vs"; exact b2
        · walk_at "vs"; exact b3
        · walk_at "vs"; exact b4
      have hlL : Txt.lower (L k) = L k := low_L k hk8
      have hlU : Txt.lower (U k) = L k := low_U k hk8
      refine ⟨_, tab_meth T6 clsOk m_get rfl, .inr (.inr m_get.keep), (getA (n := 6) T6 (by rw [hlL]; exact clean_L hk8) (by rw [len_L]; decide) (by rw [hlL, len_L]; decide) (.inr ⟨rfl, rfl⟩) ?_).calls⟩
      rw [hlL, h10.abs.look k]
      cases hz : ps.lookup k with
      | none =>
        simp only [Option.map_none, got]
        walk_at "vs"
        refine ⟨_, tab_meth T6 clsOk m_get rfl, .inr (.inr m_get.keep), _, meth_upper, .inl ⟨_, rfl⟩, call_upper (by rw [len_L]; decide) ?_⟩
        rw [up_L k hk8]
        refine (getA (n := 6) T6 (dflt := .str (L k)) (by rw [hlU]; exact clean_L hk8) (by rw [len_U]; decide) (by rw [hlU, len_L]; decide) (.inl rfl) ?_).calls
        rw [hlU, h10.abs.look k, hz]
        simp only [Option.map_none, got]
        walk_at "vs"
        simp only [not_true_eq_false, decide_false, Bool.false_eq_true, if_false]
        exact ⟨fun a ha => (by cases ha), fin⟩
      | some z =>
        simp only [Option.map_some, got]
        walk_at "vs"
        exact ⟨fun a ha => (by cases ha), fin⟩
    · refine ⟨?_, ?_, ?_, ?_, upd_old hch h6, h9.keep fun a po h => upd_old hch h, List.range 8, [], rfl, rfl, upd_same⟩
      · walk_at "vs"; exact h3
      · walk_at "vs"
      · walk_at "vs"; exact h5
      · walk_at "vs"; exact h8
  · rintro v rest loc hp' ⟨h1, h2, h3, ns', c, es, ps, rt, r, m, h4, h5, h6, h7, h8, h9, h10, h11⟩ F hF
    obtain ⟨i, ns', rfl, rfl, rfl⟩ : ∃ i ns'', ns' = i :: ns'' ∧ v = PV.int i ∧ rest = List.map PV.int ns'' := by
      cases ns' with
      | nil => cases h4
      | cons i ns'' => cases h4; exact ⟨i, ns'', rfl, rfl, rfl⟩
    clear h4
    walk_at "vs"
    refine stepS_cons ?_
    walk_at "vs"
    refine ⟨by decide, ?_⟩
    refine stepS_cons ?_
    walk_at "vs"
    refine ⟨by decide, by decide, by decide, ?_⟩
    have hx0 : 0 ≤ i.fmod 8 := Int.fmod_nonneg_of_pos _ (by decide)
    have hx1 : i.fmod 8 < 8 := Int.fmod_lt_of_pos _ (by decide)
    have hy0 : 0 ≤ (i.fdiv 8).fmod 8 := Int.fmod_nonneg_of_pos _ (by decide)
    have hy1 : (i.fdiv 8).fmod 8 < 8 := Int.fmod_lt_of_pos _ (by decide)
    generalize i.fmod 8 = x0 at hx0 hx1 ⊢
    generalize (i.fdiv 8).fmod 8 = y0 at hy0 hy1 ⊢
    have hx : x0.toNat < 8 := by omega
    have hy : y0.toNat < 8 := by omega
    refine stepS_cons ?_
    walk_at "vs"
    simp only [h2, h3, Option.some.injEq, exists_eq_left']
    refine letter_at hx0 hx1 ?_
    refine (wayA h9 h10 hx fun p1 c1 hp1 w1 k1 n1 e1 => ?_).calls
    refine stepS_cons ?_
    walk_at "vs"
    simp only [h2, h3, Option.some.injEq, exists_eq_left']
    refine letter_at hy0 hy1 ?_
    refine (wayA (h9.keep k1) h10 hy fun p2 c2 hp2 w2 k2 n2 e2 => ?_).calls
    obtain ⟨q1, rfl, low1, no1, le1⟩ := h10.low w1 hx
    obtain ⟨q2, rfl, low2, no2, le2⟩ := h10.low w2 hy
    have e1' := k2 _ _ e1
    refine stepS_cons ?_
    walk_at "vs"
    have hn1 : c1 ≠ l := by obtain ⟨xs, q, _⟩ := h9.l; exact fun e => fresh_ne n1 q e.symm
    have hn2 : c2 ≠ l := by obtain ⟨xs, q, _⟩ := h9.l; exact fun e => fresh_ne n2 (k1 _ _ q) e.symm
    have gt1 : ¬ ((8 : Int) < ((List.map (fun i => PV.str (L i)) (q1 ++ [rt x0.toNat])).length : Nat)) := by rw [List.length_map]; omega
    have gt2 : ¬ ((8 : Int) < ((List.map (fun i => PV.str (L i)) (q2 ++ [rt y0.toNat])).length : Nat)) := by rw [List.length_map]; omega
    refine call_len_list' (xs := List.map (fun i => PV.str (L i)) (q1 ++ [rt x0.toNat])) (by unfold lst; rw [e1']) (by rw [List.length_map]; omega) ?_
    walk_at "vs"
    simp only [gt1, decide_false, Bool.false_eq_true, if_false]
    refine call_len_list' (xs := List.map (fun i => PV.str (L i)) (q2 ++ [rt y0.toNat])) (by unfold lst; rw [e2]) (by rw [List.length_map]; omega) ?_
    walk_at "vs"
    simp only [gt2, decide_false, Bool.false_eq_true, if_false]
    have hbe : decide (L (rt x0.toNat) = L (rt y0.toNat)) = decide (m x0.toNat = m y0.toNat) := by rw [decide_eq_decide, L_inj]; exact h11 _ _ hx hy
    have i1 : itemsOf hp2 c1 = some (List.map (fun i => PV.str (L i)) q1 ++ [PV.str (L (rt x0.toNat))]) := by unfold itemsOf; rw [e1', List.map_append]; rfl
    have i2 : itemsOf hp2 c2 = some (List.map (fun i => PV.str (L i)) q2 ++ [PV.str (L (rt y0.toNat))]) := by unfold itemsOf; rw [e2, List.map_append]; rfl
    have lq1 : (List.map (fun i => PV.str (L i)) q1).length < 1000 := by rw [List.length_map]; simp at le1; omega
    have lq2 : (List.map (fun i => PV.str (L i)) q2).length < 1000 := by rw [List.length_map]; simp at le2; omega
    have h6' := k2 _ _ (k1 _ _ h6)
    refine stepS_cons ?_
    walk_at "vs"
    refine su_last i1 lq1 (su_last i2 lq2 ?_)
    walk_at "vs"
    simp only [h5, Option.some.injEq, exists_eq_left']
    refine mark_at h6' hx0 hx1 (mark_at h6' hy0 hy1 ?_)
    walk_at "vs"
    simp only [hbe, not_true_eq_false, decide_false, Bool.false_eq_true, if_false]
    have h1' := k2 _ _ (k1 _ _ h1)
    have T3 : Tab 171 hp2 t d l es := (h9.keep k1).keep k2
    refine stepS_cut (fun l' h => LF l' t c c1 x0 y0 ∧ h a = some (.flist (ns.map PV.int)) ∧ h c = some (.list (marksL m)) ∧ h c1 = some (.list (List.map (fun i => PV.str (L i)) (q1 ++ [rt x0.toNat]))) ∧
      ∃ es ps rt' r', l' (Str.ofString "joined") = some (.int (ps.length : Nat)) ∧ Tab 171 h t d l es ∧ Good es ps rt' r' ∧ Marks rt' (fun x => if m x = m x0.toNat then m y0.toNat else m x) ∧ Low ps rt' r' q1 (rt x0.toNat)) ?_ ?_
    · intro F hF
      walk_at "vs"
      refine su_last i1 lq1 (su_last i2 lq2 ?_)
      walk_at "vs"
      have lf : LF (setL (setL (setL (setL (setL loc (Str.ofString "number") (PV.int i)) (Str.ofString "one") (PV.int x0)) (Str.ofString "two") (PV.int y0)) (Str.ofString "way") (PV.ref c1)) (Str.ofString "other") (PV.ref c2)) t c c1 x0 y0 := by
        refine ⟨?_, ?_, ?_, ?_, ?_, ?_⟩ <;> walk_at "vs"
        · exact h2
        · exact h3
        · exact h5
      have hjo : (setL (setL (setL (setL (setL loc (Str.ofString "number") (PV.int i)) (Str.ofString "one") (PV.int x0)) (Str.ofString "two") (PV.int y0)) (Str.ofString "way") (PV.ref c1)) (Str.ofString "other") (PV.ref c2)) (Str.ofString "joined") = some (.int (ps.length : Nat)) := by
        walk_at "vs"; exact h8
      have hot : (setL (setL (setL (setL (setL loc (Str.ofString "number") (PV.int i)) (Str.ofString "one") (PV.int x0)) (Str.ofString "two") (PV.int y0)) (Str.ofString "way") (PV.ref c1)) (Str.ofString "other") (PV.ref c2)) (Str.ofString "other") = some (.ref c2) := by
        walk_at "vs"
      generalize (setL (setL (setL (setL (setL loc (Str.ofString "number") (PV.int i)) (Str.ofString "one") (PV.int x0)) (Str.ofString "two") (PV.int y0)) (Str.ofString "way") (PV.ref c1)) (Str.ofString "other") (PV.ref c2)) = loc0 at lf hjo hot ⊢
      by_cases huv : rt x0.toNat = rt y0.toNat
      · have : L (rt x0.toNat) = L (rt y0.toNat) := by rw [huv]
        simp only [this, not_true_eq_false, decide_false, Bool.false_eq_true, if_false]
        exact hF _ _ ⟨lf, h1', h6', e1', es, ps, rt, r, hjo, T3, h10, h11.same hx hy huv, low1⟩
      · have : ¬ L (rt x0.toNat) = L (rt y0.toNat) := fun q => huv (L_inj.mp q)
        simp only [this, not_false_eq_true, decide_true, if_true]
        refine stepS_cons ?_
        walk_at "vs"
        simp only [hot, lf.table, lf.way, Option.some.injEq, exists_eq_left']
        refine su_last i2 lq2 (su_last i1 lq1 ?_)
        refine setL3 (n := 5) T3 h10.abs (.inl rfl) low1.u8 low2.u8 fun hp4 G4 T4 => ?_
        have ru := h10.forest.self low1.u8 no1
        obtain ⟨g4, len4⟩ := h10.join low1.u8 low2.u8 no1 no2 huv (low_L _ low1.u8)
        have l4 := low1.join1 ru huv
        have l5 := low2.join2 (u := rt x0.toNat)
        have m4 := h11.join hx hy
        refine stepS_cons ?_
        walk_at "vs"
        simp only [hjo, Option.some.injEq, exists_eq_left']
        walk_at "vs"
        refine stepS_cons ?_
        walk_at "vs"
        simp only [hot, Option.some.injEq, exists_eq_left']
        have e24 := G4 _ _ hn2 e2
        rw [sl_ref pp_none pp_int]
        refine ⟨_, by unfold lst; rw [e24], by simp only [sizeLine]; rw [List.length_map]; omega, fun c3 hc3 => ?_⟩
        rw [List.map_append]
        simp only [List.map_cons, List.map_nil]
        rw [cut_last]
        refine ⟨List.map (fun i => PV.str (L i)) q2, by simp only [iterItems, upd_same], by simp only [rangeFits, upd_same], ?_⟩
        have hn3 : c3 ≠ l := by obtain ⟨xs, q, _⟩ := T4.l; exact fun e => fresh_ne hc3 q e.symm
        have a4 := G4 _ _ (ne_tab T3 h1') h1'
        have c4 := G4 _ _ h7 h6'
        have w4 := G4 _ _ hn1 e1'
        generalize hrt : (fun x => if rt x = rt x0.toNat then rt y0.toNat else rt x) = rt4 at g4 l4 l5 m4
        generalize hr4 : (fun x => r x + if rt x = rt y0.toNat then r (rt x0.toNat) + 1 else 0) = r4 at g4 l4 l5
        generalize hps : put ps (rt x0.toNat) (rt y0.toNat) = ps4 at g4 l4 l5 len4
        refine forL_ind (fun ys l'' h => LF l'' t c c1 x0 y0 ∧ l'' (Str.ofString "other") = some (.ref c2) ∧ h a = some (.flist (ns.map PV.int)) ∧ h c = some (.list (marksL m)) ∧ h c1 = some (.list (List.map (fun i => PV.str (L i)) (q1 ++ [rt x0.toNat]))) ∧ h c3 = some (.list (List.map (fun i => PV.str (L i)) q2)) ∧ h c2 = some (.list (List.map (fun i => PV.str (L i)) (q2 ++ [rt y0.toNat]))) ∧
          ∃ q' es ps, ys = List.map (fun i => PV.str (L i)) q' ∧ l'' (Str.ofString "joined") = some (.int (ps.length : Nat)) ∧ Tab 171 h t d l es ∧ Good es ps rt4 r4 ∧ Low ps rt4 r4 q' (rt y0.toNat) ∧ Low ps rt4 r4 q1 (rt x0.toNat)) ?_ ?_ _ _ _ ?_
        · rintro l'' hp5 ⟨lf5, o5, g1, g2, g3, g4, gc, q', es5, ps5, g5, g6, g7, g8, g9, g10⟩
          walk_at "vs"
          exact hF _ _ ⟨lf5, g1, g2, g3, es5, ps5, rt4, r4, g6, g7, g8, m4, g10⟩
        · rintro v rest l'' hp5 ⟨lf5, o5, g1, g2, g3, g4, gc, q', es5, ps5, g5, g6, g7, g8, g9, g10⟩ F hF
          obtain ⟨y, q'', rfl, rfl, rfl⟩ : ∃ y q'', q' = y :: q'' ∧ v = PV.str (L y) ∧ rest = List.map (fun i => PV.str (L i)) q'' := by
            cases q' with
            | nil => cases g5
            | cons y q'' => cases g5; exact ⟨y, q'', rfl, rfl, rfl⟩
          clear g5
          have hy8 := (g9.all y (.head _)).1
          walk_at "vs"
          refine stepS_cons ?_
          walk_at "vs"
          simp only [lf5.table, o5, Option.some.injEq, exists_eq_left']
          refine su_last (by unfold itemsOf; rw [gc, List.map_append]; rfl) lq2 ?_
          refine setL3 (n := 5) g7 g8.abs (.inl rfl) hy8 g9.u8 fun hp6 G6 T6 => ?_
          obtain ⟨b1, b2, b3⟩ := g9.step g8 (low_L y hy8)
          refine ⟨fun a ha => by cases ha; rw [G6 _ _ hn3 g4, upd_same], hF _ _ ⟨lf5.set rfl, ?_, G6 _ _ (ne_tab g7 g1) g1, G6 _ _ h7 g2, G6 _ _ hn1 g3, G6 _ _ hn3 g4, G6 _ _ hn2 gc, q'', _, _, rfl, ?_, T6, b1, b3, g10.put⟩⟩
          · walk_at "vs"; exact o5
          · walk_at "vs"
            rw [b2]; exact g6
        · have T5 := T4.keep (hp' := upd hp4 c3 (.list (List.map (fun i => PV.str (L i)) q2))) fun a po h => upd_old hc3 h
          refine ⟨lf.set rfl, ?_, upd_old hc3 a4, upd_old hc3 c4, upd_old hc3 w4, upd_same, upd_old hc3 e24, q2, _, ps4, rfl, ?_, T5, g4, l5, l4⟩
          · walk_at "vs"; exact hot
          · walk_at "vs"; rw [len4]; rfl
    · rintro l' hp3 ⟨lf, f1, f2, f3, es', ps', rt', r', f4, f5, f6, f7, f8⟩
      refine stepS_cons ?_
      walk_at "vs"
      simp only [lf.way, Option.some.injEq, exists_eq_left']
      rw [sl_ref pp_none pp_int]
      refine ⟨_, by unfold lst; rw [f3], by simp only [sizeLine]; rw [List.length_map]; omega, fun c3 hc3 => ?_⟩
      rw [List.map_append]
      simp only [List.map_cons, List.map_nil]
      rw [cut_last]
      refine ⟨List.map (fun i => PV.str (L i)) q1, by simp only [iterItems, upd_same], by simp only [rangeFits, upd_same], ?_⟩
      have hn3 : c3 ≠ l := by obtain ⟨xs, q, _⟩ := f5.l; exact fun e => fresh_ne hc3 q e.symm
      refine forL_ind (fun ys l'' h => LF l'' t c c1 x0 y0 ∧ h a = some (.flist (ns.map PV.int)) ∧ h c = some (.list (marksL m)) ∧ h c1 = some (.list (List.map (fun i => PV.str (L i)) (q1 ++ [rt x0.toNat]))) ∧ h c3 = some (.list (List.map (fun i => PV.str (L i)) q1)) ∧
        ∃ q' es ps, ys = List.map (fun i => PV.str (L i)) q' ∧ l'' (Str.ofString "joined") = some (.int (ps.length : Nat)) ∧ Tab 171 h t d l es ∧ Good es ps rt' r' ∧ Low ps rt' r' q' (rt x0.toNat)) ?_ ?_ _ _ _ ?_
      · rintro l'' hp5 ⟨lf5, g1, g2, g3, g4, q', es5, ps5, g5, g6, g7, g8, g9⟩
        refine stepS_cons ?_
        walk_at "vs"
        simp only [lf5.marks, lf5.one, Option.some.injEq, exists_eq_left']
        refine mark_at g2 hx0 hx1 ?_
        refine stepS_cons ?_
        walk_at "vs"
        simp only [lf5.marks, lf5.two, Option.some.injEq, exists_eq_left']
        refine mark_at g2 hy0 hy1 ?_
        refine stepS_cons ?_
        walk_at "vs"
        rw [if_pos (by rfl)]
        refine ⟨by rfl, ?_⟩
        walk_at "vs"
        simp only [lf5.marks, Option.some.injEq, exists_eq_left']
        refine ⟨marksL m, by simp only [iterItems, g2], by simp only [rangeFits, g2], by simp only [marksL, sizeLine, List.length_map, List.length_range]; decide, ?_⟩
        refine compL_ind (fun ys acc h => h = hp5 ∧ ∃ is js, ys = List.map (fun i => PV.int (m i)) is ∧ acc = List.map (fun i => PV.int (if m i = m x0.toNat then m y0.toNat else m i)) js ∧ js ++ is = List.range 8) ?_ ?_ _ _ _ ?_
        · rintro acc h ⟨rfl, is, js, b1, rfl, b3⟩ c5 hc5
          obtain rfl : is = [] := by cases is with | nil => rfl | cons _ _ => cases b1
          rw [List.append_nil] at b3
          subst b3
          have hn5 : c5 ≠ l := by obtain ⟨xs, q, _⟩ := g7.l; exact fun e => fresh_ne hc5 q e.symm
          refine ⟨fun a ha => by cases ha; rw [upd_old hc5 g1, hHa], hF _ _ ⟨upd_old hc5 g1, ?_, ?_, ns', c5, es5, ps5, rt', r', _, rfl, ?_, upd_same, hn5, ?_, g7.keep fun a po h => upd_old hc5 h, g8, f7⟩⟩
          · walk_at "vs"; exact lf5.letters
          · walk_at "vs"; exact lf5.table
          · walk_at "vs"
          · walk_at "vs"; exact g6
        · rintro v rest acc h ⟨rfl, is, js, b1, rfl, b3⟩ F hF
          obtain ⟨k, is', rfl, rfl, rfl⟩ : ∃ k is', is = k :: is' ∧ v = PV.int (m k) ∧ rest = List.map (fun i => PV.int (m i)) is' := by
            cases is with
            | nil => cases b1
            | cons k is' => cases b1; exact ⟨k, is', rfl, rfl, rfl⟩
          walk_at "vs"
          by_cases hk : m k = m x0.toNat
          · simp only [hk, decide_true, if_true]
            exact ⟨fun _ _ => rfl, hF _ _ ⟨rfl, is', js ++ [k], rfl, by simp [hk], by rw [← b3]; simp⟩⟩
          · simp only [hk, decide_false, Bool.false_eq_true, if_false]
            exact ⟨fun _ _ => rfl, hF _ _ ⟨rfl, is', js ++ [k], rfl, by simp [hk], by rw [← b3]; simp⟩⟩
        · exact ⟨rfl, List.range 8, [], rfl, rfl, rfl⟩
      · rintro v rest l'' hp5 ⟨lf5, g1, g2, g3, g4, q', es5, ps5, g5, g6, g7, g8, g9⟩ F hF
        obtain ⟨y, q'', rfl, rfl, rfl⟩ : ∃ y q'', q' = y :: q'' ∧ v = PV.str (L y) ∧ rest = List.map (fun i => PV.str (L i)) q'' := by
          cases q' with
          | nil => cases g5
          | cons y q'' => cases g5; exact ⟨y, q'', rfl, rfl, rfl⟩
        clear g5
        have hy8 := (g9.all y (.head _)).1
        walk_at "vs"
        refine stepS_cons ?_
        walk_at "vs"
        simp only [lf5.table, lf5.way, Option.some.injEq, exists_eq_left']
        refine su_last (by unfold itemsOf; rw [g3, List.map_append]; rfl) lq1 ?_
        refine ⟨_, meth_upper, .inl ⟨_, rfl⟩, call_upper (by rw [len_L]; decide) ?_⟩
        rw [up_L y hy8]
        refine setL3 (n := 5) g7 g8.abs (.inr rfl) hy8 g9.u8 fun hp6 G6 T6 => ?_
        obtain ⟨b1, b2, b3⟩ := g9.step g8 (low_U y hy8)
        refine ⟨fun a ha => by cases ha; rw [G6 _ _ hn3 g4, upd_same], hF _ _ ⟨lf5.set rfl, G6 _ _ (ne_tab g7 g1) g1, G6 _ _ h7 g2, G6 _ _ hn1 g3, G6 _ _ hn3 g4, q'', _, _, rfl, ?_, T6, b1, b3⟩⟩
        walk_at "vs"
        rw [b2]; exact g6
      · have T5 : Tab 171 (upd hp3 c3 (.list (List.map (fun i => PV.str (L i)) q1))) t d l es' := f5.keep fun a po h => upd_old hc3 h
        exact ⟨lf, upd_old hc3 f1, upd_old hc3 f2, upd_old hc3 f3, upd_same, q1, es', ps', rfl, f4, T5, f6, f8⟩
  · refine ⟨hHa, ?_, ?_, ns, c, [], [], _, _, _, rfl, ?_, hHc, hcl, ?_, T2, Good.empty, fun i j hi hj => ?_⟩
    · walk_at "vs"
    · walk_at "vs"
    · walk_at "vs"
    · walk_at "vs"; rfl
    · show i = j ↔ ((i : Nat) : Int) = ((j : Nat) : Int); omega
end L3

set_option maxHeartbeats 8000000
theorem PySem.Challenge.cw_dn0265_03_holds : PySem.Challenge.rw_dn0265_03.Holds := by
  refine L3.hd ?_
  k_fill
  intro w s₀ s₁ mg mb G Y fa o pm cd doc dV kV ho hd hcd hD hmg hg args vals as hpre hlay hrd hwl hlo
  have KX := kIn_of Y
  refine Ground.open G ?_
  intro T B D TE TW
  try (refine guard_noD D (by decide +kernel) ?_; clear D)
  clear ho hd hcd hD
  wrow_args hpre hlay hrd hwl hlo
  first | (refine callC_kw (enter_call ?_); trace "A") | (refine enter_call ?_; trace "B") | (refine callC_kw (enter_callW ?_); trace "C") | (refine enter_callW ?_; trace "D")
  w_top on
  rename_i ns _ _ _ _ _ _ _ a vals _ hL _ _ _ hI _ hcond _
  have hfa := mg_of KX T.g (n := Str.ofString "law") (v := .ref 187) (by k_is)
  have e : fa = 187 := by
    have h2 : mg (Str.ofString "law") = some (.ref fa) := hmg
    rw [hfa] at h2; cases h2; rfl
  subst e
  haveI : L3.Cn ⟨L3.hd.heap_39 w.params, mg, mb⟩ := ⟨⟨w, rfl⟩, ⟨fun x v e => mg_of KX T.g e, fun x e => mg_none_of KX T.g e, fun x hx => T.builtins x hx⟩⟩
  refine codeAny_mono ?_ (fun _ _ g => GoodW.toG g)
  refine L3.law3 (P := ⟨L3.hd.heap_39 w.params, mg, mb⟩) KX T.g T.b T.nolimit hL (by simpa using hI) (by omega) fun s' keep same => ?_
  obtain ⟨h, t, rfl⟩ := same
  refine ⟨.inl ⟨.bool true, .bool true, [], rfl, fun _ => rfl, .bool true, ?_, fun _ => ⟨.nil, fun _ h => nomatch h⟩⟩, keep, rfl, hg⟩

  first | kernel_rfl | (with_unfolding_all rfl)

