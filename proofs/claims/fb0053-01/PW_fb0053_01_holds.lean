import PyProof.Rows.All
import Wide.All
import OpenK.AllK
import Wide.FinOn
import KE.KTryMore
import KE.KSetDisp
import KE.KEqSeq
import Lean
import PySem.Challenge.RW_fb0053_01
set_option Elab.async false
set_option linter.all false
namespace Mine
open PySem PySem.W PySem.Calls PyProof.Rows
set_option autoImplicit false

/-- abstract values -/
inductive V where
  | none
  | bool (b : Bool)
  | int (i : Int)
  | str (s : List Nat)
  | ref (a : Addr)
  | tup (l : List V)
  | lst (l : List V)
  | amg (s : List Nat) (sub res : Int)
  | set (l : List Nat)
  | dct (l : List (List Nat × V))

/-- the text of some signs' numbers -/
noncomputable abbrev tx (l : List Nat) : Str := ⟨l.toArray⟩
noncomputable def oneIn (l : List Nat) (s : Str) : Bool := match s.cps.toList with
  | [c] => l.contains c
  | _ => false

/-- what is fixed for the whole walk -/
structure Cx where
  prog : Program
  w : World
  K : Frag
  H : Heap          -- the heap of the module's objects: they stand for good
  chg : List Addr   -- lists that may turn
  mg : Str → Option Value
  mb : Str → Option Value
  C : Addr          -- the stemmer's class
  CA : Addr         -- the Among class

/-- lists and tuples stand, but those that may turn -/
noncomputable def Low (X : Cx) (h h' : Heap) : Prop := ∀ b c xs n, b ∉ X.chg → h.get? b = some ⟨.type c, none, .seq xs n, #[]⟩ → h'.get? b = some ⟨.type c, none, .seq xs n, #[]⟩

theorem Low.refl (X : Cx) (h : Heap) : Low X h h := fun _ _ _ _ _ e => e
theorem Low.trans {X : Cx} {h h₁ h₂ : Heap} (x : Low X h h₁) (y : Low X h₁ h₂) : Low X h h₂ := fun b c xs k m e => y b c xs k m (x b c xs k m e)
theorem Low.of_keeps {X : Cx} {h h' : Heap} (k : ∀ b o, h.get? b = some o → h'.get? b = some o) : Low X h h' := fun b _ _ _ _ e => k b _ e

variable (X : Cx)

mutual
inductive Rel (h : Heap) : Value → V → Prop
  | none : Rel h .none .none
  | bool (b : Bool) : Rel h (.bool b) (.bool b)
  | int (i : Int) (t : Tok) : Rel h (.int i t) (.int i)
  | str (s : List Nat) (t : Tok) : Rel h (.str (tx s) t) (.str s)
  | ref (a : Addr) : Rel h (.ref a) (.ref a)
  | tup (a : Addr) (items : List Value) (n : Nat) (l : List V) : a ∉ X.chg → h.get? a = some ⟨.type "tuple", Option.none, .seq items.toArray n, #[]⟩ → RelL h items l → Rel h (.ref a) (.tup l)
  | lst (a : Addr) (items : List Value) (n : Nat) (l : List V) : a ∉ X.chg → h.get? a = some ⟨.type "list", Option.none, .seq items.toArray n, #[]⟩ → RelL h items l → Rel h (.ref a) (.lst l)
  | amg (a d : Addr) (es : List DictEntry) (n : Nat) (s : List Nat) (sub res : Int) (t1 t2 t3 : Tok) :
      X.H.get? a = some (instObj X.CA d) → X.H.get? d = some (dictOf es n) →
      getL "s" es = some (some (.str (tx s) t1)) → getL "substring_i" es = some (some (.int sub t2)) → getL "result" es = some (some (.int res t3)) → Rel h (.ref a) (.amg s sub res)
  | set (a : Addr) (l : List Nat) (o : Obj) (n : Nat) : n < scanBound → X.H.get? a = some o → o.SetObjOf (strKind X.prog X.w) (oneIn l) n → Rel h (.ref a) (.set l)
  | dct (a : Addr) (es : List DictEntry) (n : Nat) (l : List (List Nat × V)) : (a == sysModules) = false → X.H.get? a = some (dictOf es n) → KeysLit X.w.params es → RelD h es l → Rel h (.ref a) (.dct l)
inductive RelL (h : Heap) : List Value → List V → Prop
  | nil : RelL h [] []
  | cons (v : Value) (x : V) (vs : List Value) (xs : List V) : Rel h v x → RelL h vs xs → RelL h (v :: vs) (x :: xs)
inductive RelD (h : Heap) : List DictEntry → List (List Nat × V) → Prop
  | nil : RelD h [] []
  | cons (hs : Int) (s : List Nat) (t : Tok) (v : Value) (x : V) (es : List DictEntry) (xs : List (List Nat × V)) : Rel h v x → RelD h es xs → RelD h (⟨hs, .str (tx s) t, v⟩ :: es) ((s, x) :: xs)
end

mutual
theorem Rel.low {h h' : Heap} (k : Low X h h') : ∀ {v : Value} {x : V}, Rel X h v x → Rel X h' v x
  | _, _, .none => .none
  | _, _, .bool b => .bool b
  | _, _, .int i t => .int i t
  | _, _, .str s t => .str s t
  | _, _, .ref a => .ref a
  | _, _, .tup a items n l hm e r => .tup a items n l hm (k _ _ _ _ hm e) (r.low k)
  | _, _, .lst a items n l hm e r => .lst a items n l hm (k _ _ _ _ hm e) (r.low k)
  | _, _, .amg a d es n s sub res t1 t2 t3 e1 e2 g1 g2 g3 => .amg a d es n s sub res t1 t2 t3 e1 e2 g1 g2 g3
  | _, _, .set a l o n hn e x => .set a l o n hn e x
  | _, _, .dct a es n l hm e kl r => .dct a es n l hm e kl (r.low k)
theorem RelL.low {h h' : Heap} (k : Low X h h') : ∀ {v : List Value} {x : List V}, RelL X h v x → RelL X h' v x
  | _, _, .nil => .nil
  | _, _, .cons v x vs xs r rs => .cons v x vs xs (r.low k) (rs.low k)
theorem RelD.low {h h' : Heap} (k : Low X h h') : ∀ {v : List DictEntry} {x : List (List Nat × V)}, RelD X h v x → RelD X h' v x
  | _, _, .nil => .nil
  | _, _, .cons hs s t v x es xs r rs => .cons hs s t v x es xs (r.low k) (rs.low k)
end

/-- what a piece of the walk leaves: all but the named places; frames up to their slots -/
noncomputable def Pv (ex fs : List Addr) (h h' : Heap) : Prop :=
  ∀ b o, h.get? b = some o → b ∉ ex → (∃ sl, h'.get? b = some { o with slots := sl }) ∧ (b ∉ fs → h'.get? b = some o)

theorem Pv.refl (ex fs : List Addr) (h : Heap) : Pv ex fs h h := fun _ o e _ => ⟨⟨o.slots, e⟩, fun _ => e⟩
theorem Pv.trans {ex fs : List Addr} {h h₁ h₂ : Heap} (x : Pv ex fs h h₁) (y : Pv ex fs h₁ h₂) : Pv ex fs h h₂ := by
  refine fun b o e n => ?_
  obtain ⟨⟨sl, e₁⟩, k₁⟩ := x b o e n
  obtain ⟨⟨sl₂, e₂⟩, _⟩ := y b _ e₁ n
  exact ⟨⟨sl₂, e₂⟩, fun hb => (y b o (k₁ hb) n).2 hb⟩
theorem Pv.of_keeps {ex fs : List Addr} {h h' : Heap} (k : ∀ b o, h.get? b = some o → h'.get? b = some o) : Pv ex fs h h' :=
  fun b o e _ => ⟨⟨o.slots, k b o e⟩, fun _ => k b o e⟩
theorem Pv.of_same {ex fs : List Addr} {a : Addr} {h h' : Heap} (ha : a ∈ ex) (k : Heap.SameBut a h h') : Pv ex fs h h' := by
  refine fun b o e n => ?_
  have ne : b ≠ a := fun q => n (q ▸ ha)
  have e' : h'.get? b = some o := (k.2 b ne).trans e
  exact ⟨⟨o.slots, e'⟩, fun _ => e'⟩
theorem Pv.mono {ex ex' fs fs' : List Addr} {h h' : Heap} (x : Pv ex fs h h') (h1 : ∀ a ∈ ex, a ∈ ex') (h2 : ∀ a ∈ fs, a ∈ fs') : Pv ex' fs' h h' :=
  fun b o e n => ⟨(x b o e fun z => n (h1 b z)).1, fun q => (x b o e fun z => n (h1 b z)).2 fun z => q (h2 b z)⟩

/-- a namespace of a frame up to slots -/
theorem Ns.slots {h h' : Heap} {a : Addr} {m : Str → Option Value} (n : h.Ns a m) (k : ∀ o, h.get? a = some o → ∃ sl, h'.get? a = some { o with slots := sl }) : h'.Ns a m := by
  obtain ⟨o, es, ep, e, hd, r⟩ := n
  obtain ⟨sl, e'⟩ := k o e
  exact ⟨_, es, ep, e', hd, r⟩

end Mine
namespace Mine
open PySem PySem.W PySem.Calls PyProof.Rows
set_option autoImplicit false
variable (X : Cx)

noncomputable def fnames : List Str := ["current", "cursor", "limit", "limit_backward", "bra", "ket", "I_p1", "I_p2"]

/-- a namespace of no more than n names -/
noncomputable def NsB (h : Heap) (a : Addr) (m : Str → Option Value) (n : Nat) : Prop :=
  ∃ o es ep, h.get? a = some o ∧ o.data = .dict es ep ∧ StrKeys es ∧ es.size ≤ n ∧ ∀ name, nsFind es name = m name
theorem NsB.ns {h : Heap} {a : Addr} {m : Str → Option Value} {n : Nat} (x : NsB h a m n) : h.Ns a m := let ⟨o, es, ep, e, d, k, _, f⟩ := x; ⟨o, es, ep, e, d, k, f⟩

/-- the stemmer: its object, its dict, its fields -/
structure SelfAt (h : Heap) (x d : Addr) (F : List (Option V)) : Prop where
  inst : ∃ sl, h.get? x = some ⟨.ref X.C, some d, .plain, sl⟩
  len : F.length = 8
  ns : ∃ f, NsB h d f (F.filter Option.isSome).length ∧ (∀ nm, nm ∉ fnames → f nm = none) ∧
    ∀ (k : Nat) (nm : Str), fnames[k]? = some nm → (∀ V, F[k]? = some (some V) → ∃ v, f nm = some v ∧ Rel X h v V) ∧ (F[k]? = some none → f nm = none)
  hx : X.H.get? x = none
  hd : X.H.get? d = none

/-- an activation of a def -/
structure Act where
  L : Addr
  env : Env
  outs : List Env
  h₀ : Heap
  ls : List Str
  sf : Option (Addr × Addr)
  gens : Array GenState
  drawn : Drawn
  os : OsState

noncomputable def Act.fs (c : Act) : List Addr := c.outs.filterMap (·.frame)
noncomputable def Act.ex (c : Act) : List Addr := c.L :: (c.sf.map (·.2)).toList

/-- what a step of the activation leaves -/
noncomputable def Kp (c : Act) (h h' : Heap) : Prop := Pv c.ex c.fs h h'
theorem Kp.refl (c : Act) (h : Heap) : Kp c h h := Pv.refl _ _ _
theorem Kp.trans {c : Act} {h h₁ h₂ : Heap} (x : Kp c h h₁) (y : Kp c h₁ h₂) : Kp c h h₂ := Pv.trans x y

structure St where
  loc : List (Option V)
  fl : List (Option V)

/-- what stands at every step of a body -/
structure Inv (c : Act) (σ : St) (s : Shared) : Prop where
  ns : ∃ m, s.heap.Ns c.L m ∧ (∀ x d, c.sf = some (x, d) → m "self" = some (.ref x)) ∧
    ∀ (k : Nat) (nm : Str) (V : V), c.ls[k]? = some nm → σ.loc[k]? = some (some V) → ∃ v, m nm = some v ∧ Rel X s.heap v V
  self : ∀ x d, c.sf = some (x, d) → SelfAt X s.heap x d σ.fl
  pv : Pv c.ex c.fs c.h₀ s.heap
  gens : s.gens = c.gens
  drawn : s.drawn = c.drawn
  os : s.os = c.os
  tk : 0 < s.toks
  chg : ∀ a ∈ X.chg, ∃ o xs n, s.heap.get? a = some o ∧ o.data = .seq xs n

/-- the objects of the module stand -/
noncomputable def Stat (h : Heap) : Prop := (∀ b o, X.H.get? b = some o → h.get? b = some o) ∧ ∀ a ∈ X.chg, ∃ o xs n, h.get? a = some o ∧ o.data = .seq xs n

structure Cx.Ok : Prop where
  K : X.K.In X.H
  mg : X.H.Ns mainGlobals X.mg
  mb : X.H.Ns builtinsNs X.mb
  st : X.H.NoLimit
  chg : ∀ a ∈ X.chg, X.H.get? a = none

/-- what the activation leans on -/
structure Act.Ok (c : Act) : Prop where
  hL : X.H.get? c.L = none
  new : c.h₀.get? c.L = none
  frame : c.env.frame = some c.L
  locals : c.env.locals = c.L
  kind : c.env.scope.kind = .function
  loc : ∀ (k : Nat) (nm : Str), c.ls[k]? = some nm → c.env.kindOf nm = some .local
  nodup : c.ls.Nodup
  noself : c.sf.isSome = true → ("self" : Str) ∉ c.ls
  selfk : c.sf.isSome = true → c.env.kindOf "self" = some .local
  outs : c.h₀.FunFrames {} c.outs
  outc : ∀ a ∈ c.fs, X.H.get? a = none ∧ ∃ o es n, c.h₀.get? a = some o ∧ o.data = .dict es n
  st : ∀ b o, X.H.get? b = some o → c.h₀.get? b = some o
  ok : X.Ok
  glob : c.env.globals = mainGlobals
  blt : c.env.builtins = builtinsNs
  self : ∀ x d, c.sf = some (x, d) → (∃ o, c.h₀.get? x = some o) ∧ d ∉ c.fs ∧ x ∉ c.fs ∧ x ≠ d ∧ ∃ o, c.h₀.get? d = some o

structure AOk (A : Around) (c : Act) (R : Nat) : Prop where
  handled : A.handled = none
  depth : A.depth + R < recursionLimit
  units : A.units + 10 * R + 40 < cLine
  frames : A.frames = some (c.env :: c.outs)

/-- a step that stores nowhere: frames may turn in their slots, records made since the base may turn -/
noncomputable def Go (fr : List Addr) (base h h' : Heap) : Prop :=
  ∀ b o, h.get? b = some o → ((∀ vs, o.data ≠ .fields vs) ∨ base.get? b ≠ none) → (∃ sl, h'.get? b = some { o with slots := sl }) ∧ (b ∉ fr → h'.get? b = some o)

theorem Go.of_keeps {fr : List Addr} {n h h' : Heap} (k : ∀ b o, h.get? b = some o → h'.get? b = some o) : Go fr n h h' :=
  fun b o e _ => ⟨⟨o.slots, k b o e⟩, fun _ => k b o e⟩
theorem Go.refl (fr : List Addr) (n : Heap) (h : Heap) : Go fr n h h := .of_keeps fun _ _ e => e
theorem Go.push (fr : List Addr) (n : Heap) (h : Heap) (o : Obj) : Go fr n h (h.push o) := .of_keeps fun _ _ e => Heap.get?_push_of_some _ e
theorem Go.trans {fr : List Addr} {n h h₁ h₂ : Heap} (x : Go fr n h h₁) (y : Go fr n h₁ h₂) : Go fr n h h₂ := by
  refine fun b o e hn => ?_
  obtain ⟨⟨sl, e₁⟩, k₁⟩ := x b o e hn
  obtain ⟨⟨sl₂, e₂⟩, _⟩ := y b _ e₁ hn
  exact ⟨⟨sl₂, e₂⟩, fun hb => (y b o (k₁ hb) hn).2 hb⟩
/-- a change of a record made since the base -/
theorem Go.upd {fr : List Addr} {base h h' : Heap} {a : Addr} {o : Obj} {vs : Array Value} (e : h.get? a = some o) (hd : o.data = .fields vs) (hb : base.get? a = none) (k : Heap.SameBut a h h') : Go fr base h h' := by
  refine fun b o' e' hn => ?_
  have ne : b ≠ a := fun q => by
    subst q
    rw [e] at e'; cases e'
    rcases hn with hn | hn
    · exact hn _ hd
    · exact hn hb
  have := (k.2 b ne).trans e'
  exact ⟨⟨o'.slots, this⟩, fun _ => this⟩
/-- the slots of the frames -/
theorem Go.slots {fr : List Addr} {base h h' : Heap} (k : Heap.SlotsOnly fr h h') : Go fr base h h' :=
  fun b o e _ => ⟨k.2.2 b o e, fun hb => (k.2.1 b hb).trans e⟩

section
variable {X}
theorem SelfAt.move {h h' : Heap} {x d : Addr} {F : List (Option V)} (S : SelfAt X h x d F) (k : Low X h h') (hx : ∀ o, h.get? x = some o → h'.get? x = some o) (hd : ∀ o, h.get? d = some o → h'.get? d = some o) : SelfAt X h' x d F := by
  obtain ⟨⟨sl, a⟩, c, ⟨f, ⟨o, es, ep, e1, e2, e3, e4, e5⟩, g, r⟩, u, v⟩ := S
  refine ⟨⟨sl, hx _ a⟩, c, ⟨f, ⟨o, es, ep, hd _ e1, e2, e3, e4, e5⟩, g, fun k' nm hk => ⟨fun V hV => ?_, (r k' nm hk).2⟩⟩, u, v⟩
  obtain ⟨v', h1, h2⟩ := (r k' nm hk).1 V hV
  exact ⟨v', h1, h2.low X k⟩
end

section
variable {X} {c : Act} {σ : St} {s : Shared}
theorem Act.Ok.fsn (O : c.Ok X) : c.L ∉ c.fs := fun h => by
  obtain ⟨_, o, _, _, ho, _⟩ := O.outc _ h
  rw [O.new] at ho; cases ho
theorem Act.Ok.exlow (O : c.Ok X) (I : Inv X c σ s) : ∀ a ∈ c.ex, X.H.get? a = none := fun a ha => by
  unfold Act.ex at ha
  rcases List.mem_cons.mp ha with rfl | ha
  · exact O.hL
  · cases q : c.sf with
    | none => rw [q] at ha; cases ha
    | some p =>
      rw [q] at ha
      obtain ⟨x, d⟩ := p
      have : a = d := by simpa using ha
      subst this
      exact (I.self x a q).hd
theorem Inv.stat0 (O : c.Ok X) (I : Inv X c σ s) : ∀ b o, X.H.get? b = some o → s.heap.get? b = some o := fun b o e => by
  have ne : X.H.get? b ≠ none := by rw [e]; exact fun z => nomatch z
  exact (I.pv b o (O.st b o e) fun h => ne (O.exlow I b h)).2 fun h => ne (O.outc b h).1
theorem Inv.stat (O : c.Ok X) (I : Inv X c σ s) : Stat X s.heap := ⟨I.stat0 O, I.chg⟩
theorem Inv.K (O : c.Ok X) (I : Inv X c σ s) : X.K.In s.heap := fun a o e => I.stat0 O a o (O.ok.K a o e)
theorem Inv.nsLow (O : c.Ok X) (I : Inv X c σ s) {a : Addr} {m : Str → Option Value} (n : X.H.Ns a m) : s.heap.Ns a m := by
  obtain ⟨o, es, ep, e, r⟩ := n
  exact ⟨o, es, ep, I.stat0 O a o e, r⟩
theorem Inv.limit (O : c.Ok X) (I : Inv X c σ s) : s.heap.NoLimit := by
  obtain ⟨mc, n, e⟩ := O.ok.st
  exact ⟨mc, I.nsLow O n, e⟩

theorem Inv.fsfr (O : c.Ok X) (I : Inv X c σ s) : ∀ a ∈ c.fs, a ∉ c.ex ∧ ∃ o es n, s.heap.get? a = some o ∧ o.data = .dict es n := fun a ha => by
  obtain ⟨_, o, es, n, ho, hc⟩ := O.outc a ha
  have nex : a ∉ c.ex := fun h => by
    unfold Act.ex at h
    rcases List.mem_cons.mp h with rfl | h
    · exact O.fsn ha
    · cases q : c.sf with
      | none => rw [q] at h; cases h
      | some p =>
        rw [q] at h
        obtain ⟨x, d⟩ := p
        have : a = d := by simpa using h
        subst this
        exact (O.self x a q).2.1 ha
  obtain ⟨⟨sl, e⟩, _⟩ := I.pv a o ho nex
  exact ⟨nex, _, es, n, e, hc⟩

/-- the frames, as the model's own rules want them -/
theorem Inv.frames (O : c.Ok X) (I : Inv X c σ s) : s.heap.FunFrames {} (c.env :: c.outs) := by
  obtain ⟨m, n, _⟩ := I.ns
  refine Heap.FunFrames.cons (by rw [O.kind]; decide) O.frame n (by rfl) ?_
  have key : ∀ l : List Env, (∀ e ∈ l, e ∈ c.outs) → c.h₀.FunFrames {} l → s.heap.FunFrames {} l := by
    intro l
    induction l with
    | nil => intro _ _; trivial
    | cons e l ih =>
      intro hm hl
      obtain ⟨hk, ⟨L, o, hf, hn, ho, hd⟩, hr⟩ := hl
      have hLfs : L ∈ c.fs := List.mem_filterMap.mpr ⟨e, hm e (.head _), hf⟩
      obtain ⟨⟨sl, e'⟩, _⟩ := I.pv L o ho (I.fsfr O L hLfs).1
      exact ⟨hk, ⟨L, _, hf, hn, e', hd⟩, ih (fun e' h' => hm e' (.tail _ h')) hr⟩
  exact key c.outs (fun _ h => h) O.outs

theorem Inv.notfr (O : c.Ok X) (I : Inv X c σ s) {b : Addr} {o : Obj} (e : s.heap.get? b = some o) (hb : ∀ es n, o.data ≠ .dict es n) : b ∉ c.L :: c.fs := fun h => by
  rcases List.mem_cons.mp h with rfl | h
  · obtain ⟨m, ⟨o', es, ep, e', hd, _⟩, _⟩ := I.ns
    rw [e] at e'; cases e'
    exact hb _ _ hd
  · obtain ⟨_, o', es, n, e', hc⟩ := I.fsfr O b h
    rw [e] at e'; cases e'
    exact hb _ _ hc

theorem Go.low (O : c.Ok X) (I : Inv X c σ s) {h' : Heap} (g : Go (c.L :: c.fs) c.h₀ s.heap h') : Low X s.heap h' :=
  fun b _ _ _ _ e => (g b _ e (.inl (fun vs q => by cases q))).2 (I.notfr O e (fun es n q => by cases q))

/-- the objects of the stemmer are no frames -/
theorem Inv.selfNot (O : c.Ok X) (I : Inv X c σ s) {x d : Addr} (e : c.sf = some (x, d)) : x ∉ c.L :: c.fs ∧ d ∉ c.L :: c.fs := by
  obtain ⟨⟨o, q2⟩, q3, q4, _, ⟨o', q5⟩⟩ := O.self x d e
  refine ⟨fun h => ?_, fun h => ?_⟩
  · rcases List.mem_cons.mp h with rfl | h
    · rw [O.new] at q2; cases q2
    · exact q4 h
  · rcases List.mem_cons.mp h with rfl | h
    · rw [O.new] at q5; cases q5
    · exact q3 h

theorem Kp.low (O : c.Ok X) (I : Inv X c σ s) {h' : Heap} (k : Kp c s.heap h') : Low X s.heap h' := fun b cl xs n _ e => by
  refine (k b _ e fun h => ?_).2 fun h => ?_
  · unfold Act.ex at h
    rcases List.mem_cons.mp h with rfl | h
    · exact I.notfr O e (fun es n q => by cases q) (.head _)
    · cases q : c.sf with
      | none => rw [q] at h; cases h
      | some p =>
        rw [q] at h
        obtain ⟨x, d⟩ := p
        have : b = d := by simpa using h
        subst this
        obtain ⟨f, ⟨o, es, ep, e', hd, _⟩, _⟩ := (I.self x b q).ns
        rw [e] at e'; cases e'; cases hd
  · exact I.notfr O e (fun es n q => by cases q) (.tail _ h)
theorem Kp.of_keeps {h h' : Heap} (k : ∀ b o, h.get? b = some o → h'.get? b = some o) : Kp c h h' := Pv.of_keeps k
theorem Kp.push (c : Act) (h : Heap) (o : Obj) : Kp c h (h.push o) := .of_keeps fun _ _ e => Heap.get?_push_of_some _ e
/-- alive stays alive -/
theorem Inv.exlive (I : Inv X c σ s) : ∀ a ∈ c.ex, ∃ o, s.heap.get? a = some o := fun a ha => by
  unfold Act.ex at ha
  rcases List.mem_cons.mp ha with rfl | ha
  · obtain ⟨m, ⟨o, es, ep, e, _⟩, _⟩ := I.ns
    exact ⟨o, e⟩
  · cases q : c.sf with
    | none => rw [q] at ha; cases ha
    | some p =>
      rw [q] at ha
      obtain ⟨x, d⟩ := p
      have : a = d := by simpa using ha
      subst this
      obtain ⟨f, ⟨o, es, ep, e, _⟩, _⟩ := (I.self x a q).ns
      exact ⟨o, e⟩
theorem fresh_of {h₀ : Heap} (I : Inv X c σ s) (k : Pv c.ex c.fs h₀ s.heap) {b : Addr} (h : s.heap.get? b = none) : h₀.get? b = none := by
  cases q : h₀.get? b with
  | none => rfl
  | some o =>
    by_cases hx : b ∈ c.ex
    · obtain ⟨o', e'⟩ := I.exlive b hx
      rw [h] at e'; cases e'
    · obtain ⟨⟨sl, e'⟩, _⟩ := k _ o q hx
      rw [h] at e'; cases e'
theorem Inv.fresh (I : Inv X c σ s) {b : Addr} (h : s.heap.get? b = none) : c.h₀.get? b = none := fresh_of I I.pv h
theorem Kp.go {h₀ h₁ h₂ : Heap} (k : Kp c h₀ h₁) (g : Go (c.L :: c.fs) h₀ h₁ h₂) : Kp c h₀ h₂ := fun b o e hb => by
  obtain ⟨⟨sl, e₁⟩, k₁⟩ := k b o e hb
  have lt : h₀.get? b ≠ none := by rw [e]; exact fun z => nomatch z
  refine ⟨?_, fun hb' => (g b o (k₁ hb') (.inr lt)).2 fun h => ?_⟩
  · obtain ⟨⟨sl₂, e₂⟩, _⟩ := g b _ e₁ (.inr lt)
    exact ⟨sl₂, e₂⟩
  · rcases List.mem_cons.mp h with rfl | h
    · exact hb (.head _)
    · exact hb' h
theorem Go.rebase {fr : List Addr} {h₀ h₁ h₂ h₃ : Heap} (g : Go fr h₁ h₂ h₃) (k : ∀ b, h₁.get? b = none → h₀.get? b = none) : Go fr h₀ h₂ h₃ :=
  fun b o e hn => g b o e (hn.imp id fun q z => q (k b z))

theorem Inv.go (O : c.Ok X) (I : Inv X c σ s) {h' : Heap} {tk : Nat} (htk : 0 < tk) (g : Go (c.L :: c.fs) c.h₀ s.heap h') : Inv X c σ { s with heap := h', toks := tk } := by
  have low := g.low O I
  obtain ⟨m, n, n1, n2⟩ := I.ns
  refine ⟨⟨m, Ns.slots n fun o e => (g _ o e (.inl ?_)).1, n1, fun k nm V a b => ?_⟩, fun x d q => ?_, ?_, I.gens, I.drawn, I.os, htk, fun a ha => ?_⟩
  · obtain ⟨o', es, ep, e', hd, _⟩ := n
    rw [e] at e'; cases e'
    intro vs q
    rw [hd] at q; cases q
  · obtain ⟨v, h1, h2⟩ := n2 k nm V a b
    exact ⟨v, h1, h2.low X low⟩
  · obtain ⟨nx, nd⟩ := I.selfNot O q
    obtain ⟨⟨_, q2⟩, _, _, _, ⟨_, q5⟩⟩ := O.self x d q
    exact (I.self x d q).move low (fun o ho => (g x o ho (.inr (by rw [q2]; exact fun z => nomatch z))).2 nx) fun o ho => (g d o ho (.inr (by rw [q5]; exact fun z => nomatch z))).2 nd
  · refine fun b o e hb => ?_
    obtain ⟨⟨sl, e₁⟩, k₁⟩ := I.pv b o e hb
    have lt : c.h₀.get? b ≠ none := by rw [e]; exact fun z => nomatch z
    obtain ⟨⟨sl₂, e₂⟩, k₂⟩ := g b _ e₁ (.inr lt)
    refine ⟨⟨sl₂, e₂⟩, fun hb' => ?_⟩
    refine (g b o (k₁ hb') (.inr lt)).2 fun h => ?_
    rcases List.mem_cons.mp h with rfl | h
    · exact hb (.head _)
    · exact hb' h
  · obtain ⟨o, xs, k, e, hd⟩ := I.chg a ha
    obtain ⟨⟨sl, e'⟩, _⟩ := g a o e (.inl fun vs q => by rw [hd] at q; cases q)
    exact ⟨_, xs, k, e', hd⟩
theorem Inv.toks (I : Inv X c σ s) {tk : Nat} (htk : 0 < tk) : Inv X c σ { s with toks := tk } := ⟨I.ns, I.self, I.pv, I.gens, I.drawn, I.os, htk, I.chg⟩

noncomputable def St.put (σ : St) (k : Nat) (V : V) : St := { σ with loc := σ.loc.set k (some V) }
noncomputable def St.setf (σ : St) (k : Nat) (V : V) : St := { σ with fl := σ.fl.set k (some V) }

theorem nodup_get {α : Type} {l : List α} (h : l.Nodup) {i j : Nat} {a : α} (hi : l[i]? = some a) (hj : l[j]? = some a) : i = j := by
  obtain ⟨l1, e1⟩ := List.getElem?_eq_some_iff.mp hi
  obtain ⟨l2, e2⟩ := List.getElem?_eq_some_iff.mp hj
  rw [List.nodup_iff_pairwise_ne, List.pairwise_iff_getElem] at h
  rcases Nat.lt_trichotomy i j with q | q | q
  · exact absurd (e1.trans e2.symm) (h i j l1 l2 q)
  · exact q
  · exact absurd (e2.trans e1.symm) (h j i l2 l1 q)

/-- a change at one place of a dict keeps the rest -/
theorem low_same {X : Cx} {h h' : Heap} {a : Addr} (hd : ∀ o, h.get? a = some o → ∃ es n, o.data = .dict es n) (k : Heap.SameBut a h h') : Low X h h' := by
  refine fun b c xs n _ e => (k.2 b fun q => ?_).trans e
  subst q
  obtain ⟨es, n', hh⟩ := hd _ e
  cases hh

theorem Inv.stored (O : c.Ok X) (I : Inv X c σ s) {m : Str → Option Value} {k : Nat} {nm : Str} {v : Value} {V : V} (hk : c.ls[k]? = some nm) (n : s.heap.Ns c.L m)
    (n1 : ∀ x d, c.sf = some (x, d) → m "self" = some (.ref x)) (n2 : ∀ (k : Nat) (nm : Str) (V : Mine.V), c.ls[k]? = some nm → σ.loc[k]? = some (some V) → ∃ v, m nm = some v ∧ Rel X s.heap v V)
    (r : Rel X s.heap v V) {h' : Heap} {tk : Nat} (htk : 0 < tk) (n' : h'.Ns c.L (fun y => if y = nm then some v else m y)) (hs : Heap.SameBut c.L s.heap h') : Inv X c (σ.put k V) { s with heap := h', toks := tk } := by
  have low : Low X s.heap h' := low_same (fun o e => by
    obtain ⟨o', es, ep, e', hd, _⟩ := n
    rw [e] at e'; cases e'
    exact ⟨_, _, hd⟩) hs
  refine ⟨⟨_, n', fun x d q => ?_, fun j nm' V' a b => ?_⟩, fun x d q => ?_, ?_, I.gens, I.drawn, I.os, htk, fun a ha => ?_⟩
  · have : nm ≠ ("self" : Str) := fun z => O.noself (by rw [q]; rfl) (z ▸ List.mem_of_getElem? hk)
    rw [if_neg (Ne.symm this)]
    exact n1 x d q
  · by_cases q : j = k
    · subst q
      have e : nm' = nm := Option.some.inj (a.symm.trans hk)
      subst e
      have : V' = V := by
        by_cases q : j < σ.loc.length
        · have b' : (σ.loc.set j (some V))[j]? = some (some V') := b
          rw [List.getElem?_set_self q] at b'
          exact (Option.some.inj (Option.some.inj b')).symm
        · have b' : (σ.loc.set j (some V))[j]? = some (some V') := b
          rw [List.getElem?_eq_none (by rw [List.length_set]; omega)] at b'
          cases b'
      subst this
      exact ⟨v, if_pos rfl, r.low X low⟩
    · have b' : (σ.loc.set k (some V))[j]? = some (some V') := b
      rw [List.getElem?_set_ne (Ne.symm q)] at b'
      obtain ⟨v', h1, h2⟩ := n2 j nm' V' a b'
      have : nm' ≠ nm := fun z => by
        subst z
        exact q (nodup_get O.nodup a hk)
      exact ⟨v', by rw [if_neg this]; exact h1, h2.low X low⟩
  · obtain ⟨nx, nd⟩ := I.selfNot O q
    exact (I.self x d q).move low (fun o ho => (hs.2 x fun z => nx (z ▸ .head _)).trans ho) fun o ho => (hs.2 d fun z => nd (z ▸ .head _)).trans ho
  · exact I.pv.trans (.of_same (.head _) hs)
  · obtain ⟨o, xs, k, e, hd⟩ := I.chg a ha
    have ne : a ≠ c.L := fun z => by
      subst z
      obtain ⟨o', es, ep, e', hd', _⟩ := n
      rw [e] at e'; cases e'
      rw [hd] at hd'; cases hd'
    exact ⟨o, xs, k, (hs.2 a ne).trans e, hd⟩
end

section
variable {X} {c : Act} {σ : St} {s : Shared} {A : Around} {E : Value → Shared → Prop}
theorem wp_store (O : c.Ok X) (I : Inv X c σ s) {k : Nat} {nm : Str} {v : Value} {V : V} (hk : c.ls[k]? = some nm) (r : Rel X s.heap v V) {Q : Unit → Shared → Prop}
    (h : ∀ s', Inv X c (σ.put k V) s' → Kp c s.heap s'.heap → Q () s') : wpAny (model X.prog X.w) A (storeName c.env nm v) Q E s := by
  obtain ⟨m, n, n1, n2⟩ := I.ns
  refine wpAny_storeName_local (m := m) (O.loc k nm hk) (by rw [O.locals]; exact n) (fun h' hn hs => ?_) (by rw [O.kind]; rfl)
  rw [O.locals] at hn hs
  exact h _ (I.stored O hk n n1 n2 r (Nat.succ_pos _) hn hs) (Pv.of_same (.head _) hs)
theorem wp_name (O : c.Ok X) (I : Inv X c σ s) {k : Nat} {nm : Str} {V : V} (hk : c.ls[k]? = some nm) (hV : σ.loc[k]? = some (some V)) {Q : Value → Shared → Prop}
    (h : ∀ v, Rel X s.heap v V → Q v s) : wpAny (model X.prog X.w) A (loadName c.env nm) Q E s := by
  obtain ⟨m, n, n1, n2⟩ := I.ns
  obtain ⟨v, h1, h2⟩ := n2 k nm V hk hV
  exact wpAny_loadName_local O.kind (O.loc k nm hk) (by rw [O.locals]; exact n) h1 (h v h2)
theorem wp_self (O : c.Ok X) (I : Inv X c σ s) {x d : Addr} (hc : c.sf = some (x, d)) {Q : Value → Shared → Prop}
    (h : Q (.ref x) s) : wpAny (model X.prog X.w) A (loadName c.env "self") Q E s := by
  obtain ⟨m, n, n1, n2⟩ := I.ns
  exact wpAny_loadName_local O.kind (O.selfk (by rw [hc]; rfl)) (by rw [O.locals]; exact n) (n1 x d hc) h
end
end Mine
namespace Mine
open PySem PySem.W PySem.Calls PyProof.Rows
set_option autoImplicit false
variable (X : Cx)

/-- what the written part says of the stemmer's class and of a field's name -/
structure FOk (nm : Str) : Prop where
  get : plainGet X.K X.C nm = true
  dict : hasDictIn X.K X.C = true
  find : ∃ attr, findIn X.K (.ref X.C) nm = some attr ∧ noGet X.K attr = true
  set : findIn X.K (.ref X.C) "__setattr__" = some (some (.builtin "object.__setattr__"))
  over : plainOver X.K X.C = true
  taker : takerIn X.K X.C nm = some none
  own : nm ∈ fnames

theorem lookIn_ns {o : Obj} {es : Array DictEntry} {ep : Nat} {nm : Str} (hd : o.data = .dict es ep) (hk : StrKeys es) : lookIn nm o = some (nsFind es nm) := by
  obtain ⟨oc, od, dt, sl⟩ := o
  dsimp only at hd
  subst hd
  unfold lookIn nsFind findBy
  dsimp only
  rw [← Array.find?_toList]
  cases q : es.toList.find? (fun e => e.key.isStr nm) with
  | some e => rfl
  | none =>
    have : es.toList.any (·.refKey) = false := by
      rw [List.any_eq_false]
      intro e he
      obtain ⟨n, t, hh⟩ := hk e (Array.mem_toList_iff.mp he)
      unfold DictEntry.refKey
      rw [hh]
      simp
    simp [this]

variable {X}
theorem Rel.handed {h : Heap} {v : Value} {V : V} (r : Rel X h v V) : handedIn v = true := by
  cases r <;> rfl

section
variable {c : Act} {σ : St} {s : Shared} {A : Around} {E : Value → Shared → Prop}

theorem fnames_get {nm : Str} (h : nm ∈ fnames) : ∃ k : Nat, fnames[k]? = some nm := by
  obtain ⟨k, hk, e⟩ := List.getElem_of_mem h
  exact ⟨k, by rw [List.getElem?_eq_getElem hk, e]⟩

theorem self_get {h : Heap} {x d : Addr} {F : List (Option V)} (S : SelfAt X h x d F) {k : Nat} {nm : Str} {V : V} (hk : fnames[k]? = some nm) (hV : F[k]? = some (some V)) :
    ∃ ox o v, InstAt h x ox X.C (some o) ∧ ox.dict = some d ∧ lookIn nm o = some (some v) ∧ Rel X h v V := by
  obtain ⟨⟨sl, a⟩, cc, ⟨f, ⟨o, es, ep, e1, e2, e3, e4, e5⟩, g, r⟩, u, v⟩ := S
  obtain ⟨w, h1, h2⟩ := (r k nm hk).1 V hV
  exact ⟨_, o, w, ⟨a, rfl, rfl, e1⟩, rfl, by rw [lookIn_ns e2 e3, e5, h1], h2⟩
theorem self_inst {h : Heap} {x d : Addr} {F : List (Option V)} (S : SelfAt X h x d F) {nm : Str} (hn : nm ∉ fnames) :
    ∃ ox o, InstAt h x ox X.C (some o) ∧ ox.dict = some d ∧ lookIn nm o = some none := by
  obtain ⟨⟨sl, a⟩, cc, ⟨f, ⟨o, es, ep, e1, e2, e3, e4, e5⟩, g, r⟩, u, v⟩ := S
  exact ⟨_, o, ⟨a, rfl, rfl, e1⟩, rfl, by rw [lookIn_ns e2 e3, e5, g nm hn]⟩

theorem wp_fget (O : c.Ok X) (I : Inv X c σ s) {x d : Addr} (hc : c.sf = some (x, d)) {k : Nat} {nm : Str} {V : V} (F : FOk X nm) (hk : fnames[k]? = some nm) (hV : σ.fl[k]? = some (some V)) {expr : Bool} {Q : Value → Shared → Prop}
    (h : ∀ v s', Inv X c σ s' → Kp c s.heap s'.heap → Rel X s'.heap v V → Q v s') : wpAny (model X.prog X.w) A (getAttr (.ref x) nm expr) Q E s := by
  obtain ⟨ox, o, v, i, _, l, r⟩ := self_get (I.self x d hc) hk hV
  obtain ⟨attr, ha, hn⟩ := F.find
  exact get_value (I.K O) i (plainGet_of F.get).1 (findObj_own F.dict ha hn l) r.handed (h v _ (I.toks (Nat.succ_pos _)) (.refl _ _) r)

theorem nsFind_put {nm : Str} {hsh : Int} {key v : Value} {c : Value} {dd : Option Addr} {es : Array DictEntry} {ep : Nat} {sl : Array (Option Value)} (hk : StrKeys es) (hkey : ∃ t, key = .str nm t) :
    ∃ es' ep', Obj.putName nm hsh key v ⟨c, dd, .dict es ep, sl⟩ = ⟨c, dd, .dict es' ep', sl⟩ ∧ StrKeys es' ∧ (∀ y, nsFind es' y = if y = nm then some v else nsFind es y) ∧
      (nsFind es nm ≠ none → es'.size = es.size) ∧ es'.size ≤ es.size + 1 := by
  obtain ⟨t, rfl⟩ := hkey
  rw [Obj.putName_eq]
  unfold Obj.putNameByArray
  cases hi : es.findIdx? (·.key.isStr nm) with
  | some i =>
    refine ⟨_, _, by simp only [hi]; rfl, hk.modify _ _, fun y => findBy_modify (fun n v => v.isStr n) Value.isStr_inj es nm y v i hi, fun _ => Array.size_modify .., ?_⟩
    rw [Array.size_modify]; exact Nat.le_succ _
  | none =>
    refine ⟨_, _, by simp only [hi]; rfl, hk.push _ _ _ _, fun y => findBy_push (fun n v => v.isStr n) es nm y _ _ v (fun y => ?_) hi, fun h => absurd ?_ h, Nat.le_of_eq (Array.size_push ..)⟩
    · show (nm == y) = decide (y = nm)
      by_cases h : y = nm
      · subst h; simp
      · have : ¬ nm = y := fun e => h e.symm
        simp [h, this]
    · unfold nsFind
      rw [findBy_of_findIdx?, hi]

theorem count_set_some {α : Type} : ∀ (F : List (Option α)) (k : Nat) (V : α), (∃ W, F[k]? = some (some W)) → ((F.set k (some V)).filter Option.isSome).length = (F.filter Option.isSome).length
  | [], _, _, ⟨_, h⟩ => by simp at h
  | a :: F, 0, V, ⟨W, h⟩ => by
    have : a = some W := by simpa using h
    subst this
    simp
  | a :: F, k + 1, V, ⟨W, h⟩ => by
    have ih := count_set_some F k V ⟨W, by simpa using h⟩
    cases a <;> simp [ih]
theorem count_set_none {α : Type} : ∀ (F : List (Option α)) (k : Nat) (V : α), F[k]? = some none → ((F.set k (some V)).filter Option.isSome).length = (F.filter Option.isSome).length + 1
  | [], _, _, h => by simp at h
  | a :: F, 0, V, h => by
    have : a = none := by simpa using h
    subst this
    simp
  | a :: F, k + 1, V, h => by
    have ih := count_set_none F k V (by simpa using h)
    cases a <;> simp [ih]

theorem fnames_len : fnames.length = 8 := rfl
theorem fnames_nodup : fnames.Nodup := by decide +kernel

theorem SelfAt.put {h h' : Heap} {x d : Addr} {F : List (Option V)} (S : SelfAt X h x d F) {k : Nat} {nm : Str} {v : Value} {V : V} (hk : fnames[k]? = some nm) (r : Rel X h v V) (low : Low X h h')
    (hx : ∀ o, h.get? x = some o → h'.get? x = some o) {hsh : Int} {t : Tok} (hd : ∀ o, h.get? d = some o → h'.get? d = some (Obj.putName nm hsh (.str nm t) v o)) : SelfAt X h' x d (F.set k (some V)) := by
  obtain ⟨⟨sl, a⟩, cc, ⟨f, ⟨o, es, ep, e1, e2, e3, e4, e5⟩, g, rr⟩, u, w⟩ := S
  obtain ⟨oc, od, dt, osl⟩ := o
  dsimp only at e2
  subst e2
  obtain ⟨es', ep', p1, p2, p3, p4, p5⟩ := nsFind_put (nm := nm) (hsh := hsh) (key := .str nm t) (v := v) (c := oc) (dd := od) (ep := ep) (sl := osl) e3 ⟨t, rfl⟩
  have klt : k < F.length := by
    obtain ⟨l, _⟩ := List.getElem?_eq_some_iff.mp hk
    rw [cc]; exact l
  refine ⟨⟨sl, hx _ a⟩, by rw [List.length_set]; exact cc, ⟨fun y => if y = nm then some v else f y, ⟨_, es', ep', (hd _ e1).trans (congrArg some p1), rfl, p2, ?_, fun y => ?_⟩, fun y hy => ?_, fun j nm' hj => ?_⟩, u, w⟩
  · cases q : F[k]? with
    | none => rw [List.getElem?_eq_none_iff] at q; omega
    | some W =>
      cases W with
      | some W =>
        rw [count_set_some F k V ⟨W, q⟩, p4 ?_]
        · exact e4
        · rw [e5]
          obtain ⟨v', h1, _⟩ := (rr k nm hk).1 W q
          rw [h1]; exact fun z => nomatch z
      | none =>
        rw [count_set_none F k V q]
        exact Nat.le_trans p5 (Nat.succ_le_succ e4)
  · rw [p3, e5]
  · have : y ≠ nm := fun z => hy (z ▸ List.mem_of_getElem? hk)
    exact (if_neg this).trans (g y hy)
  · by_cases q : j = k
    · subst q
      obtain rfl : nm' = nm := Option.some.inj (hj.symm.trans hk)
      refine ⟨fun V' hV => ?_, fun hV => ?_⟩
      · rw [List.getElem?_set_self klt] at hV
        obtain rfl : V = V' := Option.some.inj (Option.some.inj hV)
        exact ⟨v, if_pos rfl, r.low X low⟩
      · rw [List.getElem?_set_self klt] at hV
        cases hV
    · have ne : nm' ≠ nm := fun z => by subst z; exact q (nodup_get fnames_nodup hj hk)
      rw [List.getElem?_set_ne (Ne.symm q)]
      refine ⟨fun V' hV => ?_, fun hV => ?_⟩
      · obtain ⟨v', h1, h2⟩ := (rr j nm' hj).1 V' hV
        exact ⟨v', (if_neg ne).trans h1, h2.low X low⟩
      · exact (if_neg ne).trans ((rr j nm' hj).2 hV)

/-- a change of the dict of the stemmer alone -/
theorem Inv.fld (O : c.Ok X) (I : Inv X c σ s) {x d : Addr} (hc : c.sf = some (x, d)) {F : List (Option V)} {h' : Heap} {tk : Nat} (htk : 0 < tk) (hs : Heap.SameBut d s.heap h') (S : SelfAt X h' x d F) : Inv X c ⟨σ.loc, F⟩ { s with heap := h', toks := tk } := by
  have S0 := I.self x d hc
  have low : Low X s.heap h' := low_same (fun o e => by
    obtain ⟨f, ⟨o', es, ep, e1, e2, _⟩, _⟩ := S0.ns
    rw [e] at e1; cases e1
    exact ⟨_, _, e2⟩) hs
  obtain ⟨m, n, n1, n2⟩ := I.ns
  have hdL : c.L ≠ d := fun z => (I.selfNot O hc).2 (z ▸ .head _)
  refine ⟨⟨m, n.sameBut hs hdL, n1, fun k nm V a b => ?_⟩, fun x' d' q => ?_, ?_, I.gens, I.drawn, I.os, htk, fun a ha => ?_⟩
  · obtain ⟨v, h1, h2⟩ := n2 k nm V a b
    exact ⟨v, h1, h2.low X low⟩
  · rw [hc] at q
    cases q
    exact S
  · exact I.pv.trans (.of_same (by unfold Act.ex; rw [hc]; exact .tail _ (.head _)) hs)
  · obtain ⟨o, xs, k, e, hd⟩ := I.chg a ha
    have ne : a ≠ d := fun z => by
      subst z
      obtain ⟨f, ⟨o', es, ep, e', hd', _⟩, _⟩ := S0.ns
      rw [e] at e'; cases e'
      rw [hd] at hd'; cases hd'
    exact ⟨o, xs, k, (hs.2 a ne).trans e, hd⟩

theorem wp_fset (O : c.Ok X) (I : Inv X c σ s) {x d : Addr} (hc : c.sf = some (x, d)) {k : Nat} {nm : Str} {v : Value} {V : V} (F : FOk X nm) (hk : fnames[k]? = some nm) (r : Rel X s.heap v V) {Q : Unit → Shared → Prop}
    (h : ∀ s', Inv X c (σ.setf k V) s' → Kp c s.heap s'.heap → Q () s') : wpAny (model X.prog X.w) A (setAttr (.ref x) nm v) Q E s := by
  have S := I.self x d hc
  obtain ⟨⟨sl, a⟩, cc, ⟨f, ⟨o, es, ep, e1, e2, e3, e4, e5⟩, g, rr⟩, u, w⟩ := id S
  have i : InstAt s.heap x ⟨.ref X.C, some d, .plain, sl⟩ X.C (some o) := ⟨a, rfl, rfl, e1⟩
  refine set_plain (I.K O) i F.set ?_
  refine osa_open (s := { s with toks := s.toks + 1 }) ((I.toks (tk := s.toks + 1) (Nat.succ_pos _)).K O) i F.over F.taker fun b => ?_
  obtain ⟨cd, hcd, hd'⟩ := any_some F.dict
  refine wpAny_bind (wpAny_pure (wpAny_bind (wpAny_bind (wpAny_loadPart a (wpAny_bind ((looks_clsIn ((I.toks (tk := s.toks + 1) (Nat.succ_pos _)).K O) hcd).here ?_))))))
  rw [hd']
  refine wpAny_pure (a := some d) (wpAny_bind (wpAny_pure (wpAny_bind ?_)))
  unfold nsSet
  refine wpAny_bind (wpAny_bind (wpAny_askSetting (wpAny_pure (wpAny_bind (wpAny_mkText (wpAny_bind (wpAny_loadPart e1 ?_)))))))
  rw [e2]
  dsimp only
  have hany : es.any (·.refKey) = false := by
    rw [Array.any_eq_false']; intro e he; obtain ⟨n, t, h⟩ := e3 e he; simp [DictEntry.refKey, h]
  rw [aRefKeyMayBeTheName_at, hany, Bool.and_false]
  refine wpAny_updatePart e1 ?_
  have xd : x ≠ d := (O.self x d hc).2.2.2.1
  have hs : Heap.SameBut d s.heap (s.heap.update d (Obj.putName nm (PyData.keyHash X.w.params nm) (.str nm (s.toks + 1)) v)) := .update ..
  obtain ⟨es', ep', p1, p2, p3, p4, p5⟩ := nsFind_put (nm := nm) (hsh := PyData.keyHash X.w.params nm) (key := .str nm (s.toks + 1)) (v := v) (c := o.cls) (dd := o.dict) (ep := ep) (sl := o.slots) e3 ⟨_, rfl⟩
  have po : Obj.putName nm (PyData.keyHash X.w.params nm) (.str nm (s.toks + 1)) v o = ⟨o.cls, o.dict, .dict es' ep', o.slots⟩ := by
    obtain ⟨oc, od, dt, osl⟩ := o
    dsimp only at e2
    subst e2
    exact p1
  have D' : (s.heap.update d (Obj.putName nm (PyData.keyHash X.w.params nm) (.str nm (s.toks + 1)) v)).get? d = some (Obj.putName nm (PyData.keyHash X.w.params nm) (.str nm (s.toks + 1)) v o) :=
    Heap.get?_update_self _ e1 (by rw [po]; rfl)
  have S' : SelfAt X (s.heap.update d (Obj.putName nm (PyData.keyHash X.w.params nm) (.str nm (s.toks + 1)) v)) x d (σ.fl.set k (some V)) := by
    refine S.put (hsh := PyData.keyHash X.w.params nm) (t := s.toks + 1) hk r (low_same (fun o' e => ?_) hs) (fun o' e => (hs.2 x xd).trans e) fun o' e => ?_
    · rw [e1] at e; cases e
      exact ⟨_, _, e2⟩
    · rw [e1] at e; cases e
      exact D'
  refine wpAny_bind (wpAny_lookBehind D' (by
    rw [po]
    refine pastItsLine_dict (Nat.le_trans p5 ?_)
    have := List.length_filter_le Option.isSome σ.fl
    rw [cc] at this
    rw [sizeLine_eq]
    omega) ?_)
  exact wpAny_pure (h _ (I.fld O hc (Nat.succ_pos _) hs S') (Pv.of_same (by unfold Act.ex; rw [hc]; exact .tail _ (.head _)) hs))
end
end Mine
namespace Mine
open PySem PySem.W PySem.Calls PyProof.Rows
set_option autoImplicit false

inductive Op2 | add | sub | mul | mod | fdiv | shr
inductive Cm | eq | ne | lt | le | gt | ge | inn | nin

mutual
inductive E
  | var (k : Nat)
  | none
  | bool (b : Bool)
  | int (i : Int)
  | str (s : List Nat)
  | neg (i : Int)
  | fld (k : Nat)
  | glob (k : Nat)
  | cat (k : Nat)
  | ama (k : Nat) (e : E)
  | len (e : E)
  | ord (e : E)
  | bin (op : Op2) (a b : E)
  | cmp (op : Cm) (a b : E)
  | idx (a i : E)
  | slc (a lo hi : E)
  | slf (a lo : E)
  | ends (a b : E)
  | repl (a : E) (y z : List Nat)
  | meth (f : Nat) (l : Es)
  | call (f : Nat) (l : Es)
  | tup (l : Es)
  | lst (l : Es)
  | bop (and : Bool) (l : Es)
  | not (e : E)
inductive Es
  | nil
  | cons (e : E) (l : Es)
end
mutual
inductive T
  | e (e : E)
  | cmp (op : Cm) (a b : E)
  | not (t : T)
  | bop (and : Bool) (l : Ts)
inductive Ts
  | nil
  | cons (t : T) (l : Ts)
end

mutual
inductive S
  | expr (e : E)
  | asg (k : Nat) (e : E)
  | amin (k : Nat) (a b : E)
  | asf (k : Nat) (e : E)
  | ast (ks : List Nat) (e : E)
  | aug (k : Nat) (op : Op2) (e : E)
  | auf (k : Nat) (op : Op2) (e : E)
  | iff (t : T) (a b : Ss)
  | whl (t : T) (b : Ss)
  | forR (k : Nat) (l : Es) (b : Ss)
  | forL (k : Nat) (e : E) (b : Ss)
  | try_ (b : Ss) (lab : Nat)
  | raise (lab : Nat)
  | ret (e : E)
  | brk
  | cont
  | pass
  | asrt (t : T)
inductive Ss
  | nil
  | cons (s : S) (l : Ss)
end

inductive Fl
  | next | brk | cont
  | ret (v : V)
  | exc (lab : Nat)

noncomputable abbrev Spec := List V → List (Option V) → (V → List (Option V) → Prop) → Prop

/-- the meaning of the calls and of the global values -/
structure Env' where
  meth : Nat → Spec
  func : Nat → List V → (V → Prop) → Prop
  glob : Nat → V
  cat : Nat → V

noncomputable def op2 : Op2 → V → V → (V → Prop) → Prop
  | .add, .int a, .int b, Q => Q (.int (a + b))
  | .add, .str a, .str b, Q => a.length + b.length ≤ 1000000 ∧ Q (.str (a ++ b))
  | .sub, .int a, .int b, Q => Q (.int (a - b))
  | .mul, .int a, .int b, Q => (0 ≤ a ∧ a ≤ 1000000 ∧ 0 ≤ b ∧ b ≤ 1000000) ∧ Q (.int (a * b))
  | .mod, .int a, .int b, Q => 0 < b ∧ Q (.int (Int.fmod a b))
  | .fdiv, .int a, .int b, Q => (0 < b ∧ b ≤ 1000000) ∧ Q (.int (Int.fdiv a b))
  | .shr, .int a, .int b, Q => b = 1 ∧ Q (.int (Int.fdiv a 2))
  | _, _, _, _ => False

noncomputable def op2i : Op2 → V → V → (V → Prop) → Prop
  | .add, .int a, .int b, Q => Q (.int (a + b))
  | .sub, .int a, .int b, Q => Q (.int (a - b))
  | _, _, _, _ => False

noncomputable def cm : Cm → V → V → (Bool → Prop) → Prop
  | .eq, .int a, .int b, Q => Q (a == b)
  | .ne, .int a, .int b, Q => Q (a != b)
  | .lt, .int a, .int b, Q => Q (decide (a < b))
  | .le, .int a, .int b, Q => Q (decide (a ≤ b))
  | .gt, .int a, .int b, Q => Q (decide (b < a))
  | .ge, .int a, .int b, Q => Q (decide (b ≤ a))
  | .eq, .str a, .str b, Q => Q (a == b)
  | .ne, .str a, .str b, Q => Q (a != b)
  | .inn, .str [a], .str b, Q => Q (b.contains a)
  | .inn, .str [a], .set l, Q => Q (l.contains a)
  | .nin, .str [a], .set l, Q => Q (!l.contains a)
  | .inn, .str a, .dct l, Q => Q ((l.find? fun p => p.1 == a).isSome)
  | _, _, _, _ => False

noncomputable def item : V → V → (V → Prop) → Prop
  | .str a, .int i, Q => if 0 ≤ i then (∃ c, a[i.toNat]? = some c ∧ i < 1000000 ∧ Q (.str [c])) else ∃ c, a[(i + a.length).toNat]? = some c ∧ -(a.length : Int) ≤ i ∧ -1000000 < i ∧ Q (.str [c])
  | .lst a, .int i, Q => ∃ v, a[i.toNat]? = some v ∧ 0 ≤ i ∧ i < 1000000 ∧ Q v
  | .tup a, .int i, Q => ∃ v, a[i.toNat]? = some v ∧ 0 ≤ i ∧ i < 1000000 ∧ Q v
  | .dct l, .str a, Q => ∃ p, l.find? (fun p => p.1 == a) = some p ∧ Q p.2
  | _, _, _ => False

noncomputable def amaOf : Nat → V → (V → Prop) → Prop
  | 0, .amg s _ _, Q => Q (.str s)
  | 1, .amg _ i _, Q => Q (.int i)
  | 2, .amg _ _ i, Q => Q (.int i)
  | _, _, _ => False

noncomputable def lenOf : V → (V → Prop) → Prop
  | .str a, Q => a.length ≤ 1000000 ∧ Q (.int a.length)
  | .lst a, Q => a.length ≤ 1000000 ∧ Q (.int a.length)
  | _, _ => False

/-- Python's slice of a list with both ends at or above nought -/
noncomputable def cut (a : List Nat) (i j : Int) : List Nat := (a.take j.toNat).drop i.toNat

noncomputable def replOne (a : List Nat) (y : Nat) (z : List Nat) : List Nat := a.flatMap fun c => if c = y then z else [c]

noncomputable def endsW (a b : List Nat) : Bool := b.length ≤ a.length && a.drop (a.length - b.length) == b

noncomputable def getv (l : List (Option V)) (k : Nat) (Q : V → Prop) : Prop := match l[k]? with
  | some (some v) => Q v
  | _ => False

variable (Γ : Env')
mutual
noncomputable def wpE : E → St → (V → St → Prop) → Prop
  | .var k, σ, Q => getv σ.loc k fun v => Q v σ
  | .none, σ, Q => Q .none σ
  | .bool b, σ, Q => Q (.bool b) σ
  | .int i, σ, Q => Q (.int i) σ
  | .str s, σ, Q => Q (.str s) σ
  | .neg i, σ, Q => Q (.int (-i)) σ
  | .fld k, σ, Q => getv σ.fl k fun v => Q v σ
  | .glob k, σ, Q => Q (Γ.glob k) σ
  | .cat k, σ, Q => Q (Γ.cat k) σ
  | .ama k e, σ, Q => wpE e σ fun v σ => amaOf k v fun v => Q v σ
  | .len e, σ, Q => wpE e σ fun v σ => lenOf v fun v => Q v σ
  | .ord e, σ, Q => wpE e σ fun v σ => match v with | .str [c] => Q (.int c) σ | _ => False
  | .bin op a b, σ, Q => wpE a σ fun a σ => wpE b σ fun b σ => op2 op a b fun v => Q v σ
  | .cmp op a b, σ, Q => wpE a σ fun a σ => wpE b σ fun b σ => cm op a b fun v => Q (.bool v) σ
  | .idx a i, σ, Q => wpE a σ fun a σ => wpE i σ fun i σ => item a i fun v => Q v σ
  | .slc a lo hi, σ, Q => wpE a σ fun a σ => wpE lo σ fun lo σ => wpE hi σ fun hi σ => match a, lo, hi with
      | .str a, .int lo, .int hi => (a.length ≤ 1000000 ∧ 0 ≤ lo ∧ lo ≤ hi ∧ hi ≤ a.length) ∧ Q (.str (cut a lo hi)) σ
      | _, _, _ => False
  | .slf a lo, σ, Q => wpE a σ fun a σ => wpE lo σ fun lo σ => match a, lo with
      | .str a, .int lo => (a.length ≤ 1000000 ∧ 0 ≤ lo ∧ lo ≤ a.length) ∧ Q (.str (a.drop lo.toNat)) σ
      | _, _ => False
  | .ends a b, σ, Q => wpE a σ fun a σ => match a with | .str a => wpE b σ (fun b σ => match b with | .str b => Q (.bool (endsW a b)) σ | _ => False) | _ => False
  | .repl a y z, σ, Q => wpE a σ fun a σ => match a, y with | .str a, [y] => (a.length ≤ 1000 ∧ z.length ≤ 10 ∧ z ≠ [y]) ∧ Q (.str (replOne a y z)) σ | _, _ => False
  | .meth f l, σ, Q => wpEs l σ fun vs σ => Γ.meth f vs σ.fl fun v F => Q v { σ with fl := F }
  | .call f l, σ, Q => wpEs l σ fun vs σ => Γ.func f vs fun v => Q v σ
  | .tup l, σ, Q => wpEs l σ fun vs σ => vs.length ≤ 1000 ∧ Q (.tup vs) σ
  | .lst l, σ, Q => wpEs l σ fun vs σ => vs.length ≤ 1000 ∧ Q (.lst vs) σ
  | .bop and l, σ, Q => wpB and l σ Q
  | .not e, σ, Q => wpE e σ fun v σ => match v with | .bool b => Q (.bool (!b)) σ | _ => False
noncomputable def wpB (and : Bool) : Es → St → (V → St → Prop) → Prop
  | .nil, _, _ => False
  | .cons e l, σ, Q => wpE e σ fun v σ => match v with | .bool b => (match l with | .nil => Q (.bool b) σ | _ => if b = and then wpB and l σ Q else Q (.bool b) σ) | _ => False
noncomputable def wpEs : Es → St → (List V → St → Prop) → Prop
  | .nil, σ, Q => Q [] σ
  | .cons e l, σ, Q => wpE e σ fun v σ => wpEs l σ fun vs σ => Q (v :: vs) σ
end

mutual
noncomputable def wpT : T → St → (Bool → St → Prop) → Prop
  | .e e, σ, Q => wpE Γ e σ fun v σ => match v with | .bool b => Q b σ | _ => False
  | .cmp op a b, σ, Q => wpE Γ a σ fun a σ => wpE Γ b σ fun b σ => cm op a b fun v => Q v σ
  | .not t, σ, Q => wpT t σ fun b σ => Q (!b) σ
  | .bop and l, σ, Q => wpTs and l σ Q
noncomputable def wpTs (and : Bool) : Ts → St → (Bool → St → Prop) → Prop
  | .nil, σ, Q => Q and σ
  | .cons t l, σ, Q => wpT t σ fun b σ => if b = and then wpTs and l σ Q else Q b σ
end

noncomputable def intsV : List V → Option (List Int)
  | [] => some []
  | .int i :: l => (intsV l).map (i :: ·)
  | _ => Option.none
/-- the intsV of a range -/
noncomputable def rangeOf : List Int → Option (List Int)
  | [n] => some ((List.range n.toNat).map fun (i : Nat) => (i : Int))
  | [m, n] => some ((List.range (n - m).toNat).map fun (i : Nat) => m + (i : Int))
  | [m, n, -1] => some ((List.range (m - n).toNat).map fun (i : Nat) => m - (i : Int))
  | _ => Option.none

/-- a loop over values already there -/
noncomputable def loop (k : Nat) (body : St → (Fl → St → Prop) → Prop) : List V → St → (Fl → St → Prop) → Prop
  | [], σ, Q => Q .next σ
  | v :: vs, σ, Q => body (σ.put k v) fun f σ => match f with
    | .next | .cont => loop k body vs σ Q
    | .brk => Q .next σ
    | f => Q f σ

noncomputable def putAll : List Nat → List V → St → Option St
  | [], [], σ => some σ
  | k :: ks, v :: vs, σ => putAll ks vs (σ.put k v)
  | _, _, _ => Option.none

mutual
noncomputable def wpS : S → St → (Fl → St → Prop) → Prop
  | .expr e, σ, Q => wpE Γ e σ fun v σ => (match v with | .none | .bool _ | .int _ | .str _ => True | _ => False) ∧ Q .next σ
  | .asg k e, σ, Q => wpE Γ e σ fun v σ => Q .next (σ.put k v)
  | .amin k a b, σ, Q => wpE Γ a σ fun a σ => wpE Γ b σ fun b σ => match a, b with | .int a, .int b => Q .next (σ.put k (.int (if b < a then b else a))) | _, _ => False
  | .asf k e, σ, Q => wpE Γ e σ fun v σ => Q .next (σ.setf k v)
  | .ast ks e, σ, Q => wpE Γ e σ fun v σ => match v with | .tup vs => (∃ σ', putAll ks vs σ = some σ' ∧ Q .next σ') | _ => False
  | .aug k op e, σ, Q => getv σ.loc k fun a => wpE Γ e σ fun b σ => op2i op a b fun v => Q .next (σ.put k v)
  | .auf k op e, σ, Q => getv σ.fl k fun a => wpE Γ e σ fun b σ => op2i op a b fun v => Q .next (σ.setf k v)
  | .iff t a b, σ, Q => wpT Γ t σ fun c σ => if c = true then wpSs a σ Q else wpSs b σ Q
  | .whl t b, σ, Q => ∃ I : Nat → St → Prop, (∃ n, I n σ) ∧ ∀ n σ, I n σ → wpT Γ t σ fun c σ => if c = true then wpSs b σ fun f σ => (match f with
      | .next | .cont => ∃ m, m < n ∧ I m σ
      | .brk => Q .next σ
      | f => Q f σ) else Q .next σ
  | .forR k l b, σ, Q => wpEs Γ l σ fun vs σ => ∃ is xs, intsV vs = some is ∧ rangeOf is = some xs ∧ (∀ x ∈ is, -1000000 ≤ x ∧ x ≤ 1000000) ∧ loop k (wpSs b) (xs.map .int) σ Q
  | .forL k e b, σ, Q => wpE Γ e σ fun v σ => match v with | .lst vs => loop k (wpSs b) vs σ Q | _ => False
  | .try_ b lab, σ, Q => wpSs b σ fun f σ => match f with
      | .exc l => if l = lab then Q .next σ else Q (.exc l) σ
      | f => Q f σ
  | .raise lab, σ, Q => Q (.exc lab) σ
  | .ret e, σ, Q => wpE Γ e σ fun v σ => Q (.ret v) σ
  | .brk, σ, Q => Q .brk σ
  | .cont, σ, Q => Q .cont σ
  | .pass, σ, Q => Q .next σ
  | .asrt t, σ, Q => wpT Γ t σ fun c σ => c = true ∧ Q .next σ
noncomputable def wpSs : Ss → St → (Fl → St → Prop) → Prop
  | .nil, σ, Q => Q .next σ
  | .cons s l, σ, Q => wpS s σ fun f σ => match f with
    | .next => wpSs l σ Q
    | f => Q f σ
end
end Mine
namespace Mine
open PySem PySem.W PySem.Calls PyProof.Rows
set_option autoImplicit false
variable (X : Cx)

noncomputable def frs (l : List Env) : List Addr := l.filterMap (·.frame)

structure Room (A : Around) (l : List Env) (R : Nat) (h : Heap) : Prop where
  handled : A.handled = none
  depth : A.depth + R < recursionLimit
  units : A.units + 10 * R + 40 < cLine
  frames : A.frames = some l
  ff : h.FunFrames {} l
  fr : ∀ a ∈ frs l, X.H.get? a = none ∧ ∃ o es n, h.get? a = some o ∧ o.data = .dict es n

noncomputable def Same (s s' : Shared) : Prop := s'.gens = s.gens ∧ s'.drawn = s.drawn ∧ s'.os = s.os ∧ 0 < s'.toks

noncomputable def MethOk (f : Addr) (R : Nat) (sp : Spec) : Prop :=
  ∀ (A : Around) (l : List Env) (s : Shared) (x d : Addr) (F : List (Option V)) (vs : List Value) (Vs : List V) (Q : V → List (Option V) → Prop) (E : Value → Shared → Prop),
    Room X A l R s.heap → Stat X s.heap → 0 < s.toks → SelfAt X s.heap x d F → x ∉ frs l → d ∉ frs l → x ≠ d → RelL X s.heap vs Vs → sp Vs F Q →
    wpAny (model X.prog X.w) A (call (.ref f) (.ref x :: vs)) (fun v s' => ∃ W F', Pv [d] (frs l) s.heap s'.heap ∧ SelfAt X s'.heap x d F' ∧ Rel X s'.heap v W ∧ Same s s' ∧ Q W F') E s

noncomputable def FuncOk (f : Addr) (R : Nat) (sp : List V → (V → Prop) → Prop) : Prop :=
  ∀ (A : Around) (l : List Env) (s : Shared) (vs : List Value) (Vs : List V) (Q : V → Prop) (E : Value → Shared → Prop),
    Room X A l R s.heap → Stat X s.heap → 0 < s.toks → RelL X s.heap vs Vs → sp Vs Q →
    wpAny (model X.prog X.w) A (call (.ref f) vs) (fun v s' => ∃ W, Pv [] (frs l) s.heap s'.heap ∧ Rel X s'.heap v W ∧ Same s s' ∧ Q W) E s

/-- the names of a text -/
structure Nm where
  meths : List Str
  funcs : List Str
  gl : List Str
  cats : List (Str × Str)
  labs : List Str

structure Sig (N : Nm) (Γ : Env') (R : Nat) : Prop where
  meth : ∀ (m : Nat) (nm : Str), N.meths[m]? = some nm → nm ∉ fnames ∧ plainGet X.K X.C nm = true ∧ ∃ f, findIn X.K (.ref X.C) nm = some (some (.ref f)) ∧ typeIn X.K (.ref f) = some (.type "function") ∧ keepIn X.K (.ref f) = true ∧ MethOk X f R (Γ.meth m)
  func : ∀ (m : Nat) (nm : Str), N.funcs[m]? = some nm → (nm == ("__debug__" : Str)) = false ∧ ∃ f, X.mg nm = some (.ref f) ∧ keepIn X.K (.ref f) = true ∧ FuncOk X f R (Γ.func m)
  glob : ∀ (m : Nat) (nm : Str), N.gl[m]? = some nm → (nm == ("__debug__" : Str)) = false ∧ ∃ v, X.mg nm = some v ∧ ∀ h, Stat X h → Rel X h v (Γ.glob m)
  cat : ∀ (m : Nat) (p : Str × Str), N.cats[m]? = some p → (p.1 == ("__debug__" : Str)) = false ∧ ∃ C mc v, X.mg p.1 = some (.ref C) ∧ readsIn X.K C mc = true ∧ findCls X.K (.ref C) mc p.2 = some (.val v) ∧ ∀ h, Stat X h → Rel X h v (Γ.cat m)
  fok : ∀ nm ∈ fnames, FOk X nm
  blen : X.mg "len" = none ∧ X.mb "len" = some (.builtin "len")
  bord : X.mg "ord" = none ∧ X.mb "ord" = some (.builtin "ord")
  bmin : X.mg "min" = none ∧ X.mb "min" = some (.builtin "min")
  brange : X.mg "range" = none ∧ X.mb "range" = some (.type "range")

variable {X}
section
variable {c : Act} {σ : St} {s : Shared} {A : Around} {R : Nat}
theorem Act.Ok.frs (O : c.Ok X) : frs (c.env :: c.outs) = c.L :: c.fs := by
  unfold Mine.frs
  rw [List.filterMap_cons, O.frame]
  rfl
theorem Inv.room (O : c.Ok X) (AO : AOk A c R) (I : Inv X c σ s) : Room X A (c.env :: c.outs) R s.heap := by
  refine ⟨AO.handled, AO.depth, AO.units, AO.frames, I.frames O, fun a ha => ?_⟩
  rw [O.frs] at ha
  rcases List.mem_cons.mp ha with rfl | ha
  · obtain ⟨m, ⟨o, es, ep, e, hd, _⟩, _⟩ := I.ns
    exact ⟨O.hL, o, es, ep, e, hd⟩
  · exact ⟨(O.outc a ha).1, (I.fsfr O a ha).2⟩

theorem Pv.low {ex fs : List Addr} {h h' : Heap} (p : Pv ex fs h h') (hx : ∀ a ∈ ex, ∃ o es k, h.get? a = some o ∧ o.data = .dict es k) (hf : ∀ a ∈ fs, ∃ o es k, h.get? a = some o ∧ o.data = .dict es k) : Low X h h' := by
  refine fun b c xs k _ e => (p b _ e fun z => ?_).2 fun z => ?_
  · obtain ⟨o, es, k', e', hd⟩ := hx b z
    rw [e] at e'; cases e'; cases hd
  · obtain ⟨o, es, k', e', hd⟩ := hf b z
    rw [e] at e'; cases e'; cases hd

/-- behind a call that leaves the frames and turns the stemmer alone -/
theorem Inv.called (O : c.Ok X) (AO : AOk A c R) (I : Inv X c σ s) {s' : Shared} {F : List (Option V)} {ex : List Addr} (hex : ∀ a ∈ ex, ∃ x, c.sf = some (x, a))
    (p : Pv ex (frs (c.env :: c.outs)) s.heap s'.heap) (S : ∀ x d, c.sf = some (x, d) → SelfAt X s'.heap x d F) (sm : Same s s') : Inv X c ⟨σ.loc, F⟩ s' ∧ Kp c s.heap s'.heap := by
  have RM := I.room O AO
  have hL : c.L ∉ ex := fun z => by
    obtain ⟨x, hx⟩ := hex _ z
    exact (I.selfNot O hx).2 (.head _)
  have low : Low X s.heap s'.heap := p.low (fun a ha => by
    obtain ⟨x, hx⟩ := hex a ha
    have S0 := I.self x a hx
    obtain ⟨f, ⟨o, es, ep, e1, e2, _⟩, _⟩ := S0.ns
    exact ⟨o, es, ep, e1, e2⟩) fun a ha => (RM.fr a ha).2
  have kp : Kp c s.heap s'.heap := fun b o e hb => by
    have nb : b ∉ ex := fun z => by
      obtain ⟨x, hx⟩ := hex b z
      exact hb (by unfold Act.ex; rw [hx]; exact .tail _ (.head _))
    refine ⟨(p b o e nb).1, fun hb' => (p b o e nb).2 ?_⟩
    rw [O.frs]
    intro z
    rcases List.mem_cons.mp z with rfl | z
    · exact hb (.head _)
    · exact hb' z
  obtain ⟨m, n, n1, n2⟩ := I.ns
  refine ⟨⟨⟨m, Ns.slots n fun o e => (p _ o e hL).1, n1, fun k nm V a b => ?_⟩, S, I.pv.trans kp, sm.1.trans I.gens, sm.2.1.trans I.drawn, sm.2.2.1.trans I.os, sm.2.2.2, fun a ha => ?_⟩, kp⟩
  · obtain ⟨v, h1, h2⟩ := n2 k nm V a b
    exact ⟨v, h1, h2.low X low⟩
  · obtain ⟨o, xs, k, e, hd⟩ := I.chg a ha
    have ne : a ∉ ex := fun z => by
      obtain ⟨x, hx⟩ := hex a z
      obtain ⟨f, ⟨o', es, ep, e', hd', _⟩, _⟩ := (I.self x a hx).ns
      rw [e] at e'; cases e'
      rw [hd] at hd'; cases hd'
    obtain ⟨⟨sl, e'⟩, _⟩ := p a o e ne
    exact ⟨_, xs, k, e', hd⟩

theorem wp_meth (O : c.Ok X) (AO : AOk A c R) (I : Inv X c σ s) {x d : Addr} (hc : c.sf = some (x, d)) {f : Addr} {sp : Spec} (M : MethOk X f R sp) {vs : List Value} {Vs : List V} (r : RelL X s.heap vs Vs)
    {Q : V → List (Option V) → Prop} (h : sp Vs σ.fl Q) {E : Value → Shared → Prop} :
    wpAny (model X.prog X.w) A (call (.ref f) (.ref x :: vs)) (fun v s' => ∃ W F', Inv X c ⟨σ.loc, F'⟩ s' ∧ Kp c s.heap s'.heap ∧ Rel X s'.heap v W ∧ Q W F') E s := by
  have SN := I.selfNot O hc
  rw [← O.frs] at SN
  refine wpAny_mono (M A _ s x d σ.fl vs Vs Q E (I.room O AO) (I.stat O) I.tk (I.self x d hc) SN.1 SN.2 (O.self x d hc).2.2.2.1 r h) (fun v s' z => ?_) fun _ _ z => z
  obtain ⟨W, F', p, S, rv, sm, q⟩ := z
  obtain ⟨I', low⟩ := I.called O AO (F := F') (ex := [d]) (fun a ha => ⟨x, by rw [List.mem_singleton.mp ha]; exact hc⟩) p (fun x' d' e => by rw [hc] at e; cases e; exact S) sm
  exact ⟨W, F', I', low, rv, q⟩

theorem wp_func (O : c.Ok X) (AO : AOk A c R) (I : Inv X c σ s) {f : Addr} {sp : List V → (V → Prop) → Prop} (M : FuncOk X f R sp) {vs : List Value} {Vs : List V} (r : RelL X s.heap vs Vs)
    {Q : V → Prop} (h : sp Vs Q) {E : Value → Shared → Prop} :
    wpAny (model X.prog X.w) A (call (.ref f) vs) (fun v s' => ∃ W, Inv X c σ s' ∧ Kp c s.heap s'.heap ∧ Rel X s'.heap v W ∧ Q W) E s := by
  refine wpAny_mono (M A _ s vs Vs Q E (I.room O AO) (I.stat O) I.tk r h) (fun v s' z => ?_) fun _ _ z => z
  obtain ⟨W, p, rv, sm, q⟩ := z
  have low : Low X s.heap s'.heap := p.low (fun a ha => nomatch ha) fun a ha => ((I.room O AO).fr a ha).2
  have S' : ∀ x d, c.sf = some (x, d) → SelfAt X s'.heap x d σ.fl := fun x d e => by
    have SN := I.selfNot O e
    rw [← O.frs] at SN
    exact (I.self x d e).move low (fun o ho => (p x o ho fun z => nomatch z).2 SN.1) fun o ho => (p d o ho fun z => nomatch z).2 SN.2
  obtain ⟨I', low⟩ := I.called O AO (F := σ.fl) (ex := []) (fun a ha => nomatch ha) p S' sm
  exact ⟨W, I', low, rv, q⟩
end
end Mine
namespace Mine
open PySem PySem.W PySem.Calls PyProof.Rows
set_option autoImplicit false
variable {X : Cx}

theorem tx_len (l : List Nat) : (tx l).length = l.length := by simp [Str.length]
theorem tx_app (a b : List Nat) : tx a ++ tx b = tx (a ++ b) := by
  show (⟨a.toArray ++ b.toArray⟩ : Str) = ⟨(a ++ b).toArray⟩
  simp
theorem str_len_app (a b : Str) : (a ++ b).length = a.length + b.length := by
  show (a.cps ++ b.cps).size = a.cps.size + b.cps.size
  exact Array.size_append ..
theorem tx_inj {a b : List Nat} (h : tx a = tx b) : a = b := by
  have : a.toArray = b.toArray := congrArg Str.cps h
  simpa using this
theorem tx_cps (l : List Nat) : (tx l).cps.toList = l := rfl
theorem tx_beq (a b : List Nat) : (tx a == tx b) = (a == b) := by
  by_cases h : a = b
  · subst h; rw [beq_self_eq_true, beq_self_eq_true]
  · have : tx a ≠ tx b := fun e => h (tx_inj e)
    rw [beq_eq_false_iff_ne.mpr this, beq_eq_false_iff_ne.mpr h]

section
variable {c : Act} {σ : St} {s : Shared} {A : Around} {E : Value → Shared → Prop}

noncomputable def PV (X : Cx) (c : Act) (σ : St) (s : Shared) (Q : V → Prop) : Value → Shared → Prop := fun v s' => ∃ W, Inv X c σ s' ∧ Kp c s.heap s'.heap ∧ Rel X s'.heap v W ∧ Q W

theorem PV.same {Q : V → Prop} {v : Value} {W : V} (I : Inv X c σ s) (r : Rel X s.heap v W) (h : Q W) : PV X c σ s Q v s := ⟨W, I, .refl _ _, r, h⟩
theorem PV.tok {Q : V → Prop} {v : Value} {W : V} {k : Nat} (I : Inv X c σ s) (hk : 0 < k) (r : Rel X s.heap v W) (h : Q W) : PV X c σ s Q v { s with toks := k } := ⟨W, I.toks hk, .refl _ _, r, h⟩

theorem log_small {a : Int} (h0 : 0 ≤ a) (h1 : a ≤ 1000000) : a.natAbs.log2 ≤ 20 := by
  by_cases h : a.natAbs = 0
  · rw [h]; decide
  · exact Nat.le_of_lt ((Nat.log2_lt h).mpr (Nat.lt_of_le_of_lt (m := 1000000) (by omega) (by decide)))
theorem bits_small {a : Int} (h0 : 0 ≤ a) (h1 : a ≤ 1000000) : Builtin.Int.intBits a ≤ 64 := by
  unfold Builtin.Int.intBits
  split
  · exact Nat.zero_le _
  · have h2 : a.natAbs.log2 ≤ 20 := log_small h0 h1
    omega
theorem div_small {a b : Int} (h0 : 0 < b) (h1 : b ≤ 1000000) : Builtin.divisionGoesByPylong a b = false := by
  unfold Builtin.divisionGoesByPylong
  have : b.natAbs.log2 ≤ 20 := log_small (Int.le_of_lt h0) h1
  have : (if (b == 0) = true then 0 else b.natAbs.log2 / 30 + 1) ≤ 1 := by
    split
    · omega
    · omega
  simp only [Bool.and_eq_false_iff, decide_eq_false_iff_not]
  left
  omega

noncomputable def opr : Op2 → Operator
  | .add => .Add | .sub => .Sub | .mul => .Mult | .mod => .Mod | .fdiv => .FloorDiv | .shr => .RShift
noncomputable def cmr : Cm → CmpOp
  | .eq => .Eq | .ne => .NotEq | .lt => .Lt | .le => .LtE | .gt => .Gt | .ge => .GtE | .inn => .In | .nin => .NotIn

theorem add_str_post {x y : Str} {t u : Tok} {Q : Value → Shared → Prop} (hl : x.length + y.length ≤ sizeLine) (h : ∀ t' k, s.toks ≤ k → Q (.str (x ++ y) t') { s with toks := k }) :
    (if x.length == 0 then Made.val (.str y u) else if y.length == 0 then Made.val (.str x t) else Made.str (x ++ y)).post Q s := by
  by_cases h1 : (x.length == 0) = true
  · rw [if_pos h1]
    have e := Str.append_left_empty (y := y) h1
    rw [e] at h
    exact h u s.toks (Nat.le_refl _)
  · rw [if_neg h1]
    by_cases h2 : (y.length == 0) = true
    · rw [if_pos h2]
      have e := Str.append_right_empty (x := x) h2
      rw [e] at h
      exact h t s.toks (Nat.le_refl _)
    · rw [if_neg h2]
      exact ⟨by rw [str_len_app]; exact hl, h _ _ (Nat.le_succ _)⟩

theorem wp_op2 {op : Op2} {a b : Value} {va vb : V} {Q : V → Prop} (I : Inv X c σ s) (ra : Rel X s.heap a va) (rb : Rel X s.heap b vb) (h : op2 op va vb Q) :
    wpAny (model X.prog X.w) A (binaryOp (opr op) a b) (PV X c σ s Q) E s := by
  unfold op2 at h
  split at h
  · cases ra; cases rb
    exact add_int (.tok I (Nat.succ_pos _) (.int _ _) h)
  · cases ra; cases rb
    refine P.add_str (add_str_post (by rw [tx_len, tx_len, sizeLine_eq]; omega) fun t' k hk => ?_)
    rw [tx_app]
    exact .tok I (Nat.lt_of_lt_of_le I.tk hk) (.str _ _) h.2
  · cases ra; cases rb
    exact sub_int (.tok I (Nat.succ_pos _) (.int _ _) h)
  · cases ra; cases rb
    exact mul_int (.tok I (Nat.succ_pos _) (.int _ _) h.2) (.of_left (bits_small h.1.1 h.1.2.1))
  · cases ra; cases rb
    exact mod_int' (by omega) (.tok I (Nat.succ_pos _) (.int _ _) h.2)
  · cases ra; cases rb
    exact floordiv_int (by omega) (.tok I (Nat.succ_pos _) (.int _ _) h.2) (.inl (div_small h.1.1 h.1.2))
  · cases ra; cases rb
    obtain ⟨rfl, h⟩ := h
    exact rshift_int (by decide) (.tok I (Nat.succ_pos _) (.int _ _) h)
  · exact h.elim

theorem find_RelD {h : Heap} (a : List Nat) : ∀ {es : List DictEntry} {l : List (List Nat × V)}, RelD X h es l →
    (∀ p, l.find? (fun p => p.1 == a) = some p → ∃ e v, es.find? (fun e => Value.isStrOf (tx a) e.key) = some e ∧ e.val = v ∧ Rel X h v p.2) ∧
    (l.find? (fun p => p.1 == a) = none → es.find? (fun e => Value.isStrOf (tx a) e.key) = none)
  | _, _, .nil => ⟨fun p h => by simp at h, fun _ => rfl⟩
  | _, _, .cons hs b t v x es xs r rs => by
    have ih := find_RelD a rs
    have e1 : Value.isStrOf (tx a) (.str (tx b) t) = (b == a) := by
      show (tx b == tx a) = _
      exact tx_beq b a
    rw [List.find?_cons, List.find?_cons]
    dsimp only
    rw [e1]
    cases q : (b == a) with
    | true => exact ⟨fun p h => by cases h; exact ⟨_, v, rfl, rfl, r⟩, fun h => nomatch h⟩
    | false => exact ih

theorem mapOf_D {h : Heap} {a : Addr} {es : List DictEntry} {n : Nat} (e : h.get? a = some (dictOf es n)) (hk : KeysLit X.w.params es) :
    h.MapOf (strKind X.prog X.w) a (fun k => findBy Value.isStrOf es.toArray k) :=
  ⟨_, es.toArray, n, e, ⟨rfl, rfl, rfl⟩, rfl, fun e he => by
    obtain ⟨x, t, e1, e2⟩ := hk.all e (by simpa using he)
    exact ⟨x, by rw [e1]; exact strKind_is X.prog X.w x t, e2⟩, fun _ => rfl⟩

theorem oneIn_tx (l : List Nat) (a : Nat) : oneIn l (tx [a]) = l.contains a := rfl
theorem wp_cm {op : Cm} {a b : Value} {va vb : V} {Q : Bool → Prop} (O : c.Ok X) (I : Inv X c σ s) (ra : Rel X s.heap a va) (rb : Rel X s.heap b vb) (h : cm op va vb Q) :
    wpAny (model X.prog X.w) A (compareOp (cmr op) a b) (fun v s' => ∃ r : Bool, v = .bool r ∧ Inv X c σ s' ∧ Kp c s.heap s'.heap ∧ Q r) E s := by
  unfold cm at h
  have here : ∀ {r : Bool}, Q r → (fun (v : Value) (s' : Shared) => ∃ r : Bool, v = .bool r ∧ Inv X c σ s' ∧ Kp c s.heap s'.heap ∧ Q r) (.bool r) s := fun h => ⟨_, rfl, I, .refl _ _, h⟩
  have tok : ∀ {r : Bool} {k : Nat}, 0 < k → Q r → (fun (v : Value) (s' : Shared) => ∃ r : Bool, v = .bool r ∧ Inv X c σ s' ∧ Kp c s.heap s'.heap ∧ Q r) (.bool r) { s with toks := k } :=
    fun hk h => ⟨_, rfl, I.toks hk, .refl _ _, h⟩
  split at h
  · cases ra; cases rb
    exact eq_int (here h)
  · cases ra; cases rb
    exact ne_int (here h)
  · cases ra; cases rb
    exact lt_int (here h)
  · cases ra; cases rb
    exact le_int (here h)
  · cases ra; cases rb
    exact gt_int (here h)
  · cases ra; cases rb
    exact ge_int (here h)
  · cases ra; cases rb
    refine eq_str (here ?_)
    rw [tx_beq]; exact h
  · cases ra; cases rb
    refine ne_str (here ?_)
    show Q (!(tx _ == tx _))
    rw [tx_beq]; exact h
  · rename_i Q' a b
    cases ra; cases rb
    refine in_str (here ?_)
    have q := StrLaws.found_one (tx b) a
    refine Eq.subst (motive := Q) ?_ h
    rw [List.contains_eq_mem]
    exact q.symm
  · cases ra
    cases rb with
    | set _ l o n hn e x =>
      exact wpAny_inSet_of (strKind_is X.prog X.w _ _) rfl (x.setOf (I.stat0 O _ _ e) hn) (tok (Nat.succ_pos _) h)
  · cases ra
    cases rb with
    | set _ l o n hn e x =>
      exact wpAny_notInSet_of (strKind_is X.prog X.w _ _) rfl (x.setOf (I.stat0 O _ _ e) hn) (tok (Nat.succ_pos _) h)
  · rename_i Q' a l
    cases ra
    cases rb with
    | dct a' es n l hsm e kl r =>
      refine wpAny_in_of (strKind_is X.prog X.w _ _) hsm (mapOf_D (I.stat0 O _ _ e) kl) (tok (Nat.succ_pos _) ?_)
      refine Eq.subst (motive := Q) ?_ h
      unfold findBy
      rw [List.find?_toArray]
      obtain ⟨f1, f2⟩ := find_RelD a r
      cases q : List.find? (fun p => p.1 == a) l with
      | none => rw [f2 q]; rfl
      | some p =>
        obtain ⟨e', v, h1, _⟩ := f1 p q
        rw [h1]; rfl
  · exact h.elim

theorem rel_at {h : Heap} : ∀ {vs : List Value} {l : List V}, RelL X h vs l → ∀ {k : Nat} {v : V}, l[k]? = some v → ∃ x, vs[k]? = some x ∧ Rel X h x v
  | _, _, .nil, _, _, e => by simp at e
  | _, _, .cons x y xs ys r rs, 0, v, e => by
    have : y = v := by simpa using e
    subst this
    exact ⟨x, rfl, r⟩
  | _, _, .cons x y xs ys r rs, k + 1, v, e => by
    obtain ⟨x', h1, h2⟩ := rel_at rs (k := k) (v := v) (by simpa using e)
    exact ⟨x', by simpa using h1, h2⟩
theorem RelL.len {h : Heap} : ∀ {vs : List Value} {l : List V}, RelL X h vs l → vs.length = l.length
  | _, _, .nil => rfl
  | _, _, .cons _ _ _ _ _ rs => by rw [List.length_cons, List.length_cons, rs.len]

noncomputable def notSlice : Expr → Bool | .Slice .. => false | _ => true
theorem subs_plain {slice : Expr} (h : notSlice slice = true) (o i : Value) : subscripted slice false o i = operate [o, i] (getItem o i) := by
  cases slice <;> first | rfl | cases h
theorem subs_slice {lo hi : Option Expr} {p : Pos} (o i : Value) : subscripted (.Slice lo hi none p) false o i = operate [i, o] (getItem o i) := rfl
theorem let_str (value : Expr) (x : Str) (t : Tok) (r : Value) : letTemporaryGo value (.str x t) r = pure () := by
  cases value <;> rfl

theorem wp_item {value slice : Expr} {a b : Value} {va vb : V} {Q : V → Prop} (hs : notSlice slice = true) (O : c.Ok X) (I : Inv X c σ s) (ra : Rel X s.heap a va) (rb : Rel X s.heap b vb) (h : item va vb Q) :
    wpAny (model X.prog X.w) A (subscriptTail value slice a b) (PV X c σ s Q) E s := by
  unfold item at h
  split at h
  · rename_i Q' l i
    cases ra with | str _ t => cases rb with | int _ u =>
    have key : ∀ ch, (i < -2 ^ 63 ∨ i ≥ 2 ^ 63 → False) → (seqIndex? i (tx l).length).bind ((tx l).cps[·]?) = some ch → Q (.str [ch]) →
        wpAny (model X.prog X.w) A (subscriptTail value slice (.str (tx l) t) (.int i u)) (PV X c σ s Q) E s := fun ch h1 h2 h3 =>
      tail_of_ItemOn ⟨"str", _, F.slot_str_getitem.lookup, typeIs_str _ _ _, P.getItem_str (by simpa using h1) h2 (.tok I (Nat.succ_pos _) (.str [ch] _) h3)⟩ (subs_plain hs _ _) (let_str _ _ _)
    split at h
    · rename_i h0
      obtain ⟨ch, h1, h2, h3⟩ := h
      exact key ch (by omega) (StrLaws.at_nonneg h0 (by simpa using h1)) h3
    · rename_i h0
      obtain ⟨ch, h1, h2, h3, h4⟩ := h
      exact key ch (by omega) (StrLaws.at_neg (by omega) (by rw [tx_len]; exact h2) (by rw [tx_len]; simpa using h1)) h4
  · rename_i Q' l i
    obtain ⟨v, h1, h2, h3, h4⟩ := h
    cases rb with | int _ u => cases ra with | lst a items n _ hm0 e r =>
    obtain ⟨x, g1, g2⟩ := rel_at r h1
    have hl : s.heap.IsList a items.toArray := ⟨_, e, rfl, n, rfl⟩
    exact tail_any hl.typeIs slot_list_getitem.lookup (wpAny_getItem_list hl h2 (by omega) (by simpa using g1) (.same I g2 h4)) (subs_plain hs _ _)
  · rename_i Q' l i
    obtain ⟨v, h1, h2, h3, h4⟩ := h
    cases rb with | int _ u => cases ra with | tup a items n _ hm0 e r =>
    obtain ⟨x, g1, g2⟩ := rel_at r h1
    have hl : IsTup s.heap a items.toArray := ⟨_, e, rfl, n, rfl⟩
    refine tail_any hl.typeIs slot_tuple_getitem.lookup (getItem_tuple hl (by omega) (by omega) (StrLaws.seqIndex_nonneg h2 ?_) (by simpa using g1) (.same I g2 h4)) (subs_plain hs _ _)
    have : i.toNat < items.length := (List.getElem?_eq_some_iff.mp g1).1
    simp only [List.size_toArray]
    omega
  · rename_i Q' l a
    obtain ⟨p, h1, h2⟩ := h
    cases rb with | str _ u => cases ra with | dct a' es n _ hsm e kl r =>
    have hm := mapOf_D (X := X) (I.stat0 O _ _ e) kl
    obtain ⟨e', v, g1, g2, g3⟩ := (find_RelD a r).1 p h1
    refine tail_any hm.typeIs slot_dict_getitem.lookup (wpAny_getItem_of (strKind_is X.prog X.w _ _) hm (v := v) ?_ (.tok I (Nat.succ_pos _) g3 h2)) (subs_plain hs _ _)
    unfold findBy
    rw [List.find?_toArray, g1, ← g2]; rfl
  · exact h.elim

theorem post_val_str {k : Prop} [Decidable k] {y z : Str} {t : Tok} {Q : Value → Shared → Prop} (hz : (if k then y else z).length ≤ sizeLine)
    (h : ∀ t' n, s.toks ≤ n → Q (.str (if k then y else z) t') { s with toks := n }) : (if k then Made.val (.str y t) else Made.str z).post Q s := by
  by_cases hc : k
  · rw [if_pos hc]; have h' := h t s.toks (Nat.le_refl _); rw [if_pos hc] at h'; exact h'
  · rw [if_neg hc]; have h' := h s.toks (s.toks + 1) (Nat.le_succ _); rw [if_neg hc] at h' hz; exact ⟨hz, h'⟩

theorem wp_slice_ss {value lo hi : Expr} {p : Pos} {l : List Nat} {t ui uj : Tok} {i j : Int} {Q : V → Prop} (O : c.Ok X) (I : Inv X c σ s) (h : (l.length ≤ 1000000 ∧ 0 ≤ i ∧ i ≤ j ∧ j ≤ l.length) ∧ Q (.str (cut l i j))) :
    wpAny (model X.prog X.w) A (subscriptTail value (.Slice (some lo) (some hi) none p) (.str (tx l) t) (.ref s.heap.objs.size)) (PV X c σ s Q) E
      { s with heap := s.heap.push { cls := .type "slice", data := .fields #[.int i ui, .int j uj, .none] } } := by
  obtain ⟨⟨h0, h1, h2, h3⟩, h4⟩ := h
  have e : Txt.slice (tx l) (some i) (some j) = tx (cut l i j) := by
    show StrLaws.sliceText (tx l) (some i) (some j) = _
    rw [StrLaws.sliceText_plain ⟨h1, h2, by rw [tx_cps]; exact h3⟩, tx_cps]
    unfold cut
    rw [List.drop_take, show (j - i).toNat = j.toNat - i.toNat from by omega]
  have hg := Go.push (c.L :: c.fs) c.h₀ s.heap { cls := .type "slice", data := .fields #[.int i ui, .int j uj, .none] }
  refine tail_of_ItemOn ⟨"str", _, F.slot_str_getitem.lookup, typeIs_str _ _ _, wpAny_getItem_str_slice (l := some (i, ui)) (u := some (j, uj)) (st := none) ⟨_, Heap.get?_push_size _ rfl, rfl, rfl⟩ rfl
    (post_val_str (Nat.le_trans (Txt.slice_le (tx l) (some i) (some j)) (by rw [tx_len, sizeLine_eq]; omega)) fun t' n hn => ?_)⟩ (subs_slice _ _) (let_str _ _ _)
  refine ⟨.str (cut l i j), I.go O (Nat.lt_of_lt_of_le I.tk hn) hg, .push _ _ _, ?_, h4⟩
  have := Rel.str (X := X) (h := s.heap.push { cls := .type "slice", data := .fields #[.int i ui, .int j uj, .none] }) (cut l i j) t'
  rw [← e] at this
  exact this
theorem wp_slice_sn {value lo : Expr} {p : Pos} {l : List Nat} {t ui : Tok} {i : Int} {Q : V → Prop} (O : c.Ok X) (I : Inv X c σ s) (h : (l.length ≤ 1000000 ∧ 0 ≤ i ∧ i ≤ l.length) ∧ Q (.str (l.drop i.toNat))) :
    wpAny (model X.prog X.w) A (subscriptTail value (.Slice (some lo) none none p) (.str (tx l) t) (.ref s.heap.objs.size)) (PV X c σ s Q) E
      { s with heap := s.heap.push { cls := .type "slice", data := .fields #[.int i ui, .none, .none] } } := by
  obtain ⟨⟨h0, h1, h2⟩, h4⟩ := h
  have e : Txt.slice (tx l) (some i) none = tx (l.drop i.toNat) := by
    show StrLaws.sliceText (tx l) (some i) none = _
    rw [StrLaws.sliceText_from ⟨h1, by rw [tx_cps]; exact h2⟩, tx_cps]
    rw [List.take_of_length_le (by rw [List.length_drop]; omega)]
  have hg := Go.push (c.L :: c.fs) c.h₀ s.heap { cls := .type "slice", data := .fields #[.int i ui, .none, .none] }
  refine tail_of_ItemOn ⟨"str", _, F.slot_str_getitem.lookup, typeIs_str _ _ _, wpAny_getItem_str_slice (l := some (i, ui)) (u := none) (st := none) ⟨_, Heap.get?_push_size _ rfl, rfl, rfl⟩ rfl
    (post_val_str (Nat.le_trans (Txt.slice_le (tx l) (some i) none) (by rw [tx_len, sizeLine_eq]; omega)) fun t' n hn => ?_)⟩ (subs_slice _ _) (let_str _ _ _)
  refine ⟨.str (l.drop i.toNat), I.go O (Nat.lt_of_lt_of_le I.tk hn) hg, .push _ _ _, ?_, h4⟩
  have := Rel.str (X := X) (h := s.heap.push { cls := .type "slice", data := .fields #[.int i ui, .none, .none] }) (l.drop i.toNat) t'
  rw [← e] at this
  exact this

theorem ends_tx (a b : List Nat) : Txt.endswith (tx a) (tx b) = endsW a b := by
  unfold Txt.endswith endsW
  rw [StrLaws.subAt_eq, tx_len, tx_len, Nat.zero_add, tx_cps, tx_cps]
  by_cases h : b.length ≤ a.length
  · rw [List.take_of_length_le (by rw [List.length_drop]; omega)]
  · rw [decide_eq_false h]; rfl

theorem replOne_app (y : Nat) (z a b : List Nat) : replOne (a ++ b) y z = replOne a y z ++ replOne b y z := by
  unfold replOne; rw [List.flatMap_append]
theorem replOne_free (y : Nat) (z : List Nat) : ∀ l : List Nat, y ∉ l → replOne l y z = l
  | [], _ => rfl
  | a :: l, h => by
    have h1 : a ≠ y := fun e => h (e ▸ .head _)
    have ih := replOne_free y z l fun q => h (.tail _ q)
    unfold replOne at ih ⊢
    rw [List.flatMap_cons, if_neg h1, ih]; rfl
theorem replOne_one (y : Nat) (z : List Nat) : replOne [y] y z = z := by simp [replOne]
theorem join_cons2 (sep a b : Str) (r : List Str) : (Str.join sep (a :: b :: r)).cps.toList = a.cps.toList ++ sep.cps.toList ++ (Str.join sep (b :: r)).cps.toList := by
  show (a ++ sep ++ Str.join sep (b :: r)).cps.toList = _
  simp only [Str.cps_append, Array.toList_append]
theorem replOne_join (y : Nat) (z : List Nat) : ∀ parts : List Str, (∀ p ∈ parts, y ∉ p.cps.toList) → replOne (Str.join ⟨#[y]⟩ parts).cps.toList y z = (Str.join (tx z) parts).cps.toList
  | [], _ => rfl
  | [a], h => by
    show replOne a.cps.toList y z = a.cps.toList
    exact replOne_free y z _ (h a (.head _))
  | a :: b :: r, h => by
    have ih := replOne_join y z (b :: r) fun p hp => h p (.tail _ hp)
    rw [join_cons2, join_cons2, replOne_app, replOne_app, ih, replOne_free y z _ (h a (.head _))]
    show _ ++ replOne [y] y z ++ _ = _
    rw [replOne_one]
theorem repl_tx (a z : List Nat) (y : Nat) : Txt.replace (tx a) (tx [y]) (tx z) = tx (replOne a y z) := by
  have h := StrLaws.replace_one (tx a) (tx z) y
  have j := StrLaws.join_split (tx a) ⟨#[y]⟩
  have k := replOne_join y z (Txt.split (tx a) ⟨#[y]⟩) (StrLaws.split_free (tx a) y)
  rw [j, tx_cps] at k
  rw [show tx [y] = (⟨#[y]⟩ : Str) from rfl, h]
  show _ = (⟨(replOne a y z).toArray⟩ : Str)
  rw [k]

theorem wp_replace {a z : List Nat} {y : Nat} {t u v : Tok} {Q : V → Prop} (I : Inv X c σ s) (hu : u ≠ 0) (hv : v ≠ 0) (huv : u ≠ v) (h : (a.length ≤ 1000 ∧ z.length ≤ 10 ∧ z ≠ [y]) ∧ Q (.str (replOne a y z))) :
    wpAny (model X.prog X.w) A (call (.builtin "str.replace") [.str (tx a) t, .str (tx [y]) u, .str (tx z) v]) (PV X c σ s Q) E s := by
  obtain ⟨⟨h1, h2, h3⟩, h4⟩ := h
  have hyz : (tx [y] == tx z) = false := by
    rw [tx_beq]; exact beq_eq_false_iff_ne.mpr (Ne.symm h3)
  have hb : (tx a).length + ((tx a).length + 1) * (tx z).length ≤ 16777216 := by
    rw [tx_len, tx_len]
    have : (a.length + 1) * z.length ≤ 1001 * 10 := Nat.mul_le_mul (by omega) h2
    omega
  have e : (2 : Nat) ^ 24 = 16777216 := by decide
  have hl : Builtin.Str.tooLong ((tx a).length + (Builtin.Str.occurrences (tx a) (tx [y]) 0 (tx a).length ((tx a).length + 1)).length * (tx z).length) = false := by
    have g1 := StrLaws.occ_length_le (tx a) (tx [y]) 0 (tx a).length ((tx a).length + 1)
    have g2 : (Builtin.Str.occurrences (tx a) (tx [y]) 0 (tx a).length ((tx a).length + 1)).length * (tx z).length ≤ ((tx a).length + 1) * (tx z).length := Nat.mul_le_mul_right _ g1
    unfold Builtin.Str.tooLong sizeLine
    exact decide_eq_false (by omega)
  refine call_gives F.slot_str_replace (typeIs_str _ _ _) F.entry_str_replace (F.args_str_replace_3 _ _ _)
    (gives_str_replace (tx a) (tx [y]) (tx z) t u v fun _ => ⟨by simp [hu, hv], by simp [huv], hyz, hl⟩) ?_
  have key : ∀ t' n, s.toks ≤ n → PV X c σ s Q (.str (Txt.replace (tx a) (tx [y]) (tx z)) t') { s with toks := n } := fun t' n hn => by
    rw [repl_tx]
    exact .tok I (Nat.lt_of_lt_of_le I.tk hn) (.str _ _) h4
  unfold Txt.replace at key
  cases hc : ((Builtin.Str.occurrences (tx a) (tx [y]) 0 (tx a).length ((tx a).length + 1)).isEmpty || ((tx [y]).length == 0 && (tx z).length == 0))
  · rw [hc] at key
    simp only [Bool.false_eq_true, if_false] at key ⊢
    exact ⟨fits_replaced (tx [y]) hb, key _ _ (Nat.le_succ _)⟩
  · rw [hc] at key
    simp only [if_true] at key ⊢
    exact key t s.toks (Nat.le_refl _)

theorem wp_len {a : Value} {va : V} {Q : V → Prop} (I : Inv X c σ s) (ra : Rel X s.heap a va) (h : lenOf va Q) : wpAny (model X.prog X.w) A (call (.builtin "len") [a]) (PV X c σ s Q) E s := by
  unfold lenOf at h
  split at h
  · rename_i Q' l
    cases ra with | str _ t =>
    refine PyProof.Rows.len_str (by rw [tx_len]; omega) ?_
    rw [tx_len]
    exact .tok I (Nat.succ_pos _) (.int _ _) h.2
  · rename_i Q' l
    cases ra with | lst a items n _ hm0 e r =>
    have hl : s.heap.IsList a items.toArray := ⟨_, e, rfl, n, rfl⟩
    have hn : items.toArray.size = l.length := by rw [List.size_toArray]; exact r.len
    refine Calls.call_len_list hl (by rw [hn]; omega) ?_
    rw [hn]
    exact .tok I (Nat.succ_pos _) (.int _ _) h.2
  · exact h.elim

theorem wp_ord {n : Nat} {t : Tok} {Q : V → Prop} (I : Inv X c σ s) (h : Q (.int n)) : wpAny (model X.prog X.w) A (call (.builtin "ord") [.str (tx [n]) t]) (PV X c σ s Q) E s :=
  ord_of_one rfl (.tok I (Nat.succ_pos _) (.int _ _) h)

noncomputable def anames : List Str := ["s", "substring_i", "result"]
structure AmOk (X : Cx) (nm : Str) : Prop where
  get : plainGet X.K X.CA nm = true
  dict : hasDictIn X.K X.CA = true
  find : ∃ attr, findIn X.K (.ref X.CA) nm = some attr ∧ noGet X.K attr = true

theorem wp_ama {k : Nat} {nm : Str} {a : Value} {va : V} {Q : V → Prop} {expr : Bool} (O : c.Ok X) (I : Inv X c σ s) (hk : anames[k]? = some nm) (F : AmOk X nm) (ra : Rel X s.heap a va) (h : amaOf k va Q) :
    wpAny (model X.prog X.w) A (getAttr a nm expr) (PV X c σ s Q) E s := by
  obtain ⟨attr, ha, hn⟩ := F.find
  unfold amaOf at h
  have key : ∀ {a d : Addr} {es : List DictEntry} {n : Nat} {v : Value} {W : V}, s.heap.get? a = some (instObj X.CA d) → s.heap.get? d = some (dictOf es n) → getL nm es = some (some v) → Rel X s.heap v W → Q W →
      wpAny (model X.prog X.w) A (getAttr (.ref a) nm expr) (PV X c σ s Q) E s := fun e1 e2 g r q =>
    get_value (I.K O) (ox := instObj X.CA _) (od := some (dictOf _ _)) ⟨e1, rfl, rfl, e2⟩ (plainGet_of F.get).1 (findObj_own F.dict ha hn g) r.handed (.tok I (Nat.succ_pos _) r q)
  split at h
  · obtain rfl : nm = "s" := (Option.some.inj hk).symm
    cases ra with | amg a d es n s' sub res t1 t2 t3 e1 e2 g1 g2 g3 => exact key (I.stat0 O _ _ e1) (I.stat0 O _ _ e2) g1 (.str _ _) h
  · obtain rfl : nm = "substring_i" := (Option.some.inj hk).symm
    cases ra with | amg a d es n s' sub res t1 t2 t3 e1 e2 g1 g2 g3 => exact key (I.stat0 O _ _ e1) (I.stat0 O _ _ e2) g2 (.int _ _) h
  · obtain rfl : nm = "result" := (Option.some.inj hk).symm
    cases ra with | amg a d es n s' sub res t1 t2 t3 e1 e2 g1 g2 g3 => exact key (I.stat0 O _ _ e1) (I.stat0 O _ _ e2) g3 (.int _ _) h
  · exact h.elim

theorem truthy_bool {b : Bool} {Q : Bool → Shared → Prop} (h : Q b s) : wpAny (model X.prog X.w) A (truthy (.bool b)) Q E s := wpAny_truthy_bool h
end
end Mine
namespace Mine
open PySem PySem.W PySem.Calls PyProof.Rows
set_option autoImplicit false
set_option maxRecDepth 10000
variable {X : Cx}

structure Ck where
  N : Nm
  sc : Scope
  ls : List Str
  me : Bool
noncomputable def nd (n : Str) : Bool := !(n == ("__debug__" : Str))
noncomputable def Ck.g (K : Ck) (n : Str) : Bool := (K.sc.names.lookup n == some .globalImplicit) && nd n
noncomputable def notStar : Expr → Bool | .Starred .. => false | _ => true
noncomputable def baseOk : Expr → Bool | .Call .. => false | _ => true
noncomputable def plainT : Expr → Bool | .UnaryOp .. | .BoolOp .. | .IfExp .. | .Compare .. => false | _ => true
noncomputable def notSet : Expr → Bool | .Set .. => false | _ => true
noncomputable def bopr : Bool → BoolOp | true => .And | false => .Or

mutual
noncomputable def chkE (K : Ck) : E → Expr → Bool
  | .var k, e => match e with | .Name n _ => (K.ls[k]? == some n) && nd n | _ => false
  | .none, e => match e with | .Constant .none _ _ => true | _ => false
  | .bool b, e => match e with | .Constant (.bool b') _ _ => b == b' | _ => false
  | .int i, e => match e with | .Constant (.int j) _ _ => i == j | _ => false
  | .str l, e => match e with | .Constant (.str t) _ _ => t == tx l | _ => false
  | .neg i, e => match e with | .UnaryOp .USub (.Constant (.int j) _ _) _ => i == j | _ => false
  | .fld k, e => match e with | .Attribute (.Name n _) a _ => K.me && (n == ("self" : Str)) && (fnames[k]? == some a) | _ => false
  | .glob k, e => match e with | .Name n _ => (K.N.gl[k]? == some n) && K.g n | _ => false
  | .cat k, e => match e with | .Attribute (.Name n _) a _ => (K.N.cats[k]? == some (n, a)) && K.g n | _ => false
  | .ama k m, e => match e with | .Attribute (.Name n p) a _ => (anames[k]? == some a) && chkE K m (.Name n p) | _ => false
  | .len m, e => match e with | .Call (.Name n _) [x] [] _ => (n == ("len" : Str)) && K.g n && notStar x && chkE K m x | _ => false
  | .ord m, e => match e with | .Call (.Name n _) [x] [] _ => (n == ("ord" : Str)) && K.g n && notStar x && chkE K m x | _ => false
  | .bin op a b, e => match e with | .BinOp l o r _ => (o == opr op) && chkE K a l && chkE K b r | _ => false
  | .cmp op a b, e => match e with | .Compare l [o] [r] _ => (o == cmr op) && notSet r && chkE K a l && chkE K b r | _ => false
  | .idx a i, e => match e with | .Subscript v j _ => notSlice j && chkE K a v && chkE K i j | _ => false
  | .slc a lo hi, e => match e with | .Subscript v (.Slice (some l) (some h) none _) _ => chkE K a v && chkE K lo l && chkE K hi h | _ => false
  | .slf a lo, e => match e with | .Subscript v (.Slice (some l) none none _) _ => chkE K a v && chkE K lo l | _ => false
  | .ends a b, e => match e with | .Call (.Attribute o n ap) [x] [] p => (n == ("endswith" : Str)) && baseOk o && (ap.endLine == p.line) && notStar x && chkE K a o && chkE K b x | _ => false
  | .repl a y z, e => match e with
    | .Call (.Attribute o n ap) [.Constant (.str y') _ _, .Constant (.str z') _ _] [] p => (n == ("replace" : Str)) && baseOk o && (ap.endLine == p.line) && (y' == tx y) && (z' == tx z) && chkE K a o
    | _ => false
  | .meth f l, e => match e with | .Call (.Attribute (.Name n np) a ap) xs [] p => K.me && (n == ("self" : Str)) && (K.N.meths[f]? == some a) && (ap.endLine == p.line) && decide (xs.length < 30) && chkEs K l xs | _ => false
  | .call f l, e => match e with | .Call (.Name n _) xs [] _ => (K.N.funcs[f]? == some n) && K.g n && chkEs K l xs | _ => false
  | .tup l, e => match e with | .Tuple xs _ _ => chkEs K l xs | _ => false
  | .lst l, e => match e with | .List xs _ => chkEs K l xs | _ => false
  | .bop and l, e => match e with | .BoolOp o xs _ => (o == bopr and) && chkEs K l xs | _ => false
  | .not m, e => match e with | .UnaryOp .Not x _ => chkE K m x | _ => false
noncomputable def chkEs (K : Ck) : Es → List Expr → Bool
  | .nil, xs => xs.isEmpty
  | .cons m l, xs => match xs with | x :: r => notStar x && chkE K m x && chkEs K l r | [] => false
end
mutual
noncomputable def chkT (K : Ck) : T → Expr → Bool
  | .e m, e => plainT e && chkE K m e
  | .cmp op a b, e => match e with | .Compare l [o] [r] _ => (o == cmr op) && notSet r && chkE K a l && chkE K b r | _ => false
  | .not t, e => match e with | .UnaryOp .Not x _ => chkT K t x | _ => false
  | .bop and l, e => match e with | .BoolOp o xs _ => (o == bopr and) && chkTs K l xs | _ => false
noncomputable def chkTs (K : Ck) : Ts → List Expr → Bool
  | .nil, xs => xs.isEmpty
  | .cons t l, xs => match xs with | x :: r => chkT K t x && chkTs K l r | [] => false
end

section
variable {c : Act} {σ : St} {s : Shared} {A : Around} {E : Value → Shared → Prop} {R : Nat} {N : Nm} {Γ : Env'}

noncomputable def PE (X : Cx) (c : Act) (s : Shared) (Q : V → St → Prop) : Value → Shared → Prop := fun v s' => ∃ W σ', Inv X c σ' s' ∧ Kp c s.heap s'.heap ∧ Rel X s'.heap v W ∧ Q W σ'
noncomputable def PEs (X : Cx) (c : Act) (s : Shared) (Q : List V → St → Prop) : List Value → Shared → Prop := fun v s' => ∃ W σ', Inv X c σ' s' ∧ Kp c s.heap s'.heap ∧ RelL X s'.heap v W ∧ Q W σ'
noncomputable def PT (X : Cx) (c : Act) (s : Shared) (Q : Bool → St → Prop) : Bool → Shared → Prop := fun b s' => ∃ σ', Inv X c σ' s' ∧ Kp c s.heap s'.heap ∧ Q b σ'

theorem PV.pe {s₂ s₃ : Shared} {v : Value} {Q : V → St → Prop} (low : Kp c s.heap s₂.heap) (h : PV X c σ s₂ (fun v => Q v σ) v s₃) : PE X c s Q v s₃ := by
  obtain ⟨W, I, l, r, q⟩ := h
  exact ⟨W, σ, I, low.trans l, r, q⟩

theorem PE.now {v : Value} {W : V} {Q : V → St → Prop} (I : Inv X c σ s) (r : Rel X s.heap v W) (h : Q W σ) : PE X c s Q v s := ⟨W, σ, I, .refl _ _, r, h⟩
theorem PE.tok {v : Value} {W : V} {Q : V → St → Prop} {k : Nat} (I : Inv X c σ s) (hk : 0 < k) (r : Rel X s.heap v W) (h : Q W σ) : PE X c s Q v { s with toks := k } := ⟨W, σ, I.toks hk, .refl _ _, r, h⟩

theorem getv_some {l : List (Option V)} {k : Nat} {Q : V → Prop} (h : getv l k Q) : ∃ v, l[k]? = some (some v) ∧ Q v := by
  unfold getv at h
  split at h
  · exact ⟨_, ‹_›, h⟩
  · exact h.elim

theorem starEach_cons {e : Expr} {rest : List Expr} {env : Env} (h : notStar e = true) : starEach (e :: rest) env = (false, eval e env) :: starEach rest env := by
  cases e <;> first | rfl | cases h
theorem chkEs_stars {K : Ck} {env : Env} {pos : Pos} : ∀ {m : Es} {xs : List Expr}, chkEs K m xs = true → (backTo pos (starEach xs env)).any (·.1) = false
  | .nil, xs, h => by
    simp only [chkEs, List.isEmpty_iff] at h
    subst h; rfl
  | .cons m l, [], h => by simp [chkEs] at h
  | .cons m l, x :: r, h => by
    simp only [chkEs, Bool.and_eq_true] at h
    rw [starEach_cons h.1.1]
    have := chkEs_stars (K := K) (env := env) (pos := pos) h.2
    show (false || (backTo pos (starEach r env)).any (·.1)) = false
    rw [this]; rfl

theorem wp_args {M : Model} {f : Value} {xs : List Expr} {env : Env} {pos : Pos} {Q : Args → Shared → Prop} (hs : (backTo pos (starEach xs env)).any (·.1) = false)
    (h : wpAny M A (spliced (backTo pos (starEach xs env))) (fun vs s' => Q ⟨vs, []⟩ s') E s) : wpAny M A (evalArgs f true (backTo pos (starEach xs env)) []) Q E s := by
  cases q : backTo pos (starEach xs env) with
  | nil =>
    rw [q] at h
    unfold evalArgs
    show wpAny M A (spliced [] >>= _) Q E s
    refine wpAny_bind (wpAny_mono h (fun vs s' h' => ?_) fun _ _ x => x)
    refine wpAny_bind (wpAny_pure ?_)
    refine wpAny_holding ?_
    exact wpAny_bind (wpAny_pure (wpAny_bind (wpAny_pure (wpAny_pure h'))))
  | cons p r =>
    rw [q] at h hs
    obtain ⟨b, x⟩ := p
    have : b = false := by
      simp only [List.any_cons, Bool.or_eq_false_iff] at hs
      exact hs.1
    subst this
    exact evalArgs_plain h

theorem base_ok {o : Expr} {name : Str} {env : Env} (h : baseOk o = true) : attributeBase o name env (eval o env) = eval o env := by
  cases o <;> first | rfl | cases h

theorem chkEs_len {K : Ck} : ∀ {m : Es} {xs : List Expr}, chkEs K m xs = true → ∀ env pos, (backTo pos (starEach xs env)).all (fun x => !x.1) = true := fun {m xs} h env pos => by
  have := chkEs_stars (env := env) (pos := pos) h
  rw [List.all_eq_not_any_not]
  simpa using this

theorem wp_mcall {M : Model} {o : Expr} {name : Str} {env : Env} {apos pos : Pos} {xs : List Expr} {Q : Value → Shared → Prop} (hb : attributeBase o name env (eval o env) = eval o env)
    (hst : (backTo pos (starEach xs env)).all (fun x => !x.1) = true) (hn : xs.length < 30) (hl : (apos.endLine == pos.line) = true)
    (h : wpAny M A (eval o env) (fun ov s₁ => wpAny M A (getMethod ov name (do return (← importBound o env).getD true)) (fun p s₂ => wpAny M A (callWith pos p.1 p.2 (backTo pos (starEach xs env)) []) Q E s₂) E s₁) E s) :
    wpAny M A (eval (.Call (.Attribute o name apos) xs [] pos) env) Q E s := by
  rw [arm_eval_Call, hb]
  refine wpAny_bind (wpAny_mono h (fun ov s₁ h₁ => ?_) fun _ _ e => e)
  refine wpAny_bind (wpAny_standAt ?_)
  have hform : methodCallForm (xs.length + ([] : List Keyword).length) (backTo pos (starEach xs env)) (backToKw pos (keywordEach [] env)) = true := by
    unfold methodCallForm
    rw [hst]
    show (true && true && decide (xs.length + 0 + 0 < 30)) = true
    simp [hn]
  have hpos : methodCallPos true o env apos pos = pure pos := by unfold methodCallPos; simp [hl]
  unfold methodCall
  rw [hform]
  refine wpAny_bind (wpAny_holding (wpAny_mono h₁ (fun p s₂ h₂ => ?_) fun _ _ e => e))
  exact wpAny_bind (wpAny_of_eq hpos h₂)

theorem Inv.notmut {X : Cx} {c : Act} {σ : St} {s : Shared} (I : Inv X c σ s) : s.heap.objs.size ∉ X.chg := fun h => by
  obtain ⟨o, xs, n, e, _⟩ := I.chg _ h
  exact Nat.lt_irrefl _ (Heap.lt_size e)

structure Ctx0 (X : Cx) (K : Ck) (c : Act) (A : Around) (R : Nat) (Γ : Env') : Prop where
  O : c.Ok X
  AO : AOk A c R
  S : Sig X K.N Γ R
  am : ∀ nm ∈ anames, AmOk X nm
  sc : c.env.scope = K.sc
  ls : c.ls = K.ls
  me : K.me = true → ∃ x d, c.sf = some (x, d)

section
variable {K : Ck} (H : Ctx0 X K c A R Γ)
include H
theorem Ctx0.kindg {n : Str} (h : K.g n = true) : c.env.kindOf n = some .globalImplicit ∧ (n == ("__debug__" : Str)) = false := by
  unfold Ck.g nd at h
  simp only [Bool.and_eq_true, Bool.not_eq_true'] at h
  refine ⟨?_, h.2⟩
  unfold Env.kindOf
  rw [H.sc]
  exact beq_iff_eq.mp h.1

theorem Ctx0.name {k : Nat} {n : Str} {p : Pos} {Q : Value → Shared → Prop} {V : V} (I : Inv X c σ s) (hn : (K.ls[k]? == some n) = true) (hd : nd n = true) (hV : σ.loc[k]? = some (some V)) (h : ∀ v, Rel X s.heap v V → Q v s) :
    wpAny (model X.prog X.w) A (eval (.Name n p) c.env) Q E s := by
  refine wpAny_Name (wp_name H.O I (by rw [H.ls]; exact beq_iff_eq.mp hn) hV h) ?_
  simpa [nd] using hd

theorem Ctx0.self {p : Pos} {Q : Value → Shared → Prop} {x d : Addr} (I : Inv X c σ s) (hc : c.sf = some (x, d)) (h : Q (.ref x) s) : wpAny (model X.prog X.w) A (eval (.Name "self" p) c.env) Q E s :=
  wpAny_Name (wp_self H.O I hc h) rfl

theorem Ctx0.glob {n : Str} {p : Pos} {v : Value} {Q : Value → Shared → Prop} (I : Inv X c σ s) (hn : K.g n = true) (hv : X.mg n = some v) (h : Q v s) : wpAny (model X.prog X.w) A (eval (.Name n p) c.env) Q E s :=
  Name_function_global H.O.kind (H.kindg hn).1 (loadGlobal_global (by rw [H.O.glob]; exact I.nsLow H.O H.O.ok.mg) hv h) (H.kindg hn).2
theorem Ctx0.blt {n : Str} {p : Pos} {v : Value} {Q : Value → Shared → Prop} (I : Inv X c σ s) (hn : K.g n = true) (hv : X.mg n = none ∧ X.mb n = some v) (h : Q v s) : wpAny (model X.prog X.w) A (eval (.Name n p) c.env) Q E s :=
  Name_function_global H.O.kind (H.kindg hn).1 (loadGlobal_builtin (by rw [H.O.glob]; exact I.nsLow H.O H.O.ok.mg) hv.1 (by rw [H.O.blt]; exact I.nsLow H.O H.O.ok.mb) hv.2 h) (H.kindg hn).2

theorem Ctx0.bcall1 {n : Str} {id : String} {np pos : Pos} {x : Expr} {Q : Value → Shared → Prop} (I : Inv X c σ s) (hn : K.g n = true) (hv : X.mg n = none ∧ X.mb n = some (.builtin id)) (hx : notStar x = true)
    (h : wpAny (model X.prog X.w) A (eval x c.env) (fun v s₁ => wpAny (model X.prog X.w) A (call (.builtin id) [v]) Q E s₁) E s) :
    wpAny (model X.prog X.w) A (eval (.Call (.Name n np) [x] [] pos) c.env) Q E s := by
  refine wpAny_Call_Name_kw (H.blt I hn hv ?_)
  show wpAny _ _ (callWith pos (.builtin id) [] (backTo pos (starEach [x] c.env)) []) Q E s
  exact callWith_builtin1 (spliced_more (wpAny_mono h (fun v s₁ h₁ => spliced_none h₁) fun _ _ z => z) (starEach_cons hx)) (starEach_cons hx) rfl
end

theorem marks_of {op : CmpOp} {r : Expr} (h : notSet r = true) : behindInMarks op r = false := by
  cases r <;> first | rfl | cases h

variable {Ex : Value → Shared → Prop}
theorem tail_of_mono {M : Model} {t : Sem Value} {Q Q' : Value → Shared → Prop} (h : wpAny M A t Q Ex s) (k : ∀ v s', Q v s' → Q' v s') : wpAny M A t Q' Ex s := wpAny_mono h k fun _ _ z => z

theorem wp_replCall {s₁ : Shared} {a z : List Nat} {y : Nat} {t : Tok} {env : Env} {pos p1 p2 : Pos} {k1 k2 : Nat} {Q : V → St → Prop} (I : Inv X c σ s₁) (l₁ : Kp c s.heap s₁.heap)
    (q : (a.length ≤ 1000 ∧ z.length ≤ 10 ∧ z ≠ [y]) ∧ Q (.str (replOne a y z)) σ) :
    wpAny (model X.prog X.w) A (callWith pos (.builtin "str.replace") [.str (tx a) t] (backTo pos (starEach [.Constant (.str (tx [y])) k1 p1, .Constant (.str (tx z)) k2 p2] env)) []) (PE X c s Q) Ex s₁ := by
  have I₂ : Inv X c σ { s₁ with toks := s₁.toks + 1 + 1 } := I.toks (Nat.succ_pos _)
  have n1 : s₁.toks ≠ 0 := Nat.pos_iff_ne_zero.mp I.tk
  have n2 : s₁.toks ≠ s₁.toks + 1 := Nat.ne_of_lt (Nat.lt_succ_self _)
  have key := wp_replace (t := t) (A := A) (E := Ex) (Q := fun v => Q v σ) I₂ n1 (Nat.succ_ne_zero _) n2 q
  have key2 : wpAny (model X.prog X.w) A (call (.builtin "str.replace") [.str (tx a) t, .str (tx [y]) s₁.toks, .str (tx z) (s₁.toks + 1)]) (PE X c s Q) Ex { s₁ with toks := s₁.toks + 1 + 1 } :=
    wpAny_mono key (fun v s' h => PV.pe (s₂ := { s₁ with toks := s₁.toks + 1 + 1 }) l₁ h) fun _ _ h => h
  refine Calls.callWith_builtin rfl ?_
  show wpAny _ _ (evalArgs _ true [(false, eval (.Constant (.str (tx [y])) k1 p1) env), (false, eval (.Constant (.str (tx z)) k2 p2) env)] []) _ _ _
  exact Calls.evalArgs_plain (Calls.spliced_cons (Calls.Constant_str (Calls.spliced_cons (Calls.Constant_str (Calls.spliced_nil key2)))))

mutual
theorem sndE {K : Ck} (H : Ctx0 X K c A R Γ) : ∀ (m : Mine.E) (e : Expr) (σ : St) (s : Shared) (Q : V → St → Prop), chkE K m e = true → Inv X c σ s → wpE Γ m σ Q → wpAny (model X.prog X.w) A (eval e c.env) (PE X c s Q) Ex s
  | .var k, e, σ, s, Q, hc, I, h => by
    simp only [chkE] at hc
    split at hc
    · simp only [Bool.and_eq_true] at hc
      simp only [wpE] at h
      obtain ⟨V, hV, q⟩ := getv_some h
      exact H.name I hc.1 hc.2 hV fun v r => .now I r q
    · cases hc
  | .none, e, σ, s, Q, hc, I, h => by
    simp only [chkE] at hc
    split at hc
    · exact wpAny_pure (.now I .none h)
    · cases hc
  | .bool b, e, σ, s, Q, hc, I, h => by
    simp only [chkE] at hc
    split at hc
    · rw [← beq_iff_eq.mp hc]
      exact wpAny_pure (.now I (.bool b) h)
    · cases hc
  | .int i, e, σ, s, Q, hc, I, h => by
    simp only [chkE] at hc
    split at hc
    · rw [← beq_iff_eq.mp hc]
      exact wpAny_Constant_int (.tok I (Nat.succ_pos _) (.int i _) h)
    · cases hc
  | .str l, e, σ, s, Q, hc, I, h => by
    simp only [chkE] at hc
    split at hc
    · rw [beq_iff_eq.mp hc]
      exact Calls.Constant_str (.tok I (Nat.succ_pos _) (.str l _) h)
    · cases hc
  | .neg i, e, σ, s, Q, hc, I, h => by
    simp only [chkE] at hc
    split at hc
    · rw [← beq_iff_eq.mp hc]
      exact wpAny_UnaryOp (wpAny_Constant_int (neg_int (.tok I (Nat.succ_pos _) (.int (-i) _) h)))
    · cases hc
  | .fld k, e, σ, s, Q, hc, I, h => by
    simp only [chkE] at hc
    split at hc
    · simp only [Bool.and_eq_true] at hc
      simp only [wpE] at h
      obtain ⟨V, hV, q⟩ := getv_some h
      obtain ⟨x, d, hsf⟩ := H.me hc.1.1
      rw [beq_iff_eq.mp hc.1.2]
      have hk := beq_iff_eq.mp hc.2
      exact Attribute_name (H.self I hsf (wp_fget H.O I hsf (H.S.fok _ (List.mem_of_getElem? hk)) hk hV fun v s' I' l r => ⟨V, σ, I', l, r, q⟩))
    · cases hc
  | .glob k, e, σ, s, Q, hc, I, h => by
    simp only [chkE] at hc
    split at hc
    · simp only [Bool.and_eq_true] at hc
      obtain ⟨_, v, hv, hr⟩ := H.S.glob k _ (beq_iff_eq.mp hc.1)
      exact H.glob I hc.2 hv (.now I (hr _ (I.stat H.O)) h)
    · cases hc
  | .cat k, e, σ, s, Q, hc, I, h => by
    simp only [chkE] at hc
    split at hc
    · simp only [Bool.and_eq_true] at hc
      obtain ⟨_, C, mc, v, hv, h1, h2, hr⟩ := H.S.cat k _ (beq_iff_eq.mp hc.1)
      have r := hr _ (I.stat H.O)
      exact Attribute_name (H.glob I hc.2 hv (cls_value (I.K H.O) h1 h2 r.handed (.tok I (Nat.succ_pos _) r h)))
    · cases hc
  | .ama k m, e, σ, s, Q, hc, I, h => by
    simp only [chkE] at hc
    split at hc
    · simp only [Bool.and_eq_true] at hc
      simp only [wpE] at h
      have hk := beq_iff_eq.mp hc.1
      refine Attribute_name (tail_of_mono (sndE H m _ σ s _ hc.2 I h) fun v s₁ z => ?_)
      obtain ⟨W, σ₁, I₁, l₁, r₁, q₁⟩ := z
      exact tail_of_mono (wp_ama H.O I₁ hk (H.am _ (List.mem_of_getElem? hk)) r₁ q₁) fun v s' z => z.pe l₁
    · cases hc
  | .len m, e, σ, s, Q, hc, I, h => by
    simp only [chkE] at hc
    split at hc
    · simp only [Bool.and_eq_true] at hc
      simp only [wpE] at h
      obtain ⟨⟨⟨hn, hg⟩, hx⟩, hm⟩ := hc
      rw [beq_iff_eq.mp hn] at hg ⊢
      refine H.bcall1 I hg H.S.blen hx (tail_of_mono (sndE H m _ σ s _ hm I h) fun v s₁ z => ?_)
      obtain ⟨W, σ₁, I₁, l₁, r₁, q₁⟩ := z
      exact tail_of_mono (wp_len I₁ r₁ q₁) fun v s' z => z.pe l₁
    · cases hc
  | .ord m, e, σ, s, Q, hc, I, h => by
    simp only [chkE] at hc
    split at hc
    · simp only [Bool.and_eq_true] at hc
      simp only [wpE] at h
      obtain ⟨⟨⟨hn, hg⟩, hx⟩, hm⟩ := hc
      rw [beq_iff_eq.mp hn] at hg ⊢
      refine H.bcall1 I hg H.S.bord hx (tail_of_mono (sndE H m _ σ s _ hm I h) fun v s₁ z => ?_)
      obtain ⟨W, σ₁, I₁, l₁, r₁, q₁⟩ := z
      split at q₁
      · cases r₁
        exact tail_of_mono (wp_ord (Q := fun v => Q v σ₁) I₁ q₁) fun v s' z => z.pe l₁
      · exact q₁.elim
    · cases hc
  | .bin op a b, e, σ, s, Q, hc, I, h => by
    simp only [chkE] at hc
    split at hc
    · simp only [Bool.and_eq_true] at hc
      simp only [wpE] at h
      rw [beq_iff_eq.mp hc.1.1]
      refine wpAny_BinOp (tail_of_mono (sndE H a _ σ s _ hc.1.2 I h) fun v s₁ z => ?_)
      obtain ⟨W, σ₁, I₁, l₁, r₁, q₁⟩ := z
      refine tail_of_mono (sndE H b _ σ₁ s₁ _ hc.2 I₁ q₁) fun v₂ s₂ z => ?_
      obtain ⟨W₂, σ₂, I₂, l₂, r₂, q₂⟩ := z
      exact tail_of_mono (wp_op2 I₂ (r₁.low X (l₂.low H.O I₁)) r₂ q₂) fun v s' z => z.pe (l₁.trans l₂)
    · cases hc
  | .cmp op a b, e, σ, s, Q, hc, I, h => by
    simp only [chkE] at hc
    split at hc
    · simp only [Bool.and_eq_true] at hc
      simp only [wpE] at h
      obtain ⟨⟨⟨ho, hs⟩, ha⟩, hb⟩ := hc
      rw [beq_iff_eq.mp ho]
      refine wpAny_Compare1 (tail_of_mono (sndE H a _ σ s _ ha I h) fun v s₁ z => ?_) (marks_of hs)
      obtain ⟨W, σ₁, I₁, l₁, r₁, q₁⟩ := z
      refine tail_of_mono (sndE H b _ σ₁ s₁ _ hb I₁ q₁) fun v₂ s₂ z => ?_
      obtain ⟨W₂, σ₂, I₂, l₂, r₂, q₂⟩ := z
      refine tail_of_mono (wp_cm H.O I₂ (r₁.low X (l₂.low H.O I₁)) r₂ q₂) fun v s' z => ?_
      obtain ⟨b, rfl, I', l, q⟩ := z
      exact ⟨.bool b, σ₂, I', (l₁.trans l₂).trans l, .bool b, q⟩
    · cases hc
  | .idx a i, e, σ, s, Q, hc, I, h => by
    simp only [chkE] at hc
    split at hc
    · simp only [Bool.and_eq_true] at hc
      simp only [wpE] at h
      obtain ⟨⟨hs, ha⟩, hb⟩ := hc
      refine Subscript_ (tail_of_mono (sndE H a _ σ s _ ha I h) fun v s₁ z => ?_)
      obtain ⟨W, σ₁, I₁, l₁, r₁, q₁⟩ := z
      refine tail_of_mono (sndE H i _ σ₁ s₁ _ hb I₁ q₁) fun v₂ s₂ z => ?_
      obtain ⟨W₂, σ₂, I₂, l₂, r₂, q₂⟩ := z
      exact tail_of_mono (wp_item hs H.O I₂ (r₁.low X (l₂.low H.O I₁)) r₂ q₂) fun v s' z => z.pe (l₁.trans l₂)
    · cases hc
  | .slc a lo hi, e, σ, s, Q, hc, I, h => by
    simp only [chkE] at hc
    split at hc
    · simp only [Bool.and_eq_true] at hc
      simp only [wpE] at h
      obtain ⟨⟨ha, hb⟩, hd⟩ := hc
      refine Subscript_ (tail_of_mono (sndE H a _ σ s _ ha I h) fun v s₁ z => ?_)
      obtain ⟨W, σ₁, I₁, l₁, r₁, q₁⟩ := z
      refine wpAny_Slice (tail_of_mono (sndE H lo _ σ₁ s₁ _ hb I₁ q₁) fun v₂ s₂ z => ?_)
      obtain ⟨W₂, σ₂, I₂, l₂, r₂, q₂⟩ := z
      refine tail_of_mono (sndE H hi _ σ₂ s₂ _ hd I₂ q₂) fun v₃ s₃ z => wpAny_pure ?_
      obtain ⟨W₃, σ₃, I₃, l₃, r₃, q₃⟩ := z
      split at q₃
      · cases r₁; cases r₂; cases r₃
        exact tail_of_mono (wp_slice_ss (Q := fun v => Q v σ₃) H.O I₃ q₃) fun v s' z => z.pe ((l₁.trans l₂).trans l₃)
      · exact q₃.elim
    · cases hc
  | .slf a lo, e, σ, s, Q, hc, I, h => by
    simp only [chkE] at hc
    split at hc
    · simp only [Bool.and_eq_true] at hc
      simp only [wpE] at h
      obtain ⟨ha, hb⟩ := hc
      refine Subscript_ (tail_of_mono (sndE H a _ σ s _ ha I h) fun v s₁ z => ?_)
      obtain ⟨W, σ₁, I₁, l₁, r₁, q₁⟩ := z
      refine wpAny_Slice (tail_of_mono (sndE H lo _ σ₁ s₁ _ hb I₁ q₁) fun v₂ s₂ z => wpAny_pure (wpAny_pure ?_))
      obtain ⟨W₂, σ₂, I₂, l₂, r₂, q₂⟩ := z
      split at q₂
      · cases r₁; cases r₂
        exact tail_of_mono (wp_slice_sn (Q := fun v => Q v σ₂) H.O I₂ q₂) fun v s' z => z.pe (l₁.trans l₂)
      · exact q₂.elim
    · cases hc
  | .ends a b, e, σ, s, Q, hc, I, h => by
    simp only [chkE] at hc
    split at hc
    · simp only [Bool.and_eq_true] at hc
      simp only [wpE] at h
      obtain ⟨⟨⟨⟨⟨hn, ho⟩, hl⟩, hx⟩, ha⟩, hb⟩ := hc
      rw [beq_iff_eq.mp hn]
      refine Call_method1 (base_ok ho) (starEach_cons hx) hl (tail_of_mono (sndE H a _ σ s _ ha I h) fun v s₁ z => ?_)
      obtain ⟨W, σ₁, I₁, l₁, r₁, q₁⟩ := z
      split at q₁
      · cases r₁
        refine SB.endswith (tail_of_mono (sndE H b _ σ₁ s₁ _ hb I₁ q₁) fun v₂ s₂ z => ?_)
        obtain ⟨W₂, σ₂, I₂, l₂, r₂, q₂⟩ := z
        split at q₂
        · cases r₂
          refine ⟨_, _, rfl, ?_⟩
          rw [ends_tx]
          exact ⟨_, σ₂, I₂, l₁.trans l₂, .bool _, q₂⟩
        · exact q₂.elim
      · exact q₁.elim
    · cases hc
  | .repl a y z, e, σ, s, Q, hc, I, h => by
    simp only [chkE] at hc
    split at hc
    · simp only [Bool.and_eq_true] at hc
      simp only [wpE] at h
      obtain ⟨⟨⟨⟨⟨hn, ho⟩, hl⟩, hy⟩, hz⟩, ha⟩ := hc
      rw [beq_iff_eq.mp hn, beq_iff_eq.mp hy, beq_iff_eq.mp hz]
      refine wp_mcall (base_ok ho) rfl (show 2 < 30 from by decide) hl (tail_of_mono (sndE H a _ σ s _ ha I h) fun v s₁ z => ?_)
      obtain ⟨W, σ₁, I₁, l₁, r₁, q₁⟩ := z
      split at q₁
      · cases r₁
        exact GM.replace (wp_replCall I₁ l₁ q₁)
      · exact q₁.elim
    · cases hc
  | .meth f l, e, σ, s, Q, hc, I, h => by
    simp only [chkE] at hc
    split at hc
    · simp only [Bool.and_eq_true] at hc
      simp only [wpE] at h
      obtain ⟨⟨⟨⟨⟨hme, hn⟩, hf⟩, hl⟩, h30⟩, hx⟩ := hc
      rw [beq_iff_eq.mp hn]
      obtain ⟨x, d, hsf⟩ := H.me hme
      obtain ⟨hnf, hpg, f', hfind, hty, hkeep, M⟩ := H.S.meth f _ (beq_iff_eq.mp hf)
      obtain ⟨ox, o, ia, _, hlook⟩ := self_inst (I.self x d hsf) hnf
      refine wp_mcall rfl (chkEs_len hx _ _) (of_decide_eq_true h30) hl (H.self I hsf ?_)
      refine method_fn (I.K H.O) ia (plainGet_of hpg).1 (plainGet_of hpg).2 hfind hty (by show (lookIn _ o).map _ = _; rw [hlook]; rfl) ?_
      have hst := chkEs_stars (env := c.env) (pos := ‹Pos›) hx
      refine callWith_of (P := X.K.In) (by rw [chkEs_stars hx]; rfl) (keeps_K hkeep) (wp_args (chkEs_stars hx) ?_)
      refine wpAny_mono (sndEs H l _ _ σ s _ hx I h) (fun vs s₁ z => ?_) fun _ _ z => z
      obtain ⟨Ws, σ₁, I₁, l₁, r₁, q₁⟩ := z
      refine ⟨I₁.K H.O, tail_of_mono (wp_meth H.O H.AO I₁ hsf M r₁ q₁) fun v s₂ z => ?_⟩
      obtain ⟨W, F', I₂, l₂, r₂, q₂⟩ := z
      exact ⟨W, _, I₂, l₁.trans l₂, r₂, q₂⟩
    · cases hc
  | .call f l, e, σ, s, Q, hc, I, h => by
    simp only [chkE] at hc
    split at hc
    · simp only [Bool.and_eq_true] at hc
      simp only [wpE] at h
      obtain ⟨⟨hf, hg⟩, hx⟩ := hc
      obtain ⟨_, f', hmg, hkeep, M⟩ := H.S.func f _ (beq_iff_eq.mp hf)
      refine wpAny_Call_Name_kw (H.glob I hg hmg ?_)
      show wpAny _ _ (callWith _ (.ref f') [] (backTo _ (starEach _ c.env)) []) _ Ex s
      refine callWith_of (P := X.K.In) (by rw [chkEs_stars hx]; rfl) (keeps_K hkeep) (wp_args (chkEs_stars hx) ?_)
      refine wpAny_mono (sndEs H l _ _ σ s _ hx I h) (fun vs s₁ z => ?_) fun _ _ z => z
      obtain ⟨Ws, σ₁, I₁, l₁, r₁, q₁⟩ := z
      refine ⟨I₁.K H.O, tail_of_mono (wp_func H.O H.AO I₁ M r₁ q₁) fun v s₂ z => ?_⟩
      obtain ⟨W, I₂, l₂, r₂, q₂⟩ := z
      exact ⟨W, _, I₂, l₁.trans l₂, r₂, q₂⟩
    · cases hc
  | .tup l, e, σ, s, Q, hc, I, h => by
    simp only [chkE] at hc
    split at hc
    · simp only [wpE] at h
      show wpAny _ _ (do standAt _; newTuple (← spliced (backTo _ (starEach _ c.env)))) _ _ _
      refine wpAny_bind (wpAny_standAt (wpAny_bind (wpAny_mono (sndEs H l _ _ σ s _ hc I h) (fun vs s₁ z => ?_) fun _ _ z => z)))
      obtain ⟨Ws, σ₁, I₁, l₁, r₁, q₁⟩ := z
      refine wpAny_newTuple ?_ (by rw [r₁.len, sizeLine_eq]; omega)
      have hg := Go.push (c.L :: c.fs) c.h₀ s₁.heap { cls := .type "tuple", data := .seq vs.toArray }
      have low := hg.low H.O I₁
      exact ⟨.tup Ws, σ₁, I₁.go H.O I₁.tk hg, l₁.trans (.push _ _ _), .tup _ vs _ _ (I₁.notmut) (Heap.get?_push_size _ rfl) (r₁.low X low), q₁.2⟩
    · cases hc
  | .lst l, e, σ, s, Q, hc, I, h => by
    simp only [chkE] at hc
    split at hc
    · simp only [wpE] at h
      show wpAny _ _ (do standAt _; newList (← spliced (backTo _ (starEach _ c.env)))) _ _ _
      refine wpAny_bind (wpAny_standAt (wpAny_bind (wpAny_mono (sndEs H l _ _ σ s _ hc I h) (fun vs s₁ z => ?_) fun _ _ z => z)))
      obtain ⟨Ws, σ₁, I₁, l₁, r₁, q₁⟩ := z
      refine wpAny_newList ?_ (by rw [r₁.len, sizeLine_eq]; omega)
      have hg := Go.push (c.L :: c.fs) c.h₀ s₁.heap { cls := .type "list", data := .seq vs.toArray }
      have low := hg.low H.O I₁
      exact ⟨.lst Ws, σ₁, I₁.go H.O I₁.tk hg, l₁.trans (.push _ _ _), .lst _ vs _ _ (I₁.notmut) (Heap.get?_push_size _ rfl) (r₁.low X low), q₁.2⟩
    · cases hc
  | .bop and l, e, σ, s, Q, hc, I, h => by
    simp only [chkE] at hc
    split at hc
    · simp only [Bool.and_eq_true] at hc
      simp only [wpE] at h
      rw [beq_iff_eq.mp hc.1]
      exact sndB H and l _ _ σ s Q hc.2 I h
    · cases hc
  | .not m, e, σ, s, Q, hc, I, h => by
    simp only [chkE] at hc
    split at hc
    · simp only [wpE] at h
      refine wpAny_UnaryOp (tail_of_mono (sndE H m _ σ s _ hc I h) fun v s₁ z => ?_)
      obtain ⟨W, σ₁, I₁, l₁, r₁, q₁⟩ := z
      split at q₁
      · cases r₁
        exact not_value (wpAny_truthy_bool ⟨_, σ₁, I₁, l₁, .bool _, q₁⟩)
      · exact q₁.elim
    · cases hc
theorem sndB {K : Ck} (H : Ctx0 X K c A R Γ) : ∀ (and : Bool) (m : Es) (xs : List Expr) (pos : Pos) (σ : St) (s : Shared) (Q : V → St → Prop), chkEs K m xs = true → Inv X c σ s → wpB Γ and m σ Q →
    wpAny (model X.prog X.w) A (eval (.BoolOp (bopr and) xs pos) c.env) (PE X c s Q) Ex s
  | and, .nil, xs, pos, σ, s, Q, hc, I, h => by
    simp only [wpB] at h
  | and, .cons m l, xs, pos, σ, s, Q, hc, I, h => by
    cases xs with
    | nil => simp [chkEs] at hc
    | cons x r =>
      simp only [chkEs, Bool.and_eq_true] at hc
      simp only [wpB] at h
      have hx := sndE H m x σ s _ hc.1.2 I h
      cases l with
      | nil =>
        have : r = [] := by simpa [chkEs] using hc.2
        subst this
        refine BoolOp_one (tail_of_mono hx fun v s₁ z => ?_)
        obtain ⟨W, σ₁, I₁, l₁, r₁, q₁⟩ := z
        split at q₁
        · exact ⟨_, σ₁, I₁, l₁, r₁, q₁⟩
        · exact q₁.elim
      | cons m₂ l₂ =>
        cases r with
        | nil => simp [chkEs] at hc
        | cons y r =>
          cases and
          · refine BoolOp_or (tail_of_mono hx fun v s₁ z => ?_)
            obtain ⟨W, σ₁, I₁, l₁, r₁, q₁⟩ := z
            split at q₁
            · rename_i b
              cases r₁
              refine wpAny_truthy_bool ?_
              cases b
              · exact tail_of_mono (sndB H false (.cons m₂ l₂) _ pos σ₁ s₁ Q hc.2 I₁ q₁) fun v s₂ z => let ⟨W, σ', I', l', r', q'⟩ := z; ⟨W, σ', I', l₁.trans l', r', q'⟩
              · exact ⟨_, σ₁, I₁, l₁, .bool _, q₁⟩
            · exact q₁.elim
          · refine BoolOp_and (tail_of_mono hx fun v s₁ z => ?_)
            obtain ⟨W, σ₁, I₁, l₁, r₁, q₁⟩ := z
            split at q₁
            · rename_i b
              cases r₁
              refine wpAny_truthy_bool ?_
              cases b
              · exact ⟨_, σ₁, I₁, l₁, .bool _, q₁⟩
              · exact tail_of_mono (sndB H true (.cons m₂ l₂) _ pos σ₁ s₁ Q hc.2 I₁ q₁) fun v s₂ z => let ⟨W, σ', I', l', r', q'⟩ := z; ⟨W, σ', I', l₁.trans l', r', q'⟩
            · exact q₁.elim
theorem sndEs {K : Ck} (H : Ctx0 X K c A R Γ) : ∀ (m : Es) (xs : List Expr) (pos : Pos) (σ : St) (s : Shared) (Q : List V → St → Prop), chkEs K m xs = true → Inv X c σ s → wpEs Γ m σ Q →
    wpAny (model X.prog X.w) A (spliced (backTo pos (starEach xs c.env))) (PEs X c s Q) Ex s
  | .nil, xs, pos, σ, s, Q, hc, I, h => by
    simp only [chkEs, List.isEmpty_iff] at hc
    subst hc
    exact spliced_none ⟨[], σ, I, .refl _ _, .nil, h⟩
  | .cons m l, xs, pos, σ, s, Q, hc, I, h => by
    cases xs with
    | nil => simp [chkEs] at hc
    | cons x r =>
      simp only [chkEs, Bool.and_eq_true] at hc
      simp only [wpEs] at h
      refine spliced_more (tail_of_mono (sndE H m _ σ s _ hc.1.2 I h) fun v s₁ z => ?_) (starEach_cons hc.1.1)
      obtain ⟨W, σ₁, I₁, l₁, r₁, q₁⟩ := z
      refine wpAny_mono (sndEs H l _ pos σ₁ s₁ _ hc.2 I₁ q₁) (fun vs s₂ z => ?_) fun _ _ z => z
      obtain ⟨Ws, σ₂, I₂, l₂, r₂, q₂⟩ := z
      exact ⟨W :: Ws, σ₂, I₂, l₁.trans l₂, .cons _ _ _ _ (r₁.low X (l₂.low H.O I₁)) r₂, q₂⟩
end

theorem plain_isTrue {e : Expr} {env : Env} {whole : Sem Value} (h : plainT e = true) : isTrue e env whole = (do let v ← whole; standAt e.pos; holding [v] (truthy v)) := by
  cases e <;> first | rfl | cases h

mutual
theorem sndT {K : Ck} (H : Ctx0 X K c A R Γ) : ∀ (m : T) (e : Expr) (σ : St) (s : Shared) (Q : Bool → St → Prop), chkT K m e = true → Inv X c σ s → wpT Γ m σ Q →
    wpAny (model X.prog X.w) A (isTrue e c.env (eval e c.env)) (PT X c s Q) Ex s
  | .e m, e, σ, s, Q, hc, I, h => by
    simp only [chkT, Bool.and_eq_true] at hc
    simp only [wpT] at h
    refine wpAny_isTrue_value (wpAny_mono (sndE H m e σ s _ hc.2 I h) (fun v s₁ z => ?_) fun _ _ z => z) (plain_isTrue hc.1)
    obtain ⟨W, σ₁, I₁, l₁, r₁, q₁⟩ := z
    split at q₁
    · cases r₁
      exact wpAny_truthy_bool ⟨σ₁, I₁, l₁, q₁⟩
    · exact q₁.elim
  | .cmp op a b, e, σ, s, Q, hc, I, h => by
    simp only [chkT] at hc
    split at hc
    · simp only [Bool.and_eq_true] at hc
      simp only [wpT] at h
      obtain ⟨⟨⟨ho, hs⟩, ha⟩, hb⟩ := hc
      rw [beq_iff_eq.mp ho]
      refine wpAny_isTrue_Compare1 (wpAny_mono (sndE H a _ σ s _ ha I h) (fun v s₁ z => ?_) fun _ _ z => z) (marks_of hs)
      obtain ⟨W, σ₁, I₁, l₁, r₁, q₁⟩ := z
      refine wpAny_mono (sndE H b _ σ₁ s₁ _ hb I₁ q₁) (fun v₂ s₂ z => ?_) fun _ _ z => z
      obtain ⟨W₂, σ₂, I₂, l₂, r₂, q₂⟩ := z
      refine tail_of_mono (wp_cm H.O I₂ (r₁.low X (l₂.low H.O I₁)) r₂ q₂) fun v s' z => ?_
      obtain ⟨b, rfl, I', l, q⟩ := z
      exact wpAny_truthy_bool ⟨σ₂, I', (l₁.trans l₂).trans l, q⟩
    · cases hc
  | .not t, e, σ, s, Q, hc, I, h => by
    simp only [chkT] at hc
    split at hc
    · simp only [wpT] at h
      refine isTrue_not (wpAny_mono (sndT H t _ σ s _ hc I h) (fun b s₁ z => ?_) fun _ _ z => z)
      exact z
    · cases hc
  | .bop and l, e, σ, s, Q, hc, I, h => by
    simp only [chkT] at hc
    split at hc
    · simp only [Bool.and_eq_true] at hc
      simp only [wpT] at h
      rw [beq_iff_eq.mp hc.1]
      exact wpAny_isTrue_BoolOp (sndTs H and l _ σ s Q hc.2 I h)
    · cases hc
theorem sndTs {K : Ck} (H : Ctx0 X K c A R Γ) : ∀ (and : Bool) (m : Ts) (xs : List Expr) (σ : St) (s : Shared) (Q : Bool → St → Prop), chkTs K m xs = true → Inv X c σ s → wpTs Γ and m σ Q →
    wpAny (model X.prog X.w) A (allTrue (bopr and) xs c.env) (PT X c s Q) Ex s
  | and, .nil, xs, σ, s, Q, hc, I, h => by
    simp only [chkTs, List.isEmpty_iff] at hc
    subst hc
    simp only [wpTs] at h
    cases and
    · exact wpAny_allTrue_Or_nil ⟨σ, I, .refl _ _, h⟩
    · exact wpAny_allTrue_And_nil ⟨σ, I, .refl _ _, h⟩
  | and, .cons t l, xs, σ, s, Q, hc, I, h => by
    cases xs with
    | nil => simp [chkTs] at hc
    | cons x r =>
      simp only [chkTs, Bool.and_eq_true] at hc
      simp only [wpTs] at h
      have hx := sndT H t x σ s _ hc.1 I h
      cases and
      · refine wpAny_allTrue_Or_cons (wpAny_mono hx (fun b s₁ z => ?_) fun _ _ z => z)
        obtain ⟨σ₁, I₁, l₁, q₁⟩ := z
        cases b
        · exact wpAny_mono (sndTs H false l r σ₁ s₁ Q hc.2 I₁ q₁) (fun v s₂ z => let ⟨σ', I', l', q'⟩ := z; ⟨σ', I', l₁.trans l', q'⟩) fun _ _ z => z
        · exact ⟨σ₁, I₁, l₁, q₁⟩
      · refine wpAny_allTrue_And_cons (wpAny_mono hx (fun b s₁ z => ?_) fun _ _ z => z)
        obtain ⟨σ₁, I₁, l₁, q₁⟩ := z
        cases b
        · exact ⟨σ₁, I₁, l₁, q₁⟩
        · exact wpAny_mono (sndTs H true l r σ₁ s₁ Q hc.2 I₁ q₁) (fun v s₂ z => let ⟨σ', I', l', q'⟩ := z; ⟨σ', I', l₁.trans l', q'⟩) fun _ _ z => z
end
end
end Mine
namespace Mine
open PySem PySem.W PySem.Calls PyProof.Rows
set_option autoImplicit false
set_option maxRecDepth 10000
variable {X : Cx}

/-- an exception of the frame: not yet noted -/
noncomputable def Raw (c : Act) (B : Heap) (C e : Addr) (h : Heap) : Prop :=
  ∃ oe vs, h.get? e = some oe ∧ oe.cls = .ref C ∧ oe.data = .fields vs ∧ B.get? e = none ∧ vs[1]? = some .none
/-- noted, in flight here or landed -/
noncomputable def Noted (fl : Bool) (c : Act) (B : Heap) (C e : Addr) (h : Heap) : Prop :=
  ∃ oe vs tb ot tvs, h.get? e = some oe ∧ oe.cls = .ref C ∧ oe.data = .fields vs ∧ B.get? e = none ∧ vs[1]? = some (.ref tb) ∧
    h.get? tb = some ot ∧ ot.data = .fields tvs ∧ B.get? tb = none ∧ tb ≠ e ∧ tvs[3]? = some (if fl then rawInt c.L else .none)

section
variable {c : Act} {σ : St} {s : Shared} {A : Around} {Ex : Value → Shared → Prop} {B : Heap} {C e : Addr}

theorem fr_eq (O : c.Ok X) : (c.env :: c.outs).filterMap (·.frame) = c.L :: c.fs := O.frs

theorem lt_of_get {vs : Array Value} {i : Nat} {v : Value} (h : vs[i]? = some v) : i < vs.size := (Array.getElem?_eq_some_iff.mp h).1

theorem get_of_lt {vs : Array Value} {i : Nat} {v : Value} (h : i < vs.size) : (vs.setIfInBounds i v)[i]? = some v := by
  rw [Array.getElem?_setIfInBounds_self]
  simp [h]

theorem wp_note (O : c.Ok X) (hfr : A.frames = some (c.env :: c.outs)) (I : Inv X c σ s) (kp : Kp c B s.heap) (N : Raw c B C e s.heap ∨ Noted true c B C e s.heap) {Q : Unit → Shared → Prop}
    (k : ∀ h', Go (c.L :: c.fs) B s.heap h' → Noted true c B C e h' → Q () { s with heap := h' }) : wpAny (model X.prog X.w) A (noteFrame (.ref e) c.env) Q Ex s := by
  rcases N with ⟨oe, vs, he, hcls, hd, hn, h1⟩ | N
  · unfold noteFrame
    simp only [O.frame]
    refine wpAny_bind (wpAny_field he hd h1 ?_)
    rw [if_neg (by decide)]
    refine wpAny_bind (wpAny_frameOf_fun hfr (I.frames O) O.frame fun h₁ hs => ?_)
    rw [fr_eq O] at hs
    have g₁ : Go (c.L :: c.fs) B s.heap h₁ := .slots hs
    have hef : e ∉ c.L :: c.fs := I.notfr O he fun es n q => by rw [hd] at q; cases q
    have he₁ : h₁.get? e = some oe := (hs.2.1 e hef).trans he
    refine wpAny_bind (wpAny_entryPlaceOf fun pl hpl => ?_)
    unfold EntryCells.newEntry newFields
    refine wpAny_bind (wpAny_newObj_type ?_ (hpl.sizeOk5 _ _ _ _ _))
    have hsz := lt_of_get h1
    have he₂ := Heap.get?_push_of_some (h := h₁) { cls := .type "traceback", dict := none, data := .fields ([Value.none, .ref c.L, .none, rawInt c.L, .none] ++ (if pl.isEmpty then List.replicate 6 Value.none else pl)).toArray } he₁
    have hT := Heap.get?_push_size (o := { cls := .type "traceback", dict := none, data := .fields ([Value.none, .ref c.L, .none, rawInt c.L, .none] ++ (if pl.isEmpty then List.replicate 6 Value.none else pl)).toArray }) h₁ rfl
    refine wpAny_setField he₂ hd hsz (k _ ?_ ?_)
    · exact (g₁.trans (.push _ _ _ _)).trans (.upd he₂ hd hn (.update ..))
    · have hTe : h₁.objs.size ≠ e := Nat.ne_of_gt (Heap.lt_size he₁)
      have hd₃ := Obj.data_mapFields hd (·.setIfInBounds 1 (Value.ref h₁.objs.size))
      refine ⟨_, _, h₁.objs.size, _, _, Heap.get?_update_self _ he₂ (Obj.isFreed_of_fields hd₃), ?_, hd₃, hn, get_of_lt hsz, (Heap.get?_update_other _ _ (Ne.symm hTe)).trans hT, rfl, ?_, hTe, ?_⟩
      · obtain ⟨oc, od, dt, sl⟩ := oe
        dsimp only at hd
        subst hd
        exact hcls
      · have hsize : h₁.objs.size = s.heap.objs.size := hs.1
        exact fresh_of I kp (Heap.get?_none_of_le (by rw [hsize]; exact Nat.le_refl _))
      · show _ = some (rawInt c.L)
        simp
  · obtain ⟨oe, vs, tb, ot, tvs, he, hcls, hd, hn, h1, htb, hdt, htn, hne, h3⟩ := id N
    unfold noteFrame
    simp only [O.frame]
    refine wpAny_bind (wpAny_field he hd h1 ?_)
    rw [if_pos (show (Value.ref tb != Value.none) = true from by simp)]
    refine wpAny_bind (wpAny_field htb hdt (show tvs[3]? = some (rawInt c.L) from h3) ?_)
    rw [if_pos (show (rawInt c.L == rawInt c.L) = true from beq_self_eq_true _)]
    exact wpAny_pure (k s.heap (.refl _ _ _) N)

theorem wp_flight {b b' : Bool} (N : Noted b c B C e s.heap) {Q : Unit → Shared → Prop}
    (k : ∀ h', Go (c.L :: c.fs) B s.heap h' → Noted b' c B C e h' → Q () { s with heap := h' }) : wpAny (model X.prog X.w) A (setFlight (.ref e) (if b' then some c.L else none)) Q Ex s := by
  obtain ⟨oe, vs, tb, ot, tvs, he, hcls, hd, hn, h1, htb, hdt, htn, hne, h3⟩ := id N
  unfold setFlight
  refine wpAny_bind (wpAny_field he hd h1 ?_)
  rw [if_pos (show (Value.ref tb != Value.none) = true from by simp)]
  have hsz := lt_of_get h3
  have hd₃ := Obj.data_mapFields hdt (·.setIfInBounds 3 ((if b' then some c.L else none).elim Value.none fun f => rawInt f))
  refine wpAny_setField htb hdt hsz (k _ (.upd htb hdt htn (.update ..)) ⟨oe, vs, tb, _, _, ?_, hcls, hd, hn, h1, Heap.get?_update_self _ htb (Obj.isFreed_of_fields hd₃), hd₃, htn, hne, ?_⟩)
  · rw [Heap.get?_update_other _ _ hne]
    exact he
  · rw [get_of_lt hsz]
    cases b' <;> rfl

theorem wp_back (O : c.Ok X) {b : Bool} (N : Noted b c B C e s.heap) (k : ∀ h', Go (c.L :: c.fs) B s.heap h' → Noted true c B C e h' → Ex (.ref e) { s with heap := h' }) :
    cameBackBy (model X.prog X.w) A c.env Ex (.ref e) s := by
  obtain ⟨oe, vs, tb, ot, tvs, he, hcls, hd, hn, h1, htb, hdt, htn, hne, h3⟩ := id N
  unfold cameBackBy
  refine wpAny_bind (wpAny_field he hd h1 ?_)
  rw [if_neg (show ¬ (Value.ref tb == Value.none) = true from by simp)]
  rw [O.frame]
  exact wp_flight (b' := true) N k

theorem wp_passOn {α : Type} (O : c.Ok X) {what : String} {b : Bool} {Q : α → Shared → Prop} (N : Noted b c B C e s.heap) (k : ∀ h', Go (c.L :: c.fs) B s.heap h' → Noted true c B C e h' → Ex (.ref e) { s with heap := h' }) :
    wpAny (model X.prog X.w) A (PySem.passOn what (.ref e) c.env : Sem α) Q Ex s := by
  obtain ⟨oe, vs, tb, ot, tvs, he, hcls, hd, hn, h1, htb, hdt, htn, hne, h3⟩ := id N
  unfold PySem.passOn
  refine wpAny_bind (wpAny_field he hd h1 ?_)
  rw [if_neg (show ¬ (Value.ref tb == Value.none) = true from by simp)]
  rw [O.frame]
  exact wpAny_bind (wp_flight (b' := true) N fun h' g n => wpAny_throw (k h' g n))

theorem Raw.rebase {B' : Heap} (k : ∀ b, B.get? b = none → B'.get? b = none) {h : Heap} (N : Raw c B C e h) : Raw c B' C e h := by
  obtain ⟨oe, vs, he, hcls, hd, hn, h1⟩ := N
  exact ⟨oe, vs, he, hcls, hd, k _ hn, h1⟩
theorem Noted.rebase {B' : Heap} (k : ∀ b, B.get? b = none → B'.get? b = none) {b : Bool} {h : Heap} (N : Noted b c B C e h) : Noted b c B' C e h := by
  obtain ⟨oe, vs, tb, ot, tvs, he, hcls, hd, hn, h1, htb, hdt, htn, hne, h3⟩ := N
  exact ⟨oe, vs, tb, ot, tvs, he, hcls, hd, k _ hn, h1, htb, hdt, k _ htn, hne, h3⟩
theorem Noted.inv {b : Bool} (N : Noted b c B C e s.heap) : ∃ oe, s.heap.get? e = some oe ∧ oe.cls = .ref C := by
  obtain ⟨oe, vs, tb, ot, tvs, he, hcls, _⟩ := N
  exact ⟨oe, he, hcls⟩

/-- the lookup of a name of the module from a function, in whatever surroundings -/
theorem glob_any {A' : Around} (O : c.Ok X) (I : Inv X c σ s) {n : Str} {p : Pos} {v : Value} {Q : Value → Shared → Prop} (hk : c.env.kindOf n = some .globalImplicit) (hd : (n == ("__debug__" : Str)) = false) (hv : X.mg n = some v) (h : Q v s) :
    wpAny (model X.prog X.w) A' (eval (.Name n p) c.env) Q Ex s :=
  Name_function_global O.kind hk (loadGlobal_global (by rw [O.glob]; exact I.nsLow O O.ok.mg) hv h) hd

theorem wp_matches {A' : Around} (O : c.Ok X) (I : Inv X c σ s) {b : Bool} (N : Noted b c B C e s.heap) {D : Addr} {r : Bool} (hx : exmOne X.K (.ref C) (.ref D) = some r) {Q : Bool → Shared → Prop} (h : Q r s) :
    wpAny (model X.prog X.w) A' (excMatches (.ref e) (.ref D)) Q Ex s := by
  obtain ⟨oe, he, hcls⟩ := N.inv
  have LT : Looks (model X.prog X.w) s.heap (typeOf (.ref e)) (.ref C) := hcls ▸ (Looks.ld he).andThen .now
  exact (exm_one (I.K O) LT hx).here h

/-- the one handler of a try: `except lab: pass` -/
theorem wp_handle (O : c.Ok X) (I : Inv X c σ s) (N : Noted false c B C e s.heap) {D : Addr} {n : Str} {np p1 p2 : Pos} {r : Bool} (hx : exmOne X.K (.ref C) (.ref D) = some r)
    (hk : c.env.kindOf n = some .globalImplicit) (hd : (n == ("__debug__" : Str)) = false) (hv : X.mg n = some (.ref D)) {Q : Flow → Shared → Prop}
    (k1 : r = true → ∀ h', Go (c.L :: c.fs) B s.heap h' → Q .next { s with heap := h' })
    (k2 : r = false → ∀ h', Go (c.L :: c.fs) B s.heap h' → Noted true c B C e h' → Ex (.ref e) { s with heap := h' }) :
    wpAny (model X.prog X.w) A (handleBy (.ref e) c.env [.ExceptHandler (some (.Name n np)) none [.Pass p1] p2]) Q Ex s := by
  refine wpAny_handleBy_cons (codeAny_handlers_test (glob_any O I hk hd hv (wp_matches O I N hx ?_))) (by intro q; cases q)
  cases r with
  | true =>
    refine codeAny_handlers_suite (wp_flight (b' := false) N fun h' g _ => ?_)
    exact wpAny_execs_cons (wpAny_Pass (wpAny_execs_nil (k1 rfl h' g)))
  | false => exact wpAny_handleBy_nil (wp_passOn O N (k2 rfl))
end

/-- an exception's class as the raise wants it -/
noncomputable def RaiseOk (X : Cx) (C : Addr) : Prop := ∃ (nm q : Str) (Nd : Addr) (bs : List Value) (hdct : Bool) (sn : List Str) (sub : List Value) (ab : Bool) (col : Option Bool) (dd : Option Addr) (k0 k1 k2 k3 k5 : Option Value) (mN : Str → Option Value),
  X.H.get? C = some (excClassObj nm q C Nd bs [.type "Exception", .type "BaseException", .type "object"] hdct sn sub ab col dd k0 k1 k2 k3 k5 "Exception.__new__") ∧ X.H.Ns Nd mN ∧ mN "__init__" = none

section
variable {c : Act} {σ : St} {s : Shared} {A : Around} {Ex : Value → Shared → Prop} {C : Addr}
theorem wp_raise (O : c.Ok X) (I : Inv X c σ s) (hh : A.handled = none) (R : RaiseOk X C) {n : Str} {np p1 p2 : Pos} (hk : c.env.kindOf n = some .globalImplicit) (hd : (n == ("__debug__" : Str)) = false) (hv : X.mg n = some (.ref C)) {Q : Flow → Shared → Prop}
    (k : ∀ h' e, Kp c s.heap h' → Raw c s.heap C e h' → Inv X c σ { s with heap := h' } → Ex (.ref e) { s with heap := h' }) :
    wpAny (model X.prog X.w) A (exec (.Raise (some (.Call (.Name n np) [] [] p1)) none p2) c.env) Q Ex s := by
  obtain ⟨nm, q, Nd, bs, hdct, sn, sub, ab, col, dd, k0, k1, k2, k3, k5, mN, hC, hN, hi⟩ := R
  refine wpAny_Raise_call_sub F.excBase_Exception (C := C) (N := Nd) hh rfl hi (glob_any O I hk hd hv ⟨rfl, evalArgs_nil3 ⟨rfl, Nat.zero_le _, I.stat0 O _ _ hC, I.nsLow O hN, fun h' e hm => ?_⟩⟩)
  obtain ⟨t, he, _⟩ := hm.there
  exact k h' e (.of_keeps hm.keeps) ⟨_, _, he, rfl, rfl, hm.new, rfl⟩ (I.go O I.tk (.of_keeps hm.keeps))
end
end Mine
namespace Mine
open PySem PySem.W PySem.Calls PyProof.Rows
set_option autoImplicit false
set_option maxRecDepth 10000
variable {X : Cx}

noncomputable def notComp : Expr → Bool | .ListComp .. | .SetComp .. | .DictComp .. => false | _ => true
noncomputable def notTup : Expr → Bool | .Tuple .. => false | _ => true
noncomputable def chkNs (K : Ck) : List Nat → List Expr → Bool
  | [], ts => ts.isEmpty
  | k :: ks, ts => match ts with | .Name n _ :: ts => (K.ls[k]? == some n) && chkNs K ks ts | _ => false

mutual
noncomputable def chkS (K : Ck) : S → Stmt → Bool
  | .expr m, st => match st with | .Expr v _ => notComp v && chkE K m v | _ => false
  | .asg k m, st => match st with | .Assign [.Name n _] v _ => (K.ls[k]? == some n) && notComp v && chkE K m v | _ => false
  | .amin k a b, st => match st with
    | .Assign [.Name n _] (.Call (.Name f _) [x, y] [] _) _ => (K.ls[k]? == some n) && (f == ("min" : Str)) && K.g f && notStar x && notStar y && chkE K a x && chkE K b y
    | _ => false
  | .asf k m, st => match st with | .Assign [.Attribute (.Name n _) a _] v _ => K.me && (n == ("self" : Str)) && (fnames[k]? == some a) && notComp v && chkE K m v | _ => false
  | .ast ks m, st => match st with | .Assign [.Tuple ts _ _] v _ => chkNs K ks ts && notComp v && notTup v && chkE K m v | _ => false
  | .aug k op m, st => match st with | .AugAssign (.Name n _) o v _ => (K.ls[k]? == some n) && (o == opr op) && chkE K m v | _ => false
  | .auf k op m, st => match st with | .AugAssign (.Attribute (.Name n _) a _) o v _ => K.me && (n == ("self" : Str)) && (fnames[k]? == some a) && (o == opr op) && chkE K m v | _ => false
  | .iff t a b, st => match st with | .If c x y _ => chkT K t c && chkSs K a x && chkSs K b y | _ => false
  | .whl t b, st => match st with | .While c x [] _ => chkT K t c && chkSs K b x | _ => false
  | .forR k l b, st => match st with | .For (.Name n _) (.Call (.Name f _) xs [] _) body [] _ => (K.ls[k]? == some n) && (f == ("range" : Str)) && K.g f && chkEs K l xs && !xs.isEmpty && chkSs K b body | _ => false
  | .forL k m b, st => match st with | .For (.Name n _) it body [] _ => (K.ls[k]? == some n) && notSet it && chkE K m it && chkSs K b body | _ => false
  | .try_ b l, st => match st with | .Try body [.ExceptHandler (some (.Name n _)) none [.Pass _] _] [] [] _ => (K.N.labs[l]? == some n) && K.g n && chkSs K b body | _ => false
  | .raise l, st => match st with | .Raise (some (.Call (.Name n _) [] [] _)) none _ => (K.N.labs[l]? == some n) && K.g n | _ => false
  | .ret m, st => match st with | .Return (some v) _ => chkE K m v | _ => false
  | .brk, st => match st with | .Break _ => true | _ => false
  | .cont, st => match st with | .Continue _ => true | _ => false
  | .pass, st => match st with | .Pass _ => true | _ => false
  | .asrt t, st => match st with | .Assert c none _ => chkT K t c | _ => false
noncomputable def chkSs (K : Ck) : Ss → List Stmt → Bool
  | .nil, sts => sts.isEmpty
  | .cons m l, sts => match sts with | st :: r => chkS K m st && chkSs K l r | [] => false
end

structure Labs (X : Cx) (N : Nm) (lc : Nat → Addr) : Prop where
  lab : ∀ (l : Nat) (nm : Str), N.labs[l]? = some nm → X.mg nm = some (.ref (lc l)) ∧ RaiseOk X (lc l)
  exm : ∀ (l l' : Nat) (nm nm' : Str), N.labs[l]? = some nm → N.labs[l']? = some nm' → exmOne X.K (.ref (lc l)) (.ref (lc l')) = some (decide (l = l'))

inductive FRel (X : Cx) (h : Heap) : Flow → Fl → Prop
  | next : FRel X h .next .next
  | brk : FRel X h .brk .brk
  | cont : FRel X h .cont .cont
  | ret (v : Value) (W : V) : Rel X h v W → FRel X h (.ret v) (.ret W)

section
variable {c : Act} {σ : St} {s : Shared} {A : Around} {R : Nat} {Γ : Env'}

noncomputable def PF (X : Cx) (c : Act) (s : Shared) (Q : Fl → St → Prop) : Flow → Shared → Prop := fun f s' => ∃ fl σ', Inv X c σ' s' ∧ Kp c s.heap s'.heap ∧ FRel X s'.heap f fl ∧ Q fl σ'
noncomputable def PX (X : Cx) (c : Act) (N : Nm) (lc : Nat → Addr) (s : Shared) (Q : Fl → St → Prop) : Value → Shared → Prop := fun v s' => ∃ (l : Nat) (nm : Str) (e : Addr) (σ' : St),
  v = .ref e ∧ N.labs[l]? = some nm ∧ (Raw c s.heap (lc l) e s'.heap ∨ Noted true c s.heap (lc l) e s'.heap) ∧ Inv X c σ' s' ∧ Kp c s.heap s'.heap ∧ Q (.exc l) σ'

theorem PX.back {N : Nm} {lc : Nat → Addr} {s₁ s₂ : Shared} {σ₁ : St} {Q Q' : Fl → St → Prop} {v : Value} (h : PX X c N lc s₁ Q' v s₂) (I₁ : Inv X c σ₁ s₁) (kp : Kp c s.heap s₁.heap) (hQ : ∀ l σ, Q' (.exc l) σ → Q (.exc l) σ) : PX X c N lc s Q v s₂ := by
  obtain ⟨l, nm, e, σ', hv, hl, hN, I', kp', q⟩ := h
  have fr : ∀ b, s₁.heap.get? b = none → s.heap.get? b = none := fun b hb => fresh_of I₁ kp hb
  exact ⟨l, nm, e, σ', hv, hl, hN.imp (·.rebase fr) (·.rebase fr), I', kp.trans kp', hQ l σ' q⟩

/-- an exception that comes out of a loop's own activation -/
theorem px_noted {N : Nm} {lc : Nat → Addr} (O : c.Ok X) (hfr : A.frames = some (c.env :: c.outs)) (I : Inv X c σ s) {s₂ : Shared} {Q : Fl → St → Prop} {v : Value} (h : PX X c N lc s Q v s₂) :
    notedBy (model X.prog X.w) A c.env (fun e s' => cameBackBy (model X.prog X.w) A c.env (PX X c N lc s Q) e s') v s₂ := by
  obtain ⟨l, nm, e, σ', rfl, hl, hN, I', kp', q⟩ := h
  refine wp_note O hfr I' kp' hN fun h' g N' => ?_
  have I'' := I'.go O I'.tk (g.rebase fun b => I.fresh)
  refine wp_back O N' fun h'' g' N'' => ?_
  exact ⟨l, nm, e, σ', rfl, hl, .inr N'', I''.go O I''.tk (g'.rebase fun b => I.fresh), (kp'.go g).go g', q⟩
end
end Mine
namespace Mine
open PySem PySem.W PySem.Calls PyProof.Rows
set_option autoImplicit false
set_option maxRecDepth 10000
variable {X : Cx}

/-- an iterator that gives these values -/
structure Iter (X : Cx) (A : Around) (it : Addr) (It : List V → Heap → Prop) : Prop where
  next : ∀ (v : V) (rest : List V) (s : Shared) (Q : Option Value → Shared → Prop) (E : Value → Shared → Prop), It (v :: rest) s.heap →
    (∀ h' x tk, Heap.SameBut it s.heap h' → It rest h' → Rel X h' x v → (0 < s.toks → 0 < tk) → Q (some x) { s with heap := h', toks := tk }) → wpAny (model X.prog X.w) A (pyNext (.ref it)) Q E s
  done : ∀ (s : Shared) (Q : Option Value → Shared → Prop) (E : Value → Shared → Prop), It [] s.heap → (∀ h', Heap.ExtBut it s.heap h' → Q none { s with heap := h' }) → wpAny (model X.prog X.w) A (pyNext (.ref it)) Q E s
  here : ∀ l h, It l h → ∃ o vs, h.get? it = some o ∧ o.data = .fields vs
  keep : ∀ l h h', It l h → (∀ o, h.get? it = some o → h'.get? it = some o) → Low X h h' → It l h'

section
variable {c : Act} {σ : St} {s : Shared} {A : Around} {R : Nat} {Γ : Env'} {N : Nm} {lc : Nat → Addr}

theorem Iter.kept {it : Addr} {It : List V → Heap → Prop} (T : Iter X A it It) (O : c.Ok X) (I : Inv X c σ s) {l : List V} {h' : Heap} (hi : It l s.heap) (k : Kp c s.heap h') : It l h' := by
  obtain ⟨o, vs, e, hd⟩ := T.here _ _ hi
  have nf : it ∉ c.L :: c.fs := I.notfr O e fun es n q => by rw [hd] at q; cases q
  refine T.keep _ _ _ hi (fun o' e' => (k it o' e' fun hx => ?_).2 fun h => nf (.tail _ h)) (k.low O I)
  unfold Act.ex at hx
  rcases List.mem_cons.mp hx with rfl | hx
  · exact nf (.head _)
  · cases q : c.sf with
    | none => rw [q] at hx; cases hx
    | some p =>
      rw [q] at hx
      obtain ⟨x, d⟩ := p
      have : it = d := by simpa using hx
      subst this
      obtain ⟨f, ⟨o2, es, ep, e2, hd2, _⟩, _⟩ := (I.self x it q).ns
      rw [e] at e2; cases e2
      rw [hd] at hd2; cases hd2

theorem wp_loop (O : c.Ok X) (hfr : A.frames = some (c.env :: c.outs)) (I : Inv X c σ s) {it : Addr} {It : List V → Heap → Prop} (T : Iter X A it It) (hnew : s.heap.get? it = none) {k : Nat} {n : Str} {p : Pos} (hk : c.ls[k]? = some n)
    {body : List Stmt} {B : St → (Fl → St → Prop) → Prop} (hB : ∀ σ s Q, Inv X c σ s → B σ Q → wpAny (model X.prog X.w) A (execs body c.env) (PF X c s Q) (PX X c N lc s Q) s)
    {Q : Fl → St → Prop} {xs : List V} {σ₁ : St} {s₁ : Shared} (I₁ : Inv X c σ₁ s₁) (k₁ : Kp c s.heap s₁.heap) (h₁ : It xs s₁.heap) (hl : loop k B xs σ₁ Q) :
    codeAny (model X.prog X.w) A (.forLoop (.Name n p) (.ref it) body [] c.env)
      (fun r s' => match r with | .ok f => PF X c s Q f s' | .error e => cameBackBy (model X.prog X.w) A c.env (PX X c N lc s Q) e s') s₁ := by
  refine codeAny_forLoop (fun m s' => ∃ σ' rest, m = rest.length ∧ Inv X c σ' s' ∧ Kp c s.heap s'.heap ∧ It rest s'.heap ∧ loop k B rest σ' Q) ?_ _ ⟨σ₁, xs, rfl, I₁, k₁, h₁, hl⟩ (fun _ => rfl)
  rintro m s₂ ⟨σ₂, rest, rfl, I₂, k₂, h₂, l₂⟩
  obtain ⟨oi, vi, ei, hdi⟩ := T.here _ _ h₂
  cases rest with
  | nil =>
    refine T.done _ _ _ h₂ fun h' he => wpAny_execs_nil ?_
    have g : Go (c.L :: c.fs) s.heap s₂.heap h' := fun b o e hn => by
      have ne : b ≠ it := fun q => by
        subst q
        rw [ei] at e; cases e
        rcases hn with hn | hn
        · exact hn _ hdi
        · exact hn hnew
      have := he b o ne e
      exact ⟨⟨o.slots, this⟩, fun _ => this⟩
    exact ⟨.next, σ₂, I₂.go O I₂.tk (g.rebase fun b => I.fresh), k₂.go g, .next, l₂⟩
  | cons v rest =>
    refine T.next _ _ _ _ _ h₂ fun h' x tk hs hi hr htk => ?_
    have g : Go (c.L :: c.fs) s.heap s₂.heap h' := .upd ei hdi hnew hs
    have I₃ := I₂.go O (htk I₂.tk) (g.rebase fun b => I.fresh)
    have k₃ := k₂.go g
    refine wpAny_assign_Name (wp_store O I₃ hk hr fun s₄ I₄ k₄ => ?_)
    have hi₄ := T.kept O I₃ hi k₄
    have k₄' : Kp c s.heap s₄.heap := k₃.trans k₄
    simp only [loop] at l₂
    refine wpAny_mono (hB _ _ _ I₄ l₂) (fun f s₅ z => ?_) fun e s₅ z => ?_
    · obtain ⟨fl, σ₅, I₅, k₅, hf, q⟩ := z
      have hi₅ := T.kept O I₄ hi₄ k₅
      have k₅' := k₄'.trans k₅
      cases hf with
      | next => exact ⟨rest.length, Nat.lt_succ_self _, σ₅, rest, rfl, I₅, k₅', hi₅, q⟩
      | cont => exact ⟨rest.length, Nat.lt_succ_self _, σ₅, rest, rfl, I₅, k₅', hi₅, q⟩
      | brk => exact ⟨.next, σ₅, I₅, k₅', .next, q⟩
      | ret v W r => exact ⟨.ret W, σ₅, I₅, k₅', .ret v W r, q⟩
    · exact px_noted O hfr I (z.back I₄ k₄' fun l σ q => q)

theorem iter_range {A : Around} (hh : A.handled = none) (it : Addr) (st : Int) : Iter X A it (fun l h => ∃ a : Int, l = (List.range l.length).map (fun (i : Nat) => V.int (a + (i : Int) * st)) ∧ IsRangeIter h it a l.length st) where
  next := fun v rest s Q E ⟨a, e, hi⟩ k => by
    refine wpAny_pyNext_range_item hi (by rw [List.length_cons]; omega) fun h' hi' hs => k h' _ _ hs ⟨a + st, ?_, ?_⟩ ?_ fun _ => Nat.succ_pos _
    · rw [List.length_cons, List.range_succ_eq_map, List.map_cons] at e
      have e2 := (List.cons.inj e).2
      rw [List.map_map] at e2
      conv => lhs; rw [e2]
      refine List.map_congr_left fun i _ => ?_
      show V.int _ = V.int _
      congr 1
      show a + ((i + 1 : Nat) : Int) * st = _
      push_cast
      rw [Int.add_mul, Int.one_mul]
      omega
    · rw [List.length_cons] at hi'
      have : ((rest.length + 1 : Nat) : Int) - 1 = rest.length := by push_cast; omega
      rw [this] at hi'
      exact hi'
    · rw [List.length_cons, List.range_succ_eq_map, List.map_cons] at e
      have e1 := (List.cons.inj e).1
      have : v = .int a := by rw [e1]; simp
      rw [this]
      exact .int a _
  done := fun s Q E ⟨a, e, hi⟩ k => wpAny_pyNext_range_end hh hi (by simp) k
  here := fun l h ⟨a, e, hi⟩ => ⟨_, _, hi, rfl⟩
  keep := fun l h h' ⟨a, e, hi⟩ k _ => ⟨a, e, k _ hi⟩

theorem low_rec {h h' : Heap} {it : Addr} {o : Obj} {vs : Array Value} (e : h.get? it = some o) (hd : o.data = .fields vs) (k : Heap.SameBut it h h') : Low X h h' := fun b cl xs n _ e' => by
  refine (k.2 b fun q => ?_).trans e'
  subst q
  rw [e] at e'; cases e'; cases hd

theorem iter_list {A : Around} (hh : A.handled = none) (it : Addr) : Iter X A it (fun l h => ∃ (a : Addr) (items : List Value) (n i : Nat) (all : List V), h.IsListIter it a i ∧
    h.get? a = some ⟨.type "list", none, .seq items.toArray n, #[]⟩ ∧ RelL X h items all ∧ l = all.drop i ∧ a ≠ it ∧ a ∉ X.chg) where
  next := fun v rest s Q E ⟨a, items, n, i, all, hi, hl, hr, e, hne, hmu⟩ k => by
    have hv : all[i]? = some v := by
      have := congrArg (·[0]?) e
      simpa using this.symm
    obtain ⟨x, g1, g2⟩ := rel_at hr hv
    have IL : s.heap.IsList a items.toArray := ⟨_, hl, rfl, n, rfl⟩
    obtain ⟨o, ho, hc, hd⟩ := id hi
    refine wpAny_pyNext_list_item hi IL (by simpa using g1) fun h' hi' hs => ?_
    have low := low_rec (X := X) ho hd hs
    refine k h' x s.toks hs ⟨a, items, n, i + 1, all, hi', low _ _ _ _ hmu hl, hr.low X low, ?_, hne, hmu⟩ (g2.low X low) id
    have := congrArg List.tail e
    simpa using this
  done := fun s Q E ⟨a, items, n, i, all, hi, hl, hr, e, hne, hmu⟩ k => by
    have IL : s.heap.IsList a items.toArray := ⟨_, hl, rfl, n, rfl⟩
    refine wpAny_pyNext_list_end hh hi IL ?_ k
    have : all.length ≤ i := by
      have := congrArg List.length e
      simp at this
      omega
    simp
    rw [hr.len]
    exact this
  here := fun l h ⟨a, items, n, i, all, ⟨o, hi, _, hd⟩, _⟩ => ⟨_, _, hi, hd⟩
  keep := fun l h h' ⟨a, items, n, i, all, ⟨o, hi, hc, hd⟩, hl, hr, e, hne, hmu⟩ k low => ⟨a, items, n, i, all, ⟨o, k _ hi, hc, hd⟩, low _ _ _ _ hmu hl, hr.low X low, e, hne, hmu⟩
end
end Mine
namespace Mine
open PySem PySem.W PySem.Calls PyProof.Rows
set_option autoImplicit false
set_option maxRecDepth 10000
variable {X : Cx}

theorem swaps_no {v : Expr} {t : Option Expr} {l : Nat} {env : Env} (h : notComp v = true) : swapsWith v t l env = pure false := by
  cases v <;> first | rfl | cases h
theorem swapped_no {v : Expr} {ts : List Expr} {k : Nat} {p : Pos} {env : Env} (h : notTup v = true) : swappedStores [.Tuple ts k p] v env = pure none := by
  cases v <;> first | rfl | cases h
theorem folded_no {v : Expr} {env : Env} (h : notSet v = true) (x : Value) : foldedSetIterable v env x = pure x := by
  cases v <;> first | rfl | cases h

section
variable {c : Act} {σ : St} {s : Shared} {A : Around} {R : Nat} {Γ : Env'} {lc : Nat → Addr} {E : Value → Shared → Prop}

theorem wp_store0 (O : c.Ok X) (I : Inv X c σ s) {k : Nat} {nm : Str} {v : Value} {V : V} {tk : Nat} (hk : c.ls[k]? = some nm) (r : Rel X s.heap v V) {Q : Unit → Shared → Prop}
    (h : ∀ s', Inv X c (σ.put k V) s' → Kp c s.heap s'.heap → Q () s') : wpAny (model X.prog X.w) A (storeName c.env nm v) Q E { s with toks := tk } := by
  obtain ⟨m, n, n1, n2⟩ := I.ns
  refine wpAny_storeName_local (m := m) (O.loc k nm hk) (by rw [O.locals]; exact n) (fun h' hn hs => ?_) (by rw [O.kind]; rfl)
  rw [O.locals] at hn hs
  exact h _ (I.stored O hk n n1 n2 r (Nat.succ_pos _) hn hs) (Pv.of_same (.head _) hs)

theorem wp_assigns {K : Ck} (O : c.Ok X) (hls : c.ls = K.ls) : ∀ (ks : List Nat) (ts : List Expr) (vs : List Value) (Vs : List V) (σ : St) (s : Shared) (σ' : St) (Q : Unit → Shared → Prop), chkNs K ks ts = true → RelL X s.heap vs Vs → putAll ks Vs σ = some σ' → Inv X c σ s →
    (∀ s', Inv X c σ' s' → Kp c s.heap s'.heap → Q () s') → wpAny (model X.prog X.w) A (assignInOrder ((assignEach ts c.env).map (·.2)) vs) Q E s
  | [], ts, vs, Vs, σ, s, σ', Q, hc, r, hp, I, h => by
    have : ts = [] := by simpa [chkNs] using hc
    subst this
    cases Vs with
    | nil =>
      cases r
      cases hp
      exact wpAny_pure (h s I (.refl _ _))
    | cons _ _ => cases hp
  | k :: ks, ts, vs, Vs, σ, s, σ', Q, hc, r, hp, I, h => by
    cases Vs with
    | nil => cases hp
    | cons W Ws =>
      cases r with | cons v _ vs _ r rs =>
      simp only [chkNs] at hc
      split at hc
      · rename_i n p ts
        simp only [Bool.and_eq_true] at hc
        show wpAny _ _ (do holding vs (assign (.Name n p) c.env v); assignInOrder ((assignEach ts c.env).map (·.2)) vs) _ _ _
        refine wpAny_bind (wpAny_holding (wpAny_assign_Name (wp_store O I (by rw [hls]; exact beq_iff_eq.mp hc.1) r fun s₁ I₁ k₁ => ?_)))
        exact wp_assigns O hls ks ts vs Ws _ s₁ σ' Q hc.2 (rs.low X (k₁.low O I)) hp I₁ fun s' I' k' => h s' I' (k₁.trans k')
      · cases hc

theorem chkNs_len {K : Ck} : ∀ {ks : List Nat} {ts : List Expr} {env : Env}, chkNs K ks ts = true → (assignEach ts env).length = ks.length ∧ (assignEach ts env).findIdx? (·.1) = none
  | [], ts, env, hc => by
    have : ts = [] := by simpa [chkNs] using hc
    subst this
    exact ⟨rfl, rfl⟩
  | k :: ks, ts, env, hc => by
    simp only [chkNs] at hc
    split at hc
    · rename_i n p ts
      simp only [Bool.and_eq_true] at hc
      obtain ⟨h1, h2⟩ := chkNs_len (env := env) hc.2
      refine ⟨by show (_ :: assignEach ts env).length = _; rw [List.length_cons, h1, List.length_cons], ?_⟩
      show ((false, assign (.Name n p) env) :: assignEach ts env).findIdx? (·.1) = none
      rw [List.findIdx?_cons]
      simp only [Bool.false_eq_true, if_false]
      rw [h2]; rfl
    · cases hc
theorem putAll_len : ∀ {ks : List Nat} {Vs : List V} {σ σ' : St}, putAll ks Vs σ = some σ' → ks.length = Vs.length
  | [], [], _, _, _ => rfl
  | [], _ :: _, _, _, h => by cases h
  | _ :: _, [], _, _, h => by cases h
  | k :: ks, V :: Vs, σ, σ', h => by
    rw [List.length_cons, List.length_cons, putAll_len (ks := ks) (Vs := Vs) (σ := σ.put k V) (σ' := σ') h]

theorem wp_op2i {op : Op2} {a b : Value} {va vb : V} {Q : V → Prop} (I : Inv X c σ s) (ra : Rel X s.heap a va) (rb : Rel X s.heap b vb) (h : op2i op va vb Q) :
    wpAny (model X.prog X.w) A (inplaceOp (opr op) a b) (PV X c σ s Q) E s := by
  unfold op2i at h
  split at h
  · cases ra; cases rb
    exact AutoIntOps.iadd_0 (PV.tok I (Nat.succ_pos _) (.int _ _) h)
  · cases ra; cases rb
    exact AutoIntOps.isub_0 (PV.tok I (Nat.succ_pos _) (.int _ _) h)
  · exact h.elim

structure Ctx1 (X : Cx) (K : Ck) (c : Act) (A : Around) (R : Nat) (Γ : Env') (lc : Nat → Addr) : Prop extends Ctx0 X K c A R Γ where
  L : Labs X K.N lc

theorem PF.now {Q : Fl → St → Prop} {f : Flow} {fl : Fl} (I : Inv X c σ s) (r : FRel X s.heap f fl) (h : Q fl σ) : PF X c s Q f s := ⟨fl, σ, I, .refl _ _, r, h⟩
theorem PF.back {s₁ s₂ : Shared} {Q : Fl → St → Prop} {f : Flow} (k : Kp c s.heap s₁.heap) (h : PF X c s₁ Q f s₂) : PF X c s Q f s₂ := by
  obtain ⟨fl, σ', I, k', r, q⟩ := h
  exact ⟨fl, σ', I, k.trans k', r, q⟩

noncomputable def IsInts : List Value → List Int → Prop
  | [], [] => True
  | v :: vs, i :: is => (∃ t, v = .int i t) ∧ IsInts vs is
  | _, _ => False
theorem ints_rel {h : Heap} : ∀ {vs : List Value} {Ws : List V} {is : List Int}, RelL X h vs Ws → intsV Ws = some is → IsInts vs is
  | _, _, is, .nil, e => by cases e; trivial
  | _, _, is, .cons v W vs Ws r rs, e => by
    cases W <;> simp only [intsV, Option.map_eq_some_iff, reduceCtorEq] at e
    obtain ⟨js, e1, rfl⟩ := e
    cases r
    exact ⟨⟨_, rfl⟩, ints_rel rs e1⟩

theorem size_down (m n : Int) : Builtin.Range.rangeSize m n (-1) = ((m - n).toNat : Int) := by
  unfold Builtin.Range.rangeSize
  simp only [show ¬ ((-1 : Int) > 0) by decide, if_false, show (- -1 : Int) = 1 by decide, Int.ediv_one]
  split <;> omega
theorem small_down {m n : Int} (hm : -1000000 ≤ m ∧ m ≤ 1000000) (hn : -1000000 ≤ n ∧ n ≤ 1000000) : Builtin.Range.small m n (-1) = true := by
  unfold Builtin.Range.small
  rw [size_down]
  simp only [Builtin.Range.rangeFitsLong, Bool.and_eq_true, Bool.or_eq_true, decide_eq_true_eq, beq_iff_eq, show ¬ ((-1 : Int) > 0) by decide, if_false]
  omega
theorem size_up (m n : Int) : Builtin.Range.rangeSize m n 1 = ((n - m).toNat : Int) := by
  rw [rangeSize_one]
  split <;> omega

/-- a range made and its iterator taken -/
theorem wp_range {A : Around} {s : Shared} {vs : List Value} {is xs : List Int} {Q : Value → Shared → Prop} {E : Value → Shared → Prop} (hi : IsInts vs is) (hx : rangeOf is = some xs) (hb : ∀ x ∈ is, -1000000 ≤ x ∧ x ≤ 1000000)
    (k : ∀ h' it tk a st, (∀ b o, s.heap.get? b = some o → h'.get? b = some o) → s.heap.get? it = none → (xs.map V.int) = (List.range xs.length).map (fun (i : Nat) => V.int (a + (i : Int) * st)) → IsRangeIter h' it a xs.length st → (0 < s.toks → 0 < tk) → Q (.ref it) { s with heap := h', toks := tk }) :
    wpAny (model X.prog X.w) A (call (.type "range") vs) (fun x s₁ => wpAny (model X.prog X.w) A (pyIter x) Q E s₁) E s := by
  have up2 : ∀ (h : Heap) (o o' : Obj) b q, h.get? b = some q → ((h.push o).push o').get? b = some q := fun h o o' b q e => Heap.get?_push_of_some _ (Heap.get?_push_of_some _ e)
  unfold rangeOf at hx
  split at hx
  · rename_i n
    cases hx
    match vs, hi with
    | [_], ⟨⟨t, rfl⟩, _⟩ =>
    have hn := hb n (.head _)
    refine call_range_1 (wpAny_pyIter_range (IsRange.new ..) (small_one (by omega) (by omega) (by omega) (by omega)) (k _ _ _ 0 1 (fun b o e => up2 _ _ _ b o e) (Heap.get?_none_of_le (by rw [Heap.size_push]; exact Nat.le_succ _)) ?_ ?_ fun _ => Nat.succ_pos _))
    · rw [List.length_map, List.length_range, List.map_map]
      refine List.map_congr_left fun i _ => ?_
      show V.int (i : Int) = V.int (0 + (i : Int) * 1)
      congr 1
      omega
    · rw [List.length_map, List.length_range]
      have : Builtin.Range.rangeSize 0 n 1 = (n.toNat : Int) := by rw [size_up]; congr 1; omega
      rw [← this]
      exact Heap.get?_push_size _ rfl
  · rename_i m n
    cases hx
    match vs, hi with
    | [_, _], ⟨⟨t, rfl⟩, ⟨u, rfl⟩, _⟩ =>
    have hm := hb m (.head _)
    have hn := hb n (.tail _ (.head _))
    refine call_range_2 (wpAny_pyIter_range (IsRange.new ..) (small_one (by omega) (by omega) (by omega) (by omega)) (k _ _ _ m 1 (fun b o e => up2 _ _ _ b o e) (Heap.get?_none_of_le (by rw [Heap.size_push]; exact Nat.le_succ _)) ?_ ?_ fun _ => Nat.succ_pos _))
    · rw [List.length_map, List.length_range, List.map_map]
      refine List.map_congr_left fun i _ => ?_
      show V.int (m + (i : Int)) = V.int (m + (i : Int) * 1)
      congr 1
      omega
    · rw [List.length_map, List.length_range]
      rw [← size_up]
      exact Heap.get?_push_size _ rfl
  · rename_i m n
    cases hx
    match vs, hi with
    | [_, _, _], ⟨⟨t, rfl⟩, ⟨u, rfl⟩, ⟨w, rfl⟩, _⟩ =>
    have hm := hb m (.head _)
    have hn := hb n (.tail _ (.head _))
    refine call_range_3 (by decide) (wpAny_pyIter_range (IsRange.new ..) (small_down hm hn) (k _ _ _ m (-1) (fun b o e => up2 _ _ _ b o e) (Heap.get?_none_of_le (by rw [Heap.size_push]; exact Nat.le_succ _)) ?_ ?_ id)) (.inl (PyProof.noPylong_small (by omega)))
    · rw [List.length_map, List.length_range, List.map_map]
      refine List.map_congr_left fun i _ => ?_
      show V.int (m - (i : Int)) = V.int (m + (i : Int) * (-1))
      congr 1
      omega
    · rw [List.length_map, List.length_range]
      rw [← size_down]
      exact Heap.get?_push_size _ rfl
  · cases hx

mutual
theorem sndS {K : Ck} (H : Ctx1 X K c A R Γ lc) : ∀ (m : S) (st : Stmt) (σ : St) (s : Shared) (Q : Fl → St → Prop), chkS K m st = true → Inv X c σ s → wpS Γ m σ Q →
    wpAny (model X.prog X.w) A (exec st c.env) (PF X c s Q) (PX X c K.N lc s Q) s
  | .expr m, st, σ, s, Q, hc, I, h => by
    simp only [chkS] at hc
    split at hc
    · simp only [Bool.and_eq_true] at hc
      simp only [wpS] at h
      refine wpAny_Expr (wpAny_mono (sndE H.toCtx0 m _ σ s _ hc.2 I h) (fun v s₁ z => ?_) fun _ _ z => z) (by unfold interactive; rw [H.O.kind]; rfl) (swaps_no hc.1)
      obtain ⟨W, σ₁, I₁, k₁, r₁, q₁⟩ := z
      cases r₁ <;> first | exact ⟨.next, σ₁, I₁, k₁, .next, q₁.2⟩ | exact q₁.1.elim
    · cases hc
  | .asg k m, st, σ, s, Q, hc, I, h => by
    simp only [chkS] at hc
    split at hc
    · simp only [Bool.and_eq_true] at hc
      simp only [wpS] at h
      refine wpAny_Assign_Name (wpAny_mono (sndE H.toCtx0 m _ σ s _ hc.2 I h) (fun v s₁ z => ?_) fun _ _ z => z) (swaps_no hc.1.2)
      obtain ⟨W, σ₁, I₁, k₁, r₁, q₁⟩ := z
      exact wp_store H.O I₁ (by rw [H.ls]; exact beq_iff_eq.mp hc.1.1) r₁ fun s₂ I₂ k₂ => ⟨.next, _, I₂, k₁.trans k₂, .next, q₁⟩
    · cases hc
  | .amin k a b, st, σ, s, Q, hc, I, h => by
    simp only [chkS] at hc
    split at hc
    · simp only [Bool.and_eq_true] at hc
      simp only [wpS] at h
      obtain ⟨⟨⟨⟨⟨⟨hn, hf⟩, hg⟩, hx⟩, hy⟩, ha⟩, hb⟩ := hc
      rw [beq_iff_eq.mp hf] at hg ⊢
      refine wpAny_Assign_Name (wpAny_Call_Name_kw (H.blt I hg H.S.bmin ?_)) rfl
      refine callWith_builtin1 (spliced_more (wpAny_mono (sndE H.toCtx0 a _ σ s _ ha I h) (fun v s₁ z => ?_) fun _ _ z => z) (starEach_cons hx)) (starEach_cons hx) (by rw [starEach_cons hy]; rfl)
      obtain ⟨W, σ₁, I₁, k₁, r₁, q₁⟩ := z
      refine spliced_more (wpAny_mono (sndE H.toCtx0 b _ σ₁ s₁ _ hb I₁ q₁) (fun v₂ s₂ z => spliced_none ?_) fun _ _ z => z) (starEach_cons hy)
      obtain ⟨W₂, σ₂, I₂, k₂, r₂, q₂⟩ := z
      split at q₂
      · rename_i i j
        cases r₁ with | int _ t₁ => cases r₂ with | int _ t₂ =>
        refine min_two_ints H.AO.handled fun h' tk kk => ?_
        have kp : Kp c s₂.heap h' := .of_keeps kk
        have I₃ : Inv X c σ₂ { s₂ with heap := h', toks := 1 } := I₂.go H.O Nat.one_pos (.of_keeps kk)
        have r₃ : Rel X h' (if j < i then Value.int j t₂ else Value.int i t₁) (.int (if j < i then j else i)) := by
          split
          · exact .int _ _
          · exact .int _ _
        exact wp_store0 (tk := tk) (Q := fun _ => PF X c s Q .next) H.O I₃ (by rw [H.ls]; exact beq_iff_eq.mp hn) r₃ fun s₄ I₄ k₄ => ⟨.next, _, I₄, ((k₁.trans k₂).trans kp).trans k₄, .next, q₂⟩
      · exact q₂.elim
    · cases hc
  | .asf k m, st, σ, s, Q, hc, I, h => by
    simp only [chkS] at hc
    split at hc
    · simp only [Bool.and_eq_true] at hc
      simp only [wpS] at h
      obtain ⟨⟨⟨⟨hme, hn⟩, hf⟩, hcp⟩, hm⟩ := hc
      obtain ⟨x, d, hsf⟩ := H.me hme
      rw [beq_iff_eq.mp hn]
      have hk := beq_iff_eq.mp hf
      refine plainObj_wpAny_Assign_Attribute (wpAny_mono (sndE H.toCtx0 m _ σ s _ hm I h) (fun v s₁ z => ?_) fun _ _ z => z) (swaps_no hcp)
      obtain ⟨W, σ₁, I₁, k₁, r₁, q₁⟩ := z
      exact H.self I₁ hsf (wp_fset H.O I₁ hsf (H.S.fok _ (List.mem_of_getElem? hk)) hk r₁ fun s₂ I₂ k₂ => ⟨.next, _, I₂, k₁.trans k₂, .next, q₁⟩)
    · cases hc
  | .ast ks m, st, σ, s, Q, hc, I, h => by
    simp only [chkS] at hc
    split at hc
    · simp only [Bool.and_eq_true] at hc
      simp only [wpS] at h
      obtain ⟨⟨⟨hns, hcp⟩, htp⟩, hm⟩ := hc
      refine Assign_Tuple (wpAny_mono (sndE H.toCtx0 m _ σ s _ hm I h) (fun v s₁ z => ?_) fun _ _ z => z) (by unfold swapsWithSole; exact swaps_no hcp) (swapped_no htp)
      obtain ⟨W, σ₁, I₁, k₁, r₁, q₁⟩ := z
      split at q₁
      · rename_i vs
        obtain ⟨σ', hp, q₂⟩ := q₁
        cases r₁ with | tup a items n _ hm0 e r =>
        have ht : s₁.heap.IsTuple a items.toArray := ⟨_, e, rfl, n, rfl⟩
        obtain ⟨hl1, hl2⟩ := chkNs_len (env := c.env) hns
        show wpAny _ _ (do standAt _; unpack _ _) _ _ _
        refine wpAny_bind (wpAny_standAt ?_)
        refine wpAny_unpack_tuple H.AO.handled ht (by rw [hl1, putAll_len hp, List.size_toArray, r.len]) hl2 fun h' hx => ?_
        have kk : ∀ b o, s₁.heap.get? b = some o → h'.get? b = some o := fun b o e => hx b o (Nat.ne_of_lt (Heap.lt_size e)) e
        have kp : Kp c s₁.heap h' := .of_keeps kk
        have I₂ : Inv X c σ₁ { s₁ with heap := h' } := I₁.go H.O I₁.tk (.of_keeps kk)
        exact wp_assigns H.O H.ls ks _ _ vs σ₁ _ σ' _ hns (r.low X (.of_keeps kk)) hp I₂ fun s' I' k' => ⟨.next, _, I', (k₁.trans kp).trans k', .next, q₂⟩
      · exact q₁.elim
    · cases hc
  | .aug k op m, st, σ, s, Q, hc, I, h => by
    simp only [chkS] at hc
    split at hc
    · simp only [Bool.and_eq_true] at hc
      simp only [wpS] at h
      obtain ⟨⟨hn, ho⟩, hm⟩ := hc
      obtain ⟨V, hV, h⟩ := getv_some h
      rw [beq_iff_eq.mp ho]
      have hk := beq_iff_eq.mp hn
      rw [← H.ls] at hk
      refine wpAny_AugAssign_Name (wp_name H.O I hk hV fun v r => wpAny_mono (sndE H.toCtx0 m _ σ s _ hm I h) (fun v₁ s₁ z => ?_) fun _ _ z => z)
      obtain ⟨W, σ₁, I₁, k₁, r₁, q₁⟩ := z
      refine wpAny_mono (wp_op2i I₁ (r.low X (k₁.low H.O I)) r₁ q₁) (fun v₂ s₂ z => ?_) fun _ _ z => z
      obtain ⟨W₂, I₂, k₂, r₂, q₂⟩ := z
      exact wp_store H.O I₂ hk r₂ fun s₃ I₃ k₃ => ⟨.next, _, I₃, (k₁.trans k₂).trans k₃, .next, q₂⟩
    · cases hc
  | .auf k op m, st, σ, s, Q, hc, I, h => by
    simp only [chkS] at hc
    split at hc
    · simp only [Bool.and_eq_true] at hc
      simp only [wpS] at h
      obtain ⟨⟨⟨⟨hme, hn⟩, hf⟩, ho⟩, hm⟩ := hc
      obtain ⟨V, hV, h⟩ := getv_some h
      obtain ⟨x, d, hsf⟩ := H.me hme
      rw [beq_iff_eq.mp hn, beq_iff_eq.mp ho]
      have hk := beq_iff_eq.mp hf
      have fo := H.S.fok _ (List.mem_of_getElem? hk)
      refine wpAny_AugAssign_AttributeAny (H.self I hsf (wp_fget H.O I hsf fo hk hV fun v s₀ I₀ k₀ r => ?_))
      refine wpAny_mono (sndE H.toCtx0 m _ σ s₀ _ hm I₀ h) (fun v₁ s₁ z => ?_) fun _ _ z => z
      obtain ⟨W, σ₁, I₁, k₁, r₁, q₁⟩ := z
      refine wpAny_mono (wp_op2i I₁ (r.low X (k₁.low H.O I₀)) r₁ q₁) (fun v₂ s₂ z => ?_) fun _ _ z => z
      obtain ⟨W₂, I₂, k₂, r₂, q₂⟩ := z
      exact wp_fset H.O I₂ hsf fo hk r₂ fun s₃ I₃ k₃ => ⟨.next, _, I₃, ((k₀.trans k₁).trans k₂).trans k₃, .next, q₂⟩
    · cases hc
  | .iff t a b, st, σ, s, Q, hc, I, h => by
    simp only [chkS] at hc
    split at hc
    · simp only [Bool.and_eq_true] at hc
      simp only [wpS] at h
      refine wpAny_If (wpAny_mono (sndT H.toCtx0 t _ σ s _ hc.1.1 I h) (fun v s₁ z => ?_) fun _ _ z => z)
      obtain ⟨σ₁, I₁, k₁, q₁⟩ := z
      cases v
      · exact wpAny_mono (sndSs H b _ σ₁ s₁ Q hc.2 I₁ q₁) (fun _ _ z => z.back k₁) fun _ _ z => z.back I₁ k₁ fun _ _ q => q
      · exact wpAny_mono (sndSs H a _ σ₁ s₁ Q hc.1.2 I₁ q₁) (fun _ _ z => z.back k₁) fun _ _ z => z.back I₁ k₁ fun _ _ q => q
    · cases hc
  | .whl t b, st, σ, s, Q, hc, I, h => by
    simp only [chkS] at hc
    split at hc
    · simp only [Bool.and_eq_true] at hc
      simp only [wpS] at h
      obtain ⟨J, ⟨n, h0⟩, hstep⟩ := h
      refine wpAny_While (codeAny_whileLoop (fun n s' => ∃ σ', Inv X c σ' s' ∧ Kp c s.heap s'.heap ∧ J n σ') ?_ n ⟨σ, I, .refl _ _, h0⟩)
      rintro n s₁ ⟨σ₁, I₁, k₁, j₁⟩
      refine wpAny_mono (sndT H.toCtx0 t _ σ₁ s₁ _ hc.1 I₁ (hstep n σ₁ j₁)) (fun v s₂ z => ?_) fun _ _ z => z
      obtain ⟨σ₂, I₂, k₂, q₂⟩ := z
      cases v
      · exact wpAny_execs_nil ⟨.next, σ₂, I₂, k₁.trans k₂, .next, q₂⟩
      · refine wpAny_mono (sndSs H b _ σ₂ s₂ _ hc.2 I₂ q₂) (fun f s₃ z => ?_) fun e s₃ z => ?_
        · obtain ⟨fl, σ₃, I₃, k₃, hf, q₃⟩ := z
          have kk := (k₁.trans k₂).trans k₃
          cases hf with
          | next =>
            obtain ⟨m, hm, jm⟩ := q₃
            exact ⟨m, hm, σ₃, I₃, kk, jm⟩
          | cont =>
            obtain ⟨m, hm, jm⟩ := q₃
            exact ⟨m, hm, σ₃, I₃, kk, jm⟩
          | brk => exact ⟨.next, σ₃, I₃, kk, .next, q₃⟩
          | ret v W r => exact ⟨.ret W, σ₃, I₃, kk, .ret v W r, q₃⟩
        · exact px_noted H.O H.AO.frames I (z.back I₂ (k₁.trans k₂) fun _ _ q => q)
    · cases hc
  | .forR k l b, st, σ, s, Q, hc, I, h => by
    simp only [chkS] at hc
    split at hc
    · simp only [Bool.and_eq_true] at hc
      simp only [wpS] at h
      obtain ⟨⟨⟨⟨⟨hn, hf⟩, hg⟩, hxs⟩, hne⟩, hb⟩ := hc
      rw [beq_iff_eq.mp hf] at hg ⊢
      rename_i xs _ body _
      cases xs with
      | nil => cases hne
      | cons x r =>
      cases l with
      | nil => simp [chkEs] at hxs
      | cons m l =>
      have hx1 : notStar x = true := by simp only [chkEs, Bool.and_eq_true] at hxs; exact hxs.1.1
      refine wpAny_For (wpAny_Call_Name_kw (H.blt I hg H.S.brange ?_)) (fun _ => rfl)
      refine callWith_type1 (wpAny_mono (sndEs H.toCtx0 (.cons m l) (x :: r) _ σ s _ hxs I h) (fun vs s₁ z => ?_) fun _ _ z => z) (starEach_cons hx1) (chkEs_stars (m := l) (K := K) (by simp only [chkEs, Bool.and_eq_true] at hxs; exact hxs.2))
      obtain ⟨Ws, σ₁, I₁, k₁, r₁, is, xs, e1, e2, hbd, q₁⟩ := z
      refine wp_range (ints_rel r₁ e1) e2 hbd fun h' it tk a st kk hit hxe hri htk => ?_
      have I₂ : Inv X c σ₁ { s₁ with heap := h', toks := tk } := I₁.go H.O (htk I₁.tk) (.of_keeps kk)
      have hnew : s.heap.get? it = none := fresh_of I₁ k₁ hit
      refine wp_loop H.O H.AO.frames I (iter_range H.AO.handled _ st) hnew (by rw [H.ls]; exact beq_iff_eq.mp hn) (fun σ s Q I h => sndSs H b _ σ s Q hb I h) I₂ (k₁.trans (.of_keeps kk)) ?_ q₁
      exact ⟨a, by rw [List.length_map]; exact hxe, by rw [List.length_map]; exact hri⟩
    · cases hc
  | .forL k m b, st, σ, s, Q, hc, I, h => by
    simp only [chkS] at hc
    split at hc
    · simp only [Bool.and_eq_true] at hc
      simp only [wpS] at h
      obtain ⟨⟨⟨hn, hs⟩, hm⟩, hb⟩ := hc
      refine wpAny_For (wpAny_mono (sndE H.toCtx0 m _ σ s _ hm I h) (fun v s₁ z => ?_) fun _ _ z => z) (folded_no hs)
      obtain ⟨W, σ₁, I₁, k₁, r₁, q₁⟩ := z
      split at q₁
      · rename_i vs
        cases r₁ with | lst a items n _ hm0 e r =>
        have hl : s₁.heap.IsList a items.toArray := ⟨_, e, rfl, n, rfl⟩
        refine wpAny_pyIter_list hl ?_
        have kk : ∀ b o, s₁.heap.get? b = some o → (s₁.heap.push { cls := .type "list_iterator", data := .fields #[.ref a, .int 0 0] }).get? b = some o := fun b o e => Heap.get?_push_of_some _ e
        have I₂ : Inv X c σ₁ { s₁ with heap := s₁.heap.push { cls := .type "list_iterator", data := .fields #[.ref a, .int 0 0] } } := I₁.go H.O I₁.tk (.of_keeps kk)
        have hnew : s.heap.get? s₁.heap.objs.size = none := fresh_of I₁ k₁ (Heap.get?_none_of_le (Nat.le_refl _))
        refine wp_loop H.O H.AO.frames I (iter_list H.AO.handled _) hnew (by rw [H.ls]; exact beq_iff_eq.mp hn) (fun σ s Q I h => sndSs H b _ σ s Q hb I h) I₂ (k₁.trans (.of_keeps kk)) ?_ q₁
        exact ⟨a, items, n, 0, vs, ⟨_, Heap.get?_push_size _ rfl, rfl, rfl⟩, kk _ _ e, r.low X (.of_keeps kk), rfl, Nat.ne_of_lt (Heap.lt_size e), hm0⟩
      · exact q₁.elim
    · cases hc
  | .try_ b l, st, σ, s, Q, hc, I, h => by
    simp only [chkS] at hc
    split at hc
    · simp only [Bool.and_eq_true] at hc
      simp only [wpS] at h
      obtain ⟨⟨hl, hg⟩, hb⟩ := hc
      have hl := beq_iff_eq.mp hl
      refine wpAny_Try_except (wpAny_mono (sndSs H b _ σ s _ hb I h) (fun f s₁ z => ?_) fun e s₁ z => ?_)
      · obtain ⟨fl, σ₁, I₁, k₁, hf, q₁⟩ := z
        cases hf with
        | next => exact wpAny_execs_nil ⟨.next, σ₁, I₁, k₁, .next, q₁⟩
        | brk => exact ⟨.brk, σ₁, I₁, k₁, .brk, q₁⟩
        | cont => exact ⟨.cont, σ₁, I₁, k₁, .cont, q₁⟩
        | ret v W r => exact ⟨.ret W, σ₁, I₁, k₁, .ret v W r, q₁⟩
      · obtain ⟨l', nm, e, σ₁, rfl, hl', hN, I₁, k₁, q₁⟩ := z
        have fr : ∀ b, s.heap.get? b = none → c.h₀.get? b = none := fun b => I.fresh
        refine wp_note H.O H.AO.frames I₁ k₁ hN fun h₂ g₂ N₂ => ?_
        have I₂ := I₁.go H.O I₁.tk (g₂.rebase fr)
        refine wp_flight (b' := false) N₂ fun h₃ g₃ N₃ => ?_
        have I₃ := I₂.go H.O I₂.tk (g₃.rebase fr)
        have k₃ := (k₁.go g₂).go g₃
        refine wp_handle H.O I₃ N₃ (H.L.exm _ _ _ _ hl' hl) (H.kindg hg).1 (H.kindg hg).2 (H.L.lab _ _ hl).1 (fun hr h₄ g₄ => ?_) fun hr h₄ g₄ N₄ => ?_
        · have : l' = l := of_decide_eq_true hr
          subst this
          have q₁ : if l' = l' then Q .next σ₁ else Q (.exc l') σ₁ := q₁
          rw [if_pos rfl] at q₁
          exact ⟨.next, σ₁, I₃.go H.O I₃.tk (g₄.rebase fr), k₃.go g₄, .next, q₁⟩
        · have : l' ≠ l := of_decide_eq_false hr
          have q₁ : if l' = l then Q .next σ₁ else Q (.exc l') σ₁ := q₁
          rw [if_neg this] at q₁
          exact ⟨l', nm, e, σ₁, rfl, hl', .inr N₄, I₃.go H.O I₃.tk (g₄.rebase fr), k₃.go g₄, q₁⟩
    · cases hc
  | .raise l, st, σ, s, Q, hc, I, h => by
    simp only [chkS] at hc
    split at hc
    · simp only [Bool.and_eq_true] at hc
      simp only [wpS] at h
      have hl := beq_iff_eq.mp hc.1
      obtain ⟨hv, hr⟩ := H.L.lab _ _ hl
      exact wp_raise H.O I H.AO.handled hr (H.kindg hc.2).1 (H.kindg hc.2).2 hv fun h' e k N I' => ⟨l, _, e, σ, rfl, hl, .inl N, I', k, h⟩
    · cases hc
  | .ret m, st, σ, s, Q, hc, I, h => by
    simp only [chkS] at hc
    split at hc
    · simp only [wpS] at h
      refine wpAny_Return_some (wpAny_mono (sndE H.toCtx0 m _ σ s _ hc I h) (fun v s₁ z => ?_) fun _ _ z => z)
      obtain ⟨W, σ₁, I₁, k₁, r₁, q₁⟩ := z
      exact ⟨.ret W, σ₁, I₁, k₁, .ret v W r₁, q₁⟩
    · cases hc
  | .brk, st, σ, s, Q, hc, I, h => by
    simp only [chkS] at hc
    split at hc
    · exact wpAny_Break (.now I .brk h)
    · cases hc
  | .cont, st, σ, s, Q, hc, I, h => by
    simp only [chkS] at hc
    split at hc
    · exact wpAny_Continue (.now I .cont h)
    · cases hc
  | .pass, st, σ, s, Q, hc, I, h => by
    simp only [chkS] at hc
    split at hc
    · exact wpAny_Pass (.now I .next h)
    · cases hc
  | .asrt t, st, σ, s, Q, hc, I, h => by
    simp only [chkS] at hc
    split at hc
    · simp only [wpS] at h
      refine wpAny_Assert_new H.AO.handled (wpAny_mono (sndT H.toCtx0 t _ σ s _ hc I h) (fun b s₁ z => ?_) fun _ _ z => z)
      obtain ⟨σ₁, I₁, k₁, q₁⟩ := z
      rw [if_pos q₁.1]
      exact ⟨.next, σ₁, I₁, k₁, .next, q₁.2⟩
    · cases hc
theorem sndSs {K : Ck} (H : Ctx1 X K c A R Γ lc) : ∀ (m : Ss) (sts : List Stmt) (σ : St) (s : Shared) (Q : Fl → St → Prop), chkSs K m sts = true → Inv X c σ s → wpSs Γ m σ Q →
    wpAny (model X.prog X.w) A (execs sts c.env) (PF X c s Q) (PX X c K.N lc s Q) s
  | .nil, sts, σ, s, Q, hc, I, h => by
    have : sts = [] := by simpa [chkSs] using hc
    subst this
    exact wpAny_execs_nil (.now I .next h)
  | .cons m l, sts, σ, s, Q, hc, I, h => by
    cases sts with
    | nil => simp [chkSs] at hc
    | cons st r =>
      simp only [chkSs, Bool.and_eq_true] at hc
      simp only [wpSs] at h
      refine wpAny_execs_cons (wpAny_mono (sndS H m st σ s _ hc.1 I h) (fun f s₁ z => ?_) fun e s₁ z => ?_)
      · obtain ⟨fl, σ₁, I₁, k₁, hf, q₁⟩ := z
        cases hf with
        | next => exact wpAny_mono (sndSs H l r σ₁ s₁ Q hc.2 I₁ q₁) (fun _ _ z => z.back k₁) fun _ _ z => z.back I₁ k₁ fun _ _ q => q
        | brk => exact ⟨.brk, σ₁, I₁, k₁, .brk, q₁⟩
        | cont => exact ⟨.cont, σ₁, I₁, k₁, .cont, q₁⟩
        | ret v W r => exact ⟨.ret W, σ₁, I₁, k₁, .ret v W r, q₁⟩
      · exact z.back I (.refl _ _) fun _ _ q => q
end
end
end Mine
namespace Mine
open PySem PySem.W PySem.Calls PyProof.Rows
set_option autoImplicit false
set_option maxRecDepth 10000
variable {X : Cx}

/-- a def of the module -/
structure FnOk (X : Cx) (K : Ck) (f : Addr) (fd : FuncData) (body : List Stmt) (params : List Str) : Prop where
  at_ : ∃ o, X.H.get? f = some o ∧ o.data = .func fd
  globals : fd.globals = mainGlobals
  builtins : fd.builtins = builtinsNs
  body : fd.body = .stmts body
  code : X.H.CodeRec fd.code fd.qualname
  cells : ∀ x ∈ fd.scope.names, x.2 ≠ .cell
  pl : ∀ x ∈ params, fd.scope.names.lookup x = some .local
  ll : ∀ x ∈ K.ls, fd.scope.names.lookup x = some .local
  kind : fd.scope.kind = .function
  co : fd.scope.isCoroutine = false
  gen : fd.scope.isGenerator = false
  bind : ∀ vs : List Value, vs.length = params.length → bindArgs fd ⟨vs, []⟩ = pure (params.zip vs)
  nodup : K.ls.Nodup
  pnodup : params.Nodup
  sc : K.sc = fd.scope

theorem zip_lookup : ∀ {ps : List Str} {vs : List Value}, ps.Nodup → ∀ {k : Nat} {n : Str} {v : Value}, ps[k]? = some n → vs[k]? = some v → (ps.zip vs).reverse.lookup n = some v := by
  intro ps vs nd k n v hp hv
  have key : ∀ (l : List (Str × Value)), (l.map (·.1)).Nodup → (n, v) ∈ l → l.lookup n = some v := by
    intro l
    induction l with
    | nil => intro _ h; cases h
    | cons p l ih =>
      intro nd h
      obtain ⟨a, b⟩ := p
      rw [List.map_cons, List.nodup_cons] at nd
      rcases List.mem_cons.mp h with e | h
      · cases e
        rw [List.lookup_cons, beq_self_eq_true]
      · have : n ≠ a := fun e => nd.1 (e ▸ List.mem_map_of_mem (f := (·.1)) h)
        rw [List.lookup_cons, beq_eq_false_iff_ne.mpr this]
        exact ih nd.2 h
  refine key _ ?_ ?_
  · rw [List.map_reverse]
    refine List.Pairwise.imp (fun h => Ne.symm h) ?_ |> List.pairwise_reverse.mpr
    have : ∀ (ps : List Str) (vs : List Value), ps.Nodup → ((ps.zip vs).map (·.1)).Nodup := by
      intro ps
      induction ps with
      | nil => intro vs _; exact List.nodup_nil
      | cons p ps ih =>
        intro vs nd
        cases vs with
        | nil => exact List.nodup_nil
        | cons v vs =>
          rw [List.nodup_cons] at nd
          rw [List.zip_cons_cons, List.map_cons, List.nodup_cons]
          refine ⟨fun h => nd.1 ?_, ih vs nd.2⟩
          obtain ⟨⟨a, b⟩, h1, h2⟩ := List.mem_map.mp h
          have := (List.of_mem_zip h1).1
          dsimp only at h2
          exact h2 ▸ this
    exact this ps vs nd
  · rw [List.mem_reverse]
    obtain ⟨h1, rfl⟩ := List.getElem?_eq_some_iff.mp hp
    obtain ⟨h2, rfl⟩ := List.getElem?_eq_some_iff.mp hv
    have h3 : k < (ps.zip vs).length := by rw [List.length_zip]; omega
    have : (ps.zip vs)[k] = (ps[k], vs[k]) := List.getElem_zip
    exact this ▸ List.getElem_mem h3

noncomputable def bodySp (Γ : Env') (m : Ss) (np nl : Nat) : Spec := fun Vs F Q => Vs.length = np ∧ wpSs Γ m ⟨Vs.map some ++ List.replicate nl none, F⟩ (fun fl σ => match fl with | .ret W => Q W σ.fl | .next => Q .none σ.fl | _ => False)

theorem MethOk.mono {f : Addr} {R : Nat} {sp sp' : Spec} (h : MethOk X f R sp) (k : ∀ Vs F Q, sp' Vs F Q → sp Vs F Q) : MethOk X f R sp' :=
  fun A l s x d F vs Vs Q E a b c d' e g i j q => h A l s x d F vs Vs Q E a b c d' e g i j (k _ _ _ q)
theorem FuncOk.mono {f : Addr} {R : Nat} {sp sp' : List V → (V → Prop) → Prop} (h : FuncOk X f R sp) (k : ∀ Vs Q, sp' Vs Q → sp Vs Q) : FuncOk X f R sp' :=
  fun A l s vs Vs Q E a b c d q => h A l s vs Vs Q E a b c d (k _ _ q)

theorem loc_get {Vs : List V} {nl k : Nat} {V : V} (h : (Vs.map some ++ List.replicate nl none)[k]? = some (some V)) : Vs[k]? = some V := by
  by_cases q : k < Vs.length
  · rw [List.getElem?_append_left (by rw [List.length_map]; exact q), List.getElem?_map] at h
    cases e : Vs[k]? with
    | none => rw [e] at h; cases h
    | some W => rw [e] at h; cases h; rfl
  · rw [List.getElem?_append_right (by rw [List.length_map]; omega), List.getElem?_replicate] at h
    split at h <;> cases h

section
variable {K : Ck} {Γ : Env'} {lc : Nat → Addr} {R : Nat}

/-- what holds of all bodies run under some surroundings -/
noncomputable def Base (X : Cx) (K : Ck) (R : Nat) (Γ : Env') (lc : Nat → Addr) : Prop := X.Ok ∧ Sig X K.N Γ R ∧ (∀ nm ∈ anames, AmOk X nm) ∧ Labs X K.N lc

theorem nolimit_of {h : Heap} (O : X.Ok) (st : Stat X h) : h.NoLimit := by
  obtain ⟨mc, ⟨o, es, ep, e, r⟩, q⟩ := O.st
  exact ⟨mc, ⟨o, es, ep, st.1 _ _ e, r⟩, q⟩

theorem meth_of_body (B : Base X K R Γ lc) {f : Addr} {fd : FuncData} {body : List Stmt} {ps rest : List Str} (F : FnOk X K f fd body ("self" :: ps)) (hls : K.ls = ps ++ rest) (hme : K.me = true) (hself : ("self" : Str) ∉ K.ls)
    {m : Ss} (hchk : chkSs K m body = true) : MethOk X f (R + 1) (bodySp Γ m ps.length rest.length) := by
  intro A l s x d Fl vs Vs Q E RM st tk S hx hd hxd r sp
  obtain ⟨hlen, sp⟩ := sp
  obtain ⟨o, ho, hod⟩ := F.at_
  have hvl : vs.length = ps.length := r.len.trans hlen
  refine wpAny_call (codeAny_call_def (binds := (("self" : Str) :: ps).zip (.ref x :: vs)) (by have := RM.depth; omega) (st.1 _ _ ho) hod (nolimit_of B.1 st) (F.code.keeps st.1) F.body (.of_eq (F.bind _ (by rw [List.length_cons, List.length_cons, hvl]))) F.cells ?_ ?_ F.co F.gen F.kind)
  · intro p hp
    obtain ⟨a, b⟩ := p
    exact F.pl _ (List.of_mem_zip hp).1
  intro h₀ hns hk
  have hnew : s.heap.get? s.heap.objs.size = none := Heap.get?_none_of_le (Nat.le_refl _)
  let c : Act := ⟨s.heap.objs.size, callEnv fd s.heap.objs.size f, l, s.heap, K.ls, some (x, d), s.gens, s.drawn, s.os⟩
  have hLH : X.H.get? c.L = none := by
    cases q : X.H.get? c.L with
    | none => rfl
    | some o => have := st.1 _ _ q; rw [hnew] at this; cases this
  have O : c.Ok X := {
    hL := hLH
    new := hnew
    frame := rfl
    locals := rfl
    kind := F.kind
    loc := fun k nm hk => F.ll nm (List.mem_of_getElem? hk)
    nodup := F.nodup
    noself := fun _ => hself
    selfk := fun _ => F.pl _ (.head _)
    outs := RM.ff
    outc := RM.fr
    st := st.1
    ok := B.1
    glob := F.globals
    blt := F.builtins
    self := fun x' d' e => by
      cases e
      obtain ⟨sl, e1⟩ := S.inst
      obtain ⟨_, ⟨od, _, _, e2, _⟩, _⟩ := S.ns
      exact ⟨⟨_, e1⟩, hd, hx, hxd, ⟨_, e2⟩⟩ }
  have AO : AOk (A.deeper c.env) c R := {
    handled := RM.handled
    depth := by have := RM.depth; show A.depth + 1 + R < _; omega
    units := by have := RM.units; show A.units + 3 + 10 * R + 40 < _; omega
    frames := by show A.frames.map _ = _; rw [RM.frames]; rfl }
  have H : Ctx1 X K c (A.deeper c.env) R Γ lc := { O := O, AO := AO, S := B.2.1, am := B.2.2.1, sc := F.sc.symm, ls := rfl, me := fun _ => ⟨x, d, rfl⟩, L := B.2.2.2 }
  have low : Low X s.heap h₀ := .of_keeps hk
  have I : Inv X c ⟨Vs.map some ++ List.replicate rest.length none, Fl⟩ { s with heap := h₀, toks := s.toks + ((("self" : Str) :: ps).zip (.ref x :: vs)).length } := {
    ns := ⟨_, hns, fun x' d' e => by
        cases e
        exact zip_lookup F.pnodup (k := 0) rfl rfl, fun k nm V h1 h2 => by
        have h2 := loc_get h2
        obtain ⟨v, g1, g2⟩ := rel_at r h2
        refine ⟨v, zip_lookup F.pnodup (k := k + 1) ?_ (by simpa using g1), g2.low X low⟩
        have hk : k < ps.length := by rw [← hlen]; exact (List.getElem?_eq_some_iff.mp h2).1
        have h1 : K.ls[k]? = some nm := h1
        rw [hls, List.getElem?_append_left hk] at h1
        simpa using h1⟩
    self := fun x' d' e => by
      cases e
      exact S.move low (fun o => hk _ o) fun o => hk _ o
    pv := .of_keeps hk
    gens := rfl
    drawn := rfl
    os := rfl
    tk := Nat.lt_of_lt_of_le tk (Nat.le_add_right _ _)
    chg := fun a ha => by
      obtain ⟨o, xs, k, e, hd⟩ := st.2 a ha
      exact ⟨o, xs, k, hk _ _ e, hd⟩ }
  refine wpAny_mono (sndSs H m body _ _ _ hchk I sp) (fun fl s' z => ?_) fun e s' z => ?_
  · obtain ⟨fl', σ', I', k', hf, q⟩ := z
    have pv : Pv [d] (frs l) s.heap s'.heap := fun b o e hb => by
      have hL : b ≠ c.L := fun z => by subst z; rw [hnew] at e; cases e
      exact I'.pv b o e fun h => by
        rcases List.mem_cons.mp h with h | h
        · exact hL h
        · exact hb h
    have sm : Same s s' := ⟨I'.gens, I'.drawn, I'.os, I'.tk⟩
    cases hf with
    | next => exact ⟨.none, σ'.fl, pv, I'.self x d rfl, .none, sm, q⟩
    | brk => exact q.elim
    | cont => exact q.elim
    | ret v W rv => exact ⟨W, σ'.fl, pv, I'.self x d rfl, rv, sm, q⟩
  · obtain ⟨l, nm, e, σ', hv, hl, hN, I', k', q⟩ := z
    exact q.elim

noncomputable def bodyFn (Γ : Env') (m : Ss) (np nl : Nat) : List V → (V → Prop) → Prop := fun Vs Q => Vs.length = np ∧ wpSs Γ m ⟨Vs.map some ++ List.replicate nl none, []⟩ (fun fl _ => match fl with | .ret W => Q W | .next => Q .none | _ => False)

theorem func_of_body (B : Base X K R Γ lc) {f : Addr} {fd : FuncData} {body : List Stmt} {ps rest : List Str} (F : FnOk X K f fd body ps) (hls : K.ls = ps ++ rest) (hme : K.me = false)
    {m : Ss} (hchk : chkSs K m body = true) : FuncOk X f (R + 1) (bodyFn Γ m ps.length rest.length) := by
  intro A l s vs Vs Q E RM st tk r sp
  obtain ⟨hlen, sp⟩ := sp
  obtain ⟨o, ho, hod⟩ := F.at_
  have hvl : vs.length = ps.length := r.len.trans hlen
  refine wpAny_call (codeAny_call_def (binds := ps.zip vs) (by have := RM.depth; omega) (st.1 _ _ ho) hod (nolimit_of B.1 st) (F.code.keeps st.1) F.body (.of_eq (F.bind _ hvl)) F.cells ?_ ?_ F.co F.gen F.kind)
  · intro p hp
    obtain ⟨a, b⟩ := p
    exact F.pl _ (List.of_mem_zip hp).1
  intro h₀ hns hk
  have hnew : s.heap.get? s.heap.objs.size = none := Heap.get?_none_of_le (Nat.le_refl _)
  let c : Act := ⟨s.heap.objs.size, callEnv fd s.heap.objs.size f, l, s.heap, K.ls, none, s.gens, s.drawn, s.os⟩
  have hLH : X.H.get? c.L = none := by
    cases q : X.H.get? c.L with
    | none => rfl
    | some o => have := st.1 _ _ q; rw [hnew] at this; cases this
  have O : c.Ok X := {
    hL := hLH
    new := hnew
    frame := rfl
    locals := rfl
    kind := F.kind
    loc := fun k nm hk => F.ll nm (List.mem_of_getElem? hk)
    nodup := F.nodup
    noself := fun z => by cases z
    selfk := fun z => by cases z
    outs := RM.ff
    outc := RM.fr
    st := st.1
    ok := B.1
    glob := F.globals
    blt := F.builtins
    self := fun x' d' e => by cases e }
  have AO : AOk (A.deeper c.env) c R := {
    handled := RM.handled
    depth := by have := RM.depth; show A.depth + 1 + R < _; omega
    units := by have := RM.units; show A.units + 3 + 10 * R + 40 < _; omega
    frames := by show A.frames.map _ = _; rw [RM.frames]; rfl }
  have H : Ctx1 X K c (A.deeper c.env) R Γ lc := { O := O, AO := AO, S := B.2.1, am := B.2.2.1, sc := F.sc.symm, ls := rfl, me := fun z => (Bool.false_ne_true (hme.symm.trans z)).elim, L := B.2.2.2 }
  have low : Low X s.heap h₀ := .of_keeps hk
  have I : Inv X c ⟨Vs.map some ++ List.replicate rest.length none, []⟩ { s with heap := h₀, toks := s.toks + (ps.zip vs).length } := {
    ns := ⟨_, hns, (fun x' d' e => by cases e), fun k nm V h1 h2 => by
        have h2 := loc_get h2
        obtain ⟨v, g1, g2⟩ := rel_at r h2
        refine ⟨v, zip_lookup F.pnodup (k := k) ?_ g1, g2.low X low⟩
        have hk : k < ps.length := by rw [← hlen]; exact (List.getElem?_eq_some_iff.mp h2).1
        have h1 : K.ls[k]? = some nm := h1
        rwa [hls, List.getElem?_append_left hk] at h1⟩
    self := fun x' d' e => by cases e
    pv := .of_keeps hk
    gens := rfl
    drawn := rfl
    os := rfl
    tk := Nat.lt_of_lt_of_le tk (Nat.le_add_right _ _)
    chg := fun a ha => by
      obtain ⟨o, xs, k, e, hd⟩ := st.2 a ha
      exact ⟨o, xs, k, hk _ _ e, hd⟩ }
  refine wpAny_mono (sndSs H m body _ _ _ hchk I sp) (fun fl s' z => ?_) fun e s' z => ?_
  · obtain ⟨fl', σ', I', k', hf, q⟩ := z
    have pv : Pv [] (frs l) s.heap s'.heap := fun b o e hb => by
      have hL : b ≠ c.L := fun z => by subst z; rw [hnew] at e; cases e
      exact I'.pv b o e fun h => by
        rcases List.mem_cons.mp h with h | h
        · exact hL h
        · cases h
    have sm : Same s s' := ⟨I'.gens, I'.drawn, I'.os, I'.tk⟩
    cases hf with
    | next => exact ⟨.none, pv, .none, sm, q⟩
    | brk => exact q.elim
    | cont => exact q.elim
    | ret v W rv => exact ⟨W, pv, rv, sm, q⟩
  · obtain ⟨l, nm, e, σ', hv, hl, hN, I', k', q⟩ := z
    exact q.elim
end
end Mine
namespace Mine
open PySem PySem.W PySem.Calls PyProof.Rows
set_option autoImplicit false
set_option maxRecDepth 100000

noncomputable abbrev topBody : List Stmt := PySem.Challenge.pw_fb0053_01.main.body
noncomputable def defOf (n : Str) (l : List Stmt) : Option (List Stmt × Scope × Arguments) := l.findSome? fun st => match st with
  | .FunctionDef m args body _ _ _ scope _ _ _ => if m == n then some (body, scope, args) else none
  | _ => none
noncomputable def clsOf (n : Str) (l : List Stmt) : List Stmt := (l.findSome? fun st => match st with
  | .ClassDef m _ _ body _ _ _ _ _ _ _ => if m == n then some body else none
  | _ => none).getD []
noncomputable def noScope : Scope := ⟨.module, [], false, false, []⟩
noncomputable def bodyOf (n : Str) (l : List Stmt) : List Stmt := ((defOf n l).map (·.1)).getD []
noncomputable def scopeOf (n : Str) (l : List Stmt) : Scope := ((defOf n l).map (·.2.1)).getD noScope
noncomputable abbrev base : List Stmt := clsOf "BaseStemmer" topBody
noncomputable abbrev germ : List Stmt := clsOf "GermanStemmer" topBody

noncomputable def N : Nm where
  meths := ["set_current", "get_current", "in_grouping", "go_in_grouping", "in_grouping_b", "go_out_grouping", "eq_s_b", "find_among", "find_among_b", "replace_s", "slice_from", "slice_del", "r_prelude", "r_mark_regions", "r_postlude", "r_R1", "r_R2", "r_standard_suffix", "_stem", "stemWord"]
  funcs := ["_law_vowels", "_law_closed", "_law_late", "_law_marks", "_law_at", "_law_some", "_law_word"]
  gl := ["_law_sounds", "_law_dots", "_law_families"]
  cats := [("GermanStemmer", "g_v"), ("GermanStemmer", "g_et_ending"), ("GermanStemmer", "g_s_ending"), ("GermanStemmer", "g_st_ending"), ("GermanStemmer", "a_0"), ("GermanStemmer", "a_1"), ("GermanStemmer", "a_2"), ("GermanStemmer", "a_3"), ("GermanStemmer", "a_4"), ("GermanStemmer", "a_5"), ("GermanStemmer", "a_6"), ("GermanStemmer", "a_7")]
  labs := ["lab0", "lab1", "lab2"]

noncomputable def m_init : Ss :=
  (.cons (.expr (.meth 0 (.cons (.str []) .nil)))
  .nil)
noncomputable def K_init : Ck := ⟨N, scopeOf "__init__" base, [], true⟩
theorem c_init : chkSs K_init m_init (bodyOf "__init__" base) = true := by decide +kernel

noncomputable def m_set_current : Ss :=
  (.cons (.asf 0 (.var 0))
  (.cons (.asf 1 (.int 0))
  (.cons (.asf 2 (.len (.fld 0)))
  (.cons (.asf 3 (.int 0))
  (.cons (.asf 4 (.fld 1))
  (.cons (.asf 5 (.fld 2))
  .nil))))))
noncomputable def K_set_current : Ck := ⟨N, scopeOf "set_current" base, ["value"], true⟩
theorem c_set_current : chkSs K_set_current m_set_current (bodyOf "set_current" base) = true := by decide +kernel

noncomputable def m_get_current : Ss :=
  (.cons (.ret (.fld 0))
  .nil)
noncomputable def K_get_current : Ck := ⟨N, scopeOf "get_current" base, [], true⟩
theorem c_get_current : chkSs K_get_current m_get_current (bodyOf "get_current" base) = true := by decide +kernel

noncomputable def m_in_grouping : Ss :=
  (.cons (.iff (.cmp .ge (.fld 1) (.fld 2)) (.cons (.ret (.bool false))
    .nil) .nil)
  (.cons (.iff (.cmp .nin (.idx (.fld 0) (.fld 1)) (.var 0)) (.cons (.ret (.bool false))
    .nil) .nil)
  (.cons (.auf 1 .add (.int 1))
  (.cons (.ret (.bool true))
  .nil))))
noncomputable def K_in_grouping : Ck := ⟨N, scopeOf "in_grouping" base, ["s"], true⟩
theorem c_in_grouping : chkSs K_in_grouping m_in_grouping (bodyOf "in_grouping" base) = true := by decide +kernel

noncomputable def m_go_in_grouping : Ss :=
  (.cons (.whl (.cmp .lt (.fld 1) (.fld 2)) (.cons (.iff (.cmp .nin (.idx (.fld 0) (.fld 1)) (.var 0)) (.cons (.ret (.bool true))
      .nil) .nil)
    (.cons (.auf 1 .add (.int 1))
    .nil)))
  (.cons (.ret (.bool false))
  .nil))
noncomputable def K_go_in_grouping : Ck := ⟨N, scopeOf "go_in_grouping" base, ["s"], true⟩
theorem c_go_in_grouping : chkSs K_go_in_grouping m_go_in_grouping (bodyOf "go_in_grouping" base) = true := by decide +kernel

noncomputable def m_in_grouping_b : Ss :=
  (.cons (.iff (.cmp .le (.fld 1) (.fld 3)) (.cons (.ret (.bool false))
    .nil) .nil)
  (.cons (.iff (.cmp .nin (.idx (.fld 0) (.bin .sub (.fld 1) (.int 1))) (.var 0)) (.cons (.ret (.bool false))
    .nil) .nil)
  (.cons (.auf 1 .sub (.int 1))
  (.cons (.ret (.bool true))
  .nil))))
noncomputable def K_in_grouping_b : Ck := ⟨N, scopeOf "in_grouping_b" base, ["s"], true⟩
theorem c_in_grouping_b : chkSs K_in_grouping_b m_in_grouping_b (bodyOf "in_grouping_b" base) = true := by decide +kernel

noncomputable def m_go_out_grouping : Ss :=
  (.cons (.whl (.cmp .lt (.fld 1) (.fld 2)) (.cons (.iff (.cmp .inn (.idx (.fld 0) (.fld 1)) (.var 0)) (.cons (.ret (.bool true))
      .nil) .nil)
    (.cons (.auf 1 .add (.int 1))
    .nil)))
  (.cons (.ret (.bool false))
  .nil))
noncomputable def K_go_out_grouping : Ck := ⟨N, scopeOf "go_out_grouping" base, ["s"], true⟩
theorem c_go_out_grouping : chkSs K_go_out_grouping m_go_out_grouping (bodyOf "go_out_grouping" base) = true := by decide +kernel

noncomputable def m_eq_s_b : Ss :=
  (.cons (.iff (.e (.ends (.slc (.fld 0) (.fld 3) (.fld 1)) (.var 0))) (.cons (.auf 1 .sub (.len (.var 0)))
    (.cons (.ret (.bool true))
    .nil)) .nil)
  (.cons (.ret (.bool false))
  .nil))
noncomputable def K_eq_s_b : Ck := ⟨N, scopeOf "eq_s_b" base, ["s"], true⟩
theorem c_eq_s_b : chkSs K_eq_s_b m_eq_s_b (bodyOf "eq_s_b" base) = true := by decide +kernel

noncomputable def m_find_among : Ss :=
  (.cons (.asg 1 (.int 0))
  (.cons (.asg 2 (.len (.var 0)))
  (.cons (.asg 3 (.fld 1))
  (.cons (.asg 4 (.fld 2))
  (.cons (.asg 5 (.int 0))
  (.cons (.asg 6 (.int 0))
  (.cons (.asg 7 (.bool false))
  (.cons (.whl (.e (.bool true)) (.cons (.asg 8 (.bin .add (.var 1) (.bin .shr (.bin .sub (.var 2) (.var 1)) (.int 1))))
    (.cons (.asg 9 (.int 0))
    (.cons (.amin 10 (.var 5) (.var 6))
    (.cons (.asg 11 (.idx (.var 0) (.var 8)))
    (.cons (.forR 12 (.cons (.var 10) (.cons (.len (.ama 0 (.var 11))) .nil)) (.cons (.iff (.cmp .eq (.bin .add (.var 3) (.var 10)) (.var 4)) (.cons (.asg 9 (.neg 1))
        (.cons .brk
        .nil)) .nil)
      (.cons (.asg 9 (.bin .sub (.ord (.idx (.fld 0) (.bin .add (.var 3) (.var 10)))) (.ord (.idx (.ama 0 (.var 11)) (.var 12)))))
      (.cons (.iff (.cmp .ne (.var 9) (.int 0)) (.cons .brk
        .nil) .nil)
      (.cons (.aug 10 .add (.int 1))
      .nil)))))
    (.cons (.iff (.cmp .lt (.var 9) (.int 0)) (.cons (.asg 2 (.var 8))
      (.cons (.asg 6 (.var 10))
      .nil)) (.cons (.asg 1 (.var 8))
      (.cons (.asg 5 (.var 10))
      .nil)))
    (.cons (.iff (.cmp .le (.bin .sub (.var 2) (.var 1)) (.int 1)) (.cons (.iff (.cmp .gt (.var 1) (.int 0)) (.cons .brk
        .nil) .nil)
      (.cons (.iff (.cmp .eq (.var 2) (.var 1)) (.cons .brk
        .nil) .nil)
      (.cons (.iff (.e (.var 7)) (.cons .brk
        .nil) .nil)
      (.cons (.asg 7 (.bool true))
      .nil)))) .nil)
    .nil))))))))
  (.cons (.whl (.e (.bool true)) (.cons (.asg 11 (.idx (.var 0) (.var 1)))
    (.cons (.iff (.cmp .ge (.var 5) (.len (.ama 0 (.var 11)))) (.cons (.asf 1 (.bin .add (.var 3) (.len (.ama 0 (.var 11)))))
      (.cons (.ret (.ama 2 (.var 11)))
      .nil)) .nil)
    (.cons (.asg 1 (.ama 1 (.var 11)))
    (.cons (.iff (.cmp .lt (.var 1) (.int 0)) (.cons (.ret (.int 0))
      .nil) .nil)
    .nil)))))
  (.cons (.ret (.neg 1))
  .nil))))))))))
noncomputable def K_find_among : Ck := ⟨N, scopeOf "find_among" base, ["v", "i", "j", "c", "l", "common_i", "common_j", "first_key_inspected", "k", "diff", "common", "w", "i2"], true⟩
theorem c_find_among : chkSs K_find_among m_find_among (bodyOf "find_among" base) = true := by decide +kernel

noncomputable def m_find_among_b : Ss :=
  (.cons (.asg 1 (.int 0))
  (.cons (.asg 2 (.len (.var 0)))
  (.cons (.asg 3 (.fld 1))
  (.cons (.asg 4 (.fld 3))
  (.cons (.asg 5 (.int 0))
  (.cons (.asg 6 (.int 0))
  (.cons (.asg 7 (.bool false))
  (.cons (.whl (.e (.bool true)) (.cons (.asg 8 (.bin .add (.var 1) (.bin .shr (.bin .sub (.var 2) (.var 1)) (.int 1))))
    (.cons (.asg 9 (.int 0))
    (.cons (.amin 10 (.var 5) (.var 6))
    (.cons (.asg 11 (.idx (.var 0) (.var 8)))
    (.cons (.forR 12 (.cons (.bin .sub (.bin .sub (.len (.ama 0 (.var 11))) (.int 1)) (.var 10)) (.cons (.neg 1) (.cons (.neg 1) .nil))) (.cons (.iff (.cmp .eq (.bin .sub (.var 3) (.var 10)) (.var 4)) (.cons (.asg 9 (.neg 1))
        (.cons .brk
        .nil)) .nil)
      (.cons (.asg 9 (.bin .sub (.ord (.idx (.fld 0) (.bin .sub (.bin .sub (.var 3) (.int 1)) (.var 10)))) (.ord (.idx (.ama 0 (.var 11)) (.var 12)))))
      (.cons (.iff (.cmp .ne (.var 9) (.int 0)) (.cons .brk
        .nil) .nil)
      (.cons (.aug 10 .add (.int 1))
      .nil)))))
    (.cons (.iff (.cmp .lt (.var 9) (.int 0)) (.cons (.asg 2 (.var 8))
      (.cons (.asg 6 (.var 10))
      .nil)) (.cons (.asg 1 (.var 8))
      (.cons (.asg 5 (.var 10))
      .nil)))
    (.cons (.iff (.cmp .le (.bin .sub (.var 2) (.var 1)) (.int 1)) (.cons (.iff (.cmp .gt (.var 1) (.int 0)) (.cons .brk
        .nil) .nil)
      (.cons (.iff (.cmp .eq (.var 2) (.var 1)) (.cons .brk
        .nil) .nil)
      (.cons (.iff (.e (.var 7)) (.cons .brk
        .nil) .nil)
      (.cons (.asg 7 (.bool true))
      .nil)))) .nil)
    .nil))))))))
  (.cons (.whl (.e (.bool true)) (.cons (.asg 11 (.idx (.var 0) (.var 1)))
    (.cons (.iff (.cmp .ge (.var 5) (.len (.ama 0 (.var 11)))) (.cons (.asf 1 (.bin .sub (.var 3) (.len (.ama 0 (.var 11)))))
      (.cons (.ret (.ama 2 (.var 11)))
      .nil)) .nil)
    (.cons (.asg 1 (.ama 1 (.var 11)))
    (.cons (.iff (.cmp .lt (.var 1) (.int 0)) (.cons (.ret (.int 0))
      .nil) .nil)
    .nil)))))
  (.cons (.ret (.neg 1))
  .nil))))))))))
noncomputable def K_find_among_b : Ck := ⟨N, scopeOf "find_among_b" base, ["v", "i", "j", "c", "lb", "common_i", "common_j", "first_key_inspected", "k", "diff", "common", "w", "i2"], true⟩
theorem c_find_among_b : chkSs K_find_among_b m_find_among_b (bodyOf "find_among_b" base) = true := by decide +kernel

noncomputable def m_replace_s : Ss :=
  (.cons (.asg 3 (.bin .sub (.len (.var 2)) (.bin .sub (.var 1) (.var 0))))
  (.cons (.asf 0 (.bin .add (.bin .add (.slc (.fld 0) (.int 0) (.var 0)) (.var 2)) (.slf (.fld 0) (.var 1))))
  (.cons (.auf 2 .add (.var 3))
  (.cons (.iff (.cmp .ge (.fld 1) (.var 1)) (.cons (.auf 1 .add (.var 3))
    .nil) (.cons (.iff (.cmp .gt (.fld 1) (.var 0)) (.cons (.asf 1 (.var 0))
      .nil) .nil)
    .nil))
  (.cons (.ret (.var 3))
  .nil)))))
noncomputable def K_replace_s : Ck := ⟨N, scopeOf "replace_s" base, ["c_bra", "c_ket", "s", "adjustment"], true⟩
theorem c_replace_s : chkSs K_replace_s m_replace_s (bodyOf "replace_s" base) = true := by decide +kernel

noncomputable def m_slice_from : Ss :=
  (.cons (.asrt (.cmp .ge (.fld 4) (.int 0)))
  (.cons (.asrt (.cmp .le (.fld 4) (.fld 5)))
  (.cons (.asrt (.cmp .le (.fld 5) (.fld 2)))
  (.cons (.asrt (.cmp .le (.fld 2) (.len (.fld 0))))
  (.cons (.expr (.meth 9 (.cons (.fld 4) (.cons (.fld 5) (.cons (.var 0) .nil)))))
  (.cons (.asf 5 (.bin .add (.fld 4) (.len (.var 0))))
  .nil))))))
noncomputable def K_slice_from : Ck := ⟨N, scopeOf "slice_from" base, ["s"], true⟩
theorem c_slice_from : chkSs K_slice_from m_slice_from (bodyOf "slice_from" base) = true := by decide +kernel

noncomputable def m_slice_del : Ss :=
  (.cons (.ret (.meth 10 (.cons (.str []) .nil)))
  .nil)
noncomputable def K_slice_del : Ck := ⟨N, scopeOf "slice_del" base, [], true⟩
theorem c_slice_del : chkSs K_slice_del m_slice_del (bodyOf "slice_del" base) = true := by decide +kernel

noncomputable def m_stemWord : Ss :=
  (.cons (.expr (.meth 0 (.cons (.var 0) .nil)))
  (.cons (.expr (.meth 18 .nil))
  (.cons (.ret (.meth 1 .nil))
  .nil)))
noncomputable def K_stemWord : Ck := ⟨N, scopeOf "stemWord" base, ["word"], true⟩
theorem c_stemWord : chkSs K_stemWord m_stemWord (bodyOf "stemWord" base) = true := by decide +kernel

noncomputable def m_r_prelude : Ss :=
  (.cons (.asg 0 (.fld 1))
  (.cons (.whl (.e (.bool true)) (.cons (.asg 1 (.fld 1))
    (.cons (.try_ (.cons (.whl (.e (.bool true)) (.cons (.asg 4 (.fld 1))
        (.cons (.try_ (.cons (.iff (.not (.e (.meth 2 (.cons (.cat 0) .nil)))) (.cons (.raise 1)
            .nil) .nil)
          (.cons (.asf 4 (.fld 1))
          (.cons (.whl (.e (.bool true)) (.cons (.asg 5 (.fld 1))
            (.cons (.try_ (.cons (.iff (.bop false (.cons (.cmp .eq (.fld 1) (.fld 2)) (.cons (.cmp .ne (.idx (.fld 0) (.fld 1)) (.str [117])) .nil))) (.cons (.raise 2)
                .nil) .nil)
              (.cons (.auf 1 .add (.int 1))
              (.cons (.asf 5 (.fld 1))
              (.cons (.iff (.not (.e (.meth 2 (.cons (.cat 0) .nil)))) (.cons (.raise 2)
                .nil) .nil)
              (.cons (.expr (.meth 10 (.cons (.str [85]) .nil)))
              (.cons .brk
              .nil)))))) 2)
            (.cons (.asf 1 (.var 5))
            (.cons (.iff (.bop false (.cons (.cmp .eq (.fld 1) (.fld 2)) (.cons (.cmp .ne (.idx (.fld 0) (.fld 1)) (.str [121])) .nil))) (.cons (.raise 1)
              .nil) .nil)
            (.cons (.auf 1 .add (.int 1))
            (.cons (.asf 5 (.fld 1))
            (.cons (.iff (.not (.e (.meth 2 (.cons (.cat 0) .nil)))) (.cons (.raise 1)
              .nil) .nil)
            (.cons (.expr (.meth 10 (.cons (.str [89]) .nil)))
            (.cons .brk
            .nil))))))))))
          (.cons (.asf 1 (.var 4))
          (.cons .brk
          .nil))))) 1)
        (.cons (.asf 1 (.var 4))
        (.cons (.iff (.cmp .ge (.fld 1) (.fld 2)) (.cons (.raise 0)
          .nil) .nil)
        (.cons (.auf 1 .add (.int 1))
        .nil))))))
      (.cons .cont
      .nil)) 0)
    (.cons (.asf 1 (.var 1))
    (.cons .brk
    .nil)))))
  (.cons (.asf 1 (.var 0))
  (.cons (.whl (.e (.bool true)) (.cons (.asg 2 (.fld 1))
    (.cons (.try_ (.cons (.asf 4 (.fld 1))
      (.cons (.asg 3 (.meth 7 (.cons (.cat 4) .nil)))
      (.cons (.asf 5 (.fld 1))
      (.cons (.iff (.cmp .eq (.var 3) (.int 1)) (.cons (.expr (.meth 10 (.cons (.str [115, 115]) .nil)))
        .nil) (.cons (.iff (.cmp .eq (.var 3) (.int 2)) (.cons (.expr (.meth 10 (.cons (.str [228]) .nil)))
          .nil) (.cons (.iff (.cmp .eq (.var 3) (.int 3)) (.cons (.expr (.meth 10 (.cons (.str [246]) .nil)))
            .nil) (.cons (.iff (.cmp .eq (.var 3) (.int 4)) (.cons (.expr (.meth 10 (.cons (.str [252]) .nil)))
              .nil) (.cons (.iff (.cmp .eq (.var 3) (.int 5)) (.cons (.iff (.cmp .ge (.fld 1) (.fld 2)) (.cons (.raise 0)
                  .nil) .nil)
                (.cons (.auf 1 .add (.int 1))
                .nil)) .nil)
              .nil))
            .nil))
          .nil))
        .nil))
      (.cons .cont
      .nil))))) 0)
    (.cons (.asf 1 (.var 2))
    (.cons .brk
    .nil)))))
  (.cons (.ret (.bool true))
  .nil)))))
noncomputable def K_r_prelude : Ck := ⟨N, scopeOf "r_prelude" germ, ["v_1", "v_2", "v_5", "among_var", "v_3", "v_4"], true⟩
theorem c_r_prelude : chkSs K_r_prelude m_r_prelude (bodyOf "r_prelude" germ) = true := by decide +kernel

noncomputable def m_r_mark_regions : Ss :=
  (.cons (.asf 6 (.fld 2))
  (.cons (.asf 7 (.fld 2))
  (.cons (.asg 0 (.fld 1))
  (.cons (.iff (.cmp .gt (.bin .add (.fld 1) (.int 3)) (.fld 2)) (.cons (.ret (.bool false))
    .nil) .nil)
  (.cons (.auf 1 .add (.int 3))
  (.cons (.asg 1 (.fld 1))
  (.cons (.asf 1 (.var 0))
  (.cons (.iff (.not (.e (.meth 5 (.cons (.cat 0) .nil)))) (.cons (.ret (.bool false))
    .nil) .nil)
  (.cons (.auf 1 .add (.int 1))
  (.cons (.iff (.not (.e (.meth 3 (.cons (.cat 0) .nil)))) (.cons (.ret (.bool false))
    .nil) .nil)
  (.cons (.auf 1 .add (.int 1))
  (.cons (.asf 6 (.fld 1))
  (.cons (.try_ (.cons (.iff (.cmp .ge (.fld 6) (.var 1)) (.cons (.raise 0)
      .nil) .nil)
    (.cons (.asf 6 (.var 1))
    .nil)) 0)
  (.cons (.iff (.not (.e (.meth 5 (.cons (.cat 0) .nil)))) (.cons (.ret (.bool false))
    .nil) .nil)
  (.cons (.auf 1 .add (.int 1))
  (.cons (.iff (.not (.e (.meth 3 (.cons (.cat 0) .nil)))) (.cons (.ret (.bool false))
    .nil) .nil)
  (.cons (.auf 1 .add (.int 1))
  (.cons (.asf 7 (.fld 1))
  (.cons (.ret (.bool true))
  .nil)))))))))))))))))))
noncomputable def K_r_mark_regions : Ck := ⟨N, scopeOf "r_mark_regions" germ, ["v_1", "I_x"], true⟩
theorem c_r_mark_regions : chkSs K_r_mark_regions m_r_mark_regions (bodyOf "r_mark_regions" germ) = true := by decide +kernel

noncomputable def m_r_postlude : Ss :=
  (.cons (.whl (.e (.bool true)) (.cons (.asg 0 (.fld 1))
    (.cons (.try_ (.cons (.asf 4 (.fld 1))
      (.cons (.asg 1 (.meth 7 (.cons (.cat 5) .nil)))
      (.cons (.asf 5 (.fld 1))
      (.cons (.iff (.cmp .eq (.var 1) (.int 1)) (.cons (.expr (.meth 10 (.cons (.str [121]) .nil)))
        .nil) (.cons (.iff (.cmp .eq (.var 1) (.int 2)) (.cons (.expr (.meth 10 (.cons (.str [117]) .nil)))
          .nil) (.cons (.iff (.cmp .eq (.var 1) (.int 3)) (.cons (.expr (.meth 10 (.cons (.str [97]) .nil)))
            .nil) (.cons (.iff (.cmp .eq (.var 1) (.int 4)) (.cons (.expr (.meth 10 (.cons (.str [111]) .nil)))
              .nil) (.cons (.iff (.cmp .ge (.fld 1) (.fld 2)) (.cons (.raise 0)
                .nil) .nil)
              (.cons (.auf 1 .add (.int 1))
              .nil)))
            .nil))
          .nil))
        .nil))
      (.cons .cont
      .nil))))) 0)
    (.cons (.asf 1 (.var 0))
    (.cons .brk
    .nil)))))
  (.cons (.ret (.bool true))
  .nil))
noncomputable def K_r_postlude : Ck := ⟨N, scopeOf "r_postlude" germ, ["v_1", "among_var"], true⟩
theorem c_r_postlude : chkSs K_r_postlude m_r_postlude (bodyOf "r_postlude" germ) = true := by decide +kernel

noncomputable def m_r_R1 : Ss :=
  (.cons (.ret (.cmp .le (.fld 6) (.fld 1)))
  .nil)
noncomputable def K_r_R1 : Ck := ⟨N, scopeOf "r_R1" germ, [], true⟩
theorem c_r_R1 : chkSs K_r_R1 m_r_R1 (bodyOf "r_R1" germ) = true := by decide +kernel

noncomputable def m_r_R2 : Ss :=
  (.cons (.ret (.cmp .le (.fld 7) (.fld 1)))
  .nil)
noncomputable def K_r_R2 : Ck := ⟨N, scopeOf "r_R2" germ, [], true⟩
theorem c_r_R2 : chkSs K_r_R2 m_r_R2 (bodyOf "r_R2" germ) = true := by decide +kernel

noncomputable def m_r_standard_suffix : Ss :=
  (.cons (.asg 0 (.bin .sub (.fld 2) (.fld 1)))
  (.cons (.try_ (.cons (.asf 5 (.fld 1))
    (.cons (.asg 4 (.meth 8 (.cons (.cat 6) .nil)))
    (.cons (.iff (.cmp .eq (.var 4) (.int 0)) (.cons (.raise 0)
      .nil) .nil)
    (.cons (.asf 4 (.fld 1))
    (.cons (.iff (.not (.e (.meth 15 .nil))) (.cons (.raise 0)
      .nil) .nil)
    (.cons (.iff (.cmp .eq (.var 4) (.int 1)) (.cons (.try_ (.cons (.iff (.not (.e (.meth 6 (.cons (.str [115, 121, 115, 116]) .nil)))) (.cons (.raise 1)
          .nil) .nil)
        (.cons (.raise 0)
        .nil)) 1)
      (.cons (.expr (.meth 11 .nil))
      .nil)) (.cons (.iff (.cmp .eq (.var 4) (.int 2)) (.cons (.expr (.meth 11 .nil))
        .nil) (.cons (.iff (.cmp .eq (.var 4) (.int 3)) (.cons (.expr (.meth 11 .nil))
          (.cons (.asg 8 (.bin .sub (.fld 2) (.fld 1)))
          (.cons (.try_ (.cons (.asf 5 (.fld 1))
            (.cons (.iff (.bop false (.cons (.cmp .le (.fld 1) (.fld 3)) (.cons (.cmp .ne (.idx (.fld 0) (.bin .sub (.fld 1) (.int 1))) (.str [115])) .nil))) (.cons (.asf 1 (.bin .sub (.fld 2) (.var 8)))
              (.cons (.raise 1)
              .nil)) .nil)
            (.cons (.auf 1 .sub (.int 1))
            (.cons (.asf 4 (.fld 1))
            (.cons (.iff (.not (.e (.meth 6 (.cons (.str [110, 105, 115]) .nil)))) (.cons (.asf 1 (.bin .sub (.fld 2) (.var 8)))
              (.cons (.raise 1)
              .nil)) .nil)
            (.cons (.expr (.meth 11 .nil))
            .nil)))))) 1)
          .nil))) (.cons (.iff (.cmp .eq (.var 4) (.int 4)) (.cons (.iff (.not (.e (.meth 4 (.cons (.cat 2) .nil)))) (.cons (.raise 0)
              .nil) .nil)
            (.cons (.expr (.meth 11 .nil))
            .nil)) (.cons (.expr (.meth 10 (.cons (.str [108]) .nil)))
            .nil))
          .nil))
        .nil))
      .nil))
    .nil)))))) 0)
  (.cons (.asf 1 (.bin .sub (.fld 2) (.var 0)))
  (.cons (.asg 1 (.bin .sub (.fld 2) (.fld 1)))
  (.cons (.try_ (.cons (.asf 5 (.fld 1))
    (.cons (.asg 4 (.meth 8 (.cons (.cat 8) .nil)))
    (.cons (.iff (.cmp .eq (.var 4) (.int 0)) (.cons (.raise 0)
      .nil) .nil)
    (.cons (.asf 4 (.fld 1))
    (.cons (.iff (.not (.e (.meth 15 .nil))) (.cons (.raise 0)
      .nil) .nil)
    (.cons (.iff (.cmp .eq (.var 4) (.int 1)) (.cons (.expr (.meth 11 .nil))
      .nil) (.cons (.iff (.cmp .eq (.var 4) (.int 2)) (.cons (.iff (.not (.e (.meth 4 (.cons (.cat 3) .nil)))) (.cons (.raise 0)
          .nil) .nil)
        (.cons (.iff (.cmp .lt (.bin .sub (.fld 1) (.int 3)) (.fld 3)) (.cons (.raise 0)
          .nil) .nil)
        (.cons (.auf 1 .sub (.int 3))
        (.cons (.expr (.meth 11 .nil))
        .nil)))) (.cons (.asg 6 (.bin .sub (.fld 2) (.fld 1)))
        (.cons (.iff (.not (.e (.meth 4 (.cons (.cat 1) .nil)))) (.cons (.raise 0)
          .nil) .nil)
        (.cons (.asf 1 (.bin .sub (.fld 2) (.var 6)))
        (.cons (.asg 7 (.bin .sub (.fld 2) (.fld 1)))
        (.cons (.try_ (.cons (.iff (.cmp .eq (.meth 8 (.cons (.cat 7) .nil)) (.int 0)) (.cons (.raise 1)
            .nil) .nil)
          (.cons (.raise 0)
          .nil)) 1)
        (.cons (.asf 1 (.bin .sub (.fld 2) (.var 7)))
        (.cons (.expr (.meth 11 .nil))
        .nil))))))))
      .nil))
    .nil)))))) 0)
  (.cons (.asf 1 (.bin .sub (.fld 2) (.var 1)))
  (.cons (.asg 2 (.bin .sub (.fld 2) (.fld 1)))
  (.cons (.try_ (.cons (.asf 5 (.fld 1))
    (.cons (.asg 4 (.meth 8 (.cons (.cat 10) .nil)))
    (.cons (.iff (.cmp .eq (.var 4) (.int 0)) (.cons (.raise 0)
      .nil) .nil)
    (.cons (.asf 4 (.fld 1))
    (.cons (.iff (.not (.e (.meth 16 .nil))) (.cons (.raise 0)
      .nil) .nil)
    (.cons (.iff (.cmp .eq (.var 4) (.int 1)) (.cons (.expr (.meth 11 .nil))
      (.cons (.asg 5 (.bin .sub (.fld 2) (.fld 1)))
      (.cons (.try_ (.cons (.asf 5 (.fld 1))
        (.cons (.iff (.not (.e (.meth 6 (.cons (.str [105, 103]) .nil)))) (.cons (.asf 1 (.bin .sub (.fld 2) (.var 5)))
          (.cons (.raise 1)
          .nil)) .nil)
        (.cons (.asf 4 (.fld 1))
        (.cons (.try_ (.cons (.iff (.bop false (.cons (.cmp .le (.fld 1) (.fld 3)) (.cons (.cmp .ne (.idx (.fld 0) (.bin .sub (.fld 1) (.int 1))) (.str [101])) .nil))) (.cons (.raise 2)
            .nil) .nil)
          (.cons (.auf 1 .sub (.int 1))
          (.cons (.asf 1 (.bin .sub (.fld 2) (.var 5)))
          (.cons (.raise 1)
          .nil)))) 2)
        (.cons (.iff (.not (.e (.meth 16 .nil))) (.cons (.asf 1 (.bin .sub (.fld 2) (.var 5)))
          (.cons (.raise 1)
          .nil)) .nil)
        (.cons (.expr (.meth 11 .nil))
        .nil)))))) 1)
      .nil))) (.cons (.iff (.cmp .eq (.var 4) (.int 2)) (.cons (.try_ (.cons (.iff (.bop false (.cons (.cmp .le (.fld 1) (.fld 3)) (.cons (.cmp .ne (.idx (.fld 0) (.bin .sub (.fld 1) (.int 1))) (.str [101])) .nil))) (.cons (.raise 1)
            .nil) .nil)
          (.cons (.auf 1 .sub (.int 1))
          (.cons (.raise 0)
          .nil))) 1)
        (.cons (.expr (.meth 11 .nil))
        .nil)) (.cons (.iff (.cmp .eq (.var 4) (.int 3)) (.cons (.expr (.meth 11 .nil))
          (.cons (.asg 9 (.bin .sub (.fld 2) (.fld 1)))
          (.cons (.try_ (.cons (.asf 5 (.fld 1))
            (.cons (.whl (.e (.bool true)) (.cons (.try_ (.cons (.iff (.not (.e (.meth 6 (.cons (.str [101, 114]) .nil)))) (.cons (.raise 2)
                  .nil) .nil)
                (.cons .brk
                .nil)) 2)
              (.cons (.iff (.not (.e (.meth 6 (.cons (.str [101, 110]) .nil)))) (.cons (.asf 1 (.bin .sub (.fld 2) (.var 9)))
                (.cons (.raise 1)
                .nil)) .nil)
              (.cons .brk
              .nil))))
            (.cons (.asf 4 (.fld 1))
            (.cons (.iff (.not (.e (.meth 15 .nil))) (.cons (.asf 1 (.bin .sub (.fld 2) (.var 9)))
              (.cons (.raise 1)
              .nil)) .nil)
            (.cons (.expr (.meth 11 .nil))
            .nil))))) 1)
          .nil))) (.cons (.expr (.meth 11 .nil))
          (.cons (.asg 10 (.bin .sub (.fld 2) (.fld 1)))
          (.cons (.try_ (.cons (.asf 5 (.fld 1))
            (.cons (.iff (.cmp .eq (.meth 8 (.cons (.cat 9) .nil)) (.int 0)) (.cons (.asf 1 (.bin .sub (.fld 2) (.var 10)))
              (.cons (.raise 1)
              .nil)) .nil)
            (.cons (.asf 4 (.fld 1))
            (.cons (.iff (.not (.e (.meth 16 .nil))) (.cons (.asf 1 (.bin .sub (.fld 2) (.var 10)))
              (.cons (.raise 1)
              .nil)) .nil)
            (.cons (.expr (.meth 11 .nil))
            .nil))))) 1)
          .nil))))
        .nil))
      .nil))
    .nil)))))) 0)
  (.cons (.asf 1 (.bin .sub (.fld 2) (.var 2)))
  (.cons (.asg 3 (.bin .sub (.fld 2) (.fld 1)))
  (.cons (.try_ (.cons (.asf 5 (.fld 1))
    (.cons (.iff (.cmp .eq (.meth 8 (.cons (.cat 11) .nil)) (.int 0)) (.cons (.raise 0)
      .nil) .nil)
    (.cons (.asf 4 (.fld 1))
    (.cons (.iff (.cmp .le (.fld 1) (.fld 3)) (.cons (.raise 0)
      .nil) .nil)
    (.cons (.auf 1 .sub (.int 1))
    (.cons (.iff (.cmp .le (.fld 1) (.fld 3)) (.cons (.raise 0)
      .nil) .nil)
    (.cons (.expr (.meth 11 .nil))
    .nil))))))) 0)
  (.cons (.asf 1 (.bin .sub (.fld 2) (.var 3)))
  (.cons (.ret (.bool true))
  .nil)))))))))))))
noncomputable def K_r_standard_suffix : Ck := ⟨N, scopeOf "r_standard_suffix" germ, ["v_1", "v_3", "v_6", "v_10", "among_var", "v_7", "v_4", "v_5", "v_2", "v_8", "v_9"], true⟩
theorem c_r_standard_suffix : chkSs K_r_standard_suffix m_r_standard_suffix (bodyOf "r_standard_suffix" germ) = true := by decide +kernel

noncomputable def m_stem : Ss :=
  (.cons (.asg 0 (.fld 1))
  (.cons (.expr (.meth 12 .nil))
  (.cons (.asf 1 (.var 0))
  (.cons (.asg 1 (.fld 1))
  (.cons (.expr (.meth 13 .nil))
  (.cons (.asf 1 (.var 1))
  (.cons (.asf 3 (.fld 1))
  (.cons (.asf 1 (.fld 2))
  (.cons (.expr (.meth 17 .nil))
  (.cons (.asf 1 (.fld 3))
  (.cons (.asg 2 (.fld 1))
  (.cons (.expr (.meth 14 .nil))
  (.cons (.asf 1 (.var 2))
  (.cons (.ret (.bool true))
  .nil))))))))))))))
noncomputable def K_stem : Ck := ⟨N, scopeOf "_stem" germ, ["v_1", "v_2", "v_3"], true⟩
theorem c_stem : chkSs K_stem m_stem (bodyOf "_stem" germ) = true := by decide +kernel

noncomputable def m_law_vowels : Ss :=
  (.cons (.ret (.lst (.cons (.tup (.cons (.str [97]) (.cons (.str [97]) .nil))) (.cons (.tup (.cons (.str [101]) (.cons (.str [101]) .nil))) (.cons (.tup (.cons (.str [105]) (.cons (.str [105]) .nil))) (.cons (.tup (.cons (.str [111]) (.cons (.str [111]) .nil))) (.cons (.tup (.cons (.str [117]) (.cons (.str [117]) .nil))) (.cons (.tup (.cons (.str [121]) (.cons (.str [121]) .nil))) (.cons (.tup (.cons (.str [228]) (.cons (.str [97]) .nil))) (.cons (.tup (.cons (.str [246]) (.cons (.str [111]) .nil))) (.cons (.tup (.cons (.str [252]) (.cons (.str [117]) .nil))) (.cons (.tup (.cons (.str [97, 97]) (.cons (.str [97, 97]) .nil))) (.cons (.tup (.cons (.str [101, 101]) (.cons (.str [101, 101]) .nil))) (.cons (.tup (.cons (.str [111, 111]) (.cons (.str [111, 111]) .nil))) (.cons (.tup (.cons (.str [97, 105]) (.cons (.str [97, 105]) .nil))) (.cons (.tup (.cons (.str [97, 117]) (.cons (.str [97, 117]) .nil))) (.cons (.tup (.cons (.str [101, 105]) (.cons (.str [101, 105]) .nil))) (.cons (.tup (.cons (.str [101, 117]) (.cons (.str [101, 117]) .nil))) (.cons (.tup (.cons (.str [105, 101]) (.cons (.str [105, 101]) .nil))) (.cons (.tup (.cons (.str [228, 117]) (.cons (.str [97, 117]) .nil))) (.cons (.tup (.cons (.str [97, 101]) (.cons (.str [97]) .nil))) (.cons (.tup (.cons (.str [111, 101]) (.cons (.str [111]) .nil))) (.cons (.tup (.cons (.str [117, 101]) (.cons (.str [117]) .nil))) .nil)))))))))))))))))))))))
  .nil)
noncomputable def K_law_vowels : Ck := ⟨N, scopeOf "_law_vowels" topBody, [], false⟩
theorem c_law_vowels : chkSs K_law_vowels m_law_vowels (bodyOf "_law_vowels" topBody) = true := by decide +kernel

noncomputable def m_law_closed : Ss :=
  (.cons (.ret (.lst (.cons (.str [101, 109]) (.cons (.str [101, 110]) (.cons (.str [101, 114]) (.cons (.str [101, 114, 110]) (.cons (.str [101, 115]) (.cons (.str [105, 115]) (.cons (.str [101, 116]) (.cons (.str [115, 116]) (.cons (.str [101, 110, 100]) (.cons (.str [105, 103]) (.cons (.str [117, 110, 103]) (.cons (.str [108, 105, 99, 104]) (.cons (.str [105, 115, 99, 104]) (.cons (.str [105, 107]) (.cons (.str [104, 101, 105, 116]) (.cons (.str [107, 101, 105, 116]) (.cons (.str [101, 114, 105, 110]) (.cons (.str [101, 114, 105, 110, 110]) (.cons (.str [108, 110]) (.cons (.str [110, 105, 223]) (.cons (.str [110, 105, 115, 115]) (.cons (.str [98, 115]) (.cons (.str [100, 115]) (.cons (.str [102, 115]) (.cons (.str [103, 115]) (.cons (.str [104, 115]) (.cons (.str [107, 115]) (.cons (.str [108, 115]) (.cons (.str [109, 115]) (.cons (.str [110, 115]) (.cons (.str [114, 115]) (.cons (.str [116, 115]) .nil))))))))))))))))))))))))))))))))))
  .nil)
noncomputable def K_law_closed : Ck := ⟨N, scopeOf "_law_closed" topBody, [], false⟩
theorem c_law_closed : chkSs K_law_closed m_law_closed (bodyOf "_law_closed" topBody) = true := by decide +kernel

noncomputable def m_law_late : Ss :=
  (.cons (.ret (.lst (.cons (.str [101, 114]) (.cons (.str [101, 110]) (.cons (.str [101]) (.cons (.str [101, 115]) (.cons (.str [115]) (.cons (.str [117, 110, 103]) (.cons (.str [105, 103]) (.cons (.str [108, 105, 99, 104]) (.cons (.str [105, 115, 99, 104]) (.cons (.str [101, 110, 100]) (.cons (.str [104, 101, 105, 116]) (.cons (.str [107, 101, 105, 116]) (.cons (.str [101, 114, 105, 110]) (.cons (.str [105, 107]) .nil))))))))))))))))
  .nil)
noncomputable def K_law_late : Ck := ⟨N, scopeOf "_law_late" topBody, [], false⟩
theorem c_law_late : chkSs K_law_late m_law_late (bodyOf "_law_late" topBody) = true := by decide +kernel

noncomputable def m_law_marks : Ss :=
  (.cons (.ret (.lst (.cons (.str [39]) (.cons (.str [39, 115]) (.cons (.str [39, 115, 99, 104]) .nil)))))
  .nil)
noncomputable def K_law_marks : Ck := ⟨N, scopeOf "_law_marks" topBody, [], false⟩
theorem c_law_marks : chkSs K_law_marks m_law_marks (bodyOf "_law_marks" topBody) = true := by decide +kernel

noncomputable def m_law_at : Ss :=
  (.cons (.iff (.cmp .lt (.var 1) (.len (.var 0))) (.cons (.ret (.bin .add (.idx (.var 0) (.var 1)) (.bin .mul (.int 37) (.var 1))))
    .nil) .nil)
  (.cons (.ret (.bin .mul (.int 37) (.var 1)))
  .nil))
noncomputable def K_law_at : Ck := ⟨N, scopeOf "_law_at" topBody, ["script", "i"], false⟩
theorem c_law_at : chkSs K_law_at m_law_at (bodyOf "_law_at" topBody) = true := by decide +kernel

noncomputable def m_law_some : Ss :=
  (.cons (.asg 2 (.idx (.glob 0) (.bin .mod (.var 0) (.int 20))))
  (.cons (.asg 0 (.bin .fdiv (.var 0) (.int 20)))
  (.cons (.asg 3 (.bin .mod (.var 0) (.var 1)))
  (.cons (.asg 0 (.bin .fdiv (.var 0) (.var 1)))
  (.cons (.forR 4 (.cons (.var 3) .nil) (.cons (.asg 2 (.bin .add (.var 2) (.idx (.glob 0) (.bin .mod (.var 0) (.int 20)))))
    (.cons (.asg 0 (.bin .fdiv (.var 0) (.int 20)))
    .nil)))
  (.cons (.ret (.var 2))
  .nil))))))
noncomputable def K_law_some : Ck := ⟨N, scopeOf "_law_some" topBody, ["n", "most", "some", "more", "i"], false⟩
theorem c_law_some : chkSs K_law_some m_law_some (bodyOf "_law_some" topBody) = true := by decide +kernel

noncomputable def m_law_word : Ss :=
  (.cons (.ast [12, 13] (.var 2))
  (.cons (.iff (.cmp .inn (.var 12) (.glob 1)) (.cons (.asg 12 (.idx (.idx (.glob 1) (.var 12)) (.bin .mod (.var 7) (.int 3))))
    .nil) .nil)
  (.cons (.iff (.cmp .eq (.var 4) (.int 0)) (.cons (.asg 12 (.str []))
    (.cons (.asg 13 (.str []))
    .nil)) .nil)
  (.cons (.asg 8 (.bin .add (.bin .add (.var 0) (.var 12)) (.var 3)))
  (.cons (.asg 9 (.bin .add (.bin .add (.var 1) (.var 13)) (.repl (.var 3) [223] [115, 115])))
  (.cons (.asg 10 (.bin .mod (.var 5) (.int 35)))
  (.cons (.iff (.cmp .eq (.var 10) (.int 34)) (.cons (.asg 14 (.idx (.call 2 .nil) (.bin .mod (.var 6) (.int 14))))
    (.cons (.ret (.tup (.cons (.bin .add (.bin .add (.var 8) (.var 14)) (.idx (.call 3 .nil) (.bin .mod (.bin .fdiv (.var 6) (.int 14)) (.int 3)))) (.cons (.bin .add (.var 9) (.var 14)) .nil))))
    .nil)) .nil)
  (.cons (.ast [15, 16, 17] (.idx (.glob 2) (.var 10)))
  (.cons (.ast [14, 18] (.idx (.var 17) (.bin .mod (.var 6) (.len (.var 17)))))
  (.cons (.iff (.cmp .eq (.var 4) (.int 0)) (.cons (.ret (.tup (.cons (.bin .add (.var 8) (.var 14)) (.cons (.bin .add (.var 9) (.var 18)) .nil))))
    .nil) .nil)
  (.cons (.iff (.bop true (.cons (.cmp .eq (.var 14) (.str [116, 101, 109])) (.cons (.e (.ends (.var 9) (.str [115, 121, 115]))) .nil))) (.cons (.ret (.tup (.cons (.bin .add (.var 8) (.var 14)) (.cons (.bin .add (.var 9) (.var 14)) .nil))))
    .nil) .nil)
  (.cons (.asg 11 (.bool false))
  (.cons (.iff (.cmp .eq (.var 10) (.int 0)) (.cons (.asg 11 (.cmp .inn (.idx (.var 9) (.neg 1)) (.str [98, 100, 102, 103, 104, 107, 108, 109, 110, 114, 116])))
    .nil) .nil)
  (.cons (.iff (.cmp .eq (.var 10) (.int 1)) (.cons (.asg 11 (.bop true (.cons (.cmp .inn (.idx (.var 9) (.neg 1)) (.str [98, 100, 102, 103, 104, 107, 108, 109, 110, 116])) (.cons (.cmp .ge (.len (.var 9)) (.int 4)) .nil))))
    .nil) .nil)
  (.cons (.iff (.cmp .eq (.var 10) (.int 2)) (.cons (.asg 11 (.bop true (.cons (.cmp .inn (.idx (.var 9) (.neg 1)) (.str [100, 102, 103, 107, 108, 109, 110, 114, 115, 116, 122])) (.cons (.not (.bop false (.cons (.ends (.var 8) (.str [116, 105, 99, 107])) (.cons (.ends (.var 8) (.str [112, 108, 97, 110])) (.cons (.ends (.var 8) (.str [116, 114])) .nil))))) .nil))))
    .nil) .nil)
  (.cons (.iff (.e (.var 11)) (.cons (.ret (.tup (.cons (.bin .add (.var 8) (.var 14)) (.cons (.var 9) .nil))))
    .nil) .nil)
  (.cons (.iff (.cmp .eq (.var 4) (.int 1)) (.cons (.ret (.tup (.cons (.bin .add (.var 8) (.var 14)) (.cons (.bin .add (.var 9) (.var 16)) .nil))))
    .nil) .nil)
  (.cons (.ret (.tup (.cons (.bin .add (.var 8) (.var 14)) (.cons (.bin .add (.var 9) (.var 15)) .nil))))
  .nil))))))))))))))))))
noncomputable def K_law_word : Ck := ⟨N, scopeOf "_law_word" topBody, ["front", "told", "vowel", "close", "depth", "x", "y", "z", "root", "stem", "family", "falls", "last", "plain", "ending", "deep", "low", "forms", "none"], false⟩
theorem c_law_word : chkSs K_law_word m_law_word (bodyOf "_law_word" topBody) = true := by decide +kernel

noncomputable def m_law : Ss :=
  (.cons (.asg 1 (.call 5 (.cons (.call 4 (.cons (.var 0) (.cons (.int 0) .nil))) (.cons (.int 2) .nil))))
  (.cons (.asg 2 (.repl (.var 1) [223] [115, 115]))
  (.cons (.asg 3 (.var 1))
  (.cons (.asg 4 (.bin .add (.int 1) (.bin .mod (.call 4 (.cons (.var 0) (.cons (.int 1) .nil))) (.int 3))))
  (.cons (.asg 5 (.idx (.call 0 .nil) (.bin .mod (.call 4 (.cons (.var 0) (.cons (.int 2) .nil))) (.int 21))))
  (.cons (.asg 6 (.call 5 (.cons (.call 4 (.cons (.var 0) (.cons (.int 3) .nil))) (.cons (.int 3) .nil))))
  (.cons (.forR 7 (.cons (.int 1) (.cons (.var 4) .nil)) (.cons (.asg 1 (.bin .add (.bin .add (.var 1) (.idx (.var 5) (.int 0))) (.var 6)))
    (.cons (.asg 2 (.bin .add (.bin .add (.var 2) (.idx (.var 5) (.int 1))) (.repl (.var 6) [223] [115, 115])))
    (.cons (.asg 3 (.bin .add (.var 3) (.var 6)))
    (.cons (.asg 5 (.idx (.call 0 .nil) (.bin .mod (.call 4 (.cons (.var 0) (.cons (.bin .add (.int 2) (.bin .mul (.int 2) (.var 7))) .nil))) (.int 21))))
    (.cons (.asg 6 (.call 5 (.cons (.call 4 (.cons (.var 0) (.cons (.bin .add (.int 3) (.bin .mul (.int 2) (.var 7))) .nil))) (.cons (.int 3) .nil))))
    .nil))))))
  (.cons (.amin 8 (.var 4) (.int 2))
  (.cons (.asg 9 (.bin .add (.bin .add (.var 1) (.idx (.var 5) (.int 0))) (.var 6)))
  (.cons (.asg 10 (.str []))
  (.cons (.forL 11 (.call 1 .nil) (.cons (.iff (.e (.ends (.var 9) (.var 11))) (.cons (.asg 10 (.str [98]))
      .nil) .nil)
    .nil))
  (.cons (.asg 6 (.bin .add (.var 6) (.var 10)))
  (.cons (.iff (.cmp .eq (.bin .mod (.call 4 (.cons (.var 0) (.cons (.int 8) .nil))) (.int 5)) (.int 4)) (.cons (.asg 8 (.int 0))
    (.cons (.asg 1 (.var 3))
    (.cons (.asg 2 (.repl (.var 3) [223] [115, 115]))
    .nil))) .nil)
  .nil)))))))))))))
noncomputable def K_law : Ck := ⟨N, scopeOf "law" topBody, ["script", "front", "told", "bare", "count", "vowel", "close", "i", "depth", "whole", "more", "end", "words", "stems", "word", "stem"], false⟩
theorem c_law : chkSs K_law m_law ((bodyOf "law" topBody).take 13) = true := by decide +kernel

end Mine
namespace Mine
open PySem PySem.W PySem.Calls PyProof.Rows
set_option autoImplicit false
set_option maxRecDepth 100000

/-! the transformers grow with their posts -/
structure Env'.Mono (Γ : Env') : Prop where
  meth : ∀ f vs F (Q Q' : V → List (Option V) → Prop), (∀ v F, Q v F → Q' v F) → Γ.meth f vs F Q → Γ.meth f vs F Q'
  func : ∀ f vs (Q Q' : V → Prop), (∀ v, Q v → Q' v) → Γ.func f vs Q → Γ.func f vs Q'

theorem getv_mono {l : List (Option V)} {k : Nat} {Q Q' : V → Prop} (h : ∀ v, Q v → Q' v) (q : getv l k Q) : getv l k Q' := by
  obtain ⟨v, e, q⟩ := getv_some q
  unfold getv
  rw [e]
  exact h v q
theorem op2_mono {op : Op2} {a b : V} {Q Q' : V → Prop} (h : ∀ v, Q v → Q' v) (q : op2 op a b Q) : op2 op a b Q' := by
  unfold op2 at q ⊢
  split at q <;> first | exact h _ q | exact ⟨q.1, h _ q.2⟩ | exact q.elim
theorem op2i_mono {op : Op2} {a b : V} {Q Q' : V → Prop} (h : ∀ v, Q v → Q' v) (q : op2i op a b Q) : op2i op a b Q' := by
  unfold op2i at q ⊢
  split at q <;> first | exact h _ q | exact q.elim
theorem cm_mono {op : Cm} {a b : V} {Q Q' : Bool → Prop} (h : ∀ v, Q v → Q' v) (q : cm op a b Q) : cm op a b Q' := by
  unfold cm at q ⊢
  split at q <;> first | exact h _ q | exact q.elim
theorem item_mono {a b : V} {Q Q' : V → Prop} (h : ∀ v, Q v → Q' v) (q : item a b Q) : item a b Q' := by
  unfold item at q ⊢
  split at q
  · split at q
    · rename_i h0; rw [if_pos h0]
      obtain ⟨c, h1, h2, h3⟩ := q; exact ⟨c, h1, h2, h _ h3⟩
    · rename_i h0; rw [if_neg h0]
      obtain ⟨c, h1, h2, h3, h4⟩ := q; exact ⟨c, h1, h2, h3, h _ h4⟩
  · obtain ⟨v, h1, h2, h3, h4⟩ := q; exact ⟨v, h1, h2, h3, h _ h4⟩
  · obtain ⟨v, h1, h2, h3, h4⟩ := q; exact ⟨v, h1, h2, h3, h _ h4⟩
  · obtain ⟨v, h1, h2⟩ := q; exact ⟨v, h1, h _ h2⟩
  · exact q.elim
theorem ama_mono {k : Nat} {a : V} {Q Q' : V → Prop} (h : ∀ v, Q v → Q' v) (q : amaOf k a Q) : amaOf k a Q' := by
  unfold amaOf at q ⊢
  split at q <;> first | exact h _ q | exact q.elim
theorem len_mono {a : V} {Q Q' : V → Prop} (h : ∀ v, Q v → Q' v) (q : lenOf a Q) : lenOf a Q' := by
  unfold lenOf at q ⊢
  split at q <;> first | exact ⟨q.1, h _ q.2⟩ | exact q.elim

mutual
theorem wpE_mono {Γ : Env'} (M : Γ.Mono) : ∀ (m : E) (σ : St) (Q Q' : V → St → Prop), (∀ v σ, Q v σ → Q' v σ) → wpE Γ m σ Q → wpE Γ m σ Q'
  | .var k, σ, Q, Q', h, q => by simp only [wpE] at q ⊢; exact getv_mono (fun v => h v _) q
  | .none, σ, Q, Q', h, q => by simp only [wpE] at q ⊢; exact h _ _ q
  | .bool b, σ, Q, Q', h, q => by simp only [wpE] at q ⊢; exact h _ _ q
  | .int b, σ, Q, Q', h, q => by simp only [wpE] at q ⊢; exact h _ _ q
  | .str b, σ, Q, Q', h, q => by simp only [wpE] at q ⊢; exact h _ _ q
  | .neg b, σ, Q, Q', h, q => by simp only [wpE] at q ⊢; exact h _ _ q
  | .fld k, σ, Q, Q', h, q => by simp only [wpE] at q ⊢; exact getv_mono (fun v => h v _) q
  | .glob k, σ, Q, Q', h, q => by simp only [wpE] at q ⊢; exact h _ _ q
  | .cat k, σ, Q, Q', h, q => by simp only [wpE] at q ⊢; exact h _ _ q
  | .ama k e, σ, Q, Q', h, q => by
    simp only [wpE] at q ⊢
    exact wpE_mono M e σ _ _ (fun v σ => ama_mono fun v => h v _) q
  | .len e, σ, Q, Q', h, q => by
    simp only [wpE] at q ⊢
    exact wpE_mono M e σ _ _ (fun v σ => len_mono fun v => h v _) q
  | .ord e, σ, Q, Q', h, q => by
    simp only [wpE] at q ⊢
    refine wpE_mono M e σ _ _ (fun v σ q => ?_) q
    split at q
    · exact h _ _ q
    · exact q.elim
  | .bin op a b, σ, Q, Q', h, q => by
    simp only [wpE] at q ⊢
    exact wpE_mono M a σ _ _ (fun v σ q => wpE_mono M b σ _ _ (fun v σ q => op2_mono (fun v => h v _) q) q) q
  | .cmp op a b, σ, Q, Q', h, q => by
    simp only [wpE] at q ⊢
    exact wpE_mono M a σ _ _ (fun v σ q => wpE_mono M b σ _ _ (fun v σ q => cm_mono (fun v => h _ _) q) q) q
  | .idx a b, σ, Q, Q', h, q => by
    simp only [wpE] at q ⊢
    exact wpE_mono M a σ _ _ (fun v σ q => wpE_mono M b σ _ _ (fun v σ q => item_mono (fun v => h v _) q) q) q
  | .slc a b c, σ, Q, Q', h, q => by
    simp only [wpE] at q ⊢
    refine wpE_mono M a σ _ _ (fun v σ q => wpE_mono M b σ _ _ (fun v σ q => wpE_mono M c σ _ _ (fun v σ q => ?_) q) q) q
    split at q
    · exact ⟨q.1, h _ _ q.2⟩
    · exact q.elim
  | .slf a b, σ, Q, Q', h, q => by
    simp only [wpE] at q ⊢
    refine wpE_mono M a σ _ _ (fun v σ q => wpE_mono M b σ _ _ (fun v σ q => ?_) q) q
    split at q
    · exact ⟨q.1, h _ _ q.2⟩
    · exact q.elim
  | .ends a b, σ, Q, Q', h, q => by
    simp only [wpE] at q ⊢
    refine wpE_mono M a σ _ _ (fun v σ q => ?_) q
    split at q
    · refine wpE_mono M b σ _ _ (fun v σ q => ?_) q
      split at q
      · exact h _ _ q
      · exact q.elim
    · exact q.elim
  | .repl a y z, σ, Q, Q', h, q => by
    simp only [wpE] at q ⊢
    refine wpE_mono M a σ _ _ (fun v σ q => ?_) q
    split at q
    · exact ⟨q.1, h _ _ q.2⟩
    · exact q.elim
  | .meth f l, σ, Q, Q', h, q => by
    simp only [wpE] at q ⊢
    exact wpEs_mono M l σ _ _ (fun v σ q => M.meth _ _ _ _ _ (fun v F q => h _ _ q) q) q
  | .call f l, σ, Q, Q', h, q => by
    simp only [wpE] at q ⊢
    exact wpEs_mono M l σ _ _ (fun v σ q => M.func _ _ _ _ (fun v q => h _ _ q) q) q
  | .tup l, σ, Q, Q', h, q => by
    simp only [wpE] at q ⊢
    exact wpEs_mono M l σ _ _ (fun v σ q => ⟨q.1, h _ _ q.2⟩) q
  | .lst l, σ, Q, Q', h, q => by
    simp only [wpE] at q ⊢
    exact wpEs_mono M l σ _ _ (fun v σ q => ⟨q.1, h _ _ q.2⟩) q
  | .bop and l, σ, Q, Q', h, q => by
    simp only [wpE] at q ⊢
    exact wpB_mono M and l σ _ _ h q
  | .not e, σ, Q, Q', h, q => by
    simp only [wpE] at q ⊢
    refine wpE_mono M e σ _ _ (fun v σ q => ?_) q
    split at q
    · exact h _ _ q
    · exact q.elim
theorem wpB_mono {Γ : Env'} (M : Γ.Mono) : ∀ (and : Bool) (m : Es) (σ : St) (Q Q' : V → St → Prop), (∀ v σ, Q v σ → Q' v σ) → wpB Γ and m σ Q → wpB Γ and m σ Q'
  | and, .nil, σ, Q, Q', h, q => by simp only [wpB] at q
  | and, .cons e l, σ, Q, Q', h, q => by
    simp only [wpB] at q ⊢
    refine wpE_mono M e σ _ _ (fun v σ q => ?_) q
    split at q
    · rename_i b
      cases l with
      | nil => exact h _ _ q
      | cons e' l' =>
        dsimp only at q ⊢
        split at q
        · rename_i hb; rw [if_pos hb]; exact wpB_mono M and (.cons e' l') _ _ _ h q
        · rename_i hb; rw [if_neg hb]; exact h _ _ q
    · exact q.elim
theorem wpEs_mono {Γ : Env'} (M : Γ.Mono) : ∀ (m : Es) (σ : St) (Q Q' : List V → St → Prop), (∀ v σ, Q v σ → Q' v σ) → wpEs Γ m σ Q → wpEs Γ m σ Q'
  | .nil, σ, Q, Q', h, q => by simp only [wpEs] at q ⊢; exact h _ _ q
  | .cons e l, σ, Q, Q', h, q => by
    simp only [wpEs] at q ⊢
    exact wpE_mono M e σ _ _ (fun v σ q => wpEs_mono M l σ _ _ (fun v σ q => h _ _ q) q) q
end

mutual
theorem wpT_mono {Γ : Env'} (M : Γ.Mono) : ∀ (m : T) (σ : St) (Q Q' : Bool → St → Prop), (∀ v σ, Q v σ → Q' v σ) → wpT Γ m σ Q → wpT Γ m σ Q'
  | .e e, σ, Q, Q', h, q => by
    simp only [wpT] at q ⊢
    refine wpE_mono M e σ _ _ (fun v σ q => ?_) q
    split at q
    · exact h _ _ q
    · exact q.elim
  | .cmp op a b, σ, Q, Q', h, q => by
    simp only [wpT] at q ⊢
    exact wpE_mono M a σ _ _ (fun v σ q => wpE_mono M b σ _ _ (fun v σ q => cm_mono (fun v => h _ _) q) q) q
  | .not t, σ, Q, Q', h, q => by
    simp only [wpT] at q ⊢
    exact wpT_mono M t σ _ _ (fun v σ => h _ _) q
  | .bop and l, σ, Q, Q', h, q => by
    simp only [wpT] at q ⊢
    exact wpTs_mono M and l σ _ _ h q
theorem wpTs_mono {Γ : Env'} (M : Γ.Mono) : ∀ (and : Bool) (m : Ts) (σ : St) (Q Q' : Bool → St → Prop), (∀ v σ, Q v σ → Q' v σ) → wpTs Γ and m σ Q → wpTs Γ and m σ Q'
  | and, .nil, σ, Q, Q', h, q => by simp only [wpTs] at q ⊢; exact h _ _ q
  | and, .cons t l, σ, Q, Q', h, q => by
    simp only [wpTs] at q ⊢
    refine wpT_mono M t σ _ _ (fun v σ q => ?_) q
    split at q
    · rename_i hb; rw [if_pos hb]; exact wpTs_mono M and l _ _ _ h q
    · rename_i hb; rw [if_neg hb]; exact h _ _ q
end

theorem loop_mono {k : Nat} {B : St → (Fl → St → Prop) → Prop} (hB : ∀ σ (Q Q' : Fl → St → Prop), (∀ f σ, Q f σ → Q' f σ) → B σ Q → B σ Q') : ∀ (vs : List V) (σ : St) (Q Q' : Fl → St → Prop), (∀ f σ, Q f σ → Q' f σ) → loop k B vs σ Q → loop k B vs σ Q'
  | [], σ, Q, Q', h, q => by simp only [loop] at q ⊢; exact h _ _ q
  | v :: vs, σ, Q, Q', h, q => by
    simp only [loop] at q ⊢
    refine hB _ _ _ (fun f σ q => ?_) q
    cases f with
    | next => exact loop_mono hB vs _ _ _ h q
    | cont => exact loop_mono hB vs _ _ _ h q
    | brk => exact h _ _ q
    | ret v => exact h _ _ q
    | exc l => exact h _ _ q

mutual
theorem wpS_mono {Γ : Env'} (M : Γ.Mono) : ∀ (m : S) (σ : St) (Q Q' : Fl → St → Prop), (∀ f σ, Q f σ → Q' f σ) → wpS Γ m σ Q → wpS Γ m σ Q'
  | .expr e, σ, Q, Q', h, q => by
    simp only [wpS] at q ⊢
    exact wpE_mono M e σ _ _ (fun v σ q => ⟨q.1, h _ _ q.2⟩) q
  | .asg k e, σ, Q, Q', h, q => by
    simp only [wpS] at q ⊢
    exact wpE_mono M e σ _ _ (fun v σ q => h _ _ q) q
  | .amin k a b, σ, Q, Q', h, q => by
    simp only [wpS] at q ⊢
    refine wpE_mono M a σ _ _ (fun v σ q => wpE_mono M b σ _ _ (fun v σ q => ?_) q) q
    split at q
    · exact h _ _ q
    · exact q.elim
  | .asf k e, σ, Q, Q', h, q => by
    simp only [wpS] at q ⊢
    exact wpE_mono M e σ _ _ (fun v σ q => h _ _ q) q
  | .ast ks e, σ, Q, Q', h, q => by
    simp only [wpS] at q ⊢
    refine wpE_mono M e σ _ _ (fun v σ q => ?_) q
    split at q
    · obtain ⟨σ', h1, h2⟩ := q; exact ⟨σ', h1, h _ _ h2⟩
    · exact q.elim
  | .aug k op e, σ, Q, Q', h, q => by
    simp only [wpS] at q ⊢
    exact getv_mono (fun v q => wpE_mono M e σ _ _ (fun v σ q => op2i_mono (fun v => h _ _) q) q) q
  | .auf k op e, σ, Q, Q', h, q => by
    simp only [wpS] at q ⊢
    exact getv_mono (fun v q => wpE_mono M e σ _ _ (fun v σ q => op2i_mono (fun v => h _ _) q) q) q
  | .iff t a b, σ, Q, Q', h, q => by
    simp only [wpS] at q ⊢
    refine wpT_mono M t σ _ _ (fun c σ q => ?_) q
    split at q
    · rename_i hb; rw [if_pos hb]; exact wpSs_mono M a _ _ _ h q
    · rename_i hb; rw [if_neg hb]; exact wpSs_mono M b _ _ _ h q
  | .whl t b, σ, Q, Q', h, q => by
    simp only [wpS] at q ⊢
    obtain ⟨I, h0, hs⟩ := q
    refine ⟨I, h0, fun n σ hI => wpT_mono M t σ _ _ (fun c σ q => ?_) (hs n σ hI)⟩
    split at q
    · rename_i hb; rw [if_pos hb]
      refine wpSs_mono M b _ _ _ (fun f σ q => ?_) q
      cases f <;> first | exact q | exact h _ _ q
    · rename_i hb; rw [if_neg hb]; exact h _ _ q
  | .forR k l b, σ, Q, Q', h, q => by
    simp only [wpS] at q ⊢
    refine wpEs_mono M l σ _ _ (fun vs σ q => ?_) q
    obtain ⟨is, xs, h1, h2, h3, h4⟩ := q
    exact ⟨is, xs, h1, h2, h3, loop_mono (fun σ Q Q' h q => wpSs_mono M b σ Q Q' h q) _ _ _ _ h h4⟩
  | .forL k e b, σ, Q, Q', h, q => by
    simp only [wpS] at q ⊢
    refine wpE_mono M e σ _ _ (fun v σ q => ?_) q
    split at q
    · exact loop_mono (fun σ Q Q' h q => wpSs_mono M b σ Q Q' h q) _ _ _ _ h q
    · exact q.elim
  | .try_ b l, σ, Q, Q', h, q => by
    simp only [wpS] at q ⊢
    refine wpSs_mono M b σ _ _ (fun f σ q => ?_) q
    cases f <;> try exact h _ _ q
    dsimp only at q ⊢
    split at q
    · rename_i hb; rw [if_pos hb]; exact h _ _ q
    · rename_i hb; rw [if_neg hb]; exact h _ _ q
  | .raise l, σ, Q, Q', h, q => by simp only [wpS] at q ⊢; exact h _ _ q
  | .ret e, σ, Q, Q', h, q => by
    simp only [wpS] at q ⊢
    exact wpE_mono M e σ _ _ (fun v σ q => h _ _ q) q
  | .brk, σ, Q, Q', h, q => by simp only [wpS] at q ⊢; exact h _ _ q
  | .cont, σ, Q, Q', h, q => by simp only [wpS] at q ⊢; exact h _ _ q
  | .pass, σ, Q, Q', h, q => by simp only [wpS] at q ⊢; exact h _ _ q
  | .asrt t, σ, Q, Q', h, q => by
    simp only [wpS] at q ⊢
    exact wpT_mono M t σ _ _ (fun c σ q => ⟨q.1, h _ _ q.2⟩) q
theorem wpSs_mono {Γ : Env'} (M : Γ.Mono) : ∀ (m : Ss) (σ : St) (Q Q' : Fl → St → Prop), (∀ f σ, Q f σ → Q' f σ) → wpSs Γ m σ Q → wpSs Γ m σ Q'
  | .nil, σ, Q, Q', h, q => by simp only [wpSs] at q ⊢; exact h _ _ q
  | .cons s l, σ, Q, Q', h, q => by
    simp only [wpSs] at q ⊢
    refine wpS_mono M s σ _ _ (fun f σ q => ?_) q
    cases f <;> first | exact h _ _ q | exact wpSs_mono M l _ _ _ h q
end
end Mine
namespace Mine
open PySem PySem.W PySem.Calls PyProof.Rows
set_option autoImplicit false
set_option maxRecDepth 100000

structure Ms where
  cur : List Nat
  c : Int
  l : Int
  lb : Int
  bra : Int
  ket : Int
  p1 : Option Int
  p2 : Option Int
noncomputable def Ms.fl (m : Ms) : List (Option V) := [some (.str m.cur), some (.int m.c), some (.int m.l), some (.int m.lb), some (.int m.bra), some (.int m.ket), m.p1.map .int, m.p2.map .int]
theorem gf0 (m : Ms) (Q : V → Prop) : getv m.fl 0 Q = Q (.str m.cur) := rfl
theorem gf1 (m : Ms) (Q : V → Prop) : getv m.fl 1 Q = Q (.int m.c) := rfl
theorem gf2 (m : Ms) (Q : V → Prop) : getv m.fl 2 Q = Q (.int m.l) := rfl
theorem gf3 (m : Ms) (Q : V → Prop) : getv m.fl 3 Q = Q (.int m.lb) := rfl
theorem gf4 (m : Ms) (Q : V → Prop) : getv m.fl 4 Q = Q (.int m.bra) := rfl
theorem gf5 (m : Ms) (Q : V → Prop) : getv m.fl 5 Q = Q (.int m.ket) := rfl
theorem sf0 (m : Ms) (loc : List (Option V)) (t : List Nat) : St.setf ⟨loc, m.fl⟩ 0 (.str t) = ⟨loc, { m with cur := t }.fl⟩ := rfl
theorem sf1 (m : Ms) (loc : List (Option V)) (i : Int) : St.setf ⟨loc, m.fl⟩ 1 (.int i) = ⟨loc, { m with c := i }.fl⟩ := rfl
theorem sf2 (m : Ms) (loc : List (Option V)) (i : Int) : St.setf ⟨loc, m.fl⟩ 2 (.int i) = ⟨loc, { m with l := i }.fl⟩ := rfl
theorem sf3 (m : Ms) (loc : List (Option V)) (i : Int) : St.setf ⟨loc, m.fl⟩ 3 (.int i) = ⟨loc, { m with lb := i }.fl⟩ := rfl
theorem sf4 (m : Ms) (loc : List (Option V)) (i : Int) : St.setf ⟨loc, m.fl⟩ 4 (.int i) = ⟨loc, { m with bra := i }.fl⟩ := rfl
theorem sf5 (m : Ms) (loc : List (Option V)) (i : Int) : St.setf ⟨loc, m.fl⟩ 5 (.int i) = ⟨loc, { m with ket := i }.fl⟩ := rfl
theorem sf6 (m : Ms) (loc : List (Option V)) (i : Int) : St.setf ⟨loc, m.fl⟩ 6 (.int i) = ⟨loc, { m with p1 := some i }.fl⟩ := rfl
theorem sf7 (m : Ms) (loc : List (Option V)) (i : Int) : St.setf ⟨loc, m.fl⟩ 7 (.int i) = ⟨loc, { m with p2 := some i }.fl⟩ := rfl
theorem gl0 (a : V) (l : List (Option V)) (Q : V → Prop) : getv (some a :: l) 0 Q = Q a := rfl
theorem gls (a : Option V) (l : List (Option V)) (k : Nat) (Q : V → Prop) : getv (a :: l) (k + 1) Q = getv l k Q := rfl

theorem pt (loc fl : List (Option V)) (k : Nat) (W : V) : St.put ⟨loc, fl⟩ k W = ⟨loc.set k (some W), fl⟩ := rfl
noncomputable def Ms.Ok (m : Ms) : Prop := 0 ≤ m.c ∧ m.c ≤ m.l ∧ m.l = m.cur.length ∧ m.cur.length ≤ 10000 ∧ 0 ≤ m.lb

noncomputable def sp_in_grouping : Spec := fun Vs F Q => ∃ g m, Vs = [.set g] ∧ F = Ms.fl m ∧ m.Ok ∧
  if m.c < m.l ∧ g.contains (m.cur.getD m.c.toNat 0) = true then Q (.bool true) { m with c := m.c + 1 }.fl else Q (.bool false) m.fl

theorem getD_some {l : List Nat} {i : Int} (h0 : 0 ≤ i) (h : i < l.length) : l[i.toNat]? = some (l.getD i.toNat 0) := by
  have : i.toNat < l.length := by omega
  rw [List.getD_eq_getElem?_getD, List.getElem?_eq_getElem this]; rfl


/-- an if's answer in a post -/
theorem if_bool {b : Bool} {P R : Prop} (h : if b = true then P else R) : if (!b) = true then R else P := by
  cases b <;> simpa using h

theorem v_in_grouping (Γ : Env') : ∀ Vs F Q, sp_in_grouping Vs F Q → bodySp Γ m_in_grouping 1 0 Vs F Q := by
  rintro Vs F Q ⟨g, m, rfl, rfl, ok, h⟩
  refine ⟨rfl, ?_⟩
  obtain ⟨o1, o2, o3, o4, o5⟩ := ok
  simp only [m_in_grouping, wpSs, wpS, wpT, wpE, gf0, gf1, gf2, cm, List.map_cons, List.map_nil, List.replicate_zero, List.append_nil, gl0, op2i, sf1, decide_eq_true_eq]
  split
  · rename_i h1
    rwa [if_neg (by omega)] at h
  · rename_i h1
    simp only [item, o1, if_true]
    refine ⟨_, getD_some o1 (by omega), by omega, ?_⟩
    have h2 : m.c < m.l := by omega
    simp only [h2, true_and] at h
    exact if_bool h

noncomputable def Ms.fl6 (a : List (Option V)) (p1 p2 : Option Int) : List (Option V) := a ++ [p1.map .int, p2.map .int]
noncomputable def sp_set_current : Spec := fun Vs F Q => ∃ (t : List Nat) (a0 a1 a2 a3 a4 a5 : Option V) (p1 p2 : Option Int), Vs = [.str t] ∧ F = [a0, a1, a2, a3, a4, a5, p1.map .int, p2.map .int] ∧ t.length ≤ 10000 ∧
  Q .none (Ms.fl ⟨t, 0, t.length, 0, 0, t.length, p1, p2⟩)
theorem v_set_current (Γ : Env') : ∀ Vs F Q, sp_set_current Vs F Q → bodySp Γ m_set_current 1 0 Vs F Q := by
  rintro Vs F Q ⟨t, a0, a1, a2, a3, a4, a5, p1, p2, rfl, rfl, hl, h⟩
  refine ⟨rfl, ?_⟩
  show wpSs Γ m_set_current ⟨[some (.str t)], [a0, a1, a2, a3, a4, a5, p1.map .int, p2.map .int]⟩ _
  simp only [m_set_current, wpSs, wpS, wpE, gl0, lenOf]
  refine ⟨by omega, ?_⟩
  exact h

noncomputable def sp_get_current : Spec := fun Vs F Q => ∃ m, Vs = [] ∧ F = Ms.fl m ∧ Q (.str m.cur) m.fl
theorem v_get_current (Γ : Env') : ∀ Vs F Q, sp_get_current Vs F Q → bodySp Γ m_get_current 0 0 Vs F Q := by
  rintro Vs F Q ⟨m, rfl, rfl, h⟩
  exact ⟨rfl, h⟩

theorem while_next {Γ : Env'} {t : T} {b : Ss} {σ : St} {Q : Fl → St → Prop} (I : Nat → St → Prop) (n : Nat) (h0 : I n σ) (h : ∀ n σ, I n σ → wpT Γ t σ fun c σ => if c = true then wpSs Γ b σ fun f σ => (match f with
      | .next | .cont => ∃ m, m < n ∧ I m σ
      | .brk => Q .next σ
      | f => Q f σ) else Q .next σ) : wpS Γ (.whl t b) σ Q := by
  simp only [wpS]
  exact ⟨I, ⟨n, h0⟩, h⟩

theorem drop_cons {l : List Nat} {i : Int} (h0 : 0 ≤ i) (h : i < l.length) : l.drop i.toNat = l.getD i.toNat 0 :: l.drop (i + 1).toNat := by
  have hi : i.toNat < l.length := by omega
  rw [show (i + 1).toNat = i.toNat + 1 from by omega, List.drop_eq_getElem_cons hi, List.getD_eq_getElem?_getD, List.getElem?_eq_getElem hi]
  rfl

/-- how many signs from place i on answer f -/
noncomputable def run (f : Nat → Bool) (l : List Nat) (i : Int) : Nat := ((l.drop i.toNat).takeWhile f).length
theorem run_step {f : Nat → Bool} {l : List Nat} {i : Int} (h0 : 0 ≤ i) (h : i < l.length) : run f l i = if f (l.getD i.toNat 0) then run f l (i + 1) + 1 else 0 := by
  unfold run
  rw [drop_cons h0 h, List.takeWhile_cons]
  split <;> simp
theorem run_end {f : Nat → Bool} {l : List Nat} {i : Int} (h : l.length ≤ i) : run f l i = 0 := by
  unfold run
  rw [List.drop_eq_nil_of_le (by omega)]
  rfl

noncomputable def sp_go (inn : Bool) : Spec := fun Vs F Q => ∃ g m, Vs = [.set g] ∧ F = Ms.fl m ∧ m.Ok ∧
  Q (.bool (decide (m.c + run (fun x => g.contains x == inn) m.cur m.c < m.l))) { m with c := m.c + run (fun x => g.contains x == inn) m.cur m.c }.fl

theorem v_go_in (Γ : Env') : ∀ Vs F Q, sp_go true Vs F Q → bodySp Γ m_go_in_grouping 1 0 Vs F Q := by
  rintro Vs F Q ⟨g, m, rfl, rfl, ok, h⟩
  refine ⟨rfl, ?_⟩
  obtain ⟨o1, o2, o3, o4, o5⟩ := ok
  simp only [m_go_in_grouping, wpSs]
  refine while_next (fun n σ => ∃ c', m.c ≤ c' ∧ c' ≤ m.l ∧ (n : Int) = m.l - c' ∧ σ = ⟨[some (.set g)], { m with c := c' }.fl⟩ ∧ m.c + run (fun x => g.contains x == true) m.cur m.c = c' + run (fun x => g.contains x == true) m.cur c') (m.l - m.c).toNat ⟨m.c, by omega, by omega, by omega, rfl, rfl⟩ ?_
  rintro n σ ⟨c', h1, h2, h3, rfl, h4⟩
  simp only [wpSs, wpS, wpT, wpE, gf0, gf1, gf2, cm, gl0, op2i, sf1, decide_eq_true_eq]
  rw [h4] at h
  split
  · rename_i hlt
    simp only [item, show (0 : Int) ≤ c' by omega, if_true]
    refine ⟨_, getD_some (by omega) (by omega), by omega, ?_⟩
    have rs := run_step (f := fun x => g.contains x == true) (l := m.cur) (i := c') (by omega) (by omega)
    cases hg : g.contains (m.cur.getD c'.toNat 0) with
    | true =>
      simp only [hg, beq_self_eq_true, if_true] at rs
      simp only [Bool.not_true, Bool.false_eq_true, if_false]
      refine ⟨n - 1, by omega, c' + 1, by omega, by omega, by omega, rfl, by omega⟩
    | false =>
      simp only [hg, Bool.false_eq_true, if_false, show (false == true) = false from rfl] at rs
      simp only [Bool.not_false, if_true]
      rw [rs] at h
      simpa [hlt] using h
  · rename_i hlt
    rw [run_end (by omega)] at h
    simpa [hlt] using h

theorem v_go_out (Γ : Env') : ∀ Vs F Q, sp_go false Vs F Q → bodySp Γ m_go_out_grouping 1 0 Vs F Q := by
  rintro Vs F Q ⟨g, m, rfl, rfl, ok, h⟩
  refine ⟨rfl, ?_⟩
  obtain ⟨o1, o2, o3, o4, o5⟩ := ok
  simp only [m_go_out_grouping, wpSs]
  refine while_next (fun n σ => ∃ c', m.c ≤ c' ∧ c' ≤ m.l ∧ (n : Int) = m.l - c' ∧ σ = ⟨[some (.set g)], { m with c := c' }.fl⟩ ∧ m.c + run (fun x => g.contains x == false) m.cur m.c = c' + run (fun x => g.contains x == false) m.cur c') (m.l - m.c).toNat ⟨m.c, by omega, by omega, by omega, rfl, rfl⟩ ?_
  rintro n σ ⟨c', h1, h2, h3, rfl, h4⟩
  simp only [wpSs, wpS, wpT, wpE, gf0, gf1, gf2, cm, gl0, op2i, sf1, decide_eq_true_eq]
  rw [h4] at h
  split
  · rename_i hlt
    simp only [item, show (0 : Int) ≤ c' by omega, if_true]
    refine ⟨_, getD_some (by omega) (by omega), by omega, ?_⟩
    have rs := run_step (f := fun x => g.contains x == false) (l := m.cur) (i := c') (by omega) (by omega)
    cases hg : g.contains (m.cur.getD c'.toNat 0) with
    | false =>
      simp only [hg, beq_self_eq_true, if_true] at rs
      simp only [Bool.false_eq_true, if_false]
      refine ⟨n - 1, by omega, c' + 1, by omega, by omega, by omega, rfl, by omega⟩
    | true =>
      simp only [hg, Bool.false_eq_true, if_false, show (true == false) = false from rfl] at rs
      simp only [if_true]
      rw [rs] at h
      simpa [hlt] using h
  · rename_i hlt
    rw [run_end (by omega)] at h
    simpa [hlt] using h

noncomputable def sp_in_grouping_b : Spec := fun Vs F Q => ∃ g m, Vs = [.set g] ∧ F = Ms.fl m ∧ m.Ok ∧
  if m.lb < m.c ∧ g.contains (m.cur.getD (m.c - 1).toNat 0) = true then Q (.bool true) { m with c := m.c - 1 }.fl else Q (.bool false) m.fl
theorem v_in_grouping_b (Γ : Env') : ∀ Vs F Q, sp_in_grouping_b Vs F Q → bodySp Γ m_in_grouping_b 1 0 Vs F Q := by
  rintro Vs F Q ⟨g, m, rfl, rfl, ok, h⟩
  refine ⟨rfl, ?_⟩
  obtain ⟨o1, o2, o3, o4, o5⟩ := ok
  simp only [m_in_grouping_b, wpSs, wpS, wpT, wpE, gf0, gf1, gf2, gf3, cm, List.map_cons, List.map_nil, List.replicate_zero, List.append_nil, gl0, op2, op2i, sf1, decide_eq_true_eq]
  split
  · rename_i h1
    rwa [if_neg (by omega)] at h
  · rename_i h1
    simp only [item, show (0 : Int) ≤ m.c - 1 by omega, if_true]
    refine ⟨_, getD_some (by omega) (by omega), by omega, ?_⟩
    have h2 : m.lb < m.c := by omega
    simp only [h2, true_and] at h
    exact if_bool h

noncomputable def sp_eq_s_b : Spec := fun Vs F Q => ∃ t m, Vs = [.str t] ∧ F = Ms.fl m ∧ m.Ok ∧ m.lb ≤ m.c ∧ t.length ≤ 100 ∧
  if endsW (cut m.cur m.lb m.c) t = true then Q (.bool true) { m with c := m.c - t.length }.fl else Q (.bool false) m.fl
theorem v_eq_s_b (Γ : Env') : ∀ Vs F Q, sp_eq_s_b Vs F Q → bodySp Γ m_eq_s_b 1 0 Vs F Q := by
  rintro Vs F Q ⟨t, m, rfl, rfl, ok, hlb, ht, h⟩
  refine ⟨rfl, ?_⟩
  obtain ⟨o1, o2, o3, o4, o5⟩ := ok
  simp only [m_eq_s_b, wpSs, wpS, wpT, wpE, gf0, gf1, gf2, gf3, cm, List.map_cons, List.map_nil, List.replicate_zero, List.append_nil, gl0, lenOf, op2i, sf1]
  refine ⟨⟨by omega, o5, hlb, by omega⟩, ?_⟩
  split
  · rename_i h1
    rw [if_pos h1] at h
    exact ⟨by omega, h⟩
  · rename_i h1
    rwa [if_neg h1] at h

noncomputable def sp_replace_s : Spec := fun Vs F Q => ∃ (a b : Int) (t : List Nat) (m : Ms), Vs = [.int a, .int b, .str t] ∧ F = Ms.fl m ∧ m.Ok ∧ 0 ≤ a ∧ a ≤ b ∧ b ≤ m.l ∧ t.length ≤ 100 ∧
  Q (.int (t.length - (b - a))) { m with cur := m.cur.take a.toNat ++ t ++ m.cur.drop b.toNat, l := m.l + (t.length - (b - a)), c := if b ≤ m.c then m.c + (t.length - (b - a)) else if a < m.c then a else m.c }.fl
theorem v_replace_s (Γ : Env') : ∀ Vs F Q, sp_replace_s Vs F Q → bodySp Γ m_replace_s 3 1 Vs F Q := by
  rintro Vs F Q ⟨a, b, t, m, rfl, rfl, ok, h1, h2, h3, h4, h⟩
  refine ⟨rfl, ?_⟩
  obtain ⟨o1, o2, o3, o4, o5⟩ := ok
  show wpSs Γ m_replace_s ⟨[some (.int a), some (.int b), some (.str t), none], m.fl⟩ _
  simp only [m_replace_s, wpSs, wpS, wpT, wpE, gf0, gf1, gf2, gl0, gls, lenOf, op2, op2i, cm, sf0, sf1, sf2, pt, List.set_cons_zero, List.set_cons_succ, decide_eq_true_eq]
  have e1 : cut m.cur 0 a = m.cur.take a.toNat := by unfold cut; simp
  rw [e1]
  refine ⟨by omega, ⟨by omega, by omega, h1, by omega⟩, ?_, ⟨by omega, by omega, by omega⟩, ?_, ?_⟩
  · rw [List.length_take]; omega
  · rw [List.length_append, List.length_take, List.length_drop]; omega
  split
  · rename_i q
    rw [if_pos q] at h
    exact h
  · rename_i q
    rw [if_neg q] at h
    split
    · rename_i q2
      rw [if_pos q2] at h
      exact h
    · rename_i q2
      rw [if_neg q2] at h
      exact h

noncomputable def sp_slice_from : Spec := fun Vs F Q => ∃ (t : List Nat) (m : Ms), Vs = [.str t] ∧ F = Ms.fl m ∧ m.Ok ∧ 0 ≤ m.bra ∧ m.bra ≤ m.ket ∧ m.ket ≤ m.l ∧ t.length ≤ 100 ∧
  Q .none { m with cur := m.cur.take m.bra.toNat ++ t ++ m.cur.drop m.ket.toNat, l := m.l + (t.length - (m.ket - m.bra)), c := if m.ket ≤ m.c then m.c + (t.length - (m.ket - m.bra)) else if m.bra < m.c then m.bra else m.c, ket := m.bra + t.length }.fl
theorem v_slice_from (Γ : Env') (h9 : Γ.meth 9 = sp_replace_s) : ∀ Vs F Q, sp_slice_from Vs F Q → bodySp Γ m_slice_from 1 0 Vs F Q := by
  rintro Vs F Q ⟨t, m, rfl, rfl, ok, h1, h2, h3, h4, h⟩
  refine ⟨rfl, ?_⟩
  have ok' := ok
  obtain ⟨o1, o2, o3, o4, o5⟩ := ok
  show wpSs Γ m_slice_from ⟨[some (.str t)], m.fl⟩ _
  simp only [m_slice_from, wpSs, wpS, wpT, wpE, wpEs, gf0, gf2, gf4, gf5, gl0, gls, lenOf, op2, cm, sf5, decide_eq_true_eq, h9]
  refine ⟨h1, h2, h3, by omega, by omega, ?_⟩
  refine ⟨_, _, _, _, rfl, rfl, ok', h1, h2, h3, h4, ?_⟩
  simp only [true_and, gf4, sf5]
  exact ⟨by omega, h⟩

noncomputable def sp_slice_del : Spec := fun Vs F Q => ∃ (m : Ms), Vs = [] ∧ F = Ms.fl m ∧ m.Ok ∧ 0 ≤ m.bra ∧ m.bra ≤ m.ket ∧ m.ket ≤ m.l ∧
  Q .none { m with cur := m.cur.take m.bra.toNat ++ m.cur.drop m.ket.toNat, l := m.l - (m.ket - m.bra), c := if m.ket ≤ m.c then m.c - (m.ket - m.bra) else if m.bra < m.c then m.bra else m.c, ket := m.bra }.fl
theorem v_slice_del (Γ : Env') (h10 : Γ.meth 10 = sp_slice_from) : ∀ Vs F Q, sp_slice_del Vs F Q → bodySp Γ m_slice_del 0 0 Vs F Q := by
  rintro Vs F Q ⟨m, rfl, rfl, ok, h1, h2, h3, h⟩
  refine ⟨rfl, ?_⟩
  show wpSs Γ m_slice_del ⟨[], m.fl⟩ _
  simp only [m_slice_del, wpSs, wpS, wpE, wpEs, h10]
  refine ⟨_, _, rfl, rfl, ok, h1, h2, h3, by simp, ?_⟩
  have e1 : m.l + ((([] : List Nat).length : Int) - (m.ket - m.bra)) = m.l - (m.ket - m.bra) := by simp; omega
  have e2 : m.c + ((([] : List Nat).length : Int) - (m.ket - m.bra)) = m.c - (m.ket - m.bra) := by simp; omega
  have e3 : m.bra + ((([] : List Nat).length : Int)) = m.bra := by simp
  rw [e1, e2, e3, List.append_nil]
  exact h

noncomputable def sp_R (k : Ms → Option Int) : Spec := fun Vs F Q => ∃ (m : Ms) (p : Int), Vs = [] ∧ F = Ms.fl m ∧ k m = some p ∧ Q (.bool (decide (p ≤ m.c))) m.fl
theorem v_R1 (Γ : Env') : ∀ Vs F Q, sp_R Ms.p1 Vs F Q → bodySp Γ m_r_R1 0 0 Vs F Q := by
  rintro Vs F Q ⟨m, p, rfl, rfl, hp, h⟩
  refine ⟨rfl, ?_⟩
  obtain ⟨cur, c, l, lb, bra, ket, p1, p2⟩ := m
  dsimp only at hp
  subst hp
  exact h
theorem v_R2 (Γ : Env') : ∀ Vs F Q, sp_R Ms.p2 Vs F Q → bodySp Γ m_r_R2 0 0 Vs F Q := by
  rintro Vs F Q ⟨m, p, rfl, rfl, hp, h⟩
  refine ⟨rfl, ?_⟩
  obtain ⟨cur, c, l, lb, bra, ket, p1, p2⟩ := m
  dsimp only at hp
  subst hp
  exact h
end Mine
namespace Mine
open PySem PySem.W PySem.Calls PyProof.Rows
set_option autoImplicit false

/-! the order of signs' lists and the common beginning -/
noncomputable def lel : List Nat → List Nat → Bool
  | [], _ => true
  | _ :: _, [] => false
  | a :: w, b :: t => decide (a < b) || (decide (a = b) && lel w t)
noncomputable def lcp : List Nat → List Nat → Nat
  | a :: w, b :: t => if a = b then lcp w t + 1 else 0
  | _, _ => 0
noncomputable def pfx : List Nat → List Nat → Bool
  | [], _ => true
  | _ :: _, [] => false
  | a :: w, b :: t => decide (a = b) && pfx w t

theorem pfx_refl : ∀ w, pfx w w = true
  | [] => rfl
  | a :: w => by simp [pfx, pfx_refl w]
theorem pfx_trans : ∀ {u v w}, pfx u v = true → pfx v w = true → pfx u w = true
  | [], _, _, _, _ => rfl
  | a :: u, [], _, h, _ => by simp [pfx] at h
  | a :: u, b :: v, [], _, h => by simp [pfx] at h
  | a :: u, b :: v, c :: w, h, k => by
    simp only [pfx, Bool.and_eq_true, decide_eq_true_eq] at h k ⊢
    exact ⟨h.1.trans k.1, pfx_trans h.2 k.2⟩
theorem pfx_len : ∀ {u v}, pfx u v = true → u.length ≤ v.length
  | [], _, _ => Nat.zero_le _
  | a :: u, [], h => by simp [pfx] at h
  | a :: u, b :: v, h => by
    simp only [pfx, Bool.and_eq_true] at h
    exact Nat.succ_le_succ (pfx_len h.2)
/-- two beginnings of one text -/
theorem pfx_two : ∀ {u v t}, pfx u t = true → pfx v t = true → u.length ≤ v.length → pfx u v = true
  | [], _, _, _, _, _ => rfl
  | a :: u, [], _, _, _, h => by simp at h
  | a :: u, b :: v, [], h, _, _ => by simp [pfx] at h
  | a :: u, b :: v, c :: t, h, k, l => by
    simp only [pfx, Bool.and_eq_true, decide_eq_true_eq] at h k ⊢
    exact ⟨h.1.trans k.1.symm, pfx_two h.2 k.2 (Nat.le_of_succ_le_succ l)⟩
theorem pfx_eq : ∀ {u v}, pfx u v = true → u.length = v.length → u = v
  | [], [], _, _ => rfl
  | [], b :: v, _, h => by simp at h
  | a :: u, [], h, _ => by simp [pfx] at h
  | a :: u, b :: v, h, l => by
    simp only [pfx, Bool.and_eq_true, decide_eq_true_eq] at h
    rw [h.1, pfx_eq h.2 (Nat.succ.inj l)]
theorem pfx_lel : ∀ {u v}, pfx u v = true → lel u v = true
  | [], _, _ => rfl
  | a :: u, [], h => by simp [pfx] at h
  | a :: u, b :: v, h => by
    simp only [pfx, Bool.and_eq_true, decide_eq_true_eq] at h
    simp [lel, h.1, pfx_lel h.2]
theorem lel_trans : ∀ {u v w}, lel u v = true → lel v w = true → lel u w = true
  | [], _, _, _, _ => rfl
  | a :: u, [], _, h, _ => by simp [lel] at h
  | a :: u, b :: v, [], _, h => by simp [lel] at h
  | a :: u, b :: v, c :: w, h, k => by
    simp only [lel, Bool.or_eq_true, Bool.and_eq_true, decide_eq_true_eq] at h k ⊢
    rcases h with h | h <;> rcases k with k | k
    · exact .inl (Nat.lt_trans h k)
    · exact .inl (k.1 ▸ h)
    · exact .inl (h.1 ▸ k)
    · exact .inr ⟨h.1.trans k.1, lel_trans h.2 k.2⟩
theorem lel_total : ∀ (u v : List Nat), lel u v = true ∨ lel v u = true
  | [], _ => .inl rfl
  | a :: u, [] => .inr rfl
  | a :: u, b :: v => by
    simp only [lel, Bool.or_eq_true, Bool.and_eq_true, decide_eq_true_eq]
    rcases Nat.lt_trichotomy a b with h | h | h
    · exact .inl (.inl h)
    · rcases lel_total u v with k | k
      · exact .inl (.inr ⟨h, k⟩)
      · exact .inr (.inr ⟨h.symm, k⟩)
    · exact .inr (.inl h)
/-- what stands between two texts that begin alike begins so too -/
theorem between : ∀ {p u v x}, lel u v = true → lel v x = true → pfx p u = true → pfx p x = true → pfx p v = true
  | [], _, _, _, _, _, _, _ => rfl
  | c :: p, [], _, _, _, _, h, _ => by simp [pfx] at h
  | c :: p, a :: u, v, [], _, _, _, h => by simp [pfx] at h
  | c :: p, a :: u, [], x :: xs, h, _, _, _ => by simp [lel] at h
  | c :: p, a :: u, b :: v, x :: xs, h1, h2, h3, h4 => by
    simp only [lel, pfx, Bool.or_eq_true, Bool.and_eq_true, decide_eq_true_eq] at h1 h2 h3 h4 ⊢
    have e : b = a ∧ lel u v = true ∧ lel v xs = true := by
      have e1 := h3.1
      have e2 := h4.1
      rcases h1 with h1 | h1 <;> rcases h2 with h2 | h2 <;> first | omega | skip
      exact ⟨h1.1.symm, h1.2, h2.2⟩
    exact ⟨h3.1.trans e.1.symm, between e.2.1 e.2.2 h3.2 h4.2⟩

theorem lcp_le : ∀ (w t : List Nat), lcp w t ≤ w.length ∧ lcp w t ≤ t.length
  | [], t => ⟨Nat.zero_le _, by simp [lcp]⟩
  | a :: w, [] => ⟨by simp [lcp], Nat.zero_le _⟩
  | a :: w, b :: t => by
    have ih := lcp_le w t
    unfold lcp
    split
    · exact ⟨Nat.succ_le_succ ih.1, Nat.succ_le_succ ih.2⟩
    · exact ⟨Nat.zero_le _, Nat.zero_le _⟩
theorem take_pfx : ∀ {w t : List Nat} {n : Nat}, n ≤ lcp w t → pfx (t.take n) w = true
  | _, _, 0, _ => by simp [pfx]
  | [], t, n + 1, h => by simp [lcp] at h
  | a :: w, [], n + 1, h => by simp [lcp] at h
  | a :: w, b :: t, n + 1, h => by
    unfold lcp at h
    split at h
    · rename_i e
      simp only [List.take_succ_cons, pfx, Bool.and_eq_true, decide_eq_true_eq]
      exact ⟨e.symm, take_pfx (by omega)⟩
    · omega
theorem pfx_take : ∀ {w t : List Nat} {n : Nat}, n ≤ t.length → pfx (t.take n) w = true → n ≤ lcp w t
  | _, _, 0, _, _ => Nat.zero_le _
  | [], [], n + 1, h, _ => by simp at h
  | [], b :: t, n + 1, _, h => by simp [pfx] at h
  | a :: w, [], n + 1, h, _ => by simp at h
  | a :: w, b :: t, n + 1, h, k => by
    simp only [List.take_succ_cons, pfx, Bool.and_eq_true, decide_eq_true_eq] at k
    unfold lcp
    rw [if_pos k.1.symm]
    exact Nat.succ_le_succ (pfx_take (by simpa using h) k.2)
theorem take_self_pfx : ∀ (t : List Nat) (n : Nat), pfx (t.take n) t = true
  | [], n => by simp [pfx]
  | b :: t, 0 => by simp [pfx]
  | b :: t, n + 1 => by simp [pfx, take_self_pfx t n]
/-- the common beginning with a text between two others -/
theorem lcp_between {u v x t : List Nat} (h1 : lel u v = true) (h2 : lel v x = true) : min (lcp u t) (lcp x t) ≤ lcp v t := by
  have l1 := (lcp_le u t).2
  exact pfx_take (by omega) (between h1 h2 (take_pfx (Nat.min_le_left _ _)) (take_pfx (Nat.min_le_right _ _)))
theorem lcp_full : ∀ {w t : List Nat}, w.length ≤ lcp w t ↔ pfx w t = true
  | [], t => by simp [pfx, lcp]
  | a :: w, [] => by simp [pfx, lcp]
  | a :: w, b :: t => by
    have ih := lcp_full (w := w) (t := t)
    unfold lcp pfx
    by_cases e : a = b
    · simp only [e, if_true, decide_true, Bool.true_and, List.length_cons, Nat.add_le_add_iff_right]
      exact ih
    · simp [e]
/-- where the common beginning ends -/
theorem lcp_stop : ∀ {w t : List Nat} {n : Nat} {a b : Nat}, n ≤ lcp w t → w[n]? = some a → t[n]? = some b → (a = b → n < lcp w t) ∧ (a ≠ b → n = lcp w t ∧ (lel w t = true ↔ a < b))
  | [], _, _, _, _, _, h, _ => by simp at h
  | _ :: _, [], _, _, _, _, _, h => by simp at h
  | x :: w, y :: t, 0, a, b, h, h1, h2 => by
    obtain rfl : x = a := by simpa using h1
    obtain rfl : y = b := by simpa using h2
    unfold lcp
    refine ⟨fun e => ?_, fun e => ?_⟩
    · rw [if_pos e]; exact Nat.succ_pos _
    · rw [if_neg e]
      exact ⟨rfl, by simp [lel, e]⟩
  | x :: w, y :: t, n + 1, a, b, h, h1, h2 => by
    unfold lcp at h
    split at h
    · rename_i e
      have ih := lcp_stop (w := w) (t := t) (n := n) (a := a) (b := b) (by omega) (by simpa using h1) (by simpa using h2)
      unfold lcp
      rw [if_pos e]
      refine ⟨fun q => Nat.succ_lt_succ (ih.1 q), fun q => ?_⟩
      obtain ⟨i1, i2⟩ := ih.2 q
      refine ⟨congrArg (· + 1) i1, ?_⟩
      rw [← i2]
      simp [lel, e]
    · omega
theorem lcp_text_end {w t : List Nat} (h : lcp w t = t.length) (hw : t.length < w.length) : lel w t = false := by
  cases q : lel w t with
  | false => rfl
  | true =>
    have h1 : pfx t w = true := by
      have := take_pfx (w := w) (t := t) (n := t.length) (by omega)
      rwa [List.take_length] at this
    have h2 := between (p := w) (u := w) (v := t) (x := w) q (pfx_lel h1) (pfx_refl w) (pfx_refl w)
    have := pfx_len h2
    omega

/-! tables -/
noncomputable abbrev Tab := List (List Nat × Int × Int)
noncomputable def Tab.w (T : Tab) (i : Nat) : List Nat := ((T[i]?).map (·.1)).getD []
noncomputable def Tab.sub (T : Tab) (i : Nat) : Int := ((T[i]?).map (·.2.1)).getD 0
noncomputable def Tab.res (T : Tab) (i : Nat) : Int := ((T[i]?).map (·.2.2)).getD 0

noncomputable def Tab.okB (T : Tab) : Bool :=
  decide (2 ≤ T.length) && decide (T.length ≤ 100) &&
  (List.range T.length).all fun i =>
    decide ((T.w i).length ≤ 100) &&
    ((List.range T.length).all fun j => !(decide (i < j)) || (lel (T.w i) (T.w j) && !(lel (T.w j) (T.w i)))) &&
    (if T.sub i = -1 then (List.range T.length).all fun k => k == i || !(pfx (T.w k) (T.w i))
     else decide (0 ≤ T.sub i) && decide ((T.sub i).toNat < i) && pfx (T.w (T.sub i).toNat) (T.w i) && (List.range T.length).all fun k => k == i || !(pfx (T.w k) (T.w i)) || pfx (T.w k) (T.w (T.sub i).toNat))

structure Tab.Ok (T : Tab) : Prop where
  two : 2 ≤ T.length
  small : T.length ≤ 100
  len : ∀ i, i < T.length → (T.w i).length ≤ 100
  sorted : ∀ i j, i < j → j < T.length → lel (T.w i) (T.w j) = true ∧ lel (T.w j) (T.w i) = false
  none : ∀ i, i < T.length → T.sub i = -1 → ∀ k, k < T.length → pfx (T.w k) (T.w i) = true → k = i
  some : ∀ i, i < T.length → T.sub i ≠ -1 → 0 ≤ T.sub i ∧ (T.sub i).toNat < i ∧ pfx (T.w (T.sub i).toNat) (T.w i) = true ∧ ∀ k, k < T.length → pfx (T.w k) (T.w i) = true → k = i ∨ pfx (T.w k) (T.w (T.sub i).toNat) = true

theorem Tab.ok_of {T : Tab} (h : T.okB = true) : T.Ok := by
  unfold Tab.okB at h
  simp only [Bool.and_eq_true, decide_eq_true_eq, List.all_eq_true, List.mem_range] at h
  obtain ⟨⟨h2, h100⟩, h⟩ := h
  refine ⟨h2, h100, fun i hi => (h i hi).1.1, fun i j hij hj => ?_, fun i hi hs k hk hp => ?_, fun i hi hs => ?_⟩
  · have := (h i (Nat.lt_trans hij hj)).1.2 j hj
    simpa [hij] using this
  · have := (h i hi).2
    rw [if_pos hs] at this
    simp only [List.all_eq_true, List.mem_range, Bool.or_eq_true, beq_iff_eq, Bool.not_eq_true'] at this
    rcases this k hk with q | q
    · exact q
    · rw [q] at hp; cases hp
  · have := (h i hi).2
    rw [if_neg hs] at this
    simp only [List.all_eq_true, List.mem_range, Bool.or_eq_true, Bool.and_eq_true, decide_eq_true_eq, beq_iff_eq, Bool.not_eq_true'] at this
    obtain ⟨⟨⟨a, b⟩, c⟩, d⟩ := this
    refine ⟨a, b, c, fun k hk hp => ?_⟩
    rcases d k hk with (q | q) | q
    · exact .inl q
    · rw [q] at hp; cases hp
    · exact .inr q

/-- the longest entry that begins the text -/
noncomputable def Found (T : Tab) (t : List Nat) : Option (List Nat × Int) → Prop
  | some (w, r) => ∃ i, i < T.length ∧ T.w i = w ∧ T.res i = r ∧ pfx w t = true ∧ ∀ k, k < T.length → pfx (T.w k) t = true → pfx (T.w k) w = true
  | none => ∀ k, k < T.length → pfx (T.w k) t = false

/-- behind the search: the last entry not above the text -/
noncomputable def Stood (T : Tab) (t : List Nat) (i ci : Nat) : Prop :=
  i < T.length ∧ ((lel (T.w i) t = true ∧ ci = lcp (T.w i) t ∧ (i + 1 < T.length → lel (T.w (i + 1)) t = false)) ∨ (i = 0 ∧ ci = 0 ∧ lel (T.w 0) t = false))

/-- along the links -/
noncomputable def Chain (T : Tab) (t : List Nat) (ci i : Nat) : Prop :=
  i < T.length ∧ ((∃ i₀, pfx (T.w i) (T.w i₀) = true ∧ ci = lcp (T.w i₀) t ∧ ∀ k, k < T.length → pfx (T.w k) t = true → pfx (T.w k) (T.w i) = true) ∨ (i = 0 ∧ ci = 0 ∧ lel (T.w 0) t = false))

theorem Tab.Ok.mono {T : Tab} (O : T.Ok) {i j : Nat} (h : i ≤ j) (hj : j < T.length) : lel (T.w i) (T.w j) = true := by
  rcases Nat.lt_or_eq_of_le h with h | h
  · exact (O.sorted i j h hj).1
  · subst h; exact pfx_lel (pfx_refl _)

theorem Stood.chain {T : Tab} (O : T.Ok) {t : List Nat} {i ci : Nat} (h : Stood T t i ci) : Chain T t ci i := by
  obtain ⟨hi, h | h⟩ := h
  · obtain ⟨h1, h2, h3⟩ := h
    refine ⟨hi, .inl ⟨i, pfx_refl _, h2, fun k hk hp => ?_⟩⟩
    have hki : k ≤ i := by
      refine Nat.le_of_not_lt fun q => ?_
      have q1 : i + 1 < T.length := by omega
      have := h3 q1
      have m := O.mono (show i + 1 ≤ k by omega) hk
      rw [lel_trans m (pfx_lel hp)] at this
      cases this
    exact between (O.mono hki hi) h1 (pfx_refl _) hp
  · exact ⟨hi, .inr h⟩

theorem Chain.hit {T : Tab} {t : List Nat} {ci i : Nat} (h : Chain T t ci i) (hl : (T.w i).length ≤ ci) : Found T t (some (T.w i, T.res i)) := by
  obtain ⟨hi, ⟨i₀, h1, h2, h3⟩ | ⟨h1, h2, h3⟩⟩ := h
  · refine ⟨i, hi, rfl, rfl, ?_, h3⟩
    have a := take_pfx (w := T.w i₀) (t := t) (n := ci) (by omega)
    have c : pfx (T.w i) (t.take ci) = true := pfx_two h1 a (by
      have := (lcp_le (T.w i₀) t).2
      rw [List.length_take]; omega)
    exact pfx_trans c (take_self_pfx t ci)
  · subst h1
    subst h2
    have : T.w 0 = [] := List.eq_nil_of_length_eq_zero (by omega)
    rw [this] at h3
    simp [lel] at h3
theorem Chain.miss {T : Tab} (O : T.Ok) {t : List Nat} {ci i : Nat} (h : Chain T t ci i) (hl : ci < (T.w i).length) :
    (T.sub i = -1 → Found T t none) ∧ (T.sub i ≠ -1 → 0 ≤ T.sub i ∧ (T.sub i).toNat < i ∧ Chain T t ci (T.sub i).toNat) := by
  obtain ⟨hi, ⟨i₀, h1, h2, h3⟩ | ⟨h1, h2, h3⟩⟩ := h
  · have hne : pfx (T.w i) t = false := by
      cases q : pfx (T.w i) t with
      | false => rfl
      | true =>
        have : (T.w i).length ≤ lcp (T.w i₀) t := by
          refine pfx_take (pfx_len q) ?_
          have e : t.take (T.w i).length = T.w i := by
            have := pfx_eq (u := T.w i) (v := t.take (T.w i).length) (pfx_two q (take_self_pfx t _) (by rw [List.length_take]; have := pfx_len q; omega)) (by rw [List.length_take]; have := pfx_len q; omega)
            exact this.symm
          rw [e]; exact h1
        omega
    refine ⟨fun hs k hk => ?_, fun hs => ?_⟩
    · cases q : pfx (T.w k) t with
      | false => rfl
      | true =>
        have := O.none i hi hs k hk (h3 k hk q)
        subst this
        rw [hne] at q; cases q
    · obtain ⟨a, b, c, d⟩ := O.some i hi hs
      refine ⟨a, b, Nat.lt_trans b hi, .inl ⟨i₀, pfx_trans c h1, h2, fun k hk hp => ?_⟩⟩
      rcases d k hk (h3 k hk hp) with q | q
      · subst q; rw [hne] at hp; cases hp
      · exact q
  · subst h1
    refine ⟨fun hs k hk => ?_, fun hs => ?_⟩
    · cases q : pfx (T.w k) t with
      | false => rfl
      | true =>
        rw [lel_trans (O.mono (Nat.zero_le _) hk) (pfx_lel q)] at h3
        cases h3
    · obtain ⟨a, b, _⟩ := O.some 0 hi hs
      omega
end Mine
namespace Mine
open PySem PySem.W PySem.Calls PyProof.Rows
set_option autoImplicit false
set_option maxRecDepth 100000

noncomputable def vsF (T : Tab) : List V := T.map fun e => .amg e.1 e.2.1 e.2.2
theorem vsF_at {T : Tab} {i : Nat} (h : i < T.length) : (vsF T)[i]? = some (.amg (T.w i) (T.sub i) (T.res i)) := by
  unfold vsF Tab.w Tab.sub Tab.res
  rw [List.getElem?_map, List.getElem?_eq_getElem h]
  rfl

/-- the inner loop's body, as the printer wrote it -/
noncomputable def inF : Ss := (.cons (.iff (.cmp .eq (.bin .add (.var 3) (.var 10)) (.var 4)) (.cons (.asg 9 (.neg 1))
        (.cons .brk
        .nil)) .nil)
      (.cons (.asg 9 (.bin .sub (.ord (.idx (.fld 0) (.bin .add (.var 3) (.var 10)))) (.ord (.idx (.ama 0 (.var 11)) (.var 12)))))
      (.cons (.iff (.cmp .ne (.var 9) (.int 0)) (.cons .brk
        .nil) .nil)
      (.cons (.aug 10 .add (.int 1))
      .nil))))

theorem sub_neg_iff {p q : Nat} (h : p ≠ q) : ((q : Int) - (p : Int) < 0) ↔ ¬ (p < q) := by omega
theorem ints_succ (n : Int) (f : Nat) : ((List.range (f + 1)).map fun (i : Nat) => V.int (n + (i : Int))) = .int n :: (List.range f).map fun (i : Nat) => V.int (n + 1 + (i : Int)) := by
  rw [List.range_succ_eq_map, List.map_cons, List.map_map]
  congr 1
  · simp
  · refine List.map_congr_left fun i _ => ?_
    show V.int (n + ((i + 1 : Nat) : Int)) = _
    congr 1
    push_cast
    omega

theorem inner_f {Γ : Env'} {m : Ms} (ok : m.Ok) {w : List Nat} {sb rs : Int} {Q : Fl → St → Prop} {v i j ci cj fk k : Option V} (hw : w.length ≤ 100)
    (hQ : ∀ (dd : Int) (x : Option V), (dd < 0 ↔ lel w (m.cur.drop m.c.toNat) = false) →
      Q .next ⟨[v, i, j, some (.int m.c), some (.int m.l), ci, cj, fk, k, some (.int dd), some (.int (lcp w (m.cur.drop m.c.toNat))), some (.amg w sb rs), x], m.fl⟩) :
    ∀ (fuel n : Nat) (x : Option V), n + fuel = w.length → n ≤ lcp w (m.cur.drop m.c.toNat) →
      loop 12 (wpSs Γ inF) ((List.range fuel).map fun (i : Nat) => V.int ((n : Int) + (i : Int))) ⟨[v, i, j, some (.int m.c), some (.int m.l), ci, cj, fk, k, some (.int 0), some (.int n), some (.amg w sb rs), x], m.fl⟩ Q
  | 0, n, x, hn, hl => by
    simp only [List.range_zero, List.map_nil, loop]
    have h1 := (lcp_le w (m.cur.drop m.c.toNat)).1
    have e : n = lcp w (m.cur.drop m.c.toNat) := by omega
    have h2 := pfx_lel (lcp_full.mp (show w.length ≤ lcp w (m.cur.drop m.c.toNat) by omega))
    have := hQ 0 x (by simp [h2])
    rwa [← e] at this
  | fuel + 1, n, x, hn, hl => by
    obtain ⟨o1, o2, o3, o4, o5⟩ := ok
    rw [ints_succ]
    simp only [loop, pt, List.set_cons_zero, List.set_cons_succ, inF, wpSs, wpS, wpT, wpE, gl0, gls, gf0, op2, op2i, cm, beq_iff_eq]
    have ht : (m.cur.drop m.c.toNat).length = m.cur.length - m.c.toNat := List.length_drop
    have hlt := (lcp_le w (m.cur.drop m.c.toNat)).2
    split
    · rename_i h1
      have e1 : n = (m.cur.drop m.c.toNat).length := by omega
      have e2 : lcp w (m.cur.drop m.c.toNat) = (m.cur.drop m.c.toNat).length := by omega
      have := hQ (-1) (some (.int n)) (by simp [lcp_text_end e2 (by omega)])
      rw [e2, ← e1] at this
      exact this
    · rename_i h1
      have h2 : n < (m.cur.drop m.c.toNat).length := by omega
      have g1 : m.cur[(m.c + n).toNat]? = some (m.cur.getD (m.c + n).toNat 0) := getD_some (by omega) (by omega)
      have g2 : w[((n : Int)).toNat]? = some (w.getD ((n : Int)).toNat 0) := getD_some (by omega) (by omega)
      have g3 : (m.cur.drop m.c.toNat)[n]? = some (m.cur.getD (m.c + n).toNat 0) := by
        rw [List.getElem?_drop, show m.c.toNat + n = (m.c + n).toNat from by omega]; exact g1
      have g4 : w[n]? = some (w.getD ((n : Int)).toNat 0) := by simpa using g2
      obtain ⟨s1, s2⟩ := lcp_stop hl g4 g3
      simp only [item, show (0 : Int) ≤ m.c + n by omega, show (0 : Int) ≤ (n : Int) by omega, if_true, amaOf]
      refine ⟨_, g1, by omega, _, g2, by omega, ?_⟩
      split
      · rename_i h3
        have h4 : w.getD ((n : Int)).toNat 0 ≠ m.cur.getD (m.c + n).toNat 0 := fun q => by rw [q, Int.sub_self] at h3; cases h3
        obtain ⟨a, b⟩ := s2 h4
        have := hQ ((m.cur.getD (m.c + n).toNat 0 : Nat) - (w.getD ((n : Int)).toNat 0 : Nat)) (some (.int n)) (by
          rw [Bool.eq_false_iff]
          exact (sub_neg_iff h4).trans (not_congr b.symm))
        rw [← a] at this
        exact this
      · rename_i h3
        have h4 : w.getD ((n : Int)).toNat 0 = m.cur.getD (m.c + n).toNat 0 := by
          simp only [bne_iff_ne, ne_eq, Decidable.not_not] at h3
          omega
        have := inner_f (Γ := Γ) (Q := Q) (sb := sb) (rs := rs) ⟨o1, o2, o3, o4, o5⟩ hw hQ fuel (n + 1) (some (.int n)) (by omega) (s1 h4)
        have e0 : ((m.cur.getD (m.c + n).toNat 0 : Nat) : Int) - (w.getD ((n : Int)).toNat 0 : Nat) = 0 := by rw [h4]; omega
        rw [e0]
        push_cast at this
        exact this

/-- what stands ahead of each turn of the search -/
structure Turn (T : Tab) (t : List Nat) (i j ci cj : Nat) (fk : Bool) : Prop where
  lt : i < j
  le : j ≤ T.length
  pos : 0 < i → lel (T.w i) t = true ∧ ci = lcp (T.w i) t ∧ i + 1 < j
  zero : i = 0 → ci = 0 ∨ (ci = lcp (T.w 0) t ∧ lel (T.w 0) t = true)
  up : j < T.length → lel (T.w j) t = false ∧ cj = lcp (T.w j) t
  top : j = T.length → cj = 0
  fki : fk = true → i = 0 ∧ j = 1

theorem Turn.common {T : Tab} (O : T.Ok) {t : List Nat} {i j ci cj : Nat} {fk : Bool} (h : Turn T t i j ci cj fk) : min ci cj ≤ lcp (T.w (i + (j - i) / 2)) t := by
  have lt := h.lt
  have le := h.le
  by_cases hk : (j - i) / 2 = 0
  · rw [hk]
    have hi : i = 0 := Nat.eq_zero_of_not_pos fun q => by have := (h.pos q).2.2; omega
    subst hi
    rcases h.zero rfl with q | q
    · omega
    · have := q.1
      show min ci cj ≤ lcp (T.w 0) t
      omega
  · have hci : ci = 0 ∨ ci = lcp (T.w i) t := by
      by_cases q : 0 < i
      · exact .inr (h.pos q).2.1
      · have : i = 0 := by omega
        subst this
        rcases h.zero rfl with q | q
        · exact .inl q
        · exact .inr q.1
    rcases hci with q | q
    · omega
    · by_cases q2 : j < T.length
      · have hcj := (h.up q2).2
        have := lcp_between (u := T.w i) (v := T.w (i + (j - i) / 2)) (x := T.w j) (t := t) (O.mono (by omega) (by omega)) (O.mono (by omega) q2)
        omega
      · have := h.top (by omega)
        omega

/-- the second half of a turn -/
noncomputable def tailF : Ss := (.cons (.iff (.cmp .lt (.var 9) (.int 0)) (.cons (.asg 2 (.var 8))
      (.cons (.asg 6 (.var 10))
      .nil)) (.cons (.asg 1 (.var 8))
      (.cons (.asg 5 (.var 10))
      .nil)))
    (.cons (.iff (.cmp .le (.bin .sub (.var 2) (.var 1)) (.int 1)) (.cons (.iff (.cmp .gt (.var 1) (.int 0)) (.cons .brk
        .nil) .nil)
      (.cons (.iff (.cmp .eq (.var 2) (.var 1)) (.cons .brk
        .nil) .nil)
      (.cons (.iff (.e (.var 7)) (.cons .brk
        .nil) .nil)
      (.cons (.asg 7 (.bool true))
      .nil)))) .nil)
    .nil))

noncomputable def stF (m : Ms) (vs : V) (i j ci cj : Nat) (cc ll : Int) (fk : Bool) (k d cm w x : Option V) : St :=
  ⟨[some vs, some (.int i), some (.int j), some (.int cc), some (.int ll), some (.int ci), some (.int cj), some (.bool fk), k, d, cm, w, x], m.fl⟩

theorem tail_f {Γ : Env'} {T : Tab} (O : T.Ok) {t : List Nat} {m : Ms} {vs : V} {cc ll : Int} {i j ci cj : Nat} {fk : Bool} (h : Turn T t i j ci cj fk) {dd : Int} {w x : Option V}
    (hd : dd < 0 ↔ lel (T.w (i + (j - i) / 2)) t = false) {Q : Fl → St → Prop}
    (hQ : ∀ i j ci cj fk k d cm w x, Stood T t i ci → Q .brk (stF m vs i j ci cj cc ll fk k d cm w x))
    (hN : ∀ i' j' ci' cj' fk' k d cm w x, Turn T t i' j' ci' cj' fk' → 2 * (j' - i') + (if fk' then 0 else 1) < 2 * (j - i) + (if fk then 0 else 1) → Q .next (stF m vs i' j' ci' cj' cc ll fk' k d cm w x)) :
    wpSs Γ tailF (stF m vs i j ci cj cc ll fk (some (.int ((i + (j - i) / 2 : Nat) : Int))) (some (.int dd)) (some (.int (lcp (T.w (i + (j - i) / 2)) t))) w x) Q := by
  have lt := h.lt
  have le := h.le
  simp only [tailF, stF, wpSs, wpS, wpT, wpE, gl0, gls, op2, cm, pt, List.set_cons_zero, List.set_cons_succ, decide_eq_true_eq, beq_iff_eq]
  generalize hkk : i + (j - i) / 2 = k at *
  have hk1 : i ≤ k := by omega
  have hk2 : k < j := by omega
  split
  · rename_i h1
    have hf := hd.mp h1
    split
    · rename_i h2
      split
      · rename_i h3
        have := h.pos (by omega)
        have e : k = i + 1 := by omega
        exact hQ i k ci (lcp (T.w k) t) fk _ _ _ _ _ ⟨by omega, .inl ⟨this.1, this.2.1, fun _ => e ▸ hf⟩⟩
      · rename_i h3
        have hi : i = 0 := by omega
        subst hi
        split
        · rename_i h4
          have hk0 : k = 0 := by omega
          subst hk0
          refine hQ 0 0 ci _ fk _ _ _ _ _ ⟨by omega, .inr ⟨rfl, ?_, hf⟩⟩
          rcases h.zero rfl with q | q
          · exact q
          · rw [q.2] at hf; cases hf
        · rename_i h4
          cases fk with
          | true =>
            have := h.fki rfl
            omega
          | false =>
            have hk1' : k = 1 := by omega
            subst hk1'
            simp only [Bool.false_eq_true, if_false]
            exact hN 0 1 ci (lcp (T.w 1) t) true _ _ _ _ _ ⟨by omega, by omega, fun q => absurd q (by omega), h.zero, fun _ => ⟨hf, rfl⟩, fun q => absurd q (by omega), fun _ => ⟨rfl, rfl⟩⟩ (by simp; omega)
    · rename_i h2
      have hfk : fk = false := by
        cases fk with
        | false => rfl
        | true => have := h.fki rfl; omega
      subst hfk
      exact hN i k ci (lcp (T.w k) t) false _ _ _ _ _ ⟨by omega, by omega, fun q => ⟨(h.pos q).1, (h.pos q).2.1, by omega⟩, h.zero, fun _ => ⟨hf, rfl⟩, fun q => absurd q (by omega), fun q => by cases q⟩ (by simp; omega)
  · rename_i h1
    have hf : lel (T.w k) t = true := by
      cases q : lel (T.w k) t with
      | true => rfl
      | false => exact absurd (hd.mpr q) h1
    split
    · rename_i h2
      have hj : j = k + 1 := by omega
      split
      · rename_i h3
        exact hQ k j (lcp (T.w k) t) cj fk _ _ _ _ _ ⟨by omega, .inl ⟨hf, rfl, fun q => by rw [← hj]; exact (h.up (by omega)).1⟩⟩
      · rename_i h3
        have hk0 : k = 0 := by omega
        subst hk0
        have hi : i = 0 := by omega
        subst hi
        split
        · rename_i h4; omega
        · cases fk with
          | true =>
            simp only [if_true]
            exact hQ 0 j (lcp (T.w 0) t) cj true _ _ _ _ _ ⟨by omega, .inl ⟨hf, rfl, fun q => by rw [← hj]; exact (h.up (by omega)).1⟩⟩
          | false =>
            simp only [Bool.false_eq_true, if_false]
            exact hN 0 j (lcp (T.w 0) t) cj true _ _ _ _ _ ⟨by omega, h.le, fun q => absurd q (by omega), fun _ => .inr ⟨rfl, hf⟩, h.up, h.top, fun _ => ⟨rfl, by omega⟩⟩ (by simp)
    · rename_i h2
      have hfk : fk = false := by
        cases fk with
        | false => rfl
        | true => have := h.fki rfl; omega
      subst hfk
      exact hN k j (lcp (T.w k) t) cj false _ _ _ _ _ ⟨by omega, h.le, fun q => ⟨hf, rfl, by omega⟩, fun q => by subst q; exact .inr ⟨rfl, hf⟩, h.up, h.top, fun q => by cases q⟩ (by simp; omega)

noncomputable def bodyF : Ss := (.cons (.asg 8 (.bin .add (.var 1) (.bin .shr (.bin .sub (.var 2) (.var 1)) (.int 1))))
    (.cons (.asg 9 (.int 0))
    (.cons (.amin 10 (.var 5) (.var 6))
    (.cons (.asg 11 (.idx (.var 0) (.var 8)))
    (.cons (.forR 12 (.cons (.var 10) (.cons (.len (.ama 0 (.var 11))) .nil)) inF)
    tailF)))))

theorem half_int (a b : Nat) (h : b ≤ a) : Int.fdiv ((a : Int) - (b : Int)) 2 = (((a - b) / 2 : Nat) : Int) := by
  rw [Int.fdiv_eq_ediv_of_nonneg _ (by decide)]
  omega

theorem outer_f {Γ : Env'} (M : Γ.Mono) {T : Tab} (O : T.Ok) {m : Ms} (ok : m.Ok) {Q : Fl → St → Prop}
    (hQ : ∀ i j ci cj fk k d cm w x, Stood T (m.cur.drop m.c.toNat) i ci → Q .next (stF m (.lst (vsF T)) i j ci cj m.c m.l fk k d cm w x)) :
    wpS Γ (.whl (.e (.bool true)) bodyF) (stF m (.lst (vsF T)) 0 T.length 0 0 m.c m.l false none none none none none) Q := by
  refine while_next (fun n σ => ∃ i j ci cj fk k d cm w x, Turn T (m.cur.drop m.c.toNat) i j ci cj fk ∧ n = 2 * (j - i) + (if fk then 0 else 1) ∧ σ = stF m (.lst (vsF T)) i j ci cj m.c m.l fk k d cm w x) _
    ⟨0, T.length, 0, 0, false, none, none, none, none, none, ⟨by have := O.two; omega, Nat.le_refl _, fun q => absurd q (by omega), fun _ => .inl rfl, fun q => absurd q (by omega), fun _ => rfl, fun q => by cases q⟩, rfl, rfl⟩ ?_
  rintro n σ ⟨i, j, ci, cj, fk, k, d, cm, w, x, h, rfl, rfl⟩
  have lt := h.lt
  have le := h.le
  have sm := O.small
  have hk : i + (j - i) / 2 < T.length := by omega
  simp only [wpT, wpE, if_true]
  simp only [bodyF, stF, wpSs, wpS, wpE, wpEs, gl0, gls, op2, pt, List.set_cons_zero, List.set_cons_succ, true_and, amaOf, lenOf]
  have ek : (i : Int) + Int.fdiv ((j : Int) - (i : Int)) 2 = ((i + (j - i) / 2 : Nat) : Int) := by rw [half_int _ _ (by omega)]; push_cast; rfl
  have em : (if (cj : Int) < (ci : Int) then (cj : Int) else (ci : Int)) = ((min ci cj : Nat) : Int) := by split <;> omega
  rw [ek, em]
  simp only [item]
  refine ⟨.amg (T.w (i + (j - i) / 2)) (T.sub (i + (j - i) / 2)) (T.res (i + (j - i) / 2)), ?_, by omega, by omega, ?_⟩
  · rw [Int.toNat_natCast]; exact vsF_at hk
  have hlen := O.len _ hk
  have hmin := h.common O
  have hll := (lcp_le (T.w (i + (j - i) / 2)) (m.cur.drop m.c.toNat)).1
  refine ⟨by omega, [((min ci cj : Nat) : Int), ((T.w (i + (j - i) / 2)).length : Int)], _, rfl, rfl, ?_, ?_⟩
  · intro y hy
    rcases List.mem_cons.mp hy with rfl | hy
    · omega
    · rcases List.mem_cons.mp hy with rfl | hy
      · omega
      · cases hy
  rw [List.map_map]
  have ef : (((T.w (i + (j - i) / 2)).length : Int) - ((min ci cj : Nat) : Int)).toNat = (T.w (i + (j - i) / 2)).length - min ci cj := by omega
  rw [ef]
  refine inner_f ok hlen (fun dd x' hd => ?_) ((T.w (i + (j - i) / 2)).length - min ci cj) (min ci cj) x (by omega) hmin
  exact tail_f (t := m.cur.drop m.c.toNat) O h hd (fun i j ci cj fk k d cm w x st => hQ i j ci cj fk k d cm w x st)
    fun i' j' ci' cj' fk' k d cm w x h' hlt => ⟨_, hlt, i', j', ci', cj', fk', k, d, cm, w, x, h', rfl, rfl⟩

noncomputable def linkF : Ss := (.cons (.asg 11 (.idx (.var 0) (.var 1)))
    (.cons (.iff (.cmp .ge (.var 5) (.len (.ama 0 (.var 11)))) (.cons (.asf 1 (.bin .add (.var 3) (.len (.ama 0 (.var 11)))))
      (.cons (.ret (.ama 2 (.var 11)))
      .nil)) .nil)
    (.cons (.asg 1 (.ama 1 (.var 11)))
    (.cons (.iff (.cmp .lt (.var 1) (.int 0)) (.cons (.ret (.int 0))
      .nil) .nil)
    .nil))))

theorem links_f {Γ : Env'} {T : Tab} (O : T.Ok) {t : List Nat} {m : Ms} {cc ll : Int} {Q : Fl → St → Prop} {i j ci cj : Nat} {fk : Bool} {k d cq w x : Option V} (h : Stood T t i ci)
    (hS : ∀ (v : List Nat) (r : Int) (loc : List (Option V)), Found T t (some (v, r)) → Q (.ret (.int r)) ⟨loc, { m with c := cc + v.length }.fl⟩)
    (hN : ∀ (loc : List (Option V)), Found T t none → Q (.ret (.int 0)) ⟨loc, m.fl⟩) :
    wpS Γ (.whl (.e (.bool true)) linkF) (stF m (.lst (vsF T)) i j ci cj cc ll fk k d cq w x) Q := by
  refine while_next (fun n σ => ∃ i w, n = i ∧ Chain T t ci i ∧ σ = stF m (.lst (vsF T)) i j ci cj cc ll fk k d cq w x) i ⟨i, w, rfl, h.chain O, rfl⟩ ?_
  rintro n σ ⟨i', w, rfl, hc, rfl⟩
  have hi := hc.1
  have sm := O.small
  have hlen := O.len _ hi
  simp only [wpT, wpE, if_true]
  simp only [linkF, stF, wpSs, wpS, wpT, wpE, gl0, gls, pt, List.set_cons_zero, List.set_cons_succ, item]
  refine ⟨.amg (T.w n) (T.sub n) (T.res n), by rw [Int.toNat_natCast]; exact vsF_at hi, by omega, by omega, ?_⟩
  simp only [amaOf, lenOf, cm, op2, gl0, gls, decide_eq_true_eq]
  refine ⟨by omega, ?_⟩
  split
  · rename_i h1
    have hit := hc.hit (by omega)
    refine ⟨by omega, ?_⟩
    rw [sf1]
    exact hS _ _ _ hit
  · rename_i h1
    have hms := hc.miss O (by omega)
    split
    · rename_i h2
      have e1 : T.sub n = -1 := by
        by_cases q : T.sub n = -1
        · exact q
        · have := (hms.2 q).1; omega
      exact hN _ (hms.1 e1)
    · rename_i h2
      have hne : T.sub n ≠ -1 := by omega
      obtain ⟨a, b, c⟩ := hms.2 hne
      refine ⟨(T.sub n).toNat, b, (T.sub n).toNat, some (.amg (T.w n) (T.sub n) (T.res n)), rfl, c, ?_⟩
      rw [Int.toNat_of_nonneg a]

noncomputable def sp_find : Spec := fun Vs F Q => ∃ (T : Tab) (m : Ms), Vs = [.lst (vsF T)] ∧ F = m.fl ∧ m.Ok ∧ T.Ok ∧ ∀ r, Found T (m.cur.drop m.c.toNat) r → match r with
  | some (w, r) => Q (.int r) { m with c := m.c + w.length }.fl
  | none => Q (.int 0) m.fl
theorem v_find_among (Γ : Env') (M : Γ.Mono) : ∀ Vs F Q, sp_find Vs F Q → bodySp Γ m_find_among 1 12 Vs F Q := by
  rintro Vs F Q ⟨T, m, rfl, rfl, ok, O, h⟩
  refine ⟨rfl, ?_⟩
  show wpSs Γ m_find_among ⟨[some (.lst (vsF T)), none, none, none, none, none, none, none, none, none, none, none, none], m.fl⟩ _
  have sm := O.small
  have hl : (vsF T).length = T.length := by unfold vsF; exact List.length_map ..
  have e : m_find_among = (.cons (.asg 1 (.int 0)) (.cons (.asg 2 (.len (.var 0))) (.cons (.asg 3 (.fld 1)) (.cons (.asg 4 (.fld 2)) (.cons (.asg 5 (.int 0)) (.cons (.asg 6 (.int 0)) (.cons (.asg 7 (.bool false))
    (.cons (.whl (.e (.bool true)) bodyF) (.cons (.whl (.e (.bool true)) linkF) (.cons (.ret (.neg 1)) .nil)))))))))) := rfl
  rw [e]
  simp only [wpSs]
  simp only [wpS, wpE, gl0, gls, gf1, gf2, pt, List.set_cons_zero, List.set_cons_succ, lenOf, hl]
  refine ⟨by omega, ?_⟩
  have ho := outer_f (Γ := Γ) M O ok (Q := fun f σ => match f with
    | .next => wpSs Γ (.cons (.whl (.e (.bool true)) linkF) (.cons (.ret (.neg 1)) .nil)) σ fun fl σ => (match fl with | .ret W => Q W σ.fl | .next => Q .none σ.fl | _ => False)
    | f => (match f with | .ret W => Q W σ.fl | .next => Q .none σ.fl | _ => False)) (fun i j ci cj fk k d cq w x st => ?_)
  · exact ho
  · simp only [wpSs]
    refine links_f O st (fun v r loc hf => ?_) fun loc hf => ?_
    · exact h _ hf
    · exact h _ hf
end Mine
namespace Mine
open PySem PySem.W PySem.Calls PyProof.Rows
set_option autoImplicit false
set_option maxRecDepth 100000

noncomputable def vsB (T : Tab) : List V := T.map fun e => .amg e.1.reverse e.2.1 e.2.2
theorem vsB_at {T : Tab} {i : Nat} (h : i < T.length) : (vsB T)[i]? = some (.amg (T.w i).reverse (T.sub i) (T.res i)) := by
  unfold vsB Tab.w Tab.sub Tab.res
  rw [List.getElem?_map, List.getElem?_eq_getElem h]
  rfl

/-- the text ahead of a place, read backwards -/
noncomputable def back (l : List Nat) (i : Int) : List Nat := (l.take i.toNat).reverse
theorem back_len {l : List Nat} {i : Int} (h0 : 0 ≤ i) (h : i ≤ l.length) : ((back l i).length : Int) = i := by
  unfold back
  rw [List.length_reverse, List.length_take]
  omega
theorem back_at {l : List Nat} {i : Int} {n : Nat} (h0 : 0 ≤ i) (h : i ≤ l.length) (hn : (n : Int) < i) : (back l i)[n]? = some (l.getD (i - 1 - n).toNat 0) := by
  unfold back
  have h1 : n < (l.take i.toNat).length := by rw [List.length_take]; omega
  rw [List.getElem?_reverse h1]
  have h2 : (l.take i.toNat).length - 1 - n = (i - 1 - n).toNat := by rw [List.length_take]; omega
  rw [h2, List.getElem?_take, if_pos (by omega)]
  exact getD_some (i := i - 1 - n) (by omega) (by omega)

noncomputable def inB : Ss := (.cons (.iff (.cmp .eq (.bin .sub (.var 3) (.var 10)) (.var 4)) (.cons (.asg 9 (.neg 1))
        (.cons .brk
        .nil)) .nil)
      (.cons (.asg 9 (.bin .sub (.ord (.idx (.fld 0) (.bin .sub (.bin .sub (.var 3) (.int 1)) (.var 10)))) (.ord (.idx (.ama 0 (.var 11)) (.var 12)))))
      (.cons (.iff (.cmp .ne (.var 9) (.int 0)) (.cons .brk
        .nil) .nil)
      (.cons (.aug 10 .add (.int 1))
      .nil))))

theorem ints_down (n : Int) (f : Nat) : ((List.range (f + 1)).map fun (i : Nat) => V.int (n - (i : Int))) = .int n :: (List.range f).map fun (i : Nat) => V.int (n - 1 - (i : Int)) := by
  rw [List.range_succ_eq_map, List.map_cons, List.map_map]
  congr 1
  · simp
  · refine List.map_congr_left fun i _ => ?_
    show V.int (n - ((i + 1 : Nat) : Int)) = _
    congr 1
    push_cast
    omega

theorem inner_b {Γ : Env'} {m : Ms} (ok : m.Ok) (hlb : m.lb = 0) {w : List Nat} {sb rs : Int} {Q : Fl → St → Prop} {v i j ci cj fk k : Option V} (hw : w.length ≤ 100)
    (hQ : ∀ (dd : Int) (x : Option V), (dd < 0 ↔ lel w (back m.cur m.c) = false) →
      Q .next ⟨[v, i, j, some (.int m.c), some (.int m.lb), ci, cj, fk, k, some (.int dd), some (.int (lcp w (back m.cur m.c))), some (.amg w.reverse sb rs), x], m.fl⟩) :
    ∀ (fuel n : Nat) (x : Option V), n + fuel = w.length → n ≤ lcp w (back m.cur m.c) →
      loop 12 (wpSs Γ inB) ((List.range fuel).map fun (i : Nat) => V.int ((w.length : Int) - 1 - (n : Int) - (i : Int))) ⟨[v, i, j, some (.int m.c), some (.int m.lb), ci, cj, fk, k, some (.int 0), some (.int n), some (.amg w.reverse sb rs), x], m.fl⟩ Q
  | 0, n, x, hn, hl => by
    simp only [List.range_zero, List.map_nil, loop]
    have h1 := (lcp_le w (back m.cur m.c)).1
    have e : n = lcp w (back m.cur m.c) := by omega
    have h2 := pfx_lel (lcp_full.mp (show w.length ≤ lcp w (back m.cur m.c) by omega))
    have := hQ 0 x (by simp [h2])
    rwa [← e] at this
  | fuel + 1, n, x, hn, hl => by
    obtain ⟨o1, o2, o3, o4, o5⟩ := ok
    rw [ints_down]
    simp only [loop, pt, List.set_cons_zero, List.set_cons_succ, inB, wpSs, wpS, wpT, wpE, gl0, gls, gf0, op2, op2i, cm, beq_iff_eq]
    have ht := back_len (l := m.cur) (i := m.c) o1 (by omega)
    have hlt := (lcp_le w (back m.cur m.c)).2
    split
    · rename_i h1
      have e1 : n = (back m.cur m.c).length := by omega
      have e2 : lcp w (back m.cur m.c) = (back m.cur m.c).length := by omega
      have := hQ (-1) (some (.int ((w.length : Int) - 1 - (n : Int)))) (by simp [lcp_text_end e2 (by omega)])
      rw [e2, ← e1] at this
      exact this
    · rename_i h1
      have h2 : n < (back m.cur m.c).length := by omega
      have g1 : m.cur[(m.c - 1 - n).toNat]? = some (m.cur.getD (m.c - 1 - n).toNat 0) := getD_some (by omega) (by omega)
      have g2 : w.reverse[((w.length : Int) - 1 - (n : Int)).toNat]? = some (w.reverse.getD ((w.length : Int) - 1 - (n : Int)).toNat 0) := getD_some (by omega) (by rw [List.length_reverse]; omega)
      have g3 : (back m.cur m.c)[n]? = some (m.cur.getD (m.c - 1 - n).toNat 0) := back_at o1 (by omega) (by omega)
      have g4 : w[n]? = some (w.reverse.getD ((w.length : Int) - 1 - (n : Int)).toNat 0) := by
        rw [← g2, List.getElem?_reverse (by omega)]
        congr 1
        omega
      obtain ⟨s1, s2⟩ := lcp_stop hl g4 g3
      simp only [item, show (0 : Int) ≤ m.c - 1 - n by omega, show (0 : Int) ≤ (w.length : Int) - 1 - (n : Int) by omega, if_true, amaOf]
      refine ⟨_, g1, by omega, _, g2, by omega, ?_⟩
      split
      · rename_i h3
        have h4 : w.reverse.getD ((w.length : Int) - 1 - (n : Int)).toNat 0 ≠ m.cur.getD (m.c - 1 - n).toNat 0 := fun q => by rw [q, Int.sub_self] at h3; cases h3
        obtain ⟨a, b⟩ := s2 h4
        have := hQ ((m.cur.getD (m.c - 1 - n).toNat 0 : Nat) - (w.reverse.getD ((w.length : Int) - 1 - (n : Int)).toNat 0 : Nat)) (some (.int ((w.length : Int) - 1 - (n : Int)))) (by
          rw [Bool.eq_false_iff]
          exact (sub_neg_iff h4).trans (not_congr b.symm))
        rw [← a] at this
        exact this
      · rename_i h3
        have h4 : w.reverse.getD ((w.length : Int) - 1 - (n : Int)).toNat 0 = m.cur.getD (m.c - 1 - n).toNat 0 := by
          simp only [bne_iff_ne, ne_eq, Decidable.not_not] at h3
          omega
        have := inner_b (Γ := Γ) (Q := Q) (sb := sb) (rs := rs) ⟨o1, o2, o3, o4, o5⟩ hlb hw hQ fuel (n + 1) (some (.int ((w.length : Int) - 1 - (n : Int)))) (by omega) (s1 h4)
        have e0 : ((m.cur.getD (m.c - 1 - n).toNat 0 : Nat) : Int) - (w.reverse.getD ((w.length : Int) - 1 - (n : Int)).toNat 0 : Nat) = 0 := by rw [h4]; omega
        rw [e0]
        push_cast at this
        have e1 : (w.length : Int) - 1 - ((n : Int) + 1) = (w.length : Int) - 1 - (n : Int) - 1 := by omega
        rw [e1] at this
        exact this

noncomputable def bodyB : Ss := (.cons (.asg 8 (.bin .add (.var 1) (.bin .shr (.bin .sub (.var 2) (.var 1)) (.int 1))))
    (.cons (.asg 9 (.int 0))
    (.cons (.amin 10 (.var 5) (.var 6))
    (.cons (.asg 11 (.idx (.var 0) (.var 8)))
    (.cons (.forR 12 (.cons (.bin .sub (.bin .sub (.len (.ama 0 (.var 11))) (.int 1)) (.var 10)) (.cons (.neg 1) (.cons (.neg 1) .nil))) inB)
    tailF)))))

theorem outer_b {Γ : Env'} {T : Tab} (O : T.Ok) {m : Ms} (ok : m.Ok) (hlb : m.lb = 0) {Q : Fl → St → Prop}
    (hQ : ∀ i j ci cj fk k d cm w x, Stood T (back m.cur m.c) i ci → Q .next (stF m (.lst (vsB T)) i j ci cj m.c m.lb fk k d cm w x)) :
    wpS Γ (.whl (.e (.bool true)) bodyB) (stF m (.lst (vsB T)) 0 T.length 0 0 m.c m.lb false none none none none none) Q := by
  refine while_next (fun n σ => ∃ i j ci cj fk k d cm w x, Turn T (back m.cur m.c) i j ci cj fk ∧ n = 2 * (j - i) + (if fk then 0 else 1) ∧ σ = stF m (.lst (vsB T)) i j ci cj m.c m.lb fk k d cm w x) _
    ⟨0, T.length, 0, 0, false, none, none, none, none, none, ⟨by have := O.two; omega, Nat.le_refl _, fun q => absurd q (by omega), fun _ => .inl rfl, fun q => absurd q (by omega), fun _ => rfl, fun q => by cases q⟩, rfl, rfl⟩ ?_
  rintro n σ ⟨i, j, ci, cj, fk, k, d, cm, w, x, h, rfl, rfl⟩
  have lt := h.lt
  have le := h.le
  have sm := O.small
  have hk : i + (j - i) / 2 < T.length := by omega
  simp only [wpT, wpE, if_true]
  simp only [bodyB, stF, wpSs, wpS, wpE, wpEs, gl0, gls, op2, pt, List.set_cons_zero, List.set_cons_succ, true_and, amaOf, lenOf]
  have ek : (i : Int) + Int.fdiv ((j : Int) - (i : Int)) 2 = ((i + (j - i) / 2 : Nat) : Int) := by rw [half_int _ _ (by omega)]; push_cast; rfl
  have em : (if (cj : Int) < (ci : Int) then (cj : Int) else (ci : Int)) = ((min ci cj : Nat) : Int) := by split <;> omega
  rw [ek, em]
  simp only [item]
  refine ⟨.amg (T.w (i + (j - i) / 2)).reverse (T.sub (i + (j - i) / 2)) (T.res (i + (j - i) / 2)), ?_, by omega, by omega, ?_⟩
  · rw [Int.toNat_natCast]; exact vsB_at hk
  have hlen := O.len _ hk
  have hmin := h.common O
  have hll := (lcp_le (T.w (i + (j - i) / 2)) (back m.cur m.c)).1
  simp only [List.length_reverse]
  refine ⟨by omega, [((T.w (i + (j - i) / 2)).length : Int) - 1 - ((min ci cj : Nat) : Int), -1, -1], _, rfl, rfl, ?_, ?_⟩
  · intro y hy
    rcases List.mem_cons.mp hy with rfl | hy
    · omega
    · rcases List.mem_cons.mp hy with rfl | hy
      · omega
      · rcases List.mem_cons.mp hy with rfl | hy
        · omega
        · cases hy
  rw [List.map_map]
  have ef : (((T.w (i + (j - i) / 2)).length : Int) - 1 - ((min ci cj : Nat) : Int) - -1).toNat = (T.w (i + (j - i) / 2)).length - min ci cj := by omega
  rw [ef]
  refine inner_b ok hlb hlen (fun dd x' hd => ?_) ((T.w (i + (j - i) / 2)).length - min ci cj) (min ci cj) x (by omega) hmin
  exact tail_f (t := back m.cur m.c) O h hd (fun i j ci cj fk k d cm w x st => hQ i j ci cj fk k d cm w x st)
    fun i' j' ci' cj' fk' k d cm w x h' hlt => ⟨_, hlt, i', j', ci', cj', fk', k, d, cm, w, x, h', rfl, rfl⟩

noncomputable def linkB : Ss := (.cons (.asg 11 (.idx (.var 0) (.var 1)))
    (.cons (.iff (.cmp .ge (.var 5) (.len (.ama 0 (.var 11)))) (.cons (.asf 1 (.bin .sub (.var 3) (.len (.ama 0 (.var 11)))))
      (.cons (.ret (.ama 2 (.var 11)))
      .nil)) .nil)
    (.cons (.asg 1 (.ama 1 (.var 11)))
    (.cons (.iff (.cmp .lt (.var 1) (.int 0)) (.cons (.ret (.int 0))
      .nil) .nil)
    .nil))))

theorem links_b {Γ : Env'} {T : Tab} (O : T.Ok) {t : List Nat} {m : Ms} {cc ll : Int} {Q : Fl → St → Prop} {i j ci cj : Nat} {fk : Bool} {k d cq w x : Option V} (h : Stood T t i ci)
    (hS : ∀ (v : List Nat) (r : Int) (loc : List (Option V)), Found T t (some (v, r)) → Q (.ret (.int r)) ⟨loc, { m with c := cc - v.length }.fl⟩)
    (hN : ∀ (loc : List (Option V)), Found T t none → Q (.ret (.int 0)) ⟨loc, m.fl⟩) :
    wpS Γ (.whl (.e (.bool true)) linkB) (stF m (.lst (vsB T)) i j ci cj cc ll fk k d cq w x) Q := by
  refine while_next (fun n σ => ∃ i w, n = i ∧ Chain T t ci i ∧ σ = stF m (.lst (vsB T)) i j ci cj cc ll fk k d cq w x) i ⟨i, w, rfl, h.chain O, rfl⟩ ?_
  rintro n σ ⟨i', w, rfl, hc, rfl⟩
  have hi := hc.1
  have sm := O.small
  have hlen := O.len _ hi
  simp only [wpT, wpE, if_true]
  simp only [linkB, stF, wpSs, wpS, wpT, wpE, gl0, gls, pt, List.set_cons_zero, List.set_cons_succ, item]
  refine ⟨.amg (T.w n).reverse (T.sub n) (T.res n), by rw [Int.toNat_natCast]; exact vsB_at hi, by omega, by omega, ?_⟩
  simp only [amaOf, lenOf, cm, op2, decide_eq_true_eq, List.length_reverse]
  refine ⟨by omega, ?_⟩
  split
  · rename_i h1
    have hit := hc.hit (by omega)
    refine ⟨by omega, ?_⟩
    rw [sf1]
    exact hS _ _ _ hit
  · rename_i h1
    have hms := hc.miss O (by omega)
    split
    · rename_i h2
      have e1 : T.sub n = -1 := by
        by_cases q : T.sub n = -1
        · exact q
        · have := (hms.2 q).1; omega
      exact hN _ (hms.1 e1)
    · rename_i h2
      have hne : T.sub n ≠ -1 := by omega
      obtain ⟨a, b, c⟩ := hms.2 hne
      refine ⟨(T.sub n).toNat, b, (T.sub n).toNat, some (.amg (T.w n).reverse (T.sub n) (T.res n)), rfl, c, ?_⟩
      rw [Int.toNat_of_nonneg a]

noncomputable def sp_find_b : Spec := fun Vs F Q => ∃ (T : Tab) (m : Ms), Vs = [.lst (vsB T)] ∧ F = m.fl ∧ m.Ok ∧ m.lb = 0 ∧ T.Ok ∧ ∀ r, Found T (back m.cur m.c) r → match r with
  | some (w, r) => Q (.int r) { m with c := m.c - w.length }.fl
  | none => Q (.int 0) m.fl
theorem v_find_among_b (Γ : Env') : ∀ Vs F Q, sp_find_b Vs F Q → bodySp Γ m_find_among_b 1 12 Vs F Q := by
  rintro Vs F Q ⟨T, m, rfl, rfl, ok, hlb, O, h⟩
  refine ⟨rfl, ?_⟩
  show wpSs Γ m_find_among_b ⟨[some (.lst (vsB T)), none, none, none, none, none, none, none, none, none, none, none, none], m.fl⟩ _
  have sm := O.small
  have hl : (vsB T).length = T.length := by unfold vsB; exact List.length_map ..
  have e : m_find_among_b = (.cons (.asg 1 (.int 0)) (.cons (.asg 2 (.len (.var 0))) (.cons (.asg 3 (.fld 1)) (.cons (.asg 4 (.fld 3)) (.cons (.asg 5 (.int 0)) (.cons (.asg 6 (.int 0)) (.cons (.asg 7 (.bool false))
    (.cons (.whl (.e (.bool true)) bodyB) (.cons (.whl (.e (.bool true)) linkB) (.cons (.ret (.neg 1)) .nil)))))))))) := rfl
  rw [e]
  simp only [wpSs]
  simp only [wpS, wpE, gl0, gf1, gf3, pt, List.set_cons_zero, List.set_cons_succ, lenOf, hl]
  refine ⟨by omega, ?_⟩
  have ho := outer_b (Γ := Γ) O ok hlb (Q := fun f σ => match f with
    | .next => wpSs Γ (.cons (.whl (.e (.bool true)) linkB) (.cons (.ret (.neg 1)) .nil)) σ fun fl σ => (match fl with | .ret W => Q W σ.fl | .next => Q .none σ.fl | _ => False)
    | f => (match f with | .ret W => Q W σ.fl | .next => Q .none σ.fl | _ => False)) (fun i j ci cj fk k d cm w x st => ?_)
  · exact ho
  · simp only [wpSs]
    refine links_b O st (fun v r loc hf => ?_) fun loc hf => ?_
    · exact h _ hf
    · exact h _ hf
end Mine
namespace Mine
open PySem PySem.W PySem.Calls PyProof.Rows
set_option autoImplicit false
set_option maxRecDepth 100000

noncomputable def gv : List Nat := [97, 101, 105, 111, 117, 121, 228, 246, 252]
noncomputable def vow (c : Nat) : Bool := gv.contains c

/-- the two regions' beginnings -/
noncomputable def regs (t : List Nat) : Int × Int :=
  let n : Int := t.length
  if n < 3 then (n, n) else
  let a : Int := run (fun x => vow x == false) t 0
  if n ≤ a then (n, n) else
  let b : Int := a + 1 + run (fun x => vow x == true) t (a + 1)
  if n ≤ b then (n, n) else
  let p : Int := if 3 ≤ b + 1 then b + 1 else 3
  let c : Int := b + 1 + run (fun x => vow x == false) t (b + 1)
  if n ≤ c then (p, n) else
  let d : Int := c + 1 + run (fun x => vow x == true) t (c + 1)
  if n ≤ d then (p, n) else (p, d + 1)

noncomputable def sp_mark : Spec := fun Vs F Q => ∃ (m : Ms), Vs = [] ∧ F = m.fl ∧ m.Ok ∧ m.c = 0 ∧
  ∀ b c, Q (.bool b) { m with c := c, p1 := some (regs m.cur).1, p2 := some (regs m.cur).2 }.fl

theorem go_ok {m : Ms} (ok : m.Ok) {c : Int} (h0 : 0 ≤ c) (h1 : c ≤ m.l) (p1 p2 : Option Int) : ({ m with c := c, p1 := p1, p2 := p2 } : Ms).Ok :=
  ⟨h0, h1, ok.2.2.1, ok.2.2.2.1, ok.2.2.2.2⟩

theorem gf6 (m : Ms) (p : Int) (h : m.p1 = some p) (Q : V → Prop) : getv m.fl 6 Q = Q (.int p) := by
  obtain ⟨cur, c, l, lb, bra, ket, p1, p2⟩ := m
  dsimp only at h; subst h; rfl
theorem gf7 (m : Ms) (p : Int) (h : m.p2 = some p) (Q : V → Prop) : getv m.fl 7 Q = Q (.int p) := by
  obtain ⟨cur, c, l, lb, bra, ket, p1, p2⟩ := m
  dsimp only at h; subst h; rfl

theorem gg6 (cur : List Nat) (c l lb bra ket p : Int) (p2 : Option Int) (Q : V → Prop) : getv (Ms.fl ⟨cur, c, l, lb, bra, ket, some p, p2⟩) 6 Q = Q (.int p) := rfl
theorem gg7 (cur : List Nat) (c l lb bra ket p : Int) (p1 : Option Int) (Q : V → Prop) : getv (Ms.fl ⟨cur, c, l, lb, bra, ket, p1, some p⟩) 7 Q = Q (.int p) := rfl

theorem v_mark (Γ : Env') (h3 : Γ.meth 3 = sp_go true) (h5 : Γ.meth 5 = sp_go false) (hv : Γ.cat 0 = .set gv) : ∀ Vs F Q, sp_mark Vs F Q → bodySp Γ m_r_mark_regions 0 2 Vs F Q := by
  rintro Vs F Q ⟨m, rfl, rfl, ok, hc, h⟩
  refine ⟨rfl, ?_⟩
  obtain ⟨o1, o2, o3, o4, o5⟩ := id ok
  show wpSs Γ m_r_mark_regions ⟨[none, none], m.fl⟩ _
  simp only [m_r_mark_regions, wpSs, wpS, wpT, wpE, wpEs, gf1, gf2, gl0, gls, op2, op2i, cm, pt, List.set_cons_zero, List.set_cons_succ, sf1, sf6, sf7, h3, h5, hv, hc, decide_eq_true_eq]
  have hreg : regs m.cur = regs m.cur := rfl
  conv at hreg => rhs; unfold regs
  dsimp only at hreg
  rw [← o3] at hreg
  split
  · rename_i q
    rw [if_pos (by omega)] at hreg
    rw [hreg] at h
    exact h false 0
  rename_i q
  rw [if_neg (by omega)] at hreg
  refine ⟨_, _, rfl, rfl, go_ok ok (Int.le_refl 0) (by omega) _ _, ?_⟩
  generalize ha : run (fun x => vow x == false) m.cur 0 = a at hreg
  have ha' : run (fun x => gv.contains x == false) m.cur 0 = a := ha
  simp only [ha', Int.zero_add]
  by_cases q1 : ((a : Int)) < m.l
  · rw [if_neg (by omega)] at hreg
    simp only [q1, decide_true, Bool.not_true, Bool.false_eq_true, if_false]
    simp only [gf1, sf1]
    refine ⟨_, _, rfl, rfl, go_ok ok (by omega) (by omega) _ _, ?_⟩
    generalize hb : run (fun x => vow x == true) m.cur (a + 1) = b at hreg
    have hb' : run (fun x => gv.contains x == true) m.cur (a + 1) = b := hb
    simp only [hb']
    by_cases q2 : ((a : Int) + 1 + b) < m.l
    · rw [if_neg (by omega)] at hreg
      simp only [q2, decide_true, Bool.not_true, Bool.false_eq_true, if_false]
      simp only [gf1, sf1, sf6, gg6, gl0, gls, if_true, decide_eq_true_eq]
      generalize hc1 : (a : Int) + 1 + b + 1 = c1 at hreg
      split <;> rename_i q3
      all_goals
        simp only [q3, if_true, if_false] at hreg
        refine ⟨_, _, rfl, rfl, go_ok ok (by omega) (by omega) _ _, ?_⟩
        generalize he : run (fun x => vow x == false) m.cur c1 = e at hreg
        have he' : run (fun x => gv.contains x == false) m.cur c1 = e := he
        simp only [he']
        by_cases q4 : (c1 + e : Int) < m.l
        · rw [if_neg (by omega)] at hreg
          simp only [q4, decide_true, Bool.not_true, Bool.false_eq_true, if_false]
          simp only [gf1, sf1]
          refine ⟨_, _, rfl, rfl, go_ok ok (by omega) (by omega) _ _, ?_⟩
          generalize hf : run (fun x => vow x == true) m.cur (c1 + e + 1) = f at hreg
          have hf' : run (fun x => gv.contains x == true) m.cur (c1 + e + 1) = f := hf
          simp only [hf']
          by_cases q5 : (c1 + e + 1 + f : Int) < m.l
          · rw [if_neg (by omega)] at hreg
            simp only [q5, decide_true, Bool.not_true, Bool.false_eq_true, if_false]
            simp only [gf1, sf1, sf7]
            rw [hreg] at h
            exact h true _
          · rw [if_pos (by omega)] at hreg
            simp only [q5, decide_false, Bool.not_false, if_true]
            rw [hreg] at h
            exact h false _
        · rw [if_pos (by omega)] at hreg
          simp only [q4, decide_false, Bool.not_false, if_true]
          rw [hreg] at h
          exact h false _
    · rw [if_pos (by omega)] at hreg
      simp only [q2, decide_false, Bool.not_false, if_true]
      rw [hreg] at h
      exact h false _
  · rw [if_pos (by omega)] at hreg
    simp only [q1, decide_false, Bool.not_false, if_true]
    rw [hreg] at h
    exact h false _
end Mine
namespace Mine
open PySem PySem.W PySem.Calls PyProof.Rows
set_option autoImplicit false
set_option maxRecDepth 100000

theorem Tab.Ok.distinct {T : Tab} (O : T.Ok) {i j : Nat} (hi : i < T.length) (hj : j < T.length) (h : T.w i = T.w j) : i = j := by
  rcases Nat.lt_trichotomy i j with q | q | q
  · have := (O.sorted i j q hj).2
    rw [h, pfx_lel (pfx_refl _)] at this
    cases this
  · exact q
  · have := (O.sorted j i q hi).2
    rw [h, pfx_lel (pfx_refl _)] at this
    cases this

theorem found_unique {T : Tab} (O : T.Ok) {t : List Nat} : ∀ {a b : Option (List Nat × Int)}, Found T t a → Found T t b → a = b
  | none, none, _, _ => rfl
  | some (w, r), none, ⟨i, hi, e, _, hp, _⟩, hb => by
    have := hb i hi
    rw [e, hp] at this; cases this
  | none, some (w, r), ha, ⟨i, hi, e, _, hp, _⟩ => by
    have := ha i hi
    rw [e, hp] at this; cases this
  | some (w, r), some (w', r'), ⟨i, hi, e, er, hp, hm⟩, ⟨j, hj, e', er', hp', hm'⟩ => by
    subst e; subst e'; subst er; subst er'
    have a := hm j hj hp'
    have b := hm' i hi hp
    have : T.w i = T.w j := pfx_eq b (by have := pfx_len a; have := pfx_len b; omega)
    have := O.distinct hi hj this
    subst this
    rfl

/-- the longest entry that begins the text, computed -/
noncomputable def look : Tab → List Nat → Option (List Nat × Int)
  | [], _ => none
  | e :: T, t => match look T t with
    | some (w, r) => if pfx e.1 t && decide (w.length < e.1.length) then some (e.1, e.2.2) else some (w, r)
    | none => if pfx e.1 t then some (e.1, e.2.2) else none

theorem look_spec : ∀ (T : Tab) (t : List Nat), match look T t with
    | some (w, r) => (∃ i, i < T.length ∧ T.w i = w ∧ T.res i = r) ∧ pfx w t = true ∧ ∀ k, k < T.length → pfx (T.w k) t = true → (T.w k).length ≤ w.length
    | none => ∀ k, k < T.length → pfx (T.w k) t = false
  | [], t => fun k hk => absurd hk (Nat.not_lt_zero _)
  | e :: T, t => by
    have ih := look_spec T t
    have hz : Tab.w (e :: T) 0 = e.1 := rfl
    have hs : ∀ k, Tab.w (e :: T) (k + 1) = Tab.w T k := fun k => by simp [Tab.w]
    have hr : ∀ k, Tab.res (e :: T) (k + 1) = Tab.res T k := fun k => by simp [Tab.res]
    unfold look
    cases q : look T t with
    | none =>
      rw [q] at ih
      dsimp only at ih ⊢
      cases p : pfx e.1 t with
      | true =>
        simp only [if_true]
        refine ⟨⟨0, by simp, rfl, rfl⟩, p, fun k hk hp => ?_⟩
        cases k with
        | zero => exact Nat.le_refl _
        | succ k =>
          rw [hs] at hp
          rw [ih k (by simpa using hk)] at hp; cases hp
      | false =>
        simp only [Bool.false_eq_true, if_false]
        intro k hk
        cases k with
        | zero => exact p
        | succ k => rw [hs]; exact ih k (by simpa using hk)
    | some x =>
      obtain ⟨w, r⟩ := x
      rw [q] at ih
      dsimp only at ih ⊢
      obtain ⟨⟨i, hi, e1, e2⟩, h2, h3⟩ := ih
      by_cases hc : (pfx e.1 t && decide (w.length < e.1.length)) = true
      · rw [if_pos hc]
        simp only [Bool.and_eq_true, decide_eq_true_eq] at hc
        refine ⟨⟨0, by simp, rfl, rfl⟩, hc.1, fun k hk hp => ?_⟩
        cases k with
        | zero => exact Nat.le_refl _
        | succ k =>
          rw [hs] at hp ⊢
          have := h3 k (by simpa using hk) hp
          omega
      · rw [if_neg hc]
        refine ⟨⟨i + 1, by simpa using hi, (hs i).trans e1, (hr i).trans e2⟩, h2, fun k hk hp => ?_⟩
        cases k with
        | zero =>
          rw [hz] at hp ⊢
          simp only [hp, Bool.true_and, decide_eq_true_eq] at hc
          omega
        | succ k =>
          rw [hs] at hp ⊢
          exact h3 k (by simpa using hk) hp

theorem found_look (T : Tab) (t : List Nat) : Found T t (look T t) := by
  have h := look_spec T t
  cases q : look T t with
  | none => rw [q] at h; exact h
  | some x =>
    obtain ⟨w, r⟩ := x
    rw [q] at h
    obtain ⟨⟨i, hi, e1, e2⟩, h2, h3⟩ := h
    exact ⟨i, hi, e1, e2, h2, fun k hk hp => pfx_two hp h2 (h3 k hk hp)⟩
theorem look_eq {T : Tab} (O : T.Ok) {t : List Nat} {r : Option (List Nat × Int)} (h : Found T t r) : r = look T t := found_unique O h (found_look T t)

noncomputable def A0 : Tab := [([], -1, 5), ([97, 101], 0, 2), ([111, 101], 0, 3), ([113, 117], 0, -1), ([117, 101], 0, 4), ([223], 0, 1)]
noncomputable def A1 : Tab := [([], -1, 5), ([85], 0, 2), ([89], 0, 1), ([228], 0, 3), ([246], 0, 4), ([252], 0, 2)]
theorem ok0 : A0.Ok := Tab.ok_of (by decide +kernel)
theorem ok1 : A1.Ok := Tab.ok_of (by decide +kernel)

noncomputable def pl (c : Nat) : Nat := if c = 85 then 117 else if c = 89 then 121 else if c = 228 then 97 else if c = 246 then 111 else if c = 252 then 117 else c

noncomputable def sp_post : Spec := fun Vs F Q => ∃ (m : Ms), Vs = [] ∧ F = m.fl ∧ m.Ok ∧ m.c = 0 ∧ ∀ c bra ket, Q (.bool true) { m with cur := m.cur.map pl, c := c, bra := bra, ket := ket }.fl

theorem look1 (c : Nat) (r : List Nat) : look A1 (c :: r) = if c = 252 then some ([252], 2) else if c = 246 then some ([246], 4) else if c = 228 then some ([228], 3) else if c = 89 then some ([89], 1) else if c = 85 then some ([85], 2) else some ([], 5) := by
  simp only [A1, look, pfx, Bool.and_true, Bool.true_and]
  by_cases h1 : c = 252
  · subst h1; rfl
  · by_cases h2 : c = 246
    · subst h2; rfl
    · by_cases h3 : c = 228
      · subst h3; rfl
      · by_cases h4 : c = 89
        · subst h4; rfl
        · by_cases h5 : c = 85
          · subst h5; rfl
          · simp [h1, h2, h3, h4, h5, Ne.symm h1, Ne.symm h2, Ne.symm h3, Ne.symm h4, Ne.symm h5]

theorem look1_nil : look A1 [] = some ([], 5) := rfl

/-- a sign swapped for another in place -/
theorem slice_one {d e : List Nat} {y : Nat} {k l lb c' : Int} {p1 p2 : Option Int} {P : V → List (Option V) → Prop} (hk : (d.length : Int) = k) (he : 0 < e.length) (hl : l = d.length + e.length) (hs : d.length + e.length ≤ 10000) (hlb : 0 ≤ lb) (hc : c' = k + 1)
    (h : P .none (Ms.fl ⟨d ++ [y] ++ e.tail, k + 1, l, lb, k, k + 1, p1, p2⟩)) : sp_slice_from [.str [y]] (Ms.fl ⟨d ++ e, c', l, lb, k, c', p1, p2⟩) P := by
  subst hc
  have e1 : (d ++ e).take k.toNat = d := by rw [← hk, Int.toNat_natCast, List.take_left]
  have e2 : (d ++ e).drop (k + 1).toNat = e.tail := by
    rw [show (k + 1).toNat = d.length + 1 from by omega, List.drop_append, List.drop_of_length_le (by omega)]
    simp [Nat.add_sub_cancel_left]
  refine ⟨[y], _, rfl, rfl, ⟨by show 0 ≤ k + 1; omega, by show k + 1 ≤ l; omega, by show l = _; rw [List.length_append]; push_cast; exact hl, by show _ ≤ _; rw [List.length_append]; exact hs, hlb⟩, by show 0 ≤ k; omega, by show k ≤ k + 1; omega, by show k + 1 ≤ l; omega, by simp, ?_⟩
  dsimp only
  rw [e1, e2]
  have e3 : l + ((([y] : List Nat).length : Int) - (k + 1 - k)) = l := by simp; omega
  have e4 : k + 1 + ((([y] : List Nat).length : Int) - (k + 1 - k)) = k + 1 := by simp; omega
  have e5 : k + ((([y] : List Nat).length : Int)) = k + 1 := by simp
  rw [if_pos (Int.le_refl _), e3, e4, e5]
  exact h

theorem v_post (Γ : Env') (h7 : Γ.meth 7 = sp_find) (h10 : Γ.meth 10 = sp_slice_from) (hv : Γ.cat 5 = .lst (vsF A1)) : ∀ Vs F Q, sp_post Vs F Q → bodySp Γ m_r_postlude 0 2 Vs F Q := by
  rintro Vs F Q ⟨m, rfl, rfl, ok, hc, h⟩
  refine ⟨rfl, ?_⟩
  obtain ⟨o1, o2, o3, o4, o5⟩ := id ok
  show wpSs Γ m_r_postlude ⟨[none, none], m.fl⟩ _
  simp only [m_r_postlude, wpSs]
  refine while_next (fun n σ => ∃ (k : Nat) (bra ket : Int) (x y : Option V), k ≤ m.cur.length ∧ n = m.cur.length - k ∧
    σ = ⟨[x, y], { m with cur := (m.cur.take k).map pl ++ m.cur.drop k, c := k, bra := bra, ket := ket }.fl⟩) m.cur.length
    ⟨0, m.bra, m.ket, none, none, Nat.zero_le _, rfl, by simp [← hc]⟩ ?_
  rintro n σ ⟨k, bra, ket, x, y, hk, rfl, rfl⟩
  simp only [wpT, wpE, if_true]
  simp only [wpSs, wpS, wpT, wpE, wpEs, gf1, gf2, gl0, gls, op2i, cm, pt, List.set_cons_zero, List.set_cons_succ, sf1, sf4, sf5, h7, h10, hv, decide_eq_true_eq, beq_iff_eq]
  have hdl : ((m.cur.take k).map pl).length = k := by rw [List.length_map, List.length_take]; omega
  have hlen : ((m.cur.take k).map pl ++ m.cur.drop k).length = m.cur.length := by rw [List.length_append, hdl, List.length_drop]; omega
  refine ⟨A1, _, rfl, rfl, ⟨by show (0 : Int) ≤ (k : Int); omega, by show (k : Int) ≤ m.l; omega, by show m.l = _; rw [hlen]; exact o3, by show _ ≤ _; rw [hlen]; exact o4, o5⟩, ok1, ?_⟩
  intro r hr
  have hr := look_eq ok1 hr
  have hdrop : ((m.cur.take k).map pl ++ m.cur.drop k).drop (k : Int).toNat = m.cur.drop k := by
    rw [Int.toNat_natCast, List.drop_append, List.drop_of_length_le (by omega), hdl]; simp
  rw [hdrop] at hr
  by_cases hlt : k < m.cur.length
  · have hd : m.cur.drop k = m.cur.getD k 0 :: m.cur.drop (k + 1) := by
      have := drop_cons (l := m.cur) (i := (k : Int)) (by omega) (by omega)
      simpa using this
    rw [hd, look1] at hr
    have htk : (m.cur.take (k + 1)).map pl = (m.cur.take k).map pl ++ [pl (m.cur.getD k 0)] := by
      rw [List.take_succ_eq_append_getElem hlt, List.map_append, List.getD_eq_getElem?_getD, List.getElem?_eq_getElem hlt]
      rfl
    have hne : 0 < (m.cur.drop k).length := by rw [List.length_drop]; omega
    have htl : (m.cur.drop k).tail = m.cur.drop (k + 1) := by rw [List.tail_drop]
    have fin : ∀ (y : Nat), pl (m.cur.getD k 0) = y → ∀ (bra ket : Int) (x z : Option V), ∃ (m_1 : Nat), m_1 < m.cur.length - k ∧ ∃ (k_1 : Nat) (bra' ket' : Int) (x' z' : Option V), k_1 ≤ m.cur.length ∧ m_1 = m.cur.length - k_1 ∧
        (⟨[x, z], Ms.fl ⟨(m.cur.take k).map pl ++ [y] ++ (m.cur.drop k).tail, (k : Int) + 1, m.l, m.lb, bra, ket, m.p1, m.p2⟩⟩ : St) = ⟨[x', z'], Ms.fl ⟨(m.cur.take k_1).map pl ++ m.cur.drop k_1, (k_1 : Int), m.l, m.lb, bra', ket', m.p1, m.p2⟩⟩ := by
      intro y hy bra ket x z
      refine ⟨m.cur.length - (k + 1), by omega, k + 1, bra, ket, x, z, by omega, rfl, ?_⟩
      rw [htk, hy, htl]
      push_cast
      rfl
    have hs1 : (List.map pl (List.take k m.cur)).length + (List.drop k m.cur).length = m.cur.length := by rw [hdl, List.length_drop]; omega
    have go : ∀ (y : Nat), pl (m.cur.getD k 0) = y → ∀ (x z : Option V), sp_slice_from [.str [y]] (Ms.fl ⟨(m.cur.take k).map pl ++ m.cur.drop k, (k : Int) + 1, m.l, m.lb, (k : Int), (k : Int) + 1, m.p1, m.p2⟩) fun v F => (match v with | .none => True | .bool _ => True | .int _ => True | .str _ => True | _ => False) ∧
        ∃ (m_1 : Nat), m_1 < m.cur.length - k ∧ ∃ (k_1 : Nat) (bra' ket' : Int) (x' z' : Option V), k_1 ≤ m.cur.length ∧ m_1 = m.cur.length - k_1 ∧
        (⟨[x, z], F⟩ : St) = ⟨[x', z'], Ms.fl ⟨(m.cur.take k_1).map pl ++ m.cur.drop k_1, (k_1 : Int), m.l, m.lb, bra', ket', m.p1, m.p2⟩⟩ := by
      intro y hy x z
      exact slice_one (by rw [hdl]) hne (by rw [o3]; omega) (by omega) o5 rfl ⟨trivial, fin y hy _ _ x z⟩
    generalize hch : m.cur.getD k 0 = ch at *
    by_cases q1 : ch = 252
    · subst q1
      rw [if_pos rfl] at hr
      subst hr
      exact go 117 rfl _ _
    rw [if_neg q1] at hr
    by_cases q2 : ch = 246
    · subst q2
      rw [if_pos rfl] at hr
      subst hr
      exact go 111 rfl _ _
    rw [if_neg q2] at hr
    by_cases q3 : ch = 228
    · subst q3
      rw [if_pos rfl] at hr
      subst hr
      exact go 97 rfl _ _
    rw [if_neg q3] at hr
    by_cases q4 : ch = 89
    · subst q4
      rw [if_pos rfl] at hr
      subst hr
      exact go 121 rfl _ _
    rw [if_neg q4] at hr
    by_cases q5 : ch = 85
    · subst q5
      rw [if_pos rfl] at hr
      subst hr
      exact go 117 rfl _ _
    rw [if_neg q5] at hr
    subst hr
    have hpl : pl ch = ch := by unfold pl; simp [q1, q2, q3, q4, q5]
    have e0 : (k : Int) + ((([] : List Nat).length : Nat) : Int) = (k : Int) := by simp
    simp only [gf1, gf2, gl0, gls, sf1, sf4, sf5, pt, List.set_cons_zero, List.set_cons_succ, show (((5 : Int) == 1)) = false from rfl, show (((5 : Int) == 2)) = false from rfl, show (((5 : Int) == 3)) = false from rfl, show (((5 : Int) == 4)) = false from rfl, Bool.false_eq_true, if_false, decide_eq_true_eq, e0]
    rw [if_neg (by omega)]
    have f := fin ch hpl k k (some (.int k)) (some (.int 5))
    rw [List.append_assoc, htl] at f
    have e9 : [ch] ++ m.cur.drop (k + 1) = m.cur.drop k := by rw [hd]; rfl
    rw [e9] at f
    exact f
  · have hke : k = m.cur.length := by omega
    rw [List.drop_of_length_le (by omega), look1_nil] at hr
    subst hr
    have e0 : (k : Int) + ((([] : List Nat).length : Nat) : Int) = (k : Int) := by simp
    simp only [gf1, gf2, gl0, gls, sf1, sf4, sf5, pt, List.set_cons_zero, List.set_cons_succ, show (((5 : Int) == 1)) = false from rfl, show (((5 : Int) == 2)) = false from rfl, show (((5 : Int) == 3)) = false from rfl, show (((5 : Int) == 4)) = false from rfl, Bool.false_eq_true, if_false, decide_eq_true_eq, e0]
    rw [if_pos (by omega)]
    simp only [if_true, gl0, sf1]
    have e1 : (m.cur.take k).map pl ++ m.cur.drop k = m.cur.map pl := by
      rw [List.drop_of_length_le (by omega), List.take_of_length_le (by omega), List.append_nil]
    rw [e1]
    exact h _ _ _
end Mine
namespace Mine
open PySem PySem.W PySem.Calls PyProof.Rows
set_option autoImplicit false
set_option maxRecDepth 100000

noncomputable def pre : List Nat → List Nat
  | [] => []
  | [c] => if c = 223 then [115, 115] else [c]
  | c :: d :: r => if c = 97 ∧ d = 101 then 228 :: pre r else if c = 111 ∧ d = 101 then 246 :: pre r else if c = 113 ∧ d = 117 then 113 :: 117 :: pre r
    else if c = 117 ∧ d = 101 then 252 :: pre r else if c = 223 then 115 :: 115 :: pre (d :: r) else c :: pre (d :: r)

noncomputable def calm (t : List Nat) : Prop := ∀ (i a b c : Nat), t[i]? = some a → t[i + 1]? = some b → t[i + 2]? = some c → vow a = true → (b = 117 ∨ b = 121) → vow c = false

theorem look0_nil : look A0 [] = some ([], 5) := rfl
theorem look0_one (c : Nat) : look A0 [c] = if c = 223 then some ([223], 1) else some ([], 5) := by
  simp only [A0, look, pfx, Bool.and_true, Bool.true_and, Bool.and_false, Bool.false_eq_true, if_false]
  by_cases h1 : c = 223
  · subst h1; rfl
  · simp [h1, Ne.symm h1]
theorem look0 (c d : Nat) (r : List Nat) : look A0 (c :: d :: r) = if c = 97 ∧ d = 101 then some ([97, 101], 2) else if c = 111 ∧ d = 101 then some ([111, 101], 3) else if c = 113 ∧ d = 117 then some ([113, 117], -1)
    else if c = 117 ∧ d = 101 then some ([117, 101], 4) else if c = 223 then some ([223], 1) else some ([], 5) := by
  simp only [A0, look, pfx, Bool.and_true, Bool.true_and]
  by_cases h1 : c = 223
  · subst h1; rfl
  · by_cases h2 : c = 117
    · subst h2
      by_cases k : d = 101
      · subst k; rfl
      · simp [k, Ne.symm k]
    · by_cases h3 : c = 113
      · subst h3
        by_cases k : d = 117
        · subst k; rfl
        · simp [k, Ne.symm k]
      · by_cases h4 : c = 111
        · subst h4
          by_cases k : d = 101
          · subst k; rfl
          · simp [k, Ne.symm k]
        · by_cases h5 : c = 97
          · subst h5
            by_cases k : d = 101
            · subst k; rfl
            · simp [k, Ne.symm k]
          · simp [h1, h2, h3, h4, h5, Ne.symm h1, Ne.symm h2, Ne.symm h3, Ne.symm h4, Ne.symm h5]

/-- a word swapped for another in place -/
theorem slice_word {d w e y : List Nat} {k l lb c' : Int} {p1 p2 : Option Int} {P : V → List (Option V) → Prop} (hk : (d.length : Int) = k) (hl : l = d.length + w.length + e.length) (hs : d.length + w.length + e.length ≤ 10000) (hlb : 0 ≤ lb) (hc : c' = k + w.length) (hy : y.length ≤ 100)
    (h : P .none (Ms.fl ⟨d ++ y ++ e, k + y.length, d.length + y.length + e.length, lb, k, k + y.length, p1, p2⟩)) : sp_slice_from [.str y] (Ms.fl ⟨d ++ (w ++ e), c', l, lb, k, c', p1, p2⟩) P := by
  subst hc
  have e1 : (d ++ (w ++ e)).take k.toNat = d := by rw [← hk, Int.toNat_natCast, List.take_left]
  have e2 : (d ++ (w ++ e)).drop (k + w.length).toNat = e := by
    rw [show (k + w.length).toNat = (d ++ w).length from by rw [List.length_append]; omega, ← List.append_assoc, List.drop_left]
  refine ⟨y, _, rfl, rfl, ⟨by show 0 ≤ k + w.length; omega, by show k + w.length ≤ l; omega, by show l = _; rw [List.length_append, List.length_append]; push_cast; omega, by show _ ≤ _; rw [List.length_append, List.length_append]; omega, hlb⟩, by show 0 ≤ k; omega, by show k ≤ k + w.length; omega, by show k + w.length ≤ l; omega, hy, ?_⟩
  dsimp only
  rw [e1, e2, if_pos (Int.le_refl _)]
  have e3 : l + ((y.length : Int) - (k + w.length - k)) = d.length + y.length + e.length := by omega
  have e4 : k + w.length + ((y.length : Int) - (k + w.length - k)) = k + y.length := by omega
  rw [e3, e4]
  exact h

noncomputable def loop2 : Ss := (.cons (.asg 2 (.fld 1))
    (.cons (.try_ (.cons (.asf 4 (.fld 1))
      (.cons (.asg 3 (.meth 7 (.cons (.cat 4) .nil)))
      (.cons (.asf 5 (.fld 1))
      (.cons (.iff (.cmp .eq (.var 3) (.int 1)) (.cons (.expr (.meth 10 (.cons (.str [115, 115]) .nil)))
        .nil) (.cons (.iff (.cmp .eq (.var 3) (.int 2)) (.cons (.expr (.meth 10 (.cons (.str [228]) .nil)))
          .nil) (.cons (.iff (.cmp .eq (.var 3) (.int 3)) (.cons (.expr (.meth 10 (.cons (.str [246]) .nil)))
            .nil) (.cons (.iff (.cmp .eq (.var 3) (.int 4)) (.cons (.expr (.meth 10 (.cons (.str [252]) .nil)))
              .nil) (.cons (.iff (.cmp .eq (.var 3) (.int 5)) (.cons (.iff (.cmp .ge (.fld 1) (.fld 2)) (.cons (.raise 0)
                  .nil) .nil)
                (.cons (.auf 1 .add (.int 1))
                .nil)) .nil)
              .nil))
            .nil))
          .nil))
        .nil))
      (.cons .cont
      .nil))))) 0)
    (.cons (.asf 1 (.var 2))
    (.cons .brk
    .nil))))

/-- the state in the middle of the second loop -/
noncomputable def mid (done rest : List Nat) (lb bra ket : Int) (p1 p2 : Option Int) : Ms := ⟨done ++ rest, done.length, done.length + rest.length, lb, bra, ket, p1, p2⟩

theorem v_loop2 {Γ : Env'} (h7 : Γ.meth 7 = sp_find) (h10 : Γ.meth 10 = sp_slice_from) (hv : Γ.cat 4 = .lst (vsF A0)) {t : List Nat} {lb bra ket : Int} {p1 p2 : Option Int} (hlb : 0 ≤ lb) (hs : 2 * t.length ≤ 10000) {a0 a1 a2 a3 a4 a5 : Option V} {Q : Fl → St → Prop}
    (hQ : ∀ loc c bra ket, Q .next ⟨loc, Ms.fl ⟨pre t, c, (pre t).length, lb, bra, ket, p1, p2⟩⟩) :
    wpS Γ (.whl (.e (.bool true)) loop2) ⟨[a0, a1, a2, a3, a4, a5], (mid [] t lb bra ket p1 p2).fl⟩ Q := by
  refine while_next (fun n σ => ∃ (done rest : List Nat) (bra ket : Int) (a2 a3 : Option V), n = rest.length ∧ done ++ pre rest = pre t ∧ done.length + 2 * rest.length ≤ 10000 ∧ σ = ⟨[a0, a1, a2, a3, a4, a5], (mid done rest lb bra ket p1 p2).fl⟩) t.length
    ⟨[], t, bra, ket, a2, a3, rfl, rfl, by simpa using hs, rfl⟩ ?_
  rintro n σ ⟨done, rest, bra, ket, a2, a3, rfl, he, hsz, rfl⟩
  simp only [wpT, wpE, if_true]
  simp only [loop2, mid, wpSs, wpS, wpT, wpE, wpEs, gf1, gf2, gl0, gls, op2i, cm, pt, List.set_cons_zero, List.set_cons_succ, sf1, sf4, sf5, h7, h10, hv, decide_eq_true_eq]
  refine ⟨A0, _, rfl, rfl, ⟨by show (0 : Int) ≤ (done.length : Int); omega, by show (done.length : Int) ≤ (done.length : Int) + (rest.length : Int); omega, by show _ = _; rw [List.length_append]; push_cast; rfl, by show _ ≤ _; rw [List.length_append]; omega, hlb⟩, ok0, ?_⟩
  intro r hr
  have hr := look_eq ok0 hr
  have hdrop : (done ++ rest).drop (done.length : Int).toNat = rest := by rw [Int.toNat_natCast, List.drop_left]
  rw [hdrop] at hr
  -- what each turn leads to
  have fin : ∀ (w y e : List Nat), rest = w ++ e → 0 < w.length → done ++ y ++ pre e = pre t → y.length ≤ 2 * w.length → y.length ≤ 100 → ∀ (bra' ket' : Int) (x z : Option V),
      ∃ (m : Nat), m < rest.length ∧ ∃ (done' rest' : List Nat) (bra ket : Int) (a2 a3 : Option V), m = rest'.length ∧ done' ++ pre rest' = pre t ∧ done'.length + 2 * rest'.length ≤ 10000 ∧
        (⟨[a0, a1, x, z, a4, a5], Ms.fl ⟨done ++ y ++ e, (done.length : Int) + y.length, done.length + y.length + e.length, lb, bra', ket', p1, p2⟩⟩ : St) = ⟨[a0, a1, a2, a3, a4, a5], (mid done' rest' lb bra ket p1 p2).fl⟩ := by
    intro w y e hw h0 hp hyl hy bra' ket' x z
    subst hw
    rw [List.length_append] at hsz ⊢
    refine ⟨e.length, by omega, done ++ y, e, bra', ket', x, z, rfl, hp, by rw [List.length_append]; omega, ?_⟩
    unfold mid
    rw [List.length_append]
    push_cast
    rfl
  have go : ∀ (w y e : List Nat), rest = w ++ e → 0 < w.length → done ++ y ++ pre e = pre t → y.length ≤ 2 * w.length → y.length ≤ 100 → ∀ (x z : Option V),
      sp_slice_from [.str y] (Ms.fl ⟨done ++ rest, (done.length : Int) + w.length, done.length + rest.length, lb, done.length, (done.length : Int) + w.length, p1, p2⟩) fun v F => (match v with | .none => True | .bool _ => True | .int _ => True | .str _ => True | _ => False) ∧
      ∃ (m : Nat), m < rest.length ∧ ∃ (done' rest' : List Nat) (bra ket : Int) (a2 a3 : Option V), m = rest'.length ∧ done' ++ pre rest' = pre t ∧ done'.length + 2 * rest'.length ≤ 10000 ∧
        (⟨[a0, a1, x, z, a4, a5], F⟩ : St) = ⟨[a0, a1, a2, a3, a4, a5], (mid done' rest' lb bra ket p1 p2).fl⟩ := by
    intro w y e hw h0 hp hyl hy x z
    have f := fin w y e hw h0 hp hyl hy done.length ((done.length : Int) + y.length) x z
    have hlr : rest.length = w.length + e.length := by rw [hw, List.length_append]
    rw [hw]
    refine slice_word rfl (by rw [← hw, hlr]; push_cast; omega) (by omega) hlb rfl hy ⟨trivial, ?_⟩
    rw [hw] at f
    exact f
  cases rest with
  | nil =>
    rw [look0_nil] at hr
    subst hr
    have e0 : (done.length : Int) + ((([] : List Nat).length : Nat) : Int) = (done.length : Int) := by simp
    simp only [gf1, gf2, gl0, gls, sf1, sf4, sf5, pt, List.set_cons_zero, List.set_cons_succ, show (((5 : Int) == 1)) = false from rfl, show (((5 : Int) == 2)) = false from rfl, show (((5 : Int) == 3)) = false from rfl, show (((5 : Int) == 4)) = false from rfl, show (((5 : Int) == 5)) = true from rfl, Bool.false_eq_true, if_false, if_true, decide_eq_true_eq, e0]
    rw [if_pos (by simp)]
    have e1 : done ++ [] = pre t := by simpa [pre] using he
    have e2 : (done.length : Int) + (([] : List Nat).length : Int) = (pre t).length := by rw [← e1]; simp
    rw [e1]
    have := hQ
    simp only [List.length_nil, Int.natCast_zero, Int.add_zero] at e2 ⊢
    rw [e2]
    exact hQ _ _ _ _
  | cons c rest =>
    -- a plain sign
    have plain : (∀ e, c :: rest = [c] ++ e → done ++ [c] ++ pre e = pre t) → r = some ([], 5) → wpSs Γ (.cons (.iff (.cmp .eq (.var 3) (.int 5)) (.cons (.iff (.cmp .ge (.fld 1) (.fld 2)) (.cons (.raise 0) .nil) .nil) (.cons (.auf 1 .add (.int 1)) .nil)) .nil) .nil)
        ⟨[a0, a1, some (.int done.length), some (.int 5), a4, a5], Ms.fl ⟨done ++ c :: rest, (done.length : Int), (done.length : Int) + ((c :: rest).length : Int), lb, done.length, done.length, p1, p2⟩⟩ fun f σ => match f with
          | .next => ∃ (m : Nat), m < (c :: rest).length ∧ ∃ (done' rest' : List Nat) (bra ket : Int) (a2 a3 : Option V), m = rest'.length ∧ done' ++ pre rest' = pre t ∧ done'.length + 2 * rest'.length ≤ 10000 ∧ σ = ⟨[a0, a1, a2, a3, a4, a5], (mid done' rest' lb bra ket p1 p2).fl⟩
          | _ => False := by
      intro hp _
      simp only [wpSs, wpS, wpT, wpE, gf1, gf2, gl0, gls, op2i, cm, sf1, show (((5 : Int) == 5)) = true from rfl, if_true, decide_eq_true_eq]
      rw [if_neg (by simp; omega)]
      have f := fin [c] [c] rest rfl (by simp) (hp rest rfl) (by simp) (by simp) done.length done.length (some (.int done.length)) (some (.int 5))
      rw [List.append_assoc] at f
      have e9 : (done.length : Int) + (([c] : List Nat).length : Int) + (rest.length : Int) = (done.length : Int) + ((c :: rest).length : Int) := by simp; omega
      rw [e9] at f
      exact f
    have e0 : (done.length : Int) + ((([] : List Nat).length : Nat) : Int) = (done.length : Int) := by simp
    cases rest with
    | nil =>
      rw [look0_one] at hr
      by_cases q1 : c = 223
      · subst q1
        rw [if_pos rfl] at hr
        subst hr
        exact go [223] [115, 115] [] rfl (by simp) (by simpa [pre] using he) (by simp) (by simp) _ _
      · rw [if_neg q1] at hr
        have hp := plain (fun e h => by
          have : e = [] := by simpa using h.symm
          subst this
          simpa [pre, q1] using he) hr
        subst hr
        simp only [gf1, gf2, gl0, gls, sf1, sf4, sf5, pt, List.set_cons_zero, List.set_cons_succ, show (((5 : Int) == 1)) = false from rfl, show (((5 : Int) == 2)) = false from rfl, show (((5 : Int) == 3)) = false from rfl, show (((5 : Int) == 4)) = false from rfl, show (((5 : Int) == 5)) = true from rfl, Bool.false_eq_true, if_false, if_true, decide_eq_true_eq, e0]
        simp only [wpSs, wpS, wpT, wpE, gf1, gf2, gl0, gls, op2i, cm, sf1, show (((5 : Int) == 5)) = true from rfl, if_true, decide_eq_true_eq] at hp
        rw [if_neg (by simp; omega)] at hp ⊢
        exact hp
    | cons d rest =>
      rw [look0] at hr
      by_cases q1 : c = 97 ∧ d = 101
      · obtain ⟨rfl, rfl⟩ := q1
        rw [if_pos ⟨rfl, rfl⟩] at hr
        subst hr
        exact go [97, 101] [228] rest rfl (by simp) (by simpa [pre] using he) (by simp) (by simp) _ _
      rw [if_neg q1] at hr
      by_cases q2 : c = 111 ∧ d = 101
      · obtain ⟨rfl, rfl⟩ := q2
        rw [if_pos ⟨rfl, rfl⟩] at hr
        subst hr
        exact go [111, 101] [246] rest rfl (by simp) (by simpa [pre] using he) (by simp) (by simp) _ _
      rw [if_neg q2] at hr
      by_cases q3 : c = 113 ∧ d = 117
      · obtain ⟨rfl, rfl⟩ := q3
        rw [if_pos ⟨rfl, rfl⟩] at hr
        subst hr
        have f := fin [113, 117] [113, 117] rest rfl (by simp) (by simpa [pre] using he) (by simp) (by simp) done.length ((done.length : Int) + 2) (some (.int done.length)) (some (.int (-1)))
        simp only [gf1, gf2, gl0, gls, sf1, sf4, sf5, pt, List.set_cons_zero, List.set_cons_succ, show (((-1 : Int) == 1)) = false from rfl, show (((-1 : Int) == 2)) = false from rfl, show (((-1 : Int) == 3)) = false from rfl, show (((-1 : Int) == 4)) = false from rfl, show (((-1 : Int) == 5)) = false from rfl, Bool.false_eq_true, if_false]
        rw [List.append_assoc] at f
        have e9 : (done.length : Int) + (([113, 117] : List Nat).length : Int) + (rest.length : Int) = (done.length : Int) + ((113 :: 117 :: rest : List Nat).length : Int) := by simp; omega
        rw [e9] at f
        exact f
      rw [if_neg q3] at hr
      by_cases q4 : c = 117 ∧ d = 101
      · obtain ⟨rfl, rfl⟩ := q4
        rw [if_pos ⟨rfl, rfl⟩] at hr
        subst hr
        exact go [117, 101] [252] rest rfl (by simp) (by simpa [pre] using he) (by simp) (by simp) _ _
      rw [if_neg q4] at hr
      by_cases q5 : c = 223
      · subst q5
        rw [if_pos rfl] at hr
        subst hr
        exact go [223] [115, 115] (d :: rest) rfl (by simp) (by simpa [pre] using he) (by simp) (by simp) _ _
      · rw [if_neg q5] at hr
        have hp := plain (fun e h => by
          have : e = d :: rest := by simpa using h.symm
          subst this
          rw [pre, if_neg q1, if_neg q2, if_neg q3, if_neg q4, if_neg q5] at he
          simpa using he) hr
        subst hr
        simp only [gf1, gf2, gl0, gls, sf1, sf4, sf5, pt, List.set_cons_zero, List.set_cons_succ, show (((5 : Int) == 1)) = false from rfl, show (((5 : Int) == 2)) = false from rfl, show (((5 : Int) == 3)) = false from rfl, show (((5 : Int) == 4)) = false from rfl, show (((5 : Int) == 5)) = true from rfl, Bool.false_eq_true, if_false, if_true, decide_eq_true_eq, e0]
        simp only [wpSs, wpS, wpT, wpE, gf1, gf2, gl0, gls, op2i, cm, sf1, show (((5 : Int) == 5)) = true from rfl, if_true, decide_eq_true_eq] at hp
        rw [if_neg (by simp; omega)] at hp ⊢
        exact hp
end Mine
namespace Mine
open PySem PySem.W PySem.Calls PyProof.Rows
set_option autoImplicit false
set_option maxRecDepth 100000

noncomputable def innerU : Ss := (.cons (.asg 5 (.fld 1))
            (.cons (.try_ (.cons (.iff (.bop false (.cons (.cmp .eq (.fld 1) (.fld 2)) (.cons (.cmp .ne (.idx (.fld 0) (.fld 1)) (.str [117])) .nil))) (.cons (.raise 2)
                .nil) .nil)
              (.cons (.auf 1 .add (.int 1))
              (.cons (.asf 5 (.fld 1))
              (.cons (.iff (.not (.e (.meth 2 (.cons (.cat 0) .nil)))) (.cons (.raise 2)
                .nil) .nil)
              (.cons (.expr (.meth 10 (.cons (.str [85]) .nil)))
              (.cons .brk
              .nil)))))) 2)
            (.cons (.asf 1 (.var 5))
            (.cons (.iff (.bop false (.cons (.cmp .eq (.fld 1) (.fld 2)) (.cons (.cmp .ne (.idx (.fld 0) (.fld 1)) (.str [121])) .nil))) (.cons (.raise 1)
              .nil) .nil)
            (.cons (.auf 1 .add (.int 1))
            (.cons (.asf 5 (.fld 1))
            (.cons (.iff (.not (.e (.meth 2 (.cons (.cat 0) .nil)))) (.cons (.raise 1)
              .nil) .nil)
            (.cons (.expr (.meth 10 (.cons (.str [89]) .nil)))
            (.cons .brk
            .nil)))))))))

theorem one_beq (a b : Nat) : (([a] : List Nat) != [b]) = (a != b) := by
  by_cases h : a = b
  · subst h; simp
  · have : [a] ≠ [b] := fun q => h (List.cons.inj q).1
    simp only [bne, beq_eq_false_iff_ne.mpr this, beq_eq_false_iff_ne.mpr h]

/-- the search for a vowel's u or y fails in a calm text -/
theorem v_innerU {Γ : Env'} (h2 : Γ.meth 2 = sp_in_grouping) (hv : Γ.cat 0 = .set gv) {m : Ms} (ok : m.Ok) (hcalm : calm m.cur) {k : Nat} (hk : (k : Int) + 1 = m.c) (hvow : vow (m.cur.getD k 0) = true)
    {a0 a1 a2 a3 a4 a5 : Option V} {Q : Fl → St → Prop} (hQ : ∀ c ket a5, Q (.exc 1) ⟨[a0, a1, a2, a3, a4, a5], { m with c := c, ket := ket }.fl⟩) :
    wpS Γ (.whl (.e (.bool true)) innerU) ⟨[a0, a1, a2, a3, a4, a5], m.fl⟩ Q := by
  refine while_next (fun n σ => σ = ⟨[a0, a1, a2, a3, a4, a5], m.fl⟩) 0 rfl ?_
  rintro n σ rfl
  obtain ⟨o1, o2, o3, o4, o5⟩ := id ok
  simp only [wpT, wpE, if_true]
  simp only [innerU, wpSs, wpS, wpT, wpTs, wpE, wpEs, gf0, gf1, gf2, gl0, gls, op2i, cm, pt, List.set_cons_zero, List.set_cons_succ, sf1, sf5, h2, hv]
  cases q1 : (m.c == m.l) with
  | true =>
    simp only [show (true = false) = False from by simp, if_false, if_true, pt, List.set_cons_zero, List.set_cons_succ, gl0, gls, sf1, gf1, gf2, q1]
    exact hQ _ m.ket _
  | false =>
    have q1' : m.c ≠ m.l := beq_eq_false_iff_ne.mp q1
    have hlt : m.c < m.l := by omega
    have hch := getD_some (l := m.cur) (i := m.c) o1 (by omega)
    simp only [if_true, item, o1]
    refine ⟨_, hch, by omega, ?_⟩
    simp only [cm, one_beq]
    -- what a vowel two places on would say
    have key : (m.cur.getD m.c.toNat 0 = 117 ∨ m.cur.getD m.c.toNat 0 = 121) → ¬ (m.c + 1 < m.l ∧ gv.contains (m.cur.getD (m.c + 1).toNat 0) = true) := by
      rintro hu ⟨h1, h2⟩
      have g0 : m.cur[k]? = some (m.cur.getD k 0) := by
        have := getD_some (l := m.cur) (i := (k : Int)) (by omega) (by omega)
        simpa using this
      have g1 : m.cur[k + 1]? = some (m.cur.getD m.c.toNat 0) := by rw [← hch]; congr 1; omega
      have g2 : m.cur[k + 2]? = some (m.cur.getD (m.c + 1).toNat 0) := by
        have := getD_some (l := m.cur) (i := m.c + 1) (by omega) (by omega)
        rw [← this]; congr 1; omega
      have := hcalm k _ _ _ g0 g1 g2 hvow hu
      unfold vow at this
      rw [this] at h2
      cases h2
    have ok1 : ({ m with c := m.c + 1, ket := m.c + 1 } : Ms).Ok := ⟨by show 0 ≤ m.c + 1; omega, by show m.c + 1 ≤ m.l; omega, o3, o4, o5⟩
    by_cases hu : m.cur.getD m.c.toNat 0 = 117
    · have e1 : (m.cur.getD m.c.toNat 0 != 117) = false := by rw [hu]; rfl
      simp only [e1, if_true, Bool.false_eq_true, if_false]
      refine ⟨_, _, rfl, rfl, ok1, ?_⟩
      rw [if_neg (key (.inl hu))]
      simp only [Bool.not_false, if_true, gf0, gf1, gf2, gl0, gls, sf1, q1, item, o1]
      refine ⟨_, hch, by omega, ?_⟩
      have e2 : (m.cur.getD m.c.toNat 0 != 121) = true := by rw [hu]; rfl
      simp only [cm, one_beq, e2, show (true = false) = False from by simp, if_false, if_true]
      exact hQ _ _ _
    · have e1 : (m.cur.getD m.c.toNat 0 != 117) = true := by rw [bne, beq_eq_false_iff_ne.mpr hu]; rfl
      simp only [e1, show (true = false) = False from by simp, if_false, if_true, gf0, gf1, gf2, gl0, gls, sf1, q1, item, o1]
      refine ⟨_, hch, by omega, ?_⟩
      by_cases hy : m.cur.getD m.c.toNat 0 = 121
      · have e2 : (m.cur.getD m.c.toNat 0 != 121) = false := by rw [hy]; rfl
        simp only [e2, if_true, Bool.false_eq_true, if_false]
        refine ⟨_, _, rfl, rfl, ok1, ?_⟩
        rw [if_neg (key (.inr hy))]
        simp only [Bool.not_false, if_true]
        exact hQ _ _ _
      · have e2 : (m.cur.getD m.c.toNat 0 != 121) = true := by rw [bne, beq_eq_false_iff_ne.mpr hy]; rfl
        simp only [e2, show (true = false) = False from by simp, if_false, if_true]
        exact hQ _ m.ket _

noncomputable def loop1 : Ss := (.cons (.asg 4 (.fld 1))
        (.cons (.try_ (.cons (.iff (.not (.e (.meth 2 (.cons (.cat 0) .nil)))) (.cons (.raise 1)
            .nil) .nil)
          (.cons (.asf 4 (.fld 1))
          (.cons (.whl (.e (.bool true)) innerU)
          (.cons (.asf 1 (.var 4))
          (.cons .brk
          .nil))))) 1)
        (.cons (.asf 1 (.var 4))
        (.cons (.iff (.cmp .ge (.fld 1) (.fld 2)) (.cons (.raise 0)
          .nil) .nil)
        (.cons (.auf 1 .add (.int 1))
        .nil)))))

section
variable {Γ : Env'} {σ : St} {Q : Fl → St → Prop} {rest : Ss}
/-- what follows a statement -/
noncomputable def thn (Γ : Env') (rest : Ss) (Q : Fl → St → Prop) : Fl → St → Prop := fun f σ => match f with
  | .next => wpSs Γ rest σ Q
  | f => Q f σ
theorem ss_step (s : S) : wpSs Γ (.cons s rest) σ Q = wpS Γ s σ (thn Γ rest Q) := rfl
theorem ss_nil : wpSs Γ .nil σ Q = Q .next σ := rfl
theorem thn_next : thn Γ rest Q .next σ = wpSs Γ rest σ Q := rfl
theorem thn_brk : thn Γ rest Q .brk σ = Q .brk σ := rfl
theorem thn_cont : thn Γ rest Q .cont σ = Q .cont σ := rfl
theorem thn_ret (v : V) : thn Γ rest Q (.ret v) σ = Q (.ret v) σ := rfl
theorem thn_exc (l : Nat) : thn Γ rest Q (.exc l) σ = Q (.exc l) σ := rfl
theorem s_asg (k : Nat) (e : E) : wpS Γ (.asg k e) σ Q = wpE Γ e σ fun v σ => Q .next (σ.put k v) := rfl
theorem s_asf (k : Nat) (e : E) : wpS Γ (.asf k e) σ Q = wpE Γ e σ fun v σ => Q .next (σ.setf k v) := rfl
theorem s_auf (k : Nat) (op : Op2) (e : E) : wpS Γ (.auf k op e) σ Q = getv σ.fl k fun a => wpE Γ e σ fun b σ => op2i op a b fun v => Q .next (σ.setf k v) := rfl
theorem s_iff (t : T) (a b : Ss) : wpS Γ (.iff t a b) σ Q = wpT Γ t σ fun c σ => if c = true then wpSs Γ a σ Q else wpSs Γ b σ Q := rfl
/-- what a try hands on -/
noncomputable def cth (lab : Nat) (Q : Fl → St → Prop) : Fl → St → Prop := fun f σ => match f with
  | .exc l => if l = lab then Q .next σ else Q (.exc l) σ
  | f => Q f σ
theorem s_try (b : Ss) (lab : Nat) : wpS Γ (.try_ b lab) σ Q = wpSs Γ b σ (cth lab Q) := rfl
theorem cth_next (lab : Nat) : cth lab Q .next σ = Q .next σ := rfl
theorem cth_brk (lab : Nat) : cth lab Q .brk σ = Q .brk σ := rfl
theorem cth_cont (lab : Nat) : cth lab Q .cont σ = Q .cont σ := rfl
theorem cth_ret (lab : Nat) (v : V) : cth lab Q (.ret v) σ = Q (.ret v) σ := rfl
theorem cth_same (lab : Nat) : cth lab Q (.exc lab) σ = Q .next σ := if_pos rfl
theorem cth_exc {lab l : Nat} (h : l ≠ lab) : cth lab Q (.exc l) σ = Q (.exc l) σ := if_neg h
theorem s_raise (l : Nat) : wpS Γ (.raise l) σ Q = Q (.exc l) σ := rfl
theorem s_ret (e : E) : wpS Γ (.ret e) σ Q = wpE Γ e σ fun v σ => Q (.ret v) σ := rfl
theorem s_brk : wpS Γ .brk σ Q = Q .brk σ := rfl
theorem s_cont : wpS Γ .cont σ Q = Q .cont σ := rfl
theorem s_expr (e : E) : wpS Γ (.expr e) σ Q = wpE Γ e σ fun v σ => (match v with | .none | .bool _ | .int _ | .str _ => True | _ => False) ∧ Q .next σ := rfl
end

theorem v_loop1 {Γ : Env'} (M : Γ.Mono) (h2 : Γ.meth 2 = sp_in_grouping) (hv : Γ.cat 0 = .set gv) {m : Ms} (ok : m.Ok) (hcalm : calm m.cur) (hc0 : m.c = 0)
    {a0 a1 a2 a3 a4 a5 : Option V} {Q : Fl → St → Prop} (hQ : ∀ c bra ket a4 a5, Q (.exc 0) ⟨[a0, a1, a2, a3, a4, a5], { m with c := c, bra := bra, ket := ket }.fl⟩) :
    wpS Γ (.whl (.e (.bool true)) loop1) ⟨[a0, a1, a2, a3, a4, a5], m.fl⟩ Q := by
  obtain ⟨o1, o2, o3, o4, o5⟩ := id ok
  refine while_next (fun n σ => ∃ (k : Nat) (bra ket : Int) (a4 a5 : Option V), k ≤ m.cur.length ∧ n = m.cur.length - k ∧ σ = ⟨[a0, a1, a2, a3, a4, a5], { m with c := k, bra := bra, ket := ket }.fl⟩) m.cur.length
    ⟨0, m.bra, m.ket, a4, a5, Nat.zero_le _, rfl, by rw [show ((0 : Nat) : Int) = m.c from by omega]⟩ ?_
  rintro n σ ⟨k, bra, ket, a4, a5, hk, rfl, rfl⟩
  simp only [wpT, wpE, if_true]
  -- behind the try: the next sign, or the end
  have after : ∀ (c bra' ket' : Int) (a5' : Option V), wpSs Γ (.cons (.asf 1 (.var 4)) (.cons (.iff (.cmp .ge (.fld 1) (.fld 2)) (.cons (.raise 0) .nil) .nil) (.cons (.auf 1 .add (.int 1)) .nil)))
      ⟨[a0, a1, a2, a3, some (.int k), a5'], { m with c := c, bra := bra', ket := ket' }.fl⟩ fun f σ => match f with
        | .next | .cont => ∃ (m_1 : Nat), m_1 < m.cur.length - k ∧ ∃ (k_1 : Nat) (bra ket : Int) (a4 a5 : Option V), k_1 ≤ m.cur.length ∧ m_1 = m.cur.length - k_1 ∧ σ = ⟨[a0, a1, a2, a3, a4, a5], { m with c := k_1, bra := bra, ket := ket }.fl⟩
        | .brk => Q .next σ
        | f => Q f σ := by
    intro c bra' ket' a5'
    simp only [wpSs, wpS, wpT, wpE, gl0, gls, gf1, gf2, sf1, cm, op2i, decide_eq_true_eq]
    split
    · exact hQ _ _ _ _ _
    · exact ⟨m.cur.length - (k + 1), by omega, k + 1, bra', ket', _, _, by omega, rfl, by push_cast; rfl⟩
  simp only [loop1, ss_step, s_asg, s_try, wpE, gf1, pt, List.set_cons_zero, List.set_cons_succ, thn_next]
  simp only [ss_step, s_iff, wpT, wpE, wpEs, h2, hv]
  refine ⟨gv, _, rfl, rfl, ⟨by show (0 : Int) ≤ (k : Int); omega, by show (k : Int) ≤ m.l; omega, o3, o4, o5⟩, ?_⟩
  split
  · rename_i hg
    obtain ⟨hlt, hvw⟩ := hg
    simp only [Bool.not_true, Bool.false_eq_true, if_false, ss_nil, thn_next, ss_step, s_asf, wpE, gf1, sf4]
    have hvw' : vow (m.cur.getD k 0) = true := by
      have : ((k : Int)).toNat = k := Int.toNat_natCast k
      unfold vow
      rw [← this]; exact hvw
    have hlt' : (k : Int) < m.l := hlt
    refine v_innerU (m := { m with c := (k : Int) + 1, bra := (k : Int) + 1, ket := ket }) h2 hv ⟨by show (0 : Int) ≤ (k : Int) + 1; omega, by show (k : Int) + 1 ≤ m.l; omega, o3, o4, o5⟩ hcalm (k := k) rfl hvw' fun c ket' a5' => ?_
    rw [thn_exc, cth_same, thn_next]
    exact after c _ ket' a5'
  · simp only [Bool.not_false, if_true, ss_step, s_raise, thn_exc, cth_same, thn_next]
    exact after _ bra ket a5

noncomputable def sp_pre : Spec := fun Vs F Q => ∃ (m : Ms), Vs = [] ∧ F = m.fl ∧ m.Ok ∧ m.c = 0 ∧ 2 * m.cur.length ≤ 10000 ∧ calm m.cur ∧ ∀ c bra ket, Q (.bool true) { m with cur := pre m.cur, c := c, l := (pre m.cur).length, bra := bra, ket := ket }.fl

theorem v_pre (Γ : Env') (M : Γ.Mono) (h2 : Γ.meth 2 = sp_in_grouping) (h7 : Γ.meth 7 = sp_find) (h10 : Γ.meth 10 = sp_slice_from) (hv : Γ.cat 0 = .set gv) (hv4 : Γ.cat 4 = .lst (vsF A0)) : ∀ Vs F Q, sp_pre Vs F Q → bodySp Γ m_r_prelude 0 6 Vs F Q := by
  rintro Vs F Q ⟨m, rfl, rfl, ok, hc, hs, hcalm, h⟩
  refine ⟨rfl, ?_⟩
  obtain ⟨o1, o2, o3, o4, o5⟩ := id ok
  show wpSs Γ m_r_prelude ⟨[none, none, none, none, none, none], m.fl⟩ _
  have e : m_r_prelude = (.cons (.asg 0 (.fld 1)) (.cons (.whl (.e (.bool true)) (.cons (.asg 1 (.fld 1)) (.cons (.try_ (.cons (.whl (.e (.bool true)) loop1) (.cons .cont .nil)) 0) (.cons (.asf 1 (.var 1)) (.cons .brk .nil)))))
    (.cons (.asf 1 (.var 0)) (.cons (.whl (.e (.bool true)) loop2) (.cons (.ret (.bool true)) .nil))))) := rfl
  rw [e]
  simp only [ss_step, s_asg, wpE, gf1, pt, List.set_cons_zero, List.set_cons_succ, thn_next]
  refine while_next (fun n σ => σ = ⟨[some (.int m.c), none, none, none, none, none], m.fl⟩) 0 rfl ?_
  rintro n σ rfl
  simp only [wpT, wpE, if_true]
  simp only [ss_step, s_asg, s_try, wpE, gf1, pt, List.set_cons_zero, List.set_cons_succ, thn_next]
  refine v_loop1 M h2 hv ok hcalm hc fun c bra ket a4 a5 => ?_
  rw [thn_exc, cth_same, thn_next]
  simp only [ss_step, s_asf, s_brk, wpE, gl0, gls, sf1, thn_next, thn_brk]
  have hm : mid [] m.cur m.lb bra ket m.p1 m.p2 = { m with c := m.c, bra := bra, ket := ket } := by
    unfold mid
    simp only [List.nil_append, List.length_nil, Int.natCast_zero, Int.zero_add, hc, o3]
  have l2 := v_loop2 (Γ := Γ) h7 h10 hv4 (t := m.cur) (lb := m.lb) (bra := bra) (ket := ket) (p1 := m.p1) (p2 := m.p2) o5 hs (a0 := some (.int m.c)) (a1 := some (.int m.c)) (a2 := none) (a3 := none) (a4 := a4) (a5 := a5)
    (Q := fun f σ => match f with
      | .next => Q (.bool true) σ.fl
      | .ret W => Q W σ.fl
      | _ => False) (fun loc c bra ket => h c bra ket)
  rw [hm] at l2
  refine wpS_mono M _ _ _ _ (fun f σ q => ?_) l2
  cases f <;> first | exact q | skip
end Mine
namespace Mine
open PySem PySem.W PySem.Calls PyProof.Rows
set_option autoImplicit false
set_option maxRecDepth 100000

noncomputable def A2 : Tab := [([101], -1, 3), ([109, 101], -1, 1), ([110, 101], -1, 3), ([110, 101, 110, 110, 105, 114, 101], 2, 2), ([110, 105, 114, 101], -1, 2), ([110, 108], -1, 5), ([110, 114, 101], -1, 2), ([114, 101], -1, 2), ([115], -1, 4), ([115, 101], 8, 3), ([115, 110, 108], 8, 5)]
noncomputable def A3 : Tab := [([107, 99, 105, 116], -1, -1), ([110, 97, 108, 112], -1, -1), ([110, 100, 114, 111, 101, 103], -1, -1), ([110, 114, 101, 116, 110, 105], -1, -1), ([114, 116], -1, -1)]
noncomputable def A4 : Tab := [([110, 101], -1, 1), ([114, 101], -1, 1), ([116, 101], -1, 3), ([116, 115], -1, 2), ([116, 115, 101], 3, 1)]
noncomputable def A5 : Tab := [([103, 105], -1, 1), ([104, 99, 105, 108], -1, 1)]
noncomputable def A6 : Tab := [([100, 110, 101], -1, 1), ([103, 105], -1, 2), ([103, 110, 117], -1, 1), ([104, 99, 105, 108], -1, 3), ([104, 99, 115, 105], -1, 2), ([107, 105], -1, 2), ([116, 105, 101, 104], -1, 3), ([116, 105, 101, 107], -1, 4)]
noncomputable def A7 : Tab := [([39], -1, 1), ([104, 99, 115, 39], -1, 1), ([115, 39], -1, 1)]
theorem ok2 : A2.Ok := Tab.ok_of (by decide +kernel)
theorem ok3 : A3.Ok := Tab.ok_of (by decide +kernel)
theorem ok4 : A4.Ok := Tab.ok_of (by decide +kernel)
theorem ok5 : A5.Ok := Tab.ok_of (by decide +kernel)
theorem ok6 : A6.Ok := Tab.ok_of (by decide +kernel)
theorem ok7 : A7.Ok := Tab.ok_of (by decide +kernel)

/-- the stemmer over the text r read backwards, k signs ahead of the end -/
noncomputable abbrev rs (r : List Nat) (k : Nat) (b e : Int) (p1 p2 : Int) : Ms := ⟨r.reverse, (r.length : Int) - (k : Int), r.length, 0, b, e, some p1, some p2⟩

section
variable {Γ : Env'} {r : List Nat} {k : Nat} {b e p1 p2 : Int}
theorem rs_ok (hk : k ≤ r.length) (hr : r.length ≤ 10000) : (rs r k b e p1 p2).Ok :=
  ⟨by show (0 : Int) ≤ (r.length : Int) - (k : Int); omega, by show (r.length : Int) - (k : Int) ≤ r.length; omega, by show (r.length : Int) = (r.reverse.length : Int); rw [List.length_reverse], by show r.reverse.length ≤ 10000; rw [List.length_reverse]; exact hr, Int.le_refl 0⟩
theorem rs_back (hk : k ≤ r.length) : back r.reverse ((r.length : Int) - (k : Int)) = r.drop k := by
  unfold back
  rw [show ((r.length : Int) - (k : Int)).toNat = r.length - k from by omega, List.take_reverse, List.reverse_reverse]
  congr 1
  omega
theorem look_len {T : Tab} {t w : List Nat} {q : Int} (h : look T t = some (w, q)) : w.length ≤ t.length := by
  have := found_look T t
  rw [h] at this
  obtain ⟨_, _, _, _, hp, _⟩ := this
  exact pfx_len hp

theorem r_find (h8 : Γ.meth 8 = sp_find_b) {T : Tab} (O : T.Ok) (hk : k ≤ r.length) (hr : r.length ≤ 10000) {P : V → List (Option V) → Prop}
    (h1 : ∀ w q, look T (r.drop k) = some (w, q) → P (.int q) (rs r (k + w.length) b e p1 p2).fl) (h2 : look T (r.drop k) = none → P (.int 0) (rs r k b e p1 p2).fl) : Γ.meth 8 [.lst (vsB T)] (rs r k b e p1 p2).fl P := by
  rw [h8]
  refine ⟨T, _, rfl, rfl, rs_ok hk hr, rfl, O, fun x hx => ?_⟩
  have hx := look_eq O hx
  rw [rs_back hk] at hx
  subst hx
  cases q : look T (r.drop k) with
  | none => exact h2 q
  | some y =>
    obtain ⟨w, q'⟩ := y
    have := h1 w q' q
    have e1 : (r.length : Int) - ((k + w.length : Nat) : Int) = (r.length : Int) - (k : Int) - (w.length : Int) := by push_cast; omega
    unfold rs at this
    rw [e1] at this
    exact this

theorem r_eqs (h6 : Γ.meth 6 = sp_eq_s_b) {s : List Nat} (hk : k ≤ r.length) (hr : r.length ≤ 10000) (hs : s.length ≤ 100) {P : V → List (Option V) → Prop}
    (h1 : pfx s.reverse (r.drop k) = true → P (.bool true) (rs r (k + s.length) b e p1 p2).fl) (h2 : pfx s.reverse (r.drop k) = false → P (.bool false) (rs r k b e p1 p2).fl) : Γ.meth 6 [.str s] (rs r k b e p1 p2).fl P := by
  rw [h6]
  refine ⟨s, _, rfl, rfl, rs_ok hk hr, by show (0 : Int) ≤ (r.length : Int) - (k : Int); omega, hs, ?_⟩
  have key : endsW (cut r.reverse 0 ((r.length : Int) - (k : Int))) s = pfx s.reverse (r.drop k) := by
    have hb := rs_back (r := r) hk
    unfold back at hb
    have hc : cut r.reverse 0 ((r.length : Int) - (k : Int)) = (r.drop k).reverse := by
      unfold cut
      rw [← hb, List.reverse_reverse]; rfl
    rw [hc]
    generalize r.drop k = t
    unfold endsW
    rw [List.length_reverse]
    have pe : ∀ (u v : List Nat), pfx u v = (decide (u.length ≤ v.length) && (v.take u.length == u)) := by
      intro u
      induction u with
      | nil => intro v; simp [pfx]
      | cons a u ih =>
        intro v
        cases v with
        | nil => simp [pfx]
        | cons c v =>
          rw [pfx, ih]
          simp only [List.length_cons, Nat.add_le_add_iff_right, List.take_succ_cons]
          by_cases hac : a = c
          · subst hac; simp
          · have : ¬ (c = a) := fun q => hac q.symm
            simp [hac, this]
    rw [pe, List.length_reverse]
    by_cases hl : s.length ≤ t.length
    · have : t.reverse.drop (t.length - s.length) = (t.take s.length).reverse := by
        rw [List.drop_reverse]; congr 2; omega
      rw [this]
      have e2 : ((t.take s.length).reverse == s) = (t.take s.length == s.reverse) := by
        by_cases q : t.take s.length = s.reverse
        · rw [q, List.reverse_reverse]; simp
        · have : (t.take s.length).reverse ≠ s := fun z => q ((List.reverse_reverse _).symm.trans (congrArg List.reverse z))
          rw [beq_eq_false_iff_ne.mpr q, beq_eq_false_iff_ne.mpr this]
      rw [e2]
    · simp [hl]
  rw [key]
  cases q : pfx s.reverse (r.drop k) with
  | true =>
    have := h1 q
    have e1 : (r.length : Int) - ((k + s.length : Nat) : Int) = (r.length : Int) - (k : Int) - (s.length : Int) := by push_cast; omega
    unfold rs at this
    rw [e1] at this
    exact this
  | false => exact h2 q

noncomputable def hd (g : List Nat) : List Nat → Bool
  | [] => false
  | c :: _ => g.contains c

theorem rs_last (hk : k < r.length) : r.reverse.getD ((r.length : Int) - (k : Int) - 1).toNat 0 = r.getD k 0 := by
  rw [List.getD_eq_getElem?_getD, List.getD_eq_getElem?_getD, show ((r.length : Int) - (k : Int) - 1).toNat = r.length - 1 - k from by omega, List.getElem?_reverse (by omega)]
  congr 2
  omega
theorem hd_drop (g : List Nat) (hk : k < r.length) : hd g (r.drop k) = g.contains (r.getD k 0) := by
  have := drop_cons (l := r) (i := (k : Int)) (by omega) (by omega)
  rw [Int.toNat_natCast] at this
  rw [this]
  rfl

theorem r_grp (h4 : Γ.meth 4 = sp_in_grouping_b) {g : List Nat} (hk : k ≤ r.length) (hr : r.length ≤ 10000) {P : V → List (Option V) → Prop}
    (h1 : k < r.length → hd g (r.drop k) = true → P (.bool true) (rs r (k + 1) b e p1 p2).fl) (h2 : hd g (r.drop k) = false → P (.bool false) (rs r k b e p1 p2).fl) : Γ.meth 4 [.set g] (rs r k b e p1 p2).fl P := by
  rw [h4]
  refine ⟨g, _, rfl, rfl, rs_ok hk hr, ?_⟩
  show if (0 : Int) < (r.length : Int) - (k : Int) ∧ g.contains (r.reverse.getD ((r.length : Int) - (k : Int) - 1).toNat 0) = true then _ else _
  by_cases hlt : k < r.length
  · rw [rs_last hlt, ← hd_drop g hlt]
    cases q : hd g (r.drop k) with
    | true =>
      rw [if_pos ⟨by omega, rfl⟩]
      have := h1 hlt q
      have e1 : (r.length : Int) - ((k + 1 : Nat) : Int) = (r.length : Int) - (k : Int) - 1 := by push_cast; omega
      unfold rs at this
      rw [e1] at this
      exact this
    | false =>
      rw [if_neg (fun z => by cases z.2)]
      exact h2 q
  · rw [if_neg (fun z => by omega)]
    exact h2 (by rw [List.drop_of_length_le (by omega)]; rfl)

/-- the test for one sign ahead of the place -/
theorem r_tst {x : Nat} {loc : List (Option V)} (hk : k ≤ r.length) (hr : r.length ≤ 10000) {P : Bool → St → Prop} (h : P (!(pfx [x] (r.drop k))) ⟨loc, (rs r k b e p1 p2).fl⟩) :
    wpT Γ (.bop false (.cons (.cmp .le (.fld 1) (.fld 3)) (.cons (.cmp .ne (.idx (.fld 0) (.bin .sub (.fld 1) (.int 1))) (.str [x])) .nil))) ⟨loc, (rs r k b e p1 p2).fl⟩ P := by
  simp only [wpT, wpTs, wpE, gf0, gf1, gf3, op2, cm, item]
  by_cases hlt : k < r.length
  · rw [if_pos (by simp; omega), if_pos (by omega)]
    refine ⟨_, getD_some (by omega) (by rw [List.length_reverse]; omega), by omega, ?_⟩
    rw [one_beq, rs_last hlt]
    have : pfx [x] (r.drop k) = decide (x = r.getD k 0) := by
      have hd := drop_cons (l := r) (i := (k : Int)) (by omega) (by omega)
      rw [Int.toNat_natCast] at hd
      rw [hd]
      simp [pfx]
    rw [this] at h
    have e9 : (r.getD k 0 != x) = !(decide (x = r.getD k 0)) := by
      by_cases q : x = r.getD k 0
      · rw [decide_eq_true q, ← q]; simp
      · rw [decide_eq_false q, bne, beq_eq_false_iff_ne.mpr (Ne.symm q)]
    rw [e9]
    cases q : (!(decide (x = r.getD k 0))) with
    | true => rw [q] at h; rw [if_neg (by simp)]; exact h
    | false => rw [q] at h; rw [if_pos rfl]; exact h
  · have e0 : decide ((r.length : Int) - (k : Int) ≤ 0) = true := by simp; omega
    rw [e0, if_neg (by simp)]
    rw [List.drop_of_length_le (by omega)] at h
    exact h

/-- what stands behind the mark k2 goes -/
theorem r_del (h11 : Γ.meth 11 = sp_slice_del) {k2 : Nat} (hk2 : k2 ≤ r.length) (hk : k2 ≤ k) (hkr : k ≤ r.length) (hr : r.length ≤ 10000) {P : V → List (Option V) → Prop}
    (h : P .none (rs (r.drop k2) (k - k2) ((r.drop k2).length : Int) ((r.drop k2).length : Int) p1 p2).fl) : Γ.meth 11 [] (rs r k ((r.length : Int) - (k2 : Int)) (r.length : Int) p1 p2).fl P := by
  rw [h11]
  refine ⟨_, rfl, rfl, rs_ok hkr hr, by show (0 : Int) ≤ (r.length : Int) - (k2 : Int); omega, by show (r.length : Int) - (k2 : Int) ≤ r.length; omega, Int.le_refl _, ?_⟩
  have hl : ((r.drop k2).length : Int) = (r.length : Int) - (k2 : Int) := by rw [List.length_drop]; omega
  have hcur : r.reverse.take ((r.length : Int) - (k2 : Int)).toNat ++ r.reverse.drop (r.length : Int).toNat = (r.drop k2).reverse := by
    have hb := rs_back (r := r) hk2
    unfold back at hb
    rw [Int.toNat_natCast, List.drop_of_length_le (by rw [List.length_reverse]; omega), List.append_nil, ← hb, List.reverse_reverse]
  unfold rs at h
  rw [hl] at h
  show P .none (Ms.fl ⟨r.reverse.take ((r.length : Int) - (k2 : Int)).toNat ++ r.reverse.drop (r.length : Int).toNat, if (r.length : Int) ≤ (r.length : Int) - (k : Int) then _ else if (r.length : Int) - (k2 : Int) < (r.length : Int) - (k : Int) then _ else (r.length : Int) - (k : Int), (r.length : Int) - ((r.length : Int) - ((r.length : Int) - (k2 : Int))), 0, _, _, _, _⟩)
  rw [hcur]
  have e1 : (r.length : Int) - ((r.length : Int) - ((r.length : Int) - (k2 : Int))) = (r.length : Int) - (k2 : Int) := by omega
  have e2 : (r.length : Int) - (k2 : Int) - ((k - k2 : Nat) : Int) = (r.length : Int) - (k : Int) := by omega
  rw [e2] at h
  rw [e1]
  by_cases hz : k = 0
  · have : k2 = 0 := by omega
    subst this
    subst hz
    simpa using h
  · rw [if_neg (by omega), if_neg (by omega)]
    exact h

theorem r_R1 (h15 : Γ.meth 15 = sp_R Ms.p1) {P : V → List (Option V) → Prop} (h : P (.bool (decide (p1 ≤ (r.length : Int) - (k : Int)))) (rs r k b e p1 p2).fl) : Γ.meth 15 [] (rs r k b e p1 p2).fl P := by
  rw [h15]
  exact ⟨_, p1, rfl, rfl, rfl, h⟩
theorem r_R2 (h16 : Γ.meth 16 = sp_R Ms.p2) {P : V → List (Option V) → Prop} (h : P (.bool (decide (p2 ≤ (r.length : Int) - (k : Int)))) (rs r k b e p1 p2).fl) : Γ.meth 16 [] (rs r k b e p1 p2).fl P := by
  rw [h16]
  exact ⟨_, p2, rfl, rfl, rfl, h⟩
end
end Mine
namespace Mine
open PySem PySem.W PySem.Calls PyProof.Rows
set_option autoImplicit false
set_option maxRecDepth 100000

noncomputable def gS : List Nat := [98, 100, 102, 103, 104, 107, 108, 109, 110, 114, 116]
noncomputable def gST : List Nat := [98, 100, 102, 103, 104, 107, 108, 109, 110, 116]
noncomputable def gET : List Nat := [85, 100, 102, 103, 107, 108, 109, 110, 114, 115, 116, 122, 228]

noncomputable def step1 (p1 : Int) (r : List Nat) : List Nat := match look A2 r with
  | none => r
  | some (w, q) =>
    let d := r.drop w.length
    if p1 ≤ (d.length : Int) then
      (if q = 1 then (if pfx [116, 115, 121, 115] d then r else d) else if q = 2 then d
      else if q = 3 then (if pfx [115] d && pfx [115, 105, 110] (d.drop 1) then d.drop 1 else d)
      else if q = 4 then (if hd gS d then d else r) else 108 :: d)
    else r

section
variable {Γ : Env'} {r : List Nat} {k : Nat} {b e p1 p2 : Int}
theorem rs_zero : (⟨r.reverse, r.length, r.length, 0, b, e, some p1, some p2⟩ : Ms) = rs r 0 b e p1 p2 := by
  unfold rs
  rw [Int.natCast_zero, Int.sub_zero]
theorem r_find0 (h8 : Γ.meth 8 = sp_find_b) {T : Tab} (O : T.Ok) (hr : r.length ≤ 10000) {P : V → List (Option V) → Prop}
    (h1 : ∀ w q, look T r = some (w, q) → w.length ≤ r.length → P (.int q) (rs r w.length b e p1 p2).fl) (h2 : look T r = none → P (.int 0) (rs r 0 b e p1 p2).fl) : Γ.meth 8 [.lst (vsB T)] (rs r 0 b e p1 p2).fl P := by
  refine r_find h8 O (Nat.zero_le _) hr (fun w q hw => ?_) fun hw => ?_
  · rw [List.drop_zero] at hw
    rw [Nat.zero_add]
    exact h1 w q hw (look_len hw)
  · rw [List.drop_zero] at hw
    exact h2 hw

/-- the rest of the suffix goes, a sign comes -/
theorem r_from (h10 : Γ.meth 10 = sp_slice_from) (hk : k ≤ r.length) (hr : r.length ≤ 9999) {y : Nat} {P : V → List (Option V) → Prop}
    (h : ∀ c, P .none (Ms.fl ⟨(y :: r.drop k).reverse, c, ((y :: r.drop k).length : Int), 0, (r.length : Int) - (k : Int), ((r.length : Int) - (k : Int)) + 1, some p1, some p2⟩)) :
    Γ.meth 10 [.str [y]] (rs r k ((r.length : Int) - (k : Int)) (r.length : Int) p1 p2).fl P := by
  rw [h10]
  refine ⟨[y], _, rfl, rfl, rs_ok hk (by omega), by show (0 : Int) ≤ (r.length : Int) - (k : Int); omega, by show (r.length : Int) - (k : Int) ≤ r.length; omega, Int.le_refl _, by simp, ?_⟩
  have hb := rs_back (r := r) hk
  unfold back at hb
  have hcur : r.reverse.take ((r.length : Int) - (k : Int)).toNat ++ [y] ++ r.reverse.drop (r.length : Int).toNat = (y :: r.drop k).reverse := by
    rw [Int.toNat_natCast, List.drop_of_length_le (by rw [List.length_reverse]; omega), List.append_nil, List.reverse_cons, ← hb, List.reverse_reverse]
  have hl : (r.length : Int) + ((([y] : List Nat).length : Int) - ((r.length : Int) - ((r.length : Int) - (k : Int)))) = ((y :: r.drop k).length : Int) := by
    simp only [List.length_cons, List.length_nil, List.length_drop]; omega
  show P .none (Ms.fl ⟨r.reverse.take ((r.length : Int) - (k : Int)).toNat ++ [y] ++ r.reverse.drop (r.length : Int).toNat, _, (r.length : Int) + ((([y] : List Nat).length : Int) - ((r.length : Int) - ((r.length : Int) - (k : Int)))), 0, _, _, _, _⟩)
  rw [hcur, hl]
  exact h _

noncomputable def B1 : Ss := (.cons (.asg 4 (.meth 8 (.cons (.cat 6) .nil)))
    (.cons (.iff (.cmp .eq (.var 4) (.int 0)) (.cons (.raise 0)
      .nil) .nil)
    (.cons (.asf 4 (.fld 1))
    (.cons (.iff (.not (.e (.meth 15 .nil))) (.cons (.raise 0)
      .nil) .nil)
    (.cons (.iff (.cmp .eq (.var 4) (.int 1)) (.cons (.try_ (.cons (.iff (.not (.e (.meth 6 (.cons (.str [115, 121, 115, 116]) .nil)))) (.cons (.raise 1)
          .nil) .nil)
        (.cons (.raise 0)
        .nil)) 1)
      (.cons (.expr (.meth 11 .nil))
      .nil)) (.cons (.iff (.cmp .eq (.var 4) (.int 2)) (.cons (.expr (.meth 11 .nil))
        .nil) (.cons (.iff (.cmp .eq (.var 4) (.int 3)) (.cons (.expr (.meth 11 .nil))
          (.cons (.asg 8 (.bin .sub (.fld 2) (.fld 1)))
          (.cons (.try_ (.cons (.asf 5 (.fld 1))
            (.cons (.iff (.bop false (.cons (.cmp .le (.fld 1) (.fld 3)) (.cons (.cmp .ne (.idx (.fld 0) (.bin .sub (.fld 1) (.int 1))) (.str [115])) .nil))) (.cons (.asf 1 (.bin .sub (.fld 2) (.var 8)))
              (.cons (.raise 1)
              .nil)) .nil)
            (.cons (.auf 1 .sub (.int 1))
            (.cons (.asf 4 (.fld 1))
            (.cons (.iff (.not (.e (.meth 6 (.cons (.str [110, 105, 115]) .nil)))) (.cons (.asf 1 (.bin .sub (.fld 2) (.var 8)))
              (.cons (.raise 1)
              .nil)) .nil)
            (.cons (.expr (.meth 11 .nil))
            .nil)))))) 1)
          .nil))) (.cons (.iff (.cmp .eq (.var 4) (.int 4)) (.cons (.iff (.not (.e (.meth 4 (.cons (.cat 2) .nil)))) (.cons (.raise 0)
              .nil) .nil)
            (.cons (.expr (.meth 11 .nil))
            .nil)) (.cons (.expr (.meth 10 (.cons (.str [108]) .nil)))
            .nil))
          .nil))
        .nil))
      .nil))
    .nil)))))

theorem look_res {T : Tab} {t w : List Nat} {q : Int} (h : look T t = some (w, q)) : ∃ i, i < T.length ∧ T.w i = w ∧ T.res i = q := by
  have := found_look T t
  rw [h] at this
  obtain ⟨i, hi, e1, e2, _⟩ := this
  exact ⟨i, hi, e1, e2⟩

theorem v_step1 (h4 : Γ.meth 4 = sp_in_grouping_b) (h6 : Γ.meth 6 = sp_eq_s_b) (h8 : Γ.meth 8 = sp_find_b) (h10 : Γ.meth 10 = sp_slice_from) (h11 : Γ.meth 11 = sp_slice_del) (h15 : Γ.meth 15 = sp_R Ms.p1)
    (hc2 : Γ.cat 2 = .set gS) (hc6 : Γ.cat 6 = .lst (vsB A2)) (hr : r.length ≤ 9000) {l0 l1 l2 l3 l4 l5 l6 l7 l8 l9 l10 : Option V} {Q : Fl → St → Prop}
    (hQ : ∀ f, (f = .next ∨ f = .exc 0) → ∀ l4 l8 c b e, Q f ⟨[l0, l1, l2, l3, l4, l5, l6, l7, l8, l9, l10], Ms.fl ⟨(step1 p1 r).reverse, c, ((step1 p1 r).length : Int), 0, b, e, some p1, some p2⟩⟩) :
    wpSs Γ B1 ⟨[l0, l1, l2, l3, l4, l5, l6, l7, l8, l9, l10], (rs r 0 b r.length p1 p2).fl⟩ Q := by
  simp only [B1, ss_step, s_asg, wpE, wpEs, hc6, thn_next]
  refine r_find0 h8 ok2 (by omega) (fun w q hw hwl => ?_) fun hw => ?_
  · have hst : step1 p1 r = if p1 ≤ ((r.drop w.length).length : Int) then
      (if q = 1 then (if pfx [116, 115, 121, 115] (r.drop w.length) then r else r.drop w.length) else if q = 2 then r.drop w.length
      else if q = 3 then (if pfx [115] (r.drop w.length) && pfx [115, 105, 110] ((r.drop w.length).drop 1) then (r.drop w.length).drop 1 else r.drop w.length)
      else if q = 4 then (if hd gS (r.drop w.length) then r.drop w.length else r) else 108 :: r.drop w.length) else r := by
      unfold step1
      rw [hw]
    have hdl : ((r.drop w.length).length : Int) = (r.length : Int) - (w.length : Int) := by rw [List.length_drop]; omega
    have hq0 : (q == 0) = false := by
      obtain ⟨i, hi, _, e2⟩ := look_res hw
      have hi : i < 11 := hi
      rw [← e2]
      have : i = 0 ∨ i = 1 ∨ i = 2 ∨ i = 3 ∨ i = 4 ∨ i = 5 ∨ i = 6 ∨ i = 7 ∨ i = 8 ∨ i = 9 ∨ i = 10 := by omega
      rcases this with rfl | rfl | rfl | rfl | rfl | rfl | rfl | rfl | rfl | rfl | rfl <;> rfl
    simp only [ss_step, s_iff, s_asf, wpT, wpE, wpEs, gl0, gls, gf1, pt, List.set_cons_zero, List.set_cons_succ, cm, hq0, Bool.false_eq_true, if_false, ss_nil, thn_next, sf4]
    refine r_R1 h15 ?_
    by_cases hp : p1 ≤ (r.length : Int) - (w.length : Int)
    · rw [hdl, if_pos hp] at hst
      simp only [hp, decide_true, Bool.not_true, Bool.false_eq_true, if_false, ss_nil, thn_next, ss_step, s_iff, wpT, wpE, wpEs, gl0, gls, cm]
      by_cases q1 : q = 1
      · subst q1
        simp only [beq_self_eq_true, if_true, ss_step, s_try, s_iff, wpT, wpE, wpEs]
        rw [if_pos rfl] at hst
        refine r_eqs h6 hwl (by omega) (by simp) (fun hx => ?_) fun hx => ?_
        · rw [show ([115, 121, 115, 116] : List Nat).reverse = [116, 115, 121, 115] from rfl] at hx
          rw [hx, if_pos rfl] at hst
          simp only [Bool.not_true, Bool.false_eq_true, if_false, ss_nil, thn_next, ss_step, s_raise, thn_exc, cth_exc (show 0 ≠ 1 by decide)]
          have := hQ (.exc 0) (.inr rfl)
          rw [hst] at this
          exact this _ _ _ _ _
        · rw [show ([115, 121, 115, 116] : List Nat).reverse = [116, 115, 121, 115] from rfl] at hx
          rw [hx, if_neg (by simp)] at hst
          simp only [Bool.not_false, if_true, ss_step, s_raise, thn_exc, cth_same, thn_next, s_expr, wpE, wpEs]
          refine r_del h11 hwl (Nat.le_refl _) hwl (by omega) ⟨trivial, ?_⟩
          try simp only [thn_next, ss_nil]
          have := hQ .next (.inl rfl)
          rw [hst] at this
          exact this _ _ _ _ _
      have b1 : (q == 1) = false := beq_eq_false_iff_ne.mpr q1
      rw [if_neg q1] at hst
      simp only [b1, Bool.false_eq_true, if_false, ss_step, s_iff, wpT, wpE, gl0, gls, cm]
      by_cases q2 : q = 2
      · subst q2
        rw [if_pos rfl] at hst
        simp only [beq_self_eq_true, if_true, ss_step, s_expr, wpE, wpEs]
        refine r_del h11 hwl (Nat.le_refl _) hwl (by omega) ⟨trivial, ?_⟩
        try simp only [thn_next, ss_nil]
        have := hQ .next (.inl rfl)
        rw [hst] at this
        exact this _ _ _ _ _
      have b2 : (q == 2) = false := beq_eq_false_iff_ne.mpr q2
      rw [if_neg q2] at hst
      simp only [b2, Bool.false_eq_true, if_false, ss_step, s_iff, wpT, wpE, gl0, gls, cm]
      by_cases q3 : q = 3
      · subst q3
        rw [if_pos rfl] at hst
        simp only [beq_self_eq_true, if_true, ss_step, s_expr, wpE, wpEs]
        refine r_del h11 hwl (Nat.le_refl _) hwl (by omega) ⟨trivial, ?_⟩
        rw [Nat.sub_self]
        generalize hd : r.drop w.length = d at *
        have hdr : d.length ≤ r.length := by rw [← hd, List.length_drop]; omega
        simp only [thn_next, ss_step, s_asg, s_try, s_asf, wpE, gf1, gf2, gl0, gls, op2, pt, List.set_cons_zero, List.set_cons_succ, sf5]
        rw [s_iff]
        have e0 : (d.length : Int) - ((0 : Nat) : Int) = d.length := by simp
        have hm : ({ rs d 0 (d.length : Int) (d.length : Int) p1 p2 with ket := (d.length : Int) - ((0 : Nat) : Int) } : Ms) = rs d 0 d.length d.length p1 p2 := by rw [e0]
        have hm : (⟨d.reverse, (d.length : Int) - ((0 : Nat) : Int), d.length, 0, d.length, (d.length : Int) - ((0 : Nat) : Int), some p1, some p2⟩ : Ms) = rs d 0 d.length d.length p1 p2 := hm
        rw [hm]
        refine r_tst (Nat.zero_le _) (by omega) ?_
        rw [List.drop_zero]
        cases hs : pfx [115] d with
        | false =>
          rw [hs] at hst
          simp only [Bool.not_false, if_true, ss_step, s_asf, s_raise, wpE, gf2, gl0, gls, op2, sf1, thn_next, thn_exc, cth_same, ss_nil]
          have := hQ .next (.inl rfl)
          rw [hst] at this
          exact this _ _ _ _ _
        | true =>
          have h1 : 1 ≤ d.length := pfx_len hs
          rw [hs] at hst
          simp only [Bool.not_true, Bool.false_eq_true, if_false, ss_nil, thn_next, ss_step, s_auf, s_asf, s_iff, wpT, wpE, wpEs, gf1, op2i, sf1, sf4]
          have e1 : (d.length : Int) - ((0 : Nat) : Int) - 1 = (d.length : Int) - ((1 : Nat) : Int) := by simp
          rw [e1]
          refine r_eqs (k := 1) h6 h1 (by omega) (by simp) (fun hx => ?_) fun hx => ?_
          · rw [show ([110, 105, 115] : List Nat).reverse = [115, 105, 110] from rfl] at hx
            rw [hx] at hst
            have h3 := pfx_len hx
            rw [List.length_drop] at h3
            have h3 : 3 ≤ d.length - 1 := h3
            simp only [Bool.not_true, Bool.false_eq_true, if_false, ss_nil, thn_next, s_expr, wpE, wpEs]
            refine r_del (k := 1 + 3) h11 h1 (by omega) (by omega) (by omega) ⟨trivial, ?_⟩
            try simp only [thn_next, cth_next, ss_nil]
            have := hQ .next (.inl rfl)
            rw [hst] at this
            exact this _ _ _ _ _
          · rw [show ([110, 105, 115] : List Nat).reverse = [115, 105, 110] from rfl] at hx
            rw [hx] at hst
            simp only [Bool.not_false, if_true, ss_step, s_asf, s_raise, wpE, gf2, gl0, gls, op2, sf1, thn_next, thn_exc, cth_same, ss_nil]
            have := hQ .next (.inl rfl)
            rw [hst] at this
            exact this _ _ _ _ _
      have b3 : (q == 3) = false := beq_eq_false_iff_ne.mpr q3
      rw [if_neg q3] at hst
      simp only [b3, Bool.false_eq_true, if_false, ss_step, s_iff, wpT, wpE, gl0, gls, cm]
      by_cases q4 : q = 4
      · subst q4
        rw [if_pos rfl] at hst
        simp only [beq_self_eq_true, if_true, ss_step, s_iff, wpT, wpE, wpEs, hc2]
        refine r_grp h4 hwl (by omega) (fun hlt hx => ?_) fun hx => ?_
        · rw [hx, if_pos rfl] at hst
          simp only [Bool.not_true, Bool.false_eq_true, if_false, ss_nil, thn_next, ss_step, s_expr, wpE, wpEs]
          refine r_del h11 hwl (by omega) (by omega) (by omega) ⟨trivial, ?_⟩
          try simp only [thn_next, ss_nil]
          have := hQ .next (.inl rfl)
          rw [hst] at this
          exact this _ _ _ _ _
        · rw [hx, if_neg (by simp)] at hst
          simp only [Bool.not_false, if_true, ss_step, s_raise, thn_exc]
          have := hQ (.exc 0) (.inr rfl)
          rw [hst] at this
          exact this _ _ _ _ _
      have b4 : (q == 4) = false := beq_eq_false_iff_ne.mpr q4
      rw [if_neg q4] at hst
      simp only [b4, Bool.false_eq_true, if_false, ss_step, s_expr, wpE, wpEs]
      refine r_from h10 hwl (by omega) fun c => ⟨trivial, ?_⟩
      try simp only [thn_next, ss_nil]
      have := hQ .next (.inl rfl)
      rw [hst] at this
      exact this _ _ _ _ _
    · rw [hdl, if_neg hp] at hst
      simp only [hp, decide_false, Bool.not_false, if_true, ss_step, s_raise, thn_exc]
      have := hQ (.exc 0) (.inr rfl)
      rw [hst] at this
      exact this _ _ _ _ _
  · have hst : step1 p1 r = r := by unfold step1; rw [hw]
    simp only [ss_step, s_iff, wpT, wpE, gl0, gls, pt, List.set_cons_zero, List.set_cons_succ, cm, beq_self_eq_true, if_true, s_raise, thn_exc]
    have := hQ (.exc 0) (.inr rfl)
    rw [hst] at this
    exact this _ _ _ _ _
end
end Mine
namespace Mine
open PySem PySem.W PySem.Calls PyProof.Rows
set_option autoImplicit false
set_option maxRecDepth 100000

noncomputable def step2 (p1 : Int) (r : List Nat) : List Nat := match look A4 r with
  | none => r
  | some (w, q) =>
    let d := r.drop w.length
    if p1 ≤ (d.length : Int) then
      (if q = 1 then d else if q = 2 then (if hd gST d && decide (4 ≤ d.length) then d else r) else (if hd gET d && (look A3 d).isNone then d else r))
    else r

noncomputable def B2 : Ss := (.cons (.asg 4 (.meth 8 (.cons (.cat 8) .nil)))
    (.cons (.iff (.cmp .eq (.var 4) (.int 0)) (.cons (.raise 0)
      .nil) .nil)
    (.cons (.asf 4 (.fld 1))
    (.cons (.iff (.not (.e (.meth 15 .nil))) (.cons (.raise 0)
      .nil) .nil)
    (.cons (.iff (.cmp .eq (.var 4) (.int 1)) (.cons (.expr (.meth 11 .nil))
      .nil) (.cons (.iff (.cmp .eq (.var 4) (.int 2)) (.cons (.iff (.not (.e (.meth 4 (.cons (.cat 3) .nil)))) (.cons (.raise 0)
          .nil) .nil)
        (.cons (.iff (.cmp .lt (.bin .sub (.fld 1) (.int 3)) (.fld 3)) (.cons (.raise 0)
          .nil) .nil)
        (.cons (.auf 1 .sub (.int 3))
        (.cons (.expr (.meth 11 .nil))
        .nil)))) (.cons (.asg 6 (.bin .sub (.fld 2) (.fld 1)))
        (.cons (.iff (.not (.e (.meth 4 (.cons (.cat 1) .nil)))) (.cons (.raise 0)
          .nil) .nil)
        (.cons (.asf 1 (.bin .sub (.fld 2) (.var 6)))
        (.cons (.asg 7 (.bin .sub (.fld 2) (.fld 1)))
        (.cons (.try_ (.cons (.iff (.cmp .eq (.meth 8 (.cons (.cat 7) .nil)) (.int 0)) (.cons (.raise 1)
            .nil) .nil)
          (.cons (.raise 0)
          .nil)) 1)
        (.cons (.asf 1 (.bin .sub (.fld 2) (.var 7)))
        (.cons (.expr (.meth 11 .nil))
        .nil))))))))
      .nil))
    .nil)))))

section
variable {Γ : Env'} {r : List Nat} {k : Nat} {b e p1 p2 : Int}

theorem v_step2 (h4 : Γ.meth 4 = sp_in_grouping_b) (h8 : Γ.meth 8 = sp_find_b) (h11 : Γ.meth 11 = sp_slice_del) (h15 : Γ.meth 15 = sp_R Ms.p1)
    (hc1 : Γ.cat 1 = .set gET) (hc3 : Γ.cat 3 = .set gST) (hc7 : Γ.cat 7 = .lst (vsB A3)) (hc8 : Γ.cat 8 = .lst (vsB A4)) (hr : r.length ≤ 9000) {l0 l1 l2 l3 l4 l5 l6 l7 l8 l9 l10 : Option V} {Q : Fl → St → Prop}
    (hQ : ∀ f, (f = .next ∨ f = .exc 0) → ∀ l4 l6 l7 c b e, Q f ⟨[l0, l1, l2, l3, l4, l5, l6, l7, l8, l9, l10], Ms.fl ⟨(step2 p1 r).reverse, c, ((step2 p1 r).length : Int), 0, b, e, some p1, some p2⟩⟩) :
    wpSs Γ B2 ⟨[l0, l1, l2, l3, l4, l5, l6, l7, l8, l9, l10], (rs r 0 b r.length p1 p2).fl⟩ Q := by
  simp only [B2, ss_step, s_asg, wpE, wpEs, hc8, thn_next]
  refine r_find0 h8 ok4 (by omega) (fun w q hw hwl => ?_) fun hw => ?_
  · have hst : step2 p1 r = if p1 ≤ ((r.drop w.length).length : Int) then
      (if q = 1 then r.drop w.length else if q = 2 then (if hd gST (r.drop w.length) && decide (4 ≤ (r.drop w.length).length) then r.drop w.length else r) else (if hd gET (r.drop w.length) && (look A3 (r.drop w.length)).isNone then r.drop w.length else r)) else r := by
      unfold step2
      rw [hw]
    have hdn : (r.drop w.length).length = r.length - w.length := List.length_drop
    have hdl : ((r.drop w.length).length : Int) = (r.length : Int) - (w.length : Int) := by rw [List.length_drop]; omega
    have hq0 : (q == 0) = false := by
      obtain ⟨i, hi, _, e2⟩ := look_res hw
      have hi : i < 5 := hi
      rw [← e2]
      have : i = 0 ∨ i = 1 ∨ i = 2 ∨ i = 3 ∨ i = 4 := by omega
      rcases this with rfl | rfl | rfl | rfl | rfl <;> rfl
    simp only [ss_step, s_iff, s_asf, wpT, wpE, wpEs, gl0, gls, gf1, pt, List.set_cons_zero, List.set_cons_succ, cm, hq0, Bool.false_eq_true, if_false, ss_nil, thn_next, sf4]
    refine r_R1 h15 ?_
    by_cases hp : p1 ≤ (r.length : Int) - (w.length : Int)
    · rw [hdl, if_pos hp] at hst
      simp only [hp, decide_true, Bool.not_true, Bool.false_eq_true, if_false, ss_nil, thn_next, ss_step, s_iff, wpT, wpE, wpEs, gl0, gls, cm]
      by_cases q1 : q = 1
      · subst q1
        rw [if_pos rfl] at hst
        simp only [beq_self_eq_true, if_true, ss_step, s_expr, wpE, wpEs]
        refine r_del h11 hwl (Nat.le_refl _) hwl (by omega) ⟨trivial, ?_⟩
        try simp only [thn_next, ss_nil]
        have := hQ .next (.inl rfl)
        rw [hst] at this
        exact this _ _ _ _ _ _
      have b1 : (q == 1) = false := beq_eq_false_iff_ne.mpr q1
      rw [if_neg q1] at hst
      simp only [b1, Bool.false_eq_true, if_false, ss_step, s_iff, wpT, wpE, gl0, gls, cm]
      by_cases q2 : q = 2
      · subst q2
        rw [if_pos rfl] at hst
        simp only [beq_self_eq_true, if_true, ss_step, s_iff, wpT, wpE, wpEs, hc3]
        refine r_grp h4 hwl (by omega) (fun hlt hx => ?_) fun hx => ?_
        · rw [hx, Bool.true_and] at hst
          simp only [Bool.not_true, Bool.false_eq_true, if_false, ss_nil, thn_next, ss_step, s_iff, s_auf, s_expr, wpT, wpE, wpEs, gf1, gf3, op2, op2i, cm, sf1, decide_eq_true_eq]
          by_cases h4' : 4 ≤ (r.drop w.length).length
          · rw [decide_eq_true h4', if_pos rfl] at hst
            rw [if_neg (by push_cast; omega)]
            have e3 : (r.length : Int) - ((w.length + 1 : Nat) : Int) - 3 = (r.length : Int) - ((w.length + 4 : Nat) : Int) := by push_cast; omega
            rw [e3]
            refine r_del (k := w.length + 4) h11 hwl (by omega) (by omega) (by omega) ⟨trivial, ?_⟩
            try simp only [thn_next, ss_nil]
            have := hQ .next (.inl rfl)
            rw [hst] at this
            exact this _ _ _ _ _ _
          · rw [decide_eq_false h4', if_neg (by simp)] at hst
            rw [if_pos (by push_cast; omega)]
            try simp only [ss_step, s_raise, thn_exc]
            have := hQ (.exc 0) (.inr rfl)
            rw [hst] at this
            exact this _ _ _ _ _ _
        · rw [hx, Bool.false_and, if_neg (by simp)] at hst
          simp only [Bool.not_false, if_true, ss_step, s_raise, thn_exc]
          have := hQ (.exc 0) (.inr rfl)
          rw [hst] at this
          exact this _ _ _ _ _ _
      have b2 : (q == 2) = false := beq_eq_false_iff_ne.mpr q2
      rw [if_neg q2] at hst
      simp only [b2, Bool.false_eq_true, if_false, ss_step, s_asg, s_iff, wpT, wpE, wpEs, gl0, gls, gf1, gf2, op2, cm, pt, List.set_cons_zero, List.set_cons_succ, thn_next, hc1, Int.sub_sub_self]
      refine r_grp h4 hwl (by omega) (fun hlt hx => ?_) fun hx => ?_
      · rw [hx, Bool.true_and] at hst
        simp only [Bool.not_true, Bool.false_eq_true, if_false, ss_nil, thn_next, ss_step, s_asg, s_asf, s_try, s_iff, wpT, wpE, wpEs, gl0, gls, gf1, gf2, op2, cm, sf1, pt, List.set_cons_zero, List.set_cons_succ, hc7, Int.sub_sub_self]
        refine r_find (k := w.length) h8 ok3 hwl (by omega) (fun w2 q2 hw2 => ?_) fun hw2 => ?_
        · rw [hw2] at hst
          have hq2 : (q2 == 0) = false := by
            obtain ⟨i, hi, _, e2⟩ := look_res hw2
            have hi : i < 5 := hi
            rw [← e2]
            have : i = 0 ∨ i = 1 ∨ i = 2 ∨ i = 3 ∨ i = 4 := by omega
            rcases this with rfl | rfl | rfl | rfl | rfl <;> rfl
          simp only [hq2, Bool.false_eq_true, if_false, ss_nil, thn_next, ss_step, s_raise, thn_exc, cth_exc (show 0 ≠ 1 by decide)]
          have := hQ (.exc 0) (.inr rfl)
          rw [hst] at this
          exact this _ _ _ _ _ _
        · rw [hw2] at hst
          simp only [beq_self_eq_true, if_true, ss_step, s_raise, thn_exc, cth_same, thn_next, s_asf, s_expr, wpE, wpEs, gf2, gl0, gls, op2, sf1]
          refine r_del (k := w.length) h11 hwl (Nat.le_refl _) hwl (by omega) ⟨trivial, ?_⟩
          try simp only [thn_next, ss_nil]
          have := hQ .next (.inl rfl)
          rw [hst] at this
          exact this _ _ _ _ _ _
      · rw [hx, Bool.false_and, if_neg (by simp)] at hst
        simp only [Bool.not_false, if_true, ss_step, s_raise, thn_exc]
        have := hQ (.exc 0) (.inr rfl)
        rw [hst] at this
        exact this _ _ _ _ _ _
    · rw [hdl, if_neg hp] at hst
      simp only [hp, decide_false, Bool.not_false, if_true, ss_step, s_raise, thn_exc]
      have := hQ (.exc 0) (.inr rfl)
      rw [hst] at this
      exact this _ _ _ _ _ _
  · have hst : step2 p1 r = r := by unfold step2; rw [hw]
    simp only [ss_step, s_iff, wpT, wpE, gl0, gls, pt, List.set_cons_zero, List.set_cons_succ, cm, beq_self_eq_true, if_true, s_raise, thn_exc]
    have := hQ (.exc 0) (.inr rfl)
    rw [hst] at this
    exact this _ _ _ _ _ _

noncomputable def step4 (r : List Nat) : List Nat := match look A7 r with
  | none => r
  | some (w, _) => if 2 ≤ (r.drop w.length).length then r.drop w.length else r

noncomputable def B4 : Ss := (.cons (.iff (.cmp .eq (.meth 8 (.cons (.cat 11) .nil)) (.int 0)) (.cons (.raise 0)
      .nil) .nil)
    (.cons (.asf 4 (.fld 1))
    (.cons (.iff (.cmp .le (.fld 1) (.fld 3)) (.cons (.raise 0)
      .nil) .nil)
    (.cons (.auf 1 .sub (.int 1))
    (.cons (.iff (.cmp .le (.fld 1) (.fld 3)) (.cons (.raise 0)
      .nil) .nil)
    (.cons (.expr (.meth 11 .nil))
    .nil))))))

theorem v_step4 (h8 : Γ.meth 8 = sp_find_b) (h11 : Γ.meth 11 = sp_slice_del) (hc11 : Γ.cat 11 = .lst (vsB A7)) (hr : r.length ≤ 9000) {loc : List (Option V)} {Q : Fl → St → Prop}
    (hQ : ∀ f, (f = .next ∨ f = .exc 0) → ∀ c b e, Q f ⟨loc, Ms.fl ⟨(step4 r).reverse, c, ((step4 r).length : Int), 0, b, e, some p1, some p2⟩⟩) :
    wpSs Γ B4 ⟨loc, (rs r 0 b r.length p1 p2).fl⟩ Q := by
  simp only [B4, ss_step, s_iff, wpT, wpE, wpEs, hc11]
  refine r_find0 h8 ok7 (by omega) (fun w q hw hwl => ?_) fun hw => ?_
  · have hst : step4 r = if 2 ≤ (r.drop w.length).length then r.drop w.length else r := by unfold step4; rw [hw]
    have hdn : (r.drop w.length).length = r.length - w.length := List.length_drop
    have hq0 : (q == 0) = false := by
      obtain ⟨i, hi, _, e2⟩ := look_res hw
      have hi : i < 3 := hi
      rw [← e2]
      have : i = 0 ∨ i = 1 ∨ i = 2 := by omega
      rcases this with rfl | rfl | rfl <;> rfl
    simp only [cm, hq0, Bool.false_eq_true, if_false, ss_nil, thn_next, ss_step, s_asf, s_iff, s_auf, wpT, wpE, gf1, gf3, op2i, sf1, sf4, decide_eq_true_eq]
    by_cases hk : 2 ≤ (r.drop w.length).length
    · rw [if_pos hk] at hst
      rw [if_neg (by omega)]
      rw [if_neg (by omega)]
      have e3 : (r.length : Int) - (w.length : Int) - 1 = (r.length : Int) - ((w.length + 1 : Nat) : Int) := by push_cast; omega
      rw [e3]
      simp only [s_expr, wpE, wpEs]
      refine r_del (k := w.length + 1) h11 hwl (by omega) (by omega) (by omega) ⟨trivial, ?_⟩
      try simp only [thn_next, ss_nil]
      have := hQ .next (.inl rfl)
      rw [hst] at this
      exact this _ _ _
    · rw [if_neg hk] at hst
      have := hQ (.exc 0) (.inr rfl)
      rw [hst] at this
      by_cases h0 : (r.length : Int) - (w.length : Int) ≤ 0
      · rw [if_pos h0]
        try simp only [ss_step, s_raise, thn_exc]
        exact this _ _ _
      · rw [if_neg h0, if_pos (by omega)]
        try simp only [ss_step, s_raise, thn_exc]
        exact this _ _ _
  · have hst : step4 r = r := by unfold step4; rw [hw]
    simp only [cm, beq_self_eq_true, if_true, ss_step, s_raise, thn_exc]
    have := hQ (.exc 0) (.inr rfl)
    rw [hst] at this
    exact this _ _ _
end
end Mine
namespace Mine
open PySem PySem.W PySem.Calls PyProof.Rows
set_option autoImplicit false
set_option maxRecDepth 100000

noncomputable def liS (p2 : Int) (d : List Nat) : List Nat := match look A5 d with
  | none => d
  | some (w2, _) => if p2 ≤ ((d.drop w2.length).length : Int) then d.drop w2.length else d
noncomputable def step3 (p1 p2 : Int) (r : List Nat) : List Nat := match look A6 r with
  | none => r
  | some (w, q) =>
    let d := r.drop w.length
    if p2 ≤ (d.length : Int) then
      (if q = 1 then (if pfx [103, 105] d then (if pfx [101] (d.drop 2) then d else if p2 ≤ ((d.drop 2).length : Int) then d.drop 2 else d) else d)
      else if q = 2 then (if pfx [101] d then r else d)
      else if q = 3 then (if pfx [114, 101] d || pfx [110, 101] d then (if p1 ≤ ((d.drop 2).length : Int) then d.drop 2 else d) else d)
      else liS p2 d)
    else r

noncomputable def igP : Ss := (.cons (.asf 5 (.fld 1))
        (.cons (.iff (.not (.e (.meth 6 (.cons (.str [105, 103]) .nil)))) (.cons (.asf 1 (.bin .sub (.fld 2) (.var 5)))
          (.cons (.raise 1)
          .nil)) .nil)
        (.cons (.asf 4 (.fld 1))
        (.cons (.try_ (.cons (.iff (.bop false (.cons (.cmp .le (.fld 1) (.fld 3)) (.cons (.cmp .ne (.idx (.fld 0) (.bin .sub (.fld 1) (.int 1))) (.str [101])) .nil))) (.cons (.raise 2)
            .nil) .nil)
          (.cons (.auf 1 .sub (.int 1))
          (.cons (.asf 1 (.bin .sub (.fld 2) (.var 5)))
          (.cons (.raise 1)
          .nil)))) 2)
        (.cons (.iff (.not (.e (.meth 16 .nil))) (.cons (.asf 1 (.bin .sub (.fld 2) (.var 5)))
          (.cons (.raise 1)
          .nil)) .nil)
        (.cons (.expr (.meth 11 .nil))
        .nil))))))
noncomputable def erP : Ss := (.cons (.asf 5 (.fld 1))
            (.cons (.whl (.e (.bool true)) (.cons (.try_ (.cons (.iff (.not (.e (.meth 6 (.cons (.str [101, 114]) .nil)))) (.cons (.raise 2)
                  .nil) .nil)
                (.cons .brk
                .nil)) 2)
              (.cons (.iff (.not (.e (.meth 6 (.cons (.str [101, 110]) .nil)))) (.cons (.asf 1 (.bin .sub (.fld 2) (.var 9)))
                (.cons (.raise 1)
                .nil)) .nil)
              (.cons .brk
              .nil))))
            (.cons (.asf 4 (.fld 1))
            (.cons (.iff (.not (.e (.meth 15 .nil))) (.cons (.asf 1 (.bin .sub (.fld 2) (.var 9)))
              (.cons (.raise 1)
              .nil)) .nil)
            (.cons (.expr (.meth 11 .nil))
            .nil)))))
noncomputable def liP : Ss := (.cons (.asf 5 (.fld 1))
            (.cons (.iff (.cmp .eq (.meth 8 (.cons (.cat 9) .nil)) (.int 0)) (.cons (.asf 1 (.bin .sub (.fld 2) (.var 10)))
              (.cons (.raise 1)
              .nil)) .nil)
            (.cons (.asf 4 (.fld 1))
            (.cons (.iff (.not (.e (.meth 16 .nil))) (.cons (.asf 1 (.bin .sub (.fld 2) (.var 10)))
              (.cons (.raise 1)
              .nil)) .nil)
            (.cons (.expr (.meth 11 .nil))
            .nil)))))

noncomputable def B3 : Ss := (.cons (.asg 4 (.meth 8 (.cons (.cat 10) .nil)))
    (.cons (.iff (.cmp .eq (.var 4) (.int 0)) (.cons (.raise 0)
      .nil) .nil)
    (.cons (.asf 4 (.fld 1))
    (.cons (.iff (.not (.e (.meth 16 .nil))) (.cons (.raise 0)
      .nil) .nil)
    (.cons (.iff (.cmp .eq (.var 4) (.int 1)) (.cons (.expr (.meth 11 .nil))
      (.cons (.asg 5 (.bin .sub (.fld 2) (.fld 1)))
      (.cons (.try_ igP 1)
      .nil))) (.cons (.iff (.cmp .eq (.var 4) (.int 2)) (.cons (.try_ (.cons (.iff (.bop false (.cons (.cmp .le (.fld 1) (.fld 3)) (.cons (.cmp .ne (.idx (.fld 0) (.bin .sub (.fld 1) (.int 1))) (.str [101])) .nil))) (.cons (.raise 1)
            .nil) .nil)
          (.cons (.auf 1 .sub (.int 1))
          (.cons (.raise 0)
          .nil))) 1)
        (.cons (.expr (.meth 11 .nil))
        .nil)) (.cons (.iff (.cmp .eq (.var 4) (.int 3)) (.cons (.expr (.meth 11 .nil))
          (.cons (.asg 9 (.bin .sub (.fld 2) (.fld 1)))
          (.cons (.try_ erP 1)
          .nil))) (.cons (.expr (.meth 11 .nil))
          (.cons (.asg 10 (.bin .sub (.fld 2) (.fld 1)))
          (.cons (.try_ liP 1)
          .nil))))
        .nil))
      .nil))
    .nil)))))

section
variable {Γ : Env'} {d : List Nat} {p1 p2 : Int}

theorem rs_ket (d : List Nat) (p1 p2 : Int) : (⟨d.reverse, (d.length : Int) - ((0 : Nat) : Int), d.length, 0, d.length, (d.length : Int) - ((0 : Nat) : Int), some p1, some p2⟩ : Ms) = rs d 0 d.length d.length p1 p2 := by
  unfold rs
  rw [Int.natCast_zero, Int.sub_zero]

theorem v_ig (h6 : Γ.meth 6 = sp_eq_s_b) (h11 : Γ.meth 11 = sp_slice_del) (h16 : Γ.meth 16 = sp_R Ms.p2) (hr : d.length ≤ 9000) {l0 l1 l2 l3 l4 l6 l7 l8 l9 l10 : Option V} {v : Int} {Q : Fl → St → Prop}
    (hQ : ∀ c b e f, (f = .next ∨ f = .exc 1) → Q f ⟨[l0, l1, l2, l3, l4, some (.int v), l6, l7, l8, l9, l10], Ms.fl ⟨(if pfx [103, 105] d then (if pfx [101] (d.drop 2) then d else if p2 ≤ ((d.drop 2).length : Int) then d.drop 2 else d) else d).reverse, c, ((if pfx [103, 105] d then (if pfx [101] (d.drop 2) then d else if p2 ≤ ((d.drop 2).length : Int) then d.drop 2 else d) else d).length : Int), 0, b, e, some p1, some p2⟩⟩) :
    wpSs Γ igP ⟨[l0, l1, l2, l3, l4, some (.int v), l6, l7, l8, l9, l10], (rs d 0 d.length d.length p1 p2).fl⟩ Q := by
  simp only [igP, ss_step, s_asf, wpE, gf1, sf5, thn_next]
  simp only [s_iff, wpT, wpE, wpEs]
  rw [rs_ket]
  refine r_eqs (k := 0) h6 (Nat.zero_le _) (by omega) (by simp) (fun hx => ?_) fun hx => ?_
  · rw [List.drop_zero, show ([105, 103] : List Nat).reverse = [103, 105] from rfl] at hx
    rw [hx] at hQ
    simp only [if_true] at hQ
    have h2 : 2 ≤ d.length := pfx_len hx
    simp only [Bool.not_true, Bool.false_eq_true, if_false, ss_nil, thn_next, ss_step, s_asf, s_try, wpE, gf1, sf4]
    rw [s_iff]
    refine r_tst (k := 0 + ([105, 103] : List Nat).length) (by simpa using h2) (by omega) ?_
    rw [show 0 + ([105, 103] : List Nat).length = 2 from rfl]
    cases h1 : pfx [101] (d.drop 2) with
    | true =>
      rw [h1] at hQ
      simp only [if_true] at hQ
      simp only [Bool.not_true, Bool.false_eq_true, if_false, ss_nil, thn_next, ss_step, s_auf, s_asf, s_raise, wpE, gf1, gf2, gl0, gls, op2, op2i, sf1, thn_exc, cth_exc (show 1 ≠ 2 by decide)]
      exact hQ _ _ _ _ (.inr rfl)
    | false =>
      rw [h1] at hQ
      simp only [Bool.false_eq_true, if_false] at hQ
      simp only [Bool.not_false, if_true, ss_step, s_raise, thn_exc, cth_same, thn_next, s_iff, wpT, wpE, wpEs]
      refine r_R2 (k := 2) h16 ?_
      have hdl : ((d.drop 2).length : Int) = (d.length : Int) - ((2 : Nat) : Int) := by rw [List.length_drop]; omega
      by_cases hp : p2 ≤ (d.length : Int) - ((2 : Nat) : Int)
      · rw [hdl] at hQ
        simp only [if_pos hp] at hQ
        simp only [hp, decide_true, Bool.not_true, Bool.false_eq_true, if_false, ss_nil, thn_next, s_expr, wpE, wpEs]
        refine r_del (k := 2) h11 h2 (Nat.le_refl _) h2 (by omega) ⟨trivial, ?_⟩
        try simp only [thn_next, ss_nil]
        exact hQ _ _ _ _ (.inl rfl)
      · rw [hdl] at hQ
        simp only [if_neg hp] at hQ
        simp only [hp, decide_false, Bool.not_false, if_true, ss_step, s_asf, s_raise, wpE, gf2, gl0, gls, op2, sf1, thn_next, thn_exc]
        exact hQ _ _ _ _ (.inr rfl)
  · rw [List.drop_zero, show ([105, 103] : List Nat).reverse = [103, 105] from rfl] at hx
    rw [hx] at hQ
    simp only [Bool.false_eq_true, if_false] at hQ
    simp only [Bool.not_false, if_true, ss_step, s_asf, s_raise, wpE, gf2, gl0, gls, op2, sf1, thn_next, thn_exc]
    exact hQ _ _ _ _ (.inr rfl)

theorem v_er (h6 : Γ.meth 6 = sp_eq_s_b) (h11 : Γ.meth 11 = sp_slice_del) (h15 : Γ.meth 15 = sp_R Ms.p1) (hr : d.length ≤ 9000) {l0 l1 l2 l3 l4 l5 l6 l7 l8 l10 : Option V} {v : Int} {Q : Fl → St → Prop}
    (hQ : ∀ c b e f, (f = .next ∨ f = .exc 1) → Q f ⟨[l0, l1, l2, l3, l4, l5, l6, l7, l8, some (.int v), l10], Ms.fl ⟨(if pfx [114, 101] d || pfx [110, 101] d then (if p1 ≤ ((d.drop 2).length : Int) then d.drop 2 else d) else d).reverse, c, ((if pfx [114, 101] d || pfx [110, 101] d then (if p1 ≤ ((d.drop 2).length : Int) then d.drop 2 else d) else d).length : Int), 0, b, e, some p1, some p2⟩⟩) :
    wpSs Γ erP ⟨[l0, l1, l2, l3, l4, l5, l6, l7, l8, some (.int v), l10], (rs d 0 d.length d.length p1 p2).fl⟩ Q := by
  simp only [erP, ss_step, s_asf, wpE, gf1, sf5, thn_next]
  rw [rs_ket]
  -- the two deletions
  have tail : 2 ≤ d.length → (pfx [114, 101] d || pfx [110, 101] d) = true → wpSs Γ (.cons (.asf 4 (.fld 1))
            (.cons (.iff (.not (.e (.meth 15 .nil))) (.cons (.asf 1 (.bin .sub (.fld 2) (.var 9)))
              (.cons (.raise 1)
              .nil)) .nil)
            (.cons (.expr (.meth 11 .nil))
            .nil))) ⟨[l0, l1, l2, l3, l4, l5, l6, l7, l8, some (.int v), l10], (rs d 2 d.length d.length p1 p2).fl⟩ Q := by
    intro h2 hx
    rw [hx] at hQ
    simp only [if_true] at hQ
    simp only [ss_step, s_asf, s_iff, wpT, wpE, wpEs, gf1, sf4, thn_next]
    refine r_R1 (k := 2) h15 ?_
    have hdl : ((d.drop 2).length : Int) = (d.length : Int) - ((2 : Nat) : Int) := by rw [List.length_drop]; omega
    by_cases hp : p1 ≤ (d.length : Int) - ((2 : Nat) : Int)
    · rw [hdl] at hQ
      simp only [if_pos hp] at hQ
      simp only [hp, decide_true, Bool.not_true, Bool.false_eq_true, if_false, ss_nil, thn_next, s_expr, wpE, wpEs]
      refine r_del (k := 2) h11 h2 (Nat.le_refl _) h2 (by omega) ⟨trivial, ?_⟩
      try simp only [thn_next, ss_nil]
      exact hQ _ _ _ _ (.inl rfl)
    · rw [hdl] at hQ
      simp only [if_neg hp] at hQ
      simp only [hp, decide_false, Bool.not_false, if_true, ss_step, s_asf, s_raise, wpE, gf2, gl0, gls, op2, sf1, thn_next, thn_exc]
      exact hQ _ _ _ _ (.inr rfl)
  refine while_next (fun n σ => σ = ⟨[l0, l1, l2, l3, l4, l5, l6, l7, l8, some (.int v), l10], (rs d 0 d.length d.length p1 p2).fl⟩) 0 rfl ?_
  rintro n σ rfl
  simp only [wpT, wpE, if_true]
  simp only [ss_step, s_try, s_iff, wpT, wpE, wpEs]
  refine r_eqs (k := 0) h6 (Nat.zero_le _) (by omega) (by simp) (fun hx => ?_) fun hx => ?_
  · rw [List.drop_zero, show ([101, 114] : List Nat).reverse = [114, 101] from rfl] at hx
    simp only [Bool.not_true, Bool.false_eq_true, if_false, ss_nil, thn_next, ss_step, s_brk, thn_brk, cth_brk]
    exact tail (pfx_len hx) (by rw [hx]; rfl)
  · rw [List.drop_zero, show ([101, 114] : List Nat).reverse = [114, 101] from rfl] at hx
    simp only [Bool.not_false, if_true, ss_step, s_raise, thn_exc, cth_same, thn_next, s_iff, wpT, wpE, wpEs]
    refine r_eqs (k := 0) h6 (Nat.zero_le _) (by omega) (by simp) (fun hy => ?_) fun hy => ?_
    · rw [List.drop_zero, show ([101, 110] : List Nat).reverse = [110, 101] from rfl] at hy
      simp only [Bool.not_true, Bool.false_eq_true, if_false, ss_nil, thn_next, ss_step, s_brk, thn_brk]
      exact tail (pfx_len hy) (by rw [hy, Bool.or_true])
    · rw [List.drop_zero, show ([101, 110] : List Nat).reverse = [110, 101] from rfl] at hy
      rw [hx, hy] at hQ
      simp only [Bool.or_false, Bool.false_eq_true, if_false] at hQ
      simp only [Bool.not_false, if_true, ss_step, s_asf, s_raise, wpE, gf2, gl0, gls, op2, sf1, thn_next, thn_exc]
      exact hQ _ _ _ _ (.inr rfl)

theorem v_li (h8 : Γ.meth 8 = sp_find_b) (h11 : Γ.meth 11 = sp_slice_del) (h16 : Γ.meth 16 = sp_R Ms.p2) (hc9 : Γ.cat 9 = .lst (vsB A5)) (hr : d.length ≤ 9000) {l0 l1 l2 l3 l4 l5 l6 l7 l8 l9 : Option V} {v : Int} {Q : Fl → St → Prop}
    (hQ : ∀ c b e f, (f = .next ∨ f = .exc 1) → Q f ⟨[l0, l1, l2, l3, l4, l5, l6, l7, l8, l9, some (.int v)], Ms.fl ⟨(liS p2 d).reverse, c, ((liS p2 d).length : Int), 0, b, e, some p1, some p2⟩⟩) :
    wpSs Γ liP ⟨[l0, l1, l2, l3, l4, l5, l6, l7, l8, l9, some (.int v)], (rs d 0 d.length d.length p1 p2).fl⟩ Q := by
  simp only [liP, ss_step, s_asf, wpE, gf1, sf5, thn_next]
  simp only [s_iff, wpT, wpE, wpEs, hc9]
  rw [rs_ket]
  unfold liS at hQ
  refine r_find0 h8 ok5 (by omega) (fun w q hw hwl => ?_) fun hw => ?_
  · rw [hw] at hQ
    dsimp only at hQ
    have hq0 : (q == 0) = false := by
      obtain ⟨i, hi, _, e2⟩ := look_res hw
      have hi : i < 2 := hi
      rw [← e2]
      have : i = 0 ∨ i = 1 := by omega
      rcases this with rfl | rfl <;> rfl
    simp only [cm, hq0, Bool.false_eq_true, if_false, ss_nil, thn_next, ss_step, s_asf, s_iff, wpT, wpE, wpEs, gf1, sf4]
    refine r_R2 (k := w.length) h16 ?_
    have hdl : ((d.drop w.length).length : Int) = (d.length : Int) - (w.length : Int) := by rw [List.length_drop]; omega
    by_cases hp : p2 ≤ (d.length : Int) - (w.length : Int)
    · rw [hdl] at hQ
      simp only [if_pos hp] at hQ
      simp only [hp, decide_true, Bool.not_true, Bool.false_eq_true, if_false, ss_nil, thn_next, s_expr, wpE, wpEs]
      refine r_del (k := w.length) h11 hwl (Nat.le_refl _) hwl (by omega) ⟨trivial, ?_⟩
      try simp only [thn_next, ss_nil]
      exact hQ _ _ _ _ (.inl rfl)
    · rw [hdl] at hQ
      simp only [if_neg hp] at hQ
      simp only [hp, decide_false, Bool.not_false, if_true, ss_step, s_asf, s_raise, wpE, gf2, gl0, gls, op2, sf1, thn_next, thn_exc]
      exact hQ _ _ _ _ (.inr rfl)
  · rw [hw] at hQ
    dsimp only at hQ
    simp only [cm, beq_self_eq_true, if_true, ss_step, s_asf, s_raise, wpE, gf2, gl0, gls, op2, sf1, thn_next, thn_exc]
    exact hQ _ _ _ _ (.inr rfl)
end
end Mine
namespace Mine
open PySem PySem.W PySem.Calls PyProof.Rows
set_option autoImplicit false
set_option maxRecDepth 100000
section
variable {Γ : Env'} {r : List Nat} {p1 p2 : Int}

theorem v_step3 (h6 : Γ.meth 6 = sp_eq_s_b) (h8 : Γ.meth 8 = sp_find_b) (h11 : Γ.meth 11 = sp_slice_del) (h15 : Γ.meth 15 = sp_R Ms.p1) (h16 : Γ.meth 16 = sp_R Ms.p2)
    (hc9 : Γ.cat 9 = .lst (vsB A5)) (hc10 : Γ.cat 10 = .lst (vsB A6)) (hr : r.length ≤ 9000) {l0 l1 l2 l3 l4 l5 l6 l7 l8 l9 l10 : Option V} {b : Int} {Q : Fl → St → Prop}
    (hQ : ∀ f, (f = .next ∨ f = .exc 0) → ∀ l4 l5 l9 l10 c b e, Q f ⟨[l0, l1, l2, l3, l4, l5, l6, l7, l8, l9, l10], Ms.fl ⟨(step3 p1 p2 r).reverse, c, ((step3 p1 p2 r).length : Int), 0, b, e, some p1, some p2⟩⟩) :
    wpSs Γ B3 ⟨[l0, l1, l2, l3, l4, l5, l6, l7, l8, l9, l10], (rs r 0 b r.length p1 p2).fl⟩ Q := by
  simp only [B3, ss_step, s_asg, wpE, wpEs, hc10, thn_next]
  refine r_find0 h8 ok6 (by omega) (fun w q hw hwl => ?_) fun hw => ?_
  · have hst : step3 p1 p2 r = if p2 ≤ ((r.drop w.length).length : Int) then
      (if q = 1 then (if pfx [103, 105] (r.drop w.length) then (if pfx [101] ((r.drop w.length).drop 2) then r.drop w.length else if p2 ≤ (((r.drop w.length).drop 2).length : Int) then (r.drop w.length).drop 2 else r.drop w.length) else r.drop w.length)
      else if q = 2 then (if pfx [101] (r.drop w.length) then r else r.drop w.length)
      else if q = 3 then (if pfx [114, 101] (r.drop w.length) || pfx [110, 101] (r.drop w.length) then (if p1 ≤ (((r.drop w.length).drop 2).length : Int) then (r.drop w.length).drop 2 else r.drop w.length) else r.drop w.length)
      else liS p2 (r.drop w.length)) else r := by
      unfold step3
      rw [hw]
    have hdl : ((r.drop w.length).length : Int) = (r.length : Int) - (w.length : Int) := by rw [List.length_drop]; omega
    have hdr : (r.drop w.length).length ≤ 9000 := by rw [List.length_drop]; omega
    have hq0 : (q == 0) = false := by
      obtain ⟨i, hi, _, e2⟩ := look_res hw
      have hi : i < 8 := hi
      rw [← e2]
      have : i = 0 ∨ i = 1 ∨ i = 2 ∨ i = 3 ∨ i = 4 ∨ i = 5 ∨ i = 6 ∨ i = 7 := by omega
      rcases this with rfl | rfl | rfl | rfl | rfl | rfl | rfl | rfl <;> rfl
    simp only [ss_step, s_iff, s_asf, wpT, wpE, wpEs, gl0, gls, gf1, pt, List.set_cons_zero, List.set_cons_succ, cm, hq0, Bool.false_eq_true, if_false, ss_nil, thn_next, sf4]
    refine r_R2 h16 ?_
    by_cases hp : p2 ≤ (r.length : Int) - (w.length : Int)
    · rw [hdl, if_pos hp] at hst
      simp only [hp, decide_true, Bool.not_true, Bool.false_eq_true, if_false, ss_nil, thn_next, ss_step, s_iff, wpT, wpE, wpEs, gl0, gls, cm]
      by_cases q1 : q = 1
      · subst q1
        rw [if_pos rfl] at hst
        simp only [beq_self_eq_true, if_true, ss_step, s_expr, wpE, wpEs]
        refine r_del h11 hwl (Nat.le_refl _) hwl (by omega) ⟨trivial, ?_⟩
        rw [Nat.sub_self]
        simp only [thn_next, ss_step, s_asg, s_try, wpE, gf1, gf2, gl0, gls, op2, pt, List.set_cons_zero, List.set_cons_succ]
        refine v_ig h6 h11 h16 hdr fun c b e f hf => ?_
        rw [← hst]
        have := hQ .next (.inl rfl)
        rcases hf with rfl | rfl
        · rw [cth_next, thn_next, ss_nil]
          exact this _ _ _ _ _ _ _
        · rw [cth_same, thn_next, ss_nil]
          exact this _ _ _ _ _ _ _
      have b1 : (q == 1) = false := beq_eq_false_iff_ne.mpr q1
      rw [if_neg q1] at hst
      simp only [b1, Bool.false_eq_true, if_false, ss_step]
      by_cases q2 : q = 2
      · subst q2
        rw [if_pos rfl] at hst
        simp only [beq_self_eq_true, if_true, ss_step, s_try]
        rw [s_iff]
        refine r_tst hwl (by omega) ?_
        cases hx : pfx [101] (r.drop w.length) with
        | true =>
          rw [hx, if_pos rfl] at hst
          simp only [Bool.not_true, Bool.false_eq_true, if_false, ss_nil, thn_next, ss_step, s_auf, s_raise, wpE, gf1, op2i, sf1, thn_exc, cth_exc (show 0 ≠ 1 by decide)]
          have := hQ (.exc 0) (.inr rfl)
          rw [hst] at this
          exact this _ _ _ _ _ _ _
        | false =>
          rw [hx, if_neg (by simp)] at hst
          simp only [Bool.not_false, if_true, ss_step, s_raise, thn_exc, cth_same, thn_next, s_expr, wpE, wpEs]
          refine r_del h11 hwl (Nat.le_refl _) hwl (by omega) ⟨trivial, ?_⟩
          try simp only [thn_next, ss_nil]
          have := hQ .next (.inl rfl)
          rw [hst] at this
          exact this _ _ _ _ _ _ _
      have b2 : (q == 2) = false := beq_eq_false_iff_ne.mpr q2
      rw [if_neg q2] at hst
      simp only [b2, Bool.false_eq_true, if_false]
      by_cases q3 : q = 3
      · subst q3
        rw [if_pos rfl] at hst
        simp only [beq_self_eq_true, if_true, ss_step, s_expr, wpE, wpEs]
        refine r_del h11 hwl (Nat.le_refl _) hwl (by omega) ⟨trivial, ?_⟩
        rw [Nat.sub_self]
        simp only [thn_next, ss_step, s_asg, s_try, wpE, gf1, gf2, gl0, gls, op2, pt, List.set_cons_zero, List.set_cons_succ]
        refine v_er h6 h11 h15 hdr fun c b e f hf => ?_
        rw [← hst]
        have := hQ .next (.inl rfl)
        rcases hf with rfl | rfl
        · rw [cth_next, thn_next, ss_nil]
          exact this _ _ _ _ _ _ _
        · rw [cth_same, thn_next, ss_nil]
          exact this _ _ _ _ _ _ _
      have b3 : (q == 3) = false := beq_eq_false_iff_ne.mpr q3
      rw [if_neg q3] at hst
      simp only [b3, Bool.false_eq_true, if_false, s_expr, wpE, wpEs]
      refine r_del h11 hwl (Nat.le_refl _) hwl (by omega) ⟨trivial, ?_⟩
      rw [Nat.sub_self]
      simp only [thn_next, ss_step, s_asg, s_try, wpE, gf1, gf2, gl0, gls, op2, pt, List.set_cons_zero, List.set_cons_succ]
      refine v_li h8 h11 h16 hc9 hdr fun c b e f hf => ?_
      rw [← hst]
      have := hQ .next (.inl rfl)
      rcases hf with rfl | rfl
      · rw [cth_next, thn_next, ss_nil]
        exact this _ _ _ _ _ _ _
      · rw [cth_same, thn_next, ss_nil]
        exact this _ _ _ _ _ _ _
    · rw [hdl, if_neg hp] at hst
      simp only [hp, decide_false, Bool.not_false, if_true, ss_step, s_raise, thn_exc]
      have := hQ (.exc 0) (.inr rfl)
      rw [hst] at this
      exact this _ _ _ _ _ _ _
  · have hst : step3 p1 p2 r = r := by unfold step3; rw [hw]
    simp only [ss_step, s_iff, wpT, wpE, gl0, gls, pt, List.set_cons_zero, List.set_cons_succ, cm, beq_self_eq_true, if_true, s_raise, thn_exc]
    have := hQ (.exc 0) (.inr rfl)
    rw [hst] at this
    exact this _ _ _ _ _ _ _
end

noncomputable def suf (p1 p2 : Int) (r : List Nat) : List Nat := step4 (step3 p1 p2 (step2 p1 (step1 p1 r)))

theorem step1_len (p1 : Int) (r : List Nat) : (step1 p1 r).length ≤ r.length + 1 := by
  unfold step1
  cases look A2 r with
  | none => simp
  | some x =>
    obtain ⟨w, q⟩ := x
    dsimp only
    have hd : (r.drop w.length).length ≤ r.length := by rw [List.length_drop]; omega
    repeat' split
    all_goals first | omega | (simp only [List.length_cons]; omega) | (simp only [List.length_drop]; omega)
theorem step2_len (p1 : Int) (r : List Nat) : (step2 p1 r).length ≤ r.length := by
  unfold step2
  cases look A4 r with
  | none => simp
  | some x =>
    obtain ⟨w, q⟩ := x
    dsimp only
    have hd : (r.drop w.length).length ≤ r.length := by rw [List.length_drop]; omega
    repeat' split
    all_goals omega
theorem liS_len (p2 : Int) (d : List Nat) : (liS p2 d).length ≤ d.length := by
  unfold liS
  cases look A5 d with
  | none => simp
  | some x =>
    dsimp only
    split
    · simp only [List.length_drop]; omega
    · exact Nat.le_refl _
theorem step3_len (p1 p2 : Int) (r : List Nat) : (step3 p1 p2 r).length ≤ r.length := by
  unfold step3
  cases look A6 r with
  | none => simp
  | some x =>
    obtain ⟨w, q⟩ := x
    dsimp only
    have hd : (r.drop w.length).length ≤ r.length := by rw [List.length_drop]; omega
    have hli := liS_len p2 (r.drop w.length)
    repeat' split
    all_goals first | omega | (simp only [List.length_drop]; omega)
end Mine
namespace Mine
open PySem PySem.W PySem.Calls PyProof.Rows
set_option autoImplicit false
set_option maxRecDepth 100000

theorem step4_len (r : List Nat) : (step4 r).length ≤ r.length := by
  unfold step4
  cases look A7 r with
  | none => simp
  | some x =>
    obtain ⟨w, q⟩ := x
    dsimp only
    split
    · rw [List.length_drop]; omega
    · exact Nat.le_refl _
theorem suf_len (p1 p2 : Int) (r : List Nat) : (suf p1 p2 r).length ≤ r.length + 1 := by
  unfold suf
  have h1 := step1_len p1 r
  have h2 := step2_len p1 (step1 p1 r)
  have h3 := step3_len p1 p2 (step2 p1 (step1 p1 r))
  have h4 := step4_len (step3 p1 p2 (step2 p1 (step1 p1 r)))
  omega

/-- what the suffix method leans on -/
structure SufEnv (Γ : Env') : Prop where
  h4 : Γ.meth 4 = sp_in_grouping_b
  h6 : Γ.meth 6 = sp_eq_s_b
  h8 : Γ.meth 8 = sp_find_b
  h10 : Γ.meth 10 = sp_slice_from
  h11 : Γ.meth 11 = sp_slice_del
  h15 : Γ.meth 15 = sp_R Ms.p1
  h16 : Γ.meth 16 = sp_R Ms.p2
  c1 : Γ.cat 1 = .set gET
  c2 : Γ.cat 2 = .set gS
  c3 : Γ.cat 3 = .set gST
  c6 : Γ.cat 6 = .lst (vsB A2)
  c7 : Γ.cat 7 = .lst (vsB A3)
  c8 : Γ.cat 8 = .lst (vsB A4)
  c9 : Γ.cat 9 = .lst (vsB A5)
  c10 : Γ.cat 10 = .lst (vsB A6)
  c11 : Γ.cat 11 = .lst (vsB A7)

noncomputable def sp_suffix : Spec := fun Vs F Q => ∃ (r : List Nat) (b e p1 p2 : Int), Vs = [] ∧ F = (rs r 0 b e p1 p2).fl ∧ r.length ≤ 8000 ∧
  ∀ c b e, Q (.bool true) (Ms.fl ⟨(suf p1 p2 r).reverse, c, ((suf p1 p2 r).length : Int), 0, b, e, some p1, some p2⟩)

theorem v_suffix (Γ : Env') (H : SufEnv Γ) : ∀ Vs F Q, sp_suffix Vs F Q → bodySp Γ m_r_standard_suffix 0 11 Vs F Q := by
  rintro Vs F Q ⟨r, b, e, p1, p2, rfl, rfl, hr, h⟩
  refine ⟨rfl, ?_⟩
  show wpSs Γ m_r_standard_suffix ⟨[none, none, none, none, none, none, none, none, none, none, none], (rs r 0 b e p1 p2).fl⟩ _
  have hm : m_r_standard_suffix = (.cons (.asg 0 (.bin .sub (.fld 2) (.fld 1))) (.cons (.try_ (.cons (.asf 5 (.fld 1)) B1) 0) (.cons (.asf 1 (.bin .sub (.fld 2) (.var 0)))
    (.cons (.asg 1 (.bin .sub (.fld 2) (.fld 1))) (.cons (.try_ (.cons (.asf 5 (.fld 1)) B2) 0) (.cons (.asf 1 (.bin .sub (.fld 2) (.var 1)))
    (.cons (.asg 2 (.bin .sub (.fld 2) (.fld 1))) (.cons (.try_ (.cons (.asf 5 (.fld 1)) B3) 0) (.cons (.asf 1 (.bin .sub (.fld 2) (.var 2)))
    (.cons (.asg 3 (.bin .sub (.fld 2) (.fld 1))) (.cons (.try_ (.cons (.asf 5 (.fld 1)) B4) 0) (.cons (.asf 1 (.bin .sub (.fld 2) (.var 3)))
    (.cons (.ret (.bool true)) .nil))))))))))))) := rfl
  rw [hm]
  have l1 := step1_len p1 r
  have l2 := step2_len p1 (step1 p1 r)
  have l3 := step3_len p1 p2 (step2 p1 (step1 p1 r))
  have fin : ∀ {Q : Fl → St → Prop} {l0 l1 l2 l4 l5 l6 l7 l8 l9 l10 : Option V} {r : List Nat} {b e : Int}, r.length ≤ 9000 → (∀ loc c b e, Q (.ret (.bool true)) ⟨loc, Ms.fl ⟨(step4 r).reverse, c, ((step4 r).length : Int), 0, b, e, some p1, some p2⟩⟩) →
      wpSs Γ (.cons (.try_ (.cons (.asf 5 (.fld 1)) B4) 0) (.cons (.asf 1 (.bin .sub (.fld 2) (.var 3))) (.cons (.ret (.bool true)) .nil))) ⟨[l0, l1, l2, some (.int 0), l4, l5, l6, l7, l8, l9, l10], (rs r 0 b e p1 p2).fl⟩ Q := by
    intro Q l0 l1 l2 l4 l5 l6 l7 l8 l9 l10 r b e hr hQ
    rw [ss_step, s_try]
    simp only [ss_step, s_asf, wpE, gf1, sf5, thn_next]
    have hk : (⟨r.reverse, (r.length : Int) - ((0 : Nat) : Int), r.length, 0, b, (r.length : Int) - ((0 : Nat) : Int), some p1, some p2⟩ : Ms) = rs r 0 b r.length p1 p2 := by
      unfold rs; rw [Int.natCast_zero, Int.sub_zero]
    rw [hk]
    refine v_step4 H.h8 H.h11 H.c11 hr fun f hf c b e => ?_
    rcases hf with rfl | rfl
    · rw [cth_next, thn_next]
      simp only [ss_step, s_asf, s_ret, wpE, gf2, gl0, gls, op2, sf1, thn_next, thn_ret]
      exact hQ _ _ _ _
    · rw [cth_same, thn_next]
      simp only [ss_step, s_asf, s_ret, wpE, gf2, gl0, gls, op2, sf1, thn_next, thn_ret]
      exact hQ _ _ _ _
  have zz : ∀ (r : List Nat) (b e : Int), (⟨r.reverse, (r.length : Int) - ((r.length : Int) - ((r.length : Int) - ((0 : Nat) : Int))), r.length, 0, b, e, some p1, some p2⟩ : Ms) = rs r 0 b e p1 p2 := fun r b e => by
    unfold rs
    rw [Int.sub_sub_self]
  have hk : ∀ (r : List Nat) (b : Int), (⟨r.reverse, (r.length : Int) - ((0 : Nat) : Int), r.length, 0, b, (r.length : Int) - ((0 : Nat) : Int), some p1, some p2⟩ : Ms) = rs r 0 b r.length p1 p2 := fun r b => by
    unfold rs; rw [Int.natCast_zero, Int.sub_zero]
  have z0 : ∀ (r : List Nat), (r.length : Int) - ((r.length : Int) - ((0 : Nat) : Int)) = 0 := fun r => by rw [Int.sub_sub_self]; rfl
  have zr : ∀ (r : List Nat) (b e : Int), (⟨r.reverse, (r.length : Int) - 0, r.length, 0, b, e, some p1, some p2⟩ : Ms) = rs r 0 b e p1 p2 := fun r b e => rfl
  simp only [ss_step, s_asg, s_try, s_asf, wpE, gf1, gf2, gl0, gls, op2, pt, sf1, sf5, List.set_cons_zero, List.set_cons_succ, thn_next, z0]
  rw [hk]
  refine v_step1 H.h4 H.h6 H.h8 H.h10 H.h11 H.h15 H.c2 H.c6 (by omega) fun f hf l4 l8 c b e => ?_
  have next2 : wpSs Γ (.cons (.asf 1 (.bin .sub (.fld 2) (.var 0)))
    (.cons (.asg 1 (.bin .sub (.fld 2) (.fld 1))) (.cons (.try_ (.cons (.asf 5 (.fld 1)) B2) 0) (.cons (.asf 1 (.bin .sub (.fld 2) (.var 1)))
    (.cons (.asg 2 (.bin .sub (.fld 2) (.fld 1))) (.cons (.try_ (.cons (.asf 5 (.fld 1)) B3) 0) (.cons (.asf 1 (.bin .sub (.fld 2) (.var 2)))
    (.cons (.asg 3 (.bin .sub (.fld 2) (.fld 1))) (.cons (.try_ (.cons (.asf 5 (.fld 1)) B4) 0) (.cons (.asf 1 (.bin .sub (.fld 2) (.var 3)))
    (.cons (.ret (.bool true)) .nil))))))))))) ⟨[some (.int 0), none, none, none, l4, none, none, none, l8, none, none], Ms.fl ⟨(step1 p1 r).reverse, c, ((step1 p1 r).length : Int), 0, b, e, some p1, some p2⟩⟩ (fun fl σ => match fl with | .ret W => Q W σ.fl | .next => Q .none σ.fl | _ => False) := by
    simp only [ss_step, s_asg, s_asf, wpE, gf1, gf2, gl0, gls, op2, pt, sf1, List.set_cons_zero, List.set_cons_succ, thn_next]
    rw [s_try]
    simp only [ss_step, s_asf, wpE, gf1, sf5, thn_next]
    rw [show ((step1 p1 r).length : Int) - 0 = ((step1 p1 r).length : Int) - ((0 : Nat) : Int) from rfl, hk, z0]
    refine v_step2 H.h4 H.h8 H.h11 H.h15 H.c1 H.c3 H.c7 H.c8 (by omega) fun f hf l4 l6 l7 c b e => ?_
    have next3 : wpSs Γ (.cons (.asf 1 (.bin .sub (.fld 2) (.var 1)))
      (.cons (.asg 2 (.bin .sub (.fld 2) (.fld 1))) (.cons (.try_ (.cons (.asf 5 (.fld 1)) B3) 0) (.cons (.asf 1 (.bin .sub (.fld 2) (.var 2)))
      (.cons (.asg 3 (.bin .sub (.fld 2) (.fld 1))) (.cons (.try_ (.cons (.asf 5 (.fld 1)) B4) 0) (.cons (.asf 1 (.bin .sub (.fld 2) (.var 3)))
      (.cons (.ret (.bool true)) .nil)))))))) ⟨[some (.int 0), some (.int 0), none, none, l4, none, l6, l7, l8, none, none], Ms.fl ⟨(step2 p1 (step1 p1 r)).reverse, c, ((step2 p1 (step1 p1 r)).length : Int), 0, b, e, some p1, some p2⟩⟩ (fun fl σ => match fl with | .ret W => Q W σ.fl | .next => Q .none σ.fl | _ => False) := by
      simp only [ss_step, s_asg, s_asf, wpE, gf1, gf2, gl0, gls, op2, pt, sf1, List.set_cons_zero, List.set_cons_succ, thn_next]
      rw [s_try]
      simp only [ss_step, s_asf, wpE, gf1, sf5, thn_next]
      rw [show ((step2 p1 (step1 p1 r)).length : Int) - 0 = ((step2 p1 (step1 p1 r)).length : Int) - ((0 : Nat) : Int) from rfl, hk, z0]
      refine v_step3 H.h6 H.h8 H.h11 H.h15 H.h16 H.c9 H.c10 (by omega) fun f hf l4 l5 l9 l10 c b e => ?_
      have next4 : wpSs Γ (.cons (.asf 1 (.bin .sub (.fld 2) (.var 2)))
        (.cons (.asg 3 (.bin .sub (.fld 2) (.fld 1))) (.cons (.try_ (.cons (.asf 5 (.fld 1)) B4) 0) (.cons (.asf 1 (.bin .sub (.fld 2) (.var 3)))
        (.cons (.ret (.bool true)) .nil))))) ⟨[some (.int 0), some (.int 0), some (.int 0), none, l4, l5, l6, l7, l8, l9, l10], Ms.fl ⟨(step3 p1 p2 (step2 p1 (step1 p1 r))).reverse, c, ((step3 p1 p2 (step2 p1 (step1 p1 r))).length : Int), 0, b, e, some p1, some p2⟩⟩ (fun fl σ => match fl with | .ret W => Q W σ.fl | .next => Q .none σ.fl | _ => False) := by
        simp only [ss_step, s_asg, s_asf, wpE, gf1, gf2, gl0, gls, op2, pt, sf1, List.set_cons_zero, List.set_cons_succ, thn_next]
        rw [show ((step3 p1 p2 (step2 p1 (step1 p1 r))).length : Int) - 0 = ((step3 p1 p2 (step2 p1 (step1 p1 r))).length : Int) - ((0 : Nat) : Int) from rfl, z0]
        have := fin (Q := fun fl σ => match fl with | .ret W => Q W σ.fl | .next => Q .none σ.fl | _ => False) (l0 := some (.int 0)) (l1 := some (.int 0)) (l2 := some (.int 0)) (l4 := l4) (l5 := l5) (l6 := l6) (l7 := l7) (l8 := l8) (l9 := l9) (l10 := l10) (r := step3 p1 p2 (step2 p1 (step1 p1 r))) (b := b) (e := e) (by omega) (fun loc c b e => h c b e)
        rw [ss_step] at this
        exact this
      rcases hf with rfl | rfl
      · rw [cth_next, thn_next]; exact next4
      · rw [cth_same, thn_next]; exact next4
    rcases hf with rfl | rfl
    · rw [cth_next, thn_next]; exact next3
    · rw [cth_same, thn_next]; exact next3
  rcases hf with rfl | rfl
  · rw [cth_next]; exact next2
  · rw [cth_same]; exact next2
end Mine
namespace Mine
open PySem PySem.W PySem.Calls PyProof.Rows
set_option autoImplicit false
set_option maxRecDepth 100000

/-- the stem of a text -/
noncomputable def stemText (t : List Nat) : List Nat := ((suf (regs (pre t)).1 (regs (pre t)).2 (pre t).reverse).reverse).map pl

theorem pre_len : ∀ t : List Nat, (pre t).length ≤ 2 * t.length
  | [] => by simp [pre]
  | [c] => by
    unfold pre
    split <;> simp
  | c :: d :: r => by
    have h1 := pre_len r
    have h2 := pre_len (d :: r)
    simp only [List.length_cons] at h2 ⊢
    unfold pre
    repeat' split
    all_goals simp only [List.length_cons]
    all_goals omega

noncomputable def sp_stem : Spec := fun Vs F Q => ∃ (m : Ms), Vs = [] ∧ F = m.fl ∧ m.Ok ∧ m.c = 0 ∧ m.cur.length ≤ 1000 ∧ calm m.cur ∧
  ∀ c l lb bra ket p1 p2, Q (.bool true) (Ms.fl ⟨stemText m.cur, c, l, lb, bra, ket, p1, p2⟩)

theorem v_stem (Γ : Env') (h12 : Γ.meth 12 = sp_pre) (h13 : Γ.meth 13 = sp_mark) (h14 : Γ.meth 14 = sp_post) (h17 : Γ.meth 17 = sp_suffix) : ∀ Vs F Q, sp_stem Vs F Q → bodySp Γ m_stem 0 3 Vs F Q := by
  rintro Vs F Q ⟨m, rfl, rfl, ok, hc, hl, hcalm, h⟩
  refine ⟨rfl, ?_⟩
  obtain ⟨o1, o2, o3, o4, o5⟩ := id ok
  show wpSs Γ m_stem ⟨[none, none, none], m.fl⟩ _
  have hpl := pre_len m.cur
  simp only [m_stem, ss_step, s_asg, s_expr, wpE, wpEs, gf1, pt, List.set_cons_zero, List.set_cons_succ, thn_next, h12]
  refine ⟨m, rfl, rfl, ok, hc, by omega, hcalm, fun c bra ket => ⟨trivial, ?_⟩⟩
  simp only [thn_next, ss_step, s_asg, s_asf, s_expr, wpE, wpEs, gf1, gl0, gls, pt, sf1, List.set_cons_zero, List.set_cons_succ, h13, hc]
  refine ⟨_, rfl, rfl, ⟨Int.le_refl 0, by show (0 : Int) ≤ ((pre m.cur).length : Int); omega, rfl, by show (pre m.cur).length ≤ 10000; omega, o5⟩, rfl, fun b c => ⟨trivial, ?_⟩⟩
  simp only [thn_next, ss_step, s_asg, s_asf, s_expr, wpE, wpEs, gf1, gf2, gl0, gls, pt, sf1, sf3, List.set_cons_zero, List.set_cons_succ, h17]
  have hrr : (pre m.cur) = ((pre m.cur).reverse).reverse := (List.reverse_reverse _).symm
  have hrl : ((pre m.cur).reverse).length = (pre m.cur).length := List.length_reverse
  have hz : (⟨pre m.cur, ((pre m.cur).length : Int), ((pre m.cur).length : Int), 0, bra, ket, some (regs (pre m.cur)).1, some (regs (pre m.cur)).2⟩ : Ms) = rs (pre m.cur).reverse 0 bra ket (regs (pre m.cur)).1 (regs (pre m.cur)).2 := by
    unfold rs
    rw [List.reverse_reverse, hrl, Int.natCast_zero, Int.sub_zero]
  refine ⟨(pre m.cur).reverse, bra, ket, (regs (pre m.cur)).1, (regs (pre m.cur)).2, rfl, congrArg Ms.fl hz, by rw [hrl]; omega, fun c b e => ⟨trivial, ?_⟩⟩
  have hsl := suf_len (regs (pre m.cur)).1 (regs (pre m.cur)).2 (pre m.cur).reverse
  simp only [thn_next, ss_step, s_asg, s_asf, s_expr, wpE, wpEs, gf1, gf3, gl0, gls, pt, sf1, List.set_cons_zero, List.set_cons_succ, h14]
  refine ⟨_, rfl, rfl, ⟨Int.le_refl 0, by show (0 : Int) ≤ ((suf (regs (pre m.cur)).1 (regs (pre m.cur)).2 (pre m.cur).reverse).length : Int); omega, by show _ = (((suf (regs (pre m.cur)).1 (regs (pre m.cur)).2 (pre m.cur).reverse).reverse).length : Int); rw [List.length_reverse], by show ((suf (regs (pre m.cur)).1 (regs (pre m.cur)).2 (pre m.cur).reverse).reverse).length ≤ 10000; rw [List.length_reverse]; omega, Int.le_refl 0⟩, rfl, fun c bra ket => ⟨trivial, ?_⟩⟩
  simp only [thn_next, ss_step, s_asf, s_ret, wpE, gl0, gls, sf1, thn_ret]
  exact h _ _ _ _ _ _ _

noncomputable def sp_stemWord : Spec := fun Vs F Q => ∃ (t : List Nat) (m : Ms), Vs = [.str t] ∧ F = m.fl ∧ t.length ≤ 1000 ∧ calm t ∧
  ∀ c l lb bra ket p1 p2, Q (.str (stemText t)) (Ms.fl ⟨stemText t, c, l, lb, bra, ket, p1, p2⟩)

theorem v_stemWord (Γ : Env') (h0 : Γ.meth 0 = sp_set_current) (h1 : Γ.meth 1 = sp_get_current) (h18 : Γ.meth 18 = sp_stem) : ∀ Vs F Q, sp_stemWord Vs F Q → bodySp Γ m_stemWord 1 0 Vs F Q := by
  rintro Vs F Q ⟨t, m, rfl, rfl, hl, hcalm, h⟩
  refine ⟨rfl, ?_⟩
  show wpSs Γ m_stemWord ⟨[some (.str t)], m.fl⟩ _
  simp only [m_stemWord, ss_step, s_expr, s_ret, wpE, wpEs, gl0, h0, h1, h18]
  refine ⟨t, _, _, _, _, _, _, m.p1, m.p2, rfl, rfl, by omega, trivial, ?_⟩
  simp only [thn_next, ss_step, s_expr, s_ret, wpE, wpEs, h1, h18]
  refine ⟨_, rfl, rfl, ⟨Int.le_refl 0, by show (0 : Int) ≤ (t.length : Int); omega, rfl, by show t.length ≤ 10000; omega, Int.le_refl 0⟩, rfl, hl, hcalm, fun c l lb bra ket p1 p2 => ⟨trivial, ?_⟩⟩
  simp only [thn_next, ss_step, s_ret, wpE, wpEs, h1]
  exact ⟨_, rfl, rfl, h _ _ _ _ _ _ _⟩

noncomputable def sp_init : Spec := fun Vs F Q => Vs = [] ∧ F = [none, none, none, none, none, none, none, none] ∧ Q .none (Ms.fl ⟨[], 0, 0, 0, 0, 0, none, none⟩)
theorem v_init (Γ : Env') (h0 : Γ.meth 0 = sp_set_current) : ∀ Vs F Q, sp_init Vs F Q → bodySp Γ m_init 0 0 Vs F Q := by
  rintro Vs F Q ⟨rfl, rfl, h⟩
  refine ⟨rfl, ?_⟩
  show wpSs Γ m_init ⟨[], [none, none, none, none, none, none, none, none]⟩ _
  simp only [m_init, ss_step, s_expr, wpE, wpEs, h0]
  refine ⟨[], _, _, _, _, _, _, none, none, rfl, rfl, by simp, trivial, ?_⟩
  exact h
end Mine
namespace Mine
open PySem PySem.W PySem.Calls PyProof.Rows
set_option autoImplicit false
set_option maxRecDepth 100000

noncomputable def sounds : List Nat := [98, 99, 100, 102, 103, 104, 106, 107, 108, 109, 110, 112, 114, 115, 116, 118, 119, 120, 122, 223]
noncomputable def vowels : List (List Nat × List Nat) := [([97], [97]), ([101], [101]), ([105], [105]), ([111], [111]), ([117], [117]), ([121], [121]), ([228], [97]), ([246], [111]), ([252], [117]), ([97, 97], [97, 97]), ([101, 101], [101, 101]), ([111, 111], [111, 111]), ([97, 105], [97, 105]), ([97, 117], [97, 117]), ([101, 105], [101, 105]), ([101, 117], [101, 117]), ([105, 101], [105, 101]), ([228, 117], [97, 117]), ([97, 101], [97]), ([111, 101], [111]), ([117, 101], [117])]
noncomputable def dots : List (List Nat × List (List Nat)) := [([97], [[97], [228], [97, 101]]), ([111], [[111], [246], [111, 101]]), ([117], [[117], [252], [117, 101]]), ([97, 117], [[97, 117], [228, 117], [97, 101, 117]])]
noncomputable def closed : List (List Nat) := [[101, 109], [101, 110], [101, 114], [101, 114, 110], [101, 115], [105, 115], [101, 116], [115, 116], [101, 110, 100], [105, 103], [117, 110, 103], [108, 105, 99, 104], [105, 115, 99, 104], [105, 107], [104, 101, 105, 116], [107, 101, 105, 116], [101, 114, 105, 110], [101, 114, 105, 110, 110], [108, 110], [110, 105, 223], [110, 105, 115, 115], [98, 115], [100, 115], [102, 115], [103, 115], [104, 115], [107, 115], [108, 115], [109, 115], [110, 115], [114, 115], [116, 115]]
noncomputable def late : List (List Nat) := [[101, 114], [101, 110], [101], [101, 115], [115], [117, 110, 103], [105, 103], [108, 105, 99, 104], [105, 115, 99, 104], [101, 110, 100], [104, 101, 105, 116], [107, 101, 105, 116], [101, 114, 105, 110], [105, 107]]
noncomputable def marks : List (List Nat) := [[39], [39, 115], [39, 115, 99, 104]]
noncomputable def families : List (List Nat × List Nat × List (List Nat × List Nat)) := [([115], [115], [([115], [115])]),
  ([115, 116], [115, 116], [([115, 116], [115, 116]), ([115, 116, 101], [115, 116, 101]), ([115, 116, 101, 110], [115, 116, 101, 110]), ([115, 116, 101, 114], [115, 116, 101, 114]), ([115, 116, 101, 115], [115, 116, 101, 115]), ([115, 116, 101, 109], [115, 116, 101, 109])]),
  ([101, 116], [101, 116], [([101, 116], [101, 116]), ([101, 116, 101], [101, 116]), ([101, 116, 101, 110], [101, 116]), ([101, 116, 101, 114], [101, 116]), ([101, 116, 101, 115], [101, 116]), ([101, 116, 101, 109], [101, 116])]),
  ([], [], [([], []), ([101], [101]), ([101, 109], [101, 109]), ([101, 110], [101, 110]), ([101, 114], [101, 114]), ([101, 115], [101, 115]), ([101, 114, 110], [101, 114, 110]), ([101, 110, 115], [101, 110]), ([101, 114, 115], [101, 114]), ([101, 115, 116], [101, 115, 116]), ([101, 115, 116, 101], [101, 115, 116]), ([101, 115, 116, 101, 110], [101, 115, 116]), ([101, 115, 116, 101, 114], [101, 115, 116]), ([101, 115, 116, 101, 115], [101, 115, 116]), ([101, 115, 116, 101, 109], [101, 115, 116]), ([101, 114, 101], [101, 114]), ([101, 114, 101, 110], [101, 114]), ([101, 114, 101, 114], [101, 114]), ([101, 114, 101, 115], [101, 114]), ([101, 114, 101, 109], [101, 114])]),
  ([], [], [([101, 114, 105, 110], [101, 114, 105, 110]), ([101, 114, 105, 110, 110, 101, 110], [101, 114, 105, 110, 110]), ([101, 114, 108, 105, 99, 104], [101, 114, 108, 105, 99, 104]), ([101, 114, 108, 105, 99, 104, 101], [101, 114, 108, 105, 99, 104]), ([101, 114, 108, 105, 99, 104, 101, 110], [101, 114, 108, 105, 99, 104]), ([101, 114, 108, 105, 99, 104, 101, 114], [101, 114, 108, 105, 99, 104]), ([101, 114, 108, 105, 99, 104, 101, 115], [101, 114, 108, 105, 99, 104]), ([101, 114, 108, 105, 99, 104, 101, 109], [101, 114, 108, 105, 99, 104]), ([101, 114, 108, 105, 99, 104, 101, 114, 101], [101, 114, 108, 105, 99, 104]), ([101, 114, 108, 105, 99, 104, 115, 116, 101], [101, 114, 108, 105, 99, 104]), ([101, 110, 104, 101, 105, 116], [101, 110, 104, 101, 105, 116]), ([101, 110, 104, 101, 105, 116, 101, 110], [101, 110, 104, 101, 105, 116])]),
  ([], [], [([39], []), ([39, 115], []), ([39, 115, 99, 104], []), ([39, 115, 99, 104, 101], [39, 115, 99, 104, 101]), ([39, 115, 99, 104, 101, 110], [39, 115, 99, 104, 101, 110]), ([39, 115, 99, 104, 101, 114], [39, 115, 99, 104, 101, 114]), ([39, 115, 99, 104, 101, 115], [39, 115, 99, 104, 101, 115]), ([39, 115, 99, 104, 101, 109], [39, 115, 99, 104, 101, 109])]),
  ([101, 116], [101, 116], [([101, 116, 101, 115, 116], [101, 116]), ([101, 116, 101, 116], [101, 116])]),
  ([116], [116], [([116], [116]), ([116, 101], [116, 101]), ([116, 101, 110], [116, 101, 110]), ([116, 101, 114], [116, 101, 114]), ([116, 101, 115], [116, 101, 115]), ([116, 101, 109], [116, 101, 109]), ([116, 101, 115, 116], [116, 101, 115, 116]), ([116, 101, 116], [116, 101, 116]), ([116, 101, 114, 110], [116, 101, 114, 110]), ([116, 101, 116, 101], [116, 101, 116]), ([116, 101, 116, 101, 110], [116, 101, 116])]),
  ([], [101, 110, 100], [([101, 110, 100], [101, 110, 100]), ([101, 110, 100, 101], [101, 110, 100]), ([101, 110, 100, 101, 110], [101, 110, 100]), ([101, 110, 100, 101, 114], [101, 110, 100]), ([101, 110, 100, 101, 115], [101, 110, 100]), ([101, 110, 100, 101, 109], [101, 110, 100]), ([101, 110, 100, 115], [101, 110, 100]), ([101, 110, 100, 115, 116, 101], [101, 110, 100]), ([101, 110, 100, 115, 116, 101, 110], [101, 110, 100])]),
  ([], [117, 110, 103], [([117, 110, 103], [117, 110, 103]), ([117, 110, 103, 101, 110], [117, 110, 103]), ([117, 110, 103, 115], [117, 110, 103])]),
  ([], [105, 103], [([105, 103], [105, 103]), ([105, 103, 101], [105, 103]), ([105, 103, 101, 110], [105, 103]), ([105, 103, 101, 114], [105, 103]), ([105, 103, 101, 115], [105, 103]), ([105, 103, 101, 109], [105, 103]), ([105, 103, 101, 114, 101], [105, 103]), ([105, 103, 115, 116], [105, 103]), ([105, 103, 115, 116, 101], [105, 103]), ([105, 103, 115, 116, 101, 110], [105, 103])]),
  ([], [105, 103], [([105, 103, 107, 101, 105, 116], [105, 103, 107, 101, 105, 116]), ([105, 103, 107, 101, 105, 116, 101, 110], [105, 103, 107, 101, 105, 116]), ([105, 103, 107, 101, 105, 116, 115], [105, 103, 107, 101, 105, 116]), ([105, 103, 117, 110, 103], [105, 103, 117, 110, 103]), ([105, 103, 117, 110, 103, 101, 110], [105, 103, 117, 110, 103]), ([105, 103, 101, 110, 100], [105, 103, 101, 110, 100]), ([105, 103, 101, 110, 100, 101], [105, 103, 101, 110, 100])]),
  ([], [108, 105, 99, 104], [([108, 105, 99, 104], [108, 105, 99, 104]), ([108, 105, 99, 104, 101], [108, 105, 99, 104]), ([108, 105, 99, 104, 101, 110], [108, 105, 99, 104]), ([108, 105, 99, 104, 101, 114], [108, 105, 99, 104]), ([108, 105, 99, 104, 101, 115], [108, 105, 99, 104]), ([108, 105, 99, 104, 101, 109], [108, 105, 99, 104]), ([108, 105, 99, 104, 101, 114, 101], [108, 105, 99, 104]), ([108, 105, 99, 104, 115, 116, 101], [108, 105, 99, 104]), ([108, 105, 99, 104, 107, 101, 105, 116], [108, 105, 99, 104, 107, 101, 105, 116]), ([108, 105, 99, 104, 107, 101, 105, 116, 101, 110], [108, 105, 99, 104, 107, 101, 105, 116])]),
  ([], [105, 115, 99, 104], [([105, 115, 99, 104], [105, 115, 99, 104]), ([105, 115, 99, 104, 101], [105, 115, 99, 104]), ([105, 115, 99, 104, 101, 110], [105, 115, 99, 104]), ([105, 115, 99, 104, 101, 114], [105, 115, 99, 104]), ([105, 115, 99, 104, 101, 115], [105, 115, 99, 104]), ([105, 115, 99, 104, 101, 109], [105, 115, 99, 104]), ([105, 115, 99, 104, 101, 114, 101], [105, 115, 99, 104])]),
  ([], [105, 107], [([105, 107], [105, 107]), ([105, 107, 101], [105, 107]), ([105, 107, 101, 110], [105, 107]), ([105, 107, 115], [105, 107]), ([105, 107, 101, 114], [105, 107]), ([105, 107, 101, 114, 115], [105, 107]), ([105, 107, 101, 114, 110], [105, 107]), ([105, 107, 101, 114, 105, 110], [105, 107]), ([105, 107, 101, 114, 105, 110, 110, 101, 110], [105, 107])]),
  ([], [104, 101, 105, 116], [([104, 101, 105, 116], [104, 101, 105, 116]), ([104, 101, 105, 116, 101, 110], [104, 101, 105, 116]), ([104, 101, 105, 116, 115], [104, 101, 105, 116])]),
  ([], [107, 101, 105, 116], [([107, 101, 105, 116], [107, 101, 105, 116]), ([107, 101, 105, 116, 101, 110], [107, 101, 105, 116]), ([107, 101, 105, 116, 115], [107, 101, 105, 116])]),
  ([101, 114], [101, 114], [([101, 114, 108, 105, 99, 104, 107, 101, 105, 116], [101, 114, 108, 105, 99, 104]), ([101, 114, 108, 105, 99, 104, 107, 101, 105, 116, 101, 110], [101, 114, 108, 105, 99, 104]), ([101, 114, 105, 115, 99, 104], [101, 114, 105, 115, 99, 104]), ([101, 114, 105, 115, 99, 104, 101], [101, 114, 105, 115, 99, 104]), ([101, 114, 105, 115, 99, 104, 101, 110], [101, 114, 105, 115, 99, 104]), ([101, 114, 105, 115, 99, 104, 101, 114], [101, 114, 105, 115, 99, 104])]),
  ([101, 110, 116], [101, 110, 116], [([101, 110, 116, 108, 105, 99, 104], [101, 110, 116, 108, 105, 99, 104]), ([101, 110, 116, 108, 105, 99, 104, 101], [101, 110, 116, 108, 105, 99, 104]), ([101, 110, 116, 108, 105, 99, 104, 107, 101, 105, 116], [101, 110, 116, 108, 105, 99, 104])]),
  ([101, 108], [101, 108], [([101, 108], [101, 108]), ([101, 108, 115], [101, 108]), ([101, 108, 110], [101, 108, 110]), ([101, 108, 110, 115], [101, 108, 110, 115]), ([101, 108, 115, 116], [101, 108]), ([101, 108, 117, 110, 103], [101, 108, 117, 110, 103]), ([101, 108, 117, 110, 103, 101, 110], [101, 108, 117, 110, 103]), ([101, 108, 105, 103], [101, 108, 105, 103]), ([101, 108, 105, 103, 101], [101, 108, 105, 103])]),
  ([101, 108, 116], [101, 108, 116], [([101, 108, 116], [101, 108, 116]), ([101, 108, 116, 101], [101, 108, 116]), ([101, 108, 116, 101, 110], [101, 108, 116])]),
  ([105, 110], [105, 110], [([105, 110], [105, 110])]),
  ([105, 110, 110], [105, 110, 110], [([105, 110, 110, 101, 110], [105, 110, 110])]),
  ([110, 105, 115], [110, 105, 115], [([110, 105, 115], [110, 105, 115]), ([110, 105, 115, 115, 101], [110, 105, 115]), ([110, 105, 115, 115, 101, 110], [110, 105, 115]), ([110, 105, 115, 115, 101, 115], [110, 105, 115])]),
  ([98, 97, 114], [98, 97, 114], [([98, 97, 114], [98, 97, 114]), ([98, 97, 114, 101], [98, 97, 114]), ([98, 97, 114, 101, 110], [98, 97, 114]), ([98, 97, 114, 101, 114], [98, 97, 114]), ([98, 97, 114, 101, 115], [98, 97, 114]), ([98, 97, 114, 101, 109], [98, 97, 114]), ([98, 97, 114, 107, 101, 105, 116], [98, 97, 114, 107, 101, 105, 116]), ([98, 97, 114, 107, 101, 105, 116, 101, 110], [98, 97, 114, 107, 101, 105, 116])]),
  ([115, 97, 109], [115, 97, 109], [([115, 97, 109], [115, 97, 109]), ([115, 97, 109, 101], [115, 97, 109]), ([115, 97, 109, 101, 110], [115, 97, 109]), ([115, 97, 109, 101, 114], [115, 97, 109]), ([115, 97, 109, 101, 115], [115, 97, 109]), ([115, 97, 109, 101, 109], [115, 97, 109]), ([115, 97, 109, 115, 116], [115, 97, 109]), ([115, 97, 109, 115, 116, 101, 110], [115, 97, 109]), ([115, 97, 109, 107, 101, 105, 116], [115, 97, 109, 107, 101, 105, 116])]),
  ([108, 111, 115], [108, 111, 115], [([108, 111, 115], [108, 111, 115]), ([108, 111, 115, 101], [108, 111, 115]), ([108, 111, 115, 101, 110], [108, 111, 115]), ([108, 111, 115, 101, 114], [108, 111, 115]), ([108, 111, 115, 101, 115], [108, 111, 115]), ([108, 111, 115, 101, 109], [108, 111, 115]), ([108, 111, 115, 101, 115, 116], [108, 111, 115]), ([108, 111, 115, 105, 103], [108, 111, 115, 105, 103]), ([108, 111, 115, 105, 103, 107, 101, 105, 116], [108, 111, 115, 105, 103])]),
  ([115, 99, 104, 97, 102, 116], [115, 99, 104, 97, 102, 116], [([115, 99, 104, 97, 102, 116], [115, 99, 104, 97, 102, 116]), ([115, 99, 104, 97, 102, 116, 101, 110], [115, 99, 104, 97, 102, 116]), ([115, 99, 104, 97, 102, 116, 115], [115, 99, 104, 97, 102, 116]), ([115, 99, 104, 97, 102, 116, 108, 105, 99, 104], [115, 99, 104, 97, 102, 116, 108, 105, 99, 104])]),
  ([118, 111, 108, 108], [118, 111, 108, 108], [([118, 111, 108, 108], [118, 111, 108, 108]), ([118, 111, 108, 108, 101], [118, 111, 108, 108]), ([118, 111, 108, 108, 101, 110], [118, 111, 108, 108]), ([118, 111, 108, 108, 101, 114], [118, 111, 108, 108]), ([118, 111, 108, 108, 101, 115], [118, 111, 108, 108]), ([118, 111, 108, 108, 101, 109], [118, 111, 108, 108])]),
  ([104, 97, 102, 116], [104, 97, 102, 116], [([104, 97, 102, 116], [104, 97, 102, 116]), ([104, 97, 102, 116, 101], [104, 97, 102, 116]), ([104, 97, 102, 116, 101, 110], [104, 97, 102, 116]), ([104, 97, 102, 116, 101, 114], [104, 97, 102, 116]), ([104, 97, 102, 116, 105, 103], [104, 97, 102, 116, 105, 103]), ([104, 97, 102, 116, 105, 103, 107, 101, 105, 116], [104, 97, 102, 116, 105, 103])]),
  ([99, 104], [99, 104], [([99, 104, 101, 110], [99, 104, 101, 110]), ([99, 104, 101, 110, 115], [99, 104, 101, 110])]),
  ([108, 101, 105, 110], [108, 101, 105, 110], [([108, 101, 105, 110], [108, 101, 105, 110]), ([108, 101, 105, 110, 115], [108, 101, 105, 110])]),
  ([116, 117, 109], [116, 117, 109], [([116, 117, 109], [116, 117, 109]), ([116, 117, 109, 115], [116, 117, 109]), ([116, 252, 109, 101, 114], [116, 117, 109]), ([116, 252, 109, 101, 114, 110], [116, 117, 109]), ([116, 252, 109, 108, 105, 99, 104], [116, 117, 109, 108, 105, 99, 104])]),
  ([108, 105, 110, 103], [108, 105, 110, 103], [([108, 105, 110, 103], [108, 105, 110, 103]), ([108, 105, 110, 103, 101], [108, 105, 110, 103]), ([108, 105, 110, 103, 115], [108, 105, 110, 103]), ([108, 105, 110, 103, 101, 110], [108, 105, 110, 103])])]

noncomputable def lstr (l : List (List Nat)) : V := .lst (l.map .str)
noncomputable def pairs (l : List (List Nat × List Nat)) : V := .lst (l.map fun p => .tup [.str p.1, .str p.2])
noncomputable def dotsV : V := .dct (dots.map fun p => (p.1, lstr p.2))
noncomputable def famV : V := .lst (families.map fun f => .tup [.str f.1, .str f.2.1, pairs f.2.2])

noncomputable abbrev FSpec := List V → (V → Prop) → Prop
noncomputable def sp_const (v : V) : FSpec := fun Vs Q => Vs = [] ∧ Q v
theorem v_vowels (Γ : Env') : ∀ Vs Q, sp_const (pairs vowels) Vs Q → bodyFn Γ m_law_vowels 0 0 Vs Q := by
  rintro Vs Q ⟨rfl, h⟩
  refine ⟨rfl, ?_⟩
  show wpSs Γ m_law_vowels ⟨[], []⟩ _
  simp only [m_law_vowels, ss_step, s_ret, wpE, wpEs, thn_ret, List.length_cons, List.length_nil]
  refine ⟨by decide, ?_⟩
  repeat' (first | exact h | refine ⟨by decide, ?_⟩)
theorem v_closed (Γ : Env') : ∀ Vs Q, sp_const (lstr closed) Vs Q → bodyFn Γ m_law_closed 0 0 Vs Q := by
  rintro Vs Q ⟨rfl, h⟩
  refine ⟨rfl, ?_⟩
  show wpSs Γ m_law_closed ⟨[], []⟩ _
  simp only [m_law_closed, ss_step, s_ret, wpE, wpEs, thn_ret, List.length_cons, List.length_nil]
  exact ⟨by decide, h⟩
theorem v_late (Γ : Env') : ∀ Vs Q, sp_const (lstr late) Vs Q → bodyFn Γ m_law_late 0 0 Vs Q := by
  rintro Vs Q ⟨rfl, h⟩
  refine ⟨rfl, ?_⟩
  show wpSs Γ m_law_late ⟨[], []⟩ _
  simp only [m_law_late, ss_step, s_ret, wpE, wpEs, thn_ret, List.length_cons, List.length_nil]
  exact ⟨by decide, h⟩
theorem v_marks (Γ : Env') : ∀ Vs Q, sp_const (lstr marks) Vs Q → bodyFn Γ m_law_marks 0 0 Vs Q := by
  rintro Vs Q ⟨rfl, h⟩
  refine ⟨rfl, ?_⟩
  show wpSs Γ m_law_marks ⟨[], []⟩ _
  simp only [m_law_marks, ss_step, s_ret, wpE, wpEs, thn_ret, List.length_cons, List.length_nil]
  exact ⟨by decide, h⟩

noncomputable def lawAt (s : List Int) (i : Nat) : Int := if i < s.length then s.getD i 0 + 37 * (i : Int) else 37 * (i : Int)
noncomputable def sp_at : FSpec := fun Vs Q => ∃ (s : List Int) (i : Nat), Vs = [.lst (s.map .int), .int i] ∧ s.length ≤ 1000 ∧ i ≤ 1000 ∧ Q (.int (lawAt s i))
theorem v_at (Γ : Env') : ∀ Vs Q, sp_at Vs Q → bodyFn Γ m_law_at 2 0 Vs Q := by
  rintro Vs Q ⟨s, i, rfl, hs, hi, h⟩
  refine ⟨rfl, ?_⟩
  show wpSs Γ m_law_at ⟨[some (.lst (s.map .int)), some (.int i)], []⟩ _
  simp only [m_law_at, ss_step, s_iff, s_ret, wpT, wpE, gl0, gls, lenOf, cm, List.length_map, decide_eq_true_eq]
  refine ⟨by omega, ?_⟩
  unfold lawAt at h
  split
  · rename_i q
    rw [if_pos (by omega)] at h
    simp only [ss_step, s_ret, wpE, gl0, gls, item, op2, thn_ret]
    refine ⟨.int (s.getD i 0), ?_, by omega, by omega, ⟨by omega, by omega, by omega, by omega⟩, h⟩
    rw [Int.toNat_natCast, List.getElem?_map, List.getD_eq_getElem?_getD, List.getElem?_eq_getElem (by omega)]
    rfl
  · rename_i q
    rw [if_neg (by omega)] at h
    simp only [ss_nil, thn_next, ss_step, s_ret, wpE, gl0, gls, op2, thn_ret]
    exact ⟨⟨by omega, by omega, by omega, by omega⟩, h⟩

noncomputable def snd20 (n : Int) : Nat := sounds.getD (n.fmod 20).toNat 0
noncomputable def digits : Nat → Int → List Nat
  | 0, _ => []
  | k + 1, n => snd20 n :: digits k (n.fdiv 20)
noncomputable def lawSome (n : Int) (most : Nat) : List Nat := snd20 n :: digits ((n.fdiv 20).fmod most).toNat ((n.fdiv 20).fdiv most)

theorem fmod20 (n : Int) : 0 ≤ n.fmod 20 ∧ n.fmod 20 < 20 := ⟨Int.fmod_nonneg_of_pos _ (by decide), Int.fmod_lt_of_pos _ (by decide)⟩
theorem snd_at (n : Int) : sounds[(n.fmod 20).toNat]? = some (snd20 n) := by
  have h := fmod20 n
  have h1 : (n.fmod 20).toNat < sounds.length := by have : sounds.length = 20 := rfl; omega
  unfold snd20
  rw [List.getD_eq_getElem?_getD, List.getElem?_eq_getElem h1]
  rfl

noncomputable def sp_some : FSpec := fun Vs Q => ∃ (n : Int) (most : Nat), Vs = [.int n, .int most] ∧ 0 < most ∧ most ≤ 100 ∧ Q (.str (lawSome n most))
theorem v_some (Γ : Env') (hg : Γ.glob 0 = .str sounds) : ∀ Vs Q, sp_some Vs Q → bodyFn Γ m_law_some 2 3 Vs Q := by
  rintro Vs Q ⟨n, most, rfl, h0, hm, h⟩
  refine ⟨rfl, ?_⟩
  show wpSs Γ m_law_some ⟨[some (.int n), some (.int most), none, none, none], []⟩ _
  have hf := fmod20 n
  have hfm : 0 ≤ (n.fdiv 20).fmod most ∧ (n.fdiv 20).fmod most < most := ⟨Int.fmod_nonneg_of_pos _ (by omega), Int.fmod_lt_of_pos _ (by omega)⟩
  simp only [m_law_some, ss_step, s_asg, wpE, gl0, gls, op2, item, hg, pt, List.set_cons_zero, List.set_cons_succ, thn_next]
  refine ⟨by decide, ?_⟩
  rw [if_pos hf.1]
  refine ⟨_, snd_at n, by omega, ⟨by decide, by decide⟩, by omega, ⟨by omega, by omega⟩, ?_⟩
  -- the loop
  have key : ∀ (k : Nat) (m : Int) (acc : List Nat) (vs : List V) (i : Option V), vs.length = k → acc.length + k ≤ 1000 → acc ++ digits k m = lawSome n most →
      loop 4 (wpSs Γ (.cons (.asg 2 (.bin .add (.var 2) (.idx (.glob 0) (.bin .mod (.var 0) (.int 20))))) (.cons (.asg 0 (.bin .fdiv (.var 0) (.int 20))) .nil))) vs
        ⟨[some (.int m), some (.int most), some (.str acc), some (.int ((n.fdiv 20).fmod most)), i], []⟩ (thn Γ (.cons (.ret (.var 2)) .nil) fun fl _ => match fl with | .ret W => Q W | .next => Q .none | _ => False) := by
    intro k
    induction k with
    | zero =>
      intro m acc vs i hv hl ha
      have : vs = [] := List.eq_nil_of_length_eq_zero hv
      subst this
      simp only [loop, thn_next, ss_step, s_ret, wpE, gl0, gls, thn_ret]
      have : acc = lawSome n most := by simpa [digits] using ha
      rw [this]; exact h
    | succ k ih =>
      intro m acc vs i hv hl ha
      cases vs with
      | nil => simp at hv
      | cons v vs =>
        have hfm' := fmod20 m
        simp only [loop, pt, List.set_cons_zero, List.set_cons_succ, ss_step, s_asg, wpE, gl0, gls, op2, item, hg, thn_next]
        refine ⟨by decide, ?_⟩
        rw [if_pos hfm'.1]
        refine ⟨_, snd_at m, by omega, ⟨by simp; omega, ⟨by decide, by decide⟩, ?_⟩⟩
        simp only [ss_nil]
        refine ih _ _ vs _ (by simpa using hv) (by simp; omega) ?_
        rw [← ha]
        simp [digits]
  simp only [wpS, wpEs, wpE, gl0, gls]
  refine ⟨[(n.fdiv 20).fmod most], _, rfl, rfl, fun x hx => ?_, ?_⟩
  · rcases List.mem_cons.mp hx with rfl | hx
    · omega
    · cases hx
  refine key ((n.fdiv 20).fmod most).toNat ((n.fdiv 20).fdiv most) [snd20 n] _ none ?_ (by simp; omega) rfl
  rw [List.length_map, List.length_map, List.length_range]
end Mine
namespace Mine
open PySem PySem.W PySem.Calls PyProof.Rows
set_option autoImplicit false
set_option maxRecDepth 100000

noncomputable def dotOf (l : List Nat) (z : Int) : List Nat := match dots.find? (fun p => p.1 == l) with
  | some p => p.2.getD (z.fmod 3).toNat []
  | none => l

noncomputable abbrev Fam := List Nat × List Nat × List (List Nat × List Nat)
noncomputable def famAt (i : Nat) : Fam := families.getD i ([], [], [])
noncomputable def formAt (F : Fam) (y : Int) : List Nat × List Nat := F.2.2.getD (y.fmod F.2.2.length).toNat ([], [])

noncomputable def fallsOf (fam : Nat) (root stem : List Nat) : Bool :=
  let c := stem.getD (stem.length - 1) 0
  if fam = 0 then [98, 100, 102, 103, 104, 107, 108, 109, 110, 114, 116].contains c
  else if fam = 1 then [98, 100, 102, 103, 104, 107, 108, 109, 110, 116].contains c && decide (4 ≤ stem.length)
  else if fam = 2 then [100, 102, 103, 107, 108, 109, 110, 114, 115, 116, 122].contains c && !(endsW root [116, 105, 99, 107] || endsW root [112, 108, 97, 110] || endsW root [116, 114])
  else false

/-- the told pair, once root and stem are there -/
noncomputable def tell (root stem : List Nat) (depth : Nat) (x y : Int) : List Nat × List Nat :=
  let fam := (x.fmod 35).toNat
  if fam = 34 then (root ++ late.getD (y.fmod 14).toNat [] ++ marks.getD ((y.fdiv 14).fmod 3).toNat [], stem ++ late.getD (y.fmod 14).toNat [])
  else
    let F := famAt fam
    let f := formAt F y
    if depth = 0 then (root ++ f.1, stem ++ f.2)
    else if f.1 = [116, 101, 109] ∧ endsW stem [115, 121, 115] = true then (root ++ f.1, stem ++ f.1)
    else if fallsOf fam root stem = true then (root ++ f.1, stem)
    else if depth = 1 then (root ++ f.1, stem ++ F.2.1)
    else (root ++ f.1, stem ++ F.1)

noncomputable def rootOf (front : List Nat) (vw : List Nat × List Nat) (close : List Nat) (depth : Nat) (z : Int) : List Nat := front ++ (if depth = 0 then [] else dotOf vw.1 z) ++ close
noncomputable def stemOf (told : List Nat) (vw : List Nat × List Nat) (close : List Nat) (depth : Nat) : List Nat := told ++ (if depth = 0 then [] else vw.2) ++ replOne close 223 [115, 115]

noncomputable def lawWord (front told : List Nat) (vw : List Nat × List Nat) (close : List Nat) (depth : Nat) (x y z : Int) : List Nat × List Nat :=
  tell (rootOf front vw close depth z) (stemOf told vw close depth) depth x y

noncomputable def sp_word : FSpec := fun Vs Q => ∃ (front told v1 v2 close : List Nat) (depth : Nat) (x y z : Int), Vs = [.str front, .str told, .tup [.str v1, .str v2], .str close, .int depth, .int x, .int y, .int z] ∧
  front.length ≤ 200 ∧ told.length ≤ 200 ∧ v1.length ≤ 10 ∧ v2.length ≤ 10 ∧ close.length ≤ 20 ∧ 0 < close.length ∧ depth ≤ 2 ∧
  Q (.tup [.str (lawWord front told (v1, v2) close depth x y z).1, .str (lawWord front told (v1, v2) close depth x y z).2])

section
variable {Γ : Env'} {σ : St} {Q : Fl → St → Prop}
theorem s_ast (ks : List Nat) (e : E) : wpS Γ (.ast ks e) σ Q = wpE Γ e σ fun v σ => match v with
  | .tup vs => ∃ σ', putAll ks vs σ = some σ' ∧ Q .next σ'
  | _ => False := rfl
end

theorem dots_find (l : List Nat) : (dots.map fun p => (p.1, lstr p.2)).find? (fun p => p.1 == l) = (dots.find? fun p => p.1 == l).map fun p => (p.1, lstr p.2) := by
  rw [List.find?_map]; rfl
theorem dots_three : ∀ p ∈ dots, p.2.length = 3 ∧ ∀ s ∈ p.2, s.length ≤ 3 := by decide
theorem fam_ok : ∀ i, i < 34 → (famAt i).1.length ≤ 10 ∧ (famAt i).2.1.length ≤ 10 ∧ 0 < (famAt i).2.2.length ∧ (famAt i).2.2.length ≤ 100 ∧ ∀ f ∈ (famAt i).2.2, f.1.length ≤ 20 ∧ f.2.length ≤ 20 := by
  have : (List.range 34).all (fun i => decide ((famAt i).1.length ≤ 10) && decide ((famAt i).2.1.length ≤ 10) && decide (0 < (famAt i).2.2.length) && decide ((famAt i).2.2.length ≤ 100) && (famAt i).2.2.all fun f => decide (f.1.length ≤ 20) && decide (f.2.length ≤ 20)) = true := by decide +kernel
  intro i hi
  have h := List.all_eq_true.mp this i (List.mem_range.mpr hi)
  simp only [Bool.and_eq_true, decide_eq_true_eq, List.all_eq_true] at h
  exact ⟨h.1.1.1.1, h.1.1.1.2, h.1.1.2, h.1.2, h.2⟩
theorem fam_get {i : Nat} (h : i < 34) : families[i]? = some (famAt i) := by
  have : families.length = 34 := by decide +kernel
  unfold famAt
  rw [List.getD_eq_getElem?_getD, List.getElem?_eq_getElem (by omega)]
  rfl
theorem late_get {i : Nat} (h : i < 14) : late[i]? = some (late.getD i []) := by
  have : late.length = 14 := by decide +kernel
  rw [List.getD_eq_getElem?_getD, List.getElem?_eq_getElem (by omega)]
  rfl
theorem late_len : ∀ i, (late.getD i []).length ≤ 10 := by
  have : ∀ s ∈ late, s.length ≤ 10 := by decide
  intro i
  rw [List.getD_eq_getElem?_getD]
  cases q : late[i]? with
  | none => simp
  | some s => exact this s (List.mem_of_getElem? q)
theorem marks_get {i : Nat} (h : i < 3) : marks[i]? = some (marks.getD i []) := by
  have : marks.length = 3 := by decide +kernel
  rw [List.getD_eq_getElem?_getD, List.getElem?_eq_getElem (by omega)]
  rfl
theorem marks_len : ∀ i, (marks.getD i []).length ≤ 10 := by
  have : ∀ s ∈ marks, s.length ≤ 10 := by decide
  intro i
  rw [List.getD_eq_getElem?_getD]
  cases q : marks[i]? with
  | none => simp
  | some s => exact this s (List.mem_of_getElem? q)
theorem form_get (F : Fam) (y : Int) (h : 0 < F.2.2.length) : F.2.2[(y.fmod F.2.2.length).toNat]? = some (formAt F y) ∧ formAt F y ∈ F.2.2 := by
  have h0 : 0 ≤ y.fmod F.2.2.length := Int.fmod_nonneg_of_pos _ (by omega)
  have h1 : y.fmod F.2.2.length < F.2.2.length := Int.fmod_lt_of_pos _ (by omega)
  have h2 : (y.fmod F.2.2.length).toNat < F.2.2.length := by omega
  have e : F.2.2[(y.fmod F.2.2.length).toNat]? = some (formAt F y) := by
    unfold formAt
    rw [List.getD_eq_getElem?_getD, List.getElem?_eq_getElem h2]
    rfl
  exact ⟨e, List.mem_of_getElem? e⟩

theorem dotOf_len (l : List Nat) (z : Int) : (dotOf l z).length ≤ max l.length 3 := by
  unfold dotOf
  split
  · rename_i p hp
    have hm := List.mem_of_find?_eq_some hp
    obtain ⟨h3, hs⟩ := dots_three p hm
    have h0 : 0 ≤ z.fmod 3 := Int.fmod_nonneg_of_pos _ (by decide)
    have h1 : z.fmod 3 < 3 := Int.fmod_lt_of_pos _ (by decide)
    have h2 : (z.fmod 3).toNat < p.2.length := by omega
    rw [List.getD_eq_getElem?_getD, List.getElem?_eq_getElem h2]
    have := hs _ (List.getElem_mem h2)
    show (p.2[(z.fmod 3).toNat]).length ≤ _
    omega
  · omega
theorem repl_len (t : List Nat) : (replOne t 223 [115, 115]).length ≤ 2 * t.length := by
  induction t with
  | nil => simp [replOne]
  | cons a t ih =>
    unfold replOne at ih ⊢
    rw [List.flatMap_cons, List.length_append, List.length_cons]
    split <;> simp only [List.length_cons, List.length_nil] <;> omega

/-- the beginning of the word helper: root and stem -/
theorem word_head {Γ : Env'} (hg1 : Γ.glob 1 = dotsV) {front told v1 v2 close : List Nat} {depth : Nat} {x y z : Int} {rest : Ss} {Q : Fl → St → Prop}
    (h1 : front.length ≤ 200) (h2 : told.length ≤ 200) (h3 : v1.length ≤ 10) (h4 : v2.length ≤ 10) (h5 : close.length ≤ 20)
    (hQ : ∀ a12 a13, wpSs Γ rest ⟨[some (.str front), some (.str told), some (.tup [.str v1, .str v2]), some (.str close), some (.int depth), some (.int x), some (.int y), some (.int z), some (.str (rootOf front (v1, v2) close depth z)), some (.str (stemOf told (v1, v2) close depth)), none, none, a12, a13, none, none, none, none, none], []⟩ Q) :
    wpSs Γ (.cons (.ast [12, 13] (.var 2))
      (.cons (.iff (.cmp .inn (.var 12) (.glob 1)) (.cons (.asg 12 (.idx (.idx (.glob 1) (.var 12)) (.bin .mod (.var 7) (.int 3))))
        .nil) .nil)
      (.cons (.iff (.cmp .eq (.var 4) (.int 0)) (.cons (.asg 12 (.str []))
        (.cons (.asg 13 (.str []))
        .nil)) .nil)
      (.cons (.asg 8 (.bin .add (.bin .add (.var 0) (.var 12)) (.var 3)))
      (.cons (.asg 9 (.bin .add (.bin .add (.var 1) (.var 13)) (.repl (.var 3) [223] [115, 115])))
      rest))))) ⟨[some (.str front), some (.str told), some (.tup [.str v1, .str v2]), some (.str close), some (.int depth), some (.int x), some (.int y), some (.int z), none, none, none, none, none, none, none, none, none, none, none], []⟩ Q := by
  rw [ss_step, s_ast]
  simp only [wpE, gl0, gls]
  refine ⟨_, rfl, ?_⟩
  rw [thn_next]
  have hz0 : 0 ≤ z.fmod 3 := Int.fmod_nonneg_of_pos _ (by decide)
  have hz1 : z.fmod 3 < 3 := Int.fmod_lt_of_pos _ (by decide)
  have hdl := dotOf_len v1 z
  have hrl := repl_len close
  -- behind the choice of the vowel's spelling
  have tail : ∀ (l : List Nat), l = dotOf v1 z → wpSs Γ (.cons (.iff (.cmp .eq (.var 4) (.int 0)) (.cons (.asg 12 (.str []))
        (.cons (.asg 13 (.str []))
        .nil)) .nil)
      (.cons (.asg 8 (.bin .add (.bin .add (.var 0) (.var 12)) (.var 3)))
      (.cons (.asg 9 (.bin .add (.bin .add (.var 1) (.var 13)) (.repl (.var 3) [223] [115, 115])))
      rest))) ⟨[some (.str front), some (.str told), some (.tup [.str v1, .str v2]), some (.str close), some (.int depth), some (.int x), some (.int y), some (.int z), none, none, none, none, some (.str l), some (.str v2), none, none, none, none, none], []⟩ Q := by
    rintro l rfl
    simp only [ss_step, s_iff, wpT, wpE, gl0, gls, cm]
    by_cases hd : depth = 0
    · subst hd
      simp only [Int.natCast_zero, beq_self_eq_true, if_true, ss_step, s_asg, wpE, gl0, gls, op2, pt, List.set_cons_zero, List.set_cons_succ, thn_next, ss_nil]
      refine ⟨by simp; omega, by simp; omega, by simp; omega, ⟨by omega, by simp, by simp⟩, by simp; omega, ?_⟩
      have := hQ (some (.str [])) (some (.str []))
      unfold rootOf stemOf at this
      simpa using this
    · have hd' : ((depth : Int) == 0) = false := by simp; omega
      simp only [hd', Bool.false_eq_true, if_false, ss_nil, ss_step, s_asg, wpE, gl0, gls, op2, pt, List.set_cons_zero, List.set_cons_succ, thn_next]
      refine ⟨by omega, by rw [List.length_append]; omega, by omega, ⟨by omega, by simp, by simp⟩, by rw [List.length_append]; omega, ?_⟩
      have := hQ (some (.str (dotOf v1 z))) (some (.str v2))
      unfold rootOf stemOf at this
      rw [if_neg hd, if_neg hd] at this
      exact this
  rw [ss_step, s_iff]
  simp only [wpT, wpE, pt, List.set_cons_zero, List.set_cons_succ, gl0, gls, hg1, dotsV, cm, dots_find]
  cases q : dots.find? (fun p => p.1 == v1) with
  | none =>
    have hl : v1 = dotOf v1 z := by unfold dotOf; rw [q]
    simp only [Option.map_none, Option.isSome_none, Bool.false_eq_true, if_false, ss_nil, thn_next]
    exact tail v1 hl
  | some p =>
    have hl : p.2.getD (z.fmod 3).toNat [] = dotOf v1 z := by unfold dotOf; rw [q]
    have h3' := (dots_three p (List.mem_of_find?_eq_some q)).1
    simp only [Option.map_some, Option.isSome_some, if_true, ss_nil, thn_next, ss_step, s_asg, wpE, gl0, gls, hg1, dotsV, item, dots_find, q, op2, pt, List.set_cons_zero, List.set_cons_succ]
    refine ⟨(p.1, lstr p.2), rfl, by decide, .str (p.2.getD (z.fmod 3).toNat []), ?_, hz0, by omega, ?_⟩
    · rw [List.getElem?_map, List.getD_eq_getElem?_getD, List.getElem?_eq_getElem (by omega)]
      rfl
    · exact tail _ hl
end Mine
namespace Mine
open PySem PySem.W PySem.Calls PyProof.Rows
set_option autoImplicit false
set_option maxRecDepth 100000

noncomputable def finT : Ss := (.cons (.iff (.e (.var 11)) (.cons (.ret (.tup (.cons (.bin .add (.var 8) (.var 14)) (.cons (.var 9) .nil))))
    .nil) .nil)
  (.cons (.iff (.cmp .eq (.var 4) (.int 1)) (.cons (.ret (.tup (.cons (.bin .add (.var 8) (.var 14)) (.cons (.bin .add (.var 9) (.var 16)) .nil))))
    .nil) .nil)
  (.cons (.ret (.tup (.cons (.bin .add (.var 8) (.var 14)) (.cons (.bin .add (.var 9) (.var 15)) .nil))))
  .nil)))
noncomputable def tst2 : Ss := (.cons (.iff (.cmp .eq (.var 10) (.int 2)) (.cons (.asg 11 (.bop true (.cons (.cmp .inn (.idx (.var 9) (.neg 1)) (.str [100, 102, 103, 107, 108, 109, 110, 114, 115, 116, 122])) (.cons (.not (.bop false (.cons (.ends (.var 8) (.str [116, 105, 99, 107])) (.cons (.ends (.var 8) (.str [112, 108, 97, 110])) (.cons (.ends (.var 8) (.str [116, 114])) .nil))))) .nil))))
    .nil) .nil) finT)
noncomputable def tst1 : Ss := (.cons (.iff (.cmp .eq (.var 10) (.int 1)) (.cons (.asg 11 (.bop true (.cons (.cmp .inn (.idx (.var 9) (.neg 1)) (.str [98, 100, 102, 103, 104, 107, 108, 109, 110, 116])) (.cons (.cmp .ge (.len (.var 9)) (.int 4)) .nil))))
    .nil) .nil) tst2)
noncomputable def wordTail : Ss := (.cons (.asg 11 (.bool false))
  (.cons (.iff (.cmp .eq (.var 10) (.int 0)) (.cons (.asg 11 (.cmp .inn (.idx (.var 9) (.neg 1)) (.str [98, 100, 102, 103, 104, 107, 108, 109, 110, 114, 116])))
    .nil) .nil) tst1))

section
variable {Γ : Env'} {σ : St}
/-- the last sign of a text -/
theorem wp_last {stem : List Nat} (h : 0 < stem.length) (hl : stem.length ≤ 10000) {Q : V → Prop} (q : Q (.str [stem.getD (stem.length - 1) 0])) : item (.str stem) (.int (-1)) Q := by
  simp only [item]
  rw [if_neg (by decide)]
  refine ⟨stem.getD (stem.length - 1) 0, ?_, by omega, by omega, q⟩
  have e : ((-1 : Int) + (stem.length : Int)).toNat = stem.length - 1 := by omega
  rw [e, List.getD_eq_getElem?_getD, List.getElem?_eq_getElem (by omega)]
  rfl

theorem word_tail {root stem e lo dp : List Nat} {fam : Nat} {depth : Nat} {Q : Fl → St → Prop} {a0 a1 a2 a3 a5 a6 a7 a11 a12 a13 a17 a18 : Option V} (h0 : 0 < stem.length) (hs : stem.length ≤ 2000) (hr : root.length ≤ 2000) (he : e.length ≤ 100) (hlo : lo.length ≤ 100) (hdp : dp.length ≤ 100)
    (hQ : ∀ loc, Q (.ret (.tup [.str (root ++ e), .str (if fallsOf fam root stem = true then stem else if depth = 1 then stem ++ lo else stem ++ dp)])) ⟨loc, []⟩) :
    wpSs Γ wordTail ⟨[a0, a1, a2, a3, some (.int depth), a5, a6, a7, some (.str root), some (.str stem), some (.int fam), a11, a12, a13, some (.str e), some (.str dp), some (.str lo), a17, a18], []⟩ Q := by
  -- behind the question whether the ending falls
  have fin : ∀ (b : Bool), b = fallsOf fam root stem → wpSs Γ finT ⟨[a0, a1, a2, a3, some (.int depth), a5, a6, a7, some (.str root), some (.str stem), some (.int fam), some (.bool b), a12, a13, some (.str e), some (.str dp), some (.str lo), a17, a18], []⟩ Q := by
    rintro b rfl
    simp only [finT, ss_step, s_iff, s_ret, wpT, wpE, wpEs, gl0, gls, op2, cm]
    cases hf : fallsOf fam root stem with
    | true =>
      rw [hf] at hQ
      simp only [if_true] at hQ
      simp only [if_true, thn_ret]
      exact ⟨by omega, by simp, hQ _⟩
    | false =>
      rw [hf] at hQ
      simp only [Bool.false_eq_true, if_false] at hQ
      simp only [Bool.false_eq_true, if_false, ss_nil, thn_next]
      by_cases hd : depth = 1
      · subst hd
        simp only [if_true] at hQ
        simp only [ss_step, s_iff, s_ret, wpT, wpE, wpEs, gl0, gls, op2, cm, show (((1 : Nat) : Int) == 1) = true from rfl, if_true, thn_ret]
        exact ⟨by omega, by omega, by simp, hQ _⟩
      · have hd' : ((depth : Int) == 1) = false := beq_eq_false_iff_ne.mpr (by omega)
        simp only [if_neg hd] at hQ
        simp only [ss_step, s_iff, s_ret, wpT, wpE, wpEs, gl0, gls, op2, cm, hd', Bool.false_eq_true, if_false, ss_nil, thn_next, thn_ret]
        exact ⟨by omega, by omega, by simp, hQ _⟩
  -- the three tests
  have t2 : fam ≠ 0 → fam ≠ 1 → wpSs Γ tst2 ⟨[a0, a1, a2, a3, some (.int depth), a5, a6, a7, some (.str root), some (.str stem), some (.int fam), some (.bool false), a12, a13, some (.str e), some (.str dp), some (.str lo), a17, a18], []⟩ Q := by
    intro f0 f1
    rw [tst2, ss_step, s_iff]
    simp only [wpT, wpE, gl0, gls, cm]
    by_cases f2 : fam = 2
    · subst f2
      simp only [show (((2 : Nat) : Int) == 2) = true from rfl, if_true, ss_step, s_asg, wpE, wpB, gl0, gls]
      refine wp_last h0 (by omega) ?_
      have hf : fallsOf 2 root stem = ([100, 102, 103, 107, 108, 109, 110, 114, 115, 116, 122].contains (stem.getD (stem.length - 1) 0) && !(endsW root [116, 105, 99, 107] || endsW root [112, 108, 97, 110] || endsW root [116, 114])) := rfl
      simp only [cm]
      cases hcn : ([100, 102, 103, 107, 108, 109, 110, 114, 115, 116, 122] : List Nat).contains (stem.getD (stem.length - 1) 0) with
      | true =>
        rw [hcn, Bool.true_and] at hf
        simp only [if_true]
        cases e1 : endsW root [116, 105, 99, 107] with
        | true =>
          rw [e1] at hf
          simp only [show (true = false) = False from by simp, if_false, pt, List.set_cons_zero, List.set_cons_succ, ss_nil, thn_next]
          exact fin _ hf.symm
        | false =>
          rw [e1] at hf
          simp only [if_true]
          cases e2 : endsW root [112, 108, 97, 110] with
          | true =>
            rw [e2] at hf
            simp only [show (true = false) = False from by simp, if_false, pt, List.set_cons_zero, List.set_cons_succ, ss_nil, thn_next]
            exact fin _ hf.symm
          | false =>
            rw [e2] at hf
            simp only [if_true, pt, List.set_cons_zero, List.set_cons_succ, ss_nil, thn_next]
            exact fin _ hf.symm
      | false =>
        rw [hcn, Bool.false_and] at hf
        simp only [show (false = true) = False from by simp, if_false, pt, List.set_cons_zero, List.set_cons_succ, thn_next, ss_nil]
        exact fin false hf.symm
    · have n2 : ((fam : Int) == 2) = false := beq_eq_false_iff_ne.mpr (by omega)
      simp only [n2, Bool.false_eq_true, if_false, ss_nil, thn_next]
      exact fin false (by unfold fallsOf; rw [if_neg f0, if_neg f1, if_neg f2])
  have t1 : fam ≠ 0 → wpSs Γ tst1 ⟨[a0, a1, a2, a3, some (.int depth), a5, a6, a7, some (.str root), some (.str stem), some (.int fam), some (.bool false), a12, a13, some (.str e), some (.str dp), some (.str lo), a17, a18], []⟩ Q := by
    intro f0
    rw [tst1, ss_step, s_iff]
    simp only [wpT, wpE, gl0, gls, cm]
    by_cases f1 : fam = 1
    · subst f1
      have skip2 : ∀ b, wpSs Γ finT ⟨[a0, a1, a2, a3, some (.int depth), a5, a6, a7, some (.str root), some (.str stem), some (.int (1 : Nat)), some (.bool b), a12, a13, some (.str e), some (.str dp), some (.str lo), a17, a18], []⟩ Q →
          wpSs Γ tst2 ⟨[a0, a1, a2, a3, some (.int depth), a5, a6, a7, some (.str root), some (.str stem), some (.int (1 : Nat)), some (.bool b), a12, a13, some (.str e), some (.str dp), some (.str lo), a17, a18], []⟩ Q := by
        intro b h
        rw [tst2, ss_step, s_iff]
        simp only [wpT, wpE, gl0, gls, cm, show (((1 : Nat) : Int) == 2) = false from rfl, Bool.false_eq_true, if_false, ss_nil, thn_next]
        exact h
      simp only [show (((1 : Nat) : Int) == 1) = true from rfl, if_true, ss_step, s_asg, wpE, wpB, gl0, gls]
      refine wp_last h0 (by omega) ?_
      have hf : fallsOf 1 root stem = ([98, 100, 102, 103, 104, 107, 108, 109, 110, 116].contains (stem.getD (stem.length - 1) 0) && decide (4 ≤ stem.length)) := rfl
      simp only [cm]
      cases hcn : ([98, 100, 102, 103, 104, 107, 108, 109, 110, 116] : List Nat).contains (stem.getD (stem.length - 1) 0) with
      | true =>
        rw [hcn, Bool.true_and] at hf
        simp only [if_true, lenOf]
        refine ⟨by omega, ?_⟩
        simp only [pt, List.set_cons_zero, List.set_cons_succ, thn_next, ss_nil]
        exact skip2 _ (fin (decide ((4 : Int) ≤ (stem.length : Int))) (by rw [hf]; congr 1; exact propext ⟨fun q => by omega, fun q => by omega⟩))
      | false =>
        rw [hcn, Bool.false_and] at hf
        simp only [show (false = true) = False from by simp, if_false, pt, List.set_cons_zero, List.set_cons_succ, thn_next, ss_nil]
        exact skip2 _ (fin false hf.symm)
    · have n1 : ((fam : Int) == 1) = false := beq_eq_false_iff_ne.mpr (by omega)
      simp only [n1, Bool.false_eq_true, if_false, ss_nil, thn_next]
      exact t2 f0 f1
  simp only [wordTail, ss_step, s_asg, wpE, pt, List.set_cons_zero, List.set_cons_succ, thn_next]
  rw [s_iff]
  simp only [wpT, wpE, gl0, gls, cm]
  by_cases f0 : fam = 0
  · subst f0
    have skip1 : ∀ b, wpSs Γ finT ⟨[a0, a1, a2, a3, some (.int depth), a5, a6, a7, some (.str root), some (.str stem), some (.int (0 : Nat)), some (.bool b), a12, a13, some (.str e), some (.str dp), some (.str lo), a17, a18], []⟩ Q →
        wpSs Γ tst1 ⟨[a0, a1, a2, a3, some (.int depth), a5, a6, a7, some (.str root), some (.str stem), some (.int (0 : Nat)), some (.bool b), a12, a13, some (.str e), some (.str dp), some (.str lo), a17, a18], []⟩ Q := by
      intro b h
      rw [tst1, ss_step, s_iff]
      simp only [wpT, wpE, gl0, gls, cm, show (((0 : Nat) : Int) == 1) = false from rfl, Bool.false_eq_true, if_false, ss_nil, thn_next]
      rw [tst2, ss_step, s_iff]
      simp only [wpT, wpE, gl0, gls, cm, show (((0 : Nat) : Int) == 2) = false from rfl, Bool.false_eq_true, if_false, ss_nil, thn_next]
      exact h
    simp only [show (((0 : Nat) : Int) == 0) = true from rfl, if_true, ss_step, s_asg, wpE, gl0, gls]
    refine wp_last h0 (by omega) ?_
    simp only [cm, pt, List.set_cons_zero, List.set_cons_succ, thn_next, ss_nil]
    exact skip1 _ (fin ([98, 100, 102, 103, 104, 107, 108, 109, 110, 114, 116].contains (stem.getD (stem.length - 1) 0)) (by unfold fallsOf; rw [if_pos rfl]))
  · have n0 : ((fam : Int) == 0) = false := beq_eq_false_iff_ne.mpr (by omega)
    simp only [n0, Bool.false_eq_true, if_false, ss_nil, thn_next]
    exact t1 f0
end
end Mine
namespace Mine
open PySem PySem.W PySem.Calls PyProof.Rows
set_option autoImplicit false
set_option maxRecDepth 100000

noncomputable def wordMid : Ss := (.cons (.asg 10 (.bin .mod (.var 5) (.int 35)))
  (.cons (.iff (.cmp .eq (.var 10) (.int 34)) (.cons (.asg 14 (.idx (.call 2 .nil) (.bin .mod (.var 6) (.int 14))))
    (.cons (.ret (.tup (.cons (.bin .add (.bin .add (.var 8) (.var 14)) (.idx (.call 3 .nil) (.bin .mod (.bin .fdiv (.var 6) (.int 14)) (.int 3)))) (.cons (.bin .add (.var 9) (.var 14)) .nil))))
    .nil)) .nil)
  (.cons (.ast [15, 16, 17] (.idx (.glob 2) (.var 10)))
  (.cons (.ast [14, 18] (.idx (.var 17) (.bin .mod (.var 6) (.len (.var 17)))))
  (.cons (.iff (.cmp .eq (.var 4) (.int 0)) (.cons (.ret (.tup (.cons (.bin .add (.var 8) (.var 14)) (.cons (.bin .add (.var 9) (.var 18)) .nil))))
    .nil) .nil)
  (.cons (.iff (.bop true (.cons (.cmp .eq (.var 14) (.str [116, 101, 109])) (.cons (.e (.ends (.var 9) (.str [115, 121, 115]))) .nil))) (.cons (.ret (.tup (.cons (.bin .add (.var 8) (.var 14)) (.cons (.bin .add (.var 9) (.var 14)) .nil))))
    .nil) .nil)
  wordTail))))))

theorem word_mid {Γ : Env'} (hg2 : Γ.glob 2 = famV) (hf2 : Γ.func 2 = sp_const (lstr late)) (hf3 : Γ.func 3 = sp_const (lstr marks)) {root stem : List Nat} {depth : Nat} {x y : Int} {Q : Fl → St → Prop} {a0 a1 a2 a3 a7 a12 a13 : Option V}
    (h0 : 0 < stem.length) (hs : stem.length ≤ 1000) (hr : root.length ≤ 1000)
    (hQ : ∀ loc, Q (.ret (.tup [.str (tell root stem depth x y).1, .str (tell root stem depth x y).2])) ⟨loc, []⟩) :
    wpSs Γ wordMid ⟨[a0, a1, a2, a3, some (.int depth), some (.int x), some (.int y), a7, some (.str root), some (.str stem), none, none, a12, a13, none, none, none, none, none], []⟩ Q := by
  have hx0 : 0 ≤ x.fmod 35 := Int.fmod_nonneg_of_pos _ (by decide)
  have hx1 : x.fmod 35 < 35 := Int.fmod_lt_of_pos _ (by decide)
  have hy0 : 0 ≤ y.fmod 14 := Int.fmod_nonneg_of_pos _ (by decide)
  have hy1 : y.fmod 14 < 14 := Int.fmod_lt_of_pos _ (by decide)
  have hz0 : 0 ≤ (y.fdiv 14).fmod 3 := Int.fmod_nonneg_of_pos _ (by decide)
  have hz1 : (y.fdiv 14).fmod 3 < 3 := Int.fmod_lt_of_pos _ (by decide)
  have hll := late_len (y.fmod 14).toNat
  have hml := marks_len ((y.fdiv 14).fmod 3).toNat
  obtain ⟨fam, hfam⟩ : ∃ fam : Nat, x.fmod 35 = (fam : Int) := ⟨(x.fmod 35).toNat, by omega⟩
  have hfn : (x.fmod 35).toNat = fam := by omega
  rw [wordMid]
  rw [ss_step, s_asg]
  simp only [wpE, gl0, gls, op2, pt, List.set_cons_zero, List.set_cons_succ, thn_next]
  refine ⟨by decide, ?_⟩
  rw [ss_step, s_iff]
  simp only [wpT, wpE, gl0, gls, cm, hfam]
  by_cases h34 : fam = 34
  · subst h34
    have ht : tell root stem depth x y = (root ++ late.getD (y.fmod 14).toNat [] ++ marks.getD ((y.fdiv 14).fmod 3).toNat [], stem ++ late.getD (y.fmod 14).toNat []) := by
      unfold tell; rw [hfn]; rfl
    rw [ht] at hQ
    simp only [show (((34 : Nat) : Int) == 34) = true from rfl, if_true, ss_step, s_asg, wpE, wpEs, hf2, gl0, gls]
    refine ⟨rfl, ?_⟩
    simp only [op2, item, lstr]
    refine ⟨by decide, .str (late.getD (y.fmod 14).toNat []), by rw [List.getElem?_map, late_get (by omega)]; rfl, by omega, by omega, ?_⟩
    simp only [pt, List.set_cons_zero, List.set_cons_succ, thn_next, ss_step, s_ret, wpE, wpEs, gl0, gls, op2, hf3]
    refine ⟨by omega, rfl, ?_⟩
    simp only [item, lstr]
    refine ⟨⟨by decide, by decide⟩, by decide, .str (marks.getD ((y.fdiv 14).fmod 3).toNat []), by rw [List.getElem?_map, marks_get (by omega)]; rfl, by omega, by omega, ?_⟩
    refine ⟨by rw [List.length_append]; omega, by omega, by simp, ?_⟩
    simp only [thn_ret]
    exact hQ _
  have n34 : ((fam : Int) == 34) = false := beq_eq_false_iff_ne.mpr (by omega)
  have hlt : fam < 34 := by omega
  obtain ⟨f1, f2, f3, f4, f5⟩ := fam_ok fam hlt
  obtain ⟨g1, g2⟩ := form_get (famAt fam) y f3
  obtain ⟨e1, e2⟩ := f5 _ g2
  have hm0 : 0 ≤ y.fmod ((famAt fam).2.2.length : Int) := Int.fmod_nonneg_of_pos _ (by omega)
  have hm1 : y.fmod ((famAt fam).2.2.length : Int) < (famAt fam).2.2.length := Int.fmod_lt_of_pos _ (by omega)
  have ht : tell root stem depth x y = (if depth = 0 then (root ++ (formAt (famAt fam) y).1, stem ++ (formAt (famAt fam) y).2)
    else if (formAt (famAt fam) y).1 = [116, 101, 109] ∧ endsW stem [115, 121, 115] = true then (root ++ (formAt (famAt fam) y).1, stem ++ (formAt (famAt fam) y).1)
    else if fallsOf fam root stem = true then (root ++ (formAt (famAt fam) y).1, stem)
    else if depth = 1 then (root ++ (formAt (famAt fam) y).1, stem ++ (famAt fam).2.1)
    else (root ++ (formAt (famAt fam) y).1, stem ++ (famAt fam).1)) := by
    unfold tell; rw [hfn]; simp only [if_neg h34]
  simp only [n34, Bool.false_eq_true, if_false, ss_nil, thn_next]
  generalize hF : famAt fam = F at *
  obtain ⟨dp, lo, fs⟩ := F
  dsimp only at f1 f2 f3 f4 f5 g1 g2 hm0 hm1
  generalize hf : formAt (dp, lo, fs) y = f at *
  obtain ⟨en, no⟩ := f
  dsimp only at e1 e2 ht
  rw [ss_step, s_ast]
  simp only [wpE, gl0, gls, hg2, famV, item]
  refine ⟨.tup [.str dp, .str lo, pairs fs], ?_, by omega, by omega, ?_⟩
  · rw [Int.toNat_natCast, List.getElem?_map, fam_get hlt, hF]; rfl
  refine ⟨_, rfl, ?_⟩
  rw [thn_next, ss_step, s_ast]
  simp only [wpE, pt, List.set_cons_zero, List.set_cons_succ, gl0, gls, pairs, lenOf, List.length_map, op2, item]
  refine ⟨by omega, by omega, .tup [.str en, .str no], ?_, by omega, by omega, ?_⟩
  · rw [List.getElem?_map, g1]; rfl
  refine ⟨_, rfl, ?_⟩
  rw [thn_next, ss_step, s_iff]
  simp only [wpT, wpE, pt, List.set_cons_zero, List.set_cons_succ, gl0, gls, cm]
  by_cases hd : depth = 0
  · subst hd
    rw [if_pos rfl] at ht
    rw [ht] at hQ
    simp only [Int.natCast_zero, beq_self_eq_true, if_true, ss_step, s_ret, wpE, wpEs, gl0, gls, op2, thn_ret]
    exact ⟨by omega, by omega, by simp, hQ _⟩
  have nd : ((depth : Int) == 0) = false := beq_eq_false_iff_ne.mpr (by omega)
  rw [if_neg hd] at ht
  simp only [nd, Bool.false_eq_true, if_false, ss_nil, thn_next]
  rw [ss_step, s_iff]
  simp only [wpT, wpTs, wpE, gl0, gls, cm]
  have key : ∀ {a17 a18 : Option V}, ¬ (en = [116, 101, 109] ∧ endsW stem [115, 121, 115] = true) → wpSs Γ wordTail ⟨[a0, a1, a2, a3, some (.int depth), some (.int x), some (.int y), a7, some (.str root), some (.str stem), some (.int fam), none, a12, a13, some (.str en), some (.str dp), some (.str lo), a17, a18], []⟩ Q := by
    intro a17 a18 hn
    rw [if_neg hn] at ht
    refine word_tail h0 (by omega) (by omega) (by omega) (by omega) (by omega) fun loc => ?_
    have := hQ loc
    rw [ht] at this
    by_cases hfl : fallsOf fam root stem = true
    · rw [if_pos hfl] at this ⊢; exact this
    · rw [if_neg hfl] at this ⊢
      by_cases hd1 : depth = 1
      · rw [if_pos hd1] at this ⊢; exact this
      · rw [if_neg hd1] at this ⊢; exact this
  by_cases hte : en = [116, 101, 109]
  · have b1 : (en == [116, 101, 109]) = true := by rw [hte]; rfl
    simp only [b1, if_true]
    cases hsy : endsW stem [115, 121, 115] with
    | true =>
      rw [if_pos ⟨hte, hsy⟩] at ht
      rw [ht] at hQ
      simp only [if_true, ss_step, s_ret, wpE, wpEs, gl0, gls, op2, thn_ret]
      exact ⟨by omega, by omega, by simp, hQ _⟩
    | false =>
      simp only [show (false = true) = False from by simp, if_false, ss_nil, thn_next]
      exact key fun q => by rw [hsy] at q; cases q.2
  · have b1 : (en == [116, 101, 109]) = false := beq_eq_false_iff_ne.mpr hte
    simp only [b1, show (false = true) = False from by simp, if_false, ss_nil, thn_next]
    exact key fun q => hte q.1

theorem v_word (Γ : Env') (hg1 : Γ.glob 1 = dotsV) (hg2 : Γ.glob 2 = famV) (hf2 : Γ.func 2 = sp_const (lstr late)) (hf3 : Γ.func 3 = sp_const (lstr marks)) : ∀ Vs Q, sp_word Vs Q → bodyFn Γ m_law_word 8 11 Vs Q := by
  rintro Vs Q ⟨front, told, v1, v2, close, depth, x, y, z, rfl, h1, h2, h3, h4, h5, h6, h7, h⟩
  refine ⟨rfl, ?_⟩
  have hdl := dotOf_len v1 z
  have hrl := repl_len close
  have hpos : 0 < (replOne close 223 [115, 115]).length := by
    cases close with
    | nil => simp at h6
    | cons a t =>
      unfold replOne
      rw [List.flatMap_cons, List.length_append]
      split <;> simp <;> omega
  have e : m_law_word = (.cons (.ast [12, 13] (.var 2))
      (.cons (.iff (.cmp .inn (.var 12) (.glob 1)) (.cons (.asg 12 (.idx (.idx (.glob 1) (.var 12)) (.bin .mod (.var 7) (.int 3))))
        .nil) .nil)
      (.cons (.iff (.cmp .eq (.var 4) (.int 0)) (.cons (.asg 12 (.str []))
        (.cons (.asg 13 (.str []))
        .nil)) .nil)
      (.cons (.asg 8 (.bin .add (.bin .add (.var 0) (.var 12)) (.var 3)))
      (.cons (.asg 9 (.bin .add (.bin .add (.var 1) (.var 13)) (.repl (.var 3) [223] [115, 115])))
      wordMid))))) := rfl
  rw [e]
  refine word_head hg1 (by omega) (by omega) (by omega) (by omega) (by omega) fun a12 a13 => ?_
  refine word_mid hg2 hf2 hf3 ?_ ?_ ?_ fun loc => ?_
  · unfold stemOf; rw [List.length_append]; omega
  · unfold stemOf
    rw [List.length_append, List.length_append]
    split <;> simp <;> omega
  · unfold rootOf
    rw [List.length_append, List.length_append]
    split <;> simp <;> omega
  · exact h
end Mine
namespace Mine
open PySem PySem.W PySem.Calls PyProof.Rows
set_option autoImplicit false
set_option maxRecDepth 100000

noncomputable def vowAt (s : List Int) (i : Nat) : List Nat × List Nat := vowels.getD ((lawAt s i).fmod 21).toNat ([], [])
noncomputable def ss2 (t : List Nat) : List Nat := replOne t 223 [115, 115]

structure LS where
  front : List Nat
  told : List Nat
  bare : List Nat
  vw : List Nat × List Nat
  close : List Nat

noncomputable def lsNext (s : List Int) (i : Nat) (L : LS) : LS :=
  ⟨L.front ++ L.vw.1 ++ L.close, L.told ++ L.vw.2 ++ ss2 L.close, L.bare ++ L.close, vowAt s (2 + 2 * i), lawSome (lawAt s (3 + 2 * i)) 3⟩
/-- k more syllables, from the i-th on -/
noncomputable def lsRun (s : List Int) : Nat → Nat → LS → LS
  | 0, _, L => L
  | k + 1, i, L => lsRun s k (i + 1) (lsNext s i L)
noncomputable def lsFirst (s : List Int) : LS := ⟨lawSome (lawAt s 0) 2, ss2 (lawSome (lawAt s 0) 2), lawSome (lawAt s 0) 2, vowAt s 2, lawSome (lawAt s 3) 3⟩
noncomputable def moreSyl (s : List Int) : Nat := ((lawAt s 1).fmod 3).toNat
noncomputable def lawLS (s : List Int) : LS := lsRun s (moreSyl s) 1 (lsFirst s)
noncomputable def closeOf (L : LS) : List Nat := L.close ++ (if closed.any (fun e => endsW (L.front ++ L.vw.1 ++ L.close) e) then [98] else [])
noncomputable def isBare (s : List Int) : Bool := (lawAt s 8).fmod 5 == 4
noncomputable def depthOf (s : List Int) : Nat := if isBare s then 0 else min (1 + moreSyl s) 2
noncomputable def frontOf (s : List Int) : List Nat := if isBare s then (lawLS s).bare else (lawLS s).front
noncomputable def toldOf (s : List Int) : List Nat := if isBare s then ss2 (lawLS s).bare else (lawLS s).told

theorem vow_get (s : List Int) (i : Nat) : vowels[((lawAt s i).fmod 21).toNat]? = some (vowAt s i) ∧ (vowAt s i).1.length ≤ 2 ∧ (vowAt s i).2.length ≤ 2 := by
  have h0 : 0 ≤ (lawAt s i).fmod 21 := Int.fmod_nonneg_of_pos _ (by decide)
  have h1 : (lawAt s i).fmod 21 < 21 := Int.fmod_lt_of_pos _ (by decide)
  have hl : vowels.length = 21 := by decide +kernel
  have h2 : ((lawAt s i).fmod 21).toNat < vowels.length := by omega
  have e : vowels[((lawAt s i).fmod 21).toNat]? = some (vowAt s i) := by
    unfold vowAt
    rw [List.getD_eq_getElem?_getD, List.getElem?_eq_getElem h2]
    rfl
  have hv : ∀ p ∈ vowels, p.1.length ≤ 2 ∧ p.2.length ≤ 2 := by decide
  exact ⟨e, hv _ (List.mem_of_getElem? e)⟩
theorem digits_len : ∀ (k : Nat) (n : Int), (digits k n).length = k
  | 0, _ => rfl
  | k + 1, n => by rw [digits, List.length_cons, digits_len]
theorem some_len (n : Int) (most : Nat) (h : 0 < most) : 0 < (lawSome n most).length ∧ (lawSome n most).length ≤ most := by
  unfold lawSome
  rw [List.length_cons, digits_len]
  have h0 : 0 ≤ (n.fdiv 20).fmod most := Int.fmod_nonneg_of_pos _ (by omega)
  have h1 : (n.fdiv 20).fmod most < most := Int.fmod_lt_of_pos _ (by omega)
  omega
theorem ss2_len (t : List Nat) : (ss2 t).length ≤ 2 * t.length := repl_len t

structure LS.Ok (L : LS) (k : Nat) : Prop where
  front : L.front.length ≤ 2 + 5 * k
  told : L.told.length ≤ 4 + 8 * k
  bare : L.bare.length ≤ 2 + 3 * k
  v1 : L.vw.1.length ≤ 2
  v2 : L.vw.2.length ≤ 2
  close : L.close.length ≤ 3
  pos : 0 < L.close.length
theorem lsFirst_ok (s : List Int) : (lsFirst s).Ok 0 := by
  have h1 := some_len (lawAt s 0) 2 (by decide)
  have h2 := some_len (lawAt s 3) 3 (by decide)
  have h3 := vow_get s 2
  have h4 := ss2_len (lawSome (lawAt s 0) 2)
  exact ⟨by show (lawSome (lawAt s 0) 2).length ≤ _; omega, by show (ss2 (lawSome (lawAt s 0) 2)).length ≤ _; omega, by show (lawSome (lawAt s 0) 2).length ≤ _; omega, h3.2.1, h3.2.2, h2.2, h2.1⟩
theorem lsNext_ok {s : List Int} {L : LS} {k : Nat} (i : Nat) (h : L.Ok k) : (lsNext s i L).Ok (k + 1) := by
  obtain ⟨a, b, c, d, e, f, g⟩ := h
  have h2 := some_len (lawAt s (3 + 2 * i)) 3 (by decide)
  have h3 := vow_get s (2 + 2 * i)
  have h4 := ss2_len L.close
  refine ⟨?_, ?_, ?_, h3.2.1, h3.2.2, h2.2, h2.1⟩
  · show (L.front ++ L.vw.1 ++ L.close).length ≤ _
    rw [List.length_append, List.length_append]; omega
  · show (L.told ++ L.vw.2 ++ ss2 L.close).length ≤ _
    rw [List.length_append, List.length_append]; omega
  · show (L.bare ++ L.close).length ≤ _
    rw [List.length_append]; omega
theorem lsRun_ok {s : List Int} : ∀ (k : Nat) {i : Nat} {L : LS} {n : Nat}, L.Ok n → (lsRun s k i L).Ok (n + k)
  | 0, _, _, _, h => h
  | k + 1, i, L, n, h => by
    rw [lsRun]
    have := lsRun_ok (s := s) k (i := i + 1) (lsNext_ok (s := s) i h)
    rwa [Nat.add_assoc, Nat.add_comm 1 k] at this

noncomputable def lsV (script : V) (L : LS) (count : Int) (a7 a8 a9 a10 a11 : Option V) : List (Option V) :=
  [some script, some (.str L.front), some (.str L.told), some (.str L.bare), some (.int count), some (.tup [.str L.vw.1, .str L.vw.2]), some (.str L.close), a7, a8, a9, a10, a11, none, none, none, none]

noncomputable def sylB : Ss := (.cons (.asg 1 (.bin .add (.bin .add (.var 1) (.idx (.var 5) (.int 0))) (.var 6)))
    (.cons (.asg 2 (.bin .add (.bin .add (.var 2) (.idx (.var 5) (.int 1))) (.repl (.var 6) [223] [115, 115])))
    (.cons (.asg 3 (.bin .add (.var 3) (.var 6)))
    (.cons (.asg 5 (.idx (.call 0 .nil) (.bin .mod (.call 4 (.cons (.var 0) (.cons (.bin .add (.int 2) (.bin .mul (.int 2) (.var 7))) .nil))) (.int 21))))
    (.cons (.asg 6 (.call 5 (.cons (.call 4 (.cons (.var 0) (.cons (.bin .add (.int 3) (.bin .mul (.int 2) (.var 7))) .nil))) (.cons (.int 3) .nil))))
    .nil)))))

section
variable {Γ : Env'} (hf0 : Γ.func 0 = sp_const (pairs vowels)) (hf1 : Γ.func 1 = sp_const (lstr closed)) (hf4 : Γ.func 4 = sp_at) (hf5 : Γ.func 5 = sp_some)
include hf0 hf4 hf5

theorem syl_loop {s : List Int} (hs : s.length ≤ 1000) {count : Int} {Q : Fl → St → Prop} {a8 a9 a10 a11 : Option V} :
    ∀ (k i n : Nat) (L : LS) (a7 : Option V), L.Ok n → n + k ≤ 10 → i + k ≤ 100 → (∀ a7, Q .next ⟨lsV (.lst (s.map .int)) (lsRun s k i L) count a7 a8 a9 a10 a11, []⟩) →
      loop 7 (wpSs Γ sylB) ((List.range k).map fun (j : Nat) => V.int ((i : Int) + (j : Int))) ⟨lsV (.lst (s.map .int)) L count a7 a8 a9 a10 a11, []⟩ Q
  | 0, i, n, L, a7, hL, hn, hi, hQ => by
    simp only [List.range_zero, List.map_nil, loop]
    exact hQ a7
  | k + 1, i, n, L, a7, hL, hn, hi, hQ => by
    rw [ints_succ]
    obtain ⟨a, b, c, d, e, f, g⟩ := id hL
    have h4 := ss2_len L.close
    have hv := vow_get s (2 + 2 * i)
    have hf21a : 0 ≤ (lawAt s (2 + 2 * i)).fmod 21 := Int.fmod_nonneg_of_pos _ (by decide)
    have hf21b : (lawAt s (2 + 2 * i)).fmod 21 < 21 := Int.fmod_lt_of_pos _ (by decide)
    simp only [loop, lsV, pt, List.set_cons_zero, List.set_cons_succ]
    simp only [sylB, ss_step, s_asg, wpE, wpEs, gl0, gls, item, op2, pt, List.set_cons_zero, List.set_cons_succ, thn_next, hf0]
    refine ⟨_, rfl, by decide, by decide, by omega, by rw [List.length_append]; omega, ?_⟩
    refine ⟨_, rfl, by decide, by decide, by omega, ⟨by omega, by simp, by simp⟩, ?_⟩
    refine ⟨by rw [List.length_append]; have : (replOne L.close 223 [115, 115]).length ≤ 2 * L.close.length := repl_len _; omega, by omega, rfl, ?_⟩
    refine ⟨⟨by omega, by omega, by omega, by omega⟩, ?_⟩
    rw [hf4]
    refine ⟨s, 2 + 2 * i, by push_cast; rfl, hs, by omega, by decide, ?_⟩
    refine ⟨.tup [.str (vowAt s (2 + 2 * i)).1, .str (vowAt s (2 + 2 * i)).2], ?_, hf21a, by omega, ?_⟩
    · rw [List.getElem?_map, hv.1]; rfl
    refine ⟨⟨by omega, by omega, by omega, by omega⟩, ?_⟩
    refine ⟨s, 3 + 2 * i, by push_cast; rfl, hs, by omega, ?_⟩
    rw [hf5]
    refine ⟨lawAt s (3 + 2 * i), 3, rfl, by decide, by decide, ?_⟩
    simp only [ss_nil]
    have ih := syl_loop hs k (i + 1) (n + 1) (lsNext s i L) (some (.int i)) (lsNext_ok i hL) (by omega) (by omega) (fun a7 => hQ a7) (count := count) (Q := Q) (a8 := a8) (a9 := a9) (a10 := a10) (a11 := a11)
    push_cast at ih
    exact ih

/-- the closed endings -/
theorem closed_loop {whole : List Nat} {Q : Fl → St → Prop} {a0 a1 a2 a3 a4 a5 a6 a7 a8 a12 a13 a14 a15 : Option V} : ∀ (l : List (List Nat)) (more : Bool) (a11 : Option V),
    (∀ a11, Q .next ⟨[a0, a1, a2, a3, a4, a5, a6, a7, a8, some (.str whole), some (.str (if (more || l.any fun e => endsW whole e) then [98] else [])), a11, a12, a13, a14, a15], []⟩) →
    loop 11 (wpSs Γ (.cons (.iff (.e (.ends (.var 9) (.var 11))) (.cons (.asg 10 (.str [98])) .nil) .nil) .nil)) (l.map .str)
      ⟨[a0, a1, a2, a3, a4, a5, a6, a7, a8, some (.str whole), some (.str (if more then [98] else [])), a11, a12, a13, a14, a15], []⟩ Q
  | [], more, a11, h => by
    simp only [List.map_nil, loop]
    simpa using h a11
  | e :: l, more, a11, h => by
    simp only [List.map_cons, loop, pt, List.set_cons_zero, List.set_cons_succ, ss_step, s_iff, s_asg, wpT, wpE, gl0, gls]
    cases q : endsW whole e with
    | true =>
      simp only [if_true, ss_nil, thn_next]
      have := closed_loop l true (some (.str e)) (fun a11 => by
        have := h a11
        simpa [q] using this)
      simpa using this
    | false =>
      simp only [Bool.false_eq_true, if_false, ss_nil, thn_next]
      exact closed_loop l more (some (.str e)) (fun a11 => by
        have := h a11
        simpa [q] using this)
end
end Mine
namespace Mine
open PySem PySem.W PySem.Calls PyProof.Rows
set_option autoImplicit false
set_option maxRecDepth 100000

noncomputable def lawB : Ss := (.cons (.amin 8 (.var 4) (.int 2))
  (.cons (.asg 9 (.bin .add (.bin .add (.var 1) (.idx (.var 5) (.int 0))) (.var 6)))
  (.cons (.asg 10 (.str []))
  (.cons (.forL 11 (.call 1 .nil) (.cons (.iff (.e (.ends (.var 9) (.var 11))) (.cons (.asg 10 (.str [98]))
      .nil) .nil)
    .nil))
  (.cons (.asg 6 (.bin .add (.var 6) (.var 10)))
  (.cons (.iff (.cmp .eq (.bin .mod (.call 4 (.cons (.var 0) (.cons (.int 8) .nil))) (.int 5)) (.int 4)) (.cons (.asg 8 (.int 0))
    (.cons (.asg 1 (.var 3))
    (.cons (.asg 2 (.repl (.var 3) [223] [115, 115]))
    .nil))) .nil)
  .nil))))))

section
variable {Γ : Env'} (hf0 : Γ.func 0 = sp_const (pairs vowels)) (hf1 : Γ.func 1 = sp_const (lstr closed)) (hf4 : Γ.func 4 = sp_at) (hf5 : Γ.func 5 = sp_some)
include hf0 hf1 hf4 hf5

theorem v_lawB {s : List Int} (hs : s.length ≤ 1000) {Q : Fl → St → Prop} {a7 : Option V}
    (hQ : ∀ a3 a4 a7 a9 a10 a11, Q .next ⟨[some (.lst (s.map .int)), some (.str (frontOf s)), some (.str (toldOf s)), a3, a4, some (.tup [.str (lawLS s).vw.1, .str (lawLS s).vw.2]), some (.str (closeOf (lawLS s))), a7, some (.int (depthOf s)), a9, a10, a11, none, none, none, none], []⟩) :
    wpSs Γ lawB ⟨lsV (.lst (s.map .int)) (lawLS s) ((1 + moreSyl s : Nat) : Int) a7 none none none none, []⟩ Q := by
  have h0 : 0 ≤ (lawAt s 1).fmod 3 := Int.fmod_nonneg_of_pos _ (by decide)
  have h1 : (lawAt s 1).fmod 3 < 3 := Int.fmod_lt_of_pos _ (by decide)
  have hms : moreSyl s ≤ 2 := by unfold moreSyl; omega
  have hok : (lawLS s).Ok (0 + moreSyl s) := lsRun_ok (s := s) (moreSyl s) (lsFirst_ok s)
  obtain ⟨a, b, c, d, e, f, g⟩ := id hok
  have h4 := ss2_len (lawLS s).bare
  rw [lawB, ss_step]
  simp only [wpS, wpE, lsV, gl0, gls, pt, List.set_cons_zero, List.set_cons_succ, thn_next]
  have emin : (if (2 : Int) < ((1 + moreSyl s : Nat) : Int) then (2 : Int) else ((1 + moreSyl s : Nat) : Int)) = ((min (1 + moreSyl s) 2 : Nat) : Int) := by split <;> omega
  rw [emin]
  simp only [ss_step, s_asg, wpE, gl0, gls, item, op2, pt, List.set_cons_zero, List.set_cons_succ, thn_next]
  refine ⟨.str (lawLS s).vw.1, rfl, by decide, by decide, by omega, by rw [List.length_append]; omega, ?_⟩
  simp only [wpS, wpE, wpEs, hf1]
  refine ⟨rfl, ?_⟩
  simp only [lstr]
  refine closed_loop hf0 hf4 hf5 closed false none fun a11 => ?_
  rw [thn_next]
  simp only [ss_step, s_asg, wpE, gl0, gls, op2, pt, List.set_cons_zero, List.set_cons_succ, thn_next, Bool.false_or]
  refine ⟨by have : ((if (closed.any fun e => endsW ((lawLS s).front ++ (lawLS s).vw.1 ++ (lawLS s).close) e) = true then [98] else []) : List Nat).length ≤ 1 := by split <;> simp
             omega, ?_⟩
  rw [s_iff]
  simp only [wpT, wpE, wpEs, gl0, gls, hf4]
  refine ⟨s, 8, rfl, hs, by decide, ?_⟩
  simp only [op2, cm]
  refine ⟨by decide, ?_⟩
  have hcl : (lawLS s).close ++ (if (closed.any fun e => endsW ((lawLS s).front ++ (lawLS s).vw.1 ++ (lawLS s).close) e) = true then [98] else []) = closeOf (lawLS s) := rfl
  rw [hcl]
  cases hb : ((lawAt s 8).fmod 5 == 4) with
  | true =>
    have hbb : isBare s = true := hb
    simp only [if_true, ss_step, s_asg, wpE, gl0, gls, pt, List.set_cons_zero, List.set_cons_succ, thn_next, ss_nil]
    refine ⟨⟨by omega, by simp, by simp⟩, ?_⟩
    have := hQ (some (.str (lawLS s).bare)) (some (.int ((1 + moreSyl s : Nat) : Int))) a7 (some (.str ((lawLS s).front ++ (lawLS s).vw.1 ++ (lawLS s).close))) (some (.str (if (closed.any fun e => endsW ((lawLS s).front ++ (lawLS s).vw.1 ++ (lawLS s).close) e) = true then [98] else []))) a11
    unfold frontOf toldOf depthOf at this
    rw [hbb] at this
    exact this
  | false =>
    have hbb : isBare s = false := hb
    simp only [Bool.false_eq_true, if_false, ss_nil, thn_next]
    have := hQ (some (.str (lawLS s).bare)) (some (.int ((1 + moreSyl s : Nat) : Int))) a7 (some (.str ((lawLS s).front ++ (lawLS s).vw.1 ++ (lawLS s).close))) (some (.str (if (closed.any fun e => endsW ((lawLS s).front ++ (lawLS s).vw.1 ++ (lawLS s).close) e) = true then [98] else []))) a11
    unfold frontOf toldOf depthOf at this
    rw [hbb] at this
    exact this

theorem v_law_head {s : List Int} (hs : s.length ≤ 1000) {Q : Fl → St → Prop}
    (hQ : ∀ a3 a4 a7 a9 a10 a11, Q .next ⟨[some (.lst (s.map .int)), some (.str (frontOf s)), some (.str (toldOf s)), a3, a4, some (.tup [.str (lawLS s).vw.1, .str (lawLS s).vw.2]), some (.str (closeOf (lawLS s))), a7, some (.int (depthOf s)), a9, a10, a11, none, none, none, none], []⟩) :
    wpSs Γ m_law ⟨[some (.lst (s.map .int)), none, none, none, none, none, none, none, none, none, none, none, none, none, none, none], []⟩ Q := by
  have h0 : 0 ≤ (lawAt s 1).fmod 3 := Int.fmod_nonneg_of_pos _ (by decide)
  have h1 : (lawAt s 1).fmod 3 < 3 := Int.fmod_lt_of_pos _ (by decide)
  have g0 : 0 ≤ (lawAt s 2).fmod 21 := Int.fmod_nonneg_of_pos _ (by decide)
  have g1 : (lawAt s 2).fmod 21 < 21 := Int.fmod_lt_of_pos _ (by decide)
  have hv := vow_get s 2
  have hso := some_len (lawAt s 0) 2 (by decide)
  have hm : m_law = (.cons (.asg 1 (.call 5 (.cons (.call 4 (.cons (.var 0) (.cons (.int 0) .nil))) (.cons (.int 2) .nil))))
    (.cons (.asg 2 (.repl (.var 1) [223] [115, 115]))
    (.cons (.asg 3 (.var 1))
    (.cons (.asg 4 (.bin .add (.int 1) (.bin .mod (.call 4 (.cons (.var 0) (.cons (.int 1) .nil))) (.int 3))))
    (.cons (.asg 5 (.idx (.call 0 .nil) (.bin .mod (.call 4 (.cons (.var 0) (.cons (.int 2) .nil))) (.int 21))))
    (.cons (.asg 6 (.call 5 (.cons (.call 4 (.cons (.var 0) (.cons (.int 3) .nil))) (.cons (.int 3) .nil))))
    (.cons (.forR 7 (.cons (.int 1) (.cons (.var 4) .nil)) sylB)
    lawB))))))) := rfl
  rw [hm]
  simp only [ss_step, s_asg, wpE, wpEs, gl0, gls, hf0, hf4, hf5, pt, List.set_cons_zero, List.set_cons_succ, thn_next]
  refine ⟨s, 0, rfl, hs, by decide, lawAt s 0, 2, rfl, by decide, by decide, ⟨by omega, by simp, by simp⟩, ?_⟩
  refine ⟨s, 1, rfl, hs, by decide, ?_⟩
  simp only [op2, item, pairs, pt, List.set_cons_zero, List.set_cons_succ, gl0, gls]
  refine ⟨by decide, rfl, ?_⟩
  refine ⟨s, 2, rfl, hs, by decide, by decide, .tup [.str (vowAt s 2).1, .str (vowAt s 2).2], by rw [List.getElem?_map, hv.1]; rfl, g0, by omega, ?_⟩
  refine ⟨s, 3, rfl, hs, by decide, lawAt s 3, 3, rfl, by decide, by decide, ?_⟩
  have ec : (1 : Int) + (lawAt s 1).fmod 3 = ((1 + moreSyl s : Nat) : Int) := by unfold moreSyl; push_cast; omega
  rw [ec]
  simp only [wpS, wpEs, wpE, gl0, gls]
  refine ⟨[1, ((1 + moreSyl s : Nat) : Int)], _, rfl, rfl, ?_, ?_⟩
  · intro x hx
    have : moreSyl s ≤ 2 := by unfold moreSyl; omega
    rcases List.mem_cons.mp hx with rfl | hx
    · omega
    · rcases List.mem_cons.mp hx with rfl | hx
      · omega
      · cases hx
  have ef : (((1 + moreSyl s : Nat) : Int) - 1).toNat = moreSyl s := by omega
  rw [ef, List.map_map]
  have hms : moreSyl s ≤ 2 := by unfold moreSyl; omega
  refine syl_loop hf0 hf4 hf5 hs (moreSyl s) 1 0 (lsFirst s) none (lsFirst_ok s) (by omega) (by omega) fun a7 => ?_
  rw [thn_next]
  exact v_lawB hf0 hf1 hf4 hf5 hs hQ
end
end Mine
namespace Mine
open PySem PySem.W PySem.Calls PyProof.Rows
set_option autoImplicit false
set_option maxRecDepth 100000

/-! the suffix steps over a known beginning of the reversed text; `fin`: nothing follows -/

/-- what is known of the letters behind: nothing; that there are none; that there is one, not of a list -/
inductive Nx where
  | any
  | fin
  | out (l : List Nat)
noncomputable def memN (c : Nat) : List Nat → Bool
  | [] => false
  | a :: l => match Nat.beq a c with
    | true => true
    | false => memN c l
noncomputable def Nx.Ok : Nx → List Nat → Prop
  | .any, _ => True
  | .fin, r => r = []
  | .out l, r => ∃ c r', r = c :: r' ∧ memN c l = false
noncomputable def Nx.first (a : Nat) : Nx → Option Bool
  | .any => none
  | .fin => some false
  | .out l => match memN a l with
    | true => some false
    | false => none
noncomputable def Nx.fin? : Nx → Option Bool
  | .fin => some false
  | _ => none

noncomputable def pfxA (fin : Nx) : List Nat → List Nat → Option Bool
  | [], _ => some true
  | a :: _, [] => fin.first a
  | a :: u, b :: K => match Nat.beq a b with
    | true => pfxA fin u K
    | false => some false
noncomputable def hdA (fin : Nx) (g : List Nat) : List Nat → Option Bool
  | [] => fin.fin?
  | c :: _ => some (g.contains c)
noncomputable def lookA (fin : Nx) : Tab → List Nat → Option (Option (List Nat × Int))
  | [], _ => some none
  | e :: T, K => match lookA fin T K with
    | none => none
    | some r => match pfxA fin e.1 K with
      | none => none
      | some b => some (match r with
        | some (w, q) => if b && decide (w.length < e.1.length) then some (e.1, e.2.2) else some (w, q)
        | none => if b then some (e.1, e.2.2) else none)
/-- a choice that must be known -/
noncomputable def cndS (c : Option Bool) (a b : Option (List Nat)) : Option (List Nat) := match c with
  | some true => a
  | some false => b
  | none => none
/-- a choice that may be unknown, if both sides agree -/
noncomputable def cndL (c : Option Bool) (a b : Option (List Nat)) : Option (List Nat) := match c with
  | some true => a
  | some false => b
  | none => match a, b with
    | some x, some y => if x = y then some x else none
    | _, _ => none

structure TT where
  t1 : Int → Option Bool
  t2 : Int → Option Bool
  t4 : Int → Option Bool
  tl : Int → Option Bool

noncomputable def stepA1 (T : TT) (fin : Nx) (m : Nat) (r : List Nat) : Option (List Nat) := match lookA fin A2 r with
  | none => none
  | some none => some r
  | some (some (w, q)) =>
    cndL (T.t1 (((r.drop w.length).length : Int) - m))
      (if q = 1 then cndS (pfxA fin [116, 115, 121, 115] (r.drop w.length)) (some r) (some (r.drop w.length)) else if q = 2 then some (r.drop w.length)
      else if q = 3 then cndS (pfxA fin [115] (r.drop w.length)) (cndS (pfxA fin [115, 105, 110] ((r.drop w.length).drop 1)) (some ((r.drop w.length).drop 1)) (some (r.drop w.length))) (some (r.drop w.length))
      else if q = 4 then cndS (hdA fin gS (r.drop w.length)) (some (r.drop w.length)) (some r) else some (108 :: r.drop w.length))
      (some r)
noncomputable def stepA2 (T : TT) (fin : Nx) (m : Nat) (r : List Nat) : Option (List Nat) := match lookA fin A4 r with
  | none => none
  | some none => some r
  | some (some (w, q)) =>
    cndL (T.t1 (((r.drop w.length).length : Int) - m))
      (if q = 1 then some (r.drop w.length) else if q = 2 then cndS (hdA fin gST (r.drop w.length)) (cndL (T.t4 (((r.drop w.length).length : Int) - m)) (some (r.drop w.length)) (some r)) (some r)
      else cndS (hdA fin gET (r.drop w.length)) (match lookA fin A3 (r.drop w.length) with | none => none | some x => if x.isNone then some (r.drop w.length) else some r) (some r))
      (some r)
noncomputable def liA (T : TT) (fin : Nx) (m : Nat) (d : List Nat) : Option (List Nat) := match lookA fin A5 d with
  | none => none
  | some none => some d
  | some (some (w, _)) => cndL (T.t2 (((d.drop w.length).length : Int) - m)) (some (d.drop w.length)) (some d)
noncomputable def stepA3 (T : TT) (fin : Nx) (m : Nat) (r : List Nat) : Option (List Nat) := match lookA fin A6 r with
  | none => none
  | some none => some r
  | some (some (w, q)) =>
    cndL (T.t2 (((r.drop w.length).length : Int) - m))
      (if q = 1 then cndS (pfxA fin [103, 105] (r.drop w.length)) (cndS (pfxA fin [101] ((r.drop w.length).drop 2)) (some (r.drop w.length)) (cndL (T.t2 ((((r.drop w.length).drop 2).length : Int) - m)) (some ((r.drop w.length).drop 2)) (some (r.drop w.length)))) (some (r.drop w.length))
      else if q = 2 then cndS (pfxA fin [101] (r.drop w.length)) (some r) (some (r.drop w.length))
      else if q = 3 then cndS (pfxA fin [114, 101] (r.drop w.length)) (cndL (T.t1 ((((r.drop w.length).drop 2).length : Int) - m)) (some ((r.drop w.length).drop 2)) (some (r.drop w.length)))
          (cndS (pfxA fin [110, 101] (r.drop w.length)) (cndL (T.t1 ((((r.drop w.length).drop 2).length : Int) - m)) (some ((r.drop w.length).drop 2)) (some (r.drop w.length))) (some (r.drop w.length)))
      else liA T fin m (r.drop w.length))
      (some r)
noncomputable def stepA4 (T : TT) (fin : Nx) (m : Nat) (r : List Nat) : Option (List Nat) := match lookA fin A7 r with
  | none => none
  | some none => some r
  | some (some (w, _)) => cndL (T.tl (((r.drop w.length).length : Int) - m)) (some (r.drop w.length)) (some r)
noncomputable def sufA (T : TT) (fin : Nx) (m : Nat) (r : List Nat) : Option (List Nat) :=
  (stepA1 T fin m r).bind fun r => (stepA2 T fin m r).bind fun r => (stepA3 T fin m r).bind fun r => stepA4 T fin m r

/-! soundness -/

theorem pfxA_ok {fin : Nx} {rest : List Nat} (hf : fin.Ok rest) : ∀ {u K : List Nat} {b : Bool}, pfxA fin u K = some b → pfx u (K ++ rest) = b ∧ (b = true → u.length ≤ K.length)
  | [], K, b, h => by
    simp only [pfxA, Option.some.injEq] at h
    subst h; exact ⟨by simp [pfx], fun _ => by simp⟩
  | a :: u, [], b, h => by
    simp only [pfxA] at h
    cases fin with
    | any => cases h
    | fin =>
      cases h
      have : rest = [] := hf
      subst this
      exact ⟨rfl, fun h => by cases h⟩
    | out l =>
      obtain ⟨c, r, rfl, hc⟩ := hf
      unfold Nx.first at h
      cases q : memN a l with
      | false => simp only [q] at h; cases h
      | true =>
        simp only [q] at h; cases h
        have : a ≠ c := by rintro rfl; rw [q] at hc; cases hc
        exact ⟨by rw [List.nil_append, pfx]; simp [this], fun h => by cases h⟩
  | a :: u, c :: K, b, h => by
    simp only [pfxA] at h
    cases q : Nat.beq a c with
    | true =>
      have q' := Nat.eq_of_beq_eq_true q
      rw [q] at h
      have ih := pfxA_ok hf h
      exact ⟨by rw [List.cons_append, pfx, ih.1]; simp [q'], fun hb => by have := ih.2 hb; simp only [List.length_cons]; omega⟩
    | false =>
      have q' := Nat.ne_of_beq_eq_false q
      rw [q] at h
      cases h
      exact ⟨by rw [List.cons_append, pfx]; simp [q'], fun h => by cases h⟩
theorem hdA_ok {fin : Nx} {rest : List Nat} (hf : fin.Ok rest) {g K : List Nat} {b : Bool} (h : hdA fin g K = some b) : hd g (K ++ rest) = b := by
  cases K with
  | nil =>
    simp only [hdA] at h
    cases fin with
    | any => cases h
    | out l => cases h
    | fin =>
      cases h
      have : rest = [] := hf
      subst this; rfl
  | cons c K => simp only [hdA, Option.some.injEq] at h; exact h
theorem lookA_ok {fin : Nx} {rest : List Nat} (hf : fin.Ok rest) : ∀ {T : Tab} {K : List Nat} {r : Option (List Nat × Int)}, lookA fin T K = some r → look T (K ++ rest) = r ∧ ∀ w q, r = some (w, q) → w.length ≤ K.length
  | [], K, r, h => by
    simp only [lookA, Option.some.injEq] at h
    subst h; exact ⟨rfl, fun _ _ h => by cases h⟩
  | e :: T, K, r, h => by
    unfold lookA at h
    cases q1 : lookA fin T K with
    | none => rw [q1] at h; cases h
    | some r1 =>
      rw [q1] at h
      cases q2 : pfxA fin e.1 K with
      | none => rw [q2] at h; cases h
      | some b =>
        rw [q2] at h
        have ih := lookA_ok hf q1
        have hp := pfxA_ok hf q2
        simp only [Option.some.injEq] at h
        unfold look
        rw [ih.1, hp.1]
        cases r1 with
        | none =>
          dsimp only at h ⊢
          refine ⟨h, fun w q hw => ?_⟩
          rw [← h] at hw
          cases b with
          | false => simp at hw
          | true => simp at hw; rw [← hw.1]; exact hp.2 rfl
        | some x =>
          obtain ⟨w1, q1'⟩ := x
          dsimp only at h ⊢
          refine ⟨h, fun w q hw => ?_⟩
          rw [← h] at hw
          split at hw
          · rename_i hc
            simp at hw hc
            rw [← hw.1]; exact hp.2 hc.1
          · simp at hw; rw [← hw.1]; exact ih.2 _ _ rfl

structure TT.Ok (T : TT) (p1 p2 : Int) (n : Nat) : Prop where
  t1 : ∀ o b, T.t1 o = some b → (p1 ≤ n + o ↔ b = true)
  t2 : ∀ o b, T.t2 o = some b → (p2 ≤ n + o ↔ b = true)
  t4 : ∀ o b, T.t4 o = some b → ((4 : Int) ≤ n + o ↔ b = true)
  tl : ∀ o b, T.tl o = some b → ((2 : Int) ≤ n + o ↔ b = true)

theorem cndS_ok {c : Option Bool} {a b : Option (List Nat)} {x : List Nat} (h : cndS c a b = some x) : (c = some true ∧ a = some x) ∨ (c = some false ∧ b = some x) := by
  unfold cndS at h
  split at h
  · exact Or.inl ⟨rfl, h⟩
  · exact Or.inr ⟨rfl, h⟩
  · cases h
theorem cndL_ok {c : Option Bool} {a b : Option (List Nat)} {x : List Nat} (h : cndL c a b = some x) {P : Prop} (hc : ∀ v, c = some v → (P ↔ v = true)) : (P → a = some x) ∧ (¬P → b = some x) := by
  unfold cndL at h
  split at h
  · have := hc _ rfl; exact ⟨fun _ => h, fun k => absurd (this.mpr rfl) k⟩
  · have := hc _ rfl; exact ⟨fun k => (by cases this.mp k), fun _ => h⟩
  · split at h
    · split at h
      · rename_i q; subst q; exact ⟨fun _ => h, fun _ => h⟩
      · cases h
    · cases h

section
variable {T : TT} {p1 p2 : Int} {n m : Nat} {fin : Nx} {rest : List Nat} (O : T.Ok p1 p2 n) (hn : n = m + rest.length) (hf : fin.Ok rest)
theorem drop_app {l : Nat} {K rest : List Nat} (h : l ≤ K.length) : (K ++ rest).drop l = K.drop l ++ rest := by
  rw [List.drop_append, Nat.sub_eq_zero_of_le h, List.drop_zero]
include O hn hf

theorem stepA1_ok {K x : List Nat} (h : stepA1 T fin m K = some x) : step1 p1 (K ++ rest) = x ++ rest := by
  unfold stepA1 at h
  unfold step1
  cases q0 : lookA fin A2 K with
  | none => rw [q0] at h; cases h
  | some r =>
    rw [q0] at h
    have hl := lookA_ok hf q0
    rw [hl.1]
    cases r with
    | none => simp at h; subst h; rfl
    | some y =>
      obtain ⟨w, q⟩ := y
      dsimp only at h ⊢
      have hw := hl.2 _ _ rfl
      rw [drop_app hw]
      generalize K.drop w.length = d at *
      have hc := cndL_ok h (P := p1 ≤ ((d ++ rest).length : Int)) (fun v hv => by
        have := O.t1 _ _ hv
        rw [show ((d ++ rest).length : Int) = n + ((d.length : Int) - m) from by rw [List.length_append]; omega]
        exact this)
      by_cases hp : p1 ≤ ((d ++ rest).length : Int)
      · rw [if_pos hp]
        have h1 := hc.1 hp
        by_cases k1 : q = 1
        · rw [if_pos k1] at h1 ⊢
          rcases cndS_ok h1 with ⟨a, b⟩ | ⟨a, b⟩ <;> cases b <;> rw [(pfxA_ok hf a).1] <;> rfl
        rw [if_neg k1] at h1 ⊢
        by_cases k2 : q = 2
        · rw [if_pos k2] at h1 ⊢
          cases h1; rfl
        rw [if_neg k2] at h1 ⊢
        by_cases k3 : q = 3
        · rw [if_pos k3] at h1 ⊢
          rcases cndS_ok h1 with ⟨a, b⟩ | ⟨a, b⟩
          · have ha := pfxA_ok hf a
            have hd1 := ha.2 rfl
            have e2 : (d ++ rest).drop 1 = d.drop 1 ++ rest := drop_app hd1
            rw [ha.1, e2]
            rcases cndS_ok b with ⟨a', b⟩ | ⟨a', b⟩ <;> cases b <;> rw [(pfxA_ok hf a').1] <;> rfl
          · cases b
            rw [(pfxA_ok hf a).1]; rfl
        rw [if_neg k3] at h1 ⊢
        by_cases k4 : q = 4
        · rw [if_pos k4] at h1 ⊢
          rcases cndS_ok h1 with ⟨a, b⟩ | ⟨a, b⟩ <;> cases b <;> rw [hdA_ok hf a] <;> rfl
        rw [if_neg k4] at h1 ⊢
        cases h1; rfl
      · rw [if_neg hp]
        cases hc.2 hp; rfl

theorem stepA2_ok {K x : List Nat} (h : stepA2 T fin m K = some x) : step2 p1 (K ++ rest) = x ++ rest := by
  unfold stepA2 at h
  unfold step2
  cases q0 : lookA fin A4 K with
  | none => rw [q0] at h; cases h
  | some r =>
    rw [q0] at h
    have hl := lookA_ok hf q0
    rw [hl.1]
    cases r with
    | none => simp at h; subst h; rfl
    | some y =>
      obtain ⟨w, q⟩ := y
      dsimp only at h ⊢
      have hw := hl.2 _ _ rfl
      rw [drop_app hw]
      generalize K.drop w.length = d at *
      have hc := cndL_ok h (P := p1 ≤ ((d ++ rest).length : Int)) (fun v hv => by
        have := O.t1 _ _ hv
        rw [show ((d ++ rest).length : Int) = n + ((d.length : Int) - m) from by rw [List.length_append]; omega]
        exact this)
      by_cases hp : p1 ≤ ((d ++ rest).length : Int)
      · rw [if_pos hp]
        have h1 := hc.1 hp
        by_cases k1 : q = 1
        · rw [if_pos k1] at h1 ⊢
          cases h1; rfl
        rw [if_neg k1] at h1 ⊢
        by_cases k2 : q = 2
        · rw [if_pos k2] at h1 ⊢
          rcases cndS_ok h1 with ⟨a, b⟩ | ⟨a, b⟩
          · rw [hdA_ok hf a]
            have h4 := cndL_ok b (P := 4 ≤ (d ++ rest).length) (fun v hv => by
              have := O.t4 _ _ hv
              rw [← this, List.length_append]; omega)
            by_cases h44 : 4 ≤ (d ++ rest).length
            · cases h4.1 h44; rw [decide_eq_true h44]; rfl
            · cases h4.2 h44; rw [decide_eq_false h44]; rfl
          · cases b
            rw [hdA_ok hf a]; rfl
        rw [if_neg k2] at h1 ⊢
        rcases cndS_ok h1 with ⟨a, b⟩ | ⟨a, b⟩
        · rw [hdA_ok hf a]
          cases q3 : lookA fin A3 d with
          | none => rw [q3] at b; cases b
          | some z =>
            rw [q3] at b
            dsimp only at b
            rw [(lookA_ok hf q3).1]
            split at b <;> cases b <;> rename_i hz <;> simp [hz]
        · cases b
          rw [hdA_ok hf a]; rfl
      · rw [if_neg hp]
        cases hc.2 hp; rfl

theorem liA_ok {K x : List Nat} (h : liA T fin m K = some x) : liS p2 (K ++ rest) = x ++ rest := by
  unfold liA at h
  unfold liS
  cases q0 : lookA fin A5 K with
  | none => rw [q0] at h; cases h
  | some r =>
    rw [q0] at h
    have hl := lookA_ok hf q0
    rw [hl.1]
    cases r with
    | none => simp at h; subst h; rfl
    | some y =>
      obtain ⟨w, q⟩ := y
      dsimp only at h ⊢
      have hw := hl.2 _ _ rfl
      rw [drop_app hw]
      generalize K.drop w.length = d at *
      have hc := cndL_ok h (P := p2 ≤ ((d ++ rest).length : Int)) (fun v hv => by
        have := O.t2 _ _ hv
        rw [show ((d ++ rest).length : Int) = n + ((d.length : Int) - m) from by rw [List.length_append]; omega]
        exact this)
      by_cases hp : p2 ≤ ((d ++ rest).length : Int)
      · rw [if_pos hp]
        cases hc.1 hp; rfl
      · rw [if_neg hp]
        cases hc.2 hp; rfl

theorem stepA3_ok {K x : List Nat} (h : stepA3 T fin m K = some x) : step3 p1 p2 (K ++ rest) = x ++ rest := by
  unfold stepA3 at h
  unfold step3
  cases q0 : lookA fin A6 K with
  | none => rw [q0] at h; cases h
  | some r =>
    rw [q0] at h
    have hl := lookA_ok hf q0
    rw [hl.1]
    cases r with
    | none => simp at h; subst h; rfl
    | some y =>
      obtain ⟨w, q⟩ := y
      dsimp only at h ⊢
      have hw := hl.2 _ _ rfl
      rw [drop_app hw]
      generalize K.drop w.length = d at *
      have t2 : ∀ (d : List Nat) v, T.t2 ((d.length : Int) - m) = some v → (p2 ≤ ((d ++ rest).length : Int) ↔ v = true) := fun d v hv => by
        have := O.t2 _ _ hv
        rw [show ((d ++ rest).length : Int) = n + ((d.length : Int) - m) from by rw [List.length_append]; omega]
        exact this
      have t1 : ∀ (d : List Nat) v, T.t1 ((d.length : Int) - m) = some v → (p1 ≤ ((d ++ rest).length : Int) ↔ v = true) := fun d v hv => by
        have := O.t1 _ _ hv
        rw [show ((d ++ rest).length : Int) = n + ((d.length : Int) - m) from by rw [List.length_append]; omega]
        exact this
      have hc := cndL_ok h (t2 d)
      by_cases hp : p2 ≤ ((d ++ rest).length : Int)
      · rw [if_pos hp]
        have h1 := hc.1 hp
        by_cases k1 : q = 1
        · rw [if_pos k1] at h1 ⊢
          rcases cndS_ok h1 with ⟨a, b⟩ | ⟨a, b⟩
          · have ha := pfxA_ok hf a
            have e2 : (d ++ rest).drop 2 = d.drop 2 ++ rest := drop_app (ha.2 rfl)
            rw [ha.1, e2]
            rcases cndS_ok b with ⟨a', b⟩ | ⟨a', b⟩
            · cases b; rw [(pfxA_ok hf a').1]; rfl
            · rw [(pfxA_ok hf a').1]
              have h4 := cndL_ok b (t2 _)
              by_cases h44 : p2 ≤ ((d.drop 2 ++ rest).length : Int)
              · cases h4.1 h44; simp only [if_true, Bool.false_eq_true, if_false]; rw [if_pos h44]
              · cases h4.2 h44; simp only [if_true, Bool.false_eq_true, if_false]; rw [if_neg h44]
          · cases b; rw [(pfxA_ok hf a).1]; rfl
        rw [if_neg k1] at h1 ⊢
        by_cases k2 : q = 2
        · rw [if_pos k2] at h1 ⊢
          rcases cndS_ok h1 with ⟨a, b⟩ | ⟨a, b⟩ <;> cases b <;> rw [(pfxA_ok hf a).1] <;> rfl
        rw [if_neg k2] at h1 ⊢
        by_cases k3 : q = 3
        · rw [if_pos k3] at h1 ⊢
          rcases cndS_ok h1 with ⟨a, b⟩ | ⟨a, b⟩
          · have ha := pfxA_ok hf a
            have e2 : (d ++ rest).drop 2 = d.drop 2 ++ rest := drop_app (ha.2 rfl)
            rw [ha.1, e2]
            have h4 := cndL_ok b (t1 _)
            simp only [Bool.true_or, if_true]
            by_cases h44 : p1 ≤ ((d.drop 2 ++ rest).length : Int)
            · cases h4.1 h44; rw [if_pos h44]
            · cases h4.2 h44; rw [if_neg h44]
          · rw [(pfxA_ok hf a).1]
            rcases cndS_ok b with ⟨a', b⟩ | ⟨a', b⟩
            · have ha := pfxA_ok hf a'
              have e2 : (d ++ rest).drop 2 = d.drop 2 ++ rest := drop_app (ha.2 rfl)
              rw [ha.1, e2]
              have h4 := cndL_ok b (t1 _)
              simp only [Bool.or_true, if_true]
              by_cases h44 : p1 ≤ ((d.drop 2 ++ rest).length : Int)
              · cases h4.1 h44; rw [if_pos h44]
              · cases h4.2 h44; rw [if_neg h44]
            · cases b; rw [(pfxA_ok hf a').1]; rfl
        rw [if_neg k3] at h1 ⊢
        exact liA_ok O hn hf h1
      · rw [if_neg hp]
        cases hc.2 hp; rfl

theorem stepA4_ok {K x : List Nat} (h : stepA4 T fin m K = some x) : step4 (K ++ rest) = x ++ rest := by
  unfold stepA4 at h
  unfold step4
  cases q0 : lookA fin A7 K with
  | none => rw [q0] at h; cases h
  | some r =>
    rw [q0] at h
    have hl := lookA_ok hf q0
    rw [hl.1]
    cases r with
    | none => simp at h; subst h; rfl
    | some y =>
      obtain ⟨w, q⟩ := y
      dsimp only at h ⊢
      have hw := hl.2 _ _ rfl
      rw [drop_app hw]
      generalize K.drop w.length = d at *
      have hc := cndL_ok h (P := 2 ≤ (d ++ rest).length) (fun v hv => by
        have := O.tl _ _ hv
        rw [← this, List.length_append]; omega)
      by_cases hp : 2 ≤ (d ++ rest).length
      · rw [if_pos hp]
        cases hc.1 hp; rfl
      · rw [if_neg hp]
        cases hc.2 hp; rfl

theorem sufA_ok {K x : List Nat} (h : sufA T fin m K = some x) : suf p1 p2 (K ++ rest) = x ++ rest := by
  unfold sufA at h
  cases h1 : stepA1 T fin m K with
  | none => rw [h1] at h; cases h
  | some a =>
    rw [h1, Option.bind_some] at h
    cases h2 : stepA2 T fin m a with
    | none => rw [h2] at h; cases h
    | some b =>
      rw [h2, Option.bind_some] at h
      cases h3 : stepA3 T fin m b with
      | none => rw [h3] at h; cases h
      | some c =>
        rw [h3, Option.bind_some] at h
        unfold suf
        rw [stepA1_ok O hn hf h1, stepA2_ok O hn hf h2, stepA3_ok O hn hf h3, stepA4_ok O hn hf h]
end
end Mine
namespace Mine
open PySem PySem.W PySem.Calls PyProof.Rows
set_option autoImplicit false
set_option maxRecDepth 100000

/-- the letters of a root, behind the prelude -/
noncomputable def cons19 : List Nat := [98, 99, 100, 102, 103, 104, 106, 107, 108, 109, 110, 112, 114, 115, 116, 118, 119, 120, 122]
noncomputable def letters : List Nat := [98, 99, 100, 102, 103, 104, 106, 107, 108, 109, 110, 112, 114, 115, 116, 118, 119, 120, 122, 97, 101, 105, 111, 117, 121, 228, 246, 252]
noncomputable def pairsV : List (Nat × Nat) := [(97, 97), (101, 101), (111, 111), (97, 105), (97, 117), (101, 105), (101, 117), (105, 101), (228, 117)]
/-- the endings that no deep root has, read backwards -/
noncomputable def shut : List (List Nat) := [[109, 101], [110, 101], [114, 101], [115, 101], [115, 105], [116, 101], [100, 110, 101], [103, 105], [103, 110, 117], [104, 99, 105, 108], [104, 99, 115, 105], [107, 105], [116, 105, 101, 104], [116, 105, 101, 107], [110, 105, 114, 101], [110, 114, 101], [110, 110, 105, 114, 101], [110, 108], [115, 115, 105, 110], [115, 98], [115, 100], [115, 102], [115, 103], [115, 104], [115, 107], [115, 108], [115, 109], [115, 110], [115, 114], [115, 116]] ++ (letters.filter fun c => !(c == 115)).map fun c => [116, 115, c]
noncomputable def tails (c : Nat) : List (List Nat) → List (List Nat)
  | [] => []
  | [] :: r => tails c r
  | (a :: u) :: r => match Nat.beq a c with
    | true => u :: tails c r
    | false => tails c r
noncomputable def dead : List (List Nat) → Bool
  | [] => false
  | [] :: _ => true
  | (_ :: _) :: r => dead r
noncomputable def memP (c d : Nat) : List (Nat × Nat) → Bool
  | [] => false
  | (a, b) :: l => match Nat.beq a c && Nat.beq b d with
    | true => true
    | false => memP c d l
/-- may the letter c stand ahead of the letter l in a root? -/
noncomputable def near : Option Nat → Nat → Bool
  | none, c => memN c cons19
  | some l, c => match memN l gv with
    | false => true
    | true => match memN c gv with
      | false => true
      | true => memP c l pairsV
/-- a good reversed root, from here on -/
noncomputable def goodP (al : List Nat) : List (List Nat) → Option Nat → List Nat → Bool
  | _, _, [] => true
  | sh, l, c :: P => al.contains c && near l c && !dead (tails c sh) && goodP al (tails c sh) (some c) P

noncomputable def tt (d0 : Bool) (q1 q2 : Int) (two : Option Bool) (four : Option Bool) : TT where
  t1 := fun o => match d0 with | true => some (decide (q1 ≤ o)) | false => if 0 ≤ o then some true else none
  t2 := fun o => match d0 with | true => some (decide (q2 ≤ o)) | false => match two with
    | some true => if 0 ≤ o then some true else none
    | some false => some (decide (q1 ≤ o))
    | none => none
  t4 := fun o => if o = 0 then four else if 2 ≤ o then some true else if 1 ≤ o ∧ d0 = false then some true else none
  tl := fun o => if 0 ≤ o then some true else none

/-- the regions' beginnings over an ending, counted from the root's end (no vowel group is open there) -/
noncomputable def qreg (e : List Nat) : Int × Int :=
  let n : Int := e.length
  let a : Int := run (fun x => vow x == false) e 0
  if n ≤ a then (n, n) else
  let b : Int := a + 1 + run (fun x => vow x == true) e (a + 1)
  if n ≤ b then (n, n) else
  let c : Int := b + 1 + run (fun x => vow x == false) e (b + 1)
  if n ≤ c then (b + 1, n) else
  let d : Int := c + 1 + run (fun x => vow x == true) e (c + 1)
  if n ≤ d then (b + 1, n) else (b + 1, d + 1)

/-- what a form of a deep root tells, once a beginning k of the reversed root is known -/
noncomputable def toldA (fin : Nx) (fam : Nat) (four : Option Bool) (low : List Nat) (f : List Nat) (k : List Nat) : Option (List Nat) :=
  cndS (if f = [116, 101, 109] then pfxA fin [115, 121, 115] k else some false) (some f)
    (if fam = 0 then cndS (hdA fin gS k) (some []) (some low)
    else if fam = 1 then cndS four (cndS (hdA fin gST k) (some []) (some low)) (some low)
    else if fam = 2 then cndS (hdA fin [100, 102, 103, 107, 108, 109, 110, 114, 115, 116, 122] k) (cndS (pfxA fin [107, 99, 105, 116] k) (some low) (cndS (pfxA fin [110, 97, 108, 112] k) (some low) (cndS (pfxA fin [114, 116] k) (some low) (some [])))) (some low)
    else some low)

/-- one knot of the tree: does the known beginning settle the answer, and is it the told one? -/
noncomputable def knot (T : TT) (told : Nx → List Nat → Option (List Nat)) (re : List Nat) (fin : Nx) (k : List Nat) : Option Bool :=
  match sufA T fin k.length (re ++ k) with
  | none => none
  | some x => match told fin k with
    | none => none
    | some t => some (x.drop (x.length - k.length) == k && decide (k.length ≤ x.length) && ((x.take (x.length - k.length)).reverse).map pl == t)
/-- the words that the steps look for, read backwards -/
noncomputable def wordsS : List (List Nat) := (A2 ++ A3 ++ A4 ++ A5 ++ A6).map (·.1) ++ [[116, 115, 121, 115], [115, 115, 105, 110], [115, 121, 115]]
noncomputable def nextW : List Nat → List Nat → Option Nat
  | [], c :: _ => some c
  | [], [] => none
  | _ :: _, [] => none
  | a :: u, b :: w => match Nat.beq a b with
    | true => nextW u w
    | false => none
noncomputable def addN (c : Nat) (l : List Nat) : List Nat := match memN c l with
  | true => l
  | false => c :: l
noncomputable def nextWs (u : List Nat) : List (List Nat) → List Nat → List Nat
  | [], acc => acc
  | w :: ws, acc => match nextW u w with
    | some c => nextWs u ws (addN c acc)
    | none => nextWs u ws acc
/-- the letters by which a word goes on behind an end of u -/
noncomputable def relS : List Nat → List Nat → List Nat
  | [], acc => acc
  | a :: u, acc => relS u (nextWs (a :: u) wordsS acc)
/-- every child of a knot -/
noncomputable def kids (al : List Nat) (sh : List (List Nat)) (l : Option Nat) (go : List (List Nat) → Nat → Bool) : Bool := al.all fun c => match near l c with
  | false => true
  | true => match dead (tails c sh) with
    | true => true
    | false => go (tails c sh) c
noncomputable def seek (al : List Nat) (least : Nat) (T : TT) (told : Nx → List Nat → Option (List Nat)) (re : List Nat) : Nat → List (List Nat) → Option Nat → List Nat → Bool
  | 0, _, _, _ => false
  | n + 1, sh, l, k => match knot T told re .any k with
    | some b => b
    | none => (Nat.blt k.length least || knot T told re .fin k == some true) && match knot T told re (.out (relS (re ++ k) [])) k with
      | some b => b && kids (relS (re ++ k) []) sh l fun sh c => match memN c al with
        | true => seek al least T told re n sh (some c) (k ++ [c])
        | false => true
      | none => kids al sh l fun sh c => seek al least T told re n sh (some c) (k ++ [c])
noncomputable def seekBare (f : List Nat × List Nat) : Bool := seek cons19 2 (tt true (qreg f.1).1 (qreg f.1).2 none none) (fun _ _ => some f.2) f.1.reverse 8 [] none []
noncomputable def seekForm (fam : Nat) (two four : Option Bool) (low : List Nat) (f : List Nat) : Bool :=
  seek letters 3 (tt false (qreg f).1 0 two four) (fun fin k => toldA fin fam four low f k) f.reverse 8 shut none []
noncomputable def seekLate (d0 : Bool) (two : Option Bool) (l mk : List Nat) : Bool :=
  seek (if d0 then cons19 else letters) 2 (tt d0 (qreg (l ++ mk)).1 (qreg (l ++ mk)).2 two none) (fun _ _ => some l) (l ++ mk).reverse 8 (if d0 then [] else shut) none []
noncomputable def bareAll : Bool := (List.range 34).all fun i => (famAt i).2.2.all fun f => seekBare f
noncomputable def famAll (i : Nat) (two four : Option Bool) : Bool := (famAt i).2.2.all fun f => seekForm i two four (if two = some false then (famAt i).2.1 else (famAt i).1) f.1
noncomputable def lateAll (d0 : Bool) (two : Option Bool) : Bool := late.all fun l => marks.all fun mk => seekLate d0 two l mk


end Mine
namespace Mine
open PySem PySem.W PySem.Calls PyProof.Rows
set_option autoImplicit false
set_option maxRecDepth 100000

theorem memN_mem {c : Nat} : ∀ {l : List Nat}, memN c l = true ↔ c ∈ l
  | [] => by simp [memN]
  | a :: l => by
    unfold memN
    cases q : Nat.beq a c with
    | true => have := Nat.eq_of_beq_eq_true q; simp [this]
    | false =>
      have := Nat.ne_of_beq_eq_false q
      simp only [List.mem_cons]
      rw [memN_mem (l := l)]
      exact ⟨Or.inr, fun h => h.elim (fun h => absurd h.symm this) id⟩
theorem tails_mem {c : Nat} {u : List Nat} : ∀ {sh : List (List Nat)}, u ∈ tails c sh ↔ (c :: u) ∈ sh
  | [] => by simp [tails]
  | [] :: r => by
    unfold tails
    rw [tails_mem (sh := r)]; simp
  | (a :: w) :: r => by
    unfold tails
    cases q : Nat.beq a c with
    | true =>
      have := Nat.eq_of_beq_eq_true q
      subst this
      simp only [List.mem_cons]
      rw [tails_mem (sh := r)]; simp
    | false =>
      have h := Nat.ne_of_beq_eq_false q
      show u ∈ tails c r ↔ _
      rw [tails_mem (sh := r)]
      simp [Ne.symm h]
theorem dead_mem : ∀ {sh : List (List Nat)}, dead sh = true ↔ [] ∈ sh
  | [] => by simp [dead]
  | [] :: r => by simp [dead]
  | (a :: w) :: r => by
    unfold dead
    rw [dead_mem (sh := r)]; simp

/-- the letters and their neighbours, read backwards -/
noncomputable def chn (al : List Nat) : Option Nat → List Nat → Prop
  | _, [] => True
  | l, c :: P => c ∈ al ∧ near l c = true ∧ chn al (some c) P
theorem good_of {al : List Nat} : ∀ {P : List Nat} {sh : List (List Nat)} {l : Option Nat}, chn al l P → (∀ u ∈ sh, pfx u P = false) → goodP al sh l P = true
  | [], _, _, _, _ => rfl
  | c :: P, sh, l, h, hs => by
    obtain ⟨h1, h2, h3⟩ := h
    have hd : dead (tails c sh) = false := by
      cases q : dead (tails c sh) with
      | false => rfl
      | true =>
        have := hs _ (tails_mem.mp (dead_mem.mp q))
        simp [pfx] at this
    have ih := good_of (P := P) (sh := tails c sh) h3 fun u hu => by
      have := hs _ (tails_mem.mp hu)
      simpa [pfx] using this
    unfold goodP
    rw [ih, hd, h2, List.contains_iff_mem.mpr h1]; rfl

/-- what the search shows of a reversed root -/
noncomputable def Told (p1 p2 : Int) (re P tl : List Nat) : Prop := ∃ y, suf p1 p2 (re ++ P) = y ++ P ∧ y.reverse.map pl = tl

section
variable {T : TT} {p1 p2 : Int} {told : Nx → List Nat → Option (List Nat)} {re P tl : List Nat} (O : T.Ok p1 p2 P.length)
  (ht : ∀ nx k rest t, P = k ++ rest → nx.Ok rest → told nx k = some t → t = tl)
include O ht

theorem knot_ok {fin : Nx} {k rest : List Nat} (e : P = k ++ rest) (hf : fin.Ok rest) (h : knot T told re fin k = some true) : Told p1 p2 re P tl := by
  unfold knot at h
  cases q : sufA T fin k.length (re ++ k) with
  | none => rw [q] at h; cases h
  | some x =>
    rw [q] at h
    dsimp only at h
    cases q2 : told fin k with
    | none => rw [q2] at h; cases h
    | some t =>
      rw [q2] at h
      simp only [Option.some.injEq, Bool.and_eq_true, decide_eq_true_eq, beq_iff_eq] at h
      have hs := sufA_ok (rest := rest) O (by rw [e, List.length_append]) hf q
      refine ⟨x.take (x.length - k.length), ?_, ?_⟩
      · rw [e, ← List.append_assoc, hs]
        conv => lhs; rw [← List.take_append_drop (x.length - k.length) x, h.1.1]
        rw [List.append_assoc]
      · rw [h.2]; exact ht _ _ _ _ e hf q2

theorem seek_ok {al : List Nat} {least : Nat} (hl : least ≤ P.length) : ∀ {n : Nat} {sh : List (List Nat)} {l : Option Nat} {k rest : List Nat}, P = k ++ rest → goodP al sh l rest = true → seek al least T told re n sh l k = true → Told p1 p2 re P tl
  | 0, _, _, _, _, _, _, h => by cases h
  | n + 1, sh, l, k, rest, e, g, h => by
    unfold seek at h
    cases q : knot T told re .any k with
    | some b =>
      rw [q] at h
      dsimp only at h
      subst h
      exact knot_ok (fin := .any) O ht e trivial q
    | none =>
      rw [q] at h
      simp only [Bool.and_eq_true] at h
      cases rest with
      | nil =>
        have h1 := h.1
        have : Nat.blt k.length least = false := by
          cases q' : Nat.blt k.length least with
          | false => rfl
          | true =>
            have := Nat.blt_eq.mp q'
            rw [e, List.append_nil] at hl; omega
        rw [this, Bool.false_or, beq_iff_eq] at h1
        exact knot_ok (fin := .fin) O ht e rfl h1
      | cons c rest =>
        have h2 := h.2
        unfold goodP at g
        simp only [Bool.and_eq_true, Bool.not_eq_true'] at g
        obtain ⟨⟨⟨g1, g2⟩, g3⟩, g4⟩ := g
        have g1' := List.contains_iff_mem.mp g1
        have e' : P = (k ++ [c]) ++ rest := by rw [e, List.append_assoc]; rfl
        have kid : ∀ {rl : List Nat} {go : List (List Nat) → Nat → Bool}, kids rl sh l go = true → c ∈ rl → go (tails c sh) c = true := by
          intro rl go hk hc
          have := List.all_eq_true.mp hk c hc
          rw [g2, g3] at this
          exact this
        cases q2 : knot T told re (.out (relS (re ++ k) [])) k with
        | some b =>
          rw [q2] at h2
          simp only [Bool.and_eq_true] at h2
          obtain ⟨rfl, h2⟩ := h2
          cases q3 : memN c (relS (re ++ k) []) with
          | false => exact knot_ok (fin := .out _) O ht e ⟨c, rest, rfl, q3⟩ q2
          | true =>
            have := kid h2 (memN_mem.mp q3)
            rw [memN_mem.mpr g1'] at this
            exact seek_ok hl e' g4 this
        | none =>
          rw [q2] at h2
          exact seek_ok hl e' g4 (kid h2 g1')
end

/-- the regions' tests of a deep root, and of a bare one -/
theorem tt_deep {p1 p2 q1 q2 : Int} {n : Nat} {two four : Option Bool} (hn : 3 ≤ n) (h1 : p1 ≤ n) (h2 : two = some true → p2 ≤ n) (h3 : two = some false → p2 = n + q1) (h4 : ∀ b, four = some b → (4 ≤ n ↔ b = true)) : (tt false q1 q2 two four).Ok p1 p2 n := by
  refine ⟨fun o b h => ?_, fun o b h => ?_, fun o b h => ?_, fun o b h => ?_⟩
  · simp only [tt] at h
    split at h
    · cases h; exact ⟨fun _ => rfl, fun _ => by omega⟩
    · cases h
  · simp only [tt] at h
    cases two with
    | none => cases h
    | some t => cases t with
      | true =>
        dsimp only at h
        have := h2 rfl
        split at h
        · cases h; exact ⟨fun _ => rfl, fun _ => by omega⟩
        · cases h
      | false =>
        have := h3 rfl
        cases h
        rw [decide_eq_true_eq]; omega
  · simp only [tt] at h
    split at h
    · rw [← h4 _ h]; omega
    · split at h
      · cases h; exact ⟨fun _ => rfl, fun _ => by omega⟩
      · split at h
        · cases h; exact ⟨fun _ => rfl, fun _ => by omega⟩
        · cases h
  · simp only [tt] at h
    split at h
    · cases h; exact ⟨fun _ => rfl, fun _ => by omega⟩
    · cases h
theorem tt_bare {p1 p2 q1 q2 : Int} {n : Nat} {two : Option Bool} (hn : 2 ≤ n) (h1 : p1 = n + q1) (h2 : p2 = n + q2) : (tt true q1 q2 two none).Ok p1 p2 n := by
  refine ⟨fun o b h => ?_, fun o b h => ?_, fun o b h => ?_, fun o b h => ?_⟩
  · cases h; rw [decide_eq_true_eq]; omega
  · cases h; rw [decide_eq_true_eq]; omega
  · simp only [tt] at h
    split at h
    · cases h
    · split at h
      · cases h; exact ⟨fun _ => rfl, fun _ => by omega⟩
      · split at h
        · rename_i k; cases k.2
        · cases h
  · simp only [tt] at h
    split at h
    · cases h; exact ⟨fun _ => rfl, fun _ => by omega⟩
    · cases h
end Mine
namespace Mine
open PySem PySem.W PySem.Calls PyProof.Rows
set_option autoImplicit false
set_option maxRecDepth 100000

theorem run_app {f : Nat → Bool} {A X Z : List Nat} {i : Int} (hi : i = (A.length : Int)) (h : ∀ x ∈ X, f x = true) : run f (A ++ (X ++ Z)) i = X.length + run f Z 0 := by
  subst hi
  unfold run
  rw [Int.toNat_natCast, List.drop_left, Int.toNat_zero, List.drop_zero]
  induction X with
  | nil => simp
  | cons x X ih =>
    rw [List.cons_append, List.takeWhile_cons, if_pos (h x (.head _)), List.length_cons, ih fun y hy => h y (.tail _ hy), List.length_cons]
    omega
theorem run_no {f : Nat → Bool} {y : Nat} {Z : List Nat} (h : f y = false) : run f (y :: Z) 0 = 0 := by
  unfold run; simp [h]
noncomputable def con (c : Nat) : Bool := vow c == false

theorem regs_deep1 {D0 u D1 e : List Nat} {x y : Nat} (h0 : ∀ c ∈ D0, vow c = false) (hp : 0 < D0.length) (hx : vow x = true) (hu : ∀ c ∈ u, vow c = true) (hy : vow y = false) (h1 : ∀ c ∈ D1, vow c = false) :
    (regs ((D0 ++ (x :: u ++ (y :: D1))) ++ e)).1 ≤ ((D0 ++ (x :: u ++ (y :: D1))).length : Int) ∧ (regs ((D0 ++ (x :: u ++ (y :: D1))) ++ e)).2 = ((D0 ++ (x :: u ++ (y :: D1))).length : Int) + (qreg e).1 := by
  have hn : ((D0 ++ (x :: u ++ (y :: D1))) ++ e).length = D0.length + 1 + u.length + 1 + D1.length + e.length := by
    simp only [List.length_append, List.length_cons]; omega
  have hR : (D0 ++ (x :: u ++ (y :: D1))).length = D0.length + 1 + u.length + 1 + D1.length := by
    simp only [List.length_append, List.length_cons]; omega
  have ra : run (fun x => vow x == false) ((D0 ++ (x :: u ++ (y :: D1))) ++ e) 0 = D0.length := by
    have := run_app (f := fun x => vow x == false) (A := []) (X := D0) (Z := x :: (u ++ (y :: (D1 ++ e)))) (i := 0) rfl (fun c hc => by simp [h0 c hc])
    rw [run_no (by simp [hx])] at this
    rw [← Nat.add_zero D0.length, ← this]; congr 1; simp
  have rb : run (fun x => vow x == true) ((D0 ++ (x :: u ++ (y :: D1))) ++ e) ((D0.length : Int) + 1) = u.length := by
    have := run_app (f := fun x => vow x == true) (A := D0 ++ [x]) (X := u) (Z := y :: (D1 ++ e)) (i := (D0.length : Int) + 1) (by simp) (fun c hc => by simp [hu c hc])
    rw [run_no (by simp [hy])] at this
    rw [← Nat.add_zero u.length, ← this]; congr 1; simp
  have rc : run (fun x => vow x == false) ((D0 ++ (x :: u ++ (y :: D1))) ++ e) ((D0.length : Int) + 1 + u.length + 1) = D1.length + run (fun x => vow x == false) e 0 := by
    have := run_app (f := fun x => vow x == false) (A := D0 ++ (x :: (u ++ [y]))) (X := D1) (Z := e) (i := (D0.length : Int) + 1 + u.length + 1) (by simp; omega) (fun c hc => by simp [h1 c hc])
    rw [← this]; congr 1; simp
  have rd : ∀ a : Nat, run (fun x => vow x == true) ((D0 ++ (x :: u ++ (y :: D1))) ++ e) ((D0.length : Int) + 1 + u.length + 1 + ((D1.length + a : Nat) : Int) + 1) = run (fun x => vow x == true) e ((a : Int) + 1) := by
    intro a
    unfold run
    congr 2
    rw [show ((D0.length : Int) + 1 + u.length + 1 + ((D1.length + a : Nat) : Int) + 1).toNat = (D0 ++ (x :: u ++ (y :: D1))).length + ((a : Int) + 1).toNat from by rw [hR]; omega]
    rw [List.drop_append, List.drop_eq_nil_of_le (by omega), List.nil_append]
    congr 1; omega
  unfold regs
  dsimp only
  rw [hn, hR, ra]
  rw [if_neg (by omega), if_neg (by omega), rb, if_neg (by omega), rc]
  unfold qreg
  dsimp only
  generalize run (fun x => vow x == false) e 0 = a at *
  rw [rd a]
  have hle : (if 3 ≤ (D0.length : Int) + 1 + u.length + 1 then (D0.length : Int) + 1 + u.length + 1 else 3) ≤ ((D0.length + 1 + u.length + 1 + D1.length : Nat) : Int) := by split <;> omega
  generalize run (fun x => vow x == true) e ((a : Int) + 1) = b at *
  by_cases h1 : (e.length : Int) ≤ a
  · rw [if_pos (by omega), if_pos h1]
    exact ⟨hle, by dsimp only; omega⟩
  · rw [if_neg (by omega), if_neg h1]
    by_cases h2 : (e.length : Int) ≤ (a : Int) + 1 + b
    · rw [if_pos (by omega), if_pos h2]
      exact ⟨hle, by dsimp only; omega⟩
    · rw [if_neg (by omega), if_neg h2]
      refine ⟨hle, ?_⟩
      repeat' split
      all_goals (dsimp only; omega)

theorem regs_deep2 {D0 u D1 w G e : List Nat} {x y z d : Nat} (h0 : ∀ c ∈ D0, vow c = false) (hp : 0 < D0.length) (hx : vow x = true) (hu : ∀ c ∈ u, vow c = true) (hy : vow y = false) (h1 : ∀ c ∈ D1, vow c = false)
    (hz : vow z = true) (hw : ∀ c ∈ w, vow c = true) (hd : vow d = false) :
    (regs ((D0 ++ (x :: u ++ (y :: D1 ++ (z :: w ++ (d :: G))))) ++ e)).1 ≤ ((D0 ++ (x :: u ++ (y :: D1 ++ (z :: w ++ (d :: G))))).length : Int) ∧ (regs ((D0 ++ (x :: u ++ (y :: D1 ++ (z :: w ++ (d :: G))))) ++ e)).2 ≤ ((D0 ++ (x :: u ++ (y :: D1 ++ (z :: w ++ (d :: G))))).length : Int) := by
  have hR : (D0 ++ (x :: u ++ (y :: D1 ++ (z :: w ++ (d :: G))))).length = D0.length + 1 + u.length + 1 + D1.length + 1 + w.length + 1 + G.length := by
    simp only [List.length_append, List.length_cons]; omega
  have hn : ((D0 ++ (x :: u ++ (y :: D1 ++ (z :: w ++ (d :: G))))) ++ e).length = D0.length + 1 + u.length + 1 + D1.length + 1 + w.length + 1 + G.length + e.length := by
    rw [List.length_append, hR]
  have ra : run (fun x => vow x == false) ((D0 ++ (x :: u ++ (y :: D1 ++ (z :: w ++ (d :: G))))) ++ e) 0 = D0.length := by
    have := run_app (f := fun x => vow x == false) (A := []) (X := D0) (Z := x :: (u ++ (y :: (D1 ++ (z :: w ++ (d :: G)) ++ e)))) (i := 0) rfl (fun c hc => by simp [h0 c hc])
    rw [run_no (by simp [hx])] at this
    rw [← Nat.add_zero D0.length, ← this]; congr 1; simp
  have rb : run (fun x => vow x == true) ((D0 ++ (x :: u ++ (y :: D1 ++ (z :: w ++ (d :: G))))) ++ e) ((D0.length : Int) + 1) = u.length := by
    have := run_app (f := fun x => vow x == true) (A := D0 ++ [x]) (X := u) (Z := y :: (D1 ++ (z :: w ++ (d :: G)) ++ e)) (i := (D0.length : Int) + 1) (by simp) (fun c hc => by simp [hu c hc])
    rw [run_no (by simp [hy])] at this
    rw [← Nat.add_zero u.length, ← this]; congr 1; simp
  have rc : run (fun x => vow x == false) ((D0 ++ (x :: u ++ (y :: D1 ++ (z :: w ++ (d :: G))))) ++ e) ((D0.length : Int) + 1 + u.length + 1) = D1.length := by
    have := run_app (f := fun x => vow x == false) (A := D0 ++ (x :: (u ++ [y]))) (X := D1) (Z := z :: (w ++ (d :: G) ++ e)) (i := (D0.length : Int) + 1 + u.length + 1) (by simp; omega) (fun c hc => by simp [h1 c hc])
    rw [run_no (by simp [hz])] at this
    rw [← Nat.add_zero D1.length, ← this]; congr 1; simp
  have rd : run (fun x => vow x == true) ((D0 ++ (x :: u ++ (y :: D1 ++ (z :: w ++ (d :: G))))) ++ e) ((D0.length : Int) + 1 + u.length + 1 + D1.length + 1) = w.length := by
    have := run_app (f := fun x => vow x == true) (A := D0 ++ (x :: (u ++ (y :: (D1 ++ [z]))))) (X := w) (Z := d :: (G ++ e)) (i := (D0.length : Int) + 1 + u.length + 1 + D1.length + 1) (by simp; omega) (fun c hc => by simp [hw c hc])
    rw [run_no (by simp [hd])] at this
    rw [← Nat.add_zero w.length, ← this]; congr 1; simp
  unfold regs
  dsimp only
  rw [hn, hR, ra]
  rw [if_neg (by omega), if_neg (by omega), rb, if_neg (by omega), rc, if_neg (by omega), rd, if_neg (by omega)]
  constructor
  · dsimp only; split <;> omega
  · dsimp only; omega

theorem regs_bare {R e : List Nat} (h0 : ∀ c ∈ R, vow c = false) (h2 : 2 ≤ R.length) : (regs (R ++ e)).1 = (R.length : Int) + (qreg e).1 ∧ (regs (R ++ e)).2 = (R.length : Int) + (qreg e).2 := by
  have hn : (R ++ e).length = R.length + e.length := List.length_append
  have ra : run (fun x => vow x == false) (R ++ e) 0 = R.length + run (fun x => vow x == false) e 0 := by
    have := run_app (f := fun x => vow x == false) (A := []) (X := R) (Z := e) (i := 0) rfl (fun c hc => by simp [h0 c hc])
    rw [← this]; rfl
  have rd : ∀ (f : Nat → Bool) (a i : Int), 0 ≤ a → i = R.length + a → run f (R ++ e) i = run f e a := by
    intro f a i h0 hi
    unfold run
    congr 2
    rw [show i.toNat = R.length + a.toNat from by omega]
    rw [List.drop_append, List.drop_eq_nil_of_le (by omega), List.nil_append]
    congr 1; omega
  unfold regs qreg
  dsimp only
  rw [hn, ra]
  generalize run (fun x => vow x == false) e 0 = a at *
  by_cases h3 : ((R.length + e.length : Nat) : Int) < 3
  · rw [if_pos h3]
    have : e.length = 0 := by omega
    rw [this, if_pos (by omega)]
    exact ⟨by dsimp only; omega, by dsimp only; omega⟩
  rw [if_neg h3]
  by_cases h4 : (e.length : Int) ≤ a
  · rw [if_pos (by omega), if_pos h4]
    exact ⟨by dsimp only; omega, by dsimp only; omega⟩
  rw [if_neg (by omega), if_neg h4, rd _ ((a : Int) + 1) _ (by omega) (by omega)]
  generalize run (fun x => vow x == true) e ((a : Int) + 1) = b at *
  by_cases h5 : (e.length : Int) ≤ a + 1 + b
  · rw [if_pos (by omega), if_pos h5]
    exact ⟨by dsimp only; omega, by dsimp only; omega⟩
  have hp : (if 3 ≤ ((R.length + a : Nat) : Int) + 1 + b + 1 then ((R.length + a : Nat) : Int) + 1 + b + 1 else 3) = ((R.length + a : Nat) : Int) + 1 + b + 1 := by rw [if_pos]; omega
  rw [if_neg (by omega), if_neg h5, hp, rd _ ((a : Int) + 1 + b + 1) _ (by omega) (by omega)]
  generalize run (fun x => vow x == false) e ((a : Int) + 1 + b + 1) = c at *
  by_cases h6 : (e.length : Int) ≤ a + 1 + b + 1 + c
  · rw [if_pos (by omega), if_pos h6]
    exact ⟨by dsimp only; omega, by dsimp only; omega⟩
  rw [if_neg (by omega), if_neg h6, rd _ ((a : Int) + 1 + b + 1 + c + 1) _ (by omega) (by omega)]
  generalize run (fun x => vow x == true) e ((a : Int) + 1 + b + 1 + c + 1) = d at *
  by_cases h7 : (e.length : Int) ≤ a + 1 + b + 1 + c + 1 + d
  · rw [if_pos (by omega), if_pos h7]
    exact ⟨by dsimp only; omega, by dsimp only; omega⟩
  · rw [if_neg (by omega), if_neg h7]
    exact ⟨by dsimp only; omega, by dsimp only; omega⟩
end Mine
namespace Mine
open PySem PySem.W PySem.Calls PyProof.Rows
set_option autoImplicit false
set_option maxRecDepth 100000

/-! pieces of a root -/

theorem calm_nil : calm [] := fun i a b c h => by cases h
theorem calm_one (x : Nat) : calm [x] := fun i a b c h1 h2 => by cases i <;> cases h2
theorem calm_con {c : Nat} {B : List Nat} (hc : vow c = false) (h : calm B) : calm (c :: B) := by
  intro i x y z h1 h2 h3 hv
  cases i with
  | zero => cases h1; rw [hc] at hv; cases hv
  | succ i => exact h i x y z h1 h2 h3 hv
theorem calm_v {x c : Nat} {B : List Nat} (hc : c ≠ 117 ∧ c ≠ 121) (h : calm (c :: B)) : calm (x :: c :: B) := by
  intro i a b d h1 h2 h3 hv hb
  cases i with
  | zero => cases h1; cases h2; exact absurd hb (by omega)
  | succ i => exact h i a b d h1 h2 h3 hv hb
theorem calm_vv {x y c : Nat} {B : List Nat} (hc : vow c = false) (h : calm (y :: c :: B)) : calm (x :: y :: c :: B) := by
  intro i a b d h1 h2 h3 hv hb
  cases i with
  | zero => cases h3; exact hc
  | succ i => exact h i a b d h1 h2 h3 hv hb

theorem snd_facts : ∀ c ∈ sounds, vow c = false ∧ c ≠ 97 ∧ c ≠ 101 ∧ c ≠ 111 ∧ c ≠ 117 ∧ c ≠ 113 ∧ c ≠ 121 ∧ (c ∈ cons19 ∨ c = 223) := by decide
theorem c19_facts : ∀ c ∈ cons19, vow c = false ∧ pl c = c ∧ c ∈ letters ∧ c ≠ 223 ∧ memN c gv = false ∧ memN c cons19 = true := by decide
theorem pre_snd {c : Nat} (h : c ∈ sounds) (B : List Nat) : pre (c :: B) = ss2 [c] ++ pre B := by
  obtain ⟨h1, h2, h3, h4, h5, h6, h7, h8⟩ := snd_facts c h
  have e : ss2 [c] = if c = 223 then [115, 115] else [c] := by unfold ss2 replOne; simp
  rw [e]
  cases B with
  | nil =>
    unfold pre
    split <;> simp
  | cons d r =>
    conv => lhs; unfold pre
    simp only [h2, h4, h5, h6, false_and, if_false]
    split <;> rfl
theorem ss2_cons (c : Nat) (C : List Nat) : ss2 (c :: C) = ss2 [c] ++ ss2 C := by unfold ss2 replOne; simp
theorem ss2_mem {C : List Nat} (h : ∀ c ∈ C, c ∈ sounds) : ∀ x ∈ ss2 C, x ∈ cons19 := by
  intro x hx
  unfold ss2 replOne at hx
  obtain ⟨c, hc, hx⟩ := List.mem_flatMap.mp hx
  split at hx
  · simp at hx; subst hx; decide
  · simp at hx; subst hx
    rcases (snd_facts _ (h _ hc)).2.2.2.2.2.2.2 with k | k
    · exact k
    · contradiction
theorem ss2_pos {C : List Nat} (h : 0 < C.length) : 0 < (ss2 C).length := by
  cases C with
  | nil => cases h
  | cons c C =>
    rw [ss2_cons, List.length_append]
    have : 0 < (ss2 [c]).length := by
      unfold ss2 replOne; simp
      split <;> simp
    omega

noncomputable def tokR (S : List Nat) (t : List Nat × List Nat) : Prop := (∃ x, t = ([x], [x])) ∨ t = ([223], [115, 115]) ∨ ∃ x a y, t = (x :: a, [y]) ∧ x ∈ S ∧ y ∈ [228, 246, 252]
noncomputable def Toks (S : List Nat) (W R : List Nat) : Prop := ∃ L : List (List Nat × List Nat), (∀ t ∈ L, tokR S t) ∧ W.reverse = L.flatMap (·.1) ∧ R.reverse = L.flatMap (·.2)
theorem Toks.app {S W R W' R' : List Nat} (h : Toks S W R) (h' : Toks S W' R') : Toks S (W ++ W') (R ++ R') := by
  obtain ⟨L, a, b, c⟩ := h
  obtain ⟨L', a', b', c'⟩ := h'
  refine ⟨L' ++ L, fun t ht => ?_, ?_, ?_⟩
  · rcases List.mem_append.mp ht with k | k
    · exact a' t k
    · exact a t k
  · rw [List.reverse_append, b, b', List.flatMap_append]
  · rw [List.reverse_append, c, c', List.flatMap_append]
theorem Toks.nil {S : List Nat} : Toks S [] [] := ⟨[], (fun _ h => nomatch h), rfl, rfl⟩
theorem Toks.same {S : List Nat} (x : Nat) : Toks S [x] [x] := ⟨[([x], [x])], fun t h => by simp at h; exact Or.inl ⟨x, h⟩, rfl, rfl⟩
theorem Toks.sharp {S : List Nat} : Toks S [223] [115, 115] := ⟨[([223], [115, 115])], fun t h => by simp at h; exact Or.inr (Or.inl h), rfl, rfl⟩
theorem Toks.um {S : List Nat} {x y : Nat} {a : List Nat} (hx : x ∈ S) (hy : y ∈ [228, 246, 252]) : Toks S (a.reverse ++ [x]) [y] :=
  ⟨[(x :: a, [y])], fun t h => by simp at h; exact Or.inr (Or.inr ⟨x, a, y, h, hx, hy⟩), by simp, rfl⟩
theorem Toks.con {S : List Nat} : ∀ C : List Nat, Toks S C (ss2 C)
  | [] => Toks.nil
  | c :: C => by
    rw [ss2_cons]
    refine Toks.app (W := [c]) ?_ (Toks.con C)
    unfold ss2 replOne
    by_cases h : c = 223
    · subst h; exact Toks.sharp
    · simp [h]; exact Toks.same c

noncomputable def umN (a : Nat) : Bool := a == 228 || a == 246 || a == 252
noncomputable def comp : List Nat → List (List Nat)
  | [] => [[]]
  | [a] => [a] :: (if a = 115 then [[223]] else if umN a then [[]] else [])
  | a :: b :: u => (comp (b :: u)).map (a :: ·) ++ (if a = 115 ∧ b = 115 then (comp u).map (223 :: ·) else if umN a then [[]] else [])
theorem comp_cons {a : Nat} {u w : List Nat} (h : w ∈ comp u) : a :: w ∈ comp (a :: u) := by
  cases u with
  | nil => simp [comp] at h; subst h; simp [comp]
  | cons b u => unfold comp; exact List.mem_append_left _ (List.mem_map.mpr ⟨w, h, rfl⟩)
theorem comp_um {a : Nat} {u : List Nat} (h : a ∈ [228, 246, 252]) : [] ∈ comp (a :: u) := by
  have h1 : a ≠ 115 := by rintro rfl; simp at h
  have h2 : umN a = true := by
    simp only [List.mem_cons, List.not_mem_nil, or_false] at h
    rcases h with rfl | rfl | rfl <;> rfl
  cases u with
  | nil => simp [comp, h1, h2]
  | cons b u => unfold comp; simp [h1, h2]
theorem comp_ok {S : List Nat} : ∀ {L : List (List Nat × List Nat)} {u : List Nat}, (∀ t ∈ L, tokR S t) → pfx u (L.flatMap (·.2)) = true → ∃ w ∈ comp u, pfx w (L.flatMap (·.1)) = true
  | _, [], _, _ => ⟨[], by simp [comp], by simp [pfx]⟩
  | [], a :: u, _, h => by simp [pfx] at h
  | t :: L, a :: u, hL, h => by
    rw [List.flatMap_cons] at h ⊢
    rcases hL t (.head _) with ⟨x, rfl⟩ | rfl | ⟨x, a', y, rfl, hx, hy⟩
    · simp only [List.cons_append, List.nil_append, pfx, Bool.and_eq_true, decide_eq_true_eq] at h ⊢
      obtain ⟨w, hw, hp⟩ := comp_ok (u := u) (fun t ht => hL t (.tail _ ht)) h.2
      exact ⟨a :: w, comp_cons hw, by simp [pfx, h.1, hp]⟩
    · simp only [List.cons_append, List.nil_append, pfx, Bool.and_eq_true, decide_eq_true_eq] at h ⊢
      obtain ⟨rfl, h⟩ := h
      cases u with
      | nil => exact ⟨[223], by simp [comp], by simp [pfx]⟩
      | cons b u =>
        simp only [pfx, Bool.and_eq_true, decide_eq_true_eq] at h
        obtain ⟨rfl, h⟩ := h
        obtain ⟨w, hw, hp⟩ := comp_ok (u := u) (fun t ht => hL t (.tail _ ht)) h
        exact ⟨223 :: w, by unfold comp; exact List.mem_append_right _ (by simp only [and_self, if_true]; exact List.mem_map.mpr ⟨w, hw, rfl⟩), by simp [pfx, hp]⟩
    · simp only [List.cons_append, List.nil_append, pfx, Bool.and_eq_true, decide_eq_true_eq] at h
      exact ⟨[], comp_um (h.1 ▸ hy), by simp [pfx]⟩
theorem comp_back {S : List Nat} : ∀ {L : List (List Nat × List Nat)} {u : List Nat}, (∀ t ∈ L, tokR S t) → (∀ c ∈ u, c ≠ 223 ∧ c ∉ S) → pfx u (L.flatMap (·.1)) = true → pfx u (L.flatMap (·.2)) = true
  | _, [], _, _, _ => by simp [pfx]
  | [], a :: u, _, _, h => by simp [pfx] at h
  | t :: L, a :: u, hL, hu, h => by
    rw [List.flatMap_cons] at h ⊢
    rcases hL t (.head _) with ⟨x, rfl⟩ | rfl | ⟨x, a', y, rfl, hx, hy⟩
    · simp only [List.cons_append, List.nil_append, pfx, Bool.and_eq_true, decide_eq_true_eq] at h ⊢
      exact ⟨h.1, comp_back (fun t ht => hL t (.tail _ ht)) (fun c hc => hu c (.tail _ hc)) h.2⟩
    · simp only [List.cons_append, List.nil_append, pfx, Bool.and_eq_true, decide_eq_true_eq] at h
      exact absurd h.1 (hu a (.head _)).1
    · simp only [List.cons_append, pfx, Bool.and_eq_true, decide_eq_true_eq] at h
      exact absurd (h.1 ▸ hx) (hu a (.head _)).2

/-- a piece of a root: as it stands, behind the prelude, without its dots, and told -/
structure Pc (A R W T : List Nat) : Prop where
  pre : ∀ B, pre (A ++ B) = R ++ pre B
  calm : ∀ B, calm B → calm (A ++ B)
  chn : ∀ Q, (∀ l, chn letters l Q) → ∀ l, chn letters l (R.reverse ++ Q)
  tokA : Toks [101] A R
  tokW : Toks [97, 101, 111, 117] W R
  told : R.map pl = T

theorem Pc.app {A R W T A' R' W' T' : List Nat} (h : Pc A R W T) (h' : Pc A' R' W' T') : Pc (A ++ A') (R ++ R') (W ++ W') (T ++ T') := by
  refine ⟨fun B => ?_, fun B hB => ?_, fun Q hQ l => ?_, h.tokA.app h'.tokA, h.tokW.app h'.tokW, ?_⟩
  · rw [List.append_assoc, h.pre, h'.pre, List.append_assoc]
  · rw [List.append_assoc]; exact h.calm _ (h'.calm _ hB)
  · rw [List.reverse_append, List.append_assoc]
    exact h'.chn _ (h.chn _ hQ) l
  · rw [List.map_append, h.told, h'.told]
theorem near_con {l : Option Nat} {c : Nat} (h : c ∈ cons19) : near l c = true := by
  obtain ⟨_, _, _, _, h1, h2⟩ := c19_facts c h
  cases l with
  | none => exact h2
  | some x =>
    unfold near
    dsimp only
    rw [h1]
    cases memN x gv <;> rfl
theorem chn_con {C Q : List Nat} (hC : ∀ c ∈ C, c ∈ cons19) (hQ : ∀ l, chn letters l Q) : ∀ l, chn letters l (C ++ Q) := by
  induction C with
  | nil => exact hQ
  | cons c C ih =>
    intro l
    exact ⟨(c19_facts c (hC c (.head _))).2.2.1, near_con (hC c (.head _)), ih (fun x hx => hC x (.tail _ hx)) _⟩
theorem chn_con1 {C Q : List Nat} (hp : 0 < C.length) (hC : ∀ c ∈ C, c ∈ cons19) (hQ : ∀ x ∈ cons19, chn letters (some x) Q) : ∀ l, chn letters l (C ++ Q) := by
  induction C with
  | nil => cases hp
  | cons c C ih =>
    intro l
    refine ⟨(c19_facts c (hC c (.head _))).2.2.1, near_con (hC c (.head _)), ?_⟩
    cases C with
    | nil => exact hQ c (hC c (.head _))
    | cons d C => exact ih (by simp) (fun x hx => hC x (.tail _ hx)) _
theorem pc_con {C : List Nat} (h : ∀ c ∈ C, c ∈ sounds) : Pc C (ss2 C) C (ss2 C) := by
  refine ⟨fun B => ?_, fun B hB => ?_, fun Q hQ l => ?_, Toks.con C, Toks.con C, ?_⟩
  · induction C with
    | nil => rfl
    | cons c C ih =>
      rw [List.cons_append, pre_snd (h c (.head _)), ih fun x hx => h x (.tail _ hx), ss2_cons c C, List.append_assoc]
  · induction C with
    | nil => exact hB
    | cons c C ih => exact calm_con (snd_facts c (h c (.head _))).1 (ih fun x hx => h x (.tail _ hx))
  · exact chn_con (fun c hc => ss2_mem h c (List.mem_reverse.mp hc)) hQ l
  · conv => rhs; rw [← List.map_id (ss2 C)]
    exact List.map_congr_left fun c hc => (c19_facts c (ss2_mem h c hc)).2.1

/-- the vowels: dotted, behind the prelude, without dots, told -/
noncomputable def trips : List (List Nat × List Nat × List Nat × List Nat) := [([97], [97], [97], [97]), ([228], [228], [97], [97]), ([97, 101], [228], [97], [97]), ([101], [101], [101], [101]), ([105], [105], [105], [105]), ([111], [111], [111], [111]), ([246], [246], [111], [111]), ([111, 101], [246], [111], [111]), ([117], [117], [117], [117]), ([252], [252], [117], [117]), ([117, 101], [252], [117], [117]), ([121], [121], [121], [121]), ([228], [228], [228], [97]), ([246], [246], [246], [111]), ([252], [252], [252], [117]), ([97, 97], [97, 97], [97, 97], [97, 97]), ([101, 101], [101, 101], [101, 101], [101, 101]), ([111, 111], [111, 111], [111, 111], [111, 111]), ([97, 105], [97, 105], [97, 105], [97, 105]), ([97, 117], [97, 117], [97, 117], [97, 117]), ([228, 117], [228, 117], [97, 117], [97, 117]), ([97, 101, 117], [228, 117], [97, 117], [97, 117]), ([101, 105], [101, 105], [101, 105], [101, 105]), ([101, 117], [101, 117], [101, 117], [101, 117]), ([105, 101], [105, 101], [105, 101], [105, 101]), ([228, 117], [228, 117], [228, 117], [97, 117]), ([97, 101], [228], [97, 101], [97]), ([111, 101], [246], [111, 101], [111]), ([117, 101], [252], [117, 101], [117])]
theorem trips_all {w : List Nat × List Nat} (h : w ∈ vowels) : (w.1, pre w.1, w.1, w.2) ∈ trips ∧ (dotOf w.1 0, pre (dotOf w.1 0), w.1, w.2) ∈ trips ∧ (dotOf w.1 1, pre (dotOf w.1 1), w.1, w.2) ∈ trips ∧ (dotOf w.1 2, pre (dotOf w.1 2), w.1, w.2) ∈ trips := by
  have : (vowels.all fun w => trips.contains (w.1, pre w.1, w.1, w.2) && trips.contains (dotOf w.1 0, pre (dotOf w.1 0), w.1, w.2) && trips.contains (dotOf w.1 1, pre (dotOf w.1 1), w.1, w.2) && trips.contains (dotOf w.1 2, pre (dotOf w.1 2), w.1, w.2)) = true := by decide +kernel
  have := List.all_eq_true.mp this w h
  simp only [Bool.and_eq_true, List.contains_iff_mem] at this
  exact ⟨this.1.1.1, this.1.1.2, this.1.2, this.2⟩
theorem dot_trip {w : List Nat × List Nat} (h : w ∈ vowels) (z : Int) : (dotOf w.1 z, pre (dotOf w.1 z), w.1, w.2) ∈ trips := by
  have h0 : 0 ≤ z.fmod 3 := Int.fmod_nonneg_of_pos _ (by decide)
  have h1 : z.fmod 3 < 3 := Int.fmod_lt_of_pos _ (by decide)
  obtain ⟨_, k0, k1, k2⟩ := trips_all h
  have : dotOf w.1 z = dotOf w.1 (z.fmod 3) := by
    unfold dotOf
    rw [Int.fmod_fmod]
  rw [this]
  rcases (show z.fmod 3 = 0 ∨ z.fmod 3 = 1 ∨ z.fmod 3 = 2 by omega) with k | k | k <;> rw [k] <;> assumption
theorem same_trip {w : List Nat × List Nat} (h : w ∈ vowels) : (w.1, pre w.1, w.1, w.2) ∈ trips := (trips_all h).1

/-- what each vowel brings -/
structure Vo (t : List Nat × List Nat × List Nat × List Nat) : Prop where
  pre : ∀ c B, c ≠ 101 → c ≠ 111 → c ≠ 117 → pre (t.1 ++ (c :: B)) = t.2.1 ++ Mine.pre (c :: B)
  calm : ∀ c B, vow c = false → c ≠ 117 ∧ c ≠ 121 → calm (c :: B) → Mine.calm (t.1 ++ (c :: B))
  chn : ∀ c Q, c ∈ cons19 → (∀ l, chn letters l Q) → Mine.chn letters (some c) (t.2.1.reverse ++ Q)
  tokA : Toks [101] t.1 t.2.1
  tokW : Toks [97, 101, 111, 117] t.2.2.1 t.2.1
theorem near_vow {c x : Nat} (h : c ∈ cons19) : near (some c) x = true := by
  unfold near
  dsimp only
  rw [(c19_facts c h).2.2.2.2.1]
theorem vo_calm1 {x : Nat} : ∀ c B, vow c = false → c ≠ 117 ∧ c ≠ 121 → calm (c :: B) → Mine.calm ([x] ++ (c :: B)) := fun c B _ h2 h => calm_v h2 h
theorem vo_calm2 {x y : Nat} : ∀ c B, vow c = false → c ≠ 117 ∧ c ≠ 121 → calm (c :: B) → Mine.calm ([x, y] ++ (c :: B)) := fun c B h1 h2 h => calm_vv h1 (calm_v h2 h)
theorem vo_chn1 {x : Nat} (hx : x ∈ letters) : ∀ c Q, c ∈ cons19 → (∀ l, chn letters l Q) → Mine.chn letters (some c) (([x] : List Nat).reverse ++ Q) := fun c Q h hQ => ⟨hx, near_vow h, hQ _⟩
theorem vo_chn2 {x y : Nat} (hx : x ∈ letters) (hy : y ∈ letters) (h2 : near (some y) x = true) : ∀ c Q, c ∈ cons19 → (∀ l, chn letters l Q) → Mine.chn letters (some c) (([x, y] : List Nat).reverse ++ Q) := fun c Q h hQ => ⟨hy, near_vow h, hx, h2, hQ _⟩
theorem tok2 {S : List Nat} (x y : Nat) : Toks S [x, y] [x, y] := Toks.app (Toks.same x) (Toks.same y)
theorem tokU {S : List Nat} (x y : Nat) (hx : x ∈ S) (hy : y ∈ [228, 246, 252]) : Toks S [x] [y] := Toks.um (a := []) hx hy
theorem tokE {S : List Nat} (a x y : Nat) (hx : x ∈ S) (hy : y ∈ [228, 246, 252]) : Toks S [a, x] [y] := Toks.um (a := [a]) hx hy
theorem vo_0 : Vo ([97], [97], [97], [97]) := ⟨fun c B h1 h2 h3 => by simp [Mine.pre, h1, h2, h3], vo_calm1, vo_chn1 (by decide), Toks.same _, Toks.same _⟩
theorem vo_1 : Vo ([228], [228], [97], [97]) := ⟨fun c B h1 h2 h3 => by simp [Mine.pre, h1, h2, h3], vo_calm1, vo_chn1 (by decide), Toks.same _, tokU _ _ (by decide) (by decide)⟩
theorem vo_2 : Vo ([97, 101], [228], [97], [97]) := ⟨fun c B h1 h2 h3 => by simp [Mine.pre, h1, h2, h3], vo_calm2, vo_chn1 (by decide), tokE _ _ _ (by decide) (by decide), tokU _ _ (by decide) (by decide)⟩
theorem vo_3 : Vo ([101], [101], [101], [101]) := ⟨fun c B h1 h2 h3 => by simp [Mine.pre, h1, h2, h3], vo_calm1, vo_chn1 (by decide), Toks.same _, Toks.same _⟩
theorem vo_4 : Vo ([105], [105], [105], [105]) := ⟨fun c B h1 h2 h3 => by simp [Mine.pre, h1, h2, h3], vo_calm1, vo_chn1 (by decide), Toks.same _, Toks.same _⟩
theorem vo_5 : Vo ([111], [111], [111], [111]) := ⟨fun c B h1 h2 h3 => by simp [Mine.pre, h1, h2, h3], vo_calm1, vo_chn1 (by decide), Toks.same _, Toks.same _⟩
theorem vo_6 : Vo ([246], [246], [111], [111]) := ⟨fun c B h1 h2 h3 => by simp [Mine.pre, h1, h2, h3], vo_calm1, vo_chn1 (by decide), Toks.same _, tokU _ _ (by decide) (by decide)⟩
theorem vo_7 : Vo ([111, 101], [246], [111], [111]) := ⟨fun c B h1 h2 h3 => by simp [Mine.pre, h1, h2, h3], vo_calm2, vo_chn1 (by decide), tokE _ _ _ (by decide) (by decide), tokU _ _ (by decide) (by decide)⟩
theorem vo_8 : Vo ([117], [117], [117], [117]) := ⟨fun c B h1 h2 h3 => by simp [Mine.pre, h1, h2, h3], vo_calm1, vo_chn1 (by decide), Toks.same _, Toks.same _⟩
theorem vo_9 : Vo ([252], [252], [117], [117]) := ⟨fun c B h1 h2 h3 => by simp [Mine.pre, h1, h2, h3], vo_calm1, vo_chn1 (by decide), Toks.same _, tokU _ _ (by decide) (by decide)⟩
theorem vo_10 : Vo ([117, 101], [252], [117], [117]) := ⟨fun c B h1 h2 h3 => by simp [Mine.pre, h1, h2, h3], vo_calm2, vo_chn1 (by decide), tokE _ _ _ (by decide) (by decide), tokU _ _ (by decide) (by decide)⟩
theorem vo_11 : Vo ([121], [121], [121], [121]) := ⟨fun c B h1 h2 h3 => by simp [Mine.pre, h1, h2, h3], vo_calm1, vo_chn1 (by decide), Toks.same _, Toks.same _⟩
theorem vo_12 : Vo ([228], [228], [228], [97]) := ⟨fun c B h1 h2 h3 => by simp [Mine.pre, h1, h2, h3], vo_calm1, vo_chn1 (by decide), Toks.same _, Toks.same _⟩
theorem vo_13 : Vo ([246], [246], [246], [111]) := ⟨fun c B h1 h2 h3 => by simp [Mine.pre, h1, h2, h3], vo_calm1, vo_chn1 (by decide), Toks.same _, Toks.same _⟩
theorem vo_14 : Vo ([252], [252], [252], [117]) := ⟨fun c B h1 h2 h3 => by simp [Mine.pre, h1, h2, h3], vo_calm1, vo_chn1 (by decide), Toks.same _, Toks.same _⟩
theorem vo_15 : Vo ([97, 97], [97, 97], [97, 97], [97, 97]) := ⟨fun c B h1 h2 h3 => by simp [Mine.pre, h1, h2, h3], vo_calm2, vo_chn2 (by decide) (by decide) (by decide), tok2 _ _, tok2 _ _⟩
theorem vo_16 : Vo ([101, 101], [101, 101], [101, 101], [101, 101]) := ⟨fun c B h1 h2 h3 => by simp [Mine.pre, h1, h2, h3], vo_calm2, vo_chn2 (by decide) (by decide) (by decide), tok2 _ _, tok2 _ _⟩
theorem vo_17 : Vo ([111, 111], [111, 111], [111, 111], [111, 111]) := ⟨fun c B h1 h2 h3 => by simp [Mine.pre, h1, h2, h3], vo_calm2, vo_chn2 (by decide) (by decide) (by decide), tok2 _ _, tok2 _ _⟩
theorem vo_18 : Vo ([97, 105], [97, 105], [97, 105], [97, 105]) := ⟨fun c B h1 h2 h3 => by simp [Mine.pre, h1, h2, h3], vo_calm2, vo_chn2 (by decide) (by decide) (by decide), tok2 _ _, tok2 _ _⟩
theorem vo_19 : Vo ([97, 117], [97, 117], [97, 117], [97, 117]) := ⟨fun c B h1 h2 h3 => by simp [Mine.pre, h1, h2, h3], vo_calm2, vo_chn2 (by decide) (by decide) (by decide), tok2 _ _, tok2 _ _⟩
theorem vo_20 : Vo ([228, 117], [228, 117], [97, 117], [97, 117]) := ⟨fun c B h1 h2 h3 => by simp [Mine.pre, h1, h2, h3], vo_calm2, vo_chn2 (by decide) (by decide) (by decide), tok2 _ _, Toks.app (W := [97]) (R := [228]) (tokU _ _ (by decide) (by decide)) (Toks.same 117)⟩
theorem vo_21 : Vo ([97, 101, 117], [228, 117], [97, 117], [97, 117]) := ⟨fun c B h1 h2 h3 => by simp [Mine.pre, h1, h2, h3], fun c B h1 h2 h => calm_v (by decide) (calm_vv h1 (calm_v h2 h)), vo_chn2 (by decide) (by decide) (by decide), Toks.app (W := [97, 101]) (R := [228]) (tokE _ _ _ (by decide) (by decide)) (Toks.same 117), Toks.app (W := [97]) (R := [228]) (tokU _ _ (by decide) (by decide)) (Toks.same 117)⟩
theorem vo_22 : Vo ([101, 105], [101, 105], [101, 105], [101, 105]) := ⟨fun c B h1 h2 h3 => by simp [Mine.pre, h1, h2, h3], vo_calm2, vo_chn2 (by decide) (by decide) (by decide), tok2 _ _, tok2 _ _⟩
theorem vo_23 : Vo ([101, 117], [101, 117], [101, 117], [101, 117]) := ⟨fun c B h1 h2 h3 => by simp [Mine.pre, h1, h2, h3], vo_calm2, vo_chn2 (by decide) (by decide) (by decide), tok2 _ _, tok2 _ _⟩
theorem vo_24 : Vo ([105, 101], [105, 101], [105, 101], [105, 101]) := ⟨fun c B h1 h2 h3 => by simp [Mine.pre, h1, h2, h3], vo_calm2, vo_chn2 (by decide) (by decide) (by decide), tok2 _ _, tok2 _ _⟩
theorem vo_25 : Vo ([228, 117], [228, 117], [228, 117], [97, 117]) := ⟨fun c B h1 h2 h3 => by simp [Mine.pre, h1, h2, h3], vo_calm2, vo_chn2 (by decide) (by decide) (by decide), tok2 _ _, tok2 _ _⟩
theorem vo_26 : Vo ([97, 101], [228], [97, 101], [97]) := ⟨fun c B h1 h2 h3 => by simp [Mine.pre, h1, h2, h3], vo_calm2, vo_chn1 (by decide), tokE _ _ _ (by decide) (by decide), tokE _ _ _ (by decide) (by decide)⟩
theorem vo_27 : Vo ([111, 101], [246], [111, 101], [111]) := ⟨fun c B h1 h2 h3 => by simp [Mine.pre, h1, h2, h3], vo_calm2, vo_chn1 (by decide), tokE _ _ _ (by decide) (by decide), tokE _ _ _ (by decide) (by decide)⟩
theorem vo_28 : Vo ([117, 101], [252], [117, 101], [117]) := ⟨fun c B h1 h2 h3 => by simp [Mine.pre, h1, h2, h3], vo_calm2, vo_chn1 (by decide), tokE _ _ _ (by decide) (by decide), tokE _ _ _ (by decide) (by decide)⟩
theorem vo_all : ∀ t ∈ trips, Vo t := by
  intro t ht
  simp only [trips, List.mem_cons, List.not_mem_nil, or_false] at ht
  rcases ht with rfl | rfl | rfl | rfl | rfl | rfl | rfl | rfl | rfl | rfl | rfl | rfl | rfl | rfl | rfl | rfl | rfl | rfl | rfl | rfl | rfl | rfl | rfl | rfl | rfl | rfl | rfl | rfl | rfl
  · exact vo_0
  · exact vo_1
  · exact vo_2
  · exact vo_3
  · exact vo_4
  · exact vo_5
  · exact vo_6
  · exact vo_7
  · exact vo_8
  · exact vo_9
  · exact vo_10
  · exact vo_11
  · exact vo_12
  · exact vo_13
  · exact vo_14
  · exact vo_15
  · exact vo_16
  · exact vo_17
  · exact vo_18
  · exact vo_19
  · exact vo_20
  · exact vo_21
  · exact vo_22
  · exact vo_23
  · exact vo_24
  · exact vo_25
  · exact vo_26
  · exact vo_27
  · exact vo_28

theorem trip_facts : ∀ t ∈ trips, (t.2.1.map pl = t.2.2.2) ∧ (∀ c ∈ t.2.1, vow c = true) ∧ 0 < t.2.1.length ∧ t.1.length ≤ 3 ∧ t.2.1.length ≤ 2 := by decide
/-- a vowel with consonants behind it -/
theorem pc_syl {t : List Nat × List Nat × List Nat × List Nat} (ht : t ∈ trips) {C : List Nat} (h : ∀ c ∈ C, c ∈ sounds) (hp : 0 < C.length) : Pc (t.1 ++ C) (t.2.1 ++ ss2 C) (t.2.2.1 ++ C) (t.2.2.2 ++ ss2 C) := by
  have P := pc_con h
  have V := vo_all t ht
  have hl := ss2_pos hp
  have hm := ss2_mem h
  obtain ⟨c, C, rfl⟩ : ∃ c C', C = c :: C' := by
    cases C with
    | nil => cases hp
    | cons c C => exact ⟨c, C, rfl⟩
  obtain ⟨f1, f2, f3, f4, f5, f6, f7, f8⟩ := snd_facts c (h c (.head _))
  refine ⟨fun B => ?_, fun B hB => ?_, fun Q hQ l => ?_, V.tokA.app P.tokA, V.tokW.app P.tokW, ?_⟩
  · rw [List.append_assoc, List.cons_append, V.pre c _ f3 f4 f5, ← List.cons_append, P.pre, List.append_assoc]
  · rw [List.append_assoc, List.cons_append]
    exact V.calm c _ f1 ⟨f5, f7⟩ (P.calm B hB)
  · rw [List.reverse_append, List.append_assoc]
    exact chn_con1 (by rw [List.length_reverse]; exact hl) (fun x hx => hm x (List.mem_reverse.mp hx)) (fun x hx => V.chn x Q hx hQ) l
  · rw [List.map_append, P.told, (trip_facts t ht).1]
end Mine
namespace Mine
open PySem PySem.W PySem.Calls PyProof.Rows
set_option autoImplicit false
set_option maxRecDepth 100000
theorem k_bare : bareAll = true := by decide +kernel
theorem k_none0 : famAll 0 none none = true := by decide +kernel
theorem k_none2 : famAll 2 none none = true := by decide +kernel
theorem k_none3 : famAll 3 none none = true := by decide +kernel
theorem k_none5 : famAll 5 none none = true := by decide +kernel
theorem k_none6 : famAll 6 none none = true := by decide +kernel
theorem k_none7 : famAll 7 none none = true := by decide +kernel
theorem k_none20 : famAll 20 none none = true := by decide +kernel
theorem k_none21 : famAll 21 none none = true := by decide +kernel
theorem k_none22 : famAll 22 none none = true := by decide +kernel
theorem k_none23 : famAll 23 none none = true := by decide +kernel
theorem k_none28 : famAll 28 none none = true := by decide +kernel
theorem k_none30 : famAll 30 none none = true := by decide +kernel
theorem k_none31 : famAll 31 none none = true := by decide +kernel
theorem k_none33 : famAll 33 none none = true := by decide +kernel
theorem k_none : (([0, 2, 3, 5, 6, 7, 20, 21, 22, 23, 28, 30, 31, 33] : List Nat).all fun i => famAll i none none) = true := by
  simp only [List.all_cons, List.all_nil, k_none0, k_none2, k_none3, k_none5, k_none6, k_none7, k_none20, k_none21, k_none22, k_none23, k_none28, k_none30, k_none31, k_none33, Bool.and_self]
theorem k_oneT : famAll 1 none (some true) = true := by decide +kernel
theorem k_oneF : famAll 1 none (some false) = true := by decide +kernel
theorem k_one : (famAll 1 none (some true) && famAll 1 none (some false)) = true := by
  rw [k_oneT, k_oneF]; rfl
theorem k_true4 : famAll 4 (some true) none = true := by decide +kernel
theorem k_true8 : famAll 8 (some true) none = true := by decide +kernel
theorem k_true9 : famAll 9 (some true) none = true := by decide +kernel
theorem k_true10 : famAll 10 (some true) none = true := by decide +kernel
theorem k_true11 : famAll 11 (some true) none = true := by decide +kernel
theorem k_true12 : famAll 12 (some true) none = true := by decide +kernel
theorem k_true13 : famAll 13 (some true) none = true := by decide +kernel
theorem k_true14 : famAll 14 (some true) none = true := by decide +kernel
theorem k_true15 : famAll 15 (some true) none = true := by decide +kernel
theorem k_true16 : famAll 16 (some true) none = true := by decide +kernel
theorem k_true17 : famAll 17 (some true) none = true := by decide +kernel
theorem k_true18 : famAll 18 (some true) none = true := by decide +kernel
theorem k_true19 : famAll 19 (some true) none = true := by decide +kernel
theorem k_true24 : famAll 24 (some true) none = true := by decide +kernel
theorem k_true25 : famAll 25 (some true) none = true := by decide +kernel
theorem k_true26 : famAll 26 (some true) none = true := by decide +kernel
theorem k_true27 : famAll 27 (some true) none = true := by decide +kernel
theorem k_true29 : famAll 29 (some true) none = true := by decide +kernel
theorem k_true32 : famAll 32 (some true) none = true := by decide +kernel
theorem k_true : (([4, 8, 9, 10, 11, 12, 13, 14, 15, 16, 17, 18, 19, 24, 25, 26, 27, 29, 32] : List Nat).all fun i => famAll i (some true) none) = true := by
  simp only [List.all_cons, List.all_nil, k_true4, k_true8, k_true9, k_true10, k_true11, k_true12, k_true13, k_true14, k_true15, k_true16, k_true17, k_true18, k_true19, k_true24, k_true25, k_true26, k_true27, k_true29, k_true32, Bool.and_self]
theorem k_false4 : famAll 4 (some false) none = true := by decide +kernel
theorem k_false8 : famAll 8 (some false) none = true := by decide +kernel
theorem k_false9 : famAll 9 (some false) none = true := by decide +kernel
theorem k_false10 : famAll 10 (some false) none = true := by decide +kernel
theorem k_false11 : famAll 11 (some false) none = true := by decide +kernel
theorem k_false12 : famAll 12 (some false) none = true := by decide +kernel
theorem k_false13 : famAll 13 (some false) none = true := by decide +kernel
theorem k_false14 : famAll 14 (some false) none = true := by decide +kernel
theorem k_false15 : famAll 15 (some false) none = true := by decide +kernel
theorem k_false16 : famAll 16 (some false) none = true := by decide +kernel
theorem k_false17 : famAll 17 (some false) none = true := by decide +kernel
theorem k_false18 : famAll 18 (some false) none = true := by decide +kernel
theorem k_false19 : famAll 19 (some false) none = true := by decide +kernel
theorem k_false24 : famAll 24 (some false) none = true := by decide +kernel
theorem k_false25 : famAll 25 (some false) none = true := by decide +kernel
theorem k_false26 : famAll 26 (some false) none = true := by decide +kernel
theorem k_false27 : famAll 27 (some false) none = true := by decide +kernel
theorem k_false29 : famAll 29 (some false) none = true := by decide +kernel
theorem k_false32 : famAll 32 (some false) none = true := by decide +kernel
theorem k_false : (([4, 8, 9, 10, 11, 12, 13, 14, 15, 16, 17, 18, 19, 24, 25, 26, 27, 29, 32] : List Nat).all fun i => famAll i (some false) none) = true := by
  simp only [List.all_cons, List.all_nil, k_false4, k_false8, k_false9, k_false10, k_false11, k_false12, k_false13, k_false14, k_false15, k_false16, k_false17, k_false18, k_false19, k_false24, k_false25, k_false26, k_false27, k_false29, k_false32, Bool.and_self]
theorem k_late : (lateAll true none && lateAll false none) = true := by decide +kernel
theorem k_low : (([0, 1, 2, 3, 5, 6, 7, 20, 21, 22, 23, 28, 30, 31, 33] : List Nat).all fun i => (famAt i).1 == (famAt i).2.1) = true := by decide +kernel
end Mine
namespace Mine
open PySem PySem.W PySem.Calls PyProof.Rows
set_option autoImplicit false
set_option maxRecDepth 100000

theorem pfx_iff : ∀ {u t : List Nat}, pfx u t = true ↔ u <+: t
  | [], t => by simp [pfx]
  | a :: u, [] => by simp [pfx]
  | a :: u, b :: t => by
    simp only [pfx, Bool.and_eq_true, decide_eq_true_eq]
    rw [pfx_iff (u := u) (t := t), List.cons_prefix_cons]
theorem endsW_pfx (a b : List Nat) : endsW a b = pfx b.reverse a.reverse := by
  have : endsW a b = true ↔ pfx b.reverse a.reverse = true := by
    rw [pfx_iff, List.reverse_prefix]
    unfold endsW
    simp only [Bool.and_eq_true, decide_eq_true_eq, beq_iff_eq]
    constructor
    · rintro ⟨h1, h2⟩; rw [← h2]; exact List.drop_suffix _ _
    · rintro ⟨c, rfl⟩
      exact ⟨by simp, by simp⟩
  cases q : pfx b.reverse a.reverse with
  | true => exact this.mpr q
  | false =>
    cases q' : endsW a b with
    | false => rfl
    | true => rw [this.mp q'] at q; cases q

/-- the told endings of the three words that keep -et -/
theorem same_end {A R : List Nat} (h : Toks [101] A R) {u : List Nat} (hu : ∀ c ∈ u, c ≠ 223 ∧ c ∉ ([101] : List Nat)) (hc : comp u = [u]) : pfx u A.reverse = pfx u R.reverse := by
  obtain ⟨L, hL, h1, h2⟩ := h
  rw [h1, h2]
  cases q : pfx u (L.flatMap (·.1)) with
  | true => exact (comp_back hL hu q).symm
  | false =>
    cases q2 : pfx u (L.flatMap (·.2)) with
    | false => rfl
    | true =>
      obtain ⟨w, hw, hp⟩ := comp_ok hL q2
      rw [hc] at hw
      simp at hw; subst hw
      rw [q] at hp; cases hp
theorem shut_comp : (shut.all fun u => (comp u).all fun w => closed.any fun e => pfx e.reverse w) = true ∧ ∀ u ∈ shut, ∀ t, pfx u (98 :: t) = false := by
  refine ⟨by decide +kernel, fun u hu t => ?_⟩
  have : ∀ u ∈ shut, u.head? ≠ none ∧ u.head? ≠ some 98 := by decide +kernel
  have h := this u hu
  cases u with
  | nil => exact absurd rfl h.1
  | cons a u =>
    have : a ≠ 98 := fun k => h.2 (by rw [k]; rfl)
    simp [pfx, this]
theorem not_shut {W R : List Nat} (h : Toks [97, 101, 111, 117] W R) (hc : closed.any (fun e => endsW W e) = false) : ∀ u ∈ shut, pfx u R.reverse = false := by
  intro u hu
  cases q : pfx u R.reverse with
  | false => rfl
  | true =>
    obtain ⟨L, hL, h1, h2⟩ := h
    rw [h2] at q
    obtain ⟨w, hw, hp⟩ := comp_ok hL q
    have := List.all_eq_true.mp (List.all_eq_true.mp shut_comp.1 u hu) w hw
    obtain ⟨e, he, hpe⟩ := List.any_eq_true.mp this
    have hb := List.any_eq_false.mp hc e he
    rw [endsW_pfx, h1] at hb
    exact absurd (pfx_iff.mpr ((pfx_iff.mp hpe).trans (pfx_iff.mp hp))) hb

/-- no u or y between vowels, by computing -/
noncomputable def calmB : List Nat → Bool
  | a :: b :: c :: r => !(vow a && (Nat.beq b 117 || Nat.beq b 121) && vow c) && calmB (b :: c :: r)
  | _ => true
theorem calmB_ok : ∀ {t : List Nat}, calmB t = true → calm t
  | [], _ => calm_nil
  | [x], _ => calm_one x
  | [x, y], _ => fun i a b c h1 h2 h3 => by cases i <;> cases h3
  | a :: b :: c :: r, h => by
    unfold calmB at h
    simp only [Bool.and_eq_true, Bool.not_eq_true'] at h
    have ih := calmB_ok h.2
    intro i x y z h1 h2 h3 hv hb
    cases i with
    | zero =>
      cases h1; cases h2; cases h3
      have h := h.1
      rw [hv, Bool.true_and] at h
      have hb' : (Nat.beq b 117 || Nat.beq b 121) = true := by
        rcases hb with hb | hb <;> rw [hb] <;> rfl
      rw [hb', Bool.true_and] at h
      exact h
    | succ i => exact ih i x y z h1 h2 h3 hv hb
theorem pre_nil : pre [] = [] := rfl
theorem forms_fine : ((List.range 34).all fun i => (famAt i).2.2.all fun f => pre f.1 == f.1 && calmB f.1 && decide (f.1.length ≤ 20)) = true := by decide +kernel
theorem lates_fine : (late.all fun l => marks.all fun m => pre (l ++ m) == l ++ m && calmB (l ++ m) && decide ((l ++ m).length ≤ 20)) = true := by decide +kernel

/-- a word's stem, when the search has spoken -/
theorem stem_of {root R W stem e tl : List Nat} (H : Pc root R W stem) (he : pre e = e) (hT : Told (regs (R ++ e)).1 (regs (R ++ e)).2 e.reverse R.reverse tl) : stemText (root ++ e) = stem ++ tl := by
  obtain ⟨y, hy, hm⟩ := hT
  unfold stemText
  rw [H.pre, he, List.reverse_append, hy, List.reverse_append, List.reverse_reverse, List.map_append, H.told, hm]

/-- what a deep root has -/
structure Deep (root R W stem : List Nat) (depth : Nat) : Prop where
  pc : Pc root R W stem
  len : 3 ≤ R.length
  last : ∃ c P, R.reverse = c :: P ∧ c ∈ cons19
  shut : ∀ u ∈ shut, pfx u R.reverse = false
  r1 : ∀ e, (regs (R ++ e)).1 ≤ (R.length : Int)
  r2 : depth ≠ 1 → ∀ e, (regs (R ++ e)).2 ≤ (R.length : Int)
  r3 : depth = 1 → ∀ e, (regs (R ++ e)).2 = (R.length : Int) + (qreg e).1
theorem Deep.good {root R W stem : List Nat} {depth : Nat} (D : Deep root R W stem depth) : goodP letters Mine.shut none R.reverse = true := by
  have := D.pc.chn [] (fun _ => trivial) none
  rw [List.append_nil] at this
  exact good_of this D.shut

theorem late_mem {i j : Nat} (hi : i < 14) (hj : j < 3) : late.getD i [] ∈ late ∧ marks.getD j [] ∈ marks :=
  ⟨List.mem_of_getElem? (late_get hi), List.mem_of_getElem? (marks_get hj)⟩

theorem deep_late {root R W stem l mk : List Nat} {depth : Nat} (D : Deep root R W stem depth) (hl : l ∈ late) (hm : mk ∈ marks) : stemText (root ++ l ++ mk) = stem ++ l := by
  have hk : lateAll false none = true := (Bool.and_eq_true _ _ ▸ k_late).2
  have hs := List.all_eq_true.mp (List.all_eq_true.mp hk l hl) mk hm
  have hf := List.all_eq_true.mp (List.all_eq_true.mp lates_fine l hl) mk hm
  simp only [Bool.and_eq_true, beq_iff_eq] at hf
  rw [List.append_assoc]
  have hlen := D.len
  refine stem_of D.pc hf.1.1 ?_
  have O : (tt false (qreg (l ++ mk)).1 (qreg (l ++ mk)).2 none none).Ok (regs (R ++ (l ++ mk))).1 (regs (R ++ (l ++ mk))).2 R.reverse.length := by
    rw [List.length_reverse]
    exact tt_deep D.len (D.r1 _) (fun h => by cases h) (fun h => by cases h) (fun b h => by cases h)
  exact seek_ok O (told := fun _ _ => some l) (fun _ _ _ t _ _ h => by cases h; rfl) (by rw [List.length_reverse]; omega) (k := []) rfl D.good hs
end Mine
namespace Mine
open PySem PySem.W PySem.Calls PyProof.Rows
set_option autoImplicit false
set_option maxRecDepth 100000

/-- what a form of a deep root tells -/
noncomputable def toldOfForm (fam : Nat) (root stem low f : List Nat) : List Nat :=
  if f = [116, 101, 109] ∧ endsW stem [115, 121, 115] = true then f else if fallsOf fam root stem = true then [] else low
theorem tell_deep {root stem : List Nat} {depth : Nat} (hd : depth = 1 ∨ depth = 2) {x y : Int} (h : (x.fmod 35).toNat ≠ 34) :
    tell root stem depth x y = (root ++ (formAt (famAt (x.fmod 35).toNat) y).1, stem ++ toldOfForm (x.fmod 35).toNat root stem (if depth = 1 then (famAt (x.fmod 35).toNat).2.1 else (famAt (x.fmod 35).toNat).1) (formAt (famAt (x.fmod 35).toNat) y).1) := by
  unfold tell toldOfForm
  dsimp only
  rw [if_neg h, if_neg (by omega)]
  split
  · rfl
  · split
    · rw [List.append_nil]
    · split <;> rfl

theorem searches {fam depth : Nat} (hf : fam < 34) (hd : depth = 1 ∨ depth = 2) (b : Bool) {f : List Nat × List Nat} (h : f ∈ (famAt fam).2.2) :
    ∃ two four, (two = some true → depth = 2) ∧ (two = some false → depth = 1) ∧ (∀ v, four = some v → v = b) ∧ seekForm fam two four (if depth = 1 then (famAt fam).2.1 else (famAt fam).1) f.1 = true := by
  have hc : fam = 1 ∨ fam ∈ ([0, 2, 3, 5, 6, 7, 20, 21, 22, 23, 28, 30, 31, 33] : List Nat) ∨ fam ∈ ([4, 8, 9, 10, 11, 12, 13, 14, 15, 16, 17, 18, 19, 24, 25, 26, 27, 29, 32] : List Nat) := by
    simp only [List.mem_cons, List.not_mem_nil, or_false]; omega
  have same : ∀ i ∈ ([0, 1, 2, 3, 5, 6, 7, 20, 21, 22, 23, 28, 30, 31, 33] : List Nat), (if depth = 1 then (famAt i).2.1 else (famAt i).1) = (famAt i).1 := by
    intro i hi
    have := List.all_eq_true.mp k_low i hi
    rw [beq_iff_eq] at this
    rw [← this]; split <;> rfl
  rcases hc with rfl | hc | hc
  · rw [same 1 (by decide)]
    have := k_one
    rw [Bool.and_eq_true] at this
    cases b with
    | true => exact ⟨none, some true, (fun h => by cases h), (fun h => by cases h), (fun v hv => by cases hv; rfl), List.all_eq_true.mp this.1 f h⟩
    | false => exact ⟨none, some false, (fun h => by cases h), (fun h => by cases h), (fun v hv => by cases hv; rfl), List.all_eq_true.mp this.2 f h⟩
  · rw [same fam (by revert hc; simp only [List.mem_cons, List.not_mem_nil, or_false]; omega)]
    exact ⟨none, none, (fun h => by cases h), (fun h => by cases h), (fun v hv => by cases hv), List.all_eq_true.mp (List.all_eq_true.mp k_none fam hc) f h⟩
  · rcases hd with rfl | rfl
    · exact ⟨some false, none, (fun h => by cases h), (fun h => rfl), (fun v hv => by cases hv), List.all_eq_true.mp (List.all_eq_true.mp k_false fam hc) f h⟩
    · exact ⟨some true, none, (fun h => rfl), (fun h => by cases h), (fun v hv => by cases hv), List.all_eq_true.mp (List.all_eq_true.mp k_true fam hc) f h⟩

theorem getD_last {P : List Nat} {c : Nat} : ((P.reverse ++ [c]).map pl).getD (((P.reverse ++ [c]).map pl).length - 1) 0 = pl c := by
  rw [List.map_append, List.length_append]
  simp
theorem pl_sys {c : Nat} (h : c ∈ letters) : (pl c = 115 ↔ c = 115) ∧ (pl c = 121 ↔ c = 121) := by
  have : ∀ c ∈ letters, (pl c = 115 ↔ c = 115) ∧ (pl c = 121 ↔ c = 121) := by decide
  exact this c h
theorem pfx_map {u : List Nat} : ∀ {P : List Nat}, (∀ a ∈ u, ∀ c ∈ P, pl c = a ↔ c = a) → pfx u (P.map pl) = pfx u P := by
  induction u with
  | nil => intro P _; simp [pfx]
  | cons a u ih =>
    intro P h
    cases P with
    | nil => rfl
    | cons c P =>
      rw [List.map_cons, pfx, pfx, ih fun b hb d hd => h b (.tail _ hb) d (.tail _ hd)]
      have := h a (.head _) c (.head _)
      congr 1
      rw [decide_eq_decide]
      constructor
      · intro k; exact (this.mp k.symm).symm
      · intro k; exact (this.mpr k.symm).symm
theorem chn_mem {al : List Nat} : ∀ {P : List Nat} {l : Option Nat}, chn al l P → ∀ c ∈ P, c ∈ al
  | c :: P, l, h, x, hx => by
    cases hx with
    | head => exact h.1
    | tail _ hx => exact chn_mem h.2.2 x hx

theorem toldA_ok {root R W stem : List Nat} {depth fam : Nat} (D : Deep root R W stem depth) {four : Option Bool} (h4 : ∀ v, four = some v → v = decide (4 ≤ R.length)) {low f : List Nat} :
    ∀ nx k rest t, R.reverse = k ++ rest → Nx.Ok nx rest → toldA nx fam four low f k = some t → t = toldOfForm fam root stem low f := by
  intro nx k rest t e hf h
  obtain ⟨c, P, hP, hc⟩ := D.last
  have hR : R = P.reverse ++ [c] := by rw [← List.reverse_reverse R, hP, List.reverse_cons]
  have hlet : ∀ x ∈ R.reverse, x ∈ letters := by
    have := D.pc.chn [] (fun _ => trivial) none
    rw [List.append_nil] at this
    exact chn_mem this
  have hsys : endsW stem [115, 121, 115] = pfx [115, 121, 115] R.reverse := by
    rw [endsW_pfx, ← D.pc.told, ← List.map_reverse]
    refine pfx_map fun a ha c hc => ?_
    have := pl_sys (hlet c hc)
    simp only [List.reverse_cons, List.reverse_nil, List.nil_append, List.cons_append, List.mem_cons, List.not_mem_nil, or_false] at ha
    rcases ha with rfl | rfl | rfl
    · exact this.1
    · exact this.2
    · exact this.1
  have hlast : stem.getD (stem.length - 1) 0 = c := by
    rw [← D.pc.told, hR, getD_last, (c19_facts c hc).2.1]
  have hhd : ∀ g, hd g R.reverse = g.contains c := fun g => by rw [hP]; rfl
  have hlen : stem.length = R.length := by rw [← D.pc.told, List.length_map]
  have e1 : endsW root [116, 105, 99, 107] = pfx [107, 99, 105, 116] R.reverse := by
    rw [endsW_pfx]; exact same_end D.pc.tokA (by decide) (by decide)
  have e2 : endsW root [112, 108, 97, 110] = pfx [110, 97, 108, 112] R.reverse := by
    rw [endsW_pfx]; exact same_end D.pc.tokA (by decide) (by decide)
  have e3 : endsW root [116, 114] = pfx [114, 116] R.reverse := by
    rw [endsW_pfx]; exact same_end D.pc.tokA (by decide) (by decide)
  have hp : ∀ {u : List Nat} {b : Bool}, pfxA nx u k = some b → pfx u R.reverse = b := fun h => by rw [e]; exact (pfxA_ok hf h).1
  have hh : ∀ {g : List Nat} {b : Bool}, hdA nx g k = some b → g.contains c = b := fun {g b} h => by rw [← hhd g, e]; exact hdA_ok hf h
  unfold toldA at h
  unfold toldOfForm
  rw [hsys]
  rcases cndS_ok h with ⟨h1, h2⟩ | ⟨h1, h2⟩
  · split at h1
    · rename_i hq
      rw [if_pos ⟨hq, hp h1⟩]
      cases h2; rfl
    · cases h1
  · have hn : ¬(f = [116, 101, 109] ∧ pfx [115, 121, 115] R.reverse = true) := by
      rintro ⟨hq, hr⟩
      rw [if_pos hq] at h1
      rw [hp h1] at hr; cases hr
    rw [if_neg hn]
    unfold fallsOf
    rw [hlast, hlen, e1, e2, e3]
    dsimp only
    by_cases f0 : fam = 0
    · rw [if_pos f0] at h2 ⊢
      have eg : ([98, 100, 102, 103, 104, 107, 108, 109, 110, 114, 116] : List Nat) = gS := rfl
      rw [eg]
      rcases cndS_ok h2 with ⟨a, b⟩ | ⟨a, b⟩ <;> (rw [hh a]; cases b; rfl)
    rw [if_neg f0] at h2 ⊢
    by_cases f1 : fam = 1
    · rw [if_pos f1] at h2 ⊢
      have eg : ([98, 100, 102, 103, 104, 107, 108, 109, 110, 116] : List Nat) = gST := rfl
      rw [eg]
      rcases cndS_ok h2 with ⟨a, b⟩ | ⟨a, b⟩
      · rw [← h4 _ a]
        rcases cndS_ok b with ⟨a, b⟩ | ⟨a, b⟩ <;> (rw [hh a]; cases b; rfl)
      · rw [← h4 _ a]
        cases b
        rw [Bool.and_false]; rfl
    rw [if_neg f1] at h2 ⊢
    by_cases f2 : fam = 2
    · rw [if_pos f2] at h2 ⊢
      rcases cndS_ok h2 with ⟨a, b⟩ | ⟨a, b⟩
      · rw [hh a]
        rcases cndS_ok b with ⟨a, b⟩ | ⟨a, b⟩
        · rw [hp a]; cases b; rfl
        · rw [hp a]
          rcases cndS_ok b with ⟨a, b⟩ | ⟨a, b⟩
          · rw [hp a]; cases b; rfl
          · rw [hp a]
            rcases cndS_ok b with ⟨a, b⟩ | ⟨a, b⟩ <;> (rw [hp a]; cases b; rfl)
      · rw [hh a]; cases b; rfl
    rw [if_neg f2] at h2 ⊢
    cases h2
    rfl

theorem form_mem {fam : Nat} (h : fam < 34) (y : Int) : formAt (famAt fam) y ∈ (famAt fam).2.2 := (form_get (famAt fam) y (fam_ok fam h).2.2.1).2

theorem deep_form {root R W stem : List Nat} {depth fam : Nat} (D : Deep root R W stem depth) (hd : depth = 1 ∨ depth = 2) (hf : fam < 34) {f : List Nat × List Nat} (h : f ∈ (famAt fam).2.2) :
    stemText (root ++ f.1) = stem ++ toldOfForm fam root stem (if depth = 1 then (famAt fam).2.1 else (famAt fam).1) f.1 := by
  obtain ⟨two, four, h2, h1, h4, hs⟩ := searches hf hd (decide (4 ≤ R.length)) h
  have hfi := List.all_eq_true.mp (List.all_eq_true.mp forms_fine fam (List.mem_range.mpr hf)) f h
  simp only [Bool.and_eq_true, beq_iff_eq] at hfi
  have hlen := D.len
  refine stem_of D.pc hfi.1.1 ?_
  have O : (tt false (qreg f.1).1 0 two four).Ok (regs (R ++ f.1)).1 (regs (R ++ f.1)).2 R.reverse.length := by
    rw [List.length_reverse]
    refine tt_deep D.len (D.r1 _) (fun h => D.r2 (by have := h2 h; omega) _) (fun h => D.r3 (h1 h) _) (fun b hb => ?_)
    rw [h4 b hb, decide_eq_true_eq]
  exact seek_ok O (toldA_ok D h4) (by rw [List.length_reverse]; omega) (k := []) rfl D.good hs

theorem deep_tell {root R W stem : List Nat} {depth : Nat} (D : Deep root R W stem depth) (hd : depth = 1 ∨ depth = 2) (x y : Int) :
    stemText (tell root stem depth x y).1 = (tell root stem depth x y).2 ∧ calm (tell root stem depth x y).1 ∧ (tell root stem depth x y).1.length ≤ root.length + 20 := by
  have hx0 : 0 ≤ x.fmod 35 := Int.fmod_nonneg_of_pos _ (by decide)
  have hx1 : x.fmod 35 < 35 := Int.fmod_lt_of_pos _ (by decide)
  by_cases h : (x.fmod 35).toNat = 34
  · have hy0 : 0 ≤ y.fmod 14 := Int.fmod_nonneg_of_pos _ (by decide)
    have hy1 : y.fmod 14 < 14 := Int.fmod_lt_of_pos _ (by decide)
    have hz0 : 0 ≤ (y.fdiv 14).fmod 3 := Int.fmod_nonneg_of_pos _ (by decide)
    have hz1 : (y.fdiv 14).fmod 3 < 3 := Int.fmod_lt_of_pos _ (by decide)
    obtain ⟨hl, hm⟩ := late_mem (i := (y.fmod 14).toNat) (j := ((y.fdiv 14).fmod 3).toNat) (by omega) (by omega)
    have hf := List.all_eq_true.mp (List.all_eq_true.mp lates_fine _ hl) _ hm
    simp only [Bool.and_eq_true, beq_iff_eq, decide_eq_true_eq] at hf
    unfold tell
    dsimp only
    rw [if_pos h]
    refine ⟨deep_late D hl hm, ?_, ?_⟩
    · rw [List.append_assoc]; exact D.pc.calm _ (calmB_ok hf.1.2)
    · rw [List.append_assoc, List.length_append]; omega
  · have hfam : (x.fmod 35).toNat < 34 := by omega
    have hm := form_mem hfam y
    have hfi := List.all_eq_true.mp (List.all_eq_true.mp forms_fine _ (List.mem_range.mpr hfam)) _ hm
    simp only [Bool.and_eq_true, beq_iff_eq, decide_eq_true_eq] at hfi
    rw [tell_deep hd h]
    refine ⟨deep_form D hd hfam hm, D.pc.calm _ (calmB_ok hfi.1.2), ?_⟩
    rw [List.length_append]; omega

/-- a bare root: consonants alone -/
theorem chn19 {P : List Nat} (h : ∀ c ∈ P, c ∈ cons19) : ∀ l, chn cons19 l P := by
  induction P with
  | nil => intro _; trivial
  | cons c P ih => exact fun l => ⟨h c (.head _), near_con (h c (.head _)), ih (fun x hx => h x (.tail _ hx)) _⟩
theorem bare_tell {root : List Nat} (hs : ∀ c ∈ root, c ∈ sounds) (h2 : 2 ≤ root.length) (x y : Int) :
    stemText (tell root (ss2 root) 0 x y).1 = (tell root (ss2 root) 0 x y).2 ∧ calm (tell root (ss2 root) 0 x y).1 ∧ (tell root (ss2 root) 0 x y).1.length ≤ root.length + 20 := by
  have pc := pc_con hs
  have hm19 := ss2_mem hs
  have hlen : 2 ≤ (ss2 root).length := by
    match root, h2 with
    | a :: b :: r, _ =>
      rw [ss2_cons, ss2_cons b r, List.length_append, List.length_append]
      have h1 := ss2_pos (C := [a]) (by simp)
      have h2 := ss2_pos (C := [b]) (by simp)
      omega
  have good : goodP cons19 [] none (ss2 root).reverse = true := good_of (chn19 (fun c hc => hm19 c (List.mem_reverse.mp hc)) _) (fun u hu => by cases hu)
  have hv : ∀ c ∈ ss2 root, vow c = false := fun c hc => (c19_facts c (hm19 c hc)).1
  have O : ∀ (e : List Nat) (two : Option Bool), (tt true (qreg e).1 (qreg e).2 two none).Ok (regs (ss2 root ++ e)).1 (regs (ss2 root ++ e)).2 (ss2 root).reverse.length := by
    intro e two
    rw [List.length_reverse]
    have := regs_bare (e := e) hv hlen
    exact tt_bare hlen this.1 this.2
  have hx0 : 0 ≤ x.fmod 35 := Int.fmod_nonneg_of_pos _ (by decide)
  have hx1 : x.fmod 35 < 35 := Int.fmod_lt_of_pos _ (by decide)
  by_cases h : (x.fmod 35).toNat = 34
  · have hy0 : 0 ≤ y.fmod 14 := Int.fmod_nonneg_of_pos _ (by decide)
    have hy1 : y.fmod 14 < 14 := Int.fmod_lt_of_pos _ (by decide)
    have hz0 : 0 ≤ (y.fdiv 14).fmod 3 := Int.fmod_nonneg_of_pos _ (by decide)
    have hz1 : (y.fdiv 14).fmod 3 < 3 := Int.fmod_lt_of_pos _ (by decide)
    obtain ⟨hl, hm⟩ := late_mem (i := (y.fmod 14).toNat) (j := ((y.fdiv 14).fmod 3).toNat) (by omega) (by omega)
    have hf := List.all_eq_true.mp (List.all_eq_true.mp lates_fine _ hl) _ hm
    simp only [Bool.and_eq_true, beq_iff_eq, decide_eq_true_eq] at hf
    unfold tell
    dsimp only
    rw [if_pos h]
    generalize late.getD (y.fmod 14).toNat [] = l at *
    generalize marks.getD ((y.fdiv 14).fmod 3).toNat [] = mk at *
    refine ⟨?_, ?_, ?_⟩
    · have hk : lateAll true none = true := (Bool.and_eq_true _ _ ▸ k_late).1
      have hs := List.all_eq_true.mp (List.all_eq_true.mp hk l hl) mk hm
      rw [List.append_assoc]
      refine stem_of pc hf.1.1 ?_
      exact seek_ok (O (l ++ mk) none) (told := fun _ _ => some l) (fun _ _ _ t _ _ h => by cases h; rfl) (by rw [List.length_reverse]; exact hlen) (k := []) rfl good hs
    · rw [List.append_assoc]; exact pc.calm _ (calmB_ok hf.1.2)
    · rw [List.append_assoc, List.length_append]; omega
  · have hfam : (x.fmod 35).toNat < 34 := by omega
    have hm := form_mem hfam y
    have hfi := List.all_eq_true.mp (List.all_eq_true.mp forms_fine _ (List.mem_range.mpr hfam)) _ hm
    simp only [Bool.and_eq_true, beq_iff_eq, decide_eq_true_eq] at hfi
    have ht : tell root (ss2 root) 0 x y = (root ++ (formAt (famAt (x.fmod 35).toNat) y).1, ss2 root ++ (formAt (famAt (x.fmod 35).toNat) y).2) := by
      unfold tell
      dsimp only
      rw [if_neg h, if_pos rfl]
    rw [ht]
    generalize formAt (famAt (x.fmod 35).toNat) y = f at *
    refine ⟨?_, pc.calm _ (calmB_ok hfi.1.2), ?_⟩
    · have hk := List.all_eq_true.mp (List.all_eq_true.mp k_bare _ (List.mem_range.mpr hfam)) f hm
      refine stem_of pc hfi.1.1 ?_
      exact seek_ok (O f.1 none) (told := fun _ _ => some f.2) (fun _ _ _ t _ _ h => by cases h; rfl) (by rw [List.length_reverse]; exact hlen) (k := []) rfl good hk
    · show (root ++ f.1).length ≤ _
      rw [List.length_append]; omega
end Mine
namespace Mine
open PySem PySem.W PySem.Calls PyProof.Rows
set_option autoImplicit false
set_option maxRecDepth 100000

theorem snd20_mem (n : Int) : snd20 n ∈ sounds := by
  have h0 : 0 ≤ n.fmod 20 := Int.fmod_nonneg_of_pos _ (by decide)
  have h1 : n.fmod 20 < 20 := Int.fmod_lt_of_pos _ (by decide)
  have hl : sounds.length = 20 := by decide
  unfold snd20
  rw [List.getD_eq_getElem?_getD, List.getElem?_eq_getElem (by omega)]
  exact List.getElem_mem _
theorem digits_mem : ∀ (k : Nat) (n : Int), ∀ c ∈ digits k n, c ∈ sounds
  | 0, _, _, h => by cases h
  | k + 1, n, c, h => by
    rw [digits] at h
    cases h with
    | head => exact snd20_mem _
    | tail _ h => exact digits_mem k _ c h
theorem some_mem (n : Int) (most : Nat) : ∀ c ∈ lawSome n most, c ∈ sounds := by
  intro c h
  unfold lawSome at h
  cases h with
  | head => exact snd20_mem _
  | tail _ h => exact digits_mem _ _ c h
theorem vow_mem (s : List Int) (i : Nat) : vowAt s i ∈ vowels := List.mem_of_getElem? (vow_get s i).1
theorem ss2_app (a b : List Nat) : ss2 (a ++ b) = ss2 a ++ ss2 b := replOne_app 223 [115, 115] a b

theorem regs2 {D0 U1 D1 U2 X e : List Nat} (h0 : ∀ c ∈ D0, c ∈ cons19) (hp : 0 < D0.length) (hu : ∀ c ∈ U1, vow c = true) (hup : 0 < U1.length) (h1 : ∀ c ∈ D1, c ∈ cons19) (h1p : 0 < D1.length)
    (hw : ∀ c ∈ U2, vow c = true) (hwp : 0 < U2.length) (hx : ∀ c ∈ X, c ∈ cons19) (hxp : 0 < X.length) (G : List Nat) :
    (regs ((D0 ++ (U1 ++ (D1 ++ (U2 ++ (X ++ G))))) ++ e)).1 ≤ ((D0 ++ (U1 ++ (D1 ++ (U2 ++ (X ++ G))))).length : Int) ∧ (regs ((D0 ++ (U1 ++ (D1 ++ (U2 ++ (X ++ G))))) ++ e)).2 ≤ ((D0 ++ (U1 ++ (D1 ++ (U2 ++ (X ++ G))))).length : Int) := by
  match U1, D1, U2, X, hup, h1p, hwp, hxp with
  | x :: u, y :: D1, z :: w, d :: X, _, _, _, _ =>
    have v : ∀ c, c ∈ cons19 → vow c = false := fun c h => (c19_facts c h).1
    exact regs_deep2 (fun c hc => v c (h0 c hc)) hp (hu x (.head _)) (fun c hc => hu c (.tail _ hc)) (v y (h1 y (.head _))) (fun c hc => v c (h1 c (.tail _ hc)))
      (hw z (.head _)) (fun c hc => hw c (.tail _ hc)) (v d (hx d (.head _)))
theorem regs1 {D0 U1 D1 e : List Nat} (h0 : ∀ c ∈ D0, c ∈ cons19) (hp : 0 < D0.length) (hu : ∀ c ∈ U1, vow c = true) (hup : 0 < U1.length) (h1 : ∀ c ∈ D1, c ∈ cons19) (h1p : 0 < D1.length) :
    (regs ((D0 ++ (U1 ++ D1)) ++ e)).1 ≤ ((D0 ++ (U1 ++ D1)).length : Int) ∧ (regs ((D0 ++ (U1 ++ D1)) ++ e)).2 = ((D0 ++ (U1 ++ D1)).length : Int) + (qreg e).1 := by
  match U1, D1, hup, h1p with
  | x :: u, y :: D1, _, _ =>
    have v : ∀ c, c ∈ cons19 → vow c = false := fun c h => (c19_facts c h).1
    exact regs_deep1 (fun c hc => v c (h0 c hc)) hp (hu x (.head _)) (fun c hc => hu c (.tail _ hc)) (v y (h1 y (.head _))) (fun c hc => v c (h1 c (.tail _ hc)))

noncomputable def moreOf (front : List Nat) (w : List Nat × List Nat) (close : List Nat) : List Nat := if closed.any (fun e => endsW (front ++ w.1 ++ close) e) then [98] else []
theorem mk_deep {front RF told close : List Nat} {w : List Nat × List Nat} {z : Int} {depth : Nat} (PF : Pc front RF front told) (hF : 0 < RF.length) (hw : w ∈ vowels) (hc : ∀ c ∈ close, c ∈ sounds) (hp : 0 < close.length)
    (hr : ∀ e, (regs ((RF ++ (pre (dotOf w.1 z) ++ ss2 (close ++ moreOf front w close))) ++ e)).1 ≤ ((RF ++ (pre (dotOf w.1 z) ++ ss2 (close ++ moreOf front w close))).length : Int) ∧
      (depth ≠ 1 → (regs ((RF ++ (pre (dotOf w.1 z) ++ ss2 (close ++ moreOf front w close))) ++ e)).2 ≤ ((RF ++ (pre (dotOf w.1 z) ++ ss2 (close ++ moreOf front w close))).length : Int)) ∧
      (depth = 1 → (regs ((RF ++ (pre (dotOf w.1 z) ++ ss2 (close ++ moreOf front w close))) ++ e)).2 = ((RF ++ (pre (dotOf w.1 z) ++ ss2 (close ++ moreOf front w close))).length : Int) + (qreg e).1)) :
    Deep (front ++ dotOf w.1 z ++ (close ++ moreOf front w close)) (RF ++ (pre (dotOf w.1 z) ++ ss2 (close ++ moreOf front w close))) (front ++ (w.1 ++ (close ++ moreOf front w close))) (told ++ w.2 ++ ss2 (close ++ moreOf front w close)) depth := by
  have hc' : ∀ c ∈ close ++ moreOf front w close, c ∈ sounds := by
    intro c h
    rcases List.mem_append.mp h with h | h
    · exact hc c h
    · unfold moreOf at h
      split at h
      · simp at h; subst h; decide
      · cases h
  have hp' : 0 < (close ++ moreOf front w close).length := by rw [List.length_append]; omega
  have ht := dot_trip hw z
  have tf := trip_facts _ ht
  have P : Pc (front ++ (dotOf w.1 z ++ (close ++ moreOf front w close))) (RF ++ (pre (dotOf w.1 z) ++ ss2 (close ++ moreOf front w close))) (front ++ (w.1 ++ (close ++ moreOf front w close))) (told ++ (w.2 ++ ss2 (close ++ moreOf front w close))) := PF.app (pc_syl ht hc' hp')
  have hsp := ss2_pos hp'
  have hsm := ss2_mem hc'
  refine ⟨by rw [List.append_assoc, List.append_assoc]; exact P, ?_, ?_, ?_, fun e => (hr e).1, fun h e => (hr e).2.1 h, fun h e => (hr e).2.2 h⟩
  · have := tf.2.2.1
    dsimp only at this
    rw [List.length_append, List.length_append]; omega
  · rw [List.reverse_append, List.reverse_append]
    cases q : (ss2 (close ++ moreOf front w close)).reverse with
    | nil =>
      have := congrArg List.length q
      rw [List.length_reverse] at this
      simp at this; rw [this] at hsp; cases hsp
    | cons c r => exact ⟨c, _, rfl, hsm c (List.mem_reverse.mp (by rw [q]; exact .head _))⟩
  · cases q : closed.any (fun e => endsW (front ++ w.1 ++ close) e) with
    | true =>
      intro u hu
      have : moreOf front w close = [98] := by unfold moreOf; rw [q]; rfl
      rw [this, ss2_app, List.reverse_append, List.reverse_append, List.reverse_append]
      exact shut_comp.2 u hu _
    | false =>
      have hm : moreOf front w close = [] := by unfold moreOf; rw [q]; rfl
      have := P.tokW
      refine not_shut this ?_
      rw [hm, List.append_nil, ← List.append_assoc]
      exact q

theorem law_deep (s : List Int) (z : Int) (hb : isBare s = false) : ∃ R W, Deep (rootOf (frontOf s) (lawLS s).vw (closeOf (lawLS s)) (depthOf s) z) R W (stemOf (toldOf s) (lawLS s).vw (closeOf (lawLS s)) (depthOf s)) (depthOf s) := by
  have h0 : 0 ≤ (lawAt s 1).fmod 3 := Int.fmod_nonneg_of_pos _ (by decide)
  have h1 : (lawAt s 1).fmod 3 < 3 := Int.fmod_lt_of_pos _ (by decide)
  have hms : moreSyl s = 0 ∨ moreSyl s = 1 ∨ moreSyl s = 2 := by unfold moreSyl; omega
  have hd : depthOf s = min (1 + moreSyl s) 2 := by unfold depthOf; rw [hb]; rfl
  have hd0 : depthOf s ≠ 0 := by omega
  have hf : frontOf s = (lawLS s).front := by unfold frontOf; rw [hb]; rfl
  have htl : toldOf s = (lawLS s).told := by unfold toldOf; rw [hb]; rfl
  unfold rootOf stemOf
  rw [if_neg hd0, if_neg hd0, hf, htl]
  show ∃ R W, Deep ((lawLS s).front ++ dotOf (lawLS s).vw.1 z ++ ((lawLS s).close ++ moreOf (lawLS s).front (lawLS s).vw (lawLS s).close)) R W ((lawLS s).told ++ (lawLS s).vw.2 ++ ss2 ((lawLS s).close ++ moreOf (lawLS s).front (lawLS s).vw (lawLS s).close)) (depthOf s)
  have m0 := some_mem (lawAt s 0) 2
  have p0 := (some_len (lawAt s 0) 2 (by decide)).1
  have sm0 := ss2_mem m0
  have sp0 := ss2_pos p0
  have pc0 := pc_con m0
  have syl : ∀ i, ∃ c, c = lawSome (lawAt s i) 3 ∧ (∀ x ∈ c, x ∈ sounds) ∧ 0 < c.length := fun i => ⟨_, rfl, some_mem _ 3, (some_len _ 3 (by decide)).1⟩
  have cm : ∀ (F : List Nat) (w : List Nat × List Nat) (c : List Nat), (∀ x ∈ c, x ∈ sounds) → 0 < c.length → (∀ x ∈ ss2 (c ++ moreOf F w c), x ∈ cons19) ∧ 0 < (ss2 (c ++ moreOf F w c)).length := by
    intro F w c hc hp
    refine ⟨ss2_mem ?_, ss2_pos (by rw [List.length_append]; omega)⟩
    intro x hx
    rcases List.mem_append.mp hx with h | h
    · exact hc x h
    · unfold moreOf at h
      split at h
      · simp at h; subst h; decide
      · cases h
  rcases hms with hm | hm | hm
  · have hL : lawLS s = lsFirst s := by unfold lawLS; rw [hm]; rfl
    have hd1 : depthOf s = 1 := by omega
    rw [hL, hd1]
    have w1 := vow_mem s 2
    have t1 := trip_facts _ (dot_trip w1 z)
    obtain ⟨c1, e1, m1, p1⟩ := syl 3
    refine ⟨_, _, mk_deep (RF := ss2 (lawSome (lawAt s 0) 2)) pc0 sp0 w1 (some_mem _ 3) (some_len _ 3 (by decide)).1 fun e => ?_⟩
    obtain ⟨k1, k2⟩ := cm (lsFirst s).front (lsFirst s).vw (lsFirst s).close (some_mem _ 3) (some_len _ 3 (by decide)).1
    have r := regs1 (e := e) sm0 sp0 t1.2.1 t1.2.2.1 k1 k2
    exact ⟨r.1, fun h => absurd rfl h, fun _ => r.2⟩
  · have hL : lawLS s = lsNext s 1 (lsFirst s) := by unfold lawLS; rw [hm]; rfl
    have hd1 : depthOf s = 2 := by omega
    rw [hL, hd1]
    have w1 := vow_mem s 2
    have t1 := trip_facts _ (same_trip w1)
    have m1 := some_mem (lawAt s 3) 3
    have p1 := (some_len (lawAt s 3) 3 (by decide)).1
    have pcf := pc0.app (pc_syl (same_trip w1) m1 p1)
    have w2 := vow_mem s 4
    have t2 := trip_facts _ (dot_trip w2 z)
    have ef : (lsNext s 1 (lsFirst s)).front = lawSome (lawAt s 0) 2 ++ ((vowAt s 2).1 ++ lawSome (lawAt s 3) 3) := List.append_assoc _ _ _
    have et : (lsNext s 1 (lsFirst s)).told = ss2 (lawSome (lawAt s 0) 2) ++ ((vowAt s 2).2 ++ ss2 (lawSome (lawAt s 3) 3)) := List.append_assoc _ _ _
    rw [ef, et]
    refine ⟨_, _, mk_deep pcf (by rw [List.length_append]; omega) w2 (some_mem _ 3) (some_len _ 3 (by decide)).1 fun e => ?_⟩
    obtain ⟨k1, k2⟩ := cm (lawSome (lawAt s 0) 2 ++ ((vowAt s 2).1 ++ lawSome (lawAt s 3) 3)) (vowAt s 4) (lawSome (lawAt s 5) 3) (some_mem _ 3) (some_len _ 3 (by decide)).1
    have r := regs2 (e := e) sm0 sp0 t1.2.1 t1.2.2.1 (ss2_mem m1) (ss2_pos p1) t2.2.1 t2.2.2.1 k1 k2 []
    rw [List.append_nil] at r
    simp only [List.append_assoc] at r ⊢
    exact ⟨r.1, fun _ => r.2, fun h => by cases h⟩
  · have hL : lawLS s = lsNext s 2 (lsNext s 1 (lsFirst s)) := by unfold lawLS; rw [hm]; rfl
    have hd1 : depthOf s = 2 := by omega
    rw [hL, hd1]
    have w1 := vow_mem s 2
    have t1 := trip_facts _ (same_trip w1)
    have m1 := some_mem (lawAt s 3) 3
    have p1 := (some_len (lawAt s 3) 3 (by decide)).1
    have w2 := vow_mem s 4
    have t2 := trip_facts _ (same_trip w2)
    have m2 := some_mem (lawAt s 5) 3
    have p2 := (some_len (lawAt s 5) 3 (by decide)).1
    have pcf := (pc0.app (pc_syl (same_trip w1) m1 p1)).app (pc_syl (same_trip w2) m2 p2)
    have w3 := vow_mem s 6
    have ef : (lsNext s 2 (lsNext s 1 (lsFirst s))).front = (lawSome (lawAt s 0) 2 ++ ((vowAt s 2).1 ++ lawSome (lawAt s 3) 3)) ++ ((vowAt s 4).1 ++ lawSome (lawAt s 5) 3) := by
      show ((lawSome (lawAt s 0) 2 ++ (vowAt s 2).1 ++ lawSome (lawAt s 3) 3) ++ (vowAt s 4).1) ++ lawSome (lawAt s 5) 3 = _
      simp only [List.append_assoc]
    have et : (lsNext s 2 (lsNext s 1 (lsFirst s))).told = (ss2 (lawSome (lawAt s 0) 2) ++ ((vowAt s 2).2 ++ ss2 (lawSome (lawAt s 3) 3))) ++ ((vowAt s 4).2 ++ ss2 (lawSome (lawAt s 5) 3)) := by
      show ((ss2 (lawSome (lawAt s 0) 2) ++ (vowAt s 2).2 ++ ss2 (lawSome (lawAt s 3) 3)) ++ (vowAt s 4).2) ++ ss2 (lawSome (lawAt s 5) 3) = _
      simp only [List.append_assoc]
    rw [ef, et]
    refine ⟨_, _, mk_deep pcf (by rw [List.length_append, List.length_append]; omega) w3 (some_mem _ 3) (some_len _ 3 (by decide)).1 fun e => ?_⟩
    have r := regs2 (e := e) sm0 sp0 t1.2.1 t1.2.2.1 (ss2_mem m1) (ss2_pos p1) t2.2.1 t2.2.2.1 (ss2_mem m2) (ss2_pos p2) (pre (dotOf (vowAt s 6).1 z) ++ ss2 (lawSome (lawAt s 7) 3 ++ moreOf ((lawSome (lawAt s 0) 2 ++ ((vowAt s 2).1 ++ lawSome (lawAt s 3) 3)) ++ ((vowAt s 4).1 ++ lawSome (lawAt s 5) 3)) (vowAt s 6) (lawSome (lawAt s 7) 3)))
    have ec : (lsNext s 2 (lsNext s 1 (lsFirst s))).close = lawSome (lawAt s 7) 3 := rfl
    have ev : (lsNext s 2 (lsNext s 1 (lsFirst s))).vw = vowAt s 6 := rfl
    rw [ec, ev]
    simp only [List.append_assoc] at r ⊢
    exact ⟨r.1, fun _ => r.2, fun h => by cases h⟩

theorem bare_snd (s : List Int) : (∀ c ∈ (lawLS s).bare, c ∈ sounds) ∧ 0 < (lawLS s).bare.length ∧ (∀ c ∈ (lawLS s).close, c ∈ sounds) ∧ 0 < (lawLS s).close.length := by
  have run : ∀ (k i : Nat) (L : LS), (∀ c ∈ L.bare, c ∈ sounds) → 0 < L.bare.length → (∀ c ∈ L.close, c ∈ sounds) → 0 < L.close.length →
      (∀ c ∈ (lsRun s k i L).bare, c ∈ sounds) ∧ 0 < (lsRun s k i L).bare.length ∧ (∀ c ∈ (lsRun s k i L).close, c ∈ sounds) ∧ 0 < (lsRun s k i L).close.length := by
    intro k
    induction k with
    | zero => intro i L a b c d; exact ⟨a, b, c, d⟩
    | succ k ih =>
      intro i L a b c d
      refine ih (i + 1) (lsNext s i L) ?_ ?_ (some_mem _ 3) (some_len _ 3 (by decide)).1
      · intro x hx
        rcases List.mem_append.mp hx with h | h
        · exact a x h
        · exact c x h
      · show 0 < (L.bare ++ L.close).length
        rw [List.length_append]; omega
  exact run _ _ _ (some_mem _ 2) (some_len _ 2 (by decide)).1 (some_mem _ 3) (some_len _ 3 (by decide)).1

/-- THE PLAIN LAW: the stem of each built word is the told one -/
theorem law_plain (s : List Int) (x y z : Int) :
    stemText (lawWord (frontOf s) (toldOf s) (lawLS s).vw (closeOf (lawLS s)) (depthOf s) x y z).1 = (lawWord (frontOf s) (toldOf s) (lawLS s).vw (closeOf (lawLS s)) (depthOf s) x y z).2 ∧
    calm (lawWord (frontOf s) (toldOf s) (lawLS s).vw (closeOf (lawLS s)) (depthOf s) x y z).1 ∧
    (lawWord (frontOf s) (toldOf s) (lawLS s).vw (closeOf (lawLS s)) (depthOf s) x y z).1.length ≤ (rootOf (frontOf s) (lawLS s).vw (closeOf (lawLS s)) (depthOf s) z).length + 20 := by
  unfold lawWord
  cases hb : isBare s with
  | false =>
    obtain ⟨R, W, D⟩ := law_deep s z hb
    have hd : depthOf s = 1 ∨ depthOf s = 2 := by
      unfold depthOf; rw [hb]; simp only [Bool.false_eq_true, if_false]; omega
    exact deep_tell D hd x y
  | true =>
    have hd : depthOf s = 0 := by unfold depthOf; rw [hb]; rfl
    have hf : frontOf s = (lawLS s).bare := by unfold frontOf; rw [hb]; rfl
    have ht : toldOf s = ss2 (lawLS s).bare := by unfold toldOf; rw [hb]; rfl
    obtain ⟨b1, b2, b3, b4⟩ := bare_snd s
    unfold rootOf stemOf
    rw [hd, if_pos rfl, if_pos rfl, hf, ht, List.append_nil, List.append_nil]
    show stemText (tell ((lawLS s).bare ++ closeOf (lawLS s)) (ss2 (lawLS s).bare ++ ss2 (closeOf (lawLS s))) 0 x y).1 = (tell ((lawLS s).bare ++ closeOf (lawLS s)) (ss2 (lawLS s).bare ++ ss2 (closeOf (lawLS s))) 0 x y).2 ∧ calm (tell ((lawLS s).bare ++ closeOf (lawLS s)) (ss2 (lawLS s).bare ++ ss2 (closeOf (lawLS s))) 0 x y).1 ∧ (tell ((lawLS s).bare ++ closeOf (lawLS s)) (ss2 (lawLS s).bare ++ ss2 (closeOf (lawLS s))) 0 x y).1.length ≤ _
    rw [← ss2_app]
    refine bare_tell (fun c hc => ?_) ?_ x y
    · rcases List.mem_append.mp hc with h | h
      · exact b1 c h
      · unfold closeOf at h
        rcases List.mem_append.mp h with h | h
        · exact b3 c h
        · split at h
          · simp at h; subst h; decide
          · cases h
    · unfold closeOf
      rw [List.length_append, List.length_append]; omega
end Mine
namespace Mine
open PySem PySem.W
set_option autoImplicit false
set_option maxRecDepth 100000
/-- n steps over the tree heap -/
noncomputable def goN (st : SharedT → Thread → Option (SharedT × Thread)) : Nat → SharedT → Thread → Option (SharedT × Thread)
  | 0, s, t => some (s, t)
  | n + 1, s, t => match t.calm with
    | false => none
    | true => match st s t with
      | some (s', t') => goN st n s' t'
      | none => none
/-- the tree of a list of objects -/
noncomputable def treeOf : List Obj → Nat → BT → BT
  | [], _, t => t
  | o :: l, n, t => treeOf l (n + 1) (t.ins n o)
noncomputable def boot0 (P : Params) (os : OsState) : SharedT := ⟨treeOf (boot_heap P).objs.toList 0 .nil, (boot_heap P).objs.size, (boot_heap P).life, #[], boot_drawn, boot_toks, os⟩
end Mine
namespace Mine
open PySem PySem.W PySem.Calls PyProof.Rows
set_option autoImplicit false
set_option maxRecDepth 100000

/-- a thread that comes to its end, calm at every step -/
noncomputable def Ends (p : Program) (w : World) (Post : Shared → Prop) (s : Shared) (t : Thread) : Prop :=
  ∃ n f s', runN (denote table) p w n s t = .halted (.done f) s' ∧ (∀ k s₁ t₁, runN (denote table) p w k s t = .running s₁ t₁ → t₁.calm = true) ∧ s'.gens = #[] ∧ Post s'

section
variable {p : Program} {w : World} {Post : Shared → Prop} {s s' : Shared} {t t' : Thread}

theorem Ends.step (h : PySem.step (denote table) p w s t = .go s' t') (c : t.calm = true) (k : Ends p w Post s' t') : Ends p w Post s t := by
  obtain ⟨n, f, s₂, h1, h2, h3⟩ := k
  refine ⟨n + 1, f, s₂, by simp only [runN, h]; exact h1, fun k s₁ t₁ hk => ?_, h3⟩
  cases k with
  | zero => cases hk; exact c
  | succ k => simp only [runN, h] at hk; exact h2 k s₁ t₁ hk

theorem Ends.wp {α : Type} {m : Sem α} {K : α → Sem Fin} {H : Value → Sem Fin} {gd : Bool → Bool} {lv : List Value → List Value} {code : Code} {pos : Pos} {st : List Frame} {Q : α → Shared → Prop}
    (h : ∀ A, wpAny (model p w) A m Q (fun _ _ => False) s) (k : ∀ v s' p', Q v s' → Ends p w Post s' ⟨K v, code, p', st⟩) : Ends p w Post s ⟨m.wrap K H gd lv, code, pos, st⟩ := by
  let Γ : Ctx := ⟨code, none, none, [], none⟩
  have hw := h ⟨(Γ.over st).handled, frameCount (Γ.over st).below + (Γ.over st).code.weight, none, none, (Γ.over st).units⟩ (Γ.over st) pos ⟨rfl, Nat.le_refl _, (fun l hl => by cases hl), (fun g hg => by cases hg), Nat.le_refl _⟩
  obtain ⟨e, s₂, hr, f, rfl, hg, hP⟩ := runs_wrap_of_wp (Γ := Γ) (fs := st) (Φ := fun e s' => ∃ f, e = .ret (.ok f) ∧ s'.gens = #[] ∧ Post s') K H gd lv m hw (fun v p' s' q => by
      obtain ⟨n, f, s₂, h1, h2, h3, h4⟩ := k v s' p' q
      obtain ⟨s₃, h5, h6⟩ := runN_calm_runNI _ _ _ h1 h2
      obtain rfl : s₃ = s₂ := Shared.eq_of_forget_eq h6.symm h3
      exact ⟨_, _, (halts_iff (M := model p w) (r := .ok f)).mp ⟨n, h5⟩ |>.1, f, rfl, h3, h4⟩) (fun _ _ _ z => z.elim)
  obtain ⟨n, hn⟩ := (halts_iff (M := model p w) (r := .ok f)).mpr ⟨hr, by rw [hg]; simp [leftWithCleanup]⟩
  obtain ⟨s₃, h1, h2, h3⟩ := runNI_real _ _ _ hn rfl
  obtain rfl : s₃ = s₂ := Shared.eq_of_forget_eq h2 hg
  exact ⟨n, f, s₃, h1, h3, hg, hP⟩

theorem Ends.done {f : Flow} {code : Code} {pos : Pos} (hc : Thread.calm ⟨.pure (.done f), code, pos, []⟩ = true) (hg : s.gens = #[]) (hP : Post s) : Ends p w Post s ⟨.pure (.done f), code, pos, []⟩ := by
  have hs : PySem.step (denote table) p w s ⟨.pure (.done f), code, pos, []⟩ = .halt (.done f) s := by
    obtain ⟨heap, gens, drawn, toks, os⟩ := s
    dsimp only at hg; subst hg
    simp [PySem.step, finish, leftWithCleanup]
  refine ⟨1, f, s, by simp only [runN, hs], fun k s₁ t₁ hk => ?_, hg, hP⟩
  cases k with
  | zero => cases hk; exact hc
  | succ k => simp only [runN, hs] at hk; cases hk

theorem halt_through {f : Flow} (h : PySem.step (denote table) p w s t = .halt (.done f) s') : through t = true ∧ s' = s := by
  refine ⟨?_, step_halt_same _ _ _ _ _ _ _ h⟩
  obtain ⟨heap, gens, drawn, toks, os⟩ := s
  obtain ⟨cur, code, pos, stack⟩ := t
  cases cur <;> simp only [PySem.step, finish] at h <;> (repeat' split at h) <;> simp_all [through]

theorem Ends.sched (hr : s.asleep) (h : Ends p w Post s t) : ∃ n t' s', schedN (denote table) p w n (.single s t) = .running (.single s' t') ∧ through t' = true ∧ s'.heap.life = s.heap.life ∧ s'.gens = #[] ∧ Post s' := by
  obtain ⟨n, f, s₂, h1, h2, h3, h4⟩ := h
  induction n generalizing s t with
  | zero => cases h1
  | succ n ih =>
    have hc := h2 0 s t rfl
    simp only [runN] at h1
    cases hs : PySem.step (denote table) p w s t with
    | halt o s₁ =>
      rw [hs] at h1
      cases h1
      obtain ⟨a, rfl⟩ := halt_through hs
      exact ⟨0, t, _, rfl, a, rfl, h3, h4⟩
    | go s₁ t₁ =>
      rw [hs] at h1
      have hl := step_life (denote table) p w s s₁ t t₁ hs
      obtain ⟨m, t', s', a, b, c, d⟩ := ih (Shared.asleep_of_life hl hr) h1 fun k s₂ t₂ hk => h2 (k + 1) s₂ t₂ (by simp only [runN, hs]; exact hk)
      have e : sstep (denote table) p w (.single s t) = .go (.single s₁ t₁) := by
        rcases sstep_single (denote table) p w s t hc hr with e | e
        · rw [e, hs]; rfl
        · rw [hs] at e; cases e
      exact ⟨m + 1, t', s', by simp only [schedN, e]; exact a, b, c.trans hl, d⟩
end

/-- a tree heap stands for a heap -/
structure Rep (T : SharedT) (s : Shared) : Prop where
  size : s.heap.objs.size = T.n
  at_ : ∀ a, a < T.n → ∃ o, T.tree.get a = some o ∧ s.heap.get? a = alive o
  gens : s.gens = T.gens
  drawn : s.drawn = T.drawn
  toks : s.toks = T.toks
  os : s.os = T.os

theorem alive_freed {o : Obj} (h : o.isFreed = true) : alive o = none := by
  obtain ⟨a, b, c, d⟩ := o
  cases c <;> first | rfl | cases h
theorem alive_live {o : Obj} (h : o.isFreed = false) : alive o = some o := by
  obtain ⟨a, b, c, d⟩ := o
  cases c <;> first | rfl | cases h
theorem get_objs {h : Heap} {a : Nat} {o : Obj} (e : h.objs[a]? = some o) : h.get? a = alive o := by
  cases q : o.isFreed with
  | false => rw [alive_live q]; exact Heap.get?_some_iff.mpr ⟨e, q⟩
  | true =>
    rw [alive_freed q]
    cases r : h.get? a with
    | none => rfl
    | some o' =>
      obtain ⟨e', q'⟩ := Heap.get?_some_iff.mp r
      rw [e] at e'; cases e'
      rw [q] at q'; cases q'
theorem alive_some {o o' : Obj} (h : alive o = some o') : o' = o := by
  cases q : o.isFreed with
  | false => rw [alive_live q] at h; cases h; rfl
  | true => rw [alive_freed q] at h; cases h
theorem get_update {h : Heap} {a : Nat} {f : Obj → Obj} {o : Obj} (e : h.get? a = some o) (b : Nat) : (h.update a f).get? b = if b = a then alive (f o) else h.get? b := by
  by_cases q : b = a
  · subst q
    rw [if_pos rfl]
    obtain ⟨e1, _⟩ := Heap.get?_some_iff.mp e
    refine get_objs ?_
    cases h; simp only [Heap.update, Array.getElem?_modify, if_true]; simp only at e1; rw [e1]; rfl
  · rw [if_neg q]; exact Heap.get?_update_other h f (Ne.symm q)
theorem get_push {h : Heap} {o : Obj} (b : Nat) : (h.push o).get? b = if b = h.objs.size then alive o else h.get? b := by
  by_cases q : b = h.objs.size
  · subst q
    rw [if_pos rfl]
    refine get_objs ?_
    cases h; simp [Heap.push]
  · rw [if_neg q]; exact Heap.get?_push_ne h b o q

section
variable {p : Program} {w : World} {den : Code → Sem Fin}
theorem step_rep {T T' : SharedT} {s : Shared} {t t' : Thread} (h : stepT den p w T t = some (T', t')) (R : Rep T s) : ∃ s', PySem.step den p w s t = .go s' t' ∧ Rep T' s' := by
  obtain ⟨H, gens, drawn, toks, os⟩ := s
  obtain ⟨tr, n, life, gens', drawn', toks', os'⟩ := T
  obtain ⟨r1, r2, r3, r4, r5, r6⟩ := R
  dsimp only at r1 r2 r3 r4 r5 r6
  subst r3 r4 r5 r6
  obtain ⟨cur, code, pos, stack⟩ := t
  have other : (∀ a q k, cur ≠ .load a q k) → (∀ a q f k, cur ≠ .update a q f k) → (∀ o k, cur ≠ .alloc o k) → (∀ a k, cur ≠ .loadIfAlive a k) →
      (match PySem.step den p w ⟨{}, gens, drawn, toks, os⟩ ⟨cur, code, pos, stack⟩ with
        | .go s' t' => some ((⟨tr, n, life, s'.gens, s'.drawn, s'.toks, s'.os⟩ : SharedT), t')
        | .halt _ _ => none) = some (T', t') → ∃ s', PySem.step den p w ⟨H, gens, drawn, toks, os⟩ ⟨cur, code, pos, stack⟩ = .go s' t' ∧ Rep T' s' := by
    intro h1 h2 h3 h4 h
    cases q : PySem.step den p w ⟨{}, gens, drawn, toks, os⟩ ⟨cur, code, pos, stack⟩ with
    | halt o s => rw [q] at h; cases h
    | go s₀ t₀ =>
      rw [q] at h; cases h
      exact ⟨_, step_heap h1 h2 h3 h4 q, ⟨r1, r2, rfl, rfl, rfl, rfl⟩⟩
  cases cur with
  | load a q k =>
    cases e : Nat.blt a n with
    | false => simp only [stepT, e] at h; cases h
    | true =>
      obtain ⟨o, g, gh⟩ := r2 a (Nat.le_of_ble_eq_true e)
      cases al : alive o with
      | none => simp only [stepT, e, g, al] at h; cases h
      | some o' =>
        simp only [stepT, e, g, al] at h
        cases h
        exact ⟨_, by simp only [PySem.step, gh, al]; rfl, ⟨r1, r2, rfl, rfl, rfl, rfl⟩⟩
  | update a q f k =>
    cases e : Nat.blt a n with
    | false => simp only [stepT, e] at h; cases h
    | true =>
      have lt : a < n := Nat.le_of_ble_eq_true e
      obtain ⟨o, g, gh⟩ := r2 a lt
      cases al : alive o with
      | none => simp only [stepT, e, g, al] at h; cases h
      | some o' =>
        simp only [stepT, e, g, al] at h
        cases h
        obtain rfl := alive_some al
        rw [al] at gh
        refine ⟨_, by simp only [PySem.step, gh, Option.isSome_some, if_true]; rfl, ⟨by rw [← r1]; exact Heap.size_after_update .., fun b hb => ?_, rfl, rfl, rfl, rfl⟩⟩
        show ∃ o_1, (tr.set a f).get b = some o_1 ∧ (H.update a f).get? b = alive o_1
        rw [BT.get_set, get_update gh]
        by_cases hq : b = a
        · rw [if_pos hq, if_pos hq, g]; exact ⟨_, rfl, rfl⟩
        · rw [if_neg hq, if_neg hq]; exact r2 b hb
  | alloc o k =>
    cases e : ((tr.ins n o).get n).isSome with
    | false => simp only [stepT, e] at h; cases h
    | true =>
      simp only [stepT, e] at h
      cases h
      refine ⟨⟨H.push o, gens, drawn, toks, os⟩, by simp only [PySem.step, r1], ⟨by rw [← r1]; exact Heap.size_push .., fun b hb => ?_, rfl, rfl, rfl, rfl⟩⟩
      show ∃ o_1, (tr.ins n o).get b = some o_1 ∧ (H.push o).get? b = alive o_1
      rw [BT.get_ins o tr n e, get_push, r1]
      by_cases hq : b = n
      · rw [if_pos hq, if_pos hq]; exact ⟨_, rfl, rfl⟩
      · rw [if_neg hq, if_neg hq]
        have hb : b < n + 1 := hb
        exact r2 b (by omega)
  | loadIfAlive a k =>
    cases e : Nat.blt a n with
    | false =>
      simp only [stepT, e] at h
      cases h
      have lt : ¬ a < n := fun q => by rw [show Nat.blt a n = true from Nat.ble_eq_true_of_le q] at e; cases e
      have gn : H.get? a = none := Heap.get?_none_of_le (by rw [r1]; exact Nat.le_of_not_lt lt)
      exact ⟨_, by simp only [PySem.step, gn]; rfl, ⟨r1, r2, rfl, rfl, rfl, rfl⟩⟩
    | true =>
      obtain ⟨o, g, gh⟩ := r2 a (Nat.le_of_ble_eq_true e)
      simp only [stepT, e, g] at h
      cases h
      exact ⟨_, by simp only [PySem.step, gh]; rfl, ⟨r1, r2, rfl, rfl, rfl, rfl⟩⟩
  | _ => exact other (by intros; intro e; cases e) (by intros; intro e; cases e) (by intros; intro e; cases e) (by intros; intro e; cases e) h
end

/-- a segment over the tree heap, up to the end of the piece that stands on b frames -/
noncomputable def segN (st : SharedT → Thread → Option (SharedT × Thread)) (b : Nat) : Nat → SharedT → Thread → Option (Flow × SharedT × Code × Pos)
  | 0, _, _ => none
  | n + 1, s, t => match endAt b t with
    | some f => some (f, s, t.code, t.pos)
    | none => match stepOk 0 none t with
      | false => none
      | true => match st s t with
        | some (s', t') => segN st b n s' t'
        | none => none

section
variable {p : Program} {w : World} {Post : Shared → Prop}
theorem goN_ends : ∀ {n : Nat} {T T' : SharedT} {s : Shared} {t t' : Thread}, goN (stepT (denote table) p w) n T t = some (T', t') → Rep T s → (∀ s', Rep T' s' → Ends p w Post s' t') → Ends p w Post s t
  | 0, _, _, _, _, _, h, R, k => by
    cases h; exact k _ R
  | n + 1, T, T', s, t, t', h, R, k => by
    unfold goN at h
    cases hc : t.calm with
    | false => rw [hc] at h; cases h
    | true =>
      rw [hc] at h
      cases hs : stepT (denote table) p w T t with
      | none => rw [hs] at h; cases h
      | some r =>
        obtain ⟨T₁, t₁⟩ := r
        rw [hs] at h
        obtain ⟨s₁, h1, R1⟩ := step_rep hs R
        exact Ends.step h1 hc (goN_ends h R1 k)

theorem segN_ends {α : Type} {B : List Frame} {K' : α → Sem Fin} {H' : Value → Sem Fin} {gd : Bool → Bool} {lv : List Value → List Value} {res : α → Flow} (hB : splitAtGen B = none) :
    ∀ {n : Nat} {T T' : SharedT} {s : Shared} {t t' : Thread} {f : Flow} {c' : Code} {p' : Pos}, Rel2 (fun a => .pure (.done (res a))) K' deadEnd H' gd lv B t t' →
      segN (stepT (denote table) p w) B.length n T t = some (f, T', c', p') → Rep T s → (∀ a s', res a = f → Rep T' s' → Ends p w Post s' ⟨K' a, c', p', B⟩) → Ends p w Post s t'
  | 0, _, _, _, _, _, _, _, _, _, h, _, _ => by cases h
  | n + 1, T, T', s, ⟨cur, code, pos, st⟩, ⟨cur', code', pos', st'⟩, f, c', p', R, h, rep, k => by
    obtain ⟨e1, e2, R⟩ := R
    dsimp only at e1 e2 R
    subst e1 e2
    unfold segN at h
    cases he : endAt B.length ⟨cur, code, pos, st⟩ with
    | some g =>
      rw [he] at h
      obtain ⟨rfl, rfl, rfl, rfl⟩ : g = f ∧ T = T' ∧ code = c' ∧ pos = p' := by simpa using h
      rcases R with ⟨rfl, rfl, x, rfl, rfl⟩ | ⟨rfl, F⟩
      · have hx : ∃ a, x = .pure a ∧ res a = g := by
          cases x with
          | pure a => simp only [endAt, Sem.wrap, beq_self_eq_true, Option.some.injEq] at he; exact ⟨a, rfl, he⟩
          | _ => simp [endAt, Sem.wrap] at he
        obtain ⟨a, rfl, ha⟩ := hx
        exact k a s ha rep
      · have l := F.longer.1
        have : ((st.length == B.length) = false) := beq_eq_false_iff_ne.mpr (Nat.ne_of_gt l)
        simp only [endAt, this] at he
        cases he
    | none =>
      rw [he] at h
      cases hk : stepOk 0 none ⟨cur, code, pos, st⟩ with
      | false => rw [hk] at h; cases h
      | true =>
        rw [hk] at h
        cases hs : stepT (denote table) p w T ⟨cur, code, pos, st⟩ with
        | none => rw [hs] at h; cases h
        | some r =>
          obtain ⟨T₂, t₂⟩ := r
          rw [hs] at h
          obtain ⟨s₂, hs', rep₂⟩ := step_rep hs rep
          have key : stepOk 0 none ⟨cur', code, pos, st'⟩ = true ∧ ∃ t₂', PySem.step (denote table) p w s ⟨cur', code, pos, st'⟩ = .go s₂ t₂' ∧ Rel2 (fun a => .pure (.done (res a))) K' deadEnd H' gd lv B t₂ t₂' := by
            rcases R with ⟨rfl, rfl, x, rfl, rfl⟩ | ⟨rfl, F⟩
            · have hp : ∀ a, x ≠ .pure a := by
                rintro a rfl
                simp [endAt, Sem.wrap] at he
              have hr : ∀ e, x ≠ .raise e := by
                rintro e rfl
                obtain ⟨heap, gens, drawn, toks, os⟩ := s
                simp only [Sem.wrap, PySem.step] at hs'
                cases hs'
              exact ⟨(okOuter (K' := K') (H' := H') hp hr hk).1, step_outer hB hp hs'⟩
            · exact ⟨(okInner hB F hk).1, step_inner hB F hs'⟩
          obtain ⟨k1, t₂', k3, R'⟩ := key
          have hc : Thread.calm ⟨cur', code, pos, st'⟩ = true := by
            unfold stepOk at k1
            exact (Bool.and_eq_true_iff.mp k1).1
          exact Ends.step k3 hc (segN_ends hB R' h rep₂ k)
end
end Mine
namespace Mine
open PySem PySem.W PySem.Calls PyProof.Rows
set_option autoImplicit false
set_option maxRecDepth 100000

/-- a display's elements: constants of one sign each -/
noncomputable def isCs : List PySem.Expr → List Nat → Bool
  | [], [] => true
  | .Constant (.str t) _ _ :: es, c :: cs => (t == tx [c]) && isCs es cs
  | _, _ => false

/-- what a set display leaves -/
structure SetMade (p : Program) (w : World) (cs : List Nat) (s : Shared) (v : Value) (s' : Shared) (O : Obj) : Prop where
  val : v = .ref s.heap.objs.size
  size : s'.heap.objs.size = s.heap.objs.size + 1
  old : ∀ b, b < s.heap.objs.size → s'.heap.get? b = s.heap.get? b
  new : s'.heap.get? s.heap.objs.size = some O
  set : O.SetObjOf (strKind p w) (oneIn cs) cs.length
  gens : s'.gens = s.gens
  drawn : s'.drawn = s.drawn
  os : s'.os = s.os
  toks : s'.toks = s.toks + 2 * cs.length

theorem oneIn_snoc (done : List Nat) (c : Nat) : (fun k' => oneIn done k' || decide (k' = tx [c])) = oneIn (done ++ [c]) := by
  funext k'
  unfold oneIn
  cases q : k'.cps.toList with
  | nil =>
    have : k' ≠ tx [c] := by rintro rfl; simp at q
    simp [this]
  | cons a r =>
    cases r with
    | nil =>
      have e : (k' = tx [c]) ↔ a = c := by
        constructor
        · rintro rfl; simp at q; exact q.symm
        · rintro rfl
          cases k'; simp only at q
          simp only [tx]; congr 1
          exact Array.toList_inj.mp q
      simp only [List.contains_eq_mem, List.mem_append, List.mem_singleton]
      by_cases h : a = c
      · simp [e, h]
      · simp [e, h]
    | cons b r =>
      have : k' ≠ tx [c] := by rintro rfl; simp at q
      simp [this]

section
variable {p : Program} {w : World} {A : Around} {E : Value → Shared → Prop}

theorem wp_consts (env : Env) : ∀ {es : List PySem.Expr} {cs : List Nat} {s : Shared} {Q : List Value → Shared → Prop}, isCs es cs = true →
    (∀ vs, vs.length = cs.length → (∀ (i : Nat) (c : Nat), cs[i]? = some c → ∃ t, vs[i]? = some (.str (tx [c]) t)) → Q vs { s with toks := s.toks + cs.length }) → KdsAll (model p w) A E env es Q s
  | [], [], s, Q, _, h => h [] rfl (fun i c hc => by simp at hc)
  | [], _ :: _, _, _, h, _ => by simp [isCs] at h
  | e :: es, [], _, _, h, _ => by cases e <;> simp [isCs] at h
  | e :: es, c :: cs, s, Q, h, k => by
    cases e with
    | Constant k0 x1 x2 =>
      cases k0 with
      | str t =>
        simp only [isCs, Bool.and_eq_true, beq_iff_eq] at h
        obtain ⟨rfl, h⟩ := h
        show wpAny _ _ (mkText (tx [c])) _ _ _
        refine wpAny_mkText (wp_consts env h fun vs hl hv => ?_)
        have := k (.str (tx [c]) s.toks :: vs) (by rw [List.length_cons, hl, List.length_cons]) (fun i c' hc => by
          cases i with
          | zero => simp at hc; subst hc; exact ⟨_, rfl⟩
          | succ i => exact hv i c' (by simpa using hc))
        rw [List.length_cons] at this
        have e : s.toks + 1 + cs.length = s.toks + (cs.length + 1) := by omega
        show Q _ { s with toks := s.toks + 1 + cs.length }
        rw [e]; exact this
      | _ => simp [isCs] at h
    | _ => simp [isCs] at h

theorem wp_fill {a : Addr} {Q : Value → Shared → Prop} : ∀ {vs : List Value} {done cs : List Nat} {s : Shared} {O : Obj}, vs.length = cs.length → (∀ (i : Nat) (c : Nat), cs[i]? = some c → ∃ t, vs[i]? = some (.str (tx [c]) t)) →
    (done ++ cs).Nodup → done.length + cs.length + 2 < scanBound → s.heap.get? a = some O → O.SetObjOf (strKind p w) (oneIn done) done.length →
    (∀ h' O', h'.objs.size = s.heap.objs.size → (∀ b, b ≠ a → h'.get? b = s.heap.get? b) → h'.get? a = some O' → O'.SetObjOf (strKind p w) (oneIn (done ++ cs)) (done ++ cs).length → Q (.ref a) { s with heap := h', toks := s.toks + cs.length }) →
    KdsFill (model p w) A E true a Q vs s
  | [], done, [], s, O, _, _, _, hb, ho, hso, k => by
    refine kds_fill_unled rfl ?_
    obtain ⟨hex, es, ep, t, hd, hel, hmem, hn, hf⟩ := hso
    have hb' : es.size < scanBound := by rw [hn]; omega
    have hf' : ({ t with led := false } : SetTable).fits es.size = true := by cases t; exact hf
    unfold setUnled
    refine wpAny_bind (wpAny_setState_of ho hd hf ?_)
    dsimp only
    refine wpAny_storeSet_of ho hd ?_ (fits_of_scanBound hb')
    obtain ⟨_, hS⟩ := SetOf_store (knd := strKind p w) ho hex hd hel hmem hb' hf'
    obtain ⟨so', ho', hso'⟩ := hS.objOf
    rw [hn] at hso'
    have hsb := Heap.SameBut.update s.heap a (Obj.putSet es { t with led := false })
    have := k _ so' hsb.1 hsb.2 ho' (by rw [List.append_nil]; exact hso')
    exact this
  | v :: vs, done, c :: cs, s, O, hl, hv, nd, hb, ho, hso, k => by
    obtain ⟨t, hvt⟩ := hv 0 c rfl
    simp only [List.getElem?_cons_zero, Option.some.injEq] at hvt
    subst hvt
    have hb1 : done.length + 1 < scanBound := by simp only [List.length_cons] at hb; omega
    have hnot : oneIn done (tx [c]) = false := by
      have : c ∉ done := by
        intro hc
        have := (List.nodup_append.mp nd).2.2 c hc c (.head _)
        exact this rfl
      unfold oneIn
      simp [this]
    refine kds_fill_cons ?_
    unfold setAdd
    refine wpAny_holding (wpAny_bind ((strKind p w).pyHash (strKind_is _ _ _ _) ?_))
    refine wpAny_setAddHashed_of (s := { s with toks := s.toks + 1 }) (strKind_is _ _ _ _) rfl (hso.setOf ho (by omega)) hb1 fun h' hsb hS' => ?_
    obtain ⟨so', ho', hso'⟩ := hS'.objOf
    rw [hnot, if_neg Bool.false_ne_true, oneIn_snoc] at hso'
    have e2 : done ++ c :: cs = (done ++ [c]) ++ cs := by rw [List.append_assoc]; rfl
    refine wp_fill (done := done ++ [c]) (cs := cs) (s := { s with heap := h', toks := s.toks + 1 }) (O := so') (by simpa using hl) (fun i c' hc => hv (i + 1) c' (by simpa using hc)) (by rw [← e2]; exact nd)
      (by rw [List.length_append]; simp only [List.length_cons, List.length_nil] at hb ⊢; omega) ho' (by rw [List.length_append]; exact hso') fun h'' O' a1 a2 a3 a4 => ?_
    have := k h'' O' (a1.trans hsb.1) (fun b hb => (a2 b hb).trans (hsb.2 b hb)) a3 (by rw [e2]; exact a4)
    have e : s.toks + 1 + cs.length = s.toks + (c :: cs).length := by rw [List.length_cons]; omega
    show Q _ { s with heap := h'', toks := s.toks + 1 + cs.length }
    rw [e]; exact this
  | [], _, _ :: _, _, _, hl, _, _, _, _, _, _ => by simp at hl
  | _ :: _, _, [], _, _, hl, _, _, _, _, _, _ => by simp at hl

theorem isCs_plain : ∀ {es : List PySem.Expr} {cs : List Nat}, isCs es cs = true → es.all kdsPlain = true ∧ es.length = cs.length
  | [], [], _ => ⟨rfl, rfl⟩
  | [], _ :: _, h => by simp [isCs] at h
  | e :: es, [], h => by cases e <;> simp [isCs] at h
  | e :: es, c :: cs, h => by
    cases e with
    | Constant k0 x1 x2 =>
      cases k0 with
      | str t =>
        simp only [isCs, Bool.and_eq_true, beq_iff_eq] at h
        have := isCs_plain h.2
        exact ⟨by rw [List.all_cons, this.1]; rfl, by rw [List.length_cons, List.length_cons, this.2]⟩
      | _ => simp [isCs] at h
    | _ => simp [isCs] at h

theorem wp_set {elts : List PySem.Expr} {cs : List Nat} {k : Nat} {pos : Pos} {env : Env} {s : Shared} {K : Frag} (X : K.In s.heap) (hc : kdsCode K env.code = true) (h : isCs elts cs = true) (hr : displayRoad k elts = .unsure) (hn : cs.Nodup) (hl : cs.length ≤ 30) :
    wpAny (model p w) A (eval (.Set elts k pos) env) (fun v s' => ∃ O, SetMade p w cs s v s' O) E s := by
  have hp := isCs_plain h
  rw [arm_eval_Set]
  refine wpAny_bind (wpAny_standAt ?_)
  refine wpAny_bind (kds_main X hc fun b => ?_)
  rw [kds_star elts hp.1, List.map_map]
  refine kds_core (ts := (evalEach elts env).map fun t => do let v ← t; standAt pos; pure v) (by rw [hr]; rfl) ?_ ?_ ?_ fun led => ?_
  · refine List.findIdx?_eq_none_iff.mpr fun x hx => ?_
    obtain ⟨t, _, rfl⟩ := List.mem_map.mp hx
    rfl
  · rw [List.length_map, kds_len, hp.2]; exact hl
  · rw [List.map_map]; rfl
  · refine kds_all pos elts _ _ (wp_consts env h fun vs hvl hv => ?_)
    rw [hr]
    have hsb : scanBound = 4096 := rfl
    refine wp_fill (done := []) (cs := cs) (O := { cls := .type "set", dict := none, data := .set #[] 0 (.fresh 0 0 led) }) hvl hv (by simpa using hn) (by rw [hsb]; simp; omega) ?_ ?_ fun h' O a1 a2 a3 a4 => ?_
    · show (s.heap.push _).get? _ = _
      rw [get_push, if_pos rfl]; rfl
    · have : oneIn [] = fun _ => false := by
        funext k'
        unfold oneIn
        split <;> simp
      rw [this]
      exact setObjOf_fresh led
    · refine ⟨O, rfl, a1.trans (Heap.size_push ..), fun b hb => ?_, a3, by simpa using a4, rfl, rfl, rfl, ?_⟩
      · refine (a2 b (Nat.ne_of_lt hb)).trans ?_
        show (s.heap.push _).get? b = s.heap.get? b
        rw [get_push, if_neg (Nat.ne_of_lt hb)]
      · show s.toks + cs.length + cs.length = s.toks + 2 * cs.length
        omega
end
end Mine
namespace Mine
open PySem PySem.W PySem.Calls PyProof.Rows
set_option autoImplicit false
set_option maxRecDepth 100000

noncomputable abbrev Stp := SharedT → Thread → Option (SharedT × Thread)
/-- up to the thread's end -/
noncomputable def goT (st : Stp) : Nat → SharedT → Thread → Option SharedT
  | 0, _, _ => none
  | n + 1, s, t => match t.calm with
    | false => none
    | true => match through t with
      | true => some s
      | false => match st s t with
        | some (s', t') => goT st n s' t'
        | none => none
noncomputable def callOf (t : Thread) : Option (List Stmt × Env) := match t.cur with
  | .call (.body b env) _ _ _ _ => some (b, env)
  | _ => none
noncomputable def codeIn (T : SharedT) : Value → Bool
  | .ref a => Nat.blt a T.n && (match T.tree.get a with
    | some ⟨_, _, .fields _, _⟩ => true
    | _ => false)
  | _ => false
noncomputable def isUnsure : DisplayRoad → Bool
  | .unsure => true
  | _ => false
noncomputable def preD (tgt : PySem.Expr) (v : PySem.Expr) (ap : Pos) (env : Env) : Sem Bool := do
  standAt ap
  swapsWithSole [tgt] v ap.line env
noncomputable def postD (tgt : PySem.Expr) (v : PySem.Expr) (env : Env) (x : Value) : Sem Flow := do
  assignStores env x (← swappedStores [tgt] v env) ((assignEach [tgt] env).map (·.2))
noncomputable def nextOf : Flow × SharedT × Code × Pos → Option (SharedT × Code × Pos)
  | (.next, r) => some r
  | _ => none
noncomputable def setAfter (T : SharedT) (O : Obj) (k : Nat) : Option SharedT := match ((T.tree.ins T.n O).get T.n).isSome with
  | true => some ⟨T.tree.ins T.n O, T.n + 1, T.life, T.gens, T.drawn, T.toks + k, T.os⟩
  | false => none
/-- a class body's statement that binds a set display, over the tree heap -/
noncomputable def disp (st : Stp) (stm : Stmt) (env : Env) (cs : List Nat) (B : List Frame) (O : Obj) (q : Pos) (T : SharedT) (c : Code) (p : Pos) : Option (SharedT × Code × Pos) := match stm with
  | .Assign [tgt] (.Set elts k sp) ap => match isCs elts cs && isUnsure (displayRoad k elts) with
    | true => (segN st B.length 100 T ⟨(preD tgt (.Set elts k sp) ap env).wrap (fun x => doneF (match x with | true => .brk | false => .next)) deadEnd id id, c, p, B⟩).bind fun r => (nextOf r).bind fun r => match codeIn r.1 env.code with
      | true => (setAfter r.1 O (2 * cs.length)).bind fun T' => (segN st B.length 200 T' ⟨(postD tgt (.Set elts k sp) env (.ref r.1.n)).wrap doneF deadEnd id id, r.2.1, q, B⟩).bind nextOf
      | false => none
    | false => none
  | _ => none
noncomputable def four : List Stmt → Option (Stmt × Stmt × Stmt × Stmt × List Stmt)
  | a :: b :: c :: d :: r => some (a, b, c, d, r)
  | _ => none
noncomputable def gvS : List Nat := [97, 101, 105, 111, 117, 121, 228, 246, 252]
noncomputable def getS : List Nat := [85, 100, 102, 103, 107, 108, 109, 110, 114, 115, 116, 122, 228]
noncomputable def gsS : List Nat := [98, 100, 102, 103, 104, 107, 108, 109, 110, 114, 116]
noncomputable def gstS : List Nat := [98, 100, 102, 103, 104, 107, 108, 109, 110, 116]
noncomputable def stc (st : Stp) (T : SharedT) (t : Thread) : Option (SharedT × Thread) := match t.calm with
  | true => st T t
  | false => none
/-- the top up to the end of the class body, the four set objects and the places behind them open -/
noncomputable def chainP (st : Stp) (ex : List Stmt → Env → Sem Flow) (O1 O2 O3 O4 : Obj) (q1 q2 q3 q4 : Pos) (T0 : SharedT) (t0 : Thread) : Option ((SharedT × Code × Pos) × List Frame) :=
  (goN st 1340 T0 t0).bind fun r1 => (callOf r1.2).bind fun be => (stc st r1.1 r1.2).bind fun r2 => match splitAtGen r2.2.stack with
    | none => (segN st r2.2.stack.length 100 r2.1 ⟨(blockStart be.1 be.2).wrap (fun _ => doneF .next) deadEnd id id, r2.2.code, r2.2.pos, r2.2.stack⟩).bind fun r3 => (nextOf r3).bind fun r3 => (four be.1).bind fun f =>
      (disp st f.1 be.2 gvS r2.2.stack O1 q1 r3.1 r3.2.1 r3.2.2).bind fun d1 =>
      (disp st f.2.1 be.2 getS r2.2.stack O2 q2 d1.1 d1.2.1 d1.2.2).bind fun d2 =>
      (disp st f.2.2.1 be.2 gsS r2.2.stack O3 q3 d2.1 d2.2.1 d2.2.2).bind fun d3 =>
      (disp st f.2.2.2.1 be.2 gstS r2.2.stack O4 q4 d3.1 d3.2.1 d3.2.2).bind fun d4 =>
      (segN st r2.2.stack.length 10000 d4.1 ⟨(ex f.2.2.2.2 be.2).wrap doneF deadEnd id id, d4.2.1, d4.2.2, r2.2.stack⟩).bind fun r5 => (nextOf r5).map fun r5 => (r5, r2.2.stack)
    | some _ => none
/-- the rest of the top -/
noncomputable def chainE (st : Stp) (r : (SharedT × Code × Pos) × List Frame) : Option SharedT := goT st 3000 r.1.1 ⟨.pure (.done .next), r.1.2.1, r.1.2.2, r.2⟩
noncomputable def Shp (O : Obj) : Prop := ∃ es n t, O = ⟨.type "set", none, .set es n t, #[]⟩
theorem shp_of {p : Program} {w : World} {O : Obj} {S : Str → Bool} {n : Nat} (h : O.SetObjOf (strKind p w) S n) : Shp O := by
  obtain ⟨⟨a, b, c⟩, es, ep, t, hd, _⟩ := h
  obtain ⟨x, y, z, v⟩ := O
  dsimp only at a b c hd
  subst a b c hd
  exact ⟨es, ep, t, rfl⟩
noncomputable def anySet : Obj := ⟨.type "set", none, .set #[] 0 (.fresh 0 0 true), #[]⟩
theorem shp_any : Shp anySet := ⟨_, _, _, rfl⟩

section
variable {p : Program} {w : World} {Post : Shared → Prop}

theorem goT_ends : ∀ {n : Nat} {T T' : SharedT} {s : Shared} {t : Thread}, goT (stepT (denote table) p w) n T t = some T' → Rep T s → (∀ s', Rep T' s' → s'.gens = #[] ∧ Post s') → Ends p w Post s t
  | 0, _, _, _, _, h, _, _ => by cases h
  | n + 1, T, T', s, t, h, R, k => by
    unfold goT at h
    cases hc : t.calm with
    | false => rw [hc] at h; cases h
    | true =>
      rw [hc] at h
      cases ht : through t with
      | true =>
        rw [ht] at h
        cases h
        obtain ⟨cur, code, pos, stack⟩ := t
        have k' := k s R
        cases stack with
        | cons f fs => simp [through] at ht
        | nil =>
          cases cur with
          | pure f => cases f with
            | done f => exact Ends.done hc k'.1 k'.2
            | again c => simp [through] at ht
          | _ => simp [through] at ht
      | false =>
        rw [ht] at h
        cases hs : stepT (denote table) p w T t with
        | none => rw [hs] at h; cases h
        | some r =>
          obtain ⟨T₁, t₁⟩ := r
          rw [hs] at h
          obtain ⟨s₁, h1, R1⟩ := step_rep hs R
          exact Ends.step h1 hc (goT_ends h R1 k)

theorem nextOf_some {r : Flow × SharedT × Code × Pos} {x : SharedT × Code × Pos} (h : nextOf r = some x) : r = (.next, x) := by
  obtain ⟨f, r⟩ := r
  cases f <;> first | (cases h; rfl) | cases h

theorem call_step {T T' : SharedT} {s : Shared} {t t' : Thread} {b : List Stmt} {env : Env} (hc : callOf t = some (b, env)) (h : stepT (denote table) p w T t = some (T', t')) (hcalm : t.calm = true) (R : Rep T s)
    (k : ∀ s', Rep T' s' → Ends p w Post s' ⟨denote table (.body b env), t'.code, t'.pos, t'.stack⟩) : Ends p w Post s t := by
  obtain ⟨cur, code, pos, stack⟩ := t
  obtain ⟨s', h1, R1⟩ := step_rep h R
  refine Ends.step h1 hcalm ?_
  have : t'.cur = denote table (.body b env) := by
    cases cur with
    | call c m g l kk =>
      cases c with
      | body b' env' =>
        simp only [callOf, Option.some.injEq, Prod.mk.injEq] at hc
        obtain ⟨rfl, rfl⟩ := hc
        obtain ⟨heap, gens, drawn, toks, os⟩ := s
        simp only [PySem.step, Step.go.injEq] at h1
        rw [← h1.2]
      | _ => simp [callOf] at hc
    | _ => simp [callOf] at hc
  obtain ⟨cur', code', pos', stack'⟩ := t'
  dsimp only at this
  subst this
  exact k s' R1

theorem wrap_id_bind {α : Type} (x : Sem α) (f : α → Sem Fin) (K : α → Sem Fin) (H : Value → Sem Fin) : x.wrap K H id id = x.wrap K H id id := rfl

theorem bind_wrap {α β : Type} (x : Sem α) (f : α → Sem β) (K : β → Sem Fin) (H : Value → Sem Fin) : (x >>= f).wrap K H id id = x.wrap (fun a => (f a).wrap K H id id) H id id := by
  rw [Sem.bind_eq_wrap', Sem.wrap_wrap]
  rfl

theorem codeIn_frag {T : SharedT} {s : Shared} {v : Value} (R : Rep T s) (h : codeIn T v = true) : ∃ K : Frag, K.In s.heap ∧ kdsCode K v = true := by
  cases v with
  | ref a =>
    simp only [codeIn, Bool.and_eq_true] at h
    obtain ⟨h1, h2⟩ := h
    obtain ⟨o, e1, e2⟩ := R.at_ a (Nat.le_of_ble_eq_true h1)
    rw [e1] at h2
    obtain ⟨x, y, d, z⟩ := o
    cases d with
    | fields vs =>
      refine ⟨[(a, ⟨x, y, .fields vs, z⟩)], fun b o' hb => ?_, ?_⟩
      · by_cases q : b = a
        · subst q
          simp only [List.lookup, beq_self_eq_true, Option.some.injEq] at hb
          subst hb
          exact e2
        · have : (b == a) = false := beq_eq_false_iff_ne.mpr q
          simp [List.lookup, this] at hb
      · simp [kdsCode, List.lookup]
    | _ => simp at h2
  | _ => simp [codeIn] at h

theorem set_rep {T T' : SharedT} {s s' : Shared} {cs : List Nat} {v : Value} {O : Obj} (R : Rep T s) (M : SetMade p w cs s v s' O) (h : setAfter T O (2 * cs.length) = some T') : Rep T' s' := by
  unfold setAfter at h
  cases e : ((T.tree.ins T.n O).get T.n).isSome with
  | false => rw [e] at h; cases h
  | true =>
    rw [e] at h
    cases h
    have hd : O.isFreed = false := by
      obtain ⟨_, es, ep, t, hd, _⟩ := M.set
      obtain ⟨a, b, d, c⟩ := O
      dsimp only at hd; subst hd; rfl
    refine ⟨by rw [M.size, R.size], fun a ha => ?_, M.gens.trans R.gens, M.drawn.trans R.drawn, by rw [M.toks, R.toks], M.os.trans R.os⟩
    show ∃ o, (T.tree.ins T.n O).get a = some o ∧ _
    rw [BT.get_ins O T.tree T.n e]
    by_cases q : a = T.n
    · rw [if_pos q]
      refine ⟨O, rfl, ?_⟩
      rw [alive_live hd, q, ← R.size]; exact M.new
    · rw [if_neg q]
      have ha : a < T.n + 1 := ha
      have ha' : a < T.n := by omega
      obtain ⟨o, e1, e2⟩ := R.at_ a ha'
      exact ⟨o, e1, (M.old a (by rw [R.size]; exact ha')).trans e2⟩

theorem disp_ends {stm : Stmt} {env : Env} {cs : List Nat} {B : List Frame} {T : SharedT} {c : Code} {pos : Pos} {s : Shared} {K : Flow → Sem Fin} {H : Value → Sem Fin} (hB : splitAtGen B = none) (hn : cs.Nodup) (hl : cs.length ≤ 30)
    (hsome : ∀ O q, Shp O → ∃ r, disp (stepT (denote table) p w) stm env cs B O q T c pos = some r) (R : Rep T s)
    (k : ∀ O q r s', O.SetObjOf (strKind p w) (oneIn cs) cs.length → disp (stepT (denote table) p w) stm env cs B O q T c pos = some r → Rep r.1 s' → Ends p w Post s' ⟨K .next, r.2.1, r.2.2, B⟩) :
    Ends p w Post s ⟨(exec stm env).wrap K H id id, c, pos, B⟩ := by
  have h0 := hsome anySet default shp_any
  obtain ⟨r0, h0⟩ := h0
  unfold disp at h0
  split at h0
  · rename_i tgt elts kk sp ap
    cases hcs : (isCs elts cs && isUnsure (displayRoad kk elts)) with
    | false => rw [hcs] at h0; cases h0
    | true =>
      rw [hcs] at h0
      obtain ⟨r1, e1, h0⟩ := Option.bind_eq_some_iff.mp h0
      obtain ⟨r2, e2, h0⟩ := Option.bind_eq_some_iff.mp h0
      cases hco : codeIn r2.1 env.code with
      | false => rw [hco] at h0; cases h0
      | true =>
        have er := nextOf_some e2
        subst er
        obtain ⟨T2, c2, p2⟩ := r2
        have hun : displayRoad kk elts = .unsure := by
          have := (Bool.and_eq_true_iff.mp hcs).2
          revert this
          cases displayRoad kk elts <;> simp [isUnsure]
        have ew : (exec (.Assign [tgt] (.Set elts kk sp) ap) env).wrap K H id id = (preD tgt (.Set elts kk sp) ap env).wrap (fun b => (if b = true then (do
              evalThenUse (.Set elts kk sp) env fun v => assignAll v ((assignEach [tgt] env).map (·.2))
              pure Flow.next) else (do
              let v ← eval (.Set elts kk sp) env
              assignStores env v (← swappedStores [tgt] (.Set elts kk sp) env) ((assignEach [tgt] env).map (·.2)) : Sem Flow)).wrap K H id id) H id id := by
          rw [arm_exec_Assign]
          unfold preD
          simp only [bind_wrap]
        rw [ew]
        refine segN_ends (res := fun x => match x with | true => .brk | false => .next) hB (.inl ⟨rfl, rfl, _, rfl, rfl⟩ |> fun z => ⟨rfl, rfl, z⟩) e1 R fun a s1 ha R1 => ?_
        have ha : a = false := by cases a <;> first | rfl | cases ha
        subst ha
        obtain ⟨K0, X0, hk0⟩ := codeIn_frag R1 hco
        show Ends p w Post s1 ⟨(do
              let v ← eval (.Set elts kk sp) env
              postD tgt (.Set elts kk sp) env v : Sem Flow).wrap K H id id, c2, p2, B⟩
        rw [bind_wrap]
        refine Ends.wp (fun A => wp_set X0 hk0 (Bool.and_eq_true_iff.mp hcs).1 hun hn hl) fun v s2 q hv => ?_
        obtain ⟨O, M⟩ := hv
        obtain ⟨r, hr⟩ := hsome O q (shp_of M.set)
        have hr0 := hr
        unfold disp at hr
        dsimp only at hr
        rw [hcs] at hr
        dsimp only at hr
        rw [e1, Option.bind_some, e2, Option.bind_some, hco] at hr
        dsimp only at hr
        obtain ⟨T', e3, hr⟩ := Option.bind_eq_some_iff.mp hr
        obtain ⟨r4, e4, e5⟩ := Option.bind_eq_some_iff.mp hr
        have er := nextOf_some e5
        subst er
        obtain ⟨T4, c4, p4⟩ := r
        have R2 := set_rep R1 M e3
        have hv : v = .ref T2.n := by rw [M.val, R1.size]
        subst hv
        refine segN_ends (res := id) hB (.inl ⟨rfl, rfl, _, rfl, rfl⟩ |> fun z => ⟨rfl, rfl, z⟩) e4 R2 fun a s3 ha R3 => ?_
        obtain rfl : a = .next := ha
        exact k O q _ s3 M.set hr0 R3
  · cases h0

theorem next_seg {T : SharedT} {B : List Frame} {code : Code} {pos : Pos} {s : Shared} {x : Sem Flow} {r : SharedT × Code × Pos} {K : Flow → Sem Fin} {H : Value → Sem Fin} {n : Nat} (hB : splitAtGen B = none)
    (h : (segN (stepT (denote table) p w) B.length n T ⟨x.wrap doneF deadEnd id id, code, pos, B⟩).bind nextOf = some r) (R : Rep T s) (k : ∀ s', Rep r.1 s' → Ends p w Post s' ⟨K .next, r.2.1, r.2.2, B⟩) :
    Ends p w Post s ⟨x.wrap K H id id, code, pos, B⟩ := by
  obtain ⟨r4, e4, e5⟩ := Option.bind_eq_some_iff.mp h
  have er := nextOf_some e5
  subst er
  obtain ⟨T4, c4, p4⟩ := r
  refine segN_ends (res := id) hB (.inl ⟨rfl, rfl, _, rfl, rfl⟩ |> fun z => ⟨rfl, rfl, z⟩) e4 R fun a s3 ha R3 => ?_
  obtain rfl : a = .next := ha
  exact k s3 R3

/-- the head: the top comes to its end -/
theorem chain_ends {T0 : SharedT} {t0 : Thread} {s : Shared} (R : Rep T0 s)
    (hsome : ∀ O1 O2 O3 O4 q1 q2 q3 q4, Shp O1 → Shp O2 → Shp O3 → Shp O4 → ∃ r TF, chainP (stepT (denote table) p w) execs O1 O2 O3 O4 q1 q2 q3 q4 T0 t0 = some r ∧ chainE (stepT (denote table) p w) r = some TF)
    (k : ∀ O1 O2 O3 O4 q1 q2 q3 q4 r TF s', O1.SetObjOf (strKind p w) (oneIn gvS) 9 → O2.SetObjOf (strKind p w) (oneIn getS) 13 → O3.SetObjOf (strKind p w) (oneIn gsS) 11 → O4.SetObjOf (strKind p w) (oneIn gstS) 10 →
      chainP (stepT (denote table) p w) execs O1 O2 O3 O4 q1 q2 q3 q4 T0 t0 = some r → chainE (stepT (denote table) p w) r = some TF → Rep TF s' → s'.gens = #[] ∧ Post s') : Ends p w Post s t0 := by
  have pd : Pos := default
  obtain ⟨r0, TF0, h0, _⟩ := hsome anySet anySet anySet anySet pd pd pd pd shp_any shp_any shp_any shp_any
  unfold chainP at h0
  obtain ⟨⟨T1, t1⟩, e1, h0⟩ := Option.bind_eq_some_iff.mp h0
  obtain ⟨⟨b, env⟩, e2, h0⟩ := Option.bind_eq_some_iff.mp h0
  obtain ⟨⟨T2, t2⟩, e3, h0⟩ := Option.bind_eq_some_iff.mp h0
  dsimp only at h0 e2 e3
  refine goN_ends e1 R fun s1 R1 => ?_
  have ec : t1.calm = true ∧ stepT (denote table) p w T1 t1 = some (T2, t2) := by
    unfold stc at e3
    cases q : t1.calm with
    | false => rw [q] at e3; cases e3
    | true => rw [q] at e3; exact ⟨rfl, e3⟩
  refine call_step e2 ec.2 ec.1 R1 fun s2 R2 => ?_
  cases hB : splitAtGen t2.stack with
  | some x => rw [hB] at h0; cases h0
  | none =>
    rw [hB] at h0
    dsimp only at h0
    obtain ⟨r3, e4, h0⟩ := Option.bind_eq_some_iff.mp h0
    obtain ⟨r3', e5, h0⟩ := Option.bind_eq_some_iff.mp h0
    obtain ⟨⟨sa, sb, sc, sd, rest⟩, e6, h0⟩ := Option.bind_eq_some_iff.mp h0
    have er := nextOf_some e5
    subst er
    have hb : b = sa :: sb :: sc :: sd :: rest := by
      match b, e6 with
      | x1 :: x2 :: x3 :: x4 :: r, e6 => cases e6; rfl
      | [], e6 => cases e6
      | [_], e6 => cases e6
      | [_, _], e6 => cases e6
      | [_, _, _], e6 => cases e6
    -- what the whole chain says behind the shared beginning
    have whole : ∀ O1 O2 O3 O4 q1 q2 q3 q4, chainP (stepT (denote table) p w) execs O1 O2 O3 O4 q1 q2 q3 q4 T0 t0 =
      (disp (stepT (denote table) p w) sa env gvS t2.stack O1 q1 r3'.1 r3'.2.1 r3'.2.2).bind fun d1 =>
      (disp (stepT (denote table) p w) sb env getS t2.stack O2 q2 d1.1 d1.2.1 d1.2.2).bind fun d2 =>
      (disp (stepT (denote table) p w) sc env gsS t2.stack O3 q3 d2.1 d2.2.1 d2.2.2).bind fun d3 =>
      (disp (stepT (denote table) p w) sd env gstS t2.stack O4 q4 d3.1 d3.2.1 d3.2.2).bind fun d4 =>
      (segN (stepT (denote table) p w) t2.stack.length 10000 d4.1 ⟨(execs rest env).wrap doneF deadEnd id id, d4.2.1, d4.2.2, t2.stack⟩).bind fun r5 => (nextOf r5).map fun r5 => (r5, t2.stack) := by
      intro O1 O2 O3 O4 q1 q2 q3 q4
      unfold chainP
      rw [e1, Option.bind_some, e2, Option.bind_some, e3, Option.bind_some, hB]
      dsimp only
      rw [e4, Option.bind_some, e5, Option.bind_some, e6, Option.bind_some]
    rw [body_wrap]
    refine segN_ends (res := fun _ : Unit => Flow.next) (K' := fun _ => (execs b env).wrap doneF (leaveH env) id id) (H' := Sem.raise) hB (.inl ⟨rfl, rfl, _, rfl, rfl⟩ |> fun z => ⟨rfl, rfl, z⟩) e4 R2 fun _ s3 _ R3 => ?_
    rw [hb, execs_cons_wrap]
    refine disp_ends (cs := gvS) hB (by decide) (by decide) (fun O q hO => ?_) R3 fun O1 q1 d1 s4 hO1 f1 R4 => ?_
    · obtain ⟨_, _, h, _⟩ := hsome O anySet anySet anySet q pd pd pd hO shp_any shp_any shp_any
      rw [whole] at h
      obtain ⟨r, h, _⟩ := Option.bind_eq_some_iff.mp h
      exact ⟨r, h⟩
    dsimp only
    rw [execs_cons_wrap]
    refine disp_ends (cs := getS) hB (by decide) (by decide) (fun O q hO => ?_) R4 fun O2 q2 d2 s5 hO2 f2 R5 => ?_
    · obtain ⟨_, _, h, _⟩ := hsome O1 O anySet anySet q1 q pd pd (shp_of hO1) hO shp_any shp_any
      rw [whole, f1, Option.bind_some] at h
      obtain ⟨r, h, _⟩ := Option.bind_eq_some_iff.mp h
      exact ⟨r, h⟩
    dsimp only
    rw [execs_cons_wrap]
    refine disp_ends (cs := gsS) hB (by decide) (by decide) (fun O q hO => ?_) R5 fun O3 q3 d3 s6 hO3 f3 R6 => ?_
    · obtain ⟨_, _, h, _⟩ := hsome O1 O2 O anySet q1 q2 q pd (shp_of hO1) (shp_of hO2) hO shp_any
      rw [whole, f1, Option.bind_some, f2, Option.bind_some] at h
      obtain ⟨r, h, _⟩ := Option.bind_eq_some_iff.mp h
      exact ⟨r, h⟩
    dsimp only
    rw [execs_cons_wrap]
    refine disp_ends (cs := gstS) hB (by decide) (by decide) (fun O q hO => ?_) R6 fun O4 q4 d4 s7 hO4 f4 R7 => ?_
    · obtain ⟨_, _, h, _⟩ := hsome O1 O2 O3 O q1 q2 q3 q (shp_of hO1) (shp_of hO2) (shp_of hO3) hO
      rw [whole, f1, Option.bind_some, f2, Option.bind_some, f3, Option.bind_some] at h
      obtain ⟨r, h, _⟩ := Option.bind_eq_some_iff.mp h
      exact ⟨r, h⟩
    obtain ⟨rr, TF, hTF, hE⟩ := hsome O1 O2 O3 O4 q1 q2 q3 q4 (shp_of hO1) (shp_of hO2) (shp_of hO3) (shp_of hO4)
    have hT := hTF
    rw [whole, f1, Option.bind_some, f2, Option.bind_some, f3, Option.bind_some, f4, Option.bind_some] at hT
    obtain ⟨r5, e7, hT⟩ := Option.bind_eq_some_iff.mp hT
    obtain ⟨r5', e8, hT⟩ := Option.map_eq_some_iff.mp hT
    subst hT
    show Ends p w Post s7 ⟨(execs rest env).wrap doneF (leaveH env) id id, d4.2.1, d4.2.2, t2.stack⟩
    refine next_seg (K := doneF) hB (r := r5') (by rw [e7]; exact e8) R7 fun s8 R8 => ?_
    exact goT_ends hE R8 fun s9 R9 => k O1 O2 O3 O4 q1 q2 q3 q4 _ TF s9 hO1 hO2 hO3 hO4 hTF hE R9
end
end Mine
namespace Mine
open PySem PySem.W PySem.Calls PyProof.Rows
set_option autoImplicit false
set_option maxRecDepth 100000

theorem execs_cat {env : Env} (l r : List Stmt) : execs (l ++ r) env = (execs l env >>= fun f => match f with | .next => execs r env | f => pure f) := by
  induction l with
  | nil => rfl
  | cons st l ih =>
    rw [List.cons_append, execs_cons, execs_cons, ih]
    show Sem.bind _ _ = Sem.bind (Sem.bind _ _) _
    rw [Sem.bind_assoc]
    congr 1
    funext f
    cases f <;> rfl

/-- the code of the class's body, as it is run -/
noncomputable def codeQ (st : Stp) (T0 : SharedT) (t0 : Thread) : Code := match goN st 1340 T0 t0 with
  | some r1 => (match stc st r1.1 r1.2 with
    | some r2 => r2.2.code
    | none => t0.code)
  | none => t0.code
/-- the top up to the k-th statement behind the displays -/
noncomputable def chainA (st : Stp) (ex : List Stmt → Env → Sem Flow) (k : Nat) (O1 O2 O3 O4 : Obj) (q1 q2 q3 q4 : Pos) (T0 : SharedT) (t0 : Thread) : Option (SharedT × Code × Pos) :=
  (goN st 1340 T0 t0).bind fun r1 => (callOf r1.2).bind fun be => (stc st r1.1 r1.2).bind fun r2 => match splitAtGen r2.2.stack with
    | none => (segN st r2.2.stack.length 100 r2.1 ⟨(blockStart be.1 be.2).wrap (fun _ => doneF .next) deadEnd id id, r2.2.code, r2.2.pos, r2.2.stack⟩).bind fun r3 => (nextOf r3).bind fun r3 => (four be.1).bind fun f =>
      (disp st f.1 be.2 gvS r2.2.stack O1 q1 r3.1 r3.2.1 r3.2.2).bind fun d1 =>
      (disp st f.2.1 be.2 getS r2.2.stack O2 q2 d1.1 d1.2.1 d1.2.2).bind fun d2 =>
      (disp st f.2.2.1 be.2 gsS r2.2.stack O3 q3 d2.1 d2.2.1 d2.2.2).bind fun d3 =>
      (disp st f.2.2.2.1 be.2 gstS r2.2.stack O4 q4 d3.1 d3.2.1 d3.2.2).bind fun d4 =>
      (segN st r2.2.stack.length 10000 d4.1 ⟨(ex (f.2.2.2.2.take k) be.2).wrap doneF deadEnd id id, d4.2.1, d4.2.2, r2.2.stack⟩).bind nextOf
    | some _ => none
/-- m statements from the k-th on -/
noncomputable def chainM (st : Stp) (ex : List Stmt → Env → Sem Flow) (k m : Nat) (T : SharedT) (c : Code) (p : Pos) (T0 : SharedT) (t0 : Thread) : Option (SharedT × Code × Pos) :=
  (goN st 1340 T0 t0).bind fun r1 => (callOf r1.2).bind fun be => (stc st r1.1 r1.2).bind fun r2 => (four be.1).bind fun f =>
    (segN st r2.2.stack.length 10000 T ⟨(ex ((f.2.2.2.2.drop k).take m) be.2).wrap doneF deadEnd id id, c, p, r2.2.stack⟩).bind nextOf
/-- the rest of the class's body and of the top -/
noncomputable def chainL (st : Stp) (ex : List Stmt → Env → Sem Flow) (k : Nat) (T : SharedT) (c : Code) (p : Pos) (T0 : SharedT) (t0 : Thread) : Option SharedT :=
  (goN st 1340 T0 t0).bind fun r1 => (callOf r1.2).bind fun be => (stc st r1.1 r1.2).bind fun r2 => (four be.1).bind fun f =>
    ((segN st r2.2.stack.length 10000 T ⟨(ex (f.2.2.2.2.drop k) be.2).wrap doneF deadEnd id id, c, p, r2.2.stack⟩).bind nextOf).bind fun r5 => goT st 3000 r5.1 ⟨.pure (.done .next), r5.2.1, r5.2.2, r2.2.stack⟩

section
variable {p : Program} {w : World} {Post : Shared → Prop}

/-- the head: the top comes to its end -/
theorem chain_ends3 {T0 : SharedT} {t0 : Thread} {s : Shared} (R : Rep T0 s) {k m : Nat} {U1 U2 : Obj → Obj → Obj → Obj → SharedT} {p1 p2 : Pos} {F : Obj → Obj → Obj → Obj → SharedT → Prop}
    (hA : ∀ O1 O2 O3 O4 q1 q2 q3 q4, Shp O1 → Shp O2 → Shp O3 → Shp O4 → chainA (stepT (denote table) p w) execs k O1 O2 O3 O4 q1 q2 q3 q4 T0 t0 = some (U1 O1 O2 O3 O4, codeQ (stepT (denote table) p w) T0 t0, p1))
    (hM : ∀ O1 O2 O3 O4, Shp O1 → Shp O2 → Shp O3 → Shp O4 → chainM (stepT (denote table) p w) execs k m (U1 O1 O2 O3 O4) (codeQ (stepT (denote table) p w) T0 t0) p1 T0 t0 = some (U2 O1 O2 O3 O4, codeQ (stepT (denote table) p w) T0 t0, p2))
    (hL : ∀ O1 O2 O3 O4, Shp O1 → Shp O2 → Shp O3 → Shp O4 → ∃ TF, chainL (stepT (denote table) p w) execs (k + m) (U2 O1 O2 O3 O4) (codeQ (stepT (denote table) p w) T0 t0) p2 T0 t0 = some TF ∧ F O1 O2 O3 O4 TF)
    (fin : ∀ O1 O2 O3 O4 TF s', O1.SetObjOf (strKind p w) (oneIn gvS) 9 → O2.SetObjOf (strKind p w) (oneIn getS) 13 → O3.SetObjOf (strKind p w) (oneIn gsS) 11 → O4.SetObjOf (strKind p w) (oneIn gstS) 10 →
      F O1 O2 O3 O4 TF → Rep TF s' → s'.gens = #[] ∧ Post s') : Ends p w Post s t0 := by
  have pd : Pos := default
  have h0 := hA anySet anySet anySet anySet pd pd pd pd shp_any shp_any shp_any shp_any
  unfold chainA at h0
  obtain ⟨⟨T1, t1⟩, e1, h0⟩ := Option.bind_eq_some_iff.mp h0
  obtain ⟨⟨b, env⟩, e2, h0⟩ := Option.bind_eq_some_iff.mp h0
  obtain ⟨⟨T2, t2⟩, e3, h0⟩ := Option.bind_eq_some_iff.mp h0
  dsimp only at h0 e2 e3
  refine goN_ends e1 R fun s1 R1 => ?_
  have ec : t1.calm = true ∧ stepT (denote table) p w T1 t1 = some (T2, t2) := by
    unfold stc at e3
    cases q : t1.calm with
    | false => rw [q] at e3; cases e3
    | true => rw [q] at e3; exact ⟨rfl, e3⟩
  refine call_step e2 ec.2 ec.1 R1 fun s2 R2 => ?_
  cases hB : splitAtGen t2.stack with
  | some x => rw [hB] at h0; cases h0
  | none =>
    rw [hB] at h0
    dsimp only at h0
    obtain ⟨r3, e4, h0⟩ := Option.bind_eq_some_iff.mp h0
    obtain ⟨r3', e5, h0⟩ := Option.bind_eq_some_iff.mp h0
    obtain ⟨⟨sa, sb, sc, sd, rest⟩, e6, h0⟩ := Option.bind_eq_some_iff.mp h0
    have er := nextOf_some e5
    subst er
    have hb : b = sa :: sb :: sc :: sd :: rest := by
      match b, e6 with
      | x1 :: x2 :: x3 :: x4 :: r, e6 => cases e6; rfl
      | [], e6 => cases e6
      | [_], e6 => cases e6
      | [_, _], e6 => cases e6
      | [_, _, _], e6 => cases e6
    -- what the whole chain says behind the shared beginning
    have whole : ∀ O1 O2 O3 O4 q1 q2 q3 q4, chainA (stepT (denote table) p w) execs k O1 O2 O3 O4 q1 q2 q3 q4 T0 t0 =
      (disp (stepT (denote table) p w) sa env gvS t2.stack O1 q1 r3'.1 r3'.2.1 r3'.2.2).bind fun d1 =>
      (disp (stepT (denote table) p w) sb env getS t2.stack O2 q2 d1.1 d1.2.1 d1.2.2).bind fun d2 =>
      (disp (stepT (denote table) p w) sc env gsS t2.stack O3 q3 d2.1 d2.2.1 d2.2.2).bind fun d3 =>
      (disp (stepT (denote table) p w) sd env gstS t2.stack O4 q4 d3.1 d3.2.1 d3.2.2).bind fun d4 =>
      (segN (stepT (denote table) p w) t2.stack.length 10000 d4.1 ⟨(execs (rest.take k) env).wrap doneF deadEnd id id, d4.2.1, d4.2.2, t2.stack⟩).bind nextOf := by
      intro O1 O2 O3 O4 q1 q2 q3 q4
      unfold chainA
      rw [e1, Option.bind_some, e2, Option.bind_some, e3, Option.bind_some, hB]
      dsimp only
      rw [e4, Option.bind_some, e5, Option.bind_some, e6, Option.bind_some]
    rw [body_wrap]
    refine segN_ends (res := fun _ : Unit => Flow.next) (K' := fun _ => (execs b env).wrap doneF (leaveH env) id id) (H' := Sem.raise) hB (.inl ⟨rfl, rfl, _, rfl, rfl⟩ |> fun z => ⟨rfl, rfl, z⟩) e4 R2 fun _ s3 _ R3 => ?_
    rw [hb, execs_cons_wrap]
    refine disp_ends (cs := gvS) hB (by decide) (by decide) (fun O q hO => ?_) R3 fun O1 q1 d1 s4 hO1 f1 R4 => ?_
    · have h := hA O anySet anySet anySet q pd pd pd hO shp_any shp_any shp_any
      rw [whole] at h
      obtain ⟨r, h, _⟩ := Option.bind_eq_some_iff.mp h
      exact ⟨r, h⟩
    dsimp only
    rw [execs_cons_wrap]
    refine disp_ends (cs := getS) hB (by decide) (by decide) (fun O q hO => ?_) R4 fun O2 q2 d2 s5 hO2 f2 R5 => ?_
    · have h := hA O1 O anySet anySet q1 q pd pd (shp_of hO1) hO shp_any shp_any
      rw [whole, f1, Option.bind_some] at h
      obtain ⟨r, h, _⟩ := Option.bind_eq_some_iff.mp h
      exact ⟨r, h⟩
    dsimp only
    rw [execs_cons_wrap]
    refine disp_ends (cs := gsS) hB (by decide) (by decide) (fun O q hO => ?_) R5 fun O3 q3 d3 s6 hO3 f3 R6 => ?_
    · have h := hA O1 O2 O anySet q1 q2 q pd (shp_of hO1) (shp_of hO2) hO shp_any
      rw [whole, f1, Option.bind_some, f2, Option.bind_some] at h
      obtain ⟨r, h, _⟩ := Option.bind_eq_some_iff.mp h
      exact ⟨r, h⟩
    dsimp only
    rw [execs_cons_wrap]
    refine disp_ends (cs := gstS) hB (by decide) (by decide) (fun O q hO => ?_) R6 fun O4 q4 d4 s7 hO4 f4 R7 => ?_
    · have h := hA O1 O2 O3 O q1 q2 q3 q (shp_of hO1) (shp_of hO2) (shp_of hO3) hO
      rw [whole, f1, Option.bind_some, f2, Option.bind_some, f3, Option.bind_some] at h
      obtain ⟨r, h, _⟩ := Option.bind_eq_some_iff.mp h
      exact ⟨r, h⟩
    have x1 := hA O1 O2 O3 O4 q1 q2 q3 q4 (shp_of hO1) (shp_of hO2) (shp_of hO3) (shp_of hO4)
    rw [whole, f1, Option.bind_some, f2, Option.bind_some, f3, Option.bind_some, f4, Option.bind_some] at x1
    have x2 := hM O1 O2 O3 O4 (shp_of hO1) (shp_of hO2) (shp_of hO3) (shp_of hO4)
    unfold chainM at x2
    rw [e1, Option.bind_some, e2, Option.bind_some, e3, Option.bind_some, e6, Option.bind_some] at x2
    obtain ⟨TF, x3, hF⟩ := hL O1 O2 O3 O4 (shp_of hO1) (shp_of hO2) (shp_of hO3) (shp_of hO4)
    unfold chainL at x3
    rw [e1, Option.bind_some, e2, Option.bind_some, e3, Option.bind_some, e6, Option.bind_some] at x3
    obtain ⟨r5, x3, x4⟩ := Option.bind_eq_some_iff.mp x3
    show Ends p w Post s7 ⟨(execs rest env).wrap doneF (leaveH env) id id, d4.2.1, d4.2.2, t2.stack⟩
    have er : rest = rest.take k ++ ((rest.drop k).take m ++ rest.drop (k + m)) := by
      rw [← List.drop_drop, List.take_append_drop, List.take_append_drop]
    rw [er, execs_cat, bind_wrap]
    refine next_seg hB x1 R7 fun s8 R8 => ?_
    dsimp only
    rw [execs_cat, bind_wrap]
    refine next_seg hB x2 R8 fun s9 R9 => ?_
    dsimp only
    refine next_seg (K := doneF) hB (r := r5) x3 R9 fun s10 R10 => ?_
    exact goT_ends x4 R10 fun s11 R11 => fin O1 O2 O3 O4 TF s11 hO1 hO2 hO3 hO4 hF R11
end
end Mine
namespace Mine
open PySem PySem.W PySem.Calls PyProof.Rows
set_option autoImplicit false
set_option maxRecDepth 1000000
set_option maxHeartbeats 0
set_option linter.unusedVariables false

noncomputable abbrev prg : Program := PySem.Challenge.pw_fb0053_01
noncomputable def stAt (i : Nat) : Stmt := prg.main.body.getD i (.Pass default)
noncomputable def stIn (i j : Nat) : Stmt := match stAt i with
  | .ClassDef _ _ _ b _ _ _ _ _ _ _ => b.getD j (.Pass default)
  | _ => .Pass default
noncomputable def fnOf (st : Stmt) (q : Str) (pm code doc : Value) : FuncData := match st with
  | .FunctionDef name args body _ _ _ scope _ _ _ => { name, qualname := q, params := args, body := .stmts body, scope, globals := mainGlobals, closure := [], defaults := .none, kwdefaults := .none, doc, pyModule := pm, code, builtins := builtinsNs }
  | _ => default
/-- what a code object keeps of its def -/
noncomputable def fnTo (st : Stmt) (q : Str) (pm code doc : Value) : FuncData := { fnOf st q pm code doc with globals := 0 }

/-! the objects behind the top, printed by a program -/
noncomputable def ob2 (P : Params) : Obj := ⟨.none, none, .dict #[⟨PyData.keyHash P (tx [116, 121, 112, 101, 46, 95, 95, 115, 117, 98, 99, 108, 97, 115, 115, 101, 115, 95, 95, 46, 69, 120, 99, 101, 112, 116, 105, 111, 110, 46, 48]), .str (tx [116, 121, 112, 101, 46, 95, 95, 115, 117, 98, 99, 108, 97, 115, 115, 101, 115, 95, 95, 46, 69, 120, 99, 101, 112, 116, 105, 111, 110, 46, 48]) 1322, .int 443 0⟩, ⟨PyData.keyHash P (tx [116, 121, 112, 101, 46, 95, 95, 115, 117, 98, 99, 108, 97, 115, 115, 101, 115, 95, 95, 46, 69, 120, 99, 101, 112, 116, 105, 111, 110, 46, 110]), .str (tx [116, 121, 112, 101, 46, 95, 95, 115, 117, 98, 99, 108, 97, 115, 115, 101, 115, 95, 95, 46, 69, 120, 99, 101, 112, 116, 105, 111, 110, 46, 110]) 1323, .int 3 0⟩, ⟨PyData.keyHash P (tx [116, 121, 112, 101, 46, 95, 95, 115, 117, 98, 99, 108, 97, 115, 115, 101, 115, 95, 95, 46, 69, 120, 99, 101, 112, 116, 105, 111, 110, 46, 49]), .str (tx [116, 121, 112, 101, 46, 95, 95, 115, 117, 98, 99, 108, 97, 115, 115, 101, 115, 95, 95, 46, 69, 120, 99, 101, 112, 116, 105, 111, 110, 46, 49]) 1342, .int 456 0⟩, ⟨PyData.keyHash P (tx [116, 121, 112, 101, 46, 95, 95, 115, 117, 98, 99, 108, 97, 115, 115, 101, 115, 95, 95, 46, 69, 120, 99, 101, 112, 116, 105, 111, 110, 46, 50]), .str (tx [116, 121, 112, 101, 46, 95, 95, 115, 117, 98, 99, 108, 97, 115, 115, 101, 115, 95, 95, 46, 69, 120, 99, 101, 112, 116, 105, 111, 110, 46, 50]) 1362, .int 469 0⟩] 4, #[]⟩
noncomputable def ob3 (P : Params) : Obj := ⟨.type "dict", none, .dict #[⟨PyData.keyHash P (tx [95, 95, 110, 97, 109, 101, 95, 95]), .str (tx [95, 95, 110, 97, 109, 101, 95, 95]) 165, .str (tx [108, 97, 119, 95, 102, 98, 48, 48, 53, 51, 95, 48, 49]) 1366⟩, ⟨PyData.keyHash P (tx [95, 95, 100, 111, 99, 95, 95]), .str (tx [95, 95, 100, 111, 99, 95, 95]) 166, .none⟩, ⟨PyData.keyHash P (tx [95, 95, 112, 97, 99, 107, 97, 103, 101, 95, 95]), .str (tx [95, 95, 112, 97, 99, 107, 97, 103, 101, 95, 95]) 167, .none⟩, ⟨PyData.keyHash P (tx [95, 95, 108, 111, 97, 100, 101, 114, 95, 95]), .str (tx [95, 95, 108, 111, 97, 100, 101, 114, 95, 95]) 168, .builtin "__main__.__loader__#opaque"⟩, ⟨PyData.keyHash P (tx [95, 95, 115, 112, 101, 99, 95, 95]), .str (tx [95, 95, 115, 112, 101, 99, 95, 95]) 169, .none⟩, ⟨PyData.keyHash P (tx [95, 95, 97, 110, 110, 111, 116, 97, 116, 105, 111, 110, 115, 95, 95]), .str (tx [95, 95, 97, 110, 110, 111, 116, 97, 116, 105, 111, 110, 115, 95, 95]) 170, .ref 6⟩, ⟨PyData.keyHash P (tx [95, 95, 98, 117, 105, 108, 116, 105, 110, 115, 95, 95]), .str (tx [95, 95, 98, 117, 105, 108, 116, 105, 110, 115, 95, 95]) 171, .ref 4⟩, ⟨PyData.keyHash P (tx [95, 95, 102, 105, 108, 101, 95, 95]), .str (tx [95, 95, 102, 105, 108, 101, 95, 95]) 173, .str (tx [47, 99, 108, 97, 105, 109, 47, 99, 117, 116, 46, 112, 121]) 172⟩, ⟨PyData.keyHash P (tx [95, 95, 99, 97, 99, 104, 101, 100, 95, 95]), .str (tx [95, 95, 99, 97, 99, 104, 101, 100, 95, 95]) 174, .none⟩, ⟨PyData.keyHash P (tx [95, 119, 97, 108, 108]), .str (tx [95, 119, 97, 108, 108]) 193, .ref 21⟩, ⟨PyData.keyHash P (tx [66, 97, 115, 101, 83, 116, 101, 109, 109, 101, 114]), .str (tx [66, 97, 115, 101, 83, 116, 101, 109, 109, 101, 114]) 435, .ref 197⟩, ⟨PyData.keyHash P (tx [65, 109, 111, 110, 103]), .str (tx [65, 109, 111, 110, 103]) 470, .ref 218⟩, ⟨PyData.keyHash P (tx [71, 101, 114, 109, 97, 110, 83, 116, 101, 109, 109, 101, 114]), .str (tx [71, 101, 114, 109, 97, 110, 83, 116, 101, 109, 109, 101, 114]) 1305, .ref 431⟩, ⟨PyData.keyHash P (tx [108, 97, 98, 48]), .str (tx [108, 97, 98, 48]) 1325, .ref 443⟩, ⟨PyData.keyHash P (tx [108, 97, 98, 49]), .str (tx [108, 97, 98, 49]) 1345, .ref 456⟩, ⟨PyData.keyHash P (tx [108, 97, 98, 50]), .str (tx [108, 97, 98, 50]) 1365, .ref 469⟩, ⟨PyData.keyHash P (tx [95, 108, 97, 119, 95, 115, 111, 117, 110, 100, 115]), .str (tx [95, 108, 97, 119, 95, 115, 111, 117, 110, 100, 115]) 1369, .str (tx [98, 99, 100, 102, 103, 104, 106, 107, 108, 109, 110, 112, 114, 115, 116, 118, 119, 120, 122, 223]) 1368⟩, ⟨PyData.keyHash P (tx [95, 108, 97, 119, 95, 118, 111, 119, 101, 108, 115]), .str (tx [95, 108, 97, 119, 95, 118, 111, 119, 101, 108, 115]) 1375, .ref 479⟩, ⟨PyData.keyHash P (tx [95, 108, 97, 119, 95, 100, 111, 116, 115]), .str (tx [95, 108, 97, 119, 95, 100, 111, 116, 115]) 1396, .ref 480⟩, ⟨PyData.keyHash P (tx [95, 108, 97, 119, 95, 99, 108, 111, 115, 101, 100]), .str (tx [95, 108, 97, 119, 95, 99, 108, 111, 115, 101, 100]) 1402, .ref 491⟩, ⟨PyData.keyHash P (tx [95, 108, 97, 119, 95, 102, 97, 109, 105, 108, 105, 101, 115]), .str (tx [95, 108, 97, 119, 95, 102, 97, 109, 105, 108, 105, 101, 115]) 1889, .ref 769⟩, ⟨PyData.keyHash P (tx [95, 108, 97, 119, 95, 108, 97, 116, 101]), .str (tx [95, 108, 97, 119, 95, 108, 97, 116, 101]) 1895, .ref 776⟩, ⟨PyData.keyHash P (tx [95, 108, 97, 119, 95, 109, 97, 114, 107, 115]), .str (tx [95, 108, 97, 119, 95, 109, 97, 114, 107, 115]) 1901, .ref 783⟩, ⟨PyData.keyHash P (tx [95, 108, 97, 119, 95, 97, 116]), .str (tx [95, 108, 97, 119, 95, 97, 116]) 1909, .ref 790⟩, ⟨PyData.keyHash P (tx [95, 108, 97, 119, 95, 115, 111, 109, 101]), .str (tx [95, 108, 97, 119, 95, 115, 111, 109, 101]) 1920, .ref 797⟩, ⟨PyData.keyHash P (tx [95, 108, 97, 119, 95, 119, 111, 114, 100]), .str (tx [95, 108, 97, 119, 95, 119, 111, 114, 100]) 1945, .ref 804⟩, ⟨PyData.keyHash P (tx [108, 97, 119]), .str (tx [108, 97, 119]) 1967, .ref 811⟩] 27, #[]⟩
noncomputable def ob20 (P : Params) : Obj := ⟨.type "code", none, .fields #[.str (tx [95, 119, 97, 108, 108]) 187, .str (tx [95, 119, 97, 108, 108]) 188, .str (tx [47, 99, 108, 97, 105, 109, 47, 99, 117, 116, 46, 112, 121]) 189, .int 1 0, .int 1 0, .int 0 0, .int 0 0, .int 3 0, .ref 15, .bool true, .int 181 0, .ref 16, .none, .ref 17, .ref 18, .ref 19, .int 191 0, .int 1 0, .str (tx [47, 99, 108, 97, 105, 109, 47, 99, 117, 116, 46, 112, 121]) 192], #[]⟩
noncomputable def ob21 (P : Params) : Obj := ⟨.type "function", none, .func (fnOf (stAt 0) (tx [95, 119, 97, 108, 108]) (.str (tx [95, 95, 109, 97, 105, 110, 95, 95]) 164) (.ref 20) (.none)), #[]⟩
noncomputable def ob34 (P : Params) : Obj := ⟨.type "code", none, .fields #[.str (tx [95, 95, 105, 110, 105, 116, 95, 95]) 208, .str (tx [66, 97, 115, 101, 83, 116, 101, 109, 109, 101, 114, 46, 95, 95, 105, 110, 105, 116, 95, 95]) 209, .str (tx [47, 99, 108, 97, 105, 109, 47, 99, 117, 116, 46, 112, 121]) 210, .int 7 0, .int 1 0, .int 0 0, .int 0 0, .int 3 0, .ref 29, .bool true, .int 181 0, .ref 30, .none, .ref 31, .ref 32, .ref 33, .int 212 0, .int 7 0, .str (tx [47, 99, 108, 97, 105, 109, 47, 99, 117, 116, 46, 112, 121]) 213], #[]⟩
noncomputable def ob35 (P : Params) : Obj := ⟨.type "function", none, .func (fnOf (stIn 2 0) (tx [66, 97, 115, 101, 83, 116, 101, 109, 109, 101, 114, 46, 95, 95, 105, 110, 105, 116, 95, 95]) (.str (tx [115, 110, 111, 119, 98, 97, 108, 108, 115, 116, 101, 109, 109, 101, 114, 46, 98, 97, 115, 101, 115, 116, 101, 109, 109, 101, 114]) 194) (.ref 34) (.none)), #[]⟩
noncomputable def ob41 (P : Params) : Obj := ⟨.type "code", none, .fields #[.str (tx [115, 101, 116, 95, 99, 117, 114, 114, 101, 110, 116]) 215, .str (tx [66, 97, 115, 101, 83, 116, 101, 109, 109, 101, 114, 46, 115, 101, 116, 95, 99, 117, 114, 114, 101, 110, 116]) 216, .str (tx [47, 99, 108, 97, 105, 109, 47, 99, 117, 116, 46, 112, 121]) 217, .int 10 0, .int 2 0, .int 0 0, .int 0 0, .int 3 0, .ref 36, .bool true, .int 181 0, .ref 37, .none, .ref 38, .ref 39, .ref 40, .int 220 0, .int 10 0, .str (tx [47, 99, 108, 97, 105, 109, 47, 99, 117, 116, 46, 112, 121]) 221], #[]⟩
noncomputable def ob42 (P : Params) : Obj := ⟨.type "function", none, .func (fnOf (stIn 2 1) (tx [66, 97, 115, 101, 83, 116, 101, 109, 109, 101, 114, 46, 115, 101, 116, 95, 99, 117, 114, 114, 101, 110, 116]) (.str (tx [115, 110, 111, 119, 98, 97, 108, 108, 115, 116, 101, 109, 109, 101, 114, 46, 98, 97, 115, 101, 115, 116, 101, 109, 109, 101, 114]) 194) (.ref 41) (.none)), #[]⟩
noncomputable def ob48 (P : Params) : Obj := ⟨.type "code", none, .fields #[.str (tx [103, 101, 116, 95, 99, 117, 114, 114, 101, 110, 116]) 223, .str (tx [66, 97, 115, 101, 83, 116, 101, 109, 109, 101, 114, 46, 103, 101, 116, 95, 99, 117, 114, 114, 101, 110, 116]) 224, .str (tx [47, 99, 108, 97, 105, 109, 47, 99, 117, 116, 46, 112, 121]) 225, .int 18 0, .int 1 0, .int 0 0, .int 0 0, .int 3 0, .ref 43, .bool true, .int 181 0, .ref 44, .none, .ref 45, .ref 46, .ref 47, .int 227 0, .int 18 0, .str (tx [47, 99, 108, 97, 105, 109, 47, 99, 117, 116, 46, 112, 121]) 228], #[]⟩
noncomputable def ob49 (P : Params) : Obj := ⟨.type "function", none, .func (fnOf (stIn 2 2) (tx [66, 97, 115, 101, 83, 116, 101, 109, 109, 101, 114, 46, 103, 101, 116, 95, 99, 117, 114, 114, 101, 110, 116]) (.str (tx [115, 110, 111, 119, 98, 97, 108, 108, 115, 116, 101, 109, 109, 101, 114, 46, 98, 97, 115, 101, 115, 116, 101, 109, 109, 101, 114]) 194) (.ref 48) (.none)), #[]⟩
noncomputable def ob55 (P : Params) : Obj := ⟨.type "code", none, .fields #[.str (tx [99, 111, 112, 121, 95, 102, 114, 111, 109]) 230, .str (tx [66, 97, 115, 101, 83, 116, 101, 109, 109, 101, 114, 46, 99, 111, 112, 121, 95, 102, 114, 111, 109]) 231, .str (tx [47, 99, 108, 97, 105, 109, 47, 99, 117, 116, 46, 112, 121]) 232, .int 21 0, .int 2 0, .int 0 0, .int 0 0, .int 3 0, .ref 50, .bool true, .int 181 0, .ref 51, .none, .ref 52, .ref 53, .ref 54, .int 235 0, .int 21 0, .str (tx [47, 99, 108, 97, 105, 109, 47, 99, 117, 116, 46, 112, 121]) 236], #[]⟩
noncomputable def ob56 (P : Params) : Obj := ⟨.type "function", none, .func (fnOf (stIn 2 3) (tx [66, 97, 115, 101, 83, 116, 101, 109, 109, 101, 114, 46, 99, 111, 112, 121, 95, 102, 114, 111, 109]) (.str (tx [115, 110, 111, 119, 98, 97, 108, 108, 115, 116, 101, 109, 109, 101, 114, 46, 98, 97, 115, 101, 115, 116, 101, 109, 109, 101, 114]) 194) (.ref 55) (.none)), #[]⟩
noncomputable def ob62 (P : Params) : Obj := ⟨.type "code", none, .fields #[.str (tx [105, 110, 95, 103, 114, 111, 117, 112, 105, 110, 103]) 238, .str (tx [66, 97, 115, 101, 83, 116, 101, 109, 109, 101, 114, 46, 105, 110, 95, 103, 114, 111, 117, 112, 105, 110, 103]) 239, .str (tx [47, 99, 108, 97, 105, 109, 47, 99, 117, 116, 46, 112, 121]) 240, .int 24 0, .int 2 0, .int 0 0, .int 0 0, .int 3 0, .ref 57, .bool true, .int 181 0, .ref 58, .none, .ref 59, .ref 60, .ref 61, .int 243 0, .int 24 0, .str (tx [47, 99, 108, 97, 105, 109, 47, 99, 117, 116, 46, 112, 121]) 244], #[]⟩
noncomputable def ob63 (P : Params) : Obj := ⟨.type "function", none, .func (fnOf (stIn 2 4) (tx [66, 97, 115, 101, 83, 116, 101, 109, 109, 101, 114, 46, 105, 110, 95, 103, 114, 111, 117, 112, 105, 110, 103]) (.str (tx [115, 110, 111, 119, 98, 97, 108, 108, 115, 116, 101, 109, 109, 101, 114, 46, 98, 97, 115, 101, 115, 116, 101, 109, 109, 101, 114]) 194) (.ref 62) (.none)), #[]⟩
noncomputable def ob69 (P : Params) : Obj := ⟨.type "code", none, .fields #[.str (tx [103, 111, 95, 105, 110, 95, 103, 114, 111, 117, 112, 105, 110, 103]) 246, .str (tx [66, 97, 115, 101, 83, 116, 101, 109, 109, 101, 114, 46, 103, 111, 95, 105, 110, 95, 103, 114, 111, 117, 112, 105, 110, 103]) 247, .str (tx [47, 99, 108, 97, 105, 109, 47, 99, 117, 116, 46, 112, 121]) 248, .int 32 0, .int 2 0, .int 0 0, .int 0 0, .int 3 0, .ref 64, .bool true, .int 181 0, .ref 65, .none, .ref 66, .ref 67, .ref 68, .int 251 0, .int 32 0, .str (tx [47, 99, 108, 97, 105, 109, 47, 99, 117, 116, 46, 112, 121]) 252], #[]⟩
noncomputable def ob70 (P : Params) : Obj := ⟨.type "function", none, .func (fnOf (stIn 2 5) (tx [66, 97, 115, 101, 83, 116, 101, 109, 109, 101, 114, 46, 103, 111, 95, 105, 110, 95, 103, 114, 111, 117, 112, 105, 110, 103]) (.str (tx [115, 110, 111, 119, 98, 97, 108, 108, 115, 116, 101, 109, 109, 101, 114, 46, 98, 97, 115, 101, 115, 116, 101, 109, 109, 101, 114]) 194) (.ref 69) (.none)), #[]⟩
noncomputable def ob76 (P : Params) : Obj := ⟨.type "code", none, .fields #[.str (tx [105, 110, 95, 103, 114, 111, 117, 112, 105, 110, 103, 95, 98]) 254, .str (tx [66, 97, 115, 101, 83, 116, 101, 109, 109, 101, 114, 46, 105, 110, 95, 103, 114, 111, 117, 112, 105, 110, 103, 95, 98]) 255, .str (tx [47, 99, 108, 97, 105, 109, 47, 99, 117, 116, 46, 112, 121]) 256, .int 39 0, .int 2 0, .int 0 0, .int 0 0, .int 3 0, .ref 71, .bool true, .int 181 0, .ref 72, .none, .ref 73, .ref 74, .ref 75, .int 259 0, .int 39 0, .str (tx [47, 99, 108, 97, 105, 109, 47, 99, 117, 116, 46, 112, 121]) 260], #[]⟩
noncomputable def ob77 (P : Params) : Obj := ⟨.type "function", none, .func (fnOf (stIn 2 6) (tx [66, 97, 115, 101, 83, 116, 101, 109, 109, 101, 114, 46, 105, 110, 95, 103, 114, 111, 117, 112, 105, 110, 103, 95, 98]) (.str (tx [115, 110, 111, 119, 98, 97, 108, 108, 115, 116, 101, 109, 109, 101, 114, 46, 98, 97, 115, 101, 115, 116, 101, 109, 109, 101, 114]) 194) (.ref 76) (.none)), #[]⟩
noncomputable def ob83 (P : Params) : Obj := ⟨.type "code", none, .fields #[.str (tx [103, 111, 95, 105, 110, 95, 103, 114, 111, 117, 112, 105, 110, 103, 95, 98]) 262, .str (tx [66, 97, 115, 101, 83, 116, 101, 109, 109, 101, 114, 46, 103, 111, 95, 105, 110, 95, 103, 114, 111, 117, 112, 105, 110, 103, 95, 98]) 263, .str (tx [47, 99, 108, 97, 105, 109, 47, 99, 117, 116, 46, 112, 121]) 264, .int 47 0, .int 2 0, .int 0 0, .int 0 0, .int 3 0, .ref 78, .bool true, .int 181 0, .ref 79, .none, .ref 80, .ref 81, .ref 82, .int 267 0, .int 47 0, .str (tx [47, 99, 108, 97, 105, 109, 47, 99, 117, 116, 46, 112, 121]) 268], #[]⟩
noncomputable def ob84 (P : Params) : Obj := ⟨.type "function", none, .func (fnOf (stIn 2 7) (tx [66, 97, 115, 101, 83, 116, 101, 109, 109, 101, 114, 46, 103, 111, 95, 105, 110, 95, 103, 114, 111, 117, 112, 105, 110, 103, 95, 98]) (.str (tx [115, 110, 111, 119, 98, 97, 108, 108, 115, 116, 101, 109, 109, 101, 114, 46, 98, 97, 115, 101, 115, 116, 101, 109, 109, 101, 114]) 194) (.ref 83) (.none)), #[]⟩
noncomputable def ob90 (P : Params) : Obj := ⟨.type "code", none, .fields #[.str (tx [111, 117, 116, 95, 103, 114, 111, 117, 112, 105, 110, 103]) 270, .str (tx [66, 97, 115, 101, 83, 116, 101, 109, 109, 101, 114, 46, 111, 117, 116, 95, 103, 114, 111, 117, 112, 105, 110, 103]) 271, .str (tx [47, 99, 108, 97, 105, 109, 47, 99, 117, 116, 46, 112, 121]) 272, .int 50 0, .int 2 0, .int 0 0, .int 0 0, .int 3 0, .ref 85, .bool true, .int 181 0, .ref 86, .none, .ref 87, .ref 88, .ref 89, .int 275 0, .int 50 0, .str (tx [47, 99, 108, 97, 105, 109, 47, 99, 117, 116, 46, 112, 121]) 276], #[]⟩
noncomputable def ob91 (P : Params) : Obj := ⟨.type "function", none, .func (fnOf (stIn 2 8) (tx [66, 97, 115, 101, 83, 116, 101, 109, 109, 101, 114, 46, 111, 117, 116, 95, 103, 114, 111, 117, 112, 105, 110, 103]) (.str (tx [115, 110, 111, 119, 98, 97, 108, 108, 115, 116, 101, 109, 109, 101, 114, 46, 98, 97, 115, 101, 115, 116, 101, 109, 109, 101, 114]) 194) (.ref 90) (.none)), #[]⟩
noncomputable def ob97 (P : Params) : Obj := ⟨.type "code", none, .fields #[.str (tx [103, 111, 95, 111, 117, 116, 95, 103, 114, 111, 117, 112, 105, 110, 103]) 278, .str (tx [66, 97, 115, 101, 83, 116, 101, 109, 109, 101, 114, 46, 103, 111, 95, 111, 117, 116, 95, 103, 114, 111, 117, 112, 105, 110, 103]) 279, .str (tx [47, 99, 108, 97, 105, 109, 47, 99, 117, 116, 46, 112, 121]) 280, .int 53 0, .int 2 0, .int 0 0, .int 0 0, .int 3 0, .ref 92, .bool true, .int 181 0, .ref 93, .none, .ref 94, .ref 95, .ref 96, .int 283 0, .int 53 0, .str (tx [47, 99, 108, 97, 105, 109, 47, 99, 117, 116, 46, 112, 121]) 284], #[]⟩
noncomputable def ob98 (P : Params) : Obj := ⟨.type "function", none, .func (fnOf (stIn 2 9) (tx [66, 97, 115, 101, 83, 116, 101, 109, 109, 101, 114, 46, 103, 111, 95, 111, 117, 116, 95, 103, 114, 111, 117, 112, 105, 110, 103]) (.str (tx [115, 110, 111, 119, 98, 97, 108, 108, 115, 116, 101, 109, 109, 101, 114, 46, 98, 97, 115, 101, 115, 116, 101, 109, 109, 101, 114]) 194) (.ref 97) (.none)), #[]⟩
noncomputable def ob104 (P : Params) : Obj := ⟨.type "code", none, .fields #[.str (tx [111, 117, 116, 95, 103, 114, 111, 117, 112, 105, 110, 103, 95, 98]) 286, .str (tx [66, 97, 115, 101, 83, 116, 101, 109, 109, 101, 114, 46, 111, 117, 116, 95, 103, 114, 111, 117, 112, 105, 110, 103, 95, 98]) 287, .str (tx [47, 99, 108, 97, 105, 109, 47, 99, 117, 116, 46, 112, 121]) 288, .int 60 0, .int 2 0, .int 0 0, .int 0 0, .int 3 0, .ref 99, .bool true, .int 181 0, .ref 100, .none, .ref 101, .ref 102, .ref 103, .int 291 0, .int 60 0, .str (tx [47, 99, 108, 97, 105, 109, 47, 99, 117, 116, 46, 112, 121]) 292], #[]⟩
noncomputable def ob105 (P : Params) : Obj := ⟨.type "function", none, .func (fnOf (stIn 2 10) (tx [66, 97, 115, 101, 83, 116, 101, 109, 109, 101, 114, 46, 111, 117, 116, 95, 103, 114, 111, 117, 112, 105, 110, 103, 95, 98]) (.str (tx [115, 110, 111, 119, 98, 97, 108, 108, 115, 116, 101, 109, 109, 101, 114, 46, 98, 97, 115, 101, 115, 116, 101, 109, 109, 101, 114]) 194) (.ref 104) (.none)), #[]⟩
noncomputable def ob111 (P : Params) : Obj := ⟨.type "code", none, .fields #[.str (tx [103, 111, 95, 111, 117, 116, 95, 103, 114, 111, 117, 112, 105, 110, 103, 95, 98]) 294, .str (tx [66, 97, 115, 101, 83, 116, 101, 109, 109, 101, 114, 46, 103, 111, 95, 111, 117, 116, 95, 103, 114, 111, 117, 112, 105, 110, 103, 95, 98]) 295, .str (tx [47, 99, 108, 97, 105, 109, 47, 99, 117, 116, 46, 112, 121]) 296, .int 63 0, .int 2 0, .int 0 0, .int 0 0, .int 3 0, .ref 106, .bool true, .int 181 0, .ref 107, .none, .ref 108, .ref 109, .ref 110, .int 299 0, .int 63 0, .str (tx [47, 99, 108, 97, 105, 109, 47, 99, 117, 116, 46, 112, 121]) 300], #[]⟩
noncomputable def ob112 (P : Params) : Obj := ⟨.type "function", none, .func (fnOf (stIn 2 11) (tx [66, 97, 115, 101, 83, 116, 101, 109, 109, 101, 114, 46, 103, 111, 95, 111, 117, 116, 95, 103, 114, 111, 117, 112, 105, 110, 103, 95, 98]) (.str (tx [115, 110, 111, 119, 98, 97, 108, 108, 115, 116, 101, 109, 109, 101, 114, 46, 98, 97, 115, 101, 115, 116, 101, 109, 109, 101, 114]) 194) (.ref 111) (.none)), #[]⟩
noncomputable def ob118 (P : Params) : Obj := ⟨.type "code", none, .fields #[.str (tx [101, 113, 95, 115]) 302, .str (tx [66, 97, 115, 101, 83, 116, 101, 109, 109, 101, 114, 46, 101, 113, 95, 115]) 303, .str (tx [47, 99, 108, 97, 105, 109, 47, 99, 117, 116, 46, 112, 121]) 304, .int 66 0, .int 2 0, .int 0 0, .int 0 0, .int 3 0, .ref 113, .bool true, .int 181 0, .ref 114, .none, .ref 115, .ref 116, .ref 117, .int 307 0, .int 66 0, .str (tx [47, 99, 108, 97, 105, 109, 47, 99, 117, 116, 46, 112, 121]) 308], #[]⟩
noncomputable def ob119 (P : Params) : Obj := ⟨.type "function", none, .func (fnOf (stIn 2 12) (tx [66, 97, 115, 101, 83, 116, 101, 109, 109, 101, 114, 46, 101, 113, 95, 115]) (.str (tx [115, 110, 111, 119, 98, 97, 108, 108, 115, 116, 101, 109, 109, 101, 114, 46, 98, 97, 115, 101, 115, 116, 101, 109, 109, 101, 114]) 194) (.ref 118) (.none)), #[]⟩
noncomputable def ob125 (P : Params) : Obj := ⟨.type "code", none, .fields #[.str (tx [101, 113, 95, 115, 95, 98]) 310, .str (tx [66, 97, 115, 101, 83, 116, 101, 109, 109, 101, 114, 46, 101, 113, 95, 115, 95, 98]) 311, .str (tx [47, 99, 108, 97, 105, 109, 47, 99, 117, 116, 46, 112, 121]) 312, .int 69 0, .int 2 0, .int 0 0, .int 0 0, .int 3 0, .ref 120, .bool true, .int 181 0, .ref 121, .none, .ref 122, .ref 123, .ref 124, .int 315 0, .int 69 0, .str (tx [47, 99, 108, 97, 105, 109, 47, 99, 117, 116, 46, 112, 121]) 316], #[]⟩
noncomputable def ob126 (P : Params) : Obj := ⟨.type "function", none, .func (fnOf (stIn 2 13) (tx [66, 97, 115, 101, 83, 116, 101, 109, 109, 101, 114, 46, 101, 113, 95, 115, 95, 98]) (.str (tx [115, 110, 111, 119, 98, 97, 108, 108, 115, 116, 101, 109, 109, 101, 114, 46, 98, 97, 115, 101, 115, 116, 101, 109, 109, 101, 114]) 194) (.ref 125) (.none)), #[]⟩
noncomputable def ob132 (P : Params) : Obj := ⟨.type "code", none, .fields #[.str (tx [102, 105, 110, 100, 95, 97, 109, 111, 110, 103]) 318, .str (tx [66, 97, 115, 101, 83, 116, 101, 109, 109, 101, 114, 46, 102, 105, 110, 100, 95, 97, 109, 111, 110, 103]) 319, .str (tx [47, 99, 108, 97, 105, 109, 47, 99, 117, 116, 46, 112, 121]) 320, .int 75 0, .int 2 0, .int 0 0, .int 0 0, .int 3 0, .ref 127, .bool true, .int 181 0, .ref 128, .none, .ref 129, .ref 130, .ref 131, .int 335 0, .int 75 0, .str (tx [47, 99, 108, 97, 105, 109, 47, 99, 117, 116, 46, 112, 121]) 336], #[]⟩
noncomputable def ob133 (P : Params) : Obj := ⟨.type "function", none, .func (fnOf (stIn 2 14) (tx [66, 97, 115, 101, 83, 116, 101, 109, 109, 101, 114, 46, 102, 105, 110, 100, 95, 97, 109, 111, 110, 103]) (.str (tx [115, 110, 111, 119, 98, 97, 108, 108, 115, 116, 101, 109, 109, 101, 114, 46, 98, 97, 115, 101, 115, 116, 101, 109, 109, 101, 114]) 194) (.ref 132) (.none)), #[]⟩
noncomputable def ob139 (P : Params) : Obj := ⟨.type "code", none, .fields #[.str (tx [102, 105, 110, 100, 95, 97, 109, 111, 110, 103, 95, 98]) 338, .str (tx [66, 97, 115, 101, 83, 116, 101, 109, 109, 101, 114, 46, 102, 105, 110, 100, 95, 97, 109, 111, 110, 103, 95, 98]) 339, .str (tx [47, 99, 108, 97, 105, 109, 47, 99, 117, 116, 46, 112, 121]) 340, .int 120 0, .int 2 0, .int 0 0, .int 0 0, .int 3 0, .ref 134, .bool true, .int 181 0, .ref 135, .none, .ref 136, .ref 137, .ref 138, .int 355 0, .int 120 0, .str (tx [47, 99, 108, 97, 105, 109, 47, 99, 117, 116, 46, 112, 121]) 356], #[]⟩
noncomputable def ob140 (P : Params) : Obj := ⟨.type "function", none, .func (fnOf (stIn 2 15) (tx [66, 97, 115, 101, 83, 116, 101, 109, 109, 101, 114, 46, 102, 105, 110, 100, 95, 97, 109, 111, 110, 103, 95, 98]) (.str (tx [115, 110, 111, 119, 98, 97, 108, 108, 115, 116, 101, 109, 109, 101, 114, 46, 98, 97, 115, 101, 115, 116, 101, 109, 109, 101, 114]) 194) (.ref 139) (.none)), #[]⟩
noncomputable def ob146 (P : Params) : Obj := ⟨.type "code", none, .fields #[.str (tx [114, 101, 112, 108, 97, 99, 101, 95, 115]) 358, .str (tx [66, 97, 115, 101, 83, 116, 101, 109, 109, 101, 114, 46, 114, 101, 112, 108, 97, 99, 101, 95, 115]) 359, .str (tx [47, 99, 108, 97, 105, 109, 47, 99, 117, 116, 46, 112, 121]) 360, .int 165 0, .int 4 0, .int 0 0, .int 0 0, .int 3 0, .ref 141, .bool true, .int 181 0, .ref 142, .none, .ref 143, .ref 144, .ref 145, .int 366 0, .int 165 0, .str (tx [47, 99, 108, 97, 105, 109, 47, 99, 117, 116, 46, 112, 121]) 367], #[]⟩
noncomputable def ob147 (P : Params) : Obj := ⟨.type "function", none, .func (fnOf (stIn 2 16) (tx [66, 97, 115, 101, 83, 116, 101, 109, 109, 101, 114, 46, 114, 101, 112, 108, 97, 99, 101, 95, 115]) (.str (tx [115, 110, 111, 119, 98, 97, 108, 108, 115, 116, 101, 109, 109, 101, 114, 46, 98, 97, 115, 101, 115, 116, 101, 109, 109, 101, 114]) 194) (.ref 146) (.none)), #[]⟩
noncomputable def ob153 (P : Params) : Obj := ⟨.type "code", none, .fields #[.str (tx [115, 108, 105, 99, 101, 95, 102, 114, 111, 109]) 369, .str (tx [66, 97, 115, 101, 83, 116, 101, 109, 109, 101, 114, 46, 115, 108, 105, 99, 101, 95, 102, 114, 111, 109]) 370, .str (tx [47, 99, 108, 97, 105, 109, 47, 99, 117, 116, 46, 112, 121]) 371, .int 175 0, .int 2 0, .int 0 0, .int 0 0, .int 3 0, .ref 148, .bool true, .int 181 0, .ref 149, .none, .ref 150, .ref 151, .ref 152, .int 374 0, .int 175 0, .str (tx [47, 99, 108, 97, 105, 109, 47, 99, 117, 116, 46, 112, 121]) 375], #[]⟩
noncomputable def ob154 (P : Params) : Obj := ⟨.type "function", none, .func (fnOf (stIn 2 17) (tx [66, 97, 115, 101, 83, 116, 101, 109, 109, 101, 114, 46, 115, 108, 105, 99, 101, 95, 102, 114, 111, 109]) (.str (tx [115, 110, 111, 119, 98, 97, 108, 108, 115, 116, 101, 109, 109, 101, 114, 46, 98, 97, 115, 101, 115, 116, 101, 109, 109, 101, 114]) 194) (.ref 153) (.none)), #[]⟩
noncomputable def ob160 (P : Params) : Obj := ⟨.type "code", none, .fields #[.str (tx [115, 108, 105, 99, 101, 95, 100, 101, 108]) 377, .str (tx [66, 97, 115, 101, 83, 116, 101, 109, 109, 101, 114, 46, 115, 108, 105, 99, 101, 95, 100, 101, 108]) 378, .str (tx [47, 99, 108, 97, 105, 109, 47, 99, 117, 116, 46, 112, 121]) 379, .int 183 0, .int 1 0, .int 0 0, .int 0 0, .int 3 0, .ref 155, .bool true, .int 181 0, .ref 156, .none, .ref 157, .ref 158, .ref 159, .int 381 0, .int 183 0, .str (tx [47, 99, 108, 97, 105, 109, 47, 99, 117, 116, 46, 112, 121]) 382], #[]⟩
noncomputable def ob161 (P : Params) : Obj := ⟨.type "function", none, .func (fnOf (stIn 2 18) (tx [66, 97, 115, 101, 83, 116, 101, 109, 109, 101, 114, 46, 115, 108, 105, 99, 101, 95, 100, 101, 108]) (.str (tx [115, 110, 111, 119, 98, 97, 108, 108, 115, 116, 101, 109, 109, 101, 114, 46, 98, 97, 115, 101, 115, 116, 101, 109, 109, 101, 114]) 194) (.ref 160) (.none)), #[]⟩
noncomputable def ob167 (P : Params) : Obj := ⟨.type "code", none, .fields #[.str (tx [105, 110, 115, 101, 114, 116]) 384, .str (tx [66, 97, 115, 101, 83, 116, 101, 109, 109, 101, 114, 46, 105, 110, 115, 101, 114, 116]) 385, .str (tx [47, 99, 108, 97, 105, 109, 47, 99, 117, 116, 46, 112, 121]) 386, .int 186 0, .int 4 0, .int 0 0, .int 0 0, .int 3 0, .ref 162, .bool true, .int 181 0, .ref 163, .none, .ref 164, .ref 165, .ref 166, .int 391 0, .int 186 0, .str (tx [47, 99, 108, 97, 105, 109, 47, 99, 117, 116, 46, 112, 121]) 392], #[]⟩
noncomputable def ob168 (P : Params) : Obj := ⟨.type "function", none, .func (fnOf (stIn 2 19) (tx [66, 97, 115, 101, 83, 116, 101, 109, 109, 101, 114, 46, 105, 110, 115, 101, 114, 116]) (.str (tx [115, 110, 111, 119, 98, 97, 108, 108, 115, 116, 101, 109, 109, 101, 114, 46, 98, 97, 115, 101, 115, 116, 101, 109, 109, 101, 114]) 194) (.ref 167) (.none)), #[]⟩
noncomputable def ob174 (P : Params) : Obj := ⟨.type "code", none, .fields #[.str (tx [115, 108, 105, 99, 101, 95, 116, 111]) 394, .str (tx [66, 97, 115, 101, 83, 116, 101, 109, 109, 101, 114, 46, 115, 108, 105, 99, 101, 95, 116, 111]) 395, .str (tx [47, 99, 108, 97, 105, 109, 47, 99, 117, 116, 46, 112, 121]) 396, .int 189 0, .int 1 0, .int 0 0, .int 0 0, .int 3 0, .ref 169, .bool true, .int 181 0, .ref 170, .none, .ref 171, .ref 172, .ref 173, .int 398 0, .int 189 0, .str (tx [47, 99, 108, 97, 105, 109, 47, 99, 117, 116, 46, 112, 121]) 399], #[]⟩
noncomputable def ob175 (P : Params) : Obj := ⟨.type "function", none, .func (fnOf (stIn 2 20) (tx [66, 97, 115, 101, 83, 116, 101, 109, 109, 101, 114, 46, 115, 108, 105, 99, 101, 95, 116, 111]) (.str (tx [115, 110, 111, 119, 98, 97, 108, 108, 115, 116, 101, 109, 109, 101, 114, 46, 98, 97, 115, 101, 115, 116, 101, 109, 109, 101, 114]) 194) (.ref 174) (.none)), #[]⟩
noncomputable def ob181 (P : Params) : Obj := ⟨.type "code", none, .fields #[.str (tx [97, 115, 115, 105, 103, 110, 95, 116, 111]) 401, .str (tx [66, 97, 115, 101, 83, 116, 101, 109, 109, 101, 114, 46, 97, 115, 115, 105, 103, 110, 95, 116, 111]) 402, .str (tx [47, 99, 108, 97, 105, 109, 47, 99, 117, 116, 46, 112, 121]) 403, .int 192 0, .int 1 0, .int 0 0, .int 0 0, .int 3 0, .ref 176, .bool true, .int 181 0, .ref 177, .none, .ref 178, .ref 179, .ref 180, .int 405 0, .int 192 0, .str (tx [47, 99, 108, 97, 105, 109, 47, 99, 117, 116, 46, 112, 121]) 406], #[]⟩
noncomputable def ob182 (P : Params) : Obj := ⟨.type "function", none, .func (fnOf (stIn 2 21) (tx [66, 97, 115, 101, 83, 116, 101, 109, 109, 101, 114, 46, 97, 115, 115, 105, 103, 110, 95, 116, 111]) (.str (tx [115, 110, 111, 119, 98, 97, 108, 108, 115, 116, 101, 109, 109, 101, 114, 46, 98, 97, 115, 101, 115, 116, 101, 109, 109, 101, 114]) 194) (.ref 181) (.none)), #[]⟩
noncomputable def ob188 (P : Params) : Obj := ⟨.type "code", none, .fields #[.str (tx [115, 116, 101, 109, 87, 111, 114, 100]) 408, .str (tx [66, 97, 115, 101, 83, 116, 101, 109, 109, 101, 114, 46, 115, 116, 101, 109, 87, 111, 114, 100]) 409, .str (tx [47, 99, 108, 97, 105, 109, 47, 99, 117, 116, 46, 112, 121]) 410, .int 195 0, .int 2 0, .int 0 0, .int 0 0, .int 3 0, .ref 183, .bool true, .int 181 0, .ref 184, .none, .ref 185, .ref 186, .ref 187, .int 413 0, .int 195 0, .str (tx [47, 99, 108, 97, 105, 109, 47, 99, 117, 116, 46, 112, 121]) 414], #[]⟩
noncomputable def ob189 (P : Params) : Obj := ⟨.type "function", none, .func (fnOf (stIn 2 22) (tx [66, 97, 115, 101, 83, 116, 101, 109, 109, 101, 114, 46, 115, 116, 101, 109, 87, 111, 114, 100]) (.str (tx [115, 110, 111, 119, 98, 97, 108, 108, 115, 116, 101, 109, 109, 101, 114, 46, 98, 97, 115, 101, 115, 116, 101, 109, 109, 101, 114]) 194) (.ref 188) (.none)), #[]⟩
noncomputable def ob193 (P : Params) : Obj := ⟨.type "code", none, .fields #[.str (tx [115, 116, 101, 109, 87, 111, 114, 100, 115]) 416, .str (tx [66, 97, 115, 101, 83, 116, 101, 109, 109, 101, 114, 46, 115, 116, 101, 109, 87, 111, 114, 100, 115]) 417, .str (tx [47, 99, 108, 97, 105, 109, 47, 99, 117, 116, 46, 112, 121]) 418, .int 200 0, .int 2 0, .int 0 0, .int 0 0, .int 3 0, .ref 190, .bool true, .int 181 0, .ref 191, .none, .none, .none, .ref 192, .int 419 0, .int 200 0, .str (tx [47, 99, 108, 97, 105, 109, 47, 99, 117, 116, 46, 112, 121]) 420], #[]⟩
noncomputable def ob194 (P : Params) : Obj := ⟨.type "function", none, .func (fnOf (stIn 2 23) (tx [66, 97, 115, 101, 83, 116, 101, 109, 109, 101, 114, 46, 115, 116, 101, 109, 87, 111, 114, 100, 115]) (.str (tx [115, 110, 111, 119, 98, 97, 108, 108, 115, 116, 101, 109, 109, 101, 114, 46, 98, 97, 115, 101, 115, 116, 101, 109, 109, 101, 114]) 194) (.ref 193) (.none)), #[]⟩
noncomputable def ob195 (P : Params) : Obj := ⟨.type "tuple", none, .seq #[.str (tx [98, 114, 97]) 422, .str (tx [99, 117, 114, 114, 101, 110, 116]) 423, .str (tx [99, 117, 114, 115, 111, 114]) 424, .str (tx [107, 101, 116]) 425, .str (tx [108, 105, 109, 105, 116]) 426, .str (tx [108, 105, 109, 105, 116, 95, 98, 97, 99, 107, 119, 97, 114, 100]) 427] 0, #[]⟩
noncomputable def ob196 (P : Params) : Obj := ⟨.type "dict", none, .dict #[⟨PyData.keyHash P (tx [95, 95, 109, 111, 100, 117, 108, 101, 95, 95]), .str (tx [95, 95, 109, 111, 100, 117, 108, 101, 95, 95]) 203, .str (tx [115, 110, 111, 119, 98, 97, 108, 108, 115, 116, 101, 109, 109, 101, 114, 46, 98, 97, 115, 101, 115, 116, 101, 109, 109, 101, 114]) 194⟩, ⟨PyData.keyHash P (tx [95, 95, 102, 105, 114, 115, 116, 108, 105, 110, 101, 110, 111, 95, 95]), .str (tx [95, 95, 102, 105, 114, 115, 116, 108, 105, 110, 101, 110, 111, 95, 95]) 207, .int 5 206⟩, ⟨PyData.keyHash P (tx [95, 95, 105, 110, 105, 116, 95, 95]), .str (tx [95, 95, 105, 110, 105, 116, 95, 95]) 214, .ref 35⟩, ⟨PyData.keyHash P (tx [115, 101, 116, 95, 99, 117, 114, 114, 101, 110, 116]), .str (tx [115, 101, 116, 95, 99, 117, 114, 114, 101, 110, 116]) 222, .ref 42⟩, ⟨PyData.keyHash P (tx [103, 101, 116, 95, 99, 117, 114, 114, 101, 110, 116]), .str (tx [103, 101, 116, 95, 99, 117, 114, 114, 101, 110, 116]) 229, .ref 49⟩, ⟨PyData.keyHash P (tx [99, 111, 112, 121, 95, 102, 114, 111, 109]), .str (tx [99, 111, 112, 121, 95, 102, 114, 111, 109]) 237, .ref 56⟩, ⟨PyData.keyHash P (tx [105, 110, 95, 103, 114, 111, 117, 112, 105, 110, 103]), .str (tx [105, 110, 95, 103, 114, 111, 117, 112, 105, 110, 103]) 245, .ref 63⟩, ⟨PyData.keyHash P (tx [103, 111, 95, 105, 110, 95, 103, 114, 111, 117, 112, 105, 110, 103]), .str (tx [103, 111, 95, 105, 110, 95, 103, 114, 111, 117, 112, 105, 110, 103]) 253, .ref 70⟩, ⟨PyData.keyHash P (tx [105, 110, 95, 103, 114, 111, 117, 112, 105, 110, 103, 95, 98]), .str (tx [105, 110, 95, 103, 114, 111, 117, 112, 105, 110, 103, 95, 98]) 261, .ref 77⟩, ⟨PyData.keyHash P (tx [103, 111, 95, 105, 110, 95, 103, 114, 111, 117, 112, 105, 110, 103, 95, 98]), .str (tx [103, 111, 95, 105, 110, 95, 103, 114, 111, 117, 112, 105, 110, 103, 95, 98]) 269, .ref 84⟩, ⟨PyData.keyHash P (tx [111, 117, 116, 95, 103, 114, 111, 117, 112, 105, 110, 103]), .str (tx [111, 117, 116, 95, 103, 114, 111, 117, 112, 105, 110, 103]) 277, .ref 91⟩, ⟨PyData.keyHash P (tx [103, 111, 95, 111, 117, 116, 95, 103, 114, 111, 117, 112, 105, 110, 103]), .str (tx [103, 111, 95, 111, 117, 116, 95, 103, 114, 111, 117, 112, 105, 110, 103]) 285, .ref 98⟩, ⟨PyData.keyHash P (tx [111, 117, 116, 95, 103, 114, 111, 117, 112, 105, 110, 103, 95, 98]), .str (tx [111, 117, 116, 95, 103, 114, 111, 117, 112, 105, 110, 103, 95, 98]) 293, .ref 105⟩, ⟨PyData.keyHash P (tx [103, 111, 95, 111, 117, 116, 95, 103, 114, 111, 117, 112, 105, 110, 103, 95, 98]), .str (tx [103, 111, 95, 111, 117, 116, 95, 103, 114, 111, 117, 112, 105, 110, 103, 95, 98]) 301, .ref 112⟩, ⟨PyData.keyHash P (tx [101, 113, 95, 115]), .str (tx [101, 113, 95, 115]) 309, .ref 119⟩, ⟨PyData.keyHash P (tx [101, 113, 95, 115, 95, 98]), .str (tx [101, 113, 95, 115, 95, 98]) 317, .ref 126⟩, ⟨PyData.keyHash P (tx [102, 105, 110, 100, 95, 97, 109, 111, 110, 103]), .str (tx [102, 105, 110, 100, 95, 97, 109, 111, 110, 103]) 337, .ref 133⟩, ⟨PyData.keyHash P (tx [102, 105, 110, 100, 95, 97, 109, 111, 110, 103, 95, 98]), .str (tx [102, 105, 110, 100, 95, 97, 109, 111, 110, 103, 95, 98]) 357, .ref 140⟩, ⟨PyData.keyHash P (tx [114, 101, 112, 108, 97, 99, 101, 95, 115]), .str (tx [114, 101, 112, 108, 97, 99, 101, 95, 115]) 368, .ref 147⟩, ⟨PyData.keyHash P (tx [115, 108, 105, 99, 101, 95, 102, 114, 111, 109]), .str (tx [115, 108, 105, 99, 101, 95, 102, 114, 111, 109]) 376, .ref 154⟩, ⟨PyData.keyHash P (tx [115, 108, 105, 99, 101, 95, 100, 101, 108]), .str (tx [115, 108, 105, 99, 101, 95, 100, 101, 108]) 383, .ref 161⟩, ⟨PyData.keyHash P (tx [105, 110, 115, 101, 114, 116]), .str (tx [105, 110, 115, 101, 114, 116]) 393, .ref 168⟩, ⟨PyData.keyHash P (tx [115, 108, 105, 99, 101, 95, 116, 111]), .str (tx [115, 108, 105, 99, 101, 95, 116, 111]) 400, .ref 175⟩, ⟨PyData.keyHash P (tx [97, 115, 115, 105, 103, 110, 95, 116, 111]), .str (tx [97, 115, 115, 105, 103, 110, 95, 116, 111]) 407, .ref 182⟩, ⟨PyData.keyHash P (tx [115, 116, 101, 109, 87, 111, 114, 100]), .str (tx [115, 116, 101, 109, 87, 111, 114, 100]) 415, .ref 189⟩, ⟨PyData.keyHash P (tx [115, 116, 101, 109, 87, 111, 114, 100, 115]), .str (tx [115, 116, 101, 109, 87, 111, 114, 100, 115]) 421, .ref 194⟩, ⟨PyData.keyHash P (tx [95, 95, 115, 116, 97, 116, 105, 99, 95, 97, 116, 116, 114, 105, 98, 117, 116, 101, 115, 95, 95]), .str (tx [95, 95, 115, 116, 97, 116, 105, 99, 95, 97, 116, 116, 114, 105, 98, 117, 116, 101, 115, 95, 95]) 428, .ref 195⟩, ⟨PyData.keyHash P (tx [95, 95, 100, 105, 99, 116, 95, 95]), .str (tx [95, 95, 100, 105, 99, 116, 95, 95]) 430, .ref 198⟩, ⟨PyData.keyHash P (tx [95, 95, 119, 101, 97, 107, 114, 101, 102, 95, 95]), .str (tx [95, 95, 119, 101, 97, 107, 114, 101, 102, 95, 95]) 432, .ref 199⟩, ⟨PyData.keyHash P (tx [95, 95, 100, 111, 99, 95, 95]), .str (tx [95, 95, 100, 111, 99, 95, 95]) 433, .none⟩] 4, #[]⟩
noncomputable def ob197 (P : Params) : Obj := ⟨.type "type", none, .cls ⟨tx [66, 97, 115, 101, 83, 116, 101, 109, 109, 101, 114], [.type "object"], [.ref 197, .type "object"], 196, tx [66, 97, 115, 101, 83, 116, 101, 109, 109, 101, 114], true, [], [.ref 431], false, none, false⟩, #[none, none, some (.str (tx [66, 97, 115, 101, 83, 116, 101, 109, 109, 101, 114]) 196), some (.str (tx [66, 97, 115, 101, 83, 116, 101, 109, 109, 101, 114]) 204), some (.builtin "object.__new__"), some (.bool true)]⟩
noncomputable def ob214 (P : Params) : Obj := ⟨.type "code", none, .fields #[.str (tx [95, 95, 105, 110, 105, 116, 95, 95]) 450, .str (tx [65, 109, 111, 110, 103, 46, 95, 95, 105, 110, 105, 116, 95, 95]) 451, .str (tx [47, 99, 108, 97, 105, 109, 47, 99, 117, 116, 46, 112, 121]) 452, .int 205 0, .int 4 0, .int 0 0, .int 0 0, .int 3 0, .ref 209, .bool true, .int 181 0, .ref 210, .none, .ref 211, .ref 212, .ref 213, .int 457 0, .int 205 0, .str (tx [47, 99, 108, 97, 105, 109, 47, 99, 117, 116, 46, 112, 121]) 458], #[]⟩
noncomputable def ob215 (P : Params) : Obj := ⟨.type "function", none, .func (fnOf (stIn 4 0) (tx [65, 109, 111, 110, 103, 46, 95, 95, 105, 110, 105, 116, 95, 95]) (.str (tx [115, 110, 111, 119, 98, 97, 108, 108, 115, 116, 101, 109, 109, 101, 114, 46, 97, 109, 111, 110, 103]) 436) (.ref 214) (.none)), #[]⟩
noncomputable def ob216 (P : Params) : Obj := ⟨.type "tuple", none, .seq #[.str (tx [114, 101, 115, 117, 108, 116]) 460, .str (tx [115]) 461, .str (tx [115, 117, 98, 115, 116, 114, 105, 110, 103, 95, 105]) 462] 0, #[]⟩
noncomputable def ob217 (P : Params) : Obj := ⟨.type "dict", none, .dict #[⟨PyData.keyHash P (tx [95, 95, 109, 111, 100, 117, 108, 101, 95, 95]), .str (tx [95, 95, 109, 111, 100, 117, 108, 101, 95, 95]) 445, .str (tx [115, 110, 111, 119, 98, 97, 108, 108, 115, 116, 101, 109, 109, 101, 114, 46, 97, 109, 111, 110, 103]) 436⟩, ⟨PyData.keyHash P (tx [95, 95, 102, 105, 114, 115, 116, 108, 105, 110, 101, 110, 111, 95, 95]), .str (tx [95, 95, 102, 105, 114, 115, 116, 108, 105, 110, 101, 110, 111, 95, 95]) 449, .int 203 448⟩, ⟨PyData.keyHash P (tx [95, 95, 105, 110, 105, 116, 95, 95]), .str (tx [95, 95, 105, 110, 105, 116, 95, 95]) 459, .ref 215⟩, ⟨PyData.keyHash P (tx [95, 95, 115, 116, 97, 116, 105, 99, 95, 97, 116, 116, 114, 105, 98, 117, 116, 101, 115, 95, 95]), .str (tx [95, 95, 115, 116, 97, 116, 105, 99, 95, 97, 116, 116, 114, 105, 98, 117, 116, 101, 115, 95, 95]) 463, .ref 216⟩, ⟨PyData.keyHash P (tx [95, 95, 100, 105, 99, 116, 95, 95]), .str (tx [95, 95, 100, 105, 99, 116, 95, 95]) 465, .ref 219⟩, ⟨PyData.keyHash P (tx [95, 95, 119, 101, 97, 107, 114, 101, 102, 95, 95]), .str (tx [95, 95, 119, 101, 97, 107, 114, 101, 102, 95, 95]) 467, .ref 220⟩, ⟨PyData.keyHash P (tx [95, 95, 100, 111, 99, 95, 95]), .str (tx [95, 95, 100, 111, 99, 95, 95]) 468, .none⟩] 4, #[]⟩
noncomputable def ob218 (P : Params) : Obj := ⟨.type "type", none, .cls ⟨tx [65, 109, 111, 110, 103], [.type "object"], [.ref 218, .type "object"], 217, tx [65, 109, 111, 110, 103], true, [], [], false, none, false⟩, #[none, none, some (.str (tx [65, 109, 111, 110, 103]) 438), some (.str (tx [65, 109, 111, 110, 103]) 446), some (.builtin "object.__new__"), some (.bool true)]⟩
noncomputable def ob239 (P : Params) : Obj := ⟨.type "code", none, .fields #[.str (tx [114, 95, 112, 114, 101, 108, 117, 100, 101]) 579, .str (tx [71, 101, 114, 109, 97, 110, 83, 116, 101, 109, 109, 101, 114, 46, 114, 95, 112, 114, 101, 108, 117, 100, 101]) 580, .str (tx [47, 99, 108, 97, 105, 109, 47, 99, 117, 116, 46, 112, 121]) 581, .int 218 0, .int 1 0, .int 0 0, .int 0 0, .int 3 0, .ref 234, .bool true, .int 181 0, .ref 235, .none, .ref 236, .ref 237, .ref 238, .int 589 0, .int 218 0, .str (tx [47, 99, 108, 97, 105, 109, 47, 99, 117, 116, 46, 112, 121]) 590], #[]⟩
noncomputable def ob240 (P : Params) : Obj := ⟨.type "function", none, .func (fnOf (stIn 6 6) (tx [71, 101, 114, 109, 97, 110, 83, 116, 101, 109, 109, 101, 114, 46, 114, 95, 112, 114, 101, 108, 117, 100, 101]) (.str (tx [115, 110, 111, 119, 98, 97, 108, 108, 115, 116, 101, 109, 109, 101, 114, 46, 103, 101, 114, 109, 97, 110, 95, 115, 116, 101, 109, 109, 101, 114]) 471) (.ref 239) (.none)), #[]⟩
noncomputable def ob246 (P : Params) : Obj := ⟨.type "code", none, .fields #[.str (tx [114, 95, 109, 97, 114, 107, 95, 114, 101, 103, 105, 111, 110, 115]) 592, .str (tx [71, 101, 114, 109, 97, 110, 83, 116, 101, 109, 109, 101, 114, 46, 114, 95, 109, 97, 114, 107, 95, 114, 101, 103, 105, 111, 110, 115]) 593, .str (tx [47, 99, 108, 97, 105, 109, 47, 99, 117, 116, 46, 112, 121]) 594, .int 290 0, .int 1 0, .int 0 0, .int 0 0, .int 3 0, .ref 241, .bool true, .int 181 0, .ref 242, .none, .ref 243, .ref 244, .ref 245, .int 598 0, .int 290 0, .str (tx [47, 99, 108, 97, 105, 109, 47, 99, 117, 116, 46, 112, 121]) 599], #[]⟩
noncomputable def ob247 (P : Params) : Obj := ⟨.type "function", none, .func (fnOf (stIn 6 7) (tx [71, 101, 114, 109, 97, 110, 83, 116, 101, 109, 109, 101, 114, 46, 114, 95, 109, 97, 114, 107, 95, 114, 101, 103, 105, 111, 110, 115]) (.str (tx [115, 110, 111, 119, 98, 97, 108, 108, 115, 116, 101, 109, 109, 101, 114, 46, 103, 101, 114, 109, 97, 110, 95, 115, 116, 101, 109, 109, 101, 114]) 471) (.ref 246) (.none)), #[]⟩
noncomputable def ob253 (P : Params) : Obj := ⟨.type "code", none, .fields #[.str (tx [114, 95, 112, 111, 115, 116, 108, 117, 100, 101]) 601, .str (tx [71, 101, 114, 109, 97, 110, 83, 116, 101, 109, 109, 101, 114, 46, 114, 95, 112, 111, 115, 116, 108, 117, 100, 101]) 602, .str (tx [47, 99, 108, 97, 105, 109, 47, 99, 117, 116, 46, 112, 121]) 603, .int 321 0, .int 1 0, .int 0 0, .int 0 0, .int 3 0, .ref 248, .bool true, .int 181 0, .ref 249, .none, .ref 250, .ref 251, .ref 252, .int 607 0, .int 321 0, .str (tx [47, 99, 108, 97, 105, 109, 47, 99, 117, 116, 46, 112, 121]) 608], #[]⟩
noncomputable def ob254 (P : Params) : Obj := ⟨.type "function", none, .func (fnOf (stIn 6 8) (tx [71, 101, 114, 109, 97, 110, 83, 116, 101, 109, 109, 101, 114, 46, 114, 95, 112, 111, 115, 116, 108, 117, 100, 101]) (.str (tx [115, 110, 111, 119, 98, 97, 108, 108, 115, 116, 101, 109, 109, 101, 114, 46, 103, 101, 114, 109, 97, 110, 95, 115, 116, 101, 109, 109, 101, 114]) 471) (.ref 253) (.none)), #[]⟩
noncomputable def ob260 (P : Params) : Obj := ⟨.type "code", none, .fields #[.str (tx [114, 95, 82, 49]) 610, .str (tx [71, 101, 114, 109, 97, 110, 83, 116, 101, 109, 109, 101, 114, 46, 114, 95, 82, 49]) 611, .str (tx [47, 99, 108, 97, 105, 109, 47, 99, 117, 116, 46, 112, 121]) 612, .int 347 0, .int 1 0, .int 0 0, .int 0 0, .int 3 0, .ref 255, .bool true, .int 181 0, .ref 256, .none, .ref 257, .ref 258, .ref 259, .int 614 0, .int 347 0, .str (tx [47, 99, 108, 97, 105, 109, 47, 99, 117, 116, 46, 112, 121]) 615], #[]⟩
noncomputable def ob261 (P : Params) : Obj := ⟨.type "function", none, .func (fnOf (stIn 6 9) (tx [71, 101, 114, 109, 97, 110, 83, 116, 101, 109, 109, 101, 114, 46, 114, 95, 82, 49]) (.str (tx [115, 110, 111, 119, 98, 97, 108, 108, 115, 116, 101, 109, 109, 101, 114, 46, 103, 101, 114, 109, 97, 110, 95, 115, 116, 101, 109, 109, 101, 114]) 471) (.ref 260) (.none)), #[]⟩
noncomputable def ob267 (P : Params) : Obj := ⟨.type "code", none, .fields #[.str (tx [114, 95, 82, 50]) 617, .str (tx [71, 101, 114, 109, 97, 110, 83, 116, 101, 109, 109, 101, 114, 46, 114, 95, 82, 50]) 618, .str (tx [47, 99, 108, 97, 105, 109, 47, 99, 117, 116, 46, 112, 121]) 619, .int 350 0, .int 1 0, .int 0 0, .int 0 0, .int 3 0, .ref 262, .bool true, .int 181 0, .ref 263, .none, .ref 264, .ref 265, .ref 266, .int 621 0, .int 350 0, .str (tx [47, 99, 108, 97, 105, 109, 47, 99, 117, 116, 46, 112, 121]) 622], #[]⟩
noncomputable def ob268 (P : Params) : Obj := ⟨.type "function", none, .func (fnOf (stIn 6 10) (tx [71, 101, 114, 109, 97, 110, 83, 116, 101, 109, 109, 101, 114, 46, 114, 95, 82, 50]) (.str (tx [115, 110, 111, 119, 98, 97, 108, 108, 115, 116, 101, 109, 109, 101, 114, 46, 103, 101, 114, 109, 97, 110, 95, 115, 116, 101, 109, 109, 101, 114]) 471) (.ref 267) (.none)), #[]⟩
noncomputable def ob274 (P : Params) : Obj := ⟨.type "code", none, .fields #[.str (tx [114, 95, 115, 116, 97, 110, 100, 97, 114, 100, 95, 115, 117, 102, 102, 105, 120]) 624, .str (tx [71, 101, 114, 109, 97, 110, 83, 116, 101, 109, 109, 101, 114, 46, 114, 95, 115, 116, 97, 110, 100, 97, 114, 100, 95, 115, 117, 102, 102, 105, 120]) 625, .str (tx [47, 99, 108, 97, 105, 109, 47, 99, 117, 116, 46, 112, 121]) 626, .int 353 0, .int 1 0, .int 0 0, .int 0 0, .int 3 0, .ref 269, .bool true, .int 181 0, .ref 270, .none, .ref 271, .ref 272, .ref 273, .int 639 0, .int 353 0, .str (tx [47, 99, 108, 97, 105, 109, 47, 99, 117, 116, 46, 112, 121]) 640], #[]⟩
noncomputable def ob275 (P : Params) : Obj := ⟨.type "function", none, .func (fnOf (stIn 6 11) (tx [71, 101, 114, 109, 97, 110, 83, 116, 101, 109, 109, 101, 114, 46, 114, 95, 115, 116, 97, 110, 100, 97, 114, 100, 95, 115, 117, 102, 102, 105, 120]) (.str (tx [115, 110, 111, 119, 98, 97, 108, 108, 115, 116, 101, 109, 109, 101, 114, 46, 103, 101, 114, 109, 97, 110, 95, 115, 116, 101, 109, 109, 101, 114]) 471) (.ref 274) (.none)), #[]⟩
noncomputable def ob281 (P : Params) : Obj := ⟨.type "code", none, .fields #[.str (tx [95, 115, 116, 101, 109]) 642, .str (tx [71, 101, 114, 109, 97, 110, 83, 116, 101, 109, 109, 101, 114, 46, 95, 115, 116, 101, 109]) 643, .str (tx [47, 99, 108, 97, 105, 109, 47, 99, 117, 116, 46, 112, 121]) 644, .int 532 0, .int 1 0, .int 0 0, .int 0 0, .int 3 0, .ref 276, .bool true, .int 181 0, .ref 277, .none, .ref 278, .ref 279, .ref 280, .int 649 0, .int 532 0, .str (tx [47, 99, 108, 97, 105, 109, 47, 99, 117, 116, 46, 112, 121]) 650], #[]⟩
noncomputable def ob282 (P : Params) : Obj := ⟨.type "function", none, .func (fnOf (stIn 6 12) (tx [71, 101, 114, 109, 97, 110, 83, 116, 101, 109, 109, 101, 114, 46, 95, 115, 116, 101, 109]) (.str (tx [115, 110, 111, 119, 98, 97, 108, 108, 115, 116, 101, 109, 109, 101, 114, 46, 103, 101, 114, 109, 97, 110, 95, 115, 116, 101, 109, 109, 101, 114]) 471) (.ref 281) (.none)), #[]⟩
noncomputable def ob283 (P : Params) : Obj := ⟨.type "dict", none, .dict #[⟨PyData.keyHash P (tx [115]), .str (tx [115]) 661, .str (tx []) 652⟩, ⟨PyData.keyHash P (tx [115, 117, 98, 115, 116, 114, 105, 110, 103, 95, 105]), .str (tx [115, 117, 98, 115, 116, 114, 105, 110, 103, 95, 105]) 663, .int (-1) 654⟩, ⟨PyData.keyHash P (tx [114, 101, 115, 117, 108, 116]), .str (tx [114, 101, 115, 117, 108, 116]) 665, .int 5 655⟩] 3, #[]⟩
noncomputable def ob284 (P : Params) : Obj := ⟨.ref 218, some 283, .plain, #[]⟩
noncomputable def ob286 (P : Params) : Obj := ⟨.type "dict", none, .dict #[⟨PyData.keyHash P (tx [115]), .str (tx [115]) 674, .str (tx [97, 101]) 666⟩, ⟨PyData.keyHash P (tx [115, 117, 98, 115, 116, 114, 105, 110, 103, 95, 105]), .str (tx [115, 117, 98, 115, 116, 114, 105, 110, 103, 95, 105]) 676, .int 0 667⟩, ⟨PyData.keyHash P (tx [114, 101, 115, 117, 108, 116]), .str (tx [114, 101, 115, 117, 108, 116]) 678, .int 2 668⟩] 3, #[]⟩
noncomputable def ob287 (P : Params) : Obj := ⟨.ref 218, some 286, .plain, #[]⟩
noncomputable def ob289 (P : Params) : Obj := ⟨.type "dict", none, .dict #[⟨PyData.keyHash P (tx [115]), .str (tx [115]) 687, .str (tx [111, 101]) 679⟩, ⟨PyData.keyHash P (tx [115, 117, 98, 115, 116, 114, 105, 110, 103, 95, 105]), .str (tx [115, 117, 98, 115, 116, 114, 105, 110, 103, 95, 105]) 689, .int 0 680⟩, ⟨PyData.keyHash P (tx [114, 101, 115, 117, 108, 116]), .str (tx [114, 101, 115, 117, 108, 116]) 691, .int 3 681⟩] 3, #[]⟩
noncomputable def ob290 (P : Params) : Obj := ⟨.ref 218, some 289, .plain, #[]⟩
noncomputable def ob292 (P : Params) : Obj := ⟨.type "dict", none, .dict #[⟨PyData.keyHash P (tx [115]), .str (tx [115]) 701, .str (tx [113, 117]) 692⟩, ⟨PyData.keyHash P (tx [115, 117, 98, 115, 116, 114, 105, 110, 103, 95, 105]), .str (tx [115, 117, 98, 115, 116, 114, 105, 110, 103, 95, 105]) 703, .int 0 693⟩, ⟨PyData.keyHash P (tx [114, 101, 115, 117, 108, 116]), .str (tx [114, 101, 115, 117, 108, 116]) 705, .int (-1) 695⟩] 3, #[]⟩
noncomputable def ob293 (P : Params) : Obj := ⟨.ref 218, some 292, .plain, #[]⟩
noncomputable def ob295 (P : Params) : Obj := ⟨.type "dict", none, .dict #[⟨PyData.keyHash P (tx [115]), .str (tx [115]) 714, .str (tx [117, 101]) 706⟩, ⟨PyData.keyHash P (tx [115, 117, 98, 115, 116, 114, 105, 110, 103, 95, 105]), .str (tx [115, 117, 98, 115, 116, 114, 105, 110, 103, 95, 105]) 716, .int 0 707⟩, ⟨PyData.keyHash P (tx [114, 101, 115, 117, 108, 116]), .str (tx [114, 101, 115, 117, 108, 116]) 718, .int 4 708⟩] 3, #[]⟩
noncomputable def ob296 (P : Params) : Obj := ⟨.ref 218, some 295, .plain, #[]⟩
noncomputable def ob298 (P : Params) : Obj := ⟨.type "dict", none, .dict #[⟨PyData.keyHash P (tx [115]), .str (tx [115]) 727, .str (tx [223]) 719⟩, ⟨PyData.keyHash P (tx [115, 117, 98, 115, 116, 114, 105, 110, 103, 95, 105]), .str (tx [115, 117, 98, 115, 116, 114, 105, 110, 103, 95, 105]) 729, .int 0 720⟩, ⟨PyData.keyHash P (tx [114, 101, 115, 117, 108, 116]), .str (tx [114, 101, 115, 117, 108, 116]) 731, .int 1 721⟩] 3, #[]⟩
noncomputable def ob299 (P : Params) : Obj := ⟨.ref 218, some 298, .plain, #[]⟩
noncomputable def ob301 (P : Params) : Obj := ⟨.type "list", none, .seq #[.ref 284, .ref 287, .ref 290, .ref 293, .ref 296, .ref 299] 0, #[]⟩
noncomputable def ob302 (P : Params) : Obj := ⟨.type "dict", none, .dict #[⟨PyData.keyHash P (tx [115]), .str (tx [115]) 742, .str (tx []) 733⟩, ⟨PyData.keyHash P (tx [115, 117, 98, 115, 116, 114, 105, 110, 103, 95, 105]), .str (tx [115, 117, 98, 115, 116, 114, 105, 110, 103, 95, 105]) 744, .int (-1) 735⟩, ⟨PyData.keyHash P (tx [114, 101, 115, 117, 108, 116]), .str (tx [114, 101, 115, 117, 108, 116]) 746, .int 5 736⟩] 3, #[]⟩
noncomputable def ob303 (P : Params) : Obj := ⟨.ref 218, some 302, .plain, #[]⟩
noncomputable def ob305 (P : Params) : Obj := ⟨.type "dict", none, .dict #[⟨PyData.keyHash P (tx [115]), .str (tx [115]) 755, .str (tx [85]) 747⟩, ⟨PyData.keyHash P (tx [115, 117, 98, 115, 116, 114, 105, 110, 103, 95, 105]), .str (tx [115, 117, 98, 115, 116, 114, 105, 110, 103, 95, 105]) 757, .int 0 748⟩, ⟨PyData.keyHash P (tx [114, 101, 115, 117, 108, 116]), .str (tx [114, 101, 115, 117, 108, 116]) 759, .int 2 749⟩] 3, #[]⟩
noncomputable def ob306 (P : Params) : Obj := ⟨.ref 218, some 305, .plain, #[]⟩
noncomputable def ob308 (P : Params) : Obj := ⟨.type "dict", none, .dict #[⟨PyData.keyHash P (tx [115]), .str (tx [115]) 768, .str (tx [89]) 760⟩, ⟨PyData.keyHash P (tx [115, 117, 98, 115, 116, 114, 105, 110, 103, 95, 105]), .str (tx [115, 117, 98, 115, 116, 114, 105, 110, 103, 95, 105]) 770, .int 0 761⟩, ⟨PyData.keyHash P (tx [114, 101, 115, 117, 108, 116]), .str (tx [114, 101, 115, 117, 108, 116]) 772, .int 1 762⟩] 3, #[]⟩
noncomputable def ob309 (P : Params) : Obj := ⟨.ref 218, some 308, .plain, #[]⟩
noncomputable def ob311 (P : Params) : Obj := ⟨.type "dict", none, .dict #[⟨PyData.keyHash P (tx [115]), .str (tx [115]) 781, .str (tx [228]) 773⟩, ⟨PyData.keyHash P (tx [115, 117, 98, 115, 116, 114, 105, 110, 103, 95, 105]), .str (tx [115, 117, 98, 115, 116, 114, 105, 110, 103, 95, 105]) 783, .int 0 774⟩, ⟨PyData.keyHash P (tx [114, 101, 115, 117, 108, 116]), .str (tx [114, 101, 115, 117, 108, 116]) 785, .int 3 775⟩] 3, #[]⟩
noncomputable def ob312 (P : Params) : Obj := ⟨.ref 218, some 311, .plain, #[]⟩
noncomputable def ob314 (P : Params) : Obj := ⟨.type "dict", none, .dict #[⟨PyData.keyHash P (tx [115]), .str (tx [115]) 794, .str (tx [246]) 786⟩, ⟨PyData.keyHash P (tx [115, 117, 98, 115, 116, 114, 105, 110, 103, 95, 105]), .str (tx [115, 117, 98, 115, 116, 114, 105, 110, 103, 95, 105]) 796, .int 0 787⟩, ⟨PyData.keyHash P (tx [114, 101, 115, 117, 108, 116]), .str (tx [114, 101, 115, 117, 108, 116]) 798, .int 4 788⟩] 3, #[]⟩
noncomputable def ob315 (P : Params) : Obj := ⟨.ref 218, some 314, .plain, #[]⟩
noncomputable def ob317 (P : Params) : Obj := ⟨.type "dict", none, .dict #[⟨PyData.keyHash P (tx [115]), .str (tx [115]) 807, .str (tx [252]) 799⟩, ⟨PyData.keyHash P (tx [115, 117, 98, 115, 116, 114, 105, 110, 103, 95, 105]), .str (tx [115, 117, 98, 115, 116, 114, 105, 110, 103, 95, 105]) 809, .int 0 800⟩, ⟨PyData.keyHash P (tx [114, 101, 115, 117, 108, 116]), .str (tx [114, 101, 115, 117, 108, 116]) 811, .int 2 801⟩] 3, #[]⟩
noncomputable def ob318 (P : Params) : Obj := ⟨.ref 218, some 317, .plain, #[]⟩
noncomputable def ob320 (P : Params) : Obj := ⟨.type "list", none, .seq #[.ref 303, .ref 306, .ref 309, .ref 312, .ref 315, .ref 318] 0, #[]⟩
noncomputable def ob321 (P : Params) : Obj := ⟨.type "dict", none, .dict #[⟨PyData.keyHash P (tx [115]), .str (tx [115]) 822, .str (tx [101]) 813⟩, ⟨PyData.keyHash P (tx [115, 117, 98, 115, 116, 114, 105, 110, 103, 95, 105]), .str (tx [115, 117, 98, 115, 116, 114, 105, 110, 103, 95, 105]) 824, .int (-1) 815⟩, ⟨PyData.keyHash P (tx [114, 101, 115, 117, 108, 116]), .str (tx [114, 101, 115, 117, 108, 116]) 826, .int 3 816⟩] 3, #[]⟩
noncomputable def ob322 (P : Params) : Obj := ⟨.ref 218, some 321, .plain, #[]⟩
noncomputable def ob324 (P : Params) : Obj := ⟨.type "dict", none, .dict #[⟨PyData.keyHash P (tx [115]), .str (tx [115]) 836, .str (tx [101, 109]) 827⟩, ⟨PyData.keyHash P (tx [115, 117, 98, 115, 116, 114, 105, 110, 103, 95, 105]), .str (tx [115, 117, 98, 115, 116, 114, 105, 110, 103, 95, 105]) 838, .int (-1) 829⟩, ⟨PyData.keyHash P (tx [114, 101, 115, 117, 108, 116]), .str (tx [114, 101, 115, 117, 108, 116]) 840, .int 1 830⟩] 3, #[]⟩
noncomputable def ob325 (P : Params) : Obj := ⟨.ref 218, some 324, .plain, #[]⟩
noncomputable def ob327 (P : Params) : Obj := ⟨.type "dict", none, .dict #[⟨PyData.keyHash P (tx [115]), .str (tx [115]) 850, .str (tx [101, 110]) 841⟩, ⟨PyData.keyHash P (tx [115, 117, 98, 115, 116, 114, 105, 110, 103, 95, 105]), .str (tx [115, 117, 98, 115, 116, 114, 105, 110, 103, 95, 105]) 852, .int (-1) 843⟩, ⟨PyData.keyHash P (tx [114, 101, 115, 117, 108, 116]), .str (tx [114, 101, 115, 117, 108, 116]) 854, .int 3 844⟩] 3, #[]⟩
noncomputable def ob328 (P : Params) : Obj := ⟨.ref 218, some 327, .plain, #[]⟩
noncomputable def ob330 (P : Params) : Obj := ⟨.type "dict", none, .dict #[⟨PyData.keyHash P (tx [115]), .str (tx [115]) 863, .str (tx [101, 114, 105, 110, 110, 101, 110]) 855⟩, ⟨PyData.keyHash P (tx [115, 117, 98, 115, 116, 114, 105, 110, 103, 95, 105]), .str (tx [115, 117, 98, 115, 116, 114, 105, 110, 103, 95, 105]) 865, .int 2 856⟩, ⟨PyData.keyHash P (tx [114, 101, 115, 117, 108, 116]), .str (tx [114, 101, 115, 117, 108, 116]) 867, .int 2 857⟩] 3, #[]⟩
noncomputable def ob331 (P : Params) : Obj := ⟨.ref 218, some 330, .plain, #[]⟩
noncomputable def ob333 (P : Params) : Obj := ⟨.type "dict", none, .dict #[⟨PyData.keyHash P (tx [115]), .str (tx [115]) 877, .str (tx [101, 114, 105, 110]) 868⟩, ⟨PyData.keyHash P (tx [115, 117, 98, 115, 116, 114, 105, 110, 103, 95, 105]), .str (tx [115, 117, 98, 115, 116, 114, 105, 110, 103, 95, 105]) 879, .int (-1) 870⟩, ⟨PyData.keyHash P (tx [114, 101, 115, 117, 108, 116]), .str (tx [114, 101, 115, 117, 108, 116]) 881, .int 2 871⟩] 3, #[]⟩
noncomputable def ob334 (P : Params) : Obj := ⟨.ref 218, some 333, .plain, #[]⟩
noncomputable def ob336 (P : Params) : Obj := ⟨.type "dict", none, .dict #[⟨PyData.keyHash P (tx [115]), .str (tx [115]) 891, .str (tx [108, 110]) 882⟩, ⟨PyData.keyHash P (tx [115, 117, 98, 115, 116, 114, 105, 110, 103, 95, 105]), .str (tx [115, 117, 98, 115, 116, 114, 105, 110, 103, 95, 105]) 893, .int (-1) 884⟩, ⟨PyData.keyHash P (tx [114, 101, 115, 117, 108, 116]), .str (tx [114, 101, 115, 117, 108, 116]) 895, .int 5 885⟩] 3, #[]⟩
noncomputable def ob337 (P : Params) : Obj := ⟨.ref 218, some 336, .plain, #[]⟩
noncomputable def ob339 (P : Params) : Obj := ⟨.type "dict", none, .dict #[⟨PyData.keyHash P (tx [115]), .str (tx [115]) 905, .str (tx [101, 114, 110]) 896⟩, ⟨PyData.keyHash P (tx [115, 117, 98, 115, 116, 114, 105, 110, 103, 95, 105]), .str (tx [115, 117, 98, 115, 116, 114, 105, 110, 103, 95, 105]) 907, .int (-1) 898⟩, ⟨PyData.keyHash P (tx [114, 101, 115, 117, 108, 116]), .str (tx [114, 101, 115, 117, 108, 116]) 909, .int 2 899⟩] 3, #[]⟩
noncomputable def ob340 (P : Params) : Obj := ⟨.ref 218, some 339, .plain, #[]⟩
noncomputable def ob342 (P : Params) : Obj := ⟨.type "dict", none, .dict #[⟨PyData.keyHash P (tx [115]), .str (tx [115]) 919, .str (tx [101, 114]) 910⟩, ⟨PyData.keyHash P (tx [115, 117, 98, 115, 116, 114, 105, 110, 103, 95, 105]), .str (tx [115, 117, 98, 115, 116, 114, 105, 110, 103, 95, 105]) 921, .int (-1) 912⟩, ⟨PyData.keyHash P (tx [114, 101, 115, 117, 108, 116]), .str (tx [114, 101, 115, 117, 108, 116]) 923, .int 2 913⟩] 3, #[]⟩
noncomputable def ob343 (P : Params) : Obj := ⟨.ref 218, some 342, .plain, #[]⟩
noncomputable def ob345 (P : Params) : Obj := ⟨.type "dict", none, .dict #[⟨PyData.keyHash P (tx [115]), .str (tx [115]) 933, .str (tx [115]) 924⟩, ⟨PyData.keyHash P (tx [115, 117, 98, 115, 116, 114, 105, 110, 103, 95, 105]), .str (tx [115, 117, 98, 115, 116, 114, 105, 110, 103, 95, 105]) 935, .int (-1) 926⟩, ⟨PyData.keyHash P (tx [114, 101, 115, 117, 108, 116]), .str (tx [114, 101, 115, 117, 108, 116]) 937, .int 4 927⟩] 3, #[]⟩
noncomputable def ob346 (P : Params) : Obj := ⟨.ref 218, some 345, .plain, #[]⟩
noncomputable def ob348 (P : Params) : Obj := ⟨.type "dict", none, .dict #[⟨PyData.keyHash P (tx [115]), .str (tx [115]) 946, .str (tx [101, 115]) 938⟩, ⟨PyData.keyHash P (tx [115, 117, 98, 115, 116, 114, 105, 110, 103, 95, 105]), .str (tx [115, 117, 98, 115, 116, 114, 105, 110, 103, 95, 105]) 948, .int 8 939⟩, ⟨PyData.keyHash P (tx [114, 101, 115, 117, 108, 116]), .str (tx [114, 101, 115, 117, 108, 116]) 950, .int 3 940⟩] 3, #[]⟩
noncomputable def ob349 (P : Params) : Obj := ⟨.ref 218, some 348, .plain, #[]⟩
noncomputable def ob351 (P : Params) : Obj := ⟨.type "dict", none, .dict #[⟨PyData.keyHash P (tx [115]), .str (tx [115]) 959, .str (tx [108, 110, 115]) 951⟩, ⟨PyData.keyHash P (tx [115, 117, 98, 115, 116, 114, 105, 110, 103, 95, 105]), .str (tx [115, 117, 98, 115, 116, 114, 105, 110, 103, 95, 105]) 961, .int 8 952⟩, ⟨PyData.keyHash P (tx [114, 101, 115, 117, 108, 116]), .str (tx [114, 101, 115, 117, 108, 116]) 963, .int 5 953⟩] 3, #[]⟩
noncomputable def ob352 (P : Params) : Obj := ⟨.ref 218, some 351, .plain, #[]⟩
noncomputable def ob354 (P : Params) : Obj := ⟨.type "list", none, .seq #[.ref 322, .ref 325, .ref 328, .ref 331, .ref 334, .ref 337, .ref 340, .ref 343, .ref 346, .ref 349, .ref 352] 0, #[]⟩
noncomputable def ob355 (P : Params) : Obj := ⟨.type "dict", none, .dict #[⟨PyData.keyHash P (tx [115]), .str (tx [115]) 975, .str (tx [116, 105, 99, 107]) 965⟩, ⟨PyData.keyHash P (tx [115, 117, 98, 115, 116, 114, 105, 110, 103, 95, 105]), .str (tx [115, 117, 98, 115, 116, 114, 105, 110, 103, 95, 105]) 977, .int (-1) 967⟩, ⟨PyData.keyHash P (tx [114, 101, 115, 117, 108, 116]), .str (tx [114, 101, 115, 117, 108, 116]) 979, .int (-1) 969⟩] 3, #[]⟩
noncomputable def ob356 (P : Params) : Obj := ⟨.ref 218, some 355, .plain, #[]⟩
noncomputable def ob358 (P : Params) : Obj := ⟨.type "dict", none, .dict #[⟨PyData.keyHash P (tx [115]), .str (tx [115]) 990, .str (tx [112, 108, 97, 110]) 980⟩, ⟨PyData.keyHash P (tx [115, 117, 98, 115, 116, 114, 105, 110, 103, 95, 105]), .str (tx [115, 117, 98, 115, 116, 114, 105, 110, 103, 95, 105]) 992, .int (-1) 982⟩, ⟨PyData.keyHash P (tx [114, 101, 115, 117, 108, 116]), .str (tx [114, 101, 115, 117, 108, 116]) 994, .int (-1) 984⟩] 3, #[]⟩
noncomputable def ob359 (P : Params) : Obj := ⟨.ref 218, some 358, .plain, #[]⟩
noncomputable def ob361 (P : Params) : Obj := ⟨.type "dict", none, .dict #[⟨PyData.keyHash P (tx [115]), .str (tx [115]) 1005, .str (tx [103, 101, 111, 114, 100, 110]) 995⟩, ⟨PyData.keyHash P (tx [115, 117, 98, 115, 116, 114, 105, 110, 103, 95, 105]), .str (tx [115, 117, 98, 115, 116, 114, 105, 110, 103, 95, 105]) 1007, .int (-1) 997⟩, ⟨PyData.keyHash P (tx [114, 101, 115, 117, 108, 116]), .str (tx [114, 101, 115, 117, 108, 116]) 1009, .int (-1) 999⟩] 3, #[]⟩
noncomputable def ob362 (P : Params) : Obj := ⟨.ref 218, some 361, .plain, #[]⟩
noncomputable def ob364 (P : Params) : Obj := ⟨.type "dict", none, .dict #[⟨PyData.keyHash P (tx [115]), .str (tx [115]) 1020, .str (tx [105, 110, 116, 101, 114, 110]) 1010⟩, ⟨PyData.keyHash P (tx [115, 117, 98, 115, 116, 114, 105, 110, 103, 95, 105]), .str (tx [115, 117, 98, 115, 116, 114, 105, 110, 103, 95, 105]) 1022, .int (-1) 1012⟩, ⟨PyData.keyHash P (tx [114, 101, 115, 117, 108, 116]), .str (tx [114, 101, 115, 117, 108, 116]) 1024, .int (-1) 1014⟩] 3, #[]⟩
noncomputable def ob365 (P : Params) : Obj := ⟨.ref 218, some 364, .plain, #[]⟩
noncomputable def ob367 (P : Params) : Obj := ⟨.type "dict", none, .dict #[⟨PyData.keyHash P (tx [115]), .str (tx [115]) 1035, .str (tx [116, 114]) 1025⟩, ⟨PyData.keyHash P (tx [115, 117, 98, 115, 116, 114, 105, 110, 103, 95, 105]), .str (tx [115, 117, 98, 115, 116, 114, 105, 110, 103, 95, 105]) 1037, .int (-1) 1027⟩, ⟨PyData.keyHash P (tx [114, 101, 115, 117, 108, 116]), .str (tx [114, 101, 115, 117, 108, 116]) 1039, .int (-1) 1029⟩] 3, #[]⟩
noncomputable def ob368 (P : Params) : Obj := ⟨.ref 218, some 367, .plain, #[]⟩
noncomputable def ob370 (P : Params) : Obj := ⟨.type "list", none, .seq #[.ref 356, .ref 359, .ref 362, .ref 365, .ref 368] 0, #[]⟩
noncomputable def ob371 (P : Params) : Obj := ⟨.type "dict", none, .dict #[⟨PyData.keyHash P (tx [115]), .str (tx [115]) 1050, .str (tx [101, 110]) 1041⟩, ⟨PyData.keyHash P (tx [115, 117, 98, 115, 116, 114, 105, 110, 103, 95, 105]), .str (tx [115, 117, 98, 115, 116, 114, 105, 110, 103, 95, 105]) 1052, .int (-1) 1043⟩, ⟨PyData.keyHash P (tx [114, 101, 115, 117, 108, 116]), .str (tx [114, 101, 115, 117, 108, 116]) 1054, .int 1 1044⟩] 3, #[]⟩
noncomputable def ob372 (P : Params) : Obj := ⟨.ref 218, some 371, .plain, #[]⟩
noncomputable def ob374 (P : Params) : Obj := ⟨.type "dict", none, .dict #[⟨PyData.keyHash P (tx [115]), .str (tx [115]) 1064, .str (tx [101, 114]) 1055⟩, ⟨PyData.keyHash P (tx [115, 117, 98, 115, 116, 114, 105, 110, 103, 95, 105]), .str (tx [115, 117, 98, 115, 116, 114, 105, 110, 103, 95, 105]) 1066, .int (-1) 1057⟩, ⟨PyData.keyHash P (tx [114, 101, 115, 117, 108, 116]), .str (tx [114, 101, 115, 117, 108, 116]) 1068, .int 1 1058⟩] 3, #[]⟩
noncomputable def ob375 (P : Params) : Obj := ⟨.ref 218, some 374, .plain, #[]⟩
noncomputable def ob377 (P : Params) : Obj := ⟨.type "dict", none, .dict #[⟨PyData.keyHash P (tx [115]), .str (tx [115]) 1078, .str (tx [101, 116]) 1069⟩, ⟨PyData.keyHash P (tx [115, 117, 98, 115, 116, 114, 105, 110, 103, 95, 105]), .str (tx [115, 117, 98, 115, 116, 114, 105, 110, 103, 95, 105]) 1080, .int (-1) 1071⟩, ⟨PyData.keyHash P (tx [114, 101, 115, 117, 108, 116]), .str (tx [114, 101, 115, 117, 108, 116]) 1082, .int 3 1072⟩] 3, #[]⟩
noncomputable def ob378 (P : Params) : Obj := ⟨.ref 218, some 377, .plain, #[]⟩
noncomputable def ob380 (P : Params) : Obj := ⟨.type "dict", none, .dict #[⟨PyData.keyHash P (tx [115]), .str (tx [115]) 1092, .str (tx [115, 116]) 1083⟩, ⟨PyData.keyHash P (tx [115, 117, 98, 115, 116, 114, 105, 110, 103, 95, 105]), .str (tx [115, 117, 98, 115, 116, 114, 105, 110, 103, 95, 105]) 1094, .int (-1) 1085⟩, ⟨PyData.keyHash P (tx [114, 101, 115, 117, 108, 116]), .str (tx [114, 101, 115, 117, 108, 116]) 1096, .int 2 1086⟩] 3, #[]⟩
noncomputable def ob381 (P : Params) : Obj := ⟨.ref 218, some 380, .plain, #[]⟩
noncomputable def ob383 (P : Params) : Obj := ⟨.type "dict", none, .dict #[⟨PyData.keyHash P (tx [115]), .str (tx [115]) 1105, .str (tx [101, 115, 116]) 1097⟩, ⟨PyData.keyHash P (tx [115, 117, 98, 115, 116, 114, 105, 110, 103, 95, 105]), .str (tx [115, 117, 98, 115, 116, 114, 105, 110, 103, 95, 105]) 1107, .int 3 1098⟩, ⟨PyData.keyHash P (tx [114, 101, 115, 117, 108, 116]), .str (tx [114, 101, 115, 117, 108, 116]) 1109, .int 1 1099⟩] 3, #[]⟩
noncomputable def ob384 (P : Params) : Obj := ⟨.ref 218, some 383, .plain, #[]⟩
noncomputable def ob386 (P : Params) : Obj := ⟨.type "list", none, .seq #[.ref 372, .ref 375, .ref 378, .ref 381, .ref 384] 0, #[]⟩
noncomputable def ob387 (P : Params) : Obj := ⟨.type "dict", none, .dict #[⟨PyData.keyHash P (tx [115]), .str (tx [115]) 1120, .str (tx [105, 103]) 1111⟩, ⟨PyData.keyHash P (tx [115, 117, 98, 115, 116, 114, 105, 110, 103, 95, 105]), .str (tx [115, 117, 98, 115, 116, 114, 105, 110, 103, 95, 105]) 1122, .int (-1) 1113⟩, ⟨PyData.keyHash P (tx [114, 101, 115, 117, 108, 116]), .str (tx [114, 101, 115, 117, 108, 116]) 1124, .int 1 1114⟩] 3, #[]⟩
noncomputable def ob388 (P : Params) : Obj := ⟨.ref 218, some 387, .plain, #[]⟩
noncomputable def ob390 (P : Params) : Obj := ⟨.type "dict", none, .dict #[⟨PyData.keyHash P (tx [115]), .str (tx [115]) 1134, .str (tx [108, 105, 99, 104]) 1125⟩, ⟨PyData.keyHash P (tx [115, 117, 98, 115, 116, 114, 105, 110, 103, 95, 105]), .str (tx [115, 117, 98, 115, 116, 114, 105, 110, 103, 95, 105]) 1136, .int (-1) 1127⟩, ⟨PyData.keyHash P (tx [114, 101, 115, 117, 108, 116]), .str (tx [114, 101, 115, 117, 108, 116]) 1138, .int 1 1128⟩] 3, #[]⟩
noncomputable def ob391 (P : Params) : Obj := ⟨.ref 218, some 390, .plain, #[]⟩
noncomputable def ob393 (P : Params) : Obj := ⟨.type "list", none, .seq #[.ref 388, .ref 391] 0, #[]⟩
noncomputable def ob394 (P : Params) : Obj := ⟨.type "dict", none, .dict #[⟨PyData.keyHash P (tx [115]), .str (tx [115]) 1149, .str (tx [101, 110, 100]) 1140⟩, ⟨PyData.keyHash P (tx [115, 117, 98, 115, 116, 114, 105, 110, 103, 95, 105]), .str (tx [115, 117, 98, 115, 116, 114, 105, 110, 103, 95, 105]) 1151, .int (-1) 1142⟩, ⟨PyData.keyHash P (tx [114, 101, 115, 117, 108, 116]), .str (tx [114, 101, 115, 117, 108, 116]) 1153, .int 1 1143⟩] 3, #[]⟩
noncomputable def ob395 (P : Params) : Obj := ⟨.ref 218, some 394, .plain, #[]⟩
noncomputable def ob397 (P : Params) : Obj := ⟨.type "dict", none, .dict #[⟨PyData.keyHash P (tx [115]), .str (tx [115]) 1163, .str (tx [105, 103]) 1154⟩, ⟨PyData.keyHash P (tx [115, 117, 98, 115, 116, 114, 105, 110, 103, 95, 105]), .str (tx [115, 117, 98, 115, 116, 114, 105, 110, 103, 95, 105]) 1165, .int (-1) 1156⟩, ⟨PyData.keyHash P (tx [114, 101, 115, 117, 108, 116]), .str (tx [114, 101, 115, 117, 108, 116]) 1167, .int 2 1157⟩] 3, #[]⟩
noncomputable def ob398 (P : Params) : Obj := ⟨.ref 218, some 397, .plain, #[]⟩
noncomputable def ob400 (P : Params) : Obj := ⟨.type "dict", none, .dict #[⟨PyData.keyHash P (tx [115]), .str (tx [115]) 1177, .str (tx [117, 110, 103]) 1168⟩, ⟨PyData.keyHash P (tx [115, 117, 98, 115, 116, 114, 105, 110, 103, 95, 105]), .str (tx [115, 117, 98, 115, 116, 114, 105, 110, 103, 95, 105]) 1179, .int (-1) 1170⟩, ⟨PyData.keyHash P (tx [114, 101, 115, 117, 108, 116]), .str (tx [114, 101, 115, 117, 108, 116]) 1181, .int 1 1171⟩] 3, #[]⟩
noncomputable def ob401 (P : Params) : Obj := ⟨.ref 218, some 400, .plain, #[]⟩
noncomputable def ob403 (P : Params) : Obj := ⟨.type "dict", none, .dict #[⟨PyData.keyHash P (tx [115]), .str (tx [115]) 1191, .str (tx [108, 105, 99, 104]) 1182⟩, ⟨PyData.keyHash P (tx [115, 117, 98, 115, 116, 114, 105, 110, 103, 95, 105]), .str (tx [115, 117, 98, 115, 116, 114, 105, 110, 103, 95, 105]) 1193, .int (-1) 1184⟩, ⟨PyData.keyHash P (tx [114, 101, 115, 117, 108, 116]), .str (tx [114, 101, 115, 117, 108, 116]) 1195, .int 3 1185⟩] 3, #[]⟩
noncomputable def ob404 (P : Params) : Obj := ⟨.ref 218, some 403, .plain, #[]⟩
noncomputable def ob406 (P : Params) : Obj := ⟨.type "dict", none, .dict #[⟨PyData.keyHash P (tx [115]), .str (tx [115]) 1205, .str (tx [105, 115, 99, 104]) 1196⟩, ⟨PyData.keyHash P (tx [115, 117, 98, 115, 116, 114, 105, 110, 103, 95, 105]), .str (tx [115, 117, 98, 115, 116, 114, 105, 110, 103, 95, 105]) 1207, .int (-1) 1198⟩, ⟨PyData.keyHash P (tx [114, 101, 115, 117, 108, 116]), .str (tx [114, 101, 115, 117, 108, 116]) 1209, .int 2 1199⟩] 3, #[]⟩
noncomputable def ob407 (P : Params) : Obj := ⟨.ref 218, some 406, .plain, #[]⟩
noncomputable def ob409 (P : Params) : Obj := ⟨.type "dict", none, .dict #[⟨PyData.keyHash P (tx [115]), .str (tx [115]) 1219, .str (tx [105, 107]) 1210⟩, ⟨PyData.keyHash P (tx [115, 117, 98, 115, 116, 114, 105, 110, 103, 95, 105]), .str (tx [115, 117, 98, 115, 116, 114, 105, 110, 103, 95, 105]) 1221, .int (-1) 1212⟩, ⟨PyData.keyHash P (tx [114, 101, 115, 117, 108, 116]), .str (tx [114, 101, 115, 117, 108, 116]) 1223, .int 2 1213⟩] 3, #[]⟩
noncomputable def ob410 (P : Params) : Obj := ⟨.ref 218, some 409, .plain, #[]⟩
noncomputable def ob412 (P : Params) : Obj := ⟨.type "dict", none, .dict #[⟨PyData.keyHash P (tx [115]), .str (tx [115]) 1233, .str (tx [104, 101, 105, 116]) 1224⟩, ⟨PyData.keyHash P (tx [115, 117, 98, 115, 116, 114, 105, 110, 103, 95, 105]), .str (tx [115, 117, 98, 115, 116, 114, 105, 110, 103, 95, 105]) 1235, .int (-1) 1226⟩, ⟨PyData.keyHash P (tx [114, 101, 115, 117, 108, 116]), .str (tx [114, 101, 115, 117, 108, 116]) 1237, .int 3 1227⟩] 3, #[]⟩
noncomputable def ob413 (P : Params) : Obj := ⟨.ref 218, some 412, .plain, #[]⟩
noncomputable def ob415 (P : Params) : Obj := ⟨.type "dict", none, .dict #[⟨PyData.keyHash P (tx [115]), .str (tx [115]) 1247, .str (tx [107, 101, 105, 116]) 1238⟩, ⟨PyData.keyHash P (tx [115, 117, 98, 115, 116, 114, 105, 110, 103, 95, 105]), .str (tx [115, 117, 98, 115, 116, 114, 105, 110, 103, 95, 105]) 1249, .int (-1) 1240⟩, ⟨PyData.keyHash P (tx [114, 101, 115, 117, 108, 116]), .str (tx [114, 101, 115, 117, 108, 116]) 1251, .int 4 1241⟩] 3, #[]⟩
noncomputable def ob416 (P : Params) : Obj := ⟨.ref 218, some 415, .plain, #[]⟩
noncomputable def ob418 (P : Params) : Obj := ⟨.type "list", none, .seq #[.ref 395, .ref 398, .ref 401, .ref 404, .ref 407, .ref 410, .ref 413, .ref 416] 0, #[]⟩
noncomputable def ob419 (P : Params) : Obj := ⟨.type "dict", none, .dict #[⟨PyData.keyHash P (tx [115]), .str (tx [115]) 1262, .str (tx [39]) 1253⟩, ⟨PyData.keyHash P (tx [115, 117, 98, 115, 116, 114, 105, 110, 103, 95, 105]), .str (tx [115, 117, 98, 115, 116, 114, 105, 110, 103, 95, 105]) 1264, .int (-1) 1255⟩, ⟨PyData.keyHash P (tx [114, 101, 115, 117, 108, 116]), .str (tx [114, 101, 115, 117, 108, 116]) 1266, .int 1 1256⟩] 3, #[]⟩
noncomputable def ob420 (P : Params) : Obj := ⟨.ref 218, some 419, .plain, #[]⟩
noncomputable def ob422 (P : Params) : Obj := ⟨.type "dict", none, .dict #[⟨PyData.keyHash P (tx [115]), .str (tx [115]) 1276, .str (tx [39, 115, 99, 104]) 1267⟩, ⟨PyData.keyHash P (tx [115, 117, 98, 115, 116, 114, 105, 110, 103, 95, 105]), .str (tx [115, 117, 98, 115, 116, 114, 105, 110, 103, 95, 105]) 1278, .int (-1) 1269⟩, ⟨PyData.keyHash P (tx [114, 101, 115, 117, 108, 116]), .str (tx [114, 101, 115, 117, 108, 116]) 1280, .int 1 1270⟩] 3, #[]⟩
noncomputable def ob423 (P : Params) : Obj := ⟨.ref 218, some 422, .plain, #[]⟩
noncomputable def ob425 (P : Params) : Obj := ⟨.type "dict", none, .dict #[⟨PyData.keyHash P (tx [115]), .str (tx [115]) 1290, .str (tx [39, 115]) 1281⟩, ⟨PyData.keyHash P (tx [115, 117, 98, 115, 116, 114, 105, 110, 103, 95, 105]), .str (tx [115, 117, 98, 115, 116, 114, 105, 110, 103, 95, 105]) 1292, .int (-1) 1283⟩, ⟨PyData.keyHash P (tx [114, 101, 115, 117, 108, 116]), .str (tx [114, 101, 115, 117, 108, 116]) 1294, .int 1 1284⟩] 3, #[]⟩
noncomputable def ob426 (P : Params) : Obj := ⟨.ref 218, some 425, .plain, #[]⟩
noncomputable def ob428 (P : Params) : Obj := ⟨.type "list", none, .seq #[.ref 420, .ref 423, .ref 426] 0, #[]⟩
noncomputable def ob429 (P : Params) : Obj := ⟨.type "tuple", none, .seq #[.str (tx [73, 95, 112, 49]) 1296, .str (tx [73, 95, 112, 50]) 1297, .str (tx [98, 114, 97]) 1298, .str (tx [99, 117, 114, 115, 111, 114]) 1299, .str (tx [107, 101, 116]) 1300, .str (tx [108, 105, 109, 105, 116, 95, 98, 97, 99, 107, 119, 97, 114, 100]) 1301] 0, #[]⟩
noncomputable def ob430 (P : Params) : Obj := ⟨.type "dict", none, .dict #[⟨PyData.keyHash P (tx [95, 95, 109, 111, 100, 117, 108, 101, 95, 95]), .str (tx [95, 95, 109, 111, 100, 117, 108, 101, 95, 95]) 480, .str (tx [115, 110, 111, 119, 98, 97, 108, 108, 115, 116, 101, 109, 109, 101, 114, 46, 103, 101, 114, 109, 97, 110, 95, 115, 116, 101, 109, 109, 101, 114]) 471⟩, ⟨PyData.keyHash P (tx [95, 95, 102, 105, 114, 115, 116, 108, 105, 110, 101, 110, 111, 95, 95]), .str (tx [95, 95, 102, 105, 114, 115, 116, 108, 105, 110, 101, 110, 111, 95, 95]) 484, .int 210 483⟩, ⟨PyData.keyHash P (tx [103, 95, 118]), .str (tx [103, 95, 118]) 503, .ref 230⟩, ⟨PyData.keyHash P (tx [103, 95, 101, 116, 95, 101, 110, 100, 105, 110, 103]), .str (tx [103, 95, 101, 116, 95, 101, 110, 100, 105, 110, 103]) 530, .ref 231⟩, ⟨PyData.keyHash P (tx [103, 95, 115, 95, 101, 110, 100, 105, 110, 103]), .str (tx [103, 95, 115, 95, 101, 110, 100, 105, 110, 103]) 553, .ref 232⟩, ⟨PyData.keyHash P (tx [103, 95, 115, 116, 95, 101, 110, 100, 105, 110, 103]), .str (tx [103, 95, 115, 116, 95, 101, 110, 100, 105, 110, 103]) 574, .ref 233⟩, ⟨PyData.keyHash P (tx [73, 95, 112, 50]), .str (tx [73, 95, 112, 50]) 576, .int 0 575⟩, ⟨PyData.keyHash P (tx [73, 95, 112, 49]), .str (tx [73, 95, 112, 49]) 578, .int 0 577⟩, ⟨PyData.keyHash P (tx [114, 95, 112, 114, 101, 108, 117, 100, 101]), .str (tx [114, 95, 112, 114, 101, 108, 117, 100, 101]) 591, .ref 240⟩, ⟨PyData.keyHash P (tx [114, 95, 109, 97, 114, 107, 95, 114, 101, 103, 105, 111, 110, 115]), .str (tx [114, 95, 109, 97, 114, 107, 95, 114, 101, 103, 105, 111, 110, 115]) 600, .ref 247⟩, ⟨PyData.keyHash P (tx [114, 95, 112, 111, 115, 116, 108, 117, 100, 101]), .str (tx [114, 95, 112, 111, 115, 116, 108, 117, 100, 101]) 609, .ref 254⟩, ⟨PyData.keyHash P (tx [114, 95, 82, 49]), .str (tx [114, 95, 82, 49]) 616, .ref 261⟩, ⟨PyData.keyHash P (tx [114, 95, 82, 50]), .str (tx [114, 95, 82, 50]) 623, .ref 268⟩, ⟨PyData.keyHash P (tx [114, 95, 115, 116, 97, 110, 100, 97, 114, 100, 95, 115, 117, 102, 102, 105, 120]), .str (tx [114, 95, 115, 116, 97, 110, 100, 97, 114, 100, 95, 115, 117, 102, 102, 105, 120]) 641, .ref 275⟩, ⟨PyData.keyHash P (tx [95, 115, 116, 101, 109]), .str (tx [95, 115, 116, 101, 109]) 651, .ref 282⟩, ⟨PyData.keyHash P (tx [97, 95, 48]), .str (tx [97, 95, 48]) 732, .ref 301⟩, ⟨PyData.keyHash P (tx [97, 95, 49]), .str (tx [97, 95, 49]) 812, .ref 320⟩, ⟨PyData.keyHash P (tx [97, 95, 50]), .str (tx [97, 95, 50]) 964, .ref 354⟩, ⟨PyData.keyHash P (tx [97, 95, 51]), .str (tx [97, 95, 51]) 1040, .ref 370⟩, ⟨PyData.keyHash P (tx [97, 95, 52]), .str (tx [97, 95, 52]) 1110, .ref 386⟩, ⟨PyData.keyHash P (tx [97, 95, 53]), .str (tx [97, 95, 53]) 1139, .ref 393⟩, ⟨PyData.keyHash P (tx [97, 95, 54]), .str (tx [97, 95, 54]) 1252, .ref 418⟩, ⟨PyData.keyHash P (tx [97, 95, 55]), .str (tx [97, 95, 55]) 1295, .ref 428⟩, ⟨PyData.keyHash P (tx [95, 95, 115, 116, 97, 116, 105, 99, 95, 97, 116, 116, 114, 105, 98, 117, 116, 101, 115, 95, 95]), .str (tx [95, 95, 115, 116, 97, 116, 105, 99, 95, 97, 116, 116, 114, 105, 98, 117, 116, 101, 115, 95, 95]) 1302, .ref 429⟩, ⟨PyData.keyHash P (tx [95, 95, 100, 111, 99, 95, 95]), .str (tx [95, 95, 100, 111, 99, 95, 95]) 1303, .none⟩] 2, #[]⟩
noncomputable def ob431 (P : Params) : Obj := ⟨.type "type", none, .cls ⟨tx [71, 101, 114, 109, 97, 110, 83, 116, 101, 109, 109, 101, 114], [.ref 197], [.ref 431, .ref 197, .type "object"], 430, tx [71, 101, 114, 109, 97, 110, 83, 116, 101, 109, 109, 101, 114], true, [], [], false, none, false⟩, #[some (.ref 223), none, some (.str (tx [71, 101, 114, 109, 97, 110, 83, 116, 101, 109, 109, 101, 114]) 473), some (.str (tx [71, 101, 114, 109, 97, 110, 83, 116, 101, 109, 109, 101, 114]) 481), some (.builtin "object.__new__"), some (.bool true)]⟩
noncomputable def ob441 (P : Params) : Obj := ⟨.type "tuple", none, .seq #[] 0, #[]⟩
noncomputable def ob442 (P : Params) : Obj := ⟨.type "dict", none, .dict #[⟨PyData.keyHash P (tx [95, 95, 109, 111, 100, 117, 108, 101, 95, 95]), .str (tx [95, 95, 109, 111, 100, 117, 108, 101, 95, 95]) 1313, .str (tx [115, 110, 111, 119, 98, 97, 108, 108, 115, 116, 101, 109, 109, 101, 114, 46, 103, 101, 114, 109, 97, 110, 95, 115, 116, 101, 109, 109, 101, 114]) 471⟩, ⟨PyData.keyHash P (tx [95, 95, 102, 105, 114, 115, 116, 108, 105, 110, 101, 110, 111, 95, 95]), .str (tx [95, 95, 102, 105, 114, 115, 116, 108, 105, 110, 101, 110, 111, 95, 95]) 1317, .int 555 1316⟩, ⟨PyData.keyHash P (tx [95, 95, 115, 116, 97, 116, 105, 99, 95, 97, 116, 116, 114, 105, 98, 117, 116, 101, 115, 95, 95]), .str (tx [95, 95, 115, 116, 97, 116, 105, 99, 95, 97, 116, 116, 114, 105, 98, 117, 116, 101, 115, 95, 95]) 1318, .ref 441⟩, ⟨PyData.keyHash P (tx [95, 95, 119, 101, 97, 107, 114, 101, 102, 95, 95]), .str (tx [95, 95, 119, 101, 97, 107, 114, 101, 102, 95, 95]) 1320, .ref 444⟩, ⟨PyData.keyHash P (tx [95, 95, 100, 111, 99, 95, 95]), .str (tx [95, 95, 100, 111, 99, 95, 95]) 1321, .none⟩] 3, #[]⟩
noncomputable def ob443 (P : Params) : Obj := ⟨.type "type", none, .cls ⟨tx [108, 97, 98, 48], [.type "Exception"], [.ref 443, .type "Exception", .type "BaseException", .type "object"], 442, tx [108, 97, 98, 48], true, [], [], false, none, false⟩, #[some (.ref 434), none, some (.str (tx [108, 97, 98, 48]) 1306), some (.str (tx [108, 97, 98, 48]) 1314), some (.builtin "Exception.__new__"), some (.bool true)]⟩
noncomputable def ob454 (P : Params) : Obj := ⟨.type "tuple", none, .seq #[] 0, #[]⟩
noncomputable def ob455 (P : Params) : Obj := ⟨.type "dict", none, .dict #[⟨PyData.keyHash P (tx [95, 95, 109, 111, 100, 117, 108, 101, 95, 95]), .str (tx [95, 95, 109, 111, 100, 117, 108, 101, 95, 95]) 1333, .str (tx [115, 110, 111, 119, 98, 97, 108, 108, 115, 116, 101, 109, 109, 101, 114, 46, 103, 101, 114, 109, 97, 110, 95, 115, 116, 101, 109, 109, 101, 114]) 471⟩, ⟨PyData.keyHash P (tx [95, 95, 102, 105, 114, 115, 116, 108, 105, 110, 101, 110, 111, 95, 95]), .str (tx [95, 95, 102, 105, 114, 115, 116, 108, 105, 110, 101, 110, 111, 95, 95]) 1337, .int 557 1336⟩, ⟨PyData.keyHash P (tx [95, 95, 115, 116, 97, 116, 105, 99, 95, 97, 116, 116, 114, 105, 98, 117, 116, 101, 115, 95, 95]), .str (tx [95, 95, 115, 116, 97, 116, 105, 99, 95, 97, 116, 116, 114, 105, 98, 117, 116, 101, 115, 95, 95]) 1338, .ref 454⟩, ⟨PyData.keyHash P (tx [95, 95, 119, 101, 97, 107, 114, 101, 102, 95, 95]), .str (tx [95, 95, 119, 101, 97, 107, 114, 101, 102, 95, 95]) 1340, .ref 457⟩, ⟨PyData.keyHash P (tx [95, 95, 100, 111, 99, 95, 95]), .str (tx [95, 95, 100, 111, 99, 95, 95]) 1341, .none⟩] 3, #[]⟩
noncomputable def ob456 (P : Params) : Obj := ⟨.type "type", none, .cls ⟨tx [108, 97, 98, 49], [.type "Exception"], [.ref 456, .type "Exception", .type "BaseException", .type "object"], 455, tx [108, 97, 98, 49], true, [], [], false, none, false⟩, #[some (.ref 447), none, some (.str (tx [108, 97, 98, 49]) 1326), some (.str (tx [108, 97, 98, 49]) 1334), some (.builtin "Exception.__new__"), some (.bool true)]⟩
noncomputable def ob467 (P : Params) : Obj := ⟨.type "tuple", none, .seq #[] 0, #[]⟩
noncomputable def ob468 (P : Params) : Obj := ⟨.type "dict", none, .dict #[⟨PyData.keyHash P (tx [95, 95, 109, 111, 100, 117, 108, 101, 95, 95]), .str (tx [95, 95, 109, 111, 100, 117, 108, 101, 95, 95]) 1353, .str (tx [115, 110, 111, 119, 98, 97, 108, 108, 115, 116, 101, 109, 109, 101, 114, 46, 103, 101, 114, 109, 97, 110, 95, 115, 116, 101, 109, 109, 101, 114]) 471⟩, ⟨PyData.keyHash P (tx [95, 95, 102, 105, 114, 115, 116, 108, 105, 110, 101, 110, 111, 95, 95]), .str (tx [95, 95, 102, 105, 114, 115, 116, 108, 105, 110, 101, 110, 111, 95, 95]) 1357, .int 559 1356⟩, ⟨PyData.keyHash P (tx [95, 95, 115, 116, 97, 116, 105, 99, 95, 97, 116, 116, 114, 105, 98, 117, 116, 101, 115, 95, 95]), .str (tx [95, 95, 115, 116, 97, 116, 105, 99, 95, 97, 116, 116, 114, 105, 98, 117, 116, 101, 115, 95, 95]) 1358, .ref 467⟩, ⟨PyData.keyHash P (tx [95, 95, 119, 101, 97, 107, 114, 101, 102, 95, 95]), .str (tx [95, 95, 119, 101, 97, 107, 114, 101, 102, 95, 95]) 1360, .ref 470⟩, ⟨PyData.keyHash P (tx [95, 95, 100, 111, 99, 95, 95]), .str (tx [95, 95, 100, 111, 99, 95, 95]) 1361, .none⟩] 3, #[]⟩
noncomputable def ob469 (P : Params) : Obj := ⟨.type "type", none, .cls ⟨tx [108, 97, 98, 50], [.type "Exception"], [.ref 469, .type "Exception", .type "BaseException", .type "object"], 468, tx [108, 97, 98, 50], true, [], [], false, none, false⟩, #[some (.ref 460), none, some (.str (tx [108, 97, 98, 50]) 1346), some (.str (tx [108, 97, 98, 50]) 1354), some (.builtin "Exception.__new__"), some (.bool true)]⟩
noncomputable def ob478 (P : Params) : Obj := ⟨.type "code", none, .fields #[.str (tx [95, 108, 97, 119, 95, 118, 111, 119, 101, 108, 115]) 1370, .str (tx [95, 108, 97, 119, 95, 118, 111, 119, 101, 108, 115]) 1371, .str (tx [47, 99, 108, 97, 105, 109, 47, 99, 117, 116, 46, 112, 121]) 1372, .int 563 0, .int 0 0, .int 0 0, .int 0 0, .int 3 0, .ref 473, .bool true, .int 181 0, .ref 474, .none, .ref 475, .ref 476, .ref 477, .int 1373 0, .int 563 0, .str (tx [47, 99, 108, 97, 105, 109, 47, 99, 117, 116, 46, 112, 121]) 1374], #[]⟩
noncomputable def ob479 (P : Params) : Obj := ⟨.type "function", none, .func (fnOf (stAt 12) (tx [95, 108, 97, 119, 95, 118, 111, 119, 101, 108, 115]) (.str (tx [108, 97, 119, 95, 102, 98, 48, 48, 53, 51, 95, 48, 49]) 1366) (.ref 478) (.none)), #[]⟩
noncomputable def ob480 (P : Params) : Obj := ⟨.type "dict", none, .dict #[⟨PyData.keyHash P (tx [97]), .str (tx [97]) 1376, .ref 481⟩, ⟨PyData.keyHash P (tx [111]), .str (tx [111]) 1380, .ref 482⟩, ⟨PyData.keyHash P (tx [117]), .str (tx [117]) 1384, .ref 483⟩, ⟨PyData.keyHash P (tx [97, 117]), .str (tx [97, 117]) 1388, .ref 484⟩] 4, #[]⟩
noncomputable def ob481 (P : Params) : Obj := ⟨.type "list", none, .seq #[.str (tx [97]) 1377, .str (tx [228]) 1378, .str (tx [97, 101]) 1379] 0, #[]⟩
noncomputable def ob482 (P : Params) : Obj := ⟨.type "list", none, .seq #[.str (tx [111]) 1381, .str (tx [246]) 1382, .str (tx [111, 101]) 1383] 0, #[]⟩
noncomputable def ob483 (P : Params) : Obj := ⟨.type "list", none, .seq #[.str (tx [117]) 1385, .str (tx [252]) 1386, .str (tx [117, 101]) 1387] 0, #[]⟩
noncomputable def ob484 (P : Params) : Obj := ⟨.type "list", none, .seq #[.str (tx [97, 117]) 1389, .str (tx [228, 117]) 1390, .str (tx [97, 101, 117]) 1391] 0, #[]⟩
noncomputable def ob490 (P : Params) : Obj := ⟨.type "code", none, .fields #[.str (tx [95, 108, 97, 119, 95, 99, 108, 111, 115, 101, 100]) 1397, .str (tx [95, 108, 97, 119, 95, 99, 108, 111, 115, 101, 100]) 1398, .str (tx [47, 99, 108, 97, 105, 109, 47, 99, 117, 116, 46, 112, 121]) 1399, .int 566 0, .int 0 0, .int 0 0, .int 0 0, .int 3 0, .ref 485, .bool true, .int 181 0, .ref 486, .none, .ref 487, .ref 488, .ref 489, .int 1400 0, .int 566 0, .str (tx [47, 99, 108, 97, 105, 109, 47, 99, 117, 116, 46, 112, 121]) 1401], #[]⟩
noncomputable def ob491 (P : Params) : Obj := ⟨.type "function", none, .func (fnOf (stAt 14) (tx [95, 108, 97, 119, 95, 99, 108, 111, 115, 101, 100]) (.str (tx [108, 97, 119, 95, 102, 98, 48, 48, 53, 51, 95, 48, 49]) 1366) (.ref 490) (.none)), #[]⟩
noncomputable def ob492 (P : Params) : Obj := ⟨.type "tuple", none, .seq #[.str (tx [115]) 1405, .str (tx [115]) 1406] 0, #[]⟩
noncomputable def ob493 (P : Params) : Obj := ⟨.type "list", none, .seq #[.ref 492] 0, #[]⟩
noncomputable def ob494 (P : Params) : Obj := ⟨.type "tuple", none, .seq #[.str (tx [115]) 1403, .str (tx [115]) 1404, .ref 493] 0, #[]⟩
noncomputable def ob495 (P : Params) : Obj := ⟨.type "tuple", none, .seq #[.str (tx [115, 116]) 1409, .str (tx [115, 116]) 1410] 0, #[]⟩
noncomputable def ob496 (P : Params) : Obj := ⟨.type "tuple", none, .seq #[.str (tx [115, 116, 101]) 1411, .str (tx [115, 116, 101]) 1412] 0, #[]⟩
noncomputable def ob497 (P : Params) : Obj := ⟨.type "tuple", none, .seq #[.str (tx [115, 116, 101, 110]) 1413, .str (tx [115, 116, 101, 110]) 1414] 0, #[]⟩
noncomputable def ob498 (P : Params) : Obj := ⟨.type "tuple", none, .seq #[.str (tx [115, 116, 101, 114]) 1415, .str (tx [115, 116, 101, 114]) 1416] 0, #[]⟩
noncomputable def ob499 (P : Params) : Obj := ⟨.type "tuple", none, .seq #[.str (tx [115, 116, 101, 115]) 1417, .str (tx [115, 116, 101, 115]) 1418] 0, #[]⟩
noncomputable def ob500 (P : Params) : Obj := ⟨.type "tuple", none, .seq #[.str (tx [115, 116, 101, 109]) 1419, .str (tx [115, 116, 101, 109]) 1420] 0, #[]⟩
noncomputable def ob501 (P : Params) : Obj := ⟨.type "list", none, .seq #[.ref 495, .ref 496, .ref 497, .ref 498, .ref 499, .ref 500] 0, #[]⟩
noncomputable def ob502 (P : Params) : Obj := ⟨.type "tuple", none, .seq #[.str (tx [115, 116]) 1407, .str (tx [115, 116]) 1408, .ref 501] 0, #[]⟩
noncomputable def ob503 (P : Params) : Obj := ⟨.type "tuple", none, .seq #[.str (tx [101, 116]) 1423, .str (tx [101, 116]) 1424] 0, #[]⟩
noncomputable def ob504 (P : Params) : Obj := ⟨.type "tuple", none, .seq #[.str (tx [101, 116, 101]) 1425, .str (tx [101, 116]) 1426] 0, #[]⟩
noncomputable def ob505 (P : Params) : Obj := ⟨.type "tuple", none, .seq #[.str (tx [101, 116, 101, 110]) 1427, .str (tx [101, 116]) 1428] 0, #[]⟩
noncomputable def ob506 (P : Params) : Obj := ⟨.type "tuple", none, .seq #[.str (tx [101, 116, 101, 114]) 1429, .str (tx [101, 116]) 1430] 0, #[]⟩
noncomputable def ob507 (P : Params) : Obj := ⟨.type "tuple", none, .seq #[.str (tx [101, 116, 101, 115]) 1431, .str (tx [101, 116]) 1432] 0, #[]⟩
noncomputable def ob508 (P : Params) : Obj := ⟨.type "tuple", none, .seq #[.str (tx [101, 116, 101, 109]) 1433, .str (tx [101, 116]) 1434] 0, #[]⟩
noncomputable def ob509 (P : Params) : Obj := ⟨.type "list", none, .seq #[.ref 503, .ref 504, .ref 505, .ref 506, .ref 507, .ref 508] 0, #[]⟩
noncomputable def ob510 (P : Params) : Obj := ⟨.type "tuple", none, .seq #[.str (tx [101, 116]) 1421, .str (tx [101, 116]) 1422, .ref 509] 0, #[]⟩
noncomputable def ob511 (P : Params) : Obj := ⟨.type "tuple", none, .seq #[.str (tx []) 1437, .str (tx []) 1438] 0, #[]⟩
noncomputable def ob512 (P : Params) : Obj := ⟨.type "tuple", none, .seq #[.str (tx [101]) 1439, .str (tx [101]) 1440] 0, #[]⟩
noncomputable def ob513 (P : Params) : Obj := ⟨.type "tuple", none, .seq #[.str (tx [101, 109]) 1441, .str (tx [101, 109]) 1442] 0, #[]⟩
noncomputable def ob514 (P : Params) : Obj := ⟨.type "tuple", none, .seq #[.str (tx [101, 110]) 1443, .str (tx [101, 110]) 1444] 0, #[]⟩
noncomputable def ob515 (P : Params) : Obj := ⟨.type "tuple", none, .seq #[.str (tx [101, 114]) 1445, .str (tx [101, 114]) 1446] 0, #[]⟩
noncomputable def ob516 (P : Params) : Obj := ⟨.type "tuple", none, .seq #[.str (tx [101, 115]) 1447, .str (tx [101, 115]) 1448] 0, #[]⟩
noncomputable def ob517 (P : Params) : Obj := ⟨.type "tuple", none, .seq #[.str (tx [101, 114, 110]) 1449, .str (tx [101, 114, 110]) 1450] 0, #[]⟩
noncomputable def ob518 (P : Params) : Obj := ⟨.type "tuple", none, .seq #[.str (tx [101, 110, 115]) 1451, .str (tx [101, 110]) 1452] 0, #[]⟩
noncomputable def ob519 (P : Params) : Obj := ⟨.type "tuple", none, .seq #[.str (tx [101, 114, 115]) 1453, .str (tx [101, 114]) 1454] 0, #[]⟩
noncomputable def ob520 (P : Params) : Obj := ⟨.type "tuple", none, .seq #[.str (tx [101, 115, 116]) 1455, .str (tx [101, 115, 116]) 1456] 0, #[]⟩
noncomputable def ob521 (P : Params) : Obj := ⟨.type "tuple", none, .seq #[.str (tx [101, 115, 116, 101]) 1457, .str (tx [101, 115, 116]) 1458] 0, #[]⟩
noncomputable def ob522 (P : Params) : Obj := ⟨.type "tuple", none, .seq #[.str (tx [101, 115, 116, 101, 110]) 1459, .str (tx [101, 115, 116]) 1460] 0, #[]⟩
noncomputable def ob523 (P : Params) : Obj := ⟨.type "tuple", none, .seq #[.str (tx [101, 115, 116, 101, 114]) 1461, .str (tx [101, 115, 116]) 1462] 0, #[]⟩
noncomputable def ob524 (P : Params) : Obj := ⟨.type "tuple", none, .seq #[.str (tx [101, 115, 116, 101, 115]) 1463, .str (tx [101, 115, 116]) 1464] 0, #[]⟩
noncomputable def ob525 (P : Params) : Obj := ⟨.type "tuple", none, .seq #[.str (tx [101, 115, 116, 101, 109]) 1465, .str (tx [101, 115, 116]) 1466] 0, #[]⟩
noncomputable def ob526 (P : Params) : Obj := ⟨.type "tuple", none, .seq #[.str (tx [101, 114, 101]) 1467, .str (tx [101, 114]) 1468] 0, #[]⟩
noncomputable def ob527 (P : Params) : Obj := ⟨.type "tuple", none, .seq #[.str (tx [101, 114, 101, 110]) 1469, .str (tx [101, 114]) 1470] 0, #[]⟩
noncomputable def ob528 (P : Params) : Obj := ⟨.type "tuple", none, .seq #[.str (tx [101, 114, 101, 114]) 1471, .str (tx [101, 114]) 1472] 0, #[]⟩
noncomputable def ob529 (P : Params) : Obj := ⟨.type "tuple", none, .seq #[.str (tx [101, 114, 101, 115]) 1473, .str (tx [101, 114]) 1474] 0, #[]⟩
noncomputable def ob530 (P : Params) : Obj := ⟨.type "tuple", none, .seq #[.str (tx [101, 114, 101, 109]) 1475, .str (tx [101, 114]) 1476] 0, #[]⟩
noncomputable def ob531 (P : Params) : Obj := ⟨.type "list", none, .seq #[.ref 511, .ref 512, .ref 513, .ref 514, .ref 515, .ref 516, .ref 517, .ref 518, .ref 519, .ref 520, .ref 521, .ref 522, .ref 523, .ref 524, .ref 525, .ref 526, .ref 527, .ref 528, .ref 529, .ref 530] 0, #[]⟩
noncomputable def ob532 (P : Params) : Obj := ⟨.type "tuple", none, .seq #[.str (tx []) 1435, .str (tx []) 1436, .ref 531] 0, #[]⟩
noncomputable def ob533 (P : Params) : Obj := ⟨.type "tuple", none, .seq #[.str (tx [101, 114, 105, 110]) 1479, .str (tx [101, 114, 105, 110]) 1480] 0, #[]⟩
noncomputable def ob534 (P : Params) : Obj := ⟨.type "tuple", none, .seq #[.str (tx [101, 114, 105, 110, 110, 101, 110]) 1481, .str (tx [101, 114, 105, 110, 110]) 1482] 0, #[]⟩
noncomputable def ob535 (P : Params) : Obj := ⟨.type "tuple", none, .seq #[.str (tx [101, 114, 108, 105, 99, 104]) 1483, .str (tx [101, 114, 108, 105, 99, 104]) 1484] 0, #[]⟩
noncomputable def ob536 (P : Params) : Obj := ⟨.type "tuple", none, .seq #[.str (tx [101, 114, 108, 105, 99, 104, 101]) 1485, .str (tx [101, 114, 108, 105, 99, 104]) 1486] 0, #[]⟩
noncomputable def ob537 (P : Params) : Obj := ⟨.type "tuple", none, .seq #[.str (tx [101, 114, 108, 105, 99, 104, 101, 110]) 1487, .str (tx [101, 114, 108, 105, 99, 104]) 1488] 0, #[]⟩
noncomputable def ob538 (P : Params) : Obj := ⟨.type "tuple", none, .seq #[.str (tx [101, 114, 108, 105, 99, 104, 101, 114]) 1489, .str (tx [101, 114, 108, 105, 99, 104]) 1490] 0, #[]⟩
noncomputable def ob539 (P : Params) : Obj := ⟨.type "tuple", none, .seq #[.str (tx [101, 114, 108, 105, 99, 104, 101, 115]) 1491, .str (tx [101, 114, 108, 105, 99, 104]) 1492] 0, #[]⟩
noncomputable def ob540 (P : Params) : Obj := ⟨.type "tuple", none, .seq #[.str (tx [101, 114, 108, 105, 99, 104, 101, 109]) 1493, .str (tx [101, 114, 108, 105, 99, 104]) 1494] 0, #[]⟩
noncomputable def ob541 (P : Params) : Obj := ⟨.type "tuple", none, .seq #[.str (tx [101, 114, 108, 105, 99, 104, 101, 114, 101]) 1495, .str (tx [101, 114, 108, 105, 99, 104]) 1496] 0, #[]⟩
noncomputable def ob542 (P : Params) : Obj := ⟨.type "tuple", none, .seq #[.str (tx [101, 114, 108, 105, 99, 104, 115, 116, 101]) 1497, .str (tx [101, 114, 108, 105, 99, 104]) 1498] 0, #[]⟩
noncomputable def ob543 (P : Params) : Obj := ⟨.type "tuple", none, .seq #[.str (tx [101, 110, 104, 101, 105, 116]) 1499, .str (tx [101, 110, 104, 101, 105, 116]) 1500] 0, #[]⟩
noncomputable def ob544 (P : Params) : Obj := ⟨.type "tuple", none, .seq #[.str (tx [101, 110, 104, 101, 105, 116, 101, 110]) 1501, .str (tx [101, 110, 104, 101, 105, 116]) 1502] 0, #[]⟩
noncomputable def ob545 (P : Params) : Obj := ⟨.type "list", none, .seq #[.ref 533, .ref 534, .ref 535, .ref 536, .ref 537, .ref 538, .ref 539, .ref 540, .ref 541, .ref 542, .ref 543, .ref 544] 0, #[]⟩
noncomputable def ob546 (P : Params) : Obj := ⟨.type "tuple", none, .seq #[.str (tx []) 1477, .str (tx []) 1478, .ref 545] 0, #[]⟩
noncomputable def ob547 (P : Params) : Obj := ⟨.type "tuple", none, .seq #[.str (tx [39]) 1505, .str (tx []) 1506] 0, #[]⟩
noncomputable def ob548 (P : Params) : Obj := ⟨.type "tuple", none, .seq #[.str (tx [39, 115]) 1507, .str (tx []) 1508] 0, #[]⟩
noncomputable def ob549 (P : Params) : Obj := ⟨.type "tuple", none, .seq #[.str (tx [39, 115, 99, 104]) 1509, .str (tx []) 1510] 0, #[]⟩
noncomputable def ob550 (P : Params) : Obj := ⟨.type "tuple", none, .seq #[.str (tx [39, 115, 99, 104, 101]) 1511, .str (tx [39, 115, 99, 104, 101]) 1512] 0, #[]⟩
noncomputable def ob551 (P : Params) : Obj := ⟨.type "tuple", none, .seq #[.str (tx [39, 115, 99, 104, 101, 110]) 1513, .str (tx [39, 115, 99, 104, 101, 110]) 1514] 0, #[]⟩
noncomputable def ob552 (P : Params) : Obj := ⟨.type "tuple", none, .seq #[.str (tx [39, 115, 99, 104, 101, 114]) 1515, .str (tx [39, 115, 99, 104, 101, 114]) 1516] 0, #[]⟩
noncomputable def ob553 (P : Params) : Obj := ⟨.type "tuple", none, .seq #[.str (tx [39, 115, 99, 104, 101, 115]) 1517, .str (tx [39, 115, 99, 104, 101, 115]) 1518] 0, #[]⟩
noncomputable def ob554 (P : Params) : Obj := ⟨.type "tuple", none, .seq #[.str (tx [39, 115, 99, 104, 101, 109]) 1519, .str (tx [39, 115, 99, 104, 101, 109]) 1520] 0, #[]⟩
noncomputable def ob555 (P : Params) : Obj := ⟨.type "list", none, .seq #[.ref 547, .ref 548, .ref 549, .ref 550, .ref 551, .ref 552, .ref 553, .ref 554] 0, #[]⟩
noncomputable def ob556 (P : Params) : Obj := ⟨.type "tuple", none, .seq #[.str (tx []) 1503, .str (tx []) 1504, .ref 555] 0, #[]⟩
noncomputable def ob557 (P : Params) : Obj := ⟨.type "tuple", none, .seq #[.str (tx [101, 116, 101, 115, 116]) 1523, .str (tx [101, 116]) 1524] 0, #[]⟩
noncomputable def ob558 (P : Params) : Obj := ⟨.type "tuple", none, .seq #[.str (tx [101, 116, 101, 116]) 1525, .str (tx [101, 116]) 1526] 0, #[]⟩
noncomputable def ob559 (P : Params) : Obj := ⟨.type "list", none, .seq #[.ref 557, .ref 558] 0, #[]⟩
noncomputable def ob560 (P : Params) : Obj := ⟨.type "tuple", none, .seq #[.str (tx [101, 116]) 1521, .str (tx [101, 116]) 1522, .ref 559] 0, #[]⟩
noncomputable def ob561 (P : Params) : Obj := ⟨.type "tuple", none, .seq #[.str (tx [116]) 1529, .str (tx [116]) 1530] 0, #[]⟩
noncomputable def ob562 (P : Params) : Obj := ⟨.type "tuple", none, .seq #[.str (tx [116, 101]) 1531, .str (tx [116, 101]) 1532] 0, #[]⟩
noncomputable def ob563 (P : Params) : Obj := ⟨.type "tuple", none, .seq #[.str (tx [116, 101, 110]) 1533, .str (tx [116, 101, 110]) 1534] 0, #[]⟩
noncomputable def ob564 (P : Params) : Obj := ⟨.type "tuple", none, .seq #[.str (tx [116, 101, 114]) 1535, .str (tx [116, 101, 114]) 1536] 0, #[]⟩
noncomputable def ob565 (P : Params) : Obj := ⟨.type "tuple", none, .seq #[.str (tx [116, 101, 115]) 1537, .str (tx [116, 101, 115]) 1538] 0, #[]⟩
noncomputable def ob566 (P : Params) : Obj := ⟨.type "tuple", none, .seq #[.str (tx [116, 101, 109]) 1539, .str (tx [116, 101, 109]) 1540] 0, #[]⟩
noncomputable def ob567 (P : Params) : Obj := ⟨.type "tuple", none, .seq #[.str (tx [116, 101, 115, 116]) 1541, .str (tx [116, 101, 115, 116]) 1542] 0, #[]⟩
noncomputable def ob568 (P : Params) : Obj := ⟨.type "tuple", none, .seq #[.str (tx [116, 101, 116]) 1543, .str (tx [116, 101, 116]) 1544] 0, #[]⟩
noncomputable def ob569 (P : Params) : Obj := ⟨.type "tuple", none, .seq #[.str (tx [116, 101, 114, 110]) 1545, .str (tx [116, 101, 114, 110]) 1546] 0, #[]⟩
noncomputable def ob570 (P : Params) : Obj := ⟨.type "tuple", none, .seq #[.str (tx [116, 101, 116, 101]) 1547, .str (tx [116, 101, 116]) 1548] 0, #[]⟩
noncomputable def ob571 (P : Params) : Obj := ⟨.type "tuple", none, .seq #[.str (tx [116, 101, 116, 101, 110]) 1549, .str (tx [116, 101, 116]) 1550] 0, #[]⟩
noncomputable def ob572 (P : Params) : Obj := ⟨.type "list", none, .seq #[.ref 561, .ref 562, .ref 563, .ref 564, .ref 565, .ref 566, .ref 567, .ref 568, .ref 569, .ref 570, .ref 571] 0, #[]⟩
noncomputable def ob573 (P : Params) : Obj := ⟨.type "tuple", none, .seq #[.str (tx [116]) 1527, .str (tx [116]) 1528, .ref 572] 0, #[]⟩
noncomputable def ob574 (P : Params) : Obj := ⟨.type "tuple", none, .seq #[.str (tx [101, 110, 100]) 1553, .str (tx [101, 110, 100]) 1554] 0, #[]⟩
noncomputable def ob575 (P : Params) : Obj := ⟨.type "tuple", none, .seq #[.str (tx [101, 110, 100, 101]) 1555, .str (tx [101, 110, 100]) 1556] 0, #[]⟩
noncomputable def ob576 (P : Params) : Obj := ⟨.type "tuple", none, .seq #[.str (tx [101, 110, 100, 101, 110]) 1557, .str (tx [101, 110, 100]) 1558] 0, #[]⟩
noncomputable def ob577 (P : Params) : Obj := ⟨.type "tuple", none, .seq #[.str (tx [101, 110, 100, 101, 114]) 1559, .str (tx [101, 110, 100]) 1560] 0, #[]⟩
noncomputable def ob578 (P : Params) : Obj := ⟨.type "tuple", none, .seq #[.str (tx [101, 110, 100, 101, 115]) 1561, .str (tx [101, 110, 100]) 1562] 0, #[]⟩
noncomputable def ob579 (P : Params) : Obj := ⟨.type "tuple", none, .seq #[.str (tx [101, 110, 100, 101, 109]) 1563, .str (tx [101, 110, 100]) 1564] 0, #[]⟩
noncomputable def ob580 (P : Params) : Obj := ⟨.type "tuple", none, .seq #[.str (tx [101, 110, 100, 115]) 1565, .str (tx [101, 110, 100]) 1566] 0, #[]⟩
noncomputable def ob581 (P : Params) : Obj := ⟨.type "tuple", none, .seq #[.str (tx [101, 110, 100, 115, 116, 101]) 1567, .str (tx [101, 110, 100]) 1568] 0, #[]⟩
noncomputable def ob582 (P : Params) : Obj := ⟨.type "tuple", none, .seq #[.str (tx [101, 110, 100, 115, 116, 101, 110]) 1569, .str (tx [101, 110, 100]) 1570] 0, #[]⟩
noncomputable def ob583 (P : Params) : Obj := ⟨.type "list", none, .seq #[.ref 574, .ref 575, .ref 576, .ref 577, .ref 578, .ref 579, .ref 580, .ref 581, .ref 582] 0, #[]⟩
noncomputable def ob584 (P : Params) : Obj := ⟨.type "tuple", none, .seq #[.str (tx []) 1551, .str (tx [101, 110, 100]) 1552, .ref 583] 0, #[]⟩
noncomputable def ob585 (P : Params) : Obj := ⟨.type "tuple", none, .seq #[.str (tx [117, 110, 103]) 1573, .str (tx [117, 110, 103]) 1574] 0, #[]⟩
noncomputable def ob586 (P : Params) : Obj := ⟨.type "tuple", none, .seq #[.str (tx [117, 110, 103, 101, 110]) 1575, .str (tx [117, 110, 103]) 1576] 0, #[]⟩
noncomputable def ob587 (P : Params) : Obj := ⟨.type "tuple", none, .seq #[.str (tx [117, 110, 103, 115]) 1577, .str (tx [117, 110, 103]) 1578] 0, #[]⟩
noncomputable def ob588 (P : Params) : Obj := ⟨.type "list", none, .seq #[.ref 585, .ref 586, .ref 587] 0, #[]⟩
noncomputable def ob589 (P : Params) : Obj := ⟨.type "tuple", none, .seq #[.str (tx []) 1571, .str (tx [117, 110, 103]) 1572, .ref 588] 0, #[]⟩
noncomputable def ob590 (P : Params) : Obj := ⟨.type "tuple", none, .seq #[.str (tx [105, 103]) 1581, .str (tx [105, 103]) 1582] 0, #[]⟩
noncomputable def ob591 (P : Params) : Obj := ⟨.type "tuple", none, .seq #[.str (tx [105, 103, 101]) 1583, .str (tx [105, 103]) 1584] 0, #[]⟩
noncomputable def ob592 (P : Params) : Obj := ⟨.type "tuple", none, .seq #[.str (tx [105, 103, 101, 110]) 1585, .str (tx [105, 103]) 1586] 0, #[]⟩
noncomputable def ob593 (P : Params) : Obj := ⟨.type "tuple", none, .seq #[.str (tx [105, 103, 101, 114]) 1587, .str (tx [105, 103]) 1588] 0, #[]⟩
noncomputable def ob594 (P : Params) : Obj := ⟨.type "tuple", none, .seq #[.str (tx [105, 103, 101, 115]) 1589, .str (tx [105, 103]) 1590] 0, #[]⟩
noncomputable def ob595 (P : Params) : Obj := ⟨.type "tuple", none, .seq #[.str (tx [105, 103, 101, 109]) 1591, .str (tx [105, 103]) 1592] 0, #[]⟩
noncomputable def ob596 (P : Params) : Obj := ⟨.type "tuple", none, .seq #[.str (tx [105, 103, 101, 114, 101]) 1593, .str (tx [105, 103]) 1594] 0, #[]⟩
noncomputable def ob597 (P : Params) : Obj := ⟨.type "tuple", none, .seq #[.str (tx [105, 103, 115, 116]) 1595, .str (tx [105, 103]) 1596] 0, #[]⟩
noncomputable def ob598 (P : Params) : Obj := ⟨.type "tuple", none, .seq #[.str (tx [105, 103, 115, 116, 101]) 1597, .str (tx [105, 103]) 1598] 0, #[]⟩
noncomputable def ob599 (P : Params) : Obj := ⟨.type "tuple", none, .seq #[.str (tx [105, 103, 115, 116, 101, 110]) 1599, .str (tx [105, 103]) 1600] 0, #[]⟩
noncomputable def ob600 (P : Params) : Obj := ⟨.type "list", none, .seq #[.ref 590, .ref 591, .ref 592, .ref 593, .ref 594, .ref 595, .ref 596, .ref 597, .ref 598, .ref 599] 0, #[]⟩
noncomputable def ob601 (P : Params) : Obj := ⟨.type "tuple", none, .seq #[.str (tx []) 1579, .str (tx [105, 103]) 1580, .ref 600] 0, #[]⟩
noncomputable def ob602 (P : Params) : Obj := ⟨.type "tuple", none, .seq #[.str (tx [105, 103, 107, 101, 105, 116]) 1603, .str (tx [105, 103, 107, 101, 105, 116]) 1604] 0, #[]⟩
noncomputable def ob603 (P : Params) : Obj := ⟨.type "tuple", none, .seq #[.str (tx [105, 103, 107, 101, 105, 116, 101, 110]) 1605, .str (tx [105, 103, 107, 101, 105, 116]) 1606] 0, #[]⟩
noncomputable def ob604 (P : Params) : Obj := ⟨.type "tuple", none, .seq #[.str (tx [105, 103, 107, 101, 105, 116, 115]) 1607, .str (tx [105, 103, 107, 101, 105, 116]) 1608] 0, #[]⟩
noncomputable def ob605 (P : Params) : Obj := ⟨.type "tuple", none, .seq #[.str (tx [105, 103, 117, 110, 103]) 1609, .str (tx [105, 103, 117, 110, 103]) 1610] 0, #[]⟩
noncomputable def ob606 (P : Params) : Obj := ⟨.type "tuple", none, .seq #[.str (tx [105, 103, 117, 110, 103, 101, 110]) 1611, .str (tx [105, 103, 117, 110, 103]) 1612] 0, #[]⟩
noncomputable def ob607 (P : Params) : Obj := ⟨.type "tuple", none, .seq #[.str (tx [105, 103, 101, 110, 100]) 1613, .str (tx [105, 103, 101, 110, 100]) 1614] 0, #[]⟩
noncomputable def ob608 (P : Params) : Obj := ⟨.type "tuple", none, .seq #[.str (tx [105, 103, 101, 110, 100, 101]) 1615, .str (tx [105, 103, 101, 110, 100]) 1616] 0, #[]⟩
noncomputable def ob609 (P : Params) : Obj := ⟨.type "list", none, .seq #[.ref 602, .ref 603, .ref 604, .ref 605, .ref 606, .ref 607, .ref 608] 0, #[]⟩
noncomputable def ob610 (P : Params) : Obj := ⟨.type "tuple", none, .seq #[.str (tx []) 1601, .str (tx [105, 103]) 1602, .ref 609] 0, #[]⟩
noncomputable def ob611 (P : Params) : Obj := ⟨.type "tuple", none, .seq #[.str (tx [108, 105, 99, 104]) 1619, .str (tx [108, 105, 99, 104]) 1620] 0, #[]⟩
noncomputable def ob612 (P : Params) : Obj := ⟨.type "tuple", none, .seq #[.str (tx [108, 105, 99, 104, 101]) 1621, .str (tx [108, 105, 99, 104]) 1622] 0, #[]⟩
noncomputable def ob613 (P : Params) : Obj := ⟨.type "tuple", none, .seq #[.str (tx [108, 105, 99, 104, 101, 110]) 1623, .str (tx [108, 105, 99, 104]) 1624] 0, #[]⟩
noncomputable def ob614 (P : Params) : Obj := ⟨.type "tuple", none, .seq #[.str (tx [108, 105, 99, 104, 101, 114]) 1625, .str (tx [108, 105, 99, 104]) 1626] 0, #[]⟩
noncomputable def ob615 (P : Params) : Obj := ⟨.type "tuple", none, .seq #[.str (tx [108, 105, 99, 104, 101, 115]) 1627, .str (tx [108, 105, 99, 104]) 1628] 0, #[]⟩
noncomputable def ob616 (P : Params) : Obj := ⟨.type "tuple", none, .seq #[.str (tx [108, 105, 99, 104, 101, 109]) 1629, .str (tx [108, 105, 99, 104]) 1630] 0, #[]⟩
noncomputable def ob617 (P : Params) : Obj := ⟨.type "tuple", none, .seq #[.str (tx [108, 105, 99, 104, 101, 114, 101]) 1631, .str (tx [108, 105, 99, 104]) 1632] 0, #[]⟩
noncomputable def ob618 (P : Params) : Obj := ⟨.type "tuple", none, .seq #[.str (tx [108, 105, 99, 104, 115, 116, 101]) 1633, .str (tx [108, 105, 99, 104]) 1634] 0, #[]⟩
noncomputable def ob619 (P : Params) : Obj := ⟨.type "tuple", none, .seq #[.str (tx [108, 105, 99, 104, 107, 101, 105, 116]) 1635, .str (tx [108, 105, 99, 104, 107, 101, 105, 116]) 1636] 0, #[]⟩
noncomputable def ob620 (P : Params) : Obj := ⟨.type "tuple", none, .seq #[.str (tx [108, 105, 99, 104, 107, 101, 105, 116, 101, 110]) 1637, .str (tx [108, 105, 99, 104, 107, 101, 105, 116]) 1638] 0, #[]⟩
noncomputable def ob621 (P : Params) : Obj := ⟨.type "list", none, .seq #[.ref 611, .ref 612, .ref 613, .ref 614, .ref 615, .ref 616, .ref 617, .ref 618, .ref 619, .ref 620] 0, #[]⟩
noncomputable def ob622 (P : Params) : Obj := ⟨.type "tuple", none, .seq #[.str (tx []) 1617, .str (tx [108, 105, 99, 104]) 1618, .ref 621] 0, #[]⟩
noncomputable def ob623 (P : Params) : Obj := ⟨.type "tuple", none, .seq #[.str (tx [105, 115, 99, 104]) 1641, .str (tx [105, 115, 99, 104]) 1642] 0, #[]⟩
noncomputable def ob624 (P : Params) : Obj := ⟨.type "tuple", none, .seq #[.str (tx [105, 115, 99, 104, 101]) 1643, .str (tx [105, 115, 99, 104]) 1644] 0, #[]⟩
noncomputable def ob625 (P : Params) : Obj := ⟨.type "tuple", none, .seq #[.str (tx [105, 115, 99, 104, 101, 110]) 1645, .str (tx [105, 115, 99, 104]) 1646] 0, #[]⟩
noncomputable def ob626 (P : Params) : Obj := ⟨.type "tuple", none, .seq #[.str (tx [105, 115, 99, 104, 101, 114]) 1647, .str (tx [105, 115, 99, 104]) 1648] 0, #[]⟩
noncomputable def ob627 (P : Params) : Obj := ⟨.type "tuple", none, .seq #[.str (tx [105, 115, 99, 104, 101, 115]) 1649, .str (tx [105, 115, 99, 104]) 1650] 0, #[]⟩
noncomputable def ob628 (P : Params) : Obj := ⟨.type "tuple", none, .seq #[.str (tx [105, 115, 99, 104, 101, 109]) 1651, .str (tx [105, 115, 99, 104]) 1652] 0, #[]⟩
noncomputable def ob629 (P : Params) : Obj := ⟨.type "tuple", none, .seq #[.str (tx [105, 115, 99, 104, 101, 114, 101]) 1653, .str (tx [105, 115, 99, 104]) 1654] 0, #[]⟩
noncomputable def ob630 (P : Params) : Obj := ⟨.type "list", none, .seq #[.ref 623, .ref 624, .ref 625, .ref 626, .ref 627, .ref 628, .ref 629] 0, #[]⟩
noncomputable def ob631 (P : Params) : Obj := ⟨.type "tuple", none, .seq #[.str (tx []) 1639, .str (tx [105, 115, 99, 104]) 1640, .ref 630] 0, #[]⟩
noncomputable def ob632 (P : Params) : Obj := ⟨.type "tuple", none, .seq #[.str (tx [105, 107]) 1657, .str (tx [105, 107]) 1658] 0, #[]⟩
noncomputable def ob633 (P : Params) : Obj := ⟨.type "tuple", none, .seq #[.str (tx [105, 107, 101]) 1659, .str (tx [105, 107]) 1660] 0, #[]⟩
noncomputable def ob634 (P : Params) : Obj := ⟨.type "tuple", none, .seq #[.str (tx [105, 107, 101, 110]) 1661, .str (tx [105, 107]) 1662] 0, #[]⟩
noncomputable def ob635 (P : Params) : Obj := ⟨.type "tuple", none, .seq #[.str (tx [105, 107, 115]) 1663, .str (tx [105, 107]) 1664] 0, #[]⟩
noncomputable def ob636 (P : Params) : Obj := ⟨.type "tuple", none, .seq #[.str (tx [105, 107, 101, 114]) 1665, .str (tx [105, 107]) 1666] 0, #[]⟩
noncomputable def ob637 (P : Params) : Obj := ⟨.type "tuple", none, .seq #[.str (tx [105, 107, 101, 114, 115]) 1667, .str (tx [105, 107]) 1668] 0, #[]⟩
noncomputable def ob638 (P : Params) : Obj := ⟨.type "tuple", none, .seq #[.str (tx [105, 107, 101, 114, 110]) 1669, .str (tx [105, 107]) 1670] 0, #[]⟩
noncomputable def ob639 (P : Params) : Obj := ⟨.type "tuple", none, .seq #[.str (tx [105, 107, 101, 114, 105, 110]) 1671, .str (tx [105, 107]) 1672] 0, #[]⟩
noncomputable def ob640 (P : Params) : Obj := ⟨.type "tuple", none, .seq #[.str (tx [105, 107, 101, 114, 105, 110, 110, 101, 110]) 1673, .str (tx [105, 107]) 1674] 0, #[]⟩
noncomputable def ob641 (P : Params) : Obj := ⟨.type "list", none, .seq #[.ref 632, .ref 633, .ref 634, .ref 635, .ref 636, .ref 637, .ref 638, .ref 639, .ref 640] 0, #[]⟩
noncomputable def ob642 (P : Params) : Obj := ⟨.type "tuple", none, .seq #[.str (tx []) 1655, .str (tx [105, 107]) 1656, .ref 641] 0, #[]⟩
noncomputable def ob643 (P : Params) : Obj := ⟨.type "tuple", none, .seq #[.str (tx [104, 101, 105, 116]) 1677, .str (tx [104, 101, 105, 116]) 1678] 0, #[]⟩
noncomputable def ob644 (P : Params) : Obj := ⟨.type "tuple", none, .seq #[.str (tx [104, 101, 105, 116, 101, 110]) 1679, .str (tx [104, 101, 105, 116]) 1680] 0, #[]⟩
noncomputable def ob645 (P : Params) : Obj := ⟨.type "tuple", none, .seq #[.str (tx [104, 101, 105, 116, 115]) 1681, .str (tx [104, 101, 105, 116]) 1682] 0, #[]⟩
noncomputable def ob646 (P : Params) : Obj := ⟨.type "list", none, .seq #[.ref 643, .ref 644, .ref 645] 0, #[]⟩
noncomputable def ob647 (P : Params) : Obj := ⟨.type "tuple", none, .seq #[.str (tx []) 1675, .str (tx [104, 101, 105, 116]) 1676, .ref 646] 0, #[]⟩
noncomputable def ob648 (P : Params) : Obj := ⟨.type "tuple", none, .seq #[.str (tx [107, 101, 105, 116]) 1685, .str (tx [107, 101, 105, 116]) 1686] 0, #[]⟩
noncomputable def ob649 (P : Params) : Obj := ⟨.type "tuple", none, .seq #[.str (tx [107, 101, 105, 116, 101, 110]) 1687, .str (tx [107, 101, 105, 116]) 1688] 0, #[]⟩
noncomputable def ob650 (P : Params) : Obj := ⟨.type "tuple", none, .seq #[.str (tx [107, 101, 105, 116, 115]) 1689, .str (tx [107, 101, 105, 116]) 1690] 0, #[]⟩
noncomputable def ob651 (P : Params) : Obj := ⟨.type "list", none, .seq #[.ref 648, .ref 649, .ref 650] 0, #[]⟩
noncomputable def ob652 (P : Params) : Obj := ⟨.type "tuple", none, .seq #[.str (tx []) 1683, .str (tx [107, 101, 105, 116]) 1684, .ref 651] 0, #[]⟩
noncomputable def ob653 (P : Params) : Obj := ⟨.type "tuple", none, .seq #[.str (tx [101, 114, 108, 105, 99, 104, 107, 101, 105, 116]) 1693, .str (tx [101, 114, 108, 105, 99, 104]) 1694] 0, #[]⟩
noncomputable def ob654 (P : Params) : Obj := ⟨.type "tuple", none, .seq #[.str (tx [101, 114, 108, 105, 99, 104, 107, 101, 105, 116, 101, 110]) 1695, .str (tx [101, 114, 108, 105, 99, 104]) 1696] 0, #[]⟩
noncomputable def ob655 (P : Params) : Obj := ⟨.type "tuple", none, .seq #[.str (tx [101, 114, 105, 115, 99, 104]) 1697, .str (tx [101, 114, 105, 115, 99, 104]) 1698] 0, #[]⟩
noncomputable def ob656 (P : Params) : Obj := ⟨.type "tuple", none, .seq #[.str (tx [101, 114, 105, 115, 99, 104, 101]) 1699, .str (tx [101, 114, 105, 115, 99, 104]) 1700] 0, #[]⟩
noncomputable def ob657 (P : Params) : Obj := ⟨.type "tuple", none, .seq #[.str (tx [101, 114, 105, 115, 99, 104, 101, 110]) 1701, .str (tx [101, 114, 105, 115, 99, 104]) 1702] 0, #[]⟩
noncomputable def ob658 (P : Params) : Obj := ⟨.type "tuple", none, .seq #[.str (tx [101, 114, 105, 115, 99, 104, 101, 114]) 1703, .str (tx [101, 114, 105, 115, 99, 104]) 1704] 0, #[]⟩
noncomputable def ob659 (P : Params) : Obj := ⟨.type "list", none, .seq #[.ref 653, .ref 654, .ref 655, .ref 656, .ref 657, .ref 658] 0, #[]⟩
noncomputable def ob660 (P : Params) : Obj := ⟨.type "tuple", none, .seq #[.str (tx [101, 114]) 1691, .str (tx [101, 114]) 1692, .ref 659] 0, #[]⟩
noncomputable def ob661 (P : Params) : Obj := ⟨.type "tuple", none, .seq #[.str (tx [101, 110, 116, 108, 105, 99, 104]) 1707, .str (tx [101, 110, 116, 108, 105, 99, 104]) 1708] 0, #[]⟩
noncomputable def ob662 (P : Params) : Obj := ⟨.type "tuple", none, .seq #[.str (tx [101, 110, 116, 108, 105, 99, 104, 101]) 1709, .str (tx [101, 110, 116, 108, 105, 99, 104]) 1710] 0, #[]⟩
noncomputable def ob663 (P : Params) : Obj := ⟨.type "tuple", none, .seq #[.str (tx [101, 110, 116, 108, 105, 99, 104, 107, 101, 105, 116]) 1711, .str (tx [101, 110, 116, 108, 105, 99, 104]) 1712] 0, #[]⟩
noncomputable def ob664 (P : Params) : Obj := ⟨.type "list", none, .seq #[.ref 661, .ref 662, .ref 663] 0, #[]⟩
noncomputable def ob665 (P : Params) : Obj := ⟨.type "tuple", none, .seq #[.str (tx [101, 110, 116]) 1705, .str (tx [101, 110, 116]) 1706, .ref 664] 0, #[]⟩
noncomputable def ob666 (P : Params) : Obj := ⟨.type "tuple", none, .seq #[.str (tx [101, 108]) 1715, .str (tx [101, 108]) 1716] 0, #[]⟩
noncomputable def ob667 (P : Params) : Obj := ⟨.type "tuple", none, .seq #[.str (tx [101, 108, 115]) 1717, .str (tx [101, 108]) 1718] 0, #[]⟩
noncomputable def ob668 (P : Params) : Obj := ⟨.type "tuple", none, .seq #[.str (tx [101, 108, 110]) 1719, .str (tx [101, 108, 110]) 1720] 0, #[]⟩
noncomputable def ob669 (P : Params) : Obj := ⟨.type "tuple", none, .seq #[.str (tx [101, 108, 110, 115]) 1721, .str (tx [101, 108, 110, 115]) 1722] 0, #[]⟩
noncomputable def ob670 (P : Params) : Obj := ⟨.type "tuple", none, .seq #[.str (tx [101, 108, 115, 116]) 1723, .str (tx [101, 108]) 1724] 0, #[]⟩
noncomputable def ob671 (P : Params) : Obj := ⟨.type "tuple", none, .seq #[.str (tx [101, 108, 117, 110, 103]) 1725, .str (tx [101, 108, 117, 110, 103]) 1726] 0, #[]⟩
noncomputable def ob672 (P : Params) : Obj := ⟨.type "tuple", none, .seq #[.str (tx [101, 108, 117, 110, 103, 101, 110]) 1727, .str (tx [101, 108, 117, 110, 103]) 1728] 0, #[]⟩
noncomputable def ob673 (P : Params) : Obj := ⟨.type "tuple", none, .seq #[.str (tx [101, 108, 105, 103]) 1729, .str (tx [101, 108, 105, 103]) 1730] 0, #[]⟩
noncomputable def ob674 (P : Params) : Obj := ⟨.type "tuple", none, .seq #[.str (tx [101, 108, 105, 103, 101]) 1731, .str (tx [101, 108, 105, 103]) 1732] 0, #[]⟩
noncomputable def ob675 (P : Params) : Obj := ⟨.type "list", none, .seq #[.ref 666, .ref 667, .ref 668, .ref 669, .ref 670, .ref 671, .ref 672, .ref 673, .ref 674] 0, #[]⟩
noncomputable def ob676 (P : Params) : Obj := ⟨.type "tuple", none, .seq #[.str (tx [101, 108]) 1713, .str (tx [101, 108]) 1714, .ref 675] 0, #[]⟩
noncomputable def ob677 (P : Params) : Obj := ⟨.type "tuple", none, .seq #[.str (tx [101, 108, 116]) 1735, .str (tx [101, 108, 116]) 1736] 0, #[]⟩
noncomputable def ob678 (P : Params) : Obj := ⟨.type "tuple", none, .seq #[.str (tx [101, 108, 116, 101]) 1737, .str (tx [101, 108, 116]) 1738] 0, #[]⟩
noncomputable def ob679 (P : Params) : Obj := ⟨.type "tuple", none, .seq #[.str (tx [101, 108, 116, 101, 110]) 1739, .str (tx [101, 108, 116]) 1740] 0, #[]⟩
noncomputable def ob680 (P : Params) : Obj := ⟨.type "list", none, .seq #[.ref 677, .ref 678, .ref 679] 0, #[]⟩
noncomputable def ob681 (P : Params) : Obj := ⟨.type "tuple", none, .seq #[.str (tx [101, 108, 116]) 1733, .str (tx [101, 108, 116]) 1734, .ref 680] 0, #[]⟩
noncomputable def ob682 (P : Params) : Obj := ⟨.type "tuple", none, .seq #[.str (tx [105, 110]) 1743, .str (tx [105, 110]) 1744] 0, #[]⟩
noncomputable def ob683 (P : Params) : Obj := ⟨.type "list", none, .seq #[.ref 682] 0, #[]⟩
noncomputable def ob684 (P : Params) : Obj := ⟨.type "tuple", none, .seq #[.str (tx [105, 110]) 1741, .str (tx [105, 110]) 1742, .ref 683] 0, #[]⟩
noncomputable def ob685 (P : Params) : Obj := ⟨.type "tuple", none, .seq #[.str (tx [105, 110, 110, 101, 110]) 1747, .str (tx [105, 110, 110]) 1748] 0, #[]⟩
noncomputable def ob686 (P : Params) : Obj := ⟨.type "list", none, .seq #[.ref 685] 0, #[]⟩
noncomputable def ob687 (P : Params) : Obj := ⟨.type "tuple", none, .seq #[.str (tx [105, 110, 110]) 1745, .str (tx [105, 110, 110]) 1746, .ref 686] 0, #[]⟩
noncomputable def ob688 (P : Params) : Obj := ⟨.type "tuple", none, .seq #[.str (tx [110, 105, 115]) 1751, .str (tx [110, 105, 115]) 1752] 0, #[]⟩
noncomputable def ob689 (P : Params) : Obj := ⟨.type "tuple", none, .seq #[.str (tx [110, 105, 115, 115, 101]) 1753, .str (tx [110, 105, 115]) 1754] 0, #[]⟩
noncomputable def ob690 (P : Params) : Obj := ⟨.type "tuple", none, .seq #[.str (tx [110, 105, 115, 115, 101, 110]) 1755, .str (tx [110, 105, 115]) 1756] 0, #[]⟩
noncomputable def ob691 (P : Params) : Obj := ⟨.type "tuple", none, .seq #[.str (tx [110, 105, 115, 115, 101, 115]) 1757, .str (tx [110, 105, 115]) 1758] 0, #[]⟩
noncomputable def ob692 (P : Params) : Obj := ⟨.type "list", none, .seq #[.ref 688, .ref 689, .ref 690, .ref 691] 0, #[]⟩
noncomputable def ob693 (P : Params) : Obj := ⟨.type "tuple", none, .seq #[.str (tx [110, 105, 115]) 1749, .str (tx [110, 105, 115]) 1750, .ref 692] 0, #[]⟩
noncomputable def ob694 (P : Params) : Obj := ⟨.type "tuple", none, .seq #[.str (tx [98, 97, 114]) 1761, .str (tx [98, 97, 114]) 1762] 0, #[]⟩
noncomputable def ob695 (P : Params) : Obj := ⟨.type "tuple", none, .seq #[.str (tx [98, 97, 114, 101]) 1763, .str (tx [98, 97, 114]) 1764] 0, #[]⟩
noncomputable def ob696 (P : Params) : Obj := ⟨.type "tuple", none, .seq #[.str (tx [98, 97, 114, 101, 110]) 1765, .str (tx [98, 97, 114]) 1766] 0, #[]⟩
noncomputable def ob697 (P : Params) : Obj := ⟨.type "tuple", none, .seq #[.str (tx [98, 97, 114, 101, 114]) 1767, .str (tx [98, 97, 114]) 1768] 0, #[]⟩
noncomputable def ob698 (P : Params) : Obj := ⟨.type "tuple", none, .seq #[.str (tx [98, 97, 114, 101, 115]) 1769, .str (tx [98, 97, 114]) 1770] 0, #[]⟩
noncomputable def ob699 (P : Params) : Obj := ⟨.type "tuple", none, .seq #[.str (tx [98, 97, 114, 101, 109]) 1771, .str (tx [98, 97, 114]) 1772] 0, #[]⟩
noncomputable def ob700 (P : Params) : Obj := ⟨.type "tuple", none, .seq #[.str (tx [98, 97, 114, 107, 101, 105, 116]) 1773, .str (tx [98, 97, 114, 107, 101, 105, 116]) 1774] 0, #[]⟩
noncomputable def ob701 (P : Params) : Obj := ⟨.type "tuple", none, .seq #[.str (tx [98, 97, 114, 107, 101, 105, 116, 101, 110]) 1775, .str (tx [98, 97, 114, 107, 101, 105, 116]) 1776] 0, #[]⟩
noncomputable def ob702 (P : Params) : Obj := ⟨.type "list", none, .seq #[.ref 694, .ref 695, .ref 696, .ref 697, .ref 698, .ref 699, .ref 700, .ref 701] 0, #[]⟩
noncomputable def ob703 (P : Params) : Obj := ⟨.type "tuple", none, .seq #[.str (tx [98, 97, 114]) 1759, .str (tx [98, 97, 114]) 1760, .ref 702] 0, #[]⟩
noncomputable def ob704 (P : Params) : Obj := ⟨.type "tuple", none, .seq #[.str (tx [115, 97, 109]) 1779, .str (tx [115, 97, 109]) 1780] 0, #[]⟩
noncomputable def ob705 (P : Params) : Obj := ⟨.type "tuple", none, .seq #[.str (tx [115, 97, 109, 101]) 1781, .str (tx [115, 97, 109]) 1782] 0, #[]⟩
noncomputable def ob706 (P : Params) : Obj := ⟨.type "tuple", none, .seq #[.str (tx [115, 97, 109, 101, 110]) 1783, .str (tx [115, 97, 109]) 1784] 0, #[]⟩
noncomputable def ob707 (P : Params) : Obj := ⟨.type "tuple", none, .seq #[.str (tx [115, 97, 109, 101, 114]) 1785, .str (tx [115, 97, 109]) 1786] 0, #[]⟩
noncomputable def ob708 (P : Params) : Obj := ⟨.type "tuple", none, .seq #[.str (tx [115, 97, 109, 101, 115]) 1787, .str (tx [115, 97, 109]) 1788] 0, #[]⟩
noncomputable def ob709 (P : Params) : Obj := ⟨.type "tuple", none, .seq #[.str (tx [115, 97, 109, 101, 109]) 1789, .str (tx [115, 97, 109]) 1790] 0, #[]⟩
noncomputable def ob710 (P : Params) : Obj := ⟨.type "tuple", none, .seq #[.str (tx [115, 97, 109, 115, 116]) 1791, .str (tx [115, 97, 109]) 1792] 0, #[]⟩
noncomputable def ob711 (P : Params) : Obj := ⟨.type "tuple", none, .seq #[.str (tx [115, 97, 109, 115, 116, 101, 110]) 1793, .str (tx [115, 97, 109]) 1794] 0, #[]⟩
noncomputable def ob712 (P : Params) : Obj := ⟨.type "tuple", none, .seq #[.str (tx [115, 97, 109, 107, 101, 105, 116]) 1795, .str (tx [115, 97, 109, 107, 101, 105, 116]) 1796] 0, #[]⟩
noncomputable def ob713 (P : Params) : Obj := ⟨.type "list", none, .seq #[.ref 704, .ref 705, .ref 706, .ref 707, .ref 708, .ref 709, .ref 710, .ref 711, .ref 712] 0, #[]⟩
noncomputable def ob714 (P : Params) : Obj := ⟨.type "tuple", none, .seq #[.str (tx [115, 97, 109]) 1777, .str (tx [115, 97, 109]) 1778, .ref 713] 0, #[]⟩
noncomputable def ob715 (P : Params) : Obj := ⟨.type "tuple", none, .seq #[.str (tx [108, 111, 115]) 1799, .str (tx [108, 111, 115]) 1800] 0, #[]⟩
noncomputable def ob716 (P : Params) : Obj := ⟨.type "tuple", none, .seq #[.str (tx [108, 111, 115, 101]) 1801, .str (tx [108, 111, 115]) 1802] 0, #[]⟩
noncomputable def ob717 (P : Params) : Obj := ⟨.type "tuple", none, .seq #[.str (tx [108, 111, 115, 101, 110]) 1803, .str (tx [108, 111, 115]) 1804] 0, #[]⟩
noncomputable def ob718 (P : Params) : Obj := ⟨.type "tuple", none, .seq #[.str (tx [108, 111, 115, 101, 114]) 1805, .str (tx [108, 111, 115]) 1806] 0, #[]⟩
noncomputable def ob719 (P : Params) : Obj := ⟨.type "tuple", none, .seq #[.str (tx [108, 111, 115, 101, 115]) 1807, .str (tx [108, 111, 115]) 1808] 0, #[]⟩
noncomputable def ob720 (P : Params) : Obj := ⟨.type "tuple", none, .seq #[.str (tx [108, 111, 115, 101, 109]) 1809, .str (tx [108, 111, 115]) 1810] 0, #[]⟩
noncomputable def ob721 (P : Params) : Obj := ⟨.type "tuple", none, .seq #[.str (tx [108, 111, 115, 101, 115, 116]) 1811, .str (tx [108, 111, 115]) 1812] 0, #[]⟩
noncomputable def ob722 (P : Params) : Obj := ⟨.type "tuple", none, .seq #[.str (tx [108, 111, 115, 105, 103]) 1813, .str (tx [108, 111, 115, 105, 103]) 1814] 0, #[]⟩
noncomputable def ob723 (P : Params) : Obj := ⟨.type "tuple", none, .seq #[.str (tx [108, 111, 115, 105, 103, 107, 101, 105, 116]) 1815, .str (tx [108, 111, 115, 105, 103]) 1816] 0, #[]⟩
noncomputable def ob724 (P : Params) : Obj := ⟨.type "list", none, .seq #[.ref 715, .ref 716, .ref 717, .ref 718, .ref 719, .ref 720, .ref 721, .ref 722, .ref 723] 0, #[]⟩
noncomputable def ob725 (P : Params) : Obj := ⟨.type "tuple", none, .seq #[.str (tx [108, 111, 115]) 1797, .str (tx [108, 111, 115]) 1798, .ref 724] 0, #[]⟩
noncomputable def ob726 (P : Params) : Obj := ⟨.type "tuple", none, .seq #[.str (tx [115, 99, 104, 97, 102, 116]) 1819, .str (tx [115, 99, 104, 97, 102, 116]) 1820] 0, #[]⟩
noncomputable def ob727 (P : Params) : Obj := ⟨.type "tuple", none, .seq #[.str (tx [115, 99, 104, 97, 102, 116, 101, 110]) 1821, .str (tx [115, 99, 104, 97, 102, 116]) 1822] 0, #[]⟩
noncomputable def ob728 (P : Params) : Obj := ⟨.type "tuple", none, .seq #[.str (tx [115, 99, 104, 97, 102, 116, 115]) 1823, .str (tx [115, 99, 104, 97, 102, 116]) 1824] 0, #[]⟩
noncomputable def ob729 (P : Params) : Obj := ⟨.type "tuple", none, .seq #[.str (tx [115, 99, 104, 97, 102, 116, 108, 105, 99, 104]) 1825, .str (tx [115, 99, 104, 97, 102, 116, 108, 105, 99, 104]) 1826] 0, #[]⟩
noncomputable def ob730 (P : Params) : Obj := ⟨.type "list", none, .seq #[.ref 726, .ref 727, .ref 728, .ref 729] 0, #[]⟩
noncomputable def ob731 (P : Params) : Obj := ⟨.type "tuple", none, .seq #[.str (tx [115, 99, 104, 97, 102, 116]) 1817, .str (tx [115, 99, 104, 97, 102, 116]) 1818, .ref 730] 0, #[]⟩
noncomputable def ob732 (P : Params) : Obj := ⟨.type "tuple", none, .seq #[.str (tx [118, 111, 108, 108]) 1829, .str (tx [118, 111, 108, 108]) 1830] 0, #[]⟩
noncomputable def ob733 (P : Params) : Obj := ⟨.type "tuple", none, .seq #[.str (tx [118, 111, 108, 108, 101]) 1831, .str (tx [118, 111, 108, 108]) 1832] 0, #[]⟩
noncomputable def ob734 (P : Params) : Obj := ⟨.type "tuple", none, .seq #[.str (tx [118, 111, 108, 108, 101, 110]) 1833, .str (tx [118, 111, 108, 108]) 1834] 0, #[]⟩
noncomputable def ob735 (P : Params) : Obj := ⟨.type "tuple", none, .seq #[.str (tx [118, 111, 108, 108, 101, 114]) 1835, .str (tx [118, 111, 108, 108]) 1836] 0, #[]⟩
noncomputable def ob736 (P : Params) : Obj := ⟨.type "tuple", none, .seq #[.str (tx [118, 111, 108, 108, 101, 115]) 1837, .str (tx [118, 111, 108, 108]) 1838] 0, #[]⟩
noncomputable def ob737 (P : Params) : Obj := ⟨.type "tuple", none, .seq #[.str (tx [118, 111, 108, 108, 101, 109]) 1839, .str (tx [118, 111, 108, 108]) 1840] 0, #[]⟩
noncomputable def ob738 (P : Params) : Obj := ⟨.type "list", none, .seq #[.ref 732, .ref 733, .ref 734, .ref 735, .ref 736, .ref 737] 0, #[]⟩
noncomputable def ob739 (P : Params) : Obj := ⟨.type "tuple", none, .seq #[.str (tx [118, 111, 108, 108]) 1827, .str (tx [118, 111, 108, 108]) 1828, .ref 738] 0, #[]⟩
noncomputable def ob740 (P : Params) : Obj := ⟨.type "tuple", none, .seq #[.str (tx [104, 97, 102, 116]) 1843, .str (tx [104, 97, 102, 116]) 1844] 0, #[]⟩
noncomputable def ob741 (P : Params) : Obj := ⟨.type "tuple", none, .seq #[.str (tx [104, 97, 102, 116, 101]) 1845, .str (tx [104, 97, 102, 116]) 1846] 0, #[]⟩
noncomputable def ob742 (P : Params) : Obj := ⟨.type "tuple", none, .seq #[.str (tx [104, 97, 102, 116, 101, 110]) 1847, .str (tx [104, 97, 102, 116]) 1848] 0, #[]⟩
noncomputable def ob743 (P : Params) : Obj := ⟨.type "tuple", none, .seq #[.str (tx [104, 97, 102, 116, 101, 114]) 1849, .str (tx [104, 97, 102, 116]) 1850] 0, #[]⟩
noncomputable def ob744 (P : Params) : Obj := ⟨.type "tuple", none, .seq #[.str (tx [104, 97, 102, 116, 105, 103]) 1851, .str (tx [104, 97, 102, 116, 105, 103]) 1852] 0, #[]⟩
noncomputable def ob745 (P : Params) : Obj := ⟨.type "tuple", none, .seq #[.str (tx [104, 97, 102, 116, 105, 103, 107, 101, 105, 116]) 1853, .str (tx [104, 97, 102, 116, 105, 103]) 1854] 0, #[]⟩
noncomputable def ob746 (P : Params) : Obj := ⟨.type "list", none, .seq #[.ref 740, .ref 741, .ref 742, .ref 743, .ref 744, .ref 745] 0, #[]⟩
noncomputable def ob747 (P : Params) : Obj := ⟨.type "tuple", none, .seq #[.str (tx [104, 97, 102, 116]) 1841, .str (tx [104, 97, 102, 116]) 1842, .ref 746] 0, #[]⟩
noncomputable def ob748 (P : Params) : Obj := ⟨.type "tuple", none, .seq #[.str (tx [99, 104, 101, 110]) 1857, .str (tx [99, 104, 101, 110]) 1858] 0, #[]⟩
noncomputable def ob749 (P : Params) : Obj := ⟨.type "tuple", none, .seq #[.str (tx [99, 104, 101, 110, 115]) 1859, .str (tx [99, 104, 101, 110]) 1860] 0, #[]⟩
noncomputable def ob750 (P : Params) : Obj := ⟨.type "list", none, .seq #[.ref 748, .ref 749] 0, #[]⟩
noncomputable def ob751 (P : Params) : Obj := ⟨.type "tuple", none, .seq #[.str (tx [99, 104]) 1855, .str (tx [99, 104]) 1856, .ref 750] 0, #[]⟩
noncomputable def ob752 (P : Params) : Obj := ⟨.type "tuple", none, .seq #[.str (tx [108, 101, 105, 110]) 1863, .str (tx [108, 101, 105, 110]) 1864] 0, #[]⟩
noncomputable def ob753 (P : Params) : Obj := ⟨.type "tuple", none, .seq #[.str (tx [108, 101, 105, 110, 115]) 1865, .str (tx [108, 101, 105, 110]) 1866] 0, #[]⟩
noncomputable def ob754 (P : Params) : Obj := ⟨.type "list", none, .seq #[.ref 752, .ref 753] 0, #[]⟩
noncomputable def ob755 (P : Params) : Obj := ⟨.type "tuple", none, .seq #[.str (tx [108, 101, 105, 110]) 1861, .str (tx [108, 101, 105, 110]) 1862, .ref 754] 0, #[]⟩
noncomputable def ob756 (P : Params) : Obj := ⟨.type "tuple", none, .seq #[.str (tx [116, 117, 109]) 1869, .str (tx [116, 117, 109]) 1870] 0, #[]⟩
noncomputable def ob757 (P : Params) : Obj := ⟨.type "tuple", none, .seq #[.str (tx [116, 117, 109, 115]) 1871, .str (tx [116, 117, 109]) 1872] 0, #[]⟩
noncomputable def ob758 (P : Params) : Obj := ⟨.type "tuple", none, .seq #[.str (tx [116, 252, 109, 101, 114]) 1873, .str (tx [116, 117, 109]) 1874] 0, #[]⟩
noncomputable def ob759 (P : Params) : Obj := ⟨.type "tuple", none, .seq #[.str (tx [116, 252, 109, 101, 114, 110]) 1875, .str (tx [116, 117, 109]) 1876] 0, #[]⟩
noncomputable def ob760 (P : Params) : Obj := ⟨.type "tuple", none, .seq #[.str (tx [116, 252, 109, 108, 105, 99, 104]) 1877, .str (tx [116, 117, 109, 108, 105, 99, 104]) 1878] 0, #[]⟩
noncomputable def ob761 (P : Params) : Obj := ⟨.type "list", none, .seq #[.ref 756, .ref 757, .ref 758, .ref 759, .ref 760] 0, #[]⟩
noncomputable def ob762 (P : Params) : Obj := ⟨.type "tuple", none, .seq #[.str (tx [116, 117, 109]) 1867, .str (tx [116, 117, 109]) 1868, .ref 761] 0, #[]⟩
noncomputable def ob763 (P : Params) : Obj := ⟨.type "tuple", none, .seq #[.str (tx [108, 105, 110, 103]) 1881, .str (tx [108, 105, 110, 103]) 1882] 0, #[]⟩
noncomputable def ob764 (P : Params) : Obj := ⟨.type "tuple", none, .seq #[.str (tx [108, 105, 110, 103, 101]) 1883, .str (tx [108, 105, 110, 103]) 1884] 0, #[]⟩
noncomputable def ob765 (P : Params) : Obj := ⟨.type "tuple", none, .seq #[.str (tx [108, 105, 110, 103, 115]) 1885, .str (tx [108, 105, 110, 103]) 1886] 0, #[]⟩
noncomputable def ob766 (P : Params) : Obj := ⟨.type "tuple", none, .seq #[.str (tx [108, 105, 110, 103, 101, 110]) 1887, .str (tx [108, 105, 110, 103]) 1888] 0, #[]⟩
noncomputable def ob767 (P : Params) : Obj := ⟨.type "list", none, .seq #[.ref 763, .ref 764, .ref 765, .ref 766] 0, #[]⟩
noncomputable def ob768 (P : Params) : Obj := ⟨.type "tuple", none, .seq #[.str (tx [108, 105, 110, 103]) 1879, .str (tx [108, 105, 110, 103]) 1880, .ref 767] 0, #[]⟩
noncomputable def ob769 (P : Params) : Obj := ⟨.type "list", none, .seq #[.ref 494, .ref 502, .ref 510, .ref 532, .ref 546, .ref 556, .ref 560, .ref 573, .ref 584, .ref 589, .ref 601, .ref 610, .ref 622, .ref 631, .ref 642, .ref 647, .ref 652, .ref 660, .ref 665, .ref 676, .ref 681, .ref 684, .ref 687, .ref 693, .ref 703, .ref 714, .ref 725, .ref 731, .ref 739, .ref 747, .ref 751, .ref 755, .ref 762, .ref 768] 0, #[]⟩
noncomputable def ob775 (P : Params) : Obj := ⟨.type "code", none, .fields #[.str (tx [95, 108, 97, 119, 95, 108, 97, 116, 101]) 1890, .str (tx [95, 108, 97, 119, 95, 108, 97, 116, 101]) 1891, .str (tx [47, 99, 108, 97, 105, 109, 47, 99, 117, 116, 46, 112, 121]) 1892, .int 569 0, .int 0 0, .int 0 0, .int 0 0, .int 3 0, .ref 770, .bool true, .int 181 0, .ref 771, .none, .ref 772, .ref 773, .ref 774, .int 1893 0, .int 569 0, .str (tx [47, 99, 108, 97, 105, 109, 47, 99, 117, 116, 46, 112, 121]) 1894], #[]⟩
noncomputable def ob776 (P : Params) : Obj := ⟨.type "function", none, .func (fnOf (stAt 16) (tx [95, 108, 97, 119, 95, 108, 97, 116, 101]) (.str (tx [108, 97, 119, 95, 102, 98, 48, 48, 53, 51, 95, 48, 49]) 1366) (.ref 775) (.none)), #[]⟩
noncomputable def ob782 (P : Params) : Obj := ⟨.type "code", none, .fields #[.str (tx [95, 108, 97, 119, 95, 109, 97, 114, 107, 115]) 1896, .str (tx [95, 108, 97, 119, 95, 109, 97, 114, 107, 115]) 1897, .str (tx [47, 99, 108, 97, 105, 109, 47, 99, 117, 116, 46, 112, 121]) 1898, .int 571 0, .int 0 0, .int 0 0, .int 0 0, .int 3 0, .ref 777, .bool true, .int 181 0, .ref 778, .none, .ref 779, .ref 780, .ref 781, .int 1899 0, .int 571 0, .str (tx [47, 99, 108, 97, 105, 109, 47, 99, 117, 116, 46, 112, 121]) 1900], #[]⟩
noncomputable def ob783 (P : Params) : Obj := ⟨.type "function", none, .func (fnOf (stAt 17) (tx [95, 108, 97, 119, 95, 109, 97, 114, 107, 115]) (.str (tx [108, 97, 119, 95, 102, 98, 48, 48, 53, 51, 95, 48, 49]) 1366) (.ref 782) (.none)), #[]⟩
noncomputable def ob789 (P : Params) : Obj := ⟨.type "code", none, .fields #[.str (tx [95, 108, 97, 119, 95, 97, 116]) 1902, .str (tx [95, 108, 97, 119, 95, 97, 116]) 1903, .str (tx [47, 99, 108, 97, 105, 109, 47, 99, 117, 116, 46, 112, 121]) 1904, .int 573 0, .int 2 0, .int 0 0, .int 0 0, .int 3 0, .ref 784, .bool true, .int 181 0, .ref 785, .none, .ref 786, .ref 787, .ref 788, .int 1907 0, .int 573 0, .str (tx [47, 99, 108, 97, 105, 109, 47, 99, 117, 116, 46, 112, 121]) 1908], #[]⟩
noncomputable def ob790 (P : Params) : Obj := ⟨.type "function", none, .func (fnOf (stAt 18) (tx [95, 108, 97, 119, 95, 97, 116]) (.str (tx [108, 97, 119, 95, 102, 98, 48, 48, 53, 51, 95, 48, 49]) 1366) (.ref 789) (.none)), #[]⟩
noncomputable def ob796 (P : Params) : Obj := ⟨.type "code", none, .fields #[.str (tx [95, 108, 97, 119, 95, 115, 111, 109, 101]) 1910, .str (tx [95, 108, 97, 119, 95, 115, 111, 109, 101]) 1911, .str (tx [47, 99, 108, 97, 105, 109, 47, 99, 117, 116, 46, 112, 121]) 1912, .int 577 0, .int 2 0, .int 0 0, .int 0 0, .int 3 0, .ref 791, .bool true, .int 181 0, .ref 792, .none, .ref 793, .ref 794, .ref 795, .int 1918 0, .int 577 0, .str (tx [47, 99, 108, 97, 105, 109, 47, 99, 117, 116, 46, 112, 121]) 1919], #[]⟩
noncomputable def ob797 (P : Params) : Obj := ⟨.type "function", none, .func (fnOf (stAt 19) (tx [95, 108, 97, 119, 95, 115, 111, 109, 101]) (.str (tx [108, 97, 119, 95, 102, 98, 48, 48, 53, 51, 95, 48, 49]) 1366) (.ref 796) (.none)), #[]⟩
noncomputable def ob803 (P : Params) : Obj := ⟨.type "code", none, .fields #[.str (tx [95, 108, 97, 119, 95, 119, 111, 114, 100]) 1921, .str (tx [95, 108, 97, 119, 95, 119, 111, 114, 100]) 1922, .str (tx [47, 99, 108, 97, 105, 109, 47, 99, 117, 116, 46, 112, 121]) 1923, .int 586 0, .int 8 0, .int 0 0, .int 0 0, .int 3 0, .ref 798, .bool true, .int 181 0, .ref 799, .none, .ref 800, .ref 801, .ref 802, .int 1943 0, .int 586 0, .str (tx [47, 99, 108, 97, 105, 109, 47, 99, 117, 116, 46, 112, 121]) 1944], #[]⟩
noncomputable def ob804 (P : Params) : Obj := ⟨.type "function", none, .func (fnOf (stAt 20) (tx [95, 108, 97, 119, 95, 119, 111, 114, 100]) (.str (tx [108, 97, 119, 95, 102, 98, 48, 48, 53, 51, 95, 48, 49]) 1366) (.ref 803) (.none)), #[]⟩
noncomputable def ob810 (P : Params) : Obj := ⟨.type "code", none, .fields #[.str (tx [108, 97, 119]) 1946, .str (tx [108, 97, 119]) 1947, .str (tx [47, 99, 108, 97, 105, 109, 47, 99, 117, 116, 46, 112, 121]) 1948, .int 617 0, .int 1 0, .int 0 0, .int 0 0, .int 3 0, .ref 805, .bool true, .int 181 0, .ref 806, .none, .ref 807, .ref 808, .ref 809, .int 1965 0, .int 617 0, .str (tx [47, 99, 108, 97, 105, 109, 47, 99, 117, 116, 46, 112, 121]) 1966], #[]⟩
noncomputable def ob811 (P : Params) : Obj := ⟨.type "function", none, .func (fnOf (stAt 21) (tx [108, 97, 119]) (.str (tx [108, 97, 119, 95, 102, 98, 48, 48, 53, 51, 95, 48, 49]) 1366) (.ref 810) (.none)), #[]⟩

noncomputable def bootK (P : Params) : Frag := [(0, boot_o_0 P), (1, boot_o_1 P), (4, boot_o_4 P), (5, boot_o_5 P), (6, boot_o_6 P), (7, boot_o_7 P), (8, boot_o_8 P), (9, boot_o_9 P), (10, boot_o_10 P)]
noncomputable def KF (P : Params) (O1 O2 O3 O4 : Obj) : Frag := bootK P ++ [(2, ob2 P), (3, ob3 P), (20, ob20 P), (21, ob21 P), (34, ob34 P), (35, ob35 P), (41, ob41 P), (42, ob42 P), (48, ob48 P), (49, ob49 P), (55, ob55 P), (56, ob56 P), (62, ob62 P), (63, ob63 P), (69, ob69 P), (70, ob70 P), (76, ob76 P), (77, ob77 P), (83, ob83 P), (84, ob84 P), (90, ob90 P), (91, ob91 P), (97, ob97 P), (98, ob98 P), (104, ob104 P), (105, ob105 P), (111, ob111 P), (112, ob112 P), (118, ob118 P), (119, ob119 P), (125, ob125 P), (126, ob126 P), (132, ob132 P), (133, ob133 P), (139, ob139 P), (140, ob140 P), (146, ob146 P), (147, ob147 P), (153, ob153 P), (154, ob154 P), (160, ob160 P), (161, ob161 P), (167, ob167 P), (168, ob168 P), (174, ob174 P), (175, ob175 P), (181, ob181 P), (182, ob182 P), (188, ob188 P), (189, ob189 P), (193, ob193 P), (194, ob194 P), (195, ob195 P), (196, ob196 P), (197, ob197 P), (214, ob214 P), (215, ob215 P), (216, ob216 P), (217, ob217 P), (218, ob218 P), (230, O1), (231, O2), (232, O3), (233, O4), (239, ob239 P), (240, ob240 P), (246, ob246 P), (247, ob247 P), (253, ob253 P), (254, ob254 P), (260, ob260 P), (261, ob261 P), (267, ob267 P), (268, ob268 P), (274, ob274 P), (275, ob275 P), (281, ob281 P), (282, ob282 P), (283, ob283 P), (284, ob284 P), (286, ob286 P), (287, ob287 P), (289, ob289 P), (290, ob290 P), (292, ob292 P), (293, ob293 P), (295, ob295 P), (296, ob296 P), (298, ob298 P), (299, ob299 P), (301, ob301 P), (302, ob302 P), (303, ob303 P), (305, ob305 P), (306, ob306 P), (308, ob308 P), (309, ob309 P), (311, ob311 P), (312, ob312 P), (314, ob314 P), (315, ob315 P), (317, ob317 P), (318, ob318 P), (320, ob320 P), (321, ob321 P), (322, ob322 P), (324, ob324 P), (325, ob325 P), (327, ob327 P), (328, ob328 P), (330, ob330 P), (331, ob331 P), (333, ob333 P), (334, ob334 P), (336, ob336 P), (337, ob337 P), (339, ob339 P), (340, ob340 P), (342, ob342 P), (343, ob343 P), (345, ob345 P), (346, ob346 P), (348, ob348 P), (349, ob349 P), (351, ob351 P), (352, ob352 P), (354, ob354 P), (355, ob355 P), (356, ob356 P), (358, ob358 P), (359, ob359 P), (361, ob361 P), (362, ob362 P), (364, ob364 P), (365, ob365 P), (367, ob367 P), (368, ob368 P), (370, ob370 P), (371, ob371 P), (372, ob372 P), (374, ob374 P), (375, ob375 P), (377, ob377 P), (378, ob378 P), (380, ob380 P), (381, ob381 P), (383, ob383 P), (384, ob384 P), (386, ob386 P), (387, ob387 P), (388, ob388 P), (390, ob390 P), (391, ob391 P), (393, ob393 P), (394, ob394 P), (395, ob395 P), (397, ob397 P), (398, ob398 P), (400, ob400 P), (401, ob401 P), (403, ob403 P), (404, ob404 P), (406, ob406 P), (407, ob407 P), (409, ob409 P), (410, ob410 P), (412, ob412 P), (413, ob413 P), (415, ob415 P), (416, ob416 P), (418, ob418 P), (419, ob419 P), (420, ob420 P), (422, ob422 P), (423, ob423 P), (425, ob425 P), (426, ob426 P), (428, ob428 P), (429, ob429 P), (430, ob430 P), (431, ob431 P), (441, ob441 P), (442, ob442 P), (443, ob443 P), (454, ob454 P), (455, ob455 P), (456, ob456 P), (467, ob467 P), (468, ob468 P), (469, ob469 P), (478, ob478 P), (479, ob479 P), (480, ob480 P), (481, ob481 P), (482, ob482 P), (483, ob483 P), (484, ob484 P), (490, ob490 P), (491, ob491 P), (492, ob492 P), (493, ob493 P), (494, ob494 P), (495, ob495 P), (496, ob496 P), (497, ob497 P), (498, ob498 P), (499, ob499 P), (500, ob500 P), (501, ob501 P), (502, ob502 P), (503, ob503 P), (504, ob504 P), (505, ob505 P), (506, ob506 P), (507, ob507 P), (508, ob508 P), (509, ob509 P), (510, ob510 P), (511, ob511 P), (512, ob512 P), (513, ob513 P), (514, ob514 P), (515, ob515 P), (516, ob516 P), (517, ob517 P), (518, ob518 P), (519, ob519 P), (520, ob520 P), (521, ob521 P), (522, ob522 P), (523, ob523 P), (524, ob524 P), (525, ob525 P), (526, ob526 P), (527, ob527 P), (528, ob528 P), (529, ob529 P), (530, ob530 P), (531, ob531 P), (532, ob532 P), (533, ob533 P), (534, ob534 P), (535, ob535 P), (536, ob536 P), (537, ob537 P), (538, ob538 P), (539, ob539 P), (540, ob540 P), (541, ob541 P), (542, ob542 P), (543, ob543 P), (544, ob544 P), (545, ob545 P), (546, ob546 P), (547, ob547 P), (548, ob548 P), (549, ob549 P), (550, ob550 P), (551, ob551 P), (552, ob552 P), (553, ob553 P), (554, ob554 P), (555, ob555 P), (556, ob556 P), (557, ob557 P), (558, ob558 P), (559, ob559 P), (560, ob560 P), (561, ob561 P), (562, ob562 P), (563, ob563 P), (564, ob564 P), (565, ob565 P), (566, ob566 P), (567, ob567 P), (568, ob568 P), (569, ob569 P), (570, ob570 P), (571, ob571 P), (572, ob572 P), (573, ob573 P), (574, ob574 P), (575, ob575 P), (576, ob576 P), (577, ob577 P), (578, ob578 P), (579, ob579 P), (580, ob580 P), (581, ob581 P), (582, ob582 P), (583, ob583 P), (584, ob584 P), (585, ob585 P), (586, ob586 P), (587, ob587 P), (588, ob588 P), (589, ob589 P), (590, ob590 P), (591, ob591 P), (592, ob592 P), (593, ob593 P), (594, ob594 P), (595, ob595 P), (596, ob596 P), (597, ob597 P), (598, ob598 P), (599, ob599 P), (600, ob600 P), (601, ob601 P), (602, ob602 P), (603, ob603 P), (604, ob604 P), (605, ob605 P), (606, ob606 P), (607, ob607 P), (608, ob608 P), (609, ob609 P), (610, ob610 P), (611, ob611 P), (612, ob612 P), (613, ob613 P), (614, ob614 P), (615, ob615 P), (616, ob616 P), (617, ob617 P), (618, ob618 P), (619, ob619 P), (620, ob620 P), (621, ob621 P), (622, ob622 P), (623, ob623 P), (624, ob624 P), (625, ob625 P), (626, ob626 P), (627, ob627 P), (628, ob628 P), (629, ob629 P), (630, ob630 P), (631, ob631 P), (632, ob632 P), (633, ob633 P), (634, ob634 P), (635, ob635 P), (636, ob636 P), (637, ob637 P), (638, ob638 P), (639, ob639 P), (640, ob640 P), (641, ob641 P), (642, ob642 P), (643, ob643 P), (644, ob644 P), (645, ob645 P), (646, ob646 P), (647, ob647 P), (648, ob648 P), (649, ob649 P), (650, ob650 P), (651, ob651 P), (652, ob652 P), (653, ob653 P), (654, ob654 P), (655, ob655 P), (656, ob656 P), (657, ob657 P), (658, ob658 P), (659, ob659 P), (660, ob660 P), (661, ob661 P), (662, ob662 P), (663, ob663 P), (664, ob664 P), (665, ob665 P), (666, ob666 P), (667, ob667 P), (668, ob668 P), (669, ob669 P), (670, ob670 P), (671, ob671 P), (672, ob672 P), (673, ob673 P), (674, ob674 P), (675, ob675 P), (676, ob676 P), (677, ob677 P), (678, ob678 P), (679, ob679 P), (680, ob680 P), (681, ob681 P), (682, ob682 P), (683, ob683 P), (684, ob684 P), (685, ob685 P), (686, ob686 P), (687, ob687 P), (688, ob688 P), (689, ob689 P), (690, ob690 P), (691, ob691 P), (692, ob692 P), (693, ob693 P), (694, ob694 P), (695, ob695 P), (696, ob696 P), (697, ob697 P), (698, ob698 P), (699, ob699 P), (700, ob700 P), (701, ob701 P), (702, ob702 P), (703, ob703 P), (704, ob704 P), (705, ob705 P), (706, ob706 P), (707, ob707 P), (708, ob708 P), (709, ob709 P), (710, ob710 P), (711, ob711 P), (712, ob712 P), (713, ob713 P), (714, ob714 P), (715, ob715 P), (716, ob716 P), (717, ob717 P), (718, ob718 P), (719, ob719 P), (720, ob720 P), (721, ob721 P), (722, ob722 P), (723, ob723 P), (724, ob724 P), (725, ob725 P), (726, ob726 P), (727, ob727 P), (728, ob728 P), (729, ob729 P), (730, ob730 P), (731, ob731 P), (732, ob732 P), (733, ob733 P), (734, ob734 P), (735, ob735 P), (736, ob736 P), (737, ob737 P), (738, ob738 P), (739, ob739 P), (740, ob740 P), (741, ob741 P), (742, ob742 P), (743, ob743 P), (744, ob744 P), (745, ob745 P), (746, ob746 P), (747, ob747 P), (748, ob748 P), (749, ob749 P), (750, ob750 P), (751, ob751 P), (752, ob752 P), (753, ob753 P), (754, ob754 P), (755, ob755 P), (756, ob756 P), (757, ob757 P), (758, ob758 P), (759, ob759 P), (760, ob760 P), (761, ob761 P), (762, ob762 P), (763, ob763 P), (764, ob764 P), (765, ob765 P), (766, ob766 P), (767, ob767 P), (768, ob768 P), (769, ob769 P), (775, ob775 P), (776, ob776 P), (782, ob782 P), (783, ob783 P), (789, ob789 P), (790, ob790 P), (796, ob796 P), (797, ob797 P), (803, ob803 P), (804, ob804 P), (810, ob810 P), (811, ob811 P)]

/-! the objects on the way -/
noncomputable def ma3 (P : Params) : Obj := ⟨.type "dict", none, .dict #[⟨PyData.keyHash P (tx [95, 95, 110, 97, 109, 101, 95, 95]), .str (tx [95, 95, 110, 97, 109, 101, 95, 95]) 165, .str (tx [115, 110, 111, 119, 98, 97, 108, 108, 115, 116, 101, 109, 109, 101, 114, 46, 103, 101, 114, 109, 97, 110, 95, 115, 116, 101, 109, 109, 101, 114]) 471⟩, ⟨PyData.keyHash P (tx [95, 95, 100, 111, 99, 95, 95]), .str (tx [95, 95, 100, 111, 99, 95, 95]) 166, .none⟩, ⟨PyData.keyHash P (tx [95, 95, 112, 97, 99, 107, 97, 103, 101, 95, 95]), .str (tx [95, 95, 112, 97, 99, 107, 97, 103, 101, 95, 95]) 167, .none⟩, ⟨PyData.keyHash P (tx [95, 95, 108, 111, 97, 100, 101, 114, 95, 95]), .str (tx [95, 95, 108, 111, 97, 100, 101, 114, 95, 95]) 168, .builtin "__main__.__loader__#opaque"⟩, ⟨PyData.keyHash P (tx [95, 95, 115, 112, 101, 99, 95, 95]), .str (tx [95, 95, 115, 112, 101, 99, 95, 95]) 169, .none⟩, ⟨PyData.keyHash P (tx [95, 95, 97, 110, 110, 111, 116, 97, 116, 105, 111, 110, 115, 95, 95]), .str (tx [95, 95, 97, 110, 110, 111, 116, 97, 116, 105, 111, 110, 115, 95, 95]) 170, .ref 6⟩, ⟨PyData.keyHash P (tx [95, 95, 98, 117, 105, 108, 116, 105, 110, 115, 95, 95]), .str (tx [95, 95, 98, 117, 105, 108, 116, 105, 110, 115, 95, 95]) 171, .ref 4⟩, ⟨PyData.keyHash P (tx [95, 95, 102, 105, 108, 101, 95, 95]), .str (tx [95, 95, 102, 105, 108, 101, 95, 95]) 173, .str (tx [47, 99, 108, 97, 105, 109, 47, 99, 117, 116, 46, 112, 121]) 172⟩, ⟨PyData.keyHash P (tx [95, 95, 99, 97, 99, 104, 101, 100, 95, 95]), .str (tx [95, 95, 99, 97, 99, 104, 101, 100, 95, 95]) 174, .none⟩, ⟨PyData.keyHash P (tx [95, 119, 97, 108, 108]), .str (tx [95, 119, 97, 108, 108]) 193, .ref 21⟩, ⟨PyData.keyHash P (tx [66, 97, 115, 101, 83, 116, 101, 109, 109, 101, 114]), .str (tx [66, 97, 115, 101, 83, 116, 101, 109, 109, 101, 114]) 435, .ref 197⟩, ⟨PyData.keyHash P (tx [65, 109, 111, 110, 103]), .str (tx [65, 109, 111, 110, 103]) 470, .ref 218⟩] 12, #[]⟩
noncomputable def ma11 (P : Params) : Obj := ⟨.type "tuple", none, .seq #[] 0, #[]⟩
noncomputable def ma12 (P : Params) : Obj := ⟨.none, none, .fields #[.int 1 0, .int 0 0, .ref 20, .int 5 0, .int 0 0, .ref 27, .int 203 0, .int 0 0, .ref 207, .int 210 0, .int 0 0, .ref 228], #[]⟩
noncomputable def ma13 (P : Params) : Obj := ⟨.type "code", none, .fields #[.str (tx [60, 109, 111, 100, 117, 108, 101, 62]) 182, .str (tx [60, 109, 111, 100, 117, 108, 101, 62]) 183, .str (tx [47, 99, 108, 97, 105, 109, 47, 99, 117, 116, 46, 112, 121]) 184, .int 1 0, .int 0 0, .int 0 0, .int 0 0, .int 0 0, .ref 11, .bool false, .int 181 0, .ref 12, .none, .none, .none, .none, .int 185 0, .int 1 0, .str (tx [47, 99, 108, 97, 105, 109, 47, 99, 117, 116, 46, 112, 121]) 186], #[]⟩
noncomputable def ma14 (P : Params) : Obj := ⟨.type "frame", none, .plain, #[some (.ref 13), some (.ref 3), some (.ref 3), none, some (.str (tx [95, 95, 109, 97, 105, 110, 95, 95]) 164), none, some (.ref 0)]⟩
noncomputable def ma15 (P : Params) : Obj := ⟨.type "tuple", none, .seq #[] 0, #[]⟩
noncomputable def ma16 (P : Params) : Obj := ⟨.none, none, .fields #[], #[]⟩
noncomputable def ma17 (P : Params) : Obj := ⟨.type "tuple", none, .seq #[.str (tx [107]) 190] 0, #[]⟩
noncomputable def ma18 (P : Params) : Obj := ⟨.type "tuple", none, .seq #[] 0, #[]⟩
noncomputable def ma19 (P : Params) : Obj := ⟨.none, none, .func (fnTo (stAt 0) (tx [95, 119, 97, 108, 108]) (.none) (.none) (.none)), #[]⟩
noncomputable def ma22 (P : Params) : Obj := ⟨.type "tuple", none, .seq #[] 0, #[]⟩
noncomputable def ma23 (P : Params) : Obj := ⟨.type "builtin_function_or_method", none, .fields #[.builtin "type.__prepare__", .type "type"], #[]⟩
noncomputable def ma24 (P : Params) : Obj := ⟨.type "dict", none, .dict #[⟨PyData.keyHash P (tx [95, 95, 109, 111, 100, 117, 108, 101, 95, 95]), .str (tx [95, 95, 109, 111, 100, 117, 108, 101, 95, 95]) 203, .str (tx [115, 110, 111, 119, 98, 97, 108, 108, 115, 116, 101, 109, 109, 101, 114, 46, 98, 97, 115, 101, 115, 116, 101, 109, 109, 101, 114]) 194⟩, ⟨PyData.keyHash P (tx [95, 95, 113, 117, 97, 108, 110, 97, 109, 101, 95, 95]), .str (tx [95, 95, 113, 117, 97, 108, 110, 97, 109, 101, 95, 95]) 205, .str (tx [66, 97, 115, 101, 83, 116, 101, 109, 109, 101, 114]) 204⟩, ⟨PyData.keyHash P (tx [95, 95, 102, 105, 114, 115, 116, 108, 105, 110, 101, 110, 111, 95, 95]), .str (tx [95, 95, 102, 105, 114, 115, 116, 108, 105, 110, 101, 110, 111, 95, 95]) 207, .int 5 206⟩, ⟨PyData.keyHash P (tx [95, 95, 105, 110, 105, 116, 95, 95]), .str (tx [95, 95, 105, 110, 105, 116, 95, 95]) 214, .ref 35⟩, ⟨PyData.keyHash P (tx [115, 101, 116, 95, 99, 117, 114, 114, 101, 110, 116]), .str (tx [115, 101, 116, 95, 99, 117, 114, 114, 101, 110, 116]) 222, .ref 42⟩, ⟨PyData.keyHash P (tx [103, 101, 116, 95, 99, 117, 114, 114, 101, 110, 116]), .str (tx [103, 101, 116, 95, 99, 117, 114, 114, 101, 110, 116]) 229, .ref 49⟩, ⟨PyData.keyHash P (tx [99, 111, 112, 121, 95, 102, 114, 111, 109]), .str (tx [99, 111, 112, 121, 95, 102, 114, 111, 109]) 237, .ref 56⟩, ⟨PyData.keyHash P (tx [105, 110, 95, 103, 114, 111, 117, 112, 105, 110, 103]), .str (tx [105, 110, 95, 103, 114, 111, 117, 112, 105, 110, 103]) 245, .ref 63⟩, ⟨PyData.keyHash P (tx [103, 111, 95, 105, 110, 95, 103, 114, 111, 117, 112, 105, 110, 103]), .str (tx [103, 111, 95, 105, 110, 95, 103, 114, 111, 117, 112, 105, 110, 103]) 253, .ref 70⟩, ⟨PyData.keyHash P (tx [105, 110, 95, 103, 114, 111, 117, 112, 105, 110, 103, 95, 98]), .str (tx [105, 110, 95, 103, 114, 111, 117, 112, 105, 110, 103, 95, 98]) 261, .ref 77⟩, ⟨PyData.keyHash P (tx [103, 111, 95, 105, 110, 95, 103, 114, 111, 117, 112, 105, 110, 103, 95, 98]), .str (tx [103, 111, 95, 105, 110, 95, 103, 114, 111, 117, 112, 105, 110, 103, 95, 98]) 269, .ref 84⟩, ⟨PyData.keyHash P (tx [111, 117, 116, 95, 103, 114, 111, 117, 112, 105, 110, 103]), .str (tx [111, 117, 116, 95, 103, 114, 111, 117, 112, 105, 110, 103]) 277, .ref 91⟩, ⟨PyData.keyHash P (tx [103, 111, 95, 111, 117, 116, 95, 103, 114, 111, 117, 112, 105, 110, 103]), .str (tx [103, 111, 95, 111, 117, 116, 95, 103, 114, 111, 117, 112, 105, 110, 103]) 285, .ref 98⟩, ⟨PyData.keyHash P (tx [111, 117, 116, 95, 103, 114, 111, 117, 112, 105, 110, 103, 95, 98]), .str (tx [111, 117, 116, 95, 103, 114, 111, 117, 112, 105, 110, 103, 95, 98]) 293, .ref 105⟩, ⟨PyData.keyHash P (tx [103, 111, 95, 111, 117, 116, 95, 103, 114, 111, 117, 112, 105, 110, 103, 95, 98]), .str (tx [103, 111, 95, 111, 117, 116, 95, 103, 114, 111, 117, 112, 105, 110, 103, 95, 98]) 301, .ref 112⟩, ⟨PyData.keyHash P (tx [101, 113, 95, 115]), .str (tx [101, 113, 95, 115]) 309, .ref 119⟩, ⟨PyData.keyHash P (tx [101, 113, 95, 115, 95, 98]), .str (tx [101, 113, 95, 115, 95, 98]) 317, .ref 126⟩, ⟨PyData.keyHash P (tx [102, 105, 110, 100, 95, 97, 109, 111, 110, 103]), .str (tx [102, 105, 110, 100, 95, 97, 109, 111, 110, 103]) 337, .ref 133⟩, ⟨PyData.keyHash P (tx [102, 105, 110, 100, 95, 97, 109, 111, 110, 103, 95, 98]), .str (tx [102, 105, 110, 100, 95, 97, 109, 111, 110, 103, 95, 98]) 357, .ref 140⟩, ⟨PyData.keyHash P (tx [114, 101, 112, 108, 97, 99, 101, 95, 115]), .str (tx [114, 101, 112, 108, 97, 99, 101, 95, 115]) 368, .ref 147⟩, ⟨PyData.keyHash P (tx [115, 108, 105, 99, 101, 95, 102, 114, 111, 109]), .str (tx [115, 108, 105, 99, 101, 95, 102, 114, 111, 109]) 376, .ref 154⟩, ⟨PyData.keyHash P (tx [115, 108, 105, 99, 101, 95, 100, 101, 108]), .str (tx [115, 108, 105, 99, 101, 95, 100, 101, 108]) 383, .ref 161⟩, ⟨PyData.keyHash P (tx [105, 110, 115, 101, 114, 116]), .str (tx [105, 110, 115, 101, 114, 116]) 393, .ref 168⟩, ⟨PyData.keyHash P (tx [115, 108, 105, 99, 101, 95, 116, 111]), .str (tx [115, 108, 105, 99, 101, 95, 116, 111]) 400, .ref 175⟩, ⟨PyData.keyHash P (tx [97, 115, 115, 105, 103, 110, 95, 116, 111]), .str (tx [97, 115, 115, 105, 103, 110, 95, 116, 111]) 407, .ref 182⟩, ⟨PyData.keyHash P (tx [115, 116, 101, 109, 87, 111, 114, 100]), .str (tx [115, 116, 101, 109, 87, 111, 114, 100]) 415, .ref 189⟩, ⟨PyData.keyHash P (tx [115, 116, 101, 109, 87, 111, 114, 100, 115]), .str (tx [115, 116, 101, 109, 87, 111, 114, 100, 115]) 421, .ref 194⟩, ⟨PyData.keyHash P (tx [95, 95, 115, 116, 97, 116, 105, 99, 95, 97, 116, 116, 114, 105, 98, 117, 116, 101, 115, 95, 95]), .str (tx [95, 95, 115, 116, 97, 116, 105, 99, 95, 97, 116, 116, 114, 105, 98, 117, 116, 101, 115, 95, 95]) 428, .ref 195⟩] 28, #[]⟩
noncomputable def ma25 (P : Params) : Obj := ⟨.type "tuple", none, .seq #[] 0, #[]⟩
noncomputable def ma26 (P : Params) : Obj := ⟨.none, none, .fields #[.int 7 0, .int 4 0, .ref 34, .int 10 0, .int 4 0, .ref 41, .int 18 0, .int 4 0, .ref 48, .int 21 0, .int 4 0, .ref 55, .int 24 0, .int 4 0, .ref 62, .int 32 0, .int 4 0, .ref 69, .int 39 0, .int 4 0, .ref 76, .int 47 0, .int 4 0, .ref 83, .int 50 0, .int 4 0, .ref 90, .int 53 0, .int 4 0, .ref 97, .int 60 0, .int 4 0, .ref 104, .int 63 0, .int 4 0, .ref 111, .int 66 0, .int 4 0, .ref 118, .int 69 0, .int 4 0, .ref 125, .int 75 0, .int 4 0, .ref 132, .int 120 0, .int 4 0, .ref 139, .int 165 0, .int 4 0, .ref 146, .int 175 0, .int 4 0, .ref 153, .int 183 0, .int 4 0, .ref 160, .int 186 0, .int 4 0, .ref 167, .int 189 0, .int 4 0, .ref 174, .int 192 0, .int 4 0, .ref 181, .int 195 0, .int 4 0, .ref 188, .int 200 0, .int 4 0, .ref 193], #[]⟩
noncomputable def ma27 (P : Params) : Obj := ⟨.type "code", none, .fields #[.str (tx [66, 97, 115, 101, 83, 116, 101, 109, 109, 101, 114]) 198, .str (tx [66, 97, 115, 101, 83, 116, 101, 109, 109, 101, 114]) 199, .str (tx [47, 99, 108, 97, 105, 109, 47, 99, 117, 116, 46, 112, 121]) 200, .int 5 0, .int 0 0, .int 0 0, .int 0 0, .int 0 0, .ref 25, .bool false, .int 181 0, .ref 26, .none, .none, .none, .none, .int 201 0, .int 5 0, .str (tx [47, 99, 108, 97, 105, 109, 47, 99, 117, 116, 46, 112, 121]) 202], #[]⟩
noncomputable def ma28 (P : Params) : Obj := ⟨.type "frame", none, .plain, #[some (.ref 27), some (.ref 3), some (.ref 24), none, some (.str (tx [115, 110, 111, 119, 98, 97, 108, 108, 115, 116, 101, 109, 109, 101, 114, 46, 98, 97, 115, 101, 115, 116, 101, 109, 109, 101, 114]) 194), none, some (.ref 0)]⟩
noncomputable def ma29 (P : Params) : Obj := ⟨.type "tuple", none, .seq #[] 0, #[]⟩
noncomputable def ma30 (P : Params) : Obj := ⟨.none, none, .fields #[], #[]⟩
noncomputable def ma31 (P : Params) : Obj := ⟨.type "tuple", none, .seq #[.str (tx [115, 101, 108, 102]) 211] 0, #[]⟩
noncomputable def ma32 (P : Params) : Obj := ⟨.type "tuple", none, .seq #[] 0, #[]⟩
noncomputable def ma33 (P : Params) : Obj := ⟨.none, none, .func (fnTo (stIn 2 0) (tx [66, 97, 115, 101, 83, 116, 101, 109, 109, 101, 114, 46, 95, 95, 105, 110, 105, 116, 95, 95]) (.none) (.none) (.none)), #[]⟩
noncomputable def ma36 (P : Params) : Obj := ⟨.type "tuple", none, .seq #[] 0, #[]⟩
noncomputable def ma37 (P : Params) : Obj := ⟨.none, none, .fields #[], #[]⟩
noncomputable def ma38 (P : Params) : Obj := ⟨.type "tuple", none, .seq #[.str (tx [115, 101, 108, 102]) 218, .str (tx [118, 97, 108, 117, 101]) 219] 0, #[]⟩
noncomputable def ma39 (P : Params) : Obj := ⟨.type "tuple", none, .seq #[] 0, #[]⟩
noncomputable def ma40 (P : Params) : Obj := ⟨.none, none, .func (fnTo (stIn 2 1) (tx [66, 97, 115, 101, 83, 116, 101, 109, 109, 101, 114, 46, 115, 101, 116, 95, 99, 117, 114, 114, 101, 110, 116]) (.none) (.none) (.none)), #[]⟩
noncomputable def ma43 (P : Params) : Obj := ⟨.type "tuple", none, .seq #[] 0, #[]⟩
noncomputable def ma44 (P : Params) : Obj := ⟨.none, none, .fields #[], #[]⟩
noncomputable def ma45 (P : Params) : Obj := ⟨.type "tuple", none, .seq #[.str (tx [115, 101, 108, 102]) 226] 0, #[]⟩
noncomputable def ma46 (P : Params) : Obj := ⟨.type "tuple", none, .seq #[] 0, #[]⟩
noncomputable def ma47 (P : Params) : Obj := ⟨.none, none, .func (fnTo (stIn 2 2) (tx [66, 97, 115, 101, 83, 116, 101, 109, 109, 101, 114, 46, 103, 101, 116, 95, 99, 117, 114, 114, 101, 110, 116]) (.none) (.none) (.none)), #[]⟩
noncomputable def ma50 (P : Params) : Obj := ⟨.type "tuple", none, .seq #[] 0, #[]⟩
noncomputable def ma51 (P : Params) : Obj := ⟨.none, none, .fields #[], #[]⟩
noncomputable def ma52 (P : Params) : Obj := ⟨.type "tuple", none, .seq #[.str (tx [115, 101, 108, 102]) 233, .str (tx [111, 116, 104, 101, 114]) 234] 0, #[]⟩
noncomputable def ma53 (P : Params) : Obj := ⟨.type "tuple", none, .seq #[] 0, #[]⟩
noncomputable def ma54 (P : Params) : Obj := ⟨.none, none, .func (fnTo (stIn 2 3) (tx [66, 97, 115, 101, 83, 116, 101, 109, 109, 101, 114, 46, 99, 111, 112, 121, 95, 102, 114, 111, 109]) (.none) (.none) (.none)), #[]⟩
noncomputable def ma57 (P : Params) : Obj := ⟨.type "tuple", none, .seq #[] 0, #[]⟩
noncomputable def ma58 (P : Params) : Obj := ⟨.none, none, .fields #[], #[]⟩
noncomputable def ma59 (P : Params) : Obj := ⟨.type "tuple", none, .seq #[.str (tx [115, 101, 108, 102]) 241, .str (tx [115]) 242] 0, #[]⟩
noncomputable def ma60 (P : Params) : Obj := ⟨.type "tuple", none, .seq #[] 0, #[]⟩
noncomputable def ma61 (P : Params) : Obj := ⟨.none, none, .func (fnTo (stIn 2 4) (tx [66, 97, 115, 101, 83, 116, 101, 109, 109, 101, 114, 46, 105, 110, 95, 103, 114, 111, 117, 112, 105, 110, 103]) (.none) (.none) (.none)), #[]⟩
noncomputable def ma64 (P : Params) : Obj := ⟨.type "tuple", none, .seq #[] 0, #[]⟩
noncomputable def ma65 (P : Params) : Obj := ⟨.none, none, .fields #[], #[]⟩
noncomputable def ma66 (P : Params) : Obj := ⟨.type "tuple", none, .seq #[.str (tx [115, 101, 108, 102]) 249, .str (tx [115]) 250] 0, #[]⟩
noncomputable def ma67 (P : Params) : Obj := ⟨.type "tuple", none, .seq #[] 0, #[]⟩
noncomputable def ma68 (P : Params) : Obj := ⟨.none, none, .func (fnTo (stIn 2 5) (tx [66, 97, 115, 101, 83, 116, 101, 109, 109, 101, 114, 46, 103, 111, 95, 105, 110, 95, 103, 114, 111, 117, 112, 105, 110, 103]) (.none) (.none) (.none)), #[]⟩
noncomputable def ma71 (P : Params) : Obj := ⟨.type "tuple", none, .seq #[] 0, #[]⟩
noncomputable def ma72 (P : Params) : Obj := ⟨.none, none, .fields #[], #[]⟩
noncomputable def ma73 (P : Params) : Obj := ⟨.type "tuple", none, .seq #[.str (tx [115, 101, 108, 102]) 257, .str (tx [115]) 258] 0, #[]⟩
noncomputable def ma74 (P : Params) : Obj := ⟨.type "tuple", none, .seq #[] 0, #[]⟩
noncomputable def ma75 (P : Params) : Obj := ⟨.none, none, .func (fnTo (stIn 2 6) (tx [66, 97, 115, 101, 83, 116, 101, 109, 109, 101, 114, 46, 105, 110, 95, 103, 114, 111, 117, 112, 105, 110, 103, 95, 98]) (.none) (.none) (.none)), #[]⟩
noncomputable def ma78 (P : Params) : Obj := ⟨.type "tuple", none, .seq #[] 0, #[]⟩
noncomputable def ma79 (P : Params) : Obj := ⟨.none, none, .fields #[], #[]⟩
noncomputable def ma80 (P : Params) : Obj := ⟨.type "tuple", none, .seq #[.str (tx [115, 101, 108, 102]) 265, .str (tx [115]) 266] 0, #[]⟩
noncomputable def ma81 (P : Params) : Obj := ⟨.type "tuple", none, .seq #[] 0, #[]⟩
noncomputable def ma82 (P : Params) : Obj := ⟨.none, none, .func (fnTo (stIn 2 7) (tx [66, 97, 115, 101, 83, 116, 101, 109, 109, 101, 114, 46, 103, 111, 95, 105, 110, 95, 103, 114, 111, 117, 112, 105, 110, 103, 95, 98]) (.none) (.none) (.none)), #[]⟩
noncomputable def ma85 (P : Params) : Obj := ⟨.type "tuple", none, .seq #[] 0, #[]⟩
noncomputable def ma86 (P : Params) : Obj := ⟨.none, none, .fields #[], #[]⟩
noncomputable def ma87 (P : Params) : Obj := ⟨.type "tuple", none, .seq #[.str (tx [115, 101, 108, 102]) 273, .str (tx [115]) 274] 0, #[]⟩
noncomputable def ma88 (P : Params) : Obj := ⟨.type "tuple", none, .seq #[] 0, #[]⟩
noncomputable def ma89 (P : Params) : Obj := ⟨.none, none, .func (fnTo (stIn 2 8) (tx [66, 97, 115, 101, 83, 116, 101, 109, 109, 101, 114, 46, 111, 117, 116, 95, 103, 114, 111, 117, 112, 105, 110, 103]) (.none) (.none) (.none)), #[]⟩
noncomputable def ma92 (P : Params) : Obj := ⟨.type "tuple", none, .seq #[] 0, #[]⟩
noncomputable def ma93 (P : Params) : Obj := ⟨.none, none, .fields #[], #[]⟩
noncomputable def ma94 (P : Params) : Obj := ⟨.type "tuple", none, .seq #[.str (tx [115, 101, 108, 102]) 281, .str (tx [115]) 282] 0, #[]⟩
noncomputable def ma95 (P : Params) : Obj := ⟨.type "tuple", none, .seq #[] 0, #[]⟩
noncomputable def ma96 (P : Params) : Obj := ⟨.none, none, .func (fnTo (stIn 2 9) (tx [66, 97, 115, 101, 83, 116, 101, 109, 109, 101, 114, 46, 103, 111, 95, 111, 117, 116, 95, 103, 114, 111, 117, 112, 105, 110, 103]) (.none) (.none) (.none)), #[]⟩
noncomputable def ma99 (P : Params) : Obj := ⟨.type "tuple", none, .seq #[] 0, #[]⟩
noncomputable def ma100 (P : Params) : Obj := ⟨.none, none, .fields #[], #[]⟩
noncomputable def ma101 (P : Params) : Obj := ⟨.type "tuple", none, .seq #[.str (tx [115, 101, 108, 102]) 289, .str (tx [115]) 290] 0, #[]⟩
noncomputable def ma102 (P : Params) : Obj := ⟨.type "tuple", none, .seq #[] 0, #[]⟩
noncomputable def ma103 (P : Params) : Obj := ⟨.none, none, .func (fnTo (stIn 2 10) (tx [66, 97, 115, 101, 83, 116, 101, 109, 109, 101, 114, 46, 111, 117, 116, 95, 103, 114, 111, 117, 112, 105, 110, 103, 95, 98]) (.none) (.none) (.none)), #[]⟩
noncomputable def ma106 (P : Params) : Obj := ⟨.type "tuple", none, .seq #[] 0, #[]⟩
noncomputable def ma107 (P : Params) : Obj := ⟨.none, none, .fields #[], #[]⟩
noncomputable def ma108 (P : Params) : Obj := ⟨.type "tuple", none, .seq #[.str (tx [115, 101, 108, 102]) 297, .str (tx [115]) 298] 0, #[]⟩
noncomputable def ma109 (P : Params) : Obj := ⟨.type "tuple", none, .seq #[] 0, #[]⟩
noncomputable def ma110 (P : Params) : Obj := ⟨.none, none, .func (fnTo (stIn 2 11) (tx [66, 97, 115, 101, 83, 116, 101, 109, 109, 101, 114, 46, 103, 111, 95, 111, 117, 116, 95, 103, 114, 111, 117, 112, 105, 110, 103, 95, 98]) (.none) (.none) (.none)), #[]⟩
noncomputable def ma113 (P : Params) : Obj := ⟨.type "tuple", none, .seq #[] 0, #[]⟩
noncomputable def ma114 (P : Params) : Obj := ⟨.none, none, .fields #[], #[]⟩
noncomputable def ma115 (P : Params) : Obj := ⟨.type "tuple", none, .seq #[.str (tx [115, 101, 108, 102]) 305, .str (tx [115]) 306] 0, #[]⟩
noncomputable def ma116 (P : Params) : Obj := ⟨.type "tuple", none, .seq #[] 0, #[]⟩
noncomputable def ma117 (P : Params) : Obj := ⟨.none, none, .func (fnTo (stIn 2 12) (tx [66, 97, 115, 101, 83, 116, 101, 109, 109, 101, 114, 46, 101, 113, 95, 115]) (.none) (.none) (.none)), #[]⟩
noncomputable def ma120 (P : Params) : Obj := ⟨.type "tuple", none, .seq #[] 0, #[]⟩
noncomputable def ma121 (P : Params) : Obj := ⟨.none, none, .fields #[], #[]⟩
noncomputable def ma122 (P : Params) : Obj := ⟨.type "tuple", none, .seq #[.str (tx [115, 101, 108, 102]) 313, .str (tx [115]) 314] 0, #[]⟩
noncomputable def ma123 (P : Params) : Obj := ⟨.type "tuple", none, .seq #[] 0, #[]⟩
noncomputable def ma124 (P : Params) : Obj := ⟨.none, none, .func (fnTo (stIn 2 13) (tx [66, 97, 115, 101, 83, 116, 101, 109, 109, 101, 114, 46, 101, 113, 95, 115, 95, 98]) (.none) (.none) (.none)), #[]⟩
noncomputable def ma127 (P : Params) : Obj := ⟨.type "tuple", none, .seq #[] 0, #[]⟩
noncomputable def ma128 (P : Params) : Obj := ⟨.none, none, .fields #[], #[]⟩
noncomputable def ma129 (P : Params) : Obj := ⟨.type "tuple", none, .seq #[.str (tx [115, 101, 108, 102]) 321, .str (tx [118]) 322, .str (tx [105]) 323, .str (tx [106]) 324, .str (tx [99]) 325, .str (tx [108]) 326, .str (tx [99, 111, 109, 109, 111, 110, 95, 105]) 327, .str (tx [99, 111, 109, 109, 111, 110, 95, 106]) 328, .str (tx [102, 105, 114, 115, 116, 95, 107, 101, 121, 95, 105, 110, 115, 112, 101, 99, 116, 101, 100]) 329, .str (tx [107]) 330, .str (tx [100, 105, 102, 102]) 331, .str (tx [99, 111, 109, 109, 111, 110]) 332, .str (tx [119]) 333, .str (tx [105, 50]) 334] 0, #[]⟩
noncomputable def ma130 (P : Params) : Obj := ⟨.type "tuple", none, .seq #[] 0, #[]⟩
noncomputable def ma131 (P : Params) : Obj := ⟨.none, none, .func (fnTo (stIn 2 14) (tx [66, 97, 115, 101, 83, 116, 101, 109, 109, 101, 114, 46, 102, 105, 110, 100, 95, 97, 109, 111, 110, 103]) (.none) (.none) (.none)), #[]⟩
noncomputable def ma134 (P : Params) : Obj := ⟨.type "tuple", none, .seq #[] 0, #[]⟩
noncomputable def ma135 (P : Params) : Obj := ⟨.none, none, .fields #[], #[]⟩
noncomputable def ma136 (P : Params) : Obj := ⟨.type "tuple", none, .seq #[.str (tx [115, 101, 108, 102]) 341, .str (tx [118]) 342, .str (tx [105]) 343, .str (tx [106]) 344, .str (tx [99]) 345, .str (tx [108, 98]) 346, .str (tx [99, 111, 109, 109, 111, 110, 95, 105]) 347, .str (tx [99, 111, 109, 109, 111, 110, 95, 106]) 348, .str (tx [102, 105, 114, 115, 116, 95, 107, 101, 121, 95, 105, 110, 115, 112, 101, 99, 116, 101, 100]) 349, .str (tx [107]) 350, .str (tx [100, 105, 102, 102]) 351, .str (tx [99, 111, 109, 109, 111, 110]) 352, .str (tx [119]) 353, .str (tx [105, 50]) 354] 0, #[]⟩
noncomputable def ma137 (P : Params) : Obj := ⟨.type "tuple", none, .seq #[] 0, #[]⟩
noncomputable def ma138 (P : Params) : Obj := ⟨.none, none, .func (fnTo (stIn 2 15) (tx [66, 97, 115, 101, 83, 116, 101, 109, 109, 101, 114, 46, 102, 105, 110, 100, 95, 97, 109, 111, 110, 103, 95, 98]) (.none) (.none) (.none)), #[]⟩
noncomputable def ma141 (P : Params) : Obj := ⟨.type "tuple", none, .seq #[] 0, #[]⟩
noncomputable def ma142 (P : Params) : Obj := ⟨.none, none, .fields #[], #[]⟩
noncomputable def ma143 (P : Params) : Obj := ⟨.type "tuple", none, .seq #[.str (tx [115, 101, 108, 102]) 361, .str (tx [99, 95, 98, 114, 97]) 362, .str (tx [99, 95, 107, 101, 116]) 363, .str (tx [115]) 364, .str (tx [97, 100, 106, 117, 115, 116, 109, 101, 110, 116]) 365] 0, #[]⟩
noncomputable def ma144 (P : Params) : Obj := ⟨.type "tuple", none, .seq #[] 0, #[]⟩
noncomputable def ma145 (P : Params) : Obj := ⟨.none, none, .func (fnTo (stIn 2 16) (tx [66, 97, 115, 101, 83, 116, 101, 109, 109, 101, 114, 46, 114, 101, 112, 108, 97, 99, 101, 95, 115]) (.none) (.none) (.none)), #[]⟩
noncomputable def ma148 (P : Params) : Obj := ⟨.type "tuple", none, .seq #[] 0, #[]⟩
noncomputable def ma149 (P : Params) : Obj := ⟨.none, none, .fields #[], #[]⟩
noncomputable def ma150 (P : Params) : Obj := ⟨.type "tuple", none, .seq #[.str (tx [115, 101, 108, 102]) 372, .str (tx [115]) 373] 0, #[]⟩
noncomputable def ma151 (P : Params) : Obj := ⟨.type "tuple", none, .seq #[] 0, #[]⟩
noncomputable def ma152 (P : Params) : Obj := ⟨.none, none, .func (fnTo (stIn 2 17) (tx [66, 97, 115, 101, 83, 116, 101, 109, 109, 101, 114, 46, 115, 108, 105, 99, 101, 95, 102, 114, 111, 109]) (.none) (.none) (.none)), #[]⟩
noncomputable def ma155 (P : Params) : Obj := ⟨.type "tuple", none, .seq #[] 0, #[]⟩
noncomputable def ma156 (P : Params) : Obj := ⟨.none, none, .fields #[], #[]⟩
noncomputable def ma157 (P : Params) : Obj := ⟨.type "tuple", none, .seq #[.str (tx [115, 101, 108, 102]) 380] 0, #[]⟩
noncomputable def ma158 (P : Params) : Obj := ⟨.type "tuple", none, .seq #[] 0, #[]⟩
noncomputable def ma159 (P : Params) : Obj := ⟨.none, none, .func (fnTo (stIn 2 18) (tx [66, 97, 115, 101, 83, 116, 101, 109, 109, 101, 114, 46, 115, 108, 105, 99, 101, 95, 100, 101, 108]) (.none) (.none) (.none)), #[]⟩
noncomputable def ma162 (P : Params) : Obj := ⟨.type "tuple", none, .seq #[] 0, #[]⟩
noncomputable def ma163 (P : Params) : Obj := ⟨.none, none, .fields #[], #[]⟩
noncomputable def ma164 (P : Params) : Obj := ⟨.type "tuple", none, .seq #[.str (tx [115, 101, 108, 102]) 387, .str (tx [99, 95, 98, 114, 97]) 388, .str (tx [99, 95, 107, 101, 116]) 389, .str (tx [115]) 390] 0, #[]⟩
noncomputable def ma165 (P : Params) : Obj := ⟨.type "tuple", none, .seq #[] 0, #[]⟩
noncomputable def ma166 (P : Params) : Obj := ⟨.none, none, .func (fnTo (stIn 2 19) (tx [66, 97, 115, 101, 83, 116, 101, 109, 109, 101, 114, 46, 105, 110, 115, 101, 114, 116]) (.none) (.none) (.none)), #[]⟩
noncomputable def ma169 (P : Params) : Obj := ⟨.type "tuple", none, .seq #[] 0, #[]⟩
noncomputable def ma170 (P : Params) : Obj := ⟨.none, none, .fields #[], #[]⟩
noncomputable def ma171 (P : Params) : Obj := ⟨.type "tuple", none, .seq #[.str (tx [115, 101, 108, 102]) 397] 0, #[]⟩
noncomputable def ma172 (P : Params) : Obj := ⟨.type "tuple", none, .seq #[] 0, #[]⟩
noncomputable def ma173 (P : Params) : Obj := ⟨.none, none, .func (fnTo (stIn 2 20) (tx [66, 97, 115, 101, 83, 116, 101, 109, 109, 101, 114, 46, 115, 108, 105, 99, 101, 95, 116, 111]) (.none) (.none) (.none)), #[]⟩
noncomputable def ma176 (P : Params) : Obj := ⟨.type "tuple", none, .seq #[] 0, #[]⟩
noncomputable def ma177 (P : Params) : Obj := ⟨.none, none, .fields #[], #[]⟩
noncomputable def ma178 (P : Params) : Obj := ⟨.type "tuple", none, .seq #[.str (tx [115, 101, 108, 102]) 404] 0, #[]⟩
noncomputable def ma179 (P : Params) : Obj := ⟨.type "tuple", none, .seq #[] 0, #[]⟩
noncomputable def ma180 (P : Params) : Obj := ⟨.none, none, .func (fnTo (stIn 2 21) (tx [66, 97, 115, 101, 83, 116, 101, 109, 109, 101, 114, 46, 97, 115, 115, 105, 103, 110, 95, 116, 111]) (.none) (.none) (.none)), #[]⟩
noncomputable def ma183 (P : Params) : Obj := ⟨.type "tuple", none, .seq #[] 0, #[]⟩
noncomputable def ma184 (P : Params) : Obj := ⟨.none, none, .fields #[], #[]⟩
noncomputable def ma185 (P : Params) : Obj := ⟨.type "tuple", none, .seq #[.str (tx [115, 101, 108, 102]) 411, .str (tx [119, 111, 114, 100]) 412] 0, #[]⟩
noncomputable def ma186 (P : Params) : Obj := ⟨.type "tuple", none, .seq #[] 0, #[]⟩
noncomputable def ma187 (P : Params) : Obj := ⟨.none, none, .func (fnTo (stIn 2 22) (tx [66, 97, 115, 101, 83, 116, 101, 109, 109, 101, 114, 46, 115, 116, 101, 109, 87, 111, 114, 100]) (.none) (.none) (.none)), #[]⟩
noncomputable def ma190 (P : Params) : Obj := ⟨.type "tuple", none, .seq #[] 0, #[]⟩
noncomputable def ma191 (P : Params) : Obj := ⟨.none, none, .fields #[], #[]⟩
noncomputable def ma192 (P : Params) : Obj := ⟨.none, none, .func (fnTo (stIn 2 23) (tx [66, 97, 115, 101, 83, 116, 101, 109, 109, 101, 114, 46, 115, 116, 101, 109, 87, 111, 114, 100, 115]) (.none) (.none) (.none)), #[]⟩
noncomputable def ma197 (P : Params) : Obj := ⟨.type "type", none, .cls ⟨tx [66, 97, 115, 101, 83, 116, 101, 109, 109, 101, 114], [.type "object"], [.ref 197, .type "object"], 196, tx [66, 97, 115, 101, 83, 116, 101, 109, 109, 101, 114], true, [], [], false, none, false⟩, #[none, none, some (.str (tx [66, 97, 115, 101, 83, 116, 101, 109, 109, 101, 114]) 196), some (.str (tx [66, 97, 115, 101, 83, 116, 101, 109, 109, 101, 114]) 204), some (.builtin "object.__new__"), some (.bool true)]⟩
noncomputable def ma198 (P : Params) : Obj := ⟨.type "getset_descriptor", none, .fields #[.str (tx [95, 95, 100, 105, 99, 116, 95, 95]) 429, .ref 197, .builtin "function.__dict__", .builtin "function.__dict__#set"], #[]⟩
noncomputable def ma199 (P : Params) : Obj := ⟨.type "getset_descriptor", none, .fields #[.str (tx [95, 95, 119, 101, 97, 107, 114, 101, 102, 95, 95]) 431, .ref 197, .builtin "ExceptionGroup.__weakref__", .none], #[]⟩
noncomputable def ma200 (P : Params) : Obj := ⟨.type "super", none, .fields #[.ref 197, .ref 197, .ref 197], #[]⟩
noncomputable def ma201 (P : Params) : Obj := ⟨.type "builtin_function_or_method", none, .fields #[.builtin "object.__init_subclass__", .ref 197], #[]⟩
noncomputable def ma202 (P : Params) : Obj := ⟨.type "tuple", none, .seq #[] 0, #[]⟩
noncomputable def ma203 (P : Params) : Obj := ⟨.type "builtin_function_or_method", none, .fields #[.builtin "type.__prepare__", .type "type"], #[]⟩
noncomputable def ma204 (P : Params) : Obj := ⟨.type "dict", none, .dict #[⟨PyData.keyHash P (tx [95, 95, 109, 111, 100, 117, 108, 101, 95, 95]), .str (tx [95, 95, 109, 111, 100, 117, 108, 101, 95, 95]) 445, .str (tx [115, 110, 111, 119, 98, 97, 108, 108, 115, 116, 101, 109, 109, 101, 114, 46, 97, 109, 111, 110, 103]) 436⟩, ⟨PyData.keyHash P (tx [95, 95, 113, 117, 97, 108, 110, 97, 109, 101, 95, 95]), .str (tx [95, 95, 113, 117, 97, 108, 110, 97, 109, 101, 95, 95]) 447, .str (tx [65, 109, 111, 110, 103]) 446⟩, ⟨PyData.keyHash P (tx [95, 95, 102, 105, 114, 115, 116, 108, 105, 110, 101, 110, 111, 95, 95]), .str (tx [95, 95, 102, 105, 114, 115, 116, 108, 105, 110, 101, 110, 111, 95, 95]) 449, .int 203 448⟩, ⟨PyData.keyHash P (tx [95, 95, 105, 110, 105, 116, 95, 95]), .str (tx [95, 95, 105, 110, 105, 116, 95, 95]) 459, .ref 215⟩, ⟨PyData.keyHash P (tx [95, 95, 115, 116, 97, 116, 105, 99, 95, 97, 116, 116, 114, 105, 98, 117, 116, 101, 115, 95, 95]), .str (tx [95, 95, 115, 116, 97, 116, 105, 99, 95, 97, 116, 116, 114, 105, 98, 117, 116, 101, 115, 95, 95]) 463, .ref 216⟩] 5, #[]⟩
noncomputable def ma205 (P : Params) : Obj := ⟨.type "tuple", none, .seq #[] 0, #[]⟩
noncomputable def ma206 (P : Params) : Obj := ⟨.none, none, .fields #[.int 205 0, .int 4 0, .ref 214], #[]⟩
noncomputable def ma207 (P : Params) : Obj := ⟨.type "code", none, .fields #[.str (tx [65, 109, 111, 110, 103]) 440, .str (tx [65, 109, 111, 110, 103]) 441, .str (tx [47, 99, 108, 97, 105, 109, 47, 99, 117, 116, 46, 112, 121]) 442, .int 203 0, .int 0 0, .int 0 0, .int 0 0, .int 0 0, .ref 205, .bool false, .int 181 0, .ref 206, .none, .none, .none, .none, .int 443 0, .int 203 0, .str (tx [47, 99, 108, 97, 105, 109, 47, 99, 117, 116, 46, 112, 121]) 444], #[]⟩
noncomputable def ma208 (P : Params) : Obj := ⟨.type "frame", none, .plain, #[some (.ref 207), some (.ref 3), some (.ref 204), none, some (.str (tx [115, 110, 111, 119, 98, 97, 108, 108, 115, 116, 101, 109, 109, 101, 114, 46, 97, 109, 111, 110, 103]) 436), none, some (.ref 0)]⟩
noncomputable def ma209 (P : Params) : Obj := ⟨.type "tuple", none, .seq #[] 0, #[]⟩
noncomputable def ma210 (P : Params) : Obj := ⟨.none, none, .fields #[], #[]⟩
noncomputable def ma211 (P : Params) : Obj := ⟨.type "tuple", none, .seq #[.str (tx [115, 101, 108, 102]) 453, .str (tx [115]) 454, .str (tx [115, 117, 98, 115, 116, 114, 105, 110, 103, 95, 105]) 455, .str (tx [114, 101, 115, 117, 108, 116]) 456] 0, #[]⟩
noncomputable def ma212 (P : Params) : Obj := ⟨.type "tuple", none, .seq #[] 0, #[]⟩
noncomputable def ma213 (P : Params) : Obj := ⟨.none, none, .func (fnTo (stIn 4 0) (tx [65, 109, 111, 110, 103, 46, 95, 95, 105, 110, 105, 116, 95, 95]) (.none) (.none) (.none)), #[]⟩
noncomputable def ma219 (P : Params) : Obj := ⟨.type "getset_descriptor", none, .fields #[.str (tx [95, 95, 100, 105, 99, 116, 95, 95]) 464, .ref 218, .builtin "function.__dict__", .builtin "function.__dict__#set"], #[]⟩
noncomputable def ma220 (P : Params) : Obj := ⟨.type "getset_descriptor", none, .fields #[.str (tx [95, 95, 119, 101, 97, 107, 114, 101, 102, 95, 95]) 466, .ref 218, .builtin "ExceptionGroup.__weakref__", .none], #[]⟩
noncomputable def ma221 (P : Params) : Obj := ⟨.type "super", none, .fields #[.ref 218, .ref 218, .ref 218], #[]⟩
noncomputable def ma222 (P : Params) : Obj := ⟨.type "builtin_function_or_method", none, .fields #[.builtin "object.__init_subclass__", .ref 218], #[]⟩
noncomputable def ma223 (P : Params) : Obj := ⟨.type "tuple", none, .seq #[.ref 197] 0, #[]⟩
noncomputable def ma224 (P : Params) : Obj := ⟨.type "builtin_function_or_method", none, .fields #[.builtin "type.__prepare__", .type "type"], #[]⟩
noncomputable def ma225 (P : Params) : Obj := ⟨.type "dict", none, .dict #[⟨PyData.keyHash P (tx [95, 95, 109, 111, 100, 117, 108, 101, 95, 95]), .str (tx [95, 95, 109, 111, 100, 117, 108, 101, 95, 95]) 480, .str (tx [115, 110, 111, 119, 98, 97, 108, 108, 115, 116, 101, 109, 109, 101, 114, 46, 103, 101, 114, 109, 97, 110, 95, 115, 116, 101, 109, 109, 101, 114]) 471⟩, ⟨PyData.keyHash P (tx [95, 95, 113, 117, 97, 108, 110, 97, 109, 101, 95, 95]), .str (tx [95, 95, 113, 117, 97, 108, 110, 97, 109, 101, 95, 95]) 482, .str (tx [71, 101, 114, 109, 97, 110, 83, 116, 101, 109, 109, 101, 114]) 481⟩, ⟨PyData.keyHash P (tx [95, 95, 102, 105, 114, 115, 116, 108, 105, 110, 101, 110, 111, 95, 95]), .str (tx [95, 95, 102, 105, 114, 115, 116, 108, 105, 110, 101, 110, 111, 95, 95]) 484, .int 210 483⟩, ⟨PyData.keyHash P (tx [103, 95, 118]), .str (tx [103, 95, 118]) 503, .ref 230⟩, ⟨PyData.keyHash P (tx [103, 95, 101, 116, 95, 101, 110, 100, 105, 110, 103]), .str (tx [103, 95, 101, 116, 95, 101, 110, 100, 105, 110, 103]) 530, .ref 231⟩, ⟨PyData.keyHash P (tx [103, 95, 115, 95, 101, 110, 100, 105, 110, 103]), .str (tx [103, 95, 115, 95, 101, 110, 100, 105, 110, 103]) 553, .ref 232⟩, ⟨PyData.keyHash P (tx [103, 95, 115, 116, 95, 101, 110, 100, 105, 110, 103]), .str (tx [103, 95, 115, 116, 95, 101, 110, 100, 105, 110, 103]) 574, .ref 233⟩, ⟨PyData.keyHash P (tx [73, 95, 112, 50]), .str (tx [73, 95, 112, 50]) 576, .int 0 575⟩, ⟨PyData.keyHash P (tx [73, 95, 112, 49]), .str (tx [73, 95, 112, 49]) 578, .int 0 577⟩, ⟨PyData.keyHash P (tx [114, 95, 112, 114, 101, 108, 117, 100, 101]), .str (tx [114, 95, 112, 114, 101, 108, 117, 100, 101]) 591, .ref 240⟩, ⟨PyData.keyHash P (tx [114, 95, 109, 97, 114, 107, 95, 114, 101, 103, 105, 111, 110, 115]), .str (tx [114, 95, 109, 97, 114, 107, 95, 114, 101, 103, 105, 111, 110, 115]) 600, .ref 247⟩, ⟨PyData.keyHash P (tx [114, 95, 112, 111, 115, 116, 108, 117, 100, 101]), .str (tx [114, 95, 112, 111, 115, 116, 108, 117, 100, 101]) 609, .ref 254⟩, ⟨PyData.keyHash P (tx [114, 95, 82, 49]), .str (tx [114, 95, 82, 49]) 616, .ref 261⟩, ⟨PyData.keyHash P (tx [114, 95, 82, 50]), .str (tx [114, 95, 82, 50]) 623, .ref 268⟩, ⟨PyData.keyHash P (tx [114, 95, 115, 116, 97, 110, 100, 97, 114, 100, 95, 115, 117, 102, 102, 105, 120]), .str (tx [114, 95, 115, 116, 97, 110, 100, 97, 114, 100, 95, 115, 117, 102, 102, 105, 120]) 641, .ref 275⟩, ⟨PyData.keyHash P (tx [95, 115, 116, 101, 109]), .str (tx [95, 115, 116, 101, 109]) 651, .ref 282⟩, ⟨PyData.keyHash P (tx [97, 95, 48]), .str (tx [97, 95, 48]) 732, .ref 301⟩, ⟨PyData.keyHash P (tx [97, 95, 49]), .str (tx [97, 95, 49]) 812, .ref 320⟩] 18, #[]⟩
noncomputable def ma226 (P : Params) : Obj := ⟨.type "tuple", none, .seq #[] 0, #[]⟩
noncomputable def ma227 (P : Params) : Obj := ⟨.none, none, .fields #[.int 218 0, .int 4 0, .ref 239, .int 290 0, .int 4 0, .ref 246, .int 321 0, .int 4 0, .ref 253, .int 347 0, .int 4 0, .ref 260, .int 350 0, .int 4 0, .ref 267, .int 353 0, .int 4 0, .ref 274, .int 532 0, .int 4 0, .ref 281], #[]⟩
noncomputable def ma228 (P : Params) : Obj := ⟨.type "code", none, .fields #[.str (tx [71, 101, 114, 109, 97, 110, 83, 116, 101, 109, 109, 101, 114]) 475, .str (tx [71, 101, 114, 109, 97, 110, 83, 116, 101, 109, 109, 101, 114]) 476, .str (tx [47, 99, 108, 97, 105, 109, 47, 99, 117, 116, 46, 112, 121]) 477, .int 210 0, .int 0 0, .int 0 0, .int 0 0, .int 0 0, .ref 226, .bool false, .int 181 0, .ref 227, .none, .none, .none, .none, .int 478 0, .int 210 0, .str (tx [47, 99, 108, 97, 105, 109, 47, 99, 117, 116, 46, 112, 121]) 479], #[]⟩
noncomputable def ma229 (P : Params) : Obj := ⟨.type "frame", none, .plain, #[some (.ref 228), some (.ref 3), some (.ref 225), none, some (.str (tx [115, 110, 111, 119, 98, 97, 108, 108, 115, 116, 101, 109, 109, 101, 114, 46, 103, 101, 114, 109, 97, 110, 95, 115, 116, 101, 109, 109, 101, 114]) 471), none, some (.ref 0)]⟩
noncomputable def ma234 (P : Params) : Obj := ⟨.type "tuple", none, .seq #[] 0, #[]⟩
noncomputable def ma235 (P : Params) : Obj := ⟨.none, none, .fields #[], #[]⟩
noncomputable def ma236 (P : Params) : Obj := ⟨.type "tuple", none, .seq #[.str (tx [115, 101, 108, 102]) 582, .str (tx [118, 95, 49]) 583, .str (tx [118, 95, 50]) 584, .str (tx [118, 95, 51]) 585, .str (tx [118, 95, 52]) 586, .str (tx [118, 95, 53]) 587, .str (tx [97, 109, 111, 110, 103, 95, 118, 97, 114]) 588] 0, #[]⟩
noncomputable def ma237 (P : Params) : Obj := ⟨.type "tuple", none, .seq #[] 0, #[]⟩
noncomputable def ma238 (P : Params) : Obj := ⟨.none, none, .func (fnTo (stIn 6 6) (tx [71, 101, 114, 109, 97, 110, 83, 116, 101, 109, 109, 101, 114, 46, 114, 95, 112, 114, 101, 108, 117, 100, 101]) (.none) (.none) (.none)), #[]⟩
noncomputable def ma241 (P : Params) : Obj := ⟨.type "tuple", none, .seq #[] 0, #[]⟩
noncomputable def ma242 (P : Params) : Obj := ⟨.none, none, .fields #[], #[]⟩
noncomputable def ma243 (P : Params) : Obj := ⟨.type "tuple", none, .seq #[.str (tx [115, 101, 108, 102]) 595, .str (tx [118, 95, 49]) 596, .str (tx [73, 95, 120]) 597] 0, #[]⟩
noncomputable def ma244 (P : Params) : Obj := ⟨.type "tuple", none, .seq #[] 0, #[]⟩
noncomputable def ma245 (P : Params) : Obj := ⟨.none, none, .func (fnTo (stIn 6 7) (tx [71, 101, 114, 109, 97, 110, 83, 116, 101, 109, 109, 101, 114, 46, 114, 95, 109, 97, 114, 107, 95, 114, 101, 103, 105, 111, 110, 115]) (.none) (.none) (.none)), #[]⟩
noncomputable def ma248 (P : Params) : Obj := ⟨.type "tuple", none, .seq #[] 0, #[]⟩
noncomputable def ma249 (P : Params) : Obj := ⟨.none, none, .fields #[], #[]⟩
noncomputable def ma250 (P : Params) : Obj := ⟨.type "tuple", none, .seq #[.str (tx [115, 101, 108, 102]) 604, .str (tx [118, 95, 49]) 605, .str (tx [97, 109, 111, 110, 103, 95, 118, 97, 114]) 606] 0, #[]⟩
noncomputable def ma251 (P : Params) : Obj := ⟨.type "tuple", none, .seq #[] 0, #[]⟩
noncomputable def ma252 (P : Params) : Obj := ⟨.none, none, .func (fnTo (stIn 6 8) (tx [71, 101, 114, 109, 97, 110, 83, 116, 101, 109, 109, 101, 114, 46, 114, 95, 112, 111, 115, 116, 108, 117, 100, 101]) (.none) (.none) (.none)), #[]⟩
noncomputable def ma255 (P : Params) : Obj := ⟨.type "tuple", none, .seq #[] 0, #[]⟩
noncomputable def ma256 (P : Params) : Obj := ⟨.none, none, .fields #[], #[]⟩
noncomputable def ma257 (P : Params) : Obj := ⟨.type "tuple", none, .seq #[.str (tx [115, 101, 108, 102]) 613] 0, #[]⟩
noncomputable def ma258 (P : Params) : Obj := ⟨.type "tuple", none, .seq #[] 0, #[]⟩
noncomputable def ma259 (P : Params) : Obj := ⟨.none, none, .func (fnTo (stIn 6 9) (tx [71, 101, 114, 109, 97, 110, 83, 116, 101, 109, 109, 101, 114, 46, 114, 95, 82, 49]) (.none) (.none) (.none)), #[]⟩
noncomputable def ma262 (P : Params) : Obj := ⟨.type "tuple", none, .seq #[] 0, #[]⟩
noncomputable def ma263 (P : Params) : Obj := ⟨.none, none, .fields #[], #[]⟩
noncomputable def ma264 (P : Params) : Obj := ⟨.type "tuple", none, .seq #[.str (tx [115, 101, 108, 102]) 620] 0, #[]⟩
noncomputable def ma265 (P : Params) : Obj := ⟨.type "tuple", none, .seq #[] 0, #[]⟩
noncomputable def ma266 (P : Params) : Obj := ⟨.none, none, .func (fnTo (stIn 6 10) (tx [71, 101, 114, 109, 97, 110, 83, 116, 101, 109, 109, 101, 114, 46, 114, 95, 82, 50]) (.none) (.none) (.none)), #[]⟩
noncomputable def ma269 (P : Params) : Obj := ⟨.type "tuple", none, .seq #[] 0, #[]⟩
noncomputable def ma270 (P : Params) : Obj := ⟨.none, none, .fields #[], #[]⟩
noncomputable def ma271 (P : Params) : Obj := ⟨.type "tuple", none, .seq #[.str (tx [115, 101, 108, 102]) 627, .str (tx [118, 95, 49]) 628, .str (tx [97, 109, 111, 110, 103, 95, 118, 97, 114]) 629, .str (tx [118, 95, 50]) 630, .str (tx [118, 95, 51]) 631, .str (tx [118, 95, 52]) 632, .str (tx [118, 95, 53]) 633, .str (tx [118, 95, 54]) 634, .str (tx [118, 95, 55]) 635, .str (tx [118, 95, 56]) 636, .str (tx [118, 95, 57]) 637, .str (tx [118, 95, 49, 48]) 638] 0, #[]⟩
noncomputable def ma272 (P : Params) : Obj := ⟨.type "tuple", none, .seq #[] 0, #[]⟩
noncomputable def ma273 (P : Params) : Obj := ⟨.none, none, .func (fnTo (stIn 6 11) (tx [71, 101, 114, 109, 97, 110, 83, 116, 101, 109, 109, 101, 114, 46, 114, 95, 115, 116, 97, 110, 100, 97, 114, 100, 95, 115, 117, 102, 102, 105, 120]) (.none) (.none) (.none)), #[]⟩
noncomputable def ma276 (P : Params) : Obj := ⟨.type "tuple", none, .seq #[] 0, #[]⟩
noncomputable def ma277 (P : Params) : Obj := ⟨.none, none, .fields #[], #[]⟩
noncomputable def ma278 (P : Params) : Obj := ⟨.type "tuple", none, .seq #[.str (tx [115, 101, 108, 102]) 645, .str (tx [118, 95, 49]) 646, .str (tx [118, 95, 50]) 647, .str (tx [118, 95, 51]) 648] 0, #[]⟩
noncomputable def ma279 (P : Params) : Obj := ⟨.type "tuple", none, .seq #[] 0, #[]⟩
noncomputable def ma280 (P : Params) : Obj := ⟨.none, none, .func (fnTo (stIn 6 12) (tx [71, 101, 114, 109, 97, 110, 83, 116, 101, 109, 109, 101, 114, 46, 95, 115, 116, 101, 109]) (.none) (.none) (.none)), #[]⟩
noncomputable def ma285 (P : Params) : Obj := ⟨.type "frame", none, .dict #[⟨PyData.keyHash P (tx [115, 101, 108, 102]), .str (tx [115, 101, 108, 102]) 656, .ref 284⟩, ⟨PyData.keyHash P (tx [115]), .str (tx [115]) 657, .str (tx []) 652⟩, ⟨PyData.keyHash P (tx [115, 117, 98, 115, 116, 114, 105, 110, 103, 95, 105]), .str (tx [115, 117, 98, 115, 116, 114, 105, 110, 103, 95, 105]) 658, .int (-1) 654⟩, ⟨PyData.keyHash P (tx [114, 101, 115, 117, 108, 116]), .str (tx [114, 101, 115, 117, 108, 116]) 659, .int 5 655⟩] 4, #[]⟩
noncomputable def ma288 (P : Params) : Obj := ⟨.type "frame", none, .dict #[⟨PyData.keyHash P (tx [115, 101, 108, 102]), .str (tx [115, 101, 108, 102]) 669, .ref 287⟩, ⟨PyData.keyHash P (tx [115]), .str (tx [115]) 670, .str (tx [97, 101]) 666⟩, ⟨PyData.keyHash P (tx [115, 117, 98, 115, 116, 114, 105, 110, 103, 95, 105]), .str (tx [115, 117, 98, 115, 116, 114, 105, 110, 103, 95, 105]) 671, .int 0 667⟩, ⟨PyData.keyHash P (tx [114, 101, 115, 117, 108, 116]), .str (tx [114, 101, 115, 117, 108, 116]) 672, .int 2 668⟩] 4, #[]⟩
noncomputable def ma291 (P : Params) : Obj := ⟨.type "frame", none, .dict #[⟨PyData.keyHash P (tx [115, 101, 108, 102]), .str (tx [115, 101, 108, 102]) 682, .ref 290⟩, ⟨PyData.keyHash P (tx [115]), .str (tx [115]) 683, .str (tx [111, 101]) 679⟩, ⟨PyData.keyHash P (tx [115, 117, 98, 115, 116, 114, 105, 110, 103, 95, 105]), .str (tx [115, 117, 98, 115, 116, 114, 105, 110, 103, 95, 105]) 684, .int 0 680⟩, ⟨PyData.keyHash P (tx [114, 101, 115, 117, 108, 116]), .str (tx [114, 101, 115, 117, 108, 116]) 685, .int 3 681⟩] 4, #[]⟩
noncomputable def ma294 (P : Params) : Obj := ⟨.type "frame", none, .dict #[⟨PyData.keyHash P (tx [115, 101, 108, 102]), .str (tx [115, 101, 108, 102]) 696, .ref 293⟩, ⟨PyData.keyHash P (tx [115]), .str (tx [115]) 697, .str (tx [113, 117]) 692⟩, ⟨PyData.keyHash P (tx [115, 117, 98, 115, 116, 114, 105, 110, 103, 95, 105]), .str (tx [115, 117, 98, 115, 116, 114, 105, 110, 103, 95, 105]) 698, .int 0 693⟩, ⟨PyData.keyHash P (tx [114, 101, 115, 117, 108, 116]), .str (tx [114, 101, 115, 117, 108, 116]) 699, .int (-1) 695⟩] 4, #[]⟩
noncomputable def ma297 (P : Params) : Obj := ⟨.type "frame", none, .dict #[⟨PyData.keyHash P (tx [115, 101, 108, 102]), .str (tx [115, 101, 108, 102]) 709, .ref 296⟩, ⟨PyData.keyHash P (tx [115]), .str (tx [115]) 710, .str (tx [117, 101]) 706⟩, ⟨PyData.keyHash P (tx [115, 117, 98, 115, 116, 114, 105, 110, 103, 95, 105]), .str (tx [115, 117, 98, 115, 116, 114, 105, 110, 103, 95, 105]) 711, .int 0 707⟩, ⟨PyData.keyHash P (tx [114, 101, 115, 117, 108, 116]), .str (tx [114, 101, 115, 117, 108, 116]) 712, .int 4 708⟩] 4, #[]⟩
noncomputable def ma300 (P : Params) : Obj := ⟨.type "frame", none, .dict #[⟨PyData.keyHash P (tx [115, 101, 108, 102]), .str (tx [115, 101, 108, 102]) 722, .ref 299⟩, ⟨PyData.keyHash P (tx [115]), .str (tx [115]) 723, .str (tx [223]) 719⟩, ⟨PyData.keyHash P (tx [115, 117, 98, 115, 116, 114, 105, 110, 103, 95, 105]), .str (tx [115, 117, 98, 115, 116, 114, 105, 110, 103, 95, 105]) 724, .int 0 720⟩, ⟨PyData.keyHash P (tx [114, 101, 115, 117, 108, 116]), .str (tx [114, 101, 115, 117, 108, 116]) 725, .int 1 721⟩] 4, #[]⟩
noncomputable def ma304 (P : Params) : Obj := ⟨.type "frame", none, .dict #[⟨PyData.keyHash P (tx [115, 101, 108, 102]), .str (tx [115, 101, 108, 102]) 737, .ref 303⟩, ⟨PyData.keyHash P (tx [115]), .str (tx [115]) 738, .str (tx []) 733⟩, ⟨PyData.keyHash P (tx [115, 117, 98, 115, 116, 114, 105, 110, 103, 95, 105]), .str (tx [115, 117, 98, 115, 116, 114, 105, 110, 103, 95, 105]) 739, .int (-1) 735⟩, ⟨PyData.keyHash P (tx [114, 101, 115, 117, 108, 116]), .str (tx [114, 101, 115, 117, 108, 116]) 740, .int 5 736⟩] 4, #[]⟩
noncomputable def ma307 (P : Params) : Obj := ⟨.type "frame", none, .dict #[⟨PyData.keyHash P (tx [115, 101, 108, 102]), .str (tx [115, 101, 108, 102]) 750, .ref 306⟩, ⟨PyData.keyHash P (tx [115]), .str (tx [115]) 751, .str (tx [85]) 747⟩, ⟨PyData.keyHash P (tx [115, 117, 98, 115, 116, 114, 105, 110, 103, 95, 105]), .str (tx [115, 117, 98, 115, 116, 114, 105, 110, 103, 95, 105]) 752, .int 0 748⟩, ⟨PyData.keyHash P (tx [114, 101, 115, 117, 108, 116]), .str (tx [114, 101, 115, 117, 108, 116]) 753, .int 2 749⟩] 4, #[]⟩
noncomputable def ma310 (P : Params) : Obj := ⟨.type "frame", none, .dict #[⟨PyData.keyHash P (tx [115, 101, 108, 102]), .str (tx [115, 101, 108, 102]) 763, .ref 309⟩, ⟨PyData.keyHash P (tx [115]), .str (tx [115]) 764, .str (tx [89]) 760⟩, ⟨PyData.keyHash P (tx [115, 117, 98, 115, 116, 114, 105, 110, 103, 95, 105]), .str (tx [115, 117, 98, 115, 116, 114, 105, 110, 103, 95, 105]) 765, .int 0 761⟩, ⟨PyData.keyHash P (tx [114, 101, 115, 117, 108, 116]), .str (tx [114, 101, 115, 117, 108, 116]) 766, .int 1 762⟩] 4, #[]⟩
noncomputable def ma313 (P : Params) : Obj := ⟨.type "frame", none, .dict #[⟨PyData.keyHash P (tx [115, 101, 108, 102]), .str (tx [115, 101, 108, 102]) 776, .ref 312⟩, ⟨PyData.keyHash P (tx [115]), .str (tx [115]) 777, .str (tx [228]) 773⟩, ⟨PyData.keyHash P (tx [115, 117, 98, 115, 116, 114, 105, 110, 103, 95, 105]), .str (tx [115, 117, 98, 115, 116, 114, 105, 110, 103, 95, 105]) 778, .int 0 774⟩, ⟨PyData.keyHash P (tx [114, 101, 115, 117, 108, 116]), .str (tx [114, 101, 115, 117, 108, 116]) 779, .int 3 775⟩] 4, #[]⟩
noncomputable def ma316 (P : Params) : Obj := ⟨.type "frame", none, .dict #[⟨PyData.keyHash P (tx [115, 101, 108, 102]), .str (tx [115, 101, 108, 102]) 789, .ref 315⟩, ⟨PyData.keyHash P (tx [115]), .str (tx [115]) 790, .str (tx [246]) 786⟩, ⟨PyData.keyHash P (tx [115, 117, 98, 115, 116, 114, 105, 110, 103, 95, 105]), .str (tx [115, 117, 98, 115, 116, 114, 105, 110, 103, 95, 105]) 791, .int 0 787⟩, ⟨PyData.keyHash P (tx [114, 101, 115, 117, 108, 116]), .str (tx [114, 101, 115, 117, 108, 116]) 792, .int 4 788⟩] 4, #[]⟩
noncomputable def ma319 (P : Params) : Obj := ⟨.type "frame", none, .dict #[⟨PyData.keyHash P (tx [115, 101, 108, 102]), .str (tx [115, 101, 108, 102]) 802, .ref 318⟩, ⟨PyData.keyHash P (tx [115]), .str (tx [115]) 803, .str (tx [252]) 799⟩, ⟨PyData.keyHash P (tx [115, 117, 98, 115, 116, 114, 105, 110, 103, 95, 105]), .str (tx [115, 117, 98, 115, 116, 114, 105, 110, 103, 95, 105]) 804, .int 0 800⟩, ⟨PyData.keyHash P (tx [114, 101, 115, 117, 108, 116]), .str (tx [114, 101, 115, 117, 108, 116]) 805, .int 2 801⟩] 4, #[]⟩
noncomputable def mb225 (P : Params) : Obj := ⟨.type "dict", none, .dict #[⟨PyData.keyHash P (tx [95, 95, 109, 111, 100, 117, 108, 101, 95, 95]), .str (tx [95, 95, 109, 111, 100, 117, 108, 101, 95, 95]) 480, .str (tx [115, 110, 111, 119, 98, 97, 108, 108, 115, 116, 101, 109, 109, 101, 114, 46, 103, 101, 114, 109, 97, 110, 95, 115, 116, 101, 109, 109, 101, 114]) 471⟩, ⟨PyData.keyHash P (tx [95, 95, 113, 117, 97, 108, 110, 97, 109, 101, 95, 95]), .str (tx [95, 95, 113, 117, 97, 108, 110, 97, 109, 101, 95, 95]) 482, .str (tx [71, 101, 114, 109, 97, 110, 83, 116, 101, 109, 109, 101, 114]) 481⟩, ⟨PyData.keyHash P (tx [95, 95, 102, 105, 114, 115, 116, 108, 105, 110, 101, 110, 111, 95, 95]), .str (tx [95, 95, 102, 105, 114, 115, 116, 108, 105, 110, 101, 110, 111, 95, 95]) 484, .int 210 483⟩, ⟨PyData.keyHash P (tx [103, 95, 118]), .str (tx [103, 95, 118]) 503, .ref 230⟩, ⟨PyData.keyHash P (tx [103, 95, 101, 116, 95, 101, 110, 100, 105, 110, 103]), .str (tx [103, 95, 101, 116, 95, 101, 110, 100, 105, 110, 103]) 530, .ref 231⟩, ⟨PyData.keyHash P (tx [103, 95, 115, 95, 101, 110, 100, 105, 110, 103]), .str (tx [103, 95, 115, 95, 101, 110, 100, 105, 110, 103]) 553, .ref 232⟩, ⟨PyData.keyHash P (tx [103, 95, 115, 116, 95, 101, 110, 100, 105, 110, 103]), .str (tx [103, 95, 115, 116, 95, 101, 110, 100, 105, 110, 103]) 574, .ref 233⟩, ⟨PyData.keyHash P (tx [73, 95, 112, 50]), .str (tx [73, 95, 112, 50]) 576, .int 0 575⟩, ⟨PyData.keyHash P (tx [73, 95, 112, 49]), .str (tx [73, 95, 112, 49]) 578, .int 0 577⟩, ⟨PyData.keyHash P (tx [114, 95, 112, 114, 101, 108, 117, 100, 101]), .str (tx [114, 95, 112, 114, 101, 108, 117, 100, 101]) 591, .ref 240⟩, ⟨PyData.keyHash P (tx [114, 95, 109, 97, 114, 107, 95, 114, 101, 103, 105, 111, 110, 115]), .str (tx [114, 95, 109, 97, 114, 107, 95, 114, 101, 103, 105, 111, 110, 115]) 600, .ref 247⟩, ⟨PyData.keyHash P (tx [114, 95, 112, 111, 115, 116, 108, 117, 100, 101]), .str (tx [114, 95, 112, 111, 115, 116, 108, 117, 100, 101]) 609, .ref 254⟩, ⟨PyData.keyHash P (tx [114, 95, 82, 49]), .str (tx [114, 95, 82, 49]) 616, .ref 261⟩, ⟨PyData.keyHash P (tx [114, 95, 82, 50]), .str (tx [114, 95, 82, 50]) 623, .ref 268⟩, ⟨PyData.keyHash P (tx [114, 95, 115, 116, 97, 110, 100, 97, 114, 100, 95, 115, 117, 102, 102, 105, 120]), .str (tx [114, 95, 115, 116, 97, 110, 100, 97, 114, 100, 95, 115, 117, 102, 102, 105, 120]) 641, .ref 275⟩, ⟨PyData.keyHash P (tx [95, 115, 116, 101, 109]), .str (tx [95, 115, 116, 101, 109]) 651, .ref 282⟩, ⟨PyData.keyHash P (tx [97, 95, 48]), .str (tx [97, 95, 48]) 732, .ref 301⟩, ⟨PyData.keyHash P (tx [97, 95, 49]), .str (tx [97, 95, 49]) 812, .ref 320⟩, ⟨PyData.keyHash P (tx [97, 95, 50]), .str (tx [97, 95, 50]) 964, .ref 354⟩, ⟨PyData.keyHash P (tx [97, 95, 51]), .str (tx [97, 95, 51]) 1040, .ref 370⟩, ⟨PyData.keyHash P (tx [97, 95, 52]), .str (tx [97, 95, 52]) 1110, .ref 386⟩, ⟨PyData.keyHash P (tx [97, 95, 53]), .str (tx [97, 95, 53]) 1139, .ref 393⟩] 22, #[]⟩
noncomputable def mb323 (P : Params) : Obj := ⟨.type "frame", none, .dict #[⟨PyData.keyHash P (tx [115, 101, 108, 102]), .str (tx [115, 101, 108, 102]) 817, .ref 322⟩, ⟨PyData.keyHash P (tx [115]), .str (tx [115]) 818, .str (tx [101]) 813⟩, ⟨PyData.keyHash P (tx [115, 117, 98, 115, 116, 114, 105, 110, 103, 95, 105]), .str (tx [115, 117, 98, 115, 116, 114, 105, 110, 103, 95, 105]) 819, .int (-1) 815⟩, ⟨PyData.keyHash P (tx [114, 101, 115, 117, 108, 116]), .str (tx [114, 101, 115, 117, 108, 116]) 820, .int 3 816⟩] 4, #[]⟩
noncomputable def mb326 (P : Params) : Obj := ⟨.type "frame", none, .dict #[⟨PyData.keyHash P (tx [115, 101, 108, 102]), .str (tx [115, 101, 108, 102]) 831, .ref 325⟩, ⟨PyData.keyHash P (tx [115]), .str (tx [115]) 832, .str (tx [101, 109]) 827⟩, ⟨PyData.keyHash P (tx [115, 117, 98, 115, 116, 114, 105, 110, 103, 95, 105]), .str (tx [115, 117, 98, 115, 116, 114, 105, 110, 103, 95, 105]) 833, .int (-1) 829⟩, ⟨PyData.keyHash P (tx [114, 101, 115, 117, 108, 116]), .str (tx [114, 101, 115, 117, 108, 116]) 834, .int 1 830⟩] 4, #[]⟩
noncomputable def mb329 (P : Params) : Obj := ⟨.type "frame", none, .dict #[⟨PyData.keyHash P (tx [115, 101, 108, 102]), .str (tx [115, 101, 108, 102]) 845, .ref 328⟩, ⟨PyData.keyHash P (tx [115]), .str (tx [115]) 846, .str (tx [101, 110]) 841⟩, ⟨PyData.keyHash P (tx [115, 117, 98, 115, 116, 114, 105, 110, 103, 95, 105]), .str (tx [115, 117, 98, 115, 116, 114, 105, 110, 103, 95, 105]) 847, .int (-1) 843⟩, ⟨PyData.keyHash P (tx [114, 101, 115, 117, 108, 116]), .str (tx [114, 101, 115, 117, 108, 116]) 848, .int 3 844⟩] 4, #[]⟩
noncomputable def mb332 (P : Params) : Obj := ⟨.type "frame", none, .dict #[⟨PyData.keyHash P (tx [115, 101, 108, 102]), .str (tx [115, 101, 108, 102]) 858, .ref 331⟩, ⟨PyData.keyHash P (tx [115]), .str (tx [115]) 859, .str (tx [101, 114, 105, 110, 110, 101, 110]) 855⟩, ⟨PyData.keyHash P (tx [115, 117, 98, 115, 116, 114, 105, 110, 103, 95, 105]), .str (tx [115, 117, 98, 115, 116, 114, 105, 110, 103, 95, 105]) 860, .int 2 856⟩, ⟨PyData.keyHash P (tx [114, 101, 115, 117, 108, 116]), .str (tx [114, 101, 115, 117, 108, 116]) 861, .int 2 857⟩] 4, #[]⟩
noncomputable def mb335 (P : Params) : Obj := ⟨.type "frame", none, .dict #[⟨PyData.keyHash P (tx [115, 101, 108, 102]), .str (tx [115, 101, 108, 102]) 872, .ref 334⟩, ⟨PyData.keyHash P (tx [115]), .str (tx [115]) 873, .str (tx [101, 114, 105, 110]) 868⟩, ⟨PyData.keyHash P (tx [115, 117, 98, 115, 116, 114, 105, 110, 103, 95, 105]), .str (tx [115, 117, 98, 115, 116, 114, 105, 110, 103, 95, 105]) 874, .int (-1) 870⟩, ⟨PyData.keyHash P (tx [114, 101, 115, 117, 108, 116]), .str (tx [114, 101, 115, 117, 108, 116]) 875, .int 2 871⟩] 4, #[]⟩
noncomputable def mb338 (P : Params) : Obj := ⟨.type "frame", none, .dict #[⟨PyData.keyHash P (tx [115, 101, 108, 102]), .str (tx [115, 101, 108, 102]) 886, .ref 337⟩, ⟨PyData.keyHash P (tx [115]), .str (tx [115]) 887, .str (tx [108, 110]) 882⟩, ⟨PyData.keyHash P (tx [115, 117, 98, 115, 116, 114, 105, 110, 103, 95, 105]), .str (tx [115, 117, 98, 115, 116, 114, 105, 110, 103, 95, 105]) 888, .int (-1) 884⟩, ⟨PyData.keyHash P (tx [114, 101, 115, 117, 108, 116]), .str (tx [114, 101, 115, 117, 108, 116]) 889, .int 5 885⟩] 4, #[]⟩
noncomputable def mb341 (P : Params) : Obj := ⟨.type "frame", none, .dict #[⟨PyData.keyHash P (tx [115, 101, 108, 102]), .str (tx [115, 101, 108, 102]) 900, .ref 340⟩, ⟨PyData.keyHash P (tx [115]), .str (tx [115]) 901, .str (tx [101, 114, 110]) 896⟩, ⟨PyData.keyHash P (tx [115, 117, 98, 115, 116, 114, 105, 110, 103, 95, 105]), .str (tx [115, 117, 98, 115, 116, 114, 105, 110, 103, 95, 105]) 902, .int (-1) 898⟩, ⟨PyData.keyHash P (tx [114, 101, 115, 117, 108, 116]), .str (tx [114, 101, 115, 117, 108, 116]) 903, .int 2 899⟩] 4, #[]⟩
noncomputable def mb344 (P : Params) : Obj := ⟨.type "frame", none, .dict #[⟨PyData.keyHash P (tx [115, 101, 108, 102]), .str (tx [115, 101, 108, 102]) 914, .ref 343⟩, ⟨PyData.keyHash P (tx [115]), .str (tx [115]) 915, .str (tx [101, 114]) 910⟩, ⟨PyData.keyHash P (tx [115, 117, 98, 115, 116, 114, 105, 110, 103, 95, 105]), .str (tx [115, 117, 98, 115, 116, 114, 105, 110, 103, 95, 105]) 916, .int (-1) 912⟩, ⟨PyData.keyHash P (tx [114, 101, 115, 117, 108, 116]), .str (tx [114, 101, 115, 117, 108, 116]) 917, .int 2 913⟩] 4, #[]⟩
noncomputable def mb347 (P : Params) : Obj := ⟨.type "frame", none, .dict #[⟨PyData.keyHash P (tx [115, 101, 108, 102]), .str (tx [115, 101, 108, 102]) 928, .ref 346⟩, ⟨PyData.keyHash P (tx [115]), .str (tx [115]) 929, .str (tx [115]) 924⟩, ⟨PyData.keyHash P (tx [115, 117, 98, 115, 116, 114, 105, 110, 103, 95, 105]), .str (tx [115, 117, 98, 115, 116, 114, 105, 110, 103, 95, 105]) 930, .int (-1) 926⟩, ⟨PyData.keyHash P (tx [114, 101, 115, 117, 108, 116]), .str (tx [114, 101, 115, 117, 108, 116]) 931, .int 4 927⟩] 4, #[]⟩
noncomputable def mb350 (P : Params) : Obj := ⟨.type "frame", none, .dict #[⟨PyData.keyHash P (tx [115, 101, 108, 102]), .str (tx [115, 101, 108, 102]) 941, .ref 349⟩, ⟨PyData.keyHash P (tx [115]), .str (tx [115]) 942, .str (tx [101, 115]) 938⟩, ⟨PyData.keyHash P (tx [115, 117, 98, 115, 116, 114, 105, 110, 103, 95, 105]), .str (tx [115, 117, 98, 115, 116, 114, 105, 110, 103, 95, 105]) 943, .int 8 939⟩, ⟨PyData.keyHash P (tx [114, 101, 115, 117, 108, 116]), .str (tx [114, 101, 115, 117, 108, 116]) 944, .int 3 940⟩] 4, #[]⟩
noncomputable def mb353 (P : Params) : Obj := ⟨.type "frame", none, .dict #[⟨PyData.keyHash P (tx [115, 101, 108, 102]), .str (tx [115, 101, 108, 102]) 954, .ref 352⟩, ⟨PyData.keyHash P (tx [115]), .str (tx [115]) 955, .str (tx [108, 110, 115]) 951⟩, ⟨PyData.keyHash P (tx [115, 117, 98, 115, 116, 114, 105, 110, 103, 95, 105]), .str (tx [115, 117, 98, 115, 116, 114, 105, 110, 103, 95, 105]) 956, .int 8 952⟩, ⟨PyData.keyHash P (tx [114, 101, 115, 117, 108, 116]), .str (tx [114, 101, 115, 117, 108, 116]) 957, .int 5 953⟩] 4, #[]⟩
noncomputable def mb357 (P : Params) : Obj := ⟨.type "frame", none, .dict #[⟨PyData.keyHash P (tx [115, 101, 108, 102]), .str (tx [115, 101, 108, 102]) 970, .ref 356⟩, ⟨PyData.keyHash P (tx [115]), .str (tx [115]) 971, .str (tx [116, 105, 99, 107]) 965⟩, ⟨PyData.keyHash P (tx [115, 117, 98, 115, 116, 114, 105, 110, 103, 95, 105]), .str (tx [115, 117, 98, 115, 116, 114, 105, 110, 103, 95, 105]) 972, .int (-1) 967⟩, ⟨PyData.keyHash P (tx [114, 101, 115, 117, 108, 116]), .str (tx [114, 101, 115, 117, 108, 116]) 973, .int (-1) 969⟩] 4, #[]⟩
noncomputable def mb360 (P : Params) : Obj := ⟨.type "frame", none, .dict #[⟨PyData.keyHash P (tx [115, 101, 108, 102]), .str (tx [115, 101, 108, 102]) 985, .ref 359⟩, ⟨PyData.keyHash P (tx [115]), .str (tx [115]) 986, .str (tx [112, 108, 97, 110]) 980⟩, ⟨PyData.keyHash P (tx [115, 117, 98, 115, 116, 114, 105, 110, 103, 95, 105]), .str (tx [115, 117, 98, 115, 116, 114, 105, 110, 103, 95, 105]) 987, .int (-1) 982⟩, ⟨PyData.keyHash P (tx [114, 101, 115, 117, 108, 116]), .str (tx [114, 101, 115, 117, 108, 116]) 988, .int (-1) 984⟩] 4, #[]⟩
noncomputable def mb363 (P : Params) : Obj := ⟨.type "frame", none, .dict #[⟨PyData.keyHash P (tx [115, 101, 108, 102]), .str (tx [115, 101, 108, 102]) 1000, .ref 362⟩, ⟨PyData.keyHash P (tx [115]), .str (tx [115]) 1001, .str (tx [103, 101, 111, 114, 100, 110]) 995⟩, ⟨PyData.keyHash P (tx [115, 117, 98, 115, 116, 114, 105, 110, 103, 95, 105]), .str (tx [115, 117, 98, 115, 116, 114, 105, 110, 103, 95, 105]) 1002, .int (-1) 997⟩, ⟨PyData.keyHash P (tx [114, 101, 115, 117, 108, 116]), .str (tx [114, 101, 115, 117, 108, 116]) 1003, .int (-1) 999⟩] 4, #[]⟩
noncomputable def mb366 (P : Params) : Obj := ⟨.type "frame", none, .dict #[⟨PyData.keyHash P (tx [115, 101, 108, 102]), .str (tx [115, 101, 108, 102]) 1015, .ref 365⟩, ⟨PyData.keyHash P (tx [115]), .str (tx [115]) 1016, .str (tx [105, 110, 116, 101, 114, 110]) 1010⟩, ⟨PyData.keyHash P (tx [115, 117, 98, 115, 116, 114, 105, 110, 103, 95, 105]), .str (tx [115, 117, 98, 115, 116, 114, 105, 110, 103, 95, 105]) 1017, .int (-1) 1012⟩, ⟨PyData.keyHash P (tx [114, 101, 115, 117, 108, 116]), .str (tx [114, 101, 115, 117, 108, 116]) 1018, .int (-1) 1014⟩] 4, #[]⟩
noncomputable def mb369 (P : Params) : Obj := ⟨.type "frame", none, .dict #[⟨PyData.keyHash P (tx [115, 101, 108, 102]), .str (tx [115, 101, 108, 102]) 1030, .ref 368⟩, ⟨PyData.keyHash P (tx [115]), .str (tx [115]) 1031, .str (tx [116, 114]) 1025⟩, ⟨PyData.keyHash P (tx [115, 117, 98, 115, 116, 114, 105, 110, 103, 95, 105]), .str (tx [115, 117, 98, 115, 116, 114, 105, 110, 103, 95, 105]) 1032, .int (-1) 1027⟩, ⟨PyData.keyHash P (tx [114, 101, 115, 117, 108, 116]), .str (tx [114, 101, 115, 117, 108, 116]) 1033, .int (-1) 1029⟩] 4, #[]⟩
noncomputable def mb373 (P : Params) : Obj := ⟨.type "frame", none, .dict #[⟨PyData.keyHash P (tx [115, 101, 108, 102]), .str (tx [115, 101, 108, 102]) 1045, .ref 372⟩, ⟨PyData.keyHash P (tx [115]), .str (tx [115]) 1046, .str (tx [101, 110]) 1041⟩, ⟨PyData.keyHash P (tx [115, 117, 98, 115, 116, 114, 105, 110, 103, 95, 105]), .str (tx [115, 117, 98, 115, 116, 114, 105, 110, 103, 95, 105]) 1047, .int (-1) 1043⟩, ⟨PyData.keyHash P (tx [114, 101, 115, 117, 108, 116]), .str (tx [114, 101, 115, 117, 108, 116]) 1048, .int 1 1044⟩] 4, #[]⟩
noncomputable def mb376 (P : Params) : Obj := ⟨.type "frame", none, .dict #[⟨PyData.keyHash P (tx [115, 101, 108, 102]), .str (tx [115, 101, 108, 102]) 1059, .ref 375⟩, ⟨PyData.keyHash P (tx [115]), .str (tx [115]) 1060, .str (tx [101, 114]) 1055⟩, ⟨PyData.keyHash P (tx [115, 117, 98, 115, 116, 114, 105, 110, 103, 95, 105]), .str (tx [115, 117, 98, 115, 116, 114, 105, 110, 103, 95, 105]) 1061, .int (-1) 1057⟩, ⟨PyData.keyHash P (tx [114, 101, 115, 117, 108, 116]), .str (tx [114, 101, 115, 117, 108, 116]) 1062, .int 1 1058⟩] 4, #[]⟩
noncomputable def mb379 (P : Params) : Obj := ⟨.type "frame", none, .dict #[⟨PyData.keyHash P (tx [115, 101, 108, 102]), .str (tx [115, 101, 108, 102]) 1073, .ref 378⟩, ⟨PyData.keyHash P (tx [115]), .str (tx [115]) 1074, .str (tx [101, 116]) 1069⟩, ⟨PyData.keyHash P (tx [115, 117, 98, 115, 116, 114, 105, 110, 103, 95, 105]), .str (tx [115, 117, 98, 115, 116, 114, 105, 110, 103, 95, 105]) 1075, .int (-1) 1071⟩, ⟨PyData.keyHash P (tx [114, 101, 115, 117, 108, 116]), .str (tx [114, 101, 115, 117, 108, 116]) 1076, .int 3 1072⟩] 4, #[]⟩
noncomputable def mb382 (P : Params) : Obj := ⟨.type "frame", none, .dict #[⟨PyData.keyHash P (tx [115, 101, 108, 102]), .str (tx [115, 101, 108, 102]) 1087, .ref 381⟩, ⟨PyData.keyHash P (tx [115]), .str (tx [115]) 1088, .str (tx [115, 116]) 1083⟩, ⟨PyData.keyHash P (tx [115, 117, 98, 115, 116, 114, 105, 110, 103, 95, 105]), .str (tx [115, 117, 98, 115, 116, 114, 105, 110, 103, 95, 105]) 1089, .int (-1) 1085⟩, ⟨PyData.keyHash P (tx [114, 101, 115, 117, 108, 116]), .str (tx [114, 101, 115, 117, 108, 116]) 1090, .int 2 1086⟩] 4, #[]⟩
noncomputable def mb385 (P : Params) : Obj := ⟨.type "frame", none, .dict #[⟨PyData.keyHash P (tx [115, 101, 108, 102]), .str (tx [115, 101, 108, 102]) 1100, .ref 384⟩, ⟨PyData.keyHash P (tx [115]), .str (tx [115]) 1101, .str (tx [101, 115, 116]) 1097⟩, ⟨PyData.keyHash P (tx [115, 117, 98, 115, 116, 114, 105, 110, 103, 95, 105]), .str (tx [115, 117, 98, 115, 116, 114, 105, 110, 103, 95, 105]) 1102, .int 3 1098⟩, ⟨PyData.keyHash P (tx [114, 101, 115, 117, 108, 116]), .str (tx [114, 101, 115, 117, 108, 116]) 1103, .int 1 1099⟩] 4, #[]⟩
noncomputable def mb389 (P : Params) : Obj := ⟨.type "frame", none, .dict #[⟨PyData.keyHash P (tx [115, 101, 108, 102]), .str (tx [115, 101, 108, 102]) 1115, .ref 388⟩, ⟨PyData.keyHash P (tx [115]), .str (tx [115]) 1116, .str (tx [105, 103]) 1111⟩, ⟨PyData.keyHash P (tx [115, 117, 98, 115, 116, 114, 105, 110, 103, 95, 105]), .str (tx [115, 117, 98, 115, 116, 114, 105, 110, 103, 95, 105]) 1117, .int (-1) 1113⟩, ⟨PyData.keyHash P (tx [114, 101, 115, 117, 108, 116]), .str (tx [114, 101, 115, 117, 108, 116]) 1118, .int 1 1114⟩] 4, #[]⟩
noncomputable def mb392 (P : Params) : Obj := ⟨.type "frame", none, .dict #[⟨PyData.keyHash P (tx [115, 101, 108, 102]), .str (tx [115, 101, 108, 102]) 1129, .ref 391⟩, ⟨PyData.keyHash P (tx [115]), .str (tx [115]) 1130, .str (tx [108, 105, 99, 104]) 1125⟩, ⟨PyData.keyHash P (tx [115, 117, 98, 115, 116, 114, 105, 110, 103, 95, 105]), .str (tx [115, 117, 98, 115, 116, 114, 105, 110, 103, 95, 105]) 1131, .int (-1) 1127⟩, ⟨PyData.keyHash P (tx [114, 101, 115, 117, 108, 116]), .str (tx [114, 101, 115, 117, 108, 116]) 1132, .int 1 1128⟩] 4, #[]⟩
noncomputable def midA (P : Params) (os : OsState) (O1 O2 O3 O4 : Obj) : SharedT := ⟨treeOf [boot_o_0 P, boot_o_1 P, boot_o_2 P, ma3 P, boot_o_4 P, boot_o_5 P, boot_o_6 P, boot_o_7 P, boot_o_8 P, boot_o_9 P, boot_o_10 P, ma11 P, ma12 P, ma13 P, ma14 P, ma15 P, ma16 P, ma17 P, ma18 P, ma19 P, ob20 P, ob21 P, ma22 P, ma23 P, ma24 P, ma25 P, ma26 P, ma27 P, ma28 P, ma29 P, ma30 P, ma31 P, ma32 P, ma33 P, ob34 P, ob35 P, ma36 P, ma37 P, ma38 P, ma39 P, ma40 P, ob41 P, ob42 P, ma43 P, ma44 P, ma45 P, ma46 P, ma47 P, ob48 P, ob49 P, ma50 P, ma51 P, ma52 P, ma53 P, ma54 P, ob55 P, ob56 P, ma57 P, ma58 P, ma59 P, ma60 P, ma61 P, ob62 P, ob63 P, ma64 P, ma65 P, ma66 P, ma67 P, ma68 P, ob69 P, ob70 P, ma71 P, ma72 P, ma73 P, ma74 P, ma75 P, ob76 P, ob77 P, ma78 P, ma79 P, ma80 P, ma81 P, ma82 P, ob83 P, ob84 P, ma85 P, ma86 P, ma87 P, ma88 P, ma89 P, ob90 P, ob91 P, ma92 P, ma93 P, ma94 P, ma95 P, ma96 P, ob97 P, ob98 P, ma99 P, ma100 P, ma101 P, ma102 P, ma103 P, ob104 P, ob105 P, ma106 P, ma107 P, ma108 P, ma109 P, ma110 P, ob111 P, ob112 P, ma113 P, ma114 P, ma115 P, ma116 P, ma117 P, ob118 P, ob119 P, ma120 P, ma121 P, ma122 P, ma123 P, ma124 P, ob125 P, ob126 P, ma127 P, ma128 P, ma129 P, ma130 P, ma131 P, ob132 P, ob133 P, ma134 P, ma135 P, ma136 P, ma137 P, ma138 P, ob139 P, ob140 P, ma141 P, ma142 P, ma143 P, ma144 P, ma145 P, ob146 P, ob147 P, ma148 P, ma149 P, ma150 P, ma151 P, ma152 P, ob153 P, ob154 P, ma155 P, ma156 P, ma157 P, ma158 P, ma159 P, ob160 P, ob161 P, ma162 P, ma163 P, ma164 P, ma165 P, ma166 P, ob167 P, ob168 P, ma169 P, ma170 P, ma171 P, ma172 P, ma173 P, ob174 P, ob175 P, ma176 P, ma177 P, ma178 P, ma179 P, ma180 P, ob181 P, ob182 P, ma183 P, ma184 P, ma185 P, ma186 P, ma187 P, ob188 P, ob189 P, ma190 P, ma191 P, ma192 P, ob193 P, ob194 P, ob195 P, ob196 P, ma197 P, ma198 P, ma199 P, ma200 P, ma201 P, ma202 P, ma203 P, ma204 P, ma205 P, ma206 P, ma207 P, ma208 P, ma209 P, ma210 P, ma211 P, ma212 P, ma213 P, ob214 P, ob215 P, ob216 P, ob217 P, ob218 P, ma219 P, ma220 P, ma221 P, ma222 P, ma223 P, ma224 P, ma225 P, ma226 P, ma227 P, ma228 P, ma229 P, O1, O2, O3, O4, ma234 P, ma235 P, ma236 P, ma237 P, ma238 P, ob239 P, ob240 P, ma241 P, ma242 P, ma243 P, ma244 P, ma245 P, ob246 P, ob247 P, ma248 P, ma249 P, ma250 P, ma251 P, ma252 P, ob253 P, ob254 P, ma255 P, ma256 P, ma257 P, ma258 P, ma259 P, ob260 P, ob261 P, ma262 P, ma263 P, ma264 P, ma265 P, ma266 P, ob267 P, ob268 P, ma269 P, ma270 P, ma271 P, ma272 P, ma273 P, ob274 P, ob275 P, ma276 P, ma277 P, ma278 P, ma279 P, ma280 P, ob281 P, ob282 P, ob283 P, ob284 P, ma285 P, ob286 P, ob287 P, ma288 P, ob289 P, ob290 P, ma291 P, ob292 P, ob293 P, ma294 P, ob295 P, ob296 P, ma297 P, ob298 P, ob299 P, ma300 P, ob301 P, ob302 P, ob303 P, ma304 P, ob305 P, ob306 P, ma307 P, ob308 P, ob309 P, ma310 P, ob311 P, ob312 P, ma313 P, ob314 P, ob315 P, ma316 P, ob317 P, ob318 P, ma319 P, ob320 P] 0 .nil, 321, (boot_heap P).life, #[], boot_drawn, 813, os⟩
noncomputable def midB (P : Params) (os : OsState) (O1 O2 O3 O4 : Obj) : SharedT := ⟨treeOf [boot_o_0 P, boot_o_1 P, boot_o_2 P, ma3 P, boot_o_4 P, boot_o_5 P, boot_o_6 P, boot_o_7 P, boot_o_8 P, boot_o_9 P, boot_o_10 P, ma11 P, ma12 P, ma13 P, ma14 P, ma15 P, ma16 P, ma17 P, ma18 P, ma19 P, ob20 P, ob21 P, ma22 P, ma23 P, ma24 P, ma25 P, ma26 P, ma27 P, ma28 P, ma29 P, ma30 P, ma31 P, ma32 P, ma33 P, ob34 P, ob35 P, ma36 P, ma37 P, ma38 P, ma39 P, ma40 P, ob41 P, ob42 P, ma43 P, ma44 P, ma45 P, ma46 P, ma47 P, ob48 P, ob49 P, ma50 P, ma51 P, ma52 P, ma53 P, ma54 P, ob55 P, ob56 P, ma57 P, ma58 P, ma59 P, ma60 P, ma61 P, ob62 P, ob63 P, ma64 P, ma65 P, ma66 P, ma67 P, ma68 P, ob69 P, ob70 P, ma71 P, ma72 P, ma73 P, ma74 P, ma75 P, ob76 P, ob77 P, ma78 P, ma79 P, ma80 P, ma81 P, ma82 P, ob83 P, ob84 P, ma85 P, ma86 P, ma87 P, ma88 P, ma89 P, ob90 P, ob91 P, ma92 P, ma93 P, ma94 P, ma95 P, ma96 P, ob97 P, ob98 P, ma99 P, ma100 P, ma101 P, ma102 P, ma103 P, ob104 P, ob105 P, ma106 P, ma107 P, ma108 P, ma109 P, ma110 P, ob111 P, ob112 P, ma113 P, ma114 P, ma115 P, ma116 P, ma117 P, ob118 P, ob119 P, ma120 P, ma121 P, ma122 P, ma123 P, ma124 P, ob125 P, ob126 P, ma127 P, ma128 P, ma129 P, ma130 P, ma131 P, ob132 P, ob133 P, ma134 P, ma135 P, ma136 P, ma137 P, ma138 P, ob139 P, ob140 P, ma141 P, ma142 P, ma143 P, ma144 P, ma145 P, ob146 P, ob147 P, ma148 P, ma149 P, ma150 P, ma151 P, ma152 P, ob153 P, ob154 P, ma155 P, ma156 P, ma157 P, ma158 P, ma159 P, ob160 P, ob161 P, ma162 P, ma163 P, ma164 P, ma165 P, ma166 P, ob167 P, ob168 P, ma169 P, ma170 P, ma171 P, ma172 P, ma173 P, ob174 P, ob175 P, ma176 P, ma177 P, ma178 P, ma179 P, ma180 P, ob181 P, ob182 P, ma183 P, ma184 P, ma185 P, ma186 P, ma187 P, ob188 P, ob189 P, ma190 P, ma191 P, ma192 P, ob193 P, ob194 P, ob195 P, ob196 P, ma197 P, ma198 P, ma199 P, ma200 P, ma201 P, ma202 P, ma203 P, ma204 P, ma205 P, ma206 P, ma207 P, ma208 P, ma209 P, ma210 P, ma211 P, ma212 P, ma213 P, ob214 P, ob215 P, ob216 P, ob217 P, ob218 P, ma219 P, ma220 P, ma221 P, ma222 P, ma223 P, ma224 P, mb225 P, ma226 P, ma227 P, ma228 P, ma229 P, O1, O2, O3, O4, ma234 P, ma235 P, ma236 P, ma237 P, ma238 P, ob239 P, ob240 P, ma241 P, ma242 P, ma243 P, ma244 P, ma245 P, ob246 P, ob247 P, ma248 P, ma249 P, ma250 P, ma251 P, ma252 P, ob253 P, ob254 P, ma255 P, ma256 P, ma257 P, ma258 P, ma259 P, ob260 P, ob261 P, ma262 P, ma263 P, ma264 P, ma265 P, ma266 P, ob267 P, ob268 P, ma269 P, ma270 P, ma271 P, ma272 P, ma273 P, ob274 P, ob275 P, ma276 P, ma277 P, ma278 P, ma279 P, ma280 P, ob281 P, ob282 P, ob283 P, ob284 P, ma285 P, ob286 P, ob287 P, ma288 P, ob289 P, ob290 P, ma291 P, ob292 P, ob293 P, ma294 P, ob295 P, ob296 P, ma297 P, ob298 P, ob299 P, ma300 P, ob301 P, ob302 P, ob303 P, ma304 P, ob305 P, ob306 P, ma307 P, ob308 P, ob309 P, ma310 P, ob311 P, ob312 P, ma313 P, ob314 P, ob315 P, ma316 P, ob317 P, ob318 P, ma319 P, ob320 P, ob321 P, ob322 P, mb323 P, ob324 P, ob325 P, mb326 P, ob327 P, ob328 P, mb329 P, ob330 P, ob331 P, mb332 P, ob333 P, ob334 P, mb335 P, ob336 P, ob337 P, mb338 P, ob339 P, ob340 P, mb341 P, ob342 P, ob343 P, mb344 P, ob345 P, ob346 P, mb347 P, ob348 P, ob349 P, mb350 P, ob351 P, ob352 P, mb353 P, ob354 P, ob355 P, ob356 P, mb357 P, ob358 P, ob359 P, mb360 P, ob361 P, ob362 P, mb363 P, ob364 P, ob365 P, mb366 P, ob367 P, ob368 P, mb369 P, ob370 P, ob371 P, ob372 P, mb373 P, ob374 P, ob375 P, mb376 P, ob377 P, ob378 P, mb379 P, ob380 P, ob381 P, mb382 P, ob383 P, ob384 P, mb385 P, ob386 P, ob387 P, ob388 P, mb389 P, ob390 P, ob391 P, mb392 P, ob393 P] 0 .nil, 394, (boot_heap P).life, #[], boot_drawn, 1140, os⟩
noncomputable def posA : Pos := { line := 548, col := 4, endLine := 548, endCol := 7 }
noncomputable def posB : Pos := { line := 552, col := 4, endLine := 552, endCol := 7 }

/-! the kernel's runs of the top -/
theorem head_A (w : World) (os : OsState) (e1 e2 e3 e4 : Array (Int × Value)) (n1 n2 n3 n4 : Nat) (t1 t2 t3 t4 : SetTable) (q1 q2 q3 q4 : Pos) :
    chainA (PySem.W.Fast.tw10156331382660048174 (PySem.W.Fast.tw11892475500146522536 PySem.W.Fast.tw14364793385576792824) PySem.Challenge.pw_fb0053_01 w) PySem.W.Fast.tw12563942051412417395 11 ⟨.type "set", none, .set e1 n1 t1, #[]⟩ ⟨.type "set", none, .set e2 n2 t2, #[]⟩ ⟨.type "set", none, .set e3 n3 t3, #[]⟩ ⟨.type "set", none, .set e4 n4 t4, #[]⟩ q1 q2 q3 q4 (boot0 w.params os) (topStub prg) = some (midA w.params os ⟨.type "set", none, .set e1 n1 t1, #[]⟩ ⟨.type "set", none, .set e2 n2 t2, #[]⟩ ⟨.type "set", none, .set e3 n3 t3, #[]⟩ ⟨.type "set", none, .set e4 n4 t4, #[]⟩, (codeQ (PySem.W.Fast.tw10156331382660048174 (PySem.W.Fast.tw11892475500146522536 PySem.W.Fast.tw14364793385576792824) PySem.Challenge.pw_fb0053_01 w) (boot0 w.params os) (topStub prg)), posA) := by kernel_rfl!
theorem head_M (w : World) (os : OsState) (e1 e2 e3 e4 : Array (Int × Value)) (n1 n2 n3 n4 : Nat) (t1 t2 t3 t4 : SetTable) :
    chainM (PySem.W.Fast.tw10156331382660048174 (PySem.W.Fast.tw11892475500146522536 PySem.W.Fast.tw14364793385576792824) PySem.Challenge.pw_fb0053_01 w) PySem.W.Fast.tw12563942051412417395 11 4 (midA w.params os ⟨.type "set", none, .set e1 n1 t1, #[]⟩ ⟨.type "set", none, .set e2 n2 t2, #[]⟩ ⟨.type "set", none, .set e3 n3 t3, #[]⟩ ⟨.type "set", none, .set e4 n4 t4, #[]⟩) (codeQ (PySem.W.Fast.tw10156331382660048174 (PySem.W.Fast.tw11892475500146522536 PySem.W.Fast.tw14364793385576792824) PySem.Challenge.pw_fb0053_01 w) (boot0 w.params os) (topStub prg)) posA (boot0 w.params os) (topStub prg) = some (midB w.params os ⟨.type "set", none, .set e1 n1 t1, #[]⟩ ⟨.type "set", none, .set e2 n2 t2, #[]⟩ ⟨.type "set", none, .set e3 n3 t3, #[]⟩ ⟨.type "set", none, .set e4 n4 t4, #[]⟩, (codeQ (PySem.W.Fast.tw10156331382660048174 (PySem.W.Fast.tw11892475500146522536 PySem.W.Fast.tw14364793385576792824) PySem.Challenge.pw_fb0053_01 w) (boot0 w.params os) (topStub prg)), posB) := by kernel_rfl!
theorem head_Lf (w : World) (os : OsState) (e1 e2 e3 e4 : Array (Int × Value)) (n1 n2 n3 n4 : Nat) (t1 t2 t3 t4 : SetTable) :
    (chainL (PySem.W.Fast.tw10156331382660048174 (PySem.W.Fast.tw11892475500146522536 PySem.W.Fast.tw14364793385576792824) PySem.Challenge.pw_fb0053_01 (w.withFollow "special-get-raises" false)) PySem.W.Fast.tw12563942051412417395 15 (midB w.params os ⟨.type "set", none, .set e1 n1 t1, #[]⟩ ⟨.type "set", none, .set e2 n2 t2, #[]⟩ ⟨.type "set", none, .set e3 n3 t3, #[]⟩ ⟨.type "set", none, .set e4 n4 t4, #[]⟩) (codeQ (PySem.W.Fast.tw10156331382660048174 (PySem.W.Fast.tw11892475500146522536 PySem.W.Fast.tw14364793385576792824) PySem.Challenge.pw_fb0053_01 (w.withFollow "special-get-raises" false)) (boot0 w.params os) (topStub prg)) posB (boot0 w.params os) (topStub prg)).map (fun TF => (TF.n, TF.gens, TF.os, TF.toks, (KF w.params ⟨.type "set", none, .set e1 n1 t1, #[]⟩ ⟨.type "set", none, .set e2 n2 t2, #[]⟩ ⟨.type "set", none, .set e3 n3 t3, #[]⟩ ⟨.type "set", none, .set e4 n4 t4, #[]⟩).map fun q => TF.tree.get q.1)) =
    some (812, #[], os, 1968, (KF w.params ⟨.type "set", none, .set e1 n1 t1, #[]⟩ ⟨.type "set", none, .set e2 n2 t2, #[]⟩ ⟨.type "set", none, .set e3 n3 t3, #[]⟩ ⟨.type "set", none, .set e4 n4 t4, #[]⟩).map fun q => some q.2) := by kernel_rfl!
theorem head_Lt (w : World) (os : OsState) (e1 e2 e3 e4 : Array (Int × Value)) (n1 n2 n3 n4 : Nat) (t1 t2 t3 t4 : SetTable) :
    (chainL (PySem.W.Fast.tw10156331382660048174 (PySem.W.Fast.tw11892475500146522536 PySem.W.Fast.tw14364793385576792824) PySem.Challenge.pw_fb0053_01 (w.withFollow "special-get-raises" true)) PySem.W.Fast.tw12563942051412417395 15 (midB w.params os ⟨.type "set", none, .set e1 n1 t1, #[]⟩ ⟨.type "set", none, .set e2 n2 t2, #[]⟩ ⟨.type "set", none, .set e3 n3 t3, #[]⟩ ⟨.type "set", none, .set e4 n4 t4, #[]⟩) (codeQ (PySem.W.Fast.tw10156331382660048174 (PySem.W.Fast.tw11892475500146522536 PySem.W.Fast.tw14364793385576792824) PySem.Challenge.pw_fb0053_01 (w.withFollow "special-get-raises" true)) (boot0 w.params os) (topStub prg)) posB (boot0 w.params os) (topStub prg)).map (fun TF => (TF.n, TF.gens, TF.os, TF.toks, (KF w.params ⟨.type "set", none, .set e1 n1 t1, #[]⟩ ⟨.type "set", none, .set e2 n2 t2, #[]⟩ ⟨.type "set", none, .set e3 n3 t3, #[]⟩ ⟨.type "set", none, .set e4 n4 t4, #[]⟩).map fun q => TF.tree.get q.1)) =
    some (812, #[], os, 1968, (KF w.params ⟨.type "set", none, .set e1 n1 t1, #[]⟩ ⟨.type "set", none, .set e2 n2 t2, #[]⟩ ⟨.type "set", none, .set e3 n3 t3, #[]⟩ ⟨.type "set", none, .set e4 n4 t4, #[]⟩).map fun q => some q.2) := by kernel_rfl!
end Mine
namespace Mine
open PySem PySem.W PySem.Calls PyProof.Rows
set_option autoImplicit false
set_option maxRecDepth 1000000
set_option maxHeartbeats 0

theorem ST_eq : PySem.W.Fast.tw10156331382660048174 (PySem.W.Fast.tw11892475500146522536 PySem.W.Fast.tw14364793385576792824) = stepT (denote table) := by
  rw [← PySem.W.Fast.te10156331382660048174, ← PySem.W.Fast.te11892475500146522536, ← PySem.W.Fast.te14364793385576792824, ← table_eq_tree]
theorem EX_eq : PySem.W.Fast.tw12563942051412417395 = execs := PySem.W.Fast.te12563942051412417395.symm

/-- the state ahead of the top -/
noncomputable def bootS (w : World) (os : OsState) : Shared := ⟨boot_heap w.params, #[], boot_drawn, boot_toks, os⟩
theorem boot_rep (w : World) (os : OsState) : Rep (boot0 w.params os) (bootS w os) := by
  refine ⟨rfl, fun a ha => ?_, rfl, rfl, rfl, rfl⟩
  have h : a < 11 := ha
  have : a = 0 ∨ a = 1 ∨ a = 2 ∨ a = 3 ∨ a = 4 ∨ a = 5 ∨ a = 6 ∨ a = 7 ∨ a = 8 ∨ a = 9 ∨ a = 10 := by omega
  rcases this with rfl | rfl | rfl | rfl | rfl | rfl | rfl | rfl | rfl | rfl | rfl
  · exact ⟨boot_o_0 w.params, by kernel_rfl!, get_objs (by kernel_rfl!)⟩
  · exact ⟨boot_o_1 w.params, by kernel_rfl!, get_objs (by kernel_rfl!)⟩
  · exact ⟨boot_o_2 w.params, by kernel_rfl!, get_objs (by kernel_rfl!)⟩
  · exact ⟨boot_o_3 w.params, by kernel_rfl!, get_objs (by kernel_rfl!)⟩
  · exact ⟨boot_o_4 w.params, by kernel_rfl!, get_objs (by kernel_rfl!)⟩
  · exact ⟨boot_o_5 w.params, by kernel_rfl!, get_objs (by kernel_rfl!)⟩
  · exact ⟨boot_o_6 w.params, by kernel_rfl!, get_objs (by kernel_rfl!)⟩
  · exact ⟨boot_o_7 w.params, by kernel_rfl!, get_objs (by kernel_rfl!)⟩
  · exact ⟨boot_o_8 w.params, by kernel_rfl!, get_objs (by kernel_rfl!)⟩
  · exact ⟨boot_o_9 w.params, by kernel_rfl!, get_objs (by kernel_rfl!)⟩
  · exact ⟨boot_o_10 w.params, by kernel_rfl!, get_objs (by kernel_rfl!)⟩

/-- what stands behind the top -/
structure Behind (w : World) (os : OsState) (O1 O2 O3 O4 : Obj) (s : Shared) : Prop where
  o1 : O1.SetObjOf (strKind prg w) (oneIn gvS) 9
  o2 : O2.SetObjOf (strKind prg w) (oneIn getS) 13
  o3 : O3.SetObjOf (strKind prg w) (oneIn gsS) 11
  o4 : O4.SetObjOf (strKind prg w) (oneIn gstS) 10
  size : s.heap.objs.size = 812
  os : s.os = os
  toks : 0 < s.toks
  at_ : ∀ q ∈ KF w.params O1 O2 O3 O4, s.heap.get? q.1 = some q.2

theorem KF_fine (P : Params) (e1 e2 e3 e4 : Array (Int × Value)) (n1 n2 n3 n4 : Nat) (t1 t2 t3 t4 : SetTable) :
    ((KF P ⟨.type "set", none, .set e1 n1 t1, #[]⟩ ⟨.type "set", none, .set e2 n2 t2, #[]⟩ ⟨.type "set", none, .set e3 n3 t3, #[]⟩ ⟨.type "set", none, .set e4 n4 t4, #[]⟩).all fun q => Nat.blt q.1 812 && !q.2.isFreed) = true := by kernel_rfl!

/-- what the end of the run holds -/
noncomputable def Held (w : World) (os : OsState) (O1 O2 O3 O4 : Obj) (TF : SharedT) : Prop :=
  TF.n = 812 ∧ TF.gens = #[] ∧ TF.os = os ∧ TF.toks = 1968 ∧ (∀ q ∈ KF w.params O1 O2 O3 O4, TF.tree.get q.1 = some q.2) ∧ ∀ q ∈ KF w.params O1 O2 O3 O4, q.1 < 812 ∧ q.2.isFreed = false

theorem last_of {os : OsState} {K : Frag} {x : Option SharedT}
    (h : x.map (fun TF => (TF.n, TF.gens, TF.os, TF.toks, K.map fun q => TF.tree.get q.1)) = some (812, #[], os, 1968, K.map fun q => some q.2)) :
    ∃ TF, x = some TF ∧ TF.n = 812 ∧ TF.gens = #[] ∧ TF.os = os ∧ TF.toks = 1968 ∧ ∀ q ∈ K, TF.tree.get q.1 = some q.2 := by
  obtain ⟨TF, k1, k2⟩ := Option.map_eq_some_iff.mp h
  obtain ⟨a, k2⟩ := Prod.mk.inj k2
  obtain ⟨b, k2⟩ := Prod.mk.inj k2
  obtain ⟨c, k2⟩ := Prod.mk.inj k2
  obtain ⟨d, k2⟩ := Prod.mk.inj k2
  exact ⟨TF, k1, a, b, c, d, List.map_inj_left.mp k2⟩

theorem head_ends (w : World) (os : OsState) : Ends prg w (fun s => ∃ O1 O2 O3 O4, Behind w os O1 O2 O3 O4 s) (bootS w os) (topStub prg) := by
  refine chain_ends3 (k := 11) (m := 4) (U1 := midA w.params os) (U2 := midB w.params os) (p1 := posA) (p2 := posB) (F := Held w os) (boot_rep w os)
    (fun O1 O2 O3 O4 q1 q2 q3 q4 a b c d => ?_) (fun O1 O2 O3 O4 a b c d => ?_) (fun O1 O2 O3 O4 a b c d => ?_) fun O1 O2 O3 O4 TF s' h1 h2 h3 h4 hF R => ?_
  · obtain ⟨e1, n1, t1, rfl⟩ := a
    obtain ⟨e2, n2, t2, rfl⟩ := b
    obtain ⟨e3, n3, t3, rfl⟩ := c
    obtain ⟨e4, n4, t4, rfl⟩ := d
    have h := head_A w os e1 e2 e3 e4 n1 n2 n3 n4 t1 t2 t3 t4 q1 q2 q3 q4
    rw [ST_eq, EX_eq] at h
    exact h
  · obtain ⟨e1, n1, t1, rfl⟩ := a
    obtain ⟨e2, n2, t2, rfl⟩ := b
    obtain ⟨e3, n3, t3, rfl⟩ := c
    obtain ⟨e4, n4, t4, rfl⟩ := d
    have h := head_M w os e1 e2 e3 e4 n1 n2 n3 n4 t1 t2 t3 t4
    rw [ST_eq, EX_eq] at h
    exact h
  · obtain ⟨e1, n1, t1, rfl⟩ := a
    obtain ⟨e2, n2, t2, rfl⟩ := b
    obtain ⟨e3, n3, t3, rfl⟩ := c
    obtain ⟨e4, n4, t4, rfl⟩ := d
    have fine := List.all_eq_true.mp (KF_fine w.params e1 e2 e3 e4 n1 n2 n3 n4 t1 t2 t3 t4)
    have e := World.withFollow_self w "special-get-raises"
    have key : ∃ TF, chainL (stepT (denote table) prg w) execs (11 + 4) (midB w.params os ⟨.type "set", none, .set e1 n1 t1, #[]⟩ ⟨.type "set", none, .set e2 n2 t2, #[]⟩ ⟨.type "set", none, .set e3 n3 t3, #[]⟩ ⟨.type "set", none, .set e4 n4 t4, #[]⟩)
        (codeQ (stepT (denote table) prg w) (boot0 w.params os) (topStub prg)) posB (boot0 w.params os) (topStub prg) = some TF ∧ TF.n = 812 ∧ TF.gens = #[] ∧ TF.os = os ∧ TF.toks = 1968 ∧
        ∀ q ∈ KF w.params ⟨.type "set", none, .set e1 n1 t1, #[]⟩ ⟨.type "set", none, .set e2 n2 t2, #[]⟩ ⟨.type "set", none, .set e3 n3 t3, #[]⟩ ⟨.type "set", none, .set e4 n4 t4, #[]⟩, TF.tree.get q.1 = some q.2 := by
      cases hf : w.params.followText "special-get-raises" with
      | false =>
        have h := head_Lf w os e1 e2 e3 e4 n1 n2 n3 n4 t1 t2 t3 t4
        rw [ST_eq, EX_eq] at h
        rw [hf] at e
        rw [e] at h
        exact last_of h
      | true =>
        have h := head_Lt w os e1 e2 e3 e4 n1 n2 n3 n4 t1 t2 t3 t4
        rw [ST_eq, EX_eq] at h
        rw [hf] at e
        rw [e] at h
        exact last_of h
    obtain ⟨TF, k1, k2, k3, k4, kt, k5⟩ := key
    exact ⟨TF, k1, k2, k3, k4, kt, k5, fun q hq => by
      have := fine q hq
      simp only [Bool.and_eq_true, Bool.not_eq_true'] at this
      exact ⟨Nat.le_of_ble_eq_true this.1, this.2⟩⟩
  · obtain ⟨z1, z2, z3, zt, z4, z5⟩ := hF
    refine ⟨R.gens.trans z2, O1, O2, O3, O4, h1, h2, h3, h4, R.size.trans z1, R.os.trans z3, by rw [R.toks, zt]; decide, fun q hq => ?_⟩
    obtain ⟨lt, fr⟩ := z5 q hq
    obtain ⟨o, g1, g2⟩ := R.at_ q.1 (by rw [z1]; exact lt)
    rw [z4 q hq] at g1
    cases g1
    rw [g2, alive_live fr]
end Mine
namespace Mine
open PySem PySem.W PySem.Calls PyProof.Rows
set_option autoImplicit false
set_option maxRecDepth 1000000
set_option maxHeartbeats 0

theorem kf_mem {w : World} {os : OsState} {O1 O2 O3 O4 : Obj} {s : Shared} (B : Behind w os O1 O2 O3 O4 s) {a : Addr} {o : Obj} (h : (a, o) ∈ KF w.params O1 O2 O3 O4) : s.heap.get? a = some o := B.at_ _ h
theorem boot_mem {P : Params} {O1 O2 O3 O4 : Obj} {q : Addr × Obj} (h : q ∈ bootK P) : q ∈ KF P O1 O2 O3 O4 := List.mem_append_left _ h

section
variable {w : World} {os : OsState} {O1 O2 O3 O4 : Obj} {s : Shared} (B : Behind w os O1 O2 O3 O4 s)
include B
theorem at0 : s.heap.get? 0 = some (boot_o_0 w.params) := kf_mem B (boot_mem (.head _))
theorem at2 : s.heap.get? 2 = some (ob2 w.params) := kf_mem B (List.mem_append_right _ (.head _))
theorem at3 : s.heap.get? 3 = some (ob3 w.params) := kf_mem B (List.mem_append_right _ (.tail _ (.head _)))
end
theorem boot2 (w : World) (os : OsState) : (bootS w os).heap.get? 2 = some (boot_o_2 w.params) := by
  have h : alive (boot_o_2 w.params) = some (boot_o_2 w.params) := by kernel_rfl!
  have e : (bootS w os).heap.objs[2]? = some (boot_o_2 w.params) := by kernel_rfl!
  exact (get_objs e).trans h
theorem boot3 (w : World) (os : OsState) : (bootS w os).heap.get? 3 = some (boot_o_3 w.params) := by
  have h : alive (boot_o_3 w.params) = some (boot_o_3 w.params) := by kernel_rfl!
  have e : (bootS w os).heap.objs[3]? = some (boot_o_3 w.params) := by kernel_rfl!
  exact (get_objs e).trans h

theorem small (b : Nat) (h : b < 11) (h2 : b ≠ 2) (h3 : b ≠ 3) : b = 0 ∨ b = 1 ∨ b = 4 ∨ b = 5 ∨ b = 6 ∨ b = 7 ∨ b = 8 ∨ b = 9 ∨ b = 10 := by omega

theorem top_ran (w : World) (os : OsState) : ∃ s₁, TopRan prg w (bootS w os) s₁ ∧ s₁.gens = #[] ∧ s₁.asleep ∧ ∃ O1 O2 O3 O4, Behind w os O1 O2 O3 O4 s₁ := by
  have hz : (bootS w os).asleep := ⟨by kernel_rfl!, by kernel_rfl!⟩
  obtain ⟨n, t, s₁, h1, h2, h3, h4, O1, O2, O3, O4, B⟩ := (head_ends w os).sched hz
  have e0 := at0 B
  have e2 := at2 B
  have e3 := at3 B
  have b2 := boot2 w os
  have b3 := boot3 w os
  have c2 : cStatics = 2 := by decide +kernel
  have c3 : mainGlobals = 3 := by decide +kernel
  have c3' : mainNs = 3 := by decide +kernel
  have c0 : builtinsNs = 0 := by decide +kernel
  have g3 : s₁.heap.isNs mainGlobals = true := by
    simp only [Heap.isNs, c3, e3]
    kernel_rfl!
  have g0 : s₁.heap.isNs builtinsNs = true := by
    simp only [Heap.isNs, c0, e0]
    kernel_rfl!
  have gm : Heap.bmainOk s₁.heap = true := by
    have e4 : s₁.heap.get? 4 = some (boot_o_4 w.params) := kf_mem B (boot_mem (.tail _ (.tail _ (.head _))))
    have hm : s₁.heap.nsMap mainGlobals "__builtins__" = some (.ref 4) := by
      simp only [Heap.nsMap, c3, e3]
      kernel_rfl!
    simp only [Heap.bmainOk, hm, e4]
    kernel_rfl!
  refine ⟨s₁, ⟨⟨n, t, h1, h2⟩, h3, Shared.rest_eq B.os, fun b o hb hn => ?_, Heap.accountedI_of_ok ?_, statics_of_ok ?_, Pin.keysAreStrs_of g3, fun x hx => (Pin.builtinOf_eq g0 x).trans (Heap.of_bltView g0 ?_ x hx), ?_, fun g hg => ?_, names_of_bound ?_, laid_of_kept ?_⟩, h4, Shared.asleep_of_life h3 hz, O1, O2, O3, O4, B⟩
  · have hlt : b < 11 := Heap.lt_size hb
    have n2 : b ≠ 2 := fun e => hn (.inr (.inl (e.trans c2.symm)))
    have n3 : b ≠ 3 := fun e => hn (.inl (e.trans c3'.symm))
    obtain ⟨o', g1, g2⟩ := (boot_rep w os).at_ b hlt
    rw [hb] at g2
    have ho := alive_some g2.symm
    subst ho
    have this := small b hlt n2 n3
    have key : ∀ (a : Addr) (x : Obj), (boot0 w.params os).tree.get a = some x → (a, x) ∈ bootK w.params → b = a → s₁.heap.get? b = some o := by
      rintro a x hx hm rfl
      rw [g1] at hx; cases hx
      exact kf_mem B (boot_mem hm)
    rcases this with h | h | h | h | h | h | h | h | h
    · exact key 0 _ (by kernel_rfl!) (.head _) h
    · exact key 1 _ (by kernel_rfl!) (.tail _ (.head _)) h
    · exact key 4 _ (by kernel_rfl!) (.tail _ (.tail _ (.head _))) h
    · exact key 5 _ (by kernel_rfl!) (.tail _ (.tail _ (.tail _ (.head _)))) h
    · exact key 6 _ (by kernel_rfl!) (.tail _ (.tail _ (.tail _ (.tail _ (.head _))))) h
    · exact key 7 _ (by kernel_rfl!) (.tail _ (.tail _ (.tail _ (.tail _ (.tail _ (.head _)))))) h
    · exact key 8 _ (by kernel_rfl!) (.tail _ (.tail _ (.tail _ (.tail _ (.tail _ (.tail _ (.head _))))))) h
    · exact key 9 _ (by kernel_rfl!) (.tail _ (.tail _ (.tail _ (.tail _ (.tail _ (.tail _ (.tail _ (.head _)))))))) h
    · exact key 10 _ (by kernel_rfl!) (.tail _ (.tail _ (.tail _ (.tail _ (.tail _ (.tail _ (.tail _ (.tail _ (.head _))))))))) h
  · simp only [Heap.accountedOkI, Heap.isNs, Heap.nsKeys, Heap.nsMap, c2, e2]
    kernel_rfl!
  · simp only [staticsOk, Heap.isNs, Heap.nsKeys, Heap.nsMap, c2, e2, b2]
    kernel_rfl!
  · simp only [Heap.bltView, Heap.nsPairs, c0, e0]
    kernel_rfl!
  · obtain ⟨bm, ob, a, _, c, d, f, _⟩ := Heap.bmainOk_spec gm
    exact ⟨bm, ob, (Pin.globalOf_eq g3 _).trans a, c, d, f⟩
  · rw [h4] at hg; simp at hg
  · simp only [namesBound, Heap.isNs, Heap.nsKeys, c3, e3]
    kernel_rfl!
  · simp only [laidKept, Heap.isNs, Heap.nsMap, c3, e3, b3]
    kernel_rfl!
end Mine
namespace Mine
open PySem PySem.W PySem.Calls PyProof.Rows
set_option autoImplicit false
set_option maxRecDepth 1000000
set_option maxHeartbeats 0

/-- what the law's def must do behind the top -/
noncomputable def LawOk : Prop := ∀ (w : World) (os : OsState) (O1 O2 O3 O4 : Obj) (s₀ s : Shared) (a : Addr) (items : List Value) (zs : List Int), Behind w os O1 O2 O3 O4 s₀ → (∀ b o, s₀.heap.get? b = some o → s.heap.get? b = some o) →
  s.heap.get? a = some ⟨.type "list", none, .seq items.toArray 0, #[]⟩ → s₀.heap.get? a = none → items.length = zs.length → (∀ (i : Nat) (x : Int), zs[i]? = some x → ∃ t, items[i]? = some (.int x t)) → zs.length ≤ 63 → 0 < s.toks → s.gens = #[] →
  wpAny (model prg w) callerA (call (.ref 811) [.ref a]) (fun v s' => v = .bool true ∧ (∀ b o, s.heap.get? b = some o → s'.heap.get? b = some o) ∧ s'.os = s.os ∧ s'.gens = #[]) (fun _ _ => False) s

theorem zs_of_has : ∀ {xs : List WData}, WShape.hasItems [] xs .int = true → ∃ zs : List Int, xs = zs.map .int
  | [], _ => ⟨[], rfl⟩
  | x :: xs, h => by
    unfold WShape.hasItems at h
    obtain ⟨h1, h2⟩ := Bool.and_eq_true_iff.mp h
    obtain ⟨zs, rfl⟩ := zs_of_has h2
    cases x with
    | int i => exact ⟨i :: zs, rfl⟩
    | _ => simp [WShape.has, WShape.arms] at h1
theorem lay_zs {cl : Str → Option Addr} {P : Params} {ord : List DictEntry → List DictEntry} : ∀ (zs : List Int) (s : Shared), ∃ vs, layAllW [] cl P ord (zs.map .int) s = some (vs, { s with toks := s.toks + zs.length }) ∧ vs.length = zs.length ∧ ∀ (i : Nat) (x : Int), zs[i]? = some x → ∃ t, vs[i]? = some (.int x t)
  | [], s => ⟨[], by simp [layAllW], rfl, fun i x h => by simp at h⟩
  | k :: zs, s => by
    obtain ⟨vs, h1, h2, h3⟩ := lay_zs zs { s with toks := s.toks + 1 }
    refine ⟨.int k s.toks :: vs, ?_, by rw [List.length_cons, h2, List.length_cons], fun i x h => ?_⟩
    · simp only [List.map_cons, layAllW, layW, List.length_cons]
      rw [h1]
      dsimp only
      rw [Nat.add_assoc, Nat.add_comm 1 zs.length]
    · cases i with
      | zero => simp at h; subst h; exact ⟨_, rfl⟩
      | succ i => exact h3 i x (by simpa using h)

noncomputable abbrev rwo : OpenLaw := PySem.Challenge.rw_fb0053_01
theorem pre_zs {args : List WData} (h : rwo.row.toRowW.claim.pre args = true) : ∃ zs : List Int, args = [.list (zs.map .int)] ∧ zs.length ≤ 63 := by
  obtain ⟨h1, h2⟩ := pre_splitW h
  obtain ⟨d, r, rfl, h3, h4⟩ := hasAllW_cons (show WShape.hasAll [] args [.list .int] = true from h1)
  have hr := hasAllW_nil h4
  subst hr
  cases d with
  | list xs =>
    have h5 : WShape.hasItems [] xs .int = true := by
      simpa [WShape.has, WShape.arms] using h3
    obtain ⟨zs, rfl⟩ := zs_of_has h5
    refine ⟨zs, rfl, ?_⟩
    have h6 : WTm.holds [] rwo.pre { args := [.list (zs.map .int)] } = true := h2
    have : rwo.pre = .and (.not (.lt (.lit (.int 63)) (.len (.arg 0)))) (.lit (.bool true)) := by rfl
    rw [this] at h6
    by_cases hl : zs.length ≤ 63
    · exact hl
    · exfalso
      have hv : WTm.value [] (.and (.not (.lt (.lit (.int 63)) (.len (.arg 0)))) (.lit (.bool true))) { args := [.list (zs.map .int)] } = some (.bool false) := by
        have h7 : WTm.value [] (.lt (.lit (.int 63)) (.len (.arg 0))) { args := [.list (zs.map .int)] } = some (.bool (decide ((63 : Int) < (((zs.map WData.int).length : Nat) : Int)))) := rfl
        have h8 : decide ((63 : Int) < (((zs.map WData.int).length : Nat) : Int)) = true := by rw [decide_eq_true_eq, List.length_map]; omega
        rw [h8] at h7
        have h9 : WTm.value [] (.not (.lt (.lit (.int 63)) (.len (.arg 0)))) { args := [.list (zs.map .int)] } = some (.bool false) := by
          unfold WTm.value
          rw [h7]; rfl
        unfold WTm.value
        rw [h9]
      unfold WTm.holds at h6
      rw [hv] at h6
      cases h6
  | _ => simp [WShape.has, WShape.arms] at h3

theorem the_def {w : World} {os : OsState} {O1 O2 O3 O4 : Obj} {s : Shared} (B : Behind w os O1 O2 O3 O4 s) : isTheDefsW prg s.heap "law" := by
  have e3 := at3 B
  have e811 : s.heap.get? 811 = some (ob811 w.params) := kf_mem B (by
    have : (KF w.params O1 O2 O3 O4).getLast? = some (811, ob811 w.params) := by kernel_rfl!
    exact List.mem_of_getLast? this)
  have c3' : mainNs = 3 := by decide +kernel
  refine ⟨811, ob811 w.params, _, _, _, _, ?_, e811, rfl, (by kernel_rfl! : prg.theDef "law" = some ((match stAt 21 with | .FunctionDef _ a .. => a | _ => default), (match stAt 21 with | .FunctionDef _ _ b .. => b | _ => []), (match stAt 21 with | .FunctionDef _ _ _ _ _ _ sc .. => sc | _ => default))), by kernel_rfl!, by kernel_rfl!, by kernel_rfl!, by kernel_rfl!, by kernel_rfl!, by kernel_rfl!, by kernel_rfl!, by kernel_rfl!, Or.inl ⟨by kernel_rfl!, by kernel_rfl!⟩, [], by kernel_rfl!, Or.inl ⟨rfl, by kernel_rfl!⟩⟩
  simp only [globalOf, c3', e3]
  kernel_rfl!

theorem post_true (zs : List Int) : rwo.row.toRowW.claim.post [.list (zs.map .int)] (.bool true) [.list (zs.map .int)] = true := by kernel_rfl!
theorem row_holds (L : LawOk) (said : rwo.row.wellSaid = true) : rwo.row.Holds := by
  have hbare : prg.bare := ⟨rfl, rfl, rfl, rfl, rfl, by decide +kernel⟩
  have hop : opensWell prg = true := by decide +kernel
  have wit : rwo.row.toRowW.promised := ⟨[.list []], by decide +kernel, by decide +kernel⟩
  have hnil : opening prg = plainProg prg.main.scope.names := by kernel_rfl!
  have hfence : ∀ s, fenceModules? prg s = some s := fun s => by rfl
  refine ⟨said, wit, ⟨hbare, hop, rfl⟩, wit.imp fun args h => ⟨h.1, (Bool.and_eq_true_iff.mp h.2).1⟩, fun w => ?_⟩
  have hb := boot_open (p := prg) (N := 600) hnil (by decide +kernel) hfence w
  obtain ⟨s0, h1, h2⟩ := Option.map_eq_some_iff.mp hb
  obtain ⟨e1, h2⟩ := Prod.mk.inj h2
  obtain ⟨e2, h2⟩ := Prod.mk.inj h2
  obtain ⟨e3, e4⟩ := Prod.mk.inj h2
  have e0 : s0 = bootS w s0.os := by
    obtain ⟨a, b, c, d, e⟩ := s0
    dsimp only at e1 e2 e3 e4
    subst e1 e2 e3 e4
    rfl
  unfold fencedOpening at h1
  rw [← table_eq_tree] at h1
  obtain ⟨sI, h3, h4⟩ := Option.bind_eq_some_iff.mp h1
  have A := AfterImport.of_importEnds h3
  refine ⟨⟨sI, A⟩, fun s' hs' => ?_⟩
  obtain rfl : s' = sI := AfterImport.unique hs' A
  obtain ⟨s₁, T, hg, hz, O1, O2, O3, O4, B⟩ := top_ran w s0.os
  refine ⟨s0, h4, e2, s₁, by rw [e0]; exact T, fun n hn => ?_, (fun x hx => nomatch hx), (fun x hx => nomatch hx), ?_⟩
  · have : n = "law" := by
      have hn : n ∈ ([("law" : Str)] : List Str) := hn
      exact List.mem_singleton.mp hn
    subst this
    exact the_def B
  refine ClaimW.callFrom_of_specN (c := rwo.row.toRowW.claim) (s := s₁) hz (by rw [hg]; simp [leftWithCleanup]) fun args hpre hlay ord hord => ?_
  obtain ⟨zs, rfl, hlen⟩ := pre_zs hpre
  obtain ⟨vs, k1, k2, k3⟩ := lay_zs (cl := classAt s₁.heap) (P := w.params) (ord := ord) zs s₁
  have hl : layAllW rwo.row.toRowW.claim.records (classAt s₁.heap) w.params ord [.list (zs.map .int)] s₁ = some ([.ref s₁.heap.objs.size], { s₁ with heap := s₁.heap.push { cls := .type "list", data := .seq vs.toArray }, toks := s₁.toks + zs.length }) := by
    show layAllW [] _ _ _ _ _ = _
    simp only [layAllW, layW]
    rw [k1]
  refine ⟨_, _, hl, ?_⟩
  have keep : ∀ b o, s₁.heap.get? b = some o → (s₁.heap.push { cls := .type "list", data := .seq vs.toArray }).get? b = some o := fun b o h => Heap.get?_push_of_some _ h
  have hnew : (s₁.heap.push { cls := .type "list", data := .seq vs.toArray }).get? s₁.heap.objs.size = some ⟨.type "list", none, .seq vs.toArray 0, #[]⟩ := Heap.get?_push_size _ rfl
  have hnone : s₁.heap.get? s₁.heap.objs.size = none := Heap.get?_none_of_le (Nat.le_refl _)
  have e3m := at3 B
  have c3 : mainGlobals = 3 := by decide +kernel
  have gm : (s₁.heap.push { cls := .type "list", data := .seq vs.toArray }).isNs mainGlobals = true := by
    simp only [Heap.isNs, c3, keep _ _ e3m]
    kernel_rfl!
  have hlaw : (s₁.heap.push { cls := .type "list", data := .seq vs.toArray }).nsMap mainGlobals "law" = some (.ref 811) := by
    simp only [Heap.nsMap, c3, keep _ _ e3m]
    kernel_rfl!
  have tk : 0 < s₁.toks + zs.length := by
    have := B.toks
    omega
  have law := L w s0.os O1 O2 O3 O4 s₁ { s₁ with heap := s₁.heap.push { cls := .type "list", data := .seq vs.toArray }, gens := #[], toks := s₁.toks + zs.length } s₁.heap.objs.size vs zs B keep hnew hnone k2 k3 hlen tk rfl
  show wpAny (model prg w) callerA (do match ← nsGet mainNs "law" with
      | some f => do ret (← call f [.ref s₁.heap.objs.size])
      | none => unsupported "claim.caller:no-such-global" : Sem Fin) _ _ _
  refine wpAny_bind (wpAny_nsGet (Heap.Ns.of_isNs gm) ?_)
  erw [hlaw]
  refine wpAny_bind (wpAny_mono law (fun v s2 z => wpAny_pure ?_) fun _ _ z => z.elim)
  obtain ⟨rfl, old, os2, gens2⟩ := z
  have rd : ∀ (zs : List Int) (vs : List Value), vs.length = zs.length → (∀ (i : Nat) (x : Int), zs[i]? = some x → ∃ t, vs[i]? = some (.int x t)) → ReadsAllW [] (classAt s₁.heap) s2.heap vs (zs.map .int) [] := by
    intro zs
    induction zs with
    | nil => intro vs h _; cases vs with
      | nil => exact .nil
      | cons _ _ => simp at h
    | cons x zs ih => intro vs h k; cases vs with
      | nil => simp at h
      | cons v vs =>
        obtain ⟨t, ht⟩ := k 0 x rfl
        simp only [List.getElem?_cons_zero, Option.some.injEq] at ht
        subst ht
        have := ReadsAllW.cons (.int x t) (ih vs (by simpa using h) fun i y hy => k (i + 1) y (by simpa using hy))
        simpa using this
  have rdl : ReadsAllW [] (classAt s₁.heap) s2.heap [.ref s₁.heap.objs.size] [.list (zs.map .int)] [s₁.heap.objs.size] := by
    have h1 : ReadsW [] (classAt s₁.heap) s2.heap (.ref s₁.heap.objs.size) (.list (zs.map .int)) (s₁.heap.objs.size :: []) := .list (old _ _ hnew) rfl rfl (by simpa using rd zs vs k2 k3)
    have := ReadsAllW.cons h1 .nil
    simpa using this
  exact ⟨.ret (.bool true), rfl, ⟨.inl ⟨.bool true, rfl, fun cls => rfl, ⟨.bool true, [.list (zs.map .int)], [], [s₁.heap.objs.size], .bool true, rdl, post_true zs, fun _ => ⟨List.nodup_nil, (fun a ha => nomatch ha), fun a ha => nomatch ha⟩, fun as₀ _ => ident_freeW (r := rwo.row.toRowW) rfl rfl rfl _ _⟩, (fun i hi => by cases hi), (fun b o hb _ _ => .inl (old b o hb)), fun i hi => nomatch hi⟩, os2, gens2, fun q => by cases q⟩⟩
end Mine
namespace Mine
open PySem PySem.W PySem.Calls PyProof.Rows
set_option autoImplicit false
set_option maxRecDepth 100000
variable {X : Cx}

noncomputable def swNames : List (Str × NameKind) := [("self", .cell), ("words", .local)]
noncomputable def scNames : List (Str × NameKind) := [(".0", .local), ("word", .local), ("self", .free)]
/-- the def that stems words in a row -/
structure SwOk (X : Cx) (f : Addr) (fd : FuncData) (p1 p2 p3 p4 p5 p6 : Pos) (sc : Scope) (pos rp : Pos) : Prop where
  at_ : ∃ o, X.H.get? f = some o ∧ o.data = .func fd
  globals : fd.globals = mainGlobals
  builtins : fd.builtins = builtinsNs
  closure : fd.closure = []
  body : fd.body = .stmts [.Return (some (.ListComp (.Call (.Attribute (.Name "self" p1) "stemWord" p2) [.Name "word" p3] [] p4) [⟨.Name "word" p5, .Name "words" p6, [], 0⟩] sc pos)) rp]
  line : (p2.endLine == p4.line) = true
  code : X.H.CodeRec fd.code fd.qualname
  names : fd.scope.names = swNames
  kind : fd.scope.kind = .function
  co : fd.scope.isCoroutine = false
  gen : fd.scope.isGenerator = false
  scn : sc.names = scNames
  sck : sc.kind = .function
  bind : ∀ a b : Value, bindArgs fd ⟨[a, b], []⟩ = pure [(("self" : Str), a), (("words" : Str), b)]

/-- values that are the texts of a list -/
noncomputable def Texts (ws : List (List Nat)) (vs : List Value) : Prop := vs.length = ws.length ∧ ∀ (i : Nat) (t : List Nat), ws[i]? = some t → ∃ k, vs[i]? = some (.str (tx t) k)

theorem texts_snoc {ws : List (List Nat)} {vs : List Value} {t : List Nat} {k : Tok} (h : Texts ws vs) : Texts (ws ++ [t]) (vs ++ [.str (tx t) k]) := by
  refine ⟨by rw [List.length_append, List.length_append, h.1]; rfl, fun i u hu => ?_⟩
  by_cases q : i < ws.length
  · rw [List.getElem?_append_left q] at hu
    rw [List.getElem?_append_left (by rw [h.1]; exact q)]
    exact h.2 i u hu
  · rw [List.getElem?_append_right (by omega)] at hu
    rw [List.getElem?_append_right (by rw [h.1]; omega), h.1]
    have : i - ws.length = 0 := by
      cases e : i - ws.length with
      | zero => rfl
      | succ n => rw [e] at hu; simp at hu
    rw [this] at hu ⊢
    simp at hu; subst hu
    exact ⟨k, rfl⟩

/-- the method as it is called -/
structure MethAt (X : Cx) (nm : Str) (f : Addr) (R : Nat) (sp : Spec) : Prop where
  nf : nm ∉ fnames
  pg : plainGet X.K X.C nm = true
  find : findIn X.K (.ref X.C) nm = some (some (.ref f))
  ty : typeIn X.K (.ref f) = some (.type "function")
  keep : keepIn X.K (.ref f) = true
  ok : MethOk X f R sp

/-- more lists may turn -/
noncomputable abbrev Cx.more (X : Cx) (D : Addr) : Cx := { X with chg := D :: X.chg }

mutual
theorem Rel.fresh {h : Heap} {D : Addr} (hD : h.get? D = none) : ∀ {v : Value} {x : V}, Rel X h v x → Rel (X.more D) h v x
  | _, _, .none => .none
  | _, _, .bool b => .bool b
  | _, _, .int i t => .int i t
  | _, _, .str s t => .str s t
  | _, _, .ref a => .ref a
  | _, _, .tup a items n l hm e r => .tup a items n l (fun q => by rcases List.mem_cons.mp q with rfl | q; (rw [hD] at e; cases e); exact hm q) e (r.fresh hD)
  | _, _, .lst a items n l hm e r => .lst a items n l (fun q => by rcases List.mem_cons.mp q with rfl | q; (rw [hD] at e; cases e); exact hm q) e (r.fresh hD)
  | _, _, .amg a d es n s sub res t1 t2 t3 e1 e2 g1 g2 g3 => .amg a d es n s sub res t1 t2 t3 e1 e2 g1 g2 g3
  | _, _, .set a l o n hn e x => .set a l o n hn e x
  | _, _, .dct a es n l hm e kl r => .dct a es n l hm e kl (r.fresh hD)
theorem RelL.fresh {h : Heap} {D : Addr} (hD : h.get? D = none) : ∀ {v : List Value} {x : List V}, RelL X h v x → RelL (X.more D) h v x
  | _, _, .nil => .nil
  | _, _, .cons v x vs xs r rs => .cons v x vs xs (r.fresh hD) (rs.fresh hD)
theorem RelD.fresh {h : Heap} {D : Addr} (hD : h.get? D = none) : ∀ {v : List DictEntry} {x : List (List Nat × V)}, RelD X h v x → RelD (X.more D) h v x
  | _, _, .nil => .nil
  | _, _, .cons hs s t v x es xs r rs => .cons hs s t v x es xs (r.fresh hD) (rs.fresh hD)
end
theorem SelfAt.fresh {h : Heap} {D x d : Addr} {F : List (Option V)} (hD : h.get? D = none) (S : SelfAt X h x d F) : SelfAt (X.more D) h x d F := by
  obtain ⟨a, c, ⟨f, n, g, r⟩, u, v⟩ := S
  refine ⟨a, c, ⟨f, n, g, fun k nm hk => ⟨fun V hV => ?_, (r k nm hk).2⟩⟩, u, v⟩
  obtain ⟨v', h1, h2⟩ := (r k nm hk).1 V hV
  exact ⟨v', h1, h2.fresh hD⟩

/-- what stands at every turn -/
structure Bas (X : Cx) (h₀ : Heap) (l : List Env) (x d aw L c : Addr) (items : Array Value) (s₀ s : Shared) : Prop where
  stat : Stat X s.heap
  self : ∃ F : Ms, SelfAt X s.heap x d F.fl
  pv : Pv [d] (L :: frs l) h₀ s.heap
  lns : ∃ m, s.heap.Ns L m
  list : ∃ n, s.heap.get? aw = some ⟨.type "list", none, .seq items n, #[]⟩
  cell : s.heap.IsCell c (some (.ref x))
  gens : s.gens = s₀.gens
  drawn : s.drawn = s₀.drawn
  os : s.os = s₀.os

/-- a place made since, that may turn -/
structure Loose (X : Cx) (h₀ : Heap) (x d aw L c z : Addr) : Prop where
  old : h₀.get? z = none
  low : X.H.get? z = none
  nx : z ≠ x
  nd : z ≠ d
  naw : z ≠ aw
  nL : z ≠ L
  nc : z ≠ c

theorem Bas.same {h₀ h' : Heap} {l : List Env} {x d aw L c z : Addr} {items : Array Value} {s₀ s : Shared} {tk : Nat} (B : Bas X h₀ l x d aw L c items s₀ s) (Z : Loose X h₀ x d aw L c z) (k : Heap.SameBut z s.heap h')
    (hz : (z ∈ X.chg ∧ ∃ o xs n, h'.get? z = some o ∧ o.data = .seq xs n) ∨ (z ∉ X.chg ∧ ∃ o, s.heap.get? z = some o ∧ ∀ xs n, o.data ≠ .seq xs n)) : Bas X h₀ l x d aw L c items s₀ { s with heap := h', toks := tk } := by
  have kk : ∀ b o, b ≠ z → s.heap.get? b = some o → h'.get? b = some o := fun b o hb e => (k.2 b hb).trans e
  have low : Low X s.heap h' := fun b cc xs n hb e => by
    refine kk b _ (fun q => ?_) e
    subst q
    rcases hz with ⟨h1, _⟩ | ⟨_, o, h1, h2⟩
    · exact hb h1
    · rw [e] at h1; cases h1; exact h2 _ _ rfl
  obtain ⟨F, S⟩ := B.self
  obtain ⟨m, n⟩ := B.lns
  obtain ⟨nl, hl⟩ := B.list
  refine ⟨⟨fun b o e => kk b o (fun q => by subst q; rw [Z.low] at e; cases e) (B.stat.1 b o e), fun a ha => ?_⟩, ⟨F, S.move low (fun o => kk _ o (Ne.symm Z.nx)) (fun o => kk _ o (Ne.symm Z.nd))⟩, ?_, ⟨m, n.at' fun o e => kk _ o (Ne.symm Z.nL) e⟩, ⟨nl, kk _ _ (Ne.symm Z.naw) hl⟩, B.cell.sameBut k (Ne.symm Z.nc), B.gens, B.drawn, B.os⟩
  · by_cases q : a = z
    · subst q
      rcases hz with ⟨_, h1⟩ | ⟨h1, _⟩
      · exact h1
      · exact absurd ha h1
    · obtain ⟨o, xs, n, e, hd⟩ := B.stat.2 a ha
      exact ⟨o, xs, n, kk _ _ q e, hd⟩
  · intro b o e hb
    have q : b ≠ z := fun q => by subst q; rw [Z.old] at e; cases e
    obtain ⟨⟨sl, e1⟩, e2⟩ := B.pv b o e hb
    exact ⟨⟨sl, kk _ _ q e1⟩, fun hf => kk _ _ q (e2 hf)⟩

/-- the surroundings of the turns -/
structure Sur (X : Cx) (A : Around) (l : List Env) (env : Env) (L R : Nat) (h₀ : Heap) (d : Addr) : Prop where
  handled : A.handled = none
  depth : A.depth + R < recursionLimit
  units : A.units + 10 * R + 40 < cLine
  frames : A.frames = some (env :: l)
  frame : env.frame = some L
  ff : h₀.FunFrames {} (env :: l)
  fr : ∀ a ∈ L :: frs l, X.H.get? a = none ∧ ∃ o es n, h₀.get? a = some o ∧ o.data = .dict es n
  nd : d ∉ L :: frs l

theorem frs_cons {env : Env} {l : List Env} {L : Addr} (h : env.frame = some L) : frs (env :: l) = L :: frs l := by
  unfold frs
  rw [List.filterMap_cons, h]

theorem Bas.room {A : Around} {l : List Env} {env : Env} {L R : Nat} {h₀ : Heap} {x d aw c : Addr} {items : Array Value} {s₀ s : Shared} (U : Sur X A l env L R h₀ d) (B : Bas X h₀ l x d aw L c items s₀ s) : Room X A (env :: l) R s.heap := by
  have inx : ∀ a, a ∈ L :: frs l → ∀ o, h₀.get? a = some o → ∃ sl, s.heap.get? a = some { o with slots := sl } := fun a ha o e =>
    (B.pv a o e fun q => by rw [List.mem_singleton.mp q] at ha; exact U.nd ha).1
  refine ⟨U.handled, U.depth, U.units, U.frames, ?_, fun a ha => ?_⟩
  · have key : ∀ l' : List Env, (∀ e ∈ l', ∀ a, e.frame = some a → a ∈ L :: frs l) → h₀.FunFrames {} l' → s.heap.FunFrames {} l' := by
      intro l'
      induction l' with
      | nil => intro _ _; trivial
      | cons e l' ih =>
        intro hm hl
        obtain ⟨hk, ⟨La, o, hf, hn, ho, hd⟩, hr⟩ := hl
        obtain ⟨sl, e'⟩ := inx La (hm e (.head _) La hf) o ho
        exact ⟨hk, ⟨La, _, hf, hn, e', hd⟩, ih (fun e' h' => hm e' (.tail _ h')) hr⟩
    refine key _ (fun e he a ha => ?_) U.ff
    rw [← frs_cons U.frame]
    exact List.mem_filterMap.mpr ⟨e, he, ha⟩
  · rw [frs_cons U.frame] at ha
    obtain ⟨h1, o, es, n, e, hd⟩ := U.fr a ha
    obtain ⟨sl, e'⟩ := inx a ha o e
    exact ⟨h1, _, es, n, e', hd⟩

/-- an object that is no dict stands through a method's call -/
theorem Bas.call {A : Around} {l : List Env} {env : Env} {L R : Nat} {h₀ : Heap} {x d aw c : Addr} {items : Array Value} {s₀ s s' : Shared} {F' : Ms} (U : Sur X A l env L R h₀ d) (B : Bas X h₀ l x d aw L c items s₀ s)
    (pv : Pv [d] (frs (env :: l)) s.heap s'.heap) (S' : SelfAt X s'.heap x d F'.fl) (sm : Same s s') :
    Bas X h₀ l x d aw L c items s₀ s' ∧ (∀ b o, s.heap.get? b = some o → b ≠ d → b ∉ L :: frs l → s'.heap.get? b = some o) ∧ (∀ b o, s.heap.get? b = some o → (∀ es n, o.data ≠ .dict es n) → s'.heap.get? b = some o) := by
  rw [frs_cons U.frame] at pv
  obtain ⟨F, S⟩ := B.self
  have ex : ∀ b o, s.heap.get? b = some o → b ≠ d → b ∉ L :: frs l → s'.heap.get? b = some o := fun b o e h1 h2 => (pv b o e fun q => h1 (List.mem_singleton.mp q)).2 h2
  have RM := B.room U
  have nodict : ∀ b o, s.heap.get? b = some o → (∀ es n, o.data ≠ .dict es n) → s'.heap.get? b = some o := fun b o e hd => ex b o e (fun q => by
      subst q
      obtain ⟨f, ⟨o', es, ep, e1, e2, _⟩, _⟩ := S.ns
      rw [e] at e1; cases e1
      exact hd _ _ e2) fun q => by
      have := RM.fr b (by rw [frs_cons U.frame]; exact q)
      obtain ⟨_, o', es, n, e1, e2⟩ := this
      rw [e] at e1; cases e1
      exact hd _ _ e2
  obtain ⟨m, n⟩ := B.lns
  obtain ⟨nl, hl⟩ := B.list
  obtain ⟨oc, ec, dc⟩ := B.cell
  refine ⟨⟨⟨fun b o e => ?_, fun a ha => ?_⟩, ⟨F', S'⟩, B.pv.trans pv, ⟨m, Ns.slots n fun o e => (pv _ o e fun q => ?_).1⟩, ⟨nl, nodict _ _ hl fun es n q => by cases q⟩, ⟨oc, nodict _ _ ec fun es n q => (by rw [dc] at q; cases q), dc⟩, sm.1.trans B.gens, sm.2.1.trans B.drawn, sm.2.2.1.trans B.os⟩, ex, nodict⟩
  · refine ex b o (B.stat.1 b o e) (fun q => by subst q; rw [S.hd] at e; cases e) fun q => ?_
    rw [(U.fr b q).1] at e; cases e
  · obtain ⟨o, xs, k, e, hd⟩ := B.stat.2 a ha
    exact ⟨o, xs, k, nodict a o e (fun es n q => by rw [hd] at q; cases q), hd⟩
  · exact U.nd (by rw [List.mem_singleton.mp q] at *; exact List.mem_cons_self)
end Mine
namespace Mine
open PySem PySem.W PySem.Calls PyProof.Rows
set_option autoImplicit false
set_option maxRecDepth 100000
variable {X : Cx}

structure Trn (X : Cx) (h₀ : Heap) (l : List Env) (x d aw L c it C D : Addr) (words : List (List Nat)) (items : Array Value) (done : Nat) (s₀ s : Shared) : Prop where
  bas : Bas X h₀ l x d aw L c items s₀ s
  iter : s.heap.IsListIter it aw done
  ns : ∃ m, s.heap.Ns C m
  acc : ∃ ys, Texts ((words.take done).map stemText) ys ∧ s.heap.PlainList D ys.toArray

/-- where the row's comprehension keeps its things -/
structure Plc (X : Cx) (h₀ : Heap) (x d aw L c it C D : Addr) : Prop where
  lit : Loose X h₀ x d aw L c it
  lC : Loose X h₀ x d aw L c C
  lD : Loose X h₀ x d aw L c D
  itC : it ≠ C
  itD : it ≠ D
  CD : C ≠ D
  Dc : D ∈ X.chg
  itc : it ∉ X.chg
  Cc : C ∉ X.chg

section
variable {A : Around} {l : List Env} {env : Env} {h₀ : Heap} {x d aw L c it C D : Addr} {words : List (List Nat)} {items : Array Value} {s₀ : Shared} {R : Nat} {f19 : Addr} {p1 p2 p3 p4 p5 p6 pos : Pos} {sc : Scope} {cenv : Env}

theorem elt_ok (U : Sur X A l env L R h₀ d) (P : Plc X h₀ x d aw L c it C D) (M : MethAt X "stemWord" f19 R sp_stemWord) (XK : X.K.In X.H) (hok : ∀ t ∈ words, t.length ≤ 1000 ∧ calm t) (hxL : x ∉ L :: frs l) (hxd : x ≠ d)
    (hline : (p2.endLine == p4.line) = true) (hk : cenv.scope.kind = .function) (hw : cenv.kindOf "word" = some .local) (hs : cenv.kindOf "self" = some .cell) (hc : cenv.cells.lookup ("self" : Str) = some c) (hC : cenv.locals = C)
    {t : List Nat} {tk : Tok} (ht : t ∈ words) {n : Nat} {s : Shared} (B : Bas X h₀ l x d aw L c items s₀ s) (htk : 0 < s.toks) (hit : s.heap.IsListIter it aw n) {ys : List Value} (hacc : s.heap.PlainList D ys.toArray) {m : Str → Option Value} (hns : s.heap.Ns C m) (hm : m "word" = some (.str (tx t) tk)) {E : Value → Shared → Prop} :
    wpAny (model X.prog X.w) A (eval (.Call (.Attribute (.Name "self" p1) "stemWord" p2) [.Name "word" p3] [] p4) cenv) (fun v s' => ∃ k, v = .str (tx (stemText t)) k ∧ Bas X h₀ l x d aw L c items s₀ s' ∧ s'.heap.IsListIter it aw n ∧ s'.heap.PlainList D ys.toArray ∧ ∃ m, s'.heap.Ns C m) E s := by
  refine wp_mcall rfl rfl (show 1 < 30 from by decide) hline ?_
  refine wpAny_Name (wpAny_loadName_cell hk hs hc B.cell ?_) rfl
  obtain ⟨ms, S⟩ := B.self
  obtain ⟨ox, o, ia, _, hlook⟩ := self_inst S M.nf
  have hK : X.K.In s.heap := XK.keeps B.stat.1
  refine method_fn hK ia (plainGet_of M.pg).1 (plainGet_of M.pg).2 M.find M.ty (by show (lookIn _ o).map _ = _; rw [hlook]; rfl) ?_
  refine callWith_of (P := X.K.In) rfl (keeps_K M.keep) (wp_args rfl ?_)
  refine spliced_more (wpAny_Name (wpAny_loadName_local hk hw (by rw [hC]; exact hns) hm ?_) rfl) (starEach_cons rfl)
  refine spliced_none ?_
  refine ⟨hK, ?_⟩
  refine wpAny_mono (M.ok A (env :: l) s x d ms.fl [.str (tx t) tk] [.str t] (fun V F' => V = .str (stemText t) ∧ ∃ m : Ms, F' = m.fl) E (B.room U) B.stat htk S (by rw [frs_cons U.frame]; exact hxL) (by rw [frs_cons U.frame]; exact U.nd) hxd (.cons _ _ _ _ (.str t tk) .nil) ⟨t, ms, rfl, rfl, (hok t ht).1, (hok t ht).2, fun c l lb bra ket p1 p2 => ⟨rfl, _, rfl⟩⟩) (fun v s' z => ?_) fun _ _ z => z
  obtain ⟨W, F', pv, S', rv, sm, rfl, m', rfl⟩ := z
  obtain ⟨B', ex, nodict⟩ := B.call U pv S' sm
  cases rv with
  | str _ k =>
    obtain ⟨o1, h1, h2, h3⟩ := hit
    obtain ⟨n1, h4⟩ := hacc
    refine ⟨k, rfl, B', ⟨o1, nodict _ _ h1 (fun es n q => by rw [h3] at q; cases q), h2, h3⟩, ⟨n1, nodict _ _ h4 fun es n q => by cases q⟩, m, hns.at' fun o e => ex _ o e P.lC.nd fun q => ?_⟩
    obtain ⟨_, o', es, k', e', _⟩ := U.fr C q
    rw [P.lC.old] at e'; cases e'

theorem loop_ok (U : Sur X A l env L R h₀ d) (P : Plc X h₀ x d aw L c it C D) (M : MethAt X "stemWord" f19 R sp_stemWord) (XK : X.K.In X.H) (hok : ∀ t ∈ words, t.length ≤ 1000 ∧ calm t) (hxL : x ∉ L :: frs l) (hxd : x ≠ d)
    (hline : (p2.endLine == p4.line) = true) (hk : cenv.scope.kind = .function) (hw : cenv.kindOf "word" = some .local) (hs : cenv.kindOf "self" = some .cell) (hc : cenv.cells.lookup ("self" : Str) = some c) (hC : cenv.locals = C)
    (htx : Texts words items.toList) (hsz : words.length ≤ 1000) {Rr : Result → Shared → Prop} {iter : PySem.Expr} {cpos : Pos}
    (hR : ∀ s' ys m, Texts (words.map stemText) ys → s'.heap.PlainList D ys.toArray → s'.heap.Ns C m → Pv [d] (L :: frs l) h₀ s'.heap → s'.gens = s₀.gens → s'.drawn = s₀.drawn → s'.os = s₀.os → Rr (.ok .next) s')
    {s : Shared} (T : Trn X h₀ l x d aw L c it C D words items 0 s₀ s) :
    codeAny (model X.prog X.w) A (.compLoop (.ListComp (.Call (.Attribute (.Name "self" p1) "stemWord" p2) [.Name "word" p3] [] p4) [⟨.Name "word" p5, iter, [], 0⟩] sc cpos) 0 (.ref it) (.ref D) cenv) Rr s := by
  have hlen : items.size = words.length := by rw [← htx.1, Array.length_toList]
  refine codeAny_compLoop_list (fun n s => ∃ k, k ≤ words.length ∧ n = words.length - k ∧ Trn X h₀ l x d aw L c it C D words items k s₀ s) (fun n s T => ?_) (words.length) ⟨0, Nat.zero_le _, rfl, T⟩
  obtain ⟨k, hk1, rfl, B, hit, ⟨m, hns⟩, ys, hys, hacc⟩ := T
  obtain ⟨nl, hlst⟩ := B.list
  have hL : s.heap.IsList aw items := ⟨_, hlst, rfl, nl, rfl⟩
  by_cases hlt : k < words.length
  · obtain ⟨t, ht⟩ : ∃ t, words[k]? = some t := ⟨_, List.getElem?_eq_getElem hlt⟩
    obtain ⟨tk, hv⟩ := htx.2 k t ht
    rw [Array.getElem?_toList] at hv
    refine wpAny_pyNext_list_item hit hL hv fun h1 hit1 sb1 => ?_
    dsimp only
    obtain ⟨oi, ei, ci, di⟩ := hit
    have B1 := B.same (tk := s.toks) P.lit sb1 (.inr ⟨P.itc, oi, ei, fun xs n q => by rw [di] at q; cases q⟩)
    have hns1 : h1.Ns C m := hns.sameBut sb1 (Ne.symm P.itC)
    refine wpAny_assign_Name (wpAny_storeName_local hw (by rw [hC]; exact hns1) (fun h2 hns2 sb2 => ?_) (by rw [hk]; rfl))
    rw [hC] at hns2 sb2
    obtain ⟨oC, esC, epC, eC, dC, _⟩ := id hns1
    have B2 := B1.same (tk := s.toks + 1) P.lC sb2 (.inr ⟨P.Cc, oC, eC, fun xs n q => by rw [dC] at q; cases q⟩)
    have hit2 : h2.IsListIter it aw (k + 1) := let ⟨o, e, r⟩ := hit1; ⟨o, (sb2.2 _ P.itC).trans e, r⟩
    have hacc2 : h2.PlainList D ys.toArray := by
      obtain ⟨n, e⟩ := hacc
      exact ⟨n, (sb2.2 _ (Ne.symm P.CD)).trans ((sb1.2 _ (Ne.symm P.itD)).trans e)⟩
    refine wpAny_mono (elt_ok (E := notedBy (model X.prog X.w) A cenv fun e s' => Rr (.error e) s') U P M XK hok hxL hxd hline hk hw hs hc hC (tk := tk) (List.mem_of_getElem? ht) B2 (Nat.succ_pos _) hit2 hacc2 hns2 (if_pos rfl)) (fun v s3 z => ?_) fun _ _ z => z
    obtain ⟨kk, rfl, B3, hit3, hacc3, m3, hns3⟩ := z
    have hys3 : ys.length ≤ 1000 := by
      rw [hys.1, List.length_map, List.length_take]; omega
    refine wpAny_list_append_plain hacc3 (fun h4 hacc4 sb4 => ?_) (by rw [List.size_toArray, PySem.sizeLine_eq]; omega)
    obtain ⟨n4, e4⟩ := id hacc4
    have B4 := B3.same (tk := s3.toks) P.lD sb4 (.inl ⟨P.Dc, _, _, _, e4, rfl⟩)
    refine ⟨words.length - (k + 1), by omega, k + 1, hlt, rfl, B4, ?_, ⟨m3, hns3.sameBut sb4 P.CD⟩, ys ++ [.str (tx (stemText t)) kk], ?_, ?_⟩
    · obtain ⟨o, e, r⟩ := hit3
      exact ⟨o, (sb4.2 _ P.itD).trans e, r⟩
    · rw [List.take_add_one, ht, List.map_append]
      exact texts_snoc hys
    · have : (ys ++ [Value.str (tx (stemText t)) kk]).toArray = ys.toArray.push (.str (tx (stemText t)) kk) := by simp
      rw [this]; exact hacc4
  · have hk2 : k = words.length := by omega
    subst hk2
    refine wpAny_pyNext_list_end U.handled hit hL (by rw [Array.getElem?_eq_none (by omega)]) fun h1 ext => ?_
    dsimp only
    rw [List.take_length] at hys
    obtain ⟨n, e⟩ := hacc
    refine hR _ ys m hys ⟨n, ext _ _ (Ne.symm P.itD) e⟩ (hns.at' fun o e => ext _ _ (Ne.symm P.itC) e) ?_ B.gens B.drawn B.os
    intro b o eb hb
    have q : b ≠ it := fun q => by subst q; rw [P.lit.old] at eb; cases eb
    obtain ⟨⟨sl, e1⟩, e2⟩ := B.pv b o eb hb
    exact ⟨⟨sl, ext _ _ q e1⟩, fun hf => ext _ _ q (e2 hf)⟩
end
end Mine
namespace Mine
open PySem PySem.W PySem.Calls PyProof.Rows
set_option autoImplicit false
set_option maxRecDepth 100000
variable {X : Cx}

/-- the same but the heap and the tokens -/
noncomputable def Sam (s s' : Shared) : Prop := s'.gens = s.gens ∧ s'.drawn = s.drawn ∧ s'.os = s.os

theorem stemWords_ok {f f19 : Addr} {fd : FuncData} {p1 p2 p3 p4 p5 p6 : Pos} {sc : Scope} {pos rp : Pos} {R : Nat} (XO : X.Ok) (SW : SwOk X f fd p1 p2 p3 p4 p5 p6 sc pos rp)
    (M : ∀ D, X.H.get? D = none → MethAt (X.more D) "stemWord" f19 R sp_stemWord)
    {A : Around} {l : List Env} {s : Shared} {x d aw n : Addr} {F : Ms} {words : List (List Nat)} {items : Array Value} {E : Value → Shared → Prop}
    (RM : Room X A l (R + 1) s.heap) (st : Stat X s.heap) (tk : 0 < s.toks) (S : SelfAt X s.heap x d F.fl) (hx : x ∉ frs l) (hd : d ∉ frs l) (hxd : x ≠ d)
    (hw : s.heap.get? aw = some ⟨.type "list", none, .seq items n, #[]⟩) (htx : Texts words items.toList) (hok : ∀ t ∈ words, t.length ≤ 1000 ∧ calm t) (hsz : words.length ≤ 1000) :
    wpAny (model X.prog X.w) A (call (.ref f) [.ref x, .ref aw]) (fun v s' => ∃ D ys, v = .ref D ∧ s.heap.get? D = none ∧ Texts (words.map stemText) ys ∧ s'.heap.PlainList D ys.toArray ∧ Pv [d] (frs l) s.heap s'.heap ∧ Sam s s') E s := by
  obtain ⟨o, ho, hod⟩ := SW.at_
  refine wpAny_call (codeAny_call_cells (by have := RM.depth; omega) (st.1 _ _ ho) hod (nolimit_of XO st) (SW.code.keeps st.1) SW.body (SW.bind _ _) SW.closure ?_ (fun s1 IC => ?_) SW.co SW.gen SW.kind)
  · intro p hp
    rw [SW.names]
    simp only [List.mem_cons, List.not_mem_nil, or_false] at hp
    rcases hp with rfl | rfl
    · exact .inr ⟨rfl, rfl⟩
    · exact .inl rfl
  -- the frame of the def
  generalize hL : s.heap.objs.size = L at IC ⊢
  have hcells : (callEnvC fd L f).cells = [(("self" : Str), L + 1)] := by
    show cellsFrom (L + 1) fd.scope.names [] = _
    rw [SW.names]; rfl
  have hk : (callEnvC fd L f).scope.kind = .function := SW.kind
  have hself : (callEnvC fd L f).kindOf "self" = some .cell := by
    show fd.scope.names.lookup ("self" : Str) = _
    rw [SW.names]; rfl
  have hwords : (callEnvC fd L f).kindOf "words" = some .local := by
    show fd.scope.names.lookup ("words" : Str) = _
    rw [SW.names]; rfl
  have hm : (bindL (callEnvC fd L f).kindOf [(("self" : Str), .ref x), (("words" : Str), .ref aw)] fun _ => none) "words" = some (.ref aw) := by
    simp only [bindL]
    rw [hself, hwords]
    simp
  have hcm : (bindC (callEnvC fd L f).kindOf [(("self" : Str), .ref x), (("words" : Str), .ref aw)] fun _ => none) "self" = some (.ref x) := by
    simp only [bindC]
    rw [hself, hwords]
    simp
  have hfr : (callEnvC fd L f).frame = some L := rfl
  obtain ⟨h1, tk1, e1⟩ := IC.toInCall.same
  have keep : ∀ b o, s.heap.get? b = some o → s1.heap.get? b = some o := IC.toInCall.keep
  have nsL : s1.heap.Ns L _ := IC.toInCall.ns
  have hcell : s1.heap.IsCell (L + 1) (some (.ref x)) := by
    have := IC.cell "self" (L + 1) (by rw [hcells]; rfl)
    rwa [hcm] at this
  have lt1 : L + 1 < s1.heap.objs.size := hcell.lt
  have oldlt : ∀ {b o}, s.heap.get? b = some o → b < L := fun e => by rw [← hL]; exact Heap.lt_size e
  -- the row's comprehension
  refine wpAny_execs_cons (wpAny_Return_some ?_)
  rw [eval_ListComp]
  refine wpAny_comprehension_free (use := none) (cl := [(("self" : Str), L + 1)]) rfl (fun _ => rfl) ?_ SW.sck ?_ ?_
  · unfold closureFor
    rw [SW.scn]
    simp only [scNames, cellOf, hcells]
    rfl
  · rw [SW.scn]; decide
  refine wpAny_Name (wpAny_loadName_local hk hwords nsL hm ?_) rfl
  have hw1 := keep _ _ hw
  refine wpAny_pyIter_list ⟨_, hw1, rfl, n, rfl⟩ ?_
  refine wpAny_newObj_type ?_
  refine wpAny_newFunctionEnv (by rw [SW.scn]; decide) (by intro y hy; simp at hy) (fun h2 ns2 sb2 => ?_) SW.sck
  dsimp only at ns2 sb2 ⊢
  obtain ⟨it, hit⟩ : ∃ it, it = s1.heap.objs.size := ⟨_, rfl⟩
  have eD : (s1.heap.push { cls := .type "list_iterator", data := .fields #[.ref aw, .int 0 0] }).objs.size = it + 1 := by rw [Heap.size_push, hit]
  have eC : ((s1.heap.push { cls := .type "list_iterator", data := .fields #[.ref aw, .int 0 0] }).push { cls := .type "list", data := .seq ([] : List Value).toArray }).objs.size = it + 2 := by rw [Heap.size_push, eD]
  rw [eC] at ns2 sb2
  rw [eC, eD, ← hit]
  have lt1' : L + 1 < it := by rw [hit]; exact lt1
  have none1 : ∀ z, it ≤ z → s1.heap.get? z = none := fun z hz => Heap.get?_none_of_le (by rw [← hit]; exact hz)
  have far : ∀ a z : Nat, a < L → it ≤ z → z ≠ a := fun a z h1 h2 => by omega
  have near2 : ∀ a k : Nat, a < it → a ≠ it + k := fun a k h => by omega
  have fl : ∀ z : Nat, it ≤ z → z ≠ L ∧ z ≠ L + 1 := fun z h => by omega
  have nl : ∀ z : Nat, it ≤ z → ¬ z < L := fun z h => by omega
  have up : ∀ b o, s1.heap.get? b = some o → h2.get? b = some o := fun b o e => by
    have hb : b < it := by rw [hit]; exact Heap.lt_size e
    exact sb2.extBut b o (near2 b 2 hb) (Heap.get?_push_of_some _ (Heap.get?_push_of_some _ (Heap.get?_push_of_some _ e)))
  have lowX : ∀ z, it ≤ z → X.H.get? z = none := fun z hz => by
    cases q : X.H.get? z with
    | none => rfl
    | some o' => exact absurd (oldlt (st.1 _ _ q)) (nl z hz)
  have dalive : ∃ od, s.heap.get? d = some od := by
    obtain ⟨_, ⟨od, _, _, e, _⟩, _⟩ := S.ns
    exact ⟨od, e⟩
  obtain ⟨od, ed⟩ := dalive
  obtain ⟨slx, ex⟩ := S.inst
  have loose : ∀ z, it ≤ z → Loose (X.more (it + 1)) s1.heap x d aw L (L + 1) z := fun z hz => by
    exact ⟨none1 z hz, lowX z hz, far _ z (oldlt ex) hz, far _ z (oldlt ed) hz, far _ z (oldlt hw) hz, (fl z hz).1, (fl z hz).2⟩
  have chgl : ∀ z, it ≤ z → z ∉ X.chg := fun z hz q => by
    obtain ⟨o', _, _, e, _⟩ := st.2 z q
    exact nl z hz (oldlt e)
  have P : Plc (X.more (it + 1)) s1.heap x d aw L (L + 1) it (it + 2) (it + 1) := {
    lit := loose it (Nat.le_refl _)
    lC := loose _ (Nat.le_add_right _ _)
    lD := loose _ (Nat.le_add_right _ _)
    itC := Nat.ne_of_lt (Nat.lt_add_of_pos_right (by decide))
    itD := Nat.ne_of_lt (Nat.lt_add_of_pos_right (by decide))
    CD := Nat.ne_of_gt (Nat.lt_succ_self _)
    Dc := .head _
    itc := fun q => by
      rcases List.mem_cons.mp q with q | q
      · exact Nat.ne_of_lt (Nat.lt_succ_self _) q
      · exact chgl it (Nat.le_refl _) q
    Cc := fun q => by
      rcases List.mem_cons.mp q with q | q
      · exact Nat.ne_of_gt (Nat.lt_succ_self _) q
      · exact chgl (it + 2) (Nat.le_add_right _ _) q }
  have U : Sur (X.more (it + 1)) (A.deeper (callEnvC fd L f)) l (callEnvC fd L f) L R s1.heap d := {
    handled := RM.handled
    depth := by have := RM.depth; show A.depth + 1 + R < _; omega
    units := by have := RM.units; show A.units + 3 + 10 * R + 40 < _; omega
    frames := by show A.frames.map _ = _; rw [RM.frames]; rfl
    frame := hfr
    ff := Heap.FunFrames.cons (by rw [hk]; decide) hfr nsL (by rfl) (RM.ff.of_keeps fun b o e _ => ⟨o, keep b o e, rfl⟩)
    fr := fun a ha => by
      rcases List.mem_cons.mp ha with rfl | ha
      · obtain ⟨o', es, ep, e, hd', _⟩ := nsL
        refine ⟨?_, o', es, ep, e, hd'⟩
        cases q : X.H.get? a with
        | none => rfl
        | some o' => exact absurd (oldlt (st.1 _ _ q)) (Nat.lt_irrefl _)
      · obtain ⟨h1', o', es, k', e, hd'⟩ := RM.fr a ha
        exact ⟨h1', o', es, k', keep _ _ e, hd'⟩
    nd := fun q => by
      rcases List.mem_cons.mp q with q | q
      · exact Nat.ne_of_lt (oldlt ed) q
      · exact hd q }
  have hxL : x ∉ L :: frs l := fun q => by
    rcases List.mem_cons.mp q with q | q
    · exact Nat.ne_of_lt (oldlt ex) q
    · exact hx q
  have hnoneD : s.heap.get? (it + 1) = none := by
    cases q : s.heap.get? (it + 1) with
    | none => rfl
    | some o' => exact absurd (oldlt q) (nl _ (Nat.le_add_right _ _))
  have both : ∀ b o, s.heap.get? b = some o → h2.get? b = some o := fun b o e => up b o (keep b o e)
  have hDl : h2.get? (it + 1) = some ⟨.type "list", none, .seq ([] : List Value).toArray 0, #[]⟩ := by
    refine sb2.extBut _ _ (Nat.ne_of_lt (Nat.lt_succ_self _)) (Heap.get?_push_of_some _ ?_)
    rw [← eD]; exact Heap.get?_push_size _ rfl
  have T : Trn (X.more (it + 1)) s1.heap l x d aw L (L + 1) it (it + 2) (it + 1) words items 0 s1 { s1 with heap := h2, toks := s1.toks + ([] : List (Str × Value)).length } := {
    bas := {
      stat := ⟨fun b o e => both b o (st.1 b o e), fun a ha => by
        rcases List.mem_cons.mp ha with rfl | ha
        · exact ⟨_, _, _, hDl, rfl⟩
        · obtain ⟨o', xs, k', e, hd'⟩ := st.2 a ha
          exact ⟨o', xs, k', both _ _ e, hd'⟩⟩
      self := ⟨F, (S.fresh hnoneD).move (.of_keeps both) (fun o => both _ o) (fun o => both _ o)⟩
      pv := .of_keeps up
      lns := ⟨_, nsL.keeps up⟩
      list := ⟨n, both _ _ hw⟩
      cell := hcell.keeps up
      gens := rfl
      drawn := rfl
      os := rfl }
    iter := by
      refine ⟨{ cls := .type "list_iterator", data := .fields #[.ref aw, .int 0 0] }, sb2.extBut _ _ (Nat.ne_of_lt (Nat.lt_add_of_pos_right (by decide))) (Heap.get?_push_of_some _ (Heap.get?_push_of_some _ ?_)), rfl, rfl⟩
      rw [hit]; exact Heap.get?_push_size _ rfl
    ns := ⟨_, ns2⟩
    acc := ⟨[], ⟨rfl, fun i t h => by simp at h⟩, 0, hDl⟩ }
  have hkr : (compEnvC sc [(("self" : Str), L + 1)] (it + 2) (callEnvC fd L f)).kindOf "self" = some .cell := by
    show List.lookup ("self" : Str) (relabel sc (callEnvC fd L f)).names = _
    unfold relabel
    rw [SW.scn]
    simp only [scNames, List.map_cons, List.map_nil, hk, hself]
    rfl
  have hkw : (compEnvC sc [(("self" : Str), L + 1)] (it + 2) (callEnvC fd L f)).kindOf "word" = some .local := by
    show List.lookup ("word" : Str) (relabel sc (callEnvC fd L f)).names = _
    refine lookup_relabel_local ?_
    rw [SW.scn]; rfl
  have XKH : (X.more (it + 1)).K.In (X.more (it + 1)).H := XO.K
  have post : ∀ (s' : Shared) (ys : List Value) (m' : Str → Option Value), Texts (words.map stemText) ys → s'.heap.PlainList (it + 1) ys.toArray → s'.heap.Ns (it + 2) m' → Pv [d] (L :: frs l) s1.heap s'.heap → s'.gens = s1.gens → s'.drawn = s1.drawn → s'.os = s1.os →
      ∀ h', Heap.SameBut (it + 2) s'.heap h' → (∃ D ys, (Value.ref (it + 1)) = Value.ref D ∧ s.heap.get? D = none ∧ Texts (words.map stemText) ys ∧ ({ s' with heap := h' } : Shared).heap.PlainList D ys.toArray ∧ Pv [d] (frs l) s.heap ({ s' with heap := h' } : Shared).heap ∧ Sam s { s' with heap := h' }) := by
    intro s' ys m' hy hp hn pv g1 g2 g3 h' sb
    obtain ⟨nn, hp⟩ := hp
    refine ⟨_, ys, rfl, hnoneD, hy, ⟨nn, (sb.2 _ (Nat.ne_of_lt (Nat.lt_succ_self _))).trans hp⟩, fun b o' eb hb => ?_, g1.trans ?_, g2.trans ?_, g3.trans ?_⟩
    · obtain ⟨⟨sl, e1⟩, e2⟩ := pv b o' (keep b o' eb) hb
      have q : b ≠ it + 2 := Ne.symm (far b _ (oldlt eb) (Nat.le_add_right _ _))
      exact ⟨⟨sl, (sb.2 _ q).trans e1⟩, fun hf => (sb.2 _ q).trans (e2 fun hm => by
        rcases List.mem_cons.mp hm with hm | hm
        · exact Nat.ne_of_lt (oldlt eb) hm
        · exact hf hm)⟩
    · rw [e1]
    · rw [e1]
    · rw [e1]
  refine codeAny_compStart_list ?_ (wpAny_pyIter_listiter T.iter ?_)
  all_goals exact loop_ok (X := X.more (it + 1)) (cenv := compEnvC sc [(("self" : Str), L + 1)] (it + 2) (callEnvC fd L f)) U P (M _ (lowX _ (Nat.le_add_right _ _))) XKH hok hxL hxd SW.line SW.sck hkw hkr rfl rfl htx hsz (fun s' ys m' a b c' d' e' f' g' => ⟨m', c', post s' ys m' a b c' d' e' f' g'⟩) T
end Mine
namespace Mine
open PySem PySem.W PySem.Calls PyProof.Rows
set_option autoImplicit false
set_option maxRecDepth 100000

/-- no sign beyond the last -/
noncomputable def Sml (ns : List (List Nat)) : Prop := ∀ t ∈ ns, ∀ c ∈ t, c < 1000
theorem tx_strOk {t : List Nat} (h : ∀ c ∈ t, c < 1000) : PyData.strOk (tx t) = true := by
  unfold PyData.strOk
  rw [Array.all_eq_true']
  intro c hc
  have := h c (by simpa using hc)
  rw [decide_eq_true_eq]; omega
theorem tx_canLay : ∀ ns : List (List Nat), Sml ns → PyData.canLayAll0 (ns.map fun t => PyData.str (tx t)) = true
  | [], _ => rfl
  | t :: r, h => by simp [PyData.canLayAll0, PyData.canLay0, tx_canLay r fun t ht => h t (.tail _ ht), tx_strOk (h t (.head _))]
theorem tx_depth : ∀ ns : List (List Nat), PyData.depthAll (ns.map fun t => PyData.str (tx t)) = 0
  | [] => rfl
  | _ :: r => by simp [PyData.depthAll, PyData.depth, tx_depth r]
theorem tx_shaped (ns : List (List Nat)) (h : Sml ns) : SeqAt.shaped (.list (ns.map fun t => PyData.str (tx t))) = true := by
  simp [SeqAt.shaped, PyData.canLay0, PyData.depth, tx_canLay ns h, tx_depth]
theorem tx_sameAll : ∀ ns : List (List Nat), PySem.Spec.sameAll (ns.map fun t => PyData.str (tx t)) (ns.map fun t => PyData.str (tx t)) = true
  | [] => by simp [PySem.Spec.sameAll]
  | a :: r => by
    simp only [List.map_cons, PySem.Spec.sameAll, PySem.Spec.same, tx_sameAll r]
    simp
theorem tx_same (ns : List (List Nat)) : PySem.Spec.same (.list (ns.map fun t => PyData.str (tx t))) (.list (ns.map fun t => PyData.str (tx t))) = true := by
  simp only [PySem.Spec.same]; exact tx_sameAll ns
theorem tx_carried : ∀ {vs : List Value} {ns : List (List Nat)}, Texts ns vs → CarriedAll vs (ns.map fun t => PyData.str (tx t))
  | [], [], _ => .nil
  | [], _ :: _, h => by simp [Texts] at h
  | _ :: _, [], h => by simp [Texts] at h
  | v :: vs, t :: ns, h => by
    obtain ⟨k, hk⟩ := h.2 0 t rfl
    simp only [List.getElem?_cons_zero, Option.some.injEq] at hk
    subst hk
    exact .cons (.str _ k) (tx_carried ⟨by simpa using h.1, fun i u hu => h.2 (i + 1) u (by simpa using hu)⟩)
theorem eq_texts {prog : Program} {w : World} {A : Around} {E : Value → Shared → Prop} {s : Shared} {a b : Addr} {xs ys : List Value} {ns : List (List Nat)} {Q : Value → Shared → Prop} (ha : s.heap.IsList a xs.toArray) (hb : s.heap.IsList b ys.toArray) (hi : Texts ns xs) (hj : Texts ns ys) (hs : Sml ns) (hu : A.units + 64 < cLine) (h : Q (.bool true) s) :
    wpAny (model prog w) A (compareOp .Eq (.ref a) (.ref b)) Q E s :=
  eq_dataH_same (reads_newData ha (tx_carried hi)) (reads_newData hb (tx_carried hj)) (tx_shaped _ hs) (tx_shaped _ hs) hu (SeqAt.noMix_of_shape (.list .str) rfl _ _ (list_map_has fun _ => rfl) (list_map_has fun _ => rfl)) (by rw [tx_same]; exact h)

/-- the contract of a method, as code -/
noncomputable def MethOkC (X : Cx) (f : Addr) (R : Nat) (sp : Spec) : Prop :=
  ∀ (A : Around) (l : List Env) (s : Shared) (x d : Addr) (F : List (Option V)) (vs : List Value) (Vs : List V) (Q : V → List (Option V) → Prop),
    Room X A l R s.heap → Stat X s.heap → 0 < s.toks → SelfAt X s.heap x d F → x ∉ frs l → d ∉ frs l → x ≠ d → RelL X s.heap vs Vs → sp Vs F Q →
    codeAny (model X.prog X.w) A (.call (.ref f) ⟨.ref x :: vs, []⟩) (fun r s' => ∃ v, r = .ok (.ret v) ∧ ∃ W F', Pv [d] (frs l) s.heap s'.heap ∧ SelfAt X s'.heap x d F' ∧ Rel X s'.heap v W ∧ Same s s' ∧ Q W F') s

theorem methC_of_body {X : Cx} {K : Ck} {Γ : Env'} {lc : Nat → Addr} {R : Nat} (B : Base X K R Γ lc) {f : Addr} {fd : FuncData} {body : List Stmt} {ps rest : List Str} (F : FnOk X K f fd body ("self" :: ps)) (hls : K.ls = ps ++ rest) (hme : K.me = true) (hself : ("self" : Str) ∉ K.ls)
    {m : Ss} (hchk : chkSs K m body = true) : MethOkC X f (R + 1) (bodySp Γ m ps.length rest.length) := by
  intro A l s x d Fl vs Vs Q RM st tk S hx hd hxd r sp
  obtain ⟨hlen, sp⟩ := sp
  obtain ⟨o, ho, hod⟩ := F.at_
  have hvl : vs.length = ps.length := r.len.trans hlen
  refine codeAny_call_def (binds := (("self" : Str) :: ps).zip (.ref x :: vs)) (by have := RM.depth; omega) (st.1 _ _ ho) hod (nolimit_of B.1 st) (F.code.keeps st.1) F.body (.of_eq (F.bind _ (by rw [List.length_cons, List.length_cons, hvl]))) F.cells ?_ ?_ F.co F.gen F.kind
  · intro p hp
    obtain ⟨a, b⟩ := p
    exact F.pl _ (List.of_mem_zip hp).1
  intro h₀ hns hk
  have hnew : s.heap.get? s.heap.objs.size = none := Heap.get?_none_of_le (Nat.le_refl _)
  let c : Act := ⟨s.heap.objs.size, callEnv fd s.heap.objs.size f, l, s.heap, K.ls, some (x, d), s.gens, s.drawn, s.os⟩
  have hLH : X.H.get? c.L = none := by
    cases q : X.H.get? c.L with
    | none => rfl
    | some o => have := st.1 _ _ q; rw [hnew] at this; cases this
  have O : c.Ok X := {
    hL := hLH
    new := hnew
    frame := rfl
    locals := rfl
    kind := F.kind
    loc := fun k nm hk => F.ll nm (List.mem_of_getElem? hk)
    nodup := F.nodup
    noself := fun _ => hself
    selfk := fun _ => F.pl _ (.head _)
    outs := RM.ff
    outc := RM.fr
    st := st.1
    ok := B.1
    glob := F.globals
    blt := F.builtins
    self := fun x' d' e => by
      cases e
      obtain ⟨sl, e1⟩ := S.inst
      obtain ⟨_, ⟨od, _, _, e2, _⟩, _⟩ := S.ns
      exact ⟨⟨_, e1⟩, hd, hx, hxd, ⟨_, e2⟩⟩ }
  have AO : AOk (A.deeper c.env) c R := {
    handled := RM.handled
    depth := by have := RM.depth; show A.depth + 1 + R < _; omega
    units := by have := RM.units; show A.units + 3 + 10 * R + 40 < _; omega
    frames := by show A.frames.map _ = _; rw [RM.frames]; rfl }
  have H : Ctx1 X K c (A.deeper c.env) R Γ lc := { O := O, AO := AO, S := B.2.1, am := B.2.2.1, sc := F.sc.symm, ls := rfl, me := fun _ => ⟨x, d, rfl⟩, L := B.2.2.2 }
  have low : Low X s.heap h₀ := .of_keeps hk
  have I : Inv X c ⟨Vs.map some ++ List.replicate rest.length none, Fl⟩ { s with heap := h₀, toks := s.toks + ((("self" : Str) :: ps).zip (.ref x :: vs)).length } := {
    ns := ⟨_, hns, fun x' d' e => by
        cases e
        exact zip_lookup F.pnodup (k := 0) rfl rfl, fun k nm V h1 h2 => by
        have h2 := loc_get h2
        obtain ⟨v, g1, g2⟩ := rel_at r h2
        refine ⟨v, zip_lookup F.pnodup (k := k + 1) ?_ (by simpa using g1), g2.low X low⟩
        have hk : k < ps.length := by rw [← hlen]; exact (List.getElem?_eq_some_iff.mp h2).1
        have h1 : K.ls[k]? = some nm := h1
        rw [hls, List.getElem?_append_left hk] at h1
        simpa using h1⟩
    self := fun x' d' e => by
      cases e
      exact S.move low (fun o => hk _ o) fun o => hk _ o
    pv := .of_keeps hk
    gens := rfl
    drawn := rfl
    os := rfl
    tk := Nat.lt_of_lt_of_le tk (Nat.le_add_right _ _)
    chg := fun a ha => by
      obtain ⟨o, xs, k, e, hd⟩ := st.2 a ha
      exact ⟨o, xs, k, hk _ _ e, hd⟩ }
  refine wpAny_mono (sndSs H m body _ _ _ hchk I sp) (fun fl s' z => ?_) fun e s' z => ?_
  · obtain ⟨fl', σ', I', k', hf, q⟩ := z
    have pv : Pv [d] (frs l) s.heap s'.heap := fun b o e hb => by
      have hL : b ≠ c.L := fun z => by subst z; rw [hnew] at e; cases e
      exact I'.pv b o e fun h => by
        rcases List.mem_cons.mp h with h | h
        · exact hL h
        · exact hb h
    have sm : Same s s' := ⟨I'.gens, I'.drawn, I'.os, I'.tk⟩
    cases hf with
    | next => exact ⟨_, rfl, .none, σ'.fl, pv, I'.self x d rfl, .none, sm, q⟩
    | brk => exact q.elim
    | cont => exact q.elim
    | ret v W rv => exact ⟨_, rfl, W, σ'.fl, pv, I'.self x d rfl, rv, sm, q⟩
  · obtain ⟨l, nm, e, σ', hv, hl, hN, I', k', q⟩ := z
    exact q.elim

theorem tc_weight (C : Addr) : (Code.builtin "type.__call__" ⟨[.ref C], []⟩).weight = 1 := by kernel_rfl!
theorem tc_units (C : Addr) : (Code.builtin "type.__call__" ⟨[.ref C], []⟩).cUnits = 1 := by kernel_rfl!
theorem under_room {X : Cx} {A : Around} {l : List Env} {R : Nat} {h : Heap} (C : Addr) (RM : Room X A l (R + 1) h) : Room X (A.under (.builtin "type.__call__" ⟨[.ref C], []⟩)) l R h := by
  refine ⟨RM.handled, ?_, ?_, ?_, RM.ff, RM.fr⟩
  · have := RM.depth
    show A.depth + (Code.builtin "type.__call__" ⟨[.ref C], []⟩).weight + R < _
    rw [tc_weight]; omega
  · have := RM.units
    show A.units + (Code.builtin "type.__call__" ⟨[.ref C], []⟩).cUnits + 10 * R + 40 < _
    rw [tc_units]; omega
  · show pushEnvs (Code.builtin "type.__call__" ⟨[.ref C], []⟩).envs A.frames = some l
    rw [RM.frames]
    rfl

theorem Room.mono {X : Cx} {A : Around} {l : List Env} {R R' : Nat} {h : Heap} (RM : Room X A l R h) (hr : R' ≤ R) : Room X A l R' h :=
  ⟨RM.handled, by have := RM.depth; omega, by have := RM.units; omega, RM.frames, RM.ff, RM.fr⟩
theorem Room.keeps {X : Cx} {A : Around} {l : List Env} {R : Nat} {h h' : Heap} (RM : Room X A l R h) (k : ∀ b o, h.get? b = some o → h'.get? b = some o) : Room X A l R h' :=
  ⟨RM.handled, RM.depth, RM.units, RM.frames, RM.ff.of_keeps fun b o e _ => ⟨o, k b o e, rfl⟩, fun a ha => by
    obtain ⟨h1, o, es, n, e, hd⟩ := RM.fr a ha
    exact ⟨h1, o, es, n, k _ _ e, hd⟩⟩

/-- a new stemmer -/
theorem new_ok {X : Cx} {fI : Addr} {R : Nat} (XK : X.K.In X.H) (hm : makesIn X.K X.C = true) (hi : findIn X.K (.ref X.C) "__init__" = some (some (.ref fI))) (hf : typeIn X.K (.ref fI) = some (.type "function")) (M : MethOkC X fI R sp_init)
    {A : Around} {l : List Env} {s : Shared} {Q : Value → Shared → Prop} {E : Value → Shared → Prop} (RM : Room X A l (R + 1) s.heap) (st : Stat X s.heap) (tk : 0 < s.toks)
    (h : ∀ x d F s', s.heap.get? x = none → s.heap.get? d = none → x ≠ d → SelfAt X s'.heap x d (Ms.fl F) → Pv [] (frs l) s.heap s'.heap → Same s s' → Q (.ref x) s') :
    wpAny (model X.prog X.w) A (call (.ref X.C) []) Q E s := by
  obtain ⟨hh, g, dr, t, os⟩ := s
  dsimp only at RM st tk h
  refine wpAny_call (make_core (makes_of (XK.keeps st.1) hm) (looks_findIn (XK.keeps st.1) hi) (fun self => bind_fn (XK.keeps st.1) self hf) (.inl rfl) ?_)
  have k : ∀ b o, hh.get? b = some o → ((hh.push emptyDict).push (instObj X.C hh.objs.size)).get? b = some o := fun b o e => Heap.get?_push_of_some _ (Heap.get?_push_of_some _ e)
  have nx : hh.get? (hh.objs.size + 1) = none := Heap.get?_none_of_le (Nat.le_succ _)
  have nd : hh.get? hh.objs.size = none := Heap.get?_none_of_le (Nat.le_refl _)
  have hx : ((hh.push emptyDict).push (instObj X.C hh.objs.size)).get? (hh.objs.size + 1) = some (instObj X.C hh.objs.size) := by
    have := Heap.get?_push_size (hh.push emptyDict) (o := instObj X.C hh.objs.size) rfl
    rwa [Heap.size_push] at this
  have hd : ((hh.push emptyDict).push (instObj X.C hh.objs.size)).get? hh.objs.size = some emptyDict := Heap.get?_push_of_some _ (Heap.get?_push_size _ rfl)
  have lowX : ∀ z, hh.get? z = none → X.H.get? z = none := fun z hz => by
    cases q : X.H.get? z with
    | none => rfl
    | some o' => rw [st.1 _ _ q] at hz; cases hz
  have S : SelfAt X ((hh.push emptyDict).push (instObj X.C hh.objs.size)) (hh.objs.size + 1) hh.objs.size [none, none, none, none, none, none, none, none] := by
    refine ⟨⟨_, hx⟩, rfl, ⟨fun _ => none, ⟨emptyDict, #[], 0, hd, rfl, fun e he => by simp at he, Nat.zero_le _, fun name => rfl⟩, fun _ _ => rfl, fun k nm hk => ⟨fun V hV => ?_, fun _ => rfl⟩⟩, lowX _ nx, lowX _ nd⟩
    exfalso
    match k, hV with
    | 0, hV => cases hV
    | 1, hV => cases hV
    | 2, hV => cases hV
    | 3, hV => cases hV
    | 4, hV => cases hV
    | 5, hV => cases hV
    | 6, hV => cases hV
    | 7, hV => cases hV
    | n + 8, hV => cases hV
  have notf : ∀ z, hh.get? z = none → z ∉ frs l := fun z hz q => by
    obtain ⟨_, o, _, _, e, _⟩ := RM.fr z q
    rw [hz] at e; cases e
  have st' : Stat X ((hh.push emptyDict).push (instObj X.C hh.objs.size)) := ⟨fun b o e => k b o (st.1 b o e), fun a ha => by
    obtain ⟨o, xs, n, e, hd⟩ := st.2 a ha
    exact ⟨o, xs, n, k _ _ e, hd⟩⟩
  refine codeAny_mono (M (A.under (.builtin "type.__call__" ⟨[.ref X.C], []⟩)) l ⟨(hh.push emptyDict).push (instObj X.C hh.objs.size), g, dr, t, os⟩ (hh.objs.size + 1) hh.objs.size _ [] [] (fun V F' => V = .none ∧ ∃ m : Ms, F' = m.fl) ((under_room X.C RM).keeps k) st' tk S (notf _ nx) (notf _ nd) (Nat.ne_of_gt (Nat.lt_succ_self _)) .nil ⟨rfl, rfl, rfl, _, rfl⟩) fun r s' z => ?_
  obtain ⟨v, rfl, W, F', pv, S', rv, sm, rfl, m', rfl⟩ := z
  cases rv
  refine ⟨rfl, ?_⟩
  refine h _ _ m' s' nx nd (Nat.ne_of_gt (Nat.lt_succ_self _)) S' (fun b o e _ => ?_) sm
  exact pv b o (k b o e) fun q => by
    have := List.mem_singleton.mp q
    subst this
    rw [nd] at e; cases e
end Mine
namespace Mine
open PySem PySem.W PySem.Calls PyProof.Rows
set_option autoImplicit false
set_option maxRecDepth 100000
variable {X : Cx}

theorem execs_app {env : Env} (l r : List Stmt) : execs (l ++ r) env = (execs l env >>= fun f => match f with | .next => execs r env | f => pure f) := by
  induction l with
  | nil => rfl
  | cons st l ih =>
    rw [List.cons_append, execs_cons, execs_cons, ih]
    show Sem.bind _ _ = Sem.bind (Sem.bind _ _) _
    rw [Sem.bind_assoc]
    congr 1
    funext f
    cases f <;> rfl

theorem Cx.Ok.more (O : X.Ok) {D : Addr} (hD : X.H.get? D = none) : (X.more D).Ok :=
  ⟨O.K, O.mg, O.mb, O.st, fun a ha => (List.mem_cons.mp ha).elim (fun q => by rw [q]; exact hD) (O.chg a)⟩
theorem Act.Ok.more {c : Act} (O : c.Ok X) {D : Addr} (hD : X.H.get? D = none) : c.Ok (X.more D) :=
  { hL := O.hL, new := O.new, frame := O.frame, locals := O.locals, kind := O.kind, loc := O.loc, nodup := O.nodup, noself := O.noself, selfk := O.selfk, outs := O.outs, outc := O.outc, st := O.st, glob := O.glob, blt := O.blt, self := O.self, ok := O.ok.more hD }

/-- a new empty list, held by a local -/
theorem wp_newlist {c : Act} {σ : St} {s : Shared} {A : Around} (O : c.Ok X) (hsf : c.sf = none) (I : Inv X c σ s) {k : Nat} {nm : Str} (hk : c.ls[k]? = some nm) {q1 q2 q3 : Pos} {Q : Flow → Shared → Prop} {E : Value → Shared → Prop}
    (h : ∀ a s', s.heap.get? a = none → X.H.get? a = none → Inv (X.more a) c (σ.put k (.ref a)) s' → Pv c.ex c.fs s.heap s'.heap → s'.heap.get? a = some ⟨.type "list", none, .seq #[] 0, #[]⟩ → Q .next s') :
    wpAny (model X.prog X.w) A (exec (.Assign [.Name nm q1] (.List [] q2) q3) c.env) Q E s := by
  refine wpAny_Assign_Name ?_ rfl
  rw [arm_eval_List]
  refine wpAny_bind (wpAny_standAt (wpAny_bind (spliced_none ?_)))
  refine wpAny_newObj_type ?_
  obtain ⟨m, n, n1, n2⟩ := I.ns
  have hnone : s.heap.get? s.heap.objs.size = none := Heap.get?_none_of_le (Nat.le_refl _)
  have hH : X.H.get? s.heap.objs.size = none := by
    cases q : X.H.get? s.heap.objs.size with
    | none => rfl
    | some o => rw [(I.stat O).1 _ _ q] at hnone; cases hnone
  have k1 : ∀ b o, s.heap.get? b = some o → (s.heap.push { cls := .type "list", dict := none, data := .seq ([] : List Value).toArray }).get? b = some o := fun b o e => Heap.get?_push_of_some _ e
  refine wpAny_storeName_local (m := m) (O.loc k nm hk) (by rw [O.locals]; exact n.keeps k1) (fun h' hn hs => ?_) (by rw [O.kind]; rfl)
  rw [O.locals] at hn hs
  obtain ⟨oL, esL, epL, eL, dL, _⟩ := id n
  have neL : s.heap.objs.size ≠ c.L := fun q => by
    rw [q] at hnone; rw [eL] at hnone; cases hnone
  have kk : ∀ b o, b ≠ c.L → s.heap.get? b = some o → h'.get? b = some o := fun b o hb e => (hs.2 b hb).trans (k1 b o e)
  have hnew : h'.get? s.heap.objs.size = some ⟨.type "list", none, .seq #[] 0, #[]⟩ := (hs.2 _ neL).trans (Heap.get?_push_size _ rfl)
  have low : Low (X.more s.heap.objs.size) s.heap h' := fun b cc xs nn _ e => kk b _ (fun q => by subst q; rw [eL] at e; cases e; cases dL) e
  have pv : Pv c.ex c.fs s.heap h' := fun b o e hb => by
    have := kk b o (fun q => hb (by subst q; exact .head _)) e
    exact ⟨⟨o.slots, this⟩, fun _ => this⟩
  refine h _ _ hnone hH ?_ pv hnew
  refine ⟨⟨_, hn, fun x d e => by rw [hsf] at e; (cases e), fun j nm' V h1 h2 => ?_⟩, fun x d e => by rw [hsf] at e; (cases e), I.pv.trans pv, I.gens, I.drawn, I.os, Nat.succ_pos _, fun a ha => ?_⟩
  · by_cases q : j = k
    · subst q
      rw [hk] at h1; cases h1
      have : V = .ref s.heap.objs.size := by
        have h3 : (σ.loc.set j (some (Mine.V.ref s.heap.objs.size)))[j]? = some (some V) := h2
        rw [List.getElem?_set] at h3
        split at h3
        · split at h3 <;> cases h3
          rfl
        · contradiction
      subst this
      exact ⟨_, if_pos rfl, .ref _⟩
    · have h3 : σ.loc[j]? = some (some V) := by
        have h3 : (σ.loc.set k (some (Mine.V.ref s.heap.objs.size)))[j]? = some (some V) := h2
        rwa [List.getElem?_set_ne (Ne.symm q)] at h3
      have hne : nm' ≠ nm := fun e => by
        subst e
        exact q ((List.getElem?_inj (by exact (List.getElem?_eq_some_iff.mp h1).1) O.nodup).mp (h1.trans hk.symm))
      obtain ⟨v, g1, g2⟩ := n2 j nm' V h1 h3
      exact ⟨v, by rw [if_neg hne]; exact g1, (g2.fresh hnone).low _ low⟩
  · rcases List.mem_cons.mp ha with rfl | ha
    · exact ⟨_, _, _, hnew, rfl⟩
    · obtain ⟨o, xs, nn, e, hd⟩ := I.chg a ha
      exact ⟨o, xs, nn, kk _ _ (fun q => by subst q; rw [eL] at e; cases e; rw [dL] at hd; cases hd) e, hd⟩

/-- a list that may turn grows by one -/
theorem wp_append {c : Act} {σ : St} {s : Shared} {A : Around} (O : c.Ok X) (hsf : c.sf = none) (I : Inv X c σ s) {a : Addr} (ha : a ∈ X.chg) (hfr : c.h₀.get? a = none) {its : Array Value} {v : Value} (hl : s.heap.PlainList a its) (hsz : its.size ≤ 1000) {Q : Value → Shared → Prop} {E : Value → Shared → Prop}
    (h : ∀ s', Inv X c σ s' → s'.heap.PlainList a (its.push v) → (∀ b, b ≠ a → s'.heap.get? b = s.heap.get? b) → Q .none s') :
    wpAny (model X.prog X.w) A (call (.builtin "list.append") [.ref a, v]) Q E s := by
  refine wpAny_list_append_plain hl (fun h' hp sb => ?_) (by rw [PySem.sizeLine_eq]; omega)
  obtain ⟨n, e⟩ := id hl
  obtain ⟨n', e'⟩ := id hp
  refine h _ ?_ hp sb.2
  obtain ⟨m, nn, n1, n2⟩ := I.ns
  obtain ⟨oL, esL, epL, eL, dL, _⟩ := id nn
  have neL : c.L ≠ a := fun q => by subst q; rw [eL] at e; cases e; cases dL
  have low : Low X s.heap h' := fun b cc xs nn hb e => (sb.2 b fun q => hb (q ▸ ha)).trans e
  refine ⟨⟨m, nn.sameBut sb neL, n1, fun k nm V h1 h2 => ?_⟩, fun x d e => by rw [hsf] at e; (cases e), fun b o eb hb => ?_, I.gens, I.drawn, I.os, I.tk, fun b hb => ?_⟩
  · obtain ⟨v, g1, g2⟩ := n2 k nm V h1 h2
    exact ⟨v, g1, g2.low X low⟩
  · have q : b ≠ a := fun q => by subst q; rw [hfr] at eb; cases eb
    obtain ⟨⟨sl, e1⟩, e2⟩ := I.pv b o eb hb
    exact ⟨⟨sl, (sb.2 b q).trans e1⟩, fun hf => (sb.2 b q).trans (e2 hf)⟩
  · by_cases q : b = a
    · subst q; exact ⟨_, _, _, e', rfl⟩
    · obtain ⟨o, xs, nn, e, hd⟩ := I.chg b hb
      exact ⟨o, xs, nn, (sb.2 b q).trans e, hd⟩
end Mine
namespace Mine
open PySem PySem.W PySem.Calls PyProof.Rows
set_option autoImplicit false
set_option maxRecDepth 100000

noncomputable def lawLoc (s : List Int) (a1 a2 : Addr) (x3 x4 x7 x9 x10 x11 x14 x15 : Option V) : List (Option V) :=
  [some (.lst (s.map .int)), some (.str (frontOf s)), some (.str (toldOf s)), x3, x4, some (.tup [.str (lawLS s).vw.1, .str (lawLS s).vw.2]), some (.str (closeOf (lawLS s))), x7, some (.int (depthOf s)), x9, x10, x11, some (.ref a1), some (.ref a2), x14, x15]
noncomputable def pairAt (s : List Int) (i : Nat) : List Nat × List Nat := lawWord (frontOf s) (toldOf s) (lawLS s).vw (closeOf (lawLS s)) (depthOf s) (lawAt s (9 + 3 * i)) (lawAt s (10 + 3 * i)) (lawAt s (11 + 3 * i))
noncomputable def m_st1 : S := .ast [14, 15] (.call 6 (.cons (.var 1) (.cons (.var 2) (.cons (.var 5) (.cons (.var 6) (.cons (.var 8) (.cons (.call 4 (.cons (.var 0) (.cons (.bin .add (.int 9) (.bin .mul (.int 3) (.var 7))) .nil))) (.cons (.call 4 (.cons (.var 0) (.cons (.bin .add (.int 10) (.bin .mul (.int 3) (.var 7))) .nil))) (.cons (.call 4 (.cons (.var 0) (.cons (.bin .add (.int 11) (.bin .mul (.int 3) (.var 7))) .nil))) .nil)))))))))

theorem law_bounds (s : List Int) : (frontOf s).length ≤ 200 ∧ (toldOf s).length ≤ 200 ∧ (lawLS s).vw.1.length ≤ 10 ∧ (lawLS s).vw.2.length ≤ 10 ∧ (closeOf (lawLS s)).length ≤ 20 ∧ 0 < (closeOf (lawLS s)).length ∧ depthOf s ≤ 2 := by
  have h0 : 0 ≤ (lawAt s 1).fmod 3 := Int.fmod_nonneg_of_pos _ (by decide)
  have h1 : (lawAt s 1).fmod 3 < 3 := Int.fmod_lt_of_pos _ (by decide)
  have hms : moreSyl s ≤ 2 := by unfold moreSyl; omega
  have hok : (lawLS s).Ok (0 + moreSyl s) := lsRun_ok (s := s) (moreSyl s) (lsFirst_ok s)
  obtain ⟨a, b, c, d, e, f, g⟩ := hok
  have h4 := ss2_len (lawLS s).bare
  refine ⟨?_, ?_, by omega, by omega, ?_, ?_, ?_⟩
  · unfold frontOf; split <;> omega
  · unfold toldOf; split <;> omega
  · unfold closeOf; rw [List.length_append]; split <;> simp <;> omega
  · unfold closeOf; rw [List.length_append]; omega
  · unfold depthOf; split <;> omega

theorem st1_wp {Γ : Env'} (hf4 : Γ.func 4 = sp_at) (hf6 : Γ.func 6 = sp_word) {s : List Int} (hs : s.length ≤ 1000) {k : Nat} (hk : k ≤ 2) {a1 a2 : Addr} {x3 x4 x9 x10 x11 x14 x15 : Option V} {Q : Fl → St → Prop}
    (h : Q .next ⟨lawLoc s a1 a2 x3 x4 (some (.int k)) x9 x10 x11 (some (.str (pairAt s k).1)) (some (.str (pairAt s k).2)), []⟩) :
    wpS Γ m_st1 ⟨lawLoc s a1 a2 x3 x4 (some (.int k)) x9 x10 x11 x14 x15, []⟩ Q := by
  obtain ⟨b1, b2, b3, b4, b5, b6, b7⟩ := law_bounds s
  rw [m_st1, s_ast]
  simp only [wpE, wpEs, lawLoc, gl0, gls, hf4, hf6, op2]
  refine ⟨⟨by omega, by omega, by omega, by omega⟩, ?_⟩
  refine ⟨s, 9 + 3 * k, by push_cast; rfl, hs, by omega, ?_⟩
  refine ⟨⟨by omega, by omega, by omega, by omega⟩, ?_⟩
  refine ⟨s, 10 + 3 * k, by push_cast; rfl, hs, by omega, ?_⟩
  refine ⟨⟨by omega, by omega, by omega, by omega⟩, ?_⟩
  refine ⟨s, 11 + 3 * k, by push_cast; rfl, hs, by omega, ?_⟩
  refine ⟨frontOf s, toldOf s, (lawLS s).vw.1, (lawLS s).vw.2, closeOf (lawLS s), depthOf s, lawAt s (9 + 3 * k), lawAt s (10 + 3 * k), lawAt s (11 + 3 * k), rfl, b1, b2, b3, b4, b5, b6, b7, ?_⟩
  exact ⟨_, rfl, h⟩

noncomputable def wordsUp (s : List Int) (k : Nat) : List (List Nat) := (List.range k).map fun i => (pairAt s i).1
noncomputable def stemsUp (s : List Int) (k : Nat) : List (List Nat) := (List.range k).map fun i => (pairAt s i).2
theorem wordsUp_succ (s : List Int) (k : Nat) : wordsUp s (k + 1) = wordsUp s k ++ [(pairAt s k).1] := by
  unfold wordsUp; rw [List.range_succ, List.map_append]; rfl
theorem stemsUp_succ (s : List Int) (k : Nat) : stemsUp s (k + 1) = stemsUp s k ++ [(pairAt s k).2] := by
  unfold stemsUp; rw [List.range_succ, List.map_append]; rfl

section
variable {X : Cx} {c : Act} {A : Around} {R : Nat} {Γ : Env'} {lc : Nat → Addr}

/-- the two lists, k pairs in -/
structure Two (X : Cx) (c : Act) (s : List Int) (a1 a2 : Addr) (k : Nat) (σ : St) (st : Shared) : Prop where
  inv : Inv X c σ st
  l1 : ∃ ys, Texts (wordsUp s k) ys ∧ st.heap.PlainList a1 ys.toArray
  l2 : ∃ ys, Texts (stemsUp s k) ys ∧ st.heap.PlainList a2 ys.toArray

theorem tx_push {ws : List (List Nat)} {ys : List Value} {t : List Nat} {k : Tok} : (ys ++ [Value.str (tx t) k]).toArray = ys.toArray.push (.str (tx t) k) := by simp

theorem wp_append_stmt (H : Ctx1 X K_law c A R Γ lc) (hsf : c.sf = none) {σ : St} {st : Shared} (I : Inv X c σ st) {a : Addr} {j1 j2 : Nat} {n1 n2 : Str} {t : List Nat} (h1 : (K_law.ls[j1]? == some n1) = true) (h2 : (K_law.ls[j2]? == some n2) = true) (d1 : nd n1 = true) (d2 : nd n2 = true)
    (v1 : σ.loc[j1]? = some (some (.ref a))) (v2 : σ.loc[j2]? = some (some (.str t))) (ha : a ∈ X.chg) (hfr : c.h₀.get? a = none) {ys : List Value} (hl : st.heap.PlainList a ys.toArray) (hsz : ys.length ≤ 1000) {q1 q2 q3 q4 q5 : Pos} (hline : (q2.endLine == q4.line) = true)
    {Q : Flow → Shared → Prop} {E : Value → Shared → Prop}
    (h : ∀ s' k, Inv X c σ s' → s'.heap.PlainList a (ys ++ [Value.str (tx t) k]).toArray → (∀ b, b ≠ a → s'.heap.get? b = st.heap.get? b) → Q .next s') :
    wpAny (model X.prog X.w) A (exec (.Expr (.Call (.Attribute (.Name n1 q1) "append" q2) [.Name n2 q3] [] q4) q5) c.env) Q E st := by
  refine wpAny_Expr (wpAny_Call_append rfl rfl hline rfl ?_) (by unfold interactive; rw [H.O.kind]; rfl) rfl
  refine H.toCtx0.name I h1 d1 v1 fun v r => ?_
  cases r
  obtain ⟨n, e⟩ := id hl
  refine ⟨a, ys.toArray, rfl, ⟨_, n, e, rfl, rfl, rfl⟩, ?_⟩
  refine H.toCtx0.name I h2 d2 v2 fun v r => ?_
  cases r with
  | str _ k =>
    refine wp_append H.O hsf I ha hfr hl (by rw [List.size_toArray]; exact hsz) fun s' I' hp old => ?_
    refine h s' k I' ?_ old
    rw [tx_push (ws := [])]
    exact hp

theorem turn_ok (H : Ctx1 X K_law c A R Γ lc) (hsf : c.sf = none) (hf4 : Γ.func 4 = sp_at) (hf6 : Γ.func 6 = sp_word) {s : List Int} (hs : s.length ≤ 1000) {k : Nat} (hk : k ≤ 2) {a1 a2 : Addr} (hne : a1 ≠ a2) (m1 : a1 ∈ X.chg) (m2 : a2 ∈ X.chg) (f1 : c.h₀.get? a1 = none) (f2 : c.h₀.get? a2 = none)
    {x3 x4 x9 x10 x11 x14 x15 : Option V} {st1 : Stmt} (hc : chkS K_law m_st1 st1 = true) {q1 q2 q3 q4 q5 r1 r2 r3 r4 r5 : Pos} (hq : (q2.endLine == q4.line) = true) (hr : (r2.endLine == r4.line) = true) {st : Shared}
    (T : Two X c s a1 a2 k ⟨lawLoc s a1 a2 x3 x4 (some (.int k)) x9 x10 x11 x14 x15, []⟩ st) {Q : Flow → Shared → Prop} {E : Value → Shared → Prop}
    (h : ∀ s' x14 x15, Two X c s a1 a2 (k + 1) ⟨lawLoc s a1 a2 x3 x4 (some (.int k)) x9 x10 x11 x14 x15, []⟩ s' → (∀ b o, st.heap.get? b = some o → b ≠ a1 → b ≠ a2 → (∀ es n, o.data ≠ .dict es n) → s'.heap.get? b = some o) → Q .next s') :
    wpAny (model X.prog X.w) A (execs [st1, .Expr (.Call (.Attribute (.Name "words" q1) "append" q2) [.Name "word" q3] [] q4) q5, .Expr (.Call (.Attribute (.Name "stems" r1) "append" r2) [.Name "stem" r3] [] r4) r5] c.env) Q E st := by
  obtain ⟨I, ⟨ys1, t1, p1⟩, ⟨ys2, t2, p2⟩⟩ := T
  have len1 : ys1.length ≤ 1000 := by rw [t1.1]; unfold wordsUp; rw [List.length_map, List.length_range]; omega
  have len2 : ys2.length ≤ 1000 := by rw [t2.1]; unfold stemsUp; rw [List.length_map, List.length_range]; omega
  refine wpAny_execs_cons (wpAny_mono (sndS H m_st1 st1 _ st (fun fl σ' => fl = .next ∧ σ' = ⟨lawLoc s a1 a2 x3 x4 (some (.int k)) x9 x10 x11 (some (.str (pairAt s k).1)) (some (.str (pairAt s k).2)), []⟩) hc I (st1_wp hf4 hf6 hs hk ⟨rfl, rfl⟩)) (fun f s1 z => ?_) fun e s1 z => ?_)
  · obtain ⟨fl, σ', I1, k1, hf, rfl, rfl⟩ := z
    cases hf
    have keep : ∀ b o, st.heap.get? b = some o → (∀ es n, o.data ≠ .dict es n) → s1.heap.get? b = some o := fun b o e hd => by
      have nf := I.notfr H.O e hd
      refine (k1 b o e fun hx => ?_).2 fun q => nf (.tail _ q)
      unfold Act.ex at hx
      rw [hsf] at hx
      rcases List.mem_cons.mp hx with q | q
      · exact nf (by rw [q]; exact .head _)
      · cases q
    have pl : ∀ {a : Addr} {ys : List Value}, st.heap.PlainList a ys.toArray → s1.heap.PlainList a ys.toArray := fun ⟨n, e⟩ => ⟨n, keep _ _ e fun es n q => by cases q⟩
    refine wpAny_execs_cons (wp_append_stmt H hsf I1 (j1 := 12) (j2 := 14) rfl rfl rfl rfl rfl rfl m1 f1 (pl p1) len1 hq fun s2 k2 I2 pp1 old2 => ?_)
    have p2' : s2.heap.PlainList a2 ys2.toArray := by
      obtain ⟨n, e⟩ := pl p2
      exact ⟨n, (old2 _ (Ne.symm hne)).trans e⟩
    refine wpAny_execs_cons (wp_append_stmt H hsf I2 (j1 := 13) (j2 := 15) rfl rfl rfl rfl rfl rfl m2 f2 p2' len2 hr fun s3 k3 I3 pp2 old3 => ?_)
    have pp3 : s3.heap.PlainList a1 (ys1 ++ [Value.str (tx (pairAt s k).1) k2]).toArray := by
      obtain ⟨n, e⟩ := pp1
      exact ⟨n, (old3 _ hne).trans e⟩
    have w1 : Texts (wordsUp s (k + 1)) (ys1 ++ [Value.str (tx (pairAt s k).1) k2]) := by rw [wordsUp_succ]; exact texts_snoc t1
    have w2 : Texts (stemsUp s (k + 1)) (ys2 ++ [Value.str (tx (pairAt s k).2) k3]) := by rw [stemsUp_succ]; exact texts_snoc t2
    exact wpAny_execs_nil (h s3 _ _ ⟨I3, ⟨_, w1, pp3⟩, ⟨_, w2, pp2⟩⟩ fun b o e n1 n2 hd => ((old3 b n2).trans (old2 b n1)).trans (keep b o e hd))
  · obtain ⟨l, nm, e', σ', _, _, _, _, _, q⟩ := z
    cases q.1

theorem loop3_ok (H : Ctx1 X K_law c A R Γ lc) (hsf : c.sf = none) (hf4 : Γ.func 4 = sp_at) (hf6 : Γ.func 6 = sp_word) {s : List Int} (hs : s.length ≤ 1000) {a1 a2 : Addr} (hne : a1 ≠ a2) (m1 : a1 ∈ X.chg) (m2 : a2 ∈ X.chg) (f1 : c.h₀.get? a1 = none) (f2 : c.h₀.get? a2 = none)
    {x3 x4 x7 x9 x10 x11 x14 x15 : Option V} {st1 : Stmt} (hc : chkS K_law m_st1 st1 = true) {q1 q2 q3 q4 q5 r1 r2 r3 r4 r5 p7 : Pos} (hq : (q2.endLine == q4.line) = true) (hr : (r2.endLine == r4.line) = true) {it : Addr} {st : Shared}
    (hit : IsRangeIter st.heap it 0 3 1) (hnew : c.h₀.get? it = none)
    (T : Two X c s a1 a2 0 ⟨lawLoc s a1 a2 x3 x4 x7 x9 x10 x11 x14 x15, []⟩ st) {Rr : Result → Shared → Prop}
    (h : ∀ s' x7 x14 x15, Two X c s a1 a2 3 ⟨lawLoc s a1 a2 x3 x4 x7 x9 x10 x11 x14 x15, []⟩ s' → Rr (.ok .next) s') :
    codeAny (model X.prog X.w) A (.forLoop (.Name "i" p7) (.ref it) [st1, .Expr (.Call (.Attribute (.Name "words" q1) "append" q2) [.Name "word" q3] [] q4) q5, .Expr (.Call (.Attribute (.Name "stems" r1) "append" r2) [.Name "stem" r3] [] r4) r5] [] c.env) Rr st := by
  refine codeAny_forLoop (fun m s' => ∃ k x7 x14 x15, k ≤ 3 ∧ m = 3 - k ∧ IsRangeIter s'.heap it (k : Int) (3 - (k : Int)) 1 ∧ Two X c s a1 a2 k ⟨lawLoc s a1 a2 x3 x4 x7 x9 x10 x11 x14 x15, []⟩ s') (fun n s1 Z => ?_) 3 ⟨0, x7, x14, x15, by decide, rfl, by simpa using hit, T⟩
  obtain ⟨k, x7, x14, x15, hk3, rfl, hit, T⟩ := Z
  have ia : ∀ {s' : Shared} {k : Nat} {σ : St} {a : Addr} {ys : List Value}, IsRangeIter s'.heap it (k : Int) (3 - (k : Int)) 1 → s'.heap.PlainList a ys.toArray → a ≠ it := by
    rintro s' k σ a ys h1 ⟨n, e⟩ rfl
    have h1' : s'.heap.get? a = some _ := h1
    rw [e] at h1'
    have h2 := congrArg (fun o : Option Obj => o.map fun o => match o.data with | .fields _ => true | _ => false) h1'
    simp at h2
  by_cases hk : k ≤ 2
  · refine wpAny_pyNext_range_item hit (by omega) fun h' hit1 sb => ?_
    dsimp only
    obtain ⟨I, ⟨ys1, t1, p1⟩, ⟨ys2, t2, p2⟩⟩ := T
    have e1 : a1 ≠ it := ia (σ := ⟨[], []⟩) hit p1
    have e2 : a2 ≠ it := ia (σ := ⟨[], []⟩) hit p2
    have g : Go (c.L :: c.fs) c.h₀ s1.heap h' := .upd hit rfl hnew sb
    have I1 := I.go H.O (tk := s1.toks + 1) (Nat.succ_pos _) g
    refine wpAny_assign_Name (wp_store H.O I1 (k := 7) (by rw [H.ls]; rfl) (.int (k : Int) s1.toks) fun s2 I2 k2 => ?_)
    have nodict : ∀ b o, h'.get? b = some o → (∀ es n, o.data ≠ .dict es n) → s2.heap.get? b = some o := fun b o e hd => by
      have nf := I1.notfr H.O e hd
      refine (k2 b o e fun hx => ?_).2 fun q => nf (.tail _ q)
      unfold Act.ex at hx
      rw [hsf] at hx
      rcases List.mem_cons.mp hx with q | q
      · exact nf (by rw [q]; exact .head _)
      · cases q
    have pl : ∀ {a : Addr} {ys : List Value}, a ≠ it → s1.heap.PlainList a ys.toArray → s2.heap.PlainList a ys.toArray := fun ne ⟨n, e⟩ => ⟨n, nodict _ _ ((sb.2 _ ne).trans e) fun es n q => by cases q⟩
    have hit2 : IsRangeIter s2.heap it ((k : Int) + 1) (3 - (k : Int) - 1) 1 := nodict _ _ hit1 fun es n q => by cases q
    refine wpAny_mono (turn_ok (E := fun _ _ => False) H hsf hf4 hf6 hs hk hne m1 m2 f1 f2 hc hq hr (st := s2) (x14 := x14) (x15 := x15) (Q := fun f s' => f = .next ∧ ∃ x14 x15, Two X c s a1 a2 (k + 1) ⟨lawLoc s a1 a2 x3 x4 (some (.int k)) x9 x10 x11 x14 x15, []⟩ s' ∧ IsRangeIter s'.heap it ((k : Int) + 1) (3 - (k : Int) - 1) 1) ⟨I2, ⟨ys1, t1, pl e1 p1⟩, ⟨ys2, t2, pl e2 p2⟩⟩ fun s' x14 x15 T' keep => ⟨rfl, x14, x15, T', keep _ _ hit2 (Ne.symm e1) (Ne.symm e2) fun es n q => by cases q⟩) (fun f s3 z => ?_) fun _ _ z => z.elim
    obtain ⟨rfl, x14, x15, T', hit3⟩ := z
    refine ⟨3 - (k + 1), by omega, k + 1, some (.int k), x14, x15, by omega, rfl, ?_, T'⟩
    have a1' : ((k + 1 : Nat) : Int) = (k : Int) + 1 := by push_cast; rfl
    have a2' : (3 : Int) - ((k : Int) + 1) = 3 - (k : Int) - 1 := by omega
    rw [a1', a2']
    exact hit3
  · have hk' : k = 3 := by omega
    subst hk'
    refine wpAny_pyNext_range_end H.AO.handled hit (by omega) fun h' ext => wpAny_execs_nil ?_
    obtain ⟨I, ⟨ys1, t1, n1, p1⟩, ⟨ys2, t2, n2, p2⟩⟩ := T
    have e1 : a1 ≠ it := ia (σ := ⟨[], []⟩) hit ⟨n1, p1⟩
    have e2 : a2 ≠ it := ia (σ := ⟨[], []⟩) hit ⟨n2, p2⟩
    have g : Go (c.L :: c.fs) c.h₀ s1.heap h' := fun b o e hn => by
      have ne : b ≠ it := fun q => by
        subst q
        have e' : s1.heap.get? b = some _ := hit
        rw [e] at e'; cases e'
        rcases hn with hn | hn
        · exact hn _ rfl
        · exact hn hnew
      have := ext b o ne e
      exact ⟨⟨o.slots, this⟩, fun _ => this⟩
    exact h _ x7 x14 x15 ⟨I.go H.O I.tk g, ⟨ys1, t1, n1, ext _ _ e1 p1⟩, ⟨ys2, t2, n2, ext _ _ e2 p2⟩⟩
end
end Mine
namespace Mine
open PySem PySem.W PySem.Calls PyProof.Rows
set_option autoImplicit false
set_option maxRecDepth 100000

/-! the told stems have small signs -/
theorem mem_small {l : List (List Nat)} (h : (l.all fun t => t.all fun c => Nat.blt c 1000) = true) : ∀ t ∈ l, ∀ c ∈ t, c < 1000 := fun t ht c hc => Nat.le_of_ble_eq_true (List.all_eq_true.mp (List.all_eq_true.mp h t ht) c hc)
noncomputable def smallT (t : List Nat) : Prop := ∀ c ∈ t, c < 1000
theorem smallT.app {a b : List Nat} (ha : smallT a) (hb : smallT b) : smallT (a ++ b) := fun c hc => (List.mem_append.mp hc).elim (ha c) (hb c)
theorem small_snd {t : List Nat} (h : ∀ c ∈ t, c ∈ sounds) : smallT t := fun c hc => by
  have : ∀ c ∈ sounds, c < 1000 := by decide
  exact this c (h c hc)
theorem small_ss2 {t : List Nat} (h : smallT t) : smallT (ss2 t) := by
  intro c hc
  unfold ss2 replOne at hc
  obtain ⟨a, ha, hc⟩ := List.mem_flatMap.mp hc
  split at hc
  · simp at hc; subst hc; decide
  · simp at hc; subst hc; exact h _ ha
theorem small_vow {v : List Nat × List Nat} (h : v ∈ vowels) : smallT v.2 := by
  have : ∀ v ∈ vowels, ∀ c ∈ v.2, c < 1000 := by decide
  exact this v h
theorem small_run (s : List Int) : ∀ (k i : Nat) (L : LS), smallT L.told → smallT L.bare → L.vw ∈ vowels → (∀ c ∈ L.close, c ∈ sounds) → smallT (lsRun s k i L).told ∧ smallT (lsRun s k i L).bare ∧ (lsRun s k i L).vw ∈ vowels ∧ ∀ c ∈ (lsRun s k i L).close, c ∈ sounds
  | 0, i, L, a, b, c, d => ⟨a, b, c, d⟩
  | k + 1, i, L, a, b, c, d => small_run s k (i + 1) (lsNext s i L) ((a.app (small_vow c)).app (small_ss2 (small_snd d))) (b.app (small_snd d)) (vow_mem _ _) (some_mem _ 3)
theorem small_pair (s : List Int) (x y z : Int) : smallT (lawWord (frontOf s) (toldOf s) (lawLS s).vw (closeOf (lawLS s)) (depthOf s) x y z).2 := by
  obtain ⟨a, b, c, d⟩ := small_run s (moreSyl s) 1 (lsFirst s) (small_ss2 (small_snd (some_mem _ 2))) (small_snd (some_mem _ 2)) (vow_mem _ _) (some_mem _ 3)
  have hc : smallT (closeOf (lawLS s)) := by
    unfold closeOf
    refine smallT.app (small_snd d) ?_
    split
    · intro c hc; simp at hc; subst hc; decide
    · intro c hc; cases hc
  have ht : smallT (toldOf s) := by
    unfold toldOf
    split
    · exact small_ss2 b
    · exact a
  have hst : smallT (stemOf (toldOf s) (lawLS s).vw (closeOf (lawLS s)) (depthOf s)) := by
    unfold stemOf
    refine smallT.app (smallT.app ht ?_) (small_ss2 hc)
    split
    · intro c hc; cases hc
    · exact small_vow c
  unfold lawWord
  generalize stemOf (toldOf s) (lawLS s).vw (closeOf (lawLS s)) (depthOf s) = st at hst
  have fams : ((List.range 34).all fun i => ((famAt i).1 :: (famAt i).2.1 :: ((famAt i).2.2.map (·.1) ++ (famAt i).2.2.map (·.2))).all fun t => t.all fun c => Nat.blt c 1000) = true := by decide +kernel
  have lates : (late.all fun t => t.all fun c => Nat.blt c 1000) = true := by decide +kernel
  have hx0 : 0 ≤ x.fmod 35 := Int.fmod_nonneg_of_pos _ (by decide)
  have hx1 : x.fmod 35 < 35 := Int.fmod_lt_of_pos _ (by decide)
  have hy0 : 0 ≤ y.fmod 14 := Int.fmod_nonneg_of_pos _ (by decide)
  have hy1 : y.fmod 14 < 14 := Int.fmod_lt_of_pos _ (by decide)
  unfold tell
  dsimp only
  split
  · exact hst.app (mem_small lates _ (late_mem (i := (y.fmod 14).toNat) (j := 0) (by omega) (by decide)).1)
  · have hfam : (x.fmod 35).toNat < 34 := by omega
    have F := mem_small (List.all_eq_true.mp fams _ (List.mem_range.mpr hfam))
    have hm := form_mem hfam y
    repeat' split
    · exact hst.app (F _ (.tail _ (.tail _ (List.mem_append_right _ (List.mem_map_of_mem hm)))))
    · exact hst.app (F _ (.tail _ (.tail _ (List.mem_append_left _ (List.mem_map_of_mem hm)))))
    · exact hst
    · exact hst.app (F _ (.tail _ (.head _)))
    · exact hst.app (F _ (.head _))

theorem stems_small (s : List Int) (k : Nat) : Sml (stemsUp s k) := by
  intro t ht
  unfold stemsUp at ht
  obtain ⟨i, _, rfl⟩ := List.mem_map.mp ht
  exact small_pair s _ _ _
theorem words_stem (s : List Int) (k : Nat) : (wordsUp s k).map stemText = stemsUp s k := by
  unfold wordsUp stemsUp
  rw [List.map_map]
  exact List.map_congr_left fun i _ => (law_plain s _ _ _).1
theorem words_ok (s : List Int) (k : Nat) : ∀ t ∈ wordsUp s k, t.length ≤ 1000 ∧ calm t := by
  intro t ht
  unfold wordsUp at ht
  obtain ⟨i, _, rfl⟩ := List.mem_map.mp ht
  obtain ⟨_, h2, h3⟩ := law_plain s (lawAt s (9 + 3 * i)) (lawAt s (10 + 3 * i)) (lawAt s (11 + 3 * i))
  refine ⟨?_, h2⟩
  obtain ⟨b1, b2, b3, b4, b5, b6, b7⟩ := law_bounds s
  have hd := dotOf_len (lawLS s).vw.1 (lawAt s (11 + 3 * i))
  have : (rootOf (frontOf s) (lawLS s).vw (closeOf (lawLS s)) (depthOf s) (lawAt s (11 + 3 * i))).length ≤ 300 := by
    unfold rootOf
    rw [List.length_append, List.length_append]
    split
    · simp; omega
    · omega
  exact Nat.le_trans h3 (by omega)

/-- a method that is only looked up -/
structure Look1 (X : Cx) (nm : Str) (f : Addr) : Prop where
  nf : nm ∉ fnames
  pg : plainGet X.K X.C nm = true
  find : findIn X.K (.ref X.C) nm = some (some (.ref f))
  ty : typeIn X.K (.ref f) = some (.type "function")
  keep : keepIn X.K (.ref f) = true

/-- what the law's end leans on -/
structure EndOk (X : Cx) (fI f19 fS : Addr) (fdS : FuncData) (p1 p2 p3 p4 p5 p6 : Pos) (sc : Scope) (pos rp : Pos) (R0 R1 : Nat) : Prop where
  make : makesIn X.K X.C = true
  init : findIn X.K (.ref X.C) "__init__" = some (some (.ref fI))
  initT : typeIn X.K (.ref fI) = some (.type "function")
  initM : MethOkC X fI R0 sp_init
  ck : keepIn X.K (.ref X.C) = true
  cls : X.mg "GermanStemmer" = some (.ref X.C)
  sw : SwOk X fS fdS p1 p2 p3 p4 p5 p6 sc pos rp
  look : Look1 X "stemWords" fS
  word : ∀ D, X.H.get? D = none → MethAt (X.more D) "stemWord" f19 R1 sp_stemWord

section
variable {X : Cx} {c : Act} {A : Around} {R R0 R1 : Nat} {Γ : Env'} {lc : Nat → Addr} {fI f19 fS : Addr} {fdS : FuncData} {p1 p2 p3 p4 p5 p6 : Pos} {sc : Scope} {pos rp : Pos}

theorem ret_ok (H : Ctx1 X K_law c A R Γ lc) (hsf : c.sf = none) (EO : EndOk X fI f19 fS fdS p1 p2 p3 p4 p5 p6 sc pos rp R0 R1) (h0 : R0 + 1 ≤ R) (h1 : R1 + 1 ≤ R) (hR : 3 ≤ R) {s : List Int} {a1 a2 : Addr}
    {x3 x4 x7 x9 x10 x11 x14 x15 : Option V} {g1 g2 g3 g4 g5 g6 g7 g8 : Pos} (hline : (g3.endLine == g5.line) = true) {st : Shared}
    (T : Two X c s a1 a2 3 ⟨lawLoc s a1 a2 x3 x4 x7 x9 x10 x11 x14 x15, []⟩ st) {Q : Flow → Shared → Prop} {E : Value → Shared → Prop}
    (h : ∀ s', (∀ b o, c.h₀.get? b = some o → b ≠ c.L → (∃ sl, s'.heap.get? b = some { o with slots := sl }) ∧ (b ∉ c.fs → s'.heap.get? b = some o)) → s'.gens = c.gens → s'.os = c.os → Q (.ret (.bool true)) s') :
    wpAny (model X.prog X.w) A (exec (.Return (some (.Compare (.Call (.Attribute (.Call (.Name "GermanStemmer" g1) [] [] g2) "stemWords" g3) [.Name "words" g4] [] g5) [.Eq] [.Name "stems" g6] g7)) g8) c.env) Q E st := by
  obtain ⟨I, ⟨ys1, t1, q1⟩, ⟨ys2, t2, q2⟩⟩ := T
  have O := H.O
  refine wpAny_Return_some (wpAny_Compare1 ?_ rfl)
  refine wp_mcall rfl rfl (show 1 < 30 from by decide) hline ?_
  refine wpAny_Call_Name_kw (H.toCtx0.glob I rfl EO.cls ?_)
  show wpAny _ _ (callWith _ (.ref X.C) [] (backTo _ (starEach [] c.env)) []) _ E st
  refine callWith_of (P := X.K.In) rfl (keeps_K EO.ck) (wp_args rfl (spliced_none ⟨I.K O, ?_⟩))
  have RM := I.room O H.AO
  refine new_ok O.ok.K EO.make EO.init EO.initT EO.initM (RM.mono h0) (I.stat O) I.tk fun x d F s1 nx nd hxd S pv sm => ?_
  obtain ⟨I1, kp⟩ := I.called O H.AO (F := []) (ex := []) (fun a ha => nomatch ha) pv (fun x d e => by rw [hsf] at e; cases e) sm
  obtain ⟨ox, o, ia, _, hlook⟩ := self_inst S EO.look.nf
  refine method_fn (I1.K O) ia (plainGet_of EO.look.pg).1 (plainGet_of EO.look.pg).2 EO.look.find EO.look.ty (by show (lookIn _ o).map _ = _; rw [hlook]; rfl) ?_
  refine callWith_of (P := X.K.In) rfl (keeps_K EO.look.keep) (wp_args rfl ?_)
  refine spliced_more (H.toCtx0.name I1 (k := 12) rfl rfl rfl fun v r => ?_) (starEach_cons rfl)
  cases r
  refine spliced_none ⟨I1.K O, ?_⟩
  -- what stands through the stemmer's making
  have frdict : ∀ b, b ∈ frs (c.env :: c.outs) → ∃ o es n, s1.heap.get? b = some o ∧ o.data = .dict es n := fun b hb => ((I1.room O H.AO).fr b hb).2
  have nodict : ∀ b o, st.heap.get? b = some o → (∀ es n, o.data ≠ .dict es n) → s1.heap.get? b = some o := fun b o e hd => (pv b o e fun q => nomatch q).2 fun q => by
    obtain ⟨_, o', es, n, e', hd'⟩ := RM.fr b q
    rw [e] at e'; cases e'
    exact hd _ _ hd'
  obtain ⟨n1, e1⟩ := q1
  obtain ⟨n2, e2⟩ := q2
  have e1' := nodict _ _ e1 fun es n q => by cases q
  have e2' := nodict _ _ e2 fun es n q => by cases q
  have hx : x ∉ frs (c.env :: c.outs) := fun q => by
    obtain ⟨_, o', es, n, e', _⟩ := RM.fr x q
    rw [nx] at e'; cases e'
  have hd : d ∉ frs (c.env :: c.outs) := fun q => by
    obtain ⟨_, o', es, n, e', _⟩ := RM.fr d q
    rw [nd] at e'; cases e'
  have len3 : (wordsUp s 3).length ≤ 1000 := by unfold wordsUp; simp
  refine wpAny_mono (stemWords_ok (E := E) O.ok EO.sw EO.word ((I1.room O H.AO).mono h1) (I1.stat O) I1.tk S hx hd hxd e1' (by simpa using t1) (words_ok s 3) len3) (fun v s2 z => ?_) fun _ _ z => z
  obtain ⟨D, ys, rfl, hD, hys, hpl, pv2, g1', g2', g3'⟩ := z
  -- the told stems
  obtain ⟨m, n, n1', n2'⟩ := I1.ns
  obtain ⟨v, hv1, hv2⟩ := n2' 13 "stems" (.ref a2) (by rw [H.ls]; rfl) rfl
  cases hv2
  have neL : ∀ o, st.heap.get? d = some o → False := fun o q => by rw [nd] at q; cases q
  have hdL : c.L ≠ d := fun q => by
    obtain ⟨m0, n0, _⟩ := I.ns
    obtain ⟨oL, _, _, eL, _⟩ := n0
    exact neL oL (by rw [← q]; exact eL)
  have nsL : s2.heap.Ns c.L m := Ns.slots n fun o e => (pv2 _ o e fun q => hdL (List.mem_singleton.mp q)).1
  refine wpAny_Name (wpAny_loadName_local O.kind (O.loc 13 "stems" (by rw [H.ls]; rfl)) (by rw [O.locals]; exact nsL) hv1 ?_) rfl
  have e2'' : s2.heap.get? a2 = some ⟨.type "list", none, .seq ys2.toArray n2, #[]⟩ := by
    refine (pv2 _ _ e2' fun q => ?_).2 fun q => ?_
    · exact neL _ (by rw [← List.mem_singleton.mp q]; exact e2)
    · obtain ⟨o', es, n, e', hd'⟩ := frdict _ q
      rw [e2'] at e'; cases e'; cases hd'
  rw [words_stem] at hys
  refine eq_texts hpl.isList ⟨_, e2'', rfl, n2, rfl⟩ hys t2 (stems_small s 3) (by have := H.AO.units; omega) ?_
  refine h s2 (fun b o eb hbL => ?_) (g1'.trans I1.gens) (g3'.trans I1.os)
  have hex : b ∉ c.ex := fun q => by
    unfold Act.ex at q
    rw [hsf] at q
    rcases List.mem_cons.mp q with q | q
    · exact hbL q
    · cases q
  obtain ⟨⟨sl, ea⟩, ka⟩ := I1.pv b o eb hex
  have hbd : b ∉ [d] := fun q => by
    obtain ⟨⟨sl', ea'⟩, _⟩ := I.pv b o eb hex
    exact neL _ (by rw [← List.mem_singleton.mp q]; exact ea')
  have frsE : frs (c.env :: c.outs) = c.L :: c.fs := O.frs
  obtain ⟨⟨sl2, eb2⟩, _⟩ := pv2 b _ ea hbd
  refine ⟨⟨sl2, eb2⟩, fun hf => (pv2 b o (ka hf) hbd).2 ?_⟩
  rw [frsE]
  intro q
  rcases List.mem_cons.mp q with q | q
  · exact hbL q
  · exact hf q
end
end Mine
namespace Mine
open PySem PySem.W PySem.Calls PyProof.Rows
set_option autoImplicit false
set_option maxRecDepth 100000

/-- the last four statements of the law -/
noncomputable def tailB : List Stmt → Bool
  | [.Assign [.Name w1 _] (.List [] _) _, .Assign [.Name w2 _] (.List [] _) _,
     .For (.Name i _) (.Call (.Name rg _) [.Constant (.int n) _ _] [] _) [st1, .Expr (.Call (.Attribute (.Name b1 _) m1 q2) [.Name b2 _] [] q4) _, .Expr (.Call (.Attribute (.Name b3 _) m2 r2) [.Name b4 _] [] r4) _] [] _,
     .Return (some (.Compare (.Call (.Attribute (.Call (.Name g _) [] [] _) sw g3) [.Name b5 _] [] g5) [.Eq] [.Name b6 _] _)) _] =>
    (w1 == ("words" : Str)) && (w2 == ("stems" : Str)) && (i == ("i" : Str)) && (rg == ("range" : Str)) && (n == 3) && (b1 == ("words" : Str)) && (m1 == ("append" : Str)) && (b2 == ("word" : Str)) && (b3 == ("stems" : Str)) && (m2 == ("append" : Str)) && (b4 == ("stem" : Str)) &&
    (g == ("GermanStemmer" : Str)) && (sw == ("stemWords" : Str)) && (b5 == ("words" : Str)) && (b6 == ("stems" : Str)) && chkS K_law m_st1 st1 && (q2.endLine == q4.line) && (r2.endLine == r4.line) && (g3.endLine == g5.line)
  | _ => false
theorem tail_law : tailB ((bodyOf "law" topBody).drop 13) = true := by decide +kernel

section
variable {X : Cx} {c : Act} {A : Around} {R R0 R1 : Nat} {Γ : Env'} {lc : Nat → Addr} {fI f19 fS : Addr} {fdS : FuncData} {p1 p2 p3 p4 p5 p6 : Pos} {sc : Scope} {pos rp : Pos}

theorem Base.ctx (B : Base X K_law R Γ lc) (O : c.Ok X) (AO : AOk A c R) (hsc : c.env.scope = K_law.sc) (hls : c.ls = K_law.ls) : Ctx1 X K_law c A R Γ lc :=
  { O := O, AO := AO, S := B.2.1, am := B.2.2.1, sc := hsc, ls := hls, me := fun z => (by cases z), L := B.2.2.2 }

theorem tail_ok (B : ∀ a1 a2, X.H.get? a1 = none → X.H.get? a2 = none → Base ((X.more a1).more a2) K_law R Γ lc) (EO : ∀ a1 a2, X.H.get? a1 = none → X.H.get? a2 = none → EndOk ((X.more a1).more a2) fI f19 fS fdS p1 p2 p3 p4 p5 p6 sc pos rp R0 R1)
    (O : c.Ok X) (AO : AOk A c R) (hsc : c.env.scope = K_law.sc) (hls : c.ls = K_law.ls) (hsf : c.sf = none) (hf4 : Γ.func 4 = sp_at) (hf6 : Γ.func 6 = sp_word) (h0 : R0 + 1 ≤ R) (h1 : R1 + 1 ≤ R) (hR : 3 ≤ R)
    {s : List Int} (hs : s.length ≤ 1000) {x3 x4 x7 x9 x10 x11 : Option V} {tl : List Stmt} (htl : tailB tl = true) {st : Shared}
    (I : Inv X c ⟨[some (.lst (s.map .int)), some (.str (frontOf s)), some (.str (toldOf s)), x3, x4, some (.tup [.str (lawLS s).vw.1, .str (lawLS s).vw.2]), some (.str (closeOf (lawLS s))), x7, some (.int (depthOf s)), x9, x10, x11, none, none, none, none], []⟩ st)
    {Q : Flow → Shared → Prop} {E : Value → Shared → Prop}
    (h : ∀ s', (∀ b o, c.h₀.get? b = some o → b ≠ c.L → (∃ sl, s'.heap.get? b = some { o with slots := sl }) ∧ (b ∉ c.fs → s'.heap.get? b = some o)) → s'.gens = c.gens → s'.os = c.os → Q (.ret (.bool true)) s') :
    wpAny (model X.prog X.w) A (execs tl c.env) Q E st := by
  unfold tailB at htl
  split at htl
  · simp only [Bool.and_eq_true, beq_iff_eq] at htl
    obtain ⟨⟨⟨⟨⟨⟨⟨⟨⟨⟨⟨⟨⟨⟨⟨⟨⟨⟨rfl, rfl⟩, rfl⟩, rfl⟩, rfl⟩, rfl⟩, rfl⟩, rfl⟩, rfl⟩, rfl⟩, rfl⟩, rfl⟩, rfl⟩, rfl⟩, rfl⟩, hc⟩, l1⟩, l2⟩, l3⟩ := htl
    refine wpAny_execs_cons (wp_newlist O hsf I (k := 12) (by rw [hls]; rfl) fun a1 s1 n1 H1 I1 pv1 e1 => ?_)
    dsimp only
    refine wpAny_execs_cons (wp_newlist (O.more H1) hsf I1 (k := 13) (by rw [hls]; rfl) fun a2 s2 n2 H2 I2 pv2 e2 => ?_)
    dsimp only
    have O2 : c.Ok ((X.more a1).more a2) := (O.more H1).more H2
    have H := (B a1 a2 H1 H2).ctx O2 AO hsc hls
    have ne12 : a1 ≠ a2 := fun q => by subst q; rw [e1] at n2; cases n2
    have nexof : ∀ {sx : Shared} {σ : St} {Y : Cx} (OY : c.Ok Y) (IY : Inv Y c σ sx) {b : Addr} {o : Obj}, sx.heap.get? b = some o → (∀ es n, o.data ≠ .dict es n) → b ∉ c.ex ∧ b ∉ c.fs := fun {sx σ Y} OY IY {b o} e hd => by
      have nf := IY.notfr OY e hd
      refine ⟨fun hx => ?_, fun q => nf (.tail _ q)⟩
      unfold Act.ex at hx
      rw [hsf] at hx
      rcases List.mem_cons.mp hx with q | q
      · exact nf (by rw [q]; exact .head _)
      · cases q
    have e1' : s2.heap.get? a1 = some ⟨.type "list", none, .seq #[] 0, #[]⟩ := by
      obtain ⟨x1, x2⟩ := nexof (O.more H1) I1 e1 fun es n q => by cases q
      exact (pv2 _ _ e1 x1).2 x2
    have fresh0 : ∀ b, st.heap.get? b = none → c.h₀.get? b = none := fun b hb => by
      cases q : c.h₀.get? b with
      | none => rfl
      | some o =>
        by_cases hx : b ∈ c.ex
        · unfold Act.ex at hx
          rw [hsf] at hx
          rcases List.mem_cons.mp hx with q' | q'
          · subst q'; rw [O.new] at q; cases q
          · cases q'
        · obtain ⟨⟨sl, e⟩, _⟩ := I.pv b o q hx
          rw [hb] at e; cases e
    have f1 : c.h₀.get? a1 = none := fresh0 a1 n1
    have f2 : c.h₀.get? a2 = none := fresh0 a2 (by
      cases q : st.heap.get? a2 with
      | none => rfl
      | some o =>
        by_cases hx : a2 ∈ c.ex
        · unfold Act.ex at hx
          rw [hsf] at hx
          rcases List.mem_cons.mp hx with q' | q'
          · subst q'
            obtain ⟨_, ⟨oL, _, _, eL, _⟩, _⟩ := I1.ns
            rw [n2] at eL; cases eL
          · cases q'
        · obtain ⟨⟨sl, e⟩, _⟩ := pv1 a2 o q hx
          rw [n2] at e; cases e)
    -- the loop
    refine wpAny_execs_cons (wpAny_For (wpAny_Call_Name_kw (H.toCtx0.blt I2 rfl H.S.brange ?_)) (fun _ => rfl))
    refine callWith_type1 (wpAny_mono (sndEs H.toCtx0 (.cons (.int 3) .nil) _ _ _ s2 (fun Ws σ' => Ws = [.int 3] ∧ σ' = ⟨lawLoc s a1 a2 x3 x4 x7 x9 x10 x11 none none, []⟩) rfl I2 ⟨rfl, rfl⟩) (fun vs s3 z => ?_) fun _ _ z => z) (starEach_cons rfl) rfl
    obtain ⟨Ws, σ3, I3, k3, r3, rfl, rfl⟩ := z
    refine wp_range (ints_rel r3 (is := [3]) rfl) (xs := [0, 1, 2]) rfl (by intro x hx; simp at hx; omega) fun h' it tk a stp kk hit hxe hri htk => ?_
    have h3 : ([V.int 0, V.int 1, V.int 2] : List V) = (List.range 3).map fun (i : Nat) => V.int (a + (i : Int) * stp) := hxe
    have ea : a = 0 ∧ stp = 1 := by
      simp [List.range_succ] at h3
      omega
    obtain ⟨rfl, rfl⟩ := ea
    have I4 : Inv ((X.more a1).more a2) c ⟨lawLoc s a1 a2 x3 x4 x7 x9 x10 x11 none none, []⟩ { s3 with heap := h', toks := tk } := I3.go O2 (htk I3.tk) (.of_keeps kk)
    have up : ∀ b o, s2.heap.get? b = some o → (∀ es n, o.data ≠ .dict es n) → h'.get? b = some o := fun b o e hd => by
      obtain ⟨y1, y2⟩ := nexof O2 I2 e hd
      exact kk b o ((k3 b o e y1).2 y2)
    have hnew : c.h₀.get? it = none := by
      cases q : c.h₀.get? it with
      | none => rfl
      | some o =>
        exfalso
        by_cases hx : it ∈ c.ex
        · unfold Act.ex at hx
          rw [hsf] at hx
          rcases List.mem_cons.mp hx with q' | q'
          · subst q'; rw [O.new] at q; cases q
          · cases q'
        · obtain ⟨⟨sl, e⟩, _⟩ := I3.pv it o q hx
          rw [hit] at e; cases e
    have T0 : Two ((X.more a1).more a2) c s a1 a2 0 ⟨lawLoc s a1 a2 x3 x4 x7 x9 x10 x11 none none, []⟩ { s3 with heap := h', toks := tk } :=
      ⟨I4, ⟨[], ⟨rfl, fun i t ht => by simp [wordsUp] at ht⟩, 0, up _ _ e1' fun es n q => by cases q⟩, ⟨[], ⟨rfl, fun i t ht => by simp [stemsUp] at ht⟩, 0, up _ _ e2 fun es n q => by cases q⟩⟩
    refine loop3_ok H hsf hf4 hf6 hs ne12 (.tail _ (.head _)) (.head _) f1 f2 hc (beq_iff_eq.mpr l1) (beq_iff_eq.mpr l2) hri hnew T0 fun s5 y7 y14 y15 T5 => ?_
    refine wpAny_execs_cons (ret_ok H hsf (EO a1 a2 H1 H2) h0 h1 hR (beq_iff_eq.mpr l3) T5 fun s6 old g1 g3 => ?_)
    exact h s6 old g1 g3
  · cases htl

/-- the law's def -/
theorem law_def (B0 : Base X K_law R Γ lc) (B : ∀ a1 a2, X.H.get? a1 = none → X.H.get? a2 = none → Base ((X.more a1).more a2) K_law R Γ lc) (EO : ∀ a1 a2, X.H.get? a1 = none → X.H.get? a2 = none → EndOk ((X.more a1).more a2) fI f19 fS fdS p1 p2 p3 p4 p5 p6 sc pos rp R0 R1)
    (hf0 : Γ.func 0 = sp_const (pairs vowels)) (hf1 : Γ.func 1 = sp_const (lstr closed)) (hf4 : Γ.func 4 = sp_at) (hf5 : Γ.func 5 = sp_some) (hf6 : Γ.func 6 = sp_word) (h0 : R0 + 1 ≤ R) (h1 : R1 + 1 ≤ R) (hR : 3 ≤ R)
    {f : Addr} {fd : FuncData} (F : FnOk X K_law f fd (bodyOf "law" topBody) ["script"])
    {l : List Env} {st : Shared} {a : Addr} {s : List Int} (hs : s.length ≤ 1000) (RM : Room X A l (R + 1) st.heap) (sta : Stat X st.heap) (tk : 0 < st.toks) (ra : Rel X st.heap (.ref a) (.lst (s.map .int))) {E : Value → Shared → Prop} :
    wpAny (model X.prog X.w) A (call (.ref f) [.ref a]) (fun v s' => v = .bool true ∧ Pv [] (frs l) st.heap s'.heap ∧ s'.gens = st.gens ∧ s'.os = st.os) E st := by
  obtain ⟨o, ho, hod⟩ := F.at_
  refine wpAny_call (codeAny_call_def (binds := (["script"] : List Str).zip [Value.ref a]) (by have := RM.depth; omega) (sta.1 _ _ ho) hod (nolimit_of B0.1 sta) (F.code.keeps sta.1) F.body (.of_eq (F.bind _ rfl)) F.cells ?_ ?_ F.co F.gen F.kind)
  · intro p hp
    obtain ⟨x, y⟩ := p
    exact F.pl _ (List.of_mem_zip hp).1
  intro h₀ hns hk
  have hnew : st.heap.get? st.heap.objs.size = none := Heap.get?_none_of_le (Nat.le_refl _)
  let c : Act := ⟨st.heap.objs.size, callEnv fd st.heap.objs.size f, l, st.heap, K_law.ls, none, st.gens, st.drawn, st.os⟩
  have hLH : X.H.get? c.L = none := by
    cases q : X.H.get? c.L with
    | none => rfl
    | some o => have := sta.1 _ _ q; rw [hnew] at this; cases this
  have O : c.Ok X := {
    hL := hLH
    new := hnew
    frame := rfl
    locals := rfl
    kind := F.kind
    loc := fun k nm hk => F.ll nm (List.mem_of_getElem? hk)
    nodup := F.nodup
    noself := fun z => by cases z
    selfk := fun z => by cases z
    outs := RM.ff
    outc := RM.fr
    st := sta.1
    ok := B0.1
    glob := F.globals
    blt := F.builtins
    self := fun x' d' e => by cases e }
  have AO : AOk (A.deeper c.env) c R := {
    handled := RM.handled
    depth := by have := RM.depth; show A.depth + 1 + R < _; omega
    units := by have := RM.units; show A.units + 3 + 10 * R + 40 < _; omega
    frames := by show A.frames.map _ = _; rw [RM.frames]; rfl }
  have H := B0.ctx O AO F.sc.symm rfl
  have low : Low X st.heap h₀ := .of_keeps hk
  have I : Inv X c ⟨[some (.lst (s.map .int)), none, none, none, none, none, none, none, none, none, none, none, none, none, none, none], []⟩ { st with heap := h₀, toks := st.toks + ((["script"] : List Str).zip [Value.ref a]).length } := {
    ns := ⟨_, hns, (fun x' d' e => by cases e), fun k nm V h1 h2 => by
        cases k with
        | zero =>
          have h1 : some ("script" : Str) = some nm := h1
          cases h1; cases h2
          exact ⟨.ref a, rfl, ra.low X low⟩
        | succ k =>
          exfalso
          have h2 : (List.replicate 15 (none : Option Mine.V))[k]? = some (some V) := h2
          rw [List.getElem?_replicate] at h2
          split at h2 <;> cases h2⟩
    self := fun x' d' e => by cases e
    pv := .of_keeps hk
    gens := rfl
    drawn := rfl
    os := rfl
    tk := Nat.lt_of_lt_of_le tk (Nat.le_add_right _ _)
    chg := fun a ha => by
      obtain ⟨o, xs, k, e, hd⟩ := sta.2 a ha
      exact ⟨o, xs, k, hk _ _ e, hd⟩ }
  rw [show bodyOf "law" topBody = (bodyOf "law" topBody).take 13 ++ (bodyOf "law" topBody).drop 13 from (List.take_append_drop 13 _).symm, execs_app]
  refine wpAny_bind (wpAny_mono (sndSs H m_law _ _ _ (fun fl σ' => fl = .next ∧ ∃ x3 x4 x7 x9 x10 x11, σ' = ⟨[some (.lst (s.map .int)), some (.str (frontOf s)), some (.str (toldOf s)), x3, x4, some (.tup [.str (lawLS s).vw.1, .str (lawLS s).vw.2]), some (.str (closeOf (lawLS s))), x7, some (.int (depthOf s)), x9, x10, x11, none, none, none, none], []⟩) c_law I (v_law_head hf0 hf1 hf4 hf5 hs fun a3 a4 a7 a9 a10 a11 => ⟨rfl, a3, a4, a7, a9, a10, a11, rfl⟩)) (fun f s1 z => ?_) fun e s1 z => ?_)
  · obtain ⟨fl, σ', I1, k1, hf, rfl, x3, x4, x7, x9, x10, x11, rfl⟩ := z
    cases hf
    refine tail_ok B EO O AO F.sc.symm rfl rfl hf4 hf6 h0 h1 hR hs tail_law I1 fun s' old g1 g3 => ?_
    refine ⟨rfl, fun b o e hb => ?_, g1, g3⟩
    have hL : b ≠ c.L := fun z => by subst z; rw [hnew] at e; cases e
    exact old b o e hL
  · obtain ⟨l, nm, e', σ', _, _, _, _, _, q⟩ := z
    cases q.1
end
end Mine
namespace Mine
open PySem PySem.W PySem.Calls PyProof.Rows
set_option autoImplicit false
set_option maxRecDepth 1000000
set_option maxHeartbeats 0

/-- the contracts of all methods and functions -/
noncomputable def noM : Spec := fun _ _ _ => False
noncomputable def noF : FSpec := fun _ _ => False
noncomputable def full : Nat → Spec
  | 0 => sp_set_current | 1 => sp_get_current | 2 => sp_in_grouping | 3 => sp_go true | 4 => sp_in_grouping_b | 5 => sp_go false | 6 => sp_eq_s_b | 7 => sp_find | 8 => sp_find_b | 9 => sp_replace_s
  | 10 => sp_slice_from | 11 => sp_slice_del | 12 => sp_pre | 13 => sp_mark | 14 => sp_post | 15 => sp_R Ms.p1 | 16 => sp_R Ms.p2 | 17 => sp_suffix | 18 => sp_stem | 19 => sp_stemWord | _ => noM
noncomputable def ffull : Nat → FSpec
  | 0 => sp_const (pairs vowels) | 1 => sp_const (lstr closed) | 2 => sp_const (lstr late) | 3 => sp_const (lstr marks) | 4 => sp_at | 5 => sp_some | 6 => sp_word | _ => noF
noncomputable def globV : Nat → V
  | 0 => .str sounds | 1 => dotsV | _ => famV
noncomputable def catV : Nat → V
  | 0 => .set gv | 1 => .set gET | 2 => .set gS | 3 => .set gST | 4 => .lst (vsF A0) | 5 => .lst (vsF A1) | 6 => .lst (vsB A2) | 7 => .lst (vsB A3) | 8 => .lst (vsB A4) | 9 => .lst (vsB A5) | 10 => .lst (vsB A6) | _ => .lst (vsB A7)
noncomputable def gam (p q : List Nat) : Env' := ⟨fun m => if p.contains m = true then full m else noM, fun m => if q.contains m = true then ffull m else noF, globV, catV⟩

noncomputable def maddrs : List Addr := [42, 49, 63, 70, 77, 98, 126, 133, 140, 147, 154, 161, 240, 247, 254, 261, 268, 275, 282, 189]
noncomputable def faddrs : List Addr := [479, 491, 776, 783, 790, 797, 804]
noncomputable def caddrs : List Addr := [230, 231, 232, 233, 301, 320, 354, 370, 386, 393, 418, 428]

/-! values of the module's heap, looked at by the written part -/
noncomputable def all2 {α β : Type} (p : α → β → Bool) : List α → List β → Bool
  | [], [] => true
  | a :: l, b :: m => p a b && all2 p l m
  | _, _ => false
noncomputable def strIs (s : List Nat) : Option (Option Value) → Bool
  | some (some (.str t _)) => t == tx s
  | _ => false
noncomputable def intIs (i : Int) : Option (Option Value) → Bool
  | some (some (.int j _)) => i == j
  | _ => false
noncomputable def rc (K : Frag) (CA : Addr) (sets : List (Addr × List Nat)) : Nat → V → Value → Bool
  | 0, _, _ => false
  | n + 1, x, v => match x, v with
    | .none, .none => true
    | .int i, .int j _ => i == j
    | .str s, .str t _ => t == tx s
    | .tup l, .ref a => (match K.lookup a with
      | some ⟨.type c, none, .seq xs _, sl⟩ => c == "tuple" && sl.isEmpty && all2 (rc K CA sets n) l xs.toList
      | _ => false)
    | .lst l, .ref a => (match K.lookup a with
      | some ⟨.type c, none, .seq xs _, sl⟩ => c == "list" && sl.isEmpty && all2 (rc K CA sets n) l xs.toList
      | _ => false)
    | .amg s sub res, .ref a => (match K.lookup a with
      | some ⟨.ref c, some d, .plain, sl⟩ => c == CA && sl.isEmpty && (match K.lookup d with
        | some ⟨.type t, none, .dict es _, sl2⟩ => t == "dict" && sl2.isEmpty && strIs s (getL "s" es.toList) && intIs sub (getL "substring_i" es.toList) && intIs res (getL "result" es.toList)
        | _ => false)
      | _ => false)
    | .set l, .ref a => sets.lookup a == some l
    | _, _ => false

theorem strIs_ok {s : List Nat} {r : Option (Option Value)} (h : strIs s r = true) : ∃ t, r = some (some (.str (tx s) t)) := by
  unfold strIs at h
  split at h
  · rename_i t k
    exact ⟨k, by rw [beq_iff_eq.mp h]⟩
  · cases h
theorem intIs_ok {s : Int} {r : Option (Option Value)} (h : intIs s r = true) : ∃ t, r = some (some (.int s t)) := by
  unfold intIs at h
  split at h
  · rename_i t k
    exact ⟨k, by rw [beq_iff_eq.mp h]⟩
  · cases h

section
variable {X : Cx} {sets : List (Addr × List Nat)}
theorem Cx.Ok.nochg (O : X.Ok) {a : Addr} {o : Obj} (h : X.H.get? a = some o) : a ∉ X.chg := fun q => by
  rw [O.chg a q] at h; cases h
theorem rcl_ok {n : Nat} (ih : ∀ x v, rc X.K X.CA sets n x v = true → ∀ h, Stat X h → Rel X h v x) : ∀ (l : List V) (vs : List Value), all2 (rc X.K X.CA sets n) l vs = true → ∀ h, Stat X h → RelL X h vs l
  | [], [], _, _, _ => .nil
  | x :: l, v :: vs, e, h, st => by
    simp only [all2, Bool.and_eq_true] at e
    exact .cons _ _ _ _ (ih x v e.1 h st) (rcl_ok ih l vs e.2 h st)
  | [], _ :: _, e, _, _ => by cases e
  | _ :: _, [], e, _, _ => by cases e
theorem rc_ok (O : X.Ok) (hs : ∀ a l, sets.lookup a = some l → ∃ o n, n < scanBound ∧ X.H.get? a = some o ∧ o.SetObjOf (strKind X.prog X.w) (oneIn l) n) :
    ∀ (n : Nat) (x : V) (v : Value), rc X.K X.CA sets n x v = true → ∀ h, Stat X h → Rel X h v x
  | 0, _, _, e, _, _ => by cases e
  | n + 1, x, v, e, h, st => by
    have ih := rc_ok O hs n
    unfold rc at e
    split at e
    · exact .none
    · rw [beq_iff_eq.mp e]; exact .int _ _
    · rw [beq_iff_eq.mp e]; exact .str _ _
    · split at e
      · rename_i c xs k sl ho
        simp only [Bool.and_eq_true, beq_iff_eq] at e
        obtain ⟨⟨rfl, h2⟩, h3⟩ := e
        have h2 : sl = #[] := Array.isEmpty_iff.mp h2
        subst h2
        have hH := O.K _ _ ho
        refine .tup _ xs.toList k _ (O.nochg hH) ?_ (rcl_ok ih _ _ h3 h st)
        rw [Array.toArray_toList]
        exact st.1 _ _ hH
      · cases e
    · split at e
      · rename_i c xs k sl ho
        simp only [Bool.and_eq_true, beq_iff_eq] at e
        obtain ⟨⟨rfl, h2⟩, h3⟩ := e
        have h2 : sl = #[] := Array.isEmpty_iff.mp h2
        subst h2
        have hH := O.K _ _ ho
        refine .lst _ xs.toList k _ (O.nochg hH) ?_ (rcl_ok ih _ _ h3 h st)
        rw [Array.toArray_toList]
        exact st.1 _ _ hH
      · cases e
    · split at e
      · rename_i c d sl ho
        simp only [Bool.and_eq_true, beq_iff_eq] at e
        obtain ⟨⟨rfl, h2⟩, e⟩ := e
        have h2 : sl = #[] := Array.isEmpty_iff.mp h2
        subst h2
        split at e
        · rename_i t es k sl2 hd
          simp only [Bool.and_eq_true, beq_iff_eq] at e
          obtain ⟨⟨⟨⟨rfl, h3⟩, h4⟩, h5⟩, h6⟩ := e
          have h3 : sl2 = #[] := Array.isEmpty_iff.mp h3
          subst h3
          obtain ⟨t1, g1⟩ := strIs_ok h4
          obtain ⟨t2, g2⟩ := intIs_ok h5
          obtain ⟨t3, g3⟩ := intIs_ok h6
          refine .amg _ d es.toList k _ _ _ t1 t2 t3 (O.K _ _ ho) ?_ g1 g2 g3
          rw [O.K _ _ hd]
        · cases e
      · cases e
    · obtain ⟨o, n, h1, h2, h3⟩ := hs _ _ (beq_iff_eq.mp e)
      exact .set _ _ o n h1 h2 h3
    · cases e
end
end Mine
namespace Mine
open PySem PySem.W PySem.Calls PyProof.Rows
set_option autoImplicit false
set_option maxRecDepth 1000000
set_option maxHeartbeats 0

/-- four sets' tables -/
structure Sh4 where
  e1 : Array (Int × Value)
  e2 : Array (Int × Value)
  e3 : Array (Int × Value)
  e4 : Array (Int × Value)
  n1 : Nat
  n2 : Nat
  n3 : Nat
  n4 : Nat
  t1 : SetTable
  t2 : SetTable
  t3 : SetTable
  t4 : SetTable
noncomputable def Sh4.a (S : Sh4) : Obj := ⟨.type "set", none, .set S.e1 S.n1 S.t1, #[]⟩
noncomputable def Sh4.b (S : Sh4) : Obj := ⟨.type "set", none, .set S.e2 S.n2 S.t2, #[]⟩
noncomputable def Sh4.c (S : Sh4) : Obj := ⟨.type "set", none, .set S.e3 S.n3 S.t3, #[]⟩
noncomputable def Sh4.d (S : Sh4) : Obj := ⟨.type "set", none, .set S.e4 S.n4 S.t4, #[]⟩
noncomputable def KQ (P : Params) (S : Sh4) : Frag := KF P S.a S.b S.c S.d
noncomputable def mgOf (P : Params) (nm : Str) : Option Value := match (ob3 P).data with
  | .dict es _ => nsFind es nm
  | _ => none
noncomputable def mbOf (P : Params) (nm : Str) : Option Value := match (boot_o_0 P).data with
  | .dict es _ => nsFind es nm
  | _ => none

theorem q_meth (P : Params) (S : Sh4) : ((N.meths.zip maddrs).all fun p => !fnames.contains p.1 && plainGet (KQ P S) 431 p.1 && findIn (KQ P S) (.ref 431) p.1 == some (some (.ref p.2)) && typeIn (KQ P S) (.ref p.2) == some (.type "function") && keepIn (KQ P S) (.ref p.2)) = true := by kernel_rfl!
theorem q_func (P : Params) (S : Sh4) : ((N.funcs.zip faddrs).all fun p => !(p.1 == ("__debug__" : Str)) && mgOf P p.1 == some (.ref p.2) && keepIn (KQ P S) (.ref p.2)) = true := by kernel_rfl!
theorem q_glob (P : Params) : (N.gl.all fun p => !(p == ("__debug__" : Str)) && (mgOf P p).isSome) = true := by kernel_rfl!

/-- a name of a class, read -/
noncomputable def catOk (K : Frag) (sets : List (Addr × List Nat)) (p : (Str × Str) × Nat) : Bool := !(p.1.1 == ("__debug__" : Str)) && (p.1.1 == ("GermanStemmer" : Str)) && (match findCls K (.ref 431) (.type "type") p.1.2 with
  | some (.val v) => rc K 218 sets 6 (catV p.2) v
  | _ => false)
noncomputable def setsQ : List (Addr × List Nat) := [(230, gv), (231, gET), (232, gS), (233, gST)]
theorem q_reads (P : Params) (S : Sh4) : readsIn (KQ P S) 431 (.type "type") = true := by kernel_rfl!
theorem q_cats (P : Params) (S : Sh4) : ((N.cats.zip (List.range 12)).all (catOk (KQ P S) setsQ)) = true := by kernel_rfl!
theorem q_glob0 (P : Params) : (match mgOf P "_law_sounds" with | some v => rc ([] : Frag) 218 setsQ 6 (globV 0) v | none => false) = true := by kernel_rfl!
theorem q_glob2 (P : Params) (S : Sh4) : (match mgOf P "_law_families" with | some v => rc (KQ P S) 218 setsQ 6 famV v | none => false) = true := by kernel_rfl!
noncomputable def fokOk (K : Frag) (nm : Str) : Bool := plainGet K 431 nm && hasDictIn K 431 && (match findIn K (.ref 431) nm with | some attr => noGet K attr | none => false) && findIn K (.ref 431) "__setattr__" == some (some (.builtin "object.__setattr__")) && plainOver K 431 && takerIn K 431 nm == some none
theorem q_fok (P : Params) (S : Sh4) : (fnames.all (fokOk (KQ P S))) = true := by kernel_rfl!
noncomputable def amOk (K : Frag) (nm : Str) : Bool := plainGet K 218 nm && hasDictIn K 218 && (match findIn K (.ref 218) nm with | some attr => noGet K attr | none => false)
theorem q_am (P : Params) (S : Sh4) : (anames.all (amOk (KQ P S))) = true := by kernel_rfl!
theorem q_len (P : Params) : mgOf P "len" = none ∧ mbOf P "len" = some (.builtin "len") := ⟨by kernel_rfl!, by kernel_rfl!⟩
theorem q_ord (P : Params) : mgOf P "ord" = none ∧ mbOf P "ord" = some (.builtin "ord") := ⟨by kernel_rfl!, by kernel_rfl!⟩
theorem q_min (P : Params) : mgOf P "min" = none ∧ mbOf P "min" = some (.builtin "min") := ⟨by kernel_rfl!, by kernel_rfl!⟩
theorem q_range (P : Params) : mgOf P "range" = none ∧ mbOf P "range" = some (.type "range") := ⟨by kernel_rfl!, by kernel_rfl!⟩
noncomputable def lcQ (l : Nat) : Addr := [443, 456, 469].getD l 0
theorem q_labs (P : Params) : ((N.labs.zip (List.range 3)).all fun p => mgOf P p.1 == some (.ref (lcQ p.2))) = true := by kernel_rfl!
theorem q_exm (P : Params) (S : Sh4) : ((List.range 3).all fun l => (List.range 3).all fun m => exmOne (KQ P S) (.ref (lcQ l)) (.ref (lcQ m)) == some (Nat.beq l m)) = true := by kernel_rfl!
end Mine
namespace Mine
open PySem PySem.W PySem.Calls PyProof.Rows
set_option autoImplicit false
set_option maxRecDepth 1000000
set_option maxHeartbeats 0

noncomputable def cx (w : World) (S : Sh4) (H : Heap) (chg : List Addr) : Cx := { prog := prg, w := w, K := KQ w.params S, H := H, chg := chg, mg := mgOf w.params, mb := mbOf w.params, C := 431, CA := 218 }

theorem lookup_mem {α β : Type} [BEq α] [LawfulBEq α] : ∀ {l : List (α × β)} {a : α} {b : β}, l.lookup a = some b → (a, b) ∈ l
  | (c, d) :: l, a, b, h => by
    rw [List.lookup_cons] at h
    split at h
    · rename_i q; cases h; rw [beq_iff_eq.mp q]; exact .head _
    · exact .tail _ (lookup_mem h)
theorem zip_all {α β : Type} {p : α × β → Bool} {l : List α} {m : List β} (h : (l.zip m).all p = true) {i : Nat} {a : α} {b : β} (ha : l[i]? = some a) (hb : m[i]? = some b) : p (a, b) = true := by
  refine List.all_eq_true.mp h _ ?_
  obtain ⟨h1, rfl⟩ := List.getElem?_eq_some_iff.mp ha
  obtain ⟨h2, rfl⟩ := List.getElem?_eq_some_iff.mp hb
  have h3 : i < (l.zip m).length := by rw [List.length_zip]; omega
  have : (l.zip m)[i] = (l[i], m[i]) := List.getElem_zip
  exact this ▸ List.getElem_mem h3
theorem get_lt {α β : Type} {l : List α} {m : List β} (h : l.length = m.length) {i : Nat} {a : α} (ha : l[i]? = some a) : ∃ b, m[i]? = some b := by
  obtain ⟨h1, rfl⟩ := List.getElem?_eq_some_iff.mp ha
  exact ⟨m[i]'(h ▸ h1), List.getElem?_eq_getElem _⟩

section
variable {w : World} {os : OsState} {S : Sh4} {s₀ : Shared} (B : Behind w os S.a S.b S.c S.d s₀)
include B
theorem cx_K : (KQ w.params S).In s₀.heap := fun _ _ e => B.at_ _ (lookup_mem e)
theorem cx_ok {chg : List Addr} (hc : ∀ a ∈ chg, s₀.heap.get? a = none) : (cx w S s₀.heap chg).Ok := by
  have e0 := at0 B
  have e2 := at2 B
  have e3 := at3 B
  have c2 : cStatics = 2 := by decide +kernel
  have c3 : mainGlobals = 3 := by decide +kernel
  have c0 : builtinsNs = 0 := by decide +kernel
  have g3 : s₀.heap.isNs mainGlobals = true := by
    simp only [Heap.isNs, c3, e3]
    kernel_rfl!
  have g2 : s₀.heap.isNs cStatics = true := by
    simp only [Heap.isNs, c2, e2]
    kernel_rfl!
  have g0 : s₀.heap.isNs builtinsNs = true := by
    simp only [Heap.isNs, c0, e0]
    kernel_rfl!
  refine ⟨cx_K B, ?_, ?_, ⟨_, Heap.Ns.of_isNs g2, ?_⟩, hc⟩
  · have h := Heap.Ns.of_isNs g3
    have : s₀.heap.nsMap mainGlobals = mgOf w.params := by
      funext nm
      simp only [Heap.nsMap, c3, e3]
      rfl
    rw [this] at h
    exact h
  · have h := Heap.Ns.of_isNs g0
    have : s₀.heap.nsMap builtinsNs = mbOf w.params := by
      funext nm
      simp only [Heap.nsMap, c0, e0]
      rfl
    rw [this] at h
    exact h
  · show s₀.heap.nsMap cStatics _ = none
    simp only [Heap.nsMap, c2, e2]
    kernel_rfl!
theorem cx_sets : ∀ a l, setsQ.lookup a = some l → ∃ o n, n < scanBound ∧ s₀.heap.get? a = some o ∧ o.SetObjOf (strKind prg w) (oneIn l) n := by
  intro a l h
  have h := lookup_mem h
  have k := cx_K B
  have l1 : (KQ w.params S).lookup 230 = some S.a := by kernel_rfl!
  have l2 : (KQ w.params S).lookup 231 = some S.b := by kernel_rfl!
  have l3 : (KQ w.params S).lookup 232 = some S.c := by kernel_rfl!
  have l4 : (KQ w.params S).lookup 233 = some S.d := by kernel_rfl!
  have hb : ∀ n : Nat, n ≤ 20 → n < scanBound := fun n h => Nat.lt_of_le_of_lt h (by decide)
  unfold setsQ at h
  simp only [List.mem_cons, Prod.mk.injEq, List.not_mem_nil, or_false] at h
  rcases h with ⟨rfl, rfl⟩ | ⟨rfl, rfl⟩ | ⟨rfl, rfl⟩ | ⟨rfl, rfl⟩
  · exact ⟨_, 9, hb _ (by decide), k _ _ l1, B.o1⟩
  · exact ⟨_, 13, hb _ (by decide), k _ _ l2, B.o2⟩
  · exact ⟨_, 11, hb _ (by decide), k _ _ l3, B.o3⟩
  · exact ⟨_, 10, hb _ (by decide), k _ _ l4, B.o4⟩
end

section
variable {w : World} {os : OsState} {S : Sh4} {s₀ : Shared} {chg : List Addr}

/-- what holds of the methods already proved -/
noncomputable def Have (X : Cx) (R : Nat) (p : List Nat) : Prop := ∀ m ∈ p, ∀ f, maddrs[m]? = some f → MethOk X f R (full m)
noncomputable def HaveF (X : Cx) (R : Nat) (p : List Nat) : Prop := ∀ m ∈ p, ∀ f, faddrs[m]? = some f → FuncOk X f R (ffull m)

theorem MethOk.up {X : Cx} {f : Addr} {R R' : Nat} {sp : Spec} (M : MethOk X f R sp) (h : R ≤ R') : MethOk X f R' sp :=
  fun A l s x d F vs Vs Q E a b c d' e g i j q => M A l s x d F vs Vs Q E (a.mono h) b c d' e g i j q
theorem FuncOk.up {X : Cx} {f : Addr} {R R' : Nat} {sp : FSpec} (M : FuncOk X f R sp) (h : R ≤ R') : FuncOk X f R' sp :=
  fun A l s vs Vs Q E a b c d q => M A l s vs Vs Q E (a.mono h) b c d q

/-- the look at the dots -/
theorem dots_rel (B : Behind w os S.a S.b S.c S.d s₀) (hc : ∀ a ∈ chg, s₀.heap.get? a = none) (h : Heap) (st : Stat (cx w S s₀.heap chg) h) : Rel (cx w S s₀.heap chg) h (.ref 480) dotsV := by
  have O := cx_ok B hc
  have l0 : (KQ w.params S).lookup 480 = some (ob480 w.params) := by kernel_rfl!
  have r : ∀ a l, rc (KQ w.params S) 218 setsQ 6 (lstr l) (.ref a) = true → Rel (cx w S s₀.heap chg) h (.ref a) (lstr l) := fun a l e => rc_ok O (cx_sets B) 6 _ _ e h st
  have n0 : ((480 : Addr) == sysModules) = false := by decide +kernel
  exact .dct 480 [⟨_, .str (tx [97]) 1376, .ref 481⟩, ⟨_, .str (tx [111]) 1380, .ref 482⟩, ⟨_, .str (tx [117]) 1384, .ref 483⟩, ⟨_, .str (tx [97, 117]) 1388, .ref 484⟩] 4 _ n0 (cx_K B _ _ l0)
    ⟨⟨_, _, rfl, rfl⟩, ⟨_, _, rfl, rfl⟩, ⟨_, _, rfl, rfl⟩, ⟨_, _, rfl, rfl⟩, trivial⟩
    (.cons _ _ _ _ _ _ _ (r _ _ (by kernel_rfl!)) (.cons _ _ _ _ _ _ _ (r _ _ (by kernel_rfl!)) (.cons _ _ _ _ _ _ _ (r _ _ (by kernel_rfl!)) (.cons _ _ _ _ _ _ _ (r _ _ (by kernel_rfl!)) .nil))))

theorem sig_of (B : Behind w os S.a S.b S.c S.d s₀) (hc : ∀ a ∈ chg, s₀.heap.get? a = none) {R : Nat} {p q : List Nat} (M : Have (cx w S s₀.heap chg) R p) (F : HaveF (cx w S s₀.heap chg) R q) : Sig (cx w S s₀.heap chg) N (gam p q) R := by
  have O := cx_ok B hc
  refine ⟨fun m nm h => ?_, fun m nm h => ?_, fun m nm h => ?_, fun m pr h => ?_, fun nm h => ?_, q_len _, q_ord _, q_min _, q_range _⟩
  · obtain ⟨f, hf⟩ := get_lt (m := maddrs) (by rfl) h
    have z := zip_all (q_meth w.params S) h hf
    simp only [Bool.and_eq_true, Bool.not_eq_true', beq_iff_eq] at z
    obtain ⟨⟨⟨⟨z1, z2⟩, z3⟩, z4⟩, z5⟩ := z
    refine ⟨fun q => ?_, z2, f, z3, z4, z5, ?_⟩
    · rw [List.contains_iff_mem.mpr q] at z1; cases z1
    · show MethOk _ f R (if p.contains m = true then full m else noM)
      by_cases hp : p.contains m = true
      · rw [if_pos hp]
        exact M m (List.contains_iff_mem.mp hp) f hf
      · rw [if_neg hp]
        intro A l s x d F vs Vs Q E _ _ _ _ _ _ _ _ q
        exact q.elim
  · obtain ⟨f, hf⟩ := get_lt (m := faddrs) (by rfl) h
    have z := zip_all (q_func w.params S) h hf
    simp only [Bool.and_eq_true, Bool.not_eq_true', beq_iff_eq] at z
    obtain ⟨⟨z1, z2⟩, z3⟩ := z
    refine ⟨z1, f, z2, z3, ?_⟩
    show FuncOk _ f R (if q.contains m = true then ffull m else noF)
    by_cases hp : q.contains m = true
    · rw [if_pos hp]
      exact F m (List.contains_iff_mem.mp hp) f hf
    · rw [if_neg hp]
      intro A l s vs Vs Q E _ _ _ _ q
      exact q.elim
  · have z := List.all_eq_true.mp (q_glob w.params) nm (List.mem_of_getElem? h)
    simp only [Bool.and_eq_true, Bool.not_eq_true'] at z
    refine ⟨z.1, ?_⟩
    have hm : m < 3 := (List.getElem?_eq_some_iff.mp h).1
    match m, hm, h with
    | 0, _, h =>
      obtain rfl := Option.some.inj h
      have := q_glob0 w.params
      cases e : mgOf w.params "_law_sounds" with
      | none => rw [e] at this; cases this
      | some v =>
        rw [e] at this
        refine ⟨v, e, fun h st => ?_⟩
        have e2 : mgOf w.params "_law_sounds" = some (.str (tx sounds) 1368) := by kernel_rfl!
        rw [e] at e2
        cases e2
        exact .str _ _
    | 1, _, h =>
      obtain rfl := Option.some.inj h
      exact ⟨.ref 480, by kernel_rfl!, fun h st => dots_rel B hc h st⟩
    | 2, _, h =>
      obtain rfl := Option.some.inj h
      have := q_glob2 w.params S
      cases e : mgOf w.params "_law_families" with
      | none => rw [e] at this; cases this
      | some v =>
        rw [e] at this
        exact ⟨v, e, fun h st => rc_ok O (cx_sets B) 6 _ _ this h st⟩
  · have hm : m < 12 := (List.getElem?_eq_some_iff.mp h).1
    have z := zip_all (q_cats w.params S) h (b := m) (by rw [List.getElem?_range hm])
    unfold catOk at z
    simp only [Bool.and_eq_true, Bool.not_eq_true', beq_iff_eq] at z
    obtain ⟨⟨z1, z2⟩, z3⟩ := z
    split at z3
    · rename_i v hv
      refine ⟨z1, 431, .type "type", v, ?_, q_reads _ _, hv, fun h st => rc_ok O (cx_sets B) 6 _ _ z3 h st⟩
      rw [z2]
      show mgOf w.params "GermanStemmer" = some (.ref 431)
      kernel_rfl!
    · cases z3
  · have z := List.all_eq_true.mp (q_fok w.params S) nm h
    unfold fokOk at z
    simp only [Bool.and_eq_true, beq_iff_eq] at z
    obtain ⟨⟨⟨⟨⟨z1, z2⟩, z3⟩, z4⟩, z5⟩, z6⟩ := z
    refine ⟨z1, z2, ?_, z4, z5, z6, h⟩
    split at z3
    · rename_i attr ha
      exact ⟨attr, ha, z3⟩
    · cases z3

theorem am_of : ∀ nm ∈ anames, AmOk (cx w S s₀.heap chg) nm := fun nm h => by
  have z := List.all_eq_true.mp (q_am w.params S) nm h
  unfold amOk at z
  simp only [Bool.and_eq_true] at z
  obtain ⟨⟨z1, z2⟩, z3⟩ := z
  refine ⟨z1, z2, ?_⟩
  split at z3
  · rename_i attr ha
    exact ⟨attr, ha, z3⟩
  · cases z3

theorem raise_of (B : Behind w os S.a S.b S.c S.d s₀) {C Nd : Addr} {nm q : Str} {k0 k1 k2 k3 k5 : Option Value} {od : Obj} (h : (KQ w.params S).lookup C = some (excClassObj nm q C Nd [.type "Exception"] [.type "Exception", .type "BaseException", .type "object"] true [] [] false none none k0 k1 k2 k3 k5 "Exception.__new__"))
    (hd : (KQ w.params S).lookup Nd = some od) (hn : (match od.data with | .dict es _ => es.all (fun e => match e.key with | .str _ _ => true | _ => false) && (nsFind es "__init__").isNone | _ => false) = true) : RaiseOk (cx w S s₀.heap chg) C := by
  have e := cx_K B _ _ hd
  cases q' : od.data with
  | dict es ep =>
    rw [q'] at hn
    dsimp only at hn
    obtain ⟨h1, h2⟩ := Bool.and_eq_true_iff.mp hn
    have g : s₀.heap.isNs Nd = true := by
      unfold Heap.isNs
      rw [e]
      dsimp only
      rw [q']
      exact h1
    refine ⟨nm, q, Nd, _, _, _, _, _, _, _, k0, k1, k2, k3, k5, _, cx_K B _ _ h, Heap.Ns.of_isNs g, ?_⟩
    show s₀.heap.nsMap Nd _ = none
    unfold Heap.nsMap
    rw [e]
    dsimp only
    rw [q']
    dsimp only
    cases r : nsFind es "__init__" with
    | none => rfl
    | some _ => rw [r] at h2; cases h2
  | _ => rw [q'] at hn; cases hn

theorem labs_of (B : Behind w os S.a S.b S.c S.d s₀) : Labs (cx w S s₀.heap chg) N lcQ := by
  refine ⟨fun l nm h => ?_, fun l l' nm nm' h h' => ?_⟩
  · have hm : l < 3 := (List.getElem?_eq_some_iff.mp h).1
    have z := zip_all (q_labs w.params) h (b := l) (by rw [List.getElem?_range hm])
    refine ⟨beq_iff_eq.mp z, ?_⟩
    match l, hm with
    | 0, _ => exact raise_of B (C := 443) (Nd := 442) (od := ob442 w.params) (by kernel_rfl! : (KQ w.params S).lookup 443 = some (ob443 w.params)) (by kernel_rfl!) (by kernel_rfl!)
    | 1, _ => exact raise_of B (C := 456) (Nd := 455) (od := ob455 w.params) (by kernel_rfl! : (KQ w.params S).lookup 456 = some (ob456 w.params)) (by kernel_rfl!) (by kernel_rfl!)
    | 2, _ => exact raise_of B (C := 469) (Nd := 468) (od := ob468 w.params) (by kernel_rfl! : (KQ w.params S).lookup 469 = some (ob469 w.params)) (by kernel_rfl!) (by kernel_rfl!)
  · have hm : l < 3 := (List.getElem?_eq_some_iff.mp h).1
    have hm' : l' < 3 := (List.getElem?_eq_some_iff.mp h').1
    have z := List.all_eq_true.mp (List.all_eq_true.mp (q_exm w.params S) l (List.mem_range.mpr hm)) l' (List.mem_range.mpr hm')
    have z := beq_iff_eq.mp z
    show exmOne (KQ w.params S) _ _ = _
    rw [z]
    refine congrArg some ?_
    match l, hm, l', hm' with
    | 0, _, 0, _ => rfl
    | 0, _, 1, _ => rfl
    | 0, _, 2, _ => rfl
    | 1, _, 0, _ => rfl
    | 1, _, 1, _ => rfl
    | 1, _, 2, _ => rfl
    | 2, _, 0, _ => rfl
    | 2, _, 1, _ => rfl
    | 2, _, 2, _ => rfl

theorem base_of (B : Behind w os S.a S.b S.c S.d s₀) (hc : ∀ a ∈ chg, s₀.heap.get? a = none) {K : Ck} (hK : K.N = N) {R : Nat} {p q : List Nat} (M : Have (cx w S s₀.heap chg) R p) (F : HaveF (cx w S s₀.heap chg) R q) : Base (cx w S s₀.heap chg) K R (gam p q) lcQ :=
  ⟨cx_ok B hc, hK ▸ sig_of B hc M F, am_of, hK ▸ labs_of B⟩
end
end Mine
namespace Mine
open PySem PySem.W PySem.Calls PyProof.Rows
set_option autoImplicit false
set_option maxRecDepth 1000000
set_option maxHeartbeats 0

noncomputable def fdOf (o : Obj) : FuncData := match o.data with
  | .func fd => fd
  | _ => default
noncomputable def isFd : Obj → Bool
  | ⟨_, _, .func _, _⟩ => true
  | _ => false
theorem isFd_ok {o : Obj} (h : isFd o = true) : o.data = .func (fdOf o) := by
  obtain ⟨a, b, d, e⟩ := o
  cases d <;> first | rfl | cases h
noncomputable def recB (K : Frag) (fd : FuncData) : Bool := match fd.code with
  | .ref c => (match K.lookup c with
    | some ⟨_, _, .fields vs, _⟩ => (match (vs[1]? : Option Value) with | some (.str n _) => n == fd.qualname | _ => false)
    | _ => false)
  | _ => false
noncomputable def fnB (fd : FuncData) (K : Ck) (params : List Str) : Bool :=
  fd.scope.names.all (fun x => !(x.2 == .cell)) && params.all (fun x => fd.scope.names.lookup x == some .local) && K.ls.all (fun x => fd.scope.names.lookup x == some .local) && (fd.scope.kind == .function) && !fd.scope.isCoroutine && !fd.scope.isGenerator && decide K.ls.Nodup && decide params.Nodup

theorem recB_ok {K : Frag} {fd : FuncData} {H : Heap} (k : K.In H) (h : recB K fd = true) : H.CodeRec fd.code fd.qualname := by
  unfold recB at h
  split at h
  · rename_i c hc
    split at h
    · rename_i a b vs d ho
      split at h
      · rename_i n t hv
        exact ⟨c, _, vs, t, hc, k _ _ ho, rfl, by rw [hv, beq_iff_eq.mp h]⟩
      · cases h
    · cases h
  · cases h

theorem fn_of {w : World} {os : OsState} {S : Sh4} {s₀ : Shared} {chg : List Addr} (B : Behind w os S.a S.b S.c S.d s₀) {f : Addr} {ob : Obj} {K : Ck} {body : List Stmt} {params : List Str} (h : (KQ w.params S).lookup f = some ob) (hd : isFd ob = true) (hr : recB (KQ w.params S) (fdOf ob) = true) (hb : fnB (fdOf ob) K params = true)
    (h1 : (fdOf ob).globals = mainGlobals) (h2 : (fdOf ob).builtins = builtinsNs) (h3 : (fdOf ob).body = .stmts body) (h4 : K.sc = (fdOf ob).scope) (bind : ∀ vs : List Value, vs.length = params.length → bindArgs (fdOf ob) ⟨vs, []⟩ = pure (params.zip vs)) : FnOk (cx w S s₀.heap chg) K f (fdOf ob) body params := by
  unfold fnB at hb
  simp only [Bool.and_eq_true, Bool.not_eq_true', decide_eq_true_eq, beq_iff_eq] at hb
  obtain ⟨⟨⟨⟨⟨⟨⟨b1, b2⟩, b3⟩, b4⟩, b5⟩, b6⟩, b7⟩, b8⟩ := hb
  refine ⟨⟨ob, cx_K B _ _ h, isFd_ok hd⟩, h1, h2, h3, recB_ok (cx_K B) hr, fun x hx q => ?_, fun x hx => beq_iff_eq.mp (List.all_eq_true.mp b2 x hx), fun x hx => beq_iff_eq.mp (List.all_eq_true.mp b3 x hx), b4, b5, b6, bind, b7, b8, h4⟩
  have := List.all_eq_true.mp b1 x hx
  rw [q] at this
  cases this

theorem vs0 {P : List Value → Prop} (h : P []) : ∀ vs : List Value, vs.length = 0 → P vs
  | [], _ => h
theorem vs1 {P : List Value → Prop} (h : ∀ a, P [a]) : ∀ vs : List Value, vs.length = 1 → P vs
  | [a], _ => h a
theorem vs2 {P : List Value → Prop} (h : ∀ a b, P [a, b]) : ∀ vs : List Value, vs.length = 2 → P vs
  | [a, b], _ => h a b
theorem vs4 {P : List Value → Prop} (h : ∀ a b c d, P [a, b, c, d]) : ∀ vs : List Value, vs.length = 4 → P vs
  | [a, b, c, d], _ => h a b c d
theorem vs8 {P : List Value → Prop} (h : ∀ a b c d e f g i, P [a, b, c, d, e, f, g, i]) : ∀ vs : List Value, vs.length = 8 → P vs
  | [a, b, c, d, e, f, g, i], _ => h a b c d e f g i

section
variable {w : World} {os : OsState} {S : Sh4} {s₀ : Shared} {chg : List Addr} (B : Behind w os S.a S.b S.c S.d s₀)
include B
theorem F_init : FnOk (cx w S s₀.heap chg) K_init 35 (fdOf (ob35 w.params)) (bodyOf "__init__" base) ["self"] :=
  fn_of B (by kernel_rfl!) (by kernel_rfl!) (by kernel_rfl!) (by kernel_rfl!) (by kernel_rfl!) (by kernel_rfl!) (by kernel_rfl!) (by kernel_rfl!) (vs1 (P := fun vs => bindArgs (fdOf (ob35 w.params)) ⟨vs, []⟩ = pure ((["self"] : List Str).zip vs)) (fun a => by kernel_rfl!))
theorem F_set_current : FnOk (cx w S s₀.heap chg) K_set_current 42 (fdOf (ob42 w.params)) (bodyOf "set_current" base) ["self", "value"] :=
  fn_of B (by kernel_rfl!) (by kernel_rfl!) (by kernel_rfl!) (by kernel_rfl!) (by kernel_rfl!) (by kernel_rfl!) (by kernel_rfl!) (by kernel_rfl!) (vs2 (P := fun vs => bindArgs (fdOf (ob42 w.params)) ⟨vs, []⟩ = pure ((["self", "value"] : List Str).zip vs)) (fun a b => by kernel_rfl!))
theorem F_get_current : FnOk (cx w S s₀.heap chg) K_get_current 49 (fdOf (ob49 w.params)) (bodyOf "get_current" base) ["self"] :=
  fn_of B (by kernel_rfl!) (by kernel_rfl!) (by kernel_rfl!) (by kernel_rfl!) (by kernel_rfl!) (by kernel_rfl!) (by kernel_rfl!) (by kernel_rfl!) (vs1 (P := fun vs => bindArgs (fdOf (ob49 w.params)) ⟨vs, []⟩ = pure ((["self"] : List Str).zip vs)) (fun a => by kernel_rfl!))
theorem F_in_grouping : FnOk (cx w S s₀.heap chg) K_in_grouping 63 (fdOf (ob63 w.params)) (bodyOf "in_grouping" base) ["self", "s"] :=
  fn_of B (by kernel_rfl!) (by kernel_rfl!) (by kernel_rfl!) (by kernel_rfl!) (by kernel_rfl!) (by kernel_rfl!) (by kernel_rfl!) (by kernel_rfl!) (vs2 (P := fun vs => bindArgs (fdOf (ob63 w.params)) ⟨vs, []⟩ = pure ((["self", "s"] : List Str).zip vs)) (fun a b => by kernel_rfl!))
theorem F_go_in_grouping : FnOk (cx w S s₀.heap chg) K_go_in_grouping 70 (fdOf (ob70 w.params)) (bodyOf "go_in_grouping" base) ["self", "s"] :=
  fn_of B (by kernel_rfl!) (by kernel_rfl!) (by kernel_rfl!) (by kernel_rfl!) (by kernel_rfl!) (by kernel_rfl!) (by kernel_rfl!) (by kernel_rfl!) (vs2 (P := fun vs => bindArgs (fdOf (ob70 w.params)) ⟨vs, []⟩ = pure ((["self", "s"] : List Str).zip vs)) (fun a b => by kernel_rfl!))
theorem F_in_grouping_b : FnOk (cx w S s₀.heap chg) K_in_grouping_b 77 (fdOf (ob77 w.params)) (bodyOf "in_grouping_b" base) ["self", "s"] :=
  fn_of B (by kernel_rfl!) (by kernel_rfl!) (by kernel_rfl!) (by kernel_rfl!) (by kernel_rfl!) (by kernel_rfl!) (by kernel_rfl!) (by kernel_rfl!) (vs2 (P := fun vs => bindArgs (fdOf (ob77 w.params)) ⟨vs, []⟩ = pure ((["self", "s"] : List Str).zip vs)) (fun a b => by kernel_rfl!))
theorem F_go_out_grouping : FnOk (cx w S s₀.heap chg) K_go_out_grouping 98 (fdOf (ob98 w.params)) (bodyOf "go_out_grouping" base) ["self", "s"] :=
  fn_of B (by kernel_rfl!) (by kernel_rfl!) (by kernel_rfl!) (by kernel_rfl!) (by kernel_rfl!) (by kernel_rfl!) (by kernel_rfl!) (by kernel_rfl!) (vs2 (P := fun vs => bindArgs (fdOf (ob98 w.params)) ⟨vs, []⟩ = pure ((["self", "s"] : List Str).zip vs)) (fun a b => by kernel_rfl!))
theorem F_eq_s_b : FnOk (cx w S s₀.heap chg) K_eq_s_b 126 (fdOf (ob126 w.params)) (bodyOf "eq_s_b" base) ["self", "s"] :=
  fn_of B (by kernel_rfl!) (by kernel_rfl!) (by kernel_rfl!) (by kernel_rfl!) (by kernel_rfl!) (by kernel_rfl!) (by kernel_rfl!) (by kernel_rfl!) (vs2 (P := fun vs => bindArgs (fdOf (ob126 w.params)) ⟨vs, []⟩ = pure ((["self", "s"] : List Str).zip vs)) (fun a b => by kernel_rfl!))
theorem F_find_among : FnOk (cx w S s₀.heap chg) K_find_among 133 (fdOf (ob133 w.params)) (bodyOf "find_among" base) ["self", "v"] :=
  fn_of B (by kernel_rfl!) (by kernel_rfl!) (by kernel_rfl!) (by kernel_rfl!) (by kernel_rfl!) (by kernel_rfl!) (by kernel_rfl!) (by kernel_rfl!) (vs2 (P := fun vs => bindArgs (fdOf (ob133 w.params)) ⟨vs, []⟩ = pure ((["self", "v"] : List Str).zip vs)) (fun a b => by kernel_rfl!))
theorem F_find_among_b : FnOk (cx w S s₀.heap chg) K_find_among_b 140 (fdOf (ob140 w.params)) (bodyOf "find_among_b" base) ["self", "v"] :=
  fn_of B (by kernel_rfl!) (by kernel_rfl!) (by kernel_rfl!) (by kernel_rfl!) (by kernel_rfl!) (by kernel_rfl!) (by kernel_rfl!) (by kernel_rfl!) (vs2 (P := fun vs => bindArgs (fdOf (ob140 w.params)) ⟨vs, []⟩ = pure ((["self", "v"] : List Str).zip vs)) (fun a b => by kernel_rfl!))
theorem F_replace_s : FnOk (cx w S s₀.heap chg) K_replace_s 147 (fdOf (ob147 w.params)) (bodyOf "replace_s" base) ["self", "c_bra", "c_ket", "s"] :=
  fn_of B (by kernel_rfl!) (by kernel_rfl!) (by kernel_rfl!) (by kernel_rfl!) (by kernel_rfl!) (by kernel_rfl!) (by kernel_rfl!) (by kernel_rfl!) (vs4 (P := fun vs => bindArgs (fdOf (ob147 w.params)) ⟨vs, []⟩ = pure ((["self", "c_bra", "c_ket", "s"] : List Str).zip vs)) (fun a b c d => by kernel_rfl!))
theorem F_slice_from : FnOk (cx w S s₀.heap chg) K_slice_from 154 (fdOf (ob154 w.params)) (bodyOf "slice_from" base) ["self", "s"] :=
  fn_of B (by kernel_rfl!) (by kernel_rfl!) (by kernel_rfl!) (by kernel_rfl!) (by kernel_rfl!) (by kernel_rfl!) (by kernel_rfl!) (by kernel_rfl!) (vs2 (P := fun vs => bindArgs (fdOf (ob154 w.params)) ⟨vs, []⟩ = pure ((["self", "s"] : List Str).zip vs)) (fun a b => by kernel_rfl!))
theorem F_slice_del : FnOk (cx w S s₀.heap chg) K_slice_del 161 (fdOf (ob161 w.params)) (bodyOf "slice_del" base) ["self"] :=
  fn_of B (by kernel_rfl!) (by kernel_rfl!) (by kernel_rfl!) (by kernel_rfl!) (by kernel_rfl!) (by kernel_rfl!) (by kernel_rfl!) (by kernel_rfl!) (vs1 (P := fun vs => bindArgs (fdOf (ob161 w.params)) ⟨vs, []⟩ = pure ((["self"] : List Str).zip vs)) (fun a => by kernel_rfl!))
theorem F_stemWord : FnOk (cx w S s₀.heap chg) K_stemWord 189 (fdOf (ob189 w.params)) (bodyOf "stemWord" base) ["self", "word"] :=
  fn_of B (by kernel_rfl!) (by kernel_rfl!) (by kernel_rfl!) (by kernel_rfl!) (by kernel_rfl!) (by kernel_rfl!) (by kernel_rfl!) (by kernel_rfl!) (vs2 (P := fun vs => bindArgs (fdOf (ob189 w.params)) ⟨vs, []⟩ = pure ((["self", "word"] : List Str).zip vs)) (fun a b => by kernel_rfl!))
theorem F_r_prelude : FnOk (cx w S s₀.heap chg) K_r_prelude 240 (fdOf (ob240 w.params)) (bodyOf "r_prelude" germ) ["self"] :=
  fn_of B (by kernel_rfl!) (by kernel_rfl!) (by kernel_rfl!) (by kernel_rfl!) (by kernel_rfl!) (by kernel_rfl!) (by kernel_rfl!) (by kernel_rfl!) (vs1 (P := fun vs => bindArgs (fdOf (ob240 w.params)) ⟨vs, []⟩ = pure ((["self"] : List Str).zip vs)) (fun a => by kernel_rfl!))
theorem F_r_mark_regions : FnOk (cx w S s₀.heap chg) K_r_mark_regions 247 (fdOf (ob247 w.params)) (bodyOf "r_mark_regions" germ) ["self"] :=
  fn_of B (by kernel_rfl!) (by kernel_rfl!) (by kernel_rfl!) (by kernel_rfl!) (by kernel_rfl!) (by kernel_rfl!) (by kernel_rfl!) (by kernel_rfl!) (vs1 (P := fun vs => bindArgs (fdOf (ob247 w.params)) ⟨vs, []⟩ = pure ((["self"] : List Str).zip vs)) (fun a => by kernel_rfl!))
theorem F_r_postlude : FnOk (cx w S s₀.heap chg) K_r_postlude 254 (fdOf (ob254 w.params)) (bodyOf "r_postlude" germ) ["self"] :=
  fn_of B (by kernel_rfl!) (by kernel_rfl!) (by kernel_rfl!) (by kernel_rfl!) (by kernel_rfl!) (by kernel_rfl!) (by kernel_rfl!) (by kernel_rfl!) (vs1 (P := fun vs => bindArgs (fdOf (ob254 w.params)) ⟨vs, []⟩ = pure ((["self"] : List Str).zip vs)) (fun a => by kernel_rfl!))
theorem F_r_R1 : FnOk (cx w S s₀.heap chg) K_r_R1 261 (fdOf (ob261 w.params)) (bodyOf "r_R1" germ) ["self"] :=
  fn_of B (by kernel_rfl!) (by kernel_rfl!) (by kernel_rfl!) (by kernel_rfl!) (by kernel_rfl!) (by kernel_rfl!) (by kernel_rfl!) (by kernel_rfl!) (vs1 (P := fun vs => bindArgs (fdOf (ob261 w.params)) ⟨vs, []⟩ = pure ((["self"] : List Str).zip vs)) (fun a => by kernel_rfl!))
theorem F_r_R2 : FnOk (cx w S s₀.heap chg) K_r_R2 268 (fdOf (ob268 w.params)) (bodyOf "r_R2" germ) ["self"] :=
  fn_of B (by kernel_rfl!) (by kernel_rfl!) (by kernel_rfl!) (by kernel_rfl!) (by kernel_rfl!) (by kernel_rfl!) (by kernel_rfl!) (by kernel_rfl!) (vs1 (P := fun vs => bindArgs (fdOf (ob268 w.params)) ⟨vs, []⟩ = pure ((["self"] : List Str).zip vs)) (fun a => by kernel_rfl!))
theorem F_r_standard_suffix : FnOk (cx w S s₀.heap chg) K_r_standard_suffix 275 (fdOf (ob275 w.params)) (bodyOf "r_standard_suffix" germ) ["self"] :=
  fn_of B (by kernel_rfl!) (by kernel_rfl!) (by kernel_rfl!) (by kernel_rfl!) (by kernel_rfl!) (by kernel_rfl!) (by kernel_rfl!) (by kernel_rfl!) (vs1 (P := fun vs => bindArgs (fdOf (ob275 w.params)) ⟨vs, []⟩ = pure ((["self"] : List Str).zip vs)) (fun a => by kernel_rfl!))
theorem F_stem : FnOk (cx w S s₀.heap chg) K_stem 282 (fdOf (ob282 w.params)) (bodyOf "_stem" germ) ["self"] :=
  fn_of B (by kernel_rfl!) (by kernel_rfl!) (by kernel_rfl!) (by kernel_rfl!) (by kernel_rfl!) (by kernel_rfl!) (by kernel_rfl!) (by kernel_rfl!) (vs1 (P := fun vs => bindArgs (fdOf (ob282 w.params)) ⟨vs, []⟩ = pure ((["self"] : List Str).zip vs)) (fun a => by kernel_rfl!))
theorem F_law_vowels : FnOk (cx w S s₀.heap chg) K_law_vowels 479 (fdOf (ob479 w.params)) (bodyOf "_law_vowels" topBody) [] :=
  fn_of B (by kernel_rfl!) (by kernel_rfl!) (by kernel_rfl!) (by kernel_rfl!) (by kernel_rfl!) (by kernel_rfl!) (by kernel_rfl!) (by kernel_rfl!) (vs0 (P := fun vs => bindArgs (fdOf (ob479 w.params)) ⟨vs, []⟩ = pure (([] : List Str).zip vs)) (by kernel_rfl!))
theorem F_law_closed : FnOk (cx w S s₀.heap chg) K_law_closed 491 (fdOf (ob491 w.params)) (bodyOf "_law_closed" topBody) [] :=
  fn_of B (by kernel_rfl!) (by kernel_rfl!) (by kernel_rfl!) (by kernel_rfl!) (by kernel_rfl!) (by kernel_rfl!) (by kernel_rfl!) (by kernel_rfl!) (vs0 (P := fun vs => bindArgs (fdOf (ob491 w.params)) ⟨vs, []⟩ = pure (([] : List Str).zip vs)) (by kernel_rfl!))
theorem F_law_late : FnOk (cx w S s₀.heap chg) K_law_late 776 (fdOf (ob776 w.params)) (bodyOf "_law_late" topBody) [] :=
  fn_of B (by kernel_rfl!) (by kernel_rfl!) (by kernel_rfl!) (by kernel_rfl!) (by kernel_rfl!) (by kernel_rfl!) (by kernel_rfl!) (by kernel_rfl!) (vs0 (P := fun vs => bindArgs (fdOf (ob776 w.params)) ⟨vs, []⟩ = pure (([] : List Str).zip vs)) (by kernel_rfl!))
theorem F_law_marks : FnOk (cx w S s₀.heap chg) K_law_marks 783 (fdOf (ob783 w.params)) (bodyOf "_law_marks" topBody) [] :=
  fn_of B (by kernel_rfl!) (by kernel_rfl!) (by kernel_rfl!) (by kernel_rfl!) (by kernel_rfl!) (by kernel_rfl!) (by kernel_rfl!) (by kernel_rfl!) (vs0 (P := fun vs => bindArgs (fdOf (ob783 w.params)) ⟨vs, []⟩ = pure (([] : List Str).zip vs)) (by kernel_rfl!))
theorem F_law_at : FnOk (cx w S s₀.heap chg) K_law_at 790 (fdOf (ob790 w.params)) (bodyOf "_law_at" topBody) ["script", "i"] :=
  fn_of B (by kernel_rfl!) (by kernel_rfl!) (by kernel_rfl!) (by kernel_rfl!) (by kernel_rfl!) (by kernel_rfl!) (by kernel_rfl!) (by kernel_rfl!) (vs2 (P := fun vs => bindArgs (fdOf (ob790 w.params)) ⟨vs, []⟩ = pure ((["script", "i"] : List Str).zip vs)) (fun a b => by kernel_rfl!))
theorem F_law_some : FnOk (cx w S s₀.heap chg) K_law_some 797 (fdOf (ob797 w.params)) (bodyOf "_law_some" topBody) ["n", "most"] :=
  fn_of B (by kernel_rfl!) (by kernel_rfl!) (by kernel_rfl!) (by kernel_rfl!) (by kernel_rfl!) (by kernel_rfl!) (by kernel_rfl!) (by kernel_rfl!) (vs2 (P := fun vs => bindArgs (fdOf (ob797 w.params)) ⟨vs, []⟩ = pure ((["n", "most"] : List Str).zip vs)) (fun a b => by kernel_rfl!))
theorem F_law_word : FnOk (cx w S s₀.heap chg) K_law_word 804 (fdOf (ob804 w.params)) (bodyOf "_law_word" topBody) ["front", "told", "vowel", "close", "depth", "x", "y", "z"] :=
  fn_of B (by kernel_rfl!) (by kernel_rfl!) (by kernel_rfl!) (by kernel_rfl!) (by kernel_rfl!) (by kernel_rfl!) (by kernel_rfl!) (by kernel_rfl!) (vs8 (P := fun vs => bindArgs (fdOf (ob804 w.params)) ⟨vs, []⟩ = pure ((["front", "told", "vowel", "close", "depth", "x", "y", "z"] : List Str).zip vs)) (fun a b c d e f g i => by kernel_rfl!))
theorem F_law : FnOk (cx w S s₀.heap chg) K_law 811 (fdOf (ob811 w.params)) (bodyOf "law" topBody) ["script"] :=
  fn_of B (by kernel_rfl!) (by kernel_rfl!) (by kernel_rfl!) (by kernel_rfl!) (by kernel_rfl!) (by kernel_rfl!) (by kernel_rfl!) (by kernel_rfl!) (vs1 (P := fun vs => bindArgs (fdOf (ob811 w.params)) ⟨vs, []⟩ = pure ((["script"] : List Str).zip vs)) (fun a => by kernel_rfl!))
end
end Mine
namespace Mine
open PySem PySem.W PySem.Calls PyProof.Rows
set_option autoImplicit false
set_option maxRecDepth 1000000

theorem Have.nil {X : Cx} {R : Nat} : Have X R [] := fun _ h => nomatch h
theorem HaveF.nil {X : Cx} {R : Nat} : HaveF X R [] := fun _ h => nomatch h
theorem Have.cons {X : Cx} {R m : Nat} {p : List Nat} (f : Addr) (h : maddrs[m]? = some f) (M : MethOk X f R (full m)) (r : Have X R p) : Have X R (m :: p) := fun k hk g hg => by
  rcases List.mem_cons.mp hk with rfl | hk
  · rw [h] at hg; cases hg; exact M
  · exact r k hk g hg
theorem HaveF.cons {X : Cx} {R m : Nat} {p : List Nat} (f : Addr) (h : faddrs[m]? = some f) (M : FuncOk X f R (ffull m)) (r : HaveF X R p) : HaveF X R (m :: p) := fun k hk g hg => by
  rcases List.mem_cons.mp hk with rfl | hk
  · rw [h] at hg; cases hg; exact M
  · exact r k hk g hg

theorem gam_mono0 : (gam [] []).Mono := ⟨fun _ _ _ _ _ _ q => q.elim, fun _ _ _ _ _ q => q.elim⟩
theorem gam_mono (p : List Nat) (h : ∀ m ∈ p, ∀ vs F (Q Q' : V → List (Option V) → Prop), (∀ v F, Q v F → Q' v F) → full m vs F Q → full m vs F Q') : (gam p []).Mono := by
  refine ⟨fun f vs F Q Q' k q => ?_, fun _ _ _ _ _ q => q.elim⟩
  have q : (if p.contains f = true then full f else noM) vs F Q := q
  show (if p.contains f = true then full f else noM) vs F Q'
  by_cases hp : p.contains f = true
  · rw [if_pos hp] at q ⊢
    exact h f (List.contains_iff_mem.mp hp) vs F Q Q' k q
  · rw [if_neg hp] at q
    exact q.elim

section
variable {w : World} {os : OsState} {S : Sh4} {s₀ : Shared} {chg : List Addr} (B : Behind w os S.a S.b S.c S.d s₀) (hc : ∀ a ∈ chg, s₀.heap.get? a = none)
include B hc

theorem M_set_current : MethOk (cx w S s₀.heap chg) 42 1 sp_set_current := (meth_of_body (base_of (R := 0) B hc (K := K_set_current) rfl .nil .nil) (F_set_current B) rfl rfl (by decide) c_set_current (rest := [])).mono (v_set_current _)
theorem M_get_current : MethOk (cx w S s₀.heap chg) 49 1 sp_get_current := (meth_of_body (base_of (R := 0) B hc (K := K_get_current) rfl .nil .nil) (F_get_current B) rfl rfl (by decide) c_get_current (rest := [])).mono (v_get_current _)
theorem M_in_grouping : MethOk (cx w S s₀.heap chg) 63 1 sp_in_grouping := (meth_of_body (base_of (R := 0) B hc (K := K_in_grouping) rfl .nil .nil) (F_in_grouping B) rfl rfl (by decide) c_in_grouping (rest := [])).mono (v_in_grouping _)
theorem M_go_in : MethOk (cx w S s₀.heap chg) 70 1 (sp_go true) := (meth_of_body (base_of (R := 0) B hc (K := K_go_in_grouping) rfl .nil .nil) (F_go_in_grouping B) rfl rfl (by decide) c_go_in_grouping (rest := [])).mono (v_go_in _)
theorem M_in_grouping_b : MethOk (cx w S s₀.heap chg) 77 1 sp_in_grouping_b := (meth_of_body (base_of (R := 0) B hc (K := K_in_grouping_b) rfl .nil .nil) (F_in_grouping_b B) rfl rfl (by decide) c_in_grouping_b (rest := [])).mono (v_in_grouping_b _)
theorem M_go_out : MethOk (cx w S s₀.heap chg) 98 1 (sp_go false) := (meth_of_body (base_of (R := 0) B hc (K := K_go_out_grouping) rfl .nil .nil) (F_go_out_grouping B) rfl rfl (by decide) c_go_out_grouping (rest := [])).mono (v_go_out _)
theorem M_eq_s_b : MethOk (cx w S s₀.heap chg) 126 1 sp_eq_s_b := (meth_of_body (base_of (R := 0) B hc (K := K_eq_s_b) rfl .nil .nil) (F_eq_s_b B) rfl rfl (by decide) c_eq_s_b (rest := [])).mono (v_eq_s_b _)
theorem M_find : MethOk (cx w S s₀.heap chg) 133 1 sp_find := (meth_of_body (base_of (R := 0) B hc (K := K_find_among) rfl .nil .nil) (F_find_among B) (ps := ["v"]) (rest := K_find_among.ls.drop 1) rfl rfl (by decide) c_find_among).mono (v_find_among _ gam_mono0)
theorem M_find_b : MethOk (cx w S s₀.heap chg) 140 1 sp_find_b := (meth_of_body (base_of (R := 0) B hc (K := K_find_among_b) rfl .nil .nil) (F_find_among_b B) (ps := ["v"]) (rest := K_find_among_b.ls.drop 1) rfl rfl (by decide) c_find_among_b).mono (v_find_among_b _)
theorem M_replace_s : MethOk (cx w S s₀.heap chg) 147 1 sp_replace_s := (meth_of_body (base_of (R := 0) B hc (K := K_replace_s) rfl .nil .nil) (F_replace_s B) (rest := ["adjustment"]) rfl rfl (by decide) c_replace_s).mono (v_replace_s _)
theorem M_R1 : MethOk (cx w S s₀.heap chg) 261 1 (sp_R Ms.p1) := (meth_of_body (base_of (R := 0) B hc (K := K_r_R1) rfl .nil .nil) (F_r_R1 B) (rest := []) rfl rfl (by decide) c_r_R1).mono (v_R1 _)
theorem M_R2 : MethOk (cx w S s₀.heap chg) 268 1 (sp_R Ms.p2) := (meth_of_body (base_of (R := 0) B hc (K := K_r_R2) rfl .nil .nil) (F_r_R2 B) (rest := []) rfl rfl (by decide) c_r_R2).mono (v_R2 _)

theorem M_slice_from : MethOk (cx w S s₀.heap chg) 154 2 sp_slice_from := (meth_of_body (base_of B hc (K := K_slice_from) rfl (.cons (m := 9) _ rfl (M_replace_s B hc) .nil) .nil) (F_slice_from B) (rest := []) rfl rfl (by decide) c_slice_from).mono (v_slice_from _ rfl)
theorem M_mark : MethOk (cx w S s₀.heap chg) 247 2 sp_mark := (meth_of_body (base_of B hc (K := K_r_mark_regions) rfl (.cons (m := 3) _ rfl (M_go_in B hc) (.cons (m := 5) _ rfl (M_go_out B hc) .nil)) .nil) (F_r_mark_regions B) (ps := []) (rest := K_r_mark_regions.ls) rfl rfl (by decide) c_r_mark_regions).mono (v_mark _ rfl rfl rfl)
theorem MC_init : MethOkC (cx w S s₀.heap chg) 35 2 sp_init := by
  have h := methC_of_body (base_of B hc (K := K_init) rfl (.cons (m := 0) _ rfl (M_set_current B hc) .nil) .nil) (F_init B) (ps := []) (rest := []) rfl rfl (by decide) c_init
  exact fun A l s x d F vs Vs Q a b c d' e g i j q => h A l s x d F vs Vs Q a b c d' e g i j (v_init _ rfl _ _ _ q)
theorem M_slice_del : MethOk (cx w S s₀.heap chg) 161 3 sp_slice_del := (meth_of_body (base_of B hc (K := K_slice_del) rfl (.cons (m := 10) _ rfl (M_slice_from B hc) .nil) .nil) (F_slice_del B) (rest := []) rfl rfl (by decide) c_slice_del).mono (v_slice_del _ rfl)
theorem M_post : MethOk (cx w S s₀.heap chg) 254 3 sp_post := (meth_of_body (base_of B hc (K := K_r_postlude) rfl (.cons (m := 7) _ rfl ((M_find B hc).up (by decide)) (.cons (m := 10) _ rfl (M_slice_from B hc) .nil)) .nil) (F_r_postlude B) (ps := []) (rest := K_r_postlude.ls) rfl rfl (by decide) c_r_postlude).mono (v_post _ rfl rfl rfl)
theorem M_pre : MethOk (cx w S s₀.heap chg) 240 3 sp_pre := (meth_of_body (base_of B hc (K := K_r_prelude) rfl (.cons (m := 2) _ rfl ((M_in_grouping B hc).up (by decide)) (.cons (m := 7) _ rfl ((M_find B hc).up (by decide)) (.cons (m := 10) _ rfl (M_slice_from B hc) .nil))) .nil) (F_r_prelude B) (ps := []) (rest := K_r_prelude.ls) rfl rfl (by decide) c_r_prelude).mono (v_pre _ (gam_mono _ (by
  intro m hm vs F Q Q' k q
  simp only [List.mem_cons, List.not_mem_nil, or_false] at hm
  rcases hm with rfl | rfl | rfl
  · obtain ⟨g, m, h1, h2, h3, h4⟩ := q
    refine ⟨g, m, h1, h2, h3, ?_⟩
    split at h4
    · rename_i hh; rw [if_pos hh]; exact k _ _ h4
    · rename_i hh; rw [if_neg hh]; exact k _ _ h4
  · obtain ⟨T, m, h1, h2, h3, h4, h5⟩ := q
    refine ⟨T, m, h1, h2, h3, h4, fun r hr => ?_⟩
    have := h5 r hr
    cases r with
    | none => exact k _ _ this
    | some p => exact k _ _ this
  · obtain ⟨t, m, h1, h2, h3, h4, h5, h6, h7, h8⟩ := q
    exact ⟨t, m, h1, h2, h3, h4, h5, h6, h7, k _ _ h8⟩)) rfl rfl rfl rfl rfl)
theorem M_suffix : MethOk (cx w S s₀.heap chg) 275 4 sp_suffix := (meth_of_body (base_of B hc (K := K_r_standard_suffix) rfl
  (.cons (m := 4) _ rfl ((M_in_grouping_b B hc).up (by decide)) (.cons (m := 6) _ rfl ((M_eq_s_b B hc).up (by decide)) (.cons (m := 8) _ rfl ((M_find_b B hc).up (by decide)) (.cons (m := 10) _ rfl ((M_slice_from B hc).up (by decide))
   (.cons (m := 11) _ rfl (M_slice_del B hc) (.cons (m := 15) _ rfl ((M_R1 B hc).up (by decide)) (.cons (m := 16) _ rfl ((M_R2 B hc).up (by decide)) .nil))))))) .nil) (F_r_standard_suffix B) (ps := []) (rest := K_r_standard_suffix.ls) rfl rfl (by decide) c_r_standard_suffix).mono (v_suffix _ ⟨rfl, rfl, rfl, rfl, rfl, rfl, rfl, rfl, rfl, rfl, rfl, rfl, rfl, rfl, rfl, rfl⟩)
theorem M_stem : MethOk (cx w S s₀.heap chg) 282 5 sp_stem := (meth_of_body (base_of B hc (K := K_stem) rfl
  (.cons (m := 12) _ rfl ((M_pre B hc).up (by decide)) (.cons (m := 13) _ rfl ((M_mark B hc).up (by decide)) (.cons (m := 14) _ rfl ((M_post B hc).up (by decide)) (.cons (m := 17) _ rfl (M_suffix B hc) .nil)))) .nil) (F_stem B) (ps := []) (rest := K_stem.ls) rfl rfl (by decide) c_stem).mono (v_stem _ rfl rfl rfl rfl)
theorem M_stemWord : MethOk (cx w S s₀.heap chg) 189 6 sp_stemWord := (meth_of_body (base_of B hc (K := K_stemWord) rfl
  (.cons (m := 0) _ rfl ((M_set_current B hc).up (by decide)) (.cons (m := 1) _ rfl ((M_get_current B hc).up (by decide)) (.cons (m := 18) _ rfl (M_stem B hc) .nil))) .nil) (F_stemWord B) (rest := []) rfl rfl (by decide) c_stemWord).mono (v_stemWord _ rfl rfl rfl)

theorem N_vowels : FuncOk (cx w S s₀.heap chg) 479 1 (sp_const (pairs vowels)) := (func_of_body (base_of (R := 0) B hc (K := K_law_vowels) rfl .nil .nil) (F_law_vowels B) (rest := []) rfl rfl c_law_vowels).mono (v_vowels _)
theorem N_closed : FuncOk (cx w S s₀.heap chg) 491 1 (sp_const (lstr closed)) := (func_of_body (base_of (R := 0) B hc (K := K_law_closed) rfl .nil .nil) (F_law_closed B) (rest := []) rfl rfl c_law_closed).mono (v_closed _)
theorem N_late : FuncOk (cx w S s₀.heap chg) 776 1 (sp_const (lstr late)) := (func_of_body (base_of (R := 0) B hc (K := K_law_late) rfl .nil .nil) (F_law_late B) (rest := []) rfl rfl c_law_late).mono (v_late _)
theorem N_marks : FuncOk (cx w S s₀.heap chg) 783 1 (sp_const (lstr marks)) := (func_of_body (base_of (R := 0) B hc (K := K_law_marks) rfl .nil .nil) (F_law_marks B) (rest := []) rfl rfl c_law_marks).mono (v_marks _)
theorem N_at : FuncOk (cx w S s₀.heap chg) 790 1 sp_at := (func_of_body (base_of (R := 0) B hc (K := K_law_at) rfl .nil .nil) (F_law_at B) (rest := []) rfl rfl c_law_at).mono (v_at _)
theorem N_some : FuncOk (cx w S s₀.heap chg) 797 1 sp_some := (func_of_body (base_of (R := 0) B hc (K := K_law_some) rfl .nil .nil) (F_law_some B) (rest := ["some", "more", "i"]) rfl rfl c_law_some).mono (v_some _ rfl)
theorem N_word : FuncOk (cx w S s₀.heap chg) 804 2 sp_word := (func_of_body (base_of B hc (K := K_law_word) rfl .nil (.cons (m := 2) _ rfl (N_late B hc) (.cons (m := 3) _ rfl (N_marks B hc) .nil))) (F_law_word B) (rest := K_law_word.ls.drop 8) rfl rfl c_law_word).mono (v_word _ rfl rfl rfl rfl)
end
end Mine
namespace Mine
open PySem PySem.W PySem.Calls PyProof.Rows
set_option autoImplicit false
set_option maxRecDepth 1000000
set_option maxHeartbeats 0

noncomputable def swX : Pos × Pos × Pos × Pos × Pos × Pos × Scope × Pos × Pos := match bodyOf "stemWords" base with
  | [.Return (some (.ListComp (.Call (.Attribute (.Name _ p1) _ p2) [.Name _ p3] [] p4) [⟨.Name _ p5, .Name _ p6, [], _⟩] sc pos)) rp] => (p1, p2, p3, p4, p5, p6, sc, pos, rp)
  | _ => (default, default, default, default, default, default, noScope, default, default)

section
variable {w : World} {os : OsState} {S : Sh4} {s₀ : Shared} {chg : List Addr} (B : Behind w os S.a S.b S.c S.d s₀)
include B

theorem sw_of : SwOk (cx w S s₀.heap chg) 194 (fdOf (ob194 w.params)) swX.1 swX.2.1 swX.2.2.1 swX.2.2.2.1 swX.2.2.2.2.1 swX.2.2.2.2.2.1 swX.2.2.2.2.2.2.1 swX.2.2.2.2.2.2.2.1 swX.2.2.2.2.2.2.2.2 := by
  have l0 : (KQ w.params S).lookup 194 = some (ob194 w.params) := by kernel_rfl!
  have hd : isFd (ob194 w.params) = true := by kernel_rfl!
  have hr : recB (KQ w.params S) (fdOf (ob194 w.params)) = true := by kernel_rfl!
  exact ⟨⟨_, cx_K B _ _ l0, isFd_ok hd⟩, by kernel_rfl!, by kernel_rfl!, by kernel_rfl!, by kernel_rfl!, by kernel_rfl!, recB_ok (cx_K B) hr, by kernel_rfl!, by kernel_rfl!, by kernel_rfl!, by kernel_rfl!, by kernel_rfl!, by kernel_rfl!, fun a b => by kernel_rfl!⟩

theorem look_of : Look1 (cx w S s₀.heap chg) "stemWords" 194 := by
  have h1 : plainGet (KQ w.params S) 431 "stemWords" = true := by kernel_rfl!
  have h2 : findIn (KQ w.params S) (.ref 431) "stemWords" = some (some (.ref 194)) := by kernel_rfl!
  have h3 : typeIn (KQ w.params S) (.ref 194) = some (.type "function") := by kernel_rfl!
  have h4 : keepIn (KQ w.params S) (.ref 194) = true := by kernel_rfl!
  exact ⟨by decide, h1, h2, h3, h4⟩

theorem word_at (hc : ∀ a ∈ chg, s₀.heap.get? a = none) : MethAt (cx w S s₀.heap chg) "stemWord" 189 6 sp_stemWord := by
  have h1 : plainGet (KQ w.params S) 431 "stemWord" = true := by kernel_rfl!
  have h2 : findIn (KQ w.params S) (.ref 431) "stemWord" = some (some (.ref 189)) := by kernel_rfl!
  have h3 : typeIn (KQ w.params S) (.ref 189) = some (.type "function") := by kernel_rfl!
  have h4 : keepIn (KQ w.params S) (.ref 189) = true := by kernel_rfl!
  exact ⟨by decide, h1, h2, h3, h4, M_stemWord B hc⟩

theorem end_of (hc : ∀ a ∈ chg, s₀.heap.get? a = none) : EndOk (cx w S s₀.heap chg) 35 189 194 (fdOf (ob194 w.params)) swX.1 swX.2.1 swX.2.2.1 swX.2.2.2.1 swX.2.2.2.2.1 swX.2.2.2.2.2.1 swX.2.2.2.2.2.2.1 swX.2.2.2.2.2.2.2.1 swX.2.2.2.2.2.2.2.2 2 6 := by
  have h1 : makesIn (KQ w.params S) 431 = true := by kernel_rfl!
  have h2 : findIn (KQ w.params S) (.ref 431) "__init__" = some (some (.ref 35)) := by kernel_rfl!
  have h3 : typeIn (KQ w.params S) (.ref 35) = some (.type "function") := by kernel_rfl!
  have h4 : keepIn (KQ w.params S) (.ref 431) = true := by kernel_rfl!
  have h5 : mgOf w.params "GermanStemmer" = some (.ref 431) := by kernel_rfl!
  exact ⟨h1, h2, h3, MC_init B hc, h4, h5, sw_of B, look_of B, fun D hD => word_at (chg := D :: chg) B fun a ha => by
    rcases List.mem_cons.mp ha with rfl | ha
    · exact hD
    · exact hc a ha⟩

theorem law_base (hc : ∀ a ∈ chg, s₀.heap.get? a = none) : Base (cx w S s₀.heap chg) K_law 7 (gam [] [0, 1, 4, 5, 6]) lcQ :=
  base_of B hc rfl .nil (.cons (m := 0) _ rfl ((N_vowels B hc).up (by decide)) (.cons (m := 1) _ rfl ((N_closed B hc).up (by decide)) (.cons (m := 4) _ rfl ((N_at B hc).up (by decide)) (.cons (m := 5) _ rfl ((N_some B hc).up (by decide)) (.cons (m := 6) _ rfl ((N_word B hc).up (by decide)) .nil)))))
end

theorem ints_of {X : Cx} {h : Heap} : ∀ (zs : List Int) (items : List Value), items.length = zs.length → (∀ (i : Nat) (x : Int), zs[i]? = some x → ∃ t, items[i]? = some (.int x t)) → RelL X h items (zs.map .int)
  | [], [], _, _ => .nil
  | [], _ :: _, h, _ => by simp at h
  | _ :: _, [], h, _ => by simp at h
  | x :: zs, v :: vs, h, k => by
    obtain ⟨t, ht⟩ := k 0 x rfl
    simp only [List.getElem?_cons_zero, Option.some.injEq] at ht
    subst ht
    exact .cons _ _ _ _ (.int x t) (ints_of zs vs (by simpa using h) fun i y hy => k (i + 1) y (by simpa using hy))

theorem law_ok : LawOk := by
  intro w os O1 O2 O3 O4 s₀ s a items zs B keep ha hn hl hv h63 tk hg
  obtain ⟨e1, n1, t1, rfl⟩ := shp_of B.o1
  obtain ⟨e2, n2, t2, rfl⟩ := shp_of B.o2
  obtain ⟨e3, n3, t3, rfl⟩ := shp_of B.o3
  obtain ⟨e4, n4, t4, rfl⟩ := shp_of B.o4
  let S : Sh4 := ⟨e1, e2, e3, e4, n1, n2, n3, n4, t1, t2, t3, t4⟩
  have B' : Behind w os S.a S.b S.c S.d s₀ := B
  have up2 : ∀ (a1 a2 : Addr), s₀.heap.get? a1 = none → s₀.heap.get? a2 = none → ∀ b ∈ [a2, a1], s₀.heap.get? b = none := fun a1 a2 h1 h2 b hb => by
    simp only [List.mem_cons, List.not_mem_nil, or_false] at hb
    rcases hb with rfl | rfl
    · exact h2
    · exact h1
  have RM : Room (cx w S s₀.heap []) callerA [] 8 s.heap := ⟨rfl, by decide +kernel, by decide +kernel, rfl, trivial, fun a ha => nomatch ha⟩
  have h := law_def (X := cx w S s₀.heap []) (A := callerA) (R := 7) (R0 := 2) (R1 := 6) (Γ := gam [] [0, 1, 4, 5, 6]) (lc := lcQ) (fI := 35) (f19 := 189) (fS := 194) (law_base B' (fun b hb => nomatch hb)) (fun a1 a2 h1 h2 => law_base (chg := [a2, a1]) B' (up2 a1 a2 h1 h2)) (fun a1 a2 h1 h2 => end_of (chg := [a2, a1]) B' (up2 a1 a2 h1 h2))
    rfl rfl rfl rfl rfl (by decide) (by decide) (by decide) (F_law B') (s := zs) (by omega) RM ⟨keep, fun a ha => nomatch ha⟩ tk (.lst a items 0 _ (fun q => nomatch q) ha (ints_of zs items hl hv)) (E := fun _ _ => False)
  refine wpAny_mono h (fun v s' z => ?_) fun _ _ z => z
  obtain ⟨rfl, pv, g1, g2⟩ := z
  exact ⟨rfl, (fun b o e => (pv b o e (fun q => nomatch q)).2 (fun q => nomatch q)), g2, g1.trans hg⟩
end Mine

open PySem PySem.W PySem.Calls PyProof.Rows
set_option maxHeartbeats 0 in
set_option maxRecDepth 1000000 in
theorem PySem.Challenge.cw_fb0053_01_holds : PySem.Challenge.rw_fb0053_01.Holds := by
  o_law
  first | exact Mine.row_holds Mine.law_ok ‹_› | exact fun said => Mine.row_holds Mine.law_ok said
