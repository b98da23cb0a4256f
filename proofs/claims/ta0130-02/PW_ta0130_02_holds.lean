import PyProof.Rows.All
import Wide.All
import OpenK.AllK
import Wide.FinOn
import KE.KNest
import KE.KIntText
import PyProof.RaisesMany
import PyProof.Rows.RaiseClass
import PyProof.Rows.FactsExc_ZeroDivisionError
import KE.IntBitsLaws
import PySem.Challenge.RW_ta0130_02
set_option Elab.async false
set_option maxRecDepth 100000
set_option maxHeartbeats 8000000
set_option linter.unusedVariables false
set_option linter.unusedSimpArgs false
set_option compiler.extract_closed false
namespace Mine.Internal
open PySem PySem.W PyProof.Rows
open PySem.Str renaming ofString → sQ
noncomputable abbrev Fz := Addr → Option Obj
def Le (Z Z' : Fz) : Prop := ∀ b o, Z b = some o → Z' b = some o
theorem Le.refl (Z : Fz) : Le Z Z := fun _ _ e => e
theorem Le.trans {a b c : Fz} (x : Le a b) (y : Le b c) : Le a c := fun _ _ e => y _ _ (x _ _ e)
inductive PV where
  | none
  | bool (b : Bool)
  | int (i : Int)
  | flt (x : UInt64)
  | str (s : Str)
  | list (l : List PV)
  | tup (l : List PV)
mutual
inductive Rd (Z : Fz) : Value → PV → Prop where
  | none : Rd Z .none .none
  | bool (b : Bool) : Rd Z (.bool b) (.bool b)
  | int (i : Int) (t : Tok) : Rd Z (.int i t) (.int i)
  | flt (x : UInt64) (t : Tok) : Rd Z (.float x t) (.flt x)
  | str (x : Str) (t : Tok) : Rd Z (.str x t) (.str x)
  | list {a : Addr} {n : Nat} {vs : List Value} {ds : List PV} (h : Z a = some { cls := .type "list", data := .seq vs.toArray n }) (r : RdL Z vs ds) : Rd Z (.ref a) (.list ds)
  | tup {a : Addr} {n : Nat} {vs : List Value} {ds : List PV} (h : Z a = some { cls := .type "tuple", data := .seq vs.toArray n }) (r : RdL Z vs ds) : Rd Z (.ref a) (.tup ds)
inductive RdL (Z : Fz) : List Value → List PV → Prop where
  | nil : RdL Z [] []
  | cons {v : Value} {d : PV} {vs : List Value} {ds : List PV} (h : Rd Z v d) (r : RdL Z vs ds) : RdL Z (v :: vs) (d :: ds)
end
def RdI (Z : Fz) (v : Value) : PV → Prop
  | .none => v = .none
  | .bool b => v = .bool b
  | .int i => ∃ t, v = .int i t
  | .flt x => ∃ t, v = .float x t
  | .str x => ∃ t, v = .str x t
  | .list l => ∃ a n vs, v = .ref a ∧ Z a = some { cls := .type "list", data := .seq (List.toArray vs) n } ∧ RdL Z vs l
  | .tup l => ∃ a n vs, v = .ref a ∧ Z a = some { cls := .type "tuple", data := .seq (List.toArray vs) n } ∧ RdL Z vs l
theorem rdi {Z : Fz} {v : Value} {d : PV} (h : Rd Z v d) : RdI Z v d := by
  cases h with
  | none => exact rfl
  | bool b => exact rfl
  | int i t => exact ⟨t, rfl⟩
  | flt x t => exact ⟨t, rfl⟩
  | str x t => exact ⟨t, rfl⟩
  | list h r => exact ⟨_, _, _, rfl, h, r⟩
  | tup h r => exact ⟨_, _, _, rfl, h, r⟩
def RdLI (Z : Fz) (vs : List Value) : List PV → Prop
  | [] => vs = []
  | d :: ds => ∃ v r, vs = v :: r ∧ Rd Z v d ∧ RdL Z r ds
theorem rdli {Z : Fz} {vs : List Value} {ds : List PV} (h : RdL Z vs ds) : RdLI Z vs ds := by
  cases h with
  | nil => exact rfl
  | cons h r => exact ⟨_, _, rfl, h, r⟩
theorem Rd.le {Z Z' : Fz} (k : Le Z Z') {v : Value} {d : PV} (h : Rd Z v d) : Rd Z' v d :=
  Rd.rec (motive_1 := fun v d _ => Rd Z' v d) (motive_2 := fun v d _ => RdL Z' v d) .none .bool .int .flt .str (fun h _ r => .list (k _ _ h) r) (fun h _ r => .tup (k _ _ h) r) .nil (fun _ _ h r => .cons h r) h
theorem RdL.le {Z Z' : Fz} (k : Le Z Z') {v : List Value} {d : List PV} (h : RdL Z v d) : RdL Z' v d :=
  RdL.rec (motive_1 := fun v d _ => Rd Z' v d) (motive_2 := fun v d _ => RdL Z' v d) .none .bool .int .flt .str (fun h _ r => .list (k _ _ h) r) (fun h _ r => .tup (k _ _ h) r) .nil (fun _ _ h r => .cons h r) h
theorem RdL.length {Z : Fz} {v : List Value} {d : List PV} (h : RdL Z v d) : v.length = d.length := by
  induction d generalizing v with
  | nil => exact congrArg List.length (rdli h)
  | cons d ds ih =>
    obtain ⟨x, r, rfl, _, h⟩ := rdli h
    exact congrArg (· + 1) (ih h)
theorem RdL.append {Z : Fz} {v v' : List Value} {d d' : List PV} (h : RdL Z v d) (y : RdL Z v' d') : RdL Z (v ++ v') (d ++ d') := by
  induction d generalizing v with
  | nil => have e : v = [] := rdli h; subst e; exact y
  | cons d ds ih =>
    obtain ⟨x, r, rfl, hx, h⟩ := rdli h
    exact .cons hx (ih h)
theorem RdL.get {Z : Fz} {v : List Value} {d : List PV} (h : RdL Z v d) {i : Nat} {x : PV} (e : d[i]? = some x) : ∃ u, v[i]? = some u ∧ Rd Z u x := by
  induction d generalizing v i with
  | nil => cases e
  | cons d ds ih =>
    obtain ⟨y, r, rfl, hx, h⟩ := rdli h
    cases i with
    | zero => cases e; exact ⟨_, rfl, hx⟩
    | succ i => exact ih h e
structure Cx where
  prog : Program
  w : World
  Z0 : Fz
  tabs : List (Addr × Pos × Str)
def CodeIn (Z : Fz) (c : Addr) (q : Str) : Prop := ∃ o vs t, Z c = some o ∧ o.data = .fields vs ∧ vs[1]? = some (.str q t)
theorem CodeIn.le {Z Z' : Fz} (k : Le Z Z') {c : Addr} {q : Str} (x : CodeIn Z c q) : CodeIn Z' c q := let ⟨o, vs, t, e, r⟩ := x; ⟨o, vs, t, k _ _ e, r⟩
def TabOk (C : Cx) (Z : Fz) (h : Heap) : Prop := ∀ t ∈ C.tabs, ∃ ps, h.get? t.1 = some (tabObj ps) ∧ (ps = #[] ∨ ∃ c', ps = #[rawInt t.2.1.line, rawInt t.2.1.col, .ref c'] ∧ CodeIn Z c' t.2.2)
structure Inv (C : Cx) (Z : Fz) (s : Shared) : Prop where
  base : Le C.Z0 Z
  heap : ∀ b o, Z b = some o → s.heap.get? b = some o
  tabs : TabOk C Z s.heap
  off : ∀ t ∈ C.tabs, Z t.1 = none
structure StepX (C : Cx) (X : Addr → Prop) (Z : Fz) (s : Shared) (Z' : Fz) (s' : Shared) : Prop where
  le : Le Z Z'
  new : ∀ b o, Z' b = some o → Z b = some o ∨ s.heap.get? b = none ∨ X b
  keep : ∀ b o, s.heap.get? b = some o → ¬ X b → (∀ t ∈ C.tabs, b ≠ t.1) → s'.heap.get? b = some o
  rest : s'.gens = s.gens ∧ s'.drawn = s.drawn ∧ s'.os = s.os
  inv : Inv C Z' s'
noncomputable abbrev No : Addr → Prop := fun _ => False
noncomputable abbrev Step (C : Cx) := StepX C No
section
variable {C : Cx} {X Y : Addr → Prop} {Z Z' Z'' : Fz} {s s' s'' : Shared}
theorem StepX.refl (I : Inv C Z s) : StepX C X Z s Z s :=
  ⟨Le.refl Z, fun _ _ e => .inl e, fun _ _ e _ _ => e, ⟨rfl, rfl, rfl⟩, I⟩
theorem StepX.gone (x : StepX C X Z s Z' s') {b : Addr} (h : s'.heap.get? b = none) : s.heap.get? b = none ∨ X b := by
  cases e : s.heap.get? b with
  | none => exact .inl rfl
  | some o =>
    by_cases hX : X b
    · exact .inr hX
    · have ht : ∀ t ∈ C.tabs, b ≠ t.1 := fun t ht q => by
        obtain ⟨ps, e', _⟩ := x.inv.tabs t ht
        rw [← q, h] at e'; cases e'
      rw [x.keep b o e hX ht] at h; cases h
theorem StepX.trans (x : StepX C X Z s Z' s') (y : StepX C X Z' s' Z'' s'') : StepX C X Z s Z'' s'' where
  le := x.le.trans y.le
  new := fun b o e => by
    rcases y.new b o e with h | h | h
    · exact x.new b o h
    · exact .inr (x.gone h)
    · exact .inr (.inr h)
  keep := fun b o e hX ht => y.keep b o (x.keep b o e hX ht) hX ht
  rest := ⟨y.rest.1.trans x.rest.1, y.rest.2.1.trans x.rest.2.1, y.rest.2.2.trans x.rest.2.2⟩
  inv := y.inv
theorem StepX.mono (x : StepX C X Z s Z' s') (h : ∀ b, X b → Y b) : StepX C Y Z s Z' s' :=
  ⟨x.le, fun b o e => (x.new b o e).imp id (Or.imp id (h b)), fun b o e hY ht => x.keep b o e (fun q => hY (h b q)) ht, x.rest, x.inv⟩
theorem Step.to (x : Step C Z s Z' s') : StepX C X Z s Z' s' := x.mono fun _ h => h.elim
theorem StepX.hide (x : StepX C X Z s Z' s') (h : ∀ b, X b → s.heap.get? b = none) : Step C Z s Z' s' :=
  ⟨x.le, fun b o e => (x.new b o e).elim .inl fun q => q.elim (fun q => .inr (.inl q)) fun q => .inr (.inl (h b q)),
   fun b o e _ ht => x.keep b o e (fun q => by rw [h b q] at e; cases e) ht, x.rest, x.inv⟩
theorem Inv.toks (I : Inv C Z s) (t : Nat) : Inv C Z { s with toks := t } := ⟨I.base, I.heap, I.tabs, I.off⟩
theorem Step.toks (I : Inv C Z s) (t : Nat) : StepX C X Z s Z { s with toks := t } :=
  ⟨Le.refl Z, fun _ _ e => .inl e, fun _ _ e _ _ => e, ⟨rfl, rfl, rfl⟩, I.toks t⟩
theorem TabOk.keeps {Z Z' : Fz} {h h' : Heap} (x : TabOk C Z h) (kz : Le Z Z') (k : ∀ t ∈ C.tabs, ∀ o, h.get? t.1 = some o → h'.get? t.1 = some o) : TabOk C Z' h' := fun t ht => by
  obtain ⟨ps, e, r⟩ := x t ht
  exact ⟨ps, k t ht _ e, r.imp id fun ⟨c, e1, e2⟩ => ⟨c, e1, e2.le kz⟩⟩
theorem StepX.keeps (I : Inv C Z s) {h' : Heap} {t : Nat} (k : ∀ b o, s.heap.get? b = some o → h'.get? b = some o) :
    StepX C X Z s Z { s with heap := h', toks := t } :=
  ⟨Le.refl Z, fun _ _ e => .inl e, fun b o e _ _ => k b o e, ⟨rfl, rfl, rfl⟩, ⟨I.base, fun b o e => k b o (I.heap b o e), I.tabs.keeps (Le.refl Z) fun t _ o e => k _ o e, I.off⟩⟩
noncomputable def put (Z : Fz) (a : Addr) (o : Obj) : Fz := fun b => if b = a then some o else Z b
theorem put_self {a : Addr} {o : Obj} : put Z a o a = some o := if_pos rfl
theorem put_ne {a b : Addr} {o : Obj} (h : b ≠ a) : put Z a o b = Z b := if_neg h
theorem gAb {h : Heap} {b : Addr} (hb : h.objs.size ≤ b) : h.get? b = none := by
  cases e : h.get? b with
  | none => rfl
  | some o => exact absurd (Heap.lt_size e) (Nat.not_lt.mpr hb)
theorem Inv.fresh (I : Inv C Z s) {b : Addr} (h : s.heap.get? b = none) : Z b = none := by
  cases e : Z b with
  | none => rfl
  | some o => rw [I.heap b o e] at h; cases h
theorem le_put {a : Addr} {o : Obj} (h : Z a = none) : Le Z (put Z a o) := fun b x e => by
  by_cases q : b = a
  · rw [q, h] at e; cases e
  · rw [put_ne q]; exact e
theorem StepX.alloc (I : Inv C Z s) {o : Obj} {t : Nat} (hf : o.isFreed = false) :
    StepX C X Z s (put Z s.heap.objs.size o) { s with heap := s.heap.push o, toks := t } := by
  have hz : Z s.heap.objs.size = none := I.fresh (gAb (Nat.le_refl _))
  refine ⟨le_put hz, fun b x e => ?_, fun b x e _ _ => Heap.get?_push_of_some _ e, ⟨rfl, rfl, rfl⟩, ⟨I.base.trans (le_put hz), fun b x e => ?_, I.tabs.keeps (le_put hz) fun t _ x e => Heap.get?_push_of_some _ e, fun t ht => ?_⟩⟩
  · by_cases q : b = s.heap.objs.size
    · exact .inr (.inl (gAb (Nat.le_of_eq q.symm)))
    · rw [put_ne q] at e; exact .inl e
  · by_cases q : b = s.heap.objs.size
    · subst q; rw [put_self] at e; cases e; exact Heap.get?_push_size _ hf
    · rw [put_ne q] at e; exact Heap.get?_push_of_some _ (I.heap b x e)
  · obtain ⟨ps, e, _⟩ := I.tabs t ht
    rw [put_ne (Nat.ne_of_lt (Heap.lt_size e))]; exact I.off t ht
theorem StepX.push (I : Inv C Z s) {o : Obj} {t : Nat} : StepX C X Z s Z { s with heap := s.heap.push o, toks := t } :=
  .keeps I fun _ _ e => Heap.get?_push_of_some _ e
theorem StepX.writes (I : Inv C Z s) {W : Addr → Prop} {h' : Heap} {t : Nat} (hX : ∀ b, W b → X b) (hs : ∀ b o, ¬ W b → s.heap.get? b = some o → h'.get? b = some o) (hZ : ∀ b, W b → Z b = none) (hne : ∀ b, W b → ∀ t ∈ C.tabs, b ≠ t.1) :
    StepX C X Z s Z { s with heap := h', toks := t } :=
  ⟨Le.refl Z, fun _ _ e => .inl e, fun b o e hb _ => hs b o (fun q => hb (hX b q)) e, ⟨rfl, rfl, rfl⟩,
   ⟨I.base, fun b o e => hs b o (fun q => by rw [hZ b q] at e; cases e) (I.heap b o e), I.tabs.keeps (Le.refl Z) fun t ht o e => hs _ o (fun q => hne _ q t ht rfl) e, I.off⟩⟩
theorem StepX.write (I : Inv C Z s) {a : Addr} {h' : Heap} {t : Nat} (hX : X a) (hs : Heap.SameBut a s.heap h') (hZ : Z a = none) (hne : ∀ t ∈ C.tabs, a ≠ t.1) : StepX C X Z s Z { s with heap := h', toks := t } :=
  .writes I (W := (· = a)) (fun b q => q ▸ hX) (fun b o q e => hs.extBut b o q e) (fun b q => q ▸ hZ) (fun b q => q ▸ hne)
theorem StepX.freeze (I : Inv C Z s) {a : Addr} {o : Obj} (hX : X a) (hZ : Z a = none) (ha : s.heap.get? a = some o) (hne : ∀ t ∈ C.tabs, a ≠ t.1) : StepX C X Z s (put Z a o) s := by
  refine ⟨le_put hZ, fun b x e => ?_, fun b x e _ _ => e, ⟨rfl, rfl, rfl⟩, ⟨I.base.trans (le_put hZ), fun b x e => ?_, I.tabs.keeps (le_put hZ) fun t _ o e => e, fun t ht => ?_⟩⟩
  · by_cases q : b = a
    · exact .inr (.inr (q ▸ hX))
    · rw [put_ne q] at e; exact .inl e
  · by_cases q : b = a
    · subst q; rw [put_self] at e; cases e; exact ha
    · rw [put_ne q] at e; exact I.heap b x e
  · rw [put_ne fun q => hne t ht q.symm]; exact I.off t ht
end
structure Room (n : Nat) (A : Around) : Prop where
  depth : A.depth + n ≤ 900
  units : A.units + 8 * n ≤ 9000
  handled : A.handled = none
theorem Room.le {n m : Nat} {A : Around} (x : Room n A) (h : m ≤ n) : Room m A := ⟨by have := x.depth; lia, by have := x.units; lia, x.handled⟩
noncomputable def stAt (p : Program) (i : Nat) : Stmt := p.main.body.getD i (.Pass default)
noncomputable def fdOf (st : Stmt) (qual : Str) (doc pm cd : Value) : FuncData := match st with
  | .FunctionDef name args body _ _ _ scope _ _ _ => { name, qualname := qual, params := args, body := .stmts body, scope, globals := mainGlobals, closure := [], defaults := .none, kwdefaults := .none, doc, pyModule := pm, code := cd, builtins := builtinsNs }
  | _ => default
noncomputable abbrev pw : Program := PySem.Challenge.pw_ta0130_02
noncomputable def tokI : List (Str × Int) := ([("!", 54), ("!=", 28), ("%", 24), ("%=", 40), ("&", 19), ("&=", 41), ("(", 7), (")", 8), ("*", 16), ("**", 35), ("**=", 46), ("*=", 38), ("+", 14), ("+=", 36), (",", 12), ("-", 15), ("-=", 37), ("->", 51), (".", 23), ("...", 52), ("/", 17), ("//", 47), ("//=", 48), ("/=", 39), (":", 11), (":=", 53), (";", 13), ("<", 20), ("<<", 33), ("<<=", 44), ("<=", 29), ("=", 22), ("==", 27), (">", 21), (">=", 30), (">>", 34), (">>=", 45), ("@", 49), ("@=", 50), ("[", 9), ("]", 10), ("^", 32), ("^=", 43), ("{", 25), ("|", 18), ("|=", 42), ("}", 26), ("~", 31)] : List (String × Int)).map fun p => (sQ p.1, p.2)
noncomputable def clsBody : Stmt → List Stmt
  | .ClassDef _ _ _ b .. => b
  | _ => []
noncomputable def mthSt (p : Program) (i k : Nat) : Stmt := (clsBody (stAt p i)).getD k (.Pass default)
noncomputable def mFd (st : Stmt) (qual : Str) (dv doc pm cd : Value) : FuncData := { fdOf st qual doc pm cd with defaults := dv }
noncomputable def codeN : Array Nat := #[14, 10, 4, 1, 1, 22, 0, 31, 16, 127, 0, 13, 7, 22, 0, 31, 16, 127, 0, 1]
noncomputable def codeV : Array Nat := #[14, 14, 4, 1, 1, 9, 4294966783, 0, 0, 2147483648, 0, 0, 0, 0, 0, 13, 11, 9, 4294966783, 0, 0, 2147483648, 0, 0, 0, 0, 0, 1]
noncomputable def eraseFd (fd : FuncData) : FuncData := { fd with doc := .none, pyModule := .none, code := .none }
noncomputable def codeQ (h : Heap) : Value → Option Str
  | .ref c => match h.get? c with
    | some o => match o.data with
      | .fields vs => match (vs[1]? : Option Value) with
        | some (.str q _) => some q
        | _ => none
      | _ => none
    | none => none
  | _ => none
noncomputable def fnSeen (h : Heap) (f : Addr) : Option (Obj × Option Str) := match h.get? f with
  | some o => match o.data with
    | .func fd => some ({ o with data := .func (eraseFd fd) }, codeQ h fd.code)
    | _ => none
  | none => none
noncomputable def defSeen (h : Heap) (x : Str) : Option (Obj × Option Str) := match h.nsMap mainGlobals x with
  | some (.ref f) => fnSeen h f
  | _ => none
noncomputable def defGood (i : Nat) (x : Str) : Option (Obj × Option Str) := some ({ cls := .type "function", data := .func (fdOf (stAt pw i) x .none .none .none) }, some x)
noncomputable def mthGood (k : Nat) (x : Str) (dv : Value) : Option (Obj × Option Str) := some ({ cls := .type "function", data := .func (mFd (mthSt pw 79 k) x dv .none .none .none) }, some x)
noncomputable def pvOf : Option Value → PV
  | some (.int i _) => .int i
  | some (.float x _) => .flt x
  | _ => .none
noncomputable def tokSeen (h : Heap) (x : Str) : Option (Value × Option Addr × Nat × Bool × List (Int × Option Str × PV)) := match h.nsMap mainGlobals x with
  | some (.ref a) => match h.get? a with
    | some o => match o.data with
      | .dict es _ => some (o.cls, o.dict, o.slots.size, a == sysModules, es.toList.map fun e => (e.hash, (match e.key with | .str s _ => some s | _ => none), pvOf (some e.val)))
      | _ => none
    | none => none
  | _ => none
noncomputable def tokGood (w : World) : Option (Value × Option Addr × Nat × Bool × List (Int × Option Str × PV)) := some (.type "dict", none, 0, false, tokI.map fun p => (hashStr w p.1, some p.1, .int p.2))
noncomputable def clsSeen (h : Heap) (a : Addr) : Option (Obj × Nat × Option (Option Value) × Option (Option Value) × Option (Option Value) × Option (Option Value)) :=
  (h.get? a).map fun o => ({ o with slots := #[] }, o.slots.size, o.slots[0]?, o.slots[1]?, o.slots[4]?, o.slots[5]?)
noncomputable def clsGood : Option (Obj × Nat × Option (Option Value) × Option (Option Value) × Option (Option Value) × Option (Option Value)) :=
  some ({ cls := .type "type", dict := none, data := .cls { name := sQ "Headers", bases := [.type "object"], mro := [.ref 283, .type "object"], ns := 282, qualname := sQ "Headers", hasDict := true, slotNames := [], subclasses := [], abstract := false, collection := none, hasDel := false }, slots := #[] },
   6, some none, some none, some (some (.builtin "object.__new__")), some (some (.bool true)))
noncomputable def patSeen (h : Heap) (x : Str) : Option (Value × Option Addr × Nat × Nat × Array Nat) := match h.nsMap mainGlobals x with
  | some (.ref a) => match h.get? a with
    | some o => match o.data with
      | .fields fs => match fs.getD 5 .none with
        | .ref l => match h.get? l with
          | some o' => match o'.data with
            | .seq items _ => some (o.cls, o.dict, Builtin.Re.reRawNat (fs.getD 6 .none), Builtin.Re.reRawNat (fs.getD 2 .none), (items.map Builtin.Re.reRawOf).map (·.toNat))
            | _ => none
          | none => none
        | _ => none
      | _ => none
    | none => none
  | _ => none
noncomputable def nestSeen (h : Heap) (x : Str) (f c p : Addr) : Option Value × Option Value × Bool × Option Obj :=
  (h.nsMap mainGlobals x, (match h.get? f with | some o => (match o.data with | .func fd => some fd.code | _ => none) | none => none), (match h.get? c with | some o => codeHdIn [(c, o)] c p | none => false), h.get? p)
noncomputable def nestGood (f c : Addr) : Option Value × Option Value × Bool × Option Obj := (some (.ref f), some (.ref c), true, some (tabObj #[]))
noncomputable def defL : List (Nat × Str) := [(4, sQ "_div2n1n"), (6, sQ "_int2digits"), (7, sQ "_digits2int"), (8, sQ "_divmod_pos"), (9, sQ "int_divmod"), (14, sQ "rgb_to_hls"), (15, sQ "hls_to_rgb"), (16, sQ "_v"), (17, sQ "rgb_to_hsv"), (18, sQ "hsv_to_rgb"),
  (71, sQ "ISTERMINAL"), (72, sQ "ISNONTERMINAL"), (73, sQ "ISEOF"), (81, sQ "_law_row"), (82, sQ "_law_run"), (83, sQ "_law_turned"), (84, sQ "_law_worth"), (85, sQ "_law_over"), (86, sQ "law")]
noncomputable def valL : List (Str × PV) := [(sQ "_DIV_LIMIT", .int 4000), (sQ "ONE_THIRD", .flt 4599676419421066581), (sQ "ONE_SIXTH", .flt 4595172819793696085), (sQ "TWO_THIRD", .flt 4604180019048437077), (sQ "NT_OFFSET", .int 256), (sQ "ENDMARKER", .int 0)]
noncomputable def offL : List Str := [sQ "max", sQ "min", sQ "int", sQ "range", sQ "zip", sQ "round", sQ "len", sQ "ord", sQ "sum", sQ "enumerate", sQ "str", sQ "list", sQ "type", sQ "divmod", sQ "reversed", sQ "ZeroDivisionError"]
noncomputable def nsL : List Str := ["__getattribute__", "__getattr__", "__setattr__", sQ "_headers", "__init__", sQ "_convert_string_type", sQ "get_all", sQ "items", sQ "add_header"]
noncomputable def mthL : List (Nat × Addr × Str × Value) := [(0, 177, sQ "Headers.__init__", .ref 170), (1, 184, sQ "Headers._convert_string_type", .none), (7, 222, sQ "Headers.get_all", .none), (11, 247, sQ "Headers.items", .none), (16, 280, sQ "Headers.add_header", .none)]
noncomputable def looks (s : Shared) :=
  let h := s.heap
  (defL.map (fun p => defSeen h p.2), valL.map (fun p => pvOf (h.nsMap mainGlobals p.1)), offL.map (fun x => (h.nsMap mainGlobals x).isNone), tokSeen h (sQ "EXACT_TOKEN_TYPES"),
   clsSeen h 283, h.nsMap mainGlobals (sQ "Headers"), h.isNs 282, nsL.map (h.nsMap 282), mthL.map (fun p => fnSeen h p.2.1), h.get? 170,
   patSeen h (sQ "_name_disallowed_re"), patSeen h (sQ "_value_disallowed_re"), nestSeen h (sQ "_int2digits") 59 58 54, nestSeen h (sQ "_digits2int") 66 65 61)
noncomputable def hopes (w : World) :=
  (defL.map (fun p => defGood p.1 p.2), valL.map (fun p => p.2), offL.map (fun _ => true), tokGood w,
   clsGood, some (Value.ref 283), true, ([none, none, none, none, some (.ref 177), some (.ref 184), some (.ref 222), some (.ref 247), some (.ref 280)] : List (Option Value)), mthL.map (fun p => mthGood p.1 p.2.2.1 p.2.2.2), some ({ cls := .type "tuple", data := .seq #[.none] 0 } : Obj),
   some (Value.type "re.Pattern", (none : Option Addr), 0, 0, codeN), some (Value.type "re.Pattern", (none : Option Addr), 0, 0, codeV), nestGood 59 58, nestGood 66 65)
noncomputable def qV : Program := view pw [0, 86]
noncomputable def loose2 : List Str := pw.boundNames.filter fun n => !(n == sQ "law" || n == sQ "_sre")
section
set_option maxHeartbeats 0
open PySem.W.X
theorem said0 : PySem.Challenge.rw_ta0130_02.wellSaid = true := by kernel_rfl
theorem left_f (w : World) : (openEnds treeTable pw (w.withFollow "special-get-raises" false) 6478).map (fun s => (openSeen qV loose2 (importedModules pw.main.body) (fun s => xlAt qV [] s && recOk [] s) true s, looks s)) = some (openGood qV loose2, hopes (w.withFollow "special-get-raises" false)) := by
  unfold openEnds fencedOpening topFrom qV loose2 pw namesBound laidKept xlAt
  rw [PySem.W.Fast.te10274390034422433532, PySem.W.Fast.te14289696077712309145, PySem.W.Fast.te14082659384304107361, PySem.W.Fast.te14364793385576792824, PySem.W.Fast.te1435165496053646825, PySem.W.Fast.te4187177175401517315, PySem.W.Fast.te18344453789297297638, PySem.W.Fast.te5923862056798008813]
  kernel_rfl
theorem left_t (w : World) : (openEnds treeTable pw (w.withFollow "special-get-raises" true) 6478).map (fun s => (openSeen qV loose2 (importedModules pw.main.body) (fun s => xlAt qV [] s && recOk [] s) true s, looks s)) = some (openGood qV loose2, hopes (w.withFollow "special-get-raises" true)) := by
  unfold openEnds fencedOpening topFrom qV loose2 pw namesBound laidKept xlAt
  rw [PySem.W.Fast.te10274390034422433532, PySem.W.Fast.te14289696077712309145, PySem.W.Fast.te14082659384304107361, PySem.W.Fast.te14364793385576792824, PySem.W.Fast.te1435165496053646825, PySem.W.Fast.te4187177175401517315, PySem.W.Fast.te18344453789297297638, PySem.W.Fast.te5923862056798008813]
  kernel_rfl
theorem left : LeftO pw qV loose2 (fun s => xlAt qV [] s && recOk [] s) looks hopes 6478 := fun w => byRow2 "special-get-raises" (P := fun w => (openEnds treeTable pw w 6478).map (fun s => (openSeen qV loose2 (importedModules pw.main.body) (fun s => xlAt qV [] s && recOk [] s) true s, looks s)) = some (openGood qV loose2, hopes w)) left_f left_t w
end
structure Asn (C : Cx) where
  at_ : Fz → Heap → Prop
  stable : ∀ {Z : Fz} {s : Shared} {Z' : Fz} {s' : Shared}, Inv C Z s → at_ Z s.heap → Step C Z s Z' s' → at_ Z' s'.heap
structure Vp where
  at_ : Fz → Value → Prop
  mono : ∀ {Z Z' : Fz} {v : Value}, Le Z Z' → at_ Z v → at_ Z' v
noncomputable def is (d : PV) : Vp := ⟨fun Z v => Rd Z v d, fun k h => h.le k⟩
noncomputable def isv (v : Value) : Vp := ⟨fun _ u => u = v, fun _ h => h⟩
def EV (C : Cx) (n : Nat) (Φ : Asn C) (t : Sem Value) (P : Vp) : Prop :=
  ∀ (A : Around) (s : Shared) (Z : Fz) (Q : Value → Shared → Prop) (E : Value → Shared → Prop), Room n A → Inv C Z s → Φ.at_ Z s.heap →
    (∀ v Z' s', Step C Z s Z' s' → P.at_ Z' v → Q v s') → wpAny (model C.prog C.w) A t Q E s
def TV (C : Cx) (n : Nat) (Φ : Asn C) (t : Sem Bool) (b : Bool) : Prop :=
  ∀ (A : Around) (s : Shared) (Z : Fz) (Q : Bool → Shared → Prop) (E : Value → Shared → Prop), Room n A → Inv C Z s → Φ.at_ Z s.heap →
    (∀ Z' s', Step C Z s Z' s' → Q b s') → wpAny (model C.prog C.w) A t Q E s
def OP1 (C : Cx) (n : Nat) (f : Value → Sem Value) (P R : Vp) : Prop :=
  ∀ (A : Around) (s : Shared) (Z : Fz) (a : Value) (Q : Value → Shared → Prop) (E : Value → Shared → Prop), Room n A → Inv C Z s → P.at_ Z a →
    (∀ v Z' s', Step C Z s Z' s' → R.at_ Z' v → Q v s') → wpAny (model C.prog C.w) A (f a) Q E s
def OP2 (C : Cx) (n : Nat) (f : Value → Value → Sem Value) (P P' R : Vp) : Prop :=
  ∀ (A : Around) (s : Shared) (Z : Fz) (a b : Value) (Q : Value → Shared → Prop) (E : Value → Shared → Prop), Room n A → Inv C Z s → P.at_ Z a → P'.at_ Z b →
    (∀ v Z' s', Step C Z s Z' s' → R.at_ Z' v → Q v s') → wpAny (model C.prog C.w) A (f a b) Q E s
section
variable {C : Cx} {n : Nat} {Φ : Asn C} {env : Env} {P P' R : Vp} {l r x : Expr} {pos : Pos}
theorem ev_bin {op : Operator} (hl : EV C n Φ (eval l env) P) (hr : EV C n Φ (eval r env) P') (ho : OP2 C n (binaryOp op) P P' R) :
    EV C n Φ (eval (.BinOp l op r pos) env) R := fun A s Z Q E hA I h k => by
  refine wpAny_BinOp (hl A s Z _ E hA I h fun a Z₁ s₁ x₁ pa => ?_)
  refine hr A s₁ Z₁ _ E hA x₁.inv (Φ.stable I h x₁) fun b Z₂ s₂ x₂ pb => ?_
  exact ho A s₂ Z₂ a b Q E hA x₂.inv (P.mono x₂.le pa) pb fun v Z₃ s₃ x₃ pv => k v Z₃ s₃ ((x₁.trans x₂).trans x₃) pv
theorem ev_un {op : UnaryOp} (hx : EV C n Φ (eval x env) P) (ho : OP1 C n (unaryOp op) P R) : EV C n Φ (eval (.UnaryOp op x pos) env) R := fun A s Z Q E hA I h k => by
  refine wpAny_UnaryOp (hx A s Z _ E hA I h fun a Z₁ s₁ x₁ pa => ?_)
  exact ho A s₁ Z₁ a Q E hA x₁.inv pa fun v Z₂ s₂ x₂ pv => k v Z₂ s₂ (x₁.trans x₂) pv
theorem ev_cmp {op : CmpOp} (hl : EV C n Φ (eval l env) P) (hr : EV C n Φ (eval r env) P') (ho : OP2 C n (compareOp op) P P' R) (hm : behindInMarks op r = false := by rfl) :
    EV C n Φ (eval (.Compare l [op] [r] pos) env) R := fun A s Z Q E hA I h k => by
  refine wpAny_Compare1 (hl A s Z _ E hA I h fun a Z₁ s₁ x₁ pa => ?_) hm
  refine hr A s₁ Z₁ _ E hA x₁.inv (Φ.stable I h x₁) fun b Z₂ s₂ x₂ pb => ?_
  exact ho A s₂ Z₂ a b Q E hA x₂.inv (P.mono x₂.le pa) pb fun v Z₃ s₃ x₃ pv => k v Z₃ s₃ ((x₁.trans x₂).trans x₃) pv
theorem tv_cmp {op : CmpOp} {b : Bool} {whole : Sem Value} (hl : EV C n Φ (eval l env) P) (hr : EV C n Φ (eval r env) P') (ho : OP2 C n (compareOp op) P P' (is (.bool b))) (hm : behindInMarks op r = false := by rfl) :
    TV C n Φ (isTrue (.Compare l [op] [r] pos) env whole) b := fun A s Z Q E hA I h k => by
  refine wpAny_isTrue_Compare1 (hl A s Z _ E hA I h fun a Z₁ s₁ x₁ pa => ?_) hm
  refine hr A s₁ Z₁ _ E hA x₁.inv (Φ.stable I h x₁) fun c Z₂ s₂ x₂ pb => ?_
  refine ho A s₂ Z₂ a c _ E hA x₂.inv (P.mono x₂.le pa) pb fun v Z₃ s₃ x₃ pv => ?_
  cases pv
  exact wpAny_truthy_bool (k Z₃ s₃ ((x₁.trans x₂).trans x₃))
theorem ev_ifexp {t b o : Expr} {c : Bool} (ht : TV C n Φ (isTrue t env (eval t env)) c) (hb : c = true → EV C n Φ (eval b env) R) (ho : c = false → EV C n Φ (eval o env) R) :
    EV C n Φ (eval (.IfExp t b o pos) env) R := fun A s Z Q E hA I h k => by
  refine wpAny_IfExp (ht A s Z _ E hA I h fun Z₁ s₁ x₁ => ?_)
  cases c with
  | true => exact hb rfl A s₁ Z₁ Q E hA x₁.inv (Φ.stable I h x₁) fun v Z₂ s₂ x₂ pv => k v Z₂ s₂ (x₁.trans x₂) pv
  | false => exact ho rfl A s₁ Z₁ Q E hA x₁.inv (Φ.stable I h x₁) fun v Z₂ s₂ x₂ pv => k v Z₂ s₂ (x₁.trans x₂) pv
theorem ev_int {i : Int} {k : Nat} : EV C n Φ (eval (.Constant (.int i) k pos) env) (is (.int i)) := fun A s Z Q E hA I h q =>
  wpAny_Constant_int (q _ Z _ (Step.toks I _) (.int i _))
theorem ev_flt {i : UInt64} {k : Nat} : EV C n Φ (eval (.Constant (.float i) k pos) env) (is (.flt i)) := fun A s Z Q E hA I h q =>
  wpAny_Constant_float (q _ Z _ (Step.toks I _) (.flt i _))
theorem ev_str {i : Str} {k : Nat} : EV C n Φ (eval (.Constant (.str i) k pos) env) (is (.str i)) := fun A s Z Q E hA I h q =>
  wpAny_Constant_str (q _ Z _ (Step.toks I _) (.str i _))
theorem ev_none {k : Nat} : EV C n Φ (eval (.Constant .none k pos) env) (is .none) := fun A s Z Q E hA I h q =>
  wpAny_Constant_none (q _ Z _ (StepX.refl I) .none)
theorem ev_bool {b : Bool} {k : Nat} : EV C n Φ (eval (.Constant (.bool b) k pos) env) (is (.bool b)) := fun A s Z Q E hA I h q =>
  wpAny_Constant_bool (q _ Z _ (StepX.refl I) (.bool b))
theorem op_add_int {a b : Int} : OP2 C n (binaryOp .Add) (is (.int a)) (is (.int b)) (is (.int (a + b))) := fun A s Z u v Q E hA I hu hv k => by
  cases hu; cases hv
  exact wpAny_add_int (k _ Z _ (Step.toks I _) (.int _ _))
theorem op_sub_int {a b : Int} : OP2 C n (binaryOp .Sub) (is (.int a)) (is (.int b)) (is (.int (a - b))) := fun A s Z u v Q E hA I hu hv k => by
  cases hu; cases hv
  exact PyProof.Rows.sub_int (k _ Z _ (Step.toks I _) (.int _ _))
theorem op_lt_int {a b : Int} : OP2 C n (compareOp .Lt) (is (.int a)) (is (.int b)) (is (.bool (decide (a < b)))) := fun A s Z u v Q E hA I hu hv k => by
  cases hu; cases hv
  exact wpAny_lt_int (k _ Z _ (StepX.refl I) (.bool _))
end
abbrev PlainName (x : Str) : Prop := (x == ("__debug__" : Str)) = false ∧ (x == ("__classdict__" : Str)) = false
def VarAt (env : Env) (h : Heap) (x : Str) (v : Value) : Prop :=
  PlainName x ∧ ((env.kindOf x = some .local ∧ ∃ m, h.Ns env.locals m ∧ m x = some v) ∨ ((env.kindOf x = some .cell ∨ env.kindOf x = some .free) ∧ ∃ c, env.cells.lookup x = some c ∧ h.IsCell c (some v)))
inductive Owned (Z : Fz) (h : Heap) (p : Addr × List PV) : Prop where
  | mk (z : Z p.1 = none) (vs : List Value) (n : Nat) (e : h.get? p.1 = some { cls := .type "list", data := .seq vs.toArray n }) (r : RdL Z vs p.2)
structure Held (env : Env) (ω : List (Addr × List PV)) (Z : Fz) (h : Heap) (b : Addr) (o : Obj) : Prop where
  z : Z b = none
  at_ : h.get? b = some o
  tab : ∀ ps, o ≠ tabObj ps
  loc : b ≠ env.locals
  cell : ∀ n c, env.cells.lookup n = some c → b ≠ c
  own : ∀ p ∈ ω, b ≠ p.1
def Vars (env : Env) (Z : Fz) (h : Heap) (nm : List Str) (ρ : List (Option Vp)) : Prop := ∀ (i : Nat) (x : Str) (P : Vp), nm[i]? = some x → ρ[i]? = some (some P) → ∃ v, VarAt env h x v ∧ P.at_ Z v
theorem Vars.nil {env : Env} {Z : Fz} {h : Heap} : Vars env Z h [] [] := fun _ _ _ e => nomatch e
theorem Vars.un {env : Env} {Z : Fz} {h : Heap} {x : Str} {nm : List Str} {ρ : List (Option Vp)} (r : Vars env Z h nm ρ) : Vars env Z h (x :: nm) (none :: ρ) := fun i y P e1 e2 => by
  cases i with
  | zero => cases e2
  | succ i => exact r i y P e1 e2
theorem Vars.va {env : Env} {Z : Fz} {h : Heap} {x : Str} {P : Vp} {v : Value} {nm : List Str} {ρ : List (Option Vp)} (hv : VarAt env h x v) (hp : P.at_ Z v) (r : Vars env Z h nm ρ) : Vars env Z h (x :: nm) (some P :: ρ) := fun i y P' e1 e2 => by
  cases i with
  | zero => cases e1; cases e2; exact ⟨v, hv, hp⟩
  | succ i => exact r i y P' e1 e2
structure FSp (env : Env) (nm oc : List Str) (sc : List (Str × NameKind)) (X : Addr → Prop) (ρ : List (Option Vp)) (ω : List (Addr × List PV)) (κ : Addr → Option Obj) (Z : Fz) (h : Heap) : Prop where
  names : env.scope.names = sc
  gl : env.globals = mainGlobals
  bl : env.builtins = builtinsNs
  cellH : ∀ x ∈ oc, sc.lookup x = some .cell → (env.cells.lookup x).isSome = true
  fn : env.scope.kind = .function
  nodup : nm.Nodup
  apart : env.cells.Pairwise fun x y => x.2 ≠ y.2
  loc : ∃ m, h.Ns env.locals m
  locX : X env.locals
  locZ : Z env.locals = none
  cells : ∀ n c, env.cells.lookup n = some c → Z c = none ∧ ∃ v, h.IsCell c v
  cellX : ∀ n ∈ oc, ∀ c, env.cells.lookup n = some c → X c
  cof : ∀ a, h.get? a = none → X a
  vars : Vars env Z h nm ρ
  own : ∀ p ∈ ω, Owned Z h p
  ownX : ∀ p ∈ ω, X p.1
  ownN : (ω.map (·.1)).Nodup
  held : ∀ b o, κ b = some o → Held env ω Z h b o
  heldX : ∀ b o, κ b = some o → X b
section
variable {C : Cx} {X : Addr → Prop} {Z Z' : Fz} {s s' : Shared} {h h' : Heap}
theorem VarAt.keeps {env : Env} {x : Str} {v : Value} (y : VarAt env h x v) (kl : ∀ o, h.get? env.locals = some o → h'.get? env.locals = some o)
    (kc : ∀ c, env.cells.lookup x = some c → ∀ o, h.get? c = some o → h'.get? c = some o) : VarAt env h' x v := by
  obtain ⟨p, ⟨hk, m, hn, hm⟩ | ⟨hk, c, hc, hv⟩⟩ := y
  · exact ⟨p, .inl ⟨hk, m, hn.at' kl, hm⟩⟩
  · obtain ⟨o, e, d⟩ := hv
    exact ⟨p, .inr ⟨hk, c, hc, o, kc c hc o e, d⟩⟩
theorem Vars.keeps {env : Env} (kZ : Le Z Z') (kl : ∀ o, h.get? env.locals = some o → h'.get? env.locals = some o)
    (kc : ∀ n c, env.cells.lookup n = some c → ∀ o, h.get? c = some o → h'.get? c = some o) {nm : List Str} {ρ : List (Option Vp)} (H : Vars env Z h nm ρ) : Vars env Z' h' nm ρ := fun i x P e1 e2 =>
  let ⟨v, hv, hp⟩ := H i x P e1 e2
  ⟨v, hv.keeps kl (kc _), Vp.mono _ kZ hp⟩
theorem Inv.tab_fields (I : Inv C Z s) {b : Addr} {o : Obj} (e : s.heap.get? b = some o) (hd : ∀ ps, o ≠ tabObj ps) : ∀ t ∈ C.tabs, b ≠ t.1 := fun t ht q => by
  obtain ⟨ps, e', _⟩ := I.tabs t ht
  rw [← q, e] at e'; cases e'; exact hd ps rfl
theorem Inv.ns_notTab (I : Inv C Z s) {b : Addr} {m} (x : s.heap.Ns b m) : ∀ t ∈ C.tabs, b ≠ t.1 := by
  obtain ⟨o, es, ep, e, d, _⟩ := x
  exact I.tab_fields e fun ps q => by subst q; cases d
theorem Inv.cell_notTab (I : Inv C Z s) {b : Addr} {v} (x : s.heap.IsCell b v) : ∀ t ∈ C.tabs, b ≠ t.1 := by
  obtain ⟨o, e, d⟩ := x
  exact I.tab_fields e fun ps q => by subst q; cases d
theorem Owned.keeps {p : Addr × List PV} (x : Owned Z h p) (kZ : Le Z Z') (hz : Z' p.1 = none) (k : ∀ o, h.get? p.1 = some o → h'.get? p.1 = some o) : Owned Z' h' p := by
  obtain ⟨_, vs, n, e, r⟩ := x
  exact ⟨hz, vs, n, k _ e, RdL.le kZ r⟩
theorem StepX.stillNone (x : StepX C X Z s Z' s') {b : Addr} {o : Obj} (hz : Z b = none) (e : s.heap.get? b = some o) (hX : ¬ X b) : Z' b = none := by
  cases q : Z' b with
  | none => rfl
  | some o' =>
    rcases x.new b o' q with h | h | h
    · rw [hz] at h; cases h
    · rw [h] at e; cases e
    · exact absurd h hX
theorem FSp.step {env : Env} {nm oc : List Str} {sc : List (Str × NameKind)} {Y : Addr → Prop} {ρ : List (Option Vp)} {ω : List (Addr × List PV)} {κ : Addr → Option Obj} (I : Inv C Z s) (H : FSp env nm oc sc X ρ ω κ Z s.heap) (x : StepX C Y Z s Z' s')
    (hL : ¬ Y env.locals) (hC : ∀ n c, env.cells.lookup n = some c → ¬ Y c) (hO : ∀ p ∈ ω, ¬ Y p.1) (hK : ∀ b o, κ b = some o → ¬ Y b) (hY : ∀ b, Y b → X b) : FSp env nm oc sc X ρ ω κ Z' s'.heap := by
  have kl : ∀ o, s.heap.get? env.locals = some o → s'.heap.get? env.locals = some o := fun o e => by
    obtain ⟨m, hn⟩ := H.loc
    exact x.keep _ o e hL (I.ns_notTab hn)
  have kc : ∀ n c, env.cells.lookup n = some c → ∀ o, s.heap.get? c = some o → s'.heap.get? c = some o := fun n c hc o e => by
    obtain ⟨_, v, hv⟩ := H.cells n c hc
    exact x.keep _ o e (hC n c hc) (I.cell_notTab hv)
  refine ⟨H.names, H.gl, H.bl, H.cellH, H.fn, H.nodup, H.apart, ?_, H.locX, ?_, fun n c hc => ?_, H.cellX, fun a ha => (x.gone ha).elim (H.cof a) (hY a), H.vars.keeps x.le kl kc, fun p hp => ?_, H.ownX, H.ownN, fun b o e => ?_, H.heldX⟩
  · obtain ⟨m, hn⟩ := H.loc
    exact ⟨m, hn.at' kl⟩
  · obtain ⟨m, o, es, ep, e, _⟩ := H.loc
    exact x.stillNone H.locZ e hL
  · obtain ⟨hz, v, o, e, d⟩ := H.cells n c hc
    exact ⟨x.stillNone hz e (hC n c hc), v, o, kc n c hc o e, d⟩
  · obtain ⟨hz, vs, n, e, r⟩ := H.own p hp
    have hn : ∀ t ∈ C.tabs, p.1 ≠ t.1 := I.tab_fields e fun ps q => by cases q
    exact (H.own p hp).keeps x.le (x.stillNone hz e (hO p hp)) fun o e => x.keep _ o e (hO p hp) hn
  · obtain ⟨hz, ha, ht, hl, hc, hw⟩ := H.held b o e
    exact ⟨x.stillNone hz ha (hK b o e), x.keep _ _ ha (hK b o e) (I.tab_fields ha ht), ht, hl, hc, hw⟩
noncomputable def FS (C : Cx) (env : Env) (nm oc : List Str) (sc : List (Str × NameKind)) (X : Addr → Prop) (ρ : List (Option Vp)) (ω : List (Addr × List PV)) (κ : Addr → Option Obj) : Asn C :=
  ⟨FSp env nm oc sc X ρ ω κ, fun I H x => H.step I x (fun h => h) (fun _ _ _ h => h) (fun _ _ h => h) (fun _ _ _ h => h) fun _ h => h.elim⟩
inductive At : List Str → List (Option Vp) → Str → Vp → Prop where
  | here {x : Str} {nm : List Str} {P : Vp} {ρ : List (Option Vp)} : At (x :: nm) (some P :: ρ) x P
  | there {x y : Str} {nm : List Str} {P : Vp} {o : Option Vp} {ρ : List (Option Vp)} (r : At nm ρ x P) : At (y :: nm) (o :: ρ) x P
theorem At.ix {nm : List Str} {ρ : List (Option Vp)} {x : Str} {P : Vp} (H : At nm ρ x P) : ∃ i : Nat, nm[i]? = some x ∧ ρ[i]? = some (some P) := by
  induction H with
  | here => exact ⟨0, rfl, rfl⟩
  | there r ih => exact ih.elim fun i e => ⟨i + 1, e.1, e.2⟩
theorem At.a1 {x a : Str} {nm : List Str} {P : Vp} {o : Option Vp} {ρ : List (Option Vp)} : At (a :: x :: nm) (o :: some P :: ρ) x P := .there .here
theorem At.a2 {x a b : Str} {nm : List Str} {P : Vp} {o p : Option Vp} {ρ : List (Option Vp)} : At (a :: b :: x :: nm) (o :: p :: some P :: ρ) x P := .there .a1
theorem At.a3 {x a b c : Str} {nm : List Str} {P : Vp} {o p q : Option Vp} {ρ : List (Option Vp)} : At (a :: b :: c :: x :: nm) (o :: p :: q :: some P :: ρ) x P := .there .a2
theorem At.t4 {x a b c d : Str} {nm : List Str} {P : Vp} {o p q u : Option Vp} {ρ : List (Option Vp)} (r : At nm ρ x P) : At (a :: b :: c :: d :: nm) (o :: p :: q :: u :: ρ) x P := .there (.there (.there (.there r)))
theorem At.var {env : Env} {nm : List Str} {ρ : List (Option Vp)} {x : Str} {P : Vp} (a : At nm ρ x P) (H : Vars env Z h nm ρ) : ∃ v, VarAt env h x v ∧ P.at_ Z v :=
  a.ix.elim fun i e => H i x P e.1 e.2
inductive Upd : List Str → List (Option Vp) → Str → Option Vp → List (Option Vp) → Prop where
  | here {x : Str} {nm : List Str} {P o : Option Vp} {ρ : List (Option Vp)} : Upd (x :: nm) (o :: ρ) x P (P :: ρ)
  | there {x y : Str} {nm : List Str} {P o : Option Vp} {ρ ρ' : List (Option Vp)} (r : Upd nm ρ x P ρ') : Upd (y :: nm) (o :: ρ) x P (o :: ρ')
theorem Upd.a1 {x a : Str} {nm : List Str} {P o p : Option Vp} {ρ : List (Option Vp)} : Upd (a :: x :: nm) (o :: p :: ρ) x P (o :: P :: ρ) := .there .here
theorem Upd.a2 {x a b : Str} {nm : List Str} {P o p q : Option Vp} {ρ : List (Option Vp)} : Upd (a :: b :: x :: nm) (o :: p :: q :: ρ) x P (o :: p :: P :: ρ) := .there .a1
theorem Upd.a3 {x a b c : Str} {nm : List Str} {P o p q u : Option Vp} {ρ : List (Option Vp)} : Upd (a :: b :: c :: x :: nm) (o :: p :: q :: u :: ρ) x P (o :: p :: q :: P :: ρ) := .there .a2
theorem Upd.t4 {x a b c d : Str} {nm : List Str} {P o p q u : Option Vp} {ρ ρ' : List (Option Vp)} (r : Upd nm ρ x P ρ') : Upd (a :: b :: c :: d :: nm) (o :: p :: q :: u :: ρ) x P (o :: p :: q :: u :: ρ') := .there (.there (.there (.there r)))
theorem Upd.ix {nm : List Str} {ρ ρ' : List (Option Vp)} {x : Str} {P : Option Vp} (H : Upd nm ρ x P ρ') : ∃ i : Nat, nm[i]? = some x ∧ ρ'[i]? = some P ∧ ∀ j, j ≠ i → ρ'[j]? = ρ[j]? := by
  induction H with
  | here => exact ⟨0, rfl, rfl, fun j hj => by cases j with | zero => exact absurd rfl hj | succ j => rfl⟩
  | there r ih => exact ih.elim fun i e => ⟨i + 1, e.1, e.2.1, fun j hj => by cases j with | zero => rfl | succ j => exact e.2.2 j fun q => hj (congrArg (· + 1) q)⟩
theorem Vars.upd {env : Env} {P : Vp} {v : Value} {nm : List Str} {ρ ρ' : List (Option Vp)} {x : Str} (H : Vars env Z h nm ρ) (nd : nm.Nodup) (u : Upd nm ρ x (some P) ρ')
    (k : ∀ y u, y ≠ x → VarAt env h y u → VarAt env h' y u) (hv : VarAt env h' x v) (hp : P.at_ Z v) : Vars env Z h' nm ρ' := fun i y P' e1 e2 => by
  obtain ⟨j, a1, a2, a3⟩ := u.ix
  by_cases q : i = j
  · subst q
    rw [a1] at e1; cases e1
    rw [a2] at e2; cases e2
    exact ⟨v, hv, hp⟩
  · rw [a3 i q] at e2
    obtain ⟨w, h1, h2⟩ := H i y P' e1 e2
    refine ⟨w, k y w (fun r => ?_) h1, h2⟩
    subst r
    exact q ((List.getElem?_inj (List.getElem?_eq_some_iff.mp e1).1 nd).mp (e1.trans a1.symm))
theorem load_var {M : Model} {A : Around} {env : Env} {x : Str} {v : Value} {Q : Value → Shared → Prop} {E : Value → Shared → Prop} (hk : env.scope.kind = .function) (y : VarAt env s.heap x v) (q : Q v s) :
    wpAny M A (loadName env x) Q E s := by
  obtain ⟨p, ⟨hl, m, hn, hm⟩ | ⟨hl, c, hc, hv⟩⟩ := y
  · exact wpAny_loadName_local hk hl hn hm q
  · rcases hl with hl | hl
    · exact wpAny_loadName_cell hk hl hc hv q
    · exact wpAny_loadName_free hk hl hc hv q p.2
theorem ev_name {n : Nat} {env : Env} {nm oc : List Str} {sc : List (Str × NameKind)} {ρ : List (Option Vp)} {ω : List (Addr × List PV)} {κ : Addr → Option Obj} {x : Str} {P : Vp} {pos : Pos} (hx : At nm ρ x P) :
    EV C n (FS C env nm oc sc X ρ ω κ) (eval (.Name x pos) env) P := fun A s Z Q E hA I H k => by
  obtain ⟨v, hv, hp⟩ := hx.var H.vars
  exact wpAny_Name (load_var H.fn hv (k v Z s (StepX.refl I) hp)) hv.1.1
noncomputable def canSt (sc : List (Str × NameKind)) (oc : List Str) (x : Str) : Bool := sc.lookup x == some .local || (sc.lookup x == some .cell && oc.contains x)
theorem canSt_or {sc : List (Str × NameKind)} {oc : List Str} {x : Str} (h : canSt sc oc x = true) : sc.lookup x = some .local ∨ (sc.lookup x = some .cell ∧ x ∈ oc) := by
  simp only [canSt, Bool.or_eq_true, Bool.and_eq_true, beq_iff_eq, List.contains_iff_mem] at h
  exact h
theorem st_name {A : Around} {env : Env} {nm oc : List Str} {sc : List (Str × NameKind)} {ρ ρ' : List (Option Vp)} {ω : List (Addr × List PV)} {κ : Addr → Option Obj} {x : Str} {v : Value} {P : Vp} {Q : Unit → Shared → Prop} {E : Value → Shared → Prop} {M : Model}
    (I : Inv C Z s) (H : FSp env nm oc sc X ρ ω κ Z s.heap) (hp : P.at_ Z v) (hu : Upd nm ρ x (some P) ρ') (pl : PlainName x)
    (hk : canSt sc oc x = true)
    (k : ∀ s', StepX C X Z s Z s' → FSp env nm oc sc X ρ' ω κ Z s'.heap → Q () s') : wpAny M A (storeName env x v) Q E s := by
  obtain ⟨m, hn⟩ := H.loc
  have hke : ∀ y, env.kindOf y = sc.lookup y := fun y => by rw [← H.names]; rfl
  rcases canSt_or hk with hk | ⟨hk, hoc⟩ <;> rw [← hke] at hk
  · refine wpAny_storeName_local hk hn (fun h' hn' hs' => ?_) (by rw [H.fn]; rfl)
    have cne : ∀ n c, env.cells.lookup n = some c → c ≠ env.locals := fun n c hc q => by
      obtain ⟨_, w, o, e, d⟩ := H.cells n c hc
      obtain ⟨o', es, ep, e', d', _⟩ := hn
      rw [q, e'] at e; cases e; rw [d'] at d; cases d
    have st : StepX C X Z s Z { s with heap := h', toks := s.toks + 1 } := .write I H.locX hs' H.locZ (I.ns_notTab hn)
    refine k _ st ⟨H.names, H.gl, H.bl, H.cellH, H.fn, H.nodup, H.apart, ⟨_, hn'⟩, H.locX, H.locZ, fun n c hc => ⟨(H.cells n c hc).1, ?_⟩, H.cellX, fun a ha => (st.gone ha).elim (H.cof a) id,
      H.vars.upd H.nodup hu (fun y u hy hv => ?_) ⟨pl, .inl ⟨hk, _, hn', if_pos rfl⟩⟩ hp, fun p hp => ?_, H.ownX, H.ownN, fun b o e => ?_, H.heldX⟩
    · obtain ⟨w, hw⟩ := (H.cells n c hc).2
      exact ⟨w, hw.sameBut hs' (cne n c hc)⟩
    · obtain ⟨p, ⟨hl, m', hn'', hm⟩ | ⟨hl, c, hc, hv⟩⟩ := hv
      · refine ⟨p, .inl ⟨hl, _, hn', ?_⟩⟩
        rw [if_neg hy]
        obtain ⟨o1, es1, ep1, e1, d1, _, f1⟩ := hn
        obtain ⟨o2, es2, ep2, e2, d2, _, f2⟩ := hn''
        rw [e1] at e2; cases e2; rw [d1] at d2; cases d2
        rw [← f1 y, f2 y]; exact hm
      · exact ⟨p, .inr ⟨hl, c, hc, hv.sameBut hs' (cne y c hc)⟩⟩
    · obtain ⟨hz, vs, n, e, r⟩ := H.own p hp
      refine ⟨hz, vs, n, hs'.extBut _ _ (fun q => ?_) e, r⟩
      obtain ⟨o', es, ep, e', d', _⟩ := hn
      rw [← q, e] at e'; cases e'; cases d'
    · obtain ⟨hz, ha, ht, hl, hc, hw⟩ := H.held b o e
      exact ⟨hz, hs'.extBut _ _ hl ha, ht, hl, hc, hw⟩
  · obtain ⟨c, hc⟩ := Option.isSome_iff_exists.mp (H.cellH x hoc (by rw [← hke]; exact hk))
    obtain ⟨hz, w, hw⟩ := H.cells x c hc
    refine wpAny_storeName_cell H.fn hk hc hw fun h' hc' hs' => ?_
    have lne : env.locals ≠ c := fun q => by
      obtain ⟨o, e, d⟩ := hw
      obtain ⟨o', es, ep, e', d', _⟩ := hn
      rw [q, e] at e'; cases e'; rw [d'] at d; cases d
    have st : StepX C X Z s Z { s with heap := h' } := .write (t := s.toks) I (H.cellX x hoc c hc) hs' hz (I.cell_notTab hw)
    refine k _ st ⟨H.names, H.gl, H.bl, H.cellH, H.fn, H.nodup, H.apart, ⟨m, hn.sameBut hs' lne⟩, H.locX, H.locZ, fun n c' hc'' => ⟨(H.cells n c' hc'').1, ?_⟩, H.cellX, fun a ha => (st.gone ha).elim (H.cof a) id,
      H.vars.upd H.nodup hu (fun y u hy hv => ?_) ⟨pl, .inr ⟨.inl hk, c, hc, hc'⟩⟩ hp, fun p hp => ?_, H.ownX, H.ownN, fun b o e => ?_, H.heldX⟩
    · by_cases q : c' = c
      · subst q; exact ⟨_, hc'⟩
      · obtain ⟨w', hw'⟩ := (H.cells n c' hc'').2
        exact ⟨w', hw'.sameBut hs' q⟩
    · obtain ⟨p, ⟨hl, m', hn'', hm⟩ | ⟨hl, c', hc'', hv⟩⟩ := hv
      · exact ⟨p, .inl ⟨hl, m', hn''.sameBut hs' lne, hm⟩⟩
      · exact ⟨p, .inr ⟨hl, c', hc'', hv.sameBut hs' fun q => hy (name_of_addr H.apart (mem_of_lookup hc'') (q ▸ mem_of_lookup hc))⟩⟩
    · obtain ⟨hz', vs, n, e, r⟩ := H.own p hp
      refine ⟨hz', vs, n, hs'.extBut _ _ (fun q => ?_) e, r⟩
      obtain ⟨o', e', d'⟩ := hw
      rw [← q, e] at e'; cases e'; cases d'
    · obtain ⟨hz, ha, ht, hl, hc', hw⟩ := H.held b o e
      exact ⟨hz, hs'.extBut _ _ (hc' x c hc) ha, ht, hl, hc', hw⟩
end
def EX (C : Cx) (n : Nat) (X : Addr → Prop) (Φ : Asn C) (t : Sem Flow) (Ψ : Asn C) (R : Vp) : Prop :=
  ∀ (A : Around) (s : Shared) (Z : Fz) (Q : Flow → Shared → Prop) (E : Value → Shared → Prop), Room n A → Inv C Z s → Φ.at_ Z s.heap →
    (∀ Z' s', StepX C X Z s Z' s' → Ψ.at_ Z' s'.heap → Q .next s') → (∀ v Z' s', StepX C X Z s Z' s' → R.at_ Z' v → Q (.ret v) s') → wpAny (model C.prog C.w) A t Q E s
noncomputable def botA (C : Cx) : Asn C := ⟨fun _ _ => False, fun _ h _ => h⟩
section
variable {C : Cx} {n : Nat} {X : Addr → Prop} {Φ Ψ Θ : Asn C} {R : Vp} {env : Env} {nm oc : List Str} {sc : List (Str × NameKind)} {st : Stmt} {rest : List Stmt} {pos : Pos}
theorem ex_nil : EX C n X Φ (execs [] env) Φ R := fun A s Z Q E hA I H k _ => wpAny_execs_nil (k Z s (StepX.refl I) H)
theorem ex_cons (h1 : EX C n X Φ (exec st env) Ψ R) (h2 : EX C n X Ψ (execs rest env) Θ R) : EX C n X Φ (execs (st :: rest) env) Θ R := fun A s Z Q E hA I H k kr => by
  refine wpAny_execs_cons (h1 A s Z _ E hA I H (fun Z₁ s₁ x₁ H₁ => ?_) fun v Z₁ s₁ x₁ r => kr v Z₁ s₁ x₁ r)
  exact h2 A s₁ Z₁ Q E hA x₁.inv H₁ (fun Z₂ s₂ x₂ H₂ => k Z₂ s₂ (x₁.trans x₂) H₂) fun v Z₂ s₂ x₂ r => kr v Z₂ s₂ (x₁.trans x₂) r
theorem ex_ret {e : Expr} (h : EV C n Φ (eval e env) R) : EX C n X Φ (execs (.Return (some e) pos :: rest) env) Ψ R := fun A s Z Q E hA I H k kr => by
  refine wpAny_execs_cons (wpAny_Return_some (h A s Z _ E hA I H fun v Z₁ s₁ x₁ r => kr v Z₁ s₁ x₁.to r))
theorem ex_mono (h : EX C n X Φ (execs rest env) Ψ R) (k : ∀ {Z h}, Ψ.at_ Z h → Θ.at_ Z h) : EX C n X Φ (execs rest env) Θ R := fun A s Z Q E hA I H kn kr =>
  h A s Z Q E hA I H (fun Z₁ s₁ x₁ H₁ => kn Z₁ s₁ x₁ (k H₁)) kr
theorem ex_if {t : Expr} {b o : List Stmt} {c : Bool} (ht : TV C n Φ (isTrue t env (eval t env)) c) (hb : c = true → EX C n X Φ (execs b env) Ψ R) (ho : c = false → EX C n X Φ (execs o env) Ψ R) :
    EX C n X Φ (exec (.If t b o pos) env) Ψ R := fun A s Z Q E hA I H k kr => by
  refine wpAny_If (ht A s Z _ E hA I H fun Z₁ s₁ x₁ => ?_)
  cases c with
  | true => exact hb rfl A s₁ Z₁ Q E hA x₁.inv (Φ.stable I H x₁) (fun Z₂ s₂ x₂ H₂ => k Z₂ s₂ (x₁.to.trans x₂) H₂) fun v Z₂ s₂ x₂ r => kr v Z₂ s₂ (x₁.to.trans x₂) r
  | false => exact ho rfl A s₁ Z₁ Q E hA x₁.inv (Φ.stable I H x₁) (fun Z₂ s₂ x₂ H₂ => k Z₂ s₂ (x₁.to.trans x₂) H₂) fun v Z₂ s₂ x₂ r => kr v Z₂ s₂ (x₁.to.trans x₂) r
theorem ex_assign {ρ ρ' : List (Option Vp)} {ω : List (Addr × List PV)} {κ : Addr → Option Obj} {x : Str} {xp : Pos} {e : Expr} {P : Vp} (he : EV C n (FS C env nm oc sc X ρ ω κ) (eval e env) P) (hu : Upd nm ρ x (some P) ρ')
    (pl : PlainName x) (hk : canSt sc oc x = true)
    (hs : swapsWith e (some (.Name x xp)) pos.line env = pure false) :
    EX C n X (FS C env nm oc sc X ρ ω κ) (exec (.Assign [.Name x xp] e pos) env) (FS C env nm oc sc X ρ' ω κ) R := fun A s Z Q E hA I H k kr => by
  refine wpAny_Assign_Name (he A s Z _ E hA I H fun v Z₁ s₁ x₁ pv => ?_) hs
  exact st_name x₁.inv ((FS C env nm oc sc X ρ ω κ).stable I H x₁) pv hu pl hk fun s₂ x₂ H₂ => k Z₁ s₂ (x₁.to.trans x₂) H₂
end
theorem StepX.over {C : Cx} {X : Addr → Prop} {Z Z₁ Z' : Fz} {s s₁ s' : Shared} (st : Step C Z s Z₁ s₁) (x : StepX C X Z₁ s₁ Z' s') (h : ∀ b, X b → s.heap.get? b = none) : Step C Z s Z' s' where
  le := st.le.trans x.le
  new := fun b o e => by
    rcases x.new b o e with q | q | q
    · exact st.new b o q
    · exact (st.gone q).elim (fun q => .inr (.inl q)) fun q => q.elim
    · exact .inr (.inl (h b q))
  keep := fun b o e _ ht => x.keep b o (st.keep b o e (fun q => q) ht) (fun q => by rw [h b q] at e; cases e) ht
  rest := ⟨x.rest.1.trans st.rest.1, x.rest.2.1.trans st.rest.2.1, x.rest.2.2.trans st.rest.2.2⟩
  inv := x.inv
noncomputable def ofBinds (nm : List Str) (binds : List (Str × Vp)) : List (Option Vp) := nm.map fun x => binds.lookup x
def FN (C : Cx) (n : Nat) (f : Value) (Ps : List Vp) (R : Vp) : Prop :=
  ∀ (A : Around) (s : Shared) (Z : Fz) (vs : List Value) (Q : Value → Shared → Prop) (E : Value → Shared → Prop), Room n A → Inv C Z s → vs.length = Ps.length → (∀ (i : Nat) (v : Value) (P : Vp), vs[i]? = some v → Ps[i]? = some P → P.at_ Z v) →
    (∀ v Z' s', Step C Z s Z' s' → R.at_ Z' v → Q v s') → wpAny (model C.prog C.w) A (call f vs) Q E s
theorem lenS {α : Type} {n : Nat} {l : List α} (h : l.length = n + 1) : ∃ a r, l = a :: r ∧ r.length = n := by
  cases l with
  | nil => cases h
  | cons a r => exact ⟨a, r, rfl, Nat.succ.inj h⟩
theorem len2 {α : Type} {l : List α} (h : l.length = 2) : ∃ a b, l = [a, b] := by
  cases l with
  | nil => cases h
  | cons a r => exact (List.length_eq_one_iff.mp (Nat.succ.inj h)).elim fun b e => ⟨a, b, congrArg _ e⟩
theorem len3 {α : Type} {l : List α} (h : l.length = 3) : ∃ a b c, l = [a, b, c] := by
  cases l with
  | nil => cases h
  | cons a r => exact (len2 (Nat.succ.inj h)).elim fun b e => e.elim fun c e => ⟨a, b, c, congrArg _ e⟩
theorem fn1 {C : Cx} {n : Nat} {f : Value} {P R : Vp} (h : ∀ (A : Around) (s : Shared) (Z : Fz) (v : Value) (Q : Value → Shared → Prop) (E : Value → Shared → Prop), Room n A → Inv C Z s → P.at_ Z v →
    (∀ v Z' s', Step C Z s Z' s' → R.at_ Z' v → Q v s') → wpAny (model C.prog C.w) A (call f [v]) Q E s) : FN C n f [P] R := fun A s Z vs Q E hA I hl hp k => by
  obtain ⟨v, rfl⟩ := List.length_eq_one_iff.mp hl
  exact h A s Z v Q E hA I (hp 0 v P rfl rfl) k
theorem fn2 {C : Cx} {n : Nat} {f : Value} {P P' R : Vp} (h : ∀ (A : Around) (s : Shared) (Z : Fz) (u v : Value) (Q : Value → Shared → Prop) (E : Value → Shared → Prop), Room n A → Inv C Z s → P.at_ Z u → P'.at_ Z v →
    (∀ v Z' s', Step C Z s Z' s' → R.at_ Z' v → Q v s') → wpAny (model C.prog C.w) A (call f [u, v]) Q E s) : FN C n f [P, P'] R := fun A s Z vs Q E hA I hl hp k => by
  obtain ⟨u, v, rfl⟩ := len2 hl
  exact h A s Z u v Q E hA I (hp 0 u P rfl rfl) (hp 1 v P' rfl rfl) k
theorem bnd1 {fd : FuncData} {xs : List Str} (h : ∀ a, bindArgs fd ⟨[a], []⟩ = pure (xs.zip [a])) (vs : List Value) (hl : vs.length = 1) : bindArgs fd ⟨vs, []⟩ = pure (xs.zip vs) := by
  obtain ⟨a, rfl⟩ := List.length_eq_one_iff.mp hl
  exact h a
theorem bnd2 {fd : FuncData} {xs : List Str} (h : ∀ a b, bindArgs fd ⟨[a, b], []⟩ = pure (xs.zip [a, b])) (vs : List Value) (hl : vs.length = 2) : bindArgs fd ⟨vs, []⟩ = pure (xs.zip vs) := by
  obtain ⟨a, b, rfl⟩ := len2 hl
  exact h a b
theorem bnd3 {fd : FuncData} {xs : List Str} (h : ∀ a b c, bindArgs fd ⟨[a, b, c], []⟩ = pure (xs.zip [a, b, c])) (vs : List Value) (hl : vs.length = 3) : bindArgs fd ⟨vs, []⟩ = pure (xs.zip vs) := by
  obtain ⟨a, b, c, rfl⟩ := len3 hl
  exact h a b c
def Quiet (C : Cx) : Prop := ∀ h : Heap, (∀ b o, C.Z0 b = some o → h.get? b = some o) → h.NoLimit
inductive CodeZ (C : Cx) (cd : Value) (q : Str) : Prop where
  | mk (c : Addr) (o : Obj) (vs : Array Value) (t : Tok) (e : cd = .ref c) (h : C.Z0 c = some o) (d : o.data = .fields vs) (n : vs[1]? = some (.str q t))
theorem CodeZ.rcd {C : Cx} {Z : Fz} {s : Shared} {cd : Value} {q : Str} (x : CodeZ C cd q) (I : Inv C Z s) : s.heap.CodeRec cd q := by
  obtain ⟨c, o, vs, t, e0, e1, e2, e3⟩ := x
  exact ⟨c, o, vs, t, e0, I.heap _ _ (I.base _ _ e1), e2, e3⟩
theorem cellsFrom_mem : ∀ (names : List (Str × NameKind)) (k : Nat) (acc : List (Str × Addr)) (x : Str), (x, NameKind.cell) ∈ names ∨ (∃ c, (x, c) ∈ acc) → ∃ c, (x, c) ∈ cellsFrom k names acc
  | [], k, acc, x, h => h.elim (fun q => nomatch q) id
  | (y, kd) :: r, k, acc, x, h => by
    unfold cellsFrom
    split
    · refine cellsFrom_mem r _ _ x ?_
      rcases h with h | ⟨c, h⟩
      · rcases List.mem_cons.mp h with e | h
        · cases e; exact .inr ⟨k, .head _⟩
        · exact .inl h
      · exact .inr ⟨c, .tail _ h⟩
    · rename_i hk
      refine cellsFrom_mem r _ _ x ?_
      rcases h with h | h
      · rcases List.mem_cons.mp h with e | h
        · cases e; exact absurd rfl hk
        · exact .inl h
      · exact .inr h
theorem lookup_of_mem {α : Type} : ∀ {l : List (Str × α)} {x : Str} {c : α}, (x, c) ∈ l → (l.lookup x).isSome = true
  | (y, v) :: r, x, c, h => by
    rw [List.lookup_cons]
    cases hb : x == y with
    | true => rfl
    | false =>
      rcases List.mem_cons.mp h with e | h
      · cases e; simp at hb
      · exact lookup_of_mem h
theorem cellsFrom_has {names : List (Str × NameKind)} {k : Nat} {x : Str} (h : names.lookup x = some .cell) : ((cellsFrom k names []).lookup x).isSome = true := by
  obtain ⟨c, hc⟩ := cellsFrom_mem names k [] x (.inl (mem_of_lookup h))
  exact lookup_of_mem hc
section
variable {C : Cx} {n : Nat} {R : Vp} {fd : FuncData} {f : Addr} {o : Obj} {body : List Stmt} {Ps : List Vp} {xs nm : List Str} {sc : List (Str × NameKind)} {ρ : List (Option Vp)}
theorem Vars.start {env : Env} {Z : Fz} {h : Heap} {m cm : Str → Option Value} (pl : ∀ x ∈ nm, PlainName x)
    (hl : h.Ns env.locals m) (hc : ∀ x c, env.cells.lookup x = some c → h.IsCell c (cm x)) {binds : List (Str × Vp)}
    (hk : ∀ x P, binds.lookup x = some P → (env.kindOf x = some .local ∧ ∃ v, m x = some v ∧ P.at_ Z v) ∨ (env.kindOf x = some .cell ∧ (env.cells.lookup x).isSome = true ∧ ∃ v, cm x = some v ∧ P.at_ Z v)) :
    Vars env Z h nm (ofBinds nm binds) := by
  induction nm with
  | nil => exact .nil
  | cons x nm ih =>
    have ih := ih fun y hy => pl y (.tail _ hy)
    show Vars env Z h (x :: nm) (binds.lookup x :: ofBinds nm binds)
    cases q : binds.lookup x with
    | none => exact .un ih
    | some P =>
      rcases hk x P q with ⟨k1, v, e, p⟩ | ⟨k1, hs, v, e, p⟩
      · exact .va ⟨pl x (.head _), .inl ⟨k1, m, hl, e⟩⟩ p ih
      · obtain ⟨c, e'⟩ := Option.isSome_iff_exists.mp hs
        exact .va ⟨pl x (.head _), .inr ⟨.inl k1, c, e', e ▸ hc x c e'⟩⟩ p ih
theorem bindL_not {kindOf : Str → Option NameKind} {x : Str} : ∀ (bs : List (Str × Value)) (m : Str → Option Value), (∀ b ∈ bs, b.1 ≠ x) → bindL kindOf bs m x = m x
  | [], _, _ => rfl
  | (y, v) :: r, m, h => by
    unfold bindL
    rw [bindL_not r _ fun b hb => h b (.tail _ hb)]
    split
    · exact if_neg fun q => h (y, v) (.head _) q.symm
    · rfl
theorem bindC_not {kindOf : Str → Option NameKind} {x : Str} : ∀ (bs : List (Str × Value)) (m : Str → Option Value), (∀ b ∈ bs, b.1 ≠ x) → bindC kindOf bs m x = m x
  | [], _, _ => rfl
  | (y, v) :: r, m, h => by
    unfold bindC
    rw [bindC_not r _ fun b hb => h b (.tail _ hb)]
    split
    · rfl
    · exact if_neg fun q => h (y, v) (.head _) q.symm
theorem bindL_zip {kindOf : Str → Option NameKind} : ∀ {xs : List Str} {vs : List Value} {x : Str} {m : Str → Option Value} {i : Nat}, xs.Nodup → xs[i]? = some x → kindOf x = some .local → xs.length = vs.length → bindL kindOf (xs.zip vs) m x = vs[i]?
  | [], _, _, _, _, _, h, _, _ => by simp at h
  | y :: xs, [], _, _, _, _, _, _, h => by simp at h
  | y :: xs, v :: vs, x, m, i, nd, hi, hk, hl => by
    obtain ⟨nd1, nd2⟩ := List.nodup_cons.mp nd
    rw [List.zip_cons_cons]
    unfold bindL
    cases i with
    | zero =>
      simp at hi; subst hi
      rw [bindL_not (x := y) _ _ fun b hb q => nd1 (by rw [← q]; exact (List.of_mem_zip hb).1), if_pos hk]
      simp
    | succ i =>
      rw [List.getElem?_cons_succ] at hi ⊢
      exact bindL_zip nd2 hi hk (by simpa using hl)
theorem bindC_zip {kindOf : Str → Option NameKind} : ∀ {xs : List Str} {vs : List Value} {x : Str} {m : Str → Option Value} {i : Nat}, xs.Nodup → xs[i]? = some x → kindOf x ≠ some .local → xs.length = vs.length → bindC kindOf (xs.zip vs) m x = vs[i]?
  | [], _, _, _, _, _, h, _, _ => by simp at h
  | y :: xs, [], _, _, _, _, _, _, h => by simp at h
  | y :: xs, v :: vs, x, m, i, nd, hi, hk, hl => by
    obtain ⟨nd1, nd2⟩ := List.nodup_cons.mp nd
    rw [List.zip_cons_cons]
    unfold bindC
    cases i with
    | zero =>
      simp at hi; subst hi
      rw [bindC_not (x := y) _ _ fun b hb q => nd1 (by rw [← q]; exact (List.of_mem_zip hb).1), if_neg hk]
      simp
    | succ i =>
      rw [List.getElem?_cons_succ] at hi ⊢
      exact bindC_zip nd2 hi hk (by simpa using hl)
theorem zip_lookup {P : Vp} : ∀ {xs : List Str} {Ps : List Vp} {x : Str}, (xs.zip Ps).lookup x = some P → ∃ i : Nat, xs[i]? = some x ∧ Ps[i]? = some P
  | [], _, _, h => by simp at h
  | y :: xs, [], _, h => by simp at h
  | y :: xs, Q :: Ps, x, h => by
    rw [List.zip_cons_cons, List.lookup_cons] at h
    cases hb : x == y with
    | true => rw [hb] at h; cases h; exact ⟨0, by rw [beq_iff_eq.mp hb]; rfl, rfl⟩
    | false =>
      rw [hb] at h
      obtain ⟨i, h1, h2⟩ := zip_lookup (Ps := Ps) h
      exact ⟨i + 1, by simpa using h1, by simpa using h2⟩
theorem fn_def (hq : Quiet C) (ho : C.Z0 f = some o) (hd : o.data = .func fd) (hcd : CodeZ C fd.code fd.qualname) (hbody : fd.body = .stmts body) (hclo : fd.closure = []) (hsc : fd.scope.names = sc) (hgl : fd.globals = mainGlobals) (hbl : fd.builtins = builtinsNs)
    (hbind : ∀ vs : List Value, vs.length = Ps.length → bindArgs fd ⟨vs, []⟩ = pure (xs.zip vs)) (hlen : xs.length = Ps.length) (hnd : xs.Nodup) (hnm : nm.Nodup) (pl : ∀ x ∈ nm, PlainName x)
    (hkind : xs.all (canSt sc xs) = true) (hρ : ofBinds nm (xs.zip Ps) = ρ)
    (h : ∀ L (X : Addr → Prop), EX C (n + 1) X (FS C (callEnvC fd L f) nm nm sc X ρ [] fun _ => none) (execs body (callEnvC fd L f)) (botA C) R)
    (hco : fd.scope.isCoroutine = false := by rfl) (hgen : fd.scope.isGenerator = false := by rfl) (hk : fd.scope.kind = .function := by rfl) :
    FN C (n + 2) (.ref f) Ps R := fun A s Z vs Q E hA I hl hp k => by
  subst hsc
  subst hρ
  have hf := I.heap _ _ (I.base _ _ ho)
  have hnl := hq s.heap fun b o e => I.heap _ _ (I.base _ _ e)
  have hkind' : ∀ L, ∀ x ∈ xs, fd.scope.names.lookup x = some .local ∨ (fd.scope.names.lookup x = some .cell ∧ ((cellsFrom (L + 1) fd.scope.names []).lookup x).isSome = true) := fun L x hx =>
    (canSt_or (List.all_eq_true.mp hkind x hx)).imp id fun ⟨h, _⟩ => ⟨h, cellsFrom_has h⟩
  refine wpAny_call (codeAny_call_cells (R := fun r s' => match r with | .ok (.ret v) => Q v s' | .ok _ => False | .error e => E e s') (by have := hA.depth; simp only [recursionLimit]; lia) hf hd hnl (hcd.rcd I) hbody (hbind vs hl) hclo (fun x hx => hkind' _ _ (List.of_mem_zip hx).1) (fun s₁ ic => ?_) hco hgen hk)
  obtain ⟨h₁, tk, rfl⟩ := ic.toInCall.same
  have hL : s.heap.objs.size < h₁.objs.size := ic.toInCall.ns.lt
  have st : Step C Z s Z { s with heap := h₁, toks := tk } := .keeps I ic.toInCall.keep
  have hA' : Room (n + 1) (A.deeper (callEnvC fd s.heap.objs.size f)) := ⟨by have := hA.depth; simp only [Around.deeper]; lia, by have := hA.units; simp only [Around.deeper]; lia, hA.handled⟩
  have zn : ∀ a, s.heap.objs.size ≤ a → Z a = none := fun a ha => I.fresh (gAb ha)
  refine h s.heap.objs.size (fun a => s.heap.get? a = none) _ { s with heap := h₁, toks := tk } Z _ _ hA' st.inv ⟨rfl, hgl, hbl, fun x _ hx => cellsFrom_has hx, hk, hnm, ic.apart, ⟨_, ic.toInCall.ns⟩, gAb (Nat.le_refl _), zn _ (Nat.le_refl _), fun x c hc => ?_, fun x _ c hc => ?_, fun a ha => ?_, ?_, (fun _ h => nomatch h), (fun _ h => nomatch h), List.Pairwise.nil, (fun _ _ h => nomatch h), fun _ _ h => nomatch h⟩ (fun _ _ _ hb => hb.elim) fun v Z' s' x r => ?_
  · have := ic.above x c (mem_of_lookup hc)
    exact ⟨zn c (Nat.le_of_lt this), _, ic.cell x c hc⟩
  · exact gAb (Nat.le_of_lt (ic.above x c (mem_of_lookup hc)))
  · exact (st.gone ha).elim id fun q => q.elim
  · refine Vars.start pl ic.toInCall.ns ic.cell fun x P e => ?_
    obtain ⟨i, e1, e2⟩ := zip_lookup (Ps := Ps) e
    have hi : i < vs.length := by rw [hl]; exact (List.getElem?_eq_some_iff.mp e2).1
    have ev : vs[i]? = some vs[i] := List.getElem?_eq_getElem hi
    have hpv := hp i _ P ev e2
    rcases hkind' s.heap.objs.size x (List.mem_iff_getElem?.mpr ⟨i, e1⟩) with hk' | ⟨hk', hs⟩
    · exact .inl ⟨hk', _, (bindL_zip hnd e1 hk' (hlen.trans hl.symm)).trans ev, hpv⟩
    · refine .inr ⟨hk', hs, _, (bindC_zip hnd e1 (fun q => ?_) (hlen.trans hl.symm)).trans ev, hpv⟩
      rw [show (callEnvC fd s.heap.objs.size f).kindOf x = fd.scope.names.lookup x from rfl, hk'] at q; cases q
  · exact k v Z' s' (st.over x fun b hb => hb) r
end
section
variable {C : Cx} {n : Nat} {a b : Int} {x y : UInt64}
local macro_rules | `(tactic| trivial) => `(tactic| fail)
theorem op_mul_int (hm : IntMulOk a b) : OP2 C n (binaryOp .Mult) (is (.int a)) (is (.int b)) (is (.int (a * b))) := fun A s Z u v Q E hA I hu hv k => by
  obtain ⟨_, rfl⟩ := rdi hu; obtain ⟨_, rfl⟩ := rdi hv; exact PyProof.Rows.mul_int (k _ Z _ (Step.toks I _) (.int _ _)) hm
theorem op_div_int (hb : b ≠ 0) (hp : Builtin.divisionGoesByPylong a b = false) : OP2 C n (binaryOp .FloorDiv) (is (.int a)) (is (.int b)) (is (.int (a.fdiv b))) := fun A s Z u v Q E hA I hu hv k => by
  obtain ⟨_, rfl⟩ := rdi hu; obtain ⟨_, rfl⟩ := rdi hv; exact floordiv_int hb (k _ Z _ (Step.toks I _) (.int _ _)) (.inl hp)
theorem op_mod_int (hb : b ≠ 0) : OP2 C n (binaryOp .Mod) (is (.int a)) (is (.int b)) (is (.int (a.fmod b))) := fun A s Z u v Q E hA I hu hv k => by
  obtain ⟨_, rfl⟩ := rdi hu; obtain ⟨_, rfl⟩ := rdi hv; exact mod_int' hb (k _ Z _ (Step.toks I _) (.int _ _))
theorem op_pow_int (hb : 0 ≤ b) (hsz : (Builtin.Int.intBits a : Int) * b ≤ 2 ^ 27) : OP2 C n (binaryOp .Pow) (is (.int a)) (is (.int b)) (is (.int (a ^ b.toNat))) := fun A s Z u v Q E hA I hu hv k => by
  obtain ⟨_, rfl⟩ := rdi hu; obtain ⟨_, rfl⟩ := rdi hv; exact pow_int hb hsz (k _ Z _ (Step.toks I _) (.int _ _))
theorem op_shl_int (hb : 0 ≤ b) (hsz : (Builtin.Int.intBits a : Int) + b ≤ 2 ^ 27) : OP2 C n (binaryOp .LShift) (is (.int a)) (is (.int b)) (is (.int (a * 2 ^ b.toNat))) := fun A s Z u v Q E hA I hu hv k => by
  obtain ⟨_, rfl⟩ := rdi hu; obtain ⟨_, rfl⟩ := rdi hv; exact lshift_int hb hsz (k _ Z _ (Step.toks I _) (.int _ _))
theorem op_shr_int (hb : 0 ≤ b) : OP2 C n (binaryOp .RShift) (is (.int a)) (is (.int b)) (is (.int (a.fdiv (2 ^ b.toNat)))) := fun A s Z u v Q E hA I hu hv k => by
  obtain ⟨_, rfl⟩ := rdi hu; obtain ⟨_, rfl⟩ := rdi hv; exact rshift_int hb (k _ Z _ (Step.toks I _) (.int _ _))
theorem op_xor_int : OP2 C n (binaryOp .BitXor) (is (.int a)) (is (.int b)) (is (.int (Builtin.bitXor a b))) := fun A s Z u v Q E hA I hu hv k => by
  obtain ⟨_, rfl⟩ := rdi hu; obtain ⟨_, rfl⟩ := rdi hv; exact xor_int (k _ Z _ (Step.toks I _) (.int _ _))
theorem op_neg_int : OP1 C n (unaryOp .USub) (is (.int a)) (is (.int (-a))) := fun A s Z u Q E hA I hu k => by
  obtain ⟨_, rfl⟩ := rdi hu; exact PyProof.Rows.neg_int (k _ Z _ (Step.toks I _) (.int _ _))
theorem op_inv_int : OP1 C n (unaryOp .Invert) (is (.int a)) (is (.int (Builtin.bitNot a))) := fun A s Z u Q E hA I hu k => by
  obtain ⟨_, rfl⟩ := rdi hu; exact PyProof.Rows.invert_int (k _ Z _ (Step.toks I _) (.int _ _))
theorem op_tdiv_int (ha : a.natAbs < 2 ^ 1023) (hb : b ≠ 0) : OP2 C n (binaryOp .Div) (is (.int a)) (is (.int b)) (is (.flt (Float64.ofFrac (decide (a < 0) != decide (b < 0)) a.natAbs b.natAbs))) := fun A s Z u v Q E hA I hu hv k => by
  obtain ⟨_, rfl⟩ := rdi hu; obtain ⟨_, rfl⟩ := rdi hv; exact PySem.Flt.div_ii_fits hA.handled ha (fun h => absurd h hb) fun _ _ => k _ Z _ (Step.toks I _) (.flt _ _)
theorem op_eq_int : OP2 C n (compareOp .Eq) (is (.int a)) (is (.int b)) (is (.bool (a == b))) := fun A s Z u v Q E hA I hu hv k => by
  obtain ⟨_, rfl⟩ := rdi hu; obtain ⟨_, rfl⟩ := rdi hv; exact PyProof.Rows.eq_int (k _ Z _ (StepX.refl I) (.bool _))
theorem op_ne_int : OP2 C n (compareOp .NotEq) (is (.int a)) (is (.int b)) (is (.bool (a != b))) := fun A s Z u v Q E hA I hu hv k => by
  obtain ⟨_, rfl⟩ := rdi hu; obtain ⟨_, rfl⟩ := rdi hv; exact PyProof.Rows.ne_int (k _ Z _ (StepX.refl I) (.bool _))
theorem op_le_int : OP2 C n (compareOp .LtE) (is (.int a)) (is (.int b)) (is (.bool (decide (a ≤ b)))) := fun A s Z u v Q E hA I hu hv k => by
  obtain ⟨_, rfl⟩ := rdi hu; obtain ⟨_, rfl⟩ := rdi hv; exact PyProof.Rows.le_int (k _ Z _ (StepX.refl I) (.bool _))
theorem op_gt_int : OP2 C n (compareOp .Gt) (is (.int a)) (is (.int b)) (is (.bool (decide (b < a)))) := fun A s Z u v Q E hA I hu hv k => by
  obtain ⟨_, rfl⟩ := rdi hu; obtain ⟨_, rfl⟩ := rdi hv; exact PyProof.Rows.gt_int (k _ Z _ (StepX.refl I) (.bool _))
theorem op_ge_int : OP2 C n (compareOp .GtE) (is (.int a)) (is (.int b)) (is (.bool (decide (b ≤ a)))) := fun A s Z u v Q E hA I hu hv k => by
  obtain ⟨_, rfl⟩ := rdi hu; obtain ⟨_, rfl⟩ := rdi hv; exact PyProof.Rows.ge_int (k _ Z _ (StepX.refl I) (.bool _))
theorem op_add_flt : OP2 C n (binaryOp .Add) (is (.flt x)) (is (.flt y)) (is (.flt (Float64.add x y))) := fun A s Z u v Q E hA I hu hv k => by
  obtain ⟨_, rfl⟩ := rdi hu; obtain ⟨_, rfl⟩ := rdi hv; exact add_float (k _ Z _ (Step.toks I _) (.flt _ _))
theorem op_sub_flt : OP2 C n (binaryOp .Sub) (is (.flt x)) (is (.flt y)) (is (.flt (Float64.sub x y))) := fun A s Z u v Q E hA I hu hv k => by
  obtain ⟨_, rfl⟩ := rdi hu; obtain ⟨_, rfl⟩ := rdi hv; exact sub_float (k _ Z _ (Step.toks I _) (.flt _ _))
theorem op_mul_flt : OP2 C n (binaryOp .Mult) (is (.flt x)) (is (.flt y)) (is (.flt (Float64.mul x y))) := fun A s Z u v Q E hA I hu hv k => by
  obtain ⟨_, rfl⟩ := rdi hu; obtain ⟨_, rfl⟩ := rdi hv; exact mul_float (k _ Z _ (Step.toks I _) (.flt _ _))
theorem op_div_flt (hy : Float64.isZero y = false) : OP2 C n (binaryOp .Div) (is (.flt x)) (is (.flt y)) (is (.flt (Float64.div x y))) := fun A s Z u v Q E hA I hu hv k => by
  obtain ⟨_, rfl⟩ := rdi hu; obtain ⟨_, rfl⟩ := rdi hv; exact truediv_float_or hA.handled (fun h => by rw [hy] at h; cases h) fun _ => k _ Z _ (Step.toks I _) (.flt _ _)
theorem op_mod_flt (hy : Float64.isZero y = false) : OP2 C n (binaryOp .Mod) (is (.flt x)) (is (.flt y)) (is (.flt (Float64.divmod x y).2)) := fun A s Z u v Q E hA I hu hv k => by
  obtain ⟨_, rfl⟩ := rdi hu; obtain ⟨_, rfl⟩ := rdi hv; exact PySem.Flt.mod_ff hA.handled (fun h => by rw [hy] at h; cases h) fun _ => k _ Z _ (Step.toks I _) (.flt _ _)
theorem op_sub_fi (hb : b.natAbs < 2 ^ 1023) : OP2 C n (binaryOp .Sub) (is (.flt x)) (is (.int b)) (is (.flt (Float64.sub x (Float64.ofInt b)))) := fun A s Z u v Q E hA I hu hv k => by
  obtain ⟨_, rfl⟩ := rdi hu; obtain ⟨_, rfl⟩ := rdi hv; exact sub_fi_fits hb (k _ Z _ (Step.toks I _) (.flt _ _))
theorem op_mul_fi (hb : b.natAbs < 2 ^ 1023) : OP2 C n (binaryOp .Mult) (is (.flt x)) (is (.int b)) (is (.flt (Float64.mul x (Float64.ofInt b)))) := fun A s Z u v Q E hA I hu hv k => by
  obtain ⟨_, rfl⟩ := rdi hu; obtain ⟨_, rfl⟩ := rdi hv; exact mul_fi_fits hb (k _ Z _ (Step.toks I _) (.flt _ _))
theorem op_mul_if (hb : b.natAbs < 2 ^ 1023) : OP2 C n (binaryOp .Mult) (is (.int b)) (is (.flt x)) (is (.flt (Float64.mul (Float64.ofInt b) x))) := fun A s Z u v Q E hA I hu hv k => by
  obtain ⟨_, rfl⟩ := rdi hu; obtain ⟨_, rfl⟩ := rdi hv; exact mul_if_fits hb (k _ Z _ (Step.toks I _) (.flt _ _))
theorem op_div_if (hb : Float64.isInf (Float64.ofInt b) = false) (hx : Float64.isZero x = false) : OP2 C n (binaryOp .Div) (is (.int b)) (is (.flt x)) (is (.flt (Float64.div (Float64.ofInt b) x))) := fun A s Z u v Q E hA I hu hv k => by
  obtain ⟨_, rfl⟩ := rdi hu; obtain ⟨_, rfl⟩ := rdi hv; exact AutoFloatOps.truediv_if_2 (by rw [hb]; exact Bool.false_ne_true) (by rw [hx]; exact Bool.false_ne_true) (k _ Z _ (Step.toks I _) (.flt _ _))
noncomputable def ltF (x y : UInt64) : Bool := Float64.cmp x y == some .lt
noncomputable def eqF (x y : UInt64) : Bool := Float64.cmp x y == some .eq
noncomputable def leF (x y : UInt64) : Bool := Float64.cmp x y == some .lt || Float64.cmp x y == some .eq
theorem op_eq_flt : OP2 C n (compareOp .Eq) (is (.flt x)) (is (.flt y)) (is (.bool (eqF x y))) := fun A s Z u v Q E hA I hu hv k => by
  obtain ⟨_, rfl⟩ := rdi hu; obtain ⟨_, rfl⟩ := rdi hv; exact AutoFloatOps.eq_0 (k _ Z _ (StepX.refl I) (.bool _))
theorem op_lt_flt : OP2 C n (compareOp .Lt) (is (.flt x)) (is (.flt y)) (is (.bool (ltF x y))) := fun A s Z u v Q E hA I hu hv k => by
  obtain ⟨_, rfl⟩ := rdi hu; obtain ⟨_, rfl⟩ := rdi hv; exact AutoFloatOps.lt_0 (k _ Z _ (StepX.refl I) (.bool _))
theorem op_le_flt : OP2 C n (compareOp .LtE) (is (.flt x)) (is (.flt y)) (is (.bool (leF x y))) := fun A s Z u v Q E hA I hu hv k => by
  obtain ⟨_, rfl⟩ := rdi hu; obtain ⟨_, rfl⟩ := rdi hv; exact AutoFloatOps.le_0 (k _ Z _ (StepX.refl I) (.bool _))
end
section
variable {C : Cx} {n : Nat} {b c : Bool} {x y : Str} {v : Value}
theorem op_eq_str : OP2 C n (compareOp .Eq) (is (.str x)) (is (.str y)) (is (.bool (x == y))) := fun A s Z u v Q E hA I hu hv k => by
  obtain ⟨_, rfl⟩ := rdi hu; obtain ⟨_, rfl⟩ := rdi hv; exact PyProof.Rows.eq_str (k _ Z _ (StepX.refl I) (.bool _))
theorem op_is_bool : OP2 C n (compareOp .Is) (is (.bool b)) (is (.bool c)) (is (.bool (b == c))) := fun A s Z u v Q E hA I hu hv k => by
  cases hu; cases hv
  refine wpAny_is_plain (by rfl) ?_
  have : (Value.bool b == Value.bool c) = (b == c) := by cases b <;> cases c <;> rfl
  rw [this]; exact k _ Z _ (StepX.refl I) (.bool _)
end
inductive Sat (Z : Fz) : List Value → List Vp → Prop where
  | nil : Sat Z [] []
  | cons {v : Value} {P : Vp} {vs : List Value} {Ps : List Vp} (h : P.at_ Z v) (r : Sat Z vs Ps) : Sat Z (v :: vs) (P :: Ps)
def SatI (Z : Fz) (vs : List Value) : List Vp → Prop
  | [] => vs = []
  | P :: Ps => ∃ v r, vs = v :: r ∧ P.at_ Z v ∧ Sat Z r Ps
theorem sati {Z : Fz} {vs : List Value} {Ps : List Vp} (h : Sat Z vs Ps) : SatI Z vs Ps := by
  cases h with
  | nil => exact rfl
  | cons h r => exact ⟨_, _, rfl, h, r⟩
theorem Sat.length {Z : Fz} {vs : List Value} {Ps : List Vp} (h : Sat Z vs Ps) : vs.length = Ps.length := by
  induction h with
  | nil => rfl
  | cons _ _ ih => exact congrArg (· + 1) ih
theorem Sat.get {Z : Fz} {vs : List Value} {Ps : List Vp} (h : Sat Z vs Ps) (i : Nat) (v : Value) (P : Vp) (e : vs[i]? = some v) (e' : Ps[i]? = some P) : P.at_ Z v := by
  induction h generalizing i with
  | nil => cases e
  | cons h _ ih =>
    cases i with
    | zero => cases e; cases e'; exact h
    | succ i => exact ih i e e'
theorem Sat.le {Z Z' : Fz} (k : Le Z Z') {vs : List Value} {Ps : List Vp} (h : Sat Z vs Ps) : Sat Z' vs Ps := by
  induction h with
  | nil => exact .nil
  | cons h _ ih => exact .cons (Vp.mono _ k h) ih
theorem Sat.rd {Z : Fz} {vs : List Value} {ds : List PV} (h : Sat Z vs (ds.map is)) : RdL Z vs ds := by
  induction ds generalizing vs with
  | nil => have e : vs = [] := sati h; subst e; exact .nil
  | cons d ds ih =>
    obtain ⟨v, r, rfl, hv, h⟩ := sati h
    exact .cons hv (ih h)
theorem Sat.of_rd {Z : Fz} {vs : List Value} {ds : List PV} (h : RdL Z vs ds) : Sat Z vs (ds.map is) := by
  induction ds generalizing vs with
  | nil => have e : vs = [] := rdli h; subst e; exact .nil
  | cons d ds ih =>
    obtain ⟨v, r, rfl, hv, h⟩ := rdli h
    exact .cons hv (ih h)
def EL (C : Cx) (n : Nat) (Φ : Asn C) (t : Sem (List Value)) (Ps : List Vp) : Prop :=
  ∀ (A : Around) (s : Shared) (Z : Fz) (Q : List Value → Shared → Prop) (E : Value → Shared → Prop), Room n A → Inv C Z s → Φ.at_ Z s.heap →
    (∀ vs Z' s', Step C Z s Z' s' → Sat Z' vs Ps → Q vs s') → wpAny (model C.prog C.w) A t Q E s
def IsFn (C : Cx) (f : Addr) : Prop := ∃ o fd, C.Z0 f = some o ∧ o.data = .func fd
section
variable {C : Cx} {n : Nat} {Φ : Asn C} {env : Env} {P R : Vp} {Ps : List Vp} {e : Expr} {es args : List Expr} {pos p : Pos}
theorem el_nil : EL C n Φ (spliced (backTo pos (starEach [] env))) [] := fun A s Z Q E hA I H k => args_nil (k [] Z s (StepX.refl I) .nil)
theorem el_cons (h1 : EV C n Φ (eval e env) P) (h2 : EL C n Φ (spliced (backTo pos (starEach es env))) Ps) (he : starEach (e :: es) env = (false, eval e env) :: starEach es env := by rfl) :
    EL C n Φ (spliced (backTo pos (starEach (e :: es) env))) (P :: Ps) := fun A s Z Q E hA I H k => by
  refine args_cons (h1 A s Z _ E hA I H fun v Z₁ s₁ x₁ pv => ?_) he
  exact h2 A s₁ Z₁ _ E hA x₁.inv (Φ.stable I H x₁) fun vs Z₂ s₂ x₂ hs => k _ Z₂ s₂ (x₁.trans x₂) (.cons (P.mono x₂.le pv) hs)
theorem ev_call {x : Str} {f : Addr} (hf : EV C n Φ (eval (.Name x p) env) (isv (.ref f))) (hfn : IsFn C f) (ha : EL C n Φ (spliced (backTo pos (starEach (e :: es) env))) Ps) (hc : FN C n (.ref f) Ps R)
    (he : starEach (e :: es) env = (false, eval e env) :: starEach es env := by rfl) : EV C n Φ (eval (.Call (.Name x p) (e :: es) [] pos) env) R := fun A s Z Q E hA I H k => by
  refine wpAny_Call_NameR (hf A s Z _ E hA I H fun v Z₁ s₁ x₁ pv => ?_)
  cases pv
  obtain ⟨o, fd, ho, hd⟩ := hfn
  refine callWith_def hd (ha A s₁ Z₁ _ E hA x₁.inv (Φ.stable I H x₁) fun vs Z₂ s₂ x₂ hs => ⟨x₂.inv.heap _ _ (x₂.inv.base _ _ ho), ?_⟩) he
  exact hc A s₂ Z₂ vs Q E hA x₂.inv hs.length hs.get fun v Z₃ s₃ x₃ pv => k v Z₃ s₃ ((x₁.trans x₂).trans x₃) pv
theorem ev_callB {x : Str} {id : String} (hf : EV C n Φ (eval (.Name x p) env) (isv (.builtin id))) (ha : EL C n Φ (spliced (backTo pos (starEach (e :: es) env))) Ps) (hc : FN C n (.builtin id) Ps R)
    (he : starEach (e :: es) env = (false, eval e env) :: starEach es env := by rfl) (hp : (backTo pos (starEach es env)).any (·.1) = false := by rfl) :
    EV C n Φ (eval (.Call (.Name x p) (e :: es) [] pos) env) R := fun A s Z Q E hA I H k => by
  refine wpAny_Call_NameR (hf A s Z _ E hA I H fun v Z₁ s₁ x₁ pv => ?_)
  cases pv
  refine callWith_builtin1 (ha A s₁ Z₁ _ E hA x₁.inv (Φ.stable I H x₁) fun vs Z₂ s₂ x₂ hs => ?_) he hp
  exact hc A s₂ Z₂ vs Q E hA x₂.inv hs.length hs.get fun v Z₃ s₃ x₃ pv => k v Z₃ s₃ ((x₁.trans x₂).trans x₃) pv
theorem ev_callT {x : Str} {id : String} (hf : EV C n Φ (eval (.Name x p) env) (isv (.type id))) (ha : EL C n Φ (spliced (backTo pos (starEach (e :: es) env))) Ps) (hc : FN C n (.type id) Ps R)
    (he : starEach (e :: es) env = (false, eval e env) :: starEach es env := by rfl) (hp : (backTo pos (starEach es env)).any (·.1) = false := by rfl) :
    EV C n Φ (eval (.Call (.Name x p) (e :: es) [] pos) env) R := fun A s Z Q E hA I H k => by
  refine wpAny_Call_NameR (hf A s Z _ E hA I H fun v Z₁ s₁ x₁ pv => ?_)
  cases pv
  refine callWith_type1 (ha A s₁ Z₁ _ E hA x₁.inv (Φ.stable I H x₁) fun vs Z₂ s₂ x₂ hs => ?_) he hp
  exact hc A s₂ Z₂ vs Q E hA x₂.inv hs.length hs.get fun v Z₃ s₃ x₃ pv => k v Z₃ s₃ ((x₁.trans x₂).trans x₃) pv
theorem ev_list {ds : List PV} (h : EL C n Φ (spliced (backTo pos (starEach es env))) (ds.map is)) (hsz : ds.length ≤ sizeLine) : EV C n Φ (eval (.List es pos) env) (is (.list ds)) := fun A s Z Q E hA I H k => by
  refine List_ (h A s Z _ E hA I H fun vs Z₁ s₁ x₁ hs => ?_)
  have hl : vs.length = ds.length := by rw [hs.length, List.length_map]
  refine wpAny_newObj_type ?_ (by show vs.toArray.size ≤ sizeLine; rw [List.size_toArray, hl]; exact hsz)
  have st := StepX.alloc (X := No) x₁.inv (o := { cls := .type "list", data := .seq vs.toArray }) (t := s₁.toks) rfl
  exact k _ _ _ (x₁.trans st) (.list (n := 0) (put_self (Z := Z₁)) (hs.rd.le st.le))
theorem ev_tup {ds : List PV} {kk : Nat} (h : EL C n Φ (spliced (backTo pos (starEach es env))) (ds.map is)) (hsz : ds.length ≤ sizeLine) : EV C n Φ (eval (.Tuple es kk pos) env) (is (.tup ds)) := fun A s Z Q E hA I H k => by
  refine Tuple_ (h A s Z _ E hA I H fun vs Z₁ s₁ x₁ hs => ?_)
  have hl : vs.length = ds.length := by rw [hs.length, List.length_map]
  refine wpAny_newObj_type ?_ (by show vs.toArray.size ≤ sizeLine; rw [List.size_toArray, hl]; exact hsz)
  have st := StepX.alloc (X := No) x₁.inv (o := { cls := .type "tuple", data := .seq vs.toArray }) (t := s₁.toks) rfl
  exact k _ _ _ (x₁.trans st) (.tup (n := 0) (put_self (Z := Z₁)) (hs.rd.le st.le))
theorem ev_sub {v sl : Expr} {Pv Pi : Vp} (hv : EV C n Φ (eval v env) Pv) (hi : EV C n Φ (eval sl env) Pi) (ho : OP2 C n (subscriptTail v sl) Pv Pi R) : EV C n Φ (eval (.Subscript v sl pos) env) R := fun A s Z Q E hA I H k => by
  refine Subscript_ (hv A s Z _ E hA I H fun a Z₁ s₁ x₁ pa => ?_)
  refine hi A s₁ Z₁ _ E hA x₁.inv (Φ.stable I H x₁) fun b Z₂ s₂ x₂ pb => ?_
  exact ho A s₂ Z₂ a b Q E hA x₂.inv (Pv.mono x₂.le pa) pb fun r Z₃ s₃ x₃ pr => k r Z₃ s₃ ((x₁.trans x₂).trans x₃) pr
theorem isList_of {Z : Fz} {s : Shared} (I : Inv C Z s) {a : Addr} {m : Nat} {vs : List Value} (h : Z a = some { cls := .type "list", data := .seq vs.toArray m }) : s.heap.IsList a vs.toArray :=
  ⟨_, I.heap _ _ h, rfl, m, rfl⟩
theorem isTup_of {Z : Fz} {s : Shared} (I : Inv C Z s) {a : Addr} {m : Nat} {vs : List Value} (h : Z a = some { cls := .type "tuple", data := .seq vs.toArray m }) : IsTup s.heap a vs.toArray :=
  ⟨_, I.heap _ _ h, rfl, m, rfl⟩
theorem op_item_list {v sl : Expr} {ds : List PV} {i : Int} {j : Nat} {d : PV} (hj : seqIndex? i ds.length = some j) (hd : ds[j]? = some d) (hsz : ds.length < 2 ^ 62)
    (hs : ∀ o i, subscripted sl false o i = operate [o, i] (getItem o i) := by intro _ _; rfl) : OP2 C n (subscriptTail v sl) (is (.list ds)) (is (.int i)) (is d) := fun A s Z u w Q E hA I hu hw k => by
  obtain ⟨_, _, _, rfl, h, r⟩ := rdi hu
  obtain ⟨_, rfl⟩ := rdi hw
  rename_i m vs t
  obtain ⟨x, ex, px⟩ := r.get hd
  have hl := isList_of I h
  have len := r.length
  have sz : vs.toArray.size = ds.length := by rw [List.size_toArray, len]
  unfold seqIndex? at hj
  refine tail_any hl.typeIs slot_list_getitem.lookup ?_ (hs _ _)
  by_cases h0 : i < 0
  · simp only [h0, if_true] at hj
    split at hj
    · rename_i hb
      simp only [Bool.and_eq_true, decide_eq_true_eq] at hb
      cases hj
      exact wpAny_getItem_list_neg hl h0 (by rw [sz]; lia) (by lia) (by rw [sz]; simpa using ex) (k x Z s (StepX.refl I) px)
    · cases hj
  · simp only [h0, if_false] at hj
    split at hj
    · rename_i hb
      simp only [Bool.and_eq_true, decide_eq_true_eq] at hb
      cases hj
      exact wpAny_getItem_list hl (by lia) (by lia) (by simpa using ex) (k x Z s (StepX.refl I) px)
    · cases hj
theorem op_item_tup {v sl : Expr} {ds : List PV} {i : Int} {j : Nat} {d : PV} (hj : seqIndex? i ds.length = some j) (hd : ds[j]? = some d) (hlo : -(2 ^ 63) ≤ i) (hhi : i < 2 ^ 63)
    (hs : ∀ o i, subscripted sl false o i = operate [o, i] (getItem o i) := by intro _ _; rfl) : OP2 C n (subscriptTail v sl) (is (.tup ds)) (is (.int i)) (is d) := fun A s Z u w Q E hA I hu hw k => by
  obtain ⟨_, _, _, rfl, h, r⟩ := rdi hu
  obtain ⟨_, rfl⟩ := rdi hw
  obtain ⟨x, ex, px⟩ := r.get hd
  exact item_tupleT (isTup_of I h) hlo hhi (by rw [r.length]; exact hj) ex (k x Z s (StepX.refl I) px) (hs _ _)
theorem fn_len_list {ds : List PV} (hsz : ds.length < 2 ^ 62) : FN C n (.builtin "len") [is (.list ds)] (is (.int ds.length)) := fn1 fun A s Z v Q E hA I h k => by
  obtain ⟨_, _, _, rfl, h, r⟩ := rdi h
  have e := r.length
  refine Calls.call_len_list (isList_of I h) (by rw [List.size_toArray, e]; lia) ?_
  rw [List.size_toArray, e]
  exact k _ Z _ (Step.toks I _) (.int _ _)
theorem fn_len_str {x : Str} (hsz : x.length < 2 ^ 62) : FN C n (.builtin "len") [is (.str x)] (is (.int x.length)) := fn1 fun A s Z v Q E hA I h k => by
  cases h with
  | str => exact P.len_str (by lia) (k _ Z _ (Step.toks I _) (.int _ _))
end
def GlobZ (C : Cx) (x : Str) (v : Value) : Prop := ∀ h : Heap, (∀ b o, C.Z0 b = some o → h.get? b = some o) → ∃ mg, h.Ns mainGlobals mg ∧ mg x = some v
def BltZ (C : Cx) (x : Str) (v : Value) : Prop := ∀ h : Heap, (∀ b o, C.Z0 b = some o → h.get? b = some o) → ∃ mg mb, h.Ns mainGlobals mg ∧ mg x = none ∧ h.Ns builtinsNs mb ∧ mb x = some v
section
variable {C : Cx} {n : Nat} {X : Addr → Prop} {Φ Ψ Θ : Asn C} {R P : Vp} {env : Env} {nm oc : List Str} {sc : List (Str × NameKind)} {st : Stmt} {rest b o : List Stmt} {pos : Pos} {ρ ρ' : List (Option Vp)} {ω : List (Addr × List PV)} {κ : Addr → Option Obj}
theorem ev_glob {x : Str} {v : Value} (hg : GlobZ C x v) (hk : sc.lookup x = some .globalImplicit) (hd : (x == ("__debug__" : Str)) = false) :
    EV C n (FS C env nm oc sc X ρ ω κ) (eval (.Name x pos) env) (isv v) := fun A s Z Q E hA I H k => by
  obtain ⟨mg, hn, hv⟩ := hg s.heap fun b o e => I.heap _ _ (I.base _ _ e)
  exact Calls.Name_function_global H.fn (by rw [← hk, ← H.names]; rfl) (Calls.loadGlobal_global (by rw [H.gl]; exact hn) hv (k v Z s (StepX.refl I) rfl)) hd
theorem ev_blt {x : Str} {v : Value} (hg : BltZ C x v) (hk : sc.lookup x = some .globalImplicit) (hd : (x == ("__debug__" : Str)) = false) :
    EV C n (FS C env nm oc sc X ρ ω κ) (eval (.Name x pos) env) (isv v) := fun A s Z Q E hA I H k => by
  obtain ⟨mg, mb, hn, hm, hnb, hv⟩ := hg s.heap fun b o e => I.heap _ _ (I.base _ _ e)
  exact Calls.Name_function_global H.fn (by rw [← hk, ← H.names]; rfl) (Calls.loadGlobal_builtin (by rw [H.gl]; exact hn) hm (by rw [H.bl]; exact hnb) hv (k v Z s (StepX.refl I) rfl)) hd
theorem ev_conv {t : Sem Value} (h : EV C n Φ t P) (e : ∀ {Z v}, P.at_ Z v → R.at_ Z v) : EV C n Φ t R := fun A s Z Q E hA I H k => h A s Z Q E hA I H fun v Z' s' x p => k v Z' s' x (e p)
theorem ev_d {t : Sem Value} {d d' : PV} (h : EV C n Φ t (is d)) (e : d = d') : EV C n Φ t (is d') := e ▸ h
theorem tv_eq {t : Sem Bool} {b c : Bool} (h : TV C n Φ t b) (e : b = c) : TV C n Φ t c := e ▸ h
theorem execs_append (b rest : List Stmt) (env : Env) : execs (b ++ rest) env = (execs b env >>= fun f => match f with | .next => execs rest env | f => pure f) := by
  induction b with
  | nil => rfl
  | cons st b ih =>
    have e1 : execs (st :: (b ++ rest)) env = (exec st env >>= fun f => match f with | .next => execs (b ++ rest) env | f => pure f) := rfl
    have e2 : execs (st :: b) env = (exec st env >>= fun f => match f with | .next => execs b env | f => pure f) := rfl
    rw [List.cons_append, e1, e2, ih]
    show Sem.bind _ _ = Sem.bind (Sem.bind _ _) _
    rw [Sem.bind_assoc]
    congr 1
    funext f
    cases f <;> rfl
theorem execs_if {t : Expr} (b o rest : List Stmt) (pos : Pos) : execs (.If t b o pos :: rest) env =
    (standAt pos >>= fun _ => isTrue t env (eval t env) >>= fun c => if c = true then execs (b ++ rest) env else execs (o ++ rest) env) := by
  have e1 : execs (.If t b o pos :: rest) env = (exec (.If t b o pos) env >>= fun f => match f with | .next => execs rest env | f => pure f) := rfl
  rw [e1, exec_If]
  show Sem.bind (Sem.bind _ _) _ = Sem.bind _ _
  rw [Sem.bind_assoc]
  congr 1
  funext _
  show Sem.bind (Sem.bind _ _) _ = Sem.bind _ _
  rw [Sem.bind_assoc]
  congr 1
  funext c
  cases c <;> simp only [execs_append, Bool.false_eq_true, if_false, if_true] <;> rfl
theorem ex_ifs {t : Expr} {c : Bool} (ht : TV C n Φ (isTrue t env (eval t env)) c) (hb : c = true → EX C n X Φ (execs (b ++ rest) env) Ψ R) (ho : c = false → EX C n X Φ (execs (o ++ rest) env) Ψ R) :
    EX C n X Φ (execs (.If t b o pos :: rest) env) Ψ R := fun A s Z Q E hA I H k kr => by
  rw [execs_if]
  refine wpAny_bind (wpAny_standAt (wpAny_bind (ht A s Z _ E hA I H fun Z₁ s₁ x₁ => ?_)))
  cases c with
  | true => exact hb rfl A s₁ Z₁ Q E hA x₁.inv (Φ.stable I H x₁) (fun Z₂ s₂ x₂ H₂ => k Z₂ s₂ (x₁.to.trans x₂) H₂) fun v Z₂ s₂ x₂ r => kr v Z₂ s₂ (x₁.to.trans x₂) r
  | false => exact ho rfl A s₁ Z₁ Q E hA x₁.inv (Φ.stable I H x₁) (fun Z₂ s₂ x₂ H₂ => k Z₂ s₂ (x₁.to.trans x₂) H₂) fun v Z₂ s₂ x₂ r => kr v Z₂ s₂ (x₁.to.trans x₂) r
end
inductive Bds (nm oc : List Str) (sc : List (Str × NameKind)) : List Expr → List Vp → List (Option Vp) → List (Option Vp) → Prop where
  | nil {ρ : List (Option Vp)} : Bds nm oc sc [] [] ρ ρ
  | cons {x : Str} {p : Pos} {ts : List Expr} {P : Vp} {Ps : List Vp} {ρ ρ₁ ρ₂ : List (Option Vp)} (u : Upd nm ρ x (some P) ρ₁) (pl : PlainName x) (k : canSt sc oc x = true) (r : Bds nm oc sc ts Ps ρ₁ ρ₂) :
      Bds nm oc sc (.Name x p :: ts) (P :: Ps) ρ ρ₂
inductive Bdn (nm oc : List Str) (sc : List (Str × NameKind)) : List Str → List Vp → List (Option Vp) → List (Option Vp) → Prop where
  | nil {ρ : List (Option Vp)} : Bdn nm oc sc [] [] ρ ρ
  | cons {x : Str} {ts : List Str} {P : Vp} {Ps : List Vp} {ρ ρ₁ ρ₂ : List (Option Vp)} (u : Upd nm ρ x (some P) ρ₁) (pl : PlainName x) (k : canSt sc oc x = true) (r : Bdn nm oc sc ts Ps ρ₁ ρ₂) :
      Bdn nm oc sc (x :: ts) (P :: Ps) ρ ρ₂
inductive Tgt (nm oc : List Str) (sc : List (Str × NameKind)) : Expr → PV → List (Option Vp) → List (Option Vp) → Prop where
  | name {x : Str} {p : Pos} {d : PV} {ρ ρ' : List (Option Vp)} (u : Upd nm ρ x (some (is d)) ρ') (pl : PlainName x) (k : canSt sc oc x = true) : Tgt nm oc sc (.Name x p) d ρ ρ'
  | tup {ts : List Expr} {kk : Nat} {p : Pos} {ds : List PV} {ρ ρ' : List (Option Vp)} (r : Bds nm oc sc ts (ds.map is) ρ ρ') : Tgt nm oc sc (.Tuple ts kk p) (.tup ds) ρ ρ'
  | lst {ts : List Expr} {kk : Nat} {p : Pos} {ds : List PV} {ρ ρ' : List (Option Vp)} (r : Bds nm oc sc ts (ds.map is) ρ ρ') : Tgt nm oc sc (.Tuple ts kk p) (.list ds) ρ ρ'
inductive Itm : Expr → PV → Fz → Heap → Value → Prop where
  | plain {t : Expr} {d : PV} {Z : Fz} {h : Heap} {v : Value} (r : Rd Z v d) : Itm t d Z h v
  | tupv {ts : List Expr} {kk : Nat} {p : Pos} {ds : List PV} {Z : Fz} {h : Heap} {T : Addr} {vals : Array Value} (t : IsTup h T vals) (r : RdL Z vals.toList ds) : Itm (.Tuple ts kk p) (.tup ds) Z h (.ref T)
section
variable {C : Cx} {n : Nat} {X : Addr → Prop} {Z Z' : Fz} {s s' : Shared} {env : Env} {nm oc : List Str} {sc : List (Str × NameKind)} {ω : List (Addr × List PV)} {κ : Addr → Option Obj} {A : Around} {E : Value → Shared → Prop} {Q : Unit → Shared → Prop}
theorem st_all (M : Model) {ts : List Expr} {Ps : List Vp} {ρ ρ' : List (Option Vp)} (B : Bds nm oc sc ts Ps ρ ρ') : ∀ {vs : List Value} {s : Shared}, Inv C Z s → FSp env nm oc sc X ρ ω κ Z s.heap → Sat Z vs Ps →
    (∀ s', StepX C X Z s Z s' → FSp env nm oc sc X ρ' ω κ Z s'.heap → Q () s') → wpAny M A (assignInOrder ((assignEach ts env).map (·.2)) vs) Q E s := by
  induction B with
  | nil =>
    intro vs s I H hs k
    obtain rfl := sati hs
    exact wpAny_pure (k s (StepX.refl I) H)
  | cons u pl kk r ih =>
    rename_i x p ts P Ps ρ ρ₁ ρ₂
    intro vs s I H hs k
    obtain ⟨_, _, rfl, hp, hr⟩ := sati hs
    rename_i v vs
    show wpAny M A (do holding vs (assign (.Name x p) env v); assignInOrder ((assignEach ts env).map (·.2)) vs) Q E s
    refine wpAny_bind (wpAny_holding (assign_Name (st_name I H hp u pl kk fun s' x' H' => ?_)))
    exact ih x'.inv H' hr fun s'' x'' H'' => k s'' (x'.trans x'') H''
theorem st_alln (M : Model) {ts : List Str} {Ps : List Vp} {ρ ρ' : List (Option Vp)} (B : Bdn nm oc sc ts Ps ρ ρ') : ∀ {vs : List Value} {s : Shared}, Inv C Z s → FSp env nm oc sc X ρ ω κ Z s.heap → Sat Z vs Ps →
    (∀ s', StepX C X Z s Z s' → FSp env nm oc sc X ρ' ω κ Z s'.heap → Q () s') → wpAny M A (assignInOrder (ts.map fun x => bindName env x) vs) Q E s := by
  induction B with
  | nil =>
    intro vs s I H hs k
    obtain rfl := sati hs
    exact wpAny_pure (k s (StepX.refl I) H)
  | cons u pl kk r ih =>
    rename_i x ts P Ps ρ ρ₁ ρ₂
    intro vs s I H hs k
    obtain ⟨_, _, rfl, hp, hr⟩ := sati hs
    rename_i v vs
    show wpAny M A (do holding vs (bindName env x v); assignInOrder (ts.map fun x => bindName env x) vs) Q E s
    refine wpAny_bind (wpAny_holding (bindName_ (st_name I H hp u pl kk fun s' x' H' => ?_)))
    exact ih x'.inv H' hr fun s'' x'' H'' => k s'' (x'.trans x'') H''
theorem Sat.app {Z : Fz} {vs vs' : List Value} {Ps Ps' : List Vp} (h : Sat Z vs Ps) (y : Sat Z vs' Ps') : Sat Z (vs ++ vs') (Ps ++ Ps') := by
  induction h with
  | nil => exact y
  | cons h _ ih => exact .cons h ih
theorem Sat.rev {Z : Fz} {vs : List Value} {Ps : List Vp} (h : Sat Z vs Ps) : Sat Z vs.reverse Ps.reverse := by
  induction h with
  | nil => exact .nil
  | cons h _ ih => rw [List.reverse_cons, List.reverse_cons]; exact ih.app (.cons h .nil)
theorem Bds.length {ts : List Expr} {Ps : List Vp} {ρ ρ' : List (Option Vp)} (B : Bds nm oc sc ts Ps ρ ρ') (env : Env) : (assignEach ts env).length = Ps.length ∧ (assignEach ts env).findIdx? (·.1) = none := by
  induction B with
  | nil => exact ⟨rfl, rfl⟩
  | @cons x p ts _ _ _ _ _ u pl kk r ih =>
    refine ⟨congrArg (· + 1) ih.1, ?_⟩
    show List.findIdx? (·.1) ((false, assign (.Name x p) env) :: assignEach ts env) = none
    rw [List.findIdx?_cons, ih.2]; rfl
theorem Bdn.length {ts : List Str} {Ps : List Vp} {ρ ρ' : List (Option Vp)} (B : Bdn nm oc sc ts Ps ρ ρ') : ts.length = Ps.length := by
  induction B with
  | nil => rfl
  | cons _ _ _ _ ih => exact congrArg (· + 1) ih
theorem asg {t : Expr} {d : PV} {v : Value} {ρ ρ' : List (Option Vp)} (T : Tgt nm oc sc t d ρ ρ') (i : Itm t d Z s.heap v) (hA : A.handled = none) (I : Inv C Z s) (H : FSp env nm oc sc X ρ ω κ Z s.heap)
    (k : ∀ s', StepX C X Z s Z s' → FSp env nm oc sc X ρ' ω κ Z s'.heap → Q () s') : wpAny (model C.prog C.w) A (assign t env v) Q E s := by
  have mk : ∀ {h' : Heap}, Heap.ExtBut s.heap.objs.size s.heap h' → Step C Z s Z { s with heap := h' } := fun he =>
    .keeps (t := s.toks) I fun b o e => he b o (Nat.ne_of_lt (Heap.lt_size e)) e
  cases T with
  | name u pl kk =>
    cases i with
    | plain r => exact assign_Name (st_name I H r u pl kk k)
  | tup r =>
    rename_i ts kk p ds
    have go : ∀ {T : Addr} {vals : Array Value}, IsTup s.heap T vals → RdL Z vals.toList ds → wpAny (model C.prog C.w) A (assign (.Tuple ts kk p) env (.ref T)) Q E s := fun {T vals} ht hr => by
      have l := r.length env
      refine assign_Tuple_tuple hA ht (by rw [l.1, List.length_map, ← hr.length, Array.length_toList]) l.2 fun h' he => ?_
      have st := mk he
      exact st_all _ r st.inv ((FS C env nm oc sc X ρ ω κ).stable I H st) (Sat.of_rd hr) fun s'' x H'' => k s'' (st.to.trans x) H''
    cases i with
    | plain r' =>
      cases r' with
      | tup h hr => exact go ⟨_, I.heap _ _ h, rfl, _, rfl⟩ hr
    | tupv ht hr => exact go ht hr
  | lst r =>
    rename_i ts kk p ds
    cases i with
    | plain r' =>
      obtain ⟨_, _, _, rfl, h, hr⟩ := rdi r'
      have l := r.length env
      rename_i a m vs
      have hl := isList_of I h
      rw [assign_Tuple]
      refine wpAny_bind (wpAny_standAt ?_)
      unfold unpack
      rw [l.2, show (assignEach ts env).length = vs.toArray.size by rw [l.1, List.length_map, ← hr.length, List.size_toArray]]
      refine wpAny_bind (wpAny_holding (kun_itemsOf hA hl fun h' he => ?_))
      have st := mk he
      exact st_all _ r st.inv ((FS C env nm oc sc X ρ ω κ).stable I H st) (Sat.of_rd hr) fun s'' x H'' => k s'' (st.to.trans x) H''
theorem ex_asgT {t : Expr} {ts : List Expr} {kk : Nat} {p pos : Pos} {R : Vp} {d : PV} {ρ ρ' : List (Option Vp)} {e : Expr} (he : EV C n (FS C env nm oc sc X ρ ω κ) (eval e env) (is d)) (T : Tgt nm oc sc (.Tuple ts kk p) d ρ ρ')
    (hs : swapsWithSole [.Tuple ts kk p] e pos.line env = pure false) (hw : swappedStores [.Tuple ts kk p] e env = pure none) :
    EX C n X (FS C env nm oc sc X ρ ω κ) (exec (.Assign [.Tuple ts kk p] e pos) env) (FS C env nm oc sc X ρ' ω κ) R := fun A s Z Q E hA I H k kr => by
  refine PyProof.Rows.Assign_Tuple (he A s Z _ E hA I H fun v Z₁ s₁ x₁ pv => ?_) hs hw
  exact asg T (.plain pv) hA.handled x₁.inv ((FS C env nm oc sc X ρ ω κ).stable I H x₁) fun s' x' H' => k Z₁ s' (x₁.to.trans x') H'
def EVN (C : Cx) (n : Nat) (Φ : Asn C) (t : Sem Value) (mk : Addr → Vp) (ds : List PV) : Prop :=
  ∀ (A : Around) (s : Shared) (Z : Fz) (Q : Value → Shared → Prop) (E : Value → Shared → Prop), Room n A → Inv C Z s → Φ.at_ Z s.heap →
    (∀ a v Z' s', Step C Z s Z' s' → s.heap.get? a = none → Owned Z' s'.heap (a, ds) → (mk a).at_ Z' v → Q v s') → wpAny (model C.prog C.w) A t Q E s
theorem FSp.owns {ρ : List (Option Vp)} {a : Addr} {ds : List PV} (H : FSp env nm oc sc X ρ ω κ Z s.heap) (I : Inv C Z s) (x : Step C Z s Z' s') (hf : s.heap.get? a = none) (ho : Owned Z' s'.heap (a, ds)) :
    FSp env nm oc sc X ρ ((a, ds) :: ω) κ Z' s'.heap := by
  have H' := (FS C env nm oc sc X ρ ω κ).stable I H x
  have hne : ∀ b o, s.heap.get? b = some o → a ≠ b := fun b o e q => by rw [← q, hf] at e; cases e
  refine ⟨H'.names, H'.gl, H'.bl, H'.cellH, H'.fn, H'.nodup, H'.apart, H'.loc, H'.locX, H'.locZ, H'.cells, H'.cellX, H'.cof, H'.vars, fun p hp => ?_, fun p hp => ?_, ?_, fun b o e => ?_, H'.heldX⟩
  · rcases List.mem_cons.mp hp with rfl | hp
    · exact ho
    · exact H'.own p hp
  · rcases List.mem_cons.mp hp with rfl | hp
    · exact H.cof a hf
    · exact H'.ownX p hp
  · refine List.nodup_cons.mpr ⟨fun hm => ?_, H.ownN⟩
    obtain ⟨p, hp, q⟩ := List.mem_map.mp hm
    obtain ⟨_, vs, m, e, _⟩ := H.own p hp
    exact hne _ _ e q.symm
  · obtain ⟨hz, ha, ht, hl, hc, hw⟩ := H'.held b o e
    refine ⟨hz, ha, ht, hl, hc, fun p hp => ?_⟩
    rcases List.mem_cons.mp hp with rfl | hp
    · exact fun q => hne _ _ (H.held b o e).at_ q.symm
    · exact hw p hp
theorem evn_list {ρ : List (Option Vp)} {es : List Expr} {pos : Pos} {ds : List PV} {Φ : Asn C} (h : EL C n Φ (spliced (backTo pos (starEach es env))) (ds.map is)) (hsz : ds.length ≤ sizeLine) : EVN C n Φ (eval (.List es pos) env) (fun a => isv (.ref a)) ds :=
  fun A s Z Q E hA I H k => by
  refine List_ (h A s Z _ E hA I H fun vs Z₁ s₁ x₁ hs => ?_)
  have hl : vs.length = ds.length := by rw [hs.length, List.length_map]
  refine wpAny_newObj_type ?_ (by show vs.toArray.size ≤ sizeLine; rw [List.size_toArray, hl]; exact hsz)
  have hf := gAb (Nat.le_refl s₁.heap.objs.size)
  exact k _ _ _ _ (x₁.trans (StepX.push x₁.inv (t := s₁.toks))) ((x₁.gone hf).elim id fun q => q.elim) ⟨x₁.inv.fresh hf, vs, 0, Heap.get?_push_size _ rfl, hs.rd⟩ rfl
theorem ex_new {R : Vp} {ρ ρ' : Addr → List (Option Vp)} {ρ₀ : List (Option Vp)} {x : Str} {xp pos : Pos} {e : Expr} {mk : Addr → Vp} {ds : List PV} {rest : List Stmt} {Ψ : Asn C} (he : EVN C n (FS C env nm oc sc X ρ₀ ω κ) (eval e env) mk ds)
    (hu : ∀ a, Upd nm ρ₀ x (some (mk a)) (ρ' a)) (pl : PlainName x) (hk : canSt sc oc x = true) (hs : swapsWith e (some (.Name x xp)) pos.line env = pure false)
    (k : ∀ a, EX C n X (FS C env nm oc sc X (ρ' a) ((a, ds) :: ω) κ) (execs rest env) Ψ R) : EX C n X (FS C env nm oc sc X ρ₀ ω κ) (execs (.Assign [.Name x xp] e pos :: rest) env) Ψ R := fun A s Z Q E hA I H kn kr => by
  refine wpAny_execs_cons (wpAny_Assign_Name (he A s Z _ E hA I H fun a v Z₁ s₁ x₁ hf ho pv => ?_) hs)
  refine st_name x₁.inv (H.owns I x₁ hf ho) pv (hu a) pl hk fun s₂ x₂ H₂ => ?_
  have x₁₂ := (x₁.to (X := X)).trans x₂
  exact k a A s₂ Z₁ Q E hA x₂.inv H₂ (fun Z₃ s₃ x₃ H₃ => kn Z₃ s₃ (x₁₂.trans x₃) H₃) fun v Z₃ s₃ x₃ r => kr v Z₃ s₃ (x₁₂.trans x₃) r
inductive TupK (C : Cx) (n : Nat) (X : Addr → Prop) (env : Env) (nm oc : List Str) (sc : List (Str × NameKind)) (ρ : List (Option Vp)) (κ : Addr → Option Obj) (fin : List Vp → List (Addr × List PV) → Prop) : List Expr → List Vp → List (Addr × List PV) → Prop where
  | nil {Ps : List Vp} {ω : List (Addr × List PV)} (h : fin Ps ω) : TupK C n X env nm oc sc ρ κ fin [] Ps ω
  | val {e : Expr} {es : List Expr} {P : Vp} {Ps : List Vp} {ω : List (Addr × List PV)} (h : EV C n (FS C env nm oc sc X ρ ω κ) (eval e env) P) (k : TupK C n X env nm oc sc ρ κ fin es (Ps ++ [P]) ω)
      (he : starEach (e :: es) env = (false, eval e env) :: starEach es env := by rfl) : TupK C n X env nm oc sc ρ κ fin (e :: es) Ps ω
  | own {e : Expr} {es : List Expr} {Ps : List Vp} {ω : List (Addr × List PV)} {mk : Addr → Vp} {ds : List PV} (h : EVN C n (FS C env nm oc sc X ρ ω κ) (eval e env) mk ds) (k : ∀ a, TupK C n X env nm oc sc ρ κ fin es (Ps ++ [mk a]) ((a, ds) :: ω))
      (he : starEach (e :: es) env = (false, eval e env) :: starEach es env := by rfl) : TupK C n X env nm oc sc ρ κ fin (e :: es) Ps ω
theorem tupK_run {ρ : List (Option Vp)} {pos : Pos} {fin : List Vp → List (Addr × List PV) → Prop} {Q : List Value → Shared → Prop} {s₀ : Shared} {Z₀ : Fz} {es : List Expr} {Ps : List Vp} {ω : List (Addr × List PV)} (T : TupK C n X env nm oc sc ρ κ fin es Ps ω)
    {A : Around} {s : Shared} {Z : Fz} {done : List Value} (hA : Room n A) (x : Step C Z₀ s₀ Z s) (H : FSp env nm oc sc X ρ ω κ Z s.heap) (hs : Sat Z done Ps)
    (k : ∀ vs Ps' ω' Z' s', Step C Z₀ s₀ Z' s' → FSp env nm oc sc X ρ ω' κ Z' s'.heap → Sat Z' (done ++ vs) Ps' → fin Ps' ω' → vs.length = es.length → Q vs s') : wpAny (model C.prog C.w) A (spliced (backTo pos (starEach es env))) Q E s := by
  induction T generalizing s Z done Q with
  | nil h => exact args_nil (k [] _ _ Z s x H (by rw [List.append_nil]; exact hs) h rfl)
  | val h kk he ih =>
    refine args_cons (h A s Z _ E hA x.inv H fun v Z₁ s₁ x₁ pv => ?_) he
    refine ih (done := done ++ [v]) (x.trans x₁) ((FS C env nm oc sc X ρ _ κ).stable x.inv H x₁) ((hs.le x₁.le).app (.cons pv .nil)) fun vs Ps' ω' Z' s' x' H' hs' hf hl => k _ Ps' ω' Z' s' x' H' ?_ hf (congrArg (· + 1) hl)
    rw [List.append_assoc] at hs'; exact hs'
  | own h kk he ih =>
    refine args_cons (h A s Z _ E hA x.inv H fun a v Z₁ s₁ x₁ hf ho pv => ?_) he
    refine ih a (done := done ++ [v]) (x.trans x₁) (H.owns x.inv x₁ hf ho) ((hs.le x₁.le).app (.cons pv .nil)) fun vs Ps' ω' Z' s' x' H' hs' hf hl => k _ Ps' ω' Z' s' x' H' ?_ hf (congrArg (· + 1) hl)
    rw [List.append_assoc] at hs'; exact hs'
theorem tupK_eval {ρ : List (Option Vp)} {pos : Pos} {kk : Nat} {fin : List Vp → List (Addr × List PV) → Prop} {Q : Value → Shared → Prop} {es : List Expr} {ω : List (Addr × List PV)} (T : TupK C n X env nm oc sc ρ κ fin es [] ω) {Z : Fz}
    (hA : Room n A) (I : Inv C Z s) (H : FSp env nm oc sc X ρ ω κ Z s.heap) (hsz : es.length ≤ sizeLine)
    (k : ∀ a vs Ps' ω' Z' s', Step C Z s Z' s' → IsTup s'.heap a vs.toArray → FSp env nm oc sc X ρ ω' κ Z' s'.heap → Sat Z' vs Ps' → fin Ps' ω' → Q (.ref a) s') : wpAny (model C.prog C.w) A (eval (.Tuple es kk pos) env) Q E s := by
  refine Tuple_ ?_
  refine tupK_run (s₀ := s) (Z₀ := Z) (done := []) T hA (StepX.refl I) H .nil fun vs Ps' ω' Z' s' x' H' hs' hf hl => ?_
  refine wpAny_newObj_type ?_ (by show vs.toArray.size ≤ sizeLine; rw [List.size_toArray, hl]; exact hsz)
  have st : Step C Z' s' Z' _ := StepX.push x'.inv (o := { cls := .type "tuple", data := .seq vs.toArray }) (t := s'.toks)
  exact k _ vs Ps' ω' Z' _ (x'.trans st) ⟨_, Heap.get?_push_size _ rfl, rfl, 0, rfl⟩ ((FS C env nm oc sc X ρ ω' κ).stable x'.inv H' st) (hs'.le st.le) hf
theorem ex_tup {R : Vp} {ts es : List Expr} {k1 k2 : Nat} {p1 p2 pos : Pos} {ρ : List (Option Vp)} {rest : List Stmt} {Ψ : Asn C} {ω : List (Addr × List PV)} (hs : swapsWithSole [.Tuple ts k1 p1] (.Tuple es k2 p2) pos.line env = pure false) (hw : swappedStores [.Tuple ts k1 p1] (.Tuple es k2 p2) env = pure none)
    (hsz : es.length ≤ sizeLine) (T : TupK C n X env nm oc sc ρ κ (fun Ps ω => ∃ ρ', Bds nm oc sc ts Ps ρ ρ' ∧ EX C n X (FS C env nm oc sc X ρ' ω κ) (execs rest env) Ψ R) es [] ω) :
    EX C n X (FS C env nm oc sc X ρ ω κ) (execs (.Assign [.Tuple ts k1 p1] (.Tuple es k2 p2) pos :: rest) env) Ψ R := fun A s Z Q E hA I H kn kr => by
  refine wpAny_execs_cons (PyProof.Rows.Assign_Tuple (tupK_eval T hA I H hsz fun a vs Ps' ω' Z' s' x' ht H' hs' hf => ?_) hs hw)
  obtain ⟨ρ', B, go⟩ := hf
  have l := B.length env
  refine assign_Tuple_tuple hA.handled ht (by rw [l.1, ← hs'.length, List.size_toArray]) l.2 fun h' he => ?_
  have st : Step C Z' s' Z' { s' with heap := h' } := .keeps (t := s'.toks) x'.inv fun b o e => he b o (Nat.ne_of_lt (Heap.lt_size e)) e
  refine st_all _ B st.inv ((FS C env nm oc sc X ρ ω' κ).stable x'.inv H' st) (by simpa using hs') fun s'' x'' H'' => ?_
  have xx := (Step.to (X := X) (x'.trans st)).trans x''
  exact go A s'' Z' Q E hA x''.inv H'' (fun Z₃ s₃ x₃ H₃ => kn Z₃ s₃ (xx.trans x₃) H₃) fun v Z₃ s₃ x₃ r => kr v Z₃ s₃ (xx.trans x₃) r
theorem ex_tup_sw {R : Vp} {ts es : List Expr} {names : List Str} {k1 k2 : Nat} {p1 p2 pos : Pos} {ρ : List (Option Vp)} {rest : List Stmt} {Ψ : Asn C} {ω : List (Addr × List PV)} (hs : swapsWithSole [.Tuple ts k1 p1] (.Tuple es k2 p2) pos.line env = pure false) (hw : swappedStores [.Tuple ts k1 p1] (.Tuple es k2 p2) env = pure (some names))
    (hsz : es.length ≤ sizeLine) (hn : names.length = es.length) (T : TupK C n X env nm oc sc ρ κ (fun Ps ω => ∃ ρ', Bdn nm oc sc names.reverse Ps.reverse ρ ρ' ∧ EX C n X (FS C env nm oc sc X ρ' ω κ) (execs rest env) Ψ R) es [] ω) :
    EX C n X (FS C env nm oc sc X ρ ω κ) (execs (.Assign [.Tuple ts k1 p1] (.Tuple es k2 p2) pos :: rest) env) Ψ R := fun A s Z Q E hA I H kn kr => by
  refine wpAny_execs_cons (PyProof.Rows.Assign_Tuple_swapped (names := names) (tupK_eval T hA I H hsz fun a vs Ps' ω' Z' s' x' ht H' hs' hf => ?_) hs hw)
  obtain ⟨ρ', B, go⟩ := hf
  have hnv : names.length = vs.toArray.size := by rw [List.size_toArray, hs'.length, ← List.length_reverse (as := names), B.length, List.length_reverse]
  rw [hnv]
  refine unpackItems_tuple hA.handled ht fun h' he => ?_
  have st : Step C Z' s' Z' { s' with heap := h' } := .keeps (t := s'.toks) x'.inv fun b o e => he b o (Nat.ne_of_lt (Heap.lt_size e)) e
  have hr : Sat Z' vs.toArray.toList.reverse Ps'.reverse := by simpa using hs'.rev
  refine st_alln (model C.prog C.w) B st.inv ((FS C env nm oc sc X ρ ω' κ).stable x'.inv H' st) hr ?_
  intro s'' x'' H''
  show wpAny (model C.prog C.w) A (execs rest env) Q E s''
  have xx := (Step.to (X := X) (x'.trans st)).trans x''
  exact go A s'' Z' Q E hA x''.inv H'' (fun Z₃ s₃ x₃ H₃ => kn Z₃ s₃ (xx.trans x₃) H₃) fun v Z₃ s₃ x₃ r => kr v Z₃ s₃ (xx.trans x₃) r
end
inductive Turns (C : Cx) (target : Expr) (I : Addr) (ds : List PV) (Z : Fz) (h : Heap) (new : Addr → Prop) : Prop where
  | mk (fp wr : List Addr) (P : Nat → Value → Heap → Prop) (Md : Nat → Value → Heap → Prop) (St : Nat → Heap → Prop) (w : ∀ A : Around, A.handled = none → KTurns C.prog C.w A target I fp wr ds.length P Md St) (st : St 0 h) (wz : ∀ b ∈ wr, Z b = none)
    (fz : ∀ b ∈ fp, (∃ o, Z b = some o) ∨ (new b ∧ Z b = none)) (ob : ∀ i h', St i h' → ∀ b ∈ fp, ∃ o, h'.get? b = some o ∧ (Z b = none → ∀ ps, o ≠ tabObj ps))
    (it : ∀ i v h' d Z', Le Z Z' → (∀ b o, Z' b = some o → h'.get? b = some o) → ds[i]? = some d → P i v h' → Itm target d Z' h' v)
    (self : ∀ (A : Around) i (s : Shared) (Q : Value → Shared → Prop) (E : Value → Shared → Prop), A.handled = none → St i s.heap → Q (.ref I) s → wpAny (model C.prog C.w) A (pyIter (.ref I)) Q E s)
def IT (C : Cx) (n : Nat) (Φ : Asn C) (iter : Expr) (env : Env) (target : Expr) (ds : List PV) : Prop :=
  ∀ (A : Around) (s : Shared) (Z : Fz) (Q : Value → Shared → Prop) (E : Value → Shared → Prop), Room n A → Inv C Z s → Φ.at_ Z s.heap →
    (∀ I Z' s', Step C Z s Z' s' → Turns C target I ds Z' s'.heap (fun b => s.heap.get? b = none) → Q (.ref I) s') →
      wpAny (model C.prog C.w) A (eval iter env) (fun x s₁ => wpAny (model C.prog C.w) A (pyIter x) Q E s₁) E s
section
variable {C : Cx} {n : Nat} {X : Addr → Prop} {Z Z' : Fz} {s s' : Shared} {env : Env} {nm oc : List Str} {sc : List (Str × NameKind)} {ω : List (Addr × List PV)} {κ : Addr → Option Obj} {A : Around} {E : Value → Shared → Prop}
open Classical in
noncomputable def holdK (κ : Addr → Option Obj) (fp : List Addr) (Z : Fz) (h : Heap) : Addr → Option Obj := fun b => if b ∈ fp ∧ Z b = none then h.get? b else κ b
structure Beside (env : Env) (X : Addr → Prop) (ω : List (Addr × List PV)) (κ : Addr → Option Obj) (tabs : List (Addr × Pos × Str)) (b : Addr) : Prop where
  x : X b
  loc : b ≠ env.locals
  cell : ∀ n c, env.cells.lookup n = some c → b ≠ c
  own : ∀ p ∈ ω, b ≠ p.1
  held : κ b = none
  tab : ∀ t ∈ tabs, b ≠ t.1
theorem Beside.of {ρ : List (Option Vp)} (I : Inv C Z s) (H : FSp env nm oc sc X ρ ω κ Z s.heap) {b : Addr} (hb : s.heap.get? b = none) : Beside env X ω κ C.tabs b := by
  have ne : ∀ c o, s.heap.get? c = some o → b ≠ c := fun c o e q => by rw [q, e] at hb; cases hb
  refine ⟨H.cof b hb, ?_, fun n c hc => ?_, fun p hp => ?_, ?_, fun t ht => ?_⟩
  · obtain ⟨m, o, _, _, e, _⟩ := H.loc; exact ne _ _ e
  · obtain ⟨_, v, o, e, _⟩ := H.cells n c hc; exact ne _ _ e
  · obtain ⟨_, vs, m, e, _⟩ := H.own p hp; exact ne _ _ e
  · cases e : κ b with
    | none => rfl
    | some o => exact absurd rfl (ne _ _ (H.held b o e).at_)
  · obtain ⟨ps, e, _⟩ := I.tabs t ht; exact ne _ _ e
theorem FSp.hold {ρ : List (Option Vp)} {fp : List Addr} (H : FSp env nm oc sc X ρ ω κ Z s.heap) (hb : ∀ b ∈ fp, Z b = none → Beside env X ω κ C.tabs b ∧ ∀ o, s.heap.get? b = some o → ∀ ps, o ≠ tabObj ps) :
    FSp env nm oc sc X ρ ω (holdK κ fp Z s.heap) Z s.heap := by
  refine ⟨H.names, H.gl, H.bl, H.cellH, H.fn, H.nodup, H.apart, H.loc, H.locX, H.locZ, H.cells, H.cellX, H.cof, H.vars, H.own, H.ownX, H.ownN, fun b o e => ?_, fun b o e => ?_⟩
  · by_cases q : b ∈ fp ∧ Z b = none
    · obtain ⟨B, ht⟩ := hb b q.1 q.2
      rw [holdK, if_pos q] at e
      exact ⟨q.2, e, ht o e, B.loc, B.cell, B.own⟩
    · rw [holdK, if_neg q] at e; exact H.held b o e
  · by_cases q : b ∈ fp ∧ Z b = none
    · exact (hb b q.1 q.2).1.x
    · rw [holdK, if_neg q] at e; exact H.heldX b o e
theorem FSp.drop {ρ : List (Option Vp)} {fp : List Addr} {Z₀ : Fz} {h₀ : Heap} (hb : ∀ b ∈ fp, Z₀ b = none → κ b = none) (H : FSp env nm oc sc X ρ ω (holdK κ fp Z₀ h₀) Z s.heap) : FSp env nm oc sc X ρ ω κ Z s.heap := by
  have k : ∀ b o, κ b = some o → holdK κ fp Z₀ h₀ b = some o := fun b o e => by
    rw [holdK, if_neg fun q => by rw [hb b q.1 q.2] at e; cases e]; exact e
  exact ⟨H.names, H.gl, H.bl, H.cellH, H.fn, H.nodup, H.apart, H.loc, H.locX, H.locZ, H.cells, H.cellX, H.cof, H.vars, H.own, H.ownX, H.ownN, fun b o e => H.held b o (k b o e), fun b o e => H.heldX b o (k b o e)⟩
theorem FSp.beside {ρ : List (Option Vp)} {W : List Addr} {h' : Heap} {t : Nat} (I : Inv C Z s) (H : FSp env nm oc sc X ρ ω κ Z s.heap) (hB : ∀ b ∈ W, Beside env X ω κ C.tabs b) (hZ : ∀ b ∈ W, Z b = none)
    (hk : ∀ b o, b ∉ W → s.heap.get? b = some o → h'.get? b = some o) : StepX C X Z s Z { s with heap := h', toks := t } ∧ FSp env nm oc sc X ρ ω κ Z h' := by
  have st : StepX C (· ∈ W) Z s Z { s with heap := h', toks := t } := .writes I (fun _ q => q) (fun b o q e => hk b o q e) (fun b q => hZ b q) fun b q => (hB b q).tab
  exact ⟨st.mono fun b q => (hB b q).x, H.step I st (fun q => (hB _ q).loc rfl) (fun n c hc q => (hB _ q).cell n c hc rfl) (fun p hp q => (hB _ q).own p hp rfl) (fun b o e q => by rw [(hB _ q).held] at e; cases e) fun b q => (hB b q).x⟩
theorem for_run {iter target : Expr} {body : List Stmt} {pos : Pos} {ds : List PV} {ρs : Nat → List (Option Vp)} {ωs : Nat → List (Addr × List PV)} {R : Vp} {A : Around} {s : Shared} {Z : Fz} {Q : Flow → Shared → Prop} {E : Value → Shared → Prop} (hit : IT C n (FS C env nm oc sc X (ρs 0) (ωs 0) κ) iter env target ds)
    (hω : ∀ i, (ωs i).map (·.1) = (ωs 0).map (·.1)) (hA : Room n A)
    (step : ∀ κ' i d, ds[i]? = some d → ∃ ρ', Tgt nm oc sc target d (ρs i) ρ' ∧ ∀ (s : Shared) (Z : Fz) (Q : Flow → Shared → Prop) (E : Value → Shared → Prop), Inv C Z s → FSp env nm oc sc X ρ' (ωs i) κ' Z s.heap →
      (∀ Z' s', StepX C X Z s Z' s' → FSp env nm oc sc X (ρs (i + 1)) (ωs (i + 1)) κ' Z' s'.heap → Q .next s') → (∀ v Z' s', StepX C X Z s Z' s' → R.at_ Z' v → Q (.ret v) s') → wpAny (model C.prog C.w) A (execs body env) Q E s)
    (hs : ∀ x, foldedSetIterable iter env x = pure x) (I : Inv C Z s) (H : FSp env nm oc sc X (ρs 0) (ωs 0) κ Z s.heap)
    (kn : ∀ Z' s', StepX C X Z s Z' s' → FSp env nm oc sc X (ρs ds.length) (ωs ds.length) κ Z' s'.heap → Q .next s') (kr : ∀ v Z' s', StepX C X Z s Z' s' → R.at_ Z' v → Q (.ret v) s') : wpAny (model C.prog C.w) A (exec (.For target iter body [] pos) env) Q E s := by
  refine wpAny_For (hit A s Z _ E hA I H fun J Z₁ s₁ x₁ T => ?_) hs
  obtain ⟨fp, wr, P, Md, St, W, st0, hwZ, hfp, hob, hItm, _⟩ := T
  replace W := W A hA.handled
  have H₁ := (FS C env nm oc sc X (ρs 0) (ωs 0) κ).stable I H x₁
  have hB0 : ∀ b ∈ fp, Z₁ b = none → s.heap.get? b = none := fun b hb hz => by
    rcases hfp b hb with ⟨o, e⟩ | ⟨e, _⟩
    · rw [hz] at e; cases e
    · exact e
  have hBw : ∀ i, ∀ b, s.heap.get? b = none → Beside env X (ωs i) κ C.tabs b := fun i b hb => by
    obtain ⟨b1, b2, b3, b4, b5, b6⟩ := Beside.of I H hb
    refine ⟨b1, b2, b3, fun p hp q => ?_, b5, b6⟩
    have : p.1 ∈ (ωs i).map (·.1) := List.mem_map.mpr ⟨p, hp, rfl⟩
    rw [hω] at this
    obtain ⟨p', hp', q'⟩ := List.mem_map.mp this
    exact b4 p' hp' (q.trans q'.symm)
  have hBwr : ∀ b ∈ wr, s.heap.get? b = none := fun b hb => hB0 b (W.sub b hb) (hwZ b hb)
  refine codeAny_forLoop_any
    (fun k s' => ∃ Z' i, StepX C X Z₁ s₁ Z' s' ∧ FSp env nm oc sc X (ρs i) (ωs i) κ Z' s'.heap ∧ St i s'.heap ∧ (∀ b ∈ fp, Z₁ b = none → Z' b = none) ∧ i ≤ ds.length ∧ k = ds.length + 1 - i) ?_ (ds.length + 1)
    ⟨Z₁, 0, StepX.refl x₁.inv, H₁, st0, fun _ _ e => e, Nat.zero_le _, rfl⟩
  rintro k s' ⟨Z', i, x', H', st', hz', hi, rfl⟩
  have hwZ' : ∀ b ∈ wr, Z' b = none := fun b hb => hz' b (W.sub b hb) (hwZ b hb)
  rcases Nat.lt_or_ge i ds.length with hlt | hge
  · refine W.item i s' _ _ hlt st' fun v h₂ tk₂ hMd hk₂ => ?_
    obtain ⟨x₂, H₂⟩ := FSp.beside (t := tk₂) x'.inv H' (fun b hb => (hBw i b (hBwr b hb))) hwZ' hk₂
    refine W.go i v _ _ _ hMd fun h₃ hP st₃ hk₃ => ?_
    obtain ⟨x₃, H₃⟩ := FSp.beside (t := tk₂) x₂.inv H₂ (fun b hb => (hBw i b (hBwr b hb))) hwZ' hk₃
    have hd : ds[i]? = some ds[i] := List.getElem?_eq_getElem hlt
    obtain ⟨ρ', T, body_⟩ := step (holdK κ fp Z' h₃) i ds[i] hd
    have H₃' : FSp env nm oc sc X (ρs i) (ωs i) (holdK κ fp Z' h₃) Z' h₃ := FSp.hold (s := { s' with heap := h₃, toks := tk₂ }) (C := C) H₃ fun b hb hz => by
      refine ⟨?_, fun o e => ?_⟩
      · rcases hfp b hb with ⟨o, e⟩ | ⟨e, _⟩
        · rw [x'.le _ _ e] at hz; cases hz
        · exact hBw i b e
      · obtain ⟨o', e', ht⟩ := hob _ _ st₃ b hb
        rw [e] at e'; cases e'
        rcases hfp b hb with ⟨o, e⟩ | ⟨_, e⟩
        · rw [x'.le _ _ e] at hz; cases hz
        · exact ht e
    refine asg T (hItm i v h₃ ds[i] Z' x'.le (fun b o e => x₃.inv.heap b o e) hd hP) hA.handled x₃.inv H₃' fun s₄ x₄ H₄ => ?_
    have xx : StepX C X Z₁ s₁ Z' s₄ := ((x'.trans x₂).trans x₃).trans x₄
    refine body_ s₄ Z' _ _ x₄.inv H₄ (fun Z₅ s₅ x₅ H₅ => ?_) fun v' Z₅ s₅ x₅ r => ?_
    · have keep5 : ∀ b ∈ fp, ∀ o, h₃.get? b = some o → s₅.heap.get? b = some o := fun b hb o e => by
        cases hz : Z' b with
        | some o' =>
          have := x₃.inv.heap b o' hz
          rw [show ({ s' with heap := h₃, toks := tk₂ } : Shared).heap = h₃ from rfl, e] at this
          cases this
          exact x₅.inv.heap b o (x₅.le b o hz)
        | none => exact (H₅.held b o (by rw [holdK, if_pos ⟨hb, hz⟩]; exact e)).at_
      refine ⟨ds.length + 1 - (i + 1), by lia, Z₅, i + 1, xx.trans x₅, ?_, W.frame _ _ _ st₃ keep5, fun b hb hz => ?_, hlt, rfl⟩
      · refine FSp.drop (fun b hb hz => ?_) H₅
        rcases hfp b hb with ⟨o, e⟩ | ⟨e, _⟩
        · rw [x'.le _ _ e] at hz; cases hz
        · exact (hBw i b e).held
      · obtain ⟨o, e, _⟩ := hob _ _ st₃ b hb
        exact (H₅.held b o (by rw [holdK, if_pos ⟨hb, hz' b hb hz⟩]; exact e)).z
    · exact kr v' Z₅ s₅ ((x₁.to (X := X)).trans (xx.trans x₅)) r
  · have hin : i = ds.length := Nat.le_antisymm hi hge
    subst hin
    refine W.done s' _ _ st' fun h₂ tk₂ hk₂ => ?_
    obtain ⟨x₂, H₂⟩ := FSp.beside (t := tk₂) x'.inv H' (fun b hb => (hBw ds.length b (hBwr b hb))) hwZ' hk₂
    exact wpAny_execs_nil (kn Z' _ ((x₁.to (X := X)).trans (x'.trans x₂)) H₂)
theorem ex_for {iter target : Expr} {body : List Stmt} {pos : Pos} {ds : List PV} {ρs : Nat → List (Option Vp)} {ωs : Nat → List (Addr × List PV)} {R : Vp} (hit : IT C n (FS C env nm oc sc X (ρs 0) (ωs 0) κ) iter env target ds)
    (hω : ∀ i, (ωs i).map (·.1) = (ωs 0).map (·.1))
    (step : ∀ κ' i d, ds[i]? = some d → ∃ ρ', Tgt nm oc sc target d (ρs i) ρ' ∧ EX C n X (FS C env nm oc sc X ρ' (ωs i) κ') (execs body env) (FS C env nm oc sc X (ρs (i + 1)) (ωs (i + 1)) κ') R)
    (hs : ∀ x, foldedSetIterable iter env x = pure x := by intro _; rfl) :
    EX C n X (FS C env nm oc sc X (ρs 0) (ωs 0) κ) (exec (.For target iter body [] pos) env) (FS C env nm oc sc X (ρs ds.length) (ωs ds.length) κ) R := fun A s Z Q E hA I H kn kr =>
  for_run hit hω hA (fun κ' i d hd => (step κ' i d hd).imp fun ρ' h => ⟨h.1, fun s Z Q E I H => h.2 A s Z Q E hA I H⟩) hs I H kn kr
end
inductive OU : List (Addr × List PV) → Addr → List PV → List PV → List (Addr × List PV) → Prop where
  | here {ω : List (Addr × List PV)} {a : Addr} {ds ds' : List PV} : OU ((a, ds) :: ω) a ds ds' ((a, ds') :: ω)
  | there {ω ω' : List (Addr × List PV)} {p : Addr × List PV} {a : Addr} {ds ds' : List PV} (r : OU ω a ds ds' ω') : OU (p :: ω) a ds ds' (p :: ω')
theorem OU.mem {a : Addr} {ds ds' : List PV} {ω ω' : List (Addr × List PV)} (u : OU ω a ds ds' ω') : (a, ds) ∈ ω := by
  induction u with
  | here => exact .head _
  | there _ ih => exact .tail _ ih
theorem OU.keys {a : Addr} {ds ds' : List PV} {ω ω' : List (Addr × List PV)} (u : OU ω a ds ds' ω') : ω'.map (·.1) = ω.map (·.1) := by
  induction u with
  | here => rfl
  | there _ ih => exact congrArg (_ :: ·) ih
theorem OU.all {Pr : Addr × List PV → Prop} {a : Addr} {ds ds' : List PV} {ω ω' : List (Addr × List PV)} (u : OU ω a ds ds' ω') (nd : (ω.map (·.1)).Nodup) (h : ∀ p ∈ ω, p.1 ≠ a → Pr p) (ha : Pr (a, ds')) (p : Addr × List PV) (hp : p ∈ ω') : Pr p := by
  induction u with
  | here =>
    rcases List.mem_cons.mp hp with rfl | hp
    · exact ha
    · exact h p (.tail _ hp) fun q => (List.nodup_cons.mp nd).1 (List.mem_map.mpr ⟨p, hp, q⟩)
  | there r ih =>
    rcases List.mem_cons.mp hp with rfl | hp
    · exact h p (.head _) fun q => (List.nodup_cons.mp nd).1 (List.mem_map.mpr ⟨_, r.mem, q.symm⟩)
    · exact ih (List.nodup_cons.mp nd).2 (fun p hp => h p (.tail _ hp)) ha hp
section
variable {C : Cx} {n : Nat} {X : Addr → Prop} {Z Z' : Fz} {s s' : Shared} {env : Env} {nm oc : List Str} {sc : List (Str × NameKind)} {ω ω' : List (Addr × List PV)} {κ : Addr → Option Obj} {A : Around} {E : Value → Shared → Prop}
theorem FSp.setOwn {ρ : List (Option Vp)} {a : Addr} {ds ds' : List PV} {vs' : List Value} {h' : Heap} {t : Nat} (I : Inv C Z s) (H : FSp env nm oc sc X ρ ω κ Z s.heap) (u : OU ω a ds ds' ω') (hs : Heap.SameBut a s.heap h') (hl : h'.PlainList a vs'.toArray) (hr : RdL Z vs' ds') :
    StepX C X Z s Z { s with heap := h', toks := t } ∧ FSp env nm oc sc X ρ ω' κ Z h' := by
  obtain ⟨hz, vs, m, e, r⟩ := H.own _ u.mem
  replace hz : Z a = none := hz
  replace e : s.heap.get? a = some { cls := .type "list", data := .seq vs.toArray m } := e
  have hX : X a := H.ownX _ u.mem
  have ht : ∀ t ∈ C.tabs, a ≠ t.1 := I.tab_fields e fun ps q => by cases q
  have st : StepX C X Z s Z { s with heap := h', toks := t } := .write I hX hs hz ht
  have nl : env.locals ≠ a := fun q => by
    obtain ⟨_, o, _, _, e', d, _⟩ := H.loc
    rw [q, e] at e'; cases e'; cases d
  have nc : ∀ n c, env.cells.lookup n = some c → c ≠ a := fun n c hc q => by
    obtain ⟨_, v, o, e', d⟩ := H.cells n c hc
    rw [q, e] at e'; cases e'; cases d
  refine ⟨st, H.names, H.gl, H.bl, H.cellH, H.fn, H.nodup, H.apart, ?_, H.locX, H.locZ, fun n c hc => ⟨(H.cells n c hc).1, ?_⟩, H.cellX, fun b hb => (st.gone hb).elim (H.cof b) id, ?_, ?_, ?_, ?_, fun b o eb => ?_, H.heldX⟩
  · obtain ⟨m, hn⟩ := H.loc; exact ⟨m, hn.sameBut hs nl⟩
  · obtain ⟨v, hv⟩ := (H.cells n c hc).2; exact ⟨v, hv.sameBut hs (nc n c hc)⟩
  · exact H.vars.keeps (Le.refl Z) (fun o e => hs.extBut _ o nl e) fun n c hc o e => hs.extBut _ o (nc n c hc) e
  · refine u.all H.ownN (fun p hp hne => ?_) (hl.elim fun n e => ⟨hz, vs', n, e, hr⟩)
    obtain ⟨hz', vs, m, e, r⟩ := H.own p hp
    exact ⟨hz', vs, m, hs.extBut _ _ hne e, r⟩
  · exact u.all H.ownN (fun p hp _ => H.ownX p hp) hX
  · rw [u.keys]; exact H.ownN
  · obtain ⟨hz', ha, htb, hl', hc', hw⟩ := H.held b o eb
    have hb : b ≠ a := hw _ u.mem
    exact ⟨hz', hs.extBut _ _ hb ha, htb, hl', hc', u.all H.ownN (fun p hp _ => hw p hp) hb⟩
theorem call_append {ρ : List (Option Vp)} {a : Addr} {d : PV} {ds : List PV} {v : Value} {Q : Value → Shared → Prop} (I : Inv C Z s) (H : FSp env nm oc sc X ρ ω κ Z s.heap) (u : OU ω a ds (ds ++ [d]) ω') (hv : Rd Z v d) (hsz : ds.length ≤ sizeLine)
    (k : ∀ s', StepX C X Z s Z s' → FSp env nm oc sc X ρ ω' κ Z s'.heap → Q .none s') : wpAny (model C.prog C.w) A (call (.builtin "list.append") [.ref a, v]) Q E s := by
  obtain ⟨hz, vs, m, e, r⟩ := H.own _ u.mem
  refine wpAny_list_append_plain ⟨m, e⟩ (fun h' hl hs => ?_) (by rw [List.size_toArray, r.length]; exact hsz)
  obtain ⟨st, H'⟩ := H.setOwn (t := s.toks) I u hs (vs' := vs ++ [v]) (by simpa using hl) (r.append (.cons hv .nil))
  exact k _ st H'
inductive OF : List (Addr × List PV) → Addr → List PV → List (Addr × List PV) → Prop where
  | here {ω : List (Addr × List PV)} {a : Addr} {ds : List PV} : OF ((a, ds) :: ω) a ds ω
  | there {ω ω' : List (Addr × List PV)} {p : Addr × List PV} {a : Addr} {ds : List PV} (r : OF ω a ds ω') : OF (p :: ω) a ds (p :: ω')
theorem OF.mem {a : Addr} {ds : List PV} {ω ω' : List (Addr × List PV)} (u : OF ω a ds ω') : (a, ds) ∈ ω := by
  induction u with
  | here => exact .head _
  | there _ ih => exact .tail _ ih
theorem OF.sub {a : Addr} {ds : List PV} {ω ω' : List (Addr × List PV)} (u : OF ω a ds ω') : ω'.Sublist ω := by
  induction u with
  | here => exact List.sublist_cons_self ..
  | there _ ih => exact ih.cons_cons _
theorem OF.ne {a : Addr} {ds : List PV} {ω ω' : List (Addr × List PV)} (u : OF ω a ds ω') (nd : (ω.map (·.1)).Nodup) (p : Addr × List PV) (hp : p ∈ ω') : p.1 ≠ a := by
  induction u with
  | here => exact fun q => (List.nodup_cons.mp nd).1 (List.mem_map.mpr ⟨p, hp, q⟩)
  | there r ih =>
    rcases List.mem_cons.mp hp with rfl | hp
    · exact fun q => (List.nodup_cons.mp nd).1 (List.mem_map.mpr ⟨_, r.mem, q.symm⟩)
    · exact ih (List.nodup_cons.mp nd).2 hp
inductive Rfz (a : Addr) (ds : List PV) : List (Option Vp) → List (Option Vp) → Prop where
  | nil : Rfz a ds [] []
  | same {o : Option Vp} {ρ ρ' : List (Option Vp)} (r : Rfz a ds ρ ρ') : Rfz a ds (o :: ρ) (o :: ρ')
  | it {ρ ρ' : List (Option Vp)} (r : Rfz a ds ρ ρ') : Rfz a ds (some (isv (.ref a)) :: ρ) (some (is (.list ds)) :: ρ')
theorem Rfz.ix {a : Addr} {ds : List PV} {ρ ρ' : List (Option Vp)} (R : Rfz a ds ρ ρ') (i : Nat) (P : Vp) (e : ρ'[i]? = some (some P)) : ρ[i]? = some (some P) ∨ (ρ[i]? = some (some (isv (.ref a))) ∧ P = is (.list ds)) := by
  induction R generalizing i with
  | nil => cases e
  | same _ ih =>
    cases i with
    | zero => exact .inl e
    | succ i => exact ih i e
  | it _ ih =>
    cases i with
    | zero => cases e; exact .inr ⟨rfl, rfl⟩
    | succ i => exact ih i e
theorem Vars.rfz {a : Addr} {ds : List PV} (hd : Rd Z (.ref a) (.list ds)) {nm : List Str} {ρ ρ' : List (Option Vp)} (R : Rfz a ds ρ ρ') {h : Heap} (H : Vars env Z h nm ρ) : Vars env Z h nm ρ' := fun i x P e1 e2 => by
  rcases R.ix i P e2 with e | ⟨e, rfl⟩
  · exact H i x P e1 e
  · obtain ⟨v, hv, hp⟩ := H i x _ e1 e
    cases hp
    exact ⟨_, hv, hd⟩
theorem FSp.freeze {ρ ρ' : List (Option Vp)} {a : Addr} {ds : List PV} (I : Inv C Z s) (H : FSp env nm oc sc X ρ ω κ Z s.heap) (u : OF ω a ds ω') (q : Rfz a ds ρ ρ') : ∃ Z', StepX C X Z s Z' s ∧ FSp env nm oc sc X ρ' ω' κ Z' s.heap ∧ Rd Z' (.ref a) (.list ds) := by
  obtain ⟨hz, vs, m, e, r⟩ := H.own _ u.mem
  replace hz : Z a = none := hz
  replace e : s.heap.get? a = some { cls := .type "list", data := .seq vs.toArray m } := e
  have ht : ∀ t ∈ C.tabs, a ≠ t.1 := I.tab_fields e fun ps q => by cases q
  have st := StepX.freeze (X := X) I (H.ownX _ u.mem) hz e ht
  have hd : Rd (put Z a { cls := .type "list", data := .seq vs.toArray m }) (.ref a) (.list ds) := .list (n := m) (put_self (Z := Z)) (r.le st.le)
  have nl : env.locals ≠ a := fun q => by
    obtain ⟨_, o, _, _, e', d, _⟩ := H.loc
    rw [q, e] at e'; cases e'; cases d
  refine ⟨_, st, ⟨H.names, H.gl, H.bl, H.cellH, H.fn, H.nodup, H.apart, H.loc, H.locX, ?_, fun n c hc => ⟨?_, (H.cells n c hc).2⟩, H.cellX, H.cof, ?_, fun p hp => ?_, fun p hp => H.ownX p (u.sub.mem hp), H.ownN.sublist (u.sub.map _), fun b o eb => ?_, H.heldX⟩, hd⟩
  · rw [put_ne nl]; exact H.locZ
  · refine (put_ne fun q => ?_).trans (H.cells n c hc).1
    obtain ⟨_, v, o, e', d⟩ := H.cells n c hc
    rw [q, e] at e'; cases e'; cases d
  · exact Vars.rfz hd q (H.vars.keeps st.le (fun _ e => e) fun _ _ _ _ e => e)
  · obtain ⟨hz', vs', m', e', r'⟩ := H.own p (u.sub.mem hp)
    exact ⟨by rw [put_ne (u.ne H.ownN p hp)]; exact hz', vs', m', e', RdL.le st.le r'⟩
  · obtain ⟨hz', ha, htb, hl', hc', hw⟩ := H.held b o eb
    exact ⟨by rw [put_ne (hw _ u.mem)]; exact hz', ha, htb, hl', hc', fun p hp => hw p (u.sub.mem hp)⟩
theorem ex_freeze {ρ ρ' : List (Option Vp)} {a : Addr} {ds : List PV} {Ψ : Asn C} {R : Vp} {rest : List Stmt} (u : OF ω a ds ω') (q : Rfz a ds ρ ρ') (k : EX C n X (FS C env nm oc sc X ρ' ω' κ) (execs rest env) Ψ R) :
    EX C n X (FS C env nm oc sc X ρ ω κ) (execs rest env) Ψ R := fun A s Z Q E hA I H kn kr => by
  obtain ⟨Z', st, H', _⟩ := H.freeze I u q
  exact k A s Z' Q E hA st.inv H' (fun Z₂ s₂ x₂ H₂ => kn Z₂ s₂ (st.trans x₂) H₂) fun v Z₂ s₂ x₂ r => kr v Z₂ s₂ (st.trans x₂) r
end
theorem turn_last {elt target iter : Expr} {ifs : List Expr} {gens : List Comprehension} {scope : Scope} {pos : Pos} {k : Nat} {it acc : Value} {env : Env} (hg : gens[k]? = some ⟨target, iter, ifs, 0⟩) (hn : gens[k + 1]? = none) :
    compTurn (.ListComp elt gens scope pos) k it acc env = (standAt iter.pos >>= fun _ => pyNext it >>= fun r => match r with
      | none => pure (.done .next)
      | some v => letOwnedTupleGo target it v >>= fun _ => assign target env v >>= fun _ =>
        (forIn ifs true fun c r => if r = true then do let ok ← isTrue c env (eval c env); pure (ForInStep.yield ok) else pure (ForInStep.yield r)) >>= fun ok =>
        if ok = true then (eval elt env >>= fun x => call (.builtin "list.append") [acc, x] >>= fun _ => pure ()) >>= fun _ => again (.compLoop (.ListComp elt gens scope pos) k it acc env)
        else again (.compLoop (.ListComp elt gens scope pos) k it acc env)) := by
  unfold compTurn
  simp only [hg, hn]
  rfl
noncomputable def deepT (e : Expr) (iter' : Expr) (k : Nat) (acc : Value) (env : Env) : Sem Flow :=
  eval iter' env >>= fun x => standAt iter'.pos >>= fun _ => foldedSetIterable iter' env x >>= fun x => holding [x] (pyIter x) >>= fun it' => runOwn (.compStart e (k + 1) it' acc env) env
theorem turn_deep {elt target iter target' iter' : Expr} {ifs ifs' : List Expr} {gens : List Comprehension} {scope : Scope} {pos : Pos} {k : Nat} {it acc : Value} {env : Env} (hg : gens[k]? = some ⟨target, iter, ifs, 0⟩) (hn : gens[k + 1]? = some ⟨target', iter', ifs', 0⟩) :
    compTurn (.ListComp elt gens scope pos) k it acc env = (standAt iter.pos >>= fun _ => pyNext it >>= fun r => match r with
      | none => pure (.done .next)
      | some v => letOwnedTupleGo target it v >>= fun _ => assign target env v >>= fun _ =>
        (forIn ifs true fun c r => if r = true then do let ok ← isTrue c env (eval c env); pure (ForInStep.yield ok) else pure (ForInStep.yield r)) >>= fun ok =>
        if ok = true then deepT (.ListComp elt gens scope pos) iter' k acc env >>= fun _ => again (.compLoop (.ListComp elt gens scope pos) k it acc env)
        else again (.compLoop (.ListComp elt gens scope pos) k it acc env)) := by
  have e : deepT (.ListComp elt gens scope pos) iter' k acc env >>= (fun _ => again (.compLoop (.ListComp elt gens scope pos) k it acc env)) =
      (eval iter' env >>= fun x => standAt iter'.pos >>= fun _ => foldedSetIterable iter' env x >>= fun x => holding [x] (pyIter x) >>= fun it' => runOwn (.compStart (.ListComp elt gens scope pos) (k + 1) it' acc env) env >>= fun _ => again (.compLoop (.ListComp elt gens scope pos) k it acc env)) := by
    unfold deepT
    show Sem.bind (Sem.bind _ _) _ = Sem.bind _ _
    rw [Sem.bind_assoc]; congr 1; funext x
    show Sem.bind (Sem.bind _ _) _ = Sem.bind _ _
    rw [Sem.bind_assoc]; congr 1; funext _
    show Sem.bind (Sem.bind _ _) _ = Sem.bind _ _
    rw [Sem.bind_assoc]; congr 1; funext _
    show Sem.bind (Sem.bind _ _) _ = Sem.bind _ _
    rw [Sem.bind_assoc]; rfl
  rw [e]
  unfold compTurn
  simp only [hg, hn]
  rfl
def TS (C : Cx) (n : Nat) (Φ : Asn C) (ifs : List Expr) (env : Env) (b : Bool) : Prop :=
  ∀ (A : Around) (s : Shared) (Z : Fz) (Q : Bool → Shared → Prop) (E : Value → Shared → Prop), Room n A → Inv C Z s → Φ.at_ Z s.heap → (∀ Z' s', Step C Z s Z' s' → Q b s') →
    wpAny (model C.prog C.w) A (forIn ifs true fun c r => if r = true then do let ok ← isTrue c env (eval c env); pure (ForInStep.yield ok) else pure (ForInStep.yield r)) Q E s
theorem ts_nil {C : Cx} {n : Nat} {Φ : Asn C} {env : Env} : TS C n Φ [] env true := fun A s Z Q E hA I H k => wpAny_tests_nil (k Z s (StepX.refl I))
theorem ts_one {C : Cx} {n : Nat} {Φ : Asn C} {env : Env} {c : Expr} {b : Bool} (h : TV C n Φ (isTrue c env (eval c env)) b) : TS C n Φ [c] env b := fun A s Z Q E hA I H k => wpAny_tests_one (h A s Z Q E hA I H k)
inductive Fgt : List (Option Vp) → List (Option Vp) → Prop where
  | nil : Fgt [] []
  | same {o : Option Vp} {ρ' ρ : List (Option Vp)} (r : Fgt ρ' ρ) : Fgt (o :: ρ') (o :: ρ)
  | drop {o : Option Vp} {ρ' ρ : List (Option Vp)} (r : Fgt ρ' ρ) : Fgt (o :: ρ') (none :: ρ)
theorem Fgt.ix {ρ ρ' : List (Option Vp)} (g : Fgt ρ' ρ) (i : Nat) (P : Vp) (e : ρ[i]? = some (some P)) : ρ'[i]? = some (some P) := by
  induction g generalizing i with
  | nil => cases e
  | same _ ih =>
    cases i with
    | zero => exact e
    | succ i => exact ih i e
  | drop _ ih =>
    cases i with
    | zero => cases e
    | succ i => exact ih i e
theorem Vars.forget {env : Env} {Z : Fz} {h : Heap} {nm : List Str} {ρ' ρ : List (Option Vp)} (g : Fgt ρ' ρ) (H : Vars env Z h nm ρ') : Vars env Z h nm ρ := fun i x P e1 e2 => H i x P e1 (g.ix i P e2)
theorem FSp.forget {env : Env} {nm oc : List Str} {sc : List (Str × NameKind)} {X : Addr → Prop} {ρ ρ' : List (Option Vp)} {ω : List (Addr × List PV)} {κ : Addr → Option Obj} {Z : Fz} {h : Heap} (g : Fgt ρ' ρ) (H : FSp env nm oc sc X ρ' ω κ Z h) : FSp env nm oc sc X ρ ω κ Z h :=
  ⟨H.names, H.gl, H.bl, H.cellH, H.fn, H.nodup, H.apart, H.loc, H.locX, H.locZ, H.cells, H.cellX, H.cof, H.vars.forget g, H.own, H.ownX, H.ownN, H.held, H.heldX⟩
def Emits (C : Cx) (n : Nat) (X : Addr → Prop) (env : Env) (nm oc : List Str) (sc : List (Str × NameKind)) (D : Addr) (ρ : List (Option Vp)) {α : Type} (t : Sem α) (out : List PV) : Prop :=
  ∀ (A : Around) (s : Shared) (Z : Fz) (Q : α → Shared → Prop) (E : Value → Shared → Prop) (ys : List PV) (κ : Addr → Option Obj), Room n A → Inv C Z s → FSp env nm oc sc X ρ [(D, ys)] κ Z s.heap → (ys ++ out).length ≤ sizeLine →
    (∀ x Z' s', StepX C X Z s Z' s' → FSp env nm oc sc X ρ [(D, ys ++ out)] κ Z' s'.heap → Q x s') → wpAny (model C.prog C.w) A t Q E s
def Clause (C : Cx) (n : Nat) (X : Addr → Prop) (env : Env) (nm oc : List Str) (sc : List (Str × NameKind)) (D : Addr) (ρ : List (Option Vp)) (target : Expr) (ifs : List Expr) {α : Type} (t : Sem α) (d : PV) (out : List PV) : Prop :=
  ∃ ρ' b, Tgt nm oc sc target d ρ ρ' ∧ Fgt ρ' ρ ∧ (∀ ys κ, TS C n (FS C env nm oc sc X ρ' [(D, ys)] κ) ifs env b) ∧ (b = true → Emits C n X env nm oc sc D ρ' t out) ∧ (b = false → out = [])
section
variable {C : Cx} {n : Nat} {X : Addr → Prop} {Z Z' : Fz} {s s' : Shared} {env : Env} {nm oc : List Str} {sc : List (Str × NameKind)} {ω ω' : List (Addr × List PV)} {κ : Addr → Option Obj} {A : Around} {E : Value → Shared → Prop} {ρ : List (Option Vp)} {D : Addr}
theorem em_last {elt : Expr} {d : PV} (h : ∀ ys κ, EV C n (FS C env nm oc sc X ρ [(D, ys)] κ) (eval elt env) (is d)) : Emits C n X env nm oc sc D ρ (eval elt env >>= fun x => call (.builtin "list.append") [.ref D, x] >>= fun _ => pure ()) [d] :=
  fun A s Z Q E ys κ hA I H hsz k => by
  refine wpAny_bind (h ys κ A s Z _ E hA I H fun v Z₁ s₁ x₁ pv => wpAny_bind ?_)
  refine call_append x₁.inv ((FS C env nm oc sc X ρ [(D, ys)] κ).stable I H x₁) .here pv (by simp at hsz; lia) fun s₂ x₂ H₂ => ?_
  exact wpAny_pure (k () Z₁ s₂ ((Step.to x₁).trans x₂) H₂)
theorem comp_loop {α β : Type} {elt target iter : Expr} {ifs : List Expr} {gens : List Comprehension} {scope : Scope} {pos : Pos} {k : Nat} {J : Addr} {t : Sem β} {xs : List α} {f : α → PV} {g : α → List PV} {new : Addr → Prop} {R : Result → Shared → Prop} {ys : List PV}
    (ht : compTurn (.ListComp elt gens scope pos) k (.ref J) (.ref D) env = (standAt iter.pos >>= fun _ => pyNext (.ref J) >>= fun r => match r with
      | none => pure (.done .next)
      | some v => letOwnedTupleGo target (.ref J) v >>= fun _ => assign target env v >>= fun _ =>
        (forIn ifs true fun c r => if r = true then do let ok ← isTrue c env (eval c env); pure (ForInStep.yield ok) else pure (ForInStep.yield r)) >>= fun ok =>
        if ok = true then t >>= fun _ => again (.compLoop (.ListComp elt gens scope pos) k (.ref J) (.ref D) env)
        else again (.compLoop (.ListComp elt gens scope pos) k (.ref J) (.ref D) env)))
    (step : ∀ x ∈ xs, Clause C n X env nm oc sc D ρ target ifs t (f x) (g x)) (hA : Room n A) (I : Inv C Z s) (H : FSp env nm oc sc X ρ [(D, ys)] κ Z s.heap) (T : Turns C target J (xs.map f) Z s.heap new)
    (hnew : ∀ b, new b → Z b = none → Beside env X [(D, ys)] κ C.tabs b) (hsz : (ys ++ xs.flatMap g).length ≤ sizeLine)
    (hR : ∀ Z' s', StepX C X Z s Z' s' → FSp env nm oc sc X ρ [(D, ys ++ xs.flatMap g)] κ Z' s'.heap → R (.ok .next) s') :
    codeAny (model C.prog C.w) A (.compLoop (.ListComp elt gens scope pos) k (.ref J) (.ref D) env) R s := by
  obtain ⟨fp, wr, P, Md, St, W, st0, hwZ, hfp, hob, hItm, _⟩ := T
  replace W := W A hA.handled
  have hB0 : ∀ b ∈ fp, Z b = none → ∀ zs, Beside env X [(D, zs)] κ C.tabs b := fun b hb hz zs => by
    rcases hfp b hb with ⟨o, e⟩ | ⟨e, _⟩
    · rw [hz] at e; cases e
    · obtain ⟨b1, b2, b3, b4, b5, b6⟩ := hnew b e hz
      exact ⟨b1, b2, b3, fun p hp => by rw [List.mem_singleton.mp hp]; exact b4 (D, ys) (.head _), b5, b6⟩
  have hBwr : ∀ zs, ∀ b ∈ wr, Beside env X [(D, zs)] κ C.tabs b := fun zs b hb => hB0 b (W.sub b hb) (hwZ b hb) zs
  have hpre : ∀ i, (ys ++ (xs.take i).flatMap g).length ≤ sizeLine := fun i => by
    refine Nat.le_trans ?_ hsz
    have : xs.flatMap g = (xs.take i).flatMap g ++ (xs.drop i).flatMap g := by rw [← List.flatMap_append, List.take_append_drop]
    rw [this]; simp only [List.length_append]; lia
  refine codeAny_loop' rfl
    (fun m s' => ∃ Z' i, StepX C X Z s Z' s' ∧ FSp env nm oc sc X ρ [(D, ys ++ (xs.take i).flatMap g)] κ Z' s'.heap ∧ St i s'.heap ∧ (∀ b ∈ fp, Z b = none → Z' b = none) ∧ i ≤ xs.length ∧ m = xs.length + 1 - i) ?_ (xs.length + 1)
    ⟨Z, 0, StepX.refl I, by simpa using H, st0, fun _ _ e => e, Nat.zero_le _, rfl⟩
  rintro m s' ⟨Z', i, x', H', st', hz', hi, rfl⟩
  show wpAny _ A ((compTurn (.ListComp elt gens scope pos) k (.ref J) (.ref D) env).onRaise (fun x => do noteFrame x env; theTreesLotGoes x)) _ _ s'
  refine wpAny_noted ?_
  rw [ht]
  refine wpAny_bind (wpAny_standAt (wpAny_bind ?_))
  have hwZ' : ∀ b ∈ wr, Z' b = none := fun b hb => hz' b (W.sub b hb) (hwZ b hb)
  rcases Nat.lt_or_ge i xs.length with hlt | hge
  · refine W.item i s' _ _ (by rw [List.length_map]; exact hlt) st' fun v h₂ tk₂ hMd hk₂ => ?_
    obtain ⟨x₂, H₂⟩ := FSp.beside (t := tk₂) x'.inv H' (hBwr _) hwZ' hk₂
    refine wpAny_bind (W.go i v _ _ _ hMd fun h₃ hP st₃ hk₃ => ?_)
    obtain ⟨x₃, H₃⟩ := FSp.beside (t := tk₂) x₂.inv H₂ (hBwr _) hwZ' hk₃
    have hd : (xs.map f)[i]? = some (f xs[i]) := by rw [List.getElem?_map, List.getElem?_eq_getElem hlt]; rfl
    obtain ⟨ρ', b, T, gt, ts, em1, em0⟩ := step xs[i] (List.getElem_mem hlt)
    have H₃' : FSp env nm oc sc X ρ [(D, ys ++ (xs.take i).flatMap g)] (holdK κ fp Z' h₃) Z' h₃ := FSp.hold (s := { s' with heap := h₃, toks := tk₂ }) (C := C) H₃ fun b hb hz => by
      have hz0 : Z b = none := by
        cases e : Z b with
        | none => rfl
        | some o => rw [x'.le _ _ e] at hz; cases hz
      refine ⟨hB0 b hb hz0 _, fun o e => ?_⟩
      obtain ⟨o', e', ht⟩ := hob _ _ st₃ b hb
      rw [e] at e'; cases e'
      exact ht hz0
    refine wpAny_bind (asg T (hItm i v h₃ _ Z' x'.le (fun b o e => x₃.inv.heap b o e) hd hP) hA.handled x₃.inv H₃' fun s₄ x₄ H₄ => wpAny_bind ?_)
    have xx : StepX C X Z s Z' s₄ := ((x'.trans x₂).trans x₃).trans x₄
    have take1 : (xs.take (i + 1)).flatMap g = (xs.take i).flatMap g ++ g xs[i] := by
      rw [List.take_add_one, List.getElem?_eq_getElem hlt, List.flatMap_append, show (some xs[i]).toList = [xs[i]] from rfl, List.flatMap_cons, List.flatMap_nil, List.append_nil]
    have fin : ∀ Z₅ s₅, StepX C X Z' s₄ Z₅ s₅ → FSp env nm oc sc X ρ' [(D, (ys ++ (xs.take i).flatMap g) ++ g xs[i])] (holdK κ fp Z' h₃) Z₅ s₅.heap →
        ∃ m, m < xs.length + 1 - i ∧ ∃ Z' i, StepX C X Z s Z' s₅ ∧ FSp env nm oc sc X ρ [(D, ys ++ (xs.take i).flatMap g)] κ Z' s₅.heap ∧ St i s₅.heap ∧ (∀ b ∈ fp, Z b = none → Z' b = none) ∧ i ≤ xs.length ∧ m = xs.length + 1 - i := fun Z₅ s₅ x₅ H₅ => by
      have keep5 : ∀ b ∈ fp, ∀ o, h₃.get? b = some o → s₅.heap.get? b = some o := fun b hb o e => by
        cases hz : Z' b with
        | some o' =>
          have := x₃.inv.heap b o' hz
          rw [show ({ s' with heap := h₃, toks := tk₂ } : Shared).heap = h₃ from rfl, e] at this
          cases this
          exact x₅.inv.heap b o (x₅.le b o hz)
        | none => exact (H₅.held b o (by rw [holdK, if_pos ⟨hb, hz⟩]; exact e)).at_
      refine ⟨xs.length + 1 - (i + 1), by lia, Z₅, i + 1, xx.trans x₅, ?_, W.frame _ _ _ st₃ keep5, fun b hb hz => ?_, hlt, rfl⟩
      · rw [take1, ← List.append_assoc]
        refine FSp.forget gt (FSp.drop (fun b hb hz => ?_) H₅)
        refine (hB0 b hb ?_ []).held
        cases e : Z b with
        | none => rfl
        | some o => rw [x'.le _ _ e] at hz; cases hz
      · obtain ⟨o, e, _⟩ := hob _ _ st₃ b hb
        exact (H₅.held b o (by rw [holdK, if_pos ⟨hb, hz' b hb hz⟩]; exact e)).z
    refine ts _ _ A s₄ Z' _ _ hA x₄.inv H₄ fun Z₅ s₅ x₅ => ?_
    have H₅ := (FS C env nm oc sc X ρ' [(D, ys ++ (xs.take i).flatMap g)] (holdK κ fp Z' h₃)).stable x₄.inv H₄ x₅
    cases b with
    | true =>
      rw [if_pos rfl]
      refine wpAny_bind (em1 rfl A s₅ Z₅ _ _ _ _ hA x₅.inv H₅ ?_ fun _ Z₆ s₆ x₆ H₆ => wpAny_pure (.inl ⟨rfl, fin Z₆ s₆ ((Step.to x₅).trans x₆) H₆⟩))
      rw [List.append_assoc, ← take1]; exact hpre _
    | false =>
      rw [if_neg (by decide)]
      refine wpAny_pure (.inl ⟨rfl, fin Z₅ s₅ (Step.to x₅) ?_⟩)
      rw [em0 rfl, List.append_nil]; exact H₅
  · have hin : i = xs.length := Nat.le_antisymm hi hge
    subst hin
    refine W.done s' _ _ (by rw [List.length_map]; exact st') fun h₂ tk₂ hk₂ => ?_
    obtain ⟨x₂, H₂⟩ := FSp.beside (t := tk₂) x'.inv H' (hBwr _) hwZ' hk₂
    rw [List.take_length] at H₂
    exact wpAny_pure (hR Z' _ (x'.trans x₂) H₂)
end
section
variable {C : Cx} {n : Nat} {X : Addr → Prop} {Z Z' : Fz} {s s' : Shared} {env : Env} {nm oc : List Str} {sc : List (Str × NameKind)} {ω ω' : List (Addr × List PV)} {κ : Addr → Option Obj} {A : Around} {E : Value → Shared → Prop} {ρ : List (Option Vp)} {D : Addr}
theorem comp_start {prog : Program} {w : World} {elt target iter : Expr} {ifs : List Expr} {gens : List Comprehension} {scope : Scope} {pos : Pos} {k : Nat} {it acc : Value} {R : Result → Shared → Prop} (hg : gens[k]? = some ⟨target, iter, ifs, 0⟩)
    (hself : ∀ (Q : Value → Shared → Prop) (E : Value → Shared → Prop), Q it s → wpAny (model prog w) A (pyIter it) Q E s)
    (h : codeAny (model prog w) A (.compLoop (.ListComp elt gens scope pos) k it acc env) R s) : codeAny (model prog w) A (.compStart (.ListComp elt gens scope pos) k it acc env) R s := by
  refine codeAny_of_tree ?_
  show wpAny _ A ((compStart (.ListComp elt gens scope pos) k it acc env).onRaise (fun x => do noteFrame x env; standAt theWindowsPlace)) _ _ s
  refine wpAny_notedAt ?_
  have hc : (clausesOf (.ListComp elt gens scope pos))[k]? = some ⟨target, iter, ifs, 0⟩ := hg
  unfold compStart
  simp only [hc]
  show wpAny _ A (ask >>= _) _ _ s
  refine wpAny_bind (wpAny_askSetting (wpAny_ite ?_))
  split
  · first
      | exact wpAny_bind (wpAny_pure (wpAny_pure (And.intro rfl h)))
      | exact wpAny_pure (And.intro rfl h)
  · exact wpAny_bind (wpAny_rule (wpAny_bind (wpAny_standAt (wpAny_bind (hself _ _ (wpAny_pure (And.intro rfl h)))))))
theorem em_deep {α β : Type} {elt target iter target' iter' : Expr} {ifs ifs' : List Expr} {gens : List Comprehension} {scope : Scope} {pos : Pos} {k : Nat} {t : ∀ J : Addr, Sem β} {xs : List α} {f : α → PV} {g : α → List PV}
    (hg : gens[k + 1]? = some ⟨target', iter', ifs', 0⟩)
    (ht : ∀ J, compTurn (.ListComp elt gens scope pos) (k + 1) (.ref J) (.ref D) env = (standAt iter'.pos >>= fun _ => pyNext (.ref J) >>= fun r => match r with
      | none => pure (.done .next)
      | some v => letOwnedTupleGo target' (.ref J) v >>= fun _ => assign target' env v >>= fun _ =>
        (forIn ifs' true fun c r => if r = true then do let ok ← isTrue c env (eval c env); pure (ForInStep.yield ok) else pure (ForInStep.yield r)) >>= fun ok =>
        if ok = true then t J >>= fun _ => again (.compLoop (.ListComp elt gens scope pos) (k + 1) (.ref J) (.ref D) env)
        else again (.compLoop (.ListComp elt gens scope pos) (k + 1) (.ref J) (.ref D) env)))
    (hit : ∀ ys κ, IT C n (FS C env nm oc sc X ρ [(D, ys)] κ) iter' env target' (xs.map f)) (step : ∀ J, ∀ x ∈ xs, Clause C n X env nm oc sc D ρ target' ifs' (t J) (f x) (g x))
    (hs : ∀ x, foldedSetIterable iter' env x = pure x := by intro _; rfl) :
    Emits C n X env nm oc sc D ρ (deepT (.ListComp elt gens scope pos) iter' k (.ref D) env) (xs.flatMap g) := fun A s Z Q E ys κ hA I H hsz kk => by
  unfold deepT
  refine wpAny_bind (wpAny_mono (hit ys κ A s Z (fun it s₂ => wpAny (model C.prog C.w) A (runOwn (.compStart (.ListComp elt gens scope pos) (k + 1) it (.ref D) env) env) Q E s₂) E hA I H fun J Z₁ s₁ x₁ T => ?_) (fun v s₁ h => ?_) fun _ _ e => e)
  · refine wpAny_runOwn ?_
    have T' := T
    obtain ⟨fp, wr, P, Md, St, W, st0, hwZ, hfp, hob, hItm, hself⟩ := T'
    refine comp_start hg (fun Q E q => hself A 0 s₁ Q E hA.handled st0 q) ?_
    have H₁ := (FS C env nm oc sc X ρ [(D, ys)] κ).stable I H x₁
    refine comp_loop (ht J) (step J) hA x₁.inv H₁ T (fun b hb _ => Beside.of I H hb) hsz fun Z₂ s₂ x₂ H₂ => ?_
    exact kk .next Z₂ s₂ ((Step.to x₁).trans x₂) H₂
  · exact wpAny_bind (wpAny_standAt (wpAny_bind (wpAny_of_eq (hs v) (wpAny_bind (wpAny_holding h)))))
end
theorem cells_new : ∀ (names : List (Str × NameKind)) (h : Heap) (acc : List (Str × Addr)) (x : Str) (c : Addr), (x, c) ∈ cellsFrom h.objs.size names acc → (x, c) ∈ acc ∨ (h.objs.size ≤ c ∧ (pushCells h names).IsCell c none ∧ (x, NameKind.cell) ∈ names)
  | [], _, _, _, _, hm => .inl hm
  | (y, kd) :: r, h, acc, x, c, hm => by
    unfold cellsFrom at hm
    unfold pushCells
    by_cases hk : (kd == NameKind.cell) = true
    · rw [if_pos hk] at hm ⊢
      have hs : (h.push { cls := .type "cell", data := .cell none }).objs.size = h.objs.size + 1 := Heap.size_push ..
      rw [← hs] at hm
      rcases cells_new r (h.push { cls := .type "cell", data := .cell none }) _ x c hm with e | ⟨e1, e2, e3⟩
      · rcases List.mem_cons.mp e with e | e
        · cases e
          refine .inr ⟨Nat.le_refl _, ⟨_, pushCells_keeps _ _ _ _ (Heap.get?_push_size _ rfl), rfl⟩, ?_⟩
          rw [beq_iff_eq.mp hk]; exact .head _
        · exact .inl e
      · rw [hs] at e1
        exact .inr ⟨by lia, e2, .tail _ e3⟩
    · rw [if_neg hk] at hm ⊢
      rcases cells_new r h acc x c hm with e | ⟨e1, e2, e3⟩
      · exact .inl e
      · exact .inr ⟨e1, e2, .tail _ e3⟩
theorem cells_apart : ∀ (names : List (Str × NameKind)) (k : Nat) (acc : List (Str × Addr)), acc.Pairwise (fun x y => x.2 ≠ y.2) → (∀ p ∈ acc, p.2 < k) → (cellsFrom k names acc).Pairwise fun x y => x.2 ≠ y.2
  | [], _, _, hp, _ => hp
  | (y, kd) :: r, k, acc, hp, hl => by
    unfold cellsFrom
    split
    · refine cells_apart r (k + 1) _ (List.pairwise_cons.mpr ⟨fun p hq q => ?_, hp⟩) fun p hq => ?_
      · have := hl p hq; rw [← q] at this; exact Nat.lt_irrefl _ this
      · rcases List.mem_cons.mp hq with rfl | hq
        · exact Nat.lt_succ_self _
        · exact Nat.lt_succ_of_lt (hl p hq)
    · exact cells_apart r k acc hp hl
theorem cells_acc {x : Str} : ∀ (names : List (Str × NameKind)) (k : Nat) (acc : List (Str × Addr)), (∀ kd, (x, kd) ∈ names → kd ≠ .cell) → (cellsFrom k names acc).lookup x = acc.lookup x
  | [], _, _, _ => rfl
  | (y, kd) :: r, k, acc, h => by
    unfold cellsFrom
    split
    · rename_i hk
      rw [cells_acc r _ _ fun kd hm => h kd (.tail _ hm), List.lookup_cons]
      have : (x == y) = false := by
        cases q : x == y with
        | false => rfl
        | true => rw [beq_iff_eq.mp q] at h; exact absurd (beq_iff_eq.mp hk) (h kd (.head _))
      rw [this]
    · exact cells_acc r _ _ fun kd hm => h kd (.tail _ hm)
theorem closure_go {env : Env} : ∀ (names : List (Str × NameKind)) (acc : List (Str × Addr)), (∀ x, (x, NameKind.free) ∈ names → ∃ c, env.cells.lookup x = some c) →
    ∃ cl, (forIn names acc (fun (x : Str × NameKind) r => if (x.2 == .free) = true then cellOf env x.1 >>= fun c => pure (ForInStep.yield ((x.1, c) :: r)) else pure (ForInStep.yield r)) : Sem (List (Str × Addr))) = pure cl ∧
      (∀ x c, (x, c) ∈ cl → (x, c) ∈ acc ∨ ((x, NameKind.free) ∈ names ∧ env.cells.lookup x = some c)) ∧ (∀ x, ((x, NameKind.free) ∈ names ∨ (∃ c, (x, c) ∈ acc)) → ∃ c, (x, c) ∈ cl) ∧
      ((∀ p ∈ acc, ∀ q ∈ names, p.1 ≠ q.1) → (names.map (·.1)).Nodup → acc.Pairwise (fun x y => x.1 ≠ y.1) → cl.Pairwise fun x y => x.1 ≠ y.1)
  | [], acc, _ => ⟨acc, rfl, fun _ _ h => .inl h, fun x h => h.elim (fun h => nomatch h) id, fun _ _ h => h⟩
  | (y, kd) :: r, acc, h => by
    by_cases hk : (kd == NameKind.free) = true
    · have hkf : kd = .free := beq_iff_eq.mp hk
      subst hkf
      obtain ⟨c, hc⟩ := h y (.head _)
      obtain ⟨cl, e, m1, m2, m3⟩ := closure_go r ((y, c) :: acc) fun x hx => h x (.tail _ hx)
      refine ⟨cl, ?_, fun x c' hm => ?_, fun x hx => m2 x ?_, fun ha nd hp => m3 (fun p hp' q hq => ?_) (List.nodup_cons.mp nd).2 (List.pairwise_cons.mpr ⟨fun p hp' => ha p hp' (y, .free) (.head _) |>.symm, hp⟩)⟩
      · rw [List.forIn_cons]
        simp only [beq_self_eq_true, if_true]
        unfold cellOf
        rw [hc]
        exact e
      · rcases m1 x c' hm with h1 | ⟨h1, h2⟩
        · rcases List.mem_cons.mp h1 with q | h1
          · cases q; exact .inr ⟨.head _, hc⟩
          · exact .inl h1
        · exact .inr ⟨.tail _ h1, h2⟩
      · rcases hx with hx | ⟨c', hx⟩
        · rcases List.mem_cons.mp hx with q | hx
          · cases q; exact .inr ⟨c, .head _⟩
          · exact .inl hx
        · exact .inr ⟨c', .tail _ hx⟩
      · rcases List.mem_cons.mp hp' with rfl | hp'
        · exact fun e => (List.nodup_cons.mp nd).1 (List.mem_map.mpr ⟨q, hq, e.symm⟩)
        · exact ha p hp' q (.tail _ hq)
    · obtain ⟨cl, e, m1, m2, m3⟩ := closure_go r acc fun x hx => h x (.tail _ hx)
      refine ⟨cl, ?_, fun x c' hm => ?_, fun x hx => m2 x ?_, fun ha nd hp => m3 (fun p hp' q hq => ha p hp' q (.tail _ hq)) (List.nodup_cons.mp nd).2 hp⟩
      · rw [List.forIn_cons]
        simp only [hk, if_false]
        exact e
      · exact (m1 x c' hm).imp id fun ⟨h1, h2⟩ => ⟨.tail _ h1, h2⟩
      · refine hx.imp (fun hx => ?_) id
        rcases List.mem_cons.mp hx with q | hx
        · cases q; exact absurd rfl hk
        · exact hx
theorem closure_ok {env : Env} {scope : Scope} (h : ∀ x, (x, NameKind.free) ∈ scope.names → ∃ c, env.cells.lookup x = some c) (nd : (scope.names.map (·.1)).Nodup) :
    ∃ cl, closureFor scope env = pure cl ∧ (∀ x c, (x, c) ∈ cl → (x, NameKind.free) ∈ scope.names ∧ env.cells.lookup x = some c) ∧ (∀ x, (x, NameKind.free) ∈ scope.names → ∃ c, (x, c) ∈ cl) ∧ cl.Pairwise fun x y => x.1 ≠ y.1 := by
  obtain ⟨cl, e, m1, m2, m3⟩ := closure_go (env := env) scope.names [] h
  refine ⟨cl, ?_, fun x c hm => (m1 x c hm).elim (fun h => nomatch h) id, fun x hx => m2 x (.inl hx), m3 (fun _ h => nomatch h) nd .nil⟩
  unfold closureFor
  simp only [bind_pure]
  exact e
noncomputable def relN (names sc : List (Str × NameKind)) : List (Str × NameKind) := names.map fun (n, k) => if (k == .free && sc.lookup n == some .cell) then (n, .cell) else (n, k)
noncomputable def isCK (k : Option NameKind) : Bool := k == some .cell || k == some .free
inductive FreeR (nm : List Str) (ρ : List (Option Vp)) (sc sc' : List (Str × NameKind)) : List (Str × NameKind) → List Str → List (Option Vp) → Prop where
  | nil : FreeR nm ρ sc sc' [] [] []
  | own {x : Str} {k : NameKind} {r : List (Str × NameKind)} {nm' : List Str} {ρ' : List (Option Vp)} (h : (k == .free) = false) (t : FreeR nm ρ sc sc' r nm' ρ') : FreeR nm ρ sc sc' ((x, k) :: r) (x :: nm') (none :: ρ')
  | free {x : Str} {P : Vp} {r : List (Str × NameKind)} {nm' : List Str} {ρ' : List (Option Vp)} (a : At nm ρ x P) (h1 : isCK (sc.lookup x) = true) (h2 : isCK (sc'.lookup x) = true) (t : FreeR nm ρ sc sc' r nm' ρ') :
      FreeR nm ρ sc sc' ((x, .free) :: r) (x :: nm') (some P :: ρ')
theorem isCK_or {k : Option NameKind} (h : isCK k = true) : k = some .cell ∨ k = some .free := by
  simp only [isCK, Bool.or_eq_true, beq_iff_eq] at h; exact h
section
variable {C : Cx} {n : Nat} {X : Addr → Prop} {Z Z' : Fz} {s s' : Shared} {env : Env} {nm oc : List Str} {sc : List (Str × NameKind)} {ω ω' : List (Addr × List PV)} {κ : Addr → Option Obj} {A : Around} {E : Value → Shared → Prop} {ρ : List (Option Vp)} {D : Addr}
theorem VarAt.cell {h : Heap} {x : Str} {v : Value} (hn : env.scope.names = sc) (hk : isCK (sc.lookup x) = true) (y : VarAt env h x v) : ∃ c, env.cells.lookup x = some c ∧ h.IsCell c (some v) := by
  obtain ⟨_, ⟨hl, _⟩ | ⟨_, c, hc, hv⟩⟩ := y
  · have : env.kindOf x = sc.lookup x := by rw [← hn]; rfl
    rw [this] at hl
    rcases isCK_or hk with q | q <;> rw [q] at hl <;> cases hl
  · exact ⟨c, hc, hv⟩
theorem FreeR.cells {sc' names : List (Str × NameKind)} {nm' : List Str} {ρ' : List (Option Vp)} {h : Heap} (hn : env.scope.names = sc) (hv : Vars env Z h nm ρ) (F : FreeR nm ρ sc sc' names nm' ρ') (x : Str) (hx : (x, NameKind.free) ∈ names) : ∃ c, env.cells.lookup x = some c := by
  induction F with
  | nil => exact nomatch hx
  | own hk _ ih =>
    rcases List.mem_cons.mp hx with q | hx
    · cases q; cases hk
    · exact ih hx
  | free a h1 h2 _ ih =>
    rcases List.mem_cons.mp hx with q | hx
    · cases q
      obtain ⟨v, hva, _⟩ := a.var hv
      exact (hva.cell hn h1).imp fun c e => e.1
    · exact ih hx
theorem FreeR.vars {sc' names : List (Str × NameKind)} {nm' : List Str} {ρ' : List (Option Vp)} {h h' : Heap} {cenv : Env} (hn : env.scope.names = sc) (hn' : cenv.scope.names = sc') (hv : Vars env Z h nm ρ)
    (hc : ∀ x c, (x, NameKind.free) ∈ names → env.cells.lookup x = some c → cenv.cells.lookup x = some c) (hk : ∀ c v, h.IsCell c v → h'.IsCell c v) (F : FreeR nm ρ sc sc' names nm' ρ') : Vars cenv Z h' nm' ρ' := by
  induction F with
  | nil => exact .nil
  | own _ _ ih => exact .un (ih fun x c hx => hc x c (.tail _ hx))
  | @free x _ _ _ _ a h1 h2 _ ih =>
    obtain ⟨v, hva, hp⟩ := a.var hv
    obtain ⟨c, hcx, hcv⟩ := hva.cell hn h1
    have hke : cenv.kindOf x = sc'.lookup x := by rw [← hn']; rfl
    exact .va ⟨hva.1, .inr ⟨by rw [hke]; exact isCK_or h2, c, hc x c (.head _) hcx, hk c _ hcv⟩⟩ hp (ih fun x c hx => hc x c (.tail _ hx))
theorem Turns.keeps {target : Expr} {J : Addr} {ds : List PV} {h h' : Heap} {new : Addr → Prop} (k : ∀ b o, h.get? b = some o → h'.get? b = some o) (T : Turns C target J ds Z h new) : Turns C target J ds Z h' (fun b => new b ∧ ∃ o, h.get? b = some o) := by
  obtain ⟨fp, wr, P, Md, St, W, st0, hwZ, hfp, hob, hItm, hself⟩ := T
  refine ⟨fp, wr, P, Md, St, W, (W { depth := 0, handled := none, units := 0 } rfl).frame _ _ _ st0 fun b _ o e => k b o e, hwZ, fun b hb => (hfp b hb).imp id fun ⟨h1, h2⟩ => ⟨⟨h1, ?_⟩, h2⟩, hob, hItm, hself⟩
  obtain ⟨o, e, _⟩ := hob 0 h st0 b hb
  exact ⟨o, e⟩
theorem new_comp_env {M : Model} {scope : Scope} {globals : Addr} {cl : List (Str × Addr)} {qual : Str} {outer : Env} {Q : Env → Shared → Prop}
    (hQ : ∀ e : Env, e = { scope, locals := s.heap.objs.size, globals, cells := cellsFrom (s.heap.objs.size + 1) scope.names cl, qual, func := none, code := outer.code, frame := outer.frame, builtins := outer.builtins } →
      Q e { s with heap := pushCells (s.heap.push { cls := .type "dict", data := .dict #[] }) scope.names }) : wpAny M A (newFunctionEnv scope globals cl [] qual none .none (some outer)) Q E s := by
  simp only [newFunctionEnv, Option.isSome_some, if_true]
  refine wpAny_bind (wpAny_alloc ?_)
  refine wpAny_bind (wpAny_layCells _ (fun name kind cells => by cases hkc : kind == NameKind.cell <;> simp [hkc]) _ _ _ _ ?_)
  rw [show ({ s with heap := s.heap.push { cls := .type "dict", data := .dict #[] } } : Shared).heap.objs.size = s.heap.objs.size + 1 from Heap.size_push ..]
  exact wpAny_bind (wpAny_pure (wpAny_pure (hQ _ rfl)))
theorem Rfz.refl {a : Addr} {ds : List PV} : ∀ {ρ : List (Option Vp)}, Rfz a ds ρ ρ
  | [] => .nil
  | _ :: _ => .same Rfz.refl
theorem lookup_of_nodup {α : Type} {k : α} : ∀ {names : List (Str × α)} {x : Str}, (names.map (·.1)).Nodup → (x, k) ∈ names → names.lookup x = some k
  | (y, k') :: r, x, nd, hm => by
    rw [List.lookup_cons]
    rcases List.mem_cons.mp hm with q | hm
    · cases q; simp
    · have hne : (x == y) = false := by
        cases q : x == y with
        | false => rfl
        | true => exact absurd (List.mem_map.mpr ⟨_, hm, beq_iff_eq.mp q⟩) (List.nodup_cons.mp nd).1
      rw [hne]; exact lookup_of_nodup (List.nodup_cons.mp nd).2 hm
theorem relN_lookup {sc : List (Str × NameKind)} {x : Str} : ∀ {names : List (Str × NameKind)}, (relN names sc).lookup x = some .cell → names.lookup x = some .cell ∨ names.lookup x = some .free
  | [], h => by simp [relN] at h
  | (y, k) :: r, h => by
    have e : relN ((y, k) :: r) sc = (if (k == .free && sc.lookup y == some .cell) then (y, .cell) else (y, k)) :: relN r sc := rfl
    rw [e] at h
    rw [List.lookup_cons]
    cases q : x == y with
    | true =>
      by_cases hc : (k == NameKind.free && sc.lookup y == some .cell) = true
      · rw [if_pos hc] at h
        simp only [Bool.and_eq_true, beq_iff_eq] at hc
        right; rw [hc.1]
      · rw [if_neg hc, List.lookup_cons, q] at h; left; exact h
    | false =>
      have h' : (relN r sc).lookup x = some .cell := by
        by_cases hc : (k == NameKind.free && sc.lookup y == some .cell) = true
        · rw [if_pos hc, List.lookup_cons, q] at h; exact h
        · rw [if_neg hc, List.lookup_cons, q] at h; exact h
      exact relN_lookup h'
theorem comp_run {α β : Type} {elt target iter : Expr} {ifs : List Expr} {gens : List Comprehension} {scope : Scope} {pos pos' : Pos} {t : Env → Addr → Addr → Sem β} {xs : List α} {f : α → PV} {g : α → List PV} {sc' : List (Str × NameKind)} {nm' oc' : List Str} {ρ' : List (Option Vp)}
    {use : Option (Value → Sem Unit)} {Q : Value → Shared → Prop}
    (hit : IT C n (FS C env nm oc sc X ρ ω κ) iter env target (xs.map f)) (hsc' : relN scope.names sc = sc') (hfr : FreeR nm ρ sc sc' scope.names nm' ρ') (hkind : scope.kind = .function) (hnd : (scope.names.map (·.1)).Nodup) (hnm' : nm' = scope.names.map (·.1))
    (hoc : oc'.all (fun x => scope.names.lookup x != some .free) = true)
    (ht : ∀ cenv D J, compTurn (.ListComp elt (⟨target, iter, ifs, 0⟩ :: gens) scope pos) 0 (.ref J) (.ref D) cenv = (standAt iter.pos >>= fun _ => pyNext (.ref J) >>= fun r => match r with
      | none => pure (.done .next)
      | some v => letOwnedTupleGo target (.ref J) v >>= fun _ => assign target cenv v >>= fun _ =>
        (forIn ifs true fun c r => if r = true then do let ok ← isTrue c cenv (eval c cenv); pure (ForInStep.yield ok) else pure (ForInStep.yield r)) >>= fun ok =>
        if ok = true then t cenv D J >>= fun _ => again (.compLoop (.ListComp elt (⟨target, iter, ifs, 0⟩ :: gens) scope pos) 0 (.ref J) (.ref D) cenv)
        else again (.compLoop (.ListComp elt (⟨target, iter, ifs, 0⟩ :: gens) scope pos) 0 (.ref J) (.ref D) cenv)))
    (step : ∀ cenv D J X', ∀ x ∈ xs, Clause C n X' cenv nm' oc' sc' D ρ' target ifs (t cenv D J) (f x) (g x)) (hsz : (xs.flatMap g).length ≤ sizeLine)
    (hA : Room n A) (I : Inv C Z s) (H : FSp env nm oc sc X ρ ω κ Z s.heap)
    (K : ∀ D c m Z' s', Step C Z s Z' s' → s.heap.get? c = none → Z' c = none → s'.heap.Ns c m → Rd Z' (.ref D) (.list (xs.flatMap g)) → compPost (model C.prog C.w) A E use Q (.ref D) c (.ok .next) s')
    (hs : ∀ x, foldedSetIterable iter env x = pure x := by intro _; rfl) :
    wpAny (model C.prog C.w) A (comprehension (.ListComp elt (⟨target, iter, ifs, 0⟩ :: gens) scope pos) scope env pos' (newList []) false (eval iter env) use) Q E s := by
  subst hnm'
  obtain ⟨cl, hcl, cl1, cl2, cl3⟩ := closure_ok (scope := scope) (hfr.cells H.names H.vars) hnd
  refine wpAny_comprehension_free (g := ⟨target, iter, ifs, 0⟩) (gs := gens) rfl hs hcl hkind (fun x hx hl => lookup_of_nodup hnd (hl ▸ hx)) ?_
  refine hit A s Z _ E hA I H fun J Z₁ s₂ x₁ T => ?_
  refine wpAny_newObj_type ?_ (Nat.zero_le _)
  generalize hH2 : s₂.heap.push { cls := .type "list", dict := none, data := .seq ([] : List Value).toArray } = H2
  have hz2 : H2.objs.size = s₂.heap.objs.size + 1 := by rw [← hH2]; exact Heap.size_push ..
  refine new_comp_env fun e he => ?_
  generalize hH4 : pushCells (H2.push { cls := .type "dict", data := .dict #[] }) scope.names = H4
  have hz3 : (H2.push { cls := .type "dict", data := .dict #[] }).objs.size = H2.objs.size + 1 := Heap.size_push ..
  have keep : ∀ b o, s₂.heap.get? b = some o → H4.get? b = some o := fun b o e => by
    rw [← hH4]; exact pushCells_keeps _ _ _ _ (Heap.get?_push_of_some _ (by rw [← hH2]; exact Heap.get?_push_of_some _ e))
  have none2 : ∀ a, s₂.heap.objs.size ≤ a → s.heap.get? a = none := fun a ha => (x₁.gone (gAb ha)).elim id fun q => q.elim
  have st4 : Step C Z₁ s₂ Z₁ { s₂ with heap := H4 } := .keeps (t := s₂.toks) x₁.inv keep
  have H₁ := (FS C env nm oc sc X ρ ω κ).stable I H x₁
  have hDl : H4.get? s₂.heap.objs.size = some { cls := .type "list", data := .seq ([] : List Value).toArray 0 } := by
    rw [← hH4]; exact pushCells_keeps _ _ _ _ (Heap.get?_push_of_some _ (by rw [← hH2]; exact Heap.get?_push_size _ rfl))
  have hNs : H4.Ns H2.objs.size fun _ => none := by rw [← hH4]; exact (Heap.Ns.new H2 (.type "dict")).keeps (pushCells_keeps _ _)
  have hcells : ∀ x c, (cellsFrom (H2.objs.size + 1) scope.names cl).lookup x = some c → ((x, NameKind.free) ∈ scope.names ∧ env.cells.lookup x = some c) ∨ (H2.objs.size + 1 ≤ c ∧ H4.IsCell c none ∧ (x, NameKind.cell) ∈ scope.names) := fun x c hc => by
    have hm := mem_of_lookup hc
    rw [← hz3] at hm
    rcases cells_new scope.names (H2.push { cls := .type "dict", data := .dict #[] }) cl x c hm with h | ⟨h1, h2, h3⟩
    · exact .inl (cl1 x c h)
    · rw [hz3] at h1; rw [hH4] at h2; exact .inr ⟨h1, h2, h3⟩
  have hcl3 : cl.Pairwise fun x y => x.2 ≠ y.2 := by
    refine List.Pairwise.imp_of_mem (fun {a b} ha hb hne q => hne ?_) cl3
    exact name_of_addr H.apart (mem_of_lookup (cl1 a.1 a.2 ha).2) (q ▸ mem_of_lookup (cl1 b.1 b.2 hb).2)
  have hlt : ∀ p ∈ cl, p.2 < H2.objs.size + 1 := fun p hp => by
    obtain ⟨_, v, o, e, _⟩ := H₁.cells _ _ (cl1 p.1 p.2 hp).2
    exact Nat.lt_of_lt_of_le (Heap.lt_size e) (by lia)
  have HC : FSp { e with scope := relabel scope env } (scope.names.map (·.1)) oc' sc' (fun a => s.heap.get? a = none) ρ' [(s₂.heap.objs.size, [])] (fun _ => none) Z₁ H4 := by
    subst he
    have hrel : (relabel scope env).names = sc' := by
      rw [← hsc']
      show scope.names.map _ = scope.names.map _
      refine List.map_congr_left fun p _ => ?_
      obtain ⟨x, k⟩ := p
      have e1 : env.kindOf x = sc.lookup x := by rw [← H.names]; rfl
      have e2 : (env.scope.kind == ScopeKind.function) = true := by rw [H.fn]; rfl
      simp only [e1, e2, Bool.and_true]
    refine ⟨hrel, H.gl, H.bl, fun x hx hk => ?_, hkind, hnd, ?_, ⟨_, hNs⟩, none2 H2.objs.size (by lia), ?_, fun x c hc => ?_, fun x hx c hc => ?_, fun a ha => ?_, ?_, fun p hp => ?_, fun p hp => ?_, ?_, (fun _ _ h => nomatch h), fun _ _ h => nomatch h⟩
    · rw [← hsc'] at hk
      have hx' := List.all_eq_true.mp hoc x hx
      rcases relN_lookup hk with q | q
      · obtain ⟨c, hc⟩ := cellsFrom_mem scope.names (H2.objs.size + 1) cl x (.inl (mem_of_lookup q))
        exact lookup_of_mem hc
      · rw [q] at hx'; simp at hx'
    · exact cells_apart _ _ _ hcl3 hlt
    · show Z₁ H2.objs.size = none
      exact x₁.inv.fresh (gAb (by lia))
    · rcases hcells x c hc with ⟨_, h⟩ | ⟨h1, h2, _⟩
      · obtain ⟨hz, v, o, e, d⟩ := H₁.cells x c h
        exact ⟨hz, v, o, keep _ _ e, d⟩
      · exact ⟨x₁.inv.fresh (gAb (by lia)), _, h2⟩
    · rcases hcells x c hc with ⟨h, _⟩ | ⟨h1, _, _⟩
      · have hx' := List.all_eq_true.mp hoc x hx
        rw [lookup_of_nodup hnd h] at hx'; simp at hx'
      · exact none2 _ (by lia)
    · exact (x₁.gone ((st4.gone ha).elim id fun q => q.elim)).elim id fun q => q.elim
    · refine hfr.vars H.names hrel H₁.vars (fun x c hx hc => ?_) fun c v ⟨o, e, d⟩ => ⟨o, keep _ _ e, d⟩
      show (cellsFrom (H2.objs.size + 1) scope.names cl).lookup x = some c
      rw [cells_acc scope.names _ _ fun kd hm q => ?_]
      · obtain ⟨c', hc'⟩ := cl2 x hx
        have : cl.lookup x = some c' := by
          obtain ⟨c'', h''⟩ := Option.isSome_iff_exists.mp (lookup_of_mem hc')
          have e1 := (cl1 x c' hc').2
          have e2 := (cl1 x c'' (mem_of_lookup h'')).2
          rw [e1] at e2; cases e2; exact h''
        rw [this, ← (cl1 x c' hc').2, hc]
      · have := lookup_of_nodup hnd hm
        rw [lookup_of_nodup hnd hx, q] at this; cases this
    · rw [List.mem_singleton.mp hp]
      exact ⟨x₁.inv.fresh (gAb (Nat.le_refl _)), [], 0, hDl, .nil⟩
    · rw [List.mem_singleton.mp hp]; exact none2 _ (Nat.le_refl _)
    · simp
  have T' := T.keeps keep
  have Ts := T'
  obtain ⟨fp, wr, P, Md, St, W, st0, hwZ, hfp, hob, hItm, hself⟩ := Ts
  refine comp_start (target := target) (iter := iter) (ifs := ifs) rfl (fun Q E q => hself A 0 _ Q E hA.handled st0 q) ?_
  refine comp_loop (ys := []) (s := { s₂ with heap := H4 }) (ht _ _ _) (step _ _ _ _) hA st4.inv HC T' (fun b hb hz => ?_) (by simpa using hsz) fun Z' s' x' H' => ?_
  · obtain ⟨hb1, o, hb2⟩ := hb
    have hbl := Heap.lt_size hb2
    have ne : ∀ c o, s.heap.get? c = some o → b ≠ c := fun c o e q => by rw [q, e] at hb1; cases hb1
    refine ⟨hb1, ?_, fun x c hc => ?_, fun p hp => ?_, rfl, fun t ht => ?_⟩
    · rw [he]; show b ≠ H2.objs.size; exact Nat.ne_of_lt (Nat.lt_of_lt_of_le hbl (by lia))
    · rw [he] at hc
      rcases hcells x c hc with ⟨_, h⟩ | ⟨h1, _, _⟩
      · obtain ⟨_, v, o, e, _⟩ := H.cells x c h; exact ne _ _ e
      · exact Nat.ne_of_lt (Nat.lt_of_lt_of_le hbl (Nat.le_trans (by lia) h1))
    · rw [List.mem_singleton.mp hp]; show b ≠ s₂.heap.objs.size; exact Nat.ne_of_lt hbl
    · obtain ⟨ps, e, _⟩ := I.tabs t ht; exact ne _ _ e
  · rw [List.nil_append] at H'
    obtain ⟨Z'', st'', H'', hd⟩ := H'.freeze x'.inv .here Rfz.refl
    obtain ⟨m, hn⟩ := H''.loc
    refine K s₂.heap.objs.size e.locals m Z'' s' ?_ ?_ H''.locZ hn hd
    · exact StepX.over (x₁.trans st4) (x'.trans st'') fun b hb => hb
    · rw [he]; exact none2 _ (by show s₂.heap.objs.size ≤ H2.objs.size; lia)
end
structure CompOk {α β : Type} (C : Cx) (n : Nat) (X : Addr → Prop) (env : Env) (nm oc : List Str) (sc : List (Str × NameKind)) (ρ : List (Option Vp)) (ω : List (Addr × List PV)) (κ : Addr → Option Obj)
    (elt target iter : Expr) (ifs : List Expr) (gens : List Comprehension) (scope : Scope) (pos : Pos) (t : Env → Addr → Addr → Sem β) (xs : List α) (f : α → PV) (g : α → List PV) (sc' : List (Str × NameKind)) (nm' oc' : List Str) (ρ' : List (Option Vp)) : Prop where
  hit : IT C n (FS C env nm oc sc X ρ ω κ) iter env target (xs.map f)
  hsc' : relN scope.names sc = sc'
  hfr : FreeR nm ρ sc sc' scope.names nm' ρ'
  hkind : scope.kind = .function
  hnd : (scope.names.map (·.1)).Nodup
  hnm' : nm' = scope.names.map (·.1)
  hoc : oc'.all (fun x => scope.names.lookup x != some .free) = true
  ht : ∀ cenv D J, compTurn (.ListComp elt (⟨target, iter, ifs, 0⟩ :: gens) scope pos) 0 (.ref J) (.ref D) cenv = (standAt iter.pos >>= fun _ => pyNext (.ref J) >>= fun r => match r with
      | none => pure (.done .next)
      | some v => letOwnedTupleGo target (.ref J) v >>= fun _ => assign target cenv v >>= fun _ =>
        (forIn ifs true fun c r => if r = true then do let ok ← isTrue c cenv (eval c cenv); pure (ForInStep.yield ok) else pure (ForInStep.yield r)) >>= fun ok =>
        if ok = true then t cenv D J >>= fun _ => again (.compLoop (.ListComp elt (⟨target, iter, ifs, 0⟩ :: gens) scope pos) 0 (.ref J) (.ref D) cenv)
        else again (.compLoop (.ListComp elt (⟨target, iter, ifs, 0⟩ :: gens) scope pos) 0 (.ref J) (.ref D) cenv))
  step : ∀ cenv D J X', ∀ x ∈ xs, Clause C n X' cenv nm' oc' sc' D ρ' target ifs (t cenv D J) (f x) (g x)
  hsz : (xs.flatMap g).length ≤ sizeLine
  hs : ∀ x, foldedSetIterable iter env x = pure x
section
variable {C : Cx} {n : Nat} {X : Addr → Prop} {Z Z' : Fz} {s s' : Shared} {env : Env} {nm oc : List Str} {sc : List (Str × NameKind)} {ω ω' : List (Addr × List PV)} {κ : Addr → Option Obj} {A : Around} {E : Value → Shared → Prop} {ρ ρ₂ : List (Option Vp)} {D : Addr} {R : Vp}
variable {α β : Type} {elt target iter : Expr} {ifs : List Expr} {gens : List Comprehension} {scope : Scope} {pos pos' : Pos} {t : Env → Addr → Addr → Sem β} {xs : List α} {f : α → PV} {g : α → List PV} {sc' : List (Str × NameKind)} {nm' oc' : List Str} {ρ' : List (Option Vp)}
theorem ev_compG (O : CompOk C n X env nm oc sc ρ ω κ elt target iter ifs gens scope pos t xs f g sc' nm' oc' ρ') :
    EV C n (FS C env nm oc sc X ρ ω κ) (eval (.ListComp elt (⟨target, iter, ifs, 0⟩ :: gens) scope pos) env) (is (.list (xs.flatMap g))) := fun A s Z Q E hA I H k => by
  rw [eval_ListComp]
  show wpAny _ A (comprehension (.ListComp elt (⟨target, iter, ifs, 0⟩ :: gens) scope pos) scope env _ (newList []) false (eval iter env) none) Q E s
  refine comp_run O.hit O.hsc' O.hfr O.hkind O.hnd O.hnm' O.hoc O.ht O.step O.hsz hA I H (fun D c m Z' s' x hc hz hn hd => ⟨m, hn, fun h' hs' => ?_⟩) O.hs
  have st : StepX C (· = c) Z' s' Z' { s' with heap := h' } := .write (t := s'.toks) x.inv rfl hs' hz (x.inv.ns_notTab hn)
  exact k _ Z' _ (StepX.over x st fun b hb => hb ▸ hc) hd
theorem ex_assignC {x : Str} {xp spos : Pos} (hsw : swapsWith (.ListComp elt (⟨target, iter, ifs, 0⟩ :: gens) scope pos) (some (.Name x xp)) spos.line env = pure true)
    (O : CompOk C n X env nm oc sc ρ ω κ elt target iter ifs gens scope pos t xs f g sc' nm' oc' ρ') (hu : Upd nm ρ x (some (is (.list (xs.flatMap g)))) ρ₂) (pl : PlainName x) (hk : canSt sc oc x = true) :
    EX C n X (FS C env nm oc sc X ρ ω κ) (exec (.Assign [.Name x xp] (.ListComp elt (⟨target, iter, ifs, 0⟩ :: gens) scope pos) spos) env) (FS C env nm oc sc X ρ₂ ω κ) R := fun A s Z Q E hA I H k kr => by
  rw [exec_Assign_Name_used _ _ _ _ hsw]
  refine wpAny_bind (wpAny_standAt (wpAny_bind ?_))
  show wpAny _ A (do let _ ← comprehension (.ListComp elt (⟨target, iter, ifs, 0⟩ :: gens) scope pos) scope env _ (newList []) false (eval iter env) (some (assign (.Name x xp) env))) _ _ s
  refine wpAny_bind (wpAny_mono (comp_run (use := some (assign (.Name x xp) env)) (Q := fun _ s' => Q .next s') (E := E) O.hit O.hsc' O.hfr O.hkind O.hnd O.hnm' O.hoc O.ht O.step O.hsz hA I H (fun D c m Z' s' x' hc hz hn hd => ?_) O.hs) (fun _ s' hq => wpAny_pure (wpAny_pure hq)) fun _ _ e => e)
  have H' := (FS C env nm oc sc X ρ ω κ).stable I H x'
  have hB := Beside.of I H hc
  have hH : FSp env nm oc sc X ρ ω (holdK κ [c] Z' s'.heap) Z' s'.heap := FSp.hold (C := C) H' fun b hb _ => by
    rw [List.mem_singleton.mp hb]
    refine ⟨hB, fun o e ps q => ?_⟩
    obtain ⟨o', _, _, e', d, _⟩ := hn
    rw [e] at e'; cases e'; subst q; cases d
  show wpAny _ A (assign (.Name x xp) env (.ref D)) _ E s'
  refine assign_Name (st_name x'.inv hH hd hu pl hk fun s₂ x₂ H₂ => ?_)
  obtain ⟨o, es, ep, e, hd', hr⟩ := hn
  have e2 : s₂.heap.get? c = some o := (H₂.held c o (by rw [holdK, if_pos ⟨List.mem_singleton.mpr rfl, hz⟩]; exact e)).at_
  refine ⟨m, ⟨o, es, ep, e2, hd', hr⟩, fun h' hs' => ?_⟩
  have H₃ : FSp env nm oc sc X ρ₂ ω κ Z' s₂.heap := FSp.drop (fun b hb _ => by rw [List.mem_singleton.mp hb]; exact hB.held) H₂
  obtain ⟨x₃, H₄⟩ := FSp.beside (t := s₂.toks) (W := [c]) (h' := h') x₂.inv H₃ (fun b hb => by rw [List.mem_singleton.mp hb]; exact hB) (fun b hb => by rw [List.mem_singleton.mp hb]; exact hz)
    fun b o hb e => hs'.extBut b o (fun q => hb (by rw [q]; exact .head _)) e
  exact k Z' _ (((Step.to x').trans x₂).trans x₃) H₄
theorem flat_one {h : α → PV} : xs.flatMap (fun x => [h x]) = xs.map h := by
  induction xs with
  | nil => rfl
  | cons x xs ih => rw [List.flatMap_cons, ih]; rfl
theorem flat_if {h : α → PV} {p : α → Bool} : xs.flatMap (fun x => if p x then [h x] else []) = (xs.filter p).map h := by
  induction xs with
  | nil => rfl
  | cons x xs ih =>
    rw [List.flatMap_cons, ih, List.filter_cons]
    cases p x <;> rfl
end
def PI (C : Cx) (n : Nat) (P : Vp) (target : Expr) (ds : List PV) : Prop :=
  ∀ (A : Around) (s : Shared) (Z : Fz) (v : Value) (Q : Value → Shared → Prop) (E : Value → Shared → Prop), Room n A → Inv C Z s → P.at_ Z v →
    (∀ I Z' s', Step C Z s Z' s' → Turns C target I ds Z' s'.heap (fun b => s.heap.get? b = none) → Q (.ref I) s') → wpAny (model C.prog C.w) A (pyIter v) Q E s
def FI (C : Cx) (n : Nat) (f : Value) (Ps : List Vp) (target : Expr) (ds : List PV) : Prop :=
  ∀ (A : Around) (s : Shared) (Z : Fz) (vs : List Value) (Q : Value → Shared → Prop) (E : Value → Shared → Prop), Room n A → Inv C Z s → Sat Z vs Ps →
    (∀ I Z' s', Step C Z s Z' s' → Turns C target I ds Z' s'.heap (fun b => s.heap.get? b = none) → Q (.ref I) s') →
      wpAny (model C.prog C.w) A (call f vs) (fun x s₁ => wpAny (model C.prog C.w) A (pyIter x) Q E s₁) E s
section
variable {C : Cx} {n : Nat} {Φ : Asn C} {env : Env} {P R : Vp} {Ps : List Vp} {e iter target : Expr} {es args : List Expr} {pos p : Pos} {ds : List PV} {Z Z' : Fz} {s s' : Shared}
theorem Turns.new {J : Addr} {h : Heap} {new new' : Addr → Prop} (k : ∀ b, new b → new' b) (T : Turns C target J ds Z h new) : Turns C target J ds Z h new' := by
  obtain ⟨fp, wr, P, Md, St, W, st0, hwZ, hfp, r1, r2, r3⟩ := T
  exact ⟨fp, wr, P, Md, St, W, st0, hwZ, fun b hb => (hfp b hb).imp id fun ⟨h1, h2⟩ => ⟨k b h1, h2⟩, r1, r2, r3⟩
theorem Step.gone' (x : Step C Z s Z' s') {b : Addr} (h : s'.heap.get? b = none) : s.heap.get? b = none := (x.gone h).elim id fun q => q.elim
theorem it_ev (h : EV C n Φ (eval iter env) P) (hp : PI C n P target ds) : IT C n Φ iter env target ds := fun A s Z Q E hA I H k => by
  refine h A s Z _ E hA I H fun v Z₁ s₁ x₁ pv => ?_
  exact hp A s₁ Z₁ v Q E hA x₁.inv pv fun J Z₂ s₂ x₂ T => k J Z₂ s₂ (x₁.trans x₂) (T.new fun b hb => Step.gone' x₁ hb)
theorem it_callT {x : Str} {id : String} (hf : EV C n Φ (eval (.Name x p) env) (isv (.type id))) (ha : EL C n Φ (spliced (backTo pos (starEach (e :: es) env))) Ps) (hc : FI C n (.type id) Ps target ds)
    (he : starEach (e :: es) env = (false, eval e env) :: starEach es env := by rfl) (hp : (backTo pos (starEach es env)).any (·.1) = false := by rfl) :
    IT C n Φ (.Call (.Name x p) (e :: es) [] pos) env target ds := fun A s Z Q E hA I H k => by
  refine wpAny_Call_NameR (hf A s Z _ E hA I H fun v Z₁ s₁ x₁ pv => ?_)
  cases pv
  refine callWith_type1 (ha A s₁ Z₁ _ E hA x₁.inv (Φ.stable I H x₁) fun vs Z₂ s₂ x₂ hs => ?_) he hp
  exact hc A s₂ Z₂ vs Q E hA x₂.inv hs fun J Z₃ s₃ x₃ T => k J Z₃ s₃ ((x₁.trans x₂).trans x₃) (T.new fun b hb => Step.gone' (x₁.trans x₂) hb)
theorem letGo_plain {prog : Program} {w : World} {A : Around} {E : Value → Shared → Prop} {I : Addr} {o : Obj} {v : Value} {T : String} {Q : Unit → Shared → Prop} (ho : s.heap.get? I = some o) (hc : o.cls = .type T)
    (hT : ["enumerate", "zip", "dict_itemiterator", "dict_reverseitemiterator", "odict_iterator", "itertools.zip_longest", "itertools.pairwise"].contains T = false) (q : Q () s) : wpAny (model prog w) A (letOwnedTupleGo target (.ref I) v) Q E s := by
  have go : wpAny (model prog w) A (do
      let (.ref r, .ref a) := ((.ref I : Value), v) | return
      let o ← load r
      match o.cls, o.data with
      | .type n, .fields vs =>
        if ["enumerate", "zip", "dict_itemiterator", "dict_reverseitemiterator", "odict_iterator", "itertools.zip_longest", "itertools.pairwise"].contains n && vs[0]? == some (rawInt a) then
          rule "for.unpacks-the-owned-tuple"
          updateField r 0 .none
      | _, _ => pure ()) Q E s := by
    cases v with
    | ref a =>
      refine wpAny_bind (wpAny_load ho ?_)
      obtain ⟨c, d, dt, sl⟩ := o
      cases hc
      cases dt with
      | fields vs =>
        show wpAny _ A (if (["enumerate", "zip", "dict_itemiterator", "dict_reverseitemiterator", "odict_iterator", "itertools.zip_longest", "itertools.pairwise"].contains T && vs[0]? == some (rawInt a)) = true then _ else _) Q E s
        rw [hT, Bool.false_and, if_neg (by decide)]
        exact wpAny_pure q
      | _ => exact wpAny_pure q
    | _ => exact wpAny_pure q
  cases target with
  | Tuple => exact go
  | List => exact go
  | _ => exact wpAny_pure q
theorem RdL.at {vs : List Value} (r : RdL Z vs ds) {i : Nat} {v : Value} {d : PV} (h1 : vs[i]? = some v) (h2 : ds[i]? = some d) : Rd Z v d := by
  obtain ⟨u, e, p⟩ := r.get h2
  rw [h1] at e; cases e; exact p
theorem turns_walks {J : Addr} {fp wr : List Addr} {P : Nat → Value → Prop} {St : Nat → Heap → Prop} {h : Heap} {new : Addr → Prop} (W : ∀ A : Around, A.handled = none → Walks C.prog C.w A J fp wr ds.length P St)
    (go : ∀ i h', St i h' → ∃ o T, h'.get? J = some o ∧ o.cls = .type T ∧ ["enumerate", "zip", "dict_itemiterator", "dict_reverseitemiterator", "odict_iterator", "itertools.zip_longest", "itertools.pairwise"].contains T = false)
    (st0 : St 0 h) (hwZ : ∀ b ∈ wr, Z b = none) (hfp : ∀ b ∈ fp, (∃ o, Z b = some o) ∨ (new b ∧ Z b = none)) (hob : ∀ i h', St i h' → ∀ b ∈ fp, ∃ o, h'.get? b = some o ∧ (Z b = none → ∀ ps, o ≠ tabObj ps))
    (hItm : ∀ i v d Z', Le Z Z' → ds[i]? = some d → P i v → Rd Z' v d) : Turns C target J ds Z h new :=
  ⟨fp, wr, fun i v _ => P i v, fun i v h => P i v ∧ St (i + 1) h, St, fun A hA => KTurns.ofWalks (W A hA) fun i v s Q E st q => by
    obtain ⟨o, T, ho, hc, hT⟩ := go i _ st
    exact letGo_plain ho hc hT q, st0, hwZ, hfp, hob, fun i v h' d Z' le _ hd hP => .plain (hItm i v d Z' le hd hP), fun A i s Q E hA st q => (W A hA).self i s Q E st q⟩
theorem pi_list : PI C n (is (.list ds)) target ds := fun A s Z v Q E hA I hv k => by
  obtain ⟨_, _, _, rfl, h, r⟩ := rdi hv
  rename_i a m vs
  have hl := isList_of I h
  refine wpAny_pyIter_list hl ?_
  have hal := Heap.lt_size (I.heap _ _ h)
  have st : Step C Z s Z _ := StepX.push I (o := { cls := .type "list_iterator", data := .fields #[.ref a, .int 0 0] }) (t := s.toks)
  have hne : a ≠ s.heap.objs.size := Nat.ne_of_lt hal
  have hsz : ds.length = vs.toArray.size := by rw [List.size_toArray, r.length]
  refine k _ Z _ st (turns_walks (fun A hA => hsz ▸ Walks.list hA s.heap.objs.size a hne vs.toArray) (fun i h' st' => ?_) ⟨⟨_, Heap.get?_push_size _ rfl, rfl, rfl⟩, hl.push _⟩ (fun b hb => ?_) (fun b hb => ?_) (fun i h' st' b hb => ?_) fun i v d Z' le hd hP => RdL.at (RdL.le le r) (by simpa using hP) hd)
  · obtain ⟨⟨o, ho, hc, _⟩, _⟩ := st'
    exact ⟨o, _, ho, hc, by decide +kernel⟩
  · rw [List.mem_singleton.mp hb]; exact I.fresh (gAb (Nat.le_refl _))
  · rcases List.mem_cons.mp hb with rfl | hb
    · exact .inr ⟨gAb (Nat.le_refl _), I.fresh (gAb (Nat.le_refl _))⟩
    · rw [List.mem_singleton.mp hb]; exact .inl ⟨_, h⟩
  · obtain ⟨⟨o, ho, hc, hd⟩, o', ho', _⟩ := st'
    rcases List.mem_cons.mp hb with rfl | hb
    · exact ⟨o, ho, fun _ ps q => by subst q; simp [tabObj] at hc⟩
    · rw [List.mem_singleton.mp hb]; exact ⟨o', ho', fun q => by rw [h] at q; cases q⟩
theorem pi_tup : PI C n (is (.tup ds)) target ds := fun A s Z v Q E hA I hv k => by
  obtain ⟨_, _, _, rfl, h, r⟩ := rdi hv
  rename_i a m vs
  have hl : s.heap.IsTuple a vs.toArray := ⟨_, I.heap _ _ h, rfl, m, rfl⟩
  refine wpAny_pyIter_tuple hl ?_
  have hal := Heap.lt_size (I.heap _ _ h)
  have st : Step C Z s Z _ := StepX.push I (o := { cls := .type "tuple_iterator", data := .fields #[.ref a, .int 0 0] }) (t := s.toks)
  have hne : a ≠ s.heap.objs.size := Nat.ne_of_lt hal
  have hsz : ds.length = vs.toArray.size := by rw [List.size_toArray, r.length]
  refine k _ Z _ st (turns_walks (fun A hA => hsz ▸ Walks.tuple hA s.heap.objs.size a hne vs.toArray) (fun i h' st' => ?_) ⟨⟨_, Heap.get?_push_size _ rfl, rfl, rfl⟩, hl.push _⟩ (fun b hb => ?_) (fun b hb => ?_) (fun i h' st' b hb => ?_) fun i v d Z' le hd hP => RdL.at (RdL.le le r) (by simpa using hP) hd)
  · obtain ⟨⟨o, ho, hc, _⟩, _⟩ := st'
    exact ⟨o, _, ho, hc, by decide +kernel⟩
  · rw [List.mem_singleton.mp hb]; exact I.fresh (gAb (Nat.le_refl _))
  · rcases List.mem_cons.mp hb with rfl | hb
    · exact .inr ⟨gAb (Nat.le_refl _), I.fresh (gAb (Nat.le_refl _))⟩
    · rw [List.mem_singleton.mp hb]; exact .inl ⟨_, h⟩
  · obtain ⟨⟨o, ho, hc, hd⟩, o', ho', _⟩ := st'
    rcases List.mem_cons.mp hb with rfl | hb
    · exact ⟨o, ho, fun _ ps q => by subst q; simp [tabObj] at hc⟩
    · rw [List.mem_singleton.mp hb]; exact ⟨o', ho', fun q => by rw [h] at q; cases q⟩
noncomputable def rngL (a : Int) (n : Nat) : List PV := (List.range n).map fun (i : Nat) => PV.int (a + (i : Int))
theorem rngL_length {a : Int} {n : Nat} : (rngL a n).length = n := by simp [rngL]
end
noncomputable def enumL (ds : List PV) : List PV := ds.zipIdx.map fun p => PV.tup [.int (p.2 : Int), p.1]
noncomputable def zipL (ds es : List PV) : List PV := (ds.zip es).map fun p => PV.tup [p.1, p.2]
section
variable {C : Cx} {n : Nat} {Φ : Asn C} {env : Env} {P R : Vp} {Ps : List Vp} {e iter target : Expr} {es args : List Expr} {pos p : Pos} {ds : List PV} {Z Z' : Fz} {s s' : Shared}
theorem turns_walksU {J : Addr} {fp wr : List Addr} {Pt : Nat → Array Value → Prop} {St : Nat → Heap → Prop} {Mid : Nat → Addr → Heap → Prop} {h : Heap} {new : Addr → Prop} {ts : List Expr} {kk : Nat} (W : ∀ A : Around, A.handled = none → WalksT C.prog C.w A J fp wr ds.length Pt St Mid)
    (st0 : St 0 h) (hwZ : ∀ b ∈ wr, Z b = none) (hfp : ∀ b ∈ fp, (∃ o, Z b = some o) ∨ (new b ∧ Z b = none)) (hob : ∀ i h', St i h' → ∀ b ∈ fp, ∃ o, h'.get? b = some o ∧ (Z b = none → ∀ ps, o ≠ tabObj ps))
    (hItm : ∀ i vals d Z', Le Z Z' → ds[i]? = some d → Pt i vals → ∃ dd, d = .tup dd ∧ RdL Z' vals.toList dd) : Turns C (.Tuple ts kk p) J ds Z h new :=
  ⟨fp, wr, _, _, St, fun A hA => KTurns.ofWalksU (W A hA).toU, st0, hwZ, hfp, hob, fun i v h' d Z' le _ hd hP => by
    obtain ⟨T, vals, rfl, hP, hT⟩ := hP
    obtain ⟨dd, rfl, hr⟩ := hItm i vals d Z' le hd hP
    exact .tupv hT hr, fun A i s Q E hA st q => (W A hA).self i s Q E st q⟩
theorem range_turns {s : Shared} (I : Inv C Z s) {J : Addr} {a : Int} {m : Nat} {h : Heap} {new : Addr → Prop} (hJ : IsRangeIter h J a m 1) (hz : Z J = none) (hn : new J) (hr : ds = rngL a m) : Turns C target J ds Z h new := by
  subst hr
  refine turns_walks (St := fun i h => IsRangeIter h J (a + (i : Nat) * 1) ((m : Int) - (i : Nat)) 1) (fun A hA => by rw [rngL_length]; exact Walks.range hA J a 1 m) (fun i h' st' => ⟨_, _, st', rfl, by decide +kernel⟩) (show IsRangeIter h J (a + ((0 : Nat) : Int) * 1) ((m : Int) - ((0 : Nat) : Int)) 1 by simpa using hJ) (fun b hb => ?_) (fun b hb => ?_) (fun i h' st' b hb => ?_) fun i v d Z' le hd hP => ?_
  · rw [List.mem_singleton.mp hb]; exact hz
  · rw [List.mem_singleton.mp hb]; exact .inr ⟨hn, hz⟩
  · rw [List.mem_singleton.mp hb]; exact ⟨_, st', fun _ ps q => by have := congrArg Obj.cls q; simp [tabObj] at this⟩
  · obtain ⟨t, rfl⟩ := hP
    rw [rngL, List.getElem?_map] at hd
    cases hq : (List.range m)[i]? with
    | none => rw [hq] at hd; cases hd
    | some j =>
      rw [hq] at hd; cases hd
      have hj := List.getElem?_eq_some_iff.mp hq
      obtain ⟨hlt, hj⟩ := hj
      rw [List.getElem_range] at hj
      subst hj
      rw [Int.mul_one]
      exact .int _ _
theorem rangeSize_one {a b : Int} : Builtin.Range.rangeSize a b 1 = ((b - a).toNat : Int) := by
  unfold Builtin.Range.rangeSize
  rw [if_pos (by decide), Int.ediv_one]
  by_cases h : a < b
  · rw [if_pos h, Int.toNat_of_nonneg (by lia)]; lia
  · rw [if_neg h, Int.toNat_of_nonpos (by lia)]; rfl
theorem fi_range1 {m : Int} (hsm : Builtin.Range.small 0 m 1 = true) : FI C n (.type "range") [is (.int m)] target (rngL 0 m.toNat) := fun A s Z vs Q E hA I hv k => by
  obtain ⟨_, _, rfl, h, r⟩ := sati hv
  obtain rfl := sati r
  obtain ⟨_, rfl⟩ := rdi h
  rename_i t
  refine call_range_1 ?_
  have st : Step C Z s Z _ := StepX.push I (o := { cls := .type "range", data := .fields #[.int 0 s.toks, .int m t, .int 1 (s.toks + 1)] }) (t := s.toks + 1 + 1)
  refine wpAny_pyIter_range (Heap.get?_push_size _ rfl) hsm ?_
  have st2 : Step C Z _ Z _ := StepX.push st.inv (o := { cls := .type "range_iterator", data := .fields #[rawInt 0, rawInt (Builtin.Range.rangeSize 0 m 1), rawInt 1] }) (t := s.toks + 1 + 1)
  refine k _ Z _ (st.trans st2) (range_turns (m := m.toNat) st2.inv (a := 0) ?_ (st.inv.fresh (gAb (Nat.le_refl _))) (Step.gone' st (gAb (Nat.le_refl _))) rfl)
  have := Heap.get?_push_size (s.heap.push { cls := .type "range", data := .fields #[.int 0 s.toks, .int m t, .int 1 (s.toks + 1)] }) (o := { cls := .type "range_iterator", data := .fields #[rawInt 0, rawInt (Builtin.Range.rangeSize 0 m 1), rawInt 1] }) rfl
  rw [rangeSize_one, show m - 0 = m by lia] at this ⊢
  exact this
theorem fi_range2 {a b : Int} (hsm : Builtin.Range.small a b 1 = true) : FI C n (.type "range") [is (.int a), is (.int b)] target (rngL a (b - a).toNat) := fun A s Z vs Q E hA I hv k => by
  obtain ⟨_, _, rfl, h, r⟩ := sati hv
  obtain ⟨_, _, rfl, h', r'⟩ := sati r
  cases r'
  obtain ⟨_, rfl⟩ := rdi h; obtain ⟨_, rfl⟩ := rdi h'
  rename_i t u
  refine call_range_2 ?_
  have st : Step C Z s Z _ := StepX.push I (o := { cls := .type "range", data := .fields #[.int a t, .int b u, .int 1 s.toks] }) (t := s.toks + 1)
  refine wpAny_pyIter_range (Heap.get?_push_size _ rfl) hsm ?_
  have st2 : Step C Z _ Z _ := StepX.push st.inv (o := { cls := .type "range_iterator", data := .fields #[rawInt a, rawInt (Builtin.Range.rangeSize a b 1), rawInt 1] }) (t := s.toks + 1)
  refine k _ Z _ (st.trans st2) (range_turns (m := (b - a).toNat) st2.inv (a := a) ?_ (st.inv.fresh (gAb (Nat.le_refl _))) (Step.gone' st (gAb (Nat.le_refl _))) rfl)
  have := Heap.get?_push_size (s.heap.push { cls := .type "range", data := .fields #[.int a t, .int b u, .int 1 s.toks] }) (o := { cls := .type "range_iterator", data := .fields #[rawInt a, rawInt (Builtin.Range.rangeSize a b 1), rawInt 1] }) rfl
  rw [rangeSize_one] at this ⊢
  exact this
theorem fi_enum {ts : List Expr} {kk : Nat} : FI C n (.type "enumerate") [is (.list ds)] (.Tuple ts kk p) (enumL ds) := fun A s Z vs Q E hA I hv k => by
  obtain ⟨_, _, rfl, h, r⟩ := sati hv
  cases r
  cases h with
  | list h r =>
    rename_i a m vs
    have hl := isList_of I h
    refine call_enumerate_list hl fun h' he hit hsz hk => ?_
    refine wpAny_pyIter_enum he ?_
    have hal := Heap.lt_size (I.heap _ _ h)
    have st : Step C Z s Z { s with heap := h' } := .keeps (t := s.toks) I hk
    have hlen : (enumL ds).length = vs.toArray.size := by rw [enumL, List.length_map, List.length_zipIdx, List.size_toArray, r.length]
    have g0 := gAb (Nat.le_refl s.heap.objs.size)
    have g1 := gAb (Nat.le_succ s.heap.objs.size)
    refine k _ Z _ st (turns_walksU (fun A hA => hlen ▸ WalksT.enumerate hA (s.heap.objs.size + 1) s.heap.objs.size a (Nat.ne_of_gt (Nat.lt_succ_self _)) (Nat.ne_of_lt (Nat.lt_succ_of_lt hal)) (Nat.ne_of_lt hal) vs.toArray)
      ⟨⟨_, he⟩, hit, hl.at fun o e => hk _ o e⟩ (fun b hb => ?_) (fun b hb => ?_) (fun i h' st' b hb => ?_) fun i vals d Z' le hd hP => ?_)
    · rcases List.mem_cons.mp hb with rfl | hb
      · exact I.fresh g1
      · rw [List.mem_singleton.mp hb]; exact I.fresh g0
    · rcases List.mem_cons.mp hb with rfl | hb
      · exact .inr ⟨g1, I.fresh g1⟩
      · rcases List.mem_cons.mp hb with rfl | hb
        · exact .inr ⟨g0, I.fresh g0⟩
        · rw [List.mem_singleton.mp hb]; exact .inl ⟨_, h⟩
    · obtain ⟨⟨old, he⟩, ⟨o, ho, hc, hd⟩, o', ho', _⟩ := st'
      rcases List.mem_cons.mp hb with rfl | hb
      · exact ⟨_, he, fun _ ps q => by have := congrArg Obj.cls q; simp [tabObj] at this⟩
      · rcases List.mem_cons.mp hb with rfl | hb
        · exact ⟨o, ho, fun _ ps q => by subst q; simp [tabObj] at hc⟩
        · rw [List.mem_singleton.mp hb]; exact ⟨o', ho', fun q => by rw [h] at q; cases q⟩
    · obtain ⟨t, x, hx, rfl⟩ := hP
      rw [enumL, List.getElem?_map, List.getElem?_zipIdx] at hd
      cases hq : ds[i]? with
      | none => rw [hq] at hd; cases hd
      | some d' =>
        rw [hq] at hd
        simp at hd
        subst hd
        exact ⟨_, rfl, .cons (.int _ _) (.cons (RdL.at (RdL.le le r) (by simpa using hx) hq) .nil)⟩
theorem fi_zip {es : List PV} {ts : List Expr} {kk : Nat} : FI C n (.type "zip") [is (.list ds), is (.list es)] (.Tuple ts kk p) (zipL ds es) := fun A s Z vs Q E hA I hv k => by
  obtain ⟨_, _, rfl, h, r⟩ := sati hv
  cases r with
  | cons h2 r =>
    cases r
    cases h with
    | list h r =>
      cases h2 with
      | list h2 r2 =>
        rename_i a m vs a2 m2 vs2
        have hl := isList_of I h
        have hl2 := isList_of I h2
        have hal := Heap.lt_size (I.heap _ _ h)
        have hal2 := Heap.lt_size (I.heap _ _ h2)
        refine call_zip_2 hl hl2 fun h' hz hTI hTO hi1 hi2 hsz hk => ?_
        refine wpAny_pyIter_zip hz ?_
        have st : Step C Z s Z { s with heap := h' } := .keeps (t := s.toks) I hk
        have hlen : (zipL ds es).length = min vs.toArray.size vs2.toArray.size := by rw [zipL, List.length_map, List.length_zip, List.size_toArray, List.size_toArray, r.length, r2.length]
        have g : ∀ j, s.heap.get? (s.heap.objs.size + j) = none := fun j => gAb (Nat.le_add_right _ _)
        refine k _ Z _ st (turns_walksU (fun A hA => hlen ▸ WalksT.zip2 hA _ _ _ _ _ a a2 (zipApart_new hal hal2) vs.toArray vs2.toArray)
          ⟨hz, hTI, ⟨_, _, hTO⟩, hi1, hi2, hl.at fun o e => hk _ o e, hl2.at fun o e => hk _ o e⟩ (fun b hb => ?_) (fun b hb => ?_) (fun i h' st' b hb => ?_) fun i vals d Z' le hd hP => ?_)
        · simp only [List.mem_cons, List.not_mem_nil, or_false] at hb
          rcases hb with rfl | rfl | rfl | rfl
          · exact I.fresh (g 4)
          · exact I.fresh (g 3)
          · exact I.fresh (g 0)
          · exact I.fresh (g 1)
        · simp only [List.mem_cons, List.not_mem_nil, or_false] at hb
          rcases hb with rfl | rfl | rfl | rfl | rfl | rfl | rfl
          · exact .inr ⟨g 4, I.fresh (g 4)⟩
          · exact .inr ⟨g 2, I.fresh (g 2)⟩
          · exact .inr ⟨g 3, I.fresh (g 3)⟩
          · exact .inr ⟨g 0, I.fresh (g 0)⟩
          · exact .inr ⟨g 1, I.fresh (g 1)⟩
          · exact .inl ⟨_, h⟩
          · exact .inl ⟨_, h2⟩
        · obtain ⟨hz, hTI, ⟨x, y, hTO⟩, ⟨o1, ho1, hc1, _⟩, ⟨o2, ho2, hc2, _⟩, ⟨o3, ho3, _⟩, o4, ho4, _⟩ := st'
          simp only [List.mem_cons, List.not_mem_nil, or_false] at hb
          rcases hb with rfl | rfl | rfl | rfl | rfl | rfl | rfl
          · exact ⟨_, hz, fun _ ps q => by have := congrArg Obj.cls q; simp [tabObj] at this⟩
          · exact ⟨_, hTI, fun _ ps q => by have := congrArg Obj.cls q; simp [tabObj] at this⟩
          · exact ⟨_, hTO, fun _ ps q => by have := congrArg Obj.cls q; simp [tabObj] at this⟩
          · exact ⟨o1, ho1, fun _ ps q => by subst q; simp [tabObj] at hc1⟩
          · exact ⟨o2, ho2, fun _ ps q => by subst q; simp [tabObj] at hc2⟩
          · exact ⟨o3, ho3, fun q => by rw [h] at q; cases q⟩
          · exact ⟨o4, ho4, fun q => by rw [h2] at q; cases q⟩
        · obtain ⟨x, y, hx, hy, rfl⟩ := hP
          rw [zipL, List.getElem?_map] at hd
          cases hq : (ds.zip es)[i]? with
          | none => rw [hq] at hd; cases hd
          | some d' =>
            rw [hq] at hd
            obtain ⟨d1, d2⟩ := d'
            cases hd
            obtain ⟨q1, q2⟩ := List.getElem?_zip_eq_some.mp hq
            exact ⟨_, rfl, .cons (RdL.at (RdL.le le r) (by simpa using hx) q1) (.cons (RdL.at (RdL.le le r2) (by simpa using hy) q2) .nil)⟩
theorem fi_rev : FI C n (.type "reversed") [is (.list ds)] target ds.reverse := fun A s Z vs Q E hA I hv k => by
  obtain ⟨_, _, rfl, h, r⟩ := sati hv
  obtain rfl := sati r
  cases h with
  | list h r =>
    rename_i a m vs
    have hl := isList_of I h
    have hal := Heap.lt_size (I.heap _ _ h)
    refine call_reversed_list hl ?_
    have hit : (s.heap.push (revObj a ((vs.toArray.size : Int) - 1))).IsRevIter s.heap.objs.size a ((vs.toArray.size : Int) - 1) := ⟨_, Heap.get?_push_size _ rfl, rfl, rfl⟩
    refine wpAny_pyIter_revIter hit ?_
    have st : Step C Z s Z _ := StepX.push I (o := revObj a ((vs.toArray.size : Int) - 1)) (t := s.toks)
    have hlen : ds.reverse.length = vs.toArray.size := by rw [List.length_reverse, List.size_toArray, r.length]
    have g0 := gAb (Nat.le_refl s.heap.objs.size)
    refine k _ Z _ st (turns_walks (St := fun i h => i ≤ vs.toArray.size ∧ h.IsRevIter s.heap.objs.size a ((vs.toArray.size : Int) - 1 - (i : Int)) ∧ h.IsList a vs.toArray) (P := fun i v => vs.toArray[vs.toArray.size - 1 - i]? = some v) (fun A hA => by rw [hlen]; exact Walks.listRev hA s.heap.objs.size a (Nat.ne_of_lt hal) vs.toArray) (fun i h' st' => ?_) ⟨Nat.zero_le _, by simpa using hit, hl.push _⟩ (fun b hb => ?_) (fun b hb => ?_) (fun i h' st' b hb => ?_) fun i v d Z' le hd hP => ?_)
    · obtain ⟨_, ⟨o, ho, hc, _⟩, _⟩ := st'
      exact ⟨o, _, ho, hc, by decide +kernel⟩
    · rw [List.mem_singleton.mp hb]; exact I.fresh g0
    · rcases List.mem_cons.mp hb with rfl | hb
      · exact .inr ⟨g0, I.fresh g0⟩
      · rw [List.mem_singleton.mp hb]; exact .inl ⟨_, h⟩
    · obtain ⟨_, ⟨o, ho, hc, hd⟩, o', ho', _⟩ := st'
      rcases List.mem_cons.mp hb with rfl | hb
      · exact ⟨o, ho, fun _ ps q => by subst q; simp [tabObj] at hc⟩
      · rw [List.mem_singleton.mp hb]; exact ⟨o', ho', fun q => by rw [h] at q; cases q⟩
    · have hlt : i < ds.length := by
        have := (List.getElem?_eq_some_iff.mp hd).1
        rwa [List.length_reverse] at this
      rw [List.getElem?_reverse hlt] at hd
      refine RdL.at (RdL.le le r) (i := ds.length - 1 - i) ?_ hd
      rw [List.size_toArray, r.length] at hP
      simpa using hP
end
def GlobD (C : Cx) (x : Str) (d : PV) : Prop := ∃ v, GlobZ C x v ∧ ∀ Z, Rd Z v d
section
variable {C : Cx} {n : Nat} {X : Addr → Prop} {env : Env} {nm oc : List Str} {sc : List (Str × NameKind)} {pos : Pos} {ρ : List (Option Vp)} {ω : List (Addr × List PV)} {κ : Addr → Option Obj}
theorem ev_globd {x : Str} {d : PV} (hg : GlobD C x d) (hk : sc.lookup x = some .globalImplicit) (hd : (x == ("__debug__" : Str)) = false) : EV C n (FS C env nm oc sc X ρ ω κ) (eval (.Name x pos) env) (is d) := by
  obtain ⟨v, hg, hr⟩ := hg
  exact ev_conv (ev_glob hg hk hd) fun h => by cases h; exact hr _
end
noncomputable def gtP : PV → PV → Bool
  | .int a, .int b => decide (a > b)
  | .flt a, .flt b => Float64.cmp a b == some .gt
  | _, _ => false
noncomputable def ltP : PV → PV → Bool
  | .int a, .int b => decide (a < b)
  | .flt a, .flt b => Float64.cmp a b == some .lt
  | _, _ => false
noncomputable def allInt : List PV → Bool
  | [] => true
  | .int _ :: r => allInt r
  | _ => false
noncomputable def allFlt : List PV → Bool
  | [] => true
  | .flt _ :: r => allFlt r
  | _ => false
noncomputable def bestP (bt : PV → PV → Bool) : List PV → PV
  | [] => .none
  | d :: ds => ds.foldl (fun σ d => if bt d σ then d else σ) d
theorem allInt_at : ∀ {ds : List PV} {i : Nat} {d : PV}, allInt ds = true → ds[i]? = some d → ∃ a, d = .int a
  | .int a :: r, 0, d, _, e => by simp at e; exact ⟨a, e.symm⟩
  | .int a :: r, i + 1, d, h, e => by simp only [List.getElem?_cons_succ] at e; exact allInt_at (ds := r) h e
theorem allFlt_at : ∀ {ds : List PV} {i : Nat} {d : PV}, allFlt ds = true → ds[i]? = some d → ∃ a, d = .flt a
  | .flt a :: r, 0, d, _, e => by simp at e; exact ⟨a, e.symm⟩
  | .flt a :: r, i + 1, d, h, e => by simp only [List.getElem?_cons_succ] at e; exact allFlt_at (ds := r) h e
noncomputable def btAt (bt : PV → PV → Bool) (ds : List PV) : Nat → Nat → Bool := fun i j => bt (ds.getD i .none) (ds.getD j .none)
theorem argBest_at {bt : PV → PV → Bool} {d : PV} {ds : List PV} : ∀ m, m ≤ ds.length → (d :: ds)[argBest (btAt bt (d :: ds)) m]? = some ((ds.take m).foldl (fun σ d => if bt d σ then d else σ) d)
  | 0, _ => rfl
  | m + 1, h => by
    have ih := argBest_at (bt := bt) (d := d) (ds := ds) m (Nat.le_of_succ_le h)
    have hm : ds[m]? = some ds[m] := List.getElem?_eq_getElem h
    have e1 : (ds.take (m + 1)).foldl (fun σ d => if bt d σ then d else σ) d = if bt ds[m] ((ds.take m).foldl (fun σ d => if bt d σ then d else σ) d) then ds[m] else (ds.take m).foldl (fun σ d => if bt d σ then d else σ) d := by
      rw [List.take_add_one, hm, List.foldl_append]; rfl
    have e2 : btAt bt (d :: ds) (m + 1) (argBest (btAt bt (d :: ds)) m) = bt ds[m] ((ds.take m).foldl (fun σ d => if bt d σ then d else σ) d) := by
      show bt ((d :: ds).getD (m + 1) .none) ((d :: ds).getD (argBest (btAt bt (d :: ds)) m) .none) = _
      rw [List.getD_eq_getElem?_getD, List.getD_eq_getElem?_getD, ih, List.getElem?_cons_succ, hm]; rfl
    unfold argBest
    rw [e2, e1]
    by_cases q : bt ds[m] ((ds.take m).foldl (fun σ d => if bt d σ then d else σ) d) = true
    · rw [if_pos q, if_pos q, List.getElem?_cons_succ, hm]
    · rw [if_neg q, if_neg q, ih]
theorem best_at {bt : PV → PV → Bool} {d : PV} {ds : List PV} : (d :: ds)[argBest (btAt bt (d :: ds)) ((d :: ds).length - 1)]? = some (bestP bt (d :: ds)) := by
  have := argBest_at (bt := bt) (d := d) (ds := ds) ds.length (Nat.le_refl _)
  rw [List.take_length] at this
  exact this
section
variable {C : Cx} {n : Nat} {Φ : Asn C} {env : Env} {P R : Vp} {Ps : List Vp} {ds : List PV} {Z Z' : Fz} {s s' : Shared}
theorem cmp_gt {A : Around} {prog : Program} {w : World} {vs : List Value} (r : RdL Z vs ds) (h : (allInt ds || allFlt ds) = true) : CmpOf prog w A .Gt (fun i v => vs.toArray[i]? = some v) (btAt gtP ds) := fun i j vi vj s Q E hi hj hQ => by
  have hi' : vs[i]? = some vi := by simpa using hi
  have hj' : vs[j]? = some vj := by simpa using hj
  have li : i < ds.length := by have := (List.getElem?_eq_some_iff.mp hi').1; rw [r.length] at this; exact this
  have lj : j < ds.length := by have := (List.getElem?_eq_some_iff.mp hj').1; rw [r.length] at this; exact this
  have ei := List.getElem?_eq_getElem li
  have ej := List.getElem?_eq_getElem lj
  have ri := r.at hi' ei
  have rj := r.at hj' ej
  have eb : btAt gtP ds i j = gtP ds[i] ds[j] := by unfold btAt; rw [List.getD_eq_getElem?_getD, List.getD_eq_getElem?_getD, ei, ej]; rfl
  rw [eb] at hQ
  rcases Bool.or_eq_true_iff.mp h with h | h
  · obtain ⟨a, qa⟩ := allInt_at h ei
    obtain ⟨b, qb⟩ := allInt_at h ej
    rw [qa] at ri; rw [qb] at rj; rw [qa, qb] at hQ
    obtain ⟨_, rfl⟩ := rdi ri; obtain ⟨_, rfl⟩ := rdi rj
    exact richCompare_gives (op := .Gt) (typeIs_int s _ _) (typeIs_int s _ _) F.slot_int_gt F.entry_int_gt (F.args_int_gt_2 _ _) (gives_int_gt _ _ _ _) (fun x => nomatch x) hQ
  · obtain ⟨a, qa⟩ := allFlt_at h ei
    obtain ⟨b, qb⟩ := allFlt_at h ej
    rw [qa] at ri; rw [qb] at rj; rw [qa, qb] at hQ
    obtain ⟨_, rfl⟩ := rdi ri; obtain ⟨_, rfl⟩ := rdi rj
    exact richCompare_gives (op := .Gt) (typeIs_float s a _) (typeIs_float s b _) F.slot_float_gt F.entry_float_gt (F.args_float_gt_2 _ _) (AutoFloatG4.float___gt___float_float_0 a _ b _) (fun x => nomatch x) hQ
theorem cmp_lt {A : Around} {prog : Program} {w : World} {vs : List Value} (r : RdL Z vs ds) (h : (allInt ds || allFlt ds) = true) : CmpOf prog w A .Lt (fun i v => vs.toArray[i]? = some v) (btAt ltP ds) := fun i j vi vj s Q E hi hj hQ => by
  have hi' : vs[i]? = some vi := by simpa using hi
  have hj' : vs[j]? = some vj := by simpa using hj
  have li : i < ds.length := by have := (List.getElem?_eq_some_iff.mp hi').1; rw [r.length] at this; exact this
  have lj : j < ds.length := by have := (List.getElem?_eq_some_iff.mp hj').1; rw [r.length] at this; exact this
  have ei := List.getElem?_eq_getElem li
  have ej := List.getElem?_eq_getElem lj
  have ri := r.at hi' ei
  have rj := r.at hj' ej
  have eb : btAt ltP ds i j = ltP ds[i] ds[j] := by unfold btAt; rw [List.getD_eq_getElem?_getD, List.getD_eq_getElem?_getD, ei, ej]; rfl
  rw [eb] at hQ
  rcases Bool.or_eq_true_iff.mp h with h | h
  · obtain ⟨a, qa⟩ := allInt_at h ei
    obtain ⟨b, qb⟩ := allInt_at h ej
    rw [qa] at ri; rw [qb] at rj; rw [qa, qb] at hQ
    obtain ⟨_, rfl⟩ := rdi ri; obtain ⟨_, rfl⟩ := rdi rj
    exact richCompare_gives (op := .Lt) (typeIs_int s _ _) (typeIs_int s _ _) F.slot_int_lt F.entry_int_lt (F.args_int_lt_2 _ _) (gives_int_lt _ _ _ _) (fun x => nomatch x) hQ
  · obtain ⟨a, qa⟩ := allFlt_at h ei
    obtain ⟨b, qb⟩ := allFlt_at h ej
    rw [qa] at ri; rw [qb] at rj; rw [qa, qb] at hQ
    obtain ⟨_, rfl⟩ := rdi ri; obtain ⟨_, rfl⟩ := rdi rj
    exact richCompare_gives (op := .Lt) (typeIs_float s a _) (typeIs_float s b _) F.slot_float_lt F.entry_float_lt (F.args_float_lt_2 _ _) (AutoFloatG5.float___lt___float_float_0 a _ b _) (fun x => nomatch x) hQ
theorem rd_best {bt : PV → PV → Bool} {vs : List Value} {v : Value} (r : RdL Z vs ds) (hne : ds ≠ []) (h : vs.toArray[argBest (btAt bt ds) (vs.toArray.size - 1)]? = some v) : Rd Z v (bestP bt ds) := by
  cases ds with
  | nil => exact absurd rfl hne
  | cons d ds =>
    rw [List.size_toArray, r.length] at h
    exact r.at (by simpa using h) best_at
theorem fn_max_list (h : (allInt ds || allFlt ds) = true) (hne : ds ≠ []) : FN C n (.builtin "max") [is (.list ds)] (is (bestP gtP ds)) := fn1 fun A s Z v Q E hA I hv k => by
  obtain ⟨a, m, vs, rfl, hz, r⟩ := rdi hv
  have hl := isList_of I hz
  have hal := Heap.lt_size (I.heap _ _ hz)
  refine call_max_walk (wpAny_pyIter_list hl ⟨_, _, _, _, _, _, _, rfl, Walks.list (A := A.in1) hA.handled s.heap.objs.size a (Nat.ne_of_lt hal) vs.toArray, ⟨⟨_, Heap.get?_push_size _ rfl, rfl, rfl⟩, hl.push _⟩, fun b hb => ?_, ?_, cmp_gt r h, fun v h' tk hP hk => ?_⟩)
  · show b < (s.heap.push _).objs.size
    rw [Heap.size_push]
    rcases List.mem_cons.mp hb with rfl | hb
    · exact Nat.lt_succ_self _
    · rw [List.mem_singleton.mp hb]; exact Nat.lt_succ_of_lt hal
  · rw [List.size_toArray, r.length]; exact List.length_pos_iff.mpr hne
  · have st : Step C Z s Z { s with heap := h', toks := tk } := .keeps I fun b o e => hk b o (fun q => by rw [List.mem_singleton.mp q] at e; exact absurd (Heap.lt_size e) (Nat.lt_irrefl _)) (Heap.get?_push_of_some _ e)
    exact k v Z _ st (rd_best r hne hP)
theorem fn_min_list (h : (allInt ds || allFlt ds) = true) (hne : ds ≠ []) : FN C n (.builtin "min") [is (.list ds)] (is (bestP ltP ds)) := fn1 fun A s Z v Q E hA I hv k => by
  obtain ⟨a, m, vs, rfl, hz, r⟩ := rdi hv
  have hl := isList_of I hz
  have hal := Heap.lt_size (I.heap _ _ hz)
  refine call_min_walk (wpAny_pyIter_list hl ⟨_, _, _, _, _, _, _, rfl, Walks.list (A := A.in1) hA.handled s.heap.objs.size a (Nat.ne_of_lt hal) vs.toArray, ⟨⟨_, Heap.get?_push_size _ rfl, rfl, rfl⟩, hl.push _⟩, fun b hb => ?_, ?_, cmp_lt r h, fun v h' tk hP hk => ?_⟩)
  · show b < (s.heap.push _).objs.size
    rw [Heap.size_push]
    rcases List.mem_cons.mp hb with rfl | hb
    · exact Nat.lt_succ_self _
    · rw [List.mem_singleton.mp hb]; exact Nat.lt_succ_of_lt hal
  · rw [List.size_toArray, r.length]; exact List.length_pos_iff.mpr hne
  · have st : Step C Z s Z { s with heap := h', toks := tk } := .keeps I fun b o e => hk b o (fun q => by rw [List.mem_singleton.mp q] at e; exact absurd (Heap.lt_size e) (Nat.lt_irrefl _)) (Heap.get?_push_of_some _ e)
    exact k v Z _ st (rd_best r hne hP)
theorem three_setup {A : Around} {prog : Program} {w : World} {a b c : Value} {E : Value → Shared → Prop} {Q : Value → Shared → Prop} (hA : A.handled = none)
    (h : ∀ I s₂, Walks prog w A I [I, s.heap.objs.size] [I] 3 (fun i v => [a, b, c].toArray[i]? = some v) (fun i h => h.IsTupleIter I s.heap.objs.size i ∧ h.IsTuple s.heap.objs.size #[a, b, c]) →
      s₂ = { s with heap := (s.heap.push { cls := .type "tuple", data := .seq #[a, b, c] }).push { cls := .type "tuple_iterator", data := .fields #[.ref s.heap.objs.size, .int 0 0] } } → I = s.heap.objs.size + 1 → (s₂.heap.IsTupleIter I s.heap.objs.size 0 ∧ s₂.heap.IsTuple s.heap.objs.size #[a, b, c]) → Q (.ref I) s₂) :
    wpAny (model prog w) A (pyIter (.ref s.heap.objs.size)) Q E { s with heap := s.heap.push { cls := .type "tuple", data := .seq #[a, b, c] } } := by
  have hT : (s.heap.push { cls := .type "tuple", data := .seq #[a, b, c] }).IsTuple s.heap.objs.size #[a, b, c] := ⟨_, Heap.get?_push_size _ rfl, rfl, 0, rfl⟩
  refine wpAny_pyIter_tuple hT ?_
  have hsz : (s.heap.push { cls := .type "tuple", data := .seq #[a, b, c] }).objs.size = s.heap.objs.size + 1 := Heap.size_push ..
  refine h _ _ (Walks.tuple hA _ s.heap.objs.size (by rw [hsz]; exact Nat.ne_of_lt (Nat.lt_succ_self _)) #[a, b, c]) rfl hsz ⟨⟨_, Heap.get?_push_size _ rfl, rfl, rfl⟩, hT.push _⟩
theorem fn_max3 {d1 d2 d3 : PV} (h : (allInt [d1, d2, d3] || allFlt [d1, d2, d3]) = true) : FN C n (.builtin "max") [is d1, is d2, is d3] (is (bestP gtP [d1, d2, d3])) := fun A s Z vs Q E hA I hl hp k => by
  obtain ⟨a, b, c, rfl⟩ := len3 hl
  have r : RdL Z [a, b, c] [d1, d2, d3] := .cons (hp 0 a _ rfl rfl) (.cons (hp 1 b _ rfl rfl) (.cons (hp 2 c _ rfl rfl) .nil))
  refine call_max_three (three_setup (A := A.in1) hA.handled fun J s₂ W e hJ st => ⟨J, _, _, _, _, _, _, rfl, W, st, fun b hb => ?_, by decide, cmp_gt r h, fun v h' tk hP hk => ?_⟩)
  · subst e
    show b < ((s.heap.push _).push _).objs.size
    rw [Heap.size_push, Heap.size_push]
    rcases List.mem_cons.mp hb with rfl | hb
    · rw [hJ]; exact Nat.lt_succ_self _
    · rw [List.mem_singleton.mp hb]; exact Nat.lt_succ_of_lt (Nat.lt_succ_self _)
  · subst e
    have st : Step C Z s Z { s with heap := h', toks := tk } := .keeps I fun b o e => hk b o (fun q => by rw [List.mem_singleton.mp q, hJ] at e; exact absurd (Heap.lt_size e) (Nat.not_lt.mpr (Nat.le_succ _))) (Heap.get?_push_of_some _ (Heap.get?_push_of_some _ e))
    exact k v Z _ st (rd_best r (by simp) (by simpa using hP))
theorem fn_min3 {d1 d2 d3 : PV} (h : (allInt [d1, d2, d3] || allFlt [d1, d2, d3]) = true) : FN C n (.builtin "min") [is d1, is d2, is d3] (is (bestP ltP [d1, d2, d3])) := fun A s Z vs Q E hA I hl hp k => by
  obtain ⟨a, b, c, rfl⟩ := len3 hl
  have r : RdL Z [a, b, c] [d1, d2, d3] := .cons (hp 0 a _ rfl rfl) (.cons (hp 1 b _ rfl rfl) (.cons (hp 2 c _ rfl rfl) .nil))
  refine call_min_three (three_setup (A := A.in1) hA.handled fun J s₂ W e hJ st => ⟨J, _, _, _, _, _, _, rfl, W, st, fun b hb => ?_, by decide, cmp_lt r h, fun v h' tk hP hk => ?_⟩)
  · subst e
    show b < ((s.heap.push _).push _).objs.size
    rw [Heap.size_push, Heap.size_push]
    rcases List.mem_cons.mp hb with rfl | hb
    · rw [hJ]; exact Nat.lt_succ_self _
    · rw [List.mem_singleton.mp hb]; exact Nat.lt_succ_of_lt (Nat.lt_succ_self _)
  · subst e
    have st : Step C Z s Z { s with heap := h', toks := tk } := .keeps I fun b o e => hk b o (fun q => by rw [List.mem_singleton.mp q, hJ] at e; exact absurd (Heap.lt_size e) (Nat.not_lt.mpr (Nat.le_succ _))) (Heap.get?_push_of_some _ (Heap.get?_push_of_some _ e))
    exact k v Z _ st (rd_best r (by simp) (by simpa using hP))
end
noncomputable abbrev gtF (x y : UInt64) : Bool := Float64.cmp x y == some .gt
noncomputable def mxF (a b c : UInt64) : UInt64 := let m := if gtF b a then b else a; if gtF c m then c else m
noncomputable def mnF (a b c : UInt64) : UInt64 := let m := if ltF b a then b else a; if ltF c m then c else m
noncomputable def mxI (a b c : Int) : Int := let m := if b > a then b else a; if c > m then c else m
noncomputable def mnI (a b c : Int) : Int := let m := if b < a then b else a; if c < m then c else m
noncomputable def scOf (st : Stmt) : List (Str × NameKind) := (fdOf st "" .none .none .none).scope.names
inductive DefAt (C : Cx) (p : Program) (i : Nat) (x : Str) : Prop where
  | mk (f : Addr) (q : Str) (doc pm cd : Value) (g : GlobZ C x (.ref f)) (h : C.Z0 f = some { cls := .type "function", data := .func (fdOf (stAt p i) q doc pm cd) }) (c : CodeZ C cd q)
def DefC (C : Cx) (n : Nat) (x : Str) (Ps : List Vp) (R : Vp) : Prop := ∃ f, GlobZ C x (.ref f) ∧ IsFn C f ∧ FN C n (.ref f) Ps R
section
variable {C : Cx} {n m : Nat} {X : Addr → Prop} {env : Env} {nm oc : List Str} {sc : List (Str × NameKind)} {pos p : Pos} {ρ : List (Option Vp)} {ω : List (Addr × List PV)} {κ : Addr → Option Obj} {Ps : List Vp} {P R : Vp} {Φ : Asn C} {e : Expr} {es : List Expr} {f : Value}
theorem FN.le (h : m ≤ n) (F : FN C m f Ps R) : FN C n f Ps R := fun A s Z vs Q E hA => F A s Z vs Q E (hA.le h)
theorem fn_eq {R' : Vp} (F : FN C n f Ps R) (e : R = R') : FN C n f Ps R' := e ▸ F
theorem ev_callD {x : Str} (ha : EL C n (FS C env nm oc sc X ρ ω κ) (spliced (backTo pos (starEach (e :: es) env))) Ps) (D : DefC C m x Ps R) (hm : m ≤ n) (hk : sc.lookup x = some .globalImplicit) (hd : (x == ("__debug__" : Str)) = false)
    (he : starEach (e :: es) env = (false, eval e env) :: starEach es env := by rfl) : EV C n (FS C env nm oc sc X ρ ω κ) (eval (.Call (.Name x p) (e :: es) [] pos) env) R := by
  obtain ⟨f, hg, hf, F⟩ := D
  exact ev_call (ev_glob hg hk hd) hf ha (F.le hm) he
theorem ev_callBt {x : Str} {id : String} (hb : BltZ C x (.builtin id)) (ha : EL C n (FS C env nm oc sc X ρ ω κ) (spliced (backTo pos (starEach (e :: es) env))) Ps) (F : FN C n (.builtin id) Ps R) (hk : sc.lookup x = some .globalImplicit) (hd : (x == ("__debug__" : Str)) = false)
    (he : starEach (e :: es) env = (false, eval e env) :: starEach es env := by rfl) (hp : (backTo pos (starEach es env)).any (·.1) = false := by rfl) : EV C n (FS C env nm oc sc X ρ ω κ) (eval (.Call (.Name x p) (e :: es) [] pos) env) R :=
  ev_callB (ev_blt hb hk hd) ha F he hp
theorem ev_callTt {x : Str} {id : String} (hb : BltZ C x (.type id)) (ha : EL C n (FS C env nm oc sc X ρ ω κ) (spliced (backTo pos (starEach (e :: es) env))) Ps) (F : FN C n (.type id) Ps R) (hk : sc.lookup x = some .globalImplicit) (hd : (x == ("__debug__" : Str)) = false)
    (he : starEach (e :: es) env = (false, eval e env) :: starEach es env := by rfl) (hp : (backTo pos (starEach es env)).any (·.1) = false := by rfl) : EV C n (FS C env nm oc sc X ρ ω κ) (eval (.Call (.Name x p) (e :: es) [] pos) env) R :=
  ev_callT (ev_blt hb hk hd) ha F he hp
theorem it_callTt {x : Str} {id : String} {target : Expr} {ds : List PV} (hb : BltZ C x (.type id)) (ha : EL C n (FS C env nm oc sc X ρ ω κ) (spliced (backTo pos (starEach (e :: es) env))) Ps) (F : FI C n (.type id) Ps target ds) (hk : sc.lookup x = some .globalImplicit) (hd : (x == ("__debug__" : Str)) = false)
    (he : starEach (e :: es) env = (false, eval e env) :: starEach es env := by rfl) (hp : (backTo pos (starEach es env)).any (·.1) = false := by rfl) : IT C n (FS C env nm oc sc X ρ ω κ) (.Call (.Name x p) (e :: es) [] pos) env target ds :=
  it_callT (ev_blt hb hk hd) ha F he hp
theorem best3 {bt : PV → PV → Bool} {a b c : PV} : bestP bt [a, b, c] = (let m := if bt b a then b else a; if bt c m then c else m) := rfl
theorem fn_max3F {a b c : UInt64} : FN C n (.builtin "max") [is (.flt a), is (.flt b), is (.flt c)] (is (.flt (mxF a b c))) := by
  refine fn_eq (fn_max3 rfl) (congrArg is ?_)
  show (let m := if gtF b a then PV.flt b else PV.flt a; if gtP (PV.flt c) m then PV.flt c else m) = PV.flt (mxF a b c)
  unfold mxF
  cases h1 : gtF b a
  · simp only [Bool.false_eq_true, if_false]
    show (if gtF c a then PV.flt c else PV.flt a) = PV.flt (if gtF c a then c else a)
    cases gtF c a <;> rfl
  · simp only [if_true]
    show (if gtF c b then PV.flt c else PV.flt b) = PV.flt (if gtF c b then c else b)
    cases gtF c b <;> rfl
theorem fn_min3F {a b c : UInt64} : FN C n (.builtin "min") [is (.flt a), is (.flt b), is (.flt c)] (is (.flt (mnF a b c))) := by
  refine fn_eq (fn_min3 rfl) (congrArg is ?_)
  show (let m := if ltF b a then PV.flt b else PV.flt a; if ltP (PV.flt c) m then PV.flt c else m) = PV.flt (mnF a b c)
  unfold mnF
  cases h1 : ltF b a
  · simp only [Bool.false_eq_true, if_false]
    show (if ltF c a then PV.flt c else PV.flt a) = PV.flt (if ltF c a then c else a)
    cases ltF c a <;> rfl
  · simp only [if_true]
    show (if ltF c b then PV.flt c else PV.flt b) = PV.flt (if ltF c b then c else b)
    cases ltF c b <;> rfl
theorem fn_max3I {a b c : Int} : FN C n (.builtin "max") [is (.int a), is (.int b), is (.int c)] (is (.int (mxI a b c))) := by
  refine fn_eq (fn_max3 rfl) (congrArg is ?_)
  rw [best3]
  simp only [gtP, mxI, decide_eq_true_eq]
  by_cases h1 : b > a
  · simp only [h1, if_true, gtP, decide_eq_true_eq]; split <;> rfl
  · simp only [h1, if_false, gtP, decide_eq_true_eq]; split <;> rfl
theorem fn_min3I {a b c : Int} : FN C n (.builtin "min") [is (.int a), is (.int b), is (.int c)] (is (.int (mnI a b c))) := by
  refine fn_eq (fn_min3 rfl) (congrArg is ?_)
  rw [best3]
  simp only [ltP, mnI, decide_eq_true_eq]
  by_cases h1 : b < a
  · simp only [h1, if_true, ltP, decide_eq_true_eq]; split <;> rfl
  · simp only [h1, if_false, ltP, decide_eq_true_eq]; split <;> rfl
end
theorem fin_cases {x : UInt64} (h : Float64.isFinite x = true) : Float64.isNaN x = false ∧ Float64.isInf x = false := by
  unfold Float64.isFinite at h
  unfold Float64.isNaN Float64.isInf
  revert h
  cases Float64.decode x <;> simp
section
variable {C : Cx} {n : Nat} {x : UInt64} {i : Int} {b : Bool} {w : Str}
theorem fn_int_flt (h : Float64.isFinite x = true) : FN C n (.type "int") [is (.flt x)] (is (.int (PySem.Flt.toInt Float64.truncOf x))) := fn1 fun A s Z v Q E hA I hv k => by
  obtain ⟨_, rfl⟩ := rdi hv
  obtain ⟨h1, h2⟩ := fin_cases h
  exact PySem.Flt.call_int_float3 hA.handled (fun q => by rw [h1] at q; cases q) (fun q => by rw [h2] at q; cases q) fun _ => k _ Z _ (Step.toks I _) (.int _ _)
theorem fn_round_flt (h : Float64.isFinite x = true) : FN C n (.builtin "round") [is (.flt x)] (is (.int (PySem.Flt.toInt Float64.nearestOf x))) := fn1 fun A s Z v Q E hA I hv k => by
  obtain ⟨_, rfl⟩ := rdi hv
  obtain ⟨h1, h2⟩ := fin_cases h
  exact PySem.Flt.call_round_float hA.handled (fun q => by rw [h1] at q; cases q) (fun q => by rw [h2] at q; cases q) fun _ => k _ Z _ (Step.toks I _) (.int _ _)
theorem fn_int_bool : FN C n (.type "int") [is (.bool b)] (is (.int (if b then 1 else 0))) := fn1 fun A s Z v Q E hA I hv k => by
  obtain ⟨_, rfl⟩ := rdi hv
  exact call_int_bool (k _ Z _ (Step.toks I _) (.int _ _))
theorem fn_int_text (h : PySem.intText? w = some i) (hl : w.length ≤ 640) : FN C n (.type "int") [is (.str w)] (is (.int i)) := fn1 fun A s Z v Q E hA I hv k => by
  obtain ⟨_, rfl⟩ := rdi hv
  exact PySem.W.KIN.call_text h hl (k _ Z _ (Step.toks I _) (.int _ _))
end
inductive IsL : List Vp → List PV → Prop where
  | nil : IsL [] []
  | cons {d : PV} {Ps : List Vp} {ds : List PV} (r : IsL Ps ds) : IsL (is d :: Ps) (d :: ds)
theorem IsL.eq : ∀ {Ps : List Vp} {ds : List PV}, IsL Ps ds → Ps = ds.map is
  | _, _, .nil => rfl
  | _, _, .cons r => by rw [r.eq]; rfl
section
variable {C : Cx} {n : Nat} {Φ : Asn C} {env : Env} {Ps : List Vp} {ds : List PV} {es : List Expr} {pos : Pos} {kk : Nat}
theorem ev_tupL (h : EL C n Φ (spliced (backTo pos (starEach es env))) Ps) (q : IsL Ps ds) (hsz : ds.length ≤ sizeLine) : EV C n Φ (eval (.Tuple es kk pos) env) (is (.tup ds)) := ev_tup (q.eq ▸ h) hsz
theorem ev_listL (h : EL C n Φ (spliced (backTo pos (starEach es env))) Ps) (q : IsL Ps ds) (hsz : ds.length ≤ sizeLine) : EV C n Φ (eval (.List es pos) env) (is (.list ds)) := ev_list (q.eq ▸ h) hsz
theorem evn_listL (h : EL C n Φ (spliced (backTo pos (starEach es env))) Ps) (q : IsL Ps ds) (hsz : ds.length ≤ sizeLine) : EVN C n Φ (eval (.List es pos) env) (fun a => isv (.ref a)) ds := evn_list (ρ := []) (q.eq ▸ h) hsz
end
noncomputable def ownN (names : List (Str × NameKind)) : List Str := (names.filter fun x => x.2 != .free).map (·.1)
theorem ownN_ok {names : List (Str × NameKind)} (nd : (names.map (·.1)).Nodup) : (ownN names).all (fun x => names.lookup x != some .free) = true := by
  refine List.all_eq_true.mpr fun x hx => ?_
  obtain ⟨p, hp, e⟩ := List.mem_map.mp hx
  obtain ⟨h1, h2⟩ := List.mem_filter.mp hp
  obtain ⟨y, k⟩ := p
  cases e
  rw [lookup_of_nodup nd h1]
  cases k <;> first | rfl | exact h2
section
variable {α : Type} {C : Cx} {n : Nat} {X : Addr → Prop} {env : Env} {nm oc : List Str} {sc : List (Str × NameKind)} {ω : List (Addr × List PV)} {κ : Addr → Option Obj} {ρ : List (Option Vp)}
  {elt target iter : Expr} {ifs : List Expr} {scope : Scope} {pos : Pos} {xs : List α} {f : α → PV} {nm' : List Str} {ρ' : List (Option Vp)}
theorem tgt_tup {ts : List Expr} {kk : Nat} {p : Pos} {ds : List PV} {Ps : List Vp} {ρ ρ' : List (Option Vp)} (q : IsL Ps ds) (r : Bds nm oc sc ts Ps ρ ρ') : Tgt nm oc sc (.Tuple ts kk p) (.tup ds) ρ ρ' := .tup (q.eq ▸ r)
theorem tgt_lst {ts : List Expr} {kk : Nat} {p : Pos} {ds : List PV} {Ps : List Vp} {ρ ρ' : List (Option Vp)} (q : IsL Ps ds) (r : Bds nm oc sc ts Ps ρ ρ') : Tgt nm oc sc (.Tuple ts kk p) (.list ds) ρ ρ' := .lst (q.eq ▸ r)
theorem comp1_ok {h : α → PV} (hit : IT C n (FS C env nm oc sc X ρ ω κ) iter env target (xs.map f)) (hfr : FreeR nm ρ sc (relN scope.names sc) scope.names nm' ρ') (hkind : scope.kind = .function) (hnd : (scope.names.map (·.1)).Nodup) (hnm' : nm' = scope.names.map (·.1)) (hsz : xs.length ≤ sizeLine)
    (step : ∀ cenv X' x, x ∈ xs → ∃ ρ'', Tgt nm' (ownN scope.names) (relN scope.names sc) target (f x) ρ' ρ'' ∧ Fgt ρ'' ρ' ∧ ∀ ω κ, EV C n (FS C cenv nm' (ownN scope.names) (relN scope.names sc) X' ρ'' ω κ) (eval elt cenv) (is (h x)))
    (hs : ∀ x, foldedSetIterable iter env x = pure x := by intro _; rfl) :
    CompOk C n X env nm oc sc ρ ω κ elt target iter [] [] scope pos (fun cenv D _ => eval elt cenv >>= fun x => call (.builtin "list.append") [.ref D, x] >>= fun _ => pure ()) xs f (fun x => [h x]) (relN scope.names sc) nm' (ownN scope.names) ρ' where
  hit := hit
  hsc' := rfl
  hfr := hfr
  hkind := hkind
  hnd := hnd
  hnm' := hnm'
  hoc := ownN_ok hnd
  ht := fun cenv D J => turn_last rfl rfl
  step := fun cenv D J X' x hx => by
    obtain ⟨ρ'', T, F, e⟩ := step cenv X' x hx
    exact ⟨ρ'', true, T, F, fun _ _ => ts_nil, fun _ => em_last fun ys κ => e _ _, fun q => nomatch q⟩
  hsz := by rw [flat_one, List.length_map]; exact hsz
  hs := hs
theorem comp1if_ok {h : α → PV} {p : α → Bool} {c : Expr} (hit : IT C n (FS C env nm oc sc X ρ ω κ) iter env target (xs.map f)) (hfr : FreeR nm ρ sc (relN scope.names sc) scope.names nm' ρ') (hkind : scope.kind = .function) (hnd : (scope.names.map (·.1)).Nodup) (hnm' : nm' = scope.names.map (·.1)) (hsz : xs.length ≤ sizeLine)
    (step : ∀ cenv X' x, x ∈ xs → ∃ ρ'', Tgt nm' (ownN scope.names) (relN scope.names sc) target (f x) ρ' ρ'' ∧ Fgt ρ'' ρ' ∧ (∀ ω κ, TV C n (FS C cenv nm' (ownN scope.names) (relN scope.names sc) X' ρ'' ω κ) (isTrue c cenv (eval c cenv)) (p x)) ∧
      (p x = true → ∀ ω κ, EV C n (FS C cenv nm' (ownN scope.names) (relN scope.names sc) X' ρ'' ω κ) (eval elt cenv) (is (h x))))
    (hs : ∀ x, foldedSetIterable iter env x = pure x := by intro _; rfl) :
    CompOk C n X env nm oc sc ρ ω κ elt target iter [c] [] scope pos (fun cenv D _ => eval elt cenv >>= fun x => call (.builtin "list.append") [.ref D, x] >>= fun _ => pure ()) xs f (fun x => if p x then [h x] else []) (relN scope.names sc) nm' (ownN scope.names) ρ' where
  hit := hit
  hsc' := rfl
  hfr := hfr
  hkind := hkind
  hnd := hnd
  hnm' := hnm'
  hoc := ownN_ok hnd
  ht := fun cenv D J => turn_last rfl rfl
  step := fun cenv D J X' x hx => by
    obtain ⟨ρ'', T, F, t, e⟩ := step cenv X' x hx
    refine ⟨ρ'', p x, T, F, fun _ _ => ts_one (t _ _), fun q => ?_, fun q => by rw [q]; rfl⟩
    rw [q]
    exact em_last fun ys κ => e q _ _
  hsz := by rw [flat_if, List.length_map]; exact Nat.le_trans (List.length_filter_le ..) hsz
  hs := hs
theorem comp2_ok {β : Type} {h : α → β → PV} {ys : α → List β} {f' : β → PV} {target' iter' : Expr} (hit : IT C n (FS C env nm oc sc X ρ ω κ) iter env target (xs.map f)) (hfr : FreeR nm ρ sc (relN scope.names sc) scope.names nm' ρ') (hkind : scope.kind = .function) (hnd : (scope.names.map (·.1)).Nodup) (hnm' : nm' = scope.names.map (·.1))
    (hsz : (xs.flatMap fun x => (ys x).map (h x)).length ≤ sizeLine)
    (step : ∀ cenv X' x, x ∈ xs → ∃ ρ'', Tgt nm' (ownN scope.names) (relN scope.names sc) target (f x) ρ' ρ'' ∧ Fgt ρ'' ρ' ∧ (∀ ω κ, IT C n (FS C cenv nm' (ownN scope.names) (relN scope.names sc) X' ρ'' ω κ) iter' cenv target' ((ys x).map f')) ∧
      (∀ v, foldedSetIterable iter' cenv v = pure v) ∧
      ∀ y, y ∈ ys x → ∃ ρ₃, Tgt nm' (ownN scope.names) (relN scope.names sc) target' (f' y) ρ'' ρ₃ ∧ Fgt ρ₃ ρ'' ∧ ∀ ω κ, EV C n (FS C cenv nm' (ownN scope.names) (relN scope.names sc) X' ρ₃ ω κ) (eval elt cenv) (is (h x y)))
    (hs : ∀ x, foldedSetIterable iter env x = pure x := by intro _; rfl) :
    CompOk C n X env nm oc sc ρ ω κ elt target iter [] [⟨target', iter', [], 0⟩] scope pos (fun cenv D _ => deepT (.ListComp elt [⟨target, iter, [], 0⟩, ⟨target', iter', [], 0⟩] scope pos) iter' 0 (.ref D) cenv) xs f (fun x => (ys x).map (h x)) (relN scope.names sc) nm' (ownN scope.names) ρ' where
  hit := hit
  hsc' := rfl
  hfr := hfr
  hkind := hkind
  hnd := hnd
  hnm' := hnm'
  hoc := ownN_ok hnd
  ht := fun cenv D J => turn_deep rfl rfl
  step := fun cenv D J X' x hx => by
    obtain ⟨ρ'', T, F, it, hs', e⟩ := step cenv X' x hx
    refine ⟨ρ'', true, T, F, fun _ _ => ts_nil, fun _ => ?_, fun q => nomatch q⟩
    have := em_deep (k := 0) (C := C) (n := n) (X := X') (env := cenv) (D := D) (t := fun _ => eval elt cenv >>= fun x => call (.builtin "list.append") [.ref D, x] >>= fun _ => pure ()) (elt := elt) (target := target) (iter := iter) (ifs := []) (scope := scope) (pos := pos)
      (gens := [⟨target, iter, [], 0⟩, ⟨target', iter', [], 0⟩]) (g := fun y => [h x y]) (xs := ys x) (f := f') (ρ := ρ'') (nm := nm') (oc := ownN scope.names) (sc := relN scope.names sc) (target' := target') (iter' := iter') (ifs' := []) rfl (fun J => turn_last rfl rfl) (fun zs κ => it _ _) (fun J y hy => by
        obtain ⟨ρ₃, T', F', e'⟩ := e y hy
        exact ⟨ρ₃, true, T', F', fun _ _ => ts_nil, fun _ => em_last fun zs κ => e' _ _, fun q => nomatch q⟩) hs'
    rw [flat_one] at this
    exact this
  hsz := hsz
  hs := hs
theorem ev_comp1 {β : Type} {t : Env → Addr → Addr → Sem β} {h : α → PV} {sc' : List (Str × NameKind)} {oc' : List Str} {gens : List Comprehension} (O : CompOk C n X env nm oc sc ρ ω κ elt target iter ifs gens scope pos t xs f (fun x => [h x]) sc' nm' oc' ρ') :
    EV C n (FS C env nm oc sc X ρ ω κ) (eval (.ListComp elt (⟨target, iter, ifs, 0⟩ :: gens) scope pos) env) (is (.list (xs.map h))) := ev_d (ev_compG O) (by rw [flat_one])
theorem ev_comp1if {β : Type} {t : Env → Addr → Addr → Sem β} {h : α → PV} {p : α → Bool} {sc' : List (Str × NameKind)} {oc' : List Str} {gens : List Comprehension} (O : CompOk C n X env nm oc sc ρ ω κ elt target iter ifs gens scope pos t xs f (fun x => if p x then [h x] else []) sc' nm' oc' ρ') :
    EV C n (FS C env nm oc sc X ρ ω κ) (eval (.ListComp elt (⟨target, iter, ifs, 0⟩ :: gens) scope pos) env) (is (.list ((xs.filter p).map h))) := ev_d (ev_compG O) (by rw [flat_if])
end
theorem bits_small {a : Int} (h : a.natAbs < 2 ^ 64) : Builtin.Int.intBits a ≤ 64 := by
  unfold Builtin.Int.intBits
  split
  · exact Nat.zero_le _
  · rename_i h0
    have : a.natAbs.log2 < 64 := (Nat.log2_lt (by simpa using h0)).mpr h
    lia
theorem mulOk_l {a b : Int} (h : a.natAbs < 18446744073709551616) : IntMulOk a b := IntMulOk.of_left (bits_small h)
theorem mulOk_r {a b : Int} (h : b.natAbs < 18446744073709551616) : IntMulOk a b := IntMulOk.of_right (bits_small h)
section
variable {C : Cx} {n : Nat} {Φ : Asn C} {iter target : Expr} {env : Env} {ds ds' : List PV} {P : Vp}
theorem it_eq (h : IT C n Φ iter env target ds) (e : ds = ds') : IT C n Φ iter env target ds' := e ▸ h
theorem it_list (h : EV C n Φ (eval iter env) (is (.list ds))) : IT C n Φ iter env target ds := it_ev h pi_list
theorem it_tup (h : EV C n Φ (eval iter env) (is (.tup ds))) : IT C n Φ iter env target ds := it_ev h pi_tup
end
section
variable {C : Cx} {n : Nat} {X : Addr → Prop} {env : Env} {nm oc : List Str} {sc : List (Str × NameKind)} {ω : List (Addr × List PV)} {κ : Addr → Option Obj} {ρ ρ' : List (Option Vp)} {Ps Ps' : List Vp} {ts : List Expr} {rest : List Stmt} {Ψ : Asn C} {R : Vp} {names : List Str}
theorem tk_nil (e : Ps = Ps') (B : Bds nm oc sc ts Ps' ρ ρ') (h : EX C n X (FS C env nm oc sc X ρ' ω κ) (execs rest env) Ψ R) :
    TupK C n X env nm oc sc ρ κ (fun Ps ω => ∃ ρ', Bds nm oc sc ts Ps ρ ρ' ∧ EX C n X (FS C env nm oc sc X ρ' ω κ) (execs rest env) Ψ R) [] Ps ω := .nil ⟨ρ', e ▸ B, h⟩
theorem tk_nil_sw {ns : List Str} (e : Ps.reverse = Ps') (e2 : names.reverse = ns) (B : Bdn nm oc sc ns Ps' ρ ρ') (h : EX C n X (FS C env nm oc sc X ρ' ω κ) (execs rest env) Ψ R) :
    TupK C n X env nm oc sc ρ κ (fun Ps ω => ∃ ρ', Bdn nm oc sc names.reverse Ps.reverse ρ ρ' ∧ EX C n X (FS C env nm oc sc X ρ' ω κ) (execs rest env) Ψ R) [] Ps ω := .nil ⟨ρ', by rw [e, e2]; exact B, h⟩
theorem exs_for {iter target : Expr} {body : List Stmt} {pos : Pos} {ds : List PV} {ρs : Nat → List (Option Vp)} {ωs : Nat → List (Addr × List PV)} (e0 : ρ = ρs 0) (e1 : ω = ωs 0) (hit : IT C n (FS C env nm oc sc X ρ ω κ) iter env target ds)
    (hω : ∀ i, (ωs i).map (·.1) = (ωs 0).map (·.1))
    (step : ∀ κ' i d, ds[i]? = some d → ∃ ρ', Tgt nm oc sc target d (ρs i) ρ' ∧ EX C n X (FS C env nm oc sc X ρ' (ωs i) κ') (execs body env) (FS C env nm oc sc X (ρs (i + 1)) (ωs (i + 1)) κ') R)
    (h : EX C n X (FS C env nm oc sc X (ρs ds.length) (ωs ds.length) κ) (execs rest env) Ψ R)
    (hs : ∀ x, foldedSetIterable iter env x = pure x := by intro _; rfl) : EX C n X (FS C env nm oc sc X ρ ω κ) (execs (.For target iter body [] pos :: rest) env) Ψ R := by
  subst e0 e1
  exact ex_cons (ex_for hit hω step hs) h
theorem ex_end {Φ : Asn C} (h : ∀ {Z h}, Φ.at_ Z h → Ψ.at_ Z h) : EX C n X Φ (execs [] env) Ψ R := ex_mono ex_nil h
end
section
variable {C : Cx} {n : Nat} {X : Addr → Prop} {env : Env} {nm oc : List Str} {sc : List (Str × NameKind)} {ω : List (Addr × List PV)} {κ : Addr → Option Obj} {ρ ρ' : List (Option Vp)} {R : Vp}
theorem ex_fgt (g : Fgt ρ ρ') : EX C n X (FS C env nm oc sc X ρ ω κ) (execs [] env) (FS C env nm oc sc X ρ' ω κ) R := ex_end fun h => h.forget g
end
theorem ex_mk {α : Sort _} {P Q : α → Prop} {a : α} (h : P a) (k : Q a) : ∃ x, P x ∧ Q x := ⟨a, h, k⟩
theorem ex_mk3 {α : Sort _} {P Q R : α → Prop} {a : α} (h : P a) (k : Q a) (r : R a) : ∃ x, P x ∧ Q x ∧ R x := ⟨a, h, k, r⟩
theorem ex_mk4 {α : Sort _} {P Q R S : α → Prop} {a : α} (h : P a) (k : Q a) (r : R a) (s : S a) : ∃ x, P x ∧ Q x ∧ R x ∧ S x := ⟨a, h, k, r, s⟩
section
open PySem.SeqAt
noncomputable def eqN : Nat → PV → PV → Bool
  | _, .int a, .int b => a == b
  | _, .str a, .str b => a == b
  | k + 1, .list l, .list m => l.length == m.length && (l.zip m).all fun p => eqN k p.1 p.2
  | k + 1, .tup l, .tup m => (l.zip m).all (fun p => eqN k p.1 p.2) && l.length == m.length
  | _, _, _ => false
noncomputable def okN : Nat → PV → PV → Bool
  | _, .int _, .int _ => true
  | _, .str _, .str _ => true
  | k + 1, .list l, .list m => l.length != m.length || (l.zip m).all fun p => okN k p.1 p.2
  | k + 1, .tup l, .tup m => (l.zip m).all fun p => okN k p.1 p.2
  | _, _, _ => false
theorem ok_inv {k : Nat} {d d' : PV} (h : okN k d d' = true) : (∃ a b, d = .int a ∧ d' = .int b) ∨ (∃ a b, d = .str a ∧ d' = .str b) ∨ (∃ j l m, k = j + 1 ∧ d = .list l ∧ d' = .list m) ∨ (∃ j l m, k = j + 1 ∧ d = .tup l ∧ d' = .tup m) := by
  unfold okN at h
  split at h
  · exact .inl ⟨_, _, rfl, rfl⟩
  · exact .inr (.inl ⟨_, _, rfl, rfl⟩)
  · exact .inr (.inr (.inl ⟨_, _, _, rfl, rfl, rfl⟩))
  · exact .inr (.inr (.inr ⟨_, _, _, rfl, rfl, rfl⟩))
  · cases h
theorem eqN_int (k : Nat) (a b : Int) : eqN k (.int a) (.int b) = (a == b) := by cases k <;> rfl
theorem eqN_str (k : Nat) (a b : Str) : eqN k (.str a) (.str b) = (a == b) := by cases k <;> rfl
theorem zip_self {l : List PV} {p : PV × PV} (hp : p ∈ l.zip l) : p.1 = p.2 := by
  obtain ⟨i, hi⟩ := List.mem_iff_getElem?.mp hp
  have e := List.getElem?_zip_eq_some.mp hi
  exact Option.some.inj (e.1.symm.trans e.2)
theorem eqN_refl (k : Nat) (d : PV) (h : okN k d d = true) : eqN k d d = true := by
  induction k generalizing d with
  | zero =>
    rcases ok_inv h with ⟨a, b, rfl, _⟩ | ⟨a, b, rfl, _⟩ | ⟨_, _, _, e, _⟩ | ⟨_, _, _, e, _⟩
    · rw [eqN_int]; exact beq_self_eq_true a
    · rw [eqN_str]; exact beq_self_eq_true a
    · cases e
    · cases e
  | succ k ih =>
    have all : ∀ l : List PV, ((l.zip l).all fun p => okN k p.1 p.2) = true → ((l.zip l).all fun p => eqN k p.1 p.2) = true := fun l h => List.all_eq_true.mpr fun p hp => by
      have := List.all_eq_true.mp h p hp
      rw [← zip_self hp] at this ⊢
      exact ih _ this
    rcases ok_inv h with ⟨a, b, rfl, _⟩ | ⟨a, b, rfl, _⟩ | ⟨_, l, _, _, rfl, _⟩ | ⟨_, l, _, _, rfl, _⟩
    · rw [eqN_int]; exact beq_self_eq_true a
    · rw [eqN_str]; exact beq_self_eq_true a
    · show (l.length == l.length && _) = true
      rw [beq_self_eq_true, Bool.true_and]
      exact all l (by rw [okN, bne_self_eq_false, Bool.false_or] at h; exact h)
    · show (_ && l.length == l.length) = true
      rw [beq_self_eq_true, Bool.and_true]
      exact all l h
def RdV (Z : Fz) (v : Value) (d : PV) : Prop := match v with
  | .none => d = .none
  | .bool b => d = .bool b
  | .int i _ => d = .int i
  | .float x _ => d = .flt x
  | .str x _ => d = .str x
  | .ref a => ∃ c vs n l, Z a = some { cls := .type c, data := .seq (List.toArray vs) n } ∧ RdL Z vs l ∧ ((c = "list" ∧ d = .list l) ∨ (c = "tuple" ∧ d = .tup l))
  | _ => False
theorem rdv {Z : Fz} {v : Value} {d : PV} (h : Rd Z v d) : RdV Z v d := by
  cases h with
  | none => exact rfl
  | bool b => exact rfl
  | int i t => exact rfl
  | flt x t => exact rfl
  | str x t => exact rfl
  | list h r => exact ⟨_, _, _, _, h, r, .inl ⟨rfl, rfl⟩⟩
  | tup h r => exact ⟨_, _, _, _, h, r, .inr ⟨rfl, rfl⟩⟩
theorem seq_inj {c c' : String} {vs vs' : List Value} {n n' : Nat} (e : (some { cls := .type c, data := .seq vs.toArray n } : Option Obj) = some { cls := .type c', data := .seq vs'.toArray n' }) : c = c' ∧ vs = vs' := by
  injection e with e
  injection e with e1 _ e2 _
  injection e2 with e2 _
  injection e1 with e1
  exact ⟨e1, congrArg Array.toList e2⟩
theorem Rd.uniq {Z : Fz} {v : Value} {d d' : PV} (h : Rd Z v d) (h' : Rd Z v d') : d = d' :=
  Rd.rec (motive_1 := fun v d _ => ∀ d', Rd Z v d' → d = d') (motive_2 := fun vs ds _ => ∀ ds', RdL Z vs ds' → ds = ds') (fun _ h => (rdv h).symm) (fun _ _ h => (rdv h).symm) (fun _ _ _ h => (rdv h).symm) (fun _ _ _ h => (rdv h).symm) (fun _ _ _ h => (rdv h).symm)
    (fun h _ ih d' h' => by
      obtain ⟨c, vs, n, l, ho, hr, ⟨_, rfl⟩ | ⟨rfl, _⟩⟩ := rdv h'
      · obtain ⟨_, rfl⟩ := seq_inj (h.symm.trans ho)
        rw [ih _ hr]
      · exact absurd (seq_inj (h.symm.trans ho)).1 (by decide))
    (fun h _ ih d' h' => by
      obtain ⟨c, vs, n, l, ho, hr, ⟨rfl, _⟩ | ⟨_, rfl⟩⟩ := rdv h'
      · exact absurd (seq_inj (h.symm.trans ho)).1 (by decide)
      · obtain ⟨_, rfl⟩ := seq_inj (h.symm.trans ho)
        rw [ih _ hr])
    (fun ds' h' => by
      cases ds' with
      | nil => rfl
      | cons _ _ => obtain ⟨_, _, e, _⟩ := rdli h'; cases e)
    (fun _ _ ih1 ih2 ds' h' => by
      cases ds' with
      | nil => have e := rdli h'; cases e
      | cons d ds => obtain ⟨_, _, e, h1, h2⟩ := rdli h'; cases e; rw [ih1 _ h1, ih2 _ h2]) h d' h'
theorem zip_all_at {l m : List PV} {p : PV × PV → Bool} {i : Nat} {a b : PV} (h : (l.zip m).all p = true) (ha : l[i]? = some a) (hb : m[i]? = some b) : p (a, b) = true :=
  List.all_eq_true.mp h _ (List.mem_of_getElem? (List.getElem?_zip_eq_some.mpr ⟨ha, hb⟩))
theorem zip_all_range {l m : List PV} {p : PV × PV → Bool} : (l.zip m).all p = (List.range (min l.length m.length)).all fun i => p (l.getD i .none, m.getD i .none) := by
  rw [Bool.eq_iff_iff]
  simp only [List.all_eq_true, List.mem_range]
  constructor
  · intro h i hi
    have h1 : i < l.length := by lia
    have h2 : i < m.length := by lia
    rw [List.getD_eq_getElem?_getD, List.getD_eq_getElem?_getD, List.getElem?_eq_getElem h1, List.getElem?_eq_getElem h2]
    exact h _ (List.mem_of_getElem? (List.getElem?_zip_eq_some.mpr ⟨List.getElem?_eq_getElem h1, List.getElem?_eq_getElem h2⟩))
  · intro h q hq
    obtain ⟨i, hi⟩ := List.mem_iff_getElem?.mp hq
    obtain ⟨a, b⟩ := List.getElem?_zip_eq_some.mp hi
    have h1 := (List.getElem?_eq_some_iff.mp a).1
    have h2 := (List.getElem?_eq_some_iff.mp b).1
    have := h i (by lia)
    rw [List.getD_eq_getElem?_getD, List.getD_eq_getElem?_getD, a, b] at this
    exact this
section
variable {C : Cx} {Z : Fz} {s : Shared}
theorem items_at {k : Nat} {l m : List PV} {vs vs' : List Value} (r : RdL Z vs l) (r' : RdL Z vs' m) (hp : ((l.zip m).all fun p => okN k p.1 p.2) = true) {A : Around}
    (ih : ∀ (d d' : PV) (v v' : Value), Rd Z v d → Rd Z v' d' → okN k d d' = true → EqAt A s v v' (eqN k d d')) (j : Nat) (h1 : j < vs.toArray.size) (h2 : j < vs'.toArray.size) : EqAt A s vs.toArray[j] vs'.toArray[j] (eqN k (l.getD j .none) (m.getD j .none)) := by
  have j1 : j < vs.length := by rw [List.size_toArray] at h1; exact h1
  have j2 : j < vs'.length := by rw [List.size_toArray] at h2; exact h2
  have g1 := List.getElem?_eq_getElem (r.length ▸ j1)
  have g2 := List.getElem?_eq_getElem (r'.length ▸ j2)
  rw [List.getD_eq_getElem?_getD, List.getD_eq_getElem?_getD, g1, g2, List.getElem_toArray, List.getElem_toArray]
  exact ih _ _ _ _ (r.at (List.getElem?_eq_getElem j1) g1) (r'.at (List.getElem?_eq_getElem j2) g2) (zip_all_at hp g1 g2)
theorem eqN_list {k : Nat} {l m : List PV} {vs : List Value} (r : RdL Z vs l) (hl : l.length = m.length) : eqN (k + 1) (.list l) (.list m) = (List.range vs.toArray.size).all fun i => eqN k (l.getD i .none) (m.getD i .none) := by
  rw [eqN, zip_all_range, List.size_toArray, r.length, hl, beq_self_eq_true, Bool.true_and, Nat.min_self]
theorem eqN_len {k : Nat} {l m : List PV} (hl : ¬ l.length = m.length) : eqN (k + 1) (.list l) (.list m) = false := by
  rw [eqN, beq_eq_false_iff_ne.mpr hl, Bool.false_and]
theorem okN_l1 {k : Nat} {l m : List PV} (h : okN (k + 1) (.list l) (.list m) = true) (hl : l.length = m.length) : ((l.zip m).all fun p => okN k p.1 p.2) = true := by
  rw [okN, hl, bne_self_eq_false, Bool.false_or] at h; exact h
theorem eq_at (I : Inv C Z s) (k : Nat) (A : Around) (d d' : PV) (v v' : Value) (h : Rd Z v d) (h' : Rd Z v' d') (hk : okN k d d' = true) (hu : A.units + k < 9900) : EqAt A s v v' (eqN k d d') := by
  induction k generalizing A d d' v v' with
  | zero =>
    rcases ok_inv hk with ⟨a, b, rfl, rfl⟩ | ⟨a, b, rfl, rfl⟩ | ⟨_, _, _, e, _⟩ | ⟨_, _, _, e, _⟩
    · obtain ⟨_, rfl⟩ := rdi h; obtain ⟨_, rfl⟩ := rdi h'
      rw [eqN_int]; exact EqAt.int_int _ _ _ _
    · obtain ⟨_, rfl⟩ := rdi h; obtain ⟨_, rfl⟩ := rdi h'
      rw [eqN_str]; exact EqAt.str_str _ _ _ _
    · cases e
    · cases e
  | succ k ih =>
    have hu1 : A.units < 9900 := Nat.lt_of_le_of_lt (Nat.le_add_right _ _) hu
    have hu2 : A.in1.units + k < 9900 := by rw [show A.in1.units = A.units + 1 from rfl, Nat.add_right_comm]; exact hu
    have ih := fun d d' v v' h h' hk => ih A.in1 d d' v v' h h' hk hu2
    rcases ok_inv hk with ⟨a, b, rfl, rfl⟩ | ⟨a, b, rfl, rfl⟩ | ⟨_, l, m, _, rfl, rfl⟩ | ⟨_, l, m, _, rfl, rfl⟩
    · obtain ⟨_, rfl⟩ := rdi h; obtain ⟨_, rfl⟩ := rdi h'
      rw [eqN_int]; exact EqAt.int_int _ _ _ _
    · obtain ⟨_, rfl⟩ := rdi h; obtain ⟨_, rfl⟩ := rdi h'
      rw [eqN_str]; exact EqAt.str_str _ _ _ _
    · obtain ⟨a, n, vs, rfl, hz, r⟩ := rdi h
      obtain ⟨a', n', vs', rfl, hz', r'⟩ := rdi h'
      by_cases e : a = a'
      · subst e
        have := Rd.uniq (Rd.list hz r) (Rd.list hz' r')
        rw [← this] at hk ⊢
        rw [eqN_refl _ _ hk]
        exact EqAt.same _
      · refine EqAt.of_refs e ?_
        by_cases hl : l.length = m.length
        · rw [eqN_list r hl]
          exact RcAt.lists (isList_of I hz) (isList_of I hz') (by rw [List.size_toArray, List.size_toArray, r.length, r'.length, hl]) hu1 (items_at r r' (okN_l1 hk hl) ih)
        · rw [eqN_len hl]
          exact RcAt.lists_lengths (isList_of I hz) (isList_of I hz') (by rw [List.size_toArray, List.size_toArray, r.length, r'.length]; exact bne_iff_ne.mpr hl) hu1
    · obtain ⟨a, n, vs, rfl, hz, r⟩ := rdi h
      obtain ⟨a', n', vs', rfl, hz', r'⟩ := rdi h'
      by_cases e : a = a'
      · subst e
        have := Rd.uniq (Rd.tup hz r) (Rd.tup hz' r')
        rw [← this] at hk ⊢
        rw [eqN_refl _ _ hk]
        exact EqAt.same _
      · refine EqAt.of_refs e ?_
        rw [show eqN (k + 1) (.tup l) (.tup m) = ((List.range (min vs.toArray.size vs'.toArray.size)).all (fun i => eqN k (l.getD i .none) (m.getD i .none)) && vs.toArray.size == vs'.toArray.size) by
          rw [eqN, zip_all_range, List.size_toArray, List.size_toArray, r.length, r'.length]]
        exact RcAt.tuples (isTup_of I hz) (isTup_of I hz') hu1 (items_at r r' hk ih)
end
section
variable {C : Cx} {n : Nat} {l m : List PV}
theorem op_eq_list (k : Nat) (hk : k ≤ 800) (h : okN (k + 1) (.list l) (.list m) = true) : OP2 C n (compareOp .Eq) (is (.list l)) (is (.list m)) (is (.bool (eqN (k + 1) (.list l) (.list m)))) := fun A s Z u v Q E hA I hu hv kk => by
  have hun : A.units < 9001 := by have := hA.units; lia
  have ih := fun d d' v v' h h' ho => eq_at I k A.in1 d d' v v' h h' ho (by rw [show A.in1.units = A.units + 1 from rfl]; lia)
  obtain ⟨a, n, vs, rfl, hz, r⟩ := rdi hu
  obtain ⟨a', n', vs', rfl, hz', r'⟩ := rdi hv
  by_cases hl : l.length = m.length
  · rw [eqN_list r hl] at kk
    exact eq_listAt (isList_of I hz) (isList_of I hz') (by rw [List.size_toArray, List.size_toArray, r.length, r'.length, hl]) (by show A.units < 9900; lia) (items_at r r' (okN_l1 h hl) ih) (kk _ Z _ (StepX.refl I) (.bool _))
  · rw [eqN_len hl] at kk
    exact eq_list_lengthsAt (isList_of I hz) (isList_of I hz') (by rw [List.size_toArray, List.size_toArray, r.length, r'.length]; exact bne_iff_ne.mpr hl) (by show A.units < 9900; lia) (kk _ Z _ (StepX.refl I) (.bool _))
end
end
section
open PySem.SeqAt
section
variable {C : Cx} {n : Nat} {X : Addr → Prop} {Φ : Asn C} {env : Env} {l m : List PV} {l' r' : Expr} {pos : Pos} {c : Bool} {R : Vp}
theorem ev_ifexpT {t b o : Expr} (ht : TV C n Φ (isTrue t env (eval t env)) c) (hc : c = true) (hb : EV C n Φ (eval b env) R) : EV C n Φ (eval (.IfExp t b o pos) env) R :=
  ev_ifexp ht (fun _ => hb) fun q => by rw [hc] at q; cases q
theorem ev_ifexpF {t b o : Expr} (ht : TV C n Φ (isTrue t env (eval t env)) c) (hc : c = false) (ho : EV C n Φ (eval o env) R) : EV C n Φ (eval (.IfExp t b o pos) env) R :=
  ev_ifexp ht (fun q => by rw [hc] at q; cases q) fun _ => ho
theorem ex_asgU {nm oc : List Str} {sc : List (Str × NameKind)} {ω : List (Addr × List PV)} {κ : Addr → Option Obj} {ts : List Expr} {kk : Nat} {p pos : Pos} {d : PV} {ρ ρ' : List (Option Vp)} {e : Expr} (he : EV C n (FS C env nm oc sc X ρ ω κ) (eval e env) (is d)) (T : Tgt nm oc sc (.Tuple ts kk p) d ρ ρ')
    (hs : swapsWithSole [.Tuple ts kk p] e pos.line env = pure false) (hw : swappedStores [.Tuple ts kk p] e env = pure none) :
    EX C n X (FS C env nm oc sc X ρ ω κ) (exec (.Assign [.Tuple ts kk p] e pos) env) (FS C env nm oc sc X ρ' ω κ) R := ex_asgT (t := e) he T hs hw
section
variable {α β : Type} {nm oc : List Str} {sc : List (Str × NameKind)} {ω : List (Addr × List PV)} {κ : Addr → Option Obj} {ρ ρ₂ : List (Option Vp)} {elt target iter : Expr} {ifs : List Expr} {gens : List Comprehension} {scope : Scope} {pos' : Pos} {t : Env → Addr → Addr → Sem β} {xs : List α} {f : α → PV} {sc' : List (Str × NameKind)} {nm' oc' : List Str} {ρ' : List (Option Vp)}
theorem ex_assignC1 {ds : List PV} {h : α → PV} {x : Str} {xp spos : Pos} (O : CompOk C n X env nm oc sc ρ ω κ elt target iter ifs gens scope pos' t xs f (fun x => [h x]) sc' nm' oc' ρ') (e : xs.map h = ds) (hu : Upd nm ρ x (some (is (.list ds))) ρ₂) (pl : PlainName x) (hk : canSt sc oc x = true)
    (hsw : swapsWith (.ListComp elt (⟨target, iter, ifs, 0⟩ :: gens) scope pos') (some (.Name x xp)) spos.line env = pure true) :
    EX C n X (FS C env nm oc sc X ρ ω κ) (exec (.Assign [.Name x xp] (.ListComp elt (⟨target, iter, ifs, 0⟩ :: gens) scope pos') spos) env) (FS C env nm oc sc X ρ₂ ω κ) R := by
  refine ex_assignC hsw O ?_ pl hk
  rw [flat_one, e]; exact hu
noncomputable def offV : Vp := ⟨fun _ _ => False, fun _ h => h⟩
theorem ex_off {Ψ : Asn C} {x : Str} {t : Sem Flow} (h : At nm ρ x offV) : EX C n X (FS C env nm oc sc X ρ ω κ) t Ψ R := fun A s Z Q E hA I H k1 k2 => by
  obtain ⟨v, _, h⟩ := h.var H.vars
  exact h.elim
end
end
end
local macro_rules | `(tactic| walk_at "rfl") => `(tactic| first | exact rfl | (subst_vars; exact rfl))
local macro_rules | `(tactic| walk_at "at") => `(tactic| first
  | with_reducible (first | exact At.here | exact At.a1 | exact At.a2 | exact At.a3 | exact Upd.here | exact Upd.a1 | exact Upd.a2 | exact Upd.a3 | exact Fgt.nil | exact IsL.nil | exact Bds.nil | exact Bdn.nil | exact FreeR.nil)
  | ((with_reducible (first | apply At.t4 | apply Upd.t4 | apply IsL.cons | apply Fgt.same | apply Fgt.drop)); walk_at "at")
  | ((with_reducible (first | apply Bds.cons | apply Bdn.cons)); walk_at "at"; decide +kernel; decide +kernel; walk_at "at")
  | ((with_reducible apply Tgt.name); walk_at "at"; decide +kernel; decide +kernel)
  | ((with_reducible (first | apply tgt_tup | apply tgt_lst)); walk_at "at"; walk_at "at")
  | ((with_reducible apply FreeR.own); exact rfl; walk_at "at")
  | ((with_reducible apply FreeR.free); walk_at "at"; exact rfl; exact rfl; walk_at "at"))
local macro_rules | `(tactic| walk_at "nz") => `(tactic| first | assumption | decide | decide +kernel | exact PyProof.noPylong_small (by decide +kernel) | exact PyProof.noPylong_small (by omega) | omega)
local macro_rules | `(tactic| walk_at "op") => `(tactic| first
  | with_reducible (first | exact op_add_int | exact op_sub_int | exact op_add_flt | exact op_sub_flt | exact op_mul_flt | exact op_lt_int | exact op_le_int | exact op_gt_int | exact op_ge_int | exact op_eq_int | exact op_ne_int | exact op_lt_flt | exact op_le_flt | exact op_eq_flt | exact op_eq_str | exact op_is_bool | exact op_xor_int | exact op_neg_int | exact op_inv_int)
  | ((with_reducible (first | apply op_mod_flt | apply op_div_flt | apply op_sub_fi | apply op_mul_fi | apply op_mul_if | apply op_pow_int | apply op_mod_int | apply op_div_int | apply op_tdiv_int | apply op_div_if)) <;> walk_at "nz")
  | ((with_reducible apply op_mul_int); first | assumption | exact IntMulOk.of_left (by decide +kernel) | exact IntMulOk.of_right (by decide +kernel) | exact mulOk_l (by omega) | exact mulOk_r (by omega))
  | ((with_reducible apply op_item_list); exact rfl; exact rfl; exact Nat.le_of_ble_eq_true rfl; (intro _ _; rfl))
  | ((with_reducible apply op_item_tup); exact rfl; exact rfl; decide; decide; (intro _ _; rfl)))
local macro_rules | `(tactic| walk_at "sz") => `(tactic| first | assumption | exact Nat.le_of_ble_eq_true rfl | (simp only [List.length_map, List.length_cons, List.length_nil, List.length_append, List.length_range, List.length_zip, sizeLine_eq]; omega))
local macro_rules | `(tactic| walk_at "fn") => `(tactic| first | with_reducible (first | exact fn_max3F | exact fn_min3F | exact fn_max3I | exact fn_min3I) | ((with_reducible (first | apply fn_int_flt | apply fn_round_flt)); walk_at "nz"))
local macro_rules | `(tactic| walk_at "def") => `(tactic| fail)
local macro_rules | `(tactic| walk_at "ev") => `(tactic| first
  | with_reducible (first | exact ev_int | exact ev_flt | exact ev_str | exact ev_none | exact ev_bool | exact el_nil)
  | ((with_reducible apply ev_name); walk_at "at")
  | (focus (with_reducible apply ev_globd); (with_reducible assumption); all_goals exact rfl)
  | ((with_reducible (first | apply ev_bin | apply ev_sub)); walk_at "ev"; walk_at "ev"; walk_at "op")
  | ((with_reducible apply ev_un); walk_at "ev"; walk_at "op")
  | (focus (with_reducible apply ev_callBt); (with_reducible assumption); walk_at "ev"; walk_at "fn"; all_goals exact rfl)
  | (focus (with_reducible apply ev_callTt); (with_reducible assumption); walk_at "ev"; walk_at "fn"; all_goals exact rfl)
  | (focus (with_reducible apply ev_callD); walk_at "ev"; walk_at "def"; decide; all_goals exact rfl)
  | ((with_reducible apply el_cons); walk_at "ev"; walk_at "ev"; exact rfl)
  | ((with_reducible (first | apply ev_tupL | apply ev_listL)); walk_at "ev"; walk_at "at"; exact Nat.le_of_ble_eq_true rfl)
  | ((with_reducible (first | apply ev_cmp | apply tv_cmp)); walk_at "ev"; walk_at "ev"; walk_at "op"; exact rfl))
local macro_rules | `(tactic| walk_at "asn") => `(tactic| ((with_reducible apply ex_cons); (focus ((with_reducible apply ex_assign); walk_at "ev"; walk_at "at"; decide +kernel; decide +kernel; walk_at "rfl"))))
local macro_rules | `(tactic| walk_at "fgtd") => `(tactic| first | exact Fgt.nil | ((first | apply Fgt.same | apply Fgt.drop); walk_at "fgtd"))
local macro_rules | `(tactic| walk_at "if") => `(tactic| ((with_reducible apply ex_ifs); walk_at "ev"; all_goals (try simp only [List.cons_append, List.nil_append])))
local macro_rules | `(tactic| walk_at "ret") => `(tactic| ((with_reducible apply ex_ret); (with_reducible apply ev_d); walk_at "ev"))
noncomputable abbrev nmS : List Str := [sQ "script", sQ "k", sQ "heaps", sQ "kinds", sQ "terms", sQ "kind", sQ "turns", sQ "dress", sQ "begin", sQ "share", sQ "value", sQ "bits", sQ "text", sQ "lead", sQ "colours", sQ "sixths", sQ "table", sQ "base", sQ "turn", sQ "colour", sQ "names", sQ "number", sQ "name", sQ "told", sQ "sums", sQ "numbers", sQ "stages", sQ "hues", sQ "lit", sQ "red", sQ "green", sQ "blue", sQ "worth", sQ "rest", sQ "times"]
noncomputable def vF (m1 m2 hue : UInt64) : UInt64 :=
  let h := (Float64.divmod hue 4607182418800017408).2
  if ltF h 4595172819793696085 then Float64.add m1 (Float64.mul (Float64.mul (Float64.sub m2 m1) h) 4618441417868443648)
  else if ltF h 4602678819172646912 then m2
  else if ltF h 4604180019048437077 then Float64.add m1 (Float64.mul (Float64.mul (Float64.sub m2 m1) (Float64.sub 4604180019048437077 h)) 4618441417868443648)
  else m1
structure ColK (C : Cx) : Prop where
  q : Quiet C
  third : GlobD C (sQ "ONE_THIRD") (.flt 4599676419421066581)
  sixth : GlobD C (sQ "ONE_SIXTH") (.flt 4595172819793696085)
  two : GlobD C (sQ "TWO_THIRD") (.flt 4604180019048437077)
  max : BltZ C (sQ "max") (.builtin "max")
  min : BltZ C (sQ "min") (.builtin "min")
  int : BltZ C (sQ "int") (.type "int")
  dv : DefAt C pw 16 (sQ "_v")
  hls : DefAt C pw 14 (sQ "rgb_to_hls")
  slh : DefAt C pw 15 (sQ "hls_to_rgb")
  hsv : DefAt C pw 17 (sQ "rgb_to_hsv")
  vsh : DefAt C pw 18 (sQ "hsv_to_rgb")
section
variable {C : Cx}
theorem d_v (K : ColK C) (m1 m2 hue : UInt64) : DefC C 2 (sQ "_v") [is (.flt m1), is (.flt m2), is (.flt hue)] (is (.flt (vF m1 m2 hue))) := by
  obtain ⟨f, q, doc, pm, cd, hg, ho, hcd⟩ := K.dv
  have g1 := K.sixth
  have g2 := K.two
  refine ⟨f, hg, ⟨_, _, ho, rfl⟩, fn_def (n := 0) (sc := scOf (stAt pw 16)) (ρ := [some (is (.flt m1)), some (is (.flt m2)), some (is (.flt hue))]) (nm := [sQ "m1", sQ "m2", sQ "hue"]) (xs := [sQ "m1", sQ "m2", sQ "hue"]) K.q ho rfl hcd rfl rfl rfl rfl rfl (bnd3 fun _ _ _ => by kernel_rfl) rfl (by decide +kernel) (by decide +kernel) (by decide +kernel) (by decide +kernel) rfl fun L X => ?_⟩
  walk_at "asn"
  walk_at "if"
  · intro h1
    walk_at "ret"
    simp only [vF, h1]; rfl
  intro h1
  walk_at "if"
  · intro h2
    walk_at "ret"
    simp only [vF, h1, h2]; rfl
  intro h2
  walk_at "if"
  · intro h3
    walk_at "ret"
    simp only [vF, h1, h2, h3]; rfl
  intro h3
  walk_at "ret"
  simp only [vF, h1, h2, h3]; rfl
noncomputable def slhF (h l s : UInt64) : UInt64 × UInt64 × UInt64 :=
  if eqF s 0 then (l, l, l) else
    let m2 := if leF l 4602678819172646912 then Float64.mul l (Float64.add 4607182418800017408 s) else Float64.sub (Float64.add l s) (Float64.mul l s)
    let m1 := Float64.sub (Float64.mul 4611686018427387904 l) m2
    (vF m1 m2 (Float64.add h 4599676419421066581), vF m1 m2 h, vF m1 m2 (Float64.sub h 4599676419421066581))
noncomputable def t3 (x : UInt64 × UInt64 × UInt64) : PV := .tup [.flt x.1, .flt x.2.1, .flt x.2.2]
local macro_rules | `(tactic| walk_at "def") => `(tactic| (with_reducible apply d_v; assumption))
theorem d_slh (K : ColK C) (h l s : UInt64) : DefC C 3 (sQ "hls_to_rgb") [is (.flt h), is (.flt l), is (.flt s)] (is (t3 (slhF h l s))) := by
  obtain ⟨f, q, doc, pm, cd, hg, ho, hcd⟩ := K.slh
  have g1 := K.third
  refine ⟨f, hg, ⟨_, _, ho, rfl⟩, fn_def (n := 1) (sc := scOf (stAt pw 15)) (ρ := [some (is (.flt h)), some (is (.flt l)), some (is (.flt s)), none, none]) (nm := [sQ "h", sQ "l", sQ "s", sQ "m2", sQ "m1"]) (xs := [sQ "h", sQ "l", sQ "s"]) K.q ho rfl hcd rfl rfl rfl rfl rfl (bnd3 fun _ _ _ => by kernel_rfl) rfl (by decide +kernel) (by decide +kernel) (by decide +kernel) (by decide +kernel) rfl fun L X => ?_⟩
  walk_at "if"
  · intro h1
    walk_at "ret"
    simp only [slhF, h1]; rfl
  intro h1
  walk_at "if"
  · intro h2
    walk_at "asn"
    walk_at "asn"
    walk_at "ret"
    simp only [slhF, h1, h2]; rfl
  · intro h2
    walk_at "asn"
    walk_at "asn"
    walk_at "ret"
    simp only [slhF, h1, h2]; rfl
noncomputable def hueF (r g b mx rg : UInt64) : UInt64 :=
  let rc := Float64.div (Float64.sub mx r) rg
  let gc := Float64.div (Float64.sub mx g) rg
  let bc := Float64.div (Float64.sub mx b) rg
  let h := if eqF r mx then Float64.sub bc gc else if eqF g mx then Float64.sub (Float64.add 4611686018427387904 rc) bc else Float64.sub (Float64.add 4616189618054758400 gc) rc
  (Float64.divmod (Float64.div h 4618441417868443648) 4607182418800017408).2
noncomputable def hsvF (r g b : UInt64) : UInt64 × UInt64 × UInt64 :=
  let mx := mxF r g b
  let mn := mnF r g b
  let rg := Float64.sub mx mn
  if eqF mn mx then (0, 0, mx) else (hueF r g b mx rg, Float64.div rg mx, mx)
noncomputable def hlsF (r g b : UInt64) : UInt64 × UInt64 × UInt64 :=
  let mx := mxF r g b
  let mn := mnF r g b
  let sm := Float64.add mx mn
  let rg := Float64.sub mx mn
  let l := Float64.div sm 4611686018427387904
  if eqF mn mx then (0, l, 0) else
    (hueF r g b mx rg, l, if leF l 4602678819172646912 then Float64.div rg sm else Float64.div rg (Float64.sub (Float64.sub 4611686018427387904 mx) mn))
theorem d_hsv (K : ColK C) (r g b : UInt64) (z1 : Float64.isZero (mxF r g b) = false) (z2 : Float64.isZero (Float64.sub (mxF r g b) (mnF r g b)) = false) :
    DefC C 2 (sQ "rgb_to_hsv") [is (.flt r), is (.flt g), is (.flt b)] (is (t3 (hsvF r g b))) := by
  obtain ⟨f, q, doc, pm, cd, hg, ho, hcd⟩ := K.hsv
  have g1 := K.max
  have g2 := K.min
  refine ⟨f, hg, ⟨_, _, ho, rfl⟩, fn_def (n := 0) (sc := scOf (stAt pw 17)) (ρ := [some (is (.flt r)), some (is (.flt g)), some (is (.flt b)), none, none, none, none, none, none, none, none, none]) (nm := [sQ "r", sQ "g", sQ "b", sQ "maxc", sQ "minc", sQ "rangec", sQ "v", sQ "s", sQ "rc", sQ "gc", sQ "bc", sQ "h"]) (xs := [sQ "r", sQ "g", sQ "b"]) K.q ho rfl hcd rfl rfl rfl rfl rfl (bnd3 fun _ _ _ => by kernel_rfl) rfl (by decide +kernel) (by decide +kernel) (by decide +kernel) (by decide +kernel) rfl fun L X => ?_⟩
  walk_at "asn"
  walk_at "asn"
  walk_at "asn"
  walk_at "asn"
  walk_at "if"
  · intro h1
    walk_at "ret"
    simp only [hsvF, h1]; rfl
  intro h1
  walk_at "asn"
  walk_at "asn"
  walk_at "asn"
  walk_at "asn"
  walk_at "if"
  · intro h2
    walk_at "asn"
    walk_at "asn"
    walk_at "ret"
    simp only [hsvF, hueF, h1, h2]; rfl
  intro h2
  walk_at "if"
  · intro h3
    walk_at "asn"
    walk_at "asn"
    walk_at "ret"
    simp only [hsvF, hueF, h1, h2, h3]; rfl
  · intro h3
    walk_at "asn"
    walk_at "asn"
    walk_at "ret"
    simp only [hsvF, hueF, h1, h2, h3]; rfl
theorem d_hls (K : ColK C) (r g b : UInt64) (z1 : Float64.isZero (Float64.add (mxF r g b) (mnF r g b)) = false) (z2 : Float64.isZero (Float64.sub (mxF r g b) (mnF r g b)) = false)
    (z3 : Float64.isZero (Float64.sub (Float64.sub 4611686018427387904 (mxF r g b)) (mnF r g b)) = false) :
    DefC C 2 (sQ "rgb_to_hls") [is (.flt r), is (.flt g), is (.flt b)] (is (t3 (hlsF r g b))) := by
  obtain ⟨f, q, doc, pm, cd, hg, ho, hcd⟩ := K.hls
  have g1 := K.max
  have g2 := K.min
  refine ⟨f, hg, ⟨_, _, ho, rfl⟩, fn_def (n := 0) (sc := scOf (stAt pw 14)) (ρ := [some (is (.flt r)), some (is (.flt g)), some (is (.flt b)), none, none, none, none, none, none, none, none, none, none]) (nm := [sQ "r", sQ "g", sQ "b", sQ "maxc", sQ "minc", sQ "rangec", sQ "sumc", sQ "l", sQ "s", sQ "rc", sQ "gc", sQ "bc", sQ "h"]) (xs := [sQ "r", sQ "g", sQ "b"]) K.q ho rfl hcd rfl rfl rfl rfl rfl (bnd3 fun _ _ _ => by kernel_rfl) rfl (by decide +kernel) (by decide +kernel) (by decide +kernel) (by decide +kernel) rfl fun L X => ?_⟩
  walk_at "asn"
  walk_at "asn"
  walk_at "asn"
  walk_at "asn"
  walk_at "asn"
  walk_at "if"
  · intro h1
    walk_at "ret"
    simp only [hlsF, h1]; rfl
  intro h1
  obtain ⟨S, hS⟩ : ∃ S, S = if leF (Float64.div (Float64.add (mxF r g b) (mnF r g b)) 4611686018427387904) 4602678819172646912 then Float64.div (Float64.sub (mxF r g b) (mnF r g b)) (Float64.add (mxF r g b) (mnF r g b)) else Float64.div (Float64.sub (mxF r g b) (mnF r g b)) (Float64.sub (Float64.sub 4611686018427387904 (mxF r g b)) (mnF r g b)) := ⟨_, rfl⟩
  have fin : hlsF r g b = (hueF r g b (mxF r g b) (Float64.sub (mxF r g b) (mnF r g b)), Float64.div (Float64.add (mxF r g b) (mnF r g b)) 4611686018427387904, S) := by
    simp only [hlsF, h1, hS]; rfl
  apply ex_cons
  · apply ex_if (Ψ := FS C _ [sQ "r", sQ "g", sQ "b", sQ "maxc", sQ "minc", sQ "rangec", sQ "sumc", sQ "l", sQ "s", sQ "rc", sQ "gc", sQ "bc", sQ "h"] _ _ X [some (is (.flt r)), some (is (.flt g)), some (is (.flt b)), some (is (.flt (mxF r g b))), some (is (.flt (mnF r g b))), some (is (.flt (Float64.sub (mxF r g b) (mnF r g b)))), some (is (.flt (Float64.add (mxF r g b) (mnF r g b)))), some (is (.flt (Float64.div (Float64.add (mxF r g b) (mnF r g b)) 4611686018427387904))), some (is (.flt S)), none, none, none, none] [] _)
    · walk_at "ev"
    · intro h0
      rw [hS, if_pos h0]
      walk_at "asn"
      exact ex_nil
    · intro h0
      rw [hS, if_neg (fun e => by rw [h0] at e; cases e)]
      walk_at "asn"
      exact ex_nil
  rw [fin]
  walk_at "asn"
  walk_at "asn"
  walk_at "asn"
  walk_at "if"
  · intro h2
    walk_at "asn"
    walk_at "asn"
    walk_at "ret"
    simp only [hueF, h2]; rfl
  intro h2
  walk_at "if"
  · intro h3
    walk_at "asn"
    walk_at "asn"
    walk_at "ret"
    simp only [hueF, h2, h3]; rfl
  · intro h3
    walk_at "asn"
    walk_at "asn"
    walk_at "ret"
    simp only [hueF, h2, h3]; rfl
end
section
variable {C : Cx}
noncomputable def vshF (h s v : UInt64) : UInt64 × UInt64 × UInt64 :=
  if eqF s 0 then (v, v, v) else
    let h6 := Float64.mul h 4618441417868443648
    let i := PySem.Flt.toInt Float64.truncOf h6
    let f := Float64.sub h6 (Float64.ofInt i)
    let p := Float64.mul v (Float64.sub 4607182418800017408 s)
    let q := Float64.mul v (Float64.sub 4607182418800017408 (Float64.mul s f))
    let t := Float64.mul v (Float64.sub 4607182418800017408 (Float64.mul s (Float64.sub 4607182418800017408 f)))
    if i.fmod 6 == 0 then (v, t, p) else if i.fmod 6 == 1 then (q, v, p) else if i.fmod 6 == 2 then (p, v, t) else if i.fmod 6 == 3 then (p, q, v) else if i.fmod 6 == 4 then (t, p, v) else (v, p, q)
theorem d_vsh (K : ColK C) (h s v : UInt64) (z1 : Float64.isFinite (Float64.mul h 4618441417868443648) = true) (z2 : (PySem.Flt.toInt Float64.truncOf (Float64.mul h 4618441417868443648)).natAbs < 2 ^ 1023) :
    DefC C 2 (sQ "hsv_to_rgb") [is (.flt h), is (.flt s), is (.flt v)] (is (t3 (vshF h s v))) := by
  obtain ⟨f, q, doc, pm, cd, hg, ho, hcd⟩ := K.vsh
  have g1 := K.int
  refine ⟨f, hg, ⟨_, _, ho, rfl⟩, fn_def (n := 0) (sc := scOf (stAt pw 18)) (ρ := [some (is (.flt h)), some (is (.flt s)), some (is (.flt v)), none, none, none, none, none]) (nm := [sQ "h", sQ "s", sQ "v", sQ "i", sQ "f", sQ "p", sQ "q", sQ "t"]) (xs := [sQ "h", sQ "s", sQ "v"]) K.q ho rfl hcd rfl rfl rfl rfl rfl (bnd3 fun _ _ _ => by kernel_rfl) rfl (by decide +kernel) (by decide +kernel) (by decide +kernel) (by decide +kernel) rfl fun L X => ?_⟩
  walk_at "if"
  · intro h1
    walk_at "ret"
    simp only [vshF, h1]; rfl
  intro h1
  walk_at "asn"
  walk_at "asn"
  walk_at "asn"
  walk_at "asn"
  walk_at "asn"
  walk_at "asn"
  walk_at "if"
  · intro k0
    walk_at "ret"
    simp only [vshF, h1, k0]; rfl
  intro k0
  walk_at "if"
  · intro k1
    walk_at "ret"
    simp only [vshF, h1, k0, k1]; rfl
  intro k1
  walk_at "if"
  · intro k2
    walk_at "ret"
    simp only [vshF, h1, k0, k1, k2]; rfl
  intro k2
  walk_at "if"
  · intro k3
    walk_at "ret"
    simp only [vshF, h1, k0, k1, k2, k3]; rfl
  intro k3
  walk_at "if"
  · intro k4
    walk_at "ret"
    simp only [vshF, h1, k0, k1, k2, k3, k4]; rfl
  intro k4
  walk_at "if"
  · intro k5
    walk_at "ret"
    simp only [vshF, h1, k0, k1, k2, k3, k4, k5]; rfl
  intro k5
  exfalso
  simp only [beq_eq_false_iff_ne, ne_eq] at k0 k1 k2 k3 k4 k5
  have b1 := Int.fmod_nonneg_of_pos (PySem.Flt.toInt Float64.truncOf (Float64.mul h 4618441417868443648)) (b := 6) (by decide)
  have b2 := Int.fmod_lt_of_pos (PySem.Flt.toInt Float64.truncOf (Float64.mul h 4618441417868443648)) (b := 6) (by decide)
  lia
theorem d_grey (K : ColK C) (x : Int) : DefC C 2 (sQ "rgb_to_hsv") [is (.int x), is (.int x), is (.int x)] (is (.tup [.flt 0, .flt 0, .int x])) := by
  obtain ⟨f, q, doc, pm, cd, hg, ho, hcd⟩ := K.hsv
  have g1 := K.max
  have g2 := K.min
  have e1 : mxI x x x = x := by simp [mxI]
  have e2 : mnI x x x = x := by simp [mnI]
  refine ⟨f, hg, ⟨_, _, ho, rfl⟩, fn_def (n := 0) (sc := scOf (stAt pw 17)) (ρ := [some (is (.int x)), some (is (.int x)), some (is (.int x)), none, none, none, none]) (nm := [sQ "r", sQ "g", sQ "b", sQ "maxc", sQ "minc", sQ "rangec", sQ "v"]) (xs := [sQ "r", sQ "g", sQ "b"]) K.q ho rfl hcd rfl rfl rfl rfl rfl (bnd3 fun _ _ _ => by kernel_rfl) rfl (by decide +kernel) (by decide +kernel) (by decide +kernel) (by decide +kernel) rfl fun L X => ?_⟩
  walk_at "asn"
  walk_at "asn"
  walk_at "asn"
  walk_at "asn"
  walk_at "if"
  · intro h1
    walk_at "ret"
    rw [e1]
  · intro h1
    rw [e1, e2] at h1; simp at h1
end
section
variable {C : Cx}
theorem d_hsv1 (K : ColK C) : DefC C 2 (sQ "rgb_to_hsv") [is (.int 1), is (.int 1), is (.int 0)] (is (.tup [.flt 4595172819793696085, .flt 4607182418800017408, .int 1])) := by
  obtain ⟨f, q, doc, pm, cd, hg, ho, hcd⟩ := K.hsv
  have g1 := K.max
  have g2 := K.min
  refine ⟨f, hg, ⟨_, _, ho, rfl⟩, fn_def (n := 0) (sc := scOf (stAt pw 17)) (ρ := [some (is (.int 1)), some (is (.int 1)), some (is (.int 0)), none, none, none, none, none, none, none, none, none]) (nm := [sQ "r", sQ "g", sQ "b", sQ "maxc", sQ "minc", sQ "rangec", sQ "v", sQ "s", sQ "rc", sQ "gc", sQ "bc", sQ "h"]) (xs := [sQ "r", sQ "g", sQ "b"]) K.q ho rfl hcd rfl rfl rfl rfl rfl (bnd3 fun _ _ _ => by kernel_rfl) rfl (by decide +kernel) (by decide +kernel) (by decide +kernel) (by decide +kernel) rfl fun L X => ?_⟩
  walk_at "asn"
  walk_at "asn"
  walk_at "asn"
  walk_at "asn"
  walk_at "if"
  · intro h1
    exact absurd h1 (by decide +kernel)
  intro h1
  walk_at "asn"
  walk_at "asn"
  walk_at "asn"
  walk_at "asn"
  walk_at "if"
  · intro h2
    walk_at "asn"
    walk_at "asn"
    walk_at "ret"
    congr 1
    congr 1
    · congr 1; decide +kernel
    · congr 1; congr 1; decide +kernel
  intro h2
  exact absurd h2 (by decide +kernel)
theorem d_hls1 (K : ColK C) : DefC C 2 (sQ "rgb_to_hls") [is (.int 1), is (.int 1), is (.int 0)] (is (.tup [.flt 4595172819793696085, .flt 4602678819172646912, .flt 4607182418800017408])) := by
  obtain ⟨f, q, doc, pm, cd, hg, ho, hcd⟩ := K.hls
  have g1 := K.max
  have g2 := K.min
  refine ⟨f, hg, ⟨_, _, ho, rfl⟩, fn_def (n := 0) (sc := scOf (stAt pw 14)) (ρ := [some (is (.int 1)), some (is (.int 1)), some (is (.int 0)), none, none, none, none, none, none, none, none, none, none]) (nm := [sQ "r", sQ "g", sQ "b", sQ "maxc", sQ "minc", sQ "rangec", sQ "sumc", sQ "l", sQ "s", sQ "rc", sQ "gc", sQ "bc", sQ "h"]) (xs := [sQ "r", sQ "g", sQ "b"]) K.q ho rfl hcd rfl rfl rfl rfl rfl (bnd3 fun _ _ _ => by kernel_rfl) rfl (by decide +kernel) (by decide +kernel) (by decide +kernel) (by decide +kernel) rfl fun L X => ?_⟩
  walk_at "asn"
  walk_at "asn"
  walk_at "asn"
  walk_at "asn"
  walk_at "asn"
  walk_at "if"
  · intro h1
    exact absurd h1 (by decide +kernel)
  intro h1
  walk_at "if"
  · intro h0
    walk_at "asn"
    walk_at "asn"
    walk_at "asn"
    walk_at "asn"
    walk_at "if"
    · intro h2
      walk_at "asn"
      walk_at "asn"
      walk_at "ret"
      congr 1
      congr 1
      · congr 1; decide +kernel
      · congr 1
        · congr 1; decide +kernel
        · congr 1; congr 1; decide +kernel
    intro h2
    exact absurd h2 (by decide +kernel)
  · intro h0
    exact absurd h0 (by decide +kernel)
end
structure LawK (C : Cx) : Prop extends ColK C where
  nt : GlobD C (sQ "NT_OFFSET") (.int 256)
  em : GlobD C (sQ "ENDMARKER") (.int 0)
  range : BltZ C (sQ "range") (.type "range")
  zip : BltZ C (sQ "zip") (.type "zip")
  round : BltZ C (sQ "round") (.builtin "round")
  term : DefAt C pw 71 (sQ "ISTERMINAL")
  nonterm : DefAt C pw 72 (sQ "ISNONTERMINAL")
  eof : DefAt C pw 73 (sQ "ISEOF")
  row : DefAt C pw 81 (sQ "_law_row")
  run : DefAt C pw 82 (sQ "_law_run")
  turned : DefAt C pw 83 (sQ "_law_turned")
  worth : DefAt C pw 84 (sQ "_law_worth")
  over : DefAt C pw 85 (sQ "_law_over")
section
variable {C : Cx}
theorem d_term (K : LawK C) (x : Int) : DefC C 2 (sQ "ISTERMINAL") [is (.int x)] (is (.bool (decide (x < 256)))) := by
  obtain ⟨f, q, doc, pm, cd, hg, ho, hcd⟩ := K.term
  have g1 := K.nt
  refine ⟨f, hg, ⟨_, _, ho, rfl⟩, fn_def (n := 0) (sc := scOf (stAt pw 71)) (ρ := [some (is (.int x))]) (nm := [sQ "x"]) (xs := [sQ "x"]) K.q ho rfl hcd rfl rfl rfl rfl rfl (bnd1 fun _ => by kernel_rfl) rfl (by decide +kernel) (by decide +kernel) (by decide +kernel) (by decide +kernel) rfl fun L X => ?_⟩
  walk_at "ret"
  rfl
theorem d_nonterm (K : LawK C) (x : Int) : DefC C 2 (sQ "ISNONTERMINAL") [is (.int x)] (is (.bool (decide (256 ≤ x)))) := by
  obtain ⟨f, q, doc, pm, cd, hg, ho, hcd⟩ := K.nonterm
  have g1 := K.nt
  refine ⟨f, hg, ⟨_, _, ho, rfl⟩, fn_def (n := 0) (sc := scOf (stAt pw 72)) (ρ := [some (is (.int x))]) (nm := [sQ "x"]) (xs := [sQ "x"]) K.q ho rfl hcd rfl rfl rfl rfl rfl (bnd1 fun _ => by kernel_rfl) rfl (by decide +kernel) (by decide +kernel) (by decide +kernel) (by decide +kernel) rfl fun L X => ?_⟩
  walk_at "ret"
  rfl
theorem d_eof (K : LawK C) (x : Int) : DefC C 2 (sQ "ISEOF") [is (.int x)] (is (.bool (x == 0))) := by
  obtain ⟨f, q, doc, pm, cd, hg, ho, hcd⟩ := K.eof
  have g1 := K.em
  refine ⟨f, hg, ⟨_, _, ho, rfl⟩, fn_def (n := 0) (sc := scOf (stAt pw 73)) (ρ := [some (is (.int x))]) (nm := [sQ "x"]) (xs := [sQ "x"]) K.q ho rfl hcd rfl rfl rfl rfl rfl (bnd1 fun _ => by kernel_rfl) rfl (by decide +kernel) (by decide +kernel) (by decide +kernel) (by decide +kernel) rfl fun L X => ?_⟩
  walk_at "ret"
  rfl
noncomputable def wStep (w : (Int × Int × Int) × Int) (k : Int) : (Int × Int × Int) × Int :=
  let ((a, b, c), g) := w
  (if k == 0 then (-g * a, -g * b, -g * c) else if k == 1 then (g * (c + 2 * b), g * (a + 2 * c), g * (b + 2 * a)) else if k == 2 then (g * (2 * c + b), g * (2 * a + c), g * (2 * b + a)) else (2 * a, 2 * b, 2 * c),
   g * (if k == 0 then 2 else if k == 1 then 3 else if k == 2 then 3 else 2))
noncomputable abbrev l3 (w : Int × Int × Int) : PV := .list [.int w.1, .int w.2.1, .int w.2.2]
noncomputable def worthF (ks : List Int) : Int × Int × Int := (ks.foldl wStep ((1, 0, 0), 1)).1
theorem d_worth (K : LawK C) (ks : List Int) (hk : ∀ k ∈ ks, k = 0 ∨ k = 1 ∨ k = 2 ∨ k = 3) (hl : ks.length ≤ 3) : DefC C 2 (sQ "_law_worth") [is (.list (ks.map .int))] (is (l3 (worthF ks))) := by
  obtain ⟨f, q, doc, pm, cd, hg, ho, hcd⟩ := K.worth
  have g1 := K.range
  have g2 := K.zip
  let st : Nat → (Int × Int × Int) × Int := fun i => (ks.take i).foldl wStep ((1, 0, 0), 1)
  have hst : ∀ i k, ks[i]? = some k → st (i + 1) = wStep (st i) k := fun i k e => by
    show (ks.take (i + 1)).foldl wStep ((1, 0, 0), 1) = _
    rw [List.take_add_one, e, List.foldl_append]; rfl
  have hw : ∀ i, 0 < (st i).2 ∧ (st i).2 ≤ 3 ^ i := by
    intro i
    induction i with
    | zero => exact ⟨show (0 : Int) < 1 by decide, show (1 : Int) ≤ 1 by decide⟩
    | succ i ih =>
      obtain ⟨h1, h2⟩ := ih
      have h3 : (3 : Int) ^ (i + 1) = 3 ^ i * 3 := Int.pow_succ ..
      cases hki : ks[i]? with
      | none =>
        have e : st (i + 1) = st i := by
          show (ks.take (i + 1)).foldl wStep ((1, 0, 0), 1) = (ks.take i).foldl wStep ((1, 0, 0), 1)
          rw [List.take_add_one, hki]; simp
        rw [e, h3]; exact ⟨h1, by lia⟩
      | some k =>
        rw [hst i k hki, h3]
        have hkk := hk k (List.mem_of_getElem? hki)
        rcases hkk with rfl | rfl | rfl | rfl
        · show 0 < (st i).2 * 2 ∧ (st i).2 * 2 ≤ _
          lia
        · show 0 < (st i).2 * 3 ∧ (st i).2 * 3 ≤ _
          lia
        · show 0 < (st i).2 * 3 ∧ (st i).2 * 3 ≤ _
          lia
        · show 0 < (st i).2 * 2 ∧ (st i).2 * 2 ≤ _
          lia
  refine ⟨f, hg, ⟨_, _, ho, rfl⟩, fn_def (n := 0) (sc := scOf (stAt pw 84)) (ρ := [some (is (.list (ks.map .int))), none, none, none, none, none]) (nm := [sQ "kinds", sQ "worth", sQ "weight", sQ "kind", sQ "one", sQ "two"]) (xs := [sQ "kinds"]) K.q ho rfl hcd rfl rfl rfl rfl rfl (bnd1 fun _ => by kernel_rfl) rfl (by decide +kernel) (by decide +kernel) (by decide +kernel) (by decide +kernel) rfl fun L X => ?_⟩
  apply ex_tup
  · exact rfl
  · exact rfl
  · exact Nat.le_of_ble_eq_true rfl
  · apply TupK.val
    · walk_at "ev"
    · apply TupK.val
      · walk_at "ev"
      · apply tk_nil rfl
        · show Bds _ _ _ _ [_, _] _ _
          walk_at "at"
        · apply exs_for (ρs := fun i => [some (is (.list (ks.map .int))), some (is (l3 (st i).1)), some (is (.int (st i).2)), none, none, none]) (ωs := fun _ => []) rfl rfl
          · apply it_list
            walk_at "ev"
          · intro i; rfl
          · intro κ' i d hd
            rw [List.getElem?_map] at hd
            cases hki : ks[i]? with
            | none => rw [hki] at hd; cases hd
            | some k =>
              rw [hki] at hd; cases hd
              have hlt := (List.getElem?_eq_some_iff.mp hki).1
              have hkk := hk k (List.mem_of_getElem? hki)
              have b := hw i
              have b3 : (3 : Int) ^ i ≤ 9 := by
                have h3 : i = 0 ∨ i = 1 ∨ i = 2 := by lia
                rcases h3 with rfl | rfl | rfl <;> decide
              have e := hst i k hki
              generalize st i = w at b e ⊢
              obtain ⟨⟨x, y, z⟩, g⟩ := w
              have hgs : g.natAbs < 18446744073709551616 := by
                have b1 : 0 < g := b.1
                have b2 : g ≤ 3 ^ i := b.2
                lia
              rw [e]
              show ∃ ρ', Tgt _ _ _ _ _ [_, some (is (.list [.int x, .int y, .int z])), some (is (.int g)), none, none, none] ρ' ∧ _
              apply ex_mk
              · apply Tgt.name
                · walk_at "at"
                · decide +kernel
                · decide +kernel
              apply ex_tup_sw
              · exact rfl
              · exact rfl
              · exact Nat.le_of_ble_eq_true rfl
              · exact rfl
              · apply TupK.val
                · apply ev_comp1
                  apply comp1_ok (xs := List.range 3) (f := fun i => .int (0 + (i : Int))) (h := fun i => .int (if i = 0 then z else if i = 1 then x else y))
                  · apply it_eq
                    · apply it_callTt
                      · assumption
                      · walk_at "ev"
                      · apply fi_range1
                        exact rfl
                      · exact rfl
                      · exact rfl
                      · exact rfl
                      · exact rfl
                    · exact rfl
                  · walk_at "at"
                  · exact rfl
                  · decide +kernel
                  · exact rfl
                  · exact Nat.le_of_ble_eq_true rfl
                  · intro cenv X' j hx
                    apply ex_mk3
                    · walk_at "at"
                    · walk_at "at"
                    · intro ω κ
                      have hx := List.mem_range.mp hx
                      match j, hx with
                      | 0, _ => walk_at "ev"
                      | 1, _ => walk_at "ev"
                      | 2, _ => walk_at "ev"
                · apply TupK.val
                  · apply ev_comp1
                    apply comp1_ok (xs := List.range 3) (f := fun i => .int (0 + (i : Int))) (h := fun i => .int (if i = 0 then y else if i = 1 then z else x))
                    · apply it_eq
                      · apply it_callTt
                        · assumption
                        · walk_at "ev"
                        · apply fi_range1
                          exact rfl
                        · exact rfl
                        · exact rfl
                        · exact rfl
                        · exact rfl
                      · exact rfl
                    · walk_at "at"
                    · exact rfl
                    · decide +kernel
                    · exact rfl
                    · exact Nat.le_of_ble_eq_true rfl
                    · intro cenv X' j hx
                      apply ex_mk3
                      · walk_at "at"
                      · walk_at "at"
                      · intro ω κ
                        have hx := List.mem_range.mp hx
                        match j, hx with
                        | 0, _ => walk_at "ev"
                        | 1, _ => walk_at "ev"
                        | 2, _ => walk_at "ev"
                  · apply tk_nil_sw rfl rfl
                    · show Bdn _ _ _ [_, _] [is (.list [.int y, .int z, .int x]), is (.list [.int z, .int x, .int y])] _ _
                      walk_at "at"
                    · rcases hkk with rfl | rfl | rfl | rfl
                      · walk_at "if"
                        · intro _
                          apply ex_cons
                          · apply ex_assign
                            · apply ev_comp1
                              apply comp1_ok (xs := [x, y, z]) (f := fun (p : Int) => .int p) (h := fun p => .int (-g * p))
                              · apply it_eq
                                · apply it_list
                                  walk_at "ev"
                                · exact rfl
                              · walk_at "at"
                              · exact rfl
                              · decide +kernel
                              · exact rfl
                              · exact Nat.le_of_ble_eq_true rfl
                              · intro cenv X' j hx
                                apply ex_mk3
                                · walk_at "at"
                                · walk_at "at"
                                · intro ω κ
                                  walk_at "ev"
                            · walk_at "at"
                            · decide +kernel
                            · decide +kernel
                            · exact rfl
                          walk_at "asn"
                          apply ex_fgt
                          walk_at "fgtd"
                        · intro h; exact absurd h (by decide)
                      · walk_at "if"
                        · intro h; exact absurd h (by decide)
                        intro _
                        walk_at "if"
                        · intro _
                          apply ex_cons
                          · apply ex_assign
                            · apply ev_comp1
                              apply comp1_ok (xs := [(z, y), (x, z), (y, x)]) (f := fun (p : Int × Int) => .tup [.int p.1, .int p.2]) (h := fun p => .int (g * (p.1 + 2 * p.2)))
                              · apply it_eq
                                · apply it_callTt
                                  · assumption
                                  · walk_at "ev"
                                  · exact fi_zip
                                  · exact rfl
                                  · exact rfl
                                  · exact rfl
                                  · exact rfl
                                · exact rfl
                              · walk_at "at"
                              · exact rfl
                              · decide +kernel
                              · exact rfl
                              · exact Nat.le_of_ble_eq_true rfl
                              · intro cenv X' j hx
                                apply ex_mk3
                                · walk_at "at"
                                · walk_at "at"
                                · intro ω κ
                                  walk_at "ev"
                            · walk_at "at"
                            · decide +kernel
                            · decide +kernel
                            · exact rfl
                          walk_at "asn"
                          apply ex_fgt
                          walk_at "fgtd"
                        · intro h; exact absurd h (by decide)
                      · walk_at "if"
                        · intro h; exact absurd h (by decide)
                        intro _
                        walk_at "if"
                        · intro h; exact absurd h (by decide)
                        intro _
                        walk_at "if"
                        · intro _
                          apply ex_cons
                          · apply ex_assign
                            · apply ev_comp1
                              apply comp1_ok (xs := [(z, y), (x, z), (y, x)]) (f := fun (p : Int × Int) => .tup [.int p.1, .int p.2]) (h := fun p => .int (g * (2 * p.1 + p.2)))
                              · apply it_eq
                                · apply it_callTt
                                  · assumption
                                  · walk_at "ev"
                                  · exact fi_zip
                                  · exact rfl
                                  · exact rfl
                                  · exact rfl
                                  · exact rfl
                                · exact rfl
                              · walk_at "at"
                              · exact rfl
                              · decide +kernel
                              · exact rfl
                              · exact Nat.le_of_ble_eq_true rfl
                              · intro cenv X' j hx
                                apply ex_mk3
                                · walk_at "at"
                                · walk_at "at"
                                · intro ω κ
                                  walk_at "ev"
                            · walk_at "at"
                            · decide +kernel
                            · decide +kernel
                            · exact rfl
                          walk_at "asn"
                          apply ex_fgt
                          walk_at "fgtd"
                        · intro h; exact absurd h (by decide)
                      · walk_at "if"
                        · intro h; exact absurd h (by decide)
                        intro _
                        walk_at "if"
                        · intro h; exact absurd h (by decide)
                        intro _
                        walk_at "if"
                        · intro h; exact absurd h (by decide)
                        intro _
                        apply ex_cons
                        · apply ex_assign
                          · apply ev_comp1
                            apply comp1_ok (xs := [x, y, z]) (f := fun (p : Int) => .int p) (h := fun p => .int (2 * p))
                            · apply it_eq
                              · apply it_list
                                walk_at "ev"
                              · exact rfl
                            · walk_at "at"
                            · exact rfl
                            · decide +kernel
                            · exact rfl
                            · exact Nat.le_of_ble_eq_true rfl
                            · intro cenv X' j hx
                              apply ex_mk3
                              · walk_at "at"
                              · walk_at "at"
                              · intro ω κ
                                walk_at "ev"
                          · walk_at "at"
                          · decide +kernel
                          · decide +kernel
                          · exact rfl
                        walk_at "asn"
                        apply ex_fgt
                        walk_at "fgtd"
                  · exact rfl
                · exact rfl
          · walk_at "ret"
            rw [List.length_map]
            show l3 (st ks.length).1 = l3 (worthF ks)
            simp only [st, List.take_length]; rfl
      · exact rfl
    · exact rfl
end
section
noncomputable def d16 (c : Int) : UInt64 := Float64.ofFrac (decide (c < 0) != decide ((16 : Int) < 0)) c.natAbs (16 : Int).natAbs
noncomputable def b30 (x : UInt64) : UInt64 := Float64.mul x (Float64.ofInt ((2 : Int) ^ (30 : Int).toNat))
noncomputable def wholeF (x : UInt64) : Int := PySem.Flt.toInt Float64.nearestOf (b30 x)
noncomputable def hueB (c1 c2 c3 sx : Int) : UInt64 := Float64.add (hsvF (d16 c1) (d16 c2) (d16 c3)).1 (Float64.mul (Float64.ofInt sx) 4595172819793696085)
noncomputable def partB (c1 c2 c3 sx : Int) : UInt64 × UInt64 × UInt64 := vshF (hueB c1 c2 c3 sx) (hsvF (d16 c1) (d16 c2) (d16 c3)).2.1 (hsvF (d16 c1) (d16 c2) (d16 c3)).2.2
noncomputable def hueA (c1 c2 c3 : Int) : UInt64 := Float64.add (hlsF (d16 c1) (d16 c2) (d16 c3)).1 (Float64.mul (Float64.ofInt 4) 4595172819793696085)
noncomputable def partA (c1 c2 c3 : Int) : UInt64 × UInt64 × UInt64 := slhF (hueA c1 c2 c3) (hlsF (d16 c1) (d16 c2) (d16 c3)).2.1 (hlsF (d16 c1) (d16 c2) (d16 c3)).2.2
noncomputable def okB (c1 c2 c3 sx : Int) : Bool :=
  !Float64.isZero (mxF (d16 c1) (d16 c2) (d16 c3)) && !Float64.isZero (Float64.sub (mxF (d16 c1) (d16 c2) (d16 c3)) (mnF (d16 c1) (d16 c2) (d16 c3))) &&
  Float64.isFinite (Float64.mul (hueB c1 c2 c3 sx) 4618441417868443648) && decide ((PySem.Flt.toInt Float64.truncOf (Float64.mul (hueB c1 c2 c3 sx) 4618441417868443648)).natAbs < 1000)
noncomputable def okA (c1 c2 c3 : Int) : Bool :=
  !Float64.isZero (Float64.add (mxF (d16 c1) (d16 c2) (d16 c3)) (mnF (d16 c1) (d16 c2) (d16 c3))) && !Float64.isZero (Float64.sub (mxF (d16 c1) (d16 c2) (d16 c3)) (mnF (d16 c1) (d16 c2) (d16 c3))) &&
  !Float64.isZero (Float64.sub (Float64.sub 4611686018427387904 (mxF (d16 c1) (d16 c2) (d16 c3))) (mnF (d16 c1) (d16 c2) (d16 c3)))
noncomputable def okW (p : UInt64 × UInt64 × UInt64) (d1 d2 d3 : Int) : Bool :=
  Float64.isFinite (b30 p.1) && Float64.isFinite (b30 p.2.1) && Float64.isFinite (b30 p.2.2) && wholeF p.1 == d1 * 2 ^ 26 && wholeF p.2.1 == d2 * 2 ^ 26 && wholeF p.2.2 == d3 * 2 ^ 26
local macro_rules | `(tactic| walk_at "def") => `(tactic| first | with_reducible exact d_hsv1 (by assumption) | with_reducible exact d_hls1 (by assumption) | ((with_reducible apply d_hsv) <;> assumption) | ((with_reducible apply d_hls) <;> assumption) | ((with_reducible apply d_slh); assumption) | ((with_reducible apply d_vsh) <;> assumption))
section
variable {C : Cx}
noncomputable abbrev li3 (a b c : Int) : PV := .list [.int a, .int b, .int c]
theorem d_turnedB (K : LawK C) (c1 c2 c3 sx d1 d2 d3 : Int) (h4 : (sx == 4) = false) (hs : sx.natAbs < 2 ^ 1023) (b1 : c1.natAbs < 2 ^ 1023) (b2 : c2.natAbs < 2 ^ 1023) (b3 : c3.natAbs < 2 ^ 1023) (ok : okB c1 c2 c3 sx = true) (okw : okW (partB c1 c2 c3 sx) d1 d2 d3 = true) :
    DefC C 4 (sQ "_law_turned") [is (li3 c1 c2 c3), is (.int sx)] (is (li3 d1 d2 d3)) := by
  have K' := K.toColK
  obtain ⟨f, q, doc, pm, cd, hg, ho, hcd⟩ := K.turned
  have g1 := K.round
  simp only [okB, Bool.and_eq_true, Bool.not_eq_true', decide_eq_true_eq] at ok
  obtain ⟨⟨⟨o1, o2⟩, o3⟩, o4⟩ := ok
  have o4 : (PySem.Flt.toInt Float64.truncOf (Float64.mul (hueB c1 c2 c3 sx) 4618441417868443648)).natAbs < 2 ^ 1023 := Nat.lt_trans o4 (by decide +kernel)
  simp only [okW, Bool.and_eq_true, beq_iff_eq] at okw
  obtain ⟨⟨⟨⟨⟨p1, p2⟩, p3⟩, q1⟩, q2⟩, q3⟩ := okw
  refine ⟨f, hg, ⟨_, _, ho, rfl⟩, fn_def (n := 2) (sc := scOf (stAt pw 83)) (ρ := [some (is (li3 c1 c2 c3)), some (is (.int sx)), none, none, none, none, none, none, none, none, none]) (nm := [sQ "colour", sQ "sixths", sQ "red", sQ "green", sQ "blue", sQ "hue", sQ "light", sQ "share", sQ "value", sQ "parts", sQ "whole"]) (xs := [sQ "colour", sQ "sixths"]) K.q ho rfl hcd rfl rfl rfl rfl rfl (bnd2 fun _ _ => by kernel_rfl) rfl (by decide +kernel) (by decide +kernel) (by decide +kernel) (by decide +kernel) rfl fun L X => ?_⟩
  apply ex_cons
  · apply ex_asgU
    · apply ev_comp1
      apply comp1_ok (xs := [c1, c2, c3]) (f := fun (c : Int) => .int c) (h := fun c => .flt (d16 c))
      · apply it_eq
        · apply it_list
          walk_at "ev"
        · exact rfl
      · walk_at "at"
      · exact rfl
      · decide +kernel
      · exact rfl
      · exact Nat.le_of_ble_eq_true rfl
      · intro cenv X' j hx
        apply ex_mk3
        · walk_at "at"
        · walk_at "at"
        · intro ω κ
          have hj : j.natAbs < 2 ^ 1023 := by
            simp only [List.mem_cons, List.not_mem_nil, or_false] at hx
            rcases hx with rfl | rfl | rfl <;> assumption
          apply ev_d
          · walk_at "ev"
          · rfl
    · show Tgt _ _ _ _ (.list [.flt (d16 c1), .flt (d16 c2), .flt (d16 c3)]) _ _
      walk_at "at"
    · exact rfl
    · exact rfl
  walk_at "if"
  · intro h; rw [h4] at h; cases h
  intro _
  apply ex_cons
  · apply ex_asgU
    · apply ev_callD
      · walk_at "ev"
      · walk_at "def"
      · decide
      · exact rfl
      · exact rfl
      · exact rfl
    · show Tgt _ _ _ _ (.tup [.flt (hsvF (d16 c1) (d16 c2) (d16 c3)).1, .flt (hsvF (d16 c1) (d16 c2) (d16 c3)).2.1, .flt (hsvF (d16 c1) (d16 c2) (d16 c3)).2.2]) _ _
      walk_at "at"
    · exact rfl
    · exact rfl
  unfold hueB at o3 o4
  apply ex_cons
  · apply ex_assign
    · apply ev_d
      · apply ev_callD
        · walk_at "ev"
        · apply d_vsh
          · exact K'
          · exact o3
          · exact o4
        · decide
        · exact rfl
        · exact rfl
        · exact rfl
      · show _ = PV.tup [.flt (partB c1 c2 c3 sx).1, .flt (partB c1 c2 c3 sx).2.1, .flt (partB c1 c2 c3 sx).2.2]
        rfl
    · walk_at "at"
    · decide +kernel
    · decide +kernel
    · exact rfl
  generalize (partB c1 c2 c3 sx).1 = x1 at p1 q1 ⊢
  generalize (partB c1 c2 c3 sx).2.1 = x2 at p2 q2 ⊢
  generalize (partB c1 c2 c3 sx).2.2 = x3 at p3 q3 ⊢
  apply ex_cons
  · apply ex_assignC1 (ds := [.int (d1 * 2 ^ 26), .int (d2 * 2 ^ 26), .int (d3 * 2 ^ 26)])
    apply comp1_ok (xs := [x1, x2, x3]) (f := fun (c : UInt64) => .flt c) (h := fun c => .int (wholeF c))
    · apply it_eq
      · apply it_tup
        walk_at "ev"
      · exact rfl
    · walk_at "at"
    · exact rfl
    · decide +kernel
    · exact rfl
    · exact Nat.le_of_ble_eq_true rfl
    · intro cenv X' j hx
      apply ex_mk3
      · walk_at "at"
      · walk_at "at"
      · intro ω κ
        have hj : Float64.isFinite (Float64.mul j (Float64.ofInt ((2 : Int) ^ (30 : Int).toNat))) = true := by
          simp only [List.mem_cons, List.not_mem_nil, or_false] at hx
          rcases hx with rfl | rfl | rfl <;> assumption
        apply ev_d
        · walk_at "ev"
        · rfl
    · show [PV.int (wholeF x1), .int (wholeF x2), .int (wholeF x3)] = _
      rw [q1, q2, q3]
    · walk_at "at"
    · decide +kernel
    · decide +kernel
    · exact rfl
  apply ex_ret
  apply ev_ifexpT
  · apply tv_cmp
    · apply ev_comp1
      apply comp1_ok (xs := [d1, d2, d3]) (f := fun (c : Int) => .int (c * 2 ^ 26)) (h := fun c => .int 0)
      · apply it_eq
        · apply it_list
          walk_at "ev"
        · exact rfl
      · walk_at "at"
      · exact rfl
      · decide +kernel
      · exact rfl
      · exact Nat.le_of_ble_eq_true rfl
      · intro cenv X' j hx
        apply ex_mk3
        · walk_at "at"
        · walk_at "at"
        · intro ω κ
          apply ev_d
          · walk_at "ev"
          · congr 1
            exact Int.mul_fmod_left _ _
    · walk_at "ev"
    · exact op_eq_list 0 (by decide) (by rfl)
    · exact rfl
  · rfl
  · apply ev_d
    · apply ev_comp1
      apply comp1_ok (xs := [d1, d2, d3]) (f := fun (c : Int) => .int (c * 2 ^ 26)) (h := fun c => .int c)
      · apply it_eq
        · apply it_list
          walk_at "ev"
        · exact rfl
      · walk_at "at"
      · exact rfl
      · decide +kernel
      · exact rfl
      · exact Nat.le_of_ble_eq_true rfl
      · intro cenv X' j hx
        apply ex_mk3
        · walk_at "at"
        · walk_at "at"
        · intro ω κ
          apply ev_d
          · walk_at "ev"
          · congr 1
            exact Int.mul_fdiv_cancel _ (by decide)
    · rfl
theorem d_turnedA (K : LawK C) (c1 c2 c3 d1 d2 d3 : Int) (b1 : c1.natAbs < 2 ^ 1023) (b2 : c2.natAbs < 2 ^ 1023) (b3 : c3.natAbs < 2 ^ 1023) (ok : okA c1 c2 c3 = true) (okw : okW (partA c1 c2 c3) d1 d2 d3 = true) :
    DefC C 4 (sQ "_law_turned") [is (li3 c1 c2 c3), is (.int 4)] (is (li3 d1 d2 d3)) := by
  have K' := K.toColK
  obtain ⟨f, q, doc, pm, cd, hg, ho, hcd⟩ := K.turned
  have g1 := K.round
  simp only [okA, Bool.and_eq_true, Bool.not_eq_true', decide_eq_true_eq] at ok
  obtain ⟨⟨o1, o2⟩, o3⟩ := ok
  simp only [okW, Bool.and_eq_true, beq_iff_eq] at okw
  obtain ⟨⟨⟨⟨⟨p1, p2⟩, p3⟩, q1⟩, q2⟩, q3⟩ := okw
  refine ⟨f, hg, ⟨_, _, ho, rfl⟩, fn_def (n := 2) (sc := scOf (stAt pw 83)) (ρ := [some (is (li3 c1 c2 c3)), some (is (.int 4)), none, none, none, none, none, none, none, none, none]) (nm := [sQ "colour", sQ "sixths", sQ "red", sQ "green", sQ "blue", sQ "hue", sQ "light", sQ "share", sQ "value", sQ "parts", sQ "whole"]) (xs := [sQ "colour", sQ "sixths"]) K.q ho rfl hcd rfl rfl rfl rfl rfl (bnd2 fun _ _ => by kernel_rfl) rfl (by decide +kernel) (by decide +kernel) (by decide +kernel) (by decide +kernel) rfl fun L X => ?_⟩
  apply ex_cons
  · apply ex_asgU
    · apply ev_comp1
      apply comp1_ok (xs := [c1, c2, c3]) (f := fun (c : Int) => .int c) (h := fun c => .flt (d16 c))
      · apply it_eq
        · apply it_list
          walk_at "ev"
        · exact rfl
      · walk_at "at"
      · exact rfl
      · decide +kernel
      · exact rfl
      · exact Nat.le_of_ble_eq_true rfl
      · intro cenv X' j hx
        apply ex_mk3
        · walk_at "at"
        · walk_at "at"
        · intro ω κ
          have hj : j.natAbs < 2 ^ 1023 := by
            simp only [List.mem_cons, List.not_mem_nil, or_false] at hx
            rcases hx with rfl | rfl | rfl <;> assumption
          apply ev_d
          · walk_at "ev"
          · rfl
    · show Tgt _ _ _ _ (.list [.flt (d16 c1), .flt (d16 c2), .flt (d16 c3)]) _ _
      walk_at "at"
    · exact rfl
    · exact rfl
  walk_at "if"
  rotate_left
  · intro h; cases h
  intro _
  apply ex_cons
  · apply ex_asgU
    · apply ev_callD
      · walk_at "ev"
      · walk_at "def"
      · decide
      · exact rfl
      · exact rfl
      · exact rfl
    · show Tgt _ _ _ _ (.tup [.flt (hlsF (d16 c1) (d16 c2) (d16 c3)).1, .flt (hlsF (d16 c1) (d16 c2) (d16 c3)).2.1, .flt (hlsF (d16 c1) (d16 c2) (d16 c3)).2.2]) _ _
      walk_at "at"
    · exact rfl
    · exact rfl
  apply ex_cons
  · apply ex_assign
    · apply ev_d
      · apply ev_callD
        · walk_at "ev"
        · walk_at "def"
        · decide
        · exact rfl
        · exact rfl
        · exact rfl
      · show _ = PV.tup [.flt (partA c1 c2 c3).1, .flt (partA c1 c2 c3).2.1, .flt (partA c1 c2 c3).2.2]
        rfl
    · walk_at "at"
    · decide +kernel
    · decide +kernel
    · exact rfl
  generalize (partA c1 c2 c3).1 = x1 at p1 q1 ⊢
  generalize (partA c1 c2 c3).2.1 = x2 at p2 q2 ⊢
  generalize (partA c1 c2 c3).2.2 = x3 at p3 q3 ⊢
  apply ex_cons
  · apply ex_assignC1 (ds := [.int (d1 * 2 ^ 26), .int (d2 * 2 ^ 26), .int (d3 * 2 ^ 26)])
    apply comp1_ok (xs := [x1, x2, x3]) (f := fun (c : UInt64) => .flt c) (h := fun c => .int (wholeF c))
    · apply it_eq
      · apply it_tup
        walk_at "ev"
      · exact rfl
    · walk_at "at"
    · exact rfl
    · decide +kernel
    · exact rfl
    · exact Nat.le_of_ble_eq_true rfl
    · intro cenv X' j hx
      apply ex_mk3
      · walk_at "at"
      · walk_at "at"
      · intro ω κ
        have hj : Float64.isFinite (Float64.mul j (Float64.ofInt ((2 : Int) ^ (30 : Int).toNat))) = true := by
          simp only [List.mem_cons, List.not_mem_nil, or_false] at hx
          rcases hx with rfl | rfl | rfl <;> assumption
        apply ev_d
        · walk_at "ev"
        · rfl
    · show [PV.int (wholeF x1), .int (wholeF x2), .int (wholeF x3)] = _
      rw [q1, q2, q3]
    · walk_at "at"
    · decide +kernel
    · decide +kernel
    · exact rfl
  apply ex_ret
  apply ev_ifexpT
  · apply tv_cmp
    · apply ev_comp1
      apply comp1_ok (xs := [d1, d2, d3]) (f := fun (c : Int) => .int (c * 2 ^ 26)) (h := fun c => .int 0)
      · apply it_eq
        · apply it_list
          walk_at "ev"
        · exact rfl
      · walk_at "at"
      · exact rfl
      · decide +kernel
      · exact rfl
      · exact Nat.le_of_ble_eq_true rfl
      · intro cenv X' j hx
        apply ex_mk3
        · walk_at "at"
        · walk_at "at"
        · intro ω κ
          apply ev_d
          · walk_at "ev"
          · congr 1
            exact Int.mul_fmod_left _ _
    · walk_at "ev"
    · exact op_eq_list 0 (by decide) (by rfl)
    · exact rfl
  · rfl
  · apply ev_d
    · apply ev_comp1
      apply comp1_ok (xs := [d1, d2, d3]) (f := fun (c : Int) => .int (c * 2 ^ 26)) (h := fun c => .int c)
      · apply it_eq
        · apply it_list
          walk_at "ev"
        · exact rfl
      · walk_at "at"
      · exact rfl
      · decide +kernel
      · exact rfl
      · exact Nat.le_of_ble_eq_true rfl
      · intro cenv X' j hx
        apply ex_mk3
        · walk_at "at"
        · walk_at "at"
        · intro ω κ
          apply ev_d
          · walk_at "ev"
          · congr 1
            exact Int.mul_fdiv_cancel _ (by decide)
    · rfl
end
end
section
open PySem.SeqAt
section
variable {C : Cx} {n : Nat} {Φ : Asn C} {env : Env} {l m : List PV} {x y : Str}
theorem op_add_list (hsz : l.length + m.length ≤ sizeLine) : OP2 C n (binaryOp .Add) (is (.list l)) (is (.list m)) (is (.list (l ++ m))) := fun A s Z u v Q E hA I hu hv kk => by
  obtain ⟨a, n, vs, rfl, hz, r⟩ := rdi hu
  obtain ⟨a', n', vs', rfl, hz', r'⟩ := rdi hv
  refine P.add_list (I.heap _ _ hz) (I.heap _ _ hz') ?_ (by rw [List.size_toArray, List.size_toArray, r.length, r'.length]; exact hsz)
  rw [show vs.toArray ++ vs'.toArray = (vs ++ vs').toArray by simp]
  have st := StepX.alloc (X := No) I (o := { cls := .type "list", data := .seq (vs ++ vs').toArray }) (t := s.toks) rfl
  exact kk _ _ _ st (.list (n := 0) (put_self (Z := Z)) ((r.append r').le st.le))
theorem str_nil_app (h : (x.length == 0) = true) : x ++ y = y := by
  obtain ⟨c⟩ := x
  have h : c.size = 0 := by simpa [Str.length] using h
  have : c = #[] := Array.eq_empty_of_size_eq_zero h
  subst this
  show (⟨#[] ++ y.cps⟩ : Str) = y
  simp
theorem str_app_nil (h : (y.length == 0) = true) : x ++ y = x := by
  obtain ⟨c⟩ := y
  have h : c.size = 0 := by simpa [Str.length] using h
  have : c = #[] := Array.eq_empty_of_size_eq_zero h
  subst this
  show (⟨x.cps ++ #[]⟩ : Str) = x
  simp
theorem op_add_str (hsz : (x ++ y).length ≤ sizeLine) : OP2 C n (binaryOp .Add) (is (.str x)) (is (.str y)) (is (.str (x ++ y))) := fun A s Z u v Q E hA I hu hv kk => by
  obtain ⟨_, rfl⟩ := rdi hu; obtain ⟨_, rfl⟩ := rdi hv
  refine P.add_str ?_
  split
  · rename_i h
    exact kk _ Z _ (StepX.refl I) (by rw [str_nil_app h]; exact .str _ _)
  · split
    · rename_i h
      exact kk _ Z _ (StepX.refl I) (by rw [str_app_nil h]; exact .str _ _)
    · exact ⟨hsz, kk _ Z _ (Step.toks I _) (.str _ _)⟩
inductive KV {K : Type} (Z : Fz) : List (K × Value) → List (K × PV) → Prop where
  | nil : KV Z [] []
  | cons {k : K} {v : Value} {d : PV} {vs : List (K × Value)} {ds : List (K × PV)} (h : Rd Z v d) (r : KV Z vs ds) : KV Z ((k, v) :: vs) ((k, d) :: ds)
theorem KV.le {K : Type} {Z Z' : Fz} (k : Le Z Z') : ∀ {vs : List (K × Value)} {ds : List (K × PV)}, KV Z vs ds → KV Z' vs ds
  | _, _, .nil => .nil
  | _, _, .cons h r => .cons (h.le k) (r.le k)
noncomputable def look {K : Type} [DecidableEq K] (kds : List (K × PV)) (k : K) : Option PV := (kds.find? fun kv => kv.1 = k).map (·.2)
theorem KV.look {K : Type} [DecidableEq K] {Z : Fz} {k : K} : ∀ {vs : List (K × Value)} {ds : List (K × PV)}, KV Z vs ds → (valueAt vs k).isSome = (look ds k).isSome ∧ ∀ d, Mine.Internal.look ds k = some d → ∃ v, valueAt vs k = some v ∧ Rd Z v d
  | _, _, .nil => ⟨rfl, fun _ h => by cases h⟩
  | _, _, .cons (k := k') h r => by
    by_cases e : k' = k
    · simp only [valueAt, Mine.Internal.look, List.find?_cons, e, decide_true, Option.map_some]
      exact ⟨rfl, fun d hd => by cases hd; exact ⟨_, rfl, h⟩⟩
    · simp only [valueAt, Mine.Internal.look, List.find?_cons, e, decide_false]
      exact r.look
noncomputable def dictI (C : Cx) (kds : List (Int × PV)) : Vp := ⟨fun Z v => ∃ a o kvs, v = .ref a ∧ Z a = some o ∧ o.IsDictOf (PySem.intKind C.prog C.w) kvs ∧ KV Z kvs kds, fun k ⟨a, o, kvs, e, z, d, r⟩ => ⟨a, o, kvs, e, k _ _ z, d, r.le k⟩⟩
noncomputable def dictS (C : Cx) (kds : List (Str × PV)) : Vp := ⟨fun Z v => ∃ a o kvs, v = .ref a ∧ (a == sysModules) = false ∧ Z a = some o ∧ o.IsDictOf (PySem.strKind C.prog C.w) kvs ∧ KV Z kvs kds, fun k ⟨a, o, kvs, e, e', z, d, r⟩ => ⟨a, o, kvs, e, e', k _ _ z, d, r.le k⟩⟩
theorem op_item_dictI {v sl : Expr} {kds : List (Int × PV)} {i : Int} {d : PV} (hd : look kds i = some d)
    (hs : ∀ o i, subscripted sl false o i = operate [o, i] (getItem o i) := by intro _ _; rfl) : OP2 C n (subscriptTail v sl) (dictI C kds) (is (.int i)) (is d) := fun A s Z u w Q E hA I hu hw k => by
  obtain ⟨_, rfl⟩ := rdi hw
  obtain ⟨a, o, kvs, rfl, hz, ho, r⟩ := hu
  obtain ⟨x, ex, px⟩ := r.look.2 d hd
  have hm := (Heap.dictOf_iff.mpr ⟨o, I.heap _ _ hz, ho⟩).mapOf
  exact tail_any hm.typeIs slot_dict_getitem.lookup (wpAny_getItem_of (intKind_is C.prog C.w i _) hm ex (k x Z _ (Step.toks I _) px)) (hs _ _)
theorem op_item_dictS {v sl : Expr} {kds : List (Str × PV)} {i : Str} {d : PV} (hd : look kds i = some d)
    (hs : ∀ o i, subscripted sl false o i = operate [o, i] (getItem o i) := by intro _ _; rfl) : OP2 C n (subscriptTail v sl) (dictS C kds) (is (.str i)) (is d) := fun A s Z u w Q E hA I hu hw k => by
  obtain ⟨_, rfl⟩ := rdi hw
  obtain ⟨a, o, kvs, rfl, _, hz, ho, r⟩ := hu
  obtain ⟨x, ex, px⟩ := r.look.2 d hd
  have hm := (Heap.dictOf_iff.mpr ⟨o, I.heap _ _ hz, ho⟩).mapOf
  exact tail_any hm.typeIs slot_dict_getitem.lookup (wpAny_getItem_of (strKind_is C.prog C.w i _) hm ex (k x Z _ (Step.toks I _) px)) (hs _ _)
theorem op_in_dictS {kds : List (Str × PV)} {i : Str} : OP2 C n (compareOp .In) (is (.str i)) (dictS C kds) (is (.bool (look kds i).isSome)) := fun A s Z w u Q E hA I hw hu k => by
  obtain ⟨_, rfl⟩ := rdi hw
  obtain ⟨a, o, kvs, rfl, hne, hz, ho, r⟩ := hu
  have hm := (Heap.dictOf_iff.mpr ⟨o, I.heap _ _ hz, ho⟩).mapOf
  refine wpAny_in_of (strKind_is C.prog C.w i _) hne hm ?_
  rw [r.look.1]
  exact k _ Z _ (Step.toks I _) (.bool _)
inductive KP (Z : Fz) : List (Value × Value) → List (Int × PV) → Prop where
  | nil : KP Z [] []
  | cons {k : Int} {t : Tok} {v : Value} {d : PV} {vs : List (Value × Value)} {ds : List (Int × PV)} (h : Rd Z v d) (r : KP Z vs ds) : KP Z ((.int k t, v) :: vs) ((k, d) :: ds)
theorem KP.le {Z Z' : Fz} (k : Le Z Z') : ∀ {vs : List (Value × Value)} {ds : List (Int × PV)}, KP Z vs ds → KP Z' vs ds
  | _, _, .nil => .nil
  | _, _, .cons h r => .cons (h.le k) (r.le k)
theorem KP.all {Z : Fz} : ∀ {vs : List (Value × Value)} {ds : List (Int × PV)}, KP Z vs ds → allIntKeys vs = true
  | _, _, .nil => rfl
  | _, _, .cons h r => r.all
theorem KP.kv {Z : Fz} : ∀ {vs : List (Value × Value)} {ds : List (Int × PV)}, KP Z vs ds → KV Z (intKeyPairs vs) ds
  | _, _, .nil => .nil
  | _, _, .cons h r => .cons h r.kv
theorem KP.keys {Z : Fz} : ∀ {vs : List (Value × Value)} {ds : List (Int × PV)}, KP Z vs ds → (intKeyPairs vs).map (·.1) = ds.map (·.1)
  | _, _, .nil => rfl
  | _, _, .cons h r => congrArg (_ :: ·) r.keys
def EP (C : Cx) (n : Nat) (Φ : Asn C) (t : List (Sem Value × Sem Value)) (kds : List (Int × PV)) : Prop :=
  ∀ (A : Around) (s : Shared) (Z : Fz) (Q : List (Value × Value) → Shared → Prop) (E : Value → Shared → Prop), Room n A → Inv C Z s → Φ.at_ Z s.heap →
    (∀ vs Z' s', Step C Z s Z' s' → KP Z' vs kds → Q vs s') → wpAny (model C.prog C.w) A (evalPairs t) Q E s
variable {pos : Pos} {keys : List (Option Expr)} {values : List Expr} {kds : List (Int × PV)}
theorem ep_nil : EP C n Φ (pairTrees [] [] env pos) [] := fun A s Z Q E hA I H k => wpAny_pure (k [] Z s (StepX.refl I) .nil)
theorem ep_cons {e v : Expr} {i : Int} {d : PV} (hk : EV C n Φ (eval e env) (is (.int i))) (hv : EV C n Φ (eval v env) (is d)) (r : EP C n Φ (pairTrees keys values env pos) kds) : EP C n Φ (pairTrees (some e :: keys) (v :: values) env pos) ((i, d) :: kds) :=
  fun A s Z Q E hA I H k => by
  show wpAny _ A (evalPairs ((eval e env, do let x ← eval v env; standAt pos; pure x) :: pairTrees keys values env pos)) Q E s
  rw [evalPairs]
  refine wpAny_bind (hk A s Z _ E hA I H fun u Z₁ s₁ x₁ p₁ => ?_)
  refine wpAny_bind (wpAny_holding (wpAny_bind (hv A s₁ Z₁ _ E hA x₁.inv (Φ.stable I H x₁) fun u' Z₂ s₂ x₂ p₂ => wpAny_bind (wpAny_standAt (wpAny_pure ?_)))))
  refine wpAny_bind (wpAny_holding (r A s₂ Z₂ _ E hA x₂.inv (Φ.stable x₁.inv (Φ.stable I H x₁) x₂) fun vs Z₃ s₃ x₃ p₃ => wpAny_pure ?_))
  obtain ⟨_, rfl⟩ := rdi p₁
  exact k _ Z₃ s₃ ((x₁.trans x₂).trans x₃) (.cons (p₂.le x₃.le) p₃)
theorem ev_dictI (h : EP C n Φ (pairTrees keys values env pos) kds) (hn : (kds.map (·.1)).Nodup) (hall : keys.all (·.isSome) = true) (hl : keys.length = values.length) (h0 : keys ≠ []) (hlen : keys.length ≤ 15) :
    EV C n Φ (eval (.Dict keys values pos) env) (dictI C kds) := fun A s Z Q E hA I H k => by
  have x0 := StepX.push (X := No) I (o := { cls := .type "dict", data := .dict #[] }) (t := s.toks)
  refine wpAny_Dict_walk (knd := PySem.intKind C.prog C.w) hall hl h0 hlen (h A _ Z _ E hA x0.inv (Φ.stable I H x0) fun vs Z₁ s₁ x₁ p₁ => ?_)
  obtain ⟨o₀, hd, ho₀⟩ := Heap.dictOf_iff.mp (Heap.DictOf.new (knd := PySem.intKind C.prog C.w) s.heap)
  have hf : s.heap.get? s.heap.objs.size = none := gAb (Nat.le_refl _)
  have nt : ∀ (I' : Inv C Z₁ s₁), ∀ t ∈ C.tabs, s.heap.objs.size ≠ t.1 := fun I' t ht q => by
    obtain ⟨ps, e', _⟩ := I.tabs t ht
    rw [← q, hf] at e'; cases e'
  have hd₁ := x₁.keep _ _ hd (fun h => h) (nt x₁.inv)
  refine display_done_int p₁.all (by rw [p₁.keys]; exact hn) (Heap.dictOf_iff.mpr ⟨o₀, hd₁, ho₀⟩) fun h' hdo hsb => ?_
  obtain ⟨o', hd', ho'⟩ := Heap.dictOf_iff.mp hdo
  have hz₁ : Z₁ s.heap.objs.size = none := by
    cases e : Z₁ s.heap.objs.size with
    | none => rfl
    | some o =>
      rcases x₁.new _ _ e with q | q | q
      · rw [I.fresh hf] at q; cases q
      · rw [hd] at q; cases q
      · exact q.elim
  have x₂ := StepX.write (X := (· = s.heap.objs.size)) x₁.inv (t := s₁.toks + vs.length) rfl hsb hz₁ (nt x₁.inv)
  have x₃ := StepX.freeze (X := (· = s.heap.objs.size)) x₂.inv rfl hz₁ hd' (nt x₁.inv)
  have xx : Step C Z s _ _ := StepX.hide (((((Step.to x0).trans (Step.to x₁)).trans x₂).trans x₃)) fun b q => q ▸ hf
  exact k _ _ _ xx ⟨_, o', _, rfl, put_self, ho', p₁.kv.le x₃.le⟩
end
end
local macro_rules | `(tactic| walk_at "op") => `(tactic| first | ((with_reducible apply op_add_list); walk_at "sz") | ((with_reducible apply op_add_str); walk_at "sz"))
section
local macro_rules | `(tactic| walk_at "def") => `(tactic| first | with_reducible exact d_eof (by assumption) _ | with_reducible exact d_nonterm (by assumption) _ | with_reducible exact d_term (by assumption) _)
noncomputable def runV (terms : List Int) (sym v n : Int) : Int := if 256 ≤ sym then v + terms.getD (sym - 256).toNat 0 else if sym = 15 then -v else if sym = 16 then v * n else if sym = 31 then Builtin.bitNot v else 2 * v
noncomputable def runS (terms nums : List Int) (σ : List Int × List (List Int)) (sym : Int) : List Int × List (List Int) := ((σ.1.zip nums).map fun p => runV terms sym p.1 p.2, if sym = 16 then σ.2 ++ [σ.1] else σ.2)
noncomputable def runF (terms nums syms : List Int) : List (List Int) := let σ := syms.foldl (runS terms nums) (nums.map fun _ => 0, []); σ.2 ++ [σ.1]
noncomputable abbrev li (l : List Int) : PV := .list (l.map .int)
noncomputable abbrev lli (l : List (List Int)) : PV := .list (l.map li)
theorem zipL_int : ∀ (a b : List Int), zipL (a.map .int) (b.map .int) = (a.zip b).map fun p => PV.tup [.int p.1, .int p.2]
  | [], _ => rfl
  | _ :: _, [] => rfl
  | x :: a, y :: b => by
    have ih := zipL_int a b
    simp only [zipL, List.map_cons, List.zip_cons_cons] at ih ⊢
    rw [ih]
noncomputable def stR (T nums syms : List Int) (i : Nat) : List Int × List (List Int) := (syms.take i).foldl (runS T nums) (nums.map fun _ => 0, [])
theorem stR_next {T nums syms : List Int} {i : Nat} {k : Int} (e : syms[i]? = some k) : stR T nums syms (i + 1) = runS T nums (stR T nums syms i) k := by
  unfold stR
  rw [List.take_add_one, e, List.foldl_append]; rfl
theorem stR_len (T nums syms : List Int) : ∀ i, (stR T nums syms i).1.length = nums.length ∧ (stR T nums syms i).2.length ≤ i
  | 0 => ⟨List.length_map _, Nat.le_refl 0⟩
  | i + 1 => by
    have ih := stR_len T nums syms i
    cases hki : syms[i]? with
    | none =>
      have e : stR T nums syms (i + 1) = stR T nums syms i := by
        unfold stR
        rw [List.take_add_one, hki]; exact congrArg (List.foldl _ _) (List.append_nil _)
      rw [e]; exact ⟨ih.1, Nat.le_succ_of_le ih.2⟩
    | some k =>
      rw [stR_next hki]
      refine ⟨by rw [runS, List.length_map, List.length_zip, ih.1, Nat.min_self], ?_⟩
      show (if k = 16 then (stR T nums syms i).2 ++ [(stR T nums syms i).1] else (stR T nums syms i).2).length ≤ _
      split
      · rw [List.length_append]; exact Nat.succ_le_succ ih.2
      · exact Nat.le_succ_of_le ih.2
theorem low_sym {k : Int} (h : k = 15 ∨ k = 16 ∨ k = 31 ∨ k = 33) : ¬ k = 0 ∧ k < 256 := by
  rcases h with rfl | rfl | rfl | rfl <;> exact ⟨by decide, by decide⟩
theorem high_sym {k : Int} (h : 256 ≤ k ∧ k < 260) : ¬ k = 0 ∧ ¬ k = 16 ∧ (k = 256 ∨ k = 257 ∨ k = 258 ∨ k = 259) :=
  ⟨fun e => absurd (e ▸ h.1) (by decide), fun e => absurd (e ▸ h.1) (by decide), by lia⟩
theorem five {a b c d e : Prop} (h : a ∨ b ∨ c ∨ d ∨ e) : (a ∨ b ∨ c ∨ d) ∨ e := by
  rcases h with h | h | h | h | h
  · exact .inl (.inl h)
  · exact .inl (.inr (.inl h))
  · exact .inl (.inr (.inr (.inl h)))
  · exact .inl (.inr (.inr (.inr h)))
  · exact .inr h
theorem one_more {α : Type} {l m : List α} {n : Nat} (h : l.length ≤ n) (hm : m.length ≤ 1) (hn : n ≤ 1000) : l.length + m.length ≤ 16777216 :=
  Nat.le_trans (Nat.add_le_add h hm) (Nat.le_trans (Nat.add_le_add_right hn 1) (by decide))
theorem if_one {α : Type} {c : Prop} [Decidable c] {x : α} : (if c then [x] else []).length ≤ 1 := by
  split
  · exact Nat.le_refl 1
  · exact Nat.zero_le 1
section
variable {C : Cx}
theorem d_run (K : LawK C) (nums syms : List Int) (t0 t1 t2 t3 : Int) (hs : ∀ k ∈ syms, k = 15 ∨ k = 16 ∨ k = 31 ∨ k = 33 ∨ (256 ≤ k ∧ k < 260)) (hn : ∀ k ∈ nums, k.natAbs < 18446744073709551616) (hl : syms.length ≤ 1000) (hm : nums.length ≤ 1000) :
    DefC C 3 (sQ "_law_run") [is (li (syms ++ [0])), is (li nums), is (li [t0, t1, t2, t3])] (is (lli (runF [t0, t1, t2, t3] nums syms))) := by
  obtain ⟨f, q, doc, pm, cd, hg, ho, hcd⟩ := K.run
  have g1 := K.zip
  refine ⟨f, hg, ⟨_, _, ho, rfl⟩, fn_def (n := 1) (sc := scOf (stAt pw 82)) (ρ := [some (is (li (syms ++ [0]))), some (is (li nums)), some (is (li [t0, t1, t2, t3])), none, none, none]) (nm := [sQ "row", sQ "numbers", sQ "terms", sQ "values", sQ "stages", sQ "symbol"]) (xs := [sQ "row", sQ "numbers", sQ "terms"]) K.q ho rfl hcd rfl rfl rfl rfl rfl (bnd3 fun _ _ _ => by kernel_rfl) rfl (by decide +kernel) (by decide +kernel) (by decide +kernel) (by decide +kernel) rfl fun L X => ?_⟩
  have hsz : nums.length ≤ sizeLine := by rw [sizeLine_eq]; exact Nat.le_trans hm (by decide)
  apply ex_tup_sw
  · exact rfl
  · exact rfl
  · exact Nat.le_of_ble_eq_true rfl
  · exact rfl
  · apply TupK.val
    · apply ev_d
      · apply ev_comp1
        apply comp1_ok (xs := nums) (f := fun (p : Int) => .int p) (h := fun _ => .int 0)
        · apply it_eq
          · apply it_list
            walk_at "ev"
          · exact rfl
        · walk_at "at"
        · exact rfl
        · decide +kernel
        · exact rfl
        · exact hsz
        · intro cenv X' j hx
          apply ex_mk3
          · walk_at "at"
          · walk_at "at"
          · intro ω κ
            walk_at "ev"
      · show PV.list (nums.map fun _ => .int 0) = li (stR [t0, t1, t2, t3] nums syms 0).1
        exact congrArg PV.list (List.map_map ..).symm
    · apply TupK.val
      · walk_at "ev"
      · apply tk_nil_sw rfl rfl
        · show Bdn _ _ _ [_, _] [is (lli (stR [t0, t1, t2, t3] nums syms 0).2), is (li (stR [t0, t1, t2, t3] nums syms 0).1)] _ _
          walk_at "at"
        · apply exs_for (ρs := fun i => [some (is (li (syms ++ [0]))), some (is (li nums)), some (is (li [t0, t1, t2, t3])), some (is (li (stR [t0, t1, t2, t3] nums syms i).1)), some (is (lli (stR [t0, t1, t2, t3] nums syms i).2)), if i ≤ syms.length then none else some offV]) (ωs := fun _ => []) rfl rfl
          · apply it_list
            walk_at "ev"
          · intro i; rfl
          · intro κ' i d hd
            rw [List.map_append, List.getElem?_append] at hd
            by_cases hi : i < (syms.map PV.int).length
            · rw [if_pos hi, List.getElem?_map] at hd
              cases hki : syms[i]? with
              | none => rw [hki] at hd; cases hd
              | some k =>
                rw [hki] at hd; cases hd
                have hlt := (List.getElem?_eq_some_iff.mp hki).1
                have hkk := hs k (List.mem_of_getElem? hki)
                have e := stR_next (T := [t0, t1, t2, t3]) (nums := nums) hki
                have b := stR_len [t0, t1, t2, t3] nums syms i
                rw [if_pos (Nat.le_of_lt hlt), if_pos (show i + 1 ≤ syms.length from hlt), e]
                generalize stR [t0, t1, t2, t3] nums syms i = w at b ⊢
                obtain ⟨vs, ss⟩ := w
                simp only at b
                have b1 := b.1
                have b2 := b.2
                have hz : (vs.zip nums).length ≤ sizeLine := by rw [List.length_zip, sizeLine_eq]; exact Nat.le_trans (Nat.min_le_right _ _) (Nat.le_trans hm (by decide))
                have hv : vs.length ≤ sizeLine := by rw [b1]; exact hsz
                apply ex_mk
                · walk_at "at"
                rcases five hkk with hk4 | hk
                · have hk2 := low_sym hk4
                  walk_at "if"
                  · intro h; exact absurd (by simpa using h) hk2.1
                  intro _
                  walk_at "if"
                  · intro h; exact absurd (by simpa using h) (Int.not_le.mpr hk2.2)
                  intro _
                  walk_at "if"
                  · intro _
                    apply ex_cons
                    · apply ex_assign
                      · apply ev_d (d' := lli (runS [t0, t1, t2, t3] nums (vs, ss) k).2)
                        · apply ev_bin
                          · walk_at "ev"
                          · apply ev_ifexp (R := is (lli (if k = 16 then [vs] else [])))
                            · walk_at "ev"
                            · intro h
                              rw [if_pos (by simpa using h)]
                              apply ev_d
                              · walk_at "ev"
                              · rfl
                            · intro h
                              rw [if_neg (by simpa using h)]
                              apply ev_d
                              · walk_at "ev"
                              · rfl
                          · apply op_add_list
                            rw [List.length_map, List.length_map, sizeLine_eq]
                            exact one_more b2 if_one (Nat.le_trans (Nat.le_of_lt hlt) hl)
                        · show PV.list (ss.map li ++ (if k = 16 then [vs] else []).map li) = lli (if k = 16 then ss ++ [vs] else ss)
                          split <;> simp only [lli, List.map_append, List.map_cons, List.map_nil, List.append_nil]
                      · walk_at "at"
                      · decide +kernel
                      · decide +kernel
                      · exact rfl
                    apply ex_cons
                    · apply ex_assignC1 (ds := (runS [t0, t1, t2, t3] nums (vs, ss) k).1.map .int)
                      apply comp1_ok (xs := vs.zip nums) (f := fun (p : Int × Int) => .tup [.int p.1, .int p.2]) (h := fun p => .int (runV [t0, t1, t2, t3] k p.1 p.2))
                      · apply it_eq
                        · apply it_callTt
                          · assumption
                          · walk_at "ev"
                          · exact fi_zip
                          · exact rfl
                          · exact rfl
                          · exact rfl
                          · exact rfl
                        · exact zipL_int vs nums
                      · walk_at "at"
                      · exact rfl
                      · decide +kernel
                      · exact rfl
                      · exact hz
                      · intro cenv X' j hx
                        apply ex_mk3
                        · walk_at "at"
                        · walk_at "at"
                        · intro ω κ
                          have hj : j.2.natAbs < 18446744073709551616 := hn _ (List.of_mem_zip hx).2
                          apply ev_sub
                          · apply ev_dictI
                            · apply ep_cons
                              · walk_at "ev"
                              · walk_at "ev"
                              · apply ep_cons
                                · walk_at "ev"
                                · walk_at "ev"
                                · apply ep_cons
                                  · walk_at "ev"
                                  · walk_at "ev"
                                  · apply ep_cons
                                    · walk_at "ev"
                                    · walk_at "ev"
                                    · exact ep_nil
                            · exact (by decide : ([15, 16, 31, 33] : List Int).Nodup)
                            · exact rfl
                            · exact rfl
                            · exact List.cons_ne_nil _ _
                            · exact Nat.le_of_ble_eq_true rfl
                          · walk_at "ev"
                          · apply op_item_dictI
                            · rcases hk4 with rfl | rfl | rfl | rfl <;> rfl
                            · intro _ _; rfl
                      · show List.map _ (vs.zip nums) = ((vs.zip nums).map _).map _
                        rw [List.map_map]; rfl
                      · walk_at "at"
                      · decide +kernel
                      · decide +kernel
                      · exact rfl
                    apply ex_fgt
                    walk_at "fgtd"
                  · intro h; exact absurd (by simpa using h) (Int.not_le.mpr hk2.2)
                · have hk3 := high_sym hk
                  walk_at "if"
                  · intro h; exact absurd (by simpa using h) hk3.1
                  intro _
                  walk_at "if"
                  · intro _
                    apply ex_cons
                    · apply ex_assignC1 (ds := (runS [t0, t1, t2, t3] nums (vs, ss) k).1.map .int)
                      apply comp1_ok (xs := vs) (f := fun (p : Int) => .int p) (h := fun p => .int (p + [t0, t1, t2, t3].getD (k - 256).toNat 0))
                      · apply it_eq
                        · apply it_list
                          walk_at "ev"
                        · exact rfl
                      · walk_at "at"
                      · exact rfl
                      · decide +kernel
                      · exact rfl
                      · exact hv
                      · intro cenv X' j hx
                        apply ex_mk3
                        · walk_at "at"
                        · walk_at "at"
                        · intro ω κ
                          rcases hk3.2.2 with rfl | rfl | rfl | rfl
                          · apply ev_d
                            · walk_at "ev"
                            · rfl
                          · apply ev_d
                            · walk_at "ev"
                            · rfl
                          · apply ev_d
                            · walk_at "ev"
                            · rfl
                          · apply ev_d
                            · walk_at "ev"
                            · rfl
                      · show List.map _ vs = ((vs.zip nums).map fun p => runV [t0, t1, t2, t3] k p.1 p.2).map _
                        rw [List.map_map]
                        have : (PV.int ∘ fun (p : Int × Int) => runV [t0, t1, t2, t3] k p.1 p.2) = (fun p : Int => PV.int (p + [t0, t1, t2, t3].getD (k - 256).toNat 0)) ∘ Prod.fst := by
                          funext p; simp only [Function.comp, runV, if_pos hk.1]
                        rw [this, ← List.map_map, List.map_fst_zip (Nat.le_of_eq b1)]
                      · walk_at "at"
                      · decide +kernel
                      · decide +kernel
                      · exact rfl
                    have er : (runS [t0, t1, t2, t3] nums (vs, ss) k).2 = ss := by simp only [runS, if_neg hk3.2.1]
                    rw [er]
                    apply ex_fgt
                    walk_at "fgtd"
                  · intro h; exact absurd (by simpa using h) (Int.not_lt.mpr hk.1)
            · rw [if_neg hi, List.length_map] at hd
              rw [List.length_map] at hi
              have hie : i = syms.length := by
                have := (List.getElem?_eq_some_iff.mp hd).1
                exact Nat.le_antisymm (Nat.sub_eq_zero_iff_le.mp (by simpa using this)) (Nat.not_lt.mp hi)
              subst hie
              simp at hd
              subst hd
              rw [if_pos (Nat.le_refl _)]
              apply ex_mk
              · walk_at "at"
              · walk_at "if"
                · intro _
                  have b := stR_len [t0, t1, t2, t3] nums syms syms.length
                  walk_at "ret"
                  show PV.list ((stR [t0, t1, t2, t3] nums syms syms.length).2.map li ++ [li (stR [t0, t1, t2, t3] nums syms syms.length).1]) = lli (runF [t0, t1, t2, t3] nums syms)
                  simp only [lli, runF, List.map_append, List.map_cons, List.map_nil, stR, List.take_length]
                · intro h; exact absurd h (by decide)
          · apply ex_off (x := sQ "symbol")
            show At _ [_, _, _, _, _, if (List.map PV.int (syms ++ [0])).length ≤ syms.length then none else some offV] _ _
            rw [if_neg (by simp)]
            walk_at "at"
      · exact rfl
    · exact rfl
end
end
section
open PySem.SeqAt
section
variable {C : Cx} {n : Nat} {Φ : Asn C} {env : Env} {l m ds : List PV} {x y : Str} {lo hi stp : Option Int} {e : Expr} {pos p : Pos}
noncomputable def qv : Option (Int × Tok) → Value
  | some (i, t) => .int i t
  | none => .none
def PT (C : Cx) (n : Nat) (Φ : Asn C) (t : Sem Value) (o : Option Int) : Prop :=
  ∀ (A : Around) (s : Shared) (Z : Fz) (Q : Value → Shared → Prop) (E : Value → Shared → Prop), Room n A → Inv C Z s → Φ.at_ Z s.heap →
    (∀ (q : Option (Int × Tok)) Z' s', Step C Z s Z' s' → q.map (·.1) = o → Q (qv q) s') → wpAny (model C.prog C.w) A t Q E s
theorem pt_none : PT C n Φ (evalPart none env) none := fun A s Z Q E hA I H k => wpAny_pure (k none Z s (StepX.refl I) rfl)
theorem pt_some {i : Int} (h : EV C n Φ (eval e env) (is (.int i))) : PT C n Φ (evalPart (some e) env) (some i) := fun A s Z Q E hA I H k =>
  h A s Z Q E hA I H fun v Z' s' x pv => by
    cases pv with
    | int i t => exact k (some (i, t)) Z' s' x rfl
theorem isPart_of {q : Option (Int × Tok)} : IsPart (qv q) (q.map (·.1)) := by
  cases q with
  | none => exact .none
  | some p => exact .int p.1 p.2
theorem RdL.picks {Z : Fz} {vs : List Value} (r : RdL Z vs ds) : ∀ is : List Nat, RdL Z (is.filterMap (vs[·]?)) (is.filterMap (ds[·]?))
  | [] => .nil
  | i :: is => by
    have ih := r.picks is
    rw [List.filterMap_cons, List.filterMap_cons]
    cases hd : ds[i]? with
    | none =>
      have : vs[i]? = none := by
        rw [List.getElem?_eq_none_iff] at hd ⊢
        rw [r.length]; exact hd
      rw [this]; exact ih
    | some d =>
      obtain ⟨v, e, p⟩ := r.get hd
      rw [e]; exact .cons p ih
noncomputable def pickL (ds : List PV) (lo hi st : Option Int) : List PV := (sliceRange (sliceBounds lo hi st ds.length).1 (sliceBounds lo hi st ds.length).2.1 (sliceBounds lo hi st ds.length).2.2).filterMap (ds[·]?)
theorem RdL.pick {Z : Fz} {vs : List Value} (r : RdL Z vs ds) : RdL Z (slicePick vs.toArray lo hi stp).toList (pickL ds lo hi stp) := by
  have e : (slicePick vs.toArray lo hi stp).toList = (sliceRange (sliceBounds lo hi stp ds.length).1 (sliceBounds lo hi stp ds.length).2.1 (sliceBounds lo hi stp ds.length).2.2).filterMap (vs[·]?) := by
    unfold slicePick
    simp [r.length]
  rw [e]
  exact r.picks _
theorem slice_push {Z : Fz} {s : Shared} (I : Inv C Z s) {o : Obj} : Step C Z s Z { s with heap := s.heap.push o } := StepX.push I
theorem ev_slice_str {v : Expr} {l u : Option Expr} (hv : EV C n Φ (eval v env) (is (.str x))) (hl : PT C n Φ (evalPart l env) lo) (hu : PT C n Φ (evalPart u env) hi) (hsz : x.length ≤ sizeLine)
    (ht : ∀ o r, letTemporaryGo v o r = pure () := by intro _ _; rfl) : EV C n Φ (eval (.Subscript v (.Slice l u none p) pos) env) (is (.str (Txt.slice x lo hi))) := fun A s Z Q E hA I H k => by
  refine wpAny_Subscript_Slice (T := "str") F.slot_str_getitem.lookup (hv A s Z _ E hA I H fun o Z₁ s₁ x₁ p₁ => wpAny_Slice ?_) ht
  refine hl A s₁ Z₁ _ E hA x₁.inv (Φ.stable I H x₁) fun q Z₂ s₂ x₂ e₂ => ?_
  refine hu A s₂ Z₂ _ E hA x₂.inv (Φ.stable x₁.inv (Φ.stable I H x₁) x₂) fun q' Z₃ s₃ x₃ e₃ => ?_
  rw [evalPart_none]
  obtain ⟨t, rfl⟩ := rdi p₁
  refine wpAny_pure ⟨typeIs_str _ _ _, wpAny_getItem_str_slice (l := q) (u := q') (st := none) ⟨_, Heap.get?_push_size _ rfl, rfl, ?_⟩ rfl (post_val_or_str ⟨?_, fun t' kk => ?_⟩)⟩
  · cases q <;> cases q' <;> rfl
  · have := Txt.slice_le x lo hi
    unfold Txt.slice at this
    rw [← e₂, ← e₃] at this
    exact Nat.le_trans this hsz
  · have st1 := StepX.push (X := No) x₃.inv (o := { cls := .type "slice", data := .fields #[(qv q), (qv q'), .none] }) (t := kk)
    refine k _ _ _ (((x₁.trans x₂).trans x₃).trans st1) ?_
    have e : (if ((1 : Int) == 1 && (Builtin.Str.strSliceIndices (q.map (·.1)) (q'.map (·.1)) 1 x.length).length == x.length) = true then x else ⟨((Builtin.Str.strSliceIndices (q.map (·.1)) (q'.map (·.1)) 1 x.length).filterMap (x.cps[·]?)).toArray⟩) = Txt.slice x lo hi := by
      unfold Txt.slice; rw [e₂, e₃]
    rw [← e]
    exact .str _ _
end
end
section
open PySem.SeqAt
section
variable {C : Cx} {n : Nat} {X : Addr → Prop} {Φ Ψ : Asn C} {env : Env} {l m ds : List PV} {x y : Str} {e : Expr} {pos p : Pos} {R : Vp}
theorem tv_int {i : Int} (he : EV C n Φ (eval e env) (is (.int i))) (hn : ∀ t, isTrue e env t = (do let v ← t; standAt e.pos; holding [v] (truthy v)) := by intro _; rfl) : TV C n Φ (isTrue e env (eval e env)) (i != 0) := fun A s Z Q E hA I H k => by
  rw [hn]
  refine wpAny_bind (he A s Z _ E hA I H fun v Z' s' x pv => wpAny_bind (wpAny_standAt (wpAny_holding ?_)))
  obtain ⟨_, rfl⟩ := rdi pv
  exact P.truthy_int (k Z' s' x)
theorem tv_list (he : EV C n Φ (eval e env) (is (.list ds))) (hsz : ds.length < 2 ^ 62) (hn : ∀ t, isTrue e env t = (do let v ← t; standAt e.pos; holding [v] (truthy v)) := by intro _; rfl) : TV C n Φ (isTrue e env (eval e env)) (!ds.isEmpty) := fun A s Z Q E hA I H k => by
  rw [hn]
  refine wpAny_bind (he A s Z _ E hA I H fun v Z' s' x pv => wpAny_bind (wpAny_standAt (wpAny_holding ?_)))
  obtain ⟨a, n, vs, rfl, hz, r⟩ := rdi pv
  refine wpAny_truthy_list (isList_of x.inv hz) (by have := r.length; simp; lia) ?_
  have e : vs.toArray.isEmpty = ds.isEmpty := by
    have := r.length
    cases vs <;> cases ds <;> simp_all
  rw [e]
  exact k Z' _ (x.trans (Step.toks x.inv _))
theorem tv_bool {b : Bool} (he : EV C n Φ (eval e env) (is (.bool b))) (hn : ∀ t, isTrue e env t = (do let v ← t; standAt e.pos; holding [v] (truthy v)) := by intro _; rfl) : TV C n Φ (isTrue e env (eval e env)) b := fun A s Z Q E hA I H k => by
  rw [hn]
  refine wpAny_bind (he A s Z _ E hA I H fun v Z' s' x pv => wpAny_bind (wpAny_standAt (wpAny_holding ?_)))
  obtain ⟨_, rfl⟩ := rdi pv
  exact wpAny_truthy_bool (k Z' s' x)
theorem fn_ord {c : Nat} : FN C n (.builtin "ord") [is (.str ⟨#[c]⟩)] (is (.int c)) := fn1 fun A s Z v Q E hA I h k => by
  obtain ⟨_, rfl⟩ := rdi h
  exact P.ord_of_char (k _ Z _ (Step.toks I _) (.int _ _))
theorem op_item_str {v sl : Expr} {i : Int} {c : Nat} (hr : (decide (i < -(2 ^ 63 : Int)) || decide (i ≥ 2 ^ 63)) = false) (hc : (seqIndex? i x.length).bind (x.cps[·]?) = some c)
    (hs : ∀ o i, subscripted sl false o i = operate [o, i] (getItem o i) := by intro _ _; rfl) : OP2 C n (subscriptTail v sl) (is (.str x)) (is (.int i)) (is (.str ⟨#[c]⟩)) := fun A s Z u w Q E hA I hu hw k => by
  obtain ⟨_, rfl⟩ := rdi hu; obtain ⟨_, rfl⟩ := rdi hw
  exact tail_any (typeIs_str s _ _) F.slot_str_getitem.lookup (P.getItem_str hr hc (k _ Z _ (Step.toks I _) (.str _ _))) (hs _ _)
theorem fn_max2I {a b : Int} : FN C n (.builtin "max") [is (.int a), is (.int b)] (is (.int (if b > a then b else a))) := fn2 fun A s Z u v Q E hA I h h' k => by
  obtain ⟨_, rfl⟩ := rdi h; obtain ⟨_, rfl⟩ := rdi h'
  refine max_two_ints hA.handled fun h' tk hk => ?_
  have st : Step C Z s Z { s with heap := h', toks := tk } := .keeps I hk
  by_cases hb : b > a
  · rw [if_pos hb] at k ⊢
    exact k _ Z _ st (.int _ _)
  · rw [if_neg hb] at k ⊢
    exact k _ Z _ st (.int _ _)
variable {nm oc : List Str} {sc : List (Str × NameKind)} {ω ω' : List (Addr × List PV)} {κ : Addr → Option Obj} {ρ : List (Option Vp)}
theorem ev_append {r : Str} {p1 apos cpos : Pos} {elt : Expr} {a : Addr} {d : PV} {ds : List PV} {A : Around} {s : Shared} {Z : Fz} {Q : Value → Shared → Prop} {E : Value → Shared → Prop} (hr : At nm ρ r (isv (.ref a))) (he : EV C n (FS C env nm oc sc X ρ ω κ) (eval elt env) (is d)) (u : OU ω a ds (ds ++ [d]) ω') (hsz : ds.length ≤ sizeLine)
    (hbase : attributeBase (.Name r p1) "append" env (eval (.Name r p1) env) = eval (.Name r p1) env) (hline : (apos.endLine == cpos.line) = true)
    (hfew : ((backTo cpos (starEach [elt] env)).all (fun x => !x.1) && (backToKw cpos (keywordEach [] env)).all (fun x => x.1.isSome)
      && decide (([elt] : List Expr).length + ([] : List Keyword).length + (if ([] : List Keyword).isEmpty then 0 else 1) < 30)) = true)
    (htrees : backTo cpos (starEach [elt] env) = [(false, eval elt env)]) (hA : Room n A) (I : Inv C Z s) (H : FSp env nm oc sc X ρ ω κ Z s.heap)
    (k : ∀ Z' s', StepX C X Z s Z' s' → FSp env nm oc sc X ρ ω' κ Z' s'.heap → Q .none s') : wpAny (model C.prog C.w) A (eval (.Call (.Attribute (.Name r p1) "append" apos) [elt] [] cpos) env) Q E s := by
  refine wpAny_Call_append hbase hfew hline htrees (ev_name (n := n) hr A s Z _ E hA I H fun v Z₁ s₁ x₁ pv => ?_)
  cases pv
  have H₁ := (FS C env nm oc sc X ρ ω κ).stable I H x₁
  obtain ⟨hz, vs, mm, e, rr⟩ := H₁.own _ u.mem
  refine ⟨a, vs.toArray, rfl, ⟨_, mm, e, rfl, rfl, rfl⟩, ?_⟩
  refine he A s₁ Z₁ _ E hA x₁.inv H₁ fun y Z₂ s₂ x₂ py => ?_
  refine call_append x₂.inv ((FS C env nm oc sc X ρ ω κ).stable x₁.inv H₁ x₂) u py hsz fun s₃ x₃ H₃ => ?_
  exact k Z₂ s₃ (((Step.to x₁).trans (Step.to x₂)).trans x₃) H₃
theorem ex_append {r : Str} {p1 apos cpos epos : Pos} {elt : Expr} {a : Addr} {d : PV} {ds : List PV} (hr : At nm ρ r (isv (.ref a))) (he : EV C n (FS C env nm oc sc X ρ ω κ) (eval elt env) (is d)) (u : OU ω a ds (ds ++ [d]) ω') (hsz : ds.length ≤ sizeLine)
    (hbase : attributeBase (.Name r p1) "append" env (eval (.Name r p1) env) = eval (.Name r p1) env := by rfl) (hline : (apos.endLine == cpos.line) = true := by rfl)
    (hfew : ((backTo cpos (starEach [elt] env)).all (fun x => !x.1) && (backToKw cpos (keywordEach [] env)).all (fun x => x.1.isSome)
      && decide (([elt] : List Expr).length + ([] : List Keyword).length + (if ([] : List Keyword).isEmpty then 0 else 1) < 30)) = true := by rfl)
    (htrees : backTo cpos (starEach [elt] env) = [(false, eval elt env)] := by rfl) (hi : interactive env = false := by rfl) :
    EX C n X (FS C env nm oc sc X ρ ω κ) (exec (.Expr (.Call (.Attribute (.Name r p1) "append" apos) [elt] [] cpos) epos) env) (FS C env nm oc sc X ρ ω' κ) R := fun A s Z Q E hA I H kn kr => by
  rw [PySem.exec_Expr (hi := hi) (hs := rfl)]
  refine wpAny_bind (wpAny_standAt (wpAny_bind (ev_append (n := n) hr he u hsz hbase hline hfew htrees hA I H fun Z' s' x' H' => ?_)))
  rw [dropValue_plain (by intro _ q; cases q)]
  exact wpAny_pure (kn Z' s' x' H')
end
end
def GlobP (C : Cx) (x : Str) (P : Vp) : Prop := ∃ v, GlobZ C x v ∧ P.at_ C.Z0 v
section
variable {C : Cx} {n : Nat} {X : Addr → Prop} {env : Env} {nm oc : List Str} {sc : List (Str × NameKind)} {pos : Pos} {ρ : List (Option Vp)} {ω : List (Addr × List PV)} {κ : Addr → Option Obj}
theorem ev_globP {x : Str} {P : Vp} (hg : GlobP C x P) (hk : sc.lookup x = some .globalImplicit) (hd : (x == ("__debug__" : Str)) = false) : EV C n (FS C env nm oc sc X ρ ω κ) (eval (.Name x pos) env) P := by
  obtain ⟨v, hg, hr⟩ := hg
  refine fun A s Z Q E hA I H k => ev_glob hg hk hd A s Z Q E hA I H fun u Z' s' x' h => k u Z' s' x' ?_
  cases h
  exact P.mono x'.inv.base hr
end
noncomputable def tokL : List (Str × PV) := tokI.map fun p => (p.1, .int p.2)
noncomputable def lookT (k : Str) : Option Int := (tokI.find? fun kv => kv.1 = k).map (·.2)
theorem look_tok {k : Str} : look tokL k = (lookT k).map .int := by
  unfold look lookT tokL
  rw [List.find?_map, Option.map_map, Option.map_map]
  rfl
noncomputable def szI (b : Int → Bool) : Int := if b 3 then 3 else if b 2 then 2 else if b 1 then 1 else 0
theorem sz_at (b : Int → Bool) (h : szI b ≠ 0) : b (szI b) = true := by
  unfold szI at h ⊢
  split
  · assumption
  · split
    · assumption
    · split
      · assumption
      · simp_all
theorem allInt_map : ∀ l : List Int, allInt (l.map .int ++ [.int 0]) = true
  | [] => rfl
  | _ :: l => allInt_map l
theorem sz_best (b : Int → Bool) : bestP gtP ((([1, 2, 3] : List Int).filter b).map .int ++ [.int 0]) = .int (szI b) := by
  unfold szI
  simp only [List.filter_cons, List.filter_nil]
  cases b 1 <;> cases b 2 <;> cases b 3 <;> rfl
noncomputable abbrev subT (x : Str) (a b : Int) : Str := Txt.slice x (some a) (some b)
noncomputable def rowB (x : Str) (p : Nat) (k : Int) : Bool := (lookT (subT x p (p + k))).isSome
noncomputable def rowI (x : Str) (p : Nat) : Int := if szI (rowB x p) ≠ 0 then (lookT (subT x p (p + szI (rowB x p)))).getD 0 else 159 + (x.cps[p]?.getD 0 : Nat)
noncomputable def rowS (x : Str) (σ : List Int × Int) (p : Nat) : List Int × Int := if σ.2 ≤ p then (σ.1 ++ [rowI x p], p + (if 1 > szI (rowB x p) then 1 else szI (rowB x p))) else σ
noncomputable def rowF (x : Str) : List Int := ((List.range x.length).foldl (rowS x) ([], 0)).1
structure LawL (C : Cx) : Prop extends LawK C where
  len : BltZ C (sQ "len") (.builtin "len")
  ord : BltZ C (sQ "ord") (.builtin "ord")
  tok : GlobP C (sQ "EXACT_TOKEN_TYPES") (dictS C tokL)
section
variable {C : Cx}
theorem d_row (K : LawL C) (x : Str) (hx : x.length ≤ 1000) : DefC C 2 (sQ "_law_row") [is (.str x)] (is (li (rowF x ++ [0]))) := by
  obtain ⟨f, q, doc, pm, cd, hg, ho, hcd⟩ := K.row
  have g1 := K.len
  have g2 := K.ord
  have g3 := K.tok
  have g4 := K.max
  have g5 := K.range
  have hxs : x.length ≤ sizeLine := by rw [sizeLine_eq]; lia
  let st : Nat → List Int × Int := fun i => ((List.range i).foldl (rowS x) ([], 0))
  have hst : ∀ i, st (i + 1) = rowS x (st i) i := fun i => by
    show (List.range (i + 1)).foldl _ _ = _
    rw [List.range_succ, List.foldl_append]; rfl
  have hlen : ∀ i, (st i).1.length ≤ i := by
    intro i
    induction i with
    | zero => exact Nat.le_refl 0
    | succ i ih =>
      rw [hst]
      unfold rowS
      split
      · simp; lia
      · lia
  refine ⟨f, hg, ⟨_, _, ho, rfl⟩, fn_def (n := 0) (sc := scOf (stAt pw 81)) (ρ := [some (is (.str x)), none, none, none, none]) (nm := [sQ "text", sQ "row", sQ "ahead", sQ "place", sQ "size"]) (xs := [sQ "text"]) K.q ho rfl hcd rfl rfl rfl rfl rfl (bnd1 fun _ => by kernel_rfl) rfl (by decide +kernel) (by decide +kernel) (by decide +kernel) (by decide +kernel) rfl fun L X => ?_⟩
  apply ex_tup_sw
  · exact rfl
  · exact rfl
  · exact Nat.le_of_ble_eq_true rfl
  · exact rfl
  · apply TupK.own
    · apply evn_listL
      · walk_at "ev"
      · walk_at "at"
      · exact Nat.le_of_ble_eq_true rfl
    · intro a
      apply TupK.val
      · walk_at "ev"
      · apply tk_nil_sw rfl rfl
        · show Bdn _ _ _ [_, _] [is (.int 0), isv (.ref a)] _ _
          walk_at "at"
        · apply exs_for (ρs := fun i => [some (is (.str x)), some (isv (.ref a)), some (is (.int (st i).2)), none, none]) (ωs := fun i => [(a, (st i).1.map .int)]) rfl rfl
          · apply it_eq (ds := rngL 0 x.length)
            · apply it_callTt
              · assumption
              · apply el_cons
                · apply ev_callBt
                  · assumption
                  · walk_at "ev"
                  · exact fn_len_str (by lia)
                  · exact rfl
                  · exact rfl
                  · exact rfl
                  · exact rfl
                · walk_at "ev"
                · exact rfl
              · exact fi_range1 (small_one (by decide) (by decide) (by lia) (by lia))
              · exact rfl
              · exact rfl
              · exact rfl
              · exact rfl
            · exact rfl
          · intro i; rfl
          · intro κ' i d hd
            have hlt : i < x.length := by
              have := (List.getElem?_eq_some_iff.mp hd).1
              rw [rngL_length] at this; exact this
            have hde : d = .int i := by
              unfold rngL at hd
              rw [List.getElem?_map, List.getElem?_range hlt] at hd
              cases hd
              show PV.int (0 + (i : Int)) = _
              rw [Int.zero_add]
            subst hde
            have b := hlen i
            have hix : x.cps[i]? = some (x.cps[i]?.getD 0) := by
              have : i < x.cps.size := hlt
              rw [Array.getElem?_eq_getElem this]; rfl
            apply ex_mk
            · walk_at "at"
            rw [hst i]
            generalize st i = w at b ⊢
            obtain ⟨rs, ah⟩ := w
            simp only at b
            have hrs : (rs.map PV.int).length ≤ sizeLine := by rw [List.length_map, sizeLine_eq]; lia
            walk_at "if"
            · intro hc
              have hc : ah ≤ i := by simpa using hc
              have er : rowS x (rs, ah) i = (rs ++ [rowI x i], i + (if 1 > szI (rowB x i) then 1 else szI (rowB x i))) := by
                unfold rowS; rw [if_pos hc]
              rw [er]
              apply ex_cons
              · apply ex_assign
                · apply ev_callBt (R := is (.int (szI (rowB x i))))
                  · assumption
                  · apply el_cons
                    · apply ev_bin
                      · apply ev_comp1if
                        apply comp1if_ok (xs := [1, 2, 3]) (f := fun (k : Int) => .int k) (h := fun k => .int k) (p := rowB x i)
                        · apply it_eq
                          · apply it_tup
                            walk_at "ev"
                          · exact rfl
                        · walk_at "at"
                        · exact rfl
                        · decide +kernel
                        · exact rfl
                        · exact Nat.le_of_ble_eq_true rfl
                        · intro cenv X' j hx
                          apply ex_mk4
                          · walk_at "at"
                          · walk_at "at"
                          · intro ω κ
                            apply tv_eq
                            · apply tv_cmp
                              · apply ev_slice_str
                                · walk_at "ev"
                                · apply pt_some
                                  walk_at "ev"
                                · apply pt_some
                                  walk_at "ev"
                                · exact hxs
                                · intro _ _; rfl
                              · apply ev_globP
                                · assumption
                                · exact rfl
                                · exact rfl
                              · exact op_in_dictS
                              · exact rfl
                            · rw [look_tok, Option.isSome_map]; rfl
                          · intro _ ω κ
                            walk_at "ev"
                      · walk_at "ev"
                      · exact op_add_list (by simp only [List.length_map, List.length_append, sizeLine_eq]; have := List.length_filter_le (rowB x i) [1, 2, 3]; simp only [List.length_cons, List.length_nil] at this ⊢; lia)
                    · walk_at "ev"
                    · exact rfl
                  · apply fn_eq
                    · apply fn_max_list
                      · rw [allInt_map]; rfl
                      · simp
                    · rw [sz_best]
                  · exact rfl
                  · exact rfl
                · walk_at "at"
                · decide +kernel
                · decide +kernel
                · exact rfl
              apply ex_cons
              · apply ex_append (d := .int (rowI x i))
                · walk_at "at"
                · apply ev_ifexp
                  · apply tv_int
                    · walk_at "ev"
                    · intro _; rfl
                  · intro hz
                    have hz : szI (rowB x i) ≠ 0 := by simpa using hz
                    have hb := sz_at _ hz
                    apply ev_sub
                    · apply ev_globP
                      · assumption
                      · exact rfl
                      · exact rfl
                    · apply ev_slice_str
                      · walk_at "ev"
                      · apply pt_some
                        walk_at "ev"
                      · apply pt_some
                        walk_at "ev"
                      · exact hxs
                      · intro _ _; rfl
                    · apply op_item_dictS
                      · rw [look_tok]
                        unfold rowB at hb
                        rw [rowI, if_pos hz]
                        revert hb
                        show (lookT (subT x i (i + szI (rowB x i)))).isSome = true → (lookT (subT x i (i + szI (rowB x i)))).map PV.int = _
                        cases lookT (subT x i (i + szI (rowB x i))) with
                        | none => intro h; cases h
                        | some v => intro _; rfl
                      · intro _ _; rfl
                  · intro hz
                    have hz : ¬ szI (rowB x i) ≠ 0 := by simpa using hz
                    rw [rowI, if_neg hz]
                    apply ev_bin
                    · walk_at "ev"
                    · apply ev_callBt
                      · assumption
                      · apply el_cons
                        · apply ev_sub
                          · walk_at "ev"
                          · walk_at "ev"
                          · apply op_item_str
                            · simp; lia
                            · have e : seqIndex? (i : Int) x.length = some i := by
                                simp [seqIndex?]; lia
                              rw [e]; exact hix
                            · intro _ _; rfl
                        · walk_at "ev"
                        · exact rfl
                      · exact fn_ord
                      · exact rfl
                      · exact rfl
                      · exact rfl
                      · exact rfl
                    · walk_at "op"
                · exact OU.here
                · exact hrs
              apply ex_cons
              · apply ex_assign
                · apply ev_bin
                  · walk_at "ev"
                  · apply ev_callBt
                    · assumption
                    · walk_at "ev"
                    · exact fn_max2I
                    · exact rfl
                    · exact rfl
                    · exact rfl
                    · exact rfl
                  · walk_at "op"
                · walk_at "at"
                · decide +kernel
                · decide +kernel
                · exact rfl
              show EX _ _ _ (FS _ _ _ _ _ _ _ [(a, rs.map PV.int ++ [.int (rowI x i)])] _) _ (FS _ _ _ _ _ _ _ [(a, (rs ++ [rowI x i]).map .int)] _) _
              rw [List.map_append]
              apply ex_fgt
              walk_at "fgtd"
            · intro hc
              have hc : ¬ ah ≤ i := by simpa using hc
              have er : rowS x (rs, ah) i = (rs, ah) := by
                unfold rowS; rw [if_neg hc]
              rw [er]
              apply ex_fgt
              walk_at "fgtd"
          · show EX _ _ _ (FS _ _ _ _ _ _ [_, _, _, _, _] [(a, (st (rngL 0 x.length).length).1.map .int)] _) _ _ _
            rw [rngL_length]
            apply ex_freeze .here (.same (.it (.same (.same (.same .nil)))))
            have b := hlen x.length
            apply ex_ret
            apply ev_d
            · apply ev_bin
              · walk_at "ev"
              · walk_at "ev"
              · apply op_add_list
                simp only [List.length_map, List.length_cons, List.length_nil, sizeLine_eq]; lia
            · show PV.list ((rowF x).map .int ++ [.int 0]) = li (rowF x ++ [0])
              rw [li, List.map_append]; rfl
      · exact rfl
    · exact rfl
end
section
open PySem.SeqAt
section
variable {C : Cx} {n : Nat} {X : Addr → Prop} {Φ Ψ : Asn C} {env : Env} {l m ds : List PV} {x y : Str} {e o : Expr} {pos p apos : Pos} {R Pv : Vp} {Ps : List Vp} {name : Str} {id : String} {es : List Expr}
def HasM (C : Cx) (name : Str) (Pv : Vp) (id : String) : Prop := ∃ T, PlainAttrs T ∧ Slot T name id ∧ typeOf (.builtin id) = pure (.type "method_descriptor") ∧
  ∀ Z s v, Inv C Z s → Pv.at_ Z v → s.TypeIs v T ∧ (∀ a, v = .ref a → ∃ ob, s.heap.get? a = some ob ∧ ob.dict = none)
theorem ev_meth (hv : EV C n Φ (eval o env) Pv) (M : HasM C name Pv id) (ha : EL C n Φ (spliced (backTo pos (starEach (e :: es) env))) Ps) (F : FN C n (.builtin id) (Pv :: Ps) R)
    (hbase : attributeBase o name env (eval o env) = eval o env := by rfl)
    (hfew : ((backTo pos (starEach (e :: es) env)).all (fun x => !x.1) && (backToKw pos (keywordEach [] env)).all (fun x => x.1.isSome)
      && decide ((e :: es).length + ([] : List Keyword).length + (if ([] : List Keyword).isEmpty then 0 else 1) < 30)) = true := by rfl)
    (hline : (apos.endLine == pos.line) = true := by rfl) (he : starEach (e :: es) env = (false, eval e env) :: starEach es env := by rfl) (hp : (backTo pos (starEach es env)).any (·.1) = false := by rfl) :
    EV C n Φ (eval (.Call (.Attribute o name apos) (e :: es) [] pos) env) R := fun A s Z Q E hA I H k => by
  obtain ⟨T, h1, h2, h3, h4⟩ := M
  refine wpAny_Call_method_late hbase hfew hline rfl (hv A s Z _ E hA I H fun v Z₁ s₁ x₁ p₁ => ?_)
  obtain ⟨q1, q2⟩ := h4 Z₁ s₁ v x₁.inv p₁
  refine ⟨T, id, h1, h2, h3, q1, q2, ?_⟩
  refine Calls.callWith_builtin (by rw [he]; exact hp) ?_
  have ha' := ha A s₁ Z₁
  rw [he] at ha' ⊢
  refine Calls.evalArgs_plain (ha' _ E hA x₁.inv (Φ.stable I H x₁) fun vs Z₂ s₂ x₂ ps => ?_)
  have hs : Sat Z₂ (v :: vs) (Pv :: Ps) := .cons (Vp.mono _ x₂.le p₁) ps
  exact F A s₂ Z₂ (v :: vs) Q E hA x₂.inv hs.length hs.get fun u Z₃ s₃ x₃ pu => k u Z₃ s₃ ((x₁.trans x₂).trans x₃) pu
theorem ev_meth0 (hv : EV C n Φ (eval o env) Pv) (M : HasM C name Pv id) (F : FN C n (.builtin id) [Pv] R)
    (hbase : attributeBase o name env (eval o env) = eval o env := by rfl) (hline : (apos.endLine == pos.line) = true := by rfl) :
    EV C n Φ (eval (.Call (.Attribute o name apos) [] [] pos) env) R := fun A s Z Q E hA I H k => by
  obtain ⟨T, h1, h2, h3, h4⟩ := M
  refine wpAny_Call_method0_late hbase hline (hv A s Z _ E hA I H fun v Z₁ s₁ x₁ p₁ => ?_)
  obtain ⟨q1, q2⟩ := h4 Z₁ s₁ v x₁.inv p₁
  refine ⟨T, id, h1, h2, h3, q1, q2, ?_⟩
  refine Calls.callWith_builtin rfl (evalArgs_nil3 ?_)
  have hs : Sat Z₁ [v] [Pv] := .cons p₁ .nil
  exact F A s₁ Z₁ [v] Q E hA x₁.inv hs.length hs.get fun u Z₃ s₃ x₃ pu => k u Z₃ s₃ (x₁.trans x₃) pu
theorem hasM_bitlen {a : Int} : HasM C "bit_length" (is (.int a)) "int.bit_length" := ⟨"int", F.plainAttrs_int, F.slot_int_bit_length, F.type_int_bit_length, fun Z s v I h => by
  obtain ⟨_, rfl⟩ := rdi h; exact ⟨typeIs_int _ _ _, fun a h => by cases h⟩⟩
theorem fn_bitlen {a : Int} : FN C n (.builtin "int.bit_length") [is (.int a)] (is (.int (Builtin.Int.intBits a))) := fn1 fun A s Z v Q E hA I h k => by
  obtain ⟨_, rfl⟩ := rdi h
  exact call_int_bit_length (k _ Z _ (Step.toks I _) (.int _ _))
theorem fn_divmod {a b : Int} (hb : b ≠ 0) (hp : Builtin.divisionGoesByPylong a b = false) : FN C n (.builtin "divmod") [is (.int a), is (.int b)] (is (.tup [.int (a.fdiv b), .int (a.fmod b)])) := fn2 fun A s Z u v Q E hA I h h' k => by
    obtain ⟨_, rfl⟩ := rdi h; obtain ⟨_, rfl⟩ := rdi h'
    refine divmod_int hb ?_ (.inl hp)
    have st := StepX.alloc (X := No) I (o := { cls := .type "tuple", data := .seq #[.int (a.fdiv b) s.toks, .int (a.fmod b) (s.toks + 1)] }) (t := s.toks + 1 + 1) rfl
    exact k _ _ _ st (.tup (n := 0) (vs := [.int (a.fdiv b) s.toks, .int (a.fmod b) (s.toks + 1)]) (put_self (Z := Z)) (.cons (.int _ _) (.cons (.int _ _) .nil)))
end
end
section
open PySem.SeqAt
section
variable {C : Cx} {X Y : Addr → Prop} {Z Z' : Fz} {s s' : Shared}
theorem StepX.hideY (x : StepX C X Z s Z' s') (h : ∀ b, X b → s.heap.get? b = none ∨ Y b) : StepX C Y Z s Z' s' :=
  ⟨x.le, fun b o e => (x.new b o e).elim .inl fun q => q.elim (fun q => .inr (.inl q)) fun q => .inr (h b q),
   fun b o e hY ht => x.keep b o e (fun q => (h b q).elim (fun q => by rw [q] at e; cases e) hY) ht, x.rest, x.inv⟩
theorem CodeIn.rec {c : Addr} {q : Str} (x : CodeIn Z c q) (I : Inv C Z s) : s.heap.CodeRec (.ref c) q := by
  obtain ⟨o, vs, t, e1, e2, e3⟩ := x
  exact ⟨c, o, vs, t, rfl, I.heap _ _ e1, e2, e3⟩
theorem clo_enterW {n : Nat} {A : Around} {fd : FuncData} {f c : Addr} {o : Obj} {body : List Stmt} {args : Args} {vs : List Value} {xs nm oc : List Str} {sc : List (Str × NameKind)} {ρ : List (Option Vp)} {ω : List (Addr × List PV)} {Q : Value → Shared → Prop} {E : Value → Shared → Prop}
    (hq : Quiet C) (I : Inv C Z s) (hA : Room (n + 2) A) (ho : Z f = some o) (hd : o.data = .func fd) (hc : fd.code = .ref c) (hcd : CodeIn Z c fd.qualname) (hbody : fd.body = .stmts body) (hsc : fd.scope.names = sc) (hgl : fd.globals = mainGlobals) (hbl : fd.builtins = builtinsNs)
    (hcell : sc.all (fun x => x.2 != .cell) = true) (hbind : BindsTo s fd args (xs.zip vs)) (hlen : xs.length = vs.length) (hloc : xs.all (fun x => sc.lookup x == some .local) = true) (hoc : oc.all (fun x => sc.lookup x != some .cell && (fd.closure.lookup x).isNone) = true)
    (hnm : nm.Nodup) (hap : fd.closure.Pairwise fun x y => x.2 ≠ y.2) (hcl : ∀ x a, fd.closure.lookup x = some a → Z a = none ∧ ∃ v, s.heap.IsCell a v) (B : Addr → Prop) (hB : ∀ a, s.heap.get? a = none → B a) (hωB : ∀ p ∈ ω, B p.1) (hω : ∀ p ∈ ω, Owned Z s.heap p) (hωn : (ω.map (·.1)).Nodup)
    (hv : ∀ L h', h'.Ns L (fun x => (xs.zip vs).reverse.lookup x) → (∀ b o, s.heap.get? b = some o → h'.get? b = some o) → Vars (callEnv fd L f) Z h' nm ρ)
    (h : ∀ L A' s₁ E', Room (n + 1) A' → Inv C Z s₁ → Step C Z s Z s₁ → s.heap.get? L = none → FSp (callEnv fd L f) nm oc sc B ρ ω (fun _ => none) Z s₁.heap →
      wpAny (model C.prog C.w) A' (execs body (callEnv fd L f)) (fun fl s' => Q (match fl with | .ret v => v | _ => .none) s') E' s₁)
    (hco : fd.scope.isCoroutine = false) (hgen : fd.scope.isGenerator = false) (hk : fd.scope.kind = .function) :
    wpAny (model C.prog C.w) A (call (.ref f) args.pos args.kw) Q E s := by
  subst hsc
  have hf := I.heap _ _ ho
  have hnl := hq s.heap fun b o e => I.heap _ _ (I.base _ _ e)
  refine wpAny_call (codeAny_call_def (R := fun r s' => match r with | .ok (.ret v) => Q v s' | .ok _ => False | .error e => E e s') (by have := hA.depth; simp only [recursionLimit]; lia) hf hd hnl (by rw [hc]; exact hcd.rec I) hbody hbind
    (fun x hx => by have := List.all_eq_true.mp hcell x hx; simpa using this) (fun x hx => by have := List.all_eq_true.mp hloc x.1 (List.of_mem_zip hx).1; simpa using this) (fun h₁ hns hk₁ => ?_) hco hgen hk)
  have st : Step C Z s Z { s with heap := h₁, toks := s.toks + (xs.zip vs).length } := .keeps I hk₁
  have hA' : Room (n + 1) (A.deeper (callEnv fd s.heap.objs.size f)) := ⟨by have := hA.depth; simp only [Around.deeper]; lia, by have := hA.units; simp only [Around.deeper]; lia, hA.handled⟩
  have zn : ∀ a, s.heap.objs.size ≤ a → Z a = none := fun a ha => I.fresh (gAb ha)
  refine h s.heap.objs.size _ { s with heap := h₁, toks := s.toks + (xs.zip vs).length } _ hA' st.inv st (gAb (Nat.le_refl _))
    ⟨rfl, hgl, hbl, fun x hx e => ?_, hk, hnm, hap, ⟨_, hns⟩, hB _ (gAb (Nat.le_refl _)), zn _ (Nat.le_refl _), fun x a ha => ?_, fun x hx a ha => ?_, fun a ha => hB _ ((st.gone ha).elim id fun q => q.elim), hv _ _ hns hk₁, fun p hp => ?_, hωB, hωn, (fun _ _ h => nomatch h), fun _ _ h => nomatch h⟩
  · have := List.all_eq_true.mp hoc x hx
    simp only [e, bne_self_eq_false, Bool.false_and] at this
    cases this
  · obtain ⟨z, v, hc⟩ := hcl x a ha
    refine ⟨z, v, ?_⟩
    obtain ⟨oo, e, r⟩ := hc
    exact ⟨oo, hk₁ _ _ e, r⟩
  · have := List.all_eq_true.mp hoc x hx
    have e : fd.closure.lookup x = some a := ha
    rw [e] at this
    simp at this
  · obtain ⟨z, vs', m, e, r⟩ := hω p hp
    exact ⟨z, vs', m, hk₁ _ _ e, r⟩
theorem clo_enter {n : Nat} {A : Around} {fd : FuncData} {f c : Addr} {o : Obj} {body : List Stmt} {vs : List Value} {xs nm oc : List Str} {sc : List (Str × NameKind)} {ρ : List (Option Vp)} {ω : List (Addr × List PV)} {Q : Value → Shared → Prop} {E : Value → Shared → Prop}
    (hq : Quiet C) (I : Inv C Z s) (hA : Room (n + 2) A) (ho : Z f = some o) (hd : o.data = .func fd) (hc : fd.code = .ref c) (hcd : CodeIn Z c fd.qualname) (hbody : fd.body = .stmts body) (hsc : fd.scope.names = sc) (hgl : fd.globals = mainGlobals) (hbl : fd.builtins = builtinsNs)
    (hcell : sc.all (fun x => x.2 != .cell) = true) (hbind : bindArgs fd ⟨vs, []⟩ = pure (xs.zip vs)) (hlen : xs.length = vs.length) (hloc : xs.all (fun x => sc.lookup x == some .local) = true) (hoc : oc.all (fun x => sc.lookup x != some .cell && (fd.closure.lookup x).isNone) = true)
    (hnm : nm.Nodup) (hap : fd.closure.Pairwise fun x y => x.2 ≠ y.2) (hcl : ∀ x a, fd.closure.lookup x = some a → Z a = none ∧ ∃ v, s.heap.IsCell a v) (hω : ∀ p ∈ ω, Owned Z s.heap p) (hωn : (ω.map (·.1)).Nodup)
    (hv : ∀ L h', h'.Ns L (fun x => (xs.zip vs).reverse.lookup x) → (∀ b o, s.heap.get? b = some o → h'.get? b = some o) → Vars (callEnv fd L f) Z h' nm ρ)
    (h : ∀ L (X : Addr → Prop) A' s₁ E', Room (n + 1) A' → Inv C Z s₁ → Step C Z s Z s₁ → (∀ b, X b → s.heap.get? b = none ∨ b ∈ ω.map (·.1)) → FSp (callEnv fd L f) nm oc sc X ρ ω (fun _ => none) Z s₁.heap →
      wpAny (model C.prog C.w) A' (execs body (callEnv fd L f)) (fun fl s' => Q (match fl with | .ret v => v | _ => .none) s') E' s₁)
    (hco : fd.scope.isCoroutine = false) (hgen : fd.scope.isGenerator = false) (hk : fd.scope.kind = .function) :
    wpAny (model C.prog C.w) A (call (.ref f) vs) Q E s :=
  clo_enterW (args := ⟨vs, []⟩) hq I hA ho hd hc hcd hbody hsc hgl hbl hcell (BindsTo.of_eq hbind) hlen hloc hoc hnm hap hcl (fun a => s.heap.get? a = none ∨ a ∈ ω.map (·.1)) (fun _ h => .inl h) (fun p hp => .inr (List.mem_map_of_mem hp)) hω hωn hv
    (fun L A' s₁ E' hA' I' st _ H => h L _ A' s₁ E' hA' I' st (fun _ hb => hb) H) hco hgen hk
end
end
section
open PySem.SeqAt
section
variable {C : Cx} {X Y : Addr → Prop} {Z Z' : Fz} {s s' : Shared}
theorem StepX.grow (I : Inv C Z s) {P c' : Addr} {pos : Pos} {qual : Str} {h' : Heap} {oc fo : Obj} {vs : Array Value} {tt : Tok} {tk : Nat} (hT : (P, pos, qual) ∈ C.tabs) (hu : ∀ t ∈ C.tabs, t.1 = P → t = (P, pos, qual)) (hx : Heap.ExtBut P s.heap h')
    (hge : s.heap.objs.size ≤ c') (hlt : c' < h'.objs.size) (hoc : h'.get? c' = some oc) (hod : oc.data = .fields vs) (hq : vs[1]? = some (.str qual tt)) (hP : h'.get? P = some (tabObj #[rawInt pos.line, rawInt pos.col, .ref c'])) (hff : fo.isFreed = false) :
    StepX C X Z s (put (put Z c' oc) h'.objs.size fo) { s with heap := h'.push fo, toks := tk } := by
  have hPl : P < s.heap.objs.size := by obtain ⟨ps, e, _⟩ := I.tabs _ hT; exact Heap.lt_size e
  have hcs : s.heap.get? c' = none := gAb hge
  have hfs : s.heap.get? h'.objs.size = none := gAb (Nat.le_trans hge (Nat.le_of_lt hlt))
  have zc : Z c' = none := I.fresh hcs
  have zf : Z h'.objs.size = none := I.fresh hfs
  have zf' : put Z c' oc h'.objs.size = none := by rw [put_ne (Nat.ne_of_gt hlt)]; exact zf
  have le : Le Z (put (put Z c' oc) h'.objs.size fo) := (le_put zc).trans (le_put zf')
  have ne : ∀ b o, s.heap.get? b = some o → b ≠ c' ∧ b ≠ h'.objs.size := fun b o e => by
    have := Heap.lt_size e
    exact ⟨Nat.ne_of_lt (Nat.lt_of_lt_of_le this hge), Nat.ne_of_lt (Nat.lt_trans (Nat.lt_of_lt_of_le this hge) hlt)⟩
  refine ⟨le, fun b o e => ?_, fun b o e _ ht => Heap.get?_push_of_some _ (hx b o (ht _ hT) e), ⟨rfl, rfl, rfl⟩, ⟨I.base.trans le, fun b o e => ?_, fun t ht => ?_, fun t ht => ?_⟩⟩
  · by_cases q : b = h'.objs.size
    · exact .inr (.inl (q ▸ hfs))
    · rw [put_ne q] at e
      by_cases q' : b = c'
      · exact .inr (.inl (q' ▸ hcs))
      · rw [put_ne q'] at e; exact .inl e
  · by_cases q : b = h'.objs.size
    · subst q; rw [put_self] at e; cases e; exact Heap.get?_push_size _ hff
    · rw [put_ne q] at e
      by_cases q' : b = c'
      · subst q'; rw [put_self] at e; cases e; exact Heap.get?_push_of_some _ hoc
      · rw [put_ne q'] at e
        have hbP : b ≠ P := fun q2 => by rw [q2, I.off _ hT] at e; cases e
        exact Heap.get?_push_of_some _ (hx b o hbP (I.heap b o e))
  · by_cases q : t.1 = P
    · have e := hu t ht q
      subst e
      exact ⟨_, Heap.get?_push_of_some _ hP, .inr ⟨c', rfl, oc, vs, tt, by
        rw [put_ne (Nat.ne_of_lt hlt)]; exact put_self, hod, hq⟩⟩
    · obtain ⟨ps, e, r⟩ := I.tabs t ht
      exact ⟨ps, Heap.get?_push_of_some _ (hx _ _ q e), r.imp id fun ⟨c, e1, e2⟩ => ⟨c, e1, e2.le le⟩⟩
  · obtain ⟨ps, e, _⟩ := I.tabs t ht
    obtain ⟨n1, n2⟩ := ne _ _ e
    rw [put_ne n2, put_ne n1]; exact I.off t ht
noncomputable def cloV (name qual : Str) (params : Arguments) (body : List Stmt) (scope : Scope) (clos : List (Str × Addr)) : Vp :=
  ⟨fun Z v => ∃ fa doc pm c' ctv, v = .ref fa ∧ Z fa = some { cls := .type "function", data := .func (fnX name qual params body scope clos .none .none doc pm none (.ref c') ctv) } ∧ CodeIn Z c' qual,
   fun k ⟨fa, doc, pm, c', ctv, e, z, r⟩ => ⟨fa, doc, pm, c', ctv, e, k _ _ z, r.le k⟩⟩
def TopB (C : Cx) : Prop := ∀ h : Heap, (∀ b o, C.Z0 b = some o → h.get? b = some o) → ∃ mg, h.Ns mainGlobals mg ∧ ∀ t ∈ C.tabs, mainGlobals ≠ t.1 ∧ h.BuiltinsAt mg t.1
def HdZ (C : Cx) (c P : Addr) : Prop := ∀ h : Heap, (∀ b o, C.Z0 b = some o → h.get? b = some o) → CodeHd h c P
variable {n : Nat} {env : Env} {nm oc : List Str} {sc : List (Str × NameKind)} {ω : List (Addr × List PV)} {κ : Addr → Option Obj} {ρ ρ' : List (Option Vp)} {R : Vp}
theorem ex_nest {name qual : Str} {args : Arguments} {body : List Stmt} {scope : Scope} {pos : Pos} {c P : Addr} {clos : List (Str × Addr)} (hB : TopB C) (hH : HdZ C c P) (hT : (P, pos, qual) ∈ C.tabs) (hu : ∀ t ∈ C.tabs, t.1 = P → t = (P, pos, qual))
    (hcode : env.code = .ref c) (hgl : env.globals = mainGlobals) (hqual : qualnameIn env name name = qual) (hda : defaultsOf args env = ([], [])) (hann : annTrees args none env = []) (hcl : closureFor scope env = pure clos)
    (up : Upd nm ρ name (some (cloV name qual args body scope clos)) ρ') (pl : PlainName name) (hk : canSt sc oc name = true) :
    EX C n X (FS C env nm oc sc X ρ ω κ) (exec (.FunctionDef name args body [] none [] scope none name pos) env) (FS C env nm oc sc X ρ' ω κ) R := fun A s Z Q E hA I H kn kr => by
  rw [exec_def, hqual, hda, hann]
  refine wpAny_bind (wpAny_standAt (wpAny_bind (wpAny_holding ?_)))
  refine wpAny_bind (wpAny_pure (wpAny_bind (wpAny_holding (wpAny_pure (wpAny_holding (wpAny_bind (wpAny_pure ?_)))))))
  obtain ⟨mg, hg, hb⟩ := hB s.heap fun b o e => I.heap _ _ (I.base _ _ e)
  obtain ⟨hgP, hbi⟩ := hb _ hT
  have hhd := hH s.heap fun b o e => I.heap _ _ (I.base _ _ e)
  obtain ⟨ps, hP, hps⟩ := I.tabs _ hT
  have fin : ∀ {fa : Addr} {Z₁ : Fz} {s₁ : Shared}, Step C Z s Z₁ s₁ → (cloV name qual args body scope clos).at_ Z₁ (.ref fa) → wpAny (model C.prog C.w) A (standAt pos >>= fun _ => bindName env name (.ref fa) >>= fun _ => pure Flow.next) Q E s₁ := fun x hv => by
    refine wpAny_bind (wpAny_standAt (wpAny_bind (bindName_ (st_name x.inv ((FS C env nm oc sc X ρ ω κ).stable I H x) hv up pl hk fun s' x' H' => wpAny_pure ?_))))
    exact kn _ s' ((Step.to x).trans x') H'
  rcases hps with rfl | ⟨c', rfl, hci⟩
  · refine makeFunction_K hcl hgl hg hcode hhd hP trivial rfl hgP hbi fun c' ctv doc h' tk hx hge hlt hrec hP' => ?_
    obtain ⟨c₂, o, vs, t, e, g, hod, hq⟩ := hrec
    cases e
    have st := StepX.grow (X := No) I hT hu hx hge hlt g hod hq hP' (fo := fnMade name qual args body scope clos doc ((mg "__name__").getD .none) c' ctv) (tk := tk) rfl
    refine fin st ⟨_, doc, _, c', ctv, rfl, put_self, o, vs, t, ?_, hod, hq⟩
    rw [put_ne (Nat.ne_of_lt hlt)]; exact put_self
  · refine makeFunction_hit hcl hgl hg hcode hhd hP trivial (cv := .ref c') ?_ hbi fun ctv doc h' tk hk' hsz => ?_
    · simp [rawInt, codeAmong]
    · have st1 : Step C Z s Z { s with heap := h', toks := tk } := .keeps I hk'
      have st2 := StepX.alloc (X := No) st1.inv (o := { cls := .type "function", data := .func (fnX name qual args body scope clos .none .none doc ((mg "__name__").getD .none) none (.ref c') ctv) }) (t := tk) rfl
      exact fin (st1.trans st2) ⟨_, doc, _, c', ctv, rfl, put_self, hci.le st2.le⟩
end
end
section
open PySem.SeqAt
section
variable {C : Cx} {n : Nat} {X : Addr → Prop} {Φ Ψ Θ : Asn C} {R : Vp} {env : Env} {st : Stmt} {rest b o : List Stmt} {pos : Pos} {RA : Fz → Heap → Value → Prop}
def EXG (C : Cx) (n : Nat) (X : Addr → Prop) (Φ : Asn C) (t : Sem Flow) (Ψ : Asn C) (RA : Fz → Heap → Value → Prop) : Prop :=
  ∀ (A : Around) (s : Shared) (Z : Fz) (Q : Flow → Shared → Prop) (E : Value → Shared → Prop), Room n A → Inv C Z s → Φ.at_ Z s.heap →
    (∀ Z' s', StepX C X Z s Z' s' → Ψ.at_ Z' s'.heap → Q .next s') → (∀ v Z' s', StepX C X Z s Z' s' → RA Z' s'.heap v → Q (.ret v) s') → wpAny (model C.prog C.w) A t Q E s
theorem eg_end (h : ∀ {Z h}, Φ.at_ Z h → Ψ.at_ Z h) : EXG C n X Φ (execs [] env) Ψ RA := fun A s Z Q E hA I H kn kr => wpAny_execs_nil (kn Z s (StepX.refl I) (h H))
theorem eg_cons (h1 : EX C n X Φ (exec st env) Ψ offV) (h2 : EXG C n X Ψ (execs rest env) Θ RA) : EXG C n X Φ (execs (st :: rest) env) Θ RA := fun A s Z Q E hA I H kn kr =>
  wpAny_execs_cons (h1 A s Z _ E hA I H (fun Z₁ s₁ x₁ H₁ => h2 A s₁ Z₁ Q E hA x₁.inv H₁ (fun Z₂ s₂ x₂ H₂ => kn Z₂ s₂ (x₁.trans x₂) H₂) fun v Z₂ s₂ x₂ r => kr v Z₂ s₂ (x₁.trans x₂) r) fun v Z₁ s₁ x₁ r => r.elim)
theorem eg_ifs {t : Expr} {c : Bool} (ht : TV C n Φ (isTrue t env (eval t env)) c) (hb : c = true → EXG C n X Φ (execs (b ++ rest) env) Ψ RA) (ho : c = false → EXG C n X Φ (execs (o ++ rest) env) Ψ RA) :
    EXG C n X Φ (execs (.If t b o pos :: rest) env) Ψ RA := fun A s Z Q E hA I H k kr => by
  rw [execs_if]
  refine wpAny_bind (wpAny_standAt (wpAny_bind (ht A s Z _ E hA I H fun Z₁ s₁ x₁ => ?_)))
  cases c with
  | true => exact hb rfl A s₁ Z₁ Q E hA x₁.inv (Φ.stable I H x₁) (fun Z₂ s₂ x₂ H₂ => k Z₂ s₂ (x₁.to.trans x₂) H₂) fun v Z₂ s₂ x₂ r => kr v Z₂ s₂ (x₁.to.trans x₂) r
  | false => exact ho rfl A s₁ Z₁ Q E hA x₁.inv (Φ.stable I H x₁) (fun Z₂ s₂ x₂ H₂ => k Z₂ s₂ (x₁.to.trans x₂) H₂) fun v Z₂ s₂ x₂ r => kr v Z₂ s₂ (x₁.to.trans x₂) r
theorem eg_ret0 (h : ∀ {Z h}, Φ.at_ Z h → RA Z h .none) : EXG C n X Φ (execs (.Return none pos :: rest) env) Ψ RA := fun A s Z Q E hA I H kn kr =>
  wpAny_execs_cons (wpAny_Return_none (kr .none Z s (StepX.refl I) (h H)))
theorem eg_ret {e : Expr} {P : Vp} (he : EV C n Φ (eval e env) P) (h : ∀ {Z h v}, Φ.at_ Z h → P.at_ Z v → RA Z h v) : EXG C n X Φ (execs (.Return (some e) pos :: rest) env) Ψ RA := fun A s Z Q E hA I H kn kr =>
  wpAny_execs_cons (wpAny_Return_some (he A s Z _ E hA I H fun v Z' s' x p => kr v Z' s' x.to (h (Φ.stable I H x) p)))
end
section
variable {prog : Program} {w : World} {A : Around} {E : Value → Shared → Prop} {s : Shared}
theorem setItem_plain {l : Addr} {items : Array Value} {k : Int} {t : Tok} {v : Value} {Q : Unit → Shared → Prop} (hl : s.heap.PlainList l items)
    (h0 : 0 ≤ k) (hfit : k < 2 ^ 63) (hn : k < items.size)
    (hQ : ∀ h', h'.PlainList l (items.setIfInBounds k.toNat v) → Heap.SameBut l s.heap h' → Q () { s with heap := h' }) :
    wpAny (model prog w) A (setItem (.ref l) (.int k t) v) Q E s := by
  obtain ⟨m, ho⟩ := id hl
  have hil := hl.isList
  have hf := fitsIndex_of h0 hfit
  clear hfit
  unfold setItem
  try with_reducible refine wpAny_holding ?_
  first | refine wpAny_bind (wpAny_pure ?_) | skip
  refine wpAny_bind (wpAny_sequenceKey hil.typeIs (by decide) ?_)
  refine wpAny_bind (wpAny_callSpecial?_slot (name := sQ "__setitem__") hil.typeIs slot_list_setitem
    (wpAny_call_entry slot_list_setitem hil.typeIs entry_list_setitem ?_ (args_list_setitem _ _ _)))
  show wpAny _ _ (Builtin.List.listSubscript? (.int k t) >>= _) _ _ s
  refine wpAny_bind (wpAny_listSubscript_int hf ?_)
  obtain ⟨j, rfl⟩ := Int.eq_ofNat_of_zero_le h0
  have hj : j < items.size := by lia
  show wpAny _ _ ((seqItemAt l j >>= fun r => pure (r.map (j, ·))) >>= _) _ _ s
  refine wpAny_bind (wpAny_bind (wpAny_seqItemAt ho rfl (wpAny_pure ?_)))
  rw [Array.getElem?_eq_getElem hj]
  show wpAny _ _ (setSeqItemAt l j v >>= _) _ _ s
  have fin : (s.heap.update l (Obj.mapSeq (·.setIfInBounds j v))).PlainList l (items.setIfInBounds j v) := by
    obtain ⟨n', hd'⟩ := Obj.data_mapSeq (o := { cls := .type "list", data := .seq items m }) rfl (·.setIfInBounds j v)
    exact ⟨_, Heap.get?_update_self _ ho (Obj.isFreed_of_seq hd')⟩
  refine wpAny_bind (wpAny_setSeqItemAt ho rfl ?_)
  first
    | exact wpAny_bind (wpAny_pure (wpAny_pure ⟨.none, rfl, wpAny_pure (hQ _ fin (Heap.SameBut.update ..))⟩))
    | exact wpAny_pure ⟨.none, rfl, wpAny_pure (hQ _ fin (Heap.SameBut.update ..))⟩
end
end
section
open PySem.SeqAt
section
variable {C : Cx} {n : Nat} {X : Addr → Prop} {Z Z' : Fz} {s s' : Shared} {R : Vp} {env : Env} {nm oc : List Str} {sc : List (Str × NameKind)} {ω ω' : List (Addr × List PV)} {κ : Addr → Option Obj} {ρ : List (Option Vp)} {pos : Pos}
theorem FSp.reown {a : Addr} {ds ds' : List PV} (I : Inv C Z s) (H : FSp env nm oc sc X ρ ω κ Z s.heap) (u : OU ω a ds ds' ω') (x : StepX C (· = a) Z s Z' s') (ho : Owned Z' s'.heap (a, ds')) :
    StepX C X Z s Z' s' ∧ FSp env nm oc sc X ρ ω' κ Z' s'.heap := by
  obtain ⟨hz, vs, m, e, r⟩ := H.own _ u.mem
  replace hz : Z a = none := hz
  replace e : s.heap.get? a = some { cls := .type "list", data := .seq vs.toArray m } := e
  have hX : X a := H.ownX _ u.mem
  have nl : env.locals ≠ a := fun q => by
    obtain ⟨_, o, _, _, e', d, _⟩ := H.loc
    rw [q, e] at e'; cases e'; cases d
  have nc : ∀ n c, env.cells.lookup n = some c → c ≠ a := fun n c hc q => by
    obtain ⟨_, v, o, e', d⟩ := H.cells n c hc
    rw [q, e] at e'; cases e'; cases d
  have H0 : FSp env nm oc sc X ρ [] κ Z s.heap := ⟨H.names, H.gl, H.bl, H.cellH, H.fn, H.nodup, H.apart, H.loc, H.locX, H.locZ, H.cells, H.cellX, H.cof, H.vars, (fun _ h => nomatch h), (fun _ h => nomatch h), List.Pairwise.nil, fun b o e =>
    let h := H.held b o e; ⟨h.z, h.at_, h.tab, h.loc, h.cell, fun _ h => nomatch h⟩, H.heldX⟩
  have H1 := H0.step I x (fun q => nl q) (fun n c hc q => nc n c hc q) (fun _ h => nomatch h) (fun b o e q => (H.held b o e).own _ u.mem q) fun b q => q ▸ hX
  refine ⟨x.mono fun b q => q ▸ hX, H1.names, H1.gl, H1.bl, H1.cellH, H1.fn, H1.nodup, H1.apart, H1.loc, H1.locX, H1.locZ, H1.cells, H1.cellX, H1.cof, H1.vars, ?_, ?_, ?_, fun b o eb => ?_, H1.heldX⟩
  · refine u.all H.ownN (fun p hp hne => ?_) ho
    obtain ⟨hz', vs, m, e, r⟩ := H.own p hp
    have e' := x.keep _ _ e hne (I.tab_fields e fun ps q => by cases q)
    exact ⟨x.stillNone hz' e hne, vs, m, e', r.le x.le⟩
  · exact u.all H.ownN (fun p hp _ => H.ownX p hp) hX
  · rw [u.keys]; exact H.ownN
  · have h := H1.held b o eb
    have h0 := H.held b o eb
    have hb : b ≠ a := h0.own _ u.mem
    exact ⟨h.z, h.at_, h.tab, h.loc, h.cell, u.all H.ownN (fun p hp _ => h0.own p hp) hb⟩
theorem RdL.setAt {v : Value} {d : PV} (p : Rd Z v d) : ∀ {vs : List Value} {ds : List PV}, RdL Z vs ds → ∀ i, RdL Z (vs.set i v) (ds.set i d)
  | _, _, .nil, _ => .nil
  | _, _, .cons h r, 0 => .cons p r
  | _, _, .cons h r, i + 1 => .cons h (RdL.setAt p r i)
theorem ex_setitem {x : Str} {xp sp : Pos} {ie e : Expr} {a : Addr} {i : Nat} {d : PV} {ds : List PV} (hx : At nm ρ x (isv (.ref a))) (he : EV C n (FS C env nm oc sc X ρ ω κ) (eval e env) (is d)) (hi : EV C n (FS C env nm oc sc X ρ ω κ) (eval ie env) (is (.int i))) (u : OU ω a ds (ds.set i d) ω') (hlt : i < ds.length) (hsz : i < 2 ^ 62)
    (hs : swapsWith e (some (.Subscript (.Name x xp) ie sp)) pos.line env = pure false := by rfl) :
    EX C n X (FS C env nm oc sc X ρ ω κ) (exec (.Assign [.Subscript (.Name x xp) ie sp] e pos) env) (FS C env nm oc sc X ρ ω' κ) R := fun A s Z Q E hA I H kn kr => by
  rw [PySem.exec_Assign_Subscript (hs := hs)]
  refine wpAny_bind (wpAny_standAt (wpAny_bind (he A s Z _ E hA I H fun v Z₁ s₁ x₁ pv => ?_)))
  have H₁ := (FS C env nm oc sc X ρ ω κ).stable I H x₁
  rw [assign_Subscript]
  refine wpAny_bind (wpAny_bind (wpAny_holding (ev_name (n := n) hx A s₁ Z₁ _ E hA x₁.inv H₁ fun v₂ Z₂ s₂ x₂ pv₂ => ?_)))
  cases pv₂
  have H₂ := (FS C env nm oc sc X ρ ω κ).stable x₁.inv H₁ x₂
  refine wpAny_bind (wpAny_holding (hi A s₂ Z₂ _ E hA x₂.inv H₂ fun v₃ Z₃ s₃ x₃ pv₃ => ?_))
  have H₃ := (FS C env nm oc sc X ρ ω κ).stable x₂.inv H₂ x₃
  refine wpAny_bind (wpAny_standAt (wpAny_bind (wpAny_holding ?_)))
  obtain ⟨_, rfl⟩ := rdi pv₃
  obtain ⟨hz, vs, m, e', r⟩ := H₃.own _ u.mem
  refine setItem_plain ⟨m, e'⟩ (Int.natCast_nonneg _) (by lia) (by rw [List.size_toArray, r.length]; exact Int.ofNat_lt.mpr hlt) fun h' hl hsb => ?_
  have hr : RdL Z₃ (vs.set i v) (ds.set i d) := by
    exact r.setAt (pv.le (x₂.le.trans x₃.le)) i
  obtain ⟨st, H₄⟩ := H₃.setOwn (t := s₃.toks) x₃.inv u hsb (vs' := vs.set i v) (by simpa using hl) hr
  refine wpAny_release (wpAny_pure (kn Z₃ _ ((((Step.to x₁).trans (Step.to x₂)).trans (Step.to x₃)).trans st) H₄))
end
end
noncomputable def sh (x : Int) (s : Nat) : Int := x.fdiv (2 ^ s)
noncomputable def lo (x : Int) (s : Nat) : Int := Builtin.bitXor x (sh x s * 2 ^ s)
noncomputable def digR (n : Nat) (x : Int) (m : Nat) : List Int := if h : m ≤ 1 then [x] else digR n (lo x (m / 2 * n)) (m / 2) ++ digR n (sh x (m / 2 * n)) (m - m / 2)
termination_by m
decreasing_by
  · exact Nat.div_lt_self (Nat.lt_trans Nat.zero_lt_one (Nat.lt_of_not_le h)) Nat.one_lt_two
  · exact Nat.sub_lt (Nat.lt_trans Nat.zero_lt_one (Nat.lt_of_not_le h)) (Nat.div_pos (Nat.lt_of_not_le h) Nat.two_pos)
theorem digR_one {n : Nat} {x : Int} : digR n x 1 = [x] := by rw [digR]; simp
theorem digR_two {n m : Nat} {x : Int} (h : 2 ≤ m) : digR n x m = digR n (lo x (m / 2 * n)) (m / 2) ++ digR n (sh x (m / 2 * n)) (m - m / 2) := by
  rw [digR, dif_neg (Nat.not_le_of_lt h)]
theorem halves {m : Nat} (h : 1 ≤ m) (h1 : ¬ m = 1) : 2 ≤ m ∧ m / 2 < m ∧ 1 ≤ m / 2 ∧ m - m / 2 < m ∧ 1 ≤ m - m / 2 := by
  have h2 : 2 ≤ m := Nat.lt_of_le_of_ne h fun e => h1 e.symm
  have a := Nat.div_lt_self h Nat.one_lt_two
  have b := Nat.div_pos h2 Nat.two_pos
  exact ⟨h2, a, b, Nat.sub_lt h b, Nat.sub_pos_of_lt a⟩
theorem digR_len {n : Nat} : ∀ (m : Nat) (x : Int), 1 ≤ m → (digR n x m).length = m := by
  intro m
  induction m using Nat.strongRecOn with
  | ind m ih =>
    intro x h
    by_cases h1 : m = 1
    · subst h1; rw [digR_one]; rfl
    · obtain ⟨h2, a, b, c, d⟩ := halves h h1
      rw [digR_two h2, List.length_append, ih _ a _ b, ih _ c _ d]
      exact Nat.add_sub_cancel' (Nat.le_of_lt a)
theorem fdiv_pow {x : Int} {s : Nat} : x.fdiv (2 ^ s) = x / 2 ^ s := Int.fdiv_eq_ediv_of_nonneg _ (Int.le_of_lt (Int.pow_pos (by decide)))
theorem sh_nonneg {x : Int} {s : Nat} (h : 0 ≤ x) : 0 ≤ sh x s := by
  unfold sh; rw [fdiv_pow]; exact Int.ediv_nonneg h (Int.le_of_lt (Int.pow_pos (by decide)))
theorem lo_eq {x : Int} {s : Nat} (h : 0 ≤ x) : lo x s = x % 2 ^ s := by
  obtain ⟨n, rfl⟩ := Int.eq_ofNat_of_zero_le h
  have e : sh (n : Int) s * 2 ^ s = ((n / 2 ^ s * 2 ^ s : Nat) : Int) := by
    unfold sh; rw [fdiv_pow]; simp
  unfold lo
  rw [e]
  have tb : ∀ i, (n / 2 ^ s * 2 ^ s).testBit i = (decide (s ≤ i) && n.testBit i) := fun i => by
    rw [Nat.testBit_mul_two_pow, Nat.testBit_div_two_pow]
    by_cases hi : s ≤ i
    · simp [hi, Nat.sub_add_cancel hi]
    · simp [hi]
  have e4 : n &&& (n / 2 ^ s * 2 ^ s) = n / 2 ^ s * 2 ^ s := Nat.eq_of_testBit_eq fun i => by rw [Nat.testBit_and, tb]; cases n.testBit i <;> simp
  have e5 : (n : Int) % 2 ^ s = ((n % 2 ^ s : Nat) : Int) := by simp
  have e6 := Nat.div_add_mod n (2 ^ s)
  rw [Nat.mul_comm] at e6
  rw [bitXor_and, e5]
  generalize n / 2 ^ s * 2 ^ s = m at e4 e6
  have e2 : Builtin.bitAnd (n : Int) (m : Int) = (m : Int) := by
    show ((((n : Int).toNat &&& (m : Int).toNat : Nat)) : Int) = _
    rw [Int.toNat_natCast, Int.toNat_natCast, e4]
  rw [e2]
  lia
theorem bits_mono {x y : Int} (h0 : 0 ≤ y) (h : y ≤ x) : Builtin.Int.intBits y ≤ Builtin.Int.intBits x := by
  unfold Builtin.Int.intBits
  by_cases hy : y = 0
  · subst hy; simp
  · have hx : x ≠ 0 := fun e => hy (Int.le_antisymm (e ▸ h) h0)
    have h1 : y.natAbs ≤ x.natAbs := Int.ofNat_le.mp (by rw [Int.natAbs_of_nonneg h0, Int.natAbs_of_nonneg (Int.le_trans h0 h)]; exact h)
    have : y.natAbs.log2 ≤ x.natAbs.log2 := by
      rw [Nat.le_log2 (Int.natAbs_ne_zero.mpr hx)]
      exact Nat.le_trans (Nat.log2_self_le (Int.natAbs_ne_zero.mpr hy)) h1
    simp [hy, hx, this]
theorem sh_le {x : Int} {s : Nat} (h : 0 ≤ x) : sh x s ≤ x := by
  unfold sh; rw [fdiv_pow]; exact Int.ediv_le_self _ h
theorem lo_nonneg {x : Int} {s : Nat} (h : 0 ≤ x) : 0 ≤ lo x s := by
  rw [lo_eq h]; exact Int.emod_nonneg _ (Int.ne_of_gt (Int.pow_pos (by decide)))
theorem lo_le {x : Int} {s : Nat} (h : 0 ≤ x) : lo x s ≤ x := by
  rw [lo_eq h]
  have h1 := Int.emod_add_mul_ediv x (2 ^ s)
  have h2 : 0 ≤ 2 ^ s * (x / 2 ^ s) := Int.mul_nonneg (Int.le_of_lt (Int.pow_pos (by decide))) (Int.ediv_nonneg h (Int.le_of_lt (Int.pow_pos (by decide))))
  lia
theorem seg_join {α : Type} {ds D1 : List α} {l m r : Nat} (h1 : l ≤ ds.length) (h2 : D1.length = m) (h3 : l + m ≤ r) : (ds.take l ++ D1 ++ ds.drop (l + m)).take (l + m) = ds.take l ++ D1 ∧ (ds.take l ++ D1 ++ ds.drop (l + m)).drop r = ds.drop r := by
  have hl : (ds.take l ++ D1).length = l + m := by rw [List.length_append, List.length_take, h2, Nat.min_eq_left h1]
  constructor
  · exact List.take_left' hl
  · rw [List.drop_append, hl, List.drop_eq_nil_of_le (Nat.le_trans (Nat.le_of_eq hl) h3), List.drop_drop, List.nil_append, Nat.add_sub_cancel' h3]
structure Half (l r m N nn d : Nat) : Prop where
  k2 : 2 ≤ r - l
  m1 : 1 ≤ m
  m2 : m < r - l
  ml : l + m - l = m
  ll : l < l + m
  lr : l + m < r
  le : l + m ≤ r
  ln : l + m ≤ N
  l0 : l ≤ N
  mN : m ≤ N
  q1 : l + m - l ≤ 2 ^ d
  q2 : r - (l + m) ≤ 2 ^ d
  em : ((l : Int) + (r : Int)).fdiv (2 ^ (1 : Int).toNat) = ((l + m : Nat) : Int)
  es : (((l + m : Nat) : Int) - (l : Int)) * (nn : Int) = ((m * nn : Nat) : Int)
  ok : (((l + m : Nat) : Int) - (l : Int)).natAbs < 18446744073709551616
  sz : min l N + m + (N - (l + m)) = N
theorem half_up {k P : Nat} (h : k ≤ P * 2) : k - k / 2 ≤ P := by
  refine Nat.sub_le_iff_le_add.mpr ?_
  rcases Nat.lt_or_ge (k / 2) P with h1 | h1
  · have : k ≤ 2 * (k / 2) + 1 := Nat.le_of_lt_succ (Nat.lt_mul_div_succ k Nat.two_pos)
    rw [Nat.two_mul] at this
    exact Nat.le_trans this (Nat.add_comm P _ ▸ Nat.add_le_add_left h1 _)
  · exact Nat.le_trans h (Nat.mul_two P ▸ Nat.add_le_add_left h1 P)
theorem half_of {l r N nn d : Nat} (hrl : l + 2 ≤ r) (hr : r ≤ N) (hN : N ≤ 2 ^ 24) (hm : r - l ≤ 2 ^ (d + 1)) : ∃ m, (r - l) / 2 = m ∧ Half l r m N nn d := by
  obtain ⟨k, rfl⟩ := Nat.exists_eq_add_of_le (Nat.le_trans (Nat.le_add_right l 2) hrl)
  have hk : 2 ≤ k := Nat.le_of_add_le_add_left hrl
  have m2 := Nat.div_lt_self (Nat.lt_of_lt_of_le (by decide) hk) (show 1 < 2 by decide)
  have m1 := Nat.div_pos hk (by decide)
  have hm : k ≤ 2 ^ d * 2 := by rw [Nat.add_sub_cancel_left] at hm; exact hm
  have up := half_up hm
  have q1 : k / 2 ≤ 2 ^ d := Nat.div_le_of_le_mul (by rw [Nat.mul_comm]; exact hm)
  have em : ((l : Int) + ((l + k : Nat) : Int)).fdiv (2 ^ (1 : Int).toNat) = ((l + k / 2 : Nat) : Int) := by
    show (((l + (l + k) : Nat) : Int)).fdiv ((2 : Nat) : Int) = _
    rw [← Int.ofNat_fdiv, ← Nat.add_assoc, ← Nat.two_mul, Nat.mul_add_div (by decide)]
  have ed : (((l + k / 2 : Nat) : Int) - (l : Int)) = ((k / 2 : Nat) : Int) := by rw [Int.natCast_add, Int.add_comm, Int.add_sub_cancel]
  have es : (((l + k / 2 : Nat) : Int) - (l : Int)) * (nn : Int) = ((k / 2 * nn : Nat) : Int) := by rw [ed, Int.natCast_mul]
  have ln : l + k / 2 ≤ N := Nat.le_trans (Nat.le_of_lt (Nat.add_lt_add_left m2 l)) hr
  refine ⟨k / 2, by rw [Nat.add_sub_cancel_left], ?_, m1, ?_, Nat.add_sub_cancel_left .., Nat.lt_add_of_pos_right m1, Nat.add_lt_add_left m2 l, Nat.le_of_lt (Nat.add_lt_add_left m2 l), ln, Nat.le_trans (Nat.le_add_right _ _) ln, Nat.le_trans (Nat.le_add_left _ _) ln, ?_, ?_, em, es, ?_, ?_⟩
  · rw [Nat.add_sub_cancel_left]; exact hk
  · rw [Nat.add_sub_cancel_left]; exact m2
  · rw [Nat.add_sub_cancel_left]; exact q1
  · rw [Nat.add_sub_add_left]; exact up
  · rw [ed]; exact Nat.lt_of_le_of_lt (Nat.le_trans (Nat.le_trans (Nat.le_add_left _ _) ln) hN) (by decide)
  · rw [Nat.min_eq_left (Nat.le_trans (Nat.le_add_right _ _) ln), Nat.add_sub_cancel' ln]
theorem one_of {l r : Nat} (h : (l : Int) + 1 = r) : r = l + 1 := (Int.ofNat.inj h).symm
theorem two_of {l r : Nat} (h : l < r) (hc : ¬ (l : Int) + 1 = r) : l + 2 ≤ r := Nat.lt_of_le_of_ne h fun e => hc (by rw [← e]; rfl)
theorem no_two {l r : Nat} (h : l + 2 ≤ r) (hm : r - l ≤ 2 ^ 0) : False := absurd (Nat.le_trans (Nat.le_sub_of_add_le (Nat.add_comm _ _ ▸ h)) hm) (by decide)
theorem shl_room {a b : Nat} (h1 : a ≤ 2 ^ 26) (h2 : b ≤ 2 ^ 26) : (a : Int) + (b : Int) ≤ 2 ^ 27 := Int.le_trans (Int.ofNat_le.mpr (Nat.add_le_add h1 h2)) (by decide)
theorem lt62 {l N : Nat} (h : l ≤ N) (hN : N ≤ 2 ^ 24) : l < 2 ^ 62 := Nat.lt_of_le_of_lt (Nat.le_trans h hN) (by decide)
noncomputable def bodyOf : Stmt → List Stmt
  | .FunctionDef _ _ b _ _ _ _ _ _ _ => b
  | _ => []
noncomputable def posOf : Stmt → Pos
  | .FunctionDef _ _ _ _ _ _ _ _ _ p => p
  | _ => default
noncomputable def inSt (p : Program) (i k : Nat) : Stmt := (bodyOf (stAt p i)).getD k (.Pass default)
noncomputable def inFd (st : Stmt) (qual : Str) (clos : List (Str × Addr)) (doc pm : Value) (c' : Addr) (ctv : Value) : FuncData := match st with
  | .FunctionDef name args body _ _ _ scope _ _ _ => fnX name qual args body scope clos .none .none doc pm none (.ref c') ctv
  | _ => default
noncomputable def inV (st : Stmt) (qual : Str) (clos : List (Str × Addr)) : Vp := match st with
  | .FunctionDef name args body _ _ _ scope _ _ _ => cloV name qual args body scope clos
  | _ => offV
def CellAt (clos : List (Str × Addr)) (h : Heap) (x : Str) (v : Value) : Prop := ∃ c, clos.lookup x = some c ∧ h.IsCell c (some v)
def ClosOk (clos : List (Str × Addr)) (Z : Fz) (h : Heap) : Prop := ∀ x a, clos.lookup x = some a → Z a = none ∧ ∃ v, h.IsCell a v
noncomputable abbrev clos3 (a b c : Str) (c1 c2 c3 : Addr) : List (Str × Addr) := [(a, c1), (b, c2), (c, c3)]
noncomputable def qi2d : Str := sQ "_int2digits.<locals>.inner"
noncomputable abbrev ci2d (c1 c2 c3 : Addr) : List (Str × Addr) := clos3 (sQ "n") (sQ "inner") (sQ "a_digits") c1 c2 c3
noncomputable abbrev vi2d (c1 c2 c3 : Addr) : Vp := inV (inSt pw 6 1) qi2d (ci2d c1 c2 c3)
section
variable {C : Cx}
def InnI (C : Cx) (c1 c2 c3 D : Addr) (nn : Nat) (d : Nat) : Prop :=
  ∀ (A : Around) (s : Shared) (Z : Fz) (v vi vn : Value) (vs : List Value) (x : Int) (l r : Nat) (ds : List PV) (Q : Value → Shared → Prop) (E : Value → Shared → Prop),
    Room (d + 2) A → Inv C Z s → (vi2d c1 c2 c3).at_ Z v → ClosOk (ci2d c1 c2 c3) Z s.heap → CellAt (ci2d c1 c2 c3) s.heap (sQ "a_digits") (.ref D) →
    CellAt (ci2d c1 c2 c3) s.heap (sQ "inner") vi → (vi2d c1 c2 c3).at_ Z vi → CellAt (ci2d c1 c2 c3) s.heap (sQ "n") vn → Rd Z vn (.int nn) →
    Owned Z s.heap (D, ds) → l < r → r ≤ ds.length → ds.length ≤ 2 ^ 24 → ds.length * nn ≤ 2 ^ 26 → r - l ≤ 2 ^ d → 0 ≤ x → Builtin.Int.intBits x ≤ 2 ^ 25 → RdL Z vs [.int x, .int l, .int r] →
    (∀ Z' s', StepX C (· = D) Z s Z' s' → Owned Z' s'.heap (D, ds.take l ++ (digR nn x (r - l)).map .int ++ ds.drop r) → Q .none s') → wpAny (model C.prog C.w) A (call v vs) Q E s
theorem ClosOk.of {fd : FuncData} {L f : Addr} {nm oc : List Str} {sc : List (Str × NameKind)} {X : Addr → Prop} {ρ : List (Option Vp)} {ω : List (Addr × List PV)} {κ : Addr → Option Obj} {Z : Fz} {h : Heap} (H : FSp (callEnv fd L f) nm oc sc X ρ ω κ Z h) : ClosOk fd.closure Z h := fun x a e => H.cells x a e
theorem CellAt.of {fd : FuncData} {L f : Addr} {h : Heap} {x : Str} {v : Value} (y : VarAt (callEnv fd L f) h x v) (hk : fd.scope.names.lookup x = some .free) : CellAt fd.closure h x v := by
  rcases y.2 with ⟨q, _⟩ | ⟨_, c, e, r⟩
  · have : (callEnv fd L f).kindOf x = fd.scope.names.lookup x := rfl
    rw [this, hk] at q; cases q
  · exact ⟨c, e, r⟩
noncomputable def ownAsn (C : Cx) (D : Addr) (ds : List PV) : Asn C := ⟨fun Z h => Owned Z h (D, ds), fun I h x => by
  obtain ⟨hz, vs, m, e, r⟩ := h
  exact ⟨x.stillNone hz e (fun q => q), vs, m, x.keep _ _ e (fun q => q) (I.tab_fields e fun ps q => by cases q), r.le x.le⟩⟩
theorem eg_run {n : Nat} {X : Addr → Prop} {env : Env} {nm oc : List Str} {sc : List (Str × NameKind)} {ρ : List (Option Vp)} {ω : List (Addr × List PV)} {κ : Addr → Option Obj} {t : Sem Flow} {RA : Fz → Heap → Value → Prop} {A : Around} {s : Shared} {Z : Fz} {Q : Flow → Shared → Prop} {E : Value → Shared → Prop} (Ψ : Asn C)
    (h : EXG C n X (FS C env nm oc sc X ρ ω κ) t Ψ RA) (hA : Room n A) (I : Inv C Z s) (H : FSp env nm oc sc X ρ ω κ Z s.heap)
    (kn : ∀ Z' s', StepX C X Z s Z' s' → Ψ.at_ Z' s'.heap → Q .next s') (kr : ∀ v Z' s', StepX C X Z s Z' s' → RA Z' s'.heap v → Q (.ret v) s') : wpAny (model C.prog C.w) A t Q E s := h A s Z Q E hA I H kn kr
theorem ex_i2d {c1 c2 c3 D : Addr} {nn d : Nat} (ih : InnI C c1 c2 c3 D nn d) {X : Addr → Prop} {env : Env} {nm oc : List Str} {sc : List (Str × NameKind)} {ρ : List (Option Vp)} {κ : Addr → Option Obj} {R : Vp} {e1 e2 e3 : Expr} {p cpos epos : Pos} {x : Int} {l r : Nat} {ds : List PV}
    (h0 : ∀ {Z h}, FSp env nm oc sc X ρ [(D, ds)] κ Z h → ClosOk (ci2d c1 c2 c3) Z h) (hc : ∀ {h x v}, x ∈ [sQ "a_digits", sQ "inner", sQ "n"] → VarAt env h x v → CellAt (ci2d c1 c2 c3) h x v)
    (h1 : At nm ρ (sQ "a_digits") (isv (.ref D))) (h2 : At nm ρ (sQ "inner") (vi2d c1 c2 c3)) (h3 : At nm ρ (sQ "n") (is (.int nn)))
    (he : EL C (d + 2) (FS C env nm oc sc X ρ [(D, ds)] κ) (spliced (backTo cpos (starEach [e1, e2, e3] env))) [is (.int x), is (.int l), is (.int r)])
    (hlr : l < r) (hr : r ≤ ds.length) (hdl : ds.length ≤ 2 ^ 24) (hdn : ds.length * nn ≤ 2 ^ 26) (hm : r - l ≤ 2 ^ d) (hx : 0 ≤ x) (hb : Builtin.Int.intBits x ≤ 2 ^ 25)
    (hst : starEach [e1, e2, e3] env = (false, eval e1 env) :: starEach [e2, e3] env := by rfl) (hi : interactive env = false := by rfl) :
    EX C (d + 2) X (FS C env nm oc sc X ρ [(D, ds)] κ) (exec (.Expr (.Call (.Name (sQ "inner") p) [e1, e2, e3] [] cpos) epos) env)
      (FS C env nm oc sc X ρ [(D, ds.take l ++ (digR nn x (r - l)).map .int ++ ds.drop r)] κ) R := fun A s Z Q E hA I H kn kr => by
  rw [PySem.exec_Expr (hi := hi) (hs := rfl)]
  refine wpAny_bind (wpAny_standAt (wpAny_bind (wpAny_Call_NameR (ev_name (n := d + 2) h2 A s Z _ E hA I H fun v Z₁ s₁ x₁ hv => ?_))))
  have H₁ := (FS C env nm oc sc X ρ [(D, ds)] κ).stable I H x₁
  obtain ⟨fa, doc, pm, c', ctv, rfl, hz, hci⟩ := id hv
  refine callWith_def (fd := inFd (inSt pw 6 1) qi2d (ci2d c1 c2 c3) doc pm c' ctv) rfl (he A s₁ Z₁ _ E hA x₁.inv H₁ fun vs Z₂ s₂ x₂ hs => ⟨x₂.inv.heap _ _ (x₂.le _ _ hz), ?_⟩) hst
  have H₂ := (FS C env nm oc sc X ρ [(D, ds)] κ).stable x₁.inv H₁ x₂
  obtain ⟨va, ya, pa⟩ := h1.var H₂.vars
  cases pa
  obtain ⟨vi, yi, pi⟩ := h2.var H₂.vars
  obtain ⟨vn, yn, pn⟩ := h3.var H₂.vars
  have q1 := hc (.head _) ya
  have q2 := hc (.tail _ (.head _)) yi
  have q3 := hc (.tail _ (.tail _ (.head _))) yn
  have q0 := h0 H₂
  refine ih A s₂ Z₂ (.ref fa) vi vn vs x l r ds _ _ hA x₂.inv (Vp.mono _ x₂.le hv) q0 q1 q2 pi q3 pn (H₂.own _ (.head _)) hlr hr hdl hdn hm hx hb (Sat.rd (ds := [.int x, .int l, .int r]) hs) fun Z₃ s₃ x₃ ho => ?_
  obtain ⟨st, H₃⟩ := H₂.reown x₂.inv .here x₃ ho
  rw [dropValue_plain (by intro _ q; cases q)]
  exact wpAny_pure (kn Z₃ s₃ (((Step.to x₁).trans (Step.to x₂)).trans st) H₃)
theorem inn_step (hq : Quiet C) (c1 c2 c3 D : Addr) (nn : Nat) (hap : (ci2d c1 c2 c3).Pairwise fun x y => x.2 ≠ y.2) (d : Nat) (hd : d ≤ 24) (ih : ∀ d', d = d' + 1 → InnI C c1 c2 c3 D nn d') : InnI C c1 c2 c3 D nn d := by
  intro A s Z v vi vn vs x l r ds Q E hA I hv hcl ca ci hvi cn hvn ho hlr hr hdl hdn hm hx hb hvs k
  obtain ⟨fa, doc, pm, c', ctv, rfl, hz, hci⟩ := hv
  obtain ⟨v1, _, rfl, p1, hvs⟩ := rdli hvs
  obtain ⟨v2, _, rfl, p2, hvs⟩ := rdli hvs
  obtain ⟨v3, _, rfl, p3, hvs⟩ := rdli hvs
  obtain rfl := rdli hvs
  refine clo_enter (n := d) (fd := inFd (inSt pw 6 1) qi2d (ci2d c1 c2 c3) doc pm c' ctv) (xs := [sQ "x", sQ "L", sQ "R"]) (oc := [sQ "x", sQ "L", sQ "R", sQ "mid", sQ "shift", sQ "upper", sQ "lower"])
    (nm := [sQ "x", sQ "L", sQ "R", sQ "mid", sQ "shift", sQ "upper", sQ "lower", sQ "a_digits", sQ "inner", sQ "n"])
    (ρ := [some (is (.int x)), some (is (.int l)), some (is (.int r)), none, none, none, none, some (isv (.ref D)), some (vi2d c1 c2 c3), some (is (.int nn))]) (ω := [(D, ds)]) (sc := (inFd (inSt pw 6 1) qi2d (ci2d c1 c2 c3) doc pm c' ctv).scope.names) hq I hA hz rfl rfl hci rfl rfl rfl rfl rfl rfl rfl rfl rfl (by decide +kernel) hap hcl ?_ ?_ ?_ ?_ rfl rfl rfl
  · intro p hp; cases List.mem_singleton.mp hp; exact ho
  · simp
  · intro L h' hn hk
    obtain ⟨ca1, ca2, ca3⟩ := ca
    obtain ⟨ci1, ci2, ci3⟩ := ci
    obtain ⟨cn1, cn2, cn3⟩ := cn
    have kc : ∀ {c : Addr} {v : Value}, s.heap.IsCell c (some v) → h'.IsCell c (some v) := fun ⟨o, e, r⟩ => ⟨o, hk _ _ e, r⟩
    refine .va ⟨by decide +kernel, .inl ⟨rfl, _, hn, rfl⟩⟩ p1 (.va ⟨by decide +kernel, .inl ⟨rfl, _, hn, rfl⟩⟩ p2 (.va ⟨by decide +kernel, .inl ⟨rfl, _, hn, rfl⟩⟩ p3 (.un (.un (.un (.un (.va ⟨by decide +kernel, .inr ⟨.inr rfl, ca1, ca2, kc ca3⟩⟩ rfl
      (.va ⟨by decide +kernel, .inr ⟨.inr rfl, ci1, ci2, kc ci3⟩⟩ hvi (.va ⟨by decide +kernel, .inr ⟨.inr rfl, cn1, cn2, kc cn3⟩⟩ hvn .nil)))))))))
  · intro L X A' s₁ E' hA' I₁ st hX H
    refine eg_run (RA := fun Z h v => v = .none ∧ Owned Z h (D, ds.take l ++ (digR nn x (r - l)).map .int ++ ds.drop r)) (ownAsn C D (ds.take l ++ (digR nn x (r - l)).map .int ++ ds.drop r)) ?_ hA' I₁ H (fun Z' s' x' H' => ?_) fun v Z' s' x' ra => ?_
    rotate_left
    · exact k Z' s' (((Step.to st).trans x').hideY fun b hb => (hX b hb).imp id fun q => by simpa using q) H'
    · rw [ra.1]
      exact k Z' s' (((Step.to st).trans x').hideY fun b hb => (hX b hb).imp id fun q => by simpa using q) ra.2
    · clear k H
      apply eg_ifs
      · walk_at "ev"
      · intro hc
        have hrl := one_of (by simpa using hc)
        subst hrl
        apply eg_cons
        · apply ex_setitem
          · walk_at "at"
          · walk_at "ev"
          · walk_at "ev"
          · exact OU.here
          · exact hr
          · exact lt62 (Nat.le_of_lt hr) hdl
          · exact rfl
        apply eg_ret0
        intro Z h H
        refine ⟨rfl, ?_⟩
        have := H.own _ (.head _)
        rw [List.set_eq_take_append_cons_drop, if_pos (Nat.lt_of_succ_le hr)] at this
        rw [Nat.add_sub_cancel_left, digR_one, List.map_cons, List.map_nil, List.append_assoc, List.singleton_append]
        exact this
      · intro hc
        have hrl := two_of hlr (by simpa using hc)
        cases d with
        | zero => exact (no_two hrl hm).elim
        | succ d =>
        have ih := ih d rfl
        obtain ⟨m, hh, M⟩ := half_of (nn := nn) hrl hr hdl hm
        have hlen : (ds.take l ++ (digR nn (lo x (m * nn)) (l + m - l)).map PV.int ++ ds.drop (l + m)).length = ds.length := by
          rw [List.length_append, List.length_append, List.length_take, List.length_drop, List.length_map, M.ml, digR_len _ _ M.m1]; exact M.sz
        apply eg_cons
        · apply ex_assign
          · apply ev_d
            · apply ev_bin
              · walk_at "ev"
              · walk_at "ev"
              · apply op_shr_int (by decide)
            · exact congrArg PV.int M.em
          · walk_at "at"
          · exact ⟨by decide +kernel, by decide +kernel⟩
          · exact rfl
          · exact rfl
        apply eg_cons
        · apply ex_assign
          · apply ev_d
            · apply ev_bin
              · walk_at "ev"
              · walk_at "ev"
              · apply op_mul_int (mulOk_l M.ok)
            · exact congrArg PV.int M.es
          · walk_at "at"
          · exact ⟨by decide +kernel, by decide +kernel⟩
          · exact rfl
          · exact rfl
        apply eg_cons
        · apply ex_assign
          · apply ev_d (d' := .int (sh x (m * nn)))
            · apply ev_bin
              · walk_at "ev"
              · walk_at "ev"
              · apply op_shr_int (Int.natCast_nonneg _)
            · rfl
          · walk_at "at"
          · exact ⟨by decide +kernel, by decide +kernel⟩
          · exact rfl
          · exact rfl
        apply eg_cons
        · apply ex_assign
          · apply ev_d (d' := .int (lo x (m * nn)))
            · apply ev_bin
              · walk_at "ev"
              · apply ev_bin
                · walk_at "ev"
                · walk_at "ev"
                · apply op_shl_int (Int.natCast_nonneg _)
                  exact shl_room (Nat.le_trans (Nat.le_trans (bits_mono (sh_nonneg (s := m * nn) hx) (sh_le hx)) hb) (by decide)) (Nat.le_trans (Nat.mul_le_mul_right _ M.mN) hdn)
              · walk_at "op"
            · rfl
          · walk_at "at"
          · exact ⟨by decide +kernel, by decide +kernel⟩
          · exact rfl
          · exact rfl
        apply eg_cons
        · apply ex_i2d ih
          · intro Z h H; exact ClosOk.of H
          · intro h x v hm y
            simp only [List.mem_cons, List.not_mem_nil, or_false] at hm
            rcases hm with rfl | rfl | rfl <;> exact CellAt.of y rfl
          · walk_at "at"
          · walk_at "at"
          · walk_at "at"
          · walk_at "ev"
          · exact M.ll
          · exact M.ln
          · exact hdl
          · exact hdn
          · exact M.q1
          · exact lo_nonneg hx
          · exact Nat.le_trans (bits_mono (lo_nonneg hx) (lo_le hx)) hb
        apply eg_cons
        · apply ex_i2d ih
          · intro Z h H; exact ClosOk.of H
          · intro h x v hm y
            simp only [List.mem_cons, List.not_mem_nil, or_false] at hm
            rcases hm with rfl | rfl | rfl <;> exact CellAt.of y rfl
          · walk_at "at"
          · walk_at "at"
          · walk_at "at"
          · walk_at "ev"
          · exact M.lr
          · rw [hlen]; exact hr
          · rw [hlen]; exact hdl
          · rw [hlen]; exact hdn
          · exact M.q2
          · exact sh_nonneg hx
          · exact Nat.le_trans (bits_mono (sh_nonneg hx) (sh_le hx)) hb
        apply eg_end
        intro Z h H
        have ho := H.own _ (.head _)
        have hs := seg_join (ds := ds) (D1 := (digR nn (lo x (m * nn)) m).map PV.int) (l := l) (m := m) (r := r) M.l0 (by rw [List.length_map, digR_len _ _ M.m1]) M.le
        show Owned Z h (D, _)
        rw [M.ml, hs.1, hs.2] at ho
        rw [digR_two M.k2, hh, List.map_append, ← List.append_assoc (ds.take l)]
        rw [Nat.sub_add_eq] at ho
        exact ho
theorem inn_i2d (hq : Quiet C) (c1 c2 c3 D : Addr) (nn : Nat) (hap : (ci2d c1 c2 c3).Pairwise fun x y => x.2 ≠ y.2) : ∀ d, d ≤ 24 → InnI C c1 c2 c3 D nn d := by
  intro d
  induction d with
  | zero => exact fun hd => inn_step hq c1 c2 c3 D nn hap 0 hd fun d' h => nomatch h
  | succ d ih =>
    intro hd
    refine inn_step hq c1 c2 c3 D nn hap (d + 1) hd fun d' h => ?_
    cases h
    exact ih (Nat.le_of_succ_le hd)
end
section
open PySem.SeqAt
section
variable {C : Cx} {n : Nat} {X : Addr → Prop} {R : Vp} {env : Env} {nm oc : List Str} {sc : List (Str × NameKind)} {ω ω' : List (Addr × List PV)} {κ : Addr → Option Obj} {ρ : List (Option Vp)} {pos p p2 : Pos} {Φ : Asn C}
theorem rep_fold (v : Value) : ∀ (k : Nat) (a : Array Value), List.foldl (fun x1 x2 => x1 ++ x2) a (List.replicate k #[v]) = a ++ (List.replicate k v).toArray
  | 0, a => by simp
  | k + 1, a => by
    rw [List.replicate_succ, List.foldl_cons, rep_fold v k, List.replicate_succ]
    apply Array.toList_inj.mp
    simp
theorem RdL.rep {Z : Fz} {v : Value} {d : PV} (h : Rd Z v d) : ∀ k, RdL Z (List.replicate k v) (List.replicate k d)
  | 0 => .nil
  | k + 1 => .cons h (RdL.rep h k)
theorem rep_call {prog : Program} {w : World} {A : Around} {E : Value → Shared → Prop} {s : Shared} {l : Addr} {items : Array Value} {m : Nat} {x : Int} {u : Tok} {Q : Value → Shared → Prop}
    (hl : s.heap.get? l = some { cls := .type "list", dict := none, data := .seq items m, slots := #[] }) (hlo : -(2 ^ 63 : Int) ≤ x) (hhi : x < 2 ^ 63) (hsz : items.size * x.toNat ≤ 2 ^ 24)
    (h : Q (.ref s.heap.objs.size) { s with heap := s.heap.push { cls := .type "list", data := .seq (List.foldl (fun x1 x2 => x1 ++ x2) #[] (List.replicate (if items.isEmpty = true then 0 else x.toNat) items)) } }) :
    wpAny (model prog w) A (binaryOp .Mult (.ref l) (.int x u)) Q E s :=
  wpAny_binaryOp_repeat_ref (T := "list") (U := "int") (by decide) ⟨_, hl, rfl⟩ (fun s' => typeIs_int s' x u) noFill_list_mul F.fills_int_mul F.slot_int_rmul repeat_list F.slot_int_index.lookup
    (call_meets F.slot_int_rmul (typeIs_int s x u) F.entry_int_rmul (F.args_int_rmul_2 _ _) (int___rmul___int_list x u l items m)
      ⟨hl, rfl, ⟨_, hl, rfl⟩, call_meets F.slot_list_mul ⟨_, hl, rfl⟩ F.entry_list_mul (F.args_list_mul_2 _ _)
        (AutoListH.list___mul___list_int_3 l items m x u (by simp [Builtin.List.listFitsIndex]; lia) (by lia) (by simp [Builtin.List.listTooLong, sizeLine]; lia))
        ⟨hl, h⟩⟩)
theorem evn_rep {l r : Expr} {d : PV} {k : Nat} (hl : EV C n Φ (eval l env) (is (.list [d]))) (hr : EV C n Φ (eval r env) (is (.int k))) (hsz : k ≤ 2 ^ 24) : EVN C n Φ (eval (.BinOp l .Mult r pos) env) (fun a => isv (.ref a)) (List.replicate k d) := fun A s Z Q E hA I H kk => by
  refine wpAny_BinOp (hl A s Z _ E hA I H fun v Z₁ s₁ x₁ pv => ?_)
  refine hr A s₁ Z₁ _ E hA x₁.inv (Φ.stable I H x₁) fun u Z₂ s₂ x₂ pu => ?_
  obtain ⟨t, rfl⟩ := rdi pu
  obtain ⟨a, m, vs, rfl, hz, rr⟩ := rdi pv
  obtain ⟨v, _, rfl, hv, rr⟩ := rdli rr
  obtain rfl := rdli rr
  have hg := x₂.inv.heap _ _ (x₂.le _ _ hz)
  have e : List.foldl (fun x1 x2 => x1 ++ x2) #[] (List.replicate (if ([v].toArray).isEmpty = true then 0 else (k : Int).toNat) [v].toArray) = (List.replicate k v).toArray := by
    have := rep_fold v k #[]
    simpa using this
  refine rep_call hg (by lia) (by lia) (by simpa using hsz) ?_
  rw [e]
  have hf := gAb (Nat.le_refl s₂.heap.objs.size)
  have st := StepX.push (X := No) x₂.inv (o := { cls := .type "list", data := .seq (List.replicate k v).toArray }) (t := s₂.toks)
  have ho : Owned Z₂ (s₂.heap.push { cls := .type "list", data := .seq (List.replicate k v).toArray }) (s₂.heap.objs.size, List.replicate k d) := ⟨x₂.inv.fresh hf, List.replicate k v, 0, Heap.get?_push_size _ rfl, RdL.rep (hv.le x₂.le) k⟩
  exact kk s₂.heap.objs.size _ Z₂ _ ((x₁.trans x₂).trans st) (((x₁.trans x₂).gone hf).elim id fun q => q.elim) ho rfl
theorem ev_len_own {x : Str} {a : Addr} {ds : List PV} (hb : BltZ C (sQ "len") (.builtin "len")) (hx : At nm ρ x (isv (.ref a))) (hm : (a, ds) ∈ ω) (hsz : ds.length < 2 ^ 62) (hk : sc.lookup (sQ "len") = some .globalImplicit) :
    EV C n (FS C env nm oc sc X ρ ω κ) (eval (.Call (.Name (sQ "len") p) [.Name x p2] [] pos) env) (is (.int ds.length)) := fun A s Z Q E hA I H k => by
  refine wpAny_Call_NameR (ev_blt (n := n) hb hk (by decide) A s Z _ E hA I H fun v Z₁ s₁ x₁ pv => ?_)
  cases pv
  have H₁ := (FS C env nm oc sc X ρ ω κ).stable I H x₁
  refine callWith_builtin1 (el_cons (ev_name (n := n) hx) el_nil rfl A s₁ Z₁ _ E hA x₁.inv H₁ fun vs Z₂ s₂ x₂ hs => ?_) rfl rfl
  have H₂ := (FS C env nm oc sc X ρ ω κ).stable x₁.inv H₁ x₂
  obtain ⟨_, _, rfl, hv, hr⟩ := sati hs
  obtain rfl := sati hr
  cases hv
  obtain ⟨hz, vs, m, e, r⟩ := H₂.own _ hm
  have er := r.length
  refine Calls.call_len_list ⟨_, e, rfl, m, rfl⟩ (by rw [List.size_toArray, er]; exact Int.ofNat_lt.mpr (by show ds.length < 2 ^ 63; lia)) ?_
  rw [List.size_toArray, er]
  exact k _ Z₂ _ ((x₁.trans x₂).trans (Step.toks x₂.inv _)) (.int _ _)
end
end
inductive NestAt (C : Cx) (p : Program) (i k : Nat) (x qual : Str) : Prop where
  | mk (f : Addr) (doc pm : Value) (c P : Addr) (g : GlobZ C x (.ref f)) (z : C.Z0 f = some { cls := .type "function", data := .func (fdOf (stAt p i) x doc pm (.ref c)) }) (cz : CodeZ C (.ref c) x)
    (hd : HdZ C c P) (m : (P, posOf (inSt p i k), qual) ∈ C.tabs) (u : ∀ t ∈ C.tabs, t.1 = P → t = (P, posOf (inSt p i k), qual))
noncomputable def qd2i : Str := sQ "_digits2int.<locals>.inner"
structure DigK (C : Cx) : Prop where
  q : Quiet C
  B : TopB C
  len : BltZ C (sQ "len") (.builtin "len")
  divmod : BltZ C (sQ "divmod") (.builtin "divmod")
  reversed : BltZ C (sQ "reversed") (.type "reversed")
  lim : GlobD C (sQ "_DIV_LIMIT") (.int 4000)
  i2d : NestAt C pw 6 1 (sQ "_int2digits") qi2d
  d2i : NestAt C pw 7 0 (sQ "_digits2int") qd2i
  d2n1n : DefAt C pw 4 (sQ "_div2n1n")
  dpos : DefAt C pw 8 (sQ "_divmod_pos")
  idm : DefAt C pw 9 (sQ "int_divmod")
noncomputable def digM (n : Nat) (a : Int) : Nat := (Builtin.Int.intBits a + n - 1) / n
noncomputable def digF (n : Nat) (a : Int) : List Int := if a = 0 then [] else digR n a (digM n a)
theorem look3 {a b c x : Str} {c1 c2 c3 y : Addr} (e : (clos3 a b c c1 c2 c3).lookup x = some y) : (x = a ∧ y = c1) ∨ (x = b ∧ y = c2) ∨ (x = c ∧ y = c3) := by
  rw [List.lookup_cons, List.lookup_cons, List.lookup_cons] at e
  by_cases h1 : x = a
  · subst h1; simp at e; exact .inl ⟨rfl, e.symm⟩
  · have h1' : (x == a) = false := by simpa using h1
    rw [h1'] at e
    by_cases h2 : x = b
    · subst h2; simp at e; exact .inr (.inl ⟨rfl, e.symm⟩)
    · have h2' : (x == b) = false := by simpa using h2
      rw [h2'] at e
      by_cases h3 : x = c
      · subst h3; simp at e; exact .inr (.inr ⟨rfl, e.symm⟩)
      · have h3' : (x == c) = false := by simpa using h3
        rw [h3'] at e; cases e
section
variable {C : Cx}
theorem d_i2d (K : DigK C) (a : Int) (n : Nat) (ha : 0 ≤ a) (hn : 1 ≤ n) (hb : Builtin.Int.intBits a ≤ 2 ^ 23) (hnn : n ≤ 2 ^ 23) : DefC C 27 (sQ "_int2digits") [is (.int a), is (.int n)] (is (li (digF n a))) := by
  obtain ⟨f, doc, pm, c, P, hg, ho, hcd, hH, hT, hu⟩ := K.i2d
  have g1 := K.len
  have hm0 : digM n a * n ≤ Builtin.Int.intBits a + n - 1 := Nat.div_mul_le_self _ _
  have hm1 : digM n a ≤ digM n a * n := Nat.le_mul_of_pos_right _ hn
  refine ⟨f, hg, ⟨_, _, ho, rfl⟩, fn_def (n := 25) (sc := scOf (stAt pw 6)) (ρ := [some (is (.int a)), some (is (.int n)), none, none]) (nm := [sQ "a", sQ "n", sQ "a_digits", sQ "inner"]) (xs := [sQ "a", sQ "n"]) K.q ho rfl hcd rfl rfl rfl rfl rfl (bnd2 fun _ _ => by kernel_rfl) rfl (by decide +kernel) (by decide +kernel) (by decide +kernel) (by decide +kernel) rfl fun L X => ?_⟩
  apply ex_new (ρ := fun _ => []) (ρ' := fun D => [some (is (.int a)), some (is (.int n)), some (isv (.ref D)), none]) (ds := List.replicate (digM n a) (.int 0))
  · apply evn_rep
    · walk_at "ev"
    · apply ev_d
      · apply ev_bin
        · apply ev_bin
          · apply ev_bin
            · apply ev_meth0
              · walk_at "ev"
              · exact hasM_bitlen
              · exact fn_bitlen
              · exact rfl
              · exact rfl
            · walk_at "ev"
            · walk_at "op"
          · walk_at "ev"
          · walk_at "op"
        · walk_at "ev"
        · apply op_div_int
          · lia
          · exact PyProof.noPylong_small (by lia)
      · show PV.int _ = PV.int (digM n a)
        congr 1
        rw [Int.fdiv_eq_ediv_of_nonneg _ (by lia)]
        unfold digM
        generalize Builtin.Int.intBits a = b
        rw [Int.natCast_ediv]
        congr 1
        lia
    · lia
  · intro D; exact .there (.there .here)
  · decide +kernel
  · decide +kernel
  · exact rfl
  · intro D
    apply ex_cons
    · apply ex_nest (clos := ci2d (L + 1) (L + 3) (L + 2)) (ρ' := [some (is (.int a)), some (is (.int n)), some (isv (.ref D)), some (vi2d (L + 1) (L + 3) (L + 2))]) K.B hH hT hu
      · exact rfl
      · exact rfl
      · kernel_rfl
      · exact rfl
      · exact rfl
      · exact rfl
      · exact .there (.there (.there .here))
      · decide +kernel
      · decide +kernel
    have hap : (ci2d (L + 1) (L + 3) (L + 2)).Pairwise fun x y => x.2 ≠ y.2 := by simp
    have ih := inn_i2d K.q (L + 1) (L + 3) (L + 2) D n hap 24 (Nat.le_refl _)
    apply ex_ifs
    · apply tv_int
      · walk_at "ev"
      · intro _; rfl
    · intro hc
      have hc : a ≠ 0 := by simpa using hc
      have hbp : 1 ≤ Builtin.Int.intBits a := by unfold Builtin.Int.intBits; simp [hc]
      have hmp : 1 ≤ digM n a := Nat.div_pos (by lia) hn
      show EX _ _ _ _ (execs (_ :: _) _) _ _
      apply ex_cons
      · apply ex_i2d (x := a) (l := 0) (r := digM n a) ih
        · intro Z h H x y e
          rcases look3 e with ⟨rfl, rfl⟩ | ⟨rfl, rfl⟩ | ⟨rfl, rfl⟩
          · exact H.cells (sQ "n") (L + 1) rfl
          · exact H.cells (sQ "inner") (L + 3) rfl
          · exact H.cells (sQ "a_digits") (L + 2) rfl
        · intro h x v hm y
          simp only [List.mem_cons, List.not_mem_nil, or_false] at hm
          rcases hm with rfl | rfl | rfl
          · rcases y.2 with ⟨q, _⟩ | ⟨_, c, e, r⟩
            · cases q
            · exact ⟨c, e, r⟩
          · rcases y.2 with ⟨q, _⟩ | ⟨_, c, e, r⟩
            · cases q
            · exact ⟨c, e, r⟩
          · rcases y.2 with ⟨q, _⟩ | ⟨_, c, e, r⟩
            · cases q
            · exact ⟨c, e, r⟩
        · walk_at "at"
        · walk_at "at"
        · walk_at "at"
        · apply el_cons
          · walk_at "ev"
          · apply el_cons
            · apply ev_d
              · walk_at "ev"
              · rfl
            · apply el_cons
              · apply ev_d
                · apply ev_len_own (ds := List.replicate (digM n a) (.int 0)) g1
                  · walk_at "at"
                  · exact .head _
                  · rw [List.length_replicate]; lia
                  · exact rfl
                · rw [List.length_replicate]
              · walk_at "ev"
              · exact rfl
            · exact rfl
          · exact rfl
        · lia
        · rw [List.length_replicate]; exact Nat.le_refl _
        · rw [List.length_replicate]; lia
        · rw [List.length_replicate]; lia
        · lia
        · exact ha
        · lia
      apply ex_freeze .here (.same (.same (.it (.same .nil))))
      apply ex_ret
      apply ev_d
      · walk_at "ev"
      · show PV.list _ = _
        rw [digF, if_neg hc, List.take_zero, List.nil_append, Nat.sub_zero, List.drop_eq_nil_of_le (by rw [List.length_replicate]; exact Nat.le_refl _), List.append_nil]
    · intro hc
      have hc : a = 0 := by simpa using hc
      subst hc
      show EX _ _ _ _ (execs (_ :: _) _) _ _
      apply ex_freeze .here (.same (.same (.it (.same .nil))))
      apply ex_ret
      apply ev_d
      · walk_at "ev"
      · have : digM n 0 = 0 := by
          unfold digM
          show (0 + n - 1) / n = 0
          exact Nat.div_eq_of_lt (by lia)
        rw [this]; rfl
end
noncomputable def valD (n : Nat) : List Int → Int
  | [] => 0
  | d :: r => d + 2 ^ n * valD n r
theorem val_app (n : Nat) : ∀ a b : List Int, valD n (a ++ b) = valD n a + 2 ^ (n * a.length) * valD n b
  | [], b => by simp [valD]
  | d :: a, b => by
    rw [List.cons_append, valD, valD, val_app n a b, List.length_cons, Nat.mul_succ, Nat.add_comm, Int.pow_add, Int.mul_add, Int.mul_assoc]
    lia
noncomputable def seg (ds : List Int) (l r : Nat) : List Int := (ds.drop l).take (r - l)
theorem seg_len {ds : List Int} {l r : Nat} (h : r ≤ ds.length) : (seg ds l r).length = r - l := by
  unfold seg; rw [List.length_take, List.length_drop]; exact Nat.min_eq_left (Nat.sub_le_sub_right h l)
theorem seg_cut {ds : List Int} {l m r : Nat} (h1 : l ≤ m) (h2 : m ≤ r) : seg ds l r = seg ds l m ++ seg ds m r := by
  unfold seg
  have e : r - l = (m - l) + (r - m) := by rw [Nat.add_comm, Nat.sub_add_sub_cancel h2 h1]
  rw [e, List.take_add, List.drop_drop]
  rw [Nat.add_sub_cancel' h1]
theorem seg_one {ds : List Int} {l : Nat} {d : Int} (h : ds[l]? = some d) : seg ds l (l + 1) = [d] := by
  unfold seg
  have hl : l < ds.length := (List.getElem?_eq_some_iff.mp h).1
  rw [Nat.add_sub_cancel_left, List.drop_eq_getElem_cons hl]
  rw [List.getElem?_eq_getElem hl] at h
  cases h; rfl
theorem val_seg {n : Nat} {ds : List Int} {l m r : Nat} (h1 : l ≤ m) (h2 : m ≤ r) (h3 : r ≤ ds.length) : valD n (seg ds l r) = valD n (seg ds m r) * 2 ^ ((m - l) * n) + valD n (seg ds l m) := by
  rw [seg_cut h1 h2, val_app, seg_len (by lia), Nat.mul_comm, Int.mul_comm, Int.add_comm]
noncomputable abbrev cd2i (c1 c2 c3 : Addr) : List (Str × Addr) := clos3 (sQ "n") (sQ "inner") (sQ "digits") c1 c2 c3
noncomputable abbrev vd2i (c1 c2 c3 : Addr) : Vp := inV (inSt pw 7 0) qd2i (cd2i c1 c2 c3)
section
variable {C : Cx}
def InnD (C : Cx) (c1 c2 c3 : Addr) (nn : Nat) (ds : List Int) (d : Nat) : Prop :=
  ∀ (A : Around) (s : Shared) (Z : Fz) (v vi vn vd : Value) (vs : List Value) (l r : Nat) (Q : Value → Shared → Prop) (E : Value → Shared → Prop),
    Room (d + 2) A → Inv C Z s → (vd2i c1 c2 c3).at_ Z v → ClosOk (cd2i c1 c2 c3) Z s.heap → CellAt (cd2i c1 c2 c3) s.heap (sQ "digits") vd → Rd Z vd (li ds) →
    CellAt (cd2i c1 c2 c3) s.heap (sQ "inner") vi → (vd2i c1 c2 c3).at_ Z vi → CellAt (cd2i c1 c2 c3) s.heap (sQ "n") vn → Rd Z vn (.int nn) →
    l < r → r ≤ ds.length → r - l ≤ 2 ^ d → RdL Z vs [.int l, .int r] →
    (∀ v Z' s', Step C Z s Z' s' → Rd Z' v (.int (valD nn (seg ds l r))) → Q v s') → wpAny (model C.prog C.w) A (call v vs) Q E s
theorem ev_d2i {c1 c2 c3 : Addr} {nn d : Nat} {ds : List Int} (ih : InnD C c1 c2 c3 nn ds d) {X : Addr → Prop} {env : Env} {nm oc : List Str} {sc : List (Str × NameKind)} {ρ : List (Option Vp)} {ω : List (Addr × List PV)} {κ : Addr → Option Obj} {e1 e2 : Expr} {p cpos : Pos} {l r : Nat}
    (h0 : ∀ {Z h}, FSp env nm oc sc X ρ ω κ Z h → ClosOk (cd2i c1 c2 c3) Z h) (hc : ∀ {h x v}, x ∈ [sQ "digits", sQ "inner", sQ "n"] → VarAt env h x v → CellAt (cd2i c1 c2 c3) h x v)
    (h1 : At nm ρ (sQ "digits") (is (li ds))) (h2 : At nm ρ (sQ "inner") (vd2i c1 c2 c3)) (h3 : At nm ρ (sQ "n") (is (.int nn)))
    (he : EL C (d + 2) (FS C env nm oc sc X ρ ω κ) (spliced (backTo cpos (starEach [e1, e2] env))) [is (.int l), is (.int r)])
    (hlr : l < r) (hr : r ≤ ds.length) (hm : r - l ≤ 2 ^ d)
    (hst : starEach [e1, e2] env = (false, eval e1 env) :: starEach [e2] env := by rfl) :
    EV C (d + 2) (FS C env nm oc sc X ρ ω κ) (eval (.Call (.Name (sQ "inner") p) [e1, e2] [] cpos) env) (is (.int (valD nn (seg ds l r)))) := fun A s Z Q E hA I H k => by
  refine wpAny_Call_NameR (ev_name (n := d + 2) h2 A s Z _ E hA I H fun v Z₁ s₁ x₁ hv => ?_)
  have H₁ := (FS C env nm oc sc X ρ ω κ).stable I H x₁
  obtain ⟨fa, doc, pm, c', ctv, rfl, hz, hci⟩ := id hv
  refine callWith_def (fd := inFd (inSt pw 7 0) qd2i (cd2i c1 c2 c3) doc pm c' ctv) rfl (he A s₁ Z₁ _ E hA x₁.inv H₁ fun vs Z₂ s₂ x₂ hs => ⟨x₂.inv.heap _ _ (x₂.le _ _ hz), ?_⟩) hst
  have H₂ := (FS C env nm oc sc X ρ ω κ).stable x₁.inv H₁ x₂
  obtain ⟨va, ya, pa⟩ := h1.var H₂.vars
  obtain ⟨vi, yi, pi⟩ := h2.var H₂.vars
  obtain ⟨vn, yn, pn⟩ := h3.var H₂.vars
  have q1 := hc (.head _) ya
  have q2 := hc (.tail _ (.head _)) yi
  have q3 := hc (.tail _ (.tail _ (.head _))) yn
  exact ih A s₂ Z₂ (.ref fa) vi vn va vs l r _ _ hA x₂.inv (Vp.mono _ x₂.le hv) (h0 H₂) q1 pa q2 pi q3 pn hlr hr hm (Sat.rd (ds := [.int l, .int r]) hs) fun v Z₃ s₃ x₃ pv => k v Z₃ s₃ ((x₁.trans x₂).trans x₃) pv
theorem seq_nat {l N : Nat} (h : l < N) : seqIndex? (l : Int) N = some l := by
  unfold seqIndex?
  have h0 : ¬ (l : Int) < 0 := Int.not_lt.mpr (Int.natCast_nonneg _)
  simp [h0, h]
theorem ind_step (hq : Quiet C) (c1 c2 c3 : Addr) (nn : Nat) (ds : List Int) (hap : (cd2i c1 c2 c3).Pairwise fun x y => x.2 ≠ y.2) (hdl : ds.length ≤ 2 ^ 24) (hdn : ds.length * nn ≤ 2 ^ 26) (hB : ∀ l r, r ≤ ds.length → Builtin.Int.intBits (valD nn (seg ds l r)) ≤ 2 ^ 26)
    (d : Nat) (hd : d ≤ 24) (ih : ∀ d', d = d' + 1 → InnD C c1 c2 c3 nn ds d') : InnD C c1 c2 c3 nn ds d := by
  intro A s Z v vi vn vd vs l r Q E hA I hv hcl ca hvd ci hvi cn hvn hlr hr hm hvs k
  obtain ⟨fa, doc, pm, c', ctv, rfl, hz, hci⟩ := hv
  obtain ⟨v1, _, rfl, p1, hvs⟩ := rdli hvs
  obtain ⟨v2, _, rfl, p2, hvs⟩ := rdli hvs
  obtain rfl := rdli hvs
  refine clo_enter (n := d) (fd := inFd (inSt pw 7 0) qd2i (cd2i c1 c2 c3) doc pm c' ctv) (xs := [sQ "L", sQ "R"]) (oc := [sQ "L", sQ "R", sQ "mid", sQ "shift"])
    (nm := [sQ "L", sQ "R", sQ "mid", sQ "shift", sQ "digits", sQ "inner", sQ "n"])
    (ρ := [some (is (.int l)), some (is (.int r)), none, none, some (is (li ds)), some (vd2i c1 c2 c3), some (is (.int nn))]) (ω := []) (sc := (inFd (inSt pw 7 0) qd2i (cd2i c1 c2 c3) doc pm c' ctv).scope.names) hq I hA hz rfl rfl hci rfl rfl rfl rfl rfl rfl rfl rfl rfl (by decide +kernel) hap hcl (fun _ h => nomatch h) List.Pairwise.nil ?_ ?_ rfl rfl rfl
  · intro L h' hn hk
    obtain ⟨ca1, ca2, ca3⟩ := ca
    obtain ⟨ci1, ci2, ci3⟩ := ci
    obtain ⟨cn1, cn2, cn3⟩ := cn
    have kc : ∀ {c : Addr} {v : Value}, s.heap.IsCell c (some v) → h'.IsCell c (some v) := fun ⟨o, e, r⟩ => ⟨o, hk _ _ e, r⟩
    refine .va ⟨by decide +kernel, .inl ⟨rfl, _, hn, rfl⟩⟩ p1 (.va ⟨by decide +kernel, .inl ⟨rfl, _, hn, rfl⟩⟩ p2 (.un (.un (.va ⟨by decide +kernel, .inr ⟨.inr rfl, ca1, ca2, kc ca3⟩⟩ hvd
      (.va ⟨by decide +kernel, .inr ⟨.inr rfl, ci1, ci2, kc ci3⟩⟩ hvi (.va ⟨by decide +kernel, .inr ⟨.inr rfl, cn1, cn2, kc cn3⟩⟩ hvn .nil))))))
  · intro L X A' s₁ E' hA' I₁ st hX H
    refine eg_run (RA := fun Z h v => Rd Z v (.int (valD nn (seg ds l r)))) (botA C) ?_ hA' I₁ H (fun Z' s' x' H' => H'.elim) fun v Z' s' x' ra => ?_
    rotate_left
    · exact k v Z' s' (((Step.to st).trans x').hide fun b hb => (hX b hb).elim id fun q => nomatch q) ra
    · clear k H
      apply eg_ifs
      · walk_at "ev"
      · intro hc
        have hrl := one_of (by simpa using hc)
        subst hrl
        have hlt : l < ds.length := hr
        have hget : ds[l]? = some ds[l] := List.getElem?_eq_getElem hlt
        apply eg_ret (P := is (.int ds[l]))
        · apply ev_sub
          · walk_at "ev"
          · walk_at "ev"
          · apply op_item_list (j := l)
            · rw [List.length_map]; exact seq_nat hlt
            · rw [List.getElem?_map, hget]; rfl
            · rw [List.length_map]; exact lt62 (Nat.le_refl _) hdl
        · intro Z h v H p
          rw [seg_one hget]
          show Rd Z v (.int (ds[l] + 2 ^ nn * 0))
          rw [Int.mul_zero, Int.add_zero]; exact p
      · intro hc
        have hrl := two_of hlr (by simpa using hc)
        cases d with
        | zero => exact (no_two hrl hm).elim
        | succ d =>
        have ih := ih d rfl
        obtain ⟨m, hh, M⟩ := half_of (nn := nn) hrl hr hdl hm
        apply eg_cons
        · apply ex_assign
          · apply ev_d
            · apply ev_bin
              · walk_at "ev"
              · walk_at "ev"
              · apply op_shr_int (by decide)
            · exact congrArg PV.int M.em
          · walk_at "at"
          · exact ⟨by decide +kernel, by decide +kernel⟩
          · exact rfl
          · exact rfl
        apply eg_cons
        · apply ex_assign
          · apply ev_d
            · apply ev_bin
              · walk_at "ev"
              · walk_at "ev"
              · apply op_mul_int (mulOk_l M.ok)
            · exact congrArg PV.int M.es
          · walk_at "at"
          · exact ⟨by decide +kernel, by decide +kernel⟩
          · exact rfl
          · exact rfl
        apply eg_ret (P := is (.int (valD nn (seg ds l r))))
        · apply ev_d
          · apply ev_bin
            · apply ev_bin
              · apply ev_d2i ih
                · intro Z h H; exact ClosOk.of H
                · intro h x v hm y
                  simp only [List.mem_cons, List.not_mem_nil, or_false] at hm
                  rcases hm with rfl | rfl | rfl <;> exact CellAt.of y rfl
                · walk_at "at"
                · walk_at "at"
                · walk_at "at"
                · walk_at "ev"
                · exact M.lr
                · exact hr
                · exact M.q2
              · walk_at "ev"
              · apply op_shl_int (Int.natCast_nonneg _)
                exact shl_room (hB (l + m) r hr) (Nat.le_trans (Nat.mul_le_mul_right _ M.mN) hdn)
            · apply ev_d2i ih
              · intro Z h H; exact ClosOk.of H
              · intro h x v hm y
                simp only [List.mem_cons, List.not_mem_nil, or_false] at hm
                rcases hm with rfl | rfl | rfl <;> exact CellAt.of y rfl
              · walk_at "at"
              · walk_at "at"
              · walk_at "at"
              · walk_at "ev"
              · exact M.ll
              · exact M.ln
              · exact M.q1
            · walk_at "op"
          · have := val_seg (n := nn) (ds := ds) (Nat.le_add_right l m) M.le hr
            rw [M.ml] at this
            rw [this]
            show PV.int (_ * 2 ^ (((m * nn : Nat) : Int)).toNat + _) = _
            rw [Int.toNat_natCast]
        · intro Z h v H p
          exact p
theorem ind_all (hq : Quiet C) (c1 c2 c3 : Addr) (nn : Nat) (ds : List Int) (hap : (cd2i c1 c2 c3).Pairwise fun x y => x.2 ≠ y.2) (hdl : ds.length ≤ 2 ^ 24) (hdn : ds.length * nn ≤ 2 ^ 26) (hB : ∀ l r, r ≤ ds.length → Builtin.Int.intBits (valD nn (seg ds l r)) ≤ 2 ^ 26) :
    ∀ d, d ≤ 24 → InnD C c1 c2 c3 nn ds d := by
  intro d
  induction d with
  | zero => exact fun hd => ind_step hq c1 c2 c3 nn ds hap hdl hdn hB 0 hd fun d' h => by lia
  | succ d ih =>
    intro hd
    refine ind_step hq c1 c2 c3 nn ds hap hdl hdn hB (d + 1) hd fun d' h => ?_
    cases h
    exact ih (Nat.le_of_succ_le hd)
theorem d_d2i (K : DigK C) (ds : List Int) (n : Nat) (hdl : ds.length ≤ 2 ^ 24) (hdn : ds.length * n ≤ 2 ^ 26) (hB : ∀ l r, r ≤ ds.length → Builtin.Int.intBits (valD n (seg ds l r)) ≤ 2 ^ 26) :
    DefC C 27 (sQ "_digits2int") [is (li ds), is (.int n)] (is (.int (valD n ds))) := by
  obtain ⟨f, doc, pm, c, P, hg, ho, hcd, hH, hT, hu⟩ := K.d2i
  have g1 := K.len
  refine ⟨f, hg, ⟨_, _, ho, rfl⟩, fn_def (n := 25) (sc := scOf (stAt pw 7)) (ρ := [some (is (li ds)), some (is (.int n)), none]) (nm := [sQ "digits", sQ "n", sQ "inner"]) (xs := [sQ "digits", sQ "n"]) K.q ho rfl hcd rfl rfl rfl rfl rfl (bnd2 fun _ _ => by kernel_rfl) rfl (by decide +kernel) (by decide +kernel) (by decide +kernel) (by decide +kernel) rfl fun L X => ?_⟩
  apply ex_cons
  · apply ex_nest (clos := cd2i (L + 2) (L + 3) (L + 1)) (ρ' := [some (is (li ds)), some (is (.int n)), some (vd2i (L + 2) (L + 3) (L + 1))]) K.B hH hT hu
    · exact rfl
    · exact rfl
    · kernel_rfl
    · exact rfl
    · exact rfl
    · exact rfl
    · exact .there (.there .here)
    · decide +kernel
    · decide +kernel
  have hap : (cd2i (L + 2) (L + 3) (L + 1)).Pairwise fun x y => x.2 ≠ y.2 := by simp
  have ih := ind_all K.q (L + 2) (L + 3) (L + 1) n ds hap hdl hdn hB 24 (Nat.le_refl _)
  apply ex_ret
  apply ev_ifexp
  · apply tv_list
    · walk_at "ev"
    · rw [List.length_map]; exact lt62 (Nat.le_refl _) hdl
    · intro _; rfl
  · intro hc
    have hl : 0 < ds.length := by
      cases ds with
      | nil => cases hc
      | cons a b => exact Nat.succ_pos _
    apply ev_d
    · apply ev_d2i (l := 0) (r := ds.length) ih
      · intro Z h H x y e
        rcases look3 e with ⟨rfl, rfl⟩ | ⟨rfl, rfl⟩ | ⟨rfl, rfl⟩
        · exact H.cells (sQ "n") (L + 2) rfl
        · exact H.cells (sQ "inner") (L + 3) rfl
        · exact H.cells (sQ "digits") (L + 1) rfl
      · intro h x v hm y
        simp only [List.mem_cons, List.not_mem_nil, or_false] at hm
        rcases hm with rfl | rfl | rfl
        · rcases y.2 with ⟨q, _⟩ | ⟨_, c, e, r⟩
          · cases q
          · exact ⟨c, e, r⟩
        · rcases y.2 with ⟨q, _⟩ | ⟨_, c, e, r⟩
          · cases q
          · exact ⟨c, e, r⟩
        · rcases y.2 with ⟨q, _⟩ | ⟨_, c, e, r⟩
          · cases q
          · exact ⟨c, e, r⟩
      · walk_at "at"
      · walk_at "at"
      · walk_at "at"
      · apply el_cons
        · apply ev_d
          · walk_at "ev"
          · rfl
        · apply el_cons
          · apply ev_d
            · apply ev_callBt
              · exact g1
              · walk_at "ev"
              · exact fn_len_list (by rw [List.length_map]; exact lt62 (Nat.le_refl _) hdl)
              · exact rfl
              · exact rfl
              · exact rfl
              · exact rfl
            · rw [List.length_map]
          · walk_at "ev"
          · exact rfl
        · exact rfl
      · exact hl
      · exact Nat.le_refl _
      · lia
    · unfold seg
      rw [List.drop_zero, Nat.sub_zero, List.take_length]
  · intro hc
    have : ds = [] := by
      cases ds with
      | nil => rfl
      | cons a b => cases hc
    subst this
    apply ev_d
    · walk_at "ev"
    · rfl
end
section
open PySem.SeqAt
section
variable {C : Cx} {n : Nat} {X : Addr → Prop} {R : Vp} {env : Env} {nm oc : List Str} {sc : List (Str × NameKind)} {ω ω' : List (Addr × List PV)} {κ : Addr → Option Obj} {ρ : List (Option Vp)} {pos p p2 : Pos} {Φ : Asn C}
theorem RdL.rev {Z : Fz} : ∀ {vs : List Value} {ds : List PV}, RdL Z vs ds → RdL Z vs.reverse ds.reverse
  | _, _, .nil => .nil
  | _, _, .cons h r => by rw [List.reverse_cons, List.reverse_cons]; exact (RdL.rev r).append (.cons h .nil)
theorem ex_reverse {r : Str} {p1 apos cpos epos : Pos} {a : Addr} {ds : List PV} (hr : At nm ρ r (isv (.ref a))) (u : OU ω a ds ds.reverse ω') (hsz : ds.length ≤ sizeLine)
    (hbase : attributeBase (.Name r p1) "reverse" env (eval (.Name r p1) env) = eval (.Name r p1) env := by rfl) (hline : (apos.endLine == cpos.line) = true := by rfl) (hi : interactive env = false := by rfl) :
    EX C n X (FS C env nm oc sc X ρ ω κ) (exec (.Expr (.Call (.Attribute (.Name r p1) "reverse" apos) [] [] cpos) epos) env) (FS C env nm oc sc X ρ ω' κ) R := fun A s Z Q E hA I H kn kr => by
  rw [PySem.exec_Expr (hi := hi) (hs := rfl)]
  refine wpAny_bind (wpAny_standAt (wpAny_bind (wpAny_Call_method0_late hbase hline (ev_name (n := n) hr A s Z _ E hA I H fun v Z₁ s₁ x₁ pv => ?_))))
  cases pv
  have H₁ := (FS C env nm oc sc X ρ ω κ).stable I H x₁
  obtain ⟨hz, vs, mm, e, rr⟩ := H₁.own _ u.mem
  refine ⟨"list", "list.reverse", F.plainAttrs_list, F.slot_list_reverse, F.type_list_reverse, ⟨_, e, rfl⟩, fun b hb => ?_, ?_⟩
  · cases hb; exact ⟨_, e, rfl⟩
  · refine P.reverse_list (items := vs.toArray) (n := mm) e ?_ (by rw [List.size_toArray, rr.length]; exact hsz)
    obtain ⟨n', hd'⟩ := Obj.data_mapSeq (o := { cls := .type "list", data := .seq vs.toArray mm }) rfl (fun x => x.reverse)
    obtain ⟨st, H₂⟩ := H₁.setOwn (t := s₁.toks) (h' := s₁.heap.update a (Obj.mapSeq fun x => x.reverse)) x₁.inv u (Heap.SameBut.update ..) (vs' := vs.reverse) ⟨_, by
      rw [Heap.get?_update_self _ e (Obj.isFreed_of_seq hd')]
      simp only [Obj.mapSeq, List.reverse_toArray]; rfl⟩ (RdL.rev rr)
    rw [dropValue_plain (by intro _ q; cases q)]
    exact wpAny_pure (kn Z₁ _ ((Step.to x₁).trans st) H₂)
end
end
theorem pow_pos2 (n : Nat) : (0 : Int) < 2 ^ n := Int.pow_pos (by decide)
theorem val_nn {n : Nat} : ∀ {ds : List Int}, (∀ d ∈ ds, 0 ≤ d) → 0 ≤ valD n ds
  | [], _ => Int.le_refl 0
  | d :: ds, h => by
    have h1 := h d (.head _)
    have h2 := val_nn (n := n) (ds := ds) fun x hx => h x (.tail _ hx)
    have h3 := Int.mul_nonneg (Int.le_of_lt (pow_pos2 n)) h2
    exact Int.add_nonneg h1 h3
theorem val_drop {n : Nat} {ds : List Int} (h : ∀ d ∈ ds, 0 ≤ d) (k : Nat) : valD n (ds.drop k) ≤ valD n ds := by
  have e := val_app n (ds.take k) (ds.drop k)
  rw [List.take_append_drop] at e
  have h1 := val_nn (n := n) (ds := ds.take k) fun x hx => h x (List.mem_of_mem_take hx)
  have h2 := val_nn (n := n) (ds := ds.drop k) fun x hx => h x (List.mem_of_mem_drop hx)
  have h3 := pow_pos2 (n * (ds.take k).length)
  have h4 : 1 * valD n (ds.drop k) ≤ 2 ^ (n * (ds.take k).length) * valD n (ds.drop k) := Int.mul_le_mul_of_nonneg_right h3 h2
  rw [Int.one_mul] at h4
  rw [e]
  exact Int.le_trans h4 (Int.le_add_of_nonneg_left h1)
theorem val_take {n : Nat} {ds : List Int} (h : ∀ d ∈ ds, 0 ≤ d) (k : Nat) : valD n (ds.take k) ≤ valD n ds := by
  have e := val_app n (ds.take k) (ds.drop k)
  rw [List.take_append_drop] at e
  have h2 := val_nn (n := n) (ds := ds.drop k) fun x hx => h x (List.mem_of_mem_drop hx)
  have h4 := Int.mul_nonneg (Int.le_of_lt (pow_pos2 (n * (ds.take k).length))) h2
  rw [e]
  exact Int.le_add_of_nonneg_right h4
theorem val_seg_le {n : Nat} {ds : List Int} (h : ∀ d ∈ ds, 0 ≤ d) (l r : Nat) : 0 ≤ valD n (seg ds l r) ∧ valD n (seg ds l r) ≤ valD n ds :=
  ⟨val_nn fun x hx => h x (List.mem_of_mem_drop (List.mem_of_mem_take hx)), Int.le_trans (val_take (fun x hx => h x (List.mem_of_mem_drop hx)) _) (val_drop h l)⟩
theorem digR_ok (n : Nat) : ∀ (m : Nat) (x : Int), 1 ≤ m → 0 ≤ x → (∀ d ∈ digR n x m, 0 ≤ d) ∧ valD n (digR n x m) = x := by
  intro m
  induction m using Nat.strongRecOn with
  | ind m ih =>
    intro x h hx
    by_cases h1 : m = 1
    · subst h1; rw [digR_one]; exact ⟨fun d hd => by rw [List.mem_singleton.mp hd]; exact hx, by show x + 2 ^ n * 0 = x; rw [Int.mul_zero, Int.add_zero]⟩
    · obtain ⟨h2, a, b, c, d⟩ := halves h h1
      rw [digR_two h2]
      have p1 := ih (m / 2) a (lo x (m / 2 * n)) b (lo_nonneg hx)
      have p2 := ih (m - m / 2) c (sh x (m / 2 * n)) d (sh_nonneg hx)
      refine ⟨fun d hd => (List.mem_append.mp hd).elim (p1.1 d) (p2.1 d), ?_⟩
      rw [val_app, p1.2, p2.2, digR_len _ _ b, lo_eq hx, Nat.mul_comm n]
      unfold sh
      rw [fdiv_pow]
      exact Int.emod_add_mul_ediv _ _
theorem digM_pos {n : Nat} {a : Int} (hn : 1 ≤ n) (ha : a ≠ 0) : 1 ≤ digM n a := by
  have hbp : 1 ≤ Builtin.Int.intBits a := by unfold Builtin.Int.intBits; simp [ha]
  exact Nat.div_pos (Nat.le_sub_of_add_le (Nat.add_comm n 1 ▸ Nat.add_le_add_right hbp n)) hn
theorem digF_ok {n : Nat} {a : Int} (hn : 1 ≤ n) (ha : 0 ≤ a) : (∀ d ∈ digF n a, 0 ≤ d) ∧ valD n (digF n a) = a := by
  unfold digF
  by_cases h : a = 0
  · rw [if_pos h]; exact ⟨(fun d hd => nomatch hd), h.symm⟩
  · rw [if_neg h]; exact digR_ok n _ a (digM_pos hn h) ha
theorem digF_len {n : Nat} {a : Int} (hn : 1 ≤ n) : (digF n a).length ≤ digM n a := by
  unfold digF
  by_cases h : a = 0
  · rw [if_pos h]; exact Nat.zero_le _
  · rw [if_neg h, digR_len _ _ (digM_pos hn h)]; exact Nat.le_refl _
noncomputable def stepQ (n : Nat) (b : Int) (σ : Int × List Int) (d : Int) : Int × List Int := ((σ.1 * 2 ^ n + d).fmod b, σ.2 ++ [(σ.1 * 2 ^ n + d).fdiv b])
noncomputable def runQ (n : Nat) (b : Int) : List Int → Int × List Int
  | [] => (0, [])
  | d :: ds => stepQ n b (runQ n b ds) d
theorem runQ_ok {n : Nat} {b : Int} (hb : 0 < b) : ∀ {ds : List Int}, (∀ d ∈ ds, 0 ≤ d) → valD n (runQ n b ds).2.reverse * b + (runQ n b ds).1 = valD n ds ∧ 0 ≤ (runQ n b ds).1 ∧ (runQ n b ds).1 < b ∧ (runQ n b ds).2.length = ds.length ∧ ∀ q ∈ (runQ n b ds).2, 0 ≤ q
  | [], _ => ⟨by simp [runQ, valD], Int.le_refl 0, hb, rfl, fun q h => nomatch h⟩
  | d :: ds, h => by
    obtain ⟨i1, i2, i3, i4, i5⟩ := runQ_ok (n := n) hb (ds := ds) fun x hx => h x (.tail _ hx)
    have hd := h d (.head _)
    rw [runQ]
    generalize runQ n b ds = σ at i1 i2 i3 i4 i5
    obtain ⟨r, qs⟩ := σ
    simp only [stepQ] at i1 i2 i3 i4 i5 ⊢
    have ht : 0 ≤ r * 2 ^ n + d := Int.add_nonneg (Int.mul_nonneg i2 (Int.le_of_lt (pow_pos2 n))) hd
    have e := Int.mul_fdiv_add_fmod (r * 2 ^ n + d) b
    have hq : 0 ≤ (r * 2 ^ n + d).fdiv b := Int.fdiv_nonneg ht (Int.le_of_lt hb)
    refine ⟨?_, Int.fmod_nonneg_of_pos _ hb, Int.fmod_lt_of_pos _ hb, by simp [i4], fun q hq' => ?_⟩
    · rw [List.reverse_append, List.reverse_singleton, List.singleton_append, valD, valD, ← i1]
      generalize (r * 2 ^ n + d).fdiv b = q at e
      generalize (r * 2 ^ n + d).fmod b = f at e
      generalize valD n qs.reverse = v
      generalize (2 : Int) ^ n = p at e
      rw [Int.add_mul, Int.mul_add, ← Int.mul_assoc p v b, Int.mul_comm p r, Int.mul_comm q b]
      lia
    · rcases List.mem_append.mp hq' with hq' | hq'
      · exact i5 q hq'
      · rw [List.mem_singleton.mp hq']; exact hq
theorem nopy {x y : Int} (h : Builtin.Int.intBits x ≤ Builtin.Int.intBits y + 4000) : Builtin.divisionGoesByPylong x y = false := by
  unfold Builtin.divisionGoesByPylong
  unfold Builtin.Int.intBits at h
  by_cases hx : x = 0
  · subst hx; simp
  · by_cases hy : y = 0
    · subst hy; simp
    · simp only [beq_iff_eq, hx, hy, if_false] at h ⊢
      rw [Bool.and_eq_false_iff]
      right
      rw [decide_eq_false_iff_not]
      lia
section
variable {C : Cx}
theorem d_d2n1n (K : DigK C) (a b : Int) (n : Nat) (hb : b ≠ 0) (h1 : Builtin.Int.intBits a ≤ n + 4000) (h2 : Builtin.divisionGoesByPylong a b = false) : DefC C 2 (sQ "_div2n1n") [is (.int a), is (.int b), is (.int n)] (is (.tup [.int (a.fdiv b), .int (a.fmod b)])) := by
  obtain ⟨f, q, doc, pm, cd, hg, ho, hcd⟩ := K.d2n1n
  have g1 := K.lim
  have g2 := K.divmod
  refine ⟨f, hg, ⟨_, _, ho, rfl⟩, fn_def (n := 0) (sc := scOf (stAt pw 4)) (ρ := [some (is (.int a)), some (is (.int b)), some (is (.int n))]) (nm := [sQ "a", sQ "b", sQ "n"]) (xs := [sQ "a", sQ "b", sQ "n"]) K.q ho rfl hcd rfl rfl rfl rfl rfl (bnd3 fun _ _ _ => by kernel_rfl) rfl (by decide +kernel) (by decide +kernel) (by decide +kernel) (by decide +kernel) rfl fun L X => ?_⟩
  apply ex_ifs
  · apply tv_cmp
    · apply ev_bin
      · apply ev_meth0
        · walk_at "ev"
        · exact hasM_bitlen
        · exact fn_bitlen
        · exact rfl
        · exact rfl
      · walk_at "ev"
      · walk_at "op"
    · walk_at "ev"
    · walk_at "op"
    · exact rfl
  · intro _
    show EX _ _ _ _ (execs (_ :: _) _) _ _
    apply ex_ret
    apply ev_callBt
    · exact g2
    · walk_at "ev"
    · exact fn_divmod hb h2
    · exact rfl
    · exact rfl
    · exact rfl
    · exact rfl
  · intro h
    rw [decide_eq_false_iff_not] at h
    lia
local macro_rules | `(tactic| walk_at "def") => `(tactic| fail)
theorem drop_rev {l : List Int} {i : Nat} {k : Int} (h : l.reverse[i]? = some k) : l.drop (l.length - (i + 1)) = k :: l.drop (l.length - i) := by
  have hi : i < l.length := by have := (List.getElem?_eq_some_iff.mp h).1; simpa using this
  have hj : l.length - (i + 1) < l.length := Nat.sub_lt (Nat.lt_of_le_of_lt (Nat.zero_le _) hi) (Nat.succ_pos i)
  rw [List.drop_eq_getElem_cons hj, show l.length - (i + 1) + 1 = l.length - i from Nat.sub_add_cancel (Nat.sub_pos_of_lt hi)]
  rw [List.getElem?_eq_getElem (by simpa using hi), List.getElem_reverse] at h
  cases h
  congr 2
  rw [Nat.add_comm i 1]; exact Nat.sub_add_eq ..
noncomputable def stQ (n : Nat) (b : Int) (ds : List Int) (i : Nat) : Int × List Int := runQ n b (ds.drop (ds.length - i))
theorem stQ_facts {n : Nat} {a b : Int} (hb : 0 < b) {ds : List Int} (hd : ∀ d ∈ ds, 0 ≤ d) (hv : valD n ds = a) {i : Nat} {k : Int} (hk : ds.reverse[i]? = some k) :
    stQ n b ds (i + 1) = stepQ n b (stQ n b ds i) k ∧ (stQ n b ds i).2.length ≤ ds.length ∧ Builtin.Int.intBits ((stQ n b ds i).1 * 2 ^ n + k) ≤ Builtin.Int.intBits a ∧ Builtin.Int.intBits (stQ n b ds i).1 ≤ Builtin.Int.intBits b := by
  have edr := drop_rev hk
  have ok1 := runQ_ok (n := n) hb (ds := ds.drop (ds.length - i)) fun x hx => hd x (List.mem_of_mem_drop hx)
  have hk0 : 0 ≤ k := hd k (by have := List.mem_of_getElem? hk; simpa using this)
  have vle : valD n (k :: ds.drop (ds.length - i)) ≤ a := by
    rw [← edr, ← hv]; exact val_drop hd _
  refine ⟨by unfold stQ; rw [edr]; rfl, ?_, ?_, bits_mono ok1.2.1 (Int.le_of_lt ok1.2.2.1)⟩
  · unfold stQ
    rw [ok1.2.2.2.1, List.length_drop]; exact Nat.sub_le _ _
  · have hv0 : 0 ≤ valD n (runQ n b (ds.drop (ds.length - i))).2.reverse * b := Int.mul_nonneg (val_nn fun x hx => ok1.2.2.2.2 x (by simpa using hx)) (Int.le_of_lt hb)
    have h3 : (stQ n b ds i).1 ≤ valD n (ds.drop (ds.length - i)) := ok1.1 ▸ Int.le_add_of_nonneg_left hv0
    refine bits_mono (Int.add_nonneg (Int.mul_nonneg ok1.2.1 (Int.le_of_lt (pow_pos2 n))) hk0) (Int.le_trans ?_ vle)
    rw [Int.add_comm, valD, Int.mul_comm]
    exact Int.add_le_add_left (Int.mul_le_mul_of_nonneg_left h3 (Int.le_of_lt (pow_pos2 n))) k
theorem div_uniq {a b q r : Int} (hb : 0 < b) (h1 : q * b + r = a) (h2 : 0 ≤ r) (h3 : r < b) : q = a.fdiv b ∧ r = a.fmod b := by
  have e : a = r + q * b := by rw [← h1, Int.add_comm]
  have hf : r.fdiv b = 0 := by rw [Int.fdiv_eq_ediv_of_nonneg _ (Int.le_of_lt hb)]; exact Int.ediv_eq_zero_of_lt h2 h3
  have e1 : q = a.fdiv b := by rw [e, Int.add_mul_fdiv_right _ _ (Int.ne_of_gt hb), hf, Int.zero_add]
  have e2 := Int.mul_fdiv_add_fmod a b
  rw [← e1, Int.mul_comm] at e2
  exact ⟨e1, Int.add_left_cancel (h1.trans e2.symm)⟩
theorem pos_room {A n M L : Nat} (hn : 1 ≤ n) (h1 : A ≤ n + 4000) (h2 : n ≤ 2 ^ 22) (hm : M * n ≤ A + n - 1) (hl : L ≤ M) : A ≤ 2 ^ 23 ∧ n ≤ 2 ^ 23 ∧ L ≤ 2 ^ 24 ∧ L * n ≤ 2 ^ 26 := by
  have a1 : L * n ≤ 2 ^ 24 := Nat.le_trans (Nat.mul_le_mul_right _ hl) (Nat.le_trans hm (Nat.le_trans (Nat.sub_le _ _) (Nat.le_trans (Nat.add_le_add (Nat.le_trans h1 (Nat.add_le_add_right h2 _)) h2) (by decide))))
  exact ⟨Nat.le_trans h1 (Nat.le_trans (Nat.add_le_add_right h2 _) (by decide)), Nat.le_trans h2 (by decide), Nat.le_trans (Nat.le_mul_of_pos_right _ hn) a1, Nat.le_trans a1 (by decide)⟩
theorem d_dpos (K : DigK C) (a b : Int) (ha : 0 ≤ a) (hb : 0 < b) (h1 : Builtin.Int.intBits a ≤ Builtin.Int.intBits b + 4000) (h2 : Builtin.Int.intBits b ≤ 2 ^ 22) :
    DefC C 29 (sQ "_divmod_pos") [is (.int a), is (.int b)] (is (.tup [.int (a.fdiv b), .int (a.fmod b)])) := by
  obtain ⟨f, q, doc, pm, cd, hg, ho, hcd⟩ := K.dpos
  have g1 := K.reversed
  have hnb : ¬ b = 0 := Int.ne_of_gt hb
  have hn : 1 ≤ Builtin.Int.intBits b := by unfold Builtin.Int.intBits; simp [hnb]
  obtain ⟨n, en⟩ : ∃ n, n = Builtin.Int.intBits b := ⟨_, rfl⟩
  rw [← en] at hn h2 h1
  have dok := digF_ok (n := n) hn ha
  obtain ⟨a23, n23, L24, Ln⟩ := pos_room (M := digM n a) hn h1 h2 (Nat.div_mul_le_self _ _) (digF_len (n := n) (a := a) hn)
  generalize hds : digF n a = ds at dok L24 Ln
  have rok := runQ_ok (n := n) hb dok.1
  refine ⟨f, hg, ⟨_, _, ho, rfl⟩, fn_def (n := 27) (sc := scOf (stAt pw 8)) (ρ := [some (is (.int a)), some (is (.int b)), none, none, none, none, none, none, none]) (nm := [sQ "a", sQ "b", sQ "n", sQ "a_digits", sQ "r", sQ "q_digits", sQ "a_digit", sQ "q_digit", sQ "q"]) (xs := [sQ "a", sQ "b"]) K.q ho rfl hcd rfl rfl rfl rfl rfl (bnd2 fun _ _ => by kernel_rfl) rfl (by decide +kernel) (by decide +kernel) (by decide +kernel) (by decide +kernel) rfl fun L X => ?_⟩
  apply ex_cons
  · apply ex_assign (P := is (.int n))
    · rw [en]
      apply ev_meth0
      · walk_at "ev"
      · exact hasM_bitlen
      · exact fn_bitlen
      · exact rfl
      · exact rfl
    · walk_at "at"
    · decide +kernel
    · decide +kernel
    · exact rfl
  apply ex_cons
  · apply ex_assign (P := is (li ds))
    · rw [← hds]
      apply ev_callD
      · walk_at "ev"
      · exact d_i2d K a n ha hn a23 n23
      · decide
      · exact rfl
      · exact rfl
      · exact rfl
    · walk_at "at"
    · decide +kernel
    · decide +kernel
    · exact rfl
  walk_at "asn"
  apply ex_new (ρ := fun _ => []) (ρ' := fun Q => [some (is (.int a)), some (is (.int b)), some (is (.int n)), some (is (li ds)), some (is (.int 0)), some (isv (.ref Q)), none, none, none]) (ds := [])
  · apply evn_listL
    · walk_at "ev"
    · walk_at "at"
    · exact Nat.le_of_ble_eq_true rfl
  · intro Q; exact .there (.there (.there (.there (.there .here))))
  · decide +kernel
  · decide +kernel
  · exact rfl
  · intro Q
    have st0 : stQ n b ds 0 = (0, []) := by
      unfold stQ
      rw [Nat.sub_zero, List.drop_length]; rfl
    apply exs_for (ds := ds.reverse.map .int) (ρs := fun i => [some (is (.int a)), some (is (.int b)), some (is (.int n)), some (is (li ds)), some (is (.int (stQ n b ds i).1)), some (isv (.ref Q)), none, none, none]) (ωs := fun i => [(Q, (stQ n b ds i).2.map .int)])
    · rw [st0]
    · rw [st0]; rfl
    · apply it_eq
      · apply it_callTt
        · exact g1
        · walk_at "ev"
        · exact fi_rev
        · exact rfl
        · exact rfl
        · exact rfl
        · exact rfl
      · rw [List.map_reverse]
    · intro i; rfl
    · intro κ' i d hd
      rw [List.getElem?_map] at hd
      cases hki : ds.reverse[i]? with
      | none => rw [hki] at hd; cases hd
      | some k =>
        rw [hki] at hd; cases hd
        obtain ⟨es, hlen, hbt, hbr⟩ := stQ_facts (n := n) hb dok.1 dok.2 hki
        rw [es]
        generalize stQ n b ds i = w at hlen hbt hbr
        obtain ⟨r, qs⟩ := w
        simp only at hlen hbt hbr
        apply ex_mk
        · walk_at "at"
        apply ex_cons
        · apply ex_asgU (d := .tup [.int ((r * 2 ^ n + k).fdiv b), .int ((r * 2 ^ n + k).fmod b)])
          · apply ev_callD
            · apply el_cons
              · apply ev_bin
                · apply ev_bin
                  · walk_at "ev"
                  · walk_at "ev"
                  · apply op_shl_int (Int.natCast_nonneg _)
                    exact shl_room (Nat.le_trans hbr (en ▸ Nat.le_trans h2 (by decide))) (Nat.le_trans h2 (by decide))
                · walk_at "ev"
                · walk_at "op"
              · walk_at "ev"
              · exact rfl
            · show DefC C _ _ [is (.int (r * 2 ^ ((n : Int)).toNat + k)), _, _] _
              rw [Int.toNat_natCast]
              exact d_d2n1n K _ b n hnb (Nat.le_trans hbt h1) (nopy (Nat.le_trans hbt (en ▸ h1)))
            · decide
            · exact rfl
            · exact rfl
            · exact rfl
          · walk_at "at"
          · exact rfl
          · exact rfl
        apply ex_cons
        · apply ex_append (d := .int ((r * 2 ^ n + k).fdiv b)) (ds := qs.map .int)
          · walk_at "at"
          · walk_at "ev"
          · exact OU.here
          · rw [List.length_map, sizeLine_eq]; exact Nat.le_trans hlen L24
        show EX _ _ _ (FS _ _ _ _ _ _ _ [(Q, qs.map PV.int ++ [.int ((r * 2 ^ n + k).fdiv b)])] _) _ (FS _ _ _ _ _ _ _ [(Q, (qs ++ [(r * 2 ^ n + k).fdiv b]).map .int)] _) _
        rw [List.map_append]
        apply ex_fgt
        walk_at "fgtd"
    · show EX _ _ _ (FS _ _ _ _ _ _ [_, _, _, _, some (is (.int (stQ n b ds (ds.reverse.map PV.int).length).1)), _, _, _, _] [(Q, (stQ n b ds (ds.reverse.map PV.int).length).2.map .int)] _) _ _ _
      have efin : stQ n b ds (ds.reverse.map PV.int).length = runQ n b ds := by
        unfold stQ
        rw [List.length_map, List.length_reverse, Nat.sub_self, List.drop_zero]
      rw [efin]
      generalize runQ n b ds = w at rok
      obtain ⟨r, qs⟩ := w
      simp only at rok ⊢
      obtain ⟨r1, r2, r3, r4, r5⟩ := rok
      have hq0 := val_nn (n := n) (ds := qs.reverse) fun x hx => r5 x (by simpa using hx)
      rw [dok.2] at r1
      have eq1 := div_uniq hb r1 r2 r3
      have hqa : valD n qs.reverse ≤ a := by
        have h3 : valD n qs.reverse * 1 ≤ valD n qs.reverse * b := Int.mul_le_mul_of_nonneg_left hb hq0
        rw [Int.mul_one] at h3
        exact r1 ▸ Int.le_trans h3 (Int.le_add_of_nonneg_right r2)
      apply ex_cons
      · apply ex_reverse (ds := qs.map .int)
        · walk_at "at"
        · exact OU.here
        · rw [List.length_map, sizeLine_eq, r4]; exact L24
      apply ex_freeze .here (.same (.same (.same (.same (.same (.it (.same (.same (.same .nil)))))))))
      rw [← List.map_reverse]
      apply ex_cons
      · apply ex_assign (P := is (.int (valD n qs.reverse)))
        · apply ev_callD
          · walk_at "ev"
          · apply d_d2i K
            · rw [List.length_reverse, r4]; exact L24
            · rw [List.length_reverse, r4]; exact Ln
            · intro l r hr
              have hs := val_seg_le (n := n) (ds := qs.reverse) (fun x hx => r5 x (by simpa using hx)) l r
              exact Nat.le_trans (bits_mono hs.1 (Int.le_trans hs.2 hqa)) (Nat.le_trans a23 (by decide))
          · decide
          · exact rfl
          · exact rfl
          · exact rfl
        · walk_at "at"
        · decide +kernel
        · decide +kernel
        · exact rfl
      walk_at "ret"
      rw [eq1.1, eq1.2]
end
theorem bits_neg {a : Int} : Builtin.Int.intBits (-a) = Builtin.Int.intBits a := by
  unfold Builtin.Int.intBits
  rw [Int.natAbs_neg]
  by_cases h : a = 0
  · subst h; rfl
  · have : ¬ -a = 0 := by lia
    simp [h, this]
theorem bits_not {a : Int} (h : a < 0) : Builtin.Int.intBits (Builtin.bitNot a) ≤ Builtin.Int.intBits a := by
  rw [← bits_neg (a := a)]
  show Builtin.Int.intBits (-a - 1) ≤ _
  exact bits_mono (by lia) (by lia)
section
variable {C : Cx}
theorem DefC.le {m n : Nat} {x : Str} {Ps : List Vp} {R : Vp} (h : m ≤ n) (D : DefC C m x Ps R) : DefC C n x Ps R := by
  obtain ⟨f, a, b, c⟩ := D; exact ⟨f, a, b, c.le h⟩
noncomputable abbrev qrT (a b : Int) : PV := .tup [.int (a.fdiv b), .int (a.fmod b)]
theorem d_idm1 (K : DigK C) (a b : Int) (ha : 0 ≤ a) (hb : 0 < b) (h1 : Builtin.Int.intBits a ≤ Builtin.Int.intBits b + 4000) (h2 : Builtin.Int.intBits b ≤ 2 ^ 22) :
    DefC C 30 (sQ "int_divmod") [is (.int a), is (.int b)] (is (qrT a b)) := by
  obtain ⟨f, q, doc, pm, cd, hg, ho, hcd⟩ := K.idm
  refine ⟨f, hg, ⟨_, _, ho, rfl⟩, fn_def (n := 28) (sc := scOf (stAt pw 9)) (ρ := [some (is (.int a)), some (is (.int b))]) (nm := [sQ "a", sQ "b"]) (xs := [sQ "a", sQ "b"]) K.q ho rfl hcd rfl rfl rfl rfl rfl (bnd2 fun _ _ => by kernel_rfl) rfl (by decide +kernel) (by decide +kernel) (by decide +kernel) (by decide +kernel) rfl fun L X => ?_⟩
  walk_at "if"
  · intro h; rw [beq_iff_eq] at h; lia
  intro _
  walk_at "if"
  · intro h; rw [decide_eq_true_eq] at h; lia
  intro _
  walk_at "if"
  · intro h; rw [decide_eq_true_eq] at h; lia
  intro _
  apply ex_ret
  apply ev_callD
  · walk_at "ev"
  · exact d_dpos K a b ha hb h1 h2
  · decide
  · exact rfl
  · exact rfl
  · exact rfl
theorem qr_uniq {a b q r : Int} (hb : 0 < b) (h : b * q + r = a) (h0 : 0 ≤ r) (h1 : r < b) : q = a.fdiv b ∧ r = a.fmod b := by
  have e1 := Int.mul_fdiv_add_fmod a b
  have e2 := Int.fmod_nonneg_of_pos a hb
  have e3 := Int.fmod_lt_of_pos a hb
  generalize a.fdiv b = q' at e1
  generalize a.fmod b = r' at e1 e2 e3
  have e4 : b * (q - q') = r' - r := by rw [Int.mul_sub]; lia
  have e5 : q - q' = 0 := by
    rcases Int.lt_trichotomy (q - q') 0 with h | h | h
    · have : b * (q - q') ≤ b * (-1) := Int.mul_le_mul_of_nonneg_left (by lia) (Int.le_of_lt hb)
      lia
    · exact h
    · have : b * 1 ≤ b * (q - q') := Int.mul_le_mul_of_nonneg_left (by lia) (Int.le_of_lt hb)
      lia
  rw [e5] at e4
  constructor <;> lia
theorem d_idm2 (K : DigK C) (a b : Int) (hb : 0 < b) (h1 : Builtin.Int.intBits a ≤ Builtin.Int.intBits b + 4000) (h2 : Builtin.Int.intBits b ≤ 2 ^ 22) :
    DefC C 31 (sQ "int_divmod") [is (.int a), is (.int b)] (is (qrT a b)) := by
  by_cases ha : 0 ≤ a
  · exact (d_idm1 K a b ha hb h1 h2).le (by decide)
  have hn : Builtin.Int.intBits (Builtin.bitNot a) ≤ Builtin.Int.intBits b + 4000 := Nat.le_trans (bits_not (by lia)) h1
  have hp : 0 ≤ Builtin.bitNot a := by show 0 ≤ -a - 1; lia
  have D := d_idm1 K (Builtin.bitNot a) b hp hb hn h2
  obtain ⟨f, q, doc, pm, cd, hg, ho, hcd⟩ := K.idm
  refine ⟨f, hg, ⟨_, _, ho, rfl⟩, fn_def (n := 29) (sc := scOf (stAt pw 9)) (ρ := [some (is (.int a)), some (is (.int b)), none, none]) (nm := [sQ "a", sQ "b", sQ "q", sQ "r"]) (xs := [sQ "a", sQ "b"]) K.q ho rfl hcd rfl rfl rfl rfl rfl (bnd2 fun _ _ => by kernel_rfl) rfl (by decide +kernel) (by decide +kernel) (by decide +kernel) (by decide +kernel) rfl fun L X => ?_⟩
  walk_at "if"
  · intro h; rw [beq_iff_eq] at h; lia
  intro _
  walk_at "if"
  · intro h; rw [decide_eq_true_eq] at h; lia
  intro _
  walk_at "if"
  rotate_left
  · intro h; rw [decide_eq_false_iff_not] at h; lia
  intro _
  apply ex_cons
  · apply ex_asgU
    · apply ev_callD
      · walk_at "ev"
      · exact D
      · decide
      · exact rfl
      · exact rfl
      · exact rfl
    · walk_at "at"
    · exact rfl
    · exact rfl
  walk_at "ret"
  have e1 := Int.mul_fdiv_add_fmod (Builtin.bitNot a) b
  have e2 := Int.fmod_nonneg_of_pos (Builtin.bitNot a) hb
  have e3 := Int.fmod_lt_of_pos (Builtin.bitNot a) hb
  generalize (Builtin.bitNot a).fdiv b = q' at e1 ⊢
  generalize (Builtin.bitNot a).fmod b = r' at e1 e2 e3 ⊢
  have ea : Builtin.bitNot a = -a - 1 := rfl
  rw [ea] at e1
  have u := qr_uniq (q := Builtin.bitNot q') (r := b + Builtin.bitNot r') (a := a) hb (by
    show b * (-q' - 1) + (b + (-r' - 1)) = a
    rw [Int.mul_sub, Int.mul_neg, Int.mul_one]; lia) (by show 0 ≤ b + (-r' - 1); lia) (by show b + (-r' - 1) < b; lia)
  rw [u.1, u.2]
theorem d_idm (K : DigK C) (a b : Int) (hb : b ≠ 0) (h1 : Builtin.Int.intBits a ≤ Builtin.Int.intBits b + 4000) (h2 : Builtin.Int.intBits b ≤ 2 ^ 22) :
    DefC C 32 (sQ "int_divmod") [is (.int a), is (.int b)] (is (qrT a b)) := by
  by_cases hp : 0 < b
  · exact (d_idm2 K a b hp h1 h2).le (by decide)
  have D := d_idm2 K (-a) (-b) (by lia) (by rw [bits_neg, bits_neg]; exact h1) (by rw [bits_neg]; exact h2)
  obtain ⟨f, q, doc, pm, cd, hg, ho, hcd⟩ := K.idm
  refine ⟨f, hg, ⟨_, _, ho, rfl⟩, fn_def (n := 30) (sc := scOf (stAt pw 9)) (ρ := [some (is (.int a)), some (is (.int b)), none, none]) (nm := [sQ "a", sQ "b", sQ "q", sQ "r"]) (xs := [sQ "a", sQ "b"]) K.q ho rfl hcd rfl rfl rfl rfl rfl (bnd2 fun _ _ => by kernel_rfl) rfl (by decide +kernel) (by decide +kernel) (by decide +kernel) (by decide +kernel) rfl fun L X => ?_⟩
  walk_at "if"
  · intro h; rw [beq_iff_eq] at h; lia
  intro _
  walk_at "if"
  rotate_left
  · intro h; rw [decide_eq_false_iff_not] at h; lia
  intro _
  apply ex_cons
  · apply ex_asgU
    · apply ev_callD
      · walk_at "ev"
      · exact D
      · decide
      · exact rfl
      · exact rfl
      · exact rfl
    · walk_at "at"
    · exact rfl
    · exact rfl
  walk_at "ret"
  rw [Int.neg_fdiv_neg, Int.neg_fmod_neg, Int.neg_neg]
end
section
open PySem.SeqAt
theorem slot_search : Slot "re.Pattern" (sQ "search") "re.Pattern.search" :=
  .of (owner := "re.Pattern") (n := "search") (by rw [typeLookup_type, builtinLookup_eq_fast]; kernel_rfl) (by decide +kernel) (by decide +kernel) (by decide +kernel)
    (by first | exact .inl (by decide +kernel) | exact .inr (by decide +kernel)) (by rw [isSubtype_type]; kernel_rfl)
theorem type_search : typeOf (.builtin "re.Pattern.search") = pure (.type "method_descriptor") := by show builtinType _ = _; rw [builtinType_eq_fast]; kernel_rfl
theorem entry_search : entryFor table "re.Pattern.search" = some Builtin.«re.Pattern.search» := entryFor_of_tree (by kernel_rfl)
theorem args_search (a b : Value) : argsOk "re.Pattern.search" ⟨[a, b], []⟩ := by unfold argsOk; kernel_rfl
theorem plainAttrs_pattern : PlainAttrs "re.Pattern" :=
  ⟨⟨"object.__getattribute__", by rw [typeLookup_type, builtinLookup_eq_fast]; kernel_rfl, by decide +kernel⟩, by rw [typeLookup_type, builtinLookup_eq_fast]; kernel_rfl⟩
noncomputable def driveP : Nat → Sre.M → Option Sre.M
  | 0, _ => none
  | k + 1, m => let m := m.runFor 4; if m.outcome.isSome then some m else driveP k m
noncomputable def missed (m : Sre.M) : Bool := match m.outcome with
  | some .failed => true
  | _ => false
noncomputable def noHit (code text : Array Nat) (groups : Nat) : Bool := match driveP 400 (Sre.forSearch code text groups 0 text.size false) with
  | some m => missed m
  | none => false
section
variable {M : Model} {A : Around} {E : Value → Shared → Prop} {s : Shared}
theorem reDrive_succ (t : Nat) (m : Sre.M) : Builtin.Re.reDrive (t + 1) m = if (m.runFor 4).outcome.isSome = true then pure (m.runFor 4) else (rule "sre.turn" >>= fun _ => Builtin.Re.reDrive t (m.runFor 4)) := rfl
theorem driveP_succ (t : Nat) (m : Sre.M) : driveP (t + 1) m = if (m.runFor 4).outcome.isSome = true then some (m.runFor 4) else driveP t (m.runFor 4) := rfl
theorem drive_run {m' : Sre.M} {Q : Sre.M → Shared → Prop} (q : Q m' s) : ∀ (k t : Nat) (m : Sre.M), k ≤ t → driveP k m = some m' → wpAny M A (Builtin.Re.reDrive t m) Q E s := by
  intro k
  induction k with
  | zero => intro t m h e; cases e
  | succ k ih =>
    intro t m h e
    cases t with
    | zero => lia
    | succ t =>
      rw [driveP_succ] at e
      rw [reDrive_succ]
      generalize m.runFor 4 = n at e ⊢
      by_cases ho : n.outcome.isSome = true
      · rw [if_pos ho] at e ⊢
        cases e
        exact wpAny_pure q
      · rw [if_neg ho] at e ⊢
        exact wpAny_bind (wpAny_rule (ih t n (by lia) e))
theorem rules_run {α : Type} (f : α → Bool) (g : α → String) {Q : PUnit → Shared → Prop} (q : Q PUnit.unit s) : ∀ (l : List α),
    wpAny M A (forIn l PUnit.unit fun i _ => if f i = true then (rule (g i) >>= fun _ => pure (ForInStep.yield PUnit.unit)) else pure (ForInStep.yield PUnit.unit)) Q E s
  | [] => wpAny_pure q
  | a :: l => by
    rw [List.forIn_cons]
    by_cases h : f a = true
    · rw [if_pos h]
      exact wpAny_bind (wpAny_bind (wpAny_rule (wpAny_pure (rules_run f g q l))))
    · rw [if_neg h]
      exact wpAny_bind (wpAny_pure (rules_run f g q l))
theorem runEnd {m m' : Sre.M} {Q : Option Sre.M → Shared → Prop} {k : Nat} (hk : k ≤ 2 ^ 64) (e : driveP k m = some m') (hm : missed m' = true) (q : Q none s) : wpAny M A (Builtin.Re.reRunToEnd m) Q E s := by
  unfold Builtin.Re.reRunToEnd
  refine wpAny_bind (drive_run ?_ k _ m hk e)
  refine wpAny_bind (rules_run (fun i => m'.seen.has i) (fun i => Sre.names.getD i "") ?_ _)
  unfold missed at hm
  split at hm
  · rename_i h; rw [h]; exact wpAny_pure q
  · cases hm
end
theorem named_search (x : Value) : Builtin.Re.reNamed "re.Pattern.search" "search" ["string", "pos", "endpos"] 1 [x] [] = pure [some x, none, none] := rfl
section
variable {prog : Program} {w : World} {A : Around} {E : Value → Shared → Prop} {s : Shared}
theorem call_search {P L : Addr} {oP oL : Obj} {fs items : Array Value} {k : Nat} {x : Str} {t : Tok} {Q : Value → Shared → Prop} (hP : s.heap.get? P = some oP) (hc : oP.cls = .type "re.Pattern") (hd : oP.data = .fields fs)
    (f5 : fs.getD 5 .none = .ref L) (f6 : Builtin.Re.reRawNat (fs.getD 6 .none) = 0) (f2 : Builtin.Re.reRawNat (fs.getD 2 .none) = 0) (hL : s.heap.get? L = some oL) (hLd : oL.data = .seq items k) (hx : x.cps.size ≤ 2 ^ 40)
    (hno : noHit ((items.map Builtin.Re.reRawOf).map (·.toNat)) x.cps 0 = true) (h : Q .none s) : wpAny (model prog w) A (call (.builtin "re.Pattern.search") [.ref P, .str x t]) Q E s := by
  refine wpAny_call_entry slot_search ⟨_, hP, hc⟩ entry_search ?_ (args_search _ _)
  show wpAny _ _ (Builtin.Re.reTarget "re.Pattern.search" "search" ⟨[.ref P, .str x t], []⟩ >>= fun tt => Builtin.Re.reAnswer tt (Sre.forSearch tt.code tt.text tt.groups tt.pos tt.lim false)) _ _ s
  refine wpAny_bind ?_
  unfold Builtin.Re.reTarget
  dsimp only
  rw [named_search]
  refine wpAny_bind (wpAny_pure ?_)
  dsimp only
  refine wpAny_bind (wpAny_pure (wpAny_bind (wpAny_pure ?_)))
  refine wpAny_bind (wpAny_fieldsOf hP hd ?_)
  refine wpAny_bind (m := Builtin.Re.reTextOf _) (wpAny_of_eq (a := (x.cps, 0)) rfl ?_)
  dsimp only
  rw [f6, f5, f2]
  simp only [beq_self_eq_true, Bool.true_and, Bool.false_and, Nat.reduceBEq, Bool.false_eq_true, if_false, pure_bind, Bool.and_false]
  refine wpAny_bind (m := Builtin.Re.reNoCollectionInside _ 0) (wpAny_pure ?_)
  refine wpAny_bind (m := Builtin.Re.reRawItems _) (wpAny_bind (wpAny_seqItems hL hLd (wpAny_pure ?_)))
  refine wpAny_pure ?_
  have hlim : min ((2 : Int) ^ 63 - 1).toNat x.cps.size = x.cps.size := by
    have : ((2 : Int) ^ 63 - 1).toNat = 9223372036854775807 := rfl
    rw [this]; lia
  dsimp only [Option.getD_some]
  rw [hlim]
  have hmin : min (Int.toNat 0) x.cps.size = 0 := Nat.zero_min _
  rw [hmin]
  unfold noHit at hno
  split at hno
  · rename_i m' hm'
    exact wpAny_bind (runEnd (by decide) hm' hno (wpAny_pure ⟨_, rfl, h⟩))
  · cases hno
end
end
section
open PySem.SeqAt
section
variable {C : Cx} {X Y : Addr → Prop} {Z Z' : Fz} {s s' : Shared}
theorem clo_enterA {n : Nat} {A : Around} {fd : FuncData} {f c : Addr} {o : Obj} {body : List Stmt} {args : Args} {vs : List Value} {xs nm oc : List Str} {sc : List (Str × NameKind)} {ρ : List (Option Vp)} {ω : List (Addr × List PV)} {Q : Value → Shared → Prop} {E : Value → Shared → Prop}
    (hq : Quiet C) (I : Inv C Z s) (hA : Room (n + 2) A) (ho : Z f = some o) (hd : o.data = .func fd) (hc : fd.code = .ref c) (hcd : CodeIn Z c fd.qualname) (hbody : fd.body = .stmts body) (hsc : fd.scope.names = sc) (hgl : fd.globals = mainGlobals) (hbl : fd.builtins = builtinsNs)
    (hcell : sc.all (fun x => x.2 != .cell) = true) (hbind : BindsTo s fd args (xs.zip vs)) (hlen : xs.length = vs.length) (hloc : xs.all (fun x => sc.lookup x == some .local) = true) (hoc : oc.all (fun x => sc.lookup x != some .cell && (fd.closure.lookup x).isNone) = true)
    (hnm : nm.Nodup) (hap : fd.closure.Pairwise fun x y => x.2 ≠ y.2) (hcl : ∀ x a, fd.closure.lookup x = some a → Z a = none ∧ ∃ v, s.heap.IsCell a v) (hω : ∀ p ∈ ω, Owned Z s.heap p) (hωn : (ω.map (·.1)).Nodup)
    (hv : ∀ L h', h'.Ns L (fun x => (xs.zip vs).reverse.lookup x) → (∀ b o, s.heap.get? b = some o → h'.get? b = some o) → Vars (callEnv fd L f) Z h' nm ρ)
    (h : ∀ L (X : Addr → Prop) A' s₁ E', Room (n + 1) A' → Inv C Z s₁ → Step C Z s Z s₁ → (∀ b, X b → s.heap.get? b = none ∨ b ∈ ω.map (·.1)) → FSp (callEnv fd L f) nm oc sc X ρ ω (fun _ => none) Z s₁.heap →
      wpAny (model C.prog C.w) A' (execs body (callEnv fd L f)) (fun fl s' => Q (match fl with | .ret v => v | _ => .none) s') E' s₁)
    (hco : fd.scope.isCoroutine = false) (hgen : fd.scope.isGenerator = false) (hk : fd.scope.kind = .function) :
    wpAny (model C.prog C.w) A (call (.ref f) args.pos args.kw) Q E s :=
  clo_enterW hq I hA ho hd hc hcd hbody hsc hgl hbl hcell hbind hlen hloc hoc hnm hap hcl (fun a => s.heap.get? a = none ∨ a ∈ ω.map (·.1)) (fun _ h => .inl h) (fun p hp => .inr (List.mem_map_of_mem hp)) hω hωn hv
    (fun L A' s₁ E' hA' I' st _ H => h L _ A' s₁ E' hA' I' st (fun _ hb => hb) H) hco hgen hk
end
section
variable {prog : Program} {w : World} {A : Around} {E : Value → Shared → Prop} {s : Shared}
theorem type_str_val {x : Str} {t : Tok} {Q : Value → Shared → Prop} (q : Q (.type "str") s) : wpAny (model prog w) A (call (.type "type") [.str x t]) Q E s := by
  refine wpAny_call (codeAny_of_tree ?_)
  show wpAny _ _ (callAny (.type "type") ⟨[.str x t], []⟩) _ _ _
  simp only [callAny]
  refine wpAny_pure ⟨Code.quiet_builtin _ (by decide +kernel), codeAny_builtin entry_type_call ?_⟩
  unfold Builtin.«type.__call__»
  dsimp only
  unfold shownTypeOf
  repeat wp_step
  exact q
end
end
def MthAt (C : Cx) (k : Nat) (f : Addr) (qual : Str) (dv : Value) : Prop := ∃ doc pm c, C.Z0 f = some { cls := .type "function", data := .func (mFd (mthSt pw 79 k) qual dv doc pm (.ref c)) } ∧ CodeIn C.Z0 c qual
def NsZ (C : Cx) (N : Addr) (m : Str → Option Value) : Prop := ∀ h : Heap, (∀ b o, C.Z0 b = some o → h.get? b = some o) → h.Ns N m
inductive PatZ (C : Cx) (x : Str) (code : Array Nat) : Prop where
  | mk (P L : Addr) (oP oL : Obj) (fs items : Array Value) (k : Nat) (g : GlobZ C x (.ref P)) (z : C.Z0 P = some oP) (a1 : oP.cls = .type "re.Pattern") (a2 : oP.dict = none) (a3 : oP.data = .fields fs) (a4 : fs.getD 5 .none = .ref L) (a5 : Builtin.Re.reRawNat (fs.getD 6 .none) = 0) (a6 : Builtin.Re.reRawNat (fs.getD 2 .none) = 0)
    (z2 : C.Z0 L = some oL) (a7 : oL.data = .seq items k) (a8 : (items.map Builtin.Re.reRawOf).map (·.toNat) = code)
structure HNs (C : Cx) (mN : Str → Option Value) : Prop where
  at_ : NsZ C 282 mN
  ga : mN "__getattribute__" = none
  gh : mN "__getattr__" = none
  sa : mN "__setattr__" = none
  hd : mN (sQ "_headers") = none
  ini : mN "__init__" = some (.ref 177)
  conv : mN (sQ "_convert_string_type") = some (.ref 184)
  all : mN (sQ "get_all") = some (.ref 222)
  items : mN (sQ "items") = some (.ref 247)
  add : mN (sQ "add_header") = some (.ref 280)
structure HdrK (C : Cx) : Prop where
  q : Quiet C
  glob : GlobZ C (sQ "Headers") (.ref 283)
  cls : ∃ k2 k3, C.Z0 283 = some (excClassObj (sQ "Headers") (sQ "Headers") 283 282 [.type "object"] [.type "object"] true [] [] false none none none none k2 k3 (some (.bool true)) "object.__new__")
  ns : ∃ mN, HNs C mN
  init : MthAt C 0 177 (sQ "Headers.__init__") (.ref 170)
  initD : C.Z0 170 = some { cls := .type "tuple", data := .seq #[.none] 0 }
  conv : MthAt C 1 184 (sQ "Headers._convert_string_type") .none
  all : MthAt C 7 222 (sQ "Headers.get_all") .none
  items : MthAt C 11 247 (sQ "Headers.items") .none
  add : MthAt C 16 280 (sQ "Headers.add_header") .none
  reN : PatZ C (sQ "_name_disallowed_re") codeN
  reV : PatZ C (sQ "_value_disallowed_re") codeV
  type : BltZ C (sQ "type") (.type "type")
  str : BltZ C (sQ "str") (.type "str")
  list : BltZ C (sQ "list") (.type "list")
section
variable {C : Cx}
theorem fn_type_str {n : Nat} {x : Str} : FN C n (.type "type") [is (.str x)] (isv (.type "str")) := fn1 fun A s Z v Q E hA I h k => by
  cases h
  exact type_str_val (k _ Z _ (StepX.refl I) rfl)
theorem op_is_type {n : Nat} {T : String} : OP2 C n (compareOp .Is) (isv (.type T)) (isv (.type T)) (is (.bool true)) := fun A s Z u v Q E hA I hu hv k => by
  cases hu; cases hv
  have e : (Value.type T == Value.type T) = true := by simp
  exact wpAny_pure (a := Value.bool (Value.type T == Value.type T)) (by rw [e]; exact k _ Z _ (StepX.refl I) (.bool _))
inductive IsPat (code : Array Nat) (Z : Fz) (v : Value) : Prop where
  | mk (P L : Addr) (oP oL : Obj) (fs items : Array Value) (k : Nat) (e : v = .ref P) (z : Z P = some oP) (a1 : oP.cls = .type "re.Pattern") (a2 : oP.dict = none) (a3 : oP.data = .fields fs) (a4 : fs.getD 5 .none = .ref L) (a5 : Builtin.Re.reRawNat (fs.getD 6 .none) = 0) (a6 : Builtin.Re.reRawNat (fs.getD 2 .none) = 0)
    (z2 : Z L = some oL) (a7 : oL.data = .seq items k) (a8 : (items.map Builtin.Re.reRawOf).map (·.toNat) = code)
theorem IsPat.le {code : Array Nat} {Z Z' : Fz} {v : Value} (k : Le Z Z') (h : IsPat code Z v) : IsPat code Z' v := by
  obtain ⟨P, L, oP, oL, fs, items, kk, e, z, a1, a2, a3, a4, a5, a6, z2, a7, a8⟩ := h
  exact ⟨P, L, oP, oL, fs, items, kk, e, k _ _ z, a1, a2, a3, a4, a5, a6, k _ _ z2, a7, a8⟩
noncomputable def patV (C : Cx) (code : Array Nat) : Vp := ⟨IsPat code, IsPat.le⟩
theorem PatZ.glob {x : Str} {code : Array Nat} (p : PatZ C x code) : GlobP C x (patV C code) := by
  obtain ⟨P, L, oP, oL, fs, items, k, g, z, a1, a2, a3, a4, a5, a6, z2, a7, a8⟩ := p
  exact ⟨_, g, P, L, oP, oL, fs, items, k, rfl, z, a1, a2, a3, a4, a5, a6, z2, a7, a8⟩
theorem hasM_search {code : Array Nat} : HasM C (sQ "search") (patV C code) "re.Pattern.search" := ⟨"re.Pattern", plainAttrs_pattern, slot_search, type_search, fun Z s v I h => by
  obtain ⟨P, L, oP, oL, fs, items, kk, rfl, z, a1, a2, a3, a4, a5, a6, z2, a7, a8⟩ := h
  exact ⟨⟨oP, I.heap _ _ z, a1⟩, fun a h => by cases h; exact ⟨oP, I.heap _ _ z, a2⟩⟩⟩
theorem fn_search {n : Nat} {code : Array Nat} {x : Str} (hx : x.cps.size ≤ 2 ^ 40) (hno : noHit code x.cps 0 = true) : FN C n (.builtin "re.Pattern.search") [patV C code, is (.str x)] (is .none) := fn2 fun A s Z u v Q E hA I h h' k => by
  obtain ⟨P, L, oP, oL, fs, items, kk, rfl, z, a1, a2, a3, a4, a5, a6, z2, a7, rfl⟩ := h
  cases h'
  exact call_search (I.heap _ _ z) a1 a3 a4 a5 a6 (I.heap _ _ z2) a7 hx hno (k _ Z _ (StepX.refl I) .none)
theorem tv_none {n : Nat} {Φ : Asn C} {env : Env} {e : Expr} (he : EV C n Φ (eval e env) (is .none)) (hn : ∀ t, isTrue e env t = (do let v ← t; standAt e.pos; holding [v] (truthy v)) := by intro _; rfl) : TV C n Φ (isTrue e env (eval e env)) false := fun A s Z Q E hA I H k => by
  rw [hn]
  refine wpAny_bind (he A s Z _ E hA I H fun v Z' s' x pv => wpAny_bind (wpAny_standAt (wpAny_holding ?_)))
  cases pv
  exact wpAny_pure (k Z' s' x)
theorem conv_call (K : HdrK C) {n : Nat} (b : Bool) (x : Str) (hx : x.cps.size ≤ 2 ^ 40) (hno : noHit (if b then codeN else codeV) x.cps 0 = true) {A : Around} {s : Shared} {Z : Fz} {self v : Value} {Q : Value → Shared → Prop} {E : Value → Shared → Prop} (hA : Room (n + 2) A) (I : Inv C Z s) (hv : Rd Z v (.str x))
    (k : ∀ v' Z' s', Step C Z s Z' s' → Rd Z' v' (.str x) → Q v' s') : wpAny (model C.prog C.w) A (call (.ref 184) [self, v] [(sQ "name", .bool b)]) Q E s := by
  obtain ⟨doc, pm, c, ho, hcd⟩ := K.conv
  have g1 := K.type
  have g2 := K.str
  have g3 := K.reN.glob
  have g4 := K.reV.glob
  refine clo_enterA (n := n) (args := ⟨[self, v], [(sQ "name", .bool b)]⟩) (vs := [self, v, .bool b]) (fd := mFd (mthSt pw 79 1) (sQ "Headers._convert_string_type") .none doc pm (.ref c)) (xs := [sQ "self", sQ "value", sQ "name"]) (oc := [sQ "self", sQ "value", sQ "name", sQ "regex"])
    (nm := [sQ "self", sQ "value", sQ "name", sQ "regex"]) (ρ := [none, some (is (.str x)), some (is (.bool b)), none]) (ω := []) (sc := (mFd (mthSt pw 79 1) (sQ "Headers._convert_string_type") .none doc pm (.ref c)).scope.names) K.q I hA (I.base _ _ ho) rfl rfl (hcd.le I.base) rfl rfl rfl rfl rfl (BindsTo.of_eq rfl) rfl rfl rfl (by decide +kernel) List.Pairwise.nil (fun _ _ h => nomatch h) (fun _ h => nomatch h) List.Pairwise.nil ?_ ?_ rfl rfl rfl
  · intro L h' hn hk
    exact .un (.va ⟨by decide +kernel, .inl ⟨rfl, _, hn, rfl⟩⟩ hv (.va ⟨by decide +kernel, .inl ⟨rfl, _, hn, rfl⟩⟩ (.bool b) (.un .nil)))
  · intro L X A' s₁ E' hA' I₁ st hX H
    refine eg_run (RA := fun Z h v => Rd Z v (.str x)) (botA C) ?_ hA' I₁ H (fun Z' s' x' H' => H'.elim) fun v Z' s' x' ra => ?_
    rotate_left
    · exact k v Z' s' (((Step.to st).trans x').hide fun b hb => (hX b hb).elim id fun q => nomatch q) ra
    · clear k H
      apply eg_ifs (c := true)
      · apply tv_cmp
        · apply ev_callTt
          · exact g1
          · walk_at "ev"
          · exact fn_type_str
          · exact rfl
          · exact rfl
          · exact rfl
          · exact rfl
        · exact ev_blt g2 rfl rfl
        · exact op_is_type
        · exact rfl
      · intro _
        apply eg_cons (Ψ := FS C _ _ _ _ X [none, some (is (.str x)), some (is (.bool b)), some (patV C (if b then codeN else codeV))] [] _)
        · apply ex_assign (P := patV C (if b then codeN else codeV))
          · apply ev_ifexp
            · apply tv_bool
              · walk_at "ev"
              · intro _; rfl
            · intro hb
              rw [if_pos hb]
              exact ev_globP g3 rfl rfl
            · intro hb
              rw [if_neg (by rw [hb]; decide)]
              exact ev_globP g4 rfl rfl
          · walk_at "at"
          · exact ⟨by decide +kernel, by decide +kernel⟩
          · exact rfl
          · exact rfl
        apply eg_ifs (c := false)
        · apply tv_none
          · apply ev_meth
            · walk_at "ev"
            · exact hasM_search
            · walk_at "ev"
            · exact fn_search hx hno
            · exact rfl
            · exact rfl
            · exact rfl
            · exact rfl
            · exact rfl
          · intro _; rfl
        · intro h; cases h
        · intro _
          apply eg_ret (P := is (.str x))
          · walk_at "ev"
          · intro Z h v H p; exact p
      · intro h; cases h
end
section
open PySem.SeqAt
section
variable {prog : Program} {w : World} {A : Around} {E : Value → Shared → Prop} {s : Shared} {env : Env}
theorem call_own {o : Expr} {name : Str} {apos pos : Pos} {args : List Expr} {kws : List Keyword} {Q : Value → Shared → Prop}
    (hbase : attributeBase o name env (eval o env) = eval o env) (hform : methodCallForm (args.length + kws.length) (backTo pos (starEach args env)) (backToKw pos (keywordEach kws env)) = true) (hline : (apos.endLine == pos.line) = true)
    (h : wpAny (model prog w) A (eval o env) (fun ov s₁ => ∃ T f fo fd, ov = .ref T ∧ fo.data = .func fd ∧ (∀ (E' : Value → Shared → Prop) (Q' : Value × List Value → Shared → Prop) (pl : Sem Bool), Q' (.ref f, [.ref T]) s₁ → wpAny (model prog w) A (getMethod (.ref T) name pl) Q' E' s₁) ∧
      wpAny (model prog w) A (evalArgs (.ref f) true (backTo pos (starEach args env)) (backToKw pos (keywordEach kws env))) (fun x s₂ => s₂.heap.get? f = some fo ∧ wpAny (model prog w) A (call (.ref f) (.ref T :: x.pos) x.kw) Q E s₂) E s₁) E s) :
    wpAny (model prog w) A (eval (.Call (.Attribute o name apos) args kws pos) env) Q E s := by
  rw [arm_eval_Call, hbase]
  refine wpAny_bind (wpAny_mono h (fun ov s₁ h₁ => ?_) fun _ _ e => e)
  obtain ⟨T, f, fo, fd, rfl, hd, hm, hc⟩ := h₁
  refine wpAny_bind (wpAny_standAt ?_)
  have hpos : methodCallPos true o env apos pos = pure pos := by unfold methodCallPos; simp [hline]
  unfold methodCall
  rw [hform]
  refine wpAny_bind (wpAny_holding (hm _ _ _ ?_))
  refine wpAny_bind (wpAny_of_eq hpos ?_)
  exact callWith_function_kw (o := fo) (fd := fd) (wpAny_mono hc (fun x s₂ h₂ => ⟨⟨h₂.1, hd⟩, h₂.2⟩) fun _ _ e => e)
end
end
section
open PySem.SeqAt
section
variable {C : Cx} {n : Nat} {X : Addr → Prop} {Z Z' : Fz} {s s' : Shared} {R : Vp} {env : Env} {Φ : Asn C} {pos : Pos}
noncomputable def emptyD (C : Cx) : Vp := ⟨fun Z v => ∃ d o, v = .ref d ∧ (d == sysModules) = false ∧ Z d = some o ∧ o.IsDictOf (PySem.strKind C.prog C.w) [], fun k ⟨d, o, e, e', z, h⟩ => ⟨d, o, e, e', k _ _ z, h⟩⟩
theorem entry_dii : entryFor table "dict_itemiterator.__iter__" = some Builtin.«dict_keyiterator.__iter__» :=
  entryFor_alias (id' := "dict_keyiterator.__iter__") (by kernel_rfl) (by first | rfl | decide +kernel | (unfold String.splitOn; simp +decide [String.splitOnAux])) (by decide +kernel) (by kernel_rfl)
theorem pyIter_items_self {I d : Addr} {i m ep : Nat} {ok ov : Value} {prog : Program} {w : World} {A : Around} {E : Value → Shared → Prop} {s : Shared} {Q : Value → Shared → Prop} (hi : IsItemIter s.heap I d i m ep ok ov) (q : Q (.ref I) s) : wpAny (model prog w) A (pyIter (.ref I)) Q E s := by
  have hT : s.TypeIs (.ref I) "dict_itemiterator" := ⟨_, hi, rfl⟩
  refine wpAny_pyIter_slot hT F.slot_dict_itemiterator_iter (wpAny_call_entry F.slot_dict_itemiterator_iter hT entry_dii ?_ (F.args_dict_itemiterator_iter_1 _))
  show wpAny _ _ (ret (.ref I)) _ _ s
  exact wpAny_pure ⟨_, rfl, "dict_itemiterator", _, hT, F.slot_dict_itemiterator_next.lookup, q⟩
theorem it_dict0 {o : Expr} {apos cpos : Pos} {elts : List Expr} {kk : Nat} {tp : Pos} (ho : EV C n Φ (eval o env) (emptyD C)) (hbase : attributeBase o "items" env (eval o env) = eval o env := by rfl) (hline : (apos.endLine == cpos.line) = true := by rfl) :
    IT C n Φ (.Call (.Attribute o "items" apos) [] [] cpos) env (.Tuple elts kk tp) [] := fun A s Z Q E hA I H k => by
  refine wpAny_Call_method0_late hbase hline (ho A s Z _ E hA I H fun v Z₁ s₁ x₁ pv => ?_)
  obtain ⟨d, od, rfl, hdS, hz, hod⟩ := pv
  have hm := Heap.dictOf_iff.mpr ⟨od, x₁.inv.heap _ _ hz, hod⟩
  refine ⟨"dict", "dict.items", F.plainAttrs_dict, F.slot_dict_items, F.type_dict_items, hm.typeIs, hm.mapOf.noDict, ?_⟩
  refine method_meetsIn F.slot_dict_items F.entry_dict_items rfl (PySem.evalArgs_none ⟨rfl, hm.typeIs, F.args_dict_items_1 _, _, meets_dict_items (PySem.strKind C.prog C.w) d hdS, ⟨[], hm⟩, ?_⟩)
  have st := StepX.push (X := No) x₁.inv (o := { cls := .type "dict_items", data := .fields #[.ref d] }) (t := s₁.toks)
  have hm' := hm.push { cls := .type "dict_items", data := .fields #[.ref d] }
  obtain ⟨ep, hat⟩ := hm'.dictAt
  refine wpAny_pyIter_items (v := s₁.heap.objs.size) ⟨_, Heap.get?_push_size _ rfl, rfl, rfl⟩ hat ?_
  have st2 := StepX.push (X := No) st.inv (o := { cls := .type "dict_itemiterator", data := .fields #[.none, .bool false, .ref d, .int 0 0, .int 0 0, .int ep 0, .none, .none] }) (t := s₁.toks)
  have hsz1 : s₁.heap.objs.size ≤ (s₁.heap.push { cls := .type "dict_items", data := .fields #[.ref d] }).objs.size := by rw [Heap.size_push]; exact Nat.le_succ _
  have hJ : s.heap.get? (s₁.heap.push { cls := .type "dict_items", data := .fields #[.ref d] }).objs.size = none := by
    cases e : s.heap.get? (s₁.heap.push { cls := .type "dict_items", data := .fields #[.ref d] }).objs.size with
    | none => rfl
    | some o =>
      have h1 : s₁.heap.get? (s₁.heap.push { cls := .type "dict_items", data := .fields #[.ref d] }).objs.size = none := gAb hsz1
      rcases x₁.gone h1 with q | q
      · rw [q] at e; cases e
      · exact q.elim
  have hne : d ≠ (s₁.heap.push { cls := .type "dict_items", data := .fields #[.ref d] }).objs.size := Nat.ne_of_lt hat.lt_size
  refine k _ Z₁ _ ((x₁.trans st).trans st2) ⟨_, _, _, _, _, (fun A hA => kti_itemsTurns (knd := PySem.strKind C.prog C.w) hA _ d hne [] ep), ⟨⟨.none, .none, Heap.get?_push_size _ rfl⟩, hat.push _⟩, fun b hb => ?_, fun b hb => ?_, fun i h' st' b hb => ?_, fun i v h' d Z' _ _ hd => ?_, fun A i s Q E hA st' q => ?_⟩
  · rw [List.mem_singleton.mp hb]; exact st.inv.fresh (gAb (Nat.le_refl _))
  · rcases List.mem_cons.mp hb with rfl | hb
    · exact .inr ⟨hJ, st.inv.fresh (gAb (Nat.le_refl _))⟩
    · rw [List.mem_singleton.mp hb]; exact .inl ⟨_, hz⟩
  · obtain ⟨⟨ok, ov, hi⟩, o', es, ho', r⟩ := st'
    rcases List.mem_cons.mp hb with rfl | hb
    · exact ⟨_, hi, fun _ ps q => by cases q⟩
    · rw [List.mem_singleton.mp hb]; exact ⟨o', ho', fun q => by rw [hz] at q; cases q⟩
  · simp at hd
  · obtain ⟨⟨ok, ov, hi⟩, _⟩ := st'
    exact pyIter_items_self hi q
end
end
section
open PySem.SeqAt
section
variable {C : Cx} {X Y : Addr → Prop} {Z Z' : Fz} {s s' : Shared}
theorem clo_enterB {n : Nat} {A : Around} {fd : FuncData} {f c : Addr} {o : Obj} {body : List Stmt} {args : Args} {P : Fz → List Value → Prop} {xs nm oc : List Str} {sc : List (Str × NameKind)} {ρ : List (Option Vp)} {ω : List (Addr × List PV)} {Q : Value → Shared → Prop} {E : Value → Shared → Prop}
    (hq : Quiet C) (I : Inv C Z s) (hA : Room (n + 2) A) (ho : Z f = some o) (hd : o.data = .func fd) (hc : fd.code = .ref c) (hcd : CodeIn Z c fd.qualname) (hbody : fd.body = .stmts body) (hsc : fd.scope.names = sc) (hgl : fd.globals = mainGlobals) (hbl : fd.builtins = builtinsNs) (hcl : fd.closure = [])
    (hcell : sc.all (fun x => x.2 != .cell) = true) (hbind : ∀ (Q' : List (Str × Value) → Shared → Prop) (E' : Value → Shared → Prop), (∀ vs Z₀ s₀, xs.length = vs.length → Step C Z s Z₀ s₀ → P Z₀ vs → Q' (xs.zip vs) s₀) → wpAny (model C.prog C.w) A.in1 (bindArgs fd args) Q' E' s)
    (hloc : xs.all (fun x => sc.lookup x == some .local) = true) (hoc : oc.all (fun x => sc.lookup x != some .cell) = true)
    (hnm : nm.Nodup) (hω : ∀ p ∈ ω, Owned Z s.heap p) (hωn : (ω.map (·.1)).Nodup)
    (hv : ∀ L h' vs Z₀, P Z₀ vs → h'.Ns L (fun x => (xs.zip vs).reverse.lookup x) → Vars (callEnv fd L f) Z₀ h' nm ρ)
    (h : ∀ L (X : Addr → Prop) A' Z₀ s₁ E', Room (n + 1) A' → Inv C Z₀ s₁ → Step C Z s Z₀ s₁ → (∀ b, X b → s.heap.get? b = none ∨ b ∈ ω.map (·.1)) → FSp (callEnv fd L f) nm oc sc X ρ ω (fun _ => none) Z₀ s₁.heap →
      wpAny (model C.prog C.w) A' (execs body (callEnv fd L f)) (fun fl s' => Q (match fl with | .ret v => v | _ => .none) s') E' s₁)
    (hco : fd.scope.isCoroutine = false) (hgen : fd.scope.isGenerator = false) (hk : fd.scope.kind = .function) :
    wpAny (model C.prog C.w) A (call (.ref f) args.pos args.kw) Q E s := by
  subst hsc
  have hf := I.heap _ _ ho
  refine wpAny_call (codeAny_call_function (R := fun r s' => match r with | .ok (.ret v) => Q v s' | .ok _ => False | .error e => E e s') (by have := hA.depth; simp only [recursionLimit]; lia) hf hd hco hgen hbody (by rw [hc]; exact hcd.rec I) (hbind _ _ fun vs Z₀ s₀ hlen x₀ hP => ?_))
  have hnl := hq s₀.heap fun b o e => x₀.inv.heap _ _ (x₀.inv.base _ _ e)
  refine wpAny_newFunctionEnv (fun x hx => by have := List.all_eq_true.mp hcell x hx; simpa using this) (fun x hx => by have := List.all_eq_true.mp hloc x.1 (List.of_mem_zip hx).1; simpa using this) (fun h₁ hns hsb => ⟨hnl.fresh _ hsb, codeAny_func ?_⟩) hk
  have hk₁ : ∀ b o, s₀.heap.get? b = some o → h₁.get? b = some o := fun b o e => hsb.extBut b o (Nat.ne_of_lt (Heap.lt_size e)) (Heap.get?_push_of_some _ e)
  have st : Step C Z₀ s₀ Z₀ { s₀ with heap := h₁, toks := s₀.toks + (xs.zip vs).length } := .keeps x₀.inv hk₁
  have hA' : Room (n + 1) (A.deeper (callEnv fd s₀.heap.objs.size f)) := ⟨by have := hA.depth; simp only [Around.deeper]; lia, by have := hA.units; simp only [Around.deeper]; lia, hA.handled⟩
  have zn : ∀ a, s₀.heap.objs.size ≤ a → Z₀ a = none := fun a ha => x₀.inv.fresh (gAb ha)
  have hω' : ∀ p ∈ ω, Owned Z₀ s₀.heap p := fun p hp => by
    obtain ⟨z, vs', m, e, r⟩ := hω p hp
    exact ⟨x₀.stillNone z e (fun q => q), vs', m, x₀.keep _ _ e (fun q => q) (I.tab_fields e fun ps q => by cases q), r.le x₀.le⟩
  refine h s₀.heap.objs.size (fun a => s.heap.get? a = none ∨ a ∈ ω.map (·.1)) _ Z₀ { s₀ with heap := h₁, toks := s₀.toks + (xs.zip vs).length } _ hA' st.inv (x₀.trans st) (fun b hb => hb)
    ⟨rfl, hgl, hbl, fun x hx e => ?_, hk, hnm, by show (List.Pairwise _ fd.closure); rw [hcl]; exact .nil, ⟨_, hns⟩, .inl ?_, zn _ (Nat.le_refl _), fun x a ha => ?_, fun x hx a ha => ?_, fun a ha => .inl (((x₀.trans st).gone ha).elim id fun q => q.elim), hv _ _ vs Z₀ hP hns, fun p hp => ?_, fun p hp => .inr (List.mem_map_of_mem hp), hωn, (fun _ _ h => nomatch h), fun _ _ h => nomatch h⟩
  · have := List.all_eq_true.mp hoc x hx
    simp only [e, bne_self_eq_false] at this
    cases this
  · exact (x₀.gone (gAb (Nat.le_refl _))).elim id fun q => q.elim
  · have e : fd.closure.lookup x = some a := ha
    rw [hcl] at e; cases e
  · have e : fd.closure.lookup x = some a := ha
    rw [hcl] at e; cases e
  · obtain ⟨z, vs', m, e, r⟩ := hω' p hp
    exact ⟨z, vs', m, hk₁ _ _ e, r⟩
end
end
section
open PySem.SeqAt
section
variable {C : Cx} {n : Nat} {X : Addr → Prop} {R : Vp} {env : Env} {nm oc : List Str} {sc : List (Str × NameKind)} {ω ω' : List (Addr × List PV)} {κ : Addr → Option Obj} {ρ ρ' : List (Option Vp)} {Ψ : Asn C} {RA : Fz → Heap → Value → Prop} {rest : List Stmt}
theorem eg_new {ρ' : Addr → List (Option Vp)} {ρ₀ : List (Option Vp)} {x : Str} {xp pos : Pos} {e : Expr} {mk : Addr → Vp} {ds : List PV} (he : EVN C n (FS C env nm oc sc X ρ₀ ω κ) (eval e env) mk ds)
    (hu : ∀ a, Upd nm ρ₀ x (some (mk a)) (ρ' a)) (pl : PlainName x) (hk : canSt sc oc x = true) (hs : swapsWith e (some (.Name x xp)) pos.line env = pure false)
    (k : ∀ a, EXG C n X (FS C env nm oc sc X (ρ' a) ((a, ds) :: ω) κ) (execs rest env) Ψ RA) : EXG C n X (FS C env nm oc sc X ρ₀ ω κ) (execs (.Assign [.Name x xp] e pos :: rest) env) Ψ RA := fun A s Z Q E hA I H kn kr => by
  refine wpAny_execs_cons (wpAny_Assign_Name (he A s Z _ E hA I H fun a v Z₁ s₁ x₁ hf ho pv => ?_) hs)
  refine st_name x₁.inv (H.owns I x₁ hf ho) pv (hu a) pl hk fun s₂ x₂ H₂ => ?_
  exact k a A s₂ Z₁ Q E hA x₂.inv H₂ (fun Z₃ s₃ x₃ H₃ => kn Z₃ s₃ (((Step.to x₁).trans x₂).trans x₃) H₃) fun v Z₃ s₃ x₃ r => kr v Z₃ s₃ (((Step.to x₁).trans x₂).trans x₃) r
theorem eg_freeze {a : Addr} {ds : List PV} (u : OF ω a ds ω') (q : Rfz a ds ρ ρ') (k : EXG C n X (FS C env nm oc sc X ρ' ω' κ) (execs rest env) Ψ RA) :
    EXG C n X (FS C env nm oc sc X ρ ω κ) (execs rest env) Ψ RA := fun A s Z Q E hA I H kn kr => by
  obtain ⟨Z', st, H', _⟩ := H.freeze I u q
  exact k A s Z' Q E hA st.inv H' (fun Z₂ s₂ x₂ H₂ => kn Z₂ s₂ (st.trans x₂) H₂) fun v Z₂ s₂ x₂ r => kr v Z₂ s₂ (st.trans x₂) r
theorem op_isnot_none {x : Str} : OP2 C n (compareOp .IsNot) (is (.str x)) (is .none) (is (.bool true)) := fun A s Z u v Q E hA I hu hv k => by
  obtain ⟨_, rfl⟩ := rdi hu; obtain ⟨_, rfl⟩ := rdi hv
  rename_i t
  have e : (!(Value.str x t == Value.none)) = true := by simp
  exact wpAny_pure (a := Value.bool (!(Value.str x t == Value.none))) (by rw [e]; exact k _ Z _ (StepX.refl I) (.bool _))
end
end
section
open PySem.SeqAt
section
variable {C : Cx} {n : Nat} {x sep : Str} {xs : List Str}
theorem hasM_str {name : Str} {id : String} (h1 : Slot "str" name id) (h2 : typeOf (.builtin id) = pure (.type "method_descriptor")) : HasM C name (is (.str x)) id := ⟨"str", F.plainAttrs_str, h1, h2, fun Z s v I h => by
  obtain ⟨_, rfl⟩ := rdi h; exact ⟨typeIs_str _ _ _, fun a h => by cases h⟩⟩
theorem RdL.strs {Z : Fz} : ∀ {vs : List Value} {xs : List Str}, RdL Z vs (xs.map .str) → ∃ l : List (Str × Tok), vs = strValues l ∧ l.map (·.1) = xs
  | [], [], .nil => ⟨[], rfl, rfl⟩
  | _, _ :: _, .cons h r => by
    obtain ⟨l, e1, e2⟩ := RdL.strs r
    cases h with
    | str _ t => exact ⟨(_, t) :: l, by rw [e1]; rfl, by rw [List.map_cons, e2]⟩
theorem fn_join (hg : (Builtin.Str.glued sep xs).length ≤ sizeLine) (hl : Builtin.Str.tooLong (xs.toArray.foldl (· + ·.length + sep.length) 0) = false) : FN C n (.builtin "str.join") [is (.str sep), is (.list (xs.map .str))] (is (.str (Builtin.Str.glued sep xs))) := fn2 fun A s Z u v Q E hA I h h' k => by
  obtain ⟨t, rfl⟩ := rdi h
  obtain ⟨a, m, vs, rfl, hz, r⟩ := rdi h'
  obtain ⟨l, rfl, rfl⟩ := r.strs
  refine call_meets F.slot_str_join (typeIs_str s sep t) F.entry_str_join (F.args_str_join_2 _ _) (meets_str_join_list sep t a l hl) ⟨isList_of I hz, ?_⟩
  cases l with
  | nil => exact ⟨hg, k _ Z _ (Step.toks I _) (.str _ _)⟩
  | cons p l =>
  cases l with
  | nil => exact k _ Z _ (StepX.refl I) (.str _ _)
  | cons q r => exact ⟨hg, k _ Z _ (Step.toks I _) (.str _ _)⟩
theorem fn_upper (h : Builtin.Str.tooLong (placed x fun _ c => Unicode.upperOf c).size = false) : FN C n (.builtin "str.upper") [is (.str x)] (is (.str ⟨placed x fun _ c => Unicode.upperOf c⟩)) := fn1 fun A s Z u Q E hA I h' k => by
  obtain ⟨t, rfl⟩ := rdi h'
  refine call_gives F.slot_str_upper (typeIs_str s x t) F.entry_str_upper (F.args_str_upper_1 _) (gives_str_upper x t h) ⟨by have := h; simp only [Builtin.Str.tooLong, decide_eq_false_iff_not, Nat.not_lt] at this; exact this, k _ Z _ (Step.toks I _) (.str _ _)⟩
theorem fn_lower (h : Builtin.Str.tooLong (placed x fun i _ => Unicode.lowerAt x.cps i).size = false) : FN C n (.builtin "str.lower") [is (.str x)] (is (.str ⟨placed x fun i _ => Unicode.lowerAt x.cps i⟩)) := fn1 fun A s Z u Q E hA I h' k => by
  obtain ⟨t, rfl⟩ := rdi h'
  exact call_gives F.slot_str_lower (typeIs_str s x t) F.entry_str_lower (F.args_str_lower_1 _) (gives_str_lower x t h) ⟨by have := h; simp only [Builtin.Str.tooLong, decide_eq_false_iff_not, Nat.not_lt] at this; exact this, k _ Z _ (Step.toks I _) (.str _ _)⟩
theorem hasM_join : HasM C "join" (is (.str x)) "str.join" := hasM_str F.slot_str_join F.type_str_join
theorem hasM_upper : HasM C "upper" (is (.str x)) "str.upper" := hasM_str F.slot_str_upper F.type_str_upper
theorem hasM_lower : HasM C "lower" (is (.str x)) "str.lower" := hasM_str F.slot_str_lower F.type_str_lower
end
end
noncomputable def instM (H : Addr) : Str → Option Value := fun y => if y = sQ "_headers" then some (.ref H) else none
theorem instM_none {H : Addr} {y : Str} (h : y ≠ sQ "_headers") : instM H y = none := if_neg h
noncomputable def tabV (H : Addr) : Vp := ⟨fun Z v => ∃ T, v = .ref T ∧ ∀ h : Heap, (∀ b o, Z b = some o → h.get? b = some o) → h.Inst T 283 (instM H), fun k ⟨T, e, h⟩ => ⟨T, e, fun h' k' => h h' fun b o z => k' b o (k b o z)⟩⟩
section
variable {C : Cx}
theorem inst_meth (K : HdrK C) {Z : Fz} {s : Shared} (I : Inv C Z s) {H T f : Addr} {fd : FuncData} {mN : Str → Option Value} {name : Str} {y : Option Value} (N : HNs C mN) (hf : mN name = some (.ref f))
    (hfo : C.Z0 f = some { cls := .type "function", data := .func fd }) (hB : typeLookup (.type "object") name = pure y) (hsh : instM H name = none) (ht : ∀ h : Heap, (∀ b o, Z b = some o → h.get? b = some o) → h.Inst T 283 (instM H))
    {A : Around} {E : Value → Shared → Prop} {Q : Value × List Value → Shared → Prop} {pl : Sem Bool} (q : Q (.ref f, [.ref T]) s) : wpAny (model C.prog C.w) A (getMethod (.ref T) name pl) Q E s := by
  obtain ⟨k2, k3, hC⟩ := K.cls
  have kb : ∀ b o, C.Z0 b = some o → s.heap.get? b = some o := fun b o e => I.heap _ _ (I.base _ _ e)
  obtain ⟨h, g, d, t, os⟩ := s
  exact method_of (kb _ _ hC) (N.at_ _ kb) N.ga N.gh hf (kb _ _ hfo) rfl hB (ht _ I.heap) hsh q
theorem lk_conv : typeLookup (.type "object") (sQ "_convert_string_type") = pure none := by rw [typeLookup_type, builtinLookup_eq_fast]; kernel_rfl
theorem lk_headers : typeLookup (.type "object") (sQ "_headers") = pure none := by rw [typeLookup_type, builtinLookup_eq_fast]; kernel_rfl
theorem lk_add : typeLookup (.type "object") (sQ "add_header") = pure none := by rw [typeLookup_type, builtinLookup_eq_fast]; kernel_rfl
theorem lk_items : typeLookup (.type "object") (sQ "items") = pure none := by rw [typeLookup_type, builtinLookup_eq_fast]; kernel_rfl
theorem lk_all : typeLookup (.type "object") (sQ "get_all") = pure none := by rw [typeLookup_type, builtinLookup_eq_fast]; kernel_rfl
theorem wpAny_constBool {M : Model} {A : Around} {E : Value → Shared → Prop} {s : Shared} {env : Env} {b : Bool} {k : Nat} {p : Pos} {Q : Value → Shared → Prop} (q : Q (.bool b) s) : wpAny M A (eval (.Constant (.bool b) k p) env) Q E s := by
  rw [eval_Constant]; exact wpAny_pure q
theorem ev_convk (K : HdrK C) {n : Nat} {Φ : Asn C} {env : Env} {P : Vp} {o e : Expr} {x : Str} {b : Bool} {kk : Nat} {apos pos cp kp : Pos} (hP : ∀ Z v, P.at_ Z v → ∃ H, (tabV H).at_ Z v) (ho : EV C (n + 2) Φ (eval o env) P) (he : EV C (n + 2) Φ (eval e env) (is (.str x))) (hx : x.cps.size ≤ 2 ^ 40) (hno : noHit (if b then codeN else codeV) x.cps 0 = true)
    (hbase : attributeBase o (sQ "_convert_string_type") env (eval o env) = eval o env := by rfl) (hline : (apos.endLine == pos.line) = true := by rfl) (hst : starEach [e] env = [(false, eval e env)] := by rfl) :
    EV C (n + 2) Φ (eval (.Call (.Attribute o (sQ "_convert_string_type") apos) [e] [⟨some (sQ "name"), .Constant (.bool b) kk cp, kp⟩] pos) env) (is (.str x)) := fun A s Z Q E hA I Hh k => by
  obtain ⟨mN, N⟩ := K.ns
  obtain ⟨doc, pm, c, hfo, hcd⟩ := K.conv
  refine call_own hbase (by rw [hst]; rfl) hline (ho A s Z _ E hA I Hh fun v Z₁ s₁ x₁ pv => ?_)
  obtain ⟨H, T, rfl, ht⟩ := hP _ _ pv
  refine ⟨T, 184, { cls := .type "function", data := .func (mFd (mthSt pw 79 1) (sQ "Headers._convert_string_type") .none doc pm (.ref c)) }, mFd (mthSt pw 79 1) (sQ "Headers._convert_string_type") .none doc pm (.ref c), rfl, rfl, fun E' Q' pl q => inst_meth K x₁.inv (H := H) N N.conv hfo lk_conv (instM_none (by decide +kernel)) ht q, ?_⟩
  rw [hst]
  show wpAny _ A (evalArgs (.ref 184) true ((false, eval e env) :: []) _) _ _ _
  refine evalArgs_kw rfl (Calls.spliced_cons (he A s₁ Z₁ _ E hA x₁.inv (Φ.stable I Hh x₁) fun v Z₂ s₂ x₂ pv => Calls.spliced_nil ?_))
  show wpAny _ A (evalAll [do let v ← eval (.Constant (.bool b) kk cp) env; standAt pos; pure v]) _ _ _
  refine wpAny_evalAll_cons (wpAny_bind (wpAny_constBool (wpAny_bind (wpAny_standAt (wpAny_pure (wpAny_evalAll_nil ?_))))))
  refine ⟨x₂.inv.heap _ _ (x₂.inv.base _ _ hfo), ?_⟩
  exact conv_call K (n := n) b x hx hno hA x₂.inv pv fun v' Z₃ s₃ x₃ p₃ => k v' Z₃ s₃ ((x₁.trans x₂).trans x₃) p₃
theorem load_list (K : HdrK C) {Z : Fz} {s : Shared} (I : Inv C Z s) {H T : Addr} (ht : ∀ h : Heap, (∀ b o, Z b = some o → h.get? b = some o) → h.Inst T 283 (instM H))
    {A : Around} {E : Value → Shared → Prop} {Q : Value → Shared → Prop} {expr : Bool} (q : Q (.ref H) { s with toks := s.toks + 1 }) : wpAny (model C.prog C.w) A (getAttr (.ref T) (sQ "_headers") expr) Q E s := by
  obtain ⟨mN, N⟩ := K.ns
  obtain ⟨k2, k3, hC⟩ := K.cls
  have kb : ∀ b o, C.Z0 b = some o → s.heap.get? b = some o := fun b o e => I.heap _ _ (I.base _ _ e)
  obtain ⟨h, g, d, t, os⟩ := s
  exact load_attr (kb _ _ hC) (N.at_ _ kb) N.ga N.hd lk_headers (ht _ I.heap) (if_pos rfl) rfl q
theorem ex_hdr_append (K : HdrK C) {n : Nat} {X : Addr → Prop} {R : Vp} {env : Env} {nm oc : List Str} {sc : List (Str × NameKind)} {ω ω' : List (Addr × List PV)} {κ : Addr → Option Obj} {ρ : List (Option Vp)} {self : Str} {p1 p2 apos cpos epos : Pos} {elt : Expr} {H : Addr} {d : PV} {ds : List PV}
    (hr : At nm ρ self (tabV H)) (he : EV C n (FS C env nm oc sc X ρ ω κ) (eval elt env) (is d)) (u : OU ω H ds (ds ++ [d]) ω') (hsz : ds.length ≤ sizeLine)
    (hbase : attributeBase (.Attribute (.Name self p1) (sQ "_headers") p2) "append" env (eval (.Attribute (.Name self p1) (sQ "_headers") p2) env) = eval (.Attribute (.Name self p1) (sQ "_headers") p2) env := by rfl) (hline : (apos.endLine == cpos.line) = true := by rfl)
    (hfew : ((backTo cpos (starEach [elt] env)).all (fun x => !x.1) && (backToKw cpos (keywordEach [] env)).all (fun x => x.1.isSome)
      && decide (([elt] : List Expr).length + ([] : List Keyword).length + (if ([] : List Keyword).isEmpty then 0 else 1) < 30)) = true := by rfl)
    (htrees : backTo cpos (starEach [elt] env) = [(false, eval elt env)] := by rfl) (hi : interactive env = false := by rfl) :
    EX C n X (FS C env nm oc sc X ρ ω κ) (exec (.Expr (.Call (.Attribute (.Attribute (.Name self p1) (sQ "_headers") p2) "append" apos) [elt] [] cpos) epos) env) (FS C env nm oc sc X ρ ω' κ) R := fun A s Z Q E hA I Hh kn kr => by
  rw [PySem.exec_Expr (hi := hi) (hs := rfl)]
  refine wpAny_bind (wpAny_standAt (wpAny_bind (wpAny_Call_append hbase hfew hline htrees (Attribute_name (ev_name (n := n) hr A s Z _ E hA I Hh fun v Z₁ s₁ x₁ pv => ?_)))))
  obtain ⟨T, rfl, ht⟩ := pv
  have H₁ := (FS C env nm oc sc X ρ ω κ).stable I Hh x₁
  refine load_list K x₁.inv ht ?_
  have x₁' : Step C Z₁ s₁ Z₁ { s₁ with toks := s₁.toks + 1 } := Step.toks x₁.inv _
  have H₁' := (FS C env nm oc sc X ρ ω κ).stable x₁.inv H₁ x₁'
  obtain ⟨hz, vs, mm, e, rr⟩ := H₁'.own _ u.mem
  refine ⟨H, vs.toArray, rfl, ⟨_, mm, e, rfl, rfl, rfl⟩, ?_⟩
  refine he A _ Z₁ _ E hA x₁'.inv H₁' fun y Z₂ s₂ x₂ py => ?_
  refine call_append x₂.inv ((FS C env nm oc sc X ρ ω κ).stable x₁'.inv H₁' x₂) u py hsz fun s₃ x₃ H₃ => ?_
  rw [dropValue_plain (by intro _ q; cases q)]
  exact wpAny_pure (kn Z₂ s₃ ((((Step.to x₁).trans (Step.to x₁')).trans (Step.to x₂)).trans x₃) H₃)
theorem add_call (K : HdrK C) {n : Nat} {H T : Addr} {hs : List PV} {nm vl : Str} (hn1 : nm.cps.size ≤ 1000) (hn2 : noHit codeN nm.cps 0 = true) (hv1 : vl.cps.size ≤ 1000) (hv2 : noHit codeV vl.cps 0 = true) (hsz : hs.length ≤ sizeLine)
    {A : Around} {s : Shared} {Z : Fz} {vn vv : Value} {Q : Value → Shared → Prop} {E : Value → Shared → Prop} (hA : Room (n + 3) A) (I : Inv C Z s) (ht : (tabV H).at_ Z (.ref T)) (ho : Owned Z s.heap (H, hs)) (hn : Rd Z vn (.str nm)) (hv : Rd Z vv (.str vl))
    (k : ∀ Z' s', StepX C (· = H) Z s Z' s' → Owned Z' s'.heap (H, hs ++ [.tup [.str nm, .str vl]]) → Q .none s') : wpAny (model C.prog C.w) A (call (.ref 280) [.ref T, vn, vv]) Q E s := by
  obtain ⟨doc, pm, c, hfo, hcd⟩ := K.add
  obtain ⟨k2, k3, hC⟩ := K.cls
  refine clo_enterB (n := n + 1) (args := ⟨[.ref T, vn, vv], []⟩) (P := fun Z₀ vs => ∃ d, vs = [.ref T, vn, vv, .ref d] ∧ (tabV H).at_ Z₀ (.ref T) ∧ Rd Z₀ vn (.str nm) ∧ Rd Z₀ vv (.str vl) ∧ (emptyD C).at_ Z₀ (.ref d)) (fd := mFd (mthSt pw 79 16) (sQ "Headers.add_header") .none doc pm (.ref c)) (xs := [sQ "self", sQ "_name", sQ "_value", sQ "_params"]) (oc := [sQ "self", sQ "_name", sQ "_value", sQ "_params", sQ "parts", sQ "k", sQ "v"])
    (nm := [sQ "self", sQ "_name", sQ "_value", sQ "_params", sQ "parts", sQ "k", sQ "v"]) (ρ := [some (tabV H), some (is (.str nm)), some (is (.str vl)), some (emptyD C), none, none, none]) (ω := [(H, hs)]) (sc := (mFd (mthSt pw 79 16) (sQ "Headers.add_header") .none doc pm (.ref c)).scope.names) K.q I hA (I.base _ _ hfo) rfl rfl (hcd.le I.base) rfl rfl rfl rfl rfl rfl ?_ rfl rfl (by decide +kernel) ?_ ?_ ?_ ?_ rfl rfl rfl
  · intro Q' E' kk
    show wpAny _ _ (alloc { cls := .type "dict", data := .dict #[] } >>= fun d => pure [(sQ "self", .ref T), (sQ "_name", vn), (sQ "_value", vv), (sQ "_params", .ref d)]) Q' E' s
    refine wpAny_bind (wpAny_alloc ?_)
    have st := StepX.alloc (X := No) I (o := { cls := .type "dict", data := .dict #[] }) (t := s.toks) rfl
    have hlow : 283 < s.heap.objs.size := Heap.lt_size (I.heap _ _ (I.base _ _ hC))
    obtain ⟨o₀, hd, ho₀⟩ := Heap.dictOf_iff.mp (Heap.DictOf.new (knd := PySem.strKind C.prog C.w) s.heap)
    have eo : o₀ = { cls := .type "dict", data := .dict #[] } := by
      have := Heap.get?_push_size s.heap (o := { cls := .type "dict", data := .dict #[] }) rfl
      rw [this] at hd; cases hd; rfl
    refine wpAny_pure (kk [.ref T, vn, vv, .ref s.heap.objs.size] _ _ rfl st ⟨_, rfl, Vp.mono _ st.le ht, hn.le st.le, hv.le st.le, _, _, rfl, ?_, put_self, eo ▸ ho₀⟩)
    have : s.heap.objs.size ≠ sysModules := fun e => by rw [e] at hlow; revert hlow; decide
    simpa using this
  · intro p hp; cases List.mem_singleton.mp hp; exact ho
  · simp
  · rintro L h' vs Z₀ ⟨d, rfl, h1, h2, h3, h4⟩ hns
    exact .va ⟨by decide +kernel, .inl ⟨rfl, _, hns, rfl⟩⟩ h1 (.va ⟨by decide +kernel, .inl ⟨rfl, _, hns, rfl⟩⟩ h2 (.va ⟨by decide +kernel, .inl ⟨rfl, _, hns, rfl⟩⟩ h3 (.va ⟨by decide +kernel, .inl ⟨rfl, _, hns, rfl⟩⟩ h4 (.un (.un (.un .nil))))))
  · intro L X A' Z₀ s₁ E' hA' I₁ st hX Hh
    refine eg_run (RA := fun Z h v => False) (ownAsn C H (hs ++ [.tup [.str nm, .str vl]])) ?_ hA' I₁ Hh (fun Z' s' x' H' => ?_) fun v Z' s' x' ra => ra.elim
    rotate_left
    · exact k Z' s' (((Step.to st).trans x').hideY fun b hb => (hX b hb).imp id fun q => by simpa using q) H'
    · clear k Hh
      apply eg_new (ρ' := fun P => [some (tabV H), some (is (.str nm)), some (is (.str vl)), some (emptyD C), some (isv (.ref P)), none, none]) (ds := [])
      · apply evn_listL
        · walk_at "ev"
        · walk_at "at"
        · exact Nat.le_of_ble_eq_true rfl
      · intro P; exact .there (.there (.there (.there .here)))
      · exact ⟨by decide +kernel, by decide +kernel⟩
      · exact rfl
      · exact rfl
      · intro P
        apply eg_ifs (c := true)
        · apply tv_cmp
          · walk_at "ev"
          · walk_at "ev"
          · exact op_isnot_none
          · exact rfl
        · intro _
          apply eg_cons
          · apply ex_assign
            · apply ev_convk K (b := false) (fun _ _ h => ⟨H, h⟩)
              · walk_at "ev"
              · walk_at "ev"
              · lia
              · exact hv2
            · walk_at "at"
            · exact ⟨by decide +kernel, by decide +kernel⟩
            · exact rfl
            · exact rfl
          apply eg_cons
          · apply ex_append (d := .str vl) (ds := [])
            · walk_at "at"
            · walk_at "ev"
            · exact OU.here
            · exact Nat.le_of_ble_eq_true rfl
          apply eg_cons
          · apply ex_for (ds := []) (ρs := fun _ => [some (tabV H), some (is (.str nm)), some (is (.str vl)), some (emptyD C), some (isv (.ref P)), none, none]) (ωs := fun _ => [(P, [.str vl]), (H, hs)])
            · apply it_dict0
              · walk_at "ev"
              · exact rfl
              · exact rfl
            · intro i; rfl
            · intro κ' i d hd; simp at hd
          apply eg_freeze .here (.same (.same (.same (.same (.it (.same (.same .nil)))))))
          apply eg_cons
          · apply ex_hdr_append K (H := H) (d := .tup [.str nm, .str vl]) (ds := hs)
            · walk_at "at"
            · apply ev_tupL
              · apply el_cons
                · apply ev_convk K (b := true) (fun _ _ h => ⟨H, h⟩)
                  · walk_at "ev"
                  · walk_at "ev"
                  · lia
                  · exact hn2
                · apply el_cons
                  · apply ev_d (d' := .str vl)
                    · apply ev_meth
                      · walk_at "ev"
                      · exact hasM_join
                      · walk_at "ev"
                      · apply fn_join (xs := [vl])
                        · show vl.cps.size ≤ sizeLine
                          rw [sizeLine_eq]; lia
                        · show decide (0 + vl.cps.size + _ > sizeLine) = false
                          rw [decide_eq_false_iff_not, sizeLine_eq]
                          have : (sQ "; ").length = 2 := by decide +kernel
                          lia
                      · exact rfl
                      · exact rfl
                      · exact rfl
                      · exact rfl
                      · exact rfl
                    · show PV.str (Builtin.Str.glued _ [vl]) = _
                      rfl
                  · walk_at "ev"
                  · exact rfl
                · exact rfl
              · walk_at "at"
              · exact Nat.le_of_ble_eq_true rfl
            · exact OU.here
            · exact hsz
          apply eg_end
          intro Z h H
          exact H.own _ (.head _)
        · intro h; cases h
end
section
open PySem.SeqAt
section
variable {prog : Program} {w : World} {A : Around} {E : Value → Shared → Prop} {s : Shared} {env : Env}
theorem sub_sliceT {value : Expr} {lower upper : Option Expr} {p pos : Pos} {T id : String} {Q : Value → Shared → Prop}
    (hl : typeLookup (.type T) "__getitem__" = pure (some (.builtin id)))
    (h : wpAny (model prog w) A (eval value env) (fun o s₁ => wpAny (model prog w) A (eval (.Slice lower upper none p) env) (fun i s₂ => s₂.TypeIs o T ∧ wpAny (model prog w) A (getItem o i) Q E s₂) E s₁) E s) :
    wpAny (model prog w) A (eval (.Subscript value (.Slice lower upper none p) pos) env) Q E s := by
  rw [eval_Subscript]
  refine wpAny_bind (wpAny_mono h (fun o s₁ h₁ => wpAny_bind (wpAny_holding (wpAny_mono h₁ (fun i s₂ h₂ => wpAny_bind (wpAny_standAt ?_)) fun _ _ x => x)))
    fun _ _ x => x)
  have fin : wpAny (model prog w) A (operate [i, o] (getItem o i)) (fun r s₃ => wpAny (model prog w) A (letTemporaryGo value o r >>= fun _ => pure r) Q E s₃) E s₂ :=
    wpAny_operating (wpAny_mono h₂.2 (fun r s₃ h₃ => wpAny_bind (wpAny_letTemporaryGo (wpAny_pure h₃))) fun _ _ x => x)
  refine wpAny_bind ?_
  rw [getitemInPython_of_ne h₂.1.not_modules]
  refine wpAny_bind (wpAny_specialOf h₂.1 hl ?_)
  first
    | exact wpAny_pure (wpAny_bind fin)
    | exact wpAny_bind (wpAny_pure (wpAny_bind fin))
    | exact wpAny_bind fin
end
section
variable {C : Cx} {n : Nat} {Φ : Asn C} {env : Env} {l m ds : List PV} {x y : Str} {lo hi stp : Option Int} {e : Expr} {pos p : Pos}
theorem ev_slice_listT {v : Expr} {l u : Option Expr} (hv : EV C n Φ (eval v env) (is (.list ds))) (hl : PT C n Φ (evalPart l env) lo) (hu : PT C n Φ (evalPart u env) hi) (hsz : ds.length ≤ sizeLine)
    : EV C n Φ (eval (.Subscript v (.Slice l u none p) pos) env) (is (.list (pickL ds lo hi none))) := fun A s Z Q E hA I H k => by
  refine sub_sliceT (T := "list") list_getitem_lookup (hv A s Z _ E hA I H fun o Z₁ s₁ x₁ p₁ => wpAny_Slice ?_)
  refine hl A s₁ Z₁ _ E hA x₁.inv (Φ.stable I H x₁) fun q Z₂ s₂ x₂ e₂ => ?_
  refine hu A s₂ Z₂ _ E hA x₂.inv (Φ.stable x₁.inv (Φ.stable I H x₁) x₂) fun q' Z₃ s₃ x₃ e₃ => ?_
  rw [evalPart_none]
  obtain ⟨a, n, vs, rfl, hz, r⟩ := rdi p₁
  have hs := isList_of x₃.inv (x₃.le _ _ (x₂.le _ _ hz))
  refine wpAny_pure ⟨(hs.push _).typeIs, ?_⟩
  refine wpAny_getItem_list_slice (hs.push _) (Heap.IsSliceOf.new ..) isPart_of isPart_of .none (by simp) ?_ (by rw [List.size_toArray, r.length]; exact hsz)
  rw [e₂, e₃]
  have st1 := slice_push (C := C) x₃.inv (o := { cls := .type "slice", data := .fields #[(qv q), (qv q'), .none] })
  have st := StepX.alloc (X := No) st1.inv (o := { cls := .type "list", data := .seq (slicePick vs.toArray lo hi none) }) (t := s₃.toks) rfl
  refine k _ _ _ (((x₁.trans x₂).trans x₃).trans (st1.trans st)) (.list (n := 0) (vs := (slicePick vs.toArray lo hi none).toList) (put_self (Z := Z₃)) ?_)
  exact (r.pick).le ((x₂.trans x₃).le.trans st.le)
end
end
noncomputable def tabF (hs : List PV) : Vp := ⟨fun Z v => ∃ T H, v = .ref T ∧ (∀ h : Heap, (∀ b o, Z b = some o → h.get? b = some o) → h.Inst T 283 (instM H)) ∧ Rd Z (.ref H) (.list hs), fun k ⟨T, H, e, h, r⟩ => ⟨T, H, e, fun h' k' => h h' fun b o z => k' b o (k b o z), r.le k⟩⟩
theorem tabF_tabV {Z : Fz} {hs : List PV} {v : Value} (h : (tabF hs).at_ Z v) : ∃ H, (tabV H).at_ Z v := let ⟨T, H, e, i, _⟩ := h; ⟨H, T, e, i⟩
noncomputable abbrev hpV (p : Str × Str) : PV := .tup [.str p.1, .str p.2]
section
variable {C : Cx}
theorem codeZ_of {c : Addr} {q : Str} (h : CodeIn C.Z0 c q) : CodeZ C (.ref c) q := let ⟨o, vs, t, e1, e2, e3⟩ := h; ⟨c, o, vs, t, rfl, e1, e2, e3⟩
theorem ex_add (K : HdrK C) {n : Nat} {X : Addr → Prop} {R : Vp} {env : Env} {nm oc : List Str} {sc : List (Str × NameKind)} {ω ω' : List (Addr × List PV)} {κ : Addr → Option Obj} {ρ : List (Option Vp)} {x : Str} {p1 apos cpos epos : Pos} {e1 e2 : Expr} {H : Addr} {a b : Str} {hs : List PV}
    (hr : At nm ρ x (tabV H)) (he : EL C (n + 3) (FS C env nm oc sc X ρ ω κ) (spliced (backTo cpos (starEach [e1, e2] env))) [is (.str a), is (.str b)]) (u : OU ω H hs (hs ++ [hpV (a, b)]) ω') (hsz : hs.length ≤ sizeLine)
    (hn1 : a.cps.size ≤ 1000) (hn2 : noHit codeN a.cps 0 = true) (hv1 : b.cps.size ≤ 1000) (hv2 : noHit codeV b.cps 0 = true)
    (hbase : attributeBase (.Name x p1) (sQ "add_header") env (eval (.Name x p1) env) = eval (.Name x p1) env := by rfl) (hline : (apos.endLine == cpos.line) = true := by rfl)
    (hform : methodCallForm (([e1, e2] : List Expr).length + ([] : List Keyword).length) (backTo cpos (starEach [e1, e2] env)) (backToKw cpos (keywordEach [] env)) = true := by rfl) (hst : starEach [e1, e2] env = (false, eval e1 env) :: starEach [e2] env := by rfl) (hi : interactive env = false := by rfl) :
    EX C (n + 3) X (FS C env nm oc sc X ρ ω κ) (exec (.Expr (.Call (.Attribute (.Name x p1) (sQ "add_header") apos) [e1, e2] [] cpos) epos) env) (FS C env nm oc sc X ρ ω' κ) R := fun A s Z Q E hA I Hh kn kr => by
  obtain ⟨mN, N⟩ := K.ns
  obtain ⟨doc, pm, c, hfo, hcd⟩ := K.add
  rw [PySem.exec_Expr (hi := hi) (hs := rfl)]
  refine wpAny_bind (wpAny_standAt (wpAny_bind (call_own hbase hform hline (ev_name (n := n + 3) hr A s Z _ E hA I Hh fun v Z₁ s₁ x₁ pv => ?_))))
  have H₁ := (FS C env nm oc sc X ρ ω κ).stable I Hh x₁
  have pv0 := pv
  obtain ⟨T, rfl, ht⟩ := pv
  refine ⟨T, 280, { cls := .type "function", data := .func (mFd (mthSt pw 79 16) (sQ "Headers.add_header") .none doc pm (.ref c)) }, mFd (mthSt pw 79 16) (sQ "Headers.add_header") .none doc pm (.ref c), rfl, rfl, fun E' Q' pl q => inst_meth K x₁.inv (H := H) N N.add hfo lk_add (instM_none (by decide +kernel)) ht q, ?_⟩
  have he' := he A s₁ Z₁
  rw [hst] at he' ⊢
  refine Calls.evalArgs_plain (he' _ E hA x₁.inv H₁ fun vs Z₂ s₂ x₂ ps => ⟨x₂.inv.heap _ _ (x₂.inv.base _ _ hfo), ?_⟩)
  have H₂ := (FS C env nm oc sc X ρ ω κ).stable x₁.inv H₁ x₂
  obtain ⟨v1, _, rfl, r1, ps⟩ := sati ps
  obtain ⟨v2, _, rfl, r2, ps⟩ := sati ps
  obtain rfl := sati ps
  refine add_call K (n := n) hn1 hn2 hv1 hv2 hsz hA x₂.inv (Vp.mono _ x₂.le pv0) (H₂.own _ u.mem) r1 r2 fun Z₃ s₃ x₃ ho => ?_
  obtain ⟨st, H₃⟩ := H₂.reown x₂.inv u x₃ ho
  rw [dropValue_plain (by intro _ q; cases q)]
  exact wpAny_pure (kn Z₃ s₃ (((Step.to x₁).trans (Step.to x₂)).trans st) H₃)
theorem ev_hdrF (K : HdrK C) {n : Nat} {X : Addr → Prop} {env : Env} {nm oc : List Str} {sc : List (Str × NameKind)} {ω : List (Addr × List PV)} {κ : Addr → Option Obj} {ρ : List (Option Vp)} {self : Str} {p1 p2 : Pos} {hs : List PV} (hr : At nm ρ self (tabF hs)) :
    EV C n (FS C env nm oc sc X ρ ω κ) (eval (.Attribute (.Name self p1) (sQ "_headers") p2) env) (is (.list hs)) := fun A s Z Q E hA I Hh k => by
  refine Attribute_name (ev_name (n := n) hr A s Z _ E hA I Hh fun v Z₁ s₁ x₁ pv => ?_)
  obtain ⟨T, H, rfl, ht, hr⟩ := pv
  exact load_list K x₁.inv ht (k _ Z₁ _ (x₁.trans (Step.toks x₁.inv _)) hr)
theorem pick_all {ds : List PV} : pickL ds none none none = ds := by
  unfold pickL
  have e : sliceBounds none none none ds.length = (((0 : Nat) : Int), ((ds.length : Nat) : Int), 1) := by
    simp [sliceBounds]
  rw [e]
  show List.filterMap (ds[·]?) (sliceRange ((0 : Nat) : Int) ((ds.length : Nat) : Int) 1) = ds
  rw [sliceRange_one, Nat.sub_zero]
  have := pick_run ds.toArray 0 ds.length
  simp at this ⊢
  exact this
theorem fn_items (K : HdrK C) {hs : List PV} (hsz : hs.length ≤ sizeLine) : FN C 2 (.ref 247) [tabF hs] (is (.list hs)) := by
  obtain ⟨doc, pm, c, hfo, hcd⟩ := K.items
  refine fn_def (n := 0) (sc := scOf (mthSt pw 79 11)) (ρ := [some (tabF hs)]) (nm := [sQ "self"]) (xs := [sQ "self"]) K.q hfo rfl (codeZ_of hcd) rfl rfl rfl rfl rfl (bnd1 fun _ => by kernel_rfl) rfl (by decide +kernel) (by decide +kernel) (by decide +kernel) rfl rfl fun L X => ?_
  apply ex_ret
  apply ev_d
  · apply ev_slice_listT
    · apply ev_hdrF K
      walk_at "at"
    · exact pt_none
    · exact pt_none
    · exact hsz
  · rw [pick_all]
noncomputable def lowT (x : Str) : Str := ⟨placed x fun i _ => Unicode.lowerAt x.cps i⟩
noncomputable def uppT (x : Str) : Str := ⟨placed x fun _ c => Unicode.upperOf c⟩
theorem fn_all (K : HdrK C) {hs : List (Str × Str)} {x : Str} (hsz : hs.length ≤ sizeLine) (hx0 : (lowT x).cps.size ≤ 1000) (hno : noHit codeN (lowT x).cps 0 = true) (hlow : ∀ p ∈ hs, (lowT p.1).cps.size ≤ 1000) :
    FN C 3 (.ref 222) [tabF (hs.map hpV), is (.str x)] (is (.list ((hs.filter fun p => lowT p.1 == lowT x).map fun p => .str p.2))) := by
  obtain ⟨doc, pm, c, hfo, hcd⟩ := K.all
  refine fn_def (n := 1) (sc := scOf (mthSt pw 79 7)) (ρ := [some (tabF (hs.map hpV)), some (is (.str x))]) (nm := [sQ "self", sQ "name"]) (xs := [sQ "self", sQ "name"]) K.q hfo rfl (codeZ_of hcd) rfl rfl rfl rfl rfl (bnd2 fun _ _ => by kernel_rfl) rfl (by decide +kernel) (by decide +kernel) (by decide +kernel) rfl rfl fun L X => ?_
  have tl : ∀ {y : Str}, (lowT y).cps.size ≤ 1000 → Builtin.Str.tooLong (placed y fun i _ => Unicode.lowerAt y.cps i).size = false := fun h => by
    unfold Builtin.Str.tooLong
    rw [decide_eq_false_iff_not, sizeLine_eq]
    have h' : (placed _ fun i _ => Unicode.lowerAt _ i).size ≤ 1000 := h
    lia
  apply ex_cons (Ψ := FS C _ _ _ _ X [some (tabF (hs.map hpV)), some (is (.str (lowT x)))] [] _)
  · apply ex_assign
    · apply ev_convk K (b := true) (x := lowT x) (fun _ _ h => tabF_tabV h)
      · walk_at "ev"
      · apply ev_meth0
        · walk_at "ev"
        · exact hasM_lower
        · exact fn_lower (tl hx0)
        · exact rfl
        · exact rfl
      · lia
      · exact hno
    · walk_at "at"
    · decide +kernel
    · rfl
    · exact rfl
  apply ex_ret
  apply ev_d
  · apply ev_comp1if
    apply comp1if_ok (xs := hs) (f := hpV) (h := fun p => .str p.2) (p := fun p => lowT p.1 == lowT x)
    · apply it_eq
      · apply it_list
        (apply ev_hdrF K; walk_at "at")
      · exact rfl
    · walk_at "at"
    · exact rfl
    · decide +kernel
    · exact rfl
    · exact hsz
    · intro cenv X' j hx
      apply ex_mk4
      · walk_at "at"
      · walk_at "at"
      · intro ω κ
        have hl := hlow _ hx
        apply tv_eq
        · apply tv_cmp
          · apply ev_meth0
            · apply ev_sub
              · walk_at "ev"
              · walk_at "ev"
              · walk_at "op"
            · exact hasM_lower
            · exact fn_lower (tl hl)
            · exact rfl
            · exact rfl
          · walk_at "ev"
          · walk_at "op"
          · exact rfl
        · rfl
      · intro _ ω κ
        apply ev_sub
        · walk_at "ev"
        · walk_at "ev"
        · walk_at "op"
  · rfl
end
section
open PySem.SeqAt
section
variable {C : Cx} {X : Addr → Prop} {Z Z' : Fz} {s s' : Shared} {h h' : Heap}
theorem FSp.stepY {env : Env} {nm oc : List Str} {sc : List (Str × NameKind)} {Y : Addr → Prop} {ρ : List (Option Vp)} {ω : List (Addr × List PV)} {κ : Addr → Option Obj} (I : Inv C Z s) (H : FSp env nm oc sc X ρ ω κ Z s.heap) (x : StepX C Y Z s Z' s')
    (hL : ¬ Y env.locals) (hC : ∀ n c, env.cells.lookup n = some c → ¬ Y c) (hO : ∀ p ∈ ω, ¬ Y p.1) (hK : ∀ b o, κ b = some o → ¬ Y b) (hE : ∀ b, Y b → ∃ o, s'.heap.get? b = some o) : FSp env nm oc sc X ρ ω κ Z' s'.heap := by
  have kl : ∀ o, s.heap.get? env.locals = some o → s'.heap.get? env.locals = some o := fun o e => by
    obtain ⟨m, hn⟩ := H.loc
    exact x.keep _ o e hL (I.ns_notTab hn)
  have kc : ∀ n c, env.cells.lookup n = some c → ∀ o, s.heap.get? c = some o → s'.heap.get? c = some o := fun n c hc o e => by
    obtain ⟨_, v, hv⟩ := H.cells n c hc
    exact x.keep _ o e (hC n c hc) (I.cell_notTab hv)
  refine ⟨H.names, H.gl, H.bl, H.cellH, H.fn, H.nodup, H.apart, ?_, H.locX, ?_, fun n c hc => ?_, H.cellX, fun a ha => (x.gone ha).elim (H.cof a) (fun hy => by obtain ⟨o, e⟩ := hE a hy; rw [ha] at e; simp at e), H.vars.keeps x.le kl kc, fun p hp => ?_, H.ownX, H.ownN, fun b o e => ?_, H.heldX⟩
  · obtain ⟨m, hn⟩ := H.loc
    exact ⟨m, hn.at' kl⟩
  · obtain ⟨m, o, es, ep, e, _⟩ := H.loc
    exact x.stillNone H.locZ e hL
  · obtain ⟨hz, v, o, e, d⟩ := H.cells n c hc
    exact ⟨x.stillNone hz e (hC n c hc), v, o, kc n c hc o e, d⟩
  · obtain ⟨hz, vs, n, e, r⟩ := H.own p hp
    have hn : ∀ t ∈ C.tabs, p.1 ≠ t.1 := I.tab_fields e fun ps q => by cases q
    exact (H.own p hp).keeps x.le (x.stillNone hz e (hO p hp)) fun o e => x.keep _ o e (hO p hp) hn
  · obtain ⟨hz, ha, ht, hl, hc, hw⟩ := H.held b o e
    exact ⟨x.stillNone hz ha (hK b o e), x.keep _ _ ha (hK b o e) (I.tab_fields ha ht), ht, hl, hc, hw⟩
end
section
variable {C : Cx} {n : Nat} {R : Vp}
theorem op_isnot_nn : OP2 C n (compareOp .IsNot) (is .none) (is .none) (is (.bool false)) := fun A s Z u v Q E hA I hu hv k => by
  obtain ⟨_, rfl⟩ := rdi hu; obtain ⟨_, rfl⟩ := rdi hv
  exact wpAny_pure (a := Value.bool (!(Value.none == Value.none))) (k _ Z _ (StepX.refl I) (.bool _))
theorem op_isnot_type {T : String} : OP2 C n (compareOp .IsNot) (isv (.type T)) (isv (.type T)) (is (.bool false)) := fun A s Z u v Q E hA I hu hv k => by
  cases hu; cases hv
  have e : (!(Value.type T == Value.type T)) = false := by simp
  exact wpAny_pure (a := Value.bool (!(Value.type T == Value.type T))) (by rw [e]; exact k _ Z _ (StepX.refl I) (.bool _))
theorem evn_ifexpF {Φ : Asn C} {env : Env} {t b o : Expr} {pos : Pos} {mk : Addr → Vp} {ds : List PV} (ht : TV C n Φ (isTrue t env (eval t env)) false) (ho : EVN C n Φ (eval o env) mk ds) : EVN C n Φ (eval (.IfExp t b o pos) env) mk ds := fun A s Z Q E hA I H k => by
  refine wpAny_IfExp (ht A s Z _ E hA I H fun Z₁ s₁ x₁ => ?_)
  exact ho A s₁ Z₁ Q E hA x₁.inv (Φ.stable I H x₁) fun a v Z₂ s₂ x₂ hf ho' pv => k a v Z₂ s₂ (x₁.trans x₂) ((x₁.gone hf).elim id fun q => q.elim) ho' pv
theorem ev_type_own {X : Addr → Prop} {env : Env} {nm oc : List Str} {sc : List (Str × NameKind)} {ω : List (Addr × List PV)} {κ : Addr → Option Obj} {ρ : List (Option Vp)} {p p2 pos : Pos} {x : Str} {a : Addr} {ds : List PV} (hb : BltZ C (sQ "type") (.type "type")) (hx : At nm ρ x (isv (.ref a))) (hm : (a, ds) ∈ ω) (hk : sc.lookup (sQ "type") = some .globalImplicit) :
    EV C n (FS C env nm oc sc X ρ ω κ) (eval (.Call (.Name (sQ "type") p) [.Name x p2] [] pos) env) (isv (.type "list")) := fun A s Z Q E hA I H k => by
  refine wpAny_Call_NameR (ev_blt (n := n) hb hk (by decide) A s Z _ E hA I H fun v Z₁ s₁ x₁ pv => ?_)
  cases pv
  have H₁ := (FS C env nm oc sc X ρ ω κ).stable I H x₁
  refine callWith_type1 (el_cons (ev_name (n := n) hx) el_nil rfl A s₁ Z₁ _ E hA x₁.inv H₁ fun vs Z₂ s₂ x₂ hs => ?_) rfl rfl
  have H₂ := (FS C env nm oc sc X ρ ω κ).stable x₁.inv H₁ x₂
  obtain ⟨_, _, rfl, hv, hr⟩ := sati hs
  obtain rfl := sati hr
  cases hv
  obtain ⟨hz, vs, m, e, r⟩ := H₂.own _ hm
  have kk := k (.type "list") Z₂ s₂ (x₁.trans x₂) rfl
  obtain ⟨h, g, d, t, os⟩ := s₂
  exact call_type_obj e rfl kk
end
end
section
open PySem.SeqAt
section
variable {C : Cx} {X Y : Addr → Prop} {Z Z' : Fz} {s s' : Shared}
end
section
variable {C : Cx} {n : Nat} {Φ : Asn C} {env : Env}
end
end
section
open PySem.SeqAt
section
variable {C : Cx} {n : Nat} {X : Addr → Prop} {R : Vp} {env : Env} {nm oc : List Str} {sc : List (Str × NameKind)} {ω ω' : List (Addr × List PV)} {κ : Addr → Option Obj} {ρ : List (Option Vp)}
theorem ex_for0 {x : Str} {xp pos : Pos} {target : Expr} {body : List Stmt} {a : Addr} (hx : At nm ρ x (isv (.ref a))) (hm : (a, []) ∈ ω) (hs : ∀ v, foldedSetIterable (.Name x xp) env v = pure v := by intro _; rfl) :
    EX C n X (FS C env nm oc sc X ρ ω κ) (exec (.For target (.Name x xp) body [] pos) env) (FS C env nm oc sc X ρ ω κ) R := fun A s Z Q E hA I H kn kr => by
  refine wpAny_For (ev_name (n := n) hx A s Z _ E hA I H fun v Z₁ s₁ x₁ pv => ?_) hs
  cases pv
  have H₁ := (FS C env nm oc sc X ρ ω κ).stable I H x₁
  obtain ⟨hz, vs, m, e, r⟩ := H₁.own _ hm
  obtain rfl := rdli r
  have hl : s₁.heap.IsList a #[] := ⟨_, e, rfl, m, rfl⟩
  refine wpAny_pyIter_list hl ?_
  have st := StepX.push (X := No) x₁.inv (o := { cls := .type "list_iterator", data := .fields #[.ref a, .int 0 0] }) (t := s₁.toks)
  have hne : a ≠ s₁.heap.objs.size := Nat.ne_of_lt (Heap.lt_size e)
  have H₂ := (FS C env nm oc sc X ρ ω κ).stable x₁.inv H₁ st
  refine codeAny_forLoop_any (fun k s' => s' = { s₁ with heap := s₁.heap.push { cls := .type "list_iterator", data := .fields #[.ref a, .int 0 0] } } ∧ k = 1) ?_ 1 ⟨rfl, rfl⟩
  rintro k s' ⟨rfl, rfl⟩
  have W := Walks.list (prog := C.prog) (w := C.w) (A := A) hA.handled s₁.heap.objs.size a hne #[]
  have hB : ∀ b, s₁.heap.get? b = none → Beside env X ω κ C.tabs b := fun b hb => Beside.of x₁.inv H₁ hb
  refine W.done _ _ _ ⟨⟨_, Heap.get?_push_size _ rfl, rfl, rfl⟩, hl.push _⟩ fun h₂ tk₂ hk₂ => ?_
  have hfr := gAb (Nat.le_refl s₁.heap.objs.size)
  obtain ⟨x₂, H₃⟩ := FSp.beside (t := tk₂) (W := [s₁.heap.objs.size]) st.inv H₂ (fun b hb => by rw [List.mem_singleton.mp hb]; exact hB _ hfr) (fun b hb => by rw [List.mem_singleton.mp hb]; exact x₁.inv.fresh hfr) hk₂
  exact wpAny_execs_nil (kn Z₁ _ (((Step.to x₁).trans (Step.to st)).trans x₂) H₃)
end
end
theorem inst_keep {h h' : Heap} {x Cc dx : Addr} {mA : Str → Option Value} (i : h.Inst x Cc mA) (hd : ∀ o, h.get? x = some o → o.dict = some dx) (k1 : ∀ o, h.get? x = some o → h'.get? x = some o) (k2 : ∀ o, h.get? dx = some o → h'.get? dx = some o) : h'.Inst x Cc mA := by
  obtain ⟨o, e, hc, hn, hdd⟩ := i
  refine ⟨o, k1 o e, hc, hn, ?_⟩
  rcases hdd with q | ⟨d, e2, hne, hns⟩
  · exact .inl q
  · have := hd o e
    rw [this] at e2; cases e2
    exact .inr ⟨dx, this, hne, hns.at k2⟩
theorem get_uniq {h : Heap} {a : Addr} {o o' : Obj} (e : h.get? a = some o) (e' : h.get? a = some o') : o = o' := Option.some.inj (e.symm.trans e')
inductive InstD (h : Heap) (T dx : Addr) : Prop where
  | mk {oT od : Obj} {es : Array DictEntry} {ep : Nat} (eT : h.get? T = some oT) (hc : oT.cls = .ref 283) (dT : oT.dict = some dx) (ne : dx ≠ T) (eD : h.get? dx = some od) (dD : od.data = .dict es ep)
theorem inst_d {h : Heap} {T dx : Addr} {mA : Str → Option Value} (i : h.Inst T 283 mA) (hd : ∀ o, h.get? T = some o → o.dict = some dx) : InstD h T dx := by
  obtain ⟨oT, eT, hc, _, hdic⟩ := i
  rcases hdic with ⟨q, _⟩ | ⟨dx', e', hne, od, es, ep, eD, hD, _⟩
  · exact nomatch q.symm.trans (hd oT eT)
  · cases e'.symm.trans (hd oT eT)
    exact .mk eT hc e' hne eD hD
theorem inst_keep2 {h h' : Heap} {x Cc dx : Addr} {oT od oT' od' : Obj} {mA : Str → Option Value} (i : h.Inst x Cc mA) (e1 : h.get? x = some oT) (hd : oT.dict = some dx) (e2 : h.get? dx = some od) (f1 : h'.get? x = some oT') (f2 : h'.get? dx = some od') (q1 : oT = oT' := by rfl) (q2 : od = od' := by rfl) : h'.Inst x Cc mA := by
  subst q1; subst q2
  exact inst_keep i (fun o e => get_uniq e1 e ▸ hd) (fun o e => get_uniq e1 e ▸ f1) fun o e => get_uniq e2 e ▸ f2
theorem no_tabC {o : Obj} {C : Addr} (h : o.cls = .ref C) (ps) : o ≠ tabObj ps := fun q => by rw [q] at h; cases h
theorem no_tabD {o : Obj} {es : Array DictEntry} {ep : Nat} (h : o.data = .dict es ep) (ps) : o ≠ tabObj ps := fun q => by rw [q] at h; cases h
theorem own_ne {Z : Fz} {h : Heap} {H T dx : Addr} {ds : List PV} (ho : Owned Z h (H, ds)) (i : InstD h T dx) : T ≠ H ∧ dx ≠ H := by
  obtain ⟨_, vs, m, e, _⟩ := ho
  have e : h.get? H = some { cls := .type "list", data := .seq vs.toArray m } := e
  obtain ⟨eT, hc, _, _, eD, hD⟩ := i
  constructor
  · rintro rfl
    rw [get_uniq eT e] at hc; cases hc
  · rintro rfl
    rw [get_uniq eD e] at hD; cases hD
section
variable {C : Cx}
noncomputable def twoK (T dx : Addr) (oT od : Obj) : Addr → Option Obj := fun b => if b = T then some oT else if b = dx then some od else none
theorem FSp.two {env : Env} {nm oc : List Str} {sc : List (Str × NameKind)} {X : Addr → Prop} {ρ : List (Option Vp)} {ω : List (Addr × List PV)} {Z : Fz} {s : Shared} {T dx : Addr} {oT od : Obj} (I : Inv C Z s) (H : FSp env nm oc sc X ρ ω (fun _ => none) Z s.heap) (hT : s.heap.get? T = some oT) (hD : s.heap.get? dx = some od) (zT : Z T = none) (zD : Z dx = none)
    (nT : ∀ ps, oT ≠ tabObj ps) (nD : ∀ ps, od ≠ tabObj ps) (XT : X T) (XD : X dx) (lT : T ≠ env.locals) (lD : dx ≠ env.locals) (hcl : env.cells = []) (wT : ∀ p ∈ ω, T ≠ p.1) (wD : ∀ p ∈ ω, dx ≠ p.1) : FSp env nm oc sc X ρ ω (twoK T dx oT od) Z s.heap := by
  refine ⟨H.names, H.gl, H.bl, H.cellH, H.fn, H.nodup, H.apart, H.loc, H.locX, H.locZ, H.cells, H.cellX, H.cof, H.vars, H.own, H.ownX, H.ownN, fun b o e => ?_, fun b o e => ?_⟩
  · unfold twoK at e
    split at e
    · rename_i q; cases e; subst q
      exact ⟨zT, hT, nT, lT, (fun n c hc => by rw [hcl] at hc; cases hc), wT⟩
    · split at e
      · rename_i q; cases e; subst q
        exact ⟨zD, hD, nD, lD, (fun n c hc => by rw [hcl] at hc; cases hc), wD⟩
      · cases e
  · unfold twoK at e
    split at e
    · rename_i q; subst q; exact XT
    · split at e
      · rename_i q; subst q; exact XD
      · cases e
theorem FSp.none_held {env : Env} {nm oc : List Str} {sc : List (Str × NameKind)} {X : Addr → Prop} {ρ : List (Option Vp)} {ω : List (Addr × List PV)} {κ : Addr → Option Obj} {Z : Fz} {h : Heap} (H : FSp env nm oc sc X ρ ω κ Z h) : FSp env nm oc sc X ρ ω (fun _ => none) Z h :=
  ⟨H.names, H.gl, H.bl, H.cellH, H.fn, H.nodup, H.apart, H.loc, H.locX, H.locZ, H.cells, H.cellX, H.cof, H.vars, H.own, H.ownX, H.ownN, (fun _ _ h => nomatch h), fun _ _ h => nomatch h⟩
inductive FinT (h0 : Heap) (T dx : Addr) (Z : Fz) (h : Heap) : Prop where
  | mk {Hd : Addr} {od oT : Obj} (ho : Owned Z h (Hd, [])) (h0' : h0.get? Hd = none) (hi : h.Inst T 283 (instM Hd)) (zT : Z T = none) (zD : Z dx = none) (eT : h.get? T = some oT) (ed : oT.dict = some dx) (eD : h.get? dx = some od) (nT : ∀ ps, oT ≠ tabObj ps) (nD : ∀ ps, od ≠ tabObj ps)
noncomputable def finA (C : Cx) (h0 : Heap) (T dx : Addr) : Asn C := ⟨FinT h0 T dx, fun I hh x => by
  obtain ⟨ho, h0', hi, zT, zD, eT, ed, eD, nT, nD⟩ := hh
  have kT := x.keep _ _ eT (fun q => q) (I.tab_fields eT nT)
  have kD := x.keep _ _ eD (fun q => q) (I.tab_fields eD nD)
  exact ⟨(ownAsn C _ []).stable I ho x, h0', inst_keep2 hi eT ed eD kT kD, x.stillNone zT eT (fun q => q), x.stillNone zD eD (fun q => q), kT, ed, kD, nT, nD⟩⟩
theorem headers_call (K : HdrK C) {n : Nat} {A : Around} {s : Shared} {Z : Fz} {Q : Value → Shared → Prop} {E : Value → Shared → Prop} (hA : Room (n + 3) A) (I : Inv C Z s)
    (k : ∀ T H Z' s', Step C Z s Z' s' → s.heap.get? H = none → Owned Z' s'.heap (H, []) → (tabV H).at_ Z' (.ref T) → Q (.ref T) s') : wpAny (model C.prog C.w) A (call (.ref 283) []) Q E s := by
  obtain ⟨mN, N⟩ := K.ns
  obtain ⟨k2, k3, hC⟩ := K.cls
  obtain ⟨doc, pm, c, hfo, hcd⟩ := K.init
  have kb : ∀ {b o}, C.Z0 b = some o → s.heap.get? b = some o := fun e => I.heap _ _ (I.base _ _ e)
  have t1 := K.type
  have t2 := K.list
  obtain ⟨h, g, d, t, os⟩ := s
  refine wpAny_call_obj_init F.objNew (kb hC) (N.at_ _ fun b o e => kb e) N.ini (kb hfo) rfl fun h' T dx hm => ?_
  have x0 : Step C Z ⟨h, g, d, t, os⟩ Z ⟨h', g, d, t, os⟩ := .keeps I hm.keeps
  have hA1 : Room (n + 2) (A.under (.builtin "type.__call__" ⟨[.ref 283], []⟩)) := ⟨by
    have := hA.depth; show A.depth + (Code.builtin "type.__call__" ⟨[.ref 283], []⟩).weight + _ ≤ _
    have : (Code.builtin "type.__call__" ⟨[.ref 283], []⟩).weight = 1 := by decide +kernel
    lia, by
    have := hA.units; show A.units + (Code.builtin "type.__call__" ⟨[.ref 283], []⟩).cUnits + _ ≤ _
    have : (Code.builtin "type.__call__" ⟨[.ref 283], []⟩).cUnits ≤ 8 := by decide +kernel
    lia, hA.handled⟩
  refine clo_enterW (n := n) (args := ⟨[.ref T], []⟩) (vs := [.ref T, .none]) (fd := mFd (mthSt pw 79 0) (sQ "Headers.__init__") (.ref 170) doc pm (.ref c)) (xs := [sQ "self", sQ "headers"]) (oc := [sQ "self", sQ "headers", sQ "k", sQ "v"])
    (nm := [sQ "self", sQ "headers", sQ "k", sQ "v"]) (ρ := [some (isv (.ref T)), some (is .none), none, none]) (ω := []) (sc := scOf (mthSt pw 79 0)) (Q := fun r s' => r = .none ∧ Q (.ref T) s') K.q x0.inv hA1 (x0.inv.base _ _ hfo) rfl rfl (hcd.le x0.inv.base) rfl rfl rfl rfl rfl (BindsTo.of_defaults rfl (x0.inv.heap _ _ (x0.inv.base _ _ K.initD)) rfl rfl rfl) rfl rfl rfl (by decide +kernel) List.Pairwise.nil (fun _ _ h => nomatch h)
    (fun a => h.get? a = none) (fun a ha => (x0.gone ha).elim id fun q => q.elim) (fun _ h => nomatch h) (fun _ h => nomatch h) List.Pairwise.nil ?_ ?_ rfl rfl rfl
  · intro L h₂ hn hk
    exact .va ⟨by decide +kernel, .inl ⟨rfl, _, hn, rfl⟩⟩ rfl (.va ⟨by decide +kernel, .inl ⟨rfl, _, hn, rfl⟩⟩ .none (.un (.un .nil)))
  · intro L A' s₁ E' hA' I₁ st hL H0
    have i0 := inst_d hm.inst hm.dict
    obtain @⟨oT, od, es, ep, eT, hcT, edx, hneD, eD, hdD⟩ := i0
    have nT := no_tabC hcT
    have nD := no_tabD hdD
    have zT : Z T = none := I.fresh hm.newX
    have zD : Z dx = none := I.fresh hm.newD
    have eT1 := st.keep _ _ eT (fun q => q) (x0.inv.tab_fields eT nT)
    have eD1 := st.keep _ _ eD (fun q => q) (x0.inv.tab_fields eD nD)
    have lT : T ≠ L := fun q => by rw [q] at eT; rw [hL] at eT; cases eT
    have lD : dx ≠ L := fun q => by rw [q] at eD; rw [hL] at eD; cases eD
    have H1 := H0.two I₁ eT1 eD1 zT zD nT nD hm.newX hm.newD lT lD rfl (fun _ h => nomatch h) (fun _ h => nomatch h)
    refine eg_run (RA := fun Z h v => False) (finA C h T dx) ?_ hA' I₁ H1 (fun Z' s' x' H' => ?_) fun v Z' s' x' ra => ra.elim
    rotate_left
    · obtain @⟨Hd, od', oT', ho, h0', hi, zT', zD', eT', ed', eD', nT', nD'⟩ := H'
      refine ⟨rfl, ?_⟩
      have xx : Step C Z ⟨h, g, d, t, os⟩ Z' s' := (((Step.to x0).trans (Step.to st)).trans x').hide fun b hb => hb
      have f1 := StepX.freeze (X := fun b => b = T ∨ b = dx) x'.inv (.inl rfl) zT' eT' (x'.inv.tab_fields eT' nT')
      have zD'' : put Z' T oT' dx = none := by rw [put_ne hneD]; exact zD'
      have f2 := StepX.freeze (X := fun b => b = T ∨ b = dx) f1.inv (.inr rfl) zD'' eD' (x'.inv.tab_fields eD' nD')
      have ff : Step C Z ⟨h, g, d, t, os⟩ _ s' := (((xx.to).trans f1).trans f2).hide fun b hb => by
        rcases hb with rfl | rfl
        · exact hm.newX
        · exact hm.newD
      have nH := own_ne ho (inst_d hi fun o e => get_uniq eT' e ▸ ed')
      refine k T Hd _ s' ff h0' ?_ ⟨T, rfl, fun h2 k2 => ?_⟩
      · obtain ⟨z, vs, m, e, r⟩ := ho
        refine ⟨?_, vs, m, e, r.le (f1.le.trans f2.le)⟩
        rw [put_ne (Ne.symm nH.2), put_ne (Ne.symm nH.1)]; exact z
      · exact inst_keep2 hi eT' ed' eD' (k2 _ _ (by rw [put_ne (Ne.symm hneD)]; exact put_self)) (k2 _ _ put_self)
    · clear H0 H1
      apply eg_new (ρ' := fun Hd => [some (isv (.ref T)), some (isv (.ref Hd)), none, none]) (ds := [])
      · apply evn_ifexpF
        · apply tv_cmp
          · walk_at "ev"
          · walk_at "ev"
          · exact op_isnot_nn
          · exact rfl
        · apply evn_listL
          · walk_at "ev"
          · walk_at "at"
          · exact Nat.le_of_ble_eq_true rfl
      · intro Hd; exact .there .here
      · exact ⟨by decide +kernel, by decide +kernel⟩
      · exact rfl
      · exact rfl
      · intro Hd
        apply eg_ifs (c := false)
        · apply tv_cmp
          · apply ev_type_own (ds := []) t1
            · walk_at "at"
            · exact .head _
            · exact rfl
          · exact ev_blt t2 rfl rfl
          · exact op_isnot_type
          · exact rfl
        · intro h; cases h
        · intro _
          show EXG _ _ _ _ (execs (_ :: _) _) _ _
          intro A s Z Q E hA I Hf kn kr
          refine wpAny_execs_cons (plainObj_wpAny_Assign_Attribute (ev_name (n := n + 1) (At.there At.here) A s Z _ E hA I Hf fun v Z₂ s₂ x₂ pv => ?_))
          cases pv
          have H2 := (FS C _ _ _ _ _ _ _ _).stable I Hf x₂
          refine ev_name (n := n + 1) At.here A s₂ Z₂ _ E hA x₂.inv H2 fun v Z₃ s₃ x₃ pv => ?_
          cases pv
          have H3 := (FS C _ _ _ _ _ _ _ _).stable x₂.inv H2 x₃
          have hT3 := H3.held T oT (if_pos rfl)
          have hD3 := H3.held dx od (by unfold twoK; rw [if_neg hneD, if_pos rfl])
          have hi3 : s₃.heap.Inst T 283 (fun _ => none) := inst_keep2 hm.inst eT edx eD hT3.at_ hD3.at_
          have hTC : T ≠ 283 := fun q => by have e1 := kb hC; have e2 := hm.newX; rw [q, e1] at e2; cases e2
          have kb3 : ∀ b o, C.Z0 b = some o → s₃.heap.get? b = some o := fun b o e => x₃.inv.heap _ _ (x₃.inv.base _ _ e)
          have I3 := x₃.inv
          obtain ⟨h3, g3', d3, t3, os3⟩ := s₃
          refine store_attr F.store_object (kb3 _ _ hC) (N.at_ _ kb3) N.sa N.hd lk_headers hTC hi3 (fun h4 tk4 hi4 hk4 hT4 => ?_)
          obtain ⟨oT4, eT4, hcT4, hdT4, hsT4, hddT4⟩ := hT4 oT hT3.at_
          have edx4 := hddT4 dx edx
          obtain @⟨oT5, od4, es4, ep4, eT5, hcT5, _, hneD5, eD4, hdD4⟩ := inst_d hi4 fun o e => get_uniq eT4 e ▸ edx4
          have hk4' : ∀ b o, ¬ (b = T ∨ b = dx) → h3.get? b = some o → h4.get? b = some o := fun b o hb e => hk4 b o (fun q => hb (.inl q)) (fun o₀ dx' e0 e1 q => hb (.inr (q.trans (Option.some.inj (e1.symm.trans (get_uniq hT3.at_ e0 ▸ edx)))))) e
          have x4 : StepX C (fun b => b = T ∨ b = dx) Z₃ ⟨h3, g3', d3, t3, os3⟩ Z₃ ⟨h4, g3', d3, tk4, os3⟩ := StepX.writes (t := tk4) I3 (W := fun b => b = T ∨ b = dx) (fun _ q => q) hk4' (fun b q => by rcases q with rfl | rfl; exact hT3.z; exact hD3.z) fun b q => by
            rcases q with rfl | rfl
            · exact I3.tab_fields hT3.at_ nT
            · exact I3.tab_fields hD3.at_ nD
          have H4 := H3.none_held.stepY I3 x4 (fun q => by rcases q with q | q; exact hT3.loc q.symm; exact hD3.loc q.symm) (fun n c hc => by cases hc) (fun p hp q => by rcases q with q | q; exact hT3.own p hp q.symm; exact hD3.own p hp q.symm) (fun _ _ h => nomatch h) (fun b q => by
            rcases q with rfl | rfl
            · exact ⟨_, eT4⟩
            · exact ⟨_, eD4⟩)
          have nT4 := no_tabC (hcT4.trans hcT)
          have nD4 := no_tabD hdD4
          have H5 := H4.two x4.inv eT4 eD4 hT3.z hD3.z nT4 nD4 hm.newX hm.newD hT3.loc hD3.loc rfl hT3.own hD3.own
          have xx : StepX C (fun a => h.get? a = none) Z s Z₃ ⟨h4, g3', d3, tk4, os3⟩ := ((Step.to x₂).trans (Step.to x₃)).trans (x4.mono fun b q => by
            rcases q with rfl | rfl
            · exact hm.newX
            · exact hm.newD)
          have hHd : h.get? Hd = none := Hf.ownX _ (.head _)
          refine eg_run (RA := fun Z h v => False) (finA C h T dx) ?_ hA x4.inv H5 (fun Z' s' x' H' => kn Z' s' (xx.trans x') H') fun v Z' s' x' ra => ra.elim
          apply eg_ifs (tv_bool ev_bool (by intro _; rfl))
          · intro _
            show EXG _ _ _ _ (execs (_ :: _) _) _ _
            apply eg_cons
            · apply ex_for0
              · walk_at "at"
              · exact .head _
              · intro _; rfl
            apply eg_end
            intro Z h5 H
            have hT5 := H.held T oT4 (if_pos rfl)
            have hD5 := H.held dx od4 (by unfold twoK; rw [if_neg hneD, if_pos rfl])
            exact ⟨H.own _ (.head _), hHd, inst_keep2 (mA := instM Hd) hi4 eT4 edx4 eD4 hT5.at_ hD5.at_, hT5.z, hD5.z, hT5.at_, edx4, hD5.at_, nT4, nD4⟩
          · intro h; cases h
theorem evn_headers (K : HdrK C) {n : Nat} {X : Addr → Prop} {env : Env} {nm oc : List Str} {sc : List (Str × NameKind)} {ω : List (Addr × List PV)} {κ : Addr → Option Obj} {ρ : List (Option Vp)} {p pos : Pos} (hk : sc.lookup (sQ "Headers") = some .globalImplicit) :
    EVN C (n + 3) (FS C env nm oc sc X ρ ω κ) (eval (.Call (.Name (sQ "Headers") p) [] [] pos) env) (fun H => tabV H) [] := fun A s Z Q E hA I Hh k => by
  refine wpAny_Call_NameR (ev_glob (n := n + 3) K.glob hk (by decide) A s Z _ E hA I Hh fun v Z₁ s₁ x₁ pv => ?_)
  cases pv
  obtain ⟨mN, N⟩ := K.ns
  obtain ⟨k2, k3, hC⟩ := K.cls
  have kb : ∀ b o, C.Z0 b = some o → s₁.heap.get? b = some o := fun b o e => x₁.inv.heap _ _ (x₁.inv.base _ _ e)
  refine callWith_cls0 (h₀ := s₁.heap) (C := 283) (N := 282) (mN := mN) ⟨⟨_, _, _, _, _, _, _, _, _, _, _, _, kb _ _ hC⟩, N.at_ _ kb⟩ (fun _ _ e => e) ?_
  exact headers_call K hA x₁.inv fun T H Z₂ s₂ x₂ hf ho ht => k H _ Z₂ s₂ (x₁.trans x₂) ((x₁.gone hf).elim id fun q => q.elim) ho ht
theorem ev_items (K : HdrK C) {n : Nat} {X : Addr → Prop} {env : Env} {nm oc : List Str} {sc : List (Str × NameKind)} {ω : List (Addr × List PV)} {κ : Addr → Option Obj} {ρ : List (Option Vp)} {x : Str} {p1 apos pos : Pos} {hs : List PV} (hr : At nm ρ x (tabF hs)) (hsz : hs.length ≤ sizeLine)
    (hbase : attributeBase (.Name x p1) (sQ "items") env (eval (.Name x p1) env) = eval (.Name x p1) env := by rfl) (hline : (apos.endLine == pos.line) = true := by rfl) :
    EV C (n + 2) (FS C env nm oc sc X ρ ω κ) (eval (.Call (.Attribute (.Name x p1) (sQ "items") apos) [] [] pos) env) (is (.list hs)) := fun A s Z Q E hA I Hh k => by
  obtain ⟨mN, N⟩ := K.ns
  obtain ⟨doc, pm, c, hfo, hcd⟩ := K.items
  refine call_own hbase rfl hline (ev_name (n := n + 2) hr A s Z _ E hA I Hh fun v Z₁ s₁ x₁ pv => ?_)
  have pv0 := pv
  obtain ⟨T, H, rfl, ht, _⟩ := pv
  refine ⟨T, 247, { cls := .type "function", data := .func (mFd (mthSt pw 79 11) (sQ "Headers.items") .none doc pm (.ref c)) }, mFd (mthSt pw 79 11) (sQ "Headers.items") .none doc pm (.ref c), rfl, rfl, fun E' Q' pl q => inst_meth K x₁.inv (H := H) N N.items hfo lk_items (instM_none (by decide +kernel)) ht q, ?_⟩
  refine evalArgs_nil3 ⟨x₁.inv.heap _ _ (x₁.inv.base _ _ hfo), ?_⟩
  have hsat : Sat Z₁ [.ref T] [tabF hs] := .cons pv0 .nil
  exact (fn_items K hsz).le (by lia : 2 ≤ n + 2) A s₁ Z₁ [.ref T] Q E hA x₁.inv hsat.length hsat.get fun u Z₃ s₃ x₃ pu => k u Z₃ s₃ (x₁.trans x₃) pu
theorem ev_getall (K : HdrK C) {n : Nat} {X : Addr → Prop} {env : Env} {nm oc : List Str} {sc : List (Str × NameKind)} {ω : List (Addr × List PV)} {κ : Addr → Option Obj} {ρ : List (Option Vp)} {x : Str} {p1 apos pos : Pos} {e1 : Expr} {hs : List (Str × Str)} {a : Str} (hr : At nm ρ x (tabF (hs.map hpV))) (he : EL C (n + 3) (FS C env nm oc sc X ρ ω κ) (spliced (backTo pos (starEach [e1] env))) [is (.str a)])
    (hsz : hs.length ≤ sizeLine) (hx : (lowT a).cps.size ≤ 1000) (hno : noHit codeN (lowT a).cps 0 = true) (hlow : ∀ p ∈ hs, (lowT p.1).cps.size ≤ 1000)
    (hbase : attributeBase (.Name x p1) (sQ "get_all") env (eval (.Name x p1) env) = eval (.Name x p1) env := by rfl) (hline : (apos.endLine == pos.line) = true := by rfl)
    (hform : methodCallForm (([e1] : List Expr).length + ([] : List Keyword).length) (backTo pos (starEach [e1] env)) (backToKw pos (keywordEach [] env)) = true := by rfl) (hst : starEach [e1] env = (false, eval e1 env) :: starEach [] env := by rfl) :
    EV C (n + 3) (FS C env nm oc sc X ρ ω κ) (eval (.Call (.Attribute (.Name x p1) (sQ "get_all") apos) [e1] [] pos) env) (is (.list ((hs.filter fun p => lowT p.1 == lowT a).map fun p => .str p.2))) := fun A s Z Q E hA I Hh k => by
  obtain ⟨mN, N⟩ := K.ns
  obtain ⟨doc, pm, c, hfo, hcd⟩ := K.all
  refine call_own hbase hform hline (ev_name (n := n + 3) hr A s Z _ E hA I Hh fun v Z₁ s₁ x₁ pv => ?_)
  have H₁ := (FS C env nm oc sc X ρ ω κ).stable I Hh x₁
  have pv0 := pv
  obtain ⟨T, H, rfl, ht, _⟩ := pv
  refine ⟨T, 222, { cls := .type "function", data := .func (mFd (mthSt pw 79 7) (sQ "Headers.get_all") .none doc pm (.ref c)) }, mFd (mthSt pw 79 7) (sQ "Headers.get_all") .none doc pm (.ref c), rfl, rfl, fun E' Q' pl q => inst_meth K x₁.inv (H := H) N N.all hfo lk_all (instM_none (by decide +kernel)) ht q, ?_⟩
  have he' := he A s₁ Z₁
  rw [hst] at he' ⊢
  refine Calls.evalArgs_plain (he' _ E hA x₁.inv H₁ fun vs Z₂ s₂ x₂ ps => ⟨x₂.inv.heap _ _ (x₂.inv.base _ _ hfo), ?_⟩)
  have hsat : Sat Z₂ (.ref T :: vs) (tabF (hs.map hpV) :: [is (.str a)]) := .cons (Vp.mono _ x₂.le pv0) ps
  exact (fn_all K hsz hx hno hlow).le (by lia : 3 ≤ n + 3) A s₂ Z₂ (.ref T :: vs) Q E hA x₂.inv hsat.length hsat.get fun u Z₃ s₃ x₃ pu => k u Z₃ s₃ ((x₁.trans x₂).trans x₃) pu
inductive Rtb (a : Addr) (ds : List PV) : List (Option Vp) → List (Option Vp) → Prop where
  | nil : Rtb a ds [] []
  | same {o : Option Vp} {ρ ρ' : List (Option Vp)} (r : Rtb a ds ρ ρ') : Rtb a ds (o :: ρ) (o :: ρ')
  | it {ρ ρ' : List (Option Vp)} (r : Rtb a ds ρ ρ') : Rtb a ds (some (tabV a) :: ρ) (some (tabF ds) :: ρ')
theorem Rtb.ix {a : Addr} {ds : List PV} {ρ ρ' : List (Option Vp)} (R : Rtb a ds ρ ρ') (i : Nat) (P : Vp) (e : ρ'[i]? = some (some P)) : ρ[i]? = some (some P) ∨ (ρ[i]? = some (some (tabV a)) ∧ P = tabF ds) := by
  induction R generalizing i with
  | nil => cases e
  | same _ ih =>
    cases i with
    | zero => exact .inl e
    | succ i => exact ih i e
  | it _ ih =>
    cases i with
    | zero => cases e; exact .inr ⟨rfl, rfl⟩
    | succ i => exact ih i e
theorem Vars.rtb {env : Env} {Z : Fz} {a : Addr} {ds : List PV} (hd : Rd Z (.ref a) (.list ds)) {nm : List Str} {ρ ρ' : List (Option Vp)} (R : Rtb a ds ρ ρ') {h : Heap} (H : Vars env Z h nm ρ) : Vars env Z h nm ρ' := fun i x P e1 e2 => by
  rcases R.ix i P e2 with e | ⟨e, rfl⟩
  · exact H i x P e1 e
  · obtain ⟨v, hv, T, e, i⟩ := H i x _ e1 e
    exact ⟨v, hv, T, a, e, i, hd⟩
theorem Rfz.all_same {a : Addr} {ds : List PV} : ∀ ρ : List (Option Vp), Rfz a ds ρ ρ
  | [] => .nil
  | _ :: ρ => .same (Rfz.all_same ρ)
theorem ex_freezeT {n : Nat} {X : Addr → Prop} {env : Env} {nm oc : List Str} {sc : List (Str × NameKind)} {ω ω' : List (Addr × List PV)} {κ : Addr → Option Obj} {ρ ρ' : List (Option Vp)} {a : Addr} {ds : List PV} {Ψ : Asn C} {R : Vp} {rest : List Stmt} (u : OF ω a ds ω') (q : Rtb a ds ρ ρ') (k : EX C n X (FS C env nm oc sc X ρ' ω' κ) (execs rest env) Ψ R) :
    EX C n X (FS C env nm oc sc X ρ ω κ) (execs rest env) Ψ R := fun A s Z Q E hA I H kn kr => by
  obtain ⟨Z', st, H', hr⟩ := H.freeze I u (Rfz.all_same ρ)
  have H'' : FSp env nm oc sc X ρ' ω' κ Z' s.heap := ⟨H'.names, H'.gl, H'.bl, H'.cellH, H'.fn, H'.nodup, H'.apart, H'.loc, H'.locX, H'.locZ, H'.cells, H'.cellX, H'.cof, Vars.rtb hr q H'.vars, H'.own, H'.ownX, H'.ownN, H'.held, H'.heldX⟩
  exact k A s Z' Q E hA st.inv H'' (fun Z₂ s₂ x₂ H₂ => kn Z₂ s₂ (st.trans x₂) H₂) fun v Z₂ s₂ x₂ r => kr v Z₂ s₂ (st.trans x₂) r
end
section
open PySem.SeqAt
section
variable {prog : Program} {w : World} {A : Around} {E : Value → Shared → Prop} {s : Shared} {env : Env}
theorem sub_slice3T {value st : Expr} {lower upper : Option Expr} {p pos : Pos} {T id : String} {Q : Value → Shared → Prop}
    (hl : typeLookup (.type T) "__getitem__" = pure (some (.builtin id)))
    (h : wpAny (model prog w) A (eval value env) (fun o s₁ => wpAny (model prog w) A (eval (.Slice lower upper (some st) p) env) (fun i s₂ => s₂.TypeIs o T ∧ wpAny (model prog w) A (getItem o i) Q E s₂) E s₁) E s) :
    wpAny (model prog w) A (eval (.Subscript value (.Slice lower upper (some st) p) pos) env) Q E s := by
  rw [eval_Subscript]
  refine wpAny_bind (wpAny_mono h (fun o s₁ h₁ => wpAny_bind (wpAny_holding (wpAny_mono h₁ (fun i s₂ h₂ => wpAny_bind (wpAny_standAt ?_)) fun _ _ x => x)))
    fun _ _ x => x)
  have fin : ∀ ops, wpAny (model prog w) A (operate ops (getItem o i)) (fun r s₃ => wpAny (model prog w) A (letTemporaryGo value o r >>= fun _ => pure r) Q E s₃) E s₂ := fun ops =>
    wpAny_operating (wpAny_mono h₂.2 (fun r s₃ h₃ => wpAny_bind (wpAny_letTemporaryGo (wpAny_pure h₃))) fun _ _ x => x)
  refine wpAny_bind ?_
  rw [getitemInPython_of_ne h₂.1.not_modules]
  refine wpAny_bind (wpAny_specialOf h₂.1 hl ?_)
  first
    | exact wpAny_pure (wpAny_bind (fin _))
    | exact wpAny_bind (wpAny_pure (wpAny_bind (fin _)))
    | exact wpAny_bind (fin _)
end
section
variable {C : Cx} {n : Nat} {Φ : Asn C} {env : Env} {l m ds : List PV} {x y : Str} {lo hi stp : Option Int} {e : Expr} {pos p : Pos}
theorem ev_slice_list3T {v stx : Expr} {l u : Option Expr} {sti : Int} (hv : EV C n Φ (eval v env) (is (.list ds))) (hl : PT C n Φ (evalPart l env) lo) (hu : PT C n Φ (evalPart u env) hi) (hst : PT C n Φ (evalPart (some stx) env) (some sti)) (h0 : sti ≠ 0) (hsz : ds.length ≤ sizeLine) : EV C n Φ (eval (.Subscript v (.Slice l u (some stx) p) pos) env) (is (.list (pickL ds lo hi (some sti)))) := fun A s Z Q E hA I H k => by
  refine sub_slice3T (T := "list") list_getitem_lookup (hv A s Z _ E hA I H fun o Z₁ s₁ x₁ p₁ => wpAny_Slice ?_)
  refine hl A s₁ Z₁ _ E hA x₁.inv (Φ.stable I H x₁) fun q Z₂ s₂ x₂ e₂ => ?_
  refine hu A s₂ Z₂ _ E hA x₂.inv (Φ.stable x₁.inv (Φ.stable I H x₁) x₂) fun q' Z₃ s₃ x₃ e₃ => ?_
  refine hst A s₃ Z₃ _ E hA x₃.inv (Φ.stable x₂.inv (Φ.stable x₁.inv (Φ.stable I H x₁) x₂) x₃) fun q'' Z₄ s₄ x₄ e₄ => ?_
  obtain ⟨a, n, vs, rfl, hz, r⟩ := rdi p₁
  have hs := isList_of x₄.inv (x₄.le _ _ (x₃.le _ _ (x₂.le _ _ hz)))
  refine ⟨(hs.push _).typeIs, ?_⟩
  refine wpAny_getItem_list_slice (hs.push _) (Heap.IsSliceOf.new ..) isPart_of isPart_of isPart_of (by rw [e₄]; simpa using h0) ?_ (by rw [List.size_toArray, r.length]; exact hsz)
  rw [e₂, e₃, e₄]
  have st1 := slice_push (C := C) x₄.inv (o := { cls := .type "slice", data := .fields #[(qv q), (qv q'), (qv q'')] })
  have st := StepX.alloc (X := No) st1.inv (o := { cls := .type "list", data := .seq (slicePick vs.toArray lo hi (some sti)) }) (t := s₄.toks) rfl
  refine k _ _ _ ((((x₁.trans x₂).trans x₃).trans x₄).trans (st1.trans st)) (.list (n := 0) (vs := (slicePick vs.toArray lo hi (some sti)).toList) (put_self (Z := Z₄)) ?_)
  exact (r.pick).le (((x₂.trans x₃).trans x₄).le.trans st.le)
theorem preSum_getD (l : List Int) : ∀ k, k ≤ l.length → preSum (fun i => l.getD i 0) k = (l.take k).sum
  | 0, _ => rfl
  | k + 1, h => by
    have e : l[k]? = some l[k] := List.getElem?_eq_getElem (by lia)
    show preSum (fun i => l.getD i 0) k + l.getD k 0 = _
    rw [preSum_getD l k (by lia), List.take_add_one, e, Option.toList_some, List.sum_append, List.sum_singleton]
    congr 1
    simp [List.getD, e]
theorem fn_sum {l : List Int} : FN C n (.builtin "sum") [is (.list (l.map .int))] (is (.int l.sum)) := fn1 fun A s Z v Q E hA I hv k => by
  obtain ⟨a, m, vs, rfl, hz, r⟩ := rdi hv
  have hl := isList_of I hz
  have hal := Heap.lt_size (I.heap _ _ hz)
  have hlen : vs.toArray.size = l.length := by rw [List.size_toArray, r.length, List.length_map]
  refine call_sum_walkG (wpAny_pyIter_list hl ⟨_, _, _, _, _, _, fun i => l.getD i 0, rfl, Walks.list (A := A.in1) hA.handled s.heap.objs.size a (Nat.ne_of_lt hal) vs.toArray, ⟨⟨_, Heap.get?_push_size _ rfl, rfl, rfl⟩, hl.push _⟩, fun b hb => ?_, fun i v hP => ?_, fun h' tk t' hk => ?_⟩)
  · show b < (s.heap.push _).objs.size
    rw [Heap.size_push]
    rcases List.mem_cons.mp hb with rfl | hb
    · exact Nat.lt_succ_self _
    · rw [List.mem_singleton.mp hb]; exact Nat.lt_succ_of_lt hal
  · have hP : vs[i]? = some v := by simpa using hP
    have hi : i < l.length := by
      have := (List.getElem?_eq_some_iff.mp hP).1
      have := r.length; rw [List.length_map] at this; lia
    have hd : (l.map PV.int)[i]? = some (.int l[i]) := by rw [List.getElem?_map, List.getElem?_eq_getElem hi]; rfl
    have hr := r.at hP hd
    have eg : l.getD i 0 = l[i] := by simp [List.getD, List.getElem?_eq_getElem hi]
    cases hr with
    | int _ t => exact ⟨t, by show Value.int l[i] t = Value.int (l.getD i 0) t; rw [eg]⟩
  · have st : Step C Z s Z { s with heap := h', toks := tk } := .keeps I fun b o e => hk b o (fun q => by rw [List.mem_singleton.mp q] at e; exact absurd (Heap.lt_size e) (Nat.lt_irrefl _)) (Heap.get?_push_of_some _ e)
    have e : preSum (fun i => l.getD i 0) vs.toArray.size = l.sum := by rw [hlen, preSum_getD l _ (Nat.le_refl _), List.take_length]
    rw [e]
    exact k _ Z _ st (.int _ _)
theorem op_sub_ib {a : Int} {b : Bool} : OP2 C n (binaryOp .Sub) (is (.int a)) (is (.bool b)) (is (.int (a - if b = true then (1 : Int) else 0))) := fun A s Z u v Q E hA I hu hv k => by
  obtain ⟨_, rfl⟩ := rdi hu; obtain ⟨_, rfl⟩ := rdi hv
  exact PySem.IntBool.sub_int_bool (k _ Z _ (Step.toks I _) (.int _ _))
theorem op_ne_list (k : Nat) (hk : k ≤ 800) (h : okN (k + 1) (.list l) (.list m) = true) : OP2 C n (compareOp .NotEq) (is (.list l)) (is (.list m)) (is (.bool (!eqN (k + 1) (.list l) (.list m)))) := fun A s Z u v Q E hA I hu hv kk => by
  have hun : A.units < 9001 := by have := hA.units; lia
  obtain ⟨a, n, vs, rfl, hz, r⟩ := rdi hu
  obtain ⟨a', n', vs', rfl, hz', r'⟩ := rdi hv
  by_cases hl : l.length = m.length
  · have hp : (l.zip m).all (fun p => okN k p.1 p.2) = true := by simpa [okN, hl] using h
    have e1 : eqN (k + 1) (.list l) (.list m) = (List.range vs.toArray.size).all fun i => eqN k (l.getD i .none) (m.getD i .none) := by
      rw [eqN, zip_all_range, List.size_toArray, r.length, hl]; simp
    rw [e1] at kk
    refine RcNeAt.lists (isList_of I hz) (isList_of I hz') (by rw [List.size_toArray, List.size_toArray, r.length, r'.length, hl]) (by show A.units < 9900; lia) (e := fun i => eqN k (l.getD i .none) (m.getD i .none)) (fun j h1 h2 => ?_) C.prog C.w E Q (kk _ Z _ (StepX.refl I) (.bool _))
    have j1 : j < vs.length := by simpa using h1
    have j2 : j < vs'.length := by simpa using h2
    have l1 : j < l.length := by rw [← r.length]; exact j1
    have l2 : j < m.length := by rw [← r'.length]; exact j2
    have g1 := List.getElem?_eq_getElem l1
    have g2 := List.getElem?_eq_getElem l2
    simp only [List.getD_eq_getElem?_getD, g1, g2]
    exact eq_at I k A.in1 l[j] m[j] _ _ (r.at (by simp) g1) (r'.at (by simp) g2) (zip_all_at hp g1 g2) (by show A.units + 1 + k < 9900; lia)
  · have e1 : eqN (k + 1) (.list l) (.list m) = false := by rw [eqN]; simp [hl]
    rw [e1] at kk
    exact RcNeAt.lists_lengths (isList_of I hz) (isList_of I hz') (by rw [List.size_toArray, List.size_toArray, r.length, r'.length]; simpa using hl) (by show A.units < 9900; lia) C.prog C.w E Q (kk _ Z _ (StepX.refl I) (.bool _))
theorem op_ne_tup (k : Nat) (hk : k ≤ 800) (h : okN (k + 1) (.tup l) (.tup m) = true) : OP2 C n (compareOp .NotEq) (is (.tup l)) (is (.tup m)) (is (.bool (!eqN (k + 1) (.tup l) (.tup m)))) := fun A s Z u v Q E hA I hu hv kk => by
  have hun : A.units < 9001 := by have := hA.units; lia
  obtain ⟨a, n, vs, rfl, hz, r⟩ := rdi hu
  obtain ⟨a', n', vs', rfl, hz', r'⟩ := rdi hv
  have hp : (l.zip m).all (fun p => okN k p.1 p.2) = true := by simpa [okN] using h
  have e1 : eqN (k + 1) (.tup l) (.tup m) = ((List.range (min vs.toArray.size vs'.toArray.size)).all (fun i => eqN k (l.getD i .none) (m.getD i .none)) && vs.toArray.size == vs'.toArray.size) := by
    rw [eqN, zip_all_range, List.size_toArray, List.size_toArray, r.length, r'.length]
  rw [e1] at kk
  refine RcNeAt.tuples (isTup_of I hz) (isTup_of I hz') (by show A.units < 9900; lia) (e := fun i => eqN k (l.getD i .none) (m.getD i .none)) (fun j h1 h2 => ?_) C.prog C.w E Q (kk _ Z _ (StepX.refl I) (.bool _))
  have j1 : j < vs.length := by simpa using h1
  have j2 : j < vs'.length := by simpa using h2
  have l1 : j < l.length := by rw [← r.length]; exact j1
  have l2 : j < m.length := by rw [← r'.length]; exact j2
  have g1 := List.getElem?_eq_getElem l1
  have g2 := List.getElem?_eq_getElem l2
  simp only [List.getD_eq_getElem?_getD, g1, g2]
  exact eq_at I k A.in1 l[j] m[j] _ _ (r.at (by simp) g1) (r'.at (by simp) g2) (zip_all_at hp g1 g2) (by show A.units + 1 + k < 9900; lia)
end
end
section
open PySem.SeqAt
open AutoSeq1 (wpAny_loadPart')
section
variable {prog : Program} {w : World} {A : Around} {E : Value → Shared → Prop} {s : Shared}
theorem nextOf_tup {it t : Addr} {i : Nat} {items : Array Value} {x : Value} {Q : Value → Shared → Prop} (hit : s.heap.IsTupleIter it t i) (ht : s.heap.IsTuple t items) (hx : items[i]? = some x)
    (hQ : ∀ h', h'.IsTupleIter it t (i + 1) → Heap.SameBut it s.heap h' → Q x { s with heap := h' }) : wpAny (model prog w) A (Builtin.SmallTypes.nextOf (.ref it)) Q E s := by
  obtain ⟨o, ho, hc, hd⟩ := id hit
  obtain ⟨ol, hol, _, nl, hdl⟩ := ht
  unfold Builtin.SmallTypes.nextOf
  refine wpAny_bind (wpAny_callSpecial?_slot (name := sQ "__next__") hit.typeIs F.slot_tuple_iterator_next (wpAny_call_entry F.slot_tuple_iterator_next hit.typeIs F.entry_tuple_iterator_next ?_ (F.args_tuple_iterator_next_1 _)))
  show wpAny _ _ (field (.ref it) 0 >>= _) _ _ s
  refine wpAny_bind (wpAny_field ho hd (x := .ref t) rfl ?_)
  show wpAny _ _ (if (Value.ref t == Value.none) = true then _ else _) _ _ s
  rw [if_neg (show ¬ ((Value.ref t == Value.none) = true) from Bool.false_ne_true)]
  show wpAny _ _ (field (.ref it) 1 >>= _) _ _ s
  refine wpAny_bind (wpAny_field ho hd (x := .int i 0) rfl ?_)
  show wpAny _ _ (seqItems? (.ref t) >>= _) _ _ s
  refine wpAny_bind (wpAny_seqItems hol hdl ?_)
  dsimp only [Int.toNat_natCast]
  rw [hx]
  dsimp only
  refine wpAny_bind (wpAny_setField ho hd (by simp) (wpAny_pure ⟨x, rfl, wpAny_pure (hQ _ ?_ (Heap.SameBut.update ..))⟩))
  exact ⟨_, Heap.get?_update_self _ ho (Obj.isFreed_of_fields (Obj.data_mapFields hd _)), (Obj.cls_mapFields ..).trans hc, by rw [Obj.data_mapFields hd]; simp [rawInt]⟩
theorem nextOf_tup_end {it t : Addr} {i : Nat} {items : Array Value} {Q : Value → Shared → Prop} (hh : A.handled = none) (hit : s.heap.IsTupleIter it t i) (ht : s.heap.IsTuple t items) (hx : items[i]? = none)
    (hE : ∀ h' e, Heap.ExtBut it s.heap h' → (∃ o, h'.get? e = some o ∧ o.cls = .type "StopIteration") → E (.ref e) { s with heap := h' }) : wpAny (model prog w) A (Builtin.SmallTypes.nextOf (.ref it)) Q E s := by
  obtain ⟨o, ho, hc, hd⟩ := id hit
  obtain ⟨ol, hol, _, nl, hdl⟩ := ht
  unfold Builtin.SmallTypes.nextOf
  refine wpAny_bind (wpAny_callSpecial?_slot (name := sQ "__next__") hit.typeIs F.slot_tuple_iterator_next (wpAny_call_entry F.slot_tuple_iterator_next hit.typeIs F.entry_tuple_iterator_next ?_ (F.args_tuple_iterator_next_1 _)))
  show wpAny _ _ (field (.ref it) 0 >>= _) _ _ s
  refine wpAny_bind (wpAny_field ho hd (x := .ref t) rfl ?_)
  show wpAny _ _ (if (Value.ref t == Value.none) = true then _ else _) _ _ s
  rw [if_neg (show ¬ ((Value.ref t == Value.none) = true) from Bool.false_ne_true)]
  show wpAny _ _ (field (.ref it) 1 >>= _) _ _ s
  refine wpAny_bind (wpAny_field ho hd (x := .int i 0) rfl ?_)
  show wpAny _ _ (seqItems? (.ref t) >>= _) _ _ s
  refine wpAny_bind (wpAny_seqItems hol hdl ?_)
  dsimp only [Int.toNat_natCast]
  rw [hx]
  dsimp only
  refine wpAny_bind (wpAny_rule (wpAny_bind (wpAny_setField ho hd (by simp) ?_)))
  show wpAny _ _ (newExc (.type "StopIteration") [] >>= _) _ _ _
  refine wpAny_bind ?_
  simp only [newExc, newTuple]
  refine wpAny_bind (wpAny_newObj_type ?_ (by size_fits))
  refine wpAny_bind (m := firstArgMember _ _) (wpAny_of_eq (a := Value.none) (by first | rfl | (simp only [firstArgMember]; rfl)) ?_)
  refine wpAny_newObj_type ?_ (by size_fits)
  unfold raiseNew
  refine wpAny_bind (wpAny_handled ?_)
  first | rw [show A.in1.handled = none from hh] | rw [hh]
  refine wpAny_bind (wpAny_pure (wpAny_throw ?_))
  exact hE _ _ (((Heap.SameBut.update ..).extBut.push _).push _) ⟨_, Heap.get?_push_size _ rfl, rfl⟩
theorem drawsT (hh : A.handled = none) (it l : Addr) (hne : l ≠ it) (items : Array Value) :
    Draws prog w A it [it, l] items.size (fun i v => items[i]? = some v) (fun i h => h.IsTupleIter it l i ∧ h.IsTuple l items) where
  live := fun _ _ st => let ⟨o, ho, _⟩ := st.1; ⟨o, ho⟩
  frame := fun _ _ _ st hk => by
    obtain ⟨⟨o, ho, r⟩, o', ho', r'⟩ := st
    exact ⟨⟨o, hk it (by simp) o ho, r⟩, o', hk l (by simp) o' ho', r'⟩
  item := fun i s Q E hi st hQ => by
    refine nextOf_tup st.1 st.2 (x := items[i]) (by simp [hi]) fun h' hit' hs' => ?_
    obtain ⟨_, o', ho', r'⟩ := st
    exact hQ _ h' s.toks (by simp [hi]) ⟨hit', o', hs'.extBut _ _ hne ho', r'⟩ hs'
  done := fun s Q E st hE => nextOf_tup_end hh st.1 st.2 (by simp) hE
theorem anyB {b0 : Bool} {Q : Bool → Shared → Prop} (h : ∀ b, Q b s) : wpAny (model prog w) A (pure b0) Q E s := wpAny_pure (h b0)
theorem meets_enumT (l : Addr) (items : Array Value) :
    Meets (Builtin.«enumerate.__new__» ⟨[.type "enumerate", .ref l], []⟩) (fun _ R s => s.heap.IsTuple l items ∧
      R (.ok (.ret (.ref (s.heap.push { cls := .type "tuple_iterator", data := .fields #[.ref l, .int 0 0] }).objs.size)))
        { s with heap := (s.heap.push { cls := .type "tuple_iterator", data := .fields #[.ref l, .int 0 0] }).push { cls := .type "enumerate", data := .fields #[.none, .bool false, .ref s.heap.objs.size, rawInt 0, .none, .none] } }) :=
  .of_wp fun prog w A R s h => by
    obtain ⟨hp, g, d, tk, os⟩ := s; obtain ⟨hL, h⟩ := h
    have hsub := sub_enumerate
    have hL : Heap.IsTuple (Shared.heap ⟨hp, g, d, tk, os⟩) l items := hL
    obtain ⟨o, hl, _⟩ := id hL
    wp_walk using wpAny_loadPart' hl
    refine wpAny_stack_any fun st => anyB fun c => ?_
    cases c
    · wp_walk using wpAny_loadPart' hl, wpAny_pyIter_tuple hL
      exact ⟨_, rfl, h⟩
    · wp_walk using wpAny_loadPart' hl, wpAny_pyIter_tuple hL
      exact ⟨_, rfl, h⟩
theorem call_enumT {l : Addr} {items : Array Value} {Q : Value → Shared → Prop} (hL : s.heap.IsTuple l items)
    (h : ∀ h', IsEnum h' (s.heap.objs.size + 1) s.heap.objs.size 0 .none → h'.IsTupleIter s.heap.objs.size l 0 → (∀ b o, s.heap.get? b = some o → h'.get? b = some o) → Q (.ref (s.heap.objs.size + 1)) { s with heap := h' }) :
    wpAny (model prog w) A (call (.type "enumerate") [.ref l]) Q E s := by
  refine callType_new F.called_enumerate (by decide) (F.typeCall_enumerate_1 _) (F.newCall_enumerate_1 _) (fun obj => F.args_object_init_2 obj _) F.entry_enumerate_new (meets_enumT l items) ⟨hL, ?_⟩
  have hz : (s.heap.push { cls := .type "tuple_iterator", data := .fields #[.ref l, .int 0 0] }).objs.size = s.heap.objs.size + 1 := Heap.size_push ..
  show _ ∧ _
  rw [hz]
  have he : IsEnum ((s.heap.push { cls := .type "tuple_iterator", data := .fields #[.ref l, .int 0 0] }).push { cls := .type "enumerate", data := .fields #[.none, .bool false, .ref s.heap.objs.size, rawInt 0, .none, .none] }) (s.heap.objs.size + 1) s.heap.objs.size 0 .none := by
    have := Heap.get?_push_size (s.heap.push { cls := .type "tuple_iterator", data := .fields #[.ref l, .int 0 0] }) (o := { cls := .type "enumerate", data := .fields #[.none, .bool false, .ref s.heap.objs.size, rawInt 0, .none, .none] }) rfl
    rw [hz] at this; exact this
  exact ⟨⟨_, he, rfl⟩, h _ he ⟨_, Heap.get?_push_of_some _ (Heap.get?_push_size _ rfl), rfl, rfl⟩ fun b o x => Heap.get?_push_of_some _ (Heap.get?_push_of_some _ x)⟩
end
section
variable {C : Cx} {n : Nat} {p : Pos} {ds : List PV} {Z : Fz} {s : Shared}
theorem fi_enumT {ts : List Expr} {kk : Nat} : FI C n (.type "enumerate") [is (.tup ds)] (.Tuple ts kk p) (enumL ds) := fun A s Z vs Q E hA I hv k => by
  obtain ⟨_, _, rfl, h, r⟩ := sati hv
  obtain rfl := sati r
  cases h with
  | tup h r =>
    rename_i a m vs
    have hl : s.heap.IsTuple a vs.toArray := ⟨_, I.heap _ _ h, rfl, m, rfl⟩
    refine call_enumT hl fun h' he hit hk => ?_
    refine wpAny_pyIter_enum he ?_
    have hal := Heap.lt_size (I.heap _ _ h)
    have st : Step C Z s Z { s with heap := h' } := .keeps (t := s.toks) I hk
    have hlen : (enumL ds).length = vs.toArray.size := by rw [enumL, List.length_map, List.length_zipIdx, List.size_toArray, r.length]
    have g0 := gAb (Nat.le_refl s.heap.objs.size)
    have g1 := gAb (Nat.le_succ s.heap.objs.size)
    have hl' : h'.IsTuple a vs.toArray := by
      obtain ⟨o, ho, r⟩ := hl
      exact ⟨o, hk _ o ho, r⟩
    have W : ∀ A : Around, A.handled = none → WalksT C.prog C.w A (s.heap.objs.size + 1) [s.heap.objs.size + 1, s.heap.objs.size, a] [s.heap.objs.size + 1, s.heap.objs.size] (enumL ds).length _ _ _ := fun A hA => by
      rw [hlen]
      exact WalksT.enumerateD (drawsT (A := A.in1) hA s.heap.objs.size a (Nat.ne_of_lt hal) vs.toArray) (s.heap.objs.size + 1) (Nat.ne_of_gt (Nat.lt_succ_self _)) (fun hm => by
        rcases List.mem_cons.mp hm with q | hm
        · exact absurd q (Nat.ne_of_gt (Nat.lt_succ_self _))
        · exact absurd (List.mem_singleton.mp hm) (Nat.ne_of_gt (Nat.lt_succ_of_lt hal))) (List.mem_cons_self ..)
    refine k _ Z _ st (turns_walksU W
      ⟨⟨_, he⟩, hit, hl'⟩ (fun b hb => ?_) (fun b hb => ?_) (fun i h' st' b hb => ?_) fun i vals d Z' le hd hP => ?_)
    · rcases List.mem_cons.mp hb with rfl | hb
      · exact I.fresh g1
      · rw [List.mem_singleton.mp hb]; exact I.fresh g0
    · rcases List.mem_cons.mp hb with rfl | hb
      · exact .inr ⟨g1, I.fresh g1⟩
      · rcases List.mem_cons.mp hb with rfl | hb
        · exact .inr ⟨g0, I.fresh g0⟩
        · rw [List.mem_singleton.mp hb]; exact .inl ⟨_, h⟩
    · obtain ⟨⟨old, he⟩, ⟨o, ho, hc, hd⟩, o', ho', _⟩ := st'
      rcases List.mem_cons.mp hb with rfl | hb
      · exact ⟨_, he, fun _ ps q => by have := congrArg Obj.cls q; simp [tabObj] at this⟩
      · rcases List.mem_cons.mp hb with rfl | hb
        · exact ⟨o, ho, fun _ ps q => by subst q; simp [tabObj] at hc⟩
        · rw [List.mem_singleton.mp hb]; exact ⟨o', ho', fun q => by rw [h] at q; cases q⟩
    · obtain ⟨t, x, hx, rfl⟩ := hP
      rw [enumL, List.getElem?_map, List.getElem?_zipIdx] at hd
      cases hq : ds[i]? with
      | none => rw [hq] at hd; cases hd
      | some d' =>
        rw [hq] at hd
        simp at hd
        subst hd
        exact ⟨_, rfl, .cons (.int _ _) (.cons (RdL.at (RdL.le le r) (by simpa using hx) hq) .nil)⟩
end
end
section
open PySem.SeqAt
structure Src where
  it : Addr
  fp : List Addr
  P : Nat → Value → Prop
  St : Nat → Heap → Prop
abbrev ZipN (h : Heap) (z TI TO : Addr) (f0 : Value) (b : Bool) : Prop :=
  h.get? z = some { cls := .type "zip", dict := none, data := .fields #[f0, .bool b, .bool false, .ref TI, .ref TO], slots := #[] }
abbrev TupAt (h : Heap) (T : Addr) (vs : Array Value) : Prop := h.get? T = some { cls := .type "tuple", dict := none, data := .seq vs, slots := #[] }
structure ZApart (z TI TO : Addr) (srcs : List Src) : Prop where
  zTI : z ≠ TI
  zTO : z ≠ TO
  TITO : TI ≠ TO
  zS : ∀ S ∈ srcs, z ∉ S.fp
  TIS : ∀ S ∈ srcs, TI ∉ S.fp
  TOS : ∀ S ∈ srcs, TO ∉ S.fp
  self : ∀ S ∈ srcs, S.it ∈ S.fp
  pw : ∀ (m m' : Nat) (S S' : Src), srcs[m]? = some S → srcs[m']? = some S' → m ≠ m' → S.it ∉ S'.fp
noncomputable def refsOf (srcs : List Src) : List Value := srcs.map fun S => Value.ref S.it
def takenAt (srcs : List Src) (i k : Nat) (arr : Array Value) : Prop := ∀ (m : Nat) (S : Src) (v : Value), m < k → srcs[m]? = some S → arr[m]? = some v → S.P i v
section
variable {prog : Program} {w : World} {A : Around} {E : Value → Shared → Prop} {s : Shared}
theorem wpAny_alive {M : Model} {a : Addr} {Q : Option Obj → Shared → Prop} (h : Q (s.heap.get? a) s) : wpAny M A (loadIfAlive a) Q E s := fun Γ p _ => by
  unfold loadIfAlive
  rw [Sem.wp_loadIfAlive]
  exact wpAny_pure (M := M) (A := A) (E := E) (Q := Q) h Γ p ‹_›
theorem sameBut_refl {a : Addr} {h : Heap} : Heap.SameBut a h h := ⟨rfl, fun _ _ => rfl⟩
theorem zip_isFree {z TI TO : Addr} {f0 : Value} {fl : Bool} {Q : Bool → Shared → Prop} (hz : ZipN s.heap z TI TO f0 fl) (hf : f0 = .none ∨ ∃ T, f0 = rawInt T)
    (h : ∀ c h' fl', ZipN h' z TI TO f0 fl' → Heap.SameBut z s.heap h' → Q c { s with heap := h' }) : wpAny (model prog w) A (Builtin.SmallTypes.ownedTupleIsFree (.ref z)) Q E s := by
  unfold Builtin.SmallTypes.ownedTupleIsFree
  refine wpAny_bind (wpAny_field hz rfl (x := f0) rfl ?_)
  rcases hf with rfl | ⟨T, rfl⟩
  · exact wpAny_pure (h true s.heap fl hz sameBut_refl)
  · show wpAny _ _ (loadIfAlive _ >>= _) _ _ _
    refine wpAny_bind (wpAny_alive ?_)
    split
    · exact wpAny_pure (h true s.heap fl hz sameBut_refl)
    · refine wpAny_bind (wpAny_field hz rfl (x := .bool fl) rfl ?_)
      split
      · refine wpAny_bind (wpAny_setField_rec hz (by simp) fun h' hz' hs' => wpAny_pure (h false h' true hz' hs'))
      · exact wpAny_pure (h false s.heap fl hz sameBut_refl)
structure ZDrawn (z TI TO : Addr) (srcs : List Src) (i k : Nat) (f0 : Value) (fl : Bool) (h₀ h : Heap) : Prop where
  zz : ZipN h z TI TO f0 fl
  ti : TupAt h TI (refsOf srcs).toArray
  St : ∀ (m : Nat) (S : Src), srcs[m]? = some S → S.St (if m < k then i + 1 else i) h
  size : h.objs.size = h₀.objs.size
  keep : ∀ b o, b ≠ z → b ≠ TO → (∀ S ∈ srcs, b ≠ S.it) → h₀.get? b = some o → h.get? b = some o
theorem ZDrawn.step {z TI TO : Addr} {srcs : List Src} {i k n : Nat} {f0 : Value} {fl : Bool} {h₀ h h' : Heap} {S : Src} (D : ZApart z TI TO srcs) (hd : ∀ S ∈ srcs, Draws prog w A S.it S.fp n S.P S.St) (x : ZDrawn z TI TO srcs i k f0 fl h₀ h) (hS : srcs[k]? = some S) (hst : S.St (i + 1) h') (hs : Heap.SameBut S.it h h') : ZDrawn z TI TO srcs i (k + 1) f0 fl h₀ h' := by
  have hm := List.mem_of_getElem? hS
  have hne : ∀ {b}, b ∉ S.fp → b ≠ S.it := fun hb q => hb (q ▸ D.self S hm)
  refine ⟨hs.extBut _ _ (hne (D.zS S hm)) x.zz, hs.extBut _ _ (hne (D.TIS S hm)) x.ti, fun m S' h1 => ?_, hs.1.trans x.size, fun b o b1 b2 b3 e => hs.extBut _ _ (b3 S hm) (x.keep b o b1 b2 b3 e)⟩
  by_cases q : m = k
  · subst q
    rw [hS] at h1; cases h1
    rw [if_pos (Nat.lt_succ_self _)]; exact hst
  · have e : (if m < k + 1 then i + 1 else i) = (if m < k then i + 1 else i) := by
      by_cases c : m < k
      · rw [if_pos c, if_pos (by lia)]
      · rw [if_neg c, if_neg (by lia)]
    rw [e]
    exact (hd S' (List.mem_of_getElem? h1)).frame _ _ _ (x.St m S' h1) fun b hb o e => hs.extBut _ _ (fun q' => D.pw k m S S' hS h1 (Ne.symm q) (q' ▸ hb)) e
theorem ZDrawn.other {z TI TO : Addr} {srcs : List Src} {i k n : Nat} {f0 f0' : Value} {fl fl' : Bool} {h₀ h h' : Heap} {b₀ : Addr} (D : ZApart z TI TO srcs) (hd : ∀ S ∈ srcs, Draws prog w A S.it S.fp n S.P S.St) (x : ZDrawn z TI TO srcs i k f0 fl h₀ h) (hb : b₀ = z ∨ b₀ = TO) (hz : ZipN h' z TI TO f0' fl') (hs : Heap.SameBut b₀ h h') : ZDrawn z TI TO srcs i k f0' fl' h₀ h' := by
  have nS : ∀ S ∈ srcs, b₀ ∉ S.fp := fun S hm => by rcases hb with rfl | rfl; exact D.zS S hm; exact D.TOS S hm
  have nTI : TI ≠ b₀ := by rcases hb with rfl | rfl; exact D.zTI.symm; exact D.TITO
  refine ⟨hz, hs.extBut _ _ nTI x.ti, fun m S h1 => (hd S (List.mem_of_getElem? h1)).frame _ _ _ (x.St m S h1) fun b hb' o e => hs.extBut _ _ (fun q => nS S (List.mem_of_getElem? h1) (q ▸ hb')) e, hs.1.trans x.size, fun b o b1 b2 b3 e => hs.extBut _ _ (fun q => by rcases hb with rfl | rfl; exact b1 q; exact b2 q) (x.keep b o b1 b2 b3 e)⟩
theorem TupAt.upd {T : Addr} {arr : Array Value} {k : Nat} {x : Value} {Q : Unit → Shared → Prop} (hT : TupAt s.heap T arr) (hsz : arr.size ≤ sizeLine)
    (h : ∀ h', TupAt h' T (arr.setIfInBounds k x) → Heap.SameBut T s.heap h' → Q () { s with heap := h' }) :
    wpAny (model prog w) A (updateSeq T (·.setIfInBounds k x)) Q E s := by
  refine wpAny_updateSeq hT rfl (h _ ?_ (Heap.SameBut.update ..)) hsz (by rw [Array.size_setIfInBounds]; lia)
  show (s.heap.update T _).get? T = _
  rw [Heap.get?_update_self _ hT rfl]
  simp [Obj.mapSeq]
theorem taken_set {srcs : List Src} {i k : Nat} {arr : Array Value} {S : Src} {x : Value} (h : takenAt srcs i k arr) (hS : srcs[k]? = some S) (hx : S.P i x) : takenAt srcs i (k + 1) (arr.setIfInBounds k x) := fun m S' v hm h1 h2 => by
  rw [Array.getElem?_setIfInBounds] at h2
  by_cases q : k = m
  · subst q
    rw [if_pos rfl] at h2
    split at h2
    · cases h2; rw [hS] at h1; cases h1; exact hx
    · cases h2
  · rw [if_neg q] at h2
    exact h m S' v (by lia) h1 h2
theorem taken_push {srcs : List Src} {i k : Nat} {arr : Array Value} {S : Src} {x : Value} (h : takenAt srcs i k arr) (ha : arr.size = k) (hS : srcs[k]? = some S) (hx : S.P i x) : takenAt srcs i (k + 1) (arr.push x) := fun m S' v hm h1 h2 => by
  rw [Array.getElem?_push] at h2
  by_cases q : m = k
  · subst q
    rw [if_pos ha.symm] at h2
    cases h2; rw [hS] at h1; cases h1; exact hx
  · rw [if_neg (by rw [ha]; exact q)] at h2
    exact h m S' v (by lia) h1 h2
theorem drop_cons {α : Type} {l : List α} {k : Nat} {x : α} {r : List α} (h : l.drop k = x :: r) : l[k]? = some x ∧ l.drop (k + 1) = r := by
  have h1 : (l.drop k)[0]? = some x := by rw [h]; rfl
  rw [List.getElem?_drop] at h1
  refine ⟨by simpa using h1, ?_⟩
  rw [← List.drop_drop, h]; rfl
theorem refs_at {srcs : List Src} {k : Nat} {v : Value} (h : (refsOf srcs)[k]? = some v) : ∃ S, srcs[k]? = some S ∧ v = .ref S.it := by
  rw [refsOf, List.getElem?_map] at h
  cases q : srcs[k]? with
  | none => rw [q] at h; cases h
  | some S => rw [q] at h; cases h; exact ⟨S, rfl, rfl⟩
inductive ZSt (z TI TO : Addr) (srcs : List Src) (i : Nat) (h : Heap) : Prop where
  | mk (f0 : Value) (fl : Bool) (arr : Array Value) (hf : f0 = Value.none ∨ ∃ T, f0 = rawInt T) (hz : ZipN h z TI TO f0 fl) (hI : TupAt h TI (refsOf srcs).toArray) (hO : TupAt h TO arr) (ha : arr.size = srcs.length) (hS : ∀ S ∈ srcs, S.St i h)
theorem ZSt.frame {z TI TO : Addr} {srcs : List Src} {i n : Nat} {h h' : Heap} (hd : ∀ S ∈ srcs, Draws prog w A S.it S.fp n S.P S.St) (x : ZSt z TI TO srcs i h) (k : ∀ b, (b = z ∨ b = TI ∨ b = TO ∨ ∃ S ∈ srcs, b ∈ S.fp) → ∀ o, h.get? b = some o → h'.get? b = some o) : ZSt z TI TO srcs i h' := by
  obtain ⟨f0, fl, arr, hf, hz, hTI, hTO, ha, hst⟩ := x
  exact ⟨f0, fl, arr, hf, k _ (.inl rfl) _ hz, k _ (.inr (.inl rfl)) _ hTI, k _ (.inr (.inr (.inl rfl))) _ hTO, ha, fun S hS => (hd S hS).frame _ _ _ (hst S hS) fun b hb o e => k b (.inr (.inr (.inr ⟨S, hS, hb⟩))) o e⟩
theorem ZDrawn.start {z TI TO : Addr} {srcs : List Src} {i : Nat} {f0 : Value} {fl : Bool} {h : Heap} (hz : ZipN h z TI TO f0 fl) (hTI : TupAt h TI (refsOf srcs).toArray) (hst : ∀ S ∈ srcs, S.St i h) : ZDrawn z TI TO srcs i 0 f0 fl h h :=
  ⟨hz, hTI, fun m S hS => by rw [if_neg (Nat.not_lt_zero _)]; exact hst S (List.mem_of_getElem? hS), rfl, fun _ _ _ _ _ e => e⟩
inductive ZLp {β : Type} (z TI TO : Addr) (srcs : List Src) (i : Nat) (f0 : Value) (fl : Bool) (s : Shared) (L : List (Value × Nat)) (b : Option β × Unit) (s' : Shared) : Prop where
  | mk (k : Nat) (h : Heap) (tk : Nat) (arr : Array Value) (e : b = (none, ())) (eL : L = (refsOf srcs).zipIdx.drop k) (hk : k ≤ srcs.length) (es : s' = { s with heap := h, toks := tk }) (d : ZDrawn z TI TO srcs i k f0 fl s.heap h) (t : TupAt h TO arr) (a : arr.size = srcs.length) (n : takenAt srcs i k arr)
inductive ZLq {β : Type} (z TI TO : Addr) (srcs : List Src) (i : Nat) (f0 : Value) (fl : Bool) (s : Shared) (arr : Array Value) (L : List Value) (b : Option β × Array Value) (s' : Shared) : Prop where
  | mk (k : Nat) (h : Heap) (tk : Nat) (e : b.1 = none) (eL : L = (refsOf srcs).drop k) (hk : k ≤ srcs.length) (es : s' = { s with heap := h, toks := tk }) (d : ZDrawn z TI TO srcs i k f0 fl s.heap h) (t : TupAt h TO arr) (a : b.2.size = k) (n : takenAt srcs i k b.2)
theorem zipN_next {z TI TO : Addr} {srcs : List Src} {i n : Nat} {Q : Value → Shared → Prop} (D : ZApart z TI TO srcs) (hd : ∀ S ∈ srcs, Draws prog w A S.it S.fp n S.P S.St) (hi : i < n) (h0 : srcs ≠ []) (hl : srcs.length ≤ 1000) (hst : ZSt z TI TO srcs i s.heap)
    (hQ : ∀ h' tk vals, ZSt z TI TO srcs (i + 1) h' → TupAt h' s.heap.objs.size vals → vals.size = srcs.length → takenAt srcs i srcs.length vals → h'.objs.size = s.heap.objs.size + 1 →
      (∀ b o, b ≠ z → b ≠ TO → (∀ S ∈ srcs, b ≠ S.it) → s.heap.get? b = some o → h'.get? b = some o) → Q (.ref s.heap.objs.size) { s with heap := h', toks := tk }) :
    wpAny (model prog w) A (Builtin.«zip.__next__» ⟨[.ref z], []⟩) (fun fin s' => ∃ v, fin = .done (.ret v) ∧ Q v s') E s := by
  obtain ⟨f0, fl, arr, hf, hz, hTI, hTO, ha, hst⟩ := hst
  have hlen : srcs.length ≤ sizeLine := by rw [sizeLine_eq]; lia
  show wpAny _ _ (field (.ref z) 2 >>= _) _ _ _
  refine wpAny_bind (wpAny_field hz rfl (x := .bool false) rfl ?_)
  show wpAny _ _ (field (.ref z) 3 >>= _) _ _ _
  refine wpAny_bind (wpAny_field hz rfl (x := .ref TI) rfl ?_)
  refine wpAny_bind (wpAny_seqItems hTI rfl ?_)
  dsimp only
  show wpAny _ _ (if _ then _ else _) _ _ _
  rw [if_neg (by
    rw [refsOf]
    cases srcs with
    | nil => exact absurd rfl h0
    | cons S r => simp)]
  have fin : ∀ h, ZDrawn z TI TO srcs i srcs.length f0 fl s.heap h → True := fun _ _ => trivial
  clear fin
  have up : ∀ {h : Heap} {o : Obj} {b o'}, h.get? b = some o' → (h.push o).get? b = some o' := fun e => Heap.get?_push_of_some _ e
  refine wpAny_bind (zip_isFree hz hf fun c h₁ fl₁ hz₁ hs₁ => ?_)
  have d₁ := (ZDrawn.start hz hTI hst).other D hd (.inl rfl) hz₁ hs₁
  have hTO₁ : TupAt h₁ TO arr := hs₁.extBut _ _ D.zTO.symm hTO
  clear hs₁
  cases c with
  | true =>
    rw [if_pos rfl]
    refine wpAny_bind (wpAny_rule ?_)
    refine wpAny_bind (wpAny_field hz₁ rfl (x := .ref TO) rfl ?_)
    dsimp only
    refine wpAny_bind (wpAny_setField_rec hz₁ (by simp) fun h₂ hz₂ hs₂ => ?_)
    replace hz₂ : ZipN h₂ z TI TO .ellipsis fl₁ := hz₂
    have d₂ := d₁.other D hd (.inl rfl) hz₂ hs₂
    have hTO₂ : TupAt h₂ TO arr := hs₂.extBut _ _ D.zTO.symm hTO₁
    refine wpAny_bind (wpAny_forIn_list _ (ZLp z TI TO srcs i .ellipsis fl₁ s) _ ?_ ?_ _ _ ?_)
    · rintro x rest b s' ⟨k, h, tk, arr', rfl, hL, hk, rfl, hd₃, hTO₃, ha₃, ht₃⟩
      obtain ⟨hx, hr⟩ := drop_cons hL.symm
      rw [List.getElem?_zipIdx] at hx
      cases hq : (refsOf srcs)[k]? with
      | none => rw [hq] at hx; cases hx
      | some v =>
        rw [hq] at hx
        simp only [Option.map_some, Option.some.injEq, Nat.zero_add] at hx
        subst hx
        obtain ⟨S, hS, rfl⟩ := refs_at hq
        have hSm := List.mem_of_getElem? hS
        refine wpAny_bind (wpAny_onRaise ?_)
        show wpAny _ _ (Builtin.SmallTypes.nextOf (.ref S.it) >>= _) _ _ _
        have hSt := hd₃.St k S hS
        rw [if_neg (Nat.lt_irrefl _)] at hSt
        refine wpAny_bind ((hd S hSm).item i _ _ _ hi hSt fun x h₄ tk₄ hP hst₄ hs₄ => wpAny_pure ?_)
        have d₄ := hd₃.step D hd hS hst₄ hs₄
        have hTO₄ : TupAt h₄ TO arr' := hs₄.extBut _ _ (fun q => D.TOS S hSm (q ▸ D.self S hSm)) hTO₃
        dsimp only
        refine wpAny_bind (wpAny_seqItems hTO₄ rfl ?_)
        dsimp only
        refine wpAny_bind (TupAt.upd hTO₄ (by rw [ha₃]; exact hlen) fun h₅ hTO₅ hs₅ => ?_)
        have d₅ := d₄.other D hd (.inr rfl) (hs₅.extBut _ _ D.zTO d₄.zz) hs₅
        refine wpAny_bind (wpAny_letGo (wpAny_pure ?_))
        have hkl := (List.getElem?_eq_some_iff.mp hS).1
        exact ⟨k + 1, h₅, tk₄, _, rfl, hr.symm, hkl, rfl, d₅, hTO₅, by rw [Array.size_setIfInBounds]; exact ha₃, taken_set ht₃ hS hP⟩
    · rintro b s' ⟨k, h, tk, arr', rfl, hL, hk, rfl, d₃, hTO₃, ha₃, ht₃⟩
      have hkl : k = srcs.length := by
        have := congrArg List.length hL
        rw [List.length_drop, List.length_zipIdx, refsOf, List.length_map, List.length_nil] at this
        lia
      subst hkl
      dsimp only
      refine wpAny_bind (wpAny_seqItems hTO₃ rfl ?_)
      dsimp only
      refine wpAny_bind (wpAny_newTuple ?_ (by rw [Array.length_toList, ha₃]; exact hlen))
      refine wpAny_bind ?_
      unfold Builtin.SmallTypes.ownedTupleHandOut
      have hz₄ := up (o := { cls := .type "tuple", data := .seq arr'.toList.toArray }) d₃.zz
      refine wpAny_bind (wpAny_setField_rec hz₄ (by simp) fun h₅ hz₅ hs₅ => ?_)
      replace hz₅ : ZipN h₅ z TI TO (rawInt h.objs.size) fl₁ := hz₅
      refine wpAny_setField_rec hz₅ (by simp) fun h₆ hz₆ hs₆ => ?_
      replace hz₆ : ZipN h₆ z TI TO (rawInt h.objs.size) false := hz₆
      have sz := d₃.size
      have ne : h.objs.size ≠ z := Nat.ne_of_gt (Heap.lt_size d₃.zz)
      have keep : ∀ b o, b ≠ z → h.get? b = some o → h₆.get? b = some o := fun b o hb e => hs₆.extBut _ _ hb (hs₅.extBut _ _ hb (up e))
      refine wpAny_pure ⟨_, rfl, ?_⟩
      rw [sz]
      refine hQ h₆ tk arr' ⟨_, _, arr', .inr ⟨_, rfl⟩, hz₆, keep _ _ D.zTI.symm d₃.ti, keep _ _ D.zTO.symm hTO₃, ha₃, fun S hS => ?_⟩ ?_ ha₃ ht₃ ?_ fun b o b1 b2 b3 e => keep b o b1 (d₃.keep b o b1 b2 b3 e)
      · obtain ⟨m, hm⟩ := List.mem_iff_getElem?.mp hS
        have hSt := d₃.St m S hm
        rw [if_pos (List.getElem?_eq_some_iff.mp hm).1] at hSt
        exact (hd S hS).frame _ _ _ hSt fun b hb o e => keep b o (fun q => D.zS S hS (q ▸ hb)) e
      · have := hs₆.extBut _ _ ne (hs₅.extBut _ _ ne (Heap.get?_push_size h (o := { cls := .type "tuple", data := .seq arr'.toList.toArray }) rfl))
        rw [sz, Array.toArray_toList] at this
        exact this
      · rw [hs₆.1, hs₅.1, Heap.size_push, sz]
    · exact ⟨0, h₂, s.toks, arr, rfl, rfl, Nat.zero_le _, rfl, d₂, hTO₂, ha, fun m S v hm => absurd hm (Nat.not_lt_zero _)⟩
  | false =>
    rw [if_neg (by decide)]
    refine wpAny_bind (PySem.MeetsSeq2.wpAny_forIn_array _ (ZLq z TI TO srcs i f0 fl₁ s arr) _ ?_ ?_ _ _ ?_)
    · rintro x rest ⟨b1, b2⟩ s' ⟨k, h, tk, rfl, hL, hk, rfl, hd₃, hTO₃, ha₃, ht₃⟩
      obtain ⟨hx, hr⟩ := drop_cons hL.symm
      obtain ⟨S, hS, rfl⟩ := refs_at hx
      have hSm := List.mem_of_getElem? hS
      refine wpAny_bind (wpAny_holding ?_)
      show wpAny _ _ (Builtin.SmallTypes.nextOf (.ref S.it) >>= _) _ _ _
      have hSt := hd₃.St k S hS
      rw [if_neg (Nat.lt_irrefl _)] at hSt
      refine wpAny_bind ((hd S hSm).item i _ _ _ hi hSt fun x h₄ tk₄ hP hst₄ hs₄ => wpAny_pure (wpAny_pure ?_))
      have d₄ := hd₃.step D hd hS hst₄ hs₄
      have hTO₄ : TupAt h₄ TO arr := hs₄.extBut _ _ (fun q => D.TOS S hSm (q ▸ D.self S hSm)) hTO₃
      have hkl := (List.getElem?_eq_some_iff.mp hS).1
      exact ⟨k + 1, h₄, tk₄, rfl, hr.symm, hkl, rfl, d₄, hTO₄, by rw [Array.size_push, ha₃], taken_push ht₃ ha₃ hS hP⟩
    · rintro ⟨b1, b2⟩ s' ⟨k, h, tk, rfl, hL, hk, rfl, d₃, hTO₃, ha₃, ht₃⟩
      have hkl : k = srcs.length := by
        have := congrArg List.length hL
        rw [List.length_drop, refsOf, List.length_map, List.length_nil] at this
        lia
      subst hkl
      dsimp only at ha₃ ht₃ ⊢
      refine wpAny_bind (wpAny_newTuple ?_ (by rw [Array.length_toList, ha₃]; exact hlen))
      have sz := d₃.size
      refine wpAny_pure ⟨_, rfl, ?_⟩
      rw [sz]
      refine hQ _ tk b2 ⟨_, _, arr, hf, up d₃.zz, up d₃.ti, up hTO₃, ha, fun S hS => ?_⟩ ?_ ha₃ ht₃ (by rw [Heap.size_push, sz]) fun b o b1 b2 b3 e => up (d₃.keep b o b1 b2 b3 e)
      · obtain ⟨m, hm⟩ := List.mem_iff_getElem?.mp hS
        have hSt := d₃.St m S hm
        rw [if_pos (List.getElem?_eq_some_iff.mp hm).1] at hSt
        exact (hd S hS).frame _ _ _ hSt fun b hb o e => up e
      · have := Heap.get?_push_size h (o := { cls := .type "tuple", data := .seq b2.toList.toArray }) rfl
        rw [sz, Array.toArray_toList] at this
        exact this
    · exact ⟨0, h₁, s.toks, rfl, rfl, Nat.zero_le _, rfl, d₁, hTO₁, rfl, fun m S v hm => absurd hm (Nat.not_lt_zero _)⟩
theorem zipN_end {z TI TO : Addr} {srcs : List Src} {n : Nat} {Q : Fin → Shared → Prop} (D : ZApart z TI TO srcs) (hd : ∀ S ∈ srcs, Draws prog w A S.it S.fp n S.P S.St) (h0 : srcs ≠ []) (hst : ZSt z TI TO srcs n s.heap)
    (hE : ∀ h' e, (∀ b o, b ≠ z → b ≠ TO → (∀ S ∈ srcs, b ≠ S.it) → s.heap.get? b = some o → h'.get? b = some o) → (∃ o, h'.get? e = some o ∧ o.cls = .type "StopIteration") → E (.ref e) { s with heap := h' }) :
    wpAny (model prog w) A (Builtin.«zip.__next__» ⟨[.ref z], []⟩) Q E s := by
  obtain ⟨f0, fl, arr, hf, hz, hTI, hTO, ha, hst⟩ := hst
  obtain ⟨S, r, rfl⟩ : ∃ S r, srcs = S :: r := by
    cases srcs with
    | nil => exact absurd rfl h0
    | cons S r => exact ⟨S, r, rfl⟩
  show wpAny _ _ (field (.ref z) 2 >>= _) _ _ _
  refine wpAny_bind (wpAny_field hz rfl (x := .bool false) rfl ?_)
  show wpAny _ _ (field (.ref z) 3 >>= _) _ _ _
  refine wpAny_bind (wpAny_field hz rfl (x := .ref TI) rfl ?_)
  refine wpAny_bind (wpAny_seqItems hTI rfl ?_)
  dsimp only
  show wpAny _ _ (if _ then _ else _) _ _ _
  rw [if_neg (by simp [refsOf])]
  refine wpAny_bind (zip_isFree hz hf fun c h₁ fl₁ hz₁ hs₁ => ?_)
  have hm : S ∈ S :: r := .head _
  have hnz : S.it ≠ z := fun q => D.zS S hm (q ▸ D.self S hm)
  have fr : ∀ {h h' : Heap}, Heap.SameBut z h h' → S.St n h → S.St n h' := fun hs q => (hd S hm).frame _ _ _ q fun b hb o e => hs.extBut _ _ (fun q => D.zS S hm (q ▸ hb)) e
  have hst₁ := fr hs₁ (hst S hm)
  cases c with
  | true =>
    rw [if_pos rfl]
    refine wpAny_bind (wpAny_rule ?_)
    refine wpAny_bind (wpAny_field hz₁ rfl (x := .ref TO) rfl ?_)
    dsimp only
    refine wpAny_bind (wpAny_setField_rec hz₁ (by simp) fun h₂ hz₂ hs₂ => ?_)
    replace hz₂ : ZipN h₂ z TI TO .ellipsis fl₁ := hz₂
    refine wpAny_bind ?_
    rw [refsOf, List.map_cons, List.zipIdx_cons, List.forIn_cons]
    refine wpAny_bind (wpAny_bind (wpAny_onRaise ?_))
    show wpAny _ _ (Builtin.SmallTypes.nextOf (.ref S.it) >>= _) _ _ _
    refine wpAny_bind ((hd S hm).done _ _ _ (fr hs₂ hst₁) fun h₃ e hs₃ he => ?_)
    obtain ⟨oe, hoe, hce⟩ := he
    have hz₃ : ZipN h₃ z TI TO .ellipsis fl₁ := hs₃ _ _ hnz.symm hz₂
    have hez : e ≠ z := fun x => by subst x; rw [hz₃] at hoe; cases hoe; simp at hce
    refine wpAny_setField_rec hz₃ (by simp) fun h₄ _ hs₄ => hE h₄ e (fun b o b1 b2 b3 x => hs₄.extBut _ _ b1 (hs₃ _ _ (b3 S hm) (hs₂.extBut _ _ b1 (hs₁.extBut _ _ b1 x)))) ⟨oe, hs₄.extBut _ _ hez hoe, hce⟩
  | false =>
    rw [if_neg (by decide)]
    refine wpAny_bind ?_
    rw [← Array.forIn_toList, refsOf, List.map_cons, List.forIn_cons]
    refine wpAny_bind (wpAny_bind (wpAny_holding ?_))
    show wpAny _ _ (Builtin.SmallTypes.nextOf (.ref S.it) >>= _) _ _ _
    refine wpAny_bind ((hd S hm).done _ _ _ hst₁ fun h₃ e hs₃ he => ?_)
    exact hE h₃ e (fun b o b1 b2 b3 x => hs₃ _ _ (b3 S hm) (hs₁.extBut _ _ b1 x)) he
end
end
section
open PySem.SeqAt
section
variable {prog : Program} {w : World} {A : Around} {E : Value → Shared → Prop} {s : Shared}
theorem ZSt.typeIs {z TI TO : Addr} {srcs : List Src} {i : Nat} (x : ZSt z TI TO srcs i s.heap) : s.TypeIs (.ref z) "zip" := let ⟨_, _, _, _, hz, _, _, _, _⟩ := x; ⟨_, hz, rfl⟩
theorem zipN_item {z TI TO : Addr} {srcs : List Src} {i n : Nat} {Q : Option Value → Shared → Prop} (D : ZApart z TI TO srcs) (hd : ∀ S ∈ srcs, Draws prog w A.in1 S.it S.fp n S.P S.St) (hi : i < n) (h0 : srcs ≠ []) (hl : srcs.length ≤ 1000) (hst : ZSt z TI TO srcs i s.heap)
    (hQ : ∀ h' tk vals, ZSt z TI TO srcs (i + 1) h' → TupAt h' s.heap.objs.size vals → vals.size = srcs.length → takenAt srcs i srcs.length vals → h'.objs.size = s.heap.objs.size + 1 →
      (∀ b o, b ≠ z → b ≠ TO → (∀ S ∈ srcs, b ≠ S.it) → s.heap.get? b = some o → h'.get? b = some o) → Q (some (.ref s.heap.objs.size)) { s with heap := h', toks := tk }) :
    wpAny (model prog w) A (pyNext (.ref z)) Q E s := by
  have hT := hst.typeIs
  unfold pyNext
  exact wpAny_bind (wpAny_attempt (wpAny_callSpecial?_slot (name := sQ "__next__") hT F.slot_zip_next
    (wpAny_call_entry F.slot_zip_next hT F.entry_zip_next
      (zipN_next D hd hi h0 hl hst fun h' tk vals a1 a2 a3 a4 a5 a6 => wpAny_pure (hQ h' tk vals a1 a2 a3 a4 a5 a6)) (F.args_zip_next_1 _))))
theorem zipN_done {z TI TO : Addr} {srcs : List Src} {n : Nat} {Q : Option Value → Shared → Prop} (D : ZApart z TI TO srcs) (hd : ∀ S ∈ srcs, Draws prog w A.in1 S.it S.fp n S.P S.St) (h0 : srcs ≠ []) (hst : ZSt z TI TO srcs n s.heap)
    (hQ : ∀ h', (∀ b o, b ≠ z → b ≠ TO → (∀ S ∈ srcs, b ≠ S.it) → s.heap.get? b = some o → h'.get? b = some o) → Q none { s with heap := h' }) : wpAny (model prog w) A (pyNext (.ref z)) Q E s := by
  have hT := hst.typeIs
  unfold pyNext
  refine wpAny_bind (wpAny_attempt (wpAny_callSpecial?_slot (name := sQ "__next__") hT F.slot_zip_next
    (wpAny_call_entry F.slot_zip_next hT F.entry_zip_next (zipN_end D hd h0 hst fun h' e hk he => ?_) (F.args_zip_next_1 _))))
  obtain ⟨o, ho, hc⟩ := he
  refine wpAny_bind (wpAny_isInstance (T := "StopIteration") (b := true) ⟨o, ho, hc⟩ isSubtype_stop ?_)
  exact wpAny_pure (hQ _ hk)
theorem zipN_letGo {elts : List Expr} {x1} {pos : Pos} {z TI TO T : Addr} {srcs : List Src} {i n : Nat} {Q : Unit → Shared → Prop} (D : ZApart z TI TO srcs) (hd : ∀ S ∈ srcs, Draws prog w A S.it S.fp n S.P S.St) (hst : ZSt z TI TO srcs i s.heap)
    (hQ : ∀ h', ZSt z TI TO srcs i h' → Heap.SameBut z s.heap h' → Q () { s with heap := h' }) :
    wpAny (model prog w) A (letOwnedTupleGo (.Tuple elts x1 pos) (.ref z) (.ref T)) Q E s := by
  have st := hst
  obtain ⟨f0, fl, arr, hf, hz, hTI, hTO, ha, hst⟩ := hst
  unfold letOwnedTupleGo
  refine wpAny_bind (wpAny_load hz ?_)
  show wpAny _ _ (if (["enumerate", "zip", "dict_itemiterator", "dict_reverseitemiterator", "odict_iterator", "itertools.zip_longest", "itertools.pairwise"].contains "zip" &&
      (#[f0, .bool fl, .bool false, .ref TI, .ref TO] : Array Value)[0]? == some (rawInt T)) = true then _ else _) Q E s
  split
  · refine wpAny_bind (wpAny_rule ?_)
    show wpAny _ _ (setField (.ref z) 0 .none) Q E s
    refine wpAny_setField_rec hz (by simp) fun h' hz' hs' => hQ h' ⟨.none, fl, arr, .inl rfl, hz', hs'.extBut _ _ D.zTI.symm hTI, hs'.extBut _ _ D.zTO.symm hTO, ha, fun S hS => (hd S hS).frame _ _ _ (hst S hS) fun b hb o e => hs'.extBut _ _ (fun q => D.zS S hS (q ▸ hb)) e⟩ hs'
  · exact wpAny_pure (hQ s.heap st sameBut_refl)
theorem zipN_self {z TI TO : Addr} {srcs : List Src} {i : Nat} {Q : Value → Shared → Prop} (hst : ZSt z TI TO srcs i s.heap) (h : Q (.ref z) s) : wpAny (model prog w) A (pyIter (.ref z)) Q E s := by
  have hT := hst.typeIs
  refine wpAny_pyIter_slot hT F.slot_zip_iter (wpAny_call_entry F.slot_zip_iter hT F.entry_zip_iter ?_ (F.args_zip_iter_1 _))
  show wpAny _ _ (ret (.ref z)) _ _ s
  exact wpAny_pure ⟨_, rfl, "zip", _, hT, F.slot_zip_next.lookup, h⟩
noncomputable def zfp (z TI TO : Addr) (srcs : List Src) : List Addr := z :: TI :: TO :: srcs.flatMap Src.fp
noncomputable def zwr (z TO : Addr) (srcs : List Src) : List Addr := z :: TO :: srcs.map Src.it
theorem zwr_not {z TO b : Addr} {srcs : List Src} (h : b ∉ zwr z TO srcs) : b ≠ z ∧ b ≠ TO ∧ ∀ S ∈ srcs, b ≠ S.it :=
  ⟨fun q => h (q ▸ .head _), fun q => h (q ▸ .tail _ (.head _)), fun S hS q => h (q ▸ .tail _ (.tail _ (List.mem_map.mpr ⟨S, hS, rfl⟩)))⟩
theorem zfp_mem {z TI TO b : Addr} {srcs : List Src} (h : b = z ∨ b = TI ∨ b = TO ∨ ∃ S ∈ srcs, b ∈ S.fp) : b ∈ zfp z TI TO srcs := by
  rcases h with rfl | rfl | rfl | ⟨S, hS, hb⟩
  · exact .head _
  · exact .tail _ (.head _)
  · exact .tail _ (.tail _ (.head _))
  · exact .tail _ (.tail _ (.tail _ (List.mem_flatMap.mpr ⟨S, hS, hb⟩)))
theorem zwr_or {z TO b : Addr} {srcs : List Src} (h : b ∈ zwr z TO srcs) : b = z ∨ b = TO ∨ ∃ S ∈ srcs, b = S.it := by
  rcases List.mem_cons.mp h with h | h
  · exact .inl h
  · rcases List.mem_cons.mp h with h | h
    · exact .inr (.inl h)
    · obtain ⟨S, hS, e⟩ := List.mem_map.mp h
      exact .inr (.inr ⟨S, hS, e.symm⟩)
theorem walksN {z TI TO : Addr} {srcs : List Src} {n : Nat} (hh : A.handled = none) (D : ZApart z TI TO srcs) (hd : ∀ A : Around, A.handled = none → ∀ S ∈ srcs, Draws prog w A S.it S.fp n S.P S.St) (h0 : srcs ≠ []) (hl : srcs.length ≤ 1000) :
    WalksU prog w A z (zfp z TI TO srcs) (zwr z TO srcs) n (fun i vals => vals.size = srcs.length ∧ takenAt srcs i srcs.length vals) (ZSt z TI TO srcs) (fun i T h => ZSt z TI TO srcs (i + 1) h ∧ T ∉ zwr z TO srcs) where
  sub := fun b hb => by
    rcases zwr_or hb with h | h | ⟨S, hS, h⟩
    · exact zfp_mem (.inl h)
    · exact zfp_mem (.inr (.inr (.inl h)))
    · exact zfp_mem (.inr (.inr (.inr ⟨S, hS, h ▸ D.self S hS⟩)))
  frame := fun i h h' st k => st.frame (hd A hh) fun b hb o e => k b (zfp_mem hb) o e
  item := fun i s Q E hi st hQ => by
    refine zipN_item D (hd A.in1 hh) hi h0 hl st fun h' tk vals a1 a2 a3 a4 a5 a6 => hQ _ vals h' tk ⟨a3, a4⟩ ⟨_, a2, rfl, _, rfl⟩ ⟨a1, fun hb => ?_⟩ fun b o hb e => a6 b o (zwr_not hb).1 (zwr_not hb).2.1 (zwr_not hb).2.2 e
    have lt : ∀ {c o}, s.heap.get? c = some o → s.heap.objs.size ≠ c := fun e => Nat.ne_of_gt (Heap.lt_size e)
    obtain ⟨f0, fl, arr, hf, hz, hTI, hTO, ha, hst⟩ := st
    rcases zwr_or hb with h | h | ⟨S, hS, h⟩
    · exact lt hz h
    · exact lt hTO h
    · obtain ⟨o, e⟩ := (hd A hh S hS).live _ _ (hst S hS)
      exact lt e h
  go := fun elts k pos i T s Q E hm hQ => zipN_letGo D (hd A hh) hm.1 fun h' st hs => hQ h' st fun b o hb e => hs.extBut _ _ (zwr_not hb).1 e
  apart := fun i T h hm => hm.2
  done := fun s Q E st hQ => zipN_done D (hd A.in1 hh) h0 st fun h' hk => hQ h' s.toks fun b o hb e => hk b o (zwr_not hb).1 (zwr_not hb).2.1 (zwr_not hb).2.2 e
  self := fun i s Q E st hQ => zipN_self st hQ
end
namespace FZ
theorem typeCall_zip_3 (a b c : Value) : checkTypeCall "zip" ⟨[a, b, c], []⟩ = pure () := by kernel_rfl
theorem newCall_zip_3 (a b c : Value) : checkBuiltinCall "zip.__new__" ⟨[.type "zip", a, b, c], []⟩ = pure () := by kernel_rfl
theorem args_object_init_4 (a b c d : Value) : argsOk "object.__init__" ⟨[a, b, c, d], []⟩ := by
  unfold argsOk; rw [signature?_of (id := "object.__init__") (n := ['_', '_', 't', 'i', 'n', 'i', '_', '_']) (o := ['t', 'c', 'e', 'j', 'b', 'o']) (by kernel_rfl) F.owner_object]; kernel_rfl
end FZ
noncomputable abbrev liO (l : Addr) : Obj := { cls := .type "list_iterator", data := .fields #[.ref l, .int 0 0] }
noncomputable abbrev siO (x : Str) (t : Tok) : Obj := { cls := .type (strIterType x), data := .fields #[.str x t, .int 0 0] }
noncomputable abbrev tuO (vs : Array Value) : Obj := { cls := .type "tuple", data := .seq vs }
noncomputable abbrev zpO (f0 : Value) (b : Bool) (TI TO : Addr) : Obj := { cls := .type "zip", dict := none, data := .fields #[f0, .bool b, .bool false, .ref TI, .ref TO], slots := #[] }
noncomputable abbrev slA (h : Heap) (x : Str) (t : Tok) (l : Addr) : Heap := (h.push (siO x t)).push (liO l)
noncomputable abbrev slB (h : Heap) (x : Str) (t : Tok) (l : Addr) : Heap := (slA h x t l).push (tuO #[.ref h.objs.size, .ref (h.push (siO x t)).objs.size])
noncomputable abbrev slC (h : Heap) (x : Str) (t : Tok) (l : Addr) : Heap := (slB h x t l).push (tuO #[.none, .none])
noncomputable abbrev slD (h : Heap) (x : Str) (t : Tok) (l : Addr) : Heap := (slC h x t l).push (zpO .none false (slA h x t l).objs.size (slB h x t l).objs.size)
noncomputable abbrev llA (h : Heap) (l1 l2 l3 : Addr) : Heap := ((h.push (liO l1)).push (liO l2)).push (liO l3)
noncomputable abbrev llB (h : Heap) (l1 l2 l3 : Addr) : Heap := (llA h l1 l2 l3).push (tuO #[.ref h.objs.size, .ref (h.push (liO l1)).objs.size, .ref ((h.push (liO l1)).push (liO l2)).objs.size])
noncomputable abbrev llC (h : Heap) (l1 l2 l3 : Addr) : Heap := (llB h l1 l2 l3).push (tuO #[.none, .none, .none])
noncomputable abbrev llD (h : Heap) (l1 l2 l3 : Addr) : Heap := (llC h l1 l2 l3).push (zpO .none false (llA h l1 l2 l3).objs.size (llB h l1 l2 l3).objs.size)
theorem meets_zip_sl (x : Str) (t : Tok) (l : Addr) (xs : Array Value) :
    Meets (Builtin.«zip.__new__» ⟨[.type "zip", .str x t, .ref l], []⟩) (fun _ R s => s.heap.IsList l xs ∧ R (.ok (.ret (.ref (slC s.heap x t l).objs.size))) { s with heap := slD s.heap x t l }) :=
  .of_wp fun prog w A R s h => by
    obtain ⟨hp, g, d, tk, os⟩ := s; obtain ⟨hl2, h⟩ := h
    have hsub := sub_zip
    have hL2 : Heap.IsList (Shared.heap ⟨hp.push (siO x t), g, d, tk, os⟩) l xs := Heap.IsList.push hl2 _
    wp_walk using wpAny_pyIter_strU, wpAny_pyIter_list hL2
    exact ⟨_, rfl, h⟩
theorem meets_zip_lll (l1 l2 l3 : Addr) (xs ys zs : Array Value) :
    Meets (Builtin.«zip.__new__» ⟨[.type "zip", .ref l1, .ref l2, .ref l3], []⟩) (fun _ R s => s.heap.IsList l1 xs ∧ s.heap.IsList l2 ys ∧ s.heap.IsList l3 zs ∧ R (.ok (.ret (.ref (llC s.heap l1 l2 l3).objs.size))) { s with heap := llD s.heap l1 l2 l3 }) :=
  .of_wp fun prog w A R s h => by
    obtain ⟨hp, g, d, tk, os⟩ := s; obtain ⟨hl1, hl2, hl3, h⟩ := h
    have hsub := sub_zip
    have hL1 : Heap.IsList (Shared.heap ⟨hp, g, d, tk, os⟩) l1 xs := hl1
    have hL2 : Heap.IsList (Shared.heap ⟨hp.push (liO l1), g, d, tk, os⟩) l2 ys := Heap.IsList.push hl2 _
    have hL3 : Heap.IsList (Shared.heap ⟨(hp.push (liO l1)).push (liO l2), g, d, tk, os⟩) l3 zs := Heap.IsList.push (Heap.IsList.push hl3 _) _
    wp_walk using wpAny_pyIter_list hL1, wpAny_pyIter_list hL2, wpAny_pyIter_list hL3
    exact ⟨_, rfl, h⟩
section
variable {prog : Program} {w : World} {A : Around} {E : Value → Shared → Prop} {s : Shared}
theorem call_zip_sl {x : Str} {t : Tok} {l : Addr} {xs : Array Value} {Q : Value → Shared → Prop} (hl : s.heap.IsList l xs)
    (h : ∀ h', ZipN h' (s.heap.objs.size + 4) (s.heap.objs.size + 2) (s.heap.objs.size + 3) .none false → TupAt h' (s.heap.objs.size + 2) #[.ref s.heap.objs.size, .ref (s.heap.objs.size + 1)] →
      TupAt h' (s.heap.objs.size + 3) #[.none, .none] → h'.get? s.heap.objs.size = some (siO x t) → h'.get? (s.heap.objs.size + 1) = some (liO l) → (∀ c o, s.heap.get? c = some o → h'.get? c = some o) → Q (.ref (s.heap.objs.size + 4)) { s with heap := h' }) :
    wpAny (model prog w) A (call (.type "zip") [.str x t, .ref l]) Q E s := by
  refine callType_new F.called_zip (by decide) (F.typeCall_zip_2 _ _) (F.newCall_zip_2 _ _) (fun obj => F.args_object_init_3 obj _ _) F.entry_zip_new (meets_zip_sl x t l xs) ⟨hl, ?_⟩
  have z1 : (s.heap.push (siO x t)).objs.size = s.heap.objs.size + 1 := Heap.size_push ..
  have z2 : (slA s.heap x t l).objs.size = s.heap.objs.size + 2 := by rw [Heap.size_push, z1]
  have z3 : (slB s.heap x t l).objs.size = s.heap.objs.size + 3 := by rw [Heap.size_push, z2]
  have z4 : (slC s.heap x t l).objs.size = s.heap.objs.size + 4 := by rw [Heap.size_push, z3]
  have up : ∀ {h : Heap} {o : Obj} {b o'}, h.get? b = some o' → (h.push o).get? b = some o' := fun e => Heap.get?_push_of_some _ e
  have g5 : (slD s.heap x t l).get? (slC s.heap x t l).objs.size = some _ := Heap.get?_push_size _ rfl
  have g4 : (slD s.heap x t l).get? (slB s.heap x t l).objs.size = some _ := up (Heap.get?_push_size _ rfl)
  have g3 : (slD s.heap x t l).get? (slA s.heap x t l).objs.size = some _ := up (up (Heap.get?_push_size _ rfl))
  have g2 : (slD s.heap x t l).get? (s.heap.push (siO x t)).objs.size = some _ := up (up (up (Heap.get?_push_size _ rfl)))
  have g1 : (slD s.heap x t l).get? s.heap.objs.size = some _ := up (up (up (up (Heap.get?_push_size _ rfl))))
  show _ ∧ _
  rw [z2, z3, z4] at g5
  rw [z1, z2] at g3
  rw [z3] at g4
  rw [z1] at g2
  rw [z4]
  exact ⟨⟨_, g5, rfl⟩, h _ g5 g3 g4 g1 g2 fun c o x => up (up (up (up (up x))))⟩
theorem call_zip_lll {l1 l2 l3 : Addr} {xs ys zs : Array Value} {Q : Value → Shared → Prop} (hl1 : s.heap.IsList l1 xs) (hl2 : s.heap.IsList l2 ys) (hl3 : s.heap.IsList l3 zs)
    (h : ∀ h', ZipN h' (s.heap.objs.size + 5) (s.heap.objs.size + 3) (s.heap.objs.size + 4) .none false → TupAt h' (s.heap.objs.size + 3) #[.ref s.heap.objs.size, .ref (s.heap.objs.size + 1), .ref (s.heap.objs.size + 2)] →
      TupAt h' (s.heap.objs.size + 4) #[.none, .none, .none] → h'.get? s.heap.objs.size = some (liO l1) → h'.get? (s.heap.objs.size + 1) = some (liO l2) → h'.get? (s.heap.objs.size + 2) = some (liO l3) → (∀ c o, s.heap.get? c = some o → h'.get? c = some o) → Q (.ref (s.heap.objs.size + 5)) { s with heap := h' }) :
    wpAny (model prog w) A (call (.type "zip") [.ref l1, .ref l2, .ref l3]) Q E s := by
  refine callType_new F.called_zip (by decide) (FZ.typeCall_zip_3 _ _ _) (FZ.newCall_zip_3 _ _ _) (fun obj => FZ.args_object_init_4 obj _ _ _) F.entry_zip_new (meets_zip_lll l1 l2 l3 xs ys zs) ⟨hl1, hl2, hl3, ?_⟩
  have z1 : (s.heap.push (liO l1)).objs.size = s.heap.objs.size + 1 := Heap.size_push ..
  have z1' : ((s.heap.push (liO l1)).push (liO l2)).objs.size = s.heap.objs.size + 2 := by rw [Heap.size_push, z1]
  have z2 : (llA s.heap l1 l2 l3).objs.size = s.heap.objs.size + 3 := by rw [Heap.size_push, z1']
  have z3 : (llB s.heap l1 l2 l3).objs.size = s.heap.objs.size + 4 := by rw [Heap.size_push, z2]
  have z4 : (llC s.heap l1 l2 l3).objs.size = s.heap.objs.size + 5 := by rw [Heap.size_push, z3]
  have up : ∀ {h : Heap} {o : Obj} {b o'}, h.get? b = some o' → (h.push o).get? b = some o' := fun e => Heap.get?_push_of_some _ e
  have g5 : (llD s.heap l1 l2 l3).get? (llC s.heap l1 l2 l3).objs.size = some _ := Heap.get?_push_size _ rfl
  have g4 : (llD s.heap l1 l2 l3).get? (llB s.heap l1 l2 l3).objs.size = some _ := up (Heap.get?_push_size _ rfl)
  have g3 : (llD s.heap l1 l2 l3).get? (llA s.heap l1 l2 l3).objs.size = some _ := up (up (Heap.get?_push_size _ rfl))
  have g2' : (llD s.heap l1 l2 l3).get? ((s.heap.push (liO l1)).push (liO l2)).objs.size = some _ := up (up (up (Heap.get?_push_size _ rfl)))
  have g2 : (llD s.heap l1 l2 l3).get? (s.heap.push (liO l1)).objs.size = some _ := up (up (up (up (Heap.get?_push_size _ rfl))))
  have g1 : (llD s.heap l1 l2 l3).get? s.heap.objs.size = some _ := up (up (up (up (up (Heap.get?_push_size _ rfl)))))
  show _ ∧ _
  rw [z2, z3, z4] at g5
  rw [z1, z1', z2] at g3
  rw [z3] at g4
  rw [z1'] at g2'
  rw [z1] at g2
  rw [z4]
  exact ⟨⟨_, g5, rfl⟩, h _ g5 g3 g4 g1 g2 g2' fun c o x => up (up (up (up (up (up x)))))⟩
end
end
section
open PySem.SeqAt
noncomputable def chrL (x : Str) : List PV := x.cps.toList.map fun c => .str ⟨#[c]⟩
noncomputable def strS (b : Addr) (x : Str) (t : Tok) : Src := ⟨b, [b], fun i v => ∃ c u, x.cps[i]? = some c ∧ v = .str ⟨#[c]⟩ u, fun i h => h.IsStrIter b "str_ascii_iterator" x t i⟩
noncomputable def lstS (b a : Addr) (xs : Array Value) : Src := ⟨b, [b, a], fun i v => xs[i]? = some v, fun i h => h.IsListIter b a i ∧ h.IsList a xs⟩
def SrcOk (N T : Nat) (S : Src) : Prop := N ≤ S.it ∧ S.it < T ∧ S.it ∈ S.fp ∧ ∀ b ∈ S.fp, b = S.it ∨ b < N
theorem strS_ok {N T : Nat} {b : Addr} {x : Str} {t : Tok} (h1 : N ≤ b) (h2 : b < T) : SrcOk N T (strS b x t) := ⟨h1, h2, .head _, fun _ h => .inl (List.mem_singleton.mp h)⟩
theorem lstS_ok {N T : Nat} {b a : Addr} {xs : Array Value} (h1 : N ≤ b) (h2 : b < T) (ha : a < N) : SrcOk N T (lstS b a xs) := ⟨h1, h2, .head _, fun c h => (List.mem_cons.mp h).imp id fun h => by rw [List.mem_singleton.mp h]; exact ha⟩
theorem ZApart.new {N T : Nat} {z TI TO : Addr} {srcs : List Src} (h : ∀ S ∈ srcs, SrcOk N T S) (nd : (srcs.map (·.it)).Nodup) (hN : N ≤ T) (hz : T ≤ z) (hI : T ≤ TI) (hO : T ≤ TO) (n1 : z ≠ TI) (n2 : z ≠ TO) (n3 : TI ≠ TO) : ZApart z TI TO srcs := by
  have out : ∀ b, T ≤ b → ∀ S ∈ srcs, b ∉ S.fp := fun b hb S hS hm => by
    obtain ⟨_, h2, _, h4⟩ := h S hS
    rcases h4 b hm with q | q
    · exact absurd (q ▸ h2) (Nat.not_lt.mpr hb)
    · exact absurd (Nat.lt_of_lt_of_le q (Nat.le_trans hN hb)) (Nat.lt_irrefl _)
  refine ⟨n1, n2, n3, out z hz, out TI hI, out TO hO, fun S hS => (h S hS).2.2.1, fun m m' S S' e e' hne hm => ?_⟩
  rcases (h S' (List.mem_of_getElem? e')).2.2.2 _ hm with q | q
  · refine hne ((List.getElem?_inj (by rw [List.length_map]; exact (List.getElem?_eq_some_iff.mp e).1) nd).mp ?_)
    rw [List.getElem?_map, List.getElem?_map, e, e']
    exact congrArg some q
  · exact absurd q (Nat.not_lt.mpr (h S (List.mem_of_getElem? e)).1)
theorem all2 {P : Src → Prop} {a b : Src} (ha : P a) (hb : P b) : ∀ S ∈ [a, b], P S := List.forall_mem_cons.mpr ⟨ha, List.forall_mem_cons.mpr ⟨hb, fun _ h => nomatch h⟩⟩
theorem all3 {P : Src → Prop} {a b c : Src} (ha : P a) (hb : P b) (hc : P c) : ∀ S ∈ [a, b, c], P S := List.forall_mem_cons.mpr ⟨ha, all2 hb hc⟩
theorem nd2 (N : Nat) : [N, N + 1].Nodup := by simp
theorem nd3 (N : Nat) : [N, N + 1, N + 2].Nodup := by simp
section
variable {C : Cx} {n : Nat} {target : Expr} {ds : List PV} {Z Z' : Fz} {s s' : Shared}
theorem turns_walksV {J : Addr} {fp wr : List Addr} {Pt : Nat → Array Value → Prop} {St : Nat → Heap → Prop} {Mid : Nat → Addr → Heap → Prop} {h : Heap} {new : Addr → Prop} {ts : List Expr} {kk : Nat} {p : Pos} (W : ∀ A : Around, A.handled = none → WalksU C.prog C.w A J fp wr ds.length Pt St Mid)
    (st0 : St 0 h) (hwZ : ∀ b ∈ wr, Z b = none) (hfp : ∀ b ∈ fp, (∃ o, Z b = some o) ∨ (new b ∧ Z b = none)) (hob : ∀ i h', St i h' → ∀ b ∈ fp, ∃ o, h'.get? b = some o ∧ (Z b = none → ∀ ps, o ≠ tabObj ps))
    (hItm : ∀ i vals d Z', Le Z Z' → ds[i]? = some d → Pt i vals → ∃ dd, d = .tup dd ∧ RdL Z' vals.toList dd) : Turns C (.Tuple ts kk p) J ds Z h new :=
  ⟨fp, wr, _, _, St, fun A hA => KTurns.ofWalksU (W A hA), st0, hwZ, hfp, hob, fun i v h' d Z' le _ hd hP => by
    obtain ⟨T, vals, rfl, hP, hT⟩ := hP
    obtain ⟨dd, rfl, hr⟩ := hItm i vals d Z' le hd hP
    exact .tupv hT hr, fun A i s Q E hA st q => (W A hA).self i s Q E st q⟩
theorem fi_zipSL {x : Str} {es : List PV} {ts : List Expr} {kk : Nat} {p : Pos} (hx : strIterType x = "str_ascii_iterator") (he : es.length = x.cps.size) : FI C n (.type "zip") [is (.str x), is (.list es)] (.Tuple ts kk p) (zipL (chrL x) es) := fun A s Z vs Q E hA I hv k => by
  obtain ⟨_, _, rfl, h, r⟩ := sati hv
  obtain ⟨_, _, rfl, h2, r⟩ := sati r
  cases r
  obtain ⟨_, rfl⟩ := rdi h
  rename_i t
  cases h2 with
  | list h2 r2 =>
    rename_i a m vs
    have hl := isList_of I h2
    have hal := Heap.lt_size (I.heap _ _ h2)
    refine call_zip_sl hl fun h' hz hTI hTO hi1 hi2 hk => ?_
    rw [show siO x t = { cls := .type "str_ascii_iterator", data := .fields #[.str x t, .int 0 0] } by rw [siO, hx]] at hi1
    have g : ∀ j, s.heap.get? (s.heap.objs.size + j) = none := fun j => gAb (Nat.le_add_right _ _)
    have g0 := g 0
    rw [Nat.add_zero] at g0
    generalize s.heap.objs.size = N at *
    have D : ZApart (N + 4) (N + 2) (N + 3) [strS N x t, lstS (N + 1) a vs.toArray] :=
      .new (N := N) (T := N + 2) (all2 (strS_ok (Nat.le_refl _) (Nat.lt_add_of_pos_right (by decide))) (lstS_ok (Nat.le_succ _) (Nat.lt_succ_self _) hal)) (nd2 N) (Nat.le_add_right _ _) (Nat.le_add_right _ 2) (Nat.le_refl _) (Nat.le_succ _) (fun e => nomatch Nat.add_left_cancel e) (fun e => nomatch Nat.add_left_cancel e) (fun e => nomatch Nat.add_left_cancel e)
    have hlen : (zipL (chrL x) es).length = x.cps.size := by rw [zipL, List.length_map, List.length_zip, chrL, List.length_map, Array.length_toList, he, Nat.min_self]
    have hlv : vs.toArray.size = x.cps.size := by rw [List.size_toArray, r2.length, he]
    have hd : ∀ A : Around, A.handled = none → ∀ S ∈ [strS N x t, lstS (N + 1) a vs.toArray], Draws C.prog C.w A S.it S.fp x.cps.size S.P S.St := fun A hA =>
      all2 (P := fun S => Draws C.prog C.w A S.it S.fp x.cps.size S.P S.St) (Draws.strAscii hA N x t) (hlv ▸ Draws.list (prog := C.prog) (w := C.w) hA (N + 1) a (Nat.ne_of_lt (Nat.lt_succ_of_lt hal)) vs.toArray)
    have st0 : ZSt (N + 4) (N + 2) (N + 3) [strS N x t, lstS (N + 1) a vs.toArray] 0 h' := ⟨.none, false, #[.none, .none], .inl rfl, hz, hTI, hTO, rfl, all2 (P := fun S => S.St 0 h') ⟨_, hi1, rfl, rfl⟩ ⟨⟨_, hi2, rfl, rfl⟩, hl.at fun o e => hk _ o e⟩⟩
    refine zipN_self (s := { s with heap := h' }) st0 ?_
    have st : Step C Z s Z { s with heap := h' } := .keeps (t := s.toks) I hk
    refine k _ Z _ st (turns_walksV (fun A hA => hlen ▸ walksN hA D hd (List.cons_ne_nil _ _) (show (2 : Nat) ≤ 1000 by decide)) st0 (fun b hb => ?_) (fun b hb => ?_) (fun i h' st' b hb => ?_) fun i vals d Z' le hd hP => ?_)
    · simp [zwr, strS, lstS] at hb
      rcases hb with rfl | rfl | rfl | rfl
      · exact I.fresh (g 4)
      · exact I.fresh (g 3)
      · exact I.fresh g0
      · exact I.fresh (g 1)
    · simp [zfp, strS, lstS] at hb
      rcases hb with rfl | rfl | rfl | rfl | rfl | rfl
      · exact .inr ⟨g 4, I.fresh (g 4)⟩
      · exact .inr ⟨g 2, I.fresh (g 2)⟩
      · exact .inr ⟨g 3, I.fresh (g 3)⟩
      · exact .inr ⟨g0, I.fresh g0⟩
      · exact .inr ⟨g 1, I.fresh (g 1)⟩
      · exact .inl ⟨_, h2⟩
    · obtain ⟨f0, fl, arr, hf, hz, hTI, hTO, ha, hst⟩ := st'
      obtain ⟨o1, ho1, hc1, _⟩ := hst _ (.head _)
      obtain ⟨⟨o2, ho2, hc2, _⟩, o3, ho3, _⟩ := hst _ (.tail _ (.head _))
      simp [zfp, strS, lstS] at hb
      rcases hb with rfl | rfl | rfl | rfl | rfl | rfl
      · exact ⟨_, hz, fun _ ps q => by have := congrArg Obj.cls q; simp [tabObj] at this⟩
      · exact ⟨_, hTI, fun _ ps q => by have := congrArg Obj.cls q; simp [tabObj] at this⟩
      · exact ⟨_, hTO, fun _ ps q => by have := congrArg Obj.cls q; simp [tabObj] at this⟩
      · exact ⟨o1, ho1, fun _ ps q => by subst q; simp [tabObj] at hc1⟩
      · exact ⟨o2, ho2, fun _ ps q => by subst q; simp [tabObj] at hc2⟩
      · exact ⟨o3, ho3, fun q => by rw [h2] at q; cases q⟩
    · obtain ⟨hv, ht⟩ := hP
      obtain ⟨v1, v2, ev⟩ := len2 (l := vals.toList) (by rw [Array.length_toList]; exact hv)
      obtain ⟨vals⟩ := vals
      have ev : vals = [v1, v2] := ev
      subst ev
      obtain ⟨c, u, hc, rfl⟩ := ht 0 _ v1 (by decide : 0 < 2) rfl rfl
      have h5 : vs.toArray[i]? = some v2 := ht 1 _ v2 (by decide : 1 < 2) rfl rfl
      rw [zipL, List.getElem?_map] at hd
      cases hq : ((chrL x).zip es)[i]? with
      | none => rw [hq] at hd; cases hd
      | some d' =>
        rw [hq] at hd
        obtain ⟨d1, d2⟩ := d'
        cases hd
        obtain ⟨q1, q2⟩ := List.getElem?_zip_eq_some.mp hq
        have q3 : d1 = .str ⟨#[c]⟩ := by
          rw [chrL, List.getElem?_map, Array.getElem?_toList, hc] at q1
          cases q1; rfl
        exact ⟨_, rfl, .cons (by rw [q3]; exact .str _ _) (.cons (RdL.at (RdL.le le r2) (by simpa using h5) q2) .nil)⟩
end
end
section
open PySem.SeqAt
namespace FZ
theorem nolen_zip : typeLookup (.type "zip") "__len__" = pure none := by rw [typeLookup_type, builtinLookup_eq_fast]; kernel_rfl
theorem nohint_zip : typeLookup (.type "zip") "__length_hint__" = pure none := by rw [typeLookup_type, builtinLookup_eq_fast]; kernel_rfl
end FZ
section
variable {C : Cx} {X : Addr → Prop} {Z₀ Z : Fz} {s₀ s : Shared} {A : Around} {R : Result → Shared → Prop} {z TI TO S : Addr} {srcs : List Src} {n : Nat} {ds : List PV} {res : Value}
structure Taking (C : Cx) (X : Addr → Prop) (Z₀ : Fz) (s₀ : Shared) (z TI TO S : Addr) (srcs : List Src) (ds : List PV) (i : Nat) (Z : Fz) (s : Shared) (acc : Array Value) (c : Nat) : Prop where
  st : StepX C X Z₀ s₀ Z s
  zst : ZSt z TI TO srcs i s.heap
  at_ : s.heap.get? S = some { cls := .type "list", dict := none, data := .seq acc c, slots := #[] }
  zS : Z S = none
  zW : ∀ b ∈ zwr z TO srcs, Z b = none
  tW : ∀ b ∈ zwr z TO srcs, ∀ t ∈ C.tabs, b ≠ t.1
  rd : RdL Z acc.toList (ds.take i)
theorem zip_loop (D : ZApart z TI TO srcs) (hd : ∀ A : Around, A.handled = none → ∀ S ∈ srcs, Draws C.prog C.w A S.it S.fp n S.P S.St) (h0 : srcs ≠ []) (hl : srcs.length ≤ 1000) (hds : ds.length = n) (hn : n ≤ sizeLine) (hA : A.handled = none)
    (hX : ∀ b, s₀.heap.get? b = none → X b) (hXS : X S) (hXW : ∀ b ∈ zwr z TO srcs, X b) (hSf : S ∉ zfp z TI TO srcs)
    (hP : ∀ i vals d Z', Le Z₀ Z' → vals.size = srcs.length → takenAt srcs i srcs.length vals → ds[i]? = some d → ∃ dd, d = .tup dd ∧ RdL Z' vals.toList dd) :
    ∀ (k i : Nat) (Z : Fz) (s : Shared) (acc : Array Value) (c : Nat), n - i = k → i ≤ n → Taking C X Z₀ s₀ z TI TO S srcs ds i Z s acc c →
    (∀ Z' s' acc' c', StepX C X Z₀ s₀ Z' s' → s'.heap.get? S = some { cls := .type "list", dict := none, data := .seq acc' c', slots := #[] } → Z' S = none → RdL Z' acc'.toList ds → R (.ok (.ret res)) s') →
    codeAny (model C.prog C.w) A (.builtin "list.extend.loop" ⟨[.ref S, .ref z, res], []⟩) R s := by
  have hSw : S ∉ zwr z TO srcs := fun h => hSf (by
    rcases zwr_or h with h | h | ⟨S', hS', h⟩
    · exact zfp_mem (.inl h)
    · exact zfp_mem (.inr (.inr (.inl h)))
    · exact zfp_mem (.inr (.inr (.inr ⟨S', hS', h ▸ D.self S' hS'⟩))))
  intro k
  induction k with
  | zero =>
    intro i Z s acc c hk hi T hR
    have hin : i = n := by lia
    subst hin
    refine codeAny_builtin F.entry_extend_loop ?_
    rw [Around.under_plainId F.plain_extend_loop _]
    show wpAny _ A.in1 (pyNext (.ref z) >>= _) _ _ s
    refine wpAny_bind (zipN_done D (hd A.in1.in1 hA) h0 T.zst fun h' hk' => ?_)
    have st : StepX C X Z s Z { s with heap := h' } := StepX.writes (t := s.toks) T.st.inv (W := fun b => b ∈ zwr z TO srcs) hXW (fun b o hb e => hk' b o (zwr_not hb).1 (zwr_not hb).2.1 (zwr_not hb).2.2 e) T.zW T.tW
    refine wpAny_pure (hR Z _ acc c (T.st.trans st) (hk' _ _ (zwr_not hSw).1 (zwr_not hSw).2.1 (zwr_not hSw).2.2 T.at_) T.zS ?_)
    have := T.rd
    rwa [List.take_of_length_le (by lia)] at this
  | succ k ih =>
    intro i Z s acc c hk hi T hR
    have hlt : i < n := by lia
    refine codeAny_builtin F.entry_extend_loop ?_
    rw [Around.under_plainId F.plain_extend_loop _]
    show wpAny _ A.in1 (pyNext (.ref z) >>= _) _ _ s
    refine wpAny_bind (zipN_item D (hd A.in1.in1 hA) hlt h0 hl T.zst fun h' tk vals a1 a2 a3 a4 a5 a6 => ?_)
    have I := T.st.inv
    have st : StepX C X Z s Z { s with heap := h', toks := tk } := StepX.writes (t := tk) I (W := fun b => b ∈ zwr z TO srcs) hXW (fun b o hb e => a6 b o (zwr_not hb).1 (zwr_not hb).2.1 (zwr_not hb).2.2 e) T.zW T.tW
    have gT : s.heap.get? s.heap.objs.size = none := gAb (Nat.le_refl _)
    have XT : X s.heap.objs.size := (T.st.gone gT).elim (hX _) id
    have zT : Z s.heap.objs.size = none := I.fresh gT
    have nT : ∀ t ∈ C.tabs, s.heap.objs.size ≠ t.1 := fun t ht q => by
      obtain ⟨ps, e, _⟩ := I.tabs t ht
      rw [← q, gT] at e; cases e
    have f := StepX.freeze (X := X) st.inv XT zT a2 nT
    have lt : ∀ {c o}, s.heap.get? c = some o → c ≠ s.heap.objs.size := fun e => Nat.ne_of_lt (Heap.lt_size e)
    have hS' := a6 _ _ (zwr_not hSw).1 (zwr_not hSw).2.1 (zwr_not hSw).2.2 T.at_
    have zS' : put Z s.heap.objs.size { cls := .type "tuple", dict := none, data := .seq vals, slots := #[] } S = none := by rw [put_ne (lt T.at_)]; exact T.zS
    show wpAny _ A.in1 (updateSeq S (·.push (.ref s.heap.objs.size)) >>= _) _ _ _
    have hsz : acc.size = i := by
      have := T.rd.length
      rw [Array.length_toList, List.length_take, hds, Nat.min_eq_left hi] at this
      exact this
    have nS : ∀ t ∈ C.tabs, S ≠ t.1 := I.tab_fields T.at_ fun ps q => by have := congrArg Obj.cls q; simp at this
    have u := StepX.write (t := tk) (X := X) f.inv (h' := h'.update S (Obj.mapSeq (·.push (.ref s.heap.objs.size)))) hXS (Heap.SameBut.update ..) zS' nS
    refine wpAny_bind (wpAny_updateSeq hS' rfl (wpAny_pure ⟨plainId_quiet F.plain_extend_loop _, ih (i + 1) _ _ (acc.push (.ref s.heap.objs.size)) _ (by lia) hlt ⟨((T.st.trans st).trans f).trans u, ?_, Heap.get?_update_self _ hS' rfl, zS', ?_, T.tW, ?_⟩ hR⟩) (by rw [hsz]; lia) (by show (acc.push _).size ≤ sizeLine + 1; rw [Array.size_push, hsz]; lia))
    · refine a1.frame (hd A hA) fun b hb o e => (Heap.get?_update_other _ _ (fun h : S = b => hSf (by rw [h]; exact zfp_mem hb))).trans e
    · intro b hb
      have hb' : ∃ o, s.heap.get? b = some o := by
        obtain ⟨f0, fl, arr, hf, hz, hTI, hTO, ha, hst⟩ := T.zst
        rcases zwr_or hb with rfl | rfl | ⟨S', hS', rfl⟩
        · exact ⟨_, hz⟩
        · exact ⟨_, hTO⟩
        · exact (hd A hA S' hS').live _ _ (hst S' hS')
      obtain ⟨o, e⟩ := hb'
      rw [put_ne (lt e)]; exact T.zW b hb
    · have hdi : ds[i]? = some ds[i] := List.getElem?_eq_getElem (by lia)
      obtain ⟨dd, e1, e2⟩ := hP i vals _ _ (((T.st.trans st).trans f).trans u).le a3 a4 hdi
      rw [Array.toList_push, List.take_add_one, hdi, Option.toList_some, e1]
      exact (T.rd.le f.le).append (.cons (.tup (n := 0) put_self e2) .nil)
end
section
variable {C : Cx} {X : Addr → Prop} {Z₀ Z : Fz} {s₀ s : Shared} {A : Around} {z TI TO : Addr} {srcs : List Src} {n : Nat} {ds : List PV} {Q : Value → Shared → Prop} {E : Value → Shared → Prop}
theorem list_zip (D : ZApart z TI TO srcs) (hd : ∀ A : Around, A.handled = none → ∀ S ∈ srcs, Draws C.prog C.w A S.it S.fp n S.P S.St) (h0 : srcs ≠ []) (hl : srcs.length ≤ 1000) (hds : ds.length = n) (hn : n ≤ sizeLine) (hA : A.handled = none)
    (hX : ∀ b, s₀.heap.get? b = none → X b) (hXW : ∀ b ∈ zwr z TO srcs, X b) (st : StepX C X Z₀ s₀ Z s) (hst : ZSt z TI TO srcs 0 s.heap) (zW : ∀ b ∈ zwr z TO srcs, Z b = none)
    (hfp : ∀ b ∈ zfp z TI TO srcs, ∃ o, s.heap.get? b = some o) (tW : ∀ b ∈ zwr z TO srcs, ∀ t ∈ C.tabs, b ≠ t.1)
    (hP : ∀ i vals d Z', Le Z₀ Z' → vals.size = srcs.length → takenAt srcs i srcs.length vals → ds[i]? = some d → ∃ dd, d = .tup dd ∧ RdL Z' vals.toList dd)
    (k : ∀ v Z' s', StepX C X Z₀ s₀ Z' s' → Rd Z' v (.list ds) → Q v s') : wpAny (model C.prog C.w) A (call (.type "list") [.ref z]) Q E s := by
  have gS : s.heap.get? s.heap.objs.size = none := gAb (Nat.le_refl _)
  have hSf : s.heap.objs.size ∉ zfp z TI TO srcs := fun hm => by
    obtain ⟨o, e⟩ := hfp _ hm
    rw [gS] at e; cases e
  have hSz : s.heap.objs.size ≠ z := fun q => hSf (q ▸ .head _)
  have XS : X s.heap.objs.size := (st.gone gS).elim (hX _) id
  have hT0 := hst.typeIs
  have nS : ∀ t ∈ C.tabs, s.heap.objs.size ≠ t.1 := fun t ht q => by
    obtain ⟨ps, e, _⟩ := st.inv.tabs t ht
    rw [← q, gS] at e; cases e
  refine callType_codes (Q₁ := fun obj s₁ => obj = .ref s.heap.objs.size ∧ s₁ = { s with heap := s.heap.push { cls := .type "list", data := .seq #[] } }) F.called_list (F.typeCall_list_1 _) F.entry_list_init
    (code_list_new _ ⟨rfl, rfl⟩) fun obj s₁ h₁ => ?_
  obtain ⟨rfl, rfl⟩ := h₁
  have hS : (s.heap.push { cls := .type "list", data := .seq #[] }).get? s.heap.objs.size = some { cls := .type "list", data := .seq #[] } := Heap.get?_push_size _ rfl
  refine ⟨⟨_, hS, rfl⟩, F.args_list_init_2 _ _, ?_⟩
  have st1 : StepX C X Z₀ s₀ Z { s with heap := s.heap.push { cls := .type "list", data := .seq #[] } } := st.trans (StepX.push (t := s.toks) st.inv)
  have hst1 : ZSt z TI TO srcs 0 (s.heap.push { cls := .type "list", data := .seq #[] }) := hst.frame (hd A hA) fun b _ o e => Heap.get?_push_of_some _ e
  have zS : Z s.heap.objs.size = none := st.inv.fresh gS
  generalize hSe : s.heap.objs.size = S at *
  generalize hhe : s.heap.push { cls := .type "list", data := .seq #[] } = h1 at *
  show wpAny _ A.in1.in1 (do let old ← Builtin.List.listItems (.ref S); Builtin.List.listUpdate (.ref S) (fun _ => #[]); letGo old.toList.reverse; Builtin.List.listExtendWith (.ref S) (.ref z) .none) _ _ _
  refine wpAny_bind ?_
  unfold Builtin.List.listItems
  refine wpAny_bind (wpAny_seqItems hS rfl (wpAny_pure ?_))
  show wpAny _ _ (updateSeq S (fun _ => #[]) >>= fun _ => letGo (#[] : Array Value).toList.reverse >>= fun _ => Builtin.List.listExtendWith (.ref S) (.ref z) .none) _ _ _
  refine wpAny_bind (wpAny_updateSeq hS rfl ?_)
  have hS₂ := Heap.get?_update_self (Obj.mapSeq (fun _ => (#[] : Array Value))) hS rfl
  have u := StepX.write (t := s.toks) (X := X) st1.inv (h' := h1.update S (Obj.mapSeq (fun _ => #[]))) XS (Heap.SameBut.update ..) zS nS
  have fr : ∀ {h : Heap} {f : Obj → Obj}, ZSt z TI TO srcs 0 h → ZSt z TI TO srcs 0 (h.update S f) := fun q => q.frame (hd A hA) fun b hb o e => (Heap.get?_update_other _ _ (fun h : S = b => hSf (by rw [h]; exact zfp_mem hb))).trans e
  have hst2 := fr (f := Obj.mapSeq (fun _ => #[])) hst1
  have st2 := st1.trans u
  refine wpAny_bind (wpAny_letGo ?_)
  unfold Builtin.List.listExtendWith
  refine wpAny_bind (wpAny_typeOf (ZSt.typeIs (s := { s with heap := h1.update S (Obj.mapSeq (fun _ => #[])) }) hst2) ?_)
  have h1' : Builtin.List.listSameRef (.ref S) (.ref z) = false := by simp [Builtin.List.listSameRef, hSz]
  have h2 : (Value.type "zip" == Value.type "list") = false := by decide
  have h3 : (Value.type "zip" == Value.type "tuple") = false := by decide
  simp only [h1', h2, h3, Bool.or_false, Bool.false_eq_true, if_false]
  refine wpAny_bind (zipN_self (s := { s with heap := h1.update S (Obj.mapSeq (fun _ => #[])) }) hst2 ?_)
  refine wpAny_bind (wpAny_holding ?_)
  unfold Builtin.List.listLengthHint
  refine wpAny_bind (wpAny_specialOf (ZSt.typeIs (s := { s with heap := h1.update S (Obj.mapSeq (fun _ => #[])) }) hst2) FZ.nolen_zip ?_)
  show wpAny _ _ (specialOf (Value.ref z) (sQ "__length_hint__") >>= _) _ _ _
  refine wpAny_bind (wpAny_specialOf (ZSt.typeIs (s := { s with heap := h1.update S (Obj.mapSeq (fun _ => #[])) }) hst2) FZ.nohint_zip ?_)
  refine wpAny_pure ?_
  show wpAny _ _ (rule "list.extend.makes-room" >>= fun _ => Builtin.List.listTouch (.ref S) >>= fun _ =>
    again (.builtin "list.extend.loop" ⟨[.ref S, .ref z, .none], []⟩)) _ _ _
  refine wpAny_bind (wpAny_rule ?_)
  refine wpAny_bind ?_
  show wpAny _ _ (updateSeq S (·.push .none) >>= fun _ => updateSeq S (·.pop)) _ _ _
  refine wpAny_bind (wpAny_updateSeq hS₂ rfl ?_)
  have hS₃ := Heap.get?_update_self (Obj.mapSeq (·.push Value.none)) hS₂ rfl
  have u3 := StepX.write (t := s.toks) (X := X) u.inv (h' := (h1.update S (Obj.mapSeq (fun _ => #[]))).update S (Obj.mapSeq (·.push Value.none))) XS (Heap.SameBut.update ..) zS nS
  refine wpAny_updateSeq (hz := by seq_fits) hS₃ rfl ?_
  have hS₄ := Heap.get?_update_self (Obj.mapSeq (·.pop)) hS₃ rfl
  have u4 := StepX.write (t := s.toks) (X := X) u3.inv (h' := ((h1.update S (Obj.mapSeq (fun _ => #[]))).update S (Obj.mapSeq (·.push Value.none))).update S (Obj.mapSeq (·.pop))) XS (Heap.SameBut.update ..) zS nS
  refine wpAny_pure ⟨plainId_quiet F.plain_extend_loop _, zip_loop (A := A.in1) (X := X) (Z₀ := Z₀) (s₀ := s₀) D hd h0 hl hds hn hA hX XS hXW hSf hP n 0 Z _ #[] _ rfl (Nat.zero_le _) ⟨(st2.trans u3).trans u4, fr (fr hst2), hS₄, zS, zW, tW, .nil⟩ fun Z' s' acc' c' hst' hS' zS' hr => ?_⟩
  have nS' : ∀ t ∈ C.tabs, S ≠ t.1 := nS
  have f := StepX.freeze (X := X) hst'.inv XS zS' hS' nS'
  refine ⟨rfl, k _ _ _ (hst'.trans f) ?_⟩
  have hr' := hr.le f.le
  obtain ⟨acc'⟩ := acc'
  exact .list put_self hr'
end
noncomputable def zip3L (a b c : List PV) : List PV := (a.zip (b.zip c)).map fun q => .tup [q.1, q.2.1, q.2.2]
theorem zip3_item {Z Z' : Fz} {N : Nat} {a1 a2 a3 : Addr} {v1 v2 v3 : List Value} {d1 d2 d3 : List PV} (le : Le Z Z') (r1 : RdL Z v1 d1) (r2 : RdL Z v2 d2) (r3 : RdL Z v3 d3) {i : Nat} {vals : Array Value} {d : PV} (hv : vals.size = 3)
    (ht : takenAt [lstS N a1 v1.toArray, lstS (N + 1) a2 v2.toArray, lstS (N + 2) a3 v3.toArray] i 3 vals) (hd : (zip3L d1 d2 d3)[i]? = some d) : ∃ dd, d = .tup dd ∧ RdL Z' vals.toList dd := by
  obtain ⟨u1, u2, u3, ev⟩ := len3 (l := vals.toList) (by rw [Array.length_toList]; exact hv)
  obtain ⟨vals⟩ := vals
  have ev : vals = [u1, u2, u3] := ev
  subst ev
  have q1 : v1.toArray[i]? = some u1 := ht 0 _ u1 (by decide : 0 < 3) rfl rfl
  have q2 : v2.toArray[i]? = some u2 := ht 1 _ u2 (by decide : 1 < 3) rfl rfl
  have q3 : v3.toArray[i]? = some u3 := ht 2 _ u3 (by decide : 2 < 3) rfl rfl
  rw [List.getElem?_toArray] at q1 q2 q3
  rw [zip3L, List.getElem?_map] at hd
  obtain ⟨⟨f1, f2, f3⟩, hq, e⟩ := Option.map_eq_some_iff.mp hd
  have y := List.getElem?_zip_eq_some.mp hq
  have y2 := List.getElem?_zip_eq_some.mp y.2
  exact ⟨_, e.symm, .cons (RdL.at (RdL.le le r1) q1 y.1) (.cons (RdL.at (RdL.le le r2) q2 y2.1) (.cons (RdL.at (RdL.le le r3) q3 y2.2) .nil))⟩
theorem zip3_len {d1 d2 d3 : List PV} (l2 : d2.length = d1.length) (l3 : d3.length = d1.length) : (zip3L d1 d2 d3).length = d1.length := by
  rw [zip3L, List.length_map, List.length_zip, List.length_zip, l2, l3, Nat.min_self, Nat.min_self]
theorem zap3 {N : Nat} {a1 a2 a3 : Addr} {x1 x2 x3 : Array Value} (h1 : a1 < N) (h2 : a2 < N) (h3 : a3 < N) : ZApart (N + 5) (N + 3) (N + 4) [lstS N a1 x1, lstS (N + 1) a2 x2, lstS (N + 2) a3 x3] :=
  .new (N := N) (T := N + 3) (all3 (lstS_ok (Nat.le_refl _) (Nat.lt_add_of_pos_right (by decide)) h1) (lstS_ok (Nat.le_succ _) (Nat.add_lt_add_left (by decide) N) h2) (lstS_ok (Nat.le_add_right _ 2) (Nat.lt_succ_self _) h3)) (nd3 N) (Nat.le_add_right _ _) (Nat.le_add_right _ 2) (Nat.le_refl _) (Nat.le_succ _)
    (fun e => nomatch Nat.add_left_cancel e) (fun e => nomatch Nat.add_left_cancel e) (fun e => nomatch Nat.add_left_cancel e)
theorem draws3 {prog : Program} {w : World} {A : Around} {N n : Nat} {a1 a2 a3 : Addr} {v1 v2 v3 : List Value} (hA : A.handled = none) (h1 : a1 < N) (h2 : a2 < N) (h3 : a3 < N) (e1 : v1.length = n) (e2 : v2.length = n) (e3 : v3.length = n) :
    ∀ S ∈ [lstS N a1 v1.toArray, lstS (N + 1) a2 v2.toArray, lstS (N + 2) a3 v3.toArray], Draws prog w A S.it S.fp n S.P S.St := by
  have go : ∀ {b a : Addr} {v : List Value}, a < b → v.length = n → Draws prog w A (lstS b a v.toArray).it (lstS b a v.toArray).fp n (lstS b a v.toArray).P (lstS b a v.toArray).St := fun {b a v} h e => by
    have := Draws.list (prog := prog) (w := w) hA b a (Nat.ne_of_lt h) v.toArray
    rw [List.size_toArray, e] at this; exact this
  exact all3 (P := fun S => Draws prog w A S.it S.fp n S.P S.St) (go h1 e1) (go (Nat.lt_succ_of_lt h2) e2) (go (Nat.lt_succ_of_lt (Nat.lt_succ_of_lt h3)) e3)
section
variable {C : Cx} {n : Nat} {X : Addr → Prop} {env : Env} {nm oc : List Str} {sc : List (Str × NameKind)} {ω : List (Addr × List PV)} {κ : Addr → Option Obj} {ρ : List (Option Vp)} {p p2 pos pos2 : Pos} {e1 e2 e3 : Expr} {d1 d2 d3 : List PV}
theorem ev_listzip (b1 : BltZ C (sQ "list") (.type "list")) (b2 : BltZ C (sQ "zip") (.type "zip")) (ha : EL C n (FS C env nm oc sc X ρ ω κ) (spliced (backTo pos2 (starEach [e1, e2, e3] env))) [is (.list d1), is (.list d2), is (.list d3)])
    (l2 : d2.length = d1.length) (l3 : d3.length = d1.length) (hsz : d1.length ≤ sizeLine) (k1 : sc.lookup (sQ "list") = some .globalImplicit) (k2 : sc.lookup (sQ "zip") = some .globalImplicit)
    (he : starEach [e1, e2, e3] env = (false, eval e1 env) :: starEach [e2, e3] env := by rfl) (hp : (backTo pos2 (starEach [e2, e3] env)).any (·.1) = false := by rfl) :
    EV C n (FS C env nm oc sc X ρ ω κ) (eval (.Call (.Name (sQ "list") p) [.Call (.Name (sQ "zip") p2) [e1, e2, e3] [] pos2] [] pos) env) (is (.list (zip3L d1 d2 d3))) := fun A s Z Q E hA I H k => by
  refine wpAny_Call_NameR (ev_blt (n := n) b1 k1 (by decide) A s Z _ E hA I H fun v Z₁ s₁ x₁ pv => ?_)
  cases pv
  have H₁ := (FS C env nm oc sc X ρ ω κ).stable I H x₁
  refine callWith_type1 (args_cons ?_ rfl) rfl rfl
  refine wpAny_Call_NameR (ev_blt (n := n) b2 k2 (by decide) A s₁ Z₁ _ E hA x₁.inv H₁ fun v Z₂ s₂ x₂ pv => ?_)
  cases pv
  have H₂ := (FS C env nm oc sc X ρ ω κ).stable x₁.inv H₁ x₂
  refine callWith_type1 (ha A s₂ Z₂ _ E hA x₂.inv H₂ fun vs Z₃ s₃ x₃ hs => ?_) he hp
  have I₃ := x₃.inv
  have x13 := (x₁.trans x₂).trans x₃
  obtain ⟨_, _, rfl, h1, hs⟩ := sati hs
  obtain ⟨_, _, rfl, h2, hs⟩ := sati hs
  obtain ⟨_, _, rfl, h3, hs⟩ := sati hs
  obtain rfl := sati hs
  obtain ⟨a1, m1, v1, rfl, h1, r1⟩ := rdi h1
  obtain ⟨a2, m2, v2, rfl, h2, r2⟩ := rdi h2
  obtain ⟨a3, m3, v3, rfl, h3, r3⟩ := rdi h3
  have hl1 := isList_of I₃ h1
  have hl2 := isList_of I₃ h2
  have hl3 := isList_of I₃ h3
  have hal1 := Heap.lt_size (I₃.heap _ _ h1)
  have hal2 := Heap.lt_size (I₃.heap _ _ h2)
  have hal3 := Heap.lt_size (I₃.heap _ _ h3)
  refine call_zip_lll hl1 hl2 hl3 fun h' hz hTI hTO hi1 hi2 hi3 hk => ?_
  refine args_nil ?_
  have gr : ∀ b, s₃.heap.objs.size ≤ b → s₃.heap.get? b = none := fun b h => gAb h
  generalize hN : s₃.heap.objs.size = N at *
  have st0 : ZSt (N + 5) (N + 3) (N + 4) [lstS N a1 v1.toArray, lstS (N + 1) a2 v2.toArray, lstS (N + 2) a3 v3.toArray] 0 h' := ⟨.none, false, #[.none, .none, .none], .inl rfl, hz, hTI, hTO, rfl,
    all3 (P := fun S => S.St 0 h') ⟨⟨_, hi1, rfl, rfl⟩, hl1.at fun o e => hk _ o e⟩ ⟨⟨_, hi2, rfl, rfl⟩, hl2.at fun o e => hk _ o e⟩ ⟨⟨_, hi3, rfl, rfl⟩, hl3.at fun o e => hk _ o e⟩⟩
  have st : Step C Z₃ s₃ Z₃ { s₃ with heap := h' } := .keeps (t := s₃.toks) I₃ hk
  have hzw : ∀ b ∈ zwr (N + 5) (N + 4) [lstS N a1 v1.toArray, lstS (N + 1) a2 v2.toArray, lstS (N + 2) a3 v3.toArray], s₃.heap.get? b = none := fun b hb => gr b (by
    rcases zwr_or hb with rfl | rfl | ⟨S, hS, rfl⟩
    · exact Nat.le_add_right _ _
    · exact Nat.le_add_right _ _
    · exact all3 (P := fun S => N ≤ S.it) (Nat.le_refl N) (Nat.le_add_right N 1) (Nat.le_add_right N 2) S hS)
  refine list_zip (C := C) (X := fun b => s₃.heap.get? b = none) (Z₀ := Z₃) (s₀ := s₃) (Z := Z₃) (s := { s₃ with heap := h' }) (n := d1.length) (ds := zip3L d1 d2 d3) (zap3 hal1 hal2 hal3) (fun A hA => draws3 hA hal1 hal2 hal3 r1.length (r2.length.trans l2) (r3.length.trans l3)) (List.cons_ne_nil _ _) (show (3 : Nat) ≤ 1000 by decide) (zip3_len l2 l3) hsz hA.handled (fun b h => h) hzw st.to st0 (fun b hb => I₃.fresh (hzw b hb)) (fun b hb => ?_) (fun b hb t ht q => ?_) (fun i vals d Z' le hv ht hd' => zip3_item le r1 r2 r3 hv ht hd') fun v Z' s' x' hr => k v Z' s' (x13.trans (x'.hide fun b hb => hb)) hr
  · simp [zfp, lstS] at hb
    rcases hb with rfl | rfl | rfl | rfl | rfl | rfl | rfl | rfl | rfl
    · exact ⟨_, hz⟩
    · exact ⟨_, hTI⟩
    · exact ⟨_, hTO⟩
    · exact ⟨_, hi1⟩
    · exact ⟨_, hk _ _ (I₃.heap _ _ h1)⟩
    · exact ⟨_, hi2⟩
    · exact ⟨_, hk _ _ (I₃.heap _ _ h2)⟩
    · exact ⟨_, hi3⟩
    · exact ⟨_, hk _ _ (I₃.heap _ _ h3)⟩
  · obtain ⟨ps, e, _⟩ := I₃.tabs t ht
    rw [← q, hzw b hb] at e; cases e
end
end
section
open PySem.SeqAt
noncomputable abbrev numT (a : Int) : Str := sQ (toString a)
section
variable {C : Cx} {n : Nat} {Φ : Asn C} {env : Env}
theorem fn_str_int {a : Int} (ha : a.natAbs.log2 < 1920) : FN C n (.type "str") [is (.int a)] (is (.str (numT a))) := fn1 fun A s Z v Q E hA I h k => by
  obtain ⟨_, rfl⟩ := rdi h
  exact P.str_of_int ha (k _ Z _ (Step.toks I _) (.str _ _))
theorem any_eq {x : Int} {Z : Fz} : ∀ {vs : List Value} {l : List Int}, RdL Z vs (l.map .int) → (vs.any fun v => match v with | .int a _ => a == x | _ => false) = l.any (· == x)
  | [], [], _ => rfl
  | [], _ :: _, h => by cases h
  | _ :: _, [], h => by cases h
  | v :: vs, a :: l, .cons h r => by
    obtain ⟨_, rfl⟩ := rdi h
    rw [List.any_cons, List.any_cons, any_eq r]
theorem op_in_ints {x : Int} {l : List Int} : OP2 C n (compareOp .In) (is (.int x)) (is (.list (l.map .int))) (is (.bool (l.any (· == x)))) := fun A s Z u v Q E hA I hu hv k => by
  obtain ⟨_, rfl⟩ := rdi hu
  rename_i t
  obtain ⟨a, m, vs, rfl, hz, r⟩ := rdi hv
  have e := I.heap _ _ hz
  show wpAny _ _ (do return .bool (← contains _ _)) Q E s
  refine wpAny_bind (wpAny_contains_slot (T := "list") ⟨_, e, rfl⟩ F.slot_list_contains (call_meets F.slot_list_contains ⟨_, e, rfl⟩ F.entry_list_contains (F.args_list_contains_2 _ _) (MeetsSeq.list_contains a vs.toArray m (.int x t) (fun v => match v with | .int a _ => a == x | _ => false) fun y hy => ?_) ⟨e, ?_⟩))
  · have hy' : y ∈ vs := by simpa using hy
    obtain ⟨i, hi⟩ := List.mem_iff_getElem?.mp hy'
    have hlt := (List.getElem?_eq_some_iff.mp hi).1
    rw [r.length, List.length_map] at hlt
    have := r.at hi (by rw [List.getElem?_map, List.getElem?_eq_getElem hlt]; rfl)
    obtain ⟨_, rfl⟩ := rdi this
    exact MeetsSeq.EqGives.int _ _ _ _
  · rw [List.any_toArray, any_eq r]
    exact wpAny_truthy_bool (wpAny_pure (k _ Z _ (StepX.refl I) (.bool _)))
theorem eqAt_flt_int {A : Around} {s : Shared} (x : UInt64) (t : Tok) (b : Int) (u : Tok) : EqAt A s (.float x t) (.int b u) (Float64.cmpInt x b == some .eq) := fun prog w E Q h => by
  unfold eqBool
  refine wpAny_holding ?_
  refine wpAny_ite_split (fun hab => absurd (eq_of_beq hab) nofun) (fun _ => ?_)
  exact wpAny_bind (eq_fi (wpAny_truthy_bool h))
theorem op_ne_grey {a : Int} : OP2 C n (compareOp .NotEq) (is (.tup [.flt 0, .flt 0, .int a])) (is (.tup [.int 0, .int 0, .int a])) (is (.bool false)) := fun A s Z u v Q E hA I hu hv kk => by
  have hun : A.units < 9001 := by have := hA.units; lia
  obtain ⟨l, m, vs, rfl, hz, r⟩ := rdi hu
  obtain ⟨l', m', vs', rfl, hz', r'⟩ := rdi hv
  have z : (Float64.cmpInt 0 0 == some .eq) = true := by decide +kernel
  refine RcNeAt.tuples (isTup_of I hz) (isTup_of I hz') (Nat.lt_of_lt_of_le hun (by decide)) (e := fun _ => true) (fun j h1 h2 => ?_) C.prog C.w E Q ?_
  · obtain ⟨v1, r1, rfl, p1, r⟩ := rdli r
    obtain ⟨v2, r2, rfl, p2, r⟩ := rdli r
    obtain ⟨v3, r3, rfl, p3, r⟩ := rdli r
    obtain rfl := rdli r
    obtain ⟨w1, r1', rfl, q1, r'⟩ := rdli r'
    obtain ⟨w2, r2', rfl, q2, r'⟩ := rdli r'
    obtain ⟨w3, r3', rfl, q3, r'⟩ := rdli r'
    obtain rfl := rdli r'
    obtain ⟨t1, rfl⟩ := rdi p1
    obtain ⟨t2, rfl⟩ := rdi p2
    obtain ⟨t3, rfl⟩ := rdi p3
    obtain ⟨u1, rfl⟩ := rdi q1
    obtain ⟨u2, rfl⟩ := rdi q2
    obtain ⟨u3, rfl⟩ := rdi q3
    have e1 := eqAt_flt_int (A := A.in1) (s := s) 0 t1 0 u1
    have e2 := eqAt_flt_int (A := A.in1) (s := s) 0 t2 0 u2
    have e3 := EqAt.int_int (A := A.in1) (s := s) a t3 a u3
    rw [z] at e1 e2
    rw [beq_self_eq_true] at e3
    cases j with
    | zero => exact e1
    | succ j =>
    cases j with
    | zero => exact e2
    | succ j =>
    cases j with
    | zero => exact e3
    | succ j => exact absurd h1 (by simp)
  · rw [show ((List.range (min vs.toArray.size vs'.toArray.size)).all (fun _ => true) && vs.toArray.size == vs'.toArray.size) = true by
      rw [List.size_toArray, List.size_toArray, r.length, r'.length]; rfl]
    exact kk _ Z _ (StepX.refl I) (.bool _)
theorem rep_call_l {prog : Program} {w : World} {A : Around} {E : Value → Shared → Prop} {s : Shared} {l : Addr} {items : Array Value} {m : Nat} {x : Int} {u : Tok} {Q : Value → Shared → Prop}
    (hl : s.heap.get? l = some { cls := .type "list", dict := none, data := .seq items m, slots := #[] }) (hlo : -(2 ^ 63 : Int) ≤ x) (hhi : x < 2 ^ 63) (hsz : items.size * x.toNat ≤ 2 ^ 24)
    (h : Q (.ref s.heap.objs.size) { s with heap := s.heap.push { cls := .type "list", data := .seq (List.foldl (fun x1 x2 => x1 ++ x2) #[] (List.replicate (if items.isEmpty = true then 0 else x.toNat) items)) } }) :
    wpAny (model prog w) A (binaryOp .Mult (.int x u) (.ref l)) Q E s :=
  lm_binaryOp_repeat_right (T := "list") (U := "int") (by decide) (fun s' => typeIs_int s' x u) ⟨_, hl, rfl⟩ F.fills_int_mul noFill_list_mul F.slot_int_mul lm_noRepeat_int repeat_list F.slot_int_index.lookup
    (call_meets F.slot_int_mul (typeIs_int s x u) F.entry_int_mul (F.args_int_mul_2 _ _) (int___mul___int_list x u l items m)
      ⟨hl, rfl, ⟨_, hl, rfl⟩, call_meets F.slot_list_mul ⟨_, hl, rfl⟩ F.entry_list_mul (F.args_list_mul_2 _ _)
        (AutoListH.list___mul___list_int_3 l items m x u (by simp [Builtin.List.listFitsIndex]; lia) (by lia) (by simp [Builtin.List.listTooLong, sizeLine]; lia))
        ⟨hl, h⟩⟩)
theorem op_rep_l {d : PV} {k : Nat} (hsz : k ≤ 2 ^ 24) : OP2 C n (binaryOp .Mult) (is (.int k)) (is (.list [d])) (is (.list (List.replicate k d))) := fun A s Z u v Q E hA I hu hv kk => by
  obtain ⟨t, rfl⟩ := rdi hu
  obtain ⟨a, m, vs, rfl, hz, rr⟩ := rdi hv
  obtain ⟨v, _, rfl, hv, rr⟩ := rdli rr
  obtain rfl := rdli rr
  have hg := I.heap _ _ hz
  have e : List.foldl (fun x1 x2 => x1 ++ x2) #[] (List.replicate (if ([v].toArray).isEmpty = true then 0 else (k : Int).toNat) [v].toArray) = (List.replicate k v).toArray := by
    have := rep_fold v k #[]
    simpa using this
  refine rep_call_l hg (by lia) (by lia) (by simpa using hsz) ?_
  rw [e]
  have st := StepX.alloc (X := No) I (o := { cls := .type "list", data := .seq (List.replicate k v).toArray }) (t := s.toks) rfl
  exact kk _ _ _ st (.list put_self ((RdL.rep hv k).le st.le))
theorem tv_orF {a b : Expr} {pos : Pos} {whole : Sem Value} {c : Bool} (h1 : TV C n Φ (isTrue a env (eval a env)) false) (h2 : TV C n Φ (isTrue b env (eval b env)) c) : TV C n Φ (isTrue (.BoolOp .Or [a, b] pos) env whole) c := fun A s Z Q E hA I H k => by
  refine wpAny_isTrue_BoolOp ?_
  show wpAny _ _ (isTrue a env (eval a env) >>= _) _ _ _
  refine wpAny_bind (h1 A s Z _ E hA I H fun Z₁ s₁ x₁ => ?_)
  show wpAny _ _ (isTrue b env (eval b env) >>= _) _ _ _
  refine wpAny_bind (h2 A s₁ Z₁ _ E hA x₁.inv (Φ.stable I H x₁) fun Z₂ s₂ x₂ => ?_)
  cases c
  · exact wpAny_pure (k Z₂ s₂ (x₁.trans x₂))
  · exact wpAny_pure (k Z₂ s₂ (x₁.trans x₂))
end
end
section
open PySem.SeqAt
noncomputable def pickI (l : List Int) (lo hi st : Option Int) : List Int := (sliceRange (sliceBounds lo hi st l.length).1 (sliceBounds lo hi st l.length).2.1 (sliceBounds lo hi st l.length).2.2).filterMap (l[·]?)
theorem pickL_ints (l : List Int) (lo hi st : Option Int) : pickL (l.map .int) lo hi st = (pickI l lo hi st).map .int := by
  unfold pickL pickI
  rw [List.map_filterMap, List.length_map]
  congr 1
  funext i
  rw [List.getElem?_map]
theorem pickL_len (ds : List PV) (lo hi st : Option Int) : (pickL ds lo hi st).length ≤ ds.length := by
  have h := slicePick_size_le (ds.map fun _ => Value.none).toArray lo hi st
  unfold slicePick at h
  rw [List.size_toArray, List.size_toArray, List.length_map] at h
  refine Nat.le_trans (Nat.le_of_eq ?_) h
  unfold pickL
  rw [show (fun i => (ds.map fun _ => Value.none).toArray[i]?) = fun i => (ds[i]?).map fun _ => Value.none by funext i; simp, ← List.map_filterMap, List.length_map]
theorem filterMap_range {α : Type} (l : List α) : ∀ k, k ≤ l.length → (List.range k).filterMap (l[·]?) = l.take k
  | 0, _ => by simp
  | k + 1, h => by
    have e : l[k]? = some l[k] := List.getElem?_eq_getElem (by lia)
    rw [List.range_succ, List.filterMap_append, filterMap_range l k (by lia), List.take_add_one, e]
    simp [e]
theorem pickL_take (ds : List PV) (k : Nat) (h : k ≤ ds.length) : pickL ds none (some (k : Int)) none = ds.take k := by
  unfold pickL sliceBounds
  have e2 : max (0 : Int) (min (k : Int) (ds.length : Int)) = ((k : Nat) : Int) := by lia
  have hneg : ¬ ((k : Int) < 0) := by lia
  simp only [Option.getD_none, hneg, if_false, show ((1 : Int) > 0) = True from by simp, if_true, e2]
  rw [show (0 : Int) = ((0 : Nat) : Int) from rfl, sliceRange_one 0 k]
  simp only [Nat.sub_zero, Nat.zero_add, List.map_id']
  exact filterMap_range ds k h
section
variable {C : Cx} {n : Nat} {Φ : Asn C} {env : Env} {X : Addr → Prop} {nm oc : List Str} {sc : List (Str × NameKind)} {ω : List (Addr × List PV)} {κ : Addr → Option Obj} {ρ ρ' : List (Option Vp)} {R : Vp} {Ψ : Asn C}
theorem ex_seq {Θ Φ Ψ : Asn C} {a b : List Stmt} (h1 : EX C n X Φ (execs a env) Ψ R) (h2 : EX C n X Ψ (execs b env) Θ R) : EX C n X Φ (execs (a ++ b) env) Θ R := fun A s Z Q E hA I H k kr => by
  rw [execs_append]
  refine wpAny_bind (h1 A s Z _ E hA I H (fun Z₁ s₁ x₁ H₁ => ?_) fun v Z₁ s₁ x₁ r => wpAny_pure (kr v Z₁ s₁ x₁ r))
  exact h2 A s₁ Z₁ Q E hA x₁.inv H₁ (fun Z₂ s₂ x₂ H₂ => k Z₂ s₂ (x₁.trans x₂) H₂) fun v Z₂ s₂ x₂ r => kr v Z₂ s₂ (x₁.trans x₂) r
theorem exs_forV {iter target : Expr} {body rest : List Stmt} {pos : Pos} {ds : List PV} {ρs : Nat → List (Option Vp)} {ωs : Nat → List (Addr × List PV)} (e0 : ρ = ρs 0) (e1 : ω = ωs 0) (hit : IT C n (FS C env nm oc sc X ρ ω κ) iter env target ds)
    (hω : ∀ i, (ωs i).map (·.1) = (ωs 0).map (·.1))
    (step : ∀ b, b = body → ∀ κ' i d, ds[i]? = some d → ∃ ρ', Tgt nm oc sc target d (ρs i) ρ' ∧ EX C n X (FS C env nm oc sc X ρ' (ωs i) κ') (execs b env) (FS C env nm oc sc X (ρs (i + 1)) (ωs (i + 1)) κ') R)
    (h : EX C n X (FS C env nm oc sc X (ρs ds.length) (ωs ds.length) κ) (execs rest env) Ψ R)
    (hs : ∀ x, foldedSetIterable iter env x = pure x := by intro _; rfl) : EX C n X (FS C env nm oc sc X ρ ω κ) (execs (.For target iter body [] pos :: rest) env) Ψ R :=
  exs_for e0 e1 hit hω (fun κ' i d hd => step body rfl κ' i d hd) h hs
theorem ex_mk5 {α : Sort _} {P Q R S T : α → Prop} {a : α} (h : P a) (k : Q a) (r : R a) (s : S a) (t : T a) : ∃ x, P x ∧ Q x ∧ R x ∧ S x ∧ T x := ⟨a, h, k, r, s, t⟩
end
end
noncomputable def colT (s v x : Int) : Int × Int × Int :=
  let w := v * (4 - s)
  if x = 0 then (4 * v, w, w) else if x = 1 then (4 * v, 4 * v, w) else if x = 2 then (w, 4 * v, w) else if x = 3 then (w, 4 * v, 4 * v) else if x = 4 then (w, w, 4 * v) else (4 * v, w, 4 * v)
noncomputable def okTB (s v x t : Int) : Bool :=
  let c := colT s v x
  let d := colT s v ((x + t).fmod 6)
  okB c.1 c.2.1 c.2.2 t && okW (partB c.1 c.2.1 c.2.2 t) d.1 d.2.1 d.2.2
noncomputable def okTA (s v x : Int) : Bool :=
  let c := colT s v x
  let d := colT s v ((x + 4).fmod 6)
  okA c.1 c.2.1 c.2.2 && okW (partA c.1 c.2.1 c.2.2) d.1 d.2.1 d.2.2
noncomputable abbrev q4 : List Int := [1, 2, 3, 4]
noncomputable abbrev q6 : List Int := [0, 1, 2, 3, 4, 5]
theorem tB1 : q4.all (fun v => ([0, 2, 3] : List Int).all fun t => q6.all fun x => okTB 1 v x t) = true := by decide +kernel
theorem tA1 : q4.all (fun v => q6.all fun x => okTA 1 v x) = true := by decide +kernel
theorem tB2 : q4.all (fun v => ([0, 2, 3] : List Int).all fun t => q6.all fun x => okTB 2 v x t) = true := by decide +kernel
theorem tA2 : q4.all (fun v => q6.all fun x => okTA 2 v x) = true := by decide +kernel
theorem tB3 : q4.all (fun v => ([0, 2, 3] : List Int).all fun t => q6.all fun x => okTB 3 v x t) = true := by decide +kernel
theorem tA3 : q4.all (fun v => q6.all fun x => okTA 3 v x) = true := by decide +kernel
theorem tB4 : q4.all (fun v => ([0, 2, 3] : List Int).all fun t => q6.all fun x => okTB 4 v x t) = true := by decide +kernel
theorem tA4 : q4.all (fun v => q6.all fun x => okTA 4 v x) = true := by decide +kernel
theorem turnB {s v x t : Int} (hs : s = 1 ∨ s = 2 ∨ s = 3 ∨ s = 4) (hv : v = 1 ∨ v = 2 ∨ v = 3 ∨ v = 4) (hx : x ∈ q6) (ht : t ∈ ([0, 2, 3] : List Int)) : okTB s v x t = true := by
  have hv' : v ∈ q4 := by rcases hv with rfl | rfl | rfl | rfl <;> decide
  have go : ∀ s, q4.all (fun v => ([0, 2, 3] : List Int).all fun t => q6.all fun x => okTB s v x t) = true → okTB s v x t = true := fun s h => List.all_eq_true.mp (List.all_eq_true.mp (List.all_eq_true.mp h v hv') t ht) x hx
  rcases hs with rfl | rfl | rfl | rfl
  · exact go _ tB1
  · exact go _ tB2
  · exact go _ tB3
  · exact go _ tB4
theorem turnA {s v x : Int} (hs : s = 1 ∨ s = 2 ∨ s = 3 ∨ s = 4) (hv : v = 1 ∨ v = 2 ∨ v = 3 ∨ v = 4) (hx : x ∈ q6) : okTA s v x = true := by
  have hv' : v ∈ q4 := by rcases hv with rfl | rfl | rfl | rfl <;> decide
  have go : ∀ s, q4.all (fun v => q6.all fun x => okTA s v x) = true → okTA s v x = true := fun s h => List.all_eq_true.mp (List.all_eq_true.mp h v hv') x hx
  rcases hs with rfl | rfl | rfl | rfl
  · exact go _ tA1
  · exact go _ tA2
  · exact go _ tA3
  · exact go _ tA4
noncomputable abbrev colV (s v x : Int) : PV := li3 (colT s v x).1 (colT s v x).2.1 (colT s v x).2.2
theorem colT_small {s v x : Int} (hs : s = 1 ∨ s = 2 ∨ s = 3 ∨ s = 4) (hv : v = 1 ∨ v = 2 ∨ v = 3 ∨ v = 4) : 0 ≤ (colT s v x).1 ∧ (colT s v x).1 ≤ 16 ∧ 0 ≤ (colT s v x).2.1 ∧ (colT s v x).2.1 ≤ 16 ∧ 0 ≤ (colT s v x).2.2 ∧ (colT s v x).2.2 ≤ 16 := by
  have h1 : 0 ≤ v * (4 - s) ∧ v * (4 - s) ≤ 16 := by
    rcases hs with rfl | rfl | rfl | rfl <;> lia
  have h2 : 0 ≤ 4 * v ∧ 4 * v ≤ 16 := by lia
  clear hs hv
  simp only [colT]
  generalize v * (4 - s) = w at h1
  generalize 4 * v = p at h2
  obtain ⟨a1, a2⟩ := h1
  obtain ⟨b1, b2⟩ := h2
  repeat' split
  · exact ⟨b1, b2, a1, a2, a1, a2⟩
  · exact ⟨b1, b2, b1, b2, a1, a2⟩
  · exact ⟨a1, a2, b1, b2, a1, a2⟩
  · exact ⟨a1, a2, b1, b2, b1, b2⟩
  · exact ⟨a1, a2, a1, a2, b1, b2⟩
  · exact ⟨b1, b2, a1, a2, b1, b2⟩
section
variable {C : Cx}
theorem d_turn (K : LawK C) {s v x t : Int} (hs : s = 1 ∨ s = 2 ∨ s = 3 ∨ s = 4) (hv : v = 1 ∨ v = 2 ∨ v = 3 ∨ v = 4) (hx : x ∈ q6) (ht : t = 0 ∨ t = 2 ∨ t = 3 ∨ t = 4) :
    DefC C 4 (sQ "_law_turned") [is (colV s v x), is (.int t)] (is (colV s v ((x + t).fmod 6))) := by
  have c := colT_small (x := x) hs hv
  have big : ∀ a : Int, 0 ≤ a → a ≤ 16 → a.natAbs < 2 ^ 1023 := fun a h1 h2 => Nat.lt_of_le_of_lt (by lia : a.natAbs ≤ 16) (by decide +kernel)
  by_cases h4 : t = 4
  · subst h4
    have h := turnA (x := x) hs hv hx
    unfold okTA at h
    rw [Bool.and_eq_true] at h
    exact d_turnedA K _ _ _ _ _ _ (big _ c.1 c.2.1) (big _ c.2.2.1 c.2.2.2.1) (big _ c.2.2.2.2.1 c.2.2.2.2.2) h.1 h.2
  · have ht' : t ∈ ([0, 2, 3] : List Int) := by rcases ht with rfl | rfl | rfl | rfl <;> first | decide | exact absurd rfl h4
    have h := turnB (x := x) hs hv hx ht'
    unfold okTB at h
    rw [Bool.and_eq_true] at h
    exact d_turnedB K _ _ _ _ _ _ _ (by simpa using h4) (Nat.lt_of_le_of_lt (by lia : t.natAbs ≤ 16) (by decide +kernel)) (big _ c.1 c.2.1) (big _ c.2.2.1 c.2.2.2.1) (big _ c.2.2.2.2.1 c.2.2.2.2.2) h.1 h.2
end
structure LawX (C : Cx) : Prop extends LawL C where
  sum : BltZ C (sQ "sum") (.builtin "sum")
  enumerate : BltZ C (sQ "enumerate") (.type "enumerate")
  str : BltZ C (sQ "str") (.type "str")
  list : BltZ C (sQ "list") (.type "list")
noncomputable abbrev lI (l : List Int) : PV := .list (l.map .int)
noncomputable def heapS (S : List Int) (k : Int) : Int := (pickI (pickI S none (some 60) none) (some k) none (some 4)).sum
noncomputable def termS (S : List Int) (k : Int) : Int := (pickI S (some k) (some (k + 1)) none).sum
section
variable {C : Cx} {X : Addr → Prop} {κ : Addr → Option Obj} {env : Env} {q : Str} {doc pm cd : Value} {L f : Addr} {R : Vp}
theorem l_0 (he : env = callEnvC (fdOf (stAt pw 86) q doc pm cd) L f) (K : LawX C) (S : List Int) (hS : S.length ≤ 100) : EX C 40 X (FS C env nmS nmS (scOf (stAt pw 86)) X [some (is (lI S)), none, none, none, none, none, none, none, none, none, none, none, none, none, none, none, none, none, none, none, none, none, none, none, none, none, none, none, none, none, none, none, none, none, none] [] κ) (execs [inSt pw 86 0] env)
    (FS C env nmS nmS (scOf (stAt pw 86)) X [some (is (lI S)), none, some (is (lI [4 + heapS S 0, 9 + heapS S 1, 23 + heapS S 2, 77023 + heapS S 3])), none, none, none, none, none, none, none, none, none, none, none, none, none, none, none, none, none, none, none, none, none, none, none, none, none, none, none, none, none, none, none, none] [] κ) R := by
  have g1 := K.sum
  have g2 := K.enumerate
  show EX _ _ _ _ (execs [.Assign [_] _ _] _) _ _
  have hs1 : (S.map PV.int).length ≤ sizeLine := by rw [List.length_map, sizeLine_eq]; lia
  have hs2 : (pickL (S.map PV.int) none (some 60) none).length ≤ sizeLine := Nat.le_trans (pickL_len _ _ _ _) hs1
  apply ex_cons
  · apply ex_assignC1 (ds := [4 + heapS S 0, 9 + heapS S 1, 23 + heapS S 2, 77023 + heapS S 3].map .int)
    apply comp1_ok (xs := [(0, 4), (1, 9), (2, 23), (3, 77023)]) (f := fun (p : Int × Int) => .tup [.int p.1, .int p.2]) (h := fun p => .int (p.2 + heapS S p.1))
    · apply it_eq
      · apply it_callTt
        · assumption
        · walk_at "ev"
        · exact fi_enumT
        · exact rfl
        · exact rfl
        · exact rfl
        · exact rfl
      · exact rfl
    · walk_at "at"
    · exact rfl
    · decide +kernel
    · exact rfl
    · exact Nat.le_of_ble_eq_true rfl
    · intro cenv X' j hx
      apply ex_mk3
      · walk_at "at"
      · walk_at "at"
      · intro ω κ
        apply ev_bin
        · walk_at "ev"
        · apply ev_callBt (R := is (.int (heapS S j.1)))
          · assumption
          · apply el_cons
            · apply ev_d (d' := lI (pickI (pickI S none (some 60) none) (some j.1) none (some 4)))
              · apply ev_slice_list3T
                · apply ev_slice_listT
                  · walk_at "ev"
                  · exact pt_none
                  · apply pt_some
                    walk_at "ev"
                  · exact hs1
                · apply pt_some
                  walk_at "ev"
                · exact pt_none
                · apply pt_some
                  walk_at "ev"
                · decide
                · exact hs2
              · show PV.list _ = PV.list _
                rw [pickL_ints, pickL_ints]
            · walk_at "ev"
            · exact rfl
          · exact fn_sum
          · exact rfl
          · exact rfl
        · walk_at "op"
    · exact rfl
    · walk_at "at"
    · decide +kernel
    · decide +kernel
    · walk_at "rfl"
  apply ex_fgt
  walk_at "at"
theorem l_1 (he : env = callEnvC (fdOf (stAt pw 86) q doc pm cd) L f) (K : LawX C) (S : List Int) (h0 h1 h2 h3 : Int) (hS : S.length ≤ 100) : EX C 40 X (FS C env nmS nmS (scOf (stAt pw 86)) X [some (is (lI S)), none, some (is (lI [h0, h1, h2, h3])), none, none, none, none, none, none, none, none, none, none, none, none, none, none, none, none, none, none, none, none, none, none, none, none, none, none, none, none, none, none, none, none] [] κ) (execs [inSt pw 86 1] env)
    (FS C env nmS nmS (scOf (stAt pw 86)) X [some (is (lI S)), none, some (is (lI [h0, h1, h2, h3])), some (is (lI [h0.fmod 4, h1.fmod 4, h2.fmod 3])), some (is (lI [7 + termS S 0, -3 + termS S 1, 5 + termS S 2, 2 + termS S 3])), none, none, none, none, none, none, none, none, none, none, none, none, none, none, none, none, none, none, none, none, none, none, none, none, none, none, none, none, none, none] [] κ) R := by
  have g1 := K.sum
  have g2 := K.enumerate
  have hs1 : (S.map PV.int).length ≤ sizeLine := by rw [List.length_map, sizeLine_eq]; lia
  show EX _ _ _ _ (execs [.Assign [.Tuple _ _ _] (.Tuple [_, _] _ _) _] _) _ _
  apply ex_tup_sw
  · rw [he]; exact rfl
  · rw [he]; exact rfl
  · exact Nat.le_of_ble_eq_true rfl
  · exact rfl
  · apply TupK.val
    · walk_at "ev"
    · apply TupK.val
      · apply ev_d
        · apply ev_comp1
          apply comp1_ok (xs := [(0, 7), (1, -3), (2, 5), (3, 2)]) (f := fun (p : Int × Int) => .tup [.int p.1, .int p.2]) (h := fun p => .int (p.2 + termS S p.1))
          · apply it_eq
            · apply it_callTt
              · assumption
              · walk_at "ev"
              · exact fi_enumT
              · exact rfl
              · exact rfl
              · exact rfl
              · exact rfl
            · exact rfl
          · walk_at "at"
          · exact rfl
          · decide +kernel
          · exact rfl
          · exact Nat.le_of_ble_eq_true rfl
          · intro cenv X' j hx
            apply ex_mk3
            · walk_at "at"
            · walk_at "at"
            · intro ω κ
              apply ev_bin
              · walk_at "ev"
              · apply ev_callBt (R := is (.int (termS S j.1)))
                · assumption
                · apply el_cons
                  · apply ev_d (d' := lI (pickI S (some j.1) (some (j.1 + 1)) none))
                    · apply ev_slice_listT
                      · walk_at "ev"
                      · apply pt_some
                        walk_at "ev"
                      · apply pt_some
                        walk_at "ev"
                      · exact hs1
                    · show PV.list _ = PV.list _
                      rw [pickL_ints]
                  · walk_at "ev"
                  · exact rfl
                · exact fn_sum
                · exact rfl
                · exact rfl
              · walk_at "op"
        · exact rfl
      · apply tk_nil_sw rfl rfl
        · show Bdn _ _ _ [_, _] [_, _] _ _
          walk_at "at"
        · apply ex_fgt
          walk_at "fgtd"
      · exact rfl
    · exact rfl
end
noncomputable def turnsN (ks : List Int) : Nat := (ks.filter fun k => k != 3).length
noncomputable def dressF (ks : List Int) (a b c d : Int) : List Int := [a, b, c].take (turnsN ks) ++ [d]
section
variable {C : Cx} {X : Addr → Prop} {κ : Addr → Option Obj} {env : Env} {q : Str} {doc pm cd : Value} {L f : Addr} {R : Vp}
theorem l_2 (he : env = callEnvC (fdOf (stAt pw 86) q doc pm cd) L f) (K : LawX C) (h0 h1 h2 h3 t0 t1 t2 t3 : Int) (ks : List Int) (hk : ks.length = 3) (S : PV) : EX C 40 X (FS C env nmS nmS (scOf (stAt pw 86)) X [some (is S), none, some (is (lI [h0, h1, h2, h3])), some (is (lI ks)), some (is (lI [t0, t1, t2, t3])), none, none, none, none, none, none, none, none, none, none, none, none, none, none, none, none, none, none, none, none, none, none, none, none, none, none, none, none, none, none] [] κ) (execs [inSt pw 86 2] env)
    (FS C env nmS nmS (scOf (stAt pw 86)) X [none, none, some (is (lI [h0, h1, h2, h3])), some (is (lI ks)), some (is (lI [t0, t1, t2, t3])), none, some (is (.int (turnsN ks))), none, none, none, none, none, none, none, none, none, none, none, none, none, none, none, none, none, none, none, none, none, none, none, none, none, none, none, none] [] κ) R := by
  have g1 := K.len
  show EX _ _ _ _ (execs [.Assign [_] (.Call _ _ _ _) _] _) _ _
  apply ex_cons
  · apply ex_assign
    · apply ev_callBt (R := is (.int (turnsN ks)))
      · assumption
      · apply el_cons
        · apply ev_comp1if
          apply comp1if_ok (xs := ks) (f := fun (k : Int) => .int k) (h := fun k => .int k) (p := fun k => k != 3)
          · apply it_eq
            · apply it_list
              walk_at "ev"
            · exact rfl
          · walk_at "at"
          · exact rfl
          · decide +kernel
          · exact rfl
          · rw [sizeLine_eq]; lia
          · intro cenv X' j hx
            apply ex_mk4
            · walk_at "at"
            · walk_at "at"
            · intro ω κ
              walk_at "ev"
            · intro _ ω κ
              walk_at "ev"
        · walk_at "ev"
        · exact rfl
      · apply fn_eq
        · apply fn_len_list
          have := List.length_filter_le (fun k : Int => k != 3) ks
          rw [List.length_map]; lia
        · rw [List.length_map]; rfl
      · exact rfl
      · exact rfl
    · walk_at "at"
    · decide +kernel
    · decide +kernel
    · walk_at "rfl"
  apply ex_fgt
  walk_at "at"
theorem l_3 (he : env = callEnvC (fdOf (stAt pw 86) q doc pm cd) L f) (K : LawX C) (h0 h1 h2 h3 t0 t1 t2 t3 : Int) (ks : List Int) (hk : ks.length = 3) : EX C 40 X (FS C env nmS nmS (scOf (stAt pw 86)) X [none, none, some (is (lI [h0, h1, h2, h3])), some (is (lI ks)), some (is (lI [t0, t1, t2, t3])), none, some (is (.int (turnsN ks))), none, none, none, none, none, none, none, none, none, none, none, none, none, none, none, none, none, none, none, none, none, none, none, none, none, none, none, none] [] κ) (execs [inSt pw 86 3] env)
    (FS C env nmS nmS (scOf (stAt pw 86)) X [none, none, some (is (lI [h0, h1, h2, h3])), some (is (lI ks)), some (is (lI [t0, t1, t2, t3])), none, some (is (.int (turnsN ks))), some (is (lI (dressF ks ((h0.fdiv 4).fmod 4) ((h1.fdiv 4).fmod 4) ((h2.fdiv 3).fmod 4) ((h3.fdiv 32016).fmod 4)))), none, none, none, none, none, none, none, none, none, none, none, none, none, none, none, none, none, none, none, none, none, none, none, none, none, none, none] [] κ) R := by
  have ht : turnsN ks ≤ 3 := by
    have := List.length_filter_le (fun k : Int => k != 3) ks
    unfold turnsN; lia
  show EX _ _ _ _ (execs [.Assign [_] (.BinOp _ _ _ _) _] _) _ _
  apply ex_cons
  · apply ex_assign
    · apply ev_d (d' := lI (dressF ks ((h0.fdiv 4).fmod 4) ((h1.fdiv 4).fmod 4) ((h2.fdiv 3).fmod 4) ((h3.fdiv 32016).fmod 4)))
      · apply ev_bin
        · apply ev_slice_listT
          · walk_at "ev"
          · exact pt_none
          · apply pt_some
            walk_at "ev"
          · exact Nat.le_of_ble_eq_true rfl
        · walk_at "ev"
        · apply op_add_list
          have := pickL_len [PV.int ((h0.fdiv 4).fmod 4), .int ((h1.fdiv 4).fmod 4), .int ((h2.fdiv 3).fmod 4)] none (some (turnsN ks : Int)) none
          rw [sizeLine_eq]
          simp only [List.length_cons, List.length_nil] at this ⊢
          lia
      · rw [pickL_take _ _ (by simpa using ht)]
        show PV.list _ = PV.list _
        rw [dressF, List.map_append, List.map_take]; rfl
    · walk_at "at"
    · decide +kernel
    · decide +kernel
    · walk_at "rfl"
  apply ex_fgt
  walk_at "at"
theorem l_4 (he : env = callEnvC (fdOf (stAt pw 86) q doc pm cd) L f) (K : LawX C) (h0 h1 h2 h3 t0 t1 t2 t3 : Int) (ks : List Int) (tn : Int) (D : PV) : EX C 40 X (FS C env nmS nmS (scOf (stAt pw 86)) X [none, none, some (is (lI [h0, h1, h2, h3])), some (is (lI ks)), some (is (lI [t0, t1, t2, t3])), none, some (is (.int tn)), some (is D), none, none, none, none, none, none, none, none, none, none, none, none, none, none, none, none, none, none, none, none, none, none, none, none, none, none, none] [] κ) (execs [inSt pw 86 4] env)
    (FS C env nmS nmS (scOf (stAt pw 86)) X [none, none, none, some (is (lI ks)), some (is (lI [t0, t1, t2, t3])), none, some (is (.int tn)), some (is D), some (is (.int (h3.fmod 2001 - 1000))), some (is (.int (1 + (h3.fdiv 2001).fmod 4))), some (is (.int (1 + (h3.fdiv 8004).fmod 4))), some (is (.int (6 + (h0.fdiv 16).fmod 8))), none, none, none, none, none, none, none, none, none, none, none, none, none, none, none, none, none, none, none, none, none, none, none] [] κ) R := by
  show EX _ _ _ _ (execs [.Assign [.Tuple [_, _, _, _] _ _] (.Tuple [_, _, _, _] _ _) _] _) _ _
  apply ex_tup
  · rw [he]; exact rfl
  · rw [he]; exact rfl
  · exact Nat.le_of_ble_eq_true rfl
  · apply TupK.val
    · walk_at "ev"
    · apply TupK.val
      · walk_at "ev"
      · apply TupK.val
        · walk_at "ev"
        · apply TupK.val
          · walk_at "ev"
          · apply tk_nil rfl
            · show Bds _ _ _ _ [_, _, _, _] _ _
              walk_at "at"
            · apply ex_fgt
              walk_at "fgtd"
          · exact rfl
        · exact rfl
      · exact rfl
    · exact rfl
theorem l_5 (he : env = callEnvC (fdOf (stAt pw 86) q doc pm cd) L f) (K : LawX C) (t0 t1 t2 t3 : Int) (ks : List Int) (tn b s v bi : Int) (D : PV) : EX C 40 X (FS C env nmS nmS (scOf (stAt pw 86)) X [none, none, none, some (is (lI ks)), some (is (lI [t0, t1, t2, t3])), none, some (is (.int tn)), some (is D), some (is (.int b)), some (is (.int s)), some (is (.int v)), some (is (.int bi)), none, none, none, none, none, none, none, none, none, none, none, none, none, none, none, none, none, none, none, none, none, none, none] [] κ) (execs [inSt pw 86 5] env)
    (FS C env nmS nmS (scOf (stAt pw 86)) X [none, none, none, some (is (lI ks)), some (is (lI [t0, t1, t2, t3])), none, some (is (.int tn)), some (is D), some (is (.int b)), some (is (.int s)), some (is (.int v)), some (is (.int bi)), some (is (.str (sQ ""))), some (is (.int t0)), none, none, none, none, none, none, none, none, none, none, none, none, none, none, none, none, none, none, none, none, none] [] κ) R := by
  show EX _ _ _ _ (execs [.Assign [.Tuple [_, _] _ _] (.Tuple [_, _] _ _) _] _) _ _
  apply ex_tup_sw
  · rw [he]; exact rfl
  · rw [he]; exact rfl
  · exact Nat.le_of_ble_eq_true rfl
  · exact rfl
  · apply TupK.val
    · walk_at "ev"
    · apply TupK.val
      · walk_at "ev"
      · apply tk_nil_sw rfl rfl
        · show Bdn _ _ _ [_, _] [_, _] _ _
          walk_at "at"
        · apply ex_fgt
          walk_at "fgtd"
      · exact rfl
    · exact rfl
end
noncomputable def tA (k : Nat) : Str := match k with | 0 => sQ "a" | 1 => sQ "*b" | 2 => sQ "*c" | _ => sQ "*d"
noncomputable def tD (d : Int) : Str := if d = 0 then sQ "" else if d = 1 then sQ "<<" else if d = 2 then sQ "~" else sQ "-"
noncomputable def leadS (l : Int) (k : Nat) (d : Int) : Int := if d = 0 then l else if d = 1 then 2 * l else if d = 2 then -l - (if k = 0 then 1 else 0) else -l
noncomputable def tlF (ds : List Int) (t0 : Int) : Nat → Str × Int
  | 0 => (sQ "", t0)
  | i + 1 => ((tlF ds t0 i).1 ++ tA i ++ tD (ds.getD i 0), leadS (tlF ds t0 i).2 i (ds.getD i 0))
theorem tl_len (ds : List Int) (t0 : Int) : ∀ i, (tlF ds t0 i).1.length ≤ 4 * i
  | 0 => Nat.le_refl 0
  | i + 1 => by
    have ih := tl_len ds t0 i
    have h1 : (tA i).length ≤ 2 := by
      match i with
      | 0 => decide
      | 1 => decide
      | 2 => decide
      | i + 3 => exact (by decide : (sQ "*d").length ≤ 2)
    have h2 : (tD (ds.getD i 0)).length ≤ 2 := by
      unfold tD
      split
      · decide
      · split
        · decide
        · split
          · decide
          · decide
    have e : ∀ x y : Str, (x ++ y).length = x.length + y.length := fun x y => by show (x.cps ++ y.cps).size = _; rw [Array.size_append]; rfl
    show ((tlF ds t0 i).1 ++ tA i ++ tD (ds.getD i 0)).length ≤ _
    rw [e, e]; lia
theorem seqIndex_nat {i n : Nat} (h : i < n) : seqIndex? (i : Int) n = some i := by rw [seqIndex_of (by lia) (by lia)]; rfl
section
variable {C : Cx} {X : Addr → Prop} {κ : Addr → Option Obj} {env : Env} {q : Str} {doc pm cd : Value} {L f : Addr} {R : Vp}
theorem l_6 (he : env = callEnvC (fdOf (stAt pw 86) q doc pm cd) L f) (K : LawX C) (t0 t1 t2 t3 : Int) (ks ds : List Int) (tn : Nat) (b s v bi : Int) (htn : tn ≤ 3) (hd : ds.length = tn + 1) (hds : ∀ d ∈ ds, d = 0 ∨ d = 1 ∨ d = 2 ∨ d = 3) :
    EX C 40 X (FS C env nmS nmS (scOf (stAt pw 86)) X [none, none, none, some (is (lI ks)), some (is (lI [t0, t1, t2, t3])), none, some (is (.int tn)), some (is (lI ds)), some (is (.int b)), some (is (.int s)), some (is (.int v)), some (is (.int bi)), some (is (.str (sQ ""))), some (is (.int t0)), none, none, none, none, none, none, none, none, none, none, none, none, none, none, none, none, none, none, none, none, none] [] κ) (execs [inSt pw 86 6] env)
    (FS C env nmS nmS (scOf (stAt pw 86)) X [none, none, none, some (is (lI ks)), some (is (lI [t0, t1, t2, t3])), none, some (is (.int tn)), none, some (is (.int b)), some (is (.int s)), some (is (.int v)), some (is (.int bi)), some (is (.str (tlF ds t0 (tn + 1)).1)), some (is (.int (tlF ds t0 (tn + 1)).2)), none, none, none, none, none, none, none, none, none, none, none, none, none, none, none, none, none, none, none, none, none] [] κ) R := by
  have g1 := K.range
  show EX _ _ _ _ (execs [.For _ _ _ _ _] _) _ _
  apply exs_for (ρs := fun i => [none, none, none, some (is (lI ks)), some (is (lI [t0, t1, t2, t3])), none, some (is (.int tn)), some (is (lI ds)), some (is (.int b)), some (is (.int s)), some (is (.int v)), some (is (.int bi)), some (is (.str (tlF ds t0 i).1)), some (is (.int (tlF ds t0 i).2)), none, none, none, none, none, none, none, none, none, none, none, none, none, none, none, none, none, none, none, none, none]) (ωs := fun _ => []) rfl rfl
  · apply it_eq (ds := rngL 0 (tn + 1))
    · apply it_callTt
      · assumption
      · walk_at "ev"
      · apply fi_range1
        exact (small_one (by decide) (by decide) (by lia) (by lia))
      · exact rfl
      · exact rfl
      · exact rfl
      · exact rfl
    · exact rfl
  · intro i; rfl
  · intro κ' i d hdd
    have hlt : i < tn + 1 := by
      have := (List.getElem?_eq_some_iff.mp hdd).1
      rw [rngL_length] at this; exact this
    have hde : d = .int i := by
      unfold rngL at hdd
      rw [List.getElem?_map, List.getElem?_range hlt] at hdd
      cases hdd
      show PV.int (0 + (i : Int)) = _
      rw [Int.zero_add]
    subst hde
    have hgi : ds[i]? = some (ds.getD i 0) := by
      rw [List.getD_eq_getElem?_getD, List.getElem?_eq_getElem (by lia)]; rfl
    have hdi := hds _ (List.mem_of_getElem? hgi)
    have hl := tl_len ds t0 i
    show ∃ ρ', _ ∧ EX _ _ _ _ _ (FS C env nmS nmS (scOf (stAt pw 86)) X [none, none, none, some (is (lI ks)), some (is (lI [t0, t1, t2, t3])), none, some (is (.int tn)), some (is (lI ds)), some (is (.int b)), some (is (.int s)), some (is (.int v)), some (is (.int bi)), some (is (.str ((tlF ds t0 i).1 ++ tA i ++ tD (ds.getD i 0)))), some (is (.int (leadS (tlF ds t0 i).2 i (ds.getD i 0)))), none, none, none, none, none, none, none, none, none, none, none, none, none, none, none, none, none, none, none, none, none] [] κ') _
    have hsz1 : ∀ x y : Str, (x ++ y).length = x.length + y.length := fun x y => by show (x.cps ++ y.cps).size = _; rw [Array.size_append]; rfl
    generalize tlF ds t0 i = w at hl ⊢
    obtain ⟨tx, ld⟩ := w
    simp only at hl
    generalize ds.getD i 0 = dv at hgi hdi ⊢
    have hg2 : (ds.map PV.int)[i]? = some (.int dv) := by rw [List.getElem?_map, hgi]; rfl
    have hsi : seqIndex? (i : Int) (ds.map PV.int).length = some i := seqIndex_nat (by rw [List.length_map, hd]; exact hlt)
    have hlm : (ds.map PV.int).length < 2 ^ 62 := by rw [List.length_map]; lia
    have hii : i = 0 ∨ i = 1 ∨ i = 2 ∨ i = 3 := by lia
    have hz1 : (tx ++ tA i).length ≤ sizeLine := by
      rw [hsz1, sizeLine_eq]
      have : (tA i).length ≤ 2 := by rcases hii with rfl | rfl | rfl | rfl <;> decide
      lia
    have hz2 : (tx ++ tA i ++ tD dv).length ≤ sizeLine := by
      rw [hsz1, hsz1, sizeLine_eq]
      have : (tA i).length ≤ 2 := by rcases hii with rfl | rfl | rfl | rfl <;> decide
      have : (tD dv).length ≤ 2 := by rcases hdi with rfl | rfl | rfl | rfl <;> decide
      lia
    have hA : ([PV.str (tA 0), .str (tA 1), .str (tA 2), .str (tA 3)])[i]? = some (.str (tA i)) := by rcases hii with rfl | rfl | rfl | rfl <;> rfl
    have hD : ([PV.str (tD 0), .str (tD 1), .str (tD 2), .str (tD 3)])[dv.toNat]? = some (.str (tD dv)) := by rcases hdi with rfl | rfl | rfl | rfl <;> rfl
    have hLd : ([PV.int ld, .int (2 * ld), .int (-ld - (if ((i : Int) == 0) = true then 1 else 0)), .int (-ld)])[dv.toNat]? = some (.int (leadS ld i dv)) := by rcases hdi with rfl | rfl | rfl | rfl <;> rcases hii with rfl | rfl | rfl | rfl <;> rfl
    have hi4 : seqIndex? (i : Int) 4 = some i := seqIndex_nat (by lia)
    have hd4 : seqIndex? dv 4 = some dv.toNat := by rcases hdi with rfl | rfl | rfl | rfl <;> rfl
    have hdl : -(2 ^ 63) ≤ dv ∧ dv < 2 ^ 63 := by lia
    apply ex_mk
    · walk_at "at"
    apply ex_cons
    · apply ex_assign
      · apply ev_bin
        · apply ev_bin
          · walk_at "ev"
          · apply ev_sub
            · walk_at "ev"
            · walk_at "ev"
            · apply op_item_tup (j := i) (d := .str (tA i))
              · exact hi4
              · exact hA
              · lia
              · lia
          · exact op_add_str hz1
        · apply ev_sub
          · walk_at "ev"
          · apply ev_sub
            · walk_at "ev"
            · walk_at "ev"
            · apply op_item_list (j := i)
              · exact hsi
              · exact hg2
              · exact hlm
          · apply op_item_tup (j := dv.toNat) (d := .str (tD dv))
            · exact hd4
            · exact hD
            · exact hdl.1
            · exact hdl.2
        · exact op_add_str hz2
      · walk_at "at"
      · decide +kernel
      · decide +kernel
      · walk_at "rfl"
    apply ex_cons
    · apply ex_assign
      · apply ev_sub
        · apply ev_tupL
          · apply el_cons
            · walk_at "ev"
            · apply el_cons
              · walk_at "ev"
              · apply el_cons
                · apply ev_bin
                  · walk_at "ev"
                  · walk_at "ev"
                  · exact op_sub_ib
                · walk_at "ev"
                · exact rfl
              · exact rfl
            · exact rfl
          · walk_at "at"
          · exact Nat.le_of_ble_eq_true rfl
        · apply ev_sub
          · walk_at "ev"
          · walk_at "ev"
          · apply op_item_list (j := i)
            · exact hsi
            · exact hg2
            · exact hlm
        · apply op_item_tup (j := dv.toNat) (d := .int (leadS ld i dv))
          · exact hd4
          · exact hLd
          · exact hdl.1
          · exact hdl.2
      · walk_at "at"
      · decide +kernel
      · decide +kernel
      · walk_at "rfl"
    apply ex_fgt
    walk_at "at"
  · rw [rngL_length]
    apply ex_fgt
    walk_at "at"
end
noncomputable def figs (k : Int) : List Int := if k = 1 ∨ k = 2 then [1, 2] else [1]
noncomputable def turnK (k : Int) : Int := if k = 0 then 3 else if k = 1 then 2 else if k = 2 then 4 else 0
noncomputable def sxStep (l : List Int) (k : Int) : List Int := l ++ (figs k).flatMap fun g => l.map fun x => (x + g * turnK k).fmod 6
noncomputable def sxF (ks : List Int) (i : Nat) : List Int := (ks.take i).foldl sxStep [0]
theorem sxF_succ {ks : List Int} {i : Nat} {k : Int} (e : ks[i]? = some k) : sxF ks (i + 1) = sxStep (sxF ks i) k := by
  unfold sxF
  rw [List.take_add_one, e, List.foldl_append]; rfl
theorem fmod6 (a : Int) : a.fmod 6 ∈ q6 := by
  have h1 : 0 ≤ a.fmod 6 := Int.fmod_nonneg_of_pos _ (by decide)
  have h2 : a.fmod 6 < 6 := Int.fmod_lt_of_pos _ (by decide)
  have : a.fmod 6 = 0 ∨ a.fmod 6 = 1 ∨ a.fmod 6 = 2 ∨ a.fmod 6 = 3 ∨ a.fmod 6 = 4 ∨ a.fmod 6 = 5 := by lia
  rcases this with h | h | h | h | h | h <;> rw [h] <;> decide
theorem sxStep_mem {l : List Int} {k : Int} (h : ∀ x ∈ l, x ∈ q6) : ∀ x ∈ sxStep l k, x ∈ q6 := fun x hx => by
  rcases List.mem_append.mp hx with hx | hx
  · exact h x hx
  · obtain ⟨g, _, hx⟩ := List.mem_flatMap.mp hx
    obtain ⟨y, _, rfl⟩ := List.mem_map.mp hx
    exact fmod6 _
theorem sxF_mem (ks : List Int) : ∀ i, ∀ x ∈ sxF ks i, x ∈ q6
  | 0 => by simp [sxF]
  | i + 1 => by
    cases e : ks[i]? with
    | none =>
      have : sxF ks (i + 1) = sxF ks i := by unfold sxF; rw [List.take_add_one, e]; simp
      rw [this]; exact sxF_mem ks i
    | some k => rw [sxF_succ e]; exact sxStep_mem (sxF_mem ks i)
theorem sxF_len (ks : List Int) : ∀ i, (sxF ks i).length ≤ 3 ^ i
  | 0 => by simp [sxF]
  | i + 1 => by
    have ih := sxF_len ks i
    have e3 : 3 ^ (i + 1) = 3 ^ i * 3 := Nat.pow_succ ..
    cases e : ks[i]? with
    | none =>
      have : sxF ks (i + 1) = sxF ks i := by unfold sxF; rw [List.take_add_one, e]; simp
      rw [this]; lia
    | some k =>
      rw [sxF_succ e]
      unfold sxStep figs
      split
      · simp; lia
      · simp; lia
def okK (k : Int) : Prop := k = 0 ∨ k = 1 ∨ k = 2 ∨ k = 3
theorem ev_pair {C : Cx} {n : Nat} {Φ : Asn C} {env : Env} {a b : Int} {k1 k2 kk : Nat} {p1 p2 p : Pos} : EV C n Φ (eval (.Tuple [.Constant (.int a) k1 p1, .Constant (.int b) k2 p2] kk p) env) (is (.tup [.int a, .int b])) :=
  ev_tupL (el_cons (P := is (.int a)) ev_int (el_cons (P := is (.int b)) ev_int el_nil)) (.cons (.cons .nil)) (Nat.le_of_ble_eq_true rfl)
theorem ev_quad {C : Cx} {n : Nat} {Φ : Asn C} {env : Env} {e1 e2 e3 e4 : Expr} {d1 d2 d3 d4 : PV} {kk : Nat} {p : Pos} (h1 : EV C n Φ (eval e1 env) (is d1)) (h2 : EV C n Φ (eval e2 env) (is d2)) (h3 : EV C n Φ (eval e3 env) (is d3)) (h4 : EV C n Φ (eval e4 env) (is d4))
    (a1 : starEach [e1, e2, e3, e4] env = (false, eval e1 env) :: starEach [e2, e3, e4] env := by rfl) (a2 : starEach [e2, e3, e4] env = (false, eval e2 env) :: starEach [e3, e4] env := by rfl) (a3 : starEach [e3, e4] env = (false, eval e3 env) :: starEach [e4] env := by rfl) (a4 : starEach [e4] env = (false, eval e4 env) :: starEach [] env := by rfl) :
    EV C n Φ (eval (.Tuple [e1, e2, e3, e4] kk p) env) (is (.tup [d1, d2, d3, d4])) :=
  ev_tupL (el_cons h1 (el_cons h2 (el_cons h3 (el_cons h4 el_nil a4) a3) a2) a1) (.cons (.cons (.cons (.cons .nil)))) (Nat.le_of_ble_eq_true rfl)
noncomputable def subOf : Stmt → Expr
  | .Assign _ (.Subscript e _ _) _ => e
  | _ => .Constant .none 0 default
noncomputable def setSub (e : Expr) : Stmt → Stmt
  | .Assign ts (.Subscript _ sl p) q => .Assign ts (.Subscript e sl p) q
  | s => s
noncomputable def forBody : Stmt → List Stmt
  | .For _ _ b _ _ => b
  | _ => []
structure KindsE (C : Cx) (env : Env) (e : Expr) : Prop where
  h : ∀ Φ, EV C 40 Φ (eval e env) (is (.tup [.tup [.int 2, .int 3], .tup [.int 3, .int 2], .tup [.int 3, .int 4], .tup [.int 2, .int 0]]))
section
variable {C : Cx} {X : Addr → Prop} {κ : Addr → Option Obj} {env : Env} {q : Str} {doc pm cd : Value} {L f : Addr} {R : Vp}
theorem ev_kinds {n : Nat} {Φ : Asn C} : EV C n Φ (eval (subOf ((forBody (inSt pw 86 8)).getD 0 (.Pass default))) env) (is (.tup [.tup [.int 2, .int 3], .tup [.int 3, .int 2], .tup [.int 3, .int 4], .tup [.int 2, .int 0]])) := by
  have h := fun (k1 k2 k3 k4 k5 k6 k7 k8 kk a1 a2 a3 a4 : Nat) (p1 p2 p3 p4 p5 p6 p7 p8 p q1 q2 q3 q4 : Pos) => @ev_quad C n Φ env _ _ _ _ _ _ _ _ kk p (@ev_pair C n Φ env 2 3 k1 k2 a1 p1 p2 q1) (@ev_pair C n Φ env 3 2 k3 k4 a2 p3 p4 q2) (@ev_pair C n Φ env 3 4 k5 k6 a3 p5 p6 q3) (@ev_pair C n Φ env 2 0 k7 k8 a4 p7 p8 q4) rfl rfl rfl rfl
  exact h _ _ _ _ _ _ _ _ _ _ _ _ _ _ _ _ _ _ _ _ _ _ _ _ _ _
theorem kindsE : KindsE C env (subOf ((forBody (inSt pw 86 8)).getD 0 (.Pass default))) := KindsE.mk fun Φ => by
  have h := @ev_kinds C env 40 Φ
  assumption
theorem l_8k0 (he : env = callEnvC (fdOf (stAt pw 86) q doc pm cd) L f) (K : LawX C) (ks l : List Int) (s v : Int) (P : Vp) (p1 p2 p3 p4 p5 p6 p7 : Vp) (Hd : Addr) (hs : s = 1 ∨ s = 2 ∨ s = 3 ∨ s = 4) (hv : v = 1 ∨ v = 2 ∨ v = 3 ∨ v = 4) (hm : ∀ x ∈ l, x ∈ q6) (hl9 : l.length ≤ 9) {e : Expr} (hE : KindsE C env e) {b : List Stmt} (hb : b = [setSub e ((forBody (inSt pw 86 8)).getD 0 (.Pass default)), (forBody (inSt pw 86 8)).getD 1 (.Pass default), (forBody (inSt pw 86 8)).getD 2 (.Pass default)]) :
    EX C 40 X (FS C env nmS nmS (scOf (stAt pw 86)) X [none, none, none, some (is (lI ks)), some (p1), some (is (.int 0)), some (p2), none, some (p3), some (p4), some (p5), some (p6), some (p7), some (P), some (is (.list (l.map (colV s v)))), some (is (lI l)), some (tabV Hd), none, none, none, none, none, none, none, none, none, none, none, none, none, none, none, none, none, none] [(Hd, [])] κ) (execs b env)
    (FS C env nmS nmS (scOf (stAt pw 86)) X [none, none, none, some (is (lI ks)), some (p1), none, some (p2), none, some (p3), some (p4), some (p5), some (p6), some (p7), some (P), some (is (.list ((sxStep l 0).map (colV s v)))), some (is (lI (sxStep l 0))), some (tabV Hd), none, none, none, none, none, none, none, none, none, none, none, none, none, none, none, none, none, none] [(Hd, [])] κ) R := by
  have K0 := K.toLawK
  have g1 := K.range
  have hln : ∀ g : List Int, g.length ≤ 2 → (g.flatMap fun _ => l.map fun _ => (0 : Int)).length ≤ 18 := fun g hg => by
    simp only [List.length_flatMap, List.length_map]
    match g, hg with
    | [], _ => simp
    | [_], _ => simp; lia
    | [_, _], _ => simp; lia
  have hsz : ∀ (g : List Int) (h : Int → Int → PV), g.length ≤ 2 → (g.flatMap fun y => l.map (h y)).length ≤ sizeLine := fun g h hg => by
    have := hln g hg
    simp only [List.length_flatMap, List.length_map] at this ⊢
    rw [sizeLine_eq]; lia
  have hszL : ∀ g : List Int, g.length ≤ 2 → ∀ h : Int → Int → PV, ∀ l' : List PV, l'.length = l.length → l'.length + (g.flatMap fun y => l.map (h y)).length ≤ sizeLine := fun g hg h l' e => by
    have := hln g hg
    simp only [List.length_flatMap, List.length_map] at this ⊢
    rw [sizeLine_eq]; lia
  subst hb
  show EX _ _ _ _ (execs [.Assign [.Tuple _ _ _] (.Subscript e _ _) _, .Assign [_] (.BinOp _ _ _ _) _, .Assign [_] (.BinOp _ _ _ _) _] _) _ _
  have ef : figs 0 = [1] := rfl
  have et : turnK 0 = 3 := rfl
  apply ex_cons
  · apply ex_asgU
    · apply ev_sub
      · exact hE.h _
      · walk_at "ev"
      · apply op_item_tup (j := 0) (d := .tup [.int 2, .int 3])
        · exact rfl
        · exact rfl
        · decide
        · decide
    · walk_at "at"
    · rw [he]; exact rfl
    · rw [he]; exact rfl
  apply ex_cons
  · apply ex_assign
    · apply ev_d (d' := .list ((sxStep l 0).map (colV s v)))
      · apply ev_bin
        · walk_at "ev"
        · apply ev_compG
          apply comp2_ok (xs := [1]) (f := fun (g : Int) => .int g) (ys := fun _ => l) (f' := colV s v) (h := fun g x => colV s v ((x + g * 3).fmod 6))
          · apply it_eq
            · apply it_callTt
              · assumption
              · walk_at "ev"
              · apply fi_range2
                exact rfl
              · exact rfl
              · exact rfl
              · exact rfl
              · exact rfl
            · exact rfl
          · walk_at "at"
          · exact rfl
          · decide +kernel
          · exact rfl
          · exact hsz [1] (fun g x => colV s v ((x + g * 3).fmod 6)) (by decide)
          · intro cenv X' j hx
            have hx : j = 1 ∨ j = 2 := by simp at hx; lia
            apply ex_mk5
            · walk_at "at"
            · walk_at "at"
            · intro ω κ
              apply it_list
              walk_at "ev"
            · intro _; rfl
            · intro y hy
              apply ex_mk3
              · walk_at "at"
              · walk_at "at"
              · intro ω κ
                have e : (y + (j * 3).fmod 6).fmod 6 = (y + j * 3).fmod 6 := by rw [Int.fmod_eq_emod_of_nonneg _ (by decide), Int.fmod_eq_emod_of_nonneg _ (by decide), Int.fmod_eq_emod_of_nonneg _ (by decide)]; lia
                have ht : (j * 3).fmod 6 = 0 ∨ (j * 3).fmod 6 = 2 ∨ (j * 3).fmod 6 = 3 ∨ (j * 3).fmod 6 = 4 := by rcases hx with rfl | rfl <;> decide
                have D := d_turn K0 hs hv (hm y hy) ht
                rw [e] at D
                apply ev_callD (R := is (colV s v ((y + j * 3).fmod 6)))
                · walk_at "ev"
                · exact D
                · decide
                · exact rfl
                · exact rfl
        · exact op_add_list (hszL [1] (by decide) (fun g x => colV s v ((x + g * 3).fmod 6)) _ (by rw [List.length_map]))
      · show PV.list _ = PV.list _
        rw [sxStep, ef, et, List.map_append, List.map_flatMap]
        simp only [List.map_map]
        rfl
    · walk_at "at"
    · decide +kernel
    · decide +kernel
    · walk_at "rfl"
  apply ex_cons
  · apply ex_assign
    · apply ev_d (d' := lI (sxStep l 0))
      · apply ev_bin
        · walk_at "ev"
        · apply ev_compG
          apply comp2_ok (xs := [1]) (f := fun (g : Int) => .int g) (ys := fun _ => l) (f' := fun (x : Int) => .int x) (h := fun g x => .int ((x + g * 3).fmod 6))
          · apply it_eq
            · apply it_callTt
              · assumption
              · walk_at "ev"
              · apply fi_range2
                exact rfl
              · exact rfl
              · exact rfl
              · exact rfl
              · exact rfl
            · exact rfl
          · walk_at "at"
          · exact rfl
          · decide +kernel
          · exact rfl
          · exact hsz [1] (fun g x => .int ((x + g * 3).fmod 6)) (by decide)
          · intro cenv X' j hx
            have hx : j = 1 ∨ j = 2 := by simp at hx; lia
            have hj : j.natAbs < 18446744073709551616 := by lia
            apply ex_mk5
            · walk_at "at"
            · walk_at "at"
            · intro ω κ
              apply it_list
              walk_at "ev"
            · intro _; rfl
            · intro y hy
              apply ex_mk3
              · walk_at "at"
              · walk_at "at"
              · intro ω κ
                walk_at "ev"
        · exact op_add_list (hszL [1] (by decide) (fun g x => .int ((x + g * 3).fmod 6)) _ (by rw [List.length_map]))
      · show PV.list _ = PV.list _
        rw [sxStep, ef, et, List.map_append, List.map_flatMap]
        simp only [List.map_map]
        rfl
    · walk_at "at"
    · decide +kernel
    · decide +kernel
    · walk_at "rfl"
  apply ex_fgt
  walk_at "at"
theorem l_8k1 (he : env = callEnvC (fdOf (stAt pw 86) q doc pm cd) L f) (K : LawX C) (ks l : List Int) (s v : Int) (P : Vp) (p1 p2 p3 p4 p5 p6 p7 : Vp) (Hd : Addr) (hs : s = 1 ∨ s = 2 ∨ s = 3 ∨ s = 4) (hv : v = 1 ∨ v = 2 ∨ v = 3 ∨ v = 4) (hm : ∀ x ∈ l, x ∈ q6) (hl9 : l.length ≤ 9) {e : Expr} (hE : KindsE C env e) {b : List Stmt} (hb : b = [setSub e ((forBody (inSt pw 86 8)).getD 0 (.Pass default)), (forBody (inSt pw 86 8)).getD 1 (.Pass default), (forBody (inSt pw 86 8)).getD 2 (.Pass default)]) :
    EX C 40 X (FS C env nmS nmS (scOf (stAt pw 86)) X [none, none, none, some (is (lI ks)), some (p1), some (is (.int 1)), some (p2), none, some (p3), some (p4), some (p5), some (p6), some (p7), some (P), some (is (.list (l.map (colV s v)))), some (is (lI l)), some (tabV Hd), none, none, none, none, none, none, none, none, none, none, none, none, none, none, none, none, none, none] [(Hd, [])] κ) (execs b env)
    (FS C env nmS nmS (scOf (stAt pw 86)) X [none, none, none, some (is (lI ks)), some (p1), none, some (p2), none, some (p3), some (p4), some (p5), some (p6), some (p7), some (P), some (is (.list ((sxStep l 1).map (colV s v)))), some (is (lI (sxStep l 1))), some (tabV Hd), none, none, none, none, none, none, none, none, none, none, none, none, none, none, none, none, none, none] [(Hd, [])] κ) R := by
  have K0 := K.toLawK
  have g1 := K.range
  have hln : ∀ g : List Int, g.length ≤ 2 → (g.flatMap fun _ => l.map fun _ => (0 : Int)).length ≤ 18 := fun g hg => by
    simp only [List.length_flatMap, List.length_map]
    match g, hg with
    | [], _ => simp
    | [_], _ => simp; lia
    | [_, _], _ => simp; lia
  have hsz : ∀ (g : List Int) (h : Int → Int → PV), g.length ≤ 2 → (g.flatMap fun y => l.map (h y)).length ≤ sizeLine := fun g h hg => by
    have := hln g hg
    simp only [List.length_flatMap, List.length_map] at this ⊢
    rw [sizeLine_eq]; lia
  have hszL : ∀ g : List Int, g.length ≤ 2 → ∀ h : Int → Int → PV, ∀ l' : List PV, l'.length = l.length → l'.length + (g.flatMap fun y => l.map (h y)).length ≤ sizeLine := fun g hg h l' e => by
    have := hln g hg
    simp only [List.length_flatMap, List.length_map] at this ⊢
    rw [sizeLine_eq]; lia
  subst hb
  show EX _ _ _ _ (execs [.Assign [.Tuple _ _ _] (.Subscript e _ _) _, .Assign [_] (.BinOp _ _ _ _) _, .Assign [_] (.BinOp _ _ _ _) _] _) _ _
  have ef : figs 1 = [1, 2] := rfl
  have et : turnK 1 = 2 := rfl
  apply ex_cons
  · apply ex_asgU
    · apply ev_sub
      · exact hE.h _
      · walk_at "ev"
      · apply op_item_tup (j := 1) (d := .tup [.int 3, .int 2])
        · exact rfl
        · exact rfl
        · decide
        · decide
    · walk_at "at"
    · rw [he]; exact rfl
    · rw [he]; exact rfl
  apply ex_cons
  · apply ex_assign
    · apply ev_d (d' := .list ((sxStep l 1).map (colV s v)))
      · apply ev_bin
        · walk_at "ev"
        · apply ev_compG
          apply comp2_ok (xs := [1, 2]) (f := fun (g : Int) => .int g) (ys := fun _ => l) (f' := colV s v) (h := fun g x => colV s v ((x + g * 2).fmod 6))
          · apply it_eq
            · apply it_callTt
              · assumption
              · walk_at "ev"
              · apply fi_range2
                exact rfl
              · exact rfl
              · exact rfl
              · exact rfl
              · exact rfl
            · exact rfl
          · walk_at "at"
          · exact rfl
          · decide +kernel
          · exact rfl
          · exact hsz [1, 2] (fun g x => colV s v ((x + g * 2).fmod 6)) (by decide)
          · intro cenv X' j hx
            have hx : j = 1 ∨ j = 2 := by simp at hx; lia
            apply ex_mk5
            · walk_at "at"
            · walk_at "at"
            · intro ω κ
              apply it_list
              walk_at "ev"
            · intro _; rfl
            · intro y hy
              apply ex_mk3
              · walk_at "at"
              · walk_at "at"
              · intro ω κ
                have e : (y + (j * 2).fmod 6).fmod 6 = (y + j * 2).fmod 6 := by rw [Int.fmod_eq_emod_of_nonneg _ (by decide), Int.fmod_eq_emod_of_nonneg _ (by decide), Int.fmod_eq_emod_of_nonneg _ (by decide)]; lia
                have ht : (j * 2).fmod 6 = 0 ∨ (j * 2).fmod 6 = 2 ∨ (j * 2).fmod 6 = 3 ∨ (j * 2).fmod 6 = 4 := by rcases hx with rfl | rfl <;> decide
                have D := d_turn K0 hs hv (hm y hy) ht
                rw [e] at D
                apply ev_callD (R := is (colV s v ((y + j * 2).fmod 6)))
                · walk_at "ev"
                · exact D
                · decide
                · exact rfl
                · exact rfl
        · exact op_add_list (hszL [1, 2] (by decide) (fun g x => colV s v ((x + g * 2).fmod 6)) _ (by rw [List.length_map]))
      · show PV.list _ = PV.list _
        rw [sxStep, ef, et, List.map_append, List.map_flatMap]
        simp only [List.map_map]
        rfl
    · walk_at "at"
    · decide +kernel
    · decide +kernel
    · walk_at "rfl"
  apply ex_cons
  · apply ex_assign
    · apply ev_d (d' := lI (sxStep l 1))
      · apply ev_bin
        · walk_at "ev"
        · apply ev_compG
          apply comp2_ok (xs := [1, 2]) (f := fun (g : Int) => .int g) (ys := fun _ => l) (f' := fun (x : Int) => .int x) (h := fun g x => .int ((x + g * 2).fmod 6))
          · apply it_eq
            · apply it_callTt
              · assumption
              · walk_at "ev"
              · apply fi_range2
                exact rfl
              · exact rfl
              · exact rfl
              · exact rfl
              · exact rfl
            · exact rfl
          · walk_at "at"
          · exact rfl
          · decide +kernel
          · exact rfl
          · exact hsz [1, 2] (fun g x => .int ((x + g * 2).fmod 6)) (by decide)
          · intro cenv X' j hx
            have hx : j = 1 ∨ j = 2 := by simp at hx; lia
            have hj : j.natAbs < 18446744073709551616 := by lia
            apply ex_mk5
            · walk_at "at"
            · walk_at "at"
            · intro ω κ
              apply it_list
              walk_at "ev"
            · intro _; rfl
            · intro y hy
              apply ex_mk3
              · walk_at "at"
              · walk_at "at"
              · intro ω κ
                walk_at "ev"
        · exact op_add_list (hszL [1, 2] (by decide) (fun g x => .int ((x + g * 2).fmod 6)) _ (by rw [List.length_map]))
      · show PV.list _ = PV.list _
        rw [sxStep, ef, et, List.map_append, List.map_flatMap]
        simp only [List.map_map]
        rfl
    · walk_at "at"
    · decide +kernel
    · decide +kernel
    · walk_at "rfl"
  apply ex_fgt
  walk_at "at"
theorem l_8k2 (he : env = callEnvC (fdOf (stAt pw 86) q doc pm cd) L f) (K : LawX C) (ks l : List Int) (s v : Int) (P : Vp) (p1 p2 p3 p4 p5 p6 p7 : Vp) (Hd : Addr) (hs : s = 1 ∨ s = 2 ∨ s = 3 ∨ s = 4) (hv : v = 1 ∨ v = 2 ∨ v = 3 ∨ v = 4) (hm : ∀ x ∈ l, x ∈ q6) (hl9 : l.length ≤ 9) {e : Expr} (hE : KindsE C env e) {b : List Stmt} (hb : b = [setSub e ((forBody (inSt pw 86 8)).getD 0 (.Pass default)), (forBody (inSt pw 86 8)).getD 1 (.Pass default), (forBody (inSt pw 86 8)).getD 2 (.Pass default)]) :
    EX C 40 X (FS C env nmS nmS (scOf (stAt pw 86)) X [none, none, none, some (is (lI ks)), some (p1), some (is (.int 2)), some (p2), none, some (p3), some (p4), some (p5), some (p6), some (p7), some (P), some (is (.list (l.map (colV s v)))), some (is (lI l)), some (tabV Hd), none, none, none, none, none, none, none, none, none, none, none, none, none, none, none, none, none, none] [(Hd, [])] κ) (execs b env)
    (FS C env nmS nmS (scOf (stAt pw 86)) X [none, none, none, some (is (lI ks)), some (p1), none, some (p2), none, some (p3), some (p4), some (p5), some (p6), some (p7), some (P), some (is (.list ((sxStep l 2).map (colV s v)))), some (is (lI (sxStep l 2))), some (tabV Hd), none, none, none, none, none, none, none, none, none, none, none, none, none, none, none, none, none, none] [(Hd, [])] κ) R := by
  have K0 := K.toLawK
  have g1 := K.range
  have hln : ∀ g : List Int, g.length ≤ 2 → (g.flatMap fun _ => l.map fun _ => (0 : Int)).length ≤ 18 := fun g hg => by
    simp only [List.length_flatMap, List.length_map]
    match g, hg with
    | [], _ => simp
    | [_], _ => simp; lia
    | [_, _], _ => simp; lia
  have hsz : ∀ (g : List Int) (h : Int → Int → PV), g.length ≤ 2 → (g.flatMap fun y => l.map (h y)).length ≤ sizeLine := fun g h hg => by
    have := hln g hg
    simp only [List.length_flatMap, List.length_map] at this ⊢
    rw [sizeLine_eq]; lia
  have hszL : ∀ g : List Int, g.length ≤ 2 → ∀ h : Int → Int → PV, ∀ l' : List PV, l'.length = l.length → l'.length + (g.flatMap fun y => l.map (h y)).length ≤ sizeLine := fun g hg h l' e => by
    have := hln g hg
    simp only [List.length_flatMap, List.length_map] at this ⊢
    rw [sizeLine_eq]; lia
  subst hb
  show EX _ _ _ _ (execs [.Assign [.Tuple _ _ _] (.Subscript e _ _) _, .Assign [_] (.BinOp _ _ _ _) _, .Assign [_] (.BinOp _ _ _ _) _] _) _ _
  have ef : figs 2 = [1, 2] := rfl
  have et : turnK 2 = 4 := rfl
  apply ex_cons
  · apply ex_asgU
    · apply ev_sub
      · exact hE.h _
      · walk_at "ev"
      · apply op_item_tup (j := 2) (d := .tup [.int 3, .int 4])
        · exact rfl
        · exact rfl
        · decide
        · decide
    · walk_at "at"
    · rw [he]; exact rfl
    · rw [he]; exact rfl
  apply ex_cons
  · apply ex_assign
    · apply ev_d (d' := .list ((sxStep l 2).map (colV s v)))
      · apply ev_bin
        · walk_at "ev"
        · apply ev_compG
          apply comp2_ok (xs := [1, 2]) (f := fun (g : Int) => .int g) (ys := fun _ => l) (f' := colV s v) (h := fun g x => colV s v ((x + g * 4).fmod 6))
          · apply it_eq
            · apply it_callTt
              · assumption
              · walk_at "ev"
              · apply fi_range2
                exact rfl
              · exact rfl
              · exact rfl
              · exact rfl
              · exact rfl
            · exact rfl
          · walk_at "at"
          · exact rfl
          · decide +kernel
          · exact rfl
          · exact hsz [1, 2] (fun g x => colV s v ((x + g * 4).fmod 6)) (by decide)
          · intro cenv X' j hx
            have hx : j = 1 ∨ j = 2 := by simp at hx; lia
            apply ex_mk5
            · walk_at "at"
            · walk_at "at"
            · intro ω κ
              apply it_list
              walk_at "ev"
            · intro _; rfl
            · intro y hy
              apply ex_mk3
              · walk_at "at"
              · walk_at "at"
              · intro ω κ
                have e : (y + (j * 4).fmod 6).fmod 6 = (y + j * 4).fmod 6 := by rw [Int.fmod_eq_emod_of_nonneg _ (by decide), Int.fmod_eq_emod_of_nonneg _ (by decide), Int.fmod_eq_emod_of_nonneg _ (by decide)]; lia
                have ht : (j * 4).fmod 6 = 0 ∨ (j * 4).fmod 6 = 2 ∨ (j * 4).fmod 6 = 3 ∨ (j * 4).fmod 6 = 4 := by rcases hx with rfl | rfl <;> decide
                have D := d_turn K0 hs hv (hm y hy) ht
                rw [e] at D
                apply ev_callD (R := is (colV s v ((y + j * 4).fmod 6)))
                · walk_at "ev"
                · exact D
                · decide
                · exact rfl
                · exact rfl
        · exact op_add_list (hszL [1, 2] (by decide) (fun g x => colV s v ((x + g * 4).fmod 6)) _ (by rw [List.length_map]))
      · show PV.list _ = PV.list _
        rw [sxStep, ef, et, List.map_append, List.map_flatMap]
        simp only [List.map_map]
        rfl
    · walk_at "at"
    · decide +kernel
    · decide +kernel
    · walk_at "rfl"
  apply ex_cons
  · apply ex_assign
    · apply ev_d (d' := lI (sxStep l 2))
      · apply ev_bin
        · walk_at "ev"
        · apply ev_compG
          apply comp2_ok (xs := [1, 2]) (f := fun (g : Int) => .int g) (ys := fun _ => l) (f' := fun (x : Int) => .int x) (h := fun g x => .int ((x + g * 4).fmod 6))
          · apply it_eq
            · apply it_callTt
              · assumption
              · walk_at "ev"
              · apply fi_range2
                exact rfl
              · exact rfl
              · exact rfl
              · exact rfl
              · exact rfl
            · exact rfl
          · walk_at "at"
          · exact rfl
          · decide +kernel
          · exact rfl
          · exact hsz [1, 2] (fun g x => .int ((x + g * 4).fmod 6)) (by decide)
          · intro cenv X' j hx
            have hx : j = 1 ∨ j = 2 := by simp at hx; lia
            have hj : j.natAbs < 18446744073709551616 := by lia
            apply ex_mk5
            · walk_at "at"
            · walk_at "at"
            · intro ω κ
              apply it_list
              walk_at "ev"
            · intro _; rfl
            · intro y hy
              apply ex_mk3
              · walk_at "at"
              · walk_at "at"
              · intro ω κ
                walk_at "ev"
        · exact op_add_list (hszL [1, 2] (by decide) (fun g x => .int ((x + g * 4).fmod 6)) _ (by rw [List.length_map]))
      · show PV.list _ = PV.list _
        rw [sxStep, ef, et, List.map_append, List.map_flatMap]
        simp only [List.map_map]
        rfl
    · walk_at "at"
    · decide +kernel
    · decide +kernel
    · walk_at "rfl"
  apply ex_fgt
  walk_at "at"
theorem l_8k3 (he : env = callEnvC (fdOf (stAt pw 86) q doc pm cd) L f) (K : LawX C) (ks l : List Int) (s v : Int) (P : Vp) (p1 p2 p3 p4 p5 p6 p7 : Vp) (Hd : Addr) (hs : s = 1 ∨ s = 2 ∨ s = 3 ∨ s = 4) (hv : v = 1 ∨ v = 2 ∨ v = 3 ∨ v = 4) (hm : ∀ x ∈ l, x ∈ q6) (hl9 : l.length ≤ 9) {e : Expr} (hE : KindsE C env e) {b : List Stmt} (hb : b = [setSub e ((forBody (inSt pw 86 8)).getD 0 (.Pass default)), (forBody (inSt pw 86 8)).getD 1 (.Pass default), (forBody (inSt pw 86 8)).getD 2 (.Pass default)]) :
    EX C 40 X (FS C env nmS nmS (scOf (stAt pw 86)) X [none, none, none, some (is (lI ks)), some (p1), some (is (.int 3)), some (p2), none, some (p3), some (p4), some (p5), some (p6), some (p7), some (P), some (is (.list (l.map (colV s v)))), some (is (lI l)), some (tabV Hd), none, none, none, none, none, none, none, none, none, none, none, none, none, none, none, none, none, none] [(Hd, [])] κ) (execs b env)
    (FS C env nmS nmS (scOf (stAt pw 86)) X [none, none, none, some (is (lI ks)), some (p1), none, some (p2), none, some (p3), some (p4), some (p5), some (p6), some (p7), some (P), some (is (.list ((sxStep l 3).map (colV s v)))), some (is (lI (sxStep l 3))), some (tabV Hd), none, none, none, none, none, none, none, none, none, none, none, none, none, none, none, none, none, none] [(Hd, [])] κ) R := by
  have K0 := K.toLawK
  have g1 := K.range
  have hln : ∀ g : List Int, g.length ≤ 2 → (g.flatMap fun _ => l.map fun _ => (0 : Int)).length ≤ 18 := fun g hg => by
    simp only [List.length_flatMap, List.length_map]
    match g, hg with
    | [], _ => simp
    | [_], _ => simp; lia
    | [_, _], _ => simp; lia
  have hsz : ∀ (g : List Int) (h : Int → Int → PV), g.length ≤ 2 → (g.flatMap fun y => l.map (h y)).length ≤ sizeLine := fun g h hg => by
    have := hln g hg
    simp only [List.length_flatMap, List.length_map] at this ⊢
    rw [sizeLine_eq]; lia
  have hszL : ∀ g : List Int, g.length ≤ 2 → ∀ h : Int → Int → PV, ∀ l' : List PV, l'.length = l.length → l'.length + (g.flatMap fun y => l.map (h y)).length ≤ sizeLine := fun g hg h l' e => by
    have := hln g hg
    simp only [List.length_flatMap, List.length_map] at this ⊢
    rw [sizeLine_eq]; lia
  subst hb
  show EX _ _ _ _ (execs [.Assign [.Tuple _ _ _] (.Subscript e _ _) _, .Assign [_] (.BinOp _ _ _ _) _, .Assign [_] (.BinOp _ _ _ _) _] _) _ _
  have ef : figs 3 = [1] := rfl
  have et : turnK 3 = 0 := rfl
  apply ex_cons
  · apply ex_asgU
    · apply ev_sub
      · exact hE.h _
      · walk_at "ev"
      · apply op_item_tup (j := 3) (d := .tup [.int 2, .int 0])
        · exact rfl
        · exact rfl
        · decide
        · decide
    · walk_at "at"
    · rw [he]; exact rfl
    · rw [he]; exact rfl
  apply ex_cons
  · apply ex_assign
    · apply ev_d (d' := .list ((sxStep l 3).map (colV s v)))
      · apply ev_bin
        · walk_at "ev"
        · apply ev_compG
          apply comp2_ok (xs := [1]) (f := fun (g : Int) => .int g) (ys := fun _ => l) (f' := colV s v) (h := fun g x => colV s v ((x + g * 0).fmod 6))
          · apply it_eq
            · apply it_callTt
              · assumption
              · walk_at "ev"
              · apply fi_range2
                exact rfl
              · exact rfl
              · exact rfl
              · exact rfl
              · exact rfl
            · exact rfl
          · walk_at "at"
          · exact rfl
          · decide +kernel
          · exact rfl
          · exact hsz [1] (fun g x => colV s v ((x + g * 0).fmod 6)) (by decide)
          · intro cenv X' j hx
            have hx : j = 1 ∨ j = 2 := by simp at hx; lia
            apply ex_mk5
            · walk_at "at"
            · walk_at "at"
            · intro ω κ
              apply it_list
              walk_at "ev"
            · intro _; rfl
            · intro y hy
              apply ex_mk3
              · walk_at "at"
              · walk_at "at"
              · intro ω κ
                have e : (y + (j * 0).fmod 6).fmod 6 = (y + j * 0).fmod 6 := by rw [Int.fmod_eq_emod_of_nonneg _ (by decide), Int.fmod_eq_emod_of_nonneg _ (by decide), Int.fmod_eq_emod_of_nonneg _ (by decide)]; lia
                have ht : (j * 0).fmod 6 = 0 ∨ (j * 0).fmod 6 = 2 ∨ (j * 0).fmod 6 = 3 ∨ (j * 0).fmod 6 = 4 := by rcases hx with rfl | rfl <;> decide
                have D := d_turn K0 hs hv (hm y hy) ht
                rw [e] at D
                apply ev_callD (R := is (colV s v ((y + j * 0).fmod 6)))
                · walk_at "ev"
                · exact D
                · decide
                · exact rfl
                · exact rfl
        · exact op_add_list (hszL [1] (by decide) (fun g x => colV s v ((x + g * 0).fmod 6)) _ (by rw [List.length_map]))
      · show PV.list _ = PV.list _
        rw [sxStep, ef, et, List.map_append, List.map_flatMap]
        simp only [List.map_map]
        rfl
    · walk_at "at"
    · decide +kernel
    · decide +kernel
    · walk_at "rfl"
  apply ex_cons
  · apply ex_assign
    · apply ev_d (d' := lI (sxStep l 3))
      · apply ev_bin
        · walk_at "ev"
        · apply ev_compG
          apply comp2_ok (xs := [1]) (f := fun (g : Int) => .int g) (ys := fun _ => l) (f' := fun (x : Int) => .int x) (h := fun g x => .int ((x + g * 0).fmod 6))
          · apply it_eq
            · apply it_callTt
              · assumption
              · walk_at "ev"
              · apply fi_range2
                exact rfl
              · exact rfl
              · exact rfl
              · exact rfl
              · exact rfl
            · exact rfl
          · walk_at "at"
          · exact rfl
          · decide +kernel
          · exact rfl
          · exact hsz [1] (fun g x => .int ((x + g * 0).fmod 6)) (by decide)
          · intro cenv X' j hx
            have hx : j = 1 ∨ j = 2 := by simp at hx; lia
            have hj : j.natAbs < 18446744073709551616 := by lia
            apply ex_mk5
            · walk_at "at"
            · walk_at "at"
            · intro ω κ
              apply it_list
              walk_at "ev"
            · intro _; rfl
            · intro y hy
              apply ex_mk3
              · walk_at "at"
              · walk_at "at"
              · intro ω κ
                walk_at "ev"
        · exact op_add_list (hszL [1] (by decide) (fun g x => .int ((x + g * 0).fmod 6)) _ (by rw [List.length_map]))
      · show PV.list _ = PV.list _
        rw [sxStep, ef, et, List.map_append, List.map_flatMap]
        simp only [List.map_map]
        rfl
    · walk_at "at"
    · decide +kernel
    · decide +kernel
    · walk_at "rfl"
  apply ex_fgt
  walk_at "at"
end
section
variable {C : Cx} {X : Addr → Prop} {κ : Addr → Option Obj} {env : Env} {q : Str} {doc pm cd : Value} {L f : Addr} {R : Vp}
theorem l_8 (he : env = callEnvC (fdOf (stAt pw 86) q doc pm cd) L f) (K : LawX C) (ks : List Int) (s v : Int) (P : Vp) (p1 p2 p3 p4 p5 p6 p7 : Vp) (Hd : Addr) (hk : ks.length = 3) (hks : ∀ k ∈ ks, okK k) (hs : s = 1 ∨ s = 2 ∨ s = 3 ∨ s = 4) (hv : v = 1 ∨ v = 2 ∨ v = 3 ∨ v = 4) :
    EX C 40 X (FS C env nmS nmS (scOf (stAt pw 86)) X [none, none, none, some (is (lI ks)), some (p1), none, some (p2), none, some (p3), some (p4), some (p5), some (p6), some (p7), some (P), some (is (.list ((sxF ks 0).map (colV s v)))), some (is (lI (sxF ks 0))), some (tabV Hd), none, none, none, none, none, none, none, none, none, none, none, none, none, none, none, none, none, none] [(Hd, [])] κ) (execs [inSt pw 86 8] env)
    (FS C env nmS nmS (scOf (stAt pw 86)) X [none, none, none, some (is (lI ks)), some (p1), none, some (p2), none, some (p3), some (p4), some (p5), some (p6), some (p7), some (P), some (is (.list ((sxF ks 3).map (colV s v)))), some (is (lI (sxF ks 3))), some (tabV Hd), none, none, none, none, none, none, none, none, none, none, none, none, none, none, none, none, none, none] [(Hd, [])] κ) R := by
  have K0 := K.toLawK
  have g1 := K.range
  show EX _ _ _ _ (execs [.For _ _ _ _ _] _) _ _
  apply exs_forV (ρs := fun i => [none, none, none, some (is (lI ks)), some (p1), none, some (p2), none, some (p3), some (p4), some (p5), some (p6), some (p7), some (P), some (is (.list ((sxF ks i).map (colV s v)))), some (is (lI (sxF ks i))), some (tabV Hd), none, none, none, none, none, none, none, none, none, none, none, none, none, none, none, none, none, none]) (ωs := fun _ => [(Hd, [])]) rfl rfl
  · apply it_list
    walk_at "ev"
  · intro i; rfl
  · intro b hb κ' i d hdd
    have hb' : b = [setSub (subOf ((forBody (inSt pw 86 8)).getD 0 (.Pass default))) ((forBody (inSt pw 86 8)).getD 0 (.Pass default)), (forBody (inSt pw 86 8)).getD 1 (.Pass default), (forBody (inSt pw 86 8)).getD 2 (.Pass default)] := hb.trans rfl
    clear hb
    rw [List.getElem?_map] at hdd
    cases hki : ks[i]? with
    | none => rw [hki] at hdd; cases hdd
    | some k =>
      rw [hki] at hdd; cases hdd
      have hlt := (List.getElem?_eq_some_iff.mp hki).1
      have hkk := hks k (List.mem_of_getElem? hki)
      have hm := sxF_mem ks i
      have hl := sxF_len ks i
      have hl9 : (sxF ks i).length ≤ 9 := by
        have : i = 0 ∨ i = 1 ∨ i = 2 := by lia
        rcases this with rfl | rfl | rfl <;> exact Nat.le_trans hl (by decide)
      show ∃ ρ', _ ∧ EX _ _ _ _ _ (FS C env nmS nmS (scOf (stAt pw 86)) X [none, none, none, some (is (lI ks)), some (p1), none, some (p2), none, some (p3), some (p4), some (p5), some (p6), some (p7), some (P), some (is (.list ((sxF ks (i + 1)).map (colV s v)))), some (is (lI (sxF ks (i + 1)))), some (tabV Hd), none, none, none, none, none, none, none, none, none, none, none, none, none, none, none, none, none, none] [(Hd, [])] κ') _
      rw [sxF_succ hki]
      generalize sxF ks i = l at hm hl hl9 ⊢
      apply ex_mk
      · walk_at "at"
      rcases hkk with rfl | rfl | rfl | rfl
      · have h := l_8k0 (κ := κ') (X := X) (R := R) he K ks l s v P p1 p2 p3 p4 p5 p6 p7 Hd hs hv hm hl9 (e := subOf ((forBody (inSt pw 86 8)).getD 0 (.Pass default))) kindsE (b := b) hb'
        assumption
      · have h := l_8k1 (κ := κ') (X := X) (R := R) he K ks l s v P p1 p2 p3 p4 p5 p6 p7 Hd hs hv hm hl9 (e := subOf ((forBody (inSt pw 86 8)).getD 0 (.Pass default))) kindsE (b := b) hb'
        assumption
      · have h := l_8k2 (κ := κ') (X := X) (R := R) he K ks l s v P p1 p2 p3 p4 p5 p6 p7 Hd hs hv hm hl9 (e := subOf ((forBody (inSt pw 86 8)).getD 0 (.Pass default))) kindsE (b := b) hb'
        assumption
      · have h := l_8k3 (κ := κ') (X := X) (R := R) he K ks l s v P p1 p2 p3 p4 p5 p6 p7 Hd hs hv hm hl9 (e := subOf ((forBody (inSt pw 86 8)).getD 0 (.Pass default))) kindsE (b := b) hb'
        assumption
  · show EX _ _ _ _ _ (FS C _ _ _ _ _ _ _ _) _
    rw [List.length_map, hk]
    apply ex_fgt
    walk_at "at"
end
section
open PySem.NumText
theorem best_gt {a b c : Int} : bestP gtP [.int a, .int b, .int c] = .int (mxI a b c) := by
  rw [best3]
  simp only [gtP, mxI, decide_eq_true_eq]
  by_cases h : b > a <;> simp only [h, if_true, if_false, decide_eq_true_eq] <;> split <;> rfl
theorem best_lt {a b c : Int} : bestP ltP [.int a, .int b, .int c] = .int (mnI a b c) := by
  rw [best3]
  simp only [ltP, mnI, decide_eq_true_eq]
  by_cases h : b < a <;> simp only [h, if_true, if_false, decide_eq_true_eq] <;> split <;> rfl
noncomputable def rgbP (a b c : Int) : List (Str × Int) := [(sQ "r", a), (sQ "g", b), (sQ "b", c)]
noncomputable def litP (a b c : Int) (q : Str × Int) : Bool := decide (mxI a b c + mnI a b c < 2 * q.2)
noncomputable def litF (a b c : Int) : List Str := ((rgbP a b c).filter (litP a b c)).map (·.1)
noncomputable def nmJ (j : Int) : Str := if j = 0 then sQ "r" else if j = 1 then sQ "rg" else if j = 2 then sQ "g" else if j = 3 then sQ "gb" else if j = 4 then sQ "b" else sQ "rb"
theorem name_fin : q4.all (fun s => q4.all fun v => q6.all fun x => decide (Builtin.Str.glued (sQ "") (litF (colT s v x).1 (colT s v x).2.1 (colT s v x).2.2) = nmJ x)) = true := by decide +kernel
theorem name_ok {s v x : Int} (hs : s = 1 ∨ s = 2 ∨ s = 3 ∨ s = 4) (hv : v = 1 ∨ v = 2 ∨ v = 3 ∨ v = 4) (hx : x ∈ q6) : Builtin.Str.glued (sQ "") (litF (colT s v x).1 (colT s v x).2.1 (colT s v x).2.2) = nmJ x := by
  have hs' : s ∈ q4 := by rcases hs with rfl | rfl | rfl | rfl <;> decide
  have hv' : v ∈ q4 := by rcases hv with rfl | rfl | rfl | rfl <;> decide
  exact of_decide_eq_true (List.all_eq_true.mp (List.all_eq_true.mp (List.all_eq_true.mp name_fin s hs') v hv') x hx)
theorem nm_fin : q6.all (fun x => decide ((nmJ x).cps.size ≤ 2) && decide ((uppT (nmJ x)).cps.size ≤ 2) && noHit codeN (nmJ x).cps 0 && noHit codeN (uppT (nmJ x)).cps 0 && decide (lowT (nmJ x) = nmJ x) && decide (lowT (uppT (nmJ x)) = nmJ x) && !Builtin.Str.tooLong (placed (nmJ x) fun _ c => Unicode.upperOf c).size && !Builtin.Str.tooLong (placed (uppT (nmJ x)) fun i _ => Unicode.lowerAt (uppT (nmJ x)).cps i).size) = true := by decide +kernel
structure NmOk (x : Int) : Prop where
  s1 : (nmJ x).cps.size ≤ 2
  s2 : (uppT (nmJ x)).cps.size ≤ 2
  h1 : noHit codeN (nmJ x).cps 0 = true
  h2 : noHit codeN (uppT (nmJ x)).cps 0 = true
  l1 : lowT (nmJ x) = nmJ x
  l2 : lowT (uppT (nmJ x)) = nmJ x
  t1 : Builtin.Str.tooLong (placed (nmJ x) fun _ c => Unicode.upperOf c).size = false
  t2 : Builtin.Str.tooLong (placed (uppT (nmJ x)) fun i _ => Unicode.lowerAt (uppT (nmJ x)).cps i).size = false
theorem nm_ok {x : Int} (hx : x ∈ q6) : NmOk x := by
  have h := List.all_eq_true.mp nm_fin x hx
  simp only [Bool.and_eq_true, decide_eq_true_eq, Bool.not_eq_true'] at h
  obtain ⟨⟨⟨⟨⟨⟨⟨a, b⟩, c⟩, d⟩, e⟩, f⟩, g⟩, i⟩ := h
  exact ⟨a, b, c, d, e, f, g, i⟩
theorem nm_inj : q6.all (fun x => q6.all fun y => (nmJ x == nmJ y) == (x == y)) = true := by decide +kernel
theorem nm_beq {x y : Int} (hx : x ∈ q6) (hy : y ∈ q6) : (nmJ x == nmJ y) = (x == y) := beq_iff_eq.mp (List.all_eq_true.mp (List.all_eq_true.mp nm_inj x hx) y hy)
noncomputable def okC (c : Nat) : Bool := c == 45 || (48 ≤ c && c ≤ 57)
noncomputable def okL : List Nat := [45, 48, 49, 50, 51, 52, 53, 54, 55, 56, 57]
theorem oMe {c : Nat} (h : okC c = true) : c ∈ okL := by
  have hb : c < 128 := by
    simp only [okC, Bool.or_eq_true, Bool.and_eq_true, beq_iff_eq, decide_eq_true_eq] at h
    lia
  exact (by decide +kernel : ∀ c < 128, okC c = true → c ∈ okL) c hb h
theorem inSV {c : Nat} (h : okC c = true) (seen : Sre.Seen) : Sre.inSet codeV c codeV.size 5 true seen = .ok (false, (seen.add 9).add 0) := by
  have h := oMe h
  simp only [okL, List.mem_cons, List.not_mem_nil, or_false] at h
  rcases h with rfl | rfl | rfl | rfl | rfl | rfl | rfl | rfl | rfl | rfl | rfl <;> rfl
theorem aNo {m : Sre.M} {g : Sre.Seen → Sre.Seen} (ht : ∀ c ∈ m.text.toList, okC c = true) (hl : m.lim = m.text.size) (hin : ∀ c, okC c = true → ∀ seen, Sre.inSet m.code c m.code.size 5 true seen = .ok (false, g seen)) :
    ∀ (fuel s : Nat) (seen : Sre.Seen), ∃ seen', Sre.M.admitted m fuel s seen = .ok (none, seen') := by
  intro fuel
  induction fuel with
  | zero => exact fun s seen => ⟨seen, rfl⟩
  | succ k ih =>
    intro s seen
    unfold Sre.M.admitted
    by_cases hs : s ≥ m.lim
    · rw [if_pos hs]; exact ⟨seen, rfl⟩
    · rw [if_neg hs]
      have hlt : s < m.text.size := by lia
      have hc : okC (m.text.getD s 0) = true := by
        apply ht
        simp [Array.getD, hlt]
      rw [hin _ hc]
      exact ih (s + 1) _
theorem aOf {m : Sre.M} {code t : Array Nat} {g : Sre.Seen → Sre.Seen} {fuel s : Nat} {seen : Sre.Seen} {r : Except String (Option Nat × Sre.Seen)} (h : Sre.M.admitted m fuel s seen = r) (hc : m.code = code) (hx : m.text = t) (hl : m.lim = t.size) (ht : ∀ c ∈ t.toList, okC c = true) (hin : ∀ c, okC c = true → ∀ seen, Sre.inSet code c code.size 5 true seen = .ok (false, g seen)) : ∃ seen', r = .ok (none, seen') := by
  subst hc hx h
  exact aNo ht hl hin fuel s seen
theorem dSa {m : Sre.M} (ha : m.answer = some false) (hf : m.frames = []) (ho : m.outcome = none) : ∃ m', driveP 400 m = some m' ∧ missed m' = true := by
  obtain ⟨⟩ := m
  cases ha; cases hf; cases ho
  exact ⟨_, rfl, rfl⟩
theorem nHo {code t : Array Nat} {g : Sre.Seen → Sre.Seen} (ht : ∀ c ∈ t.toList, okC c = true) (hin : ∀ c, okC c = true → ∀ seen, Sre.inSet code c code.size 5 true seen = .ok (false, g seen))
    (hset : (match Sre.ops[code.getD 0 0]? with | some .INFO => true | _ => false) && code.getD 2 0 == 4) : noHit code t 0 = true := by
  have key : ∃ m', driveP 400 (Sre.forSearch code t 0 0 t.size false) = some m' ∧ missed m' = true := by
    unfold Sre.forSearch
    dsimp only
    split
    · exact dSa rfl rfl rfl
    · unfold Sre.M.attemptFrom
      have hf : ∀ m : Sre.M, m.code = code → m.hasFirstSet = true := fun m e => by
        unfold Sre.M.hasFirstSet; rw [e]; exact hset
      rw [hf _ rfl]
      simp only [Bool.not_true, Bool.false_eq_true, if_false]
      split
      · rename_i h
        obtain ⟨_, e⟩ := aOf h rfl rfl rfl ht hin
        cases e
      · exact dSa rfl rfl rfl
      · rename_i h
        obtain ⟨_, e⟩ := aOf h rfl rfl rfl ht hin
        cases e
  obtain ⟨m', e1, e2⟩ := key
  unfold noHit
  rw [e1]
  exact e2
theorem nHV {t : Array Nat} (ht : ∀ c ∈ t.toList, okC c = true) : noHit codeV t 0 = true := nHo ht (fun _ h => inSV h) rfl
noncomputable def nC (a : Int) : List Nat := (numT a).cps.toList
theorem nNa (m : Nat) : nC m = (Nat.toDigits 10 m).map Char.toNat := KIN.signs_num m
theorem nNe (m : Nat) : nC (Int.negSucc m) = 45 :: nC ((m + 1 : Nat) : Int) := by
  rw [nNa]
  unfold nC numT
  rw [signs_ofString]
  show ("-" ++ Nat.repr (m + 1)).toList.map Char.toNat = _
  rw [String.toList_append, List.map_append, Nat.toList_repr]
  rfl
theorem nVa (m : Nat) : digitsVal (nC m) = m := by rw [nNa]; exact KIN.val_back m
theorem nDi (m : Nat) : ∀ c ∈ nC (m : Int), 48 ≤ c ∧ c ≤ 57 := by
  intro c hc
  rw [nNa] at hc
  obtain ⟨ch, hch, e⟩ := List.mem_map.mp hc
  have r := Nat.isDigit_of_mem_toDigits (by decide) (by decide) hch
  rw [← e]
  simp only [Char.isDigit, Bool.and_eq_true, decide_eq_true_eq] at r
  exact ⟨r.1, r.2⟩
theorem nSi (a : Int) : ∀ c ∈ nC a, c = 45 ∨ (48 ≤ c ∧ c ≤ 57) := by
  match a with
  | .ofNat m => exact fun c hc => .inr (nDi m c hc)
  | .negSucc m =>
    rw [nNe]
    intro c hc
    rcases List.mem_cons.mp hc with rfl | hc
    · exact .inl rfl
    · exact .inr (nDi (m + 1) c hc)
theorem nEm (m : Nat) : nC (m : Int) ≠ [] := fun e => by
  rw [nNa] at e
  have h := Nat.length_toDigits_pos (b := 10) (n := m)
  rw [List.map_eq_nil_iff.mp e] at h
  exact absurd h (by decide)
theorem nLe (m : Nat) (h : m < 10 ^ 9) : (nC (m : Int)).length ≤ 9 := by
  rw [nNa, List.length_map]
  exact (Nat.length_toDigits_le_iff (by decide) (by decide)).mpr h
theorem num_ok {a : Int} (h1 : -1000 ≤ a) (h2 : a ≤ 1040) : noHit codeV (numT a).cps 0 = true ∧ (numT a).cps.size ≤ 10 ∧ PySem.intText? (numT a) = some a := by
  have hl : (numT a).cps.size = (nC a).length := rfl
  refine ⟨nHV fun c hc => ?_, ?_⟩
  · rcases nSi a c hc with rfl | h
    · rfl
    · simp [okC, h.1, h.2]
  rw [hl]
  cases a with
  | ofNat m =>
    have h := nLe m (by lia)
    exact ⟨Nat.le_succ_of_le h, (intText_digits (x := numT (m : Int)) (nDi m) (nEm m) (Nat.le_trans h (by decide))).trans (congrArg (fun k : Nat => some (k : Int)) (nVa m))⟩
  | negSucc m =>
    have h := Nat.succ_le_succ (nLe (m + 1) (by lia))
    have e : (nC (Int.negSucc m)).length ≤ 10 := by rw [nNe]; exact h
    exact ⟨e, (intText_neg (x := numT (Int.negSucc m)) (nNe m) (nDi (m + 1)) (nEm (m + 1)) (Nat.le_trans e (by decide))).trans (congrArg (fun k : Nat => some (-(k : Int))) (nVa (m + 1)))⟩
end
noncomputable def nmC (x : Int) (k : Nat) : Str := if k % 2 = 0 then nmJ x else uppT (nmJ x)
noncomputable def hsF (b : Int) (l : List Int) (n : Nat) : List (Str × Str) := (List.range n).map fun k => (nmC (l.getD k 0) k, numT (b + k))
theorem hsF_succ (b : Int) (l : List Int) (n : Nat) : hsF b l (n + 1) = hsF b l n ++ [(nmC (l.getD n 0) n, numT (b + n))] := by
  unfold hsF
  rw [List.range_succ, List.map_append]; rfl
noncomputable abbrev nmL6 : PV := .tup [.str (nmJ 0), .str (nmJ 1), .str (nmJ 2), .str (nmJ 3), .str (nmJ 4), .str (nmJ 5)]
section
variable {C : Cx} {X : Addr → Prop} {κ : Addr → Option Obj} {env : Env} {q : Str} {doc pm cd : Value} {L f : Addr} {R : Vp}
theorem l_9 (he : env = callEnvC (fdOf (stAt pw 86) q doc pm cd) L f) (P : Vp) (p1 p2 p3 p4 p5 p6 p7 p8 p9 p10 : Vp) (Hd : Addr) :
    EX C 40 X (FS C env nmS nmS (scOf (stAt pw 86)) X [none, none, none, some (p8), some (p1), none, some (p2), none, some (p3), some (p4), some (p5), some (p6), some (p7), some (P), some (p9), some (p10), some (tabV Hd), none, none, none, none, none, none, none, none, none, none, none, none, none, none, none, none, none, none] [(Hd, [])] κ) (execs [inSt pw 86 9] env)
    (FS C env nmS nmS (scOf (stAt pw 86)) X [none, none, none, some (p8), some (p1), none, some (p2), none, some (p3), none, none, some (p6), some (p7), some (P), some (p9), some (p10), some (tabV Hd), none, none, none, some (is nmL6), none, none, none, none, none, none, none, none, none, none, none, none, none, none] [(Hd, [])] κ) R := by
  show EX _ _ _ _ (execs [.Assign [_] (.Tuple [_, _, _, _, _, _] _ _) _] _) _ _
  apply ex_cons
  · apply ex_assign
    · apply ev_d (d' := nmL6)
      · walk_at "ev"
      · rfl
    · walk_at "at"
    · decide +kernel
    · decide +kernel
    · walk_at "rfl"
  apply ex_fgt
  walk_at "at"
theorem enum_at {l : List Int} {h : Int → PV} {i : Nat} {d : PV} (e : (enumL (l.map h))[i]? = some d) : i < l.length ∧ d = .tup [.int i, h (l.getD i 0)] := by
  unfold enumL at e
  rw [List.getElem?_map, List.getElem?_zipIdx, List.getElem?_map] at e
  cases g : l[i]? with
  | none => rw [g] at e; cases e
  | some x =>
    rw [g] at e
    have hlt := (List.getElem?_eq_some_iff.mp g).1
    refine ⟨hlt, ?_⟩
    have : l.getD i 0 = x := by rw [List.getD_eq_getElem?_getD, g]; rfl
    rw [this]
    simp at e
    exact e.symm
theorem l_10 (he : env = callEnvC (fdOf (stAt pw 86) q doc pm cd) L f) (K : LawX C) (H : HdrK C) (l : List Int) (b s v : Int) (P : Vp) (p1 p2 p6 p7 p8 p10 : Vp) (Hd : Addr) (hs : s = 1 ∨ s = 2 ∨ s = 3 ∨ s = 4) (hv : v = 1 ∨ v = 2 ∨ v = 3 ∨ v = 4) (hm : ∀ x ∈ l, x ∈ q6) (hl : l.length ≤ 27) (hb1 : -1000 ≤ b) (hb2 : b ≤ 1000) :
    EX C 40 X (FS C env nmS nmS (scOf (stAt pw 86)) X [none, none, none, some (p8), some (p1), none, some (p2), none, some (is (.int b)), none, none, some (p6), some (p7), some (P), some (is (.list (l.map (colV s v)))), some (p10), some (tabV Hd), none, none, none, some (is nmL6), none, none, none, none, none, none, none, none, none, none, none, none, none, none] [(Hd, [])] κ) (execs [inSt pw 86 10] env)
    (FS C env nmS nmS (scOf (stAt pw 86)) X [none, none, none, some (p8), some (p1), none, some (p2), none, some (is (.int b)), none, none, some (p6), some (p7), some (P), none, some (p10), some (tabV Hd), none, none, none, some (is nmL6), none, none, none, none, none, none, none, none, none, none, none, none, none, none] [(Hd, (hsF b l l.length).map hpV)] κ) R := by
  have g1 := K.enumerate
  have g2 := K.zip
  have g3 := K.max
  have g4 := K.min
  have g5 := K.str
  show EX _ _ _ _ (execs [.For _ _ [.Assign [_] _ _, .Expr _ _] _ _] _) _ _
  apply exs_for (ρs := fun i => [none, none, none, some (p8), some (p1), none, some (p2), none, some (is (.int b)), none, none, some (p6), some (p7), some (P), some (is (.list (l.map (colV s v)))), some (p10), some (tabV Hd), none, none, none, some (is nmL6), none, none, none, none, none, none, none, none, none, none, none, none, none, none]) (ωs := fun i => [(Hd, (hsF b l i).map hpV)]) rfl rfl
  · apply it_callTt
    · assumption
    · walk_at "ev"
    · exact fi_enum
    · exact rfl
    · exact rfl
    · exact rfl
    · exact rfl
  · intro i; rfl
  · intro κ' i d hdd
    obtain ⟨hlt, rfl⟩ := enum_at hdd
    have hgi : l[i]? = some (l.getD i 0) := by
      rw [List.getD_eq_getElem?_getD, List.getElem?_eq_getElem hlt]; rfl
    have hx := hm _ (List.mem_of_getElem? hgi)
    have hN := nm_ok hx
    have hname := name_ok hs hv hx
    have hnum := num_ok (a := b + i) (by lia) (by lia)
    have hc := colT_small (x := l.getD i 0) hs hv
    show ∃ ρ', _ ∧ EX _ _ _ _ _ (FS C env nmS nmS (scOf (stAt pw 86)) X [none, none, none, some (p8), some (p1), none, some (p2), none, some (is (.int b)), none, none, some (p6), some (p7), some (P), some (is (.list (l.map (colV s v)))), some (p10), some (tabV Hd), none, none, none, some (is nmL6), none, none, none, none, none, none, none, none, none, none, none, none, none, none] [(Hd, (hsF b l (i + 1)).map hpV)] κ') _
    rw [hsF_succ, List.map_append]
    show ∃ ρ', _ ∧ EX _ _ _ _ _ (FS C _ _ _ _ _ _ [(Hd, (hsF b l i).map hpV ++ [hpV (nmC (l.getD i 0) i, numT (b + i))])] κ') _
    have hhl : ((hsF b l i).map hpV).length ≤ sizeLine := by rw [List.length_map, hsF, List.length_map, List.length_range, sizeLine_eq]; lia
    generalize (hsF b l i).map hpV = hs0 at hhl ⊢
    generalize l.getD i 0 = x at hx hN hname hc ⊢
    apply ex_mk
    · show Tgt _ _ _ (.Tuple [_, _] _ _) (.tup [_, _]) _ _
      walk_at "at"
    show EX _ _ _ (FS C env nmS nmS (scOf (stAt pw 86)) X [none, none, none, some (p8), some (p1), none, some (p2), none, some (is (.int b)), none, none, some (p6), some (p7), some (P), some (is (.list (l.map (colV s v)))), some (p10), some (tabV Hd), none, none, some (is (li3 (colT s v x).1 (colT s v x).2.1 (colT s v x).2.2)), some (is nmL6), some (is (.int i)), none, none, none, none, none, none, none, none, none, none, none, none, none] _ _) _ _ _
    generalize (colT s v x).1 = c1 at hname hc ⊢
    generalize (colT s v x).2.1 = c2 at hname hc ⊢
    generalize (colT s v x).2.2 = c3 at hname hc ⊢
    apply ex_cons
    · apply ex_assign
      · apply ev_d (d' := .str (nmJ x))
        · apply ev_meth
          · walk_at "ev"
          · exact hasM_join
          · apply el_cons
            · apply ev_d (d' := .list ((litF c1 c2 c3).map .str))
              · apply ev_comp1if
                apply comp1if_ok (xs := rgbP c1 c2 c3) (f := fun (q : Str × Int) => .tup [.str q.1, .int q.2]) (h := fun q => .str q.1) (p := litP c1 c2 c3)
                · apply it_eq
                  · apply it_callTt
                    · assumption
                    · walk_at "ev"
                    · apply fi_zipSL
                      · decide +kernel
                      · exact rfl
                    · exact rfl
                    · exact rfl
                    · exact rfl
                    · exact rfl
                  · exact rfl
                · walk_at "at"
                · exact rfl
                · decide +kernel
                · exact rfl
                · exact Nat.le_of_ble_eq_true rfl
                · intro cenv X' j hj
                  apply ex_mk4
                  · walk_at "at"
                  · walk_at "at"
                  · intro ω κ
                    apply tv_cmp
                    · walk_at "ev"
                    · apply ev_bin
                      · apply ev_callBt (R := is (.int (mxI c1 c2 c3)))
                        · assumption
                        · walk_at "ev"
                        · apply fn_eq
                          · apply fn_max_list
                            · exact rfl
                            · exact List.cons_ne_nil _ _
                          · rw [best_gt]
                        · exact rfl
                        · exact rfl
                      · apply ev_callBt (R := is (.int (mnI c1 c2 c3)))
                        · assumption
                        · walk_at "ev"
                        · apply fn_eq
                          · apply fn_min_list
                            · exact rfl
                            · exact List.cons_ne_nil _ _
                          · rw [best_lt]
                        · exact rfl
                        · exact rfl
                      · walk_at "op"
                    · exact op_gt_int
                    · exact rfl
                  · intro _ ω κ
                    walk_at "ev"
              · show PV.list _ = PV.list _
                rw [litF, List.map_map]; rfl
            · walk_at "ev"
            · exact rfl
          · apply fn_join
            · rw [hname, sizeLine_eq]
              have := hN.s1
              show (nmJ x).cps.size ≤ _
              lia
            · have h3 : (litF c1 c2 c3).length ≤ 3 := by
                rw [litF, List.length_map]
                exact List.length_filter_le _ _
              have : ∀ (l : List Str) (n : Nat), (∀ y ∈ l, y.length ≤ 1) → l.foldl (· + ·.length + (sQ "").length) n ≤ n + l.length := by
                intro l
                induction l with
                | nil => intro n _; exact Nat.le_refl _
                | cons y l ih =>
                  intro n h
                  rw [List.foldl_cons]
                  have h1 := ih (n + y.length + (sQ "").length) fun z hz => h z (.tail _ hz)
                  have h2 := h y (.head _)
                  have h4 : (sQ "").length = 0 := rfl
                  rw [List.length_cons]
                  lia
              have h5 := this (litF c1 c2 c3) 0 fun y hy => by
                rw [litF] at hy
                obtain ⟨z, hz, rfl⟩ := List.mem_map.mp hy
                have := (List.mem_filter.mp hz).1
                simp only [rgbP, List.mem_cons, List.not_mem_nil, or_false] at this
                rcases this with rfl | rfl | rfl
                · exact (by decide : (sQ "r").length ≤ 1)
                · exact (by decide : (sQ "g").length ≤ 1)
                · exact (by decide : (sQ "b").length ≤ 1)
              show decide (_ > sizeLine) = false
              rw [decide_eq_false_iff_not, sizeLine_eq]
              simp only [List.foldl_toArray'] at h5 ⊢
              lia
          · exact rfl
          · exact rfl
          · exact rfl
          · exact rfl
          · exact rfl
        · rw [hname]
      · walk_at "at"
      · decide +kernel
      · decide +kernel
      · walk_at "rfl"
    apply ex_cons
    · apply ex_add (H := Hd) H (a := nmC x i) (b := numT (b + i)) (hs := hs0) (hi := by rw [he]; rfl)
      · walk_at "at"
      · apply el_cons
        · have hj : seqIndex? ((i : Int).fmod 2) 2 = some (i % 2) := by
            have e : (i : Int).fmod 2 = ((i % 2 : Nat) : Int) := by rw [Int.fmod_eq_emod_of_nonneg _ (by decide)]; lia
            rw [e]; exact seqIndex_nat (by lia)
          have hb : -(2 ^ 63) ≤ (i : Int).fmod 2 ∧ (i : Int).fmod 2 < 2 ^ 63 := by
            rw [Int.fmod_eq_emod_of_nonneg _ (by decide)]; lia
          apply ev_sub
          · apply ev_tupL
            · apply el_cons
              · walk_at "ev"
              · apply el_cons
                · apply ev_meth0
                  · walk_at "ev"
                  · exact hasM_upper
                  · exact fn_upper hN.t1
                  · exact rfl
                  · exact rfl
                · walk_at "ev"
                · exact rfl
              · exact rfl
            · walk_at "at"
            · exact Nat.le_of_ble_eq_true rfl
          · walk_at "ev"
          · apply op_item_tup (j := i % 2) (d := .str (nmC x i))
            · exact hj
            · unfold nmC
              rcases Nat.mod_two_eq_zero_or_one i with h | h
              · rw [h]; rfl
              · rw [h]; rfl
            · exact hb.1
            · exact hb.2
        · apply el_cons
          · apply ev_callTt (R := is (.str (numT (b + i))))
            · assumption
            · walk_at "ev"
            · apply fn_str_int
              have : (b + i).natAbs < 2 ^ 11 := by lia
              rcases Nat.eq_zero_or_pos (b + i).natAbs with h0 | h0
              · rw [h0]; decide
              · have := (Nat.log2_lt (by lia)).mpr this
                lia
            · exact rfl
            · exact rfl
          · walk_at "ev"
          · exact rfl
        · exact rfl
      · exact OU.here
      · exact hhl
      · unfold nmC
        split
        · have := hN.s1; lia
        · have := hN.s2; lia
      · unfold nmC
        split
        · exact hN.h1
        · exact hN.h2
      · have := hnum.2.1; lia
      · exact hnum.1
    apply ex_fgt
    walk_at "at"
  · show EX _ _ _ (FS C _ _ _ _ _ _ [(Hd, (hsF b l (enumL (l.map (colV s v))).length).map hpV)] κ) _ _ _
    rw [show (enumL (l.map (colV s v))).length = l.length by rw [enumL, List.length_map, List.length_zipIdx, List.length_map]]
    apply ex_fgt
    walk_at "at"
end
section
variable {C : Cx} {X : Addr → Prop} {κ : Addr → Option Obj} {env : Env} {q : Str} {doc pm cd : Value} {L f : Addr} {R : Vp}
theorem l_7 (he : env = callEnvC (fdOf (stAt pw 86) q doc pm cd) L f) (K : LawX C) (H : HdrK C) (ks : List Int) (b s v : Int) (P : Vp) (p1 p2 p6 p7 : Vp) (hk : ks.length = 3) (hks : ∀ k ∈ ks, okK k) (hs : s = 1 ∨ s = 2 ∨ s = 3 ∨ s = 4) (hv : v = 1 ∨ v = 2 ∨ v = 3 ∨ v = 4) (hb1 : -1000 ≤ b) (hb2 : b ≤ 1000) :
    EX C 40 X (FS C env nmS nmS (scOf (stAt pw 86)) X [none, none, none, some (is (lI ks)), some (p1), none, some (p2), none, some (is (.int b)), some (is (.int s)), some (is (.int v)), some (p6), some (p7), some (P), none, none, none, none, none, none, none, none, none, none, none, none, none, none, none, none, none, none, none, none, none] [] κ) (execs [inSt pw 86 7, inSt pw 86 8, inSt pw 86 9, inSt pw 86 10] env)
    (FS C env nmS nmS (scOf (stAt pw 86)) X [none, none, none, some (is (lI ks)), some (p1), none, some (p2), none, some (is (.int b)), none, none, some (p6), some (p7), some (P), none, some (is (lI (sxF ks 3))), some (tabF ((hsF b (sxF ks 3) (sxF ks 3).length).map hpV)), none, none, none, some (is nmL6), none, none, none, none, none, none, none, none, none, none, none, none, none, none] [] κ) R := by
  have hm := sxF_mem ks 3
  have hl := sxF_len ks 3
  show EX _ _ _ _ (execs (.Assign [.Tuple [_, _, _] _ _] (.Tuple [_, _, _] _ _) _ :: [inSt pw 86 8, inSt pw 86 9, inSt pw 86 10]) _) _ _
  apply ex_tup
  · rw [he]; exact rfl
  · rw [he]; exact rfl
  · exact Nat.le_of_ble_eq_true rfl
  · apply TupK.val
    · apply ev_d (d' := .list ((sxF ks 0).map (colV s v)))
      · apply ev_listL
        · apply el_cons
          · apply ev_bin
            · walk_at "ev"
            · apply ev_bin
              · walk_at "ev"
              · walk_at "ev"
              · exact op_rep_l (k := 2) (by decide)
            · exact op_add_list (Nat.le_of_ble_eq_true rfl)
          · walk_at "ev"
          · exact rfl
        · walk_at "at"
        · exact Nat.le_of_ble_eq_true rfl
      · rfl
    · apply TupK.val
      · walk_at "ev"
      · apply TupK.own
        · exact evn_headers H rfl
        · intro Hd
          apply tk_nil rfl
          · show Bds _ _ _ _ [_, _, _] _ _
            walk_at "at"
          · refine ex_seq (a := [inSt pw 86 8]) (l_8 he K ks s v P p1 p2 (is (.int b)) (is (.int s)) (is (.int v)) p6 p7 Hd hk hks hs hv) ?_
            refine ex_seq (a := [inSt pw 86 9]) (l_9 he P p1 p2 (is (.int b)) (is (.int s)) (is (.int v)) p6 p7 (is (lI ks)) _ _ Hd) ?_
            refine ex_seq (a := [inSt pw 86 10]) (l_10 he K H (sxF ks 3) b s v P p1 p2 p6 p7 (is (lI ks)) _ Hd hs hv hm (by simpa using hl) hb1 hb2) ?_
            apply ex_freezeT (a := Hd) (ds := (hsF b (sxF ks 3) (sxF ks 3).length).map hpV)
            · exact OF.here
            · repeat (first | exact Rtb.nil | apply Rtb.it | apply Rtb.same)
            · exact ex_nil
        · exact rfl
      · exact rfl
    · exact rfl
end
theorem enumL_range (l : List Int) : enumL (l.map .int) = (List.range l.length).map fun k => .tup [.int k, .int (l.getD k 0)] := by
  apply List.ext_getElem?
  intro i
  unfold enumL
  rw [List.getElem?_map, List.getElem?_map, List.getElem?_zipIdx, List.getElem?_map]
  cases g : l[i]? with
  | none =>
    have : l.length ≤ i := by rwa [List.getElem?_eq_none_iff] at g
    rw [List.getElem?_eq_none (by simpa using this)]; rfl
  | some x =>
    have hlt := (List.getElem?_eq_some_iff.mp g).1
    rw [List.getElem?_range hlt]
    simp [List.getD_eq_getElem?_getD, g]
noncomputable def idxs (l : List Int) (j : Int) : List Nat := (List.range l.length).filter fun k => l.getD k 0 == j
theorem getD_mem6 {l : List Int} (hm : ∀ x ∈ l, x ∈ q6) {k : Nat} (h : k < l.length) : l.getD k 0 ∈ q6 := by
  apply hm
  rw [List.getD_eq_getElem?_getD, List.getElem?_eq_getElem h]
  exact List.getElem_mem h
theorem low_nmC {x : Int} (hx : x ∈ q6) (k : Nat) : lowT (nmC x k) = nmJ x := by
  unfold nmC
  split
  · exact (nm_ok hx).l1
  · exact (nm_ok hx).l2
theorem told_eq {l : List Int} (hm : ∀ x ∈ l, x ∈ q6) (b : Int) {j : Int} (hj : j ∈ q6) :
    ((hsF b l l.length).filter fun p => lowT p.1 == lowT (uppT (nmJ j))).map (fun p => PV.str p.2) = (idxs l j).map fun (k : Nat) => .str (numT (b + k)) := by
  unfold hsF idxs
  rw [List.filter_map, List.map_map]
  have e : (List.range l.length).filter ((fun p : Str × Str => lowT p.1 == lowT (uppT (nmJ j))) ∘ fun k => (nmC (l.getD k 0) k, numT (b + k))) = (List.range l.length).filter fun k => l.getD k 0 == j := by
    apply List.filter_congr
    intro k hk
    have hx := getD_mem6 hm (List.mem_range.mp hk)
    show (lowT (nmC (l.getD k 0) k) == lowT (uppT (nmJ j))) = _
    rw [low_nmC hx, (nm_ok hj).l2, nm_beq hx hj]
  rw [e]; rfl
theorem okN_list {k : Nat} {α : Type} (l : List α) (h : α → PV) (hh : ∀ x ∈ l, okN k (h x) (h x) = true) : okN (k + 1) (.list (l.map h)) (.list (l.map h)) = true := by
  simp only [okN, bne_self_eq_false, Bool.false_or, List.all_eq_true]
  intro p hp
  obtain ⟨i, hi⟩ := List.mem_iff_getElem?.mp hp
  obtain ⟨h1, h2⟩ := List.getElem?_zip_eq_some.mp hi
  rw [List.getElem?_map] at h1 h2
  cases g : l[i]? with
  | none => rw [g] at h1; cases h1
  | some x =>
    obtain ⟨a, c⟩ := p
    rw [g] at h1 h2; cases h1; cases h2
    exact hh x (List.mem_of_getElem? g)
theorem log_small {a : Int} (h1 : -2000 ≤ a) (h2 : a ≤ 2000) : a.natAbs.log2 < 1920 := by
  have h : a.natAbs < 2 ^ 11 := by lia
  rcases Nat.eq_zero_or_pos a.natAbs with h0 | h0
  · rw [h0]; decide
  · have := (Nat.log2_lt (by lia)).mpr h
    lia
theorem q6_idx {x : Int} (hx : x ∈ q6) : seqIndex? x 6 = some x.toNat ∧ ([PV.str (nmJ 0), .str (nmJ 1), .str (nmJ 2), .str (nmJ 3), .str (nmJ 4), .str (nmJ 5)])[x.toNat]? = some (.str (nmJ x)) ∧ -(2 ^ 63) ≤ x ∧ x < 2 ^ 63 := by
  simp only [List.mem_cons, List.not_mem_nil, or_false] at hx
  rcases hx with rfl | rfl | rfl | rfl | rfl | rfl <;> exact ⟨rfl, rfl, by decide, by decide⟩
section
variable {C : Cx} {X : Addr → Prop} {κ : Addr → Option Obj} {env : Env} {q : Str} {doc pm cd : Value} {L f : Addr} {R : Vp}
theorem l_11 (he : env = callEnvC (fdOf (stAt pw 86) q doc pm cd) L f) (K : LawX C) (H : HdrK C) (l : List Int) (b : Int) (P : Vp) (p1 p2 p6 p7 p8 : Vp) (hm : ∀ x ∈ l, x ∈ q6) (hl : l.length ≤ 27) (hb1 : -1000 ≤ b) (hb2 : b ≤ 1000) :
    EX C 40 X (FS C env nmS nmS (scOf (stAt pw 86)) X [none, none, none, some (p8), some (p1), none, some (p2), none, some (is (.int b)), none, none, some (p6), some (p7), some (P), none, some (is (lI l)), some (tabF ((hsF b l l.length).map hpV)), none, none, none, some (is nmL6), none, none, none, none, none, none, none, none, none, none, none, none, none, none] [] κ) (execs [inSt pw 86 11] env)
    (FS C env nmS nmS (scOf (stAt pw 86)) X [none, none, none, some (p8), some (p1), none, some (p2), none, some (is (.int b)), none, none, some (p6), some (p7), some (P), none, some (is (lI l)), some (tabF ((hsF b l l.length).map hpV)), none, none, none, some (is nmL6), none, none, none, none, none, none, none, none, none, none, none, none, none, none] [] κ) R := by
  have g1 := K.enumerate
  have g5 := K.str
  have hlen : (hsF b l l.length).length = l.length := by rw [hsF, List.length_map, List.length_range]
  show EX _ _ _ _ (execs [.If (.Compare (.Call (.Attribute _ _ _) _ _ _) _ _ _) _ _ _] _) _ _
  apply ex_ifs (c := false)
  · apply tv_eq
    · apply tv_cmp
      · apply ev_items H
        · walk_at "at"
        · rw [List.length_map, hlen, sizeLine_eq]; lia
      · apply ev_d (d' := .list ((hsF b l l.length).map hpV))
        · apply ev_comp1
          apply comp1_ok (xs := List.range l.length) (f := fun (k : Nat) => .tup [.int k, .int (l.getD k 0)]) (h := fun k => hpV (nmC (l.getD k 0) k, numT (b + k)))
          · apply it_eq
            · apply it_callTt
              · assumption
              · walk_at "ev"
              · exact fi_enum
              · exact rfl
              · exact rfl
              · exact rfl
              · exact rfl
            · exact enumL_range l
          · walk_at "at"
          · exact rfl
          · decide +kernel
          · exact rfl
          · rw [List.length_range, sizeLine_eq]; lia
          · intro cenv X' j hj
            have hlt := List.mem_range.mp hj
            have hx := getD_mem6 hm hlt
            have hN := nm_ok hx
            have hq := q6_idx hx
            generalize l.getD j 0 = x at hx hN hq ⊢
            apply ex_mk3
            · walk_at "at"
            · walk_at "at"
            · intro ω κ
              have hj : seqIndex? ((j : Int).fmod 2) 2 = some (j % 2) := by
                have e : (j : Int).fmod 2 = ((j % 2 : Nat) : Int) := by rw [Int.fmod_eq_emod_of_nonneg _ (by decide)]; lia
                rw [e]; exact seqIndex_nat (by lia)
              have hb : -(2 ^ 63) ≤ (j : Int).fmod 2 ∧ (j : Int).fmod 2 < 2 ^ 63 := by
                rw [Int.fmod_eq_emod_of_nonneg _ (by decide)]; lia
              apply ev_tupL
              · apply el_cons
                · apply ev_sub
                  · apply ev_tupL
                    · apply el_cons
                      · apply ev_sub
                        · walk_at "ev"
                        · walk_at "ev"
                        · apply op_item_tup (j := x.toNat) (d := .str (nmJ x))
                          · exact hq.1
                          · exact hq.2.1
                          · exact hq.2.2.1
                          · exact hq.2.2.2
                      · apply el_cons
                        · apply ev_meth0
                          · apply ev_sub
                            · walk_at "ev"
                            · walk_at "ev"
                            · apply op_item_tup (j := x.toNat) (d := .str (nmJ x))
                              · exact hq.1
                              · exact hq.2.1
                              · exact hq.2.2.1
                              · exact hq.2.2.2
                          · exact hasM_upper
                          · exact fn_upper hN.t1
                          · exact rfl
                          · exact rfl
                        · walk_at "ev"
                        · exact rfl
                      · exact rfl
                    · walk_at "at"
                    · exact Nat.le_of_ble_eq_true rfl
                  · walk_at "ev"
                  · apply op_item_tup (j := j % 2) (d := .str (nmC x j))
                    · exact hj
                    · unfold nmC
                      rcases Nat.mod_two_eq_zero_or_one j with h | h
                      · rw [h]; rfl
                      · rw [h]; rfl
                    · exact hb.1
                    · exact hb.2
                · apply el_cons
                  · apply ev_callTt (R := is (.str (numT (b + j))))
                    · assumption
                    · walk_at "ev"
                    · exact fn_str_int (log_small (by lia) (by lia))
                    · exact rfl
                    · exact rfl
                  · walk_at "ev"
                  · exact rfl
                · exact rfl
              · walk_at "at"
              · exact Nat.le_of_ble_eq_true rfl
        · show PV.list _ = PV.list _
          rw [hsF, List.map_map]; rfl
      · exact op_ne_list 1 (by decide) (okN_list _ hpV fun _ _ => rfl)
      · exact rfl
    · rw [eqN_refl _ _ (okN_list _ hpV fun _ _ => rfl)]; rfl
  · intro h; cases h
  · intro _
    show EX _ _ _ _ (execs [] _) _ _
    exact ex_nil
theorem l_12 (he : env = callEnvC (fdOf (stAt pw 86) q doc pm cd) L f) (K : LawX C) (H : HdrK C) (l : List Int) (b : Int) (P : Vp) (p1 p2 p6 p7 p8 : Vp) (hm : ∀ x ∈ l, x ∈ q6) (hl : l.length ≤ 27) (hb1 : -1000 ≤ b) (hb2 : b ≤ 1000) :
    EX C 40 X (FS C env nmS nmS (scOf (stAt pw 86)) X [none, none, none, some (p8), some (p1), none, some (p2), none, some (is (.int b)), none, none, some (p6), some (p7), some (P), none, some (is (lI l)), some (tabF ((hsF b l l.length).map hpV)), none, none, none, some (is nmL6), none, none, none, none, none, none, none, none, none, none, none, none, none, none] [] κ) (execs [inSt pw 86 12] env)
    (FS C env nmS nmS (scOf (stAt pw 86)) X [none, none, none, some (p8), some (p1), none, some (p2), none, some (is (.int b)), none, none, some (p6), some (p7), some (P), none, some (is (lI l)), none, none, none, none, none, none, none, some (is (.list (q6.map fun j => .list ((idxs l j).map fun (k : Nat) => .str (numT (b + k)))))), none, none, none, none, none, none, none, none, none, none, none] [] κ) R := by
  have hlen : (hsF b l l.length).length = l.length := by rw [hsF, List.length_map, List.length_range]
  show EX _ _ _ _ (execs [.Assign [_] (.ListComp _ _ _ _) _] _) _ _
  apply ex_cons
  · apply ex_assign
    · apply ev_comp1
      apply comp1_ok (xs := q6) (f := fun (j : Int) => .str (nmJ j)) (h := fun j => .list ((idxs l j).map fun (k : Nat) => .str (numT (b + k))))
      · apply it_eq
        · apply it_tup
          walk_at "ev"
        · exact rfl
      · walk_at "at"
      · exact rfl
      · decide +kernel
      · exact rfl
      · exact Nat.le_of_ble_eq_true rfl
      · intro cenv X' j hx
        apply ex_mk3
        · walk_at "at"
        · walk_at "at"
        · intro ω κ
          have hN := nm_ok hx
          rw [← told_eq hm b hx]
          apply ev_getall H (hs := hsF b l l.length) (a := uppT (nmJ j))
          · walk_at "at"
          · apply el_cons
            · apply ev_meth0
              · walk_at "ev"
              · exact hasM_upper
              · exact fn_upper hN.t1
              · exact rfl
              · exact rfl
            · walk_at "ev"
            · exact rfl
          · rw [hlen, sizeLine_eq]; lia
          · rw [hN.l2]; have := hN.s1; lia
          · rw [hN.l2]; exact hN.h1
          · intro p hp
            rw [hsF] at hp
            obtain ⟨k, hk, rfl⟩ := List.mem_map.mp hp
            have hx' := getD_mem6 hm (List.mem_range.mp hk)
            show (lowT (nmC (l.getD k 0) k)).cps.size ≤ _
            rw [low_nmC hx']; have := (nm_ok hx').s1; lia
    · walk_at "at"
    · decide +kernel
    · decide +kernel
    · walk_at "rfl"
  apply ex_fgt
  walk_at "at"
theorem l_13 (he : env = callEnvC (fdOf (stAt pw 86) q doc pm cd) L f) (K : LawX C) (l : List Int) (b : Int) (P : Vp) (p1 p2 p6 p7 p8 : Vp) (hm : ∀ x ∈ l, x ∈ q6) (hl : l.length ≤ 27) (hb1 : -1000 ≤ b) (hb2 : b ≤ 1000) :
    EX C 40 X (FS C env nmS nmS (scOf (stAt pw 86)) X [none, none, none, some (p8), some (p1), none, some (p2), none, some (is (.int b)), none, none, some (p6), some (p7), some (P), none, some (is (lI l)), none, none, none, none, none, none, none, some (is (.list (q6.map fun j => .list ((idxs l j).map fun (k : Nat) => .str (numT (b + k)))))), none, none, none, none, none, none, none, none, none, none, none] [] κ) (execs [inSt pw 86 13] env)
    (FS C env nmS nmS (scOf (stAt pw 86)) X [none, none, none, some (p8), some (p1), none, some (p2), none, some (is (.int b)), none, none, some (p6), some (p7), some (P), none, some (is (lI l)), none, none, none, none, none, none, none, some (is (.list (q6.map fun j => .list ((idxs l j).map fun (k : Nat) => .str (numT (b + k)))))), none, none, none, none, none, none, none, none, none, none, none] [] κ) R := by
  have g1 := K.range
  have g2 := K.len
  have g5 := K.str
  have hok : okN 2 (.list (q6.map fun j => PV.list ((idxs l j).map fun (k : Nat) => .str (numT (b + k))))) (.list (q6.map fun j => PV.list ((idxs l j).map fun (k : Nat) => .str (numT (b + k))))) = true :=
    okN_list q6 _ fun j _ => okN_list _ _ fun k _ => rfl
  have hlm : (l.map PV.int).length < 2 ^ 62 := by rw [List.length_map]; lia
  show EX _ _ _ _ (execs [.If (.Compare (.Name _ _) _ [.ListComp _ _ _ _] _) _ _ _] _) _ _
  apply ex_ifs (c := false)
  · apply tv_eq
    · apply tv_cmp
      · walk_at "ev"
      · apply ev_d (d' := .list (q6.map fun j => .list ((idxs l j).map fun (k : Nat) => .str (numT (b + k)))))
        · apply ev_comp1
          apply comp1_ok (xs := List.range 6) (f := fun (j : Nat) => .int (0 + (j : Int))) (h := fun (j : Nat) => .list ((idxs l (0 + j)).map fun (k : Nat) => .str (numT (b + k))))
          · apply it_eq
            · apply it_callTt
              · assumption
              · walk_at "ev"
              · apply fi_range1
                exact rfl
              · exact rfl
              · exact rfl
              · exact rfl
              · exact rfl
            · exact rfl
          · walk_at "at"
          · exact rfl
          · decide +kernel
          · exact rfl
          · exact Nat.le_of_ble_eq_true rfl
          · intro cenv X' j hx
            apply ex_mk3
            · walk_at "at"
            · walk_at "at"
            · intro ω κ
              apply ev_comp1if
              apply comp1if_ok (xs := List.range l.length) (f := fun (k : Nat) => .int (0 + (k : Int))) (h := fun (k : Nat) => .str (numT (b + k))) (p := fun k => l.getD k 0 == (0 + (j : Int)))
              · apply it_eq
                · apply it_callTt
                  · assumption
                  · apply el_cons
                    · apply ev_callBt
                      · assumption
                      · walk_at "ev"
                      · exact fn_len_list hlm
                      · exact rfl
                      · exact rfl
                      · exact rfl
                      · exact rfl
                    · walk_at "ev"
                    · exact rfl
                  · exact fi_range1 (small_one (by decide) (by decide) (by lia) (by lia))
                  · exact rfl
                  · exact rfl
                  · exact rfl
                  · exact rfl
                · rw [List.length_map]; rfl
              · walk_at "at"
              · exact rfl
              · decide +kernel
              · exact rfl
              · rw [List.length_range, sizeLine_eq]; lia
              · intro cenv2 X2 k hk
                have hlt := List.mem_range.mp hk
                have hgi : (l.map PV.int)[k]? = some (.int (l.getD k 0)) := by
                  rw [List.getElem?_map, List.getD_eq_getElem?_getD, List.getElem?_eq_getElem hlt]; rfl
                apply ex_mk4
                · walk_at "at"
                · walk_at "at"
                · intro ω κ
                  apply tv_cmp
                  · apply ev_sub
                    · walk_at "ev"
                    · walk_at "ev"
                    · apply op_item_list (j := k) (d := .int (l.getD k 0))
                      · rw [Int.zero_add]; exact seqIndex_nat (by rw [List.length_map]; exact hlt)
                      · exact hgi
                      · exact hlm
                  · walk_at "ev"
                  · exact op_eq_int
                  · exact rfl
                · intro _ ω κ
                  apply ev_callTt (R := is (.str (numT (b + k))))
                  · assumption
                  · walk_at "ev"
                  · apply fn_eq
                    · exact fn_str_int (log_small (by lia) (by lia))
                    · rw [Int.zero_add]
                  · exact rfl
                  · exact rfl
        · rfl
      · exact op_ne_list 1 (by decide) hok
      · exact rfl
    · rw [eqN_refl _ _ hok]; rfl
  · intro h; cases h
  · intro _
    show EX _ _ _ _ (execs [] _) _ _
    exact ex_nil
end
theorem bits_le {m : Nat} {x : Int} (h : x.natAbs < 2 ^ m) : Builtin.Int.intBits x ≤ m := by
  unfold Builtin.Int.intBits
  split
  · exact Nat.zero_le _
  · rename_i h0
    have : x.natAbs.log2 < m := (Nat.log2_lt (by simpa using h0)).mpr h
    lia
theorem valD_lt {n : Nat} (hn : 1 ≤ n) : ∀ ds : List Int, (∀ d ∈ ds, 0 ≤ d ∧ d ≤ 1) → 0 ≤ valD n ds ∧ valD n ds < 2 ^ (n * ds.length)
  | [], _ => by simp [valD]
  | d :: ds, h => by
    obtain ⟨h1, h2⟩ := valD_lt hn ds fun x hx => h x (.tail _ hx)
    obtain ⟨h3, h4⟩ := h d (.head _)
    have e : (2 : Int) ^ (n * (ds.length + 1)) = 2 ^ n * 2 ^ (n * ds.length) := by rw [Nat.mul_succ, Nat.add_comm, Int.pow_add]
    have hp : (2 : Int) ≤ 2 ^ n := by
      have : (2 : Int) ^ 1 ≤ 2 ^ n := by
        have := Nat.pow_le_pow_right (n := 2) (by decide) hn
        exact_mod_cast this
      simpa using this
    have hp0 : (0 : Int) ≤ 2 ^ n := by lia
    have m1 : 0 ≤ 2 ^ n * valD n ds := Int.mul_nonneg hp0 h1
    have m2 : 2 ^ n * valD n ds ≤ 2 ^ n * (2 ^ (n * ds.length) - 1) := Int.mul_le_mul_of_nonneg_left (by lia) hp0
    rw [Int.mul_sub, Int.mul_one] at m2
    rw [valD, List.length_cons, e]
    generalize (2 : Int) ^ n * 2 ^ (n * ds.length) = B at *
    generalize (2 : Int) ^ n * valD n ds = V at *
    generalize (2 : Int) ^ n = p at *
    lia
theorem seg_mem {ds : List Int} {l r : Nat} {d : Int} (h : d ∈ seg ds l r) : d ∈ ds := List.mem_of_mem_drop (List.mem_of_mem_take h)
theorem seg_le {ds : List Int} {l r : Nat} : (seg ds l r).length ≤ ds.length := by
  unfold seg; rw [List.length_take, List.length_drop]; lia
theorem valD_bits {n : Nat} (hn : 1 ≤ n) (hn2 : n ≤ 13) {ds : List Int} (hl : ds.length ≤ 27) (h : ∀ d ∈ ds, 0 ≤ d ∧ d ≤ 1) : Builtin.Int.intBits (valD n ds) ≤ 351 := by
  obtain ⟨h1, h2⟩ := valD_lt hn ds h
  apply bits_le
  have h3 : n * ds.length ≤ 13 * 27 := Nat.mul_le_mul hn2 hl
  have h4 : (2 : Nat) ^ (n * ds.length) ≤ 2 ^ 351 := Nat.pow_le_pow_right (by decide) h3
  have h5 : (valD n ds).natAbs < 2 ^ (n * ds.length) := by
    have : ((valD n ds).natAbs : Int) = valD n ds := Int.natAbs_of_nonneg h1
    have e : ((2 ^ (n * ds.length) : Nat) : Int) = (2 : Int) ^ (n * ds.length) := by norm_cast
    lia
  lia
noncomputable def iterOf : Stmt → Expr
  | .For _ i _ _ _ => i
  | _ => .Constant .none 0 default
noncomputable def setIter (e : Expr) : Stmt → Stmt
  | .For t _ b o p => .For t e b o p
  | s => s
noncomputable def huesL : List (List Int) := [[0, 1, 5], [2, 1, 3], [4, 3, 5]]
noncomputable abbrev toldP (l : List Int) (b : Int) : PV := .list (q6.map fun j => .list ((idxs l j).map fun (k : Nat) => .str (numT (b + k))))
structure HuesE (C : Cx) (env : Env) (e : Expr) : Prop where
  h : ∀ Φ, EV C 40 Φ (eval e env) (is (.tup (huesL.map fun l => .tup (l.map .int))))
  f : ∀ v, foldedSetIterable e env v = pure v
noncomputable def litI (l : List Int) (h : List Int) : List Int := h.flatMap fun j => (idxs l j).map fun (k : Nat) => (k : Int)
noncomputable def rowL (l : List Int) (h : List Int) : List Int := (List.range l.length).map fun (k : Nat) => if (litI l h).any (· == (k : Int)) then 1 else 0
noncomputable def sumE (l : List Int) (stages : List (List Int)) (h : List Int) : PV := lI (stages.map fun st => ((litI l h).map fun k => st.getD k.toNat 0).sum)
noncomputable def modM (bn tn : Nat) : Int := (2 ^ bn - 1) ^ tn
theorem modM_fin : (List.range 14).all (fun b => (List.range 4).all fun t => decide (Builtin.Int.intBits (modM b t) ≤ 39)) = true := by decide +kernel
theorem modM_bits {b t : Nat} (hb : b ≤ 13) (ht : t ≤ 3) : Builtin.Int.intBits (modM b t) ≤ 39 := of_decide_eq_true (List.all_eq_true.mp (List.all_eq_true.mp modM_fin b (List.mem_range.mpr (by lia))) t (List.mem_range.mpr (by lia)))
noncomputable def numE (l : List Int) (bn tn : Nat) (h : List Int) : PV := qrT (valD bn (rowL l h)) (modM bn tn)
theorem idxs_len (l : List Int) (j : Int) : (idxs l j).length ≤ l.length := by
  have := List.length_filter_le (fun k => l.getD k 0 == j) (List.range l.length)
  rw [List.length_range] at this
  exact this
theorem litI_mem {l h : List Int} {k : Int} (hk : k ∈ litI l h) : 0 ≤ k ∧ k < l.length := by
  obtain ⟨j, _, hj⟩ := List.mem_flatMap.mp hk
  obtain ⟨n, hn, rfl⟩ := List.mem_map.mp hj
  have := List.mem_range.mp (List.mem_filter.mp hn).1
  lia
theorem litI_len {l h : List Int} (hh : h.length ≤ 3) : (litI l h).length ≤ 3 * l.length := by
  unfold litI
  rw [List.length_flatMap]
  simp only [List.length_map]
  have := idxs_len l
  match h, hh with
  | [], _ => simp
  | [a], _ => have := this a; simp; lia
  | [a, b], _ => have h1 := this a; have h2 := this b; simp; lia
  | [a, b, c], _ => have h1 := this a; have h2 := this b; have h3 := this c; simp; lia
section
variable {C : Cx} {X : Addr → Prop} {κ : Addr → Option Obj} {env : Env} {q : Str} {doc pm cd : Value} {L f : Addr} {R : Vp}
theorem l_15 (he : env = callEnvC (fdOf (stAt pw 86) q doc pm cd) L f) (K : LawX C) (G : DigK C) (l : List Int) (b : Int) (stages : List (List Int)) (P : Vp) (p1 p6 p7 p8 : Vp) (bn tn : Nat) (Hs Hn : Addr) (hm : ∀ x ∈ l, x ∈ q6) (hl : l.length ≤ 27) (hb1 : -1000 ≤ b) (hb2 : b ≤ 1000) (hbn : 6 ≤ bn) (hbn2 : bn ≤ 13) (htn : tn ≤ 3)
    (hst : ∀ st ∈ stages, st.length = l.length) (hsl : stages.length ≤ 4) {e : Expr} (hE : HuesE C env e) {bd : List Stmt} (hbd : bd = [setIter e (inSt pw 86 15)]) :
    EX C 40 X (FS C env nmS nmS (scOf (stAt pw 86)) X [none, none, none, some (p8), some (p1), none, some (is (.int tn)), none, some (is (.int b)), none, none, some (is (.int bn)), some (p7), some (P), none, some (is (lI l)), none, none, none, none, none, none, none, some (is (toldP l b)), some (isv (.ref Hs)), some (isv (.ref Hn)), some (is (lli stages)), none, none, none, none, none, none, none, none] [(Hn, []), (Hs, [])] κ) (execs bd env)
    (FS C env nmS nmS (scOf (stAt pw 86)) X [none, none, none, some (p8), some (p1), none, some (is (.int tn)), none, some (is (.int b)), none, none, some (is (.int bn)), none, some (P), none, none, none, none, none, none, none, none, none, none, some (isv (.ref Hs)), some (isv (.ref Hn)), none, none, none, none, none, none, none, none, none] [(Hn, huesL.map (numE l bn tn)), (Hs, huesL.map (sumE l stages))] κ) R := by
  subst hbd
  have g1 := K.range
  have g2 := K.len
  have g3 := K.sum
  have g4 := K.int
  have hlm : (l.map PV.int).length < 2 ^ 62 := by rw [List.length_map]; lia
  show EX _ _ _ _ (execs [.For _ e [.Assign [_] _ _, .Expr _ _, .Expr _ _] _ _] _) _ _
  apply exs_for (ρs := fun i => [none, none, none, some (p8), some (p1), none, some (is (.int tn)), none, some (is (.int b)), none, none, some (is (.int bn)), some (p7), some (P), none, some (is (lI l)), none, none, none, none, none, none, none, some (is (toldP l b)), some (isv (.ref Hs)), some (isv (.ref Hn)), some (is (lli stages)), none, none, none, none, none, none, none, none]) (ωs := fun i => [(Hn, (huesL.take i).map (numE l bn tn)), (Hs, (huesL.take i).map (sumE l stages))]) rfl rfl (hs := hE.f)
  · apply it_tup
    exact hE.h _
  · intro i; rfl
  · intro κ' i d hdd
    rw [List.getElem?_map] at hdd
    cases hhi : huesL[i]? with
    | none => rw [hhi] at hdd; cases hdd
    | some h =>
      rw [hhi] at hdd; cases hdd
      have hlt := (List.getElem?_eq_some_iff.mp hhi).1
      have hh3 : h.length ≤ 3 ∧ ∀ j ∈ h, j ∈ q6 := by
        have : ∀ y ∈ huesL, y.length ≤ 3 ∧ ∀ j ∈ y, j ∈ q6 := by decide
        exact this h (List.mem_of_getElem? hhi)
      have es1 : (huesL.take (i + 1)).map (numE l bn tn) = (huesL.take i).map (numE l bn tn) ++ [numE l bn tn h] := by
        rw [List.take_add_one, hhi, List.map_append]; rfl
      have es2 : (huesL.take (i + 1)).map (sumE l stages) = (huesL.take i).map (sumE l stages) ++ [sumE l stages h] := by
        rw [List.take_add_one, hhi, List.map_append]; rfl
      show ∃ ρ', _ ∧ EX _ _ _ _ _ (FS C env nmS nmS (scOf (stAt pw 86)) X [none, none, none, some (p8), some (p1), none, some (is (.int tn)), none, some (is (.int b)), none, none, some (is (.int bn)), some (p7), some (P), none, some (is (lI l)), none, none, none, none, none, none, none, some (is (toldP l b)), some (isv (.ref Hs)), some (isv (.ref Hn)), some (is (lli stages)), none, none, none, none, none, none, none, none] [(Hn, (huesL.take (i + 1)).map (numE l bn tn)), (Hs, (huesL.take (i + 1)).map (sumE l stages))] κ') _
      rw [es1, es2]
      have l1 : ((huesL.take i).map (numE l bn tn)).length ≤ sizeLine := by
        rw [List.length_map, List.length_take, sizeLine_eq]
        have : huesL.length = 3 := rfl
        lia
      have l2 : ((huesL.take i).map (sumE l stages)).length ≤ sizeLine := by
        rw [List.length_map, List.length_take, sizeLine_eq]
        have : huesL.length = 3 := rfl
        lia
      generalize (huesL.take i).map (numE l bn tn) = n0 at l1 ⊢
      generalize (huesL.take i).map (sumE l stages) = s0 at l2 ⊢
      have hll := litI_len (l := l) hh3.1
      have hlz : ((litI l h).map PV.int).length ≤ sizeLine := by rw [List.length_map, sizeLine_eq]; lia
      apply ex_mk
      · walk_at "at"
      apply ex_cons
      · apply ex_assign
        · apply ev_d (d' := lI (litI l h))
          · apply ev_compG
            apply comp2_ok (xs := h) (f := fun (j : Int) => .int j) (ys := fun j => idxs l j) (f' := fun (k : Nat) => .str (numT (b + k))) (h := fun _ (k : Nat) => .int (k : Int))
            · apply it_tup
              walk_at "ev"
            · walk_at "at"
            · exact rfl
            · decide +kernel
            · exact rfl
            · have e : (h.flatMap fun j => (idxs l j).map fun (k : Nat) => PV.int (k : Int)).length = (litI l h).length := by
                unfold litI
                simp only [List.length_flatMap, List.length_map]
              rw [e, sizeLine_eq]; lia
            · intro cenv X' j hj
              have hq := hh3.2 j hj
              have hq6 : seqIndex? j 6 = some j.toNat ∧ (q6.map fun j => PV.list ((idxs l j).map fun (k : Nat) => .str (numT (b + k))))[j.toNat]? = some (.list ((idxs l j).map fun (k : Nat) => .str (numT (b + k)))) := by
                simp only [List.mem_cons, List.not_mem_nil, or_false] at hq
                rcases hq with rfl | rfl | rfl | rfl | rfl | rfl <;> exact ⟨rfl, rfl⟩
              apply ex_mk5
              · walk_at "at"
              · walk_at "at"
              · intro ω κ
                apply it_list
                apply ev_sub
                · walk_at "ev"
                · walk_at "ev"
                · apply op_item_list (j := j.toNat) (d := .list ((idxs l j).map fun (k : Nat) => .str (numT (b + k))))
                  · exact hq6.1
                  · exact hq6.2
                  · show (6 : Nat) < _
                    decide
              · intro _; rfl
              · intro y hy
                have hy' := List.mem_range.mp (List.mem_filter.mp hy).1
                have hn := num_ok (a := b + y) (by lia) (by lia)
                apply ex_mk3
                · walk_at "at"
                · walk_at "at"
                · intro ω κ
                  apply ev_d
                  · apply ev_bin
                    · apply ev_callTt (R := is (.int (b + y)))
                      · assumption
                      · walk_at "ev"
                      · apply fn_int_text hn.2.2
                        have := hn.2.1
                        show (numT (b + y)).cps.size ≤ _
                        lia
                      · exact rfl
                      · exact rfl
                    · walk_at "ev"
                    · exact op_sub_int
                  · congr 1; lia
          · show PV.list _ = PV.list _
            unfold litI
            rw [List.map_flatMap]
            simp only [List.map_map]
            rfl
        · walk_at "at"
        · decide +kernel
        · decide +kernel
        · walk_at "rfl"
      apply ex_cons
      · apply ex_append (d := sumE l stages h) (hi := by rw [he]; rfl)
        · walk_at "at"
        · apply ev_d (d' := sumE l stages h)
          · apply ev_comp1
            apply comp1_ok (xs := stages) (f := fun (st : List Int) => lI st) (h := fun st => .int (((litI l h).map fun k => st.getD k.toNat 0).sum))
            · apply it_eq
              · apply it_list
                walk_at "ev"
              · exact rfl
            · walk_at "at"
            · exact rfl
            · decide +kernel
            · exact rfl
            · rw [sizeLine_eq]; lia
            · intro cenv X' j hx
              apply ex_mk3
              · walk_at "at"
              · walk_at "at"
              · intro ω κ
                have hsj := hst j hx
                apply ev_callBt (R := is (.int (((litI l h).map fun k => j.getD k.toNat 0).sum)))
                · assumption
                · apply el_cons
                  · apply ev_d (d' := lI ((litI l h).map fun k => j.getD k.toNat 0))
                    · apply ev_comp1
                      apply comp1_ok (xs := litI l h) (f := fun (k : Int) => .int k) (h := fun k => .int (j.getD k.toNat 0))
                      · apply it_list
                        walk_at "ev"
                      · walk_at "at"
                      · exact rfl
                      · decide +kernel
                      · exact rfl
                      · rw [sizeLine_eq]; lia
                      · intro cenv2 X2 k hk
                        have hk2 := litI_mem hk
                        apply ex_mk3
                        · walk_at "at"
                        · walk_at "at"
                        · intro ω κ
                          apply ev_sub
                          · walk_at "ev"
                          · walk_at "ev"
                          · apply op_item_list (j := k.toNat) (d := .int (j.getD k.toNat 0))
                            · exact seqIndex_of hk2.1 (by rw [List.length_map, hsj]; exact hk2.2)
                            · rw [List.getElem?_map, List.getD_eq_getElem?_getD, List.getElem?_eq_getElem (by lia)]; rfl
                            · rw [List.length_map]; lia
                    · show PV.list _ = PV.list _
                      rw [List.map_map]; rfl
                  · walk_at "ev"
                  · exact rfl
                · exact fn_sum
                · exact rfl
                · exact rfl
          · show PV.list _ = PV.list _
            rw [List.map_map]; rfl
        · exact OU.there OU.here
        · exact l2
      have hrow : ∀ d ∈ rowL l h, 0 ≤ d ∧ d ≤ 1 := fun d hd => by
        obtain ⟨k, _, rfl⟩ := List.mem_map.mp hd
        split <;> decide
      have hrl : (rowL l h).length = l.length := by rw [rowL, List.length_map, List.length_range]
      have hvb := valD_bits (n := bn) (by lia) hbn2 (by rw [hrl]; exact hl) hrow
      have hpos : 0 < modM bn tn := by
        have h1 : (2 : Int) ^ 1 ≤ 2 ^ bn := by
          have := Nat.pow_le_pow_right (n := 2) (by decide) (show 1 ≤ bn by lia)
          exact_mod_cast this
        exact Int.pow_pos (by lia)
      apply ex_cons
      · apply ex_append (d := numE l bn tn h) (hi := by rw [he]; rfl)
        · walk_at "at"
        · apply ev_callD (R := is (numE l bn tn h))
          · apply el_cons
            · apply ev_callD (R := is (.int (valD bn (rowL l h))))
              · apply el_cons
                · apply ev_d (d' := li (rowL l h))
                  · apply ev_comp1
                    apply comp1_ok (xs := List.range l.length) (f := fun (k : Nat) => .int (0 + (k : Int))) (h := fun (k : Nat) => .int (if (litI l h).any (· == (k : Int)) then 1 else 0))
                    · apply it_eq
                      · apply it_callTt
                        · assumption
                        · apply el_cons
                          · apply ev_callBt
                            · assumption
                            · walk_at "ev"
                            · exact fn_len_list hlm
                            · exact rfl
                            · exact rfl
                            · exact rfl
                            · exact rfl
                          · walk_at "ev"
                          · exact rfl
                        · exact fi_range1 (small_one (by decide) (by decide) (by lia) (by lia))
                        · exact rfl
                        · exact rfl
                        · exact rfl
                        · exact rfl
                      · rw [List.length_map]; rfl
                    · walk_at "at"
                    · exact rfl
                    · decide +kernel
                    · exact rfl
                    · rw [List.length_range, sizeLine_eq]; lia
                    · intro cenv2 X2 k hk
                      apply ex_mk3
                      · walk_at "at"
                      · walk_at "at"
                      · intro ω κ
                        apply ev_callTt (R := is (.int (if (litI l h).any (· == (k : Int)) then 1 else 0)))
                        · assumption
                        · apply el_cons
                          · apply ev_cmp
                            · walk_at "ev"
                            · walk_at "ev"
                            · exact op_in_ints
                            · exact rfl
                          · walk_at "ev"
                          · exact rfl
                        · apply fn_eq
                          · exact fn_int_bool
                          · rw [Int.zero_add]
                        · exact rfl
                        · exact rfl
                  · show PV.list _ = PV.list _
                    rw [rowL, List.map_map]; rfl
                · walk_at "ev"
                · exact rfl
              · exact d_d2i G (rowL l h) bn (by rw [hrl]; lia) (by
                  rw [hrl]
                  have : l.length * bn ≤ 27 * 13 := Nat.mul_le_mul hl hbn2
                  lia) (fun a c hc => by
                  have := valD_bits (n := bn) (by lia) hbn2 (ds := seg (rowL l h) a c) (Nat.le_trans seg_le (by rw [hrl]; exact hl)) fun d hd => hrow d (seg_mem hd)
                  exact Nat.le_trans this (by decide))
              · decide
              · exact rfl
              · exact rfl
            · apply el_cons
              · apply ev_d (d' := .int (modM bn tn))
                · apply ev_bin
                  · apply ev_bin
                    · apply ev_bin
                      · walk_at "ev"
                      · walk_at "ev"
                      · apply op_pow_int
                        · lia
                        · show ((Builtin.Int.intBits 2 : Nat) : Int) * _ ≤ _
                          rw [show Builtin.Int.intBits 2 = 2 by decide +kernel]
                          lia
                    · walk_at "ev"
                    · exact op_sub_int
                  · walk_at "ev"
                  · apply op_pow_int
                    · lia
                    · have hb13 : Builtin.Int.intBits ((2 : Int) ^ (bn : Int).toNat - 1) ≤ 13 := by
                        rw [Int.toNat_natCast]
                        apply bits_le
                        have h2 : (2 : Nat) ^ bn ≤ 2 ^ 13 := Nat.pow_le_pow_right (by decide) hbn2
                        have h3 : (1 : Nat) ≤ 2 ^ bn := Nat.one_le_two_pow
                        have e : (2 : Int) ^ bn = ((2 ^ bn : Nat) : Int) := by norm_cast
                        rw [e]; lia
                      have : ((Builtin.Int.intBits ((2 : Int) ^ (bn : Int).toNat - 1) : Nat) : Int) * (tn : Int) ≤ 13 * 3 := by
                        have h1 : Builtin.Int.intBits ((2 : Int) ^ (bn : Int).toNat - 1) * tn ≤ 13 * 3 := Nat.mul_le_mul hb13 htn
                        exact_mod_cast h1
                      lia
                · rw [Int.toNat_natCast, Int.toNat_natCast]; rfl
              · walk_at "ev"
              · exact rfl
            · exact rfl
          · exact d_idm G (valD bn (rowL l h)) (modM bn tn) (by lia) (by lia) (Nat.le_trans (modM_bits hbn2 htn) (by decide))
          · decide
          · exact rfl
          · exact rfl
        · exact OU.here
        · exact l1
      apply ex_fgt
      walk_at "at"
  · apply ex_fgt
    walk_at "at"
end
noncomputable def numsB (b : Int) (n : Nat) : List Int := (List.range n).map fun (k : Nat) => b + (k : Int)
theorem ev_triple {C : Cx} {n : Nat} {Φ : Asn C} {env : Env} {a b c : Int} {k1 k2 k3 kk : Nat} {p1 p2 p3 p : Pos} : EV C n Φ (eval (.Tuple [.Constant (.int a) k1 p1, .Constant (.int b) k2 p2, .Constant (.int c) k3 p3] kk p) env) (is (.tup [.int a, .int b, .int c])) :=
  ev_tupL (el_cons (P := is (.int a)) ev_int (el_cons (P := is (.int b)) ev_int (el_cons (P := is (.int c)) ev_int el_nil))) (.cons (.cons (.cons .nil))) (Nat.le_of_ble_eq_true rfl)
theorem ev_trio {C : Cx} {n : Nat} {Φ : Asn C} {env : Env} {e1 e2 e3 : Expr} {d1 d2 d3 : PV} {kk : Nat} {p : Pos} (h1 : EV C n Φ (eval e1 env) (is d1)) (h2 : EV C n Φ (eval e2 env) (is d2)) (h3 : EV C n Φ (eval e3 env) (is d3))
    (a1 : starEach [e1, e2, e3] env = (false, eval e1 env) :: starEach [e2, e3] env := by rfl) (a2 : starEach [e2, e3] env = (false, eval e2 env) :: starEach [e3] env := by rfl) (a3 : starEach [e3] env = (false, eval e3 env) :: starEach [] env := by rfl) :
    EV C n Φ (eval (.Tuple [e1, e2, e3] kk p) env) (is (.tup [d1, d2, d3])) :=
  ev_tupL (el_cons h1 (el_cons h2 (el_cons h3 el_nil a3) a2) a1) (.cons (.cons (.cons .nil))) (Nat.le_of_ble_eq_true rfl)
section
variable {C : Cx} {X : Addr → Prop} {κ : Addr → Option Obj} {env : Env} {q : Str} {doc pm cd : Value} {L f : Addr} {R : Vp}
theorem ev_hues {n : Nat} {Φ : Asn C} : EV C n Φ (eval (iterOf (inSt pw 86 15)) env) (is (.tup [.tup [.int 0, .int 1, .int 5], .tup [.int 2, .int 1, .int 3], .tup [.int 4, .int 3, .int 5]])) := by
  have h := fun (k1 k2 k3 k4 k5 k6 k7 k8 k9 kk a1 a2 a3 : Nat) (p1 p2 p3 p4 p5 p6 p7 p8 p9 p q1 q2 q3 : Pos) => @ev_trio C n Φ env _ _ _ _ _ _ kk p (@ev_triple C n Φ env 0 1 5 k1 k2 k3 a1 p1 p2 p3 q1) (@ev_triple C n Φ env 2 1 3 k4 k5 k6 a2 p4 p5 p6 q2) (@ev_triple C n Φ env 4 3 5 k7 k8 k9 a3 p7 p8 p9 q3) rfl rfl rfl
  exact h _ _ _ _ _ _ _ _ _ _ _ _ _ _ _ _ _ _ _ _ _ _ _ _ _ _
theorem huesE : HuesE C env (iterOf (inSt pw 86 15)) := HuesE.mk (fun Φ => by
  have h := @ev_hues C env 40 Φ
  assumption) (fun v => rfl)
theorem l_14 (he : env = callEnvC (fdOf (stAt pw 86) q doc pm cd) L f) (K : LawX C) (G : DigK C) (l : List Int) (b t0 t1 t2 t3 : Int) (tx : Str) (P : Vp) (p8 : Vp) (bn tn : Nat) (hm : ∀ x ∈ l, x ∈ q6) (hl : l.length ≤ 27) (hb1 : -1000 ≤ b) (hb2 : b ≤ 1000) (hbn : 6 ≤ bn) (hbn2 : bn ≤ 13) (htn : tn ≤ 3)
    (htx : tx.length ≤ 1000) (hsy : ∀ k ∈ rowF tx, k = 15 ∨ k = 16 ∨ k = 31 ∨ k = 33 ∨ (256 ≤ k ∧ k < 260)) (hrl : (rowF tx).length ≤ 1000)
    (hst : ∀ st ∈ runF [t0, t1, t2, t3] (numsB b l.length) (rowF tx), st.length = l.length) (hsl : (runF [t0, t1, t2, t3] (numsB b l.length) (rowF tx)).length ≤ 4) {bd : List Stmt} (hbd : bd = [inSt pw 86 15]) :
    EX C 40 X (FS C env nmS nmS (scOf (stAt pw 86)) X [none, none, none, some (p8), some (is (lI [t0, t1, t2, t3])), none, some (is (.int tn)), none, some (is (.int b)), none, none, some (is (.int bn)), some (is (.str tx)), some (P), none, some (is (lI l)), none, none, none, none, none, none, none, some (is (toldP l b)), none, none, none, none, none, none, none, none, none, none, none] [] κ) (execs (inSt pw 86 14 :: bd) env)
    (FS C env nmS nmS (scOf (stAt pw 86)) X [none, none, none, some (p8), none, none, some (is (.int tn)), none, some (is (.int b)), none, none, some (is (.int bn)), none, some (P), none, none, none, none, none, none, none, none, none, none, some (is (.list (huesL.map (sumE l (runF [t0, t1, t2, t3] (numsB b l.length) (rowF tx)))))), some (is (.list (huesL.map (numE l bn tn)))), none, none, none, none, none, none, none, none, none] [] κ) R := by
  have g1 := K.range
  have g2 := K.len
  have hlm : (l.map PV.int).length < 2 ^ 62 := by rw [List.length_map]; lia
  have hnl : (numsB b l.length).length = l.length := by rw [numsB, List.length_map, List.length_range]
  have hE : HuesE C env (iterOf (inSt pw 86 15)) := huesE
  have hbd' : bd = [setIter (iterOf (inSt pw 86 15)) (inSt pw 86 15)] := hbd.trans rfl
  clear hbd
  generalize hst0 : runF [t0, t1, t2, t3] (numsB b l.length) (rowF tx) = stages at hst hsl ⊢
  show EX _ _ _ _ (execs (.Assign [.Tuple [_, _, _] _ _] (.Tuple [_, _, _] _ _) _ :: bd) _) _ _
  apply ex_tup_sw
  · rw [he]; exact rfl
  · rw [he]; exact rfl
  · exact Nat.le_of_ble_eq_true rfl
  · exact rfl
  · apply TupK.own
    · apply evn_listL
      · walk_at "ev"
      · walk_at "at"
      · exact Nat.le_of_ble_eq_true rfl
    · intro Hs
      apply TupK.own
      · apply evn_listL
        · walk_at "ev"
        · walk_at "at"
        · exact Nat.le_of_ble_eq_true rfl
      · intro Hn
        apply TupK.val
        · apply ev_callD (R := is (lli stages))
          · apply el_cons
            · apply ev_callD (R := is (li (rowF tx ++ [0])))
              · walk_at "ev"
              · exact d_row K.toLawL tx htx
              · decide
              · exact rfl
              · exact rfl
            · apply el_cons
              · apply ev_d (d' := li (numsB b l.length))
                · apply ev_comp1
                  apply comp1_ok (xs := List.range l.length) (f := fun (k : Nat) => .int (0 + (k : Int))) (h := fun (k : Nat) => .int (b + (k : Int)))
                  · apply it_eq
                    · apply it_callTt
                      · assumption
                      · apply el_cons
                        · apply ev_callBt
                          · assumption
                          · walk_at "ev"
                          · exact fn_len_list hlm
                          · exact rfl
                          · exact rfl
                          · exact rfl
                          · exact rfl
                        · walk_at "ev"
                        · exact rfl
                      · exact fi_range1 (small_one (by decide) (by decide) (by lia) (by lia))
                      · exact rfl
                      · exact rfl
                      · exact rfl
                      · exact rfl
                    · rw [List.length_map]; rfl
                  · walk_at "at"
                  · exact rfl
                  · decide +kernel
                  · exact rfl
                  · rw [List.length_range, sizeLine_eq]; lia
                  · intro cenv2 X2 k hk
                    apply ex_mk3
                    · walk_at "at"
                    · walk_at "at"
                    · intro ω κ
                      apply ev_d
                      · walk_at "ev"
                      · congr 1; lia
                · show PV.list _ = PV.list _
                  rw [numsB, List.map_map]; rfl
              · apply el_cons
                · walk_at "ev"
                · walk_at "ev"
                · exact rfl
              · exact rfl
            · exact rfl
          · rw [← hst0]
            exact d_run K.toLawK (numsB b l.length) (rowF tx) t0 t1 t2 t3 hsy (fun k hk => by
              obtain ⟨j, hj, rfl⟩ := List.mem_map.mp hk
              have := List.mem_range.mp hj
              lia) hrl (by rw [hnl]; lia)
          · decide
          · exact rfl
          · exact rfl
        · apply tk_nil_sw rfl rfl
          · show Bdn _ _ _ [_, _, _] [_, _, _] _ _
            walk_at "at"
          · have h15 := l_15 (κ := κ) (X := X) (R := R) he K G l b stages P (is (lI [t0, t1, t2, t3])) (is (.int bn)) (is (.str tx)) p8 bn tn Hs Hn hm hl hb1 hb2 hbn hbn2 htn hst hsl hE hbd'
            have hap : bd = bd ++ [] := (List.append_nil bd).symm
            rw [hap]
            refine ex_seq h15 ?_
            apply ex_freeze (a := Hn)
            · exact OF.here
            · repeat (first | exact Rfz.nil | apply Rfz.it | apply Rfz.same)
            apply ex_freeze (a := Hs)
            · exact OF.here
            · repeat (first | exact Rfz.nil | apply Rfz.it | apply Rfz.same)
            apply ex_fgt
            walk_at "at"
        · exact rfl
      · exact rfl
    · exact rfl
end
noncomputable def restF (b ld : Int) : Int := if ld = 0 then b else b.fmod ld
section
variable {C : Cx} {X : Addr → Prop} {κ : Addr → Option Obj} {env : Env} {q : Str} {doc pm cd : Value} {L f : Addr} {R : Vp}
theorem l_16 (he : env = callEnvC (fdOf (stAt pw 86) q doc pm cd) L f) (K : LawX C) (A0 A1 A2 : List Int) (P : Vp) (p3 p6 p8 N : Vp) (tn : Nat) (htn : tn ≤ 3) (h0 : A0.length = tn + 1) (h1 : A1.length = tn + 1) (h2 : A2.length = tn + 1)
    (hq : ∀ i, i < tn → A0.getD i 0 = A2.getD i 0 ∧ A1.getD i 0 = A2.getD i 0) {bd : List Stmt} (hbd : bd = [inSt pw 86 16]) :
    EX C 40 X (FS C env nmS nmS (scOf (stAt pw 86)) X [none, none, none, some (p8), none, none, some (is (.int tn)), none, some (p3), none, none, some (p6), none, some (P), none, none, none, none, none, none, none, none, none, none, some (is (.list [lI A0, lI A1, lI A2])), some (N), none, none, none, none, none, none, none, none, none] [] κ) (execs bd env)
    (FS C env nmS nmS (scOf (stAt pw 86)) X [none, none, none, some (p8), none, none, some (is (.int tn)), none, some (p3), none, none, some (p6), none, some (P), none, none, none, none, none, none, none, none, none, none, some (is (.list [lI A0, lI A1, lI A2])), some (N), none, none, none, none, none, none, none, none, none] [] κ) R := by
  subst hbd
  have g1 := K.list
  have g2 := K.zip
  have K0 := K.toColK
  have zl : (zip3L (A0.map .int) (A1.map .int) (A2.map .int)).length = tn + 1 := by
    rw [zip3L, List.length_map, List.length_zip, List.length_zip, List.length_map, List.length_map, List.length_map, h0, h1, h2, Nat.min_self, Nat.min_self]
  show EX _ _ _ _ (execs [.For (.Tuple [_, _, _] _ _) (.Subscript _ _ _) [.If _ _ _ _] _ _] _) _ _
  apply exs_for (ρs := fun i => [none, none, none, some (p8), none, none, some (is (.int tn)), none, some (p3), none, none, some (p6), none, some (P), none, none, none, none, none, none, none, none, none, none, some (is (.list [lI A0, lI A1, lI A2])), some (N), none, none, none, none, none, none, none, none, none]) (ωs := fun _ => []) rfl rfl
  · apply it_list
    apply ev_slice_listT
    · apply ev_listzip g1 g2
      · apply el_cons
        · walk_at "ev"
        · apply el_cons
          · walk_at "ev"
          · walk_at "ev"
          · exact rfl
        · exact rfl
      · rw [List.length_map, List.length_map, h0, h1]
      · rw [List.length_map, List.length_map, h0, h2]
      · rw [List.length_map, sizeLine_eq]; lia
      · exact rfl
      · exact rfl
    · exact pt_none
    · apply pt_some
      walk_at "ev"
    · rw [zl, sizeLine_eq]; lia
  · intro i; rfl
  · intro κ' i d hdd
    rw [pickL_take _ _ (by rw [zl]; lia)] at hdd
    have hi : i < tn := by
      have := (List.getElem?_eq_some_iff.mp hdd).1
      rw [List.length_take] at this; lia
    rw [List.getElem?_take_of_lt hi, zip3L, List.getElem?_map] at hdd
    have e0 : (A0.map PV.int)[i]? = some (.int (A0.getD i 0)) := by rw [List.getElem?_map, List.getD_eq_getElem?_getD, List.getElem?_eq_getElem (by lia)]; rfl
    have e1 : (A1.map PV.int)[i]? = some (.int (A1.getD i 0)) := by rw [List.getElem?_map, List.getD_eq_getElem?_getD, List.getElem?_eq_getElem (by lia)]; rfl
    have e2 : (A2.map PV.int)[i]? = some (.int (A2.getD i 0)) := by rw [List.getElem?_map, List.getD_eq_getElem?_getD, List.getElem?_eq_getElem (by lia)]; rfl
    have ez : ((A0.map PV.int).zip ((A1.map PV.int).zip (A2.map PV.int)))[i]? = some (.int (A0.getD i 0), .int (A1.getD i 0), .int (A2.getD i 0)) :=
      List.getElem?_zip_eq_some.mpr ⟨e0, List.getElem?_zip_eq_some.mpr ⟨e1, e2⟩⟩
    rw [ez] at hdd
    cases hdd
    obtain ⟨q1, q2⟩ := hq i hi
    rw [q1, q2]
    generalize A2.getD i 0 = x
    apply ex_mk
    · walk_at "at"
    apply ex_ifs (c := false)
    · apply tv_cmp
      · apply ev_callD (R := is (.tup [.flt 0, .flt 0, .int x]))
        · walk_at "ev"
        · exact d_grey K0 x
        · decide
        · exact rfl
        · exact rfl
      · walk_at "ev"
      · exact op_ne_grey
      · exact rfl
    · intro h; cases h
    · intro _
      show EX _ _ _ _ (execs [] _) _ _
      apply ex_fgt
      walk_at "at"
  · apply ex_fgt
    walk_at "at"
theorem l_17 (he : env = callEnvC (fdOf (stAt pw 86) q doc pm cd) L f) (K : LawX C) (ks : List Int) (b ld : Int) (p2 p6 : Vp) (S N : Vp) (hk : ks.length = 3) (hks : ∀ k ∈ ks, k = 0 ∨ k = 1 ∨ k = 2 ∨ k = 3) {bd : List Stmt} (hbd : bd = [inSt pw 86 17]) :
    EX C 40 X (FS C env nmS nmS (scOf (stAt pw 86)) X [none, none, none, some (is (lI ks)), none, none, some (p2), none, some (is (.int b)), none, none, some (p6), none, some (is (.int ld)), none, none, none, none, none, none, none, none, none, none, some (S), some (N), none, none, none, none, none, none, none, none, none] [] κ) (execs bd env)
    (FS C env nmS nmS (scOf (stAt pw 86)) X [none, none, none, none, none, none, some (p2), none, none, none, none, some (p6), none, some (is (.int ld)), none, none, none, none, none, none, none, none, none, none, some (S), some (N), none, none, none, none, none, none, some (is (l3 (worthF ks))), some (is (.int (restF b ld))), none] [] κ) R := by
  subst hbd
  show EX _ _ _ _ (execs [.Assign [.Tuple [_, _] _ _] (.Tuple [_, .IfExp _ _ _ _] _ _) _] _) _ _
  apply ex_tup_sw
  · rw [he]; exact rfl
  · rw [he]; exact rfl
  · exact Nat.le_of_ble_eq_true rfl
  · exact rfl
  · apply TupK.val
    · apply ev_callD (R := is (l3 (worthF ks)))
      · walk_at "ev"
      · exact d_worth K.toLawK ks hks (by lia)
      · decide
      · exact rfl
      · exact rfl
    · apply TupK.val
      · by_cases h0 : ld = 0
        · apply ev_ifexpF (R := is (.int (restF b ld)))
          · apply tv_int
            · walk_at "ev"
            · intro _; rfl
          · rw [h0]; rfl
          · apply ev_d
            · walk_at "ev"
            · rw [restF, if_pos h0]
        · apply ev_ifexpT (R := is (.int (restF b ld)))
          · apply tv_int
            · walk_at "ev"
            · intro _; rfl
          · simpa using h0
          · apply ev_d
            · apply ev_bin
              · walk_at "ev"
              · walk_at "ev"
              · exact op_mod_int h0
            · rw [restF, if_neg h0]
      · apply tk_nil_sw rfl rfl
        · show Bdn _ _ _ [_, _] [_, _] _ _
          walk_at "at"
        · apply ex_fgt
          walk_at "at"
      · exact rfl
    · exact rfl
end
section
variable {C : Cx} {n : Nat} {R : Vp} {fd : FuncData} {f : Addr} {o : Obj} {body : List Stmt} {Ps : List Vp} {xs nm : List Str} {sc : List (Str × NameKind)} {ρ : List (Option Vp)}
theorem fn_enterE (hq : Quiet C) (ho : C.Z0 f = some o) (hd : o.data = .func fd) (hcd : CodeZ C fd.code fd.qualname) (hbody : fd.body = .stmts body) (hclo : fd.closure = []) (hsc : fd.scope.names = sc) (hgl : fd.globals = mainGlobals) (hbl : fd.builtins = builtinsNs)
    (hbind : ∀ vs : List Value, vs.length = Ps.length → bindArgs fd ⟨vs, []⟩ = pure (xs.zip vs)) (hlen : xs.length = Ps.length) (hnd : xs.Nodup) (hnm : nm.Nodup) (pl : ∀ x ∈ nm, PlainName x)
    (hkind : xs.all (canSt sc xs) = true) (hρ : ofBinds nm (xs.zip Ps) = ρ)
    {A : Around} {s : Shared} {Z : Fz} {vs : List Value} {Q : Value → Shared → Prop} {E : Value → Shared → Prop} (hA : Room (n + 2) A) (I : Inv C Z s) (hl : vs.length = Ps.length) (hp : ∀ (i : Nat) (v : Value) (P : Vp), vs[i]? = some v → Ps[i]? = some P → P.at_ Z v)
    (h : ∀ s₁, Room (n + 1) (A.deeper (callEnvC fd s.heap.objs.size f)) → Step C Z s Z s₁ → FSp (callEnvC fd s.heap.objs.size f) nm nm sc (fun a => s.heap.get? a = none) ρ [] (fun _ => none) Z s₁.heap →
      wpAny (model C.prog C.w) (A.deeper (callEnvC fd s.heap.objs.size f)) (execs body (callEnvC fd s.heap.objs.size f)) (fun fl s' => Q (match fl with | .ret v => v | _ => .none) s')
        (fun e s' => wpAny (model C.prog C.w) (A.deeper (callEnvC fd s.heap.objs.size f)) (leaving (callEnvC fd s.heap.objs.size f) e) (fun _ s'' => E e s'') (fun e' s'' => E e' s'') s') s₁)
    (hco : fd.scope.isCoroutine = false := by rfl) (hgen : fd.scope.isGenerator = false := by rfl) (hk : fd.scope.kind = .function := by rfl) :
    wpAny (model C.prog C.w) A (call (.ref f) vs) Q E s := by
  subst hsc
  subst hρ
  have hf := I.heap _ _ (I.base _ _ ho)
  have hnl := hq s.heap fun b o e => I.heap _ _ (I.base _ _ e)
  have hkind' : ∀ L, ∀ x ∈ xs, fd.scope.names.lookup x = some .local ∨ (fd.scope.names.lookup x = some .cell ∧ ((cellsFrom (L + 1) fd.scope.names []).lookup x).isSome = true) := fun L x hx =>
    (canSt_or (List.all_eq_true.mp hkind x hx)).imp id fun ⟨h, _⟩ => ⟨h, cellsFrom_has h⟩
  refine wpAny_call (codeAny_call_cells (R := fun r s' => match r with | .ok (.ret v) => Q v s' | .ok _ => False | .error e => E e s') (by have := hA.depth; simp only [recursionLimit]; lia) hf hd hnl (hcd.rcd I) hbody (hbind vs hl) hclo (fun x hx => hkind' _ _ (List.of_mem_zip hx).1) (fun s₁ ic => ?_) hco hgen hk)
  obtain ⟨h₁, tk, rfl⟩ := ic.toInCall.same
  have hL : s.heap.objs.size < h₁.objs.size := ic.toInCall.ns.lt
  have st : Step C Z s Z { s with heap := h₁, toks := tk } := .keeps I ic.toInCall.keep
  have hA' : Room (n + 1) (A.deeper (callEnvC fd s.heap.objs.size f)) := ⟨by have := hA.depth; simp only [Around.deeper]; lia, by have := hA.units; simp only [Around.deeper]; lia, hA.handled⟩
  have zn : ∀ a, s.heap.objs.size ≤ a → Z a = none := fun a ha => I.fresh (gAb ha)
  refine h _ hA' st ⟨rfl, hgl, hbl, fun x _ hx => cellsFrom_has hx, hk, hnm, ic.apart, ⟨_, ic.toInCall.ns⟩, gAb (Nat.le_refl _), zn _ (Nat.le_refl _), fun x c hc => ?_, fun x _ c hc => ?_, fun a ha => ?_, ?_, (fun _ h => nomatch h), (fun _ h => nomatch h), List.Pairwise.nil, (fun _ _ h => nomatch h), fun _ _ h => nomatch h⟩
  · have := ic.above x c (mem_of_lookup hc)
    exact ⟨zn c (Nat.le_of_lt this), _, ic.cell x c hc⟩
  · exact gAb (Nat.le_of_lt (ic.above x c (mem_of_lookup hc)))
  · exact (st.gone ha).elim id fun q => q.elim
  · refine Vars.start pl ic.toInCall.ns ic.cell fun x P e => ?_
    obtain ⟨i, e1, e2⟩ := zip_lookup (Ps := Ps) e
    have hi : i < vs.length := by rw [hl]; exact (List.getElem?_eq_some_iff.mp e2).1
    have ev : vs[i]? = some vs[i] := List.getElem?_eq_getElem hi
    have hpv := hp i _ P ev e2
    rcases hkind' s.heap.objs.size x (List.mem_iff_getElem?.mpr ⟨i, e1⟩) with hk' | ⟨hk', hs⟩
    · exact .inl ⟨hk', _, (bindL_zip hnd e1 hk' (hlen.trans hl.symm)).trans ev, hpv⟩
    · refine .inr ⟨hk', hs, _, (bindC_zip hnd e1 (fun q => ?_) (hlen.trans hl.symm)).trans ev, hpv⟩
      rw [show (callEnvC fd s.heap.objs.size f).kindOf x = fd.scope.names.lookup x from rfl, hk'] at q; cases q
end
section
variable {M : Model} {A : Around} {E : Value → Shared → Prop} {s : Shared}
theorem note_next {base : Heap} {env : Env} {outer : List Env} {L e : Addr} {cls : Value} {Q : Unit → Shared → Prop}
    (hfr : A.frames = some (env :: outer)) (hl : s.heap.FunFrames base (env :: outer)) (hf : env.frame = some L) (ht : s.heap.Traced base e cls) (hkb : base.StaysIn s.heap) (hen : base.get? e = none)
    (h : ∀ h', Heap.Left base (env :: outer) e cls s.heap h' → Q () { s with heap := h' }) : wpAny M A (noteFrame (.ref e) env) (fun _ s' => wpAny M A (setFlight (.ref e) none) Q E s') E s := by
  obtain ⟨oe, vs, T, oT, ts, he, hcls, hd, h1, hnT, hTe, hT, hdT, h3⟩ := ht
  subst hcls
  unfold noteFrame
  simp only [hf]
  refine wpAny_bind (wpAny_field he hd h1 ?_)
  rw [if_pos (show (Value.ref T != Value.none) = true from by simp)]
  refine wpAny_bind (wpAny_field hT hdT h3 ?_)
  rw [if_neg (show ¬ ((Value.none == rawInt L) = true) from by simp [rawInt])]
  refine wpAny_bind (wpAny_setField hT hdT (Array.getElem?_eq_some_iff.mp h3).1 ?_)
  have other : ∀ b, b ≠ T → (s.heap.update T (Obj.mapFields (·.setIfInBounds 3 Value.none))).get? b = s.heap.get? b := fun b hb => Heap.get?_update_other _ _ (Ne.symm hb)
  have noRecord : ∀ b o, s.heap.get? b = some o → (∀ vs, o.data ≠ .fields vs) → b ≠ T := fun b o hb hnf q => by
    rw [q, hT] at hb; injection hb with hb; subst hb; exact hnf ts hdT
  refine wpAny_newEntry hfr (hl.of_keeps fun b o hb hnf => ⟨o, (other b (noRecord b o hb hnf)).trans hb, rfl⟩) hf ((other e (Ne.symm hTe)).trans he)
    (fun b o hbo => (other b fun q => by rw [q, hnT] at hbo; cases hbo).trans (hkb b o hbo)) hen hd (Array.getElem?_eq_some_iff.mp h1).1
    fun h' ⟨x1, x2, x3, x4⟩ => h h' ⟨x1, x2, x3, fun b o hb hnf => x4 b o ((other b (noRecord b o hb hnf)).trans hb) hnf⟩
end
noncomputable def without (h : Heap) (a : Addr) : Heap := h.update a fun o => { o with data := .freed }
theorem without_self {h : Heap} {a : Addr} : (without h a).get? a = none := by
  cases h with
  | mk objs l =>
    unfold without Heap.update Heap.get?
    simp only [Array.getElem?_modify, if_true]
    cases objs[a]? <;> rfl
theorem without_other {h : Heap} {a b : Addr} (hb : b ≠ a) : (without h a).get? b = h.get? b := Heap.get?_update_other _ _ (Ne.symm hb)
section
variable {C : Cx} {X : Addr → Prop} {Z Z' : Fz} {s s' : Shared}
theorem FSp.slots {env : Env} {nm oc : List Str} {sc : List (Str × NameKind)} {ρ : List (Option Vp)} {ω : List (Addr × List PV)} {κ : Addr → Option Obj} (I : Inv C Z s) (H : FSp env nm oc sc X ρ ω κ Z s.heap) (x : StepX C X Z s Z' s')
    (hk : ∀ b o, s.heap.get? b = some o → b ≠ env.locals → (∀ t ∈ C.tabs, b ≠ t.1) → s'.heap.get? b = some o) (hl : ∀ o, s.heap.get? env.locals = some o → ∃ sl, s'.heap.get? env.locals = some { o with slots := sl })
    (hz : ∀ b o, Z' b = some o → Z b = some o ∨ s.heap.get? b = none) : FSp env nm oc sc X ρ ω κ Z' s'.heap := by
  have still : ∀ b o, Z b = none → s.heap.get? b = some o → Z' b = none := fun b o h1 h2 => by
    cases q : Z' b with
    | none => rfl
    | some o' =>
      rcases hz b o' q with h | h
      · rw [h1] at h; cases h
      · rw [h2] at h; cases h
  have ns : ∀ m, s.heap.Ns env.locals m → s'.heap.Ns env.locals m := fun m hn => by
    obtain ⟨o, es, ep, e, d, r⟩ := hn
    obtain ⟨sl, e'⟩ := hl o e
    exact ⟨_, es, ep, e', d, r⟩
  have cne : ∀ n c, env.cells.lookup n = some c → c ≠ env.locals := fun n c hc q => by
    obtain ⟨_, w, o, e, d⟩ := H.cells n c hc
    obtain ⟨m, o', es, ep, e', d', _⟩ := H.loc
    rw [q, e'] at e; cases e; rw [d'] at d; cases d
  have kc : ∀ n c, env.cells.lookup n = some c → ∀ o, s.heap.get? c = some o → s'.heap.get? c = some o := fun n c hc o e => by
    obtain ⟨_, v, hv⟩ := H.cells n c hc
    exact hk _ o e (cne n c hc) (I.cell_notTab hv)
  have vars : ∀ {nm : List Str} {ρ : List (Option Vp)}, Vars env Z s.heap nm ρ → Vars env Z' s'.heap nm ρ := fun {nm ρ} V i y P e1 e2 => by
    obtain ⟨v, ⟨p, hv⟩, hp⟩ := V i y P e1 e2
    refine ⟨v, ⟨p, ?_⟩, Vp.mono _ x.le hp⟩
    rcases hv with ⟨hk', m, hn, hm⟩ | ⟨hk', c, hc, o, e, d⟩
    · exact .inl ⟨hk', m, ns m hn, hm⟩
    · exact .inr ⟨hk', c, hc, o, kc _ c hc o e, d⟩
  refine ⟨H.names, H.gl, H.bl, H.cellH, H.fn, H.nodup, H.apart, ?_, H.locX, ?_, fun n c hc => ?_, H.cellX, fun a ha => (x.gone ha).elim (H.cof a) id, vars H.vars, fun p hp => ?_, H.ownX, H.ownN, fun b o e => ?_, H.heldX⟩
  · obtain ⟨m, hn⟩ := H.loc
    exact ⟨m, ns m hn⟩
  · obtain ⟨m, o, es, ep, e, _⟩ := H.loc
    exact still _ _ H.locZ e
  · obtain ⟨hz', v, o, e, d⟩ := H.cells n c hc
    exact ⟨still _ _ hz' e, v, o, kc n c hc o e, d⟩
  · obtain ⟨hz', vs, n, e, r⟩ := H.own p hp
    have hn : ∀ t ∈ C.tabs, p.1 ≠ t.1 := I.tab_fields e fun ps q => by cases q
    have pne : p.1 ≠ env.locals := fun q => by
      obtain ⟨m, o', es, ep, e', d', _⟩ := H.loc
      rw [q, e'] at e; cases e; cases d'
    exact ⟨still _ _ hz' e, vs, n, hk _ _ e pne hn, r.le x.le⟩
  · obtain ⟨hz', ha, ht, hl', hc, hw⟩ := H.held b o e
    exact ⟨still _ _ hz' ha, hk _ _ ha hl' (I.tab_fields ha ht), ht, hl', hc, hw⟩
end
section
variable {C : Cx} {n : Nat} {X : Addr → Prop} {Φ Ψ : Asn C} {R : Vp} {env : Env}
theorem ex_try {body : List Stmt} {h₀ : ExceptHandler} {hs : List ExceptHandler} {pos : Pos} (h : EX C n X Φ (execs body env) Ψ R) : EX C n X Φ (exec (.Try body (h₀ :: hs) [] [] pos) env) Ψ R := fun A s Z Q E hA I H kn kr => by
  refine wpAny_Try_except (h A s Z _ _ hA I H (fun Z₁ s₁ x₁ H₁ => ?_) fun v Z₁ s₁ x₁ r => kr v Z₁ s₁ x₁ r)
  exact ex_nil (C := C) (n := n) (X := X) (R := R) A s₁ Z₁ Q E hA x₁.inv H₁ (fun Z₂ s₂ x₂ H₂ => kn Z₂ s₂ (x₁.trans x₂) H₂) fun v Z₂ s₂ x₂ r => kr v Z₂ s₂ (x₁.trans x₂) r
end
theorem glob_uniq {h : Heap} {a : Addr} {x : Str} {f f' : Addr} (p : ∃ m, h.Ns a m ∧ m x = some (.ref f)) (p' : ∃ m, h.Ns a m ∧ m x = some (.ref f')) : f = f' := by
  obtain ⟨m, hn, e⟩ := p
  obtain ⟨m', hn', e'⟩ := p'
  obtain ⟨o, es, ep, h1, h2, _, h3⟩ := hn
  obtain ⟨o', es', ep', h1', h2', _, h3'⟩ := hn'
  rw [h1] at h1'; cases h1'; rw [h2] at h2'; cases h2'
  rw [← h3] at e; rw [← h3'] at e'
  rw [e] at e'; cases e'; rfl
structure FrZ (en : Env) (Z : Fz) (h : Heap) : Prop where
  k : en.scope.kind ≠ .module
  f : en.frame = some en.locals
  n : ∃ m, h.Ns en.locals m
  z : Z en.locals = none
theorem FSp.fr {en : Env} {nm oc : List Str} {sc : List (Str × NameKind)} {X : Addr → Prop} {ρ : List (Option Vp)} {ω : List (Addr × List PV)} {κ : Addr → Option Obj} {Z : Fz} {h : Heap} (H : FSp en nm oc sc X ρ ω κ Z h) (hf : en.frame = some en.locals) : FrZ en Z h := ⟨by rw [H.fn]; decide, hf, H.loc, H.locZ⟩
structure OverB (h : Heap) (l0 l1 l2 : Addr) (base : Heap) : Prop where
  b0 : base.get? l0 = none
  b1 : base.get? l1 = none
  b2 : base.get? l2 = none
  be : ∀ b, b ≠ l0 → b ≠ l1 → b ≠ l2 → base.get? b = h.get? b
theorem gone_without {h : Heap} {a b : Addr} (e : h.get? a = none) : (without h b).get? a = none := by
  by_cases q : a = b
  · rw [q]; exact without_self
  · rw [without_other q]; exact e
theorem over_base (h : Heap) (l0 l1 l2 : Addr) : OverB h l0 l1 l2 (without (without (without h l0) l1) l2) :=
  ⟨gone_without (gone_without without_self), gone_without without_self, without_self, fun b q0 q1 q2 => by rw [without_other q2, without_other q1, without_other q0]⟩
section
variable {h h' base : Heap} {l0 l1 l2 : Addr}
theorem some_ne {h : Heap} {a b : Addr} {o : Obj} (e : h.get? b = some o) (n : h.get? a = none) : b ≠ a := fun q => nomatch e.symm.trans (show h.get? b = none from q ▸ n)
theorem OverB.sub (B : OverB h l0 l1 l2 base) {b : Addr} {o : Obj} (e : base.get? b = some o) : h.get? b = some o :=
  (B.be b (some_ne e B.b0) (some_ne e B.b1) (some_ne e B.b2)).symm.trans e
theorem OverB.none (B : OverB h l0 l1 l2 base) {b : Addr} (e : h.get? b = none) : base.get? b = none := by
  cases q : base.get? b with
  | none => rfl
  | some o => exact nomatch e.symm.trans (B.sub q)
theorem OverB.frames {e0 e1 e2 : Env} {Z : Fz} (B : OverB h e0.locals e1.locals e2.locals base) (f0 : FrZ e0 Z h) (f1 : FrZ e1 Z h) (f2 : FrZ e2 Z h) (kp : ∀ b o, h.get? b = some o → h'.get? b = some o) : h'.FunFrames base [e2, e1, e0] := by
  obtain ⟨m0, n0⟩ := f0.n
  obtain ⟨m1, n1⟩ := f1.n
  obtain ⟨m2, n2⟩ := f2.n
  exact Heap.FunFrames.cons f2.k f2.f (n2.at' fun o e => kp _ o e) B.b2 (Heap.FunFrames.cons f1.k f1.f (n1.at' fun o e => kp _ o e) B.b1 (Heap.FunFrames.cons f0.k f0.f (n0.at' fun o e => kp _ o e) B.b0 trivial))
theorem OverB.kz {e0 e1 e2 : Env} {Z : Fz} (B : OverB h e0.locals e1.locals e2.locals base) (f0 : FrZ e0 Z h) (f1 : FrZ e1 Z h) (f2 : FrZ e2 Z h) {b : Addr} {o : Obj} (e : Z b = some o) (e' : h.get? b = some o) : base.get? b = some o :=
  (B.be b (fun q => nomatch e.symm.trans (show Z b = Option.none from q ▸ f0.z)) (fun q => nomatch e.symm.trans (show Z b = Option.none from q ▸ f1.z)) (fun q => nomatch e.symm.trans (show Z b = Option.none from q ▸ f2.z))).trans e'
inductive LeftZ (h base h3 : Heap) (l0 l1 l2 e : Addr) (cls : Value) : Prop
  | mk {oe oT : Obj} {vs ts : Array Value} {T : Addr} (he : h3.get? e = some oe) (hc : oe.cls = cls) (hd : oe.data = .fields vs) (h1 : vs[1]? = some (.ref T)) (hT : h3.get? T = some oT) (hdT : oT.data = .fields ts) (h3' : 3 < ts.size)
    (slot : ∀ {b o es ep}, h.get? b = some o → o.data = .dict es ep → ∃ sl, (h3.update T (Obj.mapFields (·.setIfInBounds 3 Value.none))).get? b = some { o with slots := sl })
    (kept : ∀ b o, h.get? b = some o → b ≠ l0 → b ≠ l1 → b ≠ l2 → (h3.update T (Obj.mapFields (·.setIfInBounds 3 Value.none))).get? b = some o)
theorem left_z {h1 h2 h3 : Heap} {e : Addr} {cls : Value} {L1 L2 : List Env} (B : OverB h l0 l1 l2 base) (kp : ∀ b o, h.get? b = some o → h1.get? b = some o) (k : Heap.Left base L1 e cls h1 h2) (j : Heap.Left base L2 e cls h2 h3) : LeftZ h base h3 l0 l1 l2 e cls := by
  obtain ⟨j1, _, ⟨oe, vs, T, oT, ts, he, hc, hd, h1, hnT, hTe, hT, hdT, h3'⟩, j4⟩ := j
  refine ⟨he, hc, hd, h1, hT, hdT, (Array.getElem?_eq_some_iff.mp h3').1, fun {b o es ep} e1 e2 => ?_, fun b o e1 q0 q1 q2 => ?_⟩
  · obtain ⟨sl1, q1⟩ := k.2.2.2 b o (kp b o e1) fun vs q => by rw [e2] at q; cases q
    obtain ⟨sl2, q2⟩ := j4 b _ q1 fun vs q => by rw [e2] at q; cases q
    refine ⟨sl2, ?_⟩
    rw [Heap.get?_update_other _ _ fun q => ?_]
    · exact q2
    · rw [← q, hT] at q2; cases q2; rw [hdT] at e2; cases e2
  · have e2 : base.get? b = some o := (B.be b q0 q1 q2).trans e1
    rw [Heap.get?_update_other _ _ (some_ne e2 hnT).symm]
    exact j1 b o e2
end
section
variable {C : Cx}
theorem d_over (K : LawX C) (G : DigK C) (a b : Int) (hb : b ≠ 0) (h1 : Builtin.Int.intBits a ≤ Builtin.Int.intBits b + 4000) (h2 : Builtin.Int.intBits b ≤ 2 ^ 22) :
    DefC C 34 (sQ "_law_over") [is (.int a), is (.int b)] (is (qrT a b)) := by
  obtain ⟨f, q, doc, pm, cd, hg, ho, hcd⟩ := K.over
  refine ⟨f, hg, ⟨_, _, ho, rfl⟩, fn_def (n := 32) (sc := scOf (stAt pw 85)) (ρ := [some (is (.int a)), some (is (.int b))]) (nm := [sQ "number", sQ "divisor"]) (xs := [sQ "number", sQ "divisor"]) G.q ho rfl hcd rfl rfl rfl rfl rfl (bnd2 fun _ _ => by kernel_rfl) rfl (by decide +kernel) (by decide +kernel) (by decide +kernel) (by decide +kernel) rfl fun L X => ?_⟩
  apply ex_cons
  · apply ex_try
    apply ex_ret
    apply ev_callD
    · walk_at "ev"
    · exact d_idm G a b hb h1 h2
    · decide
    · exact rfl
    · exact rfl
    · exact rfl
  · exact ex_nil
theorem over_zero (K : LawX C) (G : DigK C) (Zd : BltZ C (sQ "ZeroDivisionError") (.type "ZeroDivisionError")) {A : Around} {s : Shared} {Z : Fz} {Q : Value → Shared → Prop} {E : Value → Shared → Prop} {env0 : Env} {nm oc : List Str} {sc : List (Str × NameKind)} {X : Addr → Prop} {ρ : List (Option Vp)} {ω : List (Addr × List PV)} {κ : Addr → Option Obj}
    (hA : Room 40 A) (hfr : A.frames = some [env0]) (hf0 : env0.frame = some env0.locals) (I : Inv C Z s) (H : FSp env0 nm oc sc X ρ ω κ Z s.heap) {a : Int} {v1 v2 : Value} (r1 : Rd Z v1 (.int a)) (r2 : Rd Z v2 (.int 0)) {fo : Addr}
    (hfo : GlobZ C (sQ "_law_over") (.ref fo)) (k : ∀ v Z' s', StepX C X Z s Z' s' → FSp env0 nm oc sc X ρ ω κ Z' s'.heap → Rd Z' v (.tup [.str (sQ "none"), .int a]) → Q v s') : wpAny (model C.prog C.w) A (call (.ref fo) [v1, v2]) Q E s := by
  obtain ⟨f1, q1, doc1, pm1, cd1, hg1, ho1, hcd1⟩ := K.over
  obtain ⟨f2, q2, doc2, pm2, cd2, hg2, ho2, hcd2⟩ := G.idm
  have hff : fo = f1 := glob_uniq (h := s.heap) (hfo s.heap fun b o e => I.heap _ _ (I.base _ _ e)) (hg1 s.heap fun b o e => I.heap _ _ (I.base _ _ e))
  subst hff
  have hsat : Sat Z [v1, v2] [is (.int a), is (.int 0)] := .cons r1 (.cons r2 .nil)
  refine fn_enterE (n := 38) (Ps := [is (.int a), is (.int 0)]) (sc := scOf (stAt pw 85)) (ρ := [some (is (.int a)), some (is (.int 0))]) (nm := [sQ "number", sQ "divisor"]) (xs := [sQ "number", sQ "divisor"]) G.q ho1 rfl hcd1 rfl rfl rfl rfl rfl (bnd2 fun _ _ => by kernel_rfl) rfl (by decide +kernel) (by decide +kernel) (by decide +kernel) (by decide +kernel) rfl hA I hsat.length hsat.get (fun s₁ hA1 x1 H1 => ?_)
  generalize he1 : callEnvC (fdOf (stAt pw 85) q1 doc1 pm1 cd1) s.heap.objs.size fo = env1 at hA1 H1 ⊢
  have hf1 : env1.frame = some env1.locals := by rw [← he1]; rfl
  have hL1 : env1.locals = s.heap.objs.size := by rw [← he1]; rfl
  have hfr1 : (A.deeper env1).frames = some [env1, env0] := Around.frames_deeper hfr
  generalize A.deeper env1 = A1 at hA1 hfr1 ⊢
  show wpAny _ A1 (execs [.Try [.Return (some (.Call (.Name _ _) [.Name _ _, .Name _ _] [] _)) _] [.ExceptHandler (some (.Name _ _)) none [.Return (some (.Tuple [.Constant (.str _) _ _, .Name _ _] _ _)) _] _] [] [] _] env1) _ _ s₁
  refine wpAny_execs_cons (wpAny_Try_except ?_)
  refine wpAny_execs_cons (wpAny_Return_some ?_)
  refine wpAny_Call_NameR (ev_glob (n := 39) hg2 rfl (by decide) A1 s₁ Z _ _ hA1 x1.inv H1 fun v Z₂ s₂ x₂ pv => ?_)
  cases pv
  have H2 := (FS C _ _ _ _ _ _ _ _).stable x1.inv H1 x₂
  have hel : ∀ pp p1 p2 : Pos, EL C 39 (FS C env1 [sQ "number", sQ "divisor"] [sQ "number", sQ "divisor"] (scOf (stAt pw 85)) (fun a => s.heap.get? a = none) [some (is (.int a)), some (is (.int 0))] [] fun _ => none) (spliced (backTo pp (starEach [.Name (sQ "number") p1, .Name (sQ "divisor") p2] env1))) [is (.int a), is (.int 0)] := fun pp p1 p2 => el_cons (ev_name At.here) (el_cons (ev_name (At.there At.here)) el_nil)
  refine callWith_def (o := { cls := .type "function", data := .func (fdOf (stAt pw 9) q2 doc2 pm2 cd2) }) rfl (hel _ _ _ A1 s₂ Z₂ _ _ hA1 x₂.inv H2 fun vs Z₃ s₃ x₃ hs => ⟨x₃.inv.heap _ _ (x₃.inv.base _ _ ho2), ?_⟩) rfl
  have H3 := (FS C _ _ _ _ _ _ _ _).stable x₂.inv H2 x₃
  refine fn_enterE (n := 37) (Ps := [is (.int a), is (.int 0)]) (sc := scOf (stAt pw 9)) (ρ := [some (is (.int a)), some (is (.int 0))]) (nm := [sQ "a", sQ "b"]) (xs := [sQ "a", sQ "b"]) G.q ho2 rfl hcd2 rfl rfl rfl rfl rfl (bnd2 fun _ _ => by kernel_rfl) rfl (by decide +kernel) (by decide +kernel) (by decide +kernel) (by decide +kernel) rfl hA1 x₃.inv hs.length hs.get (fun s₄ hA2 x4 H4 => ?_)
  generalize he2 : callEnvC (fdOf (stAt pw 9) q2 doc2 pm2 cd2) s₃.heap.objs.size f2 = env2 at hA2 H4 ⊢
  have hf2 : env2.frame = some env2.locals := by rw [← he2]; rfl
  have hL2 : env2.locals = s₃.heap.objs.size := by rw [← he2]; rfl
  have hfr2 : (A1.deeper env2).frames = some [env2, env1, env0] := Around.frames_deeper hfr1
  generalize A1.deeper env2 = A2 at hA2 hfr2 ⊢
  show wpAny _ A2 (execs (.If (.Compare (.Name _ _) _ _ _) [.Raise (some (.Name _ _)) none _] _ _ :: _) env2) _ _ s₄
  rw [execs_if]
  have ht : ∀ (p1 p2 p3 : Pos) (kk : Nat) (whole : Sem Value), TV C 38 (FS C env2 [sQ "a", sQ "b"] [sQ "a", sQ "b"] (scOf (stAt pw 9)) (fun a => s₃.heap.get? a = none) [some (is (.int a)), some (is (.int 0))] [] fun _ => none) (isTrue (.Compare (.Name (sQ "b") p1) [.Eq] [.Constant (.int 0) kk p2] p3) env2 whole) true := fun _ _ _ _ _ => tv_eq (tv_cmp (ev_name (At.there At.here)) ev_int op_eq_int rfl) rfl
  refine wpAny_bind (wpAny_standAt (wpAny_bind (ht _ _ _ _ _ A2 s₄ Z₃ _ _ hA2 x4.inv H4 fun Z₅ s₅ x₅ => ?_)))
  have H5 := (FS C _ _ _ _ _ _ _ _).stable x4.inv H4 x₅
  rw [if_pos rfl]
  have I5 := x₅.inv
  have hz5 : ∀ b o, C.Z0 b = some o → s₅.heap.get? b = some o := fun b o e => I5.heap _ _ (I5.base _ _ e)
  refine wpAny_execs_cons (Raise_classB hA2.handled excClass_ZeroDivisionError excClass_ZeroDivisionError.self ?_ fun h' e hn => ?_)
  · obtain ⟨mg, mb, hn, hm, hnb, hv⟩ := Zd s₅.heap hz5
    exact Calls.Name_function_global H5.fn (by rw [show (some NameKind.globalImplicit) = (scOf (stAt pw 9)).lookup (sQ "ZeroDivisionError") from rfl, ← H5.names]; rfl) (Calls.loadGlobal_builtin (by rw [H5.gl]; exact hn) hm (by rw [H5.bl]; exact hnb) hv ⟨rfl, rfl⟩) (by decide)
  have xs : Step C Z s Z₅ s₅ := (((x1.trans x₂).trans x₃).trans x4).trans x₅
  have H05 := (FS C env0 nm oc sc X ρ ω κ).stable I H xs
  have H15 := (FS C _ _ _ _ _ _ _ _).stable x₃.inv H3 (x4.trans x₅)
  have H05 : FSp env0 nm oc sc X ρ ω κ Z₅ s₅.heap := H05
  have H15 : FSp env1 _ _ _ _ _ _ _ Z₅ s₅.heap := H15
  have H5 : FSp env2 _ _ _ _ _ _ _ Z₅ s₅.heap := H5
  have f0 := H05.fr hf0
  have f1 := H15.fr hf1
  have f2 := H5.fr hf2
  have B := over_base s₅.heap env0.locals env1.locals env2.locals
  generalize without (without (without s₅.heap env0.locals) env1.locals) env2.locals = base at B
  obtain ⟨ob, tp, ht⟩ := hn.there
  refine wpAny_leaving_first (base := base) (outer := [env1, env0]) hfr2 (B.frames f0 f1 f2 hn.keeps) hf2 ht.1 (fun b o e => hn.keeps b o (B.sub e)) (B.none hn.new) ht.2.2 rfl fun h₂ hL₂ => ?_
  show wpAny _ A1 (noteFrame (.ref e) env1) _ _ _
  refine note_next (base := base) (outer := [env0]) hfr1 hL₂.2.1.2.2 hf1 hL₂.2.2.1 hL₂.1 (B.none hn.new) fun h₃ hL₃ => ?_
  obtain @⟨oe, oT, vse, ts, T, he3, hc3, hd3, h13, hT3, hdT, h33, slot, kept⟩ := left_z B hn.keeps hL₂ hL₃
  have j1 := hL₃.1
  refine wpAny_handleBy_builtin (X := "ZeroDivisionError") (T := "ZeroDivisionError") (b := true) excClass_ZeroDivisionError.base (by rw [isSubtype_type]; kernel_rfl) excClass_ZeroDivisionError.self ?_
  obtain ⟨mg, mb, hng, hm, hnb, hv⟩ := Zd h₃ fun b o e => j1 b o (B.kz f0 f1 f2 (I5.base _ _ e) (hz5 b o e))
  refine Calls.Name_function_global H15.fn (by rw [show (some NameKind.globalImplicit) = (scOf (stAt pw 85)).lookup (sQ "ZeroDivisionError") from rfl, ← H15.names]; rfl) (Calls.loadGlobal_builtin (by rw [H15.gl]; exact hng) hm (by rw [H15.bl]; exact hnb) hv ⟨rfl, ⟨oe, he3, hc3.trans ht.2.1⟩, ?_⟩) (by decide)
  rw [if_pos rfl]
  refine wpAny_setFlight_none he3 hd3 h13 hT3 hdT h33 ?_
  generalize h₃.update T (Obj.mapFields (·.setIfInBounds 3 Value.none)) = h₄ at slot kept ⊢
  have g1 : s.heap.get? env1.locals = none := by rw [hL1]; exact gAb (Nat.le_refl _)
  have g2 : s.heap.get? env2.locals = none := by
    rw [hL2]
    exact Step.gone' ((x1.trans x₂).trans x₃) (gAb (Nat.le_refl _))
  have st4 : ∀ tk, StepX C X Z₅ s₅ Z₅ { s₅ with heap := h₄, toks := tk } := fun tk => StepX.writes I5 (W := fun b => b = env0.locals ∨ b = env1.locals ∨ b = env2.locals)
    (fun b q => by rcases q with rfl | rfl | rfl; exact H.locX; exact H.cof _ g1; exact H.cof _ g2)
    (fun b o q e1 => kept b o e1 (fun z => q (.inl z)) (fun z => q (.inr (.inl z))) (fun z => q (.inr (.inr z))))
    (fun b q => by rcases q with rfl | rfl | rfl; exact H05.locZ; exact H15.locZ; exact H5.locZ)
    (fun b q => by rcases q with rfl | rfl | rfl; exact f0.n.elim fun _ hn => I5.ns_notTab hn; exact f1.n.elim fun _ hn => I5.ns_notTab hn; exact f2.n.elim fun _ hn => I5.ns_notTab hn)
  obtain ⟨w, hvw, hpw⟩ := (At.here (nm := [sQ "divisor"]) (ρ := [some (is (.int 0))])).var H15.vars
  have hv4 : VarAt env1 h₄ (sQ "number") w := by
    obtain ⟨p, ⟨hk', m, hn', hm'⟩ | ⟨hk', c, hc, o, e1, d⟩⟩ := hvw
    · refine ⟨p, .inl ⟨hk', m, ?_, hm'⟩⟩
      obtain ⟨o, es, ep, e1, d, r⟩ := hn'
      obtain ⟨sl, e2⟩ := slot e1 d
      exact ⟨_, es, ep, e2, d, r⟩
    · have q : env1.kindOf (sQ "number") = some .local := by
        show env1.scope.names.lookup _ = _
        rw [H15.names]; rfl
      rw [q] at hk'
      rcases hk' with z | z <;> cases z
  refine wpAny_execs_cons (wpAny_Return_some (Tuple_ (args_cons (wpAny_Constant_str ?_) rfl)))
  refine args_cons (wpAny_Name (load_var H15.fn hv4 (args_nil ?_)) hv4.1.1) rfl
  refine wpAny_newObj_type ?_ (by show (2 : Nat) ≤ sizeLine; rw [sizeLine_eq]; decide)
  have xt := (Step.to xs).trans (st4 (s₅.toks + 1))
  have Hs : FSp env0 nm oc sc X ρ ω κ Z₅ h₄ := FSp.slots (s' := { s₅ with heap := h₄, toks := s₅.toks + 1 }) I H xt
    (fun b o e1 q0 q1 => kept b o (xs.keep b o e1 (fun z => z) q1) q0 (fun z => by rw [z, g1] at e1; cases e1) (fun z => by rw [z, g2] at e1; cases e1))
    (fun o e1 => by
      obtain ⟨m, hN⟩ := H.loc
      obtain ⟨o', es, ep, e2, d, _⟩ := id hN
      rw [e1] at e2; cases e2
      exact slot (xs.keep _ o e1 (fun z => z) (I.ns_notTab hN)) d)
    (fun b o e1 => (xs.new b o e1).imp id fun q => q.elim id fun z => z.elim)
  have sa := StepX.alloc (X := No) (t := s₅.toks + 1) (st4 (s₅.toks + 1)).inv (o := { cls := .type "tuple", data := .seq #[.str (sQ "none") s₅.toks, w] }) rfl
  have Hf := (FS C env0 nm oc sc X ρ ω κ).stable (st4 (s₅.toks + 1)).inv Hs sa
  exact k _ _ _ (xt.trans (Step.to sa)) Hf (.tup (n := 0) put_self (.cons (.str _ _) (.cons (hpw.le sa.le) .nil)))
end
def EXF (C : Cx) (n : Nat) (F : List Env) (X : Addr → Prop) (Φ : Asn C) (t : Sem Flow) (Ψ : Asn C) (R : Vp) : Prop :=
  ∀ (A : Around) (s : Shared) (Z : Fz) (Q : Flow → Shared → Prop) (E : Value → Shared → Prop), Room n A → A.frames = some F → Inv C Z s → Φ.at_ Z s.heap →
    (∀ Z' s', StepX C X Z s Z' s' → Ψ.at_ Z' s'.heap → Q .next s') → (∀ v Z' s', StepX C X Z s Z' s' → R.at_ Z' v → Q (.ret v) s') → wpAny (model C.prog C.w) A t Q E s
section
variable {C : Cx} {n : Nat} {X : Addr → Prop} {Z Z' : Fz} {s s' : Shared} {env : Env} {nm oc : List Str} {sc : List (Str × NameKind)} {ω : List (Addr × List PV)} {κ : Addr → Option Obj} {A : Around} {E : Value → Shared → Prop}
theorem exf_of {F : List Env} {Φ Ψ : Asn C} {R : Vp} {t : Sem Flow} (h : EX C n X Φ t Ψ R) : EXF C n F X Φ t Ψ R := fun A s Z Q E hA _ I H kn kr => h A s Z Q E hA I H kn kr
theorem exf_seq {F : List Env} {Θ Φ Ψ : Asn C} {R : Vp} {a b : List Stmt} (h1 : EXF C n F X Φ (execs a env) Ψ R) (h2 : EXF C n F X Ψ (execs b env) Θ R) : EXF C n F X Φ (execs (a ++ b) env) Θ R := fun A s Z Q E hA hF I H k kr => by
  rw [execs_append]
  refine wpAny_bind (h1 A s Z _ E hA hF I H (fun Z₁ s₁ x₁ H₁ => ?_) fun v Z₁ s₁ x₁ r => wpAny_pure (kr v Z₁ s₁ x₁ r))
  exact h2 A s₁ Z₁ Q E hA hF x₁.inv H₁ (fun Z₂ s₂ x₂ H₂ => k Z₂ s₂ (x₁.trans x₂) H₂) fun v Z₂ s₂ x₂ r => kr v Z₂ s₂ (x₁.trans x₂) r
theorem exf_cons {F : List Env} {Θ Φ Ψ : Asn C} {R : Vp} {st : Stmt} {rest : List Stmt} (h1 : EXF C n F X Φ (exec st env) Ψ R) (h2 : EXF C n F X Ψ (execs rest env) Θ R) : EXF C n F X Φ (execs (st :: rest) env) Θ R := fun A s Z Q E hA hF I H k kr => by
  refine wpAny_execs_cons (h1 A s Z _ E hA hF I H (fun Z₁ s₁ x₁ H₁ => ?_) fun v Z₁ s₁ x₁ r => kr v Z₁ s₁ x₁ r)
  exact h2 A s₁ Z₁ Q E hA hF x₁.inv H₁ (fun Z₂ s₂ x₂ H₂ => k Z₂ s₂ (x₁.trans x₂) H₂) fun v Z₂ s₂ x₂ r => kr v Z₂ s₂ (x₁.trans x₂) r
theorem exf_ifs {F : List Env} {Φ Ψ : Asn C} {R : Vp} {t : Expr} {c : Bool} {b o rest : List Stmt} {pos : Pos} (ht : TV C n Φ (isTrue t env (eval t env)) c) (hb : c = true → EXF C n F X Φ (execs (b ++ rest) env) Ψ R) (ho : c = false → EXF C n F X Φ (execs (o ++ rest) env) Ψ R) :
    EXF C n F X Φ (execs (.If t b o pos :: rest) env) Ψ R := fun A s Z Q E hA hF I H k kr => by
  rw [execs_if]
  refine wpAny_bind (wpAny_standAt (wpAny_bind (ht A s Z _ E hA I H fun Z₁ s₁ x₁ => ?_)))
  cases c with
  | true => exact hb rfl A s₁ Z₁ Q E hA hF x₁.inv (Φ.stable I H x₁) (fun Z₂ s₂ x₂ H₂ => k Z₂ s₂ (x₁.to.trans x₂) H₂) fun v Z₂ s₂ x₂ r => kr v Z₂ s₂ (x₁.to.trans x₂) r
  | false => exact ho rfl A s₁ Z₁ Q E hA hF x₁.inv (Φ.stable I H x₁) (fun Z₂ s₂ x₂ H₂ => k Z₂ s₂ (x₁.to.trans x₂) H₂) fun v Z₂ s₂ x₂ r => kr v Z₂ s₂ (x₁.to.trans x₂) r
theorem exf_for {F : List Env} {iter target : Expr} {body : List Stmt} {pos : Pos} {ds : List PV} {ρs : Nat → List (Option Vp)} {ωs : Nat → List (Addr × List PV)} {R : Vp} (hit : IT C n (FS C env nm oc sc X (ρs 0) (ωs 0) κ) iter env target ds)
    (hω : ∀ i, (ωs i).map (·.1) = (ωs 0).map (·.1))
    (step : ∀ κ' i d, ds[i]? = some d → ∃ ρ', Tgt nm oc sc target d (ρs i) ρ' ∧ EXF C n F X (FS C env nm oc sc X ρ' (ωs i) κ') (execs body env) (FS C env nm oc sc X (ρs (i + 1)) (ωs (i + 1)) κ') R)
    (hs : ∀ x, foldedSetIterable iter env x = pure x := by intro _; rfl) :
    EXF C n F X (FS C env nm oc sc X (ρs 0) (ωs 0) κ) (exec (.For target iter body [] pos) env) (FS C env nm oc sc X (ρs ds.length) (ωs ds.length) κ) R := fun A s Z Q E hA hF I H kn kr =>
  for_run hit hω hA (fun κ' i d hd => (step κ' i d hd).imp fun ρ' h => ⟨h.1, fun s Z Q E I H => h.2 A s Z Q E hA hF I H⟩) hs I H kn kr
end
section
variable {C : Cx} {X : Addr → Prop} {κ : Addr → Option Obj} {env : Env} {nm oc : List Str} {sc : List (Str × NameKind)} {ω : List (Addr × List PV)} {ρ : List (Option Vp)} {R : Vp} {Ψ : Asn C}
theorem exf_over0 (K : LawX C) (G : DigK C) (Zd : BltZ C (sQ "ZeroDivisionError") (.type "ZeroDivisionError")) {e1 e2 r : Expr} {p p2 p3 pos : Pos} {b o rest : List Stmt} {a : Int} (hf0 : env.frame = some env.locals)
    (h1 : EV C 40 (FS C env nm oc sc X ρ ω κ) (eval e1 env) (is (.int a))) (h2 : EV C 40 (FS C env nm oc sc X ρ ω κ) (eval e2 env) (is (.int 0))) (h3 : EV C 40 (FS C env nm oc sc X ρ ω κ) (eval r env) (is (.tup [.str (sQ "none"), .int a])))
    (hk : sc.lookup (sQ "_law_over") = some .globalImplicit)
    (s1 : starEach [e1, e2] env = (false, eval e1 env) :: starEach [e2] env) (s2 : starEach [e2] env = (false, eval e2 env) :: starEach [] env) (hm : behindInMarks .NotEq r = false)
    (h : EXF C 40 [env] X (FS C env nm oc sc X ρ ω κ) (execs (o ++ rest) env) Ψ R) :
    EXF C 40 [env] X (FS C env nm oc sc X ρ ω κ) (execs (.If (.Compare (.Call (.Name (sQ "_law_over") p) [e1, e2] [] p2) [.NotEq] [r] p3) b o pos :: rest) env) Ψ R := fun A s Z Q E hA hF I H kn kr => by
  obtain ⟨f1, q1, doc1, pm1, cd1, hg1, ho1, hcd1⟩ := K.over
  rw [execs_if]
  refine wpAny_bind (wpAny_standAt (wpAny_bind (wpAny_isTrue_Compare1 ?_ hm)))
  refine wpAny_Call_NameR (ev_glob (n := 40) hg1 hk (by decide) A s Z _ _ hA I H fun v Z₁ s₁ x₁ pv => ?_)
  cases pv
  have H₁ := (FS C env nm oc sc X ρ ω κ).stable I H x₁
  refine callWith_def (o := { cls := .type "function", data := .func (fdOf (stAt pw 85) q1 doc1 pm1 cd1) }) rfl (el_cons h1 (el_cons h2 el_nil s2) s1 A s₁ Z₁ _ _ hA x₁.inv H₁ fun vs Z₂ s₂ x₂ hs => ⟨x₂.inv.heap _ _ (x₂.inv.base _ _ ho1), ?_⟩) s1
  have H₂ : FSp env nm oc sc X ρ ω κ Z₂ s₂.heap := (FS C env nm oc sc X ρ ω κ).stable x₁.inv H₁ x₂
  obtain ⟨v1, _, rfl, r1, hs⟩ := sati hs
  obtain ⟨v2, _, rfl, r2, hs⟩ := sati hs
  obtain rfl := sati hs
  refine over_zero K G Zd hA hF hf0 x₂.inv H₂ r1 r2 hg1 fun v Z₃ s₃ x₃ H₃ rv => ?_
  refine h3 A s₃ Z₃ _ _ hA x₃.inv H₃ fun u Z₄ s₄ x₄ ru => ?_
  have H₄ := (FS C env nm oc sc X ρ ω κ).stable x₃.inv H₃ x₄
  have hok : okN 1 (.tup [.str (sQ "none"), .int a]) (.tup [.str (sQ "none"), .int a]) = true := rfl
  refine op_ne_tup (C := C) (n := 40) 0 (by decide) hok A s₄ Z₄ v u _ _ hA x₄.inv (rv.le x₄.le) ru fun w Z₅ s₅ x₅ rw' => ?_
  have e : (!eqN 1 (.tup [.str (sQ "none"), .int a]) (.tup [.str (sQ "none"), .int a])) = false := by rw [eqN_refl _ _ hok]; rfl
  rw [e] at rw'
  cases rw'
  refine wpAny_truthy_bool ?_
  have H₅ := (FS C env nm oc sc X ρ ω κ).stable x₄.inv H₄ x₅
  have xx := ((((Step.to x₁).trans (Step.to x₂)).trans x₃).trans (Step.to x₄)).trans (Step.to x₅)
  exact h A s₅ Z₅ Q E hA hF x₅.inv H₅ (fun Z' s' x' H' => kn Z' s' (xx.trans x') H') fun v' Z' s' x' r' => kr v' Z' s' (xx.trans x') r'
end
noncomputable def factN (t : Nat) : Int := [(1 : Int), 1, 2, 6].getD t 0
noncomputable def wK (w : Int × Int × Int) (k : Nat) : Int := if k = 0 then w.1 else w.2.1
section
variable {C : Cx} {X : Addr → Prop} {κ : Addr → Option Obj} {env : Env} {q : Str} {doc pm cd : Value} {L f : Addr} {R : Vp}
theorem l_18t (he : env = callEnvC (fdOf (stAt pw 86) q doc pm cd) L f) (K : LawX C) (w : Int × Int × Int) (S : Vp) (tn bn : Nat) (ld rs : Int) (v0 v1 v2 M : Int) (k : Nat) (hk2 : k = 0 ∨ k = 1) (tm : Vp) (hbn : bn ≤ 13) (hbn1 : 1 ≤ bn)
    (e1 : (if k = 0 then v0 else v1).fmod M = v2.fmod M) (e2 : ((if k = 0 then v0 else v1).fdiv M - v2.fdiv M - wK w k + w.2.2).fmod (2 ^ bn - 1) = 0) {bd : List Stmt} (hbd : bd = (forBody (inSt pw 86 18)).drop 2) :
    EX C 40 X (FS C env nmS nmS (scOf (stAt pw 86)) X [none, some (is (.int k)), none, none, none, none, some (is (.int tn)), none, none, none, none, some (is (.int bn)), none, some (is (.int ld)), none, none, none, none, none, none, none, none, none, none, some (S), some (is (.list [qrT v0 M, qrT v1 M, qrT v2 M])), none, none, none, none, none, none, some (is (l3 w)), some (is (.int rs)), some (tm)] [] κ) (execs bd env)
    (FS C env nmS nmS (scOf (stAt pw 86)) X [none, none, none, none, none, none, some (is (.int tn)), none, none, none, none, some (is (.int bn)), none, some (is (.int ld)), none, none, none, none, none, none, none, none, none, none, some (S), some (is (.list [qrT v0 M, qrT v1 M, qrT v2 M])), none, none, none, none, none, none, some (is (l3 w)), some (is (.int rs)), none] [] κ) R := by
  subst hbd
  have hp : (2 : Int) ^ bn - 1 ≠ 0 := by
    have h1 : (2 : Int) ^ 1 ≤ 2 ^ bn := by
      have := Nat.pow_le_pow_right (n := 2) (by decide) hbn1
      exact_mod_cast this
    lia
  show EX _ _ _ _ (execs [.If (.BoolOp _ [.Compare _ _ _ _, .Compare _ _ _ _] _) _ _ _] _) _ _
  apply ex_ifs (c := false)
  · apply tv_orF
    · apply tv_eq
      · apply tv_cmp
        · apply ev_sub
          · apply ev_sub
            · walk_at "ev"
            · walk_at "ev"
            · apply op_item_list (j := k) (d := qrT (if k = 0 then v0 else v1) M)
              · rcases hk2 with rfl | rfl <;> rfl
              · rcases hk2 with rfl | rfl <;> rfl
              · exact Nat.le_of_ble_eq_true rfl
          · walk_at "ev"
          · walk_at "op"
        · walk_at "ev"
        · exact op_ne_int
        · exact rfl
      · rw [e1]; exact bne_self_eq_false _
    · apply tv_eq
      · apply tv_cmp
        · apply ev_bin
          · apply ev_bin
            · apply ev_bin
              · apply ev_bin
                · apply ev_sub
                  · apply ev_sub
                    · walk_at "ev"
                    · walk_at "ev"
                    · apply op_item_list (j := k) (d := qrT (if k = 0 then v0 else v1) M)
                      · rcases hk2 with rfl | rfl <;> rfl
                      · rcases hk2 with rfl | rfl <;> rfl
                      · exact Nat.le_of_ble_eq_true rfl
                  · walk_at "ev"
                  · walk_at "op"
                · walk_at "ev"
                · exact op_sub_int
              · apply ev_sub
                · walk_at "ev"
                · walk_at "ev"
                · apply op_item_list (j := k) (d := .int (wK w k))
                  · rcases hk2 with rfl | rfl <;> rfl
                  · rcases hk2 with rfl | rfl <;> rfl
                  · exact Nat.le_of_ble_eq_true rfl
              · exact op_sub_int
            · walk_at "ev"
            · exact op_add_int
          · apply ev_bin
            · apply ev_bin
              · walk_at "ev"
              · walk_at "ev"
              · apply op_pow_int
                · lia
                · show ((Builtin.Int.intBits 2 : Nat) : Int) * _ ≤ _
                  rw [show Builtin.Int.intBits 2 = 2 by decide +kernel]
                  lia
            · walk_at "ev"
            · exact op_sub_int
          · exact op_mod_int hp
        · walk_at "ev"
        · exact op_ne_int
        · exact rfl
      · rw [Int.toNat_natCast, e2]; rfl
  · intro h; cases h
  · intro _
    show EX _ _ _ _ (execs [] _) _ _
    apply ex_fgt
    walk_at "at"
theorem l_18a (he : env = callEnvC (fdOf (stAt pw 86) q doc pm cd) L f) (K : LawX C) (w : Int × Int × Int) (S N : Vp) (tn bn : Nat) (ld rs : Int) (k : Nat) (hk2 : k = 0 ∨ k = 1) (htn : tn ≤ 3) :
    EX C 40 X (FS C env nmS nmS (scOf (stAt pw 86)) X [none, some (is (.int k)), none, none, none, none, some (is (.int tn)), none, none, none, none, some (is (.int bn)), none, some (is (.int ld)), none, none, none, none, none, none, none, none, none, none, some (S), some (N), none, none, none, none, none, none, some (is (l3 w)), some (is (.int rs)), none] [] κ) (exec ((forBody (inSt pw 86 18)).getD 0 (.Pass default)) env)
    (FS C env nmS nmS (scOf (stAt pw 86)) X [none, some (is (.int k)), none, none, none, none, some (is (.int tn)), none, none, none, none, some (is (.int bn)), none, some (is (.int ld)), none, none, none, none, none, none, none, none, none, none, some (S), some (N), none, none, none, none, none, none, some (is (l3 w)), some (is (.int rs)), some (is (.int (factN tn * (wK w k - w.2.2))))] [] κ) R := by
  have hf : factN tn = [(1 : Int), 1, 2, 6].getD tn 0 := rfl
  have hs : factN tn = 1 ∨ factN tn = 1 ∨ factN tn = 2 ∨ factN tn = 6 := by
    have : tn = 0 ∨ tn = 1 ∨ tn = 2 ∨ tn = 3 := by lia
    rcases this with rfl | rfl | rfl | rfl <;> decide
  show EX _ _ _ _ (exec (.Assign [_] (.BinOp (.Subscript (.Tuple [_, _, _, _] _ _) _ _) _ _ _) _) _) _ _
  apply ex_assign
  · apply ev_bin
    · apply ev_sub
      · walk_at "ev"
      · walk_at "ev"
      · apply op_item_tup (j := tn) (d := .int (factN tn))
        · exact seqIndex_nat (by show tn < 4; lia)
        · have : tn = 0 ∨ tn = 1 ∨ tn = 2 ∨ tn = 3 := by lia
          rcases this with rfl | rfl | rfl | rfl <;> rfl
        · lia
        · lia
    · apply ev_bin
      · apply ev_sub
        · walk_at "ev"
        · walk_at "ev"
        · apply op_item_list (j := k) (d := .int (wK w k))
          · rcases hk2 with rfl | rfl <;> rfl
          · rcases hk2 with rfl | rfl <;> rfl
          · exact Nat.le_of_ble_eq_true rfl
      · walk_at "ev"
      · exact op_sub_int
    · exact op_mul_int (mulOk_l (by lia))
  · walk_at "at"
  · decide +kernel
  · decide +kernel
  · walk_at "rfl"
end
theorem fmod_fdiv_self {b l : Int} (hl : l ≠ 0) : (b.fmod l).fdiv l = 0 := by
  have key : ∀ b l : Int, 0 < l → (b.fmod l).fdiv l = 0 := fun b l h => by
    rw [Int.fdiv_eq_ediv_of_nonneg _ (Int.le_of_lt h)]
    exact Int.ediv_eq_zero_of_lt (Int.fmod_nonneg_of_pos b h) (Int.fmod_lt_of_pos b h)
  rcases Int.lt_or_gt_of_ne hl with h | h
  · rw [← Int.neg_fdiv_neg, ← Int.neg_fmod_neg]
    exact key (-b) (-l) (Int.neg_pos_of_neg h)
  · exact key b l h
theorem div_rest {t l b : Int} (hl : l ≠ 0) : (t * l + b.fmod l).fdiv l = t ∧ (t * l + b.fmod l).fmod l = b.fmod l := by
  have h1 : (t * l + b.fmod l).fdiv l = t := by
    rw [Int.add_comm, Int.add_mul_fdiv_right _ _ hl, fmod_fdiv_self hl, Int.zero_add]
  have h2 := Int.mul_fdiv_add_fmod (t * l + b.fmod l) l
  rw [h1, Int.mul_comm l t] at h2
  exact ⟨h1, by lia⟩
theorem bits_self (x : Int) : x.natAbs < 2 ^ Builtin.Int.intBits x := intBits_le_iff.mp (Nat.le_refl _)
theorem mod_abs {l b : Int} (hl : l ≠ 0) : (b.fmod l).natAbs < l.natAbs := by
  have key : ∀ b l : Int, 0 < l → (b.fmod l).natAbs < l.natAbs := fun b l h => Int.natAbs_lt_natAbs_of_nonneg_of_lt (Int.fmod_nonneg_of_pos b h) (Int.fmod_lt_of_pos b h)
  rcases Int.lt_or_gt_of_ne hl with h | h
  · have := key (-b) (-l) (Int.neg_pos_of_neg h)
    rwa [Int.neg_fmod_neg, Int.natAbs_neg, Int.natAbs_neg] at this
  · exact key b l h
theorem bits_div {t l b : Int} (hl : l ≠ 0) (ht : t.natAbs < 2 ^ 20) : Builtin.Int.intBits (t * l + b.fmod l) ≤ Builtin.Int.intBits l + 4000 := by
  refine Nat.le_trans (m := 20 + Builtin.Int.intBits l) (intBits_le_iff.mpr ?_) ((Nat.add_comm _ _).symm ▸ Nat.add_le_add_left (k := Builtin.Int.intBits l) (show 20 ≤ 4000 from Nat.le_of_ble_eq_true rfl))
  refine Nat.lt_of_le_of_lt (Int.natAbs_add_le _ _) ?_
  rw [Int.natAbs_mul, Nat.pow_add]
  refine Nat.lt_of_lt_of_le (Nat.add_lt_add_left (mod_abs hl) _) ?_
  rw [← Nat.succ_mul]
  exact Nat.mul_le_mul ht (Nat.le_of_lt (bits_self l))
section
variable {C : Cx} {X : Addr → Prop} {κ : Addr → Option Obj} {env : Env} {q : Str} {doc pm cd : Value} {L f : Addr} {R : Vp}
theorem l_18b (he : env = callEnvC (fdOf (stAt pw 86) q doc pm cd) L f) (K : LawX C) (G : DigK C) (Zd : BltZ C (sQ "ZeroDivisionError") (.type "ZeroDivisionError")) (w : Int × Int × Int) (A0 A1 A2 : List Int) (tn bn : Nat) (b ld : Int) (v0 v1 v2 M : Int) (k : Nat) (hk2 : k = 0 ∨ k = 1) (htn : tn ≤ 3) (hbn : bn ≤ 13) (hbn1 : 1 ≤ bn)
    (h0 : A0.length = tn + 1) (h1 : A1.length = tn + 1) (h2 : A2.length = tn + 1)
    (e1 : (if k = 0 then v0 else v1).fmod M = v2.fmod M) (e2 : ((if k = 0 then v0 else v1).fdiv M - v2.fdiv M - wK w k + w.2.2).fmod (2 ^ bn - 1) = 0)
    (e3 : (if k = 0 then A0 else A1).getD tn 0 - A2.getD tn 0 = factN tn * (wK w k - w.2.2) * ld) (ht : (factN tn * (wK w k - w.2.2)).natAbs < 2 ^ 20) (hld : Builtin.Int.intBits ld ≤ 2 ^ 22) {bd : List Stmt} (hbd : bd = forBody (inSt pw 86 18)) :
    EXF C 40 [env] X (FS C env nmS nmS (scOf (stAt pw 86)) X [none, some (is (.int k)), none, none, none, none, some (is (.int tn)), none, none, none, none, some (is (.int bn)), none, some (is (.int ld)), none, none, none, none, none, none, none, none, none, none, some (is (.list [lI A0, lI A1, lI A2])), some (is (.list [qrT v0 M, qrT v1 M, qrT v2 M])), none, none, none, none, none, none, some (is (l3 w)), some (is (.int (restF b ld))), none] [] κ) (execs bd env)
    (FS C env nmS nmS (scOf (stAt pw 86)) X [none, none, none, none, none, none, some (is (.int tn)), none, none, none, none, some (is (.int bn)), none, some (is (.int ld)), none, none, none, none, none, none, none, none, none, none, some (is (.list [lI A0, lI A1, lI A2])), some (is (.list [qrT v0 M, qrT v1 M, qrT v2 M])), none, none, none, none, none, none, some (is (l3 w)), some (is (.int (restF b ld))), none] [] κ) R := by
  have hbd' : bd = (forBody (inSt pw 86 18)).getD 0 (.Pass default) :: (forBody (inSt pw 86 18)).getD 1 (.Pass default) :: (forBody (inSt pw 86 18)).drop 2 := hbd.trans rfl
  obtain ⟨tl, htl⟩ : ∃ tl, tl = (forBody (inSt pw 86 18)).drop 2 := ⟨_, rfl⟩
  rw [← htl] at hbd'
  subst hbd'
  have ha := l_18a (κ := κ) (X := X) (R := R) he K w (is (.list [lI A0, lI A1, lI A2])) (is (.list [qrT v0 M, qrT v1 M, qrT v2 M])) tn bn ld (restF b ld) k hk2 htn
  have ht' := fun tm => l_18t (κ := κ) (X := X) (R := R) he K w (is (.list [lI A0, lI A1, lI A2])) tn bn ld (restF b ld) v0 v1 v2 M k hk2 tm hbn hbn1 e1 e2 htl
  have g1 : ((if k = 0 then A0 else A1).map PV.int)[tn]? = some (.int ((if k = 0 then A0 else A1).getD tn 0)) := by
    rw [List.getElem?_map, List.getD_eq_getElem?_getD, List.getElem?_eq_getElem (by split <;> lia)]; rfl
  have g2 : (A2.map PV.int)[tn]? = some (.int (A2.getD tn 0)) := by rw [List.getElem?_map, List.getD_eq_getElem?_getD, List.getElem?_eq_getElem (by lia)]; rfl
  have gl : ((if k = 0 then A0 else A1).map PV.int).length = tn + 1 := by rw [List.length_map]; split <;> lia
  have gl2 : (A2.map PV.int).length = tn + 1 := by rw [List.length_map, h2]
  generalize (if k = 0 then A0 else A1).getD tn 0 = x at g1 e3
  generalize A2.getD tn 0 = y at g2 e3
  generalize factN tn * (wK w k - w.2.2) = t at ha ht e3
  clear e1 e2
  refine exf_cons (exf_of ha) ?_
  have harg : EV C 40 (FS C env nmS nmS (scOf (stAt pw 86)) X [none, some (is (.int k)), none, none, none, none, some (is (.int tn)), none, none, none, none, some (is (.int bn)), none, some (is (.int ld)), none, none, none, none, none, none, none, none, none, none, some (is (.list [lI A0, lI A1, lI A2])), some (is (.list [qrT v0 M, qrT v1 M, qrT v2 M])), none, none, none, none, none, none, some (is (l3 w)), some (is (.int (restF b ld))), some (is (.int t))] [] κ) (eval (match (forBody (inSt pw 86 18)).getD 1 (.Pass default) with | .If (.Compare (.Call _ (e :: _) _ _) _ _ _) _ _ _ => e | _ => .Constant .none 0 default) env) (is (.int (x - y + restF b ld))) := by
    show EV _ _ _ (eval (.BinOp (.BinOp (.Subscript (.Subscript _ _ _) _ _) _ (.Subscript (.Subscript _ _ _) _ _) _) _ _ _) _) _
    apply ev_bin
    · apply ev_bin
      · apply ev_sub
        · apply ev_sub
          · walk_at "ev"
          · walk_at "ev"
          · apply op_item_list (j := k) (d := lI (if k = 0 then A0 else A1))
            · rcases hk2 with rfl | rfl <;> rfl
            · rcases hk2 with rfl | rfl <;> rfl
            · exact Nat.le_of_ble_eq_true rfl
        · walk_at "ev"
        · apply op_item_list (j := tn) (d := .int x)
          · rw [gl]; exact seqIndex_nat (by lia)
          · exact g1
          · rw [gl]; lia
      · apply ev_sub
        · walk_at "ev"
        · walk_at "ev"
        · apply op_item_list (j := tn) (d := .int y)
          · rw [gl2]; exact seqIndex_nat (by lia)
          · exact g2
          · rw [gl2]; lia
      · exact op_sub_int
    · walk_at "ev"
    · exact op_add_int
  show EXF _ _ _ _ _ (execs (.If (.Compare (.Call (.Name (sQ "_law_over") _) [_, .Name _ _] [] _) [.NotEq] [.IfExp _ _ _ _] _) _ _ _ :: tl) _) _ _
  by_cases hl : ld = 0
  · subst hl
    have ea : x - y + restF b 0 = restF b 0 := by rw [e3]; simp
    rw [ea] at harg
    refine exf_over0 K G Zd (by rw [he]; rfl) harg ?_ ?_ rfl rfl rfl rfl ?_
    · walk_at "ev"
    · apply ev_ifexpF (R := is (.tup [.str (sQ "none"), .int (restF b 0)]))
      · apply tv_int
        · walk_at "ev"
        · intro _; rfl
      · rfl
      · walk_at "ev"
    · exact exf_of (ht' _)
  · have hd := div_rest (t := t) (b := b) hl
    have hbt := bits_div (t := t) (b := b) hl ht
    have hr : restF b ld = b.fmod ld := by rw [restF, if_neg hl]
    have ea : x - y + restF b ld = t * ld + b.fmod ld := by rw [e3, hr]
    rw [ea] at harg
    have D := d_over K G (t * ld + b.fmod ld) ld hl hbt hld
    have hok : okN 1 (.tup [.int t, .int (restF b ld)]) (.tup [.int t, .int (restF b ld)]) = true := rfl
    refine exf_ifs (c := false) ?_ ?_ ?_
    · apply tv_eq
      · apply tv_cmp
        · apply ev_callD (R := is (.tup [.int t, .int (restF b ld)]))
          · apply el_cons
            · exact harg
            · walk_at "ev"
            · exact rfl
          · have e : qrT (t * ld + b.fmod ld) ld = .tup [.int t, .int (restF b ld)] := by
              show PV.tup [.int _, .int _] = _
              rw [hd.1, hd.2, hr]
            rw [e] at D
            exact D
          · decide
          · exact rfl
          · exact rfl
        · apply ev_ifexpT (R := is (.tup [.int t, .int (restF b ld)]))
          · apply tv_int
            · walk_at "ev"
            · intro _; rfl
          · simpa using hl
          · walk_at "ev"
        · exact op_ne_tup 0 (by decide) hok
        · exact rfl
      · rw [eqN_refl _ _ hok]; rfl
    · intro h; cases h
    · intro _
      exact exf_of (ht' _)
theorem l_18 (he : env = callEnvC (fdOf (stAt pw 86) q doc pm cd) L f) (K : LawX C) (G : DigK C) (Zd : BltZ C (sQ "ZeroDivisionError") (.type "ZeroDivisionError")) (w : Int × Int × Int) (A0 A1 A2 : List Int) (tn bn : Nat) (b ld : Int) (v0 v1 v2 M : Int) (htn : tn ≤ 3) (hbn : bn ≤ 13) (hbn1 : 1 ≤ bn)
    (h0 : A0.length = tn + 1) (h1 : A1.length = tn + 1) (h2 : A2.length = tn + 1)
    (e1 : ∀ k : Nat, k = 0 ∨ k = 1 → (if k = 0 then v0 else v1).fmod M = v2.fmod M ∧ ((if k = 0 then v0 else v1).fdiv M - v2.fdiv M - wK w k + w.2.2).fmod (2 ^ bn - 1) = 0 ∧
      (if k = 0 then A0 else A1).getD tn 0 - A2.getD tn 0 = factN tn * (wK w k - w.2.2) * ld ∧ (factN tn * (wK w k - w.2.2)).natAbs < 2 ^ 20) (hld : Builtin.Int.intBits ld ≤ 2 ^ 22) {bd : List Stmt} (hbd : bd = [inSt pw 86 18]) :
    EXF C 40 [env] X (FS C env nmS nmS (scOf (stAt pw 86)) X [none, none, none, none, none, none, some (is (.int tn)), none, none, none, none, some (is (.int bn)), none, some (is (.int ld)), none, none, none, none, none, none, none, none, none, none, some (is (.list [lI A0, lI A1, lI A2])), some (is (.list [qrT v0 M, qrT v1 M, qrT v2 M])), none, none, none, none, none, none, some (is (l3 w)), some (is (.int (restF b ld))), none] [] κ) (execs bd env)
    (FS C env nmS nmS (scOf (stAt pw 86)) X [none, none, none, none, none, none, some (is (.int tn)), none, none, none, none, some (is (.int bn)), none, some (is (.int ld)), none, none, none, none, none, none, none, none, none, none, some (is (.list [lI A0, lI A1, lI A2])), some (is (.list [qrT v0 M, qrT v1 M, qrT v2 M])), none, none, none, none, none, none, some (is (l3 w)), some (is (.int (restF b ld))), none] [] κ) R := by
  subst hbd
  have g1 := K.range
  show EXF _ _ _ _ _ (execs [.For _ (.Call _ [.Constant _ _ _] _ _) _ _ _] _) _ _
  refine exf_cons (Ψ := FS C env nmS nmS (scOf (stAt pw 86)) X [none, none, none, none, none, none, some (is (.int tn)), none, none, none, none, some (is (.int bn)), none, some (is (.int ld)), none, none, none, none, none, none, none, none, none, none, some (is (.list [lI A0, lI A1, lI A2])), some (is (.list [qrT v0 M, qrT v1 M, qrT v2 M])), none, none, none, none, none, none, some (is (l3 w)), some (is (.int (restF b ld))), none] [] κ) ?_ (exf_of ex_nil)
  have go := exf_for (C := C) (n := 40) (F := [env]) (X := X) (env := env) (κ := κ) (R := R) (nm := nmS) (oc := nmS) (sc := scOf (stAt pw 86)) (ρs := fun _ => [none, none, none, none, none, none, some (is (.int tn)), none, none, none, none, some (is (.int bn)), none, some (is (.int ld)), none, none, none, none, none, none, none, none, none, none, some (is (.list [lI A0, lI A1, lI A2])), some (is (.list [qrT v0 M, qrT v1 M, qrT v2 M])), none, none, none, none, none, none, some (is (l3 w)), some (is (.int (restF b ld))), none]) (ωs := fun _ => []) (ds := rngL 0 2)
    (target := match inSt pw 86 18 with | .For t _ _ _ _ => t | _ => .Constant .none 0 default) (iter := iterOf (inSt pw 86 18)) (body := forBody (inSt pw 86 18)) (pos := match inSt pw 86 18 with | .For _ _ _ _ p => p | _ => default) ?_ (fun _ => rfl) ?_ (fun _ => rfl)
  · exact go
  · show IT _ _ _ (.Call (.Name _ _) [.Constant _ _ _] [] _) _ _ _
    apply it_callTt
    · assumption
    · walk_at "ev"
    · exact fi_range1 rfl
    · exact rfl
    · exact rfl
    · exact rfl
    · exact rfl
  · intro κ' i d hdd
    have hlt : i < 2 := by
      have := (List.getElem?_eq_some_iff.mp hdd).1
      rw [rngL_length] at this; exact this
    have hde : d = .int i := by
      unfold rngL at hdd
      rw [List.getElem?_map, List.getElem?_range hlt] at hdd
      cases hdd
      show PV.int (0 + (i : Int)) = _
      rw [Int.zero_add]
    subst hde
    have hi : i = 0 ∨ i = 1 := by lia
    obtain ⟨a1, a2, a3, a4⟩ := e1 i hi
    have hb := l_18b (κ := κ') (X := X) (R := R) he K G Zd w A0 A1 A2 tn bn b ld v0 v1 v2 M i hi htn hbn hbn1 h0 h1 h2 a1 a2 a3 a4 hld rfl
    refine ⟨_, ?_, hb⟩
    show Tgt _ _ _ (.Name _ _) _ _ _
    walk_at "at"
end
noncomputable def tokK : List (List Nat × Int) := [([33], 54), ([33, 61], 28), ([37], 24), ([37, 61], 40), ([38], 19), ([38, 61], 41), ([40], 7), ([41], 8), ([42], 16), ([42, 42], 35), ([42, 42, 61], 46), ([42, 61], 38), ([43], 14), ([43, 61], 36), ([44], 12), ([45], 15), ([45, 61], 37), ([45, 62], 51), ([46], 23), ([46, 46, 46], 52), ([47], 17), ([47, 47], 47), ([47, 47, 61], 48), ([47, 61], 39), ([58], 11), ([58, 61], 53), ([59], 13), ([60], 20), ([60, 60], 33), ([60, 60, 61], 44), ([60, 61], 29), ([61], 22), ([61, 61], 27), ([62], 21), ([62, 61], 30), ([62, 62], 34), ([62, 62, 61], 45), ([64], 49), ([64, 61], 50), ([91], 9), ([93], 10), ([94], 32), ([94, 61], 43), ([123], 25), ([124], 18), ([124, 61], 42), ([125], 26), ([126], 31)]
theorem tok_eq : tokI = tokK.map fun p => (⟨p.1.toArray⟩, p.2) := by decide +kernel
noncomputable def lookC (k : Str) : Option Int := (tokK.find? fun kv => kv.1 == k.cps.toList).map (·.2)
theorem lookT_eq (k : Str) : lookT k = lookC k := by
  unfold lookT lookC
  rw [tok_eq, List.find?_map, Option.map_map]
  have e : ((fun kv : Str × Int => decide (kv.1 = k)) ∘ fun p : List Nat × Int => ((⟨p.1.toArray⟩ : Str), p.2)) = fun kv => kv.1 == k.cps.toList := by
    funext p
    show decide ((⟨p.1.toArray⟩ : Str) = k) = _
    rw [Bool.eq_iff_iff, decide_eq_true_iff, beq_iff_eq]
    constructor
    · intro h; rw [← h]
    · intro h
      cases k with
      | mk cps => simp only [Str.mk.injEq]; rw [h]
  rw [e]
  rfl
noncomputable def lookL (l : List Nat) : Option Int := (tokK.find? fun kv => kv.1 == l).map (·.2)
theorem lookT_cps (k : Str) : lookT k = lookL k.cps.toList := lookT_eq k
noncomputable def szL (l : List Nat) : Nat := if (lookL (l.take 3)).isSome then 3 else if (lookL (l.take 2)).isSome then 2 else if (lookL (l.take 1)).isSome then 1 else 0
noncomputable def goL : List Nat → Nat → List Int
  | [], _ => []
  | _ :: r, k + 1 => goL r k
  | c :: r, 0 => (if szL (c :: r) ≠ 0 then (lookL ((c :: r).take (szL (c :: r)))).getD 0 else 159 + (c : Nat)) :: goL r (szL (c :: r) - 1)
theorem filter_drop (l : List Nat) (a : Array Nat) (ha : a.toList = l) (p : Nat) : ∀ m, p + m ≤ l.length → ((List.range m).map (p + ·)).filterMap (a[·]?) = (l.drop p).take m
  | 0, _ => by simp
  | m + 1, h => by
    have e : a[p + m]? = some l[p + m] := by rw [← Array.getElem?_toList, ha]; exact List.getElem?_eq_getElem h
    have e2 : (l.drop p)[m]? = some l[p + m] := by rw [List.getElem?_drop]; exact List.getElem?_eq_getElem h
    rw [List.range_succ, List.map_append, List.filterMap_append, filter_drop l a ha p m (Nat.le_of_succ_le h), List.take_add_one, e2]
    simp [e]
theorem sub_cps (x : Str) (p k : Nat) (hp : p ≤ x.length) : (subT x p (p + k : Nat)).cps.toList = (x.cps.toList.drop p).take k := by
  have hl : x.cps.toList.length = x.length := Array.length_toList
  have e1 : Builtin.Str.strSliceIndices (some (p : Int)) (some ((p + k : Nat) : Int)) 1 x.length = (List.range (min (p + k) x.length - p)).map (p + ·) := by
    unfold Builtin.Str.strSliceIndices
    simp only [show ((1 : Int) > 0) = True from by simp, if_true]
    have h1 : ¬ ((p : Int) < 0) := Int.not_lt.mpr (Int.natCast_nonneg _)
    have h2 : ¬ (((p + k : Nat) : Int) < 0) := Int.not_lt.mpr (Int.natCast_nonneg _)
    simp only [h1, h2, if_false]
    have h5 : min (p : Int) (x.length : Int) = ((p : Nat) : Int) := Int.min_eq_left (Int.ofNat_le.mpr hp)
    have h6 : min ((p + k : Nat) : Int) (x.length : Int) = ((min (p + k) x.length : Nat) : Int) := by
      rcases Nat.le_total (p + k) x.length with h | h
      · rw [Nat.min_eq_left h, Int.min_eq_left (Int.ofNat_le.mpr h)]
      · rw [Nat.min_eq_right h, Int.min_eq_right (Int.ofNat_le.mpr h)]
    first
    | rw [h5, h6, sliceRange_one]
    | rw [h5, h6, Int.max_eq_right (Int.natCast_nonneg _), Int.max_eq_right (Int.natCast_nonneg _), sliceRange_one]
  have e2 := filter_drop x.cps.toList x.cps rfl p (min (p + k) x.length - p) (by rw [hl, Nat.add_sub_cancel' (Nat.le_min.mpr ⟨Nat.le_add_right _ _, hp⟩)]; exact Nat.min_le_right _ _)
  have e3 : (x.cps.toList.drop p).take (min (p + k) x.length - p) = (x.cps.toList.drop p).take k := by
    rcases Nat.le_total (p + k) x.length with h | h
    · rw [Nat.min_eq_left h, Nat.add_sub_cancel_left]
    · rw [Nat.min_eq_right h, List.take_of_length_le (by rw [List.length_drop, hl]; exact Nat.le_refl _), List.take_of_length_le (by rw [List.length_drop, hl]; exact Nat.sub_le_iff_le_add'.mpr h)]
  unfold subT Txt.slice
  rw [e1]
  split
  · rename_i h
    simp only [beq_self_eq_true, Bool.true_and, beq_iff_eq, List.length_map, List.length_range] at h
    rcases Nat.eq_zero_or_pos p with rfl | h0
    · rw [Nat.sub_zero] at h
      rw [List.drop_zero, List.take_of_length_le (by rw [hl, ← Nat.zero_add k]; exact h ▸ Nat.min_le_left _ _)]
    · have hx : x.length = 0 := (Nat.eq_zero_or_pos x.length).resolve_right fun hx => Nat.ne_of_lt (Nat.lt_of_lt_of_le (Nat.sub_lt (Nat.lt_min.mpr ⟨Nat.lt_of_lt_of_le h0 (Nat.le_add_right _ _), hx⟩) h0) (Nat.min_le_right _ _)) h
      have : x.cps.toList = [] := List.eq_nil_of_length_eq_zero (by rw [hl]; exact hx)
      rw [this]; simp
  · rw [e2, e3]
theorem szI_eq (x : Str) (p : Nat) (hp : p ≤ x.length) : szI (rowB x p) = (szL (x.cps.toList.drop p) : Int) := by
  have h : ∀ k : Nat, rowB x p (k : Int) = (lookL ((x.cps.toList.drop p).take k)).isSome := fun k => by
    unfold rowB
    rw [lookT_cps, show (p : Int) + (k : Int) = ((p + k : Nat) : Int) from rfl, sub_cps x p k hp]
  have h1 := h 1
  have h2 := h 2
  have h3 := h 3
  unfold szI szL
  rw [show rowB x p 3 = _ from h3, show rowB x p 2 = _ from h2, show rowB x p 1 = _ from h1]
  split
  · rfl
  · split
    · rfl
    · split <;> rfl
theorem drop_lt {x : Str} {p : Nat} {c : Nat} {r : List Nat} (h : x.cps.toList.drop p = c :: r) : p < x.length := by
  have := congrArg List.length h
  rw [List.length_drop, List.length_cons, Array.length_toList] at this
  exact Nat.lt_of_sub_pos (this ▸ Nat.succ_pos _)
theorem rowI_eq (x : Str) (p : Nat) {c : Nat} {r : List Nat} (h : x.cps.toList.drop p = c :: r) : rowI x p = (if szL (c :: r) ≠ 0 then (lookL ((c :: r).take (szL (c :: r)))).getD 0 else 159 + (c : Nat)) := by
  have hp := drop_lt h
  have hs := szI_eq x p (Nat.le_of_lt hp)
  unfold rowI
  rw [hs, h, lookT_cps, show (p : Int) + (szL (c :: r) : Int) = ((p + szL (c :: r) : Nat) : Int) from rfl, sub_cps x p _ (Nat.le_of_lt hp), h]
  have hc : x.cps[p]?.getD 0 = c := by
    have : (x.cps.toList.drop p)[0]? = some c := by rw [h]; rfl
    rw [List.getElem?_drop, Nat.add_zero, Array.getElem?_toList] at this
    rw [this]; rfl
  rw [hc]
  by_cases h0 : szL (c :: r) = 0
  · rw [h0, if_neg (by decide), if_neg (by decide)]
  · rw [if_pos (show ((szL (c :: r) : Nat) : Int) ≠ 0 from fun e => h0 (Int.ofNat.inj e)), if_pos h0]
theorem max_if (n : Nat) : (if (1 : Int) > (n : Int) then (1 : Int) else n) = ((max 1 n : Nat) : Int) := by
  cases n with
  | zero => rfl
  | succ k => rw [if_neg (show ¬ (1 : Int) > ((k + 1 : Nat) : Int) from Int.not_lt.mpr (Int.ofNat_le.mpr (Nat.succ_pos k))), Nat.max_eq_right (Nat.succ_pos k)]
theorem row_fold (x : Str) : ∀ (r : List Nat) (p : Nat) (acc : List Int) (ah : Nat), x.cps.toList.drop p = r → p ≤ ah → ((List.range' p r.length).foldl (rowS x) (acc, (ah : Int))).1 = acc ++ goL r (ah - p)
  | [], p, acc, ah, _, _ => by simp [goL]
  | c :: r, p, acc, ah, h, ha => by
    have hr : x.cps.toList.drop (p + 1) = r := by rw [← List.drop_drop, h]; rfl
    have hp := drop_lt h
    rw [List.length_cons, List.range'_succ, List.foldl_cons]
    by_cases h0 : ah = p
    · subst h0
      have e : rowS x (acc, (ah : Int)) ah = (acc ++ [rowI x ah], (((ah + max 1 (szL (c :: r)) : Nat)) : Int)) := by
        unfold rowS
        rw [if_pos (Int.le_refl _), szI_eq x ah (Nat.le_of_lt hp), h, max_if]
        rfl
      rw [e, row_fold x r (ah + 1) _ _ hr (Nat.add_le_add_left (Nat.le_max_left _ _) _), rowI_eq x ah h, Nat.sub_self, goL, List.append_assoc]
      congr 2
      rw [Nat.add_sub_add_left]
      rcases Nat.eq_zero_or_pos (szL (c :: r)) with z | z
      · rw [z]; rfl
      · rw [Nat.max_eq_right z]; rfl
    · have hlt : p < ah := Nat.lt_of_le_of_ne ha fun e => h0 e.symm
      have e : rowS x (acc, (ah : Int)) p = (acc, (ah : Int)) := by
        unfold rowS
        rw [if_neg (Int.not_le.mpr (Int.ofNat_lt.mpr hlt))]
      rw [e, row_fold x r (p + 1) acc ah hr hlt]
      obtain ⟨k, rfl⟩ := Nat.exists_eq_add_of_lt hlt
      rw [show p + k + 1 - p = k + 1 from by rw [Nat.add_assoc, Nat.add_sub_cancel_left], goL, show p + k + 1 - (p + 1) = k from by rw [Nat.add_sub_add_right, Nat.add_sub_cancel_left]]
theorem rowF_goL (x : Str) : rowF x = goL x.cps.toList 0 := by
  have := row_fold x x.cps.toList 0 [] 0 (by simp) (Nat.le_refl _)
  rw [Array.length_toList] at this
  unfold rowF
  rw [List.range_eq_range']
  rw [List.nil_append] at this
  exact this
noncomputable def symD (d : Int) : List Int := if d = 0 then [] else if d = 1 then [33] else if d = 2 then [31] else [15]
noncomputable def symP (i : Nat) : List Int := if i = 0 then [256] else [16, 256 + (i : Int)]
noncomputable def symF (ds : List Int) : Nat → List Int
  | 0 => []
  | i + 1 => symF ds i ++ symP i ++ symD (ds.getD i 0)
noncomputable def tAf (k : Nat) : Str := match k with | 0 => ⟨#[97]⟩ | 1 => ⟨#[42, 98]⟩ | 2 => ⟨#[42, 99]⟩ | _ => ⟨#[42, 100]⟩
noncomputable def tDf (d : Int) : Str := if d = 0 then ⟨#[]⟩ else if d = 1 then ⟨#[60, 60]⟩ else if d = 2 then ⟨#[126]⟩ else ⟨#[45]⟩
theorem tA_eq (k : Nat) : tA k = tAf k := by
  match k with
  | 0 => decide +kernel
  | 1 => decide +kernel
  | 2 => decide +kernel
  | k + 3 => exact (by decide +kernel : sQ "*d" = ⟨#[42, 100]⟩)
theorem tD_eq (d : Int) : tD d = tDf d := by
  have e0 : sQ "" = ⟨#[]⟩ := by decide +kernel
  have e1 : sQ "<<" = ⟨#[60, 60]⟩ := by decide +kernel
  have e2 : sQ "~" = ⟨#[126]⟩ := by decide +kernel
  have e3 : sQ "-" = ⟨#[45]⟩ := by decide +kernel
  unfold tD tDf
  rw [e0, e1, e2, e3]
noncomputable def txF (ds : List Int) : Nat → Str
  | 0 => ⟨#[]⟩
  | i + 1 => txF ds i ++ tAf i ++ tDf (ds.getD i 0)
theorem txF_eq (ds : List Int) (t : Int) : ∀ n, (tlF ds t n).1 = txF ds n
  | 0 => (by decide +kernel : sQ "" = ⟨#[]⟩)
  | n + 1 => by
    show (tlF ds t n).1 ++ tA n ++ tD (ds.getD n 0) = txF ds n ++ tAf n ++ tDf (ds.getD n 0)
    rw [txF_eq ds t n, tA_eq, tD_eq]
noncomputable def tAl (k : Nat) : List Nat := match k with | 0 => [97] | 1 => [42, 98] | 2 => [42, 99] | _ => [42, 100]
noncomputable def tDl (d : Int) : List Nat := if d = 0 then [] else if d = 1 then [60, 60] else if d = 2 then [126] else [45]
noncomputable def txL (ds : List Int) : Nat → List Nat
  | 0 => []
  | i + 1 => txL ds i ++ tAl i ++ tDl (ds.getD i 0)
theorem txL_eq (ds : List Int) : ∀ n, (txF ds n).cps.toList = txL ds n
  | 0 => rfl
  | n + 1 => by
    have h1 : (tAf n).cps.toList = tAl n := by
      match n with
      | 0 => rfl
      | 1 => rfl
      | 2 => rfl
      | n + 3 => rfl
    have h2 : (tDf (ds.getD n 0)).cps.toList = tDl (ds.getD n 0) := by
      unfold tDf tDl
      split
      · rfl
      · split
        · rfl
        · split <;> rfl
    show ((txF ds n).cps ++ (tAf n).cps ++ (tDf (ds.getD n 0)).cps).toList = txL ds n ++ tAl n ++ tDl (ds.getD n 0)
    rw [Array.toList_append, Array.toList_append, txL_eq ds n, h1, h2]
noncomputable def f4 : List Int := [0, 1, 2, 3]
noncomputable def tokQ (c : Nat) : List (List Nat × Int) := if c = 97 then [] else if c = 98 then [] else if c = 99 then [] else if c = 100 then [] else if c = 42 then [([42], 16), ([42, 42], 35), ([42, 42, 61], 46), ([42, 61], 38)] else if c = 60 then [([60], 20), ([60, 60], 33), ([60, 60, 61], 44), ([60, 61], 29)] else if c = 126 then [([126], 31)] else if c = 45 then [([45], 15), ([45, 61], 37), ([45, 62], 51)] else tokK
theorem tokQ_eq (c : Nat) (r : List Nat) : (tokK.find? fun kv => kv.1 == c :: r) = (tokQ c).find? fun kv => kv.1 == c :: r := by
  have e : ∀ T, (tokK.filter fun kv => kv.1.head? == some c) = T → (tokK.find? fun kv => kv.1 == c :: r) = T.find? fun kv => kv.1 == c :: r := fun T h => by
    rw [← h, List.find?_filter]
    congr 1
    funext kv
    cases hq : kv.1 == c :: r with
    | false => simp
    | true => rw [beq_iff_eq.mp hq]; simp
  unfold tokQ
  iterate 8
    split
    · rename_i h; subst h; exact e _ (by decide +kernel)
  rfl
noncomputable def lkQ : List Nat → Option Int
  | [] => none
  | c :: r => ((tokQ c).find? fun kv => kv.1 == c :: r).map (·.2)
theorem lkQ_eq : lookL = lkQ := funext fun l => by
  cases l with
  | nil => decide +kernel
  | cons c r => exact congrArg (Option.map (·.2)) (tokQ_eq c r)
noncomputable def szQ (l : List Nat) : Nat := if (lkQ (l.take 3)).isSome then 3 else if (lkQ (l.take 2)).isSome then 2 else if (lkQ (l.take 1)).isSome then 1 else 0
theorem szQ_eq : szL = szQ := funext fun l => by unfold szL szQ; rw [lkQ_eq]
noncomputable def goQ : List Nat → Nat → List Int
  | [], _ => []
  | _ :: r, k + 1 => goQ r k
  | c :: r, 0 => let n := szQ (c :: r); (match n with | 0 => 159 + (c : Nat) | m + 1 => (lkQ ((c :: r).take (m + 1))).getD 0) :: goQ r (n - 1)
theorem goQ_eq (l : List Nat) (k : Nat) : goL l k = goQ l k := by
  induction l generalizing k with
  | nil => cases k <;> rfl
  | cons c r ih =>
    cases k with
    | succ k => exact ih k
    | zero =>
      rw [goL, goQ, szQ_eq, lkQ_eq, ih]
      cases szQ (c :: r) <;> rfl
noncomputable def rowOk (ds : List Int) : Bool := decide (goQ (txL ds ds.length) 0 = symF ds ds.length)
theorem row1 : f4.all (fun a => rowOk [a]) = true := by decide +kernel
theorem row2 : f4.all (fun a => f4.all fun b => rowOk [a, b]) = true := by decide +kernel
theorem row3 : f4.all (fun a => f4.all fun b => f4.all fun c => rowOk [a, b, c]) = true := by decide +kernel
noncomputable def r4 (a : Int) : Bool := f4.all fun b => f4.all fun c => f4.all fun d => rowOk [a, b, c, d]
theorem r40 : r4 0 = true := by decide +kernel
theorem r41 : r4 1 = true := by decide +kernel
theorem r42 : r4 2 = true := by decide +kernel
theorem r43 : r4 3 = true := by decide +kernel
theorem row4 : f4.all r4 = true := by simp only [f4, List.all_cons, List.all_nil, r40, r41, r42, r43, Bool.and_self]
theorem row_of {ds : List Int} (h : rowOk ds = true) : rowF (txF ds ds.length) = symF ds ds.length := by
  rw [rowF_goL, txL_eq, goQ_eq]; exact of_decide_eq_true h
theorem row_ok {ds : List Int} (hl : 1 ≤ ds.length) (hl2 : ds.length ≤ 4) (hd : ∀ d ∈ ds, d = 0 ∨ d = 1 ∨ d = 2 ∨ d = 3) : rowF (txF ds ds.length) = symF ds ds.length := by
  have m : ∀ d ∈ ds, d ∈ f4 := fun d h => by rcases hd d h with rfl | rfl | rfl | rfl <;> decide
  match ds, hl, hl2 with
  | [a], _, _ => exact row_of (List.all_eq_true.mp row1 a (m a (by simp)))
  | [a, b], _, _ => exact row_of (List.all_eq_true.mp (List.all_eq_true.mp row2 a (m a (by simp))) b (m b (by simp)))
  | [a, b, c], _, _ => exact row_of (List.all_eq_true.mp (List.all_eq_true.mp (List.all_eq_true.mp row3 a (m a (by simp))) b (m b (by simp))) c (m c (by simp)))
  | [a, b, c, d], _, _ => exact row_of (List.all_eq_true.mp (List.all_eq_true.mp (List.all_eq_true.mp (List.all_eq_true.mp row4 a (m a (by simp))) b (m b (by simp))) c (m c (by simp))) d (m d (by simp)))
noncomputable def powS (l : List Int) (h : List Int) (i : Nat) : Int := ((litI l h).map fun k => k ^ i).sum
noncomputable def pteOk (ks : List Int) : Bool :=
  let l := sxF ks 3
  let t := turnsN ks
  let w := worthF ks
  ((List.range t).all fun i => decide (powS l [0, 1, 5] i = powS l [4, 3, 5] i) && decide (powS l [2, 1, 3] i = powS l [4, 3, 5] i)) &&
  decide (powS l [0, 1, 5] t - powS l [4, 3, 5] t = factN t * (w.1 - w.2.2)) && decide (powS l [2, 1, 3] t - powS l [4, 3, 5] t = factN t * (w.2.1 - w.2.2)) &&
  decide ((factN t * (w.1 - w.2.2)).natAbs < 1000000) && decide ((factN t * (w.2.1 - w.2.2)).natAbs < 1000000)
theorem pte : f4.all (fun a => f4.all fun b => f4.all fun c => pteOk [a, b, c]) = true := by decide +kernel
noncomputable def numbOk (ks : List Int) (bn : Nat) : Bool :=
  let l := sxF ks 3
  let t := turnsN ks
  let w := worthF ks
  let M := modM bn t
  let v := fun h => valD bn (rowL l h)
  decide ((v [0, 1, 5]).fmod M = (v [4, 3, 5]).fmod M) && decide ((v [2, 1, 3]).fmod M = (v [4, 3, 5]).fmod M) &&
  decide (((v [0, 1, 5]).fdiv M - (v [4, 3, 5]).fdiv M - w.1 + w.2.2).fmod (2 ^ bn - 1) = 0) && decide (((v [2, 1, 3]).fdiv M - (v [4, 3, 5]).fdiv M - w.2.1 + w.2.2).fmod (2 ^ bn - 1) = 0)
theorem numb6 : f4.all (fun a => f4.all fun b => f4.all fun c => numbOk [a, b, c] 6) = true := by decide +kernel
theorem numb7 : f4.all (fun a => f4.all fun b => f4.all fun c => numbOk [a, b, c] 7) = true := by decide +kernel
theorem numb8 : f4.all (fun a => f4.all fun b => f4.all fun c => numbOk [a, b, c] 8) = true := by decide +kernel
theorem numb9 : f4.all (fun a => f4.all fun b => f4.all fun c => numbOk [a, b, c] 9) = true := by decide +kernel
theorem numb10 : f4.all (fun a => f4.all fun b => f4.all fun c => numbOk [a, b, c] 10) = true := by decide +kernel
theorem numb11 : f4.all (fun a => f4.all fun b => f4.all fun c => numbOk [a, b, c] 11) = true := by decide +kernel
theorem numb12 : f4.all (fun a => f4.all fun b => f4.all fun c => numbOk [a, b, c] 12) = true := by decide +kernel
theorem numb13 : f4.all (fun a => f4.all fun b => f4.all fun c => numbOk [a, b, c] 13) = true := by decide +kernel
noncomputable def ps (c : Nat → Int) (x : Int) : Nat → Int
  | 0 => 0
  | n + 1 => ps c x n + c n * x ^ n
theorem ps_add (a b : Nat → Int) (x : Int) : ∀ n, ps (fun i => a i + b i) x n = ps a x n + ps b x n
  | 0 => rfl
  | n + 1 => by simp only [ps]; rw [ps_add a b x n, Int.add_mul]; lia
theorem ps_smul (t : Int) (a : Nat → Int) (x : Int) : ∀ n, ps (fun i => t * a i) x n = t * ps a x n
  | 0 => by simp [ps]
  | n + 1 => by simp only [ps]; rw [ps_smul t a x n, Int.mul_add, Int.mul_assoc]
theorem ps_congr {a b : Nat → Int} {x : Int} : ∀ n, (∀ i, i < n → a i = b i) → ps a x n = ps b x n
  | 0, _ => rfl
  | n + 1, h => by simp only [ps]; rw [ps_congr n fun i hi => h i (by lia), h n (by lia)]
theorem ps_shift (c : Nat → Int) (x : Int) : ∀ n, ps (fun i => if i = 0 then 0 else c (i - 1)) x (n + 1) = x * ps c x n
  | 0 => by simp [ps]
  | n + 1 => by
    rw [ps, ps_shift c x n, ps, if_neg (by lia), Nat.add_sub_cancel, Int.mul_add, Int.pow_succ]
    have : c n * (x ^ n * x) = x * (c n * x ^ n) := by rw [Int.mul_comm x, Int.mul_assoc]
    rw [this]
theorem ps_const (c : Nat → Int) (t x : Int) : ∀ n, ps (fun i => if i = 0 then c 0 + t else c i) x (n + 1) = ps c x (n + 1) + t
  | 0 => by simp [ps]
  | n + 1 => by
    rw [ps, ps_const c t x n, if_neg (by lia)]
    rw [show ps c x (n + 1 + 1) = ps c x (n + 1) + c (n + 1) * x ^ (n + 1) from rfl]
    lia
def PolyD (d : Nat) (lc : Int) (f : Int → Int) : Prop := ∃ c : Nat → Int, c d = lc ∧ ∀ x, f x = ps c x (d + 1)
theorem PolyD.add {d : Nat} {lc : Int} {f : Int → Int} (t : Int) (h : PolyD d lc f) : PolyD d (if d = 0 then lc + t else lc) fun x => f x + t := by
  obtain ⟨c, h1, h2⟩ := h
  refine ⟨fun i => if i = 0 then c 0 + t else c i, ?_, fun x => by show f x + t = _; rw [ps_const, h2]⟩
  dsimp only
  split
  · rename_i h0; subst h0; rw [h1]
  · exact h1
theorem PolyD.smul {d : Nat} {lc : Int} {f : Int → Int} (t : Int) (h : PolyD d lc f) : PolyD d (t * lc) fun x => t * f x := by
  obtain ⟨c, h1, h2⟩ := h
  exact ⟨fun i => t * c i, by show t * c d = _; rw [h1], fun x => by show t * f x = _; rw [ps_smul, h2]⟩
theorem PolyD.neg {d : Nat} {lc : Int} {f : Int → Int} (h : PolyD d lc f) : PolyD d (-lc) fun x => -f x := by
  have := h.smul (-1)
  simpa using this
theorem PolyD.mul {d : Nat} {lc : Int} {f : Int → Int} (b : Int) (h : PolyD d lc f) : PolyD (d + 1) lc fun x => f x * (b + x) := by
  obtain ⟨c, h1, h2⟩ := h
  refine ⟨fun i => (if i ≤ d then b * c i else 0) + (if i = 0 then 0 else c (i - 1)), ?_, fun x => ?_⟩
  · dsimp only
    rw [if_neg (by lia), if_neg (by lia), Nat.add_sub_cancel, h1, Int.zero_add]
  · rw [ps_add, ps_shift]
    have e : ps (fun i => if i ≤ d then b * c i else 0) x (d + 1 + 1) = b * ps c x (d + 1) := by
      rw [ps, if_neg (by lia), Int.zero_mul, Int.add_zero, ← ps_smul]
      exact ps_congr _ fun i hi => if_pos (by lia)
    show f x * (b + x) = _
    rw [e, ← h2, Int.mul_add, Int.mul_comm (f x) b, Int.mul_comm (f x) x]
theorem sum_ps (L : List Int) (c : Nat → Int) : ∀ n, (L.map fun k => ps c k n).sum = ((List.range n).map fun i => c i * (L.map fun k => k ^ i).sum).sum
  | 0 => by
    simp only [ps, List.range_zero, List.map_nil, List.sum_nil]
    induction L with
    | nil => rfl
    | cons x L ih => rw [List.map_cons, List.sum_cons, ih]; rfl
  | n + 1 => by
    have e : (L.map fun k => ps c k (n + 1)).sum = (L.map fun k => ps c k n).sum + c n * (L.map fun k => k ^ n).sum := by
      induction L with
      | nil => simp
      | cons x L ih =>
        simp only [List.map_cons, List.sum_cons] at ih ⊢
        rw [ih, ps, Int.mul_add]; lia
    rw [e, sum_ps L c n, List.range_succ, List.map_append, List.sum_append]
    simp
theorem sum_congr {P P' : Nat → Int} (c : Nat → Int) {n : Nat} (h : ∀ i, i < n → P i = P' i) : ((List.range n).map fun i => c i * P i).sum = ((List.range n).map fun i => c i * P' i).sum := by
  congr 1
  apply List.map_congr_left
  intro i hi
  rw [h i (List.mem_range.mp hi)]
theorem poly_lt {d : Nat} {lc : Int} {f : Int → Int} (hf : PolyD d lc f) {L L' : List Int} (h : ∀ i, i ≤ d → (L.map fun k => k ^ i).sum = (L'.map fun k => k ^ i).sum) : (L.map f).sum = (L'.map f).sum := by
  obtain ⟨c, _, h2⟩ := hf
  have e : f = fun x => ps c x (d + 1) := funext h2
  rw [e, sum_ps, sum_ps]
  exact sum_congr (P := fun i => (L.map fun k => k ^ i).sum) (P' := fun i => (L'.map fun k => k ^ i).sum) c fun i hi => h i (by lia)
theorem poly_eq {d : Nat} {lc : Int} {f : Int → Int} (hf : PolyD d lc f) {L L' : List Int} (h : ∀ i, i < d → (L.map fun k => k ^ i).sum = (L'.map fun k => k ^ i).sum) : (L.map f).sum - (L'.map f).sum = lc * ((L.map fun k => k ^ d).sum - (L'.map fun k => k ^ d).sum) := by
  obtain ⟨c, h1, h2⟩ := hf
  have e : f = fun x => ps c x (d + 1) := funext h2
  have e2 := sum_congr (P := fun i => (L.map fun k => k ^ i).sum) (P' := fun i => (L'.map fun k => k ^ i).sum) c (n := d) h
  rw [e, sum_ps, sum_ps, List.range_succ, List.map_append, List.map_append, List.sum_append, List.sum_append]
  simp only [List.map_cons, List.map_nil, List.sum_cons, List.sum_nil, Int.add_zero]
  rw [e2, h1, Int.mul_sub]; lia
theorem runS_map (T : List Int) (b : Int) (N : Nat) (f : Int → Int) (st : List (List Int)) (sym : Int) :
    runS T (numsB b N) ((List.range N).map fun (k : Nat) => f k, st) sym = ((List.range N).map fun (k : Nat) => runV T sym (f k) (b + k), if sym = 16 then st ++ [(List.range N).map fun (k : Nat) => f k] else st) := by
  unfold runS numsB
  congr 1
  show (((List.range N).map fun (k : Nat) => f k).zip ((List.range N).map fun (k : Nat) => b + (k : Int))).map _ = _
  rw [List.zip_map', List.map_map]
  rfl
theorem dress_step (T : List Int) (b : Int) (N : Nat) (d : Int) (hd : d = 0 ∨ d = 1 ∨ d = 2 ∨ d = 3) (n : Nat) {lc : Int} {f : Int → Int} (hf : PolyD n lc f) (st : List (List Int)) :
    ∃ f', (symD d).foldl (runS T (numsB b N)) ((List.range N).map fun (k : Nat) => f k, st) = ((List.range N).map fun (k : Nat) => f' k, st) ∧ PolyD n (leadS lc n d) f' := by
  rcases hd with rfl | rfl | rfl | rfl
  · exact ⟨f, rfl, hf⟩
  · refine ⟨fun x => 2 * f x, ?_, hf.smul 2⟩
    show runS _ _ _ 33 = _
    rw [runS_map]; rfl
  · refine ⟨fun x => -f x + -1, ?_, ?_⟩
    · show runS _ _ _ 31 = _
      rw [runS_map]; rfl
    · have := hf.neg.add (-1)
      have e : (if n = 0 then -lc + -1 else -lc) = leadS lc n 2 := by
        rw [show leadS lc n 2 = -lc - (if n = 0 then 1 else 0) from rfl]
        split <;> lia
      rw [e] at this
      exact this
  · refine ⟨fun x => -f x, ?_, ?_⟩
    · show runS _ _ _ 15 = _
      rw [runS_map]; rfl
    · exact hf.neg
theorem run_poly (ds : List Int) (hd : ∀ i, ds.getD i 0 = 0 ∨ ds.getD i 0 = 1 ∨ ds.getD i 0 = 2 ∨ ds.getD i 0 = 3) (t0 t1 t2 t3 b : Int) (N : Nat) : ∀ n, n ≤ 3 →
    ∃ g : Nat → Int → Int, (symF ds (n + 1)).foldl (runS [t0, t1, t2, t3] (numsB b N)) ((numsB b N).map fun _ => 0, []) = ((List.range N).map fun (k : Nat) => g n k, (List.range n).map fun j => (List.range N).map fun (k : Nat) => g j k) ∧
      (∀ j, j ≤ n → ∃ lc, PolyD j lc (g j)) ∧ PolyD n (tlF ds t0 (n + 1)).2 (g n)
  | 0, _ => by
    have p0 : PolyD 0 t0 fun _ => t0 := ⟨fun _ => t0, rfl, fun x => by simp [ps]⟩
    obtain ⟨f', e, p⟩ := dress_step [t0, t1, t2, t3] b N (ds.getD 0 0) (hd 0) 0 p0 []
    refine ⟨fun _ => f', ?_, fun j hj => by
      have h0 : j = 0 := by lia
      subst h0; exact ⟨_, p⟩, p⟩
    have e1 : symF ds (0 + 1) = 256 :: symD (ds.getD 0 0) := rfl
    rw [e1, List.foldl_cons]
    have e2 : ((numsB b N).map fun _ => (0 : Int)) = (List.range N).map fun (k : Nat) => (fun _ : Int => (0 : Int)) k := by
      rw [numsB, List.map_map]; rfl
    rw [e2, runS_map [t0, t1, t2, t3] b N (fun _ : Int => (0 : Int)) [] 256]
    have e3 : ((List.range N).map fun (k : Nat) => runV [t0, t1, t2, t3] 256 ((fun _ : Int => (0 : Int)) k) (b + k)) = (List.range N).map fun (k : Nat) => (fun _ : Int => t0) k := by
      apply List.map_congr_left
      intro k _
      show (0 : Int) + t0 = t0
      lia
    rw [e3]
    exact e
  | n + 1, hn => by
    obtain ⟨g, e, hp, hl⟩ := run_poly ds hd t0 t1 t2 t3 b N n (by lia)
    have p1 := (hl.mul b).add ([t0, t1, t2, t3].getD (n + 1) 0)
    rw [if_neg (by lia)] at p1
    obtain ⟨f', e', p⟩ := dress_step [t0, t1, t2, t3] b N (ds.getD (n + 1) 0) (hd (n + 1)) (n + 1) p1 ((List.range n).map (fun j => (List.range N).map fun (k : Nat) => g j k) ++ [(List.range N).map fun (k : Nat) => g n k])
    refine ⟨fun j => if j = n + 1 then f' else g j, ?_, fun j hj => ?_, ?_⟩
    · have e1 : symF ds (n + 1 + 1) = symF ds (n + 1) ++ ([16, 256 + ((n + 1 : Nat) : Int)] ++ symD (ds.getD (n + 1) 0)) := by
        show symF ds (n + 1) ++ symP (n + 1) ++ symD (ds.getD (n + 1) 0) = _
        rw [List.append_assoc]; rfl
      rw [e1, List.foldl_append, e, List.foldl_append, List.foldl_cons, List.foldl_cons, List.foldl_nil, runS_map]
      rw [show ((if (16 : Int) = 16 then ((List.range n).map fun j => (List.range N).map fun (k : Nat) => g j k) ++ [(List.range N).map fun (k : Nat) => g n k] else ((List.range n).map fun j => (List.range N).map fun (k : Nat) => g j k))) = ((List.range n).map (fun j => (List.range N).map fun (k : Nat) => g j k) ++ [(List.range N).map fun (k : Nat) => g n k]) from if_pos rfl]
      have e2 : ((List.range N).map fun (k : Nat) => runV [t0, t1, t2, t3] 16 (g n k) (b + k)) = (List.range N).map fun (k : Nat) => (fun x : Int => g n x * (b + x)) k := rfl
      rw [e2, runS_map [t0, t1, t2, t3] b N (fun x : Int => g n x * (b + x)) _ (256 + ((n + 1 : Nat) : Int)), if_neg (by lia)]
      have e3 : ((List.range N).map fun (k : Nat) => runV [t0, t1, t2, t3] (256 + ((n + 1 : Nat) : Int)) ((fun x : Int => g n x * (b + x)) (k : Int)) (b + (k : Int))) = (List.range N).map fun (k : Nat) => (fun x : Int => g n x * (b + x) + [t0, t1, t2, t3].getD (n + 1) 0) k := by
        apply List.map_congr_left
        intro k _
        show runV _ _ _ _ = _
        unfold runV
        rw [if_pos (by lia), show (256 + ((n + 1 : Nat) : Int) - 256).toNat = n + 1 by lia]
      rw [e3, e']
      congr 1
      · show _ = (List.range N).map fun (k : Nat) => (if n + 1 = n + 1 then f' else g (n + 1)) k
        rw [if_pos rfl]
      · rw [List.range_succ, List.map_append]
        congr 1
        · apply List.map_congr_left
          intro j hj
          have := List.mem_range.mp hj
          show _ = (List.range N).map fun (k : Nat) => (if j = n + 1 then f' else g j) k
          rw [if_neg (by lia)]
        · show _ = [(List.range N).map fun (k : Nat) => (if n = n + 1 then f' else g n) k]
          rw [if_neg (by lia)]
    · dsimp only
      split
      · rename_i h; subst h; exact ⟨_, p⟩
      · exact hp j (by lia)
    · dsimp only
      rw [if_pos rfl]
      exact p
theorem symF_mem (ds : List Int) (hd : ∀ i, ds.getD i 0 = 0 ∨ ds.getD i 0 = 1 ∨ ds.getD i 0 = 2 ∨ ds.getD i 0 = 3) : ∀ n, n ≤ 4 → ∀ k ∈ symF ds n, k = 15 ∨ k = 16 ∨ k = 31 ∨ k = 33 ∨ (256 ≤ k ∧ k < 260)
  | 0, _ => by simp [symF]
  | n + 1, hn => fun k hk => by
    rcases List.mem_append.mp hk with hk | hk
    · rcases List.mem_append.mp hk with hk | hk
      · exact symF_mem ds hd n (by lia) k hk
      · unfold symP at hk
        split at hk
        · simp at hk; lia
        · simp at hk; lia
    · unfold symD at hk
      rcases hd n with h | h | h | h <;> rw [h] at hk <;> simp at hk <;> lia
theorem symF_len (ds : List Int) : ∀ n, (symF ds n).length ≤ 3 * n
  | 0 => Nat.le_refl 0
  | n + 1 => by
    have ih := symF_len ds n
    have h1 : (symP n).length ≤ 2 := by unfold symP; split <;> simp
    have h2 : (symD (ds.getD n 0)).length ≤ 1 := by
      unfold symD
      split
      · simp
      · split
        · simp
        · split <;> simp
    show (symF ds n ++ symP n ++ symD (ds.getD n 0)).length ≤ _
    rw [List.length_append, List.length_append]; lia
noncomputable def sumI (l : List Int) (stages : List (List Int)) (h : List Int) : List Int := stages.map fun st => ((litI l h).map fun k => st.getD k.toNat 0).sum
theorem getD_all {ds : List Int} (hd : ∀ d ∈ ds, d = 0 ∨ d = 1 ∨ d = 2 ∨ d = 3) (i : Nat) : ds.getD i 0 = 0 ∨ ds.getD i 0 = 1 ∨ ds.getD i 0 = 2 ∨ ds.getD i 0 = 3 := by
  rw [List.getD_eq_getElem?_getD]
  cases g : ds[i]? with
  | none => exact .inl rfl
  | some x => exact hd x (List.mem_of_getElem? g)
structure StageOk (l : List Int) (stages : List (List Int)) (tn : Nat) (g : Nat → Int → Int) : Prop where
  eq : stages = (List.range (tn + 1)).map fun j => (List.range l.length).map fun (k : Nat) => g j k
theorem StageOk.len {l stages tn g} (h : StageOk l stages tn g) : stages.length = tn + 1 := by rw [h.eq, List.length_map, List.length_range]
theorem StageOk.row {l stages tn g} (h : StageOk l stages tn g) : ∀ st ∈ stages, st.length = l.length := fun st hs => by
  rw [h.eq] at hs
  obtain ⟨j, _, rfl⟩ := List.mem_map.mp hs
  rw [List.length_map, List.length_range]
theorem StageOk.sum {l stages tn g} (h : StageOk l stages tn g) (hh : List Int) {i : Nat} (hi : i ≤ tn) : (sumI l stages hh).getD i 0 = ((litI l hh).map (g i)).sum := by
  have e : (sumI l stages hh)[i]? = some (((litI l hh).map (g i)).sum) := by
    unfold sumI
    rw [List.getElem?_map, h.eq, List.getElem?_map, List.getElem?_range (by lia)]
    show some ((litI l hh).map fun k => ((List.range l.length).map fun (k : Nat) => g i k).getD k.toNat 0).sum = some _
    congr 2
    apply List.map_congr_left
    intro k hk
    have hk2 := litI_mem hk
    rw [List.getD_eq_getElem?_getD, List.getElem?_map, List.getElem?_range (by lia)]
    show g i ((k.toNat : Nat) : Int) = g i k
    rw [Int.toNat_of_nonneg hk2.1]
  rw [List.getD_eq_getElem?_getD, e]; rfl
theorem stages_ok (l ds : List Int) (hd : ∀ d ∈ ds, d = 0 ∨ d = 1 ∨ d = 2 ∨ d = 3) (t0 t1 t2 t3 b : Int) (tn : Nat) (htn : tn ≤ 3) (hl : ds.length = tn + 1) :
    ∃ g, StageOk l (runF [t0, t1, t2, t3] (numsB b l.length) (rowF (tlF ds t0 (tn + 1)).1)) tn g ∧ (∀ j, j ≤ tn → ∃ lc, PolyD j lc (g j)) ∧ PolyD tn (tlF ds t0 (tn + 1)).2 (g tn) := by
  obtain ⟨g, e, h1, h2⟩ := run_poly ds (getD_all hd) t0 t1 t2 t3 b l.length tn htn
  refine ⟨g, ⟨?_⟩, h1, h2⟩
  have er : rowF (tlF ds t0 (tn + 1)).1 = symF ds (tn + 1) := by
    rw [txF_eq, ← hl]
    exact row_ok (by lia) (by lia) hd
  rw [er]
  unfold runF
  rw [e, List.range_succ, List.map_append]
  rfl
theorem row_facts (ds : List Int) (hd : ∀ d ∈ ds, d = 0 ∨ d = 1 ∨ d = 2 ∨ d = 3) (t0 : Int) (tn : Nat) (htn : tn ≤ 3) (hl : ds.length = tn + 1) :
    (∀ k ∈ rowF (tlF ds t0 (tn + 1)).1, k = 15 ∨ k = 16 ∨ k = 31 ∨ k = 33 ∨ (256 ≤ k ∧ k < 260)) ∧ (rowF (tlF ds t0 (tn + 1)).1).length ≤ 1000 ∧ (tlF ds t0 (tn + 1)).1.length ≤ 1000 := by
  have er : rowF (tlF ds t0 (tn + 1)).1 = symF ds (tn + 1) := by
    rw [txF_eq, ← hl]
    exact row_ok (by lia) (by lia) hd
  have h3 := symF_len ds (tn + 1)
  have h4 := tl_len ds t0 (tn + 1)
  rw [er]
  exact ⟨symF_mem ds (getD_all hd) _ (by lia), by lia, by lia⟩
theorem f4_of {k : Int} (h : okK k) : k ∈ f4 := by rcases h with rfl | rfl | rfl | rfl <;> decide
theorem pte_ok {a b c : Int} (ha : okK a) (hb : okK b) (hc : okK c) : pteOk [a, b, c] = true :=
  List.all_eq_true.mp (List.all_eq_true.mp (List.all_eq_true.mp pte a (f4_of ha)) b (f4_of hb)) c (f4_of hc)
theorem numb_ok {a b c : Int} (ha : okK a) (hb : okK b) (hc : okK c) {bn : Nat} (h1 : 6 ≤ bn) (h2 : bn ≤ 13) : numbOk [a, b, c] bn = true := by
  have go : ∀ n, f4.all (fun a => f4.all fun b => f4.all fun c => numbOk [a, b, c] n) = true → numbOk [a, b, c] n = true := fun n h =>
    List.all_eq_true.mp (List.all_eq_true.mp (List.all_eq_true.mp h a (f4_of ha)) b (f4_of hb)) c (f4_of hc)
  have : bn = 6 ∨ bn = 7 ∨ bn = 8 ∨ bn = 9 ∨ bn = 10 ∨ bn = 11 ∨ bn = 12 ∨ bn = 13 := by lia
  rcases this with rfl | rfl | rfl | rfl | rfl | rfl | rfl | rfl
  · exact go _ numb6
  · exact go _ numb7
  · exact go _ numb8
  · exact go _ numb9
  · exact go _ numb10
  · exact go _ numb11
  · exact go _ numb12
  · exact go _ numb13
theorem pte_facts {a b c : Int} (ha : okK a) (hb : okK b) (hc : okK c) :
    (∀ i, i < turnsN [a, b, c] → powS (sxF [a, b, c] 3) [0, 1, 5] i = powS (sxF [a, b, c] 3) [4, 3, 5] i ∧ powS (sxF [a, b, c] 3) [2, 1, 3] i = powS (sxF [a, b, c] 3) [4, 3, 5] i) ∧
    powS (sxF [a, b, c] 3) [0, 1, 5] (turnsN [a, b, c]) - powS (sxF [a, b, c] 3) [4, 3, 5] (turnsN [a, b, c]) = factN (turnsN [a, b, c]) * ((worthF [a, b, c]).1 - (worthF [a, b, c]).2.2) ∧
    powS (sxF [a, b, c] 3) [2, 1, 3] (turnsN [a, b, c]) - powS (sxF [a, b, c] 3) [4, 3, 5] (turnsN [a, b, c]) = factN (turnsN [a, b, c]) * ((worthF [a, b, c]).2.1 - (worthF [a, b, c]).2.2) ∧
    (factN (turnsN [a, b, c]) * ((worthF [a, b, c]).1 - (worthF [a, b, c]).2.2)).natAbs < 1000000 ∧ (factN (turnsN [a, b, c]) * ((worthF [a, b, c]).2.1 - (worthF [a, b, c]).2.2)).natAbs < 1000000 := by
  have h := pte_ok ha hb hc
  unfold pteOk at h
  simp only [Bool.and_eq_true, decide_eq_true_eq, List.all_eq_true, List.mem_range] at h
  obtain ⟨⟨⟨⟨h1, h2⟩, h3⟩, h4⟩, h5⟩ := h
  exact ⟨h1, h2, h3, h4, h5⟩
theorem numb_facts {a b c : Int} (ha : okK a) (hb : okK b) (hc : okK c) {bn : Nat} (h1 : 6 ≤ bn) (h2 : bn ≤ 13) (k : Nat) (hk : k = 0 ∨ k = 1) :
    (if k = 0 then valD bn (rowL (sxF [a, b, c] 3) [0, 1, 5]) else valD bn (rowL (sxF [a, b, c] 3) [2, 1, 3])).fmod (modM bn (turnsN [a, b, c])) = (valD bn (rowL (sxF [a, b, c] 3) [4, 3, 5])).fmod (modM bn (turnsN [a, b, c])) ∧
    ((if k = 0 then valD bn (rowL (sxF [a, b, c] 3) [0, 1, 5]) else valD bn (rowL (sxF [a, b, c] 3) [2, 1, 3])).fdiv (modM bn (turnsN [a, b, c])) - (valD bn (rowL (sxF [a, b, c] 3) [4, 3, 5])).fdiv (modM bn (turnsN [a, b, c])) - wK (worthF [a, b, c]) k + (worthF [a, b, c]).2.2).fmod (2 ^ bn - 1) = 0 := by
  have h := numb_ok ha hb hc h1 h2
  unfold numbOk at h
  simp only [Bool.and_eq_true, decide_eq_true_eq] at h
  obtain ⟨⟨⟨n1, n2⟩, n3⟩, n4⟩ := h
  rcases hk with rfl | rfl
  · exact ⟨n1, n3⟩
  · exact ⟨n2, n4⟩
theorem lead_step {l : Int} {k : Nat} {d : Int} {p : Nat} (ih : l.natAbs < p) : (leadS l k d).natAbs < p * 4 := by
  have h1 : l.natAbs * 2 + 2 ≤ p * 2 := (Nat.succ_mul l.natAbs 2) ▸ Nat.mul_le_mul_right 2 ih
  have h2 : p * 2 ≤ p * 4 := Nat.mul_le_mul_left _ (by decide)
  have h0 : l.natAbs < p * 4 := Nat.lt_of_lt_of_le ih (Nat.le_mul_of_pos_right _ (by decide))
  unfold leadS
  split
  · exact h0
  · split
    · rw [Int.natAbs_mul, Nat.mul_comm]
      exact Nat.lt_of_lt_of_le (Nat.lt_of_lt_of_le (Nat.lt_add_of_pos_right (by decide)) h1) h2
    · split
      · refine Nat.lt_of_le_of_lt (Int.natAbs_sub_le _ _) ?_
        rw [Int.natAbs_neg]
        refine Nat.lt_of_le_of_lt (m := l.natAbs + 1) (Nat.add_le_add_left (by split <;> decide) _) (Nat.lt_of_lt_of_le (Nat.lt_of_lt_of_le ?_ h1) h2)
        rw [Nat.mul_two]
        exact Nat.lt_of_lt_of_le (Nat.add_lt_add_left (by decide) l.natAbs) (Nat.add_le_add_right (Nat.le_add_left _ _) 2)
      · rw [Int.natAbs_neg]; exact h0
theorem lead_bits (ds : List Int) (t : Int) (m : Nat) (ht : t.natAbs < 2 ^ m) : ∀ n, (tlF ds t n).2.natAbs < 2 ^ (m + 2 * n)
  | 0 => ht
  | n + 1 => by
    have := lead_step (k := n) (d := ds.getD n 0) (lead_bits ds t m ht n)
    rwa [← Nat.pow_add 2 _ 2, Nat.add_assoc] at this
theorem pickI_mem {l : List Int} {lo hi st : Option Int} {x : Int} (h : x ∈ pickI l lo hi st) : x ∈ l := by
  obtain ⟨i, _, e⟩ := List.mem_filterMap.mp h
  exact List.mem_of_getElem? e
theorem pickI_len (l : List Int) (lo hi st : Option Int) : (pickI l lo hi st).length ≤ l.length := by
  have := pickL_len (l.map .int) lo hi st
  rw [pickL_ints, List.length_map, List.length_map] at this
  exact this
theorem sum_abs {B : Nat} : ∀ l : List Int, (∀ x ∈ l, x.natAbs ≤ B) → l.sum.natAbs ≤ l.length * B
  | [], _ => by simp
  | x :: l, h => by
    have ih := sum_abs l fun y hy => h y (.tail _ hy)
    have hx := h x (.head _)
    have := Int.natAbs_add_le x l.sum
    rw [List.sum_cons, List.length_cons, Nat.succ_mul, Nat.add_comm]
    exact Nat.le_trans this (Nat.add_le_add hx ih)
theorem term_bits {S : List Int} {B : Nat} (hS : S.length ≤ 63) (hB : ∀ x ∈ S, x.natAbs < 2 ^ B) (k : Int) : (termS S k).natAbs < 2 ^ (B + 6) := by
  unfold termS
  have h1 := sum_abs (B := 2 ^ B) (pickI S (some k) (some (k + 1)) none) fun x hx => Nat.le_of_lt (hB x (pickI_mem hx))
  have h2 := pickI_len S (some k) (some (k + 1)) none
  have h3 : (pickI S (some k) (some (k + 1)) none).length * 2 ^ B ≤ 63 * 2 ^ B := Nat.mul_le_mul_right _ (Nat.le_trans h2 hS)
  rw [Nat.pow_add, Nat.mul_comm]
  exact Nat.lt_of_le_of_lt (Nat.le_trans h1 h3) (Nat.mul_lt_mul_of_pos_right (by decide) (Nat.two_pow_pos _))
theorem fm4 (a : Int) : okK (a.fmod 4) := by
  have h1 : 0 ≤ a.fmod 4 := Int.fmod_nonneg_of_pos _ (by decide)
  have h2 : a.fmod 4 < 4 := Int.fmod_lt_of_pos _ (by decide)
  unfold okK; lia
theorem fm3 (a : Int) : okK (a.fmod 3) := by
  have h1 : 0 ≤ a.fmod 3 := Int.fmod_nonneg_of_pos _ (by decide)
  have h2 : a.fmod 3 < 3 := Int.fmod_lt_of_pos _ (by decide)
  unfold okK; lia
theorem dress_len (ka kb kc a b c d : Int) : (dressF [ka, kb, kc] a b c d).length = turnsN [ka, kb, kc] + 1 := by
  rw [dressF, List.length_append, List.length_take]
  exact congrArg (· + 1) (Nat.min_eq_left (List.length_filter_le (fun k : Int => k != 3) [ka, kb, kc]))
theorem dress_mem {ks : List Int} {a b c d : Int} (ha : okK a) (hb : okK b) (hc : okK c) (hd : okK d) : ∀ x ∈ dressF ks a b c d, okK x := fun x hx => by
  rcases List.mem_append.mp hx with hx | hx
  · rcases List.mem_of_mem_take hx with _ | ⟨_, _ | ⟨_, _ | ⟨_, h⟩⟩⟩
    · exact ha
    · exact hb
    · exact hc
    · cases h
  · rw [List.mem_singleton.mp hx]; exact hd
theorem ok3 {a b c : Int} (ha : okK a) (hb : okK b) (hc : okK c) : ∀ k ∈ [a, b, c], okK k := fun x hx => by
  rcases hx with _ | ⟨_, _ | ⟨_, _ | ⟨_, h⟩⟩⟩
  · exact ha
  · exact hb
  · exact hc
  · cases h
theorem begin_rng (x : Int) : -1000 ≤ x.fmod 2001 - 1000 ∧ x.fmod 2001 - 1000 ≤ 1000 :=
  ⟨Int.sub_le_sub_right (Int.fmod_nonneg_of_pos x (by decide)) 1000, show x.fmod 2001 - 1000 ≤ 2000 - 1000 from Int.sub_le_sub_right (Int.le_of_lt_add_one (show x.fmod 2001 < 2000 + 1 from Int.fmod_lt_of_pos x (by decide))) 1000⟩
theorem one4 (x : Int) : 1 + x.fmod 4 = 1 ∨ 1 + x.fmod 4 = 2 ∨ 1 + x.fmod 4 = 3 ∨ 1 + x.fmod 4 = 4 := by
  rcases fm4 x with h | h | h | h <;> rw [h]
  · exact .inl rfl
  · exact .inr (.inl rfl)
  · exact .inr (.inr (.inl rfl))
  · exact .inr (.inr (.inr rfl))
noncomputable def bnD (x : Int) : Nat := 6 + (x.fmod 8).toNat
theorem bn_facts (x : Int) : ((bnD x : Nat) : Int) = 6 + x.fmod 8 ∧ 6 ≤ bnD x ∧ bnD x ≤ 13 := by
  have h := Int.toNat_of_nonneg (Int.fmod_nonneg_of_pos x (show (0 : Int) < 8 by decide))
  refine ⟨by rw [bnD, Int.natCast_add, h]; rfl, Nat.le_add_right _ _, Nat.add_le_add_left (k := 6) (Nat.le_of_lt_succ ((Int.toNat_lt (Int.fmod_nonneg_of_pos x (by decide))).mpr (Int.fmod_lt_of_pos x (show (0 : Int) < 8 by decide)))) ⟩
theorem lead_size {S : List Int} (hS : S.length ≤ 63) (hB : ∀ x ∈ S, x.natAbs < 2 ^ 1048576) (ds : List Int) {tn : Nat} (htn : tn ≤ 3) : Builtin.Int.intBits (tlF ds (7 + termS S 0) (tn + 1)).2 ≤ 2 ^ 22 := by
  have ht := term_bits hS hB 0
  have h1 : (7 + termS S 0).natAbs < 2 ^ 1048583 := by
    have e : (2 : Nat) ^ 1048583 = 2 ^ (1048576 + 6) + 2 ^ (1048576 + 6) := by rw [← Nat.mul_two, ← Nat.pow_succ]
    have hp : 2 ^ 3 ≤ 2 ^ (1048576 + 6) := Nat.pow_le_pow_right (by decide) (by decide)
    rw [e]
    generalize 2 ^ (1048576 + 6) = P at ht hp
    exact Nat.lt_of_le_of_lt (Int.natAbs_add_le _ _) (Nat.add_lt_add_of_le_of_lt (Nat.le_trans (show 7 ≤ 2 ^ 3 by decide) hp) ht)
  exact Nat.le_trans (bits_le (lead_bits ds _ 1048583 h1 (tn + 1))) (Nat.le_trans (Nat.add_le_add_left (Nat.mul_le_mul_left 2 (Nat.succ_le_succ htn)) _) (Nat.le_of_ble_eq_true rfl))
inductive LawM (l : List Int) (stages : List (List Int)) (tn bn : Nat) (w : Int × Int × Int) (tx : Str) (ld : Int) : Prop
  | mk (hq : ∀ i, i < tn → (sumI l stages [0, 1, 5]).getD i 0 = (sumI l stages [4, 3, 5]).getD i 0 ∧ (sumI l stages [2, 1, 3]).getD i 0 = (sumI l stages [4, 3, 5]).getD i 0)
    (hE : ∀ k : Nat, k = 0 ∨ k = 1 → (if k = 0 then valD bn (rowL l [0, 1, 5]) else valD bn (rowL l [2, 1, 3])).fmod (modM bn tn) = (valD bn (rowL l [4, 3, 5])).fmod (modM bn tn) ∧
      ((if k = 0 then valD bn (rowL l [0, 1, 5]) else valD bn (rowL l [2, 1, 3])).fdiv (modM bn tn) - (valD bn (rowL l [4, 3, 5])).fdiv (modM bn tn) - wK w k + w.2.2).fmod (2 ^ bn - 1) = 0 ∧
      (if k = 0 then sumI l stages [0, 1, 5] else sumI l stages [2, 1, 3]).getD tn 0 - (sumI l stages [4, 3, 5]).getD tn 0 = factN tn * (wK w k - w.2.2) * ld ∧ (factN tn * (wK w k - w.2.2)).natAbs < 2 ^ 20)
    (hrow : ∀ st ∈ stages, st.length = l.length) (hslen : stages.length ≤ 4) (sl : ∀ h, (sumI l stages h).length = tn + 1)
    (r1 : ∀ k ∈ rowF tx, k = 15 ∨ k = 16 ∨ k = 31 ∨ k = 33 ∨ (256 ≤ k ∧ k < 260)) (r2 : (rowF tx).length ≤ 1000) (r3 : tx.length ≤ 1000)
theorem law_maths {ka kb kc : Int} (ka4 : okK ka) (kb4 : okK kb) (kc4 : okK kc) {ds : List Int} {tn : Nat} (wtn : tn = turnsN [ka, kb, kc]) (htn : tn ≤ 3) (hdl : ds.length = tn + 1) (hds : ∀ d ∈ ds, okK d) (t0 t1 t2 t3 b : Int) {bn : Nat} (hbn : 6 ≤ bn) (hbn2 : bn ≤ 13)
    {l : List Int} (wl : l = sxF [ka, kb, kc] 3) {w : Int × Int × Int} (ww : w = worthF [ka, kb, kc]) {tx : Str} {ld : Int} (wtx : tx = (tlF ds t0 (tn + 1)).1) (wld : ld = (tlF ds t0 (tn + 1)).2) : LawM l (runF [t0, t1, t2, t3] (numsB b l.length) (rowF tx)) tn bn w tx ld := by
  obtain ⟨g, hst, hp1, hp2⟩ := stages_ok l ds hds t0 t1 t2 t3 b tn htn hdl
  obtain ⟨r1, r2, r3⟩ := row_facts ds hds t0 tn htn hdl
  rw [← wtx] at hst r1 r2 r3
  rw [← wld] at hp2
  obtain ⟨f1, f2, f3, f4, f5⟩ := pte_facts ka4 kb4 kc4
  have fn := numb_facts ka4 kb4 kc4 hbn hbn2
  rw [← wtn, ← wl] at f1 f2 f3 fn
  rw [← wtn] at f4 f5
  rw [← ww] at f2 f3 f4 f5 fn
  generalize runF [t0, t1, t2, t3] (numsB b l.length) (rowF tx) = stages at hst
  refine ⟨fun i hi => ?_, fun k hk => ⟨(fn k hk).1, (fn k hk).2, ?_⟩, hst.row, by rw [hst.len]; exact Nat.succ_le_succ htn, fun h => by rw [sumI, List.length_map, hst.len], r1, r2, r3⟩
  · obtain ⟨lc, hp⟩ := hp1 i (Nat.le_of_lt hi)
    rw [hst.sum _ (Nat.le_of_lt hi), hst.sum _ (Nat.le_of_lt hi), hst.sum _ (Nat.le_of_lt hi)]
    exact ⟨poly_lt hp fun j hj => (f1 j (Nat.lt_of_le_of_lt hj hi)).1, poly_lt hp fun j hj => (f1 j (Nat.lt_of_le_of_lt hj hi)).2⟩
  · rcases hk with rfl | rfl
    · refine ⟨?_, Nat.lt_trans f4 (by decide)⟩
      show (sumI l stages [0, 1, 5]).getD tn 0 - _ = factN tn * (w.1 - w.2.2) * ld
      rw [hst.sum _ (Nat.le_refl _), hst.sum _ (Nat.le_refl _), poly_eq hp2 fun j hj => (f1 j hj).1]
      exact (congrArg (ld * ·) f2).trans (Int.mul_comm _ _)
    · refine ⟨?_, Nat.lt_trans f5 (by decide)⟩
      show (sumI l stages [2, 1, 3]).getD tn 0 - _ = factN tn * (w.2.1 - w.2.2) * ld
      rw [hst.sum _ (Nat.le_refl _), hst.sum _ (Nat.le_refl _), poly_eq hp2 fun j hj => (f1 j hj).2]
      exact (congrArg (ld * ·) f3).trans (Int.mul_comm _ _)
noncomputable abbrev h0D (S : List Int) : Int := 4 + heapS S 0
noncomputable abbrev h1D (S : List Int) : Int := 9 + heapS S 1
noncomputable abbrev h2D (S : List Int) : Int := 23 + heapS S 2
noncomputable abbrev h3D (S : List Int) : Int := 77023 + heapS S 3
noncomputable abbrev t0D (S : List Int) : Int := 7 + termS S 0
noncomputable abbrev t1D (S : List Int) : Int := -3 + termS S 1
noncomputable abbrev t2D (S : List Int) : Int := 5 + termS S 2
noncomputable abbrev t3D (S : List Int) : Int := 2 + termS S 3
noncomputable abbrev ksD (S : List Int) : List Int := [(h0D S).fmod 4, (h1D S).fmod 4, (h2D S).fmod 3]
noncomputable abbrev dsD (S : List Int) : List Int := dressF (ksD S) (((h0D S).fdiv 4).fmod 4) (((h1D S).fdiv 4).fmod 4) (((h2D S).fdiv 3).fmod 4) (((h3D S).fdiv 32016).fmod 4)
noncomputable abbrev beD (S : List Int) : Int := (h3D S).fmod 2001 - 1000
noncomputable abbrev shD (S : List Int) : Int := 1 + ((h3D S).fdiv 2001).fmod 4
noncomputable abbrev vaD (S : List Int) : Int := 1 + ((h3D S).fdiv 8004).fmod 4
noncomputable abbrev sxD (S : List Int) : List Int := sxF (ksD S) 3
noncomputable abbrev txD (S : List Int) : Str := (tlF (dsD S) (t0D S) (turnsN (ksD S) + 1)).1
noncomputable abbrev ldD (S : List Int) : Int := (tlF (dsD S) (t0D S) (turnsN (ksD S) + 1)).2
noncomputable abbrev sgD (S : List Int) : List (List Int) := runF [t0D S, t1D S, t2D S, t3D S] (numsB (beD S) (sxD S).length) (rowF (txD S))
section
variable {C : Cx} {X : Addr → Prop} {κ : Addr → Option Obj} {env : Env} {q : Str} {doc pm cd : Value} {L f : Addr}
theorem law_body (he : env = callEnvC (fdOf (stAt pw 86) q doc pm cd) L f) (K : LawX C) (G : DigK C) (H : HdrK C) (Zd : BltZ C (sQ "ZeroDivisionError") (.type "ZeroDivisionError")) (S : List Int) (hS : S.length ≤ 63) (hB : ∀ x ∈ S, x.natAbs < 2 ^ 1048576) :
    EXF C 40 [env] X (FS C env nmS nmS (scOf (stAt pw 86)) X [some (is (lI S)), none, none, none, none, none, none, none, none, none, none, none, none, none, none, none, none, none, none, none, none, none, none, none, none, none, none, none, none, none, none, none, none, none, none] [] κ) (execs (bodyOf (stAt pw 86)) env) (botA C) (is (.bool true)) := by
  have ka4 := fm4 (h0D S)
  have kb4 := fm4 (h1D S)
  have kc4 := fm3 (h2D S)
  have htn : turnsN (ksD S) ≤ 3 := List.length_filter_le (fun k : Int => k != 3) (ksD S)
  have hdl : (dsD S).length = turnsN (ksD S) + 1 := dress_len ..
  have hds : ∀ d ∈ dsD S, okK d := dress_mem (fm4 _) (fm4 _) (fm4 _) (fm4 _)
  have hb := begin_rng (h3D S)
  have bf := bn_facts ((h0D S).fdiv 16)
  have hm : ∀ x ∈ sxD S, x ∈ q6 := sxF_mem _ 3
  have hl : (sxD S).length ≤ 27 := sxF_len _ 3
  have hks := ok3 ka4 kb4 kc4
  have hld : Builtin.Int.intBits (ldD S) ≤ 2 ^ 22 := lead_size hS hB (dsD S) htn
  obtain ⟨hq, hE, hrow, hslen, sl, r1, r2, r3⟩ := law_maths (ds := dsD S) (l := sxD S) (tx := txD S) (ld := ldD S) ka4 kb4 kc4 rfl htn hdl hds (t0D S) (t1D S) (t2D S) (t3D S) (beD S) bf.2.1 bf.2.2 rfl rfl rfl rfl
  show EXF _ _ _ _ _ (execs (([inSt pw 86 0] : List Stmt) ++ ([inSt pw 86 1] ++ ([inSt pw 86 2] ++ ([inSt pw 86 3] ++ ([inSt pw 86 4] ++ ([inSt pw 86 5] ++ ([inSt pw 86 6] ++ ([inSt pw 86 7, inSt pw 86 8, inSt pw 86 9, inSt pw 86 10] ++ ([inSt pw 86 11] ++ ([inSt pw 86 12] ++ ([inSt pw 86 13] ++ ([inSt pw 86 14, inSt pw 86 15] ++ ([inSt pw 86 16] ++ ([inSt pw 86 17] ++ ([inSt pw 86 18] ++ [inSt pw 86 19]))))))))))))))) _) _ _
  refine exf_seq (exf_of (l_0 (κ := κ) (X := X) (R := is (.bool true)) he K S (Nat.le_trans hS (by decide)))) ?_
  refine exf_seq (exf_of (l_1 (κ := κ) (X := X) (R := is (.bool true)) he K S (h0D S) (h1D S) (h2D S) (h3D S) (Nat.le_trans hS (by decide)))) ?_
  refine exf_seq (exf_of (l_2 (κ := κ) (X := X) (R := is (.bool true)) he K (h0D S) (h1D S) (h2D S) (h3D S) (t0D S) (t1D S) (t2D S) (t3D S) (ksD S) rfl (lI S))) ?_
  refine exf_seq (exf_of (l_3 (κ := κ) (X := X) (R := is (.bool true)) he K (h0D S) (h1D S) (h2D S) (h3D S) (t0D S) (t1D S) (t2D S) (t3D S) (ksD S) rfl)) ?_
  have k4 := l_4 (κ := κ) (X := X) (R := is (.bool true)) he K (h0D S) (h1D S) (h2D S) (h3D S) (t0D S) (t1D S) (t2D S) (t3D S) (ksD S) (turnsN (ksD S)) (lI (dsD S))
  rw [← bf.1] at k4
  refine exf_seq (exf_of k4) ?_
  clear k4
  have hbn := bf.2.1
  have hbn2 := bf.2.2
  clear bf
  generalize bnD ((h0D S).fdiv 16) = bn at hbn hbn2 hE ⊢
  refine exf_seq (exf_of (l_5 (κ := κ) (X := X) (R := is (.bool true)) he K (t0D S) (t1D S) (t2D S) (t3D S) (ksD S) (turnsN (ksD S)) (beD S) (shD S) (vaD S) bn (lI (dsD S)))) ?_
  refine exf_seq (exf_of (l_6 (κ := κ) (X := X) (R := is (.bool true)) he K (t0D S) (t1D S) (t2D S) (t3D S) (ksD S) (dsD S) (turnsN (ksD S)) (beD S) (shD S) (vaD S) bn htn hdl hds)) ?_
  refine exf_seq (exf_of (l_7 (κ := κ) (X := X) (R := is (.bool true)) he K H (ksD S) (beD S) (shD S) (vaD S) (is (.int (ldD S))) (is (lI [t0D S, t1D S, t2D S, t3D S])) (is (.int (turnsN (ksD S)))) (is (.int bn)) (is (.str (txD S))) rfl hks (one4 _) (one4 _) hb.1 hb.2)) ?_
  refine exf_seq (exf_of (l_11 (κ := κ) (X := X) (R := is (.bool true)) he K H (sxD S) (beD S) (is (.int (ldD S))) (is (lI [t0D S, t1D S, t2D S, t3D S])) (is (.int (turnsN (ksD S)))) (is (.int bn)) (is (.str (txD S))) (is (lI (ksD S))) hm hl hb.1 hb.2)) ?_
  refine exf_seq (exf_of (l_12 (κ := κ) (X := X) (R := is (.bool true)) he K H (sxD S) (beD S) (is (.int (ldD S))) (is (lI [t0D S, t1D S, t2D S, t3D S])) (is (.int (turnsN (ksD S)))) (is (.int bn)) (is (.str (txD S))) (is (lI (ksD S))) hm hl hb.1 hb.2)) ?_
  refine exf_seq (exf_of (l_13 (κ := κ) (X := X) (R := is (.bool true)) he K (sxD S) (beD S) (is (.int (ldD S))) (is (lI [t0D S, t1D S, t2D S, t3D S])) (is (.int (turnsN (ksD S)))) (is (.int bn)) (is (.str (txD S))) (is (lI (ksD S))) hm hl hb.1 hb.2)) ?_
  refine exf_seq (exf_of (l_14 (κ := κ) (X := X) (R := is (.bool true)) he K G (sxD S) (beD S) (t0D S) (t1D S) (t2D S) (t3D S) (txD S) (is (.int (ldD S))) (is (lI (ksD S))) bn (turnsN (ksD S)) hm hl hb.1 hb.2 hbn hbn2 htn r3 r1 r2 hrow hslen rfl)) ?_
  refine exf_seq (exf_of (l_16 (κ := κ) (X := X) (R := is (.bool true)) he K (sumI (sxD S) (sgD S) [0, 1, 5]) (sumI (sxD S) (sgD S) [2, 1, 3]) (sumI (sxD S) (sgD S) [4, 3, 5]) (is (.int (ldD S))) (is (.int (beD S))) (is (.int bn)) (is (lI (ksD S))) (is (.list (huesL.map (numE (sxD S) bn (turnsN (ksD S)))))) (turnsN (ksD S)) htn (sl _) (sl _) (sl _) hq rfl)) ?_
  refine exf_seq (exf_of (l_17 (κ := κ) (X := X) (R := is (.bool true)) he K (ksD S) (beD S) (ldD S) (is (.int (turnsN (ksD S)))) (is (.int bn)) (is (.list [lI (sumI (sxD S) (sgD S) [0, 1, 5]), lI (sumI (sxD S) (sgD S) [2, 1, 3]), lI (sumI (sxD S) (sgD S) [4, 3, 5])])) (is (.list (huesL.map (numE (sxD S) bn (turnsN (ksD S)))))) rfl hks rfl)) ?_
  refine exf_seq (l_18 (κ := κ) (X := X) (R := is (.bool true)) he K G Zd (worthF (ksD S)) (sumI (sxD S) (sgD S) [0, 1, 5]) (sumI (sxD S) (sgD S) [2, 1, 3]) (sumI (sxD S) (sgD S) [4, 3, 5]) (turnsN (ksD S)) bn (beD S) (ldD S) (valD bn (rowL (sxD S) [0, 1, 5])) (valD bn (rowL (sxD S) [2, 1, 3])) (valD bn (rowL (sxD S) [4, 3, 5])) (modM bn (turnsN (ksD S))) htn hbn2 (Nat.le_trans (by decide) hbn) (sl _) (sl _) (sl _) hE hld rfl) ?_
  show EXF _ _ _ _ _ (execs [.Return (some (.Constant (.bool true) _ _)) _] _) _ _
  exact exf_of (ex_ret ev_bool)
end
noncomputable def hid (h : Heap) : Fz := fun b => if b = 54 ∨ b = 61 then none else h.get? b
noncomputable def cxOf (w : World) (h : Heap) : Cx := { prog := pw, w := w, Z0 := hid h, tabs := [(54, posOf (inSt pw 6 1), qi2d), (61, posOf (inSt pw 7 0), qd2i)] }
theorem hid_of {h : Heap} {b : Addr} {o : Obj} (h1 : b ≠ 54) (h2 : b ≠ 61) (e : h.get? b = some o) : hid h b = some o := by
  unfold hid
  rw [if_neg (fun q => q.elim h1 h2)]; exact e
theorem hid_le {h : Heap} {b : Addr} {o : Obj} (e : hid h b = some o) : h.get? b = some o := by
  unfold hid at e
  split at e
  · cases e
  · exact e
theorem nsMap_keep {h h' : Heap} (k : ∀ b o, h.get? b = some o → h'.get? b = some o) {a : Addr} {x : Str} {v : Value} (e : h.nsMap a x = some v) (y : Str) : h'.nsMap a y = h.nsMap a y := by
  unfold Heap.nsMap at e ⊢
  cases ho : h.get? a with
  | none => rw [ho] at e; cases e
  | some o => rw [k a o ho]
noncomputable def isDef : Stmt → Bool
  | .FunctionDef .. => true
  | _ => false
theorem fdOf_erase {st : Stmt} {fd : FuncData} {q : Str} {dv c : Value} (hd : isDef st = true) (e : eraseFd fd = mFd st q dv .none .none .none) (hc : fd.code = c) : fd = mFd st q dv fd.doc fd.pyModule c := by
  subst hc
  cases fd
  cases st <;> first | cases hd | skip
  simp only [eraseFd, mFd, fdOf, FuncData.mk.injEq] at e ⊢
  simp_all
theorem mFd_none (st : Stmt) (q : Str) (doc pm cd : Value) (hd : isDef st = true) : mFd st q .none doc pm cd = fdOf st q doc pm cd := by
  cases st <;> first | rfl | cases hd
theorem fn_of {h : Heap} {f : Addr} {F : FuncData} {q : Str} (e : fnSeen h f = some ({ cls := .type "function", data := .func F }, some q)) :
    ∃ fd c, h.get? f = some { cls := .type "function", data := .func fd } ∧ eraseFd fd = F ∧ fd.code = .ref c ∧ CodeIn h.get? c q := by
  unfold fnSeen at e
  split at e
  · rename_i o ho
    split at e
    · rename_i fd hd
      obtain ⟨e1, e2⟩ := Prod.mk.inj (Option.some.inj e)
      obtain ⟨cls, dict, data, slots⟩ := o
      simp only [Obj.mk.injEq, Data.func.injEq] at e1 hd
      obtain ⟨a1, a2, a3, a4⟩ := e1
      subst a1; subst a2; subst a4; subst hd
      unfold codeQ at e2
      split at e2
      · rename_i c hc
        split at e2
        · rename_i oc hoc
          split at e2
          · rename_i vs hvs
            split at e2
            · rename_i q' t hq
              cases e2
              exact ⟨fd, c, ho, a3, hc, oc, vs, t, hoc, hvs, hq⟩
            · cases e2
          · cases e2
        · cases e2
      · cases e2
    · cases e
  · cases e
theorem def_of {h : Heap} {x : Str} {F : FuncData} {q : Str} (e : defSeen h x = some ({ cls := .type "function", data := .func F }, some q)) :
    ∃ f, h.nsMap mainGlobals x = some (.ref f) ∧ fnSeen h f = some ({ cls := .type "function", data := .func F }, some q) := by
  unfold defSeen at e
  split at e
  · rename_i f hf
    exact ⟨f, hf, e⟩
  · cases e
theorem pvOf_int {v : Option Value} {i : Int} (e : pvOf v = .int i) : ∃ t, v = some (.int i t) := by
  unfold pvOf at e
  split at e <;> cases e
  exact ⟨_, rfl⟩
theorem pvOf_flt {v : Option Value} {i : UInt64} (e : pvOf v = .flt i) : ∃ t, v = some (.float i t) := by
  unfold pvOf at e
  split at e <;> cases e
  exact ⟨_, rfl⟩
structure Start (w : World) (h₀ h : Heap) (mg mb : Str → Option Value) : Prop where
  k : ∀ b o, h₀.get? b = some o → h.get? b = some o
  g : h.Ns mainGlobals mg
  b : h.Ns builtinsNs mb
  nl : h.NoLimit
  bb : ∀ x : Str, x ≠ "__name__" → mb x = bootBuiltins x
  bm : ∃ bm ob, mg "__builtins__" = some (.ref bm) ∧ bm ≠ builtinsNs ∧ h.get? bm = some ob ∧ ob.cls = .type "module" ∧ ob.dict = some builtinsNs ∧ ob.data = .plain
  mge : ∀ x, mg x = h₀.nsMap mainGlobals x
  t1 : h₀.get? 54 = some (tabObj #[])
  t2 : h₀.get? 61 = some (tabObj #[])
section
variable {w : World} {h₀ h : Heap} {mg mb : Str → Option Value}
theorem Start.z (K : Start w h₀ h mg mb) {b : Addr} {o : Obj} (e : h₀.get? b = some o) (hn : o ≠ tabObj #[]) : (cxOf w h).Z0 b = some o := by
  refine hid_of (fun q => ?_) (fun q => ?_) (K.k _ _ e)
  · subst q; rw [K.t1] at e; cases e; exact hn rfl
  · subst q; rw [K.t2] at e; cases e; exact hn rfl
theorem Start.glob (K : Start w h₀ h mg mb) {x : Str} {v : Value} (e : h₀.nsMap mainGlobals x = some v) : GlobZ (cxOf w h) x v := fun h' hh =>
  ⟨mg, K.g.at fun o ho => hh _ _ (hid_of (by decide) (by decide) ho), (K.mge x).trans e⟩
theorem Start.blt (K : Start w h₀ h mg mb) {x : Str} {v : Value} (e : (h₀.nsMap mainGlobals x).isNone = true) (hx : x ≠ "__name__") (hv : bootBuiltins x = some v) : BltZ (cxOf w h) x v := fun h' hh =>
  ⟨mg, mb, K.g.at fun o ho => hh _ _ (hid_of (by decide) (by decide) ho), (K.mge x).trans (Option.isNone_iff_eq_none.mp e), K.b.at fun o ho => hh _ _ (hid_of (by decide) (by decide) ho), (K.bb x hx).trans hv⟩
theorem Start.quiet (K : Start w h₀ h mg mb) : Quiet (cxOf w h) := fun h' hh => K.nl.at fun o ho => hh _ _ (hid_of (by decide) (by decide) ho)
theorem Start.code (K : Start w h₀ h mg mb) {c : Addr} {q : Str} (x : CodeIn h₀.get? c q) : CodeIn (cxOf w h).Z0 c q := by
  obtain ⟨o, vs, t, e, hd, hq⟩ := x
  refine ⟨o, vs, t, K.z e (fun z => ?_), hd, hq⟩
  subst z
  cases hd
  simp at hq
theorem Start.mth (K : Start w h₀ h mg mb) {st : Stmt} {f : Addr} {q : Str} {dv : Value} (hd : isDef st = true) (e : fnSeen h₀ f = some ({ cls := .type "function", data := .func (mFd st q dv .none .none .none) }, some q)) :
    ∃ doc pm c, (cxOf w h).Z0 f = some { cls := .type "function", data := .func (mFd st q dv doc pm (.ref c)) } ∧ CodeIn (cxOf w h).Z0 c q := by
  obtain ⟨fd, c, ho, he, hc, hq⟩ := fn_of e
  have := fdOf_erase hd he hc
  exact ⟨fd.doc, fd.pyModule, c, by rw [← this]; exact K.z ho (fun z => by cases z), K.code hq⟩
theorem Start.fn (K : Start w h₀ h mg mb) {i : Nat} {x : Str} (hd : isDef (stAt pw i) = true) (e : defSeen h₀ x = defGood i x) :
    ∃ f doc pm c, h₀.nsMap mainGlobals x = some (.ref f) ∧ GlobZ (cxOf w h) x (.ref f) ∧ (cxOf w h).Z0 f = some { cls := .type "function", data := .func (fdOf (stAt pw i) x doc pm (.ref c)) } ∧ CodeZ (cxOf w h) (.ref c) x := by
  obtain ⟨f, hf, hs⟩ := def_of e
  rw [← mFd_none _ _ _ _ _ hd] at hs
  obtain ⟨doc, pm, c, hz, hc⟩ := K.mth hd hs
  rw [mFd_none _ _ _ _ _ hd] at hz
  obtain ⟨o, vs, t, e1, e2, e3⟩ := hc
  exact ⟨f, doc, pm, c, hf, K.glob hf, hz, c, o, vs, t, rfl, e1, e2, e3⟩
theorem Start.dfn (K : Start w h₀ h mg mb) {i : Nat} {x : Str} (hd : isDef (stAt pw i) = true) (e : defSeen h₀ x = defGood i x) : DefAt (cxOf w h) pw i x := by
  obtain ⟨f, doc, pm, c, _, hg, hz, hc⟩ := K.fn hd e
  exact ⟨f, x, doc, pm, _, hg, hz, hc⟩
theorem Start.int (K : Start w h₀ h mg mb) {x : Str} {i : Int} (e : pvOf (h₀.nsMap mainGlobals x) = .int i) : GlobD (cxOf w h) x (.int i) := by
  obtain ⟨t, e⟩ := pvOf_int e
  exact ⟨_, K.glob e, fun Z => .int _ _⟩
theorem Start.flt (K : Start w h₀ h mg mb) {x : Str} {i : UInt64} (e : pvOf (h₀.nsMap mainGlobals x) = .flt i) : GlobD (cxOf w h) x (.flt i) := by
  obtain ⟨t, e⟩ := pvOf_flt e
  exact ⟨_, K.glob e, fun Z => .flt _ _⟩
theorem Start.topB (K : Start w h₀ h mg mb) : TopB (cxOf w h) := fun h' hh => by
  obtain ⟨bm, ob, e1, e2, e3, e4, e5, e6⟩ := K.bm
  have tab : ∀ P, h.get? P = some (tabObj #[]) → bm ≠ P := fun P hP q => by
    subst q; rw [hP] at e3; cases e3; cases e6
  have n1 := tab 54 (K.k _ _ K.t1)
  have n2 := tab 61 (K.k _ _ K.t2)
  have n3 : bm ≠ mainGlobals := fun q => by
    obtain ⟨o, es, ep, ho, hd, _⟩ := K.g
    subst q; rw [ho] at e3; cases e3; rw [hd] at e6; cases e6
  have hb := hh _ _ (hid_of n1 n2 e3)
  refine ⟨mg, K.g.at fun o ho => hh _ _ (hid_of (by decide) (by decide) ho), fun t ht => ?_⟩
  rcases List.mem_cons.mp ht with rfl | ht
  · exact ⟨by decide, bm, ob, e1, e2, n3, n1, hb, e4, e5, e6⟩
  · rcases List.mem_cons.mp ht with rfl | ht
    · exact ⟨by decide, bm, ob, e1, e2, n3, n2, hb, e4, e5, e6⟩
    · cases ht
theorem Start.hd (K : Start w h₀ h mg mb) {c p : Addr} (e : (match h₀.get? c with | some o => codeHdIn [(c, o)] c p | none => false) = true) : HdZ (cxOf w h) c p := fun h' hh => by
  split at e
  · rename_i o ho
    refine codeHd_of_K (K := [(c, o)]) (fun a x hx => ?_) e
    have : a = c ∧ x = o := by
      rw [List.lookup_cons] at hx
      split at hx
      · rename_i q
        exact ⟨beq_iff_eq.mp q, (Option.some.inj hx).symm⟩
      · cases hx
    obtain ⟨rfl, rfl⟩ := this
    refine hh _ _ (K.z ho fun z => ?_)
    subst z
    have hl : List.lookup a [(a, tabObj #[])] = some (tabObj #[]) := by simp [List.lookup]
    unfold codeHdIn at e
    rw [hl] at e
    cases e
  · cases e
end
section
variable {w : World} {h₀ h : Heap} {mg mb : Str → Option Value}
theorem tok_pairs {w : World} : ∀ (es : List DictEntry) (ts : List (Str × Int)), es.map (fun e => (e.hash, (match e.key with | .str s _ => some s | _ => none), pvOf (some e.val))) = ts.map (fun p => (hashStr w p.1, some p.1, PV.int p.2)) →
    ∃ kvs, Pairs (PySem.strKind pw w) es kvs ∧ (∀ Z, KV Z kvs (ts.map fun p => (p.1, PV.int p.2))) ∧ kvs.map (·.1) = ts.map (·.1) ∧ ∀ e ∈ es, ∃ k, (PySem.strKind pw w).is k e.key = true ∧ e.hash = (PySem.strKind pw w).hash k
  | [], [], _ => ⟨[], .nil, fun _ => .nil, rfl, fun _ he => nomatch he⟩
  | [], _ :: _, e => by simp at e
  | _ :: _, [], e => by simp at e
  | en :: es, t :: ts, e => by
    simp only [List.map_cons, List.cons.injEq, Prod.mk.injEq] at e
    obtain ⟨⟨e1, e2, e3⟩, e4⟩ := e
    obtain ⟨kvs, p, q, r, z⟩ := tok_pairs es ts e4
    obtain ⟨tv, hv⟩ := pvOf_int e3
    have hk : ∃ tt, en.key = .str t.1 tt := by
      split at e2
      · rename_i s tt hs
        cases e2
        exact ⟨tt, hs⟩
      · cases e2
    obtain ⟨tt, hk⟩ := hk
    have his : (PySem.strKind pw w).is t.1 en.key = true := by rw [hk]; exact strKind_is _ _ _ _
    refine ⟨(t.1, en.val) :: kvs, .cons his rfl p, fun Z => .cons (by rw [Option.some.inj hv]; exact .int _ _) (q Z), by rw [List.map_cons, List.map_cons, r], fun e' he' => ?_⟩
    rcases List.mem_cons.mp he' with rfl | he'
    · exact ⟨t.1, his, e1⟩
    · exact z e' he'
theorem tok_nodup : (tokI.map (·.1)).Nodup := by decide +kernel
theorem Start.tok (K : Start w h₀ h mg mb) (e : tokSeen h₀ (sQ "EXACT_TOKEN_TYPES") = tokGood w) : GlobP (cxOf w h) (sQ "EXACT_TOKEN_TYPES") (dictS (cxOf w h) tokL) := by
  unfold tokSeen tokGood at e
  split at e
  · rename_i a ha
    split at e
    · rename_i o ho
      split at e
      · rename_i es n hd
        simp only [Option.some.injEq, Prod.mk.injEq] at e
        obtain ⟨e1, e2, e3, e4, e5⟩ := e
        obtain ⟨kvs, p, q, r, z⟩ := tok_pairs es.toList tokI e5
        refine ⟨_, K.glob ha, a, o, kvs, rfl, e4, K.z ho (fun x => by subst x; cases hd), ⟨es, n, ⟨e1, e2, Array.eq_empty_of_size_eq_zero e3⟩, hd, fun en hen => z en (Array.mem_toList_iff.mpr hen), p, ?_⟩, q _⟩
        rw [r]; exact tok_nodup
      · cases e
    · cases e
  · cases e
theorem Start.pat (K : Start w h₀ h mg mb) {x : Str} {code : Array Nat} (e : patSeen h₀ x = some (.type "re.Pattern", none, 0, 0, code)) : PatZ (cxOf w h) x code := by
  unfold patSeen at e
  split at e
  · rename_i a ha
    split at e
    · rename_i o ho
      split at e
      · rename_i fs hd
        split at e
        · rename_i l hl
          split at e
          · rename_i o' ho'
            split at e
            · rename_i items n hd'
              simp only [Option.some.injEq, Prod.mk.injEq] at e
              obtain ⟨e1, e2, e3, e4, e5⟩ := e
              refine ⟨a, l, o, o', fs, items, n, K.glob ha, K.z ho (fun z => ?_), e1, e2, hd, hl, e3, e4, K.z ho' (fun z => by subst z; cases hd'), hd', e5⟩
              subst z; cases hd; cases hl
            · cases e
          · cases e
        · cases e
      · cases e
    · cases e
  · cases e
theorem Start.cls (K : Start w h₀ h mg mb) (e : clsSeen h₀ 283 = clsGood) :
    ∃ k2 k3, (cxOf w h).Z0 283 = some (excClassObj (sQ "Headers") (sQ "Headers") 283 282 [.type "object"] [.type "object"] true [] [] false none none none none k2 k3 (some (.bool true)) "object.__new__") := by
  unfold clsSeen clsGood at e
  obtain ⟨o, ho, e⟩ := Option.map_eq_some_iff.mp e
  obtain ⟨cls, dict, data, slots⟩ := o
  simp only [Prod.mk.injEq, Obj.mk.injEq] at e
  obtain ⟨⟨e1, e2, e3, _⟩, e5, e6, e7, e8, e9⟩ := e
  subst e1; subst e2; subst e3
  obtain ⟨sl⟩ := slots
  have e5 : sl.length = 6 := e5
  obtain ⟨k0, l1, rfl, f1⟩ := lenS e5
  obtain ⟨k1, l2, rfl, f2⟩ := lenS f1
  obtain ⟨k2, l3, rfl, f3⟩ := lenS f2
  obtain ⟨k3, k4, k5, rfl⟩ := len3 f3
  have g6 : k0 = none := Option.some.inj e6
  have g7 : k1 = none := Option.some.inj e7
  have g8 : k4 = some (.builtin "object.__new__") := Option.some.inj e8
  have g9 : k5 = some (.bool true) := Option.some.inj e9
  clear e6 e7 e8 e9
  subst g6; subst g7; subst g8; subst g9
  exact ⟨k2, k3, K.z ho (fun z => by cases z)⟩
theorem Start.ns (K : Start w h₀ h mg mb) {N : Addr} (h1 : N ≠ 54) (h2 : N ≠ 61) (e : h₀.isNs N = true) : NsZ (cxOf w h) N (h₀.nsMap N) := fun h' hh => by
  have x := Heap.Ns.of_isNs e
  exact (x.keeps K.k).at fun o ho => hh _ _ (hid_of h1 h2 ho)
end
section
variable {w : World} {s : Shared} {h : Heap} {mg mb : Str → Option Value}
theorem looks_all (e : looks s = hopes w) : (∀ p ∈ defL, defSeen s.heap p.2 = defGood p.1 p.2) ∧ (∀ p ∈ valL, pvOf (s.heap.nsMap mainGlobals p.1) = p.2) ∧ (∀ x ∈ offL, (s.heap.nsMap mainGlobals x).isNone = true) ∧ tokSeen s.heap (sQ "EXACT_TOKEN_TYPES") = tokGood w ∧
   clsSeen s.heap 283 = clsGood ∧ s.heap.nsMap mainGlobals (sQ "Headers") = some (.ref 283) ∧ s.heap.isNs 282 = true ∧ nsL.map (s.heap.nsMap 282) = [none, none, none, none, some (.ref 177), some (.ref 184), some (.ref 222), some (.ref 247), some (.ref 280)] ∧ (∀ p ∈ mthL, fnSeen s.heap p.2.1 = mthGood p.1 p.2.2.1 p.2.2.2) ∧
   s.heap.get? 170 = some { cls := .type "tuple", data := .seq #[.none] 0 } ∧
   patSeen s.heap (sQ "_name_disallowed_re") = some (.type "re.Pattern", none, 0, 0, codeN) ∧ patSeen s.heap (sQ "_value_disallowed_re") = some (.type "re.Pattern", none, 0, 0, codeV) ∧
   nestSeen s.heap (sQ "_int2digits") 59 58 54 = nestGood 59 58 ∧ nestSeen s.heap (sQ "_digits2int") 66 65 61 = nestGood 66 65 := by
  have e1 := congrArg (fun x => x.1) e
  have e2 := congrArg (fun x => x.2.1) e
  have e3 := congrArg (fun x => x.2.2.1) e
  have e4 := congrArg (fun x => x.2.2.2.1) e
  have e5 := congrArg (fun x => x.2.2.2.2.1) e
  have e6 := congrArg (fun x => x.2.2.2.2.2.1) e
  have e7 := congrArg (fun x => x.2.2.2.2.2.2.1) e
  have e8 := congrArg (fun x => x.2.2.2.2.2.2.2.1) e
  have e9 := congrArg (fun x => x.2.2.2.2.2.2.2.2.1) e
  have e10 := congrArg (fun x => x.2.2.2.2.2.2.2.2.2.1) e
  have e11 := congrArg (fun x => x.2.2.2.2.2.2.2.2.2.2.1) e
  have e12 := congrArg (fun x => x.2.2.2.2.2.2.2.2.2.2.2.1) e
  have e13 := congrArg (fun x => x.2.2.2.2.2.2.2.2.2.2.2.2.1) e
  have e14 := congrArg (fun x => x.2.2.2.2.2.2.2.2.2.2.2.2.2) e
  exact ⟨List.map_inj_left.mp e1, List.map_inj_left.mp e2, List.map_inj_left.mp e3, e4, e5, e6, e7, e8, List.map_inj_left.mp e9, e10, e11, e12, e13, e14⟩
theorem start_all (K : Start w s.heap h mg mb) (e : looks s = hopes w) : LawX (cxOf w h) ∧ DigK (cxOf w h) ∧ HdrK (cxOf w h) ∧ BltZ (cxOf w h) (sQ "ZeroDivisionError") (.type "ZeroDivisionError") ∧
    ∃ f doc pm c, s.heap.nsMap mainGlobals (sQ "law") = some (.ref f) ∧ GlobZ (cxOf w h) (sQ "law") (.ref f) ∧ (cxOf w h).Z0 f = some { cls := .type "function", data := .func (fdOf (stAt pw 86) (sQ "law") doc pm (.ref c)) } ∧ CodeZ (cxOf w h) (.ref c) (sQ "law") := by
  obtain ⟨e1, e2, e3, e4, e5, e6, e7, e8, e9, e10, e11, e12, e13, e14⟩ := looks_all e
  have D : ∀ (k i : Nat) (x : Str), defL[k]? = some (i, x) → isDef (stAt pw i) = true → DefAt (cxOf w h) pw i x := fun k i x hk hd => K.dfn hd (e1 _ (List.mem_of_getElem? hk))
  have B : ∀ (k : Nat) (x : Str) (v : Value), offL[k]? = some x → x ≠ "__name__" → bootBuiltins x = some v → BltZ (cxOf w h) x v := fun k x v hk hx hv => K.blt (e3 _ (List.mem_of_getElem? hk)) hx hv
  have VI : ∀ (k : Nat) (x : Str) (i : Int), valL[k]? = some (x, .int i) → GlobD (cxOf w h) x (.int i) := fun k x i hk => K.int (e2 _ (List.mem_of_getElem? hk))
  have VF : ∀ (k : Nat) (x : Str) (i : UInt64), valL[k]? = some (x, .flt i) → GlobD (cxOf w h) x (.flt i) := fun k x i hk => K.flt (e2 _ (List.mem_of_getElem? hk))
  have M : ∀ (j k : Nat) (f : Addr) (x : Str) (dv : Value), mthL[j]? = some (k, f, x, dv) → isDef (mthSt pw 79 k) = true → MthAt (cxOf w h) k f x dv := fun j k f x dv hk hd => K.mth hd (e9 _ (List.mem_of_getElem? hk))
  have N : ∀ (k i j : Nat) (x q : Str) (f c p : Addr), defL[k]? = some (i, x) → isDef (stAt pw i) = true → nestSeen s.heap x f c p = nestGood f c → (p, posOf (inSt pw i j), q) ∈ (cxOf w h).tabs → (∀ t ∈ (cxOf w h).tabs, t.1 = p → t = (p, posOf (inSt pw i j), q)) → NestAt (cxOf w h) pw i j x q := by
    intro k i j x q f c p hk hd hn ht hu
    obtain ⟨f', hf', hs⟩ := def_of (e1 _ (List.mem_of_getElem? hk))
    unfold nestSeen nestGood at hn
    simp only [Prod.mk.injEq] at hn
    obtain ⟨n1, n2, n3, n4⟩ := hn
    dsimp only at hf'
    rw [n1] at hf'; cases hf'
    obtain ⟨fd, c', ho, he, hc, hq⟩ := fn_of hs
    rw [ho] at n2
    have n2 : some fd.code = some (.ref c) := n2
    rw [hc] at n2; cases n2
    rw [← mFd_none _ _ _ _ _ hd] at he
    have q0 := fdOf_erase hd he hc
    rw [mFd_none _ _ _ _ _ hd] at q0
    obtain ⟨oc, vs, t, c1, c2, c3⟩ := K.code hq
    exact ⟨f, fd.doc, fd.pyModule, c, p, K.glob n1, by rw [← q0]; exact K.z ho (fun z => by cases z), ⟨c, oc, vs, t, rfl, c1, c2, c3⟩, K.hd n3, ht, hu⟩
  have n8 := e8
  simp only [nsL, List.map_cons, List.map_nil, List.cons.injEq] at n8
  obtain ⟨m1, m2, m3, m4, m5, m6, m7, m8, m9, _⟩ := n8
  have bmax := B 0 _ (.builtin "max") rfl (by decide +kernel) (by rfl)
  have bmin := B 1 _ (.builtin "min") rfl (by decide +kernel) (by rfl)
  have bint := B 2 _ (.type "int") rfl (by decide +kernel) (by rfl)
  have brange := B 3 _ (.type "range") rfl (by decide +kernel) (by rfl)
  have bzip := B 4 _ (.type "zip") rfl (by decide +kernel) (by rfl)
  have bround := B 5 _ (.builtin "round") rfl (by decide +kernel) (by rfl)
  have blen := B 6 _ (.builtin "len") rfl (by decide +kernel) (by rfl)
  have bord := B 7 _ (.builtin "ord") rfl (by decide +kernel) (by rfl)
  have bsum := B 8 _ (.builtin "sum") rfl (by decide +kernel) (by rfl)
  have benum := B 9 _ (.type "enumerate") rfl (by decide +kernel) (by rfl)
  have bstr := B 10 _ (.type "str") rfl (by decide +kernel) (by rfl)
  have blist := B 11 _ (.type "list") rfl (by decide +kernel) (by rfl)
  have btype := B 12 _ (.type "type") rfl (by decide +kernel) (by rfl)
  have bdivmod := B 13 _ (.builtin "divmod") rfl (by decide +kernel) (by rfl)
  have brev := B 14 _ (.type "reversed") rfl (by decide +kernel) (by rfl)
  have bzde := B 15 _ (.type "ZeroDivisionError") rfl (by decide +kernel) (by rfl)
  have kc : ColK (cxOf w h) := ⟨K.quiet, VF 1 _ _ rfl, VF 2 _ _ rfl, VF 3 _ _ rfl, bmax, bmin, bint, D 7 16 _ rfl rfl, D 5 14 _ rfl rfl, D 6 15 _ rfl rfl, D 8 17 _ rfl rfl, D 9 18 _ rfl rfl⟩
  have kl : LawK (cxOf w h) := ⟨kc, VI 4 _ _ rfl, VI 5 _ _ rfl, brange, bzip, bround, D 10 71 _ rfl rfl, D 11 72 _ rfl rfl, D 12 73 _ rfl rfl, D 13 81 _ rfl rfl, D 14 82 _ rfl rfl, D 15 83 _ rfl rfl, D 16 84 _ rfl rfl, D 17 85 _ rfl rfl⟩
  refine ⟨⟨⟨kl, blen, bord, K.tok e4⟩, bsum, benum, bstr, blist⟩, ⟨K.quiet, K.topB, blen, bdivmod, brev, VI 0 _ _ rfl, ?_, ?_, D 0 4 _ rfl rfl, D 3 8 _ rfl rfl, D 4 9 _ rfl rfl⟩,
    ⟨K.quiet, K.glob e6, K.cls e5, ⟨_, K.ns (by decide) (by decide) e7, m1, m2, m3, m4, m5, m6, m7, m8, m9⟩, M 0 0 _ _ _ rfl rfl, K.z e10 (fun z => by cases z), M 1 1 _ _ _ rfl rfl, M 2 7 _ _ _ rfl rfl, M 3 11 _ _ _ rfl rfl, M 4 16 _ _ _ rfl rfl, K.pat e11, K.pat e12, btype, bstr, blist⟩, bzde, K.fn (by rfl) (e1 (86, sQ "law") (List.mem_of_getElem? (i := 18) rfl))⟩
  · refine N 1 6 1 _ _ 59 58 54 rfl rfl e13 (List.mem_cons_self ..) fun t ht hp => ?_
    rcases List.mem_cons.mp ht with rfl | ht
    · rfl
    · rcases List.mem_cons.mp ht with rfl | ht
      · cases hp
      · cases ht
  · refine N 2 7 0 _ _ 66 65 61 rfl rfl e14 (List.mem_cons_of_mem _ (List.mem_cons_self ..)) fun t ht hp => ?_
    rcases List.mem_cons.mp ht with rfl | ht
    · cases hp
    · rcases List.mem_cons.mp ht with rfl | ht
      · rfl
      · cases ht
end
theorem law_call {C : Cx} (K : LawX C) (G : DigK C) (H : HdrK C) (Zd : BltZ C (sQ "ZeroDivisionError") (.type "ZeroDivisionError")) {f : Addr} {q : Str} {doc pm cd : Value} (hz : C.Z0 f = some { cls := .type "function", data := .func (fdOf (stAt pw 86) q doc pm cd) }) (hc : CodeZ C cd q)
    (S : List Int) (hS : S.length ≤ 63) (hB : ∀ x ∈ S, x.natAbs < 2 ^ 1048576) {A : Around} (hA : Room 41 A) (hF : A.frames = some []) {s : Shared} {Z : Fz} {v : Value} {Q E : Value → Shared → Prop} (I : Inv C Z s) (hv : Rd Z v (lI S))
    (k : ∀ Z' s', Step C Z s Z' s' → Q (.bool true) s') : wpAny (model C.prog C.w) A (call (.ref f) [v]) Q E s := by
  refine fn_enterE (n := 39) (fd := fdOf (stAt pw 86) q doc pm cd) (body := bodyOf (stAt pw 86)) (Ps := [is (lI S)]) (xs := [sQ "script"]) (nm := nmS) (sc := scOf (stAt pw 86)) (ρ := [some (is (lI S)), none, none, none, none, none, none, none, none, none, none, none, none, none, none, none, none, none, none, none, none, none, none, none, none, none, none, none, none, none, none, none, none, none, none]) K.q hz rfl hc rfl rfl rfl rfl rfl (fun vs h => by match vs, h with | [a], _ => rfl) rfl (by decide +kernel) (by decide +kernel) (by decide +kernel) (by decide +kernel) rfl hA I rfl (fun i v' P h1 h2 => ?_) (fun s₁ hA' st HF => ?_)
  · match i, h1, h2 with
    | 0, h1, h2 => cases h1; cases h2; exact hv
  · obtain ⟨env, he⟩ : ∃ x, x = callEnvC (fdOf (stAt pw 86) q doc pm cd) s.heap.objs.size f := ⟨_, rfl⟩
    rw [← he] at hA' HF ⊢
    refine law_body he K G H Zd S hS hB _ s₁ Z _ _ hA' ?_ st.inv HF (fun Z' s' x h => h.elim) fun v' Z' s' x r => ?_
    · exact Around.frames_deeper hF
    · cases r
      exact k Z' s' (((Step.to st).trans x).hide fun b hb => hb)
theorem rd_ints {P : Params} {h : Heap} {Z : Fz} : ∀ {vs : List Value} {ns : List Int}, WellAll P h vs (ns.map .int) → RdL Z vs (ns.map PV.int)
  | [], [], _ => .nil
  | [], _ :: _, x => by cases x
  | _ :: _, [], x => by cases x
  | v :: vs, n :: ns, x => by
    cases x with
    | cons a b => cases a; exact .cons (.int _ _) (rd_ints b)
theorem bits_of {ns : List Int} (hl : (WData.list (ns.map .int)).layable = true) : ∀ x ∈ ns, x.natAbs < 2 ^ 1048576 := fun x hx => by
  unfold WData.layable at hl
  simp only [Bool.and_eq_true, decide_eq_true_eq] at hl
  obtain ⟨⟨h1, h2⟩, h3⟩ := hl
  have hc : WData.canLayAll (ns.map .int) = true := h1
  have := (items_part (List.mem_map.mpr ⟨x, hx, rfl⟩) hc).2.2
  have hw : WData.weightAll (ns.map .int) ≤ 2 ^ 20 := h3
  have hx2 : Builtin.Int.intBits x ≤ 1048576 := Nat.le_trans (show Builtin.Int.intBits x ≤ (WData.int x).weight from Nat.le_refl _) (Nat.le_trans this hw)
  exact intBits_le_iff.mp hx2
theorem len_of {ns : List Int} (h : PySem.Challenge.rw_ta0130_02.row.pre.holds [] { args := [.list (ns.map .int)] } = true) : ns.length ≤ 63 := by
  have e : PySem.Challenge.rw_ta0130_02.row.pre = .and (.not (.lt (.lit (.int 63)) (.len (.arg 0)))) (.lit (.bool true)) := rfl
  rw [e] at h
  w_cond h
  rename_i a b
  rw [List.length_map] at a
  exact Int.ofNat_le.mp (Int.not_lt.mp a)
theorem codeHd_at {h₀ h : Heap} {c p : Addr} (e : (match h₀.get? c with | some o => codeHdIn [(c, o)] c p | none => false) = true) (hk : ∀ b o, h₀.get? b = some o → h.get? b = some o) : isCodeTable h p := by
  split at e
  · rename_i o ho
    have x : CodeHd h₀ c p := by
      refine codeHd_of_K (K := [(c, o)]) (fun a x hx => ?_) e
      rw [List.lookup_cons] at hx
      split at hx
      · rename_i q
        have q := beq_iff_eq.mp q
        subst q; cases hx; exact ho
      · cases hx
    obtain ⟨o, vs, _, _, _, _, _, _, _, e1, e2, e3, e4, _⟩ := x
    exact ⟨c, o, vs, hk _ _ e1, e2, e3, e4⟩
  · cases e
def sees (w : World) (h : Heap) : Prop := ∃ s, (∀ b o, s.heap.get? b = some o → h.get? b = some o) ∧ looks s = hopes w
theorem law_walk {d : DefRec} (hn : d.name = sQ "law") : WalkO qV loose2 (XL qV []) sees PySem.Challenge.rw_ta0130_02.row.toRowW d [] fun f vs => PySem.call f vs := by
  intro w s₀ s₁ mg mb G Y a o pm cd doc dV kV ho hd hcd hD hmg hg args vals as hpre hlay hrd hwl hlo
  obtain ⟨s, hk, e⟩ := Y
  obtain ⟨e1, _, _, _, _, e6, _, _, _, _, _, _, e13, e14⟩ := looks_all e
  have mge : ∀ x, mg x = s.heap.nsMap mainGlobals x := fun x => by rw [Heap.Ns.eq_nsMap G.T.g]; exact nsMap_keep hk e6 x
  have t1 : s.heap.get? 54 = some (tabObj #[]) := congrArg (fun x => x.2.2.2) e13
  have t2 : s.heap.get? 61 = some (tabObj #[]) := congrArg (fun x => x.2.2.2) e14
  have K : Start w s.heap s₁.heap mg mb := ⟨hk, G.T.g, G.T.b, G.T.nolimit, G.T.builtins, G.T.bmain, mge, t1, t2⟩
  obtain ⟨kx, kd, kh, kz, f, doc', pm', c', hf, hgl, hz, hcz⟩ := start_all K e
  have ha : a = f := by
    have := (mge d.name).symm.trans hmg
    rw [hn, hf] at this
    injection this with this; injection this with this; exact this.symm
  subst ha
  obtain ⟨hsh, hpr⟩ := pre_splitW hpre
  obtain ⟨dd, rr, rfl, hs1, hs2⟩ := hasAllW_cons hsh
  obtain rfl := hasAllW_nil hs2
  obtain ⟨xs, rfl, hit⟩ := hasW_list hs1
  obtain ⟨S, rfl⟩ := items_int hit
  have hS := len_of hpr
  have hB := bits_of (layW_cons hlay).1
  obtain ⟨v, rfl, hv⟩ : ∃ v, vals = [v] ∧ Well w.params s₁.heap v (.list (S.map .int)) := by
    cases hwl with
    | cons x y => cases y; exact ⟨_, rfl, x⟩
  have I : Inv (cxOf w s₁.heap) (hid s₁.heap) s₁ := by
    refine ⟨Le.refl _, fun b o e => hid_le e, fun t ht => ?_, fun t ht => ?_⟩
    · rcases List.mem_cons.mp ht with rfl | ht
      · exact ⟨#[], hk _ _ t1, .inl rfl⟩
      · rcases List.mem_cons.mp ht with rfl | ht
        · exact ⟨#[], hk _ _ t2, .inl rfl⟩
        · cases ht
    · rcases List.mem_cons.mp ht with rfl | ht
      · exact if_pos (.inl rfl)
      · rcases List.mem_cons.mp ht with rfl | ht
        · exact if_pos (.inr rfl)
        · cases ht
  have hrv : Rd (hid s₁.heap) v (lI S) := by
    cases hv with
    | list hl hr =>
      refine .list (n := 0) (hid_of (fun q => ?_) (fun q => ?_) hl) (rd_ints hr)
      · subst q; rw [hk _ _ t1] at hl; cases hl
      · subst q; rw [hk _ _ t2] at hl; cases hl
  have c1 := codeHd_at (congrArg (fun x => x.2.2.1) e13) hk
  have c2 := codeHd_at (congrArg (fun x => x.2.2.1) e14) hk
  refine law_call (C := cxOf w s₁.heap) (A := callerA) kx kd kh kz hz hcz S hS hB ⟨by decide, by decide, rfl⟩ rfl I hrv fun Z' s' st => ?_
  refine ⟨.inl ⟨.bool true, .bool true, [], rfl, fun cls => rfl, .bool true, by wrow_post, fun _ => ⟨List.nodup_nil, fun _ h => nomatch h⟩⟩, ⟨fun b o e => ?_, fun b o e => ?_⟩, st.rest.2.2, .of_eq (st.rest.1.trans hg)⟩
  · by_cases h1 : b = 54
    · subst h1
      obtain ⟨ps, hp, _⟩ := st.inv.tabs (54, _, _) (List.mem_cons_self ..)
      rw [hk _ _ t1] at e; cases e
      exact .inr (.inl ⟨c1, rfl, #[], ps, rfl, by rw [Array.empty_append]; exact hp⟩)
    · by_cases h2 : b = 61
      · subst h2
        obtain ⟨ps, hp, _⟩ := st.inv.tabs (61, _, _) (List.mem_cons_of_mem _ (List.mem_cons_self ..))
        rw [hk _ _ t2] at e; cases e
        exact .inr (.inl ⟨c2, rfl, #[], ps, rfl, by rw [Array.empty_append]; exact hp⟩)
      · refine .inl (st.keep b o e (fun z => z) fun t ht => ?_)
        rcases List.mem_cons.mp ht with rfl | ht
        · exact h1
        · rcases List.mem_cons.mp ht with rfl | ht
          · exact h2
          · cases ht
  · by_cases h1 : b = 54
    · subst h1
      obtain ⟨ps, hp, _⟩ := st.inv.tabs (54, _, _) (List.mem_cons_self ..)
      exact ⟨_, hp⟩
    · by_cases h2 : b = 61
      · subst h2
        obtain ⟨ps, hp, _⟩ := st.inv.tabs (61, _, _) (List.mem_cons_of_mem _ (List.mem_cons_self ..))
        exact ⟨_, hp⟩
      · refine ⟨o, st.keep b o e (fun z => z) fun t ht => ?_⟩
        rcases List.mem_cons.mp ht with rfl | ht
        · exact h1
        · rcases List.mem_cons.mp ht with rfl | ht
          · exact h2
          · cases ht
end Mine.Internal
open PySem PySem.W PyProof.Rows Mine.Internal
set_option maxHeartbeats 0
theorem PySem.Challenge.cw_ta0130_02_holds : PySem.Challenge.rw_ta0130_02.Holds := by
  w_on
  refine holds_law (l := PySem.Challenge.rw_ta0130_02) said0 fun said => ?_
  refine holds_open (q := qV) (loose := loose2) (Xt := fun s => xlAt qV [] s && recOk [] s) (XP := XL qV []) (Yf := looks) (Ya := hopes) (YP := sees) (N := 6478) left (fun w s e => ⟨s, fun _ _ e => e, e⟩) (fun w h h' x k => x.imp fun s x => ⟨fun b o e => k _ _ (x.1 b o e), x.2⟩) (fun s e => xl_of s (Bool.and_eq_true_iff.mp e).1) XL.keeps (by rfl) (by rfl) (by rfl) (fun s e => recFacts_of (Bool.and_eq_true_iff.mp e).2) (by rfl) (by first | assumption | decide +kernel) (by decide +kernel) ⟨rfl, rfl, rfl, rfl, rfl, by decide +kernel⟩ ?hw (law_walk rfl)
  w_witness2