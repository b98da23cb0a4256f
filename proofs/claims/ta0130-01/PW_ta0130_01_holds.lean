import PyProof.Rows.All
import Wide.All
import OpenK.AllK
import Wide.FinOn
import KE.KNest
import PyProof.RaisesMany
import PyProof.Rows.RaiseClass
import PyProof.Rows.FactsExc_ZeroDivisionError
import KE.KIntText
import PySem.Challenge.RW_ta0130_01
set_option Elab.async false
set_option maxRecDepth 100000
set_option maxHeartbeats 8000000
set_option linter.unusedVariables false
set_option linter.unusedSimpArgs false
set_option compiler.extract_closed false
namespace Mine.Internal
open PySem PySem.W PyProof.Rows
open PySem.Str renaming ofString → sQ
noncomputable abbrev Fz := Addr → Option Obj
def Le (Z Z' : Fz) : Prop := ∀ b o, Z b = some o → Z' b = some o
theorem Le.refl (Z : Fz) : Le Z Z := fun _ _ e => e
theorem Le.trans {a b c : Fz} (x : Le a b) (y : Le b c) : Le a c := fun _ _ e => y _ _ (x _ _ e)
inductive PV where
  | none
  | bool (b : Bool)
  | int (i : Int)
  | flt (x : UInt64)
  | str (s : Str)
  | list (l : List PV)
  | tup (l : List PV)
mutual
inductive Rd (Z : Fz) : Value → PV → Prop where
  | none : Rd Z .none .none
  | bool (b : Bool) : Rd Z (.bool b) (.bool b)
  | int (i : Int) (t : Tok) : Rd Z (.int i t) (.int i)
  | flt (x : UInt64) (t : Tok) : Rd Z (.float x t) (.flt x)
  | str (x : Str) (t : Tok) : Rd Z (.str x t) (.str x)
  | list {a : Addr} {n : Nat} {vs : List Value} {ds : List PV} (h : Z a = some { cls := .type "list", data := .seq vs.toArray n }) (r : RdL Z vs ds) : Rd Z (.ref a) (.list ds)
  | tup {a : Addr} {n : Nat} {vs : List Value} {ds : List PV} (h : Z a = some { cls := .type "tuple", data := .seq vs.toArray n }) (r : RdL Z vs ds) : Rd Z (.ref a) (.tup ds)
inductive RdL (Z : Fz) : List Value → List PV → Prop where
  | nil : RdL Z [] []
  | cons {v : Value} {d : PV} {vs : List Value} {ds : List PV} (h : Rd Z v d) (r : RdL Z vs ds) : RdL Z (v :: vs) (d :: ds)
end
def RdI (Z : Fz) (v : Value) : PV → Prop
  | .none => v = .none
  | .bool b => v = .bool b
  | .int i => ∃ t, v = .int i t
  | .flt x => ∃ t, v = .float x t
  | .str x => ∃ t, v = .str x t
  | .list l => ∃ a n vs, v = .ref a ∧ Z a = some { cls := .type "list", data := .seq (List.toArray vs) n } ∧ RdL Z vs l
  | .tup l => ∃ a n vs, v = .ref a ∧ Z a = some { cls := .type "tuple", data := .seq (List.toArray vs) n } ∧ RdL Z vs l
theorem rdi {Z : Fz} {v : Value} {d : PV} (h : Rd Z v d) : RdI Z v d := by
  cases h with
  | none => exact rfl
  | bool b => exact rfl
  | int i t => exact ⟨t, rfl⟩
  | flt x t => exact ⟨t, rfl⟩
  | str x t => exact ⟨t, rfl⟩
  | list h r => exact ⟨_, _, _, rfl, h, r⟩
  | tup h r => exact ⟨_, _, _, rfl, h, r⟩
def RdLI (Z : Fz) (vs : List Value) : List PV → Prop
  | [] => vs = []
  | d :: ds => ∃ v r, vs = v :: r ∧ Rd Z v d ∧ RdL Z r ds
theorem rdli {Z : Fz} {vs : List Value} {ds : List PV} (h : RdL Z vs ds) : RdLI Z vs ds := by
  cases h with
  | nil => exact rfl
  | cons h r => exact ⟨_, _, rfl, h, r⟩
theorem Rd.le {Z Z' : Fz} (k : Le Z Z') {v : Value} {d : PV} (h : Rd Z v d) : Rd Z' v d :=
  Rd.rec (motive_1 := fun v d _ => Rd Z' v d) (motive_2 := fun v d _ => RdL Z' v d) .none .bool .int .flt .str (fun h _ r => .list (k _ _ h) r) (fun h _ r => .tup (k _ _ h) r) .nil (fun _ _ h r => .cons h r) h
theorem RdL.le {Z Z' : Fz} (k : Le Z Z') {v : List Value} {d : List PV} (h : RdL Z v d) : RdL Z' v d :=
  RdL.rec (motive_1 := fun v d _ => Rd Z' v d) (motive_2 := fun v d _ => RdL Z' v d) .none .bool .int .flt .str (fun h _ r => .list (k _ _ h) r) (fun h _ r => .tup (k _ _ h) r) .nil (fun _ _ h r => .cons h r) h
theorem RdL.length {Z : Fz} {v : List Value} {d : List PV} (h : RdL Z v d) : v.length = d.length := by
  induction d generalizing v with
  | nil => exact congrArg List.length (rdli h)
  | cons d ds ih =>
    obtain ⟨x, r, rfl, _, h⟩ := rdli h
    exact congrArg (· + 1) (ih h)
theorem RdL.append {Z : Fz} {v v' : List Value} {d d' : List PV} (h : RdL Z v d) (y : RdL Z v' d') : RdL Z (v ++ v') (d ++ d') := by
  induction d generalizing v with
  | nil => have e : v = [] := rdli h; subst e; exact y
  | cons d ds ih =>
    obtain ⟨x, r, rfl, hx, h⟩ := rdli h
    exact .cons hx (ih h)
theorem RdL.get {Z : Fz} {v : List Value} {d : List PV} (h : RdL Z v d) {i : Nat} {x : PV} (e : d[i]? = some x) : ∃ u, v[i]? = some u ∧ Rd Z u x := by
  induction d generalizing v i with
  | nil => cases e
  | cons d ds ih =>
    obtain ⟨y, r, rfl, hx, h⟩ := rdli h
    cases i with
    | zero => cases e; exact ⟨_, rfl, hx⟩
    | succ i => exact ih h e
structure Cx where
  prog : Program
  w : World
  Z0 : Fz
  tabs : List (Addr × Pos × Str)
def CodeIn (Z : Fz) (c : Addr) (q : Str) : Prop := ∃ o vs t, Z c = some o ∧ o.data = .fields vs ∧ vs[1]? = some (.str q t)
theorem CodeIn.le {Z Z' : Fz} (k : Le Z Z') {c : Addr} {q : Str} (x : CodeIn Z c q) : CodeIn Z' c q := let ⟨o, vs, t, e, r⟩ := x; ⟨o, vs, t, k _ _ e, r⟩
def TabOk (C : Cx) (Z : Fz) (h : Heap) : Prop := ∀ t ∈ C.tabs, ∃ ps, h.get? t.1 = some (tabObj ps) ∧ (ps = #[] ∨ ∃ c', ps = #[rawInt t.2.1.line, rawInt t.2.1.col, .ref c'] ∧ CodeIn Z c' t.2.2)
structure Inv (C : Cx) (Z : Fz) (s : Shared) : Prop where
  base : Le C.Z0 Z
  heap : ∀ b o, Z b = some o → s.heap.get? b = some o
  tabs : TabOk C Z s.heap
  off : ∀ t ∈ C.tabs, Z t.1 = none
structure StepX (C : Cx) (X : Addr → Prop) (Z : Fz) (s : Shared) (Z' : Fz) (s' : Shared) : Prop where
  le : Le Z Z'
  new : ∀ b o, Z' b = some o → Z b = some o ∨ s.heap.get? b = none ∨ X b
  keep : ∀ b o, s.heap.get? b = some o → ¬ X b → (∀ t ∈ C.tabs, b ≠ t.1) → s'.heap.get? b = some o
  rest : s'.gens = s.gens ∧ s'.drawn = s.drawn ∧ s'.os = s.os
  inv : Inv C Z' s'
noncomputable abbrev No : Addr → Prop := fun _ => False
noncomputable abbrev Step (C : Cx) := StepX C No
section
variable {C : Cx} {X Y : Addr → Prop} {Z Z' Z'' : Fz} {s s' s'' : Shared}
theorem StepX.refl (I : Inv C Z s) : StepX C X Z s Z s :=
  ⟨Le.refl Z, fun _ _ e => .inl e, fun _ _ e _ _ => e, ⟨rfl, rfl, rfl⟩, I⟩
theorem StepX.gone (x : StepX C X Z s Z' s') {b : Addr} (h : s'.heap.get? b = none) : s.heap.get? b = none ∨ X b := by
  cases e : s.heap.get? b with
  | none => exact .inl rfl
  | some o =>
    by_cases hX : X b
    · exact .inr hX
    · have ht : ∀ t ∈ C.tabs, b ≠ t.1 := fun t ht q => by
        obtain ⟨ps, e', _⟩ := x.inv.tabs t ht
        rw [← q, h] at e'; cases e'
      rw [x.keep b o e hX ht] at h; cases h
theorem StepX.trans (x : StepX C X Z s Z' s') (y : StepX C X Z' s' Z'' s'') : StepX C X Z s Z'' s'' where
  le := x.le.trans y.le
  new := fun b o e => by
    rcases y.new b o e with h | h | h
    · exact x.new b o h
    · exact .inr (x.gone h)
    · exact .inr (.inr h)
  keep := fun b o e hX ht => y.keep b o (x.keep b o e hX ht) hX ht
  rest := ⟨y.rest.1.trans x.rest.1, y.rest.2.1.trans x.rest.2.1, y.rest.2.2.trans x.rest.2.2⟩
  inv := y.inv
theorem StepX.mono (x : StepX C X Z s Z' s') (h : ∀ b, X b → Y b) : StepX C Y Z s Z' s' :=
  ⟨x.le, fun b o e => (x.new b o e).imp id (Or.imp id (h b)), fun b o e hY ht => x.keep b o e (fun q => hY (h b q)) ht, x.rest, x.inv⟩
theorem Step.to (x : Step C Z s Z' s') : StepX C X Z s Z' s' := x.mono fun _ h => h.elim
theorem StepX.hide (x : StepX C X Z s Z' s') (h : ∀ b, X b → s.heap.get? b = none) : Step C Z s Z' s' :=
  ⟨x.le, fun b o e => (x.new b o e).elim .inl fun q => q.elim (fun q => .inr (.inl q)) fun q => .inr (.inl (h b q)),
   fun b o e _ ht => x.keep b o e (fun q => by rw [h b q] at e; cases e) ht, x.rest, x.inv⟩
theorem Inv.toks (I : Inv C Z s) (t : Nat) : Inv C Z { s with toks := t } := ⟨I.base, I.heap, I.tabs, I.off⟩
theorem Step.toks (I : Inv C Z s) (t : Nat) : StepX C X Z s Z { s with toks := t } :=
  ⟨Le.refl Z, fun _ _ e => .inl e, fun _ _ e _ _ => e, ⟨rfl, rfl, rfl⟩, I.toks t⟩
theorem TabOk.keeps {Z Z' : Fz} {h h' : Heap} (x : TabOk C Z h) (kz : Le Z Z') (k : ∀ t ∈ C.tabs, ∀ o, h.get? t.1 = some o → h'.get? t.1 = some o) : TabOk C Z' h' := fun t ht => by
  obtain ⟨ps, e, r⟩ := x t ht
  exact ⟨ps, k t ht _ e, r.imp id fun ⟨c, e1, e2⟩ => ⟨c, e1, e2.le kz⟩⟩
theorem StepX.keeps (I : Inv C Z s) {h' : Heap} {t : Nat} (k : ∀ b o, s.heap.get? b = some o → h'.get? b = some o) :
    StepX C X Z s Z { s with heap := h', toks := t } :=
  ⟨Le.refl Z, fun _ _ e => .inl e, fun b o e _ _ => k b o e, ⟨rfl, rfl, rfl⟩, ⟨I.base, fun b o e => k b o (I.heap b o e), I.tabs.keeps (Le.refl Z) fun t _ o e => k _ o e, I.off⟩⟩
noncomputable def put (Z : Fz) (a : Addr) (o : Obj) : Fz := fun b => if b = a then some o else Z b
theorem put_self {a : Addr} {o : Obj} : put Z a o a = some o := if_pos rfl
theorem put_ne {a b : Addr} {o : Obj} (h : b ≠ a) : put Z a o b = Z b := if_neg h
theorem gAb {h : Heap} {b : Addr} (hb : h.objs.size ≤ b) : h.get? b = none := by
  cases e : h.get? b with
  | none => rfl
  | some o => exact absurd (Heap.lt_size e) (Nat.not_lt.mpr hb)
theorem Inv.fresh (I : Inv C Z s) {b : Addr} (h : s.heap.get? b = none) : Z b = none := by
  cases e : Z b with
  | none => rfl
  | some o => rw [I.heap b o e] at h; cases h
theorem le_put {a : Addr} {o : Obj} (h : Z a = none) : Le Z (put Z a o) := fun b x e => by
  by_cases q : b = a
  · rw [q, h] at e; cases e
  · rw [put_ne q]; exact e
theorem StepX.alloc (I : Inv C Z s) {o : Obj} {t : Nat} (hf : o.isFreed = false) :
    StepX C X Z s (put Z s.heap.objs.size o) { s with heap := s.heap.push o, toks := t } := by
  have hz : Z s.heap.objs.size = none := I.fresh (gAb (Nat.le_refl _))
  refine ⟨le_put hz, fun b x e => ?_, fun b x e _ _ => Heap.get?_push_of_some _ e, ⟨rfl, rfl, rfl⟩, ⟨I.base.trans (le_put hz), fun b x e => ?_, I.tabs.keeps (le_put hz) fun t _ x e => Heap.get?_push_of_some _ e, fun t ht => ?_⟩⟩
  · by_cases q : b = s.heap.objs.size
    · exact .inr (.inl (gAb (Nat.le_of_eq q.symm)))
    · rw [put_ne q] at e; exact .inl e
  · by_cases q : b = s.heap.objs.size
    · subst q; rw [put_self] at e; cases e; exact Heap.get?_push_size _ hf
    · rw [put_ne q] at e; exact Heap.get?_push_of_some _ (I.heap b x e)
  · obtain ⟨ps, e, _⟩ := I.tabs t ht
    rw [put_ne (Nat.ne_of_lt (Heap.lt_size e))]; exact I.off t ht
theorem StepX.push (I : Inv C Z s) {o : Obj} {t : Nat} : StepX C X Z s Z { s with heap := s.heap.push o, toks := t } :=
  .keeps I fun _ _ e => Heap.get?_push_of_some _ e
theorem StepX.writes (I : Inv C Z s) {W : Addr → Prop} {h' : Heap} {t : Nat} (hX : ∀ b, W b → X b) (hs : ∀ b o, ¬ W b → s.heap.get? b = some o → h'.get? b = some o) (hZ : ∀ b, W b → Z b = none) (hne : ∀ b, W b → ∀ t ∈ C.tabs, b ≠ t.1) :
    StepX C X Z s Z { s with heap := h', toks := t } :=
  ⟨Le.refl Z, fun _ _ e => .inl e, fun b o e hb _ => hs b o (fun q => hb (hX b q)) e, ⟨rfl, rfl, rfl⟩,
   ⟨I.base, fun b o e => hs b o (fun q => by rw [hZ b q] at e; cases e) (I.heap b o e), I.tabs.keeps (Le.refl Z) fun t ht o e => hs _ o (fun q => hne _ q t ht rfl) e, I.off⟩⟩
theorem StepX.write (I : Inv C Z s) {a : Addr} {h' : Heap} {t : Nat} (hX : X a) (hs : Heap.SameBut a s.heap h') (hZ : Z a = none) (hne : ∀ t ∈ C.tabs, a ≠ t.1) : StepX C X Z s Z { s with heap := h', toks := t } :=
  .writes I (W := (· = a)) (fun b q => q ▸ hX) (fun b o q e => hs.extBut b o q e) (fun b q => q ▸ hZ) (fun b q => q ▸ hne)
theorem StepX.freeze (I : Inv C Z s) {a : Addr} {o : Obj} (hX : X a) (hZ : Z a = none) (ha : s.heap.get? a = some o) (hne : ∀ t ∈ C.tabs, a ≠ t.1) : StepX C X Z s (put Z a o) s := by
  refine ⟨le_put hZ, fun b x e => ?_, fun b x e _ _ => e, ⟨rfl, rfl, rfl⟩, ⟨I.base.trans (le_put hZ), fun b x e => ?_, I.tabs.keeps (le_put hZ) fun t _ o e => e, fun t ht => ?_⟩⟩
  · by_cases q : b = a
    · exact .inr (.inr (q ▸ hX))
    · rw [put_ne q] at e; exact .inl e
  · by_cases q : b = a
    · subst q; rw [put_self] at e; cases e; exact ha
    · rw [put_ne q] at e; exact I.heap b x e
  · rw [put_ne fun q => hne t ht q.symm]; exact I.off t ht
end
structure Room (n : Nat) (A : Around) : Prop where
  depth : A.depth + n ≤ 900
  units : A.units + 8 * n ≤ 9000
  handled : A.handled = none
theorem Room.le {n m : Nat} {A : Around} (x : Room n A) (h : m ≤ n) : Room m A := ⟨by have := x.depth; lia, by have := x.units; lia, x.handled⟩
noncomputable def stAt (p : Program) (i : Nat) : Stmt := p.main.body.getD i (.Pass default)
noncomputable def fdOf (st : Stmt) (qual : Str) (doc pm cd : Value) : FuncData := match st with
  | .FunctionDef name args body _ _ _ scope _ _ _ => { name, qualname := qual, params := args, body := .stmts body, scope, globals := mainGlobals, closure := [], defaults := .none, kwdefaults := .none, doc, pyModule := pm, code := cd, builtins := builtinsNs }
  | _ => default
noncomputable abbrev pw : Program := PySem.Challenge.pw_ta0130_01
noncomputable def tokI : List (Str × Int) := ([("!", 54), ("!=", 28), ("%", 24), ("%=", 40), ("&", 19), ("&=", 41), ("(", 7), (")", 8), ("*", 16), ("**", 35), ("**=", 46), ("*=", 38), ("+", 14), ("+=", 36), (",", 12), ("-", 15), ("-=", 37), ("->", 51), (".", 23), ("...", 52), ("/", 17), ("//", 47), ("//=", 48), ("/=", 39), (":", 11), (":=", 53), (";", 13), ("<", 20), ("<<", 33), ("<<=", 44), ("<=", 29), ("=", 22), ("==", 27), (">", 21), (">=", 30), (">>", 34), (">>=", 45), ("@", 49), ("@=", 50), ("[", 9), ("]", 10), ("^", 32), ("^=", 43), ("{", 25), ("|", 18), ("|=", 42), ("}", 26), ("~", 31)] : List (String × Int)).map fun p => (sQ p.1, p.2)
noncomputable def clsBody : Stmt → List Stmt
  | .ClassDef _ _ _ b .. => b
  | _ => []
noncomputable def mthSt (p : Program) (i k : Nat) : Stmt := (clsBody (stAt p i)).getD k (.Pass default)
noncomputable def mFd (st : Stmt) (qual : Str) (dv doc pm cd : Value) : FuncData := { fdOf st qual doc pm cd with defaults := dv }
noncomputable def codeN : Array Nat := #[14, 10, 4, 1, 1, 22, 0, 31, 16, 127, 0, 13, 7, 22, 0, 31, 16, 127, 0, 1]
noncomputable def codeV : Array Nat := #[14, 14, 4, 1, 1, 9, 4294966783, 0, 0, 2147483648, 0, 0, 0, 0, 0, 13, 11, 9, 4294966783, 0, 0, 2147483648, 0, 0, 0, 0, 0, 1]
noncomputable def eraseFd (fd : FuncData) : FuncData := { fd with doc := .none, pyModule := .none, code := .none }
noncomputable def codeQ (h : Heap) : Value → Option Str
  | .ref c => match h.get? c with
    | some o => match o.data with
      | .fields vs => match (vs[1]? : Option Value) with
        | some (.str q _) => some q
        | _ => none
      | _ => none
    | none => none
  | _ => none
noncomputable def fnSeen (h : Heap) (f : Addr) : Option (Obj × Option Str) := match h.get? f with
  | some o => match o.data with
    | .func fd => some ({ o with data := .func (eraseFd fd) }, codeQ h fd.code)
    | _ => none
  | none => none
noncomputable def defSeen (h : Heap) (x : Str) : Option (Obj × Option Str) := match h.nsMap mainGlobals x with
  | some (.ref f) => fnSeen h f
  | _ => none
noncomputable def defGood (i : Nat) (x : Str) : Option (Obj × Option Str) := some ({ cls := .type "function", data := .func (fdOf (stAt pw i) x .none .none .none) }, some x)
noncomputable def mthGood (k : Nat) (x : Str) (dv : Value) : Option (Obj × Option Str) := some ({ cls := .type "function", data := .func (mFd (mthSt pw 6 k) x dv .none .none .none) }, some x)
noncomputable def pvOf : Option Value → PV
  | some (.int i _) => .int i
  | some (.float x _) => .flt x
  | _ => .none
noncomputable def tokSeen (h : Heap) (x : Str) : Option (Value × Option Addr × Nat × Bool × List (Int × Option Str × PV)) := match h.nsMap mainGlobals x with
  | some (.ref a) => match h.get? a with
    | some o => match o.data with
      | .dict es _ => some (o.cls, o.dict, o.slots.size, a == sysModules, es.toList.map fun e => (e.hash, (match e.key with | .str s _ => some s | _ => none), pvOf (some e.val)))
      | _ => none
    | none => none
  | _ => none
noncomputable def tokGood (w : World) : Option (Value × Option Addr × Nat × Bool × List (Int × Option Str × PV)) := some (.type "dict", none, 0, false, tokI.map fun p => (hashStr w p.1, some p.1, .int p.2))
noncomputable def clsSeen (h : Heap) (a : Addr) : Option (Obj × Nat × Option (Option Value) × Option (Option Value) × Option (Option Value) × Option (Option Value)) :=
  (h.get? a).map fun o => ({ o with slots := #[] }, o.slots.size, o.slots[0]?, o.slots[1]?, o.slots[4]?, o.slots[5]?)
noncomputable def clsGood : Option (Obj × Nat × Option (Option Value) × Option (Option Value) × Option (Option Value) × Option (Option Value)) :=
  some ({ cls := .type "type", dict := none, data := .cls { name := sQ "Headers", bases := [.type "object"], mro := [.ref 175, .type "object"], ns := 174, qualname := sQ "Headers", hasDict := true, slotNames := [], subclasses := [], abstract := false, collection := none, hasDel := false }, slots := #[] },
   6, some none, some none, some (some (.builtin "object.__new__")), some (some (.bool true)))
noncomputable def patSeen (h : Heap) (x : Str) : Option (Value × Option Addr × Nat × Nat × Array Nat) := match h.nsMap mainGlobals x with
  | some (.ref a) => match h.get? a with
    | some o => match o.data with
      | .fields fs => match fs.getD 5 .none with
        | .ref l => match h.get? l with
          | some o' => match o'.data with
            | .seq items _ => some (o.cls, o.dict, Builtin.Re.reRawNat (fs.getD 6 .none), Builtin.Re.reRawNat (fs.getD 2 .none), (items.map Builtin.Re.reRawOf).map (·.toNat))
            | _ => none
          | none => none
        | _ => none
      | _ => none
    | none => none
  | _ => none
noncomputable def nestSeen (h : Heap) (x : Str) (f c p : Addr) : Option Value × Option Value × Bool × Option Obj :=
  (h.nsMap mainGlobals x, (match h.get? f with | some o => (match o.data with | .func fd => some fd.code | _ => none) | none => none), (match h.get? c with | some o => codeHdIn [(c, o)] c p | none => false), h.get? p)
noncomputable def nestGood (f c : Addr) : Option Value × Option Value × Bool × Option Obj := (some (.ref f), some (.ref c), true, some (tabObj #[]))
noncomputable def defL : List (Nat × Str) := [(9, sQ "_div2n1n"), (11, sQ "_int2digits"), (12, sQ "_digits2int"), (13, sQ "_divmod_pos"), (14, sQ "int_divmod"), (19, sQ "rgb_to_hls"), (20, sQ "hls_to_rgb"), (21, sQ "_v"), (22, sQ "rgb_to_hsv"), (23, sQ "hsv_to_rgb"),
  (76, sQ "ISTERMINAL"), (77, sQ "ISNONTERMINAL"), (78, sQ "ISEOF"), (80, sQ "_law_unfolded"), (81, sQ "_law_turned"), (82, sQ "_law_walk"), (83, sQ "_law_round"), (84, sQ "_law_due"), (85, sQ "_law_far"), (86, sQ "_law_there"), (87, sQ "_law_names"), (88, sQ "law")]
noncomputable def valL : List (Str × PV) := [(sQ "_DIV_LIMIT", .int 4000), (sQ "ONE_THIRD", .flt 4599676419421066581), (sQ "ONE_SIXTH", .flt 4595172819793696085), (sQ "TWO_THIRD", .flt 4604180019048437077), (sQ "NT_OFFSET", .int 256), (sQ "ENDMARKER", .int 0)]
noncomputable def offL : List Str := [sQ "max", sQ "min", sQ "int", sQ "range", sQ "zip", sQ "round", sQ "len", sQ "ord", sQ "sum", sQ "enumerate", sQ "str", sQ "list", sQ "type", sQ "divmod", sQ "reversed", sQ "ZeroDivisionError"]
noncomputable def nsL : List Str := ["__getattribute__", "__getattr__", "__setattr__", sQ "_headers", "__init__", sQ "_convert_string_type", sQ "get_all", sQ "items", sQ "add_header", sQ "get", sQ "setdefault"]
noncomputable def mthL : List (Nat × Addr × Str × Value) := [(0, 69, sQ "Headers.__init__", .ref 62), (1, 76, sQ "Headers._convert_string_type", .none), (7, 114, sQ "Headers.get_all", .none), (11, 139, sQ "Headers.items", .none), (16, 172, sQ "Headers.add_header", .none), (8, 122, sQ "Headers.get", .ref 115), (15, 165, sQ "Headers.setdefault", .none)]
noncomputable def looks (s : Shared) :=
  let h := s.heap
  (defL.map (fun p => defSeen h p.2), valL.map (fun p => pvOf (h.nsMap mainGlobals p.1)), offL.map (fun x => (h.nsMap mainGlobals x).isNone), tokSeen h (sQ "EXACT_TOKEN_TYPES"),
   clsSeen h 175, h.nsMap mainGlobals (sQ "Headers"), h.isNs 174, nsL.map (h.nsMap 174), mthL.map (fun p => fnSeen h p.2.1), (h.get? 62, h.get? 115),
   patSeen h (sQ "_name_disallowed_re"), patSeen h (sQ "_value_disallowed_re"), nestSeen h (sQ "_int2digits") 200 199 195, nestSeen h (sQ "_digits2int") 207 206 202)
noncomputable def hopes (w : World) :=
  (defL.map (fun p => defGood p.1 p.2), valL.map (fun p => p.2), offL.map (fun _ => true), tokGood w,
   clsGood, some (Value.ref 175), true, ([none, none, none, none, some (.ref 69), some (.ref 76), some (.ref 114), some (.ref 139), some (.ref 172), some (.ref 122), some (.ref 165)] : List (Option Value)), mthL.map (fun p => mthGood p.1 p.2.2.1 p.2.2.2), (some ({ cls := .type "tuple", data := .seq #[.none] 0 } : Obj), some ({ cls := .type "tuple", data := .seq #[.none] 0 } : Obj)),
   some (Value.type "re.Pattern", (none : Option Addr), 0, 0, codeN), some (Value.type "re.Pattern", (none : Option Addr), 0, 0, codeV), nestGood 200 199, nestGood 207 206)
noncomputable def qV : Program := view pw [0, 88]
noncomputable def loose2 : List Str := pw.boundNames.filter fun n => !(n == sQ "law" || n == sQ "_sre")
section
set_option maxHeartbeats 0
open PySem.W.X
theorem said0 : PySem.Challenge.rw_ta0130_01.wellSaid = true := by kernel_rfl
theorem left_f (w : World) : (openEnds treeTable pw (w.withFollow "special-get-raises" false) 6570).map (fun s => (openSeen qV loose2 (importedModules pw.main.body) (fun s => xlAt qV [] s && recOk [] s) true s, looks s)) = some (openGood qV loose2, hopes (w.withFollow "special-get-raises" false)) := by
  unfold openEnds fencedOpening topFrom qV loose2 pw namesBound laidKept xlAt
  rw [PySem.W.Fast.te10274390034422433532, PySem.W.Fast.te14289696077712309145, PySem.W.Fast.te14082659384304107361, PySem.W.Fast.te14364793385576792824, PySem.W.Fast.te1435165496053646825, PySem.W.Fast.te4187177175401517315, PySem.W.Fast.te18344453789297297638, PySem.W.Fast.te5923862056798008813]
  kernel_rfl
theorem left_t (w : World) : (openEnds treeTable pw (w.withFollow "special-get-raises" true) 6570).map (fun s => (openSeen qV loose2 (importedModules pw.main.body) (fun s => xlAt qV [] s && recOk [] s) true s, looks s)) = some (openGood qV loose2, hopes (w.withFollow "special-get-raises" true)) := by
  unfold openEnds fencedOpening topFrom qV loose2 pw namesBound laidKept xlAt
  rw [PySem.W.Fast.te10274390034422433532, PySem.W.Fast.te14289696077712309145, PySem.W.Fast.te14082659384304107361, PySem.W.Fast.te14364793385576792824, PySem.W.Fast.te1435165496053646825, PySem.W.Fast.te4187177175401517315, PySem.W.Fast.te18344453789297297638, PySem.W.Fast.te5923862056798008813]
  kernel_rfl
theorem left : LeftO pw qV loose2 (fun s => xlAt qV [] s && recOk [] s) looks hopes 6570 := fun w => byRow2 "special-get-raises" (P := fun w => (openEnds treeTable pw w 6570).map (fun s => (openSeen qV loose2 (importedModules pw.main.body) (fun s => xlAt qV [] s && recOk [] s) true s, looks s)) = some (openGood qV loose2, hopes w)) left_f left_t w
end
structure Asn (C : Cx) where
  at_ : Fz → Heap → Prop
  stable : ∀ {Z : Fz} {s : Shared} {Z' : Fz} {s' : Shared}, Inv C Z s → at_ Z s.heap → Step C Z s Z' s' → at_ Z' s'.heap
structure Vp where
  at_ : Fz → Value → Prop
  mono : ∀ {Z Z' : Fz} {v : Value}, Le Z Z' → at_ Z v → at_ Z' v
noncomputable def is (d : PV) : Vp := ⟨fun Z v => Rd Z v d, fun k h => h.le k⟩
noncomputable def isv (v : Value) : Vp := ⟨fun _ u => u = v, fun _ h => h⟩
def EV (C : Cx) (n : Nat) (Φ : Asn C) (t : Sem Value) (P : Vp) : Prop :=
  ∀ (A : Around) (s : Shared) (Z : Fz) (Q : Value → Shared → Prop) (E : Value → Shared → Prop), Room n A → Inv C Z s → Φ.at_ Z s.heap →
    (∀ v Z' s', Step C Z s Z' s' → P.at_ Z' v → Q v s') → wpAny (model C.prog C.w) A t Q E s
def TV (C : Cx) (n : Nat) (Φ : Asn C) (t : Sem Bool) (b : Bool) : Prop :=
  ∀ (A : Around) (s : Shared) (Z : Fz) (Q : Bool → Shared → Prop) (E : Value → Shared → Prop), Room n A → Inv C Z s → Φ.at_ Z s.heap →
    (∀ Z' s', Step C Z s Z' s' → Q b s') → wpAny (model C.prog C.w) A t Q E s
def OP1 (C : Cx) (n : Nat) (f : Value → Sem Value) (P R : Vp) : Prop :=
  ∀ (A : Around) (s : Shared) (Z : Fz) (a : Value) (Q : Value → Shared → Prop) (E : Value → Shared → Prop), Room n A → Inv C Z s → P.at_ Z a →
    (∀ v Z' s', Step C Z s Z' s' → R.at_ Z' v → Q v s') → wpAny (model C.prog C.w) A (f a) Q E s
def OP2 (C : Cx) (n : Nat) (f : Value → Value → Sem Value) (P P' R : Vp) : Prop :=
  ∀ (A : Around) (s : Shared) (Z : Fz) (a b : Value) (Q : Value → Shared → Prop) (E : Value → Shared → Prop), Room n A → Inv C Z s → P.at_ Z a → P'.at_ Z b →
    (∀ v Z' s', Step C Z s Z' s' → R.at_ Z' v → Q v s') → wpAny (model C.prog C.w) A (f a b) Q E s
section
variable {C : Cx} {n : Nat} {Φ : Asn C} {env : Env} {P P' R : Vp} {l r x : Expr} {pos : Pos}
theorem ev_bin {op : Operator} (hl : EV C n Φ (eval l env) P) (hr : EV C n Φ (eval r env) P') (ho : OP2 C n (binaryOp op) P P' R) :
    EV C n Φ (eval (.BinOp l op r pos) env) R := fun A s Z Q E hA I h k => by
  refine wpAny_BinOp (hl A s Z _ E hA I h fun a Z₁ s₁ x₁ pa => ?_)
  refine hr A s₁ Z₁ _ E hA x₁.inv (Φ.stable I h x₁) fun b Z₂ s₂ x₂ pb => ?_
  exact ho A s₂ Z₂ a b Q E hA x₂.inv (P.mono x₂.le pa) pb fun v Z₃ s₃ x₃ pv => k v Z₃ s₃ ((x₁.trans x₂).trans x₃) pv
theorem ev_un {op : UnaryOp} (hx : EV C n Φ (eval x env) P) (ho : OP1 C n (unaryOp op) P R) : EV C n Φ (eval (.UnaryOp op x pos) env) R := fun A s Z Q E hA I h k => by
  refine wpAny_UnaryOp (hx A s Z _ E hA I h fun a Z₁ s₁ x₁ pa => ?_)
  exact ho A s₁ Z₁ a Q E hA x₁.inv pa fun v Z₂ s₂ x₂ pv => k v Z₂ s₂ (x₁.trans x₂) pv
theorem ev_cmp {op : CmpOp} (hl : EV C n Φ (eval l env) P) (hr : EV C n Φ (eval r env) P') (ho : OP2 C n (compareOp op) P P' R) (hm : behindInMarks op r = false := by rfl) :
    EV C n Φ (eval (.Compare l [op] [r] pos) env) R := fun A s Z Q E hA I h k => by
  refine wpAny_Compare1 (hl A s Z _ E hA I h fun a Z₁ s₁ x₁ pa => ?_) hm
  refine hr A s₁ Z₁ _ E hA x₁.inv (Φ.stable I h x₁) fun b Z₂ s₂ x₂ pb => ?_
  exact ho A s₂ Z₂ a b Q E hA x₂.inv (P.mono x₂.le pa) pb fun v Z₃ s₃ x₃ pv => k v Z₃ s₃ ((x₁.trans x₂).trans x₃) pv
theorem tv_cmp {op : CmpOp} {b : Bool} {whole : Sem Value} (hl : EV C n Φ (eval l env) P) (hr : EV C n Φ (eval r env) P') (ho : OP2 C n (compareOp op) P P' (is (.bool b))) (hm : behindInMarks op r = false := by rfl) :
    TV C n Φ (isTrue (.Compare l [op] [r] pos) env whole) b := fun A s Z Q E hA I h k => by
  refine wpAny_isTrue_Compare1 (hl A s Z _ E hA I h fun a Z₁ s₁ x₁ pa => ?_) hm
  refine hr A s₁ Z₁ _ E hA x₁.inv (Φ.stable I h x₁) fun c Z₂ s₂ x₂ pb => ?_
  refine ho A s₂ Z₂ a c _ E hA x₂.inv (P.mono x₂.le pa) pb fun v Z₃ s₃ x₃ pv => ?_
  cases pv
  exact wpAny_truthy_bool (k Z₃ s₃ ((x₁.trans x₂).trans x₃))
theorem ev_ifexp {t b o : Expr} {c : Bool} (ht : TV C n Φ (isTrue t env (eval t env)) c) (hb : c = true → EV C n Φ (eval b env) R) (ho : c = false → EV C n Φ (eval o env) R) :
    EV C n Φ (eval (.IfExp t b o pos) env) R := fun A s Z Q E hA I h k => by
  refine wpAny_IfExp (ht A s Z _ E hA I h fun Z₁ s₁ x₁ => ?_)
  cases c with
  | true => exact hb rfl A s₁ Z₁ Q E hA x₁.inv (Φ.stable I h x₁) fun v Z₂ s₂ x₂ pv => k v Z₂ s₂ (x₁.trans x₂) pv
  | false => exact ho rfl A s₁ Z₁ Q E hA x₁.inv (Φ.stable I h x₁) fun v Z₂ s₂ x₂ pv => k v Z₂ s₂ (x₁.trans x₂) pv
theorem ev_int {i : Int} {k : Nat} : EV C n Φ (eval (.Constant (.int i) k pos) env) (is (.int i)) := fun A s Z Q E hA I h q =>
  wpAny_Constant_int (q _ Z _ (Step.toks I _) (.int i _))
theorem ev_flt {i : UInt64} {k : Nat} : EV C n Φ (eval (.Constant (.float i) k pos) env) (is (.flt i)) := fun A s Z Q E hA I h q =>
  wpAny_Constant_float (q _ Z _ (Step.toks I _) (.flt i _))
theorem ev_str {i : Str} {k : Nat} : EV C n Φ (eval (.Constant (.str i) k pos) env) (is (.str i)) := fun A s Z Q E hA I h q =>
  wpAny_Constant_str (q _ Z _ (Step.toks I _) (.str i _))
theorem ev_none {k : Nat} : EV C n Φ (eval (.Constant .none k pos) env) (is .none) := fun A s Z Q E hA I h q =>
  wpAny_Constant_none (q _ Z _ (StepX.refl I) .none)
theorem ev_bool {b : Bool} {k : Nat} : EV C n Φ (eval (.Constant (.bool b) k pos) env) (is (.bool b)) := fun A s Z Q E hA I h q =>
  wpAny_Constant_bool (q _ Z _ (StepX.refl I) (.bool b))
theorem op_add_int {a b : Int} : OP2 C n (binaryOp .Add) (is (.int a)) (is (.int b)) (is (.int (a + b))) := fun A s Z u v Q E hA I hu hv k => by
  cases hu; cases hv
  exact wpAny_add_int (k _ Z _ (Step.toks I _) (.int _ _))
theorem op_sub_int {a b : Int} : OP2 C n (binaryOp .Sub) (is (.int a)) (is (.int b)) (is (.int (a - b))) := fun A s Z u v Q E hA I hu hv k => by
  cases hu; cases hv
  exact PyProof.Rows.sub_int (k _ Z _ (Step.toks I _) (.int _ _))
theorem op_lt_int {a b : Int} : OP2 C n (compareOp .Lt) (is (.int a)) (is (.int b)) (is (.bool (decide (a < b)))) := fun A s Z u v Q E hA I hu hv k => by
  cases hu; cases hv
  exact wpAny_lt_int (k _ Z _ (StepX.refl I) (.bool _))
end
abbrev PlainName (x : Str) : Prop := (x == ("__debug__" : Str)) = false ∧ (x == ("__classdict__" : Str)) = false
def VarAt (env : Env) (h : Heap) (x : Str) (v : Value) : Prop :=
  PlainName x ∧ ((env.kindOf x = some .local ∧ ∃ m, h.Ns env.locals m ∧ m x = some v) ∨ ((env.kindOf x = some .cell ∨ env.kindOf x = some .free) ∧ ∃ c, env.cells.lookup x = some c ∧ h.IsCell c (some v)))
inductive Owned (Z : Fz) (h : Heap) (p : Addr × List PV) : Prop where
  | mk (z : Z p.1 = none) (vs : List Value) (n : Nat) (e : h.get? p.1 = some { cls := .type "list", data := .seq vs.toArray n }) (r : RdL Z vs p.2)
structure Held (env : Env) (ω : List (Addr × List PV)) (Z : Fz) (h : Heap) (b : Addr) (o : Obj) : Prop where
  z : Z b = none
  at_ : h.get? b = some o
  tab : ∀ ps, o ≠ tabObj ps
  loc : b ≠ env.locals
  cell : ∀ n c, env.cells.lookup n = some c → b ≠ c
  own : ∀ p ∈ ω, b ≠ p.1
def Vars (env : Env) (Z : Fz) (h : Heap) (nm : List Str) (ρ : List (Option Vp)) : Prop := ∀ (i : Nat) (x : Str) (P : Vp), nm[i]? = some x → ρ[i]? = some (some P) → ∃ v, VarAt env h x v ∧ P.at_ Z v
theorem Vars.nil {env : Env} {Z : Fz} {h : Heap} : Vars env Z h [] [] := fun _ _ _ e => nomatch e
theorem Vars.un {env : Env} {Z : Fz} {h : Heap} {x : Str} {nm : List Str} {ρ : List (Option Vp)} (r : Vars env Z h nm ρ) : Vars env Z h (x :: nm) (none :: ρ) := fun i y P e1 e2 => by
  cases i with
  | zero => cases e2
  | succ i => exact r i y P e1 e2
theorem Vars.va {env : Env} {Z : Fz} {h : Heap} {x : Str} {P : Vp} {v : Value} {nm : List Str} {ρ : List (Option Vp)} (hv : VarAt env h x v) (hp : P.at_ Z v) (r : Vars env Z h nm ρ) : Vars env Z h (x :: nm) (some P :: ρ) := fun i y P' e1 e2 => by
  cases i with
  | zero => cases e1; cases e2; exact ⟨v, hv, hp⟩
  | succ i => exact r i y P' e1 e2
structure FSp (env : Env) (nm oc : List Str) (sc : List (Str × NameKind)) (X : Addr → Prop) (ρ : List (Option Vp)) (ω : List (Addr × List PV)) (κ : Addr → Option Obj) (Z : Fz) (h : Heap) : Prop where
  names : env.scope.names = sc
  gl : env.globals = mainGlobals
  bl : env.builtins = builtinsNs
  cellH : ∀ x ∈ oc, sc.lookup x = some .cell → (env.cells.lookup x).isSome = true
  fn : env.scope.kind = .function
  nodup : nm.Nodup
  apart : env.cells.Pairwise fun x y => x.2 ≠ y.2
  loc : ∃ m, h.Ns env.locals m
  locX : X env.locals
  locZ : Z env.locals = none
  cells : ∀ n c, env.cells.lookup n = some c → Z c = none ∧ ∃ v, h.IsCell c v
  cellX : ∀ n ∈ oc, ∀ c, env.cells.lookup n = some c → X c
  cof : ∀ a, h.get? a = none → X a
  vars : Vars env Z h nm ρ
  own : ∀ p ∈ ω, Owned Z h p
  ownX : ∀ p ∈ ω, X p.1
  ownN : (ω.map (·.1)).Nodup
  held : ∀ b o, κ b = some o → Held env ω Z h b o
  heldX : ∀ b o, κ b = some o → X b
section
variable {C : Cx} {X : Addr → Prop} {Z Z' : Fz} {s s' : Shared} {h h' : Heap}
theorem VarAt.keeps {env : Env} {x : Str} {v : Value} (y : VarAt env h x v) (kl : ∀ o, h.get? env.locals = some o → h'.get? env.locals = some o)
    (kc : ∀ c, env.cells.lookup x = some c → ∀ o, h.get? c = some o → h'.get? c = some o) : VarAt env h' x v := by
  obtain ⟨p, ⟨hk, m, hn, hm⟩ | ⟨hk, c, hc, hv⟩⟩ := y
  · exact ⟨p, .inl ⟨hk, m, hn.at' kl, hm⟩⟩
  · obtain ⟨o, e, d⟩ := hv
    exact ⟨p, .inr ⟨hk, c, hc, o, kc c hc o e, d⟩⟩
theorem Vars.keeps {env : Env} (kZ : Le Z Z') (kl : ∀ o, h.get? env.locals = some o → h'.get? env.locals = some o)
    (kc : ∀ n c, env.cells.lookup n = some c → ∀ o, h.get? c = some o → h'.get? c = some o) {nm : List Str} {ρ : List (Option Vp)} (H : Vars env Z h nm ρ) : Vars env Z' h' nm ρ := fun i x P e1 e2 =>
  let ⟨v, hv, hp⟩ := H i x P e1 e2
  ⟨v, hv.keeps kl (kc _), Vp.mono _ kZ hp⟩
theorem Inv.tab_fields (I : Inv C Z s) {b : Addr} {o : Obj} (e : s.heap.get? b = some o) (hd : ∀ ps, o ≠ tabObj ps) : ∀ t ∈ C.tabs, b ≠ t.1 := fun t ht q => by
  obtain ⟨ps, e', _⟩ := I.tabs t ht
  rw [← q, e] at e'; cases e'; exact hd ps rfl
theorem Inv.ns_notTab (I : Inv C Z s) {b : Addr} {m} (x : s.heap.Ns b m) : ∀ t ∈ C.tabs, b ≠ t.1 := by
  obtain ⟨o, es, ep, e, d, _⟩ := x
  exact I.tab_fields e fun ps q => by subst q; cases d
theorem Inv.cell_notTab (I : Inv C Z s) {b : Addr} {v} (x : s.heap.IsCell b v) : ∀ t ∈ C.tabs, b ≠ t.1 := by
  obtain ⟨o, e, d⟩ := x
  exact I.tab_fields e fun ps q => by subst q; cases d
theorem Owned.keeps {p : Addr × List PV} (x : Owned Z h p) (kZ : Le Z Z') (hz : Z' p.1 = none) (k : ∀ o, h.get? p.1 = some o → h'.get? p.1 = some o) : Owned Z' h' p := by
  obtain ⟨_, vs, n, e, r⟩ := x
  exact ⟨hz, vs, n, k _ e, RdL.le kZ r⟩
theorem StepX.stillNone (x : StepX C X Z s Z' s') {b : Addr} {o : Obj} (hz : Z b = none) (e : s.heap.get? b = some o) (hX : ¬ X b) : Z' b = none := by
  cases q : Z' b with
  | none => rfl
  | some o' =>
    rcases x.new b o' q with h | h | h
    · rw [hz] at h; cases h
    · rw [h] at e; cases e
    · exact absurd h hX
theorem FSp.step {env : Env} {nm oc : List Str} {sc : List (Str × NameKind)} {Y : Addr → Prop} {ρ : List (Option Vp)} {ω : List (Addr × List PV)} {κ : Addr → Option Obj} (I : Inv C Z s) (H : FSp env nm oc sc X ρ ω κ Z s.heap) (x : StepX C Y Z s Z' s')
    (hL : ¬ Y env.locals) (hC : ∀ n c, env.cells.lookup n = some c → ¬ Y c) (hO : ∀ p ∈ ω, ¬ Y p.1) (hK : ∀ b o, κ b = some o → ¬ Y b) (hY : ∀ b, Y b → X b) : FSp env nm oc sc X ρ ω κ Z' s'.heap := by
  have kl : ∀ o, s.heap.get? env.locals = some o → s'.heap.get? env.locals = some o := fun o e => by
    obtain ⟨m, hn⟩ := H.loc
    exact x.keep _ o e hL (I.ns_notTab hn)
  have kc : ∀ n c, env.cells.lookup n = some c → ∀ o, s.heap.get? c = some o → s'.heap.get? c = some o := fun n c hc o e => by
    obtain ⟨_, v, hv⟩ := H.cells n c hc
    exact x.keep _ o e (hC n c hc) (I.cell_notTab hv)
  refine ⟨H.names, H.gl, H.bl, H.cellH, H.fn, H.nodup, H.apart, ?_, H.locX, ?_, fun n c hc => ?_, H.cellX, fun a ha => (x.gone ha).elim (H.cof a) (hY a), H.vars.keeps x.le kl kc, fun p hp => ?_, H.ownX, H.ownN, fun b o e => ?_, H.heldX⟩
  · obtain ⟨m, hn⟩ := H.loc
    exact ⟨m, hn.at' kl⟩
  · obtain ⟨m, o, es, ep, e, _⟩ := H.loc
    exact x.stillNone H.locZ e hL
  · obtain ⟨hz, v, o, e, d⟩ := H.cells n c hc
    exact ⟨x.stillNone hz e (hC n c hc), v, o, kc n c hc o e, d⟩
  · obtain ⟨hz, vs, n, e, r⟩ := H.own p hp
    have hn : ∀ t ∈ C.tabs, p.1 ≠ t.1 := I.tab_fields e fun ps q => by cases q
    exact (H.own p hp).keeps x.le (x.stillNone hz e (hO p hp)) fun o e => x.keep _ o e (hO p hp) hn
  · obtain ⟨hz, ha, ht, hl, hc, hw⟩ := H.held b o e
    exact ⟨x.stillNone hz ha (hK b o e), x.keep _ _ ha (hK b o e) (I.tab_fields ha ht), ht, hl, hc, hw⟩
noncomputable def FS (C : Cx) (env : Env) (nm oc : List Str) (sc : List (Str × NameKind)) (X : Addr → Prop) (ρ : List (Option Vp)) (ω : List (Addr × List PV)) (κ : Addr → Option Obj) : Asn C :=
  ⟨FSp env nm oc sc X ρ ω κ, fun I H x => H.step I x (fun h => h) (fun _ _ _ h => h) (fun _ _ h => h) (fun _ _ _ h => h) fun _ h => h.elim⟩
inductive At : List Str → List (Option Vp) → Str → Vp → Prop where
  | here {x : Str} {nm : List Str} {P : Vp} {ρ : List (Option Vp)} : At (x :: nm) (some P :: ρ) x P
  | there {x y : Str} {nm : List Str} {P : Vp} {o : Option Vp} {ρ : List (Option Vp)} (r : At nm ρ x P) : At (y :: nm) (o :: ρ) x P
theorem At.ix {nm : List Str} {ρ : List (Option Vp)} {x : Str} {P : Vp} (H : At nm ρ x P) : ∃ i : Nat, nm[i]? = some x ∧ ρ[i]? = some (some P) := by
  induction H with
  | here => exact ⟨0, rfl, rfl⟩
  | there r ih => exact ih.elim fun i e => ⟨i + 1, e.1, e.2⟩
theorem At.a1 {x a : Str} {nm : List Str} {P : Vp} {o : Option Vp} {ρ : List (Option Vp)} : At (a :: x :: nm) (o :: some P :: ρ) x P := .there .here
theorem At.a2 {x a b : Str} {nm : List Str} {P : Vp} {o p : Option Vp} {ρ : List (Option Vp)} : At (a :: b :: x :: nm) (o :: p :: some P :: ρ) x P := .there .a1
theorem At.a3 {x a b c : Str} {nm : List Str} {P : Vp} {o p q : Option Vp} {ρ : List (Option Vp)} : At (a :: b :: c :: x :: nm) (o :: p :: q :: some P :: ρ) x P := .there .a2
theorem At.t4 {x a b c d : Str} {nm : List Str} {P : Vp} {o p q u : Option Vp} {ρ : List (Option Vp)} (r : At nm ρ x P) : At (a :: b :: c :: d :: nm) (o :: p :: q :: u :: ρ) x P := .there (.there (.there (.there r)))
theorem At.var {env : Env} {nm : List Str} {ρ : List (Option Vp)} {x : Str} {P : Vp} (a : At nm ρ x P) (H : Vars env Z h nm ρ) : ∃ v, VarAt env h x v ∧ P.at_ Z v :=
  a.ix.elim fun i e => H i x P e.1 e.2
inductive Upd : List Str → List (Option Vp) → Str → Option Vp → List (Option Vp) → Prop where
  | here {x : Str} {nm : List Str} {P o : Option Vp} {ρ : List (Option Vp)} : Upd (x :: nm) (o :: ρ) x P (P :: ρ)
  | there {x y : Str} {nm : List Str} {P o : Option Vp} {ρ ρ' : List (Option Vp)} (r : Upd nm ρ x P ρ') : Upd (y :: nm) (o :: ρ) x P (o :: ρ')
theorem Upd.a1 {x a : Str} {nm : List Str} {P o p : Option Vp} {ρ : List (Option Vp)} : Upd (a :: x :: nm) (o :: p :: ρ) x P (o :: P :: ρ) := .there .here
theorem Upd.a2 {x a b : Str} {nm : List Str} {P o p q : Option Vp} {ρ : List (Option Vp)} : Upd (a :: b :: x :: nm) (o :: p :: q :: ρ) x P (o :: p :: P :: ρ) := .there .a1
theorem Upd.a3 {x a b c : Str} {nm : List Str} {P o p q u : Option Vp} {ρ : List (Option Vp)} : Upd (a :: b :: c :: x :: nm) (o :: p :: q :: u :: ρ) x P (o :: p :: q :: P :: ρ) := .there .a2
theorem Upd.t4 {x a b c d : Str} {nm : List Str} {P o p q u : Option Vp} {ρ ρ' : List (Option Vp)} (r : Upd nm ρ x P ρ') : Upd (a :: b :: c :: d :: nm) (o :: p :: q :: u :: ρ) x P (o :: p :: q :: u :: ρ') := .there (.there (.there (.there r)))
theorem Upd.ix {nm : List Str} {ρ ρ' : List (Option Vp)} {x : Str} {P : Option Vp} (H : Upd nm ρ x P ρ') : ∃ i : Nat, nm[i]? = some x ∧ ρ'[i]? = some P ∧ ∀ j, j ≠ i → ρ'[j]? = ρ[j]? := by
  induction H with
  | here => exact ⟨0, rfl, rfl, fun j hj => by cases j with | zero => exact absurd rfl hj | succ j => rfl⟩
  | there r ih => exact ih.elim fun i e => ⟨i + 1, e.1, e.2.1, fun j hj => by cases j with | zero => rfl | succ j => exact e.2.2 j fun q => hj (congrArg (· + 1) q)⟩
theorem Vars.upd {env : Env} {P : Vp} {v : Value} {nm : List Str} {ρ ρ' : List (Option Vp)} {x : Str} (H : Vars env Z h nm ρ) (nd : nm.Nodup) (u : Upd nm ρ x (some P) ρ')
    (k : ∀ y u, y ≠ x → VarAt env h y u → VarAt env h' y u) (hv : VarAt env h' x v) (hp : P.at_ Z v) : Vars env Z h' nm ρ' := fun i y P' e1 e2 => by
  obtain ⟨j, a1, a2, a3⟩ := u.ix
  by_cases q : i = j
  · subst q
    rw [a1] at e1; cases e1
    rw [a2] at e2; cases e2
    exact ⟨v, hv, hp⟩
  · rw [a3 i q] at e2
    obtain ⟨w, h1, h2⟩ := H i y P' e1 e2
    refine ⟨w, k y w (fun r => ?_) h1, h2⟩
    subst r
    exact q ((List.getElem?_inj (List.getElem?_eq_some_iff.mp e1).1 nd).mp (e1.trans a1.symm))
theorem load_var {M : Model} {A : Around} {env : Env} {x : Str} {v : Value} {Q : Value → Shared → Prop} {E : Value → Shared → Prop} (hk : env.scope.kind = .function) (y : VarAt env s.heap x v) (q : Q v s) :
    wpAny M A (loadName env x) Q E s := by
  obtain ⟨p, ⟨hl, m, hn, hm⟩ | ⟨hl, c, hc, hv⟩⟩ := y
  · exact wpAny_loadName_local hk hl hn hm q
  · rcases hl with hl | hl
    · exact wpAny_loadName_cell hk hl hc hv q
    · exact wpAny_loadName_free hk hl hc hv q p.2
theorem ev_name {n : Nat} {env : Env} {nm oc : List Str} {sc : List (Str × NameKind)} {ρ : List (Option Vp)} {ω : List (Addr × List PV)} {κ : Addr → Option Obj} {x : Str} {P : Vp} {pos : Pos} (hx : At nm ρ x P) :
    EV C n (FS C env nm oc sc X ρ ω κ) (eval (.Name x pos) env) P := fun A s Z Q E hA I H k => by
  obtain ⟨v, hv, hp⟩ := hx.var H.vars
  exact wpAny_Name (load_var H.fn hv (k v Z s (StepX.refl I) hp)) hv.1.1
noncomputable def canSt (sc : List (Str × NameKind)) (oc : List Str) (x : Str) : Bool := sc.lookup x == some .local || (sc.lookup x == some .cell && oc.contains x)
theorem canSt_or {sc : List (Str × NameKind)} {oc : List Str} {x : Str} (h : canSt sc oc x = true) : sc.lookup x = some .local ∨ (sc.lookup x = some .cell ∧ x ∈ oc) := by
  simp only [canSt, Bool.or_eq_true, Bool.and_eq_true, beq_iff_eq, List.contains_iff_mem] at h
  exact h
theorem st_name {A : Around} {env : Env} {nm oc : List Str} {sc : List (Str × NameKind)} {ρ ρ' : List (Option Vp)} {ω : List (Addr × List PV)} {κ : Addr → Option Obj} {x : Str} {v : Value} {P : Vp} {Q : Unit → Shared → Prop} {E : Value → Shared → Prop} {M : Model}
    (I : Inv C Z s) (H : FSp env nm oc sc X ρ ω κ Z s.heap) (hp : P.at_ Z v) (hu : Upd nm ρ x (some P) ρ') (pl : PlainName x)
    (hk : canSt sc oc x = true)
    (k : ∀ s', StepX C X Z s Z s' → FSp env nm oc sc X ρ' ω κ Z s'.heap → Q () s') : wpAny M A (storeName env x v) Q E s := by
  obtain ⟨m, hn⟩ := H.loc
  have hke : ∀ y, env.kindOf y = sc.lookup y := fun y => by rw [← H.names]; rfl
  rcases canSt_or hk with hk | ⟨hk, hoc⟩ <;> rw [← hke] at hk
  · refine wpAny_storeName_local hk hn (fun h' hn' hs' => ?_) (by rw [H.fn]; rfl)
    have cne : ∀ n c, env.cells.lookup n = some c → c ≠ env.locals := fun n c hc q => by
      obtain ⟨_, w, o, e, d⟩ := H.cells n c hc
      obtain ⟨o', es, ep, e', d', _⟩ := hn
      rw [q, e'] at e; cases e; rw [d'] at d; cases d
    have st : StepX C X Z s Z { s with heap := h', toks := s.toks + 1 } := .write I H.locX hs' H.locZ (I.ns_notTab hn)
    refine k _ st ⟨H.names, H.gl, H.bl, H.cellH, H.fn, H.nodup, H.apart, ⟨_, hn'⟩, H.locX, H.locZ, fun n c hc => ⟨(H.cells n c hc).1, ?_⟩, H.cellX, fun a ha => (st.gone ha).elim (H.cof a) id,
      H.vars.upd H.nodup hu (fun y u hy hv => ?_) ⟨pl, .inl ⟨hk, _, hn', if_pos rfl⟩⟩ hp, fun p hp => ?_, H.ownX, H.ownN, fun b o e => ?_, H.heldX⟩
    · obtain ⟨w, hw⟩ := (H.cells n c hc).2
      exact ⟨w, hw.sameBut hs' (cne n c hc)⟩
    · obtain ⟨p, ⟨hl, m', hn'', hm⟩ | ⟨hl, c, hc, hv⟩⟩ := hv
      · refine ⟨p, .inl ⟨hl, _, hn', ?_⟩⟩
        rw [if_neg hy]
        obtain ⟨o1, es1, ep1, e1, d1, _, f1⟩ := hn
        obtain ⟨o2, es2, ep2, e2, d2, _, f2⟩ := hn''
        rw [e1] at e2; cases e2; rw [d1] at d2; cases d2
        rw [← f1 y, f2 y]; exact hm
      · exact ⟨p, .inr ⟨hl, c, hc, hv.sameBut hs' (cne y c hc)⟩⟩
    · obtain ⟨hz, vs, n, e, r⟩ := H.own p hp
      refine ⟨hz, vs, n, hs'.extBut _ _ (fun q => ?_) e, r⟩
      obtain ⟨o', es, ep, e', d', _⟩ := hn
      rw [← q, e] at e'; cases e'; cases d'
    · obtain ⟨hz, ha, ht, hl, hc, hw⟩ := H.held b o e
      exact ⟨hz, hs'.extBut _ _ hl ha, ht, hl, hc, hw⟩
  · obtain ⟨c, hc⟩ := Option.isSome_iff_exists.mp (H.cellH x hoc (by rw [← hke]; exact hk))
    obtain ⟨hz, w, hw⟩ := H.cells x c hc
    refine wpAny_storeName_cell H.fn hk hc hw fun h' hc' hs' => ?_
    have lne : env.locals ≠ c := fun q => by
      obtain ⟨o, e, d⟩ := hw
      obtain ⟨o', es, ep, e', d', _⟩ := hn
      rw [q, e] at e'; cases e'; rw [d'] at d; cases d
    have st : StepX C X Z s Z { s with heap := h' } := .write (t := s.toks) I (H.cellX x hoc c hc) hs' hz (I.cell_notTab hw)
    refine k _ st ⟨H.names, H.gl, H.bl, H.cellH, H.fn, H.nodup, H.apart, ⟨m, hn.sameBut hs' lne⟩, H.locX, H.locZ, fun n c' hc'' => ⟨(H.cells n c' hc'').1, ?_⟩, H.cellX, fun a ha => (st.gone ha).elim (H.cof a) id,
      H.vars.upd H.nodup hu (fun y u hy hv => ?_) ⟨pl, .inr ⟨.inl hk, c, hc, hc'⟩⟩ hp, fun p hp => ?_, H.ownX, H.ownN, fun b o e => ?_, H.heldX⟩
    · by_cases q : c' = c
      · subst q; exact ⟨_, hc'⟩
      · obtain ⟨w', hw'⟩ := (H.cells n c' hc'').2
        exact ⟨w', hw'.sameBut hs' q⟩
    · obtain ⟨p, ⟨hl, m', hn'', hm⟩ | ⟨hl, c', hc'', hv⟩⟩ := hv
      · exact ⟨p, .inl ⟨hl, m', hn''.sameBut hs' lne, hm⟩⟩
      · exact ⟨p, .inr ⟨hl, c', hc'', hv.sameBut hs' fun q => hy (name_of_addr H.apart (mem_of_lookup hc'') (q ▸ mem_of_lookup hc))⟩⟩
    · obtain ⟨hz', vs, n, e, r⟩ := H.own p hp
      refine ⟨hz', vs, n, hs'.extBut _ _ (fun q => ?_) e, r⟩
      obtain ⟨o', e', d'⟩ := hw
      rw [← q, e] at e'; cases e'; cases d'
    · obtain ⟨hz, ha, ht, hl, hc', hw⟩ := H.held b o e
      exact ⟨hz, hs'.extBut _ _ (hc' x c hc) ha, ht, hl, hc', hw⟩
end
def EX (C : Cx) (n : Nat) (X : Addr → Prop) (Φ : Asn C) (t : Sem Flow) (Ψ : Asn C) (R : Vp) : Prop :=
  ∀ (A : Around) (s : Shared) (Z : Fz) (Q : Flow → Shared → Prop) (E : Value → Shared → Prop), Room n A → Inv C Z s → Φ.at_ Z s.heap →
    (∀ Z' s', StepX C X Z s Z' s' → Ψ.at_ Z' s'.heap → Q .next s') → (∀ v Z' s', StepX C X Z s Z' s' → R.at_ Z' v → Q (.ret v) s') → wpAny (model C.prog C.w) A t Q E s
noncomputable def botA (C : Cx) : Asn C := ⟨fun _ _ => False, fun _ h _ => h⟩
section
variable {C : Cx} {n : Nat} {X : Addr → Prop} {Φ Ψ Θ : Asn C} {R : Vp} {env : Env} {nm oc : List Str} {sc : List (Str × NameKind)} {st : Stmt} {rest : List Stmt} {pos : Pos}
theorem ex_nil : EX C n X Φ (execs [] env) Φ R := fun A s Z Q E hA I H k _ => wpAny_execs_nil (k Z s (StepX.refl I) H)
theorem ex_cons (h1 : EX C n X Φ (exec st env) Ψ R) (h2 : EX C n X Ψ (execs rest env) Θ R) : EX C n X Φ (execs (st :: rest) env) Θ R := fun A s Z Q E hA I H k kr => by
  refine wpAny_execs_cons (h1 A s Z _ E hA I H (fun Z₁ s₁ x₁ H₁ => ?_) fun v Z₁ s₁ x₁ r => kr v Z₁ s₁ x₁ r)
  exact h2 A s₁ Z₁ Q E hA x₁.inv H₁ (fun Z₂ s₂ x₂ H₂ => k Z₂ s₂ (x₁.trans x₂) H₂) fun v Z₂ s₂ x₂ r => kr v Z₂ s₂ (x₁.trans x₂) r
theorem ex_ret {e : Expr} (h : EV C n Φ (eval e env) R) : EX C n X Φ (execs (.Return (some e) pos :: rest) env) Ψ R := fun A s Z Q E hA I H k kr => by
  refine wpAny_execs_cons (wpAny_Return_some (h A s Z _ E hA I H fun v Z₁ s₁ x₁ r => kr v Z₁ s₁ x₁.to r))
theorem ex_mono (h : EX C n X Φ (execs rest env) Ψ R) (k : ∀ {Z h}, Ψ.at_ Z h → Θ.at_ Z h) : EX C n X Φ (execs rest env) Θ R := fun A s Z Q E hA I H kn kr =>
  h A s Z Q E hA I H (fun Z₁ s₁ x₁ H₁ => kn Z₁ s₁ x₁ (k H₁)) kr
theorem ex_if {t : Expr} {b o : List Stmt} {c : Bool} (ht : TV C n Φ (isTrue t env (eval t env)) c) (hb : c = true → EX C n X Φ (execs b env) Ψ R) (ho : c = false → EX C n X Φ (execs o env) Ψ R) :
    EX C n X Φ (exec (.If t b o pos) env) Ψ R := fun A s Z Q E hA I H k kr => by
  refine wpAny_If (ht A s Z _ E hA I H fun Z₁ s₁ x₁ => ?_)
  cases c with
  | true => exact hb rfl A s₁ Z₁ Q E hA x₁.inv (Φ.stable I H x₁) (fun Z₂ s₂ x₂ H₂ => k Z₂ s₂ (x₁.to.trans x₂) H₂) fun v Z₂ s₂ x₂ r => kr v Z₂ s₂ (x₁.to.trans x₂) r
  | false => exact ho rfl A s₁ Z₁ Q E hA x₁.inv (Φ.stable I H x₁) (fun Z₂ s₂ x₂ H₂ => k Z₂ s₂ (x₁.to.trans x₂) H₂) fun v Z₂ s₂ x₂ r => kr v Z₂ s₂ (x₁.to.trans x₂) r
theorem ex_assign {ρ ρ' : List (Option Vp)} {ω : List (Addr × List PV)} {κ : Addr → Option Obj} {x : Str} {xp : Pos} {e : Expr} {P : Vp} (he : EV C n (FS C env nm oc sc X ρ ω κ) (eval e env) P) (hu : Upd nm ρ x (some P) ρ')
    (pl : PlainName x) (hk : canSt sc oc x = true)
    (hs : swapsWith e (some (.Name x xp)) pos.line env = pure false) :
    EX C n X (FS C env nm oc sc X ρ ω κ) (exec (.Assign [.Name x xp] e pos) env) (FS C env nm oc sc X ρ' ω κ) R := fun A s Z Q E hA I H k kr => by
  refine wpAny_Assign_Name (he A s Z _ E hA I H fun v Z₁ s₁ x₁ pv => ?_) hs
  exact st_name x₁.inv ((FS C env nm oc sc X ρ ω κ).stable I H x₁) pv hu pl hk fun s₂ x₂ H₂ => k Z₁ s₂ (x₁.to.trans x₂) H₂
end
theorem StepX.over {C : Cx} {X : Addr → Prop} {Z Z₁ Z' : Fz} {s s₁ s' : Shared} (st : Step C Z s Z₁ s₁) (x : StepX C X Z₁ s₁ Z' s') (h : ∀ b, X b → s.heap.get? b = none) : Step C Z s Z' s' where
  le := st.le.trans x.le
  new := fun b o e => by
    rcases x.new b o e with q | q | q
    · exact st.new b o q
    · exact (st.gone q).elim (fun q => .inr (.inl q)) fun q => q.elim
    · exact .inr (.inl (h b q))
  keep := fun b o e _ ht => x.keep b o (st.keep b o e (fun q => q) ht) (fun q => by rw [h b q] at e; cases e) ht
  rest := ⟨x.rest.1.trans st.rest.1, x.rest.2.1.trans st.rest.2.1, x.rest.2.2.trans st.rest.2.2⟩
  inv := x.inv
noncomputable def ofBinds (nm : List Str) (binds : List (Str × Vp)) : List (Option Vp) := nm.map fun x => binds.lookup x
def FN (C : Cx) (n : Nat) (f : Value) (Ps : List Vp) (R : Vp) : Prop :=
  ∀ (A : Around) (s : Shared) (Z : Fz) (vs : List Value) (Q : Value → Shared → Prop) (E : Value → Shared → Prop), Room n A → Inv C Z s → vs.length = Ps.length → (∀ (i : Nat) (v : Value) (P : Vp), vs[i]? = some v → Ps[i]? = some P → P.at_ Z v) →
    (∀ v Z' s', Step C Z s Z' s' → R.at_ Z' v → Q v s') → wpAny (model C.prog C.w) A (call f vs) Q E s
theorem lenS {α : Type} {n : Nat} {l : List α} (h : l.length = n + 1) : ∃ a r, l = a :: r ∧ r.length = n := by
  cases l with
  | nil => cases h
  | cons a r => exact ⟨a, r, rfl, Nat.succ.inj h⟩
theorem len2 {α : Type} {l : List α} (h : l.length = 2) : ∃ a b, l = [a, b] := by
  cases l with
  | nil => cases h
  | cons a r => exact (List.length_eq_one_iff.mp (Nat.succ.inj h)).elim fun b e => ⟨a, b, congrArg _ e⟩
theorem len3 {α : Type} {l : List α} (h : l.length = 3) : ∃ a b c, l = [a, b, c] := by
  cases l with
  | nil => cases h
  | cons a r => exact (len2 (Nat.succ.inj h)).elim fun b e => e.elim fun c e => ⟨a, b, c, congrArg _ e⟩
theorem fn1 {C : Cx} {n : Nat} {f : Value} {P R : Vp} (h : ∀ (A : Around) (s : Shared) (Z : Fz) (v : Value) (Q : Value → Shared → Prop) (E : Value → Shared → Prop), Room n A → Inv C Z s → P.at_ Z v →
    (∀ v Z' s', Step C Z s Z' s' → R.at_ Z' v → Q v s') → wpAny (model C.prog C.w) A (call f [v]) Q E s) : FN C n f [P] R := fun A s Z vs Q E hA I hl hp k => by
  obtain ⟨v, rfl⟩ := List.length_eq_one_iff.mp hl
  exact h A s Z v Q E hA I (hp 0 v P rfl rfl) k
theorem fn2 {C : Cx} {n : Nat} {f : Value} {P P' R : Vp} (h : ∀ (A : Around) (s : Shared) (Z : Fz) (u v : Value) (Q : Value → Shared → Prop) (E : Value → Shared → Prop), Room n A → Inv C Z s → P.at_ Z u → P'.at_ Z v →
    (∀ v Z' s', Step C Z s Z' s' → R.at_ Z' v → Q v s') → wpAny (model C.prog C.w) A (call f [u, v]) Q E s) : FN C n f [P, P'] R := fun A s Z vs Q E hA I hl hp k => by
  obtain ⟨u, v, rfl⟩ := len2 hl
  exact h A s Z u v Q E hA I (hp 0 u P rfl rfl) (hp 1 v P' rfl rfl) k
theorem bnd1 {fd : FuncData} {xs : List Str} (h : ∀ a, bindArgs fd ⟨[a], []⟩ = pure (xs.zip [a])) (vs : List Value) (hl : vs.length = 1) : bindArgs fd ⟨vs, []⟩ = pure (xs.zip vs) := by
  obtain ⟨a, rfl⟩ := List.length_eq_one_iff.mp hl
  exact h a
theorem bnd2 {fd : FuncData} {xs : List Str} (h : ∀ a b, bindArgs fd ⟨[a, b], []⟩ = pure (xs.zip [a, b])) (vs : List Value) (hl : vs.length = 2) : bindArgs fd ⟨vs, []⟩ = pure (xs.zip vs) := by
  obtain ⟨a, b, rfl⟩ := len2 hl
  exact h a b
theorem bnd3 {fd : FuncData} {xs : List Str} (h : ∀ a b c, bindArgs fd ⟨[a, b, c], []⟩ = pure (xs.zip [a, b, c])) (vs : List Value) (hl : vs.length = 3) : bindArgs fd ⟨vs, []⟩ = pure (xs.zip vs) := by
  obtain ⟨a, b, c, rfl⟩ := len3 hl
  exact h a b c
theorem bnd4 {fd : FuncData} {xs : List Str} (h : ∀ a b c d, bindArgs fd ⟨[a, b, c, d], []⟩ = pure (xs.zip [a, b, c, d])) (vs : List Value) (hl : vs.length = 4) : bindArgs fd ⟨vs, []⟩ = pure (xs.zip vs) := by
  cases vs with
  | nil => cases hl
  | cons a r => obtain ⟨b, c, d, rfl⟩ := len3 (Nat.succ.inj hl); exact h a b c d
def Quiet (C : Cx) : Prop := ∀ h : Heap, (∀ b o, C.Z0 b = some o → h.get? b = some o) → h.NoLimit
inductive CodeZ (C : Cx) (cd : Value) (q : Str) : Prop where
  | mk (c : Addr) (o : Obj) (vs : Array Value) (t : Tok) (e : cd = .ref c) (h : C.Z0 c = some o) (d : o.data = .fields vs) (n : vs[1]? = some (.str q t))
theorem CodeZ.rcd {C : Cx} {Z : Fz} {s : Shared} {cd : Value} {q : Str} (x : CodeZ C cd q) (I : Inv C Z s) : s.heap.CodeRec cd q := by
  obtain ⟨c, o, vs, t, e0, e1, e2, e3⟩ := x
  exact ⟨c, o, vs, t, e0, I.heap _ _ (I.base _ _ e1), e2, e3⟩
theorem cellsFrom_mem : ∀ (names : List (Str × NameKind)) (k : Nat) (acc : List (Str × Addr)) (x : Str), (x, NameKind.cell) ∈ names ∨ (∃ c, (x, c) ∈ acc) → ∃ c, (x, c) ∈ cellsFrom k names acc
  | [], k, acc, x, h => h.elim (fun q => nomatch q) id
  | (y, kd) :: r, k, acc, x, h => by
    unfold cellsFrom
    split
    · refine cellsFrom_mem r _ _ x ?_
      rcases h with h | ⟨c, h⟩
      · rcases List.mem_cons.mp h with e | h
        · cases e; exact .inr ⟨k, .head _⟩
        · exact .inl h
      · exact .inr ⟨c, .tail _ h⟩
    · rename_i hk
      refine cellsFrom_mem r _ _ x ?_
      rcases h with h | h
      · rcases List.mem_cons.mp h with e | h
        · cases e; exact absurd rfl hk
        · exact .inl h
      · exact .inr h
theorem lookup_of_mem {α : Type} : ∀ {l : List (Str × α)} {x : Str} {c : α}, (x, c) ∈ l → (l.lookup x).isSome = true
  | (y, v) :: r, x, c, h => by
    rw [List.lookup_cons]
    cases hb : x == y with
    | true => rfl
    | false =>
      rcases List.mem_cons.mp h with e | h
      · cases e; simp at hb
      · exact lookup_of_mem h
theorem cellsFrom_has {names : List (Str × NameKind)} {k : Nat} {x : Str} (h : names.lookup x = some .cell) : ((cellsFrom k names []).lookup x).isSome = true := by
  obtain ⟨c, hc⟩ := cellsFrom_mem names k [] x (.inl (mem_of_lookup h))
  exact lookup_of_mem hc
section
variable {C : Cx} {n : Nat} {R : Vp} {fd : FuncData} {f : Addr} {o : Obj} {body : List Stmt} {Ps : List Vp} {xs nm : List Str} {sc : List (Str × NameKind)} {ρ : List (Option Vp)}
theorem Vars.start {env : Env} {Z : Fz} {h : Heap} {m cm : Str → Option Value} (pl : ∀ x ∈ nm, PlainName x)
    (hl : h.Ns env.locals m) (hc : ∀ x c, env.cells.lookup x = some c → h.IsCell c (cm x)) {binds : List (Str × Vp)}
    (hk : ∀ x P, binds.lookup x = some P → (env.kindOf x = some .local ∧ ∃ v, m x = some v ∧ P.at_ Z v) ∨ (env.kindOf x = some .cell ∧ (env.cells.lookup x).isSome = true ∧ ∃ v, cm x = some v ∧ P.at_ Z v)) :
    Vars env Z h nm (ofBinds nm binds) := by
  induction nm with
  | nil => exact .nil
  | cons x nm ih =>
    have ih := ih fun y hy => pl y (.tail _ hy)
    show Vars env Z h (x :: nm) (binds.lookup x :: ofBinds nm binds)
    cases q : binds.lookup x with
    | none => exact .un ih
    | some P =>
      rcases hk x P q with ⟨k1, v, e, p⟩ | ⟨k1, hs, v, e, p⟩
      · exact .va ⟨pl x (.head _), .inl ⟨k1, m, hl, e⟩⟩ p ih
      · obtain ⟨c, e'⟩ := Option.isSome_iff_exists.mp hs
        exact .va ⟨pl x (.head _), .inr ⟨.inl k1, c, e', e ▸ hc x c e'⟩⟩ p ih
theorem bindL_not {kindOf : Str → Option NameKind} {x : Str} : ∀ (bs : List (Str × Value)) (m : Str → Option Value), (∀ b ∈ bs, b.1 ≠ x) → bindL kindOf bs m x = m x
  | [], _, _ => rfl
  | (y, v) :: r, m, h => by
    unfold bindL
    rw [bindL_not r _ fun b hb => h b (.tail _ hb)]
    split
    · exact if_neg fun q => h (y, v) (.head _) q.symm
    · rfl
theorem bindC_not {kindOf : Str → Option NameKind} {x : Str} : ∀ (bs : List (Str × Value)) (m : Str → Option Value), (∀ b ∈ bs, b.1 ≠ x) → bindC kindOf bs m x = m x
  | [], _, _ => rfl
  | (y, v) :: r, m, h => by
    unfold bindC
    rw [bindC_not r _ fun b hb => h b (.tail _ hb)]
    split
    · rfl
    · exact if_neg fun q => h (y, v) (.head _) q.symm
theorem bindL_zip {kindOf : Str → Option NameKind} : ∀ {xs : List Str} {vs : List Value} {x : Str} {m : Str → Option Value} {i : Nat}, xs.Nodup → xs[i]? = some x → kindOf x = some .local → xs.length = vs.length → bindL kindOf (xs.zip vs) m x = vs[i]?
  | [], _, _, _, _, _, h, _, _ => by simp at h
  | y :: xs, [], _, _, _, _, _, _, h => by simp at h
  | y :: xs, v :: vs, x, m, i, nd, hi, hk, hl => by
    obtain ⟨nd1, nd2⟩ := List.nodup_cons.mp nd
    rw [List.zip_cons_cons]
    unfold bindL
    cases i with
    | zero =>
      simp at hi; subst hi
      rw [bindL_not (x := y) _ _ fun b hb q => nd1 (by rw [← q]; exact (List.of_mem_zip hb).1), if_pos hk]
      simp
    | succ i =>
      rw [List.getElem?_cons_succ] at hi ⊢
      exact bindL_zip nd2 hi hk (by simpa using hl)
theorem bindC_zip {kindOf : Str → Option NameKind} : ∀ {xs : List Str} {vs : List Value} {x : Str} {m : Str → Option Value} {i : Nat}, xs.Nodup → xs[i]? = some x → kindOf x ≠ some .local → xs.length = vs.length → bindC kindOf (xs.zip vs) m x = vs[i]?
  | [], _, _, _, _, _, h, _, _ => by simp at h
  | y :: xs, [], _, _, _, _, _, _, h => by simp at h
  | y :: xs, v :: vs, x, m, i, nd, hi, hk, hl => by
    obtain ⟨nd1, nd2⟩ := List.nodup_cons.mp nd
    rw [List.zip_cons_cons]
    unfold bindC
    cases i with
    | zero =>
      simp at hi; subst hi
      rw [bindC_not (x := y) _ _ fun b hb q => nd1 (by rw [← q]; exact (List.of_mem_zip hb).1), if_neg hk]
      simp
    | succ i =>
      rw [List.getElem?_cons_succ] at hi ⊢
      exact bindC_zip nd2 hi hk (by simpa using hl)
theorem zip_lookup {P : Vp} : ∀ {xs : List Str} {Ps : List Vp} {x : Str}, (xs.zip Ps).lookup x = some P → ∃ i : Nat, xs[i]? = some x ∧ Ps[i]? = some P
  | [], _, _, h => by simp at h
  | y :: xs, [], _, h => by simp at h
  | y :: xs, Q :: Ps, x, h => by
    rw [List.zip_cons_cons, List.lookup_cons] at h
    cases hb : x == y with
    | true => rw [hb] at h; cases h; exact ⟨0, by rw [beq_iff_eq.mp hb]; rfl, rfl⟩
    | false =>
      rw [hb] at h
      obtain ⟨i, h1, h2⟩ := zip_lookup (Ps := Ps) h
      exact ⟨i + 1, by simpa using h1, by simpa using h2⟩
theorem fn_def (hq : Quiet C) (ho : C.Z0 f = some o) (hd : o.data = .func fd) (hcd : CodeZ C fd.code fd.qualname) (hbody : fd.body = .stmts body) (hclo : fd.closure = []) (hsc : fd.scope.names = sc) (hgl : fd.globals = mainGlobals) (hbl : fd.builtins = builtinsNs)
    (hbind : ∀ vs : List Value, vs.length = Ps.length → bindArgs fd ⟨vs, []⟩ = pure (xs.zip vs)) (hlen : xs.length = Ps.length) (hnd : xs.Nodup) (hnm : nm.Nodup) (pl : ∀ x ∈ nm, PlainName x)
    (hkind : xs.all (canSt sc xs) = true) (hρ : ofBinds nm (xs.zip Ps) = ρ)
    (h : ∀ L (X : Addr → Prop), EX C (n + 1) X (FS C (callEnvC fd L f) nm nm sc X ρ [] fun _ => none) (execs body (callEnvC fd L f)) (botA C) R)
    (hco : fd.scope.isCoroutine = false := by rfl) (hgen : fd.scope.isGenerator = false := by rfl) (hk : fd.scope.kind = .function := by rfl) :
    FN C (n + 2) (.ref f) Ps R := fun A s Z vs Q E hA I hl hp k => by
  subst hsc
  subst hρ
  have hf := I.heap _ _ (I.base _ _ ho)
  have hnl := hq s.heap fun b o e => I.heap _ _ (I.base _ _ e)
  have hkind' : ∀ L, ∀ x ∈ xs, fd.scope.names.lookup x = some .local ∨ (fd.scope.names.lookup x = some .cell ∧ ((cellsFrom (L + 1) fd.scope.names []).lookup x).isSome = true) := fun L x hx =>
    (canSt_or (List.all_eq_true.mp hkind x hx)).imp id fun ⟨h, _⟩ => ⟨h, cellsFrom_has h⟩
  refine wpAny_call (codeAny_call_cells (R := fun r s' => match r with | .ok (.ret v) => Q v s' | .ok _ => False | .error e => E e s') (by have := hA.depth; simp only [recursionLimit]; lia) hf hd hnl (hcd.rcd I) hbody (hbind vs hl) hclo (fun x hx => hkind' _ _ (List.of_mem_zip hx).1) (fun s₁ ic => ?_) hco hgen hk)
  obtain ⟨h₁, tk, rfl⟩ := ic.toInCall.same
  have hL : s.heap.objs.size < h₁.objs.size := ic.toInCall.ns.lt
  have st : Step C Z s Z { s with heap := h₁, toks := tk } := .keeps I ic.toInCall.keep
  have hA' : Room (n + 1) (A.deeper (callEnvC fd s.heap.objs.size f)) := ⟨by have := hA.depth; simp only [Around.deeper]; lia, by have := hA.units; simp only [Around.deeper]; lia, hA.handled⟩
  have zn : ∀ a, s.heap.objs.size ≤ a → Z a = none := fun a ha => I.fresh (gAb ha)
  refine h s.heap.objs.size (fun a => s.heap.get? a = none) _ { s with heap := h₁, toks := tk } Z _ _ hA' st.inv ⟨rfl, hgl, hbl, fun x _ hx => cellsFrom_has hx, hk, hnm, ic.apart, ⟨_, ic.toInCall.ns⟩, gAb (Nat.le_refl _), zn _ (Nat.le_refl _), fun x c hc => ?_, fun x _ c hc => ?_, fun a ha => ?_, ?_, (fun _ h => nomatch h), (fun _ h => nomatch h), List.Pairwise.nil, (fun _ _ h => nomatch h), fun _ _ h => nomatch h⟩ (fun _ _ _ hb => hb.elim) fun v Z' s' x r => ?_
  · have := ic.above x c (mem_of_lookup hc)
    exact ⟨zn c (Nat.le_of_lt this), _, ic.cell x c hc⟩
  · exact gAb (Nat.le_of_lt (ic.above x c (mem_of_lookup hc)))
  · exact (st.gone ha).elim id fun q => q.elim
  · refine Vars.start pl ic.toInCall.ns ic.cell fun x P e => ?_
    obtain ⟨i, e1, e2⟩ := zip_lookup (Ps := Ps) e
    have hi : i < vs.length := by rw [hl]; exact (List.getElem?_eq_some_iff.mp e2).1
    have ev : vs[i]? = some vs[i] := List.getElem?_eq_getElem hi
    have hpv := hp i _ P ev e2
    rcases hkind' s.heap.objs.size x (List.mem_iff_getElem?.mpr ⟨i, e1⟩) with hk' | ⟨hk', hs⟩
    · exact .inl ⟨hk', _, (bindL_zip hnd e1 hk' (hlen.trans hl.symm)).trans ev, hpv⟩
    · refine .inr ⟨hk', hs, _, (bindC_zip hnd e1 (fun q => ?_) (hlen.trans hl.symm)).trans ev, hpv⟩
      rw [show (callEnvC fd s.heap.objs.size f).kindOf x = fd.scope.names.lookup x from rfl, hk'] at q; cases q
  · exact k v Z' s' (st.over x fun b hb => hb) r
end
section
variable {C : Cx} {n : Nat} {a b : Int} {x y : UInt64}
local macro_rules | `(tactic| trivial) => `(tactic| fail)
theorem op_mul_int (hm : IntMulOk a b) : OP2 C n (binaryOp .Mult) (is (.int a)) (is (.int b)) (is (.int (a * b))) := fun A s Z u v Q E hA I hu hv k => by
  obtain ⟨_, rfl⟩ := rdi hu; obtain ⟨_, rfl⟩ := rdi hv; exact PyProof.Rows.mul_int (k _ Z _ (Step.toks I _) (.int _ _)) hm
theorem op_div_int (hb : b ≠ 0) (hp : Builtin.divisionGoesByPylong a b = false) : OP2 C n (binaryOp .FloorDiv) (is (.int a)) (is (.int b)) (is (.int (a.fdiv b))) := fun A s Z u v Q E hA I hu hv k => by
  obtain ⟨_, rfl⟩ := rdi hu; obtain ⟨_, rfl⟩ := rdi hv; exact floordiv_int hb (k _ Z _ (Step.toks I _) (.int _ _)) (.inl hp)
theorem op_mod_int (hb : b ≠ 0) : OP2 C n (binaryOp .Mod) (is (.int a)) (is (.int b)) (is (.int (a.fmod b))) := fun A s Z u v Q E hA I hu hv k => by
  obtain ⟨_, rfl⟩ := rdi hu; obtain ⟨_, rfl⟩ := rdi hv; exact mod_int' hb (k _ Z _ (Step.toks I _) (.int _ _))
theorem op_pow_int (hb : 0 ≤ b) (hsz : (Builtin.Int.intBits a : Int) * b ≤ 2 ^ 27) : OP2 C n (binaryOp .Pow) (is (.int a)) (is (.int b)) (is (.int (a ^ b.toNat))) := fun A s Z u v Q E hA I hu hv k => by
  obtain ⟨_, rfl⟩ := rdi hu; obtain ⟨_, rfl⟩ := rdi hv; exact pow_int hb hsz (k _ Z _ (Step.toks I _) (.int _ _))
theorem op_shl_int (hb : 0 ≤ b) (hsz : (Builtin.Int.intBits a : Int) + b ≤ 2 ^ 27) : OP2 C n (binaryOp .LShift) (is (.int a)) (is (.int b)) (is (.int (a * 2 ^ b.toNat))) := fun A s Z u v Q E hA I hu hv k => by
  obtain ⟨_, rfl⟩ := rdi hu; obtain ⟨_, rfl⟩ := rdi hv; exact lshift_int hb hsz (k _ Z _ (Step.toks I _) (.int _ _))
theorem op_shr_int (hb : 0 ≤ b) : OP2 C n (binaryOp .RShift) (is (.int a)) (is (.int b)) (is (.int (a.fdiv (2 ^ b.toNat)))) := fun A s Z u v Q E hA I hu hv k => by
  obtain ⟨_, rfl⟩ := rdi hu; obtain ⟨_, rfl⟩ := rdi hv; exact rshift_int hb (k _ Z _ (Step.toks I _) (.int _ _))
theorem op_xor_int : OP2 C n (binaryOp .BitXor) (is (.int a)) (is (.int b)) (is (.int (Builtin.bitXor a b))) := fun A s Z u v Q E hA I hu hv k => by
  obtain ⟨_, rfl⟩ := rdi hu; obtain ⟨_, rfl⟩ := rdi hv; exact xor_int (k _ Z _ (Step.toks I _) (.int _ _))
theorem op_neg_int : OP1 C n (unaryOp .USub) (is (.int a)) (is (.int (-a))) := fun A s Z u Q E hA I hu k => by
  obtain ⟨_, rfl⟩ := rdi hu; exact PyProof.Rows.neg_int (k _ Z _ (Step.toks I _) (.int _ _))
theorem op_inv_int : OP1 C n (unaryOp .Invert) (is (.int a)) (is (.int (Builtin.bitNot a))) := fun A s Z u Q E hA I hu k => by
  obtain ⟨_, rfl⟩ := rdi hu; exact PyProof.Rows.invert_int (k _ Z _ (Step.toks I _) (.int _ _))
theorem op_tdiv_int (ha : a.natAbs < 2 ^ 1023) (hb : b ≠ 0) : OP2 C n (binaryOp .Div) (is (.int a)) (is (.int b)) (is (.flt (Float64.ofFrac (decide (a < 0) != decide (b < 0)) a.natAbs b.natAbs))) := fun A s Z u v Q E hA I hu hv k => by
  obtain ⟨_, rfl⟩ := rdi hu; obtain ⟨_, rfl⟩ := rdi hv; exact PySem.Flt.div_ii_fits hA.handled ha (fun h => absurd h hb) fun _ _ => k _ Z _ (Step.toks I _) (.flt _ _)
theorem op_eq_int : OP2 C n (compareOp .Eq) (is (.int a)) (is (.int b)) (is (.bool (a == b))) := fun A s Z u v Q E hA I hu hv k => by
  obtain ⟨_, rfl⟩ := rdi hu; obtain ⟨_, rfl⟩ := rdi hv; exact PyProof.Rows.eq_int (k _ Z _ (StepX.refl I) (.bool _))
theorem op_ne_int : OP2 C n (compareOp .NotEq) (is (.int a)) (is (.int b)) (is (.bool (a != b))) := fun A s Z u v Q E hA I hu hv k => by
  obtain ⟨_, rfl⟩ := rdi hu; obtain ⟨_, rfl⟩ := rdi hv; exact PyProof.Rows.ne_int (k _ Z _ (StepX.refl I) (.bool _))
theorem op_le_int : OP2 C n (compareOp .LtE) (is (.int a)) (is (.int b)) (is (.bool (decide (a ≤ b)))) := fun A s Z u v Q E hA I hu hv k => by
  obtain ⟨_, rfl⟩ := rdi hu; obtain ⟨_, rfl⟩ := rdi hv; exact PyProof.Rows.le_int (k _ Z _ (StepX.refl I) (.bool _))
theorem op_gt_int : OP2 C n (compareOp .Gt) (is (.int a)) (is (.int b)) (is (.bool (decide (b < a)))) := fun A s Z u v Q E hA I hu hv k => by
  obtain ⟨_, rfl⟩ := rdi hu; obtain ⟨_, rfl⟩ := rdi hv; exact PyProof.Rows.gt_int (k _ Z _ (StepX.refl I) (.bool _))
theorem op_ge_int : OP2 C n (compareOp .GtE) (is (.int a)) (is (.int b)) (is (.bool (decide (b ≤ a)))) := fun A s Z u v Q E hA I hu hv k => by
  obtain ⟨_, rfl⟩ := rdi hu; obtain ⟨_, rfl⟩ := rdi hv; exact PyProof.Rows.ge_int (k _ Z _ (StepX.refl I) (.bool _))
theorem op_add_flt : OP2 C n (binaryOp .Add) (is (.flt x)) (is (.flt y)) (is (.flt (Float64.add x y))) := fun A s Z u v Q E hA I hu hv k => by
  obtain ⟨_, rfl⟩ := rdi hu; obtain ⟨_, rfl⟩ := rdi hv; exact add_float (k _ Z _ (Step.toks I _) (.flt _ _))
theorem op_sub_flt : OP2 C n (binaryOp .Sub) (is (.flt x)) (is (.flt y)) (is (.flt (Float64.sub x y))) := fun A s Z u v Q E hA I hu hv k => by
  obtain ⟨_, rfl⟩ := rdi hu; obtain ⟨_, rfl⟩ := rdi hv; exact sub_float (k _ Z _ (Step.toks I _) (.flt _ _))
theorem op_mul_flt : OP2 C n (binaryOp .Mult) (is (.flt x)) (is (.flt y)) (is (.flt (Float64.mul x y))) := fun A s Z u v Q E hA I hu hv k => by
  obtain ⟨_, rfl⟩ := rdi hu; obtain ⟨_, rfl⟩ := rdi hv; exact mul_float (k _ Z _ (Step.toks I _) (.flt _ _))
theorem op_div_flt (hy : Float64.isZero y = false) : OP2 C n (binaryOp .Div) (is (.flt x)) (is (.flt y)) (is (.flt (Float64.div x y))) := fun A s Z u v Q E hA I hu hv k => by
  obtain ⟨_, rfl⟩ := rdi hu; obtain ⟨_, rfl⟩ := rdi hv; exact truediv_float_or hA.handled (fun h => by rw [hy] at h; cases h) fun _ => k _ Z _ (Step.toks I _) (.flt _ _)
theorem op_mod_flt (hy : Float64.isZero y = false) : OP2 C n (binaryOp .Mod) (is (.flt x)) (is (.flt y)) (is (.flt (Float64.divmod x y).2)) := fun A s Z u v Q E hA I hu hv k => by
  obtain ⟨_, rfl⟩ := rdi hu; obtain ⟨_, rfl⟩ := rdi hv; exact PySem.Flt.mod_ff hA.handled (fun h => by rw [hy] at h; cases h) fun _ => k _ Z _ (Step.toks I _) (.flt _ _)
theorem op_sub_fi (hb : b.natAbs < 2 ^ 1023) : OP2 C n (binaryOp .Sub) (is (.flt x)) (is (.int b)) (is (.flt (Float64.sub x (Float64.ofInt b)))) := fun A s Z u v Q E hA I hu hv k => by
  obtain ⟨_, rfl⟩ := rdi hu; obtain ⟨_, rfl⟩ := rdi hv; exact sub_fi_fits hb (k _ Z _ (Step.toks I _) (.flt _ _))
theorem op_mul_fi (hb : b.natAbs < 2 ^ 1023) : OP2 C n (binaryOp .Mult) (is (.flt x)) (is (.int b)) (is (.flt (Float64.mul x (Float64.ofInt b)))) := fun A s Z u v Q E hA I hu hv k => by
  obtain ⟨_, rfl⟩ := rdi hu; obtain ⟨_, rfl⟩ := rdi hv; exact mul_fi_fits hb (k _ Z _ (Step.toks I _) (.flt _ _))
theorem op_mul_if (hb : b.natAbs < 2 ^ 1023) : OP2 C n (binaryOp .Mult) (is (.int b)) (is (.flt x)) (is (.flt (Float64.mul (Float64.ofInt b) x))) := fun A s Z u v Q E hA I hu hv k => by
  obtain ⟨_, rfl⟩ := rdi hu; obtain ⟨_, rfl⟩ := rdi hv; exact mul_if_fits hb (k _ Z _ (Step.toks I _) (.flt _ _))
theorem op_div_if (hb : Float64.isInf (Float64.ofInt b) = false) (hx : Float64.isZero x = false) : OP2 C n (binaryOp .Div) (is (.int b)) (is (.flt x)) (is (.flt (Float64.div (Float64.ofInt b) x))) := fun A s Z u v Q E hA I hu hv k => by
  obtain ⟨_, rfl⟩ := rdi hu; obtain ⟨_, rfl⟩ := rdi hv; exact AutoFloatOps.truediv_if_2 (by rw [hb]; exact Bool.false_ne_true) (by rw [hx]; exact Bool.false_ne_true) (k _ Z _ (Step.toks I _) (.flt _ _))
noncomputable def ltF (x y : UInt64) : Bool := Float64.cmp x y == some .lt
noncomputable def eqF (x y : UInt64) : Bool := Float64.cmp x y == some .eq
noncomputable def leF (x y : UInt64) : Bool := Float64.cmp x y == some .lt || Float64.cmp x y == some .eq
theorem op_eq_flt : OP2 C n (compareOp .Eq) (is (.flt x)) (is (.flt y)) (is (.bool (eqF x y))) := fun A s Z u v Q E hA I hu hv k => by
  obtain ⟨_, rfl⟩ := rdi hu; obtain ⟨_, rfl⟩ := rdi hv; exact AutoFloatOps.eq_0 (k _ Z _ (StepX.refl I) (.bool _))
theorem op_lt_flt : OP2 C n (compareOp .Lt) (is (.flt x)) (is (.flt y)) (is (.bool (ltF x y))) := fun A s Z u v Q E hA I hu hv k => by
  obtain ⟨_, rfl⟩ := rdi hu; obtain ⟨_, rfl⟩ := rdi hv; exact AutoFloatOps.lt_0 (k _ Z _ (StepX.refl I) (.bool _))
theorem op_le_flt : OP2 C n (compareOp .LtE) (is (.flt x)) (is (.flt y)) (is (.bool (leF x y))) := fun A s Z u v Q E hA I hu hv k => by
  obtain ⟨_, rfl⟩ := rdi hu; obtain ⟨_, rfl⟩ := rdi hv; exact AutoFloatOps.le_0 (k _ Z _ (StepX.refl I) (.bool _))
end
section
variable {C : Cx} {n : Nat} {b c : Bool} {x y : Str} {v : Value}
theorem op_eq_str : OP2 C n (compareOp .Eq) (is (.str x)) (is (.str y)) (is (.bool (x == y))) := fun A s Z u v Q E hA I hu hv k => by
  obtain ⟨_, rfl⟩ := rdi hu; obtain ⟨_, rfl⟩ := rdi hv; exact PyProof.Rows.eq_str (k _ Z _ (StepX.refl I) (.bool _))
theorem op_is_bool : OP2 C n (compareOp .Is) (is (.bool b)) (is (.bool c)) (is (.bool (b == c))) := fun A s Z u v Q E hA I hu hv k => by
  cases hu; cases hv
  refine wpAny_is_plain (by rfl) ?_
  have : (Value.bool b == Value.bool c) = (b == c) := by cases b <;> cases c <;> rfl
  rw [this]; exact k _ Z _ (StepX.refl I) (.bool _)
end
inductive Sat (Z : Fz) : List Value → List Vp → Prop where
  | nil : Sat Z [] []
  | cons {v : Value} {P : Vp} {vs : List Value} {Ps : List Vp} (h : P.at_ Z v) (r : Sat Z vs Ps) : Sat Z (v :: vs) (P :: Ps)
def SatI (Z : Fz) (vs : List Value) : List Vp → Prop
  | [] => vs = []
  | P :: Ps => ∃ v r, vs = v :: r ∧ P.at_ Z v ∧ Sat Z r Ps
theorem sati {Z : Fz} {vs : List Value} {Ps : List Vp} (h : Sat Z vs Ps) : SatI Z vs Ps := by
  cases h with
  | nil => exact rfl
  | cons h r => exact ⟨_, _, rfl, h, r⟩
theorem Sat.length {Z : Fz} {vs : List Value} {Ps : List Vp} (h : Sat Z vs Ps) : vs.length = Ps.length := by
  induction h with
  | nil => rfl
  | cons _ _ ih => exact congrArg (· + 1) ih
theorem Sat.get {Z : Fz} {vs : List Value} {Ps : List Vp} (h : Sat Z vs Ps) (i : Nat) (v : Value) (P : Vp) (e : vs[i]? = some v) (e' : Ps[i]? = some P) : P.at_ Z v := by
  induction h generalizing i with
  | nil => cases e
  | cons h _ ih =>
    cases i with
    | zero => cases e; cases e'; exact h
    | succ i => exact ih i e e'
theorem Sat.le {Z Z' : Fz} (k : Le Z Z') {vs : List Value} {Ps : List Vp} (h : Sat Z vs Ps) : Sat Z' vs Ps := by
  induction h with
  | nil => exact .nil
  | cons h _ ih => exact .cons (Vp.mono _ k h) ih
theorem Sat.rd {Z : Fz} {vs : List Value} {ds : List PV} (h : Sat Z vs (ds.map is)) : RdL Z vs ds := by
  induction ds generalizing vs with
  | nil => have e : vs = [] := sati h; subst e; exact .nil
  | cons d ds ih =>
    obtain ⟨v, r, rfl, hv, h⟩ := sati h
    exact .cons hv (ih h)
theorem Sat.of_rd {Z : Fz} {vs : List Value} {ds : List PV} (h : RdL Z vs ds) : Sat Z vs (ds.map is) := by
  induction ds generalizing vs with
  | nil => have e : vs = [] := rdli h; subst e; exact .nil
  | cons d ds ih =>
    obtain ⟨v, r, rfl, hv, h⟩ := rdli h
    exact .cons hv (ih h)
def EL (C : Cx) (n : Nat) (Φ : Asn C) (t : Sem (List Value)) (Ps : List Vp) : Prop :=
  ∀ (A : Around) (s : Shared) (Z : Fz) (Q : List Value → Shared → Prop) (E : Value → Shared → Prop), Room n A → Inv C Z s → Φ.at_ Z s.heap →
    (∀ vs Z' s', Step C Z s Z' s' → Sat Z' vs Ps → Q vs s') → wpAny (model C.prog C.w) A t Q E s
def IsFn (C : Cx) (f : Addr) : Prop := ∃ o fd, C.Z0 f = some o ∧ o.data = .func fd
section
variable {C : Cx} {n : Nat} {Φ : Asn C} {env : Env} {P R : Vp} {Ps : List Vp} {e : Expr} {es args : List Expr} {pos p : Pos}
theorem el_nil : EL C n Φ (spliced (backTo pos (starEach [] env))) [] := fun A s Z Q E hA I H k => args_nil (k [] Z s (StepX.refl I) .nil)
theorem el_cons (h1 : EV C n Φ (eval e env) P) (h2 : EL C n Φ (spliced (backTo pos (starEach es env))) Ps) (he : starEach (e :: es) env = (false, eval e env) :: starEach es env := by rfl) :
    EL C n Φ (spliced (backTo pos (starEach (e :: es) env))) (P :: Ps) := fun A s Z Q E hA I H k => by
  refine args_cons (h1 A s Z _ E hA I H fun v Z₁ s₁ x₁ pv => ?_) he
  exact h2 A s₁ Z₁ _ E hA x₁.inv (Φ.stable I H x₁) fun vs Z₂ s₂ x₂ hs => k _ Z₂ s₂ (x₁.trans x₂) (.cons (P.mono x₂.le pv) hs)
theorem ev_call {x : Str} {f : Addr} (hf : EV C n Φ (eval (.Name x p) env) (isv (.ref f))) (hfn : IsFn C f) (ha : EL C n Φ (spliced (backTo pos (starEach (e :: es) env))) Ps) (hc : FN C n (.ref f) Ps R)
    (he : starEach (e :: es) env = (false, eval e env) :: starEach es env := by rfl) : EV C n Φ (eval (.Call (.Name x p) (e :: es) [] pos) env) R := fun A s Z Q E hA I H k => by
  refine wpAny_Call_NameR (hf A s Z _ E hA I H fun v Z₁ s₁ x₁ pv => ?_)
  cases pv
  obtain ⟨o, fd, ho, hd⟩ := hfn
  refine callWith_def hd (ha A s₁ Z₁ _ E hA x₁.inv (Φ.stable I H x₁) fun vs Z₂ s₂ x₂ hs => ⟨x₂.inv.heap _ _ (x₂.inv.base _ _ ho), ?_⟩) he
  exact hc A s₂ Z₂ vs Q E hA x₂.inv hs.length hs.get fun v Z₃ s₃ x₃ pv => k v Z₃ s₃ ((x₁.trans x₂).trans x₃) pv
theorem ev_callB {x : Str} {id : String} (hf : EV C n Φ (eval (.Name x p) env) (isv (.builtin id))) (ha : EL C n Φ (spliced (backTo pos (starEach (e :: es) env))) Ps) (hc : FN C n (.builtin id) Ps R)
    (he : starEach (e :: es) env = (false, eval e env) :: starEach es env := by rfl) (hp : (backTo pos (starEach es env)).any (·.1) = false := by rfl) :
    EV C n Φ (eval (.Call (.Name x p) (e :: es) [] pos) env) R := fun A s Z Q E hA I H k => by
  refine wpAny_Call_NameR (hf A s Z _ E hA I H fun v Z₁ s₁ x₁ pv => ?_)
  cases pv
  refine callWith_builtin1 (ha A s₁ Z₁ _ E hA x₁.inv (Φ.stable I H x₁) fun vs Z₂ s₂ x₂ hs => ?_) he hp
  exact hc A s₂ Z₂ vs Q E hA x₂.inv hs.length hs.get fun v Z₃ s₃ x₃ pv => k v Z₃ s₃ ((x₁.trans x₂).trans x₃) pv
theorem ev_callT {x : Str} {id : String} (hf : EV C n Φ (eval (.Name x p) env) (isv (.type id))) (ha : EL C n Φ (spliced (backTo pos (starEach (e :: es) env))) Ps) (hc : FN C n (.type id) Ps R)
    (he : starEach (e :: es) env = (false, eval e env) :: starEach es env := by rfl) (hp : (backTo pos (starEach es env)).any (·.1) = false := by rfl) :
    EV C n Φ (eval (.Call (.Name x p) (e :: es) [] pos) env) R := fun A s Z Q E hA I H k => by
  refine wpAny_Call_NameR (hf A s Z _ E hA I H fun v Z₁ s₁ x₁ pv => ?_)
  cases pv
  refine callWith_type1 (ha A s₁ Z₁ _ E hA x₁.inv (Φ.stable I H x₁) fun vs Z₂ s₂ x₂ hs => ?_) he hp
  exact hc A s₂ Z₂ vs Q E hA x₂.inv hs.length hs.get fun v Z₃ s₃ x₃ pv => k v Z₃ s₃ ((x₁.trans x₂).trans x₃) pv
theorem ev_list {ds : List PV} (h : EL C n Φ (spliced (backTo pos (starEach es env))) (ds.map is)) (hsz : ds.length ≤ sizeLine) : EV C n Φ (eval (.List es pos) env) (is (.list ds)) := fun A s Z Q E hA I H k => by
  refine List_ (h A s Z _ E hA I H fun vs Z₁ s₁ x₁ hs => ?_)
  have hl : vs.length = ds.length := by rw [hs.length, List.length_map]
  refine wpAny_newObj_type ?_ (by show vs.toArray.size ≤ sizeLine; rw [List.size_toArray, hl]; exact hsz)
  have st := StepX.alloc (X := No) x₁.inv (o := { cls := .type "list", data := .seq vs.toArray }) (t := s₁.toks) rfl
  exact k _ _ _ (x₁.trans st) (.list (n := 0) (put_self (Z := Z₁)) (hs.rd.le st.le))
theorem ev_tup {ds : List PV} {kk : Nat} (h : EL C n Φ (spliced (backTo pos (starEach es env))) (ds.map is)) (hsz : ds.length ≤ sizeLine) : EV C n Φ (eval (.Tuple es kk pos) env) (is (.tup ds)) := fun A s Z Q E hA I H k => by
  refine Tuple_ (h A s Z _ E hA I H fun vs Z₁ s₁ x₁ hs => ?_)
  have hl : vs.length = ds.length := by rw [hs.length, List.length_map]
  refine wpAny_newObj_type ?_ (by show vs.toArray.size ≤ sizeLine; rw [List.size_toArray, hl]; exact hsz)
  have st := StepX.alloc (X := No) x₁.inv (o := { cls := .type "tuple", data := .seq vs.toArray }) (t := s₁.toks) rfl
  exact k _ _ _ (x₁.trans st) (.tup (n := 0) (put_self (Z := Z₁)) (hs.rd.le st.le))
theorem ev_sub {v sl : Expr} {Pv Pi : Vp} (hv : EV C n Φ (eval v env) Pv) (hi : EV C n Φ (eval sl env) Pi) (ho : OP2 C n (subscriptTail v sl) Pv Pi R) : EV C n Φ (eval (.Subscript v sl pos) env) R := fun A s Z Q E hA I H k => by
  refine Subscript_ (hv A s Z _ E hA I H fun a Z₁ s₁ x₁ pa => ?_)
  refine hi A s₁ Z₁ _ E hA x₁.inv (Φ.stable I H x₁) fun b Z₂ s₂ x₂ pb => ?_
  exact ho A s₂ Z₂ a b Q E hA x₂.inv (Pv.mono x₂.le pa) pb fun r Z₃ s₃ x₃ pr => k r Z₃ s₃ ((x₁.trans x₂).trans x₃) pr
theorem isList_of {Z : Fz} {s : Shared} (I : Inv C Z s) {a : Addr} {m : Nat} {vs : List Value} (h : Z a = some { cls := .type "list", data := .seq vs.toArray m }) : s.heap.IsList a vs.toArray :=
  ⟨_, I.heap _ _ h, rfl, m, rfl⟩
theorem isTup_of {Z : Fz} {s : Shared} (I : Inv C Z s) {a : Addr} {m : Nat} {vs : List Value} (h : Z a = some { cls := .type "tuple", data := .seq vs.toArray m }) : IsTup s.heap a vs.toArray :=
  ⟨_, I.heap _ _ h, rfl, m, rfl⟩
theorem op_item_list {v sl : Expr} {ds : List PV} {i : Int} {j : Nat} {d : PV} (hj : seqIndex? i ds.length = some j) (hd : ds[j]? = some d) (hsz : ds.length < 2 ^ 62)
    (hs : ∀ o i, subscripted sl false o i = operate [o, i] (getItem o i) := by intro _ _; rfl) : OP2 C n (subscriptTail v sl) (is (.list ds)) (is (.int i)) (is d) := fun A s Z u w Q E hA I hu hw k => by
  obtain ⟨_, _, _, rfl, h, r⟩ := rdi hu
  obtain ⟨_, rfl⟩ := rdi hw
  rename_i m vs t
  obtain ⟨x, ex, px⟩ := r.get hd
  have hl := isList_of I h
  have len := r.length
  have sz : vs.toArray.size = ds.length := by rw [List.size_toArray, len]
  unfold seqIndex? at hj
  refine tail_any hl.typeIs slot_list_getitem.lookup ?_ (hs _ _)
  by_cases h0 : i < 0
  · simp only [h0, if_true] at hj
    split at hj
    · rename_i hb
      simp only [Bool.and_eq_true, decide_eq_true_eq] at hb
      cases hj
      exact wpAny_getItem_list_neg hl h0 (by rw [sz]; lia) (by lia) (by rw [sz]; simpa using ex) (k x Z s (StepX.refl I) px)
    · cases hj
  · simp only [h0, if_false] at hj
    split at hj
    · rename_i hb
      simp only [Bool.and_eq_true, decide_eq_true_eq] at hb
      cases hj
      exact wpAny_getItem_list hl (by lia) (by lia) (by simpa using ex) (k x Z s (StepX.refl I) px)
    · cases hj
theorem op_item_tup {v sl : Expr} {ds : List PV} {i : Int} {j : Nat} {d : PV} (hj : seqIndex? i ds.length = some j) (hd : ds[j]? = some d) (hlo : -(2 ^ 63) ≤ i) (hhi : i < 2 ^ 63)
    (hs : ∀ o i, subscripted sl false o i = operate [o, i] (getItem o i) := by intro _ _; rfl) : OP2 C n (subscriptTail v sl) (is (.tup ds)) (is (.int i)) (is d) := fun A s Z u w Q E hA I hu hw k => by
  obtain ⟨_, _, _, rfl, h, r⟩ := rdi hu
  obtain ⟨_, rfl⟩ := rdi hw
  obtain ⟨x, ex, px⟩ := r.get hd
  exact item_tupleT (isTup_of I h) hlo hhi (by rw [r.length]; exact hj) ex (k x Z s (StepX.refl I) px) (hs _ _)
theorem fn_len_list {ds : List PV} (hsz : ds.length < 2 ^ 62) : FN C n (.builtin "len") [is (.list ds)] (is (.int ds.length)) := fn1 fun A s Z v Q E hA I h k => by
  obtain ⟨_, _, _, rfl, h, r⟩ := rdi h
  have e := r.length
  refine Calls.call_len_list (isList_of I h) (by rw [List.size_toArray, e]; lia) ?_
  rw [List.size_toArray, e]
  exact k _ Z _ (Step.toks I _) (.int _ _)
theorem fn_len_str {x : Str} (hsz : x.length < 2 ^ 62) : FN C n (.builtin "len") [is (.str x)] (is (.int x.length)) := fn1 fun A s Z v Q E hA I h k => by
  cases h with
  | str => exact P.len_str (by lia) (k _ Z _ (Step.toks I _) (.int _ _))
end
def GlobZ (C : Cx) (x : Str) (v : Value) : Prop := ∀ h : Heap, (∀ b o, C.Z0 b = some o → h.get? b = some o) → ∃ mg, h.Ns mainGlobals mg ∧ mg x = some v
def BltZ (C : Cx) (x : Str) (v : Value) : Prop := ∀ h : Heap, (∀ b o, C.Z0 b = some o → h.get? b = some o) → ∃ mg mb, h.Ns mainGlobals mg ∧ mg x = none ∧ h.Ns builtinsNs mb ∧ mb x = some v
section
variable {C : Cx} {n : Nat} {X : Addr → Prop} {Φ Ψ Θ : Asn C} {R P : Vp} {env : Env} {nm oc : List Str} {sc : List (Str × NameKind)} {st : Stmt} {rest b o : List Stmt} {pos : Pos} {ρ ρ' : List (Option Vp)} {ω : List (Addr × List PV)} {κ : Addr → Option Obj}
theorem ev_glob {x : Str} {v : Value} (hg : GlobZ C x v) (hk : sc.lookup x = some .globalImplicit) (hd : (x == ("__debug__" : Str)) = false) :
    EV C n (FS C env nm oc sc X ρ ω κ) (eval (.Name x pos) env) (isv v) := fun A s Z Q E hA I H k => by
  obtain ⟨mg, hn, hv⟩ := hg s.heap fun b o e => I.heap _ _ (I.base _ _ e)
  exact Calls.Name_function_global H.fn (by rw [← hk, ← H.names]; rfl) (Calls.loadGlobal_global (by rw [H.gl]; exact hn) hv (k v Z s (StepX.refl I) rfl)) hd
theorem ev_blt {x : Str} {v : Value} (hg : BltZ C x v) (hk : sc.lookup x = some .globalImplicit) (hd : (x == ("__debug__" : Str)) = false) :
    EV C n (FS C env nm oc sc X ρ ω κ) (eval (.Name x pos) env) (isv v) := fun A s Z Q E hA I H k => by
  obtain ⟨mg, mb, hn, hm, hnb, hv⟩ := hg s.heap fun b o e => I.heap _ _ (I.base _ _ e)
  exact Calls.Name_function_global H.fn (by rw [← hk, ← H.names]; rfl) (Calls.loadGlobal_builtin (by rw [H.gl]; exact hn) hm (by rw [H.bl]; exact hnb) hv (k v Z s (StepX.refl I) rfl)) hd
theorem ev_conv {t : Sem Value} (h : EV C n Φ t P) (e : ∀ {Z v}, P.at_ Z v → R.at_ Z v) : EV C n Φ t R := fun A s Z Q E hA I H k => h A s Z Q E hA I H fun v Z' s' x p => k v Z' s' x (e p)
theorem ev_d {t : Sem Value} {d d' : PV} (h : EV C n Φ t (is d)) (e : d = d') : EV C n Φ t (is d') := e ▸ h
theorem tv_eq {t : Sem Bool} {b c : Bool} (h : TV C n Φ t b) (e : b = c) : TV C n Φ t c := e ▸ h
theorem execs_append (b rest : List Stmt) (env : Env) : execs (b ++ rest) env = (execs b env >>= fun f => match f with | .next => execs rest env | f => pure f) := by
  induction b with
  | nil => rfl
  | cons st b ih =>
    have e1 : execs (st :: (b ++ rest)) env = (exec st env >>= fun f => match f with | .next => execs (b ++ rest) env | f => pure f) := rfl
    have e2 : execs (st :: b) env = (exec st env >>= fun f => match f with | .next => execs b env | f => pure f) := rfl
    rw [List.cons_append, e1, e2, ih]
    show Sem.bind _ _ = Sem.bind (Sem.bind _ _) _
    rw [Sem.bind_assoc]
    congr 1
    funext f
    cases f <;> rfl
theorem execs_if {t : Expr} (b o rest : List Stmt) (pos : Pos) : execs (.If t b o pos :: rest) env =
    (standAt pos >>= fun _ => isTrue t env (eval t env) >>= fun c => if c = true then execs (b ++ rest) env else execs (o ++ rest) env) := by
  have e1 : execs (.If t b o pos :: rest) env = (exec (.If t b o pos) env >>= fun f => match f with | .next => execs rest env | f => pure f) := rfl
  rw [e1, exec_If]
  show Sem.bind (Sem.bind _ _) _ = Sem.bind _ _
  rw [Sem.bind_assoc]
  congr 1
  funext _
  show Sem.bind (Sem.bind _ _) _ = Sem.bind _ _
  rw [Sem.bind_assoc]
  congr 1
  funext c
  cases c <;> simp only [execs_append, Bool.false_eq_true, if_false, if_true] <;> rfl
theorem ex_ifs {t : Expr} {c : Bool} (ht : TV C n Φ (isTrue t env (eval t env)) c) (hb : c = true → EX C n X Φ (execs (b ++ rest) env) Ψ R) (ho : c = false → EX C n X Φ (execs (o ++ rest) env) Ψ R) :
    EX C n X Φ (execs (.If t b o pos :: rest) env) Ψ R := fun A s Z Q E hA I H k kr => by
  rw [execs_if]
  refine wpAny_bind (wpAny_standAt (wpAny_bind (ht A s Z _ E hA I H fun Z₁ s₁ x₁ => ?_)))
  cases c with
  | true => exact hb rfl A s₁ Z₁ Q E hA x₁.inv (Φ.stable I H x₁) (fun Z₂ s₂ x₂ H₂ => k Z₂ s₂ (x₁.to.trans x₂) H₂) fun v Z₂ s₂ x₂ r => kr v Z₂ s₂ (x₁.to.trans x₂) r
  | false => exact ho rfl A s₁ Z₁ Q E hA x₁.inv (Φ.stable I H x₁) (fun Z₂ s₂ x₂ H₂ => k Z₂ s₂ (x₁.to.trans x₂) H₂) fun v Z₂ s₂ x₂ r => kr v Z₂ s₂ (x₁.to.trans x₂) r
end
inductive Bds (nm oc : List Str) (sc : List (Str × NameKind)) : List Expr → List Vp → List (Option Vp) → List (Option Vp) → Prop where
  | nil {ρ : List (Option Vp)} : Bds nm oc sc [] [] ρ ρ
  | cons {x : Str} {p : Pos} {ts : List Expr} {P : Vp} {Ps : List Vp} {ρ ρ₁ ρ₂ : List (Option Vp)} (u : Upd nm ρ x (some P) ρ₁) (pl : PlainName x) (k : canSt sc oc x = true) (r : Bds nm oc sc ts Ps ρ₁ ρ₂) :
      Bds nm oc sc (.Name x p :: ts) (P :: Ps) ρ ρ₂
inductive Bdn (nm oc : List Str) (sc : List (Str × NameKind)) : List Str → List Vp → List (Option Vp) → List (Option Vp) → Prop where
  | nil {ρ : List (Option Vp)} : Bdn nm oc sc [] [] ρ ρ
  | cons {x : Str} {ts : List Str} {P : Vp} {Ps : List Vp} {ρ ρ₁ ρ₂ : List (Option Vp)} (u : Upd nm ρ x (some P) ρ₁) (pl : PlainName x) (k : canSt sc oc x = true) (r : Bdn nm oc sc ts Ps ρ₁ ρ₂) :
      Bdn nm oc sc (x :: ts) (P :: Ps) ρ ρ₂
inductive Tgt (nm oc : List Str) (sc : List (Str × NameKind)) : Expr → PV → List (Option Vp) → List (Option Vp) → Prop where
  | name {x : Str} {p : Pos} {d : PV} {ρ ρ' : List (Option Vp)} (u : Upd nm ρ x (some (is d)) ρ') (pl : PlainName x) (k : canSt sc oc x = true) : Tgt nm oc sc (.Name x p) d ρ ρ'
  | tup {ts : List Expr} {kk : Nat} {p : Pos} {ds : List PV} {ρ ρ' : List (Option Vp)} (r : Bds nm oc sc ts (ds.map is) ρ ρ') : Tgt nm oc sc (.Tuple ts kk p) (.tup ds) ρ ρ'
  | lst {ts : List Expr} {kk : Nat} {p : Pos} {ds : List PV} {ρ ρ' : List (Option Vp)} (r : Bds nm oc sc ts (ds.map is) ρ ρ') : Tgt nm oc sc (.Tuple ts kk p) (.list ds) ρ ρ'
inductive Itm : Expr → PV → Fz → Heap → Value → Prop where
  | plain {t : Expr} {d : PV} {Z : Fz} {h : Heap} {v : Value} (r : Rd Z v d) : Itm t d Z h v
  | tupv {ts : List Expr} {kk : Nat} {p : Pos} {ds : List PV} {Z : Fz} {h : Heap} {T : Addr} {vals : Array Value} (t : IsTup h T vals) (r : RdL Z vals.toList ds) : Itm (.Tuple ts kk p) (.tup ds) Z h (.ref T)
section
variable {C : Cx} {n : Nat} {X : Addr → Prop} {Z Z' : Fz} {s s' : Shared} {env : Env} {nm oc : List Str} {sc : List (Str × NameKind)} {ω : List (Addr × List PV)} {κ : Addr → Option Obj} {A : Around} {E : Value → Shared → Prop} {Q : Unit → Shared → Prop}
theorem st_all (M : Model) {ts : List Expr} {Ps : List Vp} {ρ ρ' : List (Option Vp)} (B : Bds nm oc sc ts Ps ρ ρ') : ∀ {vs : List Value} {s : Shared}, Inv C Z s → FSp env nm oc sc X ρ ω κ Z s.heap → Sat Z vs Ps →
    (∀ s', StepX C X Z s Z s' → FSp env nm oc sc X ρ' ω κ Z s'.heap → Q () s') → wpAny M A (assignInOrder ((assignEach ts env).map (·.2)) vs) Q E s := by
  induction B with
  | nil =>
    intro vs s I H hs k
    obtain rfl := sati hs
    exact wpAny_pure (k s (StepX.refl I) H)
  | cons u pl kk r ih =>
    rename_i x p ts P Ps ρ ρ₁ ρ₂
    intro vs s I H hs k
    obtain ⟨_, _, rfl, hp, hr⟩ := sati hs
    rename_i v vs
    show wpAny M A (do holding vs (assign (.Name x p) env v); assignInOrder ((assignEach ts env).map (·.2)) vs) Q E s
    refine wpAny_bind (wpAny_holding (assign_Name (st_name I H hp u pl kk fun s' x' H' => ?_)))
    exact ih x'.inv H' hr fun s'' x'' H'' => k s'' (x'.trans x'') H''
theorem st_alln (M : Model) {ts : List Str} {Ps : List Vp} {ρ ρ' : List (Option Vp)} (B : Bdn nm oc sc ts Ps ρ ρ') : ∀ {vs : List Value} {s : Shared}, Inv C Z s → FSp env nm oc sc X ρ ω κ Z s.heap → Sat Z vs Ps →
    (∀ s', StepX C X Z s Z s' → FSp env nm oc sc X ρ' ω κ Z s'.heap → Q () s') → wpAny M A (assignInOrder (ts.map fun x => bindName env x) vs) Q E s := by
  induction B with
  | nil =>
    intro vs s I H hs k
    obtain rfl := sati hs
    exact wpAny_pure (k s (StepX.refl I) H)
  | cons u pl kk r ih =>
    rename_i x ts P Ps ρ ρ₁ ρ₂
    intro vs s I H hs k
    obtain ⟨_, _, rfl, hp, hr⟩ := sati hs
    rename_i v vs
    show wpAny M A (do holding vs (bindName env x v); assignInOrder (ts.map fun x => bindName env x) vs) Q E s
    refine wpAny_bind (wpAny_holding (bindName_ (st_name I H hp u pl kk fun s' x' H' => ?_)))
    exact ih x'.inv H' hr fun s'' x'' H'' => k s'' (x'.trans x'') H''
theorem Sat.app {Z : Fz} {vs vs' : List Value} {Ps Ps' : List Vp} (h : Sat Z vs Ps) (y : Sat Z vs' Ps') : Sat Z (vs ++ vs') (Ps ++ Ps') := by
  induction h with
  | nil => exact y
  | cons h _ ih => exact .cons h ih
theorem Sat.rev {Z : Fz} {vs : List Value} {Ps : List Vp} (h : Sat Z vs Ps) : Sat Z vs.reverse Ps.reverse := by
  induction h with
  | nil => exact .nil
  | cons h _ ih => rw [List.reverse_cons, List.reverse_cons]; exact ih.app (.cons h .nil)
theorem Bds.length {ts : List Expr} {Ps : List Vp} {ρ ρ' : List (Option Vp)} (B : Bds nm oc sc ts Ps ρ ρ') (env : Env) : (assignEach ts env).length = Ps.length ∧ (assignEach ts env).findIdx? (·.1) = none := by
  induction B with
  | nil => exact ⟨rfl, rfl⟩
  | @cons x p ts _ _ _ _ _ u pl kk r ih =>
    refine ⟨congrArg (· + 1) ih.1, ?_⟩
    show List.findIdx? (·.1) ((false, assign (.Name x p) env) :: assignEach ts env) = none
    rw [List.findIdx?_cons, ih.2]; rfl
theorem Bdn.length {ts : List Str} {Ps : List Vp} {ρ ρ' : List (Option Vp)} (B : Bdn nm oc sc ts Ps ρ ρ') : ts.length = Ps.length := by
  induction B with
  | nil => rfl
  | cons _ _ _ _ ih => exact congrArg (· + 1) ih
theorem asg {t : Expr} {d : PV} {v : Value} {ρ ρ' : List (Option Vp)} (T : Tgt nm oc sc t d ρ ρ') (i : Itm t d Z s.heap v) (hA : A.handled = none) (I : Inv C Z s) (H : FSp env nm oc sc X ρ ω κ Z s.heap)
    (k : ∀ s', StepX C X Z s Z s' → FSp env nm oc sc X ρ' ω κ Z s'.heap → Q () s') : wpAny (model C.prog C.w) A (assign t env v) Q E s := by
  have mk : ∀ {h' : Heap}, Heap.ExtBut s.heap.objs.size s.heap h' → Step C Z s Z { s with heap := h' } := fun he =>
    .keeps (t := s.toks) I fun b o e => he b o (Nat.ne_of_lt (Heap.lt_size e)) e
  cases T with
  | name u pl kk =>
    cases i with
    | plain r => exact assign_Name (st_name I H r u pl kk k)
  | tup r =>
    rename_i ts kk p ds
    have go : ∀ {T : Addr} {vals : Array Value}, IsTup s.heap T vals → RdL Z vals.toList ds → wpAny (model C.prog C.w) A (assign (.Tuple ts kk p) env (.ref T)) Q E s := fun {T vals} ht hr => by
      have l := r.length env
      refine assign_Tuple_tuple hA ht (by rw [l.1, List.length_map, ← hr.length, Array.length_toList]) l.2 fun h' he => ?_
      have st := mk he
      exact st_all _ r st.inv ((FS C env nm oc sc X ρ ω κ).stable I H st) (Sat.of_rd hr) fun s'' x H'' => k s'' (st.to.trans x) H''
    cases i with
    | plain r' =>
      cases r' with
      | tup h hr => exact go ⟨_, I.heap _ _ h, rfl, _, rfl⟩ hr
    | tupv ht hr => exact go ht hr
  | lst r =>
    rename_i ts kk p ds
    cases i with
    | plain r' =>
      obtain ⟨_, _, _, rfl, h, hr⟩ := rdi r'
      have l := r.length env
      rename_i a m vs
      have hl := isList_of I h
      rw [assign_Tuple]
      refine wpAny_bind (wpAny_standAt ?_)
      unfold unpack
      rw [l.2, show (assignEach ts env).length = vs.toArray.size by rw [l.1, List.length_map, ← hr.length, List.size_toArray]]
      refine wpAny_bind (wpAny_holding (kun_itemsOf hA hl fun h' he => ?_))
      have st := mk he
      exact st_all _ r st.inv ((FS C env nm oc sc X ρ ω κ).stable I H st) (Sat.of_rd hr) fun s'' x H'' => k s'' (st.to.trans x) H''
theorem ex_asgT {t : Expr} {ts : List Expr} {kk : Nat} {p pos : Pos} {R : Vp} {d : PV} {ρ ρ' : List (Option Vp)} {e : Expr} (he : EV C n (FS C env nm oc sc X ρ ω κ) (eval e env) (is d)) (T : Tgt nm oc sc (.Tuple ts kk p) d ρ ρ')
    (hs : swapsWithSole [.Tuple ts kk p] e pos.line env = pure false) (hw : swappedStores [.Tuple ts kk p] e env = pure none) :
    EX C n X (FS C env nm oc sc X ρ ω κ) (exec (.Assign [.Tuple ts kk p] e pos) env) (FS C env nm oc sc X ρ' ω κ) R := fun A s Z Q E hA I H k kr => by
  refine PyProof.Rows.Assign_Tuple (he A s Z _ E hA I H fun v Z₁ s₁ x₁ pv => ?_) hs hw
  exact asg T (.plain pv) hA.handled x₁.inv ((FS C env nm oc sc X ρ ω κ).stable I H x₁) fun s' x' H' => k Z₁ s' (x₁.to.trans x') H'
def EVN (C : Cx) (n : Nat) (Φ : Asn C) (t : Sem Value) (mk : Addr → Vp) (ds : List PV) : Prop :=
  ∀ (A : Around) (s : Shared) (Z : Fz) (Q : Value → Shared → Prop) (E : Value → Shared → Prop), Room n A → Inv C Z s → Φ.at_ Z s.heap →
    (∀ a v Z' s', Step C Z s Z' s' → s.heap.get? a = none → Owned Z' s'.heap (a, ds) → (mk a).at_ Z' v → Q v s') → wpAny (model C.prog C.w) A t Q E s
theorem FSp.owns {ρ : List (Option Vp)} {a : Addr} {ds : List PV} (H : FSp env nm oc sc X ρ ω κ Z s.heap) (I : Inv C Z s) (x : Step C Z s Z' s') (hf : s.heap.get? a = none) (ho : Owned Z' s'.heap (a, ds)) :
    FSp env nm oc sc X ρ ((a, ds) :: ω) κ Z' s'.heap := by
  have H' := (FS C env nm oc sc X ρ ω κ).stable I H x
  have hne : ∀ b o, s.heap.get? b = some o → a ≠ b := fun b o e q => by rw [← q, hf] at e; cases e
  refine ⟨H'.names, H'.gl, H'.bl, H'.cellH, H'.fn, H'.nodup, H'.apart, H'.loc, H'.locX, H'.locZ, H'.cells, H'.cellX, H'.cof, H'.vars, fun p hp => ?_, fun p hp => ?_, ?_, fun b o e => ?_, H'.heldX⟩
  · rcases List.mem_cons.mp hp with rfl | hp
    · exact ho
    · exact H'.own p hp
  · rcases List.mem_cons.mp hp with rfl | hp
    · exact H.cof a hf
    · exact H'.ownX p hp
  · refine List.nodup_cons.mpr ⟨fun hm => ?_, H.ownN⟩
    obtain ⟨p, hp, q⟩ := List.mem_map.mp hm
    obtain ⟨_, vs, m, e, _⟩ := H.own p hp
    exact hne _ _ e q.symm
  · obtain ⟨hz, ha, ht, hl, hc, hw⟩ := H'.held b o e
    refine ⟨hz, ha, ht, hl, hc, fun p hp => ?_⟩
    rcases List.mem_cons.mp hp with rfl | hp
    · exact fun q => hne _ _ (H.held b o e).at_ q.symm
    · exact hw p hp
theorem evn_list {ρ : List (Option Vp)} {es : List Expr} {pos : Pos} {ds : List PV} {Φ : Asn C} (h : EL C n Φ (spliced (backTo pos (starEach es env))) (ds.map is)) (hsz : ds.length ≤ sizeLine) : EVN C n Φ (eval (.List es pos) env) (fun a => isv (.ref a)) ds :=
  fun A s Z Q E hA I H k => by
  refine List_ (h A s Z _ E hA I H fun vs Z₁ s₁ x₁ hs => ?_)
  have hl : vs.length = ds.length := by rw [hs.length, List.length_map]
  refine wpAny_newObj_type ?_ (by show vs.toArray.size ≤ sizeLine; rw [List.size_toArray, hl]; exact hsz)
  have hf := gAb (Nat.le_refl s₁.heap.objs.size)
  exact k _ _ _ _ (x₁.trans (StepX.push x₁.inv (t := s₁.toks))) ((x₁.gone hf).elim id fun q => q.elim) ⟨x₁.inv.fresh hf, vs, 0, Heap.get?_push_size _ rfl, hs.rd⟩ rfl
theorem ex_new {R : Vp} {ρ ρ' : Addr → List (Option Vp)} {ρ₀ : List (Option Vp)} {x : Str} {xp pos : Pos} {e : Expr} {mk : Addr → Vp} {ds : List PV} {rest : List Stmt} {Ψ : Asn C} (he : EVN C n (FS C env nm oc sc X ρ₀ ω κ) (eval e env) mk ds)
    (hu : ∀ a, Upd nm ρ₀ x (some (mk a)) (ρ' a)) (pl : PlainName x) (hk : canSt sc oc x = true) (hs : swapsWith e (some (.Name x xp)) pos.line env = pure false)
    (k : ∀ a, EX C n X (FS C env nm oc sc X (ρ' a) ((a, ds) :: ω) κ) (execs rest env) Ψ R) : EX C n X (FS C env nm oc sc X ρ₀ ω κ) (execs (.Assign [.Name x xp] e pos :: rest) env) Ψ R := fun A s Z Q E hA I H kn kr => by
  refine wpAny_execs_cons (wpAny_Assign_Name (he A s Z _ E hA I H fun a v Z₁ s₁ x₁ hf ho pv => ?_) hs)
  refine st_name x₁.inv (H.owns I x₁ hf ho) pv (hu a) pl hk fun s₂ x₂ H₂ => ?_
  have x₁₂ := (x₁.to (X := X)).trans x₂
  exact k a A s₂ Z₁ Q E hA x₂.inv H₂ (fun Z₃ s₃ x₃ H₃ => kn Z₃ s₃ (x₁₂.trans x₃) H₃) fun v Z₃ s₃ x₃ r => kr v Z₃ s₃ (x₁₂.trans x₃) r
inductive TupK (C : Cx) (n : Nat) (X : Addr → Prop) (env : Env) (nm oc : List Str) (sc : List (Str × NameKind)) (ρ : List (Option Vp)) (κ : Addr → Option Obj) (fin : List Vp → List (Addr × List PV) → Prop) : List Expr → List Vp → List (Addr × List PV) → Prop where
  | nil {Ps : List Vp} {ω : List (Addr × List PV)} (h : fin Ps ω) : TupK C n X env nm oc sc ρ κ fin [] Ps ω
  | val {e : Expr} {es : List Expr} {P : Vp} {Ps : List Vp} {ω : List (Addr × List PV)} (h : EV C n (FS C env nm oc sc X ρ ω κ) (eval e env) P) (k : TupK C n X env nm oc sc ρ κ fin es (Ps ++ [P]) ω)
      (he : starEach (e :: es) env = (false, eval e env) :: starEach es env := by rfl) : TupK C n X env nm oc sc ρ κ fin (e :: es) Ps ω
  | own {e : Expr} {es : List Expr} {Ps : List Vp} {ω : List (Addr × List PV)} {mk : Addr → Vp} {ds : List PV} (h : EVN C n (FS C env nm oc sc X ρ ω κ) (eval e env) mk ds) (k : ∀ a, TupK C n X env nm oc sc ρ κ fin es (Ps ++ [mk a]) ((a, ds) :: ω))
      (he : starEach (e :: es) env = (false, eval e env) :: starEach es env := by rfl) : TupK C n X env nm oc sc ρ κ fin (e :: es) Ps ω
theorem tupK_run {ρ : List (Option Vp)} {pos : Pos} {fin : List Vp → List (Addr × List PV) → Prop} {Q : List Value → Shared → Prop} {s₀ : Shared} {Z₀ : Fz} {es : List Expr} {Ps : List Vp} {ω : List (Addr × List PV)} (T : TupK C n X env nm oc sc ρ κ fin es Ps ω)
    {A : Around} {s : Shared} {Z : Fz} {done : List Value} (hA : Room n A) (x : Step C Z₀ s₀ Z s) (H : FSp env nm oc sc X ρ ω κ Z s.heap) (hs : Sat Z done Ps)
    (k : ∀ vs Ps' ω' Z' s', Step C Z₀ s₀ Z' s' → FSp env nm oc sc X ρ ω' κ Z' s'.heap → Sat Z' (done ++ vs) Ps' → fin Ps' ω' → vs.length = es.length → Q vs s') : wpAny (model C.prog C.w) A (spliced (backTo pos (starEach es env))) Q E s := by
  induction T generalizing s Z done Q with
  | nil h => exact args_nil (k [] _ _ Z s x H (by rw [List.append_nil]; exact hs) h rfl)
  | val h kk he ih =>
    refine args_cons (h A s Z _ E hA x.inv H fun v Z₁ s₁ x₁ pv => ?_) he
    refine ih (done := done ++ [v]) (x.trans x₁) ((FS C env nm oc sc X ρ _ κ).stable x.inv H x₁) ((hs.le x₁.le).app (.cons pv .nil)) fun vs Ps' ω' Z' s' x' H' hs' hf hl => k _ Ps' ω' Z' s' x' H' ?_ hf (congrArg (· + 1) hl)
    rw [List.append_assoc] at hs'; exact hs'
  | own h kk he ih =>
    refine args_cons (h A s Z _ E hA x.inv H fun a v Z₁ s₁ x₁ hf ho pv => ?_) he
    refine ih a (done := done ++ [v]) (x.trans x₁) (H.owns x.inv x₁ hf ho) ((hs.le x₁.le).app (.cons pv .nil)) fun vs Ps' ω' Z' s' x' H' hs' hf hl => k _ Ps' ω' Z' s' x' H' ?_ hf (congrArg (· + 1) hl)
    rw [List.append_assoc] at hs'; exact hs'
theorem tupK_eval {ρ : List (Option Vp)} {pos : Pos} {kk : Nat} {fin : List Vp → List (Addr × List PV) → Prop} {Q : Value → Shared → Prop} {es : List Expr} {ω : List (Addr × List PV)} (T : TupK C n X env nm oc sc ρ κ fin es [] ω) {Z : Fz}
    (hA : Room n A) (I : Inv C Z s) (H : FSp env nm oc sc X ρ ω κ Z s.heap) (hsz : es.length ≤ sizeLine)
    (k : ∀ a vs Ps' ω' Z' s', Step C Z s Z' s' → IsTup s'.heap a vs.toArray → FSp env nm oc sc X ρ ω' κ Z' s'.heap → Sat Z' vs Ps' → fin Ps' ω' → Q (.ref a) s') : wpAny (model C.prog C.w) A (eval (.Tuple es kk pos) env) Q E s := by
  refine Tuple_ ?_
  refine tupK_run (s₀ := s) (Z₀ := Z) (done := []) T hA (StepX.refl I) H .nil fun vs Ps' ω' Z' s' x' H' hs' hf hl => ?_
  refine wpAny_newObj_type ?_ (by show vs.toArray.size ≤ sizeLine; rw [List.size_toArray, hl]; exact hsz)
  have st : Step C Z' s' Z' _ := StepX.push x'.inv (o := { cls := .type "tuple", data := .seq vs.toArray }) (t := s'.toks)
  exact k _ vs Ps' ω' Z' _ (x'.trans st) ⟨_, Heap.get?_push_size _ rfl, rfl, 0, rfl⟩ ((FS C env nm oc sc X ρ ω' κ).stable x'.inv H' st) (hs'.le st.le) hf
theorem ex_tup {R : Vp} {ts es : List Expr} {k1 k2 : Nat} {p1 p2 pos : Pos} {ρ : List (Option Vp)} {rest : List Stmt} {Ψ : Asn C} {ω : List (Addr × List PV)} (hs : swapsWithSole [.Tuple ts k1 p1] (.Tuple es k2 p2) pos.line env = pure false) (hw : swappedStores [.Tuple ts k1 p1] (.Tuple es k2 p2) env = pure none)
    (hsz : es.length ≤ sizeLine) (T : TupK C n X env nm oc sc ρ κ (fun Ps ω => ∃ ρ', Bds nm oc sc ts Ps ρ ρ' ∧ EX C n X (FS C env nm oc sc X ρ' ω κ) (execs rest env) Ψ R) es [] ω) :
    EX C n X (FS C env nm oc sc X ρ ω κ) (execs (.Assign [.Tuple ts k1 p1] (.Tuple es k2 p2) pos :: rest) env) Ψ R := fun A s Z Q E hA I H kn kr => by
  refine wpAny_execs_cons (PyProof.Rows.Assign_Tuple (tupK_eval T hA I H hsz fun a vs Ps' ω' Z' s' x' ht H' hs' hf => ?_) hs hw)
  obtain ⟨ρ', B, go⟩ := hf
  have l := B.length env
  refine assign_Tuple_tuple hA.handled ht (by rw [l.1, ← hs'.length, List.size_toArray]) l.2 fun h' he => ?_
  have st : Step C Z' s' Z' { s' with heap := h' } := .keeps (t := s'.toks) x'.inv fun b o e => he b o (Nat.ne_of_lt (Heap.lt_size e)) e
  refine st_all _ B st.inv ((FS C env nm oc sc X ρ ω' κ).stable x'.inv H' st) (by simpa using hs') fun s'' x'' H'' => ?_
  have xx := (Step.to (X := X) (x'.trans st)).trans x''
  exact go A s'' Z' Q E hA x''.inv H'' (fun Z₃ s₃ x₃ H₃ => kn Z₃ s₃ (xx.trans x₃) H₃) fun v Z₃ s₃ x₃ r => kr v Z₃ s₃ (xx.trans x₃) r
theorem ex_tup_sw {R : Vp} {ts es : List Expr} {names : List Str} {k1 k2 : Nat} {p1 p2 pos : Pos} {ρ : List (Option Vp)} {rest : List Stmt} {Ψ : Asn C} {ω : List (Addr × List PV)} (hs : swapsWithSole [.Tuple ts k1 p1] (.Tuple es k2 p2) pos.line env = pure false) (hw : swappedStores [.Tuple ts k1 p1] (.Tuple es k2 p2) env = pure (some names))
    (hsz : es.length ≤ sizeLine) (hn : names.length = es.length) (T : TupK C n X env nm oc sc ρ κ (fun Ps ω => ∃ ρ', Bdn nm oc sc names.reverse Ps.reverse ρ ρ' ∧ EX C n X (FS C env nm oc sc X ρ' ω κ) (execs rest env) Ψ R) es [] ω) :
    EX C n X (FS C env nm oc sc X ρ ω κ) (execs (.Assign [.Tuple ts k1 p1] (.Tuple es k2 p2) pos :: rest) env) Ψ R := fun A s Z Q E hA I H kn kr => by
  refine wpAny_execs_cons (PyProof.Rows.Assign_Tuple_swapped (names := names) (tupK_eval T hA I H hsz fun a vs Ps' ω' Z' s' x' ht H' hs' hf => ?_) hs hw)
  obtain ⟨ρ', B, go⟩ := hf
  have hnv : names.length = vs.toArray.size := by rw [List.size_toArray, hs'.length, ← List.length_reverse (as := names), B.length, List.length_reverse]
  rw [hnv]
  refine unpackItems_tuple hA.handled ht fun h' he => ?_
  have st : Step C Z' s' Z' { s' with heap := h' } := .keeps (t := s'.toks) x'.inv fun b o e => he b o (Nat.ne_of_lt (Heap.lt_size e)) e
  have hr : Sat Z' vs.toArray.toList.reverse Ps'.reverse := by simpa using hs'.rev
  refine st_alln (model C.prog C.w) B st.inv ((FS C env nm oc sc X ρ ω' κ).stable x'.inv H' st) hr ?_
  intro s'' x'' H''
  show wpAny (model C.prog C.w) A (execs rest env) Q E s''
  have xx := (Step.to (X := X) (x'.trans st)).trans x''
  exact go A s'' Z' Q E hA x''.inv H'' (fun Z₃ s₃ x₃ H₃ => kn Z₃ s₃ (xx.trans x₃) H₃) fun v Z₃ s₃ x₃ r => kr v Z₃ s₃ (xx.trans x₃) r
end
inductive Turns (C : Cx) (target : Expr) (I : Addr) (ds : List PV) (Z : Fz) (h : Heap) (new : Addr → Prop) : Prop where
  | mk (fp wr : List Addr) (P : Nat → Value → Heap → Prop) (Md : Nat → Value → Heap → Prop) (St : Nat → Heap → Prop) (w : ∀ A : Around, A.handled = none → KTurns C.prog C.w A target I fp wr ds.length P Md St) (st : St 0 h) (wz : ∀ b ∈ wr, Z b = none)
    (fz : ∀ b ∈ fp, (∃ o, Z b = some o) ∨ (new b ∧ Z b = none)) (ob : ∀ i h', St i h' → ∀ b ∈ fp, ∃ o, h'.get? b = some o ∧ (Z b = none → ∀ ps, o ≠ tabObj ps))
    (it : ∀ i v h' d Z', Le Z Z' → (∀ b o, Z' b = some o → h'.get? b = some o) → ds[i]? = some d → P i v h' → Itm target d Z' h' v)
    (self : ∀ (A : Around) i (s : Shared) (Q : Value → Shared → Prop) (E : Value → Shared → Prop), A.handled = none → St i s.heap → Q (.ref I) s → wpAny (model C.prog C.w) A (pyIter (.ref I)) Q E s)
def IT (C : Cx) (n : Nat) (Φ : Asn C) (iter : Expr) (env : Env) (target : Expr) (ds : List PV) : Prop :=
  ∀ (A : Around) (s : Shared) (Z : Fz) (Q : Value → Shared → Prop) (E : Value → Shared → Prop), Room n A → Inv C Z s → Φ.at_ Z s.heap →
    (∀ I Z' s', Step C Z s Z' s' → Turns C target I ds Z' s'.heap (fun b => s.heap.get? b = none) → Q (.ref I) s') →
      wpAny (model C.prog C.w) A (eval iter env) (fun x s₁ => wpAny (model C.prog C.w) A (pyIter x) Q E s₁) E s
section
variable {C : Cx} {n : Nat} {X : Addr → Prop} {Z Z' : Fz} {s s' : Shared} {env : Env} {nm oc : List Str} {sc : List (Str × NameKind)} {ω : List (Addr × List PV)} {κ : Addr → Option Obj} {A : Around} {E : Value → Shared → Prop}
open Classical in
noncomputable def holdK (κ : Addr → Option Obj) (fp : List Addr) (Z : Fz) (h : Heap) : Addr → Option Obj := fun b => if b ∈ fp ∧ Z b = none then h.get? b else κ b
structure Beside (env : Env) (X : Addr → Prop) (ω : List (Addr × List PV)) (κ : Addr → Option Obj) (tabs : List (Addr × Pos × Str)) (b : Addr) : Prop where
  x : X b
  loc : b ≠ env.locals
  cell : ∀ n c, env.cells.lookup n = some c → b ≠ c
  own : ∀ p ∈ ω, b ≠ p.1
  held : κ b = none
  tab : ∀ t ∈ tabs, b ≠ t.1
theorem Beside.of {ρ : List (Option Vp)} (I : Inv C Z s) (H : FSp env nm oc sc X ρ ω κ Z s.heap) {b : Addr} (hb : s.heap.get? b = none) : Beside env X ω κ C.tabs b := by
  have ne : ∀ c o, s.heap.get? c = some o → b ≠ c := fun c o e q => by rw [q, e] at hb; cases hb
  refine ⟨H.cof b hb, ?_, fun n c hc => ?_, fun p hp => ?_, ?_, fun t ht => ?_⟩
  · obtain ⟨m, o, _, _, e, _⟩ := H.loc; exact ne _ _ e
  · obtain ⟨_, v, o, e, _⟩ := H.cells n c hc; exact ne _ _ e
  · obtain ⟨_, vs, m, e, _⟩ := H.own p hp; exact ne _ _ e
  · cases e : κ b with
    | none => rfl
    | some o => exact absurd rfl (ne _ _ (H.held b o e).at_)
  · obtain ⟨ps, e, _⟩ := I.tabs t ht; exact ne _ _ e
theorem FSp.hold {ρ : List (Option Vp)} {fp : List Addr} (H : FSp env nm oc sc X ρ ω κ Z s.heap) (hb : ∀ b ∈ fp, Z b = none → Beside env X ω κ C.tabs b ∧ ∀ o, s.heap.get? b = some o → ∀ ps, o ≠ tabObj ps) :
    FSp env nm oc sc X ρ ω (holdK κ fp Z s.heap) Z s.heap := by
  refine ⟨H.names, H.gl, H.bl, H.cellH, H.fn, H.nodup, H.apart, H.loc, H.locX, H.locZ, H.cells, H.cellX, H.cof, H.vars, H.own, H.ownX, H.ownN, fun b o e => ?_, fun b o e => ?_⟩
  · by_cases q : b ∈ fp ∧ Z b = none
    · obtain ⟨B, ht⟩ := hb b q.1 q.2
      rw [holdK, if_pos q] at e
      exact ⟨q.2, e, ht o e, B.loc, B.cell, B.own⟩
    · rw [holdK, if_neg q] at e; exact H.held b o e
  · by_cases q : b ∈ fp ∧ Z b = none
    · exact (hb b q.1 q.2).1.x
    · rw [holdK, if_neg q] at e; exact H.heldX b o e
theorem FSp.drop {ρ : List (Option Vp)} {fp : List Addr} {Z₀ : Fz} {h₀ : Heap} (hb : ∀ b ∈ fp, Z₀ b = none → κ b = none) (H : FSp env nm oc sc X ρ ω (holdK κ fp Z₀ h₀) Z s.heap) : FSp env nm oc sc X ρ ω κ Z s.heap := by
  have k : ∀ b o, κ b = some o → holdK κ fp Z₀ h₀ b = some o := fun b o e => by
    rw [holdK, if_neg fun q => by rw [hb b q.1 q.2] at e; cases e]; exact e
  exact ⟨H.names, H.gl, H.bl, H.cellH, H.fn, H.nodup, H.apart, H.loc, H.locX, H.locZ, H.cells, H.cellX, H.cof, H.vars, H.own, H.ownX, H.ownN, fun b o e => H.held b o (k b o e), fun b o e => H.heldX b o (k b o e)⟩
theorem FSp.beside {ρ : List (Option Vp)} {W : List Addr} {h' : Heap} {t : Nat} (I : Inv C Z s) (H : FSp env nm oc sc X ρ ω κ Z s.heap) (hB : ∀ b ∈ W, Beside env X ω κ C.tabs b) (hZ : ∀ b ∈ W, Z b = none)
    (hk : ∀ b o, b ∉ W → s.heap.get? b = some o → h'.get? b = some o) : StepX C X Z s Z { s with heap := h', toks := t } ∧ FSp env nm oc sc X ρ ω κ Z h' := by
  have st : StepX C (· ∈ W) Z s Z { s with heap := h', toks := t } := .writes I (fun _ q => q) (fun b o q e => hk b o q e) (fun b q => hZ b q) fun b q => (hB b q).tab
  exact ⟨st.mono fun b q => (hB b q).x, H.step I st (fun q => (hB _ q).loc rfl) (fun n c hc q => (hB _ q).cell n c hc rfl) (fun p hp q => (hB _ q).own p hp rfl) (fun b o e q => by rw [(hB _ q).held] at e; cases e) fun b q => (hB b q).x⟩
theorem for_run {iter target : Expr} {body : List Stmt} {pos : Pos} {ds : List PV} {ρs : Nat → List (Option Vp)} {ωs : Nat → List (Addr × List PV)} {R : Vp} {A : Around} {s : Shared} {Z : Fz} {Q : Flow → Shared → Prop} {E : Value → Shared → Prop} (hit : IT C n (FS C env nm oc sc X (ρs 0) (ωs 0) κ) iter env target ds)
    (hω : ∀ i, (ωs i).map (·.1) = (ωs 0).map (·.1)) (hA : Room n A)
    (step : ∀ κ' i d, ds[i]? = some d → ∃ ρ', Tgt nm oc sc target d (ρs i) ρ' ∧ ∀ (s : Shared) (Z : Fz) (Q : Flow → Shared → Prop) (E : Value → Shared → Prop), Inv C Z s → FSp env nm oc sc X ρ' (ωs i) κ' Z s.heap →
      (∀ Z' s', StepX C X Z s Z' s' → FSp env nm oc sc X (ρs (i + 1)) (ωs (i + 1)) κ' Z' s'.heap → Q .next s') → (∀ v Z' s', StepX C X Z s Z' s' → R.at_ Z' v → Q (.ret v) s') → wpAny (model C.prog C.w) A (execs body env) Q E s)
    (hs : ∀ x, foldedSetIterable iter env x = pure x) (I : Inv C Z s) (H : FSp env nm oc sc X (ρs 0) (ωs 0) κ Z s.heap)
    (kn : ∀ Z' s', StepX C X Z s Z' s' → FSp env nm oc sc X (ρs ds.length) (ωs ds.length) κ Z' s'.heap → Q .next s') (kr : ∀ v Z' s', StepX C X Z s Z' s' → R.at_ Z' v → Q (.ret v) s') : wpAny (model C.prog C.w) A (exec (.For target iter body [] pos) env) Q E s := by
  refine wpAny_For (hit A s Z _ E hA I H fun J Z₁ s₁ x₁ T => ?_) hs
  obtain ⟨fp, wr, P, Md, St, W, st0, hwZ, hfp, hob, hItm, _⟩ := T
  replace W := W A hA.handled
  have H₁ := (FS C env nm oc sc X (ρs 0) (ωs 0) κ).stable I H x₁
  have hB0 : ∀ b ∈ fp, Z₁ b = none → s.heap.get? b = none := fun b hb hz => by
    rcases hfp b hb with ⟨o, e⟩ | ⟨e, _⟩
    · rw [hz] at e; cases e
    · exact e
  have hBw : ∀ i, ∀ b, s.heap.get? b = none → Beside env X (ωs i) κ C.tabs b := fun i b hb => by
    obtain ⟨b1, b2, b3, b4, b5, b6⟩ := Beside.of I H hb
    refine ⟨b1, b2, b3, fun p hp q => ?_, b5, b6⟩
    have : p.1 ∈ (ωs i).map (·.1) := List.mem_map.mpr ⟨p, hp, rfl⟩
    rw [hω] at this
    obtain ⟨p', hp', q'⟩ := List.mem_map.mp this
    exact b4 p' hp' (q.trans q'.symm)
  have hBwr : ∀ b ∈ wr, s.heap.get? b = none := fun b hb => hB0 b (W.sub b hb) (hwZ b hb)
  refine codeAny_forLoop_any
    (fun k s' => ∃ Z' i, StepX C X Z₁ s₁ Z' s' ∧ FSp env nm oc sc X (ρs i) (ωs i) κ Z' s'.heap ∧ St i s'.heap ∧ (∀ b ∈ fp, Z₁ b = none → Z' b = none) ∧ i ≤ ds.length ∧ k = ds.length + 1 - i) ?_ (ds.length + 1)
    ⟨Z₁, 0, StepX.refl x₁.inv, H₁, st0, fun _ _ e => e, Nat.zero_le _, rfl⟩
  rintro k s' ⟨Z', i, x', H', st', hz', hi, rfl⟩
  have hwZ' : ∀ b ∈ wr, Z' b = none := fun b hb => hz' b (W.sub b hb) (hwZ b hb)
  rcases Nat.lt_or_ge i ds.length with hlt | hge
  · refine W.item i s' _ _ hlt st' fun v h₂ tk₂ hMd hk₂ => ?_
    obtain ⟨x₂, H₂⟩ := FSp.beside (t := tk₂) x'.inv H' (fun b hb => (hBw i b (hBwr b hb))) hwZ' hk₂
    refine W.go i v _ _ _ hMd fun h₃ hP st₃ hk₃ => ?_
    obtain ⟨x₃, H₃⟩ := FSp.beside (t := tk₂) x₂.inv H₂ (fun b hb => (hBw i b (hBwr b hb))) hwZ' hk₃
    have hd : ds[i]? = some ds[i] := List.getElem?_eq_getElem hlt
    obtain ⟨ρ', T, body_⟩ := step (holdK κ fp Z' h₃) i ds[i] hd
    have H₃' : FSp env nm oc sc X (ρs i) (ωs i) (holdK κ fp Z' h₃) Z' h₃ := FSp.hold (s := { s' with heap := h₃, toks := tk₂ }) (C := C) H₃ fun b hb hz => by
      refine ⟨?_, fun o e => ?_⟩
      · rcases hfp b hb with ⟨o, e⟩ | ⟨e, _⟩
        · rw [x'.le _ _ e] at hz; cases hz
        · exact hBw i b e
      · obtain ⟨o', e', ht⟩ := hob _ _ st₃ b hb
        rw [e] at e'; cases e'
        rcases hfp b hb with ⟨o, e⟩ | ⟨_, e⟩
        · rw [x'.le _ _ e] at hz; cases hz
        · exact ht e
    refine asg T (hItm i v h₃ ds[i] Z' x'.le (fun b o e => x₃.inv.heap b o e) hd hP) hA.handled x₃.inv H₃' fun s₄ x₄ H₄ => ?_
    have xx : StepX C X Z₁ s₁ Z' s₄ := ((x'.trans x₂).trans x₃).trans x₄
    refine body_ s₄ Z' _ _ x₄.inv H₄ (fun Z₅ s₅ x₅ H₅ => ?_) fun v' Z₅ s₅ x₅ r => ?_
    · have keep5 : ∀ b ∈ fp, ∀ o, h₃.get? b = some o → s₅.heap.get? b = some o := fun b hb o e => by
        cases hz : Z' b with
        | some o' =>
          have := x₃.inv.heap b o' hz
          rw [show ({ s' with heap := h₃, toks := tk₂ } : Shared).heap = h₃ from rfl, e] at this
          cases this
          exact x₅.inv.heap b o (x₅.le b o hz)
        | none => exact (H₅.held b o (by rw [holdK, if_pos ⟨hb, hz⟩]; exact e)).at_
      refine ⟨ds.length + 1 - (i + 1), by lia, Z₅, i + 1, xx.trans x₅, ?_, W.frame _ _ _ st₃ keep5, fun b hb hz => ?_, hlt, rfl⟩
      · refine FSp.drop (fun b hb hz => ?_) H₅
        rcases hfp b hb with ⟨o, e⟩ | ⟨e, _⟩
        · rw [x'.le _ _ e] at hz; cases hz
        · exact (hBw i b e).held
      · obtain ⟨o, e, _⟩ := hob _ _ st₃ b hb
        exact (H₅.held b o (by rw [holdK, if_pos ⟨hb, hz' b hb hz⟩]; exact e)).z
    · exact kr v' Z₅ s₅ ((x₁.to (X := X)).trans (xx.trans x₅)) r
  · have hin : i = ds.length := Nat.le_antisymm hi hge
    subst hin
    refine W.done s' _ _ st' fun h₂ tk₂ hk₂ => ?_
    obtain ⟨x₂, H₂⟩ := FSp.beside (t := tk₂) x'.inv H' (fun b hb => (hBw ds.length b (hBwr b hb))) hwZ' hk₂
    exact wpAny_execs_nil (kn Z' _ ((x₁.to (X := X)).trans (x'.trans x₂)) H₂)
theorem ex_for {iter target : Expr} {body : List Stmt} {pos : Pos} {ds : List PV} {ρs : Nat → List (Option Vp)} {ωs : Nat → List (Addr × List PV)} {R : Vp} (hit : IT C n (FS C env nm oc sc X (ρs 0) (ωs 0) κ) iter env target ds)
    (hω : ∀ i, (ωs i).map (·.1) = (ωs 0).map (·.1))
    (step : ∀ κ' i d, ds[i]? = some d → ∃ ρ', Tgt nm oc sc target d (ρs i) ρ' ∧ EX C n X (FS C env nm oc sc X ρ' (ωs i) κ') (execs body env) (FS C env nm oc sc X (ρs (i + 1)) (ωs (i + 1)) κ') R)
    (hs : ∀ x, foldedSetIterable iter env x = pure x := by intro _; rfl) :
    EX C n X (FS C env nm oc sc X (ρs 0) (ωs 0) κ) (exec (.For target iter body [] pos) env) (FS C env nm oc sc X (ρs ds.length) (ωs ds.length) κ) R := fun A s Z Q E hA I H kn kr =>
  for_run hit hω hA (fun κ' i d hd => (step κ' i d hd).imp fun ρ' h => ⟨h.1, fun s Z Q E I H => h.2 A s Z Q E hA I H⟩) hs I H kn kr
end
inductive OU : List (Addr × List PV) → Addr → List PV → List PV → List (Addr × List PV) → Prop where
  | here {ω : List (Addr × List PV)} {a : Addr} {ds ds' : List PV} : OU ((a, ds) :: ω) a ds ds' ((a, ds') :: ω)
  | there {ω ω' : List (Addr × List PV)} {p : Addr × List PV} {a : Addr} {ds ds' : List PV} (r : OU ω a ds ds' ω') : OU (p :: ω) a ds ds' (p :: ω')
theorem OU.mem {a : Addr} {ds ds' : List PV} {ω ω' : List (Addr × List PV)} (u : OU ω a ds ds' ω') : (a, ds) ∈ ω := by
  induction u with
  | here => exact .head _
  | there _ ih => exact .tail _ ih
theorem OU.keys {a : Addr} {ds ds' : List PV} {ω ω' : List (Addr × List PV)} (u : OU ω a ds ds' ω') : ω'.map (·.1) = ω.map (·.1) := by
  induction u with
  | here => rfl
  | there _ ih => exact congrArg (_ :: ·) ih
theorem OU.all {Pr : Addr × List PV → Prop} {a : Addr} {ds ds' : List PV} {ω ω' : List (Addr × List PV)} (u : OU ω a ds ds' ω') (nd : (ω.map (·.1)).Nodup) (h : ∀ p ∈ ω, p.1 ≠ a → Pr p) (ha : Pr (a, ds')) (p : Addr × List PV) (hp : p ∈ ω') : Pr p := by
  induction u with
  | here =>
    rcases List.mem_cons.mp hp with rfl | hp
    · exact ha
    · exact h p (.tail _ hp) fun q => (List.nodup_cons.mp nd).1 (List.mem_map.mpr ⟨p, hp, q⟩)
  | there r ih =>
    rcases List.mem_cons.mp hp with rfl | hp
    · exact h p (.head _) fun q => (List.nodup_cons.mp nd).1 (List.mem_map.mpr ⟨_, r.mem, q.symm⟩)
    · exact ih (List.nodup_cons.mp nd).2 (fun p hp => h p (.tail _ hp)) ha hp
section
variable {C : Cx} {n : Nat} {X : Addr → Prop} {Z Z' : Fz} {s s' : Shared} {env : Env} {nm oc : List Str} {sc : List (Str × NameKind)} {ω ω' : List (Addr × List PV)} {κ : Addr → Option Obj} {A : Around} {E : Value → Shared → Prop}
theorem FSp.setOwn {ρ : List (Option Vp)} {a : Addr} {ds ds' : List PV} {vs' : List Value} {h' : Heap} {t : Nat} (I : Inv C Z s) (H : FSp env nm oc sc X ρ ω κ Z s.heap) (u : OU ω a ds ds' ω') (hs : Heap.SameBut a s.heap h') (hl : h'.PlainList a vs'.toArray) (hr : RdL Z vs' ds') :
    StepX C X Z s Z { s with heap := h', toks := t } ∧ FSp env nm oc sc X ρ ω' κ Z h' := by
  obtain ⟨hz, vs, m, e, r⟩ := H.own _ u.mem
  replace hz : Z a = none := hz
  replace e : s.heap.get? a = some { cls := .type "list", data := .seq vs.toArray m } := e
  have hX : X a := H.ownX _ u.mem
  have ht : ∀ t ∈ C.tabs, a ≠ t.1 := I.tab_fields e fun ps q => by cases q
  have st : StepX C X Z s Z { s with heap := h', toks := t } := .write I hX hs hz ht
  have nl : env.locals ≠ a := fun q => by
    obtain ⟨_, o, _, _, e', d, _⟩ := H.loc
    rw [q, e] at e'; cases e'; cases d
  have nc : ∀ n c, env.cells.lookup n = some c → c ≠ a := fun n c hc q => by
    obtain ⟨_, v, o, e', d⟩ := H.cells n c hc
    rw [q, e] at e'; cases e'; cases d
  refine ⟨st, H.names, H.gl, H.bl, H.cellH, H.fn, H.nodup, H.apart, ?_, H.locX, H.locZ, fun n c hc => ⟨(H.cells n c hc).1, ?_⟩, H.cellX, fun b hb => (st.gone hb).elim (H.cof b) id, ?_, ?_, ?_, ?_, fun b o eb => ?_, H.heldX⟩
  · obtain ⟨m, hn⟩ := H.loc; exact ⟨m, hn.sameBut hs nl⟩
  · obtain ⟨v, hv⟩ := (H.cells n c hc).2; exact ⟨v, hv.sameBut hs (nc n c hc)⟩
  · exact H.vars.keeps (Le.refl Z) (fun o e => hs.extBut _ o nl e) fun n c hc o e => hs.extBut _ o (nc n c hc) e
  · refine u.all H.ownN (fun p hp hne => ?_) (hl.elim fun n e => ⟨hz, vs', n, e, hr⟩)
    obtain ⟨hz', vs, m, e, r⟩ := H.own p hp
    exact ⟨hz', vs, m, hs.extBut _ _ hne e, r⟩
  · exact u.all H.ownN (fun p hp _ => H.ownX p hp) hX
  · rw [u.keys]; exact H.ownN
  · obtain ⟨hz', ha, htb, hl', hc', hw⟩ := H.held b o eb
    have hb : b ≠ a := hw _ u.mem
    exact ⟨hz', hs.extBut _ _ hb ha, htb, hl', hc', u.all H.ownN (fun p hp _ => hw p hp) hb⟩
theorem call_append {ρ : List (Option Vp)} {a : Addr} {d : PV} {ds : List PV} {v : Value} {Q : Value → Shared → Prop} (I : Inv C Z s) (H : FSp env nm oc sc X ρ ω κ Z s.heap) (u : OU ω a ds (ds ++ [d]) ω') (hv : Rd Z v d) (hsz : ds.length ≤ sizeLine)
    (k : ∀ s', StepX C X Z s Z s' → FSp env nm oc sc X ρ ω' κ Z s'.heap → Q .none s') : wpAny (model C.prog C.w) A (call (.builtin "list.append") [.ref a, v]) Q E s := by
  obtain ⟨hz, vs, m, e, r⟩ := H.own _ u.mem
  refine wpAny_list_append_plain ⟨m, e⟩ (fun h' hl hs => ?_) (by rw [List.size_toArray, r.length]; exact hsz)
  obtain ⟨st, H'⟩ := H.setOwn (t := s.toks) I u hs (vs' := vs ++ [v]) (by simpa using hl) (r.append (.cons hv .nil))
  exact k _ st H'
inductive OF : List (Addr × List PV) → Addr → List PV → List (Addr × List PV) → Prop where
  | here {ω : List (Addr × List PV)} {a : Addr} {ds : List PV} : OF ((a, ds) :: ω) a ds ω
  | there {ω ω' : List (Addr × List PV)} {p : Addr × List PV} {a : Addr} {ds : List PV} (r : OF ω a ds ω') : OF (p :: ω) a ds (p :: ω')
theorem OF.mem {a : Addr} {ds : List PV} {ω ω' : List (Addr × List PV)} (u : OF ω a ds ω') : (a, ds) ∈ ω := by
  induction u with
  | here => exact .head _
  | there _ ih => exact .tail _ ih
theorem OF.sub {a : Addr} {ds : List PV} {ω ω' : List (Addr × List PV)} (u : OF ω a ds ω') : ω'.Sublist ω := by
  induction u with
  | here => exact List.sublist_cons_self ..
  | there _ ih => exact ih.cons_cons _
theorem OF.ne {a : Addr} {ds : List PV} {ω ω' : List (Addr × List PV)} (u : OF ω a ds ω') (nd : (ω.map (·.1)).Nodup) (p : Addr × List PV) (hp : p ∈ ω') : p.1 ≠ a := by
  induction u with
  | here => exact fun q => (List.nodup_cons.mp nd).1 (List.mem_map.mpr ⟨p, hp, q⟩)
  | there r ih =>
    rcases List.mem_cons.mp hp with rfl | hp
    · exact fun q => (List.nodup_cons.mp nd).1 (List.mem_map.mpr ⟨_, r.mem, q.symm⟩)
    · exact ih (List.nodup_cons.mp nd).2 hp
inductive Rfz (a : Addr) (ds : List PV) : List (Option Vp) → List (Option Vp) → Prop where
  | nil : Rfz a ds [] []
  | same {o : Option Vp} {ρ ρ' : List (Option Vp)} (r : Rfz a ds ρ ρ') : Rfz a ds (o :: ρ) (o :: ρ')
  | it {ρ ρ' : List (Option Vp)} (r : Rfz a ds ρ ρ') : Rfz a ds (some (isv (.ref a)) :: ρ) (some (is (.list ds)) :: ρ')
theorem Rfz.ix {a : Addr} {ds : List PV} {ρ ρ' : List (Option Vp)} (R : Rfz a ds ρ ρ') (i : Nat) (P : Vp) (e : ρ'[i]? = some (some P)) : ρ[i]? = some (some P) ∨ (ρ[i]? = some (some (isv (.ref a))) ∧ P = is (.list ds)) := by
  induction R generalizing i with
  | nil => cases e
  | same _ ih =>
    cases i with
    | zero => exact .inl e
    | succ i => exact ih i e
  | it _ ih =>
    cases i with
    | zero => cases e; exact .inr ⟨rfl, rfl⟩
    | succ i => exact ih i e
theorem Vars.rfz {a : Addr} {ds : List PV} (hd : Rd Z (.ref a) (.list ds)) {nm : List Str} {ρ ρ' : List (Option Vp)} (R : Rfz a ds ρ ρ') {h : Heap} (H : Vars env Z h nm ρ) : Vars env Z h nm ρ' := fun i x P e1 e2 => by
  rcases R.ix i P e2 with e | ⟨e, rfl⟩
  · exact H i x P e1 e
  · obtain ⟨v, hv, hp⟩ := H i x _ e1 e
    cases hp
    exact ⟨_, hv, hd⟩
theorem FSp.freeze {ρ ρ' : List (Option Vp)} {a : Addr} {ds : List PV} (I : Inv C Z s) (H : FSp env nm oc sc X ρ ω κ Z s.heap) (u : OF ω a ds ω') (q : Rfz a ds ρ ρ') : ∃ Z', StepX C X Z s Z' s ∧ FSp env nm oc sc X ρ' ω' κ Z' s.heap ∧ Rd Z' (.ref a) (.list ds) := by
  obtain ⟨hz, vs, m, e, r⟩ := H.own _ u.mem
  replace hz : Z a = none := hz
  replace e : s.heap.get? a = some { cls := .type "list", data := .seq vs.toArray m } := e
  have ht : ∀ t ∈ C.tabs, a ≠ t.1 := I.tab_fields e fun ps q => by cases q
  have st := StepX.freeze (X := X) I (H.ownX _ u.mem) hz e ht
  have hd : Rd (put Z a { cls := .type "list", data := .seq vs.toArray m }) (.ref a) (.list ds) := .list (n := m) (put_self (Z := Z)) (r.le st.le)
  have nl : env.locals ≠ a := fun q => by
    obtain ⟨_, o, _, _, e', d, _⟩ := H.loc
    rw [q, e] at e'; cases e'; cases d
  refine ⟨_, st, ⟨H.names, H.gl, H.bl, H.cellH, H.fn, H.nodup, H.apart, H.loc, H.locX, ?_, fun n c hc => ⟨?_, (H.cells n c hc).2⟩, H.cellX, H.cof, ?_, fun p hp => ?_, fun p hp => H.ownX p (u.sub.mem hp), H.ownN.sublist (u.sub.map _), fun b o eb => ?_, H.heldX⟩, hd⟩
  · rw [put_ne nl]; exact H.locZ
  · refine (put_ne fun q => ?_).trans (H.cells n c hc).1
    obtain ⟨_, v, o, e', d⟩ := H.cells n c hc
    rw [q, e] at e'; cases e'; cases d
  · exact Vars.rfz hd q (H.vars.keeps st.le (fun _ e => e) fun _ _ _ _ e => e)
  · obtain ⟨hz', vs', m', e', r'⟩ := H.own p (u.sub.mem hp)
    exact ⟨by rw [put_ne (u.ne H.ownN p hp)]; exact hz', vs', m', e', RdL.le st.le r'⟩
  · obtain ⟨hz', ha, htb, hl', hc', hw⟩ := H.held b o eb
    exact ⟨by rw [put_ne (hw _ u.mem)]; exact hz', ha, htb, hl', hc', fun p hp => hw p (u.sub.mem hp)⟩
theorem ex_freeze {ρ ρ' : List (Option Vp)} {a : Addr} {ds : List PV} {Ψ : Asn C} {R : Vp} {rest : List Stmt} (u : OF ω a ds ω') (q : Rfz a ds ρ ρ') (k : EX C n X (FS C env nm oc sc X ρ' ω' κ) (execs rest env) Ψ R) :
    EX C n X (FS C env nm oc sc X ρ ω κ) (execs rest env) Ψ R := fun A s Z Q E hA I H kn kr => by
  obtain ⟨Z', st, H', _⟩ := H.freeze I u q
  exact k A s Z' Q E hA st.inv H' (fun Z₂ s₂ x₂ H₂ => kn Z₂ s₂ (st.trans x₂) H₂) fun v Z₂ s₂ x₂ r => kr v Z₂ s₂ (st.trans x₂) r
end
theorem turn_last {elt target iter : Expr} {ifs : List Expr} {gens : List Comprehension} {scope : Scope} {pos : Pos} {k : Nat} {it acc : Value} {env : Env} (hg : gens[k]? = some ⟨target, iter, ifs, 0⟩) (hn : gens[k + 1]? = none) :
    compTurn (.ListComp elt gens scope pos) k it acc env = (standAt iter.pos >>= fun _ => pyNext it >>= fun r => match r with
      | none => pure (.done .next)
      | some v => letOwnedTupleGo target it v >>= fun _ => assign target env v >>= fun _ =>
        (forIn ifs true fun c r => if r = true then do let ok ← isTrue c env (eval c env); pure (ForInStep.yield ok) else pure (ForInStep.yield r)) >>= fun ok =>
        if ok = true then (eval elt env >>= fun x => call (.builtin "list.append") [acc, x] >>= fun _ => pure ()) >>= fun _ => again (.compLoop (.ListComp elt gens scope pos) k it acc env)
        else again (.compLoop (.ListComp elt gens scope pos) k it acc env)) := by
  unfold compTurn
  simp only [hg, hn]
  rfl
noncomputable def deepT (e : Expr) (iter' : Expr) (k : Nat) (acc : Value) (env : Env) : Sem Flow :=
  eval iter' env >>= fun x => standAt iter'.pos >>= fun _ => foldedSetIterable iter' env x >>= fun x => holding [x] (pyIter x) >>= fun it' => runOwn (.compStart e (k + 1) it' acc env) env
theorem turn_deep {elt target iter target' iter' : Expr} {ifs ifs' : List Expr} {gens : List Comprehension} {scope : Scope} {pos : Pos} {k : Nat} {it acc : Value} {env : Env} (hg : gens[k]? = some ⟨target, iter, ifs, 0⟩) (hn : gens[k + 1]? = some ⟨target', iter', ifs', 0⟩) :
    compTurn (.ListComp elt gens scope pos) k it acc env = (standAt iter.pos >>= fun _ => pyNext it >>= fun r => match r with
      | none => pure (.done .next)
      | some v => letOwnedTupleGo target it v >>= fun _ => assign target env v >>= fun _ =>
        (forIn ifs true fun c r => if r = true then do let ok ← isTrue c env (eval c env); pure (ForInStep.yield ok) else pure (ForInStep.yield r)) >>= fun ok =>
        if ok = true then deepT (.ListComp elt gens scope pos) iter' k acc env >>= fun _ => again (.compLoop (.ListComp elt gens scope pos) k it acc env)
        else again (.compLoop (.ListComp elt gens scope pos) k it acc env)) := by
  have e : deepT (.ListComp elt gens scope pos) iter' k acc env >>= (fun _ => again (.compLoop (.ListComp elt gens scope pos) k it acc env)) =
      (eval iter' env >>= fun x => standAt iter'.pos >>= fun _ => foldedSetIterable iter' env x >>= fun x => holding [x] (pyIter x) >>= fun it' => runOwn (.compStart (.ListComp elt gens scope pos) (k + 1) it' acc env) env >>= fun _ => again (.compLoop (.ListComp elt gens scope pos) k it acc env)) := by
    unfold deepT
    show Sem.bind (Sem.bind _ _) _ = Sem.bind _ _
    rw [Sem.bind_assoc]; congr 1; funext x
    show Sem.bind (Sem.bind _ _) _ = Sem.bind _ _
    rw [Sem.bind_assoc]; congr 1; funext _
    show Sem.bind (Sem.bind _ _) _ = Sem.bind _ _
    rw [Sem.bind_assoc]; congr 1; funext _
    show Sem.bind (Sem.bind _ _) _ = Sem.bind _ _
    rw [Sem.bind_assoc]; rfl
  rw [e]
  unfold compTurn
  simp only [hg, hn]
  rfl
def TS (C : Cx) (n : Nat) (Φ : Asn C) (ifs : List Expr) (env : Env) (b : Bool) : Prop :=
  ∀ (A : Around) (s : Shared) (Z : Fz) (Q : Bool → Shared → Prop) (E : Value → Shared → Prop), Room n A → Inv C Z s → Φ.at_ Z s.heap → (∀ Z' s', Step C Z s Z' s' → Q b s') →
    wpAny (model C.prog C.w) A (forIn ifs true fun c r => if r = true then do let ok ← isTrue c env (eval c env); pure (ForInStep.yield ok) else pure (ForInStep.yield r)) Q E s
theorem ts_nil {C : Cx} {n : Nat} {Φ : Asn C} {env : Env} : TS C n Φ [] env true := fun A s Z Q E hA I H k => wpAny_tests_nil (k Z s (StepX.refl I))
theorem ts_one {C : Cx} {n : Nat} {Φ : Asn C} {env : Env} {c : Expr} {b : Bool} (h : TV C n Φ (isTrue c env (eval c env)) b) : TS C n Φ [c] env b := fun A s Z Q E hA I H k => wpAny_tests_one (h A s Z Q E hA I H k)
inductive Fgt : List (Option Vp) → List (Option Vp) → Prop where
  | nil : Fgt [] []
  | same {o : Option Vp} {ρ' ρ : List (Option Vp)} (r : Fgt ρ' ρ) : Fgt (o :: ρ') (o :: ρ)
  | drop {o : Option Vp} {ρ' ρ : List (Option Vp)} (r : Fgt ρ' ρ) : Fgt (o :: ρ') (none :: ρ)
theorem Fgt.ix {ρ ρ' : List (Option Vp)} (g : Fgt ρ' ρ) (i : Nat) (P : Vp) (e : ρ[i]? = some (some P)) : ρ'[i]? = some (some P) := by
  induction g generalizing i with
  | nil => cases e
  | same _ ih =>
    cases i with
    | zero => exact e
    | succ i => exact ih i e
  | drop _ ih =>
    cases i with
    | zero => cases e
    | succ i => exact ih i e
theorem Vars.forget {env : Env} {Z : Fz} {h : Heap} {nm : List Str} {ρ' ρ : List (Option Vp)} (g : Fgt ρ' ρ) (H : Vars env Z h nm ρ') : Vars env Z h nm ρ := fun i x P e1 e2 => H i x P e1 (g.ix i P e2)
theorem FSp.forget {env : Env} {nm oc : List Str} {sc : List (Str × NameKind)} {X : Addr → Prop} {ρ ρ' : List (Option Vp)} {ω : List (Addr × List PV)} {κ : Addr → Option Obj} {Z : Fz} {h : Heap} (g : Fgt ρ' ρ) (H : FSp env nm oc sc X ρ' ω κ Z h) : FSp env nm oc sc X ρ ω κ Z h :=
  ⟨H.names, H.gl, H.bl, H.cellH, H.fn, H.nodup, H.apart, H.loc, H.locX, H.locZ, H.cells, H.cellX, H.cof, H.vars.forget g, H.own, H.ownX, H.ownN, H.held, H.heldX⟩
def Emits (C : Cx) (n : Nat) (X : Addr → Prop) (env : Env) (nm oc : List Str) (sc : List (Str × NameKind)) (D : Addr) (ρ : List (Option Vp)) {α : Type} (t : Sem α) (out : List PV) : Prop :=
  ∀ (A : Around) (s : Shared) (Z : Fz) (Q : α → Shared → Prop) (E : Value → Shared → Prop) (ys : List PV) (κ : Addr → Option Obj), Room n A → Inv C Z s → FSp env nm oc sc X ρ [(D, ys)] κ Z s.heap → (ys ++ out).length ≤ sizeLine →
    (∀ x Z' s', StepX C X Z s Z' s' → FSp env nm oc sc X ρ [(D, ys ++ out)] κ Z' s'.heap → Q x s') → wpAny (model C.prog C.w) A t Q E s
def Clause (C : Cx) (n : Nat) (X : Addr → Prop) (env : Env) (nm oc : List Str) (sc : List (Str × NameKind)) (D : Addr) (ρ : List (Option Vp)) (target : Expr) (ifs : List Expr) {α : Type} (t : Sem α) (d : PV) (out : List PV) : Prop :=
  ∃ ρ' b, Tgt nm oc sc target d ρ ρ' ∧ Fgt ρ' ρ ∧ (∀ ys κ, TS C n (FS C env nm oc sc X ρ' [(D, ys)] κ) ifs env b) ∧ (b = true → Emits C n X env nm oc sc D ρ' t out) ∧ (b = false → out = [])
section
variable {C : Cx} {n : Nat} {X : Addr → Prop} {Z Z' : Fz} {s s' : Shared} {env : Env} {nm oc : List Str} {sc : List (Str × NameKind)} {ω ω' : List (Addr × List PV)} {κ : Addr → Option Obj} {A : Around} {E : Value → Shared → Prop} {ρ : List (Option Vp)} {D : Addr}
theorem em_last {elt : Expr} {d : PV} (h : ∀ ys κ, EV C n (FS C env nm oc sc X ρ [(D, ys)] κ) (eval elt env) (is d)) : Emits C n X env nm oc sc D ρ (eval elt env >>= fun x => call (.builtin "list.append") [.ref D, x] >>= fun _ => pure ()) [d] :=
  fun A s Z Q E ys κ hA I H hsz k => by
  refine wpAny_bind (h ys κ A s Z _ E hA I H fun v Z₁ s₁ x₁ pv => wpAny_bind ?_)
  refine call_append x₁.inv ((FS C env nm oc sc X ρ [(D, ys)] κ).stable I H x₁) .here pv (by simp at hsz; lia) fun s₂ x₂ H₂ => ?_
  exact wpAny_pure (k () Z₁ s₂ ((Step.to x₁).trans x₂) H₂)
theorem comp_loop {α β : Type} {elt target iter : Expr} {ifs : List Expr} {gens : List Comprehension} {scope : Scope} {pos : Pos} {k : Nat} {J : Addr} {t : Sem β} {xs : List α} {f : α → PV} {g : α → List PV} {new : Addr → Prop} {R : Result → Shared → Prop} {ys : List PV}
    (ht : compTurn (.ListComp elt gens scope pos) k (.ref J) (.ref D) env = (standAt iter.pos >>= fun _ => pyNext (.ref J) >>= fun r => match r with
      | none => pure (.done .next)
      | some v => letOwnedTupleGo target (.ref J) v >>= fun _ => assign target env v >>= fun _ =>
        (forIn ifs true fun c r => if r = true then do let ok ← isTrue c env (eval c env); pure (ForInStep.yield ok) else pure (ForInStep.yield r)) >>= fun ok =>
        if ok = true then t >>= fun _ => again (.compLoop (.ListComp elt gens scope pos) k (.ref J) (.ref D) env)
        else again (.compLoop (.ListComp elt gens scope pos) k (.ref J) (.ref D) env)))
    (step : ∀ x ∈ xs, Clause C n X env nm oc sc D ρ target ifs t (f x) (g x)) (hA : Room n A) (I : Inv C Z s) (H : FSp env nm oc sc X ρ [(D, ys)] κ Z s.heap) (T : Turns C target J (xs.map f) Z s.heap new)
    (hnew : ∀ b, new b → Z b = none → Beside env X [(D, ys)] κ C.tabs b) (hsz : (ys ++ xs.flatMap g).length ≤ sizeLine)
    (hR : ∀ Z' s', StepX C X Z s Z' s' → FSp env nm oc sc X ρ [(D, ys ++ xs.flatMap g)] κ Z' s'.heap → R (.ok .next) s') :
    codeAny (model C.prog C.w) A (.compLoop (.ListComp elt gens scope pos) k (.ref J) (.ref D) env) R s := by
  obtain ⟨fp, wr, P, Md, St, W, st0, hwZ, hfp, hob, hItm, _⟩ := T
  replace W := W A hA.handled
  have hB0 : ∀ b ∈ fp, Z b = none → ∀ zs, Beside env X [(D, zs)] κ C.tabs b := fun b hb hz zs => by
    rcases hfp b hb with ⟨o, e⟩ | ⟨e, _⟩
    · rw [hz] at e; cases e
    · obtain ⟨b1, b2, b3, b4, b5, b6⟩ := hnew b e hz
      exact ⟨b1, b2, b3, fun p hp => by rw [List.mem_singleton.mp hp]; exact b4 (D, ys) (.head _), b5, b6⟩
  have hBwr : ∀ zs, ∀ b ∈ wr, Beside env X [(D, zs)] κ C.tabs b := fun zs b hb => hB0 b (W.sub b hb) (hwZ b hb) zs
  have hpre : ∀ i, (ys ++ (xs.take i).flatMap g).length ≤ sizeLine := fun i => by
    refine Nat.le_trans ?_ hsz
    have : xs.flatMap g = (xs.take i).flatMap g ++ (xs.drop i).flatMap g := by rw [← List.flatMap_append, List.take_append_drop]
    rw [this]; simp only [List.length_append]; lia
  refine codeAny_loop' rfl
    (fun m s' => ∃ Z' i, StepX C X Z s Z' s' ∧ FSp env nm oc sc X ρ [(D, ys ++ (xs.take i).flatMap g)] κ Z' s'.heap ∧ St i s'.heap ∧ (∀ b ∈ fp, Z b = none → Z' b = none) ∧ i ≤ xs.length ∧ m = xs.length + 1 - i) ?_ (xs.length + 1)
    ⟨Z, 0, StepX.refl I, by simpa using H, st0, fun _ _ e => e, Nat.zero_le _, rfl⟩
  rintro m s' ⟨Z', i, x', H', st', hz', hi, rfl⟩
  show wpAny _ A ((compTurn (.ListComp elt gens scope pos) k (.ref J) (.ref D) env).onRaise (fun x => do noteFrame x env; theTreesLotGoes x)) _ _ s'
  refine wpAny_noted ?_
  rw [ht]
  refine wpAny_bind (wpAny_standAt (wpAny_bind ?_))
  have hwZ' : ∀ b ∈ wr, Z' b = none := fun b hb => hz' b (W.sub b hb) (hwZ b hb)
  rcases Nat.lt_or_ge i xs.length with hlt | hge
  · refine W.item i s' _ _ (by rw [List.length_map]; exact hlt) st' fun v h₂ tk₂ hMd hk₂ => ?_
    obtain ⟨x₂, H₂⟩ := FSp.beside (t := tk₂) x'.inv H' (hBwr _) hwZ' hk₂
    refine wpAny_bind (W.go i v _ _ _ hMd fun h₃ hP st₃ hk₃ => ?_)
    obtain ⟨x₃, H₃⟩ := FSp.beside (t := tk₂) x₂.inv H₂ (hBwr _) hwZ' hk₃
    have hd : (xs.map f)[i]? = some (f xs[i]) := by rw [List.getElem?_map, List.getElem?_eq_getElem hlt]; rfl
    obtain ⟨ρ', b, T, gt, ts, em1, em0⟩ := step xs[i] (List.getElem_mem hlt)
    have H₃' : FSp env nm oc sc X ρ [(D, ys ++ (xs.take i).flatMap g)] (holdK κ fp Z' h₃) Z' h₃ := FSp.hold (s := { s' with heap := h₃, toks := tk₂ }) (C := C) H₃ fun b hb hz => by
      have hz0 : Z b = none := by
        cases e : Z b with
        | none => rfl
        | some o => rw [x'.le _ _ e] at hz; cases hz
      refine ⟨hB0 b hb hz0 _, fun o e => ?_⟩
      obtain ⟨o', e', ht⟩ := hob _ _ st₃ b hb
      rw [e] at e'; cases e'
      exact ht hz0
    refine wpAny_bind (asg T (hItm i v h₃ _ Z' x'.le (fun b o e => x₃.inv.heap b o e) hd hP) hA.handled x₃.inv H₃' fun s₄ x₄ H₄ => wpAny_bind ?_)
    have xx : StepX C X Z s Z' s₄ := ((x'.trans x₂).trans x₃).trans x₄
    have take1 : (xs.take (i + 1)).flatMap g = (xs.take i).flatMap g ++ g xs[i] := by
      rw [List.take_add_one, List.getElem?_eq_getElem hlt, List.flatMap_append, show (some xs[i]).toList = [xs[i]] from rfl, List.flatMap_cons, List.flatMap_nil, List.append_nil]
    have fin : ∀ Z₅ s₅, StepX C X Z' s₄ Z₅ s₅ → FSp env nm oc sc X ρ' [(D, (ys ++ (xs.take i).flatMap g) ++ g xs[i])] (holdK κ fp Z' h₃) Z₅ s₅.heap →
        ∃ m, m < xs.length + 1 - i ∧ ∃ Z' i, StepX C X Z s Z' s₅ ∧ FSp env nm oc sc X ρ [(D, ys ++ (xs.take i).flatMap g)] κ Z' s₅.heap ∧ St i s₅.heap ∧ (∀ b ∈ fp, Z b = none → Z' b = none) ∧ i ≤ xs.length ∧ m = xs.length + 1 - i := fun Z₅ s₅ x₅ H₅ => by
      have keep5 : ∀ b ∈ fp, ∀ o, h₃.get? b = some o → s₅.heap.get? b = some o := fun b hb o e => by
        cases hz : Z' b with
        | some o' =>
          have := x₃.inv.heap b o' hz
          rw [show ({ s' with heap := h₃, toks := tk₂ } : Shared).heap = h₃ from rfl, e] at this
          cases this
          exact x₅.inv.heap b o (x₅.le b o hz)
        | none => exact (H₅.held b o (by rw [holdK, if_pos ⟨hb, hz⟩]; exact e)).at_
      refine ⟨xs.length + 1 - (i + 1), by lia, Z₅, i + 1, xx.trans x₅, ?_, W.frame _ _ _ st₃ keep5, fun b hb hz => ?_, hlt, rfl⟩
      · rw [take1, ← List.append_assoc]
        refine FSp.forget gt (FSp.drop (fun b hb hz => ?_) H₅)
        refine (hB0 b hb ?_ []).held
        cases e : Z b with
        | none => rfl
        | some o => rw [x'.le _ _ e] at hz; cases hz
      · obtain ⟨o, e, _⟩ := hob _ _ st₃ b hb
        exact (H₅.held b o (by rw [holdK, if_pos ⟨hb, hz' b hb hz⟩]; exact e)).z
    refine ts _ _ A s₄ Z' _ _ hA x₄.inv H₄ fun Z₅ s₅ x₅ => ?_
    have H₅ := (FS C env nm oc sc X ρ' [(D, ys ++ (xs.take i).flatMap g)] (holdK κ fp Z' h₃)).stable x₄.inv H₄ x₅
    cases b with
    | true =>
      rw [if_pos rfl]
      refine wpAny_bind (em1 rfl A s₅ Z₅ _ _ _ _ hA x₅.inv H₅ ?_ fun _ Z₆ s₆ x₆ H₆ => wpAny_pure (.inl ⟨rfl, fin Z₆ s₆ ((Step.to x₅).trans x₆) H₆⟩))
      rw [List.append_assoc, ← take1]; exact hpre _
    | false =>
      rw [if_neg (by decide)]
      refine wpAny_pure (.inl ⟨rfl, fin Z₅ s₅ (Step.to x₅) ?_⟩)
      rw [em0 rfl, List.append_nil]; exact H₅
  · have hin : i = xs.length := Nat.le_antisymm hi hge
    subst hin
    refine W.done s' _ _ (by rw [List.length_map]; exact st') fun h₂ tk₂ hk₂ => ?_
    obtain ⟨x₂, H₂⟩ := FSp.beside (t := tk₂) x'.inv H' (hBwr _) hwZ' hk₂
    rw [List.take_length] at H₂
    exact wpAny_pure (hR Z' _ (x'.trans x₂) H₂)
end
section
variable {C : Cx} {n : Nat} {X : Addr → Prop} {Z Z' : Fz} {s s' : Shared} {env : Env} {nm oc : List Str} {sc : List (Str × NameKind)} {ω ω' : List (Addr × List PV)} {κ : Addr → Option Obj} {A : Around} {E : Value → Shared → Prop} {ρ : List (Option Vp)} {D : Addr}
theorem comp_start {prog : Program} {w : World} {elt target iter : Expr} {ifs : List Expr} {gens : List Comprehension} {scope : Scope} {pos : Pos} {k : Nat} {it acc : Value} {R : Result → Shared → Prop} (hg : gens[k]? = some ⟨target, iter, ifs, 0⟩)
    (hself : ∀ (Q : Value → Shared → Prop) (E : Value → Shared → Prop), Q it s → wpAny (model prog w) A (pyIter it) Q E s)
    (h : codeAny (model prog w) A (.compLoop (.ListComp elt gens scope pos) k it acc env) R s) : codeAny (model prog w) A (.compStart (.ListComp elt gens scope pos) k it acc env) R s := by
  refine codeAny_of_tree ?_
  show wpAny _ A ((compStart (.ListComp elt gens scope pos) k it acc env).onRaise (fun x => do noteFrame x env; standAt theWindowsPlace)) _ _ s
  refine wpAny_notedAt ?_
  have hc : (clausesOf (.ListComp elt gens scope pos))[k]? = some ⟨target, iter, ifs, 0⟩ := hg
  unfold compStart
  simp only [hc]
  show wpAny _ A (ask >>= _) _ _ s
  refine wpAny_bind (wpAny_askSetting (wpAny_ite ?_))
  split
  · first
      | exact wpAny_bind (wpAny_pure (wpAny_pure (And.intro rfl h)))
      | exact wpAny_pure (And.intro rfl h)
  · exact wpAny_bind (wpAny_rule (wpAny_bind (wpAny_standAt (wpAny_bind (hself _ _ (wpAny_pure (And.intro rfl h)))))))
theorem em_deep {α β : Type} {elt target iter target' iter' : Expr} {ifs ifs' : List Expr} {gens : List Comprehension} {scope : Scope} {pos : Pos} {k : Nat} {t : ∀ J : Addr, Sem β} {xs : List α} {f : α → PV} {g : α → List PV}
    (hg : gens[k + 1]? = some ⟨target', iter', ifs', 0⟩)
    (ht : ∀ J, compTurn (.ListComp elt gens scope pos) (k + 1) (.ref J) (.ref D) env = (standAt iter'.pos >>= fun _ => pyNext (.ref J) >>= fun r => match r with
      | none => pure (.done .next)
      | some v => letOwnedTupleGo target' (.ref J) v >>= fun _ => assign target' env v >>= fun _ =>
        (forIn ifs' true fun c r => if r = true then do let ok ← isTrue c env (eval c env); pure (ForInStep.yield ok) else pure (ForInStep.yield r)) >>= fun ok =>
        if ok = true then t J >>= fun _ => again (.compLoop (.ListComp elt gens scope pos) (k + 1) (.ref J) (.ref D) env)
        else again (.compLoop (.ListComp elt gens scope pos) (k + 1) (.ref J) (.ref D) env)))
    (hit : ∀ ys κ, IT C n (FS C env nm oc sc X ρ [(D, ys)] κ) iter' env target' (xs.map f)) (step : ∀ J, ∀ x ∈ xs, Clause C n X env nm oc sc D ρ target' ifs' (t J) (f x) (g x))
    (hs : ∀ x, foldedSetIterable iter' env x = pure x := by intro _; rfl) :
    Emits C n X env nm oc sc D ρ (deepT (.ListComp elt gens scope pos) iter' k (.ref D) env) (xs.flatMap g) := fun A s Z Q E ys κ hA I H hsz kk => by
  unfold deepT
  refine wpAny_bind (wpAny_mono (hit ys κ A s Z (fun it s₂ => wpAny (model C.prog C.w) A (runOwn (.compStart (.ListComp elt gens scope pos) (k + 1) it (.ref D) env) env) Q E s₂) E hA I H fun J Z₁ s₁ x₁ T => ?_) (fun v s₁ h => ?_) fun _ _ e => e)
  · refine wpAny_runOwn ?_
    have T' := T
    obtain ⟨fp, wr, P, Md, St, W, st0, hwZ, hfp, hob, hItm, hself⟩ := T'
    refine comp_start hg (fun Q E q => hself A 0 s₁ Q E hA.handled st0 q) ?_
    have H₁ := (FS C env nm oc sc X ρ [(D, ys)] κ).stable I H x₁
    refine comp_loop (ht J) (step J) hA x₁.inv H₁ T (fun b hb _ => Beside.of I H hb) hsz fun Z₂ s₂ x₂ H₂ => ?_
    exact kk .next Z₂ s₂ ((Step.to x₁).trans x₂) H₂
  · exact wpAny_bind (wpAny_standAt (wpAny_bind (wpAny_of_eq (hs v) (wpAny_bind (wpAny_holding h)))))
end
theorem cells_new : ∀ (names : List (Str × NameKind)) (h : Heap) (acc : List (Str × Addr)) (x : Str) (c : Addr), (x, c) ∈ cellsFrom h.objs.size names acc → (x, c) ∈ acc ∨ (h.objs.size ≤ c ∧ (pushCells h names).IsCell c none ∧ (x, NameKind.cell) ∈ names)
  | [], _, _, _, _, hm => .inl hm
  | (y, kd) :: r, h, acc, x, c, hm => by
    unfold cellsFrom at hm
    unfold pushCells
    by_cases hk : (kd == NameKind.cell) = true
    · rw [if_pos hk] at hm ⊢
      have hs : (h.push { cls := .type "cell", data := .cell none }).objs.size = h.objs.size + 1 := Heap.size_push ..
      rw [← hs] at hm
      rcases cells_new r (h.push { cls := .type "cell", data := .cell none }) _ x c hm with e | ⟨e1, e2, e3⟩
      · rcases List.mem_cons.mp e with e | e
        · cases e
          refine .inr ⟨Nat.le_refl _, ⟨_, pushCells_keeps _ _ _ _ (Heap.get?_push_size _ rfl), rfl⟩, ?_⟩
          rw [beq_iff_eq.mp hk]; exact .head _
        · exact .inl e
      · rw [hs] at e1
        exact .inr ⟨by lia, e2, .tail _ e3⟩
    · rw [if_neg hk] at hm ⊢
      rcases cells_new r h acc x c hm with e | ⟨e1, e2, e3⟩
      · exact .inl e
      · exact .inr ⟨e1, e2, .tail _ e3⟩
theorem cells_apart : ∀ (names : List (Str × NameKind)) (k : Nat) (acc : List (Str × Addr)), acc.Pairwise (fun x y => x.2 ≠ y.2) → (∀ p ∈ acc, p.2 < k) → (cellsFrom k names acc).Pairwise fun x y => x.2 ≠ y.2
  | [], _, _, hp, _ => hp
  | (y, kd) :: r, k, acc, hp, hl => by
    unfold cellsFrom
    split
    · refine cells_apart r (k + 1) _ (List.pairwise_cons.mpr ⟨fun p hq q => ?_, hp⟩) fun p hq => ?_
      · have := hl p hq; rw [← q] at this; exact Nat.lt_irrefl _ this
      · rcases List.mem_cons.mp hq with rfl | hq
        · exact Nat.lt_succ_self _
        · exact Nat.lt_succ_of_lt (hl p hq)
    · exact cells_apart r k acc hp hl
theorem cells_acc {x : Str} : ∀ (names : List (Str × NameKind)) (k : Nat) (acc : List (Str × Addr)), (∀ kd, (x, kd) ∈ names → kd ≠ .cell) → (cellsFrom k names acc).lookup x = acc.lookup x
  | [], _, _, _ => rfl
  | (y, kd) :: r, k, acc, h => by
    unfold cellsFrom
    split
    · rename_i hk
      rw [cells_acc r _ _ fun kd hm => h kd (.tail _ hm), List.lookup_cons]
      have : (x == y) = false := by
        cases q : x == y with
        | false => rfl
        | true => rw [beq_iff_eq.mp q] at h; exact absurd (beq_iff_eq.mp hk) (h kd (.head _))
      rw [this]
    · exact cells_acc r _ _ fun kd hm => h kd (.tail _ hm)
theorem closure_go {env : Env} : ∀ (names : List (Str × NameKind)) (acc : List (Str × Addr)), (∀ x, (x, NameKind.free) ∈ names → ∃ c, env.cells.lookup x = some c) →
    ∃ cl, (forIn names acc (fun (x : Str × NameKind) r => if (x.2 == .free) = true then cellOf env x.1 >>= fun c => pure (ForInStep.yield ((x.1, c) :: r)) else pure (ForInStep.yield r)) : Sem (List (Str × Addr))) = pure cl ∧
      (∀ x c, (x, c) ∈ cl → (x, c) ∈ acc ∨ ((x, NameKind.free) ∈ names ∧ env.cells.lookup x = some c)) ∧ (∀ x, ((x, NameKind.free) ∈ names ∨ (∃ c, (x, c) ∈ acc)) → ∃ c, (x, c) ∈ cl) ∧
      ((∀ p ∈ acc, ∀ q ∈ names, p.1 ≠ q.1) → (names.map (·.1)).Nodup → acc.Pairwise (fun x y => x.1 ≠ y.1) → cl.Pairwise fun x y => x.1 ≠ y.1)
  | [], acc, _ => ⟨acc, rfl, fun _ _ h => .inl h, fun x h => h.elim (fun h => nomatch h) id, fun _ _ h => h⟩
  | (y, kd) :: r, acc, h => by
    by_cases hk : (kd == NameKind.free) = true
    · have hkf : kd = .free := beq_iff_eq.mp hk
      subst hkf
      obtain ⟨c, hc⟩ := h y (.head _)
      obtain ⟨cl, e, m1, m2, m3⟩ := closure_go r ((y, c) :: acc) fun x hx => h x (.tail _ hx)
      refine ⟨cl, ?_, fun x c' hm => ?_, fun x hx => m2 x ?_, fun ha nd hp => m3 (fun p hp' q hq => ?_) (List.nodup_cons.mp nd).2 (List.pairwise_cons.mpr ⟨fun p hp' => ha p hp' (y, .free) (.head _) |>.symm, hp⟩)⟩
      · rw [List.forIn_cons]
        simp only [beq_self_eq_true, if_true]
        unfold cellOf
        rw [hc]
        exact e
      · rcases m1 x c' hm with h1 | ⟨h1, h2⟩
        · rcases List.mem_cons.mp h1 with q | h1
          · cases q; exact .inr ⟨.head _, hc⟩
          · exact .inl h1
        · exact .inr ⟨.tail _ h1, h2⟩
      · rcases hx with hx | ⟨c', hx⟩
        · rcases List.mem_cons.mp hx with q | hx
          · cases q; exact .inr ⟨c, .head _⟩
          · exact .inl hx
        · exact .inr ⟨c', .tail _ hx⟩
      · rcases List.mem_cons.mp hp' with rfl | hp'
        · exact fun e => (List.nodup_cons.mp nd).1 (List.mem_map.mpr ⟨q, hq, e.symm⟩)
        · exact ha p hp' q (.tail _ hq)
    · obtain ⟨cl, e, m1, m2, m3⟩ := closure_go r acc fun x hx => h x (.tail _ hx)
      refine ⟨cl, ?_, fun x c' hm => ?_, fun x hx => m2 x ?_, fun ha nd hp => m3 (fun p hp' q hq => ha p hp' q (.tail _ hq)) (List.nodup_cons.mp nd).2 hp⟩
      · rw [List.forIn_cons]
        simp only [hk, if_false]
        exact e
      · exact (m1 x c' hm).imp id fun ⟨h1, h2⟩ => ⟨.tail _ h1, h2⟩
      · refine hx.imp (fun hx => ?_) id
        rcases List.mem_cons.mp hx with q | hx
        · cases q; exact absurd rfl hk
        · exact hx
theorem closure_ok {env : Env} {scope : Scope} (h : ∀ x, (x, NameKind.free) ∈ scope.names → ∃ c, env.cells.lookup x = some c) (nd : (scope.names.map (·.1)).Nodup) :
    ∃ cl, closureFor scope env = pure cl ∧ (∀ x c, (x, c) ∈ cl → (x, NameKind.free) ∈ scope.names ∧ env.cells.lookup x = some c) ∧ (∀ x, (x, NameKind.free) ∈ scope.names → ∃ c, (x, c) ∈ cl) ∧ cl.Pairwise fun x y => x.1 ≠ y.1 := by
  obtain ⟨cl, e, m1, m2, m3⟩ := closure_go (env := env) scope.names [] h
  refine ⟨cl, ?_, fun x c hm => (m1 x c hm).elim (fun h => nomatch h) id, fun x hx => m2 x (.inl hx), m3 (fun _ h => nomatch h) nd .nil⟩
  unfold closureFor
  simp only [bind_pure]
  exact e
noncomputable def relN (names sc : List (Str × NameKind)) : List (Str × NameKind) := names.map fun (n, k) => if (k == .free && sc.lookup n == some .cell) then (n, .cell) else (n, k)
noncomputable def isCK (k : Option NameKind) : Bool := k == some .cell || k == some .free
inductive FreeR (nm : List Str) (ρ : List (Option Vp)) (sc sc' : List (Str × NameKind)) : List (Str × NameKind) → List Str → List (Option Vp) → Prop where
  | nil : FreeR nm ρ sc sc' [] [] []
  | own {x : Str} {k : NameKind} {r : List (Str × NameKind)} {nm' : List Str} {ρ' : List (Option Vp)} (h : (k == .free) = false) (t : FreeR nm ρ sc sc' r nm' ρ') : FreeR nm ρ sc sc' ((x, k) :: r) (x :: nm') (none :: ρ')
  | free {x : Str} {P : Vp} {r : List (Str × NameKind)} {nm' : List Str} {ρ' : List (Option Vp)} (a : At nm ρ x P) (h1 : isCK (sc.lookup x) = true) (h2 : isCK (sc'.lookup x) = true) (t : FreeR nm ρ sc sc' r nm' ρ') :
      FreeR nm ρ sc sc' ((x, .free) :: r) (x :: nm') (some P :: ρ')
theorem isCK_or {k : Option NameKind} (h : isCK k = true) : k = some .cell ∨ k = some .free := by
  simp only [isCK, Bool.or_eq_true, beq_iff_eq] at h; exact h
section
variable {C : Cx} {n : Nat} {X : Addr → Prop} {Z Z' : Fz} {s s' : Shared} {env : Env} {nm oc : List Str} {sc : List (Str × NameKind)} {ω ω' : List (Addr × List PV)} {κ : Addr → Option Obj} {A : Around} {E : Value → Shared → Prop} {ρ : List (Option Vp)} {D : Addr}
theorem VarAt.cell {h : Heap} {x : Str} {v : Value} (hn : env.scope.names = sc) (hk : isCK (sc.lookup x) = true) (y : VarAt env h x v) : ∃ c, env.cells.lookup x = some c ∧ h.IsCell c (some v) := by
  obtain ⟨_, ⟨hl, _⟩ | ⟨_, c, hc, hv⟩⟩ := y
  · have : env.kindOf x = sc.lookup x := by rw [← hn]; rfl
    rw [this] at hl
    rcases isCK_or hk with q | q <;> rw [q] at hl <;> cases hl
  · exact ⟨c, hc, hv⟩
theorem FreeR.cells {sc' names : List (Str × NameKind)} {nm' : List Str} {ρ' : List (Option Vp)} {h : Heap} (hn : env.scope.names = sc) (hv : Vars env Z h nm ρ) (F : FreeR nm ρ sc sc' names nm' ρ') (x : Str) (hx : (x, NameKind.free) ∈ names) : ∃ c, env.cells.lookup x = some c := by
  induction F with
  | nil => exact nomatch hx
  | own hk _ ih =>
    rcases List.mem_cons.mp hx with q | hx
    · cases q; cases hk
    · exact ih hx
  | free a h1 h2 _ ih =>
    rcases List.mem_cons.mp hx with q | hx
    · cases q
      obtain ⟨v, hva, _⟩ := a.var hv
      exact (hva.cell hn h1).imp fun c e => e.1
    · exact ih hx
theorem FreeR.vars {sc' names : List (Str × NameKind)} {nm' : List Str} {ρ' : List (Option Vp)} {h h' : Heap} {cenv : Env} (hn : env.scope.names = sc) (hn' : cenv.scope.names = sc') (hv : Vars env Z h nm ρ)
    (hc : ∀ x c, (x, NameKind.free) ∈ names → env.cells.lookup x = some c → cenv.cells.lookup x = some c) (hk : ∀ c v, h.IsCell c v → h'.IsCell c v) (F : FreeR nm ρ sc sc' names nm' ρ') : Vars cenv Z h' nm' ρ' := by
  induction F with
  | nil => exact .nil
  | own _ _ ih => exact .un (ih fun x c hx => hc x c (.tail _ hx))
  | @free x _ _ _ _ a h1 h2 _ ih =>
    obtain ⟨v, hva, hp⟩ := a.var hv
    obtain ⟨c, hcx, hcv⟩ := hva.cell hn h1
    have hke : cenv.kindOf x = sc'.lookup x := by rw [← hn']; rfl
    exact .va ⟨hva.1, .inr ⟨by rw [hke]; exact isCK_or h2, c, hc x c (.head _) hcx, hk c _ hcv⟩⟩ hp (ih fun x c hx => hc x c (.tail _ hx))
theorem Turns.keeps {target : Expr} {J : Addr} {ds : List PV} {h h' : Heap} {new : Addr → Prop} (k : ∀ b o, h.get? b = some o → h'.get? b = some o) (T : Turns C target J ds Z h new) : Turns C target J ds Z h' (fun b => new b ∧ ∃ o, h.get? b = some o) := by
  obtain ⟨fp, wr, P, Md, St, W, st0, hwZ, hfp, hob, hItm, hself⟩ := T
  refine ⟨fp, wr, P, Md, St, W, (W { depth := 0, handled := none, units := 0 } rfl).frame _ _ _ st0 fun b _ o e => k b o e, hwZ, fun b hb => (hfp b hb).imp id fun ⟨h1, h2⟩ => ⟨⟨h1, ?_⟩, h2⟩, hob, hItm, hself⟩
  obtain ⟨o, e, _⟩ := hob 0 h st0 b hb
  exact ⟨o, e⟩
theorem new_comp_env {M : Model} {scope : Scope} {globals : Addr} {cl : List (Str × Addr)} {qual : Str} {outer : Env} {Q : Env → Shared → Prop}
    (hQ : ∀ e : Env, e = { scope, locals := s.heap.objs.size, globals, cells := cellsFrom (s.heap.objs.size + 1) scope.names cl, qual, func := none, code := outer.code, frame := outer.frame, builtins := outer.builtins } →
      Q e { s with heap := pushCells (s.heap.push { cls := .type "dict", data := .dict #[] }) scope.names }) : wpAny M A (newFunctionEnv scope globals cl [] qual none .none (some outer)) Q E s := by
  simp only [newFunctionEnv, Option.isSome_some, if_true]
  refine wpAny_bind (wpAny_alloc ?_)
  refine wpAny_bind (wpAny_layCells _ (fun name kind cells => by cases hkc : kind == NameKind.cell <;> simp [hkc]) _ _ _ _ ?_)
  rw [show ({ s with heap := s.heap.push { cls := .type "dict", data := .dict #[] } } : Shared).heap.objs.size = s.heap.objs.size + 1 from Heap.size_push ..]
  exact wpAny_bind (wpAny_pure (wpAny_pure (hQ _ rfl)))
theorem Rfz.refl {a : Addr} {ds : List PV} : ∀ {ρ : List (Option Vp)}, Rfz a ds ρ ρ
  | [] => .nil
  | _ :: _ => .same Rfz.refl
theorem lookup_of_nodup {α : Type} {k : α} : ∀ {names : List (Str × α)} {x : Str}, (names.map (·.1)).Nodup → (x, k) ∈ names → names.lookup x = some k
  | (y, k') :: r, x, nd, hm => by
    rw [List.lookup_cons]
    rcases List.mem_cons.mp hm with q | hm
    · cases q; simp
    · have hne : (x == y) = false := by
        cases q : x == y with
        | false => rfl
        | true => exact absurd (List.mem_map.mpr ⟨_, hm, beq_iff_eq.mp q⟩) (List.nodup_cons.mp nd).1
      rw [hne]; exact lookup_of_nodup (List.nodup_cons.mp nd).2 hm
theorem relN_lookup {sc : List (Str × NameKind)} {x : Str} : ∀ {names : List (Str × NameKind)}, (relN names sc).lookup x = some .cell → names.lookup x = some .cell ∨ names.lookup x = some .free
  | [], h => by simp [relN] at h
  | (y, k) :: r, h => by
    have e : relN ((y, k) :: r) sc = (if (k == .free && sc.lookup y == some .cell) then (y, .cell) else (y, k)) :: relN r sc := rfl
    rw [e] at h
    rw [List.lookup_cons]
    cases q : x == y with
    | true =>
      by_cases hc : (k == NameKind.free && sc.lookup y == some .cell) = true
      · rw [if_pos hc] at h
        simp only [Bool.and_eq_true, beq_iff_eq] at hc
        right; rw [hc.1]
      · rw [if_neg hc, List.lookup_cons, q] at h; left; exact h
    | false =>
      have h' : (relN r sc).lookup x = some .cell := by
        by_cases hc : (k == NameKind.free && sc.lookup y == some .cell) = true
        · rw [if_pos hc, List.lookup_cons, q] at h; exact h
        · rw [if_neg hc, List.lookup_cons, q] at h; exact h
      exact relN_lookup h'
theorem comp_run {α β : Type} {elt target iter : Expr} {ifs : List Expr} {gens : List Comprehension} {scope : Scope} {pos pos' : Pos} {t : Env → Addr → Addr → Sem β} {xs : List α} {f : α → PV} {g : α → List PV} {sc' : List (Str × NameKind)} {nm' oc' : List Str} {ρ' : List (Option Vp)}
    {use : Option (Value → Sem Unit)} {Q : Value → Shared → Prop}
    (hit : IT C n (FS C env nm oc sc X ρ ω κ) iter env target (xs.map f)) (hsc' : relN scope.names sc = sc') (hfr : FreeR nm ρ sc sc' scope.names nm' ρ') (hkind : scope.kind = .function) (hnd : (scope.names.map (·.1)).Nodup) (hnm' : nm' = scope.names.map (·.1))
    (hoc : oc'.all (fun x => scope.names.lookup x != some .free) = true)
    (ht : ∀ cenv D J, compTurn (.ListComp elt (⟨target, iter, ifs, 0⟩ :: gens) scope pos) 0 (.ref J) (.ref D) cenv = (standAt iter.pos >>= fun _ => pyNext (.ref J) >>= fun r => match r with
      | none => pure (.done .next)
      | some v => letOwnedTupleGo target (.ref J) v >>= fun _ => assign target cenv v >>= fun _ =>
        (forIn ifs true fun c r => if r = true then do let ok ← isTrue c cenv (eval c cenv); pure (ForInStep.yield ok) else pure (ForInStep.yield r)) >>= fun ok =>
        if ok = true then t cenv D J >>= fun _ => again (.compLoop (.ListComp elt (⟨target, iter, ifs, 0⟩ :: gens) scope pos) 0 (.ref J) (.ref D) cenv)
        else again (.compLoop (.ListComp elt (⟨target, iter, ifs, 0⟩ :: gens) scope pos) 0 (.ref J) (.ref D) cenv)))
    (step : ∀ cenv D J X', ∀ x ∈ xs, Clause C n X' cenv nm' oc' sc' D ρ' target ifs (t cenv D J) (f x) (g x)) (hsz : (xs.flatMap g).length ≤ sizeLine)
    (hA : Room n A) (I : Inv C Z s) (H : FSp env nm oc sc X ρ ω κ Z s.heap)
    (K : ∀ D c m Z' s', Step C Z s Z' s' → s.heap.get? c = none → Z' c = none → s'.heap.Ns c m → Rd Z' (.ref D) (.list (xs.flatMap g)) → compPost (model C.prog C.w) A E use Q (.ref D) c (.ok .next) s')
    (hs : ∀ x, foldedSetIterable iter env x = pure x := by intro _; rfl) :
    wpAny (model C.prog C.w) A (comprehension (.ListComp elt (⟨target, iter, ifs, 0⟩ :: gens) scope pos) scope env pos' (newList []) false (eval iter env) use) Q E s := by
  subst hnm'
  obtain ⟨cl, hcl, cl1, cl2, cl3⟩ := closure_ok (scope := scope) (hfr.cells H.names H.vars) hnd
  refine wpAny_comprehension_free (g := ⟨target, iter, ifs, 0⟩) (gs := gens) rfl hs hcl hkind (fun x hx hl => lookup_of_nodup hnd (hl ▸ hx)) ?_
  refine hit A s Z _ E hA I H fun J Z₁ s₂ x₁ T => ?_
  refine wpAny_newObj_type ?_ (Nat.zero_le _)
  generalize hH2 : s₂.heap.push { cls := .type "list", dict := none, data := .seq ([] : List Value).toArray } = H2
  have hz2 : H2.objs.size = s₂.heap.objs.size + 1 := by rw [← hH2]; exact Heap.size_push ..
  refine new_comp_env fun e he => ?_
  generalize hH4 : pushCells (H2.push { cls := .type "dict", data := .dict #[] }) scope.names = H4
  have hz3 : (H2.push { cls := .type "dict", data := .dict #[] }).objs.size = H2.objs.size + 1 := Heap.size_push ..
  have keep : ∀ b o, s₂.heap.get? b = some o → H4.get? b = some o := fun b o e => by
    rw [← hH4]; exact pushCells_keeps _ _ _ _ (Heap.get?_push_of_some _ (by rw [← hH2]; exact Heap.get?_push_of_some _ e))
  have none2 : ∀ a, s₂.heap.objs.size ≤ a → s.heap.get? a = none := fun a ha => (x₁.gone (gAb ha)).elim id fun q => q.elim
  have st4 : Step C Z₁ s₂ Z₁ { s₂ with heap := H4 } := .keeps (t := s₂.toks) x₁.inv keep
  have H₁ := (FS C env nm oc sc X ρ ω κ).stable I H x₁
  have hDl : H4.get? s₂.heap.objs.size = some { cls := .type "list", data := .seq ([] : List Value).toArray 0 } := by
    rw [← hH4]; exact pushCells_keeps _ _ _ _ (Heap.get?_push_of_some _ (by rw [← hH2]; exact Heap.get?_push_size _ rfl))
  have hNs : H4.Ns H2.objs.size fun _ => none := by rw [← hH4]; exact (Heap.Ns.new H2 (.type "dict")).keeps (pushCells_keeps _ _)
  have hcells : ∀ x c, (cellsFrom (H2.objs.size + 1) scope.names cl).lookup x = some c → ((x, NameKind.free) ∈ scope.names ∧ env.cells.lookup x = some c) ∨ (H2.objs.size + 1 ≤ c ∧ H4.IsCell c none ∧ (x, NameKind.cell) ∈ scope.names) := fun x c hc => by
    have hm := mem_of_lookup hc
    rw [← hz3] at hm
    rcases cells_new scope.names (H2.push { cls := .type "dict", data := .dict #[] }) cl x c hm with h | ⟨h1, h2, h3⟩
    · exact .inl (cl1 x c h)
    · rw [hz3] at h1; rw [hH4] at h2; exact .inr ⟨h1, h2, h3⟩
  have hcl3 : cl.Pairwise fun x y => x.2 ≠ y.2 := by
    refine List.Pairwise.imp_of_mem (fun {a b} ha hb hne q => hne ?_) cl3
    exact name_of_addr H.apart (mem_of_lookup (cl1 a.1 a.2 ha).2) (q ▸ mem_of_lookup (cl1 b.1 b.2 hb).2)
  have hlt : ∀ p ∈ cl, p.2 < H2.objs.size + 1 := fun p hp => by
    obtain ⟨_, v, o, e, _⟩ := H₁.cells _ _ (cl1 p.1 p.2 hp).2
    exact Nat.lt_of_lt_of_le (Heap.lt_size e) (by lia)
  have HC : FSp { e with scope := relabel scope env } (scope.names.map (·.1)) oc' sc' (fun a => s.heap.get? a = none) ρ' [(s₂.heap.objs.size, [])] (fun _ => none) Z₁ H4 := by
    subst he
    have hrel : (relabel scope env).names = sc' := by
      rw [← hsc']
      show scope.names.map _ = scope.names.map _
      refine List.map_congr_left fun p _ => ?_
      obtain ⟨x, k⟩ := p
      have e1 : env.kindOf x = sc.lookup x := by rw [← H.names]; rfl
      have e2 : (env.scope.kind == ScopeKind.function) = true := by rw [H.fn]; rfl
      simp only [e1, e2, Bool.and_true]
    refine ⟨hrel, H.gl, H.bl, fun x hx hk => ?_, hkind, hnd, ?_, ⟨_, hNs⟩, none2 H2.objs.size (by lia), ?_, fun x c hc => ?_, fun x hx c hc => ?_, fun a ha => ?_, ?_, fun p hp => ?_, fun p hp => ?_, ?_, (fun _ _ h => nomatch h), fun _ _ h => nomatch h⟩
    · rw [← hsc'] at hk
      have hx' := List.all_eq_true.mp hoc x hx
      rcases relN_lookup hk with q | q
      · obtain ⟨c, hc⟩ := cellsFrom_mem scope.names (H2.objs.size + 1) cl x (.inl (mem_of_lookup q))
        exact lookup_of_mem hc
      · rw [q] at hx'; simp at hx'
    · exact cells_apart _ _ _ hcl3 hlt
    · show Z₁ H2.objs.size = none
      exact x₁.inv.fresh (gAb (by lia))
    · rcases hcells x c hc with ⟨_, h⟩ | ⟨h1, h2, _⟩
      · obtain ⟨hz, v, o, e, d⟩ := H₁.cells x c h
        exact ⟨hz, v, o, keep _ _ e, d⟩
      · exact ⟨x₁.inv.fresh (gAb (by lia)), _, h2⟩
    · rcases hcells x c hc with ⟨h, _⟩ | ⟨h1, _, _⟩
      · have hx' := List.all_eq_true.mp hoc x hx
        rw [lookup_of_nodup hnd h] at hx'; simp at hx'
      · exact none2 _ (by lia)
    · exact (x₁.gone ((st4.gone ha).elim id fun q => q.elim)).elim id fun q => q.elim
    · refine hfr.vars H.names hrel H₁.vars (fun x c hx hc => ?_) fun c v ⟨o, e, d⟩ => ⟨o, keep _ _ e, d⟩
      show (cellsFrom (H2.objs.size + 1) scope.names cl).lookup x = some c
      rw [cells_acc scope.names _ _ fun kd hm q => ?_]
      · obtain ⟨c', hc'⟩ := cl2 x hx
        have : cl.lookup x = some c' := by
          obtain ⟨c'', h''⟩ := Option.isSome_iff_exists.mp (lookup_of_mem hc')
          have e1 := (cl1 x c' hc').2
          have e2 := (cl1 x c'' (mem_of_lookup h'')).2
          rw [e1] at e2; cases e2; exact h''
        rw [this, ← (cl1 x c' hc').2, hc]
      · have := lookup_of_nodup hnd hm
        rw [lookup_of_nodup hnd hx, q] at this; cases this
    · rw [List.mem_singleton.mp hp]
      exact ⟨x₁.inv.fresh (gAb (Nat.le_refl _)), [], 0, hDl, .nil⟩
    · rw [List.mem_singleton.mp hp]; exact none2 _ (Nat.le_refl _)
    · simp
  have T' := T.keeps keep
  have Ts := T'
  obtain ⟨fp, wr, P, Md, St, W, st0, hwZ, hfp, hob, hItm, hself⟩ := Ts
  refine comp_start (target := target) (iter := iter) (ifs := ifs) rfl (fun Q E q => hself A 0 _ Q E hA.handled st0 q) ?_
  refine comp_loop (ys := []) (s := { s₂ with heap := H4 }) (ht _ _ _) (step _ _ _ _) hA st4.inv HC T' (fun b hb hz => ?_) (by simpa using hsz) fun Z' s' x' H' => ?_
  · obtain ⟨hb1, o, hb2⟩ := hb
    have hbl := Heap.lt_size hb2
    have ne : ∀ c o, s.heap.get? c = some o → b ≠ c := fun c o e q => by rw [q, e] at hb1; cases hb1
    refine ⟨hb1, ?_, fun x c hc => ?_, fun p hp => ?_, rfl, fun t ht => ?_⟩
    · rw [he]; show b ≠ H2.objs.size; exact Nat.ne_of_lt (Nat.lt_of_lt_of_le hbl (by lia))
    · rw [he] at hc
      rcases hcells x c hc with ⟨_, h⟩ | ⟨h1, _, _⟩
      · obtain ⟨_, v, o, e, _⟩ := H.cells x c h; exact ne _ _ e
      · exact Nat.ne_of_lt (Nat.lt_of_lt_of_le hbl (Nat.le_trans (by lia) h1))
    · rw [List.mem_singleton.mp hp]; show b ≠ s₂.heap.objs.size; exact Nat.ne_of_lt hbl
    · obtain ⟨ps, e, _⟩ := I.tabs t ht; exact ne _ _ e
  · rw [List.nil_append] at H'
    obtain ⟨Z'', st'', H'', hd⟩ := H'.freeze x'.inv .here Rfz.refl
    obtain ⟨m, hn⟩ := H''.loc
    refine K s₂.heap.objs.size e.locals m Z'' s' ?_ ?_ H''.locZ hn hd
    · exact StepX.over (x₁.trans st4) (x'.trans st'') fun b hb => hb
    · rw [he]; exact none2 _ (by show s₂.heap.objs.size ≤ H2.objs.size; lia)
end
structure CompOk {α β : Type} (C : Cx) (n : Nat) (X : Addr → Prop) (env : Env) (nm oc : List Str) (sc : List (Str × NameKind)) (ρ : List (Option Vp)) (ω : List (Addr × List PV)) (κ : Addr → Option Obj)
    (elt target iter : Expr) (ifs : List Expr) (gens : List Comprehension) (scope : Scope) (pos : Pos) (t : Env → Addr → Addr → Sem β) (xs : List α) (f : α → PV) (g : α → List PV) (sc' : List (Str × NameKind)) (nm' oc' : List Str) (ρ' : List (Option Vp)) : Prop where
  hit : IT C n (FS C env nm oc sc X ρ ω κ) iter env target (xs.map f)
  hsc' : relN scope.names sc = sc'
  hfr : FreeR nm ρ sc sc' scope.names nm' ρ'
  hkind : scope.kind = .function
  hnd : (scope.names.map (·.1)).Nodup
  hnm' : nm' = scope.names.map (·.1)
  hoc : oc'.all (fun x => scope.names.lookup x != some .free) = true
  ht : ∀ cenv D J, compTurn (.ListComp elt (⟨target, iter, ifs, 0⟩ :: gens) scope pos) 0 (.ref J) (.ref D) cenv = (standAt iter.pos >>= fun _ => pyNext (.ref J) >>= fun r => match r with
      | none => pure (.done .next)
      | some v => letOwnedTupleGo target (.ref J) v >>= fun _ => assign target cenv v >>= fun _ =>
        (forIn ifs true fun c r => if r = true then do let ok ← isTrue c cenv (eval c cenv); pure (ForInStep.yield ok) else pure (ForInStep.yield r)) >>= fun ok =>
        if ok = true then t cenv D J >>= fun _ => again (.compLoop (.ListComp elt (⟨target, iter, ifs, 0⟩ :: gens) scope pos) 0 (.ref J) (.ref D) cenv)
        else again (.compLoop (.ListComp elt (⟨target, iter, ifs, 0⟩ :: gens) scope pos) 0 (.ref J) (.ref D) cenv))
  step : ∀ cenv D J X', ∀ x ∈ xs, Clause C n X' cenv nm' oc' sc' D ρ' target ifs (t cenv D J) (f x) (g x)
  hsz : (xs.flatMap g).length ≤ sizeLine
  hs : ∀ x, foldedSetIterable iter env x = pure x
section
variable {C : Cx} {n : Nat} {X : Addr → Prop} {Z Z' : Fz} {s s' : Shared} {env : Env} {nm oc : List Str} {sc : List (Str × NameKind)} {ω ω' : List (Addr × List PV)} {κ : Addr → Option Obj} {A : Around} {E : Value → Shared → Prop} {ρ ρ₂ : List (Option Vp)} {D : Addr} {R : Vp}
variable {α β : Type} {elt target iter : Expr} {ifs : List Expr} {gens : List Comprehension} {scope : Scope} {pos pos' : Pos} {t : Env → Addr → Addr → Sem β} {xs : List α} {f : α → PV} {g : α → List PV} {sc' : List (Str × NameKind)} {nm' oc' : List Str} {ρ' : List (Option Vp)}
theorem ev_compG (O : CompOk C n X env nm oc sc ρ ω κ elt target iter ifs gens scope pos t xs f g sc' nm' oc' ρ') :
    EV C n (FS C env nm oc sc X ρ ω κ) (eval (.ListComp elt (⟨target, iter, ifs, 0⟩ :: gens) scope pos) env) (is (.list (xs.flatMap g))) := fun A s Z Q E hA I H k => by
  rw [eval_ListComp]
  show wpAny _ A (comprehension (.ListComp elt (⟨target, iter, ifs, 0⟩ :: gens) scope pos) scope env _ (newList []) false (eval iter env) none) Q E s
  refine comp_run O.hit O.hsc' O.hfr O.hkind O.hnd O.hnm' O.hoc O.ht O.step O.hsz hA I H (fun D c m Z' s' x hc hz hn hd => ⟨m, hn, fun h' hs' => ?_⟩) O.hs
  have st : StepX C (· = c) Z' s' Z' { s' with heap := h' } := .write (t := s'.toks) x.inv rfl hs' hz (x.inv.ns_notTab hn)
  exact k _ Z' _ (StepX.over x st fun b hb => hb ▸ hc) hd
theorem ex_assignC {x : Str} {xp spos : Pos} (hsw : swapsWith (.ListComp elt (⟨target, iter, ifs, 0⟩ :: gens) scope pos) (some (.Name x xp)) spos.line env = pure true)
    (O : CompOk C n X env nm oc sc ρ ω κ elt target iter ifs gens scope pos t xs f g sc' nm' oc' ρ') (hu : Upd nm ρ x (some (is (.list (xs.flatMap g)))) ρ₂) (pl : PlainName x) (hk : canSt sc oc x = true) :
    EX C n X (FS C env nm oc sc X ρ ω κ) (exec (.Assign [.Name x xp] (.ListComp elt (⟨target, iter, ifs, 0⟩ :: gens) scope pos) spos) env) (FS C env nm oc sc X ρ₂ ω κ) R := fun A s Z Q E hA I H k kr => by
  rw [exec_Assign_Name_used _ _ _ _ hsw]
  refine wpAny_bind (wpAny_standAt (wpAny_bind ?_))
  show wpAny _ A (do let _ ← comprehension (.ListComp elt (⟨target, iter, ifs, 0⟩ :: gens) scope pos) scope env _ (newList []) false (eval iter env) (some (assign (.Name x xp) env))) _ _ s
  refine wpAny_bind (wpAny_mono (comp_run (use := some (assign (.Name x xp) env)) (Q := fun _ s' => Q .next s') (E := E) O.hit O.hsc' O.hfr O.hkind O.hnd O.hnm' O.hoc O.ht O.step O.hsz hA I H (fun D c m Z' s' x' hc hz hn hd => ?_) O.hs) (fun _ s' hq => wpAny_pure (wpAny_pure hq)) fun _ _ e => e)
  have H' := (FS C env nm oc sc X ρ ω κ).stable I H x'
  have hB := Beside.of I H hc
  have hH : FSp env nm oc sc X ρ ω (holdK κ [c] Z' s'.heap) Z' s'.heap := FSp.hold (C := C) H' fun b hb _ => by
    rw [List.mem_singleton.mp hb]
    refine ⟨hB, fun o e ps q => ?_⟩
    obtain ⟨o', _, _, e', d, _⟩ := hn
    rw [e] at e'; cases e'; subst q; cases d
  show wpAny _ A (assign (.Name x xp) env (.ref D)) _ E s'
  refine assign_Name (st_name x'.inv hH hd hu pl hk fun s₂ x₂ H₂ => ?_)
  obtain ⟨o, es, ep, e, hd', hr⟩ := hn
  have e2 : s₂.heap.get? c = some o := (H₂.held c o (by rw [holdK, if_pos ⟨List.mem_singleton.mpr rfl, hz⟩]; exact e)).at_
  refine ⟨m, ⟨o, es, ep, e2, hd', hr⟩, fun h' hs' => ?_⟩
  have H₃ : FSp env nm oc sc X ρ₂ ω κ Z' s₂.heap := FSp.drop (fun b hb _ => by rw [List.mem_singleton.mp hb]; exact hB.held) H₂
  obtain ⟨x₃, H₄⟩ := FSp.beside (t := s₂.toks) (W := [c]) (h' := h') x₂.inv H₃ (fun b hb => by rw [List.mem_singleton.mp hb]; exact hB) (fun b hb => by rw [List.mem_singleton.mp hb]; exact hz)
    fun b o hb e => hs'.extBut b o (fun q => hb (by rw [q]; exact .head _)) e
  exact k Z' _ (((Step.to x').trans x₂).trans x₃) H₄
theorem flat_one {h : α → PV} : xs.flatMap (fun x => [h x]) = xs.map h := by
  induction xs with
  | nil => rfl
  | cons x xs ih => rw [List.flatMap_cons, ih]; rfl
theorem flat_if {h : α → PV} {p : α → Bool} : xs.flatMap (fun x => if p x then [h x] else []) = (xs.filter p).map h := by
  induction xs with
  | nil => rfl
  | cons x xs ih =>
    rw [List.flatMap_cons, ih, List.filter_cons]
    cases p x <;> rfl
end
def PI (C : Cx) (n : Nat) (P : Vp) (target : Expr) (ds : List PV) : Prop :=
  ∀ (A : Around) (s : Shared) (Z : Fz) (v : Value) (Q : Value → Shared → Prop) (E : Value → Shared → Prop), Room n A → Inv C Z s → P.at_ Z v →
    (∀ I Z' s', Step C Z s Z' s' → Turns C target I ds Z' s'.heap (fun b => s.heap.get? b = none) → Q (.ref I) s') → wpAny (model C.prog C.w) A (pyIter v) Q E s
def FI (C : Cx) (n : Nat) (f : Value) (Ps : List Vp) (target : Expr) (ds : List PV) : Prop :=
  ∀ (A : Around) (s : Shared) (Z : Fz) (vs : List Value) (Q : Value → Shared → Prop) (E : Value → Shared → Prop), Room n A → Inv C Z s → Sat Z vs Ps →
    (∀ I Z' s', Step C Z s Z' s' → Turns C target I ds Z' s'.heap (fun b => s.heap.get? b = none) → Q (.ref I) s') →
      wpAny (model C.prog C.w) A (call f vs) (fun x s₁ => wpAny (model C.prog C.w) A (pyIter x) Q E s₁) E s
section
variable {C : Cx} {n : Nat} {Φ : Asn C} {env : Env} {P R : Vp} {Ps : List Vp} {e iter target : Expr} {es args : List Expr} {pos p : Pos} {ds : List PV} {Z Z' : Fz} {s s' : Shared}
theorem Turns.new {J : Addr} {h : Heap} {new new' : Addr → Prop} (k : ∀ b, new b → new' b) (T : Turns C target J ds Z h new) : Turns C target J ds Z h new' := by
  obtain ⟨fp, wr, P, Md, St, W, st0, hwZ, hfp, r1, r2, r3⟩ := T
  exact ⟨fp, wr, P, Md, St, W, st0, hwZ, fun b hb => (hfp b hb).imp id fun ⟨h1, h2⟩ => ⟨k b h1, h2⟩, r1, r2, r3⟩
theorem Step.gone' (x : Step C Z s Z' s') {b : Addr} (h : s'.heap.get? b = none) : s.heap.get? b = none := (x.gone h).elim id fun q => q.elim
theorem it_ev (h : EV C n Φ (eval iter env) P) (hp : PI C n P target ds) : IT C n Φ iter env target ds := fun A s Z Q E hA I H k => by
  refine h A s Z _ E hA I H fun v Z₁ s₁ x₁ pv => ?_
  exact hp A s₁ Z₁ v Q E hA x₁.inv pv fun J Z₂ s₂ x₂ T => k J Z₂ s₂ (x₁.trans x₂) (T.new fun b hb => Step.gone' x₁ hb)
theorem it_callT {x : Str} {id : String} (hf : EV C n Φ (eval (.Name x p) env) (isv (.type id))) (ha : EL C n Φ (spliced (backTo pos (starEach (e :: es) env))) Ps) (hc : FI C n (.type id) Ps target ds)
    (he : starEach (e :: es) env = (false, eval e env) :: starEach es env := by rfl) (hp : (backTo pos (starEach es env)).any (·.1) = false := by rfl) :
    IT C n Φ (.Call (.Name x p) (e :: es) [] pos) env target ds := fun A s Z Q E hA I H k => by
  refine wpAny_Call_NameR (hf A s Z _ E hA I H fun v Z₁ s₁ x₁ pv => ?_)
  cases pv
  refine callWith_type1 (ha A s₁ Z₁ _ E hA x₁.inv (Φ.stable I H x₁) fun vs Z₂ s₂ x₂ hs => ?_) he hp
  exact hc A s₂ Z₂ vs Q E hA x₂.inv hs fun J Z₃ s₃ x₃ T => k J Z₃ s₃ ((x₁.trans x₂).trans x₃) (T.new fun b hb => Step.gone' (x₁.trans x₂) hb)
theorem letGo_plain {prog : Program} {w : World} {A : Around} {E : Value → Shared → Prop} {I : Addr} {o : Obj} {v : Value} {T : String} {Q : Unit → Shared → Prop} (ho : s.heap.get? I = some o) (hc : o.cls = .type T)
    (hT : ["enumerate", "zip", "dict_itemiterator", "dict_reverseitemiterator", "odict_iterator", "itertools.zip_longest", "itertools.pairwise"].contains T = false) (q : Q () s) : wpAny (model prog w) A (letOwnedTupleGo target (.ref I) v) Q E s := by
  have go : wpAny (model prog w) A (do
      let (.ref r, .ref a) := ((.ref I : Value), v) | return
      let o ← load r
      match o.cls, o.data with
      | .type n, .fields vs =>
        if ["enumerate", "zip", "dict_itemiterator", "dict_reverseitemiterator", "odict_iterator", "itertools.zip_longest", "itertools.pairwise"].contains n && vs[0]? == some (rawInt a) then
          rule "for.unpacks-the-owned-tuple"
          updateField r 0 .none
      | _, _ => pure ()) Q E s := by
    cases v with
    | ref a =>
      refine wpAny_bind (wpAny_load ho ?_)
      obtain ⟨c, d, dt, sl⟩ := o
      cases hc
      cases dt with
      | fields vs =>
        show wpAny _ A (if (["enumerate", "zip", "dict_itemiterator", "dict_reverseitemiterator", "odict_iterator", "itertools.zip_longest", "itertools.pairwise"].contains T && vs[0]? == some (rawInt a)) = true then _ else _) Q E s
        rw [hT, Bool.false_and, if_neg (by decide)]
        exact wpAny_pure q
      | _ => exact wpAny_pure q
    | _ => exact wpAny_pure q
  cases target with
  | Tuple => exact go
  | List => exact go
  | _ => exact wpAny_pure q
theorem RdL.at {vs : List Value} (r : RdL Z vs ds) {i : Nat} {v : Value} {d : PV} (h1 : vs[i]? = some v) (h2 : ds[i]? = some d) : Rd Z v d := by
  obtain ⟨u, e, p⟩ := r.get h2
  rw [h1] at e; cases e; exact p
theorem turns_walks {J : Addr} {fp wr : List Addr} {P : Nat → Value → Prop} {St : Nat → Heap → Prop} {h : Heap} {new : Addr → Prop} (W : ∀ A : Around, A.handled = none → Walks C.prog C.w A J fp wr ds.length P St)
    (go : ∀ i h', St i h' → ∃ o T, h'.get? J = some o ∧ o.cls = .type T ∧ ["enumerate", "zip", "dict_itemiterator", "dict_reverseitemiterator", "odict_iterator", "itertools.zip_longest", "itertools.pairwise"].contains T = false)
    (st0 : St 0 h) (hwZ : ∀ b ∈ wr, Z b = none) (hfp : ∀ b ∈ fp, (∃ o, Z b = some o) ∨ (new b ∧ Z b = none)) (hob : ∀ i h', St i h' → ∀ b ∈ fp, ∃ o, h'.get? b = some o ∧ (Z b = none → ∀ ps, o ≠ tabObj ps))
    (hItm : ∀ i v d Z', Le Z Z' → ds[i]? = some d → P i v → Rd Z' v d) : Turns C target J ds Z h new :=
  ⟨fp, wr, fun i v _ => P i v, fun i v h => P i v ∧ St (i + 1) h, St, fun A hA => KTurns.ofWalks (W A hA) fun i v s Q E st q => by
    obtain ⟨o, T, ho, hc, hT⟩ := go i _ st
    exact letGo_plain ho hc hT q, st0, hwZ, hfp, hob, fun i v h' d Z' le _ hd hP => .plain (hItm i v d Z' le hd hP), fun A i s Q E hA st q => (W A hA).self i s Q E st q⟩
theorem pi_list : PI C n (is (.list ds)) target ds := fun A s Z v Q E hA I hv k => by
  obtain ⟨_, _, _, rfl, h, r⟩ := rdi hv
  rename_i a m vs
  have hl := isList_of I h
  refine wpAny_pyIter_list hl ?_
  have hal := Heap.lt_size (I.heap _ _ h)
  have st : Step C Z s Z _ := StepX.push I (o := { cls := .type "list_iterator", data := .fields #[.ref a, .int 0 0] }) (t := s.toks)
  have hne : a ≠ s.heap.objs.size := Nat.ne_of_lt hal
  have hsz : ds.length = vs.toArray.size := by rw [List.size_toArray, r.length]
  refine k _ Z _ st (turns_walks (fun A hA => hsz ▸ Walks.list hA s.heap.objs.size a hne vs.toArray) (fun i h' st' => ?_) ⟨⟨_, Heap.get?_push_size _ rfl, rfl, rfl⟩, hl.push _⟩ (fun b hb => ?_) (fun b hb => ?_) (fun i h' st' b hb => ?_) fun i v d Z' le hd hP => RdL.at (RdL.le le r) (by simpa using hP) hd)
  · obtain ⟨⟨o, ho, hc, _⟩, _⟩ := st'
    exact ⟨o, _, ho, hc, by decide +kernel⟩
  · rw [List.mem_singleton.mp hb]; exact I.fresh (gAb (Nat.le_refl _))
  · rcases List.mem_cons.mp hb with rfl | hb
    · exact .inr ⟨gAb (Nat.le_refl _), I.fresh (gAb (Nat.le_refl _))⟩
    · rw [List.mem_singleton.mp hb]; exact .inl ⟨_, h⟩
  · obtain ⟨⟨o, ho, hc, hd⟩, o', ho', _⟩ := st'
    rcases List.mem_cons.mp hb with rfl | hb
    · exact ⟨o, ho, fun _ ps q => by subst q; simp [tabObj] at hc⟩
    · rw [List.mem_singleton.mp hb]; exact ⟨o', ho', fun q => by rw [h] at q; cases q⟩
theorem pi_tup : PI C n (is (.tup ds)) target ds := fun A s Z v Q E hA I hv k => by
  obtain ⟨_, _, _, rfl, h, r⟩ := rdi hv
  rename_i a m vs
  have hl : s.heap.IsTuple a vs.toArray := ⟨_, I.heap _ _ h, rfl, m, rfl⟩
  refine wpAny_pyIter_tuple hl ?_
  have hal := Heap.lt_size (I.heap _ _ h)
  have st : Step C Z s Z _ := StepX.push I (o := { cls := .type "tuple_iterator", data := .fields #[.ref a, .int 0 0] }) (t := s.toks)
  have hne : a ≠ s.heap.objs.size := Nat.ne_of_lt hal
  have hsz : ds.length = vs.toArray.size := by rw [List.size_toArray, r.length]
  refine k _ Z _ st (turns_walks (fun A hA => hsz ▸ Walks.tuple hA s.heap.objs.size a hne vs.toArray) (fun i h' st' => ?_) ⟨⟨_, Heap.get?_push_size _ rfl, rfl, rfl⟩, hl.push _⟩ (fun b hb => ?_) (fun b hb => ?_) (fun i h' st' b hb => ?_) fun i v d Z' le hd hP => RdL.at (RdL.le le r) (by simpa using hP) hd)
  · obtain ⟨⟨o, ho, hc, _⟩, _⟩ := st'
    exact ⟨o, _, ho, hc, by decide +kernel⟩
  · rw [List.mem_singleton.mp hb]; exact I.fresh (gAb (Nat.le_refl _))
  · rcases List.mem_cons.mp hb with rfl | hb
    · exact .inr ⟨gAb (Nat.le_refl _), I.fresh (gAb (Nat.le_refl _))⟩
    · rw [List.mem_singleton.mp hb]; exact .inl ⟨_, h⟩
  · obtain ⟨⟨o, ho, hc, hd⟩, o', ho', _⟩ := st'
    rcases List.mem_cons.mp hb with rfl | hb
    · exact ⟨o, ho, fun _ ps q => by subst q; simp [tabObj] at hc⟩
    · rw [List.mem_singleton.mp hb]; exact ⟨o', ho', fun q => by rw [h] at q; cases q⟩
noncomputable def rngL (a : Int) (n : Nat) : List PV := (List.range n).map fun (i : Nat) => PV.int (a + (i : Int))
theorem rngL_length {a : Int} {n : Nat} : (rngL a n).length = n := by simp [rngL]
end
noncomputable def enumL (ds : List PV) : List PV := ds.zipIdx.map fun p => PV.tup [.int (p.2 : Int), p.1]
noncomputable def zipL (ds es : List PV) : List PV := (ds.zip es).map fun p => PV.tup [p.1, p.2]
section
variable {C : Cx} {n : Nat} {Φ : Asn C} {env : Env} {P R : Vp} {Ps : List Vp} {e iter target : Expr} {es args : List Expr} {pos p : Pos} {ds : List PV} {Z Z' : Fz} {s s' : Shared}
theorem turns_walksU {J : Addr} {fp wr : List Addr} {Pt : Nat → Array Value → Prop} {St : Nat → Heap → Prop} {Mid : Nat → Addr → Heap → Prop} {h : Heap} {new : Addr → Prop} {ts : List Expr} {kk : Nat} (W : ∀ A : Around, A.handled = none → WalksT C.prog C.w A J fp wr ds.length Pt St Mid)
    (st0 : St 0 h) (hwZ : ∀ b ∈ wr, Z b = none) (hfp : ∀ b ∈ fp, (∃ o, Z b = some o) ∨ (new b ∧ Z b = none)) (hob : ∀ i h', St i h' → ∀ b ∈ fp, ∃ o, h'.get? b = some o ∧ (Z b = none → ∀ ps, o ≠ tabObj ps))
    (hItm : ∀ i vals d Z', Le Z Z' → ds[i]? = some d → Pt i vals → ∃ dd, d = .tup dd ∧ RdL Z' vals.toList dd) : Turns C (.Tuple ts kk p) J ds Z h new :=
  ⟨fp, wr, _, _, St, fun A hA => KTurns.ofWalksU (W A hA).toU, st0, hwZ, hfp, hob, fun i v h' d Z' le _ hd hP => by
    obtain ⟨T, vals, rfl, hP, hT⟩ := hP
    obtain ⟨dd, rfl, hr⟩ := hItm i vals d Z' le hd hP
    exact .tupv hT hr, fun A i s Q E hA st q => (W A hA).self i s Q E st q⟩
theorem range_turns {s : Shared} (I : Inv C Z s) {J : Addr} {a : Int} {m : Nat} {h : Heap} {new : Addr → Prop} (hJ : IsRangeIter h J a m 1) (hz : Z J = none) (hn : new J) (hr : ds = rngL a m) : Turns C target J ds Z h new := by
  subst hr
  refine turns_walks (St := fun i h => IsRangeIter h J (a + (i : Nat) * 1) ((m : Int) - (i : Nat)) 1) (fun A hA => by rw [rngL_length]; exact Walks.range hA J a 1 m) (fun i h' st' => ⟨_, _, st', rfl, by decide +kernel⟩) (show IsRangeIter h J (a + ((0 : Nat) : Int) * 1) ((m : Int) - ((0 : Nat) : Int)) 1 by simpa using hJ) (fun b hb => ?_) (fun b hb => ?_) (fun i h' st' b hb => ?_) fun i v d Z' le hd hP => ?_
  · rw [List.mem_singleton.mp hb]; exact hz
  · rw [List.mem_singleton.mp hb]; exact .inr ⟨hn, hz⟩
  · rw [List.mem_singleton.mp hb]; exact ⟨_, st', fun _ ps q => by have := congrArg Obj.cls q; simp [tabObj] at this⟩
  · obtain ⟨t, rfl⟩ := hP
    rw [rngL, List.getElem?_map] at hd
    cases hq : (List.range m)[i]? with
    | none => rw [hq] at hd; cases hd
    | some j =>
      rw [hq] at hd; cases hd
      have hj := List.getElem?_eq_some_iff.mp hq
      obtain ⟨hlt, hj⟩ := hj
      rw [List.getElem_range] at hj
      subst hj
      rw [Int.mul_one]
      exact .int _ _
theorem rangeSize_one {a b : Int} : Builtin.Range.rangeSize a b 1 = ((b - a).toNat : Int) := by
  unfold Builtin.Range.rangeSize
  rw [if_pos (by decide), Int.ediv_one]
  by_cases h : a < b
  · rw [if_pos h, Int.toNat_of_nonneg (by lia)]; lia
  · rw [if_neg h, Int.toNat_of_nonpos (by lia)]; rfl
theorem fi_range1 {m : Int} (hsm : Builtin.Range.small 0 m 1 = true) : FI C n (.type "range") [is (.int m)] target (rngL 0 m.toNat) := fun A s Z vs Q E hA I hv k => by
  obtain ⟨_, _, rfl, h, r⟩ := sati hv
  obtain rfl := sati r
  obtain ⟨_, rfl⟩ := rdi h
  rename_i t
  refine call_range_1 ?_
  have st : Step C Z s Z _ := StepX.push I (o := { cls := .type "range", data := .fields #[.int 0 s.toks, .int m t, .int 1 (s.toks + 1)] }) (t := s.toks + 1 + 1)
  refine wpAny_pyIter_range (Heap.get?_push_size _ rfl) hsm ?_
  have st2 : Step C Z _ Z _ := StepX.push st.inv (o := { cls := .type "range_iterator", data := .fields #[rawInt 0, rawInt (Builtin.Range.rangeSize 0 m 1), rawInt 1] }) (t := s.toks + 1 + 1)
  refine k _ Z _ (st.trans st2) (range_turns (m := m.toNat) st2.inv (a := 0) ?_ (st.inv.fresh (gAb (Nat.le_refl _))) (Step.gone' st (gAb (Nat.le_refl _))) rfl)
  have := Heap.get?_push_size (s.heap.push { cls := .type "range", data := .fields #[.int 0 s.toks, .int m t, .int 1 (s.toks + 1)] }) (o := { cls := .type "range_iterator", data := .fields #[rawInt 0, rawInt (Builtin.Range.rangeSize 0 m 1), rawInt 1] }) rfl
  rw [rangeSize_one, show m - 0 = m by lia] at this ⊢
  exact this
theorem fi_zip {es : List PV} {ts : List Expr} {kk : Nat} : FI C n (.type "zip") [is (.list ds), is (.list es)] (.Tuple ts kk p) (zipL ds es) := fun A s Z vs Q E hA I hv k => by
  obtain ⟨_, _, rfl, h, r⟩ := sati hv
  cases r with
  | cons h2 r =>
    cases r
    cases h with
    | list h r =>
      cases h2 with
      | list h2 r2 =>
        rename_i a m vs a2 m2 vs2
        have hl := isList_of I h
        have hl2 := isList_of I h2
        have hal := Heap.lt_size (I.heap _ _ h)
        have hal2 := Heap.lt_size (I.heap _ _ h2)
        refine call_zip_2 hl hl2 fun h' hz hTI hTO hi1 hi2 hsz hk => ?_
        refine wpAny_pyIter_zip hz ?_
        have st : Step C Z s Z { s with heap := h' } := .keeps (t := s.toks) I hk
        have hlen : (zipL ds es).length = min vs.toArray.size vs2.toArray.size := by rw [zipL, List.length_map, List.length_zip, List.size_toArray, List.size_toArray, r.length, r2.length]
        have g : ∀ j, s.heap.get? (s.heap.objs.size + j) = none := fun j => gAb (Nat.le_add_right _ _)
        refine k _ Z _ st (turns_walksU (fun A hA => hlen ▸ WalksT.zip2 hA _ _ _ _ _ a a2 (zipApart_new hal hal2) vs.toArray vs2.toArray)
          ⟨hz, hTI, ⟨_, _, hTO⟩, hi1, hi2, hl.at fun o e => hk _ o e, hl2.at fun o e => hk _ o e⟩ (fun b hb => ?_) (fun b hb => ?_) (fun i h' st' b hb => ?_) fun i vals d Z' le hd hP => ?_)
        · simp only [List.mem_cons, List.not_mem_nil, or_false] at hb
          rcases hb with rfl | rfl | rfl | rfl
          · exact I.fresh (g 4)
          · exact I.fresh (g 3)
          · exact I.fresh (g 0)
          · exact I.fresh (g 1)
        · simp only [List.mem_cons, List.not_mem_nil, or_false] at hb
          rcases hb with rfl | rfl | rfl | rfl | rfl | rfl | rfl
          · exact .inr ⟨g 4, I.fresh (g 4)⟩
          · exact .inr ⟨g 2, I.fresh (g 2)⟩
          · exact .inr ⟨g 3, I.fresh (g 3)⟩
          · exact .inr ⟨g 0, I.fresh (g 0)⟩
          · exact .inr ⟨g 1, I.fresh (g 1)⟩
          · exact .inl ⟨_, h⟩
          · exact .inl ⟨_, h2⟩
        · obtain ⟨hz, hTI, ⟨x, y, hTO⟩, ⟨o1, ho1, hc1, _⟩, ⟨o2, ho2, hc2, _⟩, ⟨o3, ho3, _⟩, o4, ho4, _⟩ := st'
          simp only [List.mem_cons, List.not_mem_nil, or_false] at hb
          rcases hb with rfl | rfl | rfl | rfl | rfl | rfl | rfl
          · exact ⟨_, hz, fun _ ps q => by have := congrArg Obj.cls q; simp [tabObj] at this⟩
          · exact ⟨_, hTI, fun _ ps q => by have := congrArg Obj.cls q; simp [tabObj] at this⟩
          · exact ⟨_, hTO, fun _ ps q => by have := congrArg Obj.cls q; simp [tabObj] at this⟩
          · exact ⟨o1, ho1, fun _ ps q => by subst q; simp [tabObj] at hc1⟩
          · exact ⟨o2, ho2, fun _ ps q => by subst q; simp [tabObj] at hc2⟩
          · exact ⟨o3, ho3, fun q => by rw [h] at q; cases q⟩
          · exact ⟨o4, ho4, fun q => by rw [h2] at q; cases q⟩
        · obtain ⟨x, y, hx, hy, rfl⟩ := hP
          rw [zipL, List.getElem?_map] at hd
          cases hq : (ds.zip es)[i]? with
          | none => rw [hq] at hd; cases hd
          | some d' =>
            rw [hq] at hd
            obtain ⟨d1, d2⟩ := d'
            cases hd
            obtain ⟨q1, q2⟩ := List.getElem?_zip_eq_some.mp hq
            exact ⟨_, rfl, .cons (RdL.at (RdL.le le r) (by simpa using hx) q1) (.cons (RdL.at (RdL.le le r2) (by simpa using hy) q2) .nil)⟩
theorem fi_rev : FI C n (.type "reversed") [is (.list ds)] target ds.reverse := fun A s Z vs Q E hA I hv k => by
  obtain ⟨_, _, rfl, h, r⟩ := sati hv
  obtain rfl := sati r
  cases h with
  | list h r =>
    rename_i a m vs
    have hl := isList_of I h
    have hal := Heap.lt_size (I.heap _ _ h)
    refine call_reversed_list hl ?_
    have hit : (s.heap.push (revObj a ((vs.toArray.size : Int) - 1))).IsRevIter s.heap.objs.size a ((vs.toArray.size : Int) - 1) := ⟨_, Heap.get?_push_size _ rfl, rfl, rfl⟩
    refine wpAny_pyIter_revIter hit ?_
    have st : Step C Z s Z _ := StepX.push I (o := revObj a ((vs.toArray.size : Int) - 1)) (t := s.toks)
    have hlen : ds.reverse.length = vs.toArray.size := by rw [List.length_reverse, List.size_toArray, r.length]
    have g0 := gAb (Nat.le_refl s.heap.objs.size)
    refine k _ Z _ st (turns_walks (St := fun i h => i ≤ vs.toArray.size ∧ h.IsRevIter s.heap.objs.size a ((vs.toArray.size : Int) - 1 - (i : Int)) ∧ h.IsList a vs.toArray) (P := fun i v => vs.toArray[vs.toArray.size - 1 - i]? = some v) (fun A hA => by rw [hlen]; exact Walks.listRev hA s.heap.objs.size a (Nat.ne_of_lt hal) vs.toArray) (fun i h' st' => ?_) ⟨Nat.zero_le _, by simpa using hit, hl.push _⟩ (fun b hb => ?_) (fun b hb => ?_) (fun i h' st' b hb => ?_) fun i v d Z' le hd hP => ?_)
    · obtain ⟨_, ⟨o, ho, hc, _⟩, _⟩ := st'
      exact ⟨o, _, ho, hc, by decide +kernel⟩
    · rw [List.mem_singleton.mp hb]; exact I.fresh g0
    · rcases List.mem_cons.mp hb with rfl | hb
      · exact .inr ⟨g0, I.fresh g0⟩
      · rw [List.mem_singleton.mp hb]; exact .inl ⟨_, h⟩
    · obtain ⟨_, ⟨o, ho, hc, hd⟩, o', ho', _⟩ := st'
      rcases List.mem_cons.mp hb with rfl | hb
      · exact ⟨o, ho, fun _ ps q => by subst q; simp [tabObj] at hc⟩
      · rw [List.mem_singleton.mp hb]; exact ⟨o', ho', fun q => by rw [h] at q; cases q⟩
    · have hlt : i < ds.length := by
        have := (List.getElem?_eq_some_iff.mp hd).1
        rwa [List.length_reverse] at this
      rw [List.getElem?_reverse hlt] at hd
      refine RdL.at (RdL.le le r) (i := ds.length - 1 - i) ?_ hd
      rw [List.size_toArray, r.length] at hP
      simpa using hP
end
def GlobD (C : Cx) (x : Str) (d : PV) : Prop := ∃ v, GlobZ C x v ∧ ∀ Z, Rd Z v d
section
variable {C : Cx} {n : Nat} {X : Addr → Prop} {env : Env} {nm oc : List Str} {sc : List (Str × NameKind)} {pos : Pos} {ρ : List (Option Vp)} {ω : List (Addr × List PV)} {κ : Addr → Option Obj}
theorem ev_globd {x : Str} {d : PV} (hg : GlobD C x d) (hk : sc.lookup x = some .globalImplicit) (hd : (x == ("__debug__" : Str)) = false) : EV C n (FS C env nm oc sc X ρ ω κ) (eval (.Name x pos) env) (is d) := by
  obtain ⟨v, hg, hr⟩ := hg
  exact ev_conv (ev_glob hg hk hd) fun h => by cases h; exact hr _
end
noncomputable def gtP : PV → PV → Bool
  | .int a, .int b => decide (a > b)
  | .flt a, .flt b => Float64.cmp a b == some .gt
  | _, _ => false
noncomputable def ltP : PV → PV → Bool
  | .int a, .int b => decide (a < b)
  | .flt a, .flt b => Float64.cmp a b == some .lt
  | _, _ => false
noncomputable def allInt : List PV → Bool
  | [] => true
  | .int _ :: r => allInt r
  | _ => false
noncomputable def allFlt : List PV → Bool
  | [] => true
  | .flt _ :: r => allFlt r
  | _ => false
noncomputable def bestP (bt : PV → PV → Bool) : List PV → PV
  | [] => .none
  | d :: ds => ds.foldl (fun σ d => if bt d σ then d else σ) d
theorem allInt_at : ∀ {ds : List PV} {i : Nat} {d : PV}, allInt ds = true → ds[i]? = some d → ∃ a, d = .int a
  | .int a :: r, 0, d, _, e => by simp at e; exact ⟨a, e.symm⟩
  | .int a :: r, i + 1, d, h, e => by simp only [List.getElem?_cons_succ] at e; exact allInt_at (ds := r) h e
theorem allFlt_at : ∀ {ds : List PV} {i : Nat} {d : PV}, allFlt ds = true → ds[i]? = some d → ∃ a, d = .flt a
  | .flt a :: r, 0, d, _, e => by simp at e; exact ⟨a, e.symm⟩
  | .flt a :: r, i + 1, d, h, e => by simp only [List.getElem?_cons_succ] at e; exact allFlt_at (ds := r) h e
noncomputable def btAt (bt : PV → PV → Bool) (ds : List PV) : Nat → Nat → Bool := fun i j => bt (ds.getD i .none) (ds.getD j .none)
theorem argBest_at {bt : PV → PV → Bool} {d : PV} {ds : List PV} : ∀ m, m ≤ ds.length → (d :: ds)[argBest (btAt bt (d :: ds)) m]? = some ((ds.take m).foldl (fun σ d => if bt d σ then d else σ) d)
  | 0, _ => rfl
  | m + 1, h => by
    have ih := argBest_at (bt := bt) (d := d) (ds := ds) m (Nat.le_of_succ_le h)
    have hm : ds[m]? = some ds[m] := List.getElem?_eq_getElem h
    have e1 : (ds.take (m + 1)).foldl (fun σ d => if bt d σ then d else σ) d = if bt ds[m] ((ds.take m).foldl (fun σ d => if bt d σ then d else σ) d) then ds[m] else (ds.take m).foldl (fun σ d => if bt d σ then d else σ) d := by
      rw [List.take_add_one, hm, List.foldl_append]; rfl
    have e2 : btAt bt (d :: ds) (m + 1) (argBest (btAt bt (d :: ds)) m) = bt ds[m] ((ds.take m).foldl (fun σ d => if bt d σ then d else σ) d) := by
      show bt ((d :: ds).getD (m + 1) .none) ((d :: ds).getD (argBest (btAt bt (d :: ds)) m) .none) = _
      rw [List.getD_eq_getElem?_getD, List.getD_eq_getElem?_getD, ih, List.getElem?_cons_succ, hm]; rfl
    unfold argBest
    rw [e2, e1]
    by_cases q : bt ds[m] ((ds.take m).foldl (fun σ d => if bt d σ then d else σ) d) = true
    · rw [if_pos q, if_pos q, List.getElem?_cons_succ, hm]
    · rw [if_neg q, if_neg q, ih]
theorem best_at {bt : PV → PV → Bool} {d : PV} {ds : List PV} : (d :: ds)[argBest (btAt bt (d :: ds)) ((d :: ds).length - 1)]? = some (bestP bt (d :: ds)) := by
  have := argBest_at (bt := bt) (d := d) (ds := ds) ds.length (Nat.le_refl _)
  rw [List.take_length] at this
  exact this
section
variable {C : Cx} {n : Nat} {Φ : Asn C} {env : Env} {P R : Vp} {Ps : List Vp} {ds : List PV} {Z Z' : Fz} {s s' : Shared}
theorem cmp_gt {A : Around} {prog : Program} {w : World} {vs : List Value} (r : RdL Z vs ds) (h : (allInt ds || allFlt ds) = true) : CmpOf prog w A .Gt (fun i v => vs.toArray[i]? = some v) (btAt gtP ds) := fun i j vi vj s Q E hi hj hQ => by
  have hi' : vs[i]? = some vi := by simpa using hi
  have hj' : vs[j]? = some vj := by simpa using hj
  have li : i < ds.length := by have := (List.getElem?_eq_some_iff.mp hi').1; rw [r.length] at this; exact this
  have lj : j < ds.length := by have := (List.getElem?_eq_some_iff.mp hj').1; rw [r.length] at this; exact this
  have ei := List.getElem?_eq_getElem li
  have ej := List.getElem?_eq_getElem lj
  have ri := r.at hi' ei
  have rj := r.at hj' ej
  have eb : btAt gtP ds i j = gtP ds[i] ds[j] := by unfold btAt; rw [List.getD_eq_getElem?_getD, List.getD_eq_getElem?_getD, ei, ej]; rfl
  rw [eb] at hQ
  rcases Bool.or_eq_true_iff.mp h with h | h
  · obtain ⟨a, qa⟩ := allInt_at h ei
    obtain ⟨b, qb⟩ := allInt_at h ej
    rw [qa] at ri; rw [qb] at rj; rw [qa, qb] at hQ
    obtain ⟨_, rfl⟩ := rdi ri; obtain ⟨_, rfl⟩ := rdi rj
    exact richCompare_gives (op := .Gt) (typeIs_int s _ _) (typeIs_int s _ _) F.slot_int_gt F.entry_int_gt (F.args_int_gt_2 _ _) (gives_int_gt _ _ _ _) (fun x => nomatch x) hQ
  · obtain ⟨a, qa⟩ := allFlt_at h ei
    obtain ⟨b, qb⟩ := allFlt_at h ej
    rw [qa] at ri; rw [qb] at rj; rw [qa, qb] at hQ
    obtain ⟨_, rfl⟩ := rdi ri; obtain ⟨_, rfl⟩ := rdi rj
    exact richCompare_gives (op := .Gt) (typeIs_float s a _) (typeIs_float s b _) F.slot_float_gt F.entry_float_gt (F.args_float_gt_2 _ _) (AutoFloatG4.float___gt___float_float_0 a _ b _) (fun x => nomatch x) hQ
theorem cmp_lt {A : Around} {prog : Program} {w : World} {vs : List Value} (r : RdL Z vs ds) (h : (allInt ds || allFlt ds) = true) : CmpOf prog w A .Lt (fun i v => vs.toArray[i]? = some v) (btAt ltP ds) := fun i j vi vj s Q E hi hj hQ => by
  have hi' : vs[i]? = some vi := by simpa using hi
  have hj' : vs[j]? = some vj := by simpa using hj
  have li : i < ds.length := by have := (List.getElem?_eq_some_iff.mp hi').1; rw [r.length] at this; exact this
  have lj : j < ds.length := by have := (List.getElem?_eq_some_iff.mp hj').1; rw [r.length] at this; exact this
  have ei := List.getElem?_eq_getElem li
  have ej := List.getElem?_eq_getElem lj
  have ri := r.at hi' ei
  have rj := r.at hj' ej
  have eb : btAt ltP ds i j = ltP ds[i] ds[j] := by unfold btAt; rw [List.getD_eq_getElem?_getD, List.getD_eq_getElem?_getD, ei, ej]; rfl
  rw [eb] at hQ
  rcases Bool.or_eq_true_iff.mp h with h | h
  · obtain ⟨a, qa⟩ := allInt_at h ei
    obtain ⟨b, qb⟩ := allInt_at h ej
    rw [qa] at ri; rw [qb] at rj; rw [qa, qb] at hQ
    obtain ⟨_, rfl⟩ := rdi ri; obtain ⟨_, rfl⟩ := rdi rj
    exact richCompare_gives (op := .Lt) (typeIs_int s _ _) (typeIs_int s _ _) F.slot_int_lt F.entry_int_lt (F.args_int_lt_2 _ _) (gives_int_lt _ _ _ _) (fun x => nomatch x) hQ
  · obtain ⟨a, qa⟩ := allFlt_at h ei
    obtain ⟨b, qb⟩ := allFlt_at h ej
    rw [qa] at ri; rw [qb] at rj; rw [qa, qb] at hQ
    obtain ⟨_, rfl⟩ := rdi ri; obtain ⟨_, rfl⟩ := rdi rj
    exact richCompare_gives (op := .Lt) (typeIs_float s a _) (typeIs_float s b _) F.slot_float_lt F.entry_float_lt (F.args_float_lt_2 _ _) (AutoFloatG5.float___lt___float_float_0 a _ b _) (fun x => nomatch x) hQ
theorem rd_best {bt : PV → PV → Bool} {vs : List Value} {v : Value} (r : RdL Z vs ds) (hne : ds ≠ []) (h : vs.toArray[argBest (btAt bt ds) (vs.toArray.size - 1)]? = some v) : Rd Z v (bestP bt ds) := by
  cases ds with
  | nil => exact absurd rfl hne
  | cons d ds =>
    rw [List.size_toArray, r.length] at h
    exact r.at (by simpa using h) best_at
theorem fn_max_list (h : (allInt ds || allFlt ds) = true) (hne : ds ≠ []) : FN C n (.builtin "max") [is (.list ds)] (is (bestP gtP ds)) := fn1 fun A s Z v Q E hA I hv k => by
  obtain ⟨a, m, vs, rfl, hz, r⟩ := rdi hv
  have hl := isList_of I hz
  have hal := Heap.lt_size (I.heap _ _ hz)
  refine call_max_walk (wpAny_pyIter_list hl ⟨_, _, _, _, _, _, _, rfl, Walks.list (A := A.in1) hA.handled s.heap.objs.size a (Nat.ne_of_lt hal) vs.toArray, ⟨⟨_, Heap.get?_push_size _ rfl, rfl, rfl⟩, hl.push _⟩, fun b hb => ?_, ?_, cmp_gt r h, fun v h' tk hP hk => ?_⟩)
  · show b < (s.heap.push _).objs.size
    rw [Heap.size_push]
    rcases List.mem_cons.mp hb with rfl | hb
    · exact Nat.lt_succ_self _
    · rw [List.mem_singleton.mp hb]; exact Nat.lt_succ_of_lt hal
  · rw [List.size_toArray, r.length]; exact List.length_pos_iff.mpr hne
  · have st : Step C Z s Z { s with heap := h', toks := tk } := .keeps I fun b o e => hk b o (fun q => by rw [List.mem_singleton.mp q] at e; exact absurd (Heap.lt_size e) (Nat.lt_irrefl _)) (Heap.get?_push_of_some _ e)
    exact k v Z _ st (rd_best r hne hP)
theorem fn_min_list (h : (allInt ds || allFlt ds) = true) (hne : ds ≠ []) : FN C n (.builtin "min") [is (.list ds)] (is (bestP ltP ds)) := fn1 fun A s Z v Q E hA I hv k => by
  obtain ⟨a, m, vs, rfl, hz, r⟩ := rdi hv
  have hl := isList_of I hz
  have hal := Heap.lt_size (I.heap _ _ hz)
  refine call_min_walk (wpAny_pyIter_list hl ⟨_, _, _, _, _, _, _, rfl, Walks.list (A := A.in1) hA.handled s.heap.objs.size a (Nat.ne_of_lt hal) vs.toArray, ⟨⟨_, Heap.get?_push_size _ rfl, rfl, rfl⟩, hl.push _⟩, fun b hb => ?_, ?_, cmp_lt r h, fun v h' tk hP hk => ?_⟩)
  · show b < (s.heap.push _).objs.size
    rw [Heap.size_push]
    rcases List.mem_cons.mp hb with rfl | hb
    · exact Nat.lt_succ_self _
    · rw [List.mem_singleton.mp hb]; exact Nat.lt_succ_of_lt hal
  · rw [List.size_toArray, r.length]; exact List.length_pos_iff.mpr hne
  · have st : Step C Z s Z { s with heap := h', toks := tk } := .keeps I fun b o e => hk b o (fun q => by rw [List.mem_singleton.mp q] at e; exact absurd (Heap.lt_size e) (Nat.lt_irrefl _)) (Heap.get?_push_of_some _ e)
    exact k v Z _ st (rd_best r hne hP)
theorem three_setup {A : Around} {prog : Program} {w : World} {a b c : Value} {E : Value → Shared → Prop} {Q : Value → Shared → Prop} (hA : A.handled = none)
    (h : ∀ I s₂, Walks prog w A I [I, s.heap.objs.size] [I] 3 (fun i v => [a, b, c].toArray[i]? = some v) (fun i h => h.IsTupleIter I s.heap.objs.size i ∧ h.IsTuple s.heap.objs.size #[a, b, c]) →
      s₂ = { s with heap := (s.heap.push { cls := .type "tuple", data := .seq #[a, b, c] }).push { cls := .type "tuple_iterator", data := .fields #[.ref s.heap.objs.size, .int 0 0] } } → I = s.heap.objs.size + 1 → (s₂.heap.IsTupleIter I s.heap.objs.size 0 ∧ s₂.heap.IsTuple s.heap.objs.size #[a, b, c]) → Q (.ref I) s₂) :
    wpAny (model prog w) A (pyIter (.ref s.heap.objs.size)) Q E { s with heap := s.heap.push { cls := .type "tuple", data := .seq #[a, b, c] } } := by
  have hT : (s.heap.push { cls := .type "tuple", data := .seq #[a, b, c] }).IsTuple s.heap.objs.size #[a, b, c] := ⟨_, Heap.get?_push_size _ rfl, rfl, 0, rfl⟩
  refine wpAny_pyIter_tuple hT ?_
  have hsz : (s.heap.push { cls := .type "tuple", data := .seq #[a, b, c] }).objs.size = s.heap.objs.size + 1 := Heap.size_push ..
  refine h _ _ (Walks.tuple hA _ s.heap.objs.size (by rw [hsz]; exact Nat.ne_of_lt (Nat.lt_succ_self _)) #[a, b, c]) rfl hsz ⟨⟨_, Heap.get?_push_size _ rfl, rfl, rfl⟩, hT.push _⟩
theorem fn_max3 {d1 d2 d3 : PV} (h : (allInt [d1, d2, d3] || allFlt [d1, d2, d3]) = true) : FN C n (.builtin "max") [is d1, is d2, is d3] (is (bestP gtP [d1, d2, d3])) := fun A s Z vs Q E hA I hl hp k => by
  obtain ⟨a, b, c, rfl⟩ := len3 hl
  have r : RdL Z [a, b, c] [d1, d2, d3] := .cons (hp 0 a _ rfl rfl) (.cons (hp 1 b _ rfl rfl) (.cons (hp 2 c _ rfl rfl) .nil))
  refine call_max_three (three_setup (A := A.in1) hA.handled fun J s₂ W e hJ st => ⟨J, _, _, _, _, _, _, rfl, W, st, fun b hb => ?_, by decide, cmp_gt r h, fun v h' tk hP hk => ?_⟩)
  · subst e
    show b < ((s.heap.push _).push _).objs.size
    rw [Heap.size_push, Heap.size_push]
    rcases List.mem_cons.mp hb with rfl | hb
    · rw [hJ]; exact Nat.lt_succ_self _
    · rw [List.mem_singleton.mp hb]; exact Nat.lt_succ_of_lt (Nat.lt_succ_self _)
  · subst e
    have st : Step C Z s Z { s with heap := h', toks := tk } := .keeps I fun b o e => hk b o (fun q => by rw [List.mem_singleton.mp q, hJ] at e; exact absurd (Heap.lt_size e) (Nat.not_lt.mpr (Nat.le_succ _))) (Heap.get?_push_of_some _ (Heap.get?_push_of_some _ e))
    exact k v Z _ st (rd_best r (by simp) (by simpa using hP))
theorem fn_min3 {d1 d2 d3 : PV} (h : (allInt [d1, d2, d3] || allFlt [d1, d2, d3]) = true) : FN C n (.builtin "min") [is d1, is d2, is d3] (is (bestP ltP [d1, d2, d3])) := fun A s Z vs Q E hA I hl hp k => by
  obtain ⟨a, b, c, rfl⟩ := len3 hl
  have r : RdL Z [a, b, c] [d1, d2, d3] := .cons (hp 0 a _ rfl rfl) (.cons (hp 1 b _ rfl rfl) (.cons (hp 2 c _ rfl rfl) .nil))
  refine call_min_three (three_setup (A := A.in1) hA.handled fun J s₂ W e hJ st => ⟨J, _, _, _, _, _, _, rfl, W, st, fun b hb => ?_, by decide, cmp_lt r h, fun v h' tk hP hk => ?_⟩)
  · subst e
    show b < ((s.heap.push _).push _).objs.size
    rw [Heap.size_push, Heap.size_push]
    rcases List.mem_cons.mp hb with rfl | hb
    · rw [hJ]; exact Nat.lt_succ_self _
    · rw [List.mem_singleton.mp hb]; exact Nat.lt_succ_of_lt (Nat.lt_succ_self _)
  · subst e
    have st : Step C Z s Z { s with heap := h', toks := tk } := .keeps I fun b o e => hk b o (fun q => by rw [List.mem_singleton.mp q, hJ] at e; exact absurd (Heap.lt_size e) (Nat.not_lt.mpr (Nat.le_succ _))) (Heap.get?_push_of_some _ (Heap.get?_push_of_some _ e))
    exact k v Z _ st (rd_best r (by simp) (by simpa using hP))
end
noncomputable abbrev gtF (x y : UInt64) : Bool := Float64.cmp x y == some .gt
noncomputable def mxF (a b c : UInt64) : UInt64 := let m := if gtF b a then b else a; if gtF c m then c else m
noncomputable def mnF (a b c : UInt64) : UInt64 := let m := if ltF b a then b else a; if ltF c m then c else m
noncomputable def mxI (a b c : Int) : Int := let m := if b > a then b else a; if c > m then c else m
noncomputable def mnI (a b c : Int) : Int := let m := if b < a then b else a; if c < m then c else m
noncomputable def scOf (st : Stmt) : List (Str × NameKind) := (fdOf st "" .none .none .none).scope.names
inductive DefAt (C : Cx) (p : Program) (i : Nat) (x : Str) : Prop where
  | mk (f : Addr) (q : Str) (doc pm cd : Value) (g : GlobZ C x (.ref f)) (h : C.Z0 f = some { cls := .type "function", data := .func (fdOf (stAt p i) q doc pm cd) }) (c : CodeZ C cd q)
def DefC (C : Cx) (n : Nat) (x : Str) (Ps : List Vp) (R : Vp) : Prop := ∃ f, GlobZ C x (.ref f) ∧ IsFn C f ∧ FN C n (.ref f) Ps R
section
variable {C : Cx} {n m : Nat} {X : Addr → Prop} {env : Env} {nm oc : List Str} {sc : List (Str × NameKind)} {pos p : Pos} {ρ : List (Option Vp)} {ω : List (Addr × List PV)} {κ : Addr → Option Obj} {Ps : List Vp} {P R : Vp} {Φ : Asn C} {e : Expr} {es : List Expr} {f : Value}
theorem FN.le (h : m ≤ n) (F : FN C m f Ps R) : FN C n f Ps R := fun A s Z vs Q E hA => F A s Z vs Q E (hA.le h)
theorem fn_eq {R' : Vp} (F : FN C n f Ps R) (e : R = R') : FN C n f Ps R' := e ▸ F
theorem ev_callD {x : Str} (ha : EL C n (FS C env nm oc sc X ρ ω κ) (spliced (backTo pos (starEach (e :: es) env))) Ps) (D : DefC C m x Ps R) (hm : m ≤ n) (hk : sc.lookup x = some .globalImplicit) (hd : (x == ("__debug__" : Str)) = false)
    (he : starEach (e :: es) env = (false, eval e env) :: starEach es env := by rfl) : EV C n (FS C env nm oc sc X ρ ω κ) (eval (.Call (.Name x p) (e :: es) [] pos) env) R := by
  obtain ⟨f, hg, hf, F⟩ := D
  exact ev_call (ev_glob hg hk hd) hf ha (F.le hm) he
theorem ev_callBt {x : Str} {id : String} (hb : BltZ C x (.builtin id)) (ha : EL C n (FS C env nm oc sc X ρ ω κ) (spliced (backTo pos (starEach (e :: es) env))) Ps) (F : FN C n (.builtin id) Ps R) (hk : sc.lookup x = some .globalImplicit) (hd : (x == ("__debug__" : Str)) = false)
    (he : starEach (e :: es) env = (false, eval e env) :: starEach es env := by rfl) (hp : (backTo pos (starEach es env)).any (·.1) = false := by rfl) : EV C n (FS C env nm oc sc X ρ ω κ) (eval (.Call (.Name x p) (e :: es) [] pos) env) R :=
  ev_callB (ev_blt hb hk hd) ha F he hp
theorem ev_callTt {x : Str} {id : String} (hb : BltZ C x (.type id)) (ha : EL C n (FS C env nm oc sc X ρ ω κ) (spliced (backTo pos (starEach (e :: es) env))) Ps) (F : FN C n (.type id) Ps R) (hk : sc.lookup x = some .globalImplicit) (hd : (x == ("__debug__" : Str)) = false)
    (he : starEach (e :: es) env = (false, eval e env) :: starEach es env := by rfl) (hp : (backTo pos (starEach es env)).any (·.1) = false := by rfl) : EV C n (FS C env nm oc sc X ρ ω κ) (eval (.Call (.Name x p) (e :: es) [] pos) env) R :=
  ev_callT (ev_blt hb hk hd) ha F he hp
theorem it_callTt {x : Str} {id : String} {target : Expr} {ds : List PV} (hb : BltZ C x (.type id)) (ha : EL C n (FS C env nm oc sc X ρ ω κ) (spliced (backTo pos (starEach (e :: es) env))) Ps) (F : FI C n (.type id) Ps target ds) (hk : sc.lookup x = some .globalImplicit) (hd : (x == ("__debug__" : Str)) = false)
    (he : starEach (e :: es) env = (false, eval e env) :: starEach es env := by rfl) (hp : (backTo pos (starEach es env)).any (·.1) = false := by rfl) : IT C n (FS C env nm oc sc X ρ ω κ) (.Call (.Name x p) (e :: es) [] pos) env target ds :=
  it_callT (ev_blt hb hk hd) ha F he hp
theorem best3 {bt : PV → PV → Bool} {a b c : PV} : bestP bt [a, b, c] = (let m := if bt b a then b else a; if bt c m then c else m) := rfl
theorem fn_max3F {a b c : UInt64} : FN C n (.builtin "max") [is (.flt a), is (.flt b), is (.flt c)] (is (.flt (mxF a b c))) := by
  refine fn_eq (fn_max3 rfl) (congrArg is ?_)
  show (let m := if gtF b a then PV.flt b else PV.flt a; if gtP (PV.flt c) m then PV.flt c else m) = PV.flt (mxF a b c)
  unfold mxF
  cases h1 : gtF b a
  · simp only [Bool.false_eq_true, if_false]
    show (if gtF c a then PV.flt c else PV.flt a) = PV.flt (if gtF c a then c else a)
    cases gtF c a <;> rfl
  · simp only [if_true]
    show (if gtF c b then PV.flt c else PV.flt b) = PV.flt (if gtF c b then c else b)
    cases gtF c b <;> rfl
theorem fn_min3F {a b c : UInt64} : FN C n (.builtin "min") [is (.flt a), is (.flt b), is (.flt c)] (is (.flt (mnF a b c))) := by
  refine fn_eq (fn_min3 rfl) (congrArg is ?_)
  show (let m := if ltF b a then PV.flt b else PV.flt a; if ltP (PV.flt c) m then PV.flt c else m) = PV.flt (mnF a b c)
  unfold mnF
  cases h1 : ltF b a
  · simp only [Bool.false_eq_true, if_false]
    show (if ltF c a then PV.flt c else PV.flt a) = PV.flt (if ltF c a then c else a)
    cases ltF c a <;> rfl
  · simp only [if_true]
    show (if ltF c b then PV.flt c else PV.flt b) = PV.flt (if ltF c b then c else b)
    cases ltF c b <;> rfl
theorem fn_max3I {a b c : Int} : FN C n (.builtin "max") [is (.int a), is (.int b), is (.int c)] (is (.int (mxI a b c))) := by
  refine fn_eq (fn_max3 rfl) (congrArg is ?_)
  rw [best3]
  simp only [gtP, mxI, decide_eq_true_eq]
  by_cases h1 : b > a
  · simp only [h1, if_true, gtP, decide_eq_true_eq]; split <;> rfl
  · simp only [h1, if_false, gtP, decide_eq_true_eq]; split <;> rfl
theorem fn_min3I {a b c : Int} : FN C n (.builtin "min") [is (.int a), is (.int b), is (.int c)] (is (.int (mnI a b c))) := by
  refine fn_eq (fn_min3 rfl) (congrArg is ?_)
  rw [best3]
  simp only [ltP, mnI, decide_eq_true_eq]
  by_cases h1 : b < a
  · simp only [h1, if_true, ltP, decide_eq_true_eq]; split <;> rfl
  · simp only [h1, if_false, ltP, decide_eq_true_eq]; split <;> rfl
end
theorem fin_cases {x : UInt64} (h : Float64.isFinite x = true) : Float64.isNaN x = false ∧ Float64.isInf x = false := by
  unfold Float64.isFinite at h
  unfold Float64.isNaN Float64.isInf
  revert h
  cases Float64.decode x <;> simp
section
variable {C : Cx} {n : Nat} {x : UInt64} {i : Int} {b : Bool} {w : Str}
theorem fn_int_flt (h : Float64.isFinite x = true) : FN C n (.type "int") [is (.flt x)] (is (.int (PySem.Flt.toInt Float64.truncOf x))) := fn1 fun A s Z v Q E hA I hv k => by
  obtain ⟨_, rfl⟩ := rdi hv
  obtain ⟨h1, h2⟩ := fin_cases h
  exact PySem.Flt.call_int_float3 hA.handled (fun q => by rw [h1] at q; cases q) (fun q => by rw [h2] at q; cases q) fun _ => k _ Z _ (Step.toks I _) (.int _ _)
theorem fn_round_flt (h : Float64.isFinite x = true) : FN C n (.builtin "round") [is (.flt x)] (is (.int (PySem.Flt.toInt Float64.nearestOf x))) := fn1 fun A s Z v Q E hA I hv k => by
  obtain ⟨_, rfl⟩ := rdi hv
  obtain ⟨h1, h2⟩ := fin_cases h
  exact PySem.Flt.call_round_float hA.handled (fun q => by rw [h1] at q; cases q) (fun q => by rw [h2] at q; cases q) fun _ => k _ Z _ (Step.toks I _) (.int _ _)
theorem fn_int_bool : FN C n (.type "int") [is (.bool b)] (is (.int (if b then 1 else 0))) := fn1 fun A s Z v Q E hA I hv k => by
  obtain ⟨_, rfl⟩ := rdi hv
  exact call_int_bool (k _ Z _ (Step.toks I _) (.int _ _))
end
inductive IsL : List Vp → List PV → Prop where
  | nil : IsL [] []
  | cons {d : PV} {Ps : List Vp} {ds : List PV} (r : IsL Ps ds) : IsL (is d :: Ps) (d :: ds)
theorem IsL.eq : ∀ {Ps : List Vp} {ds : List PV}, IsL Ps ds → Ps = ds.map is
  | _, _, .nil => rfl
  | _, _, .cons r => by rw [r.eq]; rfl
section
variable {C : Cx} {n : Nat} {Φ : Asn C} {env : Env} {Ps : List Vp} {ds : List PV} {es : List Expr} {pos : Pos} {kk : Nat}
theorem ev_tupL (h : EL C n Φ (spliced (backTo pos (starEach es env))) Ps) (q : IsL Ps ds) (hsz : ds.length ≤ sizeLine) : EV C n Φ (eval (.Tuple es kk pos) env) (is (.tup ds)) := ev_tup (q.eq ▸ h) hsz
theorem ev_listL (h : EL C n Φ (spliced (backTo pos (starEach es env))) Ps) (q : IsL Ps ds) (hsz : ds.length ≤ sizeLine) : EV C n Φ (eval (.List es pos) env) (is (.list ds)) := ev_list (q.eq ▸ h) hsz
theorem evn_listL (h : EL C n Φ (spliced (backTo pos (starEach es env))) Ps) (q : IsL Ps ds) (hsz : ds.length ≤ sizeLine) : EVN C n Φ (eval (.List es pos) env) (fun a => isv (.ref a)) ds := evn_list (ρ := []) (q.eq ▸ h) hsz
end
noncomputable def ownN (names : List (Str × NameKind)) : List Str := (names.filter fun x => x.2 != .free).map (·.1)
theorem ownN_ok {names : List (Str × NameKind)} (nd : (names.map (·.1)).Nodup) : (ownN names).all (fun x => names.lookup x != some .free) = true := by
  refine List.all_eq_true.mpr fun x hx => ?_
  obtain ⟨p, hp, e⟩ := List.mem_map.mp hx
  obtain ⟨h1, h2⟩ := List.mem_filter.mp hp
  obtain ⟨y, k⟩ := p
  cases e
  rw [lookup_of_nodup nd h1]
  cases k <;> first | rfl | exact h2
section
variable {α : Type} {C : Cx} {n : Nat} {X : Addr → Prop} {env : Env} {nm oc : List Str} {sc : List (Str × NameKind)} {ω : List (Addr × List PV)} {κ : Addr → Option Obj} {ρ : List (Option Vp)}
  {elt target iter : Expr} {ifs : List Expr} {scope : Scope} {pos : Pos} {xs : List α} {f : α → PV} {nm' : List Str} {ρ' : List (Option Vp)}
theorem tgt_tup {ts : List Expr} {kk : Nat} {p : Pos} {ds : List PV} {Ps : List Vp} {ρ ρ' : List (Option Vp)} (q : IsL Ps ds) (r : Bds nm oc sc ts Ps ρ ρ') : Tgt nm oc sc (.Tuple ts kk p) (.tup ds) ρ ρ' := .tup (q.eq ▸ r)
theorem tgt_lst {ts : List Expr} {kk : Nat} {p : Pos} {ds : List PV} {Ps : List Vp} {ρ ρ' : List (Option Vp)} (q : IsL Ps ds) (r : Bds nm oc sc ts Ps ρ ρ') : Tgt nm oc sc (.Tuple ts kk p) (.list ds) ρ ρ' := .lst (q.eq ▸ r)
theorem comp1_ok {h : α → PV} (hit : IT C n (FS C env nm oc sc X ρ ω κ) iter env target (xs.map f)) (hfr : FreeR nm ρ sc (relN scope.names sc) scope.names nm' ρ') (hkind : scope.kind = .function) (hnd : (scope.names.map (·.1)).Nodup) (hnm' : nm' = scope.names.map (·.1)) (hsz : xs.length ≤ sizeLine)
    (step : ∀ cenv X' x, x ∈ xs → ∃ ρ'', Tgt nm' (ownN scope.names) (relN scope.names sc) target (f x) ρ' ρ'' ∧ Fgt ρ'' ρ' ∧ ∀ ω κ, EV C n (FS C cenv nm' (ownN scope.names) (relN scope.names sc) X' ρ'' ω κ) (eval elt cenv) (is (h x)))
    (hs : ∀ x, foldedSetIterable iter env x = pure x := by intro _; rfl) :
    CompOk C n X env nm oc sc ρ ω κ elt target iter [] [] scope pos (fun cenv D _ => eval elt cenv >>= fun x => call (.builtin "list.append") [.ref D, x] >>= fun _ => pure ()) xs f (fun x => [h x]) (relN scope.names sc) nm' (ownN scope.names) ρ' where
  hit := hit
  hsc' := rfl
  hfr := hfr
  hkind := hkind
  hnd := hnd
  hnm' := hnm'
  hoc := ownN_ok hnd
  ht := fun cenv D J => turn_last rfl rfl
  step := fun cenv D J X' x hx => by
    obtain ⟨ρ'', T, F, e⟩ := step cenv X' x hx
    exact ⟨ρ'', true, T, F, fun _ _ => ts_nil, fun _ => em_last fun ys κ => e _ _, fun q => nomatch q⟩
  hsz := by rw [flat_one, List.length_map]; exact hsz
  hs := hs
theorem comp1if_ok {h : α → PV} {p : α → Bool} {c : Expr} (hit : IT C n (FS C env nm oc sc X ρ ω κ) iter env target (xs.map f)) (hfr : FreeR nm ρ sc (relN scope.names sc) scope.names nm' ρ') (hkind : scope.kind = .function) (hnd : (scope.names.map (·.1)).Nodup) (hnm' : nm' = scope.names.map (·.1)) (hsz : xs.length ≤ sizeLine)
    (step : ∀ cenv X' x, x ∈ xs → ∃ ρ'', Tgt nm' (ownN scope.names) (relN scope.names sc) target (f x) ρ' ρ'' ∧ Fgt ρ'' ρ' ∧ (∀ ω κ, TV C n (FS C cenv nm' (ownN scope.names) (relN scope.names sc) X' ρ'' ω κ) (isTrue c cenv (eval c cenv)) (p x)) ∧
      (p x = true → ∀ ω κ, EV C n (FS C cenv nm' (ownN scope.names) (relN scope.names sc) X' ρ'' ω κ) (eval elt cenv) (is (h x))))
    (hs : ∀ x, foldedSetIterable iter env x = pure x := by intro _; rfl) :
    CompOk C n X env nm oc sc ρ ω κ elt target iter [c] [] scope pos (fun cenv D _ => eval elt cenv >>= fun x => call (.builtin "list.append") [.ref D, x] >>= fun _ => pure ()) xs f (fun x => if p x then [h x] else []) (relN scope.names sc) nm' (ownN scope.names) ρ' where
  hit := hit
  hsc' := rfl
  hfr := hfr
  hkind := hkind
  hnd := hnd
  hnm' := hnm'
  hoc := ownN_ok hnd
  ht := fun cenv D J => turn_last rfl rfl
  step := fun cenv D J X' x hx => by
    obtain ⟨ρ'', T, F, t, e⟩ := step cenv X' x hx
    refine ⟨ρ'', p x, T, F, fun _ _ => ts_one (t _ _), fun q => ?_, fun q => by rw [q]; rfl⟩
    rw [q]
    exact em_last fun ys κ => e q _ _
  hsz := by rw [flat_if, List.length_map]; exact Nat.le_trans (List.length_filter_le ..) hsz
  hs := hs
theorem comp2_ok {β : Type} {h : α → β → PV} {ys : α → List β} {f' : β → PV} {target' iter' : Expr} (hit : IT C n (FS C env nm oc sc X ρ ω κ) iter env target (xs.map f)) (hfr : FreeR nm ρ sc (relN scope.names sc) scope.names nm' ρ') (hkind : scope.kind = .function) (hnd : (scope.names.map (·.1)).Nodup) (hnm' : nm' = scope.names.map (·.1))
    (hsz : (xs.flatMap fun x => (ys x).map (h x)).length ≤ sizeLine)
    (step : ∀ cenv X' x, x ∈ xs → ∃ ρ'', Tgt nm' (ownN scope.names) (relN scope.names sc) target (f x) ρ' ρ'' ∧ Fgt ρ'' ρ' ∧ (∀ ω κ, IT C n (FS C cenv nm' (ownN scope.names) (relN scope.names sc) X' ρ'' ω κ) iter' cenv target' ((ys x).map f')) ∧
      (∀ v, foldedSetIterable iter' cenv v = pure v) ∧
      ∀ y, y ∈ ys x → ∃ ρ₃, Tgt nm' (ownN scope.names) (relN scope.names sc) target' (f' y) ρ'' ρ₃ ∧ Fgt ρ₃ ρ'' ∧ ∀ ω κ, EV C n (FS C cenv nm' (ownN scope.names) (relN scope.names sc) X' ρ₃ ω κ) (eval elt cenv) (is (h x y)))
    (hs : ∀ x, foldedSetIterable iter env x = pure x := by intro _; rfl) :
    CompOk C n X env nm oc sc ρ ω κ elt target iter [] [⟨target', iter', [], 0⟩] scope pos (fun cenv D _ => deepT (.ListComp elt [⟨target, iter, [], 0⟩, ⟨target', iter', [], 0⟩] scope pos) iter' 0 (.ref D) cenv) xs f (fun x => (ys x).map (h x)) (relN scope.names sc) nm' (ownN scope.names) ρ' where
  hit := hit
  hsc' := rfl
  hfr := hfr
  hkind := hkind
  hnd := hnd
  hnm' := hnm'
  hoc := ownN_ok hnd
  ht := fun cenv D J => turn_deep rfl rfl
  step := fun cenv D J X' x hx => by
    obtain ⟨ρ'', T, F, it, hs', e⟩ := step cenv X' x hx
    refine ⟨ρ'', true, T, F, fun _ _ => ts_nil, fun _ => ?_, fun q => nomatch q⟩
    have := em_deep (k := 0) (C := C) (n := n) (X := X') (env := cenv) (D := D) (t := fun _ => eval elt cenv >>= fun x => call (.builtin "list.append") [.ref D, x] >>= fun _ => pure ()) (elt := elt) (target := target) (iter := iter) (ifs := []) (scope := scope) (pos := pos)
      (gens := [⟨target, iter, [], 0⟩, ⟨target', iter', [], 0⟩]) (g := fun y => [h x y]) (xs := ys x) (f := f') (ρ := ρ'') (nm := nm') (oc := ownN scope.names) (sc := relN scope.names sc) (target' := target') (iter' := iter') (ifs' := []) rfl (fun J => turn_last rfl rfl) (fun zs κ => it _ _) (fun J y hy => by
        obtain ⟨ρ₃, T', F', e'⟩ := e y hy
        exact ⟨ρ₃, true, T', F', fun _ _ => ts_nil, fun _ => em_last fun zs κ => e' _ _, fun q => nomatch q⟩) hs'
    rw [flat_one] at this
    exact this
  hsz := hsz
  hs := hs
theorem ev_comp1 {β : Type} {t : Env → Addr → Addr → Sem β} {h : α → PV} {sc' : List (Str × NameKind)} {oc' : List Str} {gens : List Comprehension} (O : CompOk C n X env nm oc sc ρ ω κ elt target iter ifs gens scope pos t xs f (fun x => [h x]) sc' nm' oc' ρ') :
    EV C n (FS C env nm oc sc X ρ ω κ) (eval (.ListComp elt (⟨target, iter, ifs, 0⟩ :: gens) scope pos) env) (is (.list (xs.map h))) := ev_d (ev_compG O) (by rw [flat_one])
theorem ev_comp1if {β : Type} {t : Env → Addr → Addr → Sem β} {h : α → PV} {p : α → Bool} {sc' : List (Str × NameKind)} {oc' : List Str} {gens : List Comprehension} (O : CompOk C n X env nm oc sc ρ ω κ elt target iter ifs gens scope pos t xs f (fun x => if p x then [h x] else []) sc' nm' oc' ρ') :
    EV C n (FS C env nm oc sc X ρ ω κ) (eval (.ListComp elt (⟨target, iter, ifs, 0⟩ :: gens) scope pos) env) (is (.list ((xs.filter p).map h))) := ev_d (ev_compG O) (by rw [flat_if])
end
theorem bits_small {a : Int} (h : a.natAbs < 2 ^ 64) : Builtin.Int.intBits a ≤ 64 := by
  unfold Builtin.Int.intBits
  split
  · exact Nat.zero_le _
  · rename_i h0
    have : a.natAbs.log2 < 64 := (Nat.log2_lt (by simpa using h0)).mpr h
    lia
theorem mulOk_l {a b : Int} (h : a.natAbs < 18446744073709551616) : IntMulOk a b := IntMulOk.of_left (bits_small h)
theorem mulOk_r {a b : Int} (h : b.natAbs < 18446744073709551616) : IntMulOk a b := IntMulOk.of_right (bits_small h)
section
variable {C : Cx} {n : Nat} {Φ : Asn C} {iter target : Expr} {env : Env} {ds ds' : List PV} {P : Vp}
theorem it_eq (h : IT C n Φ iter env target ds) (e : ds = ds') : IT C n Φ iter env target ds' := e ▸ h
theorem it_list (h : EV C n Φ (eval iter env) (is (.list ds))) : IT C n Φ iter env target ds := it_ev h pi_list
theorem it_tup (h : EV C n Φ (eval iter env) (is (.tup ds))) : IT C n Φ iter env target ds := it_ev h pi_tup
end
section
variable {C : Cx} {n : Nat} {X : Addr → Prop} {env : Env} {nm oc : List Str} {sc : List (Str × NameKind)} {ω : List (Addr × List PV)} {κ : Addr → Option Obj} {ρ ρ' : List (Option Vp)} {Ps Ps' : List Vp} {ts : List Expr} {rest : List Stmt} {Ψ : Asn C} {R : Vp} {names : List Str}
theorem tk_nil (e : Ps = Ps') (B : Bds nm oc sc ts Ps' ρ ρ') (h : EX C n X (FS C env nm oc sc X ρ' ω κ) (execs rest env) Ψ R) :
    TupK C n X env nm oc sc ρ κ (fun Ps ω => ∃ ρ', Bds nm oc sc ts Ps ρ ρ' ∧ EX C n X (FS C env nm oc sc X ρ' ω κ) (execs rest env) Ψ R) [] Ps ω := .nil ⟨ρ', e ▸ B, h⟩
theorem tk_nil_sw {ns : List Str} (e : Ps.reverse = Ps') (e2 : names.reverse = ns) (B : Bdn nm oc sc ns Ps' ρ ρ') (h : EX C n X (FS C env nm oc sc X ρ' ω κ) (execs rest env) Ψ R) :
    TupK C n X env nm oc sc ρ κ (fun Ps ω => ∃ ρ', Bdn nm oc sc names.reverse Ps.reverse ρ ρ' ∧ EX C n X (FS C env nm oc sc X ρ' ω κ) (execs rest env) Ψ R) [] Ps ω := .nil ⟨ρ', by rw [e, e2]; exact B, h⟩
theorem exs_for {iter target : Expr} {body : List Stmt} {pos : Pos} {ds : List PV} {ρs : Nat → List (Option Vp)} {ωs : Nat → List (Addr × List PV)} (e0 : ρ = ρs 0) (e1 : ω = ωs 0) (hit : IT C n (FS C env nm oc sc X ρ ω κ) iter env target ds)
    (hω : ∀ i, (ωs i).map (·.1) = (ωs 0).map (·.1))
    (step : ∀ κ' i d, ds[i]? = some d → ∃ ρ', Tgt nm oc sc target d (ρs i) ρ' ∧ EX C n X (FS C env nm oc sc X ρ' (ωs i) κ') (execs body env) (FS C env nm oc sc X (ρs (i + 1)) (ωs (i + 1)) κ') R)
    (h : EX C n X (FS C env nm oc sc X (ρs ds.length) (ωs ds.length) κ) (execs rest env) Ψ R)
    (hs : ∀ x, foldedSetIterable iter env x = pure x := by intro _; rfl) : EX C n X (FS C env nm oc sc X ρ ω κ) (execs (.For target iter body [] pos :: rest) env) Ψ R := by
  subst e0 e1
  exact ex_cons (ex_for hit hω step hs) h
theorem ex_end {Φ : Asn C} (h : ∀ {Z h}, Φ.at_ Z h → Ψ.at_ Z h) : EX C n X Φ (execs [] env) Ψ R := ex_mono ex_nil h
end
section
variable {C : Cx} {n : Nat} {X : Addr → Prop} {env : Env} {nm oc : List Str} {sc : List (Str × NameKind)} {ω : List (Addr × List PV)} {κ : Addr → Option Obj} {ρ ρ' : List (Option Vp)} {R : Vp}
theorem ex_fgt (g : Fgt ρ ρ') : EX C n X (FS C env nm oc sc X ρ ω κ) (execs [] env) (FS C env nm oc sc X ρ' ω κ) R := ex_end fun h => h.forget g
end
theorem ex_mk {α : Sort _} {P Q : α → Prop} {a : α} (h : P a) (k : Q a) : ∃ x, P x ∧ Q x := ⟨a, h, k⟩
theorem ex_mk3 {α : Sort _} {P Q R : α → Prop} {a : α} (h : P a) (k : Q a) (r : R a) : ∃ x, P x ∧ Q x ∧ R x := ⟨a, h, k, r⟩
theorem ex_mk4 {α : Sort _} {P Q R S : α → Prop} {a : α} (h : P a) (k : Q a) (r : R a) (s : S a) : ∃ x, P x ∧ Q x ∧ R x ∧ S x := ⟨a, h, k, r, s⟩
section
open PySem.SeqAt
noncomputable def eqN : Nat → PV → PV → Bool
  | _, .int a, .int b => a == b
  | _, .str a, .str b => a == b
  | k + 1, .list l, .list m => l.length == m.length && (l.zip m).all fun p => eqN k p.1 p.2
  | k + 1, .tup l, .tup m => (l.zip m).all (fun p => eqN k p.1 p.2) && l.length == m.length
  | _, _, _ => false
noncomputable def okN : Nat → PV → PV → Bool
  | _, .int _, .int _ => true
  | _, .str _, .str _ => true
  | k + 1, .list l, .list m => l.length != m.length || (l.zip m).all fun p => okN k p.1 p.2
  | k + 1, .tup l, .tup m => (l.zip m).all fun p => okN k p.1 p.2
  | _, _, _ => false
theorem ok_inv {k : Nat} {d d' : PV} (h : okN k d d' = true) : (∃ a b, d = .int a ∧ d' = .int b) ∨ (∃ a b, d = .str a ∧ d' = .str b) ∨ (∃ j l m, k = j + 1 ∧ d = .list l ∧ d' = .list m) ∨ (∃ j l m, k = j + 1 ∧ d = .tup l ∧ d' = .tup m) := by
  unfold okN at h
  split at h
  · exact .inl ⟨_, _, rfl, rfl⟩
  · exact .inr (.inl ⟨_, _, rfl, rfl⟩)
  · exact .inr (.inr (.inl ⟨_, _, _, rfl, rfl, rfl⟩))
  · exact .inr (.inr (.inr ⟨_, _, _, rfl, rfl, rfl⟩))
  · cases h
theorem eqN_int (k : Nat) (a b : Int) : eqN k (.int a) (.int b) = (a == b) := by cases k <;> rfl
theorem eqN_str (k : Nat) (a b : Str) : eqN k (.str a) (.str b) = (a == b) := by cases k <;> rfl
theorem zip_self {l : List PV} {p : PV × PV} (hp : p ∈ l.zip l) : p.1 = p.2 := by
  obtain ⟨i, hi⟩ := List.mem_iff_getElem?.mp hp
  have e := List.getElem?_zip_eq_some.mp hi
  exact Option.some.inj (e.1.symm.trans e.2)
theorem eqN_refl (k : Nat) (d : PV) (h : okN k d d = true) : eqN k d d = true := by
  induction k generalizing d with
  | zero =>
    rcases ok_inv h with ⟨a, b, rfl, _⟩ | ⟨a, b, rfl, _⟩ | ⟨_, _, _, e, _⟩ | ⟨_, _, _, e, _⟩
    · rw [eqN_int]; exact beq_self_eq_true a
    · rw [eqN_str]; exact beq_self_eq_true a
    · cases e
    · cases e
  | succ k ih =>
    have all : ∀ l : List PV, ((l.zip l).all fun p => okN k p.1 p.2) = true → ((l.zip l).all fun p => eqN k p.1 p.2) = true := fun l h => List.all_eq_true.mpr fun p hp => by
      have := List.all_eq_true.mp h p hp
      rw [← zip_self hp] at this ⊢
      exact ih _ this
    rcases ok_inv h with ⟨a, b, rfl, _⟩ | ⟨a, b, rfl, _⟩ | ⟨_, l, _, _, rfl, _⟩ | ⟨_, l, _, _, rfl, _⟩
    · rw [eqN_int]; exact beq_self_eq_true a
    · rw [eqN_str]; exact beq_self_eq_true a
    · show (l.length == l.length && _) = true
      rw [beq_self_eq_true, Bool.true_and]
      exact all l (by rw [okN, bne_self_eq_false, Bool.false_or] at h; exact h)
    · show (_ && l.length == l.length) = true
      rw [beq_self_eq_true, Bool.and_true]
      exact all l h
def RdV (Z : Fz) (v : Value) (d : PV) : Prop := match v with
  | .none => d = .none
  | .bool b => d = .bool b
  | .int i _ => d = .int i
  | .float x _ => d = .flt x
  | .str x _ => d = .str x
  | .ref a => ∃ c vs n l, Z a = some { cls := .type c, data := .seq (List.toArray vs) n } ∧ RdL Z vs l ∧ ((c = "list" ∧ d = .list l) ∨ (c = "tuple" ∧ d = .tup l))
  | _ => False
theorem rdv {Z : Fz} {v : Value} {d : PV} (h : Rd Z v d) : RdV Z v d := by
  cases h with
  | none => exact rfl
  | bool b => exact rfl
  | int i t => exact rfl
  | flt x t => exact rfl
  | str x t => exact rfl
  | list h r => exact ⟨_, _, _, _, h, r, .inl ⟨rfl, rfl⟩⟩
  | tup h r => exact ⟨_, _, _, _, h, r, .inr ⟨rfl, rfl⟩⟩
theorem seq_inj {c c' : String} {vs vs' : List Value} {n n' : Nat} (e : (some { cls := .type c, data := .seq vs.toArray n } : Option Obj) = some { cls := .type c', data := .seq vs'.toArray n' }) : c = c' ∧ vs = vs' := by
  injection e with e
  injection e with e1 _ e2 _
  injection e2 with e2 _
  injection e1 with e1
  exact ⟨e1, congrArg Array.toList e2⟩
theorem Rd.uniq {Z : Fz} {v : Value} {d d' : PV} (h : Rd Z v d) (h' : Rd Z v d') : d = d' :=
  Rd.rec (motive_1 := fun v d _ => ∀ d', Rd Z v d' → d = d') (motive_2 := fun vs ds _ => ∀ ds', RdL Z vs ds' → ds = ds') (fun _ h => (rdv h).symm) (fun _ _ h => (rdv h).symm) (fun _ _ _ h => (rdv h).symm) (fun _ _ _ h => (rdv h).symm) (fun _ _ _ h => (rdv h).symm)
    (fun h _ ih d' h' => by
      obtain ⟨c, vs, n, l, ho, hr, ⟨_, rfl⟩ | ⟨rfl, _⟩⟩ := rdv h'
      · obtain ⟨_, rfl⟩ := seq_inj (h.symm.trans ho)
        rw [ih _ hr]
      · exact absurd (seq_inj (h.symm.trans ho)).1 (by decide))
    (fun h _ ih d' h' => by
      obtain ⟨c, vs, n, l, ho, hr, ⟨rfl, _⟩ | ⟨_, rfl⟩⟩ := rdv h'
      · exact absurd (seq_inj (h.symm.trans ho)).1 (by decide)
      · obtain ⟨_, rfl⟩ := seq_inj (h.symm.trans ho)
        rw [ih _ hr])
    (fun ds' h' => by
      cases ds' with
      | nil => rfl
      | cons _ _ => obtain ⟨_, _, e, _⟩ := rdli h'; cases e)
    (fun _ _ ih1 ih2 ds' h' => by
      cases ds' with
      | nil => have e := rdli h'; cases e
      | cons d ds => obtain ⟨_, _, e, h1, h2⟩ := rdli h'; cases e; rw [ih1 _ h1, ih2 _ h2]) h d' h'
theorem zip_all_at {l m : List PV} {p : PV × PV → Bool} {i : Nat} {a b : PV} (h : (l.zip m).all p = true) (ha : l[i]? = some a) (hb : m[i]? = some b) : p (a, b) = true :=
  List.all_eq_true.mp h _ (List.mem_of_getElem? (List.getElem?_zip_eq_some.mpr ⟨ha, hb⟩))
theorem zip_all_range {l m : List PV} {p : PV × PV → Bool} : (l.zip m).all p = (List.range (min l.length m.length)).all fun i => p (l.getD i .none, m.getD i .none) := by
  rw [Bool.eq_iff_iff]
  simp only [List.all_eq_true, List.mem_range]
  constructor
  · intro h i hi
    have h1 : i < l.length := by lia
    have h2 : i < m.length := by lia
    rw [List.getD_eq_getElem?_getD, List.getD_eq_getElem?_getD, List.getElem?_eq_getElem h1, List.getElem?_eq_getElem h2]
    exact h _ (List.mem_of_getElem? (List.getElem?_zip_eq_some.mpr ⟨List.getElem?_eq_getElem h1, List.getElem?_eq_getElem h2⟩))
  · intro h q hq
    obtain ⟨i, hi⟩ := List.mem_iff_getElem?.mp hq
    obtain ⟨a, b⟩ := List.getElem?_zip_eq_some.mp hi
    have h1 := (List.getElem?_eq_some_iff.mp a).1
    have h2 := (List.getElem?_eq_some_iff.mp b).1
    have := h i (by lia)
    rw [List.getD_eq_getElem?_getD, List.getD_eq_getElem?_getD, a, b] at this
    exact this
section
variable {C : Cx} {Z : Fz} {s : Shared}
theorem items_at {k : Nat} {l m : List PV} {vs vs' : List Value} (r : RdL Z vs l) (r' : RdL Z vs' m) (hp : ((l.zip m).all fun p => okN k p.1 p.2) = true) {A : Around}
    (ih : ∀ (d d' : PV) (v v' : Value), Rd Z v d → Rd Z v' d' → okN k d d' = true → EqAt A s v v' (eqN k d d')) (j : Nat) (h1 : j < vs.toArray.size) (h2 : j < vs'.toArray.size) : EqAt A s vs.toArray[j] vs'.toArray[j] (eqN k (l.getD j .none) (m.getD j .none)) := by
  have j1 : j < vs.length := by rw [List.size_toArray] at h1; exact h1
  have j2 : j < vs'.length := by rw [List.size_toArray] at h2; exact h2
  have g1 := List.getElem?_eq_getElem (r.length ▸ j1)
  have g2 := List.getElem?_eq_getElem (r'.length ▸ j2)
  rw [List.getD_eq_getElem?_getD, List.getD_eq_getElem?_getD, g1, g2, List.getElem_toArray, List.getElem_toArray]
  exact ih _ _ _ _ (r.at (List.getElem?_eq_getElem j1) g1) (r'.at (List.getElem?_eq_getElem j2) g2) (zip_all_at hp g1 g2)
theorem eqN_list {k : Nat} {l m : List PV} {vs : List Value} (r : RdL Z vs l) (hl : l.length = m.length) : eqN (k + 1) (.list l) (.list m) = (List.range vs.toArray.size).all fun i => eqN k (l.getD i .none) (m.getD i .none) := by
  rw [eqN, zip_all_range, List.size_toArray, r.length, hl, beq_self_eq_true, Bool.true_and, Nat.min_self]
theorem eqN_len {k : Nat} {l m : List PV} (hl : ¬ l.length = m.length) : eqN (k + 1) (.list l) (.list m) = false := by
  rw [eqN, beq_eq_false_iff_ne.mpr hl, Bool.false_and]
theorem okN_l1 {k : Nat} {l m : List PV} (h : okN (k + 1) (.list l) (.list m) = true) (hl : l.length = m.length) : ((l.zip m).all fun p => okN k p.1 p.2) = true := by
  rw [okN, hl, bne_self_eq_false, Bool.false_or] at h; exact h
theorem eq_at (I : Inv C Z s) (k : Nat) (A : Around) (d d' : PV) (v v' : Value) (h : Rd Z v d) (h' : Rd Z v' d') (hk : okN k d d' = true) (hu : A.units + k < 9900) : EqAt A s v v' (eqN k d d') := by
  induction k generalizing A d d' v v' with
  | zero =>
    rcases ok_inv hk with ⟨a, b, rfl, rfl⟩ | ⟨a, b, rfl, rfl⟩ | ⟨_, _, _, e, _⟩ | ⟨_, _, _, e, _⟩
    · obtain ⟨_, rfl⟩ := rdi h; obtain ⟨_, rfl⟩ := rdi h'
      rw [eqN_int]; exact EqAt.int_int _ _ _ _
    · obtain ⟨_, rfl⟩ := rdi h; obtain ⟨_, rfl⟩ := rdi h'
      rw [eqN_str]; exact EqAt.str_str _ _ _ _
    · cases e
    · cases e
  | succ k ih =>
    have hu1 : A.units < 9900 := Nat.lt_of_le_of_lt (Nat.le_add_right _ _) hu
    have hu2 : A.in1.units + k < 9900 := by rw [show A.in1.units = A.units + 1 from rfl, Nat.add_right_comm]; exact hu
    have ih := fun d d' v v' h h' hk => ih A.in1 d d' v v' h h' hk hu2
    rcases ok_inv hk with ⟨a, b, rfl, rfl⟩ | ⟨a, b, rfl, rfl⟩ | ⟨_, l, m, _, rfl, rfl⟩ | ⟨_, l, m, _, rfl, rfl⟩
    · obtain ⟨_, rfl⟩ := rdi h; obtain ⟨_, rfl⟩ := rdi h'
      rw [eqN_int]; exact EqAt.int_int _ _ _ _
    · obtain ⟨_, rfl⟩ := rdi h; obtain ⟨_, rfl⟩ := rdi h'
      rw [eqN_str]; exact EqAt.str_str _ _ _ _
    · obtain ⟨a, n, vs, rfl, hz, r⟩ := rdi h
      obtain ⟨a', n', vs', rfl, hz', r'⟩ := rdi h'
      by_cases e : a = a'
      · subst e
        have := Rd.uniq (Rd.list hz r) (Rd.list hz' r')
        rw [← this] at hk ⊢
        rw [eqN_refl _ _ hk]
        exact EqAt.same _
      · refine EqAt.of_refs e ?_
        by_cases hl : l.length = m.length
        · rw [eqN_list r hl]
          exact RcAt.lists (isList_of I hz) (isList_of I hz') (by rw [List.size_toArray, List.size_toArray, r.length, r'.length, hl]) hu1 (items_at r r' (okN_l1 hk hl) ih)
        · rw [eqN_len hl]
          exact RcAt.lists_lengths (isList_of I hz) (isList_of I hz') (by rw [List.size_toArray, List.size_toArray, r.length, r'.length]; exact bne_iff_ne.mpr hl) hu1
    · obtain ⟨a, n, vs, rfl, hz, r⟩ := rdi h
      obtain ⟨a', n', vs', rfl, hz', r'⟩ := rdi h'
      by_cases e : a = a'
      · subst e
        have := Rd.uniq (Rd.tup hz r) (Rd.tup hz' r')
        rw [← this] at hk ⊢
        rw [eqN_refl _ _ hk]
        exact EqAt.same _
      · refine EqAt.of_refs e ?_
        rw [show eqN (k + 1) (.tup l) (.tup m) = ((List.range (min vs.toArray.size vs'.toArray.size)).all (fun i => eqN k (l.getD i .none) (m.getD i .none)) && vs.toArray.size == vs'.toArray.size) by
          rw [eqN, zip_all_range, List.size_toArray, List.size_toArray, r.length, r'.length]]
        exact RcAt.tuples (isTup_of I hz) (isTup_of I hz') hu1 (items_at r r' hk ih)
end
section
variable {C : Cx} {n : Nat} {l m : List PV}
theorem op_eq_list (k : Nat) (hk : k ≤ 800) (h : okN (k + 1) (.list l) (.list m) = true) : OP2 C n (compareOp .Eq) (is (.list l)) (is (.list m)) (is (.bool (eqN (k + 1) (.list l) (.list m)))) := fun A s Z u v Q E hA I hu hv kk => by
  have hun : A.units < 9001 := by have := hA.units; lia
  have ih := fun d d' v v' h h' ho => eq_at I k A.in1 d d' v v' h h' ho (by rw [show A.in1.units = A.units + 1 from rfl]; lia)
  obtain ⟨a, n, vs, rfl, hz, r⟩ := rdi hu
  obtain ⟨a', n', vs', rfl, hz', r'⟩ := rdi hv
  by_cases hl : l.length = m.length
  · rw [eqN_list r hl] at kk
    exact eq_listAt (isList_of I hz) (isList_of I hz') (by rw [List.size_toArray, List.size_toArray, r.length, r'.length, hl]) (by show A.units < 9900; lia) (items_at r r' (okN_l1 h hl) ih) (kk _ Z _ (StepX.refl I) (.bool _))
  · rw [eqN_len hl] at kk
    exact eq_list_lengthsAt (isList_of I hz) (isList_of I hz') (by rw [List.size_toArray, List.size_toArray, r.length, r'.length]; exact bne_iff_ne.mpr hl) (by show A.units < 9900; lia) (kk _ Z _ (StepX.refl I) (.bool _))
end
end
section
open PySem.SeqAt
section
variable {C : Cx} {n : Nat} {X : Addr → Prop} {Φ : Asn C} {env : Env} {l m : List PV} {l' r' : Expr} {pos : Pos} {c : Bool} {R : Vp}
theorem ev_ifexpT {t b o : Expr} (ht : TV C n Φ (isTrue t env (eval t env)) c) (hc : c = true) (hb : EV C n Φ (eval b env) R) : EV C n Φ (eval (.IfExp t b o pos) env) R :=
  ev_ifexp ht (fun _ => hb) fun q => by rw [hc] at q; cases q
theorem ex_asgU {nm oc : List Str} {sc : List (Str × NameKind)} {ω : List (Addr × List PV)} {κ : Addr → Option Obj} {ts : List Expr} {kk : Nat} {p pos : Pos} {d : PV} {ρ ρ' : List (Option Vp)} {e : Expr} (he : EV C n (FS C env nm oc sc X ρ ω κ) (eval e env) (is d)) (T : Tgt nm oc sc (.Tuple ts kk p) d ρ ρ')
    (hs : swapsWithSole [.Tuple ts kk p] e pos.line env = pure false) (hw : swappedStores [.Tuple ts kk p] e env = pure none) :
    EX C n X (FS C env nm oc sc X ρ ω κ) (exec (.Assign [.Tuple ts kk p] e pos) env) (FS C env nm oc sc X ρ' ω κ) R := ex_asgT (t := e) he T hs hw
section
variable {α β : Type} {nm oc : List Str} {sc : List (Str × NameKind)} {ω : List (Addr × List PV)} {κ : Addr → Option Obj} {ρ ρ₂ : List (Option Vp)} {elt target iter : Expr} {ifs : List Expr} {gens : List Comprehension} {scope : Scope} {pos' : Pos} {t : Env → Addr → Addr → Sem β} {xs : List α} {f : α → PV} {sc' : List (Str × NameKind)} {nm' oc' : List Str} {ρ' : List (Option Vp)}
theorem ex_assignC1 {ds : List PV} {h : α → PV} {x : Str} {xp spos : Pos} (O : CompOk C n X env nm oc sc ρ ω κ elt target iter ifs gens scope pos' t xs f (fun x => [h x]) sc' nm' oc' ρ') (e : xs.map h = ds) (hu : Upd nm ρ x (some (is (.list ds))) ρ₂) (pl : PlainName x) (hk : canSt sc oc x = true)
    (hsw : swapsWith (.ListComp elt (⟨target, iter, ifs, 0⟩ :: gens) scope pos') (some (.Name x xp)) spos.line env = pure true) :
    EX C n X (FS C env nm oc sc X ρ ω κ) (exec (.Assign [.Name x xp] (.ListComp elt (⟨target, iter, ifs, 0⟩ :: gens) scope pos') spos) env) (FS C env nm oc sc X ρ₂ ω κ) R := by
  refine ex_assignC hsw O ?_ pl hk
  rw [flat_one, e]; exact hu
theorem ex_assignCG {g : α → List PV} {ds : List PV} {x : Str} {xp spos : Pos} (O : CompOk C n X env nm oc sc ρ ω κ elt target iter ifs gens scope pos' t xs f g sc' nm' oc' ρ') (e : xs.flatMap g = ds) (hu : Upd nm ρ x (some (is (.list ds))) ρ₂) (pl : PlainName x) (hk : canSt sc oc x = true)
    (hsw : swapsWith (.ListComp elt (⟨target, iter, ifs, 0⟩ :: gens) scope pos') (some (.Name x xp)) spos.line env = pure true) :
    EX C n X (FS C env nm oc sc X ρ ω κ) (exec (.Assign [.Name x xp] (.ListComp elt (⟨target, iter, ifs, 0⟩ :: gens) scope pos') spos) env) (FS C env nm oc sc X ρ₂ ω κ) R := by
  refine ex_assignC hsw O ?_ pl hk
  rw [e]; exact hu
noncomputable def offV : Vp := ⟨fun _ _ => False, fun _ h => h⟩
theorem ex_off {Ψ : Asn C} {x : Str} {t : Sem Flow} (h : At nm ρ x offV) : EX C n X (FS C env nm oc sc X ρ ω κ) t Ψ R := fun A s Z Q E hA I H k1 k2 => by
  obtain ⟨v, _, h⟩ := h.var H.vars
  exact h.elim
end
end
end
local macro_rules | `(tactic| walk_at "rfl") => `(tactic| first | exact rfl | (subst_vars; exact rfl))
local macro_rules | `(tactic| walk_at "at") => `(tactic| first
  | with_reducible (first | exact At.here | exact At.a1 | exact At.a2 | exact At.a3 | exact Upd.here | exact Upd.a1 | exact Upd.a2 | exact Upd.a3 | exact Fgt.nil | exact IsL.nil | exact Bds.nil | exact Bdn.nil | exact FreeR.nil)
  | ((with_reducible (first | apply At.t4 | apply Upd.t4 | apply IsL.cons | apply Fgt.same | apply Fgt.drop)); walk_at "at")
  | ((with_reducible (first | apply Bds.cons | apply Bdn.cons)); walk_at "at"; decide +kernel; decide +kernel; walk_at "at")
  | ((with_reducible apply Tgt.name); walk_at "at"; decide +kernel; decide +kernel)
  | ((with_reducible (first | apply tgt_tup | apply tgt_lst)); walk_at "at"; walk_at "at")
  | ((with_reducible apply FreeR.own); exact rfl; walk_at "at")
  | ((with_reducible apply FreeR.free); walk_at "at"; exact rfl; exact rfl; walk_at "at"))
local macro_rules | `(tactic| walk_at "nz") => `(tactic| first | assumption | decide | decide +kernel | exact PyProof.noPylong_small (by decide +kernel) | exact PyProof.noPylong_small (by omega) | omega)
local macro_rules | `(tactic| walk_at "op") => `(tactic| first
  | with_reducible (first | exact op_add_int | exact op_sub_int | exact op_add_flt | exact op_sub_flt | exact op_mul_flt | exact op_lt_int | exact op_le_int | exact op_gt_int | exact op_ge_int | exact op_eq_int | exact op_ne_int | exact op_lt_flt | exact op_le_flt | exact op_eq_flt | exact op_eq_str | exact op_is_bool | exact op_xor_int | exact op_neg_int | exact op_inv_int)
  | ((with_reducible (first | apply op_mod_flt | apply op_div_flt | apply op_sub_fi | apply op_mul_fi | apply op_mul_if | apply op_pow_int | apply op_mod_int | apply op_div_int | apply op_tdiv_int | apply op_div_if)) <;> walk_at "nz")
  | ((with_reducible apply op_mul_int); first | assumption | exact IntMulOk.of_left (by decide +kernel) | exact IntMulOk.of_right (by decide +kernel) | exact mulOk_l (by omega) | exact mulOk_r (by omega))
  | ((with_reducible apply op_item_list); exact rfl; exact rfl; exact Nat.le_of_ble_eq_true rfl; (intro _ _; rfl))
  | ((with_reducible apply op_item_tup); exact rfl; exact rfl; decide; decide; (intro _ _; rfl)))
local macro_rules | `(tactic| walk_at "sz") => `(tactic| first | assumption | exact Nat.le_of_ble_eq_true rfl | (simp only [List.length_map, List.length_cons, List.length_nil, List.length_append, List.length_range, List.length_zip, sizeLine_eq]; omega))
local macro_rules | `(tactic| walk_at "fn") => `(tactic| first | with_reducible (first | exact fn_max3F | exact fn_min3F | exact fn_max3I | exact fn_min3I) | ((with_reducible (first | apply fn_int_flt | apply fn_round_flt)); walk_at "nz"))
local macro_rules | `(tactic| walk_at "def") => `(tactic| fail)
local macro_rules | `(tactic| walk_at "ev") => `(tactic| first
  | with_reducible (first | exact ev_int | exact ev_flt | exact ev_str | exact ev_none | exact ev_bool | exact el_nil)
  | ((with_reducible apply ev_name); walk_at "at")
  | (focus (with_reducible apply ev_globd); (with_reducible assumption); all_goals exact rfl)
  | ((with_reducible (first | apply ev_bin | apply ev_sub)); walk_at "ev"; walk_at "ev"; walk_at "op")
  | ((with_reducible apply ev_un); walk_at "ev"; walk_at "op")
  | (focus (with_reducible apply ev_callBt); (with_reducible assumption); walk_at "ev"; walk_at "fn"; all_goals exact rfl)
  | (focus (with_reducible apply ev_callTt); (with_reducible assumption); walk_at "ev"; walk_at "fn"; all_goals exact rfl)
  | (focus (with_reducible apply ev_callD); walk_at "ev"; walk_at "def"; decide; all_goals exact rfl)
  | ((with_reducible apply el_cons); walk_at "ev"; walk_at "ev"; exact rfl)
  | ((with_reducible (first | apply ev_tupL | apply ev_listL)); walk_at "ev"; walk_at "at"; exact Nat.le_of_ble_eq_true rfl)
  | ((with_reducible (first | apply ev_cmp | apply tv_cmp)); walk_at "ev"; walk_at "ev"; walk_at "op"; exact rfl))
local macro_rules | `(tactic| walk_at "asn") => `(tactic| ((with_reducible apply ex_cons); (focus ((with_reducible apply ex_assign); walk_at "ev"; walk_at "at"; decide +kernel; decide +kernel; walk_at "rfl"))))
local macro_rules | `(tactic| walk_at "fgtd") => `(tactic| first | exact Fgt.nil | ((first | apply Fgt.same | apply Fgt.drop); walk_at "fgtd"))
local macro_rules | `(tactic| walk_at "if") => `(tactic| ((with_reducible apply ex_ifs); walk_at "ev"; all_goals (try simp only [List.cons_append, List.nil_append])))
local macro_rules | `(tactic| walk_at "ret") => `(tactic| ((with_reducible apply ex_ret); (with_reducible apply ev_d); walk_at "ev"))
noncomputable abbrev nmS : List Str := [sQ "script", sQ "heaps", sQ "spot", sQ "folds", sQ "first", sQ "share", sQ "value", sQ "apart", sQ "steps", sQ "wheel", sQ "rules", sQ "trail", sQ "due", sQ "walks", sQ "name", sQ "text", sQ "row", sQ "letter", sQ "sixth", sQ "far", sQ "spots", sQ "edges", sQ "number", sQ "back", sQ "names"]
noncomputable def vF (m1 m2 hue : UInt64) : UInt64 :=
  let h := (Float64.divmod hue 4607182418800017408).2
  if ltF h 4595172819793696085 then Float64.add m1 (Float64.mul (Float64.mul (Float64.sub m2 m1) h) 4618441417868443648)
  else if ltF h 4602678819172646912 then m2
  else if ltF h 4604180019048437077 then Float64.add m1 (Float64.mul (Float64.mul (Float64.sub m2 m1) (Float64.sub 4604180019048437077 h)) 4618441417868443648)
  else m1
structure ColK (C : Cx) : Prop where
  q : Quiet C
  third : GlobD C (sQ "ONE_THIRD") (.flt 4599676419421066581)
  sixth : GlobD C (sQ "ONE_SIXTH") (.flt 4595172819793696085)
  two : GlobD C (sQ "TWO_THIRD") (.flt 4604180019048437077)
  max : BltZ C (sQ "max") (.builtin "max")
  min : BltZ C (sQ "min") (.builtin "min")
  int : BltZ C (sQ "int") (.type "int")
  dv : DefAt C pw 21 (sQ "_v")
  hls : DefAt C pw 19 (sQ "rgb_to_hls")
  slh : DefAt C pw 20 (sQ "hls_to_rgb")
  hsv : DefAt C pw 22 (sQ "rgb_to_hsv")
  vsh : DefAt C pw 23 (sQ "hsv_to_rgb")
section
variable {C : Cx}
theorem d_v (K : ColK C) (m1 m2 hue : UInt64) : DefC C 2 (sQ "_v") [is (.flt m1), is (.flt m2), is (.flt hue)] (is (.flt (vF m1 m2 hue))) := by
  obtain ⟨f, q, doc, pm, cd, hg, ho, hcd⟩ := K.dv
  have g1 := K.sixth
  have g2 := K.two
  refine ⟨f, hg, ⟨_, _, ho, rfl⟩, fn_def (n := 0) (sc := scOf (stAt pw 21)) (ρ := [some (is (.flt m1)), some (is (.flt m2)), some (is (.flt hue))]) (nm := [sQ "m1", sQ "m2", sQ "hue"]) (xs := [sQ "m1", sQ "m2", sQ "hue"]) K.q ho rfl hcd rfl rfl rfl rfl rfl (bnd3 fun _ _ _ => by kernel_rfl) rfl (by decide +kernel) (by decide +kernel) (by decide +kernel) (by decide +kernel) rfl fun L X => ?_⟩
  walk_at "asn"
  walk_at "if"
  · intro h1
    walk_at "ret"
    simp only [vF, h1]; rfl
  intro h1
  walk_at "if"
  · intro h2
    walk_at "ret"
    simp only [vF, h1, h2]; rfl
  intro h2
  walk_at "if"
  · intro h3
    walk_at "ret"
    simp only [vF, h1, h2, h3]; rfl
  intro h3
  walk_at "ret"
  simp only [vF, h1, h2, h3]; rfl
noncomputable def slhF (h l s : UInt64) : UInt64 × UInt64 × UInt64 :=
  if eqF s 0 then (l, l, l) else
    let m2 := if leF l 4602678819172646912 then Float64.mul l (Float64.add 4607182418800017408 s) else Float64.sub (Float64.add l s) (Float64.mul l s)
    let m1 := Float64.sub (Float64.mul 4611686018427387904 l) m2
    (vF m1 m2 (Float64.add h 4599676419421066581), vF m1 m2 h, vF m1 m2 (Float64.sub h 4599676419421066581))
noncomputable def t3 (x : UInt64 × UInt64 × UInt64) : PV := .tup [.flt x.1, .flt x.2.1, .flt x.2.2]
local macro_rules | `(tactic| walk_at "def") => `(tactic| (with_reducible apply d_v; assumption))
theorem d_slh (K : ColK C) (h l s : UInt64) : DefC C 3 (sQ "hls_to_rgb") [is (.flt h), is (.flt l), is (.flt s)] (is (t3 (slhF h l s))) := by
  obtain ⟨f, q, doc, pm, cd, hg, ho, hcd⟩ := K.slh
  have g1 := K.third
  refine ⟨f, hg, ⟨_, _, ho, rfl⟩, fn_def (n := 1) (sc := scOf (stAt pw 20)) (ρ := [some (is (.flt h)), some (is (.flt l)), some (is (.flt s)), none, none]) (nm := [sQ "h", sQ "l", sQ "s", sQ "m2", sQ "m1"]) (xs := [sQ "h", sQ "l", sQ "s"]) K.q ho rfl hcd rfl rfl rfl rfl rfl (bnd3 fun _ _ _ => by kernel_rfl) rfl (by decide +kernel) (by decide +kernel) (by decide +kernel) (by decide +kernel) rfl fun L X => ?_⟩
  walk_at "if"
  · intro h1
    walk_at "ret"
    simp only [slhF, h1]; rfl
  intro h1
  walk_at "if"
  · intro h2
    walk_at "asn"
    walk_at "asn"
    walk_at "ret"
    simp only [slhF, h1, h2]; rfl
  · intro h2
    walk_at "asn"
    walk_at "asn"
    walk_at "ret"
    simp only [slhF, h1, h2]; rfl
noncomputable def hueF (r g b mx rg : UInt64) : UInt64 :=
  let rc := Float64.div (Float64.sub mx r) rg
  let gc := Float64.div (Float64.sub mx g) rg
  let bc := Float64.div (Float64.sub mx b) rg
  let h := if eqF r mx then Float64.sub bc gc else if eqF g mx then Float64.sub (Float64.add 4611686018427387904 rc) bc else Float64.sub (Float64.add 4616189618054758400 gc) rc
  (Float64.divmod (Float64.div h 4618441417868443648) 4607182418800017408).2
noncomputable def hsvF (r g b : UInt64) : UInt64 × UInt64 × UInt64 :=
  let mx := mxF r g b
  let mn := mnF r g b
  let rg := Float64.sub mx mn
  if eqF mn mx then (0, 0, mx) else (hueF r g b mx rg, Float64.div rg mx, mx)
noncomputable def hlsF (r g b : UInt64) : UInt64 × UInt64 × UInt64 :=
  let mx := mxF r g b
  let mn := mnF r g b
  let sm := Float64.add mx mn
  let rg := Float64.sub mx mn
  let l := Float64.div sm 4611686018427387904
  if eqF mn mx then (0, l, 0) else
    (hueF r g b mx rg, l, if leF l 4602678819172646912 then Float64.div rg sm else Float64.div rg (Float64.sub (Float64.sub 4611686018427387904 mx) mn))
theorem d_hsv (K : ColK C) (r g b : UInt64) (z1 : Float64.isZero (mxF r g b) = false) (z2 : Float64.isZero (Float64.sub (mxF r g b) (mnF r g b)) = false) :
    DefC C 2 (sQ "rgb_to_hsv") [is (.flt r), is (.flt g), is (.flt b)] (is (t3 (hsvF r g b))) := by
  obtain ⟨f, q, doc, pm, cd, hg, ho, hcd⟩ := K.hsv
  have g1 := K.max
  have g2 := K.min
  refine ⟨f, hg, ⟨_, _, ho, rfl⟩, fn_def (n := 0) (sc := scOf (stAt pw 22)) (ρ := [some (is (.flt r)), some (is (.flt g)), some (is (.flt b)), none, none, none, none, none, none, none, none, none]) (nm := [sQ "r", sQ "g", sQ "b", sQ "maxc", sQ "minc", sQ "rangec", sQ "v", sQ "s", sQ "rc", sQ "gc", sQ "bc", sQ "h"]) (xs := [sQ "r", sQ "g", sQ "b"]) K.q ho rfl hcd rfl rfl rfl rfl rfl (bnd3 fun _ _ _ => by kernel_rfl) rfl (by decide +kernel) (by decide +kernel) (by decide +kernel) (by decide +kernel) rfl fun L X => ?_⟩
  walk_at "asn"
  walk_at "asn"
  walk_at "asn"
  walk_at "asn"
  walk_at "if"
  · intro h1
    walk_at "ret"
    simp only [hsvF, h1]; rfl
  intro h1
  walk_at "asn"
  walk_at "asn"
  walk_at "asn"
  walk_at "asn"
  walk_at "if"
  · intro h2
    walk_at "asn"
    walk_at "asn"
    walk_at "ret"
    simp only [hsvF, hueF, h1, h2]; rfl
  intro h2
  walk_at "if"
  · intro h3
    walk_at "asn"
    walk_at "asn"
    walk_at "ret"
    simp only [hsvF, hueF, h1, h2, h3]; rfl
  · intro h3
    walk_at "asn"
    walk_at "asn"
    walk_at "ret"
    simp only [hsvF, hueF, h1, h2, h3]; rfl
theorem d_hls (K : ColK C) (r g b : UInt64) (z1 : Float64.isZero (Float64.add (mxF r g b) (mnF r g b)) = false) (z2 : Float64.isZero (Float64.sub (mxF r g b) (mnF r g b)) = false)
    (z3 : Float64.isZero (Float64.sub (Float64.sub 4611686018427387904 (mxF r g b)) (mnF r g b)) = false) :
    DefC C 2 (sQ "rgb_to_hls") [is (.flt r), is (.flt g), is (.flt b)] (is (t3 (hlsF r g b))) := by
  obtain ⟨f, q, doc, pm, cd, hg, ho, hcd⟩ := K.hls
  have g1 := K.max
  have g2 := K.min
  refine ⟨f, hg, ⟨_, _, ho, rfl⟩, fn_def (n := 0) (sc := scOf (stAt pw 19)) (ρ := [some (is (.flt r)), some (is (.flt g)), some (is (.flt b)), none, none, none, none, none, none, none, none, none, none]) (nm := [sQ "r", sQ "g", sQ "b", sQ "maxc", sQ "minc", sQ "rangec", sQ "sumc", sQ "l", sQ "s", sQ "rc", sQ "gc", sQ "bc", sQ "h"]) (xs := [sQ "r", sQ "g", sQ "b"]) K.q ho rfl hcd rfl rfl rfl rfl rfl (bnd3 fun _ _ _ => by kernel_rfl) rfl (by decide +kernel) (by decide +kernel) (by decide +kernel) (by decide +kernel) rfl fun L X => ?_⟩
  walk_at "asn"
  walk_at "asn"
  walk_at "asn"
  walk_at "asn"
  walk_at "asn"
  walk_at "if"
  · intro h1
    walk_at "ret"
    simp only [hlsF, h1]; rfl
  intro h1
  obtain ⟨S, hS⟩ : ∃ S, S = if leF (Float64.div (Float64.add (mxF r g b) (mnF r g b)) 4611686018427387904) 4602678819172646912 then Float64.div (Float64.sub (mxF r g b) (mnF r g b)) (Float64.add (mxF r g b) (mnF r g b)) else Float64.div (Float64.sub (mxF r g b) (mnF r g b)) (Float64.sub (Float64.sub 4611686018427387904 (mxF r g b)) (mnF r g b)) := ⟨_, rfl⟩
  have fin : hlsF r g b = (hueF r g b (mxF r g b) (Float64.sub (mxF r g b) (mnF r g b)), Float64.div (Float64.add (mxF r g b) (mnF r g b)) 4611686018427387904, S) := by
    simp only [hlsF, h1, hS]; rfl
  apply ex_cons
  · apply ex_if (Ψ := FS C _ [sQ "r", sQ "g", sQ "b", sQ "maxc", sQ "minc", sQ "rangec", sQ "sumc", sQ "l", sQ "s", sQ "rc", sQ "gc", sQ "bc", sQ "h"] _ _ X [some (is (.flt r)), some (is (.flt g)), some (is (.flt b)), some (is (.flt (mxF r g b))), some (is (.flt (mnF r g b))), some (is (.flt (Float64.sub (mxF r g b) (mnF r g b)))), some (is (.flt (Float64.add (mxF r g b) (mnF r g b)))), some (is (.flt (Float64.div (Float64.add (mxF r g b) (mnF r g b)) 4611686018427387904))), some (is (.flt S)), none, none, none, none] [] _)
    · walk_at "ev"
    · intro h0
      rw [hS, if_pos h0]
      walk_at "asn"
      exact ex_nil
    · intro h0
      rw [hS, if_neg (fun e => by rw [h0] at e; cases e)]
      walk_at "asn"
      exact ex_nil
  rw [fin]
  walk_at "asn"
  walk_at "asn"
  walk_at "asn"
  walk_at "if"
  · intro h2
    walk_at "asn"
    walk_at "asn"
    walk_at "ret"
    simp only [hueF, h2]; rfl
  intro h2
  walk_at "if"
  · intro h3
    walk_at "asn"
    walk_at "asn"
    walk_at "ret"
    simp only [hueF, h2, h3]; rfl
  · intro h3
    walk_at "asn"
    walk_at "asn"
    walk_at "ret"
    simp only [hueF, h2, h3]; rfl
end
section
variable {C : Cx}
noncomputable def vshF (h s v : UInt64) : UInt64 × UInt64 × UInt64 :=
  if eqF s 0 then (v, v, v) else
    let h6 := Float64.mul h 4618441417868443648
    let i := PySem.Flt.toInt Float64.truncOf h6
    let f := Float64.sub h6 (Float64.ofInt i)
    let p := Float64.mul v (Float64.sub 4607182418800017408 s)
    let q := Float64.mul v (Float64.sub 4607182418800017408 (Float64.mul s f))
    let t := Float64.mul v (Float64.sub 4607182418800017408 (Float64.mul s (Float64.sub 4607182418800017408 f)))
    if i.fmod 6 == 0 then (v, t, p) else if i.fmod 6 == 1 then (q, v, p) else if i.fmod 6 == 2 then (p, v, t) else if i.fmod 6 == 3 then (p, q, v) else if i.fmod 6 == 4 then (t, p, v) else (v, p, q)
theorem d_vsh (K : ColK C) (h s v : UInt64) (z1 : Float64.isFinite (Float64.mul h 4618441417868443648) = true) (z2 : (PySem.Flt.toInt Float64.truncOf (Float64.mul h 4618441417868443648)).natAbs < 2 ^ 1023) :
    DefC C 2 (sQ "hsv_to_rgb") [is (.flt h), is (.flt s), is (.flt v)] (is (t3 (vshF h s v))) := by
  obtain ⟨f, q, doc, pm, cd, hg, ho, hcd⟩ := K.vsh
  have g1 := K.int
  refine ⟨f, hg, ⟨_, _, ho, rfl⟩, fn_def (n := 0) (sc := scOf (stAt pw 23)) (ρ := [some (is (.flt h)), some (is (.flt s)), some (is (.flt v)), none, none, none, none, none]) (nm := [sQ "h", sQ "s", sQ "v", sQ "i", sQ "f", sQ "p", sQ "q", sQ "t"]) (xs := [sQ "h", sQ "s", sQ "v"]) K.q ho rfl hcd rfl rfl rfl rfl rfl (bnd3 fun _ _ _ => by kernel_rfl) rfl (by decide +kernel) (by decide +kernel) (by decide +kernel) (by decide +kernel) rfl fun L X => ?_⟩
  walk_at "if"
  · intro h1
    walk_at "ret"
    simp only [vshF, h1]; rfl
  intro h1
  walk_at "asn"
  walk_at "asn"
  walk_at "asn"
  walk_at "asn"
  walk_at "asn"
  walk_at "asn"
  walk_at "if"
  · intro k0
    walk_at "ret"
    simp only [vshF, h1, k0]; rfl
  intro k0
  walk_at "if"
  · intro k1
    walk_at "ret"
    simp only [vshF, h1, k0, k1]; rfl
  intro k1
  walk_at "if"
  · intro k2
    walk_at "ret"
    simp only [vshF, h1, k0, k1, k2]; rfl
  intro k2
  walk_at "if"
  · intro k3
    walk_at "ret"
    simp only [vshF, h1, k0, k1, k2, k3]; rfl
  intro k3
  walk_at "if"
  · intro k4
    walk_at "ret"
    simp only [vshF, h1, k0, k1, k2, k3, k4]; rfl
  intro k4
  walk_at "if"
  · intro k5
    walk_at "ret"
    simp only [vshF, h1, k0, k1, k2, k3, k4, k5]; rfl
  intro k5
  exfalso
  simp only [beq_eq_false_iff_ne, ne_eq] at k0 k1 k2 k3 k4 k5
  have b1 := Int.fmod_nonneg_of_pos (PySem.Flt.toInt Float64.truncOf (Float64.mul h 4618441417868443648)) (b := 6) (by decide)
  have b2 := Int.fmod_lt_of_pos (PySem.Flt.toInt Float64.truncOf (Float64.mul h 4618441417868443648)) (b := 6) (by decide)
  lia
end
section
variable {C : Cx}
theorem d_hsv1 (K : ColK C) : DefC C 2 (sQ "rgb_to_hsv") [is (.int 1), is (.int 1), is (.int 0)] (is (.tup [.flt 4595172819793696085, .flt 4607182418800017408, .int 1])) := by
  obtain ⟨f, q, doc, pm, cd, hg, ho, hcd⟩ := K.hsv
  have g1 := K.max
  have g2 := K.min
  refine ⟨f, hg, ⟨_, _, ho, rfl⟩, fn_def (n := 0) (sc := scOf (stAt pw 22)) (ρ := [some (is (.int 1)), some (is (.int 1)), some (is (.int 0)), none, none, none, none, none, none, none, none, none]) (nm := [sQ "r", sQ "g", sQ "b", sQ "maxc", sQ "minc", sQ "rangec", sQ "v", sQ "s", sQ "rc", sQ "gc", sQ "bc", sQ "h"]) (xs := [sQ "r", sQ "g", sQ "b"]) K.q ho rfl hcd rfl rfl rfl rfl rfl (bnd3 fun _ _ _ => by kernel_rfl) rfl (by decide +kernel) (by decide +kernel) (by decide +kernel) (by decide +kernel) rfl fun L X => ?_⟩
  walk_at "asn"
  walk_at "asn"
  walk_at "asn"
  walk_at "asn"
  walk_at "if"
  · intro h1
    exact absurd h1 (by decide +kernel)
  intro h1
  walk_at "asn"
  walk_at "asn"
  walk_at "asn"
  walk_at "asn"
  walk_at "if"
  · intro h2
    walk_at "asn"
    walk_at "asn"
    walk_at "ret"
    congr 1
    congr 1
    · congr 1; decide +kernel
    · congr 1; congr 1; decide +kernel
  intro h2
  exact absurd h2 (by decide +kernel)
theorem d_hls1 (K : ColK C) : DefC C 2 (sQ "rgb_to_hls") [is (.int 1), is (.int 1), is (.int 0)] (is (.tup [.flt 4595172819793696085, .flt 4602678819172646912, .flt 4607182418800017408])) := by
  obtain ⟨f, q, doc, pm, cd, hg, ho, hcd⟩ := K.hls
  have g1 := K.max
  have g2 := K.min
  refine ⟨f, hg, ⟨_, _, ho, rfl⟩, fn_def (n := 0) (sc := scOf (stAt pw 19)) (ρ := [some (is (.int 1)), some (is (.int 1)), some (is (.int 0)), none, none, none, none, none, none, none, none, none, none]) (nm := [sQ "r", sQ "g", sQ "b", sQ "maxc", sQ "minc", sQ "rangec", sQ "sumc", sQ "l", sQ "s", sQ "rc", sQ "gc", sQ "bc", sQ "h"]) (xs := [sQ "r", sQ "g", sQ "b"]) K.q ho rfl hcd rfl rfl rfl rfl rfl (bnd3 fun _ _ _ => by kernel_rfl) rfl (by decide +kernel) (by decide +kernel) (by decide +kernel) (by decide +kernel) rfl fun L X => ?_⟩
  walk_at "asn"
  walk_at "asn"
  walk_at "asn"
  walk_at "asn"
  walk_at "asn"
  walk_at "if"
  · intro h1
    exact absurd h1 (by decide +kernel)
  intro h1
  walk_at "if"
  · intro h0
    walk_at "asn"
    walk_at "asn"
    walk_at "asn"
    walk_at "asn"
    walk_at "if"
    · intro h2
      walk_at "asn"
      walk_at "asn"
      walk_at "ret"
      congr 1
      congr 1
      · congr 1; decide +kernel
      · congr 1
        · congr 1; decide +kernel
        · congr 1; congr 1; decide +kernel
    intro h2
    exact absurd h2 (by decide +kernel)
  · intro h0
    exact absurd h0 (by decide +kernel)
end
structure LawK (C : Cx) : Prop extends ColK C where
  nt : GlobD C (sQ "NT_OFFSET") (.int 256)
  em : GlobD C (sQ "ENDMARKER") (.int 0)
  range : BltZ C (sQ "range") (.type "range")
  zip : BltZ C (sQ "zip") (.type "zip")
  round : BltZ C (sQ "round") (.builtin "round")
  term : DefAt C pw 76 (sQ "ISTERMINAL")
  nonterm : DefAt C pw 77 (sQ "ISNONTERMINAL")
  eof : DefAt C pw 78 (sQ "ISEOF")
  unfolded : DefAt C pw 80 (sQ "_law_unfolded")
  turned : DefAt C pw 81 (sQ "_law_turned")
  walk : DefAt C pw 82 (sQ "_law_walk")
  round3 : DefAt C pw 83 (sQ "_law_round")
  due : DefAt C pw 84 (sQ "_law_due")
  far : DefAt C pw 85 (sQ "_law_far")
  there : DefAt C pw 86 (sQ "_law_there")
  names : DefAt C pw 87 (sQ "_law_names")
section
variable {C : Cx}
theorem d_term (K : LawK C) (x : Int) : DefC C 2 (sQ "ISTERMINAL") [is (.int x)] (is (.bool (decide (x < 256)))) := by
  obtain ⟨f, q, doc, pm, cd, hg, ho, hcd⟩ := K.term
  have g1 := K.nt
  refine ⟨f, hg, ⟨_, _, ho, rfl⟩, fn_def (n := 0) (sc := scOf (stAt pw 76)) (ρ := [some (is (.int x))]) (nm := [sQ "x"]) (xs := [sQ "x"]) K.q ho rfl hcd rfl rfl rfl rfl rfl (bnd1 fun _ => by kernel_rfl) rfl (by decide +kernel) (by decide +kernel) (by decide +kernel) (by decide +kernel) rfl fun L X => ?_⟩
  walk_at "ret"
  rfl
theorem d_nonterm (K : LawK C) (x : Int) : DefC C 2 (sQ "ISNONTERMINAL") [is (.int x)] (is (.bool (decide (256 ≤ x)))) := by
  obtain ⟨f, q, doc, pm, cd, hg, ho, hcd⟩ := K.nonterm
  have g1 := K.nt
  refine ⟨f, hg, ⟨_, _, ho, rfl⟩, fn_def (n := 0) (sc := scOf (stAt pw 77)) (ρ := [some (is (.int x))]) (nm := [sQ "x"]) (xs := [sQ "x"]) K.q ho rfl hcd rfl rfl rfl rfl rfl (bnd1 fun _ => by kernel_rfl) rfl (by decide +kernel) (by decide +kernel) (by decide +kernel) (by decide +kernel) rfl fun L X => ?_⟩
  walk_at "ret"
  rfl
theorem d_eof (K : LawK C) (x : Int) : DefC C 2 (sQ "ISEOF") [is (.int x)] (is (.bool (x == 0))) := by
  obtain ⟨f, q, doc, pm, cd, hg, ho, hcd⟩ := K.eof
  have g1 := K.em
  refine ⟨f, hg, ⟨_, _, ho, rfl⟩, fn_def (n := 0) (sc := scOf (stAt pw 78)) (ρ := [some (is (.int x))]) (nm := [sQ "x"]) (xs := [sQ "x"]) K.q ho rfl hcd rfl rfl rfl rfl rfl (bnd1 fun _ => by kernel_rfl) rfl (by decide +kernel) (by decide +kernel) (by decide +kernel) (by decide +kernel) rfl fun L X => ?_⟩
  walk_at "ret"
  rfl
end
section
noncomputable def d16 (c : Int) : UInt64 := Float64.ofFrac (decide (c < 0) != decide ((16 : Int) < 0)) c.natAbs (16 : Int).natAbs
noncomputable def b30 (x : UInt64) : UInt64 := Float64.mul x (Float64.ofInt ((2 : Int) ^ (30 : Int).toNat))
noncomputable def wholeF (x : UInt64) : Int := PySem.Flt.toInt Float64.nearestOf (b30 x)
noncomputable def hueB (c1 c2 c3 sx : Int) : UInt64 := Float64.add (hsvF (d16 c1) (d16 c2) (d16 c3)).1 (Float64.mul (Float64.ofInt sx) 4595172819793696085)
noncomputable def partB (c1 c2 c3 sx : Int) : UInt64 × UInt64 × UInt64 := vshF (hueB c1 c2 c3 sx) (hsvF (d16 c1) (d16 c2) (d16 c3)).2.1 (hsvF (d16 c1) (d16 c2) (d16 c3)).2.2
noncomputable def hueA (c1 c2 c3 : Int) : UInt64 := Float64.add (hlsF (d16 c1) (d16 c2) (d16 c3)).1 (Float64.mul (Float64.ofInt 4) 4595172819793696085)
noncomputable def partA (c1 c2 c3 : Int) : UInt64 × UInt64 × UInt64 := slhF (hueA c1 c2 c3) (hlsF (d16 c1) (d16 c2) (d16 c3)).2.1 (hlsF (d16 c1) (d16 c2) (d16 c3)).2.2
noncomputable def okB (c1 c2 c3 sx : Int) : Bool :=
  !Float64.isZero (mxF (d16 c1) (d16 c2) (d16 c3)) && !Float64.isZero (Float64.sub (mxF (d16 c1) (d16 c2) (d16 c3)) (mnF (d16 c1) (d16 c2) (d16 c3))) &&
  Float64.isFinite (Float64.mul (hueB c1 c2 c3 sx) 4618441417868443648) && decide ((PySem.Flt.toInt Float64.truncOf (Float64.mul (hueB c1 c2 c3 sx) 4618441417868443648)).natAbs < 1000)
noncomputable def okA (c1 c2 c3 : Int) : Bool :=
  !Float64.isZero (Float64.add (mxF (d16 c1) (d16 c2) (d16 c3)) (mnF (d16 c1) (d16 c2) (d16 c3))) && !Float64.isZero (Float64.sub (mxF (d16 c1) (d16 c2) (d16 c3)) (mnF (d16 c1) (d16 c2) (d16 c3))) &&
  !Float64.isZero (Float64.sub (Float64.sub 4611686018427387904 (mxF (d16 c1) (d16 c2) (d16 c3))) (mnF (d16 c1) (d16 c2) (d16 c3)))
noncomputable def okW (p : UInt64 × UInt64 × UInt64) (d1 d2 d3 : Int) : Bool :=
  Float64.isFinite (b30 p.1) && Float64.isFinite (b30 p.2.1) && Float64.isFinite (b30 p.2.2) && wholeF p.1 == d1 * 2 ^ 26 && wholeF p.2.1 == d2 * 2 ^ 26 && wholeF p.2.2 == d3 * 2 ^ 26
local macro_rules | `(tactic| walk_at "def") => `(tactic| first | with_reducible exact d_hsv1 (by assumption) | with_reducible exact d_hls1 (by assumption) | ((with_reducible apply d_hsv) <;> assumption) | ((with_reducible apply d_hls) <;> assumption) | ((with_reducible apply d_slh); assumption) | ((with_reducible apply d_vsh) <;> assumption))
section
variable {C : Cx}
noncomputable abbrev li3 (a b c : Int) : PV := .list [.int a, .int b, .int c]
theorem d_turnedB (K : LawK C) (c1 c2 c3 sx d1 d2 d3 : Int) (h4 : (sx == 4) = false) (hs : sx.natAbs < 2 ^ 1023) (b1 : c1.natAbs < 2 ^ 1023) (b2 : c2.natAbs < 2 ^ 1023) (b3 : c3.natAbs < 2 ^ 1023) (ok : okB c1 c2 c3 sx = true) (okw : okW (partB c1 c2 c3 sx) d1 d2 d3 = true) :
    DefC C 4 (sQ "_law_turned") [is (li3 c1 c2 c3), is (.int sx)] (is (li3 d1 d2 d3)) := by
  have K' := K.toColK
  obtain ⟨f, q, doc, pm, cd, hg, ho, hcd⟩ := K.turned
  have g1 := K.round
  simp only [okB, Bool.and_eq_true, Bool.not_eq_true', decide_eq_true_eq] at ok
  obtain ⟨⟨⟨o1, o2⟩, o3⟩, o4⟩ := ok
  have o4 : (PySem.Flt.toInt Float64.truncOf (Float64.mul (hueB c1 c2 c3 sx) 4618441417868443648)).natAbs < 2 ^ 1023 := Nat.lt_trans o4 (by decide +kernel)
  simp only [okW, Bool.and_eq_true, beq_iff_eq] at okw
  obtain ⟨⟨⟨⟨⟨p1, p2⟩, p3⟩, q1⟩, q2⟩, q3⟩ := okw
  refine ⟨f, hg, ⟨_, _, ho, rfl⟩, fn_def (n := 2) (sc := scOf (stAt pw 81)) (ρ := [some (is (li3 c1 c2 c3)), some (is (.int sx)), none, none, none, none, none, none, none, none, none]) (nm := [sQ "way", sQ "sixths", sQ "red", sQ "green", sQ "blue", sQ "hue", sQ "light", sQ "share", sQ "value", sQ "parts", sQ "whole"]) (xs := [sQ "way", sQ "sixths"]) K.q ho rfl hcd rfl rfl rfl rfl rfl (bnd2 fun _ _ => by kernel_rfl) rfl (by decide +kernel) (by decide +kernel) (by decide +kernel) (by decide +kernel) rfl fun L X => ?_⟩
  apply ex_cons
  · apply ex_asgU
    · apply ev_comp1
      apply comp1_ok (xs := [c1, c2, c3]) (f := fun (c : Int) => .int c) (h := fun c => .flt (d16 c))
      · apply it_eq
        · apply it_list
          walk_at "ev"
        · exact rfl
      · walk_at "at"
      · exact rfl
      · decide +kernel
      · exact rfl
      · exact Nat.le_of_ble_eq_true rfl
      · intro cenv X' j hx
        apply ex_mk3
        · walk_at "at"
        · walk_at "at"
        · intro ω κ
          have hj : j.natAbs < 2 ^ 1023 := by
            simp only [List.mem_cons, List.not_mem_nil, or_false] at hx
            rcases hx with rfl | rfl | rfl <;> assumption
          apply ev_d
          · walk_at "ev"
          · rfl
    · show Tgt _ _ _ _ (.list [.flt (d16 c1), .flt (d16 c2), .flt (d16 c3)]) _ _
      walk_at "at"
    · exact rfl
    · exact rfl
  walk_at "if"
  · intro h; rw [h4] at h; cases h
  intro _
  apply ex_cons
  · apply ex_asgU
    · apply ev_callD
      · walk_at "ev"
      · walk_at "def"
      · decide
      · exact rfl
      · exact rfl
      · exact rfl
    · show Tgt _ _ _ _ (.tup [.flt (hsvF (d16 c1) (d16 c2) (d16 c3)).1, .flt (hsvF (d16 c1) (d16 c2) (d16 c3)).2.1, .flt (hsvF (d16 c1) (d16 c2) (d16 c3)).2.2]) _ _
      walk_at "at"
    · exact rfl
    · exact rfl
  unfold hueB at o3 o4
  apply ex_cons
  · apply ex_assign
    · apply ev_d
      · apply ev_callD
        · walk_at "ev"
        · apply d_vsh
          · exact K'
          · exact o3
          · exact o4
        · decide
        · exact rfl
        · exact rfl
        · exact rfl
      · show _ = PV.tup [.flt (partB c1 c2 c3 sx).1, .flt (partB c1 c2 c3 sx).2.1, .flt (partB c1 c2 c3 sx).2.2]
        rfl
    · walk_at "at"
    · decide +kernel
    · decide +kernel
    · exact rfl
  generalize (partB c1 c2 c3 sx).1 = x1 at p1 q1 ⊢
  generalize (partB c1 c2 c3 sx).2.1 = x2 at p2 q2 ⊢
  generalize (partB c1 c2 c3 sx).2.2 = x3 at p3 q3 ⊢
  apply ex_cons
  · apply ex_assignC1 (ds := [.int (d1 * 2 ^ 26), .int (d2 * 2 ^ 26), .int (d3 * 2 ^ 26)])
    apply comp1_ok (xs := [x1, x2, x3]) (f := fun (c : UInt64) => .flt c) (h := fun c => .int (wholeF c))
    · apply it_eq
      · apply it_tup
        walk_at "ev"
      · exact rfl
    · walk_at "at"
    · exact rfl
    · decide +kernel
    · exact rfl
    · exact Nat.le_of_ble_eq_true rfl
    · intro cenv X' j hx
      apply ex_mk3
      · walk_at "at"
      · walk_at "at"
      · intro ω κ
        have hj : Float64.isFinite (Float64.mul j (Float64.ofInt ((2 : Int) ^ (30 : Int).toNat))) = true := by
          simp only [List.mem_cons, List.not_mem_nil, or_false] at hx
          rcases hx with rfl | rfl | rfl <;> assumption
        apply ev_d
        · walk_at "ev"
        · rfl
    · show [PV.int (wholeF x1), .int (wholeF x2), .int (wholeF x3)] = _
      rw [q1, q2, q3]
    · walk_at "at"
    · decide +kernel
    · decide +kernel
    · exact rfl
  apply ex_ret
  apply ev_ifexpT
  · apply tv_cmp
    · apply ev_comp1
      apply comp1_ok (xs := [d1, d2, d3]) (f := fun (c : Int) => .int (c * 2 ^ 26)) (h := fun c => .int 0)
      · apply it_eq
        · apply it_list
          walk_at "ev"
        · exact rfl
      · walk_at "at"
      · exact rfl
      · decide +kernel
      · exact rfl
      · exact Nat.le_of_ble_eq_true rfl
      · intro cenv X' j hx
        apply ex_mk3
        · walk_at "at"
        · walk_at "at"
        · intro ω κ
          apply ev_d
          · walk_at "ev"
          · congr 1
            exact Int.mul_fmod_left _ _
    · walk_at "ev"
    · exact op_eq_list 0 (by decide) (by rfl)
    · exact rfl
  · rfl
  · apply ev_d
    · apply ev_comp1
      apply comp1_ok (xs := [d1, d2, d3]) (f := fun (c : Int) => .int (c * 2 ^ 26)) (h := fun c => .int c)
      · apply it_eq
        · apply it_list
          walk_at "ev"
        · exact rfl
      · walk_at "at"
      · exact rfl
      · decide +kernel
      · exact rfl
      · exact Nat.le_of_ble_eq_true rfl
      · intro cenv X' j hx
        apply ex_mk3
        · walk_at "at"
        · walk_at "at"
        · intro ω κ
          apply ev_d
          · walk_at "ev"
          · congr 1
            exact Int.mul_fdiv_cancel _ (by decide)
    · rfl
theorem d_turnedA (K : LawK C) (c1 c2 c3 d1 d2 d3 : Int) (b1 : c1.natAbs < 2 ^ 1023) (b2 : c2.natAbs < 2 ^ 1023) (b3 : c3.natAbs < 2 ^ 1023) (ok : okA c1 c2 c3 = true) (okw : okW (partA c1 c2 c3) d1 d2 d3 = true) :
    DefC C 4 (sQ "_law_turned") [is (li3 c1 c2 c3), is (.int 4)] (is (li3 d1 d2 d3)) := by
  have K' := K.toColK
  obtain ⟨f, q, doc, pm, cd, hg, ho, hcd⟩ := K.turned
  have g1 := K.round
  simp only [okA, Bool.and_eq_true, Bool.not_eq_true', decide_eq_true_eq] at ok
  obtain ⟨⟨o1, o2⟩, o3⟩ := ok
  simp only [okW, Bool.and_eq_true, beq_iff_eq] at okw
  obtain ⟨⟨⟨⟨⟨p1, p2⟩, p3⟩, q1⟩, q2⟩, q3⟩ := okw
  refine ⟨f, hg, ⟨_, _, ho, rfl⟩, fn_def (n := 2) (sc := scOf (stAt pw 81)) (ρ := [some (is (li3 c1 c2 c3)), some (is (.int 4)), none, none, none, none, none, none, none, none, none]) (nm := [sQ "way", sQ "sixths", sQ "red", sQ "green", sQ "blue", sQ "hue", sQ "light", sQ "share", sQ "value", sQ "parts", sQ "whole"]) (xs := [sQ "way", sQ "sixths"]) K.q ho rfl hcd rfl rfl rfl rfl rfl (bnd2 fun _ _ => by kernel_rfl) rfl (by decide +kernel) (by decide +kernel) (by decide +kernel) (by decide +kernel) rfl fun L X => ?_⟩
  apply ex_cons
  · apply ex_asgU
    · apply ev_comp1
      apply comp1_ok (xs := [c1, c2, c3]) (f := fun (c : Int) => .int c) (h := fun c => .flt (d16 c))
      · apply it_eq
        · apply it_list
          walk_at "ev"
        · exact rfl
      · walk_at "at"
      · exact rfl
      · decide +kernel
      · exact rfl
      · exact Nat.le_of_ble_eq_true rfl
      · intro cenv X' j hx
        apply ex_mk3
        · walk_at "at"
        · walk_at "at"
        · intro ω κ
          have hj : j.natAbs < 2 ^ 1023 := by
            simp only [List.mem_cons, List.not_mem_nil, or_false] at hx
            rcases hx with rfl | rfl | rfl <;> assumption
          apply ev_d
          · walk_at "ev"
          · rfl
    · show Tgt _ _ _ _ (.list [.flt (d16 c1), .flt (d16 c2), .flt (d16 c3)]) _ _
      walk_at "at"
    · exact rfl
    · exact rfl
  walk_at "if"
  rotate_left
  · intro h; cases h
  intro _
  apply ex_cons
  · apply ex_asgU
    · apply ev_callD
      · walk_at "ev"
      · walk_at "def"
      · decide
      · exact rfl
      · exact rfl
      · exact rfl
    · show Tgt _ _ _ _ (.tup [.flt (hlsF (d16 c1) (d16 c2) (d16 c3)).1, .flt (hlsF (d16 c1) (d16 c2) (d16 c3)).2.1, .flt (hlsF (d16 c1) (d16 c2) (d16 c3)).2.2]) _ _
      walk_at "at"
    · exact rfl
    · exact rfl
  apply ex_cons
  · apply ex_assign
    · apply ev_d
      · apply ev_callD
        · walk_at "ev"
        · walk_at "def"
        · decide
        · exact rfl
        · exact rfl
        · exact rfl
      · show _ = PV.tup [.flt (partA c1 c2 c3).1, .flt (partA c1 c2 c3).2.1, .flt (partA c1 c2 c3).2.2]
        rfl
    · walk_at "at"
    · decide +kernel
    · decide +kernel
    · exact rfl
  generalize (partA c1 c2 c3).1 = x1 at p1 q1 ⊢
  generalize (partA c1 c2 c3).2.1 = x2 at p2 q2 ⊢
  generalize (partA c1 c2 c3).2.2 = x3 at p3 q3 ⊢
  apply ex_cons
  · apply ex_assignC1 (ds := [.int (d1 * 2 ^ 26), .int (d2 * 2 ^ 26), .int (d3 * 2 ^ 26)])
    apply comp1_ok (xs := [x1, x2, x3]) (f := fun (c : UInt64) => .flt c) (h := fun c => .int (wholeF c))
    · apply it_eq
      · apply it_tup
        walk_at "ev"
      · exact rfl
    · walk_at "at"
    · exact rfl
    · decide +kernel
    · exact rfl
    · exact Nat.le_of_ble_eq_true rfl
    · intro cenv X' j hx
      apply ex_mk3
      · walk_at "at"
      · walk_at "at"
      · intro ω κ
        have hj : Float64.isFinite (Float64.mul j (Float64.ofInt ((2 : Int) ^ (30 : Int).toNat))) = true := by
          simp only [List.mem_cons, List.not_mem_nil, or_false] at hx
          rcases hx with rfl | rfl | rfl <;> assumption
        apply ev_d
        · walk_at "ev"
        · rfl
    · show [PV.int (wholeF x1), .int (wholeF x2), .int (wholeF x3)] = _
      rw [q1, q2, q3]
    · walk_at "at"
    · decide +kernel
    · decide +kernel
    · exact rfl
  apply ex_ret
  apply ev_ifexpT
  · apply tv_cmp
    · apply ev_comp1
      apply comp1_ok (xs := [d1, d2, d3]) (f := fun (c : Int) => .int (c * 2 ^ 26)) (h := fun c => .int 0)
      · apply it_eq
        · apply it_list
          walk_at "ev"
        · exact rfl
      · walk_at "at"
      · exact rfl
      · decide +kernel
      · exact rfl
      · exact Nat.le_of_ble_eq_true rfl
      · intro cenv X' j hx
        apply ex_mk3
        · walk_at "at"
        · walk_at "at"
        · intro ω κ
          apply ev_d
          · walk_at "ev"
          · congr 1
            exact Int.mul_fmod_left _ _
    · walk_at "ev"
    · exact op_eq_list 0 (by decide) (by rfl)
    · exact rfl
  · rfl
  · apply ev_d
    · apply ev_comp1
      apply comp1_ok (xs := [d1, d2, d3]) (f := fun (c : Int) => .int (c * 2 ^ 26)) (h := fun c => .int c)
      · apply it_eq
        · apply it_list
          walk_at "ev"
        · exact rfl
      · walk_at "at"
      · exact rfl
      · decide +kernel
      · exact rfl
      · exact Nat.le_of_ble_eq_true rfl
      · intro cenv X' j hx
        apply ex_mk3
        · walk_at "at"
        · walk_at "at"
        · intro ω κ
          apply ev_d
          · walk_at "ev"
          · congr 1
            exact Int.mul_fdiv_cancel _ (by decide)
    · rfl
end
end
section
open PySem.SeqAt
section
variable {C : Cx} {n : Nat} {Φ : Asn C} {env : Env} {l m : List PV} {x y : Str}
theorem op_add_list (hsz : l.length + m.length ≤ sizeLine) : OP2 C n (binaryOp .Add) (is (.list l)) (is (.list m)) (is (.list (l ++ m))) := fun A s Z u v Q E hA I hu hv kk => by
  obtain ⟨a, n, vs, rfl, hz, r⟩ := rdi hu
  obtain ⟨a', n', vs', rfl, hz', r'⟩ := rdi hv
  refine P.add_list (I.heap _ _ hz) (I.heap _ _ hz') ?_ (by rw [List.size_toArray, List.size_toArray, r.length, r'.length]; exact hsz)
  rw [show vs.toArray ++ vs'.toArray = (vs ++ vs').toArray by simp]
  have st := StepX.alloc (X := No) I (o := { cls := .type "list", data := .seq (vs ++ vs').toArray }) (t := s.toks) rfl
  exact kk _ _ _ st (.list (n := 0) (put_self (Z := Z)) ((r.append r').le st.le))
theorem str_nil_app (h : (x.length == 0) = true) : x ++ y = y := by
  obtain ⟨c⟩ := x
  have h : c.size = 0 := by simpa [Str.length] using h
  have : c = #[] := Array.eq_empty_of_size_eq_zero h
  subst this
  show (⟨#[] ++ y.cps⟩ : Str) = y
  simp
theorem str_app_nil (h : (y.length == 0) = true) : x ++ y = x := by
  obtain ⟨c⟩ := y
  have h : c.size = 0 := by simpa [Str.length] using h
  have : c = #[] := Array.eq_empty_of_size_eq_zero h
  subst this
  show (⟨x.cps ++ #[]⟩ : Str) = x
  simp
theorem op_add_str (hsz : (x ++ y).length ≤ sizeLine) : OP2 C n (binaryOp .Add) (is (.str x)) (is (.str y)) (is (.str (x ++ y))) := fun A s Z u v Q E hA I hu hv kk => by
  obtain ⟨_, rfl⟩ := rdi hu; obtain ⟨_, rfl⟩ := rdi hv
  refine P.add_str ?_
  split
  · rename_i h
    exact kk _ Z _ (StepX.refl I) (by rw [str_nil_app h]; exact .str _ _)
  · split
    · rename_i h
      exact kk _ Z _ (StepX.refl I) (by rw [str_app_nil h]; exact .str _ _)
    · exact ⟨hsz, kk _ Z _ (Step.toks I _) (.str _ _)⟩
inductive KV {K : Type} (Z : Fz) : List (K × Value) → List (K × PV) → Prop where
  | nil : KV Z [] []
  | cons {k : K} {v : Value} {d : PV} {vs : List (K × Value)} {ds : List (K × PV)} (h : Rd Z v d) (r : KV Z vs ds) : KV Z ((k, v) :: vs) ((k, d) :: ds)
theorem KV.le {K : Type} {Z Z' : Fz} (k : Le Z Z') : ∀ {vs : List (K × Value)} {ds : List (K × PV)}, KV Z vs ds → KV Z' vs ds
  | _, _, .nil => .nil
  | _, _, .cons h r => .cons (h.le k) (r.le k)
noncomputable def look {K : Type} [DecidableEq K] (kds : List (K × PV)) (k : K) : Option PV := (kds.find? fun kv => kv.1 = k).map (·.2)
theorem KV.look {K : Type} [DecidableEq K] {Z : Fz} {k : K} : ∀ {vs : List (K × Value)} {ds : List (K × PV)}, KV Z vs ds → (valueAt vs k).isSome = (look ds k).isSome ∧ ∀ d, Mine.Internal.look ds k = some d → ∃ v, valueAt vs k = some v ∧ Rd Z v d
  | _, _, .nil => ⟨rfl, fun _ h => by cases h⟩
  | _, _, .cons (k := k') h r => by
    by_cases e : k' = k
    · simp only [valueAt, Mine.Internal.look, List.find?_cons, e, decide_true, Option.map_some]
      exact ⟨rfl, fun d hd => by cases hd; exact ⟨_, rfl, h⟩⟩
    · simp only [valueAt, Mine.Internal.look, List.find?_cons, e, decide_false]
      exact r.look
noncomputable def dictI (C : Cx) (kds : List (Int × PV)) : Vp := ⟨fun Z v => ∃ a o kvs, v = .ref a ∧ Z a = some o ∧ o.IsDictOf (PySem.intKind C.prog C.w) kvs ∧ KV Z kvs kds, fun k ⟨a, o, kvs, e, z, d, r⟩ => ⟨a, o, kvs, e, k _ _ z, d, r.le k⟩⟩
noncomputable def dictS (C : Cx) (kds : List (Str × PV)) : Vp := ⟨fun Z v => ∃ a o kvs, v = .ref a ∧ (a == sysModules) = false ∧ Z a = some o ∧ o.IsDictOf (PySem.strKind C.prog C.w) kvs ∧ KV Z kvs kds, fun k ⟨a, o, kvs, e, e', z, d, r⟩ => ⟨a, o, kvs, e, e', k _ _ z, d, r.le k⟩⟩
theorem op_item_dictI {v sl : Expr} {kds : List (Int × PV)} {i : Int} {d : PV} (hd : look kds i = some d)
    (hs : ∀ o i, subscripted sl false o i = operate [o, i] (getItem o i) := by intro _ _; rfl) : OP2 C n (subscriptTail v sl) (dictI C kds) (is (.int i)) (is d) := fun A s Z u w Q E hA I hu hw k => by
  obtain ⟨_, rfl⟩ := rdi hw
  obtain ⟨a, o, kvs, rfl, hz, ho, r⟩ := hu
  obtain ⟨x, ex, px⟩ := r.look.2 d hd
  have hm := (Heap.dictOf_iff.mpr ⟨o, I.heap _ _ hz, ho⟩).mapOf
  exact tail_any hm.typeIs slot_dict_getitem.lookup (wpAny_getItem_of (intKind_is C.prog C.w i _) hm ex (k x Z _ (Step.toks I _) px)) (hs _ _)
theorem op_item_dictS {v sl : Expr} {kds : List (Str × PV)} {i : Str} {d : PV} (hd : look kds i = some d)
    (hs : ∀ o i, subscripted sl false o i = operate [o, i] (getItem o i) := by intro _ _; rfl) : OP2 C n (subscriptTail v sl) (dictS C kds) (is (.str i)) (is d) := fun A s Z u w Q E hA I hu hw k => by
  obtain ⟨_, rfl⟩ := rdi hw
  obtain ⟨a, o, kvs, rfl, _, hz, ho, r⟩ := hu
  obtain ⟨x, ex, px⟩ := r.look.2 d hd
  have hm := (Heap.dictOf_iff.mpr ⟨o, I.heap _ _ hz, ho⟩).mapOf
  exact tail_any hm.typeIs slot_dict_getitem.lookup (wpAny_getItem_of (strKind_is C.prog C.w i _) hm ex (k x Z _ (Step.toks I _) px)) (hs _ _)
theorem op_in_dictS {kds : List (Str × PV)} {i : Str} : OP2 C n (compareOp .In) (is (.str i)) (dictS C kds) (is (.bool (look kds i).isSome)) := fun A s Z w u Q E hA I hw hu k => by
  obtain ⟨_, rfl⟩ := rdi hw
  obtain ⟨a, o, kvs, rfl, hne, hz, ho, r⟩ := hu
  have hm := (Heap.dictOf_iff.mpr ⟨o, I.heap _ _ hz, ho⟩).mapOf
  refine wpAny_in_of (strKind_is C.prog C.w i _) hne hm ?_
  rw [r.look.1]
  exact k _ Z _ (Step.toks I _) (.bool _)
inductive KP (Z : Fz) : List (Value × Value) → List (Int × PV) → Prop where
  | nil : KP Z [] []
  | cons {k : Int} {t : Tok} {v : Value} {d : PV} {vs : List (Value × Value)} {ds : List (Int × PV)} (h : Rd Z v d) (r : KP Z vs ds) : KP Z ((.int k t, v) :: vs) ((k, d) :: ds)
theorem KP.le {Z Z' : Fz} (k : Le Z Z') : ∀ {vs : List (Value × Value)} {ds : List (Int × PV)}, KP Z vs ds → KP Z' vs ds
  | _, _, .nil => .nil
  | _, _, .cons h r => .cons (h.le k) (r.le k)
theorem KP.all {Z : Fz} : ∀ {vs : List (Value × Value)} {ds : List (Int × PV)}, KP Z vs ds → allIntKeys vs = true
  | _, _, .nil => rfl
  | _, _, .cons h r => r.all
theorem KP.kv {Z : Fz} : ∀ {vs : List (Value × Value)} {ds : List (Int × PV)}, KP Z vs ds → KV Z (intKeyPairs vs) ds
  | _, _, .nil => .nil
  | _, _, .cons h r => .cons h r.kv
theorem KP.keys {Z : Fz} : ∀ {vs : List (Value × Value)} {ds : List (Int × PV)}, KP Z vs ds → (intKeyPairs vs).map (·.1) = ds.map (·.1)
  | _, _, .nil => rfl
  | _, _, .cons h r => congrArg (_ :: ·) r.keys
def EP (C : Cx) (n : Nat) (Φ : Asn C) (t : List (Sem Value × Sem Value)) (kds : List (Int × PV)) : Prop :=
  ∀ (A : Around) (s : Shared) (Z : Fz) (Q : List (Value × Value) → Shared → Prop) (E : Value → Shared → Prop), Room n A → Inv C Z s → Φ.at_ Z s.heap →
    (∀ vs Z' s', Step C Z s Z' s' → KP Z' vs kds → Q vs s') → wpAny (model C.prog C.w) A (evalPairs t) Q E s
variable {pos : Pos} {keys : List (Option Expr)} {values : List Expr} {kds : List (Int × PV)}
theorem ep_nil : EP C n Φ (pairTrees [] [] env pos) [] := fun A s Z Q E hA I H k => wpAny_pure (k [] Z s (StepX.refl I) .nil)
theorem ep_cons {e v : Expr} {i : Int} {d : PV} (hk : EV C n Φ (eval e env) (is (.int i))) (hv : EV C n Φ (eval v env) (is d)) (r : EP C n Φ (pairTrees keys values env pos) kds) : EP C n Φ (pairTrees (some e :: keys) (v :: values) env pos) ((i, d) :: kds) :=
  fun A s Z Q E hA I H k => by
  show wpAny _ A (evalPairs ((eval e env, do let x ← eval v env; standAt pos; pure x) :: pairTrees keys values env pos)) Q E s
  rw [evalPairs]
  refine wpAny_bind (hk A s Z _ E hA I H fun u Z₁ s₁ x₁ p₁ => ?_)
  refine wpAny_bind (wpAny_holding (wpAny_bind (hv A s₁ Z₁ _ E hA x₁.inv (Φ.stable I H x₁) fun u' Z₂ s₂ x₂ p₂ => wpAny_bind (wpAny_standAt (wpAny_pure ?_)))))
  refine wpAny_bind (wpAny_holding (r A s₂ Z₂ _ E hA x₂.inv (Φ.stable x₁.inv (Φ.stable I H x₁) x₂) fun vs Z₃ s₃ x₃ p₃ => wpAny_pure ?_))
  obtain ⟨_, rfl⟩ := rdi p₁
  exact k _ Z₃ s₃ ((x₁.trans x₂).trans x₃) (.cons (p₂.le x₃.le) p₃)
theorem ev_dictI (h : EP C n Φ (pairTrees keys values env pos) kds) (hn : (kds.map (·.1)).Nodup) (hall : keys.all (·.isSome) = true) (hl : keys.length = values.length) (h0 : keys ≠ []) (hlen : keys.length ≤ 15) :
    EV C n Φ (eval (.Dict keys values pos) env) (dictI C kds) := fun A s Z Q E hA I H k => by
  have x0 := StepX.push (X := No) I (o := { cls := .type "dict", data := .dict #[] }) (t := s.toks)
  refine wpAny_Dict_walk (knd := PySem.intKind C.prog C.w) hall hl h0 hlen (h A _ Z _ E hA x0.inv (Φ.stable I H x0) fun vs Z₁ s₁ x₁ p₁ => ?_)
  obtain ⟨o₀, hd, ho₀⟩ := Heap.dictOf_iff.mp (Heap.DictOf.new (knd := PySem.intKind C.prog C.w) s.heap)
  have hf : s.heap.get? s.heap.objs.size = none := gAb (Nat.le_refl _)
  have nt : ∀ (I' : Inv C Z₁ s₁), ∀ t ∈ C.tabs, s.heap.objs.size ≠ t.1 := fun I' t ht q => by
    obtain ⟨ps, e', _⟩ := I.tabs t ht
    rw [← q, hf] at e'; cases e'
  have hd₁ := x₁.keep _ _ hd (fun h => h) (nt x₁.inv)
  refine display_done_int p₁.all (by rw [p₁.keys]; exact hn) (Heap.dictOf_iff.mpr ⟨o₀, hd₁, ho₀⟩) fun h' hdo hsb => ?_
  obtain ⟨o', hd', ho'⟩ := Heap.dictOf_iff.mp hdo
  have hz₁ : Z₁ s.heap.objs.size = none := by
    cases e : Z₁ s.heap.objs.size with
    | none => rfl
    | some o =>
      rcases x₁.new _ _ e with q | q | q
      · rw [I.fresh hf] at q; cases q
      · rw [hd] at q; cases q
      · exact q.elim
  have x₂ := StepX.write (X := (· = s.heap.objs.size)) x₁.inv (t := s₁.toks + vs.length) rfl hsb hz₁ (nt x₁.inv)
  have x₃ := StepX.freeze (X := (· = s.heap.objs.size)) x₂.inv rfl hz₁ hd' (nt x₁.inv)
  have xx : Step C Z s _ _ := StepX.hide (((((Step.to x0).trans (Step.to x₁)).trans x₂).trans x₃)) fun b q => q ▸ hf
  exact k _ _ _ xx ⟨_, o', _, rfl, put_self, ho', p₁.kv.le x₃.le⟩
end
end
local macro_rules | `(tactic| walk_at "op") => `(tactic| first | ((with_reducible apply op_add_list); walk_at "sz") | ((with_reducible apply op_add_str); walk_at "sz"))
noncomputable def colT (s v x : Int) : Int × Int × Int :=
  let w := v * (4 - s)
  if x = 0 then (4 * v, w, w) else if x = 1 then (4 * v, 4 * v, w) else if x = 2 then (w, 4 * v, w) else if x = 3 then (w, 4 * v, 4 * v) else if x = 4 then (w, w, 4 * v) else (4 * v, w, 4 * v)
noncomputable def okTB (s v x t : Int) : Bool :=
  let c := colT s v x
  let d := colT s v ((x + t).fmod 6)
  okB c.1 c.2.1 c.2.2 t && okW (partB c.1 c.2.1 c.2.2 t) d.1 d.2.1 d.2.2
noncomputable def okTA (s v x : Int) : Bool :=
  let c := colT s v x
  let d := colT s v ((x + 4).fmod 6)
  okA c.1 c.2.1 c.2.2 && okW (partA c.1 c.2.1 c.2.2) d.1 d.2.1 d.2.2
noncomputable abbrev q4 : List Int := [1, 2, 3, 4]
noncomputable abbrev q6 : List Int := [0, 1, 2, 3, 4, 5]
theorem tB1 : q4.all (fun v => ([0, 2, 3] : List Int).all fun t => q6.all fun x => okTB 1 v x t) = true := by decide +kernel
theorem tA1 : q4.all (fun v => q6.all fun x => okTA 1 v x) = true := by decide +kernel
theorem tB2 : q4.all (fun v => ([0, 2, 3] : List Int).all fun t => q6.all fun x => okTB 2 v x t) = true := by decide +kernel
theorem tA2 : q4.all (fun v => q6.all fun x => okTA 2 v x) = true := by decide +kernel
theorem tB3 : q4.all (fun v => ([0, 2, 3] : List Int).all fun t => q6.all fun x => okTB 3 v x t) = true := by decide +kernel
theorem tA3 : q4.all (fun v => q6.all fun x => okTA 3 v x) = true := by decide +kernel
theorem tB4 : q4.all (fun v => ([0, 2, 3] : List Int).all fun t => q6.all fun x => okTB 4 v x t) = true := by decide +kernel
theorem tA4 : q4.all (fun v => q6.all fun x => okTA 4 v x) = true := by decide +kernel
theorem turnB {s v x t : Int} (hs : s = 1 ∨ s = 2 ∨ s = 3 ∨ s = 4) (hv : v = 1 ∨ v = 2 ∨ v = 3 ∨ v = 4) (hx : x ∈ q6) (ht : t ∈ ([0, 2, 3] : List Int)) : okTB s v x t = true := by
  have hv' : v ∈ q4 := by rcases hv with rfl | rfl | rfl | rfl <;> decide
  have go : ∀ s, q4.all (fun v => ([0, 2, 3] : List Int).all fun t => q6.all fun x => okTB s v x t) = true → okTB s v x t = true := fun s h => List.all_eq_true.mp (List.all_eq_true.mp (List.all_eq_true.mp h v hv') t ht) x hx
  rcases hs with rfl | rfl | rfl | rfl
  · exact go _ tB1
  · exact go _ tB2
  · exact go _ tB3
  · exact go _ tB4
theorem turnA {s v x : Int} (hs : s = 1 ∨ s = 2 ∨ s = 3 ∨ s = 4) (hv : v = 1 ∨ v = 2 ∨ v = 3 ∨ v = 4) (hx : x ∈ q6) : okTA s v x = true := by
  have hv' : v ∈ q4 := by rcases hv with rfl | rfl | rfl | rfl <;> decide
  have go : ∀ s, q4.all (fun v => q6.all fun x => okTA s v x) = true → okTA s v x = true := fun s h => List.all_eq_true.mp (List.all_eq_true.mp h v hv') x hx
  rcases hs with rfl | rfl | rfl | rfl
  · exact go _ tA1
  · exact go _ tA2
  · exact go _ tA3
  · exact go _ tA4
noncomputable abbrev colV (s v x : Int) : PV := li3 (colT s v x).1 (colT s v x).2.1 (colT s v x).2.2
theorem colT_small {s v x : Int} (hs : s = 1 ∨ s = 2 ∨ s = 3 ∨ s = 4) (hv : v = 1 ∨ v = 2 ∨ v = 3 ∨ v = 4) : 0 ≤ (colT s v x).1 ∧ (colT s v x).1 ≤ 16 ∧ 0 ≤ (colT s v x).2.1 ∧ (colT s v x).2.1 ≤ 16 ∧ 0 ≤ (colT s v x).2.2 ∧ (colT s v x).2.2 ≤ 16 := by
  have h1 : 0 ≤ v * (4 - s) ∧ v * (4 - s) ≤ 16 := by
    rcases hs with rfl | rfl | rfl | rfl <;> lia
  have h2 : 0 ≤ 4 * v ∧ 4 * v ≤ 16 := by lia
  clear hs hv
  simp only [colT]
  generalize v * (4 - s) = w at h1
  generalize 4 * v = p at h2
  obtain ⟨a1, a2⟩ := h1
  obtain ⟨b1, b2⟩ := h2
  repeat' split
  · exact ⟨b1, b2, a1, a2, a1, a2⟩
  · exact ⟨b1, b2, b1, b2, a1, a2⟩
  · exact ⟨a1, a2, b1, b2, a1, a2⟩
  · exact ⟨a1, a2, b1, b2, b1, b2⟩
  · exact ⟨a1, a2, a1, a2, b1, b2⟩
  · exact ⟨b1, b2, a1, a2, b1, b2⟩
theorem tB5 : ([1, 2, 3, 4] : List Int).all (fun s => q4.all fun v => ([1, 5] : List Int).all fun t => okTB s v 0 t) = true := by decide +kernel
theorem turnB0 {s v t : Int} (hs : s = 1 ∨ s = 2 ∨ s = 3 ∨ s = 4) (hv : v = 1 ∨ v = 2 ∨ v = 3 ∨ v = 4) (ht : t ∈ ([1, 5] : List Int)) : okTB s v 0 t = true := by
  have hv' : v ∈ q4 := by rcases hv with rfl | rfl | rfl | rfl <;> decide
  have hs' : s ∈ ([1, 2, 3, 4] : List Int) := by rcases hs with rfl | rfl | rfl | rfl <;> decide
  exact List.all_eq_true.mp (List.all_eq_true.mp (List.all_eq_true.mp tB5 s hs') v hv') t ht
section
variable {C : Cx}
theorem d_turn (K : LawK C) {s v x t : Int} (hs : s = 1 ∨ s = 2 ∨ s = 3 ∨ s = 4) (hv : v = 1 ∨ v = 2 ∨ v = 3 ∨ v = 4) (hx : x ∈ q6) (ht : t = 0 ∨ t = 2 ∨ t = 3 ∨ t = 4) :
    DefC C 4 (sQ "_law_turned") [is (colV s v x), is (.int t)] (is (colV s v ((x + t).fmod 6))) := by
  have c := colT_small (x := x) hs hv
  have big : ∀ a : Int, 0 ≤ a → a ≤ 16 → a.natAbs < 2 ^ 1023 := fun a h1 h2 => Nat.lt_of_le_of_lt (by lia : a.natAbs ≤ 16) (by decide +kernel)
  by_cases h4 : t = 4
  · subst h4
    have h := turnA (x := x) hs hv hx
    unfold okTA at h
    rw [Bool.and_eq_true] at h
    exact d_turnedA K _ _ _ _ _ _ (big _ c.1 c.2.1) (big _ c.2.2.1 c.2.2.2.1) (big _ c.2.2.2.2.1 c.2.2.2.2.2) h.1 h.2
  · have ht' : t ∈ ([0, 2, 3] : List Int) := by rcases ht with rfl | rfl | rfl | rfl <;> first | decide | exact absurd rfl h4
    have h := turnB (x := x) hs hv hx ht'
    unfold okTB at h
    rw [Bool.and_eq_true] at h
    exact d_turnedB K _ _ _ _ _ _ _ (by simpa using h4) (Nat.lt_of_le_of_lt (by lia : t.natAbs ≤ 16) (by decide +kernel)) (big _ c.1 c.2.1) (big _ c.2.2.1 c.2.2.2.1) (big _ c.2.2.2.2.1 c.2.2.2.2.2) h.1 h.2
theorem d_turn0 (K : LawK C) {s v t : Int} (hs : s = 1 ∨ s = 2 ∨ s = 3 ∨ s = 4) (hv : v = 1 ∨ v = 2 ∨ v = 3 ∨ v = 4) (ht : t ∈ q6) :
    DefC C 4 (sQ "_law_turned") [is (colV s v 0), is (.int t)] (is (colV s v t)) := by
  have e : ((0 : Int) + t).fmod 6 = t := (by decide : ∀ t ∈ q6, ((0 : Int) + t).fmod 6 = t) t ht
  have c := colT_small (x := 0) hs hv
  have big : ∀ a : Int, 0 ≤ a → a ≤ 16 → a.natAbs < 2 ^ 1023 := fun a h1 h2 => Nat.lt_of_le_of_lt (by lia : a.natAbs ≤ 16) (by decide +kernel)
  simp only [List.mem_cons, List.not_mem_nil, or_false] at ht
  have go : t ∈ ([1, 5] : List Int) → DefC C 4 (sQ "_law_turned") [is (colV s v 0), is (.int t)] (is (colV s v t)) := fun h => by
    have h1 := turnB0 hs hv h
    unfold okTB at h1
    rw [Bool.and_eq_true, e] at h1
    have hb : (t == 4) = false ∧ t.natAbs ≤ 16 := (by decide : ∀ t ∈ ([1, 5] : List Int), (t == 4) = false ∧ t.natAbs ≤ 16) t h
    exact d_turnedB K _ _ _ _ _ _ _ hb.1 (Nat.lt_of_le_of_lt hb.2 (by decide +kernel)) (big _ c.1 c.2.1) (big _ c.2.2.1 c.2.2.2.1) (big _ c.2.2.2.2.1 c.2.2.2.2.2) h1.1 h1.2
  have go2 : (t = 0 ∨ t = 2 ∨ t = 3 ∨ t = 4) → DefC C 4 (sQ "_law_turned") [is (colV s v 0), is (.int t)] (is (colV s v t)) := fun h => by
    have := d_turn K hs hv (x := 0) (by decide) h
    rwa [e] at this
  rcases ht with rfl | rfl | rfl | rfl | rfl | rfl
  · exact go2 (by decide)
  · exact go (by decide)
  · exact go2 (by decide)
  · exact go2 (by decide)
  · exact go2 (by decide)
  · exact go (by decide)
end
section
open PySem.SeqAt
section
variable {C : Cx} {n : Nat} {Φ : Asn C} {env : Env} {l m ds : List PV} {x y : Str} {lo hi stp : Option Int} {e : Expr} {pos p : Pos}
noncomputable def qv : Option (Int × Tok) → Value
  | some (i, t) => .int i t
  | none => .none
def PT (C : Cx) (n : Nat) (Φ : Asn C) (t : Sem Value) (o : Option Int) : Prop :=
  ∀ (A : Around) (s : Shared) (Z : Fz) (Q : Value → Shared → Prop) (E : Value → Shared → Prop), Room n A → Inv C Z s → Φ.at_ Z s.heap →
    (∀ (q : Option (Int × Tok)) Z' s', Step C Z s Z' s' → q.map (·.1) = o → Q (qv q) s') → wpAny (model C.prog C.w) A t Q E s
theorem pt_none : PT C n Φ (evalPart none env) none := fun A s Z Q E hA I H k => wpAny_pure (k none Z s (StepX.refl I) rfl)
theorem pt_some {i : Int} (h : EV C n Φ (eval e env) (is (.int i))) : PT C n Φ (evalPart (some e) env) (some i) := fun A s Z Q E hA I H k =>
  h A s Z Q E hA I H fun v Z' s' x pv => by
    cases pv with
    | int i t => exact k (some (i, t)) Z' s' x rfl
theorem isPart_of {q : Option (Int × Tok)} : IsPart (qv q) (q.map (·.1)) := by
  cases q with
  | none => exact .none
  | some p => exact .int p.1 p.2
theorem RdL.picks {Z : Fz} {vs : List Value} (r : RdL Z vs ds) : ∀ is : List Nat, RdL Z (is.filterMap (vs[·]?)) (is.filterMap (ds[·]?))
  | [] => .nil
  | i :: is => by
    have ih := r.picks is
    rw [List.filterMap_cons, List.filterMap_cons]
    cases hd : ds[i]? with
    | none =>
      have : vs[i]? = none := by
        rw [List.getElem?_eq_none_iff] at hd ⊢
        rw [r.length]; exact hd
      rw [this]; exact ih
    | some d =>
      obtain ⟨v, e, p⟩ := r.get hd
      rw [e]; exact .cons p ih
noncomputable def pickL (ds : List PV) (lo hi st : Option Int) : List PV := (sliceRange (sliceBounds lo hi st ds.length).1 (sliceBounds lo hi st ds.length).2.1 (sliceBounds lo hi st ds.length).2.2).filterMap (ds[·]?)
theorem RdL.pick {Z : Fz} {vs : List Value} (r : RdL Z vs ds) : RdL Z (slicePick vs.toArray lo hi stp).toList (pickL ds lo hi stp) := by
  have e : (slicePick vs.toArray lo hi stp).toList = (sliceRange (sliceBounds lo hi stp ds.length).1 (sliceBounds lo hi stp ds.length).2.1 (sliceBounds lo hi stp ds.length).2.2).filterMap (vs[·]?) := by
    unfold slicePick
    simp [r.length]
  rw [e]
  exact r.picks _
theorem slice_push {Z : Fz} {s : Shared} (I : Inv C Z s) {o : Obj} : Step C Z s Z { s with heap := s.heap.push o } := StepX.push I
theorem ev_slice_str {v : Expr} {l u : Option Expr} (hv : EV C n Φ (eval v env) (is (.str x))) (hl : PT C n Φ (evalPart l env) lo) (hu : PT C n Φ (evalPart u env) hi) (hsz : x.length ≤ sizeLine)
    (ht : ∀ o r, letTemporaryGo v o r = pure () := by intro _ _; rfl) : EV C n Φ (eval (.Subscript v (.Slice l u none p) pos) env) (is (.str (Txt.slice x lo hi))) := fun A s Z Q E hA I H k => by
  refine wpAny_Subscript_Slice (T := "str") F.slot_str_getitem.lookup (hv A s Z _ E hA I H fun o Z₁ s₁ x₁ p₁ => wpAny_Slice ?_) ht
  refine hl A s₁ Z₁ _ E hA x₁.inv (Φ.stable I H x₁) fun q Z₂ s₂ x₂ e₂ => ?_
  refine hu A s₂ Z₂ _ E hA x₂.inv (Φ.stable x₁.inv (Φ.stable I H x₁) x₂) fun q' Z₃ s₃ x₃ e₃ => ?_
  rw [evalPart_none]
  obtain ⟨t, rfl⟩ := rdi p₁
  refine wpAny_pure ⟨typeIs_str _ _ _, wpAny_getItem_str_slice (l := q) (u := q') (st := none) ⟨_, Heap.get?_push_size _ rfl, rfl, ?_⟩ rfl (post_val_or_str ⟨?_, fun t' kk => ?_⟩)⟩
  · cases q <;> cases q' <;> rfl
  · have := Txt.slice_le x lo hi
    unfold Txt.slice at this
    rw [← e₂, ← e₃] at this
    exact Nat.le_trans this hsz
  · have st1 := StepX.push (X := No) x₃.inv (o := { cls := .type "slice", data := .fields #[(qv q), (qv q'), .none] }) (t := kk)
    refine k _ _ _ (((x₁.trans x₂).trans x₃).trans st1) ?_
    have e : (if ((1 : Int) == 1 && (Builtin.Str.strSliceIndices (q.map (·.1)) (q'.map (·.1)) 1 x.length).length == x.length) = true then x else ⟨((Builtin.Str.strSliceIndices (q.map (·.1)) (q'.map (·.1)) 1 x.length).filterMap (x.cps[·]?)).toArray⟩) = Txt.slice x lo hi := by
      unfold Txt.slice; rw [e₂, e₃]
    rw [← e]
    exact .str _ _
end
end
section
open PySem.SeqAt
section
variable {C : Cx} {n : Nat} {X : Addr → Prop} {Φ Ψ : Asn C} {env : Env} {l m ds : List PV} {x y : Str} {e : Expr} {pos p : Pos} {R : Vp}
theorem tv_int {i : Int} (he : EV C n Φ (eval e env) (is (.int i))) (hn : ∀ t, isTrue e env t = (do let v ← t; standAt e.pos; holding [v] (truthy v)) := by intro _; rfl) : TV C n Φ (isTrue e env (eval e env)) (i != 0) := fun A s Z Q E hA I H k => by
  rw [hn]
  refine wpAny_bind (he A s Z _ E hA I H fun v Z' s' x pv => wpAny_bind (wpAny_standAt (wpAny_holding ?_)))
  obtain ⟨_, rfl⟩ := rdi pv
  exact P.truthy_int (k Z' s' x)
theorem tv_list (he : EV C n Φ (eval e env) (is (.list ds))) (hsz : ds.length < 2 ^ 62) (hn : ∀ t, isTrue e env t = (do let v ← t; standAt e.pos; holding [v] (truthy v)) := by intro _; rfl) : TV C n Φ (isTrue e env (eval e env)) (!ds.isEmpty) := fun A s Z Q E hA I H k => by
  rw [hn]
  refine wpAny_bind (he A s Z _ E hA I H fun v Z' s' x pv => wpAny_bind (wpAny_standAt (wpAny_holding ?_)))
  obtain ⟨a, n, vs, rfl, hz, r⟩ := rdi pv
  refine wpAny_truthy_list (isList_of x.inv hz) (by have := r.length; simp; lia) ?_
  have e : vs.toArray.isEmpty = ds.isEmpty := by
    have := r.length
    cases vs <;> cases ds <;> simp_all
  rw [e]
  exact k Z' _ (x.trans (Step.toks x.inv _))
theorem tv_bool {b : Bool} (he : EV C n Φ (eval e env) (is (.bool b))) (hn : ∀ t, isTrue e env t = (do let v ← t; standAt e.pos; holding [v] (truthy v)) := by intro _; rfl) : TV C n Φ (isTrue e env (eval e env)) b := fun A s Z Q E hA I H k => by
  rw [hn]
  refine wpAny_bind (he A s Z _ E hA I H fun v Z' s' x pv => wpAny_bind (wpAny_standAt (wpAny_holding ?_)))
  obtain ⟨_, rfl⟩ := rdi pv
  exact wpAny_truthy_bool (k Z' s' x)
theorem fn_max2I {a b : Int} : FN C n (.builtin "max") [is (.int a), is (.int b)] (is (.int (if b > a then b else a))) := fn2 fun A s Z u v Q E hA I h h' k => by
  obtain ⟨_, rfl⟩ := rdi h; obtain ⟨_, rfl⟩ := rdi h'
  refine max_two_ints hA.handled fun h' tk hk => ?_
  have st : Step C Z s Z { s with heap := h', toks := tk } := .keeps I hk
  by_cases hb : b > a
  · rw [if_pos hb] at k ⊢
    exact k _ Z _ st (.int _ _)
  · rw [if_neg hb] at k ⊢
    exact k _ Z _ st (.int _ _)
variable {nm oc : List Str} {sc : List (Str × NameKind)} {ω ω' : List (Addr × List PV)} {κ : Addr → Option Obj} {ρ : List (Option Vp)}
theorem ev_append {r : Str} {p1 apos cpos : Pos} {elt : Expr} {a : Addr} {d : PV} {ds : List PV} {A : Around} {s : Shared} {Z : Fz} {Q : Value → Shared → Prop} {E : Value → Shared → Prop} (hr : At nm ρ r (isv (.ref a))) (he : EV C n (FS C env nm oc sc X ρ ω κ) (eval elt env) (is d)) (u : OU ω a ds (ds ++ [d]) ω') (hsz : ds.length ≤ sizeLine)
    (hbase : attributeBase (.Name r p1) "append" env (eval (.Name r p1) env) = eval (.Name r p1) env) (hline : (apos.endLine == cpos.line) = true)
    (hfew : ((backTo cpos (starEach [elt] env)).all (fun x => !x.1) && (backToKw cpos (keywordEach [] env)).all (fun x => x.1.isSome)
      && decide (([elt] : List Expr).length + ([] : List Keyword).length + (if ([] : List Keyword).isEmpty then 0 else 1) < 30)) = true)
    (htrees : backTo cpos (starEach [elt] env) = [(false, eval elt env)]) (hA : Room n A) (I : Inv C Z s) (H : FSp env nm oc sc X ρ ω κ Z s.heap)
    (k : ∀ Z' s', StepX C X Z s Z' s' → FSp env nm oc sc X ρ ω' κ Z' s'.heap → Q .none s') : wpAny (model C.prog C.w) A (eval (.Call (.Attribute (.Name r p1) "append" apos) [elt] [] cpos) env) Q E s := by
  refine wpAny_Call_append hbase hfew hline htrees (ev_name (n := n) hr A s Z _ E hA I H fun v Z₁ s₁ x₁ pv => ?_)
  cases pv
  have H₁ := (FS C env nm oc sc X ρ ω κ).stable I H x₁
  obtain ⟨hz, vs, mm, e, rr⟩ := H₁.own _ u.mem
  refine ⟨a, vs.toArray, rfl, ⟨_, mm, e, rfl, rfl, rfl⟩, ?_⟩
  refine he A s₁ Z₁ _ E hA x₁.inv H₁ fun y Z₂ s₂ x₂ py => ?_
  refine call_append x₂.inv ((FS C env nm oc sc X ρ ω κ).stable x₁.inv H₁ x₂) u py hsz fun s₃ x₃ H₃ => ?_
  exact k Z₂ s₃ (((Step.to x₁).trans (Step.to x₂)).trans x₃) H₃
theorem ex_append {r : Str} {p1 apos cpos epos : Pos} {elt : Expr} {a : Addr} {d : PV} {ds : List PV} (hr : At nm ρ r (isv (.ref a))) (he : EV C n (FS C env nm oc sc X ρ ω κ) (eval elt env) (is d)) (u : OU ω a ds (ds ++ [d]) ω') (hsz : ds.length ≤ sizeLine)
    (hbase : attributeBase (.Name r p1) "append" env (eval (.Name r p1) env) = eval (.Name r p1) env := by rfl) (hline : (apos.endLine == cpos.line) = true := by rfl)
    (hfew : ((backTo cpos (starEach [elt] env)).all (fun x => !x.1) && (backToKw cpos (keywordEach [] env)).all (fun x => x.1.isSome)
      && decide (([elt] : List Expr).length + ([] : List Keyword).length + (if ([] : List Keyword).isEmpty then 0 else 1) < 30)) = true := by rfl)
    (htrees : backTo cpos (starEach [elt] env) = [(false, eval elt env)] := by rfl) (hi : interactive env = false := by rfl) :
    EX C n X (FS C env nm oc sc X ρ ω κ) (exec (.Expr (.Call (.Attribute (.Name r p1) "append" apos) [elt] [] cpos) epos) env) (FS C env nm oc sc X ρ ω' κ) R := fun A s Z Q E hA I H kn kr => by
  rw [PySem.exec_Expr (hi := hi) (hs := rfl)]
  refine wpAny_bind (wpAny_standAt (wpAny_bind (ev_append (n := n) hr he u hsz hbase hline hfew htrees hA I H fun Z' s' x' H' => ?_)))
  rw [dropValue_plain (by intro _ q; cases q)]
  exact wpAny_pure (kn Z' s' x' H')
end
end
def GlobP (C : Cx) (x : Str) (P : Vp) : Prop := ∃ v, GlobZ C x v ∧ P.at_ C.Z0 v
section
variable {C : Cx} {n : Nat} {X : Addr → Prop} {env : Env} {nm oc : List Str} {sc : List (Str × NameKind)} {pos : Pos} {ρ : List (Option Vp)} {ω : List (Addr × List PV)} {κ : Addr → Option Obj}
theorem ev_globP {x : Str} {P : Vp} (hg : GlobP C x P) (hk : sc.lookup x = some .globalImplicit) (hd : (x == ("__debug__" : Str)) = false) : EV C n (FS C env nm oc sc X ρ ω κ) (eval (.Name x pos) env) P := by
  obtain ⟨v, hg, hr⟩ := hg
  refine fun A s Z Q E hA I H k => ev_glob hg hk hd A s Z Q E hA I H fun u Z' s' x' h => k u Z' s' x' ?_
  cases h
  exact P.mono x'.inv.base hr
end
noncomputable abbrev li (l : List Int) : PV := .list (l.map .int)
noncomputable def tokL : List (Str × PV) := tokI.map fun p => (p.1, .int p.2)
noncomputable def lookT (k : Str) : Option Int := (tokI.find? fun kv => kv.1 = k).map (·.2)
theorem look_tok {k : Str} : look tokL k = (lookT k).map .int := by
  unfold look lookT tokL
  rw [List.find?_map, Option.map_map, Option.map_map]
  rfl
noncomputable def szI (b : Int → Bool) : Int := if b 3 then 3 else if b 2 then 2 else if b 1 then 1 else 0
theorem sz_at (b : Int → Bool) (h : szI b ≠ 0) : b (szI b) = true := by
  unfold szI at h ⊢
  split
  · assumption
  · split
    · assumption
    · split
      · assumption
      · simp_all
theorem allInt_map : ∀ l : List Int, allInt (l.map .int ++ [.int 0]) = true
  | [] => rfl
  | _ :: l => allInt_map l
theorem sz_best (b : Int → Bool) : bestP gtP ((([1, 2, 3] : List Int).filter b).map .int ++ [.int 0]) = .int (szI b) := by
  unfold szI
  simp only [List.filter_cons, List.filter_nil]
  cases b 1 <;> cases b 2 <;> cases b 3 <;> rfl
noncomputable abbrev subT (x : Str) (a b : Int) : Str := Txt.slice x (some a) (some b)
noncomputable def rowB (x : Str) (p : Nat) (k : Int) : Bool := (lookT (subT x p (p + k))).isSome
structure LawL (C : Cx) : Prop extends LawK C where
  len : BltZ C (sQ "len") (.builtin "len")
  ord : BltZ C (sQ "ord") (.builtin "ord")
  tok : GlobP C (sQ "EXACT_TOKEN_TYPES") (dictS C tokL)
section
open PySem.SeqAt
section
variable {C : Cx} {n : Nat} {X : Addr → Prop} {Φ Ψ : Asn C} {env : Env} {l m ds : List PV} {x y : Str} {e o : Expr} {pos p apos : Pos} {R Pv : Vp} {Ps : List Vp} {name : Str} {id : String} {es : List Expr}
def HasM (C : Cx) (name : Str) (Pv : Vp) (id : String) : Prop := ∃ T, PlainAttrs T ∧ Slot T name id ∧ typeOf (.builtin id) = pure (.type "method_descriptor") ∧
  ∀ Z s v, Inv C Z s → Pv.at_ Z v → s.TypeIs v T ∧ (∀ a, v = .ref a → ∃ ob, s.heap.get? a = some ob ∧ ob.dict = none)
theorem ev_meth (hv : EV C n Φ (eval o env) Pv) (M : HasM C name Pv id) (ha : EL C n Φ (spliced (backTo pos (starEach (e :: es) env))) Ps) (F : FN C n (.builtin id) (Pv :: Ps) R)
    (hbase : attributeBase o name env (eval o env) = eval o env := by rfl)
    (hfew : ((backTo pos (starEach (e :: es) env)).all (fun x => !x.1) && (backToKw pos (keywordEach [] env)).all (fun x => x.1.isSome)
      && decide ((e :: es).length + ([] : List Keyword).length + (if ([] : List Keyword).isEmpty then 0 else 1) < 30)) = true := by rfl)
    (hline : (apos.endLine == pos.line) = true := by rfl) (he : starEach (e :: es) env = (false, eval e env) :: starEach es env := by rfl) (hp : (backTo pos (starEach es env)).any (·.1) = false := by rfl) :
    EV C n Φ (eval (.Call (.Attribute o name apos) (e :: es) [] pos) env) R := fun A s Z Q E hA I H k => by
  obtain ⟨T, h1, h2, h3, h4⟩ := M
  refine wpAny_Call_method_late hbase hfew hline rfl (hv A s Z _ E hA I H fun v Z₁ s₁ x₁ p₁ => ?_)
  obtain ⟨q1, q2⟩ := h4 Z₁ s₁ v x₁.inv p₁
  refine ⟨T, id, h1, h2, h3, q1, q2, ?_⟩
  refine Calls.callWith_builtin (by rw [he]; exact hp) ?_
  have ha' := ha A s₁ Z₁
  rw [he] at ha' ⊢
  refine Calls.evalArgs_plain (ha' _ E hA x₁.inv (Φ.stable I H x₁) fun vs Z₂ s₂ x₂ ps => ?_)
  have hs : Sat Z₂ (v :: vs) (Pv :: Ps) := .cons (Vp.mono _ x₂.le p₁) ps
  exact F A s₂ Z₂ (v :: vs) Q E hA x₂.inv hs.length hs.get fun u Z₃ s₃ x₃ pu => k u Z₃ s₃ ((x₁.trans x₂).trans x₃) pu
theorem ev_meth0 (hv : EV C n Φ (eval o env) Pv) (M : HasM C name Pv id) (F : FN C n (.builtin id) [Pv] R)
    (hbase : attributeBase o name env (eval o env) = eval o env := by rfl) (hline : (apos.endLine == pos.line) = true := by rfl) :
    EV C n Φ (eval (.Call (.Attribute o name apos) [] [] pos) env) R := fun A s Z Q E hA I H k => by
  obtain ⟨T, h1, h2, h3, h4⟩ := M
  refine wpAny_Call_method0_late hbase hline (hv A s Z _ E hA I H fun v Z₁ s₁ x₁ p₁ => ?_)
  obtain ⟨q1, q2⟩ := h4 Z₁ s₁ v x₁.inv p₁
  refine ⟨T, id, h1, h2, h3, q1, q2, ?_⟩
  refine Calls.callWith_builtin rfl (evalArgs_nil3 ?_)
  have hs : Sat Z₁ [v] [Pv] := .cons p₁ .nil
  exact F A s₁ Z₁ [v] Q E hA x₁.inv hs.length hs.get fun u Z₃ s₃ x₃ pu => k u Z₃ s₃ (x₁.trans x₃) pu
theorem hasM_bitlen {a : Int} : HasM C "bit_length" (is (.int a)) "int.bit_length" := ⟨"int", F.plainAttrs_int, F.slot_int_bit_length, F.type_int_bit_length, fun Z s v I h => by
  obtain ⟨_, rfl⟩ := rdi h; exact ⟨typeIs_int _ _ _, fun a h => by cases h⟩⟩
theorem fn_bitlen {a : Int} : FN C n (.builtin "int.bit_length") [is (.int a)] (is (.int (Builtin.Int.intBits a))) := fn1 fun A s Z v Q E hA I h k => by
  obtain ⟨_, rfl⟩ := rdi h
  exact call_int_bit_length (k _ Z _ (Step.toks I _) (.int _ _))
theorem fn_divmod {a b : Int} (hb : b ≠ 0) (hp : Builtin.divisionGoesByPylong a b = false) : FN C n (.builtin "divmod") [is (.int a), is (.int b)] (is (.tup [.int (a.fdiv b), .int (a.fmod b)])) := fn2 fun A s Z u v Q E hA I h h' k => by
    obtain ⟨_, rfl⟩ := rdi h; obtain ⟨_, rfl⟩ := rdi h'
    refine divmod_int hb ?_ (.inl hp)
    have st := StepX.alloc (X := No) I (o := { cls := .type "tuple", data := .seq #[.int (a.fdiv b) s.toks, .int (a.fmod b) (s.toks + 1)] }) (t := s.toks + 1 + 1) rfl
    exact k _ _ _ st (.tup (n := 0) (vs := [.int (a.fdiv b) s.toks, .int (a.fmod b) (s.toks + 1)]) (put_self (Z := Z)) (.cons (.int _ _) (.cons (.int _ _) .nil)))
end
end
section
open PySem.SeqAt
section
variable {C : Cx} {X Y : Addr → Prop} {Z Z' : Fz} {s s' : Shared}
theorem StepX.hideY (x : StepX C X Z s Z' s') (h : ∀ b, X b → s.heap.get? b = none ∨ Y b) : StepX C Y Z s Z' s' :=
  ⟨x.le, fun b o e => (x.new b o e).elim .inl fun q => q.elim (fun q => .inr (.inl q)) fun q => .inr (h b q),
   fun b o e hY ht => x.keep b o e (fun q => (h b q).elim (fun q => by rw [q] at e; cases e) hY) ht, x.rest, x.inv⟩
theorem CodeIn.rec {c : Addr} {q : Str} (x : CodeIn Z c q) (I : Inv C Z s) : s.heap.CodeRec (.ref c) q := by
  obtain ⟨o, vs, t, e1, e2, e3⟩ := x
  exact ⟨c, o, vs, t, rfl, I.heap _ _ e1, e2, e3⟩
theorem clo_enterW {n : Nat} {A : Around} {fd : FuncData} {f c : Addr} {o : Obj} {body : List Stmt} {args : Args} {vs : List Value} {xs nm oc : List Str} {sc : List (Str × NameKind)} {ρ : List (Option Vp)} {ω : List (Addr × List PV)} {Q : Value → Shared → Prop} {E : Value → Shared → Prop}
    (hq : Quiet C) (I : Inv C Z s) (hA : Room (n + 2) A) (ho : Z f = some o) (hd : o.data = .func fd) (hc : fd.code = .ref c) (hcd : CodeIn Z c fd.qualname) (hbody : fd.body = .stmts body) (hsc : fd.scope.names = sc) (hgl : fd.globals = mainGlobals) (hbl : fd.builtins = builtinsNs)
    (hcell : sc.all (fun x => x.2 != .cell) = true) (hbind : BindsTo s fd args (xs.zip vs)) (hlen : xs.length = vs.length) (hloc : xs.all (fun x => sc.lookup x == some .local) = true) (hoc : oc.all (fun x => sc.lookup x != some .cell && (fd.closure.lookup x).isNone) = true)
    (hnm : nm.Nodup) (hap : fd.closure.Pairwise fun x y => x.2 ≠ y.2) (hcl : ∀ x a, fd.closure.lookup x = some a → Z a = none ∧ ∃ v, s.heap.IsCell a v) (B : Addr → Prop) (hB : ∀ a, s.heap.get? a = none → B a) (hωB : ∀ p ∈ ω, B p.1) (hω : ∀ p ∈ ω, Owned Z s.heap p) (hωn : (ω.map (·.1)).Nodup)
    (hv : ∀ L h', h'.Ns L (fun x => (xs.zip vs).reverse.lookup x) → (∀ b o, s.heap.get? b = some o → h'.get? b = some o) → Vars (callEnv fd L f) Z h' nm ρ)
    (h : ∀ L A' s₁ E', Room (n + 1) A' → Inv C Z s₁ → Step C Z s Z s₁ → s.heap.get? L = none → FSp (callEnv fd L f) nm oc sc B ρ ω (fun _ => none) Z s₁.heap →
      wpAny (model C.prog C.w) A' (execs body (callEnv fd L f)) (fun fl s' => Q (match fl with | .ret v => v | _ => .none) s') E' s₁)
    (hco : fd.scope.isCoroutine = false) (hgen : fd.scope.isGenerator = false) (hk : fd.scope.kind = .function) :
    wpAny (model C.prog C.w) A (call (.ref f) args.pos args.kw) Q E s := by
  subst hsc
  have hf := I.heap _ _ ho
  have hnl := hq s.heap fun b o e => I.heap _ _ (I.base _ _ e)
  refine wpAny_call (codeAny_call_def (R := fun r s' => match r with | .ok (.ret v) => Q v s' | .ok _ => False | .error e => E e s') (by have := hA.depth; simp only [recursionLimit]; lia) hf hd hnl (by rw [hc]; exact hcd.rec I) hbody hbind
    (fun x hx => by have := List.all_eq_true.mp hcell x hx; simpa using this) (fun x hx => by have := List.all_eq_true.mp hloc x.1 (List.of_mem_zip hx).1; simpa using this) (fun h₁ hns hk₁ => ?_) hco hgen hk)
  have st : Step C Z s Z { s with heap := h₁, toks := s.toks + (xs.zip vs).length } := .keeps I hk₁
  have hA' : Room (n + 1) (A.deeper (callEnv fd s.heap.objs.size f)) := ⟨by have := hA.depth; simp only [Around.deeper]; lia, by have := hA.units; simp only [Around.deeper]; lia, hA.handled⟩
  have zn : ∀ a, s.heap.objs.size ≤ a → Z a = none := fun a ha => I.fresh (gAb ha)
  refine h s.heap.objs.size _ { s with heap := h₁, toks := s.toks + (xs.zip vs).length } _ hA' st.inv st (gAb (Nat.le_refl _))
    ⟨rfl, hgl, hbl, fun x hx e => ?_, hk, hnm, hap, ⟨_, hns⟩, hB _ (gAb (Nat.le_refl _)), zn _ (Nat.le_refl _), fun x a ha => ?_, fun x hx a ha => ?_, fun a ha => hB _ ((st.gone ha).elim id fun q => q.elim), hv _ _ hns hk₁, fun p hp => ?_, hωB, hωn, (fun _ _ h => nomatch h), fun _ _ h => nomatch h⟩
  · have := List.all_eq_true.mp hoc x hx
    simp only [e, bne_self_eq_false, Bool.false_and] at this
    cases this
  · obtain ⟨z, v, hc⟩ := hcl x a ha
    refine ⟨z, v, ?_⟩
    obtain ⟨oo, e, r⟩ := hc
    exact ⟨oo, hk₁ _ _ e, r⟩
  · have := List.all_eq_true.mp hoc x hx
    have e : fd.closure.lookup x = some a := ha
    rw [e] at this
    simp at this
  · obtain ⟨z, vs', m, e, r⟩ := hω p hp
    exact ⟨z, vs', m, hk₁ _ _ e, r⟩
theorem clo_enter {n : Nat} {A : Around} {fd : FuncData} {f c : Addr} {o : Obj} {body : List Stmt} {vs : List Value} {xs nm oc : List Str} {sc : List (Str × NameKind)} {ρ : List (Option Vp)} {ω : List (Addr × List PV)} {Q : Value → Shared → Prop} {E : Value → Shared → Prop}
    (hq : Quiet C) (I : Inv C Z s) (hA : Room (n + 2) A) (ho : Z f = some o) (hd : o.data = .func fd) (hc : fd.code = .ref c) (hcd : CodeIn Z c fd.qualname) (hbody : fd.body = .stmts body) (hsc : fd.scope.names = sc) (hgl : fd.globals = mainGlobals) (hbl : fd.builtins = builtinsNs)
    (hcell : sc.all (fun x => x.2 != .cell) = true) (hbind : bindArgs fd ⟨vs, []⟩ = pure (xs.zip vs)) (hlen : xs.length = vs.length) (hloc : xs.all (fun x => sc.lookup x == some .local) = true) (hoc : oc.all (fun x => sc.lookup x != some .cell && (fd.closure.lookup x).isNone) = true)
    (hnm : nm.Nodup) (hap : fd.closure.Pairwise fun x y => x.2 ≠ y.2) (hcl : ∀ x a, fd.closure.lookup x = some a → Z a = none ∧ ∃ v, s.heap.IsCell a v) (hω : ∀ p ∈ ω, Owned Z s.heap p) (hωn : (ω.map (·.1)).Nodup)
    (hv : ∀ L h', h'.Ns L (fun x => (xs.zip vs).reverse.lookup x) → (∀ b o, s.heap.get? b = some o → h'.get? b = some o) → Vars (callEnv fd L f) Z h' nm ρ)
    (h : ∀ L (X : Addr → Prop) A' s₁ E', Room (n + 1) A' → Inv C Z s₁ → Step C Z s Z s₁ → (∀ b, X b → s.heap.get? b = none ∨ b ∈ ω.map (·.1)) → FSp (callEnv fd L f) nm oc sc X ρ ω (fun _ => none) Z s₁.heap →
      wpAny (model C.prog C.w) A' (execs body (callEnv fd L f)) (fun fl s' => Q (match fl with | .ret v => v | _ => .none) s') E' s₁)
    (hco : fd.scope.isCoroutine = false) (hgen : fd.scope.isGenerator = false) (hk : fd.scope.kind = .function) :
    wpAny (model C.prog C.w) A (call (.ref f) vs) Q E s :=
  clo_enterW (args := ⟨vs, []⟩) hq I hA ho hd hc hcd hbody hsc hgl hbl hcell (BindsTo.of_eq hbind) hlen hloc hoc hnm hap hcl (fun a => s.heap.get? a = none ∨ a ∈ ω.map (·.1)) (fun _ h => .inl h) (fun p hp => .inr (List.mem_map_of_mem hp)) hω hωn hv
    (fun L A' s₁ E' hA' I' st _ H => h L _ A' s₁ E' hA' I' st (fun _ hb => hb) H) hco hgen hk
end
end
section
open PySem.SeqAt
section
variable {C : Cx} {X Y : Addr → Prop} {Z Z' : Fz} {s s' : Shared}
theorem StepX.grow (I : Inv C Z s) {P c' : Addr} {pos : Pos} {qual : Str} {h' : Heap} {oc fo : Obj} {vs : Array Value} {tt : Tok} {tk : Nat} (hT : (P, pos, qual) ∈ C.tabs) (hu : ∀ t ∈ C.tabs, t.1 = P → t = (P, pos, qual)) (hx : Heap.ExtBut P s.heap h')
    (hge : s.heap.objs.size ≤ c') (hlt : c' < h'.objs.size) (hoc : h'.get? c' = some oc) (hod : oc.data = .fields vs) (hq : vs[1]? = some (.str qual tt)) (hP : h'.get? P = some (tabObj #[rawInt pos.line, rawInt pos.col, .ref c'])) (hff : fo.isFreed = false) :
    StepX C X Z s (put (put Z c' oc) h'.objs.size fo) { s with heap := h'.push fo, toks := tk } := by
  have hPl : P < s.heap.objs.size := by obtain ⟨ps, e, _⟩ := I.tabs _ hT; exact Heap.lt_size e
  have hcs : s.heap.get? c' = none := gAb hge
  have hfs : s.heap.get? h'.objs.size = none := gAb (Nat.le_trans hge (Nat.le_of_lt hlt))
  have zc : Z c' = none := I.fresh hcs
  have zf : Z h'.objs.size = none := I.fresh hfs
  have zf' : put Z c' oc h'.objs.size = none := by rw [put_ne (Nat.ne_of_gt hlt)]; exact zf
  have le : Le Z (put (put Z c' oc) h'.objs.size fo) := (le_put zc).trans (le_put zf')
  have ne : ∀ b o, s.heap.get? b = some o → b ≠ c' ∧ b ≠ h'.objs.size := fun b o e => by
    have := Heap.lt_size e
    exact ⟨Nat.ne_of_lt (Nat.lt_of_lt_of_le this hge), Nat.ne_of_lt (Nat.lt_trans (Nat.lt_of_lt_of_le this hge) hlt)⟩
  refine ⟨le, fun b o e => ?_, fun b o e _ ht => Heap.get?_push_of_some _ (hx b o (ht _ hT) e), ⟨rfl, rfl, rfl⟩, ⟨I.base.trans le, fun b o e => ?_, fun t ht => ?_, fun t ht => ?_⟩⟩
  · by_cases q : b = h'.objs.size
    · exact .inr (.inl (q ▸ hfs))
    · rw [put_ne q] at e
      by_cases q' : b = c'
      · exact .inr (.inl (q' ▸ hcs))
      · rw [put_ne q'] at e; exact .inl e
  · by_cases q : b = h'.objs.size
    · subst q; rw [put_self] at e; cases e; exact Heap.get?_push_size _ hff
    · rw [put_ne q] at e
      by_cases q' : b = c'
      · subst q'; rw [put_self] at e; cases e; exact Heap.get?_push_of_some _ hoc
      · rw [put_ne q'] at e
        have hbP : b ≠ P := fun q2 => by rw [q2, I.off _ hT] at e; cases e
        exact Heap.get?_push_of_some _ (hx b o hbP (I.heap b o e))
  · by_cases q : t.1 = P
    · have e := hu t ht q
      subst e
      exact ⟨_, Heap.get?_push_of_some _ hP, .inr ⟨c', rfl, oc, vs, tt, by
        rw [put_ne (Nat.ne_of_lt hlt)]; exact put_self, hod, hq⟩⟩
    · obtain ⟨ps, e, r⟩ := I.tabs t ht
      exact ⟨ps, Heap.get?_push_of_some _ (hx _ _ q e), r.imp id fun ⟨c, e1, e2⟩ => ⟨c, e1, e2.le le⟩⟩
  · obtain ⟨ps, e, _⟩ := I.tabs t ht
    obtain ⟨n1, n2⟩ := ne _ _ e
    rw [put_ne n2, put_ne n1]; exact I.off t ht
noncomputable def cloV (name qual : Str) (params : Arguments) (body : List Stmt) (scope : Scope) (clos : List (Str × Addr)) : Vp :=
  ⟨fun Z v => ∃ fa doc pm c' ctv, v = .ref fa ∧ Z fa = some { cls := .type "function", data := .func (fnX name qual params body scope clos .none .none doc pm none (.ref c') ctv) } ∧ CodeIn Z c' qual,
   fun k ⟨fa, doc, pm, c', ctv, e, z, r⟩ => ⟨fa, doc, pm, c', ctv, e, k _ _ z, r.le k⟩⟩
def TopB (C : Cx) : Prop := ∀ h : Heap, (∀ b o, C.Z0 b = some o → h.get? b = some o) → ∃ mg, h.Ns mainGlobals mg ∧ ∀ t ∈ C.tabs, mainGlobals ≠ t.1 ∧ h.BuiltinsAt mg t.1
def HdZ (C : Cx) (c P : Addr) : Prop := ∀ h : Heap, (∀ b o, C.Z0 b = some o → h.get? b = some o) → CodeHd h c P
variable {n : Nat} {env : Env} {nm oc : List Str} {sc : List (Str × NameKind)} {ω : List (Addr × List PV)} {κ : Addr → Option Obj} {ρ ρ' : List (Option Vp)} {R : Vp}
theorem ex_nest {name qual : Str} {args : Arguments} {body : List Stmt} {scope : Scope} {pos : Pos} {c P : Addr} {clos : List (Str × Addr)} (hB : TopB C) (hH : HdZ C c P) (hT : (P, pos, qual) ∈ C.tabs) (hu : ∀ t ∈ C.tabs, t.1 = P → t = (P, pos, qual))
    (hcode : env.code = .ref c) (hgl : env.globals = mainGlobals) (hqual : qualnameIn env name name = qual) (hda : defaultsOf args env = ([], [])) (hann : annTrees args none env = []) (hcl : closureFor scope env = pure clos)
    (up : Upd nm ρ name (some (cloV name qual args body scope clos)) ρ') (pl : PlainName name) (hk : canSt sc oc name = true) :
    EX C n X (FS C env nm oc sc X ρ ω κ) (exec (.FunctionDef name args body [] none [] scope none name pos) env) (FS C env nm oc sc X ρ' ω κ) R := fun A s Z Q E hA I H kn kr => by
  rw [exec_def, hqual, hda, hann]
  refine wpAny_bind (wpAny_standAt (wpAny_bind (wpAny_holding ?_)))
  refine wpAny_bind (wpAny_pure (wpAny_bind (wpAny_holding (wpAny_pure (wpAny_holding (wpAny_bind (wpAny_pure ?_)))))))
  obtain ⟨mg, hg, hb⟩ := hB s.heap fun b o e => I.heap _ _ (I.base _ _ e)
  obtain ⟨hgP, hbi⟩ := hb _ hT
  have hhd := hH s.heap fun b o e => I.heap _ _ (I.base _ _ e)
  obtain ⟨ps, hP, hps⟩ := I.tabs _ hT
  have fin : ∀ {fa : Addr} {Z₁ : Fz} {s₁ : Shared}, Step C Z s Z₁ s₁ → (cloV name qual args body scope clos).at_ Z₁ (.ref fa) → wpAny (model C.prog C.w) A (standAt pos >>= fun _ => bindName env name (.ref fa) >>= fun _ => pure Flow.next) Q E s₁ := fun x hv => by
    refine wpAny_bind (wpAny_standAt (wpAny_bind (bindName_ (st_name x.inv ((FS C env nm oc sc X ρ ω κ).stable I H x) hv up pl hk fun s' x' H' => wpAny_pure ?_))))
    exact kn _ s' ((Step.to x).trans x') H'
  rcases hps with rfl | ⟨c', rfl, hci⟩
  · refine makeFunction_K hcl hgl hg hcode hhd hP trivial rfl hgP hbi fun c' ctv doc h' tk hx hge hlt hrec hP' => ?_
    obtain ⟨c₂, o, vs, t, e, g, hod, hq⟩ := hrec
    cases e
    have st := StepX.grow (X := No) I hT hu hx hge hlt g hod hq hP' (fo := fnMade name qual args body scope clos doc ((mg "__name__").getD .none) c' ctv) (tk := tk) rfl
    refine fin st ⟨_, doc, _, c', ctv, rfl, put_self, o, vs, t, ?_, hod, hq⟩
    rw [put_ne (Nat.ne_of_lt hlt)]; exact put_self
  · refine makeFunction_hit hcl hgl hg hcode hhd hP trivial (cv := .ref c') ?_ hbi fun ctv doc h' tk hk' hsz => ?_
    · simp [rawInt, codeAmong]
    · have st1 : Step C Z s Z { s with heap := h', toks := tk } := .keeps I hk'
      have st2 := StepX.alloc (X := No) st1.inv (o := { cls := .type "function", data := .func (fnX name qual args body scope clos .none .none doc ((mg "__name__").getD .none) none (.ref c') ctv) }) (t := tk) rfl
      exact fin (st1.trans st2) ⟨_, doc, _, c', ctv, rfl, put_self, hci.le st2.le⟩
end
end
section
open PySem.SeqAt
section
variable {C : Cx} {n : Nat} {X : Addr → Prop} {Φ Ψ Θ : Asn C} {R : Vp} {env : Env} {st : Stmt} {rest b o : List Stmt} {pos : Pos} {RA : Fz → Heap → Value → Prop}
def EXG (C : Cx) (n : Nat) (X : Addr → Prop) (Φ : Asn C) (t : Sem Flow) (Ψ : Asn C) (RA : Fz → Heap → Value → Prop) : Prop :=
  ∀ (A : Around) (s : Shared) (Z : Fz) (Q : Flow → Shared → Prop) (E : Value → Shared → Prop), Room n A → Inv C Z s → Φ.at_ Z s.heap →
    (∀ Z' s', StepX C X Z s Z' s' → Ψ.at_ Z' s'.heap → Q .next s') → (∀ v Z' s', StepX C X Z s Z' s' → RA Z' s'.heap v → Q (.ret v) s') → wpAny (model C.prog C.w) A t Q E s
theorem eg_end (h : ∀ {Z h}, Φ.at_ Z h → Ψ.at_ Z h) : EXG C n X Φ (execs [] env) Ψ RA := fun A s Z Q E hA I H kn kr => wpAny_execs_nil (kn Z s (StepX.refl I) (h H))
theorem eg_cons (h1 : EX C n X Φ (exec st env) Ψ offV) (h2 : EXG C n X Ψ (execs rest env) Θ RA) : EXG C n X Φ (execs (st :: rest) env) Θ RA := fun A s Z Q E hA I H kn kr =>
  wpAny_execs_cons (h1 A s Z _ E hA I H (fun Z₁ s₁ x₁ H₁ => h2 A s₁ Z₁ Q E hA x₁.inv H₁ (fun Z₂ s₂ x₂ H₂ => kn Z₂ s₂ (x₁.trans x₂) H₂) fun v Z₂ s₂ x₂ r => kr v Z₂ s₂ (x₁.trans x₂) r) fun v Z₁ s₁ x₁ r => r.elim)
theorem eg_ifs {t : Expr} {c : Bool} (ht : TV C n Φ (isTrue t env (eval t env)) c) (hb : c = true → EXG C n X Φ (execs (b ++ rest) env) Ψ RA) (ho : c = false → EXG C n X Φ (execs (o ++ rest) env) Ψ RA) :
    EXG C n X Φ (execs (.If t b o pos :: rest) env) Ψ RA := fun A s Z Q E hA I H k kr => by
  rw [execs_if]
  refine wpAny_bind (wpAny_standAt (wpAny_bind (ht A s Z _ E hA I H fun Z₁ s₁ x₁ => ?_)))
  cases c with
  | true => exact hb rfl A s₁ Z₁ Q E hA x₁.inv (Φ.stable I H x₁) (fun Z₂ s₂ x₂ H₂ => k Z₂ s₂ (x₁.to.trans x₂) H₂) fun v Z₂ s₂ x₂ r => kr v Z₂ s₂ (x₁.to.trans x₂) r
  | false => exact ho rfl A s₁ Z₁ Q E hA x₁.inv (Φ.stable I H x₁) (fun Z₂ s₂ x₂ H₂ => k Z₂ s₂ (x₁.to.trans x₂) H₂) fun v Z₂ s₂ x₂ r => kr v Z₂ s₂ (x₁.to.trans x₂) r
theorem eg_ret0 (h : ∀ {Z h}, Φ.at_ Z h → RA Z h .none) : EXG C n X Φ (execs (.Return none pos :: rest) env) Ψ RA := fun A s Z Q E hA I H kn kr =>
  wpAny_execs_cons (wpAny_Return_none (kr .none Z s (StepX.refl I) (h H)))
theorem eg_ret {e : Expr} {P : Vp} (he : EV C n Φ (eval e env) P) (h : ∀ {Z h v}, Φ.at_ Z h → P.at_ Z v → RA Z h v) : EXG C n X Φ (execs (.Return (some e) pos :: rest) env) Ψ RA := fun A s Z Q E hA I H kn kr =>
  wpAny_execs_cons (wpAny_Return_some (he A s Z _ E hA I H fun v Z' s' x p => kr v Z' s' x.to (h (Φ.stable I H x) p)))
end
section
variable {prog : Program} {w : World} {A : Around} {E : Value → Shared → Prop} {s : Shared}
theorem setItem_plain {l : Addr} {items : Array Value} {k : Int} {t : Tok} {v : Value} {Q : Unit → Shared → Prop} (hl : s.heap.PlainList l items)
    (h0 : 0 ≤ k) (hfit : k < 2 ^ 63) (hn : k < items.size)
    (hQ : ∀ h', h'.PlainList l (items.setIfInBounds k.toNat v) → Heap.SameBut l s.heap h' → Q () { s with heap := h' }) :
    wpAny (model prog w) A (setItem (.ref l) (.int k t) v) Q E s := by
  obtain ⟨m, ho⟩ := id hl
  have hil := hl.isList
  have hf := fitsIndex_of h0 hfit
  clear hfit
  unfold setItem
  try with_reducible refine wpAny_holding ?_
  first | refine wpAny_bind (wpAny_pure ?_) | skip
  refine wpAny_bind (wpAny_sequenceKey hil.typeIs (by decide) ?_)
  refine wpAny_bind (wpAny_callSpecial?_slot (name := sQ "__setitem__") hil.typeIs slot_list_setitem
    (wpAny_call_entry slot_list_setitem hil.typeIs entry_list_setitem ?_ (args_list_setitem _ _ _)))
  show wpAny _ _ (Builtin.List.listSubscript? (.int k t) >>= _) _ _ s
  refine wpAny_bind (wpAny_listSubscript_int hf ?_)
  obtain ⟨j, rfl⟩ := Int.eq_ofNat_of_zero_le h0
  have hj : j < items.size := by lia
  show wpAny _ _ ((seqItemAt l j >>= fun r => pure (r.map (j, ·))) >>= _) _ _ s
  refine wpAny_bind (wpAny_bind (wpAny_seqItemAt ho rfl (wpAny_pure ?_)))
  rw [Array.getElem?_eq_getElem hj]
  show wpAny _ _ (setSeqItemAt l j v >>= _) _ _ s
  have fin : (s.heap.update l (Obj.mapSeq (·.setIfInBounds j v))).PlainList l (items.setIfInBounds j v) := by
    obtain ⟨n', hd'⟩ := Obj.data_mapSeq (o := { cls := .type "list", data := .seq items m }) rfl (·.setIfInBounds j v)
    exact ⟨_, Heap.get?_update_self _ ho (Obj.isFreed_of_seq hd')⟩
  refine wpAny_bind (wpAny_setSeqItemAt ho rfl ?_)
  first
    | exact wpAny_bind (wpAny_pure (wpAny_pure ⟨.none, rfl, wpAny_pure (hQ _ fin (Heap.SameBut.update ..))⟩))
    | exact wpAny_pure ⟨.none, rfl, wpAny_pure (hQ _ fin (Heap.SameBut.update ..))⟩
end
end
section
open PySem.SeqAt
section
variable {C : Cx} {n : Nat} {X : Addr → Prop} {Z Z' : Fz} {s s' : Shared} {R : Vp} {env : Env} {nm oc : List Str} {sc : List (Str × NameKind)} {ω ω' : List (Addr × List PV)} {κ : Addr → Option Obj} {ρ : List (Option Vp)} {pos : Pos}
theorem FSp.reown {a : Addr} {ds ds' : List PV} (I : Inv C Z s) (H : FSp env nm oc sc X ρ ω κ Z s.heap) (u : OU ω a ds ds' ω') (x : StepX C (· = a) Z s Z' s') (ho : Owned Z' s'.heap (a, ds')) :
    StepX C X Z s Z' s' ∧ FSp env nm oc sc X ρ ω' κ Z' s'.heap := by
  obtain ⟨hz, vs, m, e, r⟩ := H.own _ u.mem
  replace hz : Z a = none := hz
  replace e : s.heap.get? a = some { cls := .type "list", data := .seq vs.toArray m } := e
  have hX : X a := H.ownX _ u.mem
  have nl : env.locals ≠ a := fun q => by
    obtain ⟨_, o, _, _, e', d, _⟩ := H.loc
    rw [q, e] at e'; cases e'; cases d
  have nc : ∀ n c, env.cells.lookup n = some c → c ≠ a := fun n c hc q => by
    obtain ⟨_, v, o, e', d⟩ := H.cells n c hc
    rw [q, e] at e'; cases e'; cases d
  have H0 : FSp env nm oc sc X ρ [] κ Z s.heap := ⟨H.names, H.gl, H.bl, H.cellH, H.fn, H.nodup, H.apart, H.loc, H.locX, H.locZ, H.cells, H.cellX, H.cof, H.vars, (fun _ h => nomatch h), (fun _ h => nomatch h), List.Pairwise.nil, fun b o e =>
    let h := H.held b o e; ⟨h.z, h.at_, h.tab, h.loc, h.cell, fun _ h => nomatch h⟩, H.heldX⟩
  have H1 := H0.step I x (fun q => nl q) (fun n c hc q => nc n c hc q) (fun _ h => nomatch h) (fun b o e q => (H.held b o e).own _ u.mem q) fun b q => q ▸ hX
  refine ⟨x.mono fun b q => q ▸ hX, H1.names, H1.gl, H1.bl, H1.cellH, H1.fn, H1.nodup, H1.apart, H1.loc, H1.locX, H1.locZ, H1.cells, H1.cellX, H1.cof, H1.vars, ?_, ?_, ?_, fun b o eb => ?_, H1.heldX⟩
  · refine u.all H.ownN (fun p hp hne => ?_) ho
    obtain ⟨hz', vs, m, e, r⟩ := H.own p hp
    have e' := x.keep _ _ e hne (I.tab_fields e fun ps q => by cases q)
    exact ⟨x.stillNone hz' e hne, vs, m, e', r.le x.le⟩
  · exact u.all H.ownN (fun p hp _ => H.ownX p hp) hX
  · rw [u.keys]; exact H.ownN
  · have h := H1.held b o eb
    have h0 := H.held b o eb
    have hb : b ≠ a := h0.own _ u.mem
    exact ⟨h.z, h.at_, h.tab, h.loc, h.cell, u.all H.ownN (fun p hp _ => h0.own p hp) hb⟩
theorem RdL.setAt {v : Value} {d : PV} (p : Rd Z v d) : ∀ {vs : List Value} {ds : List PV}, RdL Z vs ds → ∀ i, RdL Z (vs.set i v) (ds.set i d)
  | _, _, .nil, _ => .nil
  | _, _, .cons h r, 0 => .cons p r
  | _, _, .cons h r, i + 1 => .cons h (RdL.setAt p r i)
theorem ex_setitem {x : Str} {xp sp : Pos} {ie e : Expr} {a : Addr} {i : Nat} {d : PV} {ds : List PV} (hx : At nm ρ x (isv (.ref a))) (he : EV C n (FS C env nm oc sc X ρ ω κ) (eval e env) (is d)) (hi : EV C n (FS C env nm oc sc X ρ ω κ) (eval ie env) (is (.int i))) (u : OU ω a ds (ds.set i d) ω') (hlt : i < ds.length) (hsz : i < 2 ^ 62)
    (hs : swapsWith e (some (.Subscript (.Name x xp) ie sp)) pos.line env = pure false := by rfl) :
    EX C n X (FS C env nm oc sc X ρ ω κ) (exec (.Assign [.Subscript (.Name x xp) ie sp] e pos) env) (FS C env nm oc sc X ρ ω' κ) R := fun A s Z Q E hA I H kn kr => by
  rw [PySem.exec_Assign_Subscript (hs := hs)]
  refine wpAny_bind (wpAny_standAt (wpAny_bind (he A s Z _ E hA I H fun v Z₁ s₁ x₁ pv => ?_)))
  have H₁ := (FS C env nm oc sc X ρ ω κ).stable I H x₁
  rw [assign_Subscript]
  refine wpAny_bind (wpAny_bind (wpAny_holding (ev_name (n := n) hx A s₁ Z₁ _ E hA x₁.inv H₁ fun v₂ Z₂ s₂ x₂ pv₂ => ?_)))
  cases pv₂
  have H₂ := (FS C env nm oc sc X ρ ω κ).stable x₁.inv H₁ x₂
  refine wpAny_bind (wpAny_holding (hi A s₂ Z₂ _ E hA x₂.inv H₂ fun v₃ Z₃ s₃ x₃ pv₃ => ?_))
  have H₃ := (FS C env nm oc sc X ρ ω κ).stable x₂.inv H₂ x₃
  refine wpAny_bind (wpAny_standAt (wpAny_bind (wpAny_holding ?_)))
  obtain ⟨_, rfl⟩ := rdi pv₃
  obtain ⟨hz, vs, m, e', r⟩ := H₃.own _ u.mem
  refine setItem_plain ⟨m, e'⟩ (Int.natCast_nonneg _) (by lia) (by rw [List.size_toArray, r.length]; exact Int.ofNat_lt.mpr hlt) fun h' hl hsb => ?_
  have hr : RdL Z₃ (vs.set i v) (ds.set i d) := by
    exact r.setAt (pv.le (x₂.le.trans x₃.le)) i
  obtain ⟨st, H₄⟩ := H₃.setOwn (t := s₃.toks) x₃.inv u hsb (vs' := vs.set i v) (by simpa using hl) hr
  refine wpAny_release (wpAny_pure (kn Z₃ _ ((((Step.to x₁).trans (Step.to x₂)).trans (Step.to x₃)).trans st) H₄))
end
end
section
open PySem.SeqAt
section
variable {C : Cx} {n : Nat} {X : Addr → Prop} {R : Vp} {env : Env} {nm oc : List Str} {sc : List (Str × NameKind)} {ω ω' : List (Addr × List PV)} {κ : Addr → Option Obj} {ρ : List (Option Vp)} {pos p p2 : Pos} {Φ : Asn C}
theorem rep_fold (v : Value) : ∀ (k : Nat) (a : Array Value), List.foldl (fun x1 x2 => x1 ++ x2) a (List.replicate k #[v]) = a ++ (List.replicate k v).toArray
  | 0, a => by simp
  | k + 1, a => by
    rw [List.replicate_succ, List.foldl_cons, rep_fold v k, List.replicate_succ]
    apply Array.toList_inj.mp
    simp
theorem RdL.rep {Z : Fz} {v : Value} {d : PV} (h : Rd Z v d) : ∀ k, RdL Z (List.replicate k v) (List.replicate k d)
  | 0 => .nil
  | k + 1 => .cons h (RdL.rep h k)
theorem rep_call {prog : Program} {w : World} {A : Around} {E : Value → Shared → Prop} {s : Shared} {l : Addr} {items : Array Value} {m : Nat} {x : Int} {u : Tok} {Q : Value → Shared → Prop}
    (hl : s.heap.get? l = some { cls := .type "list", dict := none, data := .seq items m, slots := #[] }) (hlo : -(2 ^ 63 : Int) ≤ x) (hhi : x < 2 ^ 63) (hsz : items.size * x.toNat ≤ 2 ^ 24)
    (h : Q (.ref s.heap.objs.size) { s with heap := s.heap.push { cls := .type "list", data := .seq (List.foldl (fun x1 x2 => x1 ++ x2) #[] (List.replicate (if items.isEmpty = true then 0 else x.toNat) items)) } }) :
    wpAny (model prog w) A (binaryOp .Mult (.ref l) (.int x u)) Q E s :=
  wpAny_binaryOp_repeat_ref (T := "list") (U := "int") (by decide) ⟨_, hl, rfl⟩ (fun s' => typeIs_int s' x u) noFill_list_mul F.fills_int_mul F.slot_int_rmul repeat_list F.slot_int_index.lookup
    (call_meets F.slot_int_rmul (typeIs_int s x u) F.entry_int_rmul (F.args_int_rmul_2 _ _) (int___rmul___int_list x u l items m)
      ⟨hl, rfl, ⟨_, hl, rfl⟩, call_meets F.slot_list_mul ⟨_, hl, rfl⟩ F.entry_list_mul (F.args_list_mul_2 _ _)
        (AutoListH.list___mul___list_int_3 l items m x u (by simp [Builtin.List.listFitsIndex]; lia) (by lia) (by simp [Builtin.List.listTooLong, sizeLine]; lia))
        ⟨hl, h⟩⟩)
theorem evn_rep {l r : Expr} {d : PV} {k : Nat} (hl : EV C n Φ (eval l env) (is (.list [d]))) (hr : EV C n Φ (eval r env) (is (.int k))) (hsz : k ≤ 2 ^ 24) : EVN C n Φ (eval (.BinOp l .Mult r pos) env) (fun a => isv (.ref a)) (List.replicate k d) := fun A s Z Q E hA I H kk => by
  refine wpAny_BinOp (hl A s Z _ E hA I H fun v Z₁ s₁ x₁ pv => ?_)
  refine hr A s₁ Z₁ _ E hA x₁.inv (Φ.stable I H x₁) fun u Z₂ s₂ x₂ pu => ?_
  obtain ⟨t, rfl⟩ := rdi pu
  obtain ⟨a, m, vs, rfl, hz, rr⟩ := rdi pv
  obtain ⟨v, _, rfl, hv, rr⟩ := rdli rr
  obtain rfl := rdli rr
  have hg := x₂.inv.heap _ _ (x₂.le _ _ hz)
  have e : List.foldl (fun x1 x2 => x1 ++ x2) #[] (List.replicate (if ([v].toArray).isEmpty = true then 0 else (k : Int).toNat) [v].toArray) = (List.replicate k v).toArray := by
    have := rep_fold v k #[]
    simpa using this
  refine rep_call hg (by lia) (by lia) (by simpa using hsz) ?_
  rw [e]
  have hf := gAb (Nat.le_refl s₂.heap.objs.size)
  have st := StepX.push (X := No) x₂.inv (o := { cls := .type "list", data := .seq (List.replicate k v).toArray }) (t := s₂.toks)
  have ho : Owned Z₂ (s₂.heap.push { cls := .type "list", data := .seq (List.replicate k v).toArray }) (s₂.heap.objs.size, List.replicate k d) := ⟨x₂.inv.fresh hf, List.replicate k v, 0, Heap.get?_push_size _ rfl, RdL.rep (hv.le x₂.le) k⟩
  exact kk s₂.heap.objs.size _ Z₂ _ ((x₁.trans x₂).trans st) (((x₁.trans x₂).gone hf).elim id fun q => q.elim) ho rfl
theorem ev_len_own {x : Str} {a : Addr} {ds : List PV} (hb : BltZ C (sQ "len") (.builtin "len")) (hx : At nm ρ x (isv (.ref a))) (hm : (a, ds) ∈ ω) (hsz : ds.length < 2 ^ 62) (hk : sc.lookup (sQ "len") = some .globalImplicit) :
    EV C n (FS C env nm oc sc X ρ ω κ) (eval (.Call (.Name (sQ "len") p) [.Name x p2] [] pos) env) (is (.int ds.length)) := fun A s Z Q E hA I H k => by
  refine wpAny_Call_NameR (ev_blt (n := n) hb hk (by decide) A s Z _ E hA I H fun v Z₁ s₁ x₁ pv => ?_)
  cases pv
  have H₁ := (FS C env nm oc sc X ρ ω κ).stable I H x₁
  refine callWith_builtin1 (el_cons (ev_name (n := n) hx) el_nil rfl A s₁ Z₁ _ E hA x₁.inv H₁ fun vs Z₂ s₂ x₂ hs => ?_) rfl rfl
  have H₂ := (FS C env nm oc sc X ρ ω κ).stable x₁.inv H₁ x₂
  obtain ⟨_, _, rfl, hv, hr⟩ := sati hs
  obtain rfl := sati hr
  cases hv
  obtain ⟨hz, vs, m, e, r⟩ := H₂.own _ hm
  have er := r.length
  refine Calls.call_len_list ⟨_, e, rfl, m, rfl⟩ (by rw [List.size_toArray, er]; exact Int.ofNat_lt.mpr (by show ds.length < 2 ^ 63; lia)) ?_
  rw [List.size_toArray, er]
  exact k _ Z₂ _ ((x₁.trans x₂).trans (Step.toks x₂.inv _)) (.int _ _)
end
end
section
open PySem.SeqAt
section
variable {C : Cx} {n : Nat} {X : Addr → Prop} {R : Vp} {env : Env} {nm oc : List Str} {sc : List (Str × NameKind)} {ω ω' : List (Addr × List PV)} {κ : Addr → Option Obj} {ρ : List (Option Vp)} {pos p p2 : Pos} {Φ : Asn C}
theorem RdL.rev {Z : Fz} : ∀ {vs : List Value} {ds : List PV}, RdL Z vs ds → RdL Z vs.reverse ds.reverse
  | _, _, .nil => .nil
  | _, _, .cons h r => by rw [List.reverse_cons, List.reverse_cons]; exact (RdL.rev r).append (.cons h .nil)
theorem ex_reverse {r : Str} {p1 apos cpos epos : Pos} {a : Addr} {ds : List PV} (hr : At nm ρ r (isv (.ref a))) (u : OU ω a ds ds.reverse ω') (hsz : ds.length ≤ sizeLine)
    (hbase : attributeBase (.Name r p1) "reverse" env (eval (.Name r p1) env) = eval (.Name r p1) env := by rfl) (hline : (apos.endLine == cpos.line) = true := by rfl) (hi : interactive env = false := by rfl) :
    EX C n X (FS C env nm oc sc X ρ ω κ) (exec (.Expr (.Call (.Attribute (.Name r p1) "reverse" apos) [] [] cpos) epos) env) (FS C env nm oc sc X ρ ω' κ) R := fun A s Z Q E hA I H kn kr => by
  rw [PySem.exec_Expr (hi := hi) (hs := rfl)]
  refine wpAny_bind (wpAny_standAt (wpAny_bind (wpAny_Call_method0_late hbase hline (ev_name (n := n) hr A s Z _ E hA I H fun v Z₁ s₁ x₁ pv => ?_))))
  cases pv
  have H₁ := (FS C env nm oc sc X ρ ω κ).stable I H x₁
  obtain ⟨hz, vs, mm, e, rr⟩ := H₁.own _ u.mem
  refine ⟨"list", "list.reverse", F.plainAttrs_list, F.slot_list_reverse, F.type_list_reverse, ⟨_, e, rfl⟩, fun b hb => ?_, ?_⟩
  · cases hb; exact ⟨_, e, rfl⟩
  · refine P.reverse_list (items := vs.toArray) (n := mm) e ?_ (by rw [List.size_toArray, rr.length]; exact hsz)
    obtain ⟨n', hd'⟩ := Obj.data_mapSeq (o := { cls := .type "list", data := .seq vs.toArray mm }) rfl (fun x => x.reverse)
    obtain ⟨st, H₂⟩ := H₁.setOwn (t := s₁.toks) (h' := s₁.heap.update a (Obj.mapSeq fun x => x.reverse)) x₁.inv u (Heap.SameBut.update ..) (vs' := vs.reverse) ⟨_, by
      rw [Heap.get?_update_self _ e (Obj.isFreed_of_seq hd')]
      simp only [Obj.mapSeq, List.reverse_toArray]; rfl⟩ (RdL.rev rr)
    rw [dropValue_plain (by intro _ q; cases q)]
    exact wpAny_pure (kn Z₁ _ ((Step.to x₁).trans st) H₂)
end
end
section
open PySem.SeqAt
theorem slot_search : Slot "re.Pattern" (sQ "search") "re.Pattern.search" :=
  .of (owner := "re.Pattern") (n := "search") (by rw [typeLookup_type, builtinLookup_eq_fast]; kernel_rfl) (by decide +kernel) (by decide +kernel) (by decide +kernel)
    (by first | exact .inl (by decide +kernel) | exact .inr (by decide +kernel)) (by rw [isSubtype_type]; kernel_rfl)
theorem type_search : typeOf (.builtin "re.Pattern.search") = pure (.type "method_descriptor") := by show builtinType _ = _; rw [builtinType_eq_fast]; kernel_rfl
theorem entry_search : entryFor table "re.Pattern.search" = some Builtin.«re.Pattern.search» := entryFor_of_tree (by kernel_rfl)
theorem args_search (a b : Value) : argsOk "re.Pattern.search" ⟨[a, b], []⟩ := by unfold argsOk; kernel_rfl
theorem plainAttrs_pattern : PlainAttrs "re.Pattern" :=
  ⟨⟨"object.__getattribute__", by rw [typeLookup_type, builtinLookup_eq_fast]; kernel_rfl, by decide +kernel⟩, by rw [typeLookup_type, builtinLookup_eq_fast]; kernel_rfl⟩
noncomputable def driveP : Nat → Sre.M → Option Sre.M
  | 0, _ => none
  | k + 1, m => let m := m.runFor 4; if m.outcome.isSome then some m else driveP k m
noncomputable def missed (m : Sre.M) : Bool := match m.outcome with
  | some .failed => true
  | _ => false
noncomputable def noHit (code text : Array Nat) (groups : Nat) : Bool := match driveP 400 (Sre.forSearch code text groups 0 text.size false) with
  | some m => missed m
  | none => false
section
variable {M : Model} {A : Around} {E : Value → Shared → Prop} {s : Shared}
theorem reDrive_succ (t : Nat) (m : Sre.M) : Builtin.Re.reDrive (t + 1) m = if (m.runFor 4).outcome.isSome = true then pure (m.runFor 4) else (rule "sre.turn" >>= fun _ => Builtin.Re.reDrive t (m.runFor 4)) := rfl
theorem driveP_succ (t : Nat) (m : Sre.M) : driveP (t + 1) m = if (m.runFor 4).outcome.isSome = true then some (m.runFor 4) else driveP t (m.runFor 4) := rfl
theorem drive_run {m' : Sre.M} {Q : Sre.M → Shared → Prop} (q : Q m' s) : ∀ (k t : Nat) (m : Sre.M), k ≤ t → driveP k m = some m' → wpAny M A (Builtin.Re.reDrive t m) Q E s := by
  intro k
  induction k with
  | zero => intro t m h e; cases e
  | succ k ih =>
    intro t m h e
    cases t with
    | zero => lia
    | succ t =>
      rw [driveP_succ] at e
      rw [reDrive_succ]
      generalize m.runFor 4 = n at e ⊢
      by_cases ho : n.outcome.isSome = true
      · rw [if_pos ho] at e ⊢
        cases e
        exact wpAny_pure q
      · rw [if_neg ho] at e ⊢
        exact wpAny_bind (wpAny_rule (ih t n (by lia) e))
theorem rules_run {α : Type} (f : α → Bool) (g : α → String) {Q : PUnit → Shared → Prop} (q : Q PUnit.unit s) : ∀ (l : List α),
    wpAny M A (forIn l PUnit.unit fun i _ => if f i = true then (rule (g i) >>= fun _ => pure (ForInStep.yield PUnit.unit)) else pure (ForInStep.yield PUnit.unit)) Q E s
  | [] => wpAny_pure q
  | a :: l => by
    rw [List.forIn_cons]
    by_cases h : f a = true
    · rw [if_pos h]
      exact wpAny_bind (wpAny_bind (wpAny_rule (wpAny_pure (rules_run f g q l))))
    · rw [if_neg h]
      exact wpAny_bind (wpAny_pure (rules_run f g q l))
theorem runEnd {m m' : Sre.M} {Q : Option Sre.M → Shared → Prop} {k : Nat} (hk : k ≤ 2 ^ 64) (e : driveP k m = some m') (hm : missed m' = true) (q : Q none s) : wpAny M A (Builtin.Re.reRunToEnd m) Q E s := by
  unfold Builtin.Re.reRunToEnd
  refine wpAny_bind (drive_run ?_ k _ m hk e)
  refine wpAny_bind (rules_run (fun i => m'.seen.has i) (fun i => Sre.names.getD i "") ?_ _)
  unfold missed at hm
  split at hm
  · rename_i h; rw [h]; exact wpAny_pure q
  · cases hm
end
theorem named_search (x : Value) : Builtin.Re.reNamed "re.Pattern.search" "search" ["string", "pos", "endpos"] 1 [x] [] = pure [some x, none, none] := rfl
section
variable {prog : Program} {w : World} {A : Around} {E : Value → Shared → Prop} {s : Shared}
theorem call_search {P L : Addr} {oP oL : Obj} {fs items : Array Value} {k : Nat} {x : Str} {t : Tok} {Q : Value → Shared → Prop} (hP : s.heap.get? P = some oP) (hc : oP.cls = .type "re.Pattern") (hd : oP.data = .fields fs)
    (f5 : fs.getD 5 .none = .ref L) (f6 : Builtin.Re.reRawNat (fs.getD 6 .none) = 0) (f2 : Builtin.Re.reRawNat (fs.getD 2 .none) = 0) (hL : s.heap.get? L = some oL) (hLd : oL.data = .seq items k) (hx : x.cps.size ≤ 2 ^ 40)
    (hno : noHit ((items.map Builtin.Re.reRawOf).map (·.toNat)) x.cps 0 = true) (h : Q .none s) : wpAny (model prog w) A (call (.builtin "re.Pattern.search") [.ref P, .str x t]) Q E s := by
  refine wpAny_call_entry slot_search ⟨_, hP, hc⟩ entry_search ?_ (args_search _ _)
  show wpAny _ _ (Builtin.Re.reTarget "re.Pattern.search" "search" ⟨[.ref P, .str x t], []⟩ >>= fun tt => Builtin.Re.reAnswer tt (Sre.forSearch tt.code tt.text tt.groups tt.pos tt.lim false)) _ _ s
  refine wpAny_bind ?_
  unfold Builtin.Re.reTarget
  dsimp only
  rw [named_search]
  refine wpAny_bind (wpAny_pure ?_)
  dsimp only
  refine wpAny_bind (wpAny_pure (wpAny_bind (wpAny_pure ?_)))
  refine wpAny_bind (wpAny_fieldsOf hP hd ?_)
  refine wpAny_bind (m := Builtin.Re.reTextOf _) (wpAny_of_eq (a := (x.cps, 0)) rfl ?_)
  dsimp only
  rw [f6, f5, f2]
  simp only [beq_self_eq_true, Bool.true_and, Bool.false_and, Nat.reduceBEq, Bool.false_eq_true, if_false, pure_bind, Bool.and_false]
  refine wpAny_bind (m := Builtin.Re.reNoCollectionInside _ 0) (wpAny_pure ?_)
  refine wpAny_bind (m := Builtin.Re.reRawItems _) (wpAny_bind (wpAny_seqItems hL hLd (wpAny_pure ?_)))
  refine wpAny_pure ?_
  have hlim : min ((2 : Int) ^ 63 - 1).toNat x.cps.size = x.cps.size := by
    have : ((2 : Int) ^ 63 - 1).toNat = 9223372036854775807 := rfl
    rw [this]; lia
  dsimp only [Option.getD_some]
  rw [hlim]
  have hmin : min (Int.toNat 0) x.cps.size = 0 := Nat.zero_min _
  rw [hmin]
  unfold noHit at hno
  split at hno
  · rename_i m' hm'
    exact wpAny_bind (runEnd (by decide) hm' hno (wpAny_pure ⟨_, rfl, h⟩))
  · cases hno
end
end
section
open PySem.SeqAt
section
variable {C : Cx} {X Y : Addr → Prop} {Z Z' : Fz} {s s' : Shared}
theorem clo_enterA {n : Nat} {A : Around} {fd : FuncData} {f c : Addr} {o : Obj} {body : List Stmt} {args : Args} {vs : List Value} {xs nm oc : List Str} {sc : List (Str × NameKind)} {ρ : List (Option Vp)} {ω : List (Addr × List PV)} {Q : Value → Shared → Prop} {E : Value → Shared → Prop}
    (hq : Quiet C) (I : Inv C Z s) (hA : Room (n + 2) A) (ho : Z f = some o) (hd : o.data = .func fd) (hc : fd.code = .ref c) (hcd : CodeIn Z c fd.qualname) (hbody : fd.body = .stmts body) (hsc : fd.scope.names = sc) (hgl : fd.globals = mainGlobals) (hbl : fd.builtins = builtinsNs)
    (hcell : sc.all (fun x => x.2 != .cell) = true) (hbind : BindsTo s fd args (xs.zip vs)) (hlen : xs.length = vs.length) (hloc : xs.all (fun x => sc.lookup x == some .local) = true) (hoc : oc.all (fun x => sc.lookup x != some .cell && (fd.closure.lookup x).isNone) = true)
    (hnm : nm.Nodup) (hap : fd.closure.Pairwise fun x y => x.2 ≠ y.2) (hcl : ∀ x a, fd.closure.lookup x = some a → Z a = none ∧ ∃ v, s.heap.IsCell a v) (hω : ∀ p ∈ ω, Owned Z s.heap p) (hωn : (ω.map (·.1)).Nodup)
    (hv : ∀ L h', h'.Ns L (fun x => (xs.zip vs).reverse.lookup x) → (∀ b o, s.heap.get? b = some o → h'.get? b = some o) → Vars (callEnv fd L f) Z h' nm ρ)
    (h : ∀ L (X : Addr → Prop) A' s₁ E', Room (n + 1) A' → Inv C Z s₁ → Step C Z s Z s₁ → (∀ b, X b → s.heap.get? b = none ∨ b ∈ ω.map (·.1)) → FSp (callEnv fd L f) nm oc sc X ρ ω (fun _ => none) Z s₁.heap →
      wpAny (model C.prog C.w) A' (execs body (callEnv fd L f)) (fun fl s' => Q (match fl with | .ret v => v | _ => .none) s') E' s₁)
    (hco : fd.scope.isCoroutine = false) (hgen : fd.scope.isGenerator = false) (hk : fd.scope.kind = .function) :
    wpAny (model C.prog C.w) A (call (.ref f) args.pos args.kw) Q E s :=
  clo_enterW hq I hA ho hd hc hcd hbody hsc hgl hbl hcell hbind hlen hloc hoc hnm hap hcl (fun a => s.heap.get? a = none ∨ a ∈ ω.map (·.1)) (fun _ h => .inl h) (fun p hp => .inr (List.mem_map_of_mem hp)) hω hωn hv
    (fun L A' s₁ E' hA' I' st _ H => h L _ A' s₁ E' hA' I' st (fun _ hb => hb) H) hco hgen hk
end
section
variable {prog : Program} {w : World} {A : Around} {E : Value → Shared → Prop} {s : Shared}
theorem type_str_val {x : Str} {t : Tok} {Q : Value → Shared → Prop} (q : Q (.type "str") s) : wpAny (model prog w) A (call (.type "type") [.str x t]) Q E s := by
  refine wpAny_call (codeAny_of_tree ?_)
  show wpAny _ _ (callAny (.type "type") ⟨[.str x t], []⟩) _ _ _
  simp only [callAny]
  refine wpAny_pure ⟨Code.quiet_builtin _ (by decide +kernel), codeAny_builtin entry_type_call ?_⟩
  unfold Builtin.«type.__call__»
  dsimp only
  unfold shownTypeOf
  repeat wp_step
  exact q
end
end
section
open PySem.SeqAt
section
variable {prog : Program} {w : World} {A : Around} {E : Value → Shared → Prop} {s : Shared} {env : Env}
theorem call_own {o : Expr} {name : Str} {apos pos : Pos} {args : List Expr} {kws : List Keyword} {Q : Value → Shared → Prop}
    (hbase : attributeBase o name env (eval o env) = eval o env) (hform : methodCallForm (args.length + kws.length) (backTo pos (starEach args env)) (backToKw pos (keywordEach kws env)) = true) (hline : (apos.endLine == pos.line) = true)
    (h : wpAny (model prog w) A (eval o env) (fun ov s₁ => ∃ T f fo fd, ov = .ref T ∧ fo.data = .func fd ∧ (∀ (E' : Value → Shared → Prop) (Q' : Value × List Value → Shared → Prop) (pl : Sem Bool), Q' (.ref f, [.ref T]) s₁ → wpAny (model prog w) A (getMethod (.ref T) name pl) Q' E' s₁) ∧
      wpAny (model prog w) A (evalArgs (.ref f) true (backTo pos (starEach args env)) (backToKw pos (keywordEach kws env))) (fun x s₂ => s₂.heap.get? f = some fo ∧ wpAny (model prog w) A (call (.ref f) (.ref T :: x.pos) x.kw) Q E s₂) E s₁) E s) :
    wpAny (model prog w) A (eval (.Call (.Attribute o name apos) args kws pos) env) Q E s := by
  rw [arm_eval_Call, hbase]
  refine wpAny_bind (wpAny_mono h (fun ov s₁ h₁ => ?_) fun _ _ e => e)
  obtain ⟨T, f, fo, fd, rfl, hd, hm, hc⟩ := h₁
  refine wpAny_bind (wpAny_standAt ?_)
  have hpos : methodCallPos true o env apos pos = pure pos := by unfold methodCallPos; simp [hline]
  unfold methodCall
  rw [hform]
  refine wpAny_bind (wpAny_holding (hm _ _ _ ?_))
  refine wpAny_bind (wpAny_of_eq hpos ?_)
  exact callWith_function_kw (o := fo) (fd := fd) (wpAny_mono hc (fun x s₂ h₂ => ⟨⟨h₂.1, hd⟩, h₂.2⟩) fun _ _ e => e)
end
end
section
open PySem.SeqAt
section
variable {C : Cx} {n : Nat} {X : Addr → Prop} {Z Z' : Fz} {s s' : Shared} {R : Vp} {env : Env} {Φ : Asn C} {pos : Pos}
noncomputable def emptyD (C : Cx) : Vp := ⟨fun Z v => ∃ d o, v = .ref d ∧ (d == sysModules) = false ∧ Z d = some o ∧ o.IsDictOf (PySem.strKind C.prog C.w) [], fun k ⟨d, o, e, e', z, h⟩ => ⟨d, o, e, e', k _ _ z, h⟩⟩
theorem entry_dii : entryFor table "dict_itemiterator.__iter__" = some Builtin.«dict_keyiterator.__iter__» :=
  entryFor_alias (id' := "dict_keyiterator.__iter__") (by kernel_rfl) (by first | rfl | decide +kernel | (unfold String.splitOn; simp +decide [String.splitOnAux])) (by decide +kernel) (by kernel_rfl)
theorem pyIter_items_self {I d : Addr} {i m ep : Nat} {ok ov : Value} {prog : Program} {w : World} {A : Around} {E : Value → Shared → Prop} {s : Shared} {Q : Value → Shared → Prop} (hi : IsItemIter s.heap I d i m ep ok ov) (q : Q (.ref I) s) : wpAny (model prog w) A (pyIter (.ref I)) Q E s := by
  have hT : s.TypeIs (.ref I) "dict_itemiterator" := ⟨_, hi, rfl⟩
  refine wpAny_pyIter_slot hT F.slot_dict_itemiterator_iter (wpAny_call_entry F.slot_dict_itemiterator_iter hT entry_dii ?_ (F.args_dict_itemiterator_iter_1 _))
  show wpAny _ _ (ret (.ref I)) _ _ s
  exact wpAny_pure ⟨_, rfl, "dict_itemiterator", _, hT, F.slot_dict_itemiterator_next.lookup, q⟩
theorem it_dict0 {o : Expr} {apos cpos : Pos} {elts : List Expr} {kk : Nat} {tp : Pos} (ho : EV C n Φ (eval o env) (emptyD C)) (hbase : attributeBase o "items" env (eval o env) = eval o env := by rfl) (hline : (apos.endLine == cpos.line) = true := by rfl) :
    IT C n Φ (.Call (.Attribute o "items" apos) [] [] cpos) env (.Tuple elts kk tp) [] := fun A s Z Q E hA I H k => by
  refine wpAny_Call_method0_late hbase hline (ho A s Z _ E hA I H fun v Z₁ s₁ x₁ pv => ?_)
  obtain ⟨d, od, rfl, hdS, hz, hod⟩ := pv
  have hm := Heap.dictOf_iff.mpr ⟨od, x₁.inv.heap _ _ hz, hod⟩
  refine ⟨"dict", "dict.items", F.plainAttrs_dict, F.slot_dict_items, F.type_dict_items, hm.typeIs, hm.mapOf.noDict, ?_⟩
  refine method_meetsIn F.slot_dict_items F.entry_dict_items rfl (PySem.evalArgs_none ⟨rfl, hm.typeIs, F.args_dict_items_1 _, _, meets_dict_items (PySem.strKind C.prog C.w) d hdS, ⟨[], hm⟩, ?_⟩)
  have st := StepX.push (X := No) x₁.inv (o := { cls := .type "dict_items", data := .fields #[.ref d] }) (t := s₁.toks)
  have hm' := hm.push { cls := .type "dict_items", data := .fields #[.ref d] }
  obtain ⟨ep, hat⟩ := hm'.dictAt
  refine wpAny_pyIter_items (v := s₁.heap.objs.size) ⟨_, Heap.get?_push_size _ rfl, rfl, rfl⟩ hat ?_
  have st2 := StepX.push (X := No) st.inv (o := { cls := .type "dict_itemiterator", data := .fields #[.none, .bool false, .ref d, .int 0 0, .int 0 0, .int ep 0, .none, .none] }) (t := s₁.toks)
  have hsz1 : s₁.heap.objs.size ≤ (s₁.heap.push { cls := .type "dict_items", data := .fields #[.ref d] }).objs.size := by rw [Heap.size_push]; exact Nat.le_succ _
  have hJ : s.heap.get? (s₁.heap.push { cls := .type "dict_items", data := .fields #[.ref d] }).objs.size = none := by
    cases e : s.heap.get? (s₁.heap.push { cls := .type "dict_items", data := .fields #[.ref d] }).objs.size with
    | none => rfl
    | some o =>
      have h1 : s₁.heap.get? (s₁.heap.push { cls := .type "dict_items", data := .fields #[.ref d] }).objs.size = none := gAb hsz1
      rcases x₁.gone h1 with q | q
      · rw [q] at e; cases e
      · exact q.elim
  have hne : d ≠ (s₁.heap.push { cls := .type "dict_items", data := .fields #[.ref d] }).objs.size := Nat.ne_of_lt hat.lt_size
  refine k _ Z₁ _ ((x₁.trans st).trans st2) ⟨_, _, _, _, _, (fun A hA => kti_itemsTurns (knd := PySem.strKind C.prog C.w) hA _ d hne [] ep), ⟨⟨.none, .none, Heap.get?_push_size _ rfl⟩, hat.push _⟩, fun b hb => ?_, fun b hb => ?_, fun i h' st' b hb => ?_, fun i v h' d Z' _ _ hd => ?_, fun A i s Q E hA st' q => ?_⟩
  · rw [List.mem_singleton.mp hb]; exact st.inv.fresh (gAb (Nat.le_refl _))
  · rcases List.mem_cons.mp hb with rfl | hb
    · exact .inr ⟨hJ, st.inv.fresh (gAb (Nat.le_refl _))⟩
    · rw [List.mem_singleton.mp hb]; exact .inl ⟨_, hz⟩
  · obtain ⟨⟨ok, ov, hi⟩, o', es, ho', r⟩ := st'
    rcases List.mem_cons.mp hb with rfl | hb
    · exact ⟨_, hi, fun _ ps q => by cases q⟩
    · rw [List.mem_singleton.mp hb]; exact ⟨o', ho', fun q => by rw [hz] at q; cases q⟩
  · simp at hd
  · obtain ⟨⟨ok, ov, hi⟩, _⟩ := st'
    exact pyIter_items_self hi q
end
end
section
open PySem.SeqAt
section
variable {C : Cx} {X Y : Addr → Prop} {Z Z' : Fz} {s s' : Shared}
theorem clo_enterB {n : Nat} {A : Around} {fd : FuncData} {f c : Addr} {o : Obj} {body : List Stmt} {args : Args} {P : Fz → List Value → Prop} {xs nm oc : List Str} {sc : List (Str × NameKind)} {ρ : List (Option Vp)} {ω : List (Addr × List PV)} {Q : Value → Shared → Prop} {E : Value → Shared → Prop}
    (hq : Quiet C) (I : Inv C Z s) (hA : Room (n + 2) A) (ho : Z f = some o) (hd : o.data = .func fd) (hc : fd.code = .ref c) (hcd : CodeIn Z c fd.qualname) (hbody : fd.body = .stmts body) (hsc : fd.scope.names = sc) (hgl : fd.globals = mainGlobals) (hbl : fd.builtins = builtinsNs) (hcl : fd.closure = [])
    (hcell : sc.all (fun x => x.2 != .cell) = true) (hbind : ∀ (Q' : List (Str × Value) → Shared → Prop) (E' : Value → Shared → Prop), (∀ vs Z₀ s₀, xs.length = vs.length → Step C Z s Z₀ s₀ → P Z₀ vs → Q' (xs.zip vs) s₀) → wpAny (model C.prog C.w) A.in1 (bindArgs fd args) Q' E' s)
    (hloc : xs.all (fun x => sc.lookup x == some .local) = true) (hoc : oc.all (fun x => sc.lookup x != some .cell) = true)
    (hnm : nm.Nodup) (hω : ∀ p ∈ ω, Owned Z s.heap p) (hωn : (ω.map (·.1)).Nodup)
    (hv : ∀ L h' vs Z₀, P Z₀ vs → h'.Ns L (fun x => (xs.zip vs).reverse.lookup x) → Vars (callEnv fd L f) Z₀ h' nm ρ)
    (h : ∀ L (X : Addr → Prop) A' Z₀ s₁ E', Room (n + 1) A' → Inv C Z₀ s₁ → Step C Z s Z₀ s₁ → (∀ b, X b → s.heap.get? b = none ∨ b ∈ ω.map (·.1)) → FSp (callEnv fd L f) nm oc sc X ρ ω (fun _ => none) Z₀ s₁.heap →
      wpAny (model C.prog C.w) A' (execs body (callEnv fd L f)) (fun fl s' => Q (match fl with | .ret v => v | _ => .none) s') E' s₁)
    (hco : fd.scope.isCoroutine = false) (hgen : fd.scope.isGenerator = false) (hk : fd.scope.kind = .function) :
    wpAny (model C.prog C.w) A (call (.ref f) args.pos args.kw) Q E s := by
  subst hsc
  have hf := I.heap _ _ ho
  refine wpAny_call (codeAny_call_function (R := fun r s' => match r with | .ok (.ret v) => Q v s' | .ok _ => False | .error e => E e s') (by have := hA.depth; simp only [recursionLimit]; lia) hf hd hco hgen hbody (by rw [hc]; exact hcd.rec I) (hbind _ _ fun vs Z₀ s₀ hlen x₀ hP => ?_))
  have hnl := hq s₀.heap fun b o e => x₀.inv.heap _ _ (x₀.inv.base _ _ e)
  refine wpAny_newFunctionEnv (fun x hx => by have := List.all_eq_true.mp hcell x hx; simpa using this) (fun x hx => by have := List.all_eq_true.mp hloc x.1 (List.of_mem_zip hx).1; simpa using this) (fun h₁ hns hsb => ⟨hnl.fresh _ hsb, codeAny_func ?_⟩) hk
  have hk₁ : ∀ b o, s₀.heap.get? b = some o → h₁.get? b = some o := fun b o e => hsb.extBut b o (Nat.ne_of_lt (Heap.lt_size e)) (Heap.get?_push_of_some _ e)
  have st : Step C Z₀ s₀ Z₀ { s₀ with heap := h₁, toks := s₀.toks + (xs.zip vs).length } := .keeps x₀.inv hk₁
  have hA' : Room (n + 1) (A.deeper (callEnv fd s₀.heap.objs.size f)) := ⟨by have := hA.depth; simp only [Around.deeper]; lia, by have := hA.units; simp only [Around.deeper]; lia, hA.handled⟩
  have zn : ∀ a, s₀.heap.objs.size ≤ a → Z₀ a = none := fun a ha => x₀.inv.fresh (gAb ha)
  have hω' : ∀ p ∈ ω, Owned Z₀ s₀.heap p := fun p hp => by
    obtain ⟨z, vs', m, e, r⟩ := hω p hp
    exact ⟨x₀.stillNone z e (fun q => q), vs', m, x₀.keep _ _ e (fun q => q) (I.tab_fields e fun ps q => by cases q), r.le x₀.le⟩
  refine h s₀.heap.objs.size (fun a => s.heap.get? a = none ∨ a ∈ ω.map (·.1)) _ Z₀ { s₀ with heap := h₁, toks := s₀.toks + (xs.zip vs).length } _ hA' st.inv (x₀.trans st) (fun b hb => hb)
    ⟨rfl, hgl, hbl, fun x hx e => ?_, hk, hnm, by show (List.Pairwise _ fd.closure); rw [hcl]; exact .nil, ⟨_, hns⟩, .inl ?_, zn _ (Nat.le_refl _), fun x a ha => ?_, fun x hx a ha => ?_, fun a ha => .inl (((x₀.trans st).gone ha).elim id fun q => q.elim), hv _ _ vs Z₀ hP hns, fun p hp => ?_, fun p hp => .inr (List.mem_map_of_mem hp), hωn, (fun _ _ h => nomatch h), fun _ _ h => nomatch h⟩
  · have := List.all_eq_true.mp hoc x hx
    simp only [e, bne_self_eq_false] at this
    cases this
  · exact (x₀.gone (gAb (Nat.le_refl _))).elim id fun q => q.elim
  · have e : fd.closure.lookup x = some a := ha
    rw [hcl] at e; cases e
  · have e : fd.closure.lookup x = some a := ha
    rw [hcl] at e; cases e
  · obtain ⟨z, vs', m, e, r⟩ := hω' p hp
    exact ⟨z, vs', m, hk₁ _ _ e, r⟩
end
end
section
open PySem.SeqAt
section
variable {C : Cx} {n : Nat} {X : Addr → Prop} {R : Vp} {env : Env} {nm oc : List Str} {sc : List (Str × NameKind)} {ω ω' : List (Addr × List PV)} {κ : Addr → Option Obj} {ρ ρ' : List (Option Vp)} {Ψ : Asn C} {RA : Fz → Heap → Value → Prop} {rest : List Stmt}
theorem eg_new {ρ' : Addr → List (Option Vp)} {ρ₀ : List (Option Vp)} {x : Str} {xp pos : Pos} {e : Expr} {mk : Addr → Vp} {ds : List PV} (he : EVN C n (FS C env nm oc sc X ρ₀ ω κ) (eval e env) mk ds)
    (hu : ∀ a, Upd nm ρ₀ x (some (mk a)) (ρ' a)) (pl : PlainName x) (hk : canSt sc oc x = true) (hs : swapsWith e (some (.Name x xp)) pos.line env = pure false)
    (k : ∀ a, EXG C n X (FS C env nm oc sc X (ρ' a) ((a, ds) :: ω) κ) (execs rest env) Ψ RA) : EXG C n X (FS C env nm oc sc X ρ₀ ω κ) (execs (.Assign [.Name x xp] e pos :: rest) env) Ψ RA := fun A s Z Q E hA I H kn kr => by
  refine wpAny_execs_cons (wpAny_Assign_Name (he A s Z _ E hA I H fun a v Z₁ s₁ x₁ hf ho pv => ?_) hs)
  refine st_name x₁.inv (H.owns I x₁ hf ho) pv (hu a) pl hk fun s₂ x₂ H₂ => ?_
  exact k a A s₂ Z₁ Q E hA x₂.inv H₂ (fun Z₃ s₃ x₃ H₃ => kn Z₃ s₃ (((Step.to x₁).trans x₂).trans x₃) H₃) fun v Z₃ s₃ x₃ r => kr v Z₃ s₃ (((Step.to x₁).trans x₂).trans x₃) r
theorem eg_freeze {a : Addr} {ds : List PV} (u : OF ω a ds ω') (q : Rfz a ds ρ ρ') (k : EXG C n X (FS C env nm oc sc X ρ' ω' κ) (execs rest env) Ψ RA) :
    EXG C n X (FS C env nm oc sc X ρ ω κ) (execs rest env) Ψ RA := fun A s Z Q E hA I H kn kr => by
  obtain ⟨Z', st, H', _⟩ := H.freeze I u q
  exact k A s Z' Q E hA st.inv H' (fun Z₂ s₂ x₂ H₂ => kn Z₂ s₂ (st.trans x₂) H₂) fun v Z₂ s₂ x₂ r => kr v Z₂ s₂ (st.trans x₂) r
theorem op_isnot_none {x : Str} : OP2 C n (compareOp .IsNot) (is (.str x)) (is .none) (is (.bool true)) := fun A s Z u v Q E hA I hu hv k => by
  obtain ⟨_, rfl⟩ := rdi hu; obtain ⟨_, rfl⟩ := rdi hv
  rename_i t
  have e : (!(Value.str x t == Value.none)) = true := by simp
  exact wpAny_pure (a := Value.bool (!(Value.str x t == Value.none))) (by rw [e]; exact k _ Z _ (StepX.refl I) (.bool _))
end
end
section
open PySem.SeqAt
section
variable {C : Cx} {n : Nat} {x sep : Str} {xs : List Str}
theorem hasM_str {name : Str} {id : String} (h1 : Slot "str" name id) (h2 : typeOf (.builtin id) = pure (.type "method_descriptor")) : HasM C name (is (.str x)) id := ⟨"str", F.plainAttrs_str, h1, h2, fun Z s v I h => by
  obtain ⟨_, rfl⟩ := rdi h; exact ⟨typeIs_str _ _ _, fun a h => by cases h⟩⟩
theorem RdL.strs {Z : Fz} : ∀ {vs : List Value} {xs : List Str}, RdL Z vs (xs.map .str) → ∃ l : List (Str × Tok), vs = strValues l ∧ l.map (·.1) = xs
  | [], [], .nil => ⟨[], rfl, rfl⟩
  | _, _ :: _, .cons h r => by
    obtain ⟨l, e1, e2⟩ := RdL.strs r
    cases h with
    | str _ t => exact ⟨(_, t) :: l, by rw [e1]; rfl, by rw [List.map_cons, e2]⟩
theorem fn_join (hg : (Builtin.Str.glued sep xs).length ≤ sizeLine) (hl : Builtin.Str.tooLong (xs.toArray.foldl (· + ·.length + sep.length) 0) = false) : FN C n (.builtin "str.join") [is (.str sep), is (.list (xs.map .str))] (is (.str (Builtin.Str.glued sep xs))) := fn2 fun A s Z u v Q E hA I h h' k => by
  obtain ⟨t, rfl⟩ := rdi h
  obtain ⟨a, m, vs, rfl, hz, r⟩ := rdi h'
  obtain ⟨l, rfl, rfl⟩ := r.strs
  refine call_meets F.slot_str_join (typeIs_str s sep t) F.entry_str_join (F.args_str_join_2 _ _) (meets_str_join_list sep t a l hl) ⟨isList_of I hz, ?_⟩
  cases l with
  | nil => exact ⟨hg, k _ Z _ (Step.toks I _) (.str _ _)⟩
  | cons p l =>
  cases l with
  | nil => exact k _ Z _ (StepX.refl I) (.str _ _)
  | cons q r => exact ⟨hg, k _ Z _ (Step.toks I _) (.str _ _)⟩
theorem fn_lower (h : Builtin.Str.tooLong (placed x fun i _ => Unicode.lowerAt x.cps i).size = false) : FN C n (.builtin "str.lower") [is (.str x)] (is (.str ⟨placed x fun i _ => Unicode.lowerAt x.cps i⟩)) := fn1 fun A s Z u Q E hA I h' k => by
  obtain ⟨t, rfl⟩ := rdi h'
  exact call_gives F.slot_str_lower (typeIs_str s x t) F.entry_str_lower (F.args_str_lower_1 _) (gives_str_lower x t h) ⟨by have := h; simp only [Builtin.Str.tooLong, decide_eq_false_iff_not, Nat.not_lt] at this; exact this, k _ Z _ (Step.toks I _) (.str _ _)⟩
theorem hasM_join : HasM C "join" (is (.str x)) "str.join" := hasM_str F.slot_str_join F.type_str_join
theorem hasM_lower : HasM C "lower" (is (.str x)) "str.lower" := hasM_str F.slot_str_lower F.type_str_lower
end
end
section
open PySem.SeqAt
section
variable {prog : Program} {w : World} {A : Around} {E : Value → Shared → Prop} {s : Shared} {env : Env}
theorem sub_sliceT {value : Expr} {lower upper : Option Expr} {p pos : Pos} {T id : String} {Q : Value → Shared → Prop}
    (hl : typeLookup (.type T) "__getitem__" = pure (some (.builtin id)))
    (h : wpAny (model prog w) A (eval value env) (fun o s₁ => wpAny (model prog w) A (eval (.Slice lower upper none p) env) (fun i s₂ => s₂.TypeIs o T ∧ wpAny (model prog w) A (getItem o i) Q E s₂) E s₁) E s) :
    wpAny (model prog w) A (eval (.Subscript value (.Slice lower upper none p) pos) env) Q E s := by
  rw [eval_Subscript]
  refine wpAny_bind (wpAny_mono h (fun o s₁ h₁ => wpAny_bind (wpAny_holding (wpAny_mono h₁ (fun i s₂ h₂ => wpAny_bind (wpAny_standAt ?_)) fun _ _ x => x)))
    fun _ _ x => x)
  have fin : wpAny (model prog w) A (operate [i, o] (getItem o i)) (fun r s₃ => wpAny (model prog w) A (letTemporaryGo value o r >>= fun _ => pure r) Q E s₃) E s₂ :=
    wpAny_operating (wpAny_mono h₂.2 (fun r s₃ h₃ => wpAny_bind (wpAny_letTemporaryGo (wpAny_pure h₃))) fun _ _ x => x)
  refine wpAny_bind ?_
  rw [getitemInPython_of_ne h₂.1.not_modules]
  refine wpAny_bind (wpAny_specialOf h₂.1 hl ?_)
  first
    | exact wpAny_pure (wpAny_bind fin)
    | exact wpAny_bind (wpAny_pure (wpAny_bind fin))
    | exact wpAny_bind fin
end
section
variable {C : Cx} {n : Nat} {Φ : Asn C} {env : Env} {l m ds : List PV} {x y : Str} {lo hi stp : Option Int} {e : Expr} {pos p : Pos}
theorem ev_slice_listT {v : Expr} {l u : Option Expr} (hv : EV C n Φ (eval v env) (is (.list ds))) (hl : PT C n Φ (evalPart l env) lo) (hu : PT C n Φ (evalPart u env) hi) (hsz : ds.length ≤ sizeLine)
    : EV C n Φ (eval (.Subscript v (.Slice l u none p) pos) env) (is (.list (pickL ds lo hi none))) := fun A s Z Q E hA I H k => by
  refine sub_sliceT (T := "list") list_getitem_lookup (hv A s Z _ E hA I H fun o Z₁ s₁ x₁ p₁ => wpAny_Slice ?_)
  refine hl A s₁ Z₁ _ E hA x₁.inv (Φ.stable I H x₁) fun q Z₂ s₂ x₂ e₂ => ?_
  refine hu A s₂ Z₂ _ E hA x₂.inv (Φ.stable x₁.inv (Φ.stable I H x₁) x₂) fun q' Z₃ s₃ x₃ e₃ => ?_
  rw [evalPart_none]
  obtain ⟨a, n, vs, rfl, hz, r⟩ := rdi p₁
  have hs := isList_of x₃.inv (x₃.le _ _ (x₂.le _ _ hz))
  refine wpAny_pure ⟨(hs.push _).typeIs, ?_⟩
  refine wpAny_getItem_list_slice (hs.push _) (Heap.IsSliceOf.new ..) isPart_of isPart_of .none (by simp) ?_ (by rw [List.size_toArray, r.length]; exact hsz)
  rw [e₂, e₃]
  have st1 := slice_push (C := C) x₃.inv (o := { cls := .type "slice", data := .fields #[(qv q), (qv q'), .none] })
  have st := StepX.alloc (X := No) st1.inv (o := { cls := .type "list", data := .seq (slicePick vs.toArray lo hi none) }) (t := s₃.toks) rfl
  refine k _ _ _ (((x₁.trans x₂).trans x₃).trans (st1.trans st)) (.list (n := 0) (vs := (slicePick vs.toArray lo hi none).toList) (put_self (Z := Z₃)) ?_)
  exact (r.pick).le ((x₂.trans x₃).le.trans st.le)
end
end
section
open PySem.SeqAt
section
variable {C : Cx} {X : Addr → Prop} {Z Z' : Fz} {s s' : Shared} {h h' : Heap}
theorem FSp.stepY {env : Env} {nm oc : List Str} {sc : List (Str × NameKind)} {Y : Addr → Prop} {ρ : List (Option Vp)} {ω : List (Addr × List PV)} {κ : Addr → Option Obj} (I : Inv C Z s) (H : FSp env nm oc sc X ρ ω κ Z s.heap) (x : StepX C Y Z s Z' s')
    (hL : ¬ Y env.locals) (hC : ∀ n c, env.cells.lookup n = some c → ¬ Y c) (hO : ∀ p ∈ ω, ¬ Y p.1) (hK : ∀ b o, κ b = some o → ¬ Y b) (hE : ∀ b, Y b → ∃ o, s'.heap.get? b = some o) : FSp env nm oc sc X ρ ω κ Z' s'.heap := by
  have kl : ∀ o, s.heap.get? env.locals = some o → s'.heap.get? env.locals = some o := fun o e => by
    obtain ⟨m, hn⟩ := H.loc
    exact x.keep _ o e hL (I.ns_notTab hn)
  have kc : ∀ n c, env.cells.lookup n = some c → ∀ o, s.heap.get? c = some o → s'.heap.get? c = some o := fun n c hc o e => by
    obtain ⟨_, v, hv⟩ := H.cells n c hc
    exact x.keep _ o e (hC n c hc) (I.cell_notTab hv)
  refine ⟨H.names, H.gl, H.bl, H.cellH, H.fn, H.nodup, H.apart, ?_, H.locX, ?_, fun n c hc => ?_, H.cellX, fun a ha => (x.gone ha).elim (H.cof a) (fun hy => by obtain ⟨o, e⟩ := hE a hy; rw [ha] at e; simp at e), H.vars.keeps x.le kl kc, fun p hp => ?_, H.ownX, H.ownN, fun b o e => ?_, H.heldX⟩
  · obtain ⟨m, hn⟩ := H.loc
    exact ⟨m, hn.at' kl⟩
  · obtain ⟨m, o, es, ep, e, _⟩ := H.loc
    exact x.stillNone H.locZ e hL
  · obtain ⟨hz, v, o, e, d⟩ := H.cells n c hc
    exact ⟨x.stillNone hz e (hC n c hc), v, o, kc n c hc o e, d⟩
  · obtain ⟨hz, vs, n, e, r⟩ := H.own p hp
    have hn : ∀ t ∈ C.tabs, p.1 ≠ t.1 := I.tab_fields e fun ps q => by cases q
    exact (H.own p hp).keeps x.le (x.stillNone hz e (hO p hp)) fun o e => x.keep _ o e (hO p hp) hn
  · obtain ⟨hz, ha, ht, hl, hc, hw⟩ := H.held b o e
    exact ⟨x.stillNone hz ha (hK b o e), x.keep _ _ ha (hK b o e) (I.tab_fields ha ht), ht, hl, hc, hw⟩
end
section
variable {C : Cx} {n : Nat} {R : Vp}
theorem op_isnot_nn : OP2 C n (compareOp .IsNot) (is .none) (is .none) (is (.bool false)) := fun A s Z u v Q E hA I hu hv k => by
  obtain ⟨_, rfl⟩ := rdi hu; obtain ⟨_, rfl⟩ := rdi hv
  exact wpAny_pure (a := Value.bool (!(Value.none == Value.none))) (k _ Z _ (StepX.refl I) (.bool _))
theorem op_isnot_type {T : String} : OP2 C n (compareOp .IsNot) (isv (.type T)) (isv (.type T)) (is (.bool false)) := fun A s Z u v Q E hA I hu hv k => by
  cases hu; cases hv
  have e : (!(Value.type T == Value.type T)) = false := by simp
  exact wpAny_pure (a := Value.bool (!(Value.type T == Value.type T))) (by rw [e]; exact k _ Z _ (StepX.refl I) (.bool _))
theorem evn_ifexpF {Φ : Asn C} {env : Env} {t b o : Expr} {pos : Pos} {mk : Addr → Vp} {ds : List PV} (ht : TV C n Φ (isTrue t env (eval t env)) false) (ho : EVN C n Φ (eval o env) mk ds) : EVN C n Φ (eval (.IfExp t b o pos) env) mk ds := fun A s Z Q E hA I H k => by
  refine wpAny_IfExp (ht A s Z _ E hA I H fun Z₁ s₁ x₁ => ?_)
  exact ho A s₁ Z₁ Q E hA x₁.inv (Φ.stable I H x₁) fun a v Z₂ s₂ x₂ hf ho' pv => k a v Z₂ s₂ (x₁.trans x₂) ((x₁.gone hf).elim id fun q => q.elim) ho' pv
theorem ev_type_own {X : Addr → Prop} {env : Env} {nm oc : List Str} {sc : List (Str × NameKind)} {ω : List (Addr × List PV)} {κ : Addr → Option Obj} {ρ : List (Option Vp)} {p p2 pos : Pos} {x : Str} {a : Addr} {ds : List PV} (hb : BltZ C (sQ "type") (.type "type")) (hx : At nm ρ x (isv (.ref a))) (hm : (a, ds) ∈ ω) (hk : sc.lookup (sQ "type") = some .globalImplicit) :
    EV C n (FS C env nm oc sc X ρ ω κ) (eval (.Call (.Name (sQ "type") p) [.Name x p2] [] pos) env) (isv (.type "list")) := fun A s Z Q E hA I H k => by
  refine wpAny_Call_NameR (ev_blt (n := n) hb hk (by decide) A s Z _ E hA I H fun v Z₁ s₁ x₁ pv => ?_)
  cases pv
  have H₁ := (FS C env nm oc sc X ρ ω κ).stable I H x₁
  refine callWith_type1 (el_cons (ev_name (n := n) hx) el_nil rfl A s₁ Z₁ _ E hA x₁.inv H₁ fun vs Z₂ s₂ x₂ hs => ?_) rfl rfl
  have H₂ := (FS C env nm oc sc X ρ ω κ).stable x₁.inv H₁ x₂
  obtain ⟨_, _, rfl, hv, hr⟩ := sati hs
  obtain rfl := sati hr
  cases hv
  obtain ⟨hz, vs, m, e, r⟩ := H₂.own _ hm
  have kk := k (.type "list") Z₂ s₂ (x₁.trans x₂) rfl
  obtain ⟨h, g, d, t, os⟩ := s₂
  exact call_type_obj e rfl kk
end
end
section
open PySem.SeqAt
section
variable {C : Cx} {X Y : Addr → Prop} {Z Z' : Fz} {s s' : Shared}
end
section
variable {C : Cx} {n : Nat} {Φ : Asn C} {env : Env}
end
end
section
open PySem.SeqAt
section
variable {C : Cx} {n : Nat} {X : Addr → Prop} {R : Vp} {env : Env} {nm oc : List Str} {sc : List (Str × NameKind)} {ω ω' : List (Addr × List PV)} {κ : Addr → Option Obj} {ρ : List (Option Vp)}
theorem ex_for0 {x : Str} {xp pos : Pos} {target : Expr} {body : List Stmt} {a : Addr} (hx : At nm ρ x (isv (.ref a))) (hm : (a, []) ∈ ω) (hs : ∀ v, foldedSetIterable (.Name x xp) env v = pure v := by intro _; rfl) :
    EX C n X (FS C env nm oc sc X ρ ω κ) (exec (.For target (.Name x xp) body [] pos) env) (FS C env nm oc sc X ρ ω κ) R := fun A s Z Q E hA I H kn kr => by
  refine wpAny_For (ev_name (n := n) hx A s Z _ E hA I H fun v Z₁ s₁ x₁ pv => ?_) hs
  cases pv
  have H₁ := (FS C env nm oc sc X ρ ω κ).stable I H x₁
  obtain ⟨hz, vs, m, e, r⟩ := H₁.own _ hm
  obtain rfl := rdli r
  have hl : s₁.heap.IsList a #[] := ⟨_, e, rfl, m, rfl⟩
  refine wpAny_pyIter_list hl ?_
  have st := StepX.push (X := No) x₁.inv (o := { cls := .type "list_iterator", data := .fields #[.ref a, .int 0 0] }) (t := s₁.toks)
  have hne : a ≠ s₁.heap.objs.size := Nat.ne_of_lt (Heap.lt_size e)
  have H₂ := (FS C env nm oc sc X ρ ω κ).stable x₁.inv H₁ st
  refine codeAny_forLoop_any (fun k s' => s' = { s₁ with heap := s₁.heap.push { cls := .type "list_iterator", data := .fields #[.ref a, .int 0 0] } } ∧ k = 1) ?_ 1 ⟨rfl, rfl⟩
  rintro k s' ⟨rfl, rfl⟩
  have W := Walks.list (prog := C.prog) (w := C.w) (A := A) hA.handled s₁.heap.objs.size a hne #[]
  have hB : ∀ b, s₁.heap.get? b = none → Beside env X ω κ C.tabs b := fun b hb => Beside.of x₁.inv H₁ hb
  refine W.done _ _ _ ⟨⟨_, Heap.get?_push_size _ rfl, rfl, rfl⟩, hl.push _⟩ fun h₂ tk₂ hk₂ => ?_
  have hfr := gAb (Nat.le_refl s₁.heap.objs.size)
  obtain ⟨x₂, H₃⟩ := FSp.beside (t := tk₂) (W := [s₁.heap.objs.size]) st.inv H₂ (fun b hb => by rw [List.mem_singleton.mp hb]; exact hB _ hfr) (fun b hb => by rw [List.mem_singleton.mp hb]; exact x₁.inv.fresh hfr) hk₂
  exact wpAny_execs_nil (kn Z₁ _ (((Step.to x₁).trans (Step.to st)).trans x₂) H₃)
end
end
section
open PySem.SeqAt
section
variable {prog : Program} {w : World} {A : Around} {E : Value → Shared → Prop} {s : Shared} {env : Env}
theorem sub_slice3T {value st : Expr} {lower upper : Option Expr} {p pos : Pos} {T id : String} {Q : Value → Shared → Prop}
    (hl : typeLookup (.type T) "__getitem__" = pure (some (.builtin id)))
    (h : wpAny (model prog w) A (eval value env) (fun o s₁ => wpAny (model prog w) A (eval (.Slice lower upper (some st) p) env) (fun i s₂ => s₂.TypeIs o T ∧ wpAny (model prog w) A (getItem o i) Q E s₂) E s₁) E s) :
    wpAny (model prog w) A (eval (.Subscript value (.Slice lower upper (some st) p) pos) env) Q E s := by
  rw [eval_Subscript]
  refine wpAny_bind (wpAny_mono h (fun o s₁ h₁ => wpAny_bind (wpAny_holding (wpAny_mono h₁ (fun i s₂ h₂ => wpAny_bind (wpAny_standAt ?_)) fun _ _ x => x)))
    fun _ _ x => x)
  have fin : ∀ ops, wpAny (model prog w) A (operate ops (getItem o i)) (fun r s₃ => wpAny (model prog w) A (letTemporaryGo value o r >>= fun _ => pure r) Q E s₃) E s₂ := fun ops =>
    wpAny_operating (wpAny_mono h₂.2 (fun r s₃ h₃ => wpAny_bind (wpAny_letTemporaryGo (wpAny_pure h₃))) fun _ _ x => x)
  refine wpAny_bind ?_
  rw [getitemInPython_of_ne h₂.1.not_modules]
  refine wpAny_bind (wpAny_specialOf h₂.1 hl ?_)
  first
    | exact wpAny_pure (wpAny_bind (fin _))
    | exact wpAny_bind (wpAny_pure (wpAny_bind (fin _)))
    | exact wpAny_bind (fin _)
end
section
variable {C : Cx} {n : Nat} {Φ : Asn C} {env : Env} {l m ds : List PV} {x y : Str} {lo hi stp : Option Int} {e : Expr} {pos p : Pos}
theorem ev_slice_list3T {v stx : Expr} {l u : Option Expr} {sti : Int} (hv : EV C n Φ (eval v env) (is (.list ds))) (hl : PT C n Φ (evalPart l env) lo) (hu : PT C n Φ (evalPart u env) hi) (hst : PT C n Φ (evalPart (some stx) env) (some sti)) (h0 : sti ≠ 0) (hsz : ds.length ≤ sizeLine) : EV C n Φ (eval (.Subscript v (.Slice l u (some stx) p) pos) env) (is (.list (pickL ds lo hi (some sti)))) := fun A s Z Q E hA I H k => by
  refine sub_slice3T (T := "list") list_getitem_lookup (hv A s Z _ E hA I H fun o Z₁ s₁ x₁ p₁ => wpAny_Slice ?_)
  refine hl A s₁ Z₁ _ E hA x₁.inv (Φ.stable I H x₁) fun q Z₂ s₂ x₂ e₂ => ?_
  refine hu A s₂ Z₂ _ E hA x₂.inv (Φ.stable x₁.inv (Φ.stable I H x₁) x₂) fun q' Z₃ s₃ x₃ e₃ => ?_
  refine hst A s₃ Z₃ _ E hA x₃.inv (Φ.stable x₂.inv (Φ.stable x₁.inv (Φ.stable I H x₁) x₂) x₃) fun q'' Z₄ s₄ x₄ e₄ => ?_
  obtain ⟨a, n, vs, rfl, hz, r⟩ := rdi p₁
  have hs := isList_of x₄.inv (x₄.le _ _ (x₃.le _ _ (x₂.le _ _ hz)))
  refine ⟨(hs.push _).typeIs, ?_⟩
  refine wpAny_getItem_list_slice (hs.push _) (Heap.IsSliceOf.new ..) isPart_of isPart_of isPart_of (by rw [e₄]; simpa using h0) ?_ (by rw [List.size_toArray, r.length]; exact hsz)
  rw [e₂, e₃, e₄]
  have st1 := slice_push (C := C) x₄.inv (o := { cls := .type "slice", data := .fields #[(qv q), (qv q'), (qv q'')] })
  have st := StepX.alloc (X := No) st1.inv (o := { cls := .type "list", data := .seq (slicePick vs.toArray lo hi (some sti)) }) (t := s₄.toks) rfl
  refine k _ _ _ ((((x₁.trans x₂).trans x₃).trans x₄).trans (st1.trans st)) (.list (n := 0) (vs := (slicePick vs.toArray lo hi (some sti)).toList) (put_self (Z := Z₄)) ?_)
  exact (r.pick).le (((x₂.trans x₃).trans x₄).le.trans st.le)
theorem preSum_getD (l : List Int) : ∀ k, k ≤ l.length → preSum (fun i => l.getD i 0) k = (l.take k).sum
  | 0, _ => rfl
  | k + 1, h => by
    have e : l[k]? = some l[k] := List.getElem?_eq_getElem (by lia)
    show preSum (fun i => l.getD i 0) k + l.getD k 0 = _
    rw [preSum_getD l k (by lia), List.take_add_one, e, Option.toList_some, List.sum_append, List.sum_singleton]
    congr 1
    simp [List.getD, e]
theorem fn_sum {l : List Int} : FN C n (.builtin "sum") [is (.list (l.map .int))] (is (.int l.sum)) := fn1 fun A s Z v Q E hA I hv k => by
  obtain ⟨a, m, vs, rfl, hz, r⟩ := rdi hv
  have hl := isList_of I hz
  have hal := Heap.lt_size (I.heap _ _ hz)
  have hlen : vs.toArray.size = l.length := by rw [List.size_toArray, r.length, List.length_map]
  refine call_sum_walkG (wpAny_pyIter_list hl ⟨_, _, _, _, _, _, fun i => l.getD i 0, rfl, Walks.list (A := A.in1) hA.handled s.heap.objs.size a (Nat.ne_of_lt hal) vs.toArray, ⟨⟨_, Heap.get?_push_size _ rfl, rfl, rfl⟩, hl.push _⟩, fun b hb => ?_, fun i v hP => ?_, fun h' tk t' hk => ?_⟩)
  · show b < (s.heap.push _).objs.size
    rw [Heap.size_push]
    rcases List.mem_cons.mp hb with rfl | hb
    · exact Nat.lt_succ_self _
    · rw [List.mem_singleton.mp hb]; exact Nat.lt_succ_of_lt hal
  · have hP : vs[i]? = some v := by simpa using hP
    have hi : i < l.length := by
      have := (List.getElem?_eq_some_iff.mp hP).1
      have := r.length; rw [List.length_map] at this; lia
    have hd : (l.map PV.int)[i]? = some (.int l[i]) := by rw [List.getElem?_map, List.getElem?_eq_getElem hi]; rfl
    have hr := r.at hP hd
    have eg : l.getD i 0 = l[i] := by simp [List.getD, List.getElem?_eq_getElem hi]
    cases hr with
    | int _ t => exact ⟨t, by show Value.int l[i] t = Value.int (l.getD i 0) t; rw [eg]⟩
  · have st : Step C Z s Z { s with heap := h', toks := tk } := .keeps I fun b o e => hk b o (fun q => by rw [List.mem_singleton.mp q] at e; exact absurd (Heap.lt_size e) (Nat.lt_irrefl _)) (Heap.get?_push_of_some _ e)
    have e : preSum (fun i => l.getD i 0) vs.toArray.size = l.sum := by rw [hlen, preSum_getD l _ (Nat.le_refl _), List.take_length]
    rw [e]
    exact k _ Z _ st (.int _ _)
theorem op_ne_list (k : Nat) (hk : k ≤ 800) (h : okN (k + 1) (.list l) (.list m) = true) : OP2 C n (compareOp .NotEq) (is (.list l)) (is (.list m)) (is (.bool (!eqN (k + 1) (.list l) (.list m)))) := fun A s Z u v Q E hA I hu hv kk => by
  have hun : A.units < 9001 := by have := hA.units; lia
  obtain ⟨a, n, vs, rfl, hz, r⟩ := rdi hu
  obtain ⟨a', n', vs', rfl, hz', r'⟩ := rdi hv
  by_cases hl : l.length = m.length
  · have hp : (l.zip m).all (fun p => okN k p.1 p.2) = true := by simpa [okN, hl] using h
    have e1 : eqN (k + 1) (.list l) (.list m) = (List.range vs.toArray.size).all fun i => eqN k (l.getD i .none) (m.getD i .none) := by
      rw [eqN, zip_all_range, List.size_toArray, r.length, hl]; simp
    rw [e1] at kk
    refine RcNeAt.lists (isList_of I hz) (isList_of I hz') (by rw [List.size_toArray, List.size_toArray, r.length, r'.length, hl]) (by show A.units < 9900; lia) (e := fun i => eqN k (l.getD i .none) (m.getD i .none)) (fun j h1 h2 => ?_) C.prog C.w E Q (kk _ Z _ (StepX.refl I) (.bool _))
    have j1 : j < vs.length := by simpa using h1
    have j2 : j < vs'.length := by simpa using h2
    have l1 : j < l.length := by rw [← r.length]; exact j1
    have l2 : j < m.length := by rw [← r'.length]; exact j2
    have g1 := List.getElem?_eq_getElem l1
    have g2 := List.getElem?_eq_getElem l2
    simp only [List.getD_eq_getElem?_getD, g1, g2]
    exact eq_at I k A.in1 l[j] m[j] _ _ (r.at (by simp) g1) (r'.at (by simp) g2) (zip_all_at hp g1 g2) (by show A.units + 1 + k < 9900; lia)
  · have e1 : eqN (k + 1) (.list l) (.list m) = false := by rw [eqN]; simp [hl]
    rw [e1] at kk
    exact RcNeAt.lists_lengths (isList_of I hz) (isList_of I hz') (by rw [List.size_toArray, List.size_toArray, r.length, r'.length]; simpa using hl) (by show A.units < 9900; lia) C.prog C.w E Q (kk _ Z _ (StepX.refl I) (.bool _))
end
end
section
open PySem.SeqAt
open AutoSeq1 (wpAny_loadPart')
section
variable {prog : Program} {w : World} {A : Around} {E : Value → Shared → Prop} {s : Shared}
theorem nextOf_tup {it t : Addr} {i : Nat} {items : Array Value} {x : Value} {Q : Value → Shared → Prop} (hit : s.heap.IsTupleIter it t i) (ht : s.heap.IsTuple t items) (hx : items[i]? = some x)
    (hQ : ∀ h', h'.IsTupleIter it t (i + 1) → Heap.SameBut it s.heap h' → Q x { s with heap := h' }) : wpAny (model prog w) A (Builtin.SmallTypes.nextOf (.ref it)) Q E s := by
  obtain ⟨o, ho, hc, hd⟩ := id hit
  obtain ⟨ol, hol, _, nl, hdl⟩ := ht
  unfold Builtin.SmallTypes.nextOf
  refine wpAny_bind (wpAny_callSpecial?_slot (name := sQ "__next__") hit.typeIs F.slot_tuple_iterator_next (wpAny_call_entry F.slot_tuple_iterator_next hit.typeIs F.entry_tuple_iterator_next ?_ (F.args_tuple_iterator_next_1 _)))
  show wpAny _ _ (field (.ref it) 0 >>= _) _ _ s
  refine wpAny_bind (wpAny_field ho hd (x := .ref t) rfl ?_)
  show wpAny _ _ (if (Value.ref t == Value.none) = true then _ else _) _ _ s
  rw [if_neg (show ¬ ((Value.ref t == Value.none) = true) from Bool.false_ne_true)]
  show wpAny _ _ (field (.ref it) 1 >>= _) _ _ s
  refine wpAny_bind (wpAny_field ho hd (x := .int i 0) rfl ?_)
  show wpAny _ _ (seqItems? (.ref t) >>= _) _ _ s
  refine wpAny_bind (wpAny_seqItems hol hdl ?_)
  dsimp only [Int.toNat_natCast]
  rw [hx]
  dsimp only
  refine wpAny_bind (wpAny_setField ho hd (by simp) (wpAny_pure ⟨x, rfl, wpAny_pure (hQ _ ?_ (Heap.SameBut.update ..))⟩))
  exact ⟨_, Heap.get?_update_self _ ho (Obj.isFreed_of_fields (Obj.data_mapFields hd _)), (Obj.cls_mapFields ..).trans hc, by rw [Obj.data_mapFields hd]; simp [rawInt]⟩
theorem nextOf_tup_end {it t : Addr} {i : Nat} {items : Array Value} {Q : Value → Shared → Prop} (hh : A.handled = none) (hit : s.heap.IsTupleIter it t i) (ht : s.heap.IsTuple t items) (hx : items[i]? = none)
    (hE : ∀ h' e, Heap.ExtBut it s.heap h' → (∃ o, h'.get? e = some o ∧ o.cls = .type "StopIteration") → E (.ref e) { s with heap := h' }) : wpAny (model prog w) A (Builtin.SmallTypes.nextOf (.ref it)) Q E s := by
  obtain ⟨o, ho, hc, hd⟩ := id hit
  obtain ⟨ol, hol, _, nl, hdl⟩ := ht
  unfold Builtin.SmallTypes.nextOf
  refine wpAny_bind (wpAny_callSpecial?_slot (name := sQ "__next__") hit.typeIs F.slot_tuple_iterator_next (wpAny_call_entry F.slot_tuple_iterator_next hit.typeIs F.entry_tuple_iterator_next ?_ (F.args_tuple_iterator_next_1 _)))
  show wpAny _ _ (field (.ref it) 0 >>= _) _ _ s
  refine wpAny_bind (wpAny_field ho hd (x := .ref t) rfl ?_)
  show wpAny _ _ (if (Value.ref t == Value.none) = true then _ else _) _ _ s
  rw [if_neg (show ¬ ((Value.ref t == Value.none) = true) from Bool.false_ne_true)]
  show wpAny _ _ (field (.ref it) 1 >>= _) _ _ s
  refine wpAny_bind (wpAny_field ho hd (x := .int i 0) rfl ?_)
  show wpAny _ _ (seqItems? (.ref t) >>= _) _ _ s
  refine wpAny_bind (wpAny_seqItems hol hdl ?_)
  dsimp only [Int.toNat_natCast]
  rw [hx]
  dsimp only
  refine wpAny_bind (wpAny_rule (wpAny_bind (wpAny_setField ho hd (by simp) ?_)))
  show wpAny _ _ (newExc (.type "StopIteration") [] >>= _) _ _ _
  refine wpAny_bind ?_
  simp only [newExc, newTuple]
  refine wpAny_bind (wpAny_newObj_type ?_ (by size_fits))
  refine wpAny_bind (m := firstArgMember _ _) (wpAny_of_eq (a := Value.none) (by first | rfl | (simp only [firstArgMember]; rfl)) ?_)
  refine wpAny_newObj_type ?_ (by size_fits)
  unfold raiseNew
  refine wpAny_bind (wpAny_handled ?_)
  first | rw [show A.in1.handled = none from hh] | rw [hh]
  refine wpAny_bind (wpAny_pure (wpAny_throw ?_))
  exact hE _ _ (((Heap.SameBut.update ..).extBut.push _).push _) ⟨_, Heap.get?_push_size _ rfl, rfl⟩
theorem drawsT (hh : A.handled = none) (it l : Addr) (hne : l ≠ it) (items : Array Value) :
    Draws prog w A it [it, l] items.size (fun i v => items[i]? = some v) (fun i h => h.IsTupleIter it l i ∧ h.IsTuple l items) where
  live := fun _ _ st => let ⟨o, ho, _⟩ := st.1; ⟨o, ho⟩
  frame := fun _ _ _ st hk => by
    obtain ⟨⟨o, ho, r⟩, o', ho', r'⟩ := st
    exact ⟨⟨o, hk it (by simp) o ho, r⟩, o', hk l (by simp) o' ho', r'⟩
  item := fun i s Q E hi st hQ => by
    refine nextOf_tup st.1 st.2 (x := items[i]) (by simp [hi]) fun h' hit' hs' => ?_
    obtain ⟨_, o', ho', r'⟩ := st
    exact hQ _ h' s.toks (by simp [hi]) ⟨hit', o', hs'.extBut _ _ hne ho', r'⟩ hs'
  done := fun s Q E st hE => nextOf_tup_end hh st.1 st.2 (by simp) hE
theorem anyB {b0 : Bool} {Q : Bool → Shared → Prop} (h : ∀ b, Q b s) : wpAny (model prog w) A (pure b0) Q E s := wpAny_pure (h b0)
theorem meets_enumT (l : Addr) (items : Array Value) :
    Meets (Builtin.«enumerate.__new__» ⟨[.type "enumerate", .ref l], []⟩) (fun _ R s => s.heap.IsTuple l items ∧
      R (.ok (.ret (.ref (s.heap.push { cls := .type "tuple_iterator", data := .fields #[.ref l, .int 0 0] }).objs.size)))
        { s with heap := (s.heap.push { cls := .type "tuple_iterator", data := .fields #[.ref l, .int 0 0] }).push { cls := .type "enumerate", data := .fields #[.none, .bool false, .ref s.heap.objs.size, rawInt 0, .none, .none] } }) :=
  .of_wp fun prog w A R s h => by
    obtain ⟨hp, g, d, tk, os⟩ := s; obtain ⟨hL, h⟩ := h
    have hsub := sub_enumerate
    have hL : Heap.IsTuple (Shared.heap ⟨hp, g, d, tk, os⟩) l items := hL
    obtain ⟨o, hl, _⟩ := id hL
    wp_walk using wpAny_loadPart' hl
    refine wpAny_stack_any fun st => anyB fun c => ?_
    cases c
    · wp_walk using wpAny_loadPart' hl, wpAny_pyIter_tuple hL
      exact ⟨_, rfl, h⟩
    · wp_walk using wpAny_loadPart' hl, wpAny_pyIter_tuple hL
      exact ⟨_, rfl, h⟩
theorem call_enumT {l : Addr} {items : Array Value} {Q : Value → Shared → Prop} (hL : s.heap.IsTuple l items)
    (h : ∀ h', IsEnum h' (s.heap.objs.size + 1) s.heap.objs.size 0 .none → h'.IsTupleIter s.heap.objs.size l 0 → (∀ b o, s.heap.get? b = some o → h'.get? b = some o) → Q (.ref (s.heap.objs.size + 1)) { s with heap := h' }) :
    wpAny (model prog w) A (call (.type "enumerate") [.ref l]) Q E s := by
  refine callType_new F.called_enumerate (by decide) (F.typeCall_enumerate_1 _) (F.newCall_enumerate_1 _) (fun obj => F.args_object_init_2 obj _) F.entry_enumerate_new (meets_enumT l items) ⟨hL, ?_⟩
  have hz : (s.heap.push { cls := .type "tuple_iterator", data := .fields #[.ref l, .int 0 0] }).objs.size = s.heap.objs.size + 1 := Heap.size_push ..
  show _ ∧ _
  rw [hz]
  have he : IsEnum ((s.heap.push { cls := .type "tuple_iterator", data := .fields #[.ref l, .int 0 0] }).push { cls := .type "enumerate", data := .fields #[.none, .bool false, .ref s.heap.objs.size, rawInt 0, .none, .none] }) (s.heap.objs.size + 1) s.heap.objs.size 0 .none := by
    have := Heap.get?_push_size (s.heap.push { cls := .type "tuple_iterator", data := .fields #[.ref l, .int 0 0] }) (o := { cls := .type "enumerate", data := .fields #[.none, .bool false, .ref s.heap.objs.size, rawInt 0, .none, .none] }) rfl
    rw [hz] at this; exact this
  exact ⟨⟨_, he, rfl⟩, h _ he ⟨_, Heap.get?_push_of_some _ (Heap.get?_push_size _ rfl), rfl, rfl⟩ fun b o x => Heap.get?_push_of_some _ (Heap.get?_push_of_some _ x)⟩
end
section
variable {C : Cx} {n : Nat} {p : Pos} {ds : List PV} {Z : Fz} {s : Shared}
theorem fi_enumT {ts : List Expr} {kk : Nat} : FI C n (.type "enumerate") [is (.tup ds)] (.Tuple ts kk p) (enumL ds) := fun A s Z vs Q E hA I hv k => by
  obtain ⟨_, _, rfl, h, r⟩ := sati hv
  obtain rfl := sati r
  cases h with
  | tup h r =>
    rename_i a m vs
    have hl : s.heap.IsTuple a vs.toArray := ⟨_, I.heap _ _ h, rfl, m, rfl⟩
    refine call_enumT hl fun h' he hit hk => ?_
    refine wpAny_pyIter_enum he ?_
    have hal := Heap.lt_size (I.heap _ _ h)
    have st : Step C Z s Z { s with heap := h' } := .keeps (t := s.toks) I hk
    have hlen : (enumL ds).length = vs.toArray.size := by rw [enumL, List.length_map, List.length_zipIdx, List.size_toArray, r.length]
    have g0 := gAb (Nat.le_refl s.heap.objs.size)
    have g1 := gAb (Nat.le_succ s.heap.objs.size)
    have hl' : h'.IsTuple a vs.toArray := by
      obtain ⟨o, ho, r⟩ := hl
      exact ⟨o, hk _ o ho, r⟩
    have W : ∀ A : Around, A.handled = none → WalksT C.prog C.w A (s.heap.objs.size + 1) [s.heap.objs.size + 1, s.heap.objs.size, a] [s.heap.objs.size + 1, s.heap.objs.size] (enumL ds).length _ _ _ := fun A hA => by
      rw [hlen]
      exact WalksT.enumerateD (drawsT (A := A.in1) hA s.heap.objs.size a (Nat.ne_of_lt hal) vs.toArray) (s.heap.objs.size + 1) (Nat.ne_of_gt (Nat.lt_succ_self _)) (fun hm => by
        rcases List.mem_cons.mp hm with q | hm
        · exact absurd q (Nat.ne_of_gt (Nat.lt_succ_self _))
        · exact absurd (List.mem_singleton.mp hm) (Nat.ne_of_gt (Nat.lt_succ_of_lt hal))) (List.mem_cons_self ..)
    refine k _ Z _ st (turns_walksU W
      ⟨⟨_, he⟩, hit, hl'⟩ (fun b hb => ?_) (fun b hb => ?_) (fun i h' st' b hb => ?_) fun i vals d Z' le hd hP => ?_)
    · rcases List.mem_cons.mp hb with rfl | hb
      · exact I.fresh g1
      · rw [List.mem_singleton.mp hb]; exact I.fresh g0
    · rcases List.mem_cons.mp hb with rfl | hb
      · exact .inr ⟨g1, I.fresh g1⟩
      · rcases List.mem_cons.mp hb with rfl | hb
        · exact .inr ⟨g0, I.fresh g0⟩
        · rw [List.mem_singleton.mp hb]; exact .inl ⟨_, h⟩
    · obtain ⟨⟨old, he⟩, ⟨o, ho, hc, hd⟩, o', ho', _⟩ := st'
      rcases List.mem_cons.mp hb with rfl | hb
      · exact ⟨_, he, fun _ ps q => by have := congrArg Obj.cls q; simp [tabObj] at this⟩
      · rcases List.mem_cons.mp hb with rfl | hb
        · exact ⟨o, ho, fun _ ps q => by subst q; simp [tabObj] at hc⟩
        · rw [List.mem_singleton.mp hb]; exact ⟨o', ho', fun q => by rw [h] at q; cases q⟩
    · obtain ⟨t, x, hx, rfl⟩ := hP
      rw [enumL, List.getElem?_map, List.getElem?_zipIdx] at hd
      cases hq : ds[i]? with
      | none => rw [hq] at hd; cases hd
      | some d' =>
        rw [hq] at hd
        simp at hd
        subst hd
        exact ⟨_, rfl, .cons (.int _ _) (.cons (RdL.at (RdL.le le r) (by simpa using hx) hq) .nil)⟩
end
end
section
open PySem.SeqAt
structure Src where
  it : Addr
  fp : List Addr
  P : Nat → Value → Prop
  St : Nat → Heap → Prop
abbrev ZipN (h : Heap) (z TI TO : Addr) (f0 : Value) (b : Bool) : Prop :=
  h.get? z = some { cls := .type "zip", dict := none, data := .fields #[f0, .bool b, .bool false, .ref TI, .ref TO], slots := #[] }
abbrev TupAt (h : Heap) (T : Addr) (vs : Array Value) : Prop := h.get? T = some { cls := .type "tuple", dict := none, data := .seq vs, slots := #[] }
structure ZApart (z TI TO : Addr) (srcs : List Src) : Prop where
  zTI : z ≠ TI
  zTO : z ≠ TO
  TITO : TI ≠ TO
  zS : ∀ S ∈ srcs, z ∉ S.fp
  TIS : ∀ S ∈ srcs, TI ∉ S.fp
  TOS : ∀ S ∈ srcs, TO ∉ S.fp
  self : ∀ S ∈ srcs, S.it ∈ S.fp
  pw : ∀ (m m' : Nat) (S S' : Src), srcs[m]? = some S → srcs[m']? = some S' → m ≠ m' → S.it ∉ S'.fp
noncomputable def refsOf (srcs : List Src) : List Value := srcs.map fun S => Value.ref S.it
def takenAt (srcs : List Src) (i k : Nat) (arr : Array Value) : Prop := ∀ (m : Nat) (S : Src) (v : Value), m < k → srcs[m]? = some S → arr[m]? = some v → S.P i v
section
variable {prog : Program} {w : World} {A : Around} {E : Value → Shared → Prop} {s : Shared}
theorem wpAny_alive {M : Model} {a : Addr} {Q : Option Obj → Shared → Prop} (h : Q (s.heap.get? a) s) : wpAny M A (loadIfAlive a) Q E s := fun Γ p _ => by
  unfold loadIfAlive
  rw [Sem.wp_loadIfAlive]
  exact wpAny_pure (M := M) (A := A) (E := E) (Q := Q) h Γ p ‹_›
theorem sameBut_refl {a : Addr} {h : Heap} : Heap.SameBut a h h := ⟨rfl, fun _ _ => rfl⟩
theorem zip_isFree {z TI TO : Addr} {f0 : Value} {fl : Bool} {Q : Bool → Shared → Prop} (hz : ZipN s.heap z TI TO f0 fl) (hf : f0 = .none ∨ ∃ T, f0 = rawInt T)
    (h : ∀ c h' fl', ZipN h' z TI TO f0 fl' → Heap.SameBut z s.heap h' → Q c { s with heap := h' }) : wpAny (model prog w) A (Builtin.SmallTypes.ownedTupleIsFree (.ref z)) Q E s := by
  unfold Builtin.SmallTypes.ownedTupleIsFree
  refine wpAny_bind (wpAny_field hz rfl (x := f0) rfl ?_)
  rcases hf with rfl | ⟨T, rfl⟩
  · exact wpAny_pure (h true s.heap fl hz sameBut_refl)
  · show wpAny _ _ (loadIfAlive _ >>= _) _ _ _
    refine wpAny_bind (wpAny_alive ?_)
    split
    · exact wpAny_pure (h true s.heap fl hz sameBut_refl)
    · refine wpAny_bind (wpAny_field hz rfl (x := .bool fl) rfl ?_)
      split
      · refine wpAny_bind (wpAny_setField_rec hz (by simp) fun h' hz' hs' => wpAny_pure (h false h' true hz' hs'))
      · exact wpAny_pure (h false s.heap fl hz sameBut_refl)
structure ZDrawn (z TI TO : Addr) (srcs : List Src) (i k : Nat) (f0 : Value) (fl : Bool) (h₀ h : Heap) : Prop where
  zz : ZipN h z TI TO f0 fl
  ti : TupAt h TI (refsOf srcs).toArray
  St : ∀ (m : Nat) (S : Src), srcs[m]? = some S → S.St (if m < k then i + 1 else i) h
  size : h.objs.size = h₀.objs.size
  keep : ∀ b o, b ≠ z → b ≠ TO → (∀ S ∈ srcs, b ≠ S.it) → h₀.get? b = some o → h.get? b = some o
theorem ZDrawn.step {z TI TO : Addr} {srcs : List Src} {i k n : Nat} {f0 : Value} {fl : Bool} {h₀ h h' : Heap} {S : Src} (D : ZApart z TI TO srcs) (hd : ∀ S ∈ srcs, Draws prog w A S.it S.fp n S.P S.St) (x : ZDrawn z TI TO srcs i k f0 fl h₀ h) (hS : srcs[k]? = some S) (hst : S.St (i + 1) h') (hs : Heap.SameBut S.it h h') : ZDrawn z TI TO srcs i (k + 1) f0 fl h₀ h' := by
  have hm := List.mem_of_getElem? hS
  have hne : ∀ {b}, b ∉ S.fp → b ≠ S.it := fun hb q => hb (q ▸ D.self S hm)
  refine ⟨hs.extBut _ _ (hne (D.zS S hm)) x.zz, hs.extBut _ _ (hne (D.TIS S hm)) x.ti, fun m S' h1 => ?_, hs.1.trans x.size, fun b o b1 b2 b3 e => hs.extBut _ _ (b3 S hm) (x.keep b o b1 b2 b3 e)⟩
  by_cases q : m = k
  · subst q
    rw [hS] at h1; cases h1
    rw [if_pos (Nat.lt_succ_self _)]; exact hst
  · have e : (if m < k + 1 then i + 1 else i) = (if m < k then i + 1 else i) := by
      by_cases c : m < k
      · rw [if_pos c, if_pos (by lia)]
      · rw [if_neg c, if_neg (by lia)]
    rw [e]
    exact (hd S' (List.mem_of_getElem? h1)).frame _ _ _ (x.St m S' h1) fun b hb o e => hs.extBut _ _ (fun q' => D.pw k m S S' hS h1 (Ne.symm q) (q' ▸ hb)) e
theorem ZDrawn.other {z TI TO : Addr} {srcs : List Src} {i k n : Nat} {f0 f0' : Value} {fl fl' : Bool} {h₀ h h' : Heap} {b₀ : Addr} (D : ZApart z TI TO srcs) (hd : ∀ S ∈ srcs, Draws prog w A S.it S.fp n S.P S.St) (x : ZDrawn z TI TO srcs i k f0 fl h₀ h) (hb : b₀ = z ∨ b₀ = TO) (hz : ZipN h' z TI TO f0' fl') (hs : Heap.SameBut b₀ h h') : ZDrawn z TI TO srcs i k f0' fl' h₀ h' := by
  have nS : ∀ S ∈ srcs, b₀ ∉ S.fp := fun S hm => by rcases hb with rfl | rfl; exact D.zS S hm; exact D.TOS S hm
  have nTI : TI ≠ b₀ := by rcases hb with rfl | rfl; exact D.zTI.symm; exact D.TITO
  refine ⟨hz, hs.extBut _ _ nTI x.ti, fun m S h1 => (hd S (List.mem_of_getElem? h1)).frame _ _ _ (x.St m S h1) fun b hb' o e => hs.extBut _ _ (fun q => nS S (List.mem_of_getElem? h1) (q ▸ hb')) e, hs.1.trans x.size, fun b o b1 b2 b3 e => hs.extBut _ _ (fun q => by rcases hb with rfl | rfl; exact b1 q; exact b2 q) (x.keep b o b1 b2 b3 e)⟩
theorem TupAt.upd {T : Addr} {arr : Array Value} {k : Nat} {x : Value} {Q : Unit → Shared → Prop} (hT : TupAt s.heap T arr) (hsz : arr.size ≤ sizeLine)
    (h : ∀ h', TupAt h' T (arr.setIfInBounds k x) → Heap.SameBut T s.heap h' → Q () { s with heap := h' }) :
    wpAny (model prog w) A (updateSeq T (·.setIfInBounds k x)) Q E s := by
  refine wpAny_updateSeq hT rfl (h _ ?_ (Heap.SameBut.update ..)) hsz (by rw [Array.size_setIfInBounds]; lia)
  show (s.heap.update T _).get? T = _
  rw [Heap.get?_update_self _ hT rfl]
  simp [Obj.mapSeq]
theorem taken_set {srcs : List Src} {i k : Nat} {arr : Array Value} {S : Src} {x : Value} (h : takenAt srcs i k arr) (hS : srcs[k]? = some S) (hx : S.P i x) : takenAt srcs i (k + 1) (arr.setIfInBounds k x) := fun m S' v hm h1 h2 => by
  rw [Array.getElem?_setIfInBounds] at h2
  by_cases q : k = m
  · subst q
    rw [if_pos rfl] at h2
    split at h2
    · cases h2; rw [hS] at h1; cases h1; exact hx
    · cases h2
  · rw [if_neg q] at h2
    exact h m S' v (by lia) h1 h2
theorem taken_push {srcs : List Src} {i k : Nat} {arr : Array Value} {S : Src} {x : Value} (h : takenAt srcs i k arr) (ha : arr.size = k) (hS : srcs[k]? = some S) (hx : S.P i x) : takenAt srcs i (k + 1) (arr.push x) := fun m S' v hm h1 h2 => by
  rw [Array.getElem?_push] at h2
  by_cases q : m = k
  · subst q
    rw [if_pos ha.symm] at h2
    cases h2; rw [hS] at h1; cases h1; exact hx
  · rw [if_neg (by rw [ha]; exact q)] at h2
    exact h m S' v (by lia) h1 h2
theorem drop_cons {α : Type} {l : List α} {k : Nat} {x : α} {r : List α} (h : l.drop k = x :: r) : l[k]? = some x ∧ l.drop (k + 1) = r := by
  have h1 : (l.drop k)[0]? = some x := by rw [h]; rfl
  rw [List.getElem?_drop] at h1
  refine ⟨by simpa using h1, ?_⟩
  rw [← List.drop_drop, h]; rfl
theorem refs_at {srcs : List Src} {k : Nat} {v : Value} (h : (refsOf srcs)[k]? = some v) : ∃ S, srcs[k]? = some S ∧ v = .ref S.it := by
  rw [refsOf, List.getElem?_map] at h
  cases q : srcs[k]? with
  | none => rw [q] at h; cases h
  | some S => rw [q] at h; cases h; exact ⟨S, rfl, rfl⟩
inductive ZSt (z TI TO : Addr) (srcs : List Src) (i : Nat) (h : Heap) : Prop where
  | mk (f0 : Value) (fl : Bool) (arr : Array Value) (hf : f0 = Value.none ∨ ∃ T, f0 = rawInt T) (hz : ZipN h z TI TO f0 fl) (hI : TupAt h TI (refsOf srcs).toArray) (hO : TupAt h TO arr) (ha : arr.size = srcs.length) (hS : ∀ S ∈ srcs, S.St i h)
theorem ZSt.frame {z TI TO : Addr} {srcs : List Src} {i n : Nat} {h h' : Heap} (hd : ∀ S ∈ srcs, Draws prog w A S.it S.fp n S.P S.St) (x : ZSt z TI TO srcs i h) (k : ∀ b, (b = z ∨ b = TI ∨ b = TO ∨ ∃ S ∈ srcs, b ∈ S.fp) → ∀ o, h.get? b = some o → h'.get? b = some o) : ZSt z TI TO srcs i h' := by
  obtain ⟨f0, fl, arr, hf, hz, hTI, hTO, ha, hst⟩ := x
  exact ⟨f0, fl, arr, hf, k _ (.inl rfl) _ hz, k _ (.inr (.inl rfl)) _ hTI, k _ (.inr (.inr (.inl rfl))) _ hTO, ha, fun S hS => (hd S hS).frame _ _ _ (hst S hS) fun b hb o e => k b (.inr (.inr (.inr ⟨S, hS, hb⟩))) o e⟩
theorem ZDrawn.start {z TI TO : Addr} {srcs : List Src} {i : Nat} {f0 : Value} {fl : Bool} {h : Heap} (hz : ZipN h z TI TO f0 fl) (hTI : TupAt h TI (refsOf srcs).toArray) (hst : ∀ S ∈ srcs, S.St i h) : ZDrawn z TI TO srcs i 0 f0 fl h h :=
  ⟨hz, hTI, fun m S hS => by rw [if_neg (Nat.not_lt_zero _)]; exact hst S (List.mem_of_getElem? hS), rfl, fun _ _ _ _ _ e => e⟩
inductive ZLp {β : Type} (z TI TO : Addr) (srcs : List Src) (i : Nat) (f0 : Value) (fl : Bool) (s : Shared) (L : List (Value × Nat)) (b : Option β × Unit) (s' : Shared) : Prop where
  | mk (k : Nat) (h : Heap) (tk : Nat) (arr : Array Value) (e : b = (none, ())) (eL : L = (refsOf srcs).zipIdx.drop k) (hk : k ≤ srcs.length) (es : s' = { s with heap := h, toks := tk }) (d : ZDrawn z TI TO srcs i k f0 fl s.heap h) (t : TupAt h TO arr) (a : arr.size = srcs.length) (n : takenAt srcs i k arr)
inductive ZLq {β : Type} (z TI TO : Addr) (srcs : List Src) (i : Nat) (f0 : Value) (fl : Bool) (s : Shared) (arr : Array Value) (L : List Value) (b : Option β × Array Value) (s' : Shared) : Prop where
  | mk (k : Nat) (h : Heap) (tk : Nat) (e : b.1 = none) (eL : L = (refsOf srcs).drop k) (hk : k ≤ srcs.length) (es : s' = { s with heap := h, toks := tk }) (d : ZDrawn z TI TO srcs i k f0 fl s.heap h) (t : TupAt h TO arr) (a : b.2.size = k) (n : takenAt srcs i k b.2)
theorem zipN_next {z TI TO : Addr} {srcs : List Src} {i n : Nat} {Q : Value → Shared → Prop} (D : ZApart z TI TO srcs) (hd : ∀ S ∈ srcs, Draws prog w A S.it S.fp n S.P S.St) (hi : i < n) (h0 : srcs ≠ []) (hl : srcs.length ≤ 1000) (hst : ZSt z TI TO srcs i s.heap)
    (hQ : ∀ h' tk vals, ZSt z TI TO srcs (i + 1) h' → TupAt h' s.heap.objs.size vals → vals.size = srcs.length → takenAt srcs i srcs.length vals → h'.objs.size = s.heap.objs.size + 1 →
      (∀ b o, b ≠ z → b ≠ TO → (∀ S ∈ srcs, b ≠ S.it) → s.heap.get? b = some o → h'.get? b = some o) → Q (.ref s.heap.objs.size) { s with heap := h', toks := tk }) :
    wpAny (model prog w) A (Builtin.«zip.__next__» ⟨[.ref z], []⟩) (fun fin s' => ∃ v, fin = .done (.ret v) ∧ Q v s') E s := by
  obtain ⟨f0, fl, arr, hf, hz, hTI, hTO, ha, hst⟩ := hst
  have hlen : srcs.length ≤ sizeLine := by rw [sizeLine_eq]; lia
  show wpAny _ _ (field (.ref z) 2 >>= _) _ _ _
  refine wpAny_bind (wpAny_field hz rfl (x := .bool false) rfl ?_)
  show wpAny _ _ (field (.ref z) 3 >>= _) _ _ _
  refine wpAny_bind (wpAny_field hz rfl (x := .ref TI) rfl ?_)
  refine wpAny_bind (wpAny_seqItems hTI rfl ?_)
  dsimp only
  show wpAny _ _ (if _ then _ else _) _ _ _
  rw [if_neg (by
    rw [refsOf]
    cases srcs with
    | nil => exact absurd rfl h0
    | cons S r => simp)]
  have fin : ∀ h, ZDrawn z TI TO srcs i srcs.length f0 fl s.heap h → True := fun _ _ => trivial
  clear fin
  have up : ∀ {h : Heap} {o : Obj} {b o'}, h.get? b = some o' → (h.push o).get? b = some o' := fun e => Heap.get?_push_of_some _ e
  refine wpAny_bind (zip_isFree hz hf fun c h₁ fl₁ hz₁ hs₁ => ?_)
  have d₁ := (ZDrawn.start hz hTI hst).other D hd (.inl rfl) hz₁ hs₁
  have hTO₁ : TupAt h₁ TO arr := hs₁.extBut _ _ D.zTO.symm hTO
  clear hs₁
  cases c with
  | true =>
    rw [if_pos rfl]
    refine wpAny_bind (wpAny_rule ?_)
    refine wpAny_bind (wpAny_field hz₁ rfl (x := .ref TO) rfl ?_)
    dsimp only
    refine wpAny_bind (wpAny_setField_rec hz₁ (by simp) fun h₂ hz₂ hs₂ => ?_)
    replace hz₂ : ZipN h₂ z TI TO .ellipsis fl₁ := hz₂
    have d₂ := d₁.other D hd (.inl rfl) hz₂ hs₂
    have hTO₂ : TupAt h₂ TO arr := hs₂.extBut _ _ D.zTO.symm hTO₁
    refine wpAny_bind (wpAny_forIn_list _ (ZLp z TI TO srcs i .ellipsis fl₁ s) _ ?_ ?_ _ _ ?_)
    · rintro x rest b s' ⟨k, h, tk, arr', rfl, hL, hk, rfl, hd₃, hTO₃, ha₃, ht₃⟩
      obtain ⟨hx, hr⟩ := drop_cons hL.symm
      rw [List.getElem?_zipIdx] at hx
      cases hq : (refsOf srcs)[k]? with
      | none => rw [hq] at hx; cases hx
      | some v =>
        rw [hq] at hx
        simp only [Option.map_some, Option.some.injEq, Nat.zero_add] at hx
        subst hx
        obtain ⟨S, hS, rfl⟩ := refs_at hq
        have hSm := List.mem_of_getElem? hS
        refine wpAny_bind (wpAny_onRaise ?_)
        show wpAny _ _ (Builtin.SmallTypes.nextOf (.ref S.it) >>= _) _ _ _
        have hSt := hd₃.St k S hS
        rw [if_neg (Nat.lt_irrefl _)] at hSt
        refine wpAny_bind ((hd S hSm).item i _ _ _ hi hSt fun x h₄ tk₄ hP hst₄ hs₄ => wpAny_pure ?_)
        have d₄ := hd₃.step D hd hS hst₄ hs₄
        have hTO₄ : TupAt h₄ TO arr' := hs₄.extBut _ _ (fun q => D.TOS S hSm (q ▸ D.self S hSm)) hTO₃
        dsimp only
        refine wpAny_bind (wpAny_seqItems hTO₄ rfl ?_)
        dsimp only
        refine wpAny_bind (TupAt.upd hTO₄ (by rw [ha₃]; exact hlen) fun h₅ hTO₅ hs₅ => ?_)
        have d₅ := d₄.other D hd (.inr rfl) (hs₅.extBut _ _ D.zTO d₄.zz) hs₅
        refine wpAny_bind (wpAny_letGo (wpAny_pure ?_))
        have hkl := (List.getElem?_eq_some_iff.mp hS).1
        exact ⟨k + 1, h₅, tk₄, _, rfl, hr.symm, hkl, rfl, d₅, hTO₅, by rw [Array.size_setIfInBounds]; exact ha₃, taken_set ht₃ hS hP⟩
    · rintro b s' ⟨k, h, tk, arr', rfl, hL, hk, rfl, d₃, hTO₃, ha₃, ht₃⟩
      have hkl : k = srcs.length := by
        have := congrArg List.length hL
        rw [List.length_drop, List.length_zipIdx, refsOf, List.length_map, List.length_nil] at this
        lia
      subst hkl
      dsimp only
      refine wpAny_bind (wpAny_seqItems hTO₃ rfl ?_)
      dsimp only
      refine wpAny_bind (wpAny_newTuple ?_ (by rw [Array.length_toList, ha₃]; exact hlen))
      refine wpAny_bind ?_
      unfold Builtin.SmallTypes.ownedTupleHandOut
      have hz₄ := up (o := { cls := .type "tuple", data := .seq arr'.toList.toArray }) d₃.zz
      refine wpAny_bind (wpAny_setField_rec hz₄ (by simp) fun h₅ hz₅ hs₅ => ?_)
      replace hz₅ : ZipN h₅ z TI TO (rawInt h.objs.size) fl₁ := hz₅
      refine wpAny_setField_rec hz₅ (by simp) fun h₆ hz₆ hs₆ => ?_
      replace hz₆ : ZipN h₆ z TI TO (rawInt h.objs.size) false := hz₆
      have sz := d₃.size
      have ne : h.objs.size ≠ z := Nat.ne_of_gt (Heap.lt_size d₃.zz)
      have keep : ∀ b o, b ≠ z → h.get? b = some o → h₆.get? b = some o := fun b o hb e => hs₆.extBut _ _ hb (hs₅.extBut _ _ hb (up e))
      refine wpAny_pure ⟨_, rfl, ?_⟩
      rw [sz]
      refine hQ h₆ tk arr' ⟨_, _, arr', .inr ⟨_, rfl⟩, hz₆, keep _ _ D.zTI.symm d₃.ti, keep _ _ D.zTO.symm hTO₃, ha₃, fun S hS => ?_⟩ ?_ ha₃ ht₃ ?_ fun b o b1 b2 b3 e => keep b o b1 (d₃.keep b o b1 b2 b3 e)
      · obtain ⟨m, hm⟩ := List.mem_iff_getElem?.mp hS
        have hSt := d₃.St m S hm
        rw [if_pos (List.getElem?_eq_some_iff.mp hm).1] at hSt
        exact (hd S hS).frame _ _ _ hSt fun b hb o e => keep b o (fun q => D.zS S hS (q ▸ hb)) e
      · have := hs₆.extBut _ _ ne (hs₅.extBut _ _ ne (Heap.get?_push_size h (o := { cls := .type "tuple", data := .seq arr'.toList.toArray }) rfl))
        rw [sz, Array.toArray_toList] at this
        exact this
      · rw [hs₆.1, hs₅.1, Heap.size_push, sz]
    · exact ⟨0, h₂, s.toks, arr, rfl, rfl, Nat.zero_le _, rfl, d₂, hTO₂, ha, fun m S v hm => absurd hm (Nat.not_lt_zero _)⟩
  | false =>
    rw [if_neg (by decide)]
    refine wpAny_bind (PySem.MeetsSeq2.wpAny_forIn_array _ (ZLq z TI TO srcs i f0 fl₁ s arr) _ ?_ ?_ _ _ ?_)
    · rintro x rest ⟨b1, b2⟩ s' ⟨k, h, tk, rfl, hL, hk, rfl, hd₃, hTO₃, ha₃, ht₃⟩
      obtain ⟨hx, hr⟩ := drop_cons hL.symm
      obtain ⟨S, hS, rfl⟩ := refs_at hx
      have hSm := List.mem_of_getElem? hS
      refine wpAny_bind (wpAny_holding ?_)
      show wpAny _ _ (Builtin.SmallTypes.nextOf (.ref S.it) >>= _) _ _ _
      have hSt := hd₃.St k S hS
      rw [if_neg (Nat.lt_irrefl _)] at hSt
      refine wpAny_bind ((hd S hSm).item i _ _ _ hi hSt fun x h₄ tk₄ hP hst₄ hs₄ => wpAny_pure (wpAny_pure ?_))
      have d₄ := hd₃.step D hd hS hst₄ hs₄
      have hTO₄ : TupAt h₄ TO arr := hs₄.extBut _ _ (fun q => D.TOS S hSm (q ▸ D.self S hSm)) hTO₃
      have hkl := (List.getElem?_eq_some_iff.mp hS).1
      exact ⟨k + 1, h₄, tk₄, rfl, hr.symm, hkl, rfl, d₄, hTO₄, by rw [Array.size_push, ha₃], taken_push ht₃ ha₃ hS hP⟩
    · rintro ⟨b1, b2⟩ s' ⟨k, h, tk, rfl, hL, hk, rfl, d₃, hTO₃, ha₃, ht₃⟩
      have hkl : k = srcs.length := by
        have := congrArg List.length hL
        rw [List.length_drop, refsOf, List.length_map, List.length_nil] at this
        lia
      subst hkl
      dsimp only at ha₃ ht₃ ⊢
      refine wpAny_bind (wpAny_newTuple ?_ (by rw [Array.length_toList, ha₃]; exact hlen))
      have sz := d₃.size
      refine wpAny_pure ⟨_, rfl, ?_⟩
      rw [sz]
      refine hQ _ tk b2 ⟨_, _, arr, hf, up d₃.zz, up d₃.ti, up hTO₃, ha, fun S hS => ?_⟩ ?_ ha₃ ht₃ (by rw [Heap.size_push, sz]) fun b o b1 b2 b3 e => up (d₃.keep b o b1 b2 b3 e)
      · obtain ⟨m, hm⟩ := List.mem_iff_getElem?.mp hS
        have hSt := d₃.St m S hm
        rw [if_pos (List.getElem?_eq_some_iff.mp hm).1] at hSt
        exact (hd S hS).frame _ _ _ hSt fun b hb o e => up e
      · have := Heap.get?_push_size h (o := { cls := .type "tuple", data := .seq b2.toList.toArray }) rfl
        rw [sz, Array.toArray_toList] at this
        exact this
    · exact ⟨0, h₁, s.toks, rfl, rfl, Nat.zero_le _, rfl, d₁, hTO₁, rfl, fun m S v hm => absurd hm (Nat.not_lt_zero _)⟩
theorem zipN_end {z TI TO : Addr} {srcs : List Src} {n : Nat} {Q : Fin → Shared → Prop} (D : ZApart z TI TO srcs) (hd : ∀ S ∈ srcs, Draws prog w A S.it S.fp n S.P S.St) (h0 : srcs ≠ []) (hst : ZSt z TI TO srcs n s.heap)
    (hE : ∀ h' e, (∀ b o, b ≠ z → b ≠ TO → (∀ S ∈ srcs, b ≠ S.it) → s.heap.get? b = some o → h'.get? b = some o) → (∃ o, h'.get? e = some o ∧ o.cls = .type "StopIteration") → E (.ref e) { s with heap := h' }) :
    wpAny (model prog w) A (Builtin.«zip.__next__» ⟨[.ref z], []⟩) Q E s := by
  obtain ⟨f0, fl, arr, hf, hz, hTI, hTO, ha, hst⟩ := hst
  obtain ⟨S, r, rfl⟩ : ∃ S r, srcs = S :: r := by
    cases srcs with
    | nil => exact absurd rfl h0
    | cons S r => exact ⟨S, r, rfl⟩
  show wpAny _ _ (field (.ref z) 2 >>= _) _ _ _
  refine wpAny_bind (wpAny_field hz rfl (x := .bool false) rfl ?_)
  show wpAny _ _ (field (.ref z) 3 >>= _) _ _ _
  refine wpAny_bind (wpAny_field hz rfl (x := .ref TI) rfl ?_)
  refine wpAny_bind (wpAny_seqItems hTI rfl ?_)
  dsimp only
  show wpAny _ _ (if _ then _ else _) _ _ _
  rw [if_neg (by simp [refsOf])]
  refine wpAny_bind (zip_isFree hz hf fun c h₁ fl₁ hz₁ hs₁ => ?_)
  have hm : S ∈ S :: r := .head _
  have hnz : S.it ≠ z := fun q => D.zS S hm (q ▸ D.self S hm)
  have fr : ∀ {h h' : Heap}, Heap.SameBut z h h' → S.St n h → S.St n h' := fun hs q => (hd S hm).frame _ _ _ q fun b hb o e => hs.extBut _ _ (fun q => D.zS S hm (q ▸ hb)) e
  have hst₁ := fr hs₁ (hst S hm)
  cases c with
  | true =>
    rw [if_pos rfl]
    refine wpAny_bind (wpAny_rule ?_)
    refine wpAny_bind (wpAny_field hz₁ rfl (x := .ref TO) rfl ?_)
    dsimp only
    refine wpAny_bind (wpAny_setField_rec hz₁ (by simp) fun h₂ hz₂ hs₂ => ?_)
    replace hz₂ : ZipN h₂ z TI TO .ellipsis fl₁ := hz₂
    refine wpAny_bind ?_
    rw [refsOf, List.map_cons, List.zipIdx_cons, List.forIn_cons]
    refine wpAny_bind (wpAny_bind (wpAny_onRaise ?_))
    show wpAny _ _ (Builtin.SmallTypes.nextOf (.ref S.it) >>= _) _ _ _
    refine wpAny_bind ((hd S hm).done _ _ _ (fr hs₂ hst₁) fun h₃ e hs₃ he => ?_)
    obtain ⟨oe, hoe, hce⟩ := he
    have hz₃ : ZipN h₃ z TI TO .ellipsis fl₁ := hs₃ _ _ hnz.symm hz₂
    have hez : e ≠ z := fun x => by subst x; rw [hz₃] at hoe; cases hoe; simp at hce
    refine wpAny_setField_rec hz₃ (by simp) fun h₄ _ hs₄ => hE h₄ e (fun b o b1 b2 b3 x => hs₄.extBut _ _ b1 (hs₃ _ _ (b3 S hm) (hs₂.extBut _ _ b1 (hs₁.extBut _ _ b1 x)))) ⟨oe, hs₄.extBut _ _ hez hoe, hce⟩
  | false =>
    rw [if_neg (by decide)]
    refine wpAny_bind ?_
    rw [← Array.forIn_toList, refsOf, List.map_cons, List.forIn_cons]
    refine wpAny_bind (wpAny_bind (wpAny_holding ?_))
    show wpAny _ _ (Builtin.SmallTypes.nextOf (.ref S.it) >>= _) _ _ _
    refine wpAny_bind ((hd S hm).done _ _ _ hst₁ fun h₃ e hs₃ he => ?_)
    exact hE h₃ e (fun b o b1 b2 b3 x => hs₃ _ _ (b3 S hm) (hs₁.extBut _ _ b1 x)) he
end
end
section
open PySem.SeqAt
section
variable {prog : Program} {w : World} {A : Around} {E : Value → Shared → Prop} {s : Shared}
theorem ZSt.typeIs {z TI TO : Addr} {srcs : List Src} {i : Nat} (x : ZSt z TI TO srcs i s.heap) : s.TypeIs (.ref z) "zip" := let ⟨_, _, _, _, hz, _, _, _, _⟩ := x; ⟨_, hz, rfl⟩
theorem zipN_item {z TI TO : Addr} {srcs : List Src} {i n : Nat} {Q : Option Value → Shared → Prop} (D : ZApart z TI TO srcs) (hd : ∀ S ∈ srcs, Draws prog w A.in1 S.it S.fp n S.P S.St) (hi : i < n) (h0 : srcs ≠ []) (hl : srcs.length ≤ 1000) (hst : ZSt z TI TO srcs i s.heap)
    (hQ : ∀ h' tk vals, ZSt z TI TO srcs (i + 1) h' → TupAt h' s.heap.objs.size vals → vals.size = srcs.length → takenAt srcs i srcs.length vals → h'.objs.size = s.heap.objs.size + 1 →
      (∀ b o, b ≠ z → b ≠ TO → (∀ S ∈ srcs, b ≠ S.it) → s.heap.get? b = some o → h'.get? b = some o) → Q (some (.ref s.heap.objs.size)) { s with heap := h', toks := tk }) :
    wpAny (model prog w) A (pyNext (.ref z)) Q E s := by
  have hT := hst.typeIs
  unfold pyNext
  exact wpAny_bind (wpAny_attempt (wpAny_callSpecial?_slot (name := sQ "__next__") hT F.slot_zip_next
    (wpAny_call_entry F.slot_zip_next hT F.entry_zip_next
      (zipN_next D hd hi h0 hl hst fun h' tk vals a1 a2 a3 a4 a5 a6 => wpAny_pure (hQ h' tk vals a1 a2 a3 a4 a5 a6)) (F.args_zip_next_1 _))))
theorem zipN_done {z TI TO : Addr} {srcs : List Src} {n : Nat} {Q : Option Value → Shared → Prop} (D : ZApart z TI TO srcs) (hd : ∀ S ∈ srcs, Draws prog w A.in1 S.it S.fp n S.P S.St) (h0 : srcs ≠ []) (hst : ZSt z TI TO srcs n s.heap)
    (hQ : ∀ h', (∀ b o, b ≠ z → b ≠ TO → (∀ S ∈ srcs, b ≠ S.it) → s.heap.get? b = some o → h'.get? b = some o) → Q none { s with heap := h' }) : wpAny (model prog w) A (pyNext (.ref z)) Q E s := by
  have hT := hst.typeIs
  unfold pyNext
  refine wpAny_bind (wpAny_attempt (wpAny_callSpecial?_slot (name := sQ "__next__") hT F.slot_zip_next
    (wpAny_call_entry F.slot_zip_next hT F.entry_zip_next (zipN_end D hd h0 hst fun h' e hk he => ?_) (F.args_zip_next_1 _))))
  obtain ⟨o, ho, hc⟩ := he
  refine wpAny_bind (wpAny_isInstance (T := "StopIteration") (b := true) ⟨o, ho, hc⟩ isSubtype_stop ?_)
  exact wpAny_pure (hQ _ hk)
theorem zipN_letGo {elts : List Expr} {x1} {pos : Pos} {z TI TO T : Addr} {srcs : List Src} {i n : Nat} {Q : Unit → Shared → Prop} (D : ZApart z TI TO srcs) (hd : ∀ S ∈ srcs, Draws prog w A S.it S.fp n S.P S.St) (hst : ZSt z TI TO srcs i s.heap)
    (hQ : ∀ h', ZSt z TI TO srcs i h' → Heap.SameBut z s.heap h' → Q () { s with heap := h' }) :
    wpAny (model prog w) A (letOwnedTupleGo (.Tuple elts x1 pos) (.ref z) (.ref T)) Q E s := by
  have st := hst
  obtain ⟨f0, fl, arr, hf, hz, hTI, hTO, ha, hst⟩ := hst
  unfold letOwnedTupleGo
  refine wpAny_bind (wpAny_load hz ?_)
  show wpAny _ _ (if (["enumerate", "zip", "dict_itemiterator", "dict_reverseitemiterator", "odict_iterator", "itertools.zip_longest", "itertools.pairwise"].contains "zip" &&
      (#[f0, .bool fl, .bool false, .ref TI, .ref TO] : Array Value)[0]? == some (rawInt T)) = true then _ else _) Q E s
  split
  · refine wpAny_bind (wpAny_rule ?_)
    show wpAny _ _ (setField (.ref z) 0 .none) Q E s
    refine wpAny_setField_rec hz (by simp) fun h' hz' hs' => hQ h' ⟨.none, fl, arr, .inl rfl, hz', hs'.extBut _ _ D.zTI.symm hTI, hs'.extBut _ _ D.zTO.symm hTO, ha, fun S hS => (hd S hS).frame _ _ _ (hst S hS) fun b hb o e => hs'.extBut _ _ (fun q => D.zS S hS (q ▸ hb)) e⟩ hs'
  · exact wpAny_pure (hQ s.heap st sameBut_refl)
theorem zipN_self {z TI TO : Addr} {srcs : List Src} {i : Nat} {Q : Value → Shared → Prop} (hst : ZSt z TI TO srcs i s.heap) (h : Q (.ref z) s) : wpAny (model prog w) A (pyIter (.ref z)) Q E s := by
  have hT := hst.typeIs
  refine wpAny_pyIter_slot hT F.slot_zip_iter (wpAny_call_entry F.slot_zip_iter hT F.entry_zip_iter ?_ (F.args_zip_iter_1 _))
  show wpAny _ _ (ret (.ref z)) _ _ s
  exact wpAny_pure ⟨_, rfl, "zip", _, hT, F.slot_zip_next.lookup, h⟩
noncomputable def zfp (z TI TO : Addr) (srcs : List Src) : List Addr := z :: TI :: TO :: srcs.flatMap Src.fp
noncomputable def zwr (z TO : Addr) (srcs : List Src) : List Addr := z :: TO :: srcs.map Src.it
theorem zwr_not {z TO b : Addr} {srcs : List Src} (h : b ∉ zwr z TO srcs) : b ≠ z ∧ b ≠ TO ∧ ∀ S ∈ srcs, b ≠ S.it :=
  ⟨fun q => h (q ▸ .head _), fun q => h (q ▸ .tail _ (.head _)), fun S hS q => h (q ▸ .tail _ (.tail _ (List.mem_map.mpr ⟨S, hS, rfl⟩)))⟩
theorem zfp_mem {z TI TO b : Addr} {srcs : List Src} (h : b = z ∨ b = TI ∨ b = TO ∨ ∃ S ∈ srcs, b ∈ S.fp) : b ∈ zfp z TI TO srcs := by
  rcases h with rfl | rfl | rfl | ⟨S, hS, hb⟩
  · exact .head _
  · exact .tail _ (.head _)
  · exact .tail _ (.tail _ (.head _))
  · exact .tail _ (.tail _ (.tail _ (List.mem_flatMap.mpr ⟨S, hS, hb⟩)))
theorem zwr_or {z TO b : Addr} {srcs : List Src} (h : b ∈ zwr z TO srcs) : b = z ∨ b = TO ∨ ∃ S ∈ srcs, b = S.it := by
  rcases List.mem_cons.mp h with h | h
  · exact .inl h
  · rcases List.mem_cons.mp h with h | h
    · exact .inr (.inl h)
    · obtain ⟨S, hS, e⟩ := List.mem_map.mp h
      exact .inr (.inr ⟨S, hS, e.symm⟩)
theorem walksN {z TI TO : Addr} {srcs : List Src} {n : Nat} (hh : A.handled = none) (D : ZApart z TI TO srcs) (hd : ∀ A : Around, A.handled = none → ∀ S ∈ srcs, Draws prog w A S.it S.fp n S.P S.St) (h0 : srcs ≠ []) (hl : srcs.length ≤ 1000) :
    WalksU prog w A z (zfp z TI TO srcs) (zwr z TO srcs) n (fun i vals => vals.size = srcs.length ∧ takenAt srcs i srcs.length vals) (ZSt z TI TO srcs) (fun i T h => ZSt z TI TO srcs (i + 1) h ∧ T ∉ zwr z TO srcs) where
  sub := fun b hb => by
    rcases zwr_or hb with h | h | ⟨S, hS, h⟩
    · exact zfp_mem (.inl h)
    · exact zfp_mem (.inr (.inr (.inl h)))
    · exact zfp_mem (.inr (.inr (.inr ⟨S, hS, h ▸ D.self S hS⟩)))
  frame := fun i h h' st k => st.frame (hd A hh) fun b hb o e => k b (zfp_mem hb) o e
  item := fun i s Q E hi st hQ => by
    refine zipN_item D (hd A.in1 hh) hi h0 hl st fun h' tk vals a1 a2 a3 a4 a5 a6 => hQ _ vals h' tk ⟨a3, a4⟩ ⟨_, a2, rfl, _, rfl⟩ ⟨a1, fun hb => ?_⟩ fun b o hb e => a6 b o (zwr_not hb).1 (zwr_not hb).2.1 (zwr_not hb).2.2 e
    have lt : ∀ {c o}, s.heap.get? c = some o → s.heap.objs.size ≠ c := fun e => Nat.ne_of_gt (Heap.lt_size e)
    obtain ⟨f0, fl, arr, hf, hz, hTI, hTO, ha, hst⟩ := st
    rcases zwr_or hb with h | h | ⟨S, hS, h⟩
    · exact lt hz h
    · exact lt hTO h
    · obtain ⟨o, e⟩ := (hd A hh S hS).live _ _ (hst S hS)
      exact lt e h
  go := fun elts k pos i T s Q E hm hQ => zipN_letGo D (hd A hh) hm.1 fun h' st hs => hQ h' st fun b o hb e => hs.extBut _ _ (zwr_not hb).1 e
  apart := fun i T h hm => hm.2
  done := fun s Q E st hQ => zipN_done D (hd A.in1 hh) h0 st fun h' hk => hQ h' s.toks fun b o hb e => hk b o (zwr_not hb).1 (zwr_not hb).2.1 (zwr_not hb).2.2 e
  self := fun i s Q E st hQ => zipN_self st hQ
end
namespace FZ
theorem typeCall_zip_3 (a b c : Value) : checkTypeCall "zip" ⟨[a, b, c], []⟩ = pure () := by kernel_rfl
theorem newCall_zip_3 (a b c : Value) : checkBuiltinCall "zip.__new__" ⟨[.type "zip", a, b, c], []⟩ = pure () := by kernel_rfl
theorem args_object_init_4 (a b c d : Value) : argsOk "object.__init__" ⟨[a, b, c, d], []⟩ := by
  unfold argsOk; rw [signature?_of (id := "object.__init__") (n := ['_', '_', 't', 'i', 'n', 'i', '_', '_']) (o := ['t', 'c', 'e', 'j', 'b', 'o']) (by kernel_rfl) F.owner_object]; kernel_rfl
end FZ
noncomputable abbrev liO (l : Addr) : Obj := { cls := .type "list_iterator", data := .fields #[.ref l, .int 0 0] }
noncomputable abbrev tuO (vs : Array Value) : Obj := { cls := .type "tuple", data := .seq vs }
noncomputable abbrev zpO (f0 : Value) (b : Bool) (TI TO : Addr) : Obj := { cls := .type "zip", dict := none, data := .fields #[f0, .bool b, .bool false, .ref TI, .ref TO], slots := #[] }
noncomputable abbrev llA (h : Heap) (l1 l2 l3 : Addr) : Heap := ((h.push (liO l1)).push (liO l2)).push (liO l3)
noncomputable abbrev llB (h : Heap) (l1 l2 l3 : Addr) : Heap := (llA h l1 l2 l3).push (tuO #[.ref h.objs.size, .ref (h.push (liO l1)).objs.size, .ref ((h.push (liO l1)).push (liO l2)).objs.size])
noncomputable abbrev llC (h : Heap) (l1 l2 l3 : Addr) : Heap := (llB h l1 l2 l3).push (tuO #[.none, .none, .none])
noncomputable abbrev llD (h : Heap) (l1 l2 l3 : Addr) : Heap := (llC h l1 l2 l3).push (zpO .none false (llA h l1 l2 l3).objs.size (llB h l1 l2 l3).objs.size)
theorem meets_zip_lll (l1 l2 l3 : Addr) (xs ys zs : Array Value) :
    Meets (Builtin.«zip.__new__» ⟨[.type "zip", .ref l1, .ref l2, .ref l3], []⟩) (fun _ R s => s.heap.IsList l1 xs ∧ s.heap.IsList l2 ys ∧ s.heap.IsList l3 zs ∧ R (.ok (.ret (.ref (llC s.heap l1 l2 l3).objs.size))) { s with heap := llD s.heap l1 l2 l3 }) :=
  .of_wp fun prog w A R s h => by
    obtain ⟨hp, g, d, tk, os⟩ := s; obtain ⟨hl1, hl2, hl3, h⟩ := h
    have hsub := sub_zip
    have hL1 : Heap.IsList (Shared.heap ⟨hp, g, d, tk, os⟩) l1 xs := hl1
    have hL2 : Heap.IsList (Shared.heap ⟨hp.push (liO l1), g, d, tk, os⟩) l2 ys := Heap.IsList.push hl2 _
    have hL3 : Heap.IsList (Shared.heap ⟨(hp.push (liO l1)).push (liO l2), g, d, tk, os⟩) l3 zs := Heap.IsList.push (Heap.IsList.push hl3 _) _
    wp_walk using wpAny_pyIter_list hL1, wpAny_pyIter_list hL2, wpAny_pyIter_list hL3
    exact ⟨_, rfl, h⟩
section
variable {prog : Program} {w : World} {A : Around} {E : Value → Shared → Prop} {s : Shared}
theorem call_zip_lll {l1 l2 l3 : Addr} {xs ys zs : Array Value} {Q : Value → Shared → Prop} (hl1 : s.heap.IsList l1 xs) (hl2 : s.heap.IsList l2 ys) (hl3 : s.heap.IsList l3 zs)
    (h : ∀ h', ZipN h' (s.heap.objs.size + 5) (s.heap.objs.size + 3) (s.heap.objs.size + 4) .none false → TupAt h' (s.heap.objs.size + 3) #[.ref s.heap.objs.size, .ref (s.heap.objs.size + 1), .ref (s.heap.objs.size + 2)] →
      TupAt h' (s.heap.objs.size + 4) #[.none, .none, .none] → h'.get? s.heap.objs.size = some (liO l1) → h'.get? (s.heap.objs.size + 1) = some (liO l2) → h'.get? (s.heap.objs.size + 2) = some (liO l3) → (∀ c o, s.heap.get? c = some o → h'.get? c = some o) → Q (.ref (s.heap.objs.size + 5)) { s with heap := h' }) :
    wpAny (model prog w) A (call (.type "zip") [.ref l1, .ref l2, .ref l3]) Q E s := by
  refine callType_new F.called_zip (by decide) (FZ.typeCall_zip_3 _ _ _) (FZ.newCall_zip_3 _ _ _) (fun obj => FZ.args_object_init_4 obj _ _ _) F.entry_zip_new (meets_zip_lll l1 l2 l3 xs ys zs) ⟨hl1, hl2, hl3, ?_⟩
  have z1 : (s.heap.push (liO l1)).objs.size = s.heap.objs.size + 1 := Heap.size_push ..
  have z1' : ((s.heap.push (liO l1)).push (liO l2)).objs.size = s.heap.objs.size + 2 := by rw [Heap.size_push, z1]
  have z2 : (llA s.heap l1 l2 l3).objs.size = s.heap.objs.size + 3 := by rw [Heap.size_push, z1']
  have z3 : (llB s.heap l1 l2 l3).objs.size = s.heap.objs.size + 4 := by rw [Heap.size_push, z2]
  have z4 : (llC s.heap l1 l2 l3).objs.size = s.heap.objs.size + 5 := by rw [Heap.size_push, z3]
  have up : ∀ {h : Heap} {o : Obj} {b o'}, h.get? b = some o' → (h.push o).get? b = some o' := fun e => Heap.get?_push_of_some _ e
  have g5 : (llD s.heap l1 l2 l3).get? (llC s.heap l1 l2 l3).objs.size = some _ := Heap.get?_push_size _ rfl
  have g4 : (llD s.heap l1 l2 l3).get? (llB s.heap l1 l2 l3).objs.size = some _ := up (Heap.get?_push_size _ rfl)
  have g3 : (llD s.heap l1 l2 l3).get? (llA s.heap l1 l2 l3).objs.size = some _ := up (up (Heap.get?_push_size _ rfl))
  have g2' : (llD s.heap l1 l2 l3).get? ((s.heap.push (liO l1)).push (liO l2)).objs.size = some _ := up (up (up (Heap.get?_push_size _ rfl)))
  have g2 : (llD s.heap l1 l2 l3).get? (s.heap.push (liO l1)).objs.size = some _ := up (up (up (up (Heap.get?_push_size _ rfl))))
  have g1 : (llD s.heap l1 l2 l3).get? s.heap.objs.size = some _ := up (up (up (up (up (Heap.get?_push_size _ rfl)))))
  show _ ∧ _
  rw [z2, z3, z4] at g5
  rw [z1, z1', z2] at g3
  rw [z3] at g4
  rw [z1'] at g2'
  rw [z1] at g2
  rw [z4]
  exact ⟨⟨_, g5, rfl⟩, h _ g5 g3 g4 g1 g2 g2' fun c o x => up (up (up (up (up (up x)))))⟩
end
end
section
open PySem.SeqAt
noncomputable def chrL (x : Str) : List PV := x.cps.toList.map fun c => .str ⟨#[c]⟩
noncomputable def lstS (b a : Addr) (xs : Array Value) : Src := ⟨b, [b, a], fun i v => xs[i]? = some v, fun i h => h.IsListIter b a i ∧ h.IsList a xs⟩
section
variable {C : Cx} {n : Nat} {target : Expr} {ds : List PV} {Z Z' : Fz} {s s' : Shared}
theorem turns_walksV {J : Addr} {fp wr : List Addr} {Pt : Nat → Array Value → Prop} {St : Nat → Heap → Prop} {Mid : Nat → Addr → Heap → Prop} {h : Heap} {new : Addr → Prop} {ts : List Expr} {kk : Nat} {p : Pos} (W : ∀ A : Around, A.handled = none → WalksU C.prog C.w A J fp wr ds.length Pt St Mid)
    (st0 : St 0 h) (hwZ : ∀ b ∈ wr, Z b = none) (hfp : ∀ b ∈ fp, (∃ o, Z b = some o) ∨ (new b ∧ Z b = none)) (hob : ∀ i h', St i h' → ∀ b ∈ fp, ∃ o, h'.get? b = some o ∧ (Z b = none → ∀ ps, o ≠ tabObj ps))
    (hItm : ∀ i vals d Z', Le Z Z' → ds[i]? = some d → Pt i vals → ∃ dd, d = .tup dd ∧ RdL Z' vals.toList dd) : Turns C (.Tuple ts kk p) J ds Z h new :=
  ⟨fp, wr, _, _, St, fun A hA => KTurns.ofWalksU (W A hA), st0, hwZ, hfp, hob, fun i v h' d Z' le _ hd hP => by
    obtain ⟨T, vals, rfl, hP, hT⟩ := hP
    obtain ⟨dd, rfl, hr⟩ := hItm i vals d Z' le hd hP
    exact .tupv hT hr, fun A i s Q E hA st q => (W A hA).self i s Q E st q⟩
end
end
section
open PySem.SeqAt
namespace FZ
end FZ
section
variable {C : Cx} {X : Addr → Prop} {Z₀ Z : Fz} {s₀ s : Shared} {A : Around} {R : Result → Shared → Prop} {z TI TO S : Addr} {srcs : List Src} {n : Nat} {ds : List PV} {res : Value}
end
section
variable {C : Cx} {X : Addr → Prop} {Z₀ Z : Fz} {s₀ s : Shared} {A : Around} {z TI TO : Addr} {srcs : List Src} {n : Nat} {ds : List PV} {Q : Value → Shared → Prop} {E : Value → Shared → Prop}
end
noncomputable def zip3L (a b c : List PV) : List PV := (a.zip (b.zip c)).map fun q => .tup [q.1, q.2.1, q.2.2]
section
variable {C : Cx} {n : Nat} {X : Addr → Prop} {env : Env} {nm oc : List Str} {sc : List (Str × NameKind)} {ω : List (Addr × List PV)} {κ : Addr → Option Obj} {ρ : List (Option Vp)} {p p2 pos pos2 : Pos} {e1 e2 e3 : Expr} {d1 d2 d3 : List PV}
end
end
section
open PySem.SeqAt
noncomputable abbrev numT (a : Int) : Str := sQ (toString a)
section
variable {C : Cx} {n : Nat} {Φ : Asn C} {env : Env}
theorem fn_str_int {a : Int} (ha : a.natAbs.log2 < 1920) : FN C n (.type "str") [is (.int a)] (is (.str (numT a))) := fn1 fun A s Z v Q E hA I h k => by
  obtain ⟨_, rfl⟩ := rdi h
  exact P.str_of_int ha (k _ Z _ (Step.toks I _) (.str _ _))
end
end
section
open PySem.SeqAt
noncomputable def pickI (l : List Int) (lo hi st : Option Int) : List Int := (sliceRange (sliceBounds lo hi st l.length).1 (sliceBounds lo hi st l.length).2.1 (sliceBounds lo hi st l.length).2.2).filterMap (l[·]?)
theorem pickL_ints (l : List Int) (lo hi st : Option Int) : pickL (l.map .int) lo hi st = (pickI l lo hi st).map .int := by
  unfold pickL pickI
  rw [List.map_filterMap, List.length_map]
  congr 1
  funext i
  rw [List.getElem?_map]
theorem pickL_len (ds : List PV) (lo hi st : Option Int) : (pickL ds lo hi st).length ≤ ds.length := by
  have h := slicePick_size_le (ds.map fun _ => Value.none).toArray lo hi st
  unfold slicePick at h
  rw [List.size_toArray, List.size_toArray, List.length_map] at h
  refine Nat.le_trans (Nat.le_of_eq ?_) h
  unfold pickL
  rw [show (fun i => (ds.map fun _ => Value.none).toArray[i]?) = fun i => (ds[i]?).map fun _ => Value.none by funext i; simp, ← List.map_filterMap, List.length_map]
section
variable {C : Cx} {n : Nat} {Φ : Asn C} {env : Env} {X : Addr → Prop} {nm oc : List Str} {sc : List (Str × NameKind)} {ω : List (Addr × List PV)} {κ : Addr → Option Obj} {ρ ρ' : List (Option Vp)} {R : Vp} {Ψ : Asn C}
theorem ex_seq {Θ Φ Ψ : Asn C} {a b : List Stmt} (h1 : EX C n X Φ (execs a env) Ψ R) (h2 : EX C n X Ψ (execs b env) Θ R) : EX C n X Φ (execs (a ++ b) env) Θ R := fun A s Z Q E hA I H k kr => by
  rw [execs_append]
  refine wpAny_bind (h1 A s Z _ E hA I H (fun Z₁ s₁ x₁ H₁ => ?_) fun v Z₁ s₁ x₁ r => wpAny_pure (kr v Z₁ s₁ x₁ r))
  exact h2 A s₁ Z₁ Q E hA x₁.inv H₁ (fun Z₂ s₂ x₂ H₂ => k Z₂ s₂ (x₁.trans x₂) H₂) fun v Z₂ s₂ x₂ r => kr v Z₂ s₂ (x₁.trans x₂) r
theorem exs_forV {iter target : Expr} {body rest : List Stmt} {pos : Pos} {ds : List PV} {ρs : Nat → List (Option Vp)} {ωs : Nat → List (Addr × List PV)} (e0 : ρ = ρs 0) (e1 : ω = ωs 0) (hit : IT C n (FS C env nm oc sc X ρ ω κ) iter env target ds)
    (hω : ∀ i, (ωs i).map (·.1) = (ωs 0).map (·.1))
    (step : ∀ b, b = body → ∀ κ' i d, ds[i]? = some d → ∃ ρ', Tgt nm oc sc target d (ρs i) ρ' ∧ EX C n X (FS C env nm oc sc X ρ' (ωs i) κ') (execs b env) (FS C env nm oc sc X (ρs (i + 1)) (ωs (i + 1)) κ') R)
    (h : EX C n X (FS C env nm oc sc X (ρs ds.length) (ωs ds.length) κ) (execs rest env) Ψ R)
    (hs : ∀ x, foldedSetIterable iter env x = pure x := by intro _; rfl) : EX C n X (FS C env nm oc sc X ρ ω κ) (execs (.For target iter body [] pos :: rest) env) Ψ R :=
  exs_for e0 e1 hit hω (fun κ' i d hd => step body rfl κ' i d hd) h hs
theorem ex_mk5 {α : Sort _} {P Q R S T : α → Prop} {a : α} (h : P a) (k : Q a) (r : R a) (s : S a) (t : T a) : ∃ x, P x ∧ Q x ∧ R x ∧ S x ∧ T x := ⟨a, h, k, r, s, t⟩
end
end
section
variable {C : Cx} {n : Nat} {R : Vp} {fd : FuncData} {f : Addr} {o : Obj} {body : List Stmt} {Ps : List Vp} {xs nm : List Str} {sc : List (Str × NameKind)} {ρ : List (Option Vp)}
end
section
variable {M : Model} {A : Around} {E : Value → Shared → Prop} {s : Shared}
end
section
variable {C : Cx} {X : Addr → Prop} {Z Z' : Fz} {s s' : Shared}
end
section
variable {C : Cx} {n : Nat} {X : Addr → Prop} {Z Z' : Fz} {s s' : Shared} {env : Env} {nm oc : List Str} {sc : List (Str × NameKind)} {ω : List (Addr × List PV)} {κ : Addr → Option Obj} {A : Around} {E : Value → Shared → Prop}
end
section
variable {C : Cx} {n : Nat} {X : Addr → Prop} {env : Env} {nm oc : List Str} {sc : List (Str × NameKind)} {ρ : List (Option Vp)} {ω : List (Addr × List PV)} {κ : Addr → Option Obj}
theorem ev_item_own {sl : Expr} {x : Str} {p pos : Pos} {a : Addr} {ds : List PV} {i : Int} {j : Nat} {d : PV} (hx : At nm ρ x (isv (.ref a))) (hm : (a, ds) ∈ ω) (hi : EV C n (FS C env nm oc sc X ρ ω κ) (eval sl env) (is (.int i)))
    (hj : seqIndex? i ds.length = some j) (hd : ds[j]? = some d) (hsz : ds.length < 2 ^ 62)
    (hs : ∀ o i, subscripted sl false o i = operate [o, i] (getItem o i) := by intro _ _; rfl) :
    EV C n (FS C env nm oc sc X ρ ω κ) (eval (.Subscript (.Name x p) sl pos) env) (is d) := fun A s Z Q E hA I H k => by
  refine Subscript_ (ev_name (n := n) hx A s Z _ E hA I H fun u Z₁ s₁ x₁ pu => ?_)
  cases pu
  have H₁ := (FS C env nm oc sc X ρ ω κ).stable I H x₁
  refine hi A s₁ Z₁ _ E hA x₁.inv H₁ fun w Z₂ s₂ x₂ pw => ?_
  have H₂ := (FS C env nm oc sc X ρ ω κ).stable x₁.inv H₁ x₂
  cases pw
  obtain ⟨hz, vs, m, e, r⟩ := H₂.own _ hm
  obtain ⟨y, ey, py⟩ := r.get hd
  have hl : s₂.heap.IsList a vs.toArray := ⟨_, e, rfl, m, rfl⟩
  have len := r.length
  have sz : vs.toArray.size = ds.length := by rw [List.size_toArray, len]
  unfold seqIndex? at hj
  have kk := k y Z₂ s₂ (x₁.trans x₂) py
  refine tail_any hl.typeIs slot_list_getitem.lookup ?_ (hs _ _)
  by_cases h0 : i < 0
  · simp only [h0, if_true] at hj
    split at hj
    · rename_i hb
      simp only [Bool.and_eq_true, decide_eq_true_eq] at hb
      cases hj
      exact wpAny_getItem_list_neg hl h0 (by rw [sz]; lia) (by lia) (by rw [sz]; simpa using ey) kk
    · cases hj
  · simp only [h0, if_false] at hj
    split at hj
    · rename_i hb
      simp only [Bool.and_eq_true, decide_eq_true_eq] at hb
      cases hj
      exact wpAny_getItem_list hl (by lia) (by lia) (by simpa using ey) kk
    · cases hj
end
section
variable {C : Cx} {n : Nat}
noncomputable abbrev V3 := Int × Int × Int
noncomputable abbrev v3 (v : V3) : PV := .list [.int v.1, .int v.2.1, .int v.2.2]
noncomputable def at3 (v : V3) (i : Int) : Int := if i = 0 then v.1 else if i = 1 then v.2.1 else v.2.2
theorem op_item_v3 {vv sl : Expr} {v : V3} {i : Int} (h0 : 0 ≤ i) (h3 : i < 3)
    (hs : ∀ o i, subscripted sl false o i = operate [o, i] (getItem o i) := by intro _ _; rfl) : OP2 C n (subscriptTail vv sl) (is (v3 v)) (is (.int i)) (is (.int (at3 v i))) := by
  have h : i = 0 ∨ i = 1 ∨ i = 2 := by lia
  rcases h with rfl | rfl | rfl <;> exact op_item_list rfl rfl (Nat.le_of_ble_eq_true rfl) hs
noncomputable def add3 (v w : V3) : V3 := (v.1 + w.1, v.2.1 + w.2.1, v.2.2 + w.2.2)
noncomputable def sub3 (v w : V3) : V3 := (v.1 - w.1, v.2.1 - w.2.1, v.2.2 - w.2.2)
noncomputable def rnd (v : V3) (t : Int) : V3 := (at3 v ((0 - t).fmod 3), at3 v ((1 - t).fmod 3), at3 v ((2 - t).fmod 3))
theorem fmod_lo (a : Int) {b : Int} (h : 0 < b) : 0 ≤ a.fmod b := by rw [Int.fmod_eq_emod_of_nonneg _ (Int.le_of_lt h)]; exact Int.emod_nonneg _ (by lia)
theorem fmod_hi (a : Int) {b : Int} (h : 0 < b) : a.fmod b < b := Int.fmod_lt_of_pos _ h
noncomputable abbrev lv (l : List V3) : PV := .list (l.map v3)
end
section
local macro_rules | `(tactic| walk_at "def") => `(tactic| fail)
section
variable {C : Cx}
theorem d_round (K : LawK C) (v : V3) (t : Int) : DefC C 2 (sQ "_law_round") [is (v3 v), is (.int t)] (is (v3 (rnd v t))) := by
  obtain ⟨f, q, doc, pm, cd, hg, ho, hcd⟩ := K.round3
  have g1 := K.range
  refine ⟨f, hg, ⟨_, _, ho, rfl⟩, fn_def (n := 0) (sc := scOf (stAt pw 83)) (ρ := [some (is (v3 v)), some (is (.int t))]) (nm := [sQ "parts", sQ "thirds"]) (xs := [sQ "parts", sQ "thirds"]) K.q ho rfl hcd rfl rfl rfl rfl rfl (bnd2 fun _ _ => by kernel_rfl) rfl (by decide +kernel) (by decide +kernel) (by decide +kernel) (by decide +kernel) rfl fun L X => ?_⟩
  apply ex_ret
  apply ev_d
  · apply ev_comp1
    apply comp1_ok (xs := [0, 1, 2]) (f := fun (k : Int) => .int k) (h := fun k => .int (at3 v ((k - t).fmod 3)))
    · apply it_eq
      · apply it_callTt
        · assumption
        · walk_at "ev"
        · apply fi_range1
          exact rfl
        · exact rfl
        · exact rfl
        · exact rfl
        · exact rfl
      · exact rfl
    · walk_at "at"
    · exact rfl
    · decide +kernel
    · exact rfl
    · exact Nat.le_of_ble_eq_true rfl
    · intro cenv X' j hx
      apply ex_mk3
      · walk_at "at"
      · walk_at "at"
      · intro ω κ
        apply ev_sub
        · walk_at "ev"
        · apply ev_bin
          · walk_at "ev"
          · walk_at "ev"
          · apply op_mod_int
            walk_at "nz"
        · exact op_item_v3 (fmod_lo _ (by decide)) (fmod_hi _ (by decide))
  · rfl
end
end
section
local macro_rules | `(tactic| walk_at "def") => `(tactic| ((with_reducible apply d_round); assumption))
noncomputable def figI (k : Int) : Int := if (k.fmod 3 != 0) = true then k.fmod 3 else k.fdiv 3
noncomputable def fldI (f0 f1 k : Int) : Int := if (k.fmod 3 != 0) = true then f1 else f0
noncomputable def dueDir (f0 f1 : Int) (k : Int) : Int := figI k - 2 * figI k * fldI f0 f1 k
noncomputable def dueWay (f0 f1 : Int) (w : V3) : Nat → V3
  | 0 => w
  | i + 1 => rnd (dueWay f0 f1 w i) (dueDir f0 f1 i)
noncomputable def dueLast (f0 f1 : Int) (s w : V3) : Nat → V3
  | 0 => s
  | i + 1 => add3 (dueLast f0 f1 s w i) (dueWay f0 f1 w (i + 1))
noncomputable def dueL (f0 f1 : Int) (s w : V3) (i : Nat) : List V3 := (List.range (i + 1)).map (dueLast f0 f1 s w)
noncomputable abbrev dueF (f0 f1 : Int) (s w : V3) : List V3 := dueL f0 f1 s w 9
theorem neg_one_index (m : Nat) : seqIndex? (-1) (m + 1) = some m := by
  unfold seqIndex?
  simp
  lia
section
variable {C : Cx}
theorem d_due (K : LawK C) (s w : V3) (f0 f1 : Int) : DefC C 4 (sQ "_law_due") [is (v3 s), is (v3 w), is (.list [.int f0, .int f1])] (is (lv (dueF f0 f1 s w))) := by
  obtain ⟨f, q, doc, pm, cd, hg, ho, hcd⟩ := K.due
  have g1 := K.range
  have g2 := K.zip
  refine ⟨f, hg, ⟨_, _, ho, rfl⟩, fn_def (n := 2) (sc := scOf (stAt pw 84)) (ρ := [some (is (v3 s)), some (is (v3 w)), some (is (.list [.int f0, .int f1])), none, none, none, none]) (nm := [sQ "spot", sQ "way", sQ "folds", sQ "spots", sQ "number", sQ "figure", sQ "fold"]) (xs := [sQ "spot", sQ "way", sQ "folds"]) K.q ho rfl hcd rfl rfl rfl rfl rfl (bnd3 fun _ _ _ => by kernel_rfl) rfl (by decide +kernel) (by decide +kernel) (by decide +kernel) (by decide +kernel) rfl fun L X => ?_⟩
  apply ex_new (ρ := fun _ => []) (ρ' := fun D => [some (is (v3 s)), some (is (v3 w)), some (is (.list [.int f0, .int f1])), some (isv (.ref D)), none, none, none]) (ds := [v3 s])
  · apply evn_listL
    · walk_at "ev"
    · walk_at "at"
    · exact Nat.le_of_ble_eq_true rfl
  · intro a; walk_at "at"
  · decide +kernel
  · decide +kernel
  · exact rfl
  intro a
  apply exs_for (ρs := fun i => [some (is (v3 s)), some (is (v3 (dueWay f0 f1 w i))), some (is (.list [.int f0, .int f1])), some (isv (.ref a)), none, none, none]) (ωs := fun i => [(a, (dueL f0 f1 s w i).map v3)]) rfl rfl
  · apply it_eq (ds := rngL 0 9)
    · apply it_callTt
      · assumption
      · walk_at "ev"
      · apply fi_range1
        exact rfl
      · exact rfl
      · exact rfl
      · exact rfl
      · exact rfl
    · exact rfl
  · intro i; rfl
  · intro κ' i d hd
    have hlt : i < 9 := by
      have := (List.getElem?_eq_some_iff.mp hd).1
      rw [rngL_length] at this; exact this
    have hde : d = .int i := by
      unfold rngL at hd
      rw [List.getElem?_map, List.getElem?_range hlt] at hd
      cases hd
      show PV.int (0 + (i : Int)) = _
      rw [Int.zero_add]
    subst hde
    have hlen : ((dueL f0 f1 s w i).map v3).length = i + 1 := by simp [dueL]
    have hz : ((dueL f0 f1 s w i).map v3).length < 2 ^ 62 := by rw [hlen]; lia
    have hz' : ((dueL f0 f1 s w i).map v3).length ≤ sizeLine := by rw [hlen, sizeLine_eq]; lia
    have hj : seqIndex? (-1) ((dueL f0 f1 s w i).map v3).length = some i := by rw [hlen]; exact neg_one_index i
    have hl : ((dueL f0 f1 s w i).map v3)[i]? = some (v3 (dueLast f0 f1 s w i)) := by
      rw [List.getElem?_map, dueL, List.getElem?_map, List.getElem?_range (by lia)]; rfl
    have en : (dueL f0 f1 s w (i + 1)).map v3 = (dueL f0 f1 s w i).map v3 ++ [v3 (add3 (dueLast f0 f1 s w i) (dueWay f0 f1 w (i + 1)))] := by
      rw [dueL, List.range_succ, List.map_append, List.map_append]; rfl
    have hf : (2 * figI i).natAbs < 18446744073709551616 := by
      unfold figI
      have h1 := fmod_lo (i : Int) (b := 3) (by decide)
      have h2 := fmod_hi (i : Int) (b := 3) (by decide)
      have h3 : (i : Int).fdiv 3 = (i : Int) / 3 := Int.fdiv_eq_ediv_of_nonneg _ (by decide)
      split <;> lia
    have hw : dueWay f0 f1 w (i + 1) = rnd (dueWay f0 f1 w i) (figI i - 2 * figI i * fldI f0 f1 i) := rfl
    rw [en]
    generalize (dueL f0 f1 s w i).map v3 = S at hz hz' hj hl
    generalize dueLast f0 f1 s w i = z at hl
    generalize dueWay f0 f1 w (i + 1) = w2 at hw
    generalize dueWay f0 f1 w i = w1 at hw
    apply ex_mk
    · walk_at "at"
    apply ex_cons
    · apply ex_asgU
      · apply ev_ifexp (R := is (.tup [.int (figI i), .int (fldI f0 f1 i)]))
        · apply tv_int
          · walk_at "ev"
          · intro _; rfl
        · intro h
          rw [figI, fldI, if_pos h, if_pos h]
          walk_at "ev"
        · intro h
          rw [figI, fldI, if_neg (by rw [h]; decide), if_neg (by rw [h]; decide)]
          walk_at "ev"
      · walk_at "at"
      · exact rfl
      · exact rfl
    generalize figI i = g at hf hw
    generalize fldI f0 f1 i = fo at hw
    subst hw
    apply ex_cons
    · apply ex_assign
      · apply ev_callD
        · walk_at "ev"
        · walk_at "def"
        · decide
        · exact rfl
        · exact rfl
        · exact rfl
      · walk_at "at"
      · decide +kernel
      · decide +kernel
      · exact rfl
    generalize rnd w1 (g - 2 * g * fo) = w2
    apply ex_cons
    · apply ex_append (d := v3 (add3 z w2))
      · walk_at "at"
      · apply ev_d
        · apply ev_comp1
          apply comp1_ok (xs := [(z.1, w2.1), (z.2.1, w2.2.1), (z.2.2, w2.2.2)]) (f := fun (p : Int × Int) => .tup [.int p.1, .int p.2]) (h := fun p => .int (p.1 + p.2))
          · apply it_eq
            · apply it_callTt
              · assumption
              · apply el_cons
                · apply ev_item_own (hj := hj) (hd := hl)
                  · walk_at "at"
                  · exact List.mem_cons_self ..
                  · walk_at "ev"
                  · exact hz
                · walk_at "ev"
                · exact rfl
              · exact fi_zip
              · exact rfl
              · exact rfl
              · exact rfl
              · exact rfl
            · exact rfl
          · walk_at "at"
          · exact rfl
          · decide +kernel
          · exact rfl
          · exact Nat.le_of_ble_eq_true rfl
          · intro cenv X' j hx
            apply ex_mk3
            · walk_at "at"
            · walk_at "at"
            · intro ω κ
              walk_at "ev"
        · rfl
      · exact OU.here
      · exact hz'
    apply ex_fgt
    walk_at "fgtd"
  · show EX _ _ _ (FS _ _ _ _ _ _ [_, _, _, _, _, _, _] [(a, (dueL f0 f1 s w (rngL 0 9).length).map v3)] _) _ _ _
    rw [rngL_length]
    apply ex_freeze .here (.same (.same (.same (.it (.same (.same (.same .nil)))))))
    walk_at "ret"
    rfl
end
end
section
local macro_rules | `(tactic| walk_at "def") => `(tactic| first | ((with_reducible apply d_eof); assumption) | ((with_reducible apply d_term); assumption) | ((with_reducible apply d_nonterm); assumption))
noncomputable def stepW (T : V3 → Int → V3) (σ : List V3 × V3 × V3) (y : Int) : List V3 × V3 × V3 :=
  if y = 256 then (σ.1 ++ [add3 σ.2.1 σ.2.2], add3 σ.2.1 σ.2.2, σ.2.2) else (σ.1, σ.2.1, T σ.2.2 (if y = 33 then 2 else 4))
noncomputable def walkF (T : V3 → Int → V3) (r : List Int) (s w : V3) : List V3 := (r.foldl (stepW T) ([s], s, w)).1
section
variable {C : Cx}
@[irreducible] def hidD (keys : List (Option Expr)) (values : List Expr) (pos : PySem.Pos) : Expr := .Dict keys values pos
theorem hid_dict (keys : List (Option Expr)) (values : List Expr) (pos : PySem.Pos) : Expr.Dict keys values pos = hidD keys values pos := by unfold hidD; rfl
theorem ev_hid {n : Nat} {Φ : Asn C} {env : Env} {p1 p2 p3 p4 pos : PySem.Pos} : EV C n Φ (eval (hidD [some (.Constant (.int 33) 0 p1), some (.Constant (.int 34) 0 p2)] [.Constant (.int 2) 0 p3, .Constant (.int 4) 0 p4] pos) env) (dictI C [(33, .int 2), (34, .int 4)]) := by
  rw [← hid_dict]
  exact ev_dictI (ep_cons ev_int ev_int (ep_cons ev_int ev_int ep_nil)) (by decide) rfl rfl (List.cons_ne_nil _ _) (Nat.le_of_ble_eq_true rfl)
theorem d_walk (K : LawK C) (T : V3 → Int → V3) (P : V3 → Prop) (hT : ∀ w, P w → ∀ k, k = 2 ∨ k = 4 → P (T w k) ∧ DefC C 4 (sQ "_law_turned") [is (v3 w), is (.int k)] (is (v3 (T w k))))
    (r : List Int) (hr : ∀ y ∈ r, y = 256 ∨ y = 33 ∨ y = 34) (hl : r.length ≤ 1000) (s w : V3) (hw : P w) :
    DefC C 6 (sQ "_law_walk") [is (li (r ++ [0])), is (v3 s), is (v3 w)] (is (lv (walkF T r s w))) := by
  obtain ⟨f, q, doc, pm, cd, hg, ho, hcd⟩ := K.walk
  have g1 := K.range
  have g2 := K.zip
  let st : Nat → List V3 × V3 × V3 := fun i => (r.take i).foldl (stepW T) ([s], s, w)
  have hst : ∀ i y, r[i]? = some y → st (i + 1) = stepW T (st i) y := fun i y e => by
    show (r.take (i + 1)).foldl (stepW T) _ = _
    rw [List.take_add_one, e, List.foldl_append]; rfl
  have hinv : ∀ i, ∃ m, (st i).1.length = m + 1 ∧ (st i).1[m]? = some (st i).2.1 ∧ m ≤ i ∧ P (st i).2.2 := by
    intro i
    induction i with
    | zero => exact ⟨0, rfl, rfl, Nat.le_refl 0, hw⟩
    | succ i ih =>
      cases hk : r[i]? with
      | none =>
        have : st (i + 1) = st i := by
          show (r.take (i + 1)).foldl (stepW T) _ = (r.take i).foldl (stepW T) _
          rw [List.take_add_one, hk]; simp
        rw [this]
        obtain ⟨m, h1, h2, h3, h4⟩ := ih
        exact ⟨m, h1, h2, by lia, h4⟩
      | some y =>
        rw [hst i y hk]
        obtain ⟨m, h1, h2, h3, h4⟩ := ih
        unfold stepW
        split
        · refine ⟨m + 1, by simp [h1], ?_, by lia, h4⟩
          rw [List.getElem?_append_right (by lia), h1]; simp
        · refine ⟨m, h1, h2, by lia, ?_⟩
          split
          · exact (hT _ h4 2 (.inl rfl)).1
          · exact (hT _ h4 4 (.inr rfl)).1
  refine ⟨f, hg, ⟨_, _, ho, rfl⟩, fn_def (n := 4) (sc := scOf (stAt pw 82)) (ρ := [some (is (li (r ++ [0]))), some (is (v3 s)), some (is (v3 w)), none, none]) (nm := [sQ "row", sQ "spot", sQ "way", sQ "spots", sQ "symbol"]) (xs := [sQ "row", sQ "spot", sQ "way"]) K.q ho rfl hcd rfl rfl rfl rfl rfl (bnd3 fun _ _ _ => by kernel_rfl) rfl (by decide +kernel) (by decide +kernel) (by decide +kernel) (by decide +kernel) rfl fun L X => ?_⟩
  rw [hid_dict]
  apply ex_new (ρ := fun _ => []) (ρ' := fun D => [some (is (li (r ++ [0]))), some (is (v3 s)), some (is (v3 w)), some (isv (.ref D)), none]) (ds := [v3 s])
  · apply evn_listL
    · walk_at "ev"
    · walk_at "at"
    · exact Nat.le_of_ble_eq_true rfl
  · intro a; walk_at "at"
  · decide +kernel
  · decide +kernel
  · exact rfl
  intro a
  apply exs_for (ρs := fun i => [some (is (li (r ++ [0]))), some (is (v3 s)), some (is (v3 (st i).2.2)), some (isv (.ref a)), if i ≤ r.length then none else some offV]) (ωs := fun i => [(a, (st i).1.map v3)]) rfl rfl
  · apply it_list
    walk_at "ev"
  · intro i; rfl
  · intro κ' i d hd
    obtain ⟨m, h1, h2, h3, h4⟩ := hinv i
    rw [List.map_append, List.getElem?_append] at hd
    by_cases hi : i < (r.map PV.int).length
    · rw [if_pos hi, List.getElem?_map] at hd
      cases hki : r[i]? with
      | none => rw [hki] at hd; cases hd
      | some y =>
        rw [hki] at hd; cases hd
        have hlt := (List.getElem?_eq_some_iff.mp hki).1
        have hkk := hr y (List.mem_of_getElem? hki)
        have e := hst i y hki
        rw [if_pos (show i ≤ r.length by lia), if_pos (show i + 1 ≤ r.length by lia), e]
        generalize st i = σ at h1 h2 h4 ⊢
        obtain ⟨L, z, w1⟩ := σ
        simp only at h1 h2 h4
        have hlen : (L.map v3).length = m + 1 := by rw [List.length_map, h1]
        have hz : (L.map v3).length < 2 ^ 62 := by rw [hlen]; lia
        have hz' : (L.map v3).length ≤ sizeLine := by rw [hlen, sizeLine_eq]; lia
        have hj : seqIndex? (-1) (L.map v3).length = some m := by rw [hlen]; exact neg_one_index m
        have hd : (L.map v3)[m]? = some (v3 z) := by rw [List.getElem?_map, h2]; rfl
        apply ex_mk
        · walk_at "at"
        rcases hkk with rfl | rfl | rfl
        · have es : stepW T (L, z, w1) 256 = (L ++ [add3 z w1], add3 z w1, w1) := rfl
          rw [es]
          simp only [List.map_append, List.map_cons, List.map_nil]
          have hl := hd
          walk_at "if"
          · intro h; exact absurd h (by decide)
          intro _
          walk_at "if"
          · intro _
            apply ex_cons
            · apply ex_append (d := v3 (add3 z w1))
              · walk_at "at"
              · apply ev_d
                · apply ev_comp1
                  apply comp1_ok (xs := [(z.1, w1.1), (z.2.1, w1.2.1), (z.2.2, w1.2.2)]) (f := fun (p : Int × Int) => .tup [.int p.1, .int p.2]) (h := fun p => .int (p.1 + p.2))
                  · apply it_eq
                    · apply it_callTt
                      · assumption
                      · apply el_cons
                        · apply ev_item_own (hj := hj) (hd := hl)
                          · walk_at "at"
                          · exact List.mem_cons_self ..
                          · walk_at "ev"
                          · exact hz
                        · walk_at "ev"
                        · exact rfl
                      · exact fi_zip
                      · exact rfl
                      · exact rfl
                      · exact rfl
                      · exact rfl
                    · exact rfl
                  · walk_at "at"
                  · exact rfl
                  · decide +kernel
                  · exact rfl
                  · exact Nat.le_of_ble_eq_true rfl
                  · intro cenv X' j hx
                    apply ex_mk3
                    · walk_at "at"
                    · walk_at "at"
                    · intro ω κ
                      walk_at "ev"
                · rfl
              · exact OU.here
              · exact hz'
            apply ex_fgt
            walk_at "fgtd"
          · intro h; exact absurd h (by decide)
        · have es : stepW T (L, z, w1) 33 = (L, z, T w1 2) := rfl
          rw [es]
          walk_at "if"
          · intro h; exact absurd h (by decide)
          intro _
          walk_at "if"
          · intro h; exact absurd h (by decide)
          intro _
          walk_at "if"
          · intro _
            apply ex_cons
            · apply ex_assign
              · apply ev_callD
                · apply el_cons
                  · walk_at "ev"
                  · apply el_cons (P := is (.int 2))
                    · apply ev_sub
                      · exact ev_hid
                      · walk_at "ev"
                      · apply op_item_dictI
                        · exact rfl
                        · intro _ _; rfl
                    · exact el_nil
                  · exact rfl
                · exact (hT w1 h4 2 (by decide)).2
                · decide
                · exact rfl
                · exact rfl
                · exact rfl
              · walk_at "at"
              · decide +kernel
              · decide +kernel
              · exact rfl
            apply ex_fgt
            walk_at "fgtd"
          · intro h; exact absurd h (by decide)
        · have es : stepW T (L, z, w1) 34 = (L, z, T w1 4) := rfl
          rw [es]
          walk_at "if"
          · intro h; exact absurd h (by decide)
          intro _
          walk_at "if"
          · intro h; exact absurd h (by decide)
          intro _
          walk_at "if"
          · intro _
            apply ex_cons
            · apply ex_assign
              · apply ev_callD
                · apply el_cons
                  · walk_at "ev"
                  · apply el_cons (P := is (.int 4))
                    · apply ev_sub
                      · exact ev_hid
                      · walk_at "ev"
                      · apply op_item_dictI
                        · exact rfl
                        · intro _ _; rfl
                    · exact el_nil
                  · exact rfl
                · exact (hT w1 h4 4 (by decide)).2
                · decide
                · exact rfl
                · exact rfl
                · exact rfl
              · walk_at "at"
              · decide +kernel
              · decide +kernel
              · exact rfl
            apply ex_fgt
            walk_at "fgtd"
          · intro h; exact absurd h (by decide)
    · rw [if_neg hi, List.length_map] at hd
      rw [List.length_map] at hi
      have hie : i = r.length := by
        have := (List.getElem?_eq_some_iff.mp hd).1
        simp at this; lia
      subst hie
      simp at hd
      subst hd
      rw [if_pos (Nat.le_refl _)]
      apply ex_mk
      · walk_at "at"
      · walk_at "if"
        · intro _
          apply ex_freeze .here (.same (.same (.same (.it (.same .nil)))))
          walk_at "ret"
          show PV.list ((st r.length).1.map v3) = lv (walkF T r s w)
          simp only [walkF, st, List.take_length]
        · intro h; exact absurd h (by decide)
  · apply ex_off (x := sQ "symbol")
    show At _ [_, _, _, _, if (List.map PV.int (r ++ [0])).length ≤ r.length then none else some offV] _ _
    rw [if_neg (by simp)]
    walk_at "at"
end
end
section
local macro_rules | `(tactic| walk_at "def") => `(tactic| first | ((with_reducible apply d_nonterm); assumption))
noncomputable def rowI (x : Str) (p : Nat) : Int := if szI (rowB x p) ≠ 0 then (lookT (subT x p (p + szI (rowB x p)))).getD 0 else 256
noncomputable def rowS (x : Str) (σ : List Int × Int) (p : Nat) : List Int × Int := if σ.2 ≤ p then (σ.1 ++ [rowI x p], p + (if 1 > szI (rowB x p) then 1 else szI (rowB x p))) else σ
noncomputable def ruleF (x : Str) : List Int := ((List.range x.length).foldl (rowS x) ([], 0)).1
noncomputable def partsF (x : Str) (y : Int) : List Int := if decide (256 ≤ y) = true then ruleF x else [y]
noncomputable def unfS (row : List Int) (x : Str) : List Int := row.flatMap (partsF x)
noncomputable def unfF (xs : List Str) : List Int := xs.foldl unfS [256, 0]
section
variable {C : Cx}
theorem d_unfolded (K : LawL C) (xs : List Str) (hx : ∀ x ∈ xs, x.length ≤ 1000) (hb : ∀ i, ((xs.take i).foldl unfS [256, 0]).length ≤ 100000) : DefC C 4 (sQ "_law_unfolded") [is (.list (xs.map .str))] (is (li (unfF xs))) := by
  have K' := K.toLawK
  obtain ⟨f, q, doc, pm, cd, hg, ho, hcd⟩ := K.unfolded
  have g1 := K.len
  have g3 := K.tok
  have g4 := K.max
  have g5 := K.range
  let R : Nat → List Int := fun i => (xs.take i).foldl unfS [256, 0]
  have hR : ∀ i x, xs[i]? = some x → R (i + 1) = unfS (R i) x := fun i x e => by
    show (xs.take (i + 1)).foldl unfS _ = _
    rw [List.take_add_one, e, List.foldl_append]; rfl
  refine ⟨f, hg, ⟨_, _, ho, rfl⟩, fn_def (n := 2) (sc := scOf (stAt pw 80)) (ρ := [some (is (.list (xs.map .str))), none, none, none, none, none, none]) (nm := [sQ "texts", sQ "row", sQ "text", sQ "rule", sQ "ahead", sQ "place", sQ "size"]) (xs := [sQ "texts"]) K.q ho rfl hcd rfl rfl rfl rfl rfl (bnd1 fun _ => by kernel_rfl) rfl (by decide +kernel) (by decide +kernel) (by decide +kernel) (by decide +kernel) rfl fun L X => ?_⟩
  apply ex_cons
  · apply ex_assign (P := is (li (R 0)))
    · apply ev_d
      · walk_at "ev"
      · rfl
    · walk_at "at"
    · decide +kernel
    · decide +kernel
    · exact rfl
  apply exs_for (ρs := fun i => [some (is (.list (xs.map .str))), some (is (li (R i))), none, none, none, none, none]) (ωs := fun i => []) rfl rfl
  · apply it_list
    walk_at "ev"
  · intro i; rfl
  · intro κ' i d hd
    rw [List.getElem?_map] at hd
    cases hki : xs[i]? with
    | none => rw [hki] at hd; cases hd
    | some x =>
    rw [hki] at hd; cases hd
    have hx := hx x (List.mem_of_getElem? hki)
    have hxs : x.length ≤ sizeLine := by rw [sizeLine_eq]; lia
    have hbi := hb (i + 1)
    have e := hR i x hki
    change (R (i + 1)).length ≤ 100000 at hbi
    rw [e] at hbi ⊢
    generalize R i = ys at hbi ⊢
    apply ex_mk
    · walk_at "at"
    let st : Nat → List Int × Int := fun i => ((List.range i).foldl (rowS x) ([], 0))
    have hst : ∀ i, st (i + 1) = rowS x (st i) i := fun i => by
      show (List.range (i + 1)).foldl _ _ = _
      rw [List.range_succ, List.foldl_append]; rfl
    have hlen : ∀ i, (st i).1.length ≤ i := by
      intro i
      induction i with
      | zero => exact Nat.le_refl 0
      | succ i ih =>
        rw [hst]
        unfold rowS
        split
        · simp; lia
        · lia
    apply ex_tup
    · exact rfl
    · exact rfl
    · exact Nat.le_of_ble_eq_true rfl
    · apply TupK.own
      · apply evn_listL
        · walk_at "ev"
        · walk_at "at"
        · exact Nat.le_of_ble_eq_true rfl
      · intro a
        apply TupK.val
        · walk_at "ev"
        · apply tk_nil rfl
          · show Bds _ _ _ _ [_, _] _ _
            walk_at "at"
          · apply exs_for (ρs := fun i => [some (is (.list (xs.map .str))), some (is (li ys)), some (is (.str x)), some (isv (.ref a)), some (is (.int (st i).2)), none, none]) (ωs := fun i => [(a, (st i).1.map .int)]) rfl rfl
            · apply it_eq (ds := rngL 0 x.length)
              · apply it_callTt
                · assumption
                · apply el_cons
                  · apply ev_callBt
                    · assumption
                    · walk_at "ev"
                    · exact fn_len_str (by lia)
                    · exact rfl
                    · exact rfl
                    · exact rfl
                    · exact rfl
                  · walk_at "ev"
                  · exact rfl
                · exact fi_range1 (small_one (by decide) (by decide) (by lia) (by lia))
                · exact rfl
                · exact rfl
                · exact rfl
                · exact rfl
              · exact rfl
            · intro i; rfl
            · intro κ' i d hd
              have hlt : i < x.length := by
                have := (List.getElem?_eq_some_iff.mp hd).1
                rw [rngL_length] at this; exact this
              have hde : d = .int i := by
                unfold rngL at hd
                rw [List.getElem?_map, List.getElem?_range hlt] at hd
                cases hd
                show PV.int (0 + (i : Int)) = _
                rw [Int.zero_add]
              subst hde
              have b := hlen i
              apply ex_mk
              · walk_at "at"
              rw [hst i]
              generalize st i = w at b ⊢
              obtain ⟨rs, ah⟩ := w
              simp only at b
              have hrs : (rs.map PV.int).length ≤ sizeLine := by rw [List.length_map, sizeLine_eq]; lia
              walk_at "if"
              · intro hc
                have hc : ah ≤ i := by simpa using hc
                have er : rowS x (rs, ah) i = (rs ++ [rowI x i], i + (if 1 > szI (rowB x i) then 1 else szI (rowB x i))) := by
                  unfold rowS; rw [if_pos hc]
                rw [er]
                apply ex_cons
                · apply ex_assign
                  · apply ev_callBt (R := is (.int (szI (rowB x i))))
                    · assumption
                    · apply el_cons
                      · apply ev_bin
                        · apply ev_comp1if
                          apply comp1if_ok (xs := [1, 2, 3]) (f := fun (k : Int) => .int k) (h := fun k => .int k) (p := rowB x i)
                          · apply it_eq
                            · apply it_tup
                              walk_at "ev"
                            · exact rfl
                          · walk_at "at"
                          · exact rfl
                          · decide +kernel
                          · exact rfl
                          · exact Nat.le_of_ble_eq_true rfl
                          · intro cenv X' j hx
                            apply ex_mk4
                            · walk_at "at"
                            · walk_at "at"
                            · intro ω κ
                              apply tv_eq
                              · apply tv_cmp
                                · apply ev_slice_str
                                  · walk_at "ev"
                                  · apply pt_some
                                    walk_at "ev"
                                  · apply pt_some
                                    walk_at "ev"
                                  · exact hxs
                                  · intro _ _; rfl
                                · apply ev_globP
                                  · assumption
                                  · exact rfl
                                  · exact rfl
                                · exact op_in_dictS
                                · exact rfl
                              · rw [look_tok, Option.isSome_map]; rfl
                            · intro _ ω κ
                              walk_at "ev"
                        · walk_at "ev"
                        · exact op_add_list (by simp only [List.length_map, List.length_append, sizeLine_eq]; have := List.length_filter_le (rowB x i) [1, 2, 3]; simp only [List.length_cons, List.length_nil] at this ⊢; lia)
                      · walk_at "ev"
                      · exact rfl
                    · apply fn_eq
                      · apply fn_max_list
                        · rw [allInt_map]; rfl
                        · simp
                      · rw [sz_best]
                    · exact rfl
                    · exact rfl
                  · walk_at "at"
                  · decide +kernel
                  · decide +kernel
                  · exact rfl
                apply ex_cons
                · apply ex_append (d := .int (rowI x i))
                  · walk_at "at"
                  · apply ev_ifexp
                    · apply tv_int
                      · walk_at "ev"
                      · intro _; rfl
                    · intro hz
                      have hz : szI (rowB x i) ≠ 0 := by simpa using hz
                      have hb := sz_at _ hz
                      apply ev_sub
                      · apply ev_globP
                        · assumption
                        · exact rfl
                        · exact rfl
                      · apply ev_slice_str
                        · walk_at "ev"
                        · apply pt_some
                          walk_at "ev"
                        · apply pt_some
                          walk_at "ev"
                        · exact hxs
                        · intro _ _; rfl
                      · apply op_item_dictS
                        · rw [look_tok]
                          unfold rowB at hb
                          rw [rowI, if_pos hz]
                          revert hb
                          show (lookT (subT x i (i + szI (rowB x i)))).isSome = true → (lookT (subT x i (i + szI (rowB x i)))).map PV.int = _
                          cases lookT (subT x i (i + szI (rowB x i))) with
                          | none => intro h; cases h
                          | some v => intro _; rfl
                        · intro _ _; rfl
                    · intro hz
                      have hz : ¬ szI (rowB x i) ≠ 0 := by simpa using hz
                      rw [rowI, if_neg hz]
                      walk_at "ev"
                  · exact OU.here
                  · exact hrs
                apply ex_cons
                · apply ex_assign
                  · apply ev_bin
                    · walk_at "ev"
                    · apply ev_callBt
                      · assumption
                      · walk_at "ev"
                      · exact fn_max2I
                      · exact rfl
                      · exact rfl
                      · exact rfl
                      · exact rfl
                    · walk_at "op"
                  · walk_at "at"
                  · decide +kernel
                  · decide +kernel
                  · exact rfl
                show EX _ _ _ (FS _ _ _ _ _ _ _ [(a, rs.map PV.int ++ [.int (rowI x i)])] _) _ (FS _ _ _ _ _ _ _ [(a, (rs ++ [rowI x i]).map .int)] _) _
                rw [List.map_append]
                apply ex_fgt
                walk_at "fgtd"
              · intro hc
                have hc : ¬ ah ≤ i := by simpa using hc
                have er : rowS x (rs, ah) i = (rs, ah) := by
                  unfold rowS; rw [if_neg hc]
                rw [er]
                apply ex_fgt
                walk_at "fgtd"
            · show EX _ _ _ (FS _ _ _ _ _ _ [_, _, _, _, _, _, _] [(a, (st (rngL 0 x.length).length).1.map .int)] _) _ _ _
              rw [rngL_length]
              apply ex_freeze .here (.same (.same (.same (.it (.same (.same (.same .nil)))))))
              have er : (st x.length).1 = ruleF x := rfl
              rw [er]
              generalize (st x.length).2 = ah
              apply ex_cons
              · apply ex_assignCG (ds := (unfS ys x).map .int)
                · apply comp2_ok (xs := ys) (f := fun (y : Int) => .int y) (ys := partsF x) (f' := fun (y : Int) => .int y) (h := fun _ y => .int y)
                  · apply it_list
                    walk_at "ev"
                  · walk_at "at"
                  · exact rfl
                  · decide +kernel
                  · exact rfl
                  · rw [← List.map_flatMap, List.length_map, sizeLine_eq]
                    exact Nat.le_trans hbi (by decide)
                  · intro cenv X' j hx
                    apply ex_mk5
                    · walk_at "at"
                    · walk_at "at"
                    · intro ω κ
                      apply it_list
                      apply ev_ifexp (R := is (li (partsF x j)))
                      · walk_at "ev"
                      · intro h
                        rw [partsF, if_pos (by simpa using h)]
                        walk_at "ev"
                      · intro h
                        rw [partsF, if_neg (by simpa using h)]
                        apply ev_d
                        · walk_at "ev"
                        · rfl
                    · intro v; rfl
                    · intro y hy
                      apply ex_mk3
                      · walk_at "at"
                      · walk_at "at"
                      · intro ω κ
                        walk_at "ev"
                · rw [← List.map_flatMap]; rfl
                · walk_at "at"
                · decide +kernel
                · decide +kernel
                · exact rfl
              apply ex_fgt
              walk_at "fgtd"
        · exact rfl
      · exact rfl
  · have er : R (xs.map PV.str).length = unfF xs := by
      show (xs.take (xs.map PV.str).length).foldl unfS _ = _
      rw [List.length_map, List.take_length]; rfl
    simp only [er]
    walk_at "ret"
    rfl
end
end
section
open PySem.SeqAt
section
variable {C : Cx} {n : Nat} {target : Expr} {Z Z' : Fz} {s s' : Shared}
theorem three_of {α : Type} : ∀ {l : List α}, l.length = 3 → ∃ a b c, l = [a, b, c]
  | [a, b, c], _ => ⟨a, b, c, rfl⟩
theorem fi_zip3 {d1 d2 d3 : List PV} {ts : List Expr} {kk : Nat} {p : Pos} (l2 : d2.length = d1.length) (l3 : d3.length = d1.length) : FI C n (.type "zip") [is (.list d1), is (.list d2), is (.list d3)] (.Tuple ts kk p) (zip3L d1 d2 d3) := fun A s Z vs Q E hA I hv k => by
        obtain ⟨w1, t1, rfl, h1, ra⟩ := sati hv
        obtain ⟨w2, t2, rfl, h2, rb⟩ := sati ra
        obtain ⟨w3, t3, rfl, h3, rc⟩ := sati rb
        obtain rfl := sati rc
        obtain ⟨a1, m1, v1, rfl, h1, r1⟩ := rdi h1
        obtain ⟨a2, m2, v2, rfl, h2, r2⟩ := rdi h2
        obtain ⟨a3, m3, v3, rfl, h3, r3⟩ := rdi h3
        have hl1 := isList_of I h1
        have hl2 := isList_of I h2
        have hl3 := isList_of I h3
        have hal1 := Heap.lt_size (I.heap _ _ h1)
        have hal2 := Heap.lt_size (I.heap _ _ h2)
        have hal3 := Heap.lt_size (I.heap _ _ h3)
        refine call_zip_lll hl1 hl2 hl3 fun h' hz hTI hTO hi1 hi2 hi3 hk => ?_
        have g : ∀ j, s.heap.get? (s.heap.objs.size + j) = none := fun j => gAb (Nat.le_add_right _ _)
        have g0 := g 0
        rw [Nat.add_zero] at g0
        generalize hN : s.heap.objs.size = N at *
        have D : ZApart (N + 5) (N + 3) (N + 4) [lstS N a1 v1.toArray, lstS (N + 1) a2 v2.toArray, lstS (N + 2) a3 v3.toArray] := by
          have ix : ∀ (m : Nat) (S : Src), [lstS N a1 v1.toArray, lstS (N + 1) a2 v2.toArray, lstS (N + 2) a3 v3.toArray][m]? = some S → m < 3 ∧ S.it = N + m ∧ ∃ a, a < N ∧ S.fp = [N + m, a] := fun m S h => by
            match m, h with
            | 0, h => cases h; exact ⟨by decide, rfl, a1, hal1, rfl⟩
            | 1, h => cases h; exact ⟨by decide, rfl, a2, hal2, rfl⟩
            | 2, h => cases h; exact ⟨by decide, rfl, a3, hal3, rfl⟩
          have far : ∀ k S, 3 ≤ k → S ∈ [lstS N a1 v1.toArray, lstS (N + 1) a2 v2.toArray, lstS (N + 2) a3 v3.toArray] → N + k ∉ S.fp := fun k S hk hS hb => by
            obtain ⟨m, hm⟩ := List.mem_iff_getElem?.mp hS
            obtain ⟨m3, _, a, ha, e⟩ := ix m S hm
            rw [e] at hb
            rcases List.mem_cons.mp hb with q | q
            · exact absurd (Nat.add_left_cancel q) (Nat.ne_of_gt (Nat.lt_of_lt_of_le m3 hk))
            · exact absurd (List.mem_singleton.mp q) (Nat.ne_of_gt (Nat.lt_of_lt_of_le ha (Nat.le_add_right N k)))
          refine ⟨Nat.ne_of_gt (Nat.add_lt_add_left (by decide) N), Nat.ne_of_gt (Nat.add_lt_add_left (by decide) N), Nat.ne_of_lt (Nat.add_lt_add_left (by decide) N), fun S => far 5 S (by decide), fun S => far 3 S (by decide), fun S => far 4 S (by decide), fun S hS => ?_, fun i j S S' h1 h2 hne hb => ?_⟩
          · obtain ⟨m, hm⟩ := List.mem_iff_getElem?.mp hS
            obtain ⟨_, e1, a, _, e2⟩ := ix m S hm
            rw [e1, e2]; exact .head _
          · obtain ⟨_, e1, _⟩ := ix i S h1
            obtain ⟨_, _, a, ha, e2⟩ := ix j S' h2
            rw [e1, e2] at hb
            rcases List.mem_cons.mp hb with q | q
            · exact hne (Nat.add_left_cancel q)
            · exact absurd (List.mem_singleton.mp q) (Nat.ne_of_gt (Nat.lt_of_lt_of_le ha (Nat.le_add_right N i)))
        have e1 : v1.toArray.size = d1.length := by rw [List.size_toArray, r1.length]
        have e2 : v2.toArray.size = d1.length := by rw [List.size_toArray, r2.length, l2]
        have e3 : v3.toArray.size = d1.length := by rw [List.size_toArray, r3.length, l3]
        have hd : ∀ A : Around, A.handled = none → ∀ S ∈ [lstS N a1 v1.toArray, lstS (N + 1) a2 v2.toArray, lstS (N + 2) a3 v3.toArray], Draws C.prog C.w A S.it S.fp d1.length S.P S.St := fun A hA S hS => by
          simp only [List.mem_cons, List.not_mem_nil, or_false] at hS
          rcases hS with rfl | rfl | rfl
          · have := Draws.list (prog := C.prog) (w := C.w) hA N a1 (by unfold Addr at *; lia) v1.toArray
            rw [e1] at this; exact this
          · have := Draws.list (prog := C.prog) (w := C.w) hA (N + 1) a2 (by unfold Addr at *; lia) v2.toArray
            rw [e2] at this; exact this
          · have := Draws.list (prog := C.prog) (w := C.w) hA (N + 2) a3 (by unfold Addr at *; lia) v3.toArray
            rw [e3] at this; exact this
        have st0 : ZSt (N + 5) (N + 3) (N + 4) [lstS N a1 v1.toArray, lstS (N + 1) a2 v2.toArray, lstS (N + 2) a3 v3.toArray] 0 h' := ⟨.none, false, #[.none, .none, .none], .inl rfl, hz, hTI, hTO, rfl, fun S hS => by
          simp only [List.mem_cons, List.not_mem_nil, or_false] at hS
          rcases hS with rfl | rfl | rfl
          · exact ⟨⟨_, hi1, rfl, rfl⟩, hl1.at fun o e => hk _ o e⟩
          · exact ⟨⟨_, hi2, rfl, rfl⟩, hl2.at fun o e => hk _ o e⟩
          · exact ⟨⟨_, hi3, rfl, rfl⟩, hl3.at fun o e => hk _ o e⟩⟩
        refine zipN_self (s := { s with heap := h' }) st0 ?_
        have st : Step C Z s Z { s with heap := h' } := .keeps (t := s.toks) I hk
        have hlen : (zip3L d1 d2 d3).length = d1.length := by rw [zip3L, List.length_map, List.length_zip, List.length_zip, l2, l3, Nat.min_self, Nat.min_self]
        refine k _ Z _ st (turns_walksV (fun A hA => hlen ▸ walksN hA D hd (List.cons_ne_nil _ _) (show (3 : Nat) ≤ 1000 by decide)) st0 (fun b hb => ?_) (fun b hb => ?_) (fun i h' st' b hb => ?_) fun i vals d Z' le hd hP => ?_)
        · simp [zwr, lstS] at hb
          rcases hb with rfl | rfl | rfl | rfl | rfl
          · exact I.fresh (g 5)
          · exact I.fresh (g 4)
          · exact I.fresh g0
          · exact I.fresh (g 1)
          · exact I.fresh (g 2)
        · simp [zfp, lstS] at hb
          rcases hb with rfl | rfl | rfl | rfl | rfl | rfl | rfl | rfl | rfl
          · exact .inr ⟨g 5, I.fresh (g 5)⟩
          · exact .inr ⟨g 3, I.fresh (g 3)⟩
          · exact .inr ⟨g 4, I.fresh (g 4)⟩
          · exact .inr ⟨g0, I.fresh g0⟩
          · exact .inl ⟨_, h1⟩
          · exact .inr ⟨g 1, I.fresh (g 1)⟩
          · exact .inl ⟨_, h2⟩
          · exact .inr ⟨g 2, I.fresh (g 2)⟩
          · exact .inl ⟨_, h3⟩
        · obtain ⟨f0, fl, arr, hf, hz, hTI, hTO, ha, hst⟩ := st'
          obtain ⟨⟨o1, ho1, hc1, _⟩, p1, hp1, _⟩ := hst _ (.head _)
          obtain ⟨⟨o2, ho2, hc2, _⟩, p2, hp2, _⟩ := hst _ (.tail _ (.head _))
          obtain ⟨⟨o3, ho3, hc3, _⟩, p3, hp3, _⟩ := hst _ (.tail _ (.tail _ (.head _)))
          simp [zfp, lstS] at hb
          rcases hb with rfl | rfl | rfl | rfl | rfl | rfl | rfl | rfl | rfl
          · exact ⟨_, hz, fun _ ps q => by have := congrArg Obj.cls q; simp [tabObj] at this⟩
          · exact ⟨_, hTI, fun _ ps q => by have := congrArg Obj.cls q; simp [tabObj] at this⟩
          · exact ⟨_, hTO, fun _ ps q => by have := congrArg Obj.cls q; simp [tabObj] at this⟩
          · exact ⟨o1, ho1, fun _ ps q => by subst q; simp [tabObj] at hc1⟩
          · exact ⟨p1, hp1, fun q => by rw [h1] at q; cases q⟩
          · exact ⟨o2, ho2, fun _ ps q => by subst q; simp [tabObj] at hc2⟩
          · exact ⟨p2, hp2, fun q => by rw [h2] at q; cases q⟩
          · exact ⟨o3, ho3, fun _ ps q => by subst q; simp [tabObj] at hc3⟩
          · exact ⟨p3, hp3, fun q => by rw [h3] at q; cases q⟩
        · obtain ⟨hv, ht⟩ := hP
          obtain ⟨vl⟩ := vals
          obtain ⟨u1, u2, u3, rfl⟩ := three_of (show vl.length = 3 from hv)
          have q1 : v1.toArray[i]? = some u1 := ht 0 _ u1 (by decide : 0 < 3) rfl rfl
          have q2 : v2.toArray[i]? = some u2 := ht 1 _ u2 (by decide : 1 < 3) rfl rfl
          have q3 : v3.toArray[i]? = some u3 := ht 2 _ u3 (by decide : 2 < 3) rfl rfl
          rw [zip3L, List.getElem?_map] at hd
          cases hq : (d1.zip (d2.zip d3))[i]? with
          | none => rw [hq] at hd; cases hd
          | some d' =>
              rw [hq] at hd
              obtain ⟨e1, e2, e3⟩ := d'
              cases hd
              obtain ⟨w1, w2⟩ := List.getElem?_zip_eq_some.mp hq
              obtain ⟨w2, w3⟩ := List.getElem?_zip_eq_some.mp w2
              exact ⟨_, rfl, .cons (RdL.at (RdL.le le r1) (by simpa using q1) w1) (.cons (RdL.at (RdL.le le r2) (by simpa using q2) w2) (.cons (RdL.at (RdL.le le r3) (by simpa using q3) w3) .nil))⟩
noncomputable def rngD (a : Int) (m : Nat) : List PV := (List.range m).map fun (i : Nat) => .int (a - (i : Int))
theorem rangeD_turns {s : Shared} (I : Inv C Z s) {J : Addr} {a : Int} {m : Nat} {h : Heap} {new : Addr → Prop} (hJ : IsRangeIter h J a m (-1)) (hz : Z J = none) (hn : new J) : Turns C target J (rngD a m) Z h new := by
  refine turns_walks (St := fun i h => IsRangeIter h J (a + (i : Nat) * (-1)) ((m : Int) - (i : Nat)) (-1)) (fun A hA => by rw [show (rngD a m).length = m by rw [rngD, List.length_map, List.length_range]]; exact Walks.range hA J a (-1) m) (fun i h' st' => ⟨_, _, st', rfl, by decide +kernel⟩) (show IsRangeIter h J (a + ((0 : Nat) : Int) * (-1)) ((m : Int) - ((0 : Nat) : Int)) (-1) by simpa using hJ) (fun b hb => ?_) (fun b hb => ?_) (fun i h' st' b hb => ?_) fun i v d Z' le hd hP => ?_
  · rw [List.mem_singleton.mp hb]; exact hz
  · rw [List.mem_singleton.mp hb]; exact .inr ⟨hn, hz⟩
  · rw [List.mem_singleton.mp hb]; exact ⟨_, st', fun _ ps q => by have := congrArg Obj.cls q; simp [tabObj] at this⟩
  · obtain ⟨t, rfl⟩ := hP
    rw [rngD, List.getElem?_map] at hd
    cases hq : (List.range m)[i]? with
    | none => rw [hq] at hd; cases hd
    | some j =>
      rw [hq] at hd; cases hd
      have hj := List.getElem?_eq_some_iff.mp hq
      obtain ⟨hlt, hj⟩ := hj
      rw [List.getElem_range] at hj
      subst hj
      rw [show a + (i : Int) * (-1) = a - i by lia]
      exact .int _ _
theorem fi_rangeD {a b : Int} {m : Nat} (hsm : Builtin.Range.small a b (-1) = true) (hm : Builtin.Range.rangeSize a b (-1) = (m : Int)) (hp : Builtin.divisionGoesByPylong (b - a) (-1) = false) : FI C n (.type "range") [is (.int a), is (.int b), is (.int (-1))] target (rngD a m) := fun A s Z vs Q E hA I hv k => by
  cases hv with
  | cons h r =>
    cases r with
    | cons h' r' =>
    cases r' with
    | cons h'' r' =>
      cases r'
      cases h; cases h'; cases h''
      rename_i t u v
      refine call_range_3 (by decide) ?_ (.inl hp)
      have st : Step C Z s Z _ := StepX.push I (o := { cls := .type "range", data := .fields #[.int a t, .int b u, .int (-1) v] }) (t := s.toks)
      refine wpAny_pyIter_range (Heap.get?_push_size _ rfl) hsm ?_
      have st2 : Step C Z _ Z _ := StepX.push st.inv (o := { cls := .type "range_iterator", data := .fields #[rawInt a, rawInt (Builtin.Range.rangeSize a b (-1)), rawInt (-1)] }) (t := s.toks)
      refine k _ Z _ (st.trans st2) (rangeD_turns (m := m) st2.inv (a := a) ?_ (st.inv.fresh (gAb (Nat.le_refl _))) (Step.gone' st (gAb (Nat.le_refl _))))
      have := Heap.get?_push_size (s.heap.push { cls := .type "range", data := .fields #[.int a t, .int b u, .int (-1) v] }) (o := { cls := .type "range_iterator", data := .fields #[rawInt a, rawInt (Builtin.Range.rangeSize a b (-1)), rawInt (-1)] }) rfl
      rw [hm] at this ⊢
      exact this
end
end
section
local macro_rules | `(tactic| walk_at "def") => `(tactic| first | ((with_reducible apply d_round); assumption))
local macro_rules | `(tactic| walk_at "fn") => `(tactic| with_reducible exact fn_int_bool)
noncomputable def at2 (f0 f1 i : Int) : Int := if i = 0 then f0 else f1
theorem op_item2 {C : Cx} {n : Nat} {vv sl : Expr} {a b : Int} {i : Int} (h0 : 0 ≤ i) (h2 : i < 2)
    (hs : ∀ o i, subscripted sl false o i = operate [o, i] (getItem o i) := by intro _ _; rfl) : OP2 C n (subscriptTail vv sl) (is (.list [.int a, .int b])) (is (.int i)) (is (.int (at2 a b i))) := by
  have h : i = 0 ∨ i = 1 := by lia
  rcases h with rfl | rfl <;> exact op_item_list rfl rfl (Nat.le_of_ble_eq_true rfl) hs
theorem pow3_small {m : Nat} (h : m < 8) : ((3 : Int) ^ m).natAbs < 1073741824 := (by decide : ∀ m < 8, ((3 : Int) ^ m).natAbs < 1073741824) m h
noncomputable def ft (b : Bool) : Int := if b = true then 1 else 0
theorem ft_small (b : Bool) : (if b = true then (1 : Int) else 0).natAbs < 18446744073709551616 := by split <;> decide
noncomputable def dbl3 (v w : V3) : V3 := (2 * v.1 + w.1, 2 * v.2.1 + w.2.1, 2 * v.2.2 + w.2.2)
noncomputable def mix3 (a b c : V3) (x y : Bool) : V3 := (a.1 + b.1 * ft x + c.1 * ft y, a.2.1 + b.2.1 * ft x + c.2.1 * ft y, a.2.2 + b.2.2 * ft x + c.2.2 * ft y)
noncomputable def mid3 (a b c : V3) : V3 := (2 * a.1 + 2 * b.1 + c.1, 2 * a.2.1 + 2 * b.2.1 + c.2.1, 2 * a.2.2 + 2 * b.2.2 + c.2.2)
noncomputable def thFig (n lev : Int) : Int := (n.fdiv (3 ^ lev.toNat)).fmod 3
noncomputable def thTurn (f0 f1 lev : Int) : Int := 1 - 2 * at2 f0 f1 (1 - lev.fmod 2)
noncomputable def thS (n f0 f1 : Int) (σ : V3 × V3) (lev : Int) : V3 × V3 :=
  (mix3 (dbl3 σ.1 (rnd σ.1 (thTurn f0 f1 lev))) σ.2 (rnd σ.2 (thTurn f0 f1 lev)) (decide (thFig n lev > 0)) (decide (thFig n lev > 1)),
   if decide (thFig n lev = 1) = true then rnd σ.2 (thTurn f0 f1 lev) else σ.2)
noncomputable def thSt (n f0 f1 : Int) (w : V3) : Nat → V3 × V3
  | 0 => ((0, 0, 0), w)
  | i + 1 => thS n f0 f1 (thSt n f0 f1 w i) (7 - i)
noncomputable def thereF (n : Int) (s w : V3) (f0 f1 : Int) : V3 := mid3 s (thSt n f0 f1 w 8).1 (thSt n f0 f1 w 8).2
section
variable {C : Cx}
theorem d_there (K : LawK C) (nn : Int) (s w : V3) (f0 f1 : Int) : DefC C 4 (sQ "_law_there") [is (.int nn), is (v3 s), is (v3 w), is (.list [.int f0, .int f1])] (is (v3 (thereF nn s w f0 f1))) := by
  obtain ⟨f, q, doc, pm, cd, hg, ho, hcd⟩ := K.there
  have g1 := K.range
  have g2 := K.zip
  have g3 := K.int
  refine ⟨f, hg, ⟨_, _, ho, rfl⟩, fn_def (n := 2) (sc := scOf (stAt pw 86)) (ρ := [some (is (.int nn)), some (is (v3 s)), some (is (v3 w)), some (is (.list [.int f0, .int f1])), none, none, none, none, none]) (nm := [sQ "number", sQ "spot", sQ "way", sQ "folds", sQ "come", sQ "level", sQ "figure", sQ "turn", sQ "side"]) (xs := [sQ "number", sQ "spot", sQ "way", sQ "folds"]) K.q ho rfl hcd rfl rfl rfl rfl rfl (bnd4 fun _ _ _ _ => by kernel_rfl) rfl (by decide +kernel) (by decide +kernel) (by decide +kernel) (by decide +kernel) rfl fun L X => ?_⟩
  apply ex_cons
  · apply ex_assign (P := is (v3 (0, 0, 0)))
    · walk_at "ev"
    · walk_at "at"
    · decide +kernel
    · decide +kernel
    · exact rfl
  apply exs_for (ρs := fun i => [some (is (.int nn)), some (is (v3 s)), some (is (v3 (thSt nn f0 f1 w i).2)), some (is (.list [.int f0, .int f1])), some (is (v3 (thSt nn f0 f1 w i).1)), none, none, none, none]) (ωs := fun i => []) rfl rfl
  · apply it_callTt
    · assumption
    · walk_at "ev"
    · exact fi_rangeD (m := 8) rfl rfl rfl
    · exact rfl
    · exact rfl
    · exact rfl
    · exact rfl
  · intro i; rfl
  · intro κ' i d hd
    have hlt : i < 8 := by
      have := (List.getElem?_eq_some_iff.mp hd).1
      rw [rngD, List.length_map, List.length_range] at this; exact this
    have hde : d = .int (7 - i) := by
      unfold rngD at hd
      rw [List.getElem?_map, List.getElem?_range hlt] at hd
      cases hd; rfl
    subst hde
    have es : thSt nn f0 f1 w (i + 1) = thS nn f0 f1 (thSt nn f0 f1 w i) (7 - i) := rfl
    rw [es]
    generalize thSt nn f0 f1 w i = σ
    obtain ⟨come, way⟩ := σ
    have hl0 : (0 : Int) ≤ 7 - i := by lia
    have hl8 : (7 : Int) - i < 8 := by lia
    generalize (7 : Int) - i = lev at hl0 hl8
    apply ex_mk
    · walk_at "at"
    have hp : (3 : Int) ^ lev.toNat ≠ 0 := Int.pow_ne_zero (by decide)
    apply ex_cons
    · apply ex_asgU
      · apply ev_d (d' := .tup [.int (thFig nn lev), .int (thTurn f0 f1 lev)])
        · apply ev_tupL
          · apply el_cons
            · apply ev_bin
              · apply ev_bin
                · walk_at "ev"
                · apply ev_bin
                  · walk_at "ev"
                  · walk_at "ev"
                  · exact op_pow_int hl0 (by rw [show Builtin.Int.intBits 3 = 2 from rfl]; lia)
                · exact op_div_int hp (PyProof.noPylong_small (pow3_small (by lia)))
              · walk_at "ev"
              · walk_at "op"
            · apply el_cons
              · apply ev_bin
                · walk_at "ev"
                · apply ev_bin
                  · walk_at "ev"
                  · apply ev_sub
                    · walk_at "ev"
                    · walk_at "ev"
                    · exact op_item2 (by have := fmod_hi lev (b := 2) (by decide); lia) (by have := fmod_lo lev (b := 2) (by decide); lia)
                  · walk_at "op"
                · walk_at "op"
              · exact el_nil
              · exact rfl
            · exact rfl
          · walk_at "at"
          · exact Nat.le_of_ble_eq_true rfl
        · rfl
      · walk_at "at"
      · exact rfl
      · exact rfl
    show EX _ _ _ _ _ (FS _ _ _ _ _ _ [_, _, some (is (v3 (if decide (thFig nn lev = 1) = true then rnd way (thTurn f0 f1 lev) else way))), _, some (is (v3 (mix3 (dbl3 come (rnd come (thTurn f0 f1 lev))) way (rnd way (thTurn f0 f1 lev)) (decide (thFig nn lev > 0)) (decide (thFig nn lev > 1))))), _, _, _, _] _ _) _
    generalize thFig nn lev = fig
    generalize thTurn f0 f1 lev = turn
    apply ex_cons
    · apply ex_assign
      · apply ev_callD
        · walk_at "ev"
        · walk_at "def"
        · decide
        · exact rfl
        · exact rfl
        · exact rfl
      · walk_at "at"
      · decide +kernel
      · decide +kernel
      · exact rfl
    generalize rnd way turn = side
    apply ex_cons
    · apply ex_assignC1 (ds := [.int (dbl3 come (rnd come turn)).1, .int (dbl3 come (rnd come turn)).2.1, .int (dbl3 come (rnd come turn)).2.2])
      apply comp1_ok (xs := [(come.1, (rnd come turn).1), (come.2.1, (rnd come turn).2.1), (come.2.2, (rnd come turn).2.2)]) (f := fun (p : Int × Int) => .tup [.int p.1, .int p.2]) (h := fun p => .int (2 * p.1 + p.2))
      · apply it_eq
        · apply it_callTt
          · assumption
          · walk_at "ev"
          · exact fi_zip
          · exact rfl
          · exact rfl
          · exact rfl
          · exact rfl
        · exact rfl
      · walk_at "at"
      · exact rfl
      · decide +kernel
      · exact rfl
      · exact Nat.le_of_ble_eq_true rfl
      · intro cenv X' j hx
        apply ex_mk3
        · walk_at "at"
        · walk_at "at"
        · intro ω κ
          walk_at "ev"
      · rfl
      · walk_at "at"
      · decide +kernel
      · decide +kernel
      · exact rfl
    generalize dbl3 come (rnd come turn) = c1
    apply ex_cons
    · apply ex_assignC1 (ds := [.int (mix3 c1 way side (decide (fig > 0)) (decide (fig > 1))).1, .int (mix3 c1 way side (decide (fig > 0)) (decide (fig > 1))).2.1, .int (mix3 c1 way side (decide (fig > 0)) (decide (fig > 1))).2.2])
      apply comp1_ok (xs := [(c1.1, way.1, side.1), (c1.2.1, way.2.1, side.2.1), (c1.2.2, way.2.2, side.2.2)]) (f := fun (p : Int × Int × Int) => .tup [.int p.1, .int p.2.1, .int p.2.2]) (h := fun p => .int (p.1 + p.2.1 * ft (decide (fig > 0)) + p.2.2 * ft (decide (fig > 1))))
      · apply it_eq
        · apply it_callTt
          · assumption
          · walk_at "ev"
          · exact fi_zip3 rfl rfl
          · exact rfl
          · exact rfl
          · exact rfl
          · exact rfl
        · exact rfl
      · walk_at "at"
      · exact rfl
      · decide +kernel
      · exact rfl
      · exact Nat.le_of_ble_eq_true rfl
      · intro cenv X' j hx
        apply ex_mk3
        · walk_at "at"
        · walk_at "at"
        · intro ω κ
          have h1 := ft_small (decide (fig > 0))
          have h2 := ft_small (decide (fig > 1))
          apply ev_d
          · walk_at "ev"
          · rfl
      · rfl
      · walk_at "at"
      · decide +kernel
      · decide +kernel
      · exact rfl
    apply ex_cons
    · apply ex_assign (P := is (v3 (if decide (fig = 1) = true then side else way)))
      · apply ev_ifexp
        · walk_at "ev"
        · intro h
          rw [if_pos (by simpa using h)]
          walk_at "ev"
        · intro h
          rw [if_neg (by simpa using h)]
          walk_at "ev"
      · walk_at "at"
      · decide +kernel
      · decide +kernel
      · exact rfl
    apply ex_fgt
    walk_at "fgtd"
  · show EX _ _ _ (FS _ _ _ _ _ _ [_, _, some (is (v3 (thSt nn f0 f1 w (rngD 7 8).length).2)), _, some (is (v3 (thSt nn f0 f1 w (rngD 7 8).length).1)), _, _, _, _] _ _) _ _ _
    rw [show (rngD 7 8).length = 8 from rfl]
    unfold thereF
    generalize (thSt nn f0 f1 w 8).1 = come
    generalize (thSt nn f0 f1 w 8).2 = way
    apply ex_ret
    apply ev_d
    · apply ev_comp1
      apply comp1_ok (xs := [(s.1, come.1, way.1), (s.2.1, come.2.1, way.2.1), (s.2.2, come.2.2, way.2.2)]) (f := fun (p : Int × Int × Int) => .tup [.int p.1, .int p.2.1, .int p.2.2]) (h := fun p => .int (2 * p.1 + 2 * p.2.1 + p.2.2))
      · apply it_eq
        · apply it_callTt
          · assumption
          · walk_at "ev"
          · exact fi_zip3 rfl rfl
          · exact rfl
          · exact rfl
          · exact rfl
          · exact rfl
        · exact rfl
      · walk_at "at"
      · exact rfl
      · decide +kernel
      · exact rfl
      · exact Nat.le_of_ble_eq_true rfl
      · intro cenv X' j hx
        apply ex_mk3
        · walk_at "at"
        · walk_at "at"
        · intro ω κ
          walk_at "ev"
    · rfl
end
end
noncomputable def sh (x : Int) (s : Nat) : Int := x.fdiv (2 ^ s)
noncomputable def lo (x : Int) (s : Nat) : Int := Builtin.bitXor x (sh x s * 2 ^ s)
noncomputable def digR (n : Nat) (x : Int) (m : Nat) : List Int := if h : m ≤ 1 then [x] else digR n (lo x (m / 2 * n)) (m / 2) ++ digR n (sh x (m / 2 * n)) (m - m / 2)
termination_by m
decreasing_by
  · exact Nat.div_lt_self (Nat.lt_trans Nat.zero_lt_one (Nat.lt_of_not_le h)) Nat.one_lt_two
  · exact Nat.sub_lt (Nat.lt_trans Nat.zero_lt_one (Nat.lt_of_not_le h)) (Nat.div_pos (Nat.lt_of_not_le h) Nat.two_pos)
theorem digR_one {n : Nat} {x : Int} : digR n x 1 = [x] := by rw [digR]; simp
theorem digR_two {n m : Nat} {x : Int} (h : 2 ≤ m) : digR n x m = digR n (lo x (m / 2 * n)) (m / 2) ++ digR n (sh x (m / 2 * n)) (m - m / 2) := by
  rw [digR, dif_neg (Nat.not_le_of_lt h)]
theorem halves {m : Nat} (h : 1 ≤ m) (h1 : ¬ m = 1) : 2 ≤ m ∧ m / 2 < m ∧ 1 ≤ m / 2 ∧ m - m / 2 < m ∧ 1 ≤ m - m / 2 := by
  have h2 : 2 ≤ m := Nat.lt_of_le_of_ne h fun e => h1 e.symm
  have a := Nat.div_lt_self h Nat.one_lt_two
  have b := Nat.div_pos h2 Nat.two_pos
  exact ⟨h2, a, b, Nat.sub_lt h b, Nat.sub_pos_of_lt a⟩
theorem digR_len {n : Nat} : ∀ (m : Nat) (x : Int), 1 ≤ m → (digR n x m).length = m := by
  intro m
  induction m using Nat.strongRecOn with
  | ind m ih =>
    intro x h
    by_cases h1 : m = 1
    · subst h1; rw [digR_one]; rfl
    · obtain ⟨h2, a, b, c, d⟩ := halves h h1
      rw [digR_two h2, List.length_append, ih _ a _ b, ih _ c _ d]
      exact Nat.add_sub_cancel' (Nat.le_of_lt a)
theorem fdiv_pow {x : Int} {s : Nat} : x.fdiv (2 ^ s) = x / 2 ^ s := Int.fdiv_eq_ediv_of_nonneg _ (Int.le_of_lt (Int.pow_pos (by decide)))
theorem sh_nonneg {x : Int} {s : Nat} (h : 0 ≤ x) : 0 ≤ sh x s := by
  unfold sh; rw [fdiv_pow]; exact Int.ediv_nonneg h (Int.le_of_lt (Int.pow_pos (by decide)))
theorem lo_eq {x : Int} {s : Nat} (h : 0 ≤ x) : lo x s = x % 2 ^ s := by
  obtain ⟨n, rfl⟩ := Int.eq_ofNat_of_zero_le h
  have e : sh (n : Int) s * 2 ^ s = ((n / 2 ^ s * 2 ^ s : Nat) : Int) := by
    unfold sh; rw [fdiv_pow]; simp
  unfold lo
  rw [e]
  have tb : ∀ i, (n / 2 ^ s * 2 ^ s).testBit i = (decide (s ≤ i) && n.testBit i) := fun i => by
    rw [Nat.testBit_mul_two_pow, Nat.testBit_div_two_pow]
    by_cases hi : s ≤ i
    · simp [hi, Nat.sub_add_cancel hi]
    · simp [hi]
  have e4 : n &&& (n / 2 ^ s * 2 ^ s) = n / 2 ^ s * 2 ^ s := Nat.eq_of_testBit_eq fun i => by rw [Nat.testBit_and, tb]; cases n.testBit i <;> simp
  have e5 : (n : Int) % 2 ^ s = ((n % 2 ^ s : Nat) : Int) := by simp
  have e6 := Nat.div_add_mod n (2 ^ s)
  rw [Nat.mul_comm] at e6
  rw [bitXor_and, e5]
  generalize n / 2 ^ s * 2 ^ s = m at e4 e6
  have e2 : Builtin.bitAnd (n : Int) (m : Int) = (m : Int) := by
    show ((((n : Int).toNat &&& (m : Int).toNat : Nat)) : Int) = _
    rw [Int.toNat_natCast, Int.toNat_natCast, e4]
  rw [e2]
  lia
theorem bits_mono {x y : Int} (h0 : 0 ≤ y) (h : y ≤ x) : Builtin.Int.intBits y ≤ Builtin.Int.intBits x := by
  unfold Builtin.Int.intBits
  by_cases hy : y = 0
  · subst hy; simp
  · have hx : x ≠ 0 := fun e => hy (Int.le_antisymm (e ▸ h) h0)
    have h1 : y.natAbs ≤ x.natAbs := Int.ofNat_le.mp (by rw [Int.natAbs_of_nonneg h0, Int.natAbs_of_nonneg (Int.le_trans h0 h)]; exact h)
    have : y.natAbs.log2 ≤ x.natAbs.log2 := by
      rw [Nat.le_log2 (Int.natAbs_ne_zero.mpr hx)]
      exact Nat.le_trans (Nat.log2_self_le (Int.natAbs_ne_zero.mpr hy)) h1
    simp [hy, hx, this]
theorem sh_le {x : Int} {s : Nat} (h : 0 ≤ x) : sh x s ≤ x := by
  unfold sh; rw [fdiv_pow]; exact Int.ediv_le_self _ h
theorem lo_nonneg {x : Int} {s : Nat} (h : 0 ≤ x) : 0 ≤ lo x s := by
  rw [lo_eq h]; exact Int.emod_nonneg _ (Int.ne_of_gt (Int.pow_pos (by decide)))
theorem lo_le {x : Int} {s : Nat} (h : 0 ≤ x) : lo x s ≤ x := by
  rw [lo_eq h]
  have h1 := Int.emod_add_mul_ediv x (2 ^ s)
  have h2 : 0 ≤ 2 ^ s * (x / 2 ^ s) := Int.mul_nonneg (Int.le_of_lt (Int.pow_pos (by decide))) (Int.ediv_nonneg h (Int.le_of_lt (Int.pow_pos (by decide))))
  lia
theorem seg_join {α : Type} {ds D1 : List α} {l m r : Nat} (h1 : l ≤ ds.length) (h2 : D1.length = m) (h3 : l + m ≤ r) : (ds.take l ++ D1 ++ ds.drop (l + m)).take (l + m) = ds.take l ++ D1 ∧ (ds.take l ++ D1 ++ ds.drop (l + m)).drop r = ds.drop r := by
  have hl : (ds.take l ++ D1).length = l + m := by rw [List.length_append, List.length_take, h2, Nat.min_eq_left h1]
  constructor
  · exact List.take_left' hl
  · rw [List.drop_append, hl, List.drop_eq_nil_of_le (Nat.le_trans (Nat.le_of_eq hl) h3), List.drop_drop, List.nil_append, Nat.add_sub_cancel' h3]
structure Half (l r m N nn d : Nat) : Prop where
  k2 : 2 ≤ r - l
  m1 : 1 ≤ m
  m2 : m < r - l
  ml : l + m - l = m
  ll : l < l + m
  lr : l + m < r
  le : l + m ≤ r
  ln : l + m ≤ N
  l0 : l ≤ N
  mN : m ≤ N
  q1 : l + m - l ≤ 2 ^ d
  q2 : r - (l + m) ≤ 2 ^ d
  em : ((l : Int) + (r : Int)).fdiv (2 ^ (1 : Int).toNat) = ((l + m : Nat) : Int)
  es : (((l + m : Nat) : Int) - (l : Int)) * (nn : Int) = ((m * nn : Nat) : Int)
  ok : (((l + m : Nat) : Int) - (l : Int)).natAbs < 18446744073709551616
  sz : min l N + m + (N - (l + m)) = N
theorem half_up {k P : Nat} (h : k ≤ P * 2) : k - k / 2 ≤ P := by
  refine Nat.sub_le_iff_le_add.mpr ?_
  rcases Nat.lt_or_ge (k / 2) P with h1 | h1
  · have : k ≤ 2 * (k / 2) + 1 := Nat.le_of_lt_succ (Nat.lt_mul_div_succ k Nat.two_pos)
    rw [Nat.two_mul] at this
    exact Nat.le_trans this (Nat.add_comm P _ ▸ Nat.add_le_add_left h1 _)
  · exact Nat.le_trans h (Nat.mul_two P ▸ Nat.add_le_add_left h1 P)
theorem half_of {l r N nn d : Nat} (hrl : l + 2 ≤ r) (hr : r ≤ N) (hN : N ≤ 2 ^ 24) (hm : r - l ≤ 2 ^ (d + 1)) : ∃ m, (r - l) / 2 = m ∧ Half l r m N nn d := by
  obtain ⟨k, rfl⟩ := Nat.exists_eq_add_of_le (Nat.le_trans (Nat.le_add_right l 2) hrl)
  have hk : 2 ≤ k := Nat.le_of_add_le_add_left hrl
  have m2 := Nat.div_lt_self (Nat.lt_of_lt_of_le (by decide) hk) (show 1 < 2 by decide)
  have m1 := Nat.div_pos hk (by decide)
  have hm : k ≤ 2 ^ d * 2 := by rw [Nat.add_sub_cancel_left] at hm; exact hm
  have up := half_up hm
  have q1 : k / 2 ≤ 2 ^ d := Nat.div_le_of_le_mul (by rw [Nat.mul_comm]; exact hm)
  have em : ((l : Int) + ((l + k : Nat) : Int)).fdiv (2 ^ (1 : Int).toNat) = ((l + k / 2 : Nat) : Int) := by
    show (((l + (l + k) : Nat) : Int)).fdiv ((2 : Nat) : Int) = _
    rw [← Int.ofNat_fdiv, ← Nat.add_assoc, ← Nat.two_mul, Nat.mul_add_div (by decide)]
  have ed : (((l + k / 2 : Nat) : Int) - (l : Int)) = ((k / 2 : Nat) : Int) := by rw [Int.natCast_add, Int.add_comm, Int.add_sub_cancel]
  have es : (((l + k / 2 : Nat) : Int) - (l : Int)) * (nn : Int) = ((k / 2 * nn : Nat) : Int) := by rw [ed, Int.natCast_mul]
  have ln : l + k / 2 ≤ N := Nat.le_trans (Nat.le_of_lt (Nat.add_lt_add_left m2 l)) hr
  refine ⟨k / 2, by rw [Nat.add_sub_cancel_left], ?_, m1, ?_, Nat.add_sub_cancel_left .., Nat.lt_add_of_pos_right m1, Nat.add_lt_add_left m2 l, Nat.le_of_lt (Nat.add_lt_add_left m2 l), ln, Nat.le_trans (Nat.le_add_right _ _) ln, Nat.le_trans (Nat.le_add_left _ _) ln, ?_, ?_, em, es, ?_, ?_⟩
  · rw [Nat.add_sub_cancel_left]; exact hk
  · rw [Nat.add_sub_cancel_left]; exact m2
  · rw [Nat.add_sub_cancel_left]; exact q1
  · rw [Nat.add_sub_add_left]; exact up
  · rw [ed]; exact Nat.lt_of_le_of_lt (Nat.le_trans (Nat.le_trans (Nat.le_add_left _ _) ln) hN) (by decide)
  · rw [Nat.min_eq_left (Nat.le_trans (Nat.le_add_right _ _) ln), Nat.add_sub_cancel' ln]
theorem one_of {l r : Nat} (h : (l : Int) + 1 = r) : r = l + 1 := (Int.ofNat.inj h).symm
theorem two_of {l r : Nat} (h : l < r) (hc : ¬ (l : Int) + 1 = r) : l + 2 ≤ r := Nat.lt_of_le_of_ne h fun e => hc (by rw [← e]; rfl)
theorem no_two {l r : Nat} (h : l + 2 ≤ r) (hm : r - l ≤ 2 ^ 0) : False := absurd (Nat.le_trans (Nat.le_sub_of_add_le (Nat.add_comm _ _ ▸ h)) hm) (by decide)
theorem shl_room {a b : Nat} (h1 : a ≤ 2 ^ 26) (h2 : b ≤ 2 ^ 26) : (a : Int) + (b : Int) ≤ 2 ^ 27 := Int.le_trans (Int.ofNat_le.mpr (Nat.add_le_add h1 h2)) (by decide)
theorem lt62 {l N : Nat} (h : l ≤ N) (hN : N ≤ 2 ^ 24) : l < 2 ^ 62 := Nat.lt_of_le_of_lt (Nat.le_trans h hN) (by decide)
noncomputable def bodyOf : Stmt → List Stmt
  | .FunctionDef _ _ b _ _ _ _ _ _ _ => b
  | _ => []
noncomputable def posOf : Stmt → Pos
  | .FunctionDef _ _ _ _ _ _ _ _ _ p => p
  | _ => default
noncomputable def inSt (p : Program) (i k : Nat) : Stmt := (bodyOf (stAt p i)).getD k (.Pass default)
noncomputable def inFd (st : Stmt) (qual : Str) (clos : List (Str × Addr)) (doc pm : Value) (c' : Addr) (ctv : Value) : FuncData := match st with
  | .FunctionDef name args body _ _ _ scope _ _ _ => fnX name qual args body scope clos .none .none doc pm none (.ref c') ctv
  | _ => default
noncomputable def inV (st : Stmt) (qual : Str) (clos : List (Str × Addr)) : Vp := match st with
  | .FunctionDef name args body _ _ _ scope _ _ _ => cloV name qual args body scope clos
  | _ => offV
def CellAt (clos : List (Str × Addr)) (h : Heap) (x : Str) (v : Value) : Prop := ∃ c, clos.lookup x = some c ∧ h.IsCell c (some v)
def ClosOk (clos : List (Str × Addr)) (Z : Fz) (h : Heap) : Prop := ∀ x a, clos.lookup x = some a → Z a = none ∧ ∃ v, h.IsCell a v
noncomputable abbrev clos3 (a b c : Str) (c1 c2 c3 : Addr) : List (Str × Addr) := [(a, c1), (b, c2), (c, c3)]
noncomputable def qi2d : Str := sQ "_int2digits.<locals>.inner"
noncomputable abbrev ci2d (c1 c2 c3 : Addr) : List (Str × Addr) := clos3 (sQ "n") (sQ "inner") (sQ "a_digits") c1 c2 c3
noncomputable abbrev vi2d (c1 c2 c3 : Addr) : Vp := inV (inSt pw 11 1) qi2d (ci2d c1 c2 c3)
section
variable {C : Cx}
def InnI (C : Cx) (c1 c2 c3 D : Addr) (nn : Nat) (d : Nat) : Prop :=
  ∀ (A : Around) (s : Shared) (Z : Fz) (v vi vn : Value) (vs : List Value) (x : Int) (l r : Nat) (ds : List PV) (Q : Value → Shared → Prop) (E : Value → Shared → Prop),
    Room (d + 2) A → Inv C Z s → (vi2d c1 c2 c3).at_ Z v → ClosOk (ci2d c1 c2 c3) Z s.heap → CellAt (ci2d c1 c2 c3) s.heap (sQ "a_digits") (.ref D) →
    CellAt (ci2d c1 c2 c3) s.heap (sQ "inner") vi → (vi2d c1 c2 c3).at_ Z vi → CellAt (ci2d c1 c2 c3) s.heap (sQ "n") vn → Rd Z vn (.int nn) →
    Owned Z s.heap (D, ds) → l < r → r ≤ ds.length → ds.length ≤ 2 ^ 24 → ds.length * nn ≤ 2 ^ 26 → r - l ≤ 2 ^ d → 0 ≤ x → Builtin.Int.intBits x ≤ 2 ^ 25 → RdL Z vs [.int x, .int l, .int r] →
    (∀ Z' s', StepX C (· = D) Z s Z' s' → Owned Z' s'.heap (D, ds.take l ++ (digR nn x (r - l)).map .int ++ ds.drop r) → Q .none s') → wpAny (model C.prog C.w) A (call v vs) Q E s
theorem ClosOk.of {fd : FuncData} {L f : Addr} {nm oc : List Str} {sc : List (Str × NameKind)} {X : Addr → Prop} {ρ : List (Option Vp)} {ω : List (Addr × List PV)} {κ : Addr → Option Obj} {Z : Fz} {h : Heap} (H : FSp (callEnv fd L f) nm oc sc X ρ ω κ Z h) : ClosOk fd.closure Z h := fun x a e => H.cells x a e
theorem CellAt.of {fd : FuncData} {L f : Addr} {h : Heap} {x : Str} {v : Value} (y : VarAt (callEnv fd L f) h x v) (hk : fd.scope.names.lookup x = some .free) : CellAt fd.closure h x v := by
  rcases y.2 with ⟨q, _⟩ | ⟨_, c, e, r⟩
  · have : (callEnv fd L f).kindOf x = fd.scope.names.lookup x := rfl
    rw [this, hk] at q; cases q
  · exact ⟨c, e, r⟩
noncomputable def ownAsn (C : Cx) (D : Addr) (ds : List PV) : Asn C := ⟨fun Z h => Owned Z h (D, ds), fun I h x => by
  obtain ⟨hz, vs, m, e, r⟩ := h
  exact ⟨x.stillNone hz e (fun q => q), vs, m, x.keep _ _ e (fun q => q) (I.tab_fields e fun ps q => by cases q), r.le x.le⟩⟩
theorem eg_run {n : Nat} {X : Addr → Prop} {env : Env} {nm oc : List Str} {sc : List (Str × NameKind)} {ρ : List (Option Vp)} {ω : List (Addr × List PV)} {κ : Addr → Option Obj} {t : Sem Flow} {RA : Fz → Heap → Value → Prop} {A : Around} {s : Shared} {Z : Fz} {Q : Flow → Shared → Prop} {E : Value → Shared → Prop} (Ψ : Asn C)
    (h : EXG C n X (FS C env nm oc sc X ρ ω κ) t Ψ RA) (hA : Room n A) (I : Inv C Z s) (H : FSp env nm oc sc X ρ ω κ Z s.heap)
    (kn : ∀ Z' s', StepX C X Z s Z' s' → Ψ.at_ Z' s'.heap → Q .next s') (kr : ∀ v Z' s', StepX C X Z s Z' s' → RA Z' s'.heap v → Q (.ret v) s') : wpAny (model C.prog C.w) A t Q E s := h A s Z Q E hA I H kn kr
theorem ex_i2d {c1 c2 c3 D : Addr} {nn d : Nat} (ih : InnI C c1 c2 c3 D nn d) {X : Addr → Prop} {env : Env} {nm oc : List Str} {sc : List (Str × NameKind)} {ρ : List (Option Vp)} {κ : Addr → Option Obj} {R : Vp} {e1 e2 e3 : Expr} {p cpos epos : Pos} {x : Int} {l r : Nat} {ds : List PV}
    (h0 : ∀ {Z h}, FSp env nm oc sc X ρ [(D, ds)] κ Z h → ClosOk (ci2d c1 c2 c3) Z h) (hc : ∀ {h x v}, x ∈ [sQ "a_digits", sQ "inner", sQ "n"] → VarAt env h x v → CellAt (ci2d c1 c2 c3) h x v)
    (h1 : At nm ρ (sQ "a_digits") (isv (.ref D))) (h2 : At nm ρ (sQ "inner") (vi2d c1 c2 c3)) (h3 : At nm ρ (sQ "n") (is (.int nn)))
    (he : EL C (d + 2) (FS C env nm oc sc X ρ [(D, ds)] κ) (spliced (backTo cpos (starEach [e1, e2, e3] env))) [is (.int x), is (.int l), is (.int r)])
    (hlr : l < r) (hr : r ≤ ds.length) (hdl : ds.length ≤ 2 ^ 24) (hdn : ds.length * nn ≤ 2 ^ 26) (hm : r - l ≤ 2 ^ d) (hx : 0 ≤ x) (hb : Builtin.Int.intBits x ≤ 2 ^ 25)
    (hst : starEach [e1, e2, e3] env = (false, eval e1 env) :: starEach [e2, e3] env := by rfl) (hi : interactive env = false := by rfl) :
    EX C (d + 2) X (FS C env nm oc sc X ρ [(D, ds)] κ) (exec (.Expr (.Call (.Name (sQ "inner") p) [e1, e2, e3] [] cpos) epos) env)
      (FS C env nm oc sc X ρ [(D, ds.take l ++ (digR nn x (r - l)).map .int ++ ds.drop r)] κ) R := fun A s Z Q E hA I H kn kr => by
  rw [PySem.exec_Expr (hi := hi) (hs := rfl)]
  refine wpAny_bind (wpAny_standAt (wpAny_bind (wpAny_Call_NameR (ev_name (n := d + 2) h2 A s Z _ E hA I H fun v Z₁ s₁ x₁ hv => ?_))))
  have H₁ := (FS C env nm oc sc X ρ [(D, ds)] κ).stable I H x₁
  obtain ⟨fa, doc, pm, c', ctv, rfl, hz, hci⟩ := id hv
  refine callWith_def (fd := inFd (inSt pw 11 1) qi2d (ci2d c1 c2 c3) doc pm c' ctv) rfl (he A s₁ Z₁ _ E hA x₁.inv H₁ fun vs Z₂ s₂ x₂ hs => ⟨x₂.inv.heap _ _ (x₂.le _ _ hz), ?_⟩) hst
  have H₂ := (FS C env nm oc sc X ρ [(D, ds)] κ).stable x₁.inv H₁ x₂
  obtain ⟨va, ya, pa⟩ := h1.var H₂.vars
  cases pa
  obtain ⟨vi, yi, pi⟩ := h2.var H₂.vars
  obtain ⟨vn, yn, pn⟩ := h3.var H₂.vars
  have q1 := hc (.head _) ya
  have q2 := hc (.tail _ (.head _)) yi
  have q3 := hc (.tail _ (.tail _ (.head _))) yn
  have q0 := h0 H₂
  refine ih A s₂ Z₂ (.ref fa) vi vn vs x l r ds _ _ hA x₂.inv (Vp.mono _ x₂.le hv) q0 q1 q2 pi q3 pn (H₂.own _ (.head _)) hlr hr hdl hdn hm hx hb (Sat.rd (ds := [.int x, .int l, .int r]) hs) fun Z₃ s₃ x₃ ho => ?_
  obtain ⟨st, H₃⟩ := H₂.reown x₂.inv .here x₃ ho
  rw [dropValue_plain (by intro _ q; cases q)]
  exact wpAny_pure (kn Z₃ s₃ (((Step.to x₁).trans (Step.to x₂)).trans st) H₃)
theorem inn_step (hq : Quiet C) (c1 c2 c3 D : Addr) (nn : Nat) (hap : (ci2d c1 c2 c3).Pairwise fun x y => x.2 ≠ y.2) (d : Nat) (hd : d ≤ 24) (ih : ∀ d', d = d' + 1 → InnI C c1 c2 c3 D nn d') : InnI C c1 c2 c3 D nn d := by
  intro A s Z v vi vn vs x l r ds Q E hA I hv hcl ca ci hvi cn hvn ho hlr hr hdl hdn hm hx hb hvs k
  obtain ⟨fa, doc, pm, c', ctv, rfl, hz, hci⟩ := hv
  obtain ⟨v1, _, rfl, p1, hvs⟩ := rdli hvs
  obtain ⟨v2, _, rfl, p2, hvs⟩ := rdli hvs
  obtain ⟨v3, _, rfl, p3, hvs⟩ := rdli hvs
  obtain rfl := rdli hvs
  refine clo_enter (n := d) (fd := inFd (inSt pw 11 1) qi2d (ci2d c1 c2 c3) doc pm c' ctv) (xs := [sQ "x", sQ "L", sQ "R"]) (oc := [sQ "x", sQ "L", sQ "R", sQ "mid", sQ "shift", sQ "upper", sQ "lower"])
    (nm := [sQ "x", sQ "L", sQ "R", sQ "mid", sQ "shift", sQ "upper", sQ "lower", sQ "a_digits", sQ "inner", sQ "n"])
    (ρ := [some (is (.int x)), some (is (.int l)), some (is (.int r)), none, none, none, none, some (isv (.ref D)), some (vi2d c1 c2 c3), some (is (.int nn))]) (ω := [(D, ds)]) (sc := (inFd (inSt pw 11 1) qi2d (ci2d c1 c2 c3) doc pm c' ctv).scope.names) hq I hA hz rfl rfl hci rfl rfl rfl rfl rfl rfl rfl rfl rfl (by decide +kernel) hap hcl ?_ ?_ ?_ ?_ rfl rfl rfl
  · intro p hp; cases List.mem_singleton.mp hp; exact ho
  · simp
  · intro L h' hn hk
    obtain ⟨ca1, ca2, ca3⟩ := ca
    obtain ⟨ci1, ci2, ci3⟩ := ci
    obtain ⟨cn1, cn2, cn3⟩ := cn
    have kc : ∀ {c : Addr} {v : Value}, s.heap.IsCell c (some v) → h'.IsCell c (some v) := fun ⟨o, e, r⟩ => ⟨o, hk _ _ e, r⟩
    refine .va ⟨by decide +kernel, .inl ⟨rfl, _, hn, rfl⟩⟩ p1 (.va ⟨by decide +kernel, .inl ⟨rfl, _, hn, rfl⟩⟩ p2 (.va ⟨by decide +kernel, .inl ⟨rfl, _, hn, rfl⟩⟩ p3 (.un (.un (.un (.un (.va ⟨by decide +kernel, .inr ⟨.inr rfl, ca1, ca2, kc ca3⟩⟩ rfl
      (.va ⟨by decide +kernel, .inr ⟨.inr rfl, ci1, ci2, kc ci3⟩⟩ hvi (.va ⟨by decide +kernel, .inr ⟨.inr rfl, cn1, cn2, kc cn3⟩⟩ hvn .nil)))))))))
  · intro L X A' s₁ E' hA' I₁ st hX H
    refine eg_run (RA := fun Z h v => v = .none ∧ Owned Z h (D, ds.take l ++ (digR nn x (r - l)).map .int ++ ds.drop r)) (ownAsn C D (ds.take l ++ (digR nn x (r - l)).map .int ++ ds.drop r)) ?_ hA' I₁ H (fun Z' s' x' H' => ?_) fun v Z' s' x' ra => ?_
    rotate_left
    · exact k Z' s' (((Step.to st).trans x').hideY fun b hb => (hX b hb).imp id fun q => by simpa using q) H'
    · rw [ra.1]
      exact k Z' s' (((Step.to st).trans x').hideY fun b hb => (hX b hb).imp id fun q => by simpa using q) ra.2
    · clear k H
      apply eg_ifs
      · walk_at "ev"
      · intro hc
        have hrl := one_of (by simpa using hc)
        subst hrl
        apply eg_cons
        · apply ex_setitem
          · walk_at "at"
          · walk_at "ev"
          · walk_at "ev"
          · exact OU.here
          · exact hr
          · exact lt62 (Nat.le_of_lt hr) hdl
          · exact rfl
        apply eg_ret0
        intro Z h H
        refine ⟨rfl, ?_⟩
        have := H.own _ (.head _)
        rw [List.set_eq_take_append_cons_drop, if_pos (Nat.lt_of_succ_le hr)] at this
        rw [Nat.add_sub_cancel_left, digR_one, List.map_cons, List.map_nil, List.append_assoc, List.singleton_append]
        exact this
      · intro hc
        have hrl := two_of hlr (by simpa using hc)
        cases d with
        | zero => exact (no_two hrl hm).elim
        | succ d =>
        have ih := ih d rfl
        obtain ⟨m, hh, M⟩ := half_of (nn := nn) hrl hr hdl hm
        have hlen : (ds.take l ++ (digR nn (lo x (m * nn)) (l + m - l)).map PV.int ++ ds.drop (l + m)).length = ds.length := by
          rw [List.length_append, List.length_append, List.length_take, List.length_drop, List.length_map, M.ml, digR_len _ _ M.m1]; exact M.sz
        apply eg_cons
        · apply ex_assign
          · apply ev_d
            · apply ev_bin
              · walk_at "ev"
              · walk_at "ev"
              · apply op_shr_int (by decide)
            · exact congrArg PV.int M.em
          · walk_at "at"
          · exact ⟨by decide +kernel, by decide +kernel⟩
          · exact rfl
          · exact rfl
        apply eg_cons
        · apply ex_assign
          · apply ev_d
            · apply ev_bin
              · walk_at "ev"
              · walk_at "ev"
              · apply op_mul_int (mulOk_l M.ok)
            · exact congrArg PV.int M.es
          · walk_at "at"
          · exact ⟨by decide +kernel, by decide +kernel⟩
          · exact rfl
          · exact rfl
        apply eg_cons
        · apply ex_assign
          · apply ev_d (d' := .int (sh x (m * nn)))
            · apply ev_bin
              · walk_at "ev"
              · walk_at "ev"
              · apply op_shr_int (Int.natCast_nonneg _)
            · rfl
          · walk_at "at"
          · exact ⟨by decide +kernel, by decide +kernel⟩
          · exact rfl
          · exact rfl
        apply eg_cons
        · apply ex_assign
          · apply ev_d (d' := .int (lo x (m * nn)))
            · apply ev_bin
              · walk_at "ev"
              · apply ev_bin
                · walk_at "ev"
                · walk_at "ev"
                · apply op_shl_int (Int.natCast_nonneg _)
                  exact shl_room (Nat.le_trans (Nat.le_trans (bits_mono (sh_nonneg (s := m * nn) hx) (sh_le hx)) hb) (by decide)) (Nat.le_trans (Nat.mul_le_mul_right _ M.mN) hdn)
              · walk_at "op"
            · rfl
          · walk_at "at"
          · exact ⟨by decide +kernel, by decide +kernel⟩
          · exact rfl
          · exact rfl
        apply eg_cons
        · apply ex_i2d ih
          · intro Z h H; exact ClosOk.of H
          · intro h x v hm y
            simp only [List.mem_cons, List.not_mem_nil, or_false] at hm
            rcases hm with rfl | rfl | rfl <;> exact CellAt.of y rfl
          · walk_at "at"
          · walk_at "at"
          · walk_at "at"
          · walk_at "ev"
          · exact M.ll
          · exact M.ln
          · exact hdl
          · exact hdn
          · exact M.q1
          · exact lo_nonneg hx
          · exact Nat.le_trans (bits_mono (lo_nonneg hx) (lo_le hx)) hb
        apply eg_cons
        · apply ex_i2d ih
          · intro Z h H; exact ClosOk.of H
          · intro h x v hm y
            simp only [List.mem_cons, List.not_mem_nil, or_false] at hm
            rcases hm with rfl | rfl | rfl <;> exact CellAt.of y rfl
          · walk_at "at"
          · walk_at "at"
          · walk_at "at"
          · walk_at "ev"
          · exact M.lr
          · rw [hlen]; exact hr
          · rw [hlen]; exact hdl
          · rw [hlen]; exact hdn
          · exact M.q2
          · exact sh_nonneg hx
          · exact Nat.le_trans (bits_mono (sh_nonneg hx) (sh_le hx)) hb
        apply eg_end
        intro Z h H
        have ho := H.own _ (.head _)
        have hs := seg_join (ds := ds) (D1 := (digR nn (lo x (m * nn)) m).map PV.int) (l := l) (m := m) (r := r) M.l0 (by rw [List.length_map, digR_len _ _ M.m1]) M.le
        show Owned Z h (D, _)
        rw [M.ml, hs.1, hs.2] at ho
        rw [digR_two M.k2, hh, List.map_append, ← List.append_assoc (ds.take l)]
        rw [Nat.sub_add_eq] at ho
        exact ho
theorem inn_i2d (hq : Quiet C) (c1 c2 c3 D : Addr) (nn : Nat) (hap : (ci2d c1 c2 c3).Pairwise fun x y => x.2 ≠ y.2) : ∀ d, d ≤ 24 → InnI C c1 c2 c3 D nn d := by
  intro d
  induction d with
  | zero => exact fun hd => inn_step hq c1 c2 c3 D nn hap 0 hd fun d' h => nomatch h
  | succ d ih =>
    intro hd
    refine inn_step hq c1 c2 c3 D nn hap (d + 1) hd fun d' h => ?_
    cases h
    exact ih (Nat.le_of_succ_le hd)
end
inductive NestAt (C : Cx) (p : Program) (i k : Nat) (x qual : Str) : Prop where
  | mk (f : Addr) (doc pm : Value) (c P : Addr) (g : GlobZ C x (.ref f)) (z : C.Z0 f = some { cls := .type "function", data := .func (fdOf (stAt p i) x doc pm (.ref c)) }) (cz : CodeZ C (.ref c) x)
    (hd : HdZ C c P) (m : (P, posOf (inSt p i k), qual) ∈ C.tabs) (u : ∀ t ∈ C.tabs, t.1 = P → t = (P, posOf (inSt p i k), qual))
noncomputable def qd2i : Str := sQ "_digits2int.<locals>.inner"
structure DigK (C : Cx) : Prop where
  q : Quiet C
  B : TopB C
  len : BltZ C (sQ "len") (.builtin "len")
  divmod : BltZ C (sQ "divmod") (.builtin "divmod")
  reversed : BltZ C (sQ "reversed") (.type "reversed")
  lim : GlobD C (sQ "_DIV_LIMIT") (.int 4000)
  i2d : NestAt C pw 11 1 (sQ "_int2digits") qi2d
  d2i : NestAt C pw 12 0 (sQ "_digits2int") qd2i
  d2n1n : DefAt C pw 9 (sQ "_div2n1n")
  dpos : DefAt C pw 13 (sQ "_divmod_pos")
  idm : DefAt C pw 14 (sQ "int_divmod")
noncomputable def digM (n : Nat) (a : Int) : Nat := (Builtin.Int.intBits a + n - 1) / n
noncomputable def digF (n : Nat) (a : Int) : List Int := if a = 0 then [] else digR n a (digM n a)
theorem look3 {a b c x : Str} {c1 c2 c3 y : Addr} (e : (clos3 a b c c1 c2 c3).lookup x = some y) : (x = a ∧ y = c1) ∨ (x = b ∧ y = c2) ∨ (x = c ∧ y = c3) := by
  rw [List.lookup_cons, List.lookup_cons, List.lookup_cons] at e
  by_cases h1 : x = a
  · subst h1; simp at e; exact .inl ⟨rfl, e.symm⟩
  · have h1' : (x == a) = false := by simpa using h1
    rw [h1'] at e
    by_cases h2 : x = b
    · subst h2; simp at e; exact .inr (.inl ⟨rfl, e.symm⟩)
    · have h2' : (x == b) = false := by simpa using h2
      rw [h2'] at e
      by_cases h3 : x = c
      · subst h3; simp at e; exact .inr (.inr ⟨rfl, e.symm⟩)
      · have h3' : (x == c) = false := by simpa using h3
        rw [h3'] at e; cases e
section
variable {C : Cx}
theorem d_i2d (K : DigK C) (a : Int) (n : Nat) (ha : 0 ≤ a) (hn : 1 ≤ n) (hb : Builtin.Int.intBits a ≤ 2 ^ 23) (hnn : n ≤ 2 ^ 23) : DefC C 27 (sQ "_int2digits") [is (.int a), is (.int n)] (is (li (digF n a))) := by
  obtain ⟨f, doc, pm, c, P, hg, ho, hcd, hH, hT, hu⟩ := K.i2d
  have g1 := K.len
  have hm0 : digM n a * n ≤ Builtin.Int.intBits a + n - 1 := Nat.div_mul_le_self _ _
  have hm1 : digM n a ≤ digM n a * n := Nat.le_mul_of_pos_right _ hn
  refine ⟨f, hg, ⟨_, _, ho, rfl⟩, fn_def (n := 25) (sc := scOf (stAt pw 11)) (ρ := [some (is (.int a)), some (is (.int n)), none, none]) (nm := [sQ "a", sQ "n", sQ "a_digits", sQ "inner"]) (xs := [sQ "a", sQ "n"]) K.q ho rfl hcd rfl rfl rfl rfl rfl (bnd2 fun _ _ => by kernel_rfl) rfl (by decide +kernel) (by decide +kernel) (by decide +kernel) (by decide +kernel) rfl fun L X => ?_⟩
  apply ex_new (ρ := fun _ => []) (ρ' := fun D => [some (is (.int a)), some (is (.int n)), some (isv (.ref D)), none]) (ds := List.replicate (digM n a) (.int 0))
  · apply evn_rep
    · walk_at "ev"
    · apply ev_d
      · apply ev_bin
        · apply ev_bin
          · apply ev_bin
            · apply ev_meth0
              · walk_at "ev"
              · exact hasM_bitlen
              · exact fn_bitlen
              · exact rfl
              · exact rfl
            · walk_at "ev"
            · walk_at "op"
          · walk_at "ev"
          · walk_at "op"
        · walk_at "ev"
        · apply op_div_int
          · lia
          · exact PyProof.noPylong_small (by lia)
      · show PV.int _ = PV.int (digM n a)
        congr 1
        rw [Int.fdiv_eq_ediv_of_nonneg _ (by lia)]
        unfold digM
        generalize Builtin.Int.intBits a = b
        rw [Int.natCast_ediv]
        congr 1
        lia
    · lia
  · intro D; exact .there (.there .here)
  · decide +kernel
  · decide +kernel
  · exact rfl
  · intro D
    apply ex_cons
    · apply ex_nest (clos := ci2d (L + 1) (L + 3) (L + 2)) (ρ' := [some (is (.int a)), some (is (.int n)), some (isv (.ref D)), some (vi2d (L + 1) (L + 3) (L + 2))]) K.B hH hT hu
      · exact rfl
      · exact rfl
      · kernel_rfl
      · exact rfl
      · exact rfl
      · exact rfl
      · exact .there (.there (.there .here))
      · decide +kernel
      · decide +kernel
    have hap : (ci2d (L + 1) (L + 3) (L + 2)).Pairwise fun x y => x.2 ≠ y.2 := by simp
    have ih := inn_i2d K.q (L + 1) (L + 3) (L + 2) D n hap 24 (Nat.le_refl _)
    apply ex_ifs
    · apply tv_int
      · walk_at "ev"
      · intro _; rfl
    · intro hc
      have hc : a ≠ 0 := by simpa using hc
      have hbp : 1 ≤ Builtin.Int.intBits a := by unfold Builtin.Int.intBits; simp [hc]
      have hmp : 1 ≤ digM n a := Nat.div_pos (by lia) hn
      show EX _ _ _ _ (execs (_ :: _) _) _ _
      apply ex_cons
      · apply ex_i2d (x := a) (l := 0) (r := digM n a) ih
        · intro Z h H x y e
          rcases look3 e with ⟨rfl, rfl⟩ | ⟨rfl, rfl⟩ | ⟨rfl, rfl⟩
          · exact H.cells (sQ "n") (L + 1) rfl
          · exact H.cells (sQ "inner") (L + 3) rfl
          · exact H.cells (sQ "a_digits") (L + 2) rfl
        · intro h x v hm y
          simp only [List.mem_cons, List.not_mem_nil, or_false] at hm
          rcases hm with rfl | rfl | rfl
          · rcases y.2 with ⟨q, _⟩ | ⟨_, c, e, r⟩
            · cases q
            · exact ⟨c, e, r⟩
          · rcases y.2 with ⟨q, _⟩ | ⟨_, c, e, r⟩
            · cases q
            · exact ⟨c, e, r⟩
          · rcases y.2 with ⟨q, _⟩ | ⟨_, c, e, r⟩
            · cases q
            · exact ⟨c, e, r⟩
        · walk_at "at"
        · walk_at "at"
        · walk_at "at"
        · apply el_cons
          · walk_at "ev"
          · apply el_cons
            · apply ev_d
              · walk_at "ev"
              · rfl
            · apply el_cons
              · apply ev_d
                · apply ev_len_own (ds := List.replicate (digM n a) (.int 0)) g1
                  · walk_at "at"
                  · exact .head _
                  · rw [List.length_replicate]; lia
                  · exact rfl
                · rw [List.length_replicate]
              · walk_at "ev"
              · exact rfl
            · exact rfl
          · exact rfl
        · lia
        · rw [List.length_replicate]; exact Nat.le_refl _
        · rw [List.length_replicate]; lia
        · rw [List.length_replicate]; lia
        · lia
        · exact ha
        · lia
      apply ex_freeze .here (.same (.same (.it (.same .nil))))
      apply ex_ret
      apply ev_d
      · walk_at "ev"
      · show PV.list _ = _
        rw [digF, if_neg hc, List.take_zero, List.nil_append, Nat.sub_zero, List.drop_eq_nil_of_le (by rw [List.length_replicate]; exact Nat.le_refl _), List.append_nil]
    · intro hc
      have hc : a = 0 := by simpa using hc
      subst hc
      show EX _ _ _ _ (execs (_ :: _) _) _ _
      apply ex_freeze .here (.same (.same (.it (.same .nil))))
      apply ex_ret
      apply ev_d
      · walk_at "ev"
      · have : digM n 0 = 0 := by
          unfold digM
          show (0 + n - 1) / n = 0
          exact Nat.div_eq_of_lt (by lia)
        rw [this]; rfl
end
noncomputable def valD (n : Nat) : List Int → Int
  | [] => 0
  | d :: r => d + 2 ^ n * valD n r
theorem val_app (n : Nat) : ∀ a b : List Int, valD n (a ++ b) = valD n a + 2 ^ (n * a.length) * valD n b
  | [], b => by simp [valD]
  | d :: a, b => by
    rw [List.cons_append, valD, valD, val_app n a b, List.length_cons, Nat.mul_succ, Nat.add_comm, Int.pow_add, Int.mul_add, Int.mul_assoc]
    lia
noncomputable def seg (ds : List Int) (l r : Nat) : List Int := (ds.drop l).take (r - l)
theorem seg_len {ds : List Int} {l r : Nat} (h : r ≤ ds.length) : (seg ds l r).length = r - l := by
  unfold seg; rw [List.length_take, List.length_drop]; exact Nat.min_eq_left (Nat.sub_le_sub_right h l)
theorem seg_cut {ds : List Int} {l m r : Nat} (h1 : l ≤ m) (h2 : m ≤ r) : seg ds l r = seg ds l m ++ seg ds m r := by
  unfold seg
  have e : r - l = (m - l) + (r - m) := by rw [Nat.add_comm, Nat.sub_add_sub_cancel h2 h1]
  rw [e, List.take_add, List.drop_drop]
  rw [Nat.add_sub_cancel' h1]
theorem seg_one {ds : List Int} {l : Nat} {d : Int} (h : ds[l]? = some d) : seg ds l (l + 1) = [d] := by
  unfold seg
  have hl : l < ds.length := (List.getElem?_eq_some_iff.mp h).1
  rw [Nat.add_sub_cancel_left, List.drop_eq_getElem_cons hl]
  rw [List.getElem?_eq_getElem hl] at h
  cases h; rfl
theorem val_seg {n : Nat} {ds : List Int} {l m r : Nat} (h1 : l ≤ m) (h2 : m ≤ r) (h3 : r ≤ ds.length) : valD n (seg ds l r) = valD n (seg ds m r) * 2 ^ ((m - l) * n) + valD n (seg ds l m) := by
  rw [seg_cut h1 h2, val_app, seg_len (by lia), Nat.mul_comm, Int.mul_comm, Int.add_comm]
noncomputable abbrev cd2i (c1 c2 c3 : Addr) : List (Str × Addr) := clos3 (sQ "n") (sQ "inner") (sQ "digits") c1 c2 c3
noncomputable abbrev vd2i (c1 c2 c3 : Addr) : Vp := inV (inSt pw 12 0) qd2i (cd2i c1 c2 c3)
section
variable {C : Cx}
def InnD (C : Cx) (c1 c2 c3 : Addr) (nn : Nat) (ds : List Int) (d : Nat) : Prop :=
  ∀ (A : Around) (s : Shared) (Z : Fz) (v vi vn vd : Value) (vs : List Value) (l r : Nat) (Q : Value → Shared → Prop) (E : Value → Shared → Prop),
    Room (d + 2) A → Inv C Z s → (vd2i c1 c2 c3).at_ Z v → ClosOk (cd2i c1 c2 c3) Z s.heap → CellAt (cd2i c1 c2 c3) s.heap (sQ "digits") vd → Rd Z vd (li ds) →
    CellAt (cd2i c1 c2 c3) s.heap (sQ "inner") vi → (vd2i c1 c2 c3).at_ Z vi → CellAt (cd2i c1 c2 c3) s.heap (sQ "n") vn → Rd Z vn (.int nn) →
    l < r → r ≤ ds.length → r - l ≤ 2 ^ d → RdL Z vs [.int l, .int r] →
    (∀ v Z' s', Step C Z s Z' s' → Rd Z' v (.int (valD nn (seg ds l r))) → Q v s') → wpAny (model C.prog C.w) A (call v vs) Q E s
theorem ev_d2i {c1 c2 c3 : Addr} {nn d : Nat} {ds : List Int} (ih : InnD C c1 c2 c3 nn ds d) {X : Addr → Prop} {env : Env} {nm oc : List Str} {sc : List (Str × NameKind)} {ρ : List (Option Vp)} {ω : List (Addr × List PV)} {κ : Addr → Option Obj} {e1 e2 : Expr} {p cpos : Pos} {l r : Nat}
    (h0 : ∀ {Z h}, FSp env nm oc sc X ρ ω κ Z h → ClosOk (cd2i c1 c2 c3) Z h) (hc : ∀ {h x v}, x ∈ [sQ "digits", sQ "inner", sQ "n"] → VarAt env h x v → CellAt (cd2i c1 c2 c3) h x v)
    (h1 : At nm ρ (sQ "digits") (is (li ds))) (h2 : At nm ρ (sQ "inner") (vd2i c1 c2 c3)) (h3 : At nm ρ (sQ "n") (is (.int nn)))
    (he : EL C (d + 2) (FS C env nm oc sc X ρ ω κ) (spliced (backTo cpos (starEach [e1, e2] env))) [is (.int l), is (.int r)])
    (hlr : l < r) (hr : r ≤ ds.length) (hm : r - l ≤ 2 ^ d)
    (hst : starEach [e1, e2] env = (false, eval e1 env) :: starEach [e2] env := by rfl) :
    EV C (d + 2) (FS C env nm oc sc X ρ ω κ) (eval (.Call (.Name (sQ "inner") p) [e1, e2] [] cpos) env) (is (.int (valD nn (seg ds l r)))) := fun A s Z Q E hA I H k => by
  refine wpAny_Call_NameR (ev_name (n := d + 2) h2 A s Z _ E hA I H fun v Z₁ s₁ x₁ hv => ?_)
  have H₁ := (FS C env nm oc sc X ρ ω κ).stable I H x₁
  obtain ⟨fa, doc, pm, c', ctv, rfl, hz, hci⟩ := id hv
  refine callWith_def (fd := inFd (inSt pw 12 0) qd2i (cd2i c1 c2 c3) doc pm c' ctv) rfl (he A s₁ Z₁ _ E hA x₁.inv H₁ fun vs Z₂ s₂ x₂ hs => ⟨x₂.inv.heap _ _ (x₂.le _ _ hz), ?_⟩) hst
  have H₂ := (FS C env nm oc sc X ρ ω κ).stable x₁.inv H₁ x₂
  obtain ⟨va, ya, pa⟩ := h1.var H₂.vars
  obtain ⟨vi, yi, pi⟩ := h2.var H₂.vars
  obtain ⟨vn, yn, pn⟩ := h3.var H₂.vars
  have q1 := hc (.head _) ya
  have q2 := hc (.tail _ (.head _)) yi
  have q3 := hc (.tail _ (.tail _ (.head _))) yn
  exact ih A s₂ Z₂ (.ref fa) vi vn va vs l r _ _ hA x₂.inv (Vp.mono _ x₂.le hv) (h0 H₂) q1 pa q2 pi q3 pn hlr hr hm (Sat.rd (ds := [.int l, .int r]) hs) fun v Z₃ s₃ x₃ pv => k v Z₃ s₃ ((x₁.trans x₂).trans x₃) pv
theorem seq_nat {l N : Nat} (h : l < N) : seqIndex? (l : Int) N = some l := by
  unfold seqIndex?
  have h0 : ¬ (l : Int) < 0 := Int.not_lt.mpr (Int.natCast_nonneg _)
  simp [h0, h]
theorem ind_step (hq : Quiet C) (c1 c2 c3 : Addr) (nn : Nat) (ds : List Int) (hap : (cd2i c1 c2 c3).Pairwise fun x y => x.2 ≠ y.2) (hdl : ds.length ≤ 2 ^ 24) (hdn : ds.length * nn ≤ 2 ^ 26) (hB : ∀ l r, r ≤ ds.length → Builtin.Int.intBits (valD nn (seg ds l r)) ≤ 2 ^ 26)
    (d : Nat) (hd : d ≤ 24) (ih : ∀ d', d = d' + 1 → InnD C c1 c2 c3 nn ds d') : InnD C c1 c2 c3 nn ds d := by
  intro A s Z v vi vn vd vs l r Q E hA I hv hcl ca hvd ci hvi cn hvn hlr hr hm hvs k
  obtain ⟨fa, doc, pm, c', ctv, rfl, hz, hci⟩ := hv
  obtain ⟨v1, _, rfl, p1, hvs⟩ := rdli hvs
  obtain ⟨v2, _, rfl, p2, hvs⟩ := rdli hvs
  obtain rfl := rdli hvs
  refine clo_enter (n := d) (fd := inFd (inSt pw 12 0) qd2i (cd2i c1 c2 c3) doc pm c' ctv) (xs := [sQ "L", sQ "R"]) (oc := [sQ "L", sQ "R", sQ "mid", sQ "shift"])
    (nm := [sQ "L", sQ "R", sQ "mid", sQ "shift", sQ "digits", sQ "inner", sQ "n"])
    (ρ := [some (is (.int l)), some (is (.int r)), none, none, some (is (li ds)), some (vd2i c1 c2 c3), some (is (.int nn))]) (ω := []) (sc := (inFd (inSt pw 12 0) qd2i (cd2i c1 c2 c3) doc pm c' ctv).scope.names) hq I hA hz rfl rfl hci rfl rfl rfl rfl rfl rfl rfl rfl rfl (by decide +kernel) hap hcl (fun _ h => nomatch h) List.Pairwise.nil ?_ ?_ rfl rfl rfl
  · intro L h' hn hk
    obtain ⟨ca1, ca2, ca3⟩ := ca
    obtain ⟨ci1, ci2, ci3⟩ := ci
    obtain ⟨cn1, cn2, cn3⟩ := cn
    have kc : ∀ {c : Addr} {v : Value}, s.heap.IsCell c (some v) → h'.IsCell c (some v) := fun ⟨o, e, r⟩ => ⟨o, hk _ _ e, r⟩
    refine .va ⟨by decide +kernel, .inl ⟨rfl, _, hn, rfl⟩⟩ p1 (.va ⟨by decide +kernel, .inl ⟨rfl, _, hn, rfl⟩⟩ p2 (.un (.un (.va ⟨by decide +kernel, .inr ⟨.inr rfl, ca1, ca2, kc ca3⟩⟩ hvd
      (.va ⟨by decide +kernel, .inr ⟨.inr rfl, ci1, ci2, kc ci3⟩⟩ hvi (.va ⟨by decide +kernel, .inr ⟨.inr rfl, cn1, cn2, kc cn3⟩⟩ hvn .nil))))))
  · intro L X A' s₁ E' hA' I₁ st hX H
    refine eg_run (RA := fun Z h v => Rd Z v (.int (valD nn (seg ds l r)))) (botA C) ?_ hA' I₁ H (fun Z' s' x' H' => H'.elim) fun v Z' s' x' ra => ?_
    rotate_left
    · exact k v Z' s' (((Step.to st).trans x').hide fun b hb => (hX b hb).elim id fun q => nomatch q) ra
    · clear k H
      apply eg_ifs
      · walk_at "ev"
      · intro hc
        have hrl := one_of (by simpa using hc)
        subst hrl
        have hlt : l < ds.length := hr
        have hget : ds[l]? = some ds[l] := List.getElem?_eq_getElem hlt
        apply eg_ret (P := is (.int ds[l]))
        · apply ev_sub
          · walk_at "ev"
          · walk_at "ev"
          · apply op_item_list (j := l)
            · rw [List.length_map]; exact seq_nat hlt
            · rw [List.getElem?_map, hget]; rfl
            · rw [List.length_map]; exact lt62 (Nat.le_refl _) hdl
        · intro Z h v H p
          rw [seg_one hget]
          show Rd Z v (.int (ds[l] + 2 ^ nn * 0))
          rw [Int.mul_zero, Int.add_zero]; exact p
      · intro hc
        have hrl := two_of hlr (by simpa using hc)
        cases d with
        | zero => exact (no_two hrl hm).elim
        | succ d =>
        have ih := ih d rfl
        obtain ⟨m, hh, M⟩ := half_of (nn := nn) hrl hr hdl hm
        apply eg_cons
        · apply ex_assign
          · apply ev_d
            · apply ev_bin
              · walk_at "ev"
              · walk_at "ev"
              · apply op_shr_int (by decide)
            · exact congrArg PV.int M.em
          · walk_at "at"
          · exact ⟨by decide +kernel, by decide +kernel⟩
          · exact rfl
          · exact rfl
        apply eg_cons
        · apply ex_assign
          · apply ev_d
            · apply ev_bin
              · walk_at "ev"
              · walk_at "ev"
              · apply op_mul_int (mulOk_l M.ok)
            · exact congrArg PV.int M.es
          · walk_at "at"
          · exact ⟨by decide +kernel, by decide +kernel⟩
          · exact rfl
          · exact rfl
        apply eg_ret (P := is (.int (valD nn (seg ds l r))))
        · apply ev_d
          · apply ev_bin
            · apply ev_bin
              · apply ev_d2i ih
                · intro Z h H; exact ClosOk.of H
                · intro h x v hm y
                  simp only [List.mem_cons, List.not_mem_nil, or_false] at hm
                  rcases hm with rfl | rfl | rfl <;> exact CellAt.of y rfl
                · walk_at "at"
                · walk_at "at"
                · walk_at "at"
                · walk_at "ev"
                · exact M.lr
                · exact hr
                · exact M.q2
              · walk_at "ev"
              · apply op_shl_int (Int.natCast_nonneg _)
                exact shl_room (hB (l + m) r hr) (Nat.le_trans (Nat.mul_le_mul_right _ M.mN) hdn)
            · apply ev_d2i ih
              · intro Z h H; exact ClosOk.of H
              · intro h x v hm y
                simp only [List.mem_cons, List.not_mem_nil, or_false] at hm
                rcases hm with rfl | rfl | rfl <;> exact CellAt.of y rfl
              · walk_at "at"
              · walk_at "at"
              · walk_at "at"
              · walk_at "ev"
              · exact M.ll
              · exact M.ln
              · exact M.q1
            · walk_at "op"
          · have := val_seg (n := nn) (ds := ds) (Nat.le_add_right l m) M.le hr
            rw [M.ml] at this
            rw [this]
            show PV.int (_ * 2 ^ (((m * nn : Nat) : Int)).toNat + _) = _
            rw [Int.toNat_natCast]
        · intro Z h v H p
          exact p
theorem ind_all (hq : Quiet C) (c1 c2 c3 : Addr) (nn : Nat) (ds : List Int) (hap : (cd2i c1 c2 c3).Pairwise fun x y => x.2 ≠ y.2) (hdl : ds.length ≤ 2 ^ 24) (hdn : ds.length * nn ≤ 2 ^ 26) (hB : ∀ l r, r ≤ ds.length → Builtin.Int.intBits (valD nn (seg ds l r)) ≤ 2 ^ 26) :
    ∀ d, d ≤ 24 → InnD C c1 c2 c3 nn ds d := by
  intro d
  induction d with
  | zero => exact fun hd => ind_step hq c1 c2 c3 nn ds hap hdl hdn hB 0 hd fun d' h => by lia
  | succ d ih =>
    intro hd
    refine ind_step hq c1 c2 c3 nn ds hap hdl hdn hB (d + 1) hd fun d' h => ?_
    cases h
    exact ih (Nat.le_of_succ_le hd)
theorem d_d2i (K : DigK C) (ds : List Int) (n : Nat) (hdl : ds.length ≤ 2 ^ 24) (hdn : ds.length * n ≤ 2 ^ 26) (hB : ∀ l r, r ≤ ds.length → Builtin.Int.intBits (valD n (seg ds l r)) ≤ 2 ^ 26) :
    DefC C 27 (sQ "_digits2int") [is (li ds), is (.int n)] (is (.int (valD n ds))) := by
  obtain ⟨f, doc, pm, c, P, hg, ho, hcd, hH, hT, hu⟩ := K.d2i
  have g1 := K.len
  refine ⟨f, hg, ⟨_, _, ho, rfl⟩, fn_def (n := 25) (sc := scOf (stAt pw 12)) (ρ := [some (is (li ds)), some (is (.int n)), none]) (nm := [sQ "digits", sQ "n", sQ "inner"]) (xs := [sQ "digits", sQ "n"]) K.q ho rfl hcd rfl rfl rfl rfl rfl (bnd2 fun _ _ => by kernel_rfl) rfl (by decide +kernel) (by decide +kernel) (by decide +kernel) (by decide +kernel) rfl fun L X => ?_⟩
  apply ex_cons
  · apply ex_nest (clos := cd2i (L + 2) (L + 3) (L + 1)) (ρ' := [some (is (li ds)), some (is (.int n)), some (vd2i (L + 2) (L + 3) (L + 1))]) K.B hH hT hu
    · exact rfl
    · exact rfl
    · kernel_rfl
    · exact rfl
    · exact rfl
    · exact rfl
    · exact .there (.there .here)
    · decide +kernel
    · decide +kernel
  have hap : (cd2i (L + 2) (L + 3) (L + 1)).Pairwise fun x y => x.2 ≠ y.2 := by simp
  have ih := ind_all K.q (L + 2) (L + 3) (L + 1) n ds hap hdl hdn hB 24 (Nat.le_refl _)
  apply ex_ret
  apply ev_ifexp
  · apply tv_list
    · walk_at "ev"
    · rw [List.length_map]; exact lt62 (Nat.le_refl _) hdl
    · intro _; rfl
  · intro hc
    have hl : 0 < ds.length := by
      cases ds with
      | nil => cases hc
      | cons a b => exact Nat.succ_pos _
    apply ev_d
    · apply ev_d2i (l := 0) (r := ds.length) ih
      · intro Z h H x y e
        rcases look3 e with ⟨rfl, rfl⟩ | ⟨rfl, rfl⟩ | ⟨rfl, rfl⟩
        · exact H.cells (sQ "n") (L + 2) rfl
        · exact H.cells (sQ "inner") (L + 3) rfl
        · exact H.cells (sQ "digits") (L + 1) rfl
      · intro h x v hm y
        simp only [List.mem_cons, List.not_mem_nil, or_false] at hm
        rcases hm with rfl | rfl | rfl
        · rcases y.2 with ⟨q, _⟩ | ⟨_, c, e, r⟩
          · cases q
          · exact ⟨c, e, r⟩
        · rcases y.2 with ⟨q, _⟩ | ⟨_, c, e, r⟩
          · cases q
          · exact ⟨c, e, r⟩
        · rcases y.2 with ⟨q, _⟩ | ⟨_, c, e, r⟩
          · cases q
          · exact ⟨c, e, r⟩
      · walk_at "at"
      · walk_at "at"
      · walk_at "at"
      · apply el_cons
        · apply ev_d
          · walk_at "ev"
          · rfl
        · apply el_cons
          · apply ev_d
            · apply ev_callBt
              · exact g1
              · walk_at "ev"
              · exact fn_len_list (by rw [List.length_map]; exact lt62 (Nat.le_refl _) hdl)
              · exact rfl
              · exact rfl
              · exact rfl
              · exact rfl
            · rw [List.length_map]
          · walk_at "ev"
          · exact rfl
        · exact rfl
      · exact hl
      · exact Nat.le_refl _
      · lia
    · unfold seg
      rw [List.drop_zero, Nat.sub_zero, List.take_length]
  · intro hc
    have : ds = [] := by
      cases ds with
      | nil => rfl
      | cons a b => cases hc
    subst this
    apply ev_d
    · walk_at "ev"
    · rfl
end
theorem pow_pos2 (n : Nat) : (0 : Int) < 2 ^ n := Int.pow_pos (by decide)
theorem val_nn {n : Nat} : ∀ {ds : List Int}, (∀ d ∈ ds, 0 ≤ d) → 0 ≤ valD n ds
  | [], _ => Int.le_refl 0
  | d :: ds, h => by
    have h1 := h d (.head _)
    have h2 := val_nn (n := n) (ds := ds) fun x hx => h x (.tail _ hx)
    have h3 := Int.mul_nonneg (Int.le_of_lt (pow_pos2 n)) h2
    exact Int.add_nonneg h1 h3
theorem val_drop {n : Nat} {ds : List Int} (h : ∀ d ∈ ds, 0 ≤ d) (k : Nat) : valD n (ds.drop k) ≤ valD n ds := by
  have e := val_app n (ds.take k) (ds.drop k)
  rw [List.take_append_drop] at e
  have h1 := val_nn (n := n) (ds := ds.take k) fun x hx => h x (List.mem_of_mem_take hx)
  have h2 := val_nn (n := n) (ds := ds.drop k) fun x hx => h x (List.mem_of_mem_drop hx)
  have h3 := pow_pos2 (n * (ds.take k).length)
  have h4 : 1 * valD n (ds.drop k) ≤ 2 ^ (n * (ds.take k).length) * valD n (ds.drop k) := Int.mul_le_mul_of_nonneg_right h3 h2
  rw [Int.one_mul] at h4
  rw [e]
  exact Int.le_trans h4 (Int.le_add_of_nonneg_left h1)
theorem val_take {n : Nat} {ds : List Int} (h : ∀ d ∈ ds, 0 ≤ d) (k : Nat) : valD n (ds.take k) ≤ valD n ds := by
  have e := val_app n (ds.take k) (ds.drop k)
  rw [List.take_append_drop] at e
  have h2 := val_nn (n := n) (ds := ds.drop k) fun x hx => h x (List.mem_of_mem_drop hx)
  have h4 := Int.mul_nonneg (Int.le_of_lt (pow_pos2 (n * (ds.take k).length))) h2
  rw [e]
  exact Int.le_add_of_nonneg_right h4
theorem val_seg_le {n : Nat} {ds : List Int} (h : ∀ d ∈ ds, 0 ≤ d) (l r : Nat) : 0 ≤ valD n (seg ds l r) ∧ valD n (seg ds l r) ≤ valD n ds :=
  ⟨val_nn fun x hx => h x (List.mem_of_mem_drop (List.mem_of_mem_take hx)), Int.le_trans (val_take (fun x hx => h x (List.mem_of_mem_drop hx)) _) (val_drop h l)⟩
theorem digR_ok (n : Nat) : ∀ (m : Nat) (x : Int), 1 ≤ m → 0 ≤ x → (∀ d ∈ digR n x m, 0 ≤ d) ∧ valD n (digR n x m) = x := by
  intro m
  induction m using Nat.strongRecOn with
  | ind m ih =>
    intro x h hx
    by_cases h1 : m = 1
    · subst h1; rw [digR_one]; exact ⟨fun d hd => by rw [List.mem_singleton.mp hd]; exact hx, by show x + 2 ^ n * 0 = x; rw [Int.mul_zero, Int.add_zero]⟩
    · obtain ⟨h2, a, b, c, d⟩ := halves h h1
      rw [digR_two h2]
      have p1 := ih (m / 2) a (lo x (m / 2 * n)) b (lo_nonneg hx)
      have p2 := ih (m - m / 2) c (sh x (m / 2 * n)) d (sh_nonneg hx)
      refine ⟨fun d hd => (List.mem_append.mp hd).elim (p1.1 d) (p2.1 d), ?_⟩
      rw [val_app, p1.2, p2.2, digR_len _ _ b, lo_eq hx, Nat.mul_comm n]
      unfold sh
      rw [fdiv_pow]
      exact Int.emod_add_mul_ediv _ _
theorem digM_pos {n : Nat} {a : Int} (hn : 1 ≤ n) (ha : a ≠ 0) : 1 ≤ digM n a := by
  have hbp : 1 ≤ Builtin.Int.intBits a := by unfold Builtin.Int.intBits; simp [ha]
  exact Nat.div_pos (Nat.le_sub_of_add_le (Nat.add_comm n 1 ▸ Nat.add_le_add_right hbp n)) hn
theorem digF_ok {n : Nat} {a : Int} (hn : 1 ≤ n) (ha : 0 ≤ a) : (∀ d ∈ digF n a, 0 ≤ d) ∧ valD n (digF n a) = a := by
  unfold digF
  by_cases h : a = 0
  · rw [if_pos h]; exact ⟨(fun d hd => nomatch hd), h.symm⟩
  · rw [if_neg h]; exact digR_ok n _ a (digM_pos hn h) ha
theorem digF_len {n : Nat} {a : Int} (hn : 1 ≤ n) : (digF n a).length ≤ digM n a := by
  unfold digF
  by_cases h : a = 0
  · rw [if_pos h]; exact Nat.zero_le _
  · rw [if_neg h, digR_len _ _ (digM_pos hn h)]; exact Nat.le_refl _
noncomputable def stepQ (n : Nat) (b : Int) (σ : Int × List Int) (d : Int) : Int × List Int := ((σ.1 * 2 ^ n + d).fmod b, σ.2 ++ [(σ.1 * 2 ^ n + d).fdiv b])
noncomputable def runQ (n : Nat) (b : Int) : List Int → Int × List Int
  | [] => (0, [])
  | d :: ds => stepQ n b (runQ n b ds) d
theorem runQ_ok {n : Nat} {b : Int} (hb : 0 < b) : ∀ {ds : List Int}, (∀ d ∈ ds, 0 ≤ d) → valD n (runQ n b ds).2.reverse * b + (runQ n b ds).1 = valD n ds ∧ 0 ≤ (runQ n b ds).1 ∧ (runQ n b ds).1 < b ∧ (runQ n b ds).2.length = ds.length ∧ ∀ q ∈ (runQ n b ds).2, 0 ≤ q
  | [], _ => ⟨by simp [runQ, valD], Int.le_refl 0, hb, rfl, fun q h => nomatch h⟩
  | d :: ds, h => by
    obtain ⟨i1, i2, i3, i4, i5⟩ := runQ_ok (n := n) hb (ds := ds) fun x hx => h x (.tail _ hx)
    have hd := h d (.head _)
    rw [runQ]
    generalize runQ n b ds = σ at i1 i2 i3 i4 i5
    obtain ⟨r, qs⟩ := σ
    simp only [stepQ] at i1 i2 i3 i4 i5 ⊢
    have ht : 0 ≤ r * 2 ^ n + d := Int.add_nonneg (Int.mul_nonneg i2 (Int.le_of_lt (pow_pos2 n))) hd
    have e := Int.mul_fdiv_add_fmod (r * 2 ^ n + d) b
    have hq : 0 ≤ (r * 2 ^ n + d).fdiv b := Int.fdiv_nonneg ht (Int.le_of_lt hb)
    refine ⟨?_, Int.fmod_nonneg_of_pos _ hb, Int.fmod_lt_of_pos _ hb, by simp [i4], fun q hq' => ?_⟩
    · rw [List.reverse_append, List.reverse_singleton, List.singleton_append, valD, valD, ← i1]
      generalize (r * 2 ^ n + d).fdiv b = q at e
      generalize (r * 2 ^ n + d).fmod b = f at e
      generalize valD n qs.reverse = v
      generalize (2 : Int) ^ n = p at e
      rw [Int.add_mul, Int.mul_add, ← Int.mul_assoc p v b, Int.mul_comm p r, Int.mul_comm q b]
      lia
    · rcases List.mem_append.mp hq' with hq' | hq'
      · exact i5 q hq'
      · rw [List.mem_singleton.mp hq']; exact hq
theorem nopy {x y : Int} (h : Builtin.Int.intBits x ≤ Builtin.Int.intBits y + 4000) : Builtin.divisionGoesByPylong x y = false := by
  unfold Builtin.divisionGoesByPylong
  unfold Builtin.Int.intBits at h
  by_cases hx : x = 0
  · subst hx; simp
  · by_cases hy : y = 0
    · subst hy; simp
    · simp only [beq_iff_eq, hx, hy, if_false] at h ⊢
      rw [Bool.and_eq_false_iff]
      right
      rw [decide_eq_false_iff_not]
      lia
section
variable {C : Cx}
theorem d_d2n1n (K : DigK C) (a b : Int) (n : Nat) (hb : b ≠ 0) (h1 : Builtin.Int.intBits a ≤ n + 4000) (h2 : Builtin.divisionGoesByPylong a b = false) : DefC C 2 (sQ "_div2n1n") [is (.int a), is (.int b), is (.int n)] (is (.tup [.int (a.fdiv b), .int (a.fmod b)])) := by
  obtain ⟨f, q, doc, pm, cd, hg, ho, hcd⟩ := K.d2n1n
  have g1 := K.lim
  have g2 := K.divmod
  refine ⟨f, hg, ⟨_, _, ho, rfl⟩, fn_def (n := 0) (sc := scOf (stAt pw 9)) (ρ := [some (is (.int a)), some (is (.int b)), some (is (.int n))]) (nm := [sQ "a", sQ "b", sQ "n"]) (xs := [sQ "a", sQ "b", sQ "n"]) K.q ho rfl hcd rfl rfl rfl rfl rfl (bnd3 fun _ _ _ => by kernel_rfl) rfl (by decide +kernel) (by decide +kernel) (by decide +kernel) (by decide +kernel) rfl fun L X => ?_⟩
  apply ex_ifs
  · apply tv_cmp
    · apply ev_bin
      · apply ev_meth0
        · walk_at "ev"
        · exact hasM_bitlen
        · exact fn_bitlen
        · exact rfl
        · exact rfl
      · walk_at "ev"
      · walk_at "op"
    · walk_at "ev"
    · walk_at "op"
    · exact rfl
  · intro _
    show EX _ _ _ _ (execs (_ :: _) _) _ _
    apply ex_ret
    apply ev_callBt
    · exact g2
    · walk_at "ev"
    · exact fn_divmod hb h2
    · exact rfl
    · exact rfl
    · exact rfl
    · exact rfl
  · intro h
    rw [decide_eq_false_iff_not] at h
    lia
local macro_rules | `(tactic| walk_at "def") => `(tactic| fail)
theorem drop_rev {l : List Int} {i : Nat} {k : Int} (h : l.reverse[i]? = some k) : l.drop (l.length - (i + 1)) = k :: l.drop (l.length - i) := by
  have hi : i < l.length := by have := (List.getElem?_eq_some_iff.mp h).1; simpa using this
  have hj : l.length - (i + 1) < l.length := Nat.sub_lt (Nat.lt_of_le_of_lt (Nat.zero_le _) hi) (Nat.succ_pos i)
  rw [List.drop_eq_getElem_cons hj, show l.length - (i + 1) + 1 = l.length - i from Nat.sub_add_cancel (Nat.sub_pos_of_lt hi)]
  rw [List.getElem?_eq_getElem (by simpa using hi), List.getElem_reverse] at h
  cases h
  congr 2
  rw [Nat.add_comm i 1]; exact Nat.sub_add_eq ..
noncomputable def stQ (n : Nat) (b : Int) (ds : List Int) (i : Nat) : Int × List Int := runQ n b (ds.drop (ds.length - i))
theorem stQ_facts {n : Nat} {a b : Int} (hb : 0 < b) {ds : List Int} (hd : ∀ d ∈ ds, 0 ≤ d) (hv : valD n ds = a) {i : Nat} {k : Int} (hk : ds.reverse[i]? = some k) :
    stQ n b ds (i + 1) = stepQ n b (stQ n b ds i) k ∧ (stQ n b ds i).2.length ≤ ds.length ∧ Builtin.Int.intBits ((stQ n b ds i).1 * 2 ^ n + k) ≤ Builtin.Int.intBits a ∧ Builtin.Int.intBits (stQ n b ds i).1 ≤ Builtin.Int.intBits b := by
  have edr := drop_rev hk
  have ok1 := runQ_ok (n := n) hb (ds := ds.drop (ds.length - i)) fun x hx => hd x (List.mem_of_mem_drop hx)
  have hk0 : 0 ≤ k := hd k (by have := List.mem_of_getElem? hk; simpa using this)
  have vle : valD n (k :: ds.drop (ds.length - i)) ≤ a := by
    rw [← edr, ← hv]; exact val_drop hd _
  refine ⟨by unfold stQ; rw [edr]; rfl, ?_, ?_, bits_mono ok1.2.1 (Int.le_of_lt ok1.2.2.1)⟩
  · unfold stQ
    rw [ok1.2.2.2.1, List.length_drop]; exact Nat.sub_le _ _
  · have hv0 : 0 ≤ valD n (runQ n b (ds.drop (ds.length - i))).2.reverse * b := Int.mul_nonneg (val_nn fun x hx => ok1.2.2.2.2 x (by simpa using hx)) (Int.le_of_lt hb)
    have h3 : (stQ n b ds i).1 ≤ valD n (ds.drop (ds.length - i)) := ok1.1 ▸ Int.le_add_of_nonneg_left hv0
    refine bits_mono (Int.add_nonneg (Int.mul_nonneg ok1.2.1 (Int.le_of_lt (pow_pos2 n))) hk0) (Int.le_trans ?_ vle)
    rw [Int.add_comm, valD, Int.mul_comm]
    exact Int.add_le_add_left (Int.mul_le_mul_of_nonneg_left h3 (Int.le_of_lt (pow_pos2 n))) k
theorem div_uniq {a b q r : Int} (hb : 0 < b) (h1 : q * b + r = a) (h2 : 0 ≤ r) (h3 : r < b) : q = a.fdiv b ∧ r = a.fmod b := by
  have e : a = r + q * b := by rw [← h1, Int.add_comm]
  have hf : r.fdiv b = 0 := by rw [Int.fdiv_eq_ediv_of_nonneg _ (Int.le_of_lt hb)]; exact Int.ediv_eq_zero_of_lt h2 h3
  have e1 : q = a.fdiv b := by rw [e, Int.add_mul_fdiv_right _ _ (Int.ne_of_gt hb), hf, Int.zero_add]
  have e2 := Int.mul_fdiv_add_fmod a b
  rw [← e1, Int.mul_comm] at e2
  exact ⟨e1, Int.add_left_cancel (h1.trans e2.symm)⟩
theorem pos_room {A n M L : Nat} (hn : 1 ≤ n) (h1 : A ≤ n + 4000) (h2 : n ≤ 2 ^ 22) (hm : M * n ≤ A + n - 1) (hl : L ≤ M) : A ≤ 2 ^ 23 ∧ n ≤ 2 ^ 23 ∧ L ≤ 2 ^ 24 ∧ L * n ≤ 2 ^ 26 := by
  have a1 : L * n ≤ 2 ^ 24 := Nat.le_trans (Nat.mul_le_mul_right _ hl) (Nat.le_trans hm (Nat.le_trans (Nat.sub_le _ _) (Nat.le_trans (Nat.add_le_add (Nat.le_trans h1 (Nat.add_le_add_right h2 _)) h2) (by decide))))
  exact ⟨Nat.le_trans h1 (Nat.le_trans (Nat.add_le_add_right h2 _) (by decide)), Nat.le_trans h2 (by decide), Nat.le_trans (Nat.le_mul_of_pos_right _ hn) a1, Nat.le_trans a1 (by decide)⟩
theorem d_dpos (K : DigK C) (a b : Int) (ha : 0 ≤ a) (hb : 0 < b) (h1 : Builtin.Int.intBits a ≤ Builtin.Int.intBits b + 4000) (h2 : Builtin.Int.intBits b ≤ 2 ^ 22) :
    DefC C 29 (sQ "_divmod_pos") [is (.int a), is (.int b)] (is (.tup [.int (a.fdiv b), .int (a.fmod b)])) := by
  obtain ⟨f, q, doc, pm, cd, hg, ho, hcd⟩ := K.dpos
  have g1 := K.reversed
  have hnb : ¬ b = 0 := Int.ne_of_gt hb
  have hn : 1 ≤ Builtin.Int.intBits b := by unfold Builtin.Int.intBits; simp [hnb]
  obtain ⟨n, en⟩ : ∃ n, n = Builtin.Int.intBits b := ⟨_, rfl⟩
  rw [← en] at hn h2 h1
  have dok := digF_ok (n := n) hn ha
  obtain ⟨a23, n23, L24, Ln⟩ := pos_room (M := digM n a) hn h1 h2 (Nat.div_mul_le_self _ _) (digF_len (n := n) (a := a) hn)
  generalize hds : digF n a = ds at dok L24 Ln
  have rok := runQ_ok (n := n) hb dok.1
  refine ⟨f, hg, ⟨_, _, ho, rfl⟩, fn_def (n := 27) (sc := scOf (stAt pw 13)) (ρ := [some (is (.int a)), some (is (.int b)), none, none, none, none, none, none, none]) (nm := [sQ "a", sQ "b", sQ "n", sQ "a_digits", sQ "r", sQ "q_digits", sQ "a_digit", sQ "q_digit", sQ "q"]) (xs := [sQ "a", sQ "b"]) K.q ho rfl hcd rfl rfl rfl rfl rfl (bnd2 fun _ _ => by kernel_rfl) rfl (by decide +kernel) (by decide +kernel) (by decide +kernel) (by decide +kernel) rfl fun L X => ?_⟩
  apply ex_cons
  · apply ex_assign (P := is (.int n))
    · rw [en]
      apply ev_meth0
      · walk_at "ev"
      · exact hasM_bitlen
      · exact fn_bitlen
      · exact rfl
      · exact rfl
    · walk_at "at"
    · decide +kernel
    · decide +kernel
    · exact rfl
  apply ex_cons
  · apply ex_assign (P := is (li ds))
    · rw [← hds]
      apply ev_callD
      · walk_at "ev"
      · exact d_i2d K a n ha hn a23 n23
      · decide
      · exact rfl
      · exact rfl
      · exact rfl
    · walk_at "at"
    · decide +kernel
    · decide +kernel
    · exact rfl
  walk_at "asn"
  apply ex_new (ρ := fun _ => []) (ρ' := fun Q => [some (is (.int a)), some (is (.int b)), some (is (.int n)), some (is (li ds)), some (is (.int 0)), some (isv (.ref Q)), none, none, none]) (ds := [])
  · apply evn_listL
    · walk_at "ev"
    · walk_at "at"
    · exact Nat.le_of_ble_eq_true rfl
  · intro Q; exact .there (.there (.there (.there (.there .here))))
  · decide +kernel
  · decide +kernel
  · exact rfl
  · intro Q
    have st0 : stQ n b ds 0 = (0, []) := by
      unfold stQ
      rw [Nat.sub_zero, List.drop_length]; rfl
    apply exs_for (ds := ds.reverse.map .int) (ρs := fun i => [some (is (.int a)), some (is (.int b)), some (is (.int n)), some (is (li ds)), some (is (.int (stQ n b ds i).1)), some (isv (.ref Q)), none, none, none]) (ωs := fun i => [(Q, (stQ n b ds i).2.map .int)])
    · rw [st0]
    · rw [st0]; rfl
    · apply it_eq
      · apply it_callTt
        · exact g1
        · walk_at "ev"
        · exact fi_rev
        · exact rfl
        · exact rfl
        · exact rfl
        · exact rfl
      · rw [List.map_reverse]
    · intro i; rfl
    · intro κ' i d hd
      rw [List.getElem?_map] at hd
      cases hki : ds.reverse[i]? with
      | none => rw [hki] at hd; cases hd
      | some k =>
        rw [hki] at hd; cases hd
        obtain ⟨es, hlen, hbt, hbr⟩ := stQ_facts (n := n) hb dok.1 dok.2 hki
        rw [es]
        generalize stQ n b ds i = w at hlen hbt hbr
        obtain ⟨r, qs⟩ := w
        simp only at hlen hbt hbr
        apply ex_mk
        · walk_at "at"
        apply ex_cons
        · apply ex_asgU (d := .tup [.int ((r * 2 ^ n + k).fdiv b), .int ((r * 2 ^ n + k).fmod b)])
          · apply ev_callD
            · apply el_cons
              · apply ev_bin
                · apply ev_bin
                  · walk_at "ev"
                  · walk_at "ev"
                  · apply op_shl_int (Int.natCast_nonneg _)
                    exact shl_room (Nat.le_trans hbr (en ▸ Nat.le_trans h2 (by decide))) (Nat.le_trans h2 (by decide))
                · walk_at "ev"
                · walk_at "op"
              · walk_at "ev"
              · exact rfl
            · show DefC C _ _ [is (.int (r * 2 ^ ((n : Int)).toNat + k)), _, _] _
              rw [Int.toNat_natCast]
              exact d_d2n1n K _ b n hnb (Nat.le_trans hbt h1) (nopy (Nat.le_trans hbt (en ▸ h1)))
            · decide
            · exact rfl
            · exact rfl
            · exact rfl
          · walk_at "at"
          · exact rfl
          · exact rfl
        apply ex_cons
        · apply ex_append (d := .int ((r * 2 ^ n + k).fdiv b)) (ds := qs.map .int)
          · walk_at "at"
          · walk_at "ev"
          · exact OU.here
          · rw [List.length_map, sizeLine_eq]; exact Nat.le_trans hlen L24
        show EX _ _ _ (FS _ _ _ _ _ _ _ [(Q, qs.map PV.int ++ [.int ((r * 2 ^ n + k).fdiv b)])] _) _ (FS _ _ _ _ _ _ _ [(Q, (qs ++ [(r * 2 ^ n + k).fdiv b]).map .int)] _) _
        rw [List.map_append]
        apply ex_fgt
        walk_at "fgtd"
    · show EX _ _ _ (FS _ _ _ _ _ _ [_, _, _, _, some (is (.int (stQ n b ds (ds.reverse.map PV.int).length).1)), _, _, _, _] [(Q, (stQ n b ds (ds.reverse.map PV.int).length).2.map .int)] _) _ _ _
      have efin : stQ n b ds (ds.reverse.map PV.int).length = runQ n b ds := by
        unfold stQ
        rw [List.length_map, List.length_reverse, Nat.sub_self, List.drop_zero]
      rw [efin]
      generalize runQ n b ds = w at rok
      obtain ⟨r, qs⟩ := w
      simp only at rok ⊢
      obtain ⟨r1, r2, r3, r4, r5⟩ := rok
      have hq0 := val_nn (n := n) (ds := qs.reverse) fun x hx => r5 x (by simpa using hx)
      rw [dok.2] at r1
      have eq1 := div_uniq hb r1 r2 r3
      have hqa : valD n qs.reverse ≤ a := by
        have h3 : valD n qs.reverse * 1 ≤ valD n qs.reverse * b := Int.mul_le_mul_of_nonneg_left hb hq0
        rw [Int.mul_one] at h3
        exact r1 ▸ Int.le_trans h3 (Int.le_add_of_nonneg_right r2)
      apply ex_cons
      · apply ex_reverse (ds := qs.map .int)
        · walk_at "at"
        · exact OU.here
        · rw [List.length_map, sizeLine_eq, r4]; exact L24
      apply ex_freeze .here (.same (.same (.same (.same (.same (.it (.same (.same (.same .nil)))))))))
      rw [← List.map_reverse]
      apply ex_cons
      · apply ex_assign (P := is (.int (valD n qs.reverse)))
        · apply ev_callD
          · walk_at "ev"
          · apply d_d2i K
            · rw [List.length_reverse, r4]; exact L24
            · rw [List.length_reverse, r4]; exact Ln
            · intro l r hr
              have hs := val_seg_le (n := n) (ds := qs.reverse) (fun x hx => r5 x (by simpa using hx)) l r
              exact Nat.le_trans (bits_mono hs.1 (Int.le_trans hs.2 hqa)) (Nat.le_trans a23 (by decide))
          · decide
          · exact rfl
          · exact rfl
          · exact rfl
        · walk_at "at"
        · decide +kernel
        · decide +kernel
        · exact rfl
      walk_at "ret"
      rw [eq1.1, eq1.2]
end
theorem bits_neg {a : Int} : Builtin.Int.intBits (-a) = Builtin.Int.intBits a := by
  unfold Builtin.Int.intBits
  rw [Int.natAbs_neg]
  by_cases h : a = 0
  · subst h; rfl
  · have : ¬ -a = 0 := by lia
    simp [h, this]
theorem bits_not {a : Int} (h : a < 0) : Builtin.Int.intBits (Builtin.bitNot a) ≤ Builtin.Int.intBits a := by
  rw [← bits_neg (a := a)]
  show Builtin.Int.intBits (-a - 1) ≤ _
  exact bits_mono (by lia) (by lia)
section
variable {C : Cx}
theorem DefC.le {m n : Nat} {x : Str} {Ps : List Vp} {R : Vp} (h : m ≤ n) (D : DefC C m x Ps R) : DefC C n x Ps R := by
  obtain ⟨f, a, b, c⟩ := D; exact ⟨f, a, b, c.le h⟩
noncomputable abbrev qrT (a b : Int) : PV := .tup [.int (a.fdiv b), .int (a.fmod b)]
theorem d_idm1 (K : DigK C) (a b : Int) (ha : 0 ≤ a) (hb : 0 < b) (h1 : Builtin.Int.intBits a ≤ Builtin.Int.intBits b + 4000) (h2 : Builtin.Int.intBits b ≤ 2 ^ 22) :
    DefC C 30 (sQ "int_divmod") [is (.int a), is (.int b)] (is (qrT a b)) := by
  obtain ⟨f, q, doc, pm, cd, hg, ho, hcd⟩ := K.idm
  refine ⟨f, hg, ⟨_, _, ho, rfl⟩, fn_def (n := 28) (sc := scOf (stAt pw 14)) (ρ := [some (is (.int a)), some (is (.int b))]) (nm := [sQ "a", sQ "b"]) (xs := [sQ "a", sQ "b"]) K.q ho rfl hcd rfl rfl rfl rfl rfl (bnd2 fun _ _ => by kernel_rfl) rfl (by decide +kernel) (by decide +kernel) (by decide +kernel) (by decide +kernel) rfl fun L X => ?_⟩
  walk_at "if"
  · intro h; rw [beq_iff_eq] at h; lia
  intro _
  walk_at "if"
  · intro h; rw [decide_eq_true_eq] at h; lia
  intro _
  walk_at "if"
  · intro h; rw [decide_eq_true_eq] at h; lia
  intro _
  apply ex_ret
  apply ev_callD
  · walk_at "ev"
  · exact d_dpos K a b ha hb h1 h2
  · decide
  · exact rfl
  · exact rfl
  · exact rfl
theorem qr_uniq {a b q r : Int} (hb : 0 < b) (h : b * q + r = a) (h0 : 0 ≤ r) (h1 : r < b) : q = a.fdiv b ∧ r = a.fmod b := by
  have e1 := Int.mul_fdiv_add_fmod a b
  have e2 := Int.fmod_nonneg_of_pos a hb
  have e3 := Int.fmod_lt_of_pos a hb
  generalize a.fdiv b = q' at e1
  generalize a.fmod b = r' at e1 e2 e3
  have e4 : b * (q - q') = r' - r := by rw [Int.mul_sub]; lia
  have e5 : q - q' = 0 := by
    rcases Int.lt_trichotomy (q - q') 0 with h | h | h
    · have : b * (q - q') ≤ b * (-1) := Int.mul_le_mul_of_nonneg_left (by lia) (Int.le_of_lt hb)
      lia
    · exact h
    · have : b * 1 ≤ b * (q - q') := Int.mul_le_mul_of_nonneg_left (by lia) (Int.le_of_lt hb)
      lia
  rw [e5] at e4
  constructor <;> lia
theorem d_idm2 (K : DigK C) (a b : Int) (hb : 0 < b) (h1 : Builtin.Int.intBits a ≤ Builtin.Int.intBits b + 4000) (h2 : Builtin.Int.intBits b ≤ 2 ^ 22) :
    DefC C 31 (sQ "int_divmod") [is (.int a), is (.int b)] (is (qrT a b)) := by
  by_cases ha : 0 ≤ a
  · exact (d_idm1 K a b ha hb h1 h2).le (by decide)
  have hn : Builtin.Int.intBits (Builtin.bitNot a) ≤ Builtin.Int.intBits b + 4000 := Nat.le_trans (bits_not (by lia)) h1
  have hp : 0 ≤ Builtin.bitNot a := by show 0 ≤ -a - 1; lia
  have D := d_idm1 K (Builtin.bitNot a) b hp hb hn h2
  obtain ⟨f, q, doc, pm, cd, hg, ho, hcd⟩ := K.idm
  refine ⟨f, hg, ⟨_, _, ho, rfl⟩, fn_def (n := 29) (sc := scOf (stAt pw 14)) (ρ := [some (is (.int a)), some (is (.int b)), none, none]) (nm := [sQ "a", sQ "b", sQ "q", sQ "r"]) (xs := [sQ "a", sQ "b"]) K.q ho rfl hcd rfl rfl rfl rfl rfl (bnd2 fun _ _ => by kernel_rfl) rfl (by decide +kernel) (by decide +kernel) (by decide +kernel) (by decide +kernel) rfl fun L X => ?_⟩
  walk_at "if"
  · intro h; rw [beq_iff_eq] at h; lia
  intro _
  walk_at "if"
  · intro h; rw [decide_eq_true_eq] at h; lia
  intro _
  walk_at "if"
  rotate_left
  · intro h; rw [decide_eq_false_iff_not] at h; lia
  intro _
  apply ex_cons
  · apply ex_asgU
    · apply ev_callD
      · walk_at "ev"
      · exact D
      · decide
      · exact rfl
      · exact rfl
      · exact rfl
    · walk_at "at"
    · exact rfl
    · exact rfl
  walk_at "ret"
  have e1 := Int.mul_fdiv_add_fmod (Builtin.bitNot a) b
  have e2 := Int.fmod_nonneg_of_pos (Builtin.bitNot a) hb
  have e3 := Int.fmod_lt_of_pos (Builtin.bitNot a) hb
  generalize (Builtin.bitNot a).fdiv b = q' at e1 ⊢
  generalize (Builtin.bitNot a).fmod b = r' at e1 e2 e3 ⊢
  have ea : Builtin.bitNot a = -a - 1 := rfl
  rw [ea] at e1
  have u := qr_uniq (q := Builtin.bitNot q') (r := b + Builtin.bitNot r') (a := a) hb (by
    show b * (-q' - 1) + (b + (-r' - 1)) = a
    rw [Int.mul_sub, Int.mul_neg, Int.mul_one]; lia) (by show 0 ≤ b + (-r' - 1); lia) (by show b + (-r' - 1) < b; lia)
  rw [u.1, u.2]
theorem d_idm (K : DigK C) (a b : Int) (hb : b ≠ 0) (h1 : Builtin.Int.intBits a ≤ Builtin.Int.intBits b + 4000) (h2 : Builtin.Int.intBits b ≤ 2 ^ 22) :
    DefC C 32 (sQ "int_divmod") [is (.int a), is (.int b)] (is (qrT a b)) := by
  by_cases hp : 0 < b
  · exact (d_idm2 K a b hp h1 h2).le (by decide)
  have D := d_idm2 K (-a) (-b) (by lia) (by rw [bits_neg, bits_neg]; exact h1) (by rw [bits_neg]; exact h2)
  obtain ⟨f, q, doc, pm, cd, hg, ho, hcd⟩ := K.idm
  refine ⟨f, hg, ⟨_, _, ho, rfl⟩, fn_def (n := 30) (sc := scOf (stAt pw 14)) (ρ := [some (is (.int a)), some (is (.int b)), none, none]) (nm := [sQ "a", sQ "b", sQ "q", sQ "r"]) (xs := [sQ "a", sQ "b"]) K.q ho rfl hcd rfl rfl rfl rfl rfl (bnd2 fun _ _ => by kernel_rfl) rfl (by decide +kernel) (by decide +kernel) (by decide +kernel) (by decide +kernel) rfl fun L X => ?_⟩
  walk_at "if"
  · intro h; rw [beq_iff_eq] at h; lia
  intro _
  walk_at "if"
  rotate_left
  · intro h; rw [decide_eq_false_iff_not] at h; lia
  intro _
  apply ex_cons
  · apply ex_asgU
    · apply ev_callD
      · walk_at "ev"
      · exact D
      · decide
      · exact rfl
      · exact rfl
      · exact rfl
    · walk_at "at"
    · exact rfl
    · exact rfl
  walk_at "ret"
  rw [Int.neg_fdiv_neg, Int.neg_fmod_neg, Int.neg_neg]
end
section
local macro_rules | `(tactic| walk_at "def") => `(tactic| first | ((with_reducible apply d_round); assumption))
noncomputable def sp10 (S : Nat → V3) : List V3 := (List.range 10).map S
noncomputable def wyS (S : Nat → V3) (i : Nat) : V3 := sub3 (S (i + 1)) (S i)
noncomputable def neg3 (v : V3) : V3 := (-v.1, -v.2.1, -v.2.2)
noncomputable def tri3 (v w : V3) : V3 := (3 * v.1 + w.1, 3 * v.2.1 + w.2.1, 3 * v.2.2 + w.2.2)
noncomputable def eqV (v w : V3) : Bool := v.1 == w.1 && (v.2.1 == w.2.1 && v.2.2 == w.2.2)
noncomputable def kkL (S : Nat → V3) (i : Nat) : List Int := ([0, 1, 2] : List Int).filter fun k => eqV (rnd (wyS S 0) k) (wyS S i)
noncomputable def kkS (S : Nat → V3) (i : Nat) : Int := (kkL S i).headD 0
noncomputable def farC (f0 f1 : Int) (c : V3) : V3 := if (f0 == f1) = true then neg3 (rnd c (2 - f0)) else c
noncomputable def farS (f0 f1 : Int) (S : Nat → V3) (σ : V3 × V3 × Int) (i : Nat) : V3 × V3 × Int :=
  (tri3 (farC f0 f1 σ.1) (rnd (sub3 (S i) (S 0)) σ.2.2), rnd (wyS S i) σ.2.2, σ.2.2 + kkS S i)
noncomputable def farD (n : Nat) : List Nat := [n / 729, n / 81 % 9, n / 9 % 9, n % 9]
noncomputable def farSt (f0 f1 : Int) (S : Nat → V3) (n : Nat) : Nat → V3 × V3 × Int
  | 0 => ((0, 0, 0), (0, 0, 0), 0)
  | i + 1 => farS f0 f1 S (farSt f0 f1 S n i) ((farD n).getD i 0)
noncomputable def farF (f0 f1 : Int) (S : Nat → V3) (n : Nat) : V3 := mid3 (S 0) (farSt f0 f1 S n 4).1 (farSt f0 f1 S n 4).2.1
theorem farD_lt {n : Nat} (h : n < 6561) (i : Nat) : (farD n).getD i 0 < 9 := by
  unfold farD
  rcases i with _ | _ | _ | _ | i <;> simp <;> lia
theorem eqN_v3 {v w : V3} : eqN 1 (v3 v) (v3 w) = eqV v w := by
  show (true && (_ == _ && (_ == _ && (_ == _ && true)))) = _
  rw [Bool.true_and, Bool.and_true]; rfl
theorem seq_at {l N : Nat} (h : l < N) : seqIndex? (l : Int) N = some l := by
  unfold seqIndex?
  simp only [show ¬ ((l : Int) < 0) from by lia, if_false]
  rw [if_pos (by simp; lia)]; rfl
theorem S_at {S : Nat → V3} {i : Nat} (h : i < 10) : ((sp10 S).map v3)[i]? = some (v3 (S i)) := by
  rw [sp10, List.map_map, List.getElem?_map, List.getElem?_range h]; rfl
theorem wy_at {S : Nat → V3} {i : Nat} (h : i < 9) : ((List.range 9).map fun i => v3 (wyS S i))[i]? = some (v3 (wyS S i)) := by
  rw [List.getElem?_map, List.getElem?_range h]; rfl
theorem zip_sp {S : Nat → V3} : zipL ((sp10 S).map v3) (pickL ((sp10 S).map v3) (some 1) none none) = (List.range 9).map fun i => .tup [v3 (S i), v3 (S (i + 1))] := by kernel_rfl
section
variable {C : Cx}
theorem ex_consF {n : Nat} {X : Addr → Prop} {env : Env} {nm oc : List Str} {sc : List (Str × NameKind)} {ω : List (Addr × List PV)} {κ : Addr → Option Obj} {ρ ρ₂ : List (Option Vp)} {R : Vp} {st : Stmt} {rest : List Stmt} {Θ : Asn C} (h1 : EX C n X (FS C env nm oc sc X ρ ω κ) (exec st env) (FS C env nm oc sc X ρ₂ ω κ) R) (h2 : EX C n X (FS C env nm oc sc X ρ₂ ω κ) (execs rest env) Θ R) : EX C n X (FS C env nm oc sc X ρ ω κ) (execs (st :: rest) env) Θ R := ex_cons h1 h2
theorem qr_of {a b q r : Int} (h : a = b * q + r) (hr : (0 ≤ r ∧ r < b) ∨ (b < r ∧ r ≤ 0)) : qrT a b = .tup [.int q, .int r] := by
  have h1 : a.fdiv b = q ∧ a.fmod b = r := by
    rcases hr with ⟨h1, h2⟩ | ⟨h1, h2⟩
    · have e1 := Int.fdiv_eq_ediv_of_nonneg a (show 0 ≤ b by lia)
      have e2 := Int.fmod_eq_emod_of_nonneg a (show 0 ≤ b by lia)
      rw [e1, e2, h, Int.mul_add_ediv_left _ _ (by lia), Int.mul_add_emod_self_left, Int.ediv_eq_zero_of_lt h1 h2, Int.emod_eq_of_lt h1 h2]
      exact ⟨Int.add_zero _, rfl⟩
    · have e1 := Int.neg_fdiv_neg a b
      have e2 := Int.fmod_def a b
      have e3 := Int.fdiv_eq_ediv_of_nonneg (-a) (show 0 ≤ -b by lia)
      have e4 : -a = (-b) * q + -r := by rw [h, Int.neg_mul]; lia
      have e5 : a.fdiv b = q := by
        rw [← e1, e3, e4, Int.mul_add_ediv_left _ _ (by lia), Int.ediv_eq_zero_of_lt (by lia) (by lia), Int.add_zero]
      exact ⟨e5, by rw [e2, e5, h]; lia⟩
  unfold qrT
  rw [h1.1, h1.2]
theorem far_q1 {n : Nat} (h : n < 6561) : qrT ((n : Int) - 8) (-9) = .tup [.int (-(n / 9 : Nat)), .int ((n % 9 : Nat) - 8)] := by
  exact qr_of (by lia) (.inr (by lia))
theorem far_q2 {n : Nat} (h : n < 6561) : qrT (-(n / 9 : Nat)) (-9) = .tup [.int (n / 81 : Nat), .int (-(n / 9 % 9 : Nat))] := by
  exact qr_of (by lia) (.inr (by lia))
theorem far_q3 {n : Nat} (h : n < 6561) : qrT (Builtin.bitNot (n / 81 : Nat)) 9 = .tup [.int (Builtin.bitNot (n / 729 : Nat)), .int (8 - (n / 81 % 9 : Nat))] := by
  have h1 : Builtin.bitNot (n / 81 : Nat) = -((n / 81 : Nat) : Int) - 1 := rfl
  have h2 : Builtin.bitNot (n / 729 : Nat) = -((n / 729 : Nat) : Int) - 1 := rfl
  rw [h1, h2]
  exact qr_of (by lia) (.inl (by lia))
theorem bits_le {a : Int} (h : a.natAbs < 18446744073709551616) {b : Int} : Builtin.Int.intBits a ≤ Builtin.Int.intBits b + 4000 := Nat.le_trans (bits_small h) (by lia)
theorem d_far (K : LawK C) (G : DigK C) (nn : Nat) (hn : nn < 6561) (S : Nat → V3) (f0 f1 : Int) (hkk : ∀ i, i < 9 → kkL S i ≠ []) :
    DefC C 34 (sQ "_law_far") [is (.int nn), is (lv (sp10 S)), is (.list [.int f0, .int f1])] (is (v3 (farF f0 f1 S nn))) := by
  obtain ⟨f, q, doc, pm, cd, hg, ho, hcd⟩ := K.far
  have g1 := K.range
  have g2 := K.zip
  refine ⟨f, hg, ⟨_, _, ho, rfl⟩, fn_def (n := 32) (sc := scOf (stAt pw 85)) (ρ := [some (is (.int nn)), some (is (lv (sp10 S))), some (is (.list [.int f0, .int f1])), none, none, none, none, none, none, none, none, none, none]) (nm := [sQ "number", sQ "spots", sQ "folds", sQ "rest", sQ "last", sQ "third", sQ "second", sQ "ways", sQ "come", sQ "figure", sQ "led", sQ "way", sQ "thirds"]) (xs := [sQ "number", sQ "spots", sQ "folds"]) K.q ho rfl hcd rfl rfl rfl rfl rfl (bnd3 fun _ _ _ => by kernel_rfl) rfl (by decide +kernel) (by decide +kernel) (by decide +kernel) (by decide +kernel) rfl fun L X => ?_⟩
  apply ex_cons
  · apply ex_asgU
    · apply ev_d
      · apply ev_callD
        · walk_at "ev"
        · exact d_idm G _ _ (by decide) (bits_le (by lia)) (by decide)
        · decide
        · exact rfl
        · exact rfl
        · exact rfl
      · exact far_q1 hn
    · walk_at "at"
    · exact rfl
    · exact rfl
  apply ex_cons
  · apply ex_asgU
    · apply ev_d
      · apply ev_callD
        · walk_at "ev"
        · exact d_idm G _ _ (by decide) (bits_le (by lia)) (by decide)
        · decide
        · exact rfl
        · exact rfl
        · exact rfl
      · exact far_q2 hn
    · walk_at "at"
    · exact rfl
    · exact rfl
  apply ex_cons
  · apply ex_asgU
    · apply ev_d
      · apply ev_callD
        · walk_at "ev"
        · exact d_idm G _ _ (by decide) (bits_le (by show (-_ - 1 : Int).natAbs < _; lia)) (by decide)
        · decide
        · exact rfl
        · exact rfl
        · exact rfl
      · exact far_q3 hn
    · walk_at "at"
    · exact rfl
    · exact rfl
  apply ex_cons
  · apply ex_assign (P := is (.list ((List.range 9).map fun i => v3 (wyS S i))))
    apply ev_comp1
    apply comp1_ok (xs := List.range 9) (f := fun (i : Nat) => .tup [v3 (S i), v3 (S (i + 1))]) (h := fun i => v3 (wyS S i))
    · apply it_eq
      · apply it_callTt
        · assumption
        · apply el_cons
          · walk_at "ev"
          · apply el_cons
            · apply ev_slice_listT
              · walk_at "ev"
              · apply pt_some
                walk_at "ev"
              · exact pt_none
              · exact Nat.le_of_ble_eq_true rfl
            · exact el_nil
            · exact rfl
          · exact rfl
        · exact fi_zip
        · exact rfl
        · exact rfl
        · exact rfl
        · exact rfl
      · exact zip_sp
    · walk_at "at"
    · exact rfl
    · decide +kernel
    · exact rfl
    · exact Nat.le_of_ble_eq_true rfl
    · intro cenv X' j hx
      apply ex_mk3
      · walk_at "at"
      · walk_at "at"
      · intro ω κ
        apply ev_d
        · apply ev_comp1
          apply comp1_ok (xs := [((S j).1, (S (j + 1)).1), ((S j).2.1, (S (j + 1)).2.1), ((S j).2.2, (S (j + 1)).2.2)]) (f := fun (p : Int × Int) => .tup [.int p.1, .int p.2]) (h := fun p => .int (p.2 - p.1))
          · apply it_eq
            · apply it_callTt
              · assumption
              · walk_at "ev"
              · exact fi_zip
              · exact rfl
              · exact rfl
              · exact rfl
              · exact rfl
            · exact rfl
          · walk_at "at"
          · exact rfl
          · decide +kernel
          · exact rfl
          · exact Nat.le_of_ble_eq_true rfl
          · intro cenv X' j hx
            apply ex_mk3
            · walk_at "at"
            · walk_at "at"
            · intro ω κ
              walk_at "ev"
        · rfl
    · walk_at "at"
    · decide +kernel
    · decide +kernel
    · exact rfl
  apply ex_tup_sw
  · exact rfl
  · exact rfl
  · exact Nat.le_of_ble_eq_true rfl
  · exact rfl
  apply TupK.val (P := is (v3 (0, 0, 0)))
  · walk_at "ev"
  apply TupK.val
  · walk_at "ev"
  apply tk_nil_sw rfl rfl
  · show Bdn _ _ _ [_, _] [_, _] _ _
    walk_at "at"
  let wP : Nat → Option Vp := fun i => if i = 0 then none else some (is (v3 (farSt f0 f1 S nn i).2.1))
  have wP1 : ∀ i, wP (i + 1) = some (is (v3 (farSt f0 f1 S nn (i + 1)).2.1)) := fun i => rfl
  have wP0 : wP 0 = none := rfl
  have wP4 : wP 4 = some (is (v3 (farSt f0 f1 S nn 4).2.1)) := rfl
  clear_value wP
  apply exs_for (ρs := fun i => [some (is (.int nn)), some (is (.list ((sp10 S).map v3))), some (is (.list [.int f0, .int f1])), some (is (.int (Builtin.bitNot (nn / 729 : Nat)))), some (is (.int ((nn % 9 : Nat) - 8))), some (is (.int (-(nn / 9 % 9 : Nat)))), some (is (.int (8 - (nn / 81 % 9 : Nat)))), some (is (.list ((List.range 9).map fun i => v3 (wyS S i)))), some (is (v3 (farSt f0 f1 S nn i).1)), none, none, wP i, some (is (.int (farSt f0 f1 S nn i).2.2))]) (ωs := fun i => [])
  · rw [wP0]; rfl
  · rfl
  · apply it_tup
    apply ev_d (d' := .tup ((farD nn).map fun (k : Nat) => .int k))
    · walk_at "ev"
    · show PV.tup [.int (Builtin.bitNot (Builtin.bitNot (nn / 729 : Nat))), .int (8 - (8 - (nn / 81 % 9 : Nat))), .int (- -(nn / 9 % 9 : Nat)), .int (8 + ((nn % 9 : Nat) - 8))] = .tup [.int (nn / 729 : Nat), .int (nn / 81 % 9 : Nat), .int (nn / 9 % 9 : Nat), .int (nn % 9 : Nat)]
      have e1 : Builtin.bitNot (Builtin.bitNot (nn / 729 : Nat)) = ((nn / 729 : Nat) : Int) := by show -(-((nn / 729 : Nat) : Int) - 1) - 1 = _; lia
      have e2 : 8 - (8 - ((nn / 81 % 9 : Nat) : Int)) = (nn / 81 % 9 : Nat) := by lia
      have e4 : 8 + (((nn % 9 : Nat) : Int) - 8) = (nn % 9 : Nat) := by lia
      rw [e1, e2, Int.neg_neg, e4]
  · intro i; rfl
  · intro κ' i d hd
    have hfig := farD_lt hn i
    have e : farSt f0 f1 S nn (i + 1) = farS f0 f1 S (farSt f0 f1 S nn i) ((farD nn).getD i 0) := rfl
    have hd : d = .int ((farD nn).getD i 0 : Nat) := by
      rw [List.getElem?_map] at hd
      cases hq : (farD nn)[i]? with
      | none => rw [hq] at hd; cases hd
      | some x => rw [hq] at hd; cases hd; rw [List.getD_eq_getElem?_getD, hq]; rfl
    subst hd
    rw [wP1, e]
    generalize farSt f0 f1 S nn i = σ
    generalize wP i = w
    generalize (farD nn).getD i 0 = fig at hfig
    obtain ⟨come, way, th⟩ := σ
    have hj1 : seqIndex? (fig : Int) ((sp10 S).map v3).length = some fig := seq_at (show fig < 10 by lia)
    have hj2 : seqIndex? (fig : Int) ((List.range 9).map fun i => v3 (wyS S i)).length = some fig := seq_at (show fig < 9 by lia)
    have hS : ((sp10 S).map v3)[fig]? = some (v3 (S fig)) := S_at (by lia)
    have hS0 : ((sp10 S).map v3)[0]? = some (v3 (S 0)) := S_at (by lia)
    have hW : ((List.range 9).map fun i => v3 (wyS S i))[fig]? = some (v3 (wyS S fig)) := wy_at hfig
    have hW0 : ((List.range 9).map fun i => v3 (wyS S i))[0]? = some (v3 (wyS S 0)) := wy_at (by lia)
    have hl1 : ((sp10 S).map v3).length = 10 := rfl
    have hl2 : ((List.range 9).map fun i => v3 (wyS S i)).length = 9 := rfl
    have hki := hkk fig hfig
    have hkm : kkL S fig = ([0, 1, 2] : List Int).filter fun k => eqV (rnd (wyS S 0) k) (wyS S fig) := rfl
    generalize Builtin.bitNot (nn / 729 : Nat) = n1
    generalize ((nn % 9 : Nat) : Int) - 8 = n2
    generalize -((nn / 9 % 9 : Nat) : Int) = n3
    generalize 8 - ((nn / 81 % 9 : Nat) : Int) = n4
    have es : farS f0 f1 S (come, way, th) fig = (tri3 (farC f0 f1 come) (rnd (sub3 (S fig) (S 0)) th), rnd (wyS S fig) th, th + kkS S fig) := rfl
    rw [es]
    dsimp only
    have ek : kkS S fig = (kkL S fig).headD 0 := rfl
    generalize kkS S fig = kk at ek
    generalize kkL S fig = kl at hki hkm ek
    generalize hSd : (sp10 S).map v3 = SD at hj1 hS hS0 hl1
    generalize hWd : ((List.range 9).map fun i => v3 (wyS S i)) = WD at hj2 hW hW0 hl2
    generalize wyS S fig = wf at hW hkm
    generalize wyS S 0 = w0 at hW0 hkm
    generalize S fig = sf at hS
    generalize S 0 = s0 at hS0
    apply ex_mk
    · walk_at "at"
    clear es
    apply ex_consF (ρ₂ := [some (is (.int nn)), some (is (.list SD)), some (is (.list [.int f0, .int f1])), some (is (.int n1)), some (is (.int n2)), some (is (.int n3)), some (is (.int n4)), some (is (.list WD)), some (is (v3 (farC f0 f1 come))), some (is (.int (fig : Int))), none, w, some (is (.int th))])
    · apply ex_if
      · walk_at "ev"
      · intro h
        rw [farC, if_pos h]
        apply ex_cons
        · apply ex_assignC1 (ds := [.int (-(rnd come (2 - f0)).1), .int (-(rnd come (2 - f0)).2.1), .int (-(rnd come (2 - f0)).2.2)])
          apply comp1_ok (xs := [(rnd come (2 - f0)).1, (rnd come (2 - f0)).2.1, (rnd come (2 - f0)).2.2]) (f := fun (p : Int) => .int p) (h := fun p => .int (-p))
          · apply it_eq
            · apply it_list
              walk_at "ev"
            · exact rfl
          · walk_at "at"
          · exact rfl
          · decide +kernel
          · exact rfl
          · exact Nat.le_of_ble_eq_true rfl
          · intro cenv X' j hx
            apply ex_mk3
            · walk_at "at"
            · walk_at "at"
            · intro ω κ
              walk_at "ev"
          · rfl
          · walk_at "at"
          · decide +kernel
          · decide +kernel
          · exact rfl
        apply ex_fgt
        walk_at "fgtd"
      · intro h
        rw [farC, if_neg (by rw [h]; decide)]
        apply ex_fgt
        walk_at "fgtd"
    generalize farC f0 f1 come = c1
    apply ex_cons
    · apply ex_assignC1 (ds := [.int (sf.1 - s0.1), .int (sf.2.1 - s0.2.1), .int (sf.2.2 - s0.2.2)])
      apply comp1_ok (xs := [(s0.1, sf.1), (s0.2.1, sf.2.1), (s0.2.2, sf.2.2)]) (f := fun (p : Int × Int) => .tup [.int p.1, .int p.2]) (h := fun p => .int (p.2 - p.1))
      · apply it_eq
        · apply it_callTt
          · assumption
          · apply el_cons
            · apply ev_sub
              · walk_at "ev"
              · walk_at "ev"
              · apply op_item_list (j := 0) (by rw [hl1]; rfl) hS0
                rw [hl1]; decide
            · apply el_cons
              · apply ev_sub
                · walk_at "ev"
                · walk_at "ev"
                · apply op_item_list hj1 hS
                  rw [hl1]; decide
              · walk_at "ev"
              · exact rfl
            · exact rfl
          · exact fi_zip
          · exact rfl
          · exact rfl
          · exact rfl
          · exact rfl
        · exact rfl
      · walk_at "at"
      · exact rfl
      · decide +kernel
      · exact rfl
      · exact Nat.le_of_ble_eq_true rfl
      · intro cenv X' j hx
        apply ex_mk3
        · walk_at "at"
        · walk_at "at"
        · intro ω κ
          walk_at "ev"
      · rfl
      · walk_at "at"
      · decide +kernel
      · decide +kernel
      · exact rfl
    apply ex_cons
    · have hrd : DefC C 2 (sQ "_law_round") [is (.list [.int (sf.1 - s0.1), .int (sf.2.1 - s0.2.1), .int (sf.2.2 - s0.2.2)]), is (.int th)] (is (v3 (rnd (sub3 sf s0) th))) := d_round K (sub3 sf s0) th
      apply ex_assignC1 (ds := [.int (3 * c1.1 + (rnd (sub3 sf s0) th).1), .int (3 * c1.2.1 + (rnd (sub3 sf s0) th).2.1), .int (3 * c1.2.2 + (rnd (sub3 sf s0) th).2.2)])
      apply comp1_ok (xs := [(c1.1, (rnd (sub3 sf s0) th).1), (c1.2.1, (rnd (sub3 sf s0) th).2.1), (c1.2.2, (rnd (sub3 sf s0) th).2.2)]) (f := fun (p : Int × Int) => .tup [.int p.1, .int p.2]) (h := fun p => .int (3 * p.1 + p.2))
      · apply it_eq
        · apply it_callTt
          · assumption
          · apply el_cons
            · walk_at "ev"
            · apply el_cons
              · apply ev_callD
                · walk_at "ev"
                · exact hrd
                · decide
                · exact rfl
                · exact rfl
                · exact rfl
              · walk_at "ev"
              · exact rfl
            · exact rfl
          · exact fi_zip
          · exact rfl
          · exact rfl
          · exact rfl
          · exact rfl
        · exact rfl
      · walk_at "at"
      · exact rfl
      · decide +kernel
      · exact rfl
      · exact Nat.le_of_ble_eq_true rfl
      · intro cenv X' j hx
        apply ex_mk3
        · walk_at "at"
        · walk_at "at"
        · intro ω κ
          walk_at "ev"
      · rfl
      · walk_at "at"
      · decide +kernel
      · decide +kernel
      · exact rfl
    apply ex_cons
    · apply ex_assign
      · apply ev_callD
        · apply el_cons
          · apply ev_sub
            · walk_at "ev"
            · walk_at "ev"
            · apply op_item_list hj2 hW
              rw [hl2]; decide
          · walk_at "ev"
          · exact rfl
        · exact d_round K wf th
        · decide
        · exact rfl
        · exact rfl
        · exact rfl
      · walk_at "at"
      · decide +kernel
      · decide +kernel
      · exact rfl
    apply ex_cons
    · apply ex_assign
      · apply ev_bin
        · walk_at "ev"
        · apply ev_sub (Pi := is (.int 0))
          · apply ev_comp1if
            apply comp1if_ok (xs := [0, 1, 2]) (f := fun (k : Int) => .int k) (h := fun k => .int k) (p := fun k => eqV (rnd w0 k) wf)
            · apply it_eq
              · apply it_callTt
                · assumption
                · walk_at "ev"
                · apply fi_range1
                  exact rfl
                · exact rfl
                · exact rfl
                · exact rfl
                · exact rfl
              · exact rfl
            · walk_at "at"
            · exact rfl
            · decide +kernel
            · exact rfl
            · exact Nat.le_of_ble_eq_true rfl
            · intro cenv X' j hx
              apply ex_mk4
              · walk_at "at"
              · walk_at "at"
              · intro ω κ
                apply tv_eq
                · apply tv_cmp
                  · apply ev_callD
                    · apply el_cons
                      · apply ev_sub
                        · walk_at "ev"
                        · walk_at "ev"
                        · apply op_item_list (j := 0) (by rw [hl2]; rfl) hW0
                          rw [hl2]; decide
                      · walk_at "ev"
                      · exact rfl
                    · exact d_round K w0 j
                    · decide
                    · exact rfl
                    · exact rfl
                    · exact rfl
                  · apply ev_sub
                    · walk_at "ev"
                    · walk_at "ev"
                    · apply op_item_list hj2 hW
                      rw [hl2]; decide
                  · exact op_eq_list 0 (by decide) rfl
                  · exact rfl
                · exact eqN_v3
              · intro _ ω κ
                walk_at "ev"
          · walk_at "ev"
          · rw [← hkm]
            have hkl : kl.length ≤ 3 := by rw [hkm]; exact List.length_filter_le _ _
            exact op_item_list (j := 0) (d := .int kk) (seq_at (l := 0) (by
              rw [List.length_map]
              exact List.length_pos_iff.mpr hki)) (by
              rw [ek]
              cases kl with
              | nil => exact absurd rfl hki
              | cons k0 kr => rfl) (by rw [List.length_map]; lia)
        · exact op_add_int
      · walk_at "at"
      · decide +kernel
      · decide +kernel
      · exact rfl
    apply ex_fgt
    walk_at "fgtd"
  · show EX _ _ _ (FS _ _ _ _ _ _ [_, _, _, _, _, _, _, _, some (is (v3 (farSt f0 f1 S nn 4).1)), _, _, wP 4, _] _ _) _ _ _
    rw [wP4]
    unfold farF
    have hS0 : ((sp10 S).map v3)[0]? = some (v3 (S 0)) := S_at (by lia)
    have hl1 : ((sp10 S).map v3).length = 10 := rfl
    generalize (sp10 S).map v3 = SD at hS0 hl1
    generalize (farSt f0 f1 S nn 4).1 = come
    generalize (farSt f0 f1 S nn 4).2.1 = way
    generalize S 0 = s0 at hS0
    apply ex_ret
    apply ev_d
    · apply ev_comp1
      apply comp1_ok (xs := [(s0.1, come.1, way.1), (s0.2.1, come.2.1, way.2.1), (s0.2.2, come.2.2, way.2.2)]) (f := fun (p : Int × Int × Int) => .tup [.int p.1, .int p.2.1, .int p.2.2]) (h := fun p => .int (2 * p.1 + 2 * p.2.1 + p.2.2))
      · apply it_eq
        · apply it_callTt
          · assumption
          · apply el_cons
            · apply ev_sub
              · walk_at "ev"
              · walk_at "ev"
              · apply op_item_list (j := 0) (by rw [hl1]; rfl) hS0
                rw [hl1]; decide
            · walk_at "ev"
            · exact rfl
          · exact fi_zip3 rfl rfl
          · exact rfl
          · exact rfl
          · exact rfl
          · exact rfl
        · exact rfl
      · walk_at "at"
      · exact rfl
      · decide +kernel
      · exact rfl
      · exact Nat.le_of_ble_eq_true rfl
      · intro cenv X' j hx
        apply ex_mk3
        · walk_at "at"
        · walk_at "at"
        · intro ω κ
          walk_at "ev"
    · rfl
  · exact rfl
end
end
noncomputable abbrev V2 := Int × Int
noncomputable def ad (p q : V2) : V2 := (p.1 + q.1, p.2 + q.2)
noncomputable def sc (m : Int) (p : V2) : V2 := (m * p.1, m * p.2)
noncomputable def rh (p : V2) (t : Int) : V2 := if t.fmod 3 = 0 then p else if t.fmod 3 = 1 then (-p.2, p.1 - p.2) else (p.2 - p.1, -p.1)
noncomputable def pr (v : V3) : V2 := (v.1 - v.2.2, v.2.1 - v.2.2)
noncomputable def un (x : Int) : V2 := if x = 0 then (1, 0) else if x = 1 then (1, 1) else if x = 2 then (0, 1) else if x = 3 then (-1, 0) else if x = 4 then (-1, -1) else (0, -1)
theorem v2 {p q : V2} (h1 : p.1 = q.1) (h2 : p.2 = q.2) : p = q := Prod.ext h1 h2
theorem pr_add (v w : V3) : pr (add3 v w) = ad (pr v) (pr w) := v2 (by simp only [pr, add3, ad]; lia) (by simp only [pr, add3, ad]; lia)
theorem pr_sub (v w : V3) : pr (sub3 v w) = ad (pr v) (sc (-1) (pr w)) := v2 (by simp only [pr, sub3, ad, sc]; lia) (by simp only [pr, sub3, ad, sc]; lia)
theorem pr_neg (v : V3) : pr (neg3 v) = sc (-1) (pr v) := v2 (by simp only [pr, neg3, sc]; lia) (by simp only [pr, neg3, sc]; lia)
theorem pr_dbl (v w : V3) : pr (dbl3 v w) = ad (sc 2 (pr v)) (pr w) := v2 (by simp only [pr, dbl3, ad, sc]; lia) (by simp only [pr, dbl3, ad, sc]; lia)
theorem pr_tri (v w : V3) : pr (tri3 v w) = ad (sc 3 (pr v)) (pr w) := v2 (by simp only [pr, tri3, ad, sc]; lia) (by simp only [pr, tri3, ad, sc]; lia)
theorem pr_mid (a b c : V3) : pr (mid3 a b c) = ad (sc 2 (pr a)) (ad (sc 2 (pr b)) (pr c)) := v2 (by simp only [pr, mid3, ad, sc]; lia) (by simp only [pr, mid3, ad, sc]; lia)
theorem fm3 (t : Int) : t.fmod 3 = 0 ∨ t.fmod 3 = 1 ∨ t.fmod 3 = 2 := by
  have h1 := fmod_lo t (b := 3) (by decide)
  have h2 := fmod_hi t (b := 3) (by decide)
  lia
theorem fmod3 (a : Int) : a.fmod 3 = a % 3 := Int.fmod_eq_emod_of_nonneg _ (by decide)
theorem rot_mod (t : Int) : (t % 3 = 0 ∧ (0 - t) % 3 = 0 ∧ (1 - t) % 3 = 1 ∧ (2 - t) % 3 = 2) ∨ (t % 3 = 1 ∧ (0 - t) % 3 = 2 ∧ (1 - t) % 3 = 0 ∧ (2 - t) % 3 = 1) ∨ (t % 3 = 2 ∧ (0 - t) % 3 = 1 ∧ (1 - t) % 3 = 2 ∧ (2 - t) % 3 = 0) := by
  have h3 : t % 3 = 0 ∨ t % 3 = 1 ∨ t % 3 = 2 := by lia
  rcases h3 with h | h | h
  · exact .inl ⟨h, by lia, by lia, by lia⟩
  · exact .inr (.inl ⟨h, by lia, by lia, by lia⟩)
  · exact .inr (.inr ⟨h, by lia, by lia, by lia⟩)
theorem pr_rnd (v : V3) (t : Int) : pr (rnd v t) = rh (pr v) t := by
  unfold rnd rh
  simp only [fmod3]
  rcases rot_mod t with ⟨h, a1, a2, a3⟩ | ⟨h, a1, a2, a3⟩ | ⟨h, a1, a2, a3⟩
  · rw [h, a1, a2, a3]; rfl
  · rw [h, a1, a2, a3]
    refine v2 ?_ ?_ <;> simp [pr, at3] <;> lia
  · rw [h, a1, a2, a3]
    refine v2 ?_ ?_ <;> simp [pr, at3] <;> lia
theorem rh_ad (p q : V2) (t : Int) : rh (ad p q) t = ad (rh p t) (rh q t) := by
  rcases fm3 t with h | h | h <;> simp only [rh, h] <;> refine v2 ?_ ?_ <;> simp [ad] <;> lia
theorem sc_ad (m : Int) (p q : V2) : sc m (ad p q) = ad (sc m p) (sc m q) := v2 (Int.mul_add _ _ _) (Int.mul_add _ _ _)
theorem sc_sc (m k : Int) (p : V2) : sc m (sc k p) = sc k (sc m p) := v2 (Int.mul_left_comm _ _ _) (Int.mul_left_comm _ _ _)
theorem rh_sc (m : Int) (p : V2) (t : Int) : rh (sc m p) t = sc m (rh p t) := by
  rcases fm3 t with h | h | h <;> simp only [rh, h] <;> refine v2 ?_ ?_ <;> simp [sc, Int.mul_sub, Int.mul_neg]
theorem pr_col {s v x : Int} (hs : s = 1 ∨ s = 2 ∨ s = 3 ∨ s = 4) (hx : x ∈ q6) : pr (colT s v x) = sc (s * v) (un x) := by
  simp only [List.mem_cons, List.not_mem_nil, or_false] at hx
  have e : 4 * v - v * (4 - s) = s * v := by rw [Int.mul_sub, Int.mul_comm v 4, Int.mul_comm v s]; lia
  clear hs
  rcases hx with rfl | rfl | rfl | rfl | rfl | rfl <;> refine v2 ?_ ?_ <;> simp [pr, colT, sc, un] <;> lia
theorem small_int {P : Int → Prop} {n : Nat} (h : ∀ k < n, P (k : Int)) {x : Int} (h0 : 0 ≤ x) (h1 : x < n) : P x := by
  have := h x.toNat (by lia)
  rwa [Int.toNat_of_nonneg h0] at this
theorem two_i {x : Int} (h0 : 0 ≤ x) (h1 : x < 2) : x = 0 ∨ x = 1 := small_int (P := fun x => x = 0 ∨ x = 1) (n := 2) (by decide) h0 h1
theorem four_i {x : Int} (h0 : 0 ≤ x) (h1 : x < 4) : 1 + x = 1 ∨ 1 + x = 2 ∨ 1 + x = 3 ∨ 1 + x = 4 := small_int (P := fun x => 1 + x = 1 ∨ 1 + x = 2 ∨ 1 + x = 3 ∨ 1 + x = 4) (n := 4) (by decide) h0 h1
theorem rnd_col {s v x t : Int} (hs : s = 1 ∨ s = 2 ∨ s = 3 ∨ s = 4) (hx : x ∈ q6) : rnd (colT s v x) t = colT s v ((x + 2 * t).fmod 6) := by
  have e6 : (x + 2 * t).fmod 6 = (x + 2 * (t % 3)) % 6 := by rw [Int.fmod_eq_emod_of_nonneg _ (by decide)]; lia
  rw [e6]
  unfold rnd
  simp only [fmod3]
  have hx' := hx
  simp only [List.mem_cons, List.not_mem_nil, or_false] at hx
  rcases rot_mod t with ⟨h, a1, a2, a3⟩ | ⟨h, a1, a2, a3⟩ | ⟨h, a1, a2, a3⟩
  · rw [h, a1, a2, a3]
    rcases hx with rfl | rfl | rfl | rfl | rfl | rfl <;> rfl
  · rw [h, a1, a2, a3]
    rcases hx with rfl | rfl | rfl | rfl | rfl | rfl <;> rfl
  · rw [h, a1, a2, a3]
    rcases hx with rfl | rfl | rfl | rfl | rfl | rfl <;> rfl
theorem col_inj {s v x y : Int} (hs : s = 1 ∨ s = 2 ∨ s = 3 ∨ s = 4) (hv : v = 1 ∨ v = 2 ∨ v = 3 ∨ v = 4) (hx : x ∈ q6) (hy : y ∈ q6) : eqV (colT s v x) (colT s v y) = (x == y) := by
  have key : ∀ s ∈ q4, ∀ v ∈ q4, ∀ x ∈ q6, ∀ y ∈ q6, eqV (colT s v x) (colT s v y) = (x == y) := by decide +kernel
  exact key s (by rcases hs with rfl | rfl | rfl | rfl <;> decide) v (by rcases hv with rfl | rfl | rfl | rfl <;> decide) x hx y hy
noncomputable def dIx (f0 f1 x : Int) : Nat → Int
  | 0 => x
  | i + 1 => (dIx f0 f1 x i + 2 * dueDir f0 f1 i).fmod 6
theorem fm6' (x : Int) : x.fmod 6 ∈ q6 := by
  exact small_int (P := fun y => y ∈ q6) (n := 6) (by decide) (fmod_lo x (b := 6) (by decide)) (fmod_hi x (b := 6) (by decide))
theorem dIx_mem {f0 f1 x : Int} (hx : x ∈ q6) : ∀ i, dIx f0 f1 x i ∈ q6
  | 0 => hx
  | i + 1 => fm6' _
theorem way_col {s v x f0 f1 : Int} (hs : s = 1 ∨ s = 2 ∨ s = 3 ∨ s = 4) (hx : x ∈ q6) : ∀ i, dueWay f0 f1 (colT s v x) i = colT s v (dIx f0 f1 x i)
  | 0 => rfl
  | i + 1 => by
    show rnd (dueWay f0 f1 (colT s v x) i) _ = _
    rw [way_col hs hx i, rnd_col hs (dIx_mem hx i)]; rfl
noncomputable def uO (f0 f1 x : Int) : Nat → V2
  | 0 => (0, 0)
  | i + 1 => ad (uO f0 f1 x i) (un (dIx f0 f1 x (i + 1)))
theorem pr_last {s v x f0 f1 : Int} (sp : V3) (hs : s = 1 ∨ s = 2 ∨ s = 3 ∨ s = 4) (hx : x ∈ q6) : ∀ i, pr (dueLast f0 f1 sp (colT s v x) i) = ad (pr sp) (sc (s * v) (uO f0 f1 x i))
  | 0 => by refine v2 ?_ ?_ <;> simp [dueLast, ad, sc, uO]
  | i + 1 => by
    show pr (add3 _ _) = _
    rw [pr_add, pr_last sp hs hx i, way_col hs hx (i + 1), pr_col hs (dIx_mem hx (i + 1)), uO, sc_ad]
    refine v2 ?_ ?_ <;> simp only [ad] <;> lia
noncomputable def lam (t : Int) (c : V2) : V2 := ad (sc 2 c) (rh c t)
noncomputable def stp (t : Int) (g : Nat) (w : V2) : V2 := if g = 0 then (0, 0) else if g = 1 then w else ad w (rh w t)
noncomputable def stw (t : Int) (g : Nat) (w : V2) : V2 := if g = 1 then rh w t else w
noncomputable def uS (t : Int) (g : Nat) (σ : V2 × V2) : V2 × V2 := (ad (lam t σ.1) (stp t g σ.2), stw t g σ.2)
noncomputable def mm (σ : V2 × V2) : V2 := ad (sc 2 σ.1) σ.2
noncomputable def thT (f0 f1 : Int) (i : Nat) : Int := thTurn f0 f1 (7 - (i : Int))
noncomputable def dig (n i : Nat) : Nat := n / 3 ^ (7 - i) % 3
noncomputable def uSt (f0 f1 : Int) (w : V2) (n : Nat) : Nat → V2 × V2
  | 0 => ((0, 0), w)
  | i + 1 => uS (thT f0 f1 i) (dig n i) (uSt f0 f1 w n i)
noncomputable def units : List V2 := [(1, 0), (1, 1), (0, 1), (-1, 0), (-1, -1), (0, -1)]
theorem un_mem {x : Int} (hx : x ∈ q6) : un x ∈ units := (by decide : ∀ x ∈ q6, un x ∈ units) x hx
theorem rh_unit {w : V2} (h : w ∈ units) (t : Int) : rh w t ∈ units := by
  rcases fm3 t with e | e | e
  · simp only [rh, e]; exact h
  · simp only [rh, e]; exact (by decide : ∀ w ∈ units, ((-w.2, w.1 - w.2) : V2) ∈ units) w h
  · simp only [rh, e]; exact (by decide : ∀ w ∈ units, ((w.2 - w.1, -w.1) : V2) ∈ units) w h
theorem stw_unit {w : V2} (h : w ∈ units) (t : Int) (g : Nat) : stw t g w ∈ units := by
  unfold stw; split
  · exact rh_unit h t
  · exact h
theorem uSt_unit {f0 f1 : Int} {w : V2} (h : w ∈ units) (n : Nat) : ∀ i, (uSt f0 f1 w n i).2 ∈ units
  | 0 => h
  | i + 1 => stw_unit (uSt_unit h n i) _ _
theorem thT_is {f0 f1 : Int} (h0 : f0 = 0 ∨ f0 = 1) (h1 : f1 = 0 ∨ f1 = 1) (i : Nat) : thT f0 f1 i = 1 ∨ thT f0 f1 i = -1 := by
  unfold thT thTurn at2
  split <;> lia
noncomputable def eS (t : Int) (g : Nat) (w : V2) : V2 := ad (sc 2 (stp t g w)) (stw t g w)
theorem heart : ∀ t ∈ ([1, -1] : List Int), ∀ w1 ∈ units, ∀ w2 ∈ units, ∀ g1 ∈ [0, 1, 2], ∀ g2 ∈ [0, 1, 2],
    (let U := lam (-t) (ad (eS t g2 w2) (sc (-1) (eS t g1 w1))); (decide (U.1 % 6 = 0) && decide (U.2 % 6 = 0)) = true → (decide (U = sc 3 (ad w2 (sc (-1) w1))) && (w1 != w2 || g1 == g2)) = true) := by decide +kernel
theorem lam_lam {t : Int} (ht : t = 1 ∨ t = -1) (c : V2) : lam (-t) (lam t c) = sc 3 c := by
  rcases ht with rfl | rfl
  · have a : ((-1 : Int)).fmod 3 = 2 := by decide
    have b : ((1 : Int)).fmod 3 = 1 := by decide
    refine v2 ?_ ?_ <;> simp [lam, rh, a, b, ad, sc] <;> lia
  · have a : ((-1 : Int)).fmod 3 = 2 := by decide
    have b : ((1 : Int)).fmod 3 = 1 := by decide
    refine v2 ?_ ?_ <;> simp [lam, rh, a, b, ad, sc] <;> lia
theorem lam_ad (t : Int) (p q : V2) : lam t (ad p q) = ad (lam t p) (lam t q) := by
  unfold lam
  rw [rh_ad, sc_ad]
  refine v2 ?_ ?_ <;> simp only [ad] <;> lia
theorem lam_sc (t m : Int) (p : V2) : lam t (sc m p) = sc m (lam t p) := by
  unfold lam
  rw [rh_sc, sc_ad, sc_sc]
theorem mm_uS (t : Int) (g : Nat) (σ : V2 × V2) : mm (uS t g σ) = ad (sc 2 (lam t σ.1)) (eS t g σ.2) := by
  unfold mm uS eS
  rw [sc_ad]
  refine v2 ?_ ?_ <;> simp only [ad] <;> lia
theorem step_back {t : Int} (ht : t = 1 ∨ t = -1) {σ τ : V2 × V2} (h1 : σ.2 ∈ units) (h2 : τ.2 ∈ units) {g1 g2 : Nat} (hg1 : g1 < 3) (hg2 : g2 < 3) (h : mm (uS t g1 σ) = mm (uS t g2 τ)) : mm σ = mm τ ∧ (σ.2 = τ.2 → g1 = g2) := by
  rw [mm_uS, mm_uS] at h
  obtain ⟨c1, w1⟩ := σ
  obtain ⟨c2, w2⟩ := τ
  simp only at h h1 h2 ⊢
  have hU : lam (-t) (ad (eS t g2 w2) (sc (-1) (eS t g1 w1))) = sc 6 (ad c1 (sc (-1) c2)) := by
    have e : ad (eS t g2 w2) (sc (-1) (eS t g1 w1)) = sc 2 (lam t (ad c1 (sc (-1) c2))) := by
      rw [lam_ad, lam_sc]
      have x1 := congrArg Prod.fst h
      have x2 := congrArg Prod.snd h
      refine v2 ?_ ?_ <;> simp only [ad, sc] at x1 x2 ⊢ <;> lia
    rw [e, lam_sc, lam_lam ht]
    refine v2 ?_ ?_ <;> simp only [sc] <;> lia
  have key := heart t (by rcases ht with rfl | rfl <;> decide) w1 h1 w2 h2 g1 (by rcases g1 with _ | _ | _ | g1 <;> simp; lia) g2 (by rcases g2 with _ | _ | _ | g2 <;> simp; lia)
  dsimp only at key
  rw [hU] at key
  have k := key (by rw [Bool.and_eq_true, decide_eq_true_eq, decide_eq_true_eq]; exact ⟨by simp only [sc]; lia, by simp only [sc]; lia⟩)
  rw [Bool.and_eq_true, decide_eq_true_eq] at k
  obtain ⟨k1, k2⟩ := k
  have x1 := congrArg Prod.fst k1
  have x2 := congrArg Prod.snd k1
  refine ⟨v2 ?_ ?_, fun e => ?_⟩
  · simp only [mm, ad, sc] at x1 x2 ⊢; lia
  · simp only [mm, ad, sc] at x1 x2 ⊢; lia
  · rw [e] at k2
    simpa using k2
theorem dig_lt (n i : Nat) : dig n i < 3 := Nat.mod_lt _ (by decide)
theorem back_all {f0 f1 : Int} (h0 : f0 = 0 ∨ f0 = 1) (h1 : f1 = 0 ∨ f1 = 1) {w1 w2 : V2} (u1 : w1 ∈ units) (u2 : w2 ∈ units) {n1 n2 : Nat} : ∀ i, mm (uSt f0 f1 w1 n1 i) = mm (uSt f0 f1 w2 n2 i) → ∀ j, j ≤ i → mm (uSt f0 f1 w1 n1 j) = mm (uSt f0 f1 w2 n2 j)
  | 0, h, j, hj => by rw [Nat.le_zero.mp hj]; exact h
  | i + 1, h, j, hj => by
    rcases Nat.lt_or_ge i j with hlt | hge
    · rw [show j = i + 1 by lia]; exact h
    · exact back_all h0 h1 u1 u2 i (step_back (thT_is h0 h1 i) (uSt_unit u1 n1 i) (uSt_unit u2 n2 i) (dig_lt _ _) (dig_lt _ _) h).1 j hge
theorem three_eq {a b : Nat} (h : a / 3 = b / 3) (g : a % 3 = b % 3) : a = b := by rw [← Nat.div_add_mod a 3, h, g, Nat.div_add_mod]
theorem dig_eq {n1 n2 : Nat} (h1 : n1 < 6561) (h2 : n2 < 6561) (h : ∀ i < 8, dig n1 i = dig n2 i) : n1 = n2 := by
  have key : ∀ j, j ≤ 8 → n1 / 3 ^ (8 - j) = n2 / 3 ^ (8 - j) := by
    intro j
    induction j with
    | zero => intro _; rw [Nat.div_eq_of_lt h1, Nat.div_eq_of_lt h2]
    | succ j ih =>
      intro hj
      have g := ih (Nat.le_of_succ_le hj)
      have e : 8 - j = (8 - (j + 1)) + 1 := by lia
      rw [e, Nat.pow_succ, ← Nat.div_div_eq_div_mul, ← Nat.div_div_eq_div_mul] at g
      have d := h j hj
      unfold dig at d
      rw [show 7 - j = 8 - (j + 1) by lia] at d
      exact three_eq g d
  have k := key 8 (Nat.le_refl 8)
  rwa [Nat.sub_self, Nat.pow_zero, Nat.div_one, Nat.div_one] at k
theorem edge_once {f0 f1 : Int} (h0 : f0 = 0 ∨ f0 = 1) (h1 : f1 = 0 ∨ f1 = 1) {w1 w2 : V2} (u1 : w1 ∈ units) (u2 : w2 ∈ units) {n1 n2 : Nat} (l1 : n1 < 6561) (l2 : n2 < 6561) (h : mm (uSt f0 f1 w1 n1 8) = mm (uSt f0 f1 w2 n2 8)) : w1 = w2 ∧ n1 = n2 := by
  have all := back_all h0 h1 u1 u2 8 h
  have e0 := all 0 (by decide)
  have ew : w1 = w2 := by
    have x1 := congrArg Prod.fst e0
    have x2 := congrArg Prod.snd e0
    simp only [mm, uSt, ad, sc] at x1 x2
    exact v2 (by lia) (by lia)
  subst ew
  have st : ∀ i, i ≤ 8 → uSt f0 f1 w1 n1 i = uSt f0 f1 w1 n2 i ∧ ∀ j < i, dig n1 j = dig n2 j := by
    intro i
    induction i with
    | zero => exact fun _ => ⟨rfl, fun j hj => absurd hj (Nat.not_lt_zero j)⟩
    | succ i ih =>
      intro hi
      obtain ⟨e1, e2⟩ := ih (by lia)
      have hd : dig n1 i = dig n2 i := (step_back (thT_is h0 h1 i) (uSt_unit u1 n1 i) (uSt_unit u1 n2 i) (dig_lt _ _) (dig_lt _ _) (all (i + 1) hi)).2 (congrArg Prod.snd e1)
      refine ⟨?_, fun j hj => ?_⟩
      · show uS _ _ _ = uS _ _ _
        rw [hd, e1]
      · rcases Nat.lt_or_ge j i with hlt | hge
        · exact e2 j hlt
        · rw [show j = i by lia]; exact hd
  exact ⟨rfl, dig_eq l1 l2 fun i hi => (st 8 (Nat.le_refl 8)).2 i hi⟩
theorem pow3 (k : Nat) : ((3 : Int) ^ k) = ((3 ^ k : Nat) : Int) := by simp
theorem thFig_dig (n i : Nat) (h : i < 8) : thFig n (7 - (i : Int)) = (dig n i : Nat) := by
  unfold thFig dig
  have e : (7 - (i : Int)).toNat = 7 - i := by lia
  rw [e, pow3, Int.fdiv_eq_ediv_of_nonneg _ (Int.natCast_nonneg _), fmod3]
  norm_cast
theorem pr_mix (a b c : V3) (g : Nat) (hg : g < 3) : pr (mix3 a b c (decide ((g : Int) > 0)) (decide ((g : Int) > 1))) = ad (pr a) (if g = 0 then (0, 0) else if g = 1 then pr b else ad (pr b) (pr c)) := by
  rcases g with _ | _ | _ | g
  · refine v2 ?_ ?_ <;> simp [mix3, ft, pr, ad]
  · refine v2 ?_ ?_ <;> simp [mix3, ft, pr, ad] <;> lia
  · refine v2 ?_ ?_ <;> simp [mix3, ft, pr, ad] <;> lia
  · lia
theorem sc_zero (m : Int) : sc m (0, 0) = (0, 0) := by refine v2 ?_ ?_ <;> simp [sc]
theorem pr_there {s v x f0 f1 : Int} (hs : s = 1 ∨ s = 2 ∨ s = 3 ∨ s = 4) (hx : x ∈ q6) (n : Nat) : ∀ i, i ≤ 8 → pr (thSt n f0 f1 (colT s v x) i).1 = sc (s * v) (uSt f0 f1 (un x) n i).1 ∧ pr (thSt n f0 f1 (colT s v x) i).2 = sc (s * v) (uSt f0 f1 (un x) n i).2
  | 0, _ => ⟨by rw [show (uSt f0 f1 (un x) n 0).1 = (0, 0) from rfl, sc_zero]; rfl, pr_col hs hx⟩
  | i + 1, hi => by
    obtain ⟨e1, e2⟩ := pr_there hs hx n i (by lia)
    have hd := dig_lt n i
    have ef := thFig_dig n i (by lia)
    have es : thSt n f0 f1 (colT s v x) (i + 1) = thS n f0 f1 (thSt n f0 f1 (colT s v x) i) (7 - (i : Int)) := rfl
    have eu : uSt f0 f1 (un x) n (i + 1) = uS (thT f0 f1 i) (dig n i) (uSt f0 f1 (un x) n i) := rfl
    rw [es, eu]
    unfold thS
    rw [ef]
    have et : thTurn f0 f1 (7 - (i : Int)) = thT f0 f1 i := rfl
    rw [et]
    generalize thSt n f0 f1 (colT s v x) i = σ at e1 e2
    generalize uSt f0 f1 (un x) n i = τ at e1 e2
    generalize thT f0 f1 i = t
    generalize dig n i = g at hd
    constructor
    · show pr (mix3 _ _ _ _ _) = sc (s * v) (ad (lam t τ.1) (stp t g τ.2))
      rw [pr_mix _ _ _ g hd, pr_dbl, pr_rnd, pr_rnd, e1, e2, rh_sc, rh_sc, sc_ad, lam, sc_ad, sc_sc]
      congr 1
      unfold stp
      split
      · rw [sc_zero]
      · split
        · rfl
        · rw [sc_ad]
    · show pr (if decide (((g : Nat) : Int) = 1) = true then _ else _) = sc (s * v) (stw t g τ.2)
      unfold stw
      by_cases h : g = 1
      · rw [if_pos (by simp [h]), if_pos h, pr_rnd, e2, rh_sc]
      · rw [if_neg (by simp; lia), if_neg h, e2]
theorem pr_thereF {s v x f0 f1 : Int} (hs : s = 1 ∨ s = 2 ∨ s = 3 ∨ s = 4) (hx : x ∈ q6) (n : Nat) (sp : V3) : pr (thereF n sp (colT s v x) f0 f1) = ad (sc 2 (pr sp)) (sc (s * v) (mm (uSt f0 f1 (un x) n 8))) := by
  obtain ⟨e1, e2⟩ := pr_there (v := v) (f0 := f0) (f1 := f1) hs hx n 8 (Nat.le_refl 8)
  rw [thereF, pr_mid, e1, e2, mm, sc_ad, sc_sc (s * v) 2]
noncomputable def dueS (f0 f1 : Int) (sp w : V3) : Nat → V3 := dueLast f0 f1 sp w
theorem near_fact : ∀ f0 ∈ ([0, 1] : List Int), ∀ f1 ∈ ([0, 1] : List Int), ∀ x ∈ q6, ∀ i < 9, ad (sc 2 (uO f0 f1 x i)) (un (dIx f0 f1 x (i + 1))) = mm (uSt f0 f1 (un x) i 8) := by decide +kernel
theorem b01 {f : Int} (h : f = 0 ∨ f = 1) : f ∈ ([0, 1] : List Int) := by rcases h with rfl | rfl <;> decide
theorem pr_near {s v x f0 f1 : Int} (h0 : f0 = 0 ∨ f0 = 1) (h1 : f1 = 0 ∨ f1 = 1) (hs : s = 1 ∨ s = 2 ∨ s = 3 ∨ s = 4) (hx : x ∈ q6) (sp : V3) (i : Nat) (hi : i < 9) : pr (add3 (dueS f0 f1 sp (colT s v x) i) (dueS f0 f1 sp (colT s v x) (i + 1))) = ad (sc 2 (pr sp)) (sc (s * v) (mm (uSt f0 f1 (un x) i 8))) := by
  rw [pr_add]
  show ad (pr (dueLast _ _ _ _ _)) (pr (dueLast _ _ _ _ _)) = _
  rw [pr_last sp hs hx, pr_last sp hs hx, ← near_fact f0 (b01 h0) f1 (b01 h1) x hx i hi, uO]
  refine v2 ?_ ?_ <;> simp only [ad, sc, Int.mul_add] <;> rw [Int.mul_left_comm] <;> lia
theorem wy_due (f0 f1 : Int) (sp w : V3) (i : Nat) : wyS (dueS f0 f1 sp w) i = dueWay f0 f1 w (i + 1) := by
  show sub3 (add3 (dueLast f0 f1 sp w i) (dueWay f0 f1 w (i + 1))) (dueLast f0 f1 sp w i) = _
  refine Prod.ext ?_ (Prod.ext ?_ ?_) <;> simp only [sub3, add3] <;> lia
noncomputable def kkI (f0 f1 x : Int) (i : Nat) : List Int := ([0, 1, 2] : List Int).filter fun k => (dIx f0 f1 x 1 + 2 * k).fmod 6 == dIx f0 f1 x (i + 1)
theorem kk_eq {s v x f0 f1 : Int} (hs : s = 1 ∨ s = 2 ∨ s = 3 ∨ s = 4) (hv : v = 1 ∨ v = 2 ∨ v = 3 ∨ v = 4) (hx : x ∈ q6) (sp : V3) (i : Nat) : kkL (dueS f0 f1 sp (colT s v x)) i = kkI f0 f1 x i := by
  unfold kkL kkI
  congr 1
  funext k
  rw [wy_due, wy_due, way_col hs hx, way_col hs hx, rnd_col hs (dIx_mem hx _), col_inj hs hv (fm6' _) (dIx_mem hx _)]
theorem kk_fact : ∀ f0 ∈ ([0, 1] : List Int), ∀ f1 ∈ ([0, 1] : List Int), ∀ x ∈ q6, ∀ i < 9, (kkI f0 f1 x i).isEmpty = false := by decide +kernel
theorem kk_ne {s v x f0 f1 : Int} (h0 : f0 = 0 ∨ f0 = 1) (h1 : f1 = 0 ∨ f1 = 1) (hs : s = 1 ∨ s = 2 ∨ s = 3 ∨ s = 4) (hv : v = 1 ∨ v = 2 ∨ v = 3 ∨ v = 4) (hx : x ∈ q6) (sp : V3) (i : Nat) (hi : i < 9) : kkL (dueS f0 f1 sp (colT s v x)) i ≠ [] := by
  rw [kk_eq hs hv hx]
  have := kk_fact f0 (b01 h0) f1 (b01 h1) x hx i hi
  intro h
  rw [h] at this
  cases this
noncomputable def farCu (f0 f1 : Int) (c : V2) : V2 := if (f0 == f1) = true then sc (-1) (rh c (2 - f0)) else c
theorem pr_farC (f0 f1 : Int) (c : V3) : pr (farC f0 f1 c) = farCu f0 f1 (pr c) := by
  unfold farC farCu
  split
  · rw [pr_neg, pr_rnd]
  · rfl
theorem farCu_sc (f0 f1 m : Int) (c : V2) : farCu f0 f1 (sc m c) = sc m (farCu f0 f1 c) := by
  unfold farCu
  split
  · rw [rh_sc, sc_sc]
  · rfl
theorem two_lam {f0 f1 : Int} (h0 : f0 = 0 ∨ f0 = 1) (h1 : f1 = 0 ∨ f1 = 1) (c : V2) : lam (1 - 2 * f1) (lam (1 - 2 * f0) c) = sc 3 (farCu f0 f1 c) := by
  have a : ((-1 : Int)).fmod 3 = 2 := by decide
  have b : ((1 : Int)).fmod 3 = 1 := by decide
  have d : ((2 : Int)).fmod 3 = 2 := by decide
  rcases h0 with rfl | rfl <;> rcases h1 with rfl | rfl <;> refine v2 ?_ ?_ <;> simp [lam, farCu, rh, a, b, d, ad, sc] <;> lia
noncomputable def kh (f0 f1 x : Int) (i : Nat) : Int := (kkI f0 f1 x i).headD 0
theorem far_fact : ∀ f0 ∈ ([0, 1] : List Int), ∀ f1 ∈ ([0, 1] : List Int), ∀ x ∈ q6, ∀ i < 9, ∀ th ∈ ([0, 1, 2] : List Int),
    (let w := un ((x + 2 * th).fmod 6); let t0 := 1 - 2 * f0; let t1 := 1 - 2 * f1;
    decide (ad (lam t1 (stp t0 (i / 3) w)) (stp t1 (i % 3) (stw t0 (i / 3) w)) = rh (uO f0 f1 x i) th) && (decide (stw t1 (i % 3) (stw t0 (i / 3) w) = un ((x + 2 * (th + kh f0 f1 x i)).fmod 6)) && decide (rh (un (dIx f0 f1 x (i + 1))) th = un ((x + 2 * (th + kh f0 f1 x i)).fmod 6)))) = true := by decide +kernel
theorem rh_mod (p : V2) (t : Int) : rh p (t % 3) = rh p t := by
  unfold rh
  rw [fmod3, fmod3, Int.emod_emod]
theorem x_mod (x t : Int) : (x + 2 * (t % 3)).fmod 6 = (x + 2 * t).fmod 6 := by
  rw [Int.fmod_eq_emod_of_nonneg _ (by decide), Int.fmod_eq_emod_of_nonneg _ (by decide)]; omega
theorem x_mod2 (x t k : Int) : (x + 2 * (t % 3 + k)).fmod 6 = (x + 2 * (t + k)).fmod 6 := by
  rw [Int.fmod_eq_emod_of_nonneg _ (by decide), Int.fmod_eq_emod_of_nonneg _ (by decide)]; omega
theorem far_two {f0 f1 x th : Int} (h0 : f0 = 0 ∨ f0 = 1) (h1 : f1 = 0 ∨ f1 = 1) (hx : x ∈ q6) {i : Nat} (hi : i < 9) (c : V2) :
    uS (1 - 2 * f1) (i % 3) (uS (1 - 2 * f0) (i / 3) (c, un ((x + 2 * th).fmod 6))) = (ad (sc 3 (farCu f0 f1 c)) (rh (uO f0 f1 x i) th), un ((x + 2 * (th + kh f0 f1 x i)).fmod 6)) ∧ rh (un (dIx f0 f1 x (i + 1))) th = un ((x + 2 * (th + kh f0 f1 x i)).fmod 6) := by
  have k := far_fact f0 (b01 h0) f1 (b01 h1) x hx i hi (th % 3) (by
    have : th % 3 = 0 ∨ th % 3 = 1 ∨ th % 3 = 2 := by omega
    simp only [List.mem_cons, List.not_mem_nil, or_false]; exact this)
  dsimp only at k
  rw [Bool.and_eq_true, Bool.and_eq_true, decide_eq_true_eq, decide_eq_true_eq, decide_eq_true_eq, rh_mod, rh_mod, x_mod, x_mod2] at k
  obtain ⟨k1, k2, k3⟩ := k
  refine ⟨?_, k3⟩
  unfold uS
  dsimp only
  rw [lam_ad, two_lam h0 h1, k2, ← k1]
  congr 1
  refine v2 ?_ ?_ <;> simp only [ad] <;> lia
theorem nine_two (m : Nat) : m / 3 % 3 = m % 9 / 3 ∧ m % 3 = m % 9 % 3 := ⟨(Nat.mod_mul_right_div_self m 3 3).symm, (Nat.mod_mul_right_mod m 3 3).symm⟩
theorem dig_two {n : Nat} (h : n < 6561) : ∀ i < 4, dig n (2 * i) = (farD n).getD i 0 / 3 ∧ dig n (2 * i + 1) = (farD n).getD i 0 % 3 := by
  intro i hi
  unfold dig farD
  rcases i with _ | _ | _ | _ | i
  · have q := nine_two (n / 729)
    rw [Nat.mod_eq_of_lt (show n / 729 < 9 from Nat.div_lt_of_lt_mul h)] at q
    exact ⟨(congrArg (· % 3) (Nat.div_div_eq_div_mul n 729 3).symm).trans q.1, q.2⟩
  · have q := nine_two (n / 81)
    exact ⟨(congrArg (· % 3) (Nat.div_div_eq_div_mul n 81 3).symm).trans q.1, q.2⟩
  · have q := nine_two (n / 9)
    exact ⟨(congrArg (· % 3) (Nat.div_div_eq_div_mul n 9 3).symm).trans q.1, q.2⟩
  · have q := nine_two n
    show n / 3 % 3 = n % 9 / 3 ∧ n / 1 % 3 = n % 9 % 3
    rw [Nat.div_one]
    exact q
  · exact absurd hi (Nat.not_lt.mpr (Nat.le_add_left 4 i))
theorem thT_two {f0 f1 : Int} : ∀ i < 4, thT f0 f1 (2 * i) = 1 - 2 * f0 ∧ thT f0 f1 (2 * i + 1) = 1 - 2 * f1 := by
  intro i hi
  rcases i with _ | _ | _ | _ | i
  · exact ⟨rfl, rfl⟩
  · exact ⟨rfl, rfl⟩
  · exact ⟨rfl, rfl⟩
  · exact ⟨rfl, rfl⟩
  · lia
theorem pr_far {s v x f0 f1 : Int} (h0 : f0 = 0 ∨ f0 = 1) (h1 : f1 = 0 ∨ f1 = 1) (hs : s = 1 ∨ s = 2 ∨ s = 3 ∨ s = 4) (hv : v = 1 ∨ v = 2 ∨ v = 3 ∨ v = 4) (hx : x ∈ q6) (sp : V3) (n : Nat) (hn : n < 6561) :
    ∀ i, i ≤ 4 → pr (farSt f0 f1 (dueS f0 f1 sp (colT s v x)) n i).1 = sc (s * v) (uSt f0 f1 (un x) n (2 * i)).1 ∧ (uSt f0 f1 (un x) n (2 * i)).2 = un ((x + 2 * (farSt f0 f1 (dueS f0 f1 sp (colT s v x)) n i).2.2).fmod 6) ∧ (0 < i → pr (farSt f0 f1 (dueS f0 f1 sp (colT s v x)) n i).2.1 = sc (s * v) (uSt f0 f1 (un x) n (2 * i)).2)
  | 0, _ => by
    refine ⟨by rw [show (uSt f0 f1 (un x) n (2 * 0)).1 = (0, 0) from rfl, sc_zero]; rfl, ?_, fun h => absurd h (Nat.lt_irrefl 0)⟩
    show un x = un ((x + 2 * 0).fmod 6)
    have : (x + 2 * 0).fmod 6 = x := (by decide : ∀ x ∈ q6, (x + 2 * 0).fmod 6 = x) x hx
    rw [this]
  | i + 1, hi => by
    obtain ⟨e1, e2, _⟩ := pr_far h0 h1 hs hv hx sp n hn i (by lia)
    obtain ⟨d1, d2⟩ := dig_two hn i (by lia)
    obtain ⟨t1, t2⟩ := thT_two (f0 := f0) (f1 := f1) i (by lia)
    have hfig := farD_lt hn i
    have eu : uSt f0 f1 (un x) n (2 * (i + 1)) = uS (thT f0 f1 (2 * i + 1)) (dig n (2 * i + 1)) (uS (thT f0 f1 (2 * i)) (dig n (2 * i)) (uSt f0 f1 (un x) n (2 * i))) := rfl
    have ef : farSt f0 f1 (dueS f0 f1 sp (colT s v x)) n (i + 1) = farS f0 f1 (dueS f0 f1 sp (colT s v x)) (farSt f0 f1 (dueS f0 f1 sp (colT s v x)) n i) ((farD n).getD i 0) := rfl
    rw [eu, ef, d1, d2, t1, t2]
    generalize farSt f0 f1 (dueS f0 f1 sp (colT s v x)) n i = σ at e1 e2
    generalize (farD n).getD i 0 = fig at hfig
    obtain ⟨come, way, th⟩ := σ
    dsimp only at e1 e2
    have eτ : uSt f0 f1 (un x) n (2 * i) = ((uSt f0 f1 (un x) n (2 * i)).1, un ((x + 2 * th).fmod 6)) := Prod.ext rfl e2
    obtain ⟨k1, k2⟩ := far_two (th := th) h0 h1 hx hfig (uSt f0 f1 (un x) n (2 * i)).1
    rw [eτ, k1]
    have ek : kkS (dueS f0 f1 sp (colT s v x)) fig = kh f0 f1 x fig := by rw [kkS, kk_eq hs hv hx, kh]
    refine ⟨?_, ?_, fun _ => ?_⟩
    · show pr (tri3 (farC f0 f1 come) (rnd (sub3 (dueS f0 f1 sp (colT s v x) fig) (dueS f0 f1 sp (colT s v x) 0)) th)) = sc (s * v) (ad _ _)
      have e0 : pr (sub3 (dueS f0 f1 sp (colT s v x) fig) (dueS f0 f1 sp (colT s v x) 0)) = sc (s * v) (uO f0 f1 x fig) := by
        rw [pr_sub]
        show ad (pr (dueLast _ _ _ _ _)) (sc (-1) (pr (dueLast _ _ _ _ 0))) = _
        rw [pr_last sp hs hx, pr_last sp hs hx 0, uO, sc_zero]
        refine v2 ?_ ?_ <;> simp only [ad, sc] <;> lia
      rw [pr_tri, pr_farC, e1, farCu_sc, pr_rnd, e0, rh_sc, sc_ad, sc_sc 3]
    · show un _ = un ((x + 2 * (th + kkS _ fig)).fmod 6)
      rw [ek]
    · show pr (rnd (wyS _ fig) th) = sc (s * v) (un _)
      rw [pr_rnd, wy_due, way_col hs hx, pr_col hs (dIx_mem hx _), rh_sc, k2]
theorem pr_farF {s v x f0 f1 : Int} (h0 : f0 = 0 ∨ f0 = 1) (h1 : f1 = 0 ∨ f1 = 1) (hs : s = 1 ∨ s = 2 ∨ s = 3 ∨ s = 4) (hv : v = 1 ∨ v = 2 ∨ v = 3 ∨ v = 4) (hx : x ∈ q6) (sp : V3) (n : Nat) (hn : n < 6561) : pr (farF f0 f1 (dueS f0 f1 sp (colT s v x)) n) = ad (sc 2 (pr sp)) (sc (s * v) (mm (uSt f0 f1 (un x) n 8))) := by
  obtain ⟨e1, _, e3⟩ := pr_far h0 h1 hs hv hx sp n hn 4 (Nat.le_refl 4)
  rw [farF, pr_mid, e1, e3 (by decide), mm, sc_ad, sc_sc (s * v) 2]
  rfl
def bd2 (b : Int) (p : V2) : Prop := -b ≤ p.1 ∧ p.1 ≤ b ∧ -b ≤ p.2 ∧ p.2 ≤ b
theorem bd_unit {w : V2} (h : w ∈ units) : bd2 1 w := by
  have : ∀ w ∈ units, -1 ≤ w.1 ∧ w.1 ≤ 1 ∧ -1 ≤ w.2 ∧ w.2 ≤ 1 := by decide
  exact this w h
theorem bd_rh {b : Int} {p : V2} (h : bd2 b p) (t : Int) : bd2 (2 * b) (rh p t) := by
  obtain ⟨a1, a2, a3, a4⟩ := h
  rcases fm3 t with e | e | e <;> simp only [rh, e, bd2] <;> simp <;> omega
theorem bd_uSt {f0 f1 : Int} {w : V2} (h : w ∈ units) (n : Nat) : ∀ i, bd2 (4 * 5 ^ i) (uSt f0 f1 w n i).1
  | 0 => by simp [uSt, bd2]
  | i + 1 => by
    have ih := bd_uSt (f0 := f0) (f1 := f1) h n i
    have hu := uSt_unit (f0 := f0) (f1 := f1) h n i
    have eu : (uSt f0 f1 w n (i + 1)).1 = ad (lam (thT f0 f1 i) (uSt f0 f1 w n i).1) (stp (thT f0 f1 i) (dig n i) (uSt f0 f1 w n i).2) := rfl
    rw [eu]
    generalize uSt f0 f1 w n i = σ at ih hu
    generalize thT f0 f1 i = t
    generalize dig n i = g
    have b1 := bd_rh ih t
    have b2 := bd_unit hu
    have b3 := bd_unit (rh_unit hu t)
    have hp : bd2 2 (stp t g σ.2) := by
      obtain ⟨a1, a2, a3, a4⟩ := b2
      obtain ⟨c1, c2, c3, c4⟩ := b3
      unfold stp bd2
      split
      · decide
      · split
        · lia
        · simp only [ad]; lia
    have e5 : (4 : Int) * 5 ^ (i + 1) = 5 * (4 * 5 ^ i) := by rw [Int.pow_succ]; lia
    rw [e5]
    have hpos : (1 : Int) ≤ 5 ^ i := Int.pow_pos (by decide)
    generalize (5 : Int) ^ i = z at ih b1 hpos
    obtain ⟨a1, a2, a3, a4⟩ := ih
    obtain ⟨c1, c2, c3, c4⟩ := b1
    obtain ⟨d1, d2, d3, d4⟩ := hp
    simp only [bd2, ad, lam, sc]
    lia
def MthAt (C : Cx) (k : Nat) (f : Addr) (qual : Str) (dv : Value) : Prop := ∃ doc pm c, C.Z0 f = some { cls := .type "function", data := .func (mFd (mthSt pw 6 k) qual dv doc pm (.ref c)) } ∧ CodeIn C.Z0 c qual
def NsZ (C : Cx) (N : Addr) (m : Str → Option Value) : Prop := ∀ h : Heap, (∀ b o, C.Z0 b = some o → h.get? b = some o) → h.Ns N m
inductive PatZ (C : Cx) (x : Str) (code : Array Nat) : Prop where
  | mk (P L : Addr) (oP oL : Obj) (fs items : Array Value) (k : Nat) (g : GlobZ C x (.ref P)) (z : C.Z0 P = some oP) (a1 : oP.cls = .type "re.Pattern") (a2 : oP.dict = none) (a3 : oP.data = .fields fs) (a4 : fs.getD 5 .none = .ref L) (a5 : Builtin.Re.reRawNat (fs.getD 6 .none) = 0) (a6 : Builtin.Re.reRawNat (fs.getD 2 .none) = 0)
    (z2 : C.Z0 L = some oL) (a7 : oL.data = .seq items k) (a8 : (items.map Builtin.Re.reRawOf).map (·.toNat) = code)
structure HNs (C : Cx) (mN : Str → Option Value) : Prop where
  at_ : NsZ C 174 mN
  ga : mN "__getattribute__" = none
  gh : mN "__getattr__" = none
  sa : mN "__setattr__" = none
  hd : mN (sQ "_headers") = none
  ini : mN "__init__" = some (.ref 69)
  conv : mN (sQ "_convert_string_type") = some (.ref 76)
  all : mN (sQ "get_all") = some (.ref 114)
  items : mN (sQ "items") = some (.ref 139)
  add : mN (sQ "add_header") = some (.ref 172)
structure HdrK (C : Cx) : Prop where
  q : Quiet C
  glob : GlobZ C (sQ "Headers") (.ref 175)
  cls : ∃ k2 k3, C.Z0 175 = some (excClassObj (sQ "Headers") (sQ "Headers") 175 174 [.type "object"] [.type "object"] true [] [] false none none none none k2 k3 (some (.bool true)) "object.__new__")
  ns : ∃ mN, HNs C mN
  ns2 : ∃ mN, NsZ C 174 mN ∧ mN "__getattribute__" = none ∧ mN "__getattr__" = none ∧ mN (sQ "get") = some (.ref 122) ∧ mN (sQ "setdefault") = some (.ref 165)
  init : MthAt C 0 69 (sQ "Headers.__init__") (.ref 62)
  initD : C.Z0 62 = some { cls := .type "tuple", data := .seq #[.none] 0 }
  conv : MthAt C 1 76 (sQ "Headers._convert_string_type") .none
  all : MthAt C 7 114 (sQ "Headers.get_all") .none
  items : MthAt C 11 139 (sQ "Headers.items") .none
  get : MthAt C 8 122 (sQ "Headers.get") (.ref 115)
  getD : C.Z0 115 = some { cls := .type "tuple", data := .seq #[.none] 0 }
  setd : MthAt C 15 165 (sQ "Headers.setdefault") .none
  add : MthAt C 16 172 (sQ "Headers.add_header") .none
  reN : PatZ C (sQ "_name_disallowed_re") codeN
  reV : PatZ C (sQ "_value_disallowed_re") codeV
  type : BltZ C (sQ "type") (.type "type")
  str : BltZ C (sQ "str") (.type "str")
  list : BltZ C (sQ "list") (.type "list")
section
variable {C : Cx}
theorem fn_type_str {n : Nat} {x : Str} : FN C n (.type "type") [is (.str x)] (isv (.type "str")) := fn1 fun A s Z v Q E hA I h k => by
  cases h
  exact type_str_val (k _ Z _ (StepX.refl I) rfl)
theorem op_is_type {n : Nat} {T : String} : OP2 C n (compareOp .Is) (isv (.type T)) (isv (.type T)) (is (.bool true)) := fun A s Z u v Q E hA I hu hv k => by
  cases hu; cases hv
  have e : (Value.type T == Value.type T) = true := by simp
  exact wpAny_pure (a := Value.bool (Value.type T == Value.type T)) (by rw [e]; exact k _ Z _ (StepX.refl I) (.bool _))
inductive IsPat (code : Array Nat) (Z : Fz) (v : Value) : Prop where
  | mk (P L : Addr) (oP oL : Obj) (fs items : Array Value) (k : Nat) (e : v = .ref P) (z : Z P = some oP) (a1 : oP.cls = .type "re.Pattern") (a2 : oP.dict = none) (a3 : oP.data = .fields fs) (a4 : fs.getD 5 .none = .ref L) (a5 : Builtin.Re.reRawNat (fs.getD 6 .none) = 0) (a6 : Builtin.Re.reRawNat (fs.getD 2 .none) = 0)
    (z2 : Z L = some oL) (a7 : oL.data = .seq items k) (a8 : (items.map Builtin.Re.reRawOf).map (·.toNat) = code)
theorem IsPat.le {code : Array Nat} {Z Z' : Fz} {v : Value} (k : Le Z Z') (h : IsPat code Z v) : IsPat code Z' v := by
  obtain ⟨P, L, oP, oL, fs, items, kk, e, z, a1, a2, a3, a4, a5, a6, z2, a7, a8⟩ := h
  exact ⟨P, L, oP, oL, fs, items, kk, e, k _ _ z, a1, a2, a3, a4, a5, a6, k _ _ z2, a7, a8⟩
noncomputable def patV (C : Cx) (code : Array Nat) : Vp := ⟨IsPat code, IsPat.le⟩
theorem PatZ.glob {x : Str} {code : Array Nat} (p : PatZ C x code) : GlobP C x (patV C code) := by
  obtain ⟨P, L, oP, oL, fs, items, k, g, z, a1, a2, a3, a4, a5, a6, z2, a7, a8⟩ := p
  exact ⟨_, g, P, L, oP, oL, fs, items, k, rfl, z, a1, a2, a3, a4, a5, a6, z2, a7, a8⟩
theorem hasM_search {code : Array Nat} : HasM C (sQ "search") (patV C code) "re.Pattern.search" := ⟨"re.Pattern", plainAttrs_pattern, slot_search, type_search, fun Z s v I h => by
  obtain ⟨P, L, oP, oL, fs, items, kk, rfl, z, a1, a2, a3, a4, a5, a6, z2, a7, a8⟩ := h
  exact ⟨⟨oP, I.heap _ _ z, a1⟩, fun a h => by cases h; exact ⟨oP, I.heap _ _ z, a2⟩⟩⟩
theorem fn_search {n : Nat} {code : Array Nat} {x : Str} (hx : x.cps.size ≤ 2 ^ 40) (hno : noHit code x.cps 0 = true) : FN C n (.builtin "re.Pattern.search") [patV C code, is (.str x)] (is .none) := fn2 fun A s Z u v Q E hA I h h' k => by
  obtain ⟨P, L, oP, oL, fs, items, kk, rfl, z, a1, a2, a3, a4, a5, a6, z2, a7, rfl⟩ := h
  cases h'
  exact call_search (I.heap _ _ z) a1 a3 a4 a5 a6 (I.heap _ _ z2) a7 hx hno (k _ Z _ (StepX.refl I) .none)
theorem tv_none {n : Nat} {Φ : Asn C} {env : Env} {e : Expr} (he : EV C n Φ (eval e env) (is .none)) (hn : ∀ t, isTrue e env t = (do let v ← t; standAt e.pos; holding [v] (truthy v)) := by intro _; rfl) : TV C n Φ (isTrue e env (eval e env)) false := fun A s Z Q E hA I H k => by
  rw [hn]
  refine wpAny_bind (he A s Z _ E hA I H fun v Z' s' x pv => wpAny_bind (wpAny_standAt (wpAny_holding ?_)))
  cases pv
  exact wpAny_pure (k Z' s' x)
theorem conv_call (K : HdrK C) {n : Nat} (b : Bool) (x : Str) (hx : x.cps.size ≤ 2 ^ 40) (hno : noHit (if b then codeN else codeV) x.cps 0 = true) {A : Around} {s : Shared} {Z : Fz} {self v : Value} {Q : Value → Shared → Prop} {E : Value → Shared → Prop} (hA : Room (n + 2) A) (I : Inv C Z s) (hv : Rd Z v (.str x))
    (k : ∀ v' Z' s', Step C Z s Z' s' → Rd Z' v' (.str x) → Q v' s') : wpAny (model C.prog C.w) A (call (.ref 76) [self, v] [(sQ "name", .bool b)]) Q E s := by
  obtain ⟨doc, pm, c, ho, hcd⟩ := K.conv
  have g1 := K.type
  have g2 := K.str
  have g3 := K.reN.glob
  have g4 := K.reV.glob
  refine clo_enterA (n := n) (args := ⟨[self, v], [(sQ "name", .bool b)]⟩) (vs := [self, v, .bool b]) (fd := mFd (mthSt pw 6 1) (sQ "Headers._convert_string_type") .none doc pm (.ref c)) (xs := [sQ "self", sQ "value", sQ "name"]) (oc := [sQ "self", sQ "value", sQ "name", sQ "regex"])
    (nm := [sQ "self", sQ "value", sQ "name", sQ "regex"]) (ρ := [none, some (is (.str x)), some (is (.bool b)), none]) (ω := []) (sc := (mFd (mthSt pw 6 1) (sQ "Headers._convert_string_type") .none doc pm (.ref c)).scope.names) K.q I hA (I.base _ _ ho) rfl rfl (hcd.le I.base) rfl rfl rfl rfl rfl (BindsTo.of_eq rfl) rfl rfl rfl (by decide +kernel) List.Pairwise.nil (fun _ _ h => nomatch h) (fun _ h => nomatch h) List.Pairwise.nil ?_ ?_ rfl rfl rfl
  · intro L h' hn hk
    exact .un (.va ⟨by decide +kernel, .inl ⟨rfl, _, hn, rfl⟩⟩ hv (.va ⟨by decide +kernel, .inl ⟨rfl, _, hn, rfl⟩⟩ (.bool b) (.un .nil)))
  · intro L X A' s₁ E' hA' I₁ st hX H
    refine eg_run (RA := fun Z h v => Rd Z v (.str x)) (botA C) ?_ hA' I₁ H (fun Z' s' x' H' => H'.elim) fun v Z' s' x' ra => ?_
    rotate_left
    · exact k v Z' s' (((Step.to st).trans x').hide fun b hb => (hX b hb).elim id fun q => nomatch q) ra
    · clear k H
      apply eg_ifs (c := true)
      · apply tv_cmp
        · apply ev_callTt
          · exact g1
          · walk_at "ev"
          · exact fn_type_str
          · exact rfl
          · exact rfl
          · exact rfl
          · exact rfl
        · exact ev_blt g2 rfl rfl
        · exact op_is_type
        · exact rfl
      · intro _
        apply eg_cons (Ψ := FS C _ _ _ _ X [none, some (is (.str x)), some (is (.bool b)), some (patV C (if b then codeN else codeV))] [] _)
        · apply ex_assign (P := patV C (if b then codeN else codeV))
          · apply ev_ifexp
            · apply tv_bool
              · walk_at "ev"
              · intro _; rfl
            · intro hb
              rw [if_pos hb]
              exact ev_globP g3 rfl rfl
            · intro hb
              rw [if_neg (by rw [hb]; decide)]
              exact ev_globP g4 rfl rfl
          · walk_at "at"
          · exact ⟨by decide +kernel, by decide +kernel⟩
          · exact rfl
          · exact rfl
        apply eg_ifs (c := false)
        · apply tv_none
          · apply ev_meth
            · walk_at "ev"
            · exact hasM_search
            · walk_at "ev"
            · exact fn_search hx hno
            · exact rfl
            · exact rfl
            · exact rfl
            · exact rfl
            · exact rfl
          · intro _; rfl
        · intro h; cases h
        · intro _
          apply eg_ret (P := is (.str x))
          · walk_at "ev"
          · intro Z h v H p; exact p
      · intro h; cases h
end
noncomputable def instM (H : Addr) : Str → Option Value := fun y => if y = sQ "_headers" then some (.ref H) else none
theorem instM_none {H : Addr} {y : Str} (h : y ≠ sQ "_headers") : instM H y = none := if_neg h
noncomputable def tabV (H : Addr) : Vp := ⟨fun Z v => ∃ T, v = .ref T ∧ ∀ h : Heap, (∀ b o, Z b = some o → h.get? b = some o) → h.Inst T 175 (instM H), fun k ⟨T, e, h⟩ => ⟨T, e, fun h' k' => h h' fun b o z => k' b o (k b o z)⟩⟩
section
variable {C : Cx}
theorem inst_meth (K : HdrK C) {Z : Fz} {s : Shared} (I : Inv C Z s) {H T f : Addr} {fd : FuncData} {mN : Str → Option Value} {name : Str} {y : Option Value} (N : HNs C mN) (hf : mN name = some (.ref f))
    (hfo : C.Z0 f = some { cls := .type "function", data := .func fd }) (hB : typeLookup (.type "object") name = pure y) (hsh : instM H name = none) (ht : ∀ h : Heap, (∀ b o, Z b = some o → h.get? b = some o) → h.Inst T 175 (instM H))
    {A : Around} {E : Value → Shared → Prop} {Q : Value × List Value → Shared → Prop} {pl : Sem Bool} (q : Q (.ref f, [.ref T]) s) : wpAny (model C.prog C.w) A (getMethod (.ref T) name pl) Q E s := by
  obtain ⟨k2, k3, hC⟩ := K.cls
  have kb : ∀ b o, C.Z0 b = some o → s.heap.get? b = some o := fun b o e => I.heap _ _ (I.base _ _ e)
  obtain ⟨h, g, d, t, os⟩ := s
  exact method_of (kb _ _ hC) (N.at_ _ kb) N.ga N.gh hf (kb _ _ hfo) rfl hB (ht _ I.heap) hsh q
theorem lk_conv : typeLookup (.type "object") (sQ "_convert_string_type") = pure none := by rw [typeLookup_type, builtinLookup_eq_fast]; kernel_rfl
theorem lk_headers : typeLookup (.type "object") (sQ "_headers") = pure none := by rw [typeLookup_type, builtinLookup_eq_fast]; kernel_rfl
theorem lk_add : typeLookup (.type "object") (sQ "add_header") = pure none := by rw [typeLookup_type, builtinLookup_eq_fast]; kernel_rfl
theorem lk_items : typeLookup (.type "object") (sQ "items") = pure none := by rw [typeLookup_type, builtinLookup_eq_fast]; kernel_rfl
theorem lk_all : typeLookup (.type "object") (sQ "get_all") = pure none := by rw [typeLookup_type, builtinLookup_eq_fast]; kernel_rfl
theorem wpAny_constBool {M : Model} {A : Around} {E : Value → Shared → Prop} {s : Shared} {env : Env} {b : Bool} {k : Nat} {p : Pos} {Q : Value → Shared → Prop} (q : Q (.bool b) s) : wpAny M A (eval (.Constant (.bool b) k p) env) Q E s := by
  rw [eval_Constant]; exact wpAny_pure q
theorem ev_convk (K : HdrK C) {n : Nat} {Φ : Asn C} {env : Env} {P : Vp} {o e : Expr} {x : Str} {b : Bool} {kk : Nat} {apos pos cp kp : Pos} (hP : ∀ Z v, P.at_ Z v → ∃ H, (tabV H).at_ Z v) (ho : EV C (n + 2) Φ (eval o env) P) (he : EV C (n + 2) Φ (eval e env) (is (.str x))) (hx : x.cps.size ≤ 2 ^ 40) (hno : noHit (if b then codeN else codeV) x.cps 0 = true)
    (hbase : attributeBase o (sQ "_convert_string_type") env (eval o env) = eval o env := by rfl) (hline : (apos.endLine == pos.line) = true := by rfl) (hst : starEach [e] env = [(false, eval e env)] := by rfl) :
    EV C (n + 2) Φ (eval (.Call (.Attribute o (sQ "_convert_string_type") apos) [e] [⟨some (sQ "name"), .Constant (.bool b) kk cp, kp⟩] pos) env) (is (.str x)) := fun A s Z Q E hA I Hh k => by
  obtain ⟨mN, N⟩ := K.ns
  obtain ⟨doc, pm, c, hfo, hcd⟩ := K.conv
  refine call_own hbase (by rw [hst]; rfl) hline (ho A s Z _ E hA I Hh fun v Z₁ s₁ x₁ pv => ?_)
  obtain ⟨H, T, rfl, ht⟩ := hP _ _ pv
  refine ⟨T, 76, { cls := .type "function", data := .func (mFd (mthSt pw 6 1) (sQ "Headers._convert_string_type") .none doc pm (.ref c)) }, mFd (mthSt pw 6 1) (sQ "Headers._convert_string_type") .none doc pm (.ref c), rfl, rfl, fun E' Q' pl q => inst_meth K x₁.inv (H := H) N N.conv hfo lk_conv (instM_none (by decide +kernel)) ht q, ?_⟩
  rw [hst]
  show wpAny _ A (evalArgs (.ref 76) true ((false, eval e env) :: []) _) _ _ _
  refine evalArgs_kw rfl (Calls.spliced_cons (he A s₁ Z₁ _ E hA x₁.inv (Φ.stable I Hh x₁) fun v Z₂ s₂ x₂ pv => Calls.spliced_nil ?_))
  show wpAny _ A (evalAll [do let v ← eval (.Constant (.bool b) kk cp) env; standAt pos; pure v]) _ _ _
  refine wpAny_evalAll_cons (wpAny_bind (wpAny_constBool (wpAny_bind (wpAny_standAt (wpAny_pure (wpAny_evalAll_nil ?_))))))
  refine ⟨x₂.inv.heap _ _ (x₂.inv.base _ _ hfo), ?_⟩
  exact conv_call K (n := n) b x hx hno hA x₂.inv pv fun v' Z₃ s₃ x₃ p₃ => k v' Z₃ s₃ ((x₁.trans x₂).trans x₃) p₃
theorem load_list (K : HdrK C) {Z : Fz} {s : Shared} (I : Inv C Z s) {H T : Addr} (ht : ∀ h : Heap, (∀ b o, Z b = some o → h.get? b = some o) → h.Inst T 175 (instM H))
    {A : Around} {E : Value → Shared → Prop} {Q : Value → Shared → Prop} {expr : Bool} (q : Q (.ref H) { s with toks := s.toks + 1 }) : wpAny (model C.prog C.w) A (getAttr (.ref T) (sQ "_headers") expr) Q E s := by
  obtain ⟨mN, N⟩ := K.ns
  obtain ⟨k2, k3, hC⟩ := K.cls
  have kb : ∀ b o, C.Z0 b = some o → s.heap.get? b = some o := fun b o e => I.heap _ _ (I.base _ _ e)
  obtain ⟨h, g, d, t, os⟩ := s
  exact load_attr (kb _ _ hC) (N.at_ _ kb) N.ga N.hd lk_headers (ht _ I.heap) (if_pos rfl) rfl q
theorem ex_hdr_append (K : HdrK C) {n : Nat} {X : Addr → Prop} {R : Vp} {env : Env} {nm oc : List Str} {sc : List (Str × NameKind)} {ω ω' : List (Addr × List PV)} {κ : Addr → Option Obj} {ρ : List (Option Vp)} {self : Str} {p1 p2 apos cpos epos : Pos} {elt : Expr} {H : Addr} {d : PV} {ds : List PV}
    (hr : At nm ρ self (tabV H)) (he : EV C n (FS C env nm oc sc X ρ ω κ) (eval elt env) (is d)) (u : OU ω H ds (ds ++ [d]) ω') (hsz : ds.length ≤ sizeLine)
    (hbase : attributeBase (.Attribute (.Name self p1) (sQ "_headers") p2) "append" env (eval (.Attribute (.Name self p1) (sQ "_headers") p2) env) = eval (.Attribute (.Name self p1) (sQ "_headers") p2) env := by rfl) (hline : (apos.endLine == cpos.line) = true := by rfl)
    (hfew : ((backTo cpos (starEach [elt] env)).all (fun x => !x.1) && (backToKw cpos (keywordEach [] env)).all (fun x => x.1.isSome)
      && decide (([elt] : List Expr).length + ([] : List Keyword).length + (if ([] : List Keyword).isEmpty then 0 else 1) < 30)) = true := by rfl)
    (htrees : backTo cpos (starEach [elt] env) = [(false, eval elt env)] := by rfl) (hi : interactive env = false := by rfl) :
    EX C n X (FS C env nm oc sc X ρ ω κ) (exec (.Expr (.Call (.Attribute (.Attribute (.Name self p1) (sQ "_headers") p2) "append" apos) [elt] [] cpos) epos) env) (FS C env nm oc sc X ρ ω' κ) R := fun A s Z Q E hA I Hh kn kr => by
  rw [PySem.exec_Expr (hi := hi) (hs := rfl)]
  refine wpAny_bind (wpAny_standAt (wpAny_bind (wpAny_Call_append hbase hfew hline htrees (Attribute_name (ev_name (n := n) hr A s Z _ E hA I Hh fun v Z₁ s₁ x₁ pv => ?_)))))
  obtain ⟨T, rfl, ht⟩ := pv
  have H₁ := (FS C env nm oc sc X ρ ω κ).stable I Hh x₁
  refine load_list K x₁.inv ht ?_
  have x₁' : Step C Z₁ s₁ Z₁ { s₁ with toks := s₁.toks + 1 } := Step.toks x₁.inv _
  have H₁' := (FS C env nm oc sc X ρ ω κ).stable x₁.inv H₁ x₁'
  obtain ⟨hz, vs, mm, e, rr⟩ := H₁'.own _ u.mem
  refine ⟨H, vs.toArray, rfl, ⟨_, mm, e, rfl, rfl, rfl⟩, ?_⟩
  refine he A _ Z₁ _ E hA x₁'.inv H₁' fun y Z₂ s₂ x₂ py => ?_
  refine call_append x₂.inv ((FS C env nm oc sc X ρ ω κ).stable x₁'.inv H₁' x₂) u py hsz fun s₃ x₃ H₃ => ?_
  rw [dropValue_plain (by intro _ q; cases q)]
  exact wpAny_pure (kn Z₂ s₃ ((((Step.to x₁).trans (Step.to x₁')).trans (Step.to x₂)).trans x₃) H₃)
theorem add_call (K : HdrK C) {n : Nat} {H T : Addr} {hs : List PV} {nm vl : Str} (hn1 : nm.cps.size ≤ 1000) (hn2 : noHit codeN nm.cps 0 = true) (hv1 : vl.cps.size ≤ 1000) (hv2 : noHit codeV vl.cps 0 = true) (hsz : hs.length ≤ sizeLine)
    {A : Around} {s : Shared} {Z : Fz} {vn vv : Value} {Q : Value → Shared → Prop} {E : Value → Shared → Prop} (hA : Room (n + 3) A) (I : Inv C Z s) (ht : (tabV H).at_ Z (.ref T)) (ho : Owned Z s.heap (H, hs)) (hn : Rd Z vn (.str nm)) (hv : Rd Z vv (.str vl))
    (k : ∀ Z' s', StepX C (· = H) Z s Z' s' → Owned Z' s'.heap (H, hs ++ [.tup [.str nm, .str vl]]) → Q .none s') : wpAny (model C.prog C.w) A (call (.ref 172) [.ref T, vn, vv]) Q E s := by
  obtain ⟨doc, pm, c, hfo, hcd⟩ := K.add
  obtain ⟨k2, k3, hC⟩ := K.cls
  refine clo_enterB (n := n + 1) (args := ⟨[.ref T, vn, vv], []⟩) (P := fun Z₀ vs => ∃ d, vs = [.ref T, vn, vv, .ref d] ∧ (tabV H).at_ Z₀ (.ref T) ∧ Rd Z₀ vn (.str nm) ∧ Rd Z₀ vv (.str vl) ∧ (emptyD C).at_ Z₀ (.ref d)) (fd := mFd (mthSt pw 6 16) (sQ "Headers.add_header") .none doc pm (.ref c)) (xs := [sQ "self", sQ "_name", sQ "_value", sQ "_params"]) (oc := [sQ "self", sQ "_name", sQ "_value", sQ "_params", sQ "parts", sQ "k", sQ "v"])
    (nm := [sQ "self", sQ "_name", sQ "_value", sQ "_params", sQ "parts", sQ "k", sQ "v"]) (ρ := [some (tabV H), some (is (.str nm)), some (is (.str vl)), some (emptyD C), none, none, none]) (ω := [(H, hs)]) (sc := (mFd (mthSt pw 6 16) (sQ "Headers.add_header") .none doc pm (.ref c)).scope.names) K.q I hA (I.base _ _ hfo) rfl rfl (hcd.le I.base) rfl rfl rfl rfl rfl rfl ?_ rfl rfl (by decide +kernel) ?_ ?_ ?_ ?_ rfl rfl rfl
  · intro Q' E' kk
    show wpAny _ _ (alloc { cls := .type "dict", data := .dict #[] } >>= fun d => pure [(sQ "self", .ref T), (sQ "_name", vn), (sQ "_value", vv), (sQ "_params", .ref d)]) Q' E' s
    refine wpAny_bind (wpAny_alloc ?_)
    have st := StepX.alloc (X := No) I (o := { cls := .type "dict", data := .dict #[] }) (t := s.toks) rfl
    have hlow : 175 < s.heap.objs.size := Heap.lt_size (I.heap _ _ (I.base _ _ hC))
    obtain ⟨o₀, hd, ho₀⟩ := Heap.dictOf_iff.mp (Heap.DictOf.new (knd := PySem.strKind C.prog C.w) s.heap)
    have eo : o₀ = { cls := .type "dict", data := .dict #[] } := by
      have := Heap.get?_push_size s.heap (o := { cls := .type "dict", data := .dict #[] }) rfl
      rw [this] at hd; cases hd; rfl
    refine wpAny_pure (kk [.ref T, vn, vv, .ref s.heap.objs.size] _ _ rfl st ⟨_, rfl, Vp.mono _ st.le ht, hn.le st.le, hv.le st.le, _, _, rfl, ?_, put_self, eo ▸ ho₀⟩)
    have : s.heap.objs.size ≠ sysModules := fun e => by rw [e] at hlow; revert hlow; decide
    simpa using this
  · intro p hp; cases List.mem_singleton.mp hp; exact ho
  · simp
  · rintro L h' vs Z₀ ⟨d, rfl, h1, h2, h3, h4⟩ hns
    exact .va ⟨by decide +kernel, .inl ⟨rfl, _, hns, rfl⟩⟩ h1 (.va ⟨by decide +kernel, .inl ⟨rfl, _, hns, rfl⟩⟩ h2 (.va ⟨by decide +kernel, .inl ⟨rfl, _, hns, rfl⟩⟩ h3 (.va ⟨by decide +kernel, .inl ⟨rfl, _, hns, rfl⟩⟩ h4 (.un (.un (.un .nil))))))
  · intro L X A' Z₀ s₁ E' hA' I₁ st hX Hh
    refine eg_run (RA := fun Z h v => False) (ownAsn C H (hs ++ [.tup [.str nm, .str vl]])) ?_ hA' I₁ Hh (fun Z' s' x' H' => ?_) fun v Z' s' x' ra => ra.elim
    rotate_left
    · exact k Z' s' (((Step.to st).trans x').hideY fun b hb => (hX b hb).imp id fun q => by simpa using q) H'
    · clear k Hh
      apply eg_new (ρ' := fun P => [some (tabV H), some (is (.str nm)), some (is (.str vl)), some (emptyD C), some (isv (.ref P)), none, none]) (ds := [])
      · apply evn_listL
        · walk_at "ev"
        · walk_at "at"
        · exact Nat.le_of_ble_eq_true rfl
      · intro P; exact .there (.there (.there (.there .here)))
      · exact ⟨by decide +kernel, by decide +kernel⟩
      · exact rfl
      · exact rfl
      · intro P
        apply eg_ifs (c := true)
        · apply tv_cmp
          · walk_at "ev"
          · walk_at "ev"
          · exact op_isnot_none
          · exact rfl
        · intro _
          apply eg_cons
          · apply ex_assign
            · apply ev_convk K (b := false) (fun _ _ h => ⟨H, h⟩)
              · walk_at "ev"
              · walk_at "ev"
              · lia
              · exact hv2
            · walk_at "at"
            · exact ⟨by decide +kernel, by decide +kernel⟩
            · exact rfl
            · exact rfl
          apply eg_cons
          · apply ex_append (d := .str vl) (ds := [])
            · walk_at "at"
            · walk_at "ev"
            · exact OU.here
            · exact Nat.le_of_ble_eq_true rfl
          apply eg_cons
          · apply ex_for (ds := []) (ρs := fun _ => [some (tabV H), some (is (.str nm)), some (is (.str vl)), some (emptyD C), some (isv (.ref P)), none, none]) (ωs := fun _ => [(P, [.str vl]), (H, hs)])
            · apply it_dict0
              · walk_at "ev"
              · exact rfl
              · exact rfl
            · intro i; rfl
            · intro κ' i d hd; simp at hd
          apply eg_freeze .here (.same (.same (.same (.same (.it (.same (.same .nil)))))))
          apply eg_cons
          · apply ex_hdr_append K (H := H) (d := .tup [.str nm, .str vl]) (ds := hs)
            · walk_at "at"
            · apply ev_tupL
              · apply el_cons
                · apply ev_convk K (b := true) (fun _ _ h => ⟨H, h⟩)
                  · walk_at "ev"
                  · walk_at "ev"
                  · lia
                  · exact hn2
                · apply el_cons
                  · apply ev_d (d' := .str vl)
                    · apply ev_meth
                      · walk_at "ev"
                      · exact hasM_join
                      · walk_at "ev"
                      · apply fn_join (xs := [vl])
                        · show vl.cps.size ≤ sizeLine
                          rw [sizeLine_eq]; lia
                        · show decide (0 + vl.cps.size + _ > sizeLine) = false
                          rw [decide_eq_false_iff_not, sizeLine_eq]
                          have : (sQ "; ").length = 2 := by decide +kernel
                          lia
                      · exact rfl
                      · exact rfl
                      · exact rfl
                      · exact rfl
                      · exact rfl
                    · show PV.str (Builtin.Str.glued _ [vl]) = _
                      rfl
                  · walk_at "ev"
                  · exact rfl
                · exact rfl
              · walk_at "at"
              · exact Nat.le_of_ble_eq_true rfl
            · exact OU.here
            · exact hsz
          apply eg_end
          intro Z h H
          exact H.own _ (.head _)
        · intro h; cases h
end
noncomputable def tabF (hs : List PV) : Vp := ⟨fun Z v => ∃ T H, v = .ref T ∧ (∀ h : Heap, (∀ b o, Z b = some o → h.get? b = some o) → h.Inst T 175 (instM H)) ∧ Rd Z (.ref H) (.list hs), fun k ⟨T, H, e, h, r⟩ => ⟨T, H, e, fun h' k' => h h' fun b o z => k' b o (k b o z), r.le k⟩⟩
theorem tabF_tabV {Z : Fz} {hs : List PV} {v : Value} (h : (tabF hs).at_ Z v) : ∃ H, (tabV H).at_ Z v := let ⟨T, H, e, i, _⟩ := h; ⟨H, T, e, i⟩
noncomputable abbrev hpV (p : Str × Str) : PV := .tup [.str p.1, .str p.2]
section
variable {C : Cx}
theorem codeZ_of {c : Addr} {q : Str} (h : CodeIn C.Z0 c q) : CodeZ C (.ref c) q := let ⟨o, vs, t, e1, e2, e3⟩ := h; ⟨c, o, vs, t, rfl, e1, e2, e3⟩
theorem ex_add (K : HdrK C) {n : Nat} {X : Addr → Prop} {R : Vp} {env : Env} {nm oc : List Str} {sc : List (Str × NameKind)} {ω ω' : List (Addr × List PV)} {κ : Addr → Option Obj} {ρ : List (Option Vp)} {x : Str} {p1 apos cpos epos : Pos} {e1 e2 : Expr} {H : Addr} {a b : Str} {hs : List PV}
    (hr : At nm ρ x (tabV H)) (he : EL C (n + 3) (FS C env nm oc sc X ρ ω κ) (spliced (backTo cpos (starEach [e1, e2] env))) [is (.str a), is (.str b)]) (u : OU ω H hs (hs ++ [hpV (a, b)]) ω') (hsz : hs.length ≤ sizeLine)
    (hn1 : a.cps.size ≤ 1000) (hn2 : noHit codeN a.cps 0 = true) (hv1 : b.cps.size ≤ 1000) (hv2 : noHit codeV b.cps 0 = true)
    (hbase : attributeBase (.Name x p1) (sQ "add_header") env (eval (.Name x p1) env) = eval (.Name x p1) env := by rfl) (hline : (apos.endLine == cpos.line) = true := by rfl)
    (hform : methodCallForm (([e1, e2] : List Expr).length + ([] : List Keyword).length) (backTo cpos (starEach [e1, e2] env)) (backToKw cpos (keywordEach [] env)) = true := by rfl) (hst : starEach [e1, e2] env = (false, eval e1 env) :: starEach [e2] env := by rfl) (hi : interactive env = false := by rfl) :
    EX C (n + 3) X (FS C env nm oc sc X ρ ω κ) (exec (.Expr (.Call (.Attribute (.Name x p1) (sQ "add_header") apos) [e1, e2] [] cpos) epos) env) (FS C env nm oc sc X ρ ω' κ) R := fun A s Z Q E hA I Hh kn kr => by
  obtain ⟨mN, N⟩ := K.ns
  obtain ⟨doc, pm, c, hfo, hcd⟩ := K.add
  rw [PySem.exec_Expr (hi := hi) (hs := rfl)]
  refine wpAny_bind (wpAny_standAt (wpAny_bind (call_own hbase hform hline (ev_name (n := n + 3) hr A s Z _ E hA I Hh fun v Z₁ s₁ x₁ pv => ?_))))
  have H₁ := (FS C env nm oc sc X ρ ω κ).stable I Hh x₁
  have pv0 := pv
  obtain ⟨T, rfl, ht⟩ := pv
  refine ⟨T, 172, { cls := .type "function", data := .func (mFd (mthSt pw 6 16) (sQ "Headers.add_header") .none doc pm (.ref c)) }, mFd (mthSt pw 6 16) (sQ "Headers.add_header") .none doc pm (.ref c), rfl, rfl, fun E' Q' pl q => inst_meth K x₁.inv (H := H) N N.add hfo lk_add (instM_none (by decide +kernel)) ht q, ?_⟩
  have he' := he A s₁ Z₁
  rw [hst] at he' ⊢
  refine Calls.evalArgs_plain (he' _ E hA x₁.inv H₁ fun vs Z₂ s₂ x₂ ps => ⟨x₂.inv.heap _ _ (x₂.inv.base _ _ hfo), ?_⟩)
  have H₂ := (FS C env nm oc sc X ρ ω κ).stable x₁.inv H₁ x₂
  obtain ⟨v1, _, rfl, r1, ps⟩ := sati ps
  obtain ⟨v2, _, rfl, r2, ps⟩ := sati ps
  obtain rfl := sati ps
  refine add_call K (n := n) hn1 hn2 hv1 hv2 hsz hA x₂.inv (Vp.mono _ x₂.le pv0) (H₂.own _ u.mem) r1 r2 fun Z₃ s₃ x₃ ho => ?_
  obtain ⟨st, H₃⟩ := H₂.reown x₂.inv u x₃ ho
  rw [dropValue_plain (by intro _ q; cases q)]
  exact wpAny_pure (kn Z₃ s₃ (((Step.to x₁).trans (Step.to x₂)).trans st) H₃)
theorem ev_hdrF (K : HdrK C) {n : Nat} {X : Addr → Prop} {env : Env} {nm oc : List Str} {sc : List (Str × NameKind)} {ω : List (Addr × List PV)} {κ : Addr → Option Obj} {ρ : List (Option Vp)} {self : Str} {p1 p2 : Pos} {hs : List PV} (hr : At nm ρ self (tabF hs)) :
    EV C n (FS C env nm oc sc X ρ ω κ) (eval (.Attribute (.Name self p1) (sQ "_headers") p2) env) (is (.list hs)) := fun A s Z Q E hA I Hh k => by
  refine Attribute_name (ev_name (n := n) hr A s Z _ E hA I Hh fun v Z₁ s₁ x₁ pv => ?_)
  obtain ⟨T, H, rfl, ht, hr⟩ := pv
  exact load_list K x₁.inv ht (k _ Z₁ _ (x₁.trans (Step.toks x₁.inv _)) hr)
theorem pick_all {ds : List PV} : pickL ds none none none = ds := by
  unfold pickL
  have e : sliceBounds none none none ds.length = (((0 : Nat) : Int), ((ds.length : Nat) : Int), 1) := by
    simp [sliceBounds]
  rw [e]
  show List.filterMap (ds[·]?) (sliceRange ((0 : Nat) : Int) ((ds.length : Nat) : Int) 1) = ds
  rw [sliceRange_one, Nat.sub_zero]
  have := pick_run ds.toArray 0 ds.length
  simp at this ⊢
  exact this
theorem fn_items (K : HdrK C) {hs : List PV} (hsz : hs.length ≤ sizeLine) : FN C 2 (.ref 139) [tabF hs] (is (.list hs)) := by
  obtain ⟨doc, pm, c, hfo, hcd⟩ := K.items
  refine fn_def (n := 0) (sc := scOf (mthSt pw 6 11)) (ρ := [some (tabF hs)]) (nm := [sQ "self"]) (xs := [sQ "self"]) K.q hfo rfl (codeZ_of hcd) rfl rfl rfl rfl rfl (bnd1 fun _ => by kernel_rfl) rfl (by decide +kernel) (by decide +kernel) (by decide +kernel) rfl rfl fun L X => ?_
  apply ex_ret
  apply ev_d
  · apply ev_slice_listT
    · apply ev_hdrF K
      walk_at "at"
    · exact pt_none
    · exact pt_none
    · exact hsz
  · rw [pick_all]
noncomputable def lowT (x : Str) : Str := ⟨placed x fun i _ => Unicode.lowerAt x.cps i⟩
theorem fn_all (K : HdrK C) {hs : List (Str × Str)} {x : Str} (hsz : hs.length ≤ sizeLine) (hx0 : (lowT x).cps.size ≤ 1000) (hno : noHit codeN (lowT x).cps 0 = true) (hlow : ∀ p ∈ hs, (lowT p.1).cps.size ≤ 1000) :
    FN C 3 (.ref 114) [tabF (hs.map hpV), is (.str x)] (is (.list ((hs.filter fun p => lowT p.1 == lowT x).map fun p => .str p.2))) := by
  obtain ⟨doc, pm, c, hfo, hcd⟩ := K.all
  refine fn_def (n := 1) (sc := scOf (mthSt pw 6 7)) (ρ := [some (tabF (hs.map hpV)), some (is (.str x))]) (nm := [sQ "self", sQ "name"]) (xs := [sQ "self", sQ "name"]) K.q hfo rfl (codeZ_of hcd) rfl rfl rfl rfl rfl (bnd2 fun _ _ => by kernel_rfl) rfl (by decide +kernel) (by decide +kernel) (by decide +kernel) rfl rfl fun L X => ?_
  have tl : ∀ {y : Str}, (lowT y).cps.size ≤ 1000 → Builtin.Str.tooLong (placed y fun i _ => Unicode.lowerAt y.cps i).size = false := fun h => by
    unfold Builtin.Str.tooLong
    rw [decide_eq_false_iff_not, sizeLine_eq]
    have h' : (placed _ fun i _ => Unicode.lowerAt _ i).size ≤ 1000 := h
    lia
  apply ex_cons (Ψ := FS C _ _ _ _ X [some (tabF (hs.map hpV)), some (is (.str (lowT x)))] [] _)
  · apply ex_assign
    · apply ev_convk K (b := true) (x := lowT x) (fun _ _ h => tabF_tabV h)
      · walk_at "ev"
      · apply ev_meth0
        · walk_at "ev"
        · exact hasM_lower
        · exact fn_lower (tl hx0)
        · exact rfl
        · exact rfl
      · lia
      · exact hno
    · walk_at "at"
    · decide +kernel
    · rfl
    · exact rfl
  apply ex_ret
  apply ev_d
  · apply ev_comp1if
    apply comp1if_ok (xs := hs) (f := hpV) (h := fun p => .str p.2) (p := fun p => lowT p.1 == lowT x)
    · apply it_eq
      · apply it_list
        (apply ev_hdrF K; walk_at "at")
      · exact rfl
    · walk_at "at"
    · exact rfl
    · decide +kernel
    · exact rfl
    · exact hsz
    · intro cenv X' j hx
      apply ex_mk4
      · walk_at "at"
      · walk_at "at"
      · intro ω κ
        have hl := hlow _ hx
        apply tv_eq
        · apply tv_cmp
          · apply ev_meth0
            · apply ev_sub
              · walk_at "ev"
              · walk_at "ev"
              · walk_at "op"
            · exact hasM_lower
            · exact fn_lower (tl hl)
            · exact rfl
            · exact rfl
          · walk_at "ev"
          · walk_at "op"
          · exact rfl
        · rfl
      · intro _ ω κ
        apply ev_sub
        · walk_at "ev"
        · walk_at "ev"
        · walk_at "op"
  · rfl
end
theorem inst_keep {h h' : Heap} {x Cc dx : Addr} {mA : Str → Option Value} (i : h.Inst x Cc mA) (hd : ∀ o, h.get? x = some o → o.dict = some dx) (k1 : ∀ o, h.get? x = some o → h'.get? x = some o) (k2 : ∀ o, h.get? dx = some o → h'.get? dx = some o) : h'.Inst x Cc mA := by
  obtain ⟨o, e, hc, hn, hdd⟩ := i
  refine ⟨o, k1 o e, hc, hn, ?_⟩
  rcases hdd with q | ⟨d, e2, hne, hns⟩
  · exact .inl q
  · have := hd o e
    rw [this] at e2; cases e2
    exact .inr ⟨dx, this, hne, hns.at k2⟩
theorem get_uniq {h : Heap} {a : Addr} {o o' : Obj} (e : h.get? a = some o) (e' : h.get? a = some o') : o = o' := Option.some.inj (e.symm.trans e')
inductive InstD (h : Heap) (T dx : Addr) : Prop where
  | mk {oT od : Obj} {es : Array DictEntry} {ep : Nat} (eT : h.get? T = some oT) (hc : oT.cls = .ref 175) (dT : oT.dict = some dx) (ne : dx ≠ T) (eD : h.get? dx = some od) (dD : od.data = .dict es ep)
theorem inst_d {h : Heap} {T dx : Addr} {mA : Str → Option Value} (i : h.Inst T 175 mA) (hd : ∀ o, h.get? T = some o → o.dict = some dx) : InstD h T dx := by
  obtain ⟨oT, eT, hc, _, hdic⟩ := i
  rcases hdic with ⟨q, _⟩ | ⟨dx', e', hne, od, es, ep, eD, hD, _⟩
  · exact nomatch q.symm.trans (hd oT eT)
  · cases e'.symm.trans (hd oT eT)
    exact .mk eT hc e' hne eD hD
theorem inst_keep2 {h h' : Heap} {x Cc dx : Addr} {oT od oT' od' : Obj} {mA : Str → Option Value} (i : h.Inst x Cc mA) (e1 : h.get? x = some oT) (hd : oT.dict = some dx) (e2 : h.get? dx = some od) (f1 : h'.get? x = some oT') (f2 : h'.get? dx = some od') (q1 : oT = oT' := by rfl) (q2 : od = od' := by rfl) : h'.Inst x Cc mA := by
  subst q1; subst q2
  exact inst_keep i (fun o e => get_uniq e1 e ▸ hd) (fun o e => get_uniq e1 e ▸ f1) fun o e => get_uniq e2 e ▸ f2
theorem no_tabC {o : Obj} {C : Addr} (h : o.cls = .ref C) (ps) : o ≠ tabObj ps := fun q => by rw [q] at h; cases h
theorem no_tabD {o : Obj} {es : Array DictEntry} {ep : Nat} (h : o.data = .dict es ep) (ps) : o ≠ tabObj ps := fun q => by rw [q] at h; cases h
theorem own_ne {Z : Fz} {h : Heap} {H T dx : Addr} {ds : List PV} (ho : Owned Z h (H, ds)) (i : InstD h T dx) : T ≠ H ∧ dx ≠ H := by
  obtain ⟨_, vs, m, e, _⟩ := ho
  have e : h.get? H = some { cls := .type "list", data := .seq vs.toArray m } := e
  obtain ⟨eT, hc, _, _, eD, hD⟩ := i
  constructor
  · rintro rfl
    rw [get_uniq eT e] at hc; cases hc
  · rintro rfl
    rw [get_uniq eD e] at hD; cases hD
section
variable {C : Cx}
noncomputable def twoK (T dx : Addr) (oT od : Obj) : Addr → Option Obj := fun b => if b = T then some oT else if b = dx then some od else none
theorem FSp.two {env : Env} {nm oc : List Str} {sc : List (Str × NameKind)} {X : Addr → Prop} {ρ : List (Option Vp)} {ω : List (Addr × List PV)} {Z : Fz} {s : Shared} {T dx : Addr} {oT od : Obj} (I : Inv C Z s) (H : FSp env nm oc sc X ρ ω (fun _ => none) Z s.heap) (hT : s.heap.get? T = some oT) (hD : s.heap.get? dx = some od) (zT : Z T = none) (zD : Z dx = none)
    (nT : ∀ ps, oT ≠ tabObj ps) (nD : ∀ ps, od ≠ tabObj ps) (XT : X T) (XD : X dx) (lT : T ≠ env.locals) (lD : dx ≠ env.locals) (hcl : env.cells = []) (wT : ∀ p ∈ ω, T ≠ p.1) (wD : ∀ p ∈ ω, dx ≠ p.1) : FSp env nm oc sc X ρ ω (twoK T dx oT od) Z s.heap := by
  refine ⟨H.names, H.gl, H.bl, H.cellH, H.fn, H.nodup, H.apart, H.loc, H.locX, H.locZ, H.cells, H.cellX, H.cof, H.vars, H.own, H.ownX, H.ownN, fun b o e => ?_, fun b o e => ?_⟩
  · unfold twoK at e
    split at e
    · rename_i q; cases e; subst q
      exact ⟨zT, hT, nT, lT, (fun n c hc => by rw [hcl] at hc; cases hc), wT⟩
    · split at e
      · rename_i q; cases e; subst q
        exact ⟨zD, hD, nD, lD, (fun n c hc => by rw [hcl] at hc; cases hc), wD⟩
      · cases e
  · unfold twoK at e
    split at e
    · rename_i q; subst q; exact XT
    · split at e
      · rename_i q; subst q; exact XD
      · cases e
theorem FSp.none_held {env : Env} {nm oc : List Str} {sc : List (Str × NameKind)} {X : Addr → Prop} {ρ : List (Option Vp)} {ω : List (Addr × List PV)} {κ : Addr → Option Obj} {Z : Fz} {h : Heap} (H : FSp env nm oc sc X ρ ω κ Z h) : FSp env nm oc sc X ρ ω (fun _ => none) Z h :=
  ⟨H.names, H.gl, H.bl, H.cellH, H.fn, H.nodup, H.apart, H.loc, H.locX, H.locZ, H.cells, H.cellX, H.cof, H.vars, H.own, H.ownX, H.ownN, (fun _ _ h => nomatch h), fun _ _ h => nomatch h⟩
inductive FinT (h0 : Heap) (T dx : Addr) (Z : Fz) (h : Heap) : Prop where
  | mk {Hd : Addr} {od oT : Obj} (ho : Owned Z h (Hd, [])) (h0' : h0.get? Hd = none) (hi : h.Inst T 175 (instM Hd)) (zT : Z T = none) (zD : Z dx = none) (eT : h.get? T = some oT) (ed : oT.dict = some dx) (eD : h.get? dx = some od) (nT : ∀ ps, oT ≠ tabObj ps) (nD : ∀ ps, od ≠ tabObj ps)
noncomputable def finA (C : Cx) (h0 : Heap) (T dx : Addr) : Asn C := ⟨FinT h0 T dx, fun I hh x => by
  obtain ⟨ho, h0', hi, zT, zD, eT, ed, eD, nT, nD⟩ := hh
  have kT := x.keep _ _ eT (fun q => q) (I.tab_fields eT nT)
  have kD := x.keep _ _ eD (fun q => q) (I.tab_fields eD nD)
  exact ⟨(ownAsn C _ []).stable I ho x, h0', inst_keep2 hi eT ed eD kT kD, x.stillNone zT eT (fun q => q), x.stillNone zD eD (fun q => q), kT, ed, kD, nT, nD⟩⟩
theorem headers_call (K : HdrK C) {n : Nat} {A : Around} {s : Shared} {Z : Fz} {Q : Value → Shared → Prop} {E : Value → Shared → Prop} (hA : Room (n + 3) A) (I : Inv C Z s)
    (k : ∀ T H Z' s', Step C Z s Z' s' → s.heap.get? H = none → Owned Z' s'.heap (H, []) → (tabV H).at_ Z' (.ref T) → Q (.ref T) s') : wpAny (model C.prog C.w) A (call (.ref 175) []) Q E s := by
  obtain ⟨mN, N⟩ := K.ns
  obtain ⟨k2, k3, hC⟩ := K.cls
  obtain ⟨doc, pm, c, hfo, hcd⟩ := K.init
  have kb : ∀ {b o}, C.Z0 b = some o → s.heap.get? b = some o := fun e => I.heap _ _ (I.base _ _ e)
  have t1 := K.type
  have t2 := K.list
  obtain ⟨h, g, d, t, os⟩ := s
  refine wpAny_call_obj_init F.objNew (kb hC) (N.at_ _ fun b o e => kb e) N.ini (kb hfo) rfl fun h' T dx hm => ?_
  have x0 : Step C Z ⟨h, g, d, t, os⟩ Z ⟨h', g, d, t, os⟩ := .keeps I hm.keeps
  have hA1 : Room (n + 2) (A.under (.builtin "type.__call__" ⟨[.ref 175], []⟩)) := ⟨by
    have := hA.depth; show A.depth + (Code.builtin "type.__call__" ⟨[.ref 175], []⟩).weight + _ ≤ _
    have : (Code.builtin "type.__call__" ⟨[.ref 175], []⟩).weight = 1 := by decide +kernel
    lia, by
    have := hA.units; show A.units + (Code.builtin "type.__call__" ⟨[.ref 175], []⟩).cUnits + _ ≤ _
    have : (Code.builtin "type.__call__" ⟨[.ref 175], []⟩).cUnits ≤ 8 := by decide +kernel
    lia, hA.handled⟩
  refine clo_enterW (n := n) (args := ⟨[.ref T], []⟩) (vs := [.ref T, .none]) (fd := mFd (mthSt pw 6 0) (sQ "Headers.__init__") (.ref 62) doc pm (.ref c)) (xs := [sQ "self", sQ "headers"]) (oc := [sQ "self", sQ "headers", sQ "k", sQ "v"])
    (nm := [sQ "self", sQ "headers", sQ "k", sQ "v"]) (ρ := [some (isv (.ref T)), some (is .none), none, none]) (ω := []) (sc := scOf (mthSt pw 6 0)) (Q := fun r s' => r = .none ∧ Q (.ref T) s') K.q x0.inv hA1 (x0.inv.base _ _ hfo) rfl rfl (hcd.le x0.inv.base) rfl rfl rfl rfl rfl (BindsTo.of_defaults rfl (x0.inv.heap _ _ (x0.inv.base _ _ K.initD)) rfl rfl rfl) rfl rfl rfl (by decide +kernel) List.Pairwise.nil (fun _ _ h => nomatch h)
    (fun a => h.get? a = none) (fun a ha => (x0.gone ha).elim id fun q => q.elim) (fun _ h => nomatch h) (fun _ h => nomatch h) List.Pairwise.nil ?_ ?_ rfl rfl rfl
  · intro L h₂ hn hk
    exact .va ⟨by decide +kernel, .inl ⟨rfl, _, hn, rfl⟩⟩ rfl (.va ⟨by decide +kernel, .inl ⟨rfl, _, hn, rfl⟩⟩ .none (.un (.un .nil)))
  · intro L A' s₁ E' hA' I₁ st hL H0
    have i0 := inst_d hm.inst hm.dict
    obtain @⟨oT, od, es, ep, eT, hcT, edx, hneD, eD, hdD⟩ := i0
    have nT := no_tabC hcT
    have nD := no_tabD hdD
    have zT : Z T = none := I.fresh hm.newX
    have zD : Z dx = none := I.fresh hm.newD
    have eT1 := st.keep _ _ eT (fun q => q) (x0.inv.tab_fields eT nT)
    have eD1 := st.keep _ _ eD (fun q => q) (x0.inv.tab_fields eD nD)
    have lT : T ≠ L := fun q => by rw [q] at eT; rw [hL] at eT; cases eT
    have lD : dx ≠ L := fun q => by rw [q] at eD; rw [hL] at eD; cases eD
    have H1 := H0.two I₁ eT1 eD1 zT zD nT nD hm.newX hm.newD lT lD rfl (fun _ h => nomatch h) (fun _ h => nomatch h)
    refine eg_run (RA := fun Z h v => False) (finA C h T dx) ?_ hA' I₁ H1 (fun Z' s' x' H' => ?_) fun v Z' s' x' ra => ra.elim
    rotate_left
    · obtain @⟨Hd, od', oT', ho, h0', hi, zT', zD', eT', ed', eD', nT', nD'⟩ := H'
      refine ⟨rfl, ?_⟩
      have xx : Step C Z ⟨h, g, d, t, os⟩ Z' s' := (((Step.to x0).trans (Step.to st)).trans x').hide fun b hb => hb
      have f1 := StepX.freeze (X := fun b => b = T ∨ b = dx) x'.inv (.inl rfl) zT' eT' (x'.inv.tab_fields eT' nT')
      have zD'' : put Z' T oT' dx = none := by rw [put_ne hneD]; exact zD'
      have f2 := StepX.freeze (X := fun b => b = T ∨ b = dx) f1.inv (.inr rfl) zD'' eD' (x'.inv.tab_fields eD' nD')
      have ff : Step C Z ⟨h, g, d, t, os⟩ _ s' := (((xx.to).trans f1).trans f2).hide fun b hb => by
        rcases hb with rfl | rfl
        · exact hm.newX
        · exact hm.newD
      have nH := own_ne ho (inst_d hi fun o e => get_uniq eT' e ▸ ed')
      refine k T Hd _ s' ff h0' ?_ ⟨T, rfl, fun h2 k2 => ?_⟩
      · obtain ⟨z, vs, m, e, r⟩ := ho
        refine ⟨?_, vs, m, e, r.le (f1.le.trans f2.le)⟩
        rw [put_ne (Ne.symm nH.2), put_ne (Ne.symm nH.1)]; exact z
      · exact inst_keep2 hi eT' ed' eD' (k2 _ _ (by rw [put_ne (Ne.symm hneD)]; exact put_self)) (k2 _ _ put_self)
    · clear H0 H1
      apply eg_new (ρ' := fun Hd => [some (isv (.ref T)), some (isv (.ref Hd)), none, none]) (ds := [])
      · apply evn_ifexpF
        · apply tv_cmp
          · walk_at "ev"
          · walk_at "ev"
          · exact op_isnot_nn
          · exact rfl
        · apply evn_listL
          · walk_at "ev"
          · walk_at "at"
          · exact Nat.le_of_ble_eq_true rfl
      · intro Hd; exact .there .here
      · exact ⟨by decide +kernel, by decide +kernel⟩
      · exact rfl
      · exact rfl
      · intro Hd
        apply eg_ifs (c := false)
        · apply tv_cmp
          · apply ev_type_own (ds := []) t1
            · walk_at "at"
            · exact .head _
            · exact rfl
          · exact ev_blt t2 rfl rfl
          · exact op_isnot_type
          · exact rfl
        · intro h; cases h
        · intro _
          show EXG _ _ _ _ (execs (_ :: _) _) _ _
          intro A s Z Q E hA I Hf kn kr
          refine wpAny_execs_cons (plainObj_wpAny_Assign_Attribute (ev_name (n := n + 1) (At.there At.here) A s Z _ E hA I Hf fun v Z₂ s₂ x₂ pv => ?_))
          cases pv
          have H2 := (FS C _ _ _ _ _ _ _ _).stable I Hf x₂
          refine ev_name (n := n + 1) At.here A s₂ Z₂ _ E hA x₂.inv H2 fun v Z₃ s₃ x₃ pv => ?_
          cases pv
          have H3 := (FS C _ _ _ _ _ _ _ _).stable x₂.inv H2 x₃
          have hT3 := H3.held T oT (if_pos rfl)
          have hD3 := H3.held dx od (by unfold twoK; rw [if_neg hneD, if_pos rfl])
          have hi3 : s₃.heap.Inst T 175 (fun _ => none) := inst_keep2 hm.inst eT edx eD hT3.at_ hD3.at_
          have hTC : T ≠ 175 := fun q => by have e1 := kb hC; have e2 := hm.newX; rw [q, e1] at e2; cases e2
          have kb3 : ∀ b o, C.Z0 b = some o → s₃.heap.get? b = some o := fun b o e => x₃.inv.heap _ _ (x₃.inv.base _ _ e)
          have I3 := x₃.inv
          obtain ⟨h3, g3', d3, t3, os3⟩ := s₃
          refine store_attr F.store_object (kb3 _ _ hC) (N.at_ _ kb3) N.sa N.hd lk_headers hTC hi3 (fun h4 tk4 hi4 hk4 hT4 => ?_)
          obtain ⟨oT4, eT4, hcT4, hdT4, hsT4, hddT4⟩ := hT4 oT hT3.at_
          have edx4 := hddT4 dx edx
          obtain @⟨oT5, od4, es4, ep4, eT5, hcT5, _, hneD5, eD4, hdD4⟩ := inst_d hi4 fun o e => get_uniq eT4 e ▸ edx4
          have hk4' : ∀ b o, ¬ (b = T ∨ b = dx) → h3.get? b = some o → h4.get? b = some o := fun b o hb e => hk4 b o (fun q => hb (.inl q)) (fun o₀ dx' e0 e1 q => hb (.inr (q.trans (Option.some.inj (e1.symm.trans (get_uniq hT3.at_ e0 ▸ edx)))))) e
          have x4 : StepX C (fun b => b = T ∨ b = dx) Z₃ ⟨h3, g3', d3, t3, os3⟩ Z₃ ⟨h4, g3', d3, tk4, os3⟩ := StepX.writes (t := tk4) I3 (W := fun b => b = T ∨ b = dx) (fun _ q => q) hk4' (fun b q => by rcases q with rfl | rfl; exact hT3.z; exact hD3.z) fun b q => by
            rcases q with rfl | rfl
            · exact I3.tab_fields hT3.at_ nT
            · exact I3.tab_fields hD3.at_ nD
          have H4 := H3.none_held.stepY I3 x4 (fun q => by rcases q with q | q; exact hT3.loc q.symm; exact hD3.loc q.symm) (fun n c hc => by cases hc) (fun p hp q => by rcases q with q | q; exact hT3.own p hp q.symm; exact hD3.own p hp q.symm) (fun _ _ h => nomatch h) (fun b q => by
            rcases q with rfl | rfl
            · exact ⟨_, eT4⟩
            · exact ⟨_, eD4⟩)
          have nT4 := no_tabC (hcT4.trans hcT)
          have nD4 := no_tabD hdD4
          have H5 := H4.two x4.inv eT4 eD4 hT3.z hD3.z nT4 nD4 hm.newX hm.newD hT3.loc hD3.loc rfl hT3.own hD3.own
          have xx : StepX C (fun a => h.get? a = none) Z s Z₃ ⟨h4, g3', d3, tk4, os3⟩ := ((Step.to x₂).trans (Step.to x₃)).trans (x4.mono fun b q => by
            rcases q with rfl | rfl
            · exact hm.newX
            · exact hm.newD)
          have hHd : h.get? Hd = none := Hf.ownX _ (.head _)
          refine eg_run (RA := fun Z h v => False) (finA C h T dx) ?_ hA x4.inv H5 (fun Z' s' x' H' => kn Z' s' (xx.trans x') H') fun v Z' s' x' ra => ra.elim
          apply eg_ifs (tv_bool ev_bool (by intro _; rfl))
          · intro _
            show EXG _ _ _ _ (execs (_ :: _) _) _ _
            apply eg_cons
            · apply ex_for0
              · walk_at "at"
              · exact .head _
              · intro _; rfl
            apply eg_end
            intro Z h5 H
            have hT5 := H.held T oT4 (if_pos rfl)
            have hD5 := H.held dx od4 (by unfold twoK; rw [if_neg hneD, if_pos rfl])
            exact ⟨H.own _ (.head _), hHd, inst_keep2 (mA := instM Hd) hi4 eT4 edx4 eD4 hT5.at_ hD5.at_, hT5.z, hD5.z, hT5.at_, edx4, hD5.at_, nT4, nD4⟩
          · intro h; cases h
theorem evn_headers (K : HdrK C) {n : Nat} {X : Addr → Prop} {env : Env} {nm oc : List Str} {sc : List (Str × NameKind)} {ω : List (Addr × List PV)} {κ : Addr → Option Obj} {ρ : List (Option Vp)} {p pos : Pos} (hk : sc.lookup (sQ "Headers") = some .globalImplicit) :
    EVN C (n + 3) (FS C env nm oc sc X ρ ω κ) (eval (.Call (.Name (sQ "Headers") p) [] [] pos) env) (fun H => tabV H) [] := fun A s Z Q E hA I Hh k => by
  refine wpAny_Call_NameR (ev_glob (n := n + 3) K.glob hk (by decide) A s Z _ E hA I Hh fun v Z₁ s₁ x₁ pv => ?_)
  cases pv
  obtain ⟨mN, N⟩ := K.ns
  obtain ⟨k2, k3, hC⟩ := K.cls
  have kb : ∀ b o, C.Z0 b = some o → s₁.heap.get? b = some o := fun b o e => x₁.inv.heap _ _ (x₁.inv.base _ _ e)
  refine callWith_cls0 (h₀ := s₁.heap) (C := 175) (N := 174) (mN := mN) ⟨⟨_, _, _, _, _, _, _, _, _, _, _, _, kb _ _ hC⟩, N.at_ _ kb⟩ (fun _ _ e => e) ?_
  exact headers_call K hA x₁.inv fun T H Z₂ s₂ x₂ hf ho ht => k H _ Z₂ s₂ (x₁.trans x₂) ((x₁.gone hf).elim id fun q => q.elim) ho ht
theorem ev_items (K : HdrK C) {n : Nat} {X : Addr → Prop} {env : Env} {nm oc : List Str} {sc : List (Str × NameKind)} {ω : List (Addr × List PV)} {κ : Addr → Option Obj} {ρ : List (Option Vp)} {x : Str} {p1 apos pos : Pos} {hs : List PV} (hr : At nm ρ x (tabF hs)) (hsz : hs.length ≤ sizeLine)
    (hbase : attributeBase (.Name x p1) (sQ "items") env (eval (.Name x p1) env) = eval (.Name x p1) env := by rfl) (hline : (apos.endLine == pos.line) = true := by rfl) :
    EV C (n + 2) (FS C env nm oc sc X ρ ω κ) (eval (.Call (.Attribute (.Name x p1) (sQ "items") apos) [] [] pos) env) (is (.list hs)) := fun A s Z Q E hA I Hh k => by
  obtain ⟨mN, N⟩ := K.ns
  obtain ⟨doc, pm, c, hfo, hcd⟩ := K.items
  refine call_own hbase rfl hline (ev_name (n := n + 2) hr A s Z _ E hA I Hh fun v Z₁ s₁ x₁ pv => ?_)
  have pv0 := pv
  obtain ⟨T, H, rfl, ht, _⟩ := pv
  refine ⟨T, 139, { cls := .type "function", data := .func (mFd (mthSt pw 6 11) (sQ "Headers.items") .none doc pm (.ref c)) }, mFd (mthSt pw 6 11) (sQ "Headers.items") .none doc pm (.ref c), rfl, rfl, fun E' Q' pl q => inst_meth K x₁.inv (H := H) N N.items hfo lk_items (instM_none (by decide +kernel)) ht q, ?_⟩
  refine evalArgs_nil3 ⟨x₁.inv.heap _ _ (x₁.inv.base _ _ hfo), ?_⟩
  have hsat : Sat Z₁ [.ref T] [tabF hs] := .cons pv0 .nil
  exact (fn_items K hsz).le (by lia : 2 ≤ n + 2) A s₁ Z₁ [.ref T] Q E hA x₁.inv hsat.length hsat.get fun u Z₃ s₃ x₃ pu => k u Z₃ s₃ (x₁.trans x₃) pu
theorem ev_getall (K : HdrK C) {n : Nat} {X : Addr → Prop} {env : Env} {nm oc : List Str} {sc : List (Str × NameKind)} {ω : List (Addr × List PV)} {κ : Addr → Option Obj} {ρ : List (Option Vp)} {x : Str} {p1 apos pos : Pos} {e1 : Expr} {hs : List (Str × Str)} {a : Str} (hr : At nm ρ x (tabF (hs.map hpV))) (he : EL C (n + 3) (FS C env nm oc sc X ρ ω κ) (spliced (backTo pos (starEach [e1] env))) [is (.str a)])
    (hsz : hs.length ≤ sizeLine) (hx : (lowT a).cps.size ≤ 1000) (hno : noHit codeN (lowT a).cps 0 = true) (hlow : ∀ p ∈ hs, (lowT p.1).cps.size ≤ 1000)
    (hbase : attributeBase (.Name x p1) (sQ "get_all") env (eval (.Name x p1) env) = eval (.Name x p1) env := by rfl) (hline : (apos.endLine == pos.line) = true := by rfl)
    (hform : methodCallForm (([e1] : List Expr).length + ([] : List Keyword).length) (backTo pos (starEach [e1] env)) (backToKw pos (keywordEach [] env)) = true := by rfl) (hst : starEach [e1] env = (false, eval e1 env) :: starEach [] env := by rfl) :
    EV C (n + 3) (FS C env nm oc sc X ρ ω κ) (eval (.Call (.Attribute (.Name x p1) (sQ "get_all") apos) [e1] [] pos) env) (is (.list ((hs.filter fun p => lowT p.1 == lowT a).map fun p => .str p.2))) := fun A s Z Q E hA I Hh k => by
  obtain ⟨mN, N⟩ := K.ns
  obtain ⟨doc, pm, c, hfo, hcd⟩ := K.all
  refine call_own hbase hform hline (ev_name (n := n + 3) hr A s Z _ E hA I Hh fun v Z₁ s₁ x₁ pv => ?_)
  have H₁ := (FS C env nm oc sc X ρ ω κ).stable I Hh x₁
  have pv0 := pv
  obtain ⟨T, H, rfl, ht, _⟩ := pv
  refine ⟨T, 114, { cls := .type "function", data := .func (mFd (mthSt pw 6 7) (sQ "Headers.get_all") .none doc pm (.ref c)) }, mFd (mthSt pw 6 7) (sQ "Headers.get_all") .none doc pm (.ref c), rfl, rfl, fun E' Q' pl q => inst_meth K x₁.inv (H := H) N N.all hfo lk_all (instM_none (by decide +kernel)) ht q, ?_⟩
  have he' := he A s₁ Z₁
  rw [hst] at he' ⊢
  refine Calls.evalArgs_plain (he' _ E hA x₁.inv H₁ fun vs Z₂ s₂ x₂ ps => ⟨x₂.inv.heap _ _ (x₂.inv.base _ _ hfo), ?_⟩)
  have hsat : Sat Z₂ (.ref T :: vs) (tabF (hs.map hpV) :: [is (.str a)]) := .cons (Vp.mono _ x₂.le pv0) ps
  exact (fn_all K hsz hx hno hlow).le (by lia : 3 ≤ n + 3) A s₂ Z₂ (.ref T :: vs) Q E hA x₂.inv hsat.length hsat.get fun u Z₃ s₃ x₃ pu => k u Z₃ s₃ ((x₁.trans x₂).trans x₃) pu
inductive Rtb (a : Addr) (ds : List PV) : List (Option Vp) → List (Option Vp) → Prop where
  | nil : Rtb a ds [] []
  | same {o : Option Vp} {ρ ρ' : List (Option Vp)} (r : Rtb a ds ρ ρ') : Rtb a ds (o :: ρ) (o :: ρ')
  | it {ρ ρ' : List (Option Vp)} (r : Rtb a ds ρ ρ') : Rtb a ds (some (tabV a) :: ρ) (some (tabF ds) :: ρ')
theorem Rtb.ix {a : Addr} {ds : List PV} {ρ ρ' : List (Option Vp)} (R : Rtb a ds ρ ρ') (i : Nat) (P : Vp) (e : ρ'[i]? = some (some P)) : ρ[i]? = some (some P) ∨ (ρ[i]? = some (some (tabV a)) ∧ P = tabF ds) := by
  induction R generalizing i with
  | nil => cases e
  | same _ ih =>
    cases i with
    | zero => exact .inl e
    | succ i => exact ih i e
  | it _ ih =>
    cases i with
    | zero => cases e; exact .inr ⟨rfl, rfl⟩
    | succ i => exact ih i e
theorem Vars.rtb {env : Env} {Z : Fz} {a : Addr} {ds : List PV} (hd : Rd Z (.ref a) (.list ds)) {nm : List Str} {ρ ρ' : List (Option Vp)} (R : Rtb a ds ρ ρ') {h : Heap} (H : Vars env Z h nm ρ) : Vars env Z h nm ρ' := fun i x P e1 e2 => by
  rcases R.ix i P e2 with e | ⟨e, rfl⟩
  · exact H i x P e1 e
  · obtain ⟨v, hv, T, e, i⟩ := H i x _ e1 e
    exact ⟨v, hv, T, a, e, i, hd⟩
theorem Rfz.all_same {a : Addr} {ds : List PV} : ∀ ρ : List (Option Vp), Rfz a ds ρ ρ
  | [] => .nil
  | _ :: ρ => .same (Rfz.all_same ρ)
theorem ex_freezeT {n : Nat} {X : Addr → Prop} {env : Env} {nm oc : List Str} {sc : List (Str × NameKind)} {ω ω' : List (Addr × List PV)} {κ : Addr → Option Obj} {ρ ρ' : List (Option Vp)} {a : Addr} {ds : List PV} {Ψ : Asn C} {R : Vp} {rest : List Stmt} (u : OF ω a ds ω') (q : Rtb a ds ρ ρ') (k : EX C n X (FS C env nm oc sc X ρ' ω' κ) (execs rest env) Ψ R) :
    EX C n X (FS C env nm oc sc X ρ ω κ) (execs rest env) Ψ R := fun A s Z Q E hA I H kn kr => by
  obtain ⟨Z', st, H', hr⟩ := H.freeze I u (Rfz.all_same ρ)
  have H'' : FSp env nm oc sc X ρ' ω' κ Z' s.heap := ⟨H'.names, H'.gl, H'.bl, H'.cellH, H'.fn, H'.nodup, H'.apart, H'.loc, H'.locX, H'.locZ, H'.cells, H'.cellX, H'.cof, Vars.rtb hr q H'.vars, H'.own, H'.ownX, H'.ownN, H'.held, H'.heldX⟩
  exact k A s Z' Q E hA st.inv H'' (fun Z₂ s₂ x₂ H₂ => kn Z₂ s₂ (st.trans x₂) H₂) fun v Z₂ s₂ x₂ r => kr v Z₂ s₂ (st.trans x₂) r
end
section
open PySem.NumText
noncomputable def okC (c : Nat) : Bool := c == 45 || (48 ≤ c && c ≤ 57) || c == 69 || c == 101
noncomputable def okL : List Nat := [45, 48, 49, 50, 51, 52, 53, 54, 55, 56, 57, 69, 101]
theorem okC_mem {c : Nat} (h : okC c = true) : c ∈ okL := by
  have hb : c < 128 := by
    simp only [okC, Bool.or_eq_true, Bool.and_eq_true, beq_iff_eq, decide_eq_true_eq] at h
    lia
  exact (by decide +kernel : ∀ c < 128, okC c = true → c ∈ okL) c hb h
theorem inSN {c : Nat} (h : okC c = true) (seen : Sre.Seen) : Sre.inSet codeN c codeN.size 5 true seen = .ok (false, ((seen.add 22).add 16).add 0) := by
  have h := okC_mem h
  simp only [okL, List.mem_cons, List.not_mem_nil, or_false] at h
  rcases h with rfl | rfl | rfl | rfl | rfl | rfl | rfl | rfl | rfl | rfl | rfl | rfl | rfl <;> rfl
theorem inSV {c : Nat} (h : okC c = true) (seen : Sre.Seen) : Sre.inSet codeV c codeV.size 5 true seen = .ok (false, (seen.add 9).add 0) := by
  have h := okC_mem h
  simp only [okL, List.mem_cons, List.not_mem_nil, or_false] at h
  rcases h with rfl | rfl | rfl | rfl | rfl | rfl | rfl | rfl | rfl | rfl | rfl | rfl | rfl <;> rfl
theorem admitted_none {m : Sre.M} {g : Sre.Seen → Sre.Seen} (ht : ∀ c ∈ m.text.toList, okC c = true) (hl : m.lim = m.text.size) (hin : ∀ c, okC c = true → ∀ seen, Sre.inSet m.code c m.code.size 5 true seen = .ok (false, g seen)) :
    ∀ (fuel s : Nat) (seen : Sre.Seen), ∃ seen', Sre.M.admitted m fuel s seen = .ok (none, seen') := by
  intro fuel
  induction fuel with
  | zero => exact fun s seen => ⟨seen, rfl⟩
  | succ k ih =>
    intro s seen
    unfold Sre.M.admitted
    by_cases hs : s ≥ m.lim
    · rw [if_pos hs]; exact ⟨seen, rfl⟩
    · rw [if_neg hs]
      have hlt : s < m.text.size := by lia
      have hc : okC (m.text.getD s 0) = true := by
        apply ht
        simp [Array.getD, hlt]
      rw [hin _ hc]
      exact ih (s + 1) _
theorem adm_of {m : Sre.M} {code t : Array Nat} {g : Sre.Seen → Sre.Seen} {fuel s : Nat} {seen : Sre.Seen} {r : Except String (Option Nat × Sre.Seen)} (h : Sre.M.admitted m fuel s seen = r) (hc : m.code = code) (hx : m.text = t) (hl : m.lim = t.size) (ht : ∀ c ∈ t.toList, okC c = true) (hin : ∀ c, okC c = true → ∀ seen, Sre.inSet code c code.size 5 true seen = .ok (false, g seen)) : ∃ seen', r = .ok (none, seen') := by
  subst hc hx h
  exact admitted_none ht hl hin fuel s seen
theorem drive_say {m : Sre.M} (ha : m.answer = some false) (hf : m.frames = []) (ho : m.outcome = none) : ∃ m', driveP 400 m = some m' ∧ missed m' = true := by
  obtain ⟨⟩ := m
  cases ha; cases hf; cases ho
  exact ⟨_, rfl, rfl⟩
theorem noHit_of {code t : Array Nat} {g : Sre.Seen → Sre.Seen} (ht : ∀ c ∈ t.toList, okC c = true) (hin : ∀ c, okC c = true → ∀ seen, Sre.inSet code c code.size 5 true seen = .ok (false, g seen))
    (hset : (match Sre.ops[code.getD 0 0]? with | some .INFO => true | _ => false) && code.getD 2 0 == 4) : noHit code t 0 = true := by
  have key : ∃ m', driveP 400 (Sre.forSearch code t 0 0 t.size false) = some m' ∧ missed m' = true := by
    unfold Sre.forSearch
    dsimp only
    split
    · exact drive_say rfl rfl rfl
    · unfold Sre.M.attemptFrom
      have hf : ∀ m : Sre.M, m.code = code → m.hasFirstSet = true := fun m e => by
        unfold Sre.M.hasFirstSet; rw [e]; exact hset
      rw [hf _ rfl]
      simp only [Bool.not_true, Bool.false_eq_true, if_false]
      split
      · rename_i h
        obtain ⟨_, e⟩ := adm_of h rfl rfl rfl ht hin
        cases e
      · exact drive_say rfl rfl rfl
      · rename_i h
        obtain ⟨_, e⟩ := adm_of h rfl rfl rfl ht hin
        cases e
  obtain ⟨m', e1, e2⟩ := key
  unfold noHit
  rw [e1]
  exact e2
theorem noHitN {t : Array Nat} (ht : ∀ c ∈ t.toList, okC c = true) : noHit codeN t 0 = true := noHit_of ht (fun _ h => inSN h) rfl
theorem noHitV {t : Array Nat} (ht : ∀ c ∈ t.toList, okC c = true) : noHit codeV t 0 = true := noHit_of ht (fun _ h => inSV h) rfl
noncomputable def numC (a : Int) : List Nat := (numT a).cps.toList
theorem numC_nat (m : Nat) : numC m = (Nat.toDigits 10 m).map Char.toNat := KIN.signs_num m
theorem numC_val (m : Nat) : digitsVal (numC m) = m := by rw [numC_nat]; exact KIN.val_back m
theorem numC_inj {a b : Int} (ha : 0 ≤ a) (hb : 0 ≤ b) (h : numC a = numC b) : a = b := by
  obtain ⟨m, rfl⟩ := Int.eq_ofNat_of_zero_le ha
  obtain ⟨k, rfl⟩ := Int.eq_ofNat_of_zero_le hb
  have := congrArg digitsVal h
  rw [numC_val, numC_val] at this
  rw [this]
theorem numC_dig {a : Int} (ha : 0 ≤ a) : ∀ c ∈ numC a, 48 ≤ c ∧ c ≤ 57 := by
  obtain ⟨m, rfl⟩ := Int.eq_ofNat_of_zero_le ha
  intro c hc
  rw [numC_nat] at hc
  obtain ⟨ch, hch, e⟩ := List.mem_map.mp hc
  have r := Nat.isDigit_of_mem_toDigits (by decide) (by decide) hch
  rw [← e]
  simp only [Char.isDigit, Bool.and_eq_true, decide_eq_true_eq] at r
  exact ⟨r.1, r.2⟩
theorem numC_len {a : Int} {k : Nat} (hk : 0 < k) (ha : 0 ≤ a) (h : a < 10 ^ k) : (numC a).length ≤ k := by
  obtain ⟨m, rfl⟩ := Int.eq_ofNat_of_zero_le ha
  rw [numC_nat, List.length_map]
  exact (Nat.length_toDigits_le_iff (by decide) hk).mpr (by exact_mod_cast h)
theorem split_uniq {m : Nat} : ∀ {xs xs' ys ys' : List Nat}, m ∉ xs → m ∉ xs' → xs ++ m :: ys = xs' ++ m :: ys' → xs = xs' ∧ ys = ys'
  | [], [], ys, ys', _, _, h => ⟨rfl, (List.cons.inj h).2⟩
  | [], x :: xs', ys, ys', _, h2, h => absurd (List.mem_cons.mpr (.inl (List.cons.inj h).1)) h2
  | x :: xs, [], ys, ys', h1, _, h => absurd (List.mem_cons.mpr (.inl (List.cons.inj h).1.symm)) h1
  | x :: xs, x' :: xs', ys, ys', h1, h2, h => by
    obtain ⟨e, h⟩ := List.cons.inj h
    obtain ⟨a, b⟩ := split_uniq (fun q => h1 (.tail _ q)) (fun q => h2 (.tail _ q)) h
    exact ⟨by rw [e, a], b⟩
noncomputable def mn3 (v : V3) : Int := mnI v.1 v.2.1 v.2.2
theorem mn3_le (v : V3) : mn3 v ≤ v.1 ∧ mn3 v ≤ v.2.1 ∧ mn3 v ≤ v.2.2 ∧ (mn3 v = v.1 ∨ mn3 v = v.2.1 ∨ mn3 v = v.2.2) := by
  unfold mn3 mnI
  dsimp only
  split <;> split <;> lia
noncomputable def nmE (l : Str) (v : V3) : Str := l ++ Builtin.Str.glued (sQ "-") [numT (v.1 - mn3 v), numT (v.2.1 - mn3 v), numT (v.2.2 - mn3 v)]
theorem nmE_cps (l : Str) (v : V3) : (nmE l v).cps.toList = l.cps.toList ++ (numC (v.1 - mn3 v) ++ 45 :: (numC (v.2.1 - mn3 v) ++ 45 :: numC (v.2.2 - mn3 v))) := by
  have h : (sQ "-").cps.toList = [45] := by decide +kernel
  show (l.cps ++ ((((numT (v.1 - mn3 v)).cps ++ (sQ "-").cps ++ (numT (v.2.1 - mn3 v)).cps) ++ (sQ "-").cps ++ (numT (v.2.2 - mn3 v)).cps))).toList = _
  simp only [Array.toList_append, h, List.append_assoc, List.cons_append, List.nil_append, numC]
noncomputable def lE : Str := sQ "e"
noncomputable def lB : Str := sQ "E"
theorem lE_cps : lE.cps.toList = [101] := by decide +kernel
theorem lB_cps : lB.cps.toList = [69] := by decide +kernel
theorem nmE_ok {l : Str} (hl : ∀ c ∈ l.cps.toList, okC c = true) (v : V3) : ∀ c ∈ (nmE l v).cps.toList, okC c = true := by
  obtain ⟨h1, h2, h3, _⟩ := mn3_le v
  have hd : ∀ c, 48 ≤ c ∧ c ≤ 57 → okC c = true := fun c h => by simp [okC, h.1, h.2]
  intro c hc
  rw [nmE_cps] at hc
  simp only [List.mem_append, List.mem_cons] at hc
  rcases hc with hc | hc | rfl | hc | rfl | hc
  · exact hl c hc
  · exact hd c (numC_dig (by lia) c hc)
  · rfl
  · exact hd c (numC_dig (by lia) c hc)
  · rfl
  · exact hd c (numC_dig (by lia) c hc)
theorem nmE_inj {v w : V3} (h : nmE lE v = nmE lE w) : ∃ k : Int, v = (w.1 + k, w.2.1 + k, w.2.2 + k) := by
  have h : (nmE lE v).cps.toList = (nmE lE w).cps.toList := by rw [h]
  rw [nmE_cps, nmE_cps, lE_cps] at h
  obtain ⟨a1, a2, a3, _⟩ := mn3_le v
  obtain ⟨b1, b2, b3, _⟩ := mn3_le w
  have nd : ∀ {a : Int}, 0 ≤ a → 45 ∉ numC a := fun ha q => absurd (numC_dig ha 45 q) (by decide)
  have a1 := Int.sub_nonneg_of_le a1
  have a2 := Int.sub_nonneg_of_le a2
  have a3 := Int.sub_nonneg_of_le a3
  have b1 := Int.sub_nonneg_of_le b1
  have b2 := Int.sub_nonneg_of_le b2
  have b3 := Int.sub_nonneg_of_le b3
  obtain ⟨e1, h⟩ := split_uniq (nd a1) (nd b1) (List.cons.inj h).2
  obtain ⟨e2, e3⟩ := split_uniq (nd a2) (nd b2) h
  have e1 := numC_inj a1 b1 e1
  have e2 := numC_inj a2 b2 e2
  have e3 := numC_inj a3 b3 e3
  clear a1 a2 a3 b1 b2 b3 h nd
  refine ⟨mn3 v - mn3 w, ?_⟩
  obtain ⟨x, y, z⟩ := v
  obtain ⟨x', y', z'⟩ := w
  simp only at e1 e2 e3 ⊢
  congr 1
  · lia
  · congr 1 <;> lia
theorem nmE_grey {l : Str} {v : V3} (k : Int) : nmE l (v.1 + k, v.2.1 + k, v.2.2 + k) = nmE l v := by
  have e : mn3 (v.1 + k, v.2.1 + k, v.2.2 + k) = mn3 v + k := by
    obtain ⟨a1, a2, a3, a4⟩ := mn3_le v
    obtain ⟨b1, b2, b3, b4⟩ := mn3_le (v.1 + k, v.2.1 + k, v.2.2 + k)
    simp only at b1 b2 b3 b4
    lia
  unfold nmE
  rw [e]
  dsimp only
  rw [Int.add_sub_add_right, Int.add_sub_add_right, Int.add_sub_add_right]
theorem okC_lt {c : Nat} (h : okC c = true) : c < 128 := by
  exact (by decide : ∀ c ∈ okL, c < 128) c (okC_mem h)
theorem low_ok {x : Str} (h : ∀ c ∈ x.cps.toList, okC c = true) : lowT x = ⟨x.cps.map lo1⟩ := lower_ascii fun c hc => okC_lt (h c hc)
theorem lo1_id {c : Nat} (h : okC c = true) (hne : c ≠ 69) : lo1 c = c := by
  exact (by decide : ∀ c ∈ okL, c ≠ 69 → lo1 c = c) c (okC_mem h) hne
theorem low_nm {l : Str} (hl : l = lE ∨ l = lB) (v : V3) : lowT (nmE l v) = nmE lE v := by
  have ho : ∀ c ∈ l.cps.toList, okC c = true := by
    rcases hl with rfl | rfl
    · rw [lE_cps]; decide
    · rw [lB_cps]; decide
  rw [low_ok (nmE_ok ho v)]
  obtain ⟨h1, h2, h3, _⟩ := mn3_le v
  have hm : ∀ {a : Int}, 0 ≤ a → (numC a).map lo1 = numC a := fun ha => by
    have := numC_dig ha
    rw [List.map_congr_left (g := id) fun c hc => ?_, List.map_id]
    have := this c hc
    exact lo1_id (by simp [okC, this.1, this.2]) (by lia)
  have key : (nmE l v).cps.toList.map lo1 = (nmE lE v).cps.toList := by
    rw [nmE_cps, nmE_cps]
    simp only [List.map_append, List.map_cons]
    rw [hm (by lia), hm (by lia), hm (by lia)]
    rcases hl with rfl | rfl
    · rw [lE_cps]; rfl
    · rw [lB_cps, lE_cps]; rfl
  have : ((nmE l v).cps.map lo1) = (nmE lE v).cps := by
    apply Array.toList_inj.mp
    rw [Array.toList_map, key]
  rw [this]
theorem nmE_len {l : Str} (hl : l = lE ∨ l = lB) {v : V3} (hb : v.1 - mn3 v < 10 ^ 20 ∧ v.2.1 - mn3 v < 10 ^ 20 ∧ v.2.2 - mn3 v < 10 ^ 20) : (nmE l v).cps.size ≤ 63 := by
  obtain ⟨h1, h2, h3, _⟩ := mn3_le v
  have e1 := numC_len (k := 20) (by decide) (show 0 ≤ v.1 - mn3 v by lia) hb.1
  have e2 := numC_len (k := 20) (by decide) (show 0 ≤ v.2.1 - mn3 v by lia) hb.2.1
  have e3 := numC_len (k := 20) (by decide) (show 0 ≤ v.2.2 - mn3 v by lia) hb.2.2
  have e0 : l.cps.toList.length = 1 := by
    rcases hl with rfl | rfl
    · rw [lE_cps]; rfl
    · rw [lB_cps]; rfl
  rw [← Array.length_toList, nmE_cps]
  simp only [List.length_append, List.length_cons]
  lia
end
section
local macro_rules | `(tactic| walk_at "def") => `(tactic| fail)
theorem best_v3 (v : V3) : bestP ltP [.int v.1, .int v.2.1, .int v.2.2] = .int (mn3 v) := by
  rw [best3]
  simp only [ltP, mn3, mnI, decide_eq_true_eq]
  by_cases h1 : v.2.1 < v.1
  · simp only [h1, if_true, ltP, decide_eq_true_eq]; split <;> rfl
  · simp only [h1, if_false, ltP, decide_eq_true_eq]; split <;> rfl
def big3 (v : V3) : Prop := v.1 - mn3 v < 10 ^ 20 ∧ v.2.1 - mn3 v < 10 ^ 20 ∧ v.2.2 - mn3 v < 10 ^ 20
theorem log_of {a : Int} (h0 : 0 ≤ a) (h : a < 10 ^ 20) : a.natAbs.log2 < 1920 := by
  have : a.natAbs < 2 ^ 70 := by lia
  by_cases hz : a.natAbs = 0
  · rw [hz]; decide
  · have := (Nat.log2_lt hz).mpr this
    lia
section
variable {C : Cx}
theorem d_names (K : LawK C) (hstr : BltZ C (sQ "str") (.type "str")) (es : List V3) (l : Str) (hl : l = lE ∨ l = lB) (hes : es.length ≤ 1000) (hb : ∀ e ∈ es, big3 e) :
    DefC C 4 (sQ "_law_names") [is (lv es), is (.str l)] (is (.list (es.map fun e => .str (nmE l e)))) := by
  obtain ⟨f, q, doc, pm, cd, hg, ho, hcd⟩ := K.names
  have g4 := K.min
  have hl1 : l.length = 1 := by rcases hl with rfl | rfl <;> decide +kernel
  refine ⟨f, hg, ⟨_, _, ho, rfl⟩, fn_def (n := 2) (sc := scOf (stAt pw 87)) (ρ := [some (is (lv es)), some (is (.str l))]) (nm := [sQ "edges", sQ "letter"]) (xs := [sQ "edges", sQ "letter"]) K.q ho rfl hcd rfl rfl rfl rfl rfl (bnd2 fun _ _ => by kernel_rfl) rfl (by decide +kernel) (by decide +kernel) (by decide +kernel) (by decide +kernel) rfl fun L X => ?_⟩
  apply ex_ret
  apply ev_d
  · apply ev_comp1
    apply comp1_ok (xs := es) (f := v3) (h := fun e => .str (nmE l e))
    · apply it_eq
      · apply it_list
        walk_at "ev"
      · exact rfl
    · walk_at "at"
    · exact rfl
    · decide +kernel
    · exact rfl
    · (rw [sizeLine_eq]; lia)
    · intro cenv X' j hx
      apply ex_mk3
      · walk_at "at"
      · walk_at "at"
      · intro ω κ
        have hj := hb j hx
        obtain ⟨m1, m2, m3, _⟩ := mn3_le j
        obtain ⟨b1, b2, b3⟩ := hj
        have hle := nmE_len hl ⟨b1, b2, b3⟩
        have n1 : (numT (j.1 - mn3 j)).cps.size ≤ 20 := numC_len (k := 20) (by decide) (by lia) b1
        have n2 : (numT (j.2.1 - mn3 j)).cps.size ≤ 20 := numC_len (k := 20) (by decide) (by lia) b2
        have n3 : (numT (j.2.2 - mn3 j)).cps.size ≤ 20 := numC_len (k := 20) (by decide) (by lia) b3
        have hgl : (Builtin.Str.glued (sQ "-") [numT (j.1 - mn3 j), numT (j.2.1 - mn3 j), numT (j.2.2 - mn3 j)]).length ≤ 63 := by
          have e : (nmE l j).length = l.length + (Builtin.Str.glued (sQ "-") [numT (j.1 - mn3 j), numT (j.2.1 - mn3 j), numT (j.2.2 - mn3 j)]).length := Array.size_append
          have : (nmE l j).length ≤ 63 := hle
          lia
        apply ev_d
        · apply ev_bin
          · walk_at "ev"
          · apply ev_meth
            · walk_at "ev"
            · exact hasM_join
            · apply el_cons (P := is (.list (([numT (j.1 - mn3 j), numT (j.2.1 - mn3 j), numT (j.2.2 - mn3 j)]).map .str)))
              · apply ev_d
                · apply ev_comp1
                  apply comp1_ok (xs := [j.1, j.2.1, j.2.2]) (f := fun (p : Int) => .int p) (h := fun p => .str (numT (p - mn3 j)))
                  · apply it_eq
                    · apply it_list
                      walk_at "ev"
                    · exact rfl
                  · walk_at "at"
                  · exact rfl
                  · decide +kernel
                  · exact rfl
                  · exact Nat.le_of_ble_eq_true rfl
                  · intro cenv X' p hp
                    have hp : p - mn3 j < 10 ^ 20 ∧ 0 ≤ p - mn3 j := by
                      simp only [List.mem_cons, List.not_mem_nil, or_false] at hp
                      rcases hp with rfl | rfl | rfl
                      · exact ⟨b1, by lia⟩
                      · exact ⟨b2, by lia⟩
                      · exact ⟨b3, by lia⟩
                    apply ex_mk3
                    · walk_at "at"
                    · walk_at "at"
                    · intro ω κ
                      apply ev_callTt
                      · exact hstr
                      · apply el_cons
                        · apply ev_bin
                          · walk_at "ev"
                          · apply ev_callBt
                            · exact g4
                            · walk_at "ev"
                            · apply fn_eq (R := is (bestP ltP [.int j.1, .int j.2.1, .int j.2.2]))
                              · exact fn_min_list rfl (List.cons_ne_nil _ _)
                              · rw [best_v3]
                            · exact rfl
                            · exact rfl
                            · exact rfl
                            · exact rfl
                          · walk_at "op"
                        · walk_at "ev"
                        · exact rfl
                      · exact fn_str_int (log_of hp.2 hp.1)
                      · exact rfl
                      · exact rfl
                      · exact rfl
                      · exact rfl
                · rfl
              · walk_at "ev"
            · apply fn_join (xs := [numT (j.1 - mn3 j), numT (j.2.1 - mn3 j), numT (j.2.2 - mn3 j)])
              · exact Nat.le_trans hgl (by rw [sizeLine_eq]; decide)
              · show decide (0 + (numT (j.1 - mn3 j)).cps.size + _ + (numT (j.2.1 - mn3 j)).cps.size + _ + (numT (j.2.2 - mn3 j)).cps.size + _ > sizeLine) = false
                rw [decide_eq_false_iff_not, sizeLine_eq]
                have : (sQ "-").length = 1 := by decide +kernel
                lia
            · exact rfl
            · exact rfl
            · exact rfl
            · exact rfl
            · exact rfl
          · apply op_add_str
            exact Nat.le_trans hle (by rw [sizeLine_eq]; decide)
        · rfl
  · rfl
end
end
section
local macro_rules | `(tactic| walk_at "def") => `(tactic| fail)
noncomputable def mtc (x : Str) (p : Str × Str) : Bool := lowT p.1 == lowT x
noncomputable def getF (hs : List (Str × Str)) (x : Str) : Option Str := (hs.find? (mtc x)).map (·.2)
noncomputable def optP : Option Str → PV
  | none => .none
  | some s => .str s
theorem getF_hit {hs : List (Str × Str)} {x : Str} {i : Nat} {p : Str × Str} (h : (hs.take i).any (mtc x) = false) (e : hs[i]? = some p) (hm : mtc x p = true) : getF hs x = some p.2 := by
  have hlt := (List.getElem?_eq_some_iff.mp e).1
  have hd : hs = hs.take i ++ p :: hs.drop (i + 1) := by
    have := List.getElem?_eq_some_iff.mp e
    rw [← this.2, List.getElem_cons_drop, List.take_append_drop]
  have hn : (hs.take i).find? (mtc x) = none := by
    rw [List.find?_eq_none]
    intro q hq hq'
    have := List.any_eq_false.mp h q hq
    exact this hq'
  unfold getF
  rw [hd, List.find?_append, hn, List.find?_cons, hm]; rfl
theorem getF_none {hs : List (Str × Str)} {x : Str} (h : hs.any (mtc x) = false) : getF hs x = none := by
  unfold getF
  rw [List.find?_eq_none.mpr]; rfl
  intro q hq hq'
  exact List.any_eq_false.mp h q hq hq'
section
variable {C : Cx}
theorem lk_get : typeLookup (.type "object") (sQ "get") = pure none := by rw [typeLookup_type, builtinLookup_eq_fast]; kernel_rfl
theorem lk_setd : typeLookup (.type "object") (sQ "setdefault") = pure none := by rw [typeLookup_type, builtinLookup_eq_fast]; kernel_rfl
theorem tl_ok {y : Str} (h : (lowT y).cps.size ≤ 1000) : Builtin.Str.tooLong (placed y fun i _ => Unicode.lowerAt y.cps i).size = false := by
  unfold Builtin.Str.tooLong
  rw [decide_eq_false_iff_not, sizeLine_eq]
  have h' : (placed _ fun i _ => Unicode.lowerAt _ i).size ≤ 1000 := h
  lia
theorem fn_get (K : HdrK C) {hs : List (Str × Str)} {x : Str} (hsz : hs.length ≤ sizeLine) (hx0 : (lowT x).cps.size ≤ 1000) (hno : noHit codeN (lowT x).cps 0 = true) (hlow : ∀ p ∈ hs, (lowT p.1).cps.size ≤ 1000) :
    FN C 3 (.ref 122) [tabF (hs.map hpV), is (.str x)] (is (optP (getF hs x))) := fun A s Z vs Q E hA I hl hp k => by
  obtain ⟨doc, pm, c, hfo, hcd⟩ := K.get
  obtain ⟨a, b, rfl⟩ := len2 hl
  have pa : (tabF (hs.map hpV)).at_ Z a := hp 0 a _ rfl rfl
  have pb : (is (.str x)).at_ Z b := hp 1 b _ rfl rfl
  refine clo_enterA (n := 1) (args := ⟨[a, b], []⟩) (vs := [a, b, .none]) (fd := mFd (mthSt pw 6 8) (sQ "Headers.get") (.ref 115) doc pm (.ref c)) (xs := [sQ "self", sQ "name", sQ "default"]) (oc := [sQ "self", sQ "name", sQ "default", sQ "k", sQ "v"])
    (nm := [sQ "self", sQ "name", sQ "default", sQ "k", sQ "v"]) (ρ := [some (tabF (hs.map hpV)), some (is (.str x)), some (is .none), none, none]) (ω := []) (sc := scOf (mthSt pw 6 8)) K.q I hA (I.base _ _ hfo) rfl rfl (hcd.le I.base) rfl rfl rfl rfl rfl (BindsTo.of_defaults rfl (I.heap _ _ (I.base _ _ K.getD)) rfl rfl rfl) rfl rfl rfl (by decide +kernel) List.Pairwise.nil (fun _ _ h => nomatch h) (fun _ h => nomatch h) List.Pairwise.nil ?_ ?_ rfl rfl rfl
  · intro L h' hn hk
    exact .va ⟨by decide +kernel, .inl ⟨rfl, _, hn, rfl⟩⟩ pa (.va ⟨by decide +kernel, .inl ⟨rfl, _, hn, rfl⟩⟩ pb (.va ⟨by decide +kernel, .inl ⟨rfl, _, hn, rfl⟩⟩ .none (.un (.un .nil))))
  · intro L X A' s₁ E' hA' I₁ st hX H
    have hex : ∀ env, env = callEnv (mFd (mthSt pw 6 8) (sQ "Headers.get") (.ref 115) doc pm (.ref c)) L 122 → EX C 2 X (FS C env [sQ "self", sQ "name", sQ "default", sQ "k", sQ "v"] [sQ "self", sQ "name", sQ "default", sQ "k", sQ "v"] (scOf (mthSt pw 6 8)) X [some (tabF (hs.map hpV)), some (is (.str x)), some (is .none), none, none] [] (fun _ => none)) (execs (bodyOf (mthSt pw 6 8)) env) (botA C) (is (optP (getF hs x))) := by
      intro env he
      apply ex_cons
      · apply ex_assign
        · apply ev_convk K (b := true) (x := lowT x) (fun _ _ h => tabF_tabV h)
          · walk_at "ev"
          · apply ev_meth0
            · walk_at "ev"
            · exact hasM_lower
            · exact fn_lower (tl_ok hx0)
            · exact rfl
            · exact rfl
          · lia
          · exact hno
        · walk_at "at"
        · decide +kernel
        · decide +kernel
        · rw [he]; exact rfl
      apply exs_for (ρs := fun i => [some (tabF (hs.map hpV)), some (is (.str (lowT x))), if (hs.take i).any (mtc x) = true then some offV else some (is .none), none, none]) (ωs := fun i => []) rfl rfl
      · apply it_list
        apply ev_hdrF K
        walk_at "at"
      · intro i; rfl
      · intro κ' i d hd
        rw [List.getElem?_map] at hd
        cases hki : hs[i]? with
        | none => rw [hki] at hd; cases hd
        | some p =>
          rw [hki] at hd; cases hd
          by_cases hh : (hs.take i).any (mtc x) = true
          · rw [if_pos hh]
            apply ex_mk
            · walk_at "at"
            exact ex_off (.there (.there .here))
          · rw [if_neg hh]
            have hh : (hs.take i).any (mtc x) = false := by simpa using hh
            apply ex_mk
            · walk_at "at"
            apply ex_ifs (c := mtc x p)
            · apply tv_eq
              · apply tv_cmp
                · apply ev_meth0
                  · walk_at "ev"
                  · exact hasM_lower
                  · exact fn_lower (tl_ok (hlow p (List.mem_of_getElem? hki)))
                  · exact rfl
                  · exact rfl
                · walk_at "ev"
                · walk_at "op"
                · exact rfl
              · rfl
            · intro hm
              rw [getF_hit hh hki hm]
              apply ex_ret
              apply ev_d
              · walk_at "ev"
              · rfl
            · intro hm
              have : (hs.take (i + 1)).any (mtc x) = false := by
                rw [List.take_add_one, hki, List.any_append, hh]
                simp [hm]
              rw [if_neg (by rw [this]; decide)]
              apply ex_fgt
              walk_at "fgtd"
      · rw [List.length_map, List.take_length]
        by_cases hh : hs.any (mtc x) = true
        · rw [if_pos hh]
          exact ex_off (.there (.there .here))
        · rw [if_neg hh, getF_none (by simpa using hh)]
          apply ex_ret
          apply ev_d
          · walk_at "ev"
          · rfl
    exact hex _ rfl A' s₁ Z _ E' hA' I₁ H (fun _ _ _ h => h.elim) fun v Z' s' x' r => k v Z' s' (((Step.to st).trans x').hide fun b hb => (hX b hb).elim id fun q => nomatch q) r
end
end
section
local macro_rules | `(tactic| walk_at "def") => `(tactic| fail)
section
variable {C : Cx}
theorem borrow {Z : Fz} {s : Shared} {H : Addr} {hs : List PV} (I : Inv C Z s) (ho : Owned Z s.heap (H, hs)) : ∃ Z1, Le Z Z1 ∧ Inv C Z1 s ∧ Rd Z1 (.ref H) (.list hs) ∧
    ∀ Z' s', Step C Z1 s Z' s' → ∃ Z2, Step C Z s Z2 s' ∧ (∀ v x, Rd Z' v (optP x) → Rd Z2 v (optP x)) := by
  obtain ⟨hz, vs, m, e, r⟩ := ho
  replace hz : Z H = none := hz
  replace e : s.heap.get? H = some { cls := .type "list", data := .seq vs.toArray m } := e
  have ht : ∀ t ∈ C.tabs, H ≠ t.1 := I.tab_fields e fun ps q => by cases q
  have st := StepX.freeze (X := fun b => b = H) I rfl hz e ht
  refine ⟨_, st.le, st.inv, .list (n := m) (put_self (Z := Z)) (r.le st.le), fun Z' s' x => ⟨fun b => if b = H then none else Z' b, ?_, ?_⟩⟩
  · have hl : Le Z (fun b => if b = H then none else Z' b) := fun b o eb => by
      have hne : b ≠ H := fun q => by rw [q, hz] at eb; cases eb
      show (if b = H then none else Z' b) = _
      rw [if_neg hne]
      exact x.le _ _ (st.le _ _ eb)
    have out : ∀ b o, (if b = H then none else Z' b) = some o → b ≠ H ∧ Z' b = some o := fun b o eb => by
      by_cases q : b = H
      · rw [if_pos q] at eb; cases eb
      · rw [if_neg q] at eb; exact ⟨q, eb⟩
    refine ⟨hl, fun b o eb => ?_, fun b o eb hX ht => x.keep b o eb hX ht, x.rest, ⟨I.base.trans hl, fun b o eb => x.inv.heap b o (out b o eb).2, fun t ht => ?_, fun t ht => ?_⟩⟩
    · obtain ⟨hne, eb⟩ := out b o eb
      rcases x.new b o eb with h | h | h
      · rw [put_ne hne] at h; exact .inl h
      · exact .inr (.inl h)
      · exact h.elim
    · obtain ⟨ps, e1, e2⟩ := x.inv.tabs t ht
      refine ⟨ps, e1, e2.imp id fun ⟨c', e3, o, ws, tt, e4, e5, e6⟩ => ⟨c', e3, o, ws, tt, ?_, e5, e6⟩⟩
      show (if c' = H then none else Z' c') = _
      rw [if_neg fun q => ?_]
      · exact e4
      · have := x.le _ _ (put_self (Z := Z) (a := H) (o := { cls := .type "list", data := .seq vs.toArray m }))
        rw [← q, e4] at this
        cases this; cases e5
    · show (if t.1 = H then none else Z' t.1) = _
      split
      · rfl
      · exact x.inv.off t ht
  · intro v y h
    cases y with
    | none => cases h; exact .none
    | some y => cases h; exact .str _ _
theorem inst_meth2 (K : HdrK C) {Z : Fz} {s : Shared} (I : Inv C Z s) {H T f : Addr} {fd : FuncData} {mN : Str → Option Value} {name : Str} {y : Option Value} (N : NsZ C 174 mN) (ga : mN "__getattribute__" = none) (gh : mN "__getattr__" = none) (hf : mN name = some (.ref f))
    (hfo : C.Z0 f = some { cls := .type "function", data := .func fd }) (hB : typeLookup (.type "object") name = pure y) (hsh : instM H name = none) (ht : ∀ h : Heap, (∀ b o, Z b = some o → h.get? b = some o) → h.Inst T 175 (instM H))
    {A : Around} {E : Value → Shared → Prop} {Q : Value × List Value → Shared → Prop} {pl : Sem Bool} (q : Q (.ref f, [.ref T]) s) : wpAny (model C.prog C.w) A (getMethod (.ref T) name pl) Q E s := by
  obtain ⟨k2, k3, hC⟩ := K.cls
  have kb : ∀ b o, C.Z0 b = some o → s.heap.get? b = some o := fun b o e => I.heap _ _ (I.base _ _ e)
  obtain ⟨h, g, d, t, os⟩ := s
  exact method_of (kb _ _ hC) (N _ kb) ga gh hf (kb _ _ hfo) rfl hB (ht _ I.heap) hsh q
theorem get_call (K : HdrK C) {n : Nat} {env : Env} {o e1 : Expr} {apos pos : Pos} {A : Around} {s : Shared} {Z : Fz} {Q : Value → Shared → Prop} {E : Value → Shared → Prop} {name : Str} {f : Addr} {fd : FuncData} {Φ : Asn C} {H : Addr} {d : PV}
    (hA : Room n A) (I : Inv C Z s) (Hh : Φ.at_ Z s.heap) (ho : EV C n Φ (eval o env) (tabV H)) (he : EL C n Φ (spliced (backTo pos (starEach [e1] env))) [is d])
    (hf : ∃ mN, NsZ C 174 mN ∧ mN "__getattribute__" = none ∧ mN "__getattr__" = none ∧ mN name = some (.ref f)) (hfo : C.Z0 f = some { cls := .type "function", data := .func fd }) (hB : typeLookup (.type "object") name = pure none) (hsh : instM H name = none)
    (k : ∀ T v Z' s', Step C Z s Z' s' → Φ.at_ Z' s'.heap → (tabV H).at_ Z' (.ref T) → Rd Z' v d → wpAny (model C.prog C.w) A (call (.ref f) [.ref T, v]) Q E s')
    (hbase : attributeBase o name env (eval o env) = eval o env := by rfl) (hline : (apos.endLine == pos.line) = true := by rfl)
    (hform : methodCallForm (([e1] : List Expr).length + ([] : List Keyword).length) (backTo pos (starEach [e1] env)) (backToKw pos (keywordEach [] env)) = true := by rfl) (hst : starEach [e1] env = (false, eval e1 env) :: starEach [] env := by rfl) :
    wpAny (model C.prog C.w) A (eval (.Call (.Attribute o name apos) [e1] [] pos) env) Q E s := by
  obtain ⟨mN, N, ga, gh, hm⟩ := hf
  refine call_own hbase hform hline (ho A s Z _ E hA I Hh fun v Z₁ s₁ x₁ pv => ?_)
  have H₁ := Φ.stable I Hh x₁
  have pv0 := pv
  obtain ⟨T, rfl, ht⟩ := pv
  refine ⟨T, f, { cls := .type "function", data := .func fd }, fd, rfl, rfl, fun E' Q' pl q => inst_meth2 K x₁.inv (H := H) N ga gh hm hfo hB hsh ht q, ?_⟩
  have he' := he A s₁ Z₁
  rw [hst] at he' ⊢
  refine Calls.evalArgs_plain (he' _ E hA x₁.inv H₁ fun vs Z₂ s₂ x₂ ps => ⟨x₂.inv.heap _ _ (x₂.inv.base _ _ hfo), ?_⟩)
  obtain ⟨v1, _, rfl, r1, ps⟩ := sati ps
  obtain rfl := sati ps
  exact k T v1 Z₂ s₂ (x₁.trans x₂) (Φ.stable x₁.inv H₁ x₂) (Vp.mono _ x₂.le pv0) r1
theorem tabF_of {Z Z1 : Fz} {H : Addr} {hs : List PV} {v : Value} (h : (tabV H).at_ Z v) (k : Le Z Z1) (r : Rd Z1 (.ref H) (.list hs)) : (tabF hs).at_ Z1 v := by
  obtain ⟨T, rfl, ht⟩ := h
  exact ⟨T, H, rfl, fun h k' => ht h fun b o e => k' b o (k b o e), r⟩
theorem ev_get_own (K : HdrK C) {n : Nat} {X : Addr → Prop} {env : Env} {nm oc : List Str} {sc : List (Str × NameKind)} {ω : List (Addr × List PV)} {κ : Addr → Option Obj} {ρ : List (Option Vp)} {x : Str} {p1 apos pos : Pos} {e1 : Expr} {hs : List (Str × Str)} {a : Str} {H : Addr}
    (hr : At nm ρ x (tabV H)) (hm : (H, hs.map hpV) ∈ ω) (he : EL C (n + 3) (FS C env nm oc sc X ρ ω κ) (spliced (backTo pos (starEach [e1] env))) [is (.str a)])
    (hsz : hs.length ≤ sizeLine) (hx : (lowT a).cps.size ≤ 1000) (hno : noHit codeN (lowT a).cps 0 = true) (hlow : ∀ p ∈ hs, (lowT p.1).cps.size ≤ 1000)
    (hbase : attributeBase (.Name x p1) (sQ "get") env (eval (.Name x p1) env) = eval (.Name x p1) env := by rfl) (hline : (apos.endLine == pos.line) = true := by rfl)
    (hform : methodCallForm (([e1] : List Expr).length + ([] : List Keyword).length) (backTo pos (starEach [e1] env)) (backToKw pos (keywordEach [] env)) = true := by rfl) (hst : starEach [e1] env = (false, eval e1 env) :: starEach [] env := by rfl) :
    EV C (n + 3) (FS C env nm oc sc X ρ ω κ) (eval (.Call (.Attribute (.Name x p1) (sQ "get") apos) [e1] [] pos) env) (is (optP (getF hs a))) := fun A s Z Q E hA I Hh k => by
  obtain ⟨doc, pm, c, hfo, hcd⟩ := K.get
  obtain ⟨mN, N, ga, gh, hg, _⟩ := K.ns2
  refine get_call K hA I Hh (ev_name hr) he ⟨mN, N, ga, gh, hg⟩ hfo lk_get (instM_none (by decide +kernel)) (fun T v Z' s' x' H' ht hv => ?_) hbase hline hform hst
  obtain ⟨Z1, l1, I1, r1, kk⟩ := borrow x'.inv (H'.own _ hm)
  have hsat : Sat Z1 [.ref T, v] [tabF (hs.map hpV), is (.str a)] := .cons (tabF_of ht l1 r1) (.cons (hv.le l1) .nil)
  refine (fn_get K hsz hx hno hlow).le (by lia : 3 ≤ n + 3) A s' Z1 [.ref T, v] Q E hA I1 hsat.length hsat.get fun u Z₃ s₃ x₃ pu => ?_
  obtain ⟨Z2, x2, rr⟩ := kk Z₃ s₃ x₃
  exact k u Z2 s₃ (x'.trans x2) (rr u _ pu)
theorem op_is_nn {n : Nat} : OP2 C n (compareOp .Is) (is .none) (is .none) (is (.bool true)) := fun A s Z u v Q E hA I hu hv k => by
  cases hu; cases hv
  have e : (Value.none == Value.none) = true := by simp
  exact wpAny_pure (a := Value.bool (Value.none == Value.none)) (by rw [e]; exact k _ Z _ (StepX.refl I) (.bool _))
theorem op_is_sn {n : Nat} {x : Str} : OP2 C n (compareOp .Is) (is (.str x)) (is .none) (is (.bool false)) := fun A s Z u v Q E hA I hu hv k => by
  obtain ⟨t, rfl⟩ := rdi hu; cases hv
  have e : (Value.str x t == Value.none) = false := by simp
  exact wpAny_pure (a := Value.bool (Value.str x t == Value.none)) (by rw [e]; exact k _ Z _ (StepX.refl I) (.bool _))
noncomputable def setL (hs : List (Str × Str)) (a b : Str) : List (Str × Str) := if (getF hs a).isSome then hs else hs ++ [(a, b)]
noncomputable def setR (hs : List (Str × Str)) (a b : Str) : Str := (getF hs a).getD b
theorem setd_call (K : HdrK C) {n : Nat} {H T : Addr} {hs : List (Str × Str)} {nm vl : Str} (hn0 : nm.cps.size ≤ 1000) (hn1 : (lowT nm).cps.size ≤ 1000) (hn2 : noHit codeN (lowT nm).cps 0 = true) (hn3 : noHit codeN nm.cps 0 = true) (hv1 : vl.cps.size ≤ 1000) (hv2 : noHit codeV vl.cps 0 = true) (hsz : hs.length ≤ 1000) (hlow : ∀ p ∈ hs, (lowT p.1).cps.size ≤ 1000)
    {A : Around} {s : Shared} {Z : Fz} {vn vv : Value} {Q : Value → Shared → Prop} {E : Value → Shared → Prop} (hA : Room (n + 5) A) (I : Inv C Z s) (ht : (tabV H).at_ Z (.ref T)) (ho : Owned Z s.heap (H, hs.map hpV)) (hn : Rd Z vn (.str nm)) (hv : Rd Z vv (.str vl))
    (k : ∀ v Z' s', StepX C (· = H) Z s Z' s' → Owned Z' s'.heap (H, (setL hs nm vl).map hpV) → Rd Z' v (.str (setR hs nm vl)) → Q v s') : wpAny (model C.prog C.w) A (call (.ref 165) [.ref T, vn, vv]) Q E s := by
  obtain ⟨doc, pm, c, hfo, hcd⟩ := K.setd
  have hsl : hs.length ≤ sizeLine := by rw [sizeLine_eq]; lia
  refine clo_enterA (n := n + 3) (args := ⟨[.ref T, vn, vv], []⟩) (vs := [.ref T, vn, vv]) (fd := mFd (mthSt pw 6 15) (sQ "Headers.setdefault") .none doc pm (.ref c)) (xs := [sQ "self", sQ "name", sQ "value"]) (oc := [sQ "self", sQ "name", sQ "value", sQ "result"])
    (nm := [sQ "self", sQ "name", sQ "value", sQ "result"]) (ρ := [some (tabV H), some (is (.str nm)), some (is (.str vl)), none]) (ω := [(H, hs.map hpV)]) (sc := scOf (mthSt pw 6 15)) K.q I hA (I.base _ _ hfo) rfl rfl (hcd.le I.base) rfl rfl rfl rfl rfl (BindsTo.of_eq rfl) rfl rfl rfl (by decide +kernel) List.Pairwise.nil (fun _ _ h => nomatch h) (fun p hp => by cases List.mem_singleton.mp hp; exact ho) (by simp) ?_ ?_ rfl rfl rfl
  · intro L h' hn' hk
    exact .va ⟨by decide +kernel, .inl ⟨rfl, _, hn', rfl⟩⟩ ht (.va ⟨by decide +kernel, .inl ⟨rfl, _, hn', rfl⟩⟩ hn (.va ⟨by decide +kernel, .inl ⟨rfl, _, hn', rfl⟩⟩ hv (.un .nil)))
  · intro L X A' s₁ E' hA' I₁ st hX Hh
    refine eg_run (RA := fun Z h v => Owned Z h (H, (setL hs nm vl).map hpV) ∧ Rd Z v (.str (setR hs nm vl))) (botA C) ?_ hA' I₁ Hh (fun Z' s' x' H' => H'.elim) fun v Z' s' x' ra => ?_
    rotate_left
    · exact k v Z' s' (((Step.to st).trans x').hideY fun b hb => (hX b hb).imp id fun q => by simpa using q) ra.1 ra.2
    · clear k Hh
      apply eg_cons
      · apply ex_assign
        · apply ev_get_own K (n := n + 1) (hs := hs) (a := nm)
          · walk_at "at"
          · exact .head _
          · walk_at "ev"
          · exact hsl
          · exact hn1
          · exact hn2
          · exact hlow
        · walk_at "at"
        · exact ⟨by decide +kernel, by decide +kernel⟩
        · exact rfl
        · exact rfl
      cases hg : getF hs nm with
      | none =>
        have e1 : setL hs nm vl = hs ++ [(nm, vl)] := by rw [setL, hg]; rfl
        have e2 : setR hs nm vl = vl := by rw [setR, hg]; rfl
        rw [e1, e2]
        apply eg_ifs (c := true)
        · apply tv_cmp
          · apply ev_d (d' := .none)
            · walk_at "ev"
            · rfl
          · walk_at "ev"
          · exact op_is_nn
          · exact rfl
        · intro _
          apply eg_cons
          · apply ex_hdr_append K (H := H) (d := hpV (nm, vl)) (ds := hs.map hpV)
            · walk_at "at"
            · apply ev_tupL
              · apply el_cons
                · apply ev_convk K (b := true) (fun _ _ h => ⟨H, h⟩)
                  · walk_at "ev"
                  · walk_at "ev"
                  · lia
                  · exact hn3
                · apply el_cons
                  · apply ev_convk K (b := false) (fun _ _ h => ⟨H, h⟩)
                    · walk_at "ev"
                    · walk_at "ev"
                    · lia
                    · exact hv2
                  · walk_at "ev"
                  · exact rfl
                · exact rfl
              · walk_at "at"
              · exact Nat.le_of_ble_eq_true rfl
            · exact OU.here
            · rw [List.length_map]; exact hsl
          apply eg_ret (P := is (.str vl))
          · walk_at "ev"
          · intro Z h v Hh p
            have := Hh.own _ (.head _)
            rw [List.map_append]
            exact ⟨this, p⟩
        · intro h; cases h
      | some r =>
        have e1 : setL hs nm vl = hs := by rw [setL, hg]; rfl
        have e2 : setR hs nm vl = r := by rw [setR, hg]; rfl
        rw [e1, e2]
        apply eg_ifs (c := false)
        · apply tv_cmp
          · apply ev_d (d' := .str r)
            · walk_at "ev"
            · rfl
          · walk_at "ev"
          · exact op_is_sn
          · exact rfl
        · intro h; cases h
        · intro _
          apply eg_ret (P := is (.str r))
          · apply ev_d
            · walk_at "ev"
            · rfl
          · intro Z h v Hh p
            exact ⟨Hh.own _ (.head _), p⟩
end
end
section
local macro_rules | `(tactic| walk_at "def") => `(tactic| fail)
section
variable {C : Cx} {n : Nat} {X : Addr → Prop} {Φ Ψ Ψ' Θ : Asn C} {R : Vp} {env : Env} {rest b o : List Stmt} {pos : Pos}
def TVW (C : Cx) (n : Nat) (X : Addr → Prop) (Φ : Asn C) (t : Sem Bool) (b : Bool) (Ψ : Asn C) : Prop :=
  ∀ (A : Around) (s : Shared) (Z : Fz) (Q : Bool → Shared → Prop) (E : Value → Shared → Prop), Room n A → Inv C Z s → Φ.at_ Z s.heap →
    (∀ Z' s', StepX C X Z s Z' s' → Ψ.at_ Z' s'.heap → Q b s') → wpAny (model C.prog C.w) A t Q E s
theorem ex_ifW {t : Expr} {c : Bool} (ht : TVW C n X Φ (isTrue t env (eval t env)) c Ψ') (hb : c = true → EX C n X Ψ' (execs (b ++ rest) env) Ψ R) (ho : c = false → EX C n X Ψ' (execs (o ++ rest) env) Ψ R) :
    EX C n X Φ (execs (.If t b o pos :: rest) env) Ψ R := fun A s Z Q E hA I H k kr => by
  rw [execs_if]
  refine wpAny_bind (wpAny_standAt (wpAny_bind (ht A s Z _ E hA I H fun Z₁ s₁ x₁ H₁ => ?_)))
  cases c with
  | true => exact hb rfl A s₁ Z₁ Q E hA x₁.inv H₁ (fun Z₂ s₂ x₂ H₂ => k Z₂ s₂ (x₁.trans x₂) H₂) fun v Z₂ s₂ x₂ r => kr v Z₂ s₂ (x₁.trans x₂) r
  | false => exact ho rfl A s₁ Z₁ Q E hA x₁.inv H₁ (fun Z₂ s₂ x₂ H₂ => k Z₂ s₂ (x₁.trans x₂) H₂) fun v Z₂ s₂ x₂ r => kr v Z₂ s₂ (x₁.trans x₂) r
theorem tvw_or {a b : Expr} {pos : Pos} {whole : Sem Value} {c : Bool} (h1 : TV C n Φ (isTrue a env (eval a env)) false) (h2 : TVW C n X Φ (isTrue b env (eval b env)) c Ψ) : TVW C n X Φ (isTrue (.BoolOp .Or [a, b] pos) env whole) c Ψ := fun A s Z Q E hA I H k => by
  refine wpAny_isTrue_BoolOp ?_
  show wpAny _ _ (isTrue a env (eval a env) >>= _) _ _ _
  refine wpAny_bind (h1 A s Z _ E hA I H fun Z₁ s₁ x₁ => ?_)
  show wpAny _ _ (isTrue b env (eval b env) >>= _) _ _ _
  refine wpAny_bind (h2 A s₁ Z₁ _ E hA x₁.inv (Φ.stable I H x₁) fun Z₂ s₂ x₂ H₂ => ?_)
  cases c
  · exact wpAny_pure (k Z₂ s₂ ((Step.to x₁).trans x₂) H₂)
  · exact wpAny_pure (k Z₂ s₂ ((Step.to x₁).trans x₂) H₂)
theorem op_ne_str {x y : Str} : OP2 C n (compareOp .NotEq) (is (.str x)) (is (.str y)) (is (.bool (x != y))) := fun A s Z u v Q E hA I hu hv k => by
  obtain ⟨_, rfl⟩ := rdi hu; obtain ⟨_, rfl⟩ := rdi hv; exact PyProof.Rows.ne_str (k _ Z _ (StepX.refl I) (.bool _))
theorem tvw_set (K : HdrK C) {nm oc : List Str} {sc : List (Str × NameKind)} {ω ω' : List (Addr × List PV)} {κ : Addr → Option Obj} {ρ : List (Option Vp)} {x : Str} {p1 apos cpos : Pos} {e1 e2 e3 : Expr} {H : Addr} {hs : List (Str × Str)} {a b c : Str} {whole : Sem Value}
    (hr : At nm ρ x (tabV H)) (he : EL C (n + 5) (FS C env nm oc sc X ρ ω κ) (spliced (backTo cpos (starEach [e1, e2] env))) [is (.str a), is (.str b)]) (u : OU ω H (hs.map hpV) ((setL hs a b).map hpV) ω') (h3 : EV C (n + 5) (FS C env nm oc sc X ρ ω' κ) (eval e3 env) (is (.str c)))
    (hn0 : a.cps.size ≤ 1000) (hn1 : (lowT a).cps.size ≤ 1000) (hn2 : noHit codeN (lowT a).cps 0 = true) (hn3 : noHit codeN a.cps 0 = true) (hv1 : b.cps.size ≤ 1000) (hv2 : noHit codeV b.cps 0 = true) (hsz : hs.length ≤ 1000) (hlow : ∀ p ∈ hs, (lowT p.1).cps.size ≤ 1000)
    (hbase : attributeBase (.Name x p1) (sQ "setdefault") env (eval (.Name x p1) env) = eval (.Name x p1) env := by rfl) (hline : (apos.endLine == cpos.line) = true := by rfl)
    (hform : methodCallForm (([e1, e2] : List Expr).length + ([] : List Keyword).length) (backTo cpos (starEach [e1, e2] env)) (backToKw cpos (keywordEach [] env)) = true := by rfl) (hst : starEach [e1, e2] env = (false, eval e1 env) :: starEach [e2] env := by rfl) (hm : behindInMarks .NotEq e3 = false := by rfl) :
    TVW C (n + 5) X (FS C env nm oc sc X ρ ω κ) (isTrue (.Compare (.Call (.Attribute (.Name x p1) (sQ "setdefault") apos) [e1, e2] [] cpos) [.NotEq] [e3] pos) env whole) (setR hs a b != c) (FS C env nm oc sc X ρ ω' κ) := fun A s Z Q E hA I Hh k => by
  obtain ⟨doc, pm, cc, hfo, hcd⟩ := K.setd
  obtain ⟨mN, N, ga, gh, _, hg⟩ := K.ns2
  refine wpAny_isTrue_Compare1 ?_ hm
  refine call_own hbase hform hline (ev_name (n := n + 5) hr A s Z _ E hA I Hh fun v Z₁ s₁ x₁ pv => ?_)
  have H₁ := (FS C env nm oc sc X ρ ω κ).stable I Hh x₁
  have pv0 := pv
  obtain ⟨T, rfl, ht⟩ := pv
  refine ⟨T, 165, { cls := .type "function", data := .func (mFd (mthSt pw 6 15) (sQ "Headers.setdefault") .none doc pm (.ref cc)) }, mFd (mthSt pw 6 15) (sQ "Headers.setdefault") .none doc pm (.ref cc), rfl, rfl, fun E' Q' pl q => inst_meth2 K x₁.inv (H := H) N ga gh hg hfo lk_setd (instM_none (by decide +kernel)) ht q, ?_⟩
  have he' := he A s₁ Z₁
  rw [hst] at he' ⊢
  refine Calls.evalArgs_plain (he' _ E hA x₁.inv H₁ fun vs Z₂ s₂ x₂ ps => ⟨x₂.inv.heap _ _ (x₂.inv.base _ _ hfo), ?_⟩)
  have H₂ := (FS C env nm oc sc X ρ ω κ).stable x₁.inv H₁ x₂
  obtain ⟨v1, _, rfl, r1, ps⟩ := sati ps
  obtain ⟨v2, _, rfl, r2, ps⟩ := sati ps
  obtain rfl := sati ps
  refine setd_call K (n := n) hn0 hn1 hn2 hn3 hv1 hv2 hsz hlow hA x₂.inv (Vp.mono _ x₂.le pv0) (H₂.own _ u.mem) r1 r2 fun v Z₃ s₃ x₃ ho rv => ?_
  obtain ⟨st, H₃⟩ := H₂.reown x₂.inv u x₃ ho
  refine h3 A s₃ Z₃ _ E hA x₃.inv H₃ fun w Z₄ s₄ x₄ pw => ?_
  refine op_ne_str (n := n + 5) A s₄ Z₄ v w _ E hA x₄.inv (rv.le x₄.le) pw fun r Z₅ s₅ x₅ pr => ?_
  obtain rfl := rdi pr
  exact wpAny_truthy_bool (k Z₅ s₅ (((((Step.to x₁).trans (Step.to x₂)).trans st).trans (Step.to x₄)).trans (Step.to x₅)) ((FS C env nm oc sc X ρ ω' κ).stable x₄.inv ((FS C env nm oc sc X ρ ω' κ).stable x₃.inv H₃ x₄) x₅))
theorem ev_getF (K : HdrK C) {nm oc : List Str} {sc : List (Str × NameKind)} {ω : List (Addr × List PV)} {κ : Addr → Option Obj} {ρ : List (Option Vp)} {x : Str} {p1 apos pos : Pos} {e1 : Expr} {hs : List (Str × Str)} {a : Str} (hr : At nm ρ x (tabF (hs.map hpV))) (he : EL C (n + 3) (FS C env nm oc sc X ρ ω κ) (spliced (backTo pos (starEach [e1] env))) [is (.str a)])
    (hsz : hs.length ≤ sizeLine) (hx : (lowT a).cps.size ≤ 1000) (hno : noHit codeN (lowT a).cps 0 = true) (hlow : ∀ p ∈ hs, (lowT p.1).cps.size ≤ 1000)
    (hbase : attributeBase (.Name x p1) (sQ "get") env (eval (.Name x p1) env) = eval (.Name x p1) env := by rfl) (hline : (apos.endLine == pos.line) = true := by rfl)
    (hform : methodCallForm (([e1] : List Expr).length + ([] : List Keyword).length) (backTo pos (starEach [e1] env)) (backToKw pos (keywordEach [] env)) = true := by rfl) (hst : starEach [e1] env = (false, eval e1 env) :: starEach [] env := by rfl) :
    EV C (n + 3) (FS C env nm oc sc X ρ ω κ) (eval (.Call (.Attribute (.Name x p1) (sQ "get") apos) [e1] [] pos) env) (is (optP (getF hs a))) := fun A s Z Q E hA I Hh k => by
  obtain ⟨doc, pm, c, hfo, hcd⟩ := K.get
  obtain ⟨mN, N, ga, gh, hg, _⟩ := K.ns2
  refine call_own hbase hform hline (ev_name (n := n + 3) hr A s Z _ E hA I Hh fun v Z₁ s₁ x₁ pv => ?_)
  have H₁ := (FS C env nm oc sc X ρ ω κ).stable I Hh x₁
  have pv0 := pv
  obtain ⟨T, H, rfl, ht, _⟩ := pv
  refine ⟨T, 122, { cls := .type "function", data := .func (mFd (mthSt pw 6 8) (sQ "Headers.get") (.ref 115) doc pm (.ref c)) }, mFd (mthSt pw 6 8) (sQ "Headers.get") (.ref 115) doc pm (.ref c), rfl, rfl, fun E' Q' pl q => inst_meth2 K x₁.inv (H := H) N ga gh hg hfo lk_get (instM_none (by decide +kernel)) ht q, ?_⟩
  have he' := he A s₁ Z₁
  rw [hst] at he' ⊢
  refine Calls.evalArgs_plain (he' _ E hA x₁.inv H₁ fun vs Z₂ s₂ x₂ ps => ⟨x₂.inv.heap _ _ (x₂.inv.base _ _ hfo), ?_⟩)
  have hsat : Sat Z₂ (.ref T :: vs) (tabF (hs.map hpV) :: [is (.str a)]) := .cons (Vp.mono _ x₂.le pv0) ps
  exact (fn_get K hsz hx hno hlow).le (by lia : 3 ≤ n + 3) A s₂ Z₂ (.ref T :: vs) Q E hA x₂.inv hsat.length hsat.get fun u Z₃ s₃ x₃ pu => k u Z₃ s₃ ((x₁.trans x₂).trans x₃) pu
end
end
section
local macro_rules | `(tactic| walk_at "def") => `(tactic| fail)
section
variable {C : Cx}
theorem fn_setdF (K : HdrK C) {hs : List (Str × Str)} {x y r : Str} (hsz : hs.length ≤ sizeLine) (hx0 : (lowT x).cps.size ≤ 1000) (hno : noHit codeN (lowT x).cps 0 = true) (hlow : ∀ p ∈ hs, (lowT p.1).cps.size ≤ 1000) (hg : getF hs x = some r) :
    FN C 5 (.ref 165) [tabF (hs.map hpV), is (.str x), is (.str y)] (is (.str r)) := by
  obtain ⟨doc, pm, c, hfo, hcd⟩ := K.setd
  refine fn_def (n := 3) (sc := scOf (mthSt pw 6 15)) (ρ := [some (tabF (hs.map hpV)), some (is (.str x)), some (is (.str y)), none]) (nm := [sQ "self", sQ "name", sQ "value", sQ "result"]) (xs := [sQ "self", sQ "name", sQ "value"]) K.q hfo rfl (codeZ_of hcd) rfl rfl rfl rfl rfl (bnd3 fun _ _ _ => by kernel_rfl) rfl (by decide +kernel) (by decide +kernel) (by decide +kernel) rfl rfl fun L X => ?_
  apply ex_cons
  · apply ex_assign
    · apply ev_d (d' := .str r)
      · apply ev_getF K (n := 1) (hs := hs) (a := x)
        · walk_at "at"
        · walk_at "ev"
        · exact hsz
        · exact hx0
        · exact hno
        · exact hlow
      · rw [hg]; rfl
    · walk_at "at"
    · decide +kernel
    · rfl
    · exact rfl
  apply ex_ifs (c := false)
  · apply tv_cmp
    · walk_at "ev"
    · walk_at "ev"
    · exact op_is_sn
    · exact rfl
  · intro h; cases h
  · intro _
    apply ex_ret
    walk_at "ev"
theorem ev_setdF (K : HdrK C) {n : Nat} {X : Addr → Prop} {env : Env} {nm oc : List Str} {sc : List (Str × NameKind)} {ω : List (Addr × List PV)} {κ : Addr → Option Obj} {ρ : List (Option Vp)} {x : Str} {p1 apos pos : Pos} {e1 e2 : Expr} {hs : List (Str × Str)} {a b r : Str} (hr : At nm ρ x (tabF (hs.map hpV))) (he : EL C (n + 5) (FS C env nm oc sc X ρ ω κ) (spliced (backTo pos (starEach [e1, e2] env))) [is (.str a), is (.str b)])
    (hsz : hs.length ≤ sizeLine) (hx : (lowT a).cps.size ≤ 1000) (hno : noHit codeN (lowT a).cps 0 = true) (hlow : ∀ p ∈ hs, (lowT p.1).cps.size ≤ 1000) (hg : getF hs a = some r)
    (hbase : attributeBase (.Name x p1) (sQ "setdefault") env (eval (.Name x p1) env) = eval (.Name x p1) env := by rfl) (hline : (apos.endLine == pos.line) = true := by rfl)
    (hform : methodCallForm (([e1, e2] : List Expr).length + ([] : List Keyword).length) (backTo pos (starEach [e1, e2] env)) (backToKw pos (keywordEach [] env)) = true := by rfl) (hst : starEach [e1, e2] env = (false, eval e1 env) :: starEach [e2] env := by rfl) :
    EV C (n + 5) (FS C env nm oc sc X ρ ω κ) (eval (.Call (.Attribute (.Name x p1) (sQ "setdefault") apos) [e1, e2] [] pos) env) (is (.str r)) := fun A s Z Q E hA I Hh k => by
  obtain ⟨doc, pm, c, hfo, hcd⟩ := K.setd
  obtain ⟨mN, N, ga, gh, _, hgm⟩ := K.ns2
  refine call_own hbase hform hline (ev_name (n := n + 5) hr A s Z _ E hA I Hh fun v Z₁ s₁ x₁ pv => ?_)
  have H₁ := (FS C env nm oc sc X ρ ω κ).stable I Hh x₁
  have pv0 := pv
  obtain ⟨T, H, rfl, ht, _⟩ := pv
  refine ⟨T, 165, { cls := .type "function", data := .func (mFd (mthSt pw 6 15) (sQ "Headers.setdefault") .none doc pm (.ref c)) }, mFd (mthSt pw 6 15) (sQ "Headers.setdefault") .none doc pm (.ref c), rfl, rfl, fun E' Q' pl q => inst_meth2 K x₁.inv (H := H) N ga gh hgm hfo lk_setd (instM_none (by decide +kernel)) ht q, ?_⟩
  have he' := he A s₁ Z₁
  rw [hst] at he' ⊢
  refine Calls.evalArgs_plain (he' _ E hA x₁.inv H₁ fun vs Z₂ s₂ x₂ ps => ⟨x₂.inv.heap _ _ (x₂.inv.base _ _ hfo), ?_⟩)
  have hsat : Sat Z₂ (.ref T :: vs) (tabF (hs.map hpV) :: [is (.str a), is (.str b)]) := .cons (Vp.mono _ x₂.le pv0) ps
  exact (fn_setdF K hsz hx hno hlow hg).le (by lia : 5 ≤ n + 5) A s₂ Z₂ (.ref T :: vs) Q E hA x₂.inv hsat.length hsat.get fun u Z₃ s₃ x₃ pu => k u Z₃ s₃ ((x₁.trans x₂).trans x₃) pu
end
end
section
open PySem.SeqAt
section
variable {C : Cx} {n : Nat} {target : Expr} {Z : Fz} {s : Shared}
theorem RdL.of_get : ∀ {vs : List Value} {ds : List PV}, vs.length = ds.length → (∀ (j : Nat) v d, vs[j]? = some v → ds[j]? = some d → Rd Z v d) → RdL Z vs ds
  | [], [], _, _ => .nil
  | [], _ :: _, h, _ => nomatch h
  | _ :: _, [], h, _ => nomatch h
  | v :: vs, d :: ds, h, k => .cons (k 0 v d rfl rfl) (RdL.of_get (Nat.succ.inj h) fun j v d e1 e2 => k (j + 1) v d e1 e2)
theorem pi_str {x : Str} (hx : x.cps.all (· < 128) = true) : PI C n (is (.str x)) target (chrL x) := fun A s Z v Q E hA I hv k => by
  obtain ⟨t, rfl⟩ := rdi hv
  refine wpAny_pyIter_ascii hx ?_
  have st : Step C Z s Z _ := StepX.push I (o := { cls := .type "str_ascii_iterator", data := .fields #[.str x t, .int 0 0] }) (t := s.toks)
  have hl : (chrL x).length = x.cps.size := by rw [chrL, List.length_map, Array.length_toList]
  refine k _ Z _ st (turns_walks (fun A hA => hl ▸ Walks.strAscii hA s.heap.objs.size x t) (fun i h' st' => ?_) ⟨_, Heap.get?_push_size _ rfl, rfl, rfl⟩ (fun b hb => ?_) (fun b hb => ?_) (fun i h' st' b hb => ?_) fun i v d Z' le hd hP => ?_)
  · obtain ⟨o, ho, hc, _⟩ := st'
    exact ⟨o, _, ho, hc, by decide +kernel⟩
  · rw [List.mem_singleton.mp hb]; exact I.fresh (gAb (Nat.le_refl _))
  · rw [List.mem_singleton.mp hb]; exact .inr ⟨gAb (Nat.le_refl _), I.fresh (gAb (Nat.le_refl _))⟩
  · rw [List.mem_singleton.mp hb]
    obtain ⟨o, ho, hc, _⟩ := st'
    exact ⟨o, ho, fun _ ps q => by subst q; simp [tabObj] at hc⟩
  · obtain ⟨c, u, hc, rfl⟩ := hP
    rw [chrL, List.getElem?_map] at hd
    have : x.cps.toList[i]? = some c := by simpa using hc
    rw [this] at hd
    cases hd
    exact .str _ _
theorem op_in_str {x y : Str} : OP2 C n (compareOp .In) (is (.str y)) (is (.str x)) (is (.bool (!(Builtin.Str.occurrences x y 0 x.length 1).isEmpty))) := fun A s Z u v Q E hA I hu hv k => by
  obtain ⟨_, rfl⟩ := rdi hu; obtain ⟨_, rfl⟩ := rdi hv
  exact PyProof.Rows.in_str (k _ Z _ (StepX.refl I) (.bool _))
noncomputable def rngV (m : Int) : Vp := ⟨fun Z v => ∃ r t u w, v = .ref r ∧ Z r = some { cls := .type "range", data := .fields #[.int 0 t, .int m u, .int 1 w] }, fun k ⟨r, t, u, w, e, h⟩ => ⟨r, t, u, w, e, k _ _ h⟩⟩
theorem fn_range1 {m : Int} : FN C n (.type "range") [is (.int m)] (rngV m) := fn1 fun A s Z v Q E hA I h k => by
  obtain ⟨t, rfl⟩ := rdi h
  refine call_range_1 ?_
  have st := StepX.alloc (X := No) I (o := { cls := .type "range", data := .fields #[.int 0 s.toks, .int m t, .int 1 (s.toks + 1)] }) (t := s.toks + 1 + 1) rfl
  exact k _ _ _ st ⟨_, _, _, _, rfl, put_self⟩
theorem fn_listrange {m : Int} (hsm : Builtin.Range.small 0 m 1 = true) (hm : m.toNat ≤ 2 ^ 24) : FN C n (.type "list") [rngV m] (is (.list (rngL 0 m.toNat))) := fn1 fun A s Z v Q E hA I h k => by
  obtain ⟨r, t, u, w, rfl, hr⟩ := h
  refine call_list_range hA.handled (I.heap _ _ hr) hsm (n := m.toNat) (by rw [rangeSize_one, show m - 0 = m by lia]) hm fun h' tk acc c hk hS hacc => ?_
  have g0 : s.heap.get? s.heap.objs.size = none := gAb (Nat.le_refl _)
  have st : StepX C (fun b => b = s.heap.objs.size) Z s Z { s with heap := h', toks := tk } := .keeps I hk
  have hz : Z s.heap.objs.size = none := I.fresh g0
  have nS : ∀ t ∈ C.tabs, s.heap.objs.size ≠ t.1 := fun t ht q => by
    obtain ⟨ps, e, _⟩ := I.tabs t ht
    rw [← q, g0] at e; cases e
  have f := StepX.freeze (X := fun b => b = s.heap.objs.size) st.inv rfl hz hS nS
  refine k _ _ _ ((st.trans f).hide fun b hb => hb ▸ g0) ?_
  obtain ⟨acc⟩ := acc
  obtain ⟨h1, h2⟩ := hacc
  refine .list put_self (RdL.of_get (by rw [rngL_length]; simpa using h1) fun j v d e1 e2 => ?_)
  obtain ⟨t', rfl⟩ := h2 j v (by simpa using e1)
  unfold rngL at e2
  rw [List.getElem?_map] at e2
  cases hq : (List.range m.toNat)[j]? with
  | none => rw [hq] at e2; cases e2
  | some i =>
    rw [hq] at e2; cases e2
    have := (List.getElem?_eq_some_iff.mp hq).2
    rw [List.getElem_range] at this
    subst this
    rw [Int.mul_one]
    exact .int _ _
open Classical in
theorem op_notin {d : PV} {l : List PV} (kk : Nat) (hk : kk ≤ 800) (h : ∀ y ∈ l, okN kk y d = true) : OP2 C n (compareOp .NotIn) (is d) (is (.list l)) (is (.bool (!(l.any fun y => eqN kk y d)))) := fun A s Z u v Q E hA I hu hv k => by
  obtain ⟨a, m, vs, rfl, hz, r⟩ := rdi hv
  have e := I.heap _ _ hz
  have hun : A.units < 9001 := by have := hA.units; lia
  let ev : Value → Bool := fun y => decide (∃ d', Rd Z y d' ∧ eqN kk d' d = true)
  have hev : ∀ {y d'}, Rd Z y d' → ev y = eqN kk d' d := fun {y d'} hy => by
    show decide _ = _
    cases hq : eqN kk d' d with
    | true => exact decide_eq_true ⟨d', hy, hq⟩
    | false =>
      refine decide_eq_false fun ⟨d2, h2, h3⟩ => ?_
      rw [← hy.uniq h2, hq] at h3; cases h3
  have hany : ∀ {vs : List Value} {l : List PV}, RdL Z vs l → vs.any ev = l.any fun y => eqN kk y d := fun {vs l} r => by
    induction l generalizing vs with
    | nil => have := rdli r; subst this; rfl
    | cons x l ih =>
      obtain ⟨y, r', rfl, hy, r'⟩ := rdli r
      rw [List.any_cons, List.any_cons, hev hy, ih r']
  show wpAny _ _ (do return .bool (!(← contains _ _))) Q E s
  refine wpAny_bind (wpAny_contains_slot (T := "list") ⟨_, e, rfl⟩ F.slot_list_contains (call_meets F.slot_list_contains ⟨_, e, rfl⟩ F.entry_list_contains (F.args_list_contains_2 _ _) (list_containsAt a vs.toArray m none #[] u ev) ⟨e, fun y hy => ?_, ?_⟩))
  · have hy' : y ∈ vs := by simpa using hy
    obtain ⟨i, hi⟩ := List.mem_iff_getElem?.mp hy'
    have hlt := (List.getElem?_eq_some_iff.mp hi).1
    rw [r.length] at hlt
    have hd := List.getElem?_eq_getElem hlt
    have hr := r.at hi hd
    rw [hev hr]
    exact eq_at I kk _ _ _ _ _ hr hu (h _ (List.mem_of_getElem? hd)) (by show A.units + 1 + kk < 9900; lia)
  · rw [List.any_toArray, hany r]
    exact wpAny_truthy_bool (wpAny_pure (k _ Z _ (StepX.refl I) (.bool _)))
end
end
section
local macro_rules | `(tactic| walk_at "fn") => `(tactic| with_reducible exact fn_int_bool)
structure LawY (C : Cx) : Prop extends LawL C where
  sum : BltZ C (sQ "sum") (.builtin "sum")
  enumerate : BltZ C (sQ "enumerate") (.type "enumerate")
  str : BltZ C (sQ "str") (.type "str")
  list : BltZ C (sQ "list") (.type "list")
noncomputable abbrev lI (l : List Int) : PV := .list (l.map .int)
noncomputable def heapS (S : List Int) (k : Int) : Int := ((pickI (pickI S none (some 60) none) (some k) none (some 4)).map fun x => x.fmod (10 ^ (6 : Int).toNat)).sum
section
variable {C : Cx} {X : Addr → Prop} {κ : Addr → Option Obj} {env : Env} {q : Str} {doc pm cd : Value} {L f : Addr} {R : Vp}
theorem b_0 (he : env = callEnvC (fdOf (stAt pw 88) q doc pm cd) L f) (K : LawY C) (S : List Int) (hS : S.length ≤ 100) : EX C 40 X (FS C env nmS nmS (scOf (stAt pw 88)) X [some (is (lI S)), none, none, none, none, none, none, none, none, none, none, none, none, none, none, none, none, none, none, none, none, none, none, none, none] [] κ) (execs [inSt pw 88 0] env)
    (FS C env nmS nmS (scOf (stAt pw 88)) X [none, some (is (lI [2684 + heapS S 0, 2026 + heapS S 1, 5003 + heapS S 2, 18 + heapS S 3])), none, none, none, none, none, none, none, none, none, none, none, none, none, none, none, none, none, none, none, none, none, none, none] [] κ) R := by
  have g1 := K.sum
  have g2 := K.enumerate
  show EX _ _ _ _ (execs [.Assign [_] _ _] _) _ _
  have hs1 : (S.map PV.int).length ≤ sizeLine := by rw [List.length_map, sizeLine_eq]; omega
  have hs2 : (pickL (S.map PV.int) none (some 60) none).length ≤ sizeLine := Nat.le_trans (pickL_len _ _ _ _) hs1
  have hs3 : ∀ k, (pickI (pickI S none (some 60) none) (some k) none (some 4)).length ≤ sizeLine := fun k => by
    have h1 := pickL_len ((pickI S none (some 60) none).map PV.int) (some k) none (some 4)
    rw [pickL_ints, List.length_map, List.length_map] at h1
    have h2 := pickL_len (S.map PV.int) none (some 60) none
    rw [pickL_ints, List.length_map] at h2
    omega
  apply ex_cons
  · apply ex_assignC1 (ds := [2684 + heapS S 0, 2026 + heapS S 1, 5003 + heapS S 2, 18 + heapS S 3].map .int)
    apply comp1_ok (xs := [(0, 2684), (1, 2026), (2, 5003), (3, 18)]) (f := fun (p : Int × Int) => .tup [.int p.1, .int p.2]) (h := fun p => .int (p.2 + heapS S p.1))
    · apply it_eq
      · apply it_callTt
        · assumption
        · walk_at "ev"
        · exact fi_enumT
        · exact rfl
        · exact rfl
        · exact rfl
        · exact rfl
      · exact rfl
    · walk_at "at"
    · exact rfl
    · decide +kernel
    · exact rfl
    · exact Nat.le_of_ble_eq_true rfl
    · intro cenv X' j hx
      apply ex_mk3
      · walk_at "at"
      · walk_at "at"
      · intro ω κ
        apply ev_bin
        · walk_at "ev"
        · apply ev_callBt (R := is (.int (heapS S j.1)))
          · assumption
          · apply el_cons
            · apply ev_d (d' := lI ((pickI (pickI S none (some 60) none) (some j.1) none (some 4)).map fun x => x.fmod (10 ^ (6 : Int).toNat)))
              · apply ev_comp1
                apply comp1_ok (xs := pickI (pickI S none (some 60) none) (some j.1) none (some 4)) (f := fun (p : Int) => .int p) (h := fun p => .int (p.fmod (10 ^ (6 : Int).toNat)))
                · apply it_eq
                  · apply it_list
                    apply ev_slice_list3T
                    · apply ev_slice_listT
                      · walk_at "ev"
                      · exact pt_none
                      · apply pt_some
                        walk_at "ev"
                      · exact hs1
                    · apply pt_some
                      walk_at "ev"
                    · exact pt_none
                    · apply pt_some
                      walk_at "ev"
                    · decide
                    · exact hs2
                  · rw [pickL_ints, pickL_ints]
                · walk_at "at"
                · exact rfl
                · decide +kernel
                · exact rfl
                · exact hs3 _
                · intro cenv2 X2 p hp
                  apply ex_mk3
                  · walk_at "at"
                  · walk_at "at"
                  · intro ω κ
                    apply ev_bin
                    · walk_at "ev"
                    · walk_at "ev"
                    · exact op_mod_int (by decide)
              · show PV.list _ = PV.list _
                rw [List.map_map]; rfl
            · walk_at "ev"
            · exact rfl
          · exact fn_sum
          · exact rfl
          · exact rfl
        · walk_at "op"
    · exact rfl
    · walk_at "at"
    · decide +kernel
    · decide +kernel
    · walk_at "rfl"
  apply ex_fgt
  walk_at "at"
theorem b_1 (he : env = callEnvC (fdOf (stAt pw 88) q doc pm cd) L f) (K : LawY C) (h0 h1 h2 h3 : Int) : EX C 40 X (FS C env nmS nmS (scOf (stAt pw 88)) X [none, some (is (lI [h0, h1, h2, h3])), none, none, none, none, none, none, none, none, none, none, none, none, none, none, none, none, none, none, none, none, none, none, none] [] κ) (execs [inSt pw 88 1] env)
    (FS C env nmS nmS (scOf (stAt pw 88)) X [none, some (is (lI [h0, h1, h2, h3])), some (is (v3 (h1, h2, h3))), some (is (.list [.int (h0.fmod 2), .int ((h0.fdiv 2).fmod 2)])), some (is (.int ((h0.fdiv 4).fmod 6))), none, none, none, none, none, none, none, none, none, none, none, none, none, none, none, none, none, none, none, none] [] κ) R := by
  show EX _ _ _ _ (execs [.Assign [.Tuple [_, _, _] _ _] (.Tuple [_, _, _] _ _) _] _) _ _
  apply ex_tup
  · rw [he]; exact rfl
  · rw [he]; exact rfl
  · exact Nat.le_of_ble_eq_true rfl
  · apply TupK.val
    · apply ev_d (d' := v3 (h1, h2, h3))
      · apply ev_slice_listT
        · walk_at "ev"
        · apply pt_some
          walk_at "ev"
        · exact pt_none
        · exact Nat.le_of_ble_eq_true rfl
      · show PV.list _ = PV.list _
        congr 1
        kernel_rfl
    · apply TupK.val
      · walk_at "ev"
      · apply TupK.val
        · walk_at "ev"
        · apply tk_nil rfl
          · show Bds _ _ _ _ [_, _, _] _ _
            walk_at "at"
          · apply ex_fgt
            walk_at "fgtd"
        · exact rfl
      · exact rfl
    · exact rfl
theorem b_2 (he : env = callEnvC (fdOf (stAt pw 88) q doc pm cd) L f) (K : LawY C) (h0 h1 h2 h3 : Int) (p1 p2 p3 : Vp) : EX C 40 X (FS C env nmS nmS (scOf (stAt pw 88)) X [none, some (is (lI [h0, h1, h2, h3])), some (p1), some (p2), some (p3), none, none, none, none, none, none, none, none, none, none, none, none, none, none, none, none, none, none, none, none] [] κ) (execs [inSt pw 88 2] env)
    (FS C env nmS nmS (scOf (stAt pw 88)) X [none, some (is (lI [h0, h1, h2, h3])), some (p1), some (p2), some (p3), some (is (.int (1 + (h0.fdiv 120).fmod 4))), some (is (.int (1 + (h0.fdiv 480).fmod 4))), some (is (.int ((h0.fdiv 1920).fmod 2))), none, none, none, none, none, none, none, none, none, none, none, none, none, none, none, none, none] [] κ) R := by
  show EX _ _ _ _ (execs [.Assign [.Tuple [_, _, _] _ _] (.Tuple [_, _, _] _ _) _] _) _ _
  apply ex_tup
  · rw [he]; exact rfl
  · rw [he]; exact rfl
  · exact Nat.le_of_ble_eq_true rfl
  · apply TupK.val
    · walk_at "ev"
    · apply TupK.val
      · walk_at "ev"
      · apply TupK.val
        · walk_at "ev"
        · apply tk_nil rfl
          · show Bds _ _ _ _ [_, _, _] _ _
            walk_at "at"
          · apply ex_fgt
            walk_at "fgtd"
        · exact rfl
      · exact rfl
    · exact rfl
theorem b_3 (he : env = callEnvC (fdOf (stAt pw 88) q doc pm cd) L f) (K : LawY C) (h0 h1 h2 h3 : Int) (p1 p2 p3 p4 p5 p6 : Vp) : EX C 40 X (FS C env nmS nmS (scOf (stAt pw 88)) X [none, some (is (lI [h0, h1, h2, h3])), some (p1), some (p2), some (p3), some (p4), some (p5), some (p6), none, none, none, none, none, none, none, none, none, none, none, none, none, none, none, none, none] [] κ) (execs [inSt pw 88 3] env)
    (FS C env nmS nmS (scOf (stAt pw 88)) X [none, some (is (lI [h0, h1, h2, h3])), some (p1), some (p2), some (p3), some (p4), some (p5), some (p6), some (is (lI [h1.fmod 6561, h2.fmod 6561])), none, none, none, none, none, none, none, none, none, none, none, none, none, none, none, none] [] κ) R := by
  show EX _ _ _ _ (execs [.Assign [.Name _ _] _ _] _) _ _
  walk_at "asn"
  apply ex_fgt
  walk_at "fgtd"
end
end
section
local macro_rules | `(tactic| walk_at "fn") => `(tactic| with_reducible exact fn_int_bool)
local macro_rules | `(tactic| walk_at "op") => `(tactic| with_reducible exact op_in_str)
noncomputable def litL : List (Str × Int × Int × Int) := [(sQ "r", 1, 0, 0), (sQ "rg", 1, 1, 0), (sQ "g", 0, 1, 0), (sQ "gb", 0, 1, 1), (sQ "b", 0, 0, 1), (sQ "rb", 1, 0, 1)]
noncomputable def whP (s v : Int) (p : Str × Int × Int × Int) : V3 := (v * (4 - s + s * p.2.1), v * (4 - s + s * p.2.2.1), v * (4 - s + s * p.2.2.2))
noncomputable def whL (s v : Int) : List V3 := litL.map (whP s v)
noncomputable def litOk (p : Str × Int × Int × Int) : Bool := [(114, p.2.1), (103, p.2.2.1), (98, p.2.2.2)].all fun (c : Nat × Int) => decide ((if (!(Builtin.Str.occurrences p.1 ⟨#[c.1]⟩ 0 p.1.length 1).isEmpty) = true then (1 : Int) else 0) = c.2)
theorem lit_ok : ∀ p ∈ litL, litOk p = true := by decide +kernel
section
variable {C : Cx} {X : Addr → Prop} {κ : Addr → Option Obj} {env : Env} {q : Str} {doc pm cd : Value} {L f : Addr} {R : Vp}
theorem b_4 (he : env = callEnvC (fdOf (stAt pw 88) q doc pm cd) L f) (K : LawY C) (s v : Int) (hs1 : 1 ≤ s) (hs2 : s ≤ 4) (hv1 : 1 ≤ v) (hv2 : v ≤ 4) (p0 p1 p2 p3 p6 p7 : Vp) : EX C 40 X (FS C env nmS nmS (scOf (stAt pw 88)) X [none, some (p0), some (p1), some (p2), some (p3), some (is (.int s)), some (is (.int v)), some (p6), some (p7), none, none, none, none, none, none, none, none, none, none, none, none, none, none, none, none] [] κ) (execs [inSt pw 88 4] env)
    (FS C env nmS nmS (scOf (stAt pw 88)) X [none, some (p0), some (p1), some (p2), some (p3), none, none, some (p6), some (p7), some (is (.list ((whL s v).map v3))), none, none, none, none, none, none, none, none, none, none, none, none, none, none, none] [] κ) R := by
  have g1 := K.int
  show EX _ _ _ _ (execs [.Assign [.Name _ _] _ _] _) _ _
  apply ex_cons
  · apply ex_assign (P := is (.list ((whL s v).map v3)))
    · apply ev_d
      · apply ev_comp1
        apply comp1_ok (xs := litL) (f := fun (p : Str × Int × Int × Int) => .str p.1) (h := fun p => v3 (whP s v p))
        · apply it_eq
          · apply it_tup
            walk_at "ev"
          · exact rfl
        · walk_at "at"
        · exact rfl
        · decide +kernel
        · exact rfl
        · exact Nat.le_of_ble_eq_true rfl
        · intro cenv X' j hx
          apply ex_mk3
          · walk_at "at"
          · walk_at "at"
          · intro ω κ
            have hl := lit_ok j hx
            apply ev_d
            · apply ev_comp1
              apply comp1_ok (xs := [(114, j.2.1), (103, j.2.2.1), (98, j.2.2.2)]) (f := fun (c : Nat × Int) => .str ⟨#[c.1]⟩) (h := fun c => .int (v * (4 - s + s * c.2)))
              · apply it_eq
                · apply it_ev
                  · walk_at "ev"
                  · exact pi_str (by decide +kernel)
                · exact rfl
              · walk_at "at"
              · exact rfl
              · decide +kernel
              · exact rfl
              · exact Nat.le_of_ble_eq_true rfl
              · intro cenv2 X2 c hc
                have hc := of_decide_eq_true (List.all_eq_true.mp hl c hc)
                apply ex_mk3
                · walk_at "at"
                · walk_at "at"
                · intro ω κ
                  rw [← hc]
                  walk_at "ev"
            · rfl
      · rw [whL, List.map_map]; rfl
    · walk_at "at"
    · decide +kernel
    · decide +kernel
    · walk_at "rfl"
  apply ex_fgt
  walk_at "at"
end
end
noncomputable def rtA : Str := sQ "F<<F>>F"
noncomputable def rtB : Str := sQ "F>>F<<F"
noncomputable def rt (f : Int) : Str := if f = 0 then rtA else rtB
noncomputable def rulesL (f0 f1 : Int) : List (Str × Str) := [(sQ "F", rt f0), (sQ "G", sQ "F"), (sQ "f", rt f1)]
theorem op_rt {C : Cx} {n : Nat} {vv sl : Expr} {f : Int} (h : f = 0 ∨ f = 1)
    (hs : ∀ o i, subscripted sl false o i = operate [o, i] (getItem o i) := by intro _ _; rfl) : OP2 C n (subscriptTail vv sl) (is (.tup [.str rtA, .str rtB])) (is (.int f)) (is (.str (rt f))) := by
  rcases h with rfl | rfl
  · exact op_item_tup rfl rfl (by decide) (by decide) hs
  · exact op_item_tup rfl rfl (by decide) (by decide) hs
noncomputable abbrev nameF : Str := sQ "f"
theorem rules_get {f0 f1 : Int} (h0 : f0 = 0 ∨ f0 = 1) (h1 : f1 = 0 ∨ f1 = 1) : getF (rulesL f0 f1) nameF = some (rt f0) ∧ ((rulesL f0 f1).filter fun p => lowT p.1 == lowT nameF).map (·.2) = [rt f0, rt f1] := by
  rcases h0 with rfl | rfl <;> rcases h1 with rfl | rfl <;> decide +kernel
theorem rules_low {f0 f1 : Int} : ∀ p ∈ rulesL f0 f1, (lowT p.1).cps.size ≤ 1000 := by
  have : ∀ x ∈ [sQ "F", sQ "G", sQ "f"], (lowT x).cps.size ≤ 1000 := by decide +kernel
  intro p hp
  simp only [rulesL, List.mem_cons, List.not_mem_nil, or_false] at hp
  rcases hp with rfl | rfl | rfl
  · exact this _ (.head _)
  · exact this _ (.tail _ (.head _))
  · exact this _ (.tail _ (.tail _ (.head _)))
theorem nF_low : (lowT nameF).cps.size ≤ 1000 ∧ noHit codeN (lowT nameF).cps 0 = true := by decide +kernel
structure AddOk (a b : Str) : Prop where
  a1 : a.cps.size ≤ 1000
  a2 : noHit codeN a.cps 0 = true
  b1 : b.cps.size ≤ 1000
  b2 : noHit codeV b.cps 0 = true
theorem rules_ok {f0 f1 : Int} (h0 : f0 = 0 ∨ f0 = 1) (h1 : f1 = 0 ∨ f1 = 1) : ∀ p ∈ rulesL f0 f1, AddOk p.1 p.2 := by
  have : ∀ p ∈ rulesL f0 f1, p.1.cps.size ≤ 1000 ∧ noHit codeN p.1.cps 0 = true ∧ p.2.cps.size ≤ 1000 ∧ noHit codeV p.2.cps 0 = true := by
    rcases h0 with rfl | rfl <;> rcases h1 with rfl | rfl <;> decide +kernel
  intro p hp
  obtain ⟨a, b, c, d⟩ := this p hp
  exact ⟨a, b, c, d⟩
noncomputable def dueP (l : List (Str × Str)) : PV := .list (l.map hpV)
noncomputable def due0 : List (Str × Str) := [(lE, sQ "")]
section
variable {C : Cx} {X : Addr → Prop} {κ : Addr → Option Obj} {env : Env} {q : Str} {doc pm cd : Value} {L f : Addr} {R : Vp} {Ψ : Asn C}
theorem b_6 (he : env = callEnvC (fdOf (stAt pw 88) q doc pm cd) L f) (K : LawY C) (H : HdrK C) (f0 f1 : Int) (h0 : f0 = 0 ∨ f0 = 1) (h1 : f1 = 0 ∨ f1 = 1) (p0 p1 p3 p6 p7 p8 p9 p10 p11 : Vp) (Hr Ht Hw : Addr) :
    EX C 40 X (FS C env nmS nmS (scOf (stAt pw 88)) X [none, some (p0), some (p1), some (is (.list [.int f0, .int f1])), some (p3), none, none, some (p6), some (p7), some (p8), some (tabV Hr), some (p9), some (p10), some (p11), none, none, none, none, none, none, none, none, none, none, none] [(Hw, []), (Ht, []), (Hr, [])] κ) (execs [inSt pw 88 6] env)
    (FS C env nmS nmS (scOf (stAt pw 88)) X [none, some (p0), some (p1), some (is (.list [.int f0, .int f1])), some (p3), none, none, some (p6), some (p7), some (p8), some (tabV Hr), some (p9), some (p10), some (p11), none, none, none, none, none, none, none, none, none, none, none] [(Hw, []), (Ht, []), (Hr, (rulesL f0 f1).map hpV)] κ) R := by
  show EX _ _ _ _ (execs [.For _ _ [.Expr _ _] _ _] _) _ _
  apply exs_for (ρs := fun i => [none, some (p0), some (p1), some (is (.list [.int f0, .int f1])), some (p3), none, none, some (p6), some (p7), some (p8), some (tabV Hr), some (p9), some (p10), some (p11), none, none, none, none, none, none, none, none, none, none, none]) (ωs := fun i => [(Hw, []), (Ht, []), (Hr, ((rulesL f0 f1).take i).map hpV)]) rfl rfl
  · apply it_tup
    apply ev_d (d' := .tup ((rulesL f0 f1).map hpV))
    · apply ev_tupL
      · apply el_cons
        · apply ev_tupL
          · apply el_cons
            · walk_at "ev"
            · apply el_cons
              · apply ev_sub
                · apply ev_d (d' := .tup [.str rtA, .str rtB])
                  · walk_at "ev"
                  · rfl
                · apply ev_sub
                  · walk_at "ev"
                  · walk_at "ev"
                  · exact op_item_list rfl rfl (Nat.le_of_ble_eq_true rfl)
                · exact op_rt h0
              · walk_at "ev"
              · exact rfl
            · exact rfl
          · walk_at "at"
          · exact Nat.le_of_ble_eq_true rfl
        · apply el_cons
          · walk_at "ev"
          · apply el_cons
            · apply ev_tupL
              · apply el_cons
                · walk_at "ev"
                · apply el_cons
                  · apply ev_sub
                    · apply ev_d (d' := .tup [.str rtA, .str rtB])
                      · walk_at "ev"
                      · rfl
                    · apply ev_sub
                      · walk_at "ev"
                      · walk_at "ev"
                      · exact op_item_list rfl rfl (Nat.le_of_ble_eq_true rfl)
                    · exact op_rt h1
                  · walk_at "ev"
                  · exact rfl
                · exact rfl
              · walk_at "at"
              · exact Nat.le_of_ble_eq_true rfl
            · walk_at "ev"
            · exact rfl
          · exact rfl
        · exact rfl
      · walk_at "at"
      · exact Nat.le_of_ble_eq_true rfl
    · rfl
  · intro i; rfl
  · intro κ' i d hd
    rw [List.getElem?_map] at hd
    cases hki : (rulesL f0 f1)[i]? with
    | none => rw [hki] at hd; cases hd
    | some p =>
      rw [hki] at hd; cases hd
      have ho := rules_ok h0 h1 p (List.mem_of_getElem? hki)
      have et : ((rulesL f0 f1).take (i + 1)).map hpV = ((rulesL f0 f1).take i).map hpV ++ [hpV (p.1, p.2)] := by
        rw [List.take_add_one, hki, List.map_append]; rfl
      have hl : (((rulesL f0 f1).take i).map hpV).length ≤ sizeLine := by
        rw [List.length_map, sizeLine_eq]
        rw [List.length_take]
        have : (rulesL f0 f1).length = 3 := rfl
        omega
      rw [et]
      generalize ((rulesL f0 f1).take i).map hpV = hs at hl
      apply ex_mk
      · walk_at "at"
      apply ex_cons
      · apply ex_add (H := Hr) H (a := p.1) (b := p.2) (hs := hs) (hi := by rw [he]; rfl)
        · walk_at "at"
        · walk_at "ev"
        · exact .there (.there .here)
        · exact hl
        · exact ho.a1
        · exact ho.a2
        · exact ho.b1
        · exact ho.b2
      apply ex_fgt
      walk_at "at"
  · apply ex_fgt
    walk_at "at"
end
section
local macro_rules | `(tactic| walk_at "def") => `(tactic| fail)
noncomputable def rowL (f0 f1 : Int) : List Int := (unfF [rt f0, rt f1]).dropLast
theorem row_fact {f0 f1 : Int} (h0 : f0 = 0 ∨ f0 = 1) (h1 : f1 = 0 ∨ f1 = 1) : unfF [rt f0, rt f1] = rowL f0 f1 ++ [0] ∧ (∀ y ∈ rowL f0 f1, y = 256 ∨ y = 33 ∨ y = 34) ∧ (rowL f0 f1).length ≤ 1000 ∧ (∀ i, (([rt f0, rt f1].take i).foldl unfS [256, 0]).length ≤ 100000) ∧ ∀ x ∈ [rt f0, rt f1], x.length ≤ 1000 := by
  have key : unfF [rt f0, rt f1] = rowL f0 f1 ++ [0] ∧ (∀ y ∈ rowL f0 f1, y = 256 ∨ y = 33 ∨ y = 34) ∧ (rowL f0 f1).length ≤ 1000 ∧ (∀ i < 3, (([rt f0, rt f1].take i).foldl unfS [256, 0]).length ≤ 100000) ∧ ∀ x ∈ [rt f0, rt f1], x.length ≤ 1000 := by
    rcases h0 with rfl | rfl <;> rcases h1 with rfl | rfl <;> decide +kernel
  obtain ⟨a, b, c, d, e⟩ := key
  refine ⟨a, b, c, fun i => ?_, e⟩
  by_cases hi : i < 3
  · exact d i hi
  · rw [List.take_of_length_le (by simp; omega)]
    exact d 2 (by omega)
section
variable {C : Cx} {X : Addr → Prop} {κ : Addr → Option Obj} {env : Env} {q : Str} {doc pm cd : Value} {L f : Addr} {R : Vp} {Ψ : Asn C}
theorem b_7 (he : env = callEnvC (fdOf (stAt pw 88) q doc pm cd) L f) (K : LawY C) (H : HdrK C) (f0 f1 : Int) (h0 : f0 = 0 ∨ f0 = 1) (h1 : f1 = 0 ∨ f1 = 1) (p0 p1 p2 p3 p6 p7 p8 p9 p10 p11 : Vp) (ω : List (Addr × List PV)) :
    EX C 40 X (FS C env nmS nmS (scOf (stAt pw 88)) X [none, some (p0), some (p1), some (p2), some (p3), none, none, some (p6), some (p7), some (p8), some (tabF ((rulesL f0 f1).map hpV)), some (p9), some (p10), some (p11), none, none, none, none, none, none, none, none, none, none, none] ω κ) (execs [inSt pw 88 7] env)
    (FS C env nmS nmS (scOf (stAt pw 88)) X [none, some (p0), some (p1), some (p2), some (p3), none, none, some (p6), some (p7), some (p8), none, some (p9), some (p10), some (p11), none, none, some (is (li (rowL f0 f1 ++ [0]))), none, none, none, none, none, none, none, none] ω κ) R := by
  obtain ⟨r1, r2, r3, r4, r5⟩ := row_fact h0 h1
  obtain ⟨q1, q2⟩ := rules_get h0 h1
  have D : DefC C 4 (sQ "_law_unfolded") [is (.list ([rt f0, rt f1].map .str))] (is (li (rowL f0 f1 ++ [0]))) := by
    rw [← r1]; exact d_unfolded K.toLawL [rt f0, rt f1] r5 r4
  have hsz : (rulesL f0 f1).length ≤ sizeLine := Nat.le_of_ble_eq_true rfl
  show EX _ _ _ _ (execs [.Assign [.Name _ _] (.Call _ _ _ _) _] _) _ _
  apply ex_cons
  · apply ex_assign
    · apply ev_callD
      · apply el_cons
        · apply ev_d
          · apply ev_bin
            · apply ev_d (d' := .list [.str (rt f0)])
              · apply ev_listL
                · apply el_cons
                  · apply ev_getF H (n := 37) (hs := rulesL f0 f1) (a := nameF)
                    · walk_at "at"
                    · walk_at "ev"
                    · exact hsz
                    · exact nF_low.1
                    · exact nF_low.2
                    · exact rules_low
                  · walk_at "ev"
                  · exact rfl
                · walk_at "at"
                · exact Nat.le_of_ble_eq_true rfl
              · rw [q1]; rfl
            · apply ev_d (d' := .list [.str (rt f1)])
              · apply ev_slice_listT
                · apply ev_d (d' := .list [.str (rt f0), .str (rt f1)])
                  · apply ev_getall H (n := 37) (hs := rulesL f0 f1) (a := nameF)
                    · walk_at "at"
                    · walk_at "ev"
                    · exact hsz
                    · exact nF_low.1
                    · exact nF_low.2
                    · exact rules_low
                  · rw [show (fun p : Str × Str => PV.str p.2) = PV.str ∘ (fun p => p.2) from rfl, ← List.map_map, q2]; rfl
                · apply pt_some
                  walk_at "ev"
                · exact pt_none
                · exact Nat.le_of_ble_eq_true rfl
              · kernel_rfl
            · exact op_add_list (Nat.le_of_ble_eq_true rfl)
          · rfl
        · walk_at "ev"
        · exact rfl
      · exact D
      · decide
      · exact rfl
      · exact rfl
      · exact rfl
    · walk_at "at"
    · decide +kernel
    · decide +kernel
    · walk_at "rfl"
  apply ex_fgt
  walk_at "at"
end
end
section
local macro_rules | `(tactic| walk_at "def") => `(tactic| fail)
noncomputable def fbody : Stmt → List Stmt
  | .For _ _ b .. => b
  | _ => []
noncomputable def fIn (k : Nat) : Stmt := (fbody (inSt pw 88 8)).getD k (.Pass default)
noncomputable def insP (D : List (Str × Str)) (p : Str × Str) : List (Str × Str) := if p ∈ D then D else D ++ [p]
structure PairOk (D : List (Str × Str)) (p : Str × Str) : Prop where
  a0 : p.1.cps.size ≤ 1000
  a1 : (lowT p.1).cps.size ≤ 1000
  a2 : noHit codeN (lowT p.1).cps 0 = true
  a3 : noHit codeN p.1.cps 0 = true
  b1 : p.2.cps.size ≤ 1000
  b2 : noHit codeV p.2.cps 0 = true
  sz : D.length ≤ 900
  low : ∀ q ∈ D, (lowT q.1).cps.size ≤ 1000
  uniq : ∀ q ∈ D, lowT q.1 = lowT p.1 → q = p
theorem PairOk.getF {D : List (Str × Str)} {p : Str × Str} (h : PairOk D p) : getF D p.1 = if p ∈ D then some p.2 else none := by
  unfold Mine.Internal.getF
  cases hf : D.find? (mtc p.1) with
  | none =>
    rw [if_neg fun q => ?_]; rfl
    have := List.find?_eq_none.mp hf p q
    exact this (by unfold mtc; exact beq_self_eq_true _)
  | some r =>
    have h1 := List.find?_some hf
    have h2 := List.mem_of_find?_eq_some hf
    have h3 := h.uniq r h2 (by unfold mtc at h1; exact eq_of_beq h1)
    subst h3
    rw [if_pos h2]; rfl
theorem PairOk.set {D : List (Str × Str)} {p : Str × Str} (h : PairOk D p) : setL D p.1 p.2 = insP D p ∧ setR D p.1 p.2 = p.2 := by
  unfold setL setR insP
  rw [h.getF]
  split
  · exact ⟨rfl, rfl⟩
  · exact ⟨rfl, rfl⟩
theorem eqN_hp {p q : Str × Str} : eqN 1 (hpV p) (hpV q) = (p == q) := by
  show ((p.1 == q.1 && (p.2 == q.2 && true)) && true) = _
  rw [Bool.and_true, Bool.and_true]; rfl
theorem ins_due (D : List (Str × Str)) (p : Str × Str) : D ++ ([p].filter fun q => !(D.map hpV).any fun y => eqN 1 y (hpV q)) = insP D p := by
  have e : ((D.map hpV).any fun y => eqN 1 y (hpV p)) = decide (p ∈ D) := by
    rw [List.any_map]
    induction D with
    | nil => rfl
    | cons q D ih =>
      rw [List.any_cons, ih]
      show (eqN 1 (hpV q) (hpV p) || decide (p ∈ D)) = _
      rw [eqN_hp]
      by_cases hq : q = p
      · subst hq; simp
      · have : (q == p) = false := by simpa using hq
        rw [this, Bool.false_or]
        simp [Ne.symm hq]
  unfold insP
  by_cases hp : p ∈ D
  · rw [if_pos hp, List.filter_cons, e, decide_eq_true hp]; simp
  · rw [if_neg hp, List.filter_cons, e, decide_eq_false hp]; rfl
theorem tvw_pair {C : Cx} (K : HdrK C) {n : Nat} {X : Addr → Prop} {env : Env} {pos : Pos} {nm oc : List Str} {sc : List (Str × NameKind)} {ω ω' : List (Addr × List PV)} {κ : Addr → Option Obj} {ρ : List (Option Vp)} {x : Str} {p1 apos cpos : Pos} {e1 e2 e3 : Expr} {H : Addr} {D : List (Str × Str)} {a b : Str} {whole : Sem Value} (hp : PairOk D (a, b))
    (hr : At nm ρ x (tabV H)) (he : EL C (n + 5) (FS C env nm oc sc X ρ ω κ) (spliced (backTo cpos (starEach [e1, e2] env))) [is (.str a), is (.str b)]) (u : OU ω H (D.map hpV) ((insP D (a, b)).map hpV) ω') (h3 : EV C (n + 5) (FS C env nm oc sc X ρ ω' κ) (eval e3 env) (is (.str b)))
    (hbase : attributeBase (.Name x p1) (sQ "setdefault") env (eval (.Name x p1) env) = eval (.Name x p1) env := by rfl) (hline : (apos.endLine == cpos.line) = true := by rfl)
    (hform : methodCallForm (([e1, e2] : List Expr).length + ([] : List Keyword).length) (backTo cpos (starEach [e1, e2] env)) (backToKw cpos (keywordEach [] env)) = true := by rfl) (hst : starEach [e1, e2] env = (false, eval e1 env) :: starEach [e2] env := by rfl) (hm : behindInMarks .NotEq e3 = false := by rfl) :
    TVW C (n + 5) X (FS C env nm oc sc X ρ ω κ) (isTrue (.Compare (.Call (.Attribute (.Name x p1) (sQ "setdefault") apos) [e1, e2] [] cpos) [.NotEq] [e3] pos) env whole) false (FS C env nm oc sc X ρ ω' κ) := by
  obtain ⟨q1, q2⟩ := hp.set
  have t := tvw_set (whole := whole) (pos := pos) K hr he (q1 ▸ u) h3 hp.a0 hp.a1 hp.a2 hp.a3 hp.b1 hp.b2 (Nat.le_trans hp.sz (by lia)) hp.low hbase hline hform hst hm
  rw [q2, bne_self_eq_false] at t
  exact t
section
variable {C : Cx} {X : Addr → Prop} {κ : Addr → Option Obj} {env : Env} {q : Str} {doc pm cd : Value} {L f : Addr} {R : Vp} {Ψ : Asn C}
theorem b_85 (he : env = callEnvC (fdOf (stAt pw 88) q doc pm cd) L f) (K : LawY C) (H : HdrK C) (l : Str) (es : List V3) (ns : List Int) (nmf : V3 → Str) (D0 : List (Str × Str)) (p0 p1 p2 p3 p6 p7 p8 p9 p10 p12 p13 p14 : Vp) (Ht Hw : Addr) (W : List PV)
    (hlen : es.length = ns.length) (hes : es.length ≤ 11) (hD : D0.length ≤ 100)
    (hN : DefC C 4 (sQ "_law_names") [is (lv es), is (.str l)] (is (.list (es.map fun e => .str (nmf e)))))
    (hns : ns.length = 9 + (ns.drop 9).length) (hn9 : ns.take 9 = [0, 1, 2, 3, 4, 5, 6, 7, 8]) (hnb : ∀ n ∈ ns, n.natAbs.log2 < 1920) (hls : l.length ≤ 10)
    (ps : List (Str × Str)) (hps : ps = (es.zip ns).map fun q => (nmf q.1, l ++ numT q.2)) (hok : ∀ i p, ps[i]? = some p → PairOk ((ps.take i).foldl insP D0) p) :
    EX C 40 X (FS C env nmS nmS (scOf (stAt pw 88)) X [none, some (p0), some (p1), some (p2), some (p3), none, none, some (p6), some (p7), some (p8), none, some (tabV Ht), some (is (dueP D0)), some (p9), none, none, some (p10), some (is (.str l)), some (p12), some (is (lI (ns.drop 9))), some (p13), some (is (lv es)), none, none, none] [(Hw, W), (Ht, D0.map hpV)] κ) (execs [fIn 5] env)
    (FS C env nmS nmS (scOf (stAt pw 88)) X [none, some (p0), some (p1), some (p2), some (p3), none, none, some (p6), some (p7), some (p8), none, some (tabV Ht), some (is (dueP (ps.foldl insP D0))), some (p9), none, none, some (p10), none, none, none, some (p13), none, none, none, none] [(Hw, W), (Ht, (ps.foldl insP D0).map hpV)] κ) R := by
  have g1 := K.range
  have g2 := K.zip
  have g3 := K.list
  have g4 := K.str
  show EX _ _ _ _ (execs [.For _ _ [.If _ _ _ _, .Assign [_] _ _] _ _] _) _ _
  let st : Nat → List (Str × Str) := fun i => (ps.take i).foldl insP D0
  have hst : ∀ i p, ps[i]? = some p → st (i + 1) = insP (st i) p := fun i p e => by
    show (ps.take (i + 1)).foldl insP D0 = _
    rw [List.take_add_one, e, List.foldl_append]; rfl
  have hpl : ps.length = es.length := by rw [hps, List.length_map, List.length_zip, ← hlen, Nat.min_self]
  have hrl : (rngL 0 ((9 : Int)).toNat : List PV) = ([0, 1, 2, 3, 4, 5, 6, 7, 8] : List Int).map .int := rfl
  have hds : zipL (es.map fun e => .str (nmf e)) (rngL 0 ((9 : Int)).toNat ++ (ns.drop 9).map .int) = (es.zip ns).map fun q => .tup [.str (nmf q.1), .int q.2] := by
    rw [hrl, ← hn9, ← List.map_append, List.take_append_drop, zipL, List.zip_map, List.map_map]; rfl
  apply exs_for (ρs := fun i => [none, some (p0), some (p1), some (p2), some (p3), none, none, some (p6), some (p7), some (p8), none, some (tabV Ht), some (is (dueP (st i))), some (p9), none, none, some (p10), some (is (.str l)), some (p12), some (is (lI (ns.drop 9))), some (p13), some (is (lv es)), none, none, none]) (ωs := fun i => [(Hw, W), (Ht, (st i).map hpV)])
  · rfl
  · rfl
  · apply it_callTt
    · exact g2
    · apply el_cons
      · apply ev_callD
        · walk_at "ev"
        · exact hN
        · decide
        · exact rfl
        · exact rfl
        · exact rfl
      · apply el_cons
        · apply ev_bin
          · apply ev_callTt
            · exact g3
            · apply el_cons
              · apply ev_callTt
                · exact g1
                · walk_at "ev"
                · exact fn_range1
                · exact rfl
                · exact rfl
                · exact rfl
                · exact rfl
              · walk_at "ev"
              · exact rfl
            · exact fn_listrange (by decide) (by decide)
            · exact rfl
            · exact rfl
            · exact rfl
            · exact rfl
          · walk_at "ev"
          · apply op_add_list
            rw [rngL_length, List.length_map, List.length_drop, sizeLine_eq]
            have : ((9 : Int)).toNat = 9 := rfl
            lia
        · walk_at "ev"
        · exact rfl
      · exact rfl
    · exact fi_zip
    · exact rfl
    · exact rfl
    · exact rfl
    · exact rfl
  · intro i; rfl
  · intro κ' i d hd
    rw [hds, List.getElem?_map] at hd
    cases hki : (es.zip ns)[i]? with
    | none => rw [hki] at hd; cases hd
    | some r =>
      rw [hki] at hd; cases hd
      obtain ⟨e, m⟩ := r
      have hpi : ps[i]? = some (nmf e, l ++ numT m) := by rw [hps, List.getElem?_map, hki]; rfl
      have hp := hok i _ hpi
      have hs := hst i _ hpi
      have hm := hnb m (List.of_mem_zip (List.mem_of_getElem? hki)).2
      change PairOk (st i) _ at hp
      rw [hs]
      generalize st i = D at hp
      obtain ⟨q1, q2⟩ := hp.set
      have hsz : D.length ≤ 1000 := Nat.le_trans hp.sz (by lia)
      have hadd : (l ++ numT m).length ≤ sizeLine := Nat.le_trans (show (l ++ numT m).cps.size ≤ 1000 from hp.b1) (by rw [sizeLine_eq]; decide)
      apply ex_mk
      · walk_at "at"
      apply ex_ifW (c := false)
      · apply tvw_pair H (n := 35) hp
        · walk_at "at"
        · apply el_cons
          · walk_at "ev"
          · apply el_cons
            · apply ev_bin
              · walk_at "ev"
              · apply ev_callTt
                · exact g4
                · walk_at "ev"
                · exact fn_str_int hm
                · exact rfl
                · exact rfl
                · exact rfl
                · exact rfl
              · exact op_add_str hadd
            · walk_at "ev"
            · exact rfl
          · exact rfl
        · exact .there .here
        · apply ev_bin
          · walk_at "ev"
          · apply ev_callTt
            · exact g4
            · walk_at "ev"
            · exact fn_str_int hm
            · exact rfl
            · exact rfl
            · exact rfl
            · exact rfl
          · exact op_add_str hadd
      · intro h; cases h
      · intro _
        apply ex_cons
        · apply ex_assign (P := is (dueP (insP D (nmf e, l ++ numT m))))
          · apply ev_d
            · apply ev_bin
              · apply ev_d (d' := .list (D.map hpV))
                · walk_at "ev"
                · rfl
              · apply ev_comp1if
                apply comp1if_ok (xs := [(nmf e, l ++ numT m)]) (f := hpV) (h := hpV) (p := fun q => !(D.map hpV).any fun y => eqN 1 y (hpV q))
                · apply it_eq
                  · apply it_list
                    apply ev_listL
                    · apply el_cons
                      · apply ev_tupL
                        · apply el_cons
                          · walk_at "ev"
                          · apply el_cons
                            · apply ev_bin
                              · walk_at "ev"
                              · apply ev_callTt
                                · exact g4
                                · walk_at "ev"
                                · exact fn_str_int hm
                                · exact rfl
                                · exact rfl
                                · exact rfl
                                · exact rfl
                              · exact op_add_str hadd
                            · walk_at "ev"
                            · exact rfl
                          · exact rfl
                        · walk_at "at"
                        · exact Nat.le_of_ble_eq_true rfl
                      · walk_at "ev"
                      · exact rfl
                    · walk_at "at"
                    · exact Nat.le_of_ble_eq_true rfl
                  · rfl
                · walk_at "at"
                · exact rfl
                · decide +kernel
                · exact rfl
                · exact Nat.le_of_ble_eq_true rfl
                · intro cenv2 X2 q hq
                  apply ex_mk4
                  · walk_at "at"
                  · walk_at "at"
                  · intro ω κ
                    apply tv_cmp
                    · walk_at "ev"
                    · apply ev_d (d' := .list (D.map hpV))
                      · walk_at "ev"
                      · rfl
                    · apply op_notin 1 (by decide)
                      intro y hy
                      obtain ⟨z, _, rfl⟩ := List.mem_map.mp hy
                      rfl
                    · exact rfl
                  · intro _ ω κ
                    walk_at "ev"
              · apply op_add_list
                rw [List.length_map, List.length_map, sizeLine_eq]
                have := List.length_filter_le (fun q => !(D.map hpV).any fun y => eqN 1 y (hpV q)) [(nmf e, l ++ numT m)]
                rw [List.length_singleton] at this
                lia
            · show PV.list _ = PV.list _
              rw [← ins_due, List.map_append]
          · walk_at "at"
          · decide +kernel
          · decide +kernel
          · walk_at "rfl"
        apply ex_fgt
        walk_at "fgtd"
  · rw [hds, List.length_map, show (es.zip ns).length = ps.length by rw [hps, List.length_map]]
    have es' : st ps.length = ps.foldl insP D0 := by
      show (ps.take ps.length).foldl insP D0 = _
      rw [List.take_length]
    rw [es']
    apply ex_fgt
    walk_at "fgtd"
end
end
section
local macro_rules | `(tactic| walk_at "def") => `(tactic| fail)
theorem whL_eq {s v : Int} (hs : s = 1 ∨ s = 2 ∨ s = 3 ∨ s = 4) : whL s v = q6.map (colT s v) := by
  rcases hs with rfl | rfl | rfl | rfl
  all_goals
    simp only [whL, litL, List.map_cons, List.map_nil, whP, colT]
    simp
    omega
noncomputable def Tf (s v : Int) (w : V3) (k : Int) : V3 := colT s v ((((q6.find? fun x => eqV (colT s v x) w).getD 0) + k).fmod 6)
theorem Tf_at {s v x k : Int} (hs : s = 1 ∨ s = 2 ∨ s = 3 ∨ s = 4) (hv : v = 1 ∨ v = 2 ∨ v = 3 ∨ v = 4) (hx : x ∈ q6) : Tf s v (colT s v x) k = colT s v ((x + k).fmod 6) := by
  have key : ∀ s ∈ q4, ∀ v ∈ q4, ∀ x ∈ q6, (q6.find? fun y => eqV (colT s v y) (colT s v x)) = some x := by decide +kernel
  have h := key s (by rcases hs with rfl | rfl | rfl | rfl <;> decide) v (by rcases hv with rfl | rfl | rfl | rfl <;> decide) x hx
  unfold Tf
  rw [h]; rfl
theorem fm6 (x : Int) : x.fmod 6 ∈ q6 := by
  have h1 := fmod_lo x (b := 6) (by decide)
  have h2 := fmod_hi x (b := 6) (by decide)
  simp only [List.mem_cons, List.not_mem_nil, or_false]
  omega
def onW (s v : Int) (w : V3) : Prop := ∃ x ∈ q6, w = colT s v x
section
variable {C : Cx} {X : Addr → Prop} {κ : Addr → Option Obj} {env : Env} {q : Str} {doc pm cd : Value} {L f : Addr} {R : Vp} {Ψ : Asn C}
theorem d_walk1 (K : LawL C) {f0 f1 s v x : Int} (h0 : f0 = 0 ∨ f0 = 1) (h1 : f1 = 0 ∨ f1 = 1) (hs : s = 1 ∨ s = 2 ∨ s = 3 ∨ s = 4) (hv : v = 1 ∨ v = 2 ∨ v = 3 ∨ v = 4) (hx : x ∈ q6) (sp : V3) :
    DefC C 6 (sQ "_law_walk") [is (li (rowL f0 f1 ++ [0])), is (v3 sp), is (v3 (colT s v x))] (is (lv (walkF (Tf s v) (rowL f0 f1) sp (colT s v x)))) := by
  obtain ⟨r1, r2, r3, r4, r5⟩ := row_fact h0 h1
  refine d_walk K.toLawK (Tf s v) (onW s v) (fun w hw k hk => ?_) (rowL f0 f1) r2 r3 sp _ ⟨x, hx, rfl⟩
  obtain ⟨y, hy, rfl⟩ := hw
  rw [Tf_at hs hv hy]
  exact ⟨⟨_, fm6 _, rfl⟩, d_turn K.toLawK hs hv hy (by rcases hk with rfl | rfl <;> decide)⟩
theorem wh_item {s v x : Int} {n : Nat} {vv sl : Expr} (hs : s = 1 ∨ s = 2 ∨ s = 3 ∨ s = 4) (hx : x ∈ q6)
    (hss : ∀ o i, subscripted sl false o i = operate [o, i] (getItem o i) := by intro _ _; rfl) : OP2 C n (subscriptTail vv sl) (is (.list ((whL s v).map v3))) (is (.int x)) (is (v3 (colT s v x))) := by
  rw [whL_eq hs]
  simp only [List.mem_cons, List.not_mem_nil, or_false] at hx
  rcases hx with rfl | rfl | rfl | rfl | rfl | rfl
  · exact op_item_list (j := 0) rfl rfl (Nat.le_of_ble_eq_true rfl) hss
  · exact op_item_list (j := 1) rfl rfl (Nat.le_of_ble_eq_true rfl) hss
  · exact op_item_list (j := 2) rfl rfl (Nat.le_of_ble_eq_true rfl) hss
  · exact op_item_list (j := 3) rfl rfl (Nat.le_of_ble_eq_true rfl) hss
  · exact op_item_list (j := 4) rfl rfl (Nat.le_of_ble_eq_true rfl) hss
  · exact op_item_list (j := 5) rfl rfl (Nat.le_of_ble_eq_true rfl) hss
theorem b_80 (he : env = callEnvC (fdOf (stAt pw 88) q doc pm cd) L f) (K : LawY C) (f0 f1 s v x : Int) (sp : V3) (h0 : f0 = 0 ∨ f0 = 1) (h1 : f1 = 0 ∨ f1 = 1) (hs : s = 1 ∨ s = 2 ∨ s = 3 ∨ s = 4) (hv : v = 1 ∨ v = 2 ∨ v = 3 ∨ v = 4) (hx : x ∈ q6) (p0 p2 p3 p6 p7 p9 p10 p11 p12 p13 : Vp) (ω : List (Addr × List PV)) :
    EX C 40 X (FS C env nmS nmS (scOf (stAt pw 88)) X [none, some (p0), some (is (v3 sp)), some (p2), some (p3), none, none, some (p6), some (p7), some (is (.list ((whL s v).map v3))), none, some (p9), some (p10), some (p11), none, none, some (is (li (rowL f0 f1 ++ [0]))), some (p12), some (is (.int x)), some (p13), none, none, none, none, none] ω κ) (execs [fIn 0] env)
    (FS C env nmS nmS (scOf (stAt pw 88)) X [none, some (p0), some (is (v3 sp)), some (p2), some (p3), none, none, some (p6), some (p7), some (is (.list ((whL s v).map v3))), none, some (p9), some (p10), some (p11), none, none, some (is (li (rowL f0 f1 ++ [0]))), some (p12), some (is (.int x)), some (p13), some (is (lv (walkF (Tf s v) (rowL f0 f1) sp (colT s v x)))), none, none, none, none] ω κ) R := by
  show EX _ _ _ _ (execs [.Assign [.Name _ _] (.Call _ _ _ _) _] _) _ _
  apply ex_cons
  · apply ex_assign
    · apply ev_callD
      · apply el_cons
        · walk_at "ev"
        · apply el_cons
          · walk_at "ev"
          · apply el_cons
            · apply ev_callD
              · apply el_cons
                · apply ev_sub
                  · walk_at "ev"
                  · walk_at "ev"
                  · exact wh_item (x := 0) hs (by decide)
                · walk_at "ev"
                · exact rfl
              · exact d_turn0 K.toLawK hs hv hx
              · decide
              · exact rfl
              · exact rfl
              · exact rfl
            · walk_at "ev"
            · exact rfl
          · exact rfl
        · exact rfl
      · exact d_walk1 K.toLawL h0 h1 hs hv hx sp
      · decide
      · exact rfl
      · exact rfl
      · exact rfl
    · walk_at "at"
    · decide +kernel
    · decide +kernel
    · walk_at "rfl"
  apply ex_fgt
  walk_at "fgtd"
end
end
section
local macro_rules | `(tactic| walk_at "def") => `(tactic| fail)
theorem okN_strs {xs : List Str} : okN 1 (.list (xs.map .str)) (.list (xs.map .str)) = true := by
  show ((xs.map PV.str).length != (xs.map PV.str).length || ((xs.map PV.str).zip (xs.map PV.str)).all fun p => okN 0 p.1 p.2) = true
  rw [bne_self_eq_false, Bool.false_or]
  induction xs with
  | nil => rfl
  | cons x xs ih => rw [List.map_cons, List.zip_cons_cons, List.all_cons, ih]; rfl
theorem tvw_set1 {C : Cx} (K : HdrK C) {n : Nat} {X : Addr → Prop} {env : Env} {pos : Pos} {nm oc : List Str} {sc : List (Str × NameKind)} {ω ω' : List (Addr × List PV)} {κ : Addr → Option Obj} {ρ : List (Option Vp)} {x : Str} {p1 apos cpos : Pos} {e1 e2 e3 : Expr} {H : Addr} {hs hs' : List (Str × Str)} {a b : Str} {whole : Sem Value}
    (hr : At nm ρ x (tabV H)) (he : EL C (n + 5) (FS C env nm oc sc X ρ ω κ) (spliced (backTo cpos (starEach [e1, e2] env))) [is (.str a), is (.str b)]) (u : OU ω H (hs.map hpV) (hs'.map hpV) ω') (h3 : EV C (n + 5) (FS C env nm oc sc X ρ ω' κ) (eval e3 env) (is (.str b)))
    (q1 : setL hs a b = hs') (q2 : setR hs a b = b)
    (hn0 : a.cps.size ≤ 1000) (hn1 : (lowT a).cps.size ≤ 1000) (hn2 : noHit codeN (lowT a).cps 0 = true) (hn3 : noHit codeN a.cps 0 = true) (hv1 : b.cps.size ≤ 1000) (hv2 : noHit codeV b.cps 0 = true) (hsz : hs.length ≤ 1000) (hlow : ∀ p ∈ hs, (lowT p.1).cps.size ≤ 1000)
    (hbase : attributeBase (.Name x p1) (sQ "setdefault") env (eval (.Name x p1) env) = eval (.Name x p1) env := by rfl) (hline : (apos.endLine == cpos.line) = true := by rfl)
    (hform : methodCallForm (([e1, e2] : List Expr).length + ([] : List Keyword).length) (backTo cpos (starEach [e1, e2] env)) (backToKw cpos (keywordEach [] env)) = true := by rfl) (hst : starEach [e1, e2] env = (false, eval e1 env) :: starEach [e2] env := by rfl) (hm : behindInMarks .NotEq e3 = false := by rfl) :
    TVW C (n + 5) X (FS C env nm oc sc X ρ ω κ) (isTrue (.Compare (.Call (.Attribute (.Name x p1) (sQ "setdefault") apos) [e1, e2] [] cpos) [.NotEq] [e3] pos) env whole) false (FS C env nm oc sc X ρ ω' κ) := by
  have t := tvw_set (whole := whole) (pos := pos) K hr he (q1 ▸ u) h3 hn0 hn1 hn2 hn3 hv1 hv2 hsz hlow hbase hline hform hst hm
  rw [q2, bne_self_eq_false] at t
  exact t
noncomputable abbrev e0 : Str := sQ ""
theorem l_ok {l : Str} (hl : l = lE ∨ l = lB) : l.cps.size ≤ 1000 ∧ (lowT l).cps.size ≤ 1000 ∧ noHit codeN (lowT l).cps 0 = true ∧ noHit codeN l.cps 0 = true ∧ e0.cps.size ≤ 1000 ∧ noHit codeV e0.cps 0 = true := by
  rcases hl with rfl | rfl <;> decide +kernel
section
variable {C : Cx} {X : Addr → Prop} {κ : Addr → Option Obj} {env : Env} {q : Str} {doc pm cd : Value} {L f : Addr} {R : Vp} {Ψ : Asn C}
theorem b_81 (he : env = callEnvC (fdOf (stAt pw 88) q doc pm cd) L f) (K : LawY C) (H : HdrK C) (f0 f1 s v x : Int) (sp : V3) (S : Nat → V3) (hdue : dueF f0 f1 sp (colT s v x) = sp10 S) (hs : s = 1 ∨ s = 2 ∨ s = 3 ∨ s = 4) (hx : x ∈ q6) (l : Str) (hl : l = lE ∨ l = lB) (p0 p3 p6 p7 p10 p11 p13 p14 : Vp) (Ht Hw : Addr) (W : List PV)
    (TL TL' : List (Str × Str)) (q1 : setL TL l e0 = TL') (q2 : setR TL l e0 = e0) (hsz : TL.length ≤ 1000) (hlow : ∀ p ∈ TL, (lowT p.1).cps.size ≤ 1000) :
    EX C 40 X (FS C env nmS nmS (scOf (stAt pw 88)) X [none, some (p0), some (is (v3 sp)), some (is (.list [.int f0, .int f1])), some (p3), none, none, some (p6), some (p7), some (is (.list ((whL s v).map v3))), none, some (tabV Ht), some (p10), some (p11), none, none, some (p14), some (is (.str l)), some (is (.int x)), some (p13), some (is (lv (sp10 S))), none, none, none, none] [(Hw, W), (Ht, TL.map hpV)] κ) (execs [fIn 1] env)
    (FS C env nmS nmS (scOf (stAt pw 88)) X [none, some (p0), some (is (v3 sp)), some (is (.list [.int f0, .int f1])), some (p3), none, none, some (p6), some (p7), some (is (.list ((whL s v).map v3))), none, some (tabV Ht), some (p10), some (p11), none, none, some (p14), some (is (.str l)), some (is (.int x)), some (p13), some (is (lv (sp10 S))), none, none, none, none] [(Hw, W), (Ht, TL'.map hpV)] κ) R := by
  obtain ⟨o1, o2, o3, o4, o5, o6⟩ := l_ok hl
  show EX _ _ _ _ (execs [.If (.BoolOp .Or [_, _] _) _ _ _] _) _ _
  apply ex_ifW (c := false)
  · apply tvw_or
    · apply tv_eq
      · apply tv_cmp
        · walk_at "ev"
        · apply ev_callD (R := is (lv (sp10 S)))
          · apply el_cons
            · walk_at "ev"
            · apply el_cons
              · apply ev_sub
                · walk_at "ev"
                · walk_at "ev"
                · exact wh_item hs hx
              · walk_at "ev"
              · exact rfl
            · exact rfl
          · rw [← hdue]
            exact d_due K.toLawK sp (colT s v x) f0 f1
          · decide
          · exact rfl
          · exact rfl
        · exact op_ne_list 1 (by decide) rfl
        · exact rfl
      · rw [eqN_refl _ _ rfl]; rfl
    · apply tvw_set1 H (n := 35) (a := l) (b := e0) (hs := TL) (hs' := TL')
      · walk_at "at"
      · apply el_cons
        · walk_at "ev"
        · apply el_cons (P := is (.str e0))
          · walk_at "ev"
          · walk_at "ev"
        · exact rfl
      · exact .there .here
      · walk_at "ev"
      · exact q1
      · exact q2
      · exact o1
      · exact o2
      · exact o3
      · exact o4
      · exact o5
      · exact o6
      · exact hsz
      · exact hlow
  · intro h; cases h
  · intro _
    exact ex_nil
theorem b_82 (he : env = callEnvC (fdOf (stAt pw 88) q doc pm cd) L f) (K : LawY C) (G : DigK C) (f0 f1 : Int) (S : Nat → V3) (hkk : ∀ i, i < 9 → kkL S i ≠ []) (far : List Nat) (hfar : ∀ n ∈ far, n < 6561) (hfl : far.length ≤ 2) (p0 p1 p3 p6 p7 p8 p9 p10 p11 p12 p14 p15 : Vp) (ω : List (Addr × List PV)) :
    EX C 40 X (FS C env nmS nmS (scOf (stAt pw 88)) X [none, some (p0), some (p1), some (is (.list [.int f0, .int f1])), some (p3), none, none, some (p6), some (p7), some (p8), none, some (p9), some (p10), some (p11), none, none, some (p14), some (p12), some (p15), some (is (lI (far.map fun (n : Nat) => (n : Int)))), some (is (lv (sp10 S))), none, none, none, none] ω κ) (execs [fIn 2] env)
    (FS C env nmS nmS (scOf (stAt pw 88)) X [none, some (p0), some (p1), some (is (.list [.int f0, .int f1])), some (p3), none, none, some (p6), some (p7), some (p8), none, some (p9), some (p10), some (p11), none, none, some (p14), some (p12), some (p15), some (is (lI (far.map fun (n : Nat) => (n : Int)))), some (is (lv (sp10 S))), some (is (lv (far.map (farF f0 f1 S)))), none, none, none] ω κ) R := by
  show EX _ _ _ _ (execs [.Assign [.Name _ _] _ _] _) _ _
  apply ex_cons
  · apply ex_assignC1 (ds := (far.map (farF f0 f1 S)).map v3)
    apply comp1_ok (xs := far) (f := fun (n : Nat) => .int (n : Int)) (h := fun n => v3 (farF f0 f1 S n))
    · apply it_eq
      · apply it_list
        walk_at "ev"
      · (rw [List.map_map]; rfl)
    · walk_at "at"
    · exact rfl
    · decide +kernel
    · exact rfl
    · (rw [sizeLine_eq]; lia)
    · intro cenv X' j hx
      apply ex_mk3
      · walk_at "at"
      · walk_at "at"
      · intro ω κ
        apply ev_callD
        · walk_at "ev"
        · exact d_far K.toLawK G j (hfar j hx) S f0 f1 hkk
        · decide
        · exact rfl
        · exact rfl
        · exact rfl
    · rw [List.map_map]; rfl
    · walk_at "at"
    · decide +kernel
    · decide +kernel
    · walk_at "rfl"
  apply ex_fgt
  walk_at "fgtd"
theorem b_83 (he : env = callEnvC (fdOf (stAt pw 88) q doc pm cd) L f) (K : LawY C) (f0 f1 s v x : Int) (sp : V3) (S : Nat → V3) (hs : s = 1 ∨ s = 2 ∨ s = 3 ∨ s = 4) (hxq : x ∈ q6) (l : Str) (hl : l = lE ∨ l = lB) (far : List Nat) (hfl : far.length ≤ 2)
    (hb1 : ∀ n ∈ far, big3 (farF f0 f1 S n)) (hb2 : ∀ n ∈ far, big3 (thereF (n : Int) sp (colT s v x) f0 f1)) (hname : ∀ n ∈ far, nmE l (farF f0 f1 S n) = nmE l (thereF (n : Int) sp (colT s v x) f0 f1)) (p0 p3 p6 p7 p9 p10 p11 p14 p16 : Vp) (ω : List (Addr × List PV)) :
    EX C 40 X (FS C env nmS nmS (scOf (stAt pw 88)) X [none, some (p0), some (is (v3 sp)), some (is (.list [.int f0, .int f1])), some (p3), none, none, some (p6), some (p7), some (is (.list ((whL s v).map v3))), none, some (p9), some (p10), some (p11), none, none, some (p14), some (is (.str l)), some (is (.int x)), some (is (lI (far.map fun (n : Nat) => (n : Int)))), some (p16), some (is (lv (far.map (farF f0 f1 S)))), none, none, none] ω κ) (execs [fIn 3] env)
    (FS C env nmS nmS (scOf (stAt pw 88)) X [none, some (p0), some (is (v3 sp)), some (is (.list [.int f0, .int f1])), some (p3), none, none, some (p6), some (p7), some (is (.list ((whL s v).map v3))), none, some (p9), some (p10), some (p11), none, none, some (p14), some (is (.str l)), some (is (.int x)), some (is (lI (far.map fun (n : Nat) => (n : Int)))), some (p16), some (is (lv (far.map (farF f0 f1 S)))), none, none, none] ω κ) R := by
  have en : ((far.map (farF f0 f1 S)).map fun e => PV.str (nmE l e)) = (far.map fun n => nmE l (farF f0 f1 S n)).map .str := by rw [List.map_map, List.map_map]; rfl
  have en2 : ((far.map fun (n : Nat) => thereF (n : Int) sp (colT s v x) f0 f1).map fun e => PV.str (nmE l e)) = (far.map fun n => nmE l (farF f0 f1 S n)).map .str := by
    rw [List.map_map, List.map_map]
    exact List.map_congr_left fun n hn => by
      show PV.str (nmE l (thereF _ _ _ _ _)) = PV.str (nmE l (farF f0 f1 S n))
      rw [hname n hn]
  have N1 : DefC C 4 (sQ "_law_names") [is (lv (far.map (farF f0 f1 S))), is (.str l)] (is (.list ((far.map fun n => nmE l (farF f0 f1 S n)).map .str))) := by
    rw [← en]
    exact d_names K.toLawK K.str _ l hl (by rw [List.length_map]; lia) fun e he => by
      obtain ⟨n, hn, rfl⟩ := List.mem_map.mp he
      exact hb1 n hn
  have N2 : DefC C 4 (sQ "_law_names") [is (lv (far.map fun (n : Nat) => thereF (n : Int) sp (colT s v x) f0 f1)), is (.str l)] (is (.list ((far.map fun n => nmE l (farF f0 f1 S n)).map .str))) := by
    rw [← en2]
    exact d_names K.toLawK K.str _ l hl (by rw [List.length_map]; lia) fun e he => by
      obtain ⟨n, hn, rfl⟩ := List.mem_map.mp he
      exact hb2 n hn
  show EX _ _ _ _ (execs [.If (.Compare _ _ _ _) _ _ _] _) _ _
  apply ex_ifs (c := false)
  · apply tv_eq
    · apply tv_cmp
      · apply ev_callD
        · walk_at "ev"
        · exact N1
        · decide
        · exact rfl
        · exact rfl
        · exact rfl
      · apply ev_callD
        · apply el_cons
          · apply ev_d (d' := lv (far.map fun (n : Nat) => thereF (n : Int) sp (colT s v x) f0 f1))
            · apply ev_comp1
              apply comp1_ok (xs := far) (f := fun (n : Nat) => .int (n : Int)) (h := fun n => v3 (thereF (n : Int) sp (colT s v x) f0 f1))
              · apply it_eq
                · apply it_list
                  walk_at "ev"
                · (rw [List.map_map]; rfl)
              · walk_at "at"
              · exact rfl
              · decide +kernel
              · exact rfl
              · (rw [sizeLine_eq]; lia)
              · intro cenv X' j hx
                apply ex_mk3
                · walk_at "at"
                · walk_at "at"
                · intro ω κ
                  apply ev_callD
                  · apply el_cons
                    · walk_at "ev"
                    · apply el_cons
                      · walk_at "ev"
                      · apply el_cons
                        · apply ev_sub
                          · walk_at "ev"
                          · walk_at "ev"
                          · exact wh_item hs hxq
                        · walk_at "ev"
                        · exact rfl
                      · exact rfl
                    · exact rfl
                  · exact d_there K.toLawK (j : Int) sp (colT s v x) f0 f1
                  · decide
                  · exact rfl
                  · exact rfl
                  · exact rfl
            · show PV.list _ = PV.list (List.map v3 _)
              rw [List.map_map]; rfl
          · walk_at "ev"
          · exact rfl
        · exact N2
        · decide
        · exact rfl
        · exact rfl
        · exact rfl
      · exact op_ne_list 0 (by decide) okN_strs
      · exact rfl
    · rw [eqN_refl _ _ okN_strs]; rfl
  · intro h; cases h
  · intro _
    exact ex_nil
noncomputable def nearL (S : Nat → V3) : List V3 := (List.range 9).map fun i => add3 (S i) (S (i + 1))
theorem b_84 (he : env = callEnvC (fdOf (stAt pw 88) q doc pm cd) L f) (K : LawY C) (S : Nat → V3) (fs : List V3) (hfl : fs.length ≤ 2) (p0 p1 p2 p3 p6 p7 p8 p9 p10 p11 p12 p13 p14 p15 : Vp) (ω : List (Addr × List PV)) :
    EX C 40 X (FS C env nmS nmS (scOf (stAt pw 88)) X [none, some (p0), some (p1), some (p2), some (p3), none, none, some (p6), some (p7), some (p8), none, some (p9), some (p10), some (p11), none, none, some (p14), some (p12), some (p15), some (p13), some (is (lv (sp10 S))), some (is (lv fs)), none, none, none] ω κ) (execs [fIn 4] env)
    (FS C env nmS nmS (scOf (stAt pw 88)) X [none, some (p0), some (p1), some (p2), some (p3), none, none, some (p6), some (p7), some (p8), none, some (p9), some (p10), some (p11), none, none, some (p14), some (p12), some (p15), some (p13), some (is (lv (sp10 S))), some (is (lv (nearL S ++ fs))), none, none, none] ω κ) R := by
  have g2 := K.zip
  show EX _ _ _ _ (execs [.Assign [.Name _ _] _ _] _) _ _
  apply ex_cons
  · apply ex_assign (P := is (lv (nearL S ++ fs)))
    · apply ev_d
      · apply ev_bin
        · apply ev_comp1
          apply comp1_ok (xs := List.range 9) (f := fun (i : Nat) => .tup [v3 (S i), v3 (S (i + 1))]) (h := fun i => v3 (add3 (S i) (S (i + 1))))
          · apply it_eq
            · apply it_callTt
              · assumption
              · apply el_cons
                · walk_at "ev"
                · apply el_cons
                  · apply ev_slice_listT
                    · walk_at "ev"
                    · apply pt_some
                      walk_at "ev"
                    · exact pt_none
                    · exact Nat.le_of_ble_eq_true rfl
                  · exact el_nil
                  · exact rfl
                · exact rfl
              · exact fi_zip
              · exact rfl
              · exact rfl
              · exact rfl
              · exact rfl
            · exact zip_sp
          · walk_at "at"
          · exact rfl
          · decide +kernel
          · exact rfl
          · exact Nat.le_of_ble_eq_true rfl
          · intro cenv X' j hx
            apply ex_mk3
            · walk_at "at"
            · walk_at "at"
            · intro ω κ
              apply ev_d
              · apply ev_comp1
                apply comp1_ok (xs := [((S j).1, (S (j + 1)).1), ((S j).2.1, (S (j + 1)).2.1), ((S j).2.2, (S (j + 1)).2.2)]) (f := fun (p : Int × Int) => .tup [.int p.1, .int p.2]) (h := fun p => .int (p.1 + p.2))
                · apply it_eq
                  · apply it_callTt
                    · assumption
                    · walk_at "ev"
                    · exact fi_zip
                    · exact rfl
                    · exact rfl
                    · exact rfl
                    · exact rfl
                  · exact rfl
                · walk_at "at"
                · exact rfl
                · decide +kernel
                · exact rfl
                · exact Nat.le_of_ble_eq_true rfl
                · intro cenv X' j hx
                  apply ex_mk3
                  · walk_at "at"
                  · walk_at "at"
                  · intro ω κ
                    walk_at "ev"
              · rfl
        · walk_at "ev"
        · apply op_add_list
          rw [List.length_map, List.length_map, List.length_range, sizeLine_eq]
          lia
      · show PV.list _ = PV.list (List.map v3 _)
        rw [List.map_append, nearL, List.map_map]; rfl
    · walk_at "at"
    · decide +kernel
    · decide +kernel
    · walk_at "rfl"
  apply ex_fgt
  walk_at "fgtd"
theorem b_86 (he : env = callEnvC (fdOf (stAt pw 88) q doc pm cd) L f) (K : LawY C) (d : PV) (p0 p1 p2 p3 p6 p7 p8 p9 p10 p12 p13 p14 p15 p17 : Vp) (Ht Hw : Addr) (W T : List PV) (hW : W.length ≤ 1000) :
    EX C 40 X (FS C env nmS nmS (scOf (stAt pw 88)) X [none, some (p0), some (p1), some (p2), some (p3), none, none, some (p6), some (p7), some (p8), none, some (p9), some (p10), some (isv (.ref Hw)), none, none, some (p14), none, none, none, some (is d), none, none, none, none] [(Hw, W), (Ht, T)] κ) (execs [fIn 6] env)
    (FS C env nmS nmS (scOf (stAt pw 88)) X [none, some (p0), some (p1), some (p2), some (p3), none, none, some (p6), some (p7), some (p8), none, some (p9), some (p10), some (isv (.ref Hw)), none, none, some (p14), none, none, none, none, none, none, none, none] [(Hw, W ++ [d]), (Ht, T)] κ) R := by
  show EX _ _ _ _ (execs [.Expr _ _] _) _ _
  apply ex_cons
  · apply ex_append (d := d) (hi := by rw [he]; rfl)
    · walk_at "at"
    · walk_at "ev"
    · exact OU.here
    · rw [sizeLine_eq]; lia
  apply ex_fgt
  walk_at "fgtd"
end
end
section
local macro_rules | `(tactic| walk_at "def") => `(tactic| fail)
noncomputable def n9 : List Int := [0, 1, 2, 3, 4, 5, 6, 7, 8]
noncomputable def edgL (f0 f1 : Int) (S : Nat → V3) (far : List Nat) : List V3 := nearL S ++ far.map (farF f0 f1 S)
noncomputable def entL (f0 f1 : Int) (S : Nat → V3) (far : List Nat) (l : Str) : List (Str × Str) := ((edgL f0 f1 S far).zip (n9 ++ far.map fun (n : Nat) => (n : Int))).map fun q => (nmE l q.1, l ++ numT q.2)
structure ItOk (f0 f1 s v : Int) (sp : V3) (l : Str) (x : Int) (far : List Nat) (S : Nat → V3) : Prop where
  hl : l = lE ∨ l = lB
  hx : x ∈ q6
  walk : walkF (Tf s v) (rowL f0 f1) sp (colT s v x) = sp10 S
  due : dueF f0 f1 sp (colT s v x) = sp10 S
  kk : ∀ i, i < 9 → kkL S i ≠ []
  farb : ∀ n ∈ far, n < 6561
  farl : far.length ≤ 2
  bF : ∀ n ∈ far, big3 (farF f0 f1 S n)
  bT : ∀ n ∈ far, big3 (thereF (n : Int) sp (colT s v x) f0 f1)
  name : ∀ n ∈ far, nmE l (farF f0 f1 S n) = nmE l (thereF (n : Int) sp (colT s v x) f0 f1)
  bN : ∀ e ∈ nearL S, big3 e
section
variable {C : Cx} {X : Addr → Prop} {κ : Addr → Option Obj} {env : Env} {q : Str} {doc pm cd : Value} {L f : Addr} {R : Vp} {Ψ : Asn C}
theorem b_8it (he : env = callEnvC (fdOf (stAt pw 88) q doc pm cd) L f) (K : LawY C) (H : HdrK C) (G : DigK C) (f0 f1 s v x : Int) (sp : V3) (h0 : f0 = 0 ∨ f0 = 1) (h1 : f1 = 0 ∨ f1 = 1) (hs : s = 1 ∨ s = 2 ∨ s = 3 ∨ s = 4) (hv : v = 1 ∨ v = 2 ∨ v = 3 ∨ v = 4) (l : Str) (far : List Nat) (S : Nat → V3) (I : ItOk f0 f1 s v sp l x far S)
    (p0 p3 p6 p7 : Vp) (Ht Hw : Addr) (W : List PV) (hW : W.length ≤ 1000) (TL D : List (Str × Str)) (q1 : setL TL l e0 = D) (q2 : setR TL l e0 = e0) (hsz : TL.length ≤ 1000) (hlow : ∀ p ∈ TL, (lowT p.1).cps.size ≤ 1000) (hD : D.length ≤ 100)
    (hok : ∀ i p, (entL f0 f1 S far l)[i]? = some p → PairOk (((entL f0 f1 S far l).take i).foldl insP D) p) {bd : List Stmt} (hbd : bd = [fIn 0, fIn 1, fIn 2, fIn 3, fIn 4, fIn 5, fIn 6]) :
    EX C 40 X (FS C env nmS nmS (scOf (stAt pw 88)) X [none, some (p0), some (is (v3 sp)), some (is (.list [.int f0, .int f1])), some (p3), none, none, some (p6), some (p7), some (is (.list ((whL s v).map v3))), none, some (tabV Ht), some (is (dueP D)), some (isv (.ref Hw)), none, none, some (is (li (rowL f0 f1 ++ [0]))), some (is (.str l)), some (is (.int x)), some (is (lI (far.map fun (n : Nat) => (n : Int)))), none, none, none, none, none] [(Hw, W), (Ht, TL.map hpV)] κ) (execs bd env)
    (FS C env nmS nmS (scOf (stAt pw 88)) X [none, some (p0), some (is (v3 sp)), some (is (.list [.int f0, .int f1])), some (p3), none, none, some (p6), some (p7), some (is (.list ((whL s v).map v3))), none, some (tabV Ht), some (is (dueP ((entL f0 f1 S far l).foldl insP D))), some (isv (.ref Hw)), none, none, some (is (li (rowL f0 f1 ++ [0]))), none, none, none, none, none, none, none, none] [(Hw, W ++ [lv (sp10 S)]), (Ht, ((entL f0 f1 S far l).foldl insP D).map hpV)] κ) R := by
  subst hbd
  have hfl := I.farl
  have h80 := b_80 (κ := κ) (X := X) (R := R) he K f0 f1 s v x sp h0 h1 hs hv I.hx p0 (is (.list [.int f0, .int f1])) p3 p6 p7 (tabV Ht) (is (dueP D)) (isv (.ref Hw)) (is (.str l)) (is (lI (far.map fun (n : Nat) => (n : Int)))) [(Hw, W), (Ht, TL.map hpV)]
  rw [I.walk] at h80
  refine ex_seq (a := [fIn 0]) h80 ?_
  refine ex_seq (a := [fIn 1]) (b_81 he K H f0 f1 s v x sp S I.due hs I.hx l I.hl p0 p3 p6 p7 (is (dueP D)) (isv (.ref Hw)) (is (lI (far.map fun (n : Nat) => (n : Int)))) (is (li (rowL f0 f1 ++ [0]))) Ht Hw W TL D q1 q2 hsz hlow) ?_
  refine ex_seq (a := [fIn 2]) (b_82 he K G f0 f1 S I.kk far I.farb hfl p0 (is (v3 sp)) p3 p6 p7 (is (.list ((whL s v).map v3))) (tabV Ht) (is (dueP D)) (isv (.ref Hw)) (is (.str l)) (is (li (rowL f0 f1 ++ [0]))) (is (.int x)) _) ?_
  refine ex_seq (a := [fIn 3]) (b_83 he K f0 f1 s v x sp S hs I.hx l I.hl far hfl I.bF I.bT I.name p0 p3 p6 p7 (tabV Ht) (is (dueP D)) (isv (.ref Hw)) (is (li (rowL f0 f1 ++ [0]))) (is (lv (sp10 S))) _) ?_
  refine ex_seq (a := [fIn 4]) (b_84 he K S (far.map (farF f0 f1 S)) (by rw [List.length_map]; exact hfl) p0 (is (v3 sp)) (is (.list [.int f0, .int f1])) p3 p6 p7 (is (.list ((whL s v).map v3))) (tabV Ht) (is (dueP D)) (isv (.ref Hw)) (is (.str l)) (is (lI (far.map fun (n : Nat) => (n : Int)))) (is (li (rowL f0 f1 ++ [0]))) (is (.int x)) _) ?_
  have hel : (edgL f0 f1 S far).length = 9 + far.length := by rw [edgL, List.length_append, nearL, List.length_map, List.length_range, List.length_map]
  have hnl : (n9 ++ far.map fun (n : Nat) => (n : Int)).length = 9 + far.length := by rw [List.length_append, List.length_map]; rfl
  have hdr : (n9 ++ far.map fun (n : Nat) => (n : Int)).drop 9 = far.map fun (n : Nat) => (n : Int) := rfl
  have hbig : ∀ e ∈ edgL f0 f1 S far, big3 e := fun e he => by
    rcases List.mem_append.mp he with h | h
    · exact I.bN e h
    · obtain ⟨n, hn, rfl⟩ := List.mem_map.mp h
      exact I.bF n hn
  have h85 := b_85 (κ := κ) (X := X) (R := R) he K H l (edgL f0 f1 S far) (n9 ++ far.map fun (n : Nat) => (n : Int)) (nmE l) D p0 (is (v3 sp)) (is (.list [.int f0, .int f1])) p3 p6 p7 (is (.list ((whL s v).map v3))) (isv (.ref Hw)) (is (li (rowL f0 f1 ++ [0]))) (is (.int x)) (is (lv (sp10 S))) p0 Ht Hw W (by rw [hel, hnl]) (by rw [hel]; lia) hD
    (d_names K.toLawK K.str _ l I.hl (by rw [hel]; lia) hbig) (by rw [hnl, hdr, List.length_map]) rfl (fun n hn => by
      rcases List.mem_append.mp hn with h | h
      · exact (by decide : ∀ n ∈ n9, n.natAbs.log2 < 1920) n h
      · obtain ⟨k, hk, rfl⟩ := List.mem_map.mp h
        have := I.farb k hk
        exact log_of (by lia) (by lia)) (by
      have : l.length = 1 := by rcases I.hl with rfl | rfl <;> decide +kernel
      lia) _ rfl hok
  rw [hdr] at h85
  refine ex_seq (a := [fIn 5]) h85 ?_
  exact b_86 he K (lv (sp10 S)) p0 (is (v3 sp)) (is (.list [.int f0, .int f1])) p3 p6 p7 (is (.list ((whL s v).map v3))) (tabV Ht) (is (dueP _)) p0 p0 (is (li (rowL f0 f1 ++ [0]))) p0 p0 Ht Hw W _ hW
end
end
section
local macro_rules | `(tactic| walk_at "def") => `(tactic| fail)
noncomputable def far0 (ap : Int) (a b : Nat) : List Nat := if ap = 0 then [a, b] else [a]
noncomputable def far1 (ap : Int) (a b : Nat) : List Nat := if ap = 0 then [] else [b]
theorem far_pick {ap : Int} (h : ap = 0 ∨ ap = 1) (a b : Nat) : pickL [PV.int a, .int b] none (some (2 - ap)) none = ((far0 ap a b).map fun (n : Nat) => (n : Int)).map .int ∧ pickL [PV.int a, .int b] (some (2 - ap)) none none = ((far1 ap a b).map fun (n : Nat) => (n : Int)).map .int := by
  rcases h with rfl | rfl
  · exact ⟨by kernel_rfl, by kernel_rfl⟩
  · exact ⟨by kernel_rfl, by kernel_rfl⟩
noncomputable def D1 (f0 f1 ap : Int) (a b : Nat) (S0 : Nat → V3) : List (Str × Str) := (entL f0 f1 S0 (far0 ap a b) lE).foldl insP due0
noncomputable def D2 (f0 f1 ap : Int) (a b : Nat) (S0 S1 : Nat → V3) : List (Str × Str) := (entL f0 f1 S1 (far1 ap a b) lB).foldl insP (D1 f0 f1 ap a b S0)
noncomputable def stD (f0 f1 ap : Int) (a b : Nat) (S0 S1 : Nat → V3) : Nat → List (Str × Str)
  | 0 => due0
  | 1 => D1 f0 f1 ap a b S0
  | _ => D2 f0 f1 ap a b S0 S1
noncomputable def stT (f0 f1 ap : Int) (a b : Nat) (S0 S1 : Nat → V3) : Nat → List (Str × Str)
  | 0 => []
  | i + 1 => stD f0 f1 ap a b S0 S1 (i + 1)
noncomputable def stW (S0 S1 : Nat → V3) : Nat → List PV
  | 0 => []
  | 1 => [lv (sp10 S0)]
  | _ => [lv (sp10 S0), lv (sp10 S1)]
theorem ins_head (p : Str × Str) : ∀ (l r : List (Str × Str)), ∃ r', l.foldl insP (p :: r) = p :: r'
  | [], r => ⟨r, rfl⟩
  | x :: l, r => by
    rw [List.foldl_cons]
    unfold insP
    split
    · exact ins_head p l r
    · exact ins_head p l (r ++ [x])
theorem ins_len : ∀ (l D : List (Str × Str)), (l.foldl insP D).length ≤ D.length + l.length
  | [], D => Nat.le_refl _
  | x :: l, D => by
    rw [List.foldl_cons]
    have := ins_len l (insP D x)
    have h : (insP D x).length ≤ D.length + 1 := by
      unfold insP
      split
      · lia
      · simp
    rw [List.length_cons]
    lia
theorem ins_mem {l D : List (Str × Str)} {p : Str × Str} : p ∈ l.foldl insP D ↔ p ∈ D ∨ p ∈ l := by
  induction l generalizing D with
  | nil => simp
  | cons x l ih =>
    rw [List.foldl_cons, ih]
    have : p ∈ insP D x ↔ p ∈ D ∨ p = x := by
      unfold insP
      split
      · rename_i h
        exact ⟨.inl, fun q => q.elim id fun q => q ▸ h⟩
      · simp
    rw [this, List.mem_cons, or_assoc]
theorem setE (r : List (Str × Str)) : setL ((lE, e0) :: r) lB e0 = (lE, e0) :: r ∧ setR ((lE, e0) :: r) lB e0 = e0 := by
  have h : getF ((lE, e0) :: r) lB = some e0 := by
    unfold getF
    rw [List.find?_cons, show mtc lB (lE, e0) = true by decide +kernel]; rfl
  unfold setL setR
  rw [h]
  exact ⟨rfl, rfl⟩
section
variable {C : Cx} {X : Addr → Prop} {κ : Addr → Option Obj} {env : Env} {q : Str} {doc pm cd : Value} {L f : Addr} {R : Vp} {Ψ : Asn C}
theorem b_8 (he : env = callEnvC (fdOf (stAt pw 88) q doc pm cd) L f) (K : LawY C) (H : HdrK C) (G : DigK C) (h0 h1 h2 h3 f0 f1 s v x0 ap : Int) (a b : Nat) (sp : V3) (hf0 : f0 = 0 ∨ f0 = 1) (hf1 : f1 = 0 ∨ f1 = 1) (hs : s = 1 ∨ s = 2 ∨ s = 3 ∨ s = 4) (hv : v = 1 ∨ v = 2 ∨ v = 3 ∨ v = 4) (hap : ap = 0 ∨ ap = 1) (S0 S1 : Nat → V3)
    (I0 : ItOk f0 f1 s v sp lE x0 (far0 ap a b) S0) (I1 : ItOk f0 f1 s v sp lB ((x0 + 1 + (h0.fdiv 24).fmod 5).fmod 6) (far1 ap a b) S1)
    (hok0 : ∀ i p, (entL f0 f1 S0 (far0 ap a b) lE)[i]? = some p → PairOk (((entL f0 f1 S0 (far0 ap a b) lE).take i).foldl insP due0) p)
    (hok1 : ∀ i p, (entL f0 f1 S1 (far1 ap a b) lB)[i]? = some p → PairOk (((entL f0 f1 S1 (far1 ap a b) lB).take i).foldl insP (D1 f0 f1 ap a b S0)) p)
    (hlow : ∀ p ∈ D1 f0 f1 ap a b S0, (lowT p.1).cps.size ≤ 1000) (hDl : (D1 f0 f1 ap a b S0).length ≤ 100) (Ht Hw : Addr) :
    EX C 40 X (FS C env nmS nmS (scOf (stAt pw 88)) X [none, some (is (lI [h0, h1, h2, h3])), some (is (v3 sp)), some (is (.list [.int f0, .int f1])), some (is (.int x0)), none, none, some (is (.int ap)), some (is (lI [a, b])), some (is (.list ((whL s v).map v3))), none, some (tabV Ht), some (is (dueP due0)), some (isv (.ref Hw)), none, none, some (is (li (rowL f0 f1 ++ [0]))), none, none, none, none, none, none, none, none] [(Hw, []), (Ht, [])] κ) (execs [inSt pw 88 8] env)
    (FS C env nmS nmS (scOf (stAt pw 88)) X [none, none, none, none, some (is (.int x0)), none, none, none, none, some (is (.list ((whL s v).map v3))), none, some (tabV Ht), some (is (dueP (D2 f0 f1 ap a b S0 S1))), some (isv (.ref Hw)), none, none, some (is (li (rowL f0 f1 ++ [0]))), none, none, none, none, none, none, none, none] [(Hw, [lv (sp10 S0), lv (sp10 S1)]), (Ht, (D2 f0 f1 ap a b S0 S1).map hpV)] κ) R := by
  obtain ⟨k1, k2⟩ := far_pick hap a b
  obtain ⟨r', er⟩ := ins_head (lE, e0) (entL f0 f1 S0 (far0 ap a b) lE) []
  have eD1 : D1 f0 f1 ap a b S0 = (lE, e0) :: r' := er
  have hset := setE r'
  rw [← eD1] at hset
  show EX _ _ _ _ (execs [.For _ _ [_, _, _, _, _, _, _] _ _] _) _ _
  apply exs_forV (ρs := fun i => [none, some (is (lI [h0, h1, h2, h3])), some (is (v3 sp)), some (is (.list [.int f0, .int f1])), some (is (.int x0)), none, none, some (is (.int ap)), some (is (lI [a, b])), some (is (.list ((whL s v).map v3))), none, some (tabV Ht), some (is (dueP (stD f0 f1 ap a b S0 S1 i))), some (isv (.ref Hw)), none, none, some (is (li (rowL f0 f1 ++ [0]))), none, none, none, none, none, none, none, none]) (ωs := fun i => [(Hw, stW S0 S1 i), (Ht, (stT f0 f1 ap a b S0 S1 i).map hpV)]) rfl rfl
  · apply it_tup
    apply ev_d (d' := .tup [.tup [.str lE, .int x0, lI ((far0 ap a b).map fun (n : Nat) => (n : Int))], .tup [.str lB, .int ((x0 + 1 + (h0.fdiv 24).fmod 5).fmod 6), lI ((far1 ap a b).map fun (n : Nat) => (n : Int))]])
    · apply ev_tupL
      · apply el_cons
        · apply ev_tupL
          · apply el_cons
            · walk_at "ev"
            · apply el_cons
              · walk_at "ev"
              · apply el_cons
                · apply ev_slice_listT
                  · walk_at "ev"
                  · exact pt_none
                  · apply pt_some
                    walk_at "ev"
                  · exact Nat.le_of_ble_eq_true rfl
                · walk_at "ev"
                · exact rfl
              · exact rfl
            · exact rfl
          · walk_at "at"
          · exact Nat.le_of_ble_eq_true rfl
        · apply el_cons
          · apply ev_tupL
            · apply el_cons
              · walk_at "ev"
              · apply el_cons
                · walk_at "ev"
                · apply el_cons
                  · apply ev_slice_listT
                    · walk_at "ev"
                    · apply pt_some
                      walk_at "ev"
                    · exact pt_none
                    · exact Nat.le_of_ble_eq_true rfl
                  · walk_at "ev"
                  · exact rfl
                · exact rfl
              · exact rfl
            · walk_at "at"
            · exact Nat.le_of_ble_eq_true rfl
          · walk_at "ev"
          · exact rfl
        · exact rfl
      · walk_at "at"
      · exact Nat.le_of_ble_eq_true rfl
    · show PV.tup [.tup [_, _, .list (pickL [PV.int a, .int b] none (some (2 - ap)) none)], .tup [_, _, .list (pickL [PV.int a, .int b] (some (2 - ap)) none none)]] = _
      rw [k1, k2]; rfl
  · intro i; rfl
  · intro bd hbd κ' i d hd
    match i, hd with
    | 0, hd =>
      cases hd
      apply ex_mk
      · walk_at "at"
      exact b_8it he K H G f0 f1 s v x0 sp hf0 hf1 hs hv lE (far0 ap a b) S0 I0 _ _ _ _ Ht Hw [] (by decide) [] due0 rfl rfl (by decide) (fun _ h => nomatch h) (by decide) hok0 (hbd.trans rfl)
    | 1, hd =>
      cases hd
      apply ex_mk
      · walk_at "at"
      exact b_8it he K H G f0 f1 s v _ sp hf0 hf1 hs hv lB (far1 ap a b) S1 I1 _ _ _ _ Ht Hw [lv (sp10 S0)] (by simp) (D1 f0 f1 ap a b S0) (D1 f0 f1 ap a b S0) hset.1 hset.2 (by lia) hlow hDl hok1 (hbd.trans rfl)
    | i + 2, hd => simp at hd
  · apply ex_fgt
    walk_at "fgtd"
end
end
section
local macro_rules | `(tactic| walk_at "def") => `(tactic| fail)
section
variable {C : Cx} {n : Nat} {Φ : Asn C} {env : Env}
theorem ev_andT {a b : Expr} {pos : Pos} {R : Vp} (h1 : EV C n Φ (eval a env) (is (.bool true))) (h2 : EV C n Φ (eval b env) R) : EV C n Φ (eval (.BoolOp .And [a, b] pos) env) R := fun A s Z Q E hA I H k => by
  refine PyProof.Rows.BoolOp_and (h1 A s Z _ E hA I H fun v Z₁ s₁ x₁ pv => ?_)
  obtain rfl := rdi pv
  refine wpAny_truthy_bool ?_
  show wpAny _ _ (eval (.BoolOp .And [b] pos) env) Q E s₁
  exact PyProof.Rows.BoolOp_one (h2 A s₁ Z₁ Q E hA x₁.inv (Φ.stable I H x₁) fun v Z₂ s₂ x₂ pv => k v Z₂ s₂ (x₁.trans x₂) pv)
end
theorem okN_hps {l : List (Str × Str)} : okN 2 (.list (l.map hpV)) (.list (l.map hpV)) = true := by
  show ((l.map hpV).length != (l.map hpV).length || ((l.map hpV).zip (l.map hpV)).all fun p => okN 1 p.1 p.2) = true
  rw [bne_self_eq_false, Bool.false_or]
  induction l with
  | nil => rfl
  | cons x xs ih => rw [List.map_cons, List.zip_cons_cons, List.all_cons, ih]; rfl
noncomputable def nmB (B : Nat → V3) (i : Nat) : Str := nmE lB (add3 (B i) (B (i + 1)))
theorem lE_add {k : Int} (h : k.natAbs < 10) : (lE ++ numT k).length ≤ 1000 ∧ k.natAbs.log2 < 1920 := by
  have : ∀ n : Nat, n < 10 → ((lE ++ numT (n : Int)).length ≤ 1000 ∧ (n : Int).natAbs.log2 < 1920) ∧ ((lE ++ numT (-(n : Int))).length ≤ 1000 ∧ (-(n : Int)).natAbs.log2 < 1920) := by decide +kernel
  rcases Int.natAbs_eq k with e | e
  · have t := (this _ h).1
    rwa [← e] at t
  · have t := (this _ h).2
    rwa [← e] at t
section
variable {C : Cx} {X : Addr → Prop} {κ : Addr → Option Obj} {env : Env} {q : Str} {doc pm cd : Value} {L f : Addr} {R : Vp} {Ψ : Asn C}
theorem b_9 (he : env = callEnvC (fdOf (stAt pw 88) q doc pm cd) L f) (K : LawY C) (f0 f1 s v x : Int) (h0 : f0 = 0 ∨ f0 = 1) (h1 : f1 = 0 ∨ f1 = 1) (hs : s = 1 ∨ s = 2 ∨ s = 3 ∨ s = 4) (hv : v = 1 ∨ v = 2 ∨ v = 3 ∨ v = 4) (hx : x ∈ q6) (S0 S1 B : Nat → V3) (hB : walkF (Tf s v) (rowL f0 f1) (S0 9) (colT s v ((x + 3).fmod 6)) = sp10 B) (p9 p10 : Vp) (ω : List (Addr × List PV)) :
    EX C 40 X (FS C env nmS nmS (scOf (stAt pw 88)) X [none, none, none, none, some (is (.int x)), none, none, none, none, some (is (.list ((whL s v).map v3))), none, some (p9), some (p10), some (is (.list [lv (sp10 S0), lv (sp10 S1)])), none, none, some (is (li (rowL f0 f1 ++ [0]))), none, none, none, none, none, none, none, none] ω κ) (execs [inSt pw 88 9] env)
    (FS C env nmS nmS (scOf (stAt pw 88)) X [none, none, none, none, none, none, none, none, none, none, none, some (p9), some (p10), none, none, none, none, none, none, none, none, none, none, some (is (lv (sp10 B))), none] ω κ) R := by
  have D := d_walk1 K.toLawL h0 h1 hs hv (fm6 (x + 3)) (S0 9)
  rw [hB] at D
  show EX _ _ _ _ (execs [.Assign [.Name _ _] (.Call _ _ _ _) _] _) _ _
  apply ex_cons
  · apply ex_assign
    · apply ev_callD
      · apply el_cons
        · walk_at "ev"
        · apply el_cons
          · apply ev_sub
            · apply ev_sub
              · walk_at "ev"
              · walk_at "ev"
              · exact op_item_list (j := 0) (d := lv (sp10 S0)) rfl rfl (Nat.le_of_ble_eq_true rfl)
            · walk_at "ev"
            · exact op_item_list (j := 9) (d := v3 (S0 9)) rfl rfl (Nat.le_of_ble_eq_true rfl)
          · apply el_cons
            · apply ev_callD
              · apply el_cons
                · apply ev_sub
                  · walk_at "ev"
                  · walk_at "ev"
                  · exact wh_item hs hx
                · walk_at "ev"
                · exact rfl
              · exact d_turn K.toLawK hs hv hx (t := 3) (by decide)
              · decide
              · exact rfl
              · exact rfl
              · exact rfl
            · walk_at "ev"
            · exact rfl
          · exact rfl
        · exact rfl
      · exact D
      · decide
      · exact rfl
      · exact rfl
      · exact rfl
    · walk_at "at"
    · decide +kernel
    · decide +kernel
    · walk_at "rfl"
  apply ex_fgt
  walk_at "fgtd"
theorem b_10 (he : env = callEnvC (fdOf (stAt pw 88) q doc pm cd) L f) (K : LawY C) (B : Nat → V3) (hb : ∀ e ∈ nearL B, big3 e) (p9 p10 : Vp) (ω : List (Addr × List PV)) :
    EX C 40 X (FS C env nmS nmS (scOf (stAt pw 88)) X [none, none, none, none, none, none, none, none, none, none, none, some (p9), some (p10), none, none, none, none, none, none, none, none, none, none, some (is (lv (sp10 B))), none] ω κ) (execs [inSt pw 88 10] env)
    (FS C env nmS nmS (scOf (stAt pw 88)) X [none, none, none, none, none, none, none, none, none, none, none, some (p9), some (p10), none, none, none, none, none, none, none, none, none, none, none, some (is (.list ((List.range 9).map fun i => .str (nmB B i))))] ω κ) R := by
  have g2 := K.zip
  have D := d_names K.toLawK K.str (nearL B) lB (.inr rfl) (by rw [nearL, List.length_map, List.length_range]; omega) hb
  have en : ((nearL B).map fun e => PV.str (nmE lB e)) = (List.range 9).map fun i => PV.str (nmB B i) := by rw [nearL, List.map_map]; rfl
  rw [en] at D
  show EX _ _ _ _ (execs [.Assign [.Name _ _] (.Call _ _ _ _) _] _) _ _
  apply ex_cons
  · apply ex_assign
    · apply ev_callD
      · apply el_cons
        · apply ev_d (d' := lv (nearL B))
          · apply ev_comp1
            apply comp1_ok (xs := List.range 9) (f := fun (i : Nat) => .tup [v3 (B i), v3 (B (i + 1))]) (h := fun i => v3 (add3 (B i) (B (i + 1))))
            · apply it_eq
              · apply it_callTt
                · assumption
                · apply el_cons
                  · walk_at "ev"
                  · apply el_cons
                    · apply ev_slice_listT
                      · walk_at "ev"
                      · apply pt_some
                        walk_at "ev"
                      · exact pt_none
                      · exact Nat.le_of_ble_eq_true rfl
                    · exact el_nil
                    · exact rfl
                  · exact rfl
                · exact fi_zip
                · exact rfl
                · exact rfl
                · exact rfl
                · exact rfl
              · exact zip_sp
            · walk_at "at"
            · exact rfl
            · decide +kernel
            · exact rfl
            · exact Nat.le_of_ble_eq_true rfl
            · intro cenv X' j hx
              apply ex_mk3
              · walk_at "at"
              · walk_at "at"
              · intro ω κ
                apply ev_d
                · apply ev_comp1
                  apply comp1_ok (xs := [((B j).1, (B (j + 1)).1), ((B j).2.1, (B (j + 1)).2.1), ((B j).2.2, (B (j + 1)).2.2)]) (f := fun (p : Int × Int) => .tup [.int p.1, .int p.2]) (h := fun p => .int (p.1 + p.2))
                  · apply it_eq
                    · apply it_callTt
                      · assumption
                      · walk_at "ev"
                      · exact fi_zip
                      · exact rfl
                      · exact rfl
                      · exact rfl
                      · exact rfl
                    · exact rfl
                  · walk_at "at"
                  · exact rfl
                  · decide +kernel
                  · exact rfl
                  · exact Nat.le_of_ble_eq_true rfl
                  · intro cenv X' j hx
                    apply ex_mk3
                    · walk_at "at"
                    · walk_at "at"
                    · intro ω κ
                      walk_at "ev"
                · rfl
          · show PV.list _ = PV.list (List.map v3 _)
            rw [nearL, List.map_map]; rfl
        · apply el_cons (P := is (.str lB))
          · exact ev_str
          · walk_at "ev"
        · exact rfl
      · exact D
      · decide
      · exact rfl
      · exact rfl
      · exact rfl
    · walk_at "at"
    · decide +kernel
    · decide +kernel
    · walk_at "rfl"
  apply ex_fgt
  walk_at "fgtd"
theorem b_11 (he : env = callEnvC (fdOf (stAt pw 88) q doc pm cd) L f) (K : LawY C) (H : HdrK C) (B : Nat → V3) (D : List (Str × Str)) (hD : D.length ≤ 1000) (hlow : ∀ p ∈ D, (lowT p.1).cps.size ≤ 1000) (hx1 : ∀ i < 9, (lowT (nmB B i)).cps.size ≤ 1000) (hx2 : ∀ i < 9, noHit codeN (lowT (nmB B i)).cps 0 = true) (hg : ∀ i < 9, getF D (nmB B i) = some (lE ++ numT (8 - (i : Int)))) (ω : List (Addr × List PV)) :
    EX C 40 X (FS C env nmS nmS (scOf (stAt pw 88)) X [none, none, none, none, none, none, none, none, none, none, none, some (tabF (D.map hpV)), some (is (dueP D)), none, none, none, none, none, none, none, none, none, none, none, some (is (.list ((List.range 9).map fun i => .str (nmB B i))))] ω κ) (execs [inSt pw 88 11] env) Ψ (is (.bool true)) := by
  have g1 := K.range
  have g4 := K.str
  have hsl : D.length ≤ sizeLine := by rw [sizeLine_eq]; omega
  have es : ((List.range 9).map fun (i : Nat) => PV.str (lE ++ numT (8 - (i : Int)))) = ((List.range 9).map fun (i : Nat) => lE ++ numT (8 - (i : Int))).map .str := by rw [List.map_map]; rfl
  show EX _ _ _ _ (execs [.Return (some (.BoolOp .And [_, _] _)) _] _) _ _
  apply ex_ret
  apply ev_andT
  · apply ev_d
    · apply ev_cmp
      · apply ev_d
        · apply ev_comp1
          apply comp1_ok (xs := List.range 9) (f := fun (i : Nat) => .str (nmB B i)) (h := fun (i : Nat) => .str (lE ++ numT (8 - (i : Int))))
          · apply it_eq
            · apply it_list
              walk_at "ev"
            · exact rfl
          · walk_at "at"
          · exact rfl
          · decide +kernel
          · exact rfl
          · exact Nat.le_of_ble_eq_true rfl
          · intro cenv X' j hx
            apply ex_mk3
            · walk_at "at"
            · walk_at "at"
            · intro ω κ
              have hj := List.mem_range.mp hx
              apply ev_setdF H (n := 35) (hs := D) (a := nmB B j) (b := sQ "back")
              · walk_at "at"
              · walk_at "ev"
              · exact hsl
              · exact hx1 j hj
              · exact hx2 j hj
              · exact hlow
              · exact hg j hj
        · exact congrArg PV.list es
      · apply ev_d
        · apply ev_comp1
          apply comp1_ok (xs := List.range 9) (f := fun (i : Nat) => .int (8 - (i : Int))) (h := fun (i : Nat) => .str (lE ++ numT (8 - (i : Int))))
          · apply it_eq
            · apply it_callTt
              · exact g1
              · walk_at "ev"
              · exact fi_rangeD (m := 9) rfl rfl rfl
              · exact rfl
              · exact rfl
              · exact rfl
              · exact rfl
            · exact rfl
          · walk_at "at"
          · exact rfl
          · decide +kernel
          · exact rfl
          · exact Nat.le_of_ble_eq_true rfl
          · intro cenv2 X2 j hj
            have hj := List.mem_range.mp hj
            obtain ⟨a1, a2⟩ := lE_add (k := 8 - (j : Int)) (by omega)
            apply ex_mk3
            · walk_at "at"
            · walk_at "at"
            · intro ω κ
              apply ev_bin (P := is (.str lE))
              · exact ev_str
              · apply ev_callTt
                · exact g4
                · walk_at "ev"
                · exact fn_str_int a2
                · exact rfl
                · exact rfl
                · exact rfl
                · exact rfl
              · exact op_add_str (Nat.le_trans a1 (by rw [sizeLine_eq]; decide))
        · exact congrArg PV.list es
      · exact op_eq_list 0 (by decide) okN_strs
      · exact rfl
    · rw [eqN_refl _ _ okN_strs]
  · apply ev_d
    · apply ev_cmp
      · apply ev_items H (n := 38) (hs := D.map hpV)
        · walk_at "at"
        · rw [List.length_map]; exact hsl
      · apply ev_d (d' := .list (D.map hpV))
        · walk_at "ev"
        · rfl
      · exact op_eq_list 1 (by decide) okN_hps
      · exact rfl
    · rw [eqN_refl _ _ okN_hps]
end
end
section
local macro_rules | `(tactic| walk_at "def") => `(tactic| fail)
structure AllOk (h0 f0 f1 s v x ap : Int) (a b : Nat) (sp : V3) (S0 S1 B : Nat → V3) : Prop where
  hf0 : f0 = 0 ∨ f0 = 1
  hf1 : f1 = 0 ∨ f1 = 1
  hs : s = 1 ∨ s = 2 ∨ s = 3 ∨ s = 4
  hv : v = 1 ∨ v = 2 ∨ v = 3 ∨ v = 4
  hx : x ∈ q6
  hap : ap = 0 ∨ ap = 1
  I0 : ItOk f0 f1 s v sp lE x (far0 ap a b) S0
  I1 : ItOk f0 f1 s v sp lB ((x + 1 + (h0.fdiv 24).fmod 5).fmod 6) (far1 ap a b) S1
  ok0 : ∀ i p, (entL f0 f1 S0 (far0 ap a b) lE)[i]? = some p → PairOk (((entL f0 f1 S0 (far0 ap a b) lE).take i).foldl insP due0) p
  ok1 : ∀ i p, (entL f0 f1 S1 (far1 ap a b) lB)[i]? = some p → PairOk (((entL f0 f1 S1 (far1 ap a b) lB).take i).foldl insP (D1 f0 f1 ap a b S0)) p
  low1 : ∀ p ∈ D1 f0 f1 ap a b S0, (lowT p.1).cps.size ≤ 1000
  len1 : (D1 f0 f1 ap a b S0).length ≤ 100
  back : walkF (Tf s v) (rowL f0 f1) (S0 9) (colT s v ((x + 3).fmod 6)) = sp10 B
  bigB : ∀ e ∈ nearL B, big3 e
  low2 : ∀ p ∈ D2 f0 f1 ap a b S0 S1, (lowT p.1).cps.size ≤ 1000
  len2 : (D2 f0 f1 ap a b S0 S1).length ≤ 1000
  bl : ∀ i < 9, (lowT (nmB B i)).cps.size ≤ 1000
  bn : ∀ i < 9, noHit codeN (lowT (nmB B i)).cps 0 = true
  bg : ∀ i < 9, getF (D2 f0 f1 ap a b S0 S1) (nmB B i) = some (lE ++ numT (8 - (i : Int)))
section
variable {C : Cx} {X : Addr → Prop} {κ : Addr → Option Obj} {env : Env} {q : Str} {doc pm cd : Value} {L f : Addr} {R : Vp} {Ψ : Asn C}
theorem b_end (he : env = callEnvC (fdOf (stAt pw 88) q doc pm cd) L f) (K : LawY C) (H : HdrK C) (G : DigK C) (h0 h1 h2 h3 f0 f1 s v x ap : Int) (a b : Nat) (sp : V3) (S0 S1 B : Nat → V3) (O : AllOk h0 f0 f1 s v x ap a b sp S0 S1 B) :
    EX C 40 X (FS C env nmS nmS (scOf (stAt pw 88)) X [none, some (is (lI [h0, h1, h2, h3])), some (is (v3 sp)), some (is (.list [.int f0, .int f1])), some (is (.int x)), none, none, some (is (.int ap)), some (is (lI [a, b])), some (is (.list ((whL s v).map v3))), none, none, none, none, none, none, none, none, none, none, none, none, none, none, none] [] κ) (execs [inSt pw 88 5, inSt pw 88 6, inSt pw 88 7, inSt pw 88 8, inSt pw 88 9, inSt pw 88 10, inSt pw 88 11] env) Ψ (is (.bool true)) := by
  show EX _ _ _ _ (execs (.Assign [.Tuple [_, _, _, _] _ _] (.Tuple [_, _, _, _] _ _) _ :: [inSt pw 88 6, inSt pw 88 7, inSt pw 88 8, inSt pw 88 9, inSt pw 88 10, inSt pw 88 11]) _) _ _
  apply ex_tup
  · rw [he]; exact rfl
  · rw [he]; exact rfl
  · exact Nat.le_of_ble_eq_true rfl
  · apply TupK.own
    · exact evn_headers H rfl
    · intro Hr
      apply TupK.own
      · exact evn_headers H rfl
      · intro Ht
        apply TupK.val
        · apply ev_d (d' := dueP due0)
          · walk_at "ev"
          · rfl
        · apply TupK.own
          · apply evn_listL
            · walk_at "ev"
            · walk_at "at"
            · exact Nat.le_of_ble_eq_true rfl
          · intro Hw
            apply tk_nil rfl
            · show Bds _ _ _ _ [_, _, _, _] _ _
              walk_at "at"
            · obtain ⟨S6, hS⟩ : ∃ S, S = inSt pw 88 6 := ⟨_, rfl⟩
              have h := b_6 (X := X) (κ := κ) (R := is (.bool true)) he K H f0 f1 O.hf0 O.hf1 (is (lI [h0, h1, h2, h3])) (is (v3 sp)) (is (.int x)) (is (.int ap)) (is (lI [a, b])) (is (.list ((whL s v).map v3))) (tabV Ht) (is (dueP due0)) (isv (.ref Hw)) Hr Ht Hw
              rw [← hS] at h ⊢
              refine ex_seq (a := [S6]) h ?_
              apply ex_freezeT (a := Hr) (ds := (rulesL f0 f1).map hpV)
              · exact .there (.there .here)
              · repeat (first | exact Rtb.nil | apply Rtb.it | apply Rtb.same)
              refine ex_seq (a := [inSt pw 88 7]) (b_7 he K H f0 f1 O.hf0 O.hf1 (is (lI [h0, h1, h2, h3])) (is (v3 sp)) (is (.list [.int f0, .int f1])) (is (.int x)) (is (.int ap)) (is (lI [a, b])) (is (.list ((whL s v).map v3))) (tabV Ht) (is (dueP due0)) (isv (.ref Hw)) _) ?_
              refine ex_seq (a := [inSt pw 88 8]) (b_8 he K H G h0 h1 h2 h3 f0 f1 s v x ap a b sp O.hf0 O.hf1 O.hs O.hv O.hap S0 S1 O.I0 O.I1 O.ok0 O.ok1 O.low1 O.len1 Ht Hw) ?_
              apply ex_freeze (a := Hw) (ds := [lv (sp10 S0), lv (sp10 S1)])
              · exact .here
              · repeat (first | exact Rfz.nil | apply Rfz.it | apply Rfz.same)
              apply ex_freezeT (a := Ht) (ds := (D2 f0 f1 ap a b S0 S1).map hpV)
              · exact .here
              · repeat (first | exact Rtb.nil | apply Rtb.it | apply Rtb.same)
              refine ex_seq (a := [inSt pw 88 9]) (b_9 he K f0 f1 s v x O.hf0 O.hf1 O.hs O.hv O.hx S0 S1 B O.back (tabF ((D2 f0 f1 ap a b S0 S1).map hpV)) (is (dueP (D2 f0 f1 ap a b S0 S1))) []) ?_
              refine ex_seq (a := [inSt pw 88 10]) (b_10 he K B O.bigB (tabF ((D2 f0 f1 ap a b S0 S1).map hpV)) (is (dueP (D2 f0 f1 ap a b S0 S1))) []) ?_
              exact b_11 he K H B (D2 f0 f1 ap a b S0 S1) O.len2 O.low2 O.bl O.bn O.bg []
          · exact rfl
        · exact rfl
      · exact rfl
    · exact rfl
theorem b_all (he : env = callEnvC (fdOf (stAt pw 88) q doc pm cd) L f) (K : LawY C) (H : HdrK C) (G : DigK C) (S : List Int) (hS : S.length ≤ 100)
    (hO : ∀ h0 h1 h2 h3, h0 = 2684 + heapS S 0 → h1 = 2026 + heapS S 1 → h2 = 5003 + heapS S 2 → h3 = 18 + heapS S 3 → ∃ S0 S1 B, AllOk h0 (h0.fmod 2) ((h0.fdiv 2).fmod 2) (1 + (h0.fdiv 120).fmod 4) (1 + (h0.fdiv 480).fmod 4) ((h0.fdiv 4).fmod 6) ((h0.fdiv 1920).fmod 2) (h1.fmod 6561).toNat (h2.fmod 6561).toNat (h1, h2, h3) S0 S1 B) :
    EX C 40 X (FS C env nmS nmS (scOf (stAt pw 88)) X [some (is (lI S)), none, none, none, none, none, none, none, none, none, none, none, none, none, none, none, none, none, none, none, none, none, none, none, none] [] κ) (execs (bodyOf (stAt pw 88)) env) Ψ (is (.bool true)) := by
  show EX _ _ _ _ (execs [inSt pw 88 0, inSt pw 88 1, inSt pw 88 2, inSt pw 88 3, inSt pw 88 4, inSt pw 88 5, inSt pw 88 6, inSt pw 88 7, inSt pw 88 8, inSt pw 88 9, inSt pw 88 10, inSt pw 88 11] _) _ _
  refine ex_seq (a := [inSt pw 88 0]) (b_0 he K S hS) ?_
  have hO := hO _ _ _ _ rfl rfl rfl rfl
  generalize 2684 + heapS S 0 = h0 at hO
  generalize 2026 + heapS S 1 = h1 at hO
  generalize 5003 + heapS S 2 = h2 at hO
  generalize 18 + heapS S 3 = h3 at hO
  obtain ⟨S0, S1, B, O⟩ := hO
  have m1 := fmod_lo h1 (b := 6561) (by decide)
  have m2 := fmod_lo h2 (b := 6561) (by decide)
  have e1 : h1.fmod 6561 = ((h1.fmod 6561).toNat : Int) := (Int.toNat_of_nonneg m1).symm
  have e2 : h2.fmod 6561 = ((h2.fmod 6561).toNat : Int) := (Int.toNat_of_nonneg m2).symm
  have hs := O.hs
  have hv := O.hv
  refine ex_seq (a := [inSt pw 88 1]) (b_1 he K h0 h1 h2 h3) ?_
  refine ex_seq (a := [inSt pw 88 2]) (b_2 he K h0 h1 h2 h3 _ _ _) ?_
  have h3' := b_3 (κ := κ) (X := X) (R := is (.bool true)) he K h0 h1 h2 h3 (is (v3 (h1, h2, h3))) (is (.list [.int (h0.fmod 2), .int ((h0.fdiv 2).fmod 2)])) (is (.int ((h0.fdiv 4).fmod 6))) (is (.int (1 + (h0.fdiv 120).fmod 4))) (is (.int (1 + (h0.fdiv 480).fmod 4))) (is (.int ((h0.fdiv 1920).fmod 2)))
  refine ex_seq (a := [inSt pw 88 3]) h3' ?_
  refine ex_seq (a := [inSt pw 88 4]) (b_4 he K _ _ (by lia) (by lia) (by lia) (by lia) _ _ _ _ _ _) ?_
  rw [e1, e2]
  exact b_end he K H G h0 h1 h2 h3 _ _ _ _ _ _ _ _ _ S0 S1 B O
end
end
theorem add3_assoc (a b c : V3) : add3 (add3 a b) c = add3 a (add3 b c) := by
  refine Prod.ext ?_ (Prod.ext ?_ ?_) <;> simp only [add3] <;> lia
theorem add3_zero (a : V3) : add3 a (0, 0, 0) = a := by
  refine Prod.ext ?_ (Prod.ext ?_ ?_) <;> simp [add3]
noncomputable def shf (s : V3) (σ : List V3 × V3 × V3) : List V3 × V3 × V3 := (σ.1.map (add3 s), add3 s σ.2.1, σ.2.2)
theorem step_sh (T : V3 → Int → V3) (s : V3) (σ : List V3 × V3 × V3) (y : Int) : stepW T (shf s σ) y = shf s (stepW T σ y) := by
  unfold stepW shf
  split
  · dsimp only
    rw [List.map_append, add3_assoc]; rfl
  · rfl
theorem fold_sh (T : V3 → Int → V3) (s : V3) : ∀ (r : List Int) (σ : List V3 × V3 × V3), r.foldl (stepW T) (shf s σ) = shf s (r.foldl (stepW T) σ)
  | [], _ => rfl
  | y :: r, σ => by
    rw [List.foldl_cons, List.foldl_cons, step_sh, fold_sh T s r]
theorem walk_sh (T : V3 → Int → V3) (r : List Int) (s w : V3) : walkF T r s w = (walkF T r (0, 0, 0) w).map (add3 s) := by
  have e : (([s], s, w) : List V3 × V3 × V3) = shf s ([(0, 0, 0)], (0, 0, 0), w) := by
    unfold shf
    dsimp only
    rw [add3_zero, List.map_cons, List.map_nil, add3_zero]
  unfold walkF
  rw [e, fold_sh]; rfl
theorem due_sh (f0 f1 : Int) (s w : V3) : ∀ i, dueLast f0 f1 s w i = add3 s (dueLast f0 f1 (0, 0, 0) w i)
  | 0 => (add3_zero s).symm
  | i + 1 => by
    show add3 (dueLast f0 f1 s w i) _ = add3 s (add3 _ _)
    rw [due_sh f0 f1 s w i, add3_assoc]
noncomputable def turnX (f : Int) : List Int := if f = 0 then [256, 33, 256, 34, 256] else [256, 34, 256, 33, 256]
noncomputable def rowX (f0 f1 : Int) : List Int := (turnX f0).flatMap fun y => if y = 256 then turnX f1 else [y]
theorem row_eq : ∀ f0 ∈ ([0, 1] : List Int), ∀ f1 ∈ ([0, 1] : List Int), rowL f0 f1 = rowX f0 f1 := by decide +kernel
noncomputable def okWalk (f0 f1 s v x : Int) : Bool := decide (walkF (Tf s v) (rowX f0 f1) (0, 0, 0) (colT s v x) = (List.range 10).map (dueLast f0 f1 (0, 0, 0) (colT s v x)))
theorem walk_fact : ∀ f0 ∈ ([0, 1] : List Int), ∀ f1 ∈ ([0, 1] : List Int), ∀ s ∈ q4, ∀ v ∈ q4, ∀ x ∈ q6, okWalk f0 f1 s v x = true := by decide +kernel
noncomputable def okBack (f0 f1 s v x : Int) : Bool :=
  let L := walkF (Tf s v) (rowX f0 f1) (0, 0, 0) (colT s v ((x + 3).fmod 6))
  let D := (List.range 10).map (dueLast f0 f1 (0, 0, 0) (colT s v x))
  decide (L.length = 10) && (List.range 10).all fun i => decide (ad (pr (L.getD i (0, 0, 0))) (pr (D.getD 9 (0, 0, 0))) = pr (D.getD (9 - i) (0, 0, 0)))
theorem back_fact : ∀ f0 ∈ ([0, 1] : List Int), ∀ f1 ∈ ([0, 1] : List Int), ∀ s ∈ q4, ∀ v ∈ q4, ∀ x ∈ q6, okBack f0 f1 s v x = true := by decide +kernel
theorem b4 {s : Int} (h : s = 1 ∨ s = 2 ∨ s = 3 ∨ s = 4) : s ∈ q4 := by rcases h with rfl | rfl | rfl | rfl <;> decide
theorem walk_due {f0 f1 s v x : Int} (h0 : f0 = 0 ∨ f0 = 1) (h1 : f1 = 0 ∨ f1 = 1) (hs : s = 1 ∨ s = 2 ∨ s = 3 ∨ s = 4) (hv : v = 1 ∨ v = 2 ∨ v = 3 ∨ v = 4) (hx : x ∈ q6) (sp : V3) : walkF (Tf s v) (rowL f0 f1) sp (colT s v x) = sp10 (dueS f0 f1 sp (colT s v x)) := by
  have k := of_decide_eq_true (walk_fact f0 (b01 h0) f1 (b01 h1) s (b4 hs) v (b4 hv) x hx)
  rw [walk_sh, row_eq f0 (b01 h0) f1 (b01 h1), k, List.map_map]
  exact List.map_congr_left fun i _ => (due_sh f0 f1 sp _ i).symm
noncomputable def bkS (f0 f1 s v x : Int) (sp : V3) (i : Nat) : V3 := add3 sp ((walkF (Tf s v) (rowX f0 f1) (0, 0, 0) (colT s v ((x + 3).fmod 6))).getD i (0, 0, 0))
theorem walk_back {f0 f1 s v x : Int} (h0 : f0 = 0 ∨ f0 = 1) (h1 : f1 = 0 ∨ f1 = 1) (hs : s = 1 ∨ s = 2 ∨ s = 3 ∨ s = 4) (hv : v = 1 ∨ v = 2 ∨ v = 3 ∨ v = 4) (hx : x ∈ q6) (sp : V3) :
    walkF (Tf s v) (rowL f0 f1) (dueS f0 f1 sp (colT s v x) 9) (colT s v ((x + 3).fmod 6)) = sp10 (bkS f0 f1 s v x (dueS f0 f1 sp (colT s v x) 9)) ∧ ∀ i < 10, pr (bkS f0 f1 s v x (dueS f0 f1 sp (colT s v x) 9) i) = pr (dueS f0 f1 sp (colT s v x) (9 - i)) := by
  have k := back_fact f0 (b01 h0) f1 (b01 h1) s (b4 hs) v (b4 hv) x hx
  unfold okBack at k
  dsimp only at k
  rw [Bool.and_eq_true, decide_eq_true_eq] at k
  obtain ⟨k1, k2⟩ := k
  constructor
  · rw [walk_sh, row_eq f0 (b01 h0) f1 (b01 h1)]
    unfold bkS sp10
    generalize walkF (Tf s v) (rowX f0 f1) (0, 0, 0) (colT s v ((x + 3).fmod 6)) = W at k1 k2
    apply List.ext_getElem
    · simp [k1]
    · intro i a b
      have hi : i < W.length := by simpa using a
      simp [hi]
  · intro i hi
    have k3 := of_decide_eq_true (List.all_eq_true.mp k2 i (List.mem_range.mpr hi))
    have gd : ∀ j < 10, ((List.range 10).map (dueLast f0 f1 (0, 0, 0) (colT s v x))).getD j (0, 0, 0) = dueLast f0 f1 (0, 0, 0) (colT s v x) j := fun j hj => by
      rw [List.getD_eq_getElem?_getD, List.getElem?_map, List.getElem?_range hj]; rfl
    rw [gd 9 (by decide), gd (9 - i) (by lia)] at k3
    unfold bkS
    show pr (add3 (dueLast _ _ _ _ 9) _) = pr (dueLast _ _ _ _ (9 - i))
    rw [due_sh f0 f1 sp _ 9, due_sh f0 f1 sp _ (9 - i), pr_add, pr_add, pr_add, ← k3]
    refine v2 ?_ ?_ <;> simp only [ad] <;> lia
noncomputable def pE (f0 f1 s v x : Int) (sp : V3) (k : Nat) : V2 := ad (sc 2 (pr sp)) (sc (s * v) (mm (uSt f0 f1 (un x) k 8)))
theorem nm_pr {l : Str} {v w : V3} (h : pr v = pr w) : nmE l v = nmE l w := by
  have x1 := congrArg Prod.fst h
  have x2 := congrArg Prod.snd h
  simp only [pr] at x1 x2
  have e : v = (w.1 + (v.1 - w.1), w.2.1 + (v.1 - w.1), w.2.2 + (v.1 - w.1)) := by
    refine Prod.ext ?_ (Prod.ext ?_ ?_) <;> simp only <;> lia
  rw [e]
  exact nmE_grey _
theorem pr_nm {v w : V3} (h : nmE lE v = nmE lE w) : pr v = pr w := by
  obtain ⟨k, rfl⟩ := nmE_inj h
  refine v2 ?_ ?_ <;> simp only [pr] <;> lia
theorem big_pr {v : V3} (h : bd2 1000000000000 (pr v)) : big3 v := by
  obtain ⟨a1, a2, a3, a4⟩ := h
  obtain ⟨m1, m2, m3, m4⟩ := mn3_le v
  simp only [pr] at a1 a2 a3 a4
  unfold big3
  lia
theorem ent_eq (f0 f1 : Int) (S : Nat → V3) (far : List Nat) (l : Str) : entL f0 f1 S far l = ((List.range 9).map fun i => (nmE l (add3 (S i) (S (i + 1))), l ++ numT (i : Int))) ++ far.map fun n => (nmE l (farF f0 f1 S n), l ++ numT (n : Int)) := by
  have e9 : n9 = (List.range 9).map fun (i : Nat) => (i : Int) := rfl
  unfold entL edgL
  rw [List.zip_append (by rw [nearL, List.length_map, List.length_range]; rfl), List.map_append, e9, nearL]
  congr 1
  all_goals (rw [List.zip_map', List.map_map]; rfl)
structure EntOf (f0 f1 s v x : Int) (sp : V3) (l : Str) (p : Str × Str) (E : V3) (k : Nat) : Prop where
  lt : k < 6561
  eq : p = (nmE l E, l ++ numT (k : Int))
  pe : pr E = pE f0 f1 s v x sp k
theorem ent_of {f0 f1 s v x : Int} (h0 : f0 = 0 ∨ f0 = 1) (h1 : f1 = 0 ∨ f1 = 1) (hs : s = 1 ∨ s = 2 ∨ s = 3 ∨ s = 4) (hv : v = 1 ∨ v = 2 ∨ v = 3 ∨ v = 4) (hx : x ∈ q6) (sp : V3) {far : List Nat} (hf : ∀ n ∈ far, n < 6561) (l : Str) {p : Str × Str} (hp : p ∈ entL f0 f1 (dueS f0 f1 sp (colT s v x)) far l) : ∃ E k, EntOf f0 f1 s v x sp l p E k := by
  rw [ent_eq] at hp
  rcases List.mem_append.mp hp with h | h
  · obtain ⟨i, hi, rfl⟩ := List.mem_map.mp h
    have hi := List.mem_range.mp hi
    exact ⟨_, i, by lia, rfl, pr_near h0 h1 hs hx sp i hi⟩
  · obtain ⟨n, hn, rfl⟩ := List.mem_map.mp h
    exact ⟨_, n, hf n hn, rfl, pr_farF h0 h1 hs hv hx sp n (hf n hn)⟩
theorem low_ent {l : Str} (hl : l = lE ∨ l = lB) {f0 f1 s v x : Int} {sp : V3} {p : Str × Str} {E : V3} {k : Nat} (e : EntOf f0 f1 s v x sp l p E k) : lowT p.1 = nmE lE E := by
  rw [e.eq]; exact low_nm hl E
theorem pE_inj {f0 f1 s v x y : Int} (h0 : f0 = 0 ∨ f0 = 1) (h1 : f1 = 0 ∨ f1 = 1) (hs : s = 1 ∨ s = 2 ∨ s = 3 ∨ s = 4) (hv : v = 1 ∨ v = 2 ∨ v = 3 ∨ v = 4) (hx : x ∈ q6) (hy : y ∈ q6) {sp : V3} {k j : Nat} (hk : k < 6561) (hj : j < 6561) (h : pE f0 f1 s v x sp k = pE f0 f1 s v y sp j) : x = y ∧ k = j := by
  have hm : ∀ a b : Int, s * v * a = s * v * b → a = b := fun a b e => Int.eq_of_mul_eq_mul_left (by rcases hs with rfl | rfl | rfl | rfl <;> rcases hv with rfl | rfl | rfl | rfl <;> decide) e
  have x1 := congrArg Prod.fst h
  have x2 := congrArg Prod.snd h
  simp only [pE, ad, sc] at x1 x2
  have e := edge_once h0 h1 (un_mem hx) (un_mem hy) hk hj (v2 (hm _ _ (by lia)) (hm _ _ (by lia)))
  refine ⟨?_, e.2⟩
  have key : ∀ x ∈ q6, ∀ y ∈ q6, un x = un y → x = y := by decide
  exact key x hx y hy e.1
structure Laid (f0 f1 s v : Int) (sp : V3) (x y : Int) (p : Str × Str) : Prop where
  or : p = (lE, e0) ∨ (∃ E k, EntOf f0 f1 s v x sp lE p E k) ∨ ∃ E k, EntOf f0 f1 s v y sp lB p E k
theorem nm_ne (E : V3) : lowT lE ≠ nmE lE E := fun h => by
  have h1 : (lowT lE).cps.toList.length = 1 := by decide +kernel
  rw [h, nmE_cps, lE_cps] at h1
  simp at h1
theorem laid_once {f0 f1 s v x y : Int} (h0 : f0 = 0 ∨ f0 = 1) (h1 : f1 = 0 ∨ f1 = 1) (hs : s = 1 ∨ s = 2 ∨ s = 3 ∨ s = 4) (hv : v = 1 ∨ v = 2 ∨ v = 3 ∨ v = 4) (hx : x ∈ q6) (hy : y ∈ q6) (hxy : x ≠ y) {sp : V3} {p q : Str × Str} (hp : Laid f0 f1 s v sp x y p) (hq : Laid f0 f1 s v sp x y q) (h : lowT p.1 = lowT q.1) : p = q := by
  have go : ∀ {x : Int} {l : Str} (hx : x ∈ q6) (hl : l = lE ∨ l = lB) {E E' : V3} {k k' : Nat}, EntOf f0 f1 s v x sp l p E k → EntOf f0 f1 s v x sp l q E' k' → p = q := fun {x l} hx hl {E E' k k'} e e' => by
    rw [low_ent hl e, low_ent hl e'] at h
    have h2 := pr_nm h
    have h3 := h2
    rw [e.pe, e'.pe] at h3
    obtain ⟨_, rfl⟩ := pE_inj h0 h1 hs hv hx hx e.lt e'.lt h3
    rw [e.eq, e'.eq, nm_pr h2]
  have no : ∀ {x y : Int} {l l' : Str} (hx : x ∈ q6) (hy : y ∈ q6) (hxy : x ≠ y) (hl : l = lE ∨ l = lB) (hl' : l' = lE ∨ l' = lB) {E E' : V3} {k k' : Nat}, EntOf f0 f1 s v x sp l p E k → EntOf f0 f1 s v y sp l' q E' k' → p = q := fun {x y l l'} hx hy hxy hl hl' {E E' k k'} e e' => by
    rw [low_ent hl e, low_ent hl' e'] at h
    have h2 := pr_nm h
    rw [e.pe, e'.pe] at h2
    exact absurd (pE_inj h0 h1 hs hv hx hy e.lt e'.lt h2).1 hxy
  rcases hp.or with rfl | ⟨E, k, e⟩ | ⟨E, k, e⟩ <;> rcases hq.or with rfl | ⟨E', k', e'⟩ | ⟨E', k', e'⟩
  · rfl
  · rw [low_ent (.inl rfl) e'] at h; exact absurd h (nm_ne _)
  · rw [low_ent (.inr rfl) e'] at h; exact absurd h (nm_ne _)
  · rw [low_ent (.inl rfl) e] at h; exact absurd h.symm (nm_ne _)
  · exact go hx (.inl rfl) e e'
  · exact no hx hy hxy (.inl rfl) (.inr rfl) e e'
  · rw [low_ent (.inr rfl) e] at h; exact absurd h.symm (nm_ne _)
  · exact no hy hx (Ne.symm hxy) (.inr rfl) (.inl rfl) e e'
  · exact go hy (.inr rfl) e e'
theorem lE_ok : ∀ c ∈ lE.cps.toList, okC c = true := by rw [lE_cps]; decide
theorem lB_ok : ∀ c ∈ lB.cps.toList, okC c = true := by rw [lB_cps]; decide
theorem l_okC {l : Str} (hl : l = lE ∨ l = lB) : ∀ c ∈ l.cps.toList, okC c = true := by
  rcases hl with rfl | rfl
  · exact lE_ok
  · exact lB_ok
theorem l_one {l : Str} (hl : l = lE ∨ l = lB) : l.cps.toList.length = 1 := by
  rcases hl with rfl | rfl
  · rw [lE_cps]; rfl
  · rw [lB_cps]; rfl
theorem val_cps (l : Str) (k : Nat) : (l ++ numT (k : Int)).cps.toList = l.cps.toList ++ numC (k : Int) := by
  show (l.cps ++ (numT (k : Int)).cps).toList = _
  rw [Array.toList_append]; rfl
theorem val_ok {l : Str} (hl : l = lE ∨ l = lB) (k : Nat) : ∀ c ∈ (l ++ numT (k : Int)).cps.toList, okC c = true := fun c hc => by
  rw [val_cps] at hc
  rcases List.mem_append.mp hc with h | h
  · exact l_okC hl c h
  · have := numC_dig (Int.natCast_nonneg k) c h
    simp [okC, this.1, this.2]
theorem val_len {l : Str} (hl : l = lE ∨ l = lB) {k : Nat} (hk : k < 6561) : (l ++ numT (k : Int)).cps.size ≤ 20 := by
  rw [← Array.length_toList, val_cps, List.length_append, l_one hl]
  have := numC_len (a := (k : Int)) (k := 10) (by decide) (Int.natCast_nonneg k) (by lia)
  lia
theorem bd_pE {f0 f1 s v x : Int} (hs : s = 1 ∨ s = 2 ∨ s = 3 ∨ s = 4) (hv : v = 1 ∨ v = 2 ∨ v = 3 ∨ v = 4) (hx : x ∈ q6) {sp : V3} (hsp : bd2 10000000000 (pr sp)) (k : Nat) : bd2 1000000000000 (pE f0 f1 s v x sp k) := by
  have b1 := bd_uSt (f0 := f0) (f1 := f1) (un_mem hx) k 8
  have b2 := bd_unit (uSt_unit (f0 := f0) (f1 := f1) (un_mem hx) k 8)
  obtain ⟨a1, a2, a3, a4⟩ := hsp
  have e5 : (4 : Int) * 5 ^ 8 = 1562500 := by decide
  rw [e5] at b1
  obtain ⟨c1, c2, c3, c4⟩ := b1
  obtain ⟨d1, d2, d3, d4⟩ := b2
  have hm : ∀ z : Int, -3200000 ≤ z → z ≤ 3200000 → -51200000 ≤ s * v * z ∧ s * v * z ≤ 51200000 := fun z z1 z2 => by
    have p : 0 ≤ s * v ∧ s * v ≤ 16 := by rcases hs with rfl | rfl | rfl | rfl <;> rcases hv with rfl | rfl | rfl | rfl <;> decide
    have p1 := Int.mul_le_mul_of_nonneg_left z1 p.1
    have p2 := Int.mul_le_mul_of_nonneg_left z2 p.1
    clear hs hv
    obtain ⟨p3, p4⟩ := p
    constructor <;> lia
  have m1 := hm (mm (uSt f0 f1 (un x) k 8)).1 (by simp only [mm, ad, sc]; lia) (by simp only [mm, ad, sc]; lia)
  have m2 := hm (mm (uSt f0 f1 (un x) k 8)).2 (by simp only [mm, ad, sc]; lia) (by simp only [mm, ad, sc]; lia)
  simp only [pE, bd2, ad, sc] at m1 m2 ⊢
  lia
theorem nm_sizes {l : Str} (hl : l = lE ∨ l = lB) {E : V3} (hb : big3 E) : (nmE l E).cps.size ≤ 1000 ∧ (lowT (nmE l E)).cps.size ≤ 1000 ∧ noHit codeN (lowT (nmE l E)).cps 0 = true ∧ noHit codeN (nmE l E).cps 0 = true := by
  rw [low_nm hl]
  exact ⟨Nat.le_trans (nmE_len hl hb) (by decide), Nat.le_trans (nmE_len (.inl rfl) hb) (by decide), noHitN (nmE_ok lE_ok E), noHitN (nmE_ok (l_okC hl) E)⟩
theorem laid_size {f0 f1 s v x y : Int} (hs : s = 1 ∨ s = 2 ∨ s = 3 ∨ s = 4) (hv : v = 1 ∨ v = 2 ∨ v = 3 ∨ v = 4) (hx : x ∈ q6) (hy : y ∈ q6) {sp : V3} (hsp : bd2 10000000000 (pr sp)) {p : Str × Str} (h : Laid f0 f1 s v sp x y p) : (lowT p.1).cps.size ≤ 1000 := by
  rcases h.or with rfl | ⟨E, k, e⟩ | ⟨E, k, e⟩
  · exact (l_ok (.inl rfl)).2.1
  · rw [e.eq]; exact (nm_sizes (.inl rfl) (big_pr (by rw [e.pe]; exact bd_pE hs hv hx hsp k))).2.1
  · rw [e.eq]; exact (nm_sizes (.inr rfl) (big_pr (by rw [e.pe]; exact bd_pE hs hv hy hsp k))).2.1
theorem pair_ok {f0 f1 s v x y z : Int} (h0 : f0 = 0 ∨ f0 = 1) (h1 : f1 = 0 ∨ f1 = 1) (hs : s = 1 ∨ s = 2 ∨ s = 3 ∨ s = 4) (hv : v = 1 ∨ v = 2 ∨ v = 3 ∨ v = 4) (hx : x ∈ q6) (hy : y ∈ q6) (hz : z ∈ q6) (hxy : x ≠ y) {sp : V3} (hsp : bd2 10000000000 (pr sp)) {D : List (Str × Str)} (hD : ∀ q ∈ D, Laid f0 f1 s v sp x y q) (hl : D.length ≤ 900) {p : Str × Str} {l : Str} (hll : l = lE ∨ l = lB) {E : V3} {k : Nat} (e : EntOf f0 f1 s v z sp l p E k) (hp : Laid f0 f1 s v sp x y p) : PairOk D p := by
  have hb : big3 E := big_pr (by rw [e.pe]; exact bd_pE hs hv hz hsp k)
  obtain ⟨a0, a1, a2, a3⟩ := nm_sizes hll hb
  have hu : ∀ q ∈ D, lowT q.1 = lowT p.1 → q = p := fun q hq hlow => laid_once h0 h1 hs hv hx hy hxy (hD q hq) hp hlow
  have hlow : ∀ q ∈ D, (lowT q.1).cps.size ≤ 1000 := fun q hq => laid_size hs hv hx hy hsp (hD q hq)
  obtain ⟨lt, eq, pe⟩ := e
  subst eq
  exact ⟨a0, a1, a2, a3, Nat.le_trans (val_len hll lt) (by decide), noHitV (val_ok hll k), hl, hlow, hu⟩
theorem far0_lt {ap : Int} {a b : Nat} (ha : a < 6561) (hb : b < 6561) : (∀ n ∈ far0 ap a b, n < 6561) ∧ (far0 ap a b).length ≤ 2 ∧ (∀ n ∈ far1 ap a b, n < 6561) ∧ (far1 ap a b).length ≤ 2 := by
  unfold far0 far1
  split <;> simp <;> lia
theorem ent_len (f0 f1 : Int) (S : Nat → V3) {far : List Nat} (h : far.length ≤ 2) (l : Str) : (entL f0 f1 S far l).length ≤ 11 := by
  rw [ent_eq, List.length_append, List.length_map, List.length_range, List.length_map]
  lia
theorem it_ok {f0 f1 s v x : Int} (h0 : f0 = 0 ∨ f0 = 1) (h1 : f1 = 0 ∨ f1 = 1) (hs : s = 1 ∨ s = 2 ∨ s = 3 ∨ s = 4) (hv : v = 1 ∨ v = 2 ∨ v = 3 ∨ v = 4) (hx : x ∈ q6) {sp : V3} (hsp : bd2 10000000000 (pr sp)) {far : List Nat} (hf : ∀ n ∈ far, n < 6561) (hfl : far.length ≤ 2) {l : Str} (hl : l = lE ∨ l = lB) : ItOk f0 f1 s v sp l x far (dueS f0 f1 sp (colT s v x)) where
  hl := hl
  hx := hx
  walk := walk_due h0 h1 hs hv hx sp
  due := rfl
  kk := fun i hi => kk_ne h0 h1 hs hv hx sp i hi
  farb := hf
  farl := hfl
  bF := fun n hn => big_pr (by rw [pr_farF h0 h1 hs hv hx sp n (hf n hn)]; exact bd_pE hs hv hx hsp n)
  bT := fun n hn => big_pr (by rw [pr_thereF hs hx n sp]; exact bd_pE hs hv hx hsp n)
  name := fun n hn => nm_pr (by rw [pr_farF h0 h1 hs hv hx sp n (hf n hn), pr_thereF hs hx n sp])
  bN := fun e he => by
    obtain ⟨i, hi, rfl⟩ := List.mem_map.mp he
    exact big_pr (by rw [pr_near h0 h1 hs hx sp i (List.mem_range.mp hi)]; exact bd_pE hs hv hx hsp i)
theorem all_ok {h0' f0 f1 s v x ap : Int} {a b : Nat} (h0 : f0 = 0 ∨ f0 = 1) (h1 : f1 = 0 ∨ f1 = 1) (hs : s = 1 ∨ s = 2 ∨ s = 3 ∨ s = 4) (hv : v = 1 ∨ v = 2 ∨ v = 3 ∨ v = 4) (hx : x ∈ q6) (hap : ap = 0 ∨ ap = 1) (ha : a < 6561) (hb : b < 6561) {sp : V3} (hsp : bd2 10000000000 (pr sp)) :
    ∃ S0 S1 B, AllOk h0' f0 f1 s v x ap a b sp S0 S1 B := by
  obtain ⟨q1, q2, q3, q4⟩ := far0_lt (ap := ap) ha hb
  have hy : (x + 1 + (h0'.fdiv 24).fmod 5).fmod 6 ∈ q6 := fm6' _
  have hxy : x ≠ (x + 1 + (h0'.fdiv 24).fmod 5).fmod 6 := by
    have g1 := fmod_lo (h0'.fdiv 24) (b := 5) (by decide)
    have g2 := fmod_hi (h0'.fdiv 24) (b := 5) (by decide)
    exact small_int (P := fun r => x ≠ (x + 1 + r).fmod 6) (n := 5) ((by decide : ∀ x ∈ q6, ∀ k : Nat, k < 5 → x ≠ (x + 1 + (k : Int)).fmod 6) x hx) g1 g2
  generalize hyd : (x + 1 + (h0'.fdiv 24).fmod 5).fmod 6 = y at hy hxy
  let S0 := dueS f0 f1 sp (colT s v x)
  let S1 := dueS f0 f1 sp (colT s v y)
  have L0 : ∀ p ∈ entL f0 f1 S0 (far0 ap a b) lE, ∃ E k, EntOf f0 f1 s v x sp lE p E k := fun p hp => ent_of h0 h1 hs hv hx sp q1 lE hp
  have L1 : ∀ p ∈ entL f0 f1 S1 (far1 ap a b) lB, ∃ E k, EntOf f0 f1 s v y sp lB p E k := fun p hp => ent_of h0 h1 hs hv hy sp q3 lB hp
  have M0 : ∀ p ∈ due0, Laid f0 f1 s v sp x y p := fun p hp => ⟨.inl (List.mem_singleton.mp hp)⟩
  have M1 : ∀ p ∈ D1 f0 f1 ap a b S0, Laid f0 f1 s v sp x y p := fun p hp => by
    rcases ins_mem.mp hp with h | h
    · exact M0 p h
    · exact ⟨.inr (.inl (L0 p h))⟩
  have M2 : ∀ p ∈ D2 f0 f1 ap a b S0 S1, Laid f0 f1 s v sp x y p := fun p hp => by
    rcases ins_mem.mp hp with h | h
    · exact M1 p h
    · exact ⟨.inr (.inr (L1 p h))⟩
  have n0 := ent_len f0 f1 S0 q2 lE
  have n1 := ent_len f0 f1 S1 q4 lB
  have len1 : (D1 f0 f1 ap a b S0).length ≤ 12 := by
    have := ins_len (entL f0 f1 S0 (far0 ap a b) lE) due0
    have e : due0.length = 1 := rfl
    unfold D1
    lia
  have len2 : (D2 f0 f1 ap a b S0 S1).length ≤ 23 := by
    have := ins_len (entL f0 f1 S1 (far1 ap a b) lB) (D1 f0 f1 ap a b S0)
    unfold D2
    lia
  obtain ⟨w1, w2⟩ := walk_back h0 h1 hs hv hx sp
  have pB : ∀ i < 9, pr (add3 (bkS f0 f1 s v x (S0 9) i) (bkS f0 f1 s v x (S0 9) (i + 1))) = pE f0 f1 s v x sp (8 - i) := fun i hi => by
    rw [← show pr (add3 (S0 (8 - i)) (S0 (8 - i + 1))) = pE f0 f1 s v x sp (8 - i) from pr_near h0 h1 hs hx sp (8 - i) (by lia), pr_add, pr_add, w2 i (by lia), w2 (i + 1) (by lia), show 9 - (i + 1) = 8 - i by lia, show 9 - i = 8 - i + 1 by lia]
    refine v2 ?_ ?_ <;> simp only [ad] <;> exact Int.add_comm _ _
  have bB : ∀ i < 9, big3 (add3 (bkS f0 f1 s v x (S0 9) i) (bkS f0 f1 s v x (S0 9) (i + 1))) := fun i hi => big_pr (by rw [pB i hi]; exact bd_pE hs hv hx hsp _)
  refine ⟨S0, S1, bkS f0 f1 s v x (S0 9), ⟨h0, h1, hs, hv, hx, hap, it_ok h0 h1 hs hv hx hsp q1 q2 (.inl rfl), ?_, ?_, ?_, ?_, ?_, w1, ?_, ?_, ?_, ?_, ?_, ?_⟩⟩
  · rw [hyd]; exact it_ok h0 h1 hs hv hy hsp q3 q4 (.inr rfl)
  · intro i p hp
    have hm := List.mem_of_getElem? hp
    obtain ⟨E, k, e⟩ := L0 p hm
    refine pair_ok h0 h1 hs hv hx hy hx hxy hsp (fun q hq => ?_) ?_ (.inl rfl) e ⟨.inr (.inl ⟨E, k, e⟩)⟩
    · rcases ins_mem.mp hq with h | h
      · exact M0 q h
      · exact ⟨.inr (.inl (L0 q (List.mem_of_mem_take h)))⟩
    · have := ins_len ((entL f0 f1 S0 (far0 ap a b) lE).take i) due0
      have e1 : due0.length = 1 := rfl
      have e2 : ((entL f0 f1 S0 (far0 ap a b) lE).take i).length ≤ 11 := by rw [List.length_take]; lia
      lia
  · intro i p hp
    have hm := List.mem_of_getElem? hp
    obtain ⟨E, k, e⟩ := L1 p hm
    refine pair_ok h0 h1 hs hv hx hy hy hxy hsp (fun q hq => ?_) ?_ (.inr rfl) e ⟨.inr (.inr ⟨E, k, e⟩)⟩
    · rcases ins_mem.mp hq with h | h
      · exact M1 q h
      · exact ⟨.inr (.inr (L1 q (List.mem_of_mem_take h)))⟩
    · have := ins_len ((entL f0 f1 S1 (far1 ap a b) lB).take i) (D1 f0 f1 ap a b S0)
      have e2 : ((entL f0 f1 S1 (far1 ap a b) lB).take i).length ≤ 11 := by rw [List.length_take]; lia
      lia
  · exact fun p hp => laid_size hs hv hx hy hsp (M1 p hp)
  · lia
  · intro e he
    obtain ⟨i, hi, rfl⟩ := List.mem_map.mp he
    exact bB i (List.mem_range.mp hi)
  · exact fun p hp => laid_size hs hv hx hy hsp (M2 p hp)
  · lia
  · exact fun i hi => (nm_sizes (.inr rfl) (bB i hi)).2.1
  · exact fun i hi => (nm_sizes (.inr rfl) (bB i hi)).2.2.1
  · intro i hi
    have hmem : (nmE lE (add3 (S0 (8 - i)) (S0 (8 - i + 1))), lE ++ numT ((8 - i : Nat) : Int)) ∈ entL f0 f1 S0 (far0 ap a b) lE := by
      rw [ent_eq]
      exact List.mem_append.mpr (.inl (List.mem_map.mpr ⟨8 - i, List.mem_range.mpr (by lia), rfl⟩))
    have hD2 : (nmE lE (add3 (S0 (8 - i)) (S0 (8 - i + 1))), lE ++ numT ((8 - i : Nat) : Int)) ∈ D2 f0 f1 ap a b S0 S1 := ins_mem.mpr (.inl (ins_mem.mpr (.inr hmem)))
    have hlow : lowT (nmB (bkS f0 f1 s v x (S0 9)) i) = lowT (nmE lE (add3 (S0 (8 - i)) (S0 (8 - i + 1)))) := by
      unfold nmB
      rw [low_nm (.inr rfl), low_nm (.inl rfl)]
      exact nm_pr (by rw [pB i hi]; exact (pr_near h0 h1 hs hx sp (8 - i) (by lia)).symm)
    have e8 : (8 : Int) - (i : Int) = ((8 - i : Nat) : Int) := by lia
    rw [e8]
    unfold getF
    cases hf : (D2 f0 f1 ap a b S0 S1).find? (mtc (nmB (bkS f0 f1 s v x (S0 9)) i)) with
    | none =>
      have := List.find?_eq_none.mp hf _ hD2
      exact absurd (by unfold mtc; rw [hlow]; exact beq_self_eq_true _) this
    | some r =>
      have g1 := List.find?_some hf
      have g2 := List.mem_of_find?_eq_some hf
      unfold mtc at g1
      have g3 := eq_of_beq g1
      rw [hlow] at g3
      have := laid_once h0 h1 hs hv hx hy hxy (M2 r g2) (M2 _ hD2) g3
      rw [this]; rfl
theorem sum_bd : ∀ l : List Int, (∀ x ∈ l, 0 ≤ x ∧ x ≤ 1000000) → 0 ≤ l.sum ∧ l.sum ≤ 1000000 * l.length
  | [], _ => by simp
  | x :: l, h => by
    have h1 := h x (.head _)
    have h2 := sum_bd l fun y hy => h y (.tail _ hy)
    rw [List.sum_cons, List.length_cons]
    lia
theorem pickI_len (l : List Int) (lo hi st : Option Int) : (pickI l lo hi st).length ≤ l.length := by
  have h := pickL_len (l.map PV.int) lo hi st
  rw [pickL_ints, List.length_map, List.length_map] at h
  exact h
theorem heap_bd (S : List Int) (hS : S.length ≤ 100) (k : Int) : 0 ≤ heapS S k ∧ heapS S k ≤ 100000000 := by
  have e : (10 : Int) ^ (6 : Int).toNat = 1000000 := by decide
  have h := sum_bd ((pickI (pickI S none (some 60) none) (some k) none (some 4)).map fun x => x.fmod (10 ^ (6 : Int).toNat)) fun y hy => by
    obtain ⟨x, _, rfl⟩ := List.mem_map.mp hy
    rw [e]
    have h1 := fmod_lo x (b := 1000000) (by decide)
    have h2 := fmod_hi x (b := 1000000) (by decide)
    lia
  have l1 := pickI_len (pickI S none (some 60) none) (some k) none (some 4)
  have l2 := pickI_len S none (some 60) none
  rw [List.length_map] at h
  unfold heapS
  lia
section
variable {C : Cx} {X : Addr → Prop} {κ : Addr → Option Obj} {env : Env} {q : Str} {doc pm cd : Value} {L f : Addr} {R : Vp} {Ψ : Asn C}
theorem law_body1 (he : env = callEnvC (fdOf (stAt pw 88) q doc pm cd) L f) (K : LawY C) (H : HdrK C) (G : DigK C) (S : List Int) (hS : S.length ≤ 100) :
    EX C 40 X (FS C env nmS nmS (scOf (stAt pw 88)) X [some (is (lI S)), none, none, none, none, none, none, none, none, none, none, none, none, none, none, none, none, none, none, none, none, none, none, none, none] [] κ) (execs (bodyOf (stAt pw 88)) env) (botA C) (is (.bool true)) := by
  refine b_all he K H G S hS fun h0 h1 h2 h3 e0' e1 e2 e3 => ?_
  have b1 := heap_bd S hS 1
  have b2 := heap_bd S hS 2
  have b3 := heap_bd S hS 3
  have x0 := fmod_lo h0 (b := 2) (by decide)
  have x1 := fmod_hi h0 (b := 2) (by decide)
  have y0 := fmod_lo (h0.fdiv 2) (b := 2) (by decide)
  have y1 := fmod_hi (h0.fdiv 2) (b := 2) (by decide)
  have s0 := fmod_lo (h0.fdiv 120) (b := 4) (by decide)
  have s1 := fmod_hi (h0.fdiv 120) (b := 4) (by decide)
  have v0 := fmod_lo (h0.fdiv 480) (b := 4) (by decide)
  have v1 := fmod_hi (h0.fdiv 480) (b := 4) (by decide)
  have a0 := fmod_lo (h0.fdiv 1920) (b := 2) (by decide)
  have a1 := fmod_hi (h0.fdiv 1920) (b := 2) (by decide)
  have m0 := fmod_lo h1 (b := 6561) (by decide)
  have m1 := fmod_hi h1 (b := 6561) (by decide)
  have n0 := fmod_lo h2 (b := 6561) (by decide)
  have n1 := fmod_hi h2 (b := 6561) (by decide)
  exact all_ok (two_i x0 x1) (two_i y0 y1) (four_i s0 s1) (four_i v0 v1) (fm6' _) (two_i a0 a1) ((Int.toNat_lt m0).mpr m1) ((Int.toNat_lt n0).mpr n1) (by clear x0 x1 y0 y1 s0 s1 v0 v1 a0 a1 m0 m1 n0 n1;  simp only [bd2, pr]; lia)
end
noncomputable def hid (h : Heap) : Fz := fun b => if b = 195 ∨ b = 202 then none else h.get? b
noncomputable def cxOf (w : World) (h : Heap) : Cx := { prog := pw, w := w, Z0 := hid h, tabs := [(195, posOf (inSt pw 11 1), qi2d), (202, posOf (inSt pw 12 0), qd2i)] }
theorem hid_of {h : Heap} {b : Addr} {o : Obj} (h1 : b ≠ 195) (h2 : b ≠ 202) (e : h.get? b = some o) : hid h b = some o := by
  unfold hid
  rw [if_neg (fun q => q.elim h1 h2)]; exact e
theorem hid_le {h : Heap} {b : Addr} {o : Obj} (e : hid h b = some o) : h.get? b = some o := by
  unfold hid at e
  split at e
  · cases e
  · exact e
theorem nsMap_keep {h h' : Heap} (k : ∀ b o, h.get? b = some o → h'.get? b = some o) {a : Addr} {x : Str} {v : Value} (e : h.nsMap a x = some v) (y : Str) : h'.nsMap a y = h.nsMap a y := by
  unfold Heap.nsMap at e ⊢
  cases ho : h.get? a with
  | none => rw [ho] at e; cases e
  | some o => rw [k a o ho]
noncomputable def isDef : Stmt → Bool
  | .FunctionDef .. => true
  | _ => false
theorem fdOf_erase {st : Stmt} {fd : FuncData} {q : Str} {dv c : Value} (hd : isDef st = true) (e : eraseFd fd = mFd st q dv .none .none .none) (hc : fd.code = c) : fd = mFd st q dv fd.doc fd.pyModule c := by
  subst hc
  cases fd
  cases st <;> first | cases hd | skip
  simp only [eraseFd, mFd, fdOf, FuncData.mk.injEq] at e ⊢
  simp_all
theorem mFd_none (st : Stmt) (q : Str) (doc pm cd : Value) (hd : isDef st = true) : mFd st q .none doc pm cd = fdOf st q doc pm cd := by
  cases st <;> first | rfl | cases hd
theorem fn_of {h : Heap} {f : Addr} {F : FuncData} {q : Str} (e : fnSeen h f = some ({ cls := .type "function", data := .func F }, some q)) :
    ∃ fd c, h.get? f = some { cls := .type "function", data := .func fd } ∧ eraseFd fd = F ∧ fd.code = .ref c ∧ CodeIn h.get? c q := by
  unfold fnSeen at e
  split at e
  · rename_i o ho
    split at e
    · rename_i fd hd
      obtain ⟨e1, e2⟩ := Prod.mk.inj (Option.some.inj e)
      obtain ⟨cls, dict, data, slots⟩ := o
      simp only [Obj.mk.injEq, Data.func.injEq] at e1 hd
      obtain ⟨a1, a2, a3, a4⟩ := e1
      subst a1; subst a2; subst a4; subst hd
      unfold codeQ at e2
      split at e2
      · rename_i c hc
        split at e2
        · rename_i oc hoc
          split at e2
          · rename_i vs hvs
            split at e2
            · rename_i q' t hq
              cases e2
              exact ⟨fd, c, ho, a3, hc, oc, vs, t, hoc, hvs, hq⟩
            · cases e2
          · cases e2
        · cases e2
      · cases e2
    · cases e
  · cases e
theorem def_of {h : Heap} {x : Str} {F : FuncData} {q : Str} (e : defSeen h x = some ({ cls := .type "function", data := .func F }, some q)) :
    ∃ f, h.nsMap mainGlobals x = some (.ref f) ∧ fnSeen h f = some ({ cls := .type "function", data := .func F }, some q) := by
  unfold defSeen at e
  split at e
  · rename_i f hf
    exact ⟨f, hf, e⟩
  · cases e
theorem pvOf_int {v : Option Value} {i : Int} (e : pvOf v = .int i) : ∃ t, v = some (.int i t) := by
  unfold pvOf at e
  split at e <;> cases e
  exact ⟨_, rfl⟩
theorem pvOf_flt {v : Option Value} {i : UInt64} (e : pvOf v = .flt i) : ∃ t, v = some (.float i t) := by
  unfold pvOf at e
  split at e <;> cases e
  exact ⟨_, rfl⟩
structure Start (w : World) (h₀ h : Heap) (mg mb : Str → Option Value) : Prop where
  k : ∀ b o, h₀.get? b = some o → h.get? b = some o
  g : h.Ns mainGlobals mg
  b : h.Ns builtinsNs mb
  nl : h.NoLimit
  bb : ∀ x : Str, x ≠ "__name__" → mb x = bootBuiltins x
  bm : ∃ bm ob, mg "__builtins__" = some (.ref bm) ∧ bm ≠ builtinsNs ∧ h.get? bm = some ob ∧ ob.cls = .type "module" ∧ ob.dict = some builtinsNs ∧ ob.data = .plain
  mge : ∀ x, mg x = h₀.nsMap mainGlobals x
  t1 : h₀.get? 195 = some (tabObj #[])
  t2 : h₀.get? 202 = some (tabObj #[])
section
variable {w : World} {h₀ h : Heap} {mg mb : Str → Option Value}
theorem Start.z (K : Start w h₀ h mg mb) {b : Addr} {o : Obj} (e : h₀.get? b = some o) (hn : o ≠ tabObj #[]) : (cxOf w h).Z0 b = some o := by
  refine hid_of (fun q => ?_) (fun q => ?_) (K.k _ _ e)
  · subst q; rw [K.t1] at e; cases e; exact hn rfl
  · subst q; rw [K.t2] at e; cases e; exact hn rfl
theorem Start.glob (K : Start w h₀ h mg mb) {x : Str} {v : Value} (e : h₀.nsMap mainGlobals x = some v) : GlobZ (cxOf w h) x v := fun h' hh =>
  ⟨mg, K.g.at fun o ho => hh _ _ (hid_of (by decide) (by decide) ho), (K.mge x).trans e⟩
theorem Start.blt (K : Start w h₀ h mg mb) {x : Str} {v : Value} (e : (h₀.nsMap mainGlobals x).isNone = true) (hx : x ≠ "__name__") (hv : bootBuiltins x = some v) : BltZ (cxOf w h) x v := fun h' hh =>
  ⟨mg, mb, K.g.at fun o ho => hh _ _ (hid_of (by decide) (by decide) ho), (K.mge x).trans (Option.isNone_iff_eq_none.mp e), K.b.at fun o ho => hh _ _ (hid_of (by decide) (by decide) ho), (K.bb x hx).trans hv⟩
theorem Start.quiet (K : Start w h₀ h mg mb) : Quiet (cxOf w h) := fun h' hh => K.nl.at fun o ho => hh _ _ (hid_of (by decide) (by decide) ho)
theorem Start.code (K : Start w h₀ h mg mb) {c : Addr} {q : Str} (x : CodeIn h₀.get? c q) : CodeIn (cxOf w h).Z0 c q := by
  obtain ⟨o, vs, t, e, hd, hq⟩ := x
  refine ⟨o, vs, t, K.z e (fun z => ?_), hd, hq⟩
  subst z
  cases hd
  simp at hq
theorem Start.mth (K : Start w h₀ h mg mb) {st : Stmt} {f : Addr} {q : Str} {dv : Value} (hd : isDef st = true) (e : fnSeen h₀ f = some ({ cls := .type "function", data := .func (mFd st q dv .none .none .none) }, some q)) :
    ∃ doc pm c, (cxOf w h).Z0 f = some { cls := .type "function", data := .func (mFd st q dv doc pm (.ref c)) } ∧ CodeIn (cxOf w h).Z0 c q := by
  obtain ⟨fd, c, ho, he, hc, hq⟩ := fn_of e
  have := fdOf_erase hd he hc
  exact ⟨fd.doc, fd.pyModule, c, by rw [← this]; exact K.z ho (fun z => by cases z), K.code hq⟩
theorem Start.fn (K : Start w h₀ h mg mb) {i : Nat} {x : Str} (hd : isDef (stAt pw i) = true) (e : defSeen h₀ x = defGood i x) :
    ∃ f doc pm c, h₀.nsMap mainGlobals x = some (.ref f) ∧ GlobZ (cxOf w h) x (.ref f) ∧ (cxOf w h).Z0 f = some { cls := .type "function", data := .func (fdOf (stAt pw i) x doc pm (.ref c)) } ∧ CodeZ (cxOf w h) (.ref c) x := by
  obtain ⟨f, hf, hs⟩ := def_of e
  rw [← mFd_none _ _ _ _ _ hd] at hs
  obtain ⟨doc, pm, c, hz, hc⟩ := K.mth hd hs
  rw [mFd_none _ _ _ _ _ hd] at hz
  obtain ⟨o, vs, t, e1, e2, e3⟩ := hc
  exact ⟨f, doc, pm, c, hf, K.glob hf, hz, c, o, vs, t, rfl, e1, e2, e3⟩
theorem Start.dfn (K : Start w h₀ h mg mb) {i : Nat} {x : Str} (hd : isDef (stAt pw i) = true) (e : defSeen h₀ x = defGood i x) : DefAt (cxOf w h) pw i x := by
  obtain ⟨f, doc, pm, c, _, hg, hz, hc⟩ := K.fn hd e
  exact ⟨f, x, doc, pm, _, hg, hz, hc⟩
theorem Start.int (K : Start w h₀ h mg mb) {x : Str} {i : Int} (e : pvOf (h₀.nsMap mainGlobals x) = .int i) : GlobD (cxOf w h) x (.int i) := by
  obtain ⟨t, e⟩ := pvOf_int e
  exact ⟨_, K.glob e, fun Z => .int _ _⟩
theorem Start.flt (K : Start w h₀ h mg mb) {x : Str} {i : UInt64} (e : pvOf (h₀.nsMap mainGlobals x) = .flt i) : GlobD (cxOf w h) x (.flt i) := by
  obtain ⟨t, e⟩ := pvOf_flt e
  exact ⟨_, K.glob e, fun Z => .flt _ _⟩
theorem Start.topB (K : Start w h₀ h mg mb) : TopB (cxOf w h) := fun h' hh => by
  obtain ⟨bm, ob, e1, e2, e3, e4, e5, e6⟩ := K.bm
  have tab : ∀ P, h.get? P = some (tabObj #[]) → bm ≠ P := fun P hP q => by
    subst q; rw [hP] at e3; cases e3; cases e6
  have n1 := tab 195 (K.k _ _ K.t1)
  have n2 := tab 202 (K.k _ _ K.t2)
  have n3 : bm ≠ mainGlobals := fun q => by
    obtain ⟨o, es, ep, ho, hd, _⟩ := K.g
    subst q; rw [ho] at e3; cases e3; rw [hd] at e6; cases e6
  have hb := hh _ _ (hid_of n1 n2 e3)
  refine ⟨mg, K.g.at fun o ho => hh _ _ (hid_of (by decide) (by decide) ho), fun t ht => ?_⟩
  rcases List.mem_cons.mp ht with rfl | ht
  · exact ⟨by decide, bm, ob, e1, e2, n3, n1, hb, e4, e5, e6⟩
  · rcases List.mem_cons.mp ht with rfl | ht
    · exact ⟨by decide, bm, ob, e1, e2, n3, n2, hb, e4, e5, e6⟩
    · cases ht
theorem Start.hd (K : Start w h₀ h mg mb) {c p : Addr} (e : (match h₀.get? c with | some o => codeHdIn [(c, o)] c p | none => false) = true) : HdZ (cxOf w h) c p := fun h' hh => by
  split at e
  · rename_i o ho
    refine codeHd_of_K (K := [(c, o)]) (fun a x hx => ?_) e
    have : a = c ∧ x = o := by
      rw [List.lookup_cons] at hx
      split at hx
      · rename_i q
        exact ⟨beq_iff_eq.mp q, (Option.some.inj hx).symm⟩
      · cases hx
    obtain ⟨rfl, rfl⟩ := this
    refine hh _ _ (K.z ho fun z => ?_)
    subst z
    have hl : List.lookup a [(a, tabObj #[])] = some (tabObj #[]) := by simp [List.lookup]
    unfold codeHdIn at e
    rw [hl] at e
    cases e
  · cases e
end
section
variable {w : World} {h₀ h : Heap} {mg mb : Str → Option Value}
theorem tok_pairs {w : World} : ∀ (es : List DictEntry) (ts : List (Str × Int)), es.map (fun e => (e.hash, (match e.key with | .str s _ => some s | _ => none), pvOf (some e.val))) = ts.map (fun p => (hashStr w p.1, some p.1, PV.int p.2)) →
    ∃ kvs, Pairs (PySem.strKind pw w) es kvs ∧ (∀ Z, KV Z kvs (ts.map fun p => (p.1, PV.int p.2))) ∧ kvs.map (·.1) = ts.map (·.1) ∧ ∀ e ∈ es, ∃ k, (PySem.strKind pw w).is k e.key = true ∧ e.hash = (PySem.strKind pw w).hash k
  | [], [], _ => ⟨[], .nil, fun _ => .nil, rfl, fun _ he => nomatch he⟩
  | [], _ :: _, e => by simp at e
  | _ :: _, [], e => by simp at e
  | en :: es, t :: ts, e => by
    simp only [List.map_cons, List.cons.injEq, Prod.mk.injEq] at e
    obtain ⟨⟨e1, e2, e3⟩, e4⟩ := e
    obtain ⟨kvs, p, q, r, z⟩ := tok_pairs es ts e4
    obtain ⟨tv, hv⟩ := pvOf_int e3
    have hk : ∃ tt, en.key = .str t.1 tt := by
      split at e2
      · rename_i s tt hs
        cases e2
        exact ⟨tt, hs⟩
      · cases e2
    obtain ⟨tt, hk⟩ := hk
    have his : (PySem.strKind pw w).is t.1 en.key = true := by rw [hk]; exact strKind_is _ _ _ _
    refine ⟨(t.1, en.val) :: kvs, .cons his rfl p, fun Z => .cons (by rw [Option.some.inj hv]; exact .int _ _) (q Z), by rw [List.map_cons, List.map_cons, r], fun e' he' => ?_⟩
    rcases List.mem_cons.mp he' with rfl | he'
    · exact ⟨t.1, his, e1⟩
    · exact z e' he'
theorem tok_nodup : (tokI.map (·.1)).Nodup := by decide +kernel
theorem Start.tok (K : Start w h₀ h mg mb) (e : tokSeen h₀ (sQ "EXACT_TOKEN_TYPES") = tokGood w) : GlobP (cxOf w h) (sQ "EXACT_TOKEN_TYPES") (dictS (cxOf w h) tokL) := by
  unfold tokSeen tokGood at e
  split at e
  · rename_i a ha
    split at e
    · rename_i o ho
      split at e
      · rename_i es n hd
        simp only [Option.some.injEq, Prod.mk.injEq] at e
        obtain ⟨e1, e2, e3, e4, e5⟩ := e
        obtain ⟨kvs, p, q, r, z⟩ := tok_pairs es.toList tokI e5
        refine ⟨_, K.glob ha, a, o, kvs, rfl, e4, K.z ho (fun x => by subst x; cases hd), ⟨es, n, ⟨e1, e2, Array.eq_empty_of_size_eq_zero e3⟩, hd, fun en hen => z en (Array.mem_toList_iff.mpr hen), p, ?_⟩, q _⟩
        rw [r]; exact tok_nodup
      · cases e
    · cases e
  · cases e
theorem Start.pat (K : Start w h₀ h mg mb) {x : Str} {code : Array Nat} (e : patSeen h₀ x = some (.type "re.Pattern", none, 0, 0, code)) : PatZ (cxOf w h) x code := by
  unfold patSeen at e
  split at e
  · rename_i a ha
    split at e
    · rename_i o ho
      split at e
      · rename_i fs hd
        split at e
        · rename_i l hl
          split at e
          · rename_i o' ho'
            split at e
            · rename_i items n hd'
              simp only [Option.some.injEq, Prod.mk.injEq] at e
              obtain ⟨e1, e2, e3, e4, e5⟩ := e
              refine ⟨a, l, o, o', fs, items, n, K.glob ha, K.z ho (fun z => ?_), e1, e2, hd, hl, e3, e4, K.z ho' (fun z => by subst z; cases hd'), hd', e5⟩
              subst z; cases hd; cases hl
            · cases e
          · cases e
        · cases e
      · cases e
    · cases e
  · cases e
theorem Start.cls (K : Start w h₀ h mg mb) (e : clsSeen h₀ 175 = clsGood) :
    ∃ k2 k3, (cxOf w h).Z0 175 = some (excClassObj (sQ "Headers") (sQ "Headers") 175 174 [.type "object"] [.type "object"] true [] [] false none none none none k2 k3 (some (.bool true)) "object.__new__") := by
  unfold clsSeen clsGood at e
  obtain ⟨o, ho, e⟩ := Option.map_eq_some_iff.mp e
  obtain ⟨cls, dict, data, slots⟩ := o
  simp only [Prod.mk.injEq, Obj.mk.injEq] at e
  obtain ⟨⟨e1, e2, e3, _⟩, e5, e6, e7, e8, e9⟩ := e
  subst e1; subst e2; subst e3
  obtain ⟨sl⟩ := slots
  have e5 : sl.length = 6 := e5
  obtain ⟨k0, l1, rfl, f1⟩ := lenS e5
  obtain ⟨k1, l2, rfl, f2⟩ := lenS f1
  obtain ⟨k2, l3, rfl, f3⟩ := lenS f2
  obtain ⟨k3, k4, k5, rfl⟩ := len3 f3
  have g6 : k0 = none := Option.some.inj e6
  have g7 : k1 = none := Option.some.inj e7
  have g8 : k4 = some (.builtin "object.__new__") := Option.some.inj e8
  have g9 : k5 = some (.bool true) := Option.some.inj e9
  clear e6 e7 e8 e9
  subst g6; subst g7; subst g8; subst g9
  exact ⟨k2, k3, K.z ho (fun z => by cases z)⟩
theorem Start.ns (K : Start w h₀ h mg mb) {N : Addr} (h1 : N ≠ 195) (h2 : N ≠ 202) (e : h₀.isNs N = true) : NsZ (cxOf w h) N (h₀.nsMap N) := fun h' hh => by
  have x := Heap.Ns.of_isNs e
  exact (x.keeps K.k).at fun o ho => hh _ _ (hid_of h1 h2 ho)
end
section
variable {w : World} {s : Shared} {h : Heap} {mg mb : Str → Option Value}
theorem looks_all (e : looks s = hopes w) : (∀ p ∈ defL, defSeen s.heap p.2 = defGood p.1 p.2) ∧ (∀ p ∈ valL, pvOf (s.heap.nsMap mainGlobals p.1) = p.2) ∧ (∀ x ∈ offL, (s.heap.nsMap mainGlobals x).isNone = true) ∧ tokSeen s.heap (sQ "EXACT_TOKEN_TYPES") = tokGood w ∧
   clsSeen s.heap 175 = clsGood ∧ s.heap.nsMap mainGlobals (sQ "Headers") = some (.ref 175) ∧ s.heap.isNs 174 = true ∧ nsL.map (s.heap.nsMap 174) = [none, none, none, none, some (.ref 69), some (.ref 76), some (.ref 114), some (.ref 139), some (.ref 172), some (.ref 122), some (.ref 165)] ∧ (∀ p ∈ mthL, fnSeen s.heap p.2.1 = mthGood p.1 p.2.2.1 p.2.2.2) ∧
   (s.heap.get? 62, s.heap.get? 115) = (some ({ cls := .type "tuple", data := .seq #[.none] 0 } : Obj), some ({ cls := .type "tuple", data := .seq #[.none] 0 } : Obj)) ∧
   patSeen s.heap (sQ "_name_disallowed_re") = some (.type "re.Pattern", none, 0, 0, codeN) ∧ patSeen s.heap (sQ "_value_disallowed_re") = some (.type "re.Pattern", none, 0, 0, codeV) ∧
   nestSeen s.heap (sQ "_int2digits") 200 199 195 = nestGood 200 199 ∧ nestSeen s.heap (sQ "_digits2int") 207 206 202 = nestGood 207 206 := by
  have e1 := congrArg (fun x => x.1) e
  have e2 := congrArg (fun x => x.2.1) e
  have e3 := congrArg (fun x => x.2.2.1) e
  have e4 := congrArg (fun x => x.2.2.2.1) e
  have e5 := congrArg (fun x => x.2.2.2.2.1) e
  have e6 := congrArg (fun x => x.2.2.2.2.2.1) e
  have e7 := congrArg (fun x => x.2.2.2.2.2.2.1) e
  have e8 := congrArg (fun x => x.2.2.2.2.2.2.2.1) e
  have e9 := congrArg (fun x => x.2.2.2.2.2.2.2.2.1) e
  have e10 := congrArg (fun x => x.2.2.2.2.2.2.2.2.2.1) e
  have e11 := congrArg (fun x => x.2.2.2.2.2.2.2.2.2.2.1) e
  have e12 := congrArg (fun x => x.2.2.2.2.2.2.2.2.2.2.2.1) e
  have e13 := congrArg (fun x => x.2.2.2.2.2.2.2.2.2.2.2.2.1) e
  have e14 := congrArg (fun x => x.2.2.2.2.2.2.2.2.2.2.2.2.2) e
  exact ⟨List.map_inj_left.mp e1, List.map_inj_left.mp e2, List.map_inj_left.mp e3, e4, e5, e6, e7, e8, List.map_inj_left.mp e9, e10, e11, e12, e13, e14⟩
theorem start_all (K : Start w s.heap h mg mb) (e : looks s = hopes w) : LawY (cxOf w h) ∧ DigK (cxOf w h) ∧ HdrK (cxOf w h) ∧
    ∃ f doc pm c, s.heap.nsMap mainGlobals (sQ "law") = some (.ref f) ∧ GlobZ (cxOf w h) (sQ "law") (.ref f) ∧ (cxOf w h).Z0 f = some { cls := .type "function", data := .func (fdOf (stAt pw 88) (sQ "law") doc pm (.ref c)) } ∧ CodeZ (cxOf w h) (.ref c) (sQ "law") := by
  obtain ⟨e1, e2, e3, e4, e5, e6, e7, e8, e9, e10, e11, e12, e13, e14⟩ := looks_all e
  have D : ∀ (k i : Nat) (x : Str), defL[k]? = some (i, x) → isDef (stAt pw i) = true → DefAt (cxOf w h) pw i x := fun k i x hk hd => K.dfn hd (e1 _ (List.mem_of_getElem? hk))
  have B : ∀ (k : Nat) (x : Str) (v : Value), offL[k]? = some x → x ≠ "__name__" → bootBuiltins x = some v → BltZ (cxOf w h) x v := fun k x v hk hx hv => K.blt (e3 _ (List.mem_of_getElem? hk)) hx hv
  have VI : ∀ (k : Nat) (x : Str) (i : Int), valL[k]? = some (x, .int i) → GlobD (cxOf w h) x (.int i) := fun k x i hk => K.int (e2 _ (List.mem_of_getElem? hk))
  have VF : ∀ (k : Nat) (x : Str) (i : UInt64), valL[k]? = some (x, .flt i) → GlobD (cxOf w h) x (.flt i) := fun k x i hk => K.flt (e2 _ (List.mem_of_getElem? hk))
  have M : ∀ (j k : Nat) (f : Addr) (x : Str) (dv : Value), mthL[j]? = some (k, f, x, dv) → isDef (mthSt pw 6 k) = true → MthAt (cxOf w h) k f x dv := fun j k f x dv hk hd => K.mth hd (e9 _ (List.mem_of_getElem? hk))
  have N : ∀ (k i j : Nat) (x q : Str) (f c p : Addr), defL[k]? = some (i, x) → isDef (stAt pw i) = true → nestSeen s.heap x f c p = nestGood f c → (p, posOf (inSt pw i j), q) ∈ (cxOf w h).tabs → (∀ t ∈ (cxOf w h).tabs, t.1 = p → t = (p, posOf (inSt pw i j), q)) → NestAt (cxOf w h) pw i j x q := by
    intro k i j x q f c p hk hd hn ht hu
    obtain ⟨f', hf', hs⟩ := def_of (e1 _ (List.mem_of_getElem? hk))
    unfold nestSeen nestGood at hn
    simp only [Prod.mk.injEq] at hn
    obtain ⟨n1, n2, n3, n4⟩ := hn
    dsimp only at hf'
    rw [n1] at hf'; cases hf'
    obtain ⟨fd, c', ho, he, hc, hq⟩ := fn_of hs
    rw [ho] at n2
    have n2 : some fd.code = some (.ref c) := n2
    rw [hc] at n2; cases n2
    rw [← mFd_none _ _ _ _ _ hd] at he
    have q0 := fdOf_erase hd he hc
    rw [mFd_none _ _ _ _ _ hd] at q0
    obtain ⟨oc, vs, t, c1, c2, c3⟩ := K.code hq
    exact ⟨f, fd.doc, fd.pyModule, c, p, K.glob n1, by rw [← q0]; exact K.z ho (fun z => by cases z), ⟨c, oc, vs, t, rfl, c1, c2, c3⟩, K.hd n3, ht, hu⟩
  have n8 := e8
  simp only [nsL, List.map_cons, List.map_nil, List.cons.injEq] at n8
  obtain ⟨m1, m2, m3, m4, m5, m6, m7, m8, m9, m10, m11, _⟩ := n8
  obtain ⟨e10a, e10b⟩ := Prod.mk.inj e10
  have bmax := B 0 _ (.builtin "max") rfl (by decide +kernel) (by rfl)
  have bmin := B 1 _ (.builtin "min") rfl (by decide +kernel) (by rfl)
  have bint := B 2 _ (.type "int") rfl (by decide +kernel) (by rfl)
  have brange := B 3 _ (.type "range") rfl (by decide +kernel) (by rfl)
  have bzip := B 4 _ (.type "zip") rfl (by decide +kernel) (by rfl)
  have bround := B 5 _ (.builtin "round") rfl (by decide +kernel) (by rfl)
  have blen := B 6 _ (.builtin "len") rfl (by decide +kernel) (by rfl)
  have bord := B 7 _ (.builtin "ord") rfl (by decide +kernel) (by rfl)
  have bsum := B 8 _ (.builtin "sum") rfl (by decide +kernel) (by rfl)
  have benum := B 9 _ (.type "enumerate") rfl (by decide +kernel) (by rfl)
  have bstr := B 10 _ (.type "str") rfl (by decide +kernel) (by rfl)
  have blist := B 11 _ (.type "list") rfl (by decide +kernel) (by rfl)
  have btype := B 12 _ (.type "type") rfl (by decide +kernel) (by rfl)
  have bdivmod := B 13 _ (.builtin "divmod") rfl (by decide +kernel) (by rfl)
  have brev := B 14 _ (.type "reversed") rfl (by decide +kernel) (by rfl)
  have kc : ColK (cxOf w h) := ⟨K.quiet, VF 1 _ _ rfl, VF 2 _ _ rfl, VF 3 _ _ rfl, bmax, bmin, bint, D 7 21 _ rfl rfl, D 5 19 _ rfl rfl, D 6 20 _ rfl rfl, D 8 22 _ rfl rfl, D 9 23 _ rfl rfl⟩
  have kl : LawK (cxOf w h) := ⟨kc, VI 4 _ _ rfl, VI 5 _ _ rfl, brange, bzip, bround, D 10 76 _ rfl rfl, D 11 77 _ rfl rfl, D 12 78 _ rfl rfl, D 13 80 _ rfl rfl, D 14 81 _ rfl rfl, D 15 82 _ rfl rfl, D 16 83 _ rfl rfl, D 17 84 _ rfl rfl, D 18 85 _ rfl rfl, D 19 86 _ rfl rfl, D 20 87 _ rfl rfl⟩
  refine ⟨⟨⟨kl, blen, bord, K.tok e4⟩, bsum, benum, bstr, blist⟩, ⟨K.quiet, K.topB, blen, bdivmod, brev, VI 0 _ _ rfl, ?_, ?_, D 0 9 _ rfl rfl, D 3 13 _ rfl rfl, D 4 14 _ rfl rfl⟩,
    ⟨K.quiet, K.glob e6, K.cls e5, ⟨_, K.ns (by decide) (by decide) e7, m1, m2, m3, m4, m5, m6, m7, m8, m9⟩, ⟨_, K.ns (by decide) (by decide) e7, m1, m2, m10, m11⟩, M 0 0 _ _ _ rfl rfl, K.z e10a (fun z => by cases z), M 1 1 _ _ _ rfl rfl, M 2 7 _ _ _ rfl rfl, M 3 11 _ _ _ rfl rfl, M 5 8 _ _ _ rfl rfl, K.z e10b (fun z => by cases z), M 6 15 _ _ _ rfl rfl, M 4 16 _ _ _ rfl rfl, K.pat e11, K.pat e12, btype, bstr, blist⟩, K.fn (by rfl) (e1 (88, sQ "law") (List.mem_of_getElem? (i := 21) rfl))⟩
  · refine N 1 11 1 _ _ 200 199 195 rfl rfl e13 (List.mem_cons_self ..) fun t ht hp => ?_
    rcases List.mem_cons.mp ht with rfl | ht
    · rfl
    · rcases List.mem_cons.mp ht with rfl | ht
      · cases hp
      · cases ht
  · refine N 2 12 0 _ _ 207 206 202 rfl rfl e14 (List.mem_cons_of_mem _ (List.mem_cons_self ..)) fun t ht hp => ?_
    rcases List.mem_cons.mp ht with rfl | ht
    · cases hp
    · rcases List.mem_cons.mp ht with rfl | ht
      · rfl
      · cases ht
end
theorem law_call {C : Cx} (K : LawY C) (G : DigK C) (H : HdrK C) {f : Addr} {q : Str} {doc pm cd : Value} (hz : C.Z0 f = some { cls := .type "function", data := .func (fdOf (stAt pw 88) q doc pm cd) }) (hc : CodeZ C cd q)
    (S : List Int) (hS : S.length ≤ 63) {A : Around} (hA : Room 41 A) {s : Shared} {Z : Fz} {v : Value} {Q E : Value → Shared → Prop} (I : Inv C Z s) (hv : Rd Z v (lI S))
    (k : ∀ Z' s', Step C Z s Z' s' → Q (.bool true) s') : wpAny (model C.prog C.w) A (call (.ref f) [v]) Q E s := by
  have F : FN C 41 (.ref f) [is (lI S)] (is (.bool true)) := fn_def (n := 39) (body := bodyOf (stAt pw 88)) (sc := scOf (stAt pw 88)) (ρ := [some (is (lI S)), none, none, none, none, none, none, none, none, none, none, none, none, none, none, none, none, none, none, none, none, none, none, none, none])
    (nm := nmS) (xs := [sQ "script"]) K.toLawK.toColK.q hz rfl hc rfl rfl rfl rfl rfl (bnd1 fun _ => rfl) rfl (by decide +kernel) (by decide +kernel) (by decide +kernel) (by decide +kernel) rfl fun L X =>
    law_body1 rfl K H G S (by omega)
  have hsat : Sat Z [v] [is (lI S)] := .cons hv .nil
  refine F A s Z [v] Q E hA I hsat.length hsat.get fun u Z' s' x r => ?_
  obtain rfl := rdi r
  exact k Z' s' x
theorem rd_ints {P : Params} {h : Heap} {Z : Fz} : ∀ {vs : List Value} {ns : List Int}, WellAll P h vs (ns.map .int) → RdL Z vs (ns.map PV.int)
  | [], [], _ => .nil
  | [], _ :: _, x => by cases x
  | _ :: _, [], x => by cases x
  | v :: vs, n :: ns, x => by
    cases x with
    | cons a b => cases a; exact .cons (.int _ _) (rd_ints b)
theorem len_of {ns : List Int} (h : PySem.Challenge.rw_ta0130_01.row.pre.holds [] { args := [.list (ns.map .int)] } = true) : ns.length ≤ 63 := by
  have e : PySem.Challenge.rw_ta0130_01.row.pre = .and (.not (.lt (.lit (.int 63)) (.len (.arg 0)))) (.lit (.bool true)) := rfl
  rw [e] at h
  w_cond h
  rename_i a b
  rw [List.length_map] at a
  exact Int.ofNat_le.mp (Int.not_lt.mp a)
theorem codeHd_at {h₀ h : Heap} {c p : Addr} (e : (match h₀.get? c with | some o => codeHdIn [(c, o)] c p | none => false) = true) (hk : ∀ b o, h₀.get? b = some o → h.get? b = some o) : isCodeTable h p := by
  split at e
  · rename_i o ho
    have x : CodeHd h₀ c p := by
      refine codeHd_of_K (K := [(c, o)]) (fun a x hx => ?_) e
      rw [List.lookup_cons] at hx
      split at hx
      · rename_i q
        have q := beq_iff_eq.mp q
        subst q; cases hx; exact ho
      · cases hx
    obtain ⟨o, vs, _, _, _, _, _, _, _, e1, e2, e3, e4, _⟩ := x
    exact ⟨c, o, vs, hk _ _ e1, e2, e3, e4⟩
  · cases e
def sees (w : World) (h : Heap) : Prop := ∃ s, (∀ b o, s.heap.get? b = some o → h.get? b = some o) ∧ looks s = hopes w
theorem law_walk {d : DefRec} (hn : d.name = sQ "law") : WalkO qV loose2 (XL qV []) sees PySem.Challenge.rw_ta0130_01.row.toRowW d [] fun f vs => PySem.call f vs := by
  intro w s₀ s₁ mg mb G Y a o pm cd doc dV kV ho hd hcd hD hmg hg args vals as hpre hlay hrd hwl hlo
  obtain ⟨s, hk, e⟩ := Y
  obtain ⟨e1, _, _, _, _, e6, _, _, _, _, _, _, e13, e14⟩ := looks_all e
  have mge : ∀ x, mg x = s.heap.nsMap mainGlobals x := fun x => by rw [Heap.Ns.eq_nsMap G.T.g]; exact nsMap_keep hk e6 x
  have t1 : s.heap.get? 195 = some (tabObj #[]) := congrArg (fun x => x.2.2.2) e13
  have t2 : s.heap.get? 202 = some (tabObj #[]) := congrArg (fun x => x.2.2.2) e14
  have K : Start w s.heap s₁.heap mg mb := ⟨hk, G.T.g, G.T.b, G.T.nolimit, G.T.builtins, G.T.bmain, mge, t1, t2⟩
  obtain ⟨kx, kd, kh, f, doc', pm', c', hf, hgl, hz, hcz⟩ := start_all K e
  have ha : a = f := by
    have := (mge d.name).symm.trans hmg
    rw [hn, hf] at this
    injection this with this; injection this with this; exact this.symm
  subst ha
  obtain ⟨hsh, hpr⟩ := pre_splitW hpre
  obtain ⟨dd, rr, rfl, hs1, hs2⟩ := hasAllW_cons hsh
  obtain rfl := hasAllW_nil hs2
  obtain ⟨xs, rfl, hit⟩ := hasW_list hs1
  obtain ⟨S, rfl⟩ := items_int hit
  have hS := len_of hpr
  obtain ⟨v, rfl, hv⟩ : ∃ v, vals = [v] ∧ Well w.params s₁.heap v (.list (S.map .int)) := by
    cases hwl with
    | cons x y => cases y; exact ⟨_, rfl, x⟩
  have I : Inv (cxOf w s₁.heap) (hid s₁.heap) s₁ := by
    refine ⟨Le.refl _, fun b o e => hid_le e, fun t ht => ?_, fun t ht => ?_⟩
    · rcases List.mem_cons.mp ht with rfl | ht
      · exact ⟨#[], hk _ _ t1, .inl rfl⟩
      · rcases List.mem_cons.mp ht with rfl | ht
        · exact ⟨#[], hk _ _ t2, .inl rfl⟩
        · cases ht
    · rcases List.mem_cons.mp ht with rfl | ht
      · exact if_pos (.inl rfl)
      · rcases List.mem_cons.mp ht with rfl | ht
        · exact if_pos (.inr rfl)
        · cases ht
  have hrv : Rd (hid s₁.heap) v (lI S) := by
    cases hv with
    | list hl hr =>
      refine .list (n := 0) (hid_of (fun q => ?_) (fun q => ?_) hl) (rd_ints hr)
      · subst q; rw [hk _ _ t1] at hl; cases hl
      · subst q; rw [hk _ _ t2] at hl; cases hl
  have c1 := codeHd_at (congrArg (fun x => x.2.2.1) e13) hk
  have c2 := codeHd_at (congrArg (fun x => x.2.2.1) e14) hk
  refine law_call (C := cxOf w s₁.heap) (A := callerA) kx kd kh hz hcz S hS ⟨by decide, by decide, rfl⟩ I hrv fun Z' s' st => ?_
  refine ⟨.inl ⟨.bool true, .bool true, [], rfl, fun cls => rfl, .bool true, by wrow_post, fun _ => ⟨List.nodup_nil, fun _ h => nomatch h⟩⟩, ⟨fun b o e => ?_, fun b o e => ?_⟩, st.rest.2.2, .of_eq (st.rest.1.trans hg)⟩
  · by_cases h1 : b = 195
    · subst h1
      obtain ⟨ps, hp, _⟩ := st.inv.tabs (195, _, _) (List.mem_cons_self ..)
      rw [hk _ _ t1] at e; cases e
      exact .inr (.inl ⟨c1, rfl, #[], ps, rfl, by rw [Array.empty_append]; exact hp⟩)
    · by_cases h2 : b = 202
      · subst h2
        obtain ⟨ps, hp, _⟩ := st.inv.tabs (202, _, _) (List.mem_cons_of_mem _ (List.mem_cons_self ..))
        rw [hk _ _ t2] at e; cases e
        exact .inr (.inl ⟨c2, rfl, #[], ps, rfl, by rw [Array.empty_append]; exact hp⟩)
      · refine .inl (st.keep b o e (fun z => z) fun t ht => ?_)
        rcases List.mem_cons.mp ht with rfl | ht
        · exact h1
        · rcases List.mem_cons.mp ht with rfl | ht
          · exact h2
          · cases ht
  · by_cases h1 : b = 195
    · subst h1
      obtain ⟨ps, hp, _⟩ := st.inv.tabs (195, _, _) (List.mem_cons_self ..)
      exact ⟨_, hp⟩
    · by_cases h2 : b = 202
      · subst h2
        obtain ⟨ps, hp, _⟩ := st.inv.tabs (202, _, _) (List.mem_cons_of_mem _ (List.mem_cons_self ..))
        exact ⟨_, hp⟩
      · refine ⟨o, st.keep b o e (fun z => z) fun t ht => ?_⟩
        rcases List.mem_cons.mp ht with rfl | ht
        · exact h1
        · rcases List.mem_cons.mp ht with rfl | ht
          · exact h2
          · cases ht
end Mine.Internal
open PySem PySem.W PyProof.Rows Mine.Internal
set_option maxHeartbeats 0
theorem PySem.Challenge.cw_ta0130_01_holds : PySem.Challenge.rw_ta0130_01.Holds := by
  w_on
  refine holds_law (l := PySem.Challenge.rw_ta0130_01) said0 fun said => ?_
  refine holds_open (q := qV) (loose := loose2) (Xt := fun s => xlAt qV [] s && recOk [] s) (XP := XL qV []) (Yf := looks) (Ya := hopes) (YP := sees) (N := 6570) left (fun w s e => ⟨s, fun _ _ e => e, e⟩) (fun w h h' x k => x.imp fun s x => ⟨fun b o e => k _ _ (x.1 b o e), x.2⟩) (fun s e => xl_of s (Bool.and_eq_true_iff.mp e).1) XL.keeps (by rfl) (by rfl) (by rfl) (fun s e => recFacts_of (Bool.and_eq_true_iff.mp e).2) (by rfl) (by first | assumption | decide +kernel) (by decide +kernel) ⟨rfl, rfl, rfl, rfl, rfl, by decide +kernel⟩ ?hw (law_walk rfl)
  w_witness2