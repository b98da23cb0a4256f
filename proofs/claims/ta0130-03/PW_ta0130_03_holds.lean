import PyProof.Rows.All
import Wide.All
import OpenK.AllK
import Wide.FinOn
import Flt.RightMore
import Flt.Calls
import KE.KNest
import PyProof.StrOps2
import KE.KIntText
import PyProof.Rows.Chain
import PyProof.SeqRoads2
import PySem.Challenge.RW_ta0130_03
set_option Elab.async false
set_option maxRecDepth 100000
set_option maxHeartbeats 8000000
set_option linter.unusedVariables false
set_option linter.unusedSimpArgs false
set_option compiler.extract_closed false
namespace Mine.Internal
open PySem PySem.W PyProof.Rows
open PySem.Str renaming ofString → sQ
section
noncomputable abbrev Fz := Addr → Option Obj
noncomputable def Le (Z Z' : Fz) : Prop := ∀ b o, Z b = some o → Z' b = some o
theorem Le.refl (Z : Fz) : Le Z Z := fun _ _ e => e
theorem Le.trans {a b c : Fz} (x : Le a b) (y : Le b c) : Le a c := fun _ _ e => y _ _ (x _ _ e)
inductive PV where
  | none
  | bool (b : Bool)
  | int (i : Int)
  | flt (x : UInt64)
  | str (s : Str)
  | list (l : List PV)
  | tup (l : List PV)
mutual
inductive Rd (Z : Fz) : Value → PV → Prop where
  | none : Rd Z .none .none
  | bool (b : Bool) : Rd Z (.bool b) (.bool b)
  | int (i : Int) (t : Tok) : Rd Z (.int i t) (.int i)
  | flt (x : UInt64) (t : Tok) : Rd Z (.float x t) (.flt x)
  | str (x : Str) (t : Tok) : Rd Z (.str x t) (.str x)
  | list {a : Addr} {n : Nat} {vs : List Value} {ds : List PV} (h : Z a = some { cls := .type "list", data := .seq vs.toArray n }) (r : RdL Z vs ds) : Rd Z (.ref a) (.list ds)
  | tup {a : Addr} {n : Nat} {vs : List Value} {ds : List PV} (h : Z a = some { cls := .type "tuple", data := .seq vs.toArray n }) (r : RdL Z vs ds) : Rd Z (.ref a) (.tup ds)
inductive RdL (Z : Fz) : List Value → List PV → Prop where
  | nil : RdL Z [] []
  | cons {v : Value} {d : PV} {vs : List Value} {ds : List PV} (h : Rd Z v d) (r : RdL Z vs ds) : RdL Z (v :: vs) (d :: ds)
end
noncomputable def RdI (Z : Fz) (v : Value) : PV → Prop
  | .none => v = .none
  | .bool b => v = .bool b
  | .int i => ∃ t, v = .int i t
  | .flt x => ∃ t, v = .float x t
  | .str x => ∃ t, v = .str x t
  | .list l => ∃ a n vs, v = .ref a ∧ Z a = some { cls := .type "list", data := .seq (List.toArray vs) n } ∧ RdL Z vs l
  | .tup l => ∃ a n vs, v = .ref a ∧ Z a = some { cls := .type "tuple", data := .seq (List.toArray vs) n } ∧ RdL Z vs l
theorem rdi {Z : Fz} {v : Value} {d : PV} (h : Rd Z v d) : RdI Z v d := by
  cases h with
  | none => exact rfl
  | bool b => exact rfl
  | int i t => exact ⟨t, rfl⟩
  | flt x t => exact ⟨t, rfl⟩
  | str x t => exact ⟨t, rfl⟩
  | list h r => exact ⟨_, _, _, rfl, h, r⟩
  | tup h r => exact ⟨_, _, _, rfl, h, r⟩
noncomputable def RdLI (Z : Fz) (vs : List Value) : List PV → Prop
  | [] => vs = []
  | d :: ds => ∃ v r, vs = v :: r ∧ Rd Z v d ∧ RdL Z r ds
theorem rdli {Z : Fz} {vs : List Value} {ds : List PV} (h : RdL Z vs ds) : RdLI Z vs ds := by
  cases h with
  | nil => exact rfl
  | cons h r => exact ⟨_, _, rfl, h, r⟩
theorem Rd.le {Z Z' : Fz} (k : Le Z Z') {v : Value} {d : PV} (h : Rd Z v d) : Rd Z' v d :=
  Rd.rec (motive_1 := fun v d _ => Rd Z' v d) (motive_2 := fun v d _ => RdL Z' v d) .none .bool .int .flt .str (fun h _ r => .list (k _ _ h) r) (fun h _ r => .tup (k _ _ h) r) .nil (fun _ _ h r => .cons h r) h
theorem RdL.le {Z Z' : Fz} (k : Le Z Z') {v : List Value} {d : List PV} (h : RdL Z v d) : RdL Z' v d :=
  RdL.rec (motive_1 := fun v d _ => Rd Z' v d) (motive_2 := fun v d _ => RdL Z' v d) .none .bool .int .flt .str (fun h _ r => .list (k _ _ h) r) (fun h _ r => .tup (k _ _ h) r) .nil (fun _ _ h r => .cons h r) h
theorem RdL.length {Z : Fz} {v : List Value} {d : List PV} (h : RdL Z v d) : v.length = d.length := by
  induction d generalizing v with
  | nil => exact congrArg List.length (rdli h)
  | cons d ds ih =>
    obtain ⟨x, r, rfl, _, h⟩ := rdli h
    exact congrArg (· + 1) (ih h)
theorem RdL.append {Z : Fz} {v v' : List Value} {d d' : List PV} (h : RdL Z v d) (y : RdL Z v' d') : RdL Z (v ++ v') (d ++ d') := by
  induction d generalizing v with
  | nil => have e : v = [] := rdli h; subst e; exact y
  | cons d ds ih =>
    obtain ⟨x, r, rfl, hx, h⟩ := rdli h
    exact .cons hx (ih h)
theorem RdL.get {Z : Fz} {v : List Value} {d : List PV} (h : RdL Z v d) {i : Nat} {x : PV} (e : d[i]? = some x) : ∃ u, v[i]? = some u ∧ Rd Z u x := by
  induction d generalizing v i with
  | nil => cases e
  | cons d ds ih =>
    obtain ⟨y, r, rfl, hx, h⟩ := rdli h
    cases i with
    | zero => cases e; exact ⟨_, rfl, hx⟩
    | succ i => exact ih h e
structure Cx where
  prog : Program
  w : World
  Z0 : Fz
  tabs : List (Addr × Pos × Str)
noncomputable def CodeIn (Z : Fz) (c : Addr) (q : Str) : Prop := ∃ o vs t, Z c = some o ∧ o.data = .fields vs ∧ vs[1]? = some (.str q t)
theorem CodeIn.le {Z Z' : Fz} (k : Le Z Z') {c : Addr} {q : Str} (x : CodeIn Z c q) : CodeIn Z' c q := let ⟨o, vs, t, e, r⟩ := x; ⟨o, vs, t, k _ _ e, r⟩
noncomputable def TabOk (C : Cx) (Z : Fz) (h : Heap) : Prop := ∀ t ∈ C.tabs, ∃ ps, h.get? t.1 = some (tabObj ps) ∧ (ps = #[] ∨ ∃ c', ps = #[rawInt t.2.1.line, rawInt t.2.1.col, .ref c'] ∧ CodeIn Z c' t.2.2)
structure Inv (C : Cx) (Z : Fz) (s : Shared) : Prop where
  base : Le C.Z0 Z
  heap : ∀ b o, Z b = some o → s.heap.get? b = some o
  tabs : TabOk C Z s.heap
  off : ∀ t ∈ C.tabs, Z t.1 = none
structure StepX (C : Cx) (X : Addr → Prop) (Z : Fz) (s : Shared) (Z' : Fz) (s' : Shared) : Prop where
  le : Le Z Z'
  new : ∀ b o, Z' b = some o → Z b = some o ∨ s.heap.get? b = none ∨ X b
  keep : ∀ b o, s.heap.get? b = some o → ¬ X b → (∀ t ∈ C.tabs, b ≠ t.1) → s'.heap.get? b = some o
  rest : s'.gens = s.gens ∧ s'.drawn = s.drawn ∧ s'.os = s.os
  inv : Inv C Z' s'
noncomputable abbrev No : Addr → Prop := fun _ => False
noncomputable abbrev Step (C : Cx) := StepX C No
section
variable {C : Cx} {X Y : Addr → Prop} {Z Z' Z'' : Fz} {s s' s'' : Shared}
theorem StepX.refl (I : Inv C Z s) : StepX C X Z s Z s :=
  ⟨Le.refl Z, fun _ _ e => .inl e, fun _ _ e _ _ => e, ⟨rfl, rfl, rfl⟩, I⟩
theorem StepX.gone (x : StepX C X Z s Z' s') {b : Addr} (h : s'.heap.get? b = none) : s.heap.get? b = none ∨ X b := by
  cases e : s.heap.get? b with
  | none => exact .inl rfl
  | some o =>
    by_cases hX : X b
    · exact .inr hX
    · have ht : ∀ t ∈ C.tabs, b ≠ t.1 := fun t ht q => by
        obtain ⟨ps, e', _⟩ := x.inv.tabs t ht
        rw [← q, h] at e'; cases e'
      rw [x.keep b o e hX ht] at h; cases h
theorem StepX.trans (x : StepX C X Z s Z' s') (y : StepX C X Z' s' Z'' s'') : StepX C X Z s Z'' s'' where
  le := x.le.trans y.le
  new := fun b o e => by
    rcases y.new b o e with h | h | h
    · exact x.new b o h
    · exact .inr (x.gone h)
    · exact .inr (.inr h)
  keep := fun b o e hX ht => y.keep b o (x.keep b o e hX ht) hX ht
  rest := ⟨y.rest.1.trans x.rest.1, y.rest.2.1.trans x.rest.2.1, y.rest.2.2.trans x.rest.2.2⟩
  inv := y.inv
theorem StepX.mono (x : StepX C X Z s Z' s') (h : ∀ b, X b → Y b) : StepX C Y Z s Z' s' :=
  ⟨x.le, fun b o e => (x.new b o e).imp id (Or.imp id (h b)), fun b o e hY ht => x.keep b o e (fun q => hY (h b q)) ht, x.rest, x.inv⟩
theorem Step.to (x : Step C Z s Z' s') : StepX C X Z s Z' s' := x.mono fun _ h => h.elim
theorem StepX.hide (x : StepX C X Z s Z' s') (h : ∀ b, X b → s.heap.get? b = none) : Step C Z s Z' s' :=
  ⟨x.le, fun b o e => (x.new b o e).elim .inl fun q => q.elim (fun q => .inr (.inl q)) fun q => .inr (.inl (h b q)),
   fun b o e _ ht => x.keep b o e (fun q => by rw [h b q] at e; cases e) ht, x.rest, x.inv⟩
theorem Inv.toks (I : Inv C Z s) (t : Nat) : Inv C Z { s with toks := t } := ⟨I.base, I.heap, I.tabs, I.off⟩
theorem Step.toks (I : Inv C Z s) (t : Nat) : StepX C X Z s Z { s with toks := t } :=
  ⟨Le.refl Z, fun _ _ e => .inl e, fun _ _ e _ _ => e, ⟨rfl, rfl, rfl⟩, I.toks t⟩
theorem TabOk.keeps {Z Z' : Fz} {h h' : Heap} (x : TabOk C Z h) (kz : Le Z Z') (k : ∀ t ∈ C.tabs, ∀ o, h.get? t.1 = some o → h'.get? t.1 = some o) : TabOk C Z' h' := fun t ht => by
  obtain ⟨ps, e, r⟩ := x t ht
  exact ⟨ps, k t ht _ e, r.imp id fun ⟨c, e1, e2⟩ => ⟨c, e1, e2.le kz⟩⟩
theorem StepX.keeps (I : Inv C Z s) {h' : Heap} {t : Nat} (k : ∀ b o, s.heap.get? b = some o → h'.get? b = some o) :
    StepX C X Z s Z { s with heap := h', toks := t } :=
  ⟨Le.refl Z, fun _ _ e => .inl e, fun b o e _ _ => k b o e, ⟨rfl, rfl, rfl⟩, ⟨I.base, fun b o e => k b o (I.heap b o e), I.tabs.keeps (Le.refl Z) fun t _ o e => k _ o e, I.off⟩⟩
noncomputable def put (Z : Fz) (a : Addr) (o : Obj) : Fz := fun b => if b = a then some o else Z b
theorem put_self {a : Addr} {o : Obj} : put Z a o a = some o := if_pos rfl
theorem put_ne {a b : Addr} {o : Obj} (h : b ≠ a) : put Z a o b = Z b := if_neg h
theorem get?_above {h : Heap} {b : Addr} (hb : h.objs.size ≤ b) : h.get? b = none := by
  cases e : h.get? b with
  | none => rfl
  | some o => exact absurd (Heap.lt_size e) (Nat.not_lt.mpr hb)
theorem Inv.fresh (I : Inv C Z s) {b : Addr} (h : s.heap.get? b = none) : Z b = none := by
  cases e : Z b with
  | none => rfl
  | some o => rw [I.heap b o e] at h; cases h
theorem le_put {a : Addr} {o : Obj} (h : Z a = none) : Le Z (put Z a o) := fun b x e => by
  by_cases q : b = a
  · rw [q, h] at e; cases e
  · rw [put_ne q]; exact e
theorem StepX.alloc (I : Inv C Z s) {o : Obj} {t : Nat} (hf : o.isFreed = false) :
    StepX C X Z s (put Z s.heap.objs.size o) { s with heap := s.heap.push o, toks := t } := by
  have hz : Z s.heap.objs.size = none := I.fresh (get?_above (Nat.le_refl _))
  refine ⟨le_put hz, fun b x e => ?_, fun b x e _ _ => Heap.get?_push_of_some _ e, ⟨rfl, rfl, rfl⟩, ⟨I.base.trans (le_put hz), fun b x e => ?_, I.tabs.keeps (le_put hz) fun t _ x e => Heap.get?_push_of_some _ e, fun t ht => ?_⟩⟩
  · by_cases q : b = s.heap.objs.size
    · exact .inr (.inl (get?_above (Nat.le_of_eq q.symm)))
    · rw [put_ne q] at e; exact .inl e
  · by_cases q : b = s.heap.objs.size
    · subst q; rw [put_self] at e; cases e; exact Heap.get?_push_size _ hf
    · rw [put_ne q] at e; exact Heap.get?_push_of_some _ (I.heap b x e)
  · obtain ⟨ps, e, _⟩ := I.tabs t ht
    rw [put_ne (Nat.ne_of_lt (Heap.lt_size e))]; exact I.off t ht
theorem StepX.push (I : Inv C Z s) {o : Obj} {t : Nat} : StepX C X Z s Z { s with heap := s.heap.push o, toks := t } :=
  .keeps I fun _ _ e => Heap.get?_push_of_some _ e
theorem StepX.writes (I : Inv C Z s) {W : Addr → Prop} {h' : Heap} {t : Nat} (hX : ∀ b, W b → X b) (hs : ∀ b o, ¬ W b → s.heap.get? b = some o → h'.get? b = some o) (hZ : ∀ b, W b → Z b = none) (hne : ∀ b, W b → ∀ t ∈ C.tabs, b ≠ t.1) :
    StepX C X Z s Z { s with heap := h', toks := t } :=
  ⟨Le.refl Z, fun _ _ e => .inl e, fun b o e hb _ => hs b o (fun q => hb (hX b q)) e, ⟨rfl, rfl, rfl⟩,
   ⟨I.base, fun b o e => hs b o (fun q => by rw [hZ b q] at e; cases e) (I.heap b o e), I.tabs.keeps (Le.refl Z) fun t ht o e => hs _ o (fun q => hne _ q t ht rfl) e, I.off⟩⟩
theorem StepX.write (I : Inv C Z s) {a : Addr} {h' : Heap} {t : Nat} (hX : X a) (hs : Heap.SameBut a s.heap h') (hZ : Z a = none) (hne : ∀ t ∈ C.tabs, a ≠ t.1) : StepX C X Z s Z { s with heap := h', toks := t } :=
  .writes I (W := (· = a)) (fun b q => q ▸ hX) (fun b o q e => hs.extBut b o q e) (fun b q => q ▸ hZ) (fun b q => q ▸ hne)
theorem StepX.freeze (I : Inv C Z s) {a : Addr} {o : Obj} (hX : X a) (hZ : Z a = none) (ha : s.heap.get? a = some o) (hne : ∀ t ∈ C.tabs, a ≠ t.1) : StepX C X Z s (put Z a o) s := by
  refine ⟨le_put hZ, fun b x e => ?_, fun b x e _ _ => e, ⟨rfl, rfl, rfl⟩, ⟨I.base.trans (le_put hZ), fun b x e => ?_, I.tabs.keeps (le_put hZ) fun t _ o e => e, fun t ht => ?_⟩⟩
  · by_cases q : b = a
    · exact .inr (.inr (q ▸ hX))
    · rw [put_ne q] at e; exact .inl e
  · by_cases q : b = a
    · subst q; rw [put_self] at e; cases e; exact ha
    · rw [put_ne q] at e; exact I.heap b x e
  · rw [put_ne fun q => hne t ht q.symm]; exact I.off t ht
end
structure Room (n : Nat) (A : Around) : Prop where
  depth : A.depth + n ≤ 900
  units : A.units + 8 * n ≤ 9000
  handled : A.handled = none
theorem Room.le {n m : Nat} {A : Around} (x : Room n A) (h : m ≤ n) : Room m A := ⟨by have := x.depth; lia, by have := x.units; lia, x.handled⟩
end
section
noncomputable def stAt (p : Program) (i : Nat) : Stmt := p.main.body.getD i (.Pass default)
noncomputable def fdOf (st : Stmt) (qual : Str) (doc pm cd : Value) : FuncData := match st with
  | .FunctionDef name args body _ _ _ scope _ _ _ => { name, qualname := qual, params := args, body := .stmts body, scope, globals := mainGlobals, closure := [], defaults := .none, kwdefaults := .none, doc, pyModule := pm, code := cd, builtins := builtinsNs }
  | _ => default
noncomputable abbrev pw : Program := PySem.Challenge.pw_ta0130_03
noncomputable def tokI : List (Str × Int) := ([("!", 54), ("!=", 28), ("%", 24), ("%=", 40), ("&", 19), ("&=", 41), ("(", 7), (")", 8), ("*", 16), ("**", 35), ("**=", 46), ("*=", 38), ("+", 14), ("+=", 36), (",", 12), ("-", 15), ("-=", 37), ("->", 51), (".", 23), ("...", 52), ("/", 17), ("//", 47), ("//=", 48), ("/=", 39), (":", 11), (":=", 53), (";", 13), ("<", 20), ("<<", 33), ("<<=", 44), ("<=", 29), ("=", 22), ("==", 27), (">", 21), (">=", 30), (">>", 34), (">>=", 45), ("@", 49), ("@=", 50), ("[", 9), ("]", 10), ("^", 32), ("^=", 43), ("{", 25), ("|", 18), ("|=", 42), ("}", 26), ("~", 31)] : List (String × Int)).map fun p => (sQ p.1, p.2)
noncomputable def clsBody : Stmt → List Stmt
  | .ClassDef _ _ _ b .. => b
  | _ => []
noncomputable def mthSt (p : Program) (i k : Nat) : Stmt := (clsBody (stAt p i)).getD k (.Pass default)
noncomputable def mFd (st : Stmt) (qual : Str) (dv doc pm cd : Value) : FuncData := { fdOf st qual doc pm cd with defaults := dv }
noncomputable def codeN : Array Nat := #[14, 10, 4, 1, 1, 22, 0, 31, 16, 127, 0, 13, 7, 22, 0, 31, 16, 127, 0, 1]
noncomputable def codeV : Array Nat := #[14, 14, 4, 1, 1, 9, 4294966783, 0, 0, 2147483648, 0, 0, 0, 0, 0, 13, 11, 9, 4294966783, 0, 0, 2147483648, 0, 0, 0, 0, 0, 1]
end
section
noncomputable def eraseFd (fd : FuncData) : FuncData := { fd with doc := .none, pyModule := .none, code := .none }
noncomputable def refA : Option Value → Option Addr
  | some (.ref a) => some a
  | _ => none
noncomputable def strA : Option Value → Option Str
  | some (.str q _) => some q
  | _ => none
noncomputable def funcA : Data → Option FuncData
  | .func fd => some fd
  | _ => none
noncomputable def fldA : Data → Option (Array Value)
  | .fields vs => some vs
  | _ => none
noncomputable def seqA : Data → Option (Array Value)
  | .seq vs _ => some vs
  | _ => none
noncomputable def dictA : Data → Option (Array DictEntry)
  | .dict es _ => some es
  | _ => none
noncomputable def codeQ (h : Heap) (v : Value) : Option Str := (refA (some v)).bind fun c => (h.get? c).bind fun o => (fldA o.data).bind fun vs => strA vs[1]?
noncomputable def fnSeen (h : Heap) (f : Addr) : Option (Obj × Option Str) := (h.get? f).bind fun o => (funcA o.data).map fun fd => ({ o with data := .func (eraseFd fd) }, codeQ h fd.code)
noncomputable def defSeen (h : Heap) (x : Str) : Option (Obj × Option Str) := (refA (h.nsMap mainGlobals x)).bind (fnSeen h)
noncomputable def defGood (i : Nat) (x : Str) : Option (Obj × Option Str) := some ({ cls := .type "function", data := .func (fdOf (stAt pw i) x .none .none .none) }, some x)
noncomputable def mthGood (k : Nat) (x : Str) (dv : Value) : Option (Obj × Option Str) := some ({ cls := .type "function", data := .func (mFd (mthSt pw 77 k) x dv .none .none .none) }, some x)
noncomputable def pvOf : Option Value → PV
  | some (.int i _) => .int i
  | some (.float x _) => .flt x
  | _ => .none
noncomputable def tokSeen (h : Heap) (x : Str) : Option (Value × Option Addr × Nat × Bool × List (Int × Option Str × PV)) :=
  (refA (h.nsMap mainGlobals x)).bind fun a => (h.get? a).bind fun o => (dictA o.data).map fun es => (o.cls, o.dict, o.slots.size, a == sysModules, es.toList.map fun e => (e.hash, strA (some e.key), pvOf (some e.val)))
noncomputable def tokGood (w : World) : Option (Value × Option Addr × Nat × Bool × List (Int × Option Str × PV)) := some (.type "dict", none, 0, false, tokI.map fun p => (hashStr w p.1, some p.1, .int p.2))
noncomputable def clsSeen (h : Heap) (a : Addr) : Option (Obj × Nat × Option (Option Value) × Option (Option Value) × Option (Option Value) × Option (Option Value)) :=
  (h.get? a).map fun o => ({ o with slots := #[] }, o.slots.size, o.slots[0]?, o.slots[1]?, o.slots[4]?, o.slots[5]?)
noncomputable def clsGood : Option (Obj × Nat × Option (Option Value) × Option (Option Value) × Option (Option Value) × Option (Option Value)) :=
  some ({ cls := .type "type", dict := none, data := .cls { name := sQ "Headers", bases := [.type "object"], mro := [.ref 272, .type "object"], ns := 271, qualname := sQ "Headers", hasDict := true, slotNames := [], subclasses := [], abstract := false, collection := none, hasDel := false }, slots := #[] },
   6, some none, some none, some (some (.builtin "object.__new__")), some (some (.bool true)))
noncomputable def patSeen (h : Heap) (x : Str) : Option (Value × Option Addr × Nat × Nat × Array Nat) :=
  (refA (h.nsMap mainGlobals x)).bind fun a => (h.get? a).bind fun o => (fldA o.data).bind fun fs => (refA (some (fs.getD 5 .none))).bind fun l => (h.get? l).bind fun o' => (seqA o'.data).map fun items =>
    (o.cls, o.dict, Builtin.Re.reRawNat (fs.getD 6 .none), Builtin.Re.reRawNat (fs.getD 2 .none), (items.map Builtin.Re.reRawOf).map (·.toNat))
noncomputable def nestSeen (h : Heap) (x : Str) (f c p : Addr) : Option Value × Option Value × Bool × Option Obj :=
  (h.nsMap mainGlobals x, ((h.get? f).bind fun o => (funcA o.data).map (·.code)), (match h.get? c with | some o => codeHdIn [(c, o)] c p | none => false), h.get? p)
noncomputable def nestGood (f c : Addr) : Option Value × Option Value × Bool × Option Obj := (some (.ref f), some (.ref c), true, some (tabObj #[]))
noncomputable def defL : List (Nat × Str) := [(13, sQ "_div2n1n"), (15, sQ "_int2digits"), (16, sQ "_digits2int"), (17, sQ "_divmod_pos"), (18, sQ "int_divmod"), (6, sQ "rgb_to_hls"), (7, sQ "hls_to_rgb"), (8, sQ "_v"), (9, sQ "rgb_to_hsv"), (10, sQ "hsv_to_rgb"), (71, sQ "ISTERMINAL"), (72, sQ "ISNONTERMINAL"), (73, sQ "ISEOF"), (79, sQ "_law_row"), (80, sQ "_law_done"), (81, sQ "_law_short"), (82, sQ "_law_told"), (83, sQ "law")]
noncomputable def valL : List (Str × PV) := [(sQ "_DIV_LIMIT", .int 4000), (sQ "ONE_THIRD", .flt 4599676419421066581), (sQ "ONE_SIXTH", .flt 4595172819793696085), (sQ "TWO_THIRD", .flt 4604180019048437077), (sQ "NT_OFFSET", .int 256), (sQ "ENDMARKER", .int 0)]
noncomputable def offL : List Str := [sQ "max", sQ "min", sQ "int", sQ "range", sQ "zip", sQ "round", sQ "len", sQ "ord", sQ "sum", sQ "enumerate", sQ "str", sQ "list", sQ "type", sQ "divmod", sQ "reversed", sQ "ZeroDivisionError"]
noncomputable def nsL : List Str := ["__getattribute__", "__getattr__", "__setattr__", sQ "_headers", "__init__", sQ "_convert_string_type", sQ "values", sQ "get", sQ "setdefault"]
noncomputable def mthL : List (Nat × Addr × Str × Value) := [(0, 164, sQ "Headers.__init__", .ref 157), (1, 171, sQ "Headers._convert_string_type", .none), (10, 229, sQ "Headers.values", .none), (8, 219, sQ "Headers.get", .ref 212), (15, 262, sQ "Headers.setdefault", .none)]
noncomputable def looks (s : Shared) :=
  let h := s.heap
  (defL.map (fun p => defSeen h p.2), valL.map (fun p => pvOf (h.nsMap mainGlobals p.1)), offL.map (fun x => (h.nsMap mainGlobals x).isNone), tokSeen h (sQ "EXACT_TOKEN_TYPES"),
   clsSeen h 272, h.nsMap mainGlobals (sQ "Headers"), h.isNs 271, nsL.map (h.nsMap 271), mthL.map (fun p => fnSeen h p.2.1), (h.get? 157, h.get? 212),
   patSeen h (sQ "_name_disallowed_re"), patSeen h (sQ "_value_disallowed_re"), nestSeen h (sQ "_int2digits") 94 93 89, nestSeen h (sQ "_digits2int") 101 100 96)
noncomputable def hopes (w : World) :=
  (defL.map (fun p => defGood p.1 p.2), valL.map (fun p => p.2), offL.map (fun _ => true), tokGood w,
   clsGood, some (Value.ref 272), true, ([none, none, none, none, some (.ref 164), some (.ref 171), some (.ref 229), some (.ref 219), some (.ref 262)] : List (Option Value)), mthL.map (fun p => mthGood p.1 p.2.2.1 p.2.2.2), (some ({ cls := .type "tuple", data := .seq #[.none] 0 } : Obj), some ({ cls := .type "tuple", data := .seq #[.none] 0 } : Obj)),
   some (Value.type "re.Pattern", (none : Option Addr), 0, 0, codeN), some (Value.type "re.Pattern", (none : Option Addr), 0, 0, codeV), nestGood 94 93, nestGood 101 100)
noncomputable def qV : Program := view pw [0, 83]
noncomputable def loose2 : List Str := pw.boundNames.filter fun n => !(n == sQ "law" || n == sQ "_sre")
end
section
set_option maxHeartbeats 0
open PySem.W.X
theorem said0 : PySem.Challenge.rw_ta0130_03.wellSaid = true := by kernel_rfl
theorem left_f (w : World) : (openEnds treeTable pw (w.withFollow "special-get-raises" false) 6212).map (fun s => (openSeen qV loose2 (importedModules pw.main.body) (fun s => xlAt qV [] s && recOk [] s) true s, looks s)) = some (openGood qV loose2, hopes (w.withFollow "special-get-raises" false)) := by
  unfold openEnds fencedOpening topFrom qV loose2 pw namesBound laidKept xlAt
  rw [PySem.W.Fast.te10274390034422433532, PySem.W.Fast.te14289696077712309145, PySem.W.Fast.te14082659384304107361, PySem.W.Fast.te14364793385576792824, PySem.W.Fast.te1435165496053646825, PySem.W.Fast.te4187177175401517315, PySem.W.Fast.te18344453789297297638, PySem.W.Fast.te5923862056798008813]
  kernel_rfl
theorem left_t (w : World) : (openEnds treeTable pw (w.withFollow "special-get-raises" true) 6212).map (fun s => (openSeen qV loose2 (importedModules pw.main.body) (fun s => xlAt qV [] s && recOk [] s) true s, looks s)) = some (openGood qV loose2, hopes (w.withFollow "special-get-raises" true)) := by
  unfold openEnds fencedOpening topFrom qV loose2 pw namesBound laidKept xlAt
  rw [PySem.W.Fast.te10274390034422433532, PySem.W.Fast.te14289696077712309145, PySem.W.Fast.te14082659384304107361, PySem.W.Fast.te14364793385576792824, PySem.W.Fast.te1435165496053646825, PySem.W.Fast.te4187177175401517315, PySem.W.Fast.te18344453789297297638, PySem.W.Fast.te5923862056798008813]
  kernel_rfl
theorem left : LeftO pw qV loose2 (fun s => xlAt qV [] s && recOk [] s) looks hopes 6212 := fun w => byRow2 "special-get-raises" (P := fun w => (openEnds treeTable pw w 6212).map (fun s => (openSeen qV loose2 (importedModules pw.main.body) (fun s => xlAt qV [] s && recOk [] s) true s, looks s)) = some (openGood qV loose2, hopes w)) left_f left_t w
end
section
structure Asn (C : Cx) where
  at_ : Fz → Heap → Prop
  stable : ∀ {Z : Fz} {s : Shared} {Z' : Fz} {s' : Shared}, Inv C Z s → at_ Z s.heap → Step C Z s Z' s' → at_ Z' s'.heap
structure Vp where
  at_ : Fz → Value → Prop
  mono : ∀ {Z Z' : Fz} {v : Value}, Le Z Z' → at_ Z v → at_ Z' v
noncomputable def is (d : PV) : Vp := ⟨fun Z v => Rd Z v d, fun k h => h.le k⟩
noncomputable def isv (v : Value) : Vp := ⟨fun _ u => u = v, fun _ h => h⟩
noncomputable def EV (C : Cx) (n : Nat) (Φ : Asn C) (t : Sem Value) (P : Vp) : Prop :=
  ∀ (A : Around) (s : Shared) (Z : Fz) (Q : Value → Shared → Prop) (E : Value → Shared → Prop), Room n A → Inv C Z s → Φ.at_ Z s.heap →
    (∀ v Z' s', Step C Z s Z' s' → P.at_ Z' v → Q v s') → wpAny (model C.prog C.w) A t Q E s
noncomputable def TV (C : Cx) (n : Nat) (Φ : Asn C) (t : Sem Bool) (b : Bool) : Prop :=
  ∀ (A : Around) (s : Shared) (Z : Fz) (Q : Bool → Shared → Prop) (E : Value → Shared → Prop), Room n A → Inv C Z s → Φ.at_ Z s.heap →
    (∀ Z' s', Step C Z s Z' s' → Q b s') → wpAny (model C.prog C.w) A t Q E s
noncomputable def OP1 (C : Cx) (n : Nat) (f : Value → Sem Value) (P R : Vp) : Prop :=
  ∀ (A : Around) (s : Shared) (Z : Fz) (a : Value) (Q : Value → Shared → Prop) (E : Value → Shared → Prop), Room n A → Inv C Z s → P.at_ Z a →
    (∀ v Z' s', Step C Z s Z' s' → R.at_ Z' v → Q v s') → wpAny (model C.prog C.w) A (f a) Q E s
noncomputable def OP2 (C : Cx) (n : Nat) (f : Value → Value → Sem Value) (P P' R : Vp) : Prop :=
  ∀ (A : Around) (s : Shared) (Z : Fz) (a b : Value) (Q : Value → Shared → Prop) (E : Value → Shared → Prop), Room n A → Inv C Z s → P.at_ Z a → P'.at_ Z b →
    (∀ v Z' s', Step C Z s Z' s' → R.at_ Z' v → Q v s') → wpAny (model C.prog C.w) A (f a b) Q E s
section
variable {C : Cx} {n : Nat} {Φ : Asn C} {env : Env} {P P' R : Vp} {l r x : Expr} {pos : Pos}
theorem ev_bin {op : Operator} (hl : EV C n Φ (eval l env) P) (hr : EV C n Φ (eval r env) P') (ho : OP2 C n (binaryOp op) P P' R) :
    EV C n Φ (eval (.BinOp l op r pos) env) R := fun A s Z Q E hA I h k => by
  refine wpAny_BinOp (hl A s Z _ E hA I h fun a Z₁ s₁ x₁ pa => ?_)
  refine hr A s₁ Z₁ _ E hA x₁.inv (Φ.stable I h x₁) fun b Z₂ s₂ x₂ pb => ?_
  exact ho A s₂ Z₂ a b Q E hA x₂.inv (P.mono x₂.le pa) pb fun v Z₃ s₃ x₃ pv => k v Z₃ s₃ ((x₁.trans x₂).trans x₃) pv
theorem ev_un {op : UnaryOp} (hx : EV C n Φ (eval x env) P) (ho : OP1 C n (unaryOp op) P R) : EV C n Φ (eval (.UnaryOp op x pos) env) R := fun A s Z Q E hA I h k => by
  refine wpAny_UnaryOp (hx A s Z _ E hA I h fun a Z₁ s₁ x₁ pa => ?_)
  exact ho A s₁ Z₁ a Q E hA x₁.inv pa fun v Z₂ s₂ x₂ pv => k v Z₂ s₂ (x₁.trans x₂) pv
theorem ev_cmp {op : CmpOp} (hl : EV C n Φ (eval l env) P) (hr : EV C n Φ (eval r env) P') (ho : OP2 C n (compareOp op) P P' R) (hm : behindInMarks op r = false := by rfl) :
    EV C n Φ (eval (.Compare l [op] [r] pos) env) R := fun A s Z Q E hA I h k => by
  refine wpAny_Compare1 (hl A s Z _ E hA I h fun a Z₁ s₁ x₁ pa => ?_) hm
  refine hr A s₁ Z₁ _ E hA x₁.inv (Φ.stable I h x₁) fun b Z₂ s₂ x₂ pb => ?_
  exact ho A s₂ Z₂ a b Q E hA x₂.inv (P.mono x₂.le pa) pb fun v Z₃ s₃ x₃ pv => k v Z₃ s₃ ((x₁.trans x₂).trans x₃) pv
theorem tv_cmp {op : CmpOp} {b : Bool} {whole : Sem Value} (hl : EV C n Φ (eval l env) P) (hr : EV C n Φ (eval r env) P') (ho : OP2 C n (compareOp op) P P' (is (.bool b))) (hm : behindInMarks op r = false := by rfl) :
    TV C n Φ (isTrue (.Compare l [op] [r] pos) env whole) b := fun A s Z Q E hA I h k => by
  refine wpAny_isTrue_Compare1 (hl A s Z _ E hA I h fun a Z₁ s₁ x₁ pa => ?_) hm
  refine hr A s₁ Z₁ _ E hA x₁.inv (Φ.stable I h x₁) fun c Z₂ s₂ x₂ pb => ?_
  refine ho A s₂ Z₂ a c _ E hA x₂.inv (P.mono x₂.le pa) pb fun v Z₃ s₃ x₃ pv => ?_
  cases pv
  exact wpAny_truthy_bool (k Z₃ s₃ ((x₁.trans x₂).trans x₃))
theorem ev_ifexp {t b o : Expr} {c : Bool} (ht : TV C n Φ (isTrue t env (eval t env)) c) (hb : c = true → EV C n Φ (eval b env) R) (ho : c = false → EV C n Φ (eval o env) R) :
    EV C n Φ (eval (.IfExp t b o pos) env) R := fun A s Z Q E hA I h k => by
  refine wpAny_IfExp (ht A s Z _ E hA I h fun Z₁ s₁ x₁ => ?_)
  cases c with
  | true => exact hb rfl A s₁ Z₁ Q E hA x₁.inv (Φ.stable I h x₁) fun v Z₂ s₂ x₂ pv => k v Z₂ s₂ (x₁.trans x₂) pv
  | false => exact ho rfl A s₁ Z₁ Q E hA x₁.inv (Φ.stable I h x₁) fun v Z₂ s₂ x₂ pv => k v Z₂ s₂ (x₁.trans x₂) pv
theorem ev_int {i : Int} {k : Nat} : EV C n Φ (eval (.Constant (.int i) k pos) env) (is (.int i)) := fun A s Z Q E hA I h q =>
  wpAny_Constant_int (q _ Z _ (Step.toks I _) (.int i _))
theorem ev_flt {i : UInt64} {k : Nat} : EV C n Φ (eval (.Constant (.float i) k pos) env) (is (.flt i)) := fun A s Z Q E hA I h q =>
  wpAny_Constant_float (q _ Z _ (Step.toks I _) (.flt i _))
theorem ev_str {i : Str} {k : Nat} : EV C n Φ (eval (.Constant (.str i) k pos) env) (is (.str i)) := fun A s Z Q E hA I h q =>
  wpAny_Constant_str (q _ Z _ (Step.toks I _) (.str i _))
theorem ev_none {k : Nat} : EV C n Φ (eval (.Constant .none k pos) env) (is .none) := fun A s Z Q E hA I h q =>
  wpAny_Constant_none (q _ Z _ (StepX.refl I) .none)
theorem ev_bool {b : Bool} {k : Nat} : EV C n Φ (eval (.Constant (.bool b) k pos) env) (is (.bool b)) := fun A s Z Q E hA I h q =>
  wpAny_Constant_bool (q _ Z _ (StepX.refl I) (.bool b))
-- operations on ints
theorem op_add_int {a b : Int} : OP2 C n (binaryOp .Add) (is (.int a)) (is (.int b)) (is (.int (a + b))) := fun A s Z u v Q E hA I hu hv k => by
  cases hu; cases hv
  exact wpAny_add_int (k _ Z _ (Step.toks I _) (.int _ _))
theorem op_sub_int {a b : Int} : OP2 C n (binaryOp .Sub) (is (.int a)) (is (.int b)) (is (.int (a - b))) := fun A s Z u v Q E hA I hu hv k => by
  cases hu; cases hv
  exact PyProof.Rows.sub_int (k _ Z _ (Step.toks I _) (.int _ _))
theorem op_lt_int {a b : Int} : OP2 C n (compareOp .Lt) (is (.int a)) (is (.int b)) (is (.bool (decide (a < b)))) := fun A s Z u v Q E hA I hu hv k => by
  cases hu; cases hv
  exact wpAny_lt_int (k _ Z _ (StepX.refl I) (.bool _))
end
end
section
noncomputable abbrev PlainName (x : Str) : Prop := (x == ("__debug__" : Str)) = false ∧ (x == ("__classdict__" : Str)) = false
noncomputable def VarAt (env : Env) (h : Heap) (x : Str) (v : Value) : Prop :=
  PlainName x ∧ ((env.kindOf x = some .local ∧ ∃ m, h.Ns env.locals m ∧ m x = some v) ∨ ((env.kindOf x = some .cell ∨ env.kindOf x = some .free) ∧ ∃ c, env.cells.lookup x = some c ∧ h.IsCell c (some v)))
inductive Owned (Z : Fz) (h : Heap) (p : Addr × List PV) : Prop where
  | mk (z : Z p.1 = none) (vs : List Value) (n : Nat) (e : h.get? p.1 = some { cls := .type "list", data := .seq vs.toArray n }) (r : RdL Z vs p.2)
structure Held (env : Env) (ω : List (Addr × List PV)) (Z : Fz) (h : Heap) (b : Addr) (o : Obj) : Prop where
  z : Z b = none
  at_ : h.get? b = some o
  tab : ∀ ps, o ≠ tabObj ps
  loc : b ≠ env.locals
  cell : ∀ n c, env.cells.lookup n = some c → b ≠ c
  own : ∀ p ∈ ω, b ≠ p.1
noncomputable def Vars (env : Env) (Z : Fz) (h : Heap) (nm : List Str) (ρ : List (Option Vp)) : Prop := ∀ (i : Nat) (x : Str) (P : Vp), nm[i]? = some x → ρ[i]? = some (some P) → ∃ v, VarAt env h x v ∧ P.at_ Z v
theorem Vars.nil {env : Env} {Z : Fz} {h : Heap} : Vars env Z h [] [] := fun _ _ _ e => nomatch e
theorem Vars.un {env : Env} {Z : Fz} {h : Heap} {x : Str} {nm : List Str} {ρ : List (Option Vp)} (r : Vars env Z h nm ρ) : Vars env Z h (x :: nm) (none :: ρ) := fun i y P e1 e2 => by
  cases i with
  | zero => cases e2
  | succ i => exact r i y P e1 e2
theorem Vars.va {env : Env} {Z : Fz} {h : Heap} {x : Str} {P : Vp} {v : Value} {nm : List Str} {ρ : List (Option Vp)} (hv : VarAt env h x v) (hp : P.at_ Z v) (r : Vars env Z h nm ρ) : Vars env Z h (x :: nm) (some P :: ρ) := fun i y P' e1 e2 => by
  cases i with
  | zero => cases e1; cases e2; exact ⟨v, hv, hp⟩
  | succ i => exact r i y P' e1 e2
structure FSp (env : Env) (nm oc : List Str) (sc : List (Str × NameKind)) (X : Addr → Prop) (ρ : List (Option Vp)) (ω : List (Addr × List PV)) (κ : Addr → Option Obj) (Z : Fz) (h : Heap) : Prop where
  names : env.scope.names = sc
  gl : env.globals = mainGlobals
  bl : env.builtins = builtinsNs
  cellH : ∀ x ∈ oc, sc.lookup x = some .cell → (env.cells.lookup x).isSome = true
  fn : env.scope.kind = .function
  nodup : nm.Nodup
  apart : env.cells.Pairwise fun x y => x.2 ≠ y.2
  loc : ∃ m, h.Ns env.locals m
  locX : X env.locals
  locZ : Z env.locals = none
  cells : ∀ n c, env.cells.lookup n = some c → Z c = none ∧ ∃ v, h.IsCell c v
  cellX : ∀ n ∈ oc, ∀ c, env.cells.lookup n = some c → X c
  cof : ∀ a, h.get? a = none → X a
  vars : Vars env Z h nm ρ
  own : ∀ p ∈ ω, Owned Z h p
  ownX : ∀ p ∈ ω, X p.1
  ownN : (ω.map (·.1)).Nodup
  held : ∀ b o, κ b = some o → Held env ω Z h b o
  heldX : ∀ b o, κ b = some o → X b
section
variable {C : Cx} {X : Addr → Prop} {Z Z' : Fz} {s s' : Shared} {h h' : Heap}
theorem VarAt.keeps {env : Env} {x : Str} {v : Value} (y : VarAt env h x v) (kl : ∀ o, h.get? env.locals = some o → h'.get? env.locals = some o)
    (kc : ∀ c, env.cells.lookup x = some c → ∀ o, h.get? c = some o → h'.get? c = some o) : VarAt env h' x v := by
  obtain ⟨p, ⟨hk, m, hn, hm⟩ | ⟨hk, c, hc, hv⟩⟩ := y
  · exact ⟨p, .inl ⟨hk, m, hn.at' kl, hm⟩⟩
  · obtain ⟨o, e, d⟩ := hv
    exact ⟨p, .inr ⟨hk, c, hc, o, kc c hc o e, d⟩⟩
theorem Vars.keeps {env : Env} (kZ : Le Z Z') (kl : ∀ o, h.get? env.locals = some o → h'.get? env.locals = some o)
    (kc : ∀ n c, env.cells.lookup n = some c → ∀ o, h.get? c = some o → h'.get? c = some o) {nm : List Str} {ρ : List (Option Vp)} (H : Vars env Z h nm ρ) : Vars env Z' h' nm ρ := fun i x P e1 e2 =>
  let ⟨v, hv, hp⟩ := H i x P e1 e2
  ⟨v, hv.keeps kl (kc _), Vp.mono _ kZ hp⟩
theorem Inv.tab_fields (I : Inv C Z s) {b : Addr} {o : Obj} (e : s.heap.get? b = some o) (hd : ∀ ps, o ≠ tabObj ps) : ∀ t ∈ C.tabs, b ≠ t.1 := fun t ht q => by
  obtain ⟨ps, e', _⟩ := I.tabs t ht
  rw [← q, e] at e'; cases e'; exact hd ps rfl
theorem Inv.ns_notTab (I : Inv C Z s) {b : Addr} {m} (x : s.heap.Ns b m) : ∀ t ∈ C.tabs, b ≠ t.1 := by
  obtain ⟨o, es, ep, e, d, _⟩ := x
  exact I.tab_fields e fun ps q => by subst q; cases d
theorem Inv.cell_notTab (I : Inv C Z s) {b : Addr} {v} (x : s.heap.IsCell b v) : ∀ t ∈ C.tabs, b ≠ t.1 := by
  obtain ⟨o, e, d⟩ := x
  exact I.tab_fields e fun ps q => by subst q; cases d
theorem Owned.keeps {p : Addr × List PV} (x : Owned Z h p) (kZ : Le Z Z') (hz : Z' p.1 = none) (k : ∀ o, h.get? p.1 = some o → h'.get? p.1 = some o) : Owned Z' h' p := by
  obtain ⟨_, vs, n, e, r⟩ := x
  exact ⟨hz, vs, n, k _ e, RdL.le kZ r⟩
theorem StepX.stillNone (x : StepX C X Z s Z' s') {b : Addr} {o : Obj} (hz : Z b = none) (e : s.heap.get? b = some o) (hX : ¬ X b) : Z' b = none := by
  cases q : Z' b with
  | none => rfl
  | some o' =>
    rcases x.new b o' q with h | h | h
    · rw [hz] at h; cases h
    · rw [h] at e; cases e
    · exact absurd h hX
theorem FSp.step {env : Env} {nm oc : List Str} {sc : List (Str × NameKind)} {Y : Addr → Prop} {ρ : List (Option Vp)} {ω : List (Addr × List PV)} {κ : Addr → Option Obj} (I : Inv C Z s) (H : FSp env nm oc sc X ρ ω κ Z s.heap) (x : StepX C Y Z s Z' s')
    (hL : ¬ Y env.locals) (hC : ∀ n c, env.cells.lookup n = some c → ¬ Y c) (hO : ∀ p ∈ ω, ¬ Y p.1) (hK : ∀ b o, κ b = some o → ¬ Y b) (hY : ∀ b, Y b → X b) : FSp env nm oc sc X ρ ω κ Z' s'.heap := by
  have kl : ∀ o, s.heap.get? env.locals = some o → s'.heap.get? env.locals = some o := fun o e => by
    obtain ⟨m, hn⟩ := H.loc
    exact x.keep _ o e hL (I.ns_notTab hn)
  have kc : ∀ n c, env.cells.lookup n = some c → ∀ o, s.heap.get? c = some o → s'.heap.get? c = some o := fun n c hc o e => by
    obtain ⟨_, v, hv⟩ := H.cells n c hc
    exact x.keep _ o e (hC n c hc) (I.cell_notTab hv)
  refine ⟨H.names, H.gl, H.bl, H.cellH, H.fn, H.nodup, H.apart, ?_, H.locX, ?_, fun n c hc => ?_, H.cellX, fun a ha => (x.gone ha).elim (H.cof a) (hY a), H.vars.keeps x.le kl kc, fun p hp => ?_, H.ownX, H.ownN, fun b o e => ?_, H.heldX⟩
  · obtain ⟨m, hn⟩ := H.loc
    exact ⟨m, hn.at' kl⟩
  · obtain ⟨m, o, es, ep, e, _⟩ := H.loc
    exact x.stillNone H.locZ e hL
  · obtain ⟨hz, v, o, e, d⟩ := H.cells n c hc
    exact ⟨x.stillNone hz e (hC n c hc), v, o, kc n c hc o e, d⟩
  · obtain ⟨hz, vs, n, e, r⟩ := H.own p hp
    have hn : ∀ t ∈ C.tabs, p.1 ≠ t.1 := I.tab_fields e fun ps q => by cases q
    exact (H.own p hp).keeps x.le (x.stillNone hz e (hO p hp)) fun o e => x.keep _ o e (hO p hp) hn
  · obtain ⟨hz, ha, ht, hl, hc, hw⟩ := H.held b o e
    exact ⟨x.stillNone hz ha (hK b o e), x.keep _ _ ha (hK b o e) (I.tab_fields ha ht), ht, hl, hc, hw⟩
noncomputable def FS (C : Cx) (env : Env) (nm oc : List Str) (sc : List (Str × NameKind)) (X : Addr → Prop) (ρ : List (Option Vp)) (ω : List (Addr × List PV)) (κ : Addr → Option Obj) : Asn C :=
  ⟨FSp env nm oc sc X ρ ω κ, fun I H x => H.step I x (fun h => h) (fun _ _ _ h => h) (fun _ _ h => h) (fun _ _ _ h => h) fun _ h => h.elim⟩
inductive At : List Str → List (Option Vp) → Str → Vp → Prop where
  | here {x : Str} {nm : List Str} {P : Vp} {ρ : List (Option Vp)} : At (x :: nm) (some P :: ρ) x P
  | there {x y : Str} {nm : List Str} {P : Vp} {o : Option Vp} {ρ : List (Option Vp)} (r : At nm ρ x P) : At (y :: nm) (o :: ρ) x P
theorem At.ix {nm : List Str} {ρ : List (Option Vp)} {x : Str} {P : Vp} (H : At nm ρ x P) : ∃ i : Nat, nm[i]? = some x ∧ ρ[i]? = some (some P) := by
  induction H with
  | here => exact ⟨0, rfl, rfl⟩
  | there r ih => exact ih.elim fun i e => ⟨i + 1, e.1, e.2⟩
theorem At.a1 {x a : Str} {nm : List Str} {P : Vp} {o : Option Vp} {ρ : List (Option Vp)} : At (a :: x :: nm) (o :: some P :: ρ) x P := .there .here
theorem At.a2 {x a b : Str} {nm : List Str} {P : Vp} {o p : Option Vp} {ρ : List (Option Vp)} : At (a :: b :: x :: nm) (o :: p :: some P :: ρ) x P := .there .a1
theorem At.a3 {x a b c : Str} {nm : List Str} {P : Vp} {o p q : Option Vp} {ρ : List (Option Vp)} : At (a :: b :: c :: x :: nm) (o :: p :: q :: some P :: ρ) x P := .there .a2
theorem At.t4 {x a b c d : Str} {nm : List Str} {P : Vp} {o p q u : Option Vp} {ρ : List (Option Vp)} (r : At nm ρ x P) : At (a :: b :: c :: d :: nm) (o :: p :: q :: u :: ρ) x P := .there (.there (.there (.there r)))
theorem At.var {env : Env} {nm : List Str} {ρ : List (Option Vp)} {x : Str} {P : Vp} (a : At nm ρ x P) (H : Vars env Z h nm ρ) : ∃ v, VarAt env h x v ∧ P.at_ Z v :=
  a.ix.elim fun i e => H i x P e.1 e.2
inductive Upd : List Str → List (Option Vp) → Str → Option Vp → List (Option Vp) → Prop where
  | here {x : Str} {nm : List Str} {P o : Option Vp} {ρ : List (Option Vp)} : Upd (x :: nm) (o :: ρ) x P (P :: ρ)
  | there {x y : Str} {nm : List Str} {P o : Option Vp} {ρ ρ' : List (Option Vp)} (r : Upd nm ρ x P ρ') : Upd (y :: nm) (o :: ρ) x P (o :: ρ')
theorem Upd.a1 {x a : Str} {nm : List Str} {P o p : Option Vp} {ρ : List (Option Vp)} : Upd (a :: x :: nm) (o :: p :: ρ) x P (o :: P :: ρ) := .there .here
theorem Upd.a2 {x a b : Str} {nm : List Str} {P o p q : Option Vp} {ρ : List (Option Vp)} : Upd (a :: b :: x :: nm) (o :: p :: q :: ρ) x P (o :: p :: P :: ρ) := .there .a1
theorem Upd.a3 {x a b c : Str} {nm : List Str} {P o p q u : Option Vp} {ρ : List (Option Vp)} : Upd (a :: b :: c :: x :: nm) (o :: p :: q :: u :: ρ) x P (o :: p :: q :: P :: ρ) := .there .a2
theorem Upd.t4 {x a b c d : Str} {nm : List Str} {P o p q u : Option Vp} {ρ ρ' : List (Option Vp)} (r : Upd nm ρ x P ρ') : Upd (a :: b :: c :: d :: nm) (o :: p :: q :: u :: ρ) x P (o :: p :: q :: u :: ρ') := .there (.there (.there (.there r)))
theorem Upd.ix {nm : List Str} {ρ ρ' : List (Option Vp)} {x : Str} {P : Option Vp} (H : Upd nm ρ x P ρ') : ∃ i : Nat, nm[i]? = some x ∧ ρ'[i]? = some P ∧ ∀ j, j ≠ i → ρ'[j]? = ρ[j]? := by
  induction H with
  | here => exact ⟨0, rfl, rfl, fun j hj => by cases j with | zero => exact absurd rfl hj | succ j => rfl⟩
  | there r ih => exact ih.elim fun i e => ⟨i + 1, e.1, e.2.1, fun j hj => by cases j with | zero => rfl | succ j => exact e.2.2 j fun q => hj (congrArg (· + 1) q)⟩
theorem Vars.upd {env : Env} {P : Vp} {v : Value} {nm : List Str} {ρ ρ' : List (Option Vp)} {x : Str} (H : Vars env Z h nm ρ) (nd : nm.Nodup) (u : Upd nm ρ x (some P) ρ')
    (k : ∀ y u, y ≠ x → VarAt env h y u → VarAt env h' y u) (hv : VarAt env h' x v) (hp : P.at_ Z v) : Vars env Z h' nm ρ' := fun i y P' e1 e2 => by
  obtain ⟨j, a1, a2, a3⟩ := u.ix
  by_cases q : i = j
  · subst q
    rw [a1] at e1; cases e1
    rw [a2] at e2; cases e2
    exact ⟨v, hv, hp⟩
  · rw [a3 i q] at e2
    obtain ⟨w, h1, h2⟩ := H i y P' e1 e2
    refine ⟨w, k y w (fun r => ?_) h1, h2⟩
    subst r
    exact q ((List.getElem?_inj (List.getElem?_eq_some_iff.mp e1).1 nd).mp (e1.trans a1.symm))
theorem load_var {M : Model} {A : Around} {env : Env} {x : Str} {v : Value} {Q : Value → Shared → Prop} {E : Value → Shared → Prop} (hk : env.scope.kind = .function) (y : VarAt env s.heap x v) (q : Q v s) :
    wpAny M A (loadName env x) Q E s := by
  obtain ⟨p, ⟨hl, m, hn, hm⟩ | ⟨hl, c, hc, hv⟩⟩ := y
  · exact wpAny_loadName_local hk hl hn hm q
  · rcases hl with hl | hl
    · exact wpAny_loadName_cell hk hl hc hv q
    · exact wpAny_loadName_free hk hl hc hv q p.2
theorem ev_name {n : Nat} {env : Env} {nm oc : List Str} {sc : List (Str × NameKind)} {ρ : List (Option Vp)} {ω : List (Addr × List PV)} {κ : Addr → Option Obj} {x : Str} {P : Vp} {pos : Pos} (hx : At nm ρ x P) :
    EV C n (FS C env nm oc sc X ρ ω κ) (eval (.Name x pos) env) P := fun A s Z Q E hA I H k => by
  obtain ⟨v, hv, hp⟩ := hx.var H.vars
  exact wpAny_Name (load_var H.fn hv (k v Z s (StepX.refl I) hp)) hv.1.1
noncomputable def canSt (sc : List (Str × NameKind)) (oc : List Str) (x : Str) : Bool := sc.lookup x == some .local || (sc.lookup x == some .cell && oc.contains x)
theorem canSt_or {sc : List (Str × NameKind)} {oc : List Str} {x : Str} (h : canSt sc oc x = true) : sc.lookup x = some .local ∨ (sc.lookup x = some .cell ∧ x ∈ oc) := by
  simp only [canSt, Bool.or_eq_true, Bool.and_eq_true, beq_iff_eq, List.contains_iff_mem] at h
  exact h
theorem st_name {A : Around} {env : Env} {nm oc : List Str} {sc : List (Str × NameKind)} {ρ ρ' : List (Option Vp)} {ω : List (Addr × List PV)} {κ : Addr → Option Obj} {x : Str} {v : Value} {P : Vp} {Q : Unit → Shared → Prop} {E : Value → Shared → Prop} {M : Model}
    (I : Inv C Z s) (H : FSp env nm oc sc X ρ ω κ Z s.heap) (hp : P.at_ Z v) (hu : Upd nm ρ x (some P) ρ') (pl : PlainName x)
    (hk : canSt sc oc x = true)
    (k : ∀ s', StepX C X Z s Z s' → FSp env nm oc sc X ρ' ω κ Z s'.heap → Q () s') : wpAny M A (storeName env x v) Q E s := by
  obtain ⟨m, hn⟩ := H.loc
  have hke : ∀ y, env.kindOf y = sc.lookup y := fun y => by rw [← H.names]; rfl
  rcases canSt_or hk with hk | ⟨hk, hoc⟩ <;> rw [← hke] at hk
  · refine wpAny_storeName_local hk hn (fun h' hn' hs' => ?_) (by rw [H.fn]; rfl)
    have cne : ∀ n c, env.cells.lookup n = some c → c ≠ env.locals := fun n c hc q => by
      obtain ⟨_, w, o, e, d⟩ := H.cells n c hc
      obtain ⟨o', es, ep, e', d', _⟩ := hn
      rw [q, e'] at e; cases e; rw [d'] at d; cases d
    have st : StepX C X Z s Z { s with heap := h', toks := s.toks + 1 } := .write I H.locX hs' H.locZ (I.ns_notTab hn)
    refine k _ st ⟨H.names, H.gl, H.bl, H.cellH, H.fn, H.nodup, H.apart, ⟨_, hn'⟩, H.locX, H.locZ, fun n c hc => ⟨(H.cells n c hc).1, ?_⟩, H.cellX, fun a ha => (st.gone ha).elim (H.cof a) id,
      H.vars.upd H.nodup hu (fun y u hy hv => ?_) ⟨pl, .inl ⟨hk, _, hn', if_pos rfl⟩⟩ hp, fun p hp => ?_, H.ownX, H.ownN, fun b o e => ?_, H.heldX⟩
    · obtain ⟨w, hw⟩ := (H.cells n c hc).2
      exact ⟨w, hw.sameBut hs' (cne n c hc)⟩
    · obtain ⟨p, ⟨hl, m', hn'', hm⟩ | ⟨hl, c, hc, hv⟩⟩ := hv
      · refine ⟨p, .inl ⟨hl, _, hn', ?_⟩⟩
        rw [if_neg hy]
        obtain ⟨o1, es1, ep1, e1, d1, _, f1⟩ := hn
        obtain ⟨o2, es2, ep2, e2, d2, _, f2⟩ := hn''
        rw [e1] at e2; cases e2; rw [d1] at d2; cases d2
        rw [← f1 y, f2 y]; exact hm
      · exact ⟨p, .inr ⟨hl, c, hc, hv.sameBut hs' (cne y c hc)⟩⟩
    · obtain ⟨hz, vs, n, e, r⟩ := H.own p hp
      refine ⟨hz, vs, n, hs'.extBut _ _ (fun q => ?_) e, r⟩
      obtain ⟨o', es, ep, e', d', _⟩ := hn
      rw [← q, e] at e'; cases e'; cases d'
    · obtain ⟨hz, ha, ht, hl, hc, hw⟩ := H.held b o e
      exact ⟨hz, hs'.extBut _ _ hl ha, ht, hl, hc, hw⟩
  · obtain ⟨c, hc⟩ := Option.isSome_iff_exists.mp (H.cellH x hoc (by rw [← hke]; exact hk))
    obtain ⟨hz, w, hw⟩ := H.cells x c hc
    refine wpAny_storeName_cell H.fn hk hc hw fun h' hc' hs' => ?_
    have lne : env.locals ≠ c := fun q => by
      obtain ⟨o, e, d⟩ := hw
      obtain ⟨o', es, ep, e', d', _⟩ := hn
      rw [q, e] at e'; cases e'; rw [d'] at d; cases d
    have st : StepX C X Z s Z { s with heap := h' } := .write (t := s.toks) I (H.cellX x hoc c hc) hs' hz (I.cell_notTab hw)
    refine k _ st ⟨H.names, H.gl, H.bl, H.cellH, H.fn, H.nodup, H.apart, ⟨m, hn.sameBut hs' lne⟩, H.locX, H.locZ, fun n c' hc'' => ⟨(H.cells n c' hc'').1, ?_⟩, H.cellX, fun a ha => (st.gone ha).elim (H.cof a) id,
      H.vars.upd H.nodup hu (fun y u hy hv => ?_) ⟨pl, .inr ⟨.inl hk, c, hc, hc'⟩⟩ hp, fun p hp => ?_, H.ownX, H.ownN, fun b o e => ?_, H.heldX⟩
    · by_cases q : c' = c
      · subst q; exact ⟨_, hc'⟩
      · obtain ⟨w', hw'⟩ := (H.cells n c' hc'').2
        exact ⟨w', hw'.sameBut hs' q⟩
    · obtain ⟨p, ⟨hl, m', hn'', hm⟩ | ⟨hl, c', hc'', hv⟩⟩ := hv
      · exact ⟨p, .inl ⟨hl, m', hn''.sameBut hs' lne, hm⟩⟩
      · exact ⟨p, .inr ⟨hl, c', hc'', hv.sameBut hs' fun q => hy (name_of_addr H.apart (mem_of_lookup hc'') (q ▸ mem_of_lookup hc))⟩⟩
    · obtain ⟨hz', vs, n, e, r⟩ := H.own p hp
      refine ⟨hz', vs, n, hs'.extBut _ _ (fun q => ?_) e, r⟩
      obtain ⟨o', e', d'⟩ := hw
      rw [← q, e] at e'; cases e'; cases d'
    · obtain ⟨hz, ha, ht, hl, hc', hw⟩ := H.held b o e
      exact ⟨hz, hs'.extBut _ _ (hc' x c hc) ha, ht, hl, hc', hw⟩
end
end
section
noncomputable def EX (C : Cx) (n : Nat) (X : Addr → Prop) (Φ : Asn C) (t : Sem Flow) (Ψ : Asn C) (R : Vp) : Prop :=
  ∀ (A : Around) (s : Shared) (Z : Fz) (Q : Flow → Shared → Prop) (E : Value → Shared → Prop), Room n A → Inv C Z s → Φ.at_ Z s.heap →
    (∀ Z' s', StepX C X Z s Z' s' → Ψ.at_ Z' s'.heap → Q .next s') → (∀ v Z' s', StepX C X Z s Z' s' → R.at_ Z' v → Q (.ret v) s') → wpAny (model C.prog C.w) A t Q E s
noncomputable def botA (C : Cx) : Asn C := ⟨fun _ _ => False, fun _ h _ => h⟩
section
variable {C : Cx} {n : Nat} {X : Addr → Prop} {Φ Ψ Θ : Asn C} {R : Vp} {env : Env} {nm oc : List Str} {sc : List (Str × NameKind)} {st : Stmt} {rest : List Stmt} {pos : Pos}
theorem ex_nil : EX C n X Φ (execs [] env) Φ R := fun A s Z Q E hA I H k _ => wpAny_execs_nil (k Z s (StepX.refl I) H)
theorem ex_cons (h1 : EX C n X Φ (exec st env) Ψ R) (h2 : EX C n X Ψ (execs rest env) Θ R) : EX C n X Φ (execs (st :: rest) env) Θ R := fun A s Z Q E hA I H k kr => by
  refine wpAny_execs_cons (h1 A s Z _ E hA I H (fun Z₁ s₁ x₁ H₁ => ?_) fun v Z₁ s₁ x₁ r => kr v Z₁ s₁ x₁ r)
  exact h2 A s₁ Z₁ Q E hA x₁.inv H₁ (fun Z₂ s₂ x₂ H₂ => k Z₂ s₂ (x₁.trans x₂) H₂) fun v Z₂ s₂ x₂ r => kr v Z₂ s₂ (x₁.trans x₂) r
theorem ex_ret {e : Expr} (h : EV C n Φ (eval e env) R) : EX C n X Φ (execs (.Return (some e) pos :: rest) env) Ψ R := fun A s Z Q E hA I H k kr => by
  refine wpAny_execs_cons (wpAny_Return_some (h A s Z _ E hA I H fun v Z₁ s₁ x₁ r => kr v Z₁ s₁ x₁.to r))
theorem ex_mono (h : EX C n X Φ (execs rest env) Ψ R) (k : ∀ {Z h}, Ψ.at_ Z h → Θ.at_ Z h) : EX C n X Φ (execs rest env) Θ R := fun A s Z Q E hA I H kn kr =>
  h A s Z Q E hA I H (fun Z₁ s₁ x₁ H₁ => kn Z₁ s₁ x₁ (k H₁)) kr
theorem ex_if {t : Expr} {b o : List Stmt} {c : Bool} (ht : TV C n Φ (isTrue t env (eval t env)) c) (hb : c = true → EX C n X Φ (execs b env) Ψ R) (ho : c = false → EX C n X Φ (execs o env) Ψ R) :
    EX C n X Φ (exec (.If t b o pos) env) Ψ R := fun A s Z Q E hA I H k kr => by
  refine wpAny_If (ht A s Z _ E hA I H fun Z₁ s₁ x₁ => ?_)
  cases c with
  | true => exact hb rfl A s₁ Z₁ Q E hA x₁.inv (Φ.stable I H x₁) (fun Z₂ s₂ x₂ H₂ => k Z₂ s₂ (x₁.to.trans x₂) H₂) fun v Z₂ s₂ x₂ r => kr v Z₂ s₂ (x₁.to.trans x₂) r
  | false => exact ho rfl A s₁ Z₁ Q E hA x₁.inv (Φ.stable I H x₁) (fun Z₂ s₂ x₂ H₂ => k Z₂ s₂ (x₁.to.trans x₂) H₂) fun v Z₂ s₂ x₂ r => kr v Z₂ s₂ (x₁.to.trans x₂) r
theorem ex_assign {ρ ρ' : List (Option Vp)} {ω : List (Addr × List PV)} {κ : Addr → Option Obj} {x : Str} {xp : Pos} {e : Expr} {P : Vp} (he : EV C n (FS C env nm oc sc X ρ ω κ) (eval e env) P) (hu : Upd nm ρ x (some P) ρ')
    (pl : PlainName x) (hk : canSt sc oc x = true)
    (hs : swapsWith e (some (.Name x xp)) pos.line env = pure false) :
    EX C n X (FS C env nm oc sc X ρ ω κ) (exec (.Assign [.Name x xp] e pos) env) (FS C env nm oc sc X ρ' ω κ) R := fun A s Z Q E hA I H k kr => by
  refine wpAny_Assign_Name (he A s Z _ E hA I H fun v Z₁ s₁ x₁ pv => ?_) hs
  exact st_name x₁.inv ((FS C env nm oc sc X ρ ω κ).stable I H x₁) pv hu pl hk fun s₂ x₂ H₂ => k Z₁ s₂ (x₁.to.trans x₂) H₂
end
theorem StepX.over {C : Cx} {X : Addr → Prop} {Z Z₁ Z' : Fz} {s s₁ s' : Shared} (st : Step C Z s Z₁ s₁) (x : StepX C X Z₁ s₁ Z' s') (h : ∀ b, X b → s.heap.get? b = none) : Step C Z s Z' s' where
  le := st.le.trans x.le
  new := fun b o e => by
    rcases x.new b o e with q | q | q
    · exact st.new b o q
    · exact (st.gone q).elim (fun q => .inr (.inl q)) fun q => q.elim
    · exact .inr (.inl (h b q))
  keep := fun b o e _ ht => x.keep b o (st.keep b o e (fun q => q) ht) (fun q => by rw [h b q] at e; cases e) ht
  rest := ⟨x.rest.1.trans st.rest.1, x.rest.2.1.trans st.rest.2.1, x.rest.2.2.trans st.rest.2.2⟩
  inv := x.inv
-- a def's call
noncomputable def ofBinds (nm : List Str) (binds : List (Str × Vp)) : List (Option Vp) := nm.map fun x => binds.lookup x
noncomputable def FN (C : Cx) (n : Nat) (f : Value) (Ps : List Vp) (R : Vp) : Prop :=
  ∀ (A : Around) (s : Shared) (Z : Fz) (vs : List Value) (Q : Value → Shared → Prop) (E : Value → Shared → Prop), Room n A → Inv C Z s → vs.length = Ps.length → (∀ (i : Nat) (v : Value) (P : Vp), vs[i]? = some v → Ps[i]? = some P → P.at_ Z v) →
    (∀ v Z' s', Step C Z s Z' s' → R.at_ Z' v → Q v s') → wpAny (model C.prog C.w) A (call f vs) Q E s
theorem lenS {α : Type} {n : Nat} {l : List α} (h : l.length = n + 1) : ∃ a r, l = a :: r ∧ r.length = n := by
  cases l with
  | nil => cases h
  | cons a r => exact ⟨a, r, rfl, Nat.succ.inj h⟩
theorem len2 {α : Type} {l : List α} (h : l.length = 2) : ∃ a b, l = [a, b] := by
  cases l with
  | nil => cases h
  | cons a r => exact (List.length_eq_one_iff.mp (Nat.succ.inj h)).elim fun b e => ⟨a, b, congrArg _ e⟩
theorem len3 {α : Type} {l : List α} (h : l.length = 3) : ∃ a b c, l = [a, b, c] := by
  cases l with
  | nil => cases h
  | cons a r => exact (len2 (Nat.succ.inj h)).elim fun b e => e.elim fun c e => ⟨a, b, c, congrArg _ e⟩
theorem fn1 {C : Cx} {n : Nat} {f : Value} {P R : Vp} (h : ∀ (A : Around) (s : Shared) (Z : Fz) (v : Value) (Q : Value → Shared → Prop) (E : Value → Shared → Prop), Room n A → Inv C Z s → P.at_ Z v →
    (∀ v Z' s', Step C Z s Z' s' → R.at_ Z' v → Q v s') → wpAny (model C.prog C.w) A (call f [v]) Q E s) : FN C n f [P] R := fun A s Z vs Q E hA I hl hp k => by
  obtain ⟨v, rfl⟩ := List.length_eq_one_iff.mp hl
  exact h A s Z v Q E hA I (hp 0 v P rfl rfl) k
theorem fn2 {C : Cx} {n : Nat} {f : Value} {P P' R : Vp} (h : ∀ (A : Around) (s : Shared) (Z : Fz) (u v : Value) (Q : Value → Shared → Prop) (E : Value → Shared → Prop), Room n A → Inv C Z s → P.at_ Z u → P'.at_ Z v →
    (∀ v Z' s', Step C Z s Z' s' → R.at_ Z' v → Q v s') → wpAny (model C.prog C.w) A (call f [u, v]) Q E s) : FN C n f [P, P'] R := fun A s Z vs Q E hA I hl hp k => by
  obtain ⟨u, v, rfl⟩ := len2 hl
  exact h A s Z u v Q E hA I (hp 0 u P rfl rfl) (hp 1 v P' rfl rfl) k
theorem bnd1 {fd : FuncData} {xs : List Str} (h : ∀ a, bindArgs fd ⟨[a], []⟩ = pure (xs.zip [a])) (vs : List Value) (hl : vs.length = 1) : bindArgs fd ⟨vs, []⟩ = pure (xs.zip vs) := by
  obtain ⟨a, rfl⟩ := List.length_eq_one_iff.mp hl
  exact h a
theorem bnd2 {fd : FuncData} {xs : List Str} (h : ∀ a b, bindArgs fd ⟨[a, b], []⟩ = pure (xs.zip [a, b])) (vs : List Value) (hl : vs.length = 2) : bindArgs fd ⟨vs, []⟩ = pure (xs.zip vs) := by
  obtain ⟨a, b, rfl⟩ := len2 hl
  exact h a b
theorem bnd3 {fd : FuncData} {xs : List Str} (h : ∀ a b c, bindArgs fd ⟨[a, b, c], []⟩ = pure (xs.zip [a, b, c])) (vs : List Value) (hl : vs.length = 3) : bindArgs fd ⟨vs, []⟩ = pure (xs.zip vs) := by
  obtain ⟨a, b, c, rfl⟩ := len3 hl
  exact h a b c
noncomputable def Quiet (C : Cx) : Prop := ∀ h : Heap, (∀ b o, C.Z0 b = some o → h.get? b = some o) → h.NoLimit
inductive CodeZ (C : Cx) (cd : Value) (q : Str) : Prop where
  | mk (c : Addr) (o : Obj) (vs : Array Value) (t : Tok) (e : cd = .ref c) (h : C.Z0 c = some o) (d : o.data = .fields vs) (n : vs[1]? = some (.str q t))
theorem CodeZ.rcd {C : Cx} {Z : Fz} {s : Shared} {cd : Value} {q : Str} (x : CodeZ C cd q) (I : Inv C Z s) : s.heap.CodeRec cd q := by
  obtain ⟨c, o, vs, t, e0, e1, e2, e3⟩ := x
  exact ⟨c, o, vs, t, e0, I.heap _ _ (I.base _ _ e1), e2, e3⟩
theorem cellsFrom_mem : ∀ (names : List (Str × NameKind)) (k : Nat) (acc : List (Str × Addr)) (x : Str), (x, NameKind.cell) ∈ names ∨ (∃ c, (x, c) ∈ acc) → ∃ c, (x, c) ∈ cellsFrom k names acc
  | [], k, acc, x, h => h.elim (fun q => nomatch q) id
  | (y, kd) :: r, k, acc, x, h => by
    unfold cellsFrom
    split
    · refine cellsFrom_mem r _ _ x ?_
      rcases h with h | ⟨c, h⟩
      · rcases List.mem_cons.mp h with e | h
        · cases e; exact .inr ⟨k, .head _⟩
        · exact .inl h
      · exact .inr ⟨c, .tail _ h⟩
    · rename_i hk
      refine cellsFrom_mem r _ _ x ?_
      rcases h with h | h
      · rcases List.mem_cons.mp h with e | h
        · cases e; exact absurd rfl hk
        · exact .inl h
      · exact .inr h
theorem lookup_of_mem {α : Type} : ∀ {l : List (Str × α)} {x : Str} {c : α}, (x, c) ∈ l → (l.lookup x).isSome = true
  | (y, v) :: r, x, c, h => by
    rw [List.lookup_cons]
    cases hb : x == y with
    | true => rfl
    | false =>
      rcases List.mem_cons.mp h with e | h
      · cases e; simp at hb
      · exact lookup_of_mem h
theorem cellsFrom_has {names : List (Str × NameKind)} {k : Nat} {x : Str} (h : names.lookup x = some .cell) : ((cellsFrom k names []).lookup x).isSome = true := by
  obtain ⟨c, hc⟩ := cellsFrom_mem names k [] x (.inl (mem_of_lookup h))
  exact lookup_of_mem hc
section
variable {C : Cx} {n : Nat} {R : Vp} {fd : FuncData} {f : Addr} {o : Obj} {body : List Stmt} {Ps : List Vp} {xs nm : List Str} {sc : List (Str × NameKind)} {ρ : List (Option Vp)}
theorem Vars.start {env : Env} {Z : Fz} {h : Heap} {m cm : Str → Option Value} (pl : ∀ x ∈ nm, PlainName x)
    (hl : h.Ns env.locals m) (hc : ∀ x c, env.cells.lookup x = some c → h.IsCell c (cm x)) {binds : List (Str × Vp)}
    (hk : ∀ x P, binds.lookup x = some P → (env.kindOf x = some .local ∧ ∃ v, m x = some v ∧ P.at_ Z v) ∨ (env.kindOf x = some .cell ∧ (env.cells.lookup x).isSome = true ∧ ∃ v, cm x = some v ∧ P.at_ Z v)) :
    Vars env Z h nm (ofBinds nm binds) := by
  induction nm with
  | nil => exact .nil
  | cons x nm ih =>
    have ih := ih fun y hy => pl y (.tail _ hy)
    show Vars env Z h (x :: nm) (binds.lookup x :: ofBinds nm binds)
    cases q : binds.lookup x with
    | none => exact .un ih
    | some P =>
      rcases hk x P q with ⟨k1, v, e, p⟩ | ⟨k1, hs, v, e, p⟩
      · exact .va ⟨pl x (.head _), .inl ⟨k1, m, hl, e⟩⟩ p ih
      · obtain ⟨c, e'⟩ := Option.isSome_iff_exists.mp hs
        exact .va ⟨pl x (.head _), .inr ⟨.inl k1, c, e', e ▸ hc x c e'⟩⟩ p ih
theorem bindL_not {kindOf : Str → Option NameKind} {x : Str} : ∀ (bs : List (Str × Value)) (m : Str → Option Value), (∀ b ∈ bs, b.1 ≠ x) → bindL kindOf bs m x = m x
  | [], _, _ => rfl
  | (y, v) :: r, m, h => by
    unfold bindL
    rw [bindL_not r _ fun b hb => h b (.tail _ hb)]
    split
    · exact if_neg fun q => h (y, v) (.head _) q.symm
    · rfl
theorem bindC_not {kindOf : Str → Option NameKind} {x : Str} : ∀ (bs : List (Str × Value)) (m : Str → Option Value), (∀ b ∈ bs, b.1 ≠ x) → bindC kindOf bs m x = m x
  | [], _, _ => rfl
  | (y, v) :: r, m, h => by
    unfold bindC
    rw [bindC_not r _ fun b hb => h b (.tail _ hb)]
    split
    · rfl
    · exact if_neg fun q => h (y, v) (.head _) q.symm
theorem bindL_zip {kindOf : Str → Option NameKind} : ∀ {xs : List Str} {vs : List Value} {x : Str} {m : Str → Option Value} {i : Nat}, xs.Nodup → xs[i]? = some x → kindOf x = some .local → xs.length = vs.length → bindL kindOf (xs.zip vs) m x = vs[i]?
  | [], _, _, _, _, _, h, _, _ => by simp at h
  | y :: xs, [], _, _, _, _, _, _, h => by simp at h
  | y :: xs, v :: vs, x, m, i, nd, hi, hk, hl => by
    obtain ⟨nd1, nd2⟩ := List.nodup_cons.mp nd
    rw [List.zip_cons_cons]
    unfold bindL
    cases i with
    | zero =>
      simp at hi; subst hi
      rw [bindL_not (x := y) _ _ fun b hb q => nd1 (by rw [← q]; exact (List.of_mem_zip hb).1), if_pos hk]
      simp
    | succ i =>
      rw [List.getElem?_cons_succ] at hi ⊢
      exact bindL_zip nd2 hi hk (by simpa using hl)
theorem bindC_zip {kindOf : Str → Option NameKind} : ∀ {xs : List Str} {vs : List Value} {x : Str} {m : Str → Option Value} {i : Nat}, xs.Nodup → xs[i]? = some x → kindOf x ≠ some .local → xs.length = vs.length → bindC kindOf (xs.zip vs) m x = vs[i]?
  | [], _, _, _, _, _, h, _, _ => by simp at h
  | y :: xs, [], _, _, _, _, _, _, h => by simp at h
  | y :: xs, v :: vs, x, m, i, nd, hi, hk, hl => by
    obtain ⟨nd1, nd2⟩ := List.nodup_cons.mp nd
    rw [List.zip_cons_cons]
    unfold bindC
    cases i with
    | zero =>
      simp at hi; subst hi
      rw [bindC_not (x := y) _ _ fun b hb q => nd1 (by rw [← q]; exact (List.of_mem_zip hb).1), if_neg hk]
      simp
    | succ i =>
      rw [List.getElem?_cons_succ] at hi ⊢
      exact bindC_zip nd2 hi hk (by simpa using hl)
theorem zip_lookup {P : Vp} : ∀ {xs : List Str} {Ps : List Vp} {x : Str}, (xs.zip Ps).lookup x = some P → ∃ i : Nat, xs[i]? = some x ∧ Ps[i]? = some P
  | [], _, _, h => by simp at h
  | y :: xs, [], _, h => by simp at h
  | y :: xs, Q :: Ps, x, h => by
    rw [List.zip_cons_cons, List.lookup_cons] at h
    cases hb : x == y with
    | true => rw [hb] at h; cases h; exact ⟨0, by rw [beq_iff_eq.mp hb]; rfl, rfl⟩
    | false =>
      rw [hb] at h
      obtain ⟨i, h1, h2⟩ := zip_lookup (Ps := Ps) h
      exact ⟨i + 1, by simpa using h1, by simpa using h2⟩
theorem fn_def (hq : Quiet C) (ho : C.Z0 f = some o) (hd : o.data = .func fd) (hcd : CodeZ C fd.code fd.qualname) (hbody : fd.body = .stmts body) (hclo : fd.closure = []) (hsc : fd.scope.names = sc) (hgl : fd.globals = mainGlobals) (hbl : fd.builtins = builtinsNs)
    (hbind : ∀ vs : List Value, vs.length = Ps.length → bindArgs fd ⟨vs, []⟩ = pure (xs.zip vs)) (hlen : xs.length = Ps.length) (hnd : xs.Nodup) (hnm : nm.Nodup) (pl : ∀ x ∈ nm, PlainName x)
    (hkind : xs.all (canSt sc xs) = true) (hρ : ofBinds nm (xs.zip Ps) = ρ)
    (h : ∀ L (X : Addr → Prop), EX C (n + 1) X (FS C (callEnvC fd L f) nm nm sc X ρ [] fun _ => none) (execs body (callEnvC fd L f)) (botA C) R)
    (hco : fd.scope.isCoroutine = false := by rfl) (hgen : fd.scope.isGenerator = false := by rfl) (hk : fd.scope.kind = .function := by rfl) :
    FN C (n + 2) (.ref f) Ps R := fun A s Z vs Q E hA I hl hp k => by
  subst hsc
  subst hρ
  have hf := I.heap _ _ (I.base _ _ ho)
  have hnl := hq s.heap fun b o e => I.heap _ _ (I.base _ _ e)
  have hkind' : ∀ L, ∀ x ∈ xs, fd.scope.names.lookup x = some .local ∨ (fd.scope.names.lookup x = some .cell ∧ ((cellsFrom (L + 1) fd.scope.names []).lookup x).isSome = true) := fun L x hx =>
    (canSt_or (List.all_eq_true.mp hkind x hx)).imp id fun ⟨h, _⟩ => ⟨h, cellsFrom_has h⟩
  refine wpAny_call (codeAny_call_cells (R := fun r s' => match r with | .ok (.ret v) => Q v s' | .ok _ => False | .error e => E e s') (by have := hA.depth; simp only [recursionLimit]; lia) hf hd hnl (hcd.rcd I) hbody (hbind vs hl) hclo (fun x hx => hkind' _ _ (List.of_mem_zip hx).1) (fun s₁ ic => ?_) hco hgen hk)
  obtain ⟨h₁, tk, rfl⟩ := ic.toInCall.same
  have hL : s.heap.objs.size < h₁.objs.size := ic.toInCall.ns.lt
  have st : Step C Z s Z { s with heap := h₁, toks := tk } := .keeps I ic.toInCall.keep
  have hA' : Room (n + 1) (A.deeper (callEnvC fd s.heap.objs.size f)) := ⟨by have := hA.depth; simp only [Around.deeper]; lia, by have := hA.units; simp only [Around.deeper]; lia, hA.handled⟩
  have zn : ∀ a, s.heap.objs.size ≤ a → Z a = none := fun a ha => I.fresh (get?_above ha)
  refine h s.heap.objs.size (fun a => s.heap.get? a = none) _ { s with heap := h₁, toks := tk } Z _ _ hA' st.inv ⟨rfl, hgl, hbl, fun x _ hx => cellsFrom_has hx, hk, hnm, ic.apart, ⟨_, ic.toInCall.ns⟩, get?_above (Nat.le_refl _), zn _ (Nat.le_refl _), fun x c hc => ?_, fun x _ c hc => ?_, fun a ha => ?_, ?_, (fun _ h => nomatch h), (fun _ h => nomatch h), List.Pairwise.nil, (fun _ _ h => nomatch h), fun _ _ h => nomatch h⟩ (fun _ _ _ hb => hb.elim) fun v Z' s' x r => ?_
  · have := ic.above x c (mem_of_lookup hc)
    exact ⟨zn c (Nat.le_of_lt this), _, ic.cell x c hc⟩
  · exact get?_above (Nat.le_of_lt (ic.above x c (mem_of_lookup hc)))
  · exact (st.gone ha).elim id fun q => q.elim
  · refine Vars.start pl ic.toInCall.ns ic.cell fun x P e => ?_
    obtain ⟨i, e1, e2⟩ := zip_lookup (Ps := Ps) e
    have hi : i < vs.length := by rw [hl]; exact (List.getElem?_eq_some_iff.mp e2).1
    have ev : vs[i]? = some vs[i] := List.getElem?_eq_getElem hi
    have hpv := hp i _ P ev e2
    rcases hkind' s.heap.objs.size x (List.mem_iff_getElem?.mpr ⟨i, e1⟩) with hk' | ⟨hk', hs⟩
    · exact .inl ⟨hk', _, (bindL_zip hnd e1 hk' (hlen.trans hl.symm)).trans ev, hpv⟩
    · refine .inr ⟨hk', hs, _, (bindC_zip hnd e1 (fun q => ?_) (hlen.trans hl.symm)).trans ev, hpv⟩
      rw [show (callEnvC fd s.heap.objs.size f).kindOf x = fd.scope.names.lookup x from rfl, hk'] at q; cases q
  · exact k v Z' s' (st.over x fun b hb => hb) r
end
end
section
section
variable {C : Cx} {n : Nat} {a b : Int} {x y : UInt64}
local macro_rules | `(tactic| trivial) => `(tactic| fail)
theorem op_mul_int (hm : IntMulOk a b) : OP2 C n (binaryOp .Mult) (is (.int a)) (is (.int b)) (is (.int (a * b))) := fun A s Z u v Q E hA I hu hv k => by
  obtain ⟨_, rfl⟩ := rdi hu; obtain ⟨_, rfl⟩ := rdi hv; exact PyProof.Rows.mul_int (k _ Z _ (Step.toks I _) (.int _ _)) hm
theorem op_div_int (hb : b ≠ 0) (hp : Builtin.divisionGoesByPylong a b = false) : OP2 C n (binaryOp .FloorDiv) (is (.int a)) (is (.int b)) (is (.int (a.fdiv b))) := fun A s Z u v Q E hA I hu hv k => by
  obtain ⟨_, rfl⟩ := rdi hu; obtain ⟨_, rfl⟩ := rdi hv; exact floordiv_int hb (k _ Z _ (Step.toks I _) (.int _ _)) (.inl hp)
theorem op_mod_int (hb : b ≠ 0) : OP2 C n (binaryOp .Mod) (is (.int a)) (is (.int b)) (is (.int (a.fmod b))) := fun A s Z u v Q E hA I hu hv k => by
  obtain ⟨_, rfl⟩ := rdi hu; obtain ⟨_, rfl⟩ := rdi hv; exact mod_int' hb (k _ Z _ (Step.toks I _) (.int _ _))
theorem op_pow_int (hb : 0 ≤ b) (hsz : (Builtin.Int.intBits a : Int) * b ≤ 2 ^ 27) : OP2 C n (binaryOp .Pow) (is (.int a)) (is (.int b)) (is (.int (a ^ b.toNat))) := fun A s Z u v Q E hA I hu hv k => by
  obtain ⟨_, rfl⟩ := rdi hu; obtain ⟨_, rfl⟩ := rdi hv; exact pow_int hb hsz (k _ Z _ (Step.toks I _) (.int _ _))
theorem op_shl_int (hb : 0 ≤ b) (hsz : (Builtin.Int.intBits a : Int) + b ≤ 2 ^ 27) : OP2 C n (binaryOp .LShift) (is (.int a)) (is (.int b)) (is (.int (a * 2 ^ b.toNat))) := fun A s Z u v Q E hA I hu hv k => by
  obtain ⟨_, rfl⟩ := rdi hu; obtain ⟨_, rfl⟩ := rdi hv; exact lshift_int hb hsz (k _ Z _ (Step.toks I _) (.int _ _))
theorem op_shr_int (hb : 0 ≤ b) : OP2 C n (binaryOp .RShift) (is (.int a)) (is (.int b)) (is (.int (a.fdiv (2 ^ b.toNat)))) := fun A s Z u v Q E hA I hu hv k => by
  obtain ⟨_, rfl⟩ := rdi hu; obtain ⟨_, rfl⟩ := rdi hv; exact rshift_int hb (k _ Z _ (Step.toks I _) (.int _ _))
theorem op_xor_int : OP2 C n (binaryOp .BitXor) (is (.int a)) (is (.int b)) (is (.int (Builtin.bitXor a b))) := fun A s Z u v Q E hA I hu hv k => by
  obtain ⟨_, rfl⟩ := rdi hu; obtain ⟨_, rfl⟩ := rdi hv; exact xor_int (k _ Z _ (Step.toks I _) (.int _ _))
theorem op_neg_int : OP1 C n (unaryOp .USub) (is (.int a)) (is (.int (-a))) := fun A s Z u Q E hA I hu k => by
  obtain ⟨_, rfl⟩ := rdi hu; exact PyProof.Rows.neg_int (k _ Z _ (Step.toks I _) (.int _ _))
theorem op_inv_int : OP1 C n (unaryOp .Invert) (is (.int a)) (is (.int (Builtin.bitNot a))) := fun A s Z u Q E hA I hu k => by
  obtain ⟨_, rfl⟩ := rdi hu; exact PyProof.Rows.invert_int (k _ Z _ (Step.toks I _) (.int _ _))
theorem op_tdiv_int (ha : a.natAbs < 2 ^ 1023) (hb : b ≠ 0) : OP2 C n (binaryOp .Div) (is (.int a)) (is (.int b)) (is (.flt (Float64.ofFrac (decide (a < 0) != decide (b < 0)) a.natAbs b.natAbs))) := fun A s Z u v Q E hA I hu hv k => by
  obtain ⟨_, rfl⟩ := rdi hu; obtain ⟨_, rfl⟩ := rdi hv; exact PySem.Flt.div_ii_fits hA.handled ha (fun h => absurd h hb) fun _ _ => k _ Z _ (Step.toks I _) (.flt _ _)
theorem op_eq_int : OP2 C n (compareOp .Eq) (is (.int a)) (is (.int b)) (is (.bool (a == b))) := fun A s Z u v Q E hA I hu hv k => by
  obtain ⟨_, rfl⟩ := rdi hu; obtain ⟨_, rfl⟩ := rdi hv; exact PyProof.Rows.eq_int (k _ Z _ (StepX.refl I) (.bool _))
theorem op_le_int : OP2 C n (compareOp .LtE) (is (.int a)) (is (.int b)) (is (.bool (decide (a ≤ b)))) := fun A s Z u v Q E hA I hu hv k => by
  obtain ⟨_, rfl⟩ := rdi hu; obtain ⟨_, rfl⟩ := rdi hv; exact PyProof.Rows.le_int (k _ Z _ (StepX.refl I) (.bool _))
theorem op_ge_int : OP2 C n (compareOp .GtE) (is (.int a)) (is (.int b)) (is (.bool (decide (b ≤ a)))) := fun A s Z u v Q E hA I hu hv k => by
  obtain ⟨_, rfl⟩ := rdi hu; obtain ⟨_, rfl⟩ := rdi hv; exact PyProof.Rows.ge_int (k _ Z _ (StepX.refl I) (.bool _))
-- floats
theorem op_add_flt : OP2 C n (binaryOp .Add) (is (.flt x)) (is (.flt y)) (is (.flt (Float64.add x y))) := fun A s Z u v Q E hA I hu hv k => by
  obtain ⟨_, rfl⟩ := rdi hu; obtain ⟨_, rfl⟩ := rdi hv; exact add_float (k _ Z _ (Step.toks I _) (.flt _ _))
theorem op_sub_flt : OP2 C n (binaryOp .Sub) (is (.flt x)) (is (.flt y)) (is (.flt (Float64.sub x y))) := fun A s Z u v Q E hA I hu hv k => by
  obtain ⟨_, rfl⟩ := rdi hu; obtain ⟨_, rfl⟩ := rdi hv; exact sub_float (k _ Z _ (Step.toks I _) (.flt _ _))
theorem op_mul_flt : OP2 C n (binaryOp .Mult) (is (.flt x)) (is (.flt y)) (is (.flt (Float64.mul x y))) := fun A s Z u v Q E hA I hu hv k => by
  obtain ⟨_, rfl⟩ := rdi hu; obtain ⟨_, rfl⟩ := rdi hv; exact mul_float (k _ Z _ (Step.toks I _) (.flt _ _))
theorem op_div_flt (hy : Float64.isZero y = false) : OP2 C n (binaryOp .Div) (is (.flt x)) (is (.flt y)) (is (.flt (Float64.div x y))) := fun A s Z u v Q E hA I hu hv k => by
  obtain ⟨_, rfl⟩ := rdi hu; obtain ⟨_, rfl⟩ := rdi hv; exact truediv_float_or hA.handled (fun h => by rw [hy] at h; cases h) fun _ => k _ Z _ (Step.toks I _) (.flt _ _)
theorem op_mod_flt (hy : Float64.isZero y = false) : OP2 C n (binaryOp .Mod) (is (.flt x)) (is (.flt y)) (is (.flt (Float64.divmod x y).2)) := fun A s Z u v Q E hA I hu hv k => by
  obtain ⟨_, rfl⟩ := rdi hu; obtain ⟨_, rfl⟩ := rdi hv; exact PySem.Flt.mod_ff hA.handled (fun h => by rw [hy] at h; cases h) fun _ => k _ Z _ (Step.toks I _) (.flt _ _)
theorem op_sub_fi (hb : b.natAbs < 2 ^ 1023) : OP2 C n (binaryOp .Sub) (is (.flt x)) (is (.int b)) (is (.flt (Float64.sub x (Float64.ofInt b)))) := fun A s Z u v Q E hA I hu hv k => by
  obtain ⟨_, rfl⟩ := rdi hu; obtain ⟨_, rfl⟩ := rdi hv; exact sub_fi_fits hb (k _ Z _ (Step.toks I _) (.flt _ _))
theorem op_mul_fi (hb : b.natAbs < 2 ^ 1023) : OP2 C n (binaryOp .Mult) (is (.flt x)) (is (.int b)) (is (.flt (Float64.mul x (Float64.ofInt b)))) := fun A s Z u v Q E hA I hu hv k => by
  obtain ⟨_, rfl⟩ := rdi hu; obtain ⟨_, rfl⟩ := rdi hv; exact mul_fi_fits hb (k _ Z _ (Step.toks I _) (.flt _ _))
theorem op_mul_if (hb : b.natAbs < 2 ^ 1023) : OP2 C n (binaryOp .Mult) (is (.int b)) (is (.flt x)) (is (.flt (Float64.mul (Float64.ofInt b) x))) := fun A s Z u v Q E hA I hu hv k => by
  obtain ⟨_, rfl⟩ := rdi hu; obtain ⟨_, rfl⟩ := rdi hv; exact mul_if_fits hb (k _ Z _ (Step.toks I _) (.flt _ _))
theorem op_div_if (hb : Float64.isInf (Float64.ofInt b) = false) (hx : Float64.isZero x = false) : OP2 C n (binaryOp .Div) (is (.int b)) (is (.flt x)) (is (.flt (Float64.div (Float64.ofInt b) x))) := fun A s Z u v Q E hA I hu hv k => by
  obtain ⟨_, rfl⟩ := rdi hu; obtain ⟨_, rfl⟩ := rdi hv; exact AutoFloatOps.truediv_if_2 (by rw [hb]; exact Bool.false_ne_true) (by rw [hx]; exact Bool.false_ne_true) (k _ Z _ (Step.toks I _) (.flt _ _))
noncomputable def ltF (x y : UInt64) : Bool := Float64.cmp x y == some .lt
noncomputable def eqF (x y : UInt64) : Bool := Float64.cmp x y == some .eq
noncomputable def leF (x y : UInt64) : Bool := Float64.cmp x y == some .lt || Float64.cmp x y == some .eq
theorem op_eq_flt : OP2 C n (compareOp .Eq) (is (.flt x)) (is (.flt y)) (is (.bool (eqF x y))) := fun A s Z u v Q E hA I hu hv k => by
  obtain ⟨_, rfl⟩ := rdi hu; obtain ⟨_, rfl⟩ := rdi hv; exact AutoFloatOps.eq_0 (k _ Z _ (StepX.refl I) (.bool _))
theorem op_lt_flt : OP2 C n (compareOp .Lt) (is (.flt x)) (is (.flt y)) (is (.bool (ltF x y))) := fun A s Z u v Q E hA I hu hv k => by
  obtain ⟨_, rfl⟩ := rdi hu; obtain ⟨_, rfl⟩ := rdi hv; exact AutoFloatOps.lt_0 (k _ Z _ (StepX.refl I) (.bool _))
theorem op_le_flt : OP2 C n (compareOp .LtE) (is (.flt x)) (is (.flt y)) (is (.bool (leF x y))) := fun A s Z u v Q E hA I hu hv k => by
  obtain ⟨_, rfl⟩ := rdi hu; obtain ⟨_, rfl⟩ := rdi hv; exact AutoFloatOps.le_0 (k _ Z _ (StepX.refl I) (.bool _))
end
section
variable {C : Cx} {n : Nat} {b c : Bool} {x y : Str} {v : Value}
theorem op_eq_str : OP2 C n (compareOp .Eq) (is (.str x)) (is (.str y)) (is (.bool (x == y))) := fun A s Z u v Q E hA I hu hv k => by
  obtain ⟨_, rfl⟩ := rdi hu; obtain ⟨_, rfl⟩ := rdi hv; exact PyProof.Rows.eq_str (k _ Z _ (StepX.refl I) (.bool _))
theorem op_isnot_bool : OP2 C n (compareOp .IsNot) (is (.bool b)) (is (.bool c)) (is (.bool (!(b == c)))) := fun A s Z u v Q E hA I hu hv k => by
  cases hu; cases hv
  refine wpAny_isNot_plain (by rfl) ?_
  have : (Value.bool b == Value.bool c) = (b == c) := by cases b <;> cases c <;> rfl
  rw [this]; exact k _ Z _ (StepX.refl I) (.bool _)
end
end
section
inductive Sat (Z : Fz) : List Value → List Vp → Prop where
  | nil : Sat Z [] []
  | cons {v : Value} {P : Vp} {vs : List Value} {Ps : List Vp} (h : P.at_ Z v) (r : Sat Z vs Ps) : Sat Z (v :: vs) (P :: Ps)
noncomputable def SatI (Z : Fz) (vs : List Value) : List Vp → Prop
  | [] => vs = []
  | P :: Ps => ∃ v r, vs = v :: r ∧ P.at_ Z v ∧ Sat Z r Ps
theorem sati {Z : Fz} {vs : List Value} {Ps : List Vp} (h : Sat Z vs Ps) : SatI Z vs Ps := by
  cases h with
  | nil => exact rfl
  | cons h r => exact ⟨_, _, rfl, h, r⟩
theorem Sat.length {Z : Fz} {vs : List Value} {Ps : List Vp} (h : Sat Z vs Ps) : vs.length = Ps.length := by
  induction h with
  | nil => rfl
  | cons _ _ ih => exact congrArg (· + 1) ih
theorem Sat.get {Z : Fz} {vs : List Value} {Ps : List Vp} (h : Sat Z vs Ps) (i : Nat) (v : Value) (P : Vp) (e : vs[i]? = some v) (e' : Ps[i]? = some P) : P.at_ Z v := by
  induction h generalizing i with
  | nil => cases e
  | cons h _ ih =>
    cases i with
    | zero => cases e; cases e'; exact h
    | succ i => exact ih i e e'
theorem Sat.le {Z Z' : Fz} (k : Le Z Z') {vs : List Value} {Ps : List Vp} (h : Sat Z vs Ps) : Sat Z' vs Ps := by
  induction h with
  | nil => exact .nil
  | cons h _ ih => exact .cons (Vp.mono _ k h) ih
theorem Sat.rd {Z : Fz} {vs : List Value} {ds : List PV} (h : Sat Z vs (ds.map is)) : RdL Z vs ds := by
  induction ds generalizing vs with
  | nil => have e : vs = [] := sati h; subst e; exact .nil
  | cons d ds ih =>
    obtain ⟨v, r, rfl, hv, h⟩ := sati h
    exact .cons hv (ih h)
theorem Sat.of_rd {Z : Fz} {vs : List Value} {ds : List PV} (h : RdL Z vs ds) : Sat Z vs (ds.map is) := by
  induction ds generalizing vs with
  | nil => have e : vs = [] := rdli h; subst e; exact .nil
  | cons d ds ih =>
    obtain ⟨v, r, rfl, hv, h⟩ := rdli h
    exact .cons hv (ih h)
noncomputable def EL (C : Cx) (n : Nat) (Φ : Asn C) (t : Sem (List Value)) (Ps : List Vp) : Prop :=
  ∀ (A : Around) (s : Shared) (Z : Fz) (Q : List Value → Shared → Prop) (E : Value → Shared → Prop), Room n A → Inv C Z s → Φ.at_ Z s.heap →
    (∀ vs Z' s', Step C Z s Z' s' → Sat Z' vs Ps → Q vs s') → wpAny (model C.prog C.w) A t Q E s
noncomputable def IsFn (C : Cx) (f : Addr) : Prop := ∃ o fd, C.Z0 f = some o ∧ o.data = .func fd
section
variable {C : Cx} {n : Nat} {Φ : Asn C} {env : Env} {P R : Vp} {Ps : List Vp} {e : Expr} {es args : List Expr} {pos p : Pos}
theorem el_nil : EL C n Φ (spliced (backTo pos (starEach [] env))) [] := fun A s Z Q E hA I H k => args_nil (k [] Z s (StepX.refl I) .nil)
theorem el_cons (h1 : EV C n Φ (eval e env) P) (h2 : EL C n Φ (spliced (backTo pos (starEach es env))) Ps) (he : starEach (e :: es) env = (false, eval e env) :: starEach es env := by rfl) :
    EL C n Φ (spliced (backTo pos (starEach (e :: es) env))) (P :: Ps) := fun A s Z Q E hA I H k => by
  refine args_cons (h1 A s Z _ E hA I H fun v Z₁ s₁ x₁ pv => ?_) he
  exact h2 A s₁ Z₁ _ E hA x₁.inv (Φ.stable I H x₁) fun vs Z₂ s₂ x₂ hs => k _ Z₂ s₂ (x₁.trans x₂) (.cons (P.mono x₂.le pv) hs)
theorem ev_call {x : Str} {f : Addr} (hf : EV C n Φ (eval (.Name x p) env) (isv (.ref f))) (hfn : IsFn C f) (ha : EL C n Φ (spliced (backTo pos (starEach (e :: es) env))) Ps) (hc : FN C n (.ref f) Ps R)
    (he : starEach (e :: es) env = (false, eval e env) :: starEach es env := by rfl) : EV C n Φ (eval (.Call (.Name x p) (e :: es) [] pos) env) R := fun A s Z Q E hA I H k => by
  refine wpAny_Call_NameR (hf A s Z _ E hA I H fun v Z₁ s₁ x₁ pv => ?_)
  cases pv
  obtain ⟨o, fd, ho, hd⟩ := hfn
  refine callWith_def hd (ha A s₁ Z₁ _ E hA x₁.inv (Φ.stable I H x₁) fun vs Z₂ s₂ x₂ hs => ⟨x₂.inv.heap _ _ (x₂.inv.base _ _ ho), ?_⟩) he
  exact hc A s₂ Z₂ vs Q E hA x₂.inv hs.length hs.get fun v Z₃ s₃ x₃ pv => k v Z₃ s₃ ((x₁.trans x₂).trans x₃) pv
theorem ev_callB {x : Str} {id : String} (hf : EV C n Φ (eval (.Name x p) env) (isv (.builtin id))) (ha : EL C n Φ (spliced (backTo pos (starEach (e :: es) env))) Ps) (hc : FN C n (.builtin id) Ps R)
    (he : starEach (e :: es) env = (false, eval e env) :: starEach es env := by rfl) (hp : (backTo pos (starEach es env)).any (·.1) = false := by rfl) :
    EV C n Φ (eval (.Call (.Name x p) (e :: es) [] pos) env) R := fun A s Z Q E hA I H k => by
  refine wpAny_Call_NameR (hf A s Z _ E hA I H fun v Z₁ s₁ x₁ pv => ?_)
  cases pv
  refine callWith_builtin1 (ha A s₁ Z₁ _ E hA x₁.inv (Φ.stable I H x₁) fun vs Z₂ s₂ x₂ hs => ?_) he hp
  exact hc A s₂ Z₂ vs Q E hA x₂.inv hs.length hs.get fun v Z₃ s₃ x₃ pv => k v Z₃ s₃ ((x₁.trans x₂).trans x₃) pv
theorem ev_callT {x : Str} {id : String} (hf : EV C n Φ (eval (.Name x p) env) (isv (.type id))) (ha : EL C n Φ (spliced (backTo pos (starEach (e :: es) env))) Ps) (hc : FN C n (.type id) Ps R)
    (he : starEach (e :: es) env = (false, eval e env) :: starEach es env := by rfl) (hp : (backTo pos (starEach es env)).any (·.1) = false := by rfl) :
    EV C n Φ (eval (.Call (.Name x p) (e :: es) [] pos) env) R := fun A s Z Q E hA I H k => by
  refine wpAny_Call_NameR (hf A s Z _ E hA I H fun v Z₁ s₁ x₁ pv => ?_)
  cases pv
  refine callWith_type1 (ha A s₁ Z₁ _ E hA x₁.inv (Φ.stable I H x₁) fun vs Z₂ s₂ x₂ hs => ?_) he hp
  exact hc A s₂ Z₂ vs Q E hA x₂.inv hs.length hs.get fun v Z₃ s₃ x₃ pv => k v Z₃ s₃ ((x₁.trans x₂).trans x₃) pv
-- displays
theorem ev_list {ds : List PV} (h : EL C n Φ (spliced (backTo pos (starEach es env))) (ds.map is)) (hsz : ds.length ≤ sizeLine) : EV C n Φ (eval (.List es pos) env) (is (.list ds)) := fun A s Z Q E hA I H k => by
  refine List_ (h A s Z _ E hA I H fun vs Z₁ s₁ x₁ hs => ?_)
  have hl : vs.length = ds.length := by rw [hs.length, List.length_map]
  refine wpAny_newObj_type ?_ (by show vs.toArray.size ≤ sizeLine; rw [List.size_toArray, hl]; exact hsz)
  have st := StepX.alloc (X := No) x₁.inv (o := { cls := .type "list", data := .seq vs.toArray }) (t := s₁.toks) rfl
  exact k _ _ _ (x₁.trans st) (.list (n := 0) (put_self (Z := Z₁)) (hs.rd.le st.le))
theorem ev_tup {ds : List PV} {kk : Nat} (h : EL C n Φ (spliced (backTo pos (starEach es env))) (ds.map is)) (hsz : ds.length ≤ sizeLine) : EV C n Φ (eval (.Tuple es kk pos) env) (is (.tup ds)) := fun A s Z Q E hA I H k => by
  refine Tuple_ (h A s Z _ E hA I H fun vs Z₁ s₁ x₁ hs => ?_)
  have hl : vs.length = ds.length := by rw [hs.length, List.length_map]
  refine wpAny_newObj_type ?_ (by show vs.toArray.size ≤ sizeLine; rw [List.size_toArray, hl]; exact hsz)
  have st := StepX.alloc (X := No) x₁.inv (o := { cls := .type "tuple", data := .seq vs.toArray }) (t := s₁.toks) rfl
  exact k _ _ _ (x₁.trans st) (.tup (n := 0) (put_self (Z := Z₁)) (hs.rd.le st.le))
-- items
theorem ev_sub {v sl : Expr} {Pv Pi : Vp} (hv : EV C n Φ (eval v env) Pv) (hi : EV C n Φ (eval sl env) Pi) (ho : OP2 C n (subscriptTail v sl) Pv Pi R) : EV C n Φ (eval (.Subscript v sl pos) env) R := fun A s Z Q E hA I H k => by
  refine Subscript_ (hv A s Z _ E hA I H fun a Z₁ s₁ x₁ pa => ?_)
  refine hi A s₁ Z₁ _ E hA x₁.inv (Φ.stable I H x₁) fun b Z₂ s₂ x₂ pb => ?_
  exact ho A s₂ Z₂ a b Q E hA x₂.inv (Pv.mono x₂.le pa) pb fun r Z₃ s₃ x₃ pr => k r Z₃ s₃ ((x₁.trans x₂).trans x₃) pr
theorem isList_of {Z : Fz} {s : Shared} (I : Inv C Z s) {a : Addr} {m : Nat} {vs : List Value} (h : Z a = some { cls := .type "list", data := .seq vs.toArray m }) : s.heap.IsList a vs.toArray :=
  ⟨_, I.heap _ _ h, rfl, m, rfl⟩
theorem isTup_of {Z : Fz} {s : Shared} (I : Inv C Z s) {a : Addr} {m : Nat} {vs : List Value} (h : Z a = some { cls := .type "tuple", data := .seq vs.toArray m }) : IsTup s.heap a vs.toArray :=
  ⟨_, I.heap _ _ h, rfl, m, rfl⟩
theorem op_item_list {v sl : Expr} {ds : List PV} {i : Int} {j : Nat} {d : PV} (hj : seqIndex? i ds.length = some j) (hd : ds[j]? = some d) (hsz : ds.length < 2 ^ 62)
    (hs : ∀ o i, subscripted sl false o i = operate [o, i] (getItem o i) := by intro _ _; rfl) : OP2 C n (subscriptTail v sl) (is (.list ds)) (is (.int i)) (is d) := fun A s Z u w Q E hA I hu hw k => by
  obtain ⟨_, _, _, rfl, h, r⟩ := rdi hu
  obtain ⟨_, rfl⟩ := rdi hw
  rename_i m vs t
  obtain ⟨x, ex, px⟩ := r.get hd
  have hl := isList_of I h
  have len := r.length
  have sz : vs.toArray.size = ds.length := by rw [List.size_toArray, len]
  unfold seqIndex? at hj
  refine tail_any hl.typeIs slot_list_getitem.lookup ?_ (hs _ _)
  by_cases h0 : i < 0
  · simp only [h0, if_true] at hj
    split at hj
    · rename_i hb
      simp only [Bool.and_eq_true, decide_eq_true_eq] at hb
      cases hj
      exact wpAny_getItem_list_neg hl h0 (by rw [sz]; lia) (by lia) (by rw [sz]; simpa using ex) (k x Z s (StepX.refl I) px)
    · cases hj
  · simp only [h0, if_false] at hj
    split at hj
    · rename_i hb
      simp only [Bool.and_eq_true, decide_eq_true_eq] at hb
      cases hj
      exact wpAny_getItem_list hl (by lia) (by lia) (by simpa using ex) (k x Z s (StepX.refl I) px)
    · cases hj
theorem op_item_tup {v sl : Expr} {ds : List PV} {i : Int} {j : Nat} {d : PV} (hj : seqIndex? i ds.length = some j) (hd : ds[j]? = some d) (hlo : -(2 ^ 63) ≤ i) (hhi : i < 2 ^ 63)
    (hs : ∀ o i, subscripted sl false o i = operate [o, i] (getItem o i) := by intro _ _; rfl) : OP2 C n (subscriptTail v sl) (is (.tup ds)) (is (.int i)) (is d) := fun A s Z u w Q E hA I hu hw k => by
  obtain ⟨_, _, _, rfl, h, r⟩ := rdi hu
  obtain ⟨_, rfl⟩ := rdi hw
  obtain ⟨x, ex, px⟩ := r.get hd
  exact item_tupleT (isTup_of I h) hlo hhi (by rw [r.length]; exact hj) ex (k x Z s (StepX.refl I) px) (hs _ _)
theorem fn_len_list {ds : List PV} (hsz : ds.length < 2 ^ 62) : FN C n (.builtin "len") [is (.list ds)] (is (.int ds.length)) := fn1 fun A s Z v Q E hA I h k => by
  obtain ⟨_, _, _, rfl, h, r⟩ := rdi h
  have e := r.length
  refine Calls.call_len_list (isList_of I h) (by rw [List.size_toArray, e]; lia) ?_
  rw [List.size_toArray, e]
  exact k _ Z _ (Step.toks I _) (.int _ _)
theorem fn_len_str {x : Str} (hsz : x.length < 2 ^ 62) : FN C n (.builtin "len") [is (.str x)] (is (.int x.length)) := fn1 fun A s Z v Q E hA I h k => by
  cases h with
  | str => exact P.len_str (by lia) (k _ Z _ (Step.toks I _) (.int _ _))
end
end
section
noncomputable def GlobZ (C : Cx) (x : Str) (v : Value) : Prop := ∀ h : Heap, (∀ b o, C.Z0 b = some o → h.get? b = some o) → ∃ mg, h.Ns mainGlobals mg ∧ mg x = some v
noncomputable def BltZ (C : Cx) (x : Str) (v : Value) : Prop := ∀ h : Heap, (∀ b o, C.Z0 b = some o → h.get? b = some o) → ∃ mg mb, h.Ns mainGlobals mg ∧ mg x = none ∧ h.Ns builtinsNs mb ∧ mb x = some v
section
variable {C : Cx} {n : Nat} {X : Addr → Prop} {Φ Ψ Θ : Asn C} {R P : Vp} {env : Env} {nm oc : List Str} {sc : List (Str × NameKind)} {st : Stmt} {rest b o : List Stmt} {pos : Pos} {ρ ρ' : List (Option Vp)} {ω : List (Addr × List PV)} {κ : Addr → Option Obj}
theorem ev_glob {x : Str} {v : Value} (hg : GlobZ C x v) (hk : sc.lookup x = some .globalImplicit) (hd : (x == ("__debug__" : Str)) = false) :
    EV C n (FS C env nm oc sc X ρ ω κ) (eval (.Name x pos) env) (isv v) := fun A s Z Q E hA I H k => by
  obtain ⟨mg, hn, hv⟩ := hg s.heap fun b o e => I.heap _ _ (I.base _ _ e)
  exact Calls.Name_function_global H.fn (by rw [← hk, ← H.names]; rfl) (Calls.loadGlobal_global (by rw [H.gl]; exact hn) hv (k v Z s (StepX.refl I) rfl)) hd
theorem ev_blt {x : Str} {v : Value} (hg : BltZ C x v) (hk : sc.lookup x = some .globalImplicit) (hd : (x == ("__debug__" : Str)) = false) :
    EV C n (FS C env nm oc sc X ρ ω κ) (eval (.Name x pos) env) (isv v) := fun A s Z Q E hA I H k => by
  obtain ⟨mg, mb, hn, hm, hnb, hv⟩ := hg s.heap fun b o e => I.heap _ _ (I.base _ _ e)
  exact Calls.Name_function_global H.fn (by rw [← hk, ← H.names]; rfl) (Calls.loadGlobal_builtin (by rw [H.gl]; exact hn) hm (by rw [H.bl]; exact hnb) hv (k v Z s (StepX.refl I) rfl)) hd
theorem ev_conv {t : Sem Value} (h : EV C n Φ t P) (e : ∀ {Z v}, P.at_ Z v → R.at_ Z v) : EV C n Φ t R := fun A s Z Q E hA I H k => h A s Z Q E hA I H fun v Z' s' x p => k v Z' s' x (e p)
theorem ev_d {t : Sem Value} {d d' : PV} (h : EV C n Φ t (is d)) (e : d = d') : EV C n Φ t (is d') := e ▸ h
theorem tv_eq {t : Sem Bool} {b c : Bool} (h : TV C n Φ t b) (e : b = c) : TV C n Φ t c := e ▸ h
theorem execs_append (b rest : List Stmt) (env : Env) : execs (b ++ rest) env = (execs b env >>= fun f => match f with | .next => execs rest env | f => pure f) := by
  induction b with
  | nil => rfl
  | cons st b ih =>
    have e1 : execs (st :: (b ++ rest)) env = (exec st env >>= fun f => match f with | .next => execs (b ++ rest) env | f => pure f) := rfl
    have e2 : execs (st :: b) env = (exec st env >>= fun f => match f with | .next => execs b env | f => pure f) := rfl
    rw [List.cons_append, e1, e2, ih]
    show Sem.bind _ _ = Sem.bind (Sem.bind _ _) _
    rw [Sem.bind_assoc]
    congr 1
    funext f
    cases f <;> rfl
theorem execs_if {t : Expr} (b o rest : List Stmt) (pos : Pos) : execs (.If t b o pos :: rest) env =
    (standAt pos >>= fun _ => isTrue t env (eval t env) >>= fun c => if c = true then execs (b ++ rest) env else execs (o ++ rest) env) := by
  have e1 : execs (.If t b o pos :: rest) env = (exec (.If t b o pos) env >>= fun f => match f with | .next => execs rest env | f => pure f) := rfl
  rw [e1, exec_If]
  show Sem.bind (Sem.bind _ _) _ = Sem.bind _ _
  rw [Sem.bind_assoc]
  congr 1
  funext _
  show Sem.bind (Sem.bind _ _) _ = Sem.bind _ _
  rw [Sem.bind_assoc]
  congr 1
  funext c
  cases c <;> simp only [execs_append, Bool.false_eq_true, if_false, if_true] <;> rfl
theorem ex_ifs {t : Expr} {c : Bool} (ht : TV C n Φ (isTrue t env (eval t env)) c) (hb : c = true → EX C n X Φ (execs (b ++ rest) env) Ψ R) (ho : c = false → EX C n X Φ (execs (o ++ rest) env) Ψ R) :
    EX C n X Φ (execs (.If t b o pos :: rest) env) Ψ R := fun A s Z Q E hA I H k kr => by
  rw [execs_if]
  refine wpAny_bind (wpAny_standAt (wpAny_bind (ht A s Z _ E hA I H fun Z₁ s₁ x₁ => ?_)))
  cases c with
  | true => exact hb rfl A s₁ Z₁ Q E hA x₁.inv (Φ.stable I H x₁) (fun Z₂ s₂ x₂ H₂ => k Z₂ s₂ (x₁.to.trans x₂) H₂) fun v Z₂ s₂ x₂ r => kr v Z₂ s₂ (x₁.to.trans x₂) r
  | false => exact ho rfl A s₁ Z₁ Q E hA x₁.inv (Φ.stable I H x₁) (fun Z₂ s₂ x₂ H₂ => k Z₂ s₂ (x₁.to.trans x₂) H₂) fun v Z₂ s₂ x₂ r => kr v Z₂ s₂ (x₁.to.trans x₂) r
end
end
section
inductive Bds (nm oc : List Str) (sc : List (Str × NameKind)) : List Expr → List Vp → List (Option Vp) → List (Option Vp) → Prop where
  | nil {ρ : List (Option Vp)} : Bds nm oc sc [] [] ρ ρ
  | cons {x : Str} {p : Pos} {ts : List Expr} {P : Vp} {Ps : List Vp} {ρ ρ₁ ρ₂ : List (Option Vp)} (u : Upd nm ρ x (some P) ρ₁) (pl : PlainName x) (k : canSt sc oc x = true) (r : Bds nm oc sc ts Ps ρ₁ ρ₂) :
      Bds nm oc sc (.Name x p :: ts) (P :: Ps) ρ ρ₂
inductive Bdn (nm oc : List Str) (sc : List (Str × NameKind)) : List Str → List Vp → List (Option Vp) → List (Option Vp) → Prop where
  | nil {ρ : List (Option Vp)} : Bdn nm oc sc [] [] ρ ρ
  | cons {x : Str} {ts : List Str} {P : Vp} {Ps : List Vp} {ρ ρ₁ ρ₂ : List (Option Vp)} (u : Upd nm ρ x (some P) ρ₁) (pl : PlainName x) (k : canSt sc oc x = true) (r : Bdn nm oc sc ts Ps ρ₁ ρ₂) :
      Bdn nm oc sc (x :: ts) (P :: Ps) ρ ρ₂
inductive Tgt (nm oc : List Str) (sc : List (Str × NameKind)) : Expr → PV → List (Option Vp) → List (Option Vp) → Prop where
  | name {x : Str} {p : Pos} {d : PV} {ρ ρ' : List (Option Vp)} (u : Upd nm ρ x (some (is d)) ρ') (pl : PlainName x) (k : canSt sc oc x = true) : Tgt nm oc sc (.Name x p) d ρ ρ'
  | tup {ts : List Expr} {kk : Nat} {p : Pos} {ds : List PV} {ρ ρ' : List (Option Vp)} (r : Bds nm oc sc ts (ds.map is) ρ ρ') : Tgt nm oc sc (.Tuple ts kk p) (.tup ds) ρ ρ'
  | lst {ts : List Expr} {kk : Nat} {p : Pos} {ds : List PV} {ρ ρ' : List (Option Vp)} (r : Bds nm oc sc ts (ds.map is) ρ ρ') : Tgt nm oc sc (.Tuple ts kk p) (.list ds) ρ ρ'
inductive Itm : Expr → PV → Fz → Heap → Value → Prop where
  | plain {t : Expr} {d : PV} {Z : Fz} {h : Heap} {v : Value} (r : Rd Z v d) : Itm t d Z h v
  | tupv {ts : List Expr} {kk : Nat} {p : Pos} {ds : List PV} {Z : Fz} {h : Heap} {T : Addr} {vals : Array Value} (t : IsTup h T vals) (r : RdL Z vals.toList ds) : Itm (.Tuple ts kk p) (.tup ds) Z h (.ref T)
section
variable {C : Cx} {n : Nat} {X : Addr → Prop} {Z Z' : Fz} {s s' : Shared} {env : Env} {nm oc : List Str} {sc : List (Str × NameKind)} {ω : List (Addr × List PV)} {κ : Addr → Option Obj} {A : Around} {E : Value → Shared → Prop} {Q : Unit → Shared → Prop}
theorem st_all (M : Model) {ts : List Expr} {Ps : List Vp} {ρ ρ' : List (Option Vp)} (B : Bds nm oc sc ts Ps ρ ρ') : ∀ {vs : List Value} {s : Shared}, Inv C Z s → FSp env nm oc sc X ρ ω κ Z s.heap → Sat Z vs Ps →
    (∀ s', StepX C X Z s Z s' → FSp env nm oc sc X ρ' ω κ Z s'.heap → Q () s') → wpAny M A (assignInOrder ((assignEach ts env).map (·.2)) vs) Q E s := by
  induction B with
  | nil =>
    intro vs s I H hs k
    obtain rfl := sati hs
    exact wpAny_pure (k s (StepX.refl I) H)
  | cons u pl kk r ih =>
    rename_i x p ts P Ps ρ ρ₁ ρ₂
    intro vs s I H hs k
    obtain ⟨_, _, rfl, hp, hr⟩ := sati hs
    rename_i v vs
    show wpAny M A (do holding vs (assign (.Name x p) env v); assignInOrder ((assignEach ts env).map (·.2)) vs) Q E s
    refine wpAny_bind (wpAny_holding (assign_Name (st_name I H hp u pl kk fun s' x' H' => ?_)))
    exact ih x'.inv H' hr fun s'' x'' H'' => k s'' (x'.trans x'') H''
theorem st_alln (M : Model) {ts : List Str} {Ps : List Vp} {ρ ρ' : List (Option Vp)} (B : Bdn nm oc sc ts Ps ρ ρ') : ∀ {vs : List Value} {s : Shared}, Inv C Z s → FSp env nm oc sc X ρ ω κ Z s.heap → Sat Z vs Ps →
    (∀ s', StepX C X Z s Z s' → FSp env nm oc sc X ρ' ω κ Z s'.heap → Q () s') → wpAny M A (assignInOrder (ts.map fun x => bindName env x) vs) Q E s := by
  induction B with
  | nil =>
    intro vs s I H hs k
    obtain rfl := sati hs
    exact wpAny_pure (k s (StepX.refl I) H)
  | cons u pl kk r ih =>
    rename_i x ts P Ps ρ ρ₁ ρ₂
    intro vs s I H hs k
    obtain ⟨_, _, rfl, hp, hr⟩ := sati hs
    rename_i v vs
    show wpAny M A (do holding vs (bindName env x v); assignInOrder (ts.map fun x => bindName env x) vs) Q E s
    refine wpAny_bind (wpAny_holding (bindName_ (st_name I H hp u pl kk fun s' x' H' => ?_)))
    exact ih x'.inv H' hr fun s'' x'' H'' => k s'' (x'.trans x'') H''
theorem Sat.app {Z : Fz} {vs vs' : List Value} {Ps Ps' : List Vp} (h : Sat Z vs Ps) (y : Sat Z vs' Ps') : Sat Z (vs ++ vs') (Ps ++ Ps') := by
  induction h with
  | nil => exact y
  | cons h _ ih => exact .cons h ih
theorem Sat.rev {Z : Fz} {vs : List Value} {Ps : List Vp} (h : Sat Z vs Ps) : Sat Z vs.reverse Ps.reverse := by
  induction h with
  | nil => exact .nil
  | cons h _ ih => rw [List.reverse_cons, List.reverse_cons]; exact ih.app (.cons h .nil)
theorem Bds.length {ts : List Expr} {Ps : List Vp} {ρ ρ' : List (Option Vp)} (B : Bds nm oc sc ts Ps ρ ρ') (env : Env) : (assignEach ts env).length = Ps.length ∧ (assignEach ts env).findIdx? (·.1) = none := by
  induction B with
  | nil => exact ⟨rfl, rfl⟩
  | @cons x p ts _ _ _ _ _ u pl kk r ih =>
    refine ⟨congrArg (· + 1) ih.1, ?_⟩
    show List.findIdx? (·.1) ((false, assign (.Name x p) env) :: assignEach ts env) = none
    rw [List.findIdx?_cons, ih.2]; rfl
theorem Bdn.length {ts : List Str} {Ps : List Vp} {ρ ρ' : List (Option Vp)} (B : Bdn nm oc sc ts Ps ρ ρ') : ts.length = Ps.length := by
  induction B with
  | nil => rfl
  | cons _ _ _ _ ih => exact congrArg (· + 1) ih
theorem asg {t : Expr} {d : PV} {v : Value} {ρ ρ' : List (Option Vp)} (T : Tgt nm oc sc t d ρ ρ') (i : Itm t d Z s.heap v) (hA : A.handled = none) (I : Inv C Z s) (H : FSp env nm oc sc X ρ ω κ Z s.heap)
    (k : ∀ s', StepX C X Z s Z s' → FSp env nm oc sc X ρ' ω κ Z s'.heap → Q () s') : wpAny (model C.prog C.w) A (assign t env v) Q E s := by
  have mk : ∀ {h' : Heap}, Heap.ExtBut s.heap.objs.size s.heap h' → Step C Z s Z { s with heap := h' } := fun he =>
    .keeps (t := s.toks) I fun b o e => he b o (Nat.ne_of_lt (Heap.lt_size e)) e
  cases T with
  | name u pl kk =>
    cases i with
    | plain r => exact assign_Name (st_name I H r u pl kk k)
  | tup r =>
    rename_i ts kk p ds
    have go : ∀ {T : Addr} {vals : Array Value}, IsTup s.heap T vals → RdL Z vals.toList ds → wpAny (model C.prog C.w) A (assign (.Tuple ts kk p) env (.ref T)) Q E s := fun {T vals} ht hr => by
      have l := r.length env
      refine assign_Tuple_tuple hA ht (by rw [l.1, List.length_map, ← hr.length, Array.length_toList]) l.2 fun h' he => ?_
      have st := mk he
      exact st_all _ r st.inv ((FS C env nm oc sc X ρ ω κ).stable I H st) (Sat.of_rd hr) fun s'' x H'' => k s'' (st.to.trans x) H''
    cases i with
    | plain r' =>
      cases r' with
      | tup h hr => exact go ⟨_, I.heap _ _ h, rfl, _, rfl⟩ hr
    | tupv ht hr => exact go ht hr
  | lst r =>
    rename_i ts kk p ds
    cases i with
    | plain r' =>
      obtain ⟨_, _, _, rfl, h, hr⟩ := rdi r'
      have l := r.length env
      rename_i a m vs
      have hl := isList_of I h
      rw [assign_Tuple]
      refine wpAny_bind (wpAny_standAt ?_)
      unfold unpack
      rw [l.2, show (assignEach ts env).length = vs.toArray.size by rw [l.1, List.length_map, ← hr.length, List.size_toArray]]
      refine wpAny_bind (wpAny_holding (kun_itemsOf hA hl fun h' he => ?_))
      have st := mk he
      exact st_all _ r st.inv ((FS C env nm oc sc X ρ ω κ).stable I H st) (Sat.of_rd hr) fun s'' x H'' => k s'' (st.to.trans x) H''
theorem ex_asgT {t : Expr} {ts : List Expr} {kk : Nat} {p pos : Pos} {R : Vp} {d : PV} {ρ ρ' : List (Option Vp)} {e : Expr} (he : EV C n (FS C env nm oc sc X ρ ω κ) (eval e env) (is d)) (T : Tgt nm oc sc (.Tuple ts kk p) d ρ ρ')
    (hs : swapsWithSole [.Tuple ts kk p] e pos.line env = pure false) (hw : swappedStores [.Tuple ts kk p] e env = pure none) :
    EX C n X (FS C env nm oc sc X ρ ω κ) (exec (.Assign [.Tuple ts kk p] e pos) env) (FS C env nm oc sc X ρ' ω κ) R := fun A s Z Q E hA I H k kr => by
  refine PyProof.Rows.Assign_Tuple (he A s Z _ E hA I H fun v Z₁ s₁ x₁ pv => ?_) hs hw
  exact asg T (.plain pv) hA.handled x₁.inv ((FS C env nm oc sc X ρ ω κ).stable I H x₁) fun s' x' H' => k Z₁ s' (x₁.to.trans x') H'
noncomputable def EVN (C : Cx) (n : Nat) (Φ : Asn C) (t : Sem Value) (mk : Addr → Vp) (ds : List PV) : Prop :=
  ∀ (A : Around) (s : Shared) (Z : Fz) (Q : Value → Shared → Prop) (E : Value → Shared → Prop), Room n A → Inv C Z s → Φ.at_ Z s.heap →
    (∀ a v Z' s', Step C Z s Z' s' → s.heap.get? a = none → Owned Z' s'.heap (a, ds) → (mk a).at_ Z' v → Q v s') → wpAny (model C.prog C.w) A t Q E s
theorem FSp.owns {ρ : List (Option Vp)} {a : Addr} {ds : List PV} (H : FSp env nm oc sc X ρ ω κ Z s.heap) (I : Inv C Z s) (x : Step C Z s Z' s') (hf : s.heap.get? a = none) (ho : Owned Z' s'.heap (a, ds)) :
    FSp env nm oc sc X ρ ((a, ds) :: ω) κ Z' s'.heap := by
  have H' := (FS C env nm oc sc X ρ ω κ).stable I H x
  have hne : ∀ b o, s.heap.get? b = some o → a ≠ b := fun b o e q => by rw [← q, hf] at e; cases e
  refine ⟨H'.names, H'.gl, H'.bl, H'.cellH, H'.fn, H'.nodup, H'.apart, H'.loc, H'.locX, H'.locZ, H'.cells, H'.cellX, H'.cof, H'.vars, fun p hp => ?_, fun p hp => ?_, ?_, fun b o e => ?_, H'.heldX⟩
  · rcases List.mem_cons.mp hp with rfl | hp
    · exact ho
    · exact H'.own p hp
  · rcases List.mem_cons.mp hp with rfl | hp
    · exact H.cof a hf
    · exact H'.ownX p hp
  · refine List.nodup_cons.mpr ⟨fun hm => ?_, H.ownN⟩
    obtain ⟨p, hp, q⟩ := List.mem_map.mp hm
    obtain ⟨_, vs, m, e, _⟩ := H.own p hp
    exact hne _ _ e q.symm
  · obtain ⟨hz, ha, ht, hl, hc, hw⟩ := H'.held b o e
    refine ⟨hz, ha, ht, hl, hc, fun p hp => ?_⟩
    rcases List.mem_cons.mp hp with rfl | hp
    · exact fun q => hne _ _ (H.held b o e).at_ q.symm
    · exact hw p hp
theorem evn_list {ρ : List (Option Vp)} {es : List Expr} {pos : Pos} {ds : List PV} {Φ : Asn C} (h : EL C n Φ (spliced (backTo pos (starEach es env))) (ds.map is)) (hsz : ds.length ≤ sizeLine) : EVN C n Φ (eval (.List es pos) env) (fun a => isv (.ref a)) ds :=
  fun A s Z Q E hA I H k => by
  refine List_ (h A s Z _ E hA I H fun vs Z₁ s₁ x₁ hs => ?_)
  have hl : vs.length = ds.length := by rw [hs.length, List.length_map]
  refine wpAny_newObj_type ?_ (by show vs.toArray.size ≤ sizeLine; rw [List.size_toArray, hl]; exact hsz)
  have hf := get?_above (Nat.le_refl s₁.heap.objs.size)
  exact k _ _ _ _ (x₁.trans (StepX.push x₁.inv (t := s₁.toks))) ((x₁.gone hf).elim id fun q => q.elim) ⟨x₁.inv.fresh hf, vs, 0, Heap.get?_push_size _ rfl, hs.rd⟩ rfl
theorem ex_new {R : Vp} {ρ ρ' : Addr → List (Option Vp)} {ρ₀ : List (Option Vp)} {x : Str} {xp pos : Pos} {e : Expr} {mk : Addr → Vp} {ds : List PV} {rest : List Stmt} {Ψ : Asn C} (he : EVN C n (FS C env nm oc sc X ρ₀ ω κ) (eval e env) mk ds)
    (hu : ∀ a, Upd nm ρ₀ x (some (mk a)) (ρ' a)) (pl : PlainName x) (hk : canSt sc oc x = true) (hs : swapsWith e (some (.Name x xp)) pos.line env = pure false)
    (k : ∀ a, EX C n X (FS C env nm oc sc X (ρ' a) ((a, ds) :: ω) κ) (execs rest env) Ψ R) : EX C n X (FS C env nm oc sc X ρ₀ ω κ) (execs (.Assign [.Name x xp] e pos :: rest) env) Ψ R := fun A s Z Q E hA I H kn kr => by
  refine wpAny_execs_cons (wpAny_Assign_Name (he A s Z _ E hA I H fun a v Z₁ s₁ x₁ hf ho pv => ?_) hs)
  refine st_name x₁.inv (H.owns I x₁ hf ho) pv (hu a) pl hk fun s₂ x₂ H₂ => ?_
  have x₁₂ := (x₁.to (X := X)).trans x₂
  exact k a A s₂ Z₁ Q E hA x₂.inv H₂ (fun Z₃ s₃ x₃ H₃ => kn Z₃ s₃ (x₁₂.trans x₃) H₃) fun v Z₃ s₃ x₃ r => kr v Z₃ s₃ (x₁₂.trans x₃) r
inductive TupK (C : Cx) (n : Nat) (X : Addr → Prop) (env : Env) (nm oc : List Str) (sc : List (Str × NameKind)) (ρ : List (Option Vp)) (κ : Addr → Option Obj) (fin : List Vp → List (Addr × List PV) → Prop) : List Expr → List Vp → List (Addr × List PV) → Prop where
  | nil {Ps : List Vp} {ω : List (Addr × List PV)} (h : fin Ps ω) : TupK C n X env nm oc sc ρ κ fin [] Ps ω
  | val {e : Expr} {es : List Expr} {P : Vp} {Ps : List Vp} {ω : List (Addr × List PV)} (h : EV C n (FS C env nm oc sc X ρ ω κ) (eval e env) P) (k : TupK C n X env nm oc sc ρ κ fin es (Ps ++ [P]) ω)
      (he : starEach (e :: es) env = (false, eval e env) :: starEach es env := by rfl) : TupK C n X env nm oc sc ρ κ fin (e :: es) Ps ω
  | own {e : Expr} {es : List Expr} {Ps : List Vp} {ω : List (Addr × List PV)} {mk : Addr → Vp} {ds : List PV} (h : EVN C n (FS C env nm oc sc X ρ ω κ) (eval e env) mk ds) (k : ∀ a, TupK C n X env nm oc sc ρ κ fin es (Ps ++ [mk a]) ((a, ds) :: ω))
      (he : starEach (e :: es) env = (false, eval e env) :: starEach es env := by rfl) : TupK C n X env nm oc sc ρ κ fin (e :: es) Ps ω
theorem tupK_run {ρ : List (Option Vp)} {pos : Pos} {fin : List Vp → List (Addr × List PV) → Prop} {Q : List Value → Shared → Prop} {s₀ : Shared} {Z₀ : Fz} {es : List Expr} {Ps : List Vp} {ω : List (Addr × List PV)} (T : TupK C n X env nm oc sc ρ κ fin es Ps ω)
    {A : Around} {s : Shared} {Z : Fz} {done : List Value} (hA : Room n A) (x : Step C Z₀ s₀ Z s) (H : FSp env nm oc sc X ρ ω κ Z s.heap) (hs : Sat Z done Ps)
    (k : ∀ vs Ps' ω' Z' s', Step C Z₀ s₀ Z' s' → FSp env nm oc sc X ρ ω' κ Z' s'.heap → Sat Z' (done ++ vs) Ps' → fin Ps' ω' → vs.length = es.length → Q vs s') : wpAny (model C.prog C.w) A (spliced (backTo pos (starEach es env))) Q E s := by
  induction T generalizing s Z done Q with
  | nil h => exact args_nil (k [] _ _ Z s x H (by rw [List.append_nil]; exact hs) h rfl)
  | val h kk he ih =>
    refine args_cons (h A s Z _ E hA x.inv H fun v Z₁ s₁ x₁ pv => ?_) he
    refine ih (done := done ++ [v]) (x.trans x₁) ((FS C env nm oc sc X ρ _ κ).stable x.inv H x₁) ((hs.le x₁.le).app (.cons pv .nil)) fun vs Ps' ω' Z' s' x' H' hs' hf hl => k _ Ps' ω' Z' s' x' H' ?_ hf (congrArg (· + 1) hl)
    rw [List.append_assoc] at hs'; exact hs'
  | own h kk he ih =>
    refine args_cons (h A s Z _ E hA x.inv H fun a v Z₁ s₁ x₁ hf ho pv => ?_) he
    refine ih a (done := done ++ [v]) (x.trans x₁) (H.owns x.inv x₁ hf ho) ((hs.le x₁.le).app (.cons pv .nil)) fun vs Ps' ω' Z' s' x' H' hs' hf hl => k _ Ps' ω' Z' s' x' H' ?_ hf (congrArg (· + 1) hl)
    rw [List.append_assoc] at hs'; exact hs'
theorem tupK_eval {ρ : List (Option Vp)} {pos : Pos} {kk : Nat} {fin : List Vp → List (Addr × List PV) → Prop} {Q : Value → Shared → Prop} {es : List Expr} {ω : List (Addr × List PV)} (T : TupK C n X env nm oc sc ρ κ fin es [] ω) {Z : Fz}
    (hA : Room n A) (I : Inv C Z s) (H : FSp env nm oc sc X ρ ω κ Z s.heap) (hsz : es.length ≤ sizeLine)
    (k : ∀ a vs Ps' ω' Z' s', Step C Z s Z' s' → IsTup s'.heap a vs.toArray → FSp env nm oc sc X ρ ω' κ Z' s'.heap → Sat Z' vs Ps' → fin Ps' ω' → Q (.ref a) s') : wpAny (model C.prog C.w) A (eval (.Tuple es kk pos) env) Q E s := by
  refine Tuple_ ?_
  refine tupK_run (s₀ := s) (Z₀ := Z) (done := []) T hA (StepX.refl I) H .nil fun vs Ps' ω' Z' s' x' H' hs' hf hl => ?_
  refine wpAny_newObj_type ?_ (by show vs.toArray.size ≤ sizeLine; rw [List.size_toArray, hl]; exact hsz)
  have st : Step C Z' s' Z' _ := StepX.push x'.inv (o := { cls := .type "tuple", data := .seq vs.toArray }) (t := s'.toks)
  exact k _ vs Ps' ω' Z' _ (x'.trans st) ⟨_, Heap.get?_push_size _ rfl, rfl, 0, rfl⟩ ((FS C env nm oc sc X ρ ω' κ).stable x'.inv H' st) (hs'.le st.le) hf
theorem ex_tup {R : Vp} {ts es : List Expr} {k1 k2 : Nat} {p1 p2 pos : Pos} {ρ : List (Option Vp)} {rest : List Stmt} {Ψ : Asn C} {ω : List (Addr × List PV)} (hs : swapsWithSole [.Tuple ts k1 p1] (.Tuple es k2 p2) pos.line env = pure false) (hw : swappedStores [.Tuple ts k1 p1] (.Tuple es k2 p2) env = pure none)
    (hsz : es.length ≤ sizeLine) (T : TupK C n X env nm oc sc ρ κ (fun Ps ω => ∃ ρ', Bds nm oc sc ts Ps ρ ρ' ∧ EX C n X (FS C env nm oc sc X ρ' ω κ) (execs rest env) Ψ R) es [] ω) :
    EX C n X (FS C env nm oc sc X ρ ω κ) (execs (.Assign [.Tuple ts k1 p1] (.Tuple es k2 p2) pos :: rest) env) Ψ R := fun A s Z Q E hA I H kn kr => by
  refine wpAny_execs_cons (PyProof.Rows.Assign_Tuple (tupK_eval T hA I H hsz fun a vs Ps' ω' Z' s' x' ht H' hs' hf => ?_) hs hw)
  obtain ⟨ρ', B, go⟩ := hf
  have l := B.length env
  refine assign_Tuple_tuple hA.handled ht (by rw [l.1, ← hs'.length, List.size_toArray]) l.2 fun h' he => ?_
  have st : Step C Z' s' Z' { s' with heap := h' } := .keeps (t := s'.toks) x'.inv fun b o e => he b o (Nat.ne_of_lt (Heap.lt_size e)) e
  refine st_all _ B st.inv ((FS C env nm oc sc X ρ ω' κ).stable x'.inv H' st) (by simpa using hs') fun s'' x'' H'' => ?_
  have xx := (Step.to (X := X) (x'.trans st)).trans x''
  exact go A s'' Z' Q E hA x''.inv H'' (fun Z₃ s₃ x₃ H₃ => kn Z₃ s₃ (xx.trans x₃) H₃) fun v Z₃ s₃ x₃ r => kr v Z₃ s₃ (xx.trans x₃) r
theorem ex_tup_sw {R : Vp} {ts es : List Expr} {names : List Str} {k1 k2 : Nat} {p1 p2 pos : Pos} {ρ : List (Option Vp)} {rest : List Stmt} {Ψ : Asn C} {ω : List (Addr × List PV)} (hs : swapsWithSole [.Tuple ts k1 p1] (.Tuple es k2 p2) pos.line env = pure false) (hw : swappedStores [.Tuple ts k1 p1] (.Tuple es k2 p2) env = pure (some names))
    (hsz : es.length ≤ sizeLine) (hn : names.length = es.length) (T : TupK C n X env nm oc sc ρ κ (fun Ps ω => ∃ ρ', Bdn nm oc sc names.reverse Ps.reverse ρ ρ' ∧ EX C n X (FS C env nm oc sc X ρ' ω κ) (execs rest env) Ψ R) es [] ω) :
    EX C n X (FS C env nm oc sc X ρ ω κ) (execs (.Assign [.Tuple ts k1 p1] (.Tuple es k2 p2) pos :: rest) env) Ψ R := fun A s Z Q E hA I H kn kr => by
  refine wpAny_execs_cons (PyProof.Rows.Assign_Tuple_swapped (names := names) (tupK_eval T hA I H hsz fun a vs Ps' ω' Z' s' x' ht H' hs' hf => ?_) hs hw)
  obtain ⟨ρ', B, go⟩ := hf
  have hnv : names.length = vs.toArray.size := by rw [List.size_toArray, hs'.length, ← List.length_reverse (as := names), B.length, List.length_reverse]
  rw [hnv]
  refine unpackItems_tuple hA.handled ht fun h' he => ?_
  have st : Step C Z' s' Z' { s' with heap := h' } := .keeps (t := s'.toks) x'.inv fun b o e => he b o (Nat.ne_of_lt (Heap.lt_size e)) e
  have hr : Sat Z' vs.toArray.toList.reverse Ps'.reverse := by simpa using hs'.rev
  refine st_alln (model C.prog C.w) B st.inv ((FS C env nm oc sc X ρ ω' κ).stable x'.inv H' st) hr ?_
  intro s'' x'' H''
  show wpAny (model C.prog C.w) A (execs rest env) Q E s''
  have xx := (Step.to (X := X) (x'.trans st)).trans x''
  exact go A s'' Z' Q E hA x''.inv H'' (fun Z₃ s₃ x₃ H₃ => kn Z₃ s₃ (xx.trans x₃) H₃) fun v Z₃ s₃ x₃ r => kr v Z₃ s₃ (xx.trans x₃) r
end
end
section
inductive Turns (C : Cx) (target : Expr) (I : Addr) (ds : List PV) (Z : Fz) (h : Heap) (new : Addr → Prop) : Prop where
  | mk (fp wr : List Addr) (P : Nat → Value → Heap → Prop) (Md : Nat → Value → Heap → Prop) (St : Nat → Heap → Prop) (w : ∀ A : Around, A.handled = none → KTurns C.prog C.w A target I fp wr ds.length P Md St) (st : St 0 h) (wz : ∀ b ∈ wr, Z b = none)
    (fz : ∀ b ∈ fp, (∃ o, Z b = some o) ∨ (new b ∧ Z b = none)) (ob : ∀ i h', St i h' → ∀ b ∈ fp, ∃ o, h'.get? b = some o ∧ (Z b = none → ∀ ps, o ≠ tabObj ps))
    (it : ∀ i v h' d Z', Le Z Z' → (∀ b o, Z' b = some o → h'.get? b = some o) → ds[i]? = some d → P i v h' → Itm target d Z' h' v)
    (self : ∀ (A : Around) i (s : Shared) (Q : Value → Shared → Prop) (E : Value → Shared → Prop), A.handled = none → St i s.heap → Q (.ref I) s → wpAny (model C.prog C.w) A (pyIter (.ref I)) Q E s)
noncomputable def IT (C : Cx) (n : Nat) (Φ : Asn C) (iter : Expr) (env : Env) (target : Expr) (ds : List PV) : Prop :=
  ∀ (A : Around) (s : Shared) (Z : Fz) (Q : Value → Shared → Prop) (E : Value → Shared → Prop), Room n A → Inv C Z s → Φ.at_ Z s.heap →
    (∀ I Z' s', Step C Z s Z' s' → Turns C target I ds Z' s'.heap (fun b => s.heap.get? b = none) → Q (.ref I) s') →
      wpAny (model C.prog C.w) A (eval iter env) (fun x s₁ => wpAny (model C.prog C.w) A (pyIter x) Q E s₁) E s
section
variable {C : Cx} {n : Nat} {X : Addr → Prop} {Z Z' : Fz} {s s' : Shared} {env : Env} {nm oc : List Str} {sc : List (Str × NameKind)} {ω : List (Addr × List PV)} {κ : Addr → Option Obj} {A : Around} {E : Value → Shared → Prop}
open Classical in
noncomputable def holdK (κ : Addr → Option Obj) (fp : List Addr) (Z : Fz) (h : Heap) : Addr → Option Obj := fun b => if b ∈ fp ∧ Z b = none then h.get? b else κ b
structure Beside (env : Env) (X : Addr → Prop) (ω : List (Addr × List PV)) (κ : Addr → Option Obj) (tabs : List (Addr × Pos × Str)) (b : Addr) : Prop where
  x : X b
  loc : b ≠ env.locals
  cell : ∀ n c, env.cells.lookup n = some c → b ≠ c
  own : ∀ p ∈ ω, b ≠ p.1
  held : κ b = none
  tab : ∀ t ∈ tabs, b ≠ t.1
theorem Beside.of {ρ : List (Option Vp)} (I : Inv C Z s) (H : FSp env nm oc sc X ρ ω κ Z s.heap) {b : Addr} (hb : s.heap.get? b = none) : Beside env X ω κ C.tabs b := by
  have ne : ∀ c o, s.heap.get? c = some o → b ≠ c := fun c o e q => by rw [q, e] at hb; cases hb
  refine ⟨H.cof b hb, ?_, fun n c hc => ?_, fun p hp => ?_, ?_, fun t ht => ?_⟩
  · obtain ⟨m, o, _, _, e, _⟩ := H.loc; exact ne _ _ e
  · obtain ⟨_, v, o, e, _⟩ := H.cells n c hc; exact ne _ _ e
  · obtain ⟨_, vs, m, e, _⟩ := H.own p hp; exact ne _ _ e
  · cases e : κ b with
    | none => rfl
    | some o => exact absurd rfl (ne _ _ (H.held b o e).at_)
  · obtain ⟨ps, e, _⟩ := I.tabs t ht; exact ne _ _ e
theorem FSp.hold {ρ : List (Option Vp)} {fp : List Addr} (H : FSp env nm oc sc X ρ ω κ Z s.heap) (hb : ∀ b ∈ fp, Z b = none → Beside env X ω κ C.tabs b ∧ ∀ o, s.heap.get? b = some o → ∀ ps, o ≠ tabObj ps) :
    FSp env nm oc sc X ρ ω (holdK κ fp Z s.heap) Z s.heap := by
  refine ⟨H.names, H.gl, H.bl, H.cellH, H.fn, H.nodup, H.apart, H.loc, H.locX, H.locZ, H.cells, H.cellX, H.cof, H.vars, H.own, H.ownX, H.ownN, fun b o e => ?_, fun b o e => ?_⟩
  · by_cases q : b ∈ fp ∧ Z b = none
    · obtain ⟨B, ht⟩ := hb b q.1 q.2
      rw [holdK, if_pos q] at e
      exact ⟨q.2, e, ht o e, B.loc, B.cell, B.own⟩
    · rw [holdK, if_neg q] at e; exact H.held b o e
  · by_cases q : b ∈ fp ∧ Z b = none
    · exact (hb b q.1 q.2).1.x
    · rw [holdK, if_neg q] at e; exact H.heldX b o e
theorem FSp.drop {ρ : List (Option Vp)} {fp : List Addr} {Z₀ : Fz} {h₀ : Heap} (hb : ∀ b ∈ fp, Z₀ b = none → κ b = none) (H : FSp env nm oc sc X ρ ω (holdK κ fp Z₀ h₀) Z s.heap) : FSp env nm oc sc X ρ ω κ Z s.heap := by
  have k : ∀ b o, κ b = some o → holdK κ fp Z₀ h₀ b = some o := fun b o e => by
    rw [holdK, if_neg fun q => by rw [hb b q.1 q.2] at e; cases e]; exact e
  exact ⟨H.names, H.gl, H.bl, H.cellH, H.fn, H.nodup, H.apart, H.loc, H.locX, H.locZ, H.cells, H.cellX, H.cof, H.vars, H.own, H.ownX, H.ownN, fun b o e => H.held b o (k b o e), fun b o e => H.heldX b o (k b o e)⟩
theorem FSp.beside {ρ : List (Option Vp)} {W : List Addr} {h' : Heap} {t : Nat} (I : Inv C Z s) (H : FSp env nm oc sc X ρ ω κ Z s.heap) (hB : ∀ b ∈ W, Beside env X ω κ C.tabs b) (hZ : ∀ b ∈ W, Z b = none)
    (hk : ∀ b o, b ∉ W → s.heap.get? b = some o → h'.get? b = some o) : StepX C X Z s Z { s with heap := h', toks := t } ∧ FSp env nm oc sc X ρ ω κ Z h' := by
  have st : StepX C (· ∈ W) Z s Z { s with heap := h', toks := t } := .writes I (fun _ q => q) (fun b o q e => hk b o q e) (fun b q => hZ b q) fun b q => (hB b q).tab
  exact ⟨st.mono fun b q => (hB b q).x, H.step I st (fun q => (hB _ q).loc rfl) (fun n c hc q => (hB _ q).cell n c hc rfl) (fun p hp q => (hB _ q).own p hp rfl) (fun b o e q => by rw [(hB _ q).held] at e; cases e) fun b q => (hB b q).x⟩
theorem for_run {iter target : Expr} {body : List Stmt} {pos : Pos} {ds : List PV} {ρs : Nat → List (Option Vp)} {ωs : Nat → List (Addr × List PV)} {R : Vp} {A : Around} {s : Shared} {Z : Fz} {Q : Flow → Shared → Prop} {E : Value → Shared → Prop} (hit : IT C n (FS C env nm oc sc X (ρs 0) (ωs 0) κ) iter env target ds)
    (hω : ∀ i, (ωs i).map (·.1) = (ωs 0).map (·.1)) (hA : Room n A)
    (step : ∀ κ' i d, ds[i]? = some d → ∃ ρ', Tgt nm oc sc target d (ρs i) ρ' ∧ ∀ (s : Shared) (Z : Fz) (Q : Flow → Shared → Prop) (E : Value → Shared → Prop), Inv C Z s → FSp env nm oc sc X ρ' (ωs i) κ' Z s.heap →
      (∀ Z' s', StepX C X Z s Z' s' → FSp env nm oc sc X (ρs (i + 1)) (ωs (i + 1)) κ' Z' s'.heap → Q .next s') → (∀ v Z' s', StepX C X Z s Z' s' → R.at_ Z' v → Q (.ret v) s') → wpAny (model C.prog C.w) A (execs body env) Q E s)
    (hs : ∀ x, foldedSetIterable iter env x = pure x) (I : Inv C Z s) (H : FSp env nm oc sc X (ρs 0) (ωs 0) κ Z s.heap)
    (kn : ∀ Z' s', StepX C X Z s Z' s' → FSp env nm oc sc X (ρs ds.length) (ωs ds.length) κ Z' s'.heap → Q .next s') (kr : ∀ v Z' s', StepX C X Z s Z' s' → R.at_ Z' v → Q (.ret v) s') : wpAny (model C.prog C.w) A (exec (.For target iter body [] pos) env) Q E s := by
  refine wpAny_For (hit A s Z _ E hA I H fun J Z₁ s₁ x₁ T => ?_) hs
  obtain ⟨fp, wr, P, Md, St, W, st0, hwZ, hfp, hob, hItm, _⟩ := T
  replace W := W A hA.handled
  have H₁ := (FS C env nm oc sc X (ρs 0) (ωs 0) κ).stable I H x₁
  have hB0 : ∀ b ∈ fp, Z₁ b = none → s.heap.get? b = none := fun b hb hz => by
    rcases hfp b hb with ⟨o, e⟩ | ⟨e, _⟩
    · rw [hz] at e; cases e
    · exact e
  have hBw : ∀ i, ∀ b, s.heap.get? b = none → Beside env X (ωs i) κ C.tabs b := fun i b hb => by
    obtain ⟨b1, b2, b3, b4, b5, b6⟩ := Beside.of I H hb
    refine ⟨b1, b2, b3, fun p hp q => ?_, b5, b6⟩
    have : p.1 ∈ (ωs i).map (·.1) := List.mem_map.mpr ⟨p, hp, rfl⟩
    rw [hω] at this
    obtain ⟨p', hp', q'⟩ := List.mem_map.mp this
    exact b4 p' hp' (q.trans q'.symm)
  have hBwr : ∀ b ∈ wr, s.heap.get? b = none := fun b hb => hB0 b (W.sub b hb) (hwZ b hb)
  refine codeAny_forLoop_any
    (fun k s' => ∃ Z' i, StepX C X Z₁ s₁ Z' s' ∧ FSp env nm oc sc X (ρs i) (ωs i) κ Z' s'.heap ∧ St i s'.heap ∧ (∀ b ∈ fp, Z₁ b = none → Z' b = none) ∧ i ≤ ds.length ∧ k = ds.length + 1 - i) ?_ (ds.length + 1)
    ⟨Z₁, 0, StepX.refl x₁.inv, H₁, st0, fun _ _ e => e, Nat.zero_le _, rfl⟩
  rintro k s' ⟨Z', i, x', H', st', hz', hi, rfl⟩
  have hwZ' : ∀ b ∈ wr, Z' b = none := fun b hb => hz' b (W.sub b hb) (hwZ b hb)
  rcases Nat.lt_or_ge i ds.length with hlt | hge
  · refine W.item i s' _ _ hlt st' fun v h₂ tk₂ hMd hk₂ => ?_
    obtain ⟨x₂, H₂⟩ := FSp.beside (t := tk₂) x'.inv H' (fun b hb => (hBw i b (hBwr b hb))) hwZ' hk₂
    refine W.go i v _ _ _ hMd fun h₃ hP st₃ hk₃ => ?_
    obtain ⟨x₃, H₃⟩ := FSp.beside (t := tk₂) x₂.inv H₂ (fun b hb => (hBw i b (hBwr b hb))) hwZ' hk₃
    have hd : ds[i]? = some ds[i] := List.getElem?_eq_getElem hlt
    obtain ⟨ρ', T, body_⟩ := step (holdK κ fp Z' h₃) i ds[i] hd
    have H₃' : FSp env nm oc sc X (ρs i) (ωs i) (holdK κ fp Z' h₃) Z' h₃ := FSp.hold (s := { s' with heap := h₃, toks := tk₂ }) (C := C) H₃ fun b hb hz => by
      refine ⟨?_, fun o e => ?_⟩
      · rcases hfp b hb with ⟨o, e⟩ | ⟨e, _⟩
        · rw [x'.le _ _ e] at hz; cases hz
        · exact hBw i b e
      · obtain ⟨o', e', ht⟩ := hob _ _ st₃ b hb
        rw [e] at e'; cases e'
        rcases hfp b hb with ⟨o, e⟩ | ⟨_, e⟩
        · rw [x'.le _ _ e] at hz; cases hz
        · exact ht e
    refine asg T (hItm i v h₃ ds[i] Z' x'.le (fun b o e => x₃.inv.heap b o e) hd hP) hA.handled x₃.inv H₃' fun s₄ x₄ H₄ => ?_
    have xx : StepX C X Z₁ s₁ Z' s₄ := ((x'.trans x₂).trans x₃).trans x₄
    refine body_ s₄ Z' _ _ x₄.inv H₄ (fun Z₅ s₅ x₅ H₅ => ?_) fun v' Z₅ s₅ x₅ r => ?_
    · have keep5 : ∀ b ∈ fp, ∀ o, h₃.get? b = some o → s₅.heap.get? b = some o := fun b hb o e => by
        cases hz : Z' b with
        | some o' =>
          have := x₃.inv.heap b o' hz
          rw [show ({ s' with heap := h₃, toks := tk₂ } : Shared).heap = h₃ from rfl, e] at this
          cases this
          exact x₅.inv.heap b o (x₅.le b o hz)
        | none => exact (H₅.held b o (by rw [holdK, if_pos ⟨hb, hz⟩]; exact e)).at_
      refine ⟨ds.length + 1 - (i + 1), by lia, Z₅, i + 1, xx.trans x₅, ?_, W.frame _ _ _ st₃ keep5, fun b hb hz => ?_, hlt, rfl⟩
      · refine FSp.drop (fun b hb hz => ?_) H₅
        rcases hfp b hb with ⟨o, e⟩ | ⟨e, _⟩
        · rw [x'.le _ _ e] at hz; cases hz
        · exact (hBw i b e).held
      · obtain ⟨o, e, _⟩ := hob _ _ st₃ b hb
        exact (H₅.held b o (by rw [holdK, if_pos ⟨hb, hz' b hb hz⟩]; exact e)).z
    · exact kr v' Z₅ s₅ ((x₁.to (X := X)).trans (xx.trans x₅)) r
  · have hin : i = ds.length := Nat.le_antisymm hi hge
    subst hin
    refine W.done s' _ _ st' fun h₂ tk₂ hk₂ => ?_
    obtain ⟨x₂, H₂⟩ := FSp.beside (t := tk₂) x'.inv H' (fun b hb => (hBw ds.length b (hBwr b hb))) hwZ' hk₂
    exact wpAny_execs_nil (kn Z' _ ((x₁.to (X := X)).trans (x'.trans x₂)) H₂)
theorem ex_for {iter target : Expr} {body : List Stmt} {pos : Pos} {ds : List PV} {ρs : Nat → List (Option Vp)} {ωs : Nat → List (Addr × List PV)} {R : Vp} (hit : IT C n (FS C env nm oc sc X (ρs 0) (ωs 0) κ) iter env target ds)
    (hω : ∀ i, (ωs i).map (·.1) = (ωs 0).map (·.1))
    (step : ∀ κ' i d, ds[i]? = some d → ∃ ρ', Tgt nm oc sc target d (ρs i) ρ' ∧ EX C n X (FS C env nm oc sc X ρ' (ωs i) κ') (execs body env) (FS C env nm oc sc X (ρs (i + 1)) (ωs (i + 1)) κ') R)
    (hs : ∀ x, foldedSetIterable iter env x = pure x := by intro _; rfl) :
    EX C n X (FS C env nm oc sc X (ρs 0) (ωs 0) κ) (exec (.For target iter body [] pos) env) (FS C env nm oc sc X (ρs ds.length) (ωs ds.length) κ) R := fun A s Z Q E hA I H kn kr => 
  for_run hit hω hA (fun κ' i d hd => (step κ' i d hd).imp fun ρ' h => ⟨h.1, fun s Z Q E I H => h.2 A s Z Q E hA I H⟩) hs I H kn kr
end
end
section
inductive OU : List (Addr × List PV) → Addr → List PV → List PV → List (Addr × List PV) → Prop where
  | here {ω : List (Addr × List PV)} {a : Addr} {ds ds' : List PV} : OU ((a, ds) :: ω) a ds ds' ((a, ds') :: ω)
  | there {ω ω' : List (Addr × List PV)} {p : Addr × List PV} {a : Addr} {ds ds' : List PV} (r : OU ω a ds ds' ω') : OU (p :: ω) a ds ds' (p :: ω')
theorem OU.mem {a : Addr} {ds ds' : List PV} {ω ω' : List (Addr × List PV)} (u : OU ω a ds ds' ω') : (a, ds) ∈ ω := by
  induction u with
  | here => exact .head _
  | there _ ih => exact .tail _ ih
theorem OU.keys {a : Addr} {ds ds' : List PV} {ω ω' : List (Addr × List PV)} (u : OU ω a ds ds' ω') : ω'.map (·.1) = ω.map (·.1) := by
  induction u with
  | here => rfl
  | there _ ih => exact congrArg (_ :: ·) ih
theorem OU.all {Pr : Addr × List PV → Prop} {a : Addr} {ds ds' : List PV} {ω ω' : List (Addr × List PV)} (u : OU ω a ds ds' ω') (nd : (ω.map (·.1)).Nodup) (h : ∀ p ∈ ω, p.1 ≠ a → Pr p) (ha : Pr (a, ds')) (p : Addr × List PV) (hp : p ∈ ω') : Pr p := by
  induction u with
  | here =>
    rcases List.mem_cons.mp hp with rfl | hp
    · exact ha
    · exact h p (.tail _ hp) fun q => (List.nodup_cons.mp nd).1 (List.mem_map.mpr ⟨p, hp, q⟩)
  | there r ih =>
    rcases List.mem_cons.mp hp with rfl | hp
    · exact h p (.head _) fun q => (List.nodup_cons.mp nd).1 (List.mem_map.mpr ⟨_, r.mem, q.symm⟩)
    · exact ih (List.nodup_cons.mp nd).2 (fun p hp => h p (.tail _ hp)) ha hp
section
variable {C : Cx} {n : Nat} {X : Addr → Prop} {Z Z' : Fz} {s s' : Shared} {env : Env} {nm oc : List Str} {sc : List (Str × NameKind)} {ω ω' : List (Addr × List PV)} {κ : Addr → Option Obj} {A : Around} {E : Value → Shared → Prop}
theorem FSp.setOwn {ρ : List (Option Vp)} {a : Addr} {ds ds' : List PV} {vs' : List Value} {h' : Heap} {t : Nat} (I : Inv C Z s) (H : FSp env nm oc sc X ρ ω κ Z s.heap) (u : OU ω a ds ds' ω') (hs : Heap.SameBut a s.heap h') (hl : h'.PlainList a vs'.toArray) (hr : RdL Z vs' ds') :
    StepX C X Z s Z { s with heap := h', toks := t } ∧ FSp env nm oc sc X ρ ω' κ Z h' := by
  obtain ⟨hz, vs, m, e, r⟩ := H.own _ u.mem
  replace hz : Z a = none := hz
  replace e : s.heap.get? a = some { cls := .type "list", data := .seq vs.toArray m } := e
  have hX : X a := H.ownX _ u.mem
  have ht : ∀ t ∈ C.tabs, a ≠ t.1 := I.tab_fields e fun ps q => by cases q
  have st : StepX C X Z s Z { s with heap := h', toks := t } := .write I hX hs hz ht
  have nl : env.locals ≠ a := fun q => by
    obtain ⟨_, o, _, _, e', d, _⟩ := H.loc
    rw [q, e] at e'; cases e'; cases d
  have nc : ∀ n c, env.cells.lookup n = some c → c ≠ a := fun n c hc q => by
    obtain ⟨_, v, o, e', d⟩ := H.cells n c hc
    rw [q, e] at e'; cases e'; cases d
  refine ⟨st, H.names, H.gl, H.bl, H.cellH, H.fn, H.nodup, H.apart, ?_, H.locX, H.locZ, fun n c hc => ⟨(H.cells n c hc).1, ?_⟩, H.cellX, fun b hb => (st.gone hb).elim (H.cof b) id, ?_, ?_, ?_, ?_, fun b o eb => ?_, H.heldX⟩
  · obtain ⟨m, hn⟩ := H.loc; exact ⟨m, hn.sameBut hs nl⟩
  · obtain ⟨v, hv⟩ := (H.cells n c hc).2; exact ⟨v, hv.sameBut hs (nc n c hc)⟩
  · exact H.vars.keeps (Le.refl Z) (fun o e => hs.extBut _ o nl e) fun n c hc o e => hs.extBut _ o (nc n c hc) e
  · refine u.all H.ownN (fun p hp hne => ?_) (hl.elim fun n e => ⟨hz, vs', n, e, hr⟩)
    obtain ⟨hz', vs, m, e, r⟩ := H.own p hp
    exact ⟨hz', vs, m, hs.extBut _ _ hne e, r⟩
  · exact u.all H.ownN (fun p hp _ => H.ownX p hp) hX
  · rw [u.keys]; exact H.ownN
  · obtain ⟨hz', ha, htb, hl', hc', hw⟩ := H.held b o eb
    have hb : b ≠ a := hw _ u.mem
    exact ⟨hz', hs.extBut _ _ hb ha, htb, hl', hc', u.all H.ownN (fun p hp _ => hw p hp) hb⟩
theorem call_append {ρ : List (Option Vp)} {a : Addr} {d : PV} {ds : List PV} {v : Value} {Q : Value → Shared → Prop} (I : Inv C Z s) (H : FSp env nm oc sc X ρ ω κ Z s.heap) (u : OU ω a ds (ds ++ [d]) ω') (hv : Rd Z v d) (hsz : ds.length ≤ sizeLine)
    (k : ∀ s', StepX C X Z s Z s' → FSp env nm oc sc X ρ ω' κ Z s'.heap → Q .none s') : wpAny (model C.prog C.w) A (call (.builtin "list.append") [.ref a, v]) Q E s := by
  obtain ⟨hz, vs, m, e, r⟩ := H.own _ u.mem
  refine wpAny_list_append_plain ⟨m, e⟩ (fun h' hl hs => ?_) (by rw [List.size_toArray, r.length]; exact hsz)
  obtain ⟨st, H'⟩ := H.setOwn (t := s.toks) I u hs (vs' := vs ++ [v]) (by simpa using hl) (r.append (.cons hv .nil))
  exact k _ st H'
inductive OF : List (Addr × List PV) → Addr → List PV → List (Addr × List PV) → Prop where
  | here {ω : List (Addr × List PV)} {a : Addr} {ds : List PV} : OF ((a, ds) :: ω) a ds ω
  | there {ω ω' : List (Addr × List PV)} {p : Addr × List PV} {a : Addr} {ds : List PV} (r : OF ω a ds ω') : OF (p :: ω) a ds (p :: ω')
theorem OF.mem {a : Addr} {ds : List PV} {ω ω' : List (Addr × List PV)} (u : OF ω a ds ω') : (a, ds) ∈ ω := by
  induction u with
  | here => exact .head _
  | there _ ih => exact .tail _ ih
theorem OF.sub {a : Addr} {ds : List PV} {ω ω' : List (Addr × List PV)} (u : OF ω a ds ω') : ω'.Sublist ω := by
  induction u with
  | here => exact List.sublist_cons_self ..
  | there _ ih => exact ih.cons_cons _
theorem OF.ne {a : Addr} {ds : List PV} {ω ω' : List (Addr × List PV)} (u : OF ω a ds ω') (nd : (ω.map (·.1)).Nodup) (p : Addr × List PV) (hp : p ∈ ω') : p.1 ≠ a := by
  induction u with
  | here => exact fun q => (List.nodup_cons.mp nd).1 (List.mem_map.mpr ⟨p, hp, q⟩)
  | there r ih =>
    rcases List.mem_cons.mp hp with rfl | hp
    · exact fun q => (List.nodup_cons.mp nd).1 (List.mem_map.mpr ⟨_, r.mem, q.symm⟩)
    · exact ih (List.nodup_cons.mp nd).2 hp
inductive Rfz (a : Addr) (ds : List PV) : List (Option Vp) → List (Option Vp) → Prop where
  | nil : Rfz a ds [] []
  | same {o : Option Vp} {ρ ρ' : List (Option Vp)} (r : Rfz a ds ρ ρ') : Rfz a ds (o :: ρ) (o :: ρ')
  | it {ρ ρ' : List (Option Vp)} (r : Rfz a ds ρ ρ') : Rfz a ds (some (isv (.ref a)) :: ρ) (some (is (.list ds)) :: ρ')
theorem Rfz.ix {a : Addr} {ds : List PV} {ρ ρ' : List (Option Vp)} (R : Rfz a ds ρ ρ') (i : Nat) (P : Vp) (e : ρ'[i]? = some (some P)) : ρ[i]? = some (some P) ∨ (ρ[i]? = some (some (isv (.ref a))) ∧ P = is (.list ds)) := by
  induction R generalizing i with
  | nil => cases e
  | same _ ih =>
    cases i with
    | zero => exact .inl e
    | succ i => exact ih i e
  | it _ ih =>
    cases i with
    | zero => cases e; exact .inr ⟨rfl, rfl⟩
    | succ i => exact ih i e
theorem Vars.rfz {a : Addr} {ds : List PV} (hd : Rd Z (.ref a) (.list ds)) {nm : List Str} {ρ ρ' : List (Option Vp)} (R : Rfz a ds ρ ρ') {h : Heap} (H : Vars env Z h nm ρ) : Vars env Z h nm ρ' := fun i x P e1 e2 => by
  rcases R.ix i P e2 with e | ⟨e, rfl⟩
  · exact H i x P e1 e
  · obtain ⟨v, hv, hp⟩ := H i x _ e1 e
    cases hp
    exact ⟨_, hv, hd⟩
theorem FSp.freeze {ρ ρ' : List (Option Vp)} {a : Addr} {ds : List PV} (I : Inv C Z s) (H : FSp env nm oc sc X ρ ω κ Z s.heap) (u : OF ω a ds ω') (q : Rfz a ds ρ ρ') : ∃ Z', StepX C X Z s Z' s ∧ FSp env nm oc sc X ρ' ω' κ Z' s.heap ∧ Rd Z' (.ref a) (.list ds) := by
  obtain ⟨hz, vs, m, e, r⟩ := H.own _ u.mem
  replace hz : Z a = none := hz
  replace e : s.heap.get? a = some { cls := .type "list", data := .seq vs.toArray m } := e
  have ht : ∀ t ∈ C.tabs, a ≠ t.1 := I.tab_fields e fun ps q => by cases q
  have st := StepX.freeze (X := X) I (H.ownX _ u.mem) hz e ht
  have hd : Rd (put Z a { cls := .type "list", data := .seq vs.toArray m }) (.ref a) (.list ds) := .list (n := m) (put_self (Z := Z)) (r.le st.le)
  have nl : env.locals ≠ a := fun q => by
    obtain ⟨_, o, _, _, e', d, _⟩ := H.loc
    rw [q, e] at e'; cases e'; cases d
  refine ⟨_, st, ⟨H.names, H.gl, H.bl, H.cellH, H.fn, H.nodup, H.apart, H.loc, H.locX, ?_, fun n c hc => ⟨?_, (H.cells n c hc).2⟩, H.cellX, H.cof, ?_, fun p hp => ?_, fun p hp => H.ownX p (u.sub.mem hp), H.ownN.sublist (u.sub.map _), fun b o eb => ?_, H.heldX⟩, hd⟩
  · rw [put_ne nl]; exact H.locZ
  · refine (put_ne fun q => ?_).trans (H.cells n c hc).1
    obtain ⟨_, v, o, e', d⟩ := H.cells n c hc
    rw [q, e] at e'; cases e'; cases d
  · exact Vars.rfz hd q (H.vars.keeps st.le (fun _ e => e) fun _ _ _ _ e => e)
  · obtain ⟨hz', vs', m', e', r'⟩ := H.own p (u.sub.mem hp)
    exact ⟨by rw [put_ne (u.ne H.ownN p hp)]; exact hz', vs', m', e', RdL.le st.le r'⟩
  · obtain ⟨hz', ha, htb, hl', hc', hw⟩ := H.held b o eb
    exact ⟨by rw [put_ne (hw _ u.mem)]; exact hz', ha, htb, hl', hc', fun p hp => hw p (u.sub.mem hp)⟩
theorem ex_freeze {ρ ρ' : List (Option Vp)} {a : Addr} {ds : List PV} {Ψ : Asn C} {R : Vp} {rest : List Stmt} (u : OF ω a ds ω') (q : Rfz a ds ρ ρ') (k : EX C n X (FS C env nm oc sc X ρ' ω' κ) (execs rest env) Ψ R) :
    EX C n X (FS C env nm oc sc X ρ ω κ) (execs rest env) Ψ R := fun A s Z Q E hA I H kn kr => by
  obtain ⟨Z', st, H', _⟩ := H.freeze I u q
  exact k A s Z' Q E hA st.inv H' (fun Z₂ s₂ x₂ H₂ => kn Z₂ s₂ (st.trans x₂) H₂) fun v Z₂ s₂ x₂ r => kr v Z₂ s₂ (st.trans x₂) r
end
end
section
theorem turn_last {elt target iter : Expr} {ifs : List Expr} {gens : List Comprehension} {scope : Scope} {pos : Pos} {k : Nat} {it acc : Value} {env : Env} (hg : gens[k]? = some ⟨target, iter, ifs, 0⟩) (hn : gens[k + 1]? = none) :
    compTurn (.ListComp elt gens scope pos) k it acc env = (standAt iter.pos >>= fun _ => pyNext it >>= fun r => match r with
      | none => pure (.done .next)
      | some v => letOwnedTupleGo target it v >>= fun _ => assign target env v >>= fun _ =>
        (forIn ifs true fun c r => if r = true then do let ok ← isTrue c env (eval c env); pure (ForInStep.yield ok) else pure (ForInStep.yield r)) >>= fun ok =>
        if ok = true then (eval elt env >>= fun x => call (.builtin "list.append") [acc, x] >>= fun _ => pure ()) >>= fun _ => again (.compLoop (.ListComp elt gens scope pos) k it acc env)
        else again (.compLoop (.ListComp elt gens scope pos) k it acc env)) := by
  unfold compTurn
  simp only [hg, hn]
  rfl
noncomputable def TS (C : Cx) (n : Nat) (Φ : Asn C) (ifs : List Expr) (env : Env) (b : Bool) : Prop :=
  ∀ (A : Around) (s : Shared) (Z : Fz) (Q : Bool → Shared → Prop) (E : Value → Shared → Prop), Room n A → Inv C Z s → Φ.at_ Z s.heap → (∀ Z' s', Step C Z s Z' s' → Q b s') →
    wpAny (model C.prog C.w) A (forIn ifs true fun c r => if r = true then do let ok ← isTrue c env (eval c env); pure (ForInStep.yield ok) else pure (ForInStep.yield r)) Q E s
theorem ts_nil {C : Cx} {n : Nat} {Φ : Asn C} {env : Env} : TS C n Φ [] env true := fun A s Z Q E hA I H k => wpAny_tests_nil (k Z s (StepX.refl I))
theorem ts_one {C : Cx} {n : Nat} {Φ : Asn C} {env : Env} {c : Expr} {b : Bool} (h : TV C n Φ (isTrue c env (eval c env)) b) : TS C n Φ [c] env b := fun A s Z Q E hA I H k => wpAny_tests_one (h A s Z Q E hA I H k)
inductive Fgt : List (Option Vp) → List (Option Vp) → Prop where
  | nil : Fgt [] []
  | same {o : Option Vp} {ρ' ρ : List (Option Vp)} (r : Fgt ρ' ρ) : Fgt (o :: ρ') (o :: ρ)
  | drop {o : Option Vp} {ρ' ρ : List (Option Vp)} (r : Fgt ρ' ρ) : Fgt (o :: ρ') (none :: ρ)
theorem Fgt.ix {ρ ρ' : List (Option Vp)} (g : Fgt ρ' ρ) (i : Nat) (P : Vp) (e : ρ[i]? = some (some P)) : ρ'[i]? = some (some P) := by
  induction g generalizing i with
  | nil => cases e
  | same _ ih =>
    cases i with
    | zero => exact e
    | succ i => exact ih i e
  | drop _ ih =>
    cases i with
    | zero => cases e
    | succ i => exact ih i e
theorem Vars.forget {env : Env} {Z : Fz} {h : Heap} {nm : List Str} {ρ' ρ : List (Option Vp)} (g : Fgt ρ' ρ) (H : Vars env Z h nm ρ') : Vars env Z h nm ρ := fun i x P e1 e2 => H i x P e1 (g.ix i P e2)
theorem FSp.forget {env : Env} {nm oc : List Str} {sc : List (Str × NameKind)} {X : Addr → Prop} {ρ ρ' : List (Option Vp)} {ω : List (Addr × List PV)} {κ : Addr → Option Obj} {Z : Fz} {h : Heap} (g : Fgt ρ' ρ) (H : FSp env nm oc sc X ρ' ω κ Z h) : FSp env nm oc sc X ρ ω κ Z h :=
  ⟨H.names, H.gl, H.bl, H.cellH, H.fn, H.nodup, H.apart, H.loc, H.locX, H.locZ, H.cells, H.cellX, H.cof, H.vars.forget g, H.own, H.ownX, H.ownN, H.held, H.heldX⟩
noncomputable def Emits (C : Cx) (n : Nat) (X : Addr → Prop) (env : Env) (nm oc : List Str) (sc : List (Str × NameKind)) (D : Addr) (ρ : List (Option Vp)) {α : Type} (t : Sem α) (out : List PV) : Prop :=
  ∀ (A : Around) (s : Shared) (Z : Fz) (Q : α → Shared → Prop) (E : Value → Shared → Prop) (ys : List PV) (κ : Addr → Option Obj), Room n A → Inv C Z s → FSp env nm oc sc X ρ [(D, ys)] κ Z s.heap → (ys ++ out).length ≤ sizeLine →
    (∀ x Z' s', StepX C X Z s Z' s' → FSp env nm oc sc X ρ [(D, ys ++ out)] κ Z' s'.heap → Q x s') → wpAny (model C.prog C.w) A t Q E s
noncomputable def Clause (C : Cx) (n : Nat) (X : Addr → Prop) (env : Env) (nm oc : List Str) (sc : List (Str × NameKind)) (D : Addr) (ρ : List (Option Vp)) (target : Expr) (ifs : List Expr) {α : Type} (t : Sem α) (d : PV) (out : List PV) : Prop :=
  ∃ ρ' b, Tgt nm oc sc target d ρ ρ' ∧ Fgt ρ' ρ ∧ (∀ ys κ, TS C n (FS C env nm oc sc X ρ' [(D, ys)] κ) ifs env b) ∧ (b = true → Emits C n X env nm oc sc D ρ' t out) ∧ (b = false → out = [])
section
variable {C : Cx} {n : Nat} {X : Addr → Prop} {Z Z' : Fz} {s s' : Shared} {env : Env} {nm oc : List Str} {sc : List (Str × NameKind)} {ω ω' : List (Addr × List PV)} {κ : Addr → Option Obj} {A : Around} {E : Value → Shared → Prop} {ρ : List (Option Vp)} {D : Addr}
theorem em_last {elt : Expr} {d : PV} (h : ∀ ys κ, EV C n (FS C env nm oc sc X ρ [(D, ys)] κ) (eval elt env) (is d)) : Emits C n X env nm oc sc D ρ (eval elt env >>= fun x => call (.builtin "list.append") [.ref D, x] >>= fun _ => pure ()) [d] :=
  fun A s Z Q E ys κ hA I H hsz k => by
  refine wpAny_bind (h ys κ A s Z _ E hA I H fun v Z₁ s₁ x₁ pv => wpAny_bind ?_)
  refine call_append x₁.inv ((FS C env nm oc sc X ρ [(D, ys)] κ).stable I H x₁) .here pv (by simp at hsz; lia) fun s₂ x₂ H₂ => ?_
  exact wpAny_pure (k () Z₁ s₂ ((Step.to x₁).trans x₂) H₂)
theorem comp_loop {α β : Type} {elt target iter : Expr} {ifs : List Expr} {gens : List Comprehension} {scope : Scope} {pos : Pos} {k : Nat} {J : Addr} {t : Sem β} {xs : List α} {f : α → PV} {g : α → List PV} {new : Addr → Prop} {R : Result → Shared → Prop} {ys : List PV}
    (ht : compTurn (.ListComp elt gens scope pos) k (.ref J) (.ref D) env = (standAt iter.pos >>= fun _ => pyNext (.ref J) >>= fun r => match r with
      | none => pure (.done .next)
      | some v => letOwnedTupleGo target (.ref J) v >>= fun _ => assign target env v >>= fun _ =>
        (forIn ifs true fun c r => if r = true then do let ok ← isTrue c env (eval c env); pure (ForInStep.yield ok) else pure (ForInStep.yield r)) >>= fun ok =>
        if ok = true then t >>= fun _ => again (.compLoop (.ListComp elt gens scope pos) k (.ref J) (.ref D) env)
        else again (.compLoop (.ListComp elt gens scope pos) k (.ref J) (.ref D) env)))
    (step : ∀ x ∈ xs, Clause C n X env nm oc sc D ρ target ifs t (f x) (g x)) (hA : Room n A) (I : Inv C Z s) (H : FSp env nm oc sc X ρ [(D, ys)] κ Z s.heap) (T : Turns C target J (xs.map f) Z s.heap new)
    (hnew : ∀ b, new b → Z b = none → Beside env X [(D, ys)] κ C.tabs b) (hsz : (ys ++ xs.flatMap g).length ≤ sizeLine)
    (hR : ∀ Z' s', StepX C X Z s Z' s' → FSp env nm oc sc X ρ [(D, ys ++ xs.flatMap g)] κ Z' s'.heap → R (.ok .next) s') :
    codeAny (model C.prog C.w) A (.compLoop (.ListComp elt gens scope pos) k (.ref J) (.ref D) env) R s := by
  obtain ⟨fp, wr, P, Md, St, W, st0, hwZ, hfp, hob, hItm, _⟩ := T
  replace W := W A hA.handled
  have hB0 : ∀ b ∈ fp, Z b = none → ∀ zs, Beside env X [(D, zs)] κ C.tabs b := fun b hb hz zs => by
    rcases hfp b hb with ⟨o, e⟩ | ⟨e, _⟩
    · rw [hz] at e; cases e
    · obtain ⟨b1, b2, b3, b4, b5, b6⟩ := hnew b e hz
      exact ⟨b1, b2, b3, fun p hp => by rw [List.mem_singleton.mp hp]; exact b4 (D, ys) (.head _), b5, b6⟩
  have hBwr : ∀ zs, ∀ b ∈ wr, Beside env X [(D, zs)] κ C.tabs b := fun zs b hb => hB0 b (W.sub b hb) (hwZ b hb) zs
  have hpre : ∀ i, (ys ++ (xs.take i).flatMap g).length ≤ sizeLine := fun i => by
    refine Nat.le_trans ?_ hsz
    have : xs.flatMap g = (xs.take i).flatMap g ++ (xs.drop i).flatMap g := by rw [← List.flatMap_append, List.take_append_drop]
    rw [this]; simp only [List.length_append]; lia
  refine codeAny_loop' rfl
    (fun m s' => ∃ Z' i, StepX C X Z s Z' s' ∧ FSp env nm oc sc X ρ [(D, ys ++ (xs.take i).flatMap g)] κ Z' s'.heap ∧ St i s'.heap ∧ (∀ b ∈ fp, Z b = none → Z' b = none) ∧ i ≤ xs.length ∧ m = xs.length + 1 - i) ?_ (xs.length + 1)
    ⟨Z, 0, StepX.refl I, by simpa using H, st0, fun _ _ e => e, Nat.zero_le _, rfl⟩
  rintro m s' ⟨Z', i, x', H', st', hz', hi, rfl⟩
  show wpAny _ A ((compTurn (.ListComp elt gens scope pos) k (.ref J) (.ref D) env).onRaise (fun x => do noteFrame x env; theTreesLotGoes x)) _ _ s'
  refine wpAny_noted ?_
  rw [ht]
  refine wpAny_bind (wpAny_standAt (wpAny_bind ?_))
  have hwZ' : ∀ b ∈ wr, Z' b = none := fun b hb => hz' b (W.sub b hb) (hwZ b hb)
  rcases Nat.lt_or_ge i xs.length with hlt | hge
  · refine W.item i s' _ _ (by rw [List.length_map]; exact hlt) st' fun v h₂ tk₂ hMd hk₂ => ?_
    obtain ⟨x₂, H₂⟩ := FSp.beside (t := tk₂) x'.inv H' (hBwr _) hwZ' hk₂
    refine wpAny_bind (W.go i v _ _ _ hMd fun h₃ hP st₃ hk₃ => ?_)
    obtain ⟨x₃, H₃⟩ := FSp.beside (t := tk₂) x₂.inv H₂ (hBwr _) hwZ' hk₃
    have hd : (xs.map f)[i]? = some (f xs[i]) := by rw [List.getElem?_map, List.getElem?_eq_getElem hlt]; rfl
    obtain ⟨ρ', b, T, gt, ts, em1, em0⟩ := step xs[i] (List.getElem_mem hlt)
    have H₃' : FSp env nm oc sc X ρ [(D, ys ++ (xs.take i).flatMap g)] (holdK κ fp Z' h₃) Z' h₃ := FSp.hold (s := { s' with heap := h₃, toks := tk₂ }) (C := C) H₃ fun b hb hz => by
      have hz0 : Z b = none := by
        cases e : Z b with
        | none => rfl
        | some o => rw [x'.le _ _ e] at hz; cases hz
      refine ⟨hB0 b hb hz0 _, fun o e => ?_⟩
      obtain ⟨o', e', ht⟩ := hob _ _ st₃ b hb
      rw [e] at e'; cases e'
      exact ht hz0
    refine wpAny_bind (asg T (hItm i v h₃ _ Z' x'.le (fun b o e => x₃.inv.heap b o e) hd hP) hA.handled x₃.inv H₃' fun s₄ x₄ H₄ => wpAny_bind ?_)
    have xx : StepX C X Z s Z' s₄ := ((x'.trans x₂).trans x₃).trans x₄
    have take1 : (xs.take (i + 1)).flatMap g = (xs.take i).flatMap g ++ g xs[i] := by
      rw [List.take_add_one, List.getElem?_eq_getElem hlt, List.flatMap_append, show (some xs[i]).toList = [xs[i]] from rfl, List.flatMap_cons, List.flatMap_nil, List.append_nil]
    have fin : ∀ Z₅ s₅, StepX C X Z' s₄ Z₅ s₅ → FSp env nm oc sc X ρ' [(D, (ys ++ (xs.take i).flatMap g) ++ g xs[i])] (holdK κ fp Z' h₃) Z₅ s₅.heap →
        ∃ m, m < xs.length + 1 - i ∧ ∃ Z' i, StepX C X Z s Z' s₅ ∧ FSp env nm oc sc X ρ [(D, ys ++ (xs.take i).flatMap g)] κ Z' s₅.heap ∧ St i s₅.heap ∧ (∀ b ∈ fp, Z b = none → Z' b = none) ∧ i ≤ xs.length ∧ m = xs.length + 1 - i := fun Z₅ s₅ x₅ H₅ => by
      have keep5 : ∀ b ∈ fp, ∀ o, h₃.get? b = some o → s₅.heap.get? b = some o := fun b hb o e => by
        cases hz : Z' b with
        | some o' =>
          have := x₃.inv.heap b o' hz
          rw [show ({ s' with heap := h₃, toks := tk₂ } : Shared).heap = h₃ from rfl, e] at this
          cases this
          exact x₅.inv.heap b o (x₅.le b o hz)
        | none => exact (H₅.held b o (by rw [holdK, if_pos ⟨hb, hz⟩]; exact e)).at_
      refine ⟨xs.length + 1 - (i + 1), by lia, Z₅, i + 1, xx.trans x₅, ?_, W.frame _ _ _ st₃ keep5, fun b hb hz => ?_, hlt, rfl⟩
      · rw [take1, ← List.append_assoc]
        refine FSp.forget gt (FSp.drop (fun b hb hz => ?_) H₅)
        refine (hB0 b hb ?_ []).held
        cases e : Z b with
        | none => rfl
        | some o => rw [x'.le _ _ e] at hz; cases hz
      · obtain ⟨o, e, _⟩ := hob _ _ st₃ b hb
        exact (H₅.held b o (by rw [holdK, if_pos ⟨hb, hz' b hb hz⟩]; exact e)).z
    refine ts _ _ A s₄ Z' _ _ hA x₄.inv H₄ fun Z₅ s₅ x₅ => ?_
    have H₅ := (FS C env nm oc sc X ρ' [(D, ys ++ (xs.take i).flatMap g)] (holdK κ fp Z' h₃)).stable x₄.inv H₄ x₅
    cases b with
    | true =>
      rw [if_pos rfl]
      refine wpAny_bind (em1 rfl A s₅ Z₅ _ _ _ _ hA x₅.inv H₅ ?_ fun _ Z₆ s₆ x₆ H₆ => wpAny_pure (.inl ⟨rfl, fin Z₆ s₆ ((Step.to x₅).trans x₆) H₆⟩))
      rw [List.append_assoc, ← take1]; exact hpre _
    | false =>
      rw [if_neg (by decide)]
      refine wpAny_pure (.inl ⟨rfl, fin Z₅ s₅ (Step.to x₅) ?_⟩)
      rw [em0 rfl, List.append_nil]; exact H₅
  · have hin : i = xs.length := Nat.le_antisymm hi hge
    subst hin
    refine W.done s' _ _ (by rw [List.length_map]; exact st') fun h₂ tk₂ hk₂ => ?_
    obtain ⟨x₂, H₂⟩ := FSp.beside (t := tk₂) x'.inv H' (hBwr _) hwZ' hk₂
    rw [List.take_length] at H₂
    exact wpAny_pure (hR Z' _ (x'.trans x₂) H₂)
end
end
section
section
variable {C : Cx} {n : Nat} {X : Addr → Prop} {Z Z' : Fz} {s s' : Shared} {env : Env} {nm oc : List Str} {sc : List (Str × NameKind)} {ω ω' : List (Addr × List PV)} {κ : Addr → Option Obj} {A : Around} {E : Value → Shared → Prop} {ρ : List (Option Vp)} {D : Addr}
theorem comp_start {prog : Program} {w : World} {elt target iter : Expr} {ifs : List Expr} {gens : List Comprehension} {scope : Scope} {pos : Pos} {k : Nat} {it acc : Value} {R : Result → Shared → Prop} (hg : gens[k]? = some ⟨target, iter, ifs, 0⟩)
    (hself : ∀ (Q : Value → Shared → Prop) (E : Value → Shared → Prop), Q it s → wpAny (model prog w) A (pyIter it) Q E s)
    (h : codeAny (model prog w) A (.compLoop (.ListComp elt gens scope pos) k it acc env) R s) : codeAny (model prog w) A (.compStart (.ListComp elt gens scope pos) k it acc env) R s := by
  refine codeAny_of_tree ?_
  show wpAny _ A ((compStart (.ListComp elt gens scope pos) k it acc env).onRaise (fun x => do noteFrame x env; standAt theWindowsPlace)) _ _ s
  refine wpAny_notedAt ?_
  have hc : (clausesOf (.ListComp elt gens scope pos))[k]? = some ⟨target, iter, ifs, 0⟩ := hg
  unfold compStart
  simp only [hc]
  show wpAny _ A (ask >>= _) _ _ s
  refine wpAny_bind (wpAny_askSetting (wpAny_ite ?_))
  split
  · first
      | exact wpAny_bind (wpAny_pure (wpAny_pure (And.intro rfl h)))
      | exact wpAny_pure (And.intro rfl h)
  · exact wpAny_bind (wpAny_rule (wpAny_bind (wpAny_standAt (wpAny_bind (hself _ _ (wpAny_pure (And.intro rfl h)))))))
end
-- the comprehension's own frame
theorem cells_new : ∀ (names : List (Str × NameKind)) (h : Heap) (acc : List (Str × Addr)) (x : Str) (c : Addr), (x, c) ∈ cellsFrom h.objs.size names acc → (x, c) ∈ acc ∨ (h.objs.size ≤ c ∧ (pushCells h names).IsCell c none ∧ (x, NameKind.cell) ∈ names)
  | [], _, _, _, _, hm => .inl hm
  | (y, kd) :: r, h, acc, x, c, hm => by
    unfold cellsFrom at hm
    unfold pushCells
    by_cases hk : (kd == NameKind.cell) = true
    · rw [if_pos hk] at hm ⊢
      have hs : (h.push { cls := .type "cell", data := .cell none }).objs.size = h.objs.size + 1 := Heap.size_push ..
      rw [← hs] at hm
      rcases cells_new r (h.push { cls := .type "cell", data := .cell none }) _ x c hm with e | ⟨e1, e2, e3⟩
      · rcases List.mem_cons.mp e with e | e
        · cases e
          refine .inr ⟨Nat.le_refl _, ⟨_, pushCells_keeps _ _ _ _ (Heap.get?_push_size _ rfl), rfl⟩, ?_⟩
          rw [beq_iff_eq.mp hk]; exact .head _
        · exact .inl e
      · rw [hs] at e1
        exact .inr ⟨by lia, e2, .tail _ e3⟩
    · rw [if_neg hk] at hm ⊢
      rcases cells_new r h acc x c hm with e | ⟨e1, e2, e3⟩
      · exact .inl e
      · exact .inr ⟨e1, e2, .tail _ e3⟩
theorem cells_apart : ∀ (names : List (Str × NameKind)) (k : Nat) (acc : List (Str × Addr)), acc.Pairwise (fun x y => x.2 ≠ y.2) → (∀ p ∈ acc, p.2 < k) → (cellsFrom k names acc).Pairwise fun x y => x.2 ≠ y.2
  | [], _, _, hp, _ => hp
  | (y, kd) :: r, k, acc, hp, hl => by
    unfold cellsFrom
    split
    · refine cells_apart r (k + 1) _ (List.pairwise_cons.mpr ⟨fun p hq q => ?_, hp⟩) fun p hq => ?_
      · have := hl p hq; rw [← q] at this; exact Nat.lt_irrefl _ this
      · rcases List.mem_cons.mp hq with rfl | hq
        · exact Nat.lt_succ_self _
        · exact Nat.lt_succ_of_lt (hl p hq)
    · exact cells_apart r k acc hp hl
theorem cells_acc {x : Str} : ∀ (names : List (Str × NameKind)) (k : Nat) (acc : List (Str × Addr)), (∀ kd, (x, kd) ∈ names → kd ≠ .cell) → (cellsFrom k names acc).lookup x = acc.lookup x
  | [], _, _, _ => rfl
  | (y, kd) :: r, k, acc, h => by
    unfold cellsFrom
    split
    · rename_i hk
      rw [cells_acc r _ _ fun kd hm => h kd (.tail _ hm), List.lookup_cons]
      have : (x == y) = false := by
        cases q : x == y with
        | false => rfl
        | true => rw [beq_iff_eq.mp q] at h; exact absurd (beq_iff_eq.mp hk) (h kd (.head _))
      rw [this]
    · exact cells_acc r _ _ fun kd hm => h kd (.tail _ hm)
theorem closure_go {env : Env} : ∀ (names : List (Str × NameKind)) (acc : List (Str × Addr)), (∀ x, (x, NameKind.free) ∈ names → ∃ c, env.cells.lookup x = some c) →
    ∃ cl, (forIn names acc (fun (x : Str × NameKind) r => if (x.2 == .free) = true then cellOf env x.1 >>= fun c => pure (ForInStep.yield ((x.1, c) :: r)) else pure (ForInStep.yield r)) : Sem (List (Str × Addr))) = pure cl ∧
      (∀ x c, (x, c) ∈ cl → (x, c) ∈ acc ∨ ((x, NameKind.free) ∈ names ∧ env.cells.lookup x = some c)) ∧ (∀ x, ((x, NameKind.free) ∈ names ∨ (∃ c, (x, c) ∈ acc)) → ∃ c, (x, c) ∈ cl) ∧
      ((∀ p ∈ acc, ∀ q ∈ names, p.1 ≠ q.1) → (names.map (·.1)).Nodup → acc.Pairwise (fun x y => x.1 ≠ y.1) → cl.Pairwise fun x y => x.1 ≠ y.1)
  | [], acc, _ => ⟨acc, rfl, fun _ _ h => .inl h, fun x h => h.elim (fun h => nomatch h) id, fun _ _ h => h⟩
  | (y, kd) :: r, acc, h => by
    by_cases hk : (kd == NameKind.free) = true
    · have hkf : kd = .free := beq_iff_eq.mp hk
      subst hkf
      obtain ⟨c, hc⟩ := h y (.head _)
      obtain ⟨cl, e, m1, m2, m3⟩ := closure_go r ((y, c) :: acc) fun x hx => h x (.tail _ hx)
      refine ⟨cl, ?_, fun x c' hm => ?_, fun x hx => m2 x ?_, fun ha nd hp => m3 (fun p hp' q hq => ?_) (List.nodup_cons.mp nd).2 (List.pairwise_cons.mpr ⟨fun p hp' => ha p hp' (y, .free) (.head _) |>.symm, hp⟩)⟩
      · rw [List.forIn_cons]
        simp only [beq_self_eq_true, if_true]
        unfold cellOf
        rw [hc]
        exact e
      · rcases m1 x c' hm with h1 | ⟨h1, h2⟩
        · rcases List.mem_cons.mp h1 with q | h1
          · cases q; exact .inr ⟨.head _, hc⟩
          · exact .inl h1
        · exact .inr ⟨.tail _ h1, h2⟩
      · rcases hx with hx | ⟨c', hx⟩
        · rcases List.mem_cons.mp hx with q | hx
          · cases q; exact .inr ⟨c, .head _⟩
          · exact .inl hx
        · exact .inr ⟨c', .tail _ hx⟩
      · rcases List.mem_cons.mp hp' with rfl | hp'
        · exact fun e => (List.nodup_cons.mp nd).1 (List.mem_map.mpr ⟨q, hq, e.symm⟩)
        · exact ha p hp' q (.tail _ hq)
    · obtain ⟨cl, e, m1, m2, m3⟩ := closure_go r acc fun x hx => h x (.tail _ hx)
      refine ⟨cl, ?_, fun x c' hm => ?_, fun x hx => m2 x ?_, fun ha nd hp => m3 (fun p hp' q hq => ha p hp' q (.tail _ hq)) (List.nodup_cons.mp nd).2 hp⟩
      · rw [List.forIn_cons]
        simp only [hk, if_false]
        exact e
      · exact (m1 x c' hm).imp id fun ⟨h1, h2⟩ => ⟨.tail _ h1, h2⟩
      · refine hx.imp (fun hx => ?_) id
        rcases List.mem_cons.mp hx with q | hx
        · cases q; exact absurd rfl hk
        · exact hx
theorem closure_ok {env : Env} {scope : Scope} (h : ∀ x, (x, NameKind.free) ∈ scope.names → ∃ c, env.cells.lookup x = some c) (nd : (scope.names.map (·.1)).Nodup) :
    ∃ cl, closureFor scope env = pure cl ∧ (∀ x c, (x, c) ∈ cl → (x, NameKind.free) ∈ scope.names ∧ env.cells.lookup x = some c) ∧ (∀ x, (x, NameKind.free) ∈ scope.names → ∃ c, (x, c) ∈ cl) ∧ cl.Pairwise fun x y => x.1 ≠ y.1 := by
  obtain ⟨cl, e, m1, m2, m3⟩ := closure_go (env := env) scope.names [] h
  refine ⟨cl, ?_, fun x c hm => (m1 x c hm).elim (fun h => nomatch h) id, fun x hx => m2 x (.inl hx), m3 (fun _ h => nomatch h) nd .nil⟩
  unfold closureFor
  simp only [bind_pure]
  exact e
end
section
noncomputable def relN (names sc : List (Str × NameKind)) : List (Str × NameKind) := names.map fun (n, k) => if (k == .free && sc.lookup n == some .cell) then (n, .cell) else (n, k)
noncomputable def isCK (k : Option NameKind) : Bool := k == some .cell || k == some .free
inductive FreeR (nm : List Str) (ρ : List (Option Vp)) (sc sc' : List (Str × NameKind)) : List (Str × NameKind) → List Str → List (Option Vp) → Prop where
  | nil : FreeR nm ρ sc sc' [] [] []
  | own {x : Str} {k : NameKind} {r : List (Str × NameKind)} {nm' : List Str} {ρ' : List (Option Vp)} (h : (k == .free) = false) (t : FreeR nm ρ sc sc' r nm' ρ') : FreeR nm ρ sc sc' ((x, k) :: r) (x :: nm') (none :: ρ')
  | free {x : Str} {P : Vp} {r : List (Str × NameKind)} {nm' : List Str} {ρ' : List (Option Vp)} (a : At nm ρ x P) (h1 : isCK (sc.lookup x) = true) (h2 : isCK (sc'.lookup x) = true) (t : FreeR nm ρ sc sc' r nm' ρ') :
      FreeR nm ρ sc sc' ((x, .free) :: r) (x :: nm') (some P :: ρ')
theorem isCK_or {k : Option NameKind} (h : isCK k = true) : k = some .cell ∨ k = some .free := by
  simp only [isCK, Bool.or_eq_true, beq_iff_eq] at h; exact h
section
variable {C : Cx} {n : Nat} {X : Addr → Prop} {Z Z' : Fz} {s s' : Shared} {env : Env} {nm oc : List Str} {sc : List (Str × NameKind)} {ω ω' : List (Addr × List PV)} {κ : Addr → Option Obj} {A : Around} {E : Value → Shared → Prop} {ρ : List (Option Vp)} {D : Addr}
theorem VarAt.cell {h : Heap} {x : Str} {v : Value} (hn : env.scope.names = sc) (hk : isCK (sc.lookup x) = true) (y : VarAt env h x v) : ∃ c, env.cells.lookup x = some c ∧ h.IsCell c (some v) := by
  obtain ⟨_, ⟨hl, _⟩ | ⟨_, c, hc, hv⟩⟩ := y
  · have : env.kindOf x = sc.lookup x := by rw [← hn]; rfl
    rw [this] at hl
    rcases isCK_or hk with q | q <;> rw [q] at hl <;> cases hl
  · exact ⟨c, hc, hv⟩
theorem FreeR.cells {sc' names : List (Str × NameKind)} {nm' : List Str} {ρ' : List (Option Vp)} {h : Heap} (hn : env.scope.names = sc) (hv : Vars env Z h nm ρ) (F : FreeR nm ρ sc sc' names nm' ρ') (x : Str) (hx : (x, NameKind.free) ∈ names) : ∃ c, env.cells.lookup x = some c := by
  induction F with
  | nil => exact nomatch hx
  | own hk _ ih =>
    rcases List.mem_cons.mp hx with q | hx
    · cases q; cases hk
    · exact ih hx
  | free a h1 h2 _ ih =>
    rcases List.mem_cons.mp hx with q | hx
    · cases q
      obtain ⟨v, hva, _⟩ := a.var hv
      exact (hva.cell hn h1).imp fun c e => e.1
    · exact ih hx
theorem FreeR.vars {sc' names : List (Str × NameKind)} {nm' : List Str} {ρ' : List (Option Vp)} {h h' : Heap} {cenv : Env} (hn : env.scope.names = sc) (hn' : cenv.scope.names = sc') (hv : Vars env Z h nm ρ)
    (hc : ∀ x c, (x, NameKind.free) ∈ names → env.cells.lookup x = some c → cenv.cells.lookup x = some c) (hk : ∀ c v, h.IsCell c v → h'.IsCell c v) (F : FreeR nm ρ sc sc' names nm' ρ') : Vars cenv Z h' nm' ρ' := by
  induction F with
  | nil => exact .nil
  | own _ _ ih => exact .un (ih fun x c hx => hc x c (.tail _ hx))
  | @free x _ _ _ _ a h1 h2 _ ih =>
    obtain ⟨v, hva, hp⟩ := a.var hv
    obtain ⟨c, hcx, hcv⟩ := hva.cell hn h1
    have hke : cenv.kindOf x = sc'.lookup x := by rw [← hn']; rfl
    exact .va ⟨hva.1, .inr ⟨by rw [hke]; exact isCK_or h2, c, hc x c (.head _) hcx, hk c _ hcv⟩⟩ hp (ih fun x c hx => hc x c (.tail _ hx))
theorem Turns.keeps {target : Expr} {J : Addr} {ds : List PV} {h h' : Heap} {new : Addr → Prop} (k : ∀ b o, h.get? b = some o → h'.get? b = some o) (T : Turns C target J ds Z h new) : Turns C target J ds Z h' (fun b => new b ∧ ∃ o, h.get? b = some o) := by
  obtain ⟨fp, wr, P, Md, St, W, st0, hwZ, hfp, hob, hItm, hself⟩ := T
  refine ⟨fp, wr, P, Md, St, W, (W { depth := 0, handled := none, units := 0 } rfl).frame _ _ _ st0 fun b _ o e => k b o e, hwZ, fun b hb => (hfp b hb).imp id fun ⟨h1, h2⟩ => ⟨⟨h1, ?_⟩, h2⟩, hob, hItm, hself⟩
  obtain ⟨o, e, _⟩ := hob 0 h st0 b hb
  exact ⟨o, e⟩
theorem new_comp_env {M : Model} {scope : Scope} {globals : Addr} {cl : List (Str × Addr)} {qual : Str} {outer : Env} {Q : Env → Shared → Prop}
    (hQ : ∀ e : Env, e = { scope, locals := s.heap.objs.size, globals, cells := cellsFrom (s.heap.objs.size + 1) scope.names cl, qual, func := none, code := outer.code, frame := outer.frame, builtins := outer.builtins } →
      Q e { s with heap := pushCells (s.heap.push { cls := .type "dict", data := .dict #[] }) scope.names }) : wpAny M A (newFunctionEnv scope globals cl [] qual none .none (some outer)) Q E s := by
  simp only [newFunctionEnv, Option.isSome_some, if_true]
  refine wpAny_bind (wpAny_alloc ?_)
  refine wpAny_bind (wpAny_layCells _ (fun name kind cells => by cases hkc : kind == NameKind.cell <;> simp [hkc]) _ _ _ _ ?_)
  rw [show ({ s with heap := s.heap.push { cls := .type "dict", data := .dict #[] } } : Shared).heap.objs.size = s.heap.objs.size + 1 from Heap.size_push ..]
  exact wpAny_bind (wpAny_pure (wpAny_pure (hQ _ rfl)))
theorem Rfz.refl {a : Addr} {ds : List PV} : ∀ {ρ : List (Option Vp)}, Rfz a ds ρ ρ
  | [] => .nil
  | _ :: _ => .same Rfz.refl
theorem lookup_of_nodup {α : Type} {k : α} : ∀ {names : List (Str × α)} {x : Str}, (names.map (·.1)).Nodup → (x, k) ∈ names → names.lookup x = some k
  | (y, k') :: r, x, nd, hm => by
    rw [List.lookup_cons]
    rcases List.mem_cons.mp hm with q | hm
    · cases q; simp
    · have hne : (x == y) = false := by
        cases q : x == y with
        | false => rfl
        | true => exact absurd (List.mem_map.mpr ⟨_, hm, beq_iff_eq.mp q⟩) (List.nodup_cons.mp nd).1
      rw [hne]; exact lookup_of_nodup (List.nodup_cons.mp nd).2 hm
theorem relN_lookup {sc : List (Str × NameKind)} {x : Str} : ∀ {names : List (Str × NameKind)}, (relN names sc).lookup x = some .cell → names.lookup x = some .cell ∨ names.lookup x = some .free
  | [], h => by simp [relN] at h
  | (y, k) :: r, h => by
    have e : relN ((y, k) :: r) sc = (if (k == .free && sc.lookup y == some .cell) then (y, .cell) else (y, k)) :: relN r sc := rfl
    rw [e] at h
    rw [List.lookup_cons]
    cases q : x == y with
    | true =>
      by_cases hc : (k == NameKind.free && sc.lookup y == some .cell) = true
      · rw [if_pos hc] at h
        simp only [Bool.and_eq_true, beq_iff_eq] at hc
        right; rw [hc.1]
      · rw [if_neg hc, List.lookup_cons, q] at h; left; exact h
    | false =>
      have h' : (relN r sc).lookup x = some .cell := by
        by_cases hc : (k == NameKind.free && sc.lookup y == some .cell) = true
        · rw [if_pos hc, List.lookup_cons, q] at h; exact h
        · rw [if_neg hc, List.lookup_cons, q] at h; exact h
      exact relN_lookup h'
theorem comp_run {α β : Type} {elt target iter : Expr} {ifs : List Expr} {gens : List Comprehension} {scope : Scope} {pos pos' : Pos} {t : Env → Addr → Addr → Sem β} {xs : List α} {f : α → PV} {g : α → List PV} {sc' : List (Str × NameKind)} {nm' oc' : List Str} {ρ' : List (Option Vp)}
    {use : Option (Value → Sem Unit)} {Q : Value → Shared → Prop}
    (hit : IT C n (FS C env nm oc sc X ρ ω κ) iter env target (xs.map f)) (hsc' : relN scope.names sc = sc') (hfr : FreeR nm ρ sc sc' scope.names nm' ρ') (hkind : scope.kind = .function) (hnd : (scope.names.map (·.1)).Nodup) (hnm' : nm' = scope.names.map (·.1))
    (hoc : oc'.all (fun x => scope.names.lookup x != some .free) = true)
    (ht : ∀ cenv D J, compTurn (.ListComp elt (⟨target, iter, ifs, 0⟩ :: gens) scope pos) 0 (.ref J) (.ref D) cenv = (standAt iter.pos >>= fun _ => pyNext (.ref J) >>= fun r => match r with
      | none => pure (.done .next)
      | some v => letOwnedTupleGo target (.ref J) v >>= fun _ => assign target cenv v >>= fun _ =>
        (forIn ifs true fun c r => if r = true then do let ok ← isTrue c cenv (eval c cenv); pure (ForInStep.yield ok) else pure (ForInStep.yield r)) >>= fun ok =>
        if ok = true then t cenv D J >>= fun _ => again (.compLoop (.ListComp elt (⟨target, iter, ifs, 0⟩ :: gens) scope pos) 0 (.ref J) (.ref D) cenv)
        else again (.compLoop (.ListComp elt (⟨target, iter, ifs, 0⟩ :: gens) scope pos) 0 (.ref J) (.ref D) cenv)))
    (step : ∀ cenv D J X', ∀ x ∈ xs, Clause C n X' cenv nm' oc' sc' D ρ' target ifs (t cenv D J) (f x) (g x)) (hsz : (xs.flatMap g).length ≤ sizeLine)
    (hA : Room n A) (I : Inv C Z s) (H : FSp env nm oc sc X ρ ω κ Z s.heap)
    (K : ∀ D c m Z' s', Step C Z s Z' s' → s.heap.get? c = none → Z' c = none → s'.heap.Ns c m → Rd Z' (.ref D) (.list (xs.flatMap g)) → compPost (model C.prog C.w) A E use Q (.ref D) c (.ok .next) s')
    (hs : ∀ x, foldedSetIterable iter env x = pure x := by intro _; rfl) :
    wpAny (model C.prog C.w) A (comprehension (.ListComp elt (⟨target, iter, ifs, 0⟩ :: gens) scope pos) scope env pos' (newList []) false (eval iter env) use) Q E s := by
  subst hnm'
  obtain ⟨cl, hcl, cl1, cl2, cl3⟩ := closure_ok (scope := scope) (hfr.cells H.names H.vars) hnd
  refine wpAny_comprehension_free (g := ⟨target, iter, ifs, 0⟩) (gs := gens) rfl hs hcl hkind (fun x hx hl => lookup_of_nodup hnd (hl ▸ hx)) ?_
  refine hit A s Z _ E hA I H fun J Z₁ s₂ x₁ T => ?_
  refine wpAny_newObj_type ?_ (Nat.zero_le _)
  generalize hH2 : s₂.heap.push { cls := .type "list", dict := none, data := .seq ([] : List Value).toArray } = H2
  have hz2 : H2.objs.size = s₂.heap.objs.size + 1 := by rw [← hH2]; exact Heap.size_push ..
  refine new_comp_env fun e he => ?_
  generalize hH4 : pushCells (H2.push { cls := .type "dict", data := .dict #[] }) scope.names = H4
  have hz3 : (H2.push { cls := .type "dict", data := .dict #[] }).objs.size = H2.objs.size + 1 := Heap.size_push ..
  have keep : ∀ b o, s₂.heap.get? b = some o → H4.get? b = some o := fun b o e => by
    rw [← hH4]; exact pushCells_keeps _ _ _ _ (Heap.get?_push_of_some _ (by rw [← hH2]; exact Heap.get?_push_of_some _ e))
  have none2 : ∀ a, s₂.heap.objs.size ≤ a → s.heap.get? a = none := fun a ha => (x₁.gone (get?_above ha)).elim id fun q => q.elim
  have st4 : Step C Z₁ s₂ Z₁ { s₂ with heap := H4 } := .keeps (t := s₂.toks) x₁.inv keep
  have H₁ := (FS C env nm oc sc X ρ ω κ).stable I H x₁
  have hDl : H4.get? s₂.heap.objs.size = some { cls := .type "list", data := .seq ([] : List Value).toArray 0 } := by
    rw [← hH4]; exact pushCells_keeps _ _ _ _ (Heap.get?_push_of_some _ (by rw [← hH2]; exact Heap.get?_push_size _ rfl))
  have hNs : H4.Ns H2.objs.size fun _ => none := by rw [← hH4]; exact (Heap.Ns.new H2 (.type "dict")).keeps (pushCells_keeps _ _)
  have hcells : ∀ x c, (cellsFrom (H2.objs.size + 1) scope.names cl).lookup x = some c → ((x, NameKind.free) ∈ scope.names ∧ env.cells.lookup x = some c) ∨ (H2.objs.size + 1 ≤ c ∧ H4.IsCell c none ∧ (x, NameKind.cell) ∈ scope.names) := fun x c hc => by
    have hm := mem_of_lookup hc
    rw [← hz3] at hm
    rcases cells_new scope.names (H2.push { cls := .type "dict", data := .dict #[] }) cl x c hm with h | ⟨h1, h2, h3⟩
    · exact .inl (cl1 x c h)
    · rw [hz3] at h1; rw [hH4] at h2; exact .inr ⟨h1, h2, h3⟩
  have hcl3 : cl.Pairwise fun x y => x.2 ≠ y.2 := by
    refine List.Pairwise.imp_of_mem (fun {a b} ha hb hne q => hne ?_) cl3
    exact name_of_addr H.apart (mem_of_lookup (cl1 a.1 a.2 ha).2) (q ▸ mem_of_lookup (cl1 b.1 b.2 hb).2)
  have hlt : ∀ p ∈ cl, p.2 < H2.objs.size + 1 := fun p hp => by
    obtain ⟨_, v, o, e, _⟩ := H₁.cells _ _ (cl1 p.1 p.2 hp).2
    exact Nat.lt_of_lt_of_le (Heap.lt_size e) (by lia)
  have HC : FSp { e with scope := relabel scope env } (scope.names.map (·.1)) oc' sc' (fun a => s.heap.get? a = none) ρ' [(s₂.heap.objs.size, [])] (fun _ => none) Z₁ H4 := by
    subst he
    have hrel : (relabel scope env).names = sc' := by
      rw [← hsc']
      show scope.names.map _ = scope.names.map _
      refine List.map_congr_left fun p _ => ?_
      obtain ⟨x, k⟩ := p
      have e1 : env.kindOf x = sc.lookup x := by rw [← H.names]; rfl
      have e2 : (env.scope.kind == ScopeKind.function) = true := by rw [H.fn]; rfl
      simp only [e1, e2, Bool.and_true]
    refine ⟨hrel, H.gl, H.bl, fun x hx hk => ?_, hkind, hnd, ?_, ⟨_, hNs⟩, none2 H2.objs.size (by lia), ?_, fun x c hc => ?_, fun x hx c hc => ?_, fun a ha => ?_, ?_, fun p hp => ?_, fun p hp => ?_, ?_, (fun _ _ h => nomatch h), fun _ _ h => nomatch h⟩
    · rw [← hsc'] at hk
      have hx' := List.all_eq_true.mp hoc x hx
      rcases relN_lookup hk with q | q
      · obtain ⟨c, hc⟩ := cellsFrom_mem scope.names (H2.objs.size + 1) cl x (.inl (mem_of_lookup q))
        exact lookup_of_mem hc
      · rw [q] at hx'; simp at hx'
    · exact cells_apart _ _ _ hcl3 hlt
    · show Z₁ H2.objs.size = none
      exact x₁.inv.fresh (get?_above (by lia))
    · rcases hcells x c hc with ⟨_, h⟩ | ⟨h1, h2, _⟩
      · obtain ⟨hz, v, o, e, d⟩ := H₁.cells x c h
        exact ⟨hz, v, o, keep _ _ e, d⟩
      · exact ⟨x₁.inv.fresh (get?_above (by lia)), _, h2⟩
    · rcases hcells x c hc with ⟨h, _⟩ | ⟨h1, _, _⟩
      · have hx' := List.all_eq_true.mp hoc x hx
        rw [lookup_of_nodup hnd h] at hx'; simp at hx'
      · exact none2 _ (by lia)
    · exact (x₁.gone ((st4.gone ha).elim id fun q => q.elim)).elim id fun q => q.elim
    · refine hfr.vars H.names hrel H₁.vars (fun x c hx hc => ?_) fun c v ⟨o, e, d⟩ => ⟨o, keep _ _ e, d⟩
      show (cellsFrom (H2.objs.size + 1) scope.names cl).lookup x = some c
      rw [cells_acc scope.names _ _ fun kd hm q => ?_]
      · obtain ⟨c', hc'⟩ := cl2 x hx
        have : cl.lookup x = some c' := by
          obtain ⟨c'', h''⟩ := Option.isSome_iff_exists.mp (lookup_of_mem hc')
          have e1 := (cl1 x c' hc').2
          have e2 := (cl1 x c'' (mem_of_lookup h'')).2
          rw [e1] at e2; cases e2; exact h''
        rw [this, ← (cl1 x c' hc').2, hc]
      · have := lookup_of_nodup hnd hm
        rw [lookup_of_nodup hnd hx, q] at this; cases this
    · rw [List.mem_singleton.mp hp]
      exact ⟨x₁.inv.fresh (get?_above (Nat.le_refl _)), [], 0, hDl, .nil⟩
    · rw [List.mem_singleton.mp hp]; exact none2 _ (Nat.le_refl _)
    · simp
  have T' := T.keeps keep
  have Ts := T'
  obtain ⟨fp, wr, P, Md, St, W, st0, hwZ, hfp, hob, hItm, hself⟩ := Ts
  refine comp_start (target := target) (iter := iter) (ifs := ifs) rfl (fun Q E q => hself A 0 _ Q E hA.handled st0 q) ?_
  refine comp_loop (ys := []) (s := { s₂ with heap := H4 }) (ht _ _ _) (step _ _ _ _) hA st4.inv HC T' (fun b hb hz => ?_) (by simpa using hsz) fun Z' s' x' H' => ?_
  · obtain ⟨hb1, o, hb2⟩ := hb
    have hbl := Heap.lt_size hb2
    have ne : ∀ c o, s.heap.get? c = some o → b ≠ c := fun c o e q => by rw [q, e] at hb1; cases hb1
    refine ⟨hb1, ?_, fun x c hc => ?_, fun p hp => ?_, rfl, fun t ht => ?_⟩
    · rw [he]; show b ≠ H2.objs.size; exact Nat.ne_of_lt (Nat.lt_of_lt_of_le hbl (by lia))
    · rw [he] at hc
      rcases hcells x c hc with ⟨_, h⟩ | ⟨h1, _, _⟩
      · obtain ⟨_, v, o, e, _⟩ := H.cells x c h; exact ne _ _ e
      · exact Nat.ne_of_lt (Nat.lt_of_lt_of_le hbl (Nat.le_trans (by lia) h1))
    · rw [List.mem_singleton.mp hp]; show b ≠ s₂.heap.objs.size; exact Nat.ne_of_lt hbl
    · obtain ⟨ps, e, _⟩ := I.tabs t ht; exact ne _ _ e
  · rw [List.nil_append] at H'
    obtain ⟨Z'', st'', H'', hd⟩ := H'.freeze x'.inv .here Rfz.refl
    obtain ⟨m, hn⟩ := H''.loc
    refine K s₂.heap.objs.size e.locals m Z'' s' ?_ ?_ H''.locZ hn hd
    · exact StepX.over (x₁.trans st4) (x'.trans st'') fun b hb => hb
    · rw [he]; exact none2 _ (by show s₂.heap.objs.size ≤ H2.objs.size; lia)
end
end
section
structure CompOk {α β : Type} (C : Cx) (n : Nat) (X : Addr → Prop) (env : Env) (nm oc : List Str) (sc : List (Str × NameKind)) (ρ : List (Option Vp)) (ω : List (Addr × List PV)) (κ : Addr → Option Obj)
    (elt target iter : Expr) (ifs : List Expr) (gens : List Comprehension) (scope : Scope) (pos : Pos) (t : Env → Addr → Addr → Sem β) (xs : List α) (f : α → PV) (g : α → List PV) (sc' : List (Str × NameKind)) (nm' oc' : List Str) (ρ' : List (Option Vp)) : Prop where
  hit : IT C n (FS C env nm oc sc X ρ ω κ) iter env target (xs.map f)
  hsc' : relN scope.names sc = sc'
  hfr : FreeR nm ρ sc sc' scope.names nm' ρ'
  hkind : scope.kind = .function
  hnd : (scope.names.map (·.1)).Nodup
  hnm' : nm' = scope.names.map (·.1)
  hoc : oc'.all (fun x => scope.names.lookup x != some .free) = true
  ht : ∀ cenv D J, compTurn (.ListComp elt (⟨target, iter, ifs, 0⟩ :: gens) scope pos) 0 (.ref J) (.ref D) cenv = (standAt iter.pos >>= fun _ => pyNext (.ref J) >>= fun r => match r with
      | none => pure (.done .next)
      | some v => letOwnedTupleGo target (.ref J) v >>= fun _ => assign target cenv v >>= fun _ =>
        (forIn ifs true fun c r => if r = true then do let ok ← isTrue c cenv (eval c cenv); pure (ForInStep.yield ok) else pure (ForInStep.yield r)) >>= fun ok =>
        if ok = true then t cenv D J >>= fun _ => again (.compLoop (.ListComp elt (⟨target, iter, ifs, 0⟩ :: gens) scope pos) 0 (.ref J) (.ref D) cenv)
        else again (.compLoop (.ListComp elt (⟨target, iter, ifs, 0⟩ :: gens) scope pos) 0 (.ref J) (.ref D) cenv))
  step : ∀ cenv D J X', ∀ x ∈ xs, Clause C n X' cenv nm' oc' sc' D ρ' target ifs (t cenv D J) (f x) (g x)
  hsz : (xs.flatMap g).length ≤ sizeLine
  hs : ∀ x, foldedSetIterable iter env x = pure x
section
variable {C : Cx} {n : Nat} {X : Addr → Prop} {Z Z' : Fz} {s s' : Shared} {env : Env} {nm oc : List Str} {sc : List (Str × NameKind)} {ω ω' : List (Addr × List PV)} {κ : Addr → Option Obj} {A : Around} {E : Value → Shared → Prop} {ρ ρ₂ : List (Option Vp)} {D : Addr} {R : Vp}
variable {α β : Type} {elt target iter : Expr} {ifs : List Expr} {gens : List Comprehension} {scope : Scope} {pos pos' : Pos} {t : Env → Addr → Addr → Sem β} {xs : List α} {f : α → PV} {g : α → List PV} {sc' : List (Str × NameKind)} {nm' oc' : List Str} {ρ' : List (Option Vp)}
theorem ev_compG (O : CompOk C n X env nm oc sc ρ ω κ elt target iter ifs gens scope pos t xs f g sc' nm' oc' ρ') :
    EV C n (FS C env nm oc sc X ρ ω κ) (eval (.ListComp elt (⟨target, iter, ifs, 0⟩ :: gens) scope pos) env) (is (.list (xs.flatMap g))) := fun A s Z Q E hA I H k => by
  rw [eval_ListComp]
  show wpAny _ A (comprehension (.ListComp elt (⟨target, iter, ifs, 0⟩ :: gens) scope pos) scope env _ (newList []) false (eval iter env) none) Q E s
  refine comp_run O.hit O.hsc' O.hfr O.hkind O.hnd O.hnm' O.hoc O.ht O.step O.hsz hA I H (fun D c m Z' s' x hc hz hn hd => ⟨m, hn, fun h' hs' => ?_⟩) O.hs
  have st : StepX C (· = c) Z' s' Z' { s' with heap := h' } := .write (t := s'.toks) x.inv rfl hs' hz (x.inv.ns_notTab hn)
  exact k _ Z' _ (StepX.over x st fun b hb => hb ▸ hc) hd
theorem ex_assignC {x : Str} {xp spos : Pos} (hsw : swapsWith (.ListComp elt (⟨target, iter, ifs, 0⟩ :: gens) scope pos) (some (.Name x xp)) spos.line env = pure true)
    (O : CompOk C n X env nm oc sc ρ ω κ elt target iter ifs gens scope pos t xs f g sc' nm' oc' ρ') (hu : Upd nm ρ x (some (is (.list (xs.flatMap g)))) ρ₂) (pl : PlainName x) (hk : canSt sc oc x = true) :
    EX C n X (FS C env nm oc sc X ρ ω κ) (exec (.Assign [.Name x xp] (.ListComp elt (⟨target, iter, ifs, 0⟩ :: gens) scope pos) spos) env) (FS C env nm oc sc X ρ₂ ω κ) R := fun A s Z Q E hA I H k kr => by
  rw [exec_Assign_Name_used _ _ _ _ hsw]
  refine wpAny_bind (wpAny_standAt (wpAny_bind ?_))
  show wpAny _ A (do let _ ← comprehension (.ListComp elt (⟨target, iter, ifs, 0⟩ :: gens) scope pos) scope env _ (newList []) false (eval iter env) (some (assign (.Name x xp) env))) _ _ s
  refine wpAny_bind (wpAny_mono (comp_run (use := some (assign (.Name x xp) env)) (Q := fun _ s' => Q .next s') (E := E) O.hit O.hsc' O.hfr O.hkind O.hnd O.hnm' O.hoc O.ht O.step O.hsz hA I H (fun D c m Z' s' x' hc hz hn hd => ?_) O.hs) (fun _ s' hq => wpAny_pure (wpAny_pure hq)) fun _ _ e => e)
  have H' := (FS C env nm oc sc X ρ ω κ).stable I H x'
  have hB := Beside.of I H hc
  have hH : FSp env nm oc sc X ρ ω (holdK κ [c] Z' s'.heap) Z' s'.heap := FSp.hold (C := C) H' fun b hb _ => by
    rw [List.mem_singleton.mp hb]
    refine ⟨hB, fun o e ps q => ?_⟩
    obtain ⟨o', _, _, e', d, _⟩ := hn
    rw [e] at e'; cases e'; subst q; cases d
  show wpAny _ A (assign (.Name x xp) env (.ref D)) _ E s'
  refine assign_Name (st_name x'.inv hH hd hu pl hk fun s₂ x₂ H₂ => ?_)
  obtain ⟨o, es, ep, e, hd', hr⟩ := hn
  have e2 : s₂.heap.get? c = some o := (H₂.held c o (by rw [holdK, if_pos ⟨List.mem_singleton.mpr rfl, hz⟩]; exact e)).at_
  refine ⟨m, ⟨o, es, ep, e2, hd', hr⟩, fun h' hs' => ?_⟩
  have H₃ : FSp env nm oc sc X ρ₂ ω κ Z' s₂.heap := FSp.drop (fun b hb _ => by rw [List.mem_singleton.mp hb]; exact hB.held) H₂
  obtain ⟨x₃, H₄⟩ := FSp.beside (t := s₂.toks) (W := [c]) (h' := h') x₂.inv H₃ (fun b hb => by rw [List.mem_singleton.mp hb]; exact hB) (fun b hb => by rw [List.mem_singleton.mp hb]; exact hz)
    fun b o hb e => hs'.extBut b o (fun q => hb (by rw [q]; exact .head _)) e
  exact k Z' _ (((Step.to x').trans x₂).trans x₃) H₄
theorem flat_one {h : α → PV} : xs.flatMap (fun x => [h x]) = xs.map h := by
  induction xs with
  | nil => rfl
  | cons x xs ih => rw [List.flatMap_cons, ih]; rfl
theorem flat_if {h : α → PV} {p : α → Bool} : xs.flatMap (fun x => if p x then [h x] else []) = (xs.filter p).map h := by
  induction xs with
  | nil => rfl
  | cons x xs ih =>
    rw [List.flatMap_cons, ih, List.filter_cons]
    cases p x <;> rfl
end
end
section
noncomputable def PI (C : Cx) (n : Nat) (P : Vp) (target : Expr) (ds : List PV) : Prop :=
  ∀ (A : Around) (s : Shared) (Z : Fz) (v : Value) (Q : Value → Shared → Prop) (E : Value → Shared → Prop), Room n A → Inv C Z s → P.at_ Z v →
    (∀ I Z' s', Step C Z s Z' s' → Turns C target I ds Z' s'.heap (fun b => s.heap.get? b = none) → Q (.ref I) s') → wpAny (model C.prog C.w) A (pyIter v) Q E s
noncomputable def FI (C : Cx) (n : Nat) (f : Value) (Ps : List Vp) (target : Expr) (ds : List PV) : Prop :=
  ∀ (A : Around) (s : Shared) (Z : Fz) (vs : List Value) (Q : Value → Shared → Prop) (E : Value → Shared → Prop), Room n A → Inv C Z s → Sat Z vs Ps →
    (∀ I Z' s', Step C Z s Z' s' → Turns C target I ds Z' s'.heap (fun b => s.heap.get? b = none) → Q (.ref I) s') →
      wpAny (model C.prog C.w) A (call f vs) (fun x s₁ => wpAny (model C.prog C.w) A (pyIter x) Q E s₁) E s
section
variable {C : Cx} {n : Nat} {Φ : Asn C} {env : Env} {P R : Vp} {Ps : List Vp} {e iter target : Expr} {es args : List Expr} {pos p : Pos} {ds : List PV} {Z Z' : Fz} {s s' : Shared}
theorem Turns.new {J : Addr} {h : Heap} {new new' : Addr → Prop} (k : ∀ b, new b → new' b) (T : Turns C target J ds Z h new) : Turns C target J ds Z h new' := by
  obtain ⟨fp, wr, P, Md, St, W, st0, hwZ, hfp, r1, r2, r3⟩ := T
  exact ⟨fp, wr, P, Md, St, W, st0, hwZ, fun b hb => (hfp b hb).imp id fun ⟨h1, h2⟩ => ⟨k b h1, h2⟩, r1, r2, r3⟩
theorem Step.gone' (x : Step C Z s Z' s') {b : Addr} (h : s'.heap.get? b = none) : s.heap.get? b = none := (x.gone h).elim id fun q => q.elim
theorem it_ev (h : EV C n Φ (eval iter env) P) (hp : PI C n P target ds) : IT C n Φ iter env target ds := fun A s Z Q E hA I H k => by
  refine h A s Z _ E hA I H fun v Z₁ s₁ x₁ pv => ?_
  exact hp A s₁ Z₁ v Q E hA x₁.inv pv fun J Z₂ s₂ x₂ T => k J Z₂ s₂ (x₁.trans x₂) (T.new fun b hb => Step.gone' x₁ hb)
theorem it_callT {x : Str} {id : String} (hf : EV C n Φ (eval (.Name x p) env) (isv (.type id))) (ha : EL C n Φ (spliced (backTo pos (starEach (e :: es) env))) Ps) (hc : FI C n (.type id) Ps target ds)
    (he : starEach (e :: es) env = (false, eval e env) :: starEach es env := by rfl) (hp : (backTo pos (starEach es env)).any (·.1) = false := by rfl) :
    IT C n Φ (.Call (.Name x p) (e :: es) [] pos) env target ds := fun A s Z Q E hA I H k => by
  refine wpAny_Call_NameR (hf A s Z _ E hA I H fun v Z₁ s₁ x₁ pv => ?_)
  cases pv
  refine callWith_type1 (ha A s₁ Z₁ _ E hA x₁.inv (Φ.stable I H x₁) fun vs Z₂ s₂ x₂ hs => ?_) he hp
  exact hc A s₂ Z₂ vs Q E hA x₂.inv hs fun J Z₃ s₃ x₃ T => k J Z₃ s₃ ((x₁.trans x₂).trans x₃) (T.new fun b hb => Step.gone' (x₁.trans x₂) hb)
theorem letGo_plain {prog : Program} {w : World} {A : Around} {E : Value → Shared → Prop} {I : Addr} {o : Obj} {v : Value} {T : String} {Q : Unit → Shared → Prop} (ho : s.heap.get? I = some o) (hc : o.cls = .type T)
    (hT : ["enumerate", "zip", "dict_itemiterator", "dict_reverseitemiterator", "odict_iterator", "itertools.zip_longest", "itertools.pairwise"].contains T = false) (q : Q () s) : wpAny (model prog w) A (letOwnedTupleGo target (.ref I) v) Q E s := by
  have go : wpAny (model prog w) A (do
      let (.ref r, .ref a) := ((.ref I : Value), v) | return
      let o ← load r
      match o.cls, o.data with
      | .type n, .fields vs =>
        if ["enumerate", "zip", "dict_itemiterator", "dict_reverseitemiterator", "odict_iterator", "itertools.zip_longest", "itertools.pairwise"].contains n && vs[0]? == some (rawInt a) then
          rule "for.unpacks-the-owned-tuple"
          updateField r 0 .none
      | _, _ => pure ()) Q E s := by
    cases v with
    | ref a =>
      refine wpAny_bind (wpAny_load ho ?_)
      obtain ⟨c, d, dt, sl⟩ := o
      cases hc
      cases dt with
      | fields vs =>
        show wpAny _ A (if (["enumerate", "zip", "dict_itemiterator", "dict_reverseitemiterator", "odict_iterator", "itertools.zip_longest", "itertools.pairwise"].contains T && vs[0]? == some (rawInt a)) = true then _ else _) Q E s
        rw [hT, Bool.false_and, if_neg (by decide)]
        exact wpAny_pure q
      | _ => exact wpAny_pure q
    | _ => exact wpAny_pure q
  cases target with
  | Tuple => exact go
  | List => exact go
  | _ => exact wpAny_pure q
theorem RdL.at {vs : List Value} (r : RdL Z vs ds) {i : Nat} {v : Value} {d : PV} (h1 : vs[i]? = some v) (h2 : ds[i]? = some d) : Rd Z v d := by
  obtain ⟨u, e, p⟩ := r.get h2
  rw [h1] at e; cases e; exact p
theorem turns_walks {J : Addr} {fp wr : List Addr} {P : Nat → Value → Prop} {St : Nat → Heap → Prop} {h : Heap} {new : Addr → Prop} (W : ∀ A : Around, A.handled = none → Walks C.prog C.w A J fp wr ds.length P St)
    (go : ∀ i h', St i h' → ∃ o T, h'.get? J = some o ∧ o.cls = .type T ∧ ["enumerate", "zip", "dict_itemiterator", "dict_reverseitemiterator", "odict_iterator", "itertools.zip_longest", "itertools.pairwise"].contains T = false)
    (st0 : St 0 h) (hwZ : ∀ b ∈ wr, Z b = none) (hfp : ∀ b ∈ fp, (∃ o, Z b = some o) ∨ (new b ∧ Z b = none)) (hob : ∀ i h', St i h' → ∀ b ∈ fp, ∃ o, h'.get? b = some o ∧ (Z b = none → ∀ ps, o ≠ tabObj ps))
    (hItm : ∀ i v d Z', Le Z Z' → ds[i]? = some d → P i v → Rd Z' v d) : Turns C target J ds Z h new :=
  ⟨fp, wr, fun i v _ => P i v, fun i v h => P i v ∧ St (i + 1) h, St, fun A hA => KTurns.ofWalks (W A hA) fun i v s Q E st q => by
    obtain ⟨o, T, ho, hc, hT⟩ := go i _ st
    exact letGo_plain ho hc hT q, st0, hwZ, hfp, hob, fun i v h' d Z' le _ hd hP => .plain (hItm i v d Z' le hd hP), fun A i s Q E hA st q => (W A hA).self i s Q E st q⟩
theorem pi_list : PI C n (is (.list ds)) target ds := fun A s Z v Q E hA I hv k => by
  obtain ⟨_, _, _, rfl, h, r⟩ := rdi hv
  rename_i a m vs
  have hl := isList_of I h
  refine wpAny_pyIter_list hl ?_
  have hal := Heap.lt_size (I.heap _ _ h)
  have st : Step C Z s Z _ := StepX.push I (o := { cls := .type "list_iterator", data := .fields #[.ref a, .int 0 0] }) (t := s.toks)
  have hne : a ≠ s.heap.objs.size := Nat.ne_of_lt hal
  have hsz : ds.length = vs.toArray.size := by rw [List.size_toArray, r.length]
  refine k _ Z _ st (turns_walks (fun A hA => hsz ▸ Walks.list hA s.heap.objs.size a hne vs.toArray) (fun i h' st' => ?_) ⟨⟨_, Heap.get?_push_size _ rfl, rfl, rfl⟩, hl.push _⟩ (fun b hb => ?_) (fun b hb => ?_) (fun i h' st' b hb => ?_) fun i v d Z' le hd hP => RdL.at (RdL.le le r) (by simpa using hP) hd)
  · obtain ⟨⟨o, ho, hc, _⟩, _⟩ := st'
    exact ⟨o, _, ho, hc, by decide +kernel⟩
  · rw [List.mem_singleton.mp hb]; exact I.fresh (get?_above (Nat.le_refl _))
  · rcases List.mem_cons.mp hb with rfl | hb
    · exact .inr ⟨get?_above (Nat.le_refl _), I.fresh (get?_above (Nat.le_refl _))⟩
    · rw [List.mem_singleton.mp hb]; exact .inl ⟨_, h⟩
  · obtain ⟨⟨o, ho, hc, hd⟩, o', ho', _⟩ := st'
    rcases List.mem_cons.mp hb with rfl | hb
    · exact ⟨o, ho, fun _ ps q => by subst q; simp [tabObj] at hc⟩
    · rw [List.mem_singleton.mp hb]; exact ⟨o', ho', fun q => by rw [h] at q; cases q⟩
theorem pi_tup : PI C n (is (.tup ds)) target ds := fun A s Z v Q E hA I hv k => by
  obtain ⟨_, _, _, rfl, h, r⟩ := rdi hv
  rename_i a m vs
  have hl : s.heap.IsTuple a vs.toArray := ⟨_, I.heap _ _ h, rfl, m, rfl⟩
  refine wpAny_pyIter_tuple hl ?_
  have hal := Heap.lt_size (I.heap _ _ h)
  have st : Step C Z s Z _ := StepX.push I (o := { cls := .type "tuple_iterator", data := .fields #[.ref a, .int 0 0] }) (t := s.toks)
  have hne : a ≠ s.heap.objs.size := Nat.ne_of_lt hal
  have hsz : ds.length = vs.toArray.size := by rw [List.size_toArray, r.length]
  refine k _ Z _ st (turns_walks (fun A hA => hsz ▸ Walks.tuple hA s.heap.objs.size a hne vs.toArray) (fun i h' st' => ?_) ⟨⟨_, Heap.get?_push_size _ rfl, rfl, rfl⟩, hl.push _⟩ (fun b hb => ?_) (fun b hb => ?_) (fun i h' st' b hb => ?_) fun i v d Z' le hd hP => RdL.at (RdL.le le r) (by simpa using hP) hd)
  · obtain ⟨⟨o, ho, hc, _⟩, _⟩ := st'
    exact ⟨o, _, ho, hc, by decide +kernel⟩
  · rw [List.mem_singleton.mp hb]; exact I.fresh (get?_above (Nat.le_refl _))
  · rcases List.mem_cons.mp hb with rfl | hb
    · exact .inr ⟨get?_above (Nat.le_refl _), I.fresh (get?_above (Nat.le_refl _))⟩
    · rw [List.mem_singleton.mp hb]; exact .inl ⟨_, h⟩
  · obtain ⟨⟨o, ho, hc, hd⟩, o', ho', _⟩ := st'
    rcases List.mem_cons.mp hb with rfl | hb
    · exact ⟨o, ho, fun _ ps q => by subst q; simp [tabObj] at hc⟩
    · rw [List.mem_singleton.mp hb]; exact ⟨o', ho', fun q => by rw [h] at q; cases q⟩
noncomputable def rngL (a : Int) (n : Nat) : List PV := (List.range n).map fun (i : Nat) => PV.int (a + (i : Int))
theorem rngL_length {a : Int} {n : Nat} : (rngL a n).length = n := by simp [rngL]
end
end
section
noncomputable def enumL (ds : List PV) : List PV := ds.zipIdx.map fun p => PV.tup [.int (p.2 : Int), p.1]
section
variable {C : Cx} {n : Nat} {Φ : Asn C} {env : Env} {P R : Vp} {Ps : List Vp} {e iter target : Expr} {es args : List Expr} {pos p : Pos} {ds : List PV} {Z Z' : Fz} {s s' : Shared}
theorem turns_walksU {J : Addr} {fp wr : List Addr} {Pt : Nat → Array Value → Prop} {St : Nat → Heap → Prop} {Mid : Nat → Addr → Heap → Prop} {h : Heap} {new : Addr → Prop} {ts : List Expr} {kk : Nat} (W : ∀ A : Around, A.handled = none → WalksT C.prog C.w A J fp wr ds.length Pt St Mid)
    (st0 : St 0 h) (hwZ : ∀ b ∈ wr, Z b = none) (hfp : ∀ b ∈ fp, (∃ o, Z b = some o) ∨ (new b ∧ Z b = none)) (hob : ∀ i h', St i h' → ∀ b ∈ fp, ∃ o, h'.get? b = some o ∧ (Z b = none → ∀ ps, o ≠ tabObj ps))
    (hItm : ∀ i vals d Z', Le Z Z' → ds[i]? = some d → Pt i vals → ∃ dd, d = .tup dd ∧ RdL Z' vals.toList dd) : Turns C (.Tuple ts kk p) J ds Z h new :=
  ⟨fp, wr, _, _, St, fun A hA => KTurns.ofWalksU (W A hA).toU, st0, hwZ, hfp, hob, fun i v h' d Z' le _ hd hP => by
    obtain ⟨T, vals, rfl, hP, hT⟩ := hP
    obtain ⟨dd, rfl, hr⟩ := hItm i vals d Z' le hd hP
    exact .tupv hT hr, fun A i s Q E hA st q => (W A hA).self i s Q E st q⟩
theorem range_turns {s : Shared} (I : Inv C Z s) {J : Addr} {a : Int} {m : Nat} {h : Heap} {new : Addr → Prop} (hJ : IsRangeIter h J a m 1) (hz : Z J = none) (hn : new J) (hr : ds = rngL a m) : Turns C target J ds Z h new := by
  subst hr
  refine turns_walks (St := fun i h => IsRangeIter h J (a + (i : Nat) * 1) ((m : Int) - (i : Nat)) 1) (fun A hA => by rw [rngL_length]; exact Walks.range hA J a 1 m) (fun i h' st' => ⟨_, _, st', rfl, by decide +kernel⟩) (show IsRangeIter h J (a + ((0 : Nat) : Int) * 1) ((m : Int) - ((0 : Nat) : Int)) 1 by simpa using hJ) (fun b hb => ?_) (fun b hb => ?_) (fun i h' st' b hb => ?_) fun i v d Z' le hd hP => ?_
  · rw [List.mem_singleton.mp hb]; exact hz
  · rw [List.mem_singleton.mp hb]; exact .inr ⟨hn, hz⟩
  · rw [List.mem_singleton.mp hb]; exact ⟨_, st', fun _ ps q => by have := congrArg Obj.cls q; simp [tabObj] at this⟩
  · obtain ⟨t, rfl⟩ := hP
    rw [rngL, List.getElem?_map] at hd
    cases hq : (List.range m)[i]? with
    | none => rw [hq] at hd; cases hd
    | some j =>
      rw [hq] at hd; cases hd
      have hj := List.getElem?_eq_some_iff.mp hq
      obtain ⟨hlt, hj⟩ := hj
      rw [List.getElem_range] at hj
      subst hj
      rw [Int.mul_one]
      exact .int _ _
theorem rangeSize_one {a b : Int} : Builtin.Range.rangeSize a b 1 = ((b - a).toNat : Int) := by
  unfold Builtin.Range.rangeSize
  rw [if_pos (by decide), Int.ediv_one]
  by_cases h : a < b
  · rw [if_pos h, Int.toNat_of_nonneg (by lia)]; lia
  · rw [if_neg h, Int.toNat_of_nonpos (by lia)]; rfl
theorem fi_range1 {m : Int} (hsm : Builtin.Range.small 0 m 1 = true) : FI C n (.type "range") [is (.int m)] target (rngL 0 m.toNat) := fun A s Z vs Q E hA I hv k => by
  obtain ⟨_, _, rfl, h, r⟩ := sati hv
  obtain rfl := sati r
  obtain ⟨_, rfl⟩ := rdi h
  rename_i t
  refine call_range_1 ?_
  have st : Step C Z s Z _ := StepX.push I (o := { cls := .type "range", data := .fields #[.int 0 s.toks, .int m t, .int 1 (s.toks + 1)] }) (t := s.toks + 1 + 1)
  refine wpAny_pyIter_range (Heap.get?_push_size _ rfl) hsm ?_
  have st2 : Step C Z _ Z _ := StepX.push st.inv (o := { cls := .type "range_iterator", data := .fields #[rawInt 0, rawInt (Builtin.Range.rangeSize 0 m 1), rawInt 1] }) (t := s.toks + 1 + 1)
  refine k _ Z _ (st.trans st2) (range_turns (m := m.toNat) st2.inv (a := 0) ?_ (st.inv.fresh (get?_above (Nat.le_refl _))) (Step.gone' st (get?_above (Nat.le_refl _))) rfl)
  have := Heap.get?_push_size (s.heap.push { cls := .type "range", data := .fields #[.int 0 s.toks, .int m t, .int 1 (s.toks + 1)] }) (o := { cls := .type "range_iterator", data := .fields #[rawInt 0, rawInt (Builtin.Range.rangeSize 0 m 1), rawInt 1] }) rfl
  rw [rangeSize_one, show m - 0 = m by lia] at this ⊢
  exact this
theorem fi_enum {ts : List Expr} {kk : Nat} : FI C n (.type "enumerate") [is (.list ds)] (.Tuple ts kk p) (enumL ds) := fun A s Z vs Q E hA I hv k => by
  obtain ⟨_, _, rfl, h, r⟩ := sati hv
  cases r
  cases h with
  | list h r =>
    rename_i a m vs
    have hl := isList_of I h
    refine call_enumerate_list hl fun h' he hit hsz hk => ?_
    refine wpAny_pyIter_enum he ?_
    have hal := Heap.lt_size (I.heap _ _ h)
    have st : Step C Z s Z { s with heap := h' } := .keeps (t := s.toks) I hk
    have hlen : (enumL ds).length = vs.toArray.size := by rw [enumL, List.length_map, List.length_zipIdx, List.size_toArray, r.length]
    have g0 := get?_above (Nat.le_refl s.heap.objs.size)
    have g1 := get?_above (Nat.le_succ s.heap.objs.size)
    refine k _ Z _ st (turns_walksU (fun A hA => hlen ▸ WalksT.enumerate hA (s.heap.objs.size + 1) s.heap.objs.size a (Nat.ne_of_gt (Nat.lt_succ_self _)) (Nat.ne_of_lt (Nat.lt_succ_of_lt hal)) (Nat.ne_of_lt hal) vs.toArray)
      ⟨⟨_, he⟩, hit, hl.at fun o e => hk _ o e⟩ (fun b hb => ?_) (fun b hb => ?_) (fun i h' st' b hb => ?_) fun i vals d Z' le hd hP => ?_)
    · rcases List.mem_cons.mp hb with rfl | hb
      · exact I.fresh g1
      · rw [List.mem_singleton.mp hb]; exact I.fresh g0
    · rcases List.mem_cons.mp hb with rfl | hb
      · exact .inr ⟨g1, I.fresh g1⟩
      · rcases List.mem_cons.mp hb with rfl | hb
        · exact .inr ⟨g0, I.fresh g0⟩
        · rw [List.mem_singleton.mp hb]; exact .inl ⟨_, h⟩
    · obtain ⟨⟨old, he⟩, ⟨o, ho, hc, hd⟩, o', ho', _⟩ := st'
      rcases List.mem_cons.mp hb with rfl | hb
      · exact ⟨_, he, fun _ ps q => by have := congrArg Obj.cls q; simp [tabObj] at this⟩
      · rcases List.mem_cons.mp hb with rfl | hb
        · exact ⟨o, ho, fun _ ps q => by subst q; simp [tabObj] at hc⟩
        · rw [List.mem_singleton.mp hb]; exact ⟨o', ho', fun q => by rw [h] at q; cases q⟩
    · obtain ⟨t, x, hx, rfl⟩ := hP
      rw [enumL, List.getElem?_map, List.getElem?_zipIdx] at hd
      cases hq : ds[i]? with
      | none => rw [hq] at hd; cases hd
      | some d' =>
        rw [hq] at hd
        simp at hd
        subst hd
        exact ⟨_, rfl, .cons (.int _ _) (.cons (RdL.at (RdL.le le r) (by simpa using hx) hq) .nil)⟩
theorem fi_rev : FI C n (.type "reversed") [is (.list ds)] target ds.reverse := fun A s Z vs Q E hA I hv k => by
  obtain ⟨_, _, rfl, h, r⟩ := sati hv
  obtain rfl := sati r
  cases h with
  | list h r =>
    rename_i a m vs
    have hl := isList_of I h
    have hal := Heap.lt_size (I.heap _ _ h)
    refine call_reversed_list hl ?_
    have hit : (s.heap.push (revObj a ((vs.toArray.size : Int) - 1))).IsRevIter s.heap.objs.size a ((vs.toArray.size : Int) - 1) := ⟨_, Heap.get?_push_size _ rfl, rfl, rfl⟩
    refine wpAny_pyIter_revIter hit ?_
    have st : Step C Z s Z _ := StepX.push I (o := revObj a ((vs.toArray.size : Int) - 1)) (t := s.toks)
    have hlen : ds.reverse.length = vs.toArray.size := by rw [List.length_reverse, List.size_toArray, r.length]
    have g0 := get?_above (Nat.le_refl s.heap.objs.size)
    refine k _ Z _ st (turns_walks (St := fun i h => i ≤ vs.toArray.size ∧ h.IsRevIter s.heap.objs.size a ((vs.toArray.size : Int) - 1 - (i : Int)) ∧ h.IsList a vs.toArray) (P := fun i v => vs.toArray[vs.toArray.size - 1 - i]? = some v) (fun A hA => by rw [hlen]; exact Walks.listRev hA s.heap.objs.size a (Nat.ne_of_lt hal) vs.toArray) (fun i h' st' => ?_) ⟨Nat.zero_le _, by simpa using hit, hl.push _⟩ (fun b hb => ?_) (fun b hb => ?_) (fun i h' st' b hb => ?_) fun i v d Z' le hd hP => ?_)
    · obtain ⟨_, ⟨o, ho, hc, _⟩, _⟩ := st'
      exact ⟨o, _, ho, hc, by decide +kernel⟩
    · rw [List.mem_singleton.mp hb]; exact I.fresh g0
    · rcases List.mem_cons.mp hb with rfl | hb
      · exact .inr ⟨g0, I.fresh g0⟩
      · rw [List.mem_singleton.mp hb]; exact .inl ⟨_, h⟩
    · obtain ⟨_, ⟨o, ho, hc, hd⟩, o', ho', _⟩ := st'
      rcases List.mem_cons.mp hb with rfl | hb
      · exact ⟨o, ho, fun _ ps q => by subst q; simp [tabObj] at hc⟩
      · rw [List.mem_singleton.mp hb]; exact ⟨o', ho', fun q => by rw [h] at q; cases q⟩
    · have hlt : i < ds.length := by
        have := (List.getElem?_eq_some_iff.mp hd).1
        rwa [List.length_reverse] at this
      rw [List.getElem?_reverse hlt] at hd
      refine RdL.at (RdL.le le r) (i := ds.length - 1 - i) ?_ hd
      rw [List.size_toArray, r.length] at hP
      simpa using hP
end
end
section
noncomputable def GlobD (C : Cx) (x : Str) (d : PV) : Prop := ∃ v, GlobZ C x v ∧ ∀ Z, Rd Z v d
section
variable {C : Cx} {n : Nat} {X : Addr → Prop} {env : Env} {nm oc : List Str} {sc : List (Str × NameKind)} {pos : Pos} {ρ : List (Option Vp)} {ω : List (Addr × List PV)} {κ : Addr → Option Obj}
theorem ev_globd {x : Str} {d : PV} (hg : GlobD C x d) (hk : sc.lookup x = some .globalImplicit) (hd : (x == ("__debug__" : Str)) = false) : EV C n (FS C env nm oc sc X ρ ω κ) (eval (.Name x pos) env) (is d) := by
  obtain ⟨v, hg, hr⟩ := hg
  exact ev_conv (ev_glob hg hk hd) fun h => by cases h; exact hr _
end
end
section
noncomputable def gtP : PV → PV → Bool
  | .int a, .int b => decide (a > b)
  | .flt a, .flt b => Float64.cmp a b == some .gt
  | _, _ => false
noncomputable def ltP : PV → PV → Bool
  | .int a, .int b => decide (a < b)
  | .flt a, .flt b => Float64.cmp a b == some .lt
  | _, _ => false
noncomputable def allInt : List PV → Bool
  | [] => true
  | .int _ :: r => allInt r
  | _ => false
noncomputable def allFlt : List PV → Bool
  | [] => true
  | .flt _ :: r => allFlt r
  | _ => false
noncomputable def bestP (bt : PV → PV → Bool) : List PV → PV
  | [] => .none
  | d :: ds => ds.foldl (fun σ d => if bt d σ then d else σ) d
theorem int_of {x : PV} {r : List PV} (h : allInt (x :: r) = true) : (∃ a, x = .int a) ∧ allInt r = true := by
  cases x <;> first | cases h | exact ⟨⟨_, rfl⟩, h⟩
theorem flt_of {x : PV} {r : List PV} (h : allFlt (x :: r) = true) : (∃ a, x = .flt a) ∧ allFlt r = true := by
  cases x <;> first | cases h | exact ⟨⟨_, rfl⟩, h⟩
theorem allInt_at {ds : List PV} {i : Nat} {d : PV} (h : allInt ds = true) (e : ds[i]? = some d) : ∃ a, d = .int a := by
  induction ds generalizing i with
  | nil => cases e
  | cons x r ih =>
    cases i with
    | zero => exact Option.some.inj e ▸ (int_of h).1
    | succ i => exact ih (int_of h).2 e
theorem allFlt_at {ds : List PV} {i : Nat} {d : PV} (h : allFlt ds = true) (e : ds[i]? = some d) : ∃ a, d = .flt a := by
  induction ds generalizing i with
  | nil => cases e
  | cons x r ih =>
    cases i with
    | zero => exact Option.some.inj e ▸ (flt_of h).1
    | succ i => exact ih (flt_of h).2 e
noncomputable def btAt (bt : PV → PV → Bool) (ds : List PV) : Nat → Nat → Bool := fun i j => bt (ds.getD i .none) (ds.getD j .none)
theorem argBest_at {bt : PV → PV → Bool} {d : PV} {ds : List PV} : ∀ m, m ≤ ds.length → (d :: ds)[argBest (btAt bt (d :: ds)) m]? = some ((ds.take m).foldl (fun σ d => if bt d σ then d else σ) d)
  | 0, _ => rfl
  | m + 1, h => by
    have ih := argBest_at (bt := bt) (d := d) (ds := ds) m (Nat.le_of_succ_le h)
    have hm : ds[m]? = some ds[m] := List.getElem?_eq_getElem h
    have e1 : (ds.take (m + 1)).foldl (fun σ d => if bt d σ then d else σ) d = if bt ds[m] ((ds.take m).foldl (fun σ d => if bt d σ then d else σ) d) then ds[m] else (ds.take m).foldl (fun σ d => if bt d σ then d else σ) d := by
      rw [List.take_add_one, hm, List.foldl_append]; rfl
    have e2 : btAt bt (d :: ds) (m + 1) (argBest (btAt bt (d :: ds)) m) = bt ds[m] ((ds.take m).foldl (fun σ d => if bt d σ then d else σ) d) := by
      show bt ((d :: ds).getD (m + 1) .none) ((d :: ds).getD (argBest (btAt bt (d :: ds)) m) .none) = _
      rw [List.getD_eq_getElem?_getD, List.getD_eq_getElem?_getD, ih, List.getElem?_cons_succ, hm]; rfl
    unfold argBest
    rw [e2, e1]
    by_cases q : bt ds[m] ((ds.take m).foldl (fun σ d => if bt d σ then d else σ) d) = true
    · rw [if_pos q, if_pos q, List.getElem?_cons_succ, hm]
    · rw [if_neg q, if_neg q, ih]
theorem best_at {bt : PV → PV → Bool} {d : PV} {ds : List PV} : (d :: ds)[argBest (btAt bt (d :: ds)) ((d :: ds).length - 1)]? = some (bestP bt (d :: ds)) := by
  have := argBest_at (bt := bt) (d := d) (ds := ds) ds.length (Nat.le_refl _)
  rw [List.take_length] at this
  exact this
section
variable {C : Cx} {n : Nat} {Φ : Asn C} {env : Env} {P R : Vp} {Ps : List Vp} {ds : List PV} {Z Z' : Fz} {s s' : Shared}
theorem cmp_gt {A : Around} {prog : Program} {w : World} {vs : List Value} (r : RdL Z vs ds) (h : (allInt ds || allFlt ds) = true) : CmpOf prog w A .Gt (fun i v => vs.toArray[i]? = some v) (btAt gtP ds) := fun i j vi vj s Q E hi hj hQ => by
  have hi' : vs[i]? = some vi := by simpa using hi
  have hj' : vs[j]? = some vj := by simpa using hj
  have li : i < ds.length := by have := (List.getElem?_eq_some_iff.mp hi').1; rw [r.length] at this; exact this
  have lj : j < ds.length := by have := (List.getElem?_eq_some_iff.mp hj').1; rw [r.length] at this; exact this
  have ei := List.getElem?_eq_getElem li
  have ej := List.getElem?_eq_getElem lj
  have ri := r.at hi' ei
  have rj := r.at hj' ej
  have eb : btAt gtP ds i j = gtP ds[i] ds[j] := by unfold btAt; rw [List.getD_eq_getElem?_getD, List.getD_eq_getElem?_getD, ei, ej]; rfl
  rw [eb] at hQ
  rcases Bool.or_eq_true_iff.mp h with h | h
  · obtain ⟨a, qa⟩ := allInt_at h ei
    obtain ⟨b, qb⟩ := allInt_at h ej
    rw [qa] at ri; rw [qb] at rj; rw [qa, qb] at hQ
    obtain ⟨_, rfl⟩ := rdi ri; obtain ⟨_, rfl⟩ := rdi rj
    exact richCompare_gives (op := .Gt) (typeIs_int s _ _) (typeIs_int s _ _) F.slot_int_gt F.entry_int_gt (F.args_int_gt_2 _ _) (gives_int_gt _ _ _ _) (fun x => nomatch x) hQ
  · obtain ⟨a, qa⟩ := allFlt_at h ei
    obtain ⟨b, qb⟩ := allFlt_at h ej
    rw [qa] at ri; rw [qb] at rj; rw [qa, qb] at hQ
    obtain ⟨_, rfl⟩ := rdi ri; obtain ⟨_, rfl⟩ := rdi rj
    exact richCompare_gives (op := .Gt) (typeIs_float s a _) (typeIs_float s b _) F.slot_float_gt F.entry_float_gt (F.args_float_gt_2 _ _) (AutoFloatG4.float___gt___float_float_0 a _ b _) (fun x => nomatch x) hQ
theorem cmp_lt {A : Around} {prog : Program} {w : World} {vs : List Value} (r : RdL Z vs ds) (h : (allInt ds || allFlt ds) = true) : CmpOf prog w A .Lt (fun i v => vs.toArray[i]? = some v) (btAt ltP ds) := fun i j vi vj s Q E hi hj hQ => by
  have hi' : vs[i]? = some vi := by simpa using hi
  have hj' : vs[j]? = some vj := by simpa using hj
  have li : i < ds.length := by have := (List.getElem?_eq_some_iff.mp hi').1; rw [r.length] at this; exact this
  have lj : j < ds.length := by have := (List.getElem?_eq_some_iff.mp hj').1; rw [r.length] at this; exact this
  have ei := List.getElem?_eq_getElem li
  have ej := List.getElem?_eq_getElem lj
  have ri := r.at hi' ei
  have rj := r.at hj' ej
  have eb : btAt ltP ds i j = ltP ds[i] ds[j] := by unfold btAt; rw [List.getD_eq_getElem?_getD, List.getD_eq_getElem?_getD, ei, ej]; rfl
  rw [eb] at hQ
  rcases Bool.or_eq_true_iff.mp h with h | h
  · obtain ⟨a, qa⟩ := allInt_at h ei
    obtain ⟨b, qb⟩ := allInt_at h ej
    rw [qa] at ri; rw [qb] at rj; rw [qa, qb] at hQ
    obtain ⟨_, rfl⟩ := rdi ri; obtain ⟨_, rfl⟩ := rdi rj
    exact richCompare_gives (op := .Lt) (typeIs_int s _ _) (typeIs_int s _ _) F.slot_int_lt F.entry_int_lt (F.args_int_lt_2 _ _) (gives_int_lt _ _ _ _) (fun x => nomatch x) hQ
  · obtain ⟨a, qa⟩ := allFlt_at h ei
    obtain ⟨b, qb⟩ := allFlt_at h ej
    rw [qa] at ri; rw [qb] at rj; rw [qa, qb] at hQ
    obtain ⟨_, rfl⟩ := rdi ri; obtain ⟨_, rfl⟩ := rdi rj
    exact richCompare_gives (op := .Lt) (typeIs_float s a _) (typeIs_float s b _) F.slot_float_lt F.entry_float_lt (F.args_float_lt_2 _ _) (AutoFloatG5.float___lt___float_float_0 a _ b _) (fun x => nomatch x) hQ
theorem rd_best {bt : PV → PV → Bool} {vs : List Value} {v : Value} (r : RdL Z vs ds) (hne : ds ≠ []) (h : vs.toArray[argBest (btAt bt ds) (vs.toArray.size - 1)]? = some v) : Rd Z v (bestP bt ds) := by
  cases ds with
  | nil => exact absurd rfl hne
  | cons d ds =>
    rw [List.size_toArray, r.length] at h
    exact r.at (by simpa using h) best_at
theorem fn_max_list (h : (allInt ds || allFlt ds) = true) (hne : ds ≠ []) : FN C n (.builtin "max") [is (.list ds)] (is (bestP gtP ds)) := fn1 fun A s Z v Q E hA I hv k => by
  obtain ⟨a, m, vs, rfl, hz, r⟩ := rdi hv
  have hl := isList_of I hz
  have hal := Heap.lt_size (I.heap _ _ hz)
  refine call_max_walk (wpAny_pyIter_list hl ⟨_, _, _, _, _, _, _, rfl, Walks.list (A := A.in1) hA.handled s.heap.objs.size a (Nat.ne_of_lt hal) vs.toArray, ⟨⟨_, Heap.get?_push_size _ rfl, rfl, rfl⟩, hl.push _⟩, fun b hb => ?_, ?_, cmp_gt r h, fun v h' tk hP hk => ?_⟩)
  · show b < (s.heap.push _).objs.size
    rw [Heap.size_push]
    rcases List.mem_cons.mp hb with rfl | hb
    · exact Nat.lt_succ_self _
    · rw [List.mem_singleton.mp hb]; exact Nat.lt_succ_of_lt hal
  · rw [List.size_toArray, r.length]; exact List.length_pos_iff.mpr hne
  · have st : Step C Z s Z { s with heap := h', toks := tk } := .keeps I fun b o e => hk b o (fun q => by rw [List.mem_singleton.mp q] at e; exact absurd (Heap.lt_size e) (Nat.lt_irrefl _)) (Heap.get?_push_of_some _ e)
    exact k v Z _ st (rd_best r hne hP)
theorem fn_min_list (h : (allInt ds || allFlt ds) = true) (hne : ds ≠ []) : FN C n (.builtin "min") [is (.list ds)] (is (bestP ltP ds)) := fn1 fun A s Z v Q E hA I hv k => by
  obtain ⟨a, m, vs, rfl, hz, r⟩ := rdi hv
  have hl := isList_of I hz
  have hal := Heap.lt_size (I.heap _ _ hz)
  refine call_min_walk (wpAny_pyIter_list hl ⟨_, _, _, _, _, _, _, rfl, Walks.list (A := A.in1) hA.handled s.heap.objs.size a (Nat.ne_of_lt hal) vs.toArray, ⟨⟨_, Heap.get?_push_size _ rfl, rfl, rfl⟩, hl.push _⟩, fun b hb => ?_, ?_, cmp_lt r h, fun v h' tk hP hk => ?_⟩)
  · show b < (s.heap.push _).objs.size
    rw [Heap.size_push]
    rcases List.mem_cons.mp hb with rfl | hb
    · exact Nat.lt_succ_self _
    · rw [List.mem_singleton.mp hb]; exact Nat.lt_succ_of_lt hal
  · rw [List.size_toArray, r.length]; exact List.length_pos_iff.mpr hne
  · have st : Step C Z s Z { s with heap := h', toks := tk } := .keeps I fun b o e => hk b o (fun q => by rw [List.mem_singleton.mp q] at e; exact absurd (Heap.lt_size e) (Nat.lt_irrefl _)) (Heap.get?_push_of_some _ e)
    exact k v Z _ st (rd_best r hne hP)
theorem three_setup {A : Around} {prog : Program} {w : World} {a b c : Value} {E : Value → Shared → Prop} {Q : Value → Shared → Prop} (hA : A.handled = none)
    (h : ∀ I s₂, Walks prog w A I [I, s.heap.objs.size] [I] 3 (fun i v => [a, b, c].toArray[i]? = some v) (fun i h => h.IsTupleIter I s.heap.objs.size i ∧ h.IsTuple s.heap.objs.size #[a, b, c]) →
      s₂ = { s with heap := (s.heap.push { cls := .type "tuple", data := .seq #[a, b, c] }).push { cls := .type "tuple_iterator", data := .fields #[.ref s.heap.objs.size, .int 0 0] } } → I = s.heap.objs.size + 1 → (s₂.heap.IsTupleIter I s.heap.objs.size 0 ∧ s₂.heap.IsTuple s.heap.objs.size #[a, b, c]) → Q (.ref I) s₂) :
    wpAny (model prog w) A (pyIter (.ref s.heap.objs.size)) Q E { s with heap := s.heap.push { cls := .type "tuple", data := .seq #[a, b, c] } } := by
  have hT : (s.heap.push { cls := .type "tuple", data := .seq #[a, b, c] }).IsTuple s.heap.objs.size #[a, b, c] := ⟨_, Heap.get?_push_size _ rfl, rfl, 0, rfl⟩
  refine wpAny_pyIter_tuple hT ?_
  have hsz : (s.heap.push { cls := .type "tuple", data := .seq #[a, b, c] }).objs.size = s.heap.objs.size + 1 := Heap.size_push ..
  refine h _ _ (Walks.tuple hA _ s.heap.objs.size (by rw [hsz]; exact Nat.ne_of_lt (Nat.lt_succ_self _)) #[a, b, c]) rfl hsz ⟨⟨_, Heap.get?_push_size _ rfl, rfl, rfl⟩, hT.push _⟩
theorem fn_max3 {d1 d2 d3 : PV} (h : (allInt [d1, d2, d3] || allFlt [d1, d2, d3]) = true) : FN C n (.builtin "max") [is d1, is d2, is d3] (is (bestP gtP [d1, d2, d3])) := fun A s Z vs Q E hA I hl hp k => by
  obtain ⟨a, b, c, rfl⟩ := len3 hl
  have r : RdL Z [a, b, c] [d1, d2, d3] := .cons (hp 0 a _ rfl rfl) (.cons (hp 1 b _ rfl rfl) (.cons (hp 2 c _ rfl rfl) .nil))
  refine call_max_three (three_setup (A := A.in1) hA.handled fun J s₂ W e hJ st => ⟨J, _, _, _, _, _, _, rfl, W, st, fun b hb => ?_, by decide, cmp_gt r h, fun v h' tk hP hk => ?_⟩)
  · subst e
    show b < ((s.heap.push _).push _).objs.size
    rw [Heap.size_push, Heap.size_push]
    rcases List.mem_cons.mp hb with rfl | hb
    · rw [hJ]; exact Nat.lt_succ_self _
    · rw [List.mem_singleton.mp hb]; exact Nat.lt_succ_of_lt (Nat.lt_succ_self _)
  · subst e
    have st : Step C Z s Z { s with heap := h', toks := tk } := .keeps I fun b o e => hk b o (fun q => by rw [List.mem_singleton.mp q, hJ] at e; exact absurd (Heap.lt_size e) (Nat.not_lt.mpr (Nat.le_succ _))) (Heap.get?_push_of_some _ (Heap.get?_push_of_some _ e))
    exact k v Z _ st (rd_best r (by simp) (by simpa using hP))
theorem fn_min3 {d1 d2 d3 : PV} (h : (allInt [d1, d2, d3] || allFlt [d1, d2, d3]) = true) : FN C n (.builtin "min") [is d1, is d2, is d3] (is (bestP ltP [d1, d2, d3])) := fun A s Z vs Q E hA I hl hp k => by
  obtain ⟨a, b, c, rfl⟩ := len3 hl
  have r : RdL Z [a, b, c] [d1, d2, d3] := .cons (hp 0 a _ rfl rfl) (.cons (hp 1 b _ rfl rfl) (.cons (hp 2 c _ rfl rfl) .nil))
  refine call_min_three (three_setup (A := A.in1) hA.handled fun J s₂ W e hJ st => ⟨J, _, _, _, _, _, _, rfl, W, st, fun b hb => ?_, by decide, cmp_lt r h, fun v h' tk hP hk => ?_⟩)
  · subst e
    show b < ((s.heap.push _).push _).objs.size
    rw [Heap.size_push, Heap.size_push]
    rcases List.mem_cons.mp hb with rfl | hb
    · rw [hJ]; exact Nat.lt_succ_self _
    · rw [List.mem_singleton.mp hb]; exact Nat.lt_succ_of_lt (Nat.lt_succ_self _)
  · subst e
    have st : Step C Z s Z { s with heap := h', toks := tk } := .keeps I fun b o e => hk b o (fun q => by rw [List.mem_singleton.mp q, hJ] at e; exact absurd (Heap.lt_size e) (Nat.not_lt.mpr (Nat.le_succ _))) (Heap.get?_push_of_some _ (Heap.get?_push_of_some _ e))
    exact k v Z _ st (rd_best r (by simp) (by simpa using hP))
end
end
section
noncomputable abbrev gtF (x y : UInt64) : Bool := Float64.cmp x y == some .gt
noncomputable def mxF (a b c : UInt64) : UInt64 := let m := if gtF b a then b else a; if gtF c m then c else m
noncomputable def mnF (a b c : UInt64) : UInt64 := let m := if ltF b a then b else a; if ltF c m then c else m
noncomputable def mxI (a b c : Int) : Int := let m := if b > a then b else a; if c > m then c else m
noncomputable def mnI (a b c : Int) : Int := let m := if b < a then b else a; if c < m then c else m
noncomputable def scOf (st : Stmt) : List (Str × NameKind) := (fdOf st "" .none .none .none).scope.names
inductive DefAt (C : Cx) (p : Program) (i : Nat) (x : Str) : Prop where
  | mk (f : Addr) (q : Str) (doc pm cd : Value) (g : GlobZ C x (.ref f)) (h : C.Z0 f = some { cls := .type "function", data := .func (fdOf (stAt p i) q doc pm cd) }) (c : CodeZ C cd q)
noncomputable def DefC (C : Cx) (n : Nat) (x : Str) (Ps : List Vp) (R : Vp) : Prop := ∃ f, GlobZ C x (.ref f) ∧ IsFn C f ∧ FN C n (.ref f) Ps R
section
variable {C : Cx} {n m : Nat} {X : Addr → Prop} {env : Env} {nm oc : List Str} {sc : List (Str × NameKind)} {pos p : Pos} {ρ : List (Option Vp)} {ω : List (Addr × List PV)} {κ : Addr → Option Obj} {Ps : List Vp} {P R : Vp} {Φ : Asn C} {e : Expr} {es : List Expr} {f : Value}
theorem FN.le (h : m ≤ n) (F : FN C m f Ps R) : FN C n f Ps R := fun A s Z vs Q E hA => F A s Z vs Q E (hA.le h)
theorem fn_eq {R' : Vp} (F : FN C n f Ps R) (e : R = R') : FN C n f Ps R' := e ▸ F
theorem ev_callD {x : Str} (ha : EL C n (FS C env nm oc sc X ρ ω κ) (spliced (backTo pos (starEach (e :: es) env))) Ps) (D : DefC C m x Ps R) (hm : m ≤ n) (hk : sc.lookup x = some .globalImplicit) (hd : (x == ("__debug__" : Str)) = false)
    (he : starEach (e :: es) env = (false, eval e env) :: starEach es env := by rfl) : EV C n (FS C env nm oc sc X ρ ω κ) (eval (.Call (.Name x p) (e :: es) [] pos) env) R := by
  obtain ⟨f, hg, hf, F⟩ := D
  exact ev_call (ev_glob hg hk hd) hf ha (F.le hm) he
theorem ev_callBt {x : Str} {id : String} (hb : BltZ C x (.builtin id)) (ha : EL C n (FS C env nm oc sc X ρ ω κ) (spliced (backTo pos (starEach (e :: es) env))) Ps) (F : FN C n (.builtin id) Ps R) (hk : sc.lookup x = some .globalImplicit) (hd : (x == ("__debug__" : Str)) = false)
    (he : starEach (e :: es) env = (false, eval e env) :: starEach es env := by rfl) (hp : (backTo pos (starEach es env)).any (·.1) = false := by rfl) : EV C n (FS C env nm oc sc X ρ ω κ) (eval (.Call (.Name x p) (e :: es) [] pos) env) R :=
  ev_callB (ev_blt hb hk hd) ha F he hp
theorem ev_callTt {x : Str} {id : String} (hb : BltZ C x (.type id)) (ha : EL C n (FS C env nm oc sc X ρ ω κ) (spliced (backTo pos (starEach (e :: es) env))) Ps) (F : FN C n (.type id) Ps R) (hk : sc.lookup x = some .globalImplicit) (hd : (x == ("__debug__" : Str)) = false)
    (he : starEach (e :: es) env = (false, eval e env) :: starEach es env := by rfl) (hp : (backTo pos (starEach es env)).any (·.1) = false := by rfl) : EV C n (FS C env nm oc sc X ρ ω κ) (eval (.Call (.Name x p) (e :: es) [] pos) env) R :=
  ev_callT (ev_blt hb hk hd) ha F he hp
theorem it_callTt {x : Str} {id : String} {target : Expr} {ds : List PV} (hb : BltZ C x (.type id)) (ha : EL C n (FS C env nm oc sc X ρ ω κ) (spliced (backTo pos (starEach (e :: es) env))) Ps) (F : FI C n (.type id) Ps target ds) (hk : sc.lookup x = some .globalImplicit) (hd : (x == ("__debug__" : Str)) = false)
    (he : starEach (e :: es) env = (false, eval e env) :: starEach es env := by rfl) (hp : (backTo pos (starEach es env)).any (·.1) = false := by rfl) : IT C n (FS C env nm oc sc X ρ ω κ) (.Call (.Name x p) (e :: es) [] pos) env target ds :=
  it_callT (ev_blt hb hk hd) ha F he hp
theorem best3 {α : Type} {bt : PV → PV → Bool} {r : α → α → Bool} {f : α → PV} (h : ∀ x y, bt (f x) (f y) = r x y) (a b c : α) : bestP bt [f a, f b, f c] = f (let m := if r b a then b else a; if r c m then c else m) := by
  show (let m := if bt (f b) (f a) then f b else f a; if bt (f c) m then f c else m) = _
  rw [h]
  cases r b a
  · show (if bt (f c) (f a) then f c else f a) = f (if r c a then c else a)
    rw [h]; cases r c a <;> rfl
  · show (if bt (f c) (f b) then f c else f b) = f (if r c b then c else b)
    rw [h]; cases r c b <;> rfl
theorem fn_max3F {a b c : UInt64} : FN C n (.builtin "max") [is (.flt a), is (.flt b), is (.flt c)] (is (.flt (mxF a b c))) :=
  fn_eq (fn_max3 rfl) (congrArg is (best3 (f := PV.flt) (r := gtF) (fun _ _ => rfl) a b c))
theorem fn_min3F {a b c : UInt64} : FN C n (.builtin "min") [is (.flt a), is (.flt b), is (.flt c)] (is (.flt (mnF a b c))) :=
  fn_eq (fn_min3 rfl) (congrArg is (best3 (f := PV.flt) (r := ltF) (fun _ _ => rfl) a b c))
theorem fn_max3I {a b c : Int} : FN C n (.builtin "max") [is (.int a), is (.int b), is (.int c)] (is (.int (mxI a b c))) :=
  fn_eq (fn_max3 rfl) (congrArg is ((best3 (f := PV.int) (r := fun x y => decide (x > y)) (fun _ _ => rfl) a b c).trans (congrArg PV.int (by simp only [mxI, decide_eq_true_eq]))))
theorem fn_min3I {a b c : Int} : FN C n (.builtin "min") [is (.int a), is (.int b), is (.int c)] (is (.int (mnI a b c))) :=
  fn_eq (fn_min3 rfl) (congrArg is ((best3 (f := PV.int) (r := fun x y => decide (x < y)) (fun _ _ => rfl) a b c).trans (congrArg PV.int (by simp only [mnI, decide_eq_true_eq]))))
end
end
section
theorem fin_cases {x : UInt64} (h : Float64.isFinite x = true) : Float64.isNaN x = false ∧ Float64.isInf x = false := by
  unfold Float64.isFinite at h
  unfold Float64.isNaN Float64.isInf
  revert h
  cases Float64.decode x <;> simp
section
variable {C : Cx} {n : Nat} {x : UInt64} {i : Int} {b : Bool} {w : Str}
theorem fn_int_flt (h : Float64.isFinite x = true) : FN C n (.type "int") [is (.flt x)] (is (.int (PySem.Flt.toInt Float64.truncOf x))) := fn1 fun A s Z v Q E hA I hv k => by
  obtain ⟨_, rfl⟩ := rdi hv
  obtain ⟨h1, h2⟩ := fin_cases h
  exact PySem.Flt.call_int_float3 hA.handled (fun q => by rw [h1] at q; cases q) (fun q => by rw [h2] at q; cases q) fun _ => k _ Z _ (Step.toks I _) (.int _ _)
theorem fn_round_flt (h : Float64.isFinite x = true) : FN C n (.builtin "round") [is (.flt x)] (is (.int (PySem.Flt.toInt Float64.nearestOf x))) := fn1 fun A s Z v Q E hA I hv k => by
  obtain ⟨_, rfl⟩ := rdi hv
  obtain ⟨h1, h2⟩ := fin_cases h
  exact PySem.Flt.call_round_float hA.handled (fun q => by rw [h1] at q; cases q) (fun q => by rw [h2] at q; cases q) fun _ => k _ Z _ (Step.toks I _) (.int _ _)
theorem fn_int_bool : FN C n (.type "int") [is (.bool b)] (is (.int (if b then 1 else 0))) := fn1 fun A s Z v Q E hA I hv k => by
  obtain ⟨_, rfl⟩ := rdi hv
  exact call_int_bool (k _ Z _ (Step.toks I _) (.int _ _))
end
noncomputable def IsL (Ps : List Vp) (ds : List PV) : Prop := Ps = ds.map is
theorem IsL.nil : IsL [] [] := rfl
theorem IsL.cons {d : PV} {Ps : List Vp} {ds : List PV} (r : IsL Ps ds) : IsL (is d :: Ps) (d :: ds) := congrArg (is d :: ·) r
theorem IsL.eq {Ps : List Vp} {ds : List PV} (h : IsL Ps ds) : Ps = ds.map is := h
section
variable {C : Cx} {n : Nat} {Φ : Asn C} {env : Env} {Ps : List Vp} {ds : List PV} {es : List Expr} {pos : Pos} {kk : Nat}
theorem ev_tupL (h : EL C n Φ (spliced (backTo pos (starEach es env))) Ps) (q : IsL Ps ds) (hsz : ds.length ≤ sizeLine) : EV C n Φ (eval (.Tuple es kk pos) env) (is (.tup ds)) := ev_tup (q.eq ▸ h) hsz
theorem ev_listL (h : EL C n Φ (spliced (backTo pos (starEach es env))) Ps) (q : IsL Ps ds) (hsz : ds.length ≤ sizeLine) : EV C n Φ (eval (.List es pos) env) (is (.list ds)) := ev_list (q.eq ▸ h) hsz
theorem evn_listL (h : EL C n Φ (spliced (backTo pos (starEach es env))) Ps) (q : IsL Ps ds) (hsz : ds.length ≤ sizeLine) : EVN C n Φ (eval (.List es pos) env) (fun a => isv (.ref a)) ds := evn_list (ρ := []) (q.eq ▸ h) hsz
end
end
section
noncomputable def ownN (names : List (Str × NameKind)) : List Str := (names.filter fun x => x.2 != .free).map (·.1)
theorem ownN_ok {names : List (Str × NameKind)} (nd : (names.map (·.1)).Nodup) : (ownN names).all (fun x => names.lookup x != some .free) = true := by
  refine List.all_eq_true.mpr fun x hx => ?_
  obtain ⟨p, hp, e⟩ := List.mem_map.mp hx
  obtain ⟨h1, h2⟩ := List.mem_filter.mp hp
  obtain ⟨y, k⟩ := p
  cases e
  rw [lookup_of_nodup nd h1]
  cases k <;> first | rfl | exact h2
section
variable {α : Type} {C : Cx} {n : Nat} {X : Addr → Prop} {env : Env} {nm oc : List Str} {sc : List (Str × NameKind)} {ω : List (Addr × List PV)} {κ : Addr → Option Obj} {ρ : List (Option Vp)}
  {elt target iter : Expr} {ifs : List Expr} {scope : Scope} {pos : Pos} {xs : List α} {f : α → PV} {nm' : List Str} {ρ' : List (Option Vp)}
theorem tgt_tup {ts : List Expr} {kk : Nat} {p : Pos} {ds : List PV} {Ps : List Vp} {ρ ρ' : List (Option Vp)} (q : IsL Ps ds) (r : Bds nm oc sc ts Ps ρ ρ') : Tgt nm oc sc (.Tuple ts kk p) (.tup ds) ρ ρ' := .tup (q.eq ▸ r)
theorem tgt_lst {ts : List Expr} {kk : Nat} {p : Pos} {ds : List PV} {Ps : List Vp} {ρ ρ' : List (Option Vp)} (q : IsL Ps ds) (r : Bds nm oc sc ts Ps ρ ρ') : Tgt nm oc sc (.Tuple ts kk p) (.list ds) ρ ρ' := .lst (q.eq ▸ r)
theorem comp1_ok {h : α → PV} (hit : IT C n (FS C env nm oc sc X ρ ω κ) iter env target (xs.map f)) (hfr : FreeR nm ρ sc (relN scope.names sc) scope.names nm' ρ') (hkind : scope.kind = .function) (hnd : (scope.names.map (·.1)).Nodup) (hnm' : nm' = scope.names.map (·.1)) (hsz : xs.length ≤ sizeLine)
    (step : ∀ cenv X' x, x ∈ xs → ∃ ρ'', Tgt nm' (ownN scope.names) (relN scope.names sc) target (f x) ρ' ρ'' ∧ Fgt ρ'' ρ' ∧ ∀ ω κ, EV C n (FS C cenv nm' (ownN scope.names) (relN scope.names sc) X' ρ'' ω κ) (eval elt cenv) (is (h x)))
    (hs : ∀ x, foldedSetIterable iter env x = pure x := by intro _; rfl) :
    CompOk C n X env nm oc sc ρ ω κ elt target iter [] [] scope pos (fun cenv D _ => eval elt cenv >>= fun x => call (.builtin "list.append") [.ref D, x] >>= fun _ => pure ()) xs f (fun x => [h x]) (relN scope.names sc) nm' (ownN scope.names) ρ' where
  hit := hit
  hsc' := rfl
  hfr := hfr
  hkind := hkind
  hnd := hnd
  hnm' := hnm'
  hoc := ownN_ok hnd
  ht := fun cenv D J => turn_last rfl rfl
  step := fun cenv D J X' x hx => by
    obtain ⟨ρ'', T, F, e⟩ := step cenv X' x hx
    exact ⟨ρ'', true, T, F, fun _ _ => ts_nil, fun _ => em_last fun ys κ => e _ _, fun q => nomatch q⟩
  hsz := by rw [flat_one, List.length_map]; exact hsz
  hs := hs
theorem comp1if_ok {h : α → PV} {p : α → Bool} {c : Expr} (hit : IT C n (FS C env nm oc sc X ρ ω κ) iter env target (xs.map f)) (hfr : FreeR nm ρ sc (relN scope.names sc) scope.names nm' ρ') (hkind : scope.kind = .function) (hnd : (scope.names.map (·.1)).Nodup) (hnm' : nm' = scope.names.map (·.1)) (hsz : xs.length ≤ sizeLine)
    (step : ∀ cenv X' x, x ∈ xs → ∃ ρ'', Tgt nm' (ownN scope.names) (relN scope.names sc) target (f x) ρ' ρ'' ∧ Fgt ρ'' ρ' ∧ (∀ ω κ, TV C n (FS C cenv nm' (ownN scope.names) (relN scope.names sc) X' ρ'' ω κ) (isTrue c cenv (eval c cenv)) (p x)) ∧
      (p x = true → ∀ ω κ, EV C n (FS C cenv nm' (ownN scope.names) (relN scope.names sc) X' ρ'' ω κ) (eval elt cenv) (is (h x))))
    (hs : ∀ x, foldedSetIterable iter env x = pure x := by intro _; rfl) :
    CompOk C n X env nm oc sc ρ ω κ elt target iter [c] [] scope pos (fun cenv D _ => eval elt cenv >>= fun x => call (.builtin "list.append") [.ref D, x] >>= fun _ => pure ()) xs f (fun x => if p x then [h x] else []) (relN scope.names sc) nm' (ownN scope.names) ρ' where
  hit := hit
  hsc' := rfl
  hfr := hfr
  hkind := hkind
  hnd := hnd
  hnm' := hnm'
  hoc := ownN_ok hnd
  ht := fun cenv D J => turn_last rfl rfl
  step := fun cenv D J X' x hx => by
    obtain ⟨ρ'', T, F, t, e⟩ := step cenv X' x hx
    refine ⟨ρ'', p x, T, F, fun _ _ => ts_one (t _ _), fun q => ?_, fun q => by rw [q]; rfl⟩
    rw [q]
    exact em_last fun ys κ => e q _ _
  hsz := by rw [flat_if, List.length_map]; exact Nat.le_trans (List.length_filter_le ..) hsz
  hs := hs
theorem ev_comp1 {β : Type} {t : Env → Addr → Addr → Sem β} {h : α → PV} {sc' : List (Str × NameKind)} {oc' : List Str} {gens : List Comprehension} (O : CompOk C n X env nm oc sc ρ ω κ elt target iter ifs gens scope pos t xs f (fun x => [h x]) sc' nm' oc' ρ') :
    EV C n (FS C env nm oc sc X ρ ω κ) (eval (.ListComp elt (⟨target, iter, ifs, 0⟩ :: gens) scope pos) env) (is (.list (xs.map h))) := ev_d (ev_compG O) (by rw [flat_one])
theorem ev_comp1if {β : Type} {t : Env → Addr → Addr → Sem β} {h : α → PV} {p : α → Bool} {sc' : List (Str × NameKind)} {oc' : List Str} {gens : List Comprehension} (O : CompOk C n X env nm oc sc ρ ω κ elt target iter ifs gens scope pos t xs f (fun x => if p x then [h x] else []) sc' nm' oc' ρ') :
    EV C n (FS C env nm oc sc X ρ ω κ) (eval (.ListComp elt (⟨target, iter, ifs, 0⟩ :: gens) scope pos) env) (is (.list ((xs.filter p).map h))) := ev_d (ev_compG O) (by rw [flat_if])
end
theorem bits_small {a : Int} (h : a.natAbs < 2 ^ 64) : Builtin.Int.intBits a ≤ 64 := by
  unfold Builtin.Int.intBits
  split
  · exact Nat.zero_le _
  · rename_i h0
    have : a.natAbs.log2 < 64 := (Nat.log2_lt (by simpa using h0)).mpr h
    lia
theorem mulOk_l {a b : Int} (h : a.natAbs < 18446744073709551616) : IntMulOk a b := IntMulOk.of_left (bits_small h)
section
variable {C : Cx} {n : Nat} {Φ : Asn C} {iter target : Expr} {env : Env} {ds ds' : List PV} {P : Vp}
theorem it_eq (h : IT C n Φ iter env target ds) (e : ds = ds') : IT C n Φ iter env target ds' := e ▸ h
theorem it_list (h : EV C n Φ (eval iter env) (is (.list ds))) : IT C n Φ iter env target ds := it_ev h pi_list
theorem it_tup (h : EV C n Φ (eval iter env) (is (.tup ds))) : IT C n Φ iter env target ds := it_ev h pi_tup
end
section
variable {C : Cx} {n : Nat} {X : Addr → Prop} {env : Env} {nm oc : List Str} {sc : List (Str × NameKind)} {ω : List (Addr × List PV)} {κ : Addr → Option Obj} {ρ ρ' : List (Option Vp)} {Ps Ps' : List Vp} {ts : List Expr} {rest : List Stmt} {Ψ : Asn C} {R : Vp} {names : List Str}
theorem tk_nil (e : Ps = Ps') (B : Bds nm oc sc ts Ps' ρ ρ') (h : EX C n X (FS C env nm oc sc X ρ' ω κ) (execs rest env) Ψ R) :
    TupK C n X env nm oc sc ρ κ (fun Ps ω => ∃ ρ', Bds nm oc sc ts Ps ρ ρ' ∧ EX C n X (FS C env nm oc sc X ρ' ω κ) (execs rest env) Ψ R) [] Ps ω := .nil ⟨ρ', e ▸ B, h⟩
theorem tk_nil_sw {ns : List Str} (e : Ps.reverse = Ps') (e2 : names.reverse = ns) (B : Bdn nm oc sc ns Ps' ρ ρ') (h : EX C n X (FS C env nm oc sc X ρ' ω κ) (execs rest env) Ψ R) :
    TupK C n X env nm oc sc ρ κ (fun Ps ω => ∃ ρ', Bdn nm oc sc names.reverse Ps.reverse ρ ρ' ∧ EX C n X (FS C env nm oc sc X ρ' ω κ) (execs rest env) Ψ R) [] Ps ω := .nil ⟨ρ', by rw [e, e2]; exact B, h⟩
theorem exs_for {iter target : Expr} {body : List Stmt} {pos : Pos} {ds : List PV} {ρs : Nat → List (Option Vp)} {ωs : Nat → List (Addr × List PV)} (e0 : ρ = ρs 0) (e1 : ω = ωs 0) (hit : IT C n (FS C env nm oc sc X ρ ω κ) iter env target ds)
    (hω : ∀ i, (ωs i).map (·.1) = (ωs 0).map (·.1))
    (step : ∀ κ' i d, ds[i]? = some d → ∃ ρ', Tgt nm oc sc target d (ρs i) ρ' ∧ EX C n X (FS C env nm oc sc X ρ' (ωs i) κ') (execs body env) (FS C env nm oc sc X (ρs (i + 1)) (ωs (i + 1)) κ') R)
    (h : EX C n X (FS C env nm oc sc X (ρs ds.length) (ωs ds.length) κ) (execs rest env) Ψ R)
    (hs : ∀ x, foldedSetIterable iter env x = pure x := by intro _; rfl) : EX C n X (FS C env nm oc sc X ρ ω κ) (execs (.For target iter body [] pos :: rest) env) Ψ R := by
  subst e0 e1
  exact ex_cons (ex_for hit hω step hs) h
theorem ex_end {Φ : Asn C} (h : ∀ {Z h}, Φ.at_ Z h → Ψ.at_ Z h) : EX C n X Φ (execs [] env) Ψ R := ex_mono ex_nil h
end
section
variable {C : Cx} {n : Nat} {X : Addr → Prop} {env : Env} {nm oc : List Str} {sc : List (Str × NameKind)} {ω : List (Addr × List PV)} {κ : Addr → Option Obj} {ρ ρ' : List (Option Vp)} {R : Vp}
theorem ex_fgt (g : Fgt ρ ρ') : EX C n X (FS C env nm oc sc X ρ ω κ) (execs [] env) (FS C env nm oc sc X ρ' ω κ) R := ex_end fun h => h.forget g
end
theorem ex_mk {α : Sort _} {P Q : α → Prop} {a : α} (h : P a) (k : Q a) : ∃ x, P x ∧ Q x := ⟨a, h, k⟩
theorem ex_mk3 {α : Sort _} {P Q R : α → Prop} {a : α} (h : P a) (k : Q a) (r : R a) : ∃ x, P x ∧ Q x ∧ R x := ⟨a, h, k, r⟩
theorem ex_mk4 {α : Sort _} {P Q R S : α → Prop} {a : α} (h : P a) (k : Q a) (r : R a) (s : S a) : ∃ x, P x ∧ Q x ∧ R x ∧ S x := ⟨a, h, k, r, s⟩
end
section
open PySem.SeqAt
noncomputable def eqA : PV → PV → Bool
  | .int a, .int b => a == b
  | .str a, .str b => a == b
  | _, _ => false
noncomputable def kindA : PV → Nat
  | .int _ => 1
  | .str _ => 2
  | _ => 0
noncomputable def okA (d d' : PV) : Bool := kindA d != 0 && kindA d == kindA d'
noncomputable def lstP : PV → List PV
  | .list l => l
  | _ => []
noncomputable def eqLs (l m : List PV) : Bool := l.length == m.length && (l.zip m).all fun p => eqA p.1 p.2
noncomputable def okLs (l m : List PV) : Bool := l.length != m.length || (l.zip m).all fun p => okA p.1 p.2
noncomputable def eqN : Nat → PV → PV → Bool
  | 0, d, d' => eqA d d'
  | _ + 1, d, d' => eqLs (lstP d) (lstP d')
noncomputable def okN : Nat → PV → PV → Bool
  | 0, d, d' => okA d d'
  | _ + 1, d, d' => okLs (lstP d) (lstP d')
theorem eqN_int (a b : Int) : eqN 0 (.int a) (.int b) = (a == b) := rfl
theorem eqN_str (a b : Str) : eqN 0 (.str a) (.str b) = (a == b) := rfl
theorem kind_inv (d : PV) : (∃ a, d = .int a) ∨ (∃ a, d = .str a) ∨ kindA d = 0 := by
  cases d with
  | int a => exact .inl ⟨a, rfl⟩
  | str a => exact .inr (.inl ⟨a, rfl⟩)
  | _ => exact .inr (.inr rfl)
theorem ok_inv {d d' : PV} (h : okA d d' = true) : (∃ a b, d = .int a ∧ d' = .int b) ∨ (∃ a b, d = .str a ∧ d' = .str b) := by
  obtain ⟨h1, h2⟩ := Bool.and_eq_true_iff.mp h
  have h2 := beq_iff_eq.mp h2
  rcases kind_inv d with ⟨a, rfl⟩ | ⟨a, rfl⟩ | e
  · rcases kind_inv d' with ⟨b, rfl⟩ | ⟨b, rfl⟩ | e
    · exact .inl ⟨a, b, rfl, rfl⟩
    · cases h2
    · rw [e] at h2; cases h2
  · rcases kind_inv d' with ⟨b, rfl⟩ | ⟨b, rfl⟩ | e
    · cases h2
    · exact .inr ⟨a, b, rfl, rfl⟩
    · rw [e] at h2; cases h2
  · rw [e] at h1; cases h1
theorem zip_self {l : List PV} {p : PV × PV} (hp : p ∈ l.zip l) : p.1 = p.2 := by
  obtain ⟨i, hi⟩ := List.mem_iff_getElem?.mp hp
  have e := List.getElem?_zip_eq_some.mp hi
  exact Option.some.inj (e.1.symm.trans e.2)
theorem zip_all_at {l m : List PV} {p : PV × PV → Bool} {i : Nat} {a b : PV} (h : (l.zip m).all p = true) (ha : l[i]? = some a) (hb : m[i]? = some b) : p (a, b) = true :=
  List.all_eq_true.mp h _ (List.mem_of_getElem? (List.getElem?_zip_eq_some.mpr ⟨ha, hb⟩))
theorem zip_all_range {l m : List PV} {p : PV × PV → Bool} (hl : l.length = m.length) : (l.zip m).all p = (List.range l.length).all fun i => p (l.getD i .none, m.getD i .none) := by
  induction l generalizing m with
  | nil => rfl
  | cons a l ih =>
    cases m with
    | nil => cases hl
    | cons b m =>
      rw [List.length_cons, List.range_succ_eq_map, List.all_cons, List.all_map]
      exact congrArg (p (a, b) && ·) (ih (Nat.succ.inj hl))
section
variable {C : Cx} {Z : Fz} {s : Shared}
theorem eq_at (I : Inv C Z s) (A : Around) {d d' : PV} {v v' : Value} (h : Rd Z v d) (h' : Rd Z v' d') (hk : okA d d' = true) : EqAt A s v v' (eqA d d') := by
  rcases ok_inv hk with ⟨a, b, rfl, rfl⟩ | ⟨a, b, rfl, rfl⟩
  · obtain ⟨_, rfl⟩ := rdi h; obtain ⟨_, rfl⟩ := rdi h'
    exact EqAt.int_int _ _ _ _
  · obtain ⟨_, rfl⟩ := rdi h; obtain ⟨_, rfl⟩ := rdi h'
    exact EqAt.str_str _ _ _ _
theorem items_at (I : Inv C Z s) (A : Around) {l m : List PV} {vs vs' : List Value} (r : RdL Z vs l) (r' : RdL Z vs' m) (hp : ((l.zip m).all fun p => okA p.1 p.2) = true)
    (j : Nat) (h1 : j < vs.toArray.size) (h2 : j < vs'.toArray.size) : EqAt A s vs.toArray[j] vs'.toArray[j] (eqA (l.getD j .none) (m.getD j .none)) := by
  have j1 : j < vs.length := by rw [List.size_toArray] at h1; exact h1
  have j2 : j < vs'.length := by rw [List.size_toArray] at h2; exact h2
  have g1 := List.getElem?_eq_getElem (r.length ▸ j1)
  have g2 := List.getElem?_eq_getElem (r'.length ▸ j2)
  rw [List.getD_eq_getElem?_getD, List.getD_eq_getElem?_getD, g1, g2, List.getElem_toArray, List.getElem_toArray]
  exact eq_at I A (r.at (List.getElem?_eq_getElem j1) g1) (r'.at (List.getElem?_eq_getElem j2) g2) (zip_all_at hp g1 g2)
theorem eqLs_range {l m : List PV} {vs : List Value} (r : RdL Z vs l) (hl : l.length = m.length) : eqLs l m = (List.range vs.toArray.size).all fun i => eqA (l.getD i .none) (m.getD i .none) := by
  rw [eqLs, zip_all_range hl, List.size_toArray, r.length, hl, beq_self_eq_true, Bool.true_and]
theorem eqLs_len {l m : List PV} (hl : ¬ l.length = m.length) : eqLs l m = false := by
  rw [eqLs, beq_eq_false_iff_ne.mpr hl, Bool.false_and]
theorem okLs_at {l m : List PV} (h : okLs l m = true) (hl : l.length = m.length) : ((l.zip m).all fun p => okA p.1 p.2) = true := by
  rw [okLs, hl, bne_self_eq_false, Bool.false_or] at h; exact h
theorem sizes_at {l m : List PV} {vs vs' : List Value} (r : RdL Z vs l) (r' : RdL Z vs' m) (hl : l.length = m.length) : vs.toArray.size = vs'.toArray.size := by rw [List.size_toArray, List.size_toArray, r.length, r'.length, hl]
theorem sizes_ne {l m : List PV} {vs vs' : List Value} (r : RdL Z vs l) (r' : RdL Z vs' m) (hl : ¬ l.length = m.length) : (vs.toArray.size != vs'.toArray.size) = true := by rw [List.size_toArray, List.size_toArray, r.length, r'.length]; exact bne_iff_ne.mpr hl
end
section
variable {C : Cx} {n : Nat} {l m : List PV}
theorem op_eq_list (k : Nat) (hk : k ≤ 800) (h : okN 1 (.list l) (.list m) = true) : OP2 C n (compareOp .Eq) (is (.list l)) (is (.list m)) (is (.bool (eqN 1 (.list l) (.list m)))) := fun A s Z u v Q E hA I hu hv kk => by
  have hun : A.units < 9900 := by have := hA.units; lia
  obtain ⟨a, n, vs, rfl, hz, r⟩ := rdi hu
  obtain ⟨a', n', vs', rfl, hz', r'⟩ := rdi hv
  have kk := kk (.bool (eqLs l m)) Z _ (StepX.refl I) (.bool _)
  by_cases hl : l.length = m.length
  · rw [eqLs_range r hl] at kk
    exact eq_listAt (isList_of I hz) (isList_of I hz') (sizes_at r r' hl) hun (items_at I A.in1 r r' (okLs_at h hl)) kk
  · rw [eqLs_len hl] at kk
    exact eq_list_lengthsAt (isList_of I hz) (isList_of I hz') (sizes_ne r r' hl) hun kk
end
end
section
open PySem.SeqAt
section
variable {C : Cx} {n : Nat} {X : Addr → Prop} {Φ : Asn C} {env : Env} {l m : List PV} {l' r' : Expr} {pos : Pos} {c : Bool} {R : Vp}
theorem ev_ifexpT {t b o : Expr} (ht : TV C n Φ (isTrue t env (eval t env)) c) (hc : c = true) (hb : EV C n Φ (eval b env) R) : EV C n Φ (eval (.IfExp t b o pos) env) R :=
  ev_ifexp ht (fun _ => hb) fun q => by rw [hc] at q; cases q
theorem ex_asgU {nm oc : List Str} {sc : List (Str × NameKind)} {ω : List (Addr × List PV)} {κ : Addr → Option Obj} {ts : List Expr} {kk : Nat} {p pos : Pos} {d : PV} {ρ ρ' : List (Option Vp)} {e : Expr} (he : EV C n (FS C env nm oc sc X ρ ω κ) (eval e env) (is d)) (T : Tgt nm oc sc (.Tuple ts kk p) d ρ ρ')
    (hs : swapsWithSole [.Tuple ts kk p] e pos.line env = pure false) (hw : swappedStores [.Tuple ts kk p] e env = pure none) :
    EX C n X (FS C env nm oc sc X ρ ω κ) (exec (.Assign [.Tuple ts kk p] e pos) env) (FS C env nm oc sc X ρ' ω κ) R := ex_asgT (t := e) he T hs hw
section
variable {α β : Type} {nm oc : List Str} {sc : List (Str × NameKind)} {ω : List (Addr × List PV)} {κ : Addr → Option Obj} {ρ ρ₂ : List (Option Vp)} {elt target iter : Expr} {ifs : List Expr} {gens : List Comprehension} {scope : Scope} {pos' : Pos} {t : Env → Addr → Addr → Sem β} {xs : List α} {f : α → PV} {sc' : List (Str × NameKind)} {nm' oc' : List Str} {ρ' : List (Option Vp)}
theorem ex_assignC1 {ds : List PV} {h : α → PV} {x : Str} {xp spos : Pos} (O : CompOk C n X env nm oc sc ρ ω κ elt target iter ifs gens scope pos' t xs f (fun x => [h x]) sc' nm' oc' ρ') (e : xs.map h = ds) (hu : Upd nm ρ x (some (is (.list ds))) ρ₂) (pl : PlainName x) (hk : canSt sc oc x = true)
    (hsw : swapsWith (.ListComp elt (⟨target, iter, ifs, 0⟩ :: gens) scope pos') (some (.Name x xp)) spos.line env = pure true) :
    EX C n X (FS C env nm oc sc X ρ ω κ) (exec (.Assign [.Name x xp] (.ListComp elt (⟨target, iter, ifs, 0⟩ :: gens) scope pos') spos) env) (FS C env nm oc sc X ρ₂ ω κ) R := by
  refine ex_assignC hsw O ?_ pl hk
  rw [flat_one, e]; exact hu
noncomputable def offV : Vp := ⟨fun _ _ => False, fun _ h => h⟩
theorem ex_off {Ψ : Asn C} {x : Str} {t : Sem Flow} (h : At nm ρ x offV) : EX C n X (FS C env nm oc sc X ρ ω κ) t Ψ R := fun A s Z Q E hA I H k1 k2 => by
  obtain ⟨v, _, h⟩ := h.var H.vars
  exact h.elim
end
end
end
set_option hygiene false
local macro_rules | `(tactic| walk_at "rfl") => `(tactic| first | exact rfl | (subst_vars; exact rfl))
local macro_rules | `(tactic| walk_at "at") => `(tactic| first
  | with_reducible (first | exact At.here | exact At.a1 | exact At.a2 | exact At.a3 | exact Upd.here | exact Upd.a1 | exact Upd.a2 | exact Upd.a3 | exact Fgt.nil | exact IsL.nil | exact Bds.nil | exact Bdn.nil | exact FreeR.nil)
  | ((with_reducible (first | apply At.t4 | apply Upd.t4 | apply IsL.cons | apply Fgt.same | apply Fgt.drop)); walk_at "at")
  | ((with_reducible (first | apply Bds.cons | apply Bdn.cons)); walk_at "at"; decide +kernel; decide +kernel; walk_at "at")
  | ((with_reducible apply Tgt.name); walk_at "at"; decide +kernel; decide +kernel)
  | ((with_reducible (first | apply tgt_tup | apply tgt_lst)); walk_at "at"; walk_at "at")
  | ((with_reducible apply FreeR.own); exact rfl; walk_at "at")
  | ((with_reducible apply FreeR.free); walk_at "at"; exact rfl; exact rfl; walk_at "at"))
local macro_rules | `(tactic| walk_at "nz") => `(tactic| first | assumption | decide | decide +kernel | exact PyProof.noPylong_small (by decide +kernel) | exact PyProof.noPylong_small (by omega) | omega)
local macro_rules | `(tactic| walk_at "op") => `(tactic| first
  | with_reducible (first | exact op_add_int | exact op_sub_int | exact op_add_flt | exact op_sub_flt | exact op_mul_flt | exact op_lt_int | exact op_le_int | exact op_ge_int | exact op_eq_int | exact op_lt_flt | exact op_le_flt | exact op_eq_flt | exact op_eq_str | exact op_xor_int | exact op_neg_int | exact op_inv_int)
  | ((with_reducible (first | apply op_mod_flt | apply op_div_flt | apply op_sub_fi | apply op_mul_fi | apply op_mul_if | apply op_pow_int | apply op_mod_int | apply op_div_int | apply op_tdiv_int | apply op_div_if)) <;> walk_at "nz")
  | ((with_reducible apply op_mul_int); first | assumption | exact IntMulOk.of_left (by decide +kernel) | exact IntMulOk.of_right (by decide +kernel) | exact mulOk_l (by omega))
  | ((with_reducible apply op_item_list); exact rfl; exact rfl; exact Nat.le_of_ble_eq_true rfl; (intro _ _; rfl))
  | ((with_reducible apply op_item_tup); exact rfl; exact rfl; decide; decide; (intro _ _; rfl)))
local macro_rules | `(tactic| walk_at "sz") => `(tactic| first | assumption | exact Nat.le_of_ble_eq_true rfl | (simp only [List.length_map, List.length_cons, List.length_nil, List.length_append, List.length_range, List.length_zip, sizeLine_eq]; omega))
local macro_rules | `(tactic| walk_at "fn") => `(tactic| first | with_reducible (first | exact fn_max3F | exact fn_min3F | exact fn_max3I | exact fn_min3I) | ((with_reducible (first | apply fn_int_flt | apply fn_round_flt)); walk_at "nz"))
local macro_rules | `(tactic| walk_at "def") => `(tactic| fail)
local macro_rules | `(tactic| walk_at "ev") => `(tactic| first
  | with_reducible (first | exact ev_int | exact ev_flt | exact ev_str | exact ev_none | exact ev_bool | exact el_nil)
  | ((with_reducible apply ev_name); walk_at "at")
  | (focus (with_reducible apply ev_globd); (with_reducible assumption); all_goals exact rfl)
  | ((with_reducible (first | apply ev_bin | apply ev_sub)); walk_at "ev"; walk_at "ev"; walk_at "op")
  | ((with_reducible apply ev_un); walk_at "ev"; walk_at "op")
  | (focus (with_reducible apply ev_callBt); (with_reducible assumption); walk_at "ev"; walk_at "fn"; all_goals exact rfl)
  | (focus (with_reducible apply ev_callTt); (with_reducible assumption); walk_at "ev"; walk_at "fn"; all_goals exact rfl)
  | (focus (with_reducible apply ev_callD); walk_at "ev"; walk_at "def"; decide; all_goals exact rfl)
  | ((with_reducible apply el_cons); walk_at "ev"; walk_at "ev"; exact rfl)
  | ((with_reducible (first | apply ev_tupL | apply ev_listL)); walk_at "ev"; walk_at "at"; exact Nat.le_of_ble_eq_true rfl)
  | ((with_reducible (first | apply ev_cmp | apply tv_cmp)); walk_at "ev"; walk_at "ev"; walk_at "op"; exact rfl))
local macro_rules | `(tactic| walk_at "asn") => `(tactic| ((with_reducible apply ex_cons); (focus ((with_reducible apply ex_assign); walk_at "ev"; walk_at "at"; decide +kernel; decide +kernel; walk_at "rfl"))))
local macro_rules | `(tactic| walk_at "fgtd") => `(tactic| first | exact Fgt.nil | ((first | apply Fgt.same | apply Fgt.drop); walk_at "fgtd"))
local macro_rules | `(tactic| walk_at "if") => `(tactic| ((with_reducible apply ex_ifs); walk_at "ev"; all_goals (try simp only [List.cons_append, List.nil_append])))
local macro_rules | `(tactic| walk_at "ret") => `(tactic| ((with_reducible apply ex_ret); (with_reducible apply ev_d); walk_at "ev"))
set_option hygiene true
noncomputable abbrev nmS : List Str := [sQ "script", sQ "heaps", sQ "colour", sQ "white", sQ "text", sQ "pieces", sQ "sign", sQ "row", sQ "parts", sQ "plain", sQ "shorts", sQ "table", sQ "k", sQ "piece", sQ "turn"]
section
noncomputable def vF (m1 m2 hue : UInt64) : UInt64 :=
  let h := (Float64.divmod hue 4607182418800017408).2
  if ltF h 4595172819793696085 then Float64.add m1 (Float64.mul (Float64.mul (Float64.sub m2 m1) h) 4618441417868443648)
  else if ltF h 4602678819172646912 then m2
  else if ltF h 4604180019048437077 then Float64.add m1 (Float64.mul (Float64.mul (Float64.sub m2 m1) (Float64.sub 4604180019048437077 h)) 4618441417868443648)
  else m1
structure ColK (C : Cx) : Prop where
  q : Quiet C
  third : GlobD C (sQ "ONE_THIRD") (.flt 4599676419421066581)
  sixth : GlobD C (sQ "ONE_SIXTH") (.flt 4595172819793696085)
  two : GlobD C (sQ "TWO_THIRD") (.flt 4604180019048437077)
  max : BltZ C (sQ "max") (.builtin "max")
  min : BltZ C (sQ "min") (.builtin "min")
  int : BltZ C (sQ "int") (.type "int")
  dv : DefAt C pw 8 (sQ "_v")
  hls : DefAt C pw 6 (sQ "rgb_to_hls")
  slh : DefAt C pw 7 (sQ "hls_to_rgb")
  hsv : DefAt C pw 9 (sQ "rgb_to_hsv")
  vsh : DefAt C pw 10 (sQ "hsv_to_rgb")
section
variable {C : Cx}
theorem d_v (K : ColK C) (m1 m2 hue : UInt64) : DefC C 2 (sQ "_v") [is (.flt m1), is (.flt m2), is (.flt hue)] (is (.flt (vF m1 m2 hue))) := by
  obtain ⟨f, q, doc, pm, cd, hg, ho, hcd⟩ := K.dv
  have g1 := K.sixth
  have g2 := K.two
  refine ⟨f, hg, ⟨_, _, ho, rfl⟩, fn_def (n := 0) (sc := scOf (stAt pw 8)) (ρ := [some (is (.flt m1)), some (is (.flt m2)), some (is (.flt hue))]) (nm := [sQ "m1", sQ "m2", sQ "hue"]) (xs := [sQ "m1", sQ "m2", sQ "hue"]) K.q ho rfl hcd rfl rfl rfl rfl rfl (bnd3 fun _ _ _ => rfl) rfl (by decide +kernel) (by decide +kernel) (by decide +kernel) (by decide +kernel) rfl fun L X => ?_⟩
  walk_at "asn"
  walk_at "if"
  · intro h1
    walk_at "ret"
    simp only [vF, h1]; rfl
  intro h1
  walk_at "if"
  · intro h2
    walk_at "ret"
    simp only [vF, h1, h2]; rfl
  intro h2
  walk_at "if"
  · intro h3
    walk_at "ret"
    simp only [vF, h1, h2, h3]; rfl
  intro h3
  walk_at "ret"
  simp only [vF, h1, h2, h3]; rfl
noncomputable def slhF (h l s : UInt64) : UInt64 × UInt64 × UInt64 :=
  if eqF s 0 then (l, l, l) else
    let m2 := if leF l 4602678819172646912 then Float64.mul l (Float64.add 4607182418800017408 s) else Float64.sub (Float64.add l s) (Float64.mul l s)
    let m1 := Float64.sub (Float64.mul 4611686018427387904 l) m2
    (vF m1 m2 (Float64.add h 4599676419421066581), vF m1 m2 h, vF m1 m2 (Float64.sub h 4599676419421066581))
noncomputable def t3 (x : UInt64 × UInt64 × UInt64) : PV := .tup [.flt x.1, .flt x.2.1, .flt x.2.2]
local macro_rules | `(tactic| walk_at "def") => `(tactic| (with_reducible apply d_v; assumption))
theorem d_slh (K : ColK C) (h l s : UInt64) : DefC C 3 (sQ "hls_to_rgb") [is (.flt h), is (.flt l), is (.flt s)] (is (t3 (slhF h l s))) := by
  obtain ⟨f, q, doc, pm, cd, hg, ho, hcd⟩ := K.slh
  have g1 := K.third
  refine ⟨f, hg, ⟨_, _, ho, rfl⟩, fn_def (n := 1) (sc := scOf (stAt pw 7)) (ρ := [some (is (.flt h)), some (is (.flt l)), some (is (.flt s)), none, none]) (nm := [sQ "h", sQ "l", sQ "s", sQ "m2", sQ "m1"]) (xs := [sQ "h", sQ "l", sQ "s"]) K.q ho rfl hcd rfl rfl rfl rfl rfl (bnd3 fun _ _ _ => rfl) rfl (by decide +kernel) (by decide +kernel) (by decide +kernel) (by decide +kernel) rfl fun L X => ?_⟩
  walk_at "if"
  · intro h1
    walk_at "ret"
    simp only [slhF, h1]; rfl
  intro h1
  walk_at "if"
  · intro h2
    walk_at "asn"
    walk_at "asn"
    walk_at "ret"
    simp only [slhF, h1, h2]; rfl
  · intro h2
    walk_at "asn"
    walk_at "asn"
    walk_at "ret"
    simp only [slhF, h1, h2]; rfl
noncomputable def hueF (r g b mx rg : UInt64) : UInt64 :=
  let rc := Float64.div (Float64.sub mx r) rg
  let gc := Float64.div (Float64.sub mx g) rg
  let bc := Float64.div (Float64.sub mx b) rg
  let h := if eqF r mx then Float64.sub bc gc else if eqF g mx then Float64.sub (Float64.add 4611686018427387904 rc) bc else Float64.sub (Float64.add 4616189618054758400 gc) rc
  (Float64.divmod (Float64.div h 4618441417868443648) 4607182418800017408).2
noncomputable def hsvF (r g b : UInt64) : UInt64 × UInt64 × UInt64 :=
  let mx := mxF r g b
  let mn := mnF r g b
  let rg := Float64.sub mx mn
  if eqF mn mx then (0, 0, mx) else (hueF r g b mx rg, Float64.div rg mx, mx)
noncomputable def hlsF (r g b : UInt64) : UInt64 × UInt64 × UInt64 :=
  let mx := mxF r g b
  let mn := mnF r g b
  let sm := Float64.add mx mn
  let rg := Float64.sub mx mn
  let l := Float64.div sm 4611686018427387904
  if eqF mn mx then (0, l, 0) else
    (hueF r g b mx rg, l, if leF l 4602678819172646912 then Float64.div rg sm else Float64.div rg (Float64.sub (Float64.sub 4611686018427387904 mx) mn))
theorem d_hsv (K : ColK C) (r g b : UInt64) (z1 : Float64.isZero (mxF r g b) = false) (z2 : Float64.isZero (Float64.sub (mxF r g b) (mnF r g b)) = false) :
    DefC C 2 (sQ "rgb_to_hsv") [is (.flt r), is (.flt g), is (.flt b)] (is (t3 (hsvF r g b))) := by
  obtain ⟨f, q, doc, pm, cd, hg, ho, hcd⟩ := K.hsv
  have g1 := K.max
  have g2 := K.min
  refine ⟨f, hg, ⟨_, _, ho, rfl⟩, fn_def (n := 0) (sc := scOf (stAt pw 9)) (ρ := [some (is (.flt r)), some (is (.flt g)), some (is (.flt b)), none, none, none, none, none, none, none, none, none]) (nm := [sQ "r", sQ "g", sQ "b", sQ "maxc", sQ "minc", sQ "rangec", sQ "v", sQ "s", sQ "rc", sQ "gc", sQ "bc", sQ "h"]) (xs := [sQ "r", sQ "g", sQ "b"]) K.q ho rfl hcd rfl rfl rfl rfl rfl (bnd3 fun _ _ _ => rfl) rfl (by decide +kernel) (by decide +kernel) (by decide +kernel) (by decide +kernel) rfl fun L X => ?_⟩
  walk_at "asn"
  walk_at "asn"
  walk_at "asn"
  walk_at "asn"
  walk_at "if"
  · intro h1
    walk_at "ret"
    simp only [hsvF, h1]; rfl
  intro h1
  walk_at "asn"
  walk_at "asn"
  walk_at "asn"
  walk_at "asn"
  walk_at "if"
  · intro h2
    walk_at "asn"
    walk_at "asn"
    walk_at "ret"
    simp only [hsvF, hueF, h1, h2]; rfl
  intro h2
  walk_at "if"
  · intro h3
    walk_at "asn"
    walk_at "asn"
    walk_at "ret"
    simp only [hsvF, hueF, h1, h2, h3]; rfl
  · intro h3
    walk_at "asn"
    walk_at "asn"
    walk_at "ret"
    simp only [hsvF, hueF, h1, h2, h3]; rfl
theorem d_hls (K : ColK C) (r g b : UInt64) (z1 : Float64.isZero (Float64.add (mxF r g b) (mnF r g b)) = false) (z2 : Float64.isZero (Float64.sub (mxF r g b) (mnF r g b)) = false)
    (z3 : Float64.isZero (Float64.sub (Float64.sub 4611686018427387904 (mxF r g b)) (mnF r g b)) = false) :
    DefC C 2 (sQ "rgb_to_hls") [is (.flt r), is (.flt g), is (.flt b)] (is (t3 (hlsF r g b))) := by
  obtain ⟨f, q, doc, pm, cd, hg, ho, hcd⟩ := K.hls
  have g1 := K.max
  have g2 := K.min
  refine ⟨f, hg, ⟨_, _, ho, rfl⟩, fn_def (n := 0) (sc := scOf (stAt pw 6)) (ρ := [some (is (.flt r)), some (is (.flt g)), some (is (.flt b)), none, none, none, none, none, none, none, none, none, none]) (nm := [sQ "r", sQ "g", sQ "b", sQ "maxc", sQ "minc", sQ "rangec", sQ "sumc", sQ "l", sQ "s", sQ "rc", sQ "gc", sQ "bc", sQ "h"]) (xs := [sQ "r", sQ "g", sQ "b"]) K.q ho rfl hcd rfl rfl rfl rfl rfl (bnd3 fun _ _ _ => rfl) rfl (by decide +kernel) (by decide +kernel) (by decide +kernel) (by decide +kernel) rfl fun L X => ?_⟩
  walk_at "asn"
  walk_at "asn"
  walk_at "asn"
  walk_at "asn"
  walk_at "asn"
  walk_at "if"
  · intro h1
    walk_at "ret"
    simp only [hlsF, h1]; rfl
  intro h1
  obtain ⟨S, hS⟩ : ∃ S, S = if leF (Float64.div (Float64.add (mxF r g b) (mnF r g b)) 4611686018427387904) 4602678819172646912 then Float64.div (Float64.sub (mxF r g b) (mnF r g b)) (Float64.add (mxF r g b) (mnF r g b)) else Float64.div (Float64.sub (mxF r g b) (mnF r g b)) (Float64.sub (Float64.sub 4611686018427387904 (mxF r g b)) (mnF r g b)) := ⟨_, rfl⟩
  have fin : hlsF r g b = (hueF r g b (mxF r g b) (Float64.sub (mxF r g b) (mnF r g b)), Float64.div (Float64.add (mxF r g b) (mnF r g b)) 4611686018427387904, S) := by
    simp only [hlsF, h1, hS]; rfl
  apply ex_cons
  · apply ex_if (Ψ := FS C _ [sQ "r", sQ "g", sQ "b", sQ "maxc", sQ "minc", sQ "rangec", sQ "sumc", sQ "l", sQ "s", sQ "rc", sQ "gc", sQ "bc", sQ "h"] _ _ X [some (is (.flt r)), some (is (.flt g)), some (is (.flt b)), some (is (.flt (mxF r g b))), some (is (.flt (mnF r g b))), some (is (.flt (Float64.sub (mxF r g b) (mnF r g b)))), some (is (.flt (Float64.add (mxF r g b) (mnF r g b)))), some (is (.flt (Float64.div (Float64.add (mxF r g b) (mnF r g b)) 4611686018427387904))), some (is (.flt S)), none, none, none, none] [] _)
    · walk_at "ev"
    · intro h0
      rw [hS, if_pos h0]
      walk_at "asn"
      exact ex_nil
    · intro h0
      rw [hS, if_neg (fun e => by rw [h0] at e; cases e)]
      walk_at "asn"
      exact ex_nil
  rw [fin]
  walk_at "asn"
  walk_at "asn"
  walk_at "asn"
  walk_at "if"
  · intro h2
    walk_at "asn"
    walk_at "asn"
    walk_at "ret"
    simp only [hueF, h2]; rfl
  intro h2
  walk_at "if"
  · intro h3
    walk_at "asn"
    walk_at "asn"
    walk_at "ret"
    simp only [hueF, h2, h3]; rfl
  · intro h3
    walk_at "asn"
    walk_at "asn"
    walk_at "ret"
    simp only [hueF, h2, h3]; rfl
end
end
section
section
variable {C : Cx}
noncomputable def vshF (h s v : UInt64) : UInt64 × UInt64 × UInt64 :=
  if eqF s 0 then (v, v, v) else
    let h6 := Float64.mul h 4618441417868443648
    let i := PySem.Flt.toInt Float64.truncOf h6
    let f := Float64.sub h6 (Float64.ofInt i)
    let p := Float64.mul v (Float64.sub 4607182418800017408 s)
    let q := Float64.mul v (Float64.sub 4607182418800017408 (Float64.mul s f))
    let t := Float64.mul v (Float64.sub 4607182418800017408 (Float64.mul s (Float64.sub 4607182418800017408 f)))
    if i.fmod 6 == 0 then (v, t, p) else if i.fmod 6 == 1 then (q, v, p) else if i.fmod 6 == 2 then (p, v, t) else if i.fmod 6 == 3 then (p, q, v) else if i.fmod 6 == 4 then (t, p, v) else (v, p, q)
theorem d_vsh (K : ColK C) (h s v : UInt64) (z1 : Float64.isFinite (Float64.mul h 4618441417868443648) = true) (z2 : (PySem.Flt.toInt Float64.truncOf (Float64.mul h 4618441417868443648)).natAbs < 2 ^ 1023) :
    DefC C 2 (sQ "hsv_to_rgb") [is (.flt h), is (.flt s), is (.flt v)] (is (t3 (vshF h s v))) := by
  obtain ⟨f, q, doc, pm, cd, hg, ho, hcd⟩ := K.vsh
  have g1 := K.int
  refine ⟨f, hg, ⟨_, _, ho, rfl⟩, fn_def (n := 0) (sc := scOf (stAt pw 10)) (ρ := [some (is (.flt h)), some (is (.flt s)), some (is (.flt v)), none, none, none, none, none]) (nm := [sQ "h", sQ "s", sQ "v", sQ "i", sQ "f", sQ "p", sQ "q", sQ "t"]) (xs := [sQ "h", sQ "s", sQ "v"]) K.q ho rfl hcd rfl rfl rfl rfl rfl (bnd3 fun _ _ _ => rfl) rfl (by decide +kernel) (by decide +kernel) (by decide +kernel) (by decide +kernel) rfl fun L X => ?_⟩
  walk_at "if"
  · intro h1
    walk_at "ret"
    simp only [vshF, h1]; rfl
  intro h1
  walk_at "asn"
  walk_at "asn"
  walk_at "asn"
  walk_at "asn"
  walk_at "asn"
  walk_at "asn"
  walk_at "if"
  · intro k0
    walk_at "ret"
    simp only [vshF, h1, k0]; rfl
  intro k0
  walk_at "if"
  · intro k1
    walk_at "ret"
    simp only [vshF, h1, k0, k1]; rfl
  intro k1
  walk_at "if"
  · intro k2
    walk_at "ret"
    simp only [vshF, h1, k0, k1, k2]; rfl
  intro k2
  walk_at "if"
  · intro k3
    walk_at "ret"
    simp only [vshF, h1, k0, k1, k2, k3]; rfl
  intro k3
  walk_at "if"
  · intro k4
    walk_at "ret"
    simp only [vshF, h1, k0, k1, k2, k3, k4]; rfl
  intro k4
  walk_at "if"
  · intro k5
    walk_at "ret"
    simp only [vshF, h1, k0, k1, k2, k3, k4, k5]; rfl
  intro k5
  exfalso
  simp only [beq_eq_false_iff_ne, ne_eq] at k0 k1 k2 k3 k4 k5
  have b1 := Int.fmod_nonneg_of_pos (PySem.Flt.toInt Float64.truncOf (Float64.mul h 4618441417868443648)) (b := 6) (by decide)
  have b2 := Int.fmod_lt_of_pos (PySem.Flt.toInt Float64.truncOf (Float64.mul h 4618441417868443648)) (b := 6) (by decide)
  lia
end
end
section
section
variable {C : Cx}
theorem d_hsv1 (K : ColK C) : DefC C 2 (sQ "rgb_to_hsv") [is (.int 0), is (.int 1), is (.int 0)] (is (.tup [.flt 4599676419421066581, .flt 4607182418800017408, .int 1])) := by
  obtain ⟨f, q, doc, pm, cd, hg, ho, hcd⟩ := K.hsv
  have g1 := K.max
  have g2 := K.min
  refine ⟨f, hg, ⟨_, _, ho, rfl⟩, fn_def (n := 0) (sc := scOf (stAt pw 9)) (ρ := [some (is (.int 0)), some (is (.int 1)), some (is (.int 0)), none, none, none, none, none, none, none, none, none]) (nm := [sQ "r", sQ "g", sQ "b", sQ "maxc", sQ "minc", sQ "rangec", sQ "v", sQ "s", sQ "rc", sQ "gc", sQ "bc", sQ "h"]) (xs := [sQ "r", sQ "g", sQ "b"]) K.q ho rfl hcd rfl rfl rfl rfl rfl (bnd3 fun _ _ _ => rfl) rfl (by decide +kernel) (by decide +kernel) (by decide +kernel) (by decide +kernel) rfl fun L X => ?_⟩
  walk_at "asn"
  walk_at "asn"
  walk_at "asn"
  walk_at "asn"
  walk_at "if"
  · intro h1
    exact absurd h1 (by decide +kernel)
  intro h1
  walk_at "asn"
  walk_at "asn"
  walk_at "asn"
  walk_at "asn"
  walk_at "if"
  · intro h2
    exact absurd h2 (by decide +kernel)
  intro h2
  walk_at "if"
  · intro h3
    walk_at "asn"
    walk_at "asn"
    walk_at "ret"
    congr 1
    congr 1
    · congr 1; decide +kernel
    · congr 1; congr 1; decide +kernel
  intro h3
  exact absurd h3 (by decide +kernel)
theorem d_hls1 (K : ColK C) : DefC C 2 (sQ "rgb_to_hls") [is (.int 0), is (.int 1), is (.int 0)] (is (.tup [.flt 4599676419421066581, .flt 4602678819172646912, .flt 4607182418800017408])) := by
  obtain ⟨f, q, doc, pm, cd, hg, ho, hcd⟩ := K.hls
  have g1 := K.max
  have g2 := K.min
  refine ⟨f, hg, ⟨_, _, ho, rfl⟩, fn_def (n := 0) (sc := scOf (stAt pw 6)) (ρ := [some (is (.int 0)), some (is (.int 1)), some (is (.int 0)), none, none, none, none, none, none, none, none, none, none]) (nm := [sQ "r", sQ "g", sQ "b", sQ "maxc", sQ "minc", sQ "rangec", sQ "sumc", sQ "l", sQ "s", sQ "rc", sQ "gc", sQ "bc", sQ "h"]) (xs := [sQ "r", sQ "g", sQ "b"]) K.q ho rfl hcd rfl rfl rfl rfl rfl (bnd3 fun _ _ _ => rfl) rfl (by decide +kernel) (by decide +kernel) (by decide +kernel) (by decide +kernel) rfl fun L X => ?_⟩
  walk_at "asn"
  walk_at "asn"
  walk_at "asn"
  walk_at "asn"
  walk_at "asn"
  walk_at "if"
  · intro h1
    exact absurd h1 (by decide +kernel)
  intro h1
  walk_at "if"
  · intro h0
    walk_at "asn"
    walk_at "asn"
    walk_at "asn"
    walk_at "asn"
    walk_at "if"
    · intro h2
      exact absurd h2 (by decide +kernel)
    intro h2
    walk_at "if"
    · intro h3
      walk_at "asn"
      walk_at "asn"
      walk_at "ret"
      congr 1
      congr 1
      · congr 1; decide +kernel
      · congr 1
        · congr 1; decide +kernel
        · congr 1; congr 1; decide +kernel
    intro h3
    exact absurd h3 (by decide +kernel)
  · intro h0
    exact absurd h0 (by decide +kernel)
end
end
section
structure LawK (C : Cx) : Prop extends ColK C where
  nt : GlobD C (sQ "NT_OFFSET") (.int 256)
  em : GlobD C (sQ "ENDMARKER") (.int 0)
  range : BltZ C (sQ "range") (.type "range")
  zip : BltZ C (sQ "zip") (.type "zip")
  round : BltZ C (sQ "round") (.builtin "round")
  term : DefAt C pw 71 (sQ "ISTERMINAL")
  nonterm : DefAt C pw 72 (sQ "ISNONTERMINAL")
  eof : DefAt C pw 73 (sQ "ISEOF")
  row : DefAt C pw 79 (sQ "_law_row")
  done : DefAt C pw 80 (sQ "_law_done")
  short : DefAt C pw 81 (sQ "_law_short")
  told : DefAt C pw 82 (sQ "_law_told")
section
variable {C : Cx}
theorem d_term (K : LawK C) (x : Int) : DefC C 2 (sQ "ISTERMINAL") [is (.int x)] (is (.bool (decide (x < 256)))) := by
  obtain ⟨f, q, doc, pm, cd, hg, ho, hcd⟩ := K.term
  have g1 := K.nt
  refine ⟨f, hg, ⟨_, _, ho, rfl⟩, fn_def (n := 0) (sc := scOf (stAt pw 71)) (ρ := [some (is (.int x))]) (nm := [sQ "x"]) (xs := [sQ "x"]) K.q ho rfl hcd rfl rfl rfl rfl rfl (bnd1 fun _ => rfl) rfl (by decide +kernel) (by decide +kernel) (by decide +kernel) (by decide +kernel) rfl fun L X => ?_⟩
  walk_at "ret"
  rfl
theorem d_nonterm (K : LawK C) (x : Int) : DefC C 2 (sQ "ISNONTERMINAL") [is (.int x)] (is (.bool (decide (256 ≤ x)))) := by
  obtain ⟨f, q, doc, pm, cd, hg, ho, hcd⟩ := K.nonterm
  have g1 := K.nt
  refine ⟨f, hg, ⟨_, _, ho, rfl⟩, fn_def (n := 0) (sc := scOf (stAt pw 72)) (ρ := [some (is (.int x))]) (nm := [sQ "x"]) (xs := [sQ "x"]) K.q ho rfl hcd rfl rfl rfl rfl rfl (bnd1 fun _ => rfl) rfl (by decide +kernel) (by decide +kernel) (by decide +kernel) (by decide +kernel) rfl fun L X => ?_⟩
  walk_at "ret"
  rfl
theorem d_eof (K : LawK C) (x : Int) : DefC C 2 (sQ "ISEOF") [is (.int x)] (is (.bool (x == 0))) := by
  obtain ⟨f, q, doc, pm, cd, hg, ho, hcd⟩ := K.eof
  have g1 := K.em
  refine ⟨f, hg, ⟨_, _, ho, rfl⟩, fn_def (n := 0) (sc := scOf (stAt pw 73)) (ρ := [some (is (.int x))]) (nm := [sQ "x"]) (xs := [sQ "x"]) K.q ho rfl hcd rfl rfl rfl rfl rfl (bnd1 fun _ => rfl) rfl (by decide +kernel) (by decide +kernel) (by decide +kernel) (by decide +kernel) rfl fun L X => ?_⟩
  walk_at "ret"
  rfl
end
end
section
open PySem.SeqAt
section
variable {C : Cx} {n : Nat} {Φ : Asn C} {env : Env} {l m : List PV} {x y : Str}
theorem op_add_list (hsz : l.length + m.length ≤ sizeLine) : OP2 C n (binaryOp .Add) (is (.list l)) (is (.list m)) (is (.list (l ++ m))) := fun A s Z u v Q E hA I hu hv kk => by
  obtain ⟨a, n, vs, rfl, hz, r⟩ := rdi hu
  obtain ⟨a', n', vs', rfl, hz', r'⟩ := rdi hv
  refine P.add_list (I.heap _ _ hz) (I.heap _ _ hz') ?_ (by rw [List.size_toArray, List.size_toArray, r.length, r'.length]; exact hsz)
  rw [show vs.toArray ++ vs'.toArray = (vs ++ vs').toArray by simp]
  have st := StepX.alloc (X := No) I (o := { cls := .type "list", data := .seq (vs ++ vs').toArray }) (t := s.toks) rfl
  exact kk _ _ _ st (.list (n := 0) (put_self (Z := Z)) ((r.append r').le st.le))
theorem str_nil_app (h : (x.length == 0) = true) : x ++ y = y := by
  obtain ⟨c⟩ := x
  have h : c.size = 0 := by simpa [Str.length] using h
  have : c = #[] := Array.eq_empty_of_size_eq_zero h
  subst this
  show (⟨#[] ++ y.cps⟩ : Str) = y
  simp
theorem str_app_nil (h : (y.length == 0) = true) : x ++ y = x := by
  obtain ⟨c⟩ := y
  have h : c.size = 0 := by simpa [Str.length] using h
  have : c = #[] := Array.eq_empty_of_size_eq_zero h
  subst this
  show (⟨x.cps ++ #[]⟩ : Str) = x
  simp
theorem op_add_str (hsz : (x ++ y).length ≤ sizeLine) : OP2 C n (binaryOp .Add) (is (.str x)) (is (.str y)) (is (.str (x ++ y))) := fun A s Z u v Q E hA I hu hv kk => by
  obtain ⟨_, rfl⟩ := rdi hu; obtain ⟨_, rfl⟩ := rdi hv
  refine P.add_str ?_
  split
  · rename_i h
    exact kk _ Z _ (StepX.refl I) (by rw [str_nil_app h]; exact .str _ _)
  · split
    · rename_i h
      exact kk _ Z _ (StepX.refl I) (by rw [str_app_nil h]; exact .str _ _)
    · exact ⟨hsz, kk _ Z _ (Step.toks I _) (.str _ _)⟩
inductive KV {K : Type} (Z : Fz) : List (K × Value) → List (K × PV) → Prop where
  | nil : KV Z [] []
  | cons {k : K} {v : Value} {d : PV} {vs : List (K × Value)} {ds : List (K × PV)} (h : Rd Z v d) (r : KV Z vs ds) : KV Z ((k, v) :: vs) ((k, d) :: ds)
theorem KV.le {K : Type} {Z Z' : Fz} (k : Le Z Z') {vs : List (K × Value)} {ds : List (K × PV)} (h : KV Z vs ds) : KV Z' vs ds :=
  KV.rec (motive := fun vs ds _ => KV Z' vs ds) .nil (fun h _ r => .cons (h.le k) r) h
noncomputable def look {K : Type} [DecidableEq K] (kds : List (K × PV)) (k : K) : Option PV := (kds.find? fun kv => kv.1 = k).map (·.2)
theorem KV.look {K : Type} [DecidableEq K] {Z : Fz} {k : K} : ∀ {vs : List (K × Value)} {ds : List (K × PV)}, KV Z vs ds → (valueAt vs k).isSome = (look ds k).isSome ∧ ∀ d, Mine.Internal.look ds k = some d → ∃ v, valueAt vs k = some v ∧ Rd Z v d
  | _, _, .nil => ⟨rfl, fun _ h => by cases h⟩
  | _, _, .cons (k := k') h r => by
    by_cases e : k' = k
    · simp only [valueAt, Mine.Internal.look, List.find?_cons, e, decide_true, Option.map_some]
      exact ⟨rfl, fun d hd => by cases hd; exact ⟨_, rfl, h⟩⟩
    · simp only [valueAt, Mine.Internal.look, List.find?_cons, e, decide_false]
      exact r.look
noncomputable def dictI (C : Cx) (kds : List (Int × PV)) : Vp := ⟨fun Z v => ∃ a o kvs, v = .ref a ∧ Z a = some o ∧ o.IsDictOf (PySem.intKind C.prog C.w) kvs ∧ KV Z kvs kds, fun k ⟨a, o, kvs, e, z, d, r⟩ => ⟨a, o, kvs, e, k _ _ z, d, r.le k⟩⟩
noncomputable def dictS (C : Cx) (kds : List (Str × PV)) : Vp := ⟨fun Z v => ∃ a o kvs, v = .ref a ∧ (a == sysModules) = false ∧ Z a = some o ∧ o.IsDictOf (PySem.strKind C.prog C.w) kvs ∧ KV Z kvs kds, fun k ⟨a, o, kvs, e, e', z, d, r⟩ => ⟨a, o, kvs, e, e', k _ _ z, d, r.le k⟩⟩
theorem op_item_dictI {v sl : Expr} {kds : List (Int × PV)} {i : Int} {d : PV} (hd : look kds i = some d)
    (hs : ∀ o i, subscripted sl false o i = operate [o, i] (getItem o i) := by intro _ _; rfl) : OP2 C n (subscriptTail v sl) (dictI C kds) (is (.int i)) (is d) := fun A s Z u w Q E hA I hu hw k => by
  obtain ⟨_, rfl⟩ := rdi hw
  obtain ⟨a, o, kvs, rfl, hz, ho, r⟩ := hu
  obtain ⟨x, ex, px⟩ := r.look.2 d hd
  have hm := (Heap.dictOf_iff.mpr ⟨o, I.heap _ _ hz, ho⟩).mapOf
  exact tail_any hm.typeIs slot_dict_getitem.lookup (wpAny_getItem_of (intKind_is C.prog C.w i _) hm ex (k x Z _ (Step.toks I _) px)) (hs _ _)
theorem op_item_dictS {v sl : Expr} {kds : List (Str × PV)} {i : Str} {d : PV} (hd : look kds i = some d)
    (hs : ∀ o i, subscripted sl false o i = operate [o, i] (getItem o i) := by intro _ _; rfl) : OP2 C n (subscriptTail v sl) (dictS C kds) (is (.str i)) (is d) := fun A s Z u w Q E hA I hu hw k => by
  obtain ⟨_, rfl⟩ := rdi hw
  obtain ⟨a, o, kvs, rfl, _, hz, ho, r⟩ := hu
  obtain ⟨x, ex, px⟩ := r.look.2 d hd
  have hm := (Heap.dictOf_iff.mpr ⟨o, I.heap _ _ hz, ho⟩).mapOf
  exact tail_any hm.typeIs slot_dict_getitem.lookup (wpAny_getItem_of (strKind_is C.prog C.w i _) hm ex (k x Z _ (Step.toks I _) px)) (hs _ _)
theorem op_in_dictS {kds : List (Str × PV)} {i : Str} : OP2 C n (compareOp .In) (is (.str i)) (dictS C kds) (is (.bool (look kds i).isSome)) := fun A s Z w u Q E hA I hw hu k => by
  obtain ⟨_, rfl⟩ := rdi hw
  obtain ⟨a, o, kvs, rfl, hne, hz, ho, r⟩ := hu
  have hm := (Heap.dictOf_iff.mpr ⟨o, I.heap _ _ hz, ho⟩).mapOf
  refine wpAny_in_of (strKind_is C.prog C.w i _) hne hm ?_
  rw [r.look.1]
  exact k _ Z _ (Step.toks I _) (.bool _)
inductive KP (Z : Fz) : List (Value × Value) → List (Int × PV) → Prop where
  | nil : KP Z [] []
  | cons {k : Int} {t : Tok} {v : Value} {d : PV} {vs : List (Value × Value)} {ds : List (Int × PV)} (h : Rd Z v d) (r : KP Z vs ds) : KP Z ((.int k t, v) :: vs) ((k, d) :: ds)
theorem KP.all {Z : Fz} {vs : List (Value × Value)} {ds : List (Int × PV)} (h : KP Z vs ds) : allIntKeys vs = true :=
  KP.rec (motive := fun vs _ _ => allIntKeys vs = true) rfl (fun _ _ r => r) h
theorem KP.kv {Z : Fz} {vs : List (Value × Value)} {ds : List (Int × PV)} (h : KP Z vs ds) : KV Z (intKeyPairs vs) ds :=
  KP.rec (motive := fun vs ds _ => KV Z (intKeyPairs vs) ds) .nil (fun h _ r => .cons h r) h
theorem KP.keys {Z : Fz} {vs : List (Value × Value)} {ds : List (Int × PV)} (h : KP Z vs ds) : (intKeyPairs vs).map (·.1) = ds.map (·.1) :=
  KP.rec (motive := fun vs ds _ => (intKeyPairs vs).map (·.1) = ds.map (·.1)) rfl (fun _ _ r => congrArg (_ :: ·) r) h
noncomputable def EP (C : Cx) (n : Nat) (Φ : Asn C) (t : List (Sem Value × Sem Value)) (kds : List (Int × PV)) : Prop :=
  ∀ (A : Around) (s : Shared) (Z : Fz) (Q : List (Value × Value) → Shared → Prop) (E : Value → Shared → Prop), Room n A → Inv C Z s → Φ.at_ Z s.heap →
    (∀ vs Z' s', Step C Z s Z' s' → KP Z' vs kds → Q vs s') → wpAny (model C.prog C.w) A (evalPairs t) Q E s
variable {pos : Pos} {keys : List (Option Expr)} {values : List Expr} {kds : List (Int × PV)}
theorem ep_nil : EP C n Φ (pairTrees [] [] env pos) [] := fun A s Z Q E hA I H k => wpAny_pure (k [] Z s (StepX.refl I) .nil)
theorem ep_cons {e v : Expr} {i : Int} {d : PV} (hk : EV C n Φ (eval e env) (is (.int i))) (hv : EV C n Φ (eval v env) (is d)) (r : EP C n Φ (pairTrees keys values env pos) kds) : EP C n Φ (pairTrees (some e :: keys) (v :: values) env pos) ((i, d) :: kds) :=
  fun A s Z Q E hA I H k => by
  show wpAny _ A (evalPairs ((eval e env, do let x ← eval v env; standAt pos; pure x) :: pairTrees keys values env pos)) Q E s
  rw [evalPairs]
  refine wpAny_bind (hk A s Z _ E hA I H fun u Z₁ s₁ x₁ p₁ => ?_)
  refine wpAny_bind (wpAny_holding (wpAny_bind (hv A s₁ Z₁ _ E hA x₁.inv (Φ.stable I H x₁) fun u' Z₂ s₂ x₂ p₂ => wpAny_bind (wpAny_standAt (wpAny_pure ?_)))))
  refine wpAny_bind (wpAny_holding (r A s₂ Z₂ _ E hA x₂.inv (Φ.stable x₁.inv (Φ.stable I H x₁) x₂) fun vs Z₃ s₃ x₃ p₃ => wpAny_pure ?_))
  obtain ⟨_, rfl⟩ := rdi p₁
  exact k _ Z₃ s₃ ((x₁.trans x₂).trans x₃) (.cons (p₂.le x₃.le) p₃)
theorem ev_dictI (h : EP C n Φ (pairTrees keys values env pos) kds) (hn : (kds.map (·.1)).Nodup) (hall : keys.all (·.isSome) = true) (hl : keys.length = values.length) (h0 : keys ≠ []) (hlen : keys.length ≤ 15) :
    EV C n Φ (eval (.Dict keys values pos) env) (dictI C kds) := fun A s Z Q E hA I H k => by
  have x0 := StepX.push (X := No) I (o := { cls := .type "dict", data := .dict #[] }) (t := s.toks)
  refine wpAny_Dict_walk (knd := PySem.intKind C.prog C.w) hall hl h0 hlen (h A _ Z _ E hA x0.inv (Φ.stable I H x0) fun vs Z₁ s₁ x₁ p₁ => ?_)
  obtain ⟨o₀, hd, ho₀⟩ := Heap.dictOf_iff.mp (Heap.DictOf.new (knd := PySem.intKind C.prog C.w) s.heap)
  have hf : s.heap.get? s.heap.objs.size = none := get?_above (Nat.le_refl _)
  have nt : ∀ (I' : Inv C Z₁ s₁), ∀ t ∈ C.tabs, s.heap.objs.size ≠ t.1 := fun I' t ht q => by
    obtain ⟨ps, e', _⟩ := I.tabs t ht
    rw [← q, hf] at e'; cases e'
  have hd₁ := x₁.keep _ _ hd (fun h => h) (nt x₁.inv)
  refine display_done_int p₁.all (by rw [p₁.keys]; exact hn) (Heap.dictOf_iff.mpr ⟨o₀, hd₁, ho₀⟩) fun h' hdo hsb => ?_
  obtain ⟨o', hd', ho'⟩ := Heap.dictOf_iff.mp hdo
  have hz₁ : Z₁ s.heap.objs.size = none := by
    cases e : Z₁ s.heap.objs.size with
    | none => rfl
    | some o =>
      rcases x₁.new _ _ e with q | q | q
      · rw [I.fresh hf] at q; cases q
      · rw [hd] at q; cases q
      · exact q.elim
  have x₂ := StepX.write (X := (· = s.heap.objs.size)) x₁.inv (t := s₁.toks + vs.length) rfl hsb hz₁ (nt x₁.inv)
  have x₃ := StepX.freeze (X := (· = s.heap.objs.size)) x₂.inv rfl hz₁ hd' (nt x₁.inv)
  have xx : Step C Z s _ _ := StepX.hide (((((Step.to x0).trans (Step.to x₁)).trans x₂).trans x₃)) fun b q => q ▸ hf
  exact k _ _ _ xx ⟨_, o', _, rfl, put_self, ho', p₁.kv.le x₃.le⟩
end
end
local macro_rules | `(tactic| walk_at "op") => `(tactic| first | ((with_reducible apply op_add_list); walk_at "sz") | ((with_reducible apply op_add_str); walk_at "sz"))
section
open PySem.SeqAt
section
variable {C : Cx} {n : Nat} {Φ : Asn C} {env : Env} {l m ds : List PV} {x y : Str} {lo hi stp : Option Int} {e : Expr} {pos p : Pos}
noncomputable def qv : Option (Int × Tok) → Value
  | some (i, t) => .int i t
  | none => .none
noncomputable def PT (C : Cx) (n : Nat) (Φ : Asn C) (t : Sem Value) (o : Option Int) : Prop :=
  ∀ (A : Around) (s : Shared) (Z : Fz) (Q : Value → Shared → Prop) (E : Value → Shared → Prop), Room n A → Inv C Z s → Φ.at_ Z s.heap →
    (∀ (q : Option (Int × Tok)) Z' s', Step C Z s Z' s' → q.map (·.1) = o → Q (qv q) s') → wpAny (model C.prog C.w) A t Q E s
theorem pt_none : PT C n Φ (evalPart none env) none := fun A s Z Q E hA I H k => wpAny_pure (k none Z s (StepX.refl I) rfl)
theorem pt_some {i : Int} (h : EV C n Φ (eval e env) (is (.int i))) : PT C n Φ (evalPart (some e) env) (some i) := fun A s Z Q E hA I H k =>
  h A s Z Q E hA I H fun v Z' s' x pv => by
    cases pv with
    | int i t => exact k (some (i, t)) Z' s' x rfl
theorem isPart_of {q : Option (Int × Tok)} : IsPart (qv q) (q.map (·.1)) := by
  cases q with
  | none => exact .none
  | some p => exact .int p.1 p.2
theorem RdL.picks {Z : Fz} {vs : List Value} (r : RdL Z vs ds) : ∀ is : List Nat, RdL Z (is.filterMap (vs[·]?)) (is.filterMap (ds[·]?))
  | [] => .nil
  | i :: is => by
    have ih := r.picks is
    rw [List.filterMap_cons, List.filterMap_cons]
    cases hd : ds[i]? with
    | none =>
      have : vs[i]? = none := by
        rw [List.getElem?_eq_none_iff] at hd ⊢
        rw [r.length]; exact hd
      rw [this]; exact ih
    | some d =>
      obtain ⟨v, e, p⟩ := r.get hd
      rw [e]; exact .cons p ih
noncomputable def pickL (ds : List PV) (lo hi st : Option Int) : List PV := (sliceRange (sliceBounds lo hi st ds.length).1 (sliceBounds lo hi st ds.length).2.1 (sliceBounds lo hi st ds.length).2.2).filterMap (ds[·]?)
theorem RdL.pick {Z : Fz} {vs : List Value} (r : RdL Z vs ds) : RdL Z (slicePick vs.toArray lo hi stp).toList (pickL ds lo hi stp) := by
  have e : (slicePick vs.toArray lo hi stp).toList = (sliceRange (sliceBounds lo hi stp ds.length).1 (sliceBounds lo hi stp ds.length).2.1 (sliceBounds lo hi stp ds.length).2.2).filterMap (vs[·]?) := by
    unfold slicePick
    simp [r.length]
  rw [e]
  exact r.picks _
theorem slice_push {Z : Fz} {s : Shared} (I : Inv C Z s) {o : Obj} : Step C Z s Z { s with heap := s.heap.push o } := StepX.push I
theorem ev_slice_str {v : Expr} {l u : Option Expr} (hv : EV C n Φ (eval v env) (is (.str x))) (hl : PT C n Φ (evalPart l env) lo) (hu : PT C n Φ (evalPart u env) hi) (hsz : x.length ≤ sizeLine)
    (ht : ∀ o r, letTemporaryGo v o r = pure () := by intro _ _; rfl) : EV C n Φ (eval (.Subscript v (.Slice l u none p) pos) env) (is (.str (Txt.slice x lo hi))) := fun A s Z Q E hA I H k => by
  refine wpAny_Subscript_Slice (T := "str") F.slot_str_getitem.lookup (hv A s Z _ E hA I H fun o Z₁ s₁ x₁ p₁ => wpAny_Slice ?_) ht
  refine hl A s₁ Z₁ _ E hA x₁.inv (Φ.stable I H x₁) fun q Z₂ s₂ x₂ e₂ => ?_
  refine hu A s₂ Z₂ _ E hA x₂.inv (Φ.stable x₁.inv (Φ.stable I H x₁) x₂) fun q' Z₃ s₃ x₃ e₃ => ?_
  rw [evalPart_none]
  obtain ⟨t, rfl⟩ := rdi p₁
  refine wpAny_pure ⟨typeIs_str _ _ _, wpAny_getItem_str_slice (l := q) (u := q') (st := none) ⟨_, Heap.get?_push_size _ rfl, rfl, ?_⟩ rfl (post_val_or_str ⟨?_, fun t' kk => ?_⟩)⟩
  · cases q <;> cases q' <;> rfl
  · have := Txt.slice_le x lo hi
    unfold Txt.slice at this
    rw [← e₂, ← e₃] at this
    exact Nat.le_trans this hsz
  · have st1 := StepX.push (X := No) x₃.inv (o := { cls := .type "slice", data := .fields #[(qv q), (qv q'), .none] }) (t := kk)
    refine k _ _ _ (((x₁.trans x₂).trans x₃).trans st1) ?_
    have e : (if ((1 : Int) == 1 && (Builtin.Str.strSliceIndices (q.map (·.1)) (q'.map (·.1)) 1 x.length).length == x.length) = true then x else ⟨((Builtin.Str.strSliceIndices (q.map (·.1)) (q'.map (·.1)) 1 x.length).filterMap (x.cps[·]?)).toArray⟩) = Txt.slice x lo hi := by
      unfold Txt.slice; rw [e₂, e₃]
    rw [← e]
    exact .str _ _
end
end
section
open PySem.SeqAt
section
variable {C : Cx} {n : Nat} {X : Addr → Prop} {Φ Ψ : Asn C} {env : Env} {l m ds : List PV} {x y : Str} {e : Expr} {pos p : Pos} {R : Vp}
theorem tv_int {i : Int} (he : EV C n Φ (eval e env) (is (.int i))) (hn : ∀ t, isTrue e env t = (do let v ← t; standAt e.pos; holding [v] (truthy v)) := by intro _; rfl) : TV C n Φ (isTrue e env (eval e env)) (i != 0) := fun A s Z Q E hA I H k => by
  rw [hn]
  refine wpAny_bind (he A s Z _ E hA I H fun v Z' s' x pv => wpAny_bind (wpAny_standAt (wpAny_holding ?_)))
  obtain ⟨_, rfl⟩ := rdi pv
  exact P.truthy_int (k Z' s' x)
theorem tv_list (he : EV C n Φ (eval e env) (is (.list ds))) (hsz : ds.length < 2 ^ 62) (hn : ∀ t, isTrue e env t = (do let v ← t; standAt e.pos; holding [v] (truthy v)) := by intro _; rfl) : TV C n Φ (isTrue e env (eval e env)) (!ds.isEmpty) := fun A s Z Q E hA I H k => by
  rw [hn]
  refine wpAny_bind (he A s Z _ E hA I H fun v Z' s' x pv => wpAny_bind (wpAny_standAt (wpAny_holding ?_)))
  obtain ⟨a, n, vs, rfl, hz, r⟩ := rdi pv
  refine wpAny_truthy_list (isList_of x.inv hz) (by have := r.length; simp; lia) ?_
  have e : vs.toArray.isEmpty = ds.isEmpty := by
    have := r.length
    cases vs <;> cases ds <;> simp_all
  rw [e]
  exact k Z' _ (x.trans (Step.toks x.inv _))
theorem tv_bool {b : Bool} (he : EV C n Φ (eval e env) (is (.bool b))) (hn : ∀ t, isTrue e env t = (do let v ← t; standAt e.pos; holding [v] (truthy v)) := by intro _; rfl) : TV C n Φ (isTrue e env (eval e env)) b := fun A s Z Q E hA I H k => by
  rw [hn]
  refine wpAny_bind (he A s Z _ E hA I H fun v Z' s' x pv => wpAny_bind (wpAny_standAt (wpAny_holding ?_)))
  obtain ⟨_, rfl⟩ := rdi pv
  exact wpAny_truthy_bool (k Z' s' x)
theorem op_item_str {v sl : Expr} {i : Int} {c : Nat} (hr : (decide (i < -(2 ^ 63 : Int)) || decide (i ≥ 2 ^ 63)) = false) (hc : (seqIndex? i x.length).bind (x.cps[·]?) = some c)
    (hs : ∀ o i, subscripted sl false o i = operate [o, i] (getItem o i) := by intro _ _; rfl) : OP2 C n (subscriptTail v sl) (is (.str x)) (is (.int i)) (is (.str ⟨#[c]⟩)) := fun A s Z u w Q E hA I hu hw k => by
  obtain ⟨_, rfl⟩ := rdi hu; obtain ⟨_, rfl⟩ := rdi hw
  exact tail_any (typeIs_str s _ _) F.slot_str_getitem.lookup (P.getItem_str hr hc (k _ Z _ (Step.toks I _) (.str _ _))) (hs _ _)
variable {nm oc : List Str} {sc : List (Str × NameKind)} {ω ω' : List (Addr × List PV)} {κ : Addr → Option Obj} {ρ : List (Option Vp)}
theorem ev_append {r : Str} {p1 apos cpos : Pos} {elt : Expr} {a : Addr} {d : PV} {ds : List PV} {A : Around} {s : Shared} {Z : Fz} {Q : Value → Shared → Prop} {E : Value → Shared → Prop} (hr : At nm ρ r (isv (.ref a))) (he : EV C n (FS C env nm oc sc X ρ ω κ) (eval elt env) (is d)) (u : OU ω a ds (ds ++ [d]) ω') (hsz : ds.length ≤ sizeLine)
    (hbase : attributeBase (.Name r p1) "append" env (eval (.Name r p1) env) = eval (.Name r p1) env) (hline : (apos.endLine == cpos.line) = true)
    (hfew : ((backTo cpos (starEach [elt] env)).all (fun x => !x.1) && (backToKw cpos (keywordEach [] env)).all (fun x => x.1.isSome)
      && decide (([elt] : List Expr).length + ([] : List Keyword).length + (if ([] : List Keyword).isEmpty then 0 else 1) < 30)) = true)
    (htrees : backTo cpos (starEach [elt] env) = [(false, eval elt env)]) (hA : Room n A) (I : Inv C Z s) (H : FSp env nm oc sc X ρ ω κ Z s.heap)
    (k : ∀ Z' s', StepX C X Z s Z' s' → FSp env nm oc sc X ρ ω' κ Z' s'.heap → Q .none s') : wpAny (model C.prog C.w) A (eval (.Call (.Attribute (.Name r p1) "append" apos) [elt] [] cpos) env) Q E s := by
  refine wpAny_Call_append hbase hfew hline htrees (ev_name (n := n) hr A s Z _ E hA I H fun v Z₁ s₁ x₁ pv => ?_)
  cases pv
  have H₁ := (FS C env nm oc sc X ρ ω κ).stable I H x₁
  obtain ⟨hz, vs, mm, e, rr⟩ := H₁.own _ u.mem
  refine ⟨a, vs.toArray, rfl, ⟨_, mm, e, rfl, rfl, rfl⟩, ?_⟩
  refine he A s₁ Z₁ _ E hA x₁.inv H₁ fun y Z₂ s₂ x₂ py => ?_
  refine call_append x₂.inv ((FS C env nm oc sc X ρ ω κ).stable x₁.inv H₁ x₂) u py hsz fun s₃ x₃ H₃ => ?_
  exact k Z₂ s₃ (((Step.to x₁).trans (Step.to x₂)).trans x₃) H₃
theorem ex_append {r : Str} {p1 apos cpos epos : Pos} {elt : Expr} {a : Addr} {d : PV} {ds : List PV} (hr : At nm ρ r (isv (.ref a))) (he : EV C n (FS C env nm oc sc X ρ ω κ) (eval elt env) (is d)) (u : OU ω a ds (ds ++ [d]) ω') (hsz : ds.length ≤ sizeLine)
    (hbase : attributeBase (.Name r p1) "append" env (eval (.Name r p1) env) = eval (.Name r p1) env := by rfl) (hline : (apos.endLine == cpos.line) = true := by rfl)
    (hfew : ((backTo cpos (starEach [elt] env)).all (fun x => !x.1) && (backToKw cpos (keywordEach [] env)).all (fun x => x.1.isSome)
      && decide (([elt] : List Expr).length + ([] : List Keyword).length + (if ([] : List Keyword).isEmpty then 0 else 1) < 30)) = true := by rfl)
    (htrees : backTo cpos (starEach [elt] env) = [(false, eval elt env)] := by rfl) (hi : interactive env = false := by rfl) :
    EX C n X (FS C env nm oc sc X ρ ω κ) (exec (.Expr (.Call (.Attribute (.Name r p1) "append" apos) [elt] [] cpos) epos) env) (FS C env nm oc sc X ρ ω' κ) R := fun A s Z Q E hA I H kn kr => by
  rw [PySem.exec_Expr (hi := hi) (hs := rfl)]
  refine wpAny_bind (wpAny_standAt (wpAny_bind (ev_append (n := n) hr he u hsz hbase hline hfew htrees hA I H fun Z' s' x' H' => ?_)))
  rw [dropValue_plain (by intro _ q; cases q)]
  exact wpAny_pure (kn Z' s' x' H')
end
end
section
noncomputable def GlobP (C : Cx) (x : Str) (P : Vp) : Prop := ∃ v, GlobZ C x v ∧ P.at_ C.Z0 v
section
variable {C : Cx} {n : Nat} {X : Addr → Prop} {env : Env} {nm oc : List Str} {sc : List (Str × NameKind)} {pos : Pos} {ρ : List (Option Vp)} {ω : List (Addr × List PV)} {κ : Addr → Option Obj}
theorem ev_globP {x : Str} {P : Vp} (hg : GlobP C x P) (hk : sc.lookup x = some .globalImplicit) (hd : (x == ("__debug__" : Str)) = false) : EV C n (FS C env nm oc sc X ρ ω κ) (eval (.Name x pos) env) P := by
  obtain ⟨v, hg, hr⟩ := hg
  refine fun A s Z Q E hA I H k => ev_glob hg hk hd A s Z Q E hA I H fun u Z' s' x' h => k u Z' s' x' ?_
  cases h
  exact P.mono x'.inv.base hr
end
noncomputable def tokL : List (Str × PV) := tokI.map fun p => (p.1, .int p.2)
noncomputable def lookT (k : Str) : Option Int := (tokI.find? fun kv => kv.1 = k).map (·.2)
theorem look_tok {k : Str} : look tokL k = (lookT k).map .int := by
  unfold look lookT tokL
  rw [List.find?_map, Option.map_map, Option.map_map]
  rfl
noncomputable def szI (b : Int → Bool) : Int := if b 3 then 3 else if b 2 then 2 else if b 1 then 1 else 0
theorem sz_at (b : Int → Bool) (h : szI b ≠ 0) : b (szI b) = true := by
  unfold szI at h ⊢
  split
  · assumption
  · split
    · assumption
    · split
      · assumption
      · simp_all
theorem allInt_map : ∀ l : List Int, allInt (l.map .int) = true
  | [] => rfl
  | _ :: l => allInt_map l
theorem sz_best (b : Int → Bool) (h : szI b ≠ 0) : bestP gtP ((([1, 2, 3] : List Int).filter b).map .int) = .int (szI b) := by
  revert h
  unfold szI
  simp only [List.filter_cons, List.filter_nil]
  cases b 1 <;> cases b 2 <;> cases b 3 <;> intro h <;> first | rfl | exact absurd rfl h
theorem sz_ne (b : Int → Bool) (h : szI b ≠ 0) : (([1, 2, 3] : List Int).filter b).map PV.int ≠ [] := by
  revert h
  unfold szI
  simp only [List.filter_cons, List.filter_nil]
  cases b 1 <;> cases b 2 <;> cases b 3 <;> intro h q <;> first | exact absurd rfl h | cases q
noncomputable abbrev li (l : List Int) : PV := .list (l.map .int)
noncomputable abbrev subT (x : Str) (a b : Int) : Str := Txt.slice x (some a) (some b)
noncomputable def rowB (x : Str) (p : Nat) (k : Int) : Bool := (lookT (subT x p (p + k))).isSome
noncomputable def rowI (x : Str) (p : Nat) : Int := (lookT (subT x p (p + szI (rowB x p)))).getD 0
noncomputable def rowS (x : Str) (σ : List Int × Int) (p : Nat) : List Int × Int := if σ.2 ≤ p then (σ.1 ++ [rowI x p], p + szI (rowB x p)) else σ
noncomputable def rowF (x : Str) : List Int := ((List.range x.length).foldl (rowS x) ([], 0)).1
structure LawL (C : Cx) : Prop extends LawK C where
  len : BltZ C (sQ "len") (.builtin "len")
  tok : GlobP C (sQ "EXACT_TOKEN_TYPES") (dictS C tokL)
section
variable {C : Cx}
theorem d_row (K : LawL C) (x : Str) (hx : x.length ≤ 1000) (hsz : ∀ i < x.length, szI (rowB x i) ≠ 0) : DefC C 2 (sQ "_law_row") [is (.str x)] (is (li (rowF x ++ [0]))) := by
  obtain ⟨f, q, doc, pm, cd, hg, ho, hcd⟩ := K.row
  have g1 := K.len
  have g3 := K.tok
  have g4 := K.max
  have g5 := K.range
  have hxs : x.length ≤ sizeLine := by rw [sizeLine_eq]; lia
  let st : Nat → List Int × Int := fun i => ((List.range i).foldl (rowS x) ([], 0))
  have hst : ∀ i, st (i + 1) = rowS x (st i) i := fun i => by
    show (List.range (i + 1)).foldl _ _ = _
    rw [List.range_succ, List.foldl_append]; rfl
  have hlen : ∀ i, (st i).1.length ≤ i := by
    intro i
    induction i with
    | zero => exact Nat.le_refl 0
    | succ i ih =>
      rw [hst]
      unfold rowS
      split
      · simp; lia
      · lia
  refine ⟨f, hg, ⟨_, _, ho, rfl⟩, fn_def (n := 0) (sc := scOf (stAt pw 79)) (ρ := [some (is (.str x)), none, none, none, none]) (nm := [sQ "text", sQ "row", sQ "ahead", sQ "place", sQ "size"]) (xs := [sQ "text"]) K.q ho rfl hcd rfl rfl rfl rfl rfl (bnd1 fun _ => rfl) rfl (by decide +kernel) (by decide +kernel) (by decide +kernel) (by decide +kernel) rfl fun L X => ?_⟩
  apply ex_tup_sw
  · exact rfl
  · exact rfl
  · exact Nat.le_of_ble_eq_true rfl
  · exact rfl
  · apply TupK.own
    · apply evn_listL
      · walk_at "ev"
      · walk_at "at"
      · exact Nat.le_of_ble_eq_true rfl
    · intro a
      apply TupK.val
      · walk_at "ev"
      · apply tk_nil_sw rfl rfl
        · show Bdn _ _ _ [_, _] [is (.int 0), isv (.ref a)] _ _
          walk_at "at"
        · apply exs_for (ρs := fun i => [some (is (.str x)), some (isv (.ref a)), some (is (.int (st i).2)), none, none]) (ωs := fun i => [(a, (st i).1.map .int)]) rfl rfl
          · apply it_eq (ds := rngL 0 x.length)
            · apply it_callTt
              · assumption
              · apply el_cons
                · apply ev_callBt
                  · assumption
                  · walk_at "ev"
                  · exact fn_len_str (by lia)
                  · exact rfl
                  · exact rfl
                  · exact rfl
                  · exact rfl
                · walk_at "ev"
                · exact rfl
              · exact fi_range1 (small_one (by decide) (by decide) (by lia) (by lia))
              · exact rfl
              · exact rfl
              · exact rfl
              · exact rfl
            · exact rfl
          · intro i; rfl
          · intro κ' i d hd
            have hlt : i < x.length := by
              have := (List.getElem?_eq_some_iff.mp hd).1
              rw [rngL_length] at this; exact this
            have hde : d = .int i := by
              unfold rngL at hd
              rw [List.getElem?_map, List.getElem?_range hlt] at hd
              cases hd
              show PV.int (0 + (i : Int)) = _
              rw [Int.zero_add]
            subst hde
            have b := hlen i
            have hix : x.cps[i]? = some (x.cps[i]?.getD 0) := by
              have : i < x.cps.size := hlt
              rw [Array.getElem?_eq_getElem this]; rfl
            apply ex_mk
            · walk_at "at"
            rw [hst i]
            generalize st i = w at b ⊢
            obtain ⟨rs, ah⟩ := w
            simp only at b
            have hrs : (rs.map PV.int).length ≤ sizeLine := by rw [List.length_map, sizeLine_eq]; lia
            walk_at "if"
            · intro hc
              have hc : ah ≤ i := by simpa using hc
              have hz := hsz i hlt
              have hb := sz_at _ hz
              have er : rowS x (rs, ah) i = (rs ++ [rowI x i], i + szI (rowB x i)) := by
                unfold rowS; rw [if_pos hc]
              rw [er]
              apply ex_cons
              · apply ex_assign
                · apply ev_callBt (R := is (.int (szI (rowB x i))))
                  · assumption
                  · apply el_cons
                    · apply ev_comp1if
                      apply comp1if_ok (xs := [1, 2, 3]) (f := fun (k : Int) => .int k) (h := fun k => .int k) (p := rowB x i)
                      · apply it_eq
                        · apply it_tup
                          walk_at "ev"
                        · exact rfl
                      · walk_at "at"
                      · exact rfl
                      · decide +kernel
                      · exact rfl
                      · exact Nat.le_of_ble_eq_true rfl
                      · intro cenv X' j hx
                        apply ex_mk4
                        · walk_at "at"
                        · walk_at "at"
                        · intro ω κ
                          apply tv_eq
                          · apply tv_cmp
                            · apply ev_slice_str
                              · walk_at "ev"
                              · apply pt_some
                                walk_at "ev"
                              · apply pt_some
                                walk_at "ev"
                              · exact hxs
                              · intro _ _; rfl
                            · apply ev_globP
                              · assumption
                              · exact rfl
                              · exact rfl
                            · exact op_in_dictS
                            · exact rfl
                          · rw [look_tok, Option.isSome_map]; rfl
                        · intro _ ω κ
                          walk_at "ev"
                    · walk_at "ev"
                    · exact rfl
                  · apply fn_eq
                    · apply fn_max_list
                      · rw [allInt_map]; rfl
                      · exact sz_ne _ hz
                    · rw [sz_best _ hz]
                  · exact rfl
                  · exact rfl
                · walk_at "at"
                · decide +kernel
                · decide +kernel
                · exact rfl
              apply ex_cons
              · apply ex_append (d := .int (rowI x i))
                · walk_at "at"
                · apply ev_sub
                  · apply ev_globP
                    · assumption
                    · exact rfl
                    · exact rfl
                  · apply ev_slice_str
                    · walk_at "ev"
                    · apply pt_some
                      walk_at "ev"
                    · apply pt_some
                      walk_at "ev"
                    · exact hxs
                    · intro _ _; rfl
                  · apply op_item_dictS
                    · rw [look_tok]
                      unfold rowB at hb
                      rw [rowI]
                      revert hb
                      show (lookT (subT x i (i + szI (rowB x i)))).isSome = true → (lookT (subT x i (i + szI (rowB x i)))).map PV.int = _
                      cases lookT (subT x i (i + szI (rowB x i))) with
                      | none => intro h; cases h
                      | some v => intro _; rfl
                    · intro _ _; rfl
                · exact OU.here
                · exact hrs
              apply ex_cons
              · apply ex_assign
                · walk_at "ev"
                · walk_at "at"
                · decide +kernel
                · decide +kernel
                · exact rfl
              show EX _ _ _ (FS _ _ _ _ _ _ _ [(a, rs.map PV.int ++ [.int (rowI x i)])] _) _ (FS _ _ _ _ _ _ _ [(a, (rs ++ [rowI x i]).map .int)] _) _
              rw [List.map_append]
              apply ex_fgt
              walk_at "fgtd"
            · intro hc
              have hc : ¬ ah ≤ i := by simpa using hc
              have er : rowS x (rs, ah) i = (rs, ah) := by
                unfold rowS; rw [if_neg hc]
              rw [er]
              apply ex_fgt
              walk_at "fgtd"
          · show EX _ _ _ (FS _ _ _ _ _ _ [_, _, _, _, _] [(a, (st (rngL 0 x.length).length).1.map .int)] _) _ _ _
            rw [rngL_length]
            apply ex_freeze .here (.same (.it (.same (.same (.same .nil)))))
            have b := hlen x.length
            apply ex_ret
            apply ev_d
            · apply ev_bin
              · walk_at "ev"
              · walk_at "ev"
              · apply op_add_list
                simp only [List.length_map, List.length_cons, List.length_nil, sizeLine_eq]; lia
            · show PV.list ((rowF x).map .int ++ [.int 0]) = li (rowF x ++ [0])
              rw [li, List.map_append]; rfl
      · exact rfl
    · exact rfl
end
end
section
open PySem.Float64
-- floats as fractions
noncomputable def UU : Nat := 2 ^ 1074
theorem UU_pos : 0 < UU := Nat.two_pow_pos _
noncomputable def IsFin (x : UInt64) : Prop := ∃ a m e, decode x = .fin a m e
noncomputable def rv (x : UInt64) : Rat := (val x : Rat) / (UU : Rat)
theorem UU_ne : (UU : Rat) ≠ 0 := by
  have := UU_pos
  exact Rat.ne_of_gt (by exact_mod_cast this)
theorem UU_gt : (0 : Rat) < (UU : Rat) := by
  have := UU_pos
  exact_mod_cast this
theorem repr_at {j k : Nat} (hj : j ≤ 2 ^ 53) (hk : 60 ≤ k) : ∃ t, V t = j * 2 ^ k := by
  by_cases h0 : j = 0
  · subst h0
    exact ⟨0, by rw [V_zero]; simp⟩
  · by_cases h1 : j = 2 ^ 53
    · exact ⟨k * 2 ^ 52 + 2 ^ 53, by rw [h1]; exact V_at (Nat.le_refl _) (.inl (by decide))⟩
    · have hl := (Nat.log2_lt (n := j) (k := 53) h0).mpr (by lia)
      have hle := Nat.log2_self_le h0
      have hlt := Nat.lt_log2_self (n := j)
      generalize j.log2 = L at hl hle hlt
      have e1 : 2 ^ L * 2 ^ (52 - L) = 2 ^ 52 := by rw [← Nat.pow_add]; congr 1; lia
      have e2 : 2 ^ (L + 1) * 2 ^ (52 - L) = 2 ^ 53 := by rw [← Nat.pow_add]; congr 1; lia
      have b1 : 2 ^ 52 ≤ j * 2 ^ (52 - L) := by rw [← e1]; exact Nat.mul_le_mul_right _ hle
      have b2 : j * 2 ^ (52 - L) ≤ 2 ^ 53 := by rw [← e2]; exact Nat.mul_le_mul_right _ (Nat.le_of_lt hlt)
      refine ⟨(k - (52 - L)) * 2 ^ 52 + j * 2 ^ (52 - L), ?_⟩
      rw [V_at b2 (.inl b1), Nat.mul_assoc, ← Nat.pow_add]
      congr 2
      lia
theorem dist_le {a b c : Nat} (h1 : a ≤ b + c) (h2 : b ≤ a + c) : dist a b ≤ c := by unfold dist; lia
theorem le_dist {a b c : Nat} (h : dist a b ≤ c) : a ≤ b + c ∧ b ≤ a + c := by unfold dist at h; lia
theorem right_val {r : UInt64} {neg : Bool} {W D : Nat} (h : Right r neg W D) (hD : 0 < D) (hW : W ≤ 16 * UU * D) : IsFin r ∧ ∃ v : Nat, val r = sgn neg v ∧ W ≤ D * v + D * 2 ^ 1025 ∧ D * v ≤ W + D * 2 ^ 1025 ∧ ((∃ j k, j ≤ 2 ^ 53 ∧ 60 ≤ k ∧ W = D * (j * 2 ^ k)) → W = D * v) := by
  obtain ⟨t, rfl, h1, h2, h3⟩ := h
  have hU : 16 * UU = 2 ^ 1078 := by unfold UU; rw [show (1078 : Nat) = 4 + 1074 from rfl, Nat.pow_add]
  have hlt : t < infMag := by
    rcases Nat.lt_or_ge t infMag with h | h
    · exact h
    · have e : t = infMag := Nat.le_antisymm h1 h
      have h4 := h2.mp e
      have h5 : 2 * W ≤ D * (2 * 2 ^ 1078) := by
        rw [hU] at hW
        calc 2 * W ≤ 2 * (2 ^ 1078 * D) := Nat.mul_le_mul_left 2 hW
          _ = D * (2 * 2 ^ 1078) := by ac_rfl
      have h6 : D * ((2 ^ 54 - 1) * 2 ^ 2045) ≤ D * (2 * 2 ^ 1078) := Nat.le_trans h4 h5
      have h7 := Nat.le_of_mul_le_mul_left h6 hD
      exact absurd h7 (by decide +kernel)
  obtain ⟨m, e, hd, hv⟩ := decode_pack neg hlt
  have hval := val_pack neg hlt
  refine ⟨⟨neg, m, e, hd⟩, V t, hval, ?_⟩
  have key := h3 hlt
  have hpos : 0 < D * 2 ^ 1025 := Nat.mul_pos hD (Nat.two_pow_pos _)
  have hj : W / (D * 2 ^ 1025) ≤ 2 ^ 53 := by
    apply Nat.div_le_of_le_mul
    calc W ≤ 16 * UU * D := hW
      _ = 2 ^ 1078 * D := by rw [hU]
      _ = D * 2 ^ 1025 * 2 ^ 53 := by rw [Nat.mul_assoc, ← Nat.pow_add]; exact Nat.mul_comm _ _
  obtain ⟨t', ht'⟩ := repr_at (k := 1025) hj (by decide)
  have k1 := (key t').1
  have hdiv := Nat.div_add_mod W (D * 2 ^ 1025)
  have hmod := Nat.mod_lt W hpos
  have e3 : D * V t' = D * 2 ^ 1025 * (W / (D * 2 ^ 1025)) := by rw [ht']; ac_rfl
  have k2 : dist W (D * V t') ≤ D * 2 ^ 1025 := by
    rw [e3]
    generalize D * 2 ^ 1025 * (W / (D * 2 ^ 1025)) = z at *
    generalize D * 2 ^ 1025 = y at *
    exact dist_le (by lia) (by lia)
  obtain ⟨k3, k4⟩ := le_dist (Nat.le_trans k1 k2)
  refine ⟨k3, k4, fun ⟨j, k, hj, hk, hw⟩ => ?_⟩
  obtain ⟨t2, ht2⟩ := repr_at hj hk
  have := (key t2).1
  rw [ht2, ← hw] at this
  have h0 : dist W W = 0 := by unfold dist; lia
  rw [h0] at this
  obtain ⟨a, b⟩ := le_dist this
  lia
end
section
open PySem.Float64
noncomputable def GG : Nat := 2 ^ 1025
theorem GG_pos : 0 < GG := Nat.two_pow_pos _
theorem UU_GG : UU = GG * 562949953421312 := by unfold UU GG; rw [show (562949953421312 : Nat) = 2 ^ 49 by decide, ← Nat.pow_add]
theorem GG_gt : (0 : Rat) < (GG : Rat) := by
  have := GG_pos
  exact_mod_cast this
theorem UU_rat : (UU : Rat) = (GG : Rat) * 562949953421312 := by rw [UU_GG]; push_cast; rfl
noncomputable abbrev eps : Rat := 1 / 562949953421312
theorem right_rat {r : UInt64} {neg : Bool} {W D : Nat} (h : Right r neg W D) (hD : 0 < D) (hW : W ≤ 16 * UU * D) {A : Rat} (hA : A * ((D : Rat) * (UU : Rat)) = (sgn neg W : Rat)) :
    IsFin r ∧ A - eps ≤ rv r ∧ rv r ≤ A + eps ∧ ((∃ j k, j ≤ 2 ^ 53 ∧ 60 ≤ k ∧ W = D * (j * 2 ^ k)) → rv r = A) := by
  obtain ⟨hf, v, hv, h1, h2, h3⟩ := right_val h hD hW
  have hU := UU_gt
  have hG := GG_gt
  have hDq : (0 : Rat) < (D : Rat) := by exact_mod_cast hD
  have e1 : (W : Rat) ≤ (D : Rat) * v + D * GG := by
    have : W ≤ D * v + D * GG := h1
    exact_mod_cast this
  have e2 : (D : Rat) * v ≤ W + D * GG := by
    have : D * v ≤ W + D * GG := h2
    exact_mod_cast this
  have er : rv r * (UU : Rat) = (sgn neg v : Rat) := by
    unfold rv
    rw [hv, Rat.div_mul_cancel UU_ne]
  have eU := UU_rat
  refine ⟨hf, ?_, ?_, fun hx => ?_⟩
  · refine Rat.le_of_mul_le_mul_right (c := (D : Rat) * UU) ?_ (Rat.mul_pos hDq hU)
    have a1 : (A - eps) * ((D : Rat) * UU) = (sgn neg W : Rat) - D * GG := by
      rw [← hA, eU]; grind
    have a2 : rv r * ((D : Rat) * UU) = D * (sgn neg v : Rat) := by rw [← er]; grind
    rw [a1, a2]
    cases neg
    · simp only [sgn, Bool.false_eq_true, if_false]; push_cast; grind
    · simp only [sgn, if_true]; push_cast; grind
  · refine Rat.le_of_mul_le_mul_right (c := (D : Rat) * UU) ?_ (Rat.mul_pos hDq hU)
    have a1 : (A + eps) * ((D : Rat) * UU) = (sgn neg W : Rat) + D * GG := by
      rw [← hA, eU]; grind
    have a2 : rv r * ((D : Rat) * UU) = D * (sgn neg v : Rat) := by rw [← er]; grind
    rw [a1, a2]
    cases neg
    · simp only [sgn, Bool.false_eq_true, if_false]; push_cast; grind
    · simp only [sgn, if_true]; push_cast; grind
  · have h4 := h3 hx
    have e3 : (W : Rat) = (D : Rat) * v := by exact_mod_cast h4
    have a2 : rv r * ((D : Rat) * UU) = D * (sgn neg v : Rat) := by rw [← er]; grind
    have a3 : (sgn neg W : Rat) = D * (sgn neg v : Rat) := by
      cases neg
      · simp only [sgn, Bool.false_eq_true, if_false]; push_cast; exact e3
      · simp only [sgn, if_true]; push_cast; grind
    have a4 : rv r * ((D : Rat) * UU) = A * ((D : Rat) * UU) := by rw [a2, hA, a3]
    have hpos := Rat.mul_pos hDq hU
    rcases (Rat.le_total : rv r ≤ A ∨ A ≤ rv r) with g | g
    · exact Rat.le_antisymm g (Rat.le_of_mul_le_mul_right (c := (D : Rat) * UU) (by rw [a4]; exact Rat.le_refl) hpos)
    · exact Rat.le_antisymm (Rat.le_of_mul_le_mul_right (c := (D : Rat) * UU) (by rw [a4]; exact Rat.le_refl) hpos) g
theorem val_rv (x : UInt64) : (val x : Rat) = rv x * UU := by unfold rv; rw [Rat.div_mul_cancel UU_ne]
theorem sgn_abs (z : Int) : sgn (decide (z < 0)) z.natAbs = z := by
  unfold sgn
  by_cases h : z < 0
  · simp only [h, decide_true, if_true]; lia
  · simp only [h, decide_false, Bool.false_eq_true, if_false]; lia
theorem zero_rv (b : Bool) : IsFin (zero b) ∧ rv (zero b) = 0 := by
  cases b
  · exact ⟨⟨_, _, _, by with_unfolding_all rfl⟩, by unfold rv; rw [show val (zero false) = 0 by decide +kernel]; grind⟩
  · exact ⟨⟨_, _, _, by with_unfolding_all rfl⟩, by unfold rv; rw [show val (zero true) = 0 by decide +kernel]; grind⟩
theorem abs_le_of {z : Int} {n : Nat} (h1 : -(n : Int) ≤ z) (h2 : z ≤ n) : z.natAbs ≤ n := by lia
theorem bound16 {z : Int} {a : Rat} (hz : (z : Rat) = a * UU) (h1 : -16 ≤ a) (h2 : a ≤ 16) : z.natAbs ≤ 16 * UU := by
  have hU := UU_gt
  apply abs_le_of
  · have : (-((16 * UU : Nat) : Int) : Rat) ≤ (z : Rat) := by
      push_cast
      rw [hz]
      have := Rat.mul_le_mul_of_nonneg_right h1 (Rat.le_of_lt hU)
      grind
    exact_mod_cast this
  · have : (z : Rat) ≤ (((16 * UU : Nat) : Int) : Rat) := by
      push_cast
      rw [hz]
      have := Rat.mul_le_mul_of_nonneg_right h2 (Rat.le_of_lt hU)
      grind
    exact_mod_cast this
noncomputable def Few (a : Rat) : Prop := ∃ j : Int, j.natAbs ≤ 2 ^ 53 ∧ a * 1099511627776 = j
theorem few_nat {a : Rat} {z : Int} (hz : (z : Rat) = a * UU) (h : Few a) : ∃ j k, j ≤ 2 ^ 53 ∧ 60 ≤ k ∧ z.natAbs = 1 * (j * 2 ^ k) := by
  obtain ⟨j, hj, e⟩ := h
  refine ⟨j.natAbs, 1034, hj, by decide, ?_⟩
  have hG : GG * 512 = 2 ^ 1034 := by unfold GG; rw [show (512 : Nat) = 2 ^ 9 by decide, ← Nat.pow_add]
  have : (z : Rat) = ((j * ((GG * 512 : Nat) : Int) : Int) : Rat) := by
    rw [hz, UU_rat]
    push_cast
    rw [← e]
    grind
  have e2 : z = j * ((GG * 512 : Nat) : Int) := by exact_mod_cast this
  rw [e2, Int.natAbs_mul, Int.natAbs_natCast, hG, Nat.one_mul]
theorem add_rv {x y : UInt64} (hx : IsFin x) (hy : IsFin y) (h1 : -16 ≤ rv x + rv y) (h2 : rv x + rv y ≤ 16) : IsFin (add x y) ∧ rv x + rv y - eps ≤ rv (add x y) ∧ rv (add x y) ≤ rv x + rv y + eps ∧ (Few (rv x + rv y) → rv (add x y) = rv x + rv y) := by
  obtain ⟨a, m, e, dx⟩ := hx
  obtain ⟨b, k, f, dy⟩ := hy
  obtain ⟨r1, r2⟩ := add_right dx dy
  have hz : ((val x + val y : Int) : Rat) = (rv x + rv y) * UU := by push_cast; rw [val_rv, val_rv]; grind
  by_cases h0 : val x + val y = 0
  · rw [r1 h0]
    obtain ⟨z1, z2⟩ := zero_rv (a && b)
    rw [h0] at hz
    have : rv x + rv y = 0 := by
      have hU := UU_ne
      have : (rv x + rv y) * UU = 0 := by rw [← hz]; rfl
      grind
    rw [z2, this]
    refine ⟨z1, by decide +kernel, by decide +kernel, fun _ => rfl⟩
  · have h := right_rat (r2 h0) (by decide) (by rw [Nat.mul_one]; exact bound16 hz h1 h2) (A := rv x + rv y) (by rw [sgn_abs, hz]; push_cast; grind)
    exact ⟨h.1, h.2.1, h.2.2.1, fun hf => h.2.2.2 (few_nat hz hf)⟩
theorem neg_rv {y : UInt64} (hy : IsFin y) : IsFin (neg y) ∧ rv (neg y) = -rv y := by
  obtain ⟨b, k, f, dy⟩ := hy
  refine ⟨⟨_, _, _, neg_decode dy⟩, ?_⟩
  unfold rv
  rw [neg_val dy]
  push_cast
  grind
theorem sub_rv {x y : UInt64} (hx : IsFin x) (hy : IsFin y) (h1 : -16 ≤ rv x - rv y) (h2 : rv x - rv y ≤ 16) : IsFin (sub x y) ∧ rv x - rv y - eps ≤ rv (sub x y) ∧ rv (sub x y) ≤ rv x - rv y + eps ∧ (Few (rv x - rv y) → rv (sub x y) = rv x - rv y) := by
  obtain ⟨n1, n2⟩ := neg_rv hy
  have h := add_rv hx n1 (by rw [n2]; grind) (by rw [n2]; grind)
  rw [n2, show rv x + -rv y = rv x - rv y by grind] at h
  with_unfolding_all exact h
theorem sgn_prod (a b : Bool) (m k : Nat) : sgn (a != b) (m * k) = sgn a m * sgn b k := by
  unfold sgn
  cases a <;> cases b <;> simp [Int.neg_mul, Int.mul_neg]
theorem val_sgn {x : UInt64} {a : Bool} {m : Nat} {e : Int} (h : decode x = .fin a m e) : sgn a (val x).natAbs = val x := by rw [val_natAbs h, val_eq h]
theorem few_mul {a : Rat} {W : Nat} {b : Bool} (hz : a * ((UU : Rat) * UU) = (sgn b W : Rat)) (h : Few a) : ∃ j k, j ≤ 2 ^ 53 ∧ 60 ≤ k ∧ W = UU * (j * 2 ^ k) := by
  obtain ⟨j, hj, e⟩ := h
  refine ⟨j.natAbs, 1034, hj, by decide, ?_⟩
  have hG : GG * 512 = 2 ^ 1034 := by unfold GG; rw [show (512 : Nat) = 2 ^ 9 by decide, ← Nat.pow_add]
  have : (sgn b W : Rat) = ((j * ((GG * 512 : Nat) : Int) * ((UU : Nat) : Int) : Int) : Rat) := by
    rw [← hz]
    push_cast
    rw [← e]
    have := UU_rat
    grind
  have e2 : sgn b W = j * ((GG * 512 : Nat) : Int) * ((UU : Nat) : Int) := by exact_mod_cast this
  have e3 := congrArg Int.natAbs e2
  rw [sgn_natAbs, Int.natAbs_mul, Int.natAbs_mul, Int.natAbs_natCast, Int.natAbs_natCast, hG] at e3
  rw [e3, Nat.mul_comm]
theorem mul_rv {x y : UInt64} (hx : IsFin x) (hy : IsFin y) (h1 : -16 ≤ rv x * rv y) (h2 : rv x * rv y ≤ 16) : IsFin (mul x y) ∧ rv x * rv y - eps ≤ rv (mul x y) ∧ rv (mul x y) ≤ rv x * rv y + eps ∧ (Few (rv x * rv y) → rv (mul x y) = rv x * rv y) := by
  obtain ⟨a, m, e, dx⟩ := hx
  obtain ⟨b, k, f, dy⟩ := hy
  have r := mul_right dx dy
  have hs : sgn (a != b) ((val x).natAbs * (val y).natAbs) = val x * val y := by rw [sgn_prod, val_sgn dx, val_sgn dy]
  have hA : (rv x * rv y) * ((UU : Rat) * UU) = (sgn (a != b) ((val x).natAbs * (val y).natAbs) : Rat) := by
    rw [hs]; push_cast; rw [val_rv, val_rv]; grind
  have hW : (val x).natAbs * (val y).natAbs ≤ 16 * UU * UU := by
    have hU := UU_gt
    have hp := Rat.mul_pos hU hU
    rw [← Int.natAbs_mul]
    have hz : ((val x * val y : Int) : Rat) = (rv x * rv y) * ((UU : Rat) * UU) := by push_cast; rw [val_rv, val_rv]; grind
    apply abs_le_of
    · have : (-((16 * UU * UU : Nat) : Int) : Rat) ≤ ((val x * val y : Int) : Rat) := by
        rw [hz]; push_cast
        have := Rat.mul_le_mul_of_nonneg_right h1 (Rat.le_of_lt hp)
        grind
      exact_mod_cast this
    · have : ((val x * val y : Int) : Rat) ≤ (((16 * UU * UU : Nat) : Int) : Rat) := by
        rw [hz]; push_cast
        have := Rat.mul_le_mul_of_nonneg_right h2 (Rat.le_of_lt hp)
        grind
      exact_mod_cast this
  have h := right_rat (D := UU) r UU_pos hW (A := rv x * rv y) hA
  exact ⟨h.1, h.2.1, h.2.2.1, fun hf => h.2.2.2 (few_mul hA hf)⟩
theorem div_rv {x y : UInt64} (hx : IsFin x) (hy : IsFin y) (h0 : rv y ≠ 0) (h1 : -16 ≤ rv x / rv y) (h2 : rv x / rv y ≤ 16) : IsFin (div x y) ∧ rv x / rv y - eps ≤ rv (div x y) ∧ rv (div x y) ≤ rv x / rv y + eps ∧ (Few (rv x / rv y) → rv (div x y) = rv x / rv y) := by
  obtain ⟨a, m, e, dx⟩ := hx
  obtain ⟨b, k, f, dy⟩ := hy
  have hv : val y ≠ 0 := fun q => h0 (by unfold rv; rw [q]; grind)
  have hk : k ≠ 0 := fun q => hv (by rw [val_eq dy, q, Nat.zero_mul]; unfold sgn; split <;> rfl)
  have r := div_right dx dy hk
  have hU := UU_gt
  have hD : 0 < (val y).natAbs := by lia
  have hDq : (0 : Rat) < ((val y).natAbs : Rat) := by exact_mod_cast hD
  have hvy : (val y : Rat) = rv y * UU := val_rv y
  have hvx : (val x : Rat) = rv x * UU := val_rv x
  have hA : (rv x / rv y) * (((val y).natAbs : Rat) * (UU : Rat)) = (sgn (a != b) ((val x).natAbs * UU) : Rat) := by
    have s1 := val_sgn dx
    have s2 := val_sgn dy
    have e1 : ((val y).natAbs : Rat) = (if b then -1 else 1) * (val y : Rat) := by
      rw [← s2]
      unfold sgn
      cases b <;> simp <;> push_cast <;> grind
    have e2 : (sgn (a != b) ((val x).natAbs * UU) : Rat) = (if b then -1 else 1) * (val x : Rat) * UU := by
      rw [← s1]
      unfold sgn
      cases a <;> cases b <;> simp <;> push_cast <;> grind
    rw [e1, e2, hvy, hvx]
    cases b <;> simp <;> grind
  have hW : (val x).natAbs * UU ≤ 16 * UU * (val y).natAbs := by
    have p := Rat.mul_pos hDq hU
    have b1 := Rat.mul_le_mul_of_nonneg_right h1 (Rat.le_of_lt p)
    have b2 := Rat.mul_le_mul_of_nonneg_right h2 (Rat.le_of_lt p)
    rw [hA] at b1 b2
    have e3 : (((val x).natAbs * UU : Nat) : Rat) ≤ ((16 * UU * (val y).natAbs : Nat) : Rat) := by
      push_cast
      generalize (a != b) = c at b1 b2
      cases c
      · simp only [sgn, Bool.false_eq_true, if_false] at b2
        push_cast at b2
        grind
      · simp only [sgn, if_true] at b1
        push_cast at b1
        grind
    exact_mod_cast e3
  have h := right_rat r hD hW (A := rv x / rv y) hA
  refine ⟨h.1, h.2.1, h.2.2.1, fun hf => h.2.2.2 ?_⟩
  obtain ⟨j, hj, ee⟩ := hf
  refine ⟨j.natAbs, 1034, hj, by decide, ?_⟩
  have hG : GG * 512 = 2 ^ 1034 := by unfold GG; rw [show (512 : Nat) = 2 ^ 9 by decide, ← Nat.pow_add]
  have e4 : (sgn (a != b) ((val x).natAbs * UU) : Rat) = ((j * ((GG * 512 : Nat) : Int) * ((val y).natAbs : Int) : Int) : Rat) := by
    rw [← hA]
    push_cast
    rw [← ee, UU_rat]
    grind
  have e5 : sgn (a != b) ((val x).natAbs * UU) = j * ((GG * 512 : Nat) : Int) * ((val y).natAbs : Int) := by exact_mod_cast e4
  have e6 := congrArg Int.natAbs e5
  rw [sgn_natAbs, Int.natAbs_mul, Int.natAbs_mul, Int.natAbs_natCast, Int.natAbs_natCast, hG] at e6
  rw [show (val x).natAbs * 2 ^ 1074 = (val x).natAbs * UU from rfl, e6, Nat.mul_comm]
theorem rv_lt {x y : UInt64} : rv x < rv y ↔ val x < val y := by
  have hU := UU_gt
  rw [← Rat.intCast_lt_intCast, val_rv, val_rv]
  exact (Rat.mul_lt_mul_right hU).symm
theorem rv_eq {x y : UInt64} : rv x = rv y ↔ val x = val y := by
  constructor
  · intro h
    have : (val x : Rat) = (val y : Rat) := by rw [val_rv, val_rv, h]
    exact_mod_cast this
  · intro h; unfold rv; rw [h]
theorem cmp_rv {x y : UInt64} (hx : IsFin x) (hy : IsFin y) : (cmp x y == some .lt) = decide (rv x < rv y) ∧ (cmp x y == some .eq) = decide (rv x = rv y) ∧ (cmp x y == some .gt) = decide (rv y < rv x) := by
  obtain ⟨a, m, e, dx⟩ := hx
  obtain ⟨b, k, f, dy⟩ := hy
  rw [cmp_right dx dy]
  simp only [rv_lt, rv_eq]
  rcases Int.lt_trichotomy (val x) (val y) with h | h | h
  · rw [Int.compare_eq_lt.mpr h]
    refine ⟨by simp [h], ?_, ?_⟩
    · simp; lia
    · simp; lia
  · rw [h]
    simp
  · rw [Int.compare_eq_gt.mpr h]
    refine ⟨?_, ?_, by simp [h]⟩
    · simp; lia
    · simp; lia
end
section
open PySem.Float64
theorem repr_any {j k : Nat} (hj : j < 2 ^ 53) : ∃ t, V t = j * 2 ^ k := by
  by_cases h0 : j = 0
  · subst h0
    exact ⟨0, by rw [V_zero]; simp⟩
  · have hl := (Nat.log2_lt (n := j) (k := 53) h0).mpr hj
    have hle := Nat.log2_self_le h0
    have hlt := Nat.lt_log2_self (n := j)
    generalize j.log2 = L at hl hle hlt
    by_cases hk : 52 - L ≤ k
    · have e1 : 2 ^ L * 2 ^ (52 - L) = 2 ^ 52 := by rw [← Nat.pow_add]; congr 1; lia
      have e2 : 2 ^ (L + 1) * 2 ^ (52 - L) = 2 ^ 53 := by rw [← Nat.pow_add]; congr 1; lia
      have b1 : 2 ^ 52 ≤ j * 2 ^ (52 - L) := by rw [← e1]; exact Nat.mul_le_mul_right _ hle
      have b2 : j * 2 ^ (52 - L) ≤ 2 ^ 53 := by rw [← e2]; exact Nat.mul_le_mul_right _ (Nat.le_of_lt hlt)
      refine ⟨(k - (52 - L)) * 2 ^ 52 + j * 2 ^ (52 - L), ?_⟩
      rw [V_at b2 (.inl b1), Nat.mul_assoc, ← Nat.pow_add]
      congr 2
      lia
    · have e2 : j * 2 ^ k ≤ 2 ^ 53 := by
        have : j * 2 ^ k ≤ 2 ^ (L + 1) * 2 ^ k := Nat.mul_le_mul_right _ (Nat.le_of_lt hlt)
        rw [← Nat.pow_add] at this
        exact Nat.le_trans this (Nat.pow_le_pow_right (by decide) (by lia))
      refine ⟨0 * 2 ^ 52 + j * 2 ^ k, ?_⟩
      rw [V_at e2 (.inr rfl)]
      simp
theorem right_exact {r : UInt64} {neg : Bool} {W D t0 : Nat} (h : Right r neg W D) (hD : 0 < D) (hW : W = D * V t0) (hb : V t0 ≤ 2 ^ 1200) : IsFin r ∧ val r = sgn neg (V t0) := by
  obtain ⟨t, rfl, h1, h2, h3⟩ := h
  have hlt : t < infMag := by
    rcases Nat.lt_or_ge t infMag with h | h
    · exact h
    · have e : t = infMag := Nat.le_antisymm h1 h
      have h4 := h2.mp e
      have h6 : D * ((2 ^ 54 - 1) * 2 ^ 2045) ≤ D * (2 * 2 ^ 1200) := by
        refine Nat.le_trans h4 ?_
        rw [hW]
        calc 2 * (D * V t0) = D * (2 * V t0) := by ac_rfl
          _ ≤ D * (2 * 2 ^ 1200) := Nat.mul_le_mul_left _ (Nat.mul_le_mul_left _ hb)
      have h7 := Nat.le_of_mul_le_mul_left h6 hD
      exact absurd h7 (by decide +kernel)
  obtain ⟨m, e, hd, hv⟩ := decode_pack neg hlt
  have hval := val_pack neg hlt
  refine ⟨⟨neg, m, e, hd⟩, ?_⟩
  have k1 := (h3 hlt t0).1
  rw [← hW] at k1
  have h0 : dist W W = 0 := by unfold dist; lia
  rw [h0] at k1
  obtain ⟨a, b⟩ := le_dist k1
  have : D * V t = D * V t0 := by lia
  rw [hval, Nat.eq_of_mul_eq_mul_left hD this]
theorem decode_lt {x : UInt64} {a : Bool} {m : Nat} {e : Int} (h : decode x = .fin a m e) : m < 2 ^ 53 := by
  unfold decode at h
  simp only at h
  split at h
  · split at h <;> cases h
  · split at h
    · cases h
      have := Nat.mod_lt x.toNat (show 0 < 2 ^ 52 by decide)
      lia
    · cases h
      have := Nat.mod_lt x.toNat (show 0 < 2 ^ 52 by decide)
      lia
theorem frac_rv {neg : Bool} {n : Nat} (hn : n ≤ 65536) : IsFin (ofFrac neg n 65536) ∧ rv (ofFrac neg n 65536) = (sgn neg n : Rat) / 65536 := by
  have r := ofFrac_right (neg := neg) (n := n) (d := 65536) (W := n * UU) (D := 65536) (by decide) (by unfold UU; ac_rfl) (by decide)
  have hU := UU_gt
  have hA : ((sgn neg n : Rat) / 65536) * (((65536 : Nat) : Rat) * (UU : Rat)) = (sgn neg (n * UU) : Rat) := by
    cases neg
    · simp only [sgn, Bool.false_eq_true, if_false]; push_cast; grind
    · simp only [sgn, if_true]; push_cast; grind
  have hW : n * UU ≤ 16 * UU * 65536 := by
    have h1 := Nat.mul_le_mul_right UU hn
    refine Nat.le_trans h1 ?_
    rw [Nat.mul_comm 16 UU, Nat.mul_assoc, Nat.mul_comm 65536 UU]
    exact Nat.mul_le_mul_left _ (by decide)
  have h := right_rat r (by decide) hW hA
  refine ⟨h.1, h.2.2.2 ?_⟩
  refine ⟨n, 1058, by lia, by decide, ?_⟩
  have e : UU = 65536 * 2 ^ 1058 := by unfold UU; rw [show (65536 : Nat) = 2 ^ 16 by decide, ← Nat.pow_add]
  rw [e]; ac_rfl
theorem int_rv {i : Int} (h : i.natAbs ≤ 1024) : IsFin (ofInt i) ∧ rv (ofInt i) = i := by
  have r := ofInt_right i
  obtain ⟨t, ht⟩ := repr_any (j := i.natAbs) (k := 1074) (by lia)
  have hb : V t ≤ 2 ^ 1200 := by
    rw [ht]
    calc i.natAbs * 2 ^ 1074 ≤ 2 ^ 10 * 2 ^ 1074 := Nat.mul_le_mul_right _ h
      _ = 2 ^ 1084 := by rw [← Nat.pow_add]
      _ ≤ 2 ^ 1200 := Nat.pow_le_pow_right (by decide) (by decide)
  obtain ⟨f, v⟩ := right_exact r (by decide) (by rw [ht, Nat.one_mul]) hb
  refine ⟨f, ?_⟩
  unfold rv
  rw [v, ht]
  have : sgn (decide (i < 0)) (i.natAbs * 2 ^ 1074) = i * ((UU : Nat) : Int) := by
    rw [sgn_mul, sgn_abs]; rfl
  rw [this]
  push_cast
  have := UU_ne
  grind
end
section
open PySem.Float64
noncomputable abbrev fOne : UInt64 := 4607182418800017408
theorem one_dec : decode fOne = .fin false (2 ^ 52) (-52) := by with_unfolding_all rfl
theorem one_rv : IsFin fOne ∧ rv fOne = 1 := by
  refine ⟨⟨_, _, _, one_dec⟩, ?_⟩
  unfold rv
  rw [val_eq one_dec]
  have : sgn false (2 ^ 52 * 2 ^ ((-52 : Int) + 1074).toNat) = ((UU : Nat) : Int) := by
    show ((2 ^ 52 * 2 ^ 1022 : Nat) : Int) = _
    rw [← Nat.pow_add]; rfl
  rw [this]
  push_cast
  have := UU_ne
  grind
theorem exp_split {e g : Int} (h1 : g ≤ e) (h2 : -1074 ≤ g) : (e - g).toNat + (g + 1074).toNat = (e + 1074).toNat := by
  rw [← Int.toNat_add (Int.sub_nonneg_of_le h1) (by lia)]
  congr 1; lia
theorem fmod_one {x : UInt64} {a : Bool} {m : Nat} {e : Int} (hx : decode x = .fin a m e) : IsFin (fmod x fOne) ∧ val (fmod x fOne) = sgn a ((val x).natAbs % UU) := by
  have he := decode_ge hx
  have hm := decode_lt hx
  have hg : -1074 ≤ min e (-52) := Int.le_min.mpr ⟨he, by decide⟩
  have hf : fmod x fOne = ofBin a (m * 2 ^ (e - min e (-52)).toNat % (2 ^ 52 * 2 ^ (-52 - min e (-52)).toNat)) (min e (-52)) := by
    unfold fmod
    rw [hx, one_dec]
    simp only [align, sgn]
    rfl
  have e1 : (val x).natAbs = m * 2 ^ (e - min e (-52)).toNat * 2 ^ (min e (-52) + 1074).toNat := by
    rw [val_natAbs hx, Nat.mul_assoc, ← Nat.pow_add, exp_split (Int.min_le_left ..) hg]
  have e2 : UU = 2 ^ 52 * 2 ^ (-52 - min e (-52)).toNat * 2 ^ (min e (-52) + 1074).toNat := by
    unfold UU
    rw [Nat.mul_assoc, ← Nat.pow_add, exp_split (e := -52) (Int.min_le_right ..) hg]; rfl
  have e3 : (val x).natAbs % UU = (m * 2 ^ (e - min e (-52)).toNat % (2 ^ 52 * 2 ^ (-52 - min e (-52)).toNat)) * 2 ^ (min e (-52) + 1074).toNat := by
    rw [e1, e2, Nat.mul_mod_mul_right]
  have hlt : m * 2 ^ (e - min e (-52)).toNat % (2 ^ 52 * 2 ^ (-52 - min e (-52)).toNat) < 2 ^ 53 := by
    rcases Int.le_total e (-52) with h | h
    · have z : (e - min e (-52)).toNat = 0 := by clear e3 e2 e1 hf hm he hx; lia
      rw [z, Nat.pow_zero, Nat.mul_one]
      exact Nat.lt_of_le_of_lt (Nat.mod_le _ _) hm
    · have z : (-52 - min e (-52)).toNat = 0 := by clear e3 e2 e1 hf hm he hx; lia
      rw [z, Nat.pow_zero, Nat.mul_one]
      exact Nat.lt_of_lt_of_le (Nat.mod_lt _ (by decide)) (by decide)
  have hmn : min e (-52) ≤ -52 := Int.min_le_right ..
  rw [hf, e3]
  generalize m * 2 ^ (e - min e (-52)).toNat % (2 ^ 52 * 2 ^ (-52 - min e (-52)).toNat) = j at hlt
  generalize min e (-52) = g at hg hmn
  obtain ⟨t, ht⟩ := repr_any (j := j) (k := (g + 1074).toNat) hlt
  have r := ofFrac_right (neg := a) (n := (shift j 1 g).1) (d := (shift j 1 g).2) (W := j * 2 ^ (g + 1074).toNat) (D := 1) (shift_pos _ _ _ (by decide)) (by rw [Nat.mul_one]; exact shift_one j g 1074 (by clear ht hmn hlt e3 e2 e1 hf hm he hx; lia)) (by decide)
  have hb : V t ≤ 2 ^ 1200 := by
    rw [ht]
    calc j * 2 ^ (g + 1074).toNat ≤ 2 ^ 53 * 2 ^ 1022 := Nat.mul_le_mul (Nat.le_of_lt hlt) (Nat.pow_le_pow_right (by decide) (by clear r ht hg hlt e3 e2 e1 hf hm he hx; lia))
      _ = 2 ^ 1075 := by rw [← Nat.pow_add]
      _ ≤ 2 ^ 1200 := Nat.pow_le_pow_right (by decide) (by decide)
  obtain ⟨f, v⟩ := right_exact r (by decide) (by rw [ht, Nat.one_mul]) hb
  rw [ht] at v
  exact ⟨f, v⟩
theorem isZero_val {x : UInt64} (hx : IsFin x) : isZero x = decide (val x = 0) := by
  obtain ⟨a, m, e, dx⟩ := hx
  have h2 : (val x).natAbs = m * 2 ^ (e + 1074).toNat := val_natAbs dx
  unfold isZero
  rw [dx]
  cases m with
  | zero =>
    have : val x = 0 := by rw [Nat.zero_mul] at h2; lia
    simp [this]
  | succ k =>
    have h3 : 0 < (k + 1) * 2 ^ (e + 1074).toNat := Nat.mul_pos (Nat.succ_pos k) (Nat.two_pow_pos _)
    have : val x ≠ 0 := by lia
    simp [this]
theorem copy_zero : copysign (zero false) fOne = 0 := by decide +kernel
theorem lt_one : lt fOne (zero false) = false := by decide +kernel
theorem mod_eq (x : UInt64) : (divmod x fOne).2 = if isZero (fmod x fOne) then (0 : UInt64) else if lt (fmod x fOne) (zero false) then add (fmod x fOne) fOne else fmod x fOne := by
  unfold divmod
  simp only [copy_zero, lt_one]
  split
  · rfl
  · cases h : lt (fmod x fOne) (zero false) <;> simp
theorem zero_rv' : IsFin 0 ∧ rv 0 = 0 := by
  have := zero_rv false
  rwa [show zero false = 0 by decide +kernel] at this
theorem lt_zero {x : UInt64} (hx : IsFin x) : lt x (zero false) = decide (rv x < 0) := by
  have h := (cmp_rv hx (zero_rv false).1).1
  rw [(zero_rv false).2] at h
  exact h
theorem mod_pos {x : UInt64} (hx : IsFin x) (h0 : 0 ≤ rv x) : IsFin (divmod x fOne).2 ∧ ∃ n : Nat, rv (divmod x fOne).2 = rv x - n ∧ 0 ≤ rv (divmod x fOne).2 ∧ rv (divmod x fOne).2 < 1 := by
  have hx0 := hx
  obtain ⟨a, m, e, dx⟩ := hx
  obtain ⟨f, v⟩ := fmod_one dx
  have hU := UU_gt
  have hvx : 0 ≤ val x := by
    have : ((0 : Int) : Rat) ≤ (val x : Rat) := by
      rw [val_rv]
      have := Rat.mul_nonneg h0 (Rat.le_of_lt hU)
      exact_mod_cast this
    exact_mod_cast this
  have hv : val (fmod x fOne) = (((val x).natAbs % UU : Nat) : Int) := by
    rw [v]
    cases a
    · rfl
    · have hz : val x = 0 := by
        have := val_sgn dx
        unfold sgn at this
        simp only [if_true] at this
        (clear v dx hU f hx0 h0; lia)
      rw [hz]; rfl
  have hlt := Nat.mod_lt (val x).natAbs UU_pos
  have hdm := Nat.div_add_mod (val x).natAbs UU
  have hr : rv (fmod x fOne) = rv x - (((val x).natAbs / UU : Nat) : Rat) ∧ 0 ≤ rv (fmod x fOne) ∧ rv (fmod x fOne) < 1 := by
    have q1 : (val (fmod x fOne) : Rat) = (((val x).natAbs % UU : Nat) : Rat) := by rw [hv]; push_cast; rfl
    have q2 : (val x : Rat) = (((val x).natAbs : Nat) : Rat) := by
      have : val x = (((val x).natAbs : Nat) : Int) := by clear q1 hdm hlt hv hU v f dx hx0 h0; lia
      exact_mod_cast this
    have q3 : (((val x).natAbs : Nat) : Rat) = (UU : Rat) * (((val x).natAbs / UU : Nat) : Rat) + (((val x).natAbs % UU : Nat) : Rat) := by exact_mod_cast hdm.symm
    have q4 : (((val x).natAbs % UU : Nat) : Rat) < (UU : Rat) := by exact_mod_cast hlt
    have q5 : (0 : Rat) ≤ (((val x).natAbs % UU : Nat) : Rat) := Rat.natCast_nonneg
    rw [val_rv] at q1 q2
    generalize (((val x).natAbs % UU : Nat) : Rat) = z at *
    generalize (((val x).natAbs / UU : Nat) : Rat) = y at *
    generalize (((val x).natAbs : Nat) : Rat) = w at *
    refine ⟨?_, ?_, ?_⟩
    · have h1 : rv (fmod x fOne) * UU = (rv x - y) * UU := by clear q5 q4 hdm hlt hv hvx hU v f dx hx0 h0; grind
      have := UU_ne
      (clear this h1 q5 hdm hlt hv hvx hU v f dx hx0 h0; grind)
    · refine Rat.le_of_mul_le_mul_right (c := (UU : Rat)) ?_ hU
      (clear q3 q2 q4 hdm hlt hv hvx hU v f dx hx0 h0; grind)
    · have h1 : rv (fmod x fOne) * UU < 1 * UU := by clear q3 q2 q5 hdm hlt hv hvx hU v f dx hx0 h0; grind
      exact (Rat.mul_lt_mul_right hU).mp h1
  rw [mod_eq, isZero_val f, lt_zero f]
  by_cases hz : val (fmod x fOne) = 0
  · rw [if_pos (by simpa using hz)]
    have : rv (fmod x fOne) = 0 := by unfold rv; rw [hz]; (clear hz hr hdm hlt hv hvx hU v f dx hx0 h0; grind)
    refine ⟨zero_rv'.1, (val x).natAbs / UU, ?_, ?_, ?_⟩
    · rw [zero_rv'.2, ← hr.1, this]
    · rw [zero_rv'.2]; exact Rat.le_refl
    · rw [zero_rv'.2]; decide +kernel
  · rw [if_neg (by simpa using hz), if_neg (by simp; exact Rat.not_lt.mpr hr.2.1)]
    exact ⟨f, (val x).natAbs / UU, hr⟩
theorem mod_neg {x : UInt64} (hx : IsFin x) (h0 : rv x < 0) (h1 : -1 < rv x) : (divmod x fOne).2 = add (fmod x fOne) fOne ∧ IsFin (fmod x fOne) ∧ rv (fmod x fOne) = rv x := by
  obtain ⟨a, m, e, dx⟩ := hx
  obtain ⟨f, v⟩ := fmod_one dx
  have hU := UU_gt
  have hn : val x < 0 := by
    have : (val x : Rat) < ((0 : Int) : Rat) := by
      rw [val_rv]
      have := (Rat.mul_lt_mul_right hU).mpr h0
      push_cast
      (clear hU v f dx h1 h0; grind)
    exact_mod_cast this
  have hb : (val x).natAbs < UU := by
    have : ((-(UU : Int) : Int) : Rat) < (val x : Rat) := by
      rw [val_rv]
      have := (Rat.mul_lt_mul_right hU).mpr h1
      push_cast
      (clear hn hU v f dx h1 h0; grind)
    have : -(UU : Int) < val x := by exact_mod_cast this
    (clear hU v f dx h1 h0; lia)
  have hv : val (fmod x fOne) = val x := by rw [v, Nat.mod_eq_of_lt hb, val_sgn dx]
  have hr : rv (fmod x fOne) = rv x := by unfold rv; rw [hv]
  refine ⟨?_, f, hr⟩
  rw [mod_eq, isZero_val f, lt_zero f, if_neg (by rw [hv]; simp; (clear hr hv hb hU v f dx h1 h0; lia)), if_pos (by rw [hr]; simpa using h0)]
end
section
open PySem.Float64
theorem fin_rv {x : UInt64} {a : Bool} {m : Nat} {e : Int} (dx : decode x = .fin a m e) : rv x * (((shift m 1 e).2 : Nat) : Rat) = (sgn a (shift m 1 e).1 : Rat) := by
  have he := decode_ge dx
  have h := shift_one m e 1074 (by lia)
  have hU := UU_ne
  have e1 : ((shift m 1 e).1 : Rat) * (UU : Rat) = ((m * 2 ^ (e + 1074).toNat : Nat) : Rat) * ((shift m 1 e).2 : Rat) := by
    have : (shift m 1 e).1 * UU = m * 2 ^ (e + ((1074 : Nat) : Int)).toNat * (shift m 1 e).2 := h
    exact_mod_cast this
  have e2 : (val x : Rat) = (sgn a (m * 2 ^ (e + 1074).toNat) : Rat) := by rw [val_eq dx]
  have e3 := val_rv x
  generalize (m * 2 ^ (e + 1074).toNat : Nat) = w at *
  generalize (shift m 1 e).1 = n at *
  generalize (shift m 1 e).2 = d at *
  rw [e3] at e2
  cases a
  · simp only [sgn, Bool.false_eq_true, if_false] at e2 ⊢
    push_cast at e2 ⊢
    (clear dx h e3 he; grind)
  · simp only [sgn, if_true] at e2 ⊢
    push_cast at e2 ⊢
    (clear dx h e3 he; grind)
theorem floor_shift (m : Nat) (e : Int) : floorOf false m e = (((shift m 1 e).1 / (shift m 1 e).2 : Nat) : Int) := by
  unfold floorOf shift
  split
  · simp only [sgn, Bool.false_eq_true, if_false, Nat.div_one]; push_cast; rfl
  · simp only [sgn, Bool.false_eq_true, if_false, Nat.one_mul]
    rw [Int.fdiv_eq_ediv_of_nonneg _ (Int.le_of_lt (Int.pow_pos (by decide)))]
    push_cast; rfl
theorem trunc_rv {x : UInt64} (hx : IsFin x) (h0 : 0 ≤ rv x) : ∃ i : Nat, PySem.Flt.toInt truncOf x = i ∧ (i : Rat) ≤ rv x ∧ rv x < i + 1 := by
  obtain ⟨a, m, e, dx⟩ := hx
  have hd := shift_pos m 1 e (by decide)
  have h := fin_rv dx
  have hdq : (0 : Rat) < (((shift m 1 e).2 : Nat) : Rat) := by exact_mod_cast hd
  have ht : PySem.Flt.toInt truncOf x = truncOf a m e := by unfold PySem.Flt.toInt; rw [dx]
  have key : ∀ n d : Nat, 0 < d → rv x * (d : Rat) = (n : Rat) → ((n / d : Nat) : Rat) ≤ rv x ∧ rv x < ((n / d : Nat) : Rat) + 1 := fun n d hd h => by
    have hdq : (0 : Rat) < (d : Rat) := by exact_mod_cast hd
    have g1 := Nat.div_add_mod n d
    have g2 := Nat.mod_lt n hd
    have g3 : (d : Rat) * ((n / d : Nat) : Rat) + ((n % d : Nat) : Rat) = (n : Rat) := by exact_mod_cast g1
    have g4 : ((n % d : Nat) : Rat) < (d : Rat) := by exact_mod_cast g2
    have g5 : (0 : Rat) ≤ ((n % d : Nat) : Rat) := Rat.natCast_nonneg
    generalize ((n / d : Nat) : Rat) = q at *
    generalize ((n % d : Nat) : Rat) = r at *
    constructor
    · refine Rat.le_of_mul_le_mul_right (c := (d : Rat)) ?_ hdq
      (clear g4 g2 g1 hdq hd ht dx h0; grind)
    · refine (Rat.mul_lt_mul_right hdq).mp ?_
      (clear g5 g2 g1 hdq hd ht dx h0; grind)
  rw [ht]
  cases a
  · refine ⟨(shift m 1 e).1 / (shift m 1 e).2, ?_, ?_⟩
    · unfold truncOf
      simp only [Bool.false_eq_true, if_false]
      exact floor_shift m e
    · exact key _ _ hd (by simp only [sgn, Bool.false_eq_true, if_false] at h; exact_mod_cast h)
  · have hz : (shift m 1 e).1 = 0 := by
      simp only [sgn, if_true] at h
      have h1 := Rat.mul_nonneg h0 (Rat.le_of_lt hdq)
      rw [h] at h1
      have h2 : (0 : Int) ≤ -((shift m 1 e).1 : Int) := by exact_mod_cast h1
      (clear h1 h ht dx key hdq hd h0; lia)
    refine ⟨0, ?_, ?_⟩
    · unfold truncOf ceilOf
      simp only [if_true, Bool.not_true]
      rw [floor_shift, hz]; simp
    · have := key 0 (shift m 1 e).2 hd (by rw [h, hz]; rfl)
      simpa using this
theorem near_rv {y : UInt64} (hy : IsFin y) {N : Nat} (hN : 1 ≤ N) (h1 : (N : Rat) - 1 / 2 < rv y) (h2 : rv y < (N : Rat) + 1 / 2) : PySem.Flt.toInt nearestOf y = N := by
  obtain ⟨a, m, e, dx⟩ := hy
  have hd := shift_pos m 1 e (by decide)
  have h := fin_rv dx
  have hdq : (0 : Rat) < (((shift m 1 e).2 : Nat) : Rat) := by exact_mod_cast hd
  have ht : PySem.Flt.toInt nearestOf y = sgn a (halfEven (shift m 1 e).1 (shift m 1 e).2) := by unfold PySem.Flt.toInt; rw [dx]; rfl
  have hNq : (1 : Rat) ≤ (N : Rat) := by exact_mod_cast hN
  have hpos : 0 < rv y := by clear ht hdq h hd dx h2 hN; grind
  have ha : a = false := by
    cases a with
    | false => rfl
    | true =>
      simp only [sgn, if_true] at h
      have h3 := Rat.mul_pos hpos hdq
      rw [h] at h3
      have h4 : (0 : Int) < -((shift m 1 e).1 : Int) := by exact_mod_cast h3
      (clear h3 h ht dx hpos hNq hdq hd h2 h1 hN; lia)
  subst ha
  rw [ht]
  have hn := halfEven_nearest (shift m 1 e).1 (shift m 1 e).2 hd N
  generalize halfEven (shift m 1 e).1 (shift m 1 e).2 = r at *
  generalize (shift m 1 e).1 = n at *
  generalize (shift m 1 e).2 = d at *
  simp only [sgn, Bool.false_eq_true, if_false] at h ⊢
  have h' : rv y * (d : Rat) = (n : Rat) := by exact_mod_cast h
  have k1 : 2 * (d * N) < 2 * n + d := by
    have : (2 : Rat) * (d * N) < 2 * n + d := by
      have := (Rat.mul_lt_mul_right hdq).mpr h1
      (clear h hn hdq hd ht dx hpos hNq h2 h1 hN; grind)
    exact_mod_cast this
  have k2 : 2 * n < 2 * (d * N) + d := by
    have : (2 : Rat) * n < 2 * (d * N) + d := by
      have := (Rat.mul_lt_mul_right hdq).mpr h2
      (clear k1 h hn hdq hd ht dx hpos hNq h2 h1 hN; grind)
    exact_mod_cast this
  have k3 : 2 * dist n (d * N) < d := by unfold dist; (clear h' h hn hdq hd ht dx hpos hNq h2 h1 hN; lia)
  have k4 := le_dist hn
  have k8 := le_dist (Nat.le_refl (dist n (d * N)))
  have k5 : d * r < d * N + d ∧ d * N < d * r + d :=
    ⟨Nat.lt_of_le_of_lt (Nat.le_trans k4.2 (Nat.add_le_add_right k8.1 _)) (by rw [Nat.add_assoc, ← Nat.two_mul]; exact Nat.add_lt_add_left k3 _),
     Nat.lt_of_le_of_lt (Nat.le_trans k8.2 (Nat.add_le_add_right k4.1 _)) (by rw [Nat.add_assoc, ← Nat.two_mul]; exact Nat.add_lt_add_left k3 _)⟩
  have k6 : r < N + 1 := Nat.lt_of_mul_lt_mul_left (a := d) (by rw [Nat.mul_add, Nat.mul_one]; exact k5.1)
  have k7 : N < r + 1 := Nat.lt_of_mul_lt_mul_left (a := d) (by rw [Nat.mul_add, Nat.mul_one]; exact k5.2)
  congr 1
  (clear k5 k4 k3 k2 k1 h' h hn hdq hd ht dx hpos hNq h2 h1 hN; lia)
theorem p36_dec : decode (ofInt (2 ^ 36)) = .fin false (2 ^ 52) (-16) := by with_unfolding_all rfl
theorem mul36_rv {x : UInt64} (hx : IsFin x) (h1 : -16 ≤ rv x) (h2 : rv x ≤ 16) : IsFin (mul x (ofInt (2 ^ 36))) ∧ rv (mul x (ofInt (2 ^ 36))) = rv x * 68719476736 := by
  obtain ⟨a, m, e, dx⟩ := hx
  have hm := decode_lt dx
  have r := mul_right dx p36_dec
  have hv : (val (ofInt (2 ^ 36))).natAbs = 2 ^ 36 * UU := by
    rw [val_natAbs p36_dec]
    unfold UU
    show 2 ^ 52 * 2 ^ 1058 = _
    rw [← Nat.pow_add, ← Nat.pow_add]
  have hb := bound16 (val_rv x) h1 h2
  obtain ⟨t, ht⟩ := repr_any (j := m) (k := (e + 1074).toNat + 36) hm
  have e1 : V t = (val x).natAbs * 2 ^ 36 := by rw [ht, val_natAbs dx, Nat.pow_add, Nat.mul_assoc]
  have hbig : V t ≤ 2 ^ 1200 := by
    rw [e1]
    calc (val x).natAbs * 2 ^ 36 ≤ 16 * UU * 2 ^ 36 := Nat.mul_le_mul_right _ hb
      _ = 2 ^ 4 * 2 ^ 1074 * 2 ^ 36 := rfl
      _ = 2 ^ 1114 := by rw [← Nat.pow_add, ← Nat.pow_add]
      _ ≤ 2 ^ 1200 := Nat.pow_le_pow_right (by decide) (by decide)
  obtain ⟨f, v⟩ := right_exact r (Nat.two_pow_pos _) (by rw [hv, e1]; show (val x).natAbs * (2 ^ 36 * UU) = UU * ((val x).natAbs * 2 ^ 36); ac_rfl) hbig
  refine ⟨f, ?_⟩
  have e2 : val (mul x (ofInt (2 ^ 36))) = val x * 68719476736 := by
    rw [v, e1, sgn_mul, Bool.bne_false, val_sgn dx]; rfl
  unfold rv
  rw [e2]
  push_cast
  (clear e2 v f hbig e1 ht hb hv r hm dx h2 h1; grind)
end
section
open PySem.Float64
structure Apx (x : UInt64) (a e : Rat) : Prop where
  fin : IsFin x
  lo : a - e ≤ rv x
  hi : rv x ≤ a + e
theorem Apx.exact {x : UInt64} {a : Rat} (h : IsFin x) (e : rv x = a) : Apx x a 0 := ⟨h, by rw [e]; grind, by rw [e]; grind⟩
theorem Apx.eq {x : UInt64} {a : Rat} (h : Apx x a 0) : rv x = a := by
  have h1 := h.lo
  have h2 := h.hi
  grind
theorem Apx.mono {x : UInt64} {a e e' : Rat} (h : Apx x a e) (he : e ≤ e') : Apx x a e' := ⟨h.fin, by have := h.lo; grind, by have := h.hi; grind⟩
theorem Apx.to {x : UInt64} {a b e e' : Rat} (h : Apx x a e) (h1 : b - e' ≤ a - e) (h2 : a + e ≤ b + e') : Apx x b e' := ⟨h.fin, Rat.le_trans h1 h.lo, Rat.le_trans h.hi h2⟩
theorem Apx.add {x y : UInt64} {a b e1 e2 : Rat} (hx : Apx x a e1) (hy : Apx y b e2) (h1 : -16 ≤ a + b - (e1 + e2)) (h2 : a + b + (e1 + e2) ≤ 16) : Apx (Float64.add x y) (a + b) (e1 + e2 + eps) := by
  obtain ⟨f, x1, x2⟩ := hx
  obtain ⟨g, y1, y2⟩ := hy
  obtain ⟨r1, r2, r3, _⟩ := add_rv f g (by grind) (by grind)
  exact ⟨r1, by grind, by grind⟩
theorem Apx.sub {x y : UInt64} {a b e1 e2 : Rat} (hx : Apx x a e1) (hy : Apx y b e2) (h1 : -16 ≤ a - b - (e1 + e2)) (h2 : a - b + (e1 + e2) ≤ 16) : Apx (Float64.sub x y) (a - b) (e1 + e2 + eps) := by
  obtain ⟨f, x1, x2⟩ := hx
  obtain ⟨g, y1, y2⟩ := hy
  obtain ⟨r1, r2, r3, _⟩ := sub_rv f g (by grind) (by grind)
  exact ⟨r1, by grind, by grind⟩
theorem prod_bd {p q P Q : Rat} (h1 : -P ≤ p) (h2 : p ≤ P) (h3 : -Q ≤ q) (h4 : q ≤ Q) : -(P * Q) ≤ p * q ∧ p * q ≤ P * Q := by
  have a1 : 0 ≤ (P - p) * (Q + q) := Rat.mul_nonneg (by grind) (by grind)
  have a2 : 0 ≤ (P + p) * (Q - q) := Rat.mul_nonneg (by grind) (by grind)
  have a3 : 0 ≤ (P - p) * (Q - q) := Rat.mul_nonneg (by grind) (by grind)
  have a4 : 0 ≤ (P + p) * (Q + q) := Rat.mul_nonneg (by grind) (by grind)
  constructor <;> grind
theorem Apx.mul {x y : UInt64} {a b e1 e2 A B : Rat} (hx : Apx x a e1) (hy : Apx y b e2) (a1 : -A ≤ a) (a2 : a ≤ A) (b1 : -B ≤ b) (b2 : b ≤ B) (hb : A * B + (A * e2 + B * e1 + e1 * e2) ≤ 16) : Apx (Float64.mul x y) (a * b) (A * e2 + B * e1 + e1 * e2 + eps) := by
  obtain ⟨f, x1, x2⟩ := hx
  obtain ⟨g, y1, y2⟩ := hy
  have hd : rv x * rv y = a * b + a * (rv y - b) + (rv x - a) * b + (rv x - a) * (rv y - b) := by grind
  obtain ⟨p1, p2⟩ := prod_bd (p := a) (q := rv y - b) (P := A) (Q := e2) a1 a2 (by grind) (by grind)
  obtain ⟨p3, p4⟩ := prod_bd (p := rv x - a) (q := b) (P := e1) (Q := B) (by grind) (by grind) b1 b2
  obtain ⟨p5, p6⟩ := prod_bd (p := rv x - a) (q := rv y - b) (P := e1) (Q := e2) (by grind) (by grind) (by grind) (by grind)
  obtain ⟨p7, p8⟩ := prod_bd (p := a) (q := b) (P := A) (Q := B) a1 a2 b1 b2
  generalize a * (rv y - b) = z1 at *
  generalize (rv x - a) * b = z2 at *
  generalize (rv x - a) * (rv y - b) = z3 at *
  obtain ⟨r1, r2, r3, _⟩ := mul_rv f g (by rw [hd]; grind) (by rw [hd]; grind)
  rw [hd] at r2 r3
  exact ⟨r1, by grind, by grind⟩
theorem Apx.div {x y : UInt64} {a b : Rat} (hx : Apx x a 0) (hy : Apx y b 0) (h0 : b ≠ 0) (h1 : -16 ≤ a / b) (h2 : a / b ≤ 16) : Apx (Float64.div x y) (a / b) eps := by
  have ex := hx.eq
  have ey := hy.eq
  obtain ⟨r1, r2, r3, _⟩ := div_rv hx.fin hy.fin (by rw [ey]; exact h0) (by rw [ex, ey]; exact h1) (by rw [ex, ey]; exact h2)
  rw [ex, ey] at r2 r3
  exact ⟨r1, by grind, by grind⟩
theorem Apx.divc {x y : UInt64} {a e c : Rat} (hx : Apx x a e) (hy : Apx y c 0) (h0 : 0 < c) (h1 : -16 ≤ (a - e) / c) (h2 : (a + e) / c ≤ 16) : Apx (Float64.div x y) (a / c) (e / c + eps) := by
  have ey := hy.eq
  obtain ⟨f, x1, x2⟩ := hx
  have hm : ∀ p q : Rat, p ≤ q → p / c ≤ q / c := fun p q h => by
    refine Rat.le_of_mul_le_mul_right (c := c) ?_ h0
    have hc : c ≠ 0 := Rat.ne_of_gt h0
    rw [Rat.div_mul_cancel hc, Rat.div_mul_cancel hc]; exact h
  have m1 := hm _ _ x1
  have m2 := hm _ _ x2
  obtain ⟨r1, r2, r3, _⟩ := div_rv f hy.fin (by rw [ey]; exact Rat.ne_of_gt h0) (by rw [ey]; exact Rat.le_trans h1 m1) (by rw [ey]; exact Rat.le_trans m2 h2)
  rw [ey] at r2 r3
  have e1 : (a - e) / c = a / c - e / c := by grind
  have e2 : (a + e) / c = a / c + e / c := by grind
  exact ⟨r1, by grind, by grind⟩
-- the constants
theorem six_rv : Apx 4618441417868443648 6 0 := by
  have h := int_rv (i := 6) (by decide)
  rw [show ofInt 6 = 4618441417868443648 by decide +kernel] at h
  exact .exact h.1 (by rw [h.2]; rfl)
theorem two_rv : Apx 4611686018427387904 2 0 := by
  have h := int_rv (i := 2) (by decide)
  rw [show ofInt 2 = 4611686018427387904 by decide +kernel] at h
  exact .exact h.1 (by rw [h.2]; rfl)
theorem four_rv : Apx 4616189618054758400 4 0 := by
  have h := int_rv (i := 4) (by decide)
  rw [show ofInt 4 = 4616189618054758400 by decide +kernel] at h
  exact .exact h.1 (by rw [h.2]; rfl)
theorem fone_rv : Apx 4607182418800017408 1 0 := .exact one_rv.1 one_rv.2
theorem const_rv {x : UInt64} {m : Nat} {e : Int} {k : Nat} (hd : decode x = .fin false m e) (hk : (e + 1074).toNat + k = 1074) : IsFin x ∧ rv x * ((2 ^ k : Nat) : Rat) = (m : Rat) := by
  refine ⟨⟨_, _, _, hd⟩, ?_⟩
  have hv := val_rv x
  rw [val_eq hd] at hv
  have hU : UU = 2 ^ (e + 1074).toNat * 2 ^ k := by unfold UU; rw [← Nat.pow_add, hk]
  have h1 : (sgn false (m * 2 ^ (e + 1074).toNat) : Rat) = (m : Rat) * ((2 ^ (e + 1074).toNat : Nat) : Rat) := by
    simp only [sgn, Bool.false_eq_true, if_false]; push_cast; rfl
  rw [h1] at hv
  have h2 : (UU : Rat) = ((2 ^ (e + 1074).toNat : Nat) : Rat) * ((2 ^ k : Nat) : Rat) := by rw [hU]; push_cast; rfl
  have h3 : ((2 ^ (e + 1074).toNat : Nat) : Rat) ≠ 0 := by
    have : 0 < 2 ^ (e + 1074).toNat := Nat.two_pow_pos _
    have : (0 : Rat) < ((2 ^ (e + 1074).toNat : Nat) : Rat) := by exact_mod_cast this
    exact Rat.ne_of_gt this
  rw [h2] at hv
  generalize ((2 ^ (e + 1074).toNat : Nat) : Rat) = z at *
  generalize ((2 ^ k : Nat) : Rat) = w at *
  grind
theorem third_rv : Apx 4599676419421066581 (1 / 3) eps := by
  obtain ⟨f, h⟩ := const_rv (x := 4599676419421066581) (m := 6004799503160661) (e := -54) (k := 54) (by with_unfolding_all rfl) (by decide)
  rw [show ((2 ^ 54 : Nat) : Rat) = 18014398509481984 by decide +kernel] at h
  push_cast at h
  exact ⟨f, by grind, by grind⟩
theorem sixth_rv : Apx 4595172819793696085 (1 / 6) eps := by
  obtain ⟨f, h⟩ := const_rv (x := 4595172819793696085) (m := 6004799503160661) (e := -55) (k := 55) (by with_unfolding_all rfl) (by decide)
  rw [show ((2 ^ 55 : Nat) : Rat) = 36028797018963968 by decide +kernel] at h
  push_cast at h
  exact ⟨f, by grind, by grind⟩
theorem twothird_rv : Apx 4604180019048437077 (2 / 3) eps := by
  obtain ⟨f, h⟩ := const_rv (x := 4604180019048437077) (m := 6004799503160661) (e := -53) (k := 53) (by with_unfolding_all rfl) (by decide)
  rw [show ((2 ^ 53 : Nat) : Rat) = 9007199254740992 by decide +kernel] at h
  push_cast at h
  exact ⟨f, by grind, by grind⟩
theorem half_rv : Apx 4602678819172646912 (1 / 2) 0 := by
  obtain ⟨f, h⟩ := const_rv (x := 4602678819172646912) (m := 4503599627370496) (e := -53) (k := 53) (by with_unfolding_all rfl) (by decide)
  rw [show ((2 ^ 53 : Nat) : Rat) = 9007199254740992 by decide +kernel] at h
  push_cast at h
  exact ⟨f, by grind, by grind⟩
theorem Apx.addB {x y : UInt64} {a b e1 e2 : Rat} (hx : Apx x a e1) (hy : Apx y b e2) (a1 : -4 ≤ a) (a2 : a ≤ 4) (b1 : -4 ≤ b) (b2 : b ≤ 4) (he : e1 + e2 ≤ 1) : Apx (Float64.add x y) (a + b) (e1 + e2 + eps) := hx.add hy (by grind) (by grind)
theorem Apx.subB {x y : UInt64} {a b e1 e2 : Rat} (hx : Apx x a e1) (hy : Apx y b e2) (a1 : -4 ≤ a) (a2 : a ≤ 4) (b1 : -4 ≤ b) (b2 : b ≤ 4) (he : e1 + e2 ≤ 1) : Apx (Float64.sub x y) (a - b) (e1 + e2 + eps) := hx.sub hy (by grind) (by grind)
theorem bl4 {a : Rat} (h : 0 ≤ a) : -4 ≤ a := Rat.le_trans (by decide +kernel) h
theorem bh4 {a : Rat} (h : a ≤ 1) : a ≤ 4 := Rat.le_trans h (by decide +kernel)
theorem bl1 {a : Rat} (h : 0 ≤ a) : -1 ≤ a := Rat.le_trans (by decide +kernel) h
structure U01 (a : Rat) : Prop where
  lo : 0 ≤ a
  hi : a ≤ 1
theorem U01.one : U01 1 := ⟨by decide +kernel, by decide +kernel⟩
theorem U01.sub {a : Rat} (h : U01 a) : U01 (1 - a) := by
  obtain ⟨l, u⟩ := h
  exact ⟨by grind, by grind⟩
theorem U01.mul {a b : Rat} (h : U01 a) (k : U01 b) : U01 (a * b) := by
  have h1 := Rat.mul_nonneg h.lo k.lo
  have h2 := Rat.mul_nonneg h.sub.lo k.lo
  have h3 := k.hi
  exact ⟨h1, by grind⟩
theorem Apx.subU {x y : UInt64} {a b e1 e2 : Rat} (hx : Apx x a e1) (hy : Apx y b e2) (h : U01 a) (k : U01 b) (he : e1 + e2 ≤ 1) : Apx (Float64.sub x y) (a - b) (e1 + e2 + eps) := hx.subB hy (bl4 h.lo) (bh4 h.hi) (bl4 k.lo) (bh4 k.hi) he
theorem Apx.mulU {x y : UInt64} {a b e1 e2 : Rat} (hx : Apx x a e1) (hy : Apx y b e2) (h : U01 a) (k : U01 b) (hb : 1 * 1 + (1 * e2 + 1 * e1 + e1 * e2) ≤ 16) : Apx (Float64.mul x y) (a * b) (1 * e2 + 1 * e1 + e1 * e2 + eps) := hx.mul hy (bl1 h.lo) h.hi (bl1 k.lo) k.hi hb
end
section
open PySem.Float64
noncomputable def fr (n : Nat) : UInt64 := ofFrac false n 65536
theorem fr_rv {n : Nat} (h : n ≤ 65536) : Apx (fr n) ((n : Rat) / 65536) 0 := by
  obtain ⟨f, v⟩ := frac_rv (neg := false) h
  refine .exact f ?_
  rw [fr, v]
  simp only [sgn, Bool.false_eq_true, if_false]
  push_cast; rfl
theorem fr_lt {a b : Nat} (ha : a ≤ 65536) (hb : b ≤ 65536) : (rv (fr a) < rv (fr b)) ↔ a < b := by
  rw [(fr_rv ha).eq, (fr_rv hb).eq]
  constructor
  · intro h
    have : (a : Rat) < b := by grind
    exact_mod_cast this
  · intro h
    have : (a : Rat) < b := by exact_mod_cast h
    grind
theorem fr_eq {a b : Nat} (ha : a ≤ 65536) (hb : b ≤ 65536) : (rv (fr a) = rv (fr b)) ↔ a = b := by
  rw [(fr_rv ha).eq, (fr_rv hb).eq]
  constructor
  · intro h
    have : (a : Rat) = b := by grind
    exact_mod_cast this
  · intro h; rw [h]
theorem gtF_fr {a b : Nat} (ha : a ≤ 65536) (hb : b ≤ 65536) : gtF (fr a) (fr b) = decide (b < a) := by
  have h := (cmp_rv (fr_rv ha).fin (fr_rv hb).fin).2.2
  show (cmp _ _ == some .gt) = _
  rw [h]
  exact decide_eq_decide.mpr (fr_lt hb ha)
theorem ltF_fr {a b : Nat} (ha : a ≤ 65536) (hb : b ≤ 65536) : ltF (fr a) (fr b) = decide (a < b) := by
  have h := (cmp_rv (fr_rv ha).fin (fr_rv hb).fin).1
  show (cmp _ _ == some .lt) = _
  rw [h]
  exact decide_eq_decide.mpr (fr_lt ha hb)
theorem eqF_fr {a b : Nat} (ha : a ≤ 65536) (hb : b ≤ 65536) : eqF (fr a) (fr b) = decide (a = b) := by
  have h := (cmp_rv (fr_rv ha).fin (fr_rv hb).fin).2.1
  show (cmp _ _ == some .eq) = _
  rw [h]
  exact decide_eq_decide.mpr (fr_eq ha hb)
noncomputable def mxN (a b c : Nat) : Nat := let m := if a < b then b else a; if m < c then c else m
noncomputable def mnN (a b c : Nat) : Nat := let m := if b < a then b else a; if c < m then c else m
theorem mxF_fr {a b c : Nat} (ha : a ≤ 65536) (hb : b ≤ 65536) (hc : c ≤ 65536) : mxF (fr a) (fr b) (fr c) = fr (mxN a b c) := by
  unfold mxF mxN
  dsimp only
  rw [gtF_fr hb ha]
  by_cases h : a < b
  · simp only [h, decide_true, if_true]
    rw [gtF_fr hc hb]
    by_cases h2 : b < c <;> simp [h2]
  · simp only [h, decide_false, Bool.false_eq_true, if_false]
    rw [gtF_fr hc ha]
    by_cases h2 : a < c <;> simp [h2]
theorem mnF_fr {a b c : Nat} (ha : a ≤ 65536) (hb : b ≤ 65536) (hc : c ≤ 65536) : mnF (fr a) (fr b) (fr c) = fr (mnN a b c) := by
  unfold mnF mnN
  dsimp only
  rw [ltF_fr hb ha]
  by_cases h : b < a
  · simp only [h, decide_true, if_true]
    rw [ltF_fr hc hb]
    by_cases h2 : c < b <;> simp [h2]
  · simp only [h, decide_false, Bool.false_eq_true, if_false]
    rw [ltF_fr hc ha]
    by_cases h2 : c < a <;> simp [h2]
theorem mx2 (a b : Nat) : a ≤ (if a < b then b else a) ∧ b ≤ (if a < b then b else a) ∧ ((if a < b then b else a) = a ∨ (if a < b then b else a) = b) := by
  split
  · rename_i h; exact ⟨Nat.le_of_lt h, Nat.le_refl _, .inr rfl⟩
  · rename_i h; exact ⟨Nat.le_refl _, Nat.le_of_not_lt h, .inl rfl⟩
theorem mn2 (a b : Nat) : (if b < a then b else a) ≤ a ∧ (if b < a then b else a) ≤ b ∧ ((if b < a then b else a) = a ∨ (if b < a then b else a) = b) := by
  split
  · rename_i h; exact ⟨Nat.le_of_lt h, Nat.le_refl _, .inr rfl⟩
  · rename_i h; exact ⟨Nat.le_refl _, Nat.le_of_not_lt h, .inl rfl⟩
theorem mx_facts (a b c : Nat) : a ≤ mxN a b c ∧ b ≤ mxN a b c ∧ c ≤ mxN a b c ∧ (mxN a b c = a ∨ mxN a b c = b ∨ mxN a b c = c) := by
  obtain ⟨p1, p2, p3⟩ := mx2 a b
  obtain ⟨q1, q2, q3⟩ := mx2 (if a < b then b else a) c
  refine ⟨Nat.le_trans p1 q1, Nat.le_trans p2 q1, q2, ?_⟩
  rcases q3 with e | e
  · rcases p3 with e' | e'
    · exact .inl (e.trans e')
    · exact .inr (.inl (e.trans e'))
  · exact .inr (.inr e)
theorem mn_facts (a b c : Nat) : mnN a b c ≤ a ∧ mnN a b c ≤ b ∧ mnN a b c ≤ c ∧ (mnN a b c = a ∨ mnN a b c = b ∨ mnN a b c = c) := by
  obtain ⟨p1, p2, p3⟩ := mn2 a b
  obtain ⟨q1, q2, q3⟩ := mn2 (if b < a then b else a) c
  refine ⟨Nat.le_trans q1 p1, Nat.le_trans q1 p2, q2, ?_⟩
  rcases q3 with e | e
  · rcases p3 with e' | e'
    · exact .inl (e.trans e')
    · exact .inr (.inl (e.trans e'))
  · exact .inr (.inr e)
theorem sub_fr {a b : Nat} (ha : a ≤ 65536) (hb : b ≤ a) : Apx (Float64.sub (fr a) (fr b)) (((a : Rat) - b) / 65536) 0 := by
  have hb' : b ≤ 65536 := Nat.le_trans hb ha
  have xa := fr_rv ha
  have xb := fr_rv hb'
  have e1 := xa.eq
  have e2 := xb.eq
  have c1 : (a : Rat) ≤ 65536 := by exact_mod_cast ha
  have c2 : (b : Rat) ≤ a := by exact_mod_cast hb
  have c3 : (0 : Rat) ≤ b := Rat.natCast_nonneg
  obtain ⟨f, _, _, x⟩ := sub_rv xa.fin xb.fin (by rw [e1, e2]; grind) (by rw [e1, e2]; grind)
  have hf : Few (rv (fr a) - rv (fr b)) := by
    refine ⟨((a : Int) - b) * 16777216, by lia, ?_⟩
    rw [e1, e2]
    push_cast
    grind
  refine .exact f ?_
  rw [x hf, e1, e2]
  grind
theorem nat_bd {n N : Nat} (h : n ≤ N) : (0 : Rat) ≤ n ∧ (n : Rat) ≤ N := ⟨Rat.natCast_nonneg, by exact_mod_cast h⟩
theorem part_rv {M m n : Nat} (hM : M ≤ 65536) (hn : n ≤ M) (hm : m ≤ n) (hR : m < M) : Apx (Float64.div (Float64.sub (fr M) (fr n)) (Float64.sub (fr M) (fr m))) (((M : Rat) - n) / ((M : Rat) - m)) eps ∧ 0 ≤ ((M : Rat) - n) / ((M : Rat) - m) ∧ ((M : Rat) - n) / ((M : Rat) - m) ≤ 1 := by
  have x1 := sub_fr hM hn
  have x2 := sub_fr hM (Nat.le_of_lt hR)
  have c1 : (n : Rat) ≤ M := by exact_mod_cast hn
  have c2 : (m : Rat) ≤ n := by exact_mod_cast hm
  have c3 : (m : Rat) < M := by exact_mod_cast hR
  have hpos : (0 : Rat) < (M : Rat) - m := by grind
  have hne : (M : Rat) - m ≠ 0 := Rat.ne_of_gt hpos
  have b0 : 0 ≤ ((M : Rat) - n) / ((M : Rat) - m) := by
    refine Rat.le_of_mul_le_mul_right (c := (M : Rat) - m) ?_ hpos
    rw [Rat.div_mul_cancel hne]; grind
  have b1 : ((M : Rat) - n) / ((M : Rat) - m) ≤ 1 := by
    refine Rat.le_of_mul_le_mul_right (c := (M : Rat) - m) ?_ hpos
    rw [Rat.div_mul_cancel hne]; grind
  have e : (((M : Rat) - n) / 65536) / (((M : Rat) - m) / 65536) = ((M : Rat) - n) / ((M : Rat) - m) := by grind
  have h := Apx.div x1 x2 (by grind) (by rw [e]; grind) (by rw [e]; grind)
  rw [e] at h
  exact ⟨h, b0, b1⟩
noncomputable def hueQ (r g b M m : Nat) : Rat := if r = M then ((g : Rat) - b) / ((M : Rat) - m) else if g = M then 2 + ((b : Rat) - r) / ((M : Rat) - m) else 4 + ((r : Rat) - g) / ((M : Rat) - m)
theorem add_bd {c x : Rat} (h : 0 ≤ x) (k : x ≤ 1) (c0 : -7 ≤ c) (c1 : c ≤ 6) : -7 ≤ c + x ∧ c + x ≤ 7 := ⟨by grind, by grind⟩
theorem Apx.subC {x y : UInt64} {a b e1 e2 : Rat} (hx : Apx x a e1) (hy : Apx y b e2) (a1 : -7 ≤ a) (a2 : a ≤ 7) (b1 : -4 ≤ b) (b2 : b ≤ 4) (he : e1 + e2 ≤ 1) : Apx (Float64.sub x y) (a - b) (e1 + e2 + eps) := hx.sub hy (by grind) (by grind)
theorem hue_rv {r g b : Nat} (hr : r ≤ 65536) (hg : g ≤ 65536) (hb : b ≤ 65536) (hR : mnN r g b < mxN r g b) :
    ∃ z : Nat, z ≤ 1 ∧ Apx (hueF (fr r) (fr g) (fr b) (fr (mxN r g b)) (Float64.sub (fr (mxN r g b)) (fr (mnN r g b)))) (hueQ r g b (mxN r g b) (mnN r g b) / 6 + z) (4 * eps) ∧ -(24 * eps) ≤ hueQ r g b (mxN r g b) (mnN r g b) + 6 * z ∧ hueQ r g b (mxN r g b) (mnN r g b) + 6 * z ≤ 6 + 24 * eps := by
  obtain ⟨m1, m2, m3, m4⟩ := mx_facts r g b
  obtain ⟨n1, n2, n3, n4⟩ := mn_facts r g b
  have hM : mxN r g b ≤ 65536 := by lia
  generalize mxN r g b = M at *
  generalize mnN r g b = m at *
  obtain ⟨xr, r0, r1⟩ := part_rv hM m1 n1 hR
  obtain ⟨xg, g0, g1⟩ := part_rv hM m2 n2 hR
  obtain ⟨xb, b0, b1⟩ := part_rv hM m3 n3 hR
  have c3 : (m : Rat) < M := by exact_mod_cast hR
  have hpos : (0 : Rat) < (M : Rat) - m := by grind
  have hne : (M : Rat) - m ≠ 0 := Rat.ne_of_gt hpos
  have key : ∃ x, hueF (fr r) (fr g) (fr b) (fr M) (Float64.sub (fr M) (fr m)) = (divmod (Float64.div x 4618441417868443648) fOne).2 ∧ Apx x (hueQ r g b M m) (4 * eps) ∧ -1 ≤ hueQ r g b M m ∧ hueQ r g b M m ≤ 5 := by
    unfold hueF hueQ
    dsimp only
    rw [eqF_fr hr hM, eqF_fr hg hM]
    by_cases h1 : r = M
    · simp only [h1, decide_true, if_true]
      have e : ((M : Rat) - b) / ((M : Rat) - m) - ((M : Rat) - g) / ((M : Rat) - m) = ((g : Rat) - b) / ((M : Rat) - m) := by grind
      have x := Apx.subU xb xg ⟨b0, b1⟩ ⟨g0, g1⟩ (by decide +kernel)
      rw [e] at x
      refine ⟨_, rfl, x.mono (by decide +kernel), ?_, ?_⟩ <;> rw [← e] <;> grind
    · simp only [h1, decide_false, Bool.false_eq_true, if_false]
      by_cases h2 : g = M
      · simp only [h2, decide_true, if_true]
        have e : 2 + ((M : Rat) - r) / ((M : Rat) - m) - ((M : Rat) - b) / ((M : Rat) - m) = 2 + ((b : Rat) - r) / ((M : Rat) - m) := by grind
        have x := Apx.subC (Apx.addB two_rv xr (by decide +kernel) (by decide +kernel) (bl4 r0) (bh4 r1) (by decide +kernel)) xb (add_bd (c := 2) r0 r1 (by decide +kernel) (by decide +kernel)).1 (add_bd (c := 2) r0 r1 (by decide +kernel) (by decide +kernel)).2 (bl4 b0) (bh4 b1) (by decide +kernel)
        rw [e] at x
        refine ⟨_, rfl, x.mono (by decide +kernel), ?_, ?_⟩ <;> rw [← e] <;> grind
      · simp only [h2, decide_false, Bool.false_eq_true, if_false]
        have e : 4 + ((M : Rat) - g) / ((M : Rat) - m) - ((M : Rat) - r) / ((M : Rat) - m) = 4 + ((r : Rat) - g) / ((M : Rat) - m) := by grind
        have x := Apx.subC (Apx.addB four_rv xg (by decide +kernel) (by decide +kernel) (bl4 g0) (bh4 g1) (by decide +kernel)) xr (add_bd (c := 4) g0 g1 (by decide +kernel) (by decide +kernel)).1 (add_bd (c := 4) g0 g1 (by decide +kernel) (by decide +kernel)).2 (bl4 r0) (bh4 r1) (by decide +kernel)
        rw [e] at x
        refine ⟨_, rfl, x.mono (by decide +kernel), ?_, ?_⟩ <;> rw [← e] <;> grind
  obtain ⟨x, e, ax, l1, l2⟩ := key
  rw [e]
  generalize hueQ r g b M m = H at *
  have x6 := Apx.divc ax six_rv (by decide +kernel) (by grind) (by grind)
  have x6 : Apx (Float64.div x 4618441417868443648) (H / 6) (2 * eps) := x6.mono (by decide +kernel)
  generalize Float64.div x 4618441417868443648 = y at x6
  have q1 := x6.lo
  have q2 := x6.hi
  by_cases hs : 0 ≤ rv y
  · obtain ⟨f, n, e1, e2, e3⟩ := mod_pos x6.fin hs
    have hn : n = 0 := by
      have h5 : (n : Rat) < 1 := by grind
      have h6 : n < 1 := by exact_mod_cast h5
      lia
    subst hn
    refine ⟨0, by decide, ⟨f, ?_, ?_⟩, ?_, ?_⟩
    · rw [e1]; push_cast; grind
    · rw [e1]; push_cast; grind
    · push_cast; grind
    · push_cast; grind
  · have hs := Rat.not_le.mp hs
    obtain ⟨e1, f, e2⟩ := mod_neg x6.fin hs (by grind)
    have z : Apx (fmod y fOne) (H / 6) (2 * eps) := ⟨f, by rw [e2]; exact q1, by rw [e2]; exact q2⟩
    have w := Apx.add z fone_rv (by grind) (by grind)
    rw [e1]
    refine ⟨1, by decide, ?_, ?_, ?_⟩
    · have := w.mono (e' := 4 * eps) (by decide +kernel)
      push_cast
      exact this
    · push_cast; grind
    · push_cast; grind
end
section
open PySem.Float64
noncomputable def rot3 {α : Type} (j : Nat) (t : α × α × α) : α × α × α := if j % 3 = 0 then t else if j % 3 = 1 then (t.2.2, t.1, t.2.1) else (t.2.1, t.2.2, t.1)
theorem hue_split {r g b : Nat} (hR : mnN r g b < mxN r g b) : ∃ a u v : Nat, a ≤ 2 ∧ rot3 a (mxN r g b, u, v) = (r, g, b) ∧ hueQ r g b (mxN r g b) (mnN r g b) = 2 * (a : Rat) + ((u : Rat) - v) / ((mxN r g b : Rat) - mnN r g b)
    ∧ (u = mnN r g b ∨ v = mnN r g b) ∧ mnN r g b ≤ u ∧ u ≤ mxN r g b ∧ mnN r g b ≤ v ∧ v ≤ mxN r g b := by
  obtain ⟨m1, m2, m3, m4⟩ := mx_facts r g b
  obtain ⟨n1, n2, n3, n4⟩ := mn_facts r g b
  generalize mxN r g b = M at *
  generalize mnN r g b = m at *
  unfold hueQ
  by_cases h1 : r = M
  · refine ⟨0, g, b, by decide, ?_, ?_, by lia, n2, m2, n3, m3⟩
    · subst h1; rfl
    · rw [if_pos h1]; push_cast; grind
  · by_cases h2 : g = M
    · refine ⟨1, b, r, by decide, ?_, ?_, by lia, n3, m3, n1, m1⟩
      · subst h2; rfl
      · rw [if_neg h1, if_pos h2]; push_cast; grind
    · refine ⟨2, r, g, by decide, ?_, ?_, by lia, n1, m1, n2, m2⟩
      · have h3 : b = M := by lia
        subst h3; rfl
      · rw [if_neg h1, if_neg h2]; push_cast; grind
structure Hat (M m u v : Rat) : Prop where
  m0 : 0 ≤ m
  M1 : M ≤ 1
  mM : m < M
  uv : u = m ∨ v = m
  mu : m ≤ u
  uM : u ≤ M
  mv : m ≤ v
  vM : v ≤ M
noncomputable def Near3 (o : UInt64 × UInt64 × UInt64) (t : Rat × Rat × Rat) (e : Rat) : Prop := Apx o.1 t.1 e ∧ Apx o.2.1 t.2.1 e ∧ Apx o.2.2 t.2.2 e
theorem isZero_rv {x : UInt64} (hx : IsFin x) : isZero x = decide (rv x = 0) := by
  rw [isZero_val hx]
  apply decide_eq_decide.mpr
  unfold rv
  constructor
  · intro h; rw [h]; grind
  · intro h
    have hU : (UU : Rat) ≠ 0 := Rat.ne_of_gt UU_gt
    have : (val x : Rat) = 0 := by
      have := Rat.div_mul_cancel (a := (val x : Rat)) hU
      rw [h] at this; grind
    exact_mod_cast this
theorem eqF_zero {x : UInt64} (hx : IsFin x) (h : 0 < rv x) : eqF x 0 = false := by
  have h1 := (cmp_rv hx zero_rv'.1).2.1
  show (cmp _ _ == some .eq) = _
  rw [h1, zero_rv'.2]
  exact decide_eq_false (Rat.ne_of_gt h)
theorem near_hsv {M m u v P ρ : Rat} {c i : Nat} {xp xq xt xv : UInt64} (H : Hat M m u v)
    (hP : P = (2 * (c : Rat) - i) * (M - m) + (u - v) + ρ) (p0 : 0 ≤ P) (p1 : P ≤ M - m) (r0 : -(64 * eps) ≤ ρ) (r1 : ρ ≤ 64 * eps)
    (i0 : (2 * c : Int) - i = -1 ∨ (2 * c : Int) - i = 0 ∨ (2 * c : Int) - i = 1 ∨ (2 * c : Int) - i = 2)
    (hp : Apx xp m (16 * eps)) (hq : Apx xq (M - P) (16 * eps)) (ht : Apx xt (m + P) (16 * eps)) (hv : Apx xv M 0) :
    Near3 (if (i : Int).fmod 6 == 0 then (xv, xt, xp) else if (i : Int).fmod 6 == 1 then (xq, xv, xp) else if (i : Int).fmod 6 == 2 then (xp, xv, xt) else if (i : Int).fmod 6 == 3 then (xp, xq, xv) else if (i : Int).fmod 6 == 4 then (xt, xp, xv) else (xv, xp, xq)) (rot3 c (M, u, v)) (256 * eps) := by
  obtain ⟨m0, M1, mM, uv, mu, uM, mv, vM⟩ := H
  have hc : c % 3 = 0 ∨ c % 3 = 1 ∨ c % 3 = 2 := by lia
  have hf : (i : Int).fmod 6 = ((i % 6 : Nat) : Int) := by
    rw [Int.fmod_eq_emod_of_nonneg _ (by decide)]; lia
  have hD : ∀ z : Int, (2 * c : Int) - i = z → 2 * (c : Rat) - i = (z : Rat) := fun z h => by rw [← h]; push_cast; rfl
  have key : ∀ (n : Nat), i % 6 = n → (i : Int).fmod 6 = (n : Int) := fun n h => by rw [hf, h]
  have hm6 : ∀ δ : Int, (2 * c : Int) - i = δ → (i : Int).fmod 6 = (2 * ((c % 3 : Nat) : Int) - δ) % 6 := fun δ h => by
    rw [hf]; clear hP hp hq ht hv m0 M1 mM uv mu uM mv vM hc hD key hf; lia
  unfold Near3 rot3
  rcases hc with h | h | h <;> rcases i0 with k | k | k | k
  all_goals (rw [hD _ k] at hP)
  all_goals (rw [hm6 _ k, h]; clear hm6 hD key hf)
  all_goals simp only [h, if_true, if_false, Int.reduceBEq, Nat.reduceEqDiff, Bool.false_eq_true, show ((1 : Nat) : Int) = 1 from rfl, show ((2 : Nat) : Int) = 2 from rfl, show ((3 : Nat) : Int) = 3 from rfl, show ((4 : Nat) : Int) = 4 from rfl, show ((5 : Nat) : Int) = 5 from rfl, show ((0 : Nat) : Int) = 0 from rfl, beq_self_eq_true]
  all_goals refine ⟨?_, ?_, ?_⟩
  all_goals first
    | exact hv.to (by grind) (by grind)
    | exact hp.to (by grind) (by grind)
    | exact hq.to (by grind) (by grind)
    | exact ht.to (by grind) (by grind)
theorem Apx.zero_of {x : UInt64} {a e : Rat} (h : Apx x a e) (hp : 0 < a - e) : eqF x 0 = false := eqF_zero h.fin (by have := h.lo; grind)
theorem hat_of {M m u v : Nat} (hM : M ≤ 65536) (hR : m < M) (h1 : u = m ∨ v = m) (h2 : m ≤ u) (h3 : u ≤ M) (h4 : m ≤ v) (h5 : v ≤ M) : Hat ((M : Rat) / 65536) ((m : Rat) / 65536) ((u : Rat) / 65536) ((v : Rat) / 65536) := by
  have a1 := (nat_bd hM).2
  have a2 : (m : Rat) < M := by exact_mod_cast hR
  have a3 : (m : Rat) ≤ u := by exact_mod_cast h2
  have a4 : (u : Rat) ≤ M := by exact_mod_cast h3
  have a5 : (m : Rat) ≤ v := by exact_mod_cast h4
  have a6 : (v : Rat) ≤ M := by exact_mod_cast h5
  have a0 : (0 : Rat) ≤ m := Rat.natCast_nonneg
  refine ⟨by grind, by push_cast at a1; grind, by grind, ?_, by grind, by grind, by grind, by grind⟩
  rcases h1 with h | h
  · left; rw [h]
  · right; rw [h]
theorem hue_turn {h κ : UInt64} {Q : Rat} {k z : Nat} (hz : z ≤ 1) (hh : Apx h (Q / 6 + z) (4 * eps)) (b0 : -(24 * eps) ≤ Q + 6 * z) (b1 : Q + 6 * z ≤ 6 + 24 * eps) (hk : k ≤ 4) (hκ : Apx κ ((k : Rat) / 3) (4 * eps)) : Apx (Float64.add h κ) ((Q + 6 * z + 2 * k) / 6) (9 * eps) := by
  obtain ⟨k0, k4⟩ := nat_bd hk
  push_cast at k4
  have x := Apx.add hh hκ (by grind) (by grind)
  have e : Q / 6 + z + (k : Rat) / 3 = (Q + 6 * z + 2 * k) / 6 := by grind
  rw [e] at x
  exact x.mono (by decide +kernel)
theorem four_of {D : Int} (h1 : -2 < D) (h2 : D < 3) : D = -1 ∨ D = 0 ∨ D = 1 ∨ D = 2 := by lia
theorem vsh_near {h s v : UInt64} {M m u w ω Q : Rat} {a k z : Nat} (H : Hat M m u w) (hQ : Q = 2 * (a : Rat) + ω) (hω : (M - m) * ω = u - w) (ω0 : -1 ≤ ω) (ω1 : ω ≤ 1) (ha : a ≤ 2) (hz : z ≤ 1) (hk1 : 1 ≤ k) (hk : k ≤ 2)
    (hh : Apx h ((Q + 6 * z + 2 * k) / 6) (9 * eps)) (b0 : -(24 * eps) ≤ Q + 6 * z) (b1 : Q + 6 * z ≤ 6 + 24 * eps)
    (hs : Apx s ((M - m) / M) eps) (hs0 : eqF s 0 = false) (hv : Apx v M 0) :
    Near3 (vshF h s v) (rot3 (a + k) (M, u, w)) (256 * eps) ∧ IsFin (Float64.mul h 4618441417868443648) ∧ (PySem.Flt.toInt Float64.truncOf (Float64.mul h 4618441417868443648)).natAbs ≤ 16 := by
  obtain ⟨k1, k2⟩ := nat_bd hk
  push_cast at k2
  have k3 : (1 : Rat) ≤ k := by exact_mod_cast hk1
  have hM : 0 < M := by have := H.m0; have := H.mM; grind
  have hMn : M ≠ 0 := Rat.ne_of_gt hM
  obtain ⟨m0, M1, mM, uv, mu, uM, mv, vM⟩ := id H
  generalize hX : Q + 6 * z + 2 * k = X at *
  have x6 : Apx (Float64.mul h 4618441417868443648) X (64 * eps) := by
    have x := Apx.mul (A := 5 / 2) (B := 6) hh six_rv (by clear hω ω0 ω1 hQ hs hs0 hv hM hMn m0 M1 mM uv mu uM mv vM H hh; grind) (by clear hω ω0 ω1 hQ hs hs0 hv hM hMn m0 M1 mM uv mu uM mv vM H hh; grind) (by decide +kernel) (by decide +kernel) (by decide +kernel)
    rw [show X / 6 * 6 = X by grind] at x
    exact x.mono (by decide +kernel)
  generalize hy : Float64.mul h 4618441417868443648 = y at *
  have y0 := x6.lo
  have y1 := x6.hi
  obtain ⟨i, ei, i0, i1⟩ := trunc_rv x6.fin (by grind)
  have i12 : i ≤ 16 := by
    have : (i : Rat) < 16 := by grind
    have : i < 16 := by exact_mod_cast this
    lia
  refine ⟨?_, x6.fin, by rw [ei]; lia⟩
  have iR := int_rv (i := (i : Int)) (by rw [Int.natAbs_natCast]; exact Nat.le_trans i12 (by decide))
  have xi : Apx (ofInt i) (i : Rat) 0 := .exact iR.1 (by rw [iR.2]; push_cast; rfl)
  obtain ⟨j0, j1⟩ := nat_bd i12
  push_cast at j1
  have yy : Apx y (rv y) 0 := .exact x6.fin rfl
  have xf := Apx.sub yy xi (by grind) (by grind)
  have xf : Apx (Float64.sub y (ofInt i)) (rv y - i) eps := xf.mono (by decide +kernel)
  generalize hφ : rv y - (i : Rat) = φ at *
  have φ0 : 0 ≤ φ := by grind
  have φ1 : φ ≤ 1 := by grind
  generalize hS : (M - m) / M = S at *
  have hMS : M * S = M - m := by rw [← hS]; grind
  have hSb : 0 ≤ S ∧ S ≤ 1 := by
    constructor
    · refine Rat.le_of_mul_le_mul_right (c := M) ?_ hM; grind
    · refine Rat.le_of_mul_le_mul_right (c := M) ?_ hM; grind
  obtain ⟨S0, S1⟩ := hSb
  have one := fone_rv
  have uM1 : U01 M := ⟨Rat.le_of_lt hM, M1⟩
  have uS : U01 S := ⟨S0, S1⟩
  have uφ : U01 φ := ⟨φ0, φ1⟩
  have uR : U01 (M - m) := by clear hω hQ hh b0 b1 hs hv x6 xi yy xf hX hy hφ hS hMS uS uφ one H iR ei i0 i1 y0 y1; exact ⟨by grind, by grind⟩
  have xp0 := Apx.subU one hs U01.one uS (by decide +kernel)
  have xp := Apx.mulU hv xp0 uM1 uS.sub (by decide +kernel)
  rw [show M * (1 - S) = m by grind] at xp
  replace xp := xp.mono (e' := 16 * eps) (by decide +kernel)
  have usφ := uS.mul uφ
  have xsf := Apx.mulU hs xf uS uφ (by decide +kernel)
  replace xsf := xsf.mono (e' := 4 * eps) (by decide +kernel)
  have xq0 := Apx.subU one xsf U01.one usφ (by decide +kernel)
  have xq := Apx.mulU hv xq0 uM1 usφ.sub (by decide +kernel)
  generalize hPd : (M - m) * φ = P at *
  rw [show M * (1 - S * φ) = M - P by grind] at xq
  replace xq := xq.mono (e' := 16 * eps) (by decide +kernel)
  have xg := Apx.subU one xf U01.one uφ (by decide +kernel)
  have usg := uS.mul uφ.sub
  have xsg := Apx.mulU hs xg uS uφ.sub (by decide +kernel)
  replace xsg := xsg.mono (e' := 5 * eps) (by decide +kernel)
  have xt0 := Apx.subU one xsg U01.one usg (by decide +kernel)
  have xt := Apx.mulU hv xt0 uM1 usg.sub (by decide +kernel)
  rw [show M * (1 - S * (1 - φ)) = m + P by grind] at xt
  replace xt := xt.mono (e' := 16 * eps) (by decide +kernel)
  have P0 : 0 ≤ P := by rw [← hPd]; exact Rat.mul_nonneg uR.lo φ0
  have P1 : P ≤ M - m := by
    have := Rat.mul_nonneg uR.lo uφ.sub.lo
    clear hω hQ hh b0 b1 hs hv x6 xi yy xf hX hy hφ hS hMS uS uφ one H iR ei i0 i1 y0 y1 xp xq xt xp0 xq0 xt0 xsf xsg xg uR usφ usg P0
    grind
  have hd : ∃ d, rv y = X + d ∧ -(64 * eps) ≤ d ∧ d ≤ 64 * eps := ⟨rv y - X, by grind, by grind, by grind⟩
  obtain ⟨d, hd, d0, d1⟩ := hd
  have hr := prod_bd (p := M - m) (q := d) (P := 1) (Q := 64 * eps) (bl1 uR.lo) uR.hi d0 d1
  clear uM1 uS uφ uR usφ usg one xp0 xq0 xt0 xsf xsg xg xf xi yy
  have hcX : X = 2 * ((a + 3 * z + k : Nat) : Rat) + ω := by push_cast; grind
  have hP : P = (2 * ((a + 3 * z + k : Nat) : Rat) - i) * (M - m) + (u - w) + (M - m) * d := by
    rw [← hPd, ← hφ, hd, hcX]; grind
  have hD : (2 * (a + 3 * z + k : Nat) : Int) - i = -1 ∨ (2 * (a + 3 * z + k : Nat) : Int) - i = 0 ∨ (2 * (a + 3 * z + k : Nat) : Int) - i = 1 ∨ (2 * (a + 3 * z + k : Nat) : Int) - i = 2 := by
    have l1 : (((2 * (a + 3 * z + k : Nat) : Int) - i : Int) : Rat) < 3 := by push_cast; push_cast at hcX; grind
    have l2 : ((-2 : Int) : Rat) < (((2 * (a + 3 * z + k : Nat) : Int) - i : Int) : Rat) := by push_cast; push_cast at hcX; grind
    have l1 : ((2 * (a + 3 * z + k : Nat) : Int) - i : Int) < 3 := by exact_mod_cast l1
    have l2 : (-2 : Int) < ((2 * (a + 3 * z + k : Nat) : Int) - i : Int) := by exact_mod_cast l2
    exact four_of l2 l1
  have hn := near_hsv (c := a + 3 * z + k) H hP P0 P1 (by grind) (by grind) hD xp xq xt hv
  have hrot : rot3 (a + k) (M, u, w) = rot3 (a + 3 * z + k) (M, u, w) := by unfold rot3; rw [Nat.add_right_comm, Nat.add_mul_mod_self_left]
  unfold vshF
  rw [hs0, hrot]
  simp only [Bool.false_eq_true, if_false, hy, ei]
  exact hn
end
section
open PySem.Float64
theorem ltF_rv {x y : UInt64} (hx : IsFin x) (hy : IsFin y) : ltF x y = decide (rv x < rv y) := by
  have h := (cmp_rv hx hy).1
  show (cmp _ _ == some .lt) = _
  exact h
theorem leF_rv {x y : UInt64} (hx : IsFin x) (hy : IsFin y) : leF x y = decide (rv x ≤ rv y) := by
  obtain ⟨h1, h2, _⟩ := cmp_rv hx hy
  have e : leF x y = ((cmp x y == some .lt) || (cmp x y == some .eq)) := by
    rfl
  rw [e, h1, h2]
  by_cases h : rv x < rv y
  · simp [h, Rat.le_of_lt h]
  · by_cases g : rv x = rv y
    · simp [h, g, Rat.le_refl]
    · simp only [h, g, decide_false, Bool.or_false]
      exact (decide_eq_false (by clear e h2 h1 hy hx; grind)).symm
theorem mod_near {x : UInt64} {a e : Rat} (h : Apx x a e) (h1 : -1 < a - e) (e0 : 0 ≤ e) (e1 : e ≤ 1 / 4) (e2 : eps ≤ e) : ∃ t : Int, Apx (divmod x fOne).2 (a + t) (2 * e) ∧ -(2 * e) ≤ a + t ∧ a + t ≤ 1 + 2 * e := by
  have q1 := h.lo
  have q2 := h.hi
  by_cases hs : 0 ≤ rv x
  · obtain ⟨f, n, r1, r2, r3⟩ := mod_pos h.fin hs
    refine ⟨-(n : Int), ⟨f, ?_, ?_⟩, ?_, ?_⟩ <;> push_cast <;> (clear f hs e2 e1 h1 h; grind)
  · have hs := Rat.not_le.mp hs
    obtain ⟨r1, f, r2⟩ := mod_neg h.fin hs (by clear hs q2 e2 e1 e0 h; grind)
    have z : Apx (fmod x fOne) a e := ⟨f, by rw [r2]; exact q1, by rw [r2]; exact q2⟩
    have w := Apx.add z fone_rv (by clear z r2 f r1 hs q2 q1 e2 e1 e0 h; grind) (by clear z r2 f r1 hs q2 e2 e0 h1 h; grind)
    refine ⟨1, ?_, ?_, ?_⟩
    · rw [r1]; push_cast; exact w.mono (by clear w z r2 f r1 hs q2 q1 e1 e0 h1 h; grind)
    · push_cast; (clear w z r2 f r1 hs q2 q1 e2 e1 h; grind)
    · push_cast; (clear w z r2 f r1 hs q2 e2 e1 h1 h; grind)
noncomputable def val3 {α : Type} (c : Nat) (M u v : α) : α := if c % 3 = 0 then u else if c % 3 = 1 then M else v
theorem vF_near {M m u v ω : Rat} {x1 x2 h : UInt64} {c : Nat} (H : Hat M m u v) (hω : (M - m) * ω = u - v) (ω0 : -1 ≤ ω) (ω1 : ω ≤ 1)
    (h1 : Apx x1 m (16 * eps)) (h2 : Apx x2 M (16 * eps)) (hc : c ≤ 12) (hh : Apx h ((2 * ((c : Rat) - 1) + ω) / 6) (16 * eps)) :
    Apx (vF x1 x2 h) (val3 (c + 2) M u v) (2048 * eps) := by
  obtain ⟨m0, M1, mM, uv, mu, uM, mv, vM⟩ := id H
  obtain ⟨c0, c1⟩ := nat_bd hc
  push_cast at c1
  obtain ⟨t, hm, t0, t1⟩ := mod_near hh (by clear c1 c0 vM mv uM mu uv mM M1 m0 hh hc h2 h1 ω1 hω H; grind) (by decide +kernel) (by decide +kernel) (by decide +kernel)
  generalize hg : (2 * ((c : Rat) - 1) + ω) / 6 + (t : Rat) = Y at *
  obtain ⟨D, hD⟩ : ∃ D : Int, D = (c : Int) - 1 + 3 * t := ⟨_, rfl⟩
  have hY : 6 * Y = 2 * (D : Rat) + ω := by rw [← hg, hD]; push_cast; (clear hD t1 t0 hm hg c1 c0 vM mv uM mu uv mM M1 m0 hh hc h2 h1 ω1 ω0 hω H; grind)
  have l1 : (D : Rat) < ((4 : Int) : Rat) := by push_cast; (clear hD t0 hm hg c1 c0 vM mv uM mu uv mM M1 m0 hh hc h2 h1 ω1 hω H; grind)
  have l2 : ((-1 : Int) : Rat) < (D : Rat) := by push_cast; (clear l1 hD t1 hm hg c1 c0 vM mv uM mu uv mM M1 m0 hh hc h2 h1 ω0 hω H; grind)
  have l1 : D < 4 := by exact_mod_cast l1
  have l2 : (-1 : Int) < D := by exact_mod_cast l2
  have hR : 0 ≤ M - m := by clear l2 l1 hY hD t1 t0 hm hg c1 c0 vM mv uM mu uv M1 m0 hh hc h2 h1 ω1 ω0 hω H; grind
  have F1 : -(256 * eps) ≤ ω → -(256 * eps) ≤ u - v := fun q => by
    have := Rat.mul_nonneg hR (show 0 ≤ ω + 256 * eps by clear hR l2 l1 hY hD t1 t0 hm hg c1 c0 vM mv uM mu uv mM M1 m0 hh hc h2 h1 ω1 ω0 hω H; grind); (clear q hR l2 l1 hY hD t1 t0 hm hg c1 c0 vM mv uM mu uv mM hh hc h2 h1 ω1 ω0 H; grind)
  have F2 : ω ≤ 256 * eps → u - v ≤ 256 * eps := fun q => by
    have := Rat.mul_nonneg hR (show 0 ≤ 256 * eps - ω by clear F1 hR l2 l1 hY hD t1 t0 hm hg c1 c0 vM mv uM mu uv mM M1 m0 hh hc h2 h1 ω1 ω0 hω H; grind); (clear q F1 hR l2 l1 hY hD t1 t0 hm hg c1 c0 vM mv uM mu uv mM hh hc h2 h1 ω1 ω0 H; grind)
  have F3 : 1 - 256 * eps ≤ ω → M - m - 256 * eps ≤ u - v := fun q => by
    have := Rat.mul_nonneg hR (show 0 ≤ ω - (1 - 256 * eps) by clear F2 F1 hR l2 l1 hY hD t1 t0 hm hg c1 c0 vM mv uM mu uv mM M1 m0 hh hc h2 h1 ω1 ω0 hω H; grind); (clear q F2 F1 hR l2 l1 hY hD t1 t0 hm hg c1 c0 vM mv uM mu uv mM hh hc h2 h1 ω1 ω0 H; grind)
  have F4 : ω ≤ -1 + 256 * eps → u - v ≤ -(M - m) + 256 * eps := fun q => by
    have := Rat.mul_nonneg hR (show 0 ≤ -1 + 256 * eps - ω by clear F3 F2 F1 hR l2 l1 hY hD t1 t0 hm hg c1 c0 vM mv uM mu uv mM M1 m0 hh hc h2 h1 ω1 ω0 hω H; grind); (clear q F3 F2 F1 hR l2 l1 hY hD t1 t0 hm hg c1 c0 vM mv uM mu uv mM hh hc h2 h1 ω1 ω0 H; grind)
  have r1 : M - m ≤ 1 := by clear F1 F2 F3 F4 hD hY hg hω hm hh h1 h2 uv mu uM mv vM H t0 t1 l1 l2 c0 c1; (clear hR l2 l1 mM hc ω1 ω0; grind)
  have xr := Apx.subB h2 h1 (bl4 (Rat.le_trans m0 (Rat.le_of_lt mM))) (bh4 M1) (bl4 m0) (bh4 (Rat.le_trans (Rat.le_of_lt mM) M1)) (by decide +kernel)
  replace xr := xr.mono (e' := 33 * eps) (by decide +kernel)
  have w1 := hm.lo
  have w2 := hm.hi
  have s1 := sixth_rv.lo
  have s2 := sixth_rv.hi
  have s3 := half_rv.eq
  have s4 := twothird_rv.lo
  have s5 := twothird_rv.hi
  have hv : ∀ z, z = D → (z : Rat) = D := fun z q => by rw [q]
  have D4 : D = 0 ∨ D = 1 ∨ D = 2 ∨ D = 3 := by clear hv s5 s4 s3 s2 s1 w2 w1 xr F4 F3 F2 F1 hR hY t1 t0 hm hg c1 c0 vM mv uM mu uv mM M1 m0 hh hc h2 h1 ω1 ω0 hω H hD; lia
  have hm3 : (((c + 2) % 3 : Nat) : Int) = D % 3 := by clear hv s5 s4 s3 s2 s1 w2 w1 xr F4 F3 F2 F1 hR hY t1 t0 hm hg c1 c0 vM mv uM mu uv mM M1 m0 hh hc h2 h1 ω1 ω0 hω H D4; (clear r1 l2 l1; lia)
  have hk : val3 (c + 2) M u v = if D = 0 ∨ D = 3 then u else if D = 1 then M else v := by
    unfold val3
    rcases D4 with q | q | q | q
    · rw [show (c + 2) % 3 = 0 from Int.ofNat.inj (hm3.trans (by rw [q]; rfl)), q]; rfl
    · rw [show (c + 2) % 3 = 1 from Int.ofNat.inj (hm3.trans (by rw [q]; rfl)), q]; rfl
    · rw [show (c + 2) % 3 = 2 from Int.ofNat.inj (hm3.trans (by rw [q]; rfl)), q]; rfl
    · rw [show (c + 2) % 3 = 0 from Int.ofNat.inj (hm3.trans (by rw [q]; rfl)), q]; rfl
  clear hm3
  rw [hk]
  unfold vF
  dsimp only
  generalize hf : (divmod h 4607182418800017408).2 = f
  rw [show (divmod h fOne).2 = f from hf] at hm w1 w2
  rw [ltF_rv hm.fin sixth_rv.fin, ltF_rv hm.fin half_rv.fin, ltF_rv hm.fin twothird_rv.fin, s3]
  by_cases b1 : rv f < rv 4595172819793696085
  · simp only [b1, decide_true, if_true]
    have y1 : -2 ≤ Y := by clear F1 F2 F3 F4 hD hg hω hm hh h1 h2 uv mu uM mv vM H xr w1 w2 s1 s2 s3 s4 s5 hv hk b1 r1 hR; (clear hf D4 l2 l1 hY t1 c1 c0 mM M1 m0 hc ω1 ω0; grind)
    have y2 : Y ≤ 2 := by clear F1 F2 F3 F4 hD hg hω hm hh h1 h2 uv mu uM mv vM H xr w1 w2 s1 s2 s3 s4 s5 hv hk b1 r1 hR y1; (clear hf D4 l2 l1 hY t0 c1 c0 mM M1 m0 hc ω1 ω0; grind)
    have p1 := Apx.mul (A := 1) (B := 2) xr hm (bl1 hR) r1 y1 y2 (by decide +kernel)
    replace p1 := p1.mono (e' := 100 * eps) (by decide +kernel)
    have pb := prod_bd (p := M - m) (q := Y) (P := 1) (Q := 2) (bl1 hR) r1 y1 y2
    have p2 := Apx.mul (A := 2) (B := 6) p1 six_rv (Rat.le_trans (by decide +kernel) pb.1) (Rat.le_trans pb.2 (by decide +kernel)) (by decide +kernel) (by decide +kernel) (by decide +kernel)
    have e : (M - m) * Y * 6 = 2 * (D : Rat) * (M - m) + (u - v) := by clear p2 pb p1 y2 y1 b1 hf hm w1 w2 hk D4 hv s5 s4 s3 s2 s1 xr r1 F4 F3 F2 F1 hR l2 l1 hD t1 t0 hg c1 c0 vM mv uM mu uv mM M1 m0 hh hc h2 h1 ω1 ω0 H; grind
    rw [e] at p2
    replace p2 := p2.mono (e' := 700 * eps) (by decide +kernel)
    rcases D4 with q | q | q | q <;> subst q
    all_goals push_cast at *
    · have p3 := Apx.add h1 p2 (by clear hk l2 l1 p2 e hv hY hD pb p1 y2 y1 b1 hf hm w1 w2 s5 s4 s3 s2 s1 xr r1 F4 F3 F2 F1 hR t1 t0 hg c1 c0 mv uM uv mM hh hc h2 h1 ω1 ω0 hω H; grind) (by clear hk l2 l1 p2 e hv hY hD pb p1 y2 y1 b1 hf hm w1 w2 s5 s4 s3 s2 s1 xr r1 F4 F3 F2 F1 hR t1 t0 hg c1 c0 vM mu uv mM m0 hh hc h2 h1 ω1 ω0 hω H; grind)
      simp only [true_or, if_true]
      have qq := F1 (by clear F1 F2 F3 F4 uv; (clear p3 hk l2 l1 p2 e hv hD pb p1 y2 y1 b1 hf hm w1 w2 s5 s4 s3 s2 s1 xr r1 hR t1 hg c1 c0 vM mv uM mu mM M1 m0 hh hc h2 h1 ω1 ω0 hω H; grind))
      clear F1 F2 F3 F4
      clear hD hv hk hY hg w1 w2 s1 s2 s3 s4 s5 b1 t0 t1
      exact p3.to (by clear p3 l2 l1 p2 e pb p1 y2 y1 hf hm xr r1 hR c1 c0 vM mv uM mu mM M1 m0 hh hc h2 h1 ω1 ω0 hω H; grind) (by clear qq p3 l2 l1 p2 e pb p1 y2 y1 hf hm xr r1 hR c1 c0 vM uM mu uv mM M1 m0 hh hc h2 h1 ω1 ω0 hω H; grind)
    · have p3 := Apx.add h1 p2 (by clear hk l2 l1 p2 e hv hY hD pb p1 y2 y1 b1 hf hm w1 w2 s5 s4 s3 s2 s1 xr r1 F4 F3 F2 F1 hR t1 t0 hg c1 c0 mv uM uv M1 hh hc h2 h1 ω1 ω0 hω H; grind) (by clear hk l2 l1 p2 e hv hY hD pb p1 y2 y1 b1 hf hm w1 w2 s5 s4 s3 s2 s1 xr r1 F4 F3 F2 F1 hR t1 t0 hg c1 c0 vM mu uv mM hh hc h2 h1 ω1 ω0 hω H; grind)
      simp only [Int.reduceEq, or_self, if_true, if_false]
      have qq := F4 (by clear F1 F2 F3 F4 uv; (clear p3 hk l2 l1 p2 e hv hD pb p1 y2 y1 hf hm w2 s5 s4 s3 s1 xr r1 hR t1 t0 hg c1 c0 vM mv uM mu mM M1 m0 hh hc h2 h1 ω1 ω0 hω H; grind))
      clear F1 F2 F3 F4
      clear hD hv hk hY hg w1 w2 s1 s2 s3 s4 s5 b1 t0 t1
      exact p3.to (by clear qq p3 l2 l1 p2 e pb p1 y2 y1 hf hm xr r1 hR c1 c0 mv uM uv mM M1 m0 hh hc h2 h1 ω1 ω0 hω H; grind) (by clear p3 l2 l1 p2 e pb p1 y2 y1 hf hm xr r1 hR c1 c0 vM mv uM mu uv mM M1 m0 hh hc h2 h1 ω1 ω0 hω H; grind)
    · exfalso; clear F1 F2 F3 F4 uv; (clear hk l2 l1 p2 e hv hD pb p1 y2 y1 hf hm w2 s5 s4 s3 s1 xr r1 hR t1 t0 hg c1 c0 vM mv uM mu mM M1 m0 hh hc h2 h1 ω1 hω H; grind)
    · exfalso; clear F1 F2 F3 F4 uv; (clear hk l2 l1 p2 e hv hD pb p1 y2 y1 hf hm w2 s5 s4 s3 s1 xr r1 hR t1 t0 hg c1 c0 vM mv uM mu mM M1 m0 hh hc h2 h1 ω1 hω H; grind)
  · simp only [b1, decide_false, Bool.false_eq_true, if_false]
    by_cases b2 : rv f < 1 / 2
    · simp only [b2, decide_true, if_true]
      rcases D4 with q | q | q | q <;> subst q
      all_goals push_cast at *
      · simp only [true_or, if_true]
        have qq := F3 (by clear F1 F2 F3 F4 uv; (clear hk l2 l1 hv hD b2 hf hm w1 s5 s4 s3 s2 xr r1 hR t1 t0 hg c1 c0 vM mv uM mu mM M1 m0 hh hc h2 h1 ω1 ω0 hω H; grind))
        clear F1 F2 F3 F4
        clear hD hv hk hY hg w1 w2 s1 s2 s3 s4 s5 b1 t0 t1
        exact h2.to (by clear qq l2 l1 b2 hf hm xr r1 hR c1 c0 vM mv mu uv mM M1 m0 hh hc h2 h1 ω1 ω0 hω H; grind) (by clear l2 l1 b2 hf hm xr r1 hR c1 c0 vM uM mu uv mM M1 m0 hh hc h2 h1 ω1 ω0 hω H; grind)
      · simp only [Int.reduceEq, or_self, if_true, if_false]
        clear F1 F2 F3 F4
        clear hD hv hk hY hg w1 w2 s1 s2 s3 s4 s5 b1 t0 t1
        exact h2.to (by clear l2 l1 b2 hf hm xr r1 hR c1 c0 vM mv uM mu uv mM M1 m0 hh hc h2 h1 ω1 ω0 hω H; grind) (by clear l2 l1 b2 hf hm xr r1 hR c1 c0 vM mv uM mu uv mM M1 m0 hh hc h2 h1 ω1 ω0 hω H; grind)
      · simp only [Int.reduceEq, or_self, if_true, if_false]
        have qq := F4 (by clear F1 F2 F3 F4 uv; (clear hk l2 l1 hv hD b1 hf hm w2 s5 s4 s3 s2 s1 xr r1 hR t1 t0 hg c1 c0 vM mv uM mu mM M1 m0 hh hc h2 h1 ω1 ω0 hω H; grind))
        clear F1 F2 F3 F4
        clear hD hv hk hY hg w1 w2 s1 s2 s3 s4 s5 b1 t0 t1
        exact h2.to (by clear qq l2 l1 b2 hf hm xr r1 hR c1 c0 mv uM mu uv mM M1 m0 hh hc h2 h1 ω1 ω0 hω H; grind) (by clear l2 l1 b2 hf hm xr r1 hR c1 c0 vM mv uM uv mM M1 m0 hh hc h2 h1 ω1 ω0 hω H; grind)
      · exfalso; clear F1 F2 F3 F4 uv; (clear hk l2 l1 hv hD b1 hf hm w2 s5 s4 s3 s2 s1 xr r1 hR t1 t0 hg c1 c0 vM mv uM mu mM M1 m0 hh hc h2 h1 ω1 hω H; grind)
    · simp only [b2, decide_false, Bool.false_eq_true, if_false]
      by_cases b3 : rv f < rv 4604180019048437077
      · simp only [b3, decide_true, if_true]
        have y1 : -2 ≤ Y := by clear F1 F2 F3 F4 hD hg hω hm hh h1 h2 uv mu uM mv vM H xr w1 w2 s1 s2 s3 s4 s5 hv hk b1 b2 b3 r1 hR; (clear hf D4 l2 l1 hY t1 c1 c0 mM M1 m0 hc ω1 ω0; grind)
        have y2 : Y ≤ 2 := by clear F1 F2 F3 F4 hD hg hω hm hh h1 h2 uv mu uM mv vM H xr w1 w2 s1 s2 s3 s4 s5 hv hk b1 b2 b3 r1 hR y1; (clear hf D4 l2 l1 hY t0 c1 c0 mM M1 m0 hc ω1 ω0; grind)
        have z1 : -2 ≤ 2 / 3 - Y := by clear F1 F2 F3 F4 hD hg hω hm hh h1 h2 uv mu uM mv vM H xr w1 w2 s1 s2 s3 s4 s5 hv hk b1 b2 b3 r1 hR y1 y2; (clear hf D4 l2 l1 hY t0 c1 c0 mM M1 m0 hc ω1 ω0; grind)
        have z2 : 2 / 3 - Y ≤ 2 := by clear F1 F2 F3 F4 hD hg hω hm hh h1 h2 uv mu uM mv vM H xr w1 w2 s1 s2 s3 s4 s5 hv hk b1 b2 b3 r1 hR y1 y2 z1; (clear hf D4 l2 l1 hY t1 c1 c0 mM M1 m0 hc ω1 ω0; grind)
        have p0 := Apx.subB twothird_rv hm (by decide +kernel) (by decide +kernel) (Rat.le_trans (by decide +kernel) y1) (Rat.le_trans y2 (by decide +kernel)) (by decide +kernel)
        replace p0 := p0.mono (e' := 40 * eps) (by decide +kernel)
        have p1 := Apx.mul (A := 1) (B := 2) xr p0 (bl1 hR) r1 z1 z2 (by decide +kernel)
        replace p1 := p1.mono (e' := 110 * eps) (by decide +kernel)
        have pb := prod_bd (p := M - m) (q := 2 / 3 - Y) (P := 1) (Q := 2) (bl1 hR) r1 z1 z2
        have p2 := Apx.mul (A := 2) (B := 6) p1 six_rv (Rat.le_trans (by decide +kernel) pb.1) (Rat.le_trans pb.2 (by decide +kernel)) (by decide +kernel) (by decide +kernel) (by decide +kernel)
        have e : (M - m) * (2 / 3 - Y) * 6 = (4 - 2 * (D : Rat)) * (M - m) - (u - v) := by clear p2 pb p1 p0 z2 z1 y2 y1 b3 b2 b1 hf hm w1 w2 hk D4 hv s5 s4 s3 s2 s1 xr r1 F4 F3 F2 F1 hR l2 l1 hD t1 t0 hg c1 c0 vM mv uM mu uv mM M1 m0 hh hc h2 h1 ω1 ω0 H; grind
        rw [e] at p2
        replace p2 := p2.mono (e' := 700 * eps) (by decide +kernel)
        rcases D4 with q | q | q | q <;> subst q
        all_goals push_cast at *
        · exfalso; clear F1 F2 F3 F4 uv; (clear hk l2 l1 p2 e hv hD pb p1 p0 z2 z1 y2 y1 b3 b1 hf hm w1 s5 s4 s3 s2 s1 xr r1 hR t1 t0 hg c1 c0 vM mv uM mu mM M1 m0 hh hc h2 h1 ω0 hω H; grind)
        · have p3 := Apx.add h1 p2 (by clear hk l2 l1 p2 e hv hY hD pb p1 p0 z2 z1 y2 y1 b3 b2 b1 hf hm w1 w2 s5 s4 s3 s2 s1 xr r1 F4 F3 F2 F1 hR t1 t0 hg c1 c0 vM mu uv M1 hh hc h2 h1 ω1 ω0 hω H; grind) (by clear hk l2 l1 p2 e hv hY hD pb p1 p0 z2 z1 y2 y1 b3 b2 b1 hf hm w1 w2 s5 s4 s3 s2 s1 xr r1 F4 F3 F2 F1 hR t1 t0 hg c1 c0 mv uM uv mM hh hc h2 h1 ω1 ω0 hω H; grind)
          simp only [Int.reduceEq, or_self, if_true, if_false]
          have qq := F3 (by clear F1 F2 F3 F4 uv; (clear p3 hk l2 l1 p2 e hv hD pb p1 p0 z2 z1 y2 y1 b3 b1 hf hm w1 s5 s4 s3 s2 s1 xr r1 hR t1 t0 hg c1 c0 vM mv uM mu mM M1 m0 hh hc h2 h1 ω1 ω0 hω H; grind))
          clear F1 F2 F3 F4
          clear hD hv hk hY hg w1 w2 s1 s2 s3 s4 s5 b1 t0 t1
          exact p3.to (by clear qq p3 l2 l1 p2 e pb p1 p0 z2 z1 y2 y1 b3 b2 hf hm xr r1 hR c1 c0 vM mu uv mM M1 m0 hh hc h2 h1 ω1 ω0 hω H; grind) (by clear p3 l2 l1 p2 e pb p1 p0 z2 z1 y2 y1 b3 b2 hf hm xr r1 hR c1 c0 vM mv uM mu uv mM M1 m0 hh hc h2 h1 ω1 ω0 hω H; grind)
        · have p3 := Apx.add h1 p2 (by clear hk l2 l1 p2 e hv hY hD pb p1 p0 z2 z1 y2 y1 b3 b2 b1 hf hm w1 w2 s5 s4 s3 s2 s1 xr r1 F4 F3 F2 F1 hR t1 t0 hg c1 c0 vM mu uv mM hh hc h2 h1 ω1 ω0 hω H; grind) (by clear hk l2 l1 p2 e hv hY hD pb p1 p0 z2 z1 y2 y1 b3 b2 b1 hf hm w1 w2 s5 s4 s3 s2 s1 xr r1 F4 F3 F2 F1 hR t1 t0 hg c1 c0 mv uM uv mM m0 hh hc h2 h1 ω1 ω0 hω H; grind)
          simp only [Int.reduceEq, or_self, if_true, if_false]
          have qq := F2 (by clear F1 F2 F3 F4 uv; (clear p3 hk l2 l1 p2 e hv hD pb p1 p0 z2 z1 y2 y1 b2 b1 hf hm w2 s4 s3 s2 s1 xr r1 hR t1 t0 hg c1 c0 vM mv uM mu mM M1 m0 hh hc h2 h1 ω1 ω0 hω H; grind))
          clear F1 F2 F3 F4
          clear hD hv hk hY hg w1 w2 s1 s2 s3 s4 s5 b1 t0 t1
          exact p3.to (by clear p3 l2 l1 p2 e pb p1 p0 z2 z1 y2 y1 b3 b2 hf hm xr r1 hR c1 c0 vM mv uM mu mM M1 m0 hh hc h2 h1 ω1 ω0 hω H; grind) (by clear qq p3 l2 l1 p2 e pb p1 p0 z2 z1 y2 y1 b3 b2 hf hm xr r1 hR c1 c0 vM mv uM uv mM M1 m0 hh hc h2 h1 ω1 ω0 hω H; grind)
        · exfalso; clear F1 F2 F3 F4 uv; (clear hk l2 l1 p2 e hv hD pb p1 p0 z2 z1 y2 y1 b2 b1 hf hm w2 s4 s3 s2 s1 xr r1 hR t1 t0 hg c1 c0 vM mv uM mu mM M1 m0 hh hc h2 h1 ω1 hω H; grind)
      · simp only [b3, decide_false, Bool.false_eq_true, if_false]
        rcases D4 with q | q | q | q <;> subst q
        all_goals push_cast at *
        · exfalso; clear F1 F2 F3 F4 uv; (clear hk l2 l1 hv hD b3 b1 hf hm w1 s5 s4 s3 s2 s1 xr r1 hR t1 t0 hg c1 c0 vM mv uM mu mM M1 m0 hh hc h2 h1 ω0 hω H; grind)
        · exfalso; clear F1 F2 F3 F4 uv; (clear hk l2 l1 hv hD b2 b1 hf hm w1 s5 s3 s2 s1 xr r1 hR t1 t0 hg c1 c0 vM mv uM mu mM M1 m0 hh hc h2 h1 ω0 hω H; grind)
        · simp only [Int.reduceEq, or_self, if_true, if_false]
          have qq := F1 (by clear F1 F2 F3 F4 uv; (clear hk l2 l1 hv hD b2 b1 hf hm w1 s5 s3 s2 s1 xr r1 hR t1 t0 hg c1 c0 vM mv uM mu mM M1 m0 hh hc h2 h1 ω1 ω0 hω H; grind))
          clear F1 F2 F3 F4
          clear hD hv hk hY hg w1 w2 s1 s2 s3 s4 s5 b1 t0 t1
          exact h1.to (by clear l2 l1 b3 b2 hf hm xr r1 hR c1 c0 vM mv uM mu mM M1 m0 hh hc h2 h1 ω1 ω0 hω H; grind) (by clear qq l2 l1 b3 b2 hf hm xr r1 hR c1 c0 vM uM mu uv mM M1 m0 hh hc h2 h1 ω1 ω0 hω H; grind)
        · simp only [or_true, if_true]
          have qq := F2 (by clear F1 F2 F3 F4 uv; (clear hk l2 l1 hv hD b3 b2 b1 hf hm w1 w2 s5 s4 s3 s2 s1 xr r1 hR t0 hg c1 c0 vM mv uM mu mM M1 m0 hh hc h2 h1 ω1 ω0 hω H; grind))
          clear F1 F2 F3 F4
          clear hD hv hk hY hg w1 w2 s1 s2 s3 s4 s5 b1 t0 t1
          exact h1.to (by clear l2 l1 b3 b2 hf hm xr r1 hR c1 c0 vM mv uM mu mM M1 m0 hh hc h2 h1 ω1 ω0 hω H; grind) (by clear qq l2 l1 b3 b2 hf hm xr r1 hR c1 c0 vM mv uM uv mM M1 m0 hh hc h2 h1 ω1 ω0 hω H; grind)
end
section
open PySem.Float64
theorem rot_val3 {α : Type} {c d : Nat} (h : d % 3 = c % 3) (M u w : α) : (rot3 c (M, u, w)).1 = val3 (d + 2 + 2) M u w ∧ (rot3 c (M, u, w)).2.1 = val3 (d + 1 + 2) M u w ∧ (rot3 c (M, u, w)).2.2 = val3 (d + 2) M u w := by
  have e1 : (d + 2 + 2) % 3 = (c % 3 + 1) % 3 := by rw [Nat.add_assoc, Nat.add_mod, h]
  have e2 : (d + 1 + 2) % 3 = (c % 3 + 0) % 3 := by rw [Nat.add_assoc, Nat.add_mod, h]
  have e3 : (d + 2) % 3 = (c % 3 + 2) % 3 := by rw [Nat.add_mod, h]
  unfold rot3 val3
  rw [e1, e2, e3]
  have hl := Nat.mod_lt c (show 3 > 0 by decide)
  generalize c % 3 = r at hl
  match r, hl with
  | 0, _ => exact ⟨rfl, rfl, rfl⟩
  | 1, _ => exact ⟨rfl, rfl, rfl⟩
  | 2, _ => exact ⟨rfl, rfl, rfl⟩
theorem slh_near {h l s : UInt64} {M m u w ω Q S : Rat} {a k z : Nat} (H : Hat M m u w) (hQ : Q = 2 * (a : Rat) + ω) (hω : (M - m) * ω = u - w) (ω0 : -1 ≤ ω) (ω1 : ω ≤ 1) (ha : a ≤ 2) (hz : z ≤ 1) (hk : k ≤ 4)
    (hh : Apx h ((Q + 6 * z + 2 * k) / 6) (9 * eps)) (b0 : -(24 * eps) ≤ Q + 6 * z) (b1 : Q + 6 * z ≤ 6 + 24 * eps)
    (hl : Apx l ((M + m) / 2) 0) (hS : (if (M + m) / 2 ≤ 1 / 2 then S * (M + m) = M - m else S * (2 - M - m) = M - m)) (S0 : 0 ≤ S) (S1 : S ≤ 1) (hs : Apx s S eps) (hs0 : eqF s 0 = false) :
    Near3 (slhF h l s) (rot3 (a + k) (M, u, w)) (2048 * eps) := by
  obtain ⟨k0, k1⟩ := nat_bd hk
  push_cast at k1
  obtain ⟨m0, M1, mM, uv, mu, uM, mv, vM⟩ := id H
  have l0 : 0 ≤ (M + m) / 2 := by clear hS hω hQ b0 b1 uv mu uM mv vM k0 k1 hl hs hh H; grind
  have l1 : (M + m) / 2 ≤ 1 := by clear hS hω hQ b0 b1 uv mu uM mv vM k0 k1 hl hs hh H l0; grind
  have hm2 : Apx (if leF l 4602678819172646912 then Float64.mul l (Float64.add 4607182418800017408 s) else Float64.sub (Float64.add l s) (Float64.mul l s)) M (8 * eps) := by
    rw [leF_rv hl.fin half_rv.fin, hl.eq, half_rv.eq]
    by_cases q : (M + m) / 2 ≤ 1 / 2
    · rw [if_pos q] at hS
      simp only [q, decide_true, if_true]
      have x1 := Apx.addB fone_rv hs (by decide +kernel) (by decide +kernel) (bl4 S0) (bh4 S1) (by decide +kernel)
      have s2 : -2 ≤ 1 + S := by clear hS hω hQ b0 b1 uv mu uM mv vM k0 k1 hl hs hh H l0 l1 x1 q; grind
      have s3 : 1 + S ≤ 2 := by clear hS hω hQ b0 b1 uv mu uM mv vM k0 k1 hl hs hh H l0 l1 x1 q s2; grind
      have x2 := Apx.mul (A := 1) (B := 2) hl x1 (bl1 l0) l1 s2 s3 (by decide +kernel)
      rw [show (M + m) / 2 * (1 + S) = M by grind] at x2
      exact x2.mono (by decide +kernel)
    · rw [if_neg q] at hS
      simp only [q, decide_false, Bool.false_eq_true, if_false]
      have x1 := Apx.addB hl hs (bl4 l0) (bh4 l1) (bl4 S0) (bh4 S1) (by decide +kernel)
      have x2 := Apx.mul (A := 1) (B := 1) hl hs (bl1 l0) l1 (bl1 S0) S1 (by decide +kernel)
      obtain ⟨p1, p2⟩ := prod_bd (p := (M + m) / 2) (q := S) (P := 1) (Q := 1) (bl1 l0) l1 (bl1 S0) S1
      have s2 : -4 ≤ (M + m) / 2 + S := by clear hS hω hQ b0 b1 uv mu uM mv vM k0 k1 hl hs hh H x1 x2 q p1 p2; grind
      have s3 : (M + m) / 2 + S ≤ 4 := by clear hS hω hQ b0 b1 uv mu uM mv vM k0 k1 hl hs hh H x1 x2 q p1 p2 s2; grind
      have x3 := Apx.subB x1 x2 s2 s3 (Rat.le_trans (by decide +kernel) p1) (Rat.le_trans p2 (by decide +kernel)) (by decide +kernel)
      rw [show (M + m) / 2 + S - (M + m) / 2 * S = M by grind] at x3
      exact x3.mono (by decide +kernel)
  unfold slhF
  rw [hs0]
  simp only [Bool.false_eq_true, if_false]
  generalize (if leF l 4602678819172646912 then Float64.mul l (Float64.add 4607182418800017408 s) else Float64.sub (Float64.add l s) (Float64.mul l s)) = y2 at *
  have x1 := Apx.mul (A := 2) (B := 1) two_rv hl (by decide +kernel) (by decide +kernel) (bl1 l0) l1 (by decide +kernel)
  have s2 : -4 ≤ 2 * ((M + m) / 2) := by clear hS hω hQ b0 b1 uv mu uM mv vM k0 k1 hl hs hh H x1 hm2; grind
  have s3 : 2 * ((M + m) / 2) ≤ 4 := by clear hS hω hQ b0 b1 uv mu uM mv vM k0 k1 hl hs hh H x1 hm2 s2; grind
  have x2 := Apx.subB x1 hm2 s2 s3 (bl4 (Rat.le_trans m0 (Rat.le_of_lt mM))) (bh4 M1) (by decide +kernel)
  rw [show 2 * ((M + m) / 2) - M = m by grind] at x2
  replace x2 := x2.mono (e' := 16 * eps) (by decide +kernel)
  generalize Float64.sub (Float64.mul 4611686018427387904 l) y2 = y1 at *
  replace hm2 := hm2.mono (e' := 16 * eps) (by decide +kernel)
  have hX : Q + 6 * z + 2 * k = 2 * ((a + 3 * z + k : Nat) : Rat) + ω := by push_cast; grind
  rw [hX] at hh
  have cb : a + 3 * z + k ≤ 9 := by lia
  obtain ⟨c0, c1⟩ := nat_bd cb
  push_cast at c1
  have s2 : -4 ≤ (2 * ((a + 3 * z + k : Nat) : Rat) + ω) / 6 := by clear hS hω hQ b0 b1 uv mu uM mv vM k0 k1 hl hs hh H x2 hm2 l0 l1 hX; push_cast; grind
  have s3 : (2 * ((a + 3 * z + k : Nat) : Rat) + ω) / 6 ≤ 4 := by clear hS hω hQ b0 b1 uv mu uM mv vM k0 k1 hl hs hh H x2 hm2 l0 l1 hX s2; push_cast; grind
  have g1 := Apx.addB hh third_rv s2 s3 (by decide +kernel) (by decide +kernel) (by decide +kernel)
  have g3 := Apx.subB hh third_rv s2 s3 (by decide +kernel) (by decide +kernel) (by decide +kernel)
  have g1 : Apx (Float64.add h 4599676419421066581) ((2 * (((a + 3 * z + k + 2 : Nat) : Rat) - 1) + ω) / 6) (16 * eps) := by
    rw [show (2 * ((a + 3 * z + k : Nat) : Rat) + ω) / 6 + 1 / 3 = (2 * (((a + 3 * z + k + 2 : Nat) : Rat) - 1) + ω) / 6 by push_cast; grind] at g1
    exact g1.mono (by decide +kernel)
  have g2 : Apx h ((2 * (((a + 3 * z + k + 1 : Nat) : Rat) - 1) + ω) / 6) (16 * eps) := by
    rw [show (2 * ((a + 3 * z + k : Nat) : Rat) + ω) / 6 = (2 * (((a + 3 * z + k + 1 : Nat) : Rat) - 1) + ω) / 6 by push_cast; grind] at hh
    exact hh.mono (by decide +kernel)
  have g3 : Apx (Float64.sub h 4599676419421066581) ((2 * (((a + 3 * z + k : Nat) : Rat) - 1) + ω) / 6) (16 * eps) := by
    rw [show (2 * ((a + 3 * z + k : Nat) : Rat) + ω) / 6 - 1 / 3 = (2 * (((a + 3 * z + k : Nat) : Rat) - 1) + ω) / 6 by push_cast; grind] at g3
    exact g3.mono (by decide +kernel)
  have r1 := vF_near H hω ω0 ω1 x2 hm2 (by lia) g1
  have r2 := vF_near H hω ω0 ω1 x2 hm2 (by lia) g2
  have r3 := vF_near H hω ω0 ω1 x2 hm2 (by lia) g3
  unfold Near3
  have hmod : (a + 3 * z + k) % 3 = (a + k) % 3 := by rw [Nat.add_right_comm, Nat.add_mul_mod_self_left]
  refine ⟨?_, ?_, ?_⟩
  · rw [(rot_val3 hmod M u w).1]; exact r1
  · rw [(rot_val3 hmod M u w).2.1]; exact r2
  · rw [(rot_val3 hmod M u w).2.2]; exact r3
theorem add_fr {a b : Nat} (ha : a ≤ 65536) (hb : b ≤ 65536) : Apx (Float64.add (fr a) (fr b)) (((a : Rat) + b) / 65536) 0 := by
  have xa := fr_rv ha
  have xb := fr_rv hb
  have e1 := xa.eq
  have e2 := xb.eq
  obtain ⟨c1, c2⟩ := nat_bd ha
  obtain ⟨c3, c4⟩ := nat_bd hb
  push_cast at c2 c4
  obtain ⟨f, _, _, x⟩ := add_rv xa.fin xb.fin (by rw [e1, e2]; grind) (by rw [e1, e2]; grind)
  have hf : Few (rv (fr a) + rv (fr b)) := by
    refine ⟨((a : Int) + b) * 16777216, by lia, ?_⟩
    rw [e1, e2]
    push_cast
    grind
  refine .exact f ?_
  rw [x hf, e1, e2]
  grind
theorem light_fr {a b : Nat} (ha : a ≤ 65536) (hb : b ≤ 65536) : Apx (Float64.div (Float64.add (fr a) (fr b)) 4611686018427387904) (((a : Rat) / 65536 + (b : Rat) / 65536) / 2) 0 := by
  have xa := add_fr ha hb
  have e1 := xa.eq
  have e2 := two_rv.eq
  obtain ⟨c1, c2⟩ := nat_bd ha
  obtain ⟨c3, c4⟩ := nat_bd hb
  push_cast at c2 c4
  obtain ⟨f, _, _, x⟩ := div_rv xa.fin two_rv.fin (by rw [e2]; decide +kernel) (by rw [e1, e2]; grind) (by rw [e1, e2]; grind)
  have hf : Few (rv (Float64.add (fr a) (fr b)) / rv 4611686018427387904) := by
    refine ⟨((a : Int) + b) * 8388608, by lia, ?_⟩
    rw [e1, e2]
    push_cast
    grind
  refine .exact f ?_
  rw [x hf, e1, e2]
  grind
theorem dark_fr {a b : Nat} (ha : a ≤ 65536) (hb : b ≤ 65536) : Apx (Float64.sub (Float64.sub 4611686018427387904 (fr a)) (fr b)) (2 - (a : Rat) / 65536 - (b : Rat) / 65536) 0 := by
  have xa := fr_rv ha
  have xb := fr_rv hb
  have e1 := xa.eq
  have e2 := xb.eq
  have e3 := two_rv.eq
  obtain ⟨c1, c2⟩ := nat_bd ha
  obtain ⟨c3, c4⟩ := nat_bd hb
  push_cast at c2 c4
  obtain ⟨f, _, _, x⟩ := sub_rv two_rv.fin xa.fin (by rw [e1, e3]; grind) (by rw [e1, e3]; grind)
  have hf : Few (rv 4611686018427387904 - rv (fr a)) := by
    refine ⟨(131072 - (a : Int)) * 16777216, by lia, ?_⟩
    rw [e1, e3]
    push_cast
    grind
  have x := x hf
  rw [e1, e3] at x
  obtain ⟨g, _, _, y⟩ := sub_rv f xb.fin (by rw [x, e2]; grind) (by rw [x, e2]; grind)
  have hg : Few (rv (Float64.sub 4611686018427387904 (fr a)) - rv (fr b)) := by
    refine ⟨(131072 - (a : Int) - b) * 16777216, by lia, ?_⟩
    rw [x, e2]
    push_cast
    grind
  refine .exact g ?_
  rw [y hg, x, e2]
end
section
open PySem.Float64
noncomputable def hat (n : Nat) : Rat := (n : Rat) / 65536
noncomputable def hat3 (t : Nat × Nat × Nat) : Rat × Rat × Rat := (hat t.1, hat t.2.1, hat t.2.2)
theorem rot3_hat (j : Nat) (t : Nat × Nat × Nat) : rot3 j (hat3 t) = hat3 (rot3 j t) := by
  unfold rot3
  split
  · rfl
  · split <;> rfl
theorem rot3_add {α : Type} (i j : Nat) (t : α × α × α) : rot3 (i + j) t = rot3 j (rot3 i t) := by
  unfold rot3
  rcases (show i % 3 = 0 ∨ i % 3 = 1 ∨ i % 3 = 2 by lia) with a | a | a <;> rcases (show j % 3 = 0 ∨ j % 3 = 1 ∨ j % 3 = 2 by lia) with b | b | b
  all_goals
    have e : (i + j) % 3 = (i % 3 + j % 3) % 3 := Nat.add_mod i j 3
    rw [a, b] at e
    rw [e, a, b]
    rfl
structure Parted (r g b : Nat) (M m u v a z : Nat) (h : UInt64) : Prop where
  hM : M ≤ 65536
  hR : m < M
  ha : a ≤ 2
  hz : z ≤ 1
  rot : rot3 a (M, u, v) = (r, g, b)
  H : Hat (hat M) (hat m) (hat u) (hat v)
  hh : Apx h ((2 * (a : Rat) + ((u : Rat) - v) / ((M : Rat) - m)) / 6 + z) (4 * eps)
  b0 : -(24 * eps) ≤ 2 * (a : Rat) + ((u : Rat) - v) / ((M : Rat) - m) + 6 * z
  b1 : 2 * (a : Rat) + ((u : Rat) - v) / ((M : Rat) - m) + 6 * z ≤ 6 + 24 * eps
theorem parted {r g b : Nat} (hr : r ≤ 65536) (hg : g ≤ 65536) (hb : b ≤ 65536) (hR : mnN r g b < mxN r g b) :
    ∃ u v a z, Parted r g b (mxN r g b) (mnN r g b) u v a z (hueF (fr r) (fr g) (fr b) (fr (mxN r g b)) (Float64.sub (fr (mxN r g b)) (fr (mnN r g b)))) := by
  have hM : mxN r g b ≤ 65536 := by have := mx_facts r g b; lia
  obtain ⟨z, hz, hh, b0, b1⟩ := hue_rv hr hg hb hR
  obtain ⟨a, u, v, ha, hrot, hQ, h1, h2, h3, h4, h5⟩ := hue_split hR
  rw [hQ] at hh b0 b1
  exact ⟨u, v, a, z, hM, hR, ha, hz, hrot, hat_of hM hR h1 h2 h3 h4 h5, hh, b0, b1⟩
theorem Parted.om {r g b M m u v a z : Nat} {h : UInt64} (P : Parted r g b M m u v a z h) : (hat M - hat m) * (((u : Rat) - v) / ((M : Rat) - m)) = hat u - hat v ∧ -1 ≤ ((u : Rat) - v) / ((M : Rat) - m) ∧ ((u : Rat) - v) / ((M : Rat) - m) ≤ 1 := by
  have c3 : (m : Rat) < M := by exact_mod_cast P.hR
  have hpos : (0 : Rat) < (M : Rat) - m := by grind
  have hne : (M : Rat) - m ≠ 0 := Rat.ne_of_gt hpos
  obtain ⟨m0, M1, mM, uv, mu, uM, mv, vM⟩ := P.H
  unfold hat at *
  refine ⟨?_, ?_, ?_⟩
  · have := Rat.div_mul_cancel (a := (u : Rat) - v) hne
    generalize ((u : Rat) - v) / ((M : Rat) - m) = q at *
    (clear vM mv uM mu uv mM M1 m0 hne hpos c3 P; grind)
  · refine Rat.le_of_mul_le_mul_right (c := (M : Rat) - m) ?_ hpos
    rw [Rat.div_mul_cancel hne]; (clear mv uM uv mM M1 m0 hne hpos c3 P; grind)
  · refine Rat.le_of_mul_le_mul_right (c := (M : Rat) - m) ?_ hpos
    rw [Rat.div_mul_cancel hne]; (clear vM mu uv mM M1 m0 hne hpos c3 P; grind)
theorem rg_pos {M m : Nat} (hM : M ≤ 65536) (hR : m < M) : Apx (Float64.sub (fr M) (fr m)) (hat M - hat m) 0 ∧ 0 < hat M - hat m := by
  have x := sub_fr hM (Nat.le_of_lt hR)
  have c3 : (m : Rat) < M := by exact_mod_cast hR
  unfold hat
  refine ⟨?_, by clear x hR hM; grind⟩
  rw [show (M : Rat) / 65536 - (m : Rat) / 65536 = ((M : Rat) - m) / 65536 by clear c3 x hR hM; grind]
  exact x
theorem nz {x : UInt64} {a e : Rat} (h : Apx x a e) (hp : 0 < a - e) : isZero x = false := by
  rw [isZero_rv h.fin]
  have := h.lo
  exact decide_eq_false (Rat.ne_of_gt (by grind))
theorem fin_of {x : UInt64} (h : IsFin x) : Float64.isFinite x = true := by
  obtain ⟨a, m, e, d⟩ := h
  unfold Float64.isFinite
  rw [d]
theorem rat_div_bd {a b : Rat} (hb : 0 < b) (h0 : 0 ≤ a) (h1 : a ≤ b) : 0 ≤ a / b ∧ a / b ≤ 1 := by
  have hne : b ≠ 0 := Rat.ne_of_gt hb
  constructor
  · refine Rat.le_of_mul_le_mul_right (c := b) ?_ hb
    rw [Rat.div_mul_cancel hne]; (clear hne h1 hb; grind)
  · refine Rat.le_of_mul_le_mul_right (c := b) ?_ hb
    rw [Rat.div_mul_cancel hne]; (clear hne h0 hb; grind)
theorem quot_pos {a b : Rat} {c : Rat} (hb : 0 < b) (h : c * b ≤ a) : c ≤ a / b := by
  refine Rat.le_of_mul_le_mul_right (c := b) ?_ hb
  rw [Rat.div_mul_cancel (Rat.ne_of_gt hb)]; exact h
theorem hsv_full {r g b k : Nat} {κ : UInt64} (hr : r ≤ 65536) (hg : g ≤ 65536) (hb : b ≤ 65536) (hR : mnN r g b < mxN r g b) (hk1 : 1 ≤ k) (hk : k ≤ 2) (hκ : Apx κ ((k : Rat) / 3) (4 * eps)) :
    Near3 (vshF (Float64.add (hsvF (fr r) (fr g) (fr b)).1 κ) (hsvF (fr r) (fr g) (fr b)).2.1 (hsvF (fr r) (fr g) (fr b)).2.2) (hat3 (rot3 k (r, g, b))) (2048 * eps)
    ∧ isZero (mxF (fr r) (fr g) (fr b)) = false ∧ isZero (Float64.sub (mxF (fr r) (fr g) (fr b)) (mnF (fr r) (fr g) (fr b))) = false
    ∧ Float64.isFinite (Float64.mul (Float64.add (hsvF (fr r) (fr g) (fr b)).1 κ) 4618441417868443648) = true
    ∧ (PySem.Flt.toInt Float64.truncOf (Float64.mul (Float64.add (hsvF (fr r) (fr g) (fr b)).1 κ) 4618441417868443648)).natAbs < 2 ^ 1023 := by
  obtain ⟨u, v, a, z, P⟩ := parted hr hg hb hR
  obtain ⟨hω, ω0, ω1⟩ := P.om
  have hM := P.hM
  have hMp : mnN r g b ≤ 65536 := Nat.le_trans (Nat.le_of_lt P.hR) hM
  have eM := mxF_fr hr hg hb
  have em := mnF_fr hr hg hb
  obtain ⟨xr, r0⟩ := rg_pos hM P.hR
  have xM : Apx (fr (mxN r g b)) (hat (mxN r g b)) 0 := fr_rv hM
  have M0 : 0 < hat (mxN r g b) := by have := P.H.m0; (clear xM xr em eM hMp hM ω1 ω0 hω P hκ hk hk1 hR hb hg hr; grind)
  have hne : eqF (fr (mnN r g b)) (fr (mxN r g b)) = false := by rw [eqF_fr hMp hM]; exact decide_eq_false (Nat.ne_of_lt P.hR)
  have e : hsvF (fr r) (fr g) (fr b) = (hueF (fr r) (fr g) (fr b) (fr (mxN r g b)) (Float64.sub (fr (mxN r g b)) (fr (mnN r g b))), Float64.div (Float64.sub (fr (mxN r g b)) (fr (mnN r g b))) (fr (mxN r g b)), fr (mxN r g b)) := by
    unfold hsvF
    rw [eM, em]
    dsimp only
    rw [hne]
    rfl
  rw [e, eM, em]
  dsimp only
  obtain ⟨s0, s1⟩ := rat_div_bd M0 (Rat.le_of_lt r0) (show hat (mxN r g b) - hat (mnN r g b) ≤ hat (mxN r g b) by have := P.H.m0; (clear e hne M0 xM r0 xr em eM hMp hM ω1 ω0 hω P hκ hk hk1 hR hb hg hr; grind))
  have xs := Apx.div xr xM (Rat.ne_of_gt M0) (by clear s1 e hne M0 xM r0 xr em eM hMp hM ω1 ω0 hω P hκ hk hk1 hR hb hg hr; grind) (by clear s0 e hne M0 xM r0 xr em eM hMp hM ω1 ω0 hω P hκ hk hk1 hR hb hg hr; grind)
  have s2 : 1 / 65536 ≤ (hat (mxN r g b) - hat (mnN r g b)) / hat (mxN r g b) := by
    refine quot_pos M0 ?_
    have c : ((mnN r g b + 1 : Nat) : Rat) ≤ (mxN r g b : Nat) := by exact_mod_cast P.hR
    have := P.H.M1
    push_cast at c
    unfold hat at *
    (clear xs s1 s0 e hne M0 xM r0 xr em eM hMp hM ω1 ω0 hω P hκ hk hk1 hR hb hg hr; grind)
  have xh := hue_turn P.hz P.hh P.b0 P.b1 (by clear s2 xs s1 s0 e hne M0 xM r0 xr em eM hMp hM ω1 ω0 hω P hκ hk1 hR hb hg hr; lia) hκ
  obtain ⟨n1, n2, n3⟩ := vsh_near P.H rfl hω ω0 ω1 P.ha P.hz hk1 hk xh P.b0 P.b1 xs (xs.zero_of (by clear xh xs s1 s0 e hne M0 xM r0 xr em eM hMp hM ω1 ω0 hω P hκ hk hk1 hR hb hg hr; grind)) xM
  refine ⟨?_, nz xM (by clear n3 n2 n1 xh s2 xs s1 s0 e hne xM r0 xr em eM hMp hM ω1 ω0 hω P hκ hk hk1 hR hb hg hr; grind), nz xr (by clear n3 n2 n1 xh s2 xs s1 s0 e hne M0 xM xr em eM hMp hM ω1 ω0 hω P hκ hk hk1 hR hb hg hr; grind), fin_of n2, Nat.lt_of_le_of_lt n3 (by decide +kernel)⟩
  rw [rot3_add, show ((hat (mxN r g b), hat u, hat v) : Rat × Rat × Rat) = hat3 (mxN r g b, u, v) from rfl, rot3_hat, rot3_hat, P.rot] at n1
  exact ⟨n1.1.mono (by decide +kernel), n1.2.1.mono (by decide +kernel), n1.2.2.mono (by decide +kernel)⟩
theorem hls_full {r g b k : Nat} {κ : UInt64} (hr : r ≤ 65536) (hg : g ≤ 65536) (hb : b ≤ 65536) (hR : mnN r g b < mxN r g b) (h1 : 1 ≤ mnN r g b) (hk : k ≤ 4) (hκ : Apx κ ((k : Rat) / 3) (4 * eps)) :
    Near3 (slhF (Float64.add (hlsF (fr r) (fr g) (fr b)).1 κ) (hlsF (fr r) (fr g) (fr b)).2.1 (hlsF (fr r) (fr g) (fr b)).2.2) (hat3 (rot3 k (r, g, b))) (2048 * eps)
    ∧ isZero (Float64.add (mxF (fr r) (fr g) (fr b)) (mnF (fr r) (fr g) (fr b))) = false ∧ isZero (Float64.sub (mxF (fr r) (fr g) (fr b)) (mnF (fr r) (fr g) (fr b))) = false
    ∧ isZero (Float64.sub (Float64.sub 4611686018427387904 (mxF (fr r) (fr g) (fr b))) (mnF (fr r) (fr g) (fr b))) = false := by
  obtain ⟨u, v, a, z, P⟩ := parted hr hg hb hR
  obtain ⟨hω, ω0, ω1⟩ := P.om
  have hM := P.hM
  have hMp : mnN r g b ≤ 65536 := Nat.le_trans (Nat.le_of_lt P.hR) hM
  have eM := mxF_fr hr hg hb
  have em := mnF_fr hr hg hb
  obtain ⟨xr, r0⟩ := rg_pos hM P.hR
  have xM : Apx (fr (mxN r g b)) (hat (mxN r g b)) 0 := fr_rv hM
  have xa := add_fr hM hMp
  have xa : Apx (Float64.add (fr (mxN r g b)) (fr (mnN r g b))) (hat (mxN r g b) + hat (mnN r g b)) 0 := by
    rw [show hat (mxN r g b) + hat (mnN r g b) = ((mxN r g b : Rat) + mnN r g b) / 65536 by unfold hat; (clear xa xM r0 xr em eM hMp hM ω1 ω0 hω P hκ hk h1 hR hb hg hr; grind)]; exact xa
  have xl : Apx (Float64.div (Float64.add (fr (mxN r g b)) (fr (mnN r g b))) 4611686018427387904) ((hat (mxN r g b) + hat (mnN r g b)) / 2) 0 := light_fr hM hMp
  have xd : Apx (Float64.sub (Float64.sub 4611686018427387904 (fr (mxN r g b))) (fr (mnN r g b))) (2 - hat (mxN r g b) - hat (mnN r g b)) 0 := dark_fr hM hMp
  have hne : eqF (fr (mnN r g b)) (fr (mxN r g b)) = false := by rw [eqF_fr hMp hM]; exact decide_eq_false (Nat.ne_of_lt P.hR)
  obtain ⟨m0, M1, mM, uv, mu, uM, mv, vM⟩ := id P.H
  have c : 1 / 65536 ≤ hat (mxN r g b) - hat (mnN r g b) := by
    have c : ((mnN r g b + 1 : Nat) : Rat) ≤ (mxN r g b : Nat) := by exact_mod_cast P.hR
    push_cast at c
    unfold hat
    (clear vM mv uM mu uv mM M1 m0 hne xd xl xa xM r0 xr em eM hMp hM ω1 ω0 hω P hκ hk h1 hR hb hg hr; grind)
  have hle : leF (Float64.div (Float64.add (fr (mxN r g b)) (fr (mnN r g b))) 4611686018427387904) 4602678819172646912 = decide ((hat (mxN r g b) + hat (mnN r g b)) / 2 ≤ 1 / 2) := by
    rw [leF_rv xl.fin half_rv.fin, xl.eq, half_rv.eq]
  have e : hlsF (fr r) (fr g) (fr b) = (hueF (fr r) (fr g) (fr b) (fr (mxN r g b)) (Float64.sub (fr (mxN r g b)) (fr (mnN r g b))), Float64.div (Float64.add (fr (mxN r g b)) (fr (mnN r g b))) 4611686018427387904, if decide ((hat (mxN r g b) + hat (mnN r g b)) / 2 ≤ 1 / 2) = true then Float64.div (Float64.sub (fr (mxN r g b)) (fr (mnN r g b))) (Float64.add (fr (mxN r g b)) (fr (mnN r g b))) else Float64.div (Float64.sub (fr (mxN r g b)) (fr (mnN r g b))) (Float64.sub (Float64.sub 4611686018427387904 (fr (mxN r g b))) (fr (mnN r g b)))) := by
    unfold hlsF
    rw [eM, em]
    dsimp only
    rw [hne, hle]
    rfl
  rw [e, eM, em]
  dsimp only
  have xh := hue_turn P.hz P.hh P.b0 P.b1 hk hκ
  refine ⟨?_, nz xa (by clear xh e hle c vM mv uM mu uv mM M1 hne xd xl xa xM xr em eM hMp hM ω1 ω0 hω P hκ hk h1 hR hb hg hr; grind), nz xr (by clear xh e hle c vM mv uM mu uv mM M1 m0 hne xd xl xa xM xr em eM hMp hM ω1 ω0 hω P hκ hk h1 hR hb hg hr; grind), nz xd (by clear xh e hle c vM mv uM mu uv mM m0 hne xd xl xa xM xr em eM hMp hM ω1 ω0 hω P hκ hk h1 hR hb hg hr; grind)⟩
  have key : ∃ S, (if (hat (mxN r g b) + hat (mnN r g b)) / 2 ≤ 1 / 2 then S * (hat (mxN r g b) + hat (mnN r g b)) = hat (mxN r g b) - hat (mnN r g b) else S * (2 - hat (mxN r g b) - hat (mnN r g b)) = hat (mxN r g b) - hat (mnN r g b)) ∧ 1 / 131072 ≤ S ∧ S ≤ 1 ∧ Apx (if decide ((hat (mxN r g b) + hat (mnN r g b)) / 2 ≤ 1 / 2) = true then Float64.div (Float64.sub (fr (mxN r g b)) (fr (mnN r g b))) (Float64.add (fr (mxN r g b)) (fr (mnN r g b))) else Float64.div (Float64.sub (fr (mxN r g b)) (fr (mnN r g b))) (Float64.sub (Float64.sub 4611686018427387904 (fr (mxN r g b))) (fr (mnN r g b)))) S eps := by
    by_cases q : (hat (mxN r g b) + hat (mnN r g b)) / 2 ≤ 1 / 2
    · have hp : 0 < hat (mxN r g b) + hat (mnN r g b) := by clear q xh e hle c vM mv uM mu uv mM M1 hne xd xl xa xM xr em eM hMp hM ω1 ω0 hω P hκ hk h1 hR hb hg hr; grind
      obtain ⟨s0, s1⟩ := rat_div_bd hp (Rat.le_of_lt r0) (by clear hp q xh e hle c vM mv uM mu uv mM M1 hne xd xl xa xM r0 xr em eM hMp hM ω1 ω0 hω P hκ hk h1 hR hb hg hr; grind)
      refine ⟨(hat (mxN r g b) - hat (mnN r g b)) / (hat (mxN r g b) + hat (mnN r g b)), ?_, quot_pos hp (by clear s1 s0 hp q xh e hle vM mv uM mu uv mM m0 hne xd xl xa xM r0 xr em eM hMp hM ω1 ω0 hω P hκ hk h1 hR hb hg hr; grind), s1, ?_⟩
      · rw [if_pos q]; exact Rat.div_mul_cancel (Rat.ne_of_gt hp)
      · rw [if_pos (decide_eq_true q)]
        exact Apx.div xr xa (Rat.ne_of_gt hp) (by clear s1 hp q xh e hle c vM mv uM mu uv mM M1 m0 hne xd xl xa xM r0 xr em eM hMp hM ω1 ω0 hω P hκ hk h1 hR hb hg hr; grind) (by clear s0 hp q xh e hle c vM mv uM mu uv mM M1 m0 hne xd xl xa xM r0 xr em eM hMp hM ω1 ω0 hω P hκ hk h1 hR hb hg hr; grind)
    · have hp : 0 < 2 - hat (mxN r g b) - hat (mnN r g b) := by clear q xh e hle c vM mv uM mu uv mM m0 hne xd xl xa xM xr em eM hMp hM ω1 ω0 hω P hκ hk h1 hR hb hg hr; grind
      obtain ⟨s0, s1⟩ := rat_div_bd hp (Rat.le_of_lt r0) (by clear hp q xh e hle c vM mv uM mu uv mM m0 hne xd xl xa xM r0 xr em eM hMp hM ω1 ω0 hω P hκ hk h1 hR hb hg hr; grind)
      refine ⟨(hat (mxN r g b) - hat (mnN r g b)) / (2 - hat (mxN r g b) - hat (mnN r g b)), ?_, quot_pos hp (by clear s1 s0 hp q xh e hle vM mv uM mu uv mM M1 hne xd xl xa xM r0 xr em eM hMp hM ω1 ω0 hω P hκ hk h1 hR hb hg hr; grind), s1, ?_⟩
      · rw [if_neg q]; exact Rat.div_mul_cancel (Rat.ne_of_gt hp)
      · rw [if_neg (by simpa using q)]
        exact Apx.div xr xd (Rat.ne_of_gt hp) (by clear s1 hp q xh e hle c vM mv uM mu uv mM M1 m0 hne xd xl xa xM r0 xr em eM hMp hM ω1 ω0 hω P hκ hk h1 hR hb hg hr; grind) (by clear s0 hp q xh e hle c vM mv uM mu uv mM M1 m0 hne xd xl xa xM r0 xr em eM hMp hM ω1 ω0 hω P hκ hk h1 hR hb hg hr; grind)
  obtain ⟨S, hS, S0, S1, xs⟩ := key
  have n1 := slh_near P.H rfl hω ω0 ω1 P.ha P.hz hk xh P.b0 P.b1 xl hS (by clear xs S1 hS xh e hle c vM mv uM mu uv mM M1 m0 hne xd xl xa xM r0 xr em eM hMp hM ω1 ω0 hω P hκ hk h1 hR hb hg hr; grind) S1 xs (xs.zero_of (by clear xs S1 hS xh e hle c vM mv uM mu uv mM M1 m0 hne xd xl xa xM r0 xr em eM hMp hM ω1 ω0 hω P hκ hk h1 hR hb hg hr; grind))
  rw [rot3_add, show ((hat (mxN r g b), hat u, hat v) : Rat × Rat × Rat) = hat3 (mxN r g b, u, v) from rfl, rot3_hat, rot3_hat, P.rot] at n1
  exact n1
theorem round_near {x : UInt64} {n : Nat} (h : Apx x (hat n) (2048 * eps)) (h0 : 1 ≤ n) (h1 : n ≤ 65536) : PySem.Flt.toInt nearestOf (Float64.mul x (ofInt (2 ^ 36))) = ((n * 1048576 : Nat) : Int) ∧ IsFin (Float64.mul x (ofInt (2 ^ 36))) := by
  obtain ⟨c0, c1⟩ := nat_bd h1
  push_cast at c1
  have l := h.lo
  have u := h.hi
  unfold hat at l u
  obtain ⟨f, e⟩ := mul36_rv h.fin (by clear u c1 c0 h1 h0 h; grind) (by clear l c0 h1 h0 h; grind)
  refine ⟨near_rv f (by clear e f u l c1 c0 h1 h; lia) ?_ ?_, f⟩
  · rw [e]; push_cast; (clear e f u c1 c0 h1 h0 h; grind)
  · rw [e]; push_cast; (clear e f l c1 c0 h1 h0 h; grind)
end
section
open PySem.Float64
theorem third_close : Apx 4599676419421066581 (1 / 3) (eps / 8) := by
  obtain ⟨f, h⟩ := const_rv (x := 4599676419421066581) (m := 6004799503160661) (e := -54) (k := 54) (by with_unfolding_all rfl) (by decide)
  rw [show ((2 ^ 54 : Nat) : Rat) = 18014398509481984 by decide +kernel] at h
  push_cast at h
  exact ⟨f, by grind, by grind⟩
end
section
open PySem.Float64
noncomputable def thirdF (k : Int) : UInt64 := Float64.mul (Float64.ofInt k) 4599676419421066581
theorem thirdF_rv {k : Nat} (h : k ≤ 4) : Apx (thirdF k) ((k : Rat) / 3) (4 * eps) := by
  obtain ⟨k0, k1⟩ := nat_bd h
  push_cast at k1
  have iR := int_rv (i := (k : Int)) (by lia)
  have x := Apx.mul (A := 4) (B := 1) (.exact iR.1 (show rv (Float64.ofInt (k : Int)) = (k : Rat) by rw [iR.2]; push_cast; rfl)) third_close (by grind) (by grind) (by decide +kernel) (by decide +kernel) (by decide +kernel)
  rw [show (k : Rat) * (1 / 3) = (k : Rat) / 3 by grind] at x
  exact x.mono (by decide +kernel)
end
section
open PySem.SeqAt
section
variable {C : Cx} {n : Nat} {X : Addr → Prop} {Φ Ψ : Asn C} {env : Env} {l m ds : List PV} {x y : Str} {e o : Expr} {pos p apos : Pos} {R Pv : Vp} {Ps : List Vp} {name : Str} {id : String} {es : List Expr}
noncomputable def HasM (C : Cx) (name : Str) (Pv : Vp) (id : String) : Prop := ∃ T, PlainAttrs T ∧ Slot T name id ∧ typeOf (.builtin id) = pure (.type "method_descriptor") ∧
  ∀ Z s v, Inv C Z s → Pv.at_ Z v → s.TypeIs v T ∧ (∀ a, v = .ref a → ∃ ob, s.heap.get? a = some ob ∧ ob.dict = none)
theorem ev_meth (hv : EV C n Φ (eval o env) Pv) (M : HasM C name Pv id) (ha : EL C n Φ (spliced (backTo pos (starEach (e :: es) env))) Ps) (F : FN C n (.builtin id) (Pv :: Ps) R)
    (hbase : attributeBase o name env (eval o env) = eval o env := by rfl)
    (hfew : ((backTo pos (starEach (e :: es) env)).all (fun x => !x.1) && (backToKw pos (keywordEach [] env)).all (fun x => x.1.isSome)
      && decide ((e :: es).length + ([] : List Keyword).length + (if ([] : List Keyword).isEmpty then 0 else 1) < 30)) = true := by rfl)
    (hline : (apos.endLine == pos.line) = true := by rfl) (he : starEach (e :: es) env = (false, eval e env) :: starEach es env := by rfl) (hp : (backTo pos (starEach es env)).any (·.1) = false := by rfl) :
    EV C n Φ (eval (.Call (.Attribute o name apos) (e :: es) [] pos) env) R := fun A s Z Q E hA I H k => by
  obtain ⟨T, h1, h2, h3, h4⟩ := M
  refine wpAny_Call_method_late hbase hfew hline rfl (hv A s Z _ E hA I H fun v Z₁ s₁ x₁ p₁ => ?_)
  obtain ⟨q1, q2⟩ := h4 Z₁ s₁ v x₁.inv p₁
  refine ⟨T, id, h1, h2, h3, q1, q2, ?_⟩
  refine Calls.callWith_builtin (by rw [he]; exact hp) ?_
  have ha' := ha A s₁ Z₁
  rw [he] at ha' ⊢
  refine Calls.evalArgs_plain (ha' _ E hA x₁.inv (Φ.stable I H x₁) fun vs Z₂ s₂ x₂ ps => ?_)
  have hs : Sat Z₂ (v :: vs) (Pv :: Ps) := .cons (Vp.mono _ x₂.le p₁) ps
  exact F A s₂ Z₂ (v :: vs) Q E hA x₂.inv hs.length hs.get fun u Z₃ s₃ x₃ pu => k u Z₃ s₃ ((x₁.trans x₂).trans x₃) pu
theorem ev_meth0 (hv : EV C n Φ (eval o env) Pv) (M : HasM C name Pv id) (F : FN C n (.builtin id) [Pv] R)
    (hbase : attributeBase o name env (eval o env) = eval o env := by rfl) (hline : (apos.endLine == pos.line) = true := by rfl) :
    EV C n Φ (eval (.Call (.Attribute o name apos) [] [] pos) env) R := fun A s Z Q E hA I H k => by
  obtain ⟨T, h1, h2, h3, h4⟩ := M
  refine wpAny_Call_method0_late hbase hline (hv A s Z _ E hA I H fun v Z₁ s₁ x₁ p₁ => ?_)
  obtain ⟨q1, q2⟩ := h4 Z₁ s₁ v x₁.inv p₁
  refine ⟨T, id, h1, h2, h3, q1, q2, ?_⟩
  refine Calls.callWith_builtin rfl (evalArgs_nil3 ?_)
  have hs : Sat Z₁ [v] [Pv] := .cons p₁ .nil
  exact F A s₁ Z₁ [v] Q E hA x₁.inv hs.length hs.get fun u Z₃ s₃ x₃ pu => k u Z₃ s₃ (x₁.trans x₃) pu
theorem hasM_bitlen {a : Int} : HasM C "bit_length" (is (.int a)) "int.bit_length" := ⟨"int", F.plainAttrs_int, F.slot_int_bit_length, F.type_int_bit_length, fun Z s v I h => by
  obtain ⟨_, rfl⟩ := rdi h; exact ⟨typeIs_int _ _ _, fun a h => by cases h⟩⟩
theorem fn_bitlen {a : Int} : FN C n (.builtin "int.bit_length") [is (.int a)] (is (.int (Builtin.Int.intBits a))) := fn1 fun A s Z v Q E hA I h k => by
  obtain ⟨_, rfl⟩ := rdi h
  exact call_int_bit_length (k _ Z _ (Step.toks I _) (.int _ _))
theorem fn_divmod {a b : Int} (hb : b ≠ 0) (hp : Builtin.divisionGoesByPylong a b = false) : FN C n (.builtin "divmod") [is (.int a), is (.int b)] (is (.tup [.int (a.fdiv b), .int (a.fmod b)])) := fn2 fun A s Z u v Q E hA I h h' k => by
    obtain ⟨_, rfl⟩ := rdi h; obtain ⟨_, rfl⟩ := rdi h'
    refine divmod_int hb ?_ (.inl hp)
    have st := StepX.alloc (X := No) I (o := { cls := .type "tuple", data := .seq #[.int (a.fdiv b) s.toks, .int (a.fmod b) (s.toks + 1)] }) (t := s.toks + 1 + 1) rfl
    exact k _ _ _ st (.tup (n := 0) (vs := [.int (a.fdiv b) s.toks, .int (a.fmod b) (s.toks + 1)]) (put_self (Z := Z)) (.cons (.int _ _) (.cons (.int _ _) .nil)))
end
end
section
open PySem.SeqAt
section
variable {C : Cx} {X Y : Addr → Prop} {Z Z' : Fz} {s s' : Shared}
theorem StepX.hideY (x : StepX C X Z s Z' s') (h : ∀ b, X b → s.heap.get? b = none ∨ Y b) : StepX C Y Z s Z' s' :=
  ⟨x.le, fun b o e => (x.new b o e).elim .inl fun q => q.elim (fun q => .inr (.inl q)) fun q => .inr (h b q),
   fun b o e hY ht => x.keep b o e (fun q => (h b q).elim (fun q => by rw [q] at e; cases e) hY) ht, x.rest, x.inv⟩
theorem CodeIn.rec {c : Addr} {q : Str} (x : CodeIn Z c q) (I : Inv C Z s) : s.heap.CodeRec (.ref c) q := by
  obtain ⟨o, vs, t, e1, e2, e3⟩ := x
  exact ⟨c, o, vs, t, rfl, I.heap _ _ e1, e2, e3⟩
theorem clo_enterW {n : Nat} {A : Around} {fd : FuncData} {f c : Addr} {o : Obj} {body : List Stmt} {args : Args} {vs : List Value} {xs nm oc : List Str} {sc : List (Str × NameKind)} {ρ : List (Option Vp)} {ω : List (Addr × List PV)} {Q : Value → Shared → Prop} {E : Value → Shared → Prop}
    (hq : Quiet C) (I : Inv C Z s) (hA : Room (n + 2) A) (ho : Z f = some o) (hd : o.data = .func fd) (hc : fd.code = .ref c) (hcd : CodeIn Z c fd.qualname) (hbody : fd.body = .stmts body) (hsc : fd.scope.names = sc) (hgl : fd.globals = mainGlobals) (hbl : fd.builtins = builtinsNs)
    (hcell : sc.all (fun x => x.2 != .cell) = true) (hbind : BindsTo s fd args (xs.zip vs)) (hlen : xs.length = vs.length) (hloc : xs.all (fun x => sc.lookup x == some .local) = true) (hoc : oc.all (fun x => sc.lookup x != some .cell && (fd.closure.lookup x).isNone) = true)
    (hnm : nm.Nodup) (hap : fd.closure.Pairwise fun x y => x.2 ≠ y.2) (hcl : ∀ x a, fd.closure.lookup x = some a → Z a = none ∧ ∃ v, s.heap.IsCell a v) (B : Addr → Prop) (hB : ∀ a, s.heap.get? a = none → B a) (hωB : ∀ p ∈ ω, B p.1) (hω : ∀ p ∈ ω, Owned Z s.heap p) (hωn : (ω.map (·.1)).Nodup)
    (hv : ∀ L h', h'.Ns L (fun x => (xs.zip vs).reverse.lookup x) → (∀ b o, s.heap.get? b = some o → h'.get? b = some o) → Vars (callEnv fd L f) Z h' nm ρ)
    (h : ∀ L A' s₁ E', Room (n + 1) A' → Inv C Z s₁ → Step C Z s Z s₁ → s.heap.get? L = none → FSp (callEnv fd L f) nm oc sc B ρ ω (fun _ => none) Z s₁.heap →
      wpAny (model C.prog C.w) A' (execs body (callEnv fd L f)) (fun fl s' => Q (match fl with | .ret v => v | _ => .none) s') E' s₁)
    (hco : fd.scope.isCoroutine = false) (hgen : fd.scope.isGenerator = false) (hk : fd.scope.kind = .function) :
    wpAny (model C.prog C.w) A (call (.ref f) args.pos args.kw) Q E s := by
  subst hsc
  have hf := I.heap _ _ ho
  have hnl := hq s.heap fun b o e => I.heap _ _ (I.base _ _ e)
  refine wpAny_call (codeAny_call_def (R := fun r s' => match r with | .ok (.ret v) => Q v s' | .ok _ => False | .error e => E e s') (by have := hA.depth; simp only [recursionLimit]; lia) hf hd hnl (by rw [hc]; exact hcd.rec I) hbody hbind
    (fun x hx => by have := List.all_eq_true.mp hcell x hx; simpa using this) (fun x hx => by have := List.all_eq_true.mp hloc x.1 (List.of_mem_zip hx).1; simpa using this) (fun h₁ hns hk₁ => ?_) hco hgen hk)
  have st : Step C Z s Z { s with heap := h₁, toks := s.toks + (xs.zip vs).length } := .keeps I hk₁
  have hA' : Room (n + 1) (A.deeper (callEnv fd s.heap.objs.size f)) := ⟨by have := hA.depth; simp only [Around.deeper]; lia, by have := hA.units; simp only [Around.deeper]; lia, hA.handled⟩
  have zn : ∀ a, s.heap.objs.size ≤ a → Z a = none := fun a ha => I.fresh (get?_above ha)
  refine h s.heap.objs.size _ { s with heap := h₁, toks := s.toks + (xs.zip vs).length } _ hA' st.inv st (get?_above (Nat.le_refl _))
    ⟨rfl, hgl, hbl, fun x hx e => ?_, hk, hnm, hap, ⟨_, hns⟩, hB _ (get?_above (Nat.le_refl _)), zn _ (Nat.le_refl _), fun x a ha => ?_, fun x hx a ha => ?_, fun a ha => hB _ ((st.gone ha).elim id fun q => q.elim), hv _ _ hns hk₁, fun p hp => ?_, hωB, hωn, (fun _ _ h => nomatch h), fun _ _ h => nomatch h⟩
  · have := List.all_eq_true.mp hoc x hx
    simp only [e, bne_self_eq_false, Bool.false_and] at this
    cases this
  · obtain ⟨z, v, hc⟩ := hcl x a ha
    refine ⟨z, v, ?_⟩
    obtain ⟨oo, e, r⟩ := hc
    exact ⟨oo, hk₁ _ _ e, r⟩
  · have := List.all_eq_true.mp hoc x hx
    have e : fd.closure.lookup x = some a := ha
    rw [e] at this
    simp at this
  · obtain ⟨z, vs', m, e, r⟩ := hω p hp
    exact ⟨z, vs', m, hk₁ _ _ e, r⟩
theorem clo_enter {n : Nat} {A : Around} {fd : FuncData} {f c : Addr} {o : Obj} {body : List Stmt} {vs : List Value} {xs nm oc : List Str} {sc : List (Str × NameKind)} {ρ : List (Option Vp)} {ω : List (Addr × List PV)} {Q : Value → Shared → Prop} {E : Value → Shared → Prop}
    (hq : Quiet C) (I : Inv C Z s) (hA : Room (n + 2) A) (ho : Z f = some o) (hd : o.data = .func fd) (hc : fd.code = .ref c) (hcd : CodeIn Z c fd.qualname) (hbody : fd.body = .stmts body) (hsc : fd.scope.names = sc) (hgl : fd.globals = mainGlobals) (hbl : fd.builtins = builtinsNs)
    (hcell : sc.all (fun x => x.2 != .cell) = true) (hbind : bindArgs fd ⟨vs, []⟩ = pure (xs.zip vs)) (hlen : xs.length = vs.length) (hloc : xs.all (fun x => sc.lookup x == some .local) = true) (hoc : oc.all (fun x => sc.lookup x != some .cell && (fd.closure.lookup x).isNone) = true)
    (hnm : nm.Nodup) (hap : fd.closure.Pairwise fun x y => x.2 ≠ y.2) (hcl : ∀ x a, fd.closure.lookup x = some a → Z a = none ∧ ∃ v, s.heap.IsCell a v) (hω : ∀ p ∈ ω, Owned Z s.heap p) (hωn : (ω.map (·.1)).Nodup)
    (hv : ∀ L h', h'.Ns L (fun x => (xs.zip vs).reverse.lookup x) → (∀ b o, s.heap.get? b = some o → h'.get? b = some o) → Vars (callEnv fd L f) Z h' nm ρ)
    (h : ∀ L (X : Addr → Prop) A' s₁ E', Room (n + 1) A' → Inv C Z s₁ → Step C Z s Z s₁ → (∀ b, X b → s.heap.get? b = none ∨ b ∈ ω.map (·.1)) → FSp (callEnv fd L f) nm oc sc X ρ ω (fun _ => none) Z s₁.heap →
      wpAny (model C.prog C.w) A' (execs body (callEnv fd L f)) (fun fl s' => Q (match fl with | .ret v => v | _ => .none) s') E' s₁)
    (hco : fd.scope.isCoroutine = false) (hgen : fd.scope.isGenerator = false) (hk : fd.scope.kind = .function) :
    wpAny (model C.prog C.w) A (call (.ref f) vs) Q E s :=
  clo_enterW (args := ⟨vs, []⟩) hq I hA ho hd hc hcd hbody hsc hgl hbl hcell (BindsTo.of_eq hbind) hlen hloc hoc hnm hap hcl (fun a => s.heap.get? a = none ∨ a ∈ ω.map (·.1)) (fun _ h => .inl h) (fun p hp => .inr (List.mem_map_of_mem hp)) hω hωn hv
    (fun L A' s₁ E' hA' I' st _ H => h L _ A' s₁ E' hA' I' st (fun _ hb => hb) H) hco hgen hk
end
end
section
open PySem.SeqAt
section
variable {C : Cx} {X Y : Addr → Prop} {Z Z' : Fz} {s s' : Shared}
theorem StepX.grow (I : Inv C Z s) {P c' : Addr} {pos : Pos} {qual : Str} {h' : Heap} {oc fo : Obj} {vs : Array Value} {tt : Tok} {tk : Nat} (hT : (P, pos, qual) ∈ C.tabs) (hu : ∀ t ∈ C.tabs, t.1 = P → t = (P, pos, qual)) (hx : Heap.ExtBut P s.heap h')
    (hge : s.heap.objs.size ≤ c') (hlt : c' < h'.objs.size) (hoc : h'.get? c' = some oc) (hod : oc.data = .fields vs) (hq : vs[1]? = some (.str qual tt)) (hP : h'.get? P = some (tabObj #[rawInt pos.line, rawInt pos.col, .ref c'])) (hff : fo.isFreed = false) :
    StepX C X Z s (put (put Z c' oc) h'.objs.size fo) { s with heap := h'.push fo, toks := tk } := by
  have hPl : P < s.heap.objs.size := by obtain ⟨ps, e, _⟩ := I.tabs _ hT; exact Heap.lt_size e
  have hcs : s.heap.get? c' = none := get?_above hge
  have hfs : s.heap.get? h'.objs.size = none := get?_above (Nat.le_trans hge (Nat.le_of_lt hlt))
  have zc : Z c' = none := I.fresh hcs
  have zf : Z h'.objs.size = none := I.fresh hfs
  have zf' : put Z c' oc h'.objs.size = none := by rw [put_ne (Nat.ne_of_gt hlt)]; exact zf
  have le : Le Z (put (put Z c' oc) h'.objs.size fo) := (le_put zc).trans (le_put zf')
  have ne : ∀ b o, s.heap.get? b = some o → b ≠ c' ∧ b ≠ h'.objs.size := fun b o e => by
    have := Heap.lt_size e
    exact ⟨Nat.ne_of_lt (Nat.lt_of_lt_of_le this hge), Nat.ne_of_lt (Nat.lt_trans (Nat.lt_of_lt_of_le this hge) hlt)⟩
  refine ⟨le, fun b o e => ?_, fun b o e _ ht => Heap.get?_push_of_some _ (hx b o (ht _ hT) e), ⟨rfl, rfl, rfl⟩, ⟨I.base.trans le, fun b o e => ?_, fun t ht => ?_, fun t ht => ?_⟩⟩
  · by_cases q : b = h'.objs.size
    · exact .inr (.inl (q ▸ hfs))
    · rw [put_ne q] at e
      by_cases q' : b = c'
      · exact .inr (.inl (q' ▸ hcs))
      · rw [put_ne q'] at e; exact .inl e
  · by_cases q : b = h'.objs.size
    · subst q; rw [put_self] at e; cases e; exact Heap.get?_push_size _ hff
    · rw [put_ne q] at e
      by_cases q' : b = c'
      · subst q'; rw [put_self] at e; cases e; exact Heap.get?_push_of_some _ hoc
      · rw [put_ne q'] at e
        have hbP : b ≠ P := fun q2 => by rw [q2, I.off _ hT] at e; cases e
        exact Heap.get?_push_of_some _ (hx b o hbP (I.heap b o e))
  · by_cases q : t.1 = P
    · have e := hu t ht q
      subst e
      exact ⟨_, Heap.get?_push_of_some _ hP, .inr ⟨c', rfl, oc, vs, tt, by
        rw [put_ne (Nat.ne_of_lt hlt)]; exact put_self, hod, hq⟩⟩
    · obtain ⟨ps, e, r⟩ := I.tabs t ht
      exact ⟨ps, Heap.get?_push_of_some _ (hx _ _ q e), r.imp id fun ⟨c, e1, e2⟩ => ⟨c, e1, e2.le le⟩⟩
  · obtain ⟨ps, e, _⟩ := I.tabs t ht
    obtain ⟨n1, n2⟩ := ne _ _ e
    rw [put_ne n2, put_ne n1]; exact I.off t ht
noncomputable def cloV (name qual : Str) (params : Arguments) (body : List Stmt) (scope : Scope) (clos : List (Str × Addr)) : Vp :=
  ⟨fun Z v => ∃ fa doc pm c' ctv, v = .ref fa ∧ Z fa = some { cls := .type "function", data := .func (fnX name qual params body scope clos .none .none doc pm none (.ref c') ctv) } ∧ CodeIn Z c' qual,
   fun k ⟨fa, doc, pm, c', ctv, e, z, r⟩ => ⟨fa, doc, pm, c', ctv, e, k _ _ z, r.le k⟩⟩
noncomputable def TopB (C : Cx) : Prop := ∀ h : Heap, (∀ b o, C.Z0 b = some o → h.get? b = some o) → ∃ mg, h.Ns mainGlobals mg ∧ ∀ t ∈ C.tabs, mainGlobals ≠ t.1 ∧ h.BuiltinsAt mg t.1
noncomputable def HdZ (C : Cx) (c P : Addr) : Prop := ∀ h : Heap, (∀ b o, C.Z0 b = some o → h.get? b = some o) → CodeHd h c P
variable {n : Nat} {env : Env} {nm oc : List Str} {sc : List (Str × NameKind)} {ω : List (Addr × List PV)} {κ : Addr → Option Obj} {ρ ρ' : List (Option Vp)} {R : Vp}
theorem ex_nest {name qual : Str} {args : Arguments} {body : List Stmt} {scope : Scope} {pos : Pos} {c P : Addr} {clos : List (Str × Addr)} (hB : TopB C) (hH : HdZ C c P) (hT : (P, pos, qual) ∈ C.tabs) (hu : ∀ t ∈ C.tabs, t.1 = P → t = (P, pos, qual))
    (hcode : env.code = .ref c) (hgl : env.globals = mainGlobals) (hqual : qualnameIn env name name = qual) (hda : defaultsOf args env = ([], [])) (hann : annTrees args none env = []) (hcl : closureFor scope env = pure clos)
    (up : Upd nm ρ name (some (cloV name qual args body scope clos)) ρ') (pl : PlainName name) (hk : canSt sc oc name = true) :
    EX C n X (FS C env nm oc sc X ρ ω κ) (exec (.FunctionDef name args body [] none [] scope none name pos) env) (FS C env nm oc sc X ρ' ω κ) R := fun A s Z Q E hA I H kn kr => by
  rw [exec_def, hqual, hda, hann]
  refine wpAny_bind (wpAny_standAt (wpAny_bind (wpAny_holding ?_)))
  refine wpAny_bind (wpAny_pure (wpAny_bind (wpAny_holding (wpAny_pure (wpAny_holding (wpAny_bind (wpAny_pure ?_)))))))
  obtain ⟨mg, hg, hb⟩ := hB s.heap fun b o e => I.heap _ _ (I.base _ _ e)
  obtain ⟨hgP, hbi⟩ := hb _ hT
  have hhd := hH s.heap fun b o e => I.heap _ _ (I.base _ _ e)
  obtain ⟨ps, hP, hps⟩ := I.tabs _ hT
  have fin : ∀ {fa : Addr} {Z₁ : Fz} {s₁ : Shared}, Step C Z s Z₁ s₁ → (cloV name qual args body scope clos).at_ Z₁ (.ref fa) → wpAny (model C.prog C.w) A (standAt pos >>= fun _ => bindName env name (.ref fa) >>= fun _ => pure Flow.next) Q E s₁ := fun x hv => by
    refine wpAny_bind (wpAny_standAt (wpAny_bind (bindName_ (st_name x.inv ((FS C env nm oc sc X ρ ω κ).stable I H x) hv up pl hk fun s' x' H' => wpAny_pure ?_))))
    exact kn _ s' ((Step.to x).trans x') H'
  rcases hps with rfl | ⟨c', rfl, hci⟩
  · refine makeFunction_K hcl hgl hg hcode hhd hP trivial rfl hgP hbi fun c' ctv doc h' tk hx hge hlt hrec hP' => ?_
    obtain ⟨c₂, o, vs, t, e, g, hod, hq⟩ := hrec
    cases e
    have st := StepX.grow (X := No) I hT hu hx hge hlt g hod hq hP' (fo := fnMade name qual args body scope clos doc ((mg "__name__").getD .none) c' ctv) (tk := tk) rfl
    refine fin st ⟨_, doc, _, c', ctv, rfl, put_self, o, vs, t, ?_, hod, hq⟩
    rw [put_ne (Nat.ne_of_lt hlt)]; exact put_self
  · refine makeFunction_hit hcl hgl hg hcode hhd hP trivial (cv := .ref c') ?_ hbi fun ctv doc h' tk hk' hsz => ?_
    · simp [rawInt, codeAmong]
    · have st1 : Step C Z s Z { s with heap := h', toks := tk } := .keeps I hk'
      have st2 := StepX.alloc (X := No) st1.inv (o := { cls := .type "function", data := .func (fnX name qual args body scope clos .none .none doc ((mg "__name__").getD .none) none (.ref c') ctv) }) (t := tk) rfl
      exact fin (st1.trans st2) ⟨_, doc, _, c', ctv, rfl, put_self, hci.le st2.le⟩
end
end
section
open PySem.SeqAt
section
variable {C : Cx} {n : Nat} {X : Addr → Prop} {Φ Ψ Θ : Asn C} {R : Vp} {env : Env} {st : Stmt} {rest b o : List Stmt} {pos : Pos} {RA : Fz → Heap → Value → Prop}
noncomputable def EXG (C : Cx) (n : Nat) (X : Addr → Prop) (Φ : Asn C) (t : Sem Flow) (Ψ : Asn C) (RA : Fz → Heap → Value → Prop) : Prop :=
  ∀ (A : Around) (s : Shared) (Z : Fz) (Q : Flow → Shared → Prop) (E : Value → Shared → Prop), Room n A → Inv C Z s → Φ.at_ Z s.heap →
    (∀ Z' s', StepX C X Z s Z' s' → Ψ.at_ Z' s'.heap → Q .next s') → (∀ v Z' s', StepX C X Z s Z' s' → RA Z' s'.heap v → Q (.ret v) s') → wpAny (model C.prog C.w) A t Q E s
theorem eg_end (h : ∀ {Z h}, Φ.at_ Z h → Ψ.at_ Z h) : EXG C n X Φ (execs [] env) Ψ RA := fun A s Z Q E hA I H kn kr => wpAny_execs_nil (kn Z s (StepX.refl I) (h H))
theorem eg_cons (h1 : EX C n X Φ (exec st env) Ψ offV) (h2 : EXG C n X Ψ (execs rest env) Θ RA) : EXG C n X Φ (execs (st :: rest) env) Θ RA := fun A s Z Q E hA I H kn kr =>
  wpAny_execs_cons (h1 A s Z _ E hA I H (fun Z₁ s₁ x₁ H₁ => h2 A s₁ Z₁ Q E hA x₁.inv H₁ (fun Z₂ s₂ x₂ H₂ => kn Z₂ s₂ (x₁.trans x₂) H₂) fun v Z₂ s₂ x₂ r => kr v Z₂ s₂ (x₁.trans x₂) r) fun v Z₁ s₁ x₁ r => r.elim)
theorem eg_ifs {t : Expr} {c : Bool} (ht : TV C n Φ (isTrue t env (eval t env)) c) (hb : c = true → EXG C n X Φ (execs (b ++ rest) env) Ψ RA) (ho : c = false → EXG C n X Φ (execs (o ++ rest) env) Ψ RA) :
    EXG C n X Φ (execs (.If t b o pos :: rest) env) Ψ RA := fun A s Z Q E hA I H k kr => by
  rw [execs_if]
  refine wpAny_bind (wpAny_standAt (wpAny_bind (ht A s Z _ E hA I H fun Z₁ s₁ x₁ => ?_)))
  cases c with
  | true => exact hb rfl A s₁ Z₁ Q E hA x₁.inv (Φ.stable I H x₁) (fun Z₂ s₂ x₂ H₂ => k Z₂ s₂ (x₁.to.trans x₂) H₂) fun v Z₂ s₂ x₂ r => kr v Z₂ s₂ (x₁.to.trans x₂) r
  | false => exact ho rfl A s₁ Z₁ Q E hA x₁.inv (Φ.stable I H x₁) (fun Z₂ s₂ x₂ H₂ => k Z₂ s₂ (x₁.to.trans x₂) H₂) fun v Z₂ s₂ x₂ r => kr v Z₂ s₂ (x₁.to.trans x₂) r
theorem eg_ret0 (h : ∀ {Z h}, Φ.at_ Z h → RA Z h .none) : EXG C n X Φ (execs (.Return none pos :: rest) env) Ψ RA := fun A s Z Q E hA I H kn kr =>
  wpAny_execs_cons (wpAny_Return_none (kr .none Z s (StepX.refl I) (h H)))
theorem eg_ret {e : Expr} {P : Vp} (he : EV C n Φ (eval e env) P) (h : ∀ {Z h v}, Φ.at_ Z h → P.at_ Z v → RA Z h v) : EXG C n X Φ (execs (.Return (some e) pos :: rest) env) Ψ RA := fun A s Z Q E hA I H kn kr =>
  wpAny_execs_cons (wpAny_Return_some (he A s Z _ E hA I H fun v Z' s' x p => kr v Z' s' x.to (h (Φ.stable I H x) p)))
end
section
variable {prog : Program} {w : World} {A : Around} {E : Value → Shared → Prop} {s : Shared}
theorem setItem_plain {l : Addr} {items : Array Value} {k : Int} {t : Tok} {v : Value} {Q : Unit → Shared → Prop} (hl : s.heap.PlainList l items)
    (h0 : 0 ≤ k) (hfit : k < 2 ^ 63) (hn : k < items.size)
    (hQ : ∀ h', h'.PlainList l (items.setIfInBounds k.toNat v) → Heap.SameBut l s.heap h' → Q () { s with heap := h' }) :
    wpAny (model prog w) A (setItem (.ref l) (.int k t) v) Q E s := by
  obtain ⟨m, ho⟩ := id hl
  have hil := hl.isList
  have hf := fitsIndex_of h0 hfit
  clear hfit
  unfold setItem
  try with_reducible refine wpAny_holding ?_
  first | refine wpAny_bind (wpAny_pure ?_) | skip
  refine wpAny_bind (wpAny_sequenceKey hil.typeIs (by decide) ?_)
  refine wpAny_bind (wpAny_callSpecial?_slot (name := sQ "__setitem__") hil.typeIs slot_list_setitem
    (wpAny_call_entry slot_list_setitem hil.typeIs entry_list_setitem ?_ (args_list_setitem _ _ _)))
  show wpAny _ _ (Builtin.List.listSubscript? (.int k t) >>= _) _ _ s
  refine wpAny_bind (wpAny_listSubscript_int hf ?_)
  obtain ⟨j, rfl⟩ := Int.eq_ofNat_of_zero_le h0
  have hj : j < items.size := by lia
  show wpAny _ _ ((seqItemAt l j >>= fun r => pure (r.map (j, ·))) >>= _) _ _ s
  refine wpAny_bind (wpAny_bind (wpAny_seqItemAt ho rfl (wpAny_pure ?_)))
  rw [Array.getElem?_eq_getElem hj]
  show wpAny _ _ (setSeqItemAt l j v >>= _) _ _ s
  have fin : (s.heap.update l (Obj.mapSeq (·.setIfInBounds j v))).PlainList l (items.setIfInBounds j v) := by
    obtain ⟨n', hd'⟩ := Obj.data_mapSeq (o := { cls := .type "list", data := .seq items m }) rfl (·.setIfInBounds j v)
    exact ⟨_, Heap.get?_update_self _ ho (Obj.isFreed_of_seq hd')⟩
  refine wpAny_bind (wpAny_setSeqItemAt ho rfl ?_)
  first
    | exact wpAny_bind (wpAny_pure (wpAny_pure ⟨.none, rfl, wpAny_pure (hQ _ fin (Heap.SameBut.update ..))⟩))
    | exact wpAny_pure ⟨.none, rfl, wpAny_pure (hQ _ fin (Heap.SameBut.update ..))⟩
end
end
section
open PySem.SeqAt
section
variable {C : Cx} {n : Nat} {X : Addr → Prop} {Z Z' : Fz} {s s' : Shared} {R : Vp} {env : Env} {nm oc : List Str} {sc : List (Str × NameKind)} {ω ω' : List (Addr × List PV)} {κ : Addr → Option Obj} {ρ : List (Option Vp)} {pos : Pos}
theorem FSp.reown {a : Addr} {ds ds' : List PV} (I : Inv C Z s) (H : FSp env nm oc sc X ρ ω κ Z s.heap) (u : OU ω a ds ds' ω') (x : StepX C (· = a) Z s Z' s') (ho : Owned Z' s'.heap (a, ds')) :
    StepX C X Z s Z' s' ∧ FSp env nm oc sc X ρ ω' κ Z' s'.heap := by
  obtain ⟨hz, vs, m, e, r⟩ := H.own _ u.mem
  replace hz : Z a = none := hz
  replace e : s.heap.get? a = some { cls := .type "list", data := .seq vs.toArray m } := e
  have hX : X a := H.ownX _ u.mem
  have nl : env.locals ≠ a := fun q => by
    obtain ⟨_, o, _, _, e', d, _⟩ := H.loc
    rw [q, e] at e'; cases e'; cases d
  have nc : ∀ n c, env.cells.lookup n = some c → c ≠ a := fun n c hc q => by
    obtain ⟨_, v, o, e', d⟩ := H.cells n c hc
    rw [q, e] at e'; cases e'; cases d
  have H0 : FSp env nm oc sc X ρ [] κ Z s.heap := ⟨H.names, H.gl, H.bl, H.cellH, H.fn, H.nodup, H.apart, H.loc, H.locX, H.locZ, H.cells, H.cellX, H.cof, H.vars, (fun _ h => nomatch h), (fun _ h => nomatch h), List.Pairwise.nil, fun b o e =>
    let h := H.held b o e; ⟨h.z, h.at_, h.tab, h.loc, h.cell, fun _ h => nomatch h⟩, H.heldX⟩
  have H1 := H0.step I x (fun q => nl q) (fun n c hc q => nc n c hc q) (fun _ h => nomatch h) (fun b o e q => (H.held b o e).own _ u.mem q) fun b q => q ▸ hX
  refine ⟨x.mono fun b q => q ▸ hX, H1.names, H1.gl, H1.bl, H1.cellH, H1.fn, H1.nodup, H1.apart, H1.loc, H1.locX, H1.locZ, H1.cells, H1.cellX, H1.cof, H1.vars, ?_, ?_, ?_, fun b o eb => ?_, H1.heldX⟩
  · refine u.all H.ownN (fun p hp hne => ?_) ho
    obtain ⟨hz', vs, m, e, r⟩ := H.own p hp
    have e' := x.keep _ _ e hne (I.tab_fields e fun ps q => by cases q)
    exact ⟨x.stillNone hz' e hne, vs, m, e', r.le x.le⟩
  · exact u.all H.ownN (fun p hp _ => H.ownX p hp) hX
  · rw [u.keys]; exact H.ownN
  · have h := H1.held b o eb
    have h0 := H.held b o eb
    have hb : b ≠ a := h0.own _ u.mem
    exact ⟨h.z, h.at_, h.tab, h.loc, h.cell, u.all H.ownN (fun p hp _ => h0.own p hp) hb⟩
theorem RdL.setAt {v : Value} {d : PV} (p : Rd Z v d) {vs : List Value} {ds : List PV} (h : RdL Z vs ds) (i : Nat) : RdL Z (vs.set i v) (ds.set i d) := by
  induction ds generalizing vs i with
  | nil => have e : vs = [] := rdli h; subst e; exact h
  | cons x ds ih =>
    obtain ⟨y, r, rfl, hy, h⟩ := rdli h
    cases i with
    | zero => exact .cons p h
    | succ i => exact .cons hy (ih h i)
theorem ex_setitem {x : Str} {xp sp : Pos} {ie e : Expr} {a : Addr} {i : Nat} {d : PV} {ds : List PV} (hx : At nm ρ x (isv (.ref a))) (he : EV C n (FS C env nm oc sc X ρ ω κ) (eval e env) (is d)) (hi : EV C n (FS C env nm oc sc X ρ ω κ) (eval ie env) (is (.int i))) (u : OU ω a ds (ds.set i d) ω') (hlt : i < ds.length) (hsz : i < 2 ^ 62)
    (hs : swapsWith e (some (.Subscript (.Name x xp) ie sp)) pos.line env = pure false := by rfl) :
    EX C n X (FS C env nm oc sc X ρ ω κ) (exec (.Assign [.Subscript (.Name x xp) ie sp] e pos) env) (FS C env nm oc sc X ρ ω' κ) R := fun A s Z Q E hA I H kn kr => by
  rw [PySem.exec_Assign_Subscript (hs := hs)]
  refine wpAny_bind (wpAny_standAt (wpAny_bind (he A s Z _ E hA I H fun v Z₁ s₁ x₁ pv => ?_)))
  have H₁ := (FS C env nm oc sc X ρ ω κ).stable I H x₁
  rw [assign_Subscript]
  refine wpAny_bind (wpAny_bind (wpAny_holding (ev_name (n := n) hx A s₁ Z₁ _ E hA x₁.inv H₁ fun v₂ Z₂ s₂ x₂ pv₂ => ?_)))
  cases pv₂
  have H₂ := (FS C env nm oc sc X ρ ω κ).stable x₁.inv H₁ x₂
  refine wpAny_bind (wpAny_holding (hi A s₂ Z₂ _ E hA x₂.inv H₂ fun v₃ Z₃ s₃ x₃ pv₃ => ?_))
  have H₃ := (FS C env nm oc sc X ρ ω κ).stable x₂.inv H₂ x₃
  refine wpAny_bind (wpAny_standAt (wpAny_bind (wpAny_holding ?_)))
  obtain ⟨_, rfl⟩ := rdi pv₃
  obtain ⟨hz, vs, m, e', r⟩ := H₃.own _ u.mem
  refine setItem_plain ⟨m, e'⟩ (Int.natCast_nonneg _) (by lia) (by rw [List.size_toArray, r.length]; exact Int.ofNat_lt.mpr hlt) fun h' hl hsb => ?_
  have hr : RdL Z₃ (vs.set i v) (ds.set i d) := by
    exact r.setAt (pv.le (x₂.le.trans x₃.le)) i
  obtain ⟨st, H₄⟩ := H₃.setOwn (t := s₃.toks) x₃.inv u hsb (vs' := vs.set i v) (by simpa using hl) hr
  refine wpAny_release (wpAny_pure (kn Z₃ _ ((((Step.to x₁).trans (Step.to x₂)).trans (Step.to x₃)).trans st) H₄))
end
end
section
open PySem.SeqAt
section
variable {C : Cx} {n : Nat} {X : Addr → Prop} {R : Vp} {env : Env} {nm oc : List Str} {sc : List (Str × NameKind)} {ω ω' : List (Addr × List PV)} {κ : Addr → Option Obj} {ρ : List (Option Vp)} {pos p p2 : Pos} {Φ : Asn C}
theorem rep_fold (v : Value) : ∀ (k : Nat) (a : Array Value), List.foldl (fun x1 x2 => x1 ++ x2) a (List.replicate k #[v]) = a ++ (List.replicate k v).toArray
  | 0, a => by simp
  | k + 1, a => by
    rw [List.replicate_succ, List.foldl_cons, rep_fold v k, List.replicate_succ]
    apply Array.toList_inj.mp
    simp
theorem RdL.rep {Z : Fz} {v : Value} {d : PV} (h : Rd Z v d) : ∀ k, RdL Z (List.replicate k v) (List.replicate k d)
  | 0 => .nil
  | k + 1 => .cons h (RdL.rep h k)
theorem rep_call {prog : Program} {w : World} {A : Around} {E : Value → Shared → Prop} {s : Shared} {l : Addr} {items : Array Value} {m : Nat} {x : Int} {u : Tok} {Q : Value → Shared → Prop}
    (hl : s.heap.get? l = some { cls := .type "list", dict := none, data := .seq items m, slots := #[] }) (hlo : -(2 ^ 63 : Int) ≤ x) (hhi : x < 2 ^ 63) (hsz : items.size * x.toNat ≤ 2 ^ 24)
    (h : Q (.ref s.heap.objs.size) { s with heap := s.heap.push { cls := .type "list", data := .seq (List.foldl (fun x1 x2 => x1 ++ x2) #[] (List.replicate (if items.isEmpty = true then 0 else x.toNat) items)) } }) :
    wpAny (model prog w) A (binaryOp .Mult (.ref l) (.int x u)) Q E s :=
  wpAny_binaryOp_repeat_ref (T := "list") (U := "int") (by decide) ⟨_, hl, rfl⟩ (fun s' => typeIs_int s' x u) noFill_list_mul F.fills_int_mul F.slot_int_rmul repeat_list F.slot_int_index.lookup
    (call_meets F.slot_int_rmul (typeIs_int s x u) F.entry_int_rmul (F.args_int_rmul_2 _ _) (int___rmul___int_list x u l items m)
      ⟨hl, rfl, ⟨_, hl, rfl⟩, call_meets F.slot_list_mul ⟨_, hl, rfl⟩ F.entry_list_mul (F.args_list_mul_2 _ _)
        (AutoListH.list___mul___list_int_3 l items m x u (by simp [Builtin.List.listFitsIndex]; lia) (by lia) (by simp [Builtin.List.listTooLong, sizeLine]; lia))
        ⟨hl, h⟩⟩)
theorem evn_rep {l r : Expr} {d : PV} {k : Nat} (hl : EV C n Φ (eval l env) (is (.list [d]))) (hr : EV C n Φ (eval r env) (is (.int k))) (hsz : k ≤ 2 ^ 24) : EVN C n Φ (eval (.BinOp l .Mult r pos) env) (fun a => isv (.ref a)) (List.replicate k d) := fun A s Z Q E hA I H kk => by
  refine wpAny_BinOp (hl A s Z _ E hA I H fun v Z₁ s₁ x₁ pv => ?_)
  refine hr A s₁ Z₁ _ E hA x₁.inv (Φ.stable I H x₁) fun u Z₂ s₂ x₂ pu => ?_
  obtain ⟨t, rfl⟩ := rdi pu
  obtain ⟨a, m, vs, rfl, hz, rr⟩ := rdi pv
  obtain ⟨v, _, rfl, hv, rr⟩ := rdli rr
  obtain rfl := rdli rr
  have hg := x₂.inv.heap _ _ (x₂.le _ _ hz)
  have e : List.foldl (fun x1 x2 => x1 ++ x2) #[] (List.replicate (if ([v].toArray).isEmpty = true then 0 else (k : Int).toNat) [v].toArray) = (List.replicate k v).toArray := by
    have := rep_fold v k #[]
    simpa using this
  refine rep_call hg (by lia) (by lia) (by simpa using hsz) ?_
  rw [e]
  have hf := get?_above (Nat.le_refl s₂.heap.objs.size)
  have st := StepX.push (X := No) x₂.inv (o := { cls := .type "list", data := .seq (List.replicate k v).toArray }) (t := s₂.toks)
  have ho : Owned Z₂ (s₂.heap.push { cls := .type "list", data := .seq (List.replicate k v).toArray }) (s₂.heap.objs.size, List.replicate k d) := ⟨x₂.inv.fresh hf, List.replicate k v, 0, Heap.get?_push_size _ rfl, RdL.rep (hv.le x₂.le) k⟩
  exact kk s₂.heap.objs.size _ Z₂ _ ((x₁.trans x₂).trans st) (((x₁.trans x₂).gone hf).elim id fun q => q.elim) ho rfl
theorem ev_len_own {x : Str} {a : Addr} {ds : List PV} (hb : BltZ C (sQ "len") (.builtin "len")) (hx : At nm ρ x (isv (.ref a))) (hm : (a, ds) ∈ ω) (hsz : ds.length < 2 ^ 62) (hk : sc.lookup (sQ "len") = some .globalImplicit) :
    EV C n (FS C env nm oc sc X ρ ω κ) (eval (.Call (.Name (sQ "len") p) [.Name x p2] [] pos) env) (is (.int ds.length)) := fun A s Z Q E hA I H k => by
  refine wpAny_Call_NameR (ev_blt (n := n) hb hk (by decide) A s Z _ E hA I H fun v Z₁ s₁ x₁ pv => ?_)
  cases pv
  have H₁ := (FS C env nm oc sc X ρ ω κ).stable I H x₁
  refine callWith_builtin1 (el_cons (ev_name (n := n) hx) el_nil rfl A s₁ Z₁ _ E hA x₁.inv H₁ fun vs Z₂ s₂ x₂ hs => ?_) rfl rfl
  have H₂ := (FS C env nm oc sc X ρ ω κ).stable x₁.inv H₁ x₂
  obtain ⟨_, _, rfl, hv, hr⟩ := sati hs
  obtain rfl := sati hr
  cases hv
  obtain ⟨hz, vs, m, e, r⟩ := H₂.own _ hm
  have er := r.length
  refine Calls.call_len_list ⟨_, e, rfl, m, rfl⟩ (by rw [List.size_toArray, er]; exact Int.ofNat_lt.mpr (by show ds.length < 2 ^ 63; lia)) ?_
  rw [List.size_toArray, er]
  exact k _ Z₂ _ ((x₁.trans x₂).trans (Step.toks x₂.inv _)) (.int _ _)
end
end
section
open PySem.SeqAt
section
variable {C : Cx} {n : Nat} {X : Addr → Prop} {R : Vp} {env : Env} {nm oc : List Str} {sc : List (Str × NameKind)} {ω ω' : List (Addr × List PV)} {κ : Addr → Option Obj} {ρ : List (Option Vp)} {pos p p2 : Pos} {Φ : Asn C}
theorem RdL.rev {Z : Fz} {vs : List Value} {ds : List PV} (h : RdL Z vs ds) : RdL Z vs.reverse ds.reverse := by
  induction ds generalizing vs with
  | nil => have e : vs = [] := rdli h; subst e; exact h
  | cons x ds ih =>
    obtain ⟨y, r, rfl, hy, h⟩ := rdli h
    rw [List.reverse_cons, List.reverse_cons]
    exact (ih h).append (.cons hy .nil)
theorem ex_reverse {r : Str} {p1 apos cpos epos : Pos} {a : Addr} {ds : List PV} (hr : At nm ρ r (isv (.ref a))) (u : OU ω a ds ds.reverse ω') (hsz : ds.length ≤ sizeLine)
    (hbase : attributeBase (.Name r p1) "reverse" env (eval (.Name r p1) env) = eval (.Name r p1) env := by rfl) (hline : (apos.endLine == cpos.line) = true := by rfl) (hi : interactive env = false := by rfl) :
    EX C n X (FS C env nm oc sc X ρ ω κ) (exec (.Expr (.Call (.Attribute (.Name r p1) "reverse" apos) [] [] cpos) epos) env) (FS C env nm oc sc X ρ ω' κ) R := fun A s Z Q E hA I H kn kr => by
  rw [PySem.exec_Expr (hi := hi) (hs := rfl)]
  refine wpAny_bind (wpAny_standAt (wpAny_bind (wpAny_Call_method0_late hbase hline (ev_name (n := n) hr A s Z _ E hA I H fun v Z₁ s₁ x₁ pv => ?_))))
  cases pv
  have H₁ := (FS C env nm oc sc X ρ ω κ).stable I H x₁
  obtain ⟨hz, vs, mm, e, rr⟩ := H₁.own _ u.mem
  refine ⟨"list", "list.reverse", F.plainAttrs_list, F.slot_list_reverse, F.type_list_reverse, ⟨_, e, rfl⟩, fun b hb => ?_, ?_⟩
  · cases hb; exact ⟨_, e, rfl⟩
  · refine P.reverse_list (items := vs.toArray) (n := mm) e ?_ (by rw [List.size_toArray, rr.length]; exact hsz)
    obtain ⟨n', hd'⟩ := Obj.data_mapSeq (o := { cls := .type "list", data := .seq vs.toArray mm }) rfl (fun x => x.reverse)
    obtain ⟨st, H₂⟩ := H₁.setOwn (t := s₁.toks) (h' := s₁.heap.update a (Obj.mapSeq fun x => x.reverse)) x₁.inv u (Heap.SameBut.update ..) (vs' := vs.reverse) ⟨_, by
      rw [Heap.get?_update_self _ e (Obj.isFreed_of_seq hd')]
      simp only [Obj.mapSeq, List.reverse_toArray]; rfl⟩ (RdL.rev rr)
    rw [dropValue_plain (by intro _ q; cases q)]
    exact wpAny_pure (kn Z₁ _ ((Step.to x₁).trans st) H₂)
end
end
section
open PySem.SeqAt
theorem slot_search : Slot "re.Pattern" (sQ "search") "re.Pattern.search" :=
  .of (owner := "re.Pattern") (n := "search") (by rw [typeLookup_type, builtinLookup_eq_fast]; kernel_rfl) (by decide +kernel) (by decide +kernel) (by decide +kernel)
    (by first | exact .inl (by decide +kernel) | exact .inr (by decide +kernel)) (by rw [isSubtype_type]; kernel_rfl)
theorem type_search : typeOf (.builtin "re.Pattern.search") = pure (.type "method_descriptor") := by show builtinType _ = _; rw [builtinType_eq_fast]; kernel_rfl
theorem entry_search : entryFor table "re.Pattern.search" = some Builtin.«re.Pattern.search» := entryFor_of_tree (by kernel_rfl)
theorem args_search (a b : Value) : argsOk "re.Pattern.search" ⟨[a, b], []⟩ := by unfold argsOk; kernel_rfl
theorem plainAttrs_pattern : PlainAttrs "re.Pattern" :=
  ⟨⟨"object.__getattribute__", by rw [typeLookup_type, builtinLookup_eq_fast]; kernel_rfl, by decide +kernel⟩, by rw [typeLookup_type, builtinLookup_eq_fast]; kernel_rfl⟩
noncomputable def driveP : Nat → Sre.M → Option Sre.M
  | 0, _ => none
  | k + 1, m => let m := m.runFor 4; if m.outcome.isSome then some m else driveP k m
noncomputable def missed (m : Sre.M) : Bool := match m.outcome with
  | some .failed => true
  | _ => false
noncomputable def noHit (code text : Array Nat) (groups : Nat) : Bool := match driveP 400 (Sre.forSearch code text groups 0 text.size false) with
  | some m => missed m
  | none => false
section
variable {M : Model} {A : Around} {E : Value → Shared → Prop} {s : Shared}
theorem reDrive_succ (t : Nat) (m : Sre.M) : Builtin.Re.reDrive (t + 1) m = if (m.runFor 4).outcome.isSome = true then pure (m.runFor 4) else (rule "sre.turn" >>= fun _ => Builtin.Re.reDrive t (m.runFor 4)) := rfl
theorem driveP_succ (t : Nat) (m : Sre.M) : driveP (t + 1) m = if (m.runFor 4).outcome.isSome = true then some (m.runFor 4) else driveP t (m.runFor 4) := rfl
theorem drive_run {m' : Sre.M} {Q : Sre.M → Shared → Prop} (q : Q m' s) : ∀ (k t : Nat) (m : Sre.M), k ≤ t → driveP k m = some m' → wpAny M A (Builtin.Re.reDrive t m) Q E s := by
  intro k
  induction k with
  | zero => intro t m h e; cases e
  | succ k ih =>
    intro t m h e
    cases t with
    | zero => lia
    | succ t =>
      rw [driveP_succ] at e
      rw [reDrive_succ]
      generalize m.runFor 4 = n at e ⊢
      by_cases ho : n.outcome.isSome = true
      · rw [if_pos ho] at e ⊢
        cases e
        exact wpAny_pure q
      · rw [if_neg ho] at e ⊢
        exact wpAny_bind (wpAny_rule (ih t n (by lia) e))
theorem rules_run {α : Type} (f : α → Bool) (g : α → String) {Q : PUnit → Shared → Prop} (q : Q PUnit.unit s) : ∀ (l : List α),
    wpAny M A (forIn l PUnit.unit fun i _ => if f i = true then (rule (g i) >>= fun _ => pure (ForInStep.yield PUnit.unit)) else pure (ForInStep.yield PUnit.unit)) Q E s
  | [] => wpAny_pure q
  | a :: l => by
    rw [List.forIn_cons]
    by_cases h : f a = true
    · rw [if_pos h]
      exact wpAny_bind (wpAny_bind (wpAny_rule (wpAny_pure (rules_run f g q l))))
    · rw [if_neg h]
      exact wpAny_bind (wpAny_pure (rules_run f g q l))
theorem runEnd {m m' : Sre.M} {Q : Option Sre.M → Shared → Prop} {k : Nat} (hk : k ≤ 2 ^ 64) (e : driveP k m = some m') (hm : missed m' = true) (q : Q none s) : wpAny M A (Builtin.Re.reRunToEnd m) Q E s := by
  unfold Builtin.Re.reRunToEnd
  refine wpAny_bind (drive_run ?_ k _ m hk e)
  refine wpAny_bind (rules_run (fun i => m'.seen.has i) (fun i => Sre.names.getD i "") ?_ _)
  unfold missed at hm
  split at hm
  · rename_i h; rw [h]; exact wpAny_pure q
  · cases hm
end
theorem named_search (x : Value) : Builtin.Re.reNamed "re.Pattern.search" "search" ["string", "pos", "endpos"] 1 [x] [] = pure [some x, none, none] := rfl
section
variable {prog : Program} {w : World} {A : Around} {E : Value → Shared → Prop} {s : Shared}
theorem call_search {P L : Addr} {oP oL : Obj} {fs items : Array Value} {k : Nat} {x : Str} {t : Tok} {Q : Value → Shared → Prop} (hP : s.heap.get? P = some oP) (hc : oP.cls = .type "re.Pattern") (hd : oP.data = .fields fs)
    (f5 : fs.getD 5 .none = .ref L) (f6 : Builtin.Re.reRawNat (fs.getD 6 .none) = 0) (f2 : Builtin.Re.reRawNat (fs.getD 2 .none) = 0) (hL : s.heap.get? L = some oL) (hLd : oL.data = .seq items k) (hx : x.cps.size ≤ 2 ^ 40)
    (hno : noHit ((items.map Builtin.Re.reRawOf).map (·.toNat)) x.cps 0 = true) (h : Q .none s) : wpAny (model prog w) A (call (.builtin "re.Pattern.search") [.ref P, .str x t]) Q E s := by
  refine wpAny_call_entry slot_search ⟨_, hP, hc⟩ entry_search ?_ (args_search _ _)
  show wpAny _ _ (Builtin.Re.reTarget "re.Pattern.search" "search" ⟨[.ref P, .str x t], []⟩ >>= fun tt => Builtin.Re.reAnswer tt (Sre.forSearch tt.code tt.text tt.groups tt.pos tt.lim false)) _ _ s
  refine wpAny_bind ?_
  unfold Builtin.Re.reTarget
  dsimp only
  rw [named_search]
  refine wpAny_bind (wpAny_pure ?_)
  dsimp only
  refine wpAny_bind (wpAny_pure (wpAny_bind (wpAny_pure ?_)))
  refine wpAny_bind (wpAny_fieldsOf hP hd ?_)
  refine wpAny_bind (m := Builtin.Re.reTextOf _) (wpAny_of_eq (a := (x.cps, 0)) rfl ?_)
  dsimp only
  rw [f6, f5, f2]
  simp only [beq_self_eq_true, Bool.true_and, Bool.false_and, Nat.reduceBEq, Bool.false_eq_true, if_false, pure_bind, Bool.and_false]
  refine wpAny_bind (m := Builtin.Re.reNoCollectionInside _ 0) (wpAny_pure ?_)
  refine wpAny_bind (m := Builtin.Re.reRawItems _) (wpAny_bind (wpAny_seqItems hL hLd (wpAny_pure ?_)))
  refine wpAny_pure ?_
  have hlim : min ((2 : Int) ^ 63 - 1).toNat x.cps.size = x.cps.size := by
    have : ((2 : Int) ^ 63 - 1).toNat = 9223372036854775807 := rfl
    rw [this]; lia
  dsimp only [Option.getD_some]
  rw [hlim]
  have hmin : min (Int.toNat 0) x.cps.size = 0 := Nat.zero_min _
  rw [hmin]
  unfold noHit at hno
  split at hno
  · rename_i m' hm'
    exact wpAny_bind (runEnd (by decide) hm' hno (wpAny_pure ⟨_, rfl, h⟩))
  · cases hno
end
end
section
open PySem.SeqAt
section
variable {C : Cx} {X Y : Addr → Prop} {Z Z' : Fz} {s s' : Shared}
theorem clo_enterA {n : Nat} {A : Around} {fd : FuncData} {f c : Addr} {o : Obj} {body : List Stmt} {args : Args} {vs : List Value} {xs nm oc : List Str} {sc : List (Str × NameKind)} {ρ : List (Option Vp)} {ω : List (Addr × List PV)} {Q : Value → Shared → Prop} {E : Value → Shared → Prop}
    (hq : Quiet C) (I : Inv C Z s) (hA : Room (n + 2) A) (ho : Z f = some o) (hd : o.data = .func fd) (hc : fd.code = .ref c) (hcd : CodeIn Z c fd.qualname) (hbody : fd.body = .stmts body) (hsc : fd.scope.names = sc) (hgl : fd.globals = mainGlobals) (hbl : fd.builtins = builtinsNs)
    (hcell : sc.all (fun x => x.2 != .cell) = true) (hbind : BindsTo s fd args (xs.zip vs)) (hlen : xs.length = vs.length) (hloc : xs.all (fun x => sc.lookup x == some .local) = true) (hoc : oc.all (fun x => sc.lookup x != some .cell && (fd.closure.lookup x).isNone) = true)
    (hnm : nm.Nodup) (hap : fd.closure.Pairwise fun x y => x.2 ≠ y.2) (hcl : ∀ x a, fd.closure.lookup x = some a → Z a = none ∧ ∃ v, s.heap.IsCell a v) (hω : ∀ p ∈ ω, Owned Z s.heap p) (hωn : (ω.map (·.1)).Nodup)
    (hv : ∀ L h', h'.Ns L (fun x => (xs.zip vs).reverse.lookup x) → (∀ b o, s.heap.get? b = some o → h'.get? b = some o) → Vars (callEnv fd L f) Z h' nm ρ)
    (h : ∀ L (X : Addr → Prop) A' s₁ E', Room (n + 1) A' → Inv C Z s₁ → Step C Z s Z s₁ → (∀ b, X b → s.heap.get? b = none ∨ b ∈ ω.map (·.1)) → FSp (callEnv fd L f) nm oc sc X ρ ω (fun _ => none) Z s₁.heap →
      wpAny (model C.prog C.w) A' (execs body (callEnv fd L f)) (fun fl s' => Q (match fl with | .ret v => v | _ => .none) s') E' s₁)
    (hco : fd.scope.isCoroutine = false) (hgen : fd.scope.isGenerator = false) (hk : fd.scope.kind = .function) :
    wpAny (model C.prog C.w) A (call (.ref f) args.pos args.kw) Q E s :=
  clo_enterW hq I hA ho hd hc hcd hbody hsc hgl hbl hcell hbind hlen hloc hoc hnm hap hcl (fun a => s.heap.get? a = none ∨ a ∈ ω.map (·.1)) (fun _ h => .inl h) (fun p hp => .inr (List.mem_map_of_mem hp)) hω hωn hv
    (fun L A' s₁ E' hA' I' st _ H => h L _ A' s₁ E' hA' I' st (fun _ hb => hb) H) hco hgen hk
end
section
variable {prog : Program} {w : World} {A : Around} {E : Value → Shared → Prop} {s : Shared}
theorem type_str_val {x : Str} {t : Tok} {Q : Value → Shared → Prop} (q : Q (.type "str") s) : wpAny (model prog w) A (call (.type "type") [.str x t]) Q E s := by
  refine wpAny_call (codeAny_of_tree ?_)
  show wpAny _ _ (callAny (.type "type") ⟨[.str x t], []⟩) _ _ _
  simp only [callAny]
  refine wpAny_pure ⟨Code.quiet_builtin _ (by decide +kernel), codeAny_builtin entry_type_call ?_⟩
  unfold Builtin.«type.__call__»
  dsimp only
  unfold shownTypeOf
  repeat wp_step
  exact q
end
end
section
open PySem.SeqAt
section
variable {prog : Program} {w : World} {A : Around} {E : Value → Shared → Prop} {s : Shared} {env : Env}
theorem call_own {o : Expr} {name : Str} {apos pos : Pos} {args : List Expr} {kws : List Keyword} {Q : Value → Shared → Prop}
    (hbase : attributeBase o name env (eval o env) = eval o env) (hform : methodCallForm (args.length + kws.length) (backTo pos (starEach args env)) (backToKw pos (keywordEach kws env)) = true) (hline : (apos.endLine == pos.line) = true)
    (h : wpAny (model prog w) A (eval o env) (fun ov s₁ => ∃ T f fo fd, ov = .ref T ∧ fo.data = .func fd ∧ (∀ (E' : Value → Shared → Prop) (Q' : Value × List Value → Shared → Prop) (pl : Sem Bool), Q' (.ref f, [.ref T]) s₁ → wpAny (model prog w) A (getMethod (.ref T) name pl) Q' E' s₁) ∧
      wpAny (model prog w) A (evalArgs (.ref f) true (backTo pos (starEach args env)) (backToKw pos (keywordEach kws env))) (fun x s₂ => s₂.heap.get? f = some fo ∧ wpAny (model prog w) A (call (.ref f) (.ref T :: x.pos) x.kw) Q E s₂) E s₁) E s) :
    wpAny (model prog w) A (eval (.Call (.Attribute o name apos) args kws pos) env) Q E s := by
  rw [arm_eval_Call, hbase]
  refine wpAny_bind (wpAny_mono h (fun ov s₁ h₁ => ?_) fun _ _ e => e)
  obtain ⟨T, f, fo, fd, rfl, hd, hm, hc⟩ := h₁
  refine wpAny_bind (wpAny_standAt ?_)
  have hpos : methodCallPos true o env apos pos = pure pos := by unfold methodCallPos; simp [hline]
  unfold methodCall
  rw [hform]
  refine wpAny_bind (wpAny_holding (hm _ _ _ ?_))
  refine wpAny_bind (wpAny_of_eq hpos ?_)
  exact callWith_function_kw (o := fo) (fd := fd) (wpAny_mono hc (fun x s₂ h₂ => ⟨⟨h₂.1, hd⟩, h₂.2⟩) fun _ _ e => e)
end
end
section
open PySem.SeqAt
section
variable {C : Cx} {n : Nat} {X : Addr → Prop} {Z Z' : Fz} {s s' : Shared} {R : Vp} {env : Env} {Φ : Asn C} {pos : Pos}
end
end
section
open PySem.SeqAt
section
variable {C : Cx} {X Y : Addr → Prop} {Z Z' : Fz} {s s' : Shared}
end
end
section
open PySem.SeqAt
section
variable {C : Cx} {n : Nat} {X : Addr → Prop} {R : Vp} {env : Env} {nm oc : List Str} {sc : List (Str × NameKind)} {ω ω' : List (Addr × List PV)} {κ : Addr → Option Obj} {ρ ρ' : List (Option Vp)} {Ψ : Asn C} {RA : Fz → Heap → Value → Prop} {rest : List Stmt}
theorem eg_new {ρ' : Addr → List (Option Vp)} {ρ₀ : List (Option Vp)} {x : Str} {xp pos : Pos} {e : Expr} {mk : Addr → Vp} {ds : List PV} (he : EVN C n (FS C env nm oc sc X ρ₀ ω κ) (eval e env) mk ds)
    (hu : ∀ a, Upd nm ρ₀ x (some (mk a)) (ρ' a)) (pl : PlainName x) (hk : canSt sc oc x = true) (hs : swapsWith e (some (.Name x xp)) pos.line env = pure false)
    (k : ∀ a, EXG C n X (FS C env nm oc sc X (ρ' a) ((a, ds) :: ω) κ) (execs rest env) Ψ RA) : EXG C n X (FS C env nm oc sc X ρ₀ ω κ) (execs (.Assign [.Name x xp] e pos :: rest) env) Ψ RA := fun A s Z Q E hA I H kn kr => by
  refine wpAny_execs_cons (wpAny_Assign_Name (he A s Z _ E hA I H fun a v Z₁ s₁ x₁ hf ho pv => ?_) hs)
  refine st_name x₁.inv (H.owns I x₁ hf ho) pv (hu a) pl hk fun s₂ x₂ H₂ => ?_
  exact k a A s₂ Z₁ Q E hA x₂.inv H₂ (fun Z₃ s₃ x₃ H₃ => kn Z₃ s₃ (((Step.to x₁).trans x₂).trans x₃) H₃) fun v Z₃ s₃ x₃ r => kr v Z₃ s₃ (((Step.to x₁).trans x₂).trans x₃) r
end
end
section
open PySem.SeqAt
section
variable {C : Cx} {n : Nat} {x sep : Str} {xs : List Str}
theorem hasM_str {name : Str} {id : String} (h1 : Slot "str" name id) (h2 : typeOf (.builtin id) = pure (.type "method_descriptor")) : HasM C name (is (.str x)) id := ⟨"str", F.plainAttrs_str, h1, h2, fun Z s v I h => by
  obtain ⟨_, rfl⟩ := rdi h; exact ⟨typeIs_str _ _ _, fun a h => by cases h⟩⟩
theorem RdL.strs {Z : Fz} {vs : List Value} {xs : List Str} (h : RdL Z vs (xs.map .str)) : ∃ l : List (Str × Tok), vs = strValues l ∧ l.map (·.1) = xs := by
  induction xs generalizing vs with
  | nil => exact ⟨[], rdli h, rfl⟩
  | cons x xs ih =>
    obtain ⟨y, r, rfl, hy, h⟩ := rdli h
    obtain ⟨l, rfl, rfl⟩ := ih h
    obtain ⟨t, rfl⟩ := rdi hy
    exact ⟨(x, t) :: l, rfl, rfl⟩
theorem fn_join (hg : (Builtin.Str.glued sep xs).length ≤ sizeLine) (hl : Builtin.Str.tooLong (xs.toArray.foldl (· + ·.length + sep.length) 0) = false) : FN C n (.builtin "str.join") [is (.str sep), is (.list (xs.map .str))] (is (.str (Builtin.Str.glued sep xs))) := fn2 fun A s Z u v Q E hA I h h' k => by
  obtain ⟨t, rfl⟩ := rdi h
  obtain ⟨a, m, vs, rfl, hz, r⟩ := rdi h'
  obtain ⟨l, rfl, rfl⟩ := r.strs
  refine call_meets F.slot_str_join (typeIs_str s sep t) F.entry_str_join (F.args_str_join_2 _ _) (meets_str_join_list sep t a l hl) ⟨isList_of I hz, ?_⟩
  cases l with
  | nil => exact ⟨hg, k _ Z _ (Step.toks I _) (.str _ _)⟩
  | cons p l =>
  cases l with
  | nil => exact k _ Z _ (StepX.refl I) (.str _ _)
  | cons q r => exact ⟨hg, k _ Z _ (Step.toks I _) (.str _ _)⟩
theorem fn_lower (h : Builtin.Str.tooLong (placed x fun i _ => Unicode.lowerAt x.cps i).size = false) : FN C n (.builtin "str.lower") [is (.str x)] (is (.str ⟨placed x fun i _ => Unicode.lowerAt x.cps i⟩)) := fn1 fun A s Z u Q E hA I h' k => by
  obtain ⟨t, rfl⟩ := rdi h'
  exact call_gives F.slot_str_lower (typeIs_str s x t) F.entry_str_lower (F.args_str_lower_1 _) (gives_str_lower x t h) ⟨by have := h; simp only [Builtin.Str.tooLong, decide_eq_false_iff_not, Nat.not_lt] at this; exact this, k _ Z _ (Step.toks I _) (.str _ _)⟩
theorem hasM_join : HasM C "join" (is (.str x)) "str.join" := hasM_str F.slot_str_join F.type_str_join
theorem hasM_lower : HasM C "lower" (is (.str x)) "str.lower" := hasM_str F.slot_str_lower F.type_str_lower
end
end
section
open PySem.SeqAt
section
variable {prog : Program} {w : World} {A : Around} {E : Value → Shared → Prop} {s : Shared} {env : Env}
theorem sub_sliceT {value : Expr} {lower upper : Option Expr} {p pos : Pos} {T id : String} {Q : Value → Shared → Prop}
    (hl : typeLookup (.type T) "__getitem__" = pure (some (.builtin id)))
    (h : wpAny (model prog w) A (eval value env) (fun o s₁ => wpAny (model prog w) A (eval (.Slice lower upper none p) env) (fun i s₂ => s₂.TypeIs o T ∧ wpAny (model prog w) A (getItem o i) Q E s₂) E s₁) E s) :
    wpAny (model prog w) A (eval (.Subscript value (.Slice lower upper none p) pos) env) Q E s := by
  rw [eval_Subscript]
  refine wpAny_bind (wpAny_mono h (fun o s₁ h₁ => wpAny_bind (wpAny_holding (wpAny_mono h₁ (fun i s₂ h₂ => wpAny_bind (wpAny_standAt ?_)) fun _ _ x => x)))
    fun _ _ x => x)
  have fin : wpAny (model prog w) A (operate [i, o] (getItem o i)) (fun r s₃ => wpAny (model prog w) A (letTemporaryGo value o r >>= fun _ => pure r) Q E s₃) E s₂ :=
    wpAny_operating (wpAny_mono h₂.2 (fun r s₃ h₃ => wpAny_bind (wpAny_letTemporaryGo (wpAny_pure h₃))) fun _ _ x => x)
  refine wpAny_bind ?_
  rw [getitemInPython_of_ne h₂.1.not_modules]
  refine wpAny_bind (wpAny_specialOf h₂.1 hl ?_)
  first
    | exact wpAny_pure (wpAny_bind fin)
    | exact wpAny_bind (wpAny_pure (wpAny_bind fin))
    | exact wpAny_bind fin
end
section
variable {C : Cx} {n : Nat} {Φ : Asn C} {env : Env} {l m ds : List PV} {x y : Str} {lo hi stp : Option Int} {e : Expr} {pos p : Pos}
theorem ev_slice_listT {v : Expr} {l u : Option Expr} (hv : EV C n Φ (eval v env) (is (.list ds))) (hl : PT C n Φ (evalPart l env) lo) (hu : PT C n Φ (evalPart u env) hi) (hsz : ds.length ≤ sizeLine)
    : EV C n Φ (eval (.Subscript v (.Slice l u none p) pos) env) (is (.list (pickL ds lo hi none))) := fun A s Z Q E hA I H k => by
  refine sub_sliceT (T := "list") list_getitem_lookup (hv A s Z _ E hA I H fun o Z₁ s₁ x₁ p₁ => wpAny_Slice ?_)
  refine hl A s₁ Z₁ _ E hA x₁.inv (Φ.stable I H x₁) fun q Z₂ s₂ x₂ e₂ => ?_
  refine hu A s₂ Z₂ _ E hA x₂.inv (Φ.stable x₁.inv (Φ.stable I H x₁) x₂) fun q' Z₃ s₃ x₃ e₃ => ?_
  rw [evalPart_none]
  obtain ⟨a, n, vs, rfl, hz, r⟩ := rdi p₁
  have hs := isList_of x₃.inv (x₃.le _ _ (x₂.le _ _ hz))
  refine wpAny_pure ⟨(hs.push _).typeIs, ?_⟩
  refine wpAny_getItem_list_slice (hs.push _) (Heap.IsSliceOf.new ..) isPart_of isPart_of .none (by simp) ?_ (by rw [List.size_toArray, r.length]; exact hsz)
  rw [e₂, e₃]
  have st1 := slice_push (C := C) x₃.inv (o := { cls := .type "slice", data := .fields #[(qv q), (qv q'), .none] })
  have st := StepX.alloc (X := No) st1.inv (o := { cls := .type "list", data := .seq (slicePick vs.toArray lo hi none) }) (t := s₃.toks) rfl
  refine k _ _ _ (((x₁.trans x₂).trans x₃).trans (st1.trans st)) (.list (n := 0) (vs := (slicePick vs.toArray lo hi none).toList) (put_self (Z := Z₃)) ?_)
  exact (r.pick).le ((x₂.trans x₃).le.trans st.le)
end
end
section
open PySem.SeqAt
section
variable {C : Cx} {X : Addr → Prop} {Z Z' : Fz} {s s' : Shared} {h h' : Heap}
theorem FSp.stepY {env : Env} {nm oc : List Str} {sc : List (Str × NameKind)} {Y : Addr → Prop} {ρ : List (Option Vp)} {ω : List (Addr × List PV)} {κ : Addr → Option Obj} (I : Inv C Z s) (H : FSp env nm oc sc X ρ ω κ Z s.heap) (x : StepX C Y Z s Z' s')
    (hL : ¬ Y env.locals) (hC : ∀ n c, env.cells.lookup n = some c → ¬ Y c) (hO : ∀ p ∈ ω, ¬ Y p.1) (hK : ∀ b o, κ b = some o → ¬ Y b) (hE : ∀ b, Y b → ∃ o, s'.heap.get? b = some o) : FSp env nm oc sc X ρ ω κ Z' s'.heap := by
  have kl : ∀ o, s.heap.get? env.locals = some o → s'.heap.get? env.locals = some o := fun o e => by
    obtain ⟨m, hn⟩ := H.loc
    exact x.keep _ o e hL (I.ns_notTab hn)
  have kc : ∀ n c, env.cells.lookup n = some c → ∀ o, s.heap.get? c = some o → s'.heap.get? c = some o := fun n c hc o e => by
    obtain ⟨_, v, hv⟩ := H.cells n c hc
    exact x.keep _ o e (hC n c hc) (I.cell_notTab hv)
  refine ⟨H.names, H.gl, H.bl, H.cellH, H.fn, H.nodup, H.apart, ?_, H.locX, ?_, fun n c hc => ?_, H.cellX, fun a ha => (x.gone ha).elim (H.cof a) (fun hy => by obtain ⟨o, e⟩ := hE a hy; rw [ha] at e; simp at e), H.vars.keeps x.le kl kc, fun p hp => ?_, H.ownX, H.ownN, fun b o e => ?_, H.heldX⟩
  · obtain ⟨m, hn⟩ := H.loc
    exact ⟨m, hn.at' kl⟩
  · obtain ⟨m, o, es, ep, e, _⟩ := H.loc
    exact x.stillNone H.locZ e hL
  · obtain ⟨hz, v, o, e, d⟩ := H.cells n c hc
    exact ⟨x.stillNone hz e (hC n c hc), v, o, kc n c hc o e, d⟩
  · obtain ⟨hz, vs, n, e, r⟩ := H.own p hp
    have hn : ∀ t ∈ C.tabs, p.1 ≠ t.1 := I.tab_fields e fun ps q => by cases q
    exact (H.own p hp).keeps x.le (x.stillNone hz e (hO p hp)) fun o e => x.keep _ o e (hO p hp) hn
  · obtain ⟨hz, ha, ht, hl, hc, hw⟩ := H.held b o e
    exact ⟨x.stillNone hz ha (hK b o e), x.keep _ _ ha (hK b o e) (I.tab_fields ha ht), ht, hl, hc, hw⟩
end
section
variable {C : Cx} {n : Nat} {R : Vp}
theorem op_isnot_nn : OP2 C n (compareOp .IsNot) (is .none) (is .none) (is (.bool false)) := fun A s Z u v Q E hA I hu hv k => by
  obtain ⟨_, rfl⟩ := rdi hu; obtain ⟨_, rfl⟩ := rdi hv
  exact wpAny_pure (a := Value.bool (!(Value.none == Value.none))) (k _ Z _ (StepX.refl I) (.bool _))
theorem op_isnot_type {T : String} : OP2 C n (compareOp .IsNot) (isv (.type T)) (isv (.type T)) (is (.bool false)) := fun A s Z u v Q E hA I hu hv k => by
  cases hu; cases hv
  have e : (!(Value.type T == Value.type T)) = false := by simp
  exact wpAny_pure (a := Value.bool (!(Value.type T == Value.type T))) (by rw [e]; exact k _ Z _ (StepX.refl I) (.bool _))
theorem evn_ifexpF {Φ : Asn C} {env : Env} {t b o : Expr} {pos : Pos} {mk : Addr → Vp} {ds : List PV} (ht : TV C n Φ (isTrue t env (eval t env)) false) (ho : EVN C n Φ (eval o env) mk ds) : EVN C n Φ (eval (.IfExp t b o pos) env) mk ds := fun A s Z Q E hA I H k => by
  refine wpAny_IfExp (ht A s Z _ E hA I H fun Z₁ s₁ x₁ => ?_)
  exact ho A s₁ Z₁ Q E hA x₁.inv (Φ.stable I H x₁) fun a v Z₂ s₂ x₂ hf ho' pv => k a v Z₂ s₂ (x₁.trans x₂) ((x₁.gone hf).elim id fun q => q.elim) ho' pv
theorem ev_type_own {X : Addr → Prop} {env : Env} {nm oc : List Str} {sc : List (Str × NameKind)} {ω : List (Addr × List PV)} {κ : Addr → Option Obj} {ρ : List (Option Vp)} {p p2 pos : Pos} {x : Str} {a : Addr} {ds : List PV} (hb : BltZ C (sQ "type") (.type "type")) (hx : At nm ρ x (isv (.ref a))) (hm : (a, ds) ∈ ω) (hk : sc.lookup (sQ "type") = some .globalImplicit) :
    EV C n (FS C env nm oc sc X ρ ω κ) (eval (.Call (.Name (sQ "type") p) [.Name x p2] [] pos) env) (isv (.type "list")) := fun A s Z Q E hA I H k => by
  refine wpAny_Call_NameR (ev_blt (n := n) hb hk (by decide) A s Z _ E hA I H fun v Z₁ s₁ x₁ pv => ?_)
  cases pv
  have H₁ := (FS C env nm oc sc X ρ ω κ).stable I H x₁
  refine callWith_type1 (el_cons (ev_name (n := n) hx) el_nil rfl A s₁ Z₁ _ E hA x₁.inv H₁ fun vs Z₂ s₂ x₂ hs => ?_) rfl rfl
  have H₂ := (FS C env nm oc sc X ρ ω κ).stable x₁.inv H₁ x₂
  obtain ⟨_, _, rfl, hv, hr⟩ := sati hs
  obtain rfl := sati hr
  cases hv
  obtain ⟨hz, vs, m, e, r⟩ := H₂.own _ hm
  have kk := k (.type "list") Z₂ s₂ (x₁.trans x₂) rfl
  obtain ⟨h, g, d, t, os⟩ := s₂
  exact call_type_obj e rfl kk
end
end
section
open PySem.SeqAt
section
variable {C : Cx} {X Y : Addr → Prop} {Z Z' : Fz} {s s' : Shared}
end
section
variable {C : Cx} {n : Nat} {Φ : Asn C} {env : Env}
end
end
section
open PySem.SeqAt
section
variable {C : Cx} {n : Nat} {X : Addr → Prop} {R : Vp} {env : Env} {nm oc : List Str} {sc : List (Str × NameKind)} {ω ω' : List (Addr × List PV)} {κ : Addr → Option Obj} {ρ : List (Option Vp)}
theorem ex_for0 {x : Str} {xp pos : Pos} {target : Expr} {body : List Stmt} {a : Addr} (hx : At nm ρ x (isv (.ref a))) (hm : (a, []) ∈ ω) (hs : ∀ v, foldedSetIterable (.Name x xp) env v = pure v := by intro _; rfl) :
    EX C n X (FS C env nm oc sc X ρ ω κ) (exec (.For target (.Name x xp) body [] pos) env) (FS C env nm oc sc X ρ ω κ) R := fun A s Z Q E hA I H kn kr => by
  refine wpAny_For (ev_name (n := n) hx A s Z _ E hA I H fun v Z₁ s₁ x₁ pv => ?_) hs
  cases pv
  have H₁ := (FS C env nm oc sc X ρ ω κ).stable I H x₁
  obtain ⟨hz, vs, m, e, r⟩ := H₁.own _ hm
  obtain rfl := rdli r
  have hl : s₁.heap.IsList a #[] := ⟨_, e, rfl, m, rfl⟩
  refine wpAny_pyIter_list hl ?_
  have st := StepX.push (X := No) x₁.inv (o := { cls := .type "list_iterator", data := .fields #[.ref a, .int 0 0] }) (t := s₁.toks)
  have hne : a ≠ s₁.heap.objs.size := Nat.ne_of_lt (Heap.lt_size e)
  have H₂ := (FS C env nm oc sc X ρ ω κ).stable x₁.inv H₁ st
  refine codeAny_forLoop_any (fun k s' => s' = { s₁ with heap := s₁.heap.push { cls := .type "list_iterator", data := .fields #[.ref a, .int 0 0] } } ∧ k = 1) ?_ 1 ⟨rfl, rfl⟩
  rintro k s' ⟨rfl, rfl⟩
  have W := Walks.list (prog := C.prog) (w := C.w) (A := A) hA.handled s₁.heap.objs.size a hne #[]
  have hB : ∀ b, s₁.heap.get? b = none → Beside env X ω κ C.tabs b := fun b hb => Beside.of x₁.inv H₁ hb
  refine W.done _ _ _ ⟨⟨_, Heap.get?_push_size _ rfl, rfl, rfl⟩, hl.push _⟩ fun h₂ tk₂ hk₂ => ?_
  have hfr := get?_above (Nat.le_refl s₁.heap.objs.size)
  obtain ⟨x₂, H₃⟩ := FSp.beside (t := tk₂) (W := [s₁.heap.objs.size]) st.inv H₂ (fun b hb => by rw [List.mem_singleton.mp hb]; exact hB _ hfr) (fun b hb => by rw [List.mem_singleton.mp hb]; exact x₁.inv.fresh hfr) hk₂
  exact wpAny_execs_nil (kn Z₁ _ (((Step.to x₁).trans (Step.to st)).trans x₂) H₃)
end
end
section
open PySem.SeqAt
section
variable {prog : Program} {w : World} {A : Around} {E : Value → Shared → Prop} {s : Shared} {env : Env}
theorem sub_slice3T {value st : Expr} {lower upper : Option Expr} {p pos : Pos} {T id : String} {Q : Value → Shared → Prop}
    (hl : typeLookup (.type T) "__getitem__" = pure (some (.builtin id)))
    (h : wpAny (model prog w) A (eval value env) (fun o s₁ => wpAny (model prog w) A (eval (.Slice lower upper (some st) p) env) (fun i s₂ => s₂.TypeIs o T ∧ wpAny (model prog w) A (getItem o i) Q E s₂) E s₁) E s) :
    wpAny (model prog w) A (eval (.Subscript value (.Slice lower upper (some st) p) pos) env) Q E s := by
  rw [eval_Subscript]
  refine wpAny_bind (wpAny_mono h (fun o s₁ h₁ => wpAny_bind (wpAny_holding (wpAny_mono h₁ (fun i s₂ h₂ => wpAny_bind (wpAny_standAt ?_)) fun _ _ x => x)))
    fun _ _ x => x)
  have fin : ∀ ops, wpAny (model prog w) A (operate ops (getItem o i)) (fun r s₃ => wpAny (model prog w) A (letTemporaryGo value o r >>= fun _ => pure r) Q E s₃) E s₂ := fun ops =>
    wpAny_operating (wpAny_mono h₂.2 (fun r s₃ h₃ => wpAny_bind (wpAny_letTemporaryGo (wpAny_pure h₃))) fun _ _ x => x)
  refine wpAny_bind ?_
  rw [getitemInPython_of_ne h₂.1.not_modules]
  refine wpAny_bind (wpAny_specialOf h₂.1 hl ?_)
  first
    | exact wpAny_pure (wpAny_bind (fin _))
    | exact wpAny_bind (wpAny_pure (wpAny_bind (fin _)))
    | exact wpAny_bind (fin _)
end
section
variable {C : Cx} {n : Nat} {Φ : Asn C} {env : Env} {l m ds : List PV} {x y : Str} {lo hi stp : Option Int} {e : Expr} {pos p : Pos}
theorem ev_slice_list3T {v stx : Expr} {l u : Option Expr} {sti : Int} (hv : EV C n Φ (eval v env) (is (.list ds))) (hl : PT C n Φ (evalPart l env) lo) (hu : PT C n Φ (evalPart u env) hi) (hst : PT C n Φ (evalPart (some stx) env) (some sti)) (h0 : sti ≠ 0) (hsz : ds.length ≤ sizeLine) : EV C n Φ (eval (.Subscript v (.Slice l u (some stx) p) pos) env) (is (.list (pickL ds lo hi (some sti)))) := fun A s Z Q E hA I H k => by
  refine sub_slice3T (T := "list") list_getitem_lookup (hv A s Z _ E hA I H fun o Z₁ s₁ x₁ p₁ => wpAny_Slice ?_)
  refine hl A s₁ Z₁ _ E hA x₁.inv (Φ.stable I H x₁) fun q Z₂ s₂ x₂ e₂ => ?_
  refine hu A s₂ Z₂ _ E hA x₂.inv (Φ.stable x₁.inv (Φ.stable I H x₁) x₂) fun q' Z₃ s₃ x₃ e₃ => ?_
  refine hst A s₃ Z₃ _ E hA x₃.inv (Φ.stable x₂.inv (Φ.stable x₁.inv (Φ.stable I H x₁) x₂) x₃) fun q'' Z₄ s₄ x₄ e₄ => ?_
  obtain ⟨a, n, vs, rfl, hz, r⟩ := rdi p₁
  have hs := isList_of x₄.inv (x₄.le _ _ (x₃.le _ _ (x₂.le _ _ hz)))
  refine ⟨(hs.push _).typeIs, ?_⟩
  refine wpAny_getItem_list_slice (hs.push _) (Heap.IsSliceOf.new ..) isPart_of isPart_of isPart_of (by rw [e₄]; simpa using h0) ?_ (by rw [List.size_toArray, r.length]; exact hsz)
  rw [e₂, e₃, e₄]
  have st1 := slice_push (C := C) x₄.inv (o := { cls := .type "slice", data := .fields #[(qv q), (qv q'), (qv q'')] })
  have st := StepX.alloc (X := No) st1.inv (o := { cls := .type "list", data := .seq (slicePick vs.toArray lo hi (some sti)) }) (t := s₄.toks) rfl
  refine k _ _ _ ((((x₁.trans x₂).trans x₃).trans x₄).trans (st1.trans st)) (.list (n := 0) (vs := (slicePick vs.toArray lo hi (some sti)).toList) (put_self (Z := Z₄)) ?_)
  exact (r.pick).le (((x₂.trans x₃).trans x₄).le.trans st.le)
theorem preSum_getD (l : List Int) : ∀ k, k ≤ l.length → preSum (fun i => l.getD i 0) k = (l.take k).sum
  | 0, _ => rfl
  | k + 1, h => by
    have e : l[k]? = some l[k] := List.getElem?_eq_getElem (by lia)
    show preSum (fun i => l.getD i 0) k + l.getD k 0 = _
    rw [preSum_getD l k (by lia), List.take_add_one, e, Option.toList_some, List.sum_append, List.sum_singleton]
    congr 1
    simp [List.getD, e]
theorem fn_sum {l : List Int} : FN C n (.builtin "sum") [is (.list (l.map .int))] (is (.int l.sum)) := fn1 fun A s Z v Q E hA I hv k => by
  obtain ⟨a, m, vs, rfl, hz, r⟩ := rdi hv
  have hl := isList_of I hz
  have hal := Heap.lt_size (I.heap _ _ hz)
  have hlen : vs.toArray.size = l.length := by rw [List.size_toArray, r.length, List.length_map]
  refine call_sum_walkG (wpAny_pyIter_list hl ⟨_, _, _, _, _, _, fun i => l.getD i 0, rfl, Walks.list (A := A.in1) hA.handled s.heap.objs.size a (Nat.ne_of_lt hal) vs.toArray, ⟨⟨_, Heap.get?_push_size _ rfl, rfl, rfl⟩, hl.push _⟩, fun b hb => ?_, fun i v hP => ?_, fun h' tk t' hk => ?_⟩)
  · show b < (s.heap.push _).objs.size
    rw [Heap.size_push]
    rcases List.mem_cons.mp hb with rfl | hb
    · exact Nat.lt_succ_self _
    · rw [List.mem_singleton.mp hb]; exact Nat.lt_succ_of_lt hal
  · have hP : vs[i]? = some v := by simpa using hP
    have hi : i < l.length := by
      have := (List.getElem?_eq_some_iff.mp hP).1
      have := r.length; rw [List.length_map] at this; lia
    have hd : (l.map PV.int)[i]? = some (.int l[i]) := by rw [List.getElem?_map, List.getElem?_eq_getElem hi]; rfl
    have hr := r.at hP hd
    have eg : l.getD i 0 = l[i] := by simp [List.getD, List.getElem?_eq_getElem hi]
    cases hr with
    | int _ t => exact ⟨t, by show Value.int l[i] t = Value.int (l.getD i 0) t; rw [eg]⟩
  · have st : Step C Z s Z { s with heap := h', toks := tk } := .keeps I fun b o e => hk b o (fun q => by rw [List.mem_singleton.mp q] at e; exact absurd (Heap.lt_size e) (Nat.lt_irrefl _)) (Heap.get?_push_of_some _ e)
    have e : preSum (fun i => l.getD i 0) vs.toArray.size = l.sum := by rw [hlen, preSum_getD l _ (Nat.le_refl _), List.take_length]
    rw [e]
    exact k _ Z _ st (.int _ _)
theorem op_ne_list (k : Nat) (hk : k ≤ 800) (h : okN 1 (.list l) (.list m) = true) : OP2 C n (compareOp .NotEq) (is (.list l)) (is (.list m)) (is (.bool (!eqN 1 (.list l) (.list m)))) := fun A s Z u v Q E hA I hu hv kk => by
  have hun : A.units < 9900 := by have := hA.units; lia
  obtain ⟨a, n, vs, rfl, hz, r⟩ := rdi hu
  obtain ⟨a', n', vs', rfl, hz', r'⟩ := rdi hv
  have kk := kk (.bool (!eqLs l m)) Z _ (StepX.refl I) (.bool _)
  by_cases hl : l.length = m.length
  · rw [eqLs_range r hl] at kk
    exact RcNeAt.lists (isList_of I hz) (isList_of I hz') (sizes_at r r' hl) hun (items_at I A.in1 r r' (okLs_at h hl)) C.prog C.w E Q kk
  · rw [eqLs_len hl] at kk
    exact RcNeAt.lists_lengths (isList_of I hz) (isList_of I hz') (sizes_ne r r' hl) hun C.prog C.w E Q kk
end
end
section
open PySem.SeqAt
open AutoSeq1 (wpAny_loadPart')
section
variable {prog : Program} {w : World} {A : Around} {E : Value → Shared → Prop} {s : Shared}
theorem nextOf_tup {it t : Addr} {i : Nat} {items : Array Value} {x : Value} {Q : Value → Shared → Prop} (hit : s.heap.IsTupleIter it t i) (ht : s.heap.IsTuple t items) (hx : items[i]? = some x)
    (hQ : ∀ h', h'.IsTupleIter it t (i + 1) → Heap.SameBut it s.heap h' → Q x { s with heap := h' }) : wpAny (model prog w) A (Builtin.SmallTypes.nextOf (.ref it)) Q E s := by
  obtain ⟨o, ho, hc, hd⟩ := id hit
  obtain ⟨ol, hol, _, nl, hdl⟩ := ht
  unfold Builtin.SmallTypes.nextOf
  refine wpAny_bind (wpAny_callSpecial?_slot (name := sQ "__next__") hit.typeIs F.slot_tuple_iterator_next (wpAny_call_entry F.slot_tuple_iterator_next hit.typeIs F.entry_tuple_iterator_next ?_ (F.args_tuple_iterator_next_1 _)))
  show wpAny _ _ (field (.ref it) 0 >>= _) _ _ s
  refine wpAny_bind (wpAny_field ho hd (x := .ref t) rfl ?_)
  show wpAny _ _ (if (Value.ref t == Value.none) = true then _ else _) _ _ s
  rw [if_neg (show ¬ ((Value.ref t == Value.none) = true) from Bool.false_ne_true)]
  show wpAny _ _ (field (.ref it) 1 >>= _) _ _ s
  refine wpAny_bind (wpAny_field ho hd (x := .int i 0) rfl ?_)
  show wpAny _ _ (seqItems? (.ref t) >>= _) _ _ s
  refine wpAny_bind (wpAny_seqItems hol hdl ?_)
  dsimp only [Int.toNat_natCast]
  rw [hx]
  dsimp only
  refine wpAny_bind (wpAny_setField ho hd (by simp) (wpAny_pure ⟨x, rfl, wpAny_pure (hQ _ ?_ (Heap.SameBut.update ..))⟩))
  exact ⟨_, Heap.get?_update_self _ ho (Obj.isFreed_of_fields (Obj.data_mapFields hd _)), (Obj.cls_mapFields ..).trans hc, by rw [Obj.data_mapFields hd]; simp [rawInt]⟩
theorem nextOf_tup_end {it t : Addr} {i : Nat} {items : Array Value} {Q : Value → Shared → Prop} (hh : A.handled = none) (hit : s.heap.IsTupleIter it t i) (ht : s.heap.IsTuple t items) (hx : items[i]? = none)
    (hE : ∀ h' e, Heap.ExtBut it s.heap h' → (∃ o, h'.get? e = some o ∧ o.cls = .type "StopIteration") → E (.ref e) { s with heap := h' }) : wpAny (model prog w) A (Builtin.SmallTypes.nextOf (.ref it)) Q E s := by
  obtain ⟨o, ho, hc, hd⟩ := id hit
  obtain ⟨ol, hol, _, nl, hdl⟩ := ht
  unfold Builtin.SmallTypes.nextOf
  refine wpAny_bind (wpAny_callSpecial?_slot (name := sQ "__next__") hit.typeIs F.slot_tuple_iterator_next (wpAny_call_entry F.slot_tuple_iterator_next hit.typeIs F.entry_tuple_iterator_next ?_ (F.args_tuple_iterator_next_1 _)))
  show wpAny _ _ (field (.ref it) 0 >>= _) _ _ s
  refine wpAny_bind (wpAny_field ho hd (x := .ref t) rfl ?_)
  show wpAny _ _ (if (Value.ref t == Value.none) = true then _ else _) _ _ s
  rw [if_neg (show ¬ ((Value.ref t == Value.none) = true) from Bool.false_ne_true)]
  show wpAny _ _ (field (.ref it) 1 >>= _) _ _ s
  refine wpAny_bind (wpAny_field ho hd (x := .int i 0) rfl ?_)
  show wpAny _ _ (seqItems? (.ref t) >>= _) _ _ s
  refine wpAny_bind (wpAny_seqItems hol hdl ?_)
  dsimp only [Int.toNat_natCast]
  rw [hx]
  dsimp only
  refine wpAny_bind (wpAny_rule (wpAny_bind (wpAny_setField ho hd (by simp) ?_)))
  show wpAny _ _ (newExc (.type "StopIteration") [] >>= _) _ _ _
  refine wpAny_bind ?_
  simp only [newExc, newTuple]
  refine wpAny_bind (wpAny_newObj_type ?_ (by size_fits))
  refine wpAny_bind (m := firstArgMember _ _) (wpAny_of_eq (a := Value.none) (by first | rfl | (simp only [firstArgMember]; rfl)) ?_)
  refine wpAny_newObj_type ?_ (by size_fits)
  unfold raiseNew
  refine wpAny_bind (wpAny_handled ?_)
  first | rw [show A.in1.handled = none from hh] | rw [hh]
  refine wpAny_bind (wpAny_pure (wpAny_throw ?_))
  exact hE _ _ (((Heap.SameBut.update ..).extBut.push _).push _) ⟨_, Heap.get?_push_size _ rfl, rfl⟩
theorem drawsT (hh : A.handled = none) (it l : Addr) (hne : l ≠ it) (items : Array Value) :
    Draws prog w A it [it, l] items.size (fun i v => items[i]? = some v) (fun i h => h.IsTupleIter it l i ∧ h.IsTuple l items) where
  live := fun _ _ st => let ⟨o, ho, _⟩ := st.1; ⟨o, ho⟩
  frame := fun _ _ _ st hk => by
    obtain ⟨⟨o, ho, r⟩, o', ho', r'⟩ := st
    exact ⟨⟨o, hk it (by simp) o ho, r⟩, o', hk l (by simp) o' ho', r'⟩
  item := fun i s Q E hi st hQ => by
    refine nextOf_tup st.1 st.2 (x := items[i]) (by simp [hi]) fun h' hit' hs' => ?_
    obtain ⟨_, o', ho', r'⟩ := st
    exact hQ _ h' s.toks (by simp [hi]) ⟨hit', o', hs'.extBut _ _ hne ho', r'⟩ hs'
  done := fun s Q E st hE => nextOf_tup_end hh st.1 st.2 (by simp) hE
theorem anyB {b0 : Bool} {Q : Bool → Shared → Prop} (h : ∀ b, Q b s) : wpAny (model prog w) A (pure b0) Q E s := wpAny_pure (h b0)
theorem meets_enumT (l : Addr) (items : Array Value) :
    Meets (Builtin.«enumerate.__new__» ⟨[.type "enumerate", .ref l], []⟩) (fun _ R s => s.heap.IsTuple l items ∧
      R (.ok (.ret (.ref (s.heap.push { cls := .type "tuple_iterator", data := .fields #[.ref l, .int 0 0] }).objs.size)))
        { s with heap := (s.heap.push { cls := .type "tuple_iterator", data := .fields #[.ref l, .int 0 0] }).push { cls := .type "enumerate", data := .fields #[.none, .bool false, .ref s.heap.objs.size, rawInt 0, .none, .none] } }) :=
  .of_wp fun prog w A R s h => by
    obtain ⟨hp, g, d, tk, os⟩ := s; obtain ⟨hL, h⟩ := h
    have hsub := sub_enumerate
    have hL : Heap.IsTuple (Shared.heap ⟨hp, g, d, tk, os⟩) l items := hL
    obtain ⟨o, hl, _⟩ := id hL
    wp_walk using wpAny_loadPart' hl
    refine wpAny_stack_any fun st => anyB fun c => ?_
    cases c
    · wp_walk using wpAny_loadPart' hl, wpAny_pyIter_tuple hL
      exact ⟨_, rfl, h⟩
    · wp_walk using wpAny_loadPart' hl, wpAny_pyIter_tuple hL
      exact ⟨_, rfl, h⟩
theorem call_enumT {l : Addr} {items : Array Value} {Q : Value → Shared → Prop} (hL : s.heap.IsTuple l items)
    (h : ∀ h', IsEnum h' (s.heap.objs.size + 1) s.heap.objs.size 0 .none → h'.IsTupleIter s.heap.objs.size l 0 → (∀ b o, s.heap.get? b = some o → h'.get? b = some o) → Q (.ref (s.heap.objs.size + 1)) { s with heap := h' }) :
    wpAny (model prog w) A (call (.type "enumerate") [.ref l]) Q E s := by
  refine callType_new F.called_enumerate (by decide) (F.typeCall_enumerate_1 _) (F.newCall_enumerate_1 _) (fun obj => F.args_object_init_2 obj _) F.entry_enumerate_new (meets_enumT l items) ⟨hL, ?_⟩
  have hz : (s.heap.push { cls := .type "tuple_iterator", data := .fields #[.ref l, .int 0 0] }).objs.size = s.heap.objs.size + 1 := Heap.size_push ..
  show _ ∧ _
  rw [hz]
  have he : IsEnum ((s.heap.push { cls := .type "tuple_iterator", data := .fields #[.ref l, .int 0 0] }).push { cls := .type "enumerate", data := .fields #[.none, .bool false, .ref s.heap.objs.size, rawInt 0, .none, .none] }) (s.heap.objs.size + 1) s.heap.objs.size 0 .none := by
    have := Heap.get?_push_size (s.heap.push { cls := .type "tuple_iterator", data := .fields #[.ref l, .int 0 0] }) (o := { cls := .type "enumerate", data := .fields #[.none, .bool false, .ref s.heap.objs.size, rawInt 0, .none, .none] }) rfl
    rw [hz] at this; exact this
  exact ⟨⟨_, he, rfl⟩, h _ he ⟨_, Heap.get?_push_of_some _ (Heap.get?_push_size _ rfl), rfl, rfl⟩ fun b o x => Heap.get?_push_of_some _ (Heap.get?_push_of_some _ x)⟩
end
section
variable {C : Cx} {n : Nat} {p : Pos} {ds : List PV} {Z : Fz} {s : Shared}
theorem fi_enumT {ts : List Expr} {kk : Nat} : FI C n (.type "enumerate") [is (.tup ds)] (.Tuple ts kk p) (enumL ds) := fun A s Z vs Q E hA I hv k => by
  obtain ⟨_, _, rfl, h, r⟩ := sati hv
  obtain rfl := sati r
  cases h with
  | tup h r =>
    rename_i a m vs
    have hl : s.heap.IsTuple a vs.toArray := ⟨_, I.heap _ _ h, rfl, m, rfl⟩
    refine call_enumT hl fun h' he hit hk => ?_
    refine wpAny_pyIter_enum he ?_
    have hal := Heap.lt_size (I.heap _ _ h)
    have st : Step C Z s Z { s with heap := h' } := .keeps (t := s.toks) I hk
    have hlen : (enumL ds).length = vs.toArray.size := by rw [enumL, List.length_map, List.length_zipIdx, List.size_toArray, r.length]
    have g0 := get?_above (Nat.le_refl s.heap.objs.size)
    have g1 := get?_above (Nat.le_succ s.heap.objs.size)
    have hl' : h'.IsTuple a vs.toArray := by
      obtain ⟨o, ho, r⟩ := hl
      exact ⟨o, hk _ o ho, r⟩
    have W : ∀ A : Around, A.handled = none → WalksT C.prog C.w A (s.heap.objs.size + 1) [s.heap.objs.size + 1, s.heap.objs.size, a] [s.heap.objs.size + 1, s.heap.objs.size] (enumL ds).length _ _ _ := fun A hA => by
      rw [hlen]
      exact WalksT.enumerateD (drawsT (A := A.in1) hA s.heap.objs.size a (Nat.ne_of_lt hal) vs.toArray) (s.heap.objs.size + 1) (Nat.ne_of_gt (Nat.lt_succ_self _)) (fun hm => by
        rcases List.mem_cons.mp hm with q | hm
        · exact absurd q (Nat.ne_of_gt (Nat.lt_succ_self _))
        · exact absurd (List.mem_singleton.mp hm) (Nat.ne_of_gt (Nat.lt_succ_of_lt hal))) (List.mem_cons_self ..)
    refine k _ Z _ st (turns_walksU W
      ⟨⟨_, he⟩, hit, hl'⟩ (fun b hb => ?_) (fun b hb => ?_) (fun i h' st' b hb => ?_) fun i vals d Z' le hd hP => ?_)
    · rcases List.mem_cons.mp hb with rfl | hb
      · exact I.fresh g1
      · rw [List.mem_singleton.mp hb]; exact I.fresh g0
    · rcases List.mem_cons.mp hb with rfl | hb
      · exact .inr ⟨g1, I.fresh g1⟩
      · rcases List.mem_cons.mp hb with rfl | hb
        · exact .inr ⟨g0, I.fresh g0⟩
        · rw [List.mem_singleton.mp hb]; exact .inl ⟨_, h⟩
    · obtain ⟨⟨old, he⟩, ⟨o, ho, hc, hd⟩, o', ho', _⟩ := st'
      rcases List.mem_cons.mp hb with rfl | hb
      · exact ⟨_, he, fun _ ps q => by have := congrArg Obj.cls q; simp [tabObj] at this⟩
      · rcases List.mem_cons.mp hb with rfl | hb
        · exact ⟨o, ho, fun _ ps q => by subst q; simp [tabObj] at hc⟩
        · rw [List.mem_singleton.mp hb]; exact ⟨o', ho', fun q => by rw [h] at q; cases q⟩
    · obtain ⟨t, x, hx, rfl⟩ := hP
      rw [enumL, List.getElem?_map, List.getElem?_zipIdx] at hd
      cases hq : ds[i]? with
      | none => rw [hq] at hd; cases hd
      | some d' =>
        rw [hq] at hd
        simp at hd
        subst hd
        exact ⟨_, rfl, .cons (.int _ _) (.cons (RdL.at (RdL.le le r) (by simpa using hx) hq) .nil)⟩
end
end
section
noncomputable def chrL (x : Str) : List PV := x.cps.toList.map fun c => .str ⟨#[c]⟩
end
section
open PySem.SeqAt
noncomputable abbrev numT (a : Int) : Str := sQ (toString a)
section
variable {C : Cx} {n : Nat} {Φ : Asn C} {env : Env}
theorem fn_str_int {a : Int} (ha : a.natAbs.log2 < 1920) : FN C n (.type "str") [is (.int a)] (is (.str (numT a))) := fn1 fun A s Z v Q E hA I h k => by
  obtain ⟨_, rfl⟩ := rdi h
  exact P.str_of_int ha (k _ Z _ (Step.toks I _) (.str _ _))
theorem tv_orF {a b : Expr} {pos : Pos} {whole : Sem Value} {c : Bool} (h1 : TV C n Φ (isTrue a env (eval a env)) false) (h2 : TV C n Φ (isTrue b env (eval b env)) c) : TV C n Φ (isTrue (.BoolOp .Or [a, b] pos) env whole) c := fun A s Z Q E hA I H k => by
  refine wpAny_isTrue_BoolOp ?_
  show wpAny _ _ (isTrue a env (eval a env) >>= _) _ _ _
  refine wpAny_bind (h1 A s Z _ E hA I H fun Z₁ s₁ x₁ => ?_)
  show wpAny _ _ (isTrue b env (eval b env) >>= _) _ _ _
  refine wpAny_bind (h2 A s₁ Z₁ _ E hA x₁.inv (Φ.stable I H x₁) fun Z₂ s₂ x₂ => ?_)
  cases c
  · exact wpAny_pure (k Z₂ s₂ (x₁.trans x₂))
  · exact wpAny_pure (k Z₂ s₂ (x₁.trans x₂))
end
end
section
open PySem.SeqAt
noncomputable def pickI (l : List Int) (lo hi st : Option Int) : List Int := (sliceRange (sliceBounds lo hi st l.length).1 (sliceBounds lo hi st l.length).2.1 (sliceBounds lo hi st l.length).2.2).filterMap (l[·]?)
theorem pickL_ints (l : List Int) (lo hi st : Option Int) : pickL (l.map .int) lo hi st = (pickI l lo hi st).map .int := by
  unfold pickL pickI
  rw [List.map_filterMap, List.length_map]
  congr 1
  funext i
  rw [List.getElem?_map]
theorem pickL_len (ds : List PV) (lo hi st : Option Int) : (pickL ds lo hi st).length ≤ ds.length := by
  have h := slicePick_size_le (ds.map fun _ => Value.none).toArray lo hi st
  unfold slicePick at h
  rw [List.size_toArray, List.size_toArray, List.length_map] at h
  refine Nat.le_trans (Nat.le_of_eq ?_) h
  unfold pickL
  rw [show (fun i => (ds.map fun _ => Value.none).toArray[i]?) = fun i => (ds[i]?).map fun _ => Value.none by funext i; simp, ← List.map_filterMap, List.length_map]
section
variable {C : Cx} {n : Nat} {Φ : Asn C} {env : Env} {X : Addr → Prop} {nm oc : List Str} {sc : List (Str × NameKind)} {ω : List (Addr × List PV)} {κ : Addr → Option Obj} {ρ ρ' : List (Option Vp)} {R : Vp} {Ψ : Asn C}
theorem ex_seq {Θ Φ Ψ : Asn C} {a b : List Stmt} (h1 : EX C n X Φ (execs a env) Ψ R) (h2 : EX C n X Ψ (execs b env) Θ R) : EX C n X Φ (execs (a ++ b) env) Θ R := fun A s Z Q E hA I H k kr => by
  rw [execs_append]
  refine wpAny_bind (h1 A s Z _ E hA I H (fun Z₁ s₁ x₁ H₁ => ?_) fun v Z₁ s₁ x₁ r => wpAny_pure (kr v Z₁ s₁ x₁ r))
  exact h2 A s₁ Z₁ Q E hA x₁.inv H₁ (fun Z₂ s₂ x₂ H₂ => k Z₂ s₂ (x₁.trans x₂) H₂) fun v Z₂ s₂ x₂ r => kr v Z₂ s₂ (x₁.trans x₂) r
theorem exs_forV {iter target : Expr} {body rest : List Stmt} {pos : Pos} {ds : List PV} {ρs : Nat → List (Option Vp)} {ωs : Nat → List (Addr × List PV)} (e0 : ρ = ρs 0) (e1 : ω = ωs 0) (hit : IT C n (FS C env nm oc sc X ρ ω κ) iter env target ds)
    (hω : ∀ i, (ωs i).map (·.1) = (ωs 0).map (·.1))
    (step : ∀ b, b = body → ∀ κ' i d, ds[i]? = some d → ∃ ρ', Tgt nm oc sc target d (ρs i) ρ' ∧ EX C n X (FS C env nm oc sc X ρ' (ωs i) κ') (execs b env) (FS C env nm oc sc X (ρs (i + 1)) (ωs (i + 1)) κ') R)
    (h : EX C n X (FS C env nm oc sc X (ρs ds.length) (ωs ds.length) κ) (execs rest env) Ψ R)
    (hs : ∀ x, foldedSetIterable iter env x = pure x := by intro _; rfl) : EX C n X (FS C env nm oc sc X ρ ω κ) (execs (.For target iter body [] pos :: rest) env) Ψ R :=
  exs_for e0 e1 hit hω (fun κ' i d hd => step body rfl κ' i d hd) h hs
end
end
section
section
variable {C : Cx} {n : Nat} {X : Addr → Prop} {env : Env} {nm oc : List Str} {sc : List (Str × NameKind)} {ρ : List (Option Vp)} {ω : List (Addr × List PV)} {κ : Addr → Option Obj}
theorem ev_item_own {sl : Expr} {x : Str} {p pos : Pos} {a : Addr} {ds : List PV} {i : Int} {j : Nat} {d : PV} (hx : At nm ρ x (isv (.ref a))) (hm : (a, ds) ∈ ω) (hi : EV C n (FS C env nm oc sc X ρ ω κ) (eval sl env) (is (.int i)))
    (hj : seqIndex? i ds.length = some j) (hd : ds[j]? = some d) (hsz : ds.length < 2 ^ 62)
    (hs : ∀ o i, subscripted sl false o i = operate [o, i] (getItem o i) := by intro _ _; rfl) :
    EV C n (FS C env nm oc sc X ρ ω κ) (eval (.Subscript (.Name x p) sl pos) env) (is d) := fun A s Z Q E hA I H k => by
  refine Subscript_ (ev_name (n := n) hx A s Z _ E hA I H fun u Z₁ s₁ x₁ pu => ?_)
  cases pu
  have H₁ := (FS C env nm oc sc X ρ ω κ).stable I H x₁
  refine hi A s₁ Z₁ _ E hA x₁.inv H₁ fun w Z₂ s₂ x₂ pw => ?_
  have H₂ := (FS C env nm oc sc X ρ ω κ).stable x₁.inv H₁ x₂
  cases pw
  obtain ⟨hz, vs, m, e, r⟩ := H₂.own _ hm
  obtain ⟨y, ey, py⟩ := r.get hd
  have hl : s₂.heap.IsList a vs.toArray := ⟨_, e, rfl, m, rfl⟩
  have len := r.length
  have sz : vs.toArray.size = ds.length := by rw [List.size_toArray, len]
  unfold seqIndex? at hj
  have kk := k y Z₂ s₂ (x₁.trans x₂) py
  refine tail_any hl.typeIs slot_list_getitem.lookup ?_ (hs _ _)
  by_cases h0 : i < 0
  · simp only [h0, if_true] at hj
    split at hj
    · rename_i hb
      simp only [Bool.and_eq_true, decide_eq_true_eq] at hb
      cases hj
      exact wpAny_getItem_list_neg hl h0 (by rw [sz]; lia) (by lia) (by rw [sz]; simpa using ey) kk
    · cases hj
  · simp only [h0, if_false] at hj
    split at hj
    · rename_i hb
      simp only [Bool.and_eq_true, decide_eq_true_eq] at hb
      cases hj
      exact wpAny_getItem_list hl (by lia) (by lia) (by simpa using ey) kk
    · cases hj
end
section
variable {C : Cx} {n : Nat}
end
end
section
open PySem.SeqAt
section
variable {C : Cx} {n : Nat} {target : Expr} {Z : Fz} {s : Shared}
theorem pi_str {x : Str} (hx : x.cps.all (· < 128) = true) : PI C n (is (.str x)) target (chrL x) := fun A s Z v Q E hA I hv k => by
  obtain ⟨t, rfl⟩ := rdi hv
  refine wpAny_pyIter_ascii hx ?_
  have st : Step C Z s Z _ := StepX.push I (o := { cls := .type "str_ascii_iterator", data := .fields #[.str x t, .int 0 0] }) (t := s.toks)
  have hl : (chrL x).length = x.cps.size := by rw [chrL, List.length_map, Array.length_toList]
  refine k _ Z _ st (turns_walks (fun A hA => hl ▸ Walks.strAscii hA s.heap.objs.size x t) (fun i h' st' => ?_) ⟨_, Heap.get?_push_size _ rfl, rfl, rfl⟩ (fun b hb => ?_) (fun b hb => ?_) (fun i h' st' b hb => ?_) fun i v d Z' le hd hP => ?_)
  · obtain ⟨o, ho, hc, _⟩ := st'
    exact ⟨o, _, ho, hc, by decide +kernel⟩
  · rw [List.mem_singleton.mp hb]; exact I.fresh (get?_above (Nat.le_refl _))
  · rw [List.mem_singleton.mp hb]; exact .inr ⟨get?_above (Nat.le_refl _), I.fresh (get?_above (Nat.le_refl _))⟩
  · rw [List.mem_singleton.mp hb]
    obtain ⟨o, ho, hc, _⟩ := st'
    exact ⟨o, ho, fun _ ps q => by subst q; simp [tabObj] at hc⟩
  · obtain ⟨c, u, hc, rfl⟩ := hP
    rw [chrL, List.getElem?_map] at hd
    have : x.cps.toList[i]? = some c := by simpa using hc
    rw [this] at hd
    cases hd
    exact .str _ _
end
end
section
open PySem.SeqAt PyProof
section
variable {C : Cx} {n : Nat} {target : Expr} {Z Z' : Fz} {s s' : Shared}
noncomputable def atomV : Value → PV
  | .int i _ => .int i
  | .str x _ => .str x
  | _ => .none
theorem atom_of {y : Value} {d d' : PV} (hy : Rd Z y d') (h : okA d' d = true) : eqA (atomV y) d = eqA d' d := by
  rcases ok_inv h with ⟨a, b, rfl, rfl⟩ | ⟨a, b, rfl, rfl⟩ <;> (obtain ⟨_, rfl⟩ := rdi hy; rfl)
theorem any_of {d : PV} {vs : List Value} {l : List PV} (r : RdL Z vs l) (h : ∀ y ∈ l, okA y d = true) : (vs.any fun y => eqA (atomV y) d) = l.any fun y => eqA y d := by
  induction l generalizing vs with
  | nil => have := rdli r; subst this; rfl
  | cons x l ih =>
    obtain ⟨y, r', rfl, hy, r'⟩ := rdli r
    rw [List.any_cons, List.any_cons, atom_of hy (h _ (List.mem_cons_self ..)), ih r' fun y hy => h y (List.mem_cons_of_mem _ hy)]
theorem op_in_tup {d : PV} {l : List PV} (kk : Nat) (hk : kk ≤ 800) (h : ∀ y ∈ l, okN 0 y d = true) : OP2 C n (compareOp .In) (is d) (is (.tup l)) (is (.bool (l.any fun y => eqN 0 y d))) := fun A s Z u v Q E hA I hu hv k => by
  obtain ⟨a, m, vs, rfl, hz, r⟩ := rdi hv
  have e := I.heap _ _ hz
  show wpAny _ _ (do return .bool (← contains _ _)) Q E s
  refine wpAny_bind (wpAny_contains_slot (T := "tuple") ⟨_, e, rfl⟩ F.slot_tuple_contains (call_meets F.slot_tuple_contains ⟨_, e, rfl⟩ F.entry_tuple_contains (F.args_tuple_contains_2 _ _) (tuple_containsAt a vs.toArray m none #[] u fun y => eqA (atomV y) d) ⟨e, fun y hy => ?_, ?_⟩))
  · obtain ⟨i, hi⟩ := List.mem_iff_getElem?.mp (List.mem_toArray.mp hy)
    have hd := List.getElem?_eq_getElem (r.length ▸ (List.getElem?_eq_some_iff.mp hi).1)
    have hr := r.at hi hd
    have ho := h _ (List.mem_of_getElem? hd)
    rw [atom_of hr ho]
    exact eq_at I _ hr hu ho
  · rw [List.any_toArray, any_of r h]
    exact wpAny_truthy_bool (wpAny_pure (k _ Z _ (StepX.refl I) (.bool _)))
end
end
section
open PySem.SeqAt
section
variable {C : Cx} {n : Nat} {Φ : Asn C} {env : Env} {l m : List PV} {x y : Str}
noncomputable def dictD (C : Cx) (kds : List (Str × PV)) : Vp := ⟨fun Z v => ∃ a o kvs, v = .ref a ∧ Z a = some o ∧ o.IsDictOf (PySem.strKind C.prog C.w) kvs ∧ KV Z kvs kds, fun k ⟨a, o, kvs, e, z, d, r⟩ => ⟨a, o, kvs, e, k _ _ z, d, r.le k⟩⟩
theorem op_item_dictD {v sl : Expr} {kds : List (Str × PV)} {i : Str} {d : PV} (hd : look kds i = some d)
    (hs : ∀ o i, subscripted sl false o i = operate [o, i] (getItem o i) := by intro _ _; rfl) : OP2 C n (subscriptTail v sl) (dictD C kds) (is (.str i)) (is d) := fun A s Z u w Q E hA I hu hw k => by
  obtain ⟨_, rfl⟩ := rdi hw
  obtain ⟨a, o, kvs, rfl, hz, ho, r⟩ := hu
  obtain ⟨x, ex, px⟩ := r.look.2 d hd
  have hm := (Heap.dictOf_iff.mpr ⟨o, I.heap _ _ hz, ho⟩).mapOf
  exact tail_any hm.typeIs slot_dict_getitem.lookup (wpAny_getItem_of (strKind_is C.prog C.w i _) hm ex (k x Z _ (Step.toks I _) px)) (hs _ _)
inductive KS (Z : Fz) : List (Value × Value) → List (Str × PV) → Prop where
  | nil : KS Z [] []
  | cons {k : Str} {t : Tok} {v : Value} {d : PV} {vs : List (Value × Value)} {ds : List (Str × PV)} (h : Rd Z v d) (r : KS Z vs ds) : KS Z ((.str k t, v) :: vs) ((k, d) :: ds)
theorem KS.all {Z : Fz} {vs : List (Value × Value)} {ds : List (Str × PV)} (h : KS Z vs ds) : allStrKeys vs = true :=
  KS.rec (motive := fun vs _ _ => allStrKeys vs = true) rfl (fun _ _ r => r) h
theorem KS.kv {Z : Fz} {vs : List (Value × Value)} {ds : List (Str × PV)} (h : KS Z vs ds) : KV Z (strPairs vs) ds :=
  KS.rec (motive := fun vs ds _ => KV Z (strPairs vs) ds) .nil (fun h _ r => .cons h r) h
theorem KS.keys {Z : Fz} {vs : List (Value × Value)} {ds : List (Str × PV)} (h : KS Z vs ds) : (strPairs vs).map (·.1) = ds.map (·.1) :=
  KS.rec (motive := fun vs ds _ => (strPairs vs).map (·.1) = ds.map (·.1)) rfl (fun _ _ r => congrArg (_ :: ·) r) h
noncomputable def ES (C : Cx) (n : Nat) (Φ : Asn C) (t : List (Sem Value × Sem Value)) (kds : List (Str × PV)) : Prop :=
  ∀ (A : Around) (s : Shared) (Z : Fz) (Q : List (Value × Value) → Shared → Prop) (E : Value → Shared → Prop), Room n A → Inv C Z s → Φ.at_ Z s.heap →
    (∀ vs Z' s', Step C Z s Z' s' → KS Z' vs kds → Q vs s') → wpAny (model C.prog C.w) A (evalPairs t) Q E s
variable {pos : Pos} {keys : List (Option Expr)} {values : List Expr} {kds : List (Str × PV)}
theorem es_nil : ES C n Φ (pairTrees [] [] env pos) [] := fun A s Z Q E hA I H k => wpAny_pure (k [] Z s (StepX.refl I) .nil)
theorem es_cons {e v : Expr} {i : Str} {d : PV} (hk : EV C n Φ (eval e env) (is (.str i))) (hv : EV C n Φ (eval v env) (is d)) (r : ES C n Φ (pairTrees keys values env pos) kds) : ES C n Φ (pairTrees (some e :: keys) (v :: values) env pos) ((i, d) :: kds) :=
  fun A s Z Q E hA I H k => by
  show wpAny _ A (evalPairs ((eval e env, do let x ← eval v env; standAt pos; pure x) :: pairTrees keys values env pos)) Q E s
  rw [evalPairs]
  refine wpAny_bind (hk A s Z _ E hA I H fun u Z₁ s₁ x₁ p₁ => ?_)
  refine wpAny_bind (wpAny_holding (wpAny_bind (hv A s₁ Z₁ _ E hA x₁.inv (Φ.stable I H x₁) fun u' Z₂ s₂ x₂ p₂ => wpAny_bind (wpAny_standAt (wpAny_pure ?_)))))
  refine wpAny_bind (wpAny_holding (r A s₂ Z₂ _ E hA x₂.inv (Φ.stable x₁.inv (Φ.stable I H x₁) x₂) fun vs Z₃ s₃ x₃ p₃ => wpAny_pure ?_))
  obtain ⟨_, rfl⟩ := rdi p₁
  exact k _ Z₃ s₃ ((x₁.trans x₂).trans x₃) (.cons (p₂.le x₃.le) p₃)
theorem ev_dictD (h : ES C n Φ (pairTrees keys values env pos) kds) (hn : (kds.map (·.1)).Nodup) (hall : keys.all (·.isSome) = true) (hl : keys.length = values.length) (h0 : keys ≠ []) (hlen : keys.length ≤ 15) :
    EV C n Φ (eval (.Dict keys values pos) env) (dictD C kds) := fun A s Z Q E hA I H k => by
  have x0 := StepX.push (X := No) I (o := { cls := .type "dict", data := .dict #[] }) (t := s.toks)
  refine wpAny_Dict_walk (knd := PySem.strKind C.prog C.w) hall hl h0 hlen (h A _ Z _ E hA x0.inv (Φ.stable I H x0) fun vs Z₁ s₁ x₁ p₁ => ?_)
  obtain ⟨o₀, hd, ho₀⟩ := Heap.dictOf_iff.mp (Heap.DictOf.new (knd := PySem.strKind C.prog C.w) s.heap)
  have hf : s.heap.get? s.heap.objs.size = none := get?_above (Nat.le_refl _)
  have nt : ∀ (I' : Inv C Z₁ s₁), ∀ t ∈ C.tabs, s.heap.objs.size ≠ t.1 := fun I' t ht q => by
    obtain ⟨ps, e', _⟩ := I.tabs t ht
    rw [← q, hf] at e'; cases e'
  have hd₁ := x₁.keep _ _ hd (fun h => h) (nt x₁.inv)
  refine display_done_str p₁.all (by rw [p₁.keys]; exact hn) (Heap.dictOf_iff.mpr ⟨o₀, hd₁, ho₀⟩) fun h' hdo hsb => ?_
  obtain ⟨o', hd', ho'⟩ := Heap.dictOf_iff.mp hdo
  have hz₁ : Z₁ s.heap.objs.size = none := by
    cases e : Z₁ s.heap.objs.size with
    | none => rfl
    | some o =>
      rcases x₁.new _ _ e with q | q | q
      · rw [I.fresh hf] at q; cases q
      · rw [hd] at q; cases q
      · exact q.elim
  have x₂ := StepX.write (X := (· = s.heap.objs.size)) x₁.inv (t := s₁.toks + vs.length) rfl hsb hz₁ (nt x₁.inv)
  have x₃ := StepX.freeze (X := (· = s.heap.objs.size)) x₂.inv rfl hz₁ hd' (nt x₁.inv)
  have xx : Step C Z s _ _ := StepX.hide (((((Step.to x0).trans (Step.to x₁)).trans x₂).trans x₃)) fun b q => q ▸ hf
  exact k _ _ _ xx ⟨_, o', _, rfl, put_self, ho', p₁.kv.le x₃.le⟩
end
end
section
open PySem.SeqAt
section
variable {C : Cx} {n : Nat} {Φ : Asn C} {env : Env}
inductive KeysAre : List (Option Expr) → List Expr → List (Str × Int) → Prop where
  | nil : KeysAre [] [] []
  | cons {k : Str} {a : Int} {c m : Nat} {p q : Pos} {ks : List (Option Expr)} {vs : List Expr} {l : List (Str × Int)} (r : KeysAre ks vs l) : KeysAre (some (.Constant (.str k) c p) :: ks) (.Constant (.int a) m q :: vs) ((k, a) :: l)
noncomputable abbrev kvI (l : List (Str × Int)) : List (Str × PV) := l.map fun p => (p.1, .int p.2)
theorem KeysAre.es {keys : List (Option Expr)} {values : List Expr} {l : List (Str × Int)} {pos : Pos} (h : KeysAre keys values l) : ES C n Φ (pairTrees keys values env pos) (kvI l) := by
  induction h with
  | nil => exact es_nil
  | cons r ih => exact es_cons ev_str ev_int ih
theorem KeysAre.len {keys : List (Option Expr)} {values : List Expr} {l : List (Str × Int)} (h : KeysAre keys values l) : keys.length = l.length ∧ values.length = l.length ∧ keys.all (·.isSome) = true := by
  induction h with
  | nil => exact ⟨rfl, rfl, rfl⟩
  | cons r ih => exact ⟨congrArg (· + 1) ih.1, congrArg (· + 1) ih.2.1, ih.2.2⟩
theorem ev_dictK {keys : List (Option Expr)} {values : List Expr} {l : List (Str × Int)} {pos : Pos} (h : KeysAre keys values l) (hn : (l.map (·.1)).Nodup) (h0 : l.length ≠ 0) (h1 : l.length ≤ 15) : EV C n Φ (eval (.Dict keys values pos) env) (dictD C (kvI l)) := by
  obtain ⟨e1, e2, e3⟩ := h.len
  refine ev_dictD h.es ?_ e3 (e1.trans e2.symm) (fun q => h0 ?_) (e1 ▸ h1)
  · rw [List.map_map]; exact hn
  · rw [← e1, q]; rfl
end
end
section
open PySem.SeqAt
@[irreducible] def hideD (keys : List (Option Expr)) (values : List Expr) (pos : Pos) : Expr := .Dict keys values pos
theorem hide_dict (keys : List (Option Expr)) (values : List Expr) (pos : Pos) : Expr.Dict keys values pos = hideD keys values pos := by unfold hideD; rfl
section
variable {C : Cx} {n : Nat} {Φ : Asn C} {env : Env}
theorem ev_hideD {keys : List (Option Expr)} {values : List Expr} {l : List (Str × Int)} {pos : Pos} (h : KeysAre keys values l) (hn : (l.map (·.1)).Nodup) (h0 : l.length ≠ 0) (h1 : l.length ≤ 15) : EV C n Φ (eval (hideD keys values pos) env) (dictD C (kvI l)) := by
  rw [← hide_dict]; exact ev_dictK h hn h0 h1
end
end
section
open PySem.SeqAt
section
variable {C : Cx} {n : Nat} {Φ : Asn C} {env : Env}
inductive KeyI : List (Option Expr) → List Expr → List (Int × Int) → Prop where
  | nil : KeyI [] [] []
  | cons {k a : Int} {c m : Nat} {p q : PySem.Pos} {ks : List (Option Expr)} {vs : List Expr} {l : List (Int × Int)} (r : KeyI ks vs l) : KeyI (some (.Constant (.int k) c p) :: ks) (.Constant (.int a) m q :: vs) ((k, a) :: l)
noncomputable abbrev kvJ (l : List (Int × Int)) : List (Int × PV) := l.map fun p => (p.1, .int p.2)
theorem KeyI.ep {keys : List (Option Expr)} {values : List Expr} {l : List (Int × Int)} {pos : PySem.Pos} (h : KeyI keys values l) : EP C n Φ (pairTrees keys values env pos) (kvJ l) := by
  induction h with
  | nil => exact ep_nil
  | cons r ih => exact ep_cons ev_int ev_int ih
theorem KeyI.len {keys : List (Option Expr)} {values : List Expr} {l : List (Int × Int)} (h : KeyI keys values l) : keys.length = l.length ∧ values.length = l.length ∧ keys.all (·.isSome) = true := by
  induction h with
  | nil => exact ⟨rfl, rfl, rfl⟩
  | cons r ih => exact ⟨congrArg (· + 1) ih.1, congrArg (· + 1) ih.2.1, ih.2.2⟩
theorem ev_hideDI {keys : List (Option Expr)} {values : List Expr} {l : List (Int × Int)} {pos : PySem.Pos} (h : KeyI keys values l) (hn : (l.map (·.1)).Nodup) (h0 : l.length ≠ 0) (h1 : l.length ≤ 15) : EV C n Φ (eval (hideD keys values pos) env) (dictI C (kvJ l)) := by
  obtain ⟨e1, e2, e3⟩ := h.len
  rw [← hide_dict]
  refine ev_dictI h.ep ?_ e3 (e1.trans e2.symm) (fun q => h0 ?_) (e1 ▸ h1)
  · rw [List.map_map]; exact hn
  · rw [← e1, q]; rfl
end
end
section
noncomputable abbrev li3 (a b c : Int) : PV := .list [.int a, .int b, .int c]
noncomputable def b36 (x : UInt64) : UInt64 := Float64.mul x (Float64.ofInt ((2 : Int) ^ (36 : Int).toNat))
noncomputable def wholeF (x : UInt64) : Int := PySem.Flt.toInt Float64.nearestOf (b36 x)
noncomputable def d65 (c : Int) : UInt64 := Float64.ofFrac (decide (c < 0) != decide ((2 : Int) ^ (16 : Int).toNat < 0)) c.natAbs ((2 : Int) ^ (16 : Int).toNat).natAbs
theorem d65_fr (n : Nat) : d65 (n : Int) = fr n := by
  unfold d65 fr
  rw [show decide ((n : Int) < 0) = false from decide_eq_false (by lia), Int.natAbs_natCast]
  rfl
structure Deed (w : Int) (c1 c2 c3 : Int) (n1 n2 n3 : Nat) : Prop where
  e1 : c1 + (w - mnI c1 c2 c3) = n1
  e2 : c2 + (w - mnI c1 c2 c3) = n2
  e3 : c3 + (w - mnI c1 c2 c3) = n3
  l1 : 1 ≤ n1
  l2 : 1 ≤ n2
  l3 : 1 ≤ n3
  u1 : n1 ≤ 65535
  u2 : n2 ≤ 65535
  u3 : n3 ≤ 65535
  ne : mnN n1 n2 n3 < mxN n1 n2 n3
local macro_rules | `(tactic| walk_at "def") => `(tactic| first | with_reducible exact d_hsv1 (by assumption) | with_reducible exact d_hls1 (by assumption) | ((with_reducible apply d_hsv) <;> assumption) | ((with_reducible apply d_hls) <;> assumption) | ((with_reducible apply d_slh); assumption) | ((with_reducible apply d_vsh) <;> assumption))
theorem min3P (a b c : Int) : bestP ltP [.int a, .int b, .int c] = .int (mnI a b c) := by
  have e : ∀ x y : Int, ltP (.int x) (.int y) = decide (x < y) := fun _ _ => rfl
  show (if ltP (.int c) (if ltP (.int b) (.int a) = true then PV.int b else .int a) = true then PV.int c else if ltP (.int b) (.int a) = true then PV.int b else .int a) = .int (if c < (if b < a then b else a) then c else if b < a then b else a)
  rw [e]
  by_cases h1 : b < a
  · rw [decide_eq_true h1, if_pos rfl, if_pos h1, e]
    by_cases h2 : c < b
    · rw [decide_eq_true h2, if_pos rfl, if_pos h2]
    · rw [decide_eq_false h2, if_neg h2]; rfl
  · rw [decide_eq_false h1, if_neg h1]
    show (if ltP (.int c) (.int a) = true then PV.int c else PV.int a) = _
    rw [e]
    by_cases h2 : c < a
    · rw [decide_eq_true h2, if_pos rfl, if_pos h2]
    · rw [decide_eq_false h2, if_neg h2]; rfl
theorem mn_ge {a b c : Nat} (h1 : 1 ≤ a) (h2 : 1 ≤ b) (h3 : 1 ≤ c) : 1 ≤ mnN a b c := by
  rcases (mn_facts a b c).2.2.2 with e | e | e <;> rw [e] <;> assumption
theorem rot_facts {c1 c2 c3 w : Int} {n1 n2 n3 : Nat} (k : Nat) (e1 : c1 + w = n1) (e2 : c2 + w = n2) (e3 : c3 + w = n3) (l1 : 1 ≤ n1) (l2 : 1 ≤ n2) (l3 : 1 ≤ n3) (u1 : n1 ≤ 65535) (u2 : n2 ≤ 65535) (u3 : n3 ≤ 65535) :
    (rot3 k (c1, c2, c3)).1 + w = (rot3 k (n1, n2, n3)).1 ∧ (rot3 k (c1, c2, c3)).2.1 + w = (rot3 k (n1, n2, n3)).2.1 ∧ (rot3 k (c1, c2, c3)).2.2 + w = (rot3 k (n1, n2, n3)).2.2
    ∧ 1 ≤ (rot3 k (n1, n2, n3)).1 ∧ 1 ≤ (rot3 k (n1, n2, n3)).2.1 ∧ 1 ≤ (rot3 k (n1, n2, n3)).2.2 ∧ (rot3 k (n1, n2, n3)).1 ≤ 65536 ∧ (rot3 k (n1, n2, n3)).2.1 ≤ 65536 ∧ (rot3 k (n1, n2, n3)).2.2 ≤ 65536 := by
  have v1 := Nat.le_succ_of_le u1
  have v2 := Nat.le_succ_of_le u2
  have v3 := Nat.le_succ_of_le u3
  unfold rot3
  split
  · exact ⟨e1, e2, e3, l1, l2, l3, v1, v2, v3⟩
  · split
    · exact ⟨e3, e1, e2, l3, l1, l2, v3, v1, v2⟩
    · exact ⟨e2, e3, e1, l2, l3, l1, v2, v3, v1⟩
theorem whole_mod (c : Nat) : ((c * 1048576 : Nat) : Int).fmod ((2 : Int) ^ (20 : Int).toNat) = 0 := by
  rw [show (2 : Int) ^ (20 : Int).toNat = 1048576 by decide, Int.natCast_mul]
  exact Int.mul_fmod_left _ _
theorem whole_div (c : Nat) : ((c * 1048576 : Nat) : Int).fdiv ((2 : Int) ^ (20 : Int).toNat) = c := by
  rw [show (2 : Int) ^ (20 : Int).toNat = 1048576 by decide, Int.natCast_mul]
  exact Int.mul_fdiv_cancel _ (by decide)
section
variable {C : Cx}
theorem done_tilde (K : LawK C) (c1 c2 c3 w : Int) :
    DefC C 4 (sQ "_law_done") [is (li3 c1 c2 c3), is (.int 31), is (.int w)] (is (li3 (c2 + 2 * c3) (c1 + 2 * c3) (-c3))) := by
  have K' := K.toColK
  obtain ⟨f, q, doc, pm, cd, hg, ho, hcd⟩ := K.done
  refine ⟨f, hg, ⟨_, _, ho, rfl⟩, fn_def (n := 2) (sc := scOf (stAt pw 80)) (ρ := [some (is (li3 c1 c2 c3)), some (is (.int 31)), some (is (.int w)), none, none, none, none, none, none, none, none, none, none]) (nm := [sQ "parts", sQ "symbol", sQ "white", sQ "more", sQ "red", sQ "green", sQ "blue", sQ "hue", sQ "share", sQ "value", sQ "told", sQ "light", sQ "whole"]) (xs := [sQ "parts", sQ "symbol", sQ "white"]) K.q ho rfl hcd rfl rfl rfl rfl rfl (bnd3 fun _ _ _ => rfl) rfl (by decide +kernel) (by decide +kernel) (by decide +kernel) (by decide +kernel) rfl fun L X => ?_⟩
  walk_at "if"
  · intro _
    walk_at "ret"
    rfl
  · intro h; cases h
theorem done_hsv (K : LawK C) {c1 c2 c3 w s : Int} {n1 n2 n3 k : Nat} (hs : (s = 20 ∧ k = 1) ∨ (s = 33 ∧ k = 2)) (D : Deed w c1 c2 c3 n1 n2 n3) :
    DefC C 4 (sQ "_law_done") [is (li3 c1 c2 c3), is (.int s), is (.int w)] (is (li3 (rot3 k (c1, c2, c3)).1 (rot3 k (c1, c2, c3)).2.1 (rot3 k (c1, c2, c3)).2.2)) := by
  have K' := K.toColK
  obtain ⟨f, q, doc, pm, cd, hg, ho, hcd⟩ := K.done
  have g1 := K.round
  have g2 := K.min
  obtain ⟨e1, e2, e3, l1, l2, l3, u1, u2, u3, ne⟩ := D
  obtain ⟨MORE, hMORE⟩ : ∃ m, m = w - mnI c1 c2 c3 := ⟨_, rfl⟩
  rw [← hMORE] at e1 e2 e3
  have k4 : k ≤ 4 := by lia
  obtain ⟨near, o1, o2, o3, o4⟩ := hsv_full (r := n1) (g := n2) (b := n3) (k := k) (κ := thirdF k) (by lia) (by lia) (by lia) ne (by lia) (by lia) (thirdF_rv k4)
  refine ⟨f, hg, ⟨_, _, ho, rfl⟩, fn_def (n := 2) (sc := scOf (stAt pw 80)) (ρ := [some (is (li3 c1 c2 c3)), some (is (.int s)), some (is (.int w)), none, none, none, none, none, none, none, none, none, none]) (nm := [sQ "parts", sQ "symbol", sQ "white", sQ "more", sQ "red", sQ "green", sQ "blue", sQ "hue", sQ "share", sQ "value", sQ "told", sQ "light", sQ "whole"]) (xs := [sQ "parts", sQ "symbol", sQ "white"]) K.q ho rfl hcd rfl rfl rfl rfl rfl (bnd3 fun _ _ _ => rfl) rfl (by decide +kernel) (by decide +kernel) (by decide +kernel) (by decide +kernel) rfl fun L X => ?_⟩
  walk_at "if"
  · intro h; exfalso; have h : s = 31 := by simpa using h
    lia
  intro _
  rw [hide_dict, hide_dict]
  apply ex_cons
  · apply ex_assign
    · apply ev_bin
      · walk_at "ev"
      · apply ev_callBt (R := is (.int (mnI c1 c2 c3)))
        · assumption
        · walk_at "ev"
        · apply fn_eq
          · exact fn_min_list rfl (by simp)
          · rw [min3P]
        · exact rfl
        · exact rfl
      · walk_at "op"
    · walk_at "at"
    · decide +kernel
    · decide +kernel
    · exact rfl
  rw [← hMORE]
  apply ex_cons
  · apply ex_asgU
    · apply ev_d
      · apply ev_comp1
        apply comp1_ok (xs := [c1, c2, c3]) (f := fun (c : Int) => .int c) (h := fun c => .flt (d65 (c + MORE)))
        · apply it_eq
          · apply it_list
            walk_at "ev"
          · exact rfl
        · walk_at "at"
        · exact rfl
        · decide +kernel
        · exact rfl
        · exact Nat.le_of_ble_eq_true rfl
        · intro cenv X' j hx
          apply ex_mk3
          · walk_at "at"
          · walk_at "at"
          · intro ω κ
            have hj : (j + MORE).natAbs < 2 ^ 1023 := by
              refine Nat.lt_of_le_of_lt (m := 65536) ?_ (by decide +kernel)
              simp only [List.mem_cons, List.not_mem_nil, or_false] at hx
              rcases hx with rfl | rfl | rfl <;> lia
            apply ev_d
            · walk_at "ev"
            · rfl
      · show PV.list [.flt (d65 (c1 + MORE)), .flt (d65 (c2 + MORE)), .flt (d65 (c3 + MORE))] = PV.list [.flt (fr n1), .flt (fr n2), .flt (fr n3)]
        rw [e1, e2, e3, d65_fr, d65_fr, d65_fr]
    · show Tgt _ _ _ _ (.list [.flt (fr n1), .flt (fr n2), .flt (fr n3)]) _ _
      walk_at "at"
    · exact rfl
    · exact rfl
  apply ex_ifs
  · apply tv_cmp
    · walk_at "ev"
    · apply ev_tupL
      · walk_at "ev"
      · walk_at "at"
      · exact Nat.le_of_ble_eq_true rfl
    · exact op_in_tup 0 (by decide) (by intro y hy; simp only [List.mem_cons, List.not_mem_nil, or_false] at hy; rcases hy with rfl | rfl <;> rfl)
    · exact rfl
  · intro _
    apply ex_cons
    · apply ex_asgU
      · apply ev_callD
        · walk_at "ev"
        · walk_at "def"
        · decide
        · exact rfl
        · exact rfl
        · exact rfl
      · show Tgt _ _ _ _ (.tup [.flt (hsvF (fr n1) (fr n2) (fr n3)).1, .flt (hsvF (fr n1) (fr n2) (fr n3)).2.1, .flt (hsvF (fr n1) (fr n2) (fr n3)).2.2]) _ _
        walk_at "at"
      · exact rfl
      · exact rfl
    unfold thirdF at near o3 o4
    obtain ⟨X, hX⟩ : ∃ X, X = vshF (Float64.add (hsvF (fr n1) (fr n2) (fr n3)).1 (Float64.mul (Float64.ofInt (k : Int)) 4599676419421066581)) (hsvF (fr n1) (fr n2) (fr n3)).2.1 (hsvF (fr n1) (fr n2) (fr n3)).2.2 := ⟨_, rfl⟩
    rw [← hX] at near
    apply ex_cons
    · apply ex_assign
      · apply ev_d
        · apply ev_callD
          · apply el_cons
            · apply ev_bin
              · walk_at "ev"
              · apply ev_bin
                · apply ev_sub
                  · exact ev_hideDI (l := [(20, 1), (33, 2)]) (.cons (.cons .nil)) (by decide) (by decide) (by decide)
                  · walk_at "ev"
                  · apply op_item_dictI (d := .int (k : Int))
                    · rcases hs with ⟨rfl, rfl⟩ | ⟨rfl, rfl⟩ <;> rfl
                · walk_at "ev"
                · walk_at "op"
              · walk_at "op"
            · walk_at "ev"
            · exact rfl
          · apply d_vsh
            · exact K'
            · exact o3
            · exact o4
          · decide
          · exact rfl
          · exact rfl
          · exact rfl
        · show t3 _ = PV.tup [.flt X.1, .flt X.2.1, .flt X.2.2]
          rw [hX]; rfl
      · walk_at "at"
      · decide +kernel
      · decide +kernel
      · exact rfl
    obtain ⟨r1, r2, r3, s1, s2, s3, t1, t2, t3⟩ := rot_facts k e1 e2 e3 l1 l2 l3 u1 u2 u3
    obtain ⟨y1, y2, y3⟩ := near
    unfold hat3 at y1 y2 y3
    dsimp only at y1 y2 y3
    obtain ⟨w1, p1⟩ := round_near y1 s1 t1
    obtain ⟨w2, p2⟩ := round_near y2 s2 t2
    obtain ⟨w3, p3⟩ := round_near y3 s3 t3
    clear y1 y2 y3 hX o1 o2 o3 o4 s1 s2 s3 t1 t2 t3 e1 e2 e3 l1 l2 l3 u1 u2 u3 ne
    generalize (rot3 k (c1, c2, c3)).1 = z1 at r1 ⊢
    generalize (rot3 k (c1, c2, c3)).2.1 = z2 at r2 ⊢
    generalize (rot3 k (c1, c2, c3)).2.2 = z3 at r3 ⊢
    generalize (rot3 k (n1, n2, n3)).1 = m1 at *
    generalize (rot3 k (n1, n2, n3)).2.1 = m2 at *
    generalize (rot3 k (n1, n2, n3)).2.2 = m3 at *
    generalize X.1 = x1 at *
    generalize X.2.1 = x2 at *
    generalize X.2.2 = x3 at *
    have p1 := fin_of p1
    have p2 := fin_of p2
    have p3 := fin_of p3
    apply ex_cons
    · apply ex_assignC1 (ds := [.int ((m1 * 1048576 : Nat) : Int), .int ((m2 * 1048576 : Nat) : Int), .int ((m3 * 1048576 : Nat) : Int)])
      apply comp1_ok (xs := [x1, x2, x3]) (f := fun (c : UInt64) => .flt c) (h := fun c => .int (wholeF c))
      · apply it_eq
        · apply it_tup
          walk_at "ev"
        · exact rfl
      · walk_at "at"
      · exact rfl
      · decide +kernel
      · exact rfl
      · exact Nat.le_of_ble_eq_true rfl
      · intro cenv X' j hx
        apply ex_mk3
        · walk_at "at"
        · walk_at "at"
        · intro ω κ
          have hj : Float64.isFinite (Float64.mul j (Float64.ofInt ((2 : Int) ^ (36 : Int).toNat))) = true := by
            simp only [List.mem_cons, List.not_mem_nil, or_false] at hx
            rcases hx with rfl | rfl | rfl <;> assumption
          apply ev_d
          · walk_at "ev"
          · rfl
      · show [PV.int (wholeF x1), .int (wholeF x2), .int (wholeF x3)] = _
        rw [show wholeF x1 = _ from w1, show wholeF x2 = _ from w2, show wholeF x3 = _ from w3]
      · walk_at "at"
      · decide +kernel
      · decide +kernel
      · exact rfl
    apply ex_ret
    apply ev_ifexpT
    · apply tv_cmp
      · apply ev_comp1
        apply comp1_ok (xs := [m1, m2, m3]) (f := fun (c : Nat) => .int ((c * 1048576 : Nat) : Int)) (h := fun c => .int 0)
        · apply it_eq
          · apply it_list
            walk_at "ev"
          · exact rfl
        · walk_at "at"
        · exact rfl
        · decide +kernel
        · exact rfl
        · exact Nat.le_of_ble_eq_true rfl
        · intro cenv X' j hx
          apply ex_mk3
          · walk_at "at"
          · walk_at "at"
          · intro ω κ
            apply ev_d
            · walk_at "ev"
            · congr 1
              exact whole_mod j
      · walk_at "ev"
      · exact op_eq_list 0 (by decide) (by rfl)
      · exact rfl
    · rfl
    · apply ev_d
      · apply ev_comp1
        apply comp1_ok (xs := [m1, m2, m3]) (f := fun (c : Nat) => .int ((c * 1048576 : Nat) : Int)) (h := fun c => .int ((c : Int) - MORE))
        · apply it_eq
          · apply it_list
            walk_at "ev"
          · exact rfl
        · walk_at "at"
        · exact rfl
        · decide +kernel
        · exact rfl
        · exact Nat.le_of_ble_eq_true rfl
        · intro cenv X' j hx
          apply ex_mk3
          · walk_at "at"
          · walk_at "at"
          · intro ω κ
            apply ev_d
            · walk_at "ev"
            · congr 1
              rw [whole_div j]
      · show PV.list [.int ((m1 : Int) - MORE), .int ((m2 : Int) - MORE), .int ((m3 : Int) - MORE)] = _
        rw [← r1, ← r2, ← r3, Int.add_sub_cancel, Int.add_sub_cancel, Int.add_sub_cancel]
  · intro h
    exfalso
    rcases hs with ⟨rfl, _⟩ | ⟨rfl, _⟩ <;> cases h
theorem done_hls (K : LawK C) {c1 c2 c3 w s : Int} {n1 n2 n3 k : Nat} (hs : (s = 21 ∧ k = 2) ∨ (s = 34 ∧ k = 4)) (D : Deed w c1 c2 c3 n1 n2 n3) :
    DefC C 4 (sQ "_law_done") [is (li3 c1 c2 c3), is (.int s), is (.int w)] (is (li3 (rot3 k (c1, c2, c3)).1 (rot3 k (c1, c2, c3)).2.1 (rot3 k (c1, c2, c3)).2.2)) := by
  have K' := K.toColK
  obtain ⟨f, q, doc, pm, cd, hg, ho, hcd⟩ := K.done
  have g1 := K.round
  have g2 := K.min
  obtain ⟨e1, e2, e3, l1, l2, l3, u1, u2, u3, ne⟩ := D
  obtain ⟨MORE, hMORE⟩ : ∃ m, m = w - mnI c1 c2 c3 := ⟨_, rfl⟩
  rw [← hMORE] at e1 e2 e3
  have k4 : k ≤ 4 := by lia
  obtain ⟨near, o1, o2, o3⟩ := hls_full (r := n1) (g := n2) (b := n3) (k := k) (κ := thirdF k) (by lia) (by lia) (by lia) ne (mn_ge l1 l2 l3) k4 (thirdF_rv k4)
  refine ⟨f, hg, ⟨_, _, ho, rfl⟩, fn_def (n := 2) (sc := scOf (stAt pw 80)) (ρ := [some (is (li3 c1 c2 c3)), some (is (.int s)), some (is (.int w)), none, none, none, none, none, none, none, none, none, none]) (nm := [sQ "parts", sQ "symbol", sQ "white", sQ "more", sQ "red", sQ "green", sQ "blue", sQ "hue", sQ "share", sQ "value", sQ "told", sQ "light", sQ "whole"]) (xs := [sQ "parts", sQ "symbol", sQ "white"]) K.q ho rfl hcd rfl rfl rfl rfl rfl (bnd3 fun _ _ _ => rfl) rfl (by decide +kernel) (by decide +kernel) (by decide +kernel) (by decide +kernel) rfl fun L X => ?_⟩
  walk_at "if"
  · intro h; exfalso; have h : s = 31 := by simpa using h
    lia
  intro _
  rw [hide_dict, hide_dict]
  apply ex_cons
  · apply ex_assign
    · apply ev_bin
      · walk_at "ev"
      · apply ev_callBt (R := is (.int (mnI c1 c2 c3)))
        · assumption
        · walk_at "ev"
        · apply fn_eq
          · exact fn_min_list rfl (by simp)
          · rw [min3P]
        · exact rfl
        · exact rfl
      · walk_at "op"
    · walk_at "at"
    · decide +kernel
    · decide +kernel
    · exact rfl
  rw [← hMORE]
  apply ex_cons
  · apply ex_asgU
    · apply ev_d
      · apply ev_comp1
        apply comp1_ok (xs := [c1, c2, c3]) (f := fun (c : Int) => .int c) (h := fun c => .flt (d65 (c + MORE)))
        · apply it_eq
          · apply it_list
            walk_at "ev"
          · exact rfl
        · walk_at "at"
        · exact rfl
        · decide +kernel
        · exact rfl
        · exact Nat.le_of_ble_eq_true rfl
        · intro cenv X' j hx
          apply ex_mk3
          · walk_at "at"
          · walk_at "at"
          · intro ω κ
            have hj : (j + MORE).natAbs < 2 ^ 1023 := by
              refine Nat.lt_of_le_of_lt (m := 65536) ?_ (by decide +kernel)
              simp only [List.mem_cons, List.not_mem_nil, or_false] at hx
              rcases hx with rfl | rfl | rfl <;> lia
            apply ev_d
            · walk_at "ev"
            · rfl
      · show PV.list [.flt (d65 (c1 + MORE)), .flt (d65 (c2 + MORE)), .flt (d65 (c3 + MORE))] = PV.list [.flt (fr n1), .flt (fr n2), .flt (fr n3)]
        rw [e1, e2, e3, d65_fr, d65_fr, d65_fr]
    · show Tgt _ _ _ _ (.list [.flt (fr n1), .flt (fr n2), .flt (fr n3)]) _ _
      walk_at "at"
    · exact rfl
    · exact rfl
  apply ex_ifs
  · apply tv_cmp
    · walk_at "ev"
    · apply ev_tupL
      · walk_at "ev"
      · walk_at "at"
      · exact Nat.le_of_ble_eq_true rfl
    · exact op_in_tup 0 (by decide) (by intro y hy; simp only [List.mem_cons, List.not_mem_nil, or_false] at hy; rcases hy with rfl | rfl <;> rfl)
    · exact rfl
  · intro h
    exfalso
    rcases hs with ⟨rfl, _⟩ | ⟨rfl, _⟩ <;> cases h
  · intro _
    apply ex_cons
    · apply ex_asgU
      · apply ev_callD
        · walk_at "ev"
        · walk_at "def"
        · decide
        · exact rfl
        · exact rfl
        · exact rfl
      · show Tgt _ _ _ _ (.tup [.flt (hlsF (fr n1) (fr n2) (fr n3)).1, .flt (hlsF (fr n1) (fr n2) (fr n3)).2.1, .flt (hlsF (fr n1) (fr n2) (fr n3)).2.2]) _ _
        walk_at "at"
      · exact rfl
      · exact rfl
    unfold thirdF at near
    obtain ⟨X, hX⟩ : ∃ X, X = slhF (Float64.add (hlsF (fr n1) (fr n2) (fr n3)).1 (Float64.mul (Float64.ofInt (k : Int)) 4599676419421066581)) (hlsF (fr n1) (fr n2) (fr n3)).2.1 (hlsF (fr n1) (fr n2) (fr n3)).2.2 := ⟨_, rfl⟩
    rw [← hX] at near
    apply ex_cons
    · apply ex_assign
      · apply ev_d
        · apply ev_callD
          · apply el_cons
            · apply ev_bin
              · walk_at "ev"
              · apply ev_bin
                · apply ev_sub
                  · exact ev_hideDI (l := [(21, 2), (34, 4)]) (.cons (.cons .nil)) (by decide) (by decide) (by decide)
                  · walk_at "ev"
                  · apply op_item_dictI (d := .int (k : Int))
                    · rcases hs with ⟨rfl, rfl⟩ | ⟨rfl, rfl⟩ <;> rfl
                · walk_at "ev"
                · walk_at "op"
              · walk_at "op"
            · walk_at "ev"
            · exact rfl
          · apply d_slh
            exact K'
          · decide
          · exact rfl
          · exact rfl
          · exact rfl
        · show t3 _ = PV.tup [.flt X.1, .flt X.2.1, .flt X.2.2]
          rw [hX]; rfl
      · walk_at "at"
      · decide +kernel
      · decide +kernel
      · exact rfl
    obtain ⟨r1, r2, r3, s1, s2, s3, t1, t2, t3⟩ := rot_facts k e1 e2 e3 l1 l2 l3 u1 u2 u3
    obtain ⟨y1, y2, y3⟩ := near
    unfold hat3 at y1 y2 y3
    dsimp only at y1 y2 y3
    obtain ⟨w1, p1⟩ := round_near y1 s1 t1
    obtain ⟨w2, p2⟩ := round_near y2 s2 t2
    obtain ⟨w3, p3⟩ := round_near y3 s3 t3
    clear y1 y2 y3 hX o1 o2 o3 s1 s2 s3 t1 t2 t3 e1 e2 e3 l1 l2 l3 u1 u2 u3 ne
    generalize (rot3 k (c1, c2, c3)).1 = z1 at r1 ⊢
    generalize (rot3 k (c1, c2, c3)).2.1 = z2 at r2 ⊢
    generalize (rot3 k (c1, c2, c3)).2.2 = z3 at r3 ⊢
    generalize (rot3 k (n1, n2, n3)).1 = m1 at *
    generalize (rot3 k (n1, n2, n3)).2.1 = m2 at *
    generalize (rot3 k (n1, n2, n3)).2.2 = m3 at *
    generalize X.1 = x1 at *
    generalize X.2.1 = x2 at *
    generalize X.2.2 = x3 at *
    have p1 := fin_of p1
    have p2 := fin_of p2
    have p3 := fin_of p3
    apply ex_cons
    · apply ex_assignC1 (ds := [.int ((m1 * 1048576 : Nat) : Int), .int ((m2 * 1048576 : Nat) : Int), .int ((m3 * 1048576 : Nat) : Int)])
      apply comp1_ok (xs := [x1, x2, x3]) (f := fun (c : UInt64) => .flt c) (h := fun c => .int (wholeF c))
      · apply it_eq
        · apply it_tup
          walk_at "ev"
        · exact rfl
      · walk_at "at"
      · exact rfl
      · decide +kernel
      · exact rfl
      · exact Nat.le_of_ble_eq_true rfl
      · intro cenv X' j hx
        apply ex_mk3
        · walk_at "at"
        · walk_at "at"
        · intro ω κ
          have hj : Float64.isFinite (Float64.mul j (Float64.ofInt ((2 : Int) ^ (36 : Int).toNat))) = true := by
            simp only [List.mem_cons, List.not_mem_nil, or_false] at hx
            rcases hx with rfl | rfl | rfl <;> assumption
          apply ev_d
          · walk_at "ev"
          · rfl
      · show [PV.int (wholeF x1), .int (wholeF x2), .int (wholeF x3)] = _
        rw [show wholeF x1 = _ from w1, show wholeF x2 = _ from w2, show wholeF x3 = _ from w3]
      · walk_at "at"
      · decide +kernel
      · decide +kernel
      · exact rfl
    apply ex_ret
    apply ev_ifexpT
    · apply tv_cmp
      · apply ev_comp1
        apply comp1_ok (xs := [m1, m2, m3]) (f := fun (c : Nat) => .int ((c * 1048576 : Nat) : Int)) (h := fun c => .int 0)
        · apply it_eq
          · apply it_list
            walk_at "ev"
          · exact rfl
        · walk_at "at"
        · exact rfl
        · decide +kernel
        · exact rfl
        · exact Nat.le_of_ble_eq_true rfl
        · intro cenv X' j hx
          apply ex_mk3
          · walk_at "at"
          · walk_at "at"
          · intro ω κ
            apply ev_d
            · walk_at "ev"
            · congr 1
              exact whole_mod j
      · walk_at "ev"
      · exact op_eq_list 0 (by decide) (by rfl)
      · exact rfl
    · rfl
    · apply ev_d
      · apply ev_comp1
        apply comp1_ok (xs := [m1, m2, m3]) (f := fun (c : Nat) => .int ((c * 1048576 : Nat) : Int)) (h := fun c => .int ((c : Int) - MORE))
        · apply it_eq
          · apply it_list
            walk_at "ev"
          · exact rfl
        · walk_at "at"
        · exact rfl
        · decide +kernel
        · exact rfl
        · exact Nat.le_of_ble_eq_true rfl
        · intro cenv X' j hx
          apply ex_mk3
          · walk_at "at"
          · walk_at "at"
          · intro ω κ
            apply ev_d
            · walk_at "ev"
            · congr 1
              rw [whole_div j]
      · show PV.list [.int ((m1 : Int) - MORE), .int ((m2 : Int) - MORE), .int ((m3 : Int) - MORE)] = _
        rw [← r1, ← r2, ← r3, Int.add_sub_cancel, Int.add_sub_cancel, Int.add_sub_cancel]
end
end
section
section
variable {C : Cx} {n : Nat}
noncomputable def repS (x : Str) (m : Nat) : Str := ⟨(List.replicate m x.cps).foldl (· ++ ·) #[]⟩
theorem rep_len (a : Array Nat) : ∀ (m : Nat) (b : Array Nat), ((List.replicate m a).foldl (· ++ ·) b).size = b.size + m * a.size
  | 0, b => by simp
  | m + 1, b => by
    rw [List.replicate_succ, List.foldl_cons, rep_len a m, Array.size_append, Nat.succ_mul]; lia
theorem repS_len (x : Str) (m : Nat) : (repS x m).length = m * x.length := by
  show ((List.replicate m x.cps).foldl (· ++ ·) #[]).size = m * x.cps.size
  rw [rep_len]; simp
theorem op_mul_str {x : Str} {m : Nat} (h0 : 1 ≤ m) (h1 : m * x.length ≤ 2 ^ 20) (h2 : m ≤ 2 ^ 20) (hx : x.length ≠ 0) : OP2 C n (binaryOp .Mult) (is (.str x)) (is (.int m)) (is (.str (repS x m))) := fun A s Z u v Q E hA I hu hv kk => by
  obtain ⟨_, rfl⟩ := rdi hu; obtain ⟨_, rfl⟩ := rdi hv
  refine P.mul_str ?_ (fun _ _ => ?_) (fun _ _ => ?_) ?_
  · rw [decide_eq_false (by lia), decide_eq_false (by lia)]; rfl
  · have : (x.length : Int) ≤ (2 ^ 63 - 1) / (m : Int) := by
      rw [Int.le_ediv_iff_mul_le (by lia)]
      have : ((m * x.length : Nat) : Int) ≤ 2 ^ 20 := by exact_mod_cast h1
      rw [Int.natCast_mul, Int.mul_comm] at this
      lia
    lia
  · show decide (x.length * m > sizeLine) = false
    rw [sizeLine_eq]
    exact decide_eq_false (by rw [Nat.mul_comm]; lia)
  · rw [if_neg (by lia)]
    split
    · rename_i h
      have hm : m = 1 := by
        rw [Bool.or_eq_true, beq_iff_eq, beq_iff_eq] at h
        rcases h with h | h
        · lia
        · exact absurd h hx
      subst hm
      have e : repS x 1 = x := by
        show (⟨#[] ++ x.cps⟩ : Str) = x
        rw [Array.empty_append]
      rw [e] at kk
      exact kk _ Z _ (StepX.refl I) (.str _ _)
    · rw [Int.toNat_natCast]
      refine ⟨?_, kk _ Z _ (Step.toks I _) (.str _ _)⟩
      have := repS_len x m
      unfold repS at this
      rw [this]
      rw [sizeLine_eq]; lia
end
end
section
noncomputable def sTil : Str := sQ "~"
noncomputable def sLt : Str := sQ "<"
noncomputable def sGt : Str := sQ ">"
noncomputable def sLt2 : Str := sQ "<<"
noncomputable def sGt2 : Str := sQ ">>"
noncomputable def sNil : Str := sQ ""
noncomputable def sTL : Str := sQ "~<"
noncomputable def sTG : Str := sQ "~>"
theorem app_assoc (x y z : Str) : x ++ y ++ z = x ++ (y ++ z) := congrArg Str.mk (Array.append_assoc ..)
theorem nil_app (x : Str) : sNil ++ x = x := by
  show (⟨#[] ++ x.cps⟩ : Str) = x
  rw [Array.empty_append]
theorem app_nil (x : Str) : x ++ sNil = x := by
  show (⟨x.cps ++ #[]⟩ : Str) = x
  rw [Array.append_empty]
theorem repS_succ (x : Str) (m : Nat) : repS x (m + 1) = repS x m ++ x := by
  show (⟨(List.replicate (m + 1) x.cps).foldl (· ++ ·) #[]⟩ : Str) = ⟨(List.replicate m x.cps).foldl (· ++ ·) #[] ++ x.cps⟩
  rw [List.replicate_succ', List.foldl_append]
  rfl
noncomputable def sigS (x : Nat) : Str := if x = 0 then sTil else if x = 1 then sLt else sGt
noncomputable def strW : List Nat → Str
  | [] => sNil
  | x :: w => strW w ++ sigS x
theorem app_len (x y : Str) : (x ++ y).length = x.length + y.length := Array.size_append
theorem sig_len (x : Nat) : (sigS x).length = 1 := by
  unfold sigS
  split
  · decide +kernel
  · split <;> decide +kernel
theorem strW_len : ∀ w, (strW w).length = w.length
  | [] => rfl
  | x :: w => by rw [strW, app_len, sig_len, strW_len w]; rfl
noncomputable def runW (x : Nat) : Nat → List Nat → List Nat
  | 0, u => u
  | m + 1, u => x :: 0 :: runW x m u
theorem runW_len (x : Nat) (u : List Nat) : ∀ m, (runW x m u).length = 2 * m + u.length
  | 0 => by simp [runW]
  | m + 1 => by simp only [runW, List.length_cons, runW_len x u m]; lia
theorem runW_str {x : Nat} {s : Str} (hs : sTil ++ sigS x = s) (u : List Nat) : ∀ m, strW (runW x m u) = strW u ++ repS s m
  | 0 => (app_nil _).symm
  | m + 1 => by
    show (strW (runW x m u) ++ sTil) ++ sigS x = _
    rw [app_assoc, hs, runW_str hs u m, repS_succ, app_assoc]
noncomputable abbrev lastS (w : Str) : Str := Txt.slice w (some (-1)) none
noncomputable abbrev initS (w : Str) : Str := Txt.slice w none (some (-1))
noncomputable def sgS (t : Int) : Str := if t.fmod 3 = 0 then sNil else if t.fmod 3 = 1 then sLt else sGt
theorem sgS_len (t : Int) : (sgS t).length ≤ 1 := by
  unfold sgS
  split
  · decide +kernel
  · split <;> decide +kernel
end
section
noncomputable def thL : List (Str × PV) := [(sLt, .int 1), (sLt2, .int 2), (sGt, .int 2), (sGt2, .int 4)]
noncomputable def th2L : List (Str × PV) := [(sLt, .int 1), (sGt, .int 2)]
theorem sg_item {C : Cx} {n : Nat} {v sl : Expr} {t : Int} (hs : ∀ o i, subscripted sl false o i = operate [o, i] (getItem o i)) : OP2 C n (subscriptTail v sl) (is (.tup [.str (sQ ""), .str (sQ "<"), .str (sQ ">")])) (is (.int (t.fmod 3))) (is (.str (sgS t))) := by
  have h : t.fmod 3 = 0 ∨ t.fmod 3 = 1 ∨ t.fmod 3 = 2 := by
    rw [Int.fmod_eq_emod_of_nonneg _ (by decide)]; lia
  unfold sgS
  rcases h with h | h | h
  · rw [h]; exact op_item_tup (j := 0) rfl rfl (by decide) (by decide) hs
  · rw [h]; exact op_item_tup (j := 1) rfl rfl (by decide) (by decide) hs
  · rw [h]; exact op_item_tup (j := 2) rfl rfl (by decide) (by decide) hs
theorem any_two (w : Str) : ([PV.str (sQ "<"), PV.str (sQ ">")].any fun y => eqN 0 y (PV.str w)) = (decide (w = sLt) || decide (w = sGt)) := by
  have e : ∀ a : Str, (a == w) = decide (w = a) := fun a => by
    by_cases h : w = a
    · rw [h, decide_eq_true rfl]; exact beq_self_eq_true a
    · rw [decide_eq_false h]; exact beq_false_of_ne (Ne.symm h)
  show ((sQ "<" == w) || ((sQ ">" == w) || false)) = _
  rw [Bool.or_false, e, e]; rfl
theorem or_of_any {w : Str} (h : ([PV.str (sQ "<"), PV.str (sQ ">")].any fun y => eqN 0 y (PV.str w)) = true) : w = sLt ∨ w = sGt := by
  rw [any_two, Bool.or_eq_true, decide_eq_true_eq, decide_eq_true_eq] at h; exact h
theorem not_of_any {w : Str} (h : ([PV.str (sQ "<"), PV.str (sQ ">")].any fun y => eqN 0 y (PV.str w)) = false) : w ≠ sLt ∧ w ≠ sGt := by
  rw [any_two, Bool.or_eq_false_iff, decide_eq_false_iff_not, decide_eq_false_iff_not] at h; exact h
section
variable {C : Cx}
theorem d_short_til (K : LawK C) (w : Str) (hw : w.length ≤ 1000) : DefC C 4 (sQ "_law_short") [is (.str w), is (.str sTil)] (is (.str (if lastS w = sTil then initS w else w ++ sTil))) := by
  obtain ⟨f, q, doc, pm, cd, hg, ho, hcd⟩ := K.short
  have hxs : w.length ≤ sizeLine := by rw [sizeLine_eq]; lia
  refine ⟨f, hg, ⟨_, _, ho, rfl⟩, fn_def (n := 2) (sc := scOf (stAt pw 81)) (ρ := [some (is (.str w)), some (is (.str sTil)), none]) (nm := [sQ "short", sQ "piece", sQ "thirds"]) (xs := [sQ "short", sQ "piece"]) K.q ho rfl hcd rfl rfl rfl rfl rfl (bnd2 fun _ _ => rfl) rfl (by decide +kernel) (by decide +kernel) (by decide +kernel) (by decide +kernel) rfl fun L X => ?_⟩
  walk_at "if"
  · intro _
    apply ex_ret
    apply ev_ifexp
    · apply tv_cmp
      · apply ev_slice_str
        · walk_at "ev"
        · apply pt_some
          walk_at "ev"
        · exact pt_none
        · exact hxs
        · intro _ _; rfl
      · exact ev_str
      · walk_at "op"
      · exact rfl
    · intro h
      have h : lastS w = sTil := eq_of_beq h
      rw [if_pos h]
      apply ev_slice_str
      · walk_at "ev"
      · exact pt_none
      · apply pt_some
        walk_at "ev"
      · exact hxs
      · intro _ _; rfl
    · intro h
      have h : ¬ lastS w = sTil := fun e => by rw [show (Txt.slice w (some (-1)) none == sQ "~") = true from beq_iff_eq.mpr e] at h; cases h
      rw [if_neg h]
      apply ev_bin
      · walk_at "ev"
      · exact ev_str
      · exact op_add_str (by rw [app_len, sizeLine_eq]; exact Nat.le_trans (Nat.add_le_add_right hw 1) (by decide))
  · intro h
    exact absurd h (by decide +kernel)
theorem d_short_gen (K : LawK C) (w p : Str) (t0 : Int) (hw : w.length ≤ 1000) (hi : (initS w).length ≤ 1000) (hp : look thL p = some (.int t0)) (hpt : (p == sTil) = false)
    (hc1 : lastS w = sLt → (seqIndex? (-1) w.length).bind (w.cps[·]?) = some 60) (hc2 : lastS w = sGt → (seqIndex? (-1) w.length).bind (w.cps[·]?) = some 62) :
    DefC C 4 (sQ "_law_short") [is (.str w), is (.str p)] (is (.str (if lastS w = sLt then initS w ++ sgS (t0 + 1) else if lastS w = sGt then initS w ++ sgS (t0 + 2) else w ++ sgS t0))) := by
  obtain ⟨f, q, doc, pm, cd, hg, ho, hcd⟩ := K.short
  have hxs : w.length ≤ sizeLine := by rw [sizeLine_eq]; lia
  have fin : ∀ (x : Str) (t : Int), x.length ≤ 1000 → OP2 C 3 (binaryOp .Add) (is (.str x)) (is (.str (sgS t))) (is (.str (x ++ sgS t))) := fun x t hx => op_add_str (by rw [app_len, sizeLine_eq]; exact Nat.le_trans (Nat.add_le_add hx (sgS_len t)) (by decide))
  refine ⟨f, hg, ⟨_, _, ho, rfl⟩, fn_def (n := 2) (sc := scOf (stAt pw 81)) (ρ := [some (is (.str w)), some (is (.str p)), none]) (nm := [sQ "short", sQ "piece", sQ "thirds"]) (xs := [sQ "short", sQ "piece"]) K.q ho rfl hcd rfl rfl rfl rfl rfl (bnd2 fun _ _ => rfl) rfl (by decide +kernel) (by decide +kernel) (by decide +kernel) (by decide +kernel) rfl fun L X => ?_⟩
  walk_at "if"
  · intro h
    rw [show (p == sQ "~") = false from hpt] at h; cases h
  intro _
  rw [hide_dict, hide_dict]
  with_reducible apply ex_cons
  · with_reducible apply ex_assign
    · with_reducible apply ev_sub
      · with_reducible apply ev_hideD (l := [(sLt, 1), (sLt2, 2), (sGt, 2), (sGt2, 4)])
        · exact .cons (.cons (.cons (.cons (.nil))))
        · decide +kernel
        · exact (by decide)
        · exact (by decide)
      · walk_at "ev"
      · exact op_item_dictD hp (fun _ _ => rfl)
    · walk_at "at"
    · decide +kernel
    · decide +kernel
    · exact rfl
  with_reducible apply ex_ifs
  · with_reducible apply tv_cmp
    · with_reducible apply ev_slice_str
      · walk_at "ev"
      · with_reducible apply pt_some
        walk_at "ev"
      · exact pt_none
      · exact hxs
      · intro _ _; rfl
    · with_reducible apply ev_tupL
      · with_reducible apply el_cons
        · exact ev_str
        · with_reducible apply el_cons
          · exact ev_str
          · exact el_nil
          · exact rfl
        · exact rfl
      · walk_at "at"
      · exact Nat.le_of_ble_eq_true rfl
    · exact op_in_tup 0 (by decide) (by intro y hy; simp only [List.mem_cons, List.not_mem_nil, or_false] at hy; rcases hy with rfl | rfl <;> rfl)
    · exact rfl
  · intro h
    have key : ∃ t1 : Int, ∃ c : Nat, (seqIndex? (-1) w.length).bind (w.cps[·]?) = some c ∧ look th2L ⟨#[c]⟩ = some (.int t1) ∧ (if lastS w = sLt then initS w ++ sgS (t0 + 1) else if lastS w = sGt then initS w ++ sgS (t0 + 2) else w ++ sgS t0) = initS w ++ sgS (t0 + t1) := by
      rcases or_of_any h with e | e
      · exact ⟨1, 60, hc1 e, by kernel_rfl, by rw [if_pos e]⟩
      · exact ⟨2, 62, hc2 e, by kernel_rfl, by rw [if_neg (fun q => absurd (e.symm.trans q) (by decide +kernel)), if_pos e]⟩
    obtain ⟨t1, c, k1, k2, k3⟩ := key
    rw [k3]
    simp only [List.cons_append, List.nil_append]
    with_reducible apply ex_tup_sw
    · exact rfl
    · exact rfl
    · exact Nat.le_of_ble_eq_true rfl
    · exact rfl
    · with_reducible apply TupK.val
      · with_reducible apply ev_bin
        · walk_at "ev"
        · with_reducible apply ev_sub
          · with_reducible apply ev_hideD (l := [(sLt, 1), (sGt, 2)])
            · exact .cons (.cons (.nil))
            · decide +kernel
            · exact (by decide)
            · exact (by decide)
          · with_reducible apply ev_sub
            · walk_at "ev"
            · walk_at "ev"
            · exact op_item_str (by decide) k1 (fun _ _ => rfl)
          · exact op_item_dictD k2 (fun _ _ => rfl)
        · walk_at "op"
      · with_reducible apply TupK.val
        · with_reducible apply ev_slice_str
          · walk_at "ev"
          · exact pt_none
          · with_reducible apply pt_some
            walk_at "ev"
          · exact hxs
          · intro _ _; rfl
        · with_reducible apply tk_nil_sw rfl rfl
          · show Bdn _ _ _ [_, _] [is (.str (initS w)), is (.int (t0 + t1))] _ _
            walk_at "at"
          · with_reducible apply ex_ret
            with_reducible apply ev_bin
            · walk_at "ev"
            · with_reducible apply ev_sub
              · with_reducible apply ev_tupL
                · with_reducible apply el_cons
                  · exact ev_str
                  · with_reducible apply el_cons
                    · exact ev_str
                    · with_reducible apply el_cons
                      · exact ev_str
                      · exact el_nil
                      · exact rfl
                    · exact rfl
                  · exact rfl
                · walk_at "at"
                · exact Nat.le_of_ble_eq_true rfl
              · with_reducible apply ev_bin
                · walk_at "ev"
                · walk_at "ev"
                · walk_at "op"
              · exact sg_item (fun _ _ => rfl)
            · exact fin _ _ hi
        · exact rfl
      · exact rfl
  · intro h
    obtain ⟨n1, n2⟩ := not_of_any h
    rw [if_neg n1, if_neg n2]
    simp only [List.nil_append]
    with_reducible apply ex_ret
    with_reducible apply ev_bin
    · walk_at "ev"
    · with_reducible apply ev_sub
      · with_reducible apply ev_tupL
        · with_reducible apply el_cons
          · exact ev_str
          · with_reducible apply el_cons
            · exact ev_str
            · with_reducible apply el_cons
              · exact ev_str
              · exact el_nil
              · exact rfl
            · exact rfl
          · exact rfl
        · walk_at "at"
        · exact Nat.le_of_ble_eq_true rfl
      · with_reducible apply ev_bin
        · walk_at "ev"
        · walk_at "ev"
        · walk_at "op"
      · exact sg_item (fun _ _ => rfl)
    · exact fin _ _ hw
end
end
section
noncomputable def sh (x : Int) (s : Nat) : Int := x.fdiv (2 ^ s)
noncomputable def lo (x : Int) (s : Nat) : Int := Builtin.bitXor x (sh x s * 2 ^ s)
noncomputable def digR (n : Nat) (x : Int) (m : Nat) : List Int := if h : m ≤ 1 then [x] else digR n (lo x (m / 2 * n)) (m / 2) ++ digR n (sh x (m / 2 * n)) (m - m / 2)
termination_by m
decreasing_by
  · exact Nat.div_lt_self (Nat.lt_trans Nat.zero_lt_one (Nat.lt_of_not_le h)) Nat.one_lt_two
  · exact Nat.sub_lt (Nat.lt_trans Nat.zero_lt_one (Nat.lt_of_not_le h)) (Nat.div_pos (Nat.lt_of_not_le h) Nat.two_pos)
theorem digR_one {n : Nat} {x : Int} : digR n x 1 = [x] := by rw [digR]; simp
theorem digR_two {n m : Nat} {x : Int} (h : 2 ≤ m) : digR n x m = digR n (lo x (m / 2 * n)) (m / 2) ++ digR n (sh x (m / 2 * n)) (m - m / 2) := by
  rw [digR, dif_neg (Nat.not_le_of_lt h)]
theorem halves {m : Nat} (h : 1 ≤ m) (h1 : ¬ m = 1) : 2 ≤ m ∧ m / 2 < m ∧ 1 ≤ m / 2 ∧ m - m / 2 < m ∧ 1 ≤ m - m / 2 := by
  have h2 : 2 ≤ m := Nat.lt_of_le_of_ne h fun e => h1 e.symm
  have a := Nat.div_lt_self h Nat.one_lt_two
  have b := Nat.div_pos h2 Nat.two_pos
  exact ⟨h2, a, b, Nat.sub_lt h b, Nat.sub_pos_of_lt a⟩
theorem digR_len {n : Nat} : ∀ (m : Nat) (x : Int), 1 ≤ m → (digR n x m).length = m := by
  intro m
  induction m using Nat.strongRecOn with
  | ind m ih =>
    intro x h
    by_cases h1 : m = 1
    · subst h1; rw [digR_one]; rfl
    · obtain ⟨h2, a, b, c, d⟩ := halves h h1
      rw [digR_two h2, List.length_append, ih _ a _ b, ih _ c _ d]
      exact Nat.add_sub_cancel' (Nat.le_of_lt a)
theorem fdiv_pow {x : Int} {s : Nat} : x.fdiv (2 ^ s) = x / 2 ^ s := Int.fdiv_eq_ediv_of_nonneg _ (Int.le_of_lt (Int.pow_pos (by decide)))
theorem sh_nonneg {x : Int} {s : Nat} (h : 0 ≤ x) : 0 ≤ sh x s := by
  unfold sh; rw [fdiv_pow]; exact Int.ediv_nonneg h (Int.le_of_lt (Int.pow_pos (by decide)))
theorem lo_eq {x : Int} {s : Nat} (h : 0 ≤ x) : lo x s = x % 2 ^ s := by
  obtain ⟨n, rfl⟩ := Int.eq_ofNat_of_zero_le h
  have e : sh (n : Int) s * 2 ^ s = ((n / 2 ^ s * 2 ^ s : Nat) : Int) := by
    unfold sh; rw [fdiv_pow]; simp
  unfold lo
  rw [e]
  have tb : ∀ i, (n / 2 ^ s * 2 ^ s).testBit i = (decide (s ≤ i) && n.testBit i) := fun i => by
    rw [Nat.testBit_mul_two_pow, Nat.testBit_div_two_pow]
    by_cases hi : s ≤ i
    · simp [hi, Nat.sub_add_cancel hi]
    · simp [hi]
  have e4 : n &&& (n / 2 ^ s * 2 ^ s) = n / 2 ^ s * 2 ^ s := Nat.eq_of_testBit_eq fun i => by rw [Nat.testBit_and, tb]; cases n.testBit i <;> simp
  have e5 : (n : Int) % 2 ^ s = ((n % 2 ^ s : Nat) : Int) := by simp
  have e6 := Nat.div_add_mod n (2 ^ s)
  rw [Nat.mul_comm] at e6
  rw [bitXor_and, e5]
  generalize n / 2 ^ s * 2 ^ s = m at e4 e6
  have e2 : Builtin.bitAnd (n : Int) (m : Int) = (m : Int) := by
    show ((((n : Int).toNat &&& (m : Int).toNat : Nat)) : Int) = _
    rw [Int.toNat_natCast, Int.toNat_natCast, e4]
  rw [e2]
  lia
theorem bits_mono {x y : Int} (h0 : 0 ≤ y) (h : y ≤ x) : Builtin.Int.intBits y ≤ Builtin.Int.intBits x := by
  unfold Builtin.Int.intBits
  by_cases hy : y = 0
  · subst hy; simp
  · have hx : x ≠ 0 := fun e => hy (Int.le_antisymm (e ▸ h) h0)
    have h1 : y.natAbs ≤ x.natAbs := Int.ofNat_le.mp (by rw [Int.natAbs_of_nonneg h0, Int.natAbs_of_nonneg (Int.le_trans h0 h)]; exact h)
    have : y.natAbs.log2 ≤ x.natAbs.log2 := by
      rw [Nat.le_log2 (Int.natAbs_ne_zero.mpr hx)]
      exact Nat.le_trans (Nat.log2_self_le (Int.natAbs_ne_zero.mpr hy)) h1
    simp [hy, hx, this]
theorem sh_le {x : Int} {s : Nat} (h : 0 ≤ x) : sh x s ≤ x := by
  unfold sh; rw [fdiv_pow]; exact Int.ediv_le_self _ h
theorem lo_nonneg {x : Int} {s : Nat} (h : 0 ≤ x) : 0 ≤ lo x s := by
  rw [lo_eq h]; exact Int.emod_nonneg _ (Int.ne_of_gt (Int.pow_pos (by decide)))
theorem lo_le {x : Int} {s : Nat} (h : 0 ≤ x) : lo x s ≤ x := by
  rw [lo_eq h]
  have h1 := Int.emod_add_mul_ediv x (2 ^ s)
  have h2 : 0 ≤ 2 ^ s * (x / 2 ^ s) := Int.mul_nonneg (Int.le_of_lt (Int.pow_pos (by decide))) (Int.ediv_nonneg h (Int.le_of_lt (Int.pow_pos (by decide))))
  lia
theorem seg_join {α : Type} {ds D1 : List α} {l m r : Nat} (h1 : l ≤ ds.length) (h2 : D1.length = m) (h3 : l + m ≤ r) : (ds.take l ++ D1 ++ ds.drop (l + m)).take (l + m) = ds.take l ++ D1 ∧ (ds.take l ++ D1 ++ ds.drop (l + m)).drop r = ds.drop r := by
  have hl : (ds.take l ++ D1).length = l + m := by rw [List.length_append, List.length_take, h2, Nat.min_eq_left h1]
  constructor
  · exact List.take_left' hl
  · rw [List.drop_append, hl, List.drop_eq_nil_of_le (Nat.le_trans (Nat.le_of_eq hl) h3), List.drop_drop, List.nil_append, Nat.add_sub_cancel' h3]
structure Half (l r m N nn d : Nat) : Prop where
  k2 : 2 ≤ r - l
  m1 : 1 ≤ m
  m2 : m < r - l
  ml : l + m - l = m
  ll : l < l + m
  lr : l + m < r
  le : l + m ≤ r
  ln : l + m ≤ N
  l0 : l ≤ N
  mN : m ≤ N
  q1 : l + m - l ≤ 2 ^ d
  q2 : r - (l + m) ≤ 2 ^ d
  em : ((l : Int) + (r : Int)).fdiv (2 ^ (1 : Int).toNat) = ((l + m : Nat) : Int)
  es : (((l + m : Nat) : Int) - (l : Int)) * (nn : Int) = ((m * nn : Nat) : Int)
  ok : (((l + m : Nat) : Int) - (l : Int)).natAbs < 18446744073709551616
  sz : min l N + m + (N - (l + m)) = N
theorem half_up {k P : Nat} (h : k ≤ P * 2) : k - k / 2 ≤ P := by
  refine Nat.sub_le_iff_le_add.mpr ?_
  rcases Nat.lt_or_ge (k / 2) P with h1 | h1
  · have : k ≤ 2 * (k / 2) + 1 := Nat.le_of_lt_succ (Nat.lt_mul_div_succ k Nat.two_pos)
    rw [Nat.two_mul] at this
    exact Nat.le_trans this (Nat.add_comm P _ ▸ Nat.add_le_add_left h1 _)
  · exact Nat.le_trans h (Nat.mul_two P ▸ Nat.add_le_add_left h1 P)
theorem half_of {l r N nn d : Nat} (hrl : l + 2 ≤ r) (hr : r ≤ N) (hN : N ≤ 2 ^ 24) (hm : r - l ≤ 2 ^ (d + 1)) : ∃ m, (r - l) / 2 = m ∧ Half l r m N nn d := by
  obtain ⟨k, rfl⟩ := Nat.exists_eq_add_of_le (Nat.le_trans (Nat.le_add_right l 2) hrl)
  have hk : 2 ≤ k := Nat.le_of_add_le_add_left hrl
  have m2 := Nat.div_lt_self (Nat.lt_of_lt_of_le (by decide) hk) (show 1 < 2 by decide)
  have m1 := Nat.div_pos hk (by decide)
  have hm : k ≤ 2 ^ d * 2 := by rw [Nat.add_sub_cancel_left] at hm; exact hm
  have up := half_up hm
  have q1 : k / 2 ≤ 2 ^ d := Nat.div_le_of_le_mul (by rw [Nat.mul_comm]; exact hm)
  have em : ((l : Int) + ((l + k : Nat) : Int)).fdiv (2 ^ (1 : Int).toNat) = ((l + k / 2 : Nat) : Int) := by
    show (((l + (l + k) : Nat) : Int)).fdiv ((2 : Nat) : Int) = _
    rw [← Int.ofNat_fdiv, ← Nat.add_assoc, ← Nat.two_mul, Nat.mul_add_div (by decide)]
  have ed : (((l + k / 2 : Nat) : Int) - (l : Int)) = ((k / 2 : Nat) : Int) := by rw [Int.natCast_add, Int.add_comm, Int.add_sub_cancel]
  have es : (((l + k / 2 : Nat) : Int) - (l : Int)) * (nn : Int) = ((k / 2 * nn : Nat) : Int) := by rw [ed, Int.natCast_mul]
  have ln : l + k / 2 ≤ N := Nat.le_trans (Nat.le_of_lt (Nat.add_lt_add_left m2 l)) hr
  refine ⟨k / 2, by rw [Nat.add_sub_cancel_left], ?_, m1, ?_, Nat.add_sub_cancel_left .., Nat.lt_add_of_pos_right m1, Nat.add_lt_add_left m2 l, Nat.le_of_lt (Nat.add_lt_add_left m2 l), ln, Nat.le_trans (Nat.le_add_right _ _) ln, Nat.le_trans (Nat.le_add_left _ _) ln, ?_, ?_, em, es, ?_, ?_⟩
  · rw [Nat.add_sub_cancel_left]; exact hk
  · rw [Nat.add_sub_cancel_left]; exact m2
  · rw [Nat.add_sub_cancel_left]; exact q1
  · rw [Nat.add_sub_add_left]; exact up
  · rw [ed]; exact Nat.lt_of_le_of_lt (Nat.le_trans (Nat.le_trans (Nat.le_add_left _ _) ln) hN) (by decide)
  · rw [Nat.min_eq_left (Nat.le_trans (Nat.le_add_right _ _) ln), Nat.add_sub_cancel' ln]
theorem one_of {l r : Nat} (h : (l : Int) + 1 = r) : r = l + 1 := (Int.ofNat.inj h).symm
theorem two_of {l r : Nat} (h : l < r) (hc : ¬ (l : Int) + 1 = r) : l + 2 ≤ r := Nat.lt_of_le_of_ne h fun e => hc (by rw [← e]; rfl)
theorem no_two {l r : Nat} (h : l + 2 ≤ r) (hm : r - l ≤ 2 ^ 0) : False := absurd (Nat.le_trans (Nat.le_sub_of_add_le (Nat.add_comm _ _ ▸ h)) hm) (by decide)
theorem shl_room {a b : Nat} (h1 : a ≤ 2 ^ 26) (h2 : b ≤ 2 ^ 26) : (a : Int) + (b : Int) ≤ 2 ^ 27 := Int.le_trans (Int.ofNat_le.mpr (Nat.add_le_add h1 h2)) (by decide)
theorem lt62 {l N : Nat} (h : l ≤ N) (hN : N ≤ 2 ^ 24) : l < 2 ^ 62 := Nat.lt_of_le_of_lt (Nat.le_trans h hN) (by decide)
noncomputable def bodyOf : Stmt → List Stmt
  | .FunctionDef _ _ b _ _ _ _ _ _ _ => b
  | _ => []
noncomputable def posOf : Stmt → Pos
  | .FunctionDef _ _ _ _ _ _ _ _ _ p => p
  | _ => default
noncomputable def inSt (p : Program) (i k : Nat) : Stmt := (bodyOf (stAt p i)).getD k (.Pass default)
noncomputable def inFd (st : Stmt) (qual : Str) (clos : List (Str × Addr)) (doc pm : Value) (c' : Addr) (ctv : Value) : FuncData := match st with
  | .FunctionDef name args body _ _ _ scope _ _ _ => fnX name qual args body scope clos .none .none doc pm none (.ref c') ctv
  | _ => default
noncomputable def inV (st : Stmt) (qual : Str) (clos : List (Str × Addr)) : Vp := match st with
  | .FunctionDef name args body _ _ _ scope _ _ _ => cloV name qual args body scope clos
  | _ => offV
noncomputable def CellAt (clos : List (Str × Addr)) (h : Heap) (x : Str) (v : Value) : Prop := ∃ c, clos.lookup x = some c ∧ h.IsCell c (some v)
noncomputable def ClosOk (clos : List (Str × Addr)) (Z : Fz) (h : Heap) : Prop := ∀ x a, clos.lookup x = some a → Z a = none ∧ ∃ v, h.IsCell a v
noncomputable abbrev clos3 (a b c : Str) (c1 c2 c3 : Addr) : List (Str × Addr) := [(a, c1), (b, c2), (c, c3)]
noncomputable def qi2d : Str := sQ "_int2digits.<locals>.inner"
noncomputable abbrev ci2d (c1 c2 c3 : Addr) : List (Str × Addr) := clos3 (sQ "n") (sQ "inner") (sQ "a_digits") c1 c2 c3
noncomputable abbrev vi2d (c1 c2 c3 : Addr) : Vp := inV (inSt pw 15 1) qi2d (ci2d c1 c2 c3)
section
variable {C : Cx}
noncomputable def InnI (C : Cx) (c1 c2 c3 D : Addr) (nn : Nat) (d : Nat) : Prop :=
  ∀ (A : Around) (s : Shared) (Z : Fz) (v vi vn : Value) (vs : List Value) (x : Int) (l r : Nat) (ds : List PV) (Q : Value → Shared → Prop) (E : Value → Shared → Prop),
    Room (d + 2) A → Inv C Z s → (vi2d c1 c2 c3).at_ Z v → ClosOk (ci2d c1 c2 c3) Z s.heap → CellAt (ci2d c1 c2 c3) s.heap (sQ "a_digits") (.ref D) →
    CellAt (ci2d c1 c2 c3) s.heap (sQ "inner") vi → (vi2d c1 c2 c3).at_ Z vi → CellAt (ci2d c1 c2 c3) s.heap (sQ "n") vn → Rd Z vn (.int nn) →
    Owned Z s.heap (D, ds) → l < r → r ≤ ds.length → ds.length ≤ 2 ^ 24 → ds.length * nn ≤ 2 ^ 26 → r - l ≤ 2 ^ d → 0 ≤ x → Builtin.Int.intBits x ≤ 2 ^ 25 → RdL Z vs [.int x, .int l, .int r] →
    (∀ Z' s', StepX C (· = D) Z s Z' s' → Owned Z' s'.heap (D, ds.take l ++ (digR nn x (r - l)).map .int ++ ds.drop r) → Q .none s') → wpAny (model C.prog C.w) A (call v vs) Q E s
theorem ClosOk.of {fd : FuncData} {L f : Addr} {nm oc : List Str} {sc : List (Str × NameKind)} {X : Addr → Prop} {ρ : List (Option Vp)} {ω : List (Addr × List PV)} {κ : Addr → Option Obj} {Z : Fz} {h : Heap} (H : FSp (callEnv fd L f) nm oc sc X ρ ω κ Z h) : ClosOk fd.closure Z h := fun x a e => H.cells x a e
theorem CellAt.of {fd : FuncData} {L f : Addr} {h : Heap} {x : Str} {v : Value} (y : VarAt (callEnv fd L f) h x v) (hk : fd.scope.names.lookup x = some .free) : CellAt fd.closure h x v := by
  rcases y.2 with ⟨q, _⟩ | ⟨_, c, e, r⟩
  · have : (callEnv fd L f).kindOf x = fd.scope.names.lookup x := rfl
    rw [this, hk] at q; cases q
  · exact ⟨c, e, r⟩
noncomputable def ownAsn (C : Cx) (D : Addr) (ds : List PV) : Asn C := ⟨fun Z h => Owned Z h (D, ds), fun I h x => by
  obtain ⟨hz, vs, m, e, r⟩ := h
  exact ⟨x.stillNone hz e (fun q => q), vs, m, x.keep _ _ e (fun q => q) (I.tab_fields e fun ps q => by cases q), r.le x.le⟩⟩
theorem eg_run {n : Nat} {X : Addr → Prop} {env : Env} {nm oc : List Str} {sc : List (Str × NameKind)} {ρ : List (Option Vp)} {ω : List (Addr × List PV)} {κ : Addr → Option Obj} {t : Sem Flow} {RA : Fz → Heap → Value → Prop} {A : Around} {s : Shared} {Z : Fz} {Q : Flow → Shared → Prop} {E : Value → Shared → Prop} (Ψ : Asn C)
    (h : EXG C n X (FS C env nm oc sc X ρ ω κ) t Ψ RA) (hA : Room n A) (I : Inv C Z s) (H : FSp env nm oc sc X ρ ω κ Z s.heap)
    (kn : ∀ Z' s', StepX C X Z s Z' s' → Ψ.at_ Z' s'.heap → Q .next s') (kr : ∀ v Z' s', StepX C X Z s Z' s' → RA Z' s'.heap v → Q (.ret v) s') : wpAny (model C.prog C.w) A t Q E s := h A s Z Q E hA I H kn kr
theorem ex_i2d {c1 c2 c3 D : Addr} {nn d : Nat} (ih : InnI C c1 c2 c3 D nn d) {X : Addr → Prop} {env : Env} {nm oc : List Str} {sc : List (Str × NameKind)} {ρ : List (Option Vp)} {κ : Addr → Option Obj} {R : Vp} {e1 e2 e3 : Expr} {p cpos epos : Pos} {x : Int} {l r : Nat} {ds : List PV}
    (h0 : ∀ {Z h}, FSp env nm oc sc X ρ [(D, ds)] κ Z h → ClosOk (ci2d c1 c2 c3) Z h) (hc : ∀ {h x v}, x ∈ [sQ "a_digits", sQ "inner", sQ "n"] → VarAt env h x v → CellAt (ci2d c1 c2 c3) h x v)
    (h1 : At nm ρ (sQ "a_digits") (isv (.ref D))) (h2 : At nm ρ (sQ "inner") (vi2d c1 c2 c3)) (h3 : At nm ρ (sQ "n") (is (.int nn)))
    (he : EL C (d + 2) (FS C env nm oc sc X ρ [(D, ds)] κ) (spliced (backTo cpos (starEach [e1, e2, e3] env))) [is (.int x), is (.int l), is (.int r)])
    (hlr : l < r) (hr : r ≤ ds.length) (hdl : ds.length ≤ 2 ^ 24) (hdn : ds.length * nn ≤ 2 ^ 26) (hm : r - l ≤ 2 ^ d) (hx : 0 ≤ x) (hb : Builtin.Int.intBits x ≤ 2 ^ 25)
    (hst : starEach [e1, e2, e3] env = (false, eval e1 env) :: starEach [e2, e3] env := by rfl) (hi : interactive env = false := by rfl) :
    EX C (d + 2) X (FS C env nm oc sc X ρ [(D, ds)] κ) (exec (.Expr (.Call (.Name (sQ "inner") p) [e1, e2, e3] [] cpos) epos) env)
      (FS C env nm oc sc X ρ [(D, ds.take l ++ (digR nn x (r - l)).map .int ++ ds.drop r)] κ) R := fun A s Z Q E hA I H kn kr => by
  rw [PySem.exec_Expr (hi := hi) (hs := rfl)]
  refine wpAny_bind (wpAny_standAt (wpAny_bind (wpAny_Call_NameR (ev_name (n := d + 2) h2 A s Z _ E hA I H fun v Z₁ s₁ x₁ hv => ?_))))
  have H₁ := (FS C env nm oc sc X ρ [(D, ds)] κ).stable I H x₁
  obtain ⟨fa, doc, pm, c', ctv, rfl, hz, hci⟩ := id hv
  refine callWith_def (fd := inFd (inSt pw 15 1) qi2d (ci2d c1 c2 c3) doc pm c' ctv) rfl (he A s₁ Z₁ _ E hA x₁.inv H₁ fun vs Z₂ s₂ x₂ hs => ⟨x₂.inv.heap _ _ (x₂.le _ _ hz), ?_⟩) hst
  have H₂ := (FS C env nm oc sc X ρ [(D, ds)] κ).stable x₁.inv H₁ x₂
  obtain ⟨va, ya, pa⟩ := h1.var H₂.vars
  cases pa
  obtain ⟨vi, yi, pi⟩ := h2.var H₂.vars
  obtain ⟨vn, yn, pn⟩ := h3.var H₂.vars
  have q1 := hc (.head _) ya
  have q2 := hc (.tail _ (.head _)) yi
  have q3 := hc (.tail _ (.tail _ (.head _))) yn
  have q0 := h0 H₂
  refine ih A s₂ Z₂ (.ref fa) vi vn vs x l r ds _ _ hA x₂.inv (Vp.mono _ x₂.le hv) q0 q1 q2 pi q3 pn (H₂.own _ (.head _)) hlr hr hdl hdn hm hx hb (Sat.rd (ds := [.int x, .int l, .int r]) hs) fun Z₃ s₃ x₃ ho => ?_
  obtain ⟨st, H₃⟩ := H₂.reown x₂.inv .here x₃ ho
  rw [dropValue_plain (by intro _ q; cases q)]
  exact wpAny_pure (kn Z₃ s₃ (((Step.to x₁).trans (Step.to x₂)).trans st) H₃)
theorem inn_step (hq : Quiet C) (c1 c2 c3 D : Addr) (nn : Nat) (hap : (ci2d c1 c2 c3).Pairwise fun x y => x.2 ≠ y.2) (d : Nat) (hd : d ≤ 24) (ih : ∀ d', d = d' + 1 → InnI C c1 c2 c3 D nn d') : InnI C c1 c2 c3 D nn d := by
  intro A s Z v vi vn vs x l r ds Q E hA I hv hcl ca ci hvi cn hvn ho hlr hr hdl hdn hm hx hb hvs k
  obtain ⟨fa, doc, pm, c', ctv, rfl, hz, hci⟩ := hv
  obtain ⟨v1, _, rfl, p1, hvs⟩ := rdli hvs
  obtain ⟨v2, _, rfl, p2, hvs⟩ := rdli hvs
  obtain ⟨v3, _, rfl, p3, hvs⟩ := rdli hvs
  obtain rfl := rdli hvs
  refine clo_enter (n := d) (fd := inFd (inSt pw 15 1) qi2d (ci2d c1 c2 c3) doc pm c' ctv) (xs := [sQ "x", sQ "L", sQ "R"]) (oc := [sQ "x", sQ "L", sQ "R", sQ "mid", sQ "shift", sQ "upper", sQ "lower"])
    (nm := [sQ "x", sQ "L", sQ "R", sQ "mid", sQ "shift", sQ "upper", sQ "lower", sQ "a_digits", sQ "inner", sQ "n"])
    (ρ := [some (is (.int x)), some (is (.int l)), some (is (.int r)), none, none, none, none, some (isv (.ref D)), some (vi2d c1 c2 c3), some (is (.int nn))]) (ω := [(D, ds)]) (sc := (inFd (inSt pw 15 1) qi2d (ci2d c1 c2 c3) doc pm c' ctv).scope.names) hq I hA hz rfl rfl hci rfl rfl rfl rfl rfl rfl rfl rfl rfl (by decide +kernel) hap hcl ?_ ?_ ?_ ?_ rfl rfl rfl
  · intro p hp; cases List.mem_singleton.mp hp; exact ho
  · simp
  · intro L h' hn hk
    obtain ⟨ca1, ca2, ca3⟩ := ca
    obtain ⟨ci1, ci2, ci3⟩ := ci
    obtain ⟨cn1, cn2, cn3⟩ := cn
    have kc : ∀ {c : Addr} {v : Value}, s.heap.IsCell c (some v) → h'.IsCell c (some v) := fun ⟨o, e, r⟩ => ⟨o, hk _ _ e, r⟩
    refine .va ⟨by decide +kernel, .inl ⟨rfl, _, hn, rfl⟩⟩ p1 (.va ⟨by decide +kernel, .inl ⟨rfl, _, hn, rfl⟩⟩ p2 (.va ⟨by decide +kernel, .inl ⟨rfl, _, hn, rfl⟩⟩ p3 (.un (.un (.un (.un (.va ⟨by decide +kernel, .inr ⟨.inr rfl, ca1, ca2, kc ca3⟩⟩ rfl
      (.va ⟨by decide +kernel, .inr ⟨.inr rfl, ci1, ci2, kc ci3⟩⟩ hvi (.va ⟨by decide +kernel, .inr ⟨.inr rfl, cn1, cn2, kc cn3⟩⟩ hvn .nil)))))))))
  · intro L X A' s₁ E' hA' I₁ st hX H
    refine eg_run (RA := fun Z h v => v = .none ∧ Owned Z h (D, ds.take l ++ (digR nn x (r - l)).map .int ++ ds.drop r)) (ownAsn C D (ds.take l ++ (digR nn x (r - l)).map .int ++ ds.drop r)) ?_ hA' I₁ H (fun Z' s' x' H' => ?_) fun v Z' s' x' ra => ?_
    rotate_left
    · exact k Z' s' (((Step.to st).trans x').hideY fun b hb => (hX b hb).imp id fun q => by simpa using q) H'
    · rw [ra.1]
      exact k Z' s' (((Step.to st).trans x').hideY fun b hb => (hX b hb).imp id fun q => by simpa using q) ra.2
    · clear k H
      apply eg_ifs
      · walk_at "ev"
      · intro hc
        have hrl := one_of (by simpa using hc)
        subst hrl
        apply eg_cons
        · apply ex_setitem
          · walk_at "at"
          · walk_at "ev"
          · walk_at "ev"
          · exact OU.here
          · exact hr
          · exact lt62 (Nat.le_of_lt hr) hdl
          · exact rfl
        apply eg_ret0
        intro Z h H
        refine ⟨rfl, ?_⟩
        have := H.own _ (.head _)
        rw [List.set_eq_take_append_cons_drop, if_pos (Nat.lt_of_succ_le hr)] at this
        rw [Nat.add_sub_cancel_left, digR_one, List.map_cons, List.map_nil, List.append_assoc, List.singleton_append]
        exact this
      · intro hc
        have hrl := two_of hlr (by simpa using hc)
        cases d with
        | zero => exact (no_two hrl hm).elim
        | succ d =>
        have ih := ih d rfl
        obtain ⟨m, hh, M⟩ := half_of (nn := nn) hrl hr hdl hm
        have hlen : (ds.take l ++ (digR nn (lo x (m * nn)) (l + m - l)).map PV.int ++ ds.drop (l + m)).length = ds.length := by
          rw [List.length_append, List.length_append, List.length_take, List.length_drop, List.length_map, M.ml, digR_len _ _ M.m1]; exact M.sz
        apply eg_cons
        · apply ex_assign
          · apply ev_d
            · apply ev_bin
              · walk_at "ev"
              · walk_at "ev"
              · apply op_shr_int (by decide)
            · exact congrArg PV.int M.em
          · walk_at "at"
          · exact ⟨by decide +kernel, by decide +kernel⟩
          · exact rfl
          · exact rfl
        apply eg_cons
        · apply ex_assign
          · apply ev_d
            · apply ev_bin
              · walk_at "ev"
              · walk_at "ev"
              · apply op_mul_int (mulOk_l M.ok)
            · exact congrArg PV.int M.es
          · walk_at "at"
          · exact ⟨by decide +kernel, by decide +kernel⟩
          · exact rfl
          · exact rfl
        apply eg_cons
        · apply ex_assign
          · apply ev_d (d' := .int (sh x (m * nn)))
            · apply ev_bin
              · walk_at "ev"
              · walk_at "ev"
              · apply op_shr_int (Int.natCast_nonneg _)
            · rfl
          · walk_at "at"
          · exact ⟨by decide +kernel, by decide +kernel⟩
          · exact rfl
          · exact rfl
        apply eg_cons
        · apply ex_assign
          · apply ev_d (d' := .int (lo x (m * nn)))
            · apply ev_bin
              · walk_at "ev"
              · apply ev_bin
                · walk_at "ev"
                · walk_at "ev"
                · apply op_shl_int (Int.natCast_nonneg _)
                  exact shl_room (Nat.le_trans (Nat.le_trans (bits_mono (sh_nonneg (s := m * nn) hx) (sh_le hx)) hb) (by decide)) (Nat.le_trans (Nat.mul_le_mul_right _ M.mN) hdn)
              · walk_at "op"
            · rfl
          · walk_at "at"
          · exact ⟨by decide +kernel, by decide +kernel⟩
          · exact rfl
          · exact rfl
        apply eg_cons
        · apply ex_i2d ih
          · intro Z h H; exact ClosOk.of H
          · intro h x v hm y
            simp only [List.mem_cons, List.not_mem_nil, or_false] at hm
            rcases hm with rfl | rfl | rfl <;> exact CellAt.of y rfl
          · walk_at "at"
          · walk_at "at"
          · walk_at "at"
          · walk_at "ev"
          · exact M.ll
          · exact M.ln
          · exact hdl
          · exact hdn
          · exact M.q1
          · exact lo_nonneg hx
          · exact Nat.le_trans (bits_mono (lo_nonneg hx) (lo_le hx)) hb
        apply eg_cons
        · apply ex_i2d ih
          · intro Z h H; exact ClosOk.of H
          · intro h x v hm y
            simp only [List.mem_cons, List.not_mem_nil, or_false] at hm
            rcases hm with rfl | rfl | rfl <;> exact CellAt.of y rfl
          · walk_at "at"
          · walk_at "at"
          · walk_at "at"
          · walk_at "ev"
          · exact M.lr
          · rw [hlen]; exact hr
          · rw [hlen]; exact hdl
          · rw [hlen]; exact hdn
          · exact M.q2
          · exact sh_nonneg hx
          · exact Nat.le_trans (bits_mono (sh_nonneg hx) (sh_le hx)) hb
        apply eg_end
        intro Z h H
        have ho := H.own _ (.head _)
        have hs := seg_join (ds := ds) (D1 := (digR nn (lo x (m * nn)) m).map PV.int) (l := l) (m := m) (r := r) M.l0 (by rw [List.length_map, digR_len _ _ M.m1]) M.le
        show Owned Z h (D, _)
        rw [M.ml, hs.1, hs.2] at ho
        rw [digR_two M.k2, hh, List.map_append, ← List.append_assoc (ds.take l)]
        rw [Nat.sub_add_eq] at ho
        exact ho
theorem inn_i2d (hq : Quiet C) (c1 c2 c3 D : Addr) (nn : Nat) (hap : (ci2d c1 c2 c3).Pairwise fun x y => x.2 ≠ y.2) : ∀ d, d ≤ 24 → InnI C c1 c2 c3 D nn d := by
  intro d
  induction d with
  | zero => exact fun hd => inn_step hq c1 c2 c3 D nn hap 0 hd fun d' h => nomatch h
  | succ d ih =>
    intro hd
    refine inn_step hq c1 c2 c3 D nn hap (d + 1) hd fun d' h => ?_
    cases h
    exact ih (Nat.le_of_succ_le hd)
end
end
section
inductive NestAt (C : Cx) (p : Program) (i k : Nat) (x qual : Str) : Prop where
  | mk (f : Addr) (doc pm : Value) (c P : Addr) (g : GlobZ C x (.ref f)) (z : C.Z0 f = some { cls := .type "function", data := .func (fdOf (stAt p i) x doc pm (.ref c)) }) (cz : CodeZ C (.ref c) x)
    (hd : HdZ C c P) (m : (P, posOf (inSt p i k), qual) ∈ C.tabs) (u : ∀ t ∈ C.tabs, t.1 = P → t = (P, posOf (inSt p i k), qual))
noncomputable def qd2i : Str := sQ "_digits2int.<locals>.inner"
structure DigK (C : Cx) : Prop where
  q : Quiet C
  B : TopB C
  len : BltZ C (sQ "len") (.builtin "len")
  divmod : BltZ C (sQ "divmod") (.builtin "divmod")
  reversed : BltZ C (sQ "reversed") (.type "reversed")
  lim : GlobD C (sQ "_DIV_LIMIT") (.int 4000)
  i2d : NestAt C pw 15 1 (sQ "_int2digits") qi2d
  d2i : NestAt C pw 16 0 (sQ "_digits2int") qd2i
  d2n1n : DefAt C pw 13 (sQ "_div2n1n")
  dpos : DefAt C pw 17 (sQ "_divmod_pos")
  idm : DefAt C pw 18 (sQ "int_divmod")
noncomputable def digM (n : Nat) (a : Int) : Nat := (Builtin.Int.intBits a + n - 1) / n
noncomputable def digF (n : Nat) (a : Int) : List Int := if a = 0 then [] else digR n a (digM n a)
theorem look3 {a b c x : Str} {c1 c2 c3 y : Addr} (e : (clos3 a b c c1 c2 c3).lookup x = some y) : (x = a ∧ y = c1) ∨ (x = b ∧ y = c2) ∨ (x = c ∧ y = c3) := by
  rw [List.lookup_cons, List.lookup_cons, List.lookup_cons] at e
  by_cases h1 : x = a
  · subst h1; simp at e; exact .inl ⟨rfl, e.symm⟩
  · have h1' : (x == a) = false := by simpa using h1
    rw [h1'] at e
    by_cases h2 : x = b
    · subst h2; simp at e; exact .inr (.inl ⟨rfl, e.symm⟩)
    · have h2' : (x == b) = false := by simpa using h2
      rw [h2'] at e
      by_cases h3 : x = c
      · subst h3; simp at e; exact .inr (.inr ⟨rfl, e.symm⟩)
      · have h3' : (x == c) = false := by simpa using h3
        rw [h3'] at e; cases e
section
variable {C : Cx}
theorem d_i2d (K : DigK C) (a : Int) (n : Nat) (ha : 0 ≤ a) (hn : 1 ≤ n) (hb : Builtin.Int.intBits a ≤ 2 ^ 23) (hnn : n ≤ 2 ^ 23) : DefC C 27 (sQ "_int2digits") [is (.int a), is (.int n)] (is (li (digF n a))) := by
  obtain ⟨f, doc, pm, c, P, hg, ho, hcd, hH, hT, hu⟩ := K.i2d
  have g1 := K.len
  have hm0 : digM n a * n ≤ Builtin.Int.intBits a + n - 1 := Nat.div_mul_le_self _ _
  have hm1 : digM n a ≤ digM n a * n := Nat.le_mul_of_pos_right _ hn
  refine ⟨f, hg, ⟨_, _, ho, rfl⟩, fn_def (n := 25) (sc := scOf (stAt pw 15)) (ρ := [some (is (.int a)), some (is (.int n)), none, none]) (nm := [sQ "a", sQ "n", sQ "a_digits", sQ "inner"]) (xs := [sQ "a", sQ "n"]) K.q ho rfl hcd rfl rfl rfl rfl rfl (bnd2 fun _ _ => rfl) rfl (by decide +kernel) (by decide +kernel) (by decide +kernel) (by decide +kernel) rfl fun L X => ?_⟩
  apply ex_new (ρ := fun _ => []) (ρ' := fun D => [some (is (.int a)), some (is (.int n)), some (isv (.ref D)), none]) (ds := List.replicate (digM n a) (.int 0))
  · apply evn_rep
    · walk_at "ev"
    · apply ev_d
      · apply ev_bin
        · apply ev_bin
          · apply ev_bin
            · apply ev_meth0
              · walk_at "ev"
              · exact hasM_bitlen
              · exact fn_bitlen
              · exact rfl
              · exact rfl
            · walk_at "ev"
            · walk_at "op"
          · walk_at "ev"
          · walk_at "op"
        · walk_at "ev"
        · apply op_div_int
          · lia
          · exact PyProof.noPylong_small (by lia)
      · show PV.int _ = PV.int (digM n a)
        congr 1
        rw [Int.fdiv_eq_ediv_of_nonneg _ (by lia)]
        unfold digM
        generalize Builtin.Int.intBits a = b
        rw [Int.natCast_ediv]
        congr 1
        lia
    · lia
  · intro D; exact .there (.there .here)
  · decide +kernel
  · decide +kernel
  · exact rfl
  · intro D
    apply ex_cons
    · apply ex_nest (clos := ci2d (L + 1) (L + 3) (L + 2)) (ρ' := [some (is (.int a)), some (is (.int n)), some (isv (.ref D)), some (vi2d (L + 1) (L + 3) (L + 2))]) K.B hH hT hu
      · exact rfl
      · exact rfl
      · kernel_rfl
      · exact rfl
      · exact rfl
      · exact rfl
      · exact .there (.there (.there .here))
      · decide +kernel
      · decide +kernel
    have hap : (ci2d (L + 1) (L + 3) (L + 2)).Pairwise fun x y => x.2 ≠ y.2 := by simp
    have ih := inn_i2d K.q (L + 1) (L + 3) (L + 2) D n hap 24 (Nat.le_refl _)
    apply ex_ifs
    · apply tv_int
      · walk_at "ev"
      · intro _; rfl
    · intro hc
      have hc : a ≠ 0 := by simpa using hc
      have hbp : 1 ≤ Builtin.Int.intBits a := by unfold Builtin.Int.intBits; simp [hc]
      have hmp : 1 ≤ digM n a := Nat.div_pos (by lia) hn
      show EX _ _ _ _ (execs (_ :: _) _) _ _
      apply ex_cons
      · apply ex_i2d (x := a) (l := 0) (r := digM n a) ih
        · intro Z h H x y e
          rcases look3 e with ⟨rfl, rfl⟩ | ⟨rfl, rfl⟩ | ⟨rfl, rfl⟩
          · exact H.cells (sQ "n") (L + 1) rfl
          · exact H.cells (sQ "inner") (L + 3) rfl
          · exact H.cells (sQ "a_digits") (L + 2) rfl
        · intro h x v hm y
          simp only [List.mem_cons, List.not_mem_nil, or_false] at hm
          rcases hm with rfl | rfl | rfl
          · rcases y.2 with ⟨q, _⟩ | ⟨_, c, e, r⟩
            · cases q
            · exact ⟨c, e, r⟩
          · rcases y.2 with ⟨q, _⟩ | ⟨_, c, e, r⟩
            · cases q
            · exact ⟨c, e, r⟩
          · rcases y.2 with ⟨q, _⟩ | ⟨_, c, e, r⟩
            · cases q
            · exact ⟨c, e, r⟩
        · walk_at "at"
        · walk_at "at"
        · walk_at "at"
        · apply el_cons
          · walk_at "ev"
          · apply el_cons
            · apply ev_d
              · walk_at "ev"
              · rfl
            · apply el_cons
              · apply ev_d
                · apply ev_len_own (ds := List.replicate (digM n a) (.int 0)) g1
                  · walk_at "at"
                  · exact .head _
                  · rw [List.length_replicate]; lia
                  · exact rfl
                · rw [List.length_replicate]
              · walk_at "ev"
              · exact rfl
            · exact rfl
          · exact rfl
        · lia
        · rw [List.length_replicate]; exact Nat.le_refl _
        · rw [List.length_replicate]; lia
        · rw [List.length_replicate]; lia
        · lia
        · exact ha
        · lia
      apply ex_freeze .here (.same (.same (.it (.same .nil))))
      apply ex_ret
      apply ev_d
      · walk_at "ev"
      · show PV.list _ = _
        rw [digF, if_neg hc, List.take_zero, List.nil_append, Nat.sub_zero, List.drop_eq_nil_of_le (by rw [List.length_replicate]; exact Nat.le_refl _), List.append_nil]
    · intro hc
      have hc : a = 0 := by simpa using hc
      subst hc
      show EX _ _ _ _ (execs (_ :: _) _) _ _
      apply ex_freeze .here (.same (.same (.it (.same .nil))))
      apply ex_ret
      apply ev_d
      · walk_at "ev"
      · have : digM n 0 = 0 := by
          unfold digM
          show (0 + n - 1) / n = 0
          exact Nat.div_eq_of_lt (by lia)
        rw [this]; rfl
end
end
section
noncomputable def valD (n : Nat) : List Int → Int
  | [] => 0
  | d :: r => d + 2 ^ n * valD n r
theorem val_app (n : Nat) : ∀ a b : List Int, valD n (a ++ b) = valD n a + 2 ^ (n * a.length) * valD n b
  | [], b => by simp [valD]
  | d :: a, b => by
    rw [List.cons_append, valD, valD, val_app n a b, List.length_cons, Nat.mul_succ, Nat.add_comm, Int.pow_add, Int.mul_add, Int.mul_assoc]
    lia
noncomputable def seg (ds : List Int) (l r : Nat) : List Int := (ds.drop l).take (r - l)
theorem seg_len {ds : List Int} {l r : Nat} (h : r ≤ ds.length) : (seg ds l r).length = r - l := by
  unfold seg; rw [List.length_take, List.length_drop]; exact Nat.min_eq_left (Nat.sub_le_sub_right h l)
theorem seg_cut {ds : List Int} {l m r : Nat} (h1 : l ≤ m) (h2 : m ≤ r) : seg ds l r = seg ds l m ++ seg ds m r := by
  unfold seg
  have e : r - l = (m - l) + (r - m) := by rw [Nat.add_comm, Nat.sub_add_sub_cancel h2 h1]
  rw [e, List.take_add, List.drop_drop]
  rw [Nat.add_sub_cancel' h1]
theorem seg_one {ds : List Int} {l : Nat} {d : Int} (h : ds[l]? = some d) : seg ds l (l + 1) = [d] := by
  unfold seg
  have hl : l < ds.length := (List.getElem?_eq_some_iff.mp h).1
  rw [Nat.add_sub_cancel_left, List.drop_eq_getElem_cons hl]
  rw [List.getElem?_eq_getElem hl] at h
  cases h; rfl
theorem val_seg {n : Nat} {ds : List Int} {l m r : Nat} (h1 : l ≤ m) (h2 : m ≤ r) (h3 : r ≤ ds.length) : valD n (seg ds l r) = valD n (seg ds m r) * 2 ^ ((m - l) * n) + valD n (seg ds l m) := by
  rw [seg_cut h1 h2, val_app, seg_len (by lia), Nat.mul_comm, Int.mul_comm, Int.add_comm]
noncomputable abbrev cd2i (c1 c2 c3 : Addr) : List (Str × Addr) := clos3 (sQ "n") (sQ "inner") (sQ "digits") c1 c2 c3
noncomputable abbrev vd2i (c1 c2 c3 : Addr) : Vp := inV (inSt pw 16 0) qd2i (cd2i c1 c2 c3)
section
variable {C : Cx}
noncomputable def InnD (C : Cx) (c1 c2 c3 : Addr) (nn : Nat) (ds : List Int) (d : Nat) : Prop :=
  ∀ (A : Around) (s : Shared) (Z : Fz) (v vi vn vd : Value) (vs : List Value) (l r : Nat) (Q : Value → Shared → Prop) (E : Value → Shared → Prop),
    Room (d + 2) A → Inv C Z s → (vd2i c1 c2 c3).at_ Z v → ClosOk (cd2i c1 c2 c3) Z s.heap → CellAt (cd2i c1 c2 c3) s.heap (sQ "digits") vd → Rd Z vd (li ds) →
    CellAt (cd2i c1 c2 c3) s.heap (sQ "inner") vi → (vd2i c1 c2 c3).at_ Z vi → CellAt (cd2i c1 c2 c3) s.heap (sQ "n") vn → Rd Z vn (.int nn) →
    l < r → r ≤ ds.length → r - l ≤ 2 ^ d → RdL Z vs [.int l, .int r] →
    (∀ v Z' s', Step C Z s Z' s' → Rd Z' v (.int (valD nn (seg ds l r))) → Q v s') → wpAny (model C.prog C.w) A (call v vs) Q E s
theorem ev_d2i {c1 c2 c3 : Addr} {nn d : Nat} {ds : List Int} (ih : InnD C c1 c2 c3 nn ds d) {X : Addr → Prop} {env : Env} {nm oc : List Str} {sc : List (Str × NameKind)} {ρ : List (Option Vp)} {ω : List (Addr × List PV)} {κ : Addr → Option Obj} {e1 e2 : Expr} {p cpos : Pos} {l r : Nat}
    (h0 : ∀ {Z h}, FSp env nm oc sc X ρ ω κ Z h → ClosOk (cd2i c1 c2 c3) Z h) (hc : ∀ {h x v}, x ∈ [sQ "digits", sQ "inner", sQ "n"] → VarAt env h x v → CellAt (cd2i c1 c2 c3) h x v)
    (h1 : At nm ρ (sQ "digits") (is (li ds))) (h2 : At nm ρ (sQ "inner") (vd2i c1 c2 c3)) (h3 : At nm ρ (sQ "n") (is (.int nn)))
    (he : EL C (d + 2) (FS C env nm oc sc X ρ ω κ) (spliced (backTo cpos (starEach [e1, e2] env))) [is (.int l), is (.int r)])
    (hlr : l < r) (hr : r ≤ ds.length) (hm : r - l ≤ 2 ^ d)
    (hst : starEach [e1, e2] env = (false, eval e1 env) :: starEach [e2] env := by rfl) :
    EV C (d + 2) (FS C env nm oc sc X ρ ω κ) (eval (.Call (.Name (sQ "inner") p) [e1, e2] [] cpos) env) (is (.int (valD nn (seg ds l r)))) := fun A s Z Q E hA I H k => by
  refine wpAny_Call_NameR (ev_name (n := d + 2) h2 A s Z _ E hA I H fun v Z₁ s₁ x₁ hv => ?_)
  have H₁ := (FS C env nm oc sc X ρ ω κ).stable I H x₁
  obtain ⟨fa, doc, pm, c', ctv, rfl, hz, hci⟩ := id hv
  refine callWith_def (fd := inFd (inSt pw 16 0) qd2i (cd2i c1 c2 c3) doc pm c' ctv) rfl (he A s₁ Z₁ _ E hA x₁.inv H₁ fun vs Z₂ s₂ x₂ hs => ⟨x₂.inv.heap _ _ (x₂.le _ _ hz), ?_⟩) hst
  have H₂ := (FS C env nm oc sc X ρ ω κ).stable x₁.inv H₁ x₂
  obtain ⟨va, ya, pa⟩ := h1.var H₂.vars
  obtain ⟨vi, yi, pi⟩ := h2.var H₂.vars
  obtain ⟨vn, yn, pn⟩ := h3.var H₂.vars
  have q1 := hc (.head _) ya
  have q2 := hc (.tail _ (.head _)) yi
  have q3 := hc (.tail _ (.tail _ (.head _))) yn
  exact ih A s₂ Z₂ (.ref fa) vi vn va vs l r _ _ hA x₂.inv (Vp.mono _ x₂.le hv) (h0 H₂) q1 pa q2 pi q3 pn hlr hr hm (Sat.rd (ds := [.int l, .int r]) hs) fun v Z₃ s₃ x₃ pv => k v Z₃ s₃ ((x₁.trans x₂).trans x₃) pv
theorem seq_nat {l N : Nat} (h : l < N) : seqIndex? (l : Int) N = some l := by
  unfold seqIndex?
  have h0 : ¬ (l : Int) < 0 := Int.not_lt.mpr (Int.natCast_nonneg _)
  simp [h0, h]
theorem ind_step (hq : Quiet C) (c1 c2 c3 : Addr) (nn : Nat) (ds : List Int) (hap : (cd2i c1 c2 c3).Pairwise fun x y => x.2 ≠ y.2) (hdl : ds.length ≤ 2 ^ 24) (hdn : ds.length * nn ≤ 2 ^ 26) (hB : ∀ l r, r ≤ ds.length → Builtin.Int.intBits (valD nn (seg ds l r)) ≤ 2 ^ 26)
    (d : Nat) (hd : d ≤ 24) (ih : ∀ d', d = d' + 1 → InnD C c1 c2 c3 nn ds d') : InnD C c1 c2 c3 nn ds d := by
  intro A s Z v vi vn vd vs l r Q E hA I hv hcl ca hvd ci hvi cn hvn hlr hr hm hvs k
  obtain ⟨fa, doc, pm, c', ctv, rfl, hz, hci⟩ := hv
  obtain ⟨v1, _, rfl, p1, hvs⟩ := rdli hvs
  obtain ⟨v2, _, rfl, p2, hvs⟩ := rdli hvs
  obtain rfl := rdli hvs
  refine clo_enter (n := d) (fd := inFd (inSt pw 16 0) qd2i (cd2i c1 c2 c3) doc pm c' ctv) (xs := [sQ "L", sQ "R"]) (oc := [sQ "L", sQ "R", sQ "mid", sQ "shift"])
    (nm := [sQ "L", sQ "R", sQ "mid", sQ "shift", sQ "digits", sQ "inner", sQ "n"])
    (ρ := [some (is (.int l)), some (is (.int r)), none, none, some (is (li ds)), some (vd2i c1 c2 c3), some (is (.int nn))]) (ω := []) (sc := (inFd (inSt pw 16 0) qd2i (cd2i c1 c2 c3) doc pm c' ctv).scope.names) hq I hA hz rfl rfl hci rfl rfl rfl rfl rfl rfl rfl rfl rfl (by decide +kernel) hap hcl (fun _ h => nomatch h) List.Pairwise.nil ?_ ?_ rfl rfl rfl
  · intro L h' hn hk
    obtain ⟨ca1, ca2, ca3⟩ := ca
    obtain ⟨ci1, ci2, ci3⟩ := ci
    obtain ⟨cn1, cn2, cn3⟩ := cn
    have kc : ∀ {c : Addr} {v : Value}, s.heap.IsCell c (some v) → h'.IsCell c (some v) := fun ⟨o, e, r⟩ => ⟨o, hk _ _ e, r⟩
    refine .va ⟨by decide +kernel, .inl ⟨rfl, _, hn, rfl⟩⟩ p1 (.va ⟨by decide +kernel, .inl ⟨rfl, _, hn, rfl⟩⟩ p2 (.un (.un (.va ⟨by decide +kernel, .inr ⟨.inr rfl, ca1, ca2, kc ca3⟩⟩ hvd
      (.va ⟨by decide +kernel, .inr ⟨.inr rfl, ci1, ci2, kc ci3⟩⟩ hvi (.va ⟨by decide +kernel, .inr ⟨.inr rfl, cn1, cn2, kc cn3⟩⟩ hvn .nil))))))
  · intro L X A' s₁ E' hA' I₁ st hX H
    refine eg_run (RA := fun Z h v => Rd Z v (.int (valD nn (seg ds l r)))) (botA C) ?_ hA' I₁ H (fun Z' s' x' H' => H'.elim) fun v Z' s' x' ra => ?_
    rotate_left
    · exact k v Z' s' (((Step.to st).trans x').hide fun b hb => (hX b hb).elim id fun q => nomatch q) ra
    · clear k H
      apply eg_ifs
      · walk_at "ev"
      · intro hc
        have hrl := one_of (by simpa using hc)
        subst hrl
        have hlt : l < ds.length := hr
        have hget : ds[l]? = some ds[l] := List.getElem?_eq_getElem hlt
        apply eg_ret (P := is (.int ds[l]))
        · apply ev_sub
          · walk_at "ev"
          · walk_at "ev"
          · apply op_item_list (j := l)
            · rw [List.length_map]; exact seq_nat hlt
            · rw [List.getElem?_map, hget]; rfl
            · rw [List.length_map]; exact lt62 (Nat.le_refl _) hdl
        · intro Z h v H p
          rw [seg_one hget]
          show Rd Z v (.int (ds[l] + 2 ^ nn * 0))
          rw [Int.mul_zero, Int.add_zero]; exact p
      · intro hc
        have hrl := two_of hlr (by simpa using hc)
        cases d with
        | zero => exact (no_two hrl hm).elim
        | succ d =>
        have ih := ih d rfl
        obtain ⟨m, hh, M⟩ := half_of (nn := nn) hrl hr hdl hm
        apply eg_cons
        · apply ex_assign
          · apply ev_d
            · apply ev_bin
              · walk_at "ev"
              · walk_at "ev"
              · apply op_shr_int (by decide)
            · exact congrArg PV.int M.em
          · walk_at "at"
          · exact ⟨by decide +kernel, by decide +kernel⟩
          · exact rfl
          · exact rfl
        apply eg_cons
        · apply ex_assign
          · apply ev_d
            · apply ev_bin
              · walk_at "ev"
              · walk_at "ev"
              · apply op_mul_int (mulOk_l M.ok)
            · exact congrArg PV.int M.es
          · walk_at "at"
          · exact ⟨by decide +kernel, by decide +kernel⟩
          · exact rfl
          · exact rfl
        apply eg_ret (P := is (.int (valD nn (seg ds l r))))
        · apply ev_d
          · apply ev_bin
            · apply ev_bin
              · apply ev_d2i ih
                · intro Z h H; exact ClosOk.of H
                · intro h x v hm y
                  simp only [List.mem_cons, List.not_mem_nil, or_false] at hm
                  rcases hm with rfl | rfl | rfl <;> exact CellAt.of y rfl
                · walk_at "at"
                · walk_at "at"
                · walk_at "at"
                · walk_at "ev"
                · exact M.lr
                · exact hr
                · exact M.q2
              · walk_at "ev"
              · apply op_shl_int (Int.natCast_nonneg _)
                exact shl_room (hB (l + m) r hr) (Nat.le_trans (Nat.mul_le_mul_right _ M.mN) hdn)
            · apply ev_d2i ih
              · intro Z h H; exact ClosOk.of H
              · intro h x v hm y
                simp only [List.mem_cons, List.not_mem_nil, or_false] at hm
                rcases hm with rfl | rfl | rfl <;> exact CellAt.of y rfl
              · walk_at "at"
              · walk_at "at"
              · walk_at "at"
              · walk_at "ev"
              · exact M.ll
              · exact M.ln
              · exact M.q1
            · walk_at "op"
          · have := val_seg (n := nn) (ds := ds) (Nat.le_add_right l m) M.le hr
            rw [M.ml] at this
            rw [this]
            show PV.int (_ * 2 ^ (((m * nn : Nat) : Int)).toNat + _) = _
            rw [Int.toNat_natCast]
        · intro Z h v H p
          exact p
theorem ind_all (hq : Quiet C) (c1 c2 c3 : Addr) (nn : Nat) (ds : List Int) (hap : (cd2i c1 c2 c3).Pairwise fun x y => x.2 ≠ y.2) (hdl : ds.length ≤ 2 ^ 24) (hdn : ds.length * nn ≤ 2 ^ 26) (hB : ∀ l r, r ≤ ds.length → Builtin.Int.intBits (valD nn (seg ds l r)) ≤ 2 ^ 26) :
    ∀ d, d ≤ 24 → InnD C c1 c2 c3 nn ds d := by
  intro d
  induction d with
  | zero => exact fun hd => ind_step hq c1 c2 c3 nn ds hap hdl hdn hB 0 hd fun d' h => by lia
  | succ d ih =>
    intro hd
    refine ind_step hq c1 c2 c3 nn ds hap hdl hdn hB (d + 1) hd fun d' h => ?_
    cases h
    exact ih (Nat.le_of_succ_le hd)
theorem d_d2i (K : DigK C) (ds : List Int) (n : Nat) (hdl : ds.length ≤ 2 ^ 24) (hdn : ds.length * n ≤ 2 ^ 26) (hB : ∀ l r, r ≤ ds.length → Builtin.Int.intBits (valD n (seg ds l r)) ≤ 2 ^ 26) :
    DefC C 27 (sQ "_digits2int") [is (li ds), is (.int n)] (is (.int (valD n ds))) := by
  obtain ⟨f, doc, pm, c, P, hg, ho, hcd, hH, hT, hu⟩ := K.d2i
  have g1 := K.len
  refine ⟨f, hg, ⟨_, _, ho, rfl⟩, fn_def (n := 25) (sc := scOf (stAt pw 16)) (ρ := [some (is (li ds)), some (is (.int n)), none]) (nm := [sQ "digits", sQ "n", sQ "inner"]) (xs := [sQ "digits", sQ "n"]) K.q ho rfl hcd rfl rfl rfl rfl rfl (bnd2 fun _ _ => rfl) rfl (by decide +kernel) (by decide +kernel) (by decide +kernel) (by decide +kernel) rfl fun L X => ?_⟩
  apply ex_cons
  · apply ex_nest (clos := cd2i (L + 2) (L + 3) (L + 1)) (ρ' := [some (is (li ds)), some (is (.int n)), some (vd2i (L + 2) (L + 3) (L + 1))]) K.B hH hT hu
    · exact rfl
    · exact rfl
    · kernel_rfl
    · exact rfl
    · exact rfl
    · exact rfl
    · exact .there (.there .here)
    · decide +kernel
    · decide +kernel
  have hap : (cd2i (L + 2) (L + 3) (L + 1)).Pairwise fun x y => x.2 ≠ y.2 := by simp
  have ih := ind_all K.q (L + 2) (L + 3) (L + 1) n ds hap hdl hdn hB 24 (Nat.le_refl _)
  apply ex_ret
  apply ev_ifexp
  · apply tv_list
    · walk_at "ev"
    · rw [List.length_map]; exact lt62 (Nat.le_refl _) hdl
    · intro _; rfl
  · intro hc
    have hl : 0 < ds.length := by
      cases ds with
      | nil => cases hc
      | cons a b => exact Nat.succ_pos _
    apply ev_d
    · apply ev_d2i (l := 0) (r := ds.length) ih
      · intro Z h H x y e
        rcases look3 e with ⟨rfl, rfl⟩ | ⟨rfl, rfl⟩ | ⟨rfl, rfl⟩
        · exact H.cells (sQ "n") (L + 2) rfl
        · exact H.cells (sQ "inner") (L + 3) rfl
        · exact H.cells (sQ "digits") (L + 1) rfl
      · intro h x v hm y
        simp only [List.mem_cons, List.not_mem_nil, or_false] at hm
        rcases hm with rfl | rfl | rfl
        · rcases y.2 with ⟨q, _⟩ | ⟨_, c, e, r⟩
          · cases q
          · exact ⟨c, e, r⟩
        · rcases y.2 with ⟨q, _⟩ | ⟨_, c, e, r⟩
          · cases q
          · exact ⟨c, e, r⟩
        · rcases y.2 with ⟨q, _⟩ | ⟨_, c, e, r⟩
          · cases q
          · exact ⟨c, e, r⟩
      · walk_at "at"
      · walk_at "at"
      · walk_at "at"
      · apply el_cons
        · apply ev_d
          · walk_at "ev"
          · rfl
        · apply el_cons
          · apply ev_d
            · apply ev_callBt
              · exact g1
              · walk_at "ev"
              · exact fn_len_list (by rw [List.length_map]; exact lt62 (Nat.le_refl _) hdl)
              · exact rfl
              · exact rfl
              · exact rfl
              · exact rfl
            · rw [List.length_map]
          · walk_at "ev"
          · exact rfl
        · exact rfl
      · exact hl
      · exact Nat.le_refl _
      · lia
    · unfold seg
      rw [List.drop_zero, Nat.sub_zero, List.take_length]
  · intro hc
    have : ds = [] := by
      cases ds with
      | nil => rfl
      | cons a b => cases hc
    subst this
    apply ev_d
    · walk_at "ev"
    · rfl
end
end
section
theorem pow_pos2 (n : Nat) : (0 : Int) < 2 ^ n := Int.pow_pos (by decide)
theorem val_nn {n : Nat} : ∀ {ds : List Int}, (∀ d ∈ ds, 0 ≤ d) → 0 ≤ valD n ds
  | [], _ => Int.le_refl 0
  | d :: ds, h => by
    have h1 := h d (.head _)
    have h2 := val_nn (n := n) (ds := ds) fun x hx => h x (.tail _ hx)
    have h3 := Int.mul_nonneg (Int.le_of_lt (pow_pos2 n)) h2
    exact Int.add_nonneg h1 h3
theorem val_drop {n : Nat} {ds : List Int} (h : ∀ d ∈ ds, 0 ≤ d) (k : Nat) : valD n (ds.drop k) ≤ valD n ds := by
  have e := val_app n (ds.take k) (ds.drop k)
  rw [List.take_append_drop] at e
  have h1 := val_nn (n := n) (ds := ds.take k) fun x hx => h x (List.mem_of_mem_take hx)
  have h2 := val_nn (n := n) (ds := ds.drop k) fun x hx => h x (List.mem_of_mem_drop hx)
  have h3 := pow_pos2 (n * (ds.take k).length)
  have h4 : 1 * valD n (ds.drop k) ≤ 2 ^ (n * (ds.take k).length) * valD n (ds.drop k) := Int.mul_le_mul_of_nonneg_right h3 h2
  rw [Int.one_mul] at h4
  rw [e]
  exact Int.le_trans h4 (Int.le_add_of_nonneg_left h1)
theorem val_take {n : Nat} {ds : List Int} (h : ∀ d ∈ ds, 0 ≤ d) (k : Nat) : valD n (ds.take k) ≤ valD n ds := by
  have e := val_app n (ds.take k) (ds.drop k)
  rw [List.take_append_drop] at e
  have h2 := val_nn (n := n) (ds := ds.drop k) fun x hx => h x (List.mem_of_mem_drop hx)
  have h4 := Int.mul_nonneg (Int.le_of_lt (pow_pos2 (n * (ds.take k).length))) h2
  rw [e]
  exact Int.le_add_of_nonneg_right h4
theorem val_seg_le {n : Nat} {ds : List Int} (h : ∀ d ∈ ds, 0 ≤ d) (l r : Nat) : 0 ≤ valD n (seg ds l r) ∧ valD n (seg ds l r) ≤ valD n ds :=
  ⟨val_nn fun x hx => h x (List.mem_of_mem_drop (List.mem_of_mem_take hx)), Int.le_trans (val_take (fun x hx => h x (List.mem_of_mem_drop hx)) _) (val_drop h l)⟩
theorem digR_ok (n : Nat) : ∀ (m : Nat) (x : Int), 1 ≤ m → 0 ≤ x → (∀ d ∈ digR n x m, 0 ≤ d) ∧ valD n (digR n x m) = x := by
  intro m
  induction m using Nat.strongRecOn with
  | ind m ih =>
    intro x h hx
    by_cases h1 : m = 1
    · subst h1; rw [digR_one]; exact ⟨fun d hd => by rw [List.mem_singleton.mp hd]; exact hx, by show x + 2 ^ n * 0 = x; rw [Int.mul_zero, Int.add_zero]⟩
    · obtain ⟨h2, a, b, c, d⟩ := halves h h1
      rw [digR_two h2]
      have p1 := ih (m / 2) a (lo x (m / 2 * n)) b (lo_nonneg hx)
      have p2 := ih (m - m / 2) c (sh x (m / 2 * n)) d (sh_nonneg hx)
      refine ⟨fun d hd => (List.mem_append.mp hd).elim (p1.1 d) (p2.1 d), ?_⟩
      rw [val_app, p1.2, p2.2, digR_len _ _ b, lo_eq hx, Nat.mul_comm n]
      unfold sh
      rw [fdiv_pow]
      exact Int.emod_add_mul_ediv _ _
theorem digM_pos {n : Nat} {a : Int} (hn : 1 ≤ n) (ha : a ≠ 0) : 1 ≤ digM n a := by
  have hbp : 1 ≤ Builtin.Int.intBits a := by unfold Builtin.Int.intBits; simp [ha]
  exact Nat.div_pos (Nat.le_sub_of_add_le (Nat.add_comm n 1 ▸ Nat.add_le_add_right hbp n)) hn
theorem digF_ok {n : Nat} {a : Int} (hn : 1 ≤ n) (ha : 0 ≤ a) : (∀ d ∈ digF n a, 0 ≤ d) ∧ valD n (digF n a) = a := by
  unfold digF
  by_cases h : a = 0
  · rw [if_pos h]; exact ⟨(fun d hd => nomatch hd), h.symm⟩
  · rw [if_neg h]; exact digR_ok n _ a (digM_pos hn h) ha
theorem digF_len {n : Nat} {a : Int} (hn : 1 ≤ n) : (digF n a).length ≤ digM n a := by
  unfold digF
  by_cases h : a = 0
  · rw [if_pos h]; exact Nat.zero_le _
  · rw [if_neg h, digR_len _ _ (digM_pos hn h)]; exact Nat.le_refl _
noncomputable def stepQ (n : Nat) (b : Int) (σ : Int × List Int) (d : Int) : Int × List Int := ((σ.1 * 2 ^ n + d).fmod b, σ.2 ++ [(σ.1 * 2 ^ n + d).fdiv b])
noncomputable def runQ (n : Nat) (b : Int) : List Int → Int × List Int
  | [] => (0, [])
  | d :: ds => stepQ n b (runQ n b ds) d
theorem runQ_ok {n : Nat} {b : Int} (hb : 0 < b) : ∀ {ds : List Int}, (∀ d ∈ ds, 0 ≤ d) → valD n (runQ n b ds).2.reverse * b + (runQ n b ds).1 = valD n ds ∧ 0 ≤ (runQ n b ds).1 ∧ (runQ n b ds).1 < b ∧ (runQ n b ds).2.length = ds.length ∧ ∀ q ∈ (runQ n b ds).2, 0 ≤ q
  | [], _ => ⟨by simp [runQ, valD], Int.le_refl 0, hb, rfl, fun q h => nomatch h⟩
  | d :: ds, h => by
    obtain ⟨i1, i2, i3, i4, i5⟩ := runQ_ok (n := n) hb (ds := ds) fun x hx => h x (.tail _ hx)
    have hd := h d (.head _)
    rw [runQ]
    generalize runQ n b ds = σ at i1 i2 i3 i4 i5
    obtain ⟨r, qs⟩ := σ
    simp only [stepQ] at i1 i2 i3 i4 i5 ⊢
    have ht : 0 ≤ r * 2 ^ n + d := Int.add_nonneg (Int.mul_nonneg i2 (Int.le_of_lt (pow_pos2 n))) hd
    have e := Int.mul_fdiv_add_fmod (r * 2 ^ n + d) b
    have hq : 0 ≤ (r * 2 ^ n + d).fdiv b := Int.fdiv_nonneg ht (Int.le_of_lt hb)
    refine ⟨?_, Int.fmod_nonneg_of_pos _ hb, Int.fmod_lt_of_pos _ hb, by simp [i4], fun q hq' => ?_⟩
    · rw [List.reverse_append, List.reverse_singleton, List.singleton_append, valD, valD, ← i1]
      generalize (r * 2 ^ n + d).fdiv b = q at e
      generalize (r * 2 ^ n + d).fmod b = f at e
      generalize valD n qs.reverse = v
      generalize (2 : Int) ^ n = p at e
      rw [Int.add_mul, Int.mul_add, ← Int.mul_assoc p v b, Int.mul_comm p r, Int.mul_comm q b]
      lia
    · rcases List.mem_append.mp hq' with hq' | hq'
      · exact i5 q hq'
      · rw [List.mem_singleton.mp hq']; exact hq
theorem nopy {x y : Int} (h : Builtin.Int.intBits x ≤ Builtin.Int.intBits y + 4000) : Builtin.divisionGoesByPylong x y = false := by
  unfold Builtin.divisionGoesByPylong
  unfold Builtin.Int.intBits at h
  by_cases hx : x = 0
  · subst hx; simp
  · by_cases hy : y = 0
    · subst hy; simp
    · simp only [beq_iff_eq, hx, hy, if_false] at h ⊢
      rw [Bool.and_eq_false_iff]
      right
      rw [decide_eq_false_iff_not]
      lia
section
variable {C : Cx}
theorem d_d2n1n (K : DigK C) (a b : Int) (n : Nat) (hb : b ≠ 0) (h1 : Builtin.Int.intBits a ≤ n + 4000) (h2 : Builtin.divisionGoesByPylong a b = false) : DefC C 2 (sQ "_div2n1n") [is (.int a), is (.int b), is (.int n)] (is (.tup [.int (a.fdiv b), .int (a.fmod b)])) := by
  obtain ⟨f, q, doc, pm, cd, hg, ho, hcd⟩ := K.d2n1n
  have g1 := K.lim
  have g2 := K.divmod
  refine ⟨f, hg, ⟨_, _, ho, rfl⟩, fn_def (n := 0) (sc := scOf (stAt pw 13)) (ρ := [some (is (.int a)), some (is (.int b)), some (is (.int n))]) (nm := [sQ "a", sQ "b", sQ "n"]) (xs := [sQ "a", sQ "b", sQ "n"]) K.q ho rfl hcd rfl rfl rfl rfl rfl (bnd3 fun _ _ _ => rfl) rfl (by decide +kernel) (by decide +kernel) (by decide +kernel) (by decide +kernel) rfl fun L X => ?_⟩
  apply ex_ifs
  · apply tv_cmp
    · apply ev_bin
      · apply ev_meth0
        · walk_at "ev"
        · exact hasM_bitlen
        · exact fn_bitlen
        · exact rfl
        · exact rfl
      · walk_at "ev"
      · walk_at "op"
    · walk_at "ev"
    · walk_at "op"
    · exact rfl
  · intro _
    show EX _ _ _ _ (execs (_ :: _) _) _ _
    apply ex_ret
    apply ev_callBt
    · exact g2
    · walk_at "ev"
    · exact fn_divmod hb h2
    · exact rfl
    · exact rfl
    · exact rfl
    · exact rfl
  · intro h
    rw [decide_eq_false_iff_not] at h
    lia
local macro_rules | `(tactic| walk_at "def") => `(tactic| fail)
theorem drop_rev {l : List Int} {i : Nat} {k : Int} (h : l.reverse[i]? = some k) : l.drop (l.length - (i + 1)) = k :: l.drop (l.length - i) := by
  have hi : i < l.length := by have := (List.getElem?_eq_some_iff.mp h).1; simpa using this
  have hj : l.length - (i + 1) < l.length := Nat.sub_lt (Nat.lt_of_le_of_lt (Nat.zero_le _) hi) (Nat.succ_pos i)
  rw [List.drop_eq_getElem_cons hj, show l.length - (i + 1) + 1 = l.length - i from Nat.sub_add_cancel (Nat.sub_pos_of_lt hi)]
  rw [List.getElem?_eq_getElem (by simpa using hi), List.getElem_reverse] at h
  cases h
  congr 2
  rw [Nat.add_comm i 1]; exact Nat.sub_add_eq ..
noncomputable def stQ (n : Nat) (b : Int) (ds : List Int) (i : Nat) : Int × List Int := runQ n b (ds.drop (ds.length - i))
theorem stQ_facts {n : Nat} {a b : Int} (hb : 0 < b) {ds : List Int} (hd : ∀ d ∈ ds, 0 ≤ d) (hv : valD n ds = a) {i : Nat} {k : Int} (hk : ds.reverse[i]? = some k) :
    stQ n b ds (i + 1) = stepQ n b (stQ n b ds i) k ∧ (stQ n b ds i).2.length ≤ ds.length ∧ Builtin.Int.intBits ((stQ n b ds i).1 * 2 ^ n + k) ≤ Builtin.Int.intBits a ∧ Builtin.Int.intBits (stQ n b ds i).1 ≤ Builtin.Int.intBits b := by
  have edr := drop_rev hk
  have ok1 := runQ_ok (n := n) hb (ds := ds.drop (ds.length - i)) fun x hx => hd x (List.mem_of_mem_drop hx)
  have hk0 : 0 ≤ k := hd k (by have := List.mem_of_getElem? hk; simpa using this)
  have vle : valD n (k :: ds.drop (ds.length - i)) ≤ a := by
    rw [← edr, ← hv]; exact val_drop hd _
  refine ⟨by unfold stQ; rw [edr]; rfl, ?_, ?_, bits_mono ok1.2.1 (Int.le_of_lt ok1.2.2.1)⟩
  · unfold stQ
    rw [ok1.2.2.2.1, List.length_drop]; exact Nat.sub_le _ _
  · have hv0 : 0 ≤ valD n (runQ n b (ds.drop (ds.length - i))).2.reverse * b := Int.mul_nonneg (val_nn fun x hx => ok1.2.2.2.2 x (by simpa using hx)) (Int.le_of_lt hb)
    have h3 : (stQ n b ds i).1 ≤ valD n (ds.drop (ds.length - i)) := ok1.1 ▸ Int.le_add_of_nonneg_left hv0
    refine bits_mono (Int.add_nonneg (Int.mul_nonneg ok1.2.1 (Int.le_of_lt (pow_pos2 n))) hk0) (Int.le_trans ?_ vle)
    rw [Int.add_comm, valD, Int.mul_comm]
    exact Int.add_le_add_left (Int.mul_le_mul_of_nonneg_left h3 (Int.le_of_lt (pow_pos2 n))) k
theorem div_uniq {a b q r : Int} (hb : 0 < b) (h1 : q * b + r = a) (h2 : 0 ≤ r) (h3 : r < b) : q = a.fdiv b ∧ r = a.fmod b := by
  have e : a = r + q * b := by rw [← h1, Int.add_comm]
  have hf : r.fdiv b = 0 := by rw [Int.fdiv_eq_ediv_of_nonneg _ (Int.le_of_lt hb)]; exact Int.ediv_eq_zero_of_lt h2 h3
  have e1 : q = a.fdiv b := by rw [e, Int.add_mul_fdiv_right _ _ (Int.ne_of_gt hb), hf, Int.zero_add]
  have e2 := Int.mul_fdiv_add_fmod a b
  rw [← e1, Int.mul_comm] at e2
  exact ⟨e1, Int.add_left_cancel (h1.trans e2.symm)⟩
theorem pos_room {A n M L : Nat} (hn : 1 ≤ n) (h1 : A ≤ n + 4000) (h2 : n ≤ 2 ^ 22) (hm : M * n ≤ A + n - 1) (hl : L ≤ M) : A ≤ 2 ^ 23 ∧ n ≤ 2 ^ 23 ∧ L ≤ 2 ^ 24 ∧ L * n ≤ 2 ^ 26 := by
  have a1 : L * n ≤ 2 ^ 24 := Nat.le_trans (Nat.mul_le_mul_right _ hl) (Nat.le_trans hm (Nat.le_trans (Nat.sub_le _ _) (Nat.le_trans (Nat.add_le_add (Nat.le_trans h1 (Nat.add_le_add_right h2 _)) h2) (by decide))))
  exact ⟨Nat.le_trans h1 (Nat.le_trans (Nat.add_le_add_right h2 _) (by decide)), Nat.le_trans h2 (by decide), Nat.le_trans (Nat.le_mul_of_pos_right _ hn) a1, Nat.le_trans a1 (by decide)⟩
theorem d_dpos (K : DigK C) (a b : Int) (ha : 0 ≤ a) (hb : 0 < b) (h1 : Builtin.Int.intBits a ≤ Builtin.Int.intBits b + 4000) (h2 : Builtin.Int.intBits b ≤ 2 ^ 22) :
    DefC C 29 (sQ "_divmod_pos") [is (.int a), is (.int b)] (is (.tup [.int (a.fdiv b), .int (a.fmod b)])) := by
  obtain ⟨f, q, doc, pm, cd, hg, ho, hcd⟩ := K.dpos
  have g1 := K.reversed
  have hnb : ¬ b = 0 := Int.ne_of_gt hb
  have hn : 1 ≤ Builtin.Int.intBits b := by unfold Builtin.Int.intBits; simp [hnb]
  obtain ⟨n, en⟩ : ∃ n, n = Builtin.Int.intBits b := ⟨_, rfl⟩
  rw [← en] at hn h2 h1
  have dok := digF_ok (n := n) hn ha
  obtain ⟨a23, n23, L24, Ln⟩ := pos_room (M := digM n a) hn h1 h2 (Nat.div_mul_le_self _ _) (digF_len (n := n) (a := a) hn)
  generalize hds : digF n a = ds at dok L24 Ln
  have rok := runQ_ok (n := n) hb dok.1
  refine ⟨f, hg, ⟨_, _, ho, rfl⟩, fn_def (n := 27) (sc := scOf (stAt pw 17)) (ρ := [some (is (.int a)), some (is (.int b)), none, none, none, none, none, none, none]) (nm := [sQ "a", sQ "b", sQ "n", sQ "a_digits", sQ "r", sQ "q_digits", sQ "a_digit", sQ "q_digit", sQ "q"]) (xs := [sQ "a", sQ "b"]) K.q ho rfl hcd rfl rfl rfl rfl rfl (bnd2 fun _ _ => rfl) rfl (by decide +kernel) (by decide +kernel) (by decide +kernel) (by decide +kernel) rfl fun L X => ?_⟩
  apply ex_cons
  · apply ex_assign (P := is (.int n))
    · rw [en]
      apply ev_meth0
      · walk_at "ev"
      · exact hasM_bitlen
      · exact fn_bitlen
      · exact rfl
      · exact rfl
    · walk_at "at"
    · decide +kernel
    · decide +kernel
    · exact rfl
  apply ex_cons
  · apply ex_assign (P := is (li ds))
    · rw [← hds]
      apply ev_callD
      · walk_at "ev"
      · exact d_i2d K a n ha hn a23 n23
      · decide
      · exact rfl
      · exact rfl
      · exact rfl
    · walk_at "at"
    · decide +kernel
    · decide +kernel
    · exact rfl
  walk_at "asn"
  apply ex_new (ρ := fun _ => []) (ρ' := fun Q => [some (is (.int a)), some (is (.int b)), some (is (.int n)), some (is (li ds)), some (is (.int 0)), some (isv (.ref Q)), none, none, none]) (ds := [])
  · apply evn_listL
    · walk_at "ev"
    · walk_at "at"
    · exact Nat.le_of_ble_eq_true rfl
  · intro Q; exact .there (.there (.there (.there (.there .here))))
  · decide +kernel
  · decide +kernel
  · exact rfl
  · intro Q
    have st0 : stQ n b ds 0 = (0, []) := by
      unfold stQ
      rw [Nat.sub_zero, List.drop_length]; rfl
    apply exs_for (ds := ds.reverse.map .int) (ρs := fun i => [some (is (.int a)), some (is (.int b)), some (is (.int n)), some (is (li ds)), some (is (.int (stQ n b ds i).1)), some (isv (.ref Q)), none, none, none]) (ωs := fun i => [(Q, (stQ n b ds i).2.map .int)])
    · rw [st0]
    · rw [st0]; rfl
    · apply it_eq
      · apply it_callTt
        · exact g1
        · walk_at "ev"
        · exact fi_rev
        · exact rfl
        · exact rfl
        · exact rfl
        · exact rfl
      · rw [List.map_reverse]
    · intro i; rfl
    · intro κ' i d hd
      rw [List.getElem?_map] at hd
      cases hki : ds.reverse[i]? with
      | none => rw [hki] at hd; cases hd
      | some k =>
        rw [hki] at hd; cases hd
        obtain ⟨es, hlen, hbt, hbr⟩ := stQ_facts (n := n) hb dok.1 dok.2 hki
        rw [es]
        generalize stQ n b ds i = w at hlen hbt hbr
        obtain ⟨r, qs⟩ := w
        simp only at hlen hbt hbr
        apply ex_mk
        · walk_at "at"
        apply ex_cons
        · apply ex_asgU (d := .tup [.int ((r * 2 ^ n + k).fdiv b), .int ((r * 2 ^ n + k).fmod b)])
          · apply ev_callD
            · apply el_cons
              · apply ev_bin
                · apply ev_bin
                  · walk_at "ev"
                  · walk_at "ev"
                  · apply op_shl_int (Int.natCast_nonneg _)
                    exact shl_room (Nat.le_trans hbr (en ▸ Nat.le_trans h2 (by decide))) (Nat.le_trans h2 (by decide))
                · walk_at "ev"
                · walk_at "op"
              · walk_at "ev"
              · exact rfl
            · show DefC C _ _ [is (.int (r * 2 ^ ((n : Int)).toNat + k)), _, _] _
              rw [Int.toNat_natCast]
              exact d_d2n1n K _ b n hnb (Nat.le_trans hbt h1) (nopy (Nat.le_trans hbt (en ▸ h1)))
            · decide
            · exact rfl
            · exact rfl
            · exact rfl
          · walk_at "at"
          · exact rfl
          · exact rfl
        apply ex_cons
        · apply ex_append (d := .int ((r * 2 ^ n + k).fdiv b)) (ds := qs.map .int)
          · walk_at "at"
          · walk_at "ev"
          · exact OU.here
          · rw [List.length_map, sizeLine_eq]; exact Nat.le_trans hlen L24
        show EX _ _ _ (FS _ _ _ _ _ _ _ [(Q, qs.map PV.int ++ [.int ((r * 2 ^ n + k).fdiv b)])] _) _ (FS _ _ _ _ _ _ _ [(Q, (qs ++ [(r * 2 ^ n + k).fdiv b]).map .int)] _) _
        rw [List.map_append]
        apply ex_fgt
        walk_at "fgtd"
    · show EX _ _ _ (FS _ _ _ _ _ _ [_, _, _, _, some (is (.int (stQ n b ds (ds.reverse.map PV.int).length).1)), _, _, _, _] [(Q, (stQ n b ds (ds.reverse.map PV.int).length).2.map .int)] _) _ _ _
      have efin : stQ n b ds (ds.reverse.map PV.int).length = runQ n b ds := by
        unfold stQ
        rw [List.length_map, List.length_reverse, Nat.sub_self, List.drop_zero]
      rw [efin]
      generalize runQ n b ds = w at rok
      obtain ⟨r, qs⟩ := w
      simp only at rok ⊢
      obtain ⟨r1, r2, r3, r4, r5⟩ := rok
      have hq0 := val_nn (n := n) (ds := qs.reverse) fun x hx => r5 x (by simpa using hx)
      rw [dok.2] at r1
      have eq1 := div_uniq hb r1 r2 r3
      have hqa : valD n qs.reverse ≤ a := by
        have h3 : valD n qs.reverse * 1 ≤ valD n qs.reverse * b := Int.mul_le_mul_of_nonneg_left hb hq0
        rw [Int.mul_one] at h3
        exact r1 ▸ Int.le_trans h3 (Int.le_add_of_nonneg_right r2)
      apply ex_cons
      · apply ex_reverse (ds := qs.map .int)
        · walk_at "at"
        · exact OU.here
        · rw [List.length_map, sizeLine_eq, r4]; exact L24
      apply ex_freeze .here (.same (.same (.same (.same (.same (.it (.same (.same (.same .nil)))))))))
      rw [← List.map_reverse]
      apply ex_cons
      · apply ex_assign (P := is (.int (valD n qs.reverse)))
        · apply ev_callD
          · walk_at "ev"
          · apply d_d2i K
            · rw [List.length_reverse, r4]; exact L24
            · rw [List.length_reverse, r4]; exact Ln
            · intro l r hr
              have hs := val_seg_le (n := n) (ds := qs.reverse) (fun x hx => r5 x (by simpa using hx)) l r
              exact Nat.le_trans (bits_mono hs.1 (Int.le_trans hs.2 hqa)) (Nat.le_trans a23 (by decide))
          · decide
          · exact rfl
          · exact rfl
          · exact rfl
        · walk_at "at"
        · decide +kernel
        · decide +kernel
        · exact rfl
      walk_at "ret"
      rw [eq1.1, eq1.2]
end
end
section
theorem bits_neg {a : Int} : Builtin.Int.intBits (-a) = Builtin.Int.intBits a := by
  unfold Builtin.Int.intBits
  rw [Int.natAbs_neg]
  by_cases h : a = 0
  · subst h; rfl
  · have : ¬ -a = 0 := by lia
    simp [h, this]
theorem bits_not {a : Int} (h : a < 0) : Builtin.Int.intBits (Builtin.bitNot a) ≤ Builtin.Int.intBits a := by
  rw [← bits_neg (a := a)]
  show Builtin.Int.intBits (-a - 1) ≤ _
  exact bits_mono (by lia) (by lia)
section
variable {C : Cx}
theorem DefC.le {m n : Nat} {x : Str} {Ps : List Vp} {R : Vp} (h : m ≤ n) (D : DefC C m x Ps R) : DefC C n x Ps R := by
  obtain ⟨f, a, b, c⟩ := D; exact ⟨f, a, b, c.le h⟩
noncomputable abbrev qrT (a b : Int) : PV := .tup [.int (a.fdiv b), .int (a.fmod b)]
theorem d_idm1 (K : DigK C) (a b : Int) (ha : 0 ≤ a) (hb : 0 < b) (h1 : Builtin.Int.intBits a ≤ Builtin.Int.intBits b + 4000) (h2 : Builtin.Int.intBits b ≤ 2 ^ 22) :
    DefC C 30 (sQ "int_divmod") [is (.int a), is (.int b)] (is (qrT a b)) := by
  obtain ⟨f, q, doc, pm, cd, hg, ho, hcd⟩ := K.idm
  refine ⟨f, hg, ⟨_, _, ho, rfl⟩, fn_def (n := 28) (sc := scOf (stAt pw 18)) (ρ := [some (is (.int a)), some (is (.int b))]) (nm := [sQ "a", sQ "b"]) (xs := [sQ "a", sQ "b"]) K.q ho rfl hcd rfl rfl rfl rfl rfl (bnd2 fun _ _ => rfl) rfl (by decide +kernel) (by decide +kernel) (by decide +kernel) (by decide +kernel) rfl fun L X => ?_⟩
  walk_at "if"
  · intro h; rw [beq_iff_eq] at h; lia
  intro _
  walk_at "if"
  · intro h; rw [decide_eq_true_eq] at h; lia
  intro _
  walk_at "if"
  · intro h; rw [decide_eq_true_eq] at h; lia
  intro _
  apply ex_ret
  apply ev_callD
  · walk_at "ev"
  · exact d_dpos K a b ha hb h1 h2
  · decide
  · exact rfl
  · exact rfl
  · exact rfl
theorem qr_uniq {a b q r : Int} (hb : 0 < b) (h : b * q + r = a) (h0 : 0 ≤ r) (h1 : r < b) : q = a.fdiv b ∧ r = a.fmod b := by
  have e1 := Int.mul_fdiv_add_fmod a b
  have e2 := Int.fmod_nonneg_of_pos a hb
  have e3 := Int.fmod_lt_of_pos a hb
  generalize a.fdiv b = q' at e1
  generalize a.fmod b = r' at e1 e2 e3
  have e4 : b * (q - q') = r' - r := by rw [Int.mul_sub]; lia
  have e5 : q - q' = 0 := by
    rcases Int.lt_trichotomy (q - q') 0 with h | h | h
    · have : b * (q - q') ≤ b * (-1) := Int.mul_le_mul_of_nonneg_left (by lia) (Int.le_of_lt hb)
      lia
    · exact h
    · have : b * 1 ≤ b * (q - q') := Int.mul_le_mul_of_nonneg_left (by lia) (Int.le_of_lt hb)
      lia
  rw [e5] at e4
  constructor <;> lia
theorem d_idm2 (K : DigK C) (a b : Int) (hb : 0 < b) (h1 : Builtin.Int.intBits a ≤ Builtin.Int.intBits b + 4000) (h2 : Builtin.Int.intBits b ≤ 2 ^ 22) :
    DefC C 31 (sQ "int_divmod") [is (.int a), is (.int b)] (is (qrT a b)) := by
  by_cases ha : 0 ≤ a
  · exact (d_idm1 K a b ha hb h1 h2).le (by decide)
  have hn : Builtin.Int.intBits (Builtin.bitNot a) ≤ Builtin.Int.intBits b + 4000 := Nat.le_trans (bits_not (by lia)) h1
  have hp : 0 ≤ Builtin.bitNot a := by show 0 ≤ -a - 1; lia
  have D := d_idm1 K (Builtin.bitNot a) b hp hb hn h2
  obtain ⟨f, q, doc, pm, cd, hg, ho, hcd⟩ := K.idm
  refine ⟨f, hg, ⟨_, _, ho, rfl⟩, fn_def (n := 29) (sc := scOf (stAt pw 18)) (ρ := [some (is (.int a)), some (is (.int b)), none, none]) (nm := [sQ "a", sQ "b", sQ "q", sQ "r"]) (xs := [sQ "a", sQ "b"]) K.q ho rfl hcd rfl rfl rfl rfl rfl (bnd2 fun _ _ => rfl) rfl (by decide +kernel) (by decide +kernel) (by decide +kernel) (by decide +kernel) rfl fun L X => ?_⟩
  walk_at "if"
  · intro h; rw [beq_iff_eq] at h; lia
  intro _
  walk_at "if"
  · intro h; rw [decide_eq_true_eq] at h; lia
  intro _
  walk_at "if"
  rotate_left
  · intro h; rw [decide_eq_false_iff_not] at h; lia
  intro _
  apply ex_cons
  · apply ex_asgU
    · apply ev_callD
      · walk_at "ev"
      · exact D
      · decide
      · exact rfl
      · exact rfl
      · exact rfl
    · walk_at "at"
    · exact rfl
    · exact rfl
  walk_at "ret"
  have e1 := Int.mul_fdiv_add_fmod (Builtin.bitNot a) b
  have e2 := Int.fmod_nonneg_of_pos (Builtin.bitNot a) hb
  have e3 := Int.fmod_lt_of_pos (Builtin.bitNot a) hb
  generalize (Builtin.bitNot a).fdiv b = q' at e1 ⊢
  generalize (Builtin.bitNot a).fmod b = r' at e1 e2 e3 ⊢
  have ea : Builtin.bitNot a = -a - 1 := rfl
  rw [ea] at e1
  have u := qr_uniq (q := Builtin.bitNot q') (r := b + Builtin.bitNot r') (a := a) hb (by
    show b * (-q' - 1) + (b + (-r' - 1)) = a
    rw [Int.mul_sub, Int.mul_neg, Int.mul_one]; lia) (by show 0 ≤ b + (-r' - 1); lia) (by show b + (-r' - 1) < b; lia)
  rw [u.1, u.2]
theorem d_idm (K : DigK C) (a b : Int) (hb : b ≠ 0) (h1 : Builtin.Int.intBits a ≤ Builtin.Int.intBits b + 4000) (h2 : Builtin.Int.intBits b ≤ 2 ^ 22) :
    DefC C 32 (sQ "int_divmod") [is (.int a), is (.int b)] (is (qrT a b)) := by
  by_cases hp : 0 < b
  · exact (d_idm2 K a b hp h1 h2).le (by decide)
  have D := d_idm2 K (-a) (-b) (by lia) (by rw [bits_neg, bits_neg]; exact h1) (by rw [bits_neg]; exact h2)
  obtain ⟨f, q, doc, pm, cd, hg, ho, hcd⟩ := K.idm
  refine ⟨f, hg, ⟨_, _, ho, rfl⟩, fn_def (n := 30) (sc := scOf (stAt pw 18)) (ρ := [some (is (.int a)), some (is (.int b)), none, none]) (nm := [sQ "a", sQ "b", sQ "q", sQ "r"]) (xs := [sQ "a", sQ "b"]) K.q ho rfl hcd rfl rfl rfl rfl rfl (bnd2 fun _ _ => rfl) rfl (by decide +kernel) (by decide +kernel) (by decide +kernel) (by decide +kernel) rfl fun L X => ?_⟩
  walk_at "if"
  · intro h; rw [beq_iff_eq] at h; lia
  intro _
  walk_at "if"
  rotate_left
  · intro h; rw [decide_eq_false_iff_not] at h; lia
  intro _
  apply ex_cons
  · apply ex_asgU
    · apply ev_callD
      · walk_at "ev"
      · exact D
      · decide
      · exact rfl
      · exact rfl
      · exact rfl
    · walk_at "at"
    · exact rfl
    · exact rfl
  walk_at "ret"
  rw [Int.neg_fdiv_neg, Int.neg_fmod_neg, Int.neg_neg]
end
end
section
noncomputable abbrev T3 := Int × Int × Int
noncomputable def actN (x : Nat) (c : T3) : T3 := if x = 0 then (c.2.1 + 2 * c.2.2, c.1 + 2 * c.2.2, -c.2.2) else rot3 x c
noncomputable def valW : List Nat → T3 → T3
  | [], c => c
  | x :: w, c => actN x (valW w c)
noncomputable def sgW (t : Nat) (w : List Nat) : List Nat := if t % 3 = 0 then w else (t % 3) :: w
noncomputable def shW : List Nat → Nat → List Nat
  | [], p => if p = 0 then [0] else sgW p []
  | x :: w, p => if p = 0 then (if x = 0 then w else 0 :: x :: w) else if x = 0 then sgW p (x :: w) else sgW (x + p) w
inductive Red : List Nat → Prop where
  | nil : Red []
  | til {w : List Nat} (h : Red w) (ht : ∀ x r, w = x :: r → x ≠ 0) : Red (0 :: w)
  | turn {x : Nat} {w : List Nat} (hx : x = 1 ∨ x = 2) (h : Red w) (ht : ∀ y r, w = y :: r → y = 0) : Red (x :: w)
theorem act_til (c : T3) : actN 0 (actN 0 c) = c := by
  obtain ⟨a, b, d⟩ := c
  simp only [actN, if_true]
  refine Prod.ext ?_ (Prod.ext ?_ ?_) <;> simp only <;> lia
theorem act_turn {x p : Nat} (hx : x ≠ 0) (hp : p ≠ 0) (c : T3) : actN p (actN x c) = rot3 (x + p) c := by
  unfold actN
  rw [if_neg hx, if_neg hp]
  unfold rot3
  rcases (show x % 3 = 0 ∨ x % 3 = 1 ∨ x % 3 = 2 by clear hp hx; lia) with a | a | a <;> rcases (show p % 3 = 0 ∨ p % 3 = 1 ∨ p % 3 = 2 by clear a hp hx; lia) with b | b | b
  all_goals
    have e : (x + p) % 3 = (x % 3 + p % 3) % 3 := Nat.add_mod x p 3
    rw [a, b] at e
    rw [e, a, b]
    rfl
theorem val_sg (t : Nat) (w : List Nat) (c : T3) : valW (sgW t w) c = rot3 t (valW w c) := by
  unfold sgW
  have e : rot3 t (valW w c) = rot3 (t % 3) (valW w c) := by unfold rot3; rw [Nat.mod_mod]
  split
  · rename_i h; rw [e, h]; rfl
  · rename_i h
    rw [e]
    show actN (t % 3) _ = _
    unfold actN
    rw [if_neg h]
theorem val_sh (w : List Nat) (p : Nat) (c : T3) : valW (shW w p) c = actN p (valW w c) := by
  cases w with
  | nil =>
    simp only [shW]
    split
    · rename_i h; subst h; rfl
    · rename_i h; rw [val_sg]; unfold actN; rw [if_neg h]
  | cons x w =>
    simp only [shW]
    by_cases hp : p = 0
    · subst hp
      simp only [if_true]
      split
      · rename_i h; subst h; exact (act_til _).symm
      · rfl
    · rw [if_neg hp]
      split
      · rename_i h; rw [val_sg]; unfold actN; rw [if_neg hp]
      · rename_i h; rw [val_sg]; exact (act_turn h hp _).symm
theorem red_sg {w : List Nat} (t : Nat) (h : Red w) (ht : ∀ y r, w = y :: r → y = 0) : Red (sgW t w) := by
  unfold sgW
  split
  · exact h
  · exact .turn (by clear ht h; lia) h ht
theorem red_sh {w : List Nat} (h : Red w) (p : Nat) : Red (shW w p) := by
  cases h with
  | nil =>
    simp only [shW]
    split
    · exact .til .nil (fun _ _ q => by cases q)
    · exact red_sg p .nil (fun _ _ q => by cases q)
  | til h ht =>
    simp only [shW]
    split
    · simp only [if_true]; exact h
    · simp only [if_true]; exact red_sg p (.til h ht) (fun _ _ q => by cases q; rfl)
  | turn hx h ht =>
    rename_i x w
    have x0 : x ≠ 0 := by clear ht h; lia
    simp only [shW]
    simp only [x0, if_false]
    split
    · exact .til (.turn hx h ht) (fun _ _ q => by cases q; exact x0)
    · exact red_sg _ h ht
structure PosT (c : T3) : Prop where
  r : 1 ≤ c.1
  g : 1 ≤ c.2.1
  b : 1 ≤ c.2.2
structure Bel (c : T3) : Prop where
  b : c.2.2 < 0
  rb : 0 < c.1 + c.2.2
  gb : 0 < c.2.1 + c.2.2
theorem bel_of {c : T3} (h : 0 < c.2.2) (h1 : 0 < c.1 + c.2.2) (h2 : 0 < c.2.1 + c.2.2) : Bel (actN 0 c) :=
  ⟨by simp only [actN, if_true]; (clear h2 h1; lia), by simp only [actN, if_true]; (clear h1 h; lia), by simp only [actN, if_true]; (clear h2 h; lia)⟩
inductive Lead (c0 : T3) : List Nat → T3 → Prop where
  | nil : Lead c0 [] c0
  | one {x : Nat} (hx : x = 1 ∨ x = 2) : Lead c0 [x] (rot3 x c0)
  | til {w : List Nat} {c : T3} (h : Bel c) : Lead c0 (0 :: w) c
  | turn {x : Nat} {w : List Nat} {c : T3} (hx : x = 1 ∨ x = 2) (h : Bel c) : Lead c0 (x :: 0 :: w) (rot3 x c)
theorem pos_rot {c : T3} (h : PosT c) (x : Nat) : PosT (rot3 x c) := by
  obtain ⟨a, b, d⟩ := h
  unfold rot3
  split
  · exact ⟨a, b, d⟩
  · split
    · exact ⟨d, a, b⟩
    · exact ⟨b, d, a⟩
theorem bel_til {c : T3} (h : Bel c) {x : Nat} (hx : x = 1 ∨ x = 2) : Bel (actN 0 (rot3 x c)) := by
  obtain ⟨a, b, d⟩ := h
  rcases hx with rfl | rfl
  · exact bel_of (show 0 < c.2.1 by lia) (show 0 < c.2.2 + c.2.1 by clear b a; lia) (show 0 < c.1 + c.2.1 by lia)
  · exact bel_of (show 0 < c.1 by lia) (show 0 < c.2.1 + c.1 by lia) (show 0 < c.2.2 + c.1 by clear d a; lia)
theorem Lead.til_of {c0 : T3} (h0 : PosT c0) {w : List Nat} {c : T3} (h : Lead c0 w c) (ht : ∀ x r, w = x :: r → x ≠ 0) : Bel (actN 0 c) := by
  cases h with
  | nil =>
    obtain ⟨a, b, d⟩ := h0
    exact bel_of (by clear b a ht; lia) (by clear b ht; lia) (by clear a ht; lia)
  | one hx =>
    rename_i x
    obtain ⟨a, b, d⟩ := pos_rot h0 x
    exact bel_of (by clear b a ht hx h0; lia) (by clear b ht hx h0; lia) (by clear a ht hx h0; lia)
  | til _ => exact absurd rfl (ht _ _ rfl)
  | turn hx hb => exact bel_til hb hx
theorem act_rot {x : Nat} (hx : x = 1 ∨ x = 2) (c : T3) : actN x c = rot3 x c := by
  unfold actN; rw [if_neg (by lia)]
theorem lead {c0 : T3} (h0 : PosT c0) {w : List Nat} (h : Red w) : Lead c0 w (valW w c0) := by
  induction h with
  | nil => exact .nil
  | til h ht ih => exact .til (ih.til_of h0 ht)
  | turn hx h ht ih =>
    rename_i x w
    show Lead c0 (x :: w) (actN x (valW w c0))
    rw [act_rot hx]
    cases w with
    | nil => exact .one hx
    | cons y r =>
      have hy : y = 0 := ht y r rfl
      subst hy
      generalize valW (0 :: r) c0 = c at ih
      cases ih with
      | til hb => exact .turn hx hb
      | one hy => (clear ht h hx h0; lia)
      | turn hy _ => (clear ht h hx h0; lia)
theorem rot_ne {c0 : T3} (hne : ¬ (c0.1 = c0.2.1 ∧ c0.2.1 = c0.2.2)) {x y : Nat} (hx : x < 3) (hy : y < 3) (h : rot3 x c0 = rot3 y c0) : x = y := by
  obtain ⟨a, b, d⟩ := c0
  have g1 := congrArg Prod.fst h
  have g2 := congrArg (fun t => t.2.1) h
  have g3 := congrArg (fun t => t.2.2) h
  rcases (show x = 0 ∨ x = 1 ∨ x = 2 by clear g3 g2 g1 h hne hy; lia) with rfl | rfl | rfl <;> rcases (show y = 0 ∨ y = 1 ∨ y = 2 by clear g3 g2 g1 h hx hne; lia) with rfl | rfl | rfl <;> first | rfl | (exfalso; apply hne; simp [rot3] at g1 g2 g3; constructor <;> simp only <;> (clear g3 h hy hx hne; lia))
end
section
theorem Lead.kind {c0 : T3} (h0 : PosT c0) {w : List Nat} {c : T3} (h : Lead c0 w c) :
    (0 < c.1 ∧ 0 < c.2.1 ∧ 0 < c.2.2 ∧ ∃ x, x < 3 ∧ w = sgW x [] ∧ c = rot3 x c0) ∨ (c.2.2 < 0 ∧ 0 < c.1 ∧ 0 < c.2.1 ∧ ∃ r, w = 0 :: r) ∨ (c.1 < 0 ∧ 0 < c.2.1 ∧ 0 < c.2.2 ∧ ∃ r, w = 1 :: 0 :: r) ∨ (c.2.1 < 0 ∧ 0 < c.1 ∧ 0 < c.2.2 ∧ ∃ r, w = 2 :: 0 :: r) := by
  cases h with
  | nil =>
    obtain ⟨a, b, d⟩ := h0
    exact .inl ⟨by clear d b; lia, by clear d a; lia, by clear b a; lia, 0, by decide, rfl, rfl⟩
  | one hx =>
    rename_i x
    obtain ⟨a, b, d⟩ := pos_rot h0 x
    exact .inl ⟨by clear d b hx h0; lia, by clear d a hx h0; lia, by clear b a hx h0; lia, x, by clear d b a h0; lia, by rcases hx with rfl | rfl <;> rfl, rfl⟩
  | til hb =>
    obtain ⟨a, b, d⟩ := hb
    exact .inr (.inl ⟨a, by clear d h0; lia, by clear b h0; lia, _, rfl⟩)
  | turn hx hb =>
    obtain ⟨a, b, d⟩ := hb
    rename_i c
    rcases hx with rfl | rfl
    · exact .inr (.inr (.inl ⟨a, show 0 < c.1 by clear d h0; lia, show 0 < c.2.1 by clear b h0; lia, _, rfl⟩))
    · exact .inr (.inr (.inr ⟨a, show 0 < c.2.1 by clear b h0; lia, show 0 < c.1 by clear d h0; lia, _, rfl⟩))
theorem Red.tail {x : Nat} {w : List Nat} (h : Red (x :: w)) : Red w := by
  cases h <;> assumption
theorem rot_inj {x : Nat} {c d : T3} (h : rot3 x c = rot3 x d) : c = d := by
  have g1 := congrArg Prod.fst h
  have g2 := congrArg (fun t => t.2.1) h
  have g3 := congrArg (fun t => t.2.2) h
  unfold rot3 at g1 g2 g3
  obtain ⟨a, b, e⟩ := c
  obtain ⟨a', b', e'⟩ := d
  rcases (show x % 3 = 0 ∨ x % 3 = 1 ∨ x % 3 = 2 by clear g3 g2 g1 h; lia) with q | q | q <;> simp [q] at g1 g2 g3 <;> subst g1 <;> subst g2 <;> subst g3 <;> rfl
theorem til_inj {c d : T3} (h : actN 0 c = actN 0 d) : c = d := by
  rw [← act_til c, h, act_til]
theorem val_inj {c0 : T3} (h0 : PosT c0) (hne : ¬ (c0.1 = c0.2.1 ∧ c0.2.1 = c0.2.2)) : ∀ {w1 w2 : List Nat}, Red w1 → Red w2 → valW w1 c0 = valW w2 c0 → w1 = w2 := by
  intro w1
  induction w1 with
  | nil =>
    intro w2 r1 r2 h
    rcases (lead h0 r2).kind h0 with ⟨_, _, _, x, hx, e, ec⟩ | ⟨q, _⟩ | ⟨q, _⟩ | ⟨q, _⟩
    · have h' : rot3 0 c0 = rot3 x c0 := h.trans ec
      have := rot_ne hne (by decide) hx h'
      subst this
      exact e.symm
    all_goals
      rw [← h] at q
      have q : _ < (0 : Int) := q
      obtain ⟨a, b, d⟩ := h0
      exfalso
      simp only [valW] at q
      (clear h r2 r1 hne; lia)
  | cons y w1 ih =>
    intro w2 r1 r2 h
    rcases (lead h0 r1).kind h0 with ⟨p1, p2, p3, x, hx, e, ec⟩ | ⟨p1, p2, p3, r, e⟩ | ⟨p1, p2, p3, r, e⟩ | ⟨p1, p2, p3, r, e⟩ <;>
    rcases (lead h0 r2).kind h0 with ⟨q1, q2, q3, x', hx', e', ec'⟩ | ⟨q1, q2, q3, r', e'⟩ | ⟨q1, q2, q3, r', e'⟩ | ⟨q1, q2, q3, r', e'⟩
    all_goals first
      | (exfalso; rw [h] at p1 p2 p3; (clear e' e h r2 r1 ih hne h0; lia))
      | skip
    · have := rot_ne hne hx hx' (ec.symm.trans (h.trans ec'))
      subst this
      rw [e, e']
    · cases e; subst e'
      rw [ih r1.tail r2.tail (til_inj h)]
    · cases e; subst e'
      have h : actN 1 (valW (0 :: r) c0) = actN 1 (valW (0 :: r') c0) := h
      rw [act_rot (.inl rfl), act_rot (.inl rfl)] at h
      rw [ih r1.tail r2.tail (rot_inj h)]
    · cases e; subst e'
      have h : actN 2 (valW (0 :: r) c0) = actN 2 (valW (0 :: r') c0) := h
      rw [act_rot (.inr rfl), act_rot (.inr rfl)] at h
      rw [ih r1.tail r2.tail (rot_inj h)]
end
section
noncomputable def bdU : Nat → Int × Int × Int
  | 0 => (30, 30, 10)
  | k + 1 => (2 * (bdU k).1 + (bdU k).2.1, 2 * (bdU k).1, (bdU k).1)
structure TB (k : Nat) (c : T3) : Prop where
  r : c.1 ≤ (bdU k).1
  g : c.2.1 ≤ (bdU k).1
  w : c.1 ≤ (bdU k).2.1 ∨ c.2.1 ≤ (bdU k).2.1
  n : -c.2.2 ≤ (bdU k).2.2
  b : Bel c
noncomputable def tl (w : List Nat) : Nat := w.count 0
theorem bd_le : ∀ k, 0 ≤ (bdU k).2.1 ∧ (bdU k).2.1 ≤ (bdU k).1
  | 0 => by decide
  | k + 1 => by
    obtain ⟨a, b⟩ := bd_le k
    exact ⟨show 0 ≤ 2 * (bdU k).1 by lia, show 2 * (bdU k).1 ≤ 2 * (bdU k).1 + (bdU k).2.1 by lia⟩
theorem TB.next {k : Nat} {c : T3} (h : TB k c) {x : Nat} (hx : x = 1 ∨ x = 2) : TB (k + 1) (actN 0 (rot3 x c)) := by
  obtain ⟨r, g, w, n, b⟩ := h
  have bb := bel_til b hx
  obtain ⟨b1, b2, b3⟩ := b
  obtain ⟨m0, m1⟩ := bd_le k
  obtain ⟨c1, c2, c3⟩ := c
  simp only at r g w n b1 b2 b3
  rcases hx with rfl | rfl
  · exact ⟨show c1 + 2 * c2 ≤ 2 * (bdU k).1 + (bdU k).2.1 by rcases w with w | w <;> (clear bb b3 b2 b1 n m0; lia), show c3 + 2 * c2 ≤ 2 * (bdU k).1 + (bdU k).2.1 by clear bb b3 b2 n w r m1; lia, .inr (show c3 + 2 * c2 ≤ 2 * (bdU k).1 by clear bb b3 b2 n w r m1 m0; lia), show -(-c2) ≤ (bdU k).1 by clear bb b3 b2 b1 n w r m1 m0; lia, bb⟩
  · exact ⟨show c3 + 2 * c1 ≤ 2 * (bdU k).1 + (bdU k).2.1 by clear bb b3 b2 n w g m1; lia, show c2 + 2 * c1 ≤ 2 * (bdU k).1 + (bdU k).2.1 by rcases w with w | w <;> (clear bb b3 b2 b1 n m0; lia), .inl (show c3 + 2 * c1 ≤ 2 * (bdU k).1 by clear bb b3 b2 n w g m1 m0; lia), show -(-c1) ≤ (bdU k).1 by clear bb b3 b2 b1 n w g m1 m0; lia, bb⟩
structure Ten (c : T3) : Prop extends PosT c where
  r1 : c.1 ≤ 10
  g1 : c.2.1 ≤ 10
  b1 : c.2.2 ≤ 10
theorem ten_rot {c : T3} (h : Ten c) (x : Nat) : Ten (rot3 x c) := by
  obtain ⟨p, a, b, d⟩ := h
  refine ⟨pos_rot p x, ?_, ?_, ?_⟩ <;> unfold rot3 <;> split <;> first | assumption | (split <;> assumption)
theorem tb_first {c : T3} (h : Ten c) : TB 0 (actN 0 c) := by
  obtain ⟨⟨a, b, d⟩, a1, b1, d1⟩ := h
  obtain ⟨c1, c2, c3⟩ := c
  simp only at a b d a1 b1 d1
  exact ⟨show c2 + 2 * c3 ≤ 30 by clear d b a a1; lia, show c1 + 2 * c3 ≤ 30 by clear d b a b1; lia, .inl (show c2 + 2 * c3 ≤ 30 by clear d b a a1; lia), show -(-c3) ≤ 10 by clear d b a b1 a1; lia, bel_of (by clear b a d1 b1 a1; lia) (by clear b d1 b1 a1; lia) (by clear a d1 b1 a1; lia)⟩
theorem tb {c0 : T3} (h0 : Ten c0) : ∀ (n : Nat) (r : List Nat), r.length ≤ n → Red (0 :: r) → TB (tl r) (valW (0 :: r) c0) := by
  intro n
  induction n with
  | zero =>
    intro r hr h
    have : r = [] := List.length_eq_zero_iff.mp (by clear h h0; lia)
    subst this
    exact tb_first h0
  | succ n ih =>
    intro r hr h
    match r, h with
    | [], _ => exact tb_first h0
    | 0 :: r, h => cases h with
      | til _ ht => exact absurd rfl (ht _ _ rfl)
      | turn hx _ _ => (clear hr h ih h0; lia)
    | (x + 1) :: r, h =>
      have h1 := h.tail
      cases h1 with
      | turn hx hr2 ht =>
        show TB _ (actN 0 (actN (x + 1) (valW r c0)))
        rw [act_rot hx]
        match r, ht with
        | [], _ => exact tb_first (ten_rot h0 _)
        | 0 :: r, _ =>
          have := (ih r (by simp only [List.length_cons] at hr; (clear hr2 h ht hx ih h0; lia)) hr2).next hx
          have e : tl ((x + 1) :: 0 :: r) = tl r + 1 := by
            unfold tl; rw [List.count_cons_of_ne (by clear this hr2 hr h ht hx ih h0; lia), List.count_cons_self]
          rw [e]; exact this
        | (y + 1) :: r, ht => exact absurd (ht _ _ rfl) (by clear hr2 hr h ht hx ih h0; lia)
theorem wide {c0 : T3} (h0 : Ten c0) {w : List Nat} (h : Red w) (ht : tl w ≤ 7) : ∀ p ∈ [(valW w c0).1, (valW w c0).2.1, (valW w c0).2.2], -4920 ≤ p ∧ p ≤ 13440 := by
  have key : ∀ r, Red (0 :: r) → tl r ≤ 6 → (valW (0 :: r) c0).1 ≤ 13440 ∧ 0 ≤ (valW (0 :: r) c0).1 ∧ (valW (0 :: r) c0).2.1 ≤ 13440 ∧ 0 ≤ (valW (0 :: r) c0).2.1 ∧ -4920 ≤ (valW (0 :: r) c0).2.2 ∧ (valW (0 :: r) c0).2.2 ≤ 0 := fun r hr hl => by
    have b := tb h0 r.length r (Nat.le_refl _) hr
    have q : ∀ k ≤ 6, (bdU k).1 ≤ 13440 ∧ (bdU k).2.2 ≤ 4920 := by decide
    obtain ⟨q1, q2⟩ := q _ hl
    obtain ⟨b1, b2, _, b3, ⟨b4, b5, b6⟩⟩ := b
    exact ⟨by clear b6 b5 b4 b3 b2 q2 q hl hr ht h h0; lia, by clear b6 b3 b2 b1 q2 q1 q hl hr ht h h0; lia, by clear b6 b5 b4 b3 b1 q2 q hl hr ht h h0; lia, by clear b5 b3 b2 b1 q2 q1 q hl hr ht h h0; lia, by clear b6 b5 b4 b2 b1 q1 q hl hr ht h h0; lia, by clear b6 b5 b3 b2 b1 q2 q1 q hl hr ht h h0; lia⟩
  intro p hp
  simp only [List.mem_cons, List.not_mem_nil, or_false] at hp
  match w, h with
  | [], _ =>
    obtain ⟨⟨a, b, d⟩, a1, b1, d1⟩ := h0
    simp only [valW] at hp
    rcases hp with rfl | rfl | rfl <;> constructor <;> (clear ht key h; lia)
  | 0 :: r, h =>
    have e : tl (0 :: r) = tl r + 1 := by unfold tl; rw [List.count_cons_self]
    obtain ⟨k1, k2, k3, k4, k5, k6⟩ := key r h (by clear hp h key h0; lia)
    rcases hp with rfl | rfl | rfl <;> constructor <;> (clear e ht h key h0; lia)
  | (x + 1) :: r, h =>
    cases h with
    | turn hx hr2 ht2 =>
      have e : valW ((x + 1) :: r) c0 = rot3 (x + 1) (valW r c0) := act_rot hx _
      rw [e] at hp
      match r, ht2 with
      | [], _ =>
        obtain ⟨⟨a, b, d⟩, a1, b1, d1⟩ := ten_rot h0 (x + 1)
        simp only [valW] at hp
        rcases hp with rfl | rfl | rfl <;> constructor <;> lia
      | 0 :: r, _ =>
        have e : tl ((x + 1) :: 0 :: r) = tl r + 1 := by
          unfold tl; rw [List.count_cons_of_ne (by lia), List.count_cons_self]
        obtain ⟨k1, k2, k3, k4, k5, k6⟩ := key r hr2 (by lia)
        generalize valW (0 :: r) c0 = c at *
        obtain ⟨c1, c2, c3⟩ := c
        rcases hx with hx | hx <;> rw [hx] at hp <;> simp only [rot3] at hp <;> simp at hp <;> rcases hp with rfl | rfl | rfl <;> constructor <;> lia
      | (y + 1) :: r, ht => exact absurd (ht _ _ rfl) (by lia)
end
section
theorem til_inv {c d : T3} (h : actN 0 d = c) : d = actN 0 c := by rw [← h, act_til]
theorem rot1_inv {c d : T3} (h : rot3 1 d = c) : d = (c.2.1, c.2.2, c.1) := by subst h; rfl
theorem rot2_inv {c d : T3} (h : rot3 2 d = c) : d = (c.2.2, c.1, c.2.1) := by subst h; rfl
theorem un_lt {c0 : T3} (h0 : PosT c0) {w : List Nat} (h : Red w) {r g b : Int} (e : valW w c0 = (r, g, b)) (hr : r < 0) : ∃ v, w = 1 :: 0 :: v ∧ Red v ∧ valW v c0 = (b + 2 * r, g + 2 * r, -r) ∧ 0 < g ∧ 0 < b := by
  rcases (lead h0 h).kind h0 with ⟨p1, p2, p3, x, hx, ew, ec⟩ | ⟨p1, p2, p3, v, ew⟩ | ⟨p1, p2, p3, v, ew⟩ | ⟨p1, p2, p3, v, ew⟩
  · rw [e] at p1; exact absurd (show 0 < r from p1) (by clear ec ew hx p3 p2 p1 e h h0; lia)
  · rw [e] at p2; exact absurd (show 0 < r from p2) (by clear ew p3 p2 p1 e h h0; lia)
  · subst ew
    rw [e] at p2 p3
    have e : actN 1 (actN 0 (valW v c0)) = (r, g, b) := e
    rw [act_rot (.inl rfl)] at e
    exact ⟨v, rfl, h.tail.tail, til_inv (rot1_inv e), p2, p3⟩
  · rw [e] at p2; exact absurd (show 0 < r from p2) (by clear ew p3 p2 p1 e h h0; lia)
theorem un_gt {c0 : T3} (h0 : PosT c0) {w : List Nat} (h : Red w) {r g b : Int} (e : valW w c0 = (r, g, b)) (hr : g < 0) : ∃ v, w = 2 :: 0 :: v ∧ Red v ∧ valW v c0 = (r + 2 * g, b + 2 * g, -g) ∧ 0 < r ∧ 0 < b := by
  rcases (lead h0 h).kind h0 with ⟨p1, p2, p3, x, hx, ew, ec⟩ | ⟨p1, p2, p3, v, ew⟩ | ⟨p1, p2, p3, v, ew⟩ | ⟨p1, p2, p3, v, ew⟩
  · rw [e] at p2; exact absurd (show 0 < g from p2) (by clear ec ew hx p3 p2 p1 e h h0; lia)
  · rw [e] at p3; exact absurd (show 0 < g from p3) (by clear ew p3 p2 p1 e h h0; lia)
  · rw [e] at p2; exact absurd (show 0 < g from p2) (by clear ew p3 p2 p1 e h h0; lia)
  · subst ew
    rw [e] at p2 p3
    have e : actN 2 (actN 0 (valW v c0)) = (r, g, b) := e
    rw [act_rot (.inr rfl)] at e
    exact ⟨v, rfl, h.tail.tail, til_inv (rot2_inv e), p2, p3⟩
theorem not_til {c0 : T3} (h0 : PosT c0) {w : List Nat} (h : Red w) (hw : ∀ y r, w = y :: r → y ≠ 0) {r g b : Int} (e : valW w c0 = (r, g, b)) : r ≠ 0 ∧ g ≠ 0 ∧ 0 < b := by
  rcases (lead h0 h).kind h0 with ⟨p1, p2, p3, x, hx, ew, ec⟩ | ⟨p1, p2, p3, v, ew⟩ | ⟨p1, p2, p3, v, ew⟩ | ⟨p1, p2, p3, v, ew⟩ <;> rw [e] at p1 p2 p3 <;> simp only at p1 p2 p3
  · exact ⟨by clear ec ew hx p3 p2 e hw h h0; lia, by clear ec ew hx p3 p1 e hw h h0; lia, p3⟩
  · exact absurd rfl (hw _ _ ew)
  · exact ⟨by clear ew p3 p2 e hw h h0; lia, by clear ew p3 p1 e hw h h0; lia, p3⟩
  · exact ⟨by clear ew p3 p1 e hw h h0; lia, by clear ew p3 p2 e hw h h0; lia, p3⟩
theorem Red.after {x : Nat} {v : List Nat} (h : Red (x :: 0 :: v)) : ∀ y r, v = y :: r → y ≠ 0 := by
  have := h.tail
  cases this with
  | til _ ht => exact ht
  | turn hx _ _ => lia
theorem run_lt {c0 : T3} (h0 : PosT c0) : ∀ (n : Nat) {w : List Nat}, w.length ≤ n → Red w → ∀ {r g b : Int}, valW w c0 = (r, g, b) → r < 0 →
    ∃ (m : Nat) (ρ : Int) (u : List Nat), 1 ≤ m ∧ w = runW 1 m u ∧ Red u ∧ (∀ y r, u = y :: r → y ≠ 0) ∧ b = m * (r + b) + ρ ∧ 0 < ρ ∧ ρ < r + b ∧ valW u c0 = (r + b - ρ, g + m * (r - ρ), ρ) := by
  intro n
  induction n with
  | zero =>
    intro w hw h r g b e hr
    have : w = [] := List.length_eq_zero_iff.mp (by clear hr e h h0; lia)
    subst this
    have e : c0 = (r, g, b) := e
    rw [e] at h0
    exact absurd h0.r (by simp only; (clear e h hw h0; lia))
  | succ n ih =>
    intro w hw h r g b e hr
    obtain ⟨v, rfl, hv, ev, hg, hb⟩ := un_lt h0 h e hr
    have nt := h.after
    obtain ⟨n1, n2, n3⟩ := not_til h0 hv nt ev
    by_cases hc : b + 2 * r < 0
    · obtain ⟨m, ρ, u, h1, h2, h3, h4, h5, h6, h7, h8⟩ := ih (by simp only [List.length_cons] at hw; (clear hc n3 n2 n1 nt hb hg ev hv e h hr ih h0; lia)) hv ev hc
      have es : b + 2 * r + -r = r + b := by clear h8 h7 h6 h5 h4 h3 h2 h1 hc n3 n2 n1 nt hb hg ev hv e h hw hr ih h0; lia
      rw [es] at h5 h7
      refine ⟨m + 1, ρ, u, by clear es h8 h7 h6 h5 h4 h3 h2 h1 hc n3 n2 n1 nt hb hg ev hv e h hw hr ih h0; lia, by rw [h2]; rfl, h3, h4, ?_, h6, h7, ?_⟩
      · rw [Int.natCast_add, Int.natCast_one, Int.add_mul, Int.one_mul]; (clear es h8 h7 h6 h4 h3 h2 h1 hc n3 n2 n1 nt hb hg ev hv e h hw hr ih h0; lia)
      · rw [h8]
        refine Prod.ext (by simp only; (clear es h8 h7 h6 h5 h4 h3 h2 h1 hc n3 n2 n1 nt hb hg ev hv e h hw hr ih h0; lia)) (Prod.ext ?_ rfl)
        simp only
        have e1 : ((m + 1 : Nat) : Int) * (r - ρ) = m * (r - ρ) + (r - ρ) := by rw [Int.natCast_add, Int.natCast_one, Int.add_mul, Int.one_mul]
        have e2 : (m : Int) * (b + 2 * r - ρ) = m * (r - ρ) + m * (r + b) := by rw [← Int.mul_add]; congr 1; (clear e1 es h8 h7 h6 h5 h4 h3 h2 h1 hc n3 n2 n1 nt hb hg ev hv e h hw hr ih h0; lia)
        rw [e1, e2]; (clear e2 e1 es h8 h7 h6 h4 h3 h2 h1 hc n3 n2 n1 nt hb hg ev hv e h hw hr ih h0; lia)
    · exact ⟨1, -r, v, by clear hc n3 n2 n1 nt hb hg ev hv e h hw hr ih h0; lia, rfl, hv, nt, by clear hc n3 n2 n1 nt hb hg ev hv e h hw hr ih h0; lia, by clear hc n3 n2 n1 nt hb hg ev hv e h hw ih h0; lia, by clear n3 n2 nt hb hg ev hv e h hw hr ih h0; lia, by rw [ev]; refine Prod.ext (by simp only; lia) (Prod.ext (by simp only; lia) rfl)⟩
theorem run_gt {c0 : T3} (h0 : PosT c0) : ∀ (n : Nat) {w : List Nat}, w.length ≤ n → Red w → ∀ {r g b : Int}, valW w c0 = (r, g, b) → g < 0 →
    ∃ (m : Nat) (ρ : Int) (u : List Nat), 1 ≤ m ∧ w = runW 2 m u ∧ Red u ∧ (∀ y r, u = y :: r → y ≠ 0) ∧ b = m * (g + b) + ρ ∧ 0 < ρ ∧ ρ < g + b ∧ valW u c0 = (r + m * (g - ρ), g + b - ρ, ρ) := by
  intro n
  induction n with
  | zero =>
    intro w hw h r g b e hr
    have : w = [] := List.length_eq_zero_iff.mp (by clear hr e h h0; lia)
    subst this
    have e : c0 = (r, g, b) := e
    rw [e] at h0
    exact absurd h0.g (by simp only; (clear e h hw h0; lia))
  | succ n ih =>
    intro w hw h r g b e hr
    obtain ⟨v, rfl, hv, ev, hg, hb⟩ := un_gt h0 h e hr
    have nt := h.after
    obtain ⟨n1, n2, n3⟩ := not_til h0 hv nt ev
    by_cases hc : b + 2 * g < 0
    · obtain ⟨m, ρ, u, h1, h2, h3, h4, h5, h6, h7, h8⟩ := ih (by simp only [List.length_cons] at hw; (clear hc n3 n2 n1 nt hb hg ev hv e h hr ih h0; lia)) hv ev hc
      have es : b + 2 * g + -g = g + b := by clear h8 h7 h6 h5 h4 h3 h2 h1 hc n3 n2 n1 nt hb hg ev hv e h hw hr ih h0; lia
      rw [es] at h5 h7
      refine ⟨m + 1, ρ, u, by clear es h8 h7 h6 h5 h4 h3 h2 h1 hc n3 n2 n1 nt hb hg ev hv e h hw hr ih h0; lia, by rw [h2]; rfl, h3, h4, ?_, h6, h7, ?_⟩
      · rw [Int.natCast_add, Int.natCast_one, Int.add_mul, Int.one_mul]; (clear es h8 h7 h6 h4 h3 h2 h1 hc n3 n2 n1 nt hb hg ev hv e h hw hr ih h0; lia)
      · rw [h8]
        refine Prod.ext ?_ (Prod.ext (by simp only; (clear es h8 h7 h6 h5 h4 h3 h2 h1 hc n3 n2 n1 nt hb hg ev hv e h hw hr ih h0; lia)) rfl)
        simp only
        have e1 : ((m + 1 : Nat) : Int) * (g - ρ) = m * (g - ρ) + (g - ρ) := by rw [Int.natCast_add, Int.natCast_one, Int.add_mul, Int.one_mul]
        have e2 : (m : Int) * (b + 2 * g - ρ) = m * (g - ρ) + m * (g + b) := by rw [← Int.mul_add]; congr 1; (clear e1 es h8 h7 h6 h5 h4 h3 h2 h1 hc n3 n2 n1 nt hb hg ev hv e h hw hr ih h0; lia)
        rw [e1, e2]; (clear e2 e1 es h8 h7 h6 h4 h3 h2 h1 hc n3 n2 n1 nt hb hg ev hv e h hw hr ih h0; lia)
    · exact ⟨1, -g, v, by clear hc n3 n2 n1 nt hb hg ev hv e h hw hr ih h0; lia, rfl, hv, nt, by clear hc n3 n2 n1 nt hb hg ev hv e h hw hr ih h0; lia, by clear hc n3 n2 n1 nt hb hg ev hv e h hw ih h0; lia, by clear n3 n1 nt hb hg ev hv e h hw hr ih h0; lia, by rw [ev]; refine Prod.ext (by simp only; lia) (Prod.ext (by simp only; lia) rfl)⟩
structure TSt where
  r : Int
  g : Int
  b : Int
  w : Str
structure TBig (σ : TSt) : Prop where
  r : σ.r.natAbs ≤ 20000
  g : σ.g.natAbs ≤ 20000
  b : σ.b.natAbs ≤ 20000
  w : σ.w.length ≤ 100
inductive TStep : TSt → TSt → Prop where
  | stay {σ : TSt} (hr : 0 ≤ σ.r) (hg : 0 ≤ σ.g) : TStep σ σ
  | red {σ : TSt} {m : Nat} {ρ : Int} (hr : σ.r < 0) (h1 : 1 ≤ m) (h2 : m ≤ 100) (hb : σ.b = m * (σ.r + σ.b) + ρ) (l : 0 < ρ) (u : ρ < σ.r + σ.b) (B : TBig σ) : TStep σ ⟨σ.r + σ.b - ρ, σ.g + σ.b - m * (σ.b + ρ) - ρ, ρ, repS sTL m ++ σ.w⟩
  | green {σ : TSt} {m : Nat} {ρ : Int} (hr : 0 ≤ σ.r) (hg : σ.g < 0) (h1 : 1 ≤ m) (h2 : m ≤ 100) (hb : σ.b = m * (σ.g + σ.b) + ρ) (l : 0 < ρ) (u : ρ < σ.g + σ.b) (B : TBig σ) : TStep σ ⟨σ.r + σ.b - m * (σ.b + ρ) - ρ, σ.g + σ.b - ρ, ρ, repS sTG m ++ σ.w⟩
inductive TRun : Nat → TSt → TSt → Prop where
  | zero {σ : TSt} : TRun 0 σ σ
  | succ {n : Nat} {σ τ υ : TSt} (h : TStep σ τ) (t : TRun n τ υ) : TRun (n + 1) σ υ
theorem TRun.seq {n : Nat} {σ υ : TSt} (h : TRun n σ υ) : ∃ f : Nat → TSt, f 0 = σ ∧ f n = υ ∧ ∀ i < n, TStep (f i) (f (i + 1)) := by
  induction h with
  | zero => exact ⟨fun _ => _, rfl, rfl, fun i hi => by lia⟩
  | succ h t ih =>
    rename_i n σ τ υ
    obtain ⟨f, a, b, c⟩ := ih
    refine ⟨fun i => match i with | 0 => σ | i + 1 => f i, rfl, b, fun i hi => ?_⟩
    cases i with
    | zero => show TStep σ (f 0); rw [a]; exact h
    | succ i => exact c i (by clear c b a t h; lia)
theorem tl_run {x : Nat} (hx : x = 1 ∨ x = 2) (u : List Nat) : ∀ m, tl (runW x m u) = m + tl u
  | 0 => by simp [runW]
  | m + 1 => by
    have e : tl (x :: 0 :: runW x m u) = tl (runW x m u) + 1 := by
      unfold tl; rw [List.count_cons_of_ne (by lia), List.count_cons_self]
    show tl (x :: 0 :: runW x m u) = _
    rw [e, tl_run hx u m]; (clear e hx; lia)
theorem big_of {c0 : T3} (h0 : Ten c0) {w : List Nat} (h : Red w) (ht : tl w ≤ 7) {r g b : Int} (e : valW w c0 = (r, g, b)) {t : Str} (hl : (strW w ++ t).length ≤ 100) : TBig ⟨r, g, b, t⟩ := by
  have q := wide h0 h ht
  rw [e] at q
  have q1 := q r (List.mem_cons_self ..)
  have q2 := q g (List.mem_cons_of_mem _ (List.mem_cons_self ..))
  have q3 := q b (List.mem_cons_of_mem _ (List.mem_cons_of_mem _ (List.mem_cons_self ..)))
  rw [app_len] at hl
  exact ⟨by simp only; (clear q3 q2 q hl e ht h h0; lia), by simp only; (clear q3 q1 q hl e ht h h0; lia), by simp only; (clear q2 q1 q hl e ht h h0; lia), by simp only; (clear q3 q2 q1 q e ht h h0; lia)⟩
theorem told_run {c0 : T3} (h0 : Ten c0) : ∀ (n : Nat) {w : List Nat} {r g b : Int} {t : Str}, Red w → (∀ y r, w = y :: r → y ≠ 0) → tl w ≤ n → n ≤ 7 → (strW w ++ t).length ≤ 100 → valW w c0 = (r, g, b) →
    ∃ k < 3, ∃ σ, TRun (n + 1) ⟨r, g, b, t⟩ σ ∧ (σ.r, σ.g, σ.b) = rot3 k c0 ∧ strW (sgW k []) ++ σ.w = strW w ++ t := by
  have pos := h0.toPosT
  intro n
  induction n with
  | zero =>
    intro w r g b t h nt hn h7 hl e
    have B := big_of h0 h (by clear e hl h7 nt h pos h0; lia) e hl
    rcases (lead pos h).kind pos with ⟨p1, p2, p3, x, hx, ew, ec⟩ | ⟨p1, p2, p3, v, ew⟩ | ⟨p1, p2, p3, v, ew⟩ | ⟨p1, p2, p3, v, ew⟩
    · rw [e] at p1 p2 ec
      refine ⟨x, hx, ⟨r, g, b, t⟩, .succ (.stay (Int.le_of_lt p1) (Int.le_of_lt p2)) .zero, ec, by rw [ew]⟩
    · exact absurd rfl (nt _ _ ew)
    · subst ew
      have := tl_run (.inl rfl) v 1
      have : tl (1 :: 0 :: v) = 1 + tl v := this
      (clear p3 p2 p1 e hl nt h B h7 pos h0; lia)
    · subst ew
      have := tl_run (.inr rfl) v 1
      have : tl (2 :: 0 :: v) = 1 + tl v := this
      (clear p3 p2 p1 e hl nt h B h7 pos h0; lia)
  | succ n ih =>
    intro w r g b t h nt hn h7 hl e
    have B := big_of h0 h (by clear e hl nt h ih pos h0; lia) e hl
    obtain ⟨n1, n2, n3⟩ := not_til pos h nt e
    by_cases hr : r < 0
    · obtain ⟨m, ρ, u, a1, a2, a3, a4, a5, a6, a7, a8⟩ := run_lt pos w.length (Nat.le_refl _) h e hr
      have a9 := runW_len 1 u m
      have b1 := strW_len w
      have b2 := tl_run (.inl rfl) u m
      rw [← a2] at a9 b2
      have b3 := hl
      rw [app_len, b1] at b3
      have es : strW u ++ (repS sTL m ++ t) = strW w ++ t := by
        rw [a2, runW_str (s := sTL) (by decide +kernel), app_assoc]
      have ev : g + m * (r - ρ) = g + b - m * (b + ρ) - ρ := by
        have : (m : Int) * (b + ρ) = m * (r + b) - m * (r - ρ) := by rw [← Int.mul_sub]; congr 1; (clear es b3 b2 b1 a9 a8 a7 a6 a5 a4 a3 a2 a1 hr n3 n2 n1 B e hl h7 hn nt h ih pos h0; lia)
        rw [this]; (clear this es b3 b2 b1 a9 a8 a7 a6 a4 a3 a2 a1 hr n3 n2 n1 B e hl h7 hn nt h ih pos h0; lia)
      rw [ev] at a8
      obtain ⟨k, hk, σ, t1, t2, t3⟩ := ih a3 a4 (by clear ev es b3 b1 a9 a8 a7 a6 a5 a4 a3 a2 hr n3 n2 n1 B e hl h7 nt h ih pos h0; lia) (by clear ev es b3 b2 b1 a9 a8 a7 a6 a5 a4 a3 a2 a1 hr n3 n2 n1 B e hl hn nt h ih pos h0; lia) (by rw [es]; exact hl) a8
      exact ⟨k, hk, σ, .succ (.red hr a1 (by clear t3 t2 t1 hk ev es b3 b1 a9 a8 a7 a6 a5 a4 a3 a2 a1 hr n3 n2 n1 B e hl nt h ih pos h0; lia) a5 a6 a7 B) t1, t2, t3.trans es⟩
    by_cases hg : g < 0
    · obtain ⟨m, ρ, u, a1, a2, a3, a4, a5, a6, a7, a8⟩ := run_gt pos w.length (Nat.le_refl _) h e hg
      have a9 := runW_len 2 u m
      have b1 := strW_len w
      have b2 := tl_run (.inr rfl) u m
      rw [← a2] at a9 b2
      have b3 := hl
      rw [app_len, b1] at b3
      have es : strW u ++ (repS sTG m ++ t) = strW w ++ t := by
        rw [a2, runW_str (s := sTG) (by decide +kernel), app_assoc]
      have ev : r + m * (g - ρ) = r + b - m * (b + ρ) - ρ := by
        have : (m : Int) * (b + ρ) = m * (g + b) - m * (g - ρ) := by rw [← Int.mul_sub]; congr 1; (clear es b3 b2 b1 a9 a8 a7 a6 a5 a4 a3 a2 a1 hg hr n3 n2 n1 B e hl h7 hn nt h ih pos h0; lia)
        rw [this]; (clear this es b3 b2 b1 a9 a8 a7 a6 a4 a3 a2 a1 hg hr n3 n2 n1 B e hl h7 hn nt h ih pos h0; lia)
      rw [ev] at a8
      obtain ⟨k, hk, σ, t1, t2, t3⟩ := ih a3 a4 (by clear ev es b3 b1 a9 a8 a7 a6 a5 a4 a3 a2 hg hr n3 n2 n1 B e hl h7 nt h ih pos h0; lia) (by clear ev es b3 b2 b1 a9 a8 a7 a6 a5 a4 a3 a2 a1 hg hr n3 n2 n1 B e hl hn nt h ih pos h0; lia) (by rw [es]; exact hl) a8
      exact ⟨k, hk, σ, .succ (.green (by show 0 ≤ r; lia) hg a1 (by lia) a5 a6 a7 B) t1, t2, t3.trans es⟩
    · rcases (lead pos h).kind pos with ⟨p1, p2, p3, x, hx, ew, ec⟩ | ⟨p1, p2, p3, v, ew⟩ | ⟨p1, p2, p3, v, ew⟩ | ⟨p1, p2, p3, v, ew⟩
      · subst ew
        have : tl (sgW x []) = 0 := by
          rcases (show x = 0 ∨ x = 1 ∨ x = 2 by lia) with rfl | rfl | rfl <;> rfl
        obtain ⟨k, hk, σ, t1, t2, t3⟩ := ih h nt (by lia) (by lia) hl e
        exact ⟨k, hk, σ, .succ (.stay (by show 0 ≤ r; lia) (by show 0 ≤ g; lia)) t1, t2, t3⟩
      · exact absurd rfl (nt _ _ ew)
      · rw [e] at p1; exact absurd p1 hr
      · rw [e] at p1; exact absurd p1 hg
noncomputable def tFirst (c : T3) : TSt := if c.2.2 < 0 then ⟨c.2.1 + 2 * c.2.2, c.1 + 2 * c.2.2, -c.2.2, sTil⟩ else ⟨c.1, c.2.1, c.2.2, sNil⟩
theorem told_all {c0 : T3} (h0 : Ten c0) {w : List Nat} (h : Red w) (ht : tl w ≤ 7) (hl : (strW w).length ≤ 100) :
    ∃ k < 3, ∃ σ, TRun 8 (tFirst (valW w c0)) σ ∧ (σ.r, σ.g, σ.b) = rot3 k c0 ∧ strW (sgW k []) ++ σ.w = strW w := by
  have pos := h0.toPosT
  unfold tFirst
  split
  · rename_i hb
    rcases (lead pos h).kind pos with ⟨p1, p2, p3, x, hx, ew, ec⟩ | ⟨p1, p2, p3, v, ew⟩ | ⟨p1, p2, p3, v, ew⟩ | ⟨p1, p2, p3, v, ew⟩
    · (clear ec ew hx p2 p1 pos hl ht h h0; lia)
    · subst ew
      have nt : ∀ y r, v = y :: r → y ≠ 0 := by
        cases h with
        | til _ ht => exact ht
        | turn hx _ _ => (clear p3 p2 p1 hb hl ht pos h0; lia)
      have e : tl (0 :: v) = tl v + 1 := by unfold tl; rw [List.count_cons_self]
      have ev := til_inv (rfl : actN 0 (valW v c0) = valW (0 :: v) c0)
      exact told_run h0 7 h.tail nt (by clear ev nt p3 p2 p1 hb hl h pos h0; lia) (Nat.le_refl _) hl ev
    · (clear ew p2 p1 pos hl ht h h0; lia)
    · (clear ew p2 p1 pos hl ht h h0; lia)
  · rename_i hb
    have nt : ∀ y r, w = y :: r → y ≠ 0 := fun y r q hy => by
      subst q; subst hy
      have L := lead pos h
      generalize valW (0 :: r) c0 = c at L hb
      cases L with
      | til b => exact hb b.b
      | one hx => (clear hb hl ht h pos h0; lia)
      | turn hx _ => (clear hb hl ht h pos h0; lia)
    have := told_run h0 7 h nt ht (Nat.le_refl _) (t := sNil) (by rw [app_nil]; exact hl) (rfl : valW w c0 = ((valW w c0).1, (valW w c0).2.1, (valW w c0).2.2))
    rw [app_nil] at this
    exact this
end
section
noncomputable def thS (k : Nat) : Str := if k = 0 then sNil else if k = 1 then sLt else sGt
theorem thS_len (k : Nat) : (thS k).length ≤ 1 := by
  unfold thS
  split
  · decide +kernel
  · split <;> decide +kernel
theorem glued_one (s x : Str) : Builtin.Str.glued s [x] = x := rfl
theorem thS_eq {k : Nat} (hk : k < 3) : strW (sgW k []) = thS k := by
  rcases (show k = 0 ∨ k = 1 ∨ k = 2 by lia) with rfl | rfl | rfl
  · rfl
  · exact nil_app _
  · exact nil_app _
noncomputable def pick3 (c : T3) (i : Int) : Int := if i = 0 then c.1 else if i = 1 then c.2.1 else c.2.2
theorem pick_item {C : Cx} {n : Nat} {v sl : Expr} {x y z t : Int} (hs : ∀ o i, subscripted sl false o i = operate [o, i] (getItem o i)) : OP2 C n (subscriptTail v sl) (is (.list [.int x, .int y, .int z])) (is (.int (t.fmod 3))) (is (.int (pick3 (x, y, z) (t.fmod 3)))) := by
  have h : t.fmod 3 = 0 ∨ t.fmod 3 = 1 ∨ t.fmod 3 = 2 := by
    rw [Int.fmod_eq_emod_of_nonneg _ (by decide)]; lia
  unfold pick3
  rcases h with h | h | h
  · rw [h]; exact op_item_list rfl rfl (Nat.le_of_ble_eq_true rfl) hs
  · rw [h]; exact op_item_list rfl rfl (Nat.le_of_ble_eq_true rfl) hs
  · rw [h]; exact op_item_list rfl rfl (Nat.le_of_ble_eq_true rfl) hs
noncomputable def rotL (c : T3) (k : Nat) : PV := .list [.int (pick3 c (((0 : Int) - k).fmod 3)), .int (pick3 c (((1 : Int) - k).fmod 3)), .int (pick3 c (((2 : Int) - k).fmod 3))]
theorem rotL_eq (c : T3) {k : Nat} (hk : k < 3) : rotL c k = .list [.int (rot3 k c).1, .int (rot3 k c).2.1, .int (rot3 k c).2.2] := by
  rcases (show k = 0 ∨ k = 1 ∨ k = 2 by lia) with rfl | rfl | rfl <;> rfl
theorem eq_l3 {a b c a' b' c' : Int} : eqN 1 (.list [.int a, .int b, .int c]) (.list [.int a', .int b', .int c']) = decide (((a, b, c) : T3) = (a', b', c')) := by
  show ((a == a') && ((b == b') && ((c == c') && true))) = _
  rw [Bool.and_true]
  by_cases h : ((a, b, c) : T3) = (a', b', c')
  · rw [decide_eq_true h]; cases h; simp
  · rw [decide_eq_false h]
    by_cases h1 : a = a' <;> by_cases h2 : b = b' <;> by_cases h3 : c = c' <;> simp [h1, h2, h3]
    subst h1; subst h2; subst h3; exact h rfl
theorem told_pick {c0 : T3} (hne : ¬ (c0.1 = c0.2.1 ∧ c0.2.1 = c0.2.2)) {k : Nat} (hk : k < 3) {r g b : Int} (e : (r, g, b) = rot3 k c0) :
    List.map (fun j => PV.str (thS j)) (List.filter (fun j => eqN 1 (rotL c0 j) (.list [.int r, .int g, .int b])) [0, 1, 2]) = List.map PV.str [thS k] := by
  have q : ∀ j < 3, eqN 1 (rotL c0 j) (.list [.int r, .int g, .int b]) = decide (j = k) := fun j hj => by
    rw [rotL_eq c0 hj, eq_l3, e]
    by_cases h : j = k
    · subst h; rw [decide_eq_true rfl, decide_eq_true rfl]
    · rw [decide_eq_false h, decide_eq_false]
      exact fun h' => h (rot_ne hne hj hk h')
  simp only [List.filter_cons, List.filter_nil, q 0 (by decide), q 1 (by decide), q 2 (by decide)]
  rcases (show k = 0 ∨ k = 1 ∨ k = 2 by lia) with rfl | rfl | rfl <;> rfl
theorem red_qr {m : Nat} {ρ s b : Int} (hb : b = m * s + ρ) (l : 0 < ρ) (u : ρ < s) : qrT (Builtin.bitNot b) s = .tup [.int (-m - 1), .int (s - 1 - ρ)] := by
  have e : s * (-(m : Int) - 1) + (s - 1 - ρ) = Builtin.bitNot b := by
    show _ = -b - 1
    rw [Int.mul_sub, Int.mul_neg, Int.mul_one, Int.mul_comm s]; lia
  have := qr_uniq (show 0 < s by lia) e (by lia) (by lia)
  unfold qrT
  rw [← this.1, ← this.2]
theorem green_qr {m : Nat} {ρ s b : Int} (hb : b = m * s + ρ) (l : 0 < ρ) (u : ρ < s) : qrT (-b) (-s) = .tup [.int m, .int (-ρ)] := by
  have := qr_uniq (show 0 < s by lia) (show s * (m : Int) + ρ = b by rw [Int.mul_comm]; lia) (by lia) u
  unfold qrT
  rw [Int.neg_fdiv_neg, Int.neg_fmod_neg, ← this.1, ← this.2]
theorem abs_add {a b : Int} (h : a.natAbs ≤ 20000) (k : b.natAbs ≤ 20000) : (a + b : Int).natAbs < 2 ^ 64 :=
  Nat.lt_of_le_of_lt (Nat.le_trans (Int.natAbs_add_le a b) (Nat.add_le_add h k)) (by decide)
theorem abs_neg {b : Int} (h : b.natAbs ≤ 20000) : (-b : Int).natAbs < 2 ^ 64 := by
  rw [Int.natAbs_neg]; exact Nat.lt_of_le_of_lt h (by decide)
theorem abs_not {b : Int} (h : b.natAbs ≤ 20000) : (-b - 1 : Int).natAbs < 2 ^ 64 := by
  rw [Int.sub_eq_add_neg, ← Int.neg_add, Int.natAbs_neg]; exact abs_add h (by decide)
theorem abs_sub {a b : Int} (h : a.natAbs ≤ 20000) (k : b.natAbs ≤ 20000) : (-a - b : Int).natAbs < 2 ^ 64 := by
  rw [Int.sub_eq_add_neg, ← Int.neg_add, Int.natAbs_neg]; exact abs_add h k
theorem bits_ok {a b : Int} (h : a.natAbs < 2 ^ 64) : Builtin.Int.intBits a ≤ Builtin.Int.intBits b + 4000 := Nat.le_trans (bits_small h) (Nat.le_add_left_of_le (by decide))
theorem mul_ok {m : Nat} {b : Int} (h : m ≤ 100) : IntMulOk (m : Int) b := mulOk_l (by lia)
theorem rep_ok {x y : Str} {m : Nat} (e : x.length = 2) (h : m ≤ 100) (k : y.length ≤ 100) : (repS x m ++ y).length ≤ sizeLine := by
  rw [app_len, repS_len, e, sizeLine_eq]; lia
theorem rep_ok1 {x : Str} {m : Nat} (e : x.length = 2) (h : m ≤ 100) : m * x.length ≤ 2 ^ 20 := by rw [e]; lia
section
variable {C : Cx}
theorem d_told (K : LawK C) (D : DigK C) {c1 c2 c3 x y z : Int} {k : Nat} {τ : TSt} (hk : k < 3) (T : TRun 8 (tFirst (c1, c2, c3)) τ) (hτ : (τ.r, τ.g, τ.b) = rot3 k (x, y, z)) (hne : ¬ (x = y ∧ y = z)) (hl : (thS k ++ τ.w).length ≤ 1000) :
    DefC C 36 (sQ "_law_told") [is (.list [.int c1, .int c2, .int c3]), is (.list [.int x, .int y, .int z])] (is (.str (thS k ++ τ.w))) := by
  obtain ⟨f, q, doc, pm, cd, hg, ho, hcd⟩ := K.told
  have g1 := K.range
  obtain ⟨st, s0, s8, step⟩ := T.seq
  refine ⟨f, hg, ⟨_, _, ho, rfl⟩, fn_def (n := 34) (sc := scOf (stAt pw 82)) (ρ := [some (is (.list [.int c1, .int c2, .int c3])), some (is (.list [.int x, .int y, .int z])), none, none, none, none, none, none, none]) (nm := [sQ "parts", sQ "colour", sQ "red", sQ "green", sQ "blue", sQ "word", sQ "run", sQ "times", sQ "rest"]) (xs := [sQ "parts", sQ "colour"]) K.q ho rfl hcd rfl rfl rfl rfl rfl (bnd2 fun _ _ => rfl) rfl (by decide +kernel) (by decide +kernel) (by decide +kernel) (by decide +kernel) rfl fun L X => ?_⟩
  apply ex_cons
  · apply ex_asgU
    · walk_at "ev"
    · walk_at "at"
    · exact rfl
    · exact rfl
  walk_at "asn"
  apply ex_cons
  · apply ex_if (Ψ := FS C _ [sQ "parts", sQ "colour", sQ "red", sQ "green", sQ "blue", sQ "word", sQ "run", sQ "times", sQ "rest"] _ _ X [some (is (.list [.int c1, .int c2, .int c3])), some (is (.list [.int x, .int y, .int z])), some (is (.int (st 0).r)), some (is (.int (st 0).g)), some (is (.int (st 0).b)), some (is (.str (st 0).w)), none, none, none] [] _)
    · walk_at "ev"
    · intro h
      have h : c3 < 0 := by simpa using h
      have e : st 0 = ⟨c2 + 2 * c3, c1 + 2 * c3, -c3, sTil⟩ := by rw [s0]; exact if_pos h
      rw [e]
      apply ex_tup
      · exact rfl
      · exact rfl
      · exact Nat.le_of_ble_eq_true rfl
      · apply TupK.val
        · walk_at "ev"
        · apply TupK.val
          · walk_at "ev"
          · apply TupK.val
            · walk_at "ev"
            · apply TupK.val
              · walk_at "ev"
              · apply tk_nil rfl
                · show Bds _ _ _ _ [_, _, _, _] _ _
                  walk_at "at"
                · exact ex_nil
              · exact rfl
            · exact rfl
          · exact rfl
        · exact rfl
    · intro h
      have h : ¬ c3 < 0 := by simpa using h
      have e : st 0 = ⟨c1, c2, c3, sNil⟩ := by rw [s0]; exact if_neg h
      rw [e]
      exact ex_nil
  apply exs_for (ρs := fun i => [some (is (.list [.int c1, .int c2, .int c3])), some (is (.list [.int x, .int y, .int z])), some (is (.int (st i).r)), some (is (.int (st i).g)), some (is (.int (st i).b)), some (is (.str (st i).w)), none, none, none]) (ωs := fun i => []) rfl rfl
  · apply it_eq (ds := rngL 0 8)
    · apply it_callTt
      · assumption
      · walk_at "ev"
      · exact fi_range1 rfl
      · exact rfl
      · exact rfl
      · exact rfl
      · exact rfl
    · exact rfl
  · intro i; rfl
  · intro κ' i d hd
    have hlt : i < 8 := by
      have := (List.getElem?_eq_some_iff.mp hd).1
      rw [rngL_length] at this; exact this
    have hde : d = .int i := by
      unfold rngL at hd
      rw [List.getElem?_map, List.getElem?_range hlt] at hd
      cases hd
      show PV.int (0 + (i : Int)) = _
      rw [Int.zero_add]
    subst hde
    have S := step i hlt
    apply ex_mk
    · walk_at "at"
    revert S
    generalize st i = σ
    generalize st (i + 1) = σ'
    intro S
    cases S with
    | stay hr hg =>
      walk_at "if"
      · intro h; have h : σ.r < 0 := by simpa using h
        lia
      intro _
      walk_at "if"
      · intro h; have h : σ.g < 0 := by simpa using h
        lia
      intro _
      apply ex_fgt
      walk_at "fgtd"
    | red hr h1 h2 hb l u B =>
      rename_i m ρ
      obtain ⟨r, g, b, w⟩ := σ
      obtain ⟨B1, B2, B3, B4⟩ := B
      simp only at hr hb l u B1 B2 B3 B4 ⊢
      have i1 : IntMulOk (m : Int) (b + ρ) := mul_ok h2
      have i3 : sTL.length = 2 := by decide +kernel
      walk_at "if"
      · intro _
        apply ex_cons
        · apply ex_asgU
          · apply ev_d
            · apply ev_callD
              · walk_at "ev"
              · apply d_idm D
                · exact Int.ne_of_gt (Int.lt_trans l u)
                · exact bits_ok (abs_not B3)
                · exact Nat.le_trans (bits_small (abs_add B1 B3)) (by decide)
              · decide
              · exact rfl
              · exact rfl
              · exact rfl
            · exact red_qr hb l u
          · walk_at "at"
          · exact rfl
          · exact rfl
        apply ex_tup_sw
        · exact rfl
        · exact rfl
        · exact Nat.le_of_ble_eq_true rfl
        · exact rfl
        · apply TupK.val
          · apply ev_d (d' := .int (m : Int))
            · walk_at "ev"
            · show PV.int (-(-(m : Int) - 1) - 1) = _
              congr 1; lia
          · apply TupK.val
            · apply ev_d (d' := .int ρ)
              · walk_at "ev"
              · show PV.int (r + b + (-(r + b - 1 - ρ) - 1)) = _
                congr 1; lia
            · apply tk_nil_sw rfl rfl
              · show Bdn _ _ _ [_, _] [is (.int ρ), is (.int (m : Int))] _ _
                walk_at "at"
              · apply ex_tup
                · exact rfl
                · exact rfl
                · exact Nat.le_of_ble_eq_true rfl
                · apply TupK.val
                  · walk_at "ev"
                  · apply TupK.val
                    · walk_at "ev"
                    · apply TupK.val
                      · walk_at "ev"
                      · apply tk_nil rfl
                        · show Bds _ _ _ _ [is (.int (r + b - ρ)), is (.int (g + b - m * (b + ρ) - ρ)), is (.int ρ)] _ _
                          walk_at "at"
                        · apply ex_cons
                          · apply ex_assign
                            · apply ev_bin
                              · apply ev_bin
                                · exact ev_str
                                · walk_at "ev"
                                · exact op_mul_str (x := sTL) h1 (rep_ok1 i3 h2) (Nat.le_trans h2 (by decide)) (by rw [i3]; decide)
                              · walk_at "ev"
                              · exact op_add_str (rep_ok i3 h2 B4)
                            · walk_at "at"
                            · decide +kernel
                            · decide +kernel
                            · exact rfl
                          apply ex_fgt
                          walk_at "fgtd"
                      · exact rfl
                    · exact rfl
                  · exact rfl
            · exact rfl
          · exact rfl
      · intro h; rw [decide_eq_true hr] at h; cases h
    | green hr hg h1 h2 hb l u B =>
      rename_i m ρ
      obtain ⟨r, g, b, w⟩ := σ
      obtain ⟨B1, B2, B3, B4⟩ := B
      simp only at hr hg hb l u B1 B2 B3 B4 ⊢
      have i1 : IntMulOk (m : Int) (b - -ρ) := mul_ok h2
      have i3 : sTG.length = 2 := by decide +kernel
      walk_at "if"
      · intro h; rw [decide_eq_false (by lia)] at h; cases h
      intro _
      walk_at "if"
      · intro _
        apply ex_cons
        · apply ex_asgU
          · apply ev_d
            · apply ev_callD
              · walk_at "ev"
              · apply d_idm D
                · clear B1 B2 B3 B4 T hτ hl hne step; lia
                · exact bits_ok (abs_neg B3)
                · exact Nat.le_trans (bits_small (abs_sub B2 B3)) (by decide)
              · decide
              · exact rfl
              · exact rfl
              · exact rfl
            · exact (congrArg (qrT (-b)) (by lia : -g - b = -(g + b))).trans (green_qr hb l u)
          · walk_at "at"
          · exact rfl
          · exact rfl
        apply ex_tup
        · exact rfl
        · exact rfl
        · exact Nat.le_of_ble_eq_true rfl
        · apply TupK.val
          · apply ev_d (d' := .int (r + b - m * (b + ρ) - ρ))
            · walk_at "ev"
            · show PV.int (r + b - m * (b - -ρ) + -ρ) = _
              rw [Int.sub_neg]; rfl
          · apply TupK.val
            · apply ev_d (d' := .int (g + b - ρ))
              · walk_at "ev"
              · rfl
            · apply TupK.val
              · apply ev_d (d' := .int ρ)
                · walk_at "ev"
                · congr 1; lia
              · apply tk_nil rfl
                · show Bds _ _ _ _ [is (.int (r + b - m * (b + ρ) - ρ)), is (.int (g + b - ρ)), is (.int ρ)] _ _
                  walk_at "at"
                · apply ex_cons
                  · apply ex_assign
                    · apply ev_bin
                      · apply ev_bin
                        · exact ev_str
                        · walk_at "ev"
                        · exact op_mul_str (x := sTG) h1 (rep_ok1 i3 h2) (Nat.le_trans h2 (by decide)) (by rw [i3]; decide)
                      · walk_at "ev"
                      · exact op_add_str (rep_ok i3 h2 B4)
                    · walk_at "at"
                    · decide +kernel
                    · decide +kernel
                    · exact rfl
                  apply ex_fgt
                  walk_at "fgtd"
              · exact rfl
            · exact rfl
          · exact rfl
      · intro h; rw [decide_eq_true hg] at h; cases h
  · rw [rngL_length, s8]
    obtain ⟨r, g, b, w⟩ := τ
    simp only at hτ hl ⊢
    apply ex_ret
    apply ev_bin
    · apply ev_meth
      · exact ev_str
      · exact hasM_join
      · apply el_cons (P := is (.list (([thS k]).map .str)))
        · apply ev_d
          · apply ev_comp1if
            apply comp1if_ok (xs := [0, 1, 2]) (f := fun (j : Nat) => .int j) (h := fun j => .str (thS j)) (p := fun j => eqN 1 (rotL (x, y, z) j) (.list [.int r, .int g, .int b]))
            · apply it_eq
              · apply it_callTt
                · assumption
                · walk_at "ev"
                · apply fi_range1
                  exact rfl
                · exact rfl
                · exact rfl
                · exact rfl
                · exact rfl
              · exact rfl
            · walk_at "at"
            · exact rfl
            · decide +kernel
            · exact rfl
            · exact Nat.le_of_ble_eq_true rfl
            · intro cenv X' j hx
              apply ex_mk4
              · walk_at "at"
              · walk_at "at"
              · intro ω κ
                apply tv_eq
                · apply tv_cmp
                  · apply ev_comp1
                    apply comp1_ok (xs := [0, 1, 2]) (f := fun (p : Nat) => .int p) (h := fun p => .int (pick3 (x, y, z) (((p : Int) - j).fmod 3)))
                    · apply it_eq
                      · apply it_callTt
                        · assumption
                        · walk_at "ev"
                        · apply fi_range1
                          exact rfl
                        · exact rfl
                        · exact rfl
                        · exact rfl
                        · exact rfl
                      · exact rfl
                    · walk_at "at"
                    · exact rfl
                    · decide +kernel
                    · exact rfl
                    · exact Nat.le_of_ble_eq_true rfl
                    · intro cenv X' j hx
                      apply ex_mk3
                      · walk_at "at"
                      · walk_at "at"
                      · intro ω κ
                        apply ev_sub
                        · walk_at "ev"
                        · walk_at "ev"
                        · exact pick_item (fun _ _ => rfl)
                  · walk_at "ev"
                  · exact op_eq_list 0 (by decide) (by rfl)
                  · exact rfl
                · rfl
              · intro _ ω κ
                have hj3 : j < 3 := by
                  simp only [List.mem_cons, List.not_mem_nil, or_false] at hx; lia
                apply ev_sub
                · apply ev_tupL
                  · apply el_cons
                    · exact ev_str
                    · apply el_cons
                      · exact ev_str
                      · apply el_cons
                        · exact ev_str
                        · exact el_nil
                        · exact rfl
                      · exact rfl
                    · exact rfl
                  · walk_at "at"
                  · exact Nat.le_of_ble_eq_true rfl
                · walk_at "ev"
                · unfold thS
                  rcases (show j = 0 ∨ j = 1 ∨ j = 2 by lia) with rfl | rfl | rfl
                  · exact op_item_tup (j := 0) rfl rfl (by decide) (by decide) (fun _ _ => rfl)
                  · exact op_item_tup (j := 1) rfl rfl (by decide) (by decide) (fun _ _ => rfl)
                  · exact op_item_tup (j := 2) rfl rfl (by decide) (by decide) (fun _ _ => rfl)
          · exact congrArg PV.list (told_pick hne hk hτ)
        · walk_at "ev"
      · apply fn_join (xs := [thS k])
        · rw [glued_one, sizeLine_eq]; exact Nat.le_trans (thS_len k) (by decide)
        · show decide (0 + (thS k).length + _ > sizeLine) = false
          have := thS_len k
          have e : (sQ "").length = 0 := by decide +kernel
          rw [decide_eq_false_iff_not, sizeLine_eq, e]
          lia
      · exact rfl
      · exact rfl
      · exact rfl
      · exact rfl
      · exact rfl
    · walk_at "ev"
    · rw [glued_one]
      exact op_add_str (by rw [sizeLine_eq]; lia)
end
end
section
noncomputable def tokK : List (List Nat × Int) := [([33], 54), ([33, 61], 28), ([37], 24), ([37, 61], 40), ([38], 19), ([38, 61], 41), ([40], 7), ([41], 8), ([42], 16), ([42, 42], 35), ([42, 42, 61], 46), ([42, 61], 38), ([43], 14), ([43, 61], 36), ([44], 12), ([45], 15), ([45, 61], 37), ([45, 62], 51), ([46], 23), ([46, 46, 46], 52), ([47], 17), ([47, 47], 47), ([47, 47, 61], 48), ([47, 61], 39), ([58], 11), ([58, 61], 53), ([59], 13), ([60], 20), ([60, 60], 33), ([60, 60, 61], 44), ([60, 61], 29), ([61], 22), ([61, 61], 27), ([62], 21), ([62, 61], 30), ([62, 62], 34), ([62, 62, 61], 45), ([64], 49), ([64, 61], 50), ([91], 9), ([93], 10), ([94], 32), ([94, 61], 43), ([123], 25), ([124], 18), ([124, 61], 42), ([125], 26), ([126], 31)]
theorem tok_eq : tokI = tokK.map fun p => (⟨p.1.toArray⟩, p.2) := by decide +kernel
noncomputable def lookC (k : Str) : Option Int := (tokK.find? fun kv => kv.1 == k.cps.toList).map (·.2)
theorem lookT_eq (k : Str) : lookT k = lookC k := by
  unfold lookT lookC
  rw [tok_eq, List.find?_map, Option.map_map]
  have e : ((fun kv : Str × Int => decide (kv.1 = k)) ∘ fun p : List Nat × Int => ((⟨p.1.toArray⟩ : Str), p.2)) = fun kv => kv.1 == k.cps.toList := by
    funext p
    show decide ((⟨p.1.toArray⟩ : Str) = k) = _
    rw [Bool.eq_iff_iff, decide_eq_true_iff, beq_iff_eq]
    constructor
    · intro h; rw [← h]
    · intro h
      cases k with
      | mk cps => simp only [Str.mk.injEq]; rw [h]
  rw [e]
  rfl
noncomputable def lookL (l : List Nat) : Option Int := (tokK.find? fun kv => kv.1 == l).map (·.2)
theorem lookT_cps (k : Str) : lookT k = lookL k.cps.toList := lookT_eq k
noncomputable def szL (l : List Nat) : Nat := if (lookL (l.take 3)).isSome then 3 else if (lookL (l.take 2)).isSome then 2 else if (lookL (l.take 1)).isSome then 1 else 0
noncomputable def goL : List Nat → Nat → List Int
  | [], _ => []
  | _ :: r, k + 1 => goL r k
  | c :: r, 0 => (lookL ((c :: r).take (szL (c :: r)))).getD 0 :: goL r (szL (c :: r) - 1)
theorem filter_drop (l : List Nat) (a : Array Nat) (ha : a.toList = l) (p : Nat) : ∀ m, p + m ≤ l.length → ((List.range m).map (p + ·)).filterMap (a[·]?) = (l.drop p).take m
  | 0, _ => by simp
  | m + 1, h => by
    have e : a[p + m]? = some l[p + m] := by rw [← Array.getElem?_toList, ha]; exact List.getElem?_eq_getElem h
    have e2 : (l.drop p)[m]? = some l[p + m] := by rw [List.getElem?_drop]; exact List.getElem?_eq_getElem h
    rw [List.range_succ, List.map_append, List.filterMap_append, filter_drop l a ha p m (Nat.le_of_succ_le h), List.take_add_one, e2]
    simp [e]
theorem sub_cps (x : Str) (p k : Nat) (hp : p ≤ x.length) : (subT x p (p + k : Nat)).cps.toList = (x.cps.toList.drop p).take k := by
  have hl : x.cps.toList.length = x.length := Array.length_toList
  have e1 : Builtin.Str.strSliceIndices (some (p : Int)) (some ((p + k : Nat) : Int)) 1 x.length = (List.range (min (p + k) x.length - p)).map (p + ·) := by
    unfold Builtin.Str.strSliceIndices
    simp only [show ((1 : Int) > 0) = True from by simp, if_true]
    have h1 : ¬ ((p : Int) < 0) := Int.not_lt.mpr (Int.natCast_nonneg _)
    have h2 : ¬ (((p + k : Nat) : Int) < 0) := Int.not_lt.mpr (Int.natCast_nonneg _)
    simp only [h1, h2, if_false]
    have h5 : min (p : Int) (x.length : Int) = ((p : Nat) : Int) := Int.min_eq_left (Int.ofNat_le.mpr hp)
    have h6 : min ((p + k : Nat) : Int) (x.length : Int) = ((min (p + k) x.length : Nat) : Int) := by
      rcases Nat.le_total (p + k) x.length with h | h
      · rw [Nat.min_eq_left h, Int.min_eq_left (Int.ofNat_le.mpr h)]
      · rw [Nat.min_eq_right h, Int.min_eq_right (Int.ofNat_le.mpr h)]
    first
    | rw [h5, h6, sliceRange_one]
    | rw [h5, h6, Int.max_eq_right (Int.natCast_nonneg _), Int.max_eq_right (Int.natCast_nonneg _), sliceRange_one]
  have e2 := filter_drop x.cps.toList x.cps rfl p (min (p + k) x.length - p) (by rw [hl, Nat.add_sub_cancel' (Nat.le_min.mpr ⟨Nat.le_add_right _ _, hp⟩)]; exact Nat.min_le_right _ _)
  have e3 : (x.cps.toList.drop p).take (min (p + k) x.length - p) = (x.cps.toList.drop p).take k := by
    rcases Nat.le_total (p + k) x.length with h | h
    · rw [Nat.min_eq_left h, Nat.add_sub_cancel_left]
    · rw [Nat.min_eq_right h, List.take_of_length_le (by rw [List.length_drop, hl]; exact Nat.le_refl _), List.take_of_length_le (by rw [List.length_drop, hl]; exact Nat.sub_le_iff_le_add'.mpr h)]
  unfold subT Txt.slice
  rw [e1]
  split
  · rename_i h
    simp only [beq_self_eq_true, Bool.true_and, beq_iff_eq, List.length_map, List.length_range] at h
    rcases Nat.eq_zero_or_pos p with rfl | h0
    · rw [Nat.sub_zero] at h
      rw [List.drop_zero, List.take_of_length_le (by rw [hl, ← Nat.zero_add k]; exact h ▸ Nat.min_le_left _ _)]
    · have hx : x.length = 0 := (Nat.eq_zero_or_pos x.length).resolve_right fun hx => Nat.ne_of_lt (Nat.lt_of_lt_of_le (Nat.sub_lt (Nat.lt_min.mpr ⟨Nat.lt_of_lt_of_le h0 (Nat.le_add_right _ _), hx⟩) h0) (Nat.min_le_right _ _)) h
      have : x.cps.toList = [] := List.eq_nil_of_length_eq_zero (by rw [hl]; exact hx)
      rw [this]; simp
  · rw [e2, e3]
theorem szI_eq (x : Str) (p : Nat) (hp : p ≤ x.length) : szI (rowB x p) = (szL (x.cps.toList.drop p) : Int) := by
  have h : ∀ k : Nat, rowB x p (k : Int) = (lookL ((x.cps.toList.drop p).take k)).isSome := fun k => by
    unfold rowB
    rw [lookT_cps, show (p : Int) + (k : Int) = ((p + k : Nat) : Int) from rfl, sub_cps x p k hp]
  have h1 := h 1
  have h2 := h 2
  have h3 := h 3
  unfold szI szL
  rw [show rowB x p 3 = _ from h3, show rowB x p 2 = _ from h2, show rowB x p 1 = _ from h1]
  split
  · rfl
  · split
    · rfl
    · split <;> rfl
theorem drop_lt {x : Str} {p : Nat} {c : Nat} {r : List Nat} (h : x.cps.toList.drop p = c :: r) : p < x.length := by
  have := congrArg List.length h
  rw [List.length_drop, List.length_cons, Array.length_toList] at this
  exact Nat.lt_of_sub_pos (this ▸ Nat.succ_pos _)
theorem rowI_eq (x : Str) (p : Nat) {c : Nat} {r : List Nat} (h : x.cps.toList.drop p = c :: r) : rowI x p = (lookL ((c :: r).take (szL (c :: r)))).getD 0 := by
  have hp := drop_lt h
  unfold rowI
  rw [szI_eq x p (Nat.le_of_lt hp), h, lookT_cps, show (p : Int) + (szL (c :: r) : Int) = ((p + szL (c :: r) : Nat) : Int) from rfl, sub_cps x p _ (Nat.le_of_lt hp), h]
theorem row_fold (x : Str) (hz : ∀ q < x.length, szL (x.cps.toList.drop q) ≠ 0) : ∀ (r : List Nat) (p : Nat) (acc : List Int) (ah : Nat), x.cps.toList.drop p = r → p ≤ ah → ((List.range' p r.length).foldl (rowS x) (acc, (ah : Int))).1 = acc ++ goL r (ah - p)
  | [], p, acc, ah, _, _ => by simp [goL]
  | c :: r, p, acc, ah, h, ha => by
    have hr : x.cps.toList.drop (p + 1) = r := by rw [← List.drop_drop, h]; rfl
    have hp := drop_lt h
    rw [List.length_cons, List.range'_succ, List.foldl_cons]
    by_cases h0 : ah = p
    · subst h0
      have z := hz ah hp
      rw [h] at z
      have e : rowS x (acc, (ah : Int)) ah = (acc ++ [rowI x ah], (((ah + szL (c :: r) : Nat)) : Int)) := by
        unfold rowS
        rw [if_pos (Int.le_refl _), szI_eq x ah (Nat.le_of_lt hp), h]
        rfl
      rw [e, row_fold x hz r (ah + 1) _ _ hr (by lia), rowI_eq x ah h, Nat.sub_self, goL, List.append_assoc]
      congr 2
      rw [Nat.add_sub_add_left]
      rfl
    · have hlt : p < ah := Nat.lt_of_le_of_ne ha fun e => h0 e.symm
      have e : rowS x (acc, (ah : Int)) p = (acc, (ah : Int)) := by
        unfold rowS
        rw [if_neg (Int.not_le.mpr (Int.ofNat_lt.mpr hlt))]
      rw [e, row_fold x hz r (p + 1) acc ah hr hlt]
      obtain ⟨k, rfl⟩ := Nat.exists_eq_add_of_lt hlt
      rw [show p + k + 1 - p = k + 1 from by rw [Nat.add_assoc, Nat.add_sub_cancel_left], goL, show p + k + 1 - (p + 1) = k from by rw [Nat.add_sub_add_right, Nat.add_sub_cancel_left]]
theorem rowF_goL (x : Str) (hz : ∀ q < x.length, szL (x.cps.toList.drop q) ≠ 0) : rowF x = goL x.cps.toList 0 := by
  have := row_fold x hz x.cps.toList 0 [] 0 (by simp) (Nat.le_refl _)
  rw [Array.length_toList] at this
  unfold rowF
  rw [List.range_eq_range']
  rw [List.nil_append] at this
  exact this
noncomputable def sgn (x : Nat) : Nat := if x = 0 then 126 else if x = 1 then 60 else 62
noncomputable def symQ (q : Nat) : Int := if q = 0 then 31 else if q = 1 then 20 else if q = 2 then 21 else if q = 3 then 33 else 34
noncomputable def pcs : List Nat → List Nat
  | [] => []
  | [x] => [x]
  | x :: y :: r => if x ≠ 0 ∧ x = y then (x + 2) :: pcs r else x :: pcs (y :: r)
theorem look_one {x : Nat} (hx : x < 3) : lookL [sgn x] = some (symQ x) := by
  rcases (show x = 0 ∨ x = 1 ∨ x = 2 by lia) with rfl | rfl | rfl <;> decide +kernel
theorem look_two {x y : Nat} (hx : x < 3) (hy : y < 3) : lookL [sgn x, sgn y] = if x ≠ 0 ∧ x = y then some (symQ (x + 2)) else none := by
  rcases (show x = 0 ∨ x = 1 ∨ x = 2 by lia) with rfl | rfl | rfl <;> rcases (show y = 0 ∨ y = 1 ∨ y = 2 by lia) with rfl | rfl | rfl <;> decide +kernel
theorem look_three {x y z : Nat} (hx : x < 3) (hy : y < 3) (hz : z < 3) : lookL [sgn x, sgn y, sgn z] = none := by
  rcases (show x = 0 ∨ x = 1 ∨ x = 2 by lia) with rfl | rfl | rfl <;> rcases (show y = 0 ∨ y = 1 ∨ y = 2 by lia) with rfl | rfl | rfl <;> rcases (show z = 0 ∨ z = 1 ∨ z = 2 by lia) with rfl | rfl | rfl <;> decide +kernel
noncomputable def sg3 (s : List Nat) : Prop := ∀ x ∈ s, x < 3
theorem sz_pos {x : Nat} (hx : x < 3) (r : List Nat) : szL (sgn x :: r) ≠ 0 := by
  unfold szL
  split
  · decide
  · split
    · decide
    · rw [if_pos]
      · decide
      · show (lookL [sgn x]).isSome = true
        rw [look_one hx]; rfl
theorem sz_three {x : Nat} (hx : x < 3) {r : List Nat} (h : lookL (sgn x :: r.take 2) = none) (h2 : lookL (sgn x :: r.take 1) = none) : szL (sgn x :: r) = 1 := by
  unfold szL
  rw [show (sgn x :: r).take 3 = sgn x :: r.take 2 from rfl, h, show (sgn x :: r).take 2 = sgn x :: r.take 1 from rfl, h2]
  show (if (lookL [sgn x]).isSome then 1 else 0) = 1
  rw [look_one hx]; rfl
theorem go_pcs : ∀ (n : Nat) (s : List Nat), s.length ≤ n → sg3 s → goL (s.map sgn) 0 = (pcs s).map symQ := by
  intro n
  induction n with
  | zero =>
    intro s hs _
    have : s = [] := List.length_eq_zero_iff.mp (by lia)
    subst this; rfl
  | succ n ih =>
    intro s hs h
    match s, h with
    | [], _ => rfl
    | [x], h =>
      have hx := h x (List.mem_cons_self ..)
      have e := look_one hx
      show (lookL ([sgn x].take (szL [sgn x]))).getD 0 :: goL [] _ = [symQ x]
      have z : szL [sgn x] = 3 := by
        unfold szL
        rw [if_pos]
        show (lookL [sgn x]).isSome = true
        rw [e]; rfl
      rw [z]
      show (lookL [sgn x]).getD 0 :: [] = _
      rw [e]; rfl
    | x :: y :: r, h =>
      have hx := h x (List.mem_cons_self ..)
      have hy := h y (List.mem_cons_of_mem _ (List.mem_cons_self ..))
      have e := look_one hx
      have e2 := look_two hx hy
      have hr : sg3 r := fun z hz => h z (List.mem_cons_of_mem _ (List.mem_cons_of_mem _ hz))
      simp only [List.length_cons] at hs
      show (lookL ((sgn x :: sgn y :: r.map sgn).take (szL (sgn x :: sgn y :: r.map sgn)))).getD 0 :: goL (sgn y :: r.map sgn) (szL (sgn x :: sgn y :: r.map sgn) - 1) = _
      by_cases hd : x ≠ 0 ∧ x = y
      · rw [if_pos hd] at e2
        have ep : pcs (x :: y :: r) = (x + 2) :: pcs r := by rw [pcs, if_pos hd]
        rw [ep]
        have z : szL (sgn x :: sgn y :: r.map sgn) = 3 ∧ r = [] ∨ szL (sgn x :: sgn y :: r.map sgn) = 2 := by
          cases r with
          | nil =>
            refine .inl ⟨?_, rfl⟩
            unfold szL
            rw [if_pos]
            show (lookL [sgn x, sgn y]).isSome = true
            rw [e2]; rfl
          | cons w r =>
            right
            unfold szL
            rw [if_neg, if_pos]
            · show (lookL [sgn x, sgn y]).isSome = true
              rw [e2]; rfl
            · show ¬ (lookL [sgn x, sgn y, sgn w]).isSome = true
              rw [look_three hx hy (hr w (List.mem_cons_self ..))]
              decide
        rcases z with ⟨z, rfl⟩ | z
        · rw [z]
          show (lookL [sgn x, sgn y]).getD 0 :: [] = _
          rw [e2]; rfl
        · rw [z]
          show (lookL [sgn x, sgn y]).getD 0 :: goL (r.map sgn) 0 = _
          rw [e2, ih r (by lia) hr]; rfl
      · rw [if_neg hd] at e2
        have ep : pcs (x :: y :: r) = x :: pcs (y :: r) := by rw [pcs, if_neg hd]
        have z : szL (sgn x :: sgn y :: r.map sgn) = 1 := by
          refine sz_three hx ?_ e2
          cases r with
          | nil => exact e2
          | cons w r => exact look_three hx hy (hr w (List.mem_cons_self ..))
        rw [ep, z]
        show (lookL [sgn x]).getD 0 :: goL ((y :: r).map sgn) 0 = _
        rw [e, ih (y :: r) (by simp only [List.length_cons]; lia) (fun z hz => h z (List.mem_cons_of_mem _ hz))]; rfl
noncomputable def txS (s : List Nat) : Str := ⟨(s.map sgn).toArray⟩
theorem sgn_drop {s : List Nat} {q : Nat} (hq : q < s.length) : ∃ x r, (s.map sgn).drop q = sgn x :: r ∧ x ∈ s := by
  rw [← List.map_drop, List.drop_eq_getElem_cons hq]
  exact ⟨_, _, rfl, List.getElem_mem hq⟩
theorem row_tx {s : List Nat} (h : sg3 s) : rowF (txS s) = (pcs s).map symQ := by
  have e : (txS s).cps.toList = s.map sgn := rfl
  have hl : (txS s).length = s.length := by show (s.map sgn).toArray.size = _; simp
  rw [rowF_goL _ (fun q hq => ?_), e, go_pcs s.length s (Nat.le_refl _) h]
  rw [e]
  obtain ⟨x, r, e1, hx⟩ := sgn_drop (hl ▸ hq)
  rw [e1]
  exact sz_pos (h x hx) r
theorem row_sz {s : List Nat} (h : sg3 s) : ∀ i < (txS s).length, szI (rowB (txS s) i) ≠ 0 := fun i hi => by
  have hl : (txS s).length = s.length := by show (s.map sgn).toArray.size = _; simp
  rw [szI_eq _ _ (Nat.le_of_lt hi)]
  obtain ⟨x, r, e1, hx⟩ := sgn_drop (hl ▸ hi)
  rw [show (txS s).cps.toList = s.map sgn from rfl, e1]
  exact fun q => sz_pos (h x hx) r (Int.ofNat.inj q)
noncomputable def pcN (ps : List Nat) (x : Nat) : List Nat := if x ≠ 0 ∧ ps.getLast? = some x then ps.dropLast ++ [x + 2] else ps ++ [x]
theorem pcN_fold : ∀ (n : Nat) (s : List Nat), s.length ≤ n → sg3 s → ∀ ps : List Nat, (∀ x, x < 3 → s.foldl pcN (ps ++ [x]) = ps ++ pcs (x :: s)) ∧ (∀ q, (q = 0 ∨ 3 ≤ q) → s.foldl pcN (ps ++ [q]) = ps ++ [q] ++ pcs s) := by
  intro n
  induction n with
  | zero =>
    intro s hs _ ps
    have : s = [] := List.length_eq_zero_iff.mp (by lia)
    subst this
    exact ⟨fun x _ => rfl, fun q _ => by simp [pcs]⟩
  | succ n ih =>
    intro s hs h ps
    match s, h with
    | [], _ => exact ⟨fun x _ => rfl, fun q _ => by simp [pcs]⟩
    | y :: r, h =>
      have hy := h y (List.mem_cons_self ..)
      have hr : sg3 r := fun z hz => h z (List.mem_cons_of_mem _ hz)
      simp only [List.length_cons] at hs
      constructor
      · intro x hx
        rw [List.foldl_cons]
        by_cases hd : x ≠ 0 ∧ x = y
        · have e : pcN (ps ++ [x]) y = ps ++ [x + 2] := by
            unfold pcN
            rw [if_pos ⟨by lia, by simp [hd.2]⟩, List.dropLast_concat, hd.2]
          rw [e, (ih r (by lia) hr ps).2 (x + 2) (by lia), pcs, if_pos hd]; simp
        · have e : pcN (ps ++ [x]) y = ps ++ [x] ++ [y] := by
            unfold pcN
            rw [if_neg]
            rintro ⟨h1, h2⟩
            rw [List.getLast?_concat] at h2
            exact hd ⟨by cases h2; exact h1, Option.some.inj h2⟩
          rw [e, (ih r (by lia) hr (ps ++ [x])).1 y hy, pcs, if_neg hd]; simp
      · intro q hq
        rw [List.foldl_cons]
        have e : pcN (ps ++ [q]) y = ps ++ [q] ++ [y] := by
          unfold pcN
          rw [if_neg]
          rintro ⟨h1, h2⟩
          rw [List.getLast?_concat] at h2
          have := Option.some.inj h2
          lia
        rw [e, (ih r (by lia) hr (ps ++ [q])).1 y hy]
theorem pcN_all {s : List Nat} (h : sg3 s) : s.foldl pcN [] = pcs s := by
  cases s with
  | nil => rfl
  | cons x s =>
    have := (pcN_fold s.length s (Nat.le_refl _) (fun z hz => h z (List.mem_cons_of_mem _ hz)) []).1 x (h x (List.mem_cons_self ..))
    have e : pcN [] x = [] ++ [x] := by unfold pcN; rw [if_neg (by simp)]
    rw [List.foldl_cons, e]
    exact this
theorem pcs_lt : ∀ (n : Nat) (s : List Nat), s.length ≤ n → sg3 s → (∀ q ∈ pcs s, q < 5) ∧ (pcs s).length ≤ s.length := by
  intro n
  induction n with
  | zero =>
    intro s hs _
    have : s = [] := List.length_eq_zero_iff.mp (by lia)
    subst this
    exact ⟨fun q h => (nomatch h), Nat.le_refl _⟩
  | succ n ih =>
    intro s hs h
    match s, h with
    | [], _ => exact ⟨fun q h => (nomatch h), Nat.le_refl _⟩
    | [x], h => exact ⟨fun q hq => by
        have hx := h x (List.mem_cons_self ..)
        have : q = x := List.mem_singleton.mp hq
        lia, Nat.le_refl _⟩
    | x :: y :: r, h =>
      have hx := h x (List.mem_cons_self ..)
      have hr : sg3 r := fun z hz => h z (List.mem_cons_of_mem _ (List.mem_cons_of_mem _ hz))
      have hyr : sg3 (y :: r) := fun z hz => h z (List.mem_cons_of_mem _ hz)
      simp only [List.length_cons] at hs
      rw [pcs]
      split
      · obtain ⟨a, b⟩ := ih r (by lia) hr
        refine ⟨fun q hq => ?_, by simp only [List.length_cons]; lia⟩
        rcases List.mem_cons.mp hq with rfl | hq
        · lia
        · exact a q hq
      · obtain ⟨a, b⟩ := ih (y :: r) (by simp only [List.length_cons]; lia) hyr
        refine ⟨fun q hq => ?_, by simp only [List.length_cons] at b ⊢; lia⟩
        rcases List.mem_cons.mp hq with rfl | hq
        · lia
        · exact a q hq
end
section
theorem idx_last (n : Nat) : Builtin.Str.strSliceIndices (some (-1)) none 1 (n + 1) = [n] := by
  unfold Builtin.Str.strSliceIndices
  simp only [show ((1 : Int) > 0) = True from by simp, if_true, show ((-1 : Int) < 0) = True from by simp]
  rw [show max 0 (min (-1 + ((n + 1 : Nat) : Int)) ((n + 1 : Nat) : Int)) = ((n : Nat) : Int) by lia, sliceRange_one, show n + 1 - n = 1 by lia]
  rfl
theorem idx_init (n : Nat) : Builtin.Str.strSliceIndices none (some (-1)) 1 (n + 1) = List.range n := by
  unfold Builtin.Str.strSliceIndices
  simp only [show ((1 : Int) > 0) = True from by simp, if_true, show ((-1 : Int) < 0) = True from by simp]
  rw [show max 0 (min (-1 + ((n + 1 : Nat) : Int)) ((n + 1 : Nat) : Int)) = ((n : Nat) : Int) by lia, show (0 : Int) = ((0 : Nat) : Int) from rfl, sliceRange_one, Nat.sub_zero]
  have : ((0 : Nat) + ·) = (id : Nat → Nat) := by funext x; exact Nat.zero_add x
  rw [this, List.map_id]
theorem app1_len (x : Str) (c : Nat) : (x ++ ⟨#[c]⟩).length = x.length + 1 := Array.size_append
theorem app1_get (x : Str) (c : Nat) : (x ++ ⟨#[c]⟩).cps[x.length]? = some c := by
  show (x.cps ++ #[c])[x.cps.size]? = _
  simp
theorem lastS_app (x : Str) (c : Nat) : lastS (x ++ ⟨#[c]⟩) = ⟨#[c]⟩ := by
  unfold lastS Txt.slice
  rw [app1_len, idx_last]
  split
  · rename_i h
    have h : x.length = 0 := by
      simp only [List.length_cons, List.length_nil, Bool.and_eq_true, beq_iff_eq] at h; lia
    have : x = sNil := by
      cases x with
      | mk cps => exact congrArg Str.mk (Array.eq_empty_of_size_eq_zero h)
    rw [this]; exact nil_app _
  · rw [List.filterMap_cons, app1_get]; rfl
theorem initS_app (x : Str) (c : Nat) : initS (x ++ ⟨#[c]⟩) = x := by
  unfold initS Txt.slice
  rw [app1_len, idx_init]
  split
  · rename_i h
    simp only [List.length_range, Bool.and_eq_true, beq_iff_eq] at h
    lia
  · have e : (List.range x.length).filterMap ((x ++ (⟨#[c]⟩ : Str)).cps[·]?) = x.cps.toList := by
      have := filter_drop ((x ++ (⟨#[c]⟩ : Str)).cps.toList) (x ++ (⟨#[c]⟩ : Str)).cps rfl 0 x.length (by rw [Array.length_toList, show (x ++ (⟨#[c]⟩ : Str)).cps.size = x.length + 1 from app1_len x c]; lia)
      rw [List.drop_zero] at this
      have h0 : ((0 : Nat) + ·) = (id : Nat → Nat) := by funext x; exact Nat.zero_add x
      rw [h0, List.map_id] at this
      rw [this]
      show ((x.cps ++ #[c]).toList).take x.cps.size = _
      rw [Array.toList_append, List.take_left' (Array.length_toList ..)]
    rw [e]
theorem sig_sgn {x : Nat} (hx : x < 3) : sigS x = ⟨#[sgn x]⟩ := by
  rcases (show x = 0 ∨ x = 1 ∨ x = 2 by lia) with rfl | rfl | rfl <;> decide +kernel
theorem Red.lt {w : List Nat} (h : Red w) : ∀ x ∈ w, x < 3 := by
  induction h with
  | nil => exact fun x h => nomatch h
  | til _ _ ih => intro x hx; rcases List.mem_cons.mp hx with rfl | hx; decide; exact ih x hx
  | turn hy _ _ ih => intro x hx; rcases List.mem_cons.mp hx with rfl | hx; lia; exact ih x hx
theorem last_w {x : Nat} (hx : x < 3) (w : List Nat) : lastS (strW (x :: w)) = sigS x := by
  rw [strW, sig_sgn hx, lastS_app]
theorem init_w {x : Nat} (hx : x < 3) (w : List Nat) : initS (strW (x :: w)) = strW w := by
  rw [strW, sig_sgn hx, initS_app]
theorem last_nil : lastS sNil = sNil := by decide +kernel
theorem str_sg (t : Nat) (w : List Nat) : strW (sgW t w) = strW w ++ sgS t := by
  unfold sgW sgS
  have e : ((t : Int)).fmod 3 = ((t % 3 : Nat) : Int) := by
    rw [Int.fmod_eq_emod_of_nonneg _ (by decide)]; lia
  rw [e]
  rcases (show t % 3 = 0 ∨ t % 3 = 1 ∨ t % 3 = 2 by lia) with h | h | h
  · rw [h, if_pos rfl, if_pos (by decide)]; exact (app_nil _).symm
  · rw [h, if_neg (by decide), if_neg (by decide), if_pos (by decide)]; rfl
  · rw [h, if_neg (by decide), if_neg (by decide), if_neg (by decide)]; rfl
theorem short_til {w : List Nat} (h : Red w) : (if lastS (strW w) = sTil then initS (strW w) else strW w ++ sTil) = strW (shW w 0) := by
  cases w with
  | nil =>
    show (if lastS sNil = sTil then initS sNil else sNil ++ sTil) = strW [0]
    rw [last_nil, if_neg (by decide +kernel)]; rfl
  | cons x w =>
    have hx := h.lt x (List.mem_cons_self ..)
    rw [last_w hx, init_w hx]
    simp only [shW, if_true]
    rcases (show x = 0 ∨ x = 1 ∨ x = 2 by lia) with rfl | rfl | rfl
    · rw [if_pos (by decide +kernel), if_pos rfl]
    · rw [if_neg (by decide +kernel), if_neg (by decide)]; rfl
    · rw [if_neg (by decide +kernel), if_neg (by decide)]; rfl
theorem short_gen {w : List Nat} (h : Red w) {t : Nat} (ht : t ≠ 0) : (if lastS (strW w) = sLt then initS (strW w) ++ sgS ((t : Int) + 1) else if lastS (strW w) = sGt then initS (strW w) ++ sgS ((t : Int) + 2) else strW w ++ sgS t) = strW (shW w t) := by
  cases w with
  | nil =>
    show (if lastS sNil = sLt then _ else if lastS sNil = sGt then _ else sNil ++ sgS t) = _
    rw [last_nil, if_neg (by decide +kernel), if_neg (by decide +kernel)]
    simp only [shW, if_neg ht]
    exact (str_sg t []).symm
  | cons x w =>
    have hx := h.lt x (List.mem_cons_self ..)
    rw [last_w hx, init_w hx]
    simp only [shW, if_neg ht]
    rcases (show x = 0 ∨ x = 1 ∨ x = 2 by lia) with rfl | rfl | rfl
    · rw [if_neg (by decide +kernel), if_neg (by decide +kernel), if_pos rfl, str_sg]
    · rw [if_pos (by decide +kernel), if_neg (by decide), str_sg]
      congr 2; lia
    · rw [if_neg (by decide +kernel), if_pos (by decide +kernel), if_neg (by decide), str_sg]
      congr 2; lia
theorem last_code {w : List Nat} (h : Red w) {x : Nat} (hx : x = 1 ∨ x = 2) (e : lastS (strW w) = sigS x) : (seqIndex? (-1) (strW w).length).bind ((strW w).cps[·]?) = some (sgn x) := by
  cases w with
  | nil =>
    exfalso
    have e : lastS sNil = sigS x := e
    rw [last_nil] at e
    rcases hx with rfl | rfl
    · exact absurd e (by decide +kernel)
    · exact absurd e (by decide +kernel)
  | cons y w =>
    have hy := h.lt y (List.mem_cons_self ..)
    rw [last_w hy] at e
    have : y = x := by
      rcases (show y = 0 ∨ y = 1 ∨ y = 2 by lia) with rfl | rfl | rfl <;> rcases hx with rfl | rfl <;> first | rfl | exact absurd e (by decide +kernel)
    subst this
    rw [strW, sig_sgn hy, app1_len]
    have : seqIndex? (-1) ((strW w).length + 1) = some (strW w).length := by
      unfold seqIndex?
      simp only [show ((-1 : Int) < 0) = True from by simp, if_true]
      rw [if_pos (by simp; lia)]
      congr 1; lia
    rw [this]
    exact app1_get _ _
end
section
noncomputable def MthAt (C : Cx) (k : Nat) (f : Addr) (qual : Str) (dv : Value) : Prop := ∃ doc pm c, C.Z0 f = some { cls := .type "function", data := .func (mFd (mthSt pw 77 k) qual dv doc pm (.ref c)) } ∧ CodeIn C.Z0 c qual
noncomputable def NsZ (C : Cx) (N : Addr) (m : Str → Option Value) : Prop := ∀ h : Heap, (∀ b o, C.Z0 b = some o → h.get? b = some o) → h.Ns N m
inductive PatZ (C : Cx) (x : Str) (code : Array Nat) : Prop where
  | mk (P L : Addr) (oP oL : Obj) (fs items : Array Value) (k : Nat) (g : GlobZ C x (.ref P)) (z : C.Z0 P = some oP) (a1 : oP.cls = .type "re.Pattern") (a2 : oP.dict = none) (a3 : oP.data = .fields fs) (a4 : fs.getD 5 .none = .ref L) (a5 : Builtin.Re.reRawNat (fs.getD 6 .none) = 0) (a6 : Builtin.Re.reRawNat (fs.getD 2 .none) = 0)
    (z2 : C.Z0 L = some oL) (a7 : oL.data = .seq items k) (a8 : (items.map Builtin.Re.reRawOf).map (·.toNat) = code)
structure HNs (C : Cx) (mN : Str → Option Value) : Prop where
  at_ : NsZ C 271 mN
  ga : mN "__getattribute__" = none
  gh : mN "__getattr__" = none
  sa : mN "__setattr__" = none
  hd : mN (sQ "_headers") = none
  ini : mN "__init__" = some (.ref 164)
  conv : mN (sQ "_convert_string_type") = some (.ref 171)
  vals : mN (sQ "values") = some (.ref 229)
structure HdrK (C : Cx) : Prop where
  q : Quiet C
  glob : GlobZ C (sQ "Headers") (.ref 272)
  cls : ∃ k2 k3, C.Z0 272 = some (excClassObj (sQ "Headers") (sQ "Headers") 272 271 [.type "object"] [.type "object"] true [] [] false none none none none k2 k3 (some (.bool true)) "object.__new__")
  ns : ∃ mN, HNs C mN
  ns2 : ∃ mN, NsZ C 271 mN ∧ mN "__getattribute__" = none ∧ mN "__getattr__" = none ∧ mN (sQ "get") = some (.ref 219) ∧ mN (sQ "setdefault") = some (.ref 262)
  init : MthAt C 0 164 (sQ "Headers.__init__") (.ref 157)
  initD : C.Z0 157 = some { cls := .type "tuple", data := .seq #[.none] 0 }
  conv : MthAt C 1 171 (sQ "Headers._convert_string_type") .none
  get : MthAt C 8 219 (sQ "Headers.get") (.ref 212)
  getD : C.Z0 212 = some { cls := .type "tuple", data := .seq #[.none] 0 }
  setd : MthAt C 15 262 (sQ "Headers.setdefault") .none
  vals : MthAt C 10 229 (sQ "Headers.values") .none
  reN : PatZ C (sQ "_name_disallowed_re") codeN
  reV : PatZ C (sQ "_value_disallowed_re") codeV
  type : BltZ C (sQ "type") (.type "type")
  str : BltZ C (sQ "str") (.type "str")
  list : BltZ C (sQ "list") (.type "list")
section
variable {C : Cx}
theorem fn_type_str {n : Nat} {x : Str} : FN C n (.type "type") [is (.str x)] (isv (.type "str")) := fn1 fun A s Z v Q E hA I h k => by
  cases h
  exact type_str_val (k _ Z _ (StepX.refl I) rfl)
theorem op_is_type {n : Nat} {T : String} : OP2 C n (compareOp .Is) (isv (.type T)) (isv (.type T)) (is (.bool true)) := fun A s Z u v Q E hA I hu hv k => by
  cases hu; cases hv
  have e : (Value.type T == Value.type T) = true := by simp
  exact wpAny_pure (a := Value.bool (Value.type T == Value.type T)) (by rw [e]; exact k _ Z _ (StepX.refl I) (.bool _))
inductive IsPat (code : Array Nat) (Z : Fz) (v : Value) : Prop where
  | mk (P L : Addr) (oP oL : Obj) (fs items : Array Value) (k : Nat) (e : v = .ref P) (z : Z P = some oP) (a1 : oP.cls = .type "re.Pattern") (a2 : oP.dict = none) (a3 : oP.data = .fields fs) (a4 : fs.getD 5 .none = .ref L) (a5 : Builtin.Re.reRawNat (fs.getD 6 .none) = 0) (a6 : Builtin.Re.reRawNat (fs.getD 2 .none) = 0)
    (z2 : Z L = some oL) (a7 : oL.data = .seq items k) (a8 : (items.map Builtin.Re.reRawOf).map (·.toNat) = code)
theorem IsPat.le {code : Array Nat} {Z Z' : Fz} {v : Value} (k : Le Z Z') (h : IsPat code Z v) : IsPat code Z' v := by
  obtain ⟨P, L, oP, oL, fs, items, kk, e, z, a1, a2, a3, a4, a5, a6, z2, a7, a8⟩ := h
  exact ⟨P, L, oP, oL, fs, items, kk, e, k _ _ z, a1, a2, a3, a4, a5, a6, k _ _ z2, a7, a8⟩
noncomputable def patV (C : Cx) (code : Array Nat) : Vp := ⟨IsPat code, IsPat.le⟩
theorem PatZ.glob {x : Str} {code : Array Nat} (p : PatZ C x code) : GlobP C x (patV C code) := by
  obtain ⟨P, L, oP, oL, fs, items, k, g, z, a1, a2, a3, a4, a5, a6, z2, a7, a8⟩ := p
  exact ⟨_, g, P, L, oP, oL, fs, items, k, rfl, z, a1, a2, a3, a4, a5, a6, z2, a7, a8⟩
theorem hasM_search {code : Array Nat} : HasM C (sQ "search") (patV C code) "re.Pattern.search" := ⟨"re.Pattern", plainAttrs_pattern, slot_search, type_search, fun Z s v I h => by
  obtain ⟨P, L, oP, oL, fs, items, kk, rfl, z, a1, a2, a3, a4, a5, a6, z2, a7, a8⟩ := h
  exact ⟨⟨oP, I.heap _ _ z, a1⟩, fun a h => by cases h; exact ⟨oP, I.heap _ _ z, a2⟩⟩⟩
theorem fn_search {n : Nat} {code : Array Nat} {x : Str} (hx : x.cps.size ≤ 2 ^ 40) (hno : noHit code x.cps 0 = true) : FN C n (.builtin "re.Pattern.search") [patV C code, is (.str x)] (is .none) := fn2 fun A s Z u v Q E hA I h h' k => by
  obtain ⟨P, L, oP, oL, fs, items, kk, rfl, z, a1, a2, a3, a4, a5, a6, z2, a7, rfl⟩ := h
  cases h'
  exact call_search (I.heap _ _ z) a1 a3 a4 a5 a6 (I.heap _ _ z2) a7 hx hno (k _ Z _ (StepX.refl I) .none)
theorem tv_none {n : Nat} {Φ : Asn C} {env : Env} {e : Expr} (he : EV C n Φ (eval e env) (is .none)) (hn : ∀ t, isTrue e env t = (do let v ← t; standAt e.pos; holding [v] (truthy v)) := by intro _; rfl) : TV C n Φ (isTrue e env (eval e env)) false := fun A s Z Q E hA I H k => by
  rw [hn]
  refine wpAny_bind (he A s Z _ E hA I H fun v Z' s' x pv => wpAny_bind (wpAny_standAt (wpAny_holding ?_)))
  cases pv
  exact wpAny_pure (k Z' s' x)
theorem conv_call (K : HdrK C) {n : Nat} (b : Bool) (x : Str) (hx : x.cps.size ≤ 2 ^ 40) (hno : noHit (if b then codeN else codeV) x.cps 0 = true) {A : Around} {s : Shared} {Z : Fz} {self v : Value} {Q : Value → Shared → Prop} {E : Value → Shared → Prop} (hA : Room (n + 2) A) (I : Inv C Z s) (hv : Rd Z v (.str x))
    (k : ∀ v' Z' s', Step C Z s Z' s' → Rd Z' v' (.str x) → Q v' s') : wpAny (model C.prog C.w) A (call (.ref 171) [self, v] [(sQ "name", .bool b)]) Q E s := by
  obtain ⟨doc, pm, c, ho, hcd⟩ := K.conv
  have g1 := K.type
  have g2 := K.str
  have g3 := K.reN.glob
  have g4 := K.reV.glob
  refine clo_enterA (n := n) (args := ⟨[self, v], [(sQ "name", .bool b)]⟩) (vs := [self, v, .bool b]) (fd := mFd (mthSt pw 77 1) (sQ "Headers._convert_string_type") .none doc pm (.ref c)) (xs := [sQ "self", sQ "value", sQ "name"]) (oc := [sQ "self", sQ "value", sQ "name", sQ "regex"])
    (nm := [sQ "self", sQ "value", sQ "name", sQ "regex"]) (ρ := [none, some (is (.str x)), some (is (.bool b)), none]) (ω := []) (sc := (mFd (mthSt pw 77 1) (sQ "Headers._convert_string_type") .none doc pm (.ref c)).scope.names) K.q I hA (I.base _ _ ho) rfl rfl (hcd.le I.base) rfl rfl rfl rfl rfl (BindsTo.of_eq rfl) rfl rfl rfl (by decide +kernel) List.Pairwise.nil (fun _ _ h => nomatch h) (fun _ h => nomatch h) List.Pairwise.nil ?_ ?_ rfl rfl rfl
  · intro L h' hn hk
    exact .un (.va ⟨by decide +kernel, .inl ⟨rfl, _, hn, rfl⟩⟩ hv (.va ⟨by decide +kernel, .inl ⟨rfl, _, hn, rfl⟩⟩ (.bool b) (.un .nil)))
  · intro L X A' s₁ E' hA' I₁ st hX H
    refine eg_run (RA := fun Z h v => Rd Z v (.str x)) (botA C) ?_ hA' I₁ H (fun Z' s' x' H' => H'.elim) fun v Z' s' x' ra => ?_
    rotate_left
    · exact k v Z' s' (((Step.to st).trans x').hide fun b hb => (hX b hb).elim id fun q => nomatch q) ra
    · clear k H
      apply eg_ifs (c := true)
      · apply tv_cmp
        · apply ev_callTt
          · exact g1
          · walk_at "ev"
          · exact fn_type_str
          · exact rfl
          · exact rfl
          · exact rfl
          · exact rfl
        · exact ev_blt g2 rfl rfl
        · exact op_is_type
        · exact rfl
      · intro _
        apply eg_cons (Ψ := FS C _ _ _ _ X [none, some (is (.str x)), some (is (.bool b)), some (patV C (if b then codeN else codeV))] [] _)
        · apply ex_assign (P := patV C (if b then codeN else codeV))
          · apply ev_ifexp
            · apply tv_bool
              · walk_at "ev"
              · intro _; rfl
            · intro hb
              rw [if_pos hb]
              exact ev_globP g3 rfl rfl
            · intro hb
              rw [if_neg (by rw [hb]; decide)]
              exact ev_globP g4 rfl rfl
          · walk_at "at"
          · exact ⟨by decide +kernel, by decide +kernel⟩
          · exact rfl
          · exact rfl
        apply eg_ifs (c := false)
        · apply tv_none
          · apply ev_meth
            · walk_at "ev"
            · exact hasM_search
            · walk_at "ev"
            · exact fn_search hx hno
            · exact rfl
            · exact rfl
            · exact rfl
            · exact rfl
            · exact rfl
          · intro _; rfl
        · intro h; cases h
        · intro _
          apply eg_ret (P := is (.str x))
          · walk_at "ev"
          · intro Z h v H p; exact p
      · intro h; cases h
end
end
section
noncomputable def instM (H : Addr) : Str → Option Value := fun y => if y = sQ "_headers" then some (.ref H) else none
theorem instM_none {H : Addr} {y : Str} (h : y ≠ sQ "_headers") : instM H y = none := if_neg h
noncomputable def tabV (H : Addr) : Vp := ⟨fun Z v => ∃ T, v = .ref T ∧ ∀ h : Heap, (∀ b o, Z b = some o → h.get? b = some o) → h.Inst T 272 (instM H), fun k ⟨T, e, h⟩ => ⟨T, e, fun h' k' => h h' fun b o z => k' b o (k b o z)⟩⟩
section
variable {C : Cx}
theorem inst_meth (K : HdrK C) {Z : Fz} {s : Shared} (I : Inv C Z s) {H T f : Addr} {fd : FuncData} {mN : Str → Option Value} {name : Str} {y : Option Value} (N : HNs C mN) (hf : mN name = some (.ref f))
    (hfo : C.Z0 f = some { cls := .type "function", data := .func fd }) (hB : typeLookup (.type "object") name = pure y) (hsh : instM H name = none) (ht : ∀ h : Heap, (∀ b o, Z b = some o → h.get? b = some o) → h.Inst T 272 (instM H))
    {A : Around} {E : Value → Shared → Prop} {Q : Value × List Value → Shared → Prop} {pl : Sem Bool} (q : Q (.ref f, [.ref T]) s) : wpAny (model C.prog C.w) A (getMethod (.ref T) name pl) Q E s := by
  obtain ⟨k2, k3, hC⟩ := K.cls
  have kb : ∀ b o, C.Z0 b = some o → s.heap.get? b = some o := fun b o e => I.heap _ _ (I.base _ _ e)
  obtain ⟨h, g, d, t, os⟩ := s
  exact method_of (kb _ _ hC) (N.at_ _ kb) N.ga N.gh hf (kb _ _ hfo) rfl hB (ht _ I.heap) hsh q
theorem lk_conv : typeLookup (.type "object") (sQ "_convert_string_type") = pure none := by rw [typeLookup_type, builtinLookup_eq_fast]; kernel_rfl
theorem lk_headers : typeLookup (.type "object") (sQ "_headers") = pure none := by rw [typeLookup_type, builtinLookup_eq_fast]; kernel_rfl
theorem lk_vals : typeLookup (.type "object") (sQ "values") = pure none := by rw [typeLookup_type, builtinLookup_eq_fast]; kernel_rfl
theorem wpAny_constBool {M : Model} {A : Around} {E : Value → Shared → Prop} {s : Shared} {env : Env} {b : Bool} {k : Nat} {p : Pos} {Q : Value → Shared → Prop} (q : Q (.bool b) s) : wpAny M A (eval (.Constant (.bool b) k p) env) Q E s := by
  rw [eval_Constant]; exact wpAny_pure q
theorem ev_convk (K : HdrK C) {n : Nat} {Φ : Asn C} {env : Env} {P : Vp} {o e : Expr} {x : Str} {b : Bool} {kk : Nat} {apos pos cp kp : Pos} (hP : ∀ Z v, P.at_ Z v → ∃ H, (tabV H).at_ Z v) (ho : EV C (n + 2) Φ (eval o env) P) (he : EV C (n + 2) Φ (eval e env) (is (.str x))) (hx : x.cps.size ≤ 2 ^ 40) (hno : noHit (if b then codeN else codeV) x.cps 0 = true)
    (hbase : attributeBase o (sQ "_convert_string_type") env (eval o env) = eval o env := by rfl) (hline : (apos.endLine == pos.line) = true := by rfl) (hst : starEach [e] env = [(false, eval e env)] := by rfl) :
    EV C (n + 2) Φ (eval (.Call (.Attribute o (sQ "_convert_string_type") apos) [e] [⟨some (sQ "name"), .Constant (.bool b) kk cp, kp⟩] pos) env) (is (.str x)) := fun A s Z Q E hA I Hh k => by
  obtain ⟨mN, N⟩ := K.ns
  obtain ⟨doc, pm, c, hfo, hcd⟩ := K.conv
  refine call_own hbase (by rw [hst]; rfl) hline (ho A s Z _ E hA I Hh fun v Z₁ s₁ x₁ pv => ?_)
  obtain ⟨H, T, rfl, ht⟩ := hP _ _ pv
  refine ⟨T, 171, { cls := .type "function", data := .func (mFd (mthSt pw 77 1) (sQ "Headers._convert_string_type") .none doc pm (.ref c)) }, mFd (mthSt pw 77 1) (sQ "Headers._convert_string_type") .none doc pm (.ref c), rfl, rfl, fun E' Q' pl q => inst_meth K x₁.inv (H := H) N N.conv hfo lk_conv (instM_none (by decide +kernel)) ht q, ?_⟩
  rw [hst]
  show wpAny _ A (evalArgs (.ref 171) true ((false, eval e env) :: []) _) _ _ _
  refine evalArgs_kw rfl (Calls.spliced_cons (he A s₁ Z₁ _ E hA x₁.inv (Φ.stable I Hh x₁) fun v Z₂ s₂ x₂ pv => Calls.spliced_nil ?_))
  show wpAny _ A (evalAll [do let v ← eval (.Constant (.bool b) kk cp) env; standAt pos; pure v]) _ _ _
  refine wpAny_evalAll_cons (wpAny_bind (wpAny_constBool (wpAny_bind (wpAny_standAt (wpAny_pure (wpAny_evalAll_nil ?_))))))
  refine ⟨x₂.inv.heap _ _ (x₂.inv.base _ _ hfo), ?_⟩
  exact conv_call K (n := n) b x hx hno hA x₂.inv pv fun v' Z₃ s₃ x₃ p₃ => k v' Z₃ s₃ ((x₁.trans x₂).trans x₃) p₃
theorem load_list (K : HdrK C) {Z : Fz} {s : Shared} (I : Inv C Z s) {H T : Addr} (ht : ∀ h : Heap, (∀ b o, Z b = some o → h.get? b = some o) → h.Inst T 272 (instM H))
    {A : Around} {E : Value → Shared → Prop} {Q : Value → Shared → Prop} {expr : Bool} (q : Q (.ref H) { s with toks := s.toks + 1 }) : wpAny (model C.prog C.w) A (getAttr (.ref T) (sQ "_headers") expr) Q E s := by
  obtain ⟨mN, N⟩ := K.ns
  obtain ⟨k2, k3, hC⟩ := K.cls
  have kb : ∀ b o, C.Z0 b = some o → s.heap.get? b = some o := fun b o e => I.heap _ _ (I.base _ _ e)
  obtain ⟨h, g, d, t, os⟩ := s
  exact load_attr (kb _ _ hC) (N.at_ _ kb) N.ga N.hd lk_headers (ht _ I.heap) (if_pos rfl) rfl q
theorem ex_hdr_append (K : HdrK C) {n : Nat} {X : Addr → Prop} {R : Vp} {env : Env} {nm oc : List Str} {sc : List (Str × NameKind)} {ω ω' : List (Addr × List PV)} {κ : Addr → Option Obj} {ρ : List (Option Vp)} {self : Str} {p1 p2 apos cpos epos : Pos} {elt : Expr} {H : Addr} {d : PV} {ds : List PV}
    (hr : At nm ρ self (tabV H)) (he : EV C n (FS C env nm oc sc X ρ ω κ) (eval elt env) (is d)) (u : OU ω H ds (ds ++ [d]) ω') (hsz : ds.length ≤ sizeLine)
    (hbase : attributeBase (.Attribute (.Name self p1) (sQ "_headers") p2) "append" env (eval (.Attribute (.Name self p1) (sQ "_headers") p2) env) = eval (.Attribute (.Name self p1) (sQ "_headers") p2) env := by rfl) (hline : (apos.endLine == cpos.line) = true := by rfl)
    (hfew : ((backTo cpos (starEach [elt] env)).all (fun x => !x.1) && (backToKw cpos (keywordEach [] env)).all (fun x => x.1.isSome)
      && decide (([elt] : List Expr).length + ([] : List Keyword).length + (if ([] : List Keyword).isEmpty then 0 else 1) < 30)) = true := by rfl)
    (htrees : backTo cpos (starEach [elt] env) = [(false, eval elt env)] := by rfl) (hi : interactive env = false := by rfl) :
    EX C n X (FS C env nm oc sc X ρ ω κ) (exec (.Expr (.Call (.Attribute (.Attribute (.Name self p1) (sQ "_headers") p2) "append" apos) [elt] [] cpos) epos) env) (FS C env nm oc sc X ρ ω' κ) R := fun A s Z Q E hA I Hh kn kr => by
  rw [PySem.exec_Expr (hi := hi) (hs := rfl)]
  refine wpAny_bind (wpAny_standAt (wpAny_bind (wpAny_Call_append hbase hfew hline htrees (Attribute_name (ev_name (n := n) hr A s Z _ E hA I Hh fun v Z₁ s₁ x₁ pv => ?_)))))
  obtain ⟨T, rfl, ht⟩ := pv
  have H₁ := (FS C env nm oc sc X ρ ω κ).stable I Hh x₁
  refine load_list K x₁.inv ht ?_
  have x₁' : Step C Z₁ s₁ Z₁ { s₁ with toks := s₁.toks + 1 } := Step.toks x₁.inv _
  have H₁' := (FS C env nm oc sc X ρ ω κ).stable x₁.inv H₁ x₁'
  obtain ⟨hz, vs, mm, e, rr⟩ := H₁'.own _ u.mem
  refine ⟨H, vs.toArray, rfl, ⟨_, mm, e, rfl, rfl, rfl⟩, ?_⟩
  refine he A _ Z₁ _ E hA x₁'.inv H₁' fun y Z₂ s₂ x₂ py => ?_
  refine call_append x₂.inv ((FS C env nm oc sc X ρ ω κ).stable x₁'.inv H₁' x₂) u py hsz fun s₃ x₃ H₃ => ?_
  rw [dropValue_plain (by intro _ q; cases q)]
  exact wpAny_pure (kn Z₂ s₃ ((((Step.to x₁).trans (Step.to x₁')).trans (Step.to x₂)).trans x₃) H₃)
end
end
section
noncomputable def tabF (hs : List PV) : Vp := ⟨fun Z v => ∃ T H, v = .ref T ∧ (∀ h : Heap, (∀ b o, Z b = some o → h.get? b = some o) → h.Inst T 272 (instM H)) ∧ Rd Z (.ref H) (.list hs), fun k ⟨T, H, e, h, r⟩ => ⟨T, H, e, fun h' k' => h h' fun b o z => k' b o (k b o z), r.le k⟩⟩
theorem tabF_tabV {Z : Fz} {hs : List PV} {v : Value} (h : (tabF hs).at_ Z v) : ∃ H, (tabV H).at_ Z v := let ⟨T, H, e, i, _⟩ := h; ⟨H, T, e, i⟩
noncomputable abbrev hpV (p : Str × Str) : PV := .tup [.str p.1, .str p.2]
section
variable {C : Cx}
theorem codeZ_of {c : Addr} {q : Str} (h : CodeIn C.Z0 c q) : CodeZ C (.ref c) q := let ⟨o, vs, t, e1, e2, e3⟩ := h; ⟨c, o, vs, t, rfl, e1, e2, e3⟩
theorem ev_hdrF (K : HdrK C) {n : Nat} {X : Addr → Prop} {env : Env} {nm oc : List Str} {sc : List (Str × NameKind)} {ω : List (Addr × List PV)} {κ : Addr → Option Obj} {ρ : List (Option Vp)} {self : Str} {p1 p2 : Pos} {hs : List PV} (hr : At nm ρ self (tabF hs)) :
    EV C n (FS C env nm oc sc X ρ ω κ) (eval (.Attribute (.Name self p1) (sQ "_headers") p2) env) (is (.list hs)) := fun A s Z Q E hA I Hh k => by
  refine Attribute_name (ev_name (n := n) hr A s Z _ E hA I Hh fun v Z₁ s₁ x₁ pv => ?_)
  obtain ⟨T, H, rfl, ht, hr⟩ := pv
  exact load_list K x₁.inv ht (k _ Z₁ _ (x₁.trans (Step.toks x₁.inv _)) hr)
theorem fn_vals (K : HdrK C) {hs : List (Str × Str)} (hsz : hs.length ≤ sizeLine) : FN C 3 (.ref 229) [tabF (hs.map hpV)] (is (.list (hs.map fun p => .str p.2))) := by
  obtain ⟨doc, pm, c, hfo, hcd⟩ := K.vals
  refine fn_def (n := 1) (sc := scOf (mthSt pw 77 10)) (ρ := [some (tabF (hs.map hpV))]) (nm := [sQ "self"]) (xs := [sQ "self"]) K.q hfo rfl (codeZ_of hcd) rfl rfl rfl rfl rfl (bnd1 fun _ => rfl) rfl (by decide +kernel) (by decide +kernel) (by decide +kernel) rfl rfl fun L X => ?_
  apply ex_ret
  apply ev_d
  · apply ev_comp1
    apply comp1_ok (xs := hs) (f := hpV) (h := fun p => .str p.2)
    · apply it_eq
      · apply it_list
        (apply ev_hdrF K; walk_at "at")
      · exact rfl
    · walk_at "at"
    · exact rfl
    · decide +kernel
    · exact rfl
    · exact hsz
    · intro cenv X' j hx
      apply ex_mk3
      · walk_at "at"
      · walk_at "at"
      · intro ω κ
        apply ev_d
        · walk_at "ev"
        · rfl
  · rfl
noncomputable def lowT (x : Str) : Str := ⟨placed x fun i _ => Unicode.lowerAt x.cps i⟩
end
end
section
open PySem.NumText
-- the texts of law 03's names
noncomputable def okC (c : Nat) : Bool := c == 45 || c == 46 || (48 ≤ c && c ≤ 57) || c == 67 || c == 99
noncomputable def okL : List Nat := [45, 46, 48, 49, 50, 51, 52, 53, 54, 55, 56, 57, 67, 99]
theorem okC_mem {c : Nat} (h : okC c = true) : c ∈ okL := by
  have hb : c < 128 := by
    simp only [okC, Bool.or_eq_true, Bool.and_eq_true, beq_iff_eq, decide_eq_true_eq] at h
    lia
  exact (by decide +kernel : ∀ c < 128, okC c = true → c ∈ okL) c hb h
theorem inSN {c : Nat} (h : okC c = true) (seen : Sre.Seen) : Sre.inSet codeN c codeN.size 5 true seen = .ok (false, ((seen.add 22).add 16).add 0) := by
  have h := okC_mem h
  simp only [okL, List.mem_cons, List.not_mem_nil, or_false] at h
  rcases h with rfl | rfl | rfl | rfl | rfl | rfl | rfl | rfl | rfl | rfl | rfl | rfl | rfl | rfl <;> rfl
theorem inSV {c : Nat} (h : okC c = true) (seen : Sre.Seen) : Sre.inSet codeV c codeV.size 5 true seen = .ok (false, (seen.add 9).add 0) := by
  have h := okC_mem h
  simp only [okL, List.mem_cons, List.not_mem_nil, or_false] at h
  rcases h with rfl | rfl | rfl | rfl | rfl | rfl | rfl | rfl | rfl | rfl | rfl | rfl | rfl | rfl <;> rfl
theorem admitted_none {m : Sre.M} {g : Sre.Seen → Sre.Seen} (ht : ∀ c ∈ m.text.toList, okC c = true) (hl : m.lim = m.text.size) (hin : ∀ c, okC c = true → ∀ seen, Sre.inSet m.code c m.code.size 5 true seen = .ok (false, g seen)) :
    ∀ (fuel s : Nat) (seen : Sre.Seen), ∃ seen', Sre.M.admitted m fuel s seen = .ok (none, seen') := by
  intro fuel
  induction fuel with
  | zero => exact fun s seen => ⟨seen, rfl⟩
  | succ k ih =>
    intro s seen
    unfold Sre.M.admitted
    by_cases hs : s ≥ m.lim
    · rw [if_pos hs]; exact ⟨seen, rfl⟩
    · rw [if_neg hs]
      have hlt : s < m.text.size := by lia
      have hc : okC (m.text.getD s 0) = true := by
        apply ht
        simp [Array.getD, hlt]
      rw [hin _ hc]
      exact ih (s + 1) _
theorem adm_of {m : Sre.M} {code t : Array Nat} {g : Sre.Seen → Sre.Seen} {fuel s : Nat} {seen : Sre.Seen} {r : Except String (Option Nat × Sre.Seen)} (h : Sre.M.admitted m fuel s seen = r) (hc : m.code = code) (hx : m.text = t) (hl : m.lim = t.size) (ht : ∀ c ∈ t.toList, okC c = true) (hin : ∀ c, okC c = true → ∀ seen, Sre.inSet code c code.size 5 true seen = .ok (false, g seen)) : ∃ seen', r = .ok (none, seen') := by
  subst hc hx h
  exact admitted_none ht hl hin fuel s seen
theorem drive_say {m : Sre.M} (ha : m.answer = some false) (hf : m.frames = []) (ho : m.outcome = none) : ∃ m', driveP 400 m = some m' ∧ missed m' = true := by
  obtain ⟨⟩ := m
  cases ha; cases hf; cases ho
  exact ⟨_, rfl, rfl⟩
theorem noHit_of {code t : Array Nat} {g : Sre.Seen → Sre.Seen} (ht : ∀ c ∈ t.toList, okC c = true) (hin : ∀ c, okC c = true → ∀ seen, Sre.inSet code c code.size 5 true seen = .ok (false, g seen))
    (hset : (match Sre.ops[code.getD 0 0]? with | some .INFO => true | _ => false) && code.getD 2 0 == 4) : noHit code t 0 = true := by
  have key : ∃ m', driveP 400 (Sre.forSearch code t 0 0 t.size false) = some m' ∧ missed m' = true := by
    unfold Sre.forSearch
    dsimp only
    split
    · exact drive_say rfl rfl rfl
    · unfold Sre.M.attemptFrom
      have hf : ∀ m : Sre.M, m.code = code → m.hasFirstSet = true := fun m e => by
        unfold Sre.M.hasFirstSet; rw [e]; exact hset
      rw [hf _ rfl]
      simp only [Bool.not_true, Bool.false_eq_true, if_false]
      split
      · rename_i h
        obtain ⟨_, e⟩ := adm_of h rfl rfl rfl ht hin
        cases e
      · exact drive_say rfl rfl rfl
      · rename_i h
        obtain ⟨_, e⟩ := adm_of h rfl rfl rfl ht hin
        cases e
  obtain ⟨m', e1, e2⟩ := key
  unfold noHit
  rw [e1]
  exact e2
theorem noHitN {t : Array Nat} (ht : ∀ c ∈ t.toList, okC c = true) : noHit codeN t 0 = true := noHit_of ht (fun _ h => inSN h) rfl
theorem noHitV {t : Array Nat} (ht : ∀ c ∈ t.toList, okC c = true) : noHit codeV t 0 = true := noHit_of ht (fun _ h => inSV h) rfl
-- numerals
noncomputable def numC (a : Int) : List Nat := (numT a).cps.toList
theorem numC_nat (m : Nat) : numC m = (Nat.toDigits 10 m).map Char.toNat := KIN.signs_num m
theorem numC_neg (m : Nat) : numC (Int.negSucc m) = 45 :: numC ((m + 1 : Nat) : Int) := by
  rw [numC_nat]
  unfold numC numT
  rw [signs_ofString]
  show ("-" ++ Nat.repr (m + 1)).toList.map Char.toNat = _
  rw [String.toList_append, List.map_append, Nat.toList_repr]
  rfl
theorem numC_val (m : Nat) : digitsVal (numC m) = m := by rw [numC_nat]; exact KIN.val_back m
theorem numC_digN (m : Nat) : ∀ c ∈ numC (m : Int), 48 ≤ c ∧ c ≤ 57 := by
  intro c hc
  rw [numC_nat] at hc
  obtain ⟨ch, hch, e⟩ := List.mem_map.mp hc
  have r := Nat.isDigit_of_mem_toDigits (by decide) (by decide) hch
  rw [← e]
  simp only [Char.isDigit, Bool.and_eq_true, decide_eq_true_eq] at r
  exact ⟨r.1, r.2⟩
theorem numC_injN {a b : Nat} (h : numC (a : Int) = numC (b : Int)) : a = b := by
  have := congrArg digitsVal h
  rwa [numC_val, numC_val] at this
theorem numC_inj {a b : Int} (h : numC a = numC b) : a = b := by
  match a, b, h with
  | .ofNat a, .ofNat b, h => rw [numC_injN h]
  | .negSucc a, .negSucc b, h =>
    rw [numC_neg, numC_neg] at h
    have := numC_injN (List.cons.inj h).2
    rw [Nat.succ.inj this]
  | .ofNat a, .negSucc b, h =>
    rw [numC_neg] at h
    have := numC_digN a 45 (by rw [show numC ((a : Nat) : Int) = _ from h]; exact List.mem_cons_self ..)
    lia
  | .negSucc a, .ofNat b, h =>
    rw [numC_neg] at h
    have := numC_digN b 45 (by rw [show numC ((b : Nat) : Int) = _ from h.symm]; exact List.mem_cons_self ..)
    lia
theorem numC_sig (a : Int) : ∀ c ∈ numC a, c = 45 ∨ (48 ≤ c ∧ c ≤ 57) := by
  match a with
  | .ofNat m => exact fun c hc => .inr (numC_digN m c hc)
  | .negSucc m =>
    rw [numC_neg]
    intro c hc
    rcases List.mem_cons.mp hc with rfl | hc
    · exact .inl rfl
    · exact .inr (numC_digN (m + 1) c hc)
theorem numC_len {a : Int} (h : a.natAbs < 10 ^ 10) : (numC a).length ≤ 11 := by
  have key : ∀ m : Nat, m < 10 ^ 10 → (numC (m : Int)).length ≤ 10 := fun m hm => by
    rw [numC_nat, List.length_map]
    exact (Nat.length_toDigits_le_iff (by decide) (by decide)).mpr hm
  match a, h with
  | .ofNat m, h => exact Nat.le_succ_of_le (key m h)
  | .negSucc m, h => rw [numC_neg, List.length_cons]; exact Nat.succ_le_succ (key (m + 1) h)
theorem split_uniq {m : Nat} : ∀ {xs xs' ys ys' : List Nat}, m ∉ xs → m ∉ xs' → xs ++ m :: ys = xs' ++ m :: ys' → xs = xs' ∧ ys = ys'
  | [], [], ys, ys', _, _, h => ⟨rfl, (List.cons.inj h).2⟩
  | [], x :: xs', ys, ys', _, h2, h => absurd (List.mem_cons.mpr (.inl (List.cons.inj h).1)) h2
  | x :: xs, [], ys, ys', h1, _, h => absurd (List.mem_cons.mpr (.inl (List.cons.inj h).1.symm)) h1
  | x :: xs, x' :: xs', ys, ys', h1, h2, h => by
    obtain ⟨e, h⟩ := List.cons.inj h
    obtain ⟨a, b⟩ := split_uniq (fun q => h1 (.tail _ q)) (fun q => h2 (.tail _ q)) h
    exact ⟨by rw [e, a], b⟩
-- the name of a colour
noncomputable def glC (v : T3) : Str := Builtin.Str.glued (sQ ".") [numT v.1, numT v.2.1, numT v.2.2]
noncomputable def nmC (l : Str) (v : T3) : Str := l ++ glC v
theorem glC_cps (v : T3) : (glC v).cps.toList = numC v.1 ++ 46 :: (numC v.2.1 ++ 46 :: numC v.2.2) := by
  have h : (sQ ".").cps.toList = [46] := by decide +kernel
  show (((((numT v.1).cps ++ (sQ ".").cps ++ (numT v.2.1).cps) ++ (sQ ".").cps ++ (numT v.2.2).cps))).toList = _
  simp only [Array.toList_append, h, List.append_assoc, List.cons_append, List.nil_append, numC]
theorem nmC_cps (l : Str) (v : T3) : (nmC l v).cps.toList = l.cps.toList ++ (glC v).cps.toList := Array.toList_append
noncomputable def lc : Str := sQ "c"
noncomputable def lC : Str := sQ "C"
theorem lc_cps : lc.cps.toList = [99] := by decide +kernel
theorem lC_cps : lC.cps.toList = [67] := by decide +kernel
theorem sig_ok {c : Nat} (h : c = 45 ∨ (48 ≤ c ∧ c ≤ 57)) : okC c = true := by
  rcases h with rfl | h
  · rfl
  · simp [okC, h.1, h.2]
theorem numT_ok (a : Int) : ∀ c ∈ (numT a).cps.toList, okC c = true := fun c hc => sig_ok (numC_sig a c hc)
theorem glC_ok (v : T3) : ∀ c ∈ (glC v).cps.toList, okC c = true := by
  intro c hc
  rw [glC_cps] at hc
  simp only [List.mem_append, List.mem_cons] at hc
  rcases hc with hc | rfl | hc | rfl | hc
  · exact numT_ok _ c hc
  · rfl
  · exact numT_ok _ c hc
  · rfl
  · exact numT_ok _ c hc
theorem l_ok {l : Str} (hl : l = lc ∨ l = lC) : ∀ c ∈ l.cps.toList, okC c = true := by
  rcases hl with rfl | rfl
  · rw [lc_cps]; decide
  · rw [lC_cps]; decide
theorem nmC_ok {l : Str} (hl : l = lc ∨ l = lC) (v : T3) : ∀ c ∈ (nmC l v).cps.toList, okC c = true := by
  intro c hc
  rw [nmC_cps] at hc
  rcases List.mem_append.mp hc with hc | hc
  · exact l_ok hl c hc
  · exact glC_ok v c hc
theorem nmC_inj {v w : T3} (h : nmC lc v = nmC lc w) : v = w := by
  have h : (nmC lc v).cps.toList = (nmC lc w).cps.toList := by rw [h]
  rw [nmC_cps, nmC_cps, glC_cps, glC_cps] at h
  have h := List.append_cancel_left h
  have nd : ∀ a : Int, 46 ∉ numC a := fun a q => by
    have := numC_sig a 46 q; lia
  obtain ⟨e1, h⟩ := split_uniq (nd _) (nd _) h
  obtain ⟨e2, e3⟩ := split_uniq (nd _) (nd _) h
  exact Prod.ext (numC_inj e1) (Prod.ext (numC_inj e2) (numC_inj e3))
theorem okC_lt {c : Nat} (h : okC c = true) : c < 128 := by
  exact (by decide : ∀ c ∈ okL, c < 128) c (okC_mem h)
theorem low_ok {x : Str} (h : ∀ c ∈ x.cps.toList, okC c = true) : lowT x = ⟨x.cps.map lo1⟩ := lower_ascii fun c hc => okC_lt (h c hc)
theorem lo1_id {c : Nat} (h : okC c = true) (hne : c ≠ 67) : lo1 c = c := by
  exact (by decide : ∀ c ∈ okL, c ≠ 67 → lo1 c = c) c (okC_mem h) hne
theorem low_nm {l : Str} (hl : l = lc ∨ l = lC) (v : T3) : lowT (nmC l v) = nmC lc v := by
  rw [low_ok (nmC_ok hl v)]
  have hm : (glC v).cps.toList.map lo1 = (glC v).cps.toList := by
    rw [List.map_congr_left (g := id) fun c hc => ?_, List.map_id]
    refine lo1_id (glC_ok v c hc) ?_
    rw [glC_cps] at hc
    simp only [List.mem_append, List.mem_cons] at hc
    rcases hc with hc | rfl | hc | rfl | hc
    · have := numC_sig _ c hc; lia
    · decide
    · have := numC_sig _ c hc; lia
    · decide
    · have := numC_sig _ c hc; lia
  have : ((nmC l v).cps.map lo1) = (nmC lc v).cps := by
    apply Array.toList_inj.mp
    rw [Array.toList_map, nmC_cps, nmC_cps, List.map_append, hm]
    rcases hl with rfl | rfl
    · rw [lc_cps]; rfl
    · rw [lC_cps, lc_cps]; rfl
  rw [this]
theorem glC_len {v : T3} (h : v.1.natAbs < 10 ^ 10 ∧ v.2.1.natAbs < 10 ^ 10 ∧ v.2.2.natAbs < 10 ^ 10) : (glC v).length ≤ 35 := by
  have e1 := numC_len h.1
  have e2 := numC_len h.2.1
  have e3 := numC_len h.2.2
  show (glC v).cps.size ≤ 35
  rw [← Array.length_toList, glC_cps]
  simp only [List.length_append, List.length_cons]
  lia
theorem nmC_len {l : Str} (hl : l = lc ∨ l = lC) {v : T3} (h : v.1.natAbs < 10 ^ 10 ∧ v.2.1.natAbs < 10 ^ 10 ∧ v.2.2.natAbs < 10 ^ 10) : (nmC l v).cps.size ≤ 36 := by
  have e := glC_len h
  have e0 : l.length = 1 := by
    rcases hl with rfl | rfl <;> decide +kernel
  have : (nmC l v).length = l.length + (glC v).length := Array.size_append
  show (nmC l v).length ≤ 36
  lia
end
section
theorem inst_keep {h h' : Heap} {x Cc dx : Addr} {mA : Str → Option Value} (i : h.Inst x Cc mA) (hd : ∀ o, h.get? x = some o → o.dict = some dx) (k1 : ∀ o, h.get? x = some o → h'.get? x = some o) (k2 : ∀ o, h.get? dx = some o → h'.get? dx = some o) : h'.Inst x Cc mA := by
  obtain ⟨o, e, hc, hn, hdd⟩ := i
  refine ⟨o, k1 o e, hc, hn, ?_⟩
  rcases hdd with q | ⟨d, e2, hne, hns⟩
  · exact .inl q
  · have := hd o e
    rw [this] at e2; cases e2
    exact .inr ⟨dx, this, hne, hns.at k2⟩
theorem get_uniq {h : Heap} {a : Addr} {o o' : Obj} (e : h.get? a = some o) (e' : h.get? a = some o') : o = o' := Option.some.inj (e.symm.trans e')
inductive InstD (h : Heap) (T dx : Addr) : Prop where
  | mk {oT od : Obj} {es : Array DictEntry} {ep : Nat} (eT : h.get? T = some oT) (hc : oT.cls = .ref 272) (dT : oT.dict = some dx) (ne : dx ≠ T) (eD : h.get? dx = some od) (dD : od.data = .dict es ep)
theorem inst_d {h : Heap} {T dx : Addr} {mA : Str → Option Value} (i : h.Inst T 272 mA) (hd : ∀ o, h.get? T = some o → o.dict = some dx) : InstD h T dx := by
  obtain ⟨oT, eT, hc, _, hdic⟩ := i
  rcases hdic with ⟨q, _⟩ | ⟨dx', e', hne, od, es, ep, eD, hD, _⟩
  · exact nomatch q.symm.trans (hd oT eT)
  · cases e'.symm.trans (hd oT eT)
    exact .mk eT hc e' hne eD hD
theorem inst_keep2 {h h' : Heap} {x Cc dx : Addr} {oT od oT' od' : Obj} {mA : Str → Option Value} (i : h.Inst x Cc mA) (e1 : h.get? x = some oT) (hd : oT.dict = some dx) (e2 : h.get? dx = some od) (f1 : h'.get? x = some oT') (f2 : h'.get? dx = some od') (q1 : oT = oT' := by rfl) (q2 : od = od' := by rfl) : h'.Inst x Cc mA := by
  subst q1; subst q2
  exact inst_keep i (fun o e => get_uniq e1 e ▸ hd) (fun o e => get_uniq e1 e ▸ f1) fun o e => get_uniq e2 e ▸ f2
theorem no_tabC {o : Obj} {C : Addr} (h : o.cls = .ref C) (ps) : o ≠ tabObj ps := fun q => by rw [q] at h; cases h
theorem no_tabD {o : Obj} {es : Array DictEntry} {ep : Nat} (h : o.data = .dict es ep) (ps) : o ≠ tabObj ps := fun q => by rw [q] at h; cases h
theorem own_ne {Z : Fz} {h : Heap} {H T dx : Addr} {ds : List PV} (ho : Owned Z h (H, ds)) (i : InstD h T dx) : T ≠ H ∧ dx ≠ H := by
  obtain ⟨_, vs, m, e, _⟩ := ho
  have e : h.get? H = some { cls := .type "list", data := .seq vs.toArray m } := e
  obtain ⟨eT, hc, _, _, eD, hD⟩ := i
  constructor
  · rintro rfl
    rw [get_uniq eT e] at hc; cases hc
  · rintro rfl
    rw [get_uniq eD e] at hD; cases hD
section
variable {C : Cx}
noncomputable def twoK (T dx : Addr) (oT od : Obj) : Addr → Option Obj := fun b => if b = T then some oT else if b = dx then some od else none
theorem FSp.two {env : Env} {nm oc : List Str} {sc : List (Str × NameKind)} {X : Addr → Prop} {ρ : List (Option Vp)} {ω : List (Addr × List PV)} {Z : Fz} {s : Shared} {T dx : Addr} {oT od : Obj} (I : Inv C Z s) (H : FSp env nm oc sc X ρ ω (fun _ => none) Z s.heap) (hT : s.heap.get? T = some oT) (hD : s.heap.get? dx = some od) (zT : Z T = none) (zD : Z dx = none)
    (nT : ∀ ps, oT ≠ tabObj ps) (nD : ∀ ps, od ≠ tabObj ps) (XT : X T) (XD : X dx) (lT : T ≠ env.locals) (lD : dx ≠ env.locals) (hcl : env.cells = []) (wT : ∀ p ∈ ω, T ≠ p.1) (wD : ∀ p ∈ ω, dx ≠ p.1) : FSp env nm oc sc X ρ ω (twoK T dx oT od) Z s.heap := by
  refine ⟨H.names, H.gl, H.bl, H.cellH, H.fn, H.nodup, H.apart, H.loc, H.locX, H.locZ, H.cells, H.cellX, H.cof, H.vars, H.own, H.ownX, H.ownN, fun b o e => ?_, fun b o e => ?_⟩
  · unfold twoK at e
    split at e
    · rename_i q; cases e; subst q
      exact ⟨zT, hT, nT, lT, (fun n c hc => by rw [hcl] at hc; cases hc), wT⟩
    · split at e
      · rename_i q; cases e; subst q
        exact ⟨zD, hD, nD, lD, (fun n c hc => by rw [hcl] at hc; cases hc), wD⟩
      · cases e
  · unfold twoK at e
    split at e
    · rename_i q; subst q; exact XT
    · split at e
      · rename_i q; subst q; exact XD
      · cases e
theorem FSp.none_held {env : Env} {nm oc : List Str} {sc : List (Str × NameKind)} {X : Addr → Prop} {ρ : List (Option Vp)} {ω : List (Addr × List PV)} {κ : Addr → Option Obj} {Z : Fz} {h : Heap} (H : FSp env nm oc sc X ρ ω κ Z h) : FSp env nm oc sc X ρ ω (fun _ => none) Z h :=
  ⟨H.names, H.gl, H.bl, H.cellH, H.fn, H.nodup, H.apart, H.loc, H.locX, H.locZ, H.cells, H.cellX, H.cof, H.vars, H.own, H.ownX, H.ownN, (fun _ _ h => nomatch h), fun _ _ h => nomatch h⟩
inductive FinT (h0 : Heap) (T dx : Addr) (Z : Fz) (h : Heap) : Prop where
  | mk {Hd : Addr} {od oT : Obj} (ho : Owned Z h (Hd, [])) (h0' : h0.get? Hd = none) (hi : h.Inst T 272 (instM Hd)) (zT : Z T = none) (zD : Z dx = none) (eT : h.get? T = some oT) (ed : oT.dict = some dx) (eD : h.get? dx = some od) (nT : ∀ ps, oT ≠ tabObj ps) (nD : ∀ ps, od ≠ tabObj ps)
noncomputable def finA (C : Cx) (h0 : Heap) (T dx : Addr) : Asn C := ⟨FinT h0 T dx, fun I hh x => by
  obtain ⟨ho, h0', hi, zT, zD, eT, ed, eD, nT, nD⟩ := hh
  have kT := x.keep _ _ eT (fun q => q) (I.tab_fields eT nT)
  have kD := x.keep _ _ eD (fun q => q) (I.tab_fields eD nD)
  exact ⟨(ownAsn C _ []).stable I ho x, h0', inst_keep2 hi eT ed eD kT kD, x.stillNone zT eT (fun q => q), x.stillNone zD eD (fun q => q), kT, ed, kD, nT, nD⟩⟩
theorem headers_call (K : HdrK C) {n : Nat} {A : Around} {s : Shared} {Z : Fz} {Q : Value → Shared → Prop} {E : Value → Shared → Prop} (hA : Room (n + 3) A) (I : Inv C Z s)
    (k : ∀ T H Z' s', Step C Z s Z' s' → s.heap.get? H = none → Owned Z' s'.heap (H, []) → (tabV H).at_ Z' (.ref T) → Q (.ref T) s') : wpAny (model C.prog C.w) A (call (.ref 272) []) Q E s := by
  obtain ⟨mN, N⟩ := K.ns
  obtain ⟨k2, k3, hC⟩ := K.cls
  obtain ⟨doc, pm, c, hfo, hcd⟩ := K.init
  have kb : ∀ {b o}, C.Z0 b = some o → s.heap.get? b = some o := fun e => I.heap _ _ (I.base _ _ e)
  have t1 := K.type
  have t2 := K.list
  obtain ⟨h, g, d, t, os⟩ := s
  refine wpAny_call_obj_init F.objNew (kb hC) (N.at_ _ fun b o e => kb e) N.ini (kb hfo) rfl fun h' T dx hm => ?_
  have x0 : Step C Z ⟨h, g, d, t, os⟩ Z ⟨h', g, d, t, os⟩ := .keeps I hm.keeps
  have hA1 : Room (n + 2) (A.under (.builtin "type.__call__" ⟨[.ref 272], []⟩)) := ⟨by
    have := hA.depth; show A.depth + (Code.builtin "type.__call__" ⟨[.ref 272], []⟩).weight + _ ≤ _
    have : (Code.builtin "type.__call__" ⟨[.ref 272], []⟩).weight = 1 := by decide +kernel
    lia, by
    have := hA.units; show A.units + (Code.builtin "type.__call__" ⟨[.ref 272], []⟩).cUnits + _ ≤ _
    have : (Code.builtin "type.__call__" ⟨[.ref 272], []⟩).cUnits ≤ 8 := by decide +kernel
    lia, hA.handled⟩
  refine clo_enterW (n := n) (args := ⟨[.ref T], []⟩) (vs := [.ref T, .none]) (fd := mFd (mthSt pw 77 0) (sQ "Headers.__init__") (.ref 157) doc pm (.ref c)) (xs := [sQ "self", sQ "headers"]) (oc := [sQ "self", sQ "headers", sQ "k", sQ "v"])
    (nm := [sQ "self", sQ "headers", sQ "k", sQ "v"]) (ρ := [some (isv (.ref T)), some (is .none), none, none]) (ω := []) (sc := scOf (mthSt pw 77 0)) (Q := fun r s' => r = .none ∧ Q (.ref T) s') K.q x0.inv hA1 (x0.inv.base _ _ hfo) rfl rfl (hcd.le x0.inv.base) rfl rfl rfl rfl rfl (BindsTo.of_defaults rfl (x0.inv.heap _ _ (x0.inv.base _ _ K.initD)) rfl rfl rfl) rfl rfl rfl (by decide +kernel) List.Pairwise.nil (fun _ _ h => nomatch h)
    (fun a => h.get? a = none) (fun a ha => (x0.gone ha).elim id fun q => q.elim) (fun _ h => nomatch h) (fun _ h => nomatch h) List.Pairwise.nil ?_ ?_ rfl rfl rfl
  · intro L h₂ hn hk
    exact .va ⟨by decide +kernel, .inl ⟨rfl, _, hn, rfl⟩⟩ rfl (.va ⟨by decide +kernel, .inl ⟨rfl, _, hn, rfl⟩⟩ .none (.un (.un .nil)))
  · intro L A' s₁ E' hA' I₁ st hL H0
    have i0 := inst_d hm.inst hm.dict
    obtain @⟨oT, od, es, ep, eT, hcT, edx, hneD, eD, hdD⟩ := i0
    have nT := no_tabC hcT
    have nD := no_tabD hdD
    have zT : Z T = none := I.fresh hm.newX
    have zD : Z dx = none := I.fresh hm.newD
    have eT1 := st.keep _ _ eT (fun q => q) (x0.inv.tab_fields eT nT)
    have eD1 := st.keep _ _ eD (fun q => q) (x0.inv.tab_fields eD nD)
    have lT : T ≠ L := fun q => by rw [q] at eT; rw [hL] at eT; cases eT
    have lD : dx ≠ L := fun q => by rw [q] at eD; rw [hL] at eD; cases eD
    have H1 := H0.two I₁ eT1 eD1 zT zD nT nD hm.newX hm.newD lT lD rfl (fun _ h => nomatch h) (fun _ h => nomatch h)
    refine eg_run (RA := fun Z h v => False) (finA C h T dx) ?_ hA' I₁ H1 (fun Z' s' x' H' => ?_) fun v Z' s' x' ra => ra.elim
    rotate_left
    · obtain @⟨Hd, od', oT', ho, h0', hi, zT', zD', eT', ed', eD', nT', nD'⟩ := H'
      refine ⟨rfl, ?_⟩
      have xx : Step C Z ⟨h, g, d, t, os⟩ Z' s' := (((Step.to x0).trans (Step.to st)).trans x').hide fun b hb => hb
      have f1 := StepX.freeze (X := fun b => b = T ∨ b = dx) x'.inv (.inl rfl) zT' eT' (x'.inv.tab_fields eT' nT')
      have zD'' : put Z' T oT' dx = none := by rw [put_ne hneD]; exact zD'
      have f2 := StepX.freeze (X := fun b => b = T ∨ b = dx) f1.inv (.inr rfl) zD'' eD' (x'.inv.tab_fields eD' nD')
      have ff : Step C Z ⟨h, g, d, t, os⟩ _ s' := (((xx.to).trans f1).trans f2).hide fun b hb => by
        rcases hb with rfl | rfl
        · exact hm.newX
        · exact hm.newD
      have nH := own_ne ho (inst_d hi fun o e => get_uniq eT' e ▸ ed')
      refine k T Hd _ s' ff h0' ?_ ⟨T, rfl, fun h2 k2 => ?_⟩
      · obtain ⟨z, vs, m, e, r⟩ := ho
        refine ⟨?_, vs, m, e, r.le (f1.le.trans f2.le)⟩
        rw [put_ne (Ne.symm nH.2), put_ne (Ne.symm nH.1)]; exact z
      · exact inst_keep2 hi eT' ed' eD' (k2 _ _ (by rw [put_ne (Ne.symm hneD)]; exact put_self)) (k2 _ _ put_self)
    · clear H0 H1
      apply eg_new (ρ' := fun Hd => [some (isv (.ref T)), some (isv (.ref Hd)), none, none]) (ds := [])
      · apply evn_ifexpF
        · apply tv_cmp
          · walk_at "ev"
          · walk_at "ev"
          · exact op_isnot_nn
          · exact rfl
        · apply evn_listL
          · walk_at "ev"
          · walk_at "at"
          · exact Nat.le_of_ble_eq_true rfl
      · intro Hd; exact .there .here
      · exact ⟨by decide +kernel, by decide +kernel⟩
      · exact rfl
      · exact rfl
      · intro Hd
        apply eg_ifs (c := false)
        · apply tv_cmp
          · apply ev_type_own (ds := []) t1
            · walk_at "at"
            · exact .head _
            · exact rfl
          · exact ev_blt t2 rfl rfl
          · exact op_isnot_type
          · exact rfl
        · intro h; cases h
        · intro _
          show EXG _ _ _ _ (execs (_ :: _) _) _ _
          intro A s Z Q E hA I Hf kn kr
          refine wpAny_execs_cons (plainObj_wpAny_Assign_Attribute (ev_name (n := n + 1) (At.there At.here) A s Z _ E hA I Hf fun v Z₂ s₂ x₂ pv => ?_))
          cases pv
          have H2 := (FS C _ _ _ _ _ _ _ _).stable I Hf x₂
          refine ev_name (n := n + 1) At.here A s₂ Z₂ _ E hA x₂.inv H2 fun v Z₃ s₃ x₃ pv => ?_
          cases pv
          have H3 := (FS C _ _ _ _ _ _ _ _).stable x₂.inv H2 x₃
          have hT3 := H3.held T oT (if_pos rfl)
          have hD3 := H3.held dx od (by unfold twoK; rw [if_neg hneD, if_pos rfl])
          have hi3 : s₃.heap.Inst T 272 (fun _ => none) := inst_keep2 hm.inst eT edx eD hT3.at_ hD3.at_
          have hTC : T ≠ 272 := fun q => by have e1 := kb hC; have e2 := hm.newX; rw [q, e1] at e2; cases e2
          have kb3 : ∀ b o, C.Z0 b = some o → s₃.heap.get? b = some o := fun b o e => x₃.inv.heap _ _ (x₃.inv.base _ _ e)
          have I3 := x₃.inv
          obtain ⟨h3, g3', d3, t3, os3⟩ := s₃
          refine store_attr F.store_object (kb3 _ _ hC) (N.at_ _ kb3) N.sa N.hd lk_headers hTC hi3 (fun h4 tk4 hi4 hk4 hT4 => ?_)
          obtain ⟨oT4, eT4, hcT4, hdT4, hsT4, hddT4⟩ := hT4 oT hT3.at_
          have edx4 := hddT4 dx edx
          obtain @⟨oT5, od4, es4, ep4, eT5, hcT5, _, hneD5, eD4, hdD4⟩ := inst_d hi4 fun o e => get_uniq eT4 e ▸ edx4
          have hk4' : ∀ b o, ¬ (b = T ∨ b = dx) → h3.get? b = some o → h4.get? b = some o := fun b o hb e => hk4 b o (fun q => hb (.inl q)) (fun o₀ dx' e0 e1 q => hb (.inr (q.trans (Option.some.inj (e1.symm.trans (get_uniq hT3.at_ e0 ▸ edx)))))) e
          have x4 : StepX C (fun b => b = T ∨ b = dx) Z₃ ⟨h3, g3', d3, t3, os3⟩ Z₃ ⟨h4, g3', d3, tk4, os3⟩ := StepX.writes (t := tk4) I3 (W := fun b => b = T ∨ b = dx) (fun _ q => q) hk4' (fun b q => by rcases q with rfl | rfl; exact hT3.z; exact hD3.z) fun b q => by
            rcases q with rfl | rfl
            · exact I3.tab_fields hT3.at_ nT
            · exact I3.tab_fields hD3.at_ nD
          have H4 := H3.none_held.stepY I3 x4 (fun q => by rcases q with q | q; exact hT3.loc q.symm; exact hD3.loc q.symm) (fun n c hc => by cases hc) (fun p hp q => by rcases q with q | q; exact hT3.own p hp q.symm; exact hD3.own p hp q.symm) (fun _ _ h => nomatch h) (fun b q => by
            rcases q with rfl | rfl
            · exact ⟨_, eT4⟩
            · exact ⟨_, eD4⟩)
          have nT4 := no_tabC (hcT4.trans hcT)
          have nD4 := no_tabD hdD4
          have H5 := H4.two x4.inv eT4 eD4 hT3.z hD3.z nT4 nD4 hm.newX hm.newD hT3.loc hD3.loc rfl hT3.own hD3.own
          have xx : StepX C (fun a => h.get? a = none) Z s Z₃ ⟨h4, g3', d3, tk4, os3⟩ := ((Step.to x₂).trans (Step.to x₃)).trans (x4.mono fun b q => by
            rcases q with rfl | rfl
            · exact hm.newX
            · exact hm.newD)
          have hHd : h.get? Hd = none := Hf.ownX _ (.head _)
          refine eg_run (RA := fun Z h v => False) (finA C h T dx) ?_ hA x4.inv H5 (fun Z' s' x' H' => kn Z' s' (xx.trans x') H') fun v Z' s' x' ra => ra.elim
          apply eg_ifs (tv_bool ev_bool (by intro _; rfl))
          · intro _
            show EXG _ _ _ _ (execs (_ :: _) _) _ _
            apply eg_cons
            · apply ex_for0
              · walk_at "at"
              · exact .head _
              · intro _; rfl
            apply eg_end
            intro Z h5 H
            have hT5 := H.held T oT4 (if_pos rfl)
            have hD5 := H.held dx od4 (by unfold twoK; rw [if_neg hneD, if_pos rfl])
            exact ⟨H.own _ (.head _), hHd, inst_keep2 (mA := instM Hd) hi4 eT4 edx4 eD4 hT5.at_ hD5.at_, hT5.z, hD5.z, hT5.at_, edx4, hD5.at_, nT4, nD4⟩
          · intro h; cases h
theorem evn_headers (K : HdrK C) {n : Nat} {X : Addr → Prop} {env : Env} {nm oc : List Str} {sc : List (Str × NameKind)} {ω : List (Addr × List PV)} {κ : Addr → Option Obj} {ρ : List (Option Vp)} {p pos : Pos} (hk : sc.lookup (sQ "Headers") = some .globalImplicit) :
    EVN C (n + 3) (FS C env nm oc sc X ρ ω κ) (eval (.Call (.Name (sQ "Headers") p) [] [] pos) env) (fun H => tabV H) [] := fun A s Z Q E hA I Hh k => by
  refine wpAny_Call_NameR (ev_glob (n := n + 3) K.glob hk (by decide) A s Z _ E hA I Hh fun v Z₁ s₁ x₁ pv => ?_)
  cases pv
  obtain ⟨mN, N⟩ := K.ns
  obtain ⟨k2, k3, hC⟩ := K.cls
  have kb : ∀ b o, C.Z0 b = some o → s₁.heap.get? b = some o := fun b o e => x₁.inv.heap _ _ (x₁.inv.base _ _ e)
  refine callWith_cls0 (h₀ := s₁.heap) (C := 272) (N := 271) (mN := mN) ⟨⟨_, _, _, _, _, _, _, _, _, _, _, _, kb _ _ hC⟩, N.at_ _ kb⟩ (fun _ _ e => e) ?_
  exact headers_call K hA x₁.inv fun T H Z₂ s₂ x₂ hf ho ht => k H _ Z₂ s₂ (x₁.trans x₂) ((x₁.gone hf).elim id fun q => q.elim) ho ht
theorem ev_vals (K : HdrK C) {n : Nat} {X : Addr → Prop} {env : Env} {nm oc : List Str} {sc : List (Str × NameKind)} {ω : List (Addr × List PV)} {κ : Addr → Option Obj} {ρ : List (Option Vp)} {x : Str} {p1 apos pos : Pos} {hs : List (Str × Str)} (hr : At nm ρ x (tabF (hs.map hpV))) (hsz : hs.length ≤ sizeLine)
    (hbase : attributeBase (.Name x p1) (sQ "values") env (eval (.Name x p1) env) = eval (.Name x p1) env := by rfl) (hline : (apos.endLine == pos.line) = true := by rfl) :
    EV C (n + 3) (FS C env nm oc sc X ρ ω κ) (eval (.Call (.Attribute (.Name x p1) (sQ "values") apos) [] [] pos) env) (is (.list (hs.map fun p => .str p.2))) := fun A s Z Q E hA I Hh k => by
  obtain ⟨mN, N⟩ := K.ns
  obtain ⟨doc, pm, c, hfo, hcd⟩ := K.vals
  refine call_own hbase rfl hline (ev_name (n := n + 3) hr A s Z _ E hA I Hh fun v Z₁ s₁ x₁ pv => ?_)
  have pv0 := pv
  obtain ⟨T, H, rfl, ht, _⟩ := pv
  refine ⟨T, 229, { cls := .type "function", data := .func (mFd (mthSt pw 77 10) (sQ "Headers.values") .none doc pm (.ref c)) }, mFd (mthSt pw 77 10) (sQ "Headers.values") .none doc pm (.ref c), rfl, rfl, fun E' Q' pl q => inst_meth K x₁.inv (H := H) N N.vals hfo lk_vals (instM_none (by decide +kernel)) ht q, ?_⟩
  refine evalArgs_nil3 ⟨x₁.inv.heap _ _ (x₁.inv.base _ _ hfo), ?_⟩
  have hsat : Sat Z₁ [.ref T] [tabF (hs.map hpV)] := .cons pv0 .nil
  exact (fn_vals K hsz).le (by lia : 3 ≤ n + 3) A s₁ Z₁ [.ref T] Q E hA x₁.inv hsat.length hsat.get fun u Z₃ s₃ x₃ pu => k u Z₃ s₃ (x₁.trans x₃) pu
inductive Rtb (a : Addr) (ds : List PV) : List (Option Vp) → List (Option Vp) → Prop where
  | nil : Rtb a ds [] []
  | same {o : Option Vp} {ρ ρ' : List (Option Vp)} (r : Rtb a ds ρ ρ') : Rtb a ds (o :: ρ) (o :: ρ')
  | it {ρ ρ' : List (Option Vp)} (r : Rtb a ds ρ ρ') : Rtb a ds (some (tabV a) :: ρ) (some (tabF ds) :: ρ')
theorem Rtb.ix {a : Addr} {ds : List PV} {ρ ρ' : List (Option Vp)} (R : Rtb a ds ρ ρ') (i : Nat) (P : Vp) (e : ρ'[i]? = some (some P)) : ρ[i]? = some (some P) ∨ (ρ[i]? = some (some (tabV a)) ∧ P = tabF ds) := by
  induction R generalizing i with
  | nil => cases e
  | same _ ih =>
    cases i with
    | zero => exact .inl e
    | succ i => exact ih i e
  | it _ ih =>
    cases i with
    | zero => cases e; exact .inr ⟨rfl, rfl⟩
    | succ i => exact ih i e
theorem Vars.rtb {env : Env} {Z : Fz} {a : Addr} {ds : List PV} (hd : Rd Z (.ref a) (.list ds)) {nm : List Str} {ρ ρ' : List (Option Vp)} (R : Rtb a ds ρ ρ') {h : Heap} (H : Vars env Z h nm ρ) : Vars env Z h nm ρ' := fun i x P e1 e2 => by
  rcases R.ix i P e2 with e | ⟨e, rfl⟩
  · exact H i x P e1 e
  · obtain ⟨v, hv, T, e, i⟩ := H i x _ e1 e
    exact ⟨v, hv, T, a, e, i, hd⟩
theorem Rfz.all_same {a : Addr} {ds : List PV} : ∀ ρ : List (Option Vp), Rfz a ds ρ ρ
  | [] => .nil
  | _ :: ρ => .same (Rfz.all_same ρ)
theorem ex_freezeT {n : Nat} {X : Addr → Prop} {env : Env} {nm oc : List Str} {sc : List (Str × NameKind)} {ω ω' : List (Addr × List PV)} {κ : Addr → Option Obj} {ρ ρ' : List (Option Vp)} {a : Addr} {ds : List PV} {Ψ : Asn C} {R : Vp} {rest : List Stmt} (u : OF ω a ds ω') (q : Rtb a ds ρ ρ') (k : EX C n X (FS C env nm oc sc X ρ' ω' κ) (execs rest env) Ψ R) :
    EX C n X (FS C env nm oc sc X ρ ω κ) (execs rest env) Ψ R := fun A s Z Q E hA I H kn kr => by
  obtain ⟨Z', st, H', hr⟩ := H.freeze I u (Rfz.all_same ρ)
  have H'' : FSp env nm oc sc X ρ' ω' κ Z' s.heap := ⟨H'.names, H'.gl, H'.bl, H'.cellH, H'.fn, H'.nodup, H'.apart, H'.loc, H'.locX, H'.locZ, H'.cells, H'.cellX, H'.cof, Vars.rtb hr q H'.vars, H'.own, H'.ownX, H'.ownN, H'.held, H'.heldX⟩
  exact k A s Z' Q E hA st.inv H'' (fun Z₂ s₂ x₂ H₂ => kn Z₂ s₂ (st.trans x₂) H₂) fun v Z₂ s₂ x₂ r => kr v Z₂ s₂ (st.trans x₂) r
end
end
section
local macro_rules | `(tactic| walk_at "def") => `(tactic| fail)
noncomputable def mtc (x : Str) (p : Str × Str) : Bool := lowT p.1 == lowT x
noncomputable def getF (hs : List (Str × Str)) (x : Str) : Option Str := (hs.find? (mtc x)).map (·.2)
noncomputable def optP : Option Str → PV
  | none => .none
  | some s => .str s
theorem getF_hit {hs : List (Str × Str)} {x : Str} {i : Nat} {p : Str × Str} (h : (hs.take i).any (mtc x) = false) (e : hs[i]? = some p) (hm : mtc x p = true) : getF hs x = some p.2 := by
  have hlt := (List.getElem?_eq_some_iff.mp e).1
  have hd : hs = hs.take i ++ p :: hs.drop (i + 1) := by
    have := List.getElem?_eq_some_iff.mp e
    rw [← this.2, List.getElem_cons_drop, List.take_append_drop]
  have hn : (hs.take i).find? (mtc x) = none := by
    rw [List.find?_eq_none]
    intro q hq hq'
    have := List.any_eq_false.mp h q hq
    exact this hq'
  unfold getF
  rw [hd, List.find?_append, hn, List.find?_cons, hm]; rfl
theorem getF_none {hs : List (Str × Str)} {x : Str} (h : hs.any (mtc x) = false) : getF hs x = none := by
  unfold getF
  rw [List.find?_eq_none.mpr]; rfl
  intro q hq hq'
  exact List.any_eq_false.mp h q hq hq'
section
variable {C : Cx}
theorem lk_get : typeLookup (.type "object") (sQ "get") = pure none := by rw [typeLookup_type, builtinLookup_eq_fast]; kernel_rfl
theorem lk_setd : typeLookup (.type "object") (sQ "setdefault") = pure none := by rw [typeLookup_type, builtinLookup_eq_fast]; kernel_rfl
theorem tl_ok {y : Str} (h : (lowT y).cps.size ≤ 1000) : Builtin.Str.tooLong (placed y fun i _ => Unicode.lowerAt y.cps i).size = false := by
  unfold Builtin.Str.tooLong
  rw [decide_eq_false_iff_not, sizeLine_eq]
  have h' : (placed _ fun i _ => Unicode.lowerAt _ i).size ≤ 1000 := h
  lia
theorem fn_get (K : HdrK C) {hs : List (Str × Str)} {x : Str} (hsz : hs.length ≤ sizeLine) (hx0 : (lowT x).cps.size ≤ 1000) (hno : noHit codeN (lowT x).cps 0 = true) (hlow : ∀ p ∈ hs, (lowT p.1).cps.size ≤ 1000) :
    FN C 3 (.ref 219) [tabF (hs.map hpV), is (.str x)] (is (optP (getF hs x))) := fun A s Z vs Q E hA I hl hp k => by
  obtain ⟨doc, pm, c, hfo, hcd⟩ := K.get
  obtain ⟨a, b, rfl⟩ := len2 hl
  have pa : (tabF (hs.map hpV)).at_ Z a := hp 0 a _ rfl rfl
  have pb : (is (.str x)).at_ Z b := hp 1 b _ rfl rfl
  refine clo_enterA (n := 1) (args := ⟨[a, b], []⟩) (vs := [a, b, .none]) (fd := mFd (mthSt pw 77 8) (sQ "Headers.get") (.ref 212) doc pm (.ref c)) (xs := [sQ "self", sQ "name", sQ "default"]) (oc := [sQ "self", sQ "name", sQ "default", sQ "k", sQ "v"])
    (nm := [sQ "self", sQ "name", sQ "default", sQ "k", sQ "v"]) (ρ := [some (tabF (hs.map hpV)), some (is (.str x)), some (is .none), none, none]) (ω := []) (sc := scOf (mthSt pw 77 8)) K.q I hA (I.base _ _ hfo) rfl rfl (hcd.le I.base) rfl rfl rfl rfl rfl (BindsTo.of_defaults rfl (I.heap _ _ (I.base _ _ K.getD)) rfl rfl rfl) rfl rfl rfl (by decide +kernel) List.Pairwise.nil (fun _ _ h => nomatch h) (fun _ h => nomatch h) List.Pairwise.nil ?_ ?_ rfl rfl rfl
  · intro L h' hn hk
    exact .va ⟨by decide +kernel, .inl ⟨rfl, _, hn, rfl⟩⟩ pa (.va ⟨by decide +kernel, .inl ⟨rfl, _, hn, rfl⟩⟩ pb (.va ⟨by decide +kernel, .inl ⟨rfl, _, hn, rfl⟩⟩ .none (.un (.un .nil))))
  · intro L X A' s₁ E' hA' I₁ st hX H
    have hex : ∀ env, env = callEnv (mFd (mthSt pw 77 8) (sQ "Headers.get") (.ref 212) doc pm (.ref c)) L 219 → EX C 2 X (FS C env [sQ "self", sQ "name", sQ "default", sQ "k", sQ "v"] [sQ "self", sQ "name", sQ "default", sQ "k", sQ "v"] (scOf (mthSt pw 77 8)) X [some (tabF (hs.map hpV)), some (is (.str x)), some (is .none), none, none] [] (fun _ => none)) (execs (bodyOf (mthSt pw 77 8)) env) (botA C) (is (optP (getF hs x))) := by
      intro env he
      apply ex_cons
      · apply ex_assign
        · apply ev_convk K (b := true) (x := lowT x) (fun _ _ h => tabF_tabV h)
          · walk_at "ev"
          · apply ev_meth0
            · walk_at "ev"
            · exact hasM_lower
            · exact fn_lower (tl_ok hx0)
            · exact rfl
            · exact rfl
          · lia
          · exact hno
        · walk_at "at"
        · decide +kernel
        · decide +kernel
        · rw [he]; exact rfl
      apply exs_for (ρs := fun i => [some (tabF (hs.map hpV)), some (is (.str (lowT x))), if (hs.take i).any (mtc x) = true then some offV else some (is .none), none, none]) (ωs := fun i => []) rfl rfl
      · apply it_list
        apply ev_hdrF K
        walk_at "at"
      · intro i; rfl
      · intro κ' i d hd
        rw [List.getElem?_map] at hd
        cases hki : hs[i]? with
        | none => rw [hki] at hd; cases hd
        | some p =>
          rw [hki] at hd; cases hd
          by_cases hh : (hs.take i).any (mtc x) = true
          · rw [if_pos hh]
            apply ex_mk
            · walk_at "at"
            exact ex_off (.there (.there .here))
          · rw [if_neg hh]
            have hh : (hs.take i).any (mtc x) = false := by simpa using hh
            apply ex_mk
            · walk_at "at"
            apply ex_ifs (c := mtc x p)
            · apply tv_eq
              · apply tv_cmp
                · apply ev_meth0
                  · walk_at "ev"
                  · exact hasM_lower
                  · exact fn_lower (tl_ok (hlow p (List.mem_of_getElem? hki)))
                  · exact rfl
                  · exact rfl
                · walk_at "ev"
                · walk_at "op"
                · exact rfl
              · rfl
            · intro hm
              rw [getF_hit hh hki hm]
              apply ex_ret
              apply ev_d
              · walk_at "ev"
              · rfl
            · intro hm
              have : (hs.take (i + 1)).any (mtc x) = false := by
                rw [List.take_add_one, hki, List.any_append, hh]
                simp [hm]
              rw [if_neg (by rw [this]; decide)]
              apply ex_fgt
              walk_at "fgtd"
      · rw [List.length_map, List.take_length]
        by_cases hh : hs.any (mtc x) = true
        · rw [if_pos hh]
          exact ex_off (.there (.there .here))
        · rw [if_neg hh, getF_none (by simpa using hh)]
          apply ex_ret
          apply ev_d
          · walk_at "ev"
          · rfl
    exact hex _ rfl A' s₁ Z _ E' hA' I₁ H (fun _ _ _ h => h.elim) fun v Z' s' x' r => k v Z' s' (((Step.to st).trans x').hide fun b hb => (hX b hb).elim id fun q => nomatch q) r
end
end
section
local macro_rules | `(tactic| walk_at "def") => `(tactic| fail)
section
variable {C : Cx}
theorem borrow {Z : Fz} {s : Shared} {H : Addr} {hs : List PV} (I : Inv C Z s) (ho : Owned Z s.heap (H, hs)) : ∃ Z1, Le Z Z1 ∧ Inv C Z1 s ∧ Rd Z1 (.ref H) (.list hs) ∧
    ∀ Z' s', Step C Z1 s Z' s' → ∃ Z2, Step C Z s Z2 s' ∧ (∀ v x, Rd Z' v (optP x) → Rd Z2 v (optP x)) := by
  obtain ⟨hz, vs, m, e, r⟩ := ho
  replace hz : Z H = none := hz
  replace e : s.heap.get? H = some { cls := .type "list", data := .seq vs.toArray m } := e
  have ht : ∀ t ∈ C.tabs, H ≠ t.1 := I.tab_fields e fun ps q => by cases q
  have st := StepX.freeze (X := fun b => b = H) I rfl hz e ht
  refine ⟨_, st.le, st.inv, .list (n := m) (put_self (Z := Z)) (r.le st.le), fun Z' s' x => ⟨fun b => if b = H then none else Z' b, ?_, ?_⟩⟩
  · have hl : Le Z (fun b => if b = H then none else Z' b) := fun b o eb => by
      have hne : b ≠ H := fun q => by rw [q, hz] at eb; cases eb
      show (if b = H then none else Z' b) = _
      rw [if_neg hne]
      exact x.le _ _ (st.le _ _ eb)
    have out : ∀ b o, (if b = H then none else Z' b) = some o → b ≠ H ∧ Z' b = some o := fun b o eb => by
      by_cases q : b = H
      · rw [if_pos q] at eb; cases eb
      · rw [if_neg q] at eb; exact ⟨q, eb⟩
    refine ⟨hl, fun b o eb => ?_, fun b o eb hX ht => x.keep b o eb hX ht, x.rest, ⟨I.base.trans hl, fun b o eb => x.inv.heap b o (out b o eb).2, fun t ht => ?_, fun t ht => ?_⟩⟩
    · obtain ⟨hne, eb⟩ := out b o eb
      rcases x.new b o eb with h | h | h
      · rw [put_ne hne] at h; exact .inl h
      · exact .inr (.inl h)
      · exact h.elim
    · obtain ⟨ps, e1, e2⟩ := x.inv.tabs t ht
      refine ⟨ps, e1, e2.imp id fun ⟨c', e3, o, ws, tt, e4, e5, e6⟩ => ⟨c', e3, o, ws, tt, ?_, e5, e6⟩⟩
      show (if c' = H then none else Z' c') = _
      rw [if_neg fun q => ?_]
      · exact e4
      · have := x.le _ _ (put_self (Z := Z) (a := H) (o := { cls := .type "list", data := .seq vs.toArray m }))
        rw [← q, e4] at this
        cases this; cases e5
    · show (if t.1 = H then none else Z' t.1) = _
      split
      · rfl
      · exact x.inv.off t ht
  · intro v y h
    cases y with
    | none => cases h; exact .none
    | some y => cases h; exact .str _ _
theorem inst_meth2 (K : HdrK C) {Z : Fz} {s : Shared} (I : Inv C Z s) {H T f : Addr} {fd : FuncData} {mN : Str → Option Value} {name : Str} {y : Option Value} (N : NsZ C 271 mN) (ga : mN "__getattribute__" = none) (gh : mN "__getattr__" = none) (hf : mN name = some (.ref f))
    (hfo : C.Z0 f = some { cls := .type "function", data := .func fd }) (hB : typeLookup (.type "object") name = pure y) (hsh : instM H name = none) (ht : ∀ h : Heap, (∀ b o, Z b = some o → h.get? b = some o) → h.Inst T 272 (instM H))
    {A : Around} {E : Value → Shared → Prop} {Q : Value × List Value → Shared → Prop} {pl : Sem Bool} (q : Q (.ref f, [.ref T]) s) : wpAny (model C.prog C.w) A (getMethod (.ref T) name pl) Q E s := by
  obtain ⟨k2, k3, hC⟩ := K.cls
  have kb : ∀ b o, C.Z0 b = some o → s.heap.get? b = some o := fun b o e => I.heap _ _ (I.base _ _ e)
  obtain ⟨h, g, d, t, os⟩ := s
  exact method_of (kb _ _ hC) (N _ kb) ga gh hf (kb _ _ hfo) rfl hB (ht _ I.heap) hsh q
theorem get_call (K : HdrK C) {n : Nat} {env : Env} {o e1 : Expr} {apos pos : Pos} {A : Around} {s : Shared} {Z : Fz} {Q : Value → Shared → Prop} {E : Value → Shared → Prop} {name : Str} {f : Addr} {fd : FuncData} {Φ : Asn C} {H : Addr} {d : PV}
    (hA : Room n A) (I : Inv C Z s) (Hh : Φ.at_ Z s.heap) (ho : EV C n Φ (eval o env) (tabV H)) (he : EL C n Φ (spliced (backTo pos (starEach [e1] env))) [is d])
    (hf : ∃ mN, NsZ C 271 mN ∧ mN "__getattribute__" = none ∧ mN "__getattr__" = none ∧ mN name = some (.ref f)) (hfo : C.Z0 f = some { cls := .type "function", data := .func fd }) (hB : typeLookup (.type "object") name = pure none) (hsh : instM H name = none)
    (k : ∀ T v Z' s', Step C Z s Z' s' → Φ.at_ Z' s'.heap → (tabV H).at_ Z' (.ref T) → Rd Z' v d → wpAny (model C.prog C.w) A (call (.ref f) [.ref T, v]) Q E s')
    (hbase : attributeBase o name env (eval o env) = eval o env := by rfl) (hline : (apos.endLine == pos.line) = true := by rfl)
    (hform : methodCallForm (([e1] : List Expr).length + ([] : List Keyword).length) (backTo pos (starEach [e1] env)) (backToKw pos (keywordEach [] env)) = true := by rfl) (hst : starEach [e1] env = (false, eval e1 env) :: starEach [] env := by rfl) :
    wpAny (model C.prog C.w) A (eval (.Call (.Attribute o name apos) [e1] [] pos) env) Q E s := by
  obtain ⟨mN, N, ga, gh, hm⟩ := hf
  refine call_own hbase hform hline (ho A s Z _ E hA I Hh fun v Z₁ s₁ x₁ pv => ?_)
  have H₁ := Φ.stable I Hh x₁
  have pv0 := pv
  obtain ⟨T, rfl, ht⟩ := pv
  refine ⟨T, f, { cls := .type "function", data := .func fd }, fd, rfl, rfl, fun E' Q' pl q => inst_meth2 K x₁.inv (H := H) N ga gh hm hfo hB hsh ht q, ?_⟩
  have he' := he A s₁ Z₁
  rw [hst] at he' ⊢
  refine Calls.evalArgs_plain (he' _ E hA x₁.inv H₁ fun vs Z₂ s₂ x₂ ps => ⟨x₂.inv.heap _ _ (x₂.inv.base _ _ hfo), ?_⟩)
  obtain ⟨v1, _, rfl, r1, ps⟩ := sati ps
  obtain rfl := sati ps
  exact k T v1 Z₂ s₂ (x₁.trans x₂) (Φ.stable x₁.inv H₁ x₂) (Vp.mono _ x₂.le pv0) r1
theorem tabF_of {Z Z1 : Fz} {H : Addr} {hs : List PV} {v : Value} (h : (tabV H).at_ Z v) (k : Le Z Z1) (r : Rd Z1 (.ref H) (.list hs)) : (tabF hs).at_ Z1 v := by
  obtain ⟨T, rfl, ht⟩ := h
  exact ⟨T, H, rfl, fun h k' => ht h fun b o e => k' b o (k b o e), r⟩
theorem ev_get_own (K : HdrK C) {n : Nat} {X : Addr → Prop} {env : Env} {nm oc : List Str} {sc : List (Str × NameKind)} {ω : List (Addr × List PV)} {κ : Addr → Option Obj} {ρ : List (Option Vp)} {x : Str} {p1 apos pos : Pos} {e1 : Expr} {hs : List (Str × Str)} {a : Str} {H : Addr}
    (hr : At nm ρ x (tabV H)) (hm : (H, hs.map hpV) ∈ ω) (he : EL C (n + 3) (FS C env nm oc sc X ρ ω κ) (spliced (backTo pos (starEach [e1] env))) [is (.str a)])
    (hsz : hs.length ≤ sizeLine) (hx : (lowT a).cps.size ≤ 1000) (hno : noHit codeN (lowT a).cps 0 = true) (hlow : ∀ p ∈ hs, (lowT p.1).cps.size ≤ 1000)
    (hbase : attributeBase (.Name x p1) (sQ "get") env (eval (.Name x p1) env) = eval (.Name x p1) env := by rfl) (hline : (apos.endLine == pos.line) = true := by rfl)
    (hform : methodCallForm (([e1] : List Expr).length + ([] : List Keyword).length) (backTo pos (starEach [e1] env)) (backToKw pos (keywordEach [] env)) = true := by rfl) (hst : starEach [e1] env = (false, eval e1 env) :: starEach [] env := by rfl) :
    EV C (n + 3) (FS C env nm oc sc X ρ ω κ) (eval (.Call (.Attribute (.Name x p1) (sQ "get") apos) [e1] [] pos) env) (is (optP (getF hs a))) := fun A s Z Q E hA I Hh k => by
  obtain ⟨doc, pm, c, hfo, hcd⟩ := K.get
  obtain ⟨mN, N, ga, gh, hg, _⟩ := K.ns2
  refine get_call K hA I Hh (ev_name hr) he ⟨mN, N, ga, gh, hg⟩ hfo lk_get (instM_none (by decide +kernel)) (fun T v Z' s' x' H' ht hv => ?_) hbase hline hform hst
  obtain ⟨Z1, l1, I1, r1, kk⟩ := borrow x'.inv (H'.own _ hm)
  have hsat : Sat Z1 [.ref T, v] [tabF (hs.map hpV), is (.str a)] := .cons (tabF_of ht l1 r1) (.cons (hv.le l1) .nil)
  refine (fn_get K hsz hx hno hlow).le (by lia : 3 ≤ n + 3) A s' Z1 [.ref T, v] Q E hA I1 hsat.length hsat.get fun u Z₃ s₃ x₃ pu => ?_
  obtain ⟨Z2, x2, rr⟩ := kk Z₃ s₃ x₃
  exact k u Z2 s₃ (x'.trans x2) (rr u _ pu)
theorem op_is_nn {n : Nat} : OP2 C n (compareOp .Is) (is .none) (is .none) (is (.bool true)) := fun A s Z u v Q E hA I hu hv k => by
  cases hu; cases hv
  have e : (Value.none == Value.none) = true := by simp
  exact wpAny_pure (a := Value.bool (Value.none == Value.none)) (by rw [e]; exact k _ Z _ (StepX.refl I) (.bool _))
theorem op_is_sn {n : Nat} {x : Str} : OP2 C n (compareOp .Is) (is (.str x)) (is .none) (is (.bool false)) := fun A s Z u v Q E hA I hu hv k => by
  obtain ⟨t, rfl⟩ := rdi hu; cases hv
  have e : (Value.str x t == Value.none) = false := by simp
  exact wpAny_pure (a := Value.bool (Value.str x t == Value.none)) (by rw [e]; exact k _ Z _ (StepX.refl I) (.bool _))
noncomputable def setL (hs : List (Str × Str)) (a b : Str) : List (Str × Str) := if (getF hs a).isSome then hs else hs ++ [(a, b)]
noncomputable def setR (hs : List (Str × Str)) (a b : Str) : Str := (getF hs a).getD b
theorem setd_call (K : HdrK C) {n : Nat} {H T : Addr} {hs : List (Str × Str)} {nm vl : Str} (hn0 : nm.cps.size ≤ 1000) (hn1 : (lowT nm).cps.size ≤ 1000) (hn2 : noHit codeN (lowT nm).cps 0 = true) (hn3 : noHit codeN nm.cps 0 = true) (hv1 : vl.cps.size ≤ 1000) (hv2 : noHit codeV vl.cps 0 = true) (hsz : hs.length ≤ 1000) (hlow : ∀ p ∈ hs, (lowT p.1).cps.size ≤ 1000)
    {A : Around} {s : Shared} {Z : Fz} {vn vv : Value} {Q : Value → Shared → Prop} {E : Value → Shared → Prop} (hA : Room (n + 5) A) (I : Inv C Z s) (ht : (tabV H).at_ Z (.ref T)) (ho : Owned Z s.heap (H, hs.map hpV)) (hn : Rd Z vn (.str nm)) (hv : Rd Z vv (.str vl))
    (k : ∀ v Z' s', StepX C (· = H) Z s Z' s' → Owned Z' s'.heap (H, (setL hs nm vl).map hpV) → Rd Z' v (.str (setR hs nm vl)) → Q v s') : wpAny (model C.prog C.w) A (call (.ref 262) [.ref T, vn, vv]) Q E s := by
  obtain ⟨doc, pm, c, hfo, hcd⟩ := K.setd
  have hsl : hs.length ≤ sizeLine := by rw [sizeLine_eq]; lia
  refine clo_enterA (n := n + 3) (args := ⟨[.ref T, vn, vv], []⟩) (vs := [.ref T, vn, vv]) (fd := mFd (mthSt pw 77 15) (sQ "Headers.setdefault") .none doc pm (.ref c)) (xs := [sQ "self", sQ "name", sQ "value"]) (oc := [sQ "self", sQ "name", sQ "value", sQ "result"])
    (nm := [sQ "self", sQ "name", sQ "value", sQ "result"]) (ρ := [some (tabV H), some (is (.str nm)), some (is (.str vl)), none]) (ω := [(H, hs.map hpV)]) (sc := scOf (mthSt pw 77 15)) K.q I hA (I.base _ _ hfo) rfl rfl (hcd.le I.base) rfl rfl rfl rfl rfl (BindsTo.of_eq rfl) rfl rfl rfl (by decide +kernel) List.Pairwise.nil (fun _ _ h => nomatch h) (fun p hp => by cases List.mem_singleton.mp hp; exact ho) (by simp) ?_ ?_ rfl rfl rfl
  · intro L h' hn' hk
    exact .va ⟨by decide +kernel, .inl ⟨rfl, _, hn', rfl⟩⟩ ht (.va ⟨by decide +kernel, .inl ⟨rfl, _, hn', rfl⟩⟩ hn (.va ⟨by decide +kernel, .inl ⟨rfl, _, hn', rfl⟩⟩ hv (.un .nil)))
  · intro L X A' s₁ E' hA' I₁ st hX Hh
    refine eg_run (RA := fun Z h v => Owned Z h (H, (setL hs nm vl).map hpV) ∧ Rd Z v (.str (setR hs nm vl))) (botA C) ?_ hA' I₁ Hh (fun Z' s' x' H' => H'.elim) fun v Z' s' x' ra => ?_
    rotate_left
    · exact k v Z' s' (((Step.to st).trans x').hideY fun b hb => (hX b hb).imp id fun q => by simpa using q) ra.1 ra.2
    · clear k Hh
      apply eg_cons
      · apply ex_assign
        · apply ev_get_own K (n := n + 1) (hs := hs) (a := nm)
          · walk_at "at"
          · exact .head _
          · walk_at "ev"
          · exact hsl
          · exact hn1
          · exact hn2
          · exact hlow
        · walk_at "at"
        · exact ⟨by decide +kernel, by decide +kernel⟩
        · exact rfl
        · exact rfl
      cases hg : getF hs nm with
      | none =>
        have e1 : setL hs nm vl = hs ++ [(nm, vl)] := by rw [setL, hg]; rfl
        have e2 : setR hs nm vl = vl := by rw [setR, hg]; rfl
        rw [e1, e2]
        apply eg_ifs (c := true)
        · apply tv_cmp
          · apply ev_d (d' := .none)
            · walk_at "ev"
            · rfl
          · walk_at "ev"
          · exact op_is_nn
          · exact rfl
        · intro _
          apply eg_cons
          · apply ex_hdr_append K (H := H) (d := hpV (nm, vl)) (ds := hs.map hpV)
            · walk_at "at"
            · apply ev_tupL
              · apply el_cons
                · apply ev_convk K (b := true) (fun _ _ h => ⟨H, h⟩)
                  · walk_at "ev"
                  · walk_at "ev"
                  · lia
                  · exact hn3
                · apply el_cons
                  · apply ev_convk K (b := false) (fun _ _ h => ⟨H, h⟩)
                    · walk_at "ev"
                    · walk_at "ev"
                    · lia
                    · exact hv2
                  · walk_at "ev"
                  · exact rfl
                · exact rfl
              · walk_at "at"
              · exact Nat.le_of_ble_eq_true rfl
            · exact OU.here
            · rw [List.length_map]; exact hsl
          apply eg_ret (P := is (.str vl))
          · walk_at "ev"
          · intro Z h v Hh p
            have := Hh.own _ (.head _)
            rw [List.map_append]
            exact ⟨this, p⟩
        · intro h; cases h
      | some r =>
        have e1 : setL hs nm vl = hs := by rw [setL, hg]; rfl
        have e2 : setR hs nm vl = r := by rw [setR, hg]; rfl
        rw [e1, e2]
        apply eg_ifs (c := false)
        · apply tv_cmp
          · apply ev_d (d' := .str r)
            · walk_at "ev"
            · rfl
          · walk_at "ev"
          · exact op_is_sn
          · exact rfl
        · intro h; cases h
        · intro _
          apply eg_ret (P := is (.str r))
          · apply ev_d
            · walk_at "ev"
            · rfl
          · intro Z h v Hh p
            exact ⟨Hh.own _ (.head _), p⟩
end
end
section
noncomputable def trQ (q : Nat) : Nat := if q = 0 then 0 else if q = 1 then 1 else if q = 4 then 4 else 2
noncomputable def wdF (qs : List Nat) (i : Nat) : List Nat := (qs.take i).foldl (fun w q => shW w (trQ q)) []
theorem wd_succ {qs : List Nat} {i q : Nat} (h : qs[i]? = some q) : wdF qs (i + 1) = shW (wdF qs i) (trQ q) := by
  unfold wdF
  rw [List.take_add_one, h, List.foldl_append]; rfl
theorem wd_red (qs : List Nat) : ∀ i, Red (wdF qs i)
  | 0 => .nil
  | i + 1 => by
    cases h : qs[i]? with
    | some q => rw [wd_succ h]; exact red_sh (wd_red qs i) _
    | none =>
      have : wdF qs (i + 1) = wdF qs i := by
        unfold wdF; rw [List.take_add_one, h]; simp
      rw [this]; exact wd_red qs i
theorem sg_len (t : Nat) (w : List Nat) : (sgW t w).length ≤ w.length + 1 := by
  unfold sgW; split
  · exact Nat.le_succ _
  · exact Nat.le_refl _
theorem sh_len (w : List Nat) (p : Nat) : (shW w p).length ≤ w.length + 1 := by
  cases w with
  | nil =>
    simp only [shW]; split
    · exact Nat.le_refl _
    · exact sg_len _ _
  | cons x w =>
    simp only [shW]; split
    · split
      · simp only [List.length_cons]; lia
      · exact Nat.le_refl _
    · split
      · exact sg_len _ _
      · exact Nat.le_succ_of_le (sg_len _ _)
theorem wd_len (qs : List Nat) : ∀ i, (wdF qs i).length ≤ i
  | 0 => Nat.le_refl _
  | i + 1 => by
    cases h : qs[i]? with
    | some q => rw [wd_succ h]; exact Nat.le_trans (sh_len _ _) (Nat.succ_le_succ (wd_len qs i))
    | none =>
      have : wdF qs (i + 1) = wdF qs i := by
        unfold wdF; rw [List.take_add_one, h]; simp
      rw [this]; exact Nat.le_succ_of_le (wd_len qs i)
theorem red_tl {w : List Nat} (h : Red w) : 2 * tl w ≤ w.length + 1 ∧ (∀ x r, w = x :: r → x ≠ 0 → 2 * tl w ≤ w.length) := by
  induction h with
  | nil => exact ⟨by decide, fun _ _ q => by cases q⟩
  | til h ht ih =>
    rename_i w
    have e : tl (0 :: w) = tl w + 1 := by unfold tl; rw [List.count_cons_self]
    refine ⟨?_, fun _ _ q hx => absurd (by cases q; rfl) hx⟩
    rw [e, List.length_cons]
    cases w with
    | nil => simp [tl]
    | cons x r =>
      have := ih.2 x r rfl (ht x r rfl)
      lia
  | turn hx h ht ih =>
    rename_i x w
    have e : tl (x :: w) = tl w := by unfold tl; rw [List.count_cons_of_ne (by lia)]
    rw [e, List.length_cons]
    exact ⟨by have := ih.1; lia, fun _ _ _ _ => ih.1⟩
theorem wd_tl (qs : List Nat) {i : Nat} (hi : i ≤ 14) : tl (wdF qs i) ≤ 7 := by
  have := (red_tl (wd_red qs i)).1
  have := wd_len qs i
  lia
theorem sgn_inj {x y : Nat} (hx : x < 3) (hy : y < 3) (h : sgn x = sgn y) : x = y := by
  unfold sgn at h
  rcases (show x = 0 ∨ x = 1 ∨ x = 2 by lia) with rfl | rfl | rfl <;> rcases (show y = 0 ∨ y = 1 ∨ y = 2 by lia) with rfl | rfl | rfl <;> first | rfl | cases h
theorem strW_inj : ∀ {w v : List Nat}, (∀ x ∈ w, x < 3) → (∀ x ∈ v, x < 3) → strW w = strW v → w = v := by
  intro w
  induction w with
  | nil =>
    intro v _ _ h
    have := congrArg Str.length h
    rw [strW_len, strW_len] at this
    exact (List.length_eq_zero_iff.mp this.symm).symm
  | cons x w ih =>
    intro v hw hv h
    cases v with
    | nil =>
      have := congrArg Str.length h
      rw [strW_len, strW_len] at this
      cases this
    | cons y v =>
      have hx := hw x (List.mem_cons_self ..)
      have hy := hv y (List.mem_cons_self ..)
      have e1 := congrArg lastS h
      have e2 := congrArg initS h
      rw [last_w hx, last_w hy, sig_sgn hx, sig_sgn hy] at e1
      rw [init_w hx, init_w hy] at e2
      have e1 : (#[sgn x] : Array Nat) = #[sgn y] := congrArg Str.cps e1
      have e1 : sgn x = sgn y := by simpa using e1
      rw [sgn_inj hx hy e1, ih (fun z hz => hw z (List.mem_cons_of_mem _ hz)) (fun z hz => hv z (List.mem_cons_of_mem _ hz)) e2]
noncomputable def fsI (W : Nat → List Nat) (i : Nat) : Nat := ((List.range (i + 1)).map W).idxOf (W i)
theorem fs_spec (W : Nat → List Nat) (i : Nat) : fsI W i ≤ i ∧ W (fsI W i) = W i ∧ ∀ m < fsI W i, W m ≠ W i := by
  have hm : W i ∈ (List.range (i + 1)).map W := List.mem_map.mpr ⟨i, List.mem_range.mpr (Nat.lt_succ_self i), rfl⟩
  have hlt := List.idxOf_lt_length_iff.mpr hm
  have hlt' : fsI W i < i + 1 := by
    have := hlt
    rw [List.length_map, List.length_range] at this
    exact this
  refine ⟨Nat.le_of_lt_succ hlt', ?_, fun m hlm q => ?_⟩
  · have := List.getElem_idxOf hlt
    simp only [List.getElem_map, List.getElem_range] at this
    exact this
  · have h1 : m < ((List.range (i + 1)).map W).length := by rw [List.length_map, List.length_range]; lia
    have := List.not_of_lt_findIdx (p := (· == W i)) (xs := (List.range (i + 1)).map W) (i := m) (show m < List.findIdx (· == W i) _ from hlm)
    simp only [List.getElem_map, List.getElem_range] at this
    rw [q] at this
    simp at this
theorem fs_uniq {W : Nat → List Nat} {i j : Nat} (h1 : W j = W i) (h2 : ∀ m < j, W m ≠ W i) : j = fsI W i := by
  obtain ⟨a, b, c⟩ := fs_spec W i
  rcases Nat.lt_trichotomy j (fsI W i) with h | h | h
  · exact absurd h1 (c j h)
  · exact h
  · exact absurd b (h2 _ h)
noncomputable def ltr (k : Nat) : Str := if k = 0 then lc else if (k - 1) / 2 % 2 = 0 then lC else lc
theorem ltr_or (k : Nat) : ltr k = lc ∨ ltr k = lC := by
  unfold ltr
  split
  · exact .inl rfl
  · split
    · exact .inr rfl
    · exact .inl rfl
noncomputable def entC (qs : List Nat) (c0 : T3) (k : Nat) : Str × Str := (nmC (ltr k) (valW (wdF qs k) c0), numT (k : Int))
noncomputable def tblC (qs : List Nat) (c0 : T3) (i : Nat) : List (Str × Str) := ((List.range (i + 1)).filter fun k => fsI (wdF qs) k == k).map (entC qs c0)
theorem beqB {α : Type} [BEq α] [LawfulBEq α] (a b : α) [Decidable (a = b)] : (a == b) = decide (a = b) := by
  by_cases h : a = b
  · rw [decide_eq_true h, h]; exact beq_self_eq_true b
  · rw [decide_eq_false h]; exact beq_false_of_ne h
theorem mtc_ent {qs : List Nat} {c0 : T3} (h0 : PosT c0) (hne : ¬ (c0.1 = c0.2.1 ∧ c0.2.1 = c0.2.2)) {l : Str} (hl : l = lc ∨ l = lC) (i k : Nat) : mtc (nmC l (valW (wdF qs i) c0)) (entC qs c0 k) = (wdF qs k == wdF qs i) := by
  unfold mtc entC
  dsimp only
  rw [low_nm (ltr_or k), low_nm hl, beqB, beqB]
  by_cases h : wdF qs k = wdF qs i
  · rw [h, decide_eq_true rfl, decide_eq_true rfl]
  · rw [decide_eq_false h, decide_eq_false]
    exact fun q => h (val_inj h0 hne (wd_red qs k) (wd_red qs i) (nmC_inj q))
theorem get_tbl {qs : List Nat} {c0 : T3} (h0 : PosT c0) (hne : ¬ (c0.1 = c0.2.1 ∧ c0.2.1 = c0.2.2)) {l : Str} (hl : l = lc ∨ l = lC) (i : Nat) :
    getF (tblC qs c0 i) (nmC l (valW (wdF qs (i + 1)) c0)) = if fsI (wdF qs) (i + 1) = i + 1 then none else some (numT (fsI (wdF qs) (i + 1) : Nat)) := by
  obtain ⟨a, b, c⟩ := fs_spec (wdF qs) (i + 1)
  unfold getF tblC
  rw [List.find?_map, Option.map_map]
  have e : (mtc (nmC l (valW (wdF qs (i + 1)) c0)) ∘ entC qs c0) = fun k => wdF qs k == wdF qs (i + 1) := funext fun k => mtc_ent h0 hne hl (i + 1) k
  rw [e, List.find?_filter]
  split
  · rename_i h
    rw [List.find?_eq_none.mpr]
    · rfl
    · intro k hk
      have hk := List.mem_range.mp hk
      have := c k (by lia)
      simp [this]
  · rename_i h
    have : (List.range (i + 1)).find? (fun k => decide ((fsI (wdF qs) k == k) = true ∧ (wdF qs k == wdF qs (i + 1)) = true)) = some (fsI (wdF qs) (i + 1)) := by
      rw [List.find?_range_eq_some]
      have e2 : fsI (wdF qs) (fsI (wdF qs) (i + 1)) = fsI (wdF qs) (i + 1) := (fs_uniq rfl (fun m hm => by rw [b]; exact c m hm)).symm
      refine ⟨by simp [e2, b], List.mem_range.mpr (by lia), fun j hj => ?_⟩
      simp [c j hj]
    rw [this]; rfl
theorem set_tbl {qs : List Nat} {c0 : T3} (h0 : PosT c0) (hne : ¬ (c0.1 = c0.2.1 ∧ c0.2.1 = c0.2.2)) (i : Nat) :
    setL (tblC qs c0 i) (nmC (ltr (i + 1)) (valW (wdF qs (i + 1)) c0)) (numT ((i + 1 : Nat) : Int)) = tblC qs c0 (i + 1) ∧ setR (tblC qs c0 i) (nmC (ltr (i + 1)) (valW (wdF qs (i + 1)) c0)) (numT ((i + 1 : Nat) : Int)) = numT (fsI (wdF qs) (i + 1) : Nat) := by
  unfold setL setR
  rw [get_tbl h0 hne (ltr_or _)]
  have e : tblC qs c0 (i + 1) = tblC qs c0 i ++ if fsI (wdF qs) (i + 1) = i + 1 then [entC qs c0 (i + 1)] else [] := by
    unfold tblC
    rw [List.range_succ (n := i + 1), List.filter_append, List.map_append]
    congr 1
    rw [List.filter_cons, List.filter_nil]
    by_cases h : fsI (wdF qs) (i + 1) = i + 1
    · simp only [h, beq_self_eq_true, if_true]; rfl
    · simp only [beq_false_of_ne h, h, if_false]; rfl
  rw [e]
  by_cases h : fsI (wdF qs) (i + 1) = i + 1
  · simp only [h, if_true]
    exact ⟨rfl, rfl⟩
  · simp only [h, if_false]
    exact ⟨(List.append_nil _).symm, rfl⟩
end
section
noncomputable abbrev liT (c : T3) : PV := .list [.int c.1, .int c.2.1, .int c.2.2]
theorem mnI_le (a b c : Int) : mnI a b c ≤ a ∧ mnI a b c ≤ b ∧ mnI a b c ≤ c ∧ (mnI a b c = a ∨ mnI a b c = b ∨ mnI a b c = c) := by
  unfold mnI
  dsimp only
  split <;> split <;> lia
structure Wide3 (c : T3) : Prop where
  r : -4920 ≤ c.1 ∧ c.1 ≤ 13440
  g : -4920 ≤ c.2.1 ∧ c.2.1 ≤ 13440
  b : -4920 ≤ c.2.2 ∧ c.2.2 ≤ 13440
  ne : ¬ (c.1 = c.2.1 ∧ c.2.1 = c.2.2)
theorem deed_of {c : T3} (B : Wide3 c) {w : Int} (w1 : 1 ≤ w) (w2 : w ≤ 33768) : ∃ n1 n2 n3, Deed w c.1 c.2.1 c.2.2 n1 n2 n3 := by
  obtain ⟨⟨r1, r2⟩, ⟨g1, g2⟩, ⟨b1, b2⟩, ne⟩ := B
  obtain ⟨m1, m2, m3, m4⟩ := mnI_le c.1 c.2.1 c.2.2
  generalize hm : mnI c.1 c.2.1 c.2.2 = m at m1 m2 m3 m4
  obtain ⟨n1, e1⟩ := Int.eq_ofNat_of_zero_le (show 0 ≤ c.1 + (w - m) by clear m4 m3 m2 hm b2 b1 g2 g1 r2 r1 ne w2; lia)
  obtain ⟨n2, e2⟩ := Int.eq_ofNat_of_zero_le (show 0 ≤ c.2.1 + (w - m) by clear e1 m4 m3 m1 hm b2 b1 g2 g1 r2 r1 ne w2; lia)
  obtain ⟨n3, e3⟩ := Int.eq_ofNat_of_zero_le (show 0 ≤ c.2.2 + (w - m) by clear e2 e1 m4 m2 m1 hm b2 b1 g2 g1 r2 r1 ne w2; lia)
  refine ⟨n1, n2, n3, by rw [hm]; exact e1, by rw [hm]; exact e2, by rw [hm]; exact e3, by clear e3 e2 m4 m3 m2 hm b2 b1 g2 g1 r2 r1 ne w2; lia, by clear e3 e1 m4 m3 m1 hm b2 b1 g2 g1 r2 r1 ne w2; lia, by clear e2 e1 m4 m2 m1 hm b2 b1 g2 g1 r2 r1 ne w2; lia, by clear e3 e2 m3 m2 m1 hm b2 g2 r1 ne w1; lia, by clear e3 e1 m3 m2 m1 hm b2 g1 r2 ne w1; lia, by clear e2 e1 m3 m2 m1 hm b1 g2 r2 ne w1; lia, ?_⟩
  rcases Nat.lt_or_ge (mnN n1 n2 n3) (mxN n1 n2 n3) with h | h
  · exact h
  · exfalso
    obtain ⟨p1, p2, p3, _⟩ := mn_facts n1 n2 n3
    obtain ⟨q1, q2, q3, _⟩ := mx_facts n1 n2 n3
    clear r1 r2 g1 g2 b1 b2 m1 m2 m3 m4 w1 w2
    apply ne
    constructor
    · clear p3 q3 e3; (clear hm ne; lia)
    · clear p1 q1 e1; (clear hm ne; lia)
section
variable {C : Cx}
theorem d_done (K : LawK C) {c : T3} (B : Wide3 c) {w : Int} (w1 : 1 ≤ w) (w2 : w ≤ 33768) {q : Nat} (hq : q < 5) : DefC C 4 (sQ "_law_done") [is (liT c), is (.int (symQ q)), is (.int w)] (is (liT (actN (trQ q) c))) := by
  obtain ⟨n1, n2, n3, D⟩ := deed_of B w1 w2
  rcases (show q = 0 ∨ q = 1 ∨ q = 2 ∨ q = 3 ∨ q = 4 by clear D w2 w1 B K; lia) with rfl | rfl | rfl | rfl | rfl
  · exact done_tilde K c.1 c.2.1 c.2.2 w
  · exact done_hsv K (k := 1) (.inl ⟨rfl, rfl⟩) D
  · exact done_hls K (k := 2) (.inl ⟨rfl, rfl⟩) D
  · exact done_hsv K (k := 2) (.inr ⟨rfl, rfl⟩) D
  · exact done_hls K (k := 4) (.inr ⟨rfl, rfl⟩) D
noncomputable def pcS (q : Nat) : Str := if q = 0 then sTil else if q = 1 then sLt else if q = 2 then sGt else if q = 3 then sLt2 else sGt2
theorem d_short (K : LawK C) {w : List Nat} (h : Red w) (hl : w.length ≤ 100) {q : Nat} (hq : q < 5) : DefC C 4 (sQ "_law_short") [is (.str (strW w)), is (.str (pcS q))] (is (.str (strW (shW w (trQ q))))) := by
  have hw : (strW w).length ≤ 1000 := by rw [strW_len]; (clear hq h K; lia)
  by_cases h0 : q = 0
  · subst h0
    rw [show trQ 0 = 0 from rfl, ← short_til h]
    exact d_short_til K (strW w) hw
  have hi : (initS (strW w)).length ≤ 1000 := Nat.le_trans (Txt.slice_le _ _ _) hw
  have ht : trQ q ≠ 0 := by
    rcases (show q = 1 ∨ q = 2 ∨ q = 3 ∨ q = 4 by clear hi hw hl h K; lia) with rfl | rfl | rfl | rfl <;> decide
  rw [← short_gen h ht]
  refine d_short_gen K (strW w) (pcS q) (trQ q) hw hi ?_ ?_ (fun e => last_code h (.inl rfl) e) (fun e => last_code h (.inr rfl) e)
  · rcases (show q = 1 ∨ q = 2 ∨ q = 3 ∨ q = 4 by clear ht hi hw hl h K; lia) with rfl | rfl | rfl | rfl <;> kernel_rfl
  · rcases (show q = 1 ∨ q = 2 ∨ q = 3 ∨ q = 4 by clear ht hi hw hl h K; lia) with rfl | rfl | rfl | rfl <;> decide +kernel
theorem wide_run {c0 : T3} (h0 : Ten c0) (hne : ¬ (c0.1 = c0.2.1 ∧ c0.2.1 = c0.2.2)) {w : List Nat} (h : Red w) (ht : tl w ≤ 7) : Wide3 (valW w c0) := by
  have q := wide h0 h ht
  refine ⟨q _ (List.mem_cons_self ..), q _ (List.mem_cons_of_mem _ (List.mem_cons_self ..)), q _ (List.mem_cons_of_mem _ (List.mem_cons_of_mem _ (List.mem_cons_self ..))), fun e => ?_⟩
  rcases (lead h0.toPosT h).kind h0.toPosT with ⟨p1, p2, p3, x, hx, ew, ec⟩ | ⟨p1, p2, p3, v, ew⟩ | ⟨p1, p2, p3, v, ew⟩ | ⟨p1, p2, p3, v, ew⟩
  · rw [ec] at e
    apply hne
    obtain ⟨a, b, d⟩ := c0
    rcases (show x = 0 ∨ x = 1 ∨ x = 2 by clear ec e p3 p2 p1 q hne h0 ew ht h; lia) with rfl | rfl | rfl <;> simp [rot3] at e ⊢ <;> constructor <;> (clear ec ew hx p3 p2 p1 q hne h0 ht h; lia)
  · (clear ew p3 q ht h hne h0; lia)
  · (clear ew p3 q ht h hne h0; lia)
  · (clear ew p3 q ht h hne h0; lia)
theorem d_toldW (K : LawK C) (D : DigK C) {c0 : T3} (h0 : Ten c0) (hne : ¬ (c0.1 = c0.2.1 ∧ c0.2.1 = c0.2.2)) {w : List Nat} (h : Red w) (ht : tl w ≤ 7) (hl : w.length ≤ 100) : DefC C 36 (sQ "_law_told") [is (liT (valW w c0)), is (liT c0)] (is (.str (strW w))) := by
  obtain ⟨k, hk, σ, t1, t2, t3⟩ := told_all h0 h ht (by rw [strW_len]; exact hl)
  rw [thS_eq hk] at t3
  rw [← t3]
  exact d_told K D hk t1 t2 hne (by rw [t3, strW_len]; (clear t3 t2 t1 hk ht h hne h0 D K; lia))
end
end
section
open PySem.SeqAt
theorem it_str {C : Cx} {n : Nat} {target : Expr} {Φ : Asn C} {iter : Expr} {env : Env} {x : Str} (h : EV C n Φ (eval iter env) (is (.str x))) (ha : x.cps.all (· < 128) = true) : IT C n Φ iter env target (chrL x) := it_ev h (pi_str ha)
end
section
open PySem.SeqAt
section
variable {C : Cx} {n : Nat} {Φ : Asn C} {env : Env} {P P2 : Vp} {pos : Pos}
theorem ev_cmp2 {l r1 r2 : Expr} {o1 o2 : CmpOp} {d1 : PV} {c1 c2 : Bool} (hl : EV C n Φ (eval l env) P) (h1 : EV C n Φ (eval r1 env) (is d1)) (q1 : OP2 C n (compareOp o1) P (is d1) (is (.bool c1)))
    (h2 : EV C n Φ (eval r2 env) P2) (q2 : OP2 C n (compareOp o2) (is d1) P2 (is (.bool c2))) (hm : lastMarks [o1, o2] [r1, r2] = false := by rfl) :
    EV C n Φ (eval (.Compare l [o1, o2] [r1, r2] pos) env) (is (.bool (c1 && c2))) := fun A s Z Q E hA I H k => by
  refine Compare_chain (hl A s Z _ E hA I H fun a Z₁ s₁ x₁ pa => ?_) hm
  refine chain_link (h1 A s₁ Z₁ _ E hA x₁.inv (Φ.stable I H x₁) fun b Z₂ s₂ x₂ pb => ?_)
  refine q1 A s₂ Z₂ a b _ E hA x₂.inv (P.mono x₂.le pa) pb fun c Z₃ s₃ x₃ pc => ?_
  obtain rfl := rdi pc
  refine wpAny_truthy_bool ?_
  cases c1 with
  | false => exact k _ Z₃ s₃ ((x₁.trans x₂).trans x₃) (.bool _)
  | true =>
    refine chain_last (h2 A s₃ Z₃ _ E hA x₃.inv (Φ.stable x₂.inv (Φ.stable x₁.inv (Φ.stable I H x₁) x₂) x₃) fun c Z₄ s₄ x₄ pc => ?_)
    exact q2 A s₄ Z₄ b c Q E hA x₄.inv (Vp.mono _ (x₃.trans x₄).le pb) pc fun v Z₅ s₅ x₅ pv => k v Z₅ s₅ ((((x₁.trans x₂).trans x₃).trans x₄).trans x₅) (by rw [Bool.true_and]; exact pv)
theorem tv_and {a b : Expr} {whole : Sem Value} {c1 c2 : Bool} (h1 : TV C n Φ (isTrue a env (eval a env)) c1) (h2 : c1 = true → TV C n Φ (isTrue b env (eval b env)) c2) : TV C n Φ (isTrue (.BoolOp .And [a, b] pos) env whole) (c1 && c2) := fun A s Z Q E hA I H k => by
  refine wpAny_isTrue_BoolOp ?_
  show wpAny _ _ (isTrue a env (eval a env) >>= _) _ _ _
  refine wpAny_bind (h1 A s Z _ E hA I H fun Z₁ s₁ x₁ => ?_)
  cases c1 with
  | false => exact wpAny_pure (k Z₁ s₁ x₁)
  | true =>
    show wpAny _ _ (isTrue b env (eval b env) >>= _) _ _ _
    refine wpAny_bind (h2 rfl A s₁ Z₁ _ E hA x₁.inv (Φ.stable I H x₁) fun Z₂ s₂ x₂ => ?_)
    rw [Bool.true_and] at k
    cases c2
    · exact wpAny_pure (k Z₂ s₂ (x₁.trans x₂))
    · exact wpAny_pure (k Z₂ s₂ (x₁.trans x₂))
end
theorem pick_init (l : List PV) : pickL l none (some (-1)) none = l.dropLast := by
  unfold pickL
  cases l.eq_nil_or_concat with
  | inl h => subst h; rfl
  | inr h =>
    obtain ⟨l', a, rfl⟩ := h
    have e : sliceBounds none (some (-1)) none (l' ++ [a]).length = (((0 : Nat) : Int), ((l'.length : Nat) : Int), 1) := by
      simp [sliceBounds]
      lia
    rw [List.concat_eq_append, e]
    show List.filterMap ((l' ++ [a])[·]?) (sliceRange ((0 : Nat) : Int) ((l'.length : Nat) : Int) 1) = _
    rw [sliceRange_one, Nat.sub_zero, List.dropLast_concat]
    have := pick_run (l' ++ [a]).toArray 0 l'.length
    simp at this ⊢
    exact this
theorem pick_last (l : List PV) : pickL l (some (-1)) none none = (l.getLast?).toList := by
  unfold pickL
  cases l.eq_nil_or_concat with
  | inl h => subst h; rfl
  | inr h =>
    obtain ⟨l', a, rfl⟩ := h
    have e : sliceBounds (some (-1)) none none (l' ++ [a]).length = (((l'.length : Nat) : Int), ((l'.length + 1 : Nat) : Int), 1) := by
      simp [sliceBounds]
      lia
    rw [List.concat_eq_append, e]
    show List.filterMap ((l' ++ [a])[·]?) (sliceRange ((l'.length : Nat) : Int) ((l'.length + 1 : Nat) : Int) 1) = _
    rw [sliceRange_one, show l'.length + 1 - l'.length = 1 by lia, List.getLast?_concat]
    simp
end
section
local macro_rules | `(tactic| walk_at "fn") => `(tactic| with_reducible exact fn_int_bool)
structure LawV (C : Cx) : Prop extends LawL C where
  sum : BltZ C (sQ "sum") (.builtin "sum")
  enumerate : BltZ C (sQ "enumerate") (.type "enumerate")
  str : BltZ C (sQ "str") (.type "str")
noncomputable abbrev lI (l : List Int) : PV := .list (l.map .int)
noncomputable def heapS (S : List Int) (k : Int) : Int := (pickI (pickI S none (some 60) none) (some k) none (some 3)).sum
noncomputable def termS (S : List Int) (k : Int) : Int := (pickI S (some k) (some (k + 1)) none).sum
noncomputable def ksL : List (Int × Int) := [(0, 1), (1, 0), (2, 1), (3, 0), (4, 1), (5, 0), (6, 0), (7, 2), (8, 2), (9, 0), (10, 2), (11, 0), (12, 2), (13, 0)]
noncomputable def sT (S : List Int) : List Nat := ksL.map fun p => ((p.2 + termS S p.1).fmod 3).toNat
theorem mod3 (t : Int) : t.fmod 3 = 0 ∨ t.fmod 3 = 1 ∨ t.fmod 3 = 2 := by
  rw [Int.fmod_eq_emod_of_nonneg _ (by decide)]; lia
theorem sT_3 (S : List Int) : sg3 (sT S) := by
  intro x hx
  obtain ⟨p, _, rfl⟩ := List.mem_map.mp hx
  rcases mod3 (p.2 + termS S p.1) with h | h | h <;> rw [h] <;> decide
theorem sT_len (S : List Int) : (sT S).length = 14 := by unfold sT; rw [List.length_map]; rfl
theorem sig_item {C : Cx} {n : Nat} {v sl : Expr} {t : Int} (hs : ∀ o i, subscripted sl false o i = operate [o, i] (getItem o i)) : OP2 C n (subscriptTail v sl) (is (.str (sQ "~<>"))) (is (.int (t.fmod 3))) (is (.str ⟨#[sgn (t.fmod 3).toNat]⟩)) := by
  rcases mod3 t with h | h | h
  · rw [h]; exact op_item_str (by decide) (by kernel_rfl) hs
  · rw [h]; exact op_item_str (by decide) (by kernel_rfl) hs
  · rw [h]; exact op_item_str (by decide) (by kernel_rfl) hs
theorem glue_nil : ∀ (l : List Nat) (a : Array Nat), (l.map fun x => (⟨#[sgn x]⟩ : Str)).foldl (fun acc p => acc ++ (sQ "").cps ++ p.cps) a = a ++ (l.map sgn).toArray
  | [], a => by simp
  | x :: l, a => by
    rw [List.map_cons, List.foldl_cons, glue_nil l, show (sQ "").cps = #[] by decide +kernel]
    apply Array.toList_inj.mp
    simp
theorem glue_tx (s : List Nat) : Builtin.Str.glued (sQ "") (s.map fun x => (⟨#[sgn x]⟩ : Str)) = txS s := by
  cases s with
  | nil => rfl
  | cons x s =>
    show (⟨(s.map fun x => (⟨#[sgn x]⟩ : Str)).foldl (fun acc p => acc ++ (sQ "").cps ++ p.cps) #[sgn x]⟩ : Str) = _
    rw [glue_nil]
    unfold txS
    congr 1
    apply Array.toList_inj.mp
    simp
theorem pcS_sgn {x : Nat} (hx : x < 3) : (⟨#[sgn x]⟩ : Str) = pcS x := by
  rcases (show x = 0 ∨ x = 1 ∨ x = 2 by lia) with rfl | rfl | rfl <;> decide +kernel
theorem pcS_inj {q p : Nat} (hq : q < 5) (hp : p < 5) (h : pcS q = pcS p) : q = p := by
  rcases (show q = 0 ∨ q = 1 ∨ q = 2 ∨ q = 3 ∨ q = 4 by lia) with rfl | rfl | rfl | rfl | rfl <;> rcases (show p = 0 ∨ p = 1 ∨ p = 2 ∨ p = 3 ∨ p = 4 by lia) with rfl | rfl | rfl | rfl | rfl <;> first | rfl | exact absurd h (by decide +kernel)
section
variable {C : Cx} {X : Addr → Prop} {κ : Addr → Option Obj} {env : Env} {q : Str} {doc pm cd : Value} {L f : Addr} {R : Vp}
theorem v_0 (he : env = callEnvC (fdOf (stAt pw 83) q doc pm cd) L f) (K : LawV C) (S : List Int) (hS : S.length ≤ 100) : EX C 40 X (FS C env nmS nmS (scOf (stAt pw 83)) X [some (is (lI S)), none, none, none, none, none, none, none, none, none, none, none, none, none, none] [] κ) (execs [inSt pw 83 0] env)
    (FS C env nmS nmS (scOf (stAt pw 83)) X [some (is (lI S)), some (is (lI [4 + heapS S 0, 1 + heapS S 1, 6 + heapS S 2])), none, none, none, none, none, none, none, none, none, none, none, none, none] [] κ) R := by
  have g1 := K.sum
  have g2 := K.enumerate
  show EX _ _ _ _ (execs [.Assign [_] _ _] _) _ _
  have hs1 : (S.map PV.int).length ≤ sizeLine := by rw [List.length_map, sizeLine_eq]; lia
  have hs2 : (pickL (S.map PV.int) none (some 60) none).length ≤ sizeLine := Nat.le_trans (pickL_len _ _ _ _) hs1
  apply ex_cons
  · apply ex_assignC1 (ds := [4 + heapS S 0, 1 + heapS S 1, 6 + heapS S 2].map .int)
    apply comp1_ok (xs := [(0, 4), (1, 1), (2, 6)]) (f := fun (p : Int × Int) => .tup [.int p.1, .int p.2]) (h := fun p => .int (p.2 + heapS S p.1))
    · apply it_eq
      · apply it_callTt
        · assumption
        · walk_at "ev"
        · exact fi_enumT
        · exact rfl
        · exact rfl
        · exact rfl
        · exact rfl
      · exact rfl
    · walk_at "at"
    · exact rfl
    · decide +kernel
    · exact rfl
    · exact Nat.le_of_ble_eq_true rfl
    · intro cenv X' j hx
      apply ex_mk3
      · walk_at "at"
      · walk_at "at"
      · intro ω κ
        apply ev_bin
        · walk_at "ev"
        · apply ev_callBt (R := is (.int (heapS S j.1)))
          · assumption
          · apply el_cons
            · apply ev_d (d' := lI (pickI (pickI S none (some 60) none) (some j.1) none (some 3)))
              · apply ev_slice_list3T
                · apply ev_slice_listT
                  · walk_at "ev"
                  · exact pt_none
                  · apply pt_some
                    walk_at "ev"
                  · exact hs1
                · apply pt_some
                  walk_at "ev"
                · exact pt_none
                · apply pt_some
                  walk_at "ev"
                · decide
                · exact hs2
              · show PV.list _ = PV.list _
                rw [pickL_ints, pickL_ints]
            · walk_at "ev"
            · exact rfl
          · exact fn_sum
          · exact rfl
          · exact rfl
        · walk_at "op"
    · exact rfl
    · walk_at "at"
    · decide +kernel
    · decide +kernel
    · walk_at "rfl"
  apply ex_fgt
  walk_at "at"
theorem v_1 (he : env = callEnvC (fdOf (stAt pw 83) q doc pm cd) L f) (K : LawV C) (S : List Int) (h0 h1 h2 : Int) : EX C 40 X (FS C env nmS nmS (scOf (stAt pw 83)) X [some (is (lI S)), some (is (lI [h0, h1, h2])), none, none, none, none, none, none, none, none, none, none, none, none, none] [] κ) (execs [inSt pw 83 1] env)
    (FS C env nmS nmS (scOf (stAt pw 83)) X [some (is (lI S)), none, some (is (lI [1 + h0.fmod 9, 1 + h1.fmod 9, 1 + h2.fmod 9])), some (is (.int (1 + ([h0, h1, h2].sum).fmod 1000))), none, none, none, none, none, none, none, none, none, none, none] [] κ) R := by
  have g1 := K.sum
  show EX _ _ _ _ (execs [.Assign [.Tuple _ _ _] (.Tuple [_, _] _ _) _] _) _ _
  apply ex_tup_sw
  · rw [he]; exact rfl
  · rw [he]; exact rfl
  · exact Nat.le_of_ble_eq_true rfl
  · exact rfl
  · apply TupK.val
    · apply ev_d (d' := lI [1 + h0.fmod 9, 1 + h1.fmod 9, 1 + h2.fmod 9])
      · apply ev_comp1
        apply comp1_ok (xs := [h0, h1, h2]) (f := fun (p : Int) => .int p) (h := fun p => .int (1 + p.fmod 9))
        · apply it_eq
          · apply it_list
            walk_at "ev"
          · exact rfl
        · walk_at "at"
        · exact rfl
        · decide +kernel
        · exact rfl
        · exact Nat.le_of_ble_eq_true rfl
        · intro cenv X' j hx
          apply ex_mk3
          · walk_at "at"
          · walk_at "at"
          · intro ω κ
            walk_at "ev"
      · rfl
    · apply TupK.val
      · apply ev_bin
        · walk_at "ev"
        · apply ev_bin
          · apply ev_callBt (R := is (.int ([h0, h1, h2].sum)))
            · assumption
            · walk_at "ev"
            · exact fn_sum (l := [h0, h1, h2])
            · exact rfl
            · exact rfl
          · walk_at "ev"
          · walk_at "op"
        · walk_at "op"
      · apply tk_nil_sw rfl rfl
        · show Bdn _ _ _ [_, _] [_, _] _ _
          walk_at "at"
        · apply ex_fgt
          walk_at "fgtd"
      · exact rfl
    · exact rfl
theorem v_2 (he : env = callEnvC (fdOf (stAt pw 83) q doc pm cd) L f) (K : LawV C) (S : List Int) (w c1 c2 c3 : Int) : EX C 40 X (FS C env nmS nmS (scOf (stAt pw 83)) X [some (is (lI S)), none, some (is (lI [c1, c2, c3])), some (is (.int w)), none, none, none, none, none, none, none, none, none, none, none] [] κ) (execs [inSt pw 83 2] env)
    (FS C env nmS nmS (scOf (stAt pw 83)) X [some (is (lI S)), none, some (is (lI [c1, c2, c3 + if (c1 == c2 && c2 == c3) then 1 else 0])), some (is (.int w)), none, none, none, none, none, none, none, none, none, none, none] [] κ) R := by
  have g1 := K.int
  show EX _ _ _ _ (execs [.Assign [_] _ _] _) _ _
  apply ex_cons
  · apply ex_assign
    · apply ev_bin
      · apply ev_d (d' := lI [c1, c2])
        · apply ev_slice_listT
          · walk_at "ev"
          · exact pt_none
          · apply pt_some
            walk_at "ev"
          · exact Nat.le_of_ble_eq_true rfl
        · show PV.list _ = PV.list _
          congr 1
      · apply ev_listL
        · apply el_cons
          · apply ev_bin
            · walk_at "ev"
            · apply ev_callTt
              · assumption
              · apply el_cons
                · apply ev_cmp2
                  · walk_at "ev"
                  · walk_at "ev"
                  · walk_at "op"
                  · walk_at "ev"
                  · walk_at "op"
                  · exact rfl
                · walk_at "ev"
                · exact rfl
              · exact fn_int_bool
              · exact rfl
              · exact rfl
              · exact rfl
              · exact rfl
            · walk_at "op"
          · walk_at "ev"
          · exact rfl
        · walk_at "at"
        · exact Nat.le_of_ble_eq_true rfl
      · exact op_add_list (Nat.le_of_ble_eq_true rfl)
    · walk_at "at"
    · decide +kernel
    · decide +kernel
    · rw [he]; exact rfl
  apply ex_fgt
  walk_at "fgtd"
end
end
section
open PySem.SeqAt
@[irreducible] def hideT (elts : List Expr) (k : Nat) (pos : Pos) : Expr := .Tuple elts k pos
theorem hide_tup (c : Const) (j : Nat) (p : Pos) (elts : List Expr) (k : Nat) (pos : Pos) : Expr.Tuple (.Constant c j p :: elts) k pos = hideT (.Constant c j p :: elts) k pos := by unfold hideT; rfl
theorem star_hideT (es : List Expr) (k : Nat) (p : Pos) (r : List Expr) (env : Env) : starEach (hideT es k p :: r) env = (false, eval (hideT es k p) env) :: starEach r env := by unfold hideT; rfl
inductive IntE : List Expr → List Int → Prop where
  | nil : IntE [] []
  | cons {a : Int} {m : Nat} {q : Pos} {es : List Expr} {l : List Int} (r : IntE es l) : IntE (.Constant (.int a) m q :: es) (a :: l)
section
variable {C : Cx} {n : Nat} {Φ : Asn C} {env : Env}
theorem IntE.el {es : List Expr} {l : List Int} {pos : Pos} (h : IntE es l) : EL C n Φ (spliced (backTo pos (starEach es env))) (l.map fun a => is (.int a)) := by
  induction h with
  | nil => exact el_nil
  | cons r ih => exact el_cons ev_int ih rfl
theorem isl_ints : ∀ l : List Int, IsL (l.map fun a => is (.int a)) (l.map .int)
  | [] => .nil
  | _ :: l => .cons (isl_ints l)
theorem ev_hideT {es : List Expr} {l : List Int} {k : Nat} {pos : Pos} (h : IntE es l) (hl : l.length ≤ 100) : EV C n Φ (eval (hideT es k pos) env) (is (.tup (l.map .int))) := by
  unfold hideT
  exact ev_tupL h.el (isl_ints l) (by rw [List.length_map]; exact Nat.le_trans hl (by rw [sizeLine_eq]; decide))
end
end
section
local macro_rules | `(tactic| walk_at "fn") => `(tactic| with_reducible exact fn_int_bool)
section
variable {C : Cx} {X : Addr → Prop} {κ : Addr → Option Obj} {env : Env} {q : Str} {doc pm cd : Value} {L f : Addr} {R : Vp}
theorem v_3 (he : env = callEnvC (fdOf (stAt pw 83) q doc pm cd) L f) (K : LawV C) (S : List Int) (hS : S.length ≤ 100) (p1 p2 : Vp) : EX C 40 X (FS C env nmS nmS (scOf (stAt pw 83)) X [some (is (lI S)), none, some (p1), some (p2), none, none, none, none, none, none, none, none, none, none, none] [] κ) (execs [inSt pw 83 3] env)
    (FS C env nmS nmS (scOf (stAt pw 83)) X [none, none, some (p1), some (p2), some (is (.str (txS (sT S)))), none, none, none, none, none, none, none, none, none, none] [] κ) R := by
  have g1 := K.sum
  have g2 := K.enumerate
  have hs1 : (S.map PV.int).length ≤ sizeLine := by rw [List.length_map, sizeLine_eq]; lia
  show EX _ _ _ _ (execs [.Assign [_] _ _] _) _ _
  rw [hide_tup]
  apply ex_cons
  · apply ex_assign
    · apply ev_d
      · apply ev_meth
        · exact ev_str
        · exact hasM_join
        · apply el_cons (P := is (.list (((sT S).map fun x => (⟨#[sgn x]⟩ : Str)).map .str)))
          · apply ev_d
            · apply ev_comp1
              apply comp1_ok (xs := ksL) (f := fun (p : Int × Int) => .tup [.int p.1, .int p.2]) (h := fun p => .str ⟨#[sgn ((p.2 + termS S p.1).fmod 3).toNat]⟩)
              · apply it_eq
                · apply it_callTt
                  · assumption
                  · apply el_cons
                    · exact ev_hideT (l := ksL.map (·.2)) (.cons (.cons (.cons (.cons (.cons (.cons (.cons (.cons (.cons (.cons (.cons (.cons (.cons (.cons .nil)))))))))))))) (by decide)
                    · walk_at "ev"
                    · exact star_hideT ..
                  · exact fi_enumT
                  · exact rfl
                  · exact rfl
                  · exact star_hideT ..
                  · exact rfl
                · exact rfl
              · walk_at "at"
              · exact rfl
              · decide +kernel
              · exact rfl
              · exact Nat.le_of_ble_eq_true rfl
              · intro cenv X' j hx
                apply ex_mk3
                · walk_at "at"
                · walk_at "at"
                · intro ω κ
                  apply ev_sub
                  · exact ev_str
                  · apply ev_bin
                    · apply ev_bin
                      · walk_at "ev"
                      · apply ev_callBt (R := is (.int (termS S j.1)))
                        · assumption
                        · apply el_cons
                          · apply ev_d (d' := lI (pickI S (some j.1) (some (j.1 + 1)) none))
                            · apply ev_slice_listT
                              · walk_at "ev"
                              · apply pt_some
                                walk_at "ev"
                              · apply pt_some
                                walk_at "ev"
                              · exact hs1
                            · show PV.list _ = PV.list _
                              rw [pickL_ints]
                          · walk_at "ev"
                          · exact rfl
                        · exact fn_sum
                        · exact rfl
                        · exact rfl
                      · walk_at "op"
                    · walk_at "ev"
                    · walk_at "op"
                  · exact sig_item (fun _ _ => rfl)
            · show PV.list _ = PV.list _
              unfold sT
              rw [List.map_map, List.map_map]; rfl
          · walk_at "ev"
        · apply fn_join (xs := (sT S).map fun x => (⟨#[sgn x]⟩ : Str))
          · rw [glue_tx, sizeLine_eq]
            show (((sT S).map sgn).toArray).size ≤ _
            rw [List.size_toArray, List.length_map, sT_len]; decide
          · rfl
        · exact rfl
        · exact rfl
        · exact rfl
        · exact rfl
        · exact rfl
      · exact congrArg PV.str (glue_tx _)
    · walk_at "at"
    · decide +kernel
    · decide +kernel
    · rw [he]; exact rfl
  apply ex_fgt
  walk_at "fgtd"
end
end
section
local macro_rules | `(tactic| walk_at "def") => `(tactic| fail)
section
variable {C : Cx} {n : Nat} {X : Addr → Prop} {Φ Ψ Ψ' Θ : Asn C} {R : Vp} {env : Env} {rest b o : List Stmt} {pos : Pos}
noncomputable def TVW (C : Cx) (n : Nat) (X : Addr → Prop) (Φ : Asn C) (t : Sem Bool) (b : Bool) (Ψ : Asn C) : Prop :=
  ∀ (A : Around) (s : Shared) (Z : Fz) (Q : Bool → Shared → Prop) (E : Value → Shared → Prop), Room n A → Inv C Z s → Φ.at_ Z s.heap →
    (∀ Z' s', StepX C X Z s Z' s' → Ψ.at_ Z' s'.heap → Q b s') → wpAny (model C.prog C.w) A t Q E s
theorem ex_ifW {t : Expr} {c : Bool} (ht : TVW C n X Φ (isTrue t env (eval t env)) c Ψ') (hb : c = true → EX C n X Ψ' (execs (b ++ rest) env) Ψ R) (ho : c = false → EX C n X Ψ' (execs (o ++ rest) env) Ψ R) :
    EX C n X Φ (execs (.If t b o pos :: rest) env) Ψ R := fun A s Z Q E hA I H k kr => by
  rw [execs_if]
  refine wpAny_bind (wpAny_standAt (wpAny_bind (ht A s Z _ E hA I H fun Z₁ s₁ x₁ H₁ => ?_)))
  cases c with
  | true => exact hb rfl A s₁ Z₁ Q E hA x₁.inv H₁ (fun Z₂ s₂ x₂ H₂ => k Z₂ s₂ (x₁.trans x₂) H₂) fun v Z₂ s₂ x₂ r => kr v Z₂ s₂ (x₁.trans x₂) r
  | false => exact ho rfl A s₁ Z₁ Q E hA x₁.inv H₁ (fun Z₂ s₂ x₂ H₂ => k Z₂ s₂ (x₁.trans x₂) H₂) fun v Z₂ s₂ x₂ r => kr v Z₂ s₂ (x₁.trans x₂) r
theorem op_ne_str {x y : Str} : OP2 C n (compareOp .NotEq) (is (.str x)) (is (.str y)) (is (.bool (x != y))) := fun A s Z u v Q E hA I hu hv k => by
  obtain ⟨_, rfl⟩ := rdi hu; obtain ⟨_, rfl⟩ := rdi hv; exact PyProof.Rows.ne_str (k _ Z _ (StepX.refl I) (.bool _))
theorem tvw_set (K : HdrK C) {nm oc : List Str} {sc : List (Str × NameKind)} {ω ω' : List (Addr × List PV)} {κ : Addr → Option Obj} {ρ : List (Option Vp)} {x : Str} {p1 apos cpos : Pos} {e1 e2 e3 : Expr} {H : Addr} {hs : List (Str × Str)} {a b c : Str} {whole : Sem Value}
    (hr : At nm ρ x (tabV H)) (he : EL C (n + 5) (FS C env nm oc sc X ρ ω κ) (spliced (backTo cpos (starEach [e1, e2] env))) [is (.str a), is (.str b)]) (u : OU ω H (hs.map hpV) ((setL hs a b).map hpV) ω') (h3 : EV C (n + 5) (FS C env nm oc sc X ρ ω' κ) (eval e3 env) (is (.str c)))
    (hn0 : a.cps.size ≤ 1000) (hn1 : (lowT a).cps.size ≤ 1000) (hn2 : noHit codeN (lowT a).cps 0 = true) (hn3 : noHit codeN a.cps 0 = true) (hv1 : b.cps.size ≤ 1000) (hv2 : noHit codeV b.cps 0 = true) (hsz : hs.length ≤ 1000) (hlow : ∀ p ∈ hs, (lowT p.1).cps.size ≤ 1000)
    (hbase : attributeBase (.Name x p1) (sQ "setdefault") env (eval (.Name x p1) env) = eval (.Name x p1) env := by rfl) (hline : (apos.endLine == cpos.line) = true := by rfl)
    (hform : methodCallForm (([e1, e2] : List Expr).length + ([] : List Keyword).length) (backTo cpos (starEach [e1, e2] env)) (backToKw cpos (keywordEach [] env)) = true := by rfl) (hst : starEach [e1, e2] env = (false, eval e1 env) :: starEach [e2] env := by rfl) (hm : behindInMarks .NotEq e3 = false := by rfl) :
    TVW C (n + 5) X (FS C env nm oc sc X ρ ω κ) (isTrue (.Compare (.Call (.Attribute (.Name x p1) (sQ "setdefault") apos) [e1, e2] [] cpos) [.NotEq] [e3] pos) env whole) (setR hs a b != c) (FS C env nm oc sc X ρ ω' κ) := fun A s Z Q E hA I Hh k => by
  obtain ⟨doc, pm, cc, hfo, hcd⟩ := K.setd
  obtain ⟨mN, N, ga, gh, _, hg⟩ := K.ns2
  refine wpAny_isTrue_Compare1 ?_ hm
  refine call_own hbase hform hline (ev_name (n := n + 5) hr A s Z _ E hA I Hh fun v Z₁ s₁ x₁ pv => ?_)
  have H₁ := (FS C env nm oc sc X ρ ω κ).stable I Hh x₁
  have pv0 := pv
  obtain ⟨T, rfl, ht⟩ := pv
  refine ⟨T, 262, { cls := .type "function", data := .func (mFd (mthSt pw 77 15) (sQ "Headers.setdefault") .none doc pm (.ref cc)) }, mFd (mthSt pw 77 15) (sQ "Headers.setdefault") .none doc pm (.ref cc), rfl, rfl, fun E' Q' pl q => inst_meth2 K x₁.inv (H := H) N ga gh hg hfo lk_setd (instM_none (by decide +kernel)) ht q, ?_⟩
  have he' := he A s₁ Z₁
  rw [hst] at he' ⊢
  refine Calls.evalArgs_plain (he' _ E hA x₁.inv H₁ fun vs Z₂ s₂ x₂ ps => ⟨x₂.inv.heap _ _ (x₂.inv.base _ _ hfo), ?_⟩)
  have H₂ := (FS C env nm oc sc X ρ ω κ).stable x₁.inv H₁ x₂
  obtain ⟨v1, _, rfl, r1, ps⟩ := sati ps
  obtain ⟨v2, _, rfl, r2, ps⟩ := sati ps
  obtain rfl := sati ps
  refine setd_call K (n := n) hn0 hn1 hn2 hn3 hv1 hv2 hsz hlow hA x₂.inv (Vp.mono _ x₂.le pv0) (H₂.own _ u.mem) r1 r2 fun v Z₃ s₃ x₃ ho rv => ?_
  obtain ⟨st, H₃⟩ := H₂.reown x₂.inv u x₃ ho
  refine h3 A s₃ Z₃ _ E hA x₃.inv H₃ fun w Z₄ s₄ x₄ pw => ?_
  refine op_ne_str (n := n + 5) A s₄ Z₄ v w _ E hA x₄.inv (rv.le x₄.le) pw fun r Z₅ s₅ x₅ pr => ?_
  obtain rfl := rdi pr
  exact wpAny_truthy_bool (k Z₅ s₅ (((((Step.to x₁).trans (Step.to x₂)).trans st).trans (Step.to x₄)).trans (Step.to x₅)) ((FS C env nm oc sc X ρ ω' κ).stable x₄.inv ((FS C env nm oc sc X ρ ω' κ).stable x₃.inv H₃ x₄) x₅))
end
end
section
noncomputable abbrev pcL (ps : List Nat) : List PV := ps.map fun q => .str (pcS q)
theorem last_map {α β : Type} (f : α → β) (l : List α) : (l.map f).getLast? = l.getLast?.map f := by
  rw [List.getLast?_map]
theorem pcs_test {ps : List Nat} (hp : ∀ q ∈ ps, q < 5) {x : Nat} (hx : x < 3) : ((pcS x != sQ "~") && eqN 1 (.list ((pcL ps).getLast?).toList) (.list [.str (pcS x)])) = decide (x ≠ 0 ∧ ps.getLast? = some x) := by
  have e1 : (pcS x != sQ "~") = decide (x ≠ 0) := by
    rcases (show x = 0 ∨ x = 1 ∨ x = 2 by lia) with rfl | rfl | rfl <;> decide +kernel
  have e2 : eqN 1 (.list ((pcL ps).getLast?).toList) (.list [.str (pcS x)]) = decide (ps.getLast? = some x) := by
    rw [last_map]
    cases h : ps.getLast? with
    | none => rfl
    | some q =>
      show ((pcS q == pcS x) && true) = _
      rw [Bool.and_true]
      by_cases e : q = x
      · subst e
        rw [decide_eq_true rfl]; exact beq_self_eq_true _
      · rw [decide_eq_false (fun h => e (Option.some.inj h))]
        exact beq_false_of_ne fun h' => e (pcS_inj (hp q (List.mem_of_getLast? h)) (by lia) h')
  rw [e1, e2, Bool.decide_and]
theorem pcN_lt {ps : List Nat} (hp : ∀ q ∈ ps, q < 5) {x : Nat} (hx : x < 3) : ∀ q ∈ pcN ps x, q < 5 := by
  unfold pcN
  intro q hq
  split at hq
  · rcases List.mem_append.mp hq with h | h
    · exact hp q (List.dropLast_subset ps h)
    · have := List.mem_singleton.mp h; lia
  · rcases List.mem_append.mp hq with h | h
    · exact hp q h
    · have := List.mem_singleton.mp h; lia
theorem pcN_len (ps : List Nat) (x : Nat) : (pcN ps x).length ≤ ps.length + 1 := by
  unfold pcN
  split
  · rw [List.length_append, List.length_dropLast]; simp only [List.length_cons, List.length_nil]; lia
  · rw [List.length_append]; exact Nat.le_refl _
theorem twice {x : Nat} (h0 : x ≠ 0) (hx : x < 3) : pcS x ++ pcS x = pcS (x + 2) := by
  rcases (show x = 1 ∨ x = 2 by lia) with rfl | rfl <;> decide +kernel
theorem pcS_len (q : Nat) : (pcS q).length ≤ 2 := by
  unfold pcS
  split
  · decide +kernel
  · split
    · decide +kernel
    · split
      · decide +kernel
      · split <;> decide +kernel
theorem chr_tx {s : List Nat} (h : sg3 s) : chrL (txS s) = pcL s := by
  show ((s.map sgn).toArray.toList).map (fun c => PV.str ⟨#[c]⟩) = _
  rw [List.map_map]
  exact List.map_congr_left fun x hx => congrArg PV.str (pcS_sgn (h x hx))
theorem tx_ascii {s : List Nat} : (txS s).cps.all (· < 128) = true := by
  show ((s.map sgn).toArray).all (· < 128) = true
  rw [List.all_toArray, List.all_eq_true]
  intro c hc
  obtain ⟨x, _, rfl⟩ := List.mem_map.mp hc
  unfold sgn
  split
  · rfl
  · split <;> rfl
section
variable {C : Cx} {X : Addr → Prop} {κ : Addr → Option Obj} {env : Env} {q : Str} {doc pm cd : Value} {L f : Addr} {R : Vp}
theorem v_4 (he : env = callEnvC (fdOf (stAt pw 83) q doc pm cd) L f) (p1 p2 p3 : Vp) : EX C 40 X (FS C env nmS nmS (scOf (stAt pw 83)) X [none, none, some (p1), some (p2), some (p3), none, none, none, none, none, none, none, none, none, none] [] κ) (execs [inSt pw 83 4] env)
    (FS C env nmS nmS (scOf (stAt pw 83)) X [none, none, some (p1), some (p2), some (p3), some (is (.list [])), none, none, none, none, none, none, none, none, none] [] κ) R := by
  show EX _ _ _ _ (execs [.Assign [_] _ _] _) _ _
  apply ex_cons
  · apply ex_assign
    · walk_at "ev"
    · walk_at "at"
    · decide +kernel
    · decide +kernel
    · rw [he]; exact rfl
  apply ex_fgt
  walk_at "fgtd"
theorem v_5 (he : env = callEnvC (fdOf (stAt pw 83) q doc pm cd) L f) (s : List Nat) (hs : sg3 s) (hl : s.length ≤ 100) (p1 p2 : Vp) : EX C 40 X (FS C env nmS nmS (scOf (stAt pw 83)) X [none, none, some (p1), some (p2), some (is (.str (txS s))), some (is (.list [])), none, none, none, none, none, none, none, none, none] [] κ) (execs [inSt pw 83 5] env)
    (FS C env nmS nmS (scOf (stAt pw 83)) X [none, none, some (p1), some (p2), some (is (.str (txS s))), some (is (.list (pcL (pcs s)))), none, none, none, none, none, none, none, none, none] [] κ) R := by
  show EX _ _ _ _ (execs [.For _ _ _ _ _] _) _ _
  have hpc : ∀ i, (∀ q ∈ (s.take i).foldl pcN [], q < 5) ∧ ((s.take i).foldl pcN []).length ≤ i := by
    intro i
    induction i with
    | zero => exact ⟨fun q h => (nomatch h), Nat.le_refl _⟩
    | succ i ih =>
      rw [List.take_add_one, List.foldl_append]
      cases h : s[i]? with
      | none => exact ⟨ih.1, Nat.le_succ_of_le ih.2⟩
      | some x =>
        have hx := hs x (List.mem_of_getElem? h)
        exact ⟨pcN_lt ih.1 hx, Nat.le_trans (pcN_len _ _) (Nat.succ_le_succ ih.2)⟩
  apply exs_forV (ρs := fun i => [none, none, some (p1), some (p2), some (is (.str (txS s))), some (is (.list (pcL ((s.take i).foldl pcN [])))), none, none, none, none, none, none, none, none, none]) (ωs := fun _ => []) rfl rfl
  · apply it_eq
    · apply it_str
      · walk_at "ev"
      · exact tx_ascii
    · exact chr_tx hs
  · intro i; rfl
  · intro b hb κ' i d hd
    subst hb
    rw [List.getElem?_map] at hd
    cases hx : s[i]? with
    | none => rw [hx] at hd; cases hd
    | some x =>
      rw [hx] at hd
      obtain rfl : PV.str (pcS x) = d := Option.some.inj hd
      have hx3 := hs x (List.mem_of_getElem? hx)
      obtain ⟨h5, hln⟩ := hpc i
      have hil : i < s.length := (List.getElem?_eq_some_iff.mp hx).1
      have en : (s.take (i + 1)).foldl pcN [] = pcN ((s.take i).foldl pcN []) x := by
        rw [List.take_add_one, hx, List.foldl_append]; rfl
      rw [en]
      generalize (s.take i).foldl pcN [] = ps at h5 hln ⊢
      have hsz : (pcL ps).length ≤ sizeLine := by rw [List.length_map, sizeLine_eq]; lia
      have hsz2 : (pcL ps).length + 1 ≤ sizeLine := by rw [List.length_map, sizeLine_eq]; lia
      apply ex_mk
      · walk_at "at"
      apply ex_cons
      · apply ex_assign (P := is (.list (pcL (pcN ps x))))
        · apply ev_ifexp (c := decide (x ≠ 0 ∧ ps.getLast? = some x))
          · apply tv_eq
            · apply tv_and
              · apply tv_cmp
                · walk_at "ev"
                · exact ev_str
                · exact op_ne_str
                · exact rfl
              · intro _
                apply tv_cmp
                · apply ev_slice_listT
                  · walk_at "ev"
                  · apply pt_some
                    walk_at "ev"
                  · exact pt_none
                  · exact hsz
                · walk_at "ev"
                · rw [pick_last]
                  refine op_eq_list 0 (by decide) ?_
                  rw [last_map]
                  cases ps.getLast? <;> rfl
                · exact rfl
            · exact pcs_test h5 hx3
          · intro h
            have h := of_decide_eq_true h
            have e : pcN ps x = ps.dropLast ++ [x + 2] := by unfold pcN; rw [if_pos h]
            rw [e]
            apply ev_d
            · apply ev_bin
              · apply ev_slice_listT
                · walk_at "ev"
                · exact pt_none
                · apply pt_some
                  walk_at "ev"
                · exact hsz
              · apply ev_listL
                · apply el_cons
                  · apply ev_bin
                    · walk_at "ev"
                    · walk_at "ev"
                    · exact op_add_str (by rw [app_len, sizeLine_eq]; exact Nat.le_trans (Nat.add_le_add (pcS_len x) (pcS_len x)) (by decide))
                  · walk_at "ev"
                  · exact rfl
                · walk_at "at"
                · exact Nat.le_of_ble_eq_true rfl
              · rw [pick_init]
                refine op_add_list ?_
                rw [List.length_dropLast]
                simp only [List.length_cons, List.length_nil]
                lia
            · show PV.list ((pcL ps).dropLast ++ [.str (pcS x ++ pcS x)]) = PV.list ((ps.dropLast ++ [x + 2]).map _)
              rw [List.map_append, twice h.1 hx3, List.map_dropLast]; rfl
          · intro h
            have h := of_decide_eq_false h
            have e : pcN ps x = ps ++ [x] := by unfold pcN; rw [if_neg h]
            rw [e]
            apply ev_d
            · apply ev_bin
              · walk_at "ev"
              · walk_at "ev"
              · exact op_add_list hsz2
            · show PV.list (pcL ps ++ [.str (pcS x)]) = PV.list ((ps ++ [x]).map _)
              rw [List.map_append]; rfl
        · walk_at "at"
        · decide +kernel
        · decide +kernel
        · rw [he]; exact rfl
      apply ex_fgt
      walk_at "fgtd"
  · show EX _ _ _ (FS _ _ _ _ _ _ ([none, none, some (p1), some (p2), some (is (.str (txS s))), some (is (.list (pcL ((s.take (pcL s).length).foldl pcN [])))), none, none, none, none, none, none, none, none, none]) _ _) _ _ _
    rw [List.length_map, List.take_length, pcN_all hs]
    apply ex_fgt
    walk_at "fgtd"
end
end
section
theorem eqN_ints : ∀ l : List Int, eqN 1 (.list (l.map .int)) (.list (l.map .int)) = true := fun l => by
  show ((l.map PV.int).length == (l.map PV.int).length && ((l.map PV.int).zip (l.map PV.int)).all fun p => eqN 0 p.1 p.2) = true
  rw [beq_self_eq_true, Bool.true_and, List.all_eq_true]
  intro p hp
  have e := zip_self hp
  obtain ⟨a, _, ea⟩ := List.mem_map.mp (List.of_mem_zip hp).1
  rw [← e, ← ea, eqN_int]; exact beq_self_eq_true a
theorem okN_ints : ∀ l m : List Int, okN 1 (.list (l.map .int)) (.list (m.map .int)) = true := fun l m => by
  show ((l.map PV.int).length != (m.map PV.int).length || ((l.map PV.int).zip (m.map PV.int)).all fun p => okN 0 p.1 p.2) = true
  rw [Bool.or_eq_true]
  right
  rw [List.all_eq_true]
  intro p hp
  obtain ⟨a, _, ea⟩ := List.mem_map.mp (List.of_mem_zip hp).1
  obtain ⟨b, _, eb⟩ := List.mem_map.mp (List.of_mem_zip hp).2
  rw [← ea, ← eb]; rfl
noncomputable def rowQ : List (Str × Int) := [(sTil, 31), (sLt, 20), (sGt, 21), (sLt2, 33), (sGt2, 34)]
noncomputable def trnQ : List (Str × Int) := [(sTil, 0), (sLt, 1), (sLt2, 2), (sGt, 2), (sGt2, 4)]
theorem look_row {q : Nat} (hq : q < 5) : look (kvI rowQ) (pcS q) = some (.int (symQ q)) := by
  rcases (show q = 0 ∨ q = 1 ∨ q = 2 ∨ q = 3 ∨ q = 4 by lia) with rfl | rfl | rfl | rfl | rfl <;> kernel_rfl
theorem look_trn {q : Nat} (hq : q < 5) : look (kvI trnQ) (pcS q) = some (.int (trQ q : Nat)) := by
  rcases (show q = 0 ∨ q = 1 ∨ q = 2 ∨ q = 3 ∨ q = 4 by lia) with rfl | rfl | rfl | rfl | rfl <;> kernel_rfl
theorem seq_last (n : Nat) : seqIndex? (-1) (n + 1) = some n := by
  unfold seqIndex?
  simp only [show ((-1 : Int) < 0) = True from by simp, if_true]
  rw [if_pos (by simp; lia)]
  congr 1; lia
theorem ex_setd {C : Cx} (K : HdrK C) {n : Nat} {X : Addr → Prop} {R : Vp} {env : Env} {nm oc : List Str} {sc : List (Str × NameKind)} {ω ω' : List (Addr × List PV)} {κ : Addr → Option Obj} {ρ : List (Option Vp)} {x : Str} {p1 apos cpos epos : Pos} {e1 e2 : Expr} {H : Addr} {hs : List (Str × Str)} {a b : Str}
    (hr : At nm ρ x (tabV H)) (he : EL C (n + 5) (FS C env nm oc sc X ρ ω κ) (spliced (backTo cpos (starEach [e1, e2] env))) [is (.str a), is (.str b)]) (u : OU ω H (hs.map hpV) ((setL hs a b).map hpV) ω')
    (hn0 : a.cps.size ≤ 1000) (hn1 : (lowT a).cps.size ≤ 1000) (hn2 : noHit codeN (lowT a).cps 0 = true) (hn3 : noHit codeN a.cps 0 = true) (hv1 : b.cps.size ≤ 1000) (hv2 : noHit codeV b.cps 0 = true) (hsz : hs.length ≤ 1000) (hlow : ∀ p ∈ hs, (lowT p.1).cps.size ≤ 1000)
    (hi : interactive env = false)
    (hbase : attributeBase (.Name x p1) (sQ "setdefault") env (eval (.Name x p1) env) = eval (.Name x p1) env := by rfl) (hline : (apos.endLine == cpos.line) = true := by rfl)
    (hform : methodCallForm (([e1, e2] : List Expr).length + ([] : List Keyword).length) (backTo cpos (starEach [e1, e2] env)) (backToKw cpos (keywordEach [] env)) = true := by rfl) (hst : starEach [e1, e2] env = (false, eval e1 env) :: starEach [e2] env := by rfl) :
    EX C (n + 5) X (FS C env nm oc sc X ρ ω κ) (exec (.Expr (.Call (.Attribute (.Name x p1) (sQ "setdefault") apos) [e1, e2] [] cpos) epos) env) (FS C env nm oc sc X ρ ω' κ) R := fun A s Z Q E hA I Hh kn kr => by
  obtain ⟨doc, pm, cc, hfo, hcd⟩ := K.setd
  obtain ⟨mN, N, ga, gh, _, hg⟩ := K.ns2
  rw [PySem.exec_Expr (hi := hi) (hs := rfl)]
  refine wpAny_bind (wpAny_standAt (wpAny_bind ?_))
  refine call_own hbase hform hline (ev_name (n := n + 5) hr A s Z _ E hA I Hh fun v Z₁ s₁ x₁ pv => ?_)
  have H₁ := (FS C env nm oc sc X ρ ω κ).stable I Hh x₁
  have pv0 := pv
  obtain ⟨T, rfl, ht⟩ := pv
  refine ⟨T, 262, { cls := .type "function", data := .func (mFd (mthSt pw 77 15) (sQ "Headers.setdefault") .none doc pm (.ref cc)) }, mFd (mthSt pw 77 15) (sQ "Headers.setdefault") .none doc pm (.ref cc), rfl, rfl, fun E' Q' pl q => inst_meth2 K x₁.inv (H := H) N ga gh hg hfo lk_setd (instM_none (by decide +kernel)) ht q, ?_⟩
  have he' := he A s₁ Z₁
  rw [hst] at he' ⊢
  refine Calls.evalArgs_plain (he' _ E hA x₁.inv H₁ fun vs Z₂ s₂ x₂ ps => ⟨x₂.inv.heap _ _ (x₂.inv.base _ _ hfo), ?_⟩)
  have H₂ := (FS C env nm oc sc X ρ ω κ).stable x₁.inv H₁ x₂
  obtain ⟨v1, _, rfl, r1, ps⟩ := sati ps
  obtain ⟨v2, _, rfl, r2, ps⟩ := sati ps
  obtain rfl := sati ps
  refine setd_call K (n := n) hn0 hn1 hn2 hn3 hv1 hv2 hsz hlow hA x₂.inv (Vp.mono _ x₂.le pv0) (H₂.own _ u.mem) r1 r2 fun v Z₃ s₃ x₃ ho rv => ?_
  obtain ⟨st, H₃⟩ := H₂.reown x₂.inv u x₃ ho
  obtain ⟨_, rfl⟩ := rdi rv
  rw [dropValue_plain (by intro _ q; cases q)]
  exact wpAny_pure (kn Z₃ s₃ (((Step.to x₁).trans (Step.to x₂)).trans st) H₃)
section
variable {C : Cx} {X : Addr → Prop} {κ : Addr → Option Obj} {env : Env} {q : Str} {doc pm cd : Value} {L f : Addr} {R : Vp}
theorem v_6 (he : env = callEnvC (fdOf (stAt pw 83) q doc pm cd) L f) (K : LawV C) (s : List Nat) (hs : sg3 s) (hl : s.length ≤ 100) (p1 p2 p3 : Vp) : EX C 40 X (FS C env nmS nmS (scOf (stAt pw 83)) X [none, none, some (p1), some (p2), some (is (.str (txS s))), some (p3), none, none, none, none, none, none, none, none, none] [] κ) (execs [inSt pw 83 6] env)
    (FS C env nmS nmS (scOf (stAt pw 83)) X [none, none, some (p1), some (p2), none, some (p3), none, some (is (li ((pcs s).map symQ ++ [0]))), none, none, none, none, none, none, none] [] κ) R := by
  have hx : (txS s).length ≤ 1000 := by
    show ((s.map sgn).toArray).size ≤ _
    rw [List.size_toArray, List.length_map]; lia
  show EX _ _ _ _ (execs [.Assign [_] _ _] _) _ _
  apply ex_cons
  · apply ex_assign
    · apply ev_d
      · apply ev_callD
        · walk_at "ev"
        · exact d_row K.toLawL (txS s) hx (row_sz hs)
        · decide
        · exact rfl
        · exact rfl
        · exact rfl
      · rw [row_tx hs]
    · walk_at "at"
    · decide +kernel
    · decide +kernel
    · rw [he]; exact rfl
  apply ex_fgt
  walk_at "fgtd"
theorem v_7 (he : env = callEnvC (fdOf (stAt pw 83) q doc pm cd) L f) (K : LawV C) (ps : List Nat) (hp : ∀ q ∈ ps, q < 5) (hl : ps.length ≤ 100) (p1 p2 : Vp) : EX C 40 X (FS C env nmS nmS (scOf (stAt pw 83)) X [none, none, some (p1), some (p2), none, some (is (.list (pcL ps))), none, some (is (li (ps.map symQ ++ [0]))), none, none, none, none, none, none, none] [] κ) (execs [inSt pw 83 7] env)
    (FS C env nmS nmS (scOf (stAt pw 83)) X [none, none, some (p1), some (p2), none, some (is (.list (pcL ps))), none, some (is (li (ps.map symQ ++ [0]))), none, none, none, none, none, none, none] [] κ) R := by
  have g1 := d_eof K.toLawK 0
  have hlen : ((ps.map symQ ++ [0]).map PV.int).length = ps.length + 1 := by rw [List.length_map, List.length_append, List.length_map]; rfl
  show EX _ _ _ _ (execs [.If _ _ _ _] _) _ _
  rw [hide_dict]
  apply ex_ifs (c := false)
  · apply tv_orF
    · apply tv_eq
      · apply tv_cmp
        · walk_at "ev"
        · apply ev_d (d' := li (ps.map symQ ++ [0]))
          · apply ev_bin
            · apply ev_comp1
              apply comp1_ok (xs := ps) (f := fun (q : Nat) => .str (pcS q)) (h := fun q => .int (symQ q))
              · apply it_eq
                · apply it_list
                  walk_at "ev"
                · exact rfl
              · walk_at "at"
              · exact rfl
              · decide +kernel
              · exact rfl
              · (rw [sizeLine_eq]; lia)
              · intro cenv X' j hx
                apply ex_mk3
                · walk_at "at"
                · walk_at "at"
                · intro ω κ
                  apply ev_sub
                  · exact ev_hideD (l := rowQ) (.cons (.cons (.cons (.cons (.cons .nil))))) (by decide +kernel) (by decide) (by decide)
                  · walk_at "ev"
                  · exact op_item_dictD (look_row (hp j hx)) (fun _ _ => rfl)
            · walk_at "ev"
            · refine op_add_list ?_
              simp only [List.length_map, List.length_cons, List.length_nil, sizeLine_eq]; lia
          · show PV.list (ps.map (fun q => PV.int (symQ q)) ++ [.int 0]) = _
            unfold li
            rw [List.map_append, List.map_map]; rfl
        · exact op_ne_list 0 (by decide) (okN_ints _ _)
        · exact rfl
      · rw [eqN_ints]; rfl
    · apply tv_eq
      · apply tv_cmp
        · apply ev_callD
          · apply el_cons
            · apply ev_sub
              · walk_at "ev"
              · walk_at "ev"
              · apply op_item_list (j := ps.length) (d := .int 0)
                · rw [hlen]; exact seq_last _
                · rw [List.map_append, List.getElem?_append_right (by rw [List.length_map, List.length_map]; exact Nat.le_refl _), List.length_map, List.length_map, Nat.sub_self]; rfl
                · rw [hlen]; lia
            · walk_at "ev"
            · exact rfl
          · exact g1
          · decide
          · exact rfl
          · exact rfl
          · exact rfl
        · walk_at "ev"
        · exact op_isnot_bool
        · exact rfl
      · rfl
  · intro h; cases h
  · intro _
    simp only [List.nil_append]
    apply ex_fgt
    walk_at "fgtd"
end
end
section
open PySem.SeqAt
@[irreducible] def hideE (e : Expr) : Expr := e
theorem hide_meth (c : Const) (j : Nat) (p ap : PySem.Pos) (nm : Str) (es : List Expr) (ks : List Keyword) (pos : PySem.Pos) : Expr.Call (.Attribute (.Constant c j p) nm ap) es ks pos = hideE (.Call (.Attribute (.Constant c j p) nm ap) es ks pos) := by unfold hideE; rfl
theorem ev_unhide {C : Cx} {n : Nat} {Φ : Asn C} {env : Env} {e : Expr} {R : Vp} (h : EV C n Φ (eval e env) R) : EV C n Φ (eval (hideE e) env) R := by unfold hideE; exact h
end
section
theorem log_abs {a : Int} (h : a.natAbs < 2 ^ 64) : a.natAbs.log2 < 1920 := by
  rcases Nat.eq_zero_or_pos a.natAbs with e | e
  · rw [e]; decide
  · have := (Nat.log2_lt (by lia)).mpr h
    lia
theorem tv_orF3 {C : Cx} {n : Nat} {Φ : Asn C} {env : Env} {a b d : Expr} {pos : PySem.Pos} {whole : Sem Value} {c : Bool} (h1 : TV C n Φ (isTrue a env (eval a env)) false) (h2 : TV C n Φ (isTrue b env (eval b env)) false) (h3 : TV C n Φ (isTrue d env (eval d env)) c) : TV C n Φ (isTrue (.BoolOp .Or [a, b, d] pos) env whole) c := fun A s Z Q E hA I H k => by
  refine wpAny_isTrue_BoolOp ?_
  show wpAny _ _ (isTrue a env (eval a env) >>= _) _ _ _
  refine wpAny_bind (h1 A s Z _ E hA I H fun Z₁ s₁ x₁ => ?_)
  show wpAny _ _ (isTrue b env (eval b env) >>= _) _ _ _
  refine wpAny_bind (h2 A s₁ Z₁ _ E hA x₁.inv (Φ.stable I H x₁) fun Z₂ s₂ x₂ => ?_)
  show wpAny _ _ (isTrue d env (eval d env) >>= _) _ _ _
  refine wpAny_bind (h3 A s₂ Z₂ _ E hA x₂.inv (Φ.stable x₁.inv (Φ.stable I H x₁) x₂) fun Z₃ s₃ x₃ => ?_)
  cases c
  · exact wpAny_pure (k Z₃ s₃ ((x₁.trans x₂).trans x₃))
  · exact wpAny_pure (k Z₃ s₃ ((x₁.trans x₂).trans x₃))
theorem rot_act {c : T3} {q : Nat} (hq : q < 5) (h0 : q ≠ 0) : rotL c (trQ q) = liT (actN (trQ q) c) := by
  rcases (show q = 1 ∨ q = 2 ∨ q = 3 ∨ q = 4 by lia) with rfl | rfl | rfl | rfl <;> rfl
theorem sym_facts {q : Nat} (hq : q < 5) : (symQ q == 0) = false ∧ decide (symQ q < 256) = true ∧ decide (256 ≤ symQ q) = false := by
  rcases (show q = 0 ∨ q = 1 ∨ q = 2 ∨ q = 3 ∨ q = 4 by lia) with rfl | rfl | rfl | rfl | rfl <;> decide
theorem half_mod (i : Nat) : ((i : Int).fdiv 2).fmod 2 = ((i / 2 % 2 : Nat) : Int) := by
  rw [Int.fdiv_eq_ediv_of_nonneg _ (by decide), Int.fmod_eq_emod_of_nonneg _ (by decide)]; lia
theorem let_item {C : Cx} {n : Nat} {v sl : Expr} {i : Nat} (hs : ∀ o i, subscripted sl false o i = operate [o, i] (getItem o i)) : OP2 C n (subscriptTail v sl) (is (.tup [.str (sQ "C"), .str (sQ "c")])) (is (.int (((i : Int).fdiv 2).fmod 2))) (is (.str (ltr (i + 1)))) := by
  rw [half_mod]
  unfold ltr
  rw [if_neg (by lia), Nat.add_sub_cancel]
  rcases (show i / 2 % 2 = 0 ∨ i / 2 % 2 = 1 by lia) with h | h
  · rw [h]; exact op_item_tup (j := 0) rfl rfl (by decide) (by decide) hs
  · rw [h]; exact op_item_tup (j := 1) rfl rfl (by decide) (by decide) hs
noncomputable def shL (qs : List Nat) (i : Nat) : List Str := (List.range (i + 1)).map fun j => strW (wdF qs j)
theorem shL_len (qs : List Nat) (i : Nat) : (shL qs i).length = i + 1 := by unfold shL; rw [List.length_map, List.length_range]
theorem shL_get (qs : List Nat) {i j : Nat} (h : j ≤ i) : (shL qs i)[j]? = some (strW (wdF qs j)) := by
  unfold shL
  rw [List.getElem?_map, List.getElem?_range (by lia)]; rfl
theorem shL_succ (qs : List Nat) (i : Nat) : shL qs (i + 1) = shL qs i ++ [strW (wdF qs (i + 1))] := by
  unfold shL
  rw [List.range_succ (n := i + 1), List.map_append]; rfl
theorem shL_first (qs : List Nat) {n i : Nat} (h : i ≤ n) : (shL qs n)[fsI (wdF qs) i]? = some (strW (wdF qs i)) ∧ ∀ m < fsI (wdF qs) i, (shL qs n)[m]? ≠ some (strW (wdF qs i)) := by
  obtain ⟨a, b, c⟩ := fs_spec (wdF qs) i
  refine ⟨by rw [shL_get qs (by lia), b], fun m hm q => ?_⟩
  rw [shL_get qs (by lia)] at q
  exact c m hm (strW_inj (wd_red qs m).lt (wd_red qs i).lt (Option.some.inj q))
theorem abs_small {a : Int} (h : -4920 ≤ a ∧ a ≤ 13440) : a.natAbs < 10 ^ 10 := by lia
theorem tbl_low {qs : List Nat} {c0 : T3} (hw : ∀ i ≤ 14, Wide3 (valW (wdF qs i) c0)) {i : Nat} (hi : i ≤ 14) : ∀ p ∈ tblC qs c0 i, (lowT p.1).cps.size ≤ 1000 := by
  intro p hp
  obtain ⟨k, hk, rfl⟩ := List.mem_map.mp hp
  have hk := List.mem_range.mp (List.mem_filter.mp hk).1
  obtain ⟨a, b, d, _⟩ := hw k (by lia)
  show (lowT (nmC _ _)).cps.size ≤ 1000
  rw [low_nm (ltr_or k)]
  exact Nat.le_trans (nmC_len (.inl rfl) ⟨abs_small a, abs_small b, abs_small d⟩) (by decide)
theorem tbl_len (qs : List Nat) (c0 : T3) (i : Nat) : (tblC qs c0 i).length ≤ i + 1 := by
  unfold tblC
  rw [List.length_map]
  exact Nat.le_trans (List.length_filter_le _ _) (by rw [List.length_range]; exact Nat.le_refl _)
theorem tbl_zero (qs : List Nat) (c0 : T3) : setL [] (nmC lc c0) (sQ "0") = tblC qs c0 0 := by
  have e : numT ((0 : Nat) : Int) = sQ "0" := by decide +kernel
  have e2 : fsI (wdF qs) 0 = 0 := Nat.le_zero.mp (fs_spec (wdF qs) 0).1
  unfold tblC
  rw [show List.range (0 + 1) = [0] from rfl, List.filter_cons, e2]
  show [(nmC lc c0, sQ "0")] = [(nmC (ltr 0) c0, numT ((0 : Nat) : Int))]
  rw [e]; rfl
structure NmOk (c : T3) : Prop where
  a : c.1.natAbs < 10 ^ 10
  b : c.2.1.natAbs < 10 ^ 10
  d : c.2.2.natAbs < 10 ^ 10
theorem Wide3.nm {c : T3} (h : Wide3 c) : NmOk c := by
  obtain ⟨a, b, d, _⟩ := h
  exact ⟨abs_small a, abs_small b, abs_small d⟩
structure NmF (l : Str) (c : T3) : Prop where
  z : (nmC l c).cps.size ≤ 1000
  lw : (lowT (nmC l c)).cps.size ≤ 1000
  n1 : noHit codeN (lowT (nmC l c)).cps 0 = true
  n2 : noHit codeN (nmC l c).cps 0 = true
theorem nm_f {l : Str} (hl : l = lc ∨ l = lC) {c : T3} (h : NmOk c) : NmF l c := by
  have e := nmC_len hl ⟨h.a, h.b, h.d⟩
  have e2 := nmC_len (l := lc) (.inl rfl) ⟨h.a, h.b, h.d⟩
  refine ⟨Nat.le_trans e (by decide), by rw [low_nm hl]; exact Nat.le_trans e2 (by decide), by rw [low_nm hl]; exact noHitN (nmC_ok (.inl rfl) c), noHitN (nmC_ok hl c)⟩
theorem glue_ok {c : T3} (h : NmOk c) : (Builtin.Str.glued (sQ ".") [numT c.1, numT c.2.1, numT c.2.2]).length ≤ sizeLine ∧ Builtin.Str.tooLong ([numT c.1, numT c.2.1, numT c.2.2].toArray.foldl (· + ·.length + (sQ ".").length) 0) = false := by
  refine ⟨Nat.le_trans (glC_len ⟨h.a, h.b, h.d⟩) (by rw [sizeLine_eq]; decide), ?_⟩
  have e1 := numC_len h.a
  have e2 := numC_len h.b
  have e3 := numC_len h.d
  have f1 : (numT c.1).length = (numC c.1).length := (Array.length_toList ..).symm
  have f2 : (numT c.2.1).length = (numC c.2.1).length := (Array.length_toList ..).symm
  have f3 : (numT c.2.2).length = (numC c.2.2).length := (Array.length_toList ..).symm
  show decide (0 + (numT c.1).length + _ + (numT c.2.1).length + _ + (numT c.2.2).length + _ > sizeLine) = false
  rw [decide_eq_false_iff_not, sizeLine_eq]
  have : (sQ ".").length = 1 := by decide +kernel
  lia
section
variable {C : Cx} {X : Addr → Prop} {κ : Addr → Option Obj} {env : Env} {q : Str} {doc pm cd : Value} {L f : Addr} {R : Vp}
theorem v_9 (he : env = callEnvC (fdOf (stAt pw 83) q doc pm cd) L f) (K : LawV C) (H : HdrK C) (qs : List Nat) (c0 : T3) (hn : NmOk c0) (p1 p2 p3 p4 : Vp) (Ht Hs : Addr) (ω : List (Addr × List PV)) : EX C 40 X (FS C env nmS nmS (scOf (stAt pw 83)) X [none, none, some (p1), some (p2), none, some (p3), none, some (p4), some (is (liT c0)), some (is (liT c0)), some (isv (.ref Hs)), some (tabV Ht), none, none, none] [(Ht, []), (Hs, (shL qs 0).map .str)] κ) (execs [inSt pw 83 9] env)
    (FS C env nmS nmS (scOf (stAt pw 83)) X [none, none, some (p1), some (p2), none, some (p3), none, some (p4), some (is (liT c0)), some (is (liT c0)), some (isv (.ref Hs)), some (tabV Ht), none, none, none] [(Ht, (tblC qs c0 0).map hpV), (Hs, (shL qs 0).map .str)] κ) R := by
  have g1 := K.str
  have F := nm_f (.inl rfl) hn
  have e0 : (sQ "0").cps.size ≤ 1000 ∧ noHit codeV (sQ "0").cps 0 = true := by decide +kernel
  show EX _ _ _ _ (execs [.Expr (.Call _ _ _ _) _] _) _ _
  rw [← tbl_zero qs c0, hide_meth]
  apply ex_cons
  · apply ex_setd H (n := 35) (hs := [])
    · walk_at "at"
    · apply el_cons (P := is (.str (nmC lc c0)))
      · apply ev_bin
        · exact ev_str
        · apply ev_unhide
          apply ev_meth (R := is (.str (glC c0)))
          · exact ev_str
          · exact hasM_join
          · apply el_cons (P := is (.list (([numT c0.1, numT c0.2.1, numT c0.2.2]).map .str)))
            · apply ev_d
              · apply ev_comp1
                apply comp1_ok (xs := [c0.1, c0.2.1, c0.2.2]) (f := fun (p : Int) => .int p) (h := fun p => .str (numT p))
                · apply it_eq
                  · apply it_list
                    walk_at "ev"
                  · exact rfl
                · walk_at "at"
                · exact rfl
                · decide +kernel
                · exact rfl
                · exact Nat.le_of_ble_eq_true rfl
                · intro cenv X' j hx
                  apply ex_mk3
                  · walk_at "at"
                  · walk_at "at"
                  · intro ω κ
                    apply ev_callTt
                    · assumption
                    · walk_at "ev"
                    · refine fn_str_int (log_abs ?_)
                      simp only [List.mem_cons, List.not_mem_nil, or_false] at hx
                      rcases hx with rfl | rfl | rfl
                      · exact Nat.lt_trans hn.a (by decide)
                      · exact Nat.lt_trans hn.b (by decide)
                      · exact Nat.lt_trans hn.d (by decide)
                    · exact rfl
                    · exact rfl
                    · exact rfl
                    · exact rfl
              · rfl
            · walk_at "ev"
          · exact fn_join (glue_ok hn).1 (glue_ok hn).2
        · exact op_add_str (Nat.le_trans F.z (by rw [sizeLine_eq]; decide))
      · apply el_cons (P := is (.str (sQ "0")))
        · exact ev_str
        · walk_at "ev"
    · exact OU.here
    · exact F.z
    · exact F.lw
    · exact F.n1
    · exact F.n2
    · exact e0.1
    · exact e0.2
    · exact Nat.zero_le _
    · exact fun p hp => (nomatch hp)
    · rw [he]; rfl
  apply ex_fgt
  walk_at "fgtd"
end
end
section
open PySem.SeqAt
section
variable {C : Cx} {n : Nat} {X : Addr → Prop} {env : Env} {nm oc : List Str} {sc : List (Str × NameKind)} {ω : List (Addr × List PV)} {κ : Addr → Option Obj} {ρ : List (Option Vp)}
noncomputable def isStr (w : Str) : Value → Bool
  | .str x _ => x.cps.toList == w.cps.toList
  | _ => false
theorem isStr_at {Z : Fz} {v : Value} {x w : Str} (h : Rd Z v (.str x)) : isStr w v = decide (x = w) := by
  obtain ⟨t, rfl⟩ := rdi h
  show (x.cps.toList == w.cps.toList) = _
  by_cases e : x = w
  · rw [e, decide_eq_true rfl]; exact beq_self_eq_true _
  · rw [decide_eq_false e]
    exact beq_false_of_ne fun q => e (congrArg Str.mk (Array.toList_inj.mp q))
theorem ev_index_own {x : Str} {p1 apos pos : Pos} {e1 : Expr} {a : Addr} {xs : List Str} {w : Str} {j : Nat} (hx : At nm ρ x (isv (.ref a))) (hm : (a, xs.map .str) ∈ ω)
    (he : EL C n (FS C env nm oc sc X ρ ω κ) (spliced (backTo pos (starEach [e1] env))) [is (.str w)]) (hj : xs[j]? = some w) (hno : ∀ m < j, xs[m]? ≠ some w) (hsz : xs.length ≤ 2 ^ 24)
    (hbase : attributeBase (.Name x p1) (sQ "index") env (eval (.Name x p1) env) = eval (.Name x p1) env := by rfl)
    (hfew : ((backTo pos (starEach [e1] env)).all (fun x => !x.1) && (backToKw pos (keywordEach [] env)).all (fun x => x.1.isSome)
      && decide (([e1] : List Expr).length + ([] : List Keyword).length + (if ([] : List Keyword).isEmpty then 0 else 1) < 30)) = true := by rfl)
    (hline : (apos.endLine == pos.line) = true := by rfl) (hst : starEach [e1] env = (false, eval e1 env) :: starEach [] env := by rfl) :
    EV C n (FS C env nm oc sc X ρ ω κ) (eval (.Call (.Attribute (.Name x p1) (sQ "index") apos) [e1] [] pos) env) (is (.int j)) := fun A s Z Q E hA I H k => by
  refine wpAny_Call_method_late hbase hfew hline rfl (ev_name (n := n) hx A s Z _ E hA I H fun v Z₁ s₁ x₁ pv => ?_)
  cases pv
  have H₁ := (FS C env nm oc sc X ρ ω κ).stable I H x₁
  obtain ⟨hz, vs, mm, e, rr⟩ := H₁.own _ hm
  refine ⟨"list", "list.index", F.plainAttrs_list, PySem.F.slot_list_index, PySem.F.type_list_index, ⟨_, e, rfl⟩, fun b hb => ?_, ?_⟩
  · cases hb; exact ⟨_, e, rfl⟩
  refine Calls.callWith_builtin (by rw [hst]; rfl) ?_
  have he' := he A s₁ Z₁
  rw [hst] at he' ⊢
  refine Calls.evalArgs_plain (he' _ E hA x₁.inv H₁ fun us Z₂ s₂ x₂ ps => ?_)
  have H₂ := (FS C env nm oc sc X ρ ω κ).stable x₁.inv H₁ x₂
  obtain ⟨u, _, rfl, hu, ps⟩ := sati ps
  obtain rfl := sati ps
  obtain ⟨t, rfl⟩ := rdi hu
  obtain ⟨hz, vs, mm, e, rr⟩ := H₂.own _ hm
  have hlen : vs.length = xs.length := by rw [rr.length, List.length_map]
  have hjl : j < xs.length := (List.getElem?_eq_some_iff.mp hj).1
  have hat : ∀ i (h : i < vs.length) (h' : i < xs.length), Rd Z₂ vs[i] (.str xs[i]) := fun i h h' => rr.at (List.getElem?_eq_getElem h) (by rw [List.getElem?_map, List.getElem?_eq_getElem h']; rfl)
  refine call_meets PySem.F.slot_list_index ⟨_, e, rfl⟩ PySem.F.entry_list_index (PySem.F.args_list_index_2 _ _)
    (MeetsSeq.list_index a vs.toArray mm (.str w t) (isStr w) (fun y hy => ?_) j (by rw [List.size_toArray, hlen]; exact hjl) (by lia) ?_ ?_) ⟨e, ?_⟩
  · obtain ⟨i, hi, rfl⟩ := List.mem_iff_getElem.mp (List.mem_toArray.mp hy)
    obtain ⟨t', e'⟩ := rdi (hat i hi (by lia))
    rw [e']
    exact SeqRoads2.EqGives.str _ _ _ _
  · show isStr w vs[j] = true
    rw [isStr_at (hat j (by lia) hjl)]
    exact decide_eq_true (Option.some.inj ((List.getElem?_eq_getElem hjl).symm.trans hj))
  · intro m hm hlt
    show isStr w vs[m] = false
    rw [isStr_at (hat m (by simpa using hm) (by lia))]
    exact decide_eq_false fun q => hno m hlt (by rw [List.getElem?_eq_getElem (by lia), q])
  · exact k _ Z₂ _ ((x₁.trans x₂).trans (Step.toks x₂.inv _)) (.int _ _)
theorem hasM_index {ds : List PV} : HasM C "index" (is (.list ds)) "list.index" := ⟨"list", F.plainAttrs_list, PySem.F.slot_list_index, PySem.F.type_list_index, fun Z s v I h => by
  obtain ⟨a, m, vs, rfl, hz, r⟩ := rdi h
  have e := I.heap _ _ hz
  exact ⟨⟨_, e, rfl⟩, fun b hb => by cases hb; exact ⟨_, e, rfl⟩⟩⟩
theorem fn_index {xs : List Str} {w : Str} {j : Nat} (hj : xs[j]? = some w) (hno : ∀ m < j, xs[m]? ≠ some w) (hsz : xs.length ≤ 2 ^ 24) : FN C n (.builtin "list.index") [is (.list (xs.map .str)), is (.str w)] (is (.int j)) := fn2 fun A s Z u v Q E hA I hu hv k => by
  obtain ⟨t, rfl⟩ := rdi hv
  obtain ⟨a, mm, vs, rfl, hz, rr⟩ := rdi hu
  have e := I.heap _ _ hz
  have hlen : vs.length = xs.length := by rw [rr.length, List.length_map]
  have hjl : j < xs.length := (List.getElem?_eq_some_iff.mp hj).1
  have hat : ∀ i (h : i < vs.length) (h' : i < xs.length), Rd Z vs[i] (.str xs[i]) := fun i h h' => rr.at (List.getElem?_eq_getElem h) (by rw [List.getElem?_map, List.getElem?_eq_getElem h']; rfl)
  refine call_meets PySem.F.slot_list_index ⟨_, e, rfl⟩ PySem.F.entry_list_index (PySem.F.args_list_index_2 _ _)
    (MeetsSeq.list_index a vs.toArray mm (.str w t) (isStr w) (fun y hy => ?_) j (by rw [List.size_toArray, hlen]; exact hjl) (by lia) ?_ ?_) ⟨e, ?_⟩
  · obtain ⟨i, hi, rfl⟩ := List.mem_iff_getElem.mp (List.mem_toArray.mp hy)
    obtain ⟨t', e'⟩ := rdi (hat i hi (by lia))
    rw [e']
    exact SeqRoads2.EqGives.str _ _ _ _
  · show isStr w vs[j] = true
    rw [isStr_at (hat j (by lia) hjl)]
    exact decide_eq_true (Option.some.inj ((List.getElem?_eq_getElem hjl).symm.trans hj))
  · intro m hm hlt
    show isStr w vs[m] = false
    rw [isStr_at (hat m (by simpa using hm) (by lia))]
    exact decide_eq_false fun q => hno m hlt (by rw [List.getElem?_eq_getElem (by lia), q])
  · exact k _ Z _ (Step.toks I _) (.int _ _)
end
end
section
theorem eq_liT (c : T3) : eqN 1 (liT c) (liT c) = true := eqN_ints [c.1, c.2.1, c.2.2]
theorem tvw_eq {C : Cx} {n : Nat} {X : Addr → Prop} {Φ Ψ : Asn C} {t : Sem Bool} {b b' : Bool} (h : TVW C n X Φ t b Ψ) (e : b = b') : TVW C n X Φ t b' Ψ := e ▸ h
section
variable {C : Cx} {X : Addr → Prop} {κ : Addr → Option Obj} {env : Env} {q : Str} {doc pm cd : Value} {L f : Addr} {R : Vp}
theorem v_10 (he : env = callEnvC (fdOf (stAt pw 83) q doc pm cd) L f) (K : LawV C) (H : HdrK C) (qs : List Nat) (h5 : ∀ q ∈ qs, q < 5) (h14 : qs.length ≤ 14) (c0 : T3) (hp : PosT c0) (hne : ¬ (c0.1 = c0.2.1 ∧ c0.2.1 = c0.2.2)) (hw : ∀ i ≤ 14, Wide3 (valW (wdF qs i) c0)) (w : Int) (w1 : 1 ≤ w) (w2 : w ≤ 1000) (Ht Hs : Addr) :
    EX C 40 X (FS C env nmS nmS (scOf (stAt pw 83)) X [none, none, some (is (liT c0)), some (is (.int w)), none, some (is (.list (pcL qs))), none, some (is (li (qs.map symQ ++ [0]))), some (is (liT c0)), some (is (liT c0)), some (isv (.ref Hs)), some (tabV Ht), none, none, none] [(Ht, (tblC qs c0 0).map hpV), (Hs, (shL qs 0).map .str)] κ) (execs [inSt pw 83 10] env)
    (FS C env nmS nmS (scOf (stAt pw 83)) X [none, none, some (is (liT c0)), some (is (.int w)), none, none, none, none, some (is (liT (valW (wdF qs qs.length) c0))), none, some (isv (.ref Hs)), some (tabV Ht), none, none, none] [(Ht, (tblC qs c0 qs.length).map hpV), (Hs, (shL qs qs.length).map .str)] κ) R := by
  have g1 := K.str
  have g2 := K.enumerate
  have g3 := K.range
  show EX _ _ _ _ (execs [.For _ _ _ _ _] _) _ _
  apply exs_forV (ρs := fun i => [none, none, some (is (liT c0)), some (is (.int w)), none, some (is (.list (pcL qs))), none, some (is (li (qs.map symQ ++ [0]))), some (is (liT (valW (wdF qs i) c0))), some (is (liT (valW (wdF qs i) c0))), some (isv (.ref Hs)), some (tabV Ht), none, none, none]) (ωs := fun i => [(Ht, (tblC qs c0 i).map hpV), (Hs, (shL qs i).map .str)]) rfl rfl
  · apply it_callTt
    · assumption
    · walk_at "ev"
    · exact fi_enum
    · exact rfl
    · exact rfl
    · exact rfl
    · exact rfl
  · intro i; rfl
  · intro b hb κ' i d hd
    subst hb
    have hd : ∃ q, qs[i]? = some q ∧ d = .tup [.int (i : Int), .str (pcS q)] := by
      unfold enumL at hd
      rw [List.getElem?_map, List.getElem?_zipIdx, List.getElem?_map] at hd
      cases hq : qs[i]? with
      | none => rw [hq] at hd; cases hd
      | some q =>
        rw [hq] at hd
        refine ⟨q, rfl, ?_⟩
        have := (Option.some.inj hd).symm
        simpa using this
    obtain ⟨q, hq, rfl⟩ := hd
    have hq5 := h5 q (List.mem_of_getElem? hq)
    have hi : i < qs.length := (List.getElem?_eq_some_iff.mp hq).1
    obtain ⟨f1, f2, f3⟩ := sym_facts hq5
    have W := hw i (by lia)
    have W' := hw (i + 1) (by lia)
    have ew := wd_succ hq
    have ec : actN (trQ q) (valW (wdF qs i) c0) = valW (wdF qs (i + 1)) c0 := by rw [ew, val_sh]
    have hlen : ((qs.map symQ ++ [0]).map PV.int).length = qs.length + 1 := by rw [List.length_map, List.length_append, List.length_map]; rfl
    have hrow : ((qs.map symQ ++ [0]).map PV.int)[i]? = some (.int (symQ q)) := by
      rw [List.map_append, List.getElem?_append_left (by rw [List.length_map, List.length_map]; exact hi), List.map_map, List.getElem?_map, hq]; rfl
    have hsi : seqIndex? (i : Int) ((qs.map symQ ++ [0]).map PV.int).length = some i := by
      rw [hlen]
      unfold seqIndex?
      simp only [show ((i : Int) < 0) = False from eq_false (by lia), if_false]
      rw [if_pos (by simp; lia)]; rfl
    have hls : ((shL qs i).map PV.str).length = i + 1 := by rw [List.length_map, shL_len]
    have D0 := d_eof K.toLawK (symQ q)
    have D1 := d_term K.toLawK (symQ q)
    have D2 := d_nonterm K.toLawK (symQ q)
    have D4 := d_short K.toLawK (wd_red qs i) (Nat.le_trans (wd_len qs i) (by lia)) hq5
    rw [← ew] at D4
    have hwh : ∃ m : Int, (2 : Int) ^ (15 : Int).toNat * ((i : Int).fdiv 2).fmod 2 = m ∧ 0 ≤ m ∧ m ≤ 32768 := by
      rw [half_mod, show (2 : Int) ^ (15 : Int).toNat = 32768 by decide]
      refine ⟨_, rfl, ?_, ?_⟩ <;> lia
    obtain ⟨mw, em, m0, m1⟩ := hwh
    have D3 := d_done K.toLawK W (w := w + mw) (by lia) (by lia) hq5
    rw [ec] at D3
    have T := set_tbl (qs := qs) (c0 := c0) hp hne i
    have F := nm_f (ltr_or (i + 1)) W'.nm
    have hn := W'.nm
    obtain ⟨s1, s2⟩ := shL_first qs (n := i + 1) (i := i + 1) (Nat.le_refl _)
    have fle := (fs_spec (wdF qs) (i + 1)).1
    have hvl : numC ((i + 1 : Nat) : Int) = numC ((i + 1 : Nat) : Int) := rfl
    have hv1 : (numT ((i + 1 : Nat) : Int)).cps.size ≤ 1000 := by
      have := numC_len (a := ((i + 1 : Nat) : Int)) (by lia)
      show (numT ((i + 1 : Nat) : Int)).cps.size ≤ 1000
      rw [← Array.length_toList]
      exact Nat.le_trans this (by decide)
    have hv2 : noHit codeV (numT ((i + 1 : Nat) : Int)).cps 0 = true := noHitV (numT_ok _)
    rw [hide_dict, hide_meth]
    apply ex_mk
    · walk_at "at"
    apply ex_ifs (c := false)
    · apply tv_orF3
      · apply tv_eq
        · apply tv_cmp
          · apply ev_callD
            · apply el_cons
              · apply ev_sub
                · walk_at "ev"
                · walk_at "ev"
                · exact op_item_list hsi hrow (by rw [hlen]; lia)
              · walk_at "ev"
              · exact rfl
            · exact D0
            · decide
            · exact rfl
            · exact rfl
            · exact rfl
          · walk_at "ev"
          · exact op_isnot_bool
          · exact rfl
        · rw [f1]; rfl
      · apply tv_eq
        · apply tv_cmp
          · apply ev_callD
            · apply el_cons
              · apply ev_sub
                · walk_at "ev"
                · walk_at "ev"
                · exact op_item_list hsi hrow (by rw [hlen]; lia)
              · walk_at "ev"
              · exact rfl
            · exact D1
            · decide
            · exact rfl
            · exact rfl
            · exact rfl
          · walk_at "ev"
          · exact op_isnot_bool
          · exact rfl
        · rw [f2]; rfl
      · apply tv_eq
        · apply tv_cmp
          · apply ev_callD
            · apply el_cons
              · apply ev_sub
                · walk_at "ev"
                · walk_at "ev"
                · exact op_item_list hsi hrow (by rw [hlen]; lia)
              · walk_at "ev"
              · exact rfl
            · exact D2
            · decide
            · exact rfl
            · exact rfl
            · exact rfl
          · walk_at "ev"
          · exact op_isnot_bool
          · exact rfl
        · rw [f3]; rfl
    · intro h; cases h
    intro _
    simp only [List.nil_append]
    apply ex_cons
    · apply ex_assign
      · apply ev_sub
        · exact ev_hideD (l := trnQ) (.cons (.cons (.cons (.cons (.cons .nil))))) (by decide +kernel) (by decide) (by decide)
        · walk_at "ev"
        · exact op_item_dictD (look_trn hq5) (fun _ _ => rfl)
      · walk_at "at"
      · decide +kernel
      · decide +kernel
      · rw [he]; exact rfl
    apply ex_cons
    · apply ex_assign (P := is (liT (valW (wdF qs (i + 1)) c0)))
      · rw [← ec]
        generalize valW (wdF qs i) c0 = cc
        apply ev_ifexp
        · apply tv_int
          · walk_at "ev"
          · intro _; rfl
        · intro h
          have h0 : q ≠ 0 := fun e => by subst e; cases h
          rw [← rot_act hq5 h0]
          apply ev_d
          · apply ev_comp1
            apply comp1_ok (xs := [0, 1, 2]) (f := fun (p : Nat) => .int p) (h := fun p => .int (pick3 cc (((p : Int) - (trQ q : Nat)).fmod 3)))
            · apply it_eq
              · apply it_callTt
                · assumption
                · walk_at "ev"
                · apply fi_range1
                  exact rfl
                · exact rfl
                · exact rfl
                · exact rfl
                · exact rfl
              · exact rfl
            · walk_at "at"
            · exact rfl
            · decide +kernel
            · exact rfl
            · exact Nat.le_of_ble_eq_true rfl
            · intro cenv X' j hx
              apply ex_mk3
              · walk_at "at"
              · walk_at "at"
              · intro ω κ
                apply ev_sub
                · walk_at "ev"
                · walk_at "ev"
                · exact pick_item (fun _ _ => rfl)
          · rfl
        · intro h
          have h0 : q = 0 := by
            rcases (show q = 0 ∨ q = 1 ∨ q = 2 ∨ q = 3 ∨ q = 4 by lia) with rfl | rfl | rfl | rfl | rfl <;> first | rfl | cases h
          subst h0
          apply ev_d
          · walk_at "ev"
          · rfl
      · walk_at "at"
      · decide +kernel
      · decide +kernel
      · rw [he]; exact rfl
    apply ex_cons
    · apply ex_assign
      · apply ev_callD
        · apply el_cons
          · walk_at "ev"
          · apply el_cons
            · apply ev_sub
              · walk_at "ev"
              · walk_at "ev"
              · exact op_item_list hsi hrow (by rw [hlen]; lia)
            · apply el_cons (P := is (.int (w + mw)))
              · rw [← em]
                walk_at "ev"
              · exact el_nil
            · exact rfl
          · exact rfl
        · exact D3
        · decide
        · exact rfl
        · exact rfl
        · exact rfl
      · walk_at "at"
      · decide +kernel
      · decide +kernel
      · rw [he]; exact rfl
    apply ex_ifs (c := false)
    · apply tv_eq
      · apply tv_cmp
        · walk_at "ev"
        · walk_at "ev"
        · exact op_ne_list 0 (by decide) (okN_ints [_, _, _] [_, _, _])
        · exact rfl
      · rw [eq_liT]; rfl
    · intro h; cases h
    intro _
    simp only [List.nil_append]
    apply ex_cons
    · apply ex_append (d := .str (strW (wdF qs (i + 1)))) (hi := by rw [he]; rfl)
      · walk_at "at"
      · apply ev_callD
        · apply el_cons
          · apply ev_item_own (j := i)
            · walk_at "at"
            · exact List.mem_cons_of_mem _ (List.mem_cons_self ..)
            · walk_at "ev"
            · rw [hls]; exact seq_last i
            · rw [List.getElem?_map, shL_get qs (Nat.le_refl i)]; rfl
            · rw [hls]; lia
          · walk_at "ev"
          · exact rfl
        · exact D4
        · decide
        · exact rfl
        · exact rfl
        · exact rfl
      · exact OU.there OU.here
      · rw [hls, sizeLine_eq]; lia
    have esh : (shL qs i).map PV.str ++ [.str (strW (wdF qs (i + 1)))] = (shL qs (i + 1)).map PV.str := by
      rw [shL_succ, List.map_append]; rfl
    rw [esh]
    apply ex_ifW (c := false)
    · have t1 : (setR (tblC qs c0 i) (nmC (ltr (i + 1)) (valW (wdF qs (i + 1)) c0)) (numT ((i + 1 : Nat) : Int)) != numT (fsI (wdF qs) (i + 1) : Nat)) = false := by
        rw [T.2]; simp
      apply tvw_eq (e := t1)
      apply tvw_set H (n := 35)
      · walk_at "at"
      · apply el_cons (P := is (.str (nmC (ltr (i + 1)) (valW (wdF qs (i + 1)) c0))))
        · apply ev_bin
          · apply ev_sub
            · apply ev_tupL
              · apply el_cons
                · exact ev_str
                · apply el_cons
                  · exact ev_str
                  · exact el_nil
                  · exact rfl
                · exact rfl
              · walk_at "at"
              · exact Nat.le_of_ble_eq_true rfl
            · walk_at "ev"
            · exact let_item (fun _ _ => rfl)
          · apply ev_unhide
            apply ev_meth (R := is (.str (glC (valW (wdF qs (i + 1)) c0))))
            · exact ev_str
            · exact hasM_join
            · apply el_cons (P := is (.list (([numT (valW (wdF qs (i + 1)) c0).1, numT (valW (wdF qs (i + 1)) c0).2.1, numT (valW (wdF qs (i + 1)) c0).2.2]).map .str)))
              · apply ev_d
                · apply ev_comp1
                  apply comp1_ok (xs := [(valW (wdF qs (i + 1)) c0).1, (valW (wdF qs (i + 1)) c0).2.1, (valW (wdF qs (i + 1)) c0).2.2]) (f := fun (p : Int) => .int p) (h := fun p => .str (numT p))
                  · apply it_eq
                    · apply it_list
                      walk_at "ev"
                    · exact rfl
                  · walk_at "at"
                  · exact rfl
                  · decide +kernel
                  · exact rfl
                  · exact Nat.le_of_ble_eq_true rfl
                  · intro cenv X' j hx
                    apply ex_mk3
                    · walk_at "at"
                    · walk_at "at"
                    · intro ω κ
                      apply ev_callTt
                      · assumption
                      · walk_at "ev"
                      · refine fn_str_int (log_abs ?_)
                        simp only [List.mem_cons, List.not_mem_nil, or_false] at hx
                        rcases hx with rfl | rfl | rfl
                        · exact Nat.lt_trans hn.a (by decide)
                        · exact Nat.lt_trans hn.b (by decide)
                        · exact Nat.lt_trans hn.d (by decide)
                      · exact rfl
                      · exact rfl
                      · exact rfl
                      · exact rfl
                · rfl
              · walk_at "ev"
            · exact fn_join (glue_ok hn).1 (glue_ok hn).2
          · exact op_add_str (Nat.le_trans F.z (by rw [sizeLine_eq]; decide))
        · apply el_cons (P := is (.str (numT ((i + 1 : Nat) : Int))))
          · apply ev_callTt
            · assumption
            · walk_at "ev"
            · exact fn_str_int (a := (i : Int) + 1) (log_abs (by lia))
            · exact rfl
            · exact rfl
            · exact rfl
            · exact rfl
          · exact el_nil
      · exact OU.here
      · apply ev_callTt
        · assumption
        · apply el_cons
          · apply ev_index_own
            · walk_at "at"
            · exact List.mem_cons_of_mem _ (List.mem_cons_self ..)
            · apply el_cons
              · apply ev_item_own (j := i + 1) (d := .str (strW (wdF qs (i + 1))))
                · walk_at "at"
                · exact List.mem_cons_of_mem _ (List.mem_cons_self ..)
                · walk_at "ev"
                · rw [List.length_map, shL_len]; exact seq_last _
                · rw [List.getElem?_map, shL_get qs (Nat.le_refl _)]; rfl
                · rw [List.length_map, shL_len]; lia
              · exact el_nil
              · exact rfl
            · exact s1
            · exact s2
            · rw [shL_len]; lia
            · exact rfl
            · exact rfl
            · exact rfl
            · exact rfl
          · exact el_nil
          · exact rfl
        · exact fn_str_int (log_abs (by lia))
        · exact rfl
        · exact rfl
        · exact rfl
        · exact rfl
      · exact F.z
      · exact F.lw
      · exact F.n1
      · exact F.n2
      · exact hv1
      · exact hv2
      · exact Nat.le_trans (tbl_len _ _ _) (by lia)
      · exact tbl_low hw (by lia)
    · intro h; cases h
    intro _
    simp only [List.nil_append]
    rw [T.1]
    apply ex_fgt
    walk_at "fgtd"
  · have el : (enumL (pcL qs)).length = qs.length := by unfold enumL; rw [List.length_map, List.length_zipIdx, List.length_map]
    rw [el]
    apply ex_fgt
    walk_at "fgtd"
end
end
section
theorem eqN_strs : ∀ l : List Str, eqN 1 (.list (l.map .str)) (.list (l.map .str)) = true := fun l => by
  show ((l.map PV.str).length == (l.map PV.str).length && ((l.map PV.str).zip (l.map PV.str)).all fun p => eqN 0 p.1 p.2) = true
  rw [beq_self_eq_true, Bool.true_and, List.all_eq_true]
  intro p hp
  have e := zip_self hp
  obtain ⟨a, _, ea⟩ := List.mem_map.mp (List.of_mem_zip hp).1
  rw [← e, ← ea, eqN_str]; exact beq_self_eq_true a
theorem okN_strs : ∀ l m : List Str, okN 1 (.list (l.map .str)) (.list (m.map .str)) = true := fun l m => by
  show ((l.map PV.str).length != (m.map PV.str).length || ((l.map PV.str).zip (m.map PV.str)).all fun p => okN 0 p.1 p.2) = true
  rw [Bool.or_eq_true]
  right
  rw [List.all_eq_true]
  intro p hp
  obtain ⟨a, _, ea⟩ := List.mem_map.mp (List.of_mem_zip hp).1
  obtain ⟨b, _, eb⟩ := List.mem_map.mp (List.of_mem_zip hp).2
  rw [← ea, ← eb]; rfl
theorem ev_andT {C : Cx} {n : Nat} {Φ : Asn C} {env : Env} {a b : Expr} {pos : PySem.Pos} {R : Vp} (h1 : EV C n Φ (eval a env) (is (.bool true))) (h2 : EV C n Φ (eval b env) R) : EV C n Φ (eval (.BoolOp .And [a, b] pos) env) R := fun A s Z Q E hA I H k => by
  refine PyProof.Rows.BoolOp_and (h1 A s Z _ E hA I H fun v Z₁ s₁ x₁ pv => ?_)
  obtain rfl := rdi pv
  refine wpAny_truthy_bool ?_
  show wpAny _ _ (eval (.BoolOp .And [b] pos) env) Q E s₁
  exact PyProof.Rows.BoolOp_one (h2 A s₁ Z₁ Q E hA x₁.inv (Φ.stable I H x₁) fun v Z₂ s₂ x₂ pv => k v Z₂ s₂ (x₁.trans x₂) pv)
noncomputable abbrev fstL (qs : List Nat) (n : Nat) : List Str := ((List.range (n + 1)).filter fun k => fsI (wdF qs) k == k).map fun (k : Nat) => numT (k : Int)
theorem tbl_vals (qs : List Nat) (c0 : T3) (n : Nat) : ((tblC qs c0 n).map fun p => PV.str p.2) = (fstL qs n).map .str := by
  unfold tblC fstL
  rw [List.map_map, List.map_map]; rfl
theorem rng_nat (n : Nat) : rngL 0 n = (List.range n).map fun (k : Nat) => PV.int (k : Int) := by
  unfold rngL
  exact List.map_congr_left fun k _ => by rw [Int.zero_add]
section
variable {C : Cx} {X : Addr → Prop} {κ : Addr → Option Obj} {env : Env} {q : Str} {doc pm cd : Value} {L f : Addr} {R : Vp} {Ψ : Asn C}
theorem v_11 (he : env = callEnvC (fdOf (stAt pw 83) q doc pm cd) L f) (K : LawV C) (H : HdrK C) (G : DigK C) (qs : List Nat) (h14 : qs.length ≤ 14) (c0 : T3) (h0 : Ten c0) (hne : ¬ (c0.1 = c0.2.1 ∧ c0.2.1 = c0.2.2)) (p2 : Vp) (Ht Hs : Addr) :
    EX C 40 X (FS C env nmS nmS (scOf (stAt pw 83)) X [none, none, some (is (liT c0)), some (p2), none, none, none, none, some (is (liT (valW (wdF qs qs.length) c0))), none, some (isv (.ref Hs)), some (tabV Ht), none, none, none] [(Ht, (tblC qs c0 qs.length).map hpV), (Hs, (shL qs qs.length).map .str)] κ) (execs [inSt pw 83 11] env) Ψ (is (.bool true)) := by
  have g1 := K.str
  have g2 := K.range
  have g3 := K.len
  obtain ⟨n, hn⟩ : ∃ n, n = qs.length := ⟨_, rfl⟩
  rw [← hn] at h14 ⊢
  have hls : ((shL qs n).map PV.str).length = n + 1 := by rw [List.length_map, shL_len]
  have hlt : (tblC qs c0 n).length ≤ sizeLine := Nat.le_trans (tbl_len _ _ _) (by rw [sizeLine_eq]; lia)
  have D := d_toldW K.toLawK G h0 hne (wd_red qs n) (wd_tl qs h14) (Nat.le_trans (wd_len qs n) (by lia))
  show EX _ _ _ _ (execs [.Return (some _) _] _) _ _
  apply ex_freezeT (a := Ht) (ds := (tblC qs c0 n).map hpV)
  · exact OF.here
  · repeat (first | exact Rtb.nil | apply Rtb.it | apply Rtb.same)
  apply ex_freeze (a := Hs) (ds := (shL qs n).map .str)
  · exact OF.here
  · repeat (first | exact Rfz.nil | apply Rfz.it | apply Rfz.same)
  apply ex_ret
  apply ev_andT
  · apply ev_d (d' := .bool true)
    · apply ev_cmp
      · exact ev_vals H (n := 37) (by walk_at "at") hlt (by rfl) (by rfl)
      · apply ev_d (d' := .list ((fstL qs n).map .str))
        · apply ev_comp1if
          apply comp1if_ok (xs := List.range (n + 1)) (f := fun (k : Nat) => .int k) (h := fun k => .str (numT (k : Int))) (p := fun k => fsI (wdF qs) k == k)
          · apply it_eq
            · apply it_callTt
              · exact g2
              · apply el_cons
                · apply ev_callBt
                  · exact g3
                  · walk_at "ev"
                  · exact fn_len_list (by rw [hls]; lia)
                  · exact rfl
                  · exact rfl
                  · exact rfl
                  · exact rfl
                · exact el_nil
                · exact rfl
              · exact fi_range1 (small_one (by decide) (by decide) (by rw [hls]; lia) (by rw [hls]; lia))
              · exact rfl
              · exact rfl
              · exact rfl
              · exact rfl
            · rw [hls]; exact rng_nat _
          · walk_at "at"
          · exact rfl
          · decide +kernel
          · exact rfl
          · rw [List.length_range, sizeLine_eq]; lia
          · intro cenv X' k hk
            have hk := List.mem_range.mp hk
            obtain ⟨s1, s2⟩ := shL_first qs (n := n) (i := k) (by lia)
            apply ex_mk4
            · walk_at "at"
            · walk_at "at"
            · intro ω κ
              apply tv_eq
              · apply tv_cmp
                · apply ev_meth
                  · walk_at "ev"
                  · exact hasM_index
                  · apply el_cons
                    · apply ev_sub
                      · walk_at "ev"
                      · walk_at "ev"
                      · apply op_item_list (j := k) (d := .str (strW (wdF qs k)))
                        · rw [hls]
                          unfold seqIndex?
                          simp only [show ((k : Int) < 0) = False from eq_false (by lia), if_false]
                          rw [if_pos (by simp; lia)]; rfl
                        · rw [List.getElem?_map, shL_get qs (by lia)]; rfl
                        · rw [hls]; lia
                    · exact el_nil
                    · exact rfl
                  · exact fn_index s1 s2 (by rw [shL_len]; lia)
                  · exact rfl
                  · exact rfl
                  · exact rfl
                  · exact rfl
                  · exact rfl
                · walk_at "ev"
                · walk_at "op"
                · exact rfl
              · by_cases e : fsI (wdF qs) k = k
                · rw [e]; simp
                · rw [beq_false_of_ne e]
                  exact beq_false_of_ne fun h => e (Int.ofNat.inj h)
            · intro _ ω κ
              apply ev_callTt
              · exact g1
              · walk_at "ev"
              · exact fn_str_int (log_abs (by lia))
              · exact rfl
              · exact rfl
              · exact rfl
              · exact rfl
        · unfold fstL
          rw [List.map_map]; rfl
      · exact op_eq_list 0 (by decide) (by rw [tbl_vals]; exact okN_strs _ _)
      · exact rfl
    · rw [tbl_vals, eqN_strs]
  · apply ev_d (d' := .bool true)
    · apply ev_cmp
      · apply ev_callD
        · walk_at "ev"
        · exact D
        · decide
        · exact rfl
        · exact rfl
        · exact rfl
      · apply ev_sub
        · walk_at "ev"
        · walk_at "ev"
        · apply op_item_list (j := n) (d := .str (strW (wdF qs n)))
          · rw [hls]; exact seq_last n
          · rw [List.getElem?_map, shL_get qs (Nat.le_refl n)]; rfl
          · rw [hls]; lia
      · walk_at "op"
      · exact rfl
    · exact congrArg PV.bool (beq_self_eq_true _)
end
end
section
section
variable {C : Cx} {X : Addr → Prop} {κ : Addr → Option Obj} {env : Env} {q : Str} {doc pm cd : Value} {L f : Addr} {R : Vp} {Ψ : Asn C}
theorem v_end (he : env = callEnvC (fdOf (stAt pw 83) q doc pm cd) L f) (K : LawV C) (H : HdrK C) (G : DigK C) (qs : List Nat) (h5 : ∀ q ∈ qs, q < 5) (h14 : qs.length ≤ 14) (c0 : T3) (h0 : Ten c0) (hne : ¬ (c0.1 = c0.2.1 ∧ c0.2.1 = c0.2.2)) (w : Int) (w1 : 1 ≤ w) (w2 : w ≤ 1000) :
    EX C 40 X (FS C env nmS nmS (scOf (stAt pw 83)) X [none, none, some (is (liT c0)), some (is (.int w)), none, some (is (.list (pcL qs))), none, some (is (li (qs.map symQ ++ [0]))), none, none, none, none, none, none, none] [] κ) (execs [inSt pw 83 8, inSt pw 83 9, inSt pw 83 10, inSt pw 83 11] env) Ψ (is (.bool true)) := by
  have hw : ∀ i ≤ 14, Wide3 (valW (wdF qs i) c0) := fun i hi => wide_run h0 hne (wd_red qs i) (wd_tl qs hi)
  have hn : NmOk c0 := (hw 0 (by decide)).nm
  show EX _ _ _ _ (execs (.Assign [.Tuple [_, _, _, _] _ _] (.Tuple [_, _, _, _] _ _) _ :: [inSt pw 83 9, inSt pw 83 10, inSt pw 83 11]) _) _ _
  apply ex_tup
  · rw [he]; exact rfl
  · rw [he]; exact rfl
  · exact Nat.le_of_ble_eq_true rfl
  · apply TupK.val
    · walk_at "ev"
    · apply TupK.val
      · walk_at "ev"
      · apply TupK.own
        · apply evn_listL
          · apply el_cons
            · exact ev_str
            · exact el_nil
            · exact rfl
          · walk_at "at"
          · exact Nat.le_of_ble_eq_true rfl
        · intro Hs
          apply TupK.own
          · exact evn_headers H rfl
          · intro Ht
            apply tk_nil rfl
            · show Bds _ _ _ _ [_, _, _, _] _ _
              walk_at "at"
            · refine ex_seq (a := [inSt pw 83 9]) (v_9 he K H qs c0 hn _ _ _ _ Ht Hs []) ?_
              refine ex_seq (a := [inSt pw 83 10]) (v_10 he K H qs h5 h14 c0 h0.toPosT hne hw w w1 w2 Ht Hs) ?_
              exact v_11 he K H G qs h14 c0 h0 hne _ Ht Hs
          · exact rfl
        · exact rfl
      · exact rfl
    · exact rfl
theorem fm_lo (x : Int) {b : Int} (hb : 0 < b) : 0 ≤ x.fmod b := Int.fmod_nonneg_of_pos x hb
theorem fm_hi (x : Int) {b : Int} (hb : 0 < b) : x.fmod b < b := Int.fmod_lt_of_pos x hb
theorem ten_of {c1 c2 c3 : Int} (a1 : 1 ≤ c1) (a2 : c1 ≤ 9) (b1 : 1 ≤ c2) (b2 : c2 ≤ 9) (d1 : 1 ≤ c3) (d2 : c3 ≤ 9) :
    Ten (c1, c2, c3 + if (c1 == c2 && c2 == c3) then 1 else 0) ∧ ¬ (c1 = c2 ∧ c2 = c3 + if (c1 == c2 && c2 == c3) then 1 else 0) := by
  by_cases h : c1 = c2 ∧ c2 = c3
  · have e : (c1 == c2 && c2 == c3) = true := by simp [h.1, h.2]
    rw [e, if_pos rfl]
    exact ⟨⟨⟨a1, b1, show 1 ≤ c3 + 1 by lia⟩, show c1 ≤ 10 by lia, show c2 ≤ 10 by lia, show c3 + 1 ≤ 10 by lia⟩, by lia⟩
  · have e : (c1 == c2 && c2 == c3) = false := by
      rw [Bool.and_eq_false_iff]
      by_cases h1 : c1 = c2
      · exact .inr (beq_false_of_ne fun h2 => h ⟨h1, h2⟩)
      · exact .inl (beq_false_of_ne h1)
    rw [e, if_neg (by decide), Int.add_zero]
    exact ⟨⟨⟨a1, b1, d1⟩, show c1 ≤ 10 by lia, show c2 ≤ 10 by lia, show c3 ≤ 10 by lia⟩, h⟩
theorem law_body3 (he : env = callEnvC (fdOf (stAt pw 83) q doc pm cd) L f) (K : LawV C) (H : HdrK C) (G : DigK C) (S : List Int) (hS : S.length ≤ 100) :
    EX C 40 X (FS C env nmS nmS (scOf (stAt pw 83)) X [some (is (lI S)), none, none, none, none, none, none, none, none, none, none, none, none, none, none] [] κ) (execs (bodyOf (stAt pw 83)) env) Ψ (is (.bool true)) := by
  show EX _ _ _ _ (execs [inSt pw 83 0, inSt pw 83 1, inSt pw 83 2, inSt pw 83 3, inSt pw 83 4, inSt pw 83 5, inSt pw 83 6, inSt pw 83 7, inSt pw 83 8, inSt pw 83 9, inSt pw 83 10, inSt pw 83 11] _) _ _
  refine ex_seq (a := [inSt pw 83 0]) (v_0 he K S hS) ?_
  generalize 4 + heapS S 0 = h0
  generalize 1 + heapS S 1 = h1
  generalize 6 + heapS S 2 = h2
  refine ex_seq (a := [inSt pw 83 1]) (v_1 he K S h0 h1 h2) ?_
  have a1 := fm_lo h0 (b := 9) (by decide)
  have a2 := fm_hi h0 (b := 9) (by decide)
  have b1 := fm_lo h1 (b := 9) (by decide)
  have b2 := fm_hi h1 (b := 9) (by decide)
  have d1 := fm_lo h2 (b := 9) (by decide)
  have d2 := fm_hi h2 (b := 9) (by decide)
  have w1 := fm_lo ([h0, h1, h2].sum) (b := 1000) (by decide)
  have w2 := fm_hi ([h0, h1, h2].sum) (b := 1000) (by decide)
  refine ex_seq (a := [inSt pw 83 2]) (v_2 he K S _ _ _ _) ?_
  obtain ⟨T, hne⟩ := ten_of (c1 := 1 + h0.fmod 9) (c2 := 1 + h1.fmod 9) (c3 := 1 + h2.fmod 9) (by lia) (by lia) (by lia) (by lia) (by lia) (by lia)
  refine ex_seq (a := [inSt pw 83 3]) (v_3 he K S hS _ _) ?_
  have s3 := sT_3 S
  have sl := sT_len S
  generalize sT S = s at s3 sl
  obtain ⟨q1, q2⟩ := pcs_lt s.length s (Nat.le_refl _) s3
  refine ex_seq (a := [inSt pw 83 4]) (v_4 he _ _ _) ?_
  refine ex_seq (a := [inSt pw 83 5]) (v_5 he s s3 (by lia) _ _) ?_
  refine ex_seq (a := [inSt pw 83 6]) (v_6 he K s s3 (by lia) _ _ _) ?_
  refine ex_seq (a := [inSt pw 83 7]) (v_7 he K (pcs s) q1 (by lia) _ _) ?_
  exact v_end he K H G (pcs s) q1 (by lia) _ T hne _ (by lia) (by lia)
end
end
section
noncomputable def hid (h : Heap) : Fz := fun b => if b = 89 ∨ b = 96 then none else h.get? b
noncomputable def cxOf (w : World) (h : Heap) : Cx := { prog := pw, w := w, Z0 := hid h, tabs := [(89, posOf (inSt pw 15 1), qi2d), (96, posOf (inSt pw 16 0), qd2i)] }
theorem hid_of {h : Heap} {b : Addr} {o : Obj} (h1 : b ≠ 89) (h2 : b ≠ 96) (e : h.get? b = some o) : hid h b = some o := by
  unfold hid
  rw [if_neg (fun q => q.elim h1 h2)]; exact e
theorem hid_le {h : Heap} {b : Addr} {o : Obj} (e : hid h b = some o) : h.get? b = some o := by
  unfold hid at e
  split at e
  · cases e
  · exact e
theorem nsMap_keep {h h' : Heap} (k : ∀ b o, h.get? b = some o → h'.get? b = some o) {a : Addr} {x : Str} {v : Value} (e : h.nsMap a x = some v) (y : Str) : h'.nsMap a y = h.nsMap a y := by
  unfold Heap.nsMap at e ⊢
  cases ho : h.get? a with
  | none => rw [ho] at e; cases e
  | some o => rw [k a o ho]
noncomputable def isDef (st : Stmt) : Prop := (fun (q : Str) (dv doc pm cd : Value) => (({ mFd st q dv .none .none .none with doc := doc, pyModule := pm, code := cd } : FuncData), mFd st q .none doc pm cd)) = fun q dv doc pm cd => (mFd st q dv doc pm cd, fdOf st q doc pm cd)
theorem fdOf_erase {st : Stmt} {fd : FuncData} {q : Str} {dv c : Value} (hd : isDef st) (e : eraseFd fd = mFd st q dv .none .none .none) (hc : fd.code = c) : fd = mFd st q dv fd.doc fd.pyModule c := by
  subst hc
  exact (congrArg (fun F : FuncData => { F with doc := fd.doc, pyModule := fd.pyModule, code := fd.code }) e).trans (congrArg (fun f => (f q dv fd.doc fd.pyModule fd.code).1) hd)
theorem mFd_none (st : Stmt) (q : Str) (doc pm cd : Value) (hd : isDef st) : mFd st q .none doc pm cd = fdOf st q doc pm cd := congrArg (fun f => (f q .none doc pm cd).2) hd
theorem refA_inv {v : Option Value} {a : Addr} (h : refA v = some a) : v = some (.ref a) := by
  cases v with
  | none => cases h
  | some v => cases v <;> first | (cases h; rfl) | cases h
theorem strA_inv {v : Option Value} {q : Str} (h : strA v = some q) : ∃ t, v = some (.str q t) := by
  cases v with
  | none => cases h
  | some v => cases v <;> first | (cases h; exact ⟨_, rfl⟩) | cases h
theorem funcA_inv {d : Data} {fd : FuncData} (h : funcA d = some fd) : d = .func fd := by
  cases d <;> first | (cases h; rfl) | cases h
theorem fldA_inv {d : Data} {vs : Array Value} (h : fldA d = some vs) : d = .fields vs := by
  cases d <;> first | (cases h; rfl) | cases h
theorem seqA_inv {d : Data} {vs : Array Value} (h : seqA d = some vs) : ∃ n, d = .seq vs n := by
  cases d <;> first | (cases h; exact ⟨_, rfl⟩) | cases h
theorem dictA_inv {d : Data} {es : Array DictEntry} (h : dictA d = some es) : ∃ n, d = .dict es n := by
  cases d <;> first | (cases h; exact ⟨_, rfl⟩) | cases h
theorem fn_of {h : Heap} {f : Addr} {F : FuncData} {q : Str} (e : fnSeen h f = some ({ cls := .type "function", data := .func F }, some q)) :
    ∃ fd c, h.get? f = some { cls := .type "function", data := .func fd } ∧ eraseFd fd = F ∧ fd.code = .ref c ∧ CodeIn h.get? c q := by
  obtain ⟨o, ho, e⟩ := Option.bind_eq_some_iff.mp e
  obtain ⟨fd, hd, e⟩ := Option.map_eq_some_iff.mp e
  obtain ⟨e1, e2⟩ := Prod.mk.inj e
  obtain ⟨c, hc, e2⟩ := Option.bind_eq_some_iff.mp e2
  obtain ⟨oc, hoc, e2⟩ := Option.bind_eq_some_iff.mp e2
  obtain ⟨vs, hvs, e2⟩ := Option.bind_eq_some_iff.mp e2
  obtain ⟨t, hq⟩ := strA_inv e2
  have hd := funcA_inv hd
  obtain ⟨cls, dict, data, slots⟩ := o
  obtain ⟨a1, a2, a3, a4⟩ := Obj.mk.inj e1
  subst a1; subst a2; subst a4; subst hd
  exact ⟨fd, c, ho, Data.func.inj a3, Option.some.inj (refA_inv hc), oc, vs, t, hoc, fldA_inv hvs, hq⟩
theorem def_of {h : Heap} {x : Str} {F : FuncData} {q : Str} (e : defSeen h x = some ({ cls := .type "function", data := .func F }, some q)) :
    ∃ f, h.nsMap mainGlobals x = some (.ref f) ∧ fnSeen h f = some ({ cls := .type "function", data := .func F }, some q) := by
  obtain ⟨f, hf, e⟩ := Option.bind_eq_some_iff.mp e
  exact ⟨f, refA_inv hf, e⟩
theorem pvOf_int {v : Option Value} {i : Int} (e : pvOf v = .int i) : ∃ t, v = some (.int i t) := by
  cases v with
  | none => cases e
  | some v => cases v <;> first | (cases e; exact ⟨_, rfl⟩) | cases e
theorem pvOf_flt {v : Option Value} {i : UInt64} (e : pvOf v = .flt i) : ∃ t, v = some (.float i t) := by
  cases v with
  | none => cases e
  | some v => cases v <;> first | (cases e; exact ⟨_, rfl⟩) | cases e
structure Start (w : World) (h₀ h : Heap) (mg mb : Str → Option Value) : Prop where
  k : ∀ b o, h₀.get? b = some o → h.get? b = some o
  g : h.Ns mainGlobals mg
  b : h.Ns builtinsNs mb
  nl : h.NoLimit
  bb : ∀ x : Str, x ≠ "__name__" → mb x = bootBuiltins x
  bm : ∃ bm ob, mg "__builtins__" = some (.ref bm) ∧ bm ≠ builtinsNs ∧ h.get? bm = some ob ∧ ob.cls = .type "module" ∧ ob.dict = some builtinsNs ∧ ob.data = .plain
  mge : ∀ x, mg x = h₀.nsMap mainGlobals x
  t1 : h₀.get? 89 = some (tabObj #[])
  t2 : h₀.get? 96 = some (tabObj #[])
section
variable {w : World} {h₀ h : Heap} {mg mb : Str → Option Value}
theorem Start.z (K : Start w h₀ h mg mb) {b : Addr} {o : Obj} (e : h₀.get? b = some o) (hn : o ≠ tabObj #[]) : (cxOf w h).Z0 b = some o := by
  refine hid_of (fun q => ?_) (fun q => ?_) (K.k _ _ e)
  · subst q; rw [K.t1] at e; cases e; exact hn rfl
  · subst q; rw [K.t2] at e; cases e; exact hn rfl
theorem Start.glob (K : Start w h₀ h mg mb) {x : Str} {v : Value} (e : h₀.nsMap mainGlobals x = some v) : GlobZ (cxOf w h) x v := fun h' hh =>
  ⟨mg, K.g.at fun o ho => hh _ _ (hid_of (by decide) (by decide) ho), (K.mge x).trans e⟩
theorem Start.blt (K : Start w h₀ h mg mb) {x : Str} {v : Value} (e : (h₀.nsMap mainGlobals x).isNone = true) (hx : x ≠ "__name__") (hv : bootBuiltins x = some v) : BltZ (cxOf w h) x v := fun h' hh =>
  ⟨mg, mb, K.g.at fun o ho => hh _ _ (hid_of (by decide) (by decide) ho), (K.mge x).trans (Option.isNone_iff_eq_none.mp e), K.b.at fun o ho => hh _ _ (hid_of (by decide) (by decide) ho), (K.bb x hx).trans hv⟩
theorem Start.quiet (K : Start w h₀ h mg mb) : Quiet (cxOf w h) := fun h' hh => K.nl.at fun o ho => hh _ _ (hid_of (by decide) (by decide) ho)
theorem Start.code (K : Start w h₀ h mg mb) {c : Addr} {q : Str} (x : CodeIn h₀.get? c q) : CodeIn (cxOf w h).Z0 c q := by
  obtain ⟨o, vs, t, e, hd, hq⟩ := x
  refine ⟨o, vs, t, K.z e (fun z => ?_), hd, hq⟩
  subst z
  cases hd
  simp at hq
theorem Start.mth (K : Start w h₀ h mg mb) {st : Stmt} {f : Addr} {q : Str} {dv : Value} (hd : isDef st) (e : fnSeen h₀ f = some ({ cls := .type "function", data := .func (mFd st q dv .none .none .none) }, some q)) :
    ∃ doc pm c, (cxOf w h).Z0 f = some { cls := .type "function", data := .func (mFd st q dv doc pm (.ref c)) } ∧ CodeIn (cxOf w h).Z0 c q := by
  obtain ⟨fd, c, ho, he, hc, hq⟩ := fn_of e
  have := fdOf_erase hd he hc
  exact ⟨fd.doc, fd.pyModule, c, by rw [← this]; exact K.z ho (fun z => by cases z), K.code hq⟩
theorem Start.fn (K : Start w h₀ h mg mb) {i : Nat} {x : Str} (hd : isDef (stAt pw i)) (e : defSeen h₀ x = defGood i x) :
    ∃ f doc pm c, h₀.nsMap mainGlobals x = some (.ref f) ∧ GlobZ (cxOf w h) x (.ref f) ∧ (cxOf w h).Z0 f = some { cls := .type "function", data := .func (fdOf (stAt pw i) x doc pm (.ref c)) } ∧ CodeZ (cxOf w h) (.ref c) x := by
  obtain ⟨f, hf, hs⟩ := def_of e
  rw [← mFd_none _ _ _ _ _ hd] at hs
  obtain ⟨doc, pm, c, hz, hc⟩ := K.mth hd hs
  rw [mFd_none _ _ _ _ _ hd] at hz
  obtain ⟨o, vs, t, e1, e2, e3⟩ := hc
  exact ⟨f, doc, pm, c, hf, K.glob hf, hz, c, o, vs, t, rfl, e1, e2, e3⟩
theorem Start.dfn (K : Start w h₀ h mg mb) {i : Nat} {x : Str} (hd : isDef (stAt pw i)) (e : defSeen h₀ x = defGood i x) : DefAt (cxOf w h) pw i x := by
  obtain ⟨f, doc, pm, c, _, hg, hz, hc⟩ := K.fn hd e
  exact ⟨f, x, doc, pm, _, hg, hz, hc⟩
theorem Start.int (K : Start w h₀ h mg mb) {x : Str} {i : Int} (e : pvOf (h₀.nsMap mainGlobals x) = .int i) : GlobD (cxOf w h) x (.int i) := by
  obtain ⟨t, e⟩ := pvOf_int e
  exact ⟨_, K.glob e, fun Z => .int _ _⟩
theorem Start.flt (K : Start w h₀ h mg mb) {x : Str} {i : UInt64} (e : pvOf (h₀.nsMap mainGlobals x) = .flt i) : GlobD (cxOf w h) x (.flt i) := by
  obtain ⟨t, e⟩ := pvOf_flt e
  exact ⟨_, K.glob e, fun Z => .flt _ _⟩
theorem Start.topB (K : Start w h₀ h mg mb) : TopB (cxOf w h) := fun h' hh => by
  obtain ⟨bm, ob, e1, e2, e3, e4, e5, e6⟩ := K.bm
  have tab : ∀ P, h.get? P = some (tabObj #[]) → bm ≠ P := fun P hP q => by
    subst q; rw [hP] at e3; cases e3; cases e6
  have n1 := tab 89 (K.k _ _ K.t1)
  have n2 := tab 96 (K.k _ _ K.t2)
  have n3 : bm ≠ mainGlobals := fun q => by
    obtain ⟨o, es, ep, ho, hd, _⟩ := K.g
    subst q; rw [ho] at e3; cases e3; rw [hd] at e6; cases e6
  have hb := hh _ _ (hid_of n1 n2 e3)
  refine ⟨mg, K.g.at fun o ho => hh _ _ (hid_of (by decide) (by decide) ho), fun t ht => ?_⟩
  rcases List.mem_cons.mp ht with rfl | ht
  · exact ⟨by decide, bm, ob, e1, e2, n3, n1, hb, e4, e5, e6⟩
  · rcases List.mem_cons.mp ht with rfl | ht
    · exact ⟨by decide, bm, ob, e1, e2, n3, n2, hb, e4, e5, e6⟩
    · cases ht
theorem Start.hd (K : Start w h₀ h mg mb) {c p : Addr} (e : (match h₀.get? c with | some o => codeHdIn [(c, o)] c p | none => false) = true) : HdZ (cxOf w h) c p := fun h' hh => by
  split at e
  · rename_i o ho
    refine codeHd_of_K (K := [(c, o)]) (fun a x hx => ?_) e
    have : a = c ∧ x = o := by
      rw [List.lookup_cons] at hx
      split at hx
      · rename_i q
        exact ⟨beq_iff_eq.mp q, (Option.some.inj hx).symm⟩
      · cases hx
    obtain ⟨rfl, rfl⟩ := this
    refine hh _ _ (K.z ho fun z => ?_)
    subst z
    have hl : List.lookup a [(a, tabObj #[])] = some (tabObj #[]) := by simp [List.lookup]
    unfold codeHdIn at e
    rw [hl] at e
    cases e
  · cases e
end
end
section
section
variable {w : World} {h₀ h : Heap} {mg mb : Str → Option Value}
theorem tok_pairs {w : World} (es : List DictEntry) (ts : List (Str × Int)) (e : es.map (fun e => (e.hash, strA (some e.key), pvOf (some e.val))) = ts.map (fun p => (hashStr w p.1, some p.1, PV.int p.2))) :
    ∃ kvs, Pairs (PySem.strKind pw w) es kvs ∧ (∀ Z, KV Z kvs (ts.map fun p => (p.1, PV.int p.2))) ∧ kvs.map (·.1) = ts.map (·.1) ∧ ∀ e ∈ es, ∃ k, (PySem.strKind pw w).is k e.key = true ∧ e.hash = (PySem.strKind pw w).hash k := by
  induction es generalizing ts with
  | nil =>
    cases ts with
    | nil => exact ⟨[], .nil, fun _ => .nil, rfl, fun _ he => nomatch he⟩
    | cons t ts => cases e
  | cons en es ih =>
    cases ts with
    | nil => cases e
    | cons t ts =>
      obtain ⟨e0, e4⟩ := List.cons.inj e
      obtain ⟨e1, e0⟩ := Prod.mk.inj e0
      obtain ⟨e2, e3⟩ := Prod.mk.inj e0
      obtain ⟨kvs, p, q, r, z⟩ := ih ts e4
      obtain ⟨tv, hv⟩ := pvOf_int e3
      obtain ⟨tt, hk⟩ := strA_inv e2
      have hk := Option.some.inj hk
      have his : (PySem.strKind pw w).is t.1 en.key = true := by rw [hk]; exact strKind_is _ _ _ _
      refine ⟨(t.1, en.val) :: kvs, .cons his rfl p, fun Z => .cons (by rw [Option.some.inj hv]; exact .int _ _) (q Z), by rw [List.map_cons, List.map_cons, r], fun e' he' => ?_⟩
      rcases List.mem_cons.mp he' with rfl | he'
      · exact ⟨t.1, his, e1⟩
      · exact z e' he'
theorem tok_nodup : (tokI.map (·.1)).Nodup := by decide +kernel
theorem Start.tok (K : Start w h₀ h mg mb) (e : tokSeen h₀ (sQ "EXACT_TOKEN_TYPES") = tokGood w) : GlobP (cxOf w h) (sQ "EXACT_TOKEN_TYPES") (dictS (cxOf w h) tokL) := by
  obtain ⟨a, ha, e⟩ := Option.bind_eq_some_iff.mp e
  obtain ⟨o, ho, e⟩ := Option.bind_eq_some_iff.mp e
  obtain ⟨es, hd, e⟩ := Option.map_eq_some_iff.mp e
  obtain ⟨n, hd⟩ := dictA_inv hd
  obtain ⟨e1, e⟩ := Prod.mk.inj e
  obtain ⟨e2, e⟩ := Prod.mk.inj e
  obtain ⟨e3, e⟩ := Prod.mk.inj e
  obtain ⟨e4, e5⟩ := Prod.mk.inj e
  obtain ⟨kvs, p, q, r, z⟩ := tok_pairs es.toList tokI e5
  exact ⟨_, K.glob (refA_inv ha), a, o, kvs, rfl, e4, K.z ho (fun x => by subst x; cases hd), ⟨es, n, ⟨e1, e2, Array.eq_empty_of_size_eq_zero e3⟩, hd, fun en hen => z en (Array.mem_toList_iff.mpr hen), p, r ▸ tok_nodup⟩, q _⟩
theorem Start.pat (K : Start w h₀ h mg mb) {x : Str} {code : Array Nat} (e : patSeen h₀ x = some (.type "re.Pattern", none, 0, 0, code)) : PatZ (cxOf w h) x code := by
  obtain ⟨a, ha, e⟩ := Option.bind_eq_some_iff.mp e
  obtain ⟨o, ho, e⟩ := Option.bind_eq_some_iff.mp e
  obtain ⟨fs, hd, e⟩ := Option.bind_eq_some_iff.mp e
  obtain ⟨l, hl, e⟩ := Option.bind_eq_some_iff.mp e
  obtain ⟨o', ho', e⟩ := Option.bind_eq_some_iff.mp e
  obtain ⟨items, hd', e⟩ := Option.map_eq_some_iff.mp e
  obtain ⟨n, hd'⟩ := seqA_inv hd'
  have hd := fldA_inv hd
  have hl := Option.some.inj (refA_inv hl)
  obtain ⟨e1, e⟩ := Prod.mk.inj e
  obtain ⟨e2, e⟩ := Prod.mk.inj e
  obtain ⟨e3, e⟩ := Prod.mk.inj e
  obtain ⟨e4, e5⟩ := Prod.mk.inj e
  exact ⟨a, l, o, o', fs, items, n, K.glob (refA_inv ha), K.z ho (fun z => by subst z; cases hd; cases hl), e1, e2, hd, hl, e3, e4, K.z ho' (fun z => by subst z; cases hd'), hd', e5⟩
theorem Start.cls (K : Start w h₀ h mg mb) (e : clsSeen h₀ 272 = clsGood) :
    ∃ k2 k3, (cxOf w h).Z0 272 = some (excClassObj (sQ "Headers") (sQ "Headers") 272 271 [.type "object"] [.type "object"] true [] [] false none none none none k2 k3 (some (.bool true)) "object.__new__") := by
  unfold clsSeen clsGood at e
  obtain ⟨o, ho, e⟩ := Option.map_eq_some_iff.mp e
  obtain ⟨cls, dict, data, slots⟩ := o
  simp only [Prod.mk.injEq, Obj.mk.injEq] at e
  obtain ⟨⟨e1, e2, e3, _⟩, e5, e6, e7, e8, e9⟩ := e
  subst e1; subst e2; subst e3
  obtain ⟨sl⟩ := slots
  have e5 : sl.length = 6 := e5
  obtain ⟨k0, l1, rfl, f1⟩ := lenS e5
  obtain ⟨k1, l2, rfl, f2⟩ := lenS f1
  obtain ⟨k2, l3, rfl, f3⟩ := lenS f2
  obtain ⟨k3, k4, k5, rfl⟩ := len3 f3
  have g6 : k0 = none := Option.some.inj e6
  have g7 : k1 = none := Option.some.inj e7
  have g8 : k4 = some (.builtin "object.__new__") := Option.some.inj e8
  have g9 : k5 = some (.bool true) := Option.some.inj e9
  clear e6 e7 e8 e9
  subst g6; subst g7; subst g8; subst g9
  exact ⟨k2, k3, K.z ho (fun z => by cases z)⟩
theorem Start.ns (K : Start w h₀ h mg mb) {N : Addr} (h1 : N ≠ 89) (h2 : N ≠ 96) (e : h₀.isNs N = true) : NsZ (cxOf w h) N (h₀.nsMap N) := fun h' hh => by
  have x := Heap.Ns.of_isNs e
  exact (x.keeps K.k).at fun o ho => hh _ _ (hid_of h1 h2 ho)
end
end
section
section
variable {w : World} {s : Shared} {h : Heap} {mg mb : Str → Option Value}
theorem looks_all (e : looks s = hopes w) : (∀ p ∈ defL, defSeen s.heap p.2 = defGood p.1 p.2) ∧ (∀ p ∈ valL, pvOf (s.heap.nsMap mainGlobals p.1) = p.2) ∧ (∀ x ∈ offL, (s.heap.nsMap mainGlobals x).isNone = true) ∧ tokSeen s.heap (sQ "EXACT_TOKEN_TYPES") = tokGood w ∧
   clsSeen s.heap 272 = clsGood ∧ s.heap.nsMap mainGlobals (sQ "Headers") = some (.ref 272) ∧ s.heap.isNs 271 = true ∧ nsL.map (s.heap.nsMap 271) = [none, none, none, none, some (.ref 164), some (.ref 171), some (.ref 229), some (.ref 219), some (.ref 262)] ∧ (∀ p ∈ mthL, fnSeen s.heap p.2.1 = mthGood p.1 p.2.2.1 p.2.2.2) ∧
   (s.heap.get? 157, s.heap.get? 212) = (some ({ cls := .type "tuple", data := .seq #[.none] 0 } : Obj), some ({ cls := .type "tuple", data := .seq #[.none] 0 } : Obj)) ∧
   patSeen s.heap (sQ "_name_disallowed_re") = some (.type "re.Pattern", none, 0, 0, codeN) ∧ patSeen s.heap (sQ "_value_disallowed_re") = some (.type "re.Pattern", none, 0, 0, codeV) ∧
   nestSeen s.heap (sQ "_int2digits") 94 93 89 = nestGood 94 93 ∧ nestSeen s.heap (sQ "_digits2int") 101 100 96 = nestGood 101 100 := by
  have e1 := congrArg (fun x => x.1) e
  have e2 := congrArg (fun x => x.2.1) e
  have e3 := congrArg (fun x => x.2.2.1) e
  have e4 := congrArg (fun x => x.2.2.2.1) e
  have e5 := congrArg (fun x => x.2.2.2.2.1) e
  have e6 := congrArg (fun x => x.2.2.2.2.2.1) e
  have e7 := congrArg (fun x => x.2.2.2.2.2.2.1) e
  have e8 := congrArg (fun x => x.2.2.2.2.2.2.2.1) e
  have e9 := congrArg (fun x => x.2.2.2.2.2.2.2.2.1) e
  have e10 := congrArg (fun x => x.2.2.2.2.2.2.2.2.2.1) e
  have e11 := congrArg (fun x => x.2.2.2.2.2.2.2.2.2.2.1) e
  have e12 := congrArg (fun x => x.2.2.2.2.2.2.2.2.2.2.2.1) e
  have e13 := congrArg (fun x => x.2.2.2.2.2.2.2.2.2.2.2.2.1) e
  have e14 := congrArg (fun x => x.2.2.2.2.2.2.2.2.2.2.2.2.2) e
  exact ⟨List.map_inj_left.mp e1, List.map_inj_left.mp e2, List.map_inj_left.mp e3, e4, e5, e6, e7, e8, List.map_inj_left.mp e9, e10, e11, e12, e13, e14⟩
theorem start_all (K : Start w s.heap h mg mb) (e : looks s = hopes w) : LawV (cxOf w h) ∧ DigK (cxOf w h) ∧ HdrK (cxOf w h) ∧
    ∃ f doc pm c, s.heap.nsMap mainGlobals (sQ "law") = some (.ref f) ∧ GlobZ (cxOf w h) (sQ "law") (.ref f) ∧ (cxOf w h).Z0 f = some { cls := .type "function", data := .func (fdOf (stAt pw 83) (sQ "law") doc pm (.ref c)) } ∧ CodeZ (cxOf w h) (.ref c) (sQ "law") := by
  obtain ⟨e1, e2, e3, e4, e5, e6, e7, e8, e9, e10, e11, e12, e13, e14⟩ := looks_all e
  have D : ∀ (k i : Nat) (x : Str), defL[k]? = some (i, x) → isDef (stAt pw i) → DefAt (cxOf w h) pw i x := fun k i x hk hd => K.dfn hd (e1 _ (List.mem_of_getElem? hk))
  have B : ∀ (k : Nat) (x : Str) (v : Value), offL[k]? = some x → x ≠ "__name__" → bootBuiltins x = some v → BltZ (cxOf w h) x v := fun k x v hk hx hv => K.blt (e3 _ (List.mem_of_getElem? hk)) hx hv
  have VI : ∀ (k : Nat) (x : Str) (i : Int), valL[k]? = some (x, .int i) → GlobD (cxOf w h) x (.int i) := fun k x i hk => K.int (e2 _ (List.mem_of_getElem? hk))
  have VF : ∀ (k : Nat) (x : Str) (i : UInt64), valL[k]? = some (x, .flt i) → GlobD (cxOf w h) x (.flt i) := fun k x i hk => K.flt (e2 _ (List.mem_of_getElem? hk))
  have M : ∀ (j k : Nat) (f : Addr) (x : Str) (dv : Value), mthL[j]? = some (k, f, x, dv) → isDef (mthSt pw 77 k) → MthAt (cxOf w h) k f x dv := fun j k f x dv hk hd => K.mth hd (e9 _ (List.mem_of_getElem? hk))
  have N : ∀ (k i j : Nat) (x q : Str) (f c p : Addr), defL[k]? = some (i, x) → isDef (stAt pw i) → nestSeen s.heap x f c p = nestGood f c → (p, posOf (inSt pw i j), q) ∈ (cxOf w h).tabs → (∀ t ∈ (cxOf w h).tabs, t.1 = p → t = (p, posOf (inSt pw i j), q)) → NestAt (cxOf w h) pw i j x q := by
    intro k i j x q f c p hk hd hn ht hu
    obtain ⟨f', hf', hs⟩ := def_of (e1 _ (List.mem_of_getElem? hk))
    unfold nestSeen nestGood at hn
    simp only [Prod.mk.injEq] at hn
    obtain ⟨n1, n2, n3, n4⟩ := hn
    dsimp only at hf'
    rw [n1] at hf'; cases hf'
    obtain ⟨fd, c', ho, he, hc, hq⟩ := fn_of hs
    rw [ho] at n2
    have n2 : some fd.code = some (.ref c) := n2
    rw [hc] at n2; cases n2
    rw [← mFd_none _ _ _ _ _ hd] at he
    have q0 := fdOf_erase hd he hc
    rw [mFd_none _ _ _ _ _ hd] at q0
    obtain ⟨oc, vs, t, c1, c2, c3⟩ := K.code hq
    exact ⟨f, fd.doc, fd.pyModule, c, p, K.glob n1, by rw [← q0]; exact K.z ho (fun z => by cases z), ⟨c, oc, vs, t, rfl, c1, c2, c3⟩, K.hd n3, ht, hu⟩
  have n8 := e8
  simp only [nsL, List.map_cons, List.map_nil, List.cons.injEq] at n8
  obtain ⟨m1, m2, m3, m4, m5, m6, m7, m8, m9, _⟩ := n8
  obtain ⟨e10a, e10b⟩ := Prod.mk.inj e10
  have bmax := B 0 _ (.builtin "max") rfl (by decide +kernel) (by rfl)
  have bmin := B 1 _ (.builtin "min") rfl (by decide +kernel) (by rfl)
  have bint := B 2 _ (.type "int") rfl (by decide +kernel) (by rfl)
  have brange := B 3 _ (.type "range") rfl (by decide +kernel) (by rfl)
  have bzip := B 4 _ (.type "zip") rfl (by decide +kernel) (by rfl)
  have bround := B 5 _ (.builtin "round") rfl (by decide +kernel) (by rfl)
  have blen := B 6 _ (.builtin "len") rfl (by decide +kernel) (by rfl)
  have bord := B 7 _ (.builtin "ord") rfl (by decide +kernel) (by rfl)
  have bsum := B 8 _ (.builtin "sum") rfl (by decide +kernel) (by rfl)
  have benum := B 9 _ (.type "enumerate") rfl (by decide +kernel) (by rfl)
  have bstr := B 10 _ (.type "str") rfl (by decide +kernel) (by rfl)
  have blist := B 11 _ (.type "list") rfl (by decide +kernel) (by rfl)
  have btype := B 12 _ (.type "type") rfl (by decide +kernel) (by rfl)
  have bdivmod := B 13 _ (.builtin "divmod") rfl (by decide +kernel) (by rfl)
  have brev := B 14 _ (.type "reversed") rfl (by decide +kernel) (by rfl)
  have kc : ColK (cxOf w h) := ⟨K.quiet, VF 1 _ _ rfl, VF 2 _ _ rfl, VF 3 _ _ rfl, bmax, bmin, bint, D 7 8 _ rfl rfl, D 5 6 _ rfl rfl, D 6 7 _ rfl rfl, D 8 9 _ rfl rfl, D 9 10 _ rfl rfl⟩
  have kl : LawK (cxOf w h) := ⟨kc, VI 4 _ _ rfl, VI 5 _ _ rfl, brange, bzip, bround, D 10 71 _ rfl rfl, D 11 72 _ rfl rfl, D 12 73 _ rfl rfl, D 13 79 _ rfl rfl, D 14 80 _ rfl rfl, D 15 81 _ rfl rfl, D 16 82 _ rfl rfl⟩
  refine ⟨⟨⟨kl, blen, K.tok e4⟩, bsum, benum, bstr⟩, ⟨K.quiet, K.topB, blen, bdivmod, brev, VI 0 _ _ rfl, ?_, ?_, D 0 13 _ rfl rfl, D 3 17 _ rfl rfl, D 4 18 _ rfl rfl⟩,
    ⟨K.quiet, K.glob e6, K.cls e5, ⟨_, K.ns (by decide) (by decide) e7, m1, m2, m3, m4, m5, m6, m7⟩, ⟨_, K.ns (by decide) (by decide) e7, m1, m2, m8, m9⟩, M 0 0 _ _ _ rfl rfl, K.z e10a (fun z => by cases z), M 1 1 _ _ _ rfl rfl, M 3 8 _ _ _ rfl rfl, K.z e10b (fun z => by cases z), M 4 15 _ _ _ rfl rfl, M 2 10 _ _ _ rfl rfl, K.pat e11, K.pat e12, btype, bstr, blist⟩, K.fn (by rfl) (e1 (83, sQ "law") (List.mem_of_getElem? (i := 17) rfl))⟩
  · refine N 1 15 1 _ _ 94 93 89 rfl rfl e13 (List.mem_cons_self ..) fun t ht hp => ?_
    rcases List.mem_cons.mp ht with rfl | ht
    · rfl
    · rcases List.mem_cons.mp ht with rfl | ht
      · cases hp
      · cases ht
  · refine N 2 16 0 _ _ 101 100 96 rfl rfl e14 (List.mem_cons_of_mem _ (List.mem_cons_self ..)) fun t ht hp => ?_
    rcases List.mem_cons.mp ht with rfl | ht
    · cases hp
    · rcases List.mem_cons.mp ht with rfl | ht
      · rfl
      · cases ht
end
end
section
theorem law_call {C : Cx} (K : LawV C) (G : DigK C) (H : HdrK C) {f : Addr} {q : Str} {doc pm cd : Value} (hz : C.Z0 f = some { cls := .type "function", data := .func (fdOf (stAt pw 83) q doc pm cd) }) (hc : CodeZ C cd q)
    (S : List Int) (hS : S.length ≤ 63) {A : Around} (hA : Room 41 A) {s : Shared} {Z : Fz} {v : Value} {Q E : Value → Shared → Prop} (I : Inv C Z s) (hv : Rd Z v (lI S))
    (k : ∀ Z' s', Step C Z s Z' s' → Q (.bool true) s') : wpAny (model C.prog C.w) A (call (.ref f) [v]) Q E s := by
  have F : FN C 41 (.ref f) [is (lI S)] (is (.bool true)) := fn_def (n := 39) (body := bodyOf (stAt pw 83)) (sc := scOf (stAt pw 83)) (ρ := [some (is (lI S)), none, none, none, none, none, none, none, none, none, none, none, none, none, none])
    (nm := nmS) (xs := [sQ "script"]) K.toLawK.toColK.q hz rfl hc rfl rfl rfl rfl rfl (bnd1 fun _ => rfl) rfl (by decide +kernel) (by decide +kernel) (by decide +kernel) (by decide +kernel) rfl fun L X =>
    law_body3 rfl K H G S (by lia)
  have hsat : Sat Z [v] [is (lI S)] := .cons hv .nil
  refine F A s Z [v] Q E hA I hsat.length hsat.get fun u Z' s' x r => ?_
  obtain rfl := rdi r
  exact k Z' s' x
end
section
theorem rd_ints {P : Params} {h : Heap} {Z : Fz} : ∀ {vs : List Value} {ns : List Int}, WellAll P h vs (ns.map .int) → RdL Z vs (ns.map PV.int)
  | [], [], _ => .nil
  | [], _ :: _, x => by cases x
  | _ :: _, [], x => by cases x
  | v :: vs, n :: ns, x => by
    cases x with
    | cons a b => cases a; exact .cons (.int _ _) (rd_ints b)
theorem len_of {ns : List Int} (h : PySem.Challenge.rw_ta0130_03.row.pre.holds [] { args := [.list (ns.map .int)] } = true) : ns.length ≤ 63 := by
  have e : PySem.Challenge.rw_ta0130_03.row.pre = .and (.not (.lt (.lit (.int 63)) (.len (.arg 0)))) (.lit (.bool true)) := rfl
  rw [e] at h
  w_cond h
  rename_i a b
  rw [List.length_map] at a
  exact Int.ofNat_le.mp (Int.not_lt.mp a)
theorem codeHd_at {h₀ h : Heap} {c p : Addr} (e : (match h₀.get? c with | some o => codeHdIn [(c, o)] c p | none => false) = true) (hk : ∀ b o, h₀.get? b = some o → h.get? b = some o) : isCodeTable h p := by
  split at e
  · rename_i o ho
    have x : CodeHd h₀ c p := by
      refine codeHd_of_K (K := [(c, o)]) (fun a x hx => ?_) e
      rw [List.lookup_cons] at hx
      split at hx
      · rename_i q
        have q := beq_iff_eq.mp q
        subst q; cases hx; exact ho
      · cases hx
    obtain ⟨o, vs, _, _, _, _, _, _, _, e1, e2, e3, e4, _⟩ := x
    exact ⟨c, o, vs, hk _ _ e1, e2, e3, e4⟩
  · cases e
noncomputable def sees (w : World) (h : Heap) : Prop := ∃ s, (∀ b o, s.heap.get? b = some o → h.get? b = some o) ∧ looks s = hopes w
theorem law_walk {d : DefRec} (hn : d.name = sQ "law") : WalkO qV loose2 (XL qV []) sees PySem.Challenge.rw_ta0130_03.row.toRowW d [] fun f vs => PySem.call f vs := by
  intro w s₀ s₁ mg mb G Y a o pm cd doc dV kV ho hd hcd hD hmg hg args vals as hpre hlay hrd hwl hlo
  obtain ⟨s, hk, e⟩ := Y
  obtain ⟨e1, _, _, _, _, e6, _, _, _, _, _, _, e13, e14⟩ := looks_all e
  have mge : ∀ x, mg x = s.heap.nsMap mainGlobals x := fun x => by rw [Heap.Ns.eq_nsMap G.T.g]; exact nsMap_keep hk e6 x
  have t1 : s.heap.get? 89 = some (tabObj #[]) := congrArg (fun x => x.2.2.2) e13
  have t2 : s.heap.get? 96 = some (tabObj #[]) := congrArg (fun x => x.2.2.2) e14
  have K : Start w s.heap s₁.heap mg mb := ⟨hk, G.T.g, G.T.b, G.T.nolimit, G.T.builtins, G.T.bmain, mge, t1, t2⟩
  obtain ⟨kx, kd, kh, f, doc', pm', c', hf, hgl, hz, hcz⟩ := start_all K e
  have ha : a = f := by
    have := (mge d.name).symm.trans hmg
    rw [hn, hf] at this
    injection this with this; injection this with this; exact this.symm
  subst ha
  obtain ⟨hsh, hpr⟩ := pre_splitW hpre
  obtain ⟨dd, rr, rfl, hs1, hs2⟩ := hasAllW_cons hsh
  obtain rfl := hasAllW_nil hs2
  obtain ⟨xs, rfl, hit⟩ := hasW_list hs1
  obtain ⟨S, rfl⟩ := items_int hit
  have hS := len_of hpr
  obtain ⟨v, rfl, hv⟩ : ∃ v, vals = [v] ∧ Well w.params s₁.heap v (.list (S.map .int)) := by
    cases hwl with
    | cons x y => cases y; exact ⟨_, rfl, x⟩
  have I : Inv (cxOf w s₁.heap) (hid s₁.heap) s₁ := by
    refine ⟨Le.refl _, fun b o e => hid_le e, fun t ht => ?_, fun t ht => ?_⟩
    · rcases List.mem_cons.mp ht with rfl | ht
      · exact ⟨#[], hk _ _ t1, .inl rfl⟩
      · rcases List.mem_cons.mp ht with rfl | ht
        · exact ⟨#[], hk _ _ t2, .inl rfl⟩
        · cases ht
    · rcases List.mem_cons.mp ht with rfl | ht
      · exact if_pos (.inl rfl)
      · rcases List.mem_cons.mp ht with rfl | ht
        · exact if_pos (.inr rfl)
        · cases ht
  have hrv : Rd (hid s₁.heap) v (lI S) := by
    cases hv with
    | list hl hr =>
      refine .list (n := 0) (hid_of (fun q => ?_) (fun q => ?_) hl) (rd_ints hr)
      · subst q; rw [hk _ _ t1] at hl; cases hl
      · subst q; rw [hk _ _ t2] at hl; cases hl
  have c1 := codeHd_at (congrArg (fun x => x.2.2.1) e13) hk
  have c2 := codeHd_at (congrArg (fun x => x.2.2.1) e14) hk
  refine law_call (C := cxOf w s₁.heap) (A := callerA) kx kd kh hz hcz S hS ⟨by decide, by decide, rfl⟩ I hrv fun Z' s' st => ?_
  refine ⟨.inl ⟨.bool true, .bool true, [], rfl, fun cls => rfl, .bool true, by wrow_post, fun _ => ⟨List.nodup_nil, fun _ h => nomatch h⟩⟩, ⟨fun b o e => ?_, fun b o e => ?_⟩, st.rest.2.2, .of_eq (st.rest.1.trans hg)⟩
  · by_cases h1 : b = 89
    · subst h1
      obtain ⟨ps, hp, _⟩ := st.inv.tabs (89, _, _) (List.mem_cons_self ..)
      rw [hk _ _ t1] at e; cases e
      exact .inr (.inl ⟨c1, rfl, #[], ps, rfl, by rw [Array.empty_append]; exact hp⟩)
    · by_cases h2 : b = 96
      · subst h2
        obtain ⟨ps, hp, _⟩ := st.inv.tabs (96, _, _) (List.mem_cons_of_mem _ (List.mem_cons_self ..))
        rw [hk _ _ t2] at e; cases e
        exact .inr (.inl ⟨c2, rfl, #[], ps, rfl, by rw [Array.empty_append]; exact hp⟩)
      · refine .inl (st.keep b o e (fun z => z) fun t ht => ?_)
        rcases List.mem_cons.mp ht with rfl | ht
        · exact h1
        · rcases List.mem_cons.mp ht with rfl | ht
          · exact h2
          · cases ht
  · by_cases h1 : b = 89
    · subst h1
      obtain ⟨ps, hp, _⟩ := st.inv.tabs (89, _, _) (List.mem_cons_self ..)
      exact ⟨_, hp⟩
    · by_cases h2 : b = 96
      · subst h2
        obtain ⟨ps, hp, _⟩ := st.inv.tabs (96, _, _) (List.mem_cons_of_mem _ (List.mem_cons_self ..))
        exact ⟨_, hp⟩
      · refine ⟨o, st.keep b o e (fun z => z) fun t ht => ?_⟩
        rcases List.mem_cons.mp ht with rfl | ht
        · exact h1
        · rcases List.mem_cons.mp ht with rfl | ht
          · exact h2
          · cases ht
end
end Mine.Internal
open PySem PySem.W PyProof.Rows Mine.Internal
set_option maxHeartbeats 0
theorem PySem.Challenge.cw_ta0130_03_holds : PySem.Challenge.rw_ta0130_03.Holds := by
  w_on
  refine holds_law (l := PySem.Challenge.rw_ta0130_03) said0 fun said => ?_
  refine holds_open (q := qV) (loose := loose2) (Xt := fun s => xlAt qV [] s && recOk [] s) (XP := XL qV []) (Yf := looks) (Ya := hopes) (YP := sees) (N := 6212) left (fun w s e => ⟨s, fun _ _ e => e, e⟩) (fun w h h' x k => x.imp fun s x => ⟨fun b o e => k _ _ (x.1 b o e), x.2⟩) (fun s e => xl_of s (Bool.and_eq_true_iff.mp e).1) XL.keeps (by rfl) (by rfl) (by rfl) (fun s e => recFacts_of (Bool.and_eq_true_iff.mp e).2) (by rfl) (by first | assumption | decide +kernel) (by decide +kernel) ⟨rfl, rfl, rfl, rfl, rfl, by decide +kernel⟩ ?hw (law_walk rfl)
  w_witness2