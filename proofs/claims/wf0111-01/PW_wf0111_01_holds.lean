import PyProof.Rows.All
import Wide.All
import OpenK.AllK
import Wide.FinOn
import PyProof.InstLoad
import PyProof.Rows.StrTemp
import PyProof.SliceMore
import PyProof.SliceStr2
import PyProof.WalksEnum
import PyProof.EnumMake
import PyProof.Draws
import PyProof.RangeFor
import PyProof.CallFns
import PyProof.SumWalkG
import PyProof.Rows.SumGenD
import PyProof.StrBlock
import PyProof.DictCalls
import PyProof.ForAppend
import PyProof.ListOps
import PyProof.DictRoads
import PyProof.Rows.TupIter
import PyProof.ForAny
import PyProof.CompFree
import PyProof.DictCompW
import PyProof.CompUse
import PyProof.Cells
import PyProof.DefCall
import PyProof.DictTable
import PyProof.ListRange
import PyProof.PvWalk
import PyProof.SetRoads
import PyProof.StrBlockL
import PyProof.RulesAssignMore
import PyProof.FactsBase
import PyProof.InstSpecial
import PyProof.ObjNew
import PyProof.Rows.AttrNodeAny
import PyProof.TypeOfCall
import PyProof.IsRules
import PyProof.DictItemsLoops
import PyProof.RulesDel
import PyProof.SliceList
import PyProof.AssignAttr
import PyProof.Rows.PlainNoArg
import PyProof.RaisesMany
import PyProof.RulesTry
import PyProof.Rows.CatchHere
import PyProof.NeKinds
import Open.Seg
import PyProof.DictDisplay
import PyProof.Rows.SetFrom
import Open.Line
import Lean
import PySem.Challenge.RW_wf0111_01
open PySem PySem.W PyProof.Rows
set_option Elab.async false
set_option linter.unusedVariables false
set_option linter.unusedSectionVars false
set_option linter.unusedSimpArgs false
set_option maxRecDepth 100000
namespace LW
theorem hideGoal {P : Prop} (h : ∀ G : Prop, (P → G) → G) : P := h P fun p => p
end LW
namespace LW

/-- plain values. dct: a dict with text keys; hdr: an object with one field, a list; itr: a list's iterator, what it has still to give; raw: whatever -/
inductive PV where
  | none
  | bool (b : Bool)
  | int (i : Int)
  | str (x : Str)
  | tup (l : List PV)
  | lst (l : List PV)
  | dct (l : List (Str × PV))
  | hdr (C : Addr) (l : List PV)
  | itr (l : List PV)
  | raw (v : Value)
  deriving Inhabited

/-- as mem_cons, but the member is the one that goes -/
theorem memC {α : Type} {a b : α} {l : List α} (h : a ∈ b :: l) : b = a ∨ a ∈ l := (List.mem_cons.mp h).imp_left Eq.symm

noncomputable abbrev Kp (h h' : Heap) : Prop := ∀ b o, h.get? b = some o → h'.get? b = some o
noncomputable abbrev hid (h : Heap) (M : List Addr) : Heap := hideAll h M

theorem hid_get {h : Heap} {M : List Addr} {b : Addr} {o : Obj} : (hid h M).get? b = some o ↔ h.get? b = some o ∧ b ∉ M := by
  constructor
  · intro e
    refine ⟨of_hideAll _ e, fun m => ?_⟩
    rw [hideAll_none M m] at e; cases e
  · rintro ⟨e, m⟩; exact hideAll_get M e m
theorem Kp.hid {h h' : Heap} (k : Kp h h') (M : List Addr) : Kp (hid h M) (hid h' M) := fun b o e => by
  rw [hid_get] at e ⊢; exact ⟨k b o e.1, e.2⟩
theorem Kp.ofHid (h : Heap) (M : List Addr) : Kp (LW.hid h M) h := fun _ _ e => (hid_get.mp e).1
theorem Kp.rfl {h : Heap} : Kp h h := fun _ _ e => e
theorem Kp.trans {a b c : Heap} (x : Kp a b) (y : Kp b c) : Kp a c := fun _ _ e => y _ _ (x _ _ e)
theorem Kp.push (h : Heap) (o : Obj) : Kp h (h.push o) := fun _ _ e => Heap.get?_push_of_some o e
theorem Kp.hidSub (h : Heap) {M M' : List Addr} (s : ∀ a ∈ M, a ∈ M') : Kp (LW.hid h M') (LW.hid h M) := fun b o e => by
  rw [hid_get] at e ⊢; exact ⟨e.1, fun m => e.2 (s _ m)⟩

noncomputable def fieldMap (x : Str) (b : Addr) : Str → Option Value := fun y => if y = x then some (.ref b) else none
noncomputable def IsHdr (F : Heap) (C i b : Addr) : Prop := F.Inst i C (fieldMap "_headers" b)
theorem IsHdr.mono {F F' : Heap} (k : Kp F F') {C i b : Addr} (x : IsHdr F C i b) : IsHdr F' C i b := by
  refine LW.hideGoal fun GG hGG => ?_
  obtain ⟨o, h1, h2, h3, h4⟩ := x
  refine hGG ?_
  clear hGG GG
  refine ⟨o, k _ _ h1, h2, h3, ?_⟩
  rcases h4 with a | ⟨d, d1, d2, d3⟩
  · exact .inl a
  · obtain ⟨od, es, ep, e1, e2⟩ := d3; exact .inr ⟨d, d1, d2, ⟨od, es, ep, k _ _ e1, e2⟩⟩

section
variable (prog : Program) (w : World)
mutual
noncomputable def RepV (F : Heap) : PV → Value → Prop
  | .none, v => v = .none
  | .bool b, v => v = .bool b
  | .int i, v => ∃ t, v = .int i t
  | .str x, v => ∃ t, v = .str x t
  | .tup ps, v => ∃ a vs, v = .ref a ∧ IsTup F a (List.toArray vs) ∧ RepVs F ps vs
  | .lst ps, v => ∃ a vs, v = .ref a ∧ F.PlainList a (List.toArray vs) ∧ RepVs F ps vs
  | .dct ps, v => ∃ a kvs, v = .ref a ∧ (a == sysModules) = false ∧ F.DictOf (strKind prog w) a kvs ∧ RepKs F ps kvs
  | .hdr C ps, v => ∃ i b vs, v = .ref i ∧ IsHdr F C i b ∧ F.PlainList b (List.toArray vs) ∧ RepVs F ps vs
  | .itr _, _ => False
  | .raw v', v => v = v'
noncomputable def RepVs (F : Heap) : List PV → List Value → Prop
  | [], vs => vs = []
  | p :: ps, vs => ∃ v r, vs = v :: r ∧ RepV F p v ∧ RepVs F ps r
noncomputable def RepKs (F : Heap) : List (Str × PV) → List (Str × Value) → Prop
  | [], vs => vs = []
  | p :: ps, vs => ∃ v r, vs = (p.1, v) :: r ∧ RepP F p v ∧ RepKs F ps r
noncomputable def RepP (F : Heap) : Str × PV → Value → Prop
  | (_, p), v => RepV F p v
end
end

section
variable {prog : Program} {w : World}
mutual
theorem RepV.mono {F F' : Heap} (k : Kp F F') : ∀ (p : PV) (v : Value), RepV prog w F p v → RepV prog w F' p v
  | .none, _, h => h
  | .bool _, _, h => h
  | .int _, _, h => h
  | .str _, _, h => h
  | .tup ps, _, ⟨a, vs, e, t, r⟩ => ⟨a, vs, e, t.keeps k, RepVs.mono k ps vs r⟩
  | .lst ps, _, ⟨a, vs, e, t, r⟩ => ⟨a, vs, e, t.at fun o => k a o, RepVs.mono k ps vs r⟩
  | .dct ps, _, ⟨a, kvs, e, hs, ⟨o, es, ep, ho, t⟩, r⟩ => ⟨a, kvs, e, hs, ⟨o, es, ep, k a o ho, t⟩, RepKs.mono k ps kvs r⟩
  | .hdr C ps, _, ⟨i, b, vs, e, u, t, r⟩ => ⟨i, b, vs, e, u.mono k, t.at fun o => k b o, RepVs.mono k ps vs r⟩
  | .itr _, _, h => h.elim
  | .raw _, _, h => h
theorem RepVs.mono {F F' : Heap} (k : Kp F F') : ∀ (ps : List PV) (vs : List Value), RepVs prog w F ps vs → RepVs prog w F' ps vs
  | [], _, h => h
  | p :: ps, _, ⟨v, r, e, h, t⟩ => ⟨v, r, e, RepV.mono k p v h, RepVs.mono k ps r t⟩
theorem RepKs.mono {F F' : Heap} (k : Kp F F') : ∀ (ps : List (Str × PV)) (vs : List (Str × Value)), RepKs prog w F ps vs → RepKs prog w F' ps vs
  | [], _, h => h
  | p :: ps, _, ⟨v, r, e, h, t⟩ => ⟨v, r, e, RepP.mono k p v h, RepKs.mono k ps r t⟩
theorem RepP.mono {F F' : Heap} (k : Kp F F') : ∀ (p : Str × PV) (v : Value), RepP prog w F p v → RepP prog w F' p v
  | (_, p), v, h => RepV.mono k p v h
end

theorem RepVs.length {F : Heap} : ∀ {ps : List PV} {vs : List Value}, RepVs prog w F ps vs → vs.length = ps.length
  | [], _, h => by obtain rfl : _ = [] := h; exact Eq.refl _
  | p :: ps, _, ⟨v, r, e, _, t⟩ => by subst e; rw [List.length_cons, List.length_cons, RepVs.length t]
theorem RepVs.get {F : Heap} : ∀ {ps : List PV} {vs : List Value}, RepVs prog w F ps vs → ∀ {i : Nat} {p : PV}, ps[i]? = some p → ∃ v, vs[i]? = some v ∧ RepV prog w F p v
  | [], _, _, i, p, e => by simp at e
  | q :: ps, _, ⟨v, r, e', hv, t⟩, 0, p, e => by subst e'; cases e; exact ⟨v, Eq.refl _, hv⟩
  | q :: ps, _, ⟨v, r, e', _, t⟩, i + 1, p, e => by
    subst e'
    obtain ⟨v', a, b⟩ := RepVs.get t (i := i) (p := p) (by simpa using e)
    exact ⟨v', by simpa using a, b⟩
theorem RepVs.append {F : Heap} : ∀ {ps qs : List PV} {vs us : List Value}, RepVs prog w F ps vs → RepVs prog w F qs us → RepVs prog w F (ps ++ qs) (vs ++ us)
  | [], _, _, _, h, k => by obtain rfl : _ = [] := h; exact k
  | p :: ps, _, _, _, ⟨v, r, e, hv, t⟩, k => by subst e; exact ⟨v, r ++ _, Eq.refl _, hv, RepVs.append t k⟩
theorem RepVs.one {F : Heap} {p : PV} {v : Value} (x : RepV prog w F p v) : RepVs prog w F [p] [v] := ⟨v, [], Eq.refl _, x, Eq.refl _⟩
theorem RepVs.drop {F : Heap} : ∀ {ps : List PV} {vs : List Value}, RepVs prog w F ps vs → ∀ n, RepVs prog w F (ps.drop n) (vs.drop n)
  | _, _, h, 0 => h
  | [], _, h, n + 1 => by obtain rfl : _ = [] := h; exact (Eq.refl _ : ([] : List Value) = [])
  | p :: ps, _, ⟨v, r, e, _, t⟩, n + 1 => by subst e; exact RepVs.drop t n
theorem RepVs.take {F : Heap} : ∀ {ps : List PV} {vs : List Value}, RepVs prog w F ps vs → ∀ n, RepVs prog w F (ps.take n) (vs.take n)
  | _, _, h, 0 => (Eq.refl _ : ([] : List Value) = [])
  | [], _, h, n + 1 => by obtain rfl : _ = [] := h; exact (Eq.refl _ : ([] : List Value) = [])
  | p :: ps, _, ⟨v, r, e, hv, t⟩, n + 1 => by subst e; exact ⟨v, r.take n, Eq.refl _, hv, RepVs.take t n⟩
end

/-- a local's value; ow: a thing that this frame alone holds and may change -/
inductive LV where
  | im (p : PV)
  | ow (p : PV)
/-- what is known: the names' values, and things at addresses that may be changed -/
structure Sy where
  v : List (Str × LV)
  t : List (Addr × PV) := []

noncomputable def Slot (h : Heap) (env : Env) (m : Str → Option Value) (x : Str) (v : Value) : Prop :=
  (env.kindOf x = some .local ∧ m x = some v) ∨ ((env.kindOf x = some .cell ∨ env.kindOf x = some .free) ∧ ∃ c, env.cells.lookup x = some c ∧ h.IsCell c (some v))

section
variable (prog : Program) (w : World)
/-- the thing p, that may be changed at the address a, as the value v -/
noncomputable def OwnV (h : Heap) (M : List Addr) (a : Addr) (v : Value) : PV → Prop
  | .lst ps => v = .ref a ∧ ∃ vs, h.PlainList a (List.toArray vs) ∧ RepVs prog w (hid h M) ps vs
  | .dct ps => v = .ref a ∧ (a == sysModules) = false ∧ ∃ kvs, h.DictOf (strKind prog w) a kvs ∧ RepKs prog w (hid h M) ps kvs
  | .hdr C ps => ∃ i vs, v = .ref i ∧ IsHdr (hid h M) C i a ∧ h.PlainList a (List.toArray vs) ∧ RepVs prog w (hid h M) ps vs
  | .itr ps => v = .ref a ∧ ∃ l vs k, h.IsListIter a l k ∧ (hid h M).PlainList l (List.toArray vs) ∧ RepVs prog w (hid h M) ps (vs.drop k)
  | _ => False
noncomputable def LvR (h : Heap) (M : List Addr) (v : Value) : LV → Prop
  | .im p => RepV prog w (hid h M) p v
  | .ow p => ∃ a ∈ M, OwnV prog w h M a v p
structure Vars (H0 h : Heap) (M : List Addr) (env : Env) (σ : Sy) (m : Str → Option Value) : Prop where
  fn : env.scope.kind = .function
  gl : env.globals = mainGlobals
  bl : env.builtins = builtinsNs
  base : Kp H0 (hid h M)
  ns : h.Ns env.locals m
  sm : ∃ o, h.get? sysModules = some o
  ex : ∀ a ∈ M, ∃ o, h.get? a = some o
  va : ∀ x lv, σ.v.lookup x = some lv → ∃ v, Slot h env m x v ∧ LvR prog w h M v lv
  th : ∀ y ∈ σ.t, y.1 ∈ M ∧ OwnV prog w h M y.1 (.ref y.1) y.2
end
end LW
namespace LW
section
variable {prog : Program} {w : World} {H0 : Heap} {A : Around} {env : Env} {σ : Sy} {h h' : Heap} {M : List Addr} {m : Str → Option Value}

theorem Slot.keeps {x : Str} {v : Value} (k : Kp h h') (x' : Slot h env m x v) : Slot h' env m x v := by
  rcases x' with a | ⟨a, c, hc, hv⟩
  · exact .inl a
  · exact .inr ⟨a, c, hc, hv.keeps k⟩
theorem OwnV.keeps {a : Addr} {p : PV} {v : Value} (k : Kp h h') (x : OwnV prog w h M a v p) : OwnV prog w h' M a v p := by
  cases p <;> try exact x
  · obtain ⟨e, vs, a1, a2⟩ := x; exact ⟨e, vs, a1.at fun o => k _ o, RepVs.mono (k.hid M) _ _ a2⟩
  · obtain ⟨e, hs, vs, ⟨o, es, ep, ho, a1⟩, a2⟩ := x; exact ⟨e, hs, vs, ⟨o, es, ep, k _ _ ho, a1⟩, RepKs.mono (k.hid M) _ _ a2⟩
  · obtain ⟨i, vs, e, u, a1, a2⟩ := x; exact ⟨i, vs, e, u.mono (k.hid M), a1.at fun o => k _ o, RepVs.mono (k.hid M) _ _ a2⟩
  · obtain ⟨e, l, vs, n, a1, a2, a3⟩ := x; exact ⟨e, l, vs, n, a1.at fun o => k _ o, a2.at fun o => k.hid M _ o, RepVs.mono (k.hid M) _ _ a3⟩
theorem LvR.keeps {lv : LV} {v : Value} (k : Kp h h') (x : LvR prog w h M v lv) : LvR prog w h' M v lv := by
  cases lv with
  | im p => exact RepV.mono (k.hid M) _ _ x
  | ow p => obtain ⟨a, ha, r⟩ := x; exact ⟨a, ha, r.keeps k⟩
theorem Vars.keeps (k : Kp h h') (V : Vars prog w H0 h M env σ m) : Vars prog w H0 h' M env σ m where
  fn := V.fn
  gl := V.gl
  bl := V.bl
  base := fun b o e => k.hid M b o (V.base b o e)
  ns := V.ns.keeps k
  sm := let ⟨o, e⟩ := V.sm; ⟨o, k _ _ e⟩
  ex := fun a ha => let ⟨o, e⟩ := V.ex a ha; ⟨o, k a o e⟩
  va := fun x lv e => let ⟨v, s, r⟩ := V.va x lv e; ⟨v, s.keeps k, r.keeps k⟩
  th := fun y hy => ⟨(V.th y hy).1, (V.th y hy).2.keeps k⟩

/-- evaluation of an expression to a plain value; nothing that stood is changed -/
structure Ev (prog : Program) (w : World) (H0 : Heap) (A : Around) (env : Env) (σ : Sy) (e : PySem.Expr) (p : PV) : Prop where
  run :
    ∀ (s : Shared) (M : List Addr) (m : Str → Option Value) (Q : Value → Shared → Prop) (E : Value → Shared → Prop), Vars prog w H0 s.heap M env σ m →
      (∀ v h' tk, Kp s.heap h' → RepV prog w (hid h' M) p v → Q v { s with heap := h', toks := tk }) → wpAny (model prog w) A (eval e env) Q E s

/-- what can be read off a value: its own top, the rest as plain values -/
noncomputable def RdV (prog : Program) (w : World) (h : Heap) (M : List Addr) : PV → Value → Prop
  | .lst ps, v => ∃ a vs, v = .ref a ∧ h.PlainList a (List.toArray vs) ∧ RepVs prog w (hid h M) ps vs
  | .dct ps, v => ∃ a kvs, v = .ref a ∧ (a == sysModules) = false ∧ h.DictOf (strKind prog w) a kvs ∧ RepKs prog w (hid h M) ps kvs
  | .hdr C ps, v => ∃ i b vs, v = .ref i ∧ IsHdr (hid h M) C i b ∧ h.PlainList b (List.toArray vs) ∧ RepVs prog w (hid h M) ps vs
  | .itr ps, v => ∃ a, OwnV prog w h M a v (.itr ps)
  | p, v => RepV prog w (hid h M) p v
theorem RdV.of_rep {p : PV} {v : Value} (x : RepV prog w (hid h M) p v) : RdV prog w h M p v := by
  cases p <;> try exact x
  · obtain ⟨a, vs, e, t, r⟩ := x; exact ⟨a, vs, e, t.at fun o => Kp.ofHid h M a o, r⟩
  · obtain ⟨a, vs, e, hs, ⟨o, es, ep, ho, t⟩, r⟩ := x; exact ⟨a, vs, e, hs, ⟨o, es, ep, Kp.ofHid h M a o ho, t⟩, r⟩
  · obtain ⟨i, b, vs, e, u, t, r⟩ := x; exact ⟨i, b, vs, e, u, t.at fun o => Kp.ofHid h M b o, r⟩
  · exact x.elim
theorem RdV.of_own {p : PV} {a : Addr} {v : Value} (x : OwnV prog w h M a v p) : RdV prog w h M p v := by
  cases p <;> try exact x.elim
  · obtain ⟨e, vs, a1, a2⟩ := x; exact ⟨a, vs, e, a1, a2⟩
  · obtain ⟨e, hs, vs, a1, a2⟩ := x; exact ⟨a, vs, e, hs, a1, a2⟩
  · obtain ⟨i, vs, e, u, a1, a2⟩ := x; exact ⟨i, a, vs, e, u, a1, a2⟩
  · exact ⟨a, x⟩
theorem RdV.keeps {p : PV} {v : Value} (k : Kp h h') (x : RdV prog w h M p v) : RdV prog w h' M p v := by
  cases p <;> try exact RepV.mono (k.hid M) _ _ x
  · obtain ⟨a, vs, e, t, r⟩ := x; exact ⟨a, vs, e, t.at fun o => k a o, RepVs.mono (k.hid M) _ _ r⟩
  · obtain ⟨a, vs, e, hs, ⟨o, es, ep, ho, t⟩, r⟩ := x; exact ⟨a, vs, e, hs, ⟨o, es, ep, k a o ho, t⟩, RepKs.mono (k.hid M) _ _ r⟩
  · obtain ⟨i, b, vs, e, u, t, r⟩ := x; exact ⟨i, b, vs, e, u.mono (k.hid M), t.at fun o => k b o, RepVs.mono (k.hid M) _ _ r⟩
  · obtain ⟨a, x⟩ := x; exact ⟨a, x.keeps k⟩

structure Rd (prog : Program) (w : World) (H0 : Heap) (A : Around) (env : Env) (σ : Sy) (e : PySem.Expr) (p : PV) : Prop where
  run :
    ∀ (s : Shared) (M : List Addr) (m : Str → Option Value) (Q : Value → Shared → Prop) (E : Value → Shared → Prop), Vars prog w H0 s.heap M env σ m →
      (∀ v h' tk, Kp s.heap h' → RdV prog w h' M p v → Q v { s with heap := h', toks := tk }) → wpAny (model prog w) A (eval e env) Q E s

structure Tst (prog : Program) (w : World) (H0 : Heap) (A : Around) (env : Env) (σ : Sy) (e : PySem.Expr) (b : Bool) : Prop where
  run :
    ∀ (s : Shared) (M : List Addr) (m : Str → Option Value) (Q : Bool → Shared → Prop) (E : Value → Shared → Prop), Vars prog w H0 s.heap M env σ m →
      (∀ h' tk, Kp s.heap h' → Q b { s with heap := h', toks := tk }) → wpAny (model prog w) A (isTrue e env (eval e env)) Q E s

/-- evaluation to a new thing, which nothing else holds -/
structure EvN (prog : Program) (w : World) (H0 : Heap) (A : Around) (env : Env) (σ : Sy) (e : PySem.Expr) (p : PV) : Prop where
  run :
    ∀ (s : Shared) (M : List Addr) (m : Str → Option Value) (Q : Value → Shared → Prop) (E : Value → Shared → Prop), Vars prog w H0 s.heap M env σ m →
      (∀ a v h' tk, Kp s.heap h' → s.heap.get? a = none → OwnV prog w h' (a :: M) a v p → Q v { s with heap := h', toks := tk }) → wpAny (model prog w) A (eval e env) Q E s

theorem Ev.rd {e : PySem.Expr} {p : PV} (x : Ev prog w H0 A env σ e p) : Rd prog w H0 A env σ e p := .mk fun s M m Q E V q =>
  x.run s M m Q E V fun v h' tk k r => q v h' tk k (RdV.of_rep r)

theorem not_sys {a : Addr} (sm : ∃ o, h.get? sysModules = some o) (f : h.get? a = none) : (a == sysModules) = false := by
  refine beq_false_of_ne fun e => ?_
  obtain ⟨o, ho⟩ := sm; rw [e, ho] at f; cases f
theorem fresh_not_mem {a : Addr} (ex : ∀ a ∈ M, ∃ o, h.get? a = some o) (f : h.get? a = none) : a ∉ M := fun hm => by
  obtain ⟨o, e⟩ := ex a hm; rw [f] at e; cases e
/-- a new thing as a value that is not changed any more -/
theorem OwnV.frozen {a : Addr} {v : Value} {p : PV} (hp : ∀ l, p ≠ .itr l) (ha : a ∉ M) (x : OwnV prog w h (a :: M) a v p) : RepV prog w (hid h M) p v := by
  have sub : Kp (hid h (a :: M)) (hid h M) := Kp.hidSub h fun b hb => List.mem_cons_of_mem _ hb
  cases p <;> try exact x.elim
  · obtain ⟨e, vs, a1, a2⟩ := x; exact ⟨a, vs, e, a1.at fun o ho => hid_get.mpr ⟨ho, ha⟩, RepVs.mono sub _ _ a2⟩
  · obtain ⟨e, hs, vs, ⟨o, es, ep, ho, a1⟩, a2⟩ := x; exact ⟨a, vs, e, hs, ⟨o, es, ep, hid_get.mpr ⟨ho, ha⟩, a1⟩, RepKs.mono sub _ _ a2⟩
  · obtain ⟨i, vs, e, u, a1, a2⟩ := x; exact ⟨i, a, vs, e, u.mono sub, a1.at fun o ho => hid_get.mpr ⟨ho, ha⟩, RepVs.mono sub _ _ a2⟩
  · exact (hp _ rfl).elim
theorem EvN.ev {e : PySem.Expr} {p : PV} (x : EvN prog w H0 A env σ e p) (hp : ∀ l, p ≠ .itr l := by intro l; exact PV.noConfusion) : Ev prog w H0 A env σ e p := .mk fun s M m Q E V q =>
  x.run s M m Q E V fun a v h' tk k f r => q v h' tk k (r.frozen hp (fresh_not_mem V.ex f))

theorem Ev.int {i : Int} {k : Nat} {pos : Pos} : Ev prog w H0 A env σ (.Constant (.int i) k pos) (.int i) := .mk fun s _ _ _ _ _ q =>
  wpAny_Constant_int (q _ s.heap _ (fun _ _ e => e) ⟨_, rfl⟩)
theorem Ev.str {x : Str} {k : Nat} {pos : Pos} : Ev prog w H0 A env σ (.Constant (.str x) k pos) (.str x) := .mk fun s _ _ _ _ _ q =>
  wpAny_Constant_str (q _ s.heap _ (fun _ _ e => e) ⟨_, rfl⟩)
theorem Ev.none {k : Nat} {pos : Pos} : Ev prog w H0 A env σ (.Constant .none k pos) .none := .mk fun s _ _ _ _ _ q =>
  wpAny_Constant_none (q _ s.heap s.toks (fun _ _ e => e) rfl)
theorem Ev.bool {b : Bool} {k : Nat} {pos : Pos} : Ev prog w H0 A env σ (.Constant (.bool b) k pos) (.bool b) := .mk fun s _ _ _ _ _ q =>
  wpAny_Constant_bool (q _ s.heap s.toks (fun _ _ e => e) rfl)

theorem load_slot {x : Str} {v : Value} {s : Shared} {Q : Value → Shared → Prop} {E : Value → Shared → Prop} (hk : env.scope.kind = .function) (hn : s.heap.Ns env.locals m) (S : Slot s.heap env m x v)
    (hcd : (x == ("__classdict__" : Str)) = false) (q : Q v s) : wpAny (model prog w) A (loadName env x) Q E s := by
  rcases S with ⟨a, b⟩ | ⟨a | a, c, hc, hv⟩
  · exact wpAny_loadName_local hk a hn b q
  · exact wpAny_loadName_cell hk a hc hv q
  · exact wpAny_loadName_free hk a hc hv q hcd

theorem Ev.name {x : Str} {pos : Pos} {p : PV} (hl : σ.v.lookup x = some (.im p)) (hd : ((x == ("__debug__" : Str)) || (x == ("__classdict__" : Str))) = false := by decide) :
    Ev prog w H0 A env σ (.Name x pos) p := .mk fun s M m Q E V q => by
  refine LW.hideGoal fun GG hGG => ?_
  obtain ⟨h1, h2⟩ := Bool.or_eq_false_iff.mp hd
  obtain ⟨v, S, r⟩ := V.va x _ hl
  refine hGG ?_
  clear hGG GG
  refine wpAny_Name (load_slot V.fn V.ns S h2 ?_) h1
  exact q v s.heap s.toks (fun _ _ e => e) r
theorem Rd.own {x : Str} {pos : Pos} {p : PV} (hl : σ.v.lookup x = some (.ow p)) (hd : ((x == ("__debug__" : Str)) || (x == ("__classdict__" : Str))) = false := by decide) :
    Rd prog w H0 A env σ (.Name x pos) p := .mk fun s M m Q E V q => by
  refine LW.hideGoal fun GG hGG => ?_
  obtain ⟨h1, h2⟩ := Bool.or_eq_false_iff.mp hd
  obtain ⟨v, S, r⟩ := V.va x _ hl
  obtain ⟨a, _, r⟩ := r
  refine hGG ?_
  clear hGG GG
  refine wpAny_Name (load_slot V.fn V.ns S h2 ?_) h1
  exact q _ s.heap s.toks (fun _ _ e => e) (RdV.of_own r)

/-- two operands -/
theorem ev_two {l r : PySem.Expr} {p q : PV} {s : Shared} {M : List Addr} {m : Str → Option Value} {Q : Value → Value → Shared → Prop} {E : Value → Shared → Prop} (hl : Rd prog w H0 A env σ l p) (hr : Rd prog w H0 A env σ r q)
    (V : Vars prog w H0 s.heap M env σ m) (k : ∀ a b h' tk, Kp s.heap h' → RdV prog w h' M p a → RdV prog w h' M q b → Q a b { s with heap := h', toks := tk }) :
    wpAny (model prog w) A (eval l env) (fun a s₁ => wpAny (model prog w) A (eval r env) (fun b s₂ => Q a b s₂) E s₁) E s :=
  hl.run s M m _ _ V fun a h₁ t₁ k₁ ra => hr.run _ M m _ _ (V.keeps k₁) fun b h₂ t₂ k₂ rb => k a b h₂ t₂ (fun x o e => k₂ x o (k₁ x o e)) (ra.keeps k₂) rb

theorem ev_binop {l r : PySem.Expr} {op : Operator} {pos : Pos} {p q z : PV} (hl : Rd prog w H0 A env σ l p) (hr : Rd prog w H0 A env σ r q)
    (k : ∀ (s : Shared) (M : List Addr) (a b : Value) (Q : Value → Shared → Prop) (E : Value → Shared → Prop), RdV prog w s.heap M p a → RdV prog w s.heap M q b → (∀ a ∈ M, ∃ o, s.heap.get? a = some o) →
      (∀ v h' tk, Kp s.heap h' → RepV prog w (hid h' M) z v → Q v { s with heap := h', toks := tk }) → wpAny (model prog w) A (binaryOp op a b) Q E s) :
    Ev prog w H0 A env σ (.BinOp l op r pos) z := .mk fun s M m Q E V q' =>
  wpAny_BinOp (ev_two hl hr V fun a b h' tk kp ra rb => k _ M a b _ _ ra rb (V.keeps kp).ex fun v h'' tk' k' rv => q' v h'' tk' (fun x o e => k' x o (kp x o e)) rv)

theorem Ev.addI {l r : PySem.Expr} {pos : Pos} {a b : Int} (hl : Ev prog w H0 A env σ l (.int a)) (hr : Ev prog w H0 A env σ r (.int b)) : Ev prog w H0 A env σ (.BinOp l .Add r pos) (.int (a + b)) :=
  ev_binop hl.rd hr.rd fun s M _ _ Q E ⟨_, e1⟩ ⟨_, e2⟩ _ q => by subst e1 e2; exact add_int (q _ s.heap _ (fun _ _ e => e) ⟨_, rfl⟩)
theorem Ev.subI {l r : PySem.Expr} {pos : Pos} {a b : Int} (hl : Ev prog w H0 A env σ l (.int a)) (hr : Ev prog w H0 A env σ r (.int b)) : Ev prog w H0 A env σ (.BinOp l .Sub r pos) (.int (a - b)) :=
  ev_binop hl.rd hr.rd fun s M _ _ Q E ⟨_, e1⟩ ⟨_, e2⟩ _ q => by subst e1 e2; exact sub_int (q _ s.heap _ (fun _ _ e => e) ⟨_, rfl⟩)
theorem Ev.mulI {l r : PySem.Expr} {pos : Pos} {a b : Int} (hl : Ev prog w H0 A env σ l (.int a)) (hr : Ev prog w H0 A env σ r (.int b)) (hm : IntMulOk a b) : Ev prog w H0 A env σ (.BinOp l .Mult r pos) (.int (a * b)) :=
  ev_binop hl.rd hr.rd fun s M _ _ Q E ⟨_, e1⟩ ⟨_, e2⟩ _ q => by subst e1 e2; exact mul_int (q _ s.heap _ (fun _ _ e => e) ⟨_, rfl⟩) hm
theorem Ev.divI {l r : PySem.Expr} {pos : Pos} {a b : Int} (hl : Ev prog w H0 A env σ l (.int a)) (hr : Ev prog w H0 A env σ r (.int b)) (hb : b ≠ 0) (hs : b.natAbs < 1073741824) : Ev prog w H0 A env σ (.BinOp l .FloorDiv r pos) (.int (a.fdiv b)) :=
  ev_binop hl.rd hr.rd fun s M _ _ Q E ⟨_, e1⟩ ⟨_, e2⟩ _ q => by subst e1 e2; exact floordiv_int hb (q _ s.heap _ (fun _ _ e => e) ⟨_, rfl⟩) (.inl (PyProof.noPylong_small hs))
theorem Ev.modI {l r : PySem.Expr} {pos : Pos} {a b : Int} (hl : Ev prog w H0 A env σ l (.int a)) (hr : Ev prog w H0 A env σ r (.int b)) (hb : b ≠ 0) : Ev prog w H0 A env σ (.BinOp l .Mod r pos) (.int (a.fmod b)) :=
  ev_binop hl.rd hr.rd fun s M _ _ Q E ⟨_, e1⟩ ⟨_, e2⟩ _ q => by subst e1 e2; exact mod_int hb (q _ s.heap _ (fun _ _ e => e) ⟨_, rfl⟩)
end
end LW
namespace LW
section
variable {prog : Program} {w : World} {H0 : Heap} {A : Around} {env : Env} {σ : Sy} {h h' : Heap} {M : List Addr} {m : Str → Option Value}

/-- comparisons -/
noncomputable def CmpOk (prog : Program) (w : World) (A : Around) (op : CmpOp) (p q : PV) (b : Bool) : Prop :=
  ∀ (s : Shared) (M : List Addr) (a c : Value) (Q : Value → Shared → Prop) (E : Value → Shared → Prop), RdV prog w s.heap M p a → RdV prog w s.heap M q c →
    (∀ h' tk, Kp s.heap h' → Q (.bool b) { s with heap := h', toks := tk }) → wpAny (model prog w) A (compareOp op a c) Q E s

theorem Ev.cmp {l r : PySem.Expr} {op : CmpOp} {pos : Pos} {p q : PV} {b : Bool} (hc : CmpOk prog w A op p q b) (hl : Rd prog w H0 A env σ l p) (hr : Rd prog w H0 A env σ r q)
    (hm : behindInMarks op r = false := by with_unfolding_all rfl) : Ev prog w H0 A env σ (.Compare l [op] [r] pos) (.bool b) := .mk fun s M m Q E V q' =>
  wpAny_Compare1 (ev_two hl hr V fun a c h' tk kp ra rb => hc _ M a c _ _ ra rb fun h'' tk' k' => q' _ h'' tk' (kp.trans k') rfl) hm
theorem Tst.cmp {l r : PySem.Expr} {op : CmpOp} {pos : Pos} {p q : PV} {b : Bool} (hc : CmpOk prog w A op p q b) (hl : Rd prog w H0 A env σ l p) (hr : Rd prog w H0 A env σ r q)
    (hm : behindInMarks op r = false := by with_unfolding_all rfl) : Tst prog w H0 A env σ (.Compare l [op] [r] pos) b := .mk fun s M m Q E V q' =>
  wpAny_isTrue_Compare1 (ev_two hl hr V fun a c h' tk kp ra rb => hc _ M a c _ _ ra rb fun h'' tk' k' => wpAny_truthy_bool (q' h'' tk' (kp.trans k'))) hm
theorem Tst.not {x : PySem.Expr} {pos : Pos} {b : Bool} (hx : Tst prog w H0 A env σ x b) : Tst prog w H0 A env σ (.UnaryOp .Not x pos) (!b) := .mk fun s M m Q E V q =>
  wpAny_isTrue_Not (hx.run s M m _ _ V fun h' tk k => q h' tk k)
theorem Tst.and2 {x y : PySem.Expr} {pos : Pos} {b c : Bool} (hx : Tst prog w H0 A env σ x b) (hy : b = true → Tst prog w H0 A env σ y c) : Tst prog w H0 A env σ (.BoolOp .And [x, y] pos) (b && c) := .mk fun s M m Q E V q =>
  wpAny_isTrue_BoolOp (wpAny_allTrue_And_cons (hx.run s M m _ _ V fun h' tk k => by
    cases b with
    | false => exact q h' tk k
    | true =>
      refine wpAny_allTrue_And_cons ((hy (Eq.refl _)).run _ M m _ _ (V.keeps k) fun h'' tk' k' => ?_)
      cases c with
      | false => exact q h'' tk' (k.trans k')
      | true => exact wpAny_allTrue_And_nil (q h'' tk' (k.trans k'))))
theorem Tst.or2 {x y : PySem.Expr} {pos : Pos} {b c : Bool} (hx : Tst prog w H0 A env σ x b) (hy : b = false → Tst prog w H0 A env σ y c) : Tst prog w H0 A env σ (.BoolOp .Or [x, y] pos) (b || c) := .mk fun s M m Q E V q =>
  wpAny_isTrue_BoolOp (wpAny_allTrue_Or_cons (hx.run s M m _ _ V fun h' tk k => by
    cases b with
    | true => exact q h' tk k
    | false =>
      refine wpAny_allTrue_Or_cons ((hy (Eq.refl _)).run _ M m _ _ (V.keeps k) fun h'' tk' k' => ?_)
      cases c with
      | true => exact q h'' tk' (k.trans k')
      | false => exact wpAny_allTrue_Or_nil (q h'' tk' (k.trans k'))))
theorem Tst.val {e : PySem.Expr} {b : Bool} (he : Ev prog w H0 A env σ e (.bool b)) (hi : isTrue e env (eval e env) = (do let v ← eval e env; standAt e.pos; holding [v] (truthy v)) := by rfl) :
    Tst prog w H0 A env σ e b := .mk fun s M m Q E V q =>
  wpAny_isTrue_value (he.run s M m _ _ V fun v h' tk k r => by obtain rfl : v = .bool b := r; exact wpAny_truthy_bool (q h' tk k)) hi
theorem Ev.ite {t x y : PySem.Expr} {pos : Pos} {b : Bool} {p : PV} (ht : Tst prog w H0 A env σ t b) (hx : b = true → Ev prog w H0 A env σ x p) (hy : b = false → Ev prog w H0 A env σ y p) :
    Ev prog w H0 A env σ (.IfExp t x y pos) p := .mk fun s M m Q E V q =>
  wpAny_IfExp (ht.run s M m _ _ V fun h' tk k => by
    cases b with
    | true => exact (hx (Eq.refl _)).run _ M m _ _ (V.keeps k) fun v h'' tk' k' r => q v h'' tk' (k.trans k') r
    | false => exact (hy (Eq.refl _)).run _ M m _ _ (V.keeps k) fun v h'' tk' k' r => q v h'' tk' (k.trans k') r)

theorem CmpOk.ltI {a b : Int} : CmpOk prog w A .Lt (.int a) (.int b) (decide (a < b)) := fun s M _ _ Q E ⟨_, e1⟩ ⟨_, e2⟩ q => by subst e1 e2; exact lt_int (q s.heap s.toks Kp.rfl)
theorem CmpOk.gtI {a b : Int} : CmpOk prog w A .Gt (.int a) (.int b) (decide (b < a)) := fun s M _ _ Q E ⟨_, e1⟩ ⟨_, e2⟩ q => by subst e1 e2; exact gt_int (q s.heap s.toks Kp.rfl)
theorem CmpOk.geI {a b : Int} : CmpOk prog w A .GtE (.int a) (.int b) (decide (b ≤ a)) := fun s M _ _ Q E ⟨_, e1⟩ ⟨_, e2⟩ q => by subst e1 e2; exact ge_int (q s.heap s.toks Kp.rfl)
theorem CmpOk.eqI {a b : Int} : CmpOk prog w A .Eq (.int a) (.int b) (a == b) := fun s M _ _ Q E ⟨_, e1⟩ ⟨_, e2⟩ q => by subst e1 e2; exact eq_int (q s.heap s.toks Kp.rfl)
theorem CmpOk.neI {a b : Int} : CmpOk prog w A .NotEq (.int a) (.int b) (a != b) := fun s M _ _ Q E ⟨_, e1⟩ ⟨_, e2⟩ q => by subst e1 e2; exact ne_int (q s.heap s.toks Kp.rfl)
theorem CmpOk.eqS {a b : Str} : CmpOk prog w A .Eq (.str a) (.str b) (a == b) := fun s M _ _ Q E ⟨_, e1⟩ ⟨_, e2⟩ q => by subst e1 e2; exact eq_str (q s.heap s.toks Kp.rfl)
theorem CmpOk.neS {a b : Str} : CmpOk prog w A .NotEq (.str a) (.str b) (a != b) := fun s M _ _ Q E ⟨_, e1⟩ ⟨_, e2⟩ q => by subst e1 e2; exact ne_str (q s.heap s.toks Kp.rfl)
theorem CmpOk.ltS {a b : Str} : CmpOk prog w A .Lt (.str a) (.str b) (a.cps.toList < b.cps.toList) := fun s M _ _ Q E ⟨_, e1⟩ ⟨_, e2⟩ q => by subst e1 e2; exact lt_str (q s.heap s.toks Kp.rfl)

theorem Ev.addS {l r : PySem.Expr} {pos : Pos} {a b : Str} (hl : Ev prog w H0 A env σ l (.str a)) (hr : Ev prog w H0 A env σ r (.str b)) (hsz : a.length + b.length ≤ sizeLine) :
    Ev prog w H0 A env σ (.BinOp l .Add r pos) (.str (a ++ b)) :=
  ev_binop hl.rd hr.rd fun s M _ _ Q E ⟨_, e1⟩ ⟨_, e2⟩ _ q => by subst e1 e2; exact add_str (fun t' tk => q _ s.heap tk Kp.rfl ⟨_, Eq.refl _⟩) hsz
theorem Ev.andI {l r : PySem.Expr} {pos : Pos} {a b : Int} (hl : Ev prog w H0 A env σ l (.int a)) (hr : Ev prog w H0 A env σ r (.int b)) : Ev prog w H0 A env σ (.BinOp l .BitAnd r pos) (.int (Builtin.bitAnd a b)) :=
  ev_binop hl.rd hr.rd fun s M _ _ Q E ⟨_, e1⟩ ⟨_, e2⟩ _ q => by subst e1 e2; exact and_int (q _ s.heap _ Kp.rfl ⟨_, Eq.refl _⟩)
theorem Ev.orI {l r : PySem.Expr} {pos : Pos} {a b : Int} (hl : Ev prog w H0 A env σ l (.int a)) (hr : Ev prog w H0 A env σ r (.int b)) : Ev prog w H0 A env σ (.BinOp l .BitOr r pos) (.int (Builtin.bitOr a b)) :=
  ev_binop hl.rd hr.rd fun s M _ _ Q E ⟨_, e1⟩ ⟨_, e2⟩ _ q => by subst e1 e2; exact or_int (q _ s.heap _ Kp.rfl ⟨_, Eq.refl _⟩)
theorem Ev.powI {l r : PySem.Expr} {pos : Pos} {a b : Int} (hl : Ev prog w H0 A env σ l (.int a)) (hr : Ev prog w H0 A env σ r (.int b)) (h0 : 0 ≤ b) (hsz : (Builtin.Int.intBits a : Int) * b ≤ 2 ^ 27) :
    Ev prog w H0 A env σ (.BinOp l .Pow r pos) (.int (a ^ b.toNat)) :=
  ev_binop hl.rd hr.rd fun s M _ _ Q E ⟨_, e1⟩ ⟨_, e2⟩ _ q => by subst e1 e2; exact pow_int h0 hsz (q _ s.heap _ Kp.rfl ⟨_, Eq.refl _⟩)
end
end LW
namespace LW
section
variable {prog : Program} {w : World} {H0 : Heap} {A : Around} {env : Env} {σ : Sy} {h h' : Heap} {M : List Addr} {m : Str → Option Value}

theorem none_of_kp (k : Kp h h') {a : Addr} (e : h'.get? a = none) : h.get? a = none := by
  cases f : h.get? a with
  | none => rfl
  | some o => rw [k a o f] at e; cases e
theorem size_none (h : Heap) : h.get? h.objs.size = none := by
  cases f : h.get? h.objs.size with
  | none => rfl
  | some o => exact absurd (Heap.lt_size f) (Nat.lt_irrefl _)
theorem Kp.hidFresh (k : Kp h h') {a : Addr} (f : h.get? a = none) (M : List Addr) : Kp (LW.hid h M) (LW.hid h' (a :: M)) := fun b o e => by
  rw [hid_get] at e ⊢
  refine ⟨k b o e.1, fun hm => ?_⟩
  rcases memC hm with rfl | hm
  · rw [f] at e; cases e.1
  · exact e.2 hm

/-- several expressions in turn -/
structure EvL (prog : Program) (w : World) (H0 : Heap) (A : Around) (env : Env) (σ : Sy) (pos : Pos) (es : List PySem.Expr) (ps : List PV) : Prop where
  run :
    ∀ (s : Shared) (M : List Addr) (m : Str → Option Value) (Q : List Value → Shared → Prop) (E : Value → Shared → Prop), Vars prog w H0 s.heap M env σ m →
      (∀ vs h' tk, Kp s.heap h' → RepVs prog w (hid h' M) ps vs → Q vs { s with heap := h', toks := tk }) → wpAny (model prog w) A (spliced (backTo pos (starEach es env))) Q E s
theorem EvL.nil {pos : Pos} : EvL prog w H0 A env σ pos [] [] := .mk fun s M m Q E V q => wpAny_items_nil (q [] s.heap s.toks Kp.rfl (Eq.refl ([] : List Value)))
theorem EvL.cons {pos : Pos} {e : PySem.Expr} {es : List PySem.Expr} {p : PV} {ps : List PV} (he : Ev prog w H0 A env σ e p) (hr : EvL prog w H0 A env σ pos es ps)
    (hs : starEach (e :: es) env = (false, eval e env) :: starEach es env := by rfl) : EvL prog w H0 A env σ pos (e :: es) (p :: ps) := .mk fun s M m Q E V q =>
  wpAny_items_cons (he.run s M m _ _ V fun v h' tk k r => hr.run _ M m _ _ (V.keeps k) fun vs h'' tk' k' r' => q (v :: vs) h'' tk' (k.trans k') ⟨v, vs, rfl, RepV.mono (k'.hid M) _ _ r, r'⟩) hs

theorem EvN.list {pos : Pos} {es : List PySem.Expr} {ps : List PV} (he : EvL prog w H0 A env σ pos es ps) (hsz : ps.length ≤ sizeLine := by first | decide | (simp only [List.length_cons, List.length_nil, List.length_map]; decide)) : EvN prog w H0 A env σ (.List es pos) (.lst ps) := .mk fun s M m Q E V q =>
  wpAny_List (he.run s M m _ _ V fun vs h' tk k r => ⟨by rw [r.length]; exact hsz, by
    refine q h'.objs.size _ _ tk (k.trans (Kp.push h' _)) (none_of_kp k (size_none h')) ⟨rfl, vs, ⟨_, Heap.get?_push_size _ rfl⟩, ?_⟩
    exact RepVs.mono (Kp.hidFresh (Kp.push h' _) (size_none h') M) _ _ r⟩)
theorem Ev.tuple {pos : Pos} {k₀ : Nat} {es : List PySem.Expr} {ps : List PV} (he : EvL prog w H0 A env σ pos es ps) (hsz : ps.length ≤ sizeLine := by first | decide | (simp only [List.length_cons, List.length_nil, List.length_map]; decide)) : Ev prog w H0 A env σ (.Tuple es k₀ pos) (.tup ps) := .mk fun s M m Q E V q =>
  wpAny_Tuple (he.run s M m _ _ V fun vs h' tk k r => ⟨by rw [r.length]; exact hsz, by
    have hn : h'.objs.size ∉ M := fresh_not_mem (V.keeps k).ex (size_none h')
    have ho : (h'.push { cls := .type "tuple", data := .seq vs.toArray }).get? h'.objs.size = some { cls := .type "tuple", data := .seq vs.toArray } := Heap.get?_push_size _ rfl
    exact q _ _ tk (k.trans (Kp.push h' _)) ⟨h'.objs.size, vs, rfl, ⟨_, hid_get.mpr ⟨ho, hn⟩, rfl, 0, rfl⟩, RepVs.mono ((Kp.push h' _).hid M) _ _ r⟩⟩)

/-- subscripts -/
noncomputable def ItOk (prog : Program) (w : World) (A : Around) (p q z : PV) : Prop :=
  ∀ (s : Shared) (M : List Addr) (o i : Value) (Q : Value → Shared → Prop) (E : Value → Shared → Prop), RdV prog w s.heap M p o → RdV prog w s.heap M q i → (∀ a ∈ M, ∃ o, s.heap.get? a = some o) →
    (∀ v h' tk, Kp s.heap h' → RepV prog w (hid h' M) z v → Q v { s with heap := h', toks := tk }) → ∃ T id, s.TypeIs o T ∧ typeLookup (.type T) "__getitem__" = pure (some (.builtin id)) ∧ wpAny (model prog w) A (getItem o i) Q E s
theorem Ev.sub {value slice : PySem.Expr} {pos : Pos} {p q z : PV} (hk : ItOk prog w A p q z) (hv : Rd prog w H0 A env σ value p) (hi : Rd prog w H0 A env σ slice q)
    (hs : ∀ o i, subscripted slice false o i = operate [o, i] (getItem o i) := by intro _ _; with_unfolding_all rfl) : Ev prog w H0 A env σ (.Subscript value slice pos) z := .mk fun s M m Q E V q' =>
  Subscript_ (ev_two hv hi V fun o i h' tk k ro ri => by
    refine LW.hideGoal fun GG hGG => ?_
    obtain ⟨T, id, hT, hl, hg⟩ := hk { s with heap := h', toks := tk } M o i Q E ro ri (V.keeps k).ex fun v h'' tk' k' r => q' v h'' tk' (k.trans k') r
    refine hGG ?_
    clear hGG GG
    exact tail_any hT hl hg (hs o i))

theorem seqIdx {k : Int} {n : Nat} (h0 : 0 ≤ k) (hlt : k.toNat < n) : seqIndex? k n = some k.toNat := by
  unfold seqIndex?
  have h1 : ¬ k < 0 := by omega
  rw [if_neg h1]
  have h2 : k < (n : Int) := by omega
  simp [h0, h2]
theorem ItOk.lst {ps : List PV} {k : Int} {z : PV} (h0 : 0 ≤ k) (hz : ps[k.toNat]? = some z) (hf : k < 2 ^ 63) : ItOk prog w A (.lst ps) (.int k) z := fun s M o i Q E ⟨a, vs, e1, hl, r⟩ ⟨_, e2⟩ _ q => by
  subst e1 e2
  obtain ⟨v, hv, hr⟩ := r.get hz
  exact ⟨_, _, hl.isList.typeIs, slot_list_getitem.lookup, wpAny_getItem_list (x := v) hl.isList h0 hf (by simpa using hv) (q v s.heap s.toks Kp.rfl hr)⟩
theorem ItOk.tup {ps : List PV} {k : Int} {z : PV} (h0 : 0 ≤ k) (hz : ps[k.toNat]? = some z) (hf : k < 2 ^ 63) : ItOk prog w A (.tup ps) (.int k) z := fun s M o i Q E ⟨a, vs, e1, hl, r⟩ ⟨_, e2⟩ _ q => by
  subst e1 e2
  refine LW.hideGoal fun GG hGG => ?_
  obtain ⟨v, hv, hr⟩ := r.get hz
  have hlt : k.toNat < vs.length := (List.getElem?_eq_some_iff.mp hv).1
  have hT : IsTup s.heap a vs.toArray := hl.keeps (Kp.ofHid _ _)
  have hlo : -2 ^ 63 ≤ k := by rw [show (-2 ^ 63 : Int) = -9223372036854775808 from rfl]; omega
  have hj : seqIndex? k vs.length = some k.toNat := seqIdx h0 hlt
  obtain ⟨o, ho, hc, n, hd⟩ := hT
  refine hGG ?_
  clear hGG GG
  exact ⟨_, _, ⟨o, ho, hc⟩, slot_tuple_getitem.lookup, getItem_tuple (k := k) (j := k.toNat) ⟨o, ho, hc, n, hd⟩ hlo hf (by rw [List.size_toArray]; exact hj) (by rw [List.getElem?_toArray]; exact hv) (q v s.heap s.toks Kp.rfl hr)⟩
theorem ItOk.str {x : Str} {k : Int} {c : Nat} (h0 : 0 ≤ k) (hz : x.cps[k.toNat]? = some c) (hf : k < 2 ^ 63) : ItOk prog w A (.str x) (.int k) (.str ⟨#[c]⟩) := fun s M o i Q E ⟨t, e1⟩ ⟨_, e2⟩ _ q => by
  subst e1 e2
  have hlt : k.toNat < x.length := (Array.getElem?_eq_some_iff.mp hz).1
  refine ⟨_, _, typeIs_str _ _ _, PySem.F.slot_str_getitem.lookup, P.getItem_str (c := c) ?_ ?_ (q _ s.heap _ Kp.rfl ⟨_, rfl⟩)⟩
  · rw [Bool.or_eq_false_iff, decide_eq_false_iff_not, decide_eq_false_iff_not]; exact ⟨Int.not_lt.mpr (Int.le_trans (by decide) h0), Int.not_le.mpr hf⟩
  · have : seqIndex? k x.length = some k.toNat := seqIdx h0 hlt
    rw [this]; exact hz
theorem RepKs.at {F : Heap} : ∀ {ps : List (Str × PV)} {kvs : List (Str × Value)}, RepKs prog w F ps kvs → ∀ {x : Str} {p : PV}, ps.lookup x = some p → ∃ v, valueAt kvs x = some v ∧ RepV prog w F p v
  | [], _, _, x, p, e => by cases e
  | (y, q) :: ps, _, ⟨v, r, e', hv, t⟩, x, p, e => by
    subst e'
    rw [List.lookup_cons] at e
    by_cases hxy : x = y
    · subst hxy
      rw [beq_self_eq_true] at e; cases e
      exact ⟨v, by simp [valueAt], hv⟩
    · rw [beq_false_of_ne hxy] at e
      obtain ⟨u, a, b⟩ := RepKs.at t e
      exact ⟨u, by simpa [valueAt, Ne.symm hxy] using a, b⟩
theorem RepKs.at_none {F : Heap} : ∀ {ps : List (Str × PV)} {kvs : List (Str × Value)}, RepKs prog w F ps kvs → ∀ {x : Str}, ps.lookup x = none → valueAt kvs x = none
  | [], _, h, x, e => by obtain rfl : _ = [] := h; rfl
  | (y, q) :: ps, _, ⟨v, r, e', hv, t⟩, x, e => by
    subst e'
    rw [List.lookup_cons] at e
    by_cases hxy : x = y
    · subst hxy
      rw [beq_self_eq_true] at e; cases e
    · rw [beq_false_of_ne hxy] at e
      simpa [valueAt, Ne.symm hxy] using RepKs.at_none t e
theorem ItOk.dct {ps : List (Str × PV)} {x : Str} {z : PV} (hz : ps.lookup x = some z) : ItOk prog w A (.dct ps) (.str x) z := fun s M o i Q E ⟨a, kvs, e1, _, hd, r⟩ ⟨t, e2⟩ _ q => by
  subst e1 e2
  obtain ⟨v, hv, hr⟩ := r.at hz
  exact ⟨_, _, hd.mapOf.typeIs, slot_dict_getitem.lookup, wpAny_getItem_of (k := x) (show Value.isStrOf x (.str x t) = true by simp [Value.isStrOf]) hd.mapOf hv (q v s.heap _ Kp.rfl hr)⟩
end
end LW
namespace LW

/-- a run of a list -/
noncomputable def cut {α : Type} (l : List α) (lo hi : Option Nat) : List α := (l.take (hi.getD l.length)).drop (lo.getD 0)
theorem cut_eq {α : Type} (l : List α) (lo hi : Option Nat) : (l.drop (min (lo.getD 0) l.length)).take (min (hi.getD l.length) l.length - min (lo.getD 0) l.length) = cut l lo hi := by
  unfold cut
  rw [List.drop_take]
  by_cases h : lo.getD 0 ≤ l.length
  · rw [Nat.min_eq_left h]
    by_cases h2 : hi.getD l.length ≤ l.length
    · rw [Nat.min_eq_left h2]
    · rw [Nat.min_eq_right (by omega), List.take_of_length_le (by simp), List.take_of_length_le (by simp; omega)]
  · rw [Nat.min_eq_right (by omega : l.length ≤ lo.getD 0), List.drop_of_length_le (Nat.le_refl _), List.drop_of_length_le (by omega : l.length ≤ lo.getD 0)]; simp
theorem bounds_nat (lo hi : Option Nat) (n : Nat) : sliceBounds (lo.map fun (k : Nat) => (k : Int)) (hi.map fun (k : Nat) => (k : Int)) none n = (((min (lo.getD 0) n : Nat) : Int), ((min (hi.getD n) n : Nat) : Int), 1) := by
  have h1 : (1 : Int) > 0 := by decide
  refine Prod.ext ?_ (Prod.ext ?_ rfl)
  · cases lo with
    | none => simp [sliceBounds]
    | some a =>
      have : ¬ ((a : Int) < 0) := by omega
      simp only [sliceBounds, Option.map_some, Option.getD_none, Option.getD_some, h1, if_true, this, if_false]
      omega
  · cases hi with
    | none => simp [sliceBounds]
    | some a =>
      have : ¬ ((a : Int) < 0) := by omega
      simp only [sliceBounds, Option.map_some, Option.getD_none, Option.getD_some, h1, if_true, this, if_false]
      omega
theorem pick_cut {α : Type} (xs : Array α) (lo hi : Option Nat) :
    (sliceRange (sliceBounds (lo.map fun (k : Nat) => (k : Int)) (hi.map fun (k : Nat) => (k : Int)) none xs.size).1 (sliceBounds (lo.map fun (k : Nat) => (k : Int)) (hi.map fun (k : Nat) => (k : Int)) none xs.size).2.1 1).filterMap (xs[·]?) = cut xs.toList lo hi := by
  rw [bounds_nat]
  show (sliceRange _ _ 1).filterMap (xs[·]?) = _
  rw [sliceRange_one, pick_run, ← Array.length_toList, cut_eq]

/-- the part of a text -/
noncomputable def cutS (x : Str) (lo hi : Option Nat) : Str := ⟨(cut x.cps.toList lo hi).toArray⟩
theorem sliceMade_cut {x : Str} {t : Tok} {l u : Option (Int × Tok)} {lo hi : Option Nat} (hl : l.map (·.1) = lo.map fun (k : Nat) => (k : Int)) (hu : u.map (·.1) = hi.map fun (k : Nat) => (k : Int))
    {Q : Value → Shared → Prop} {s : Shared} (hsz : x.length ≤ sizeLine) (q : ∀ t' tk, Q (.str (cutS x lo hi) t') { s with toks := tk }) : (sliceMade x t l u none).post Q s := by
  have e : (slicePicked x l u none).filterMap (x.cps[·]?) = cut x.cps.toList lo hi := by
    unfold slicePicked
    rw [hl, hu]
    exact pick_cut x.cps lo hi
  have hlen : (cut x.cps.toList lo hi).length ≤ x.length := by unfold cut; simp only [List.length_drop, List.length_take, Array.length_toList]; show _ ≤ x.cps.size; omega
  unfold sliceMade
  split
  · rename_i hw
    have hw' : (slicePicked x l u none).length = x.length := by simpa using hw
    have : cutS x lo hi = x := by
      unfold cutS
      rw [← e]
      have hp : slicePicked x l u none = List.range x.length := by
        have hst : slicePicked x l u none = (List.range (min (hi.getD x.length) x.length - min (lo.getD 0) x.length)).map (min (lo.getD 0) x.length + ·) := by
          unfold slicePicked
          rw [hl, hu]
          show sliceRange (sliceBounds (lo.map fun (k : Nat) => (k : Int)) (hi.map fun (k : Nat) => (k : Int)) none x.length).1 (sliceBounds (lo.map fun (k : Nat) => (k : Int)) (hi.map fun (k : Nat) => (k : Int)) none x.length).2.1 1 = _
          rw [bounds_nat]
          exact sliceRange_one _ _
        rw [hst, List.length_map, List.length_range] at hw'
        rw [hst]
        have h0 : min (lo.getD 0) x.length = 0 ∨ x.length = 0 := by omega
        rcases h0 with h0 | h0
        · rw [h0, Nat.sub_zero] at hw' ⊢
          rw [hw']; simp
        · rw [h0]; simp
      rw [hp]
      have : (List.range x.length).filterMap (x.cps[·]?) = x.cps.toList := by
        have := pick_run x.cps 0 x.length
        simp only [Nat.zero_add, List.map_id', List.drop_zero] at this
        rw [this]; exact List.take_of_length_le (Nat.le_refl _)
      rw [this]
    show Q (.str x t) s
    have := q t s.toks
    rw [‹cutS x lo hi = x›] at this
    exact this
  · rw [e]
    exact ⟨Nat.le_trans (by show (List.toArray _).size ≤ _; rw [List.size_toArray]; exact hlen) hsz, q _ _⟩

section
variable {prog : Program} {w : World} {H0 : Heap} {A : Around} {env : Env} {σ : Sy} {h h' : Heap} {M : List Addr} {m : Str → Option Value}

noncomputable def EvP (prog : Program) (w : World) (H0 : Heap) (A : Around) (env : Env) (σ : Sy) : Option PySem.Expr → Option Int → Prop
  | none, none => True
  | some e, some i => Ev prog w H0 A env σ e (.int i)
  | _, _ => False
theorem EvP.step {x : Option PySem.Expr} {i : Option Int} (he : EvP prog w H0 A env σ x i) {s : Shared} {Q : Value → Shared → Prop} {E : Value → Shared → Prop} (V : Vars prog w H0 s.heap M env σ m)
    (q : ∀ (l : Option (Int × Tok)) h' tk, l.map (·.1) = i → Kp s.heap h' → Q (partValue l) { s with heap := h', toks := tk }) : wpAny (model prog w) A (evalPart x env) Q E s := by
  cases x with
  | none => cases i with
    | none => exact evalPart_none_step (q none s.heap s.toks rfl Kp.rfl)
    | some i => exact he.elim
  | some e => cases i with
    | none => exact he.elim
    | some i =>
      refine evalPart_some_step (Ev.run he s M m _ _ V fun v h' tk k r => ?_)
      obtain ⟨t, rfl⟩ := r
      exact q (some (i, t)) h' tk rfl k

/-- a slice of a text -/
theorem Ev.sliceS {value : PySem.Expr} {lower upper : Option PySem.Expr} {p pos : Pos} {x : Str} {lo hi : Option Nat} (hv : Ev prog w H0 A env σ value (.str x)) (hl : EvP prog w H0 A env σ lower (lo.map fun (k : Nat) => (k : Int)))
    (hu : EvP prog w H0 A env σ upper (hi.map fun (k : Nat) => (k : Int))) (hsz : x.length ≤ sizeLine) : Ev prog w H0 A env σ (.Subscript value (.Slice lower upper Option.none p) pos) (.str (cutS x lo hi)) := .mk fun s M m Q E V q =>
  Subscript_ (hv.run s M m _ _ V fun o h₁ t₁ k₁ ro => wpAny_Slice (hl.step (V.keeps k₁) fun l h₂ t₂ el k₂ => hu.step ((V.keeps k₁).keeps k₂) fun u h₃ t₃ eu k₃ => evalPart_none_step (by
    obtain ⟨t, rfl⟩ := ro
    refine tail_any (ops := [_, .str x t]) (typeIs_str _ _ _) PySem.F.slot_str_getitem.lookup (wpAny_getItem_str_slice (x := x) (t := t) (l := l) (u := u) (st := Option.none) ⟨_, Heap.get?_push_size _ rfl, rfl, rfl⟩ rfl ?_) rfl
    exact sliceMade_cut el eu hsz fun t' tk => q _ _ _ ((k₁.trans k₂).trans (k₃.trans (Kp.push _ _))) ⟨_, rfl⟩)))
theorem IsPart.of {l : Option (Int × Tok)} {i : Option Int} (e : l.map (·.1) = i) : IsPart (partValue l) i := by
  cases l with
  | none => cases e; exact .none
  | some y => cases e; exact .int _ _

/-- a list pushed behind -/
theorem ownList {h : Heap} {M : List Addr} {ps : List PV} {vs : List Value} (r : RepVs prog w (hid h M) ps vs) :
    OwnV prog w (h.push { cls := .type "list", data := .seq vs.toArray }) (h.objs.size :: M) h.objs.size (.ref h.objs.size) (.lst ps) :=
  ⟨rfl, vs, ⟨_, Heap.get?_push_size _ rfl⟩, RepVs.mono (Kp.hidFresh (Kp.push h _) (size_none h) M) _ _ r⟩

theorem RepVs.filterMap {F : Heap} {ps : List PV} {vs : List Value} (r : RepVs prog w F ps vs) : ∀ is : List Nat, RepVs prog w F (is.filterMap (ps[·]?)) (is.filterMap (vs.toArray[·]?))
  | [] => (rfl : ([] : List Value) = [])
  | i :: is => by
    rw [List.filterMap_cons, List.filterMap_cons, List.getElem?_toArray]
    cases e : ps[i]? with
    | none =>
      have : vs[i]? = none := by rw [List.getElem?_eq_none_iff] at e ⊢; rw [r.length]; exact e
      rw [this]; exact RepVs.filterMap r is
    | some p =>
      obtain ⟨v, hv, hr⟩ := r.get e
      rw [hv]; exact ⟨v, _, rfl, hr, RepVs.filterMap r is⟩
theorem EvN.sliceOf {value : PySem.Expr} {lower upper step : Option PySem.Expr} {p pos : Pos} {ps : List PV} {lo hi st : Option Int} (hv : Rd prog w H0 A env σ value (.lst ps)) (hl : EvP prog w H0 A env σ lower lo)
    (hu : EvP prog w H0 A env σ upper hi) (ht : EvP prog w H0 A env σ step st) (h0 : st ≠ some 0) (hsz : ps.length ≤ sizeLine)
    (hs : ∀ o i, ∃ ops, subscripted (.Slice lower upper step p) false o i = operate ops (getItem o i) := by intro _ _; exact ⟨_, rfl⟩) : EvN prog w H0 A env σ (.Subscript value (.Slice lower upper step p) pos)
      (.lst ((sliceRange (sliceBounds lo hi st ps.length).1 (sliceBounds lo hi st ps.length).2.1 (sliceBounds lo hi st ps.length).2.2).filterMap (ps[·]?))) := .mk fun s M m Q E V q =>
  Subscript_ (hv.run s M m _ _ V fun o h₁ t₁ k₁ ro => wpAny_Slice (hl.step (V.keeps k₁) fun l h₂ t₂ el k₂ => hu.step ((V.keeps k₁).keeps k₂) fun u h₃ t₃ eu k₃ => ht.step (((V.keeps k₁).keeps k₂).keeps k₃) fun sv h₄ t₄ es k₄ => by
    refine LW.hideGoal fun GG hGG => ?_
    obtain ⟨a, vs, rfl, hL, r⟩ := ro
    refine hGG ?_
    clear hGG GG
    generalize hh : h₄.push { cls := .type "slice", data := .fields #[partValue l, partValue u, partValue sv] } = h₅
    have k₅ : Kp h₄ h₅ := hh ▸ Kp.push _ _
    have k : Kp h₁ h₅ := (k₂.trans k₃).trans (k₄.trans k₅)
    obtain ⟨ops, eo⟩ := hs (.ref a) (.ref h₄.objs.size)
    have hL' : h₅.PlainList a vs.toArray := hL.at fun o e => k a o e
    have hsl : h₅.IsSliceOf h₄.objs.size (partValue l) (partValue u) (partValue sv) := hh ▸ Heap.IsSliceOf.new ..
    refine tail_any hL'.isList.typeIs slot_list_getitem.lookup (wpAny_getItem_list_slice hL'.isList hsl (IsPart.of el) (IsPart.of eu) (IsPart.of es) h0 ?_ (by rw [List.size_toArray, r.length]; exact hsz)) eo
    refine q h₅.objs.size _ _ _ ((k₁.trans k).trans (Kp.push _ _)) (none_of_kp (k₁.trans k) (size_none h₅)) ?_
    have e : slicePick vs.toArray lo hi st = (((sliceRange (sliceBounds lo hi st ps.length).1 (sliceBounds lo hi st ps.length).2.1 (sliceBounds lo hi st ps.length).2.2).filterMap (vs.toArray[·]?))).toArray := by
      unfold slicePick; rw [List.size_toArray, r.length]
    rw [e]
    exact ownList (RepVs.filterMap (RepVs.mono (k.hid M) _ _ r) _)))
theorem EvN.slice {value : PySem.Expr} {lower upper : Option PySem.Expr} {p pos : Pos} {ps : List PV} {lo hi : Option Nat} (hv : Rd prog w H0 A env σ value (.lst ps)) (hl : EvP prog w H0 A env σ lower (lo.map fun (k : Nat) => (k : Int)))
    (hu : EvP prog w H0 A env σ upper (hi.map fun (k : Nat) => (k : Int))) (hsz : ps.length ≤ sizeLine) : EvN prog w H0 A env σ (.Subscript value (.Slice lower upper Option.none p) pos) (.lst (cut ps lo hi)) := by
  have := EvN.sliceOf (p := p) (pos := pos) (step := Option.none) (st := Option.none) hv hl hu trivial (by simp) hsz
  have e := pick_cut ps.toArray lo hi
  simp only [List.size_toArray, List.getElem?_toArray] at e
  rwa [show (sliceBounds (lo.map fun (k : Nat) => (k : Int)) (hi.map fun (k : Nat) => (k : Int)) none ps.length).2.2 = 1 from rfl, e] at this
end
end LW
namespace LW

/-- an iterator at I that gives the plain values xs -/
structure Wk (prog : Program) (w : World) (A : Around) (F : Heap) (I : Addr) (fp wr : List Addr) (xs : List PV) (inv : Nat → Heap → Prop) (mid : Nat → Value → Heap → Prop) (tg : PySem.Expr) : Prop where
  sub : ∀ b ∈ wr, b ∈ fp
  frame : ∀ i h h', inv i h → (∀ b ∈ fp, ∀ o, h.get? b = some o → h'.get? b = some o) → inv i h'
  live : ∀ i h, inv i h → ∀ b ∈ fp, ∃ o, h.get? b = some o
  item : ∀ i p (s : Shared) (M : List Addr) (Q : Option Value → Shared → Prop) (E : Value → Shared → Prop), xs[i]? = some p → inv i s.heap → (∀ a ∈ M, ∃ o, s.heap.get? a = some o) → Kp F (hid s.heap (wr ++ M)) →
    (∀ v h' tk, RepV prog w (hid h' (wr ++ M)) p v → mid i v h' → (∀ b o, b ∉ wr → s.heap.get? b = some o → h'.get? b = some o) → Q (some v) { s with heap := h', toks := tk }) → wpAny (model prog w) A (pyNext (.ref I)) Q E s
  go : ∀ i v (s : Shared) (Q : Unit → Shared → Prop) (E : Value → Shared → Prop), mid i v s.heap →
    (∀ h', inv (i + 1) h' → (∀ b o, b ∉ wr → s.heap.get? b = some o → h'.get? b = some o) → Q () { s with heap := h' }) → wpAny (model prog w) A (letOwnedTupleGo tg (.ref I) v) Q E s
  done : ∀ (s : Shared) (Q : Option Value → Shared → Prop) (E : Value → Shared → Prop), inv xs.length s.heap →
    (∀ h' tk, (∀ b o, b ∉ wr → s.heap.get? b = some o → h'.get? b = some o) → Q none { s with heap := h', toks := tk }) → wpAny (model prog w) A (pyNext (.ref I)) Q E s
  self : ∀ i (s : Shared) (Q : Value → Shared → Prop) (E : Value → Shared → Prop), inv i s.heap → Q (.ref I) s → wpAny (model prog w) A (pyIter (.ref I)) Q E s

theorem Kp.outside {h h' : Heap} {wr M : List Addr} (k : ∀ b o, b ∉ wr → h.get? b = some o → h'.get? b = some o) : Kp (LW.hid h (wr ++ M)) (LW.hid h' (wr ++ M)) := fun b o e => by
  rw [hid_get] at e ⊢
  exact ⟨k b o (fun m => e.2 (List.mem_append_left _ m)) e.1, e.2⟩

section
variable {prog : Program} {w : World} {A : Around}

/-- from the library's walks -/
theorem Wk.ofWalks {F : Heap} {I : Addr} {fp wr : List Addr} {xs : List PV} {P : Nat → Value → Prop} {St : Nat → Heap → Prop} {tg : PySem.Expr} (W : Walks prog w A I fp wr xs.length P St)
    (hP : ∀ i p v, xs[i]? = some p → P i v → RepV prog w F p v) (hl : ∀ i h, St i h → ∀ b ∈ fp, ∃ o, h.get? b = some o)
    (hgo : ∀ i v (s : Shared) (Q : Unit → Shared → Prop) (E : Value → Shared → Prop), St i s.heap → Q () s → wpAny (model prog w) A (letOwnedTupleGo tg (.ref I) v) Q E s) :
    Wk prog w A F I fp wr xs St (fun i _ h => St (i + 1) h) tg where
  sub := W.sub
  frame := W.frame
  live := hl
  item := fun i p s M Q E hx st hM hF q => W.item i s Q E (List.getElem?_eq_some_iff.mp hx).1 st fun v h' tk pv st' k => q v h' tk (RepV.mono (hF.trans (Kp.outside k)) _ _ (hP i p v hx pv)) st' k
  go := fun i v s Q E st q => hgo (i + 1) v s Q E st (q s.heap st fun _ _ _ e => e)
  done := fun s Q E st q => W.done s Q E st q
  self := fun i s Q E st q => W.self i s Q E st q

theorem go_plain {n : String} {vs : Array Value} {I : Addr} {tg : PySem.Expr} {v : Value} {s : Shared} {o : Obj} {Q : Unit → Shared → Prop} {E : Value → Shared → Prop} (ho : s.heap.get? I = some o) (hc : o.cls = .type n) (hd : o.data = .fields vs)
    (hn : ["enumerate", "zip", "dict_itemiterator", "dict_reverseitemiterator", "odict_iterator", "itertools.zip_longest", "itertools.pairwise"].contains n = false) (q : Q () s) :
    wpAny (model prog w) A (letOwnedTupleGo tg (.ref I) v) Q E s := by
  unfold letOwnedTupleGo
  split
  all_goals first
    | exact wpAny_pure q
    | (cases v <;> first
        | exact wpAny_pure q
        | (refine wpAny_bind (wpAny_load ho ?_)
           rw [hc, hd]
           dsimp only
           rw [hn]
           simp only [Bool.false_and, Bool.false_eq_true, if_false]
           exact wpAny_pure q))

theorem Wk.list {F : Heap} {I l : Addr} {xs : List PV} {vs : List Value} {tg : PySem.Expr} (hh : A.handled = none) (hne : l ≠ I) (r : RepVs prog w F xs vs) :
    Wk prog w A F I [I, l] [I] xs (fun i h => h.IsListIter I l i ∧ h.IsList l vs.toArray) (fun i _ h => h.IsListIter I l (i + 1) ∧ h.IsList l vs.toArray) tg := by
  have W := Walks.list (prog := prog) (w := w) (A := A) hh I l hne vs.toArray
  rw [List.size_toArray, r.length] at W
  refine Wk.ofWalks W (fun i p v hx hv => ?_) (fun i h st b hb => ?_) fun i v s Q E st q => ?_
  · obtain ⟨u, hu, hr⟩ := r.get hx
    rw [List.getElem?_toArray, hu] at hv
    cases hv; exact hr
  · refine LW.hideGoal fun GG hGG => ?_
    obtain ⟨⟨o, ho, _⟩, ⟨o', ho', _⟩⟩ := st
    refine hGG ?_
    clear hGG GG
    rcases memC hb with rfl | hb
    · exact ⟨o, ho⟩
    · rw [List.mem_singleton.mp hb]; exact ⟨o', ho'⟩
  · refine LW.hideGoal fun GG hGG => ?_
    obtain ⟨⟨o, ho, hc, hd⟩, _⟩ := st
    refine hGG ?_
    clear hGG GG
    exact go_plain ho hc hd (by decide) q

theorem Wk.range {F : Heap} {I : Addr} {n : Nat} {a : Int} {tg : PySem.Expr} (hh : A.handled = none) :
    Wk prog w A F I [I] [I] ((List.range n).map fun (k : Nat) => PV.int (a + (k : Int))) (fun i h => IsRangeIter h I (a + (i : Nat) * 1) ((n : Int) - (i : Nat)) 1) (fun i _ h => IsRangeIter h I (a + ((i + 1 : Nat) : Int) * 1) ((n : Int) - ((i + 1 : Nat) : Int)) 1) tg := by
  have W := Walks.range (prog := prog) (w := w) (A := A) hh I a 1 n
  have e : ((List.range n).map fun (k : Nat) => PV.int (a + (k : Int))).length = n := by simp
  refine Wk.ofWalks (by rw [e]; exact W) (fun i p v hx hv => ?_) (fun i h st b hb => ?_) fun i v s Q E st q => ?_
  · obtain ⟨t, rfl⟩ := hv
    have hi : i < n := by have := (List.getElem?_eq_some_iff.mp hx).1; rwa [e] at this
    rw [List.getElem?_map, List.getElem?_range hi] at hx
    cases hx; exact ⟨t, by rw [Int.mul_one]⟩
  · rw [List.mem_singleton.mp hb]; exact ⟨_, st⟩
  · exact go_plain st rfl rfl (by decide) q

/-- the signs of a text, each as a text -/
noncomputable def signs (x : Str) : List PV := x.cps.toList.map fun c => PV.str ⟨#[c]⟩
theorem signs_get {x : Str} {i : Nat} {p : PV} (e : (signs x)[i]? = some p) : ∃ c, x.cps[i]? = some c ∧ p = .str ⟨#[c]⟩ := by
  unfold signs at e
  rw [List.getElem?_map, Array.getElem?_toList] at e
  cases h : x.cps[i]? with
  | none => rw [h] at e; cases e
  | some c => rw [h] at e; cases e; exact ⟨c, rfl, rfl⟩
theorem signs_length (x : Str) : (signs x).length = x.cps.size := by simp [signs]
theorem strIterType_eq (x : Str) : strIterType x = "str_ascii_iterator" ∨ strIterType x = "str_iterator" := by unfold strIterType; split <;> simp
theorem Walks.strT {prog : Program} {w : World} {A : Around} (hh : A.handled = none) (I : Addr) (x : Str) (t : Tok) :
    Walks prog w A I [I] [I] x.cps.size (SignAt x) (fun i h => h.IsStrIter I (strIterType x) x t i) := by
  rcases strIterType_eq x with e | e
  · rw [e]; exact Walks.strAscii hh I x t
  · rw [e]; exact Walks.strWide hh I x t
theorem Draws.strT {prog : Program} {w : World} {A : Around} (hh : A.handled = none) (I : Addr) (x : Str) (t : Tok) :
    Draws prog w A I [I] x.cps.size (fun i v => ∃ c u, x.cps[i]? = some c ∧ v = .str ⟨#[c]⟩ u) (fun i h => h.IsStrIter I (strIterType x) x t i) := by
  rcases strIterType_eq x with e | e
  · rw [e]; exact Draws.strAscii hh I x t
  · rw [e]; exact Draws.strWide hh I x t
theorem Wk.str {F : Heap} {I : Addr} {x : Str} {t : Tok} {tg : PySem.Expr} (hh : A.handled = none) :
    Wk prog w A F I [I] [I] (signs x) (fun i h => h.IsStrIter I (strIterType x) x t i) (fun i _ h => h.IsStrIter I (strIterType x) x t (i + 1)) tg := by
  refine Wk.ofWalks (by rw [signs_length]; exact Walks.strT hh I x t) (fun i p v hx hv => ?_) (fun i h st b hb => ?_) fun i v s Q E st q => ?_
  · refine LW.hideGoal fun GG hGG => ?_
    obtain ⟨c, hc, rfl⟩ := signs_get hx
    obtain ⟨c', u, hc', rfl⟩ := hv
    refine hGG ?_
    clear hGG GG
    rw [hc] at hc'; cases hc'; exact ⟨u, rfl⟩
  · obtain ⟨o, ho, _⟩ := st
    rw [List.mem_singleton.mp hb]; exact ⟨o, ho⟩
  · refine LW.hideGoal fun GG hGG => ?_
    obtain ⟨o, ho, hc, hd⟩ := st
    refine hGG ?_
    clear hGG GG
    exact go_plain ho hc hd (by rcases strIterType_eq x with e | e <;> rw [e] <;> decide) q

/-- numbered values -/
noncomputable def enums (xs : List PV) : List PV := xs.mapIdx fun i p => .tup [.int i, p]
theorem Wk.enumOf {F : Heap} {e it : Addr} {fp : List Addr} {n : Nat} {P : Nat → Value → Prop} {St : Nat → Heap → Prop} {xs : List PV} {elts : List PySem.Expr} {k : Nat} {pos : Pos} (hh : A.handled = none) (D : Draws prog w A.in1 it fp n P St) (hei : e ≠ it)
    (hef : e ∉ fp) (hif : it ∈ fp) (hn : xs.length = n) (hP : ∀ i p v, xs[i]? = some p → P i v → RepV prog w F p v) (hl : ∀ i h, St i h → ∀ b ∈ fp, ∃ o, h.get? b = some o) :
    Wk prog w A F e (e :: fp) [e, it] (enums xs) (fun i h => (∃ old, IsEnum h e it i old) ∧ St i h) (fun i v h => ∃ T, v = .ref T ∧ (∃ x, IsEnumOut h e it ((i : Int) + 1) x T) ∧ St (i + 1) h ∧ T ≠ e ∧ T ≠ it) (.Tuple elts k pos) := by
  have W := WalksT.enumerateD D e hei hef hif
  have hlen : (enums xs).length = n := by simp [enums, hn]
  refine ⟨W.sub, W.frame, fun i h st b hb => ?_, fun i p s M Q E hx st hM hF q => ?_, fun i v s Q E m q => ?_, fun s Q E st q => ?_, fun i s Q E st q => W.self i s Q E st q⟩
  · obtain ⟨⟨old, he⟩, hs⟩ := st
    rcases memC hb with rfl | hb
    · exact ⟨_, he⟩
    · exact hl i h hs b hb
  · have hi : i < n := by have := (List.getElem?_eq_some_iff.mp hx).1; rwa [hlen] at this
    refine W.item i s Q E hi st fun T vals h' tk pt hT tup mid kk => ?_
    obtain ⟨t, y, py, rfl⟩ := pt
    unfold enums at hx
    rw [List.getElem?_mapIdx] at hx
    cases hp : xs[i]? with
    | none => rw [hp] at hx; cases hx
    | some p' =>
      rw [hp] at hx
      cases hx
      have hFk := hF.trans (Kp.outside kk)
      have hTM : T ∉ [e, it] ++ M := fun hm => by
        rcases List.mem_append.mp hm with hm | hm
        · refine LW.hideGoal fun GG hGG => ?_
          obtain ⟨_, _, h1, h2⟩ := mid
          refine hGG ?_
          clear hGG GG
          rcases memC hm with rfl | hm
          · exact h1 rfl
          · exact h2 (List.mem_singleton.mp hm)
        · obtain ⟨o, ho⟩ := hM T hm
          exact absurd (Heap.lt_size ho) (Nat.not_lt.mpr hT)
      refine LW.hideGoal fun GG hGG => ?_
      obtain ⟨o, ho, hc, nn, hd⟩ := tup
      refine hGG ?_
      clear hGG GG
      exact q (.ref T) h' tk ⟨T, [.int i t, y], rfl, ⟨o, hid_get.mpr ⟨ho, hTM⟩, hc, nn, hd⟩, ⟨_, _, rfl, ⟨t, rfl⟩, _, _, rfl, RepV.mono hFk _ _ (hP i p' y hp py), rfl⟩⟩ ⟨T, rfl, mid⟩ kk
  · obtain ⟨T, rfl, mid⟩ := m
    exact W.go elts k pos i T s Q E mid q
  · rw [hlen] at st
    exact W.done s Q E st q

section
variable {H0 : Heap} {env : Env} {σ : Sy} {h h' : Heap} {M : List Addr} {m : Str → Option Value}

/-- an expression over which a loop or a comprehension goes -/
structure It (prog : Program) (w : World) (H0 : Heap) (A : Around) (env : Env) (σ : Sy) (fr : Prop) (e tg : PySem.Expr) (xs : List PV) : Prop where
  run :
    ∀ (s : Shared) (M : List Addr) (m : Str → Option Value) (Q : Value → Shared → Prop) (E : Value → Shared → Prop), Vars prog w H0 s.heap M env σ m →
      (∀ I fp wr inv mid h' tk, Kp s.heap h' → Wk prog w A (hid h' (wr ++ M)) I fp wr xs inv mid tg → inv 0 h' → (∀ b ∈ wr, s.heap.get? b = none) → (fr → ∀ b ∈ fp, b ∈ wr ∨ b ∉ M) → Q (.ref I) { s with heap := h', toks := tk }) →
      wpAny (model prog w) A (eval e env) (fun x s₁ => wpAny (model prog w) A (pyIter x) Q E s₁) E s

theorem Kp.hidFreshs (k : Kp h h') {wr : List Addr} (f : ∀ a ∈ wr, h.get? a = none) (M : List Addr) : Kp (LW.hid h M) (LW.hid h' (wr ++ M)) := fun b o e => by
  rw [hid_get] at e ⊢
  refine ⟨k b o e.1, fun hm => ?_⟩
  rcases List.mem_append.mp hm with hm | hm
  · rw [f b hm] at e; cases e.1
  · exact e.2 hm

theorem It.listRd {e tg : PySem.Expr} {xs : List PV} (hh : A.handled = none) (he : Rd prog w H0 A env σ e (.lst xs)) : It prog w H0 A env σ False e tg xs := .mk fun s M m Q E V q =>
  he.run s M m _ _ V fun v h₁ t₁ k₁ r => by
    refine LW.hideGoal fun GG hGG => ?_
    obtain ⟨l, vs, rfl, hL, r⟩ := r
    refine hGG ?_
    clear hGG GG
    refine wpAny_pyIter_list hL.isList ?_
    have hne : l ≠ h₁.objs.size := by obtain ⟨n, e⟩ := hL; exact Nat.ne_of_lt (Heap.lt_size e)
    have kp := Kp.push h₁ { cls := .type "list_iterator", data := .fields #[.ref l, .int 0 0] }
    exact q h₁.objs.size _ _ _ _ _ t₁ (k₁.trans kp) (Wk.list hh hne (RepVs.mono (Kp.hidFreshs kp (fun a ha => by rw [List.mem_singleton.mp ha]; exact size_none h₁) M) _ _ r))
      ⟨⟨_, Heap.get?_push_size _ rfl, rfl, rfl⟩, (hL.at fun o e => kp l o e).isList⟩ (fun b hb => by rw [List.mem_singleton.mp hb]; exact none_of_kp k₁ (size_none h₁)) False.elim
theorem It.list {e tg : PySem.Expr} {xs : List PV} {fr : Prop} (hh : A.handled = none) (he : Ev prog w H0 A env σ e (.lst xs)) : It prog w H0 A env σ fr e tg xs := .mk fun s M m Q E V q =>
  he.run s M m _ _ V fun v h₁ t₁ k₁ r => by
    refine LW.hideGoal fun GG hGG => ?_
    obtain ⟨l, vs, rfl, hL', r⟩ := r
    refine hGG ?_
    clear hGG GG
    have hL : h₁.PlainList l vs.toArray := hL'.at fun o => Kp.ofHid _ _ l o
    have hlM : l ∉ M := by obtain ⟨n, e⟩ := hL'; exact (hid_get.mp e).2
    refine wpAny_pyIter_list hL.isList ?_
    have hne : l ≠ h₁.objs.size := by obtain ⟨n, e⟩ := hL; exact Nat.ne_of_lt (Heap.lt_size e)
    have kp := Kp.push h₁ { cls := .type "list_iterator", data := .fields #[.ref l, .int 0 0] }
    refine q h₁.objs.size _ _ _ _ _ t₁ (k₁.trans kp) (Wk.list hh hne (RepVs.mono (Kp.hidFreshs kp (fun a ha => by rw [List.mem_singleton.mp ha]; exact size_none h₁) M) _ _ r))
      ⟨⟨_, Heap.get?_push_size _ rfl, rfl, rfl⟩, (hL.at fun o e => kp l o e).isList⟩ (fun b hb => by rw [List.mem_singleton.mp hb]; exact none_of_kp k₁ (size_none h₁)) fun _ b hb => ?_
    rcases memC hb with rfl | hb
    · exact .inl (List.mem_singleton.mpr rfl)
    · rw [List.mem_singleton.mp hb]; exact .inr hlM
theorem It.str {e tg : PySem.Expr} {x : Str} {fr : Prop} (hh : A.handled = none) (he : Ev prog w H0 A env σ e (.str x)) : It prog w H0 A env σ fr e tg (signs x) := .mk fun s M m Q E V q =>
  he.run s M m _ _ V fun v h₁ t₁ k₁ r => by
    obtain ⟨t, rfl⟩ := r
    refine wpAny_pyIter_strU ?_
    have kp := Kp.push h₁ { cls := .type (strIterType x), data := .fields #[.str x t, .int 0 0] }
    exact q h₁.objs.size _ _ _ _ _ t₁ (k₁.trans kp) (Wk.str hh) ⟨_, Heap.get?_push_size _ rfl, rfl, rfl⟩ (fun b hb => by rw [List.mem_singleton.mp hb]; exact none_of_kp k₁ (size_none h₁)) fun _ b hb => .inl hb
end
end
end LW
namespace LW

noncomputable def GVal (G : Heap) (x : Str) (v : Value) : Prop := ∃ mg, G.Ns mainGlobals mg ∧ mg x = some v
noncomputable def BVal (G : Heap) (x : Str) (v : Value) : Prop := ∃ mg mb, G.Ns mainGlobals mg ∧ mg x = none ∧ G.Ns builtinsNs mb ∧ mb x = some v

section
variable {prog : Program} {w : World} {A : Around} {H0 : Heap} {env : Env} {σ : Sy} {h h' : Heap} {M : List Addr} {m : Str → Option Value}

theorem Vars.kp (V : Vars prog w H0 h M env σ m) : Kp H0 h := V.base.trans (Kp.ofHid h M)

theorem Ev.glob {x : Str} {pos : Pos} {v : Value} (hg : GVal H0 x v) (hk : env.kindOf x = some .globalImplicit) (hd : (x == ("__debug__" : Str)) = false := by decide) : Ev prog w H0 A env σ (.Name x pos) (.raw v) := .mk fun s M m Q E V q => by
  obtain ⟨mg, hn, hx⟩ := hg
  exact Calls.Name_function_global V.fn hk (Calls.loadGlobal_global (V.gl ▸ hn.keeps V.kp) hx (q v s.heap s.toks Kp.rfl rfl)) hd
theorem Ev.globI {x : Str} {pos : Pos} {i : Int} {t : Tok} (hg : GVal H0 x (.int i t)) (hk : env.kindOf x = some .globalImplicit) (hd : (x == ("__debug__" : Str)) = false := by decide) : Ev prog w H0 A env σ (.Name x pos) (.int i) := .mk fun s M m Q E V q =>
  (Ev.glob hg hk hd).run s M m Q E V fun v h' tk k r => q v h' tk k ⟨t, r⟩
theorem Ev.bi {x : Str} {pos : Pos} {v : Value} (hg : BVal H0 x v) (hk : env.kindOf x = some .globalImplicit) (hd : (x == ("__debug__" : Str)) = false := by decide) : Ev prog w H0 A env σ (.Name x pos) (.raw v) := .mk fun s M m Q E V q => by
  refine LW.hideGoal fun GG hGG => ?_
  obtain ⟨mg, mb, hn, hx, hb, hy⟩ := hg
  refine hGG ?_
  clear hGG GG
  exact Calls.Name_function_global V.fn hk (Calls.loadGlobal_builtin (V.gl ▸ hn.keeps V.kp) hx (V.bl ▸ hb.keeps V.kp) hy (q v s.heap s.toks Kp.rfl rfl)) hd

/-- a call of a built-in function with one argument -/
noncomputable def C1 (prog : Program) (w : World) (A : Around) (f : Value) (p z : PV) : Prop :=
  ∀ (s : Shared) (M : List Addr) (v : Value) (Q : Value → Shared → Prop) (E : Value → Shared → Prop), RdV prog w s.heap M p v → (∀ a ∈ M, ∃ o, s.heap.get? a = some o) →
    (∀ v h' tk, Kp s.heap h' → RepV prog w (hid h' M) z v → Q v { s with heap := h', toks := tk }) → wpAny (model prog w) A (call f [v]) Q E s
theorem Ev.callB {x : Str} {np pos : Pos} {e : PySem.Expr} {id : String} {p z : PV} (hc : C1 prog w A (.builtin id) p z) (hf : Ev prog w H0 A env σ (.Name x np) (.raw (.builtin id))) (he : Rd prog w H0 A env σ e p)
    (hs : starEach [e] env = [(false, eval e env)] := by rfl) : Ev prog w H0 A env σ (.Call (.Name x np) [e] [] pos) z := .mk fun s M m Q E V q =>
  Call_name1 hs (hf.run s M m _ _ V fun f h₁ t₁ k₁ r => by
    obtain rfl : f = _ := r
    exact callWith_builtin1 (he.run _ M m _ _ (V.keeps k₁) fun v h₂ t₂ k₂ rv => hc _ M v _ _ rv ((V.keeps k₁).keeps k₂).ex fun v' h₃ t₃ k₃ r' => q v' h₃ t₃ ((k₁.trans k₂).trans k₃) r'))
theorem call_typ {x : Str} {np pos : Pos} {e : PySem.Expr} {T : String} {p : PV} {s : Shared} {Q : Value → Shared → Prop} {E : Value → Shared → Prop} (V : Vars prog w H0 s.heap M env σ m) (hf : Ev prog w H0 A env σ (.Name x np) (.raw (.type T))) (he : Rd prog w H0 A env σ e p)
    (q : ∀ v h' tk, Kp s.heap h' → RdV prog w h' M p v → wpAny (model prog w) A (call (.type T) [v]) Q E { s with heap := h', toks := tk })
    (hs : starEach [e] env = [(false, eval e env)] := by rfl) : wpAny (model prog w) A (eval (.Call (.Name x np) [e] [] pos) env) Q E s :=
  Call_name1 hs (hf.run s M m _ _ V fun f h₁ t₁ k₁ r => by
    obtain rfl : f = _ := r
    exact PySem.callWith_type1 (he.run _ M m _ _ (V.keeps k₁) fun v h₂ t₂ k₂ rv => q v h₂ t₂ (k₁.trans k₂) rv))

theorem C1.lenL {ps : List PV} (hsz : ps.length < 2 ^ 63) : C1 prog w A (.builtin "len") (.lst ps) (.int ps.length) := fun s M v Q E ⟨l, vs, e, hL, r⟩ _ q => by
  subst e
  have e : vs.toArray.size = ps.length := by rw [List.size_toArray, r.length]
  exact Calls.call_len_list hL.isList (by rw [e]; exact_mod_cast hsz) (q _ s.heap _ Kp.rfl ⟨_, by rw [e]⟩)
theorem C1.lenS {x : Str} (hsz : x.length < 2 ^ 63) : C1 prog w A (.builtin "len") (.str x) (.int x.length) := fun s M v Q E ⟨t, e⟩ _ q => by
  subst e
  exact P.len_str (by have : (x.length : Int) < 2 ^ 63 := by exact_mod_cast hsz
                      omega) (q _ s.heap _ Kp.rfl ⟨_, rfl⟩)
theorem C1.ord {c : Nat} : C1 prog w A (.builtin "ord") (.str ⟨#[c]⟩) (.int c) := fun s M v Q E ⟨t, e⟩ _ q => by
  subst e
  exact P.ord_of_char (q _ s.heap _ Kp.rfl ⟨_, rfl⟩)
theorem C1.chr {i : Int} (hi : 0 ≤ i) (hi' : i ≤ 0x10FFFF) : C1 prog w A (.builtin "chr") (.int i) (.str ⟨#[i.toNat]⟩) := fun s M v Q E ⟨t, e⟩ _ q => by
  subst e
  exact P.chr_of_int (by simp only [Bool.or_eq_false_iff, decide_eq_false_iff_not]; omega) (q _ s.heap _ Kp.rfl ⟨_, rfl⟩)

/-- sums -/
noncomputable def isum (l : List Int) : Int := l.foldl (· + ·) 0
theorem C1.sum {l : List Int} (hh : A.handled = none) : C1 prog w A (.builtin "sum") (.lst (l.map .int)) (.int l.sum) := fun s M v Q E ⟨a, vs, e, hL, r⟩ _ q => by
  subst e
  have hne : a ≠ s.heap.objs.size := by obtain ⟨n, e⟩ := hL; exact Nat.ne_of_lt (Heap.lt_size e)
  have kp := Kp.push s.heap { cls := .type "list_iterator", data := .fields #[.ref a, .int 0 0] }
  have hlen : vs.length = l.length := by rw [r.length, List.length_map]
  refine call_sum_walkG (wpAny_pyIter_list hL.isList ⟨s.heap.objs.size, _, _, _, _, _, fun i => l.getD i 0, rfl, Walks.list (A := A.in1) hh _ a hne vs.toArray, ⟨⟨_, Heap.get?_push_size _ rfl, rfl, rfl⟩, (hL.at fun o e => kp a o e).isList⟩, ?_, ?_, ?_⟩)
  · intro b hb
    rw [Heap.size_push]
    rcases memC hb with rfl | hb
    · exact Nat.lt_succ_self _
    · rw [List.mem_singleton.mp hb]; obtain ⟨n, e⟩ := hL; exact Nat.lt_succ_of_lt (Heap.lt_size e)
  · intro i v hv
    rw [List.getElem?_toArray] at hv
    have hi : i < l.length := by rw [← hlen]; exact (List.getElem?_eq_some_iff.mp hv).1
    obtain ⟨v', hv', hr⟩ := r.get (i := i) (p := .int (l.getD i 0)) (by rw [List.getElem?_map, List.getElem?_eq_getElem hi, List.getD_eq_getElem?_getD, List.getElem?_eq_getElem hi]; rfl)
    rw [hv] at hv'; cases hv'
    exact hr
  · intro h' tk t' k
    refine q _ h' tk (fun b o e => k b o (fun hm => ?_) (kp b o e)) ⟨t', ?_⟩
    · rw [List.mem_singleton.mp hm, size_none] at e; cases e
    · rw [List.size_toArray, hlen]; rw [preSum_getD, List.take_of_length_le (Nat.le_refl _)]
end
end LW
namespace LW
section
variable {prog : Program} {w : World} {A : Around} {H0 : Heap} {env : Env} {σ : Sy} {h h' : Heap} {M : List Addr} {m : Str → Option Value}

/-- a method of a built-in type, without and with arguments -/
noncomputable def Me0 (prog : Program) (w : World) (A : Around) (name : Str) (p z : PV) : Prop :=
  ∀ (s : Shared) (M : List Addr) (v : Value) (pos : Pos) (Q : Value → Shared → Prop) (E : Value → Shared → Prop), RdV prog w s.heap M p v → (∀ a ∈ M, ∃ o, s.heap.get? a = some o) →
    (∀ v h' tk, Kp s.heap h' → RepV prog w (hid h' M) z v → Q v { s with heap := h', toks := tk }) → MethodOnS prog w A E name v pos [] Q s
noncomputable def Me1 (prog : Program) (w : World) (A : Around) (name : Str) (p q z : PV) : Prop :=
  ∀ (s : Shared) (M : List Addr) (v : Value) (pos : Pos) (t : Sem Value) (Q : Value → Shared → Prop) (E : Value → Shared → Prop), RdV prog w s.heap M p v →
    wpAny (model prog w) A t (fun a s₁ => ∃ h' tk, s₁ = { s with heap := h', toks := tk } ∧ Kp s.heap h' ∧ RdV prog w h' M q a ∧ (∀ a ∈ M, ∃ o, h'.get? a = some o) ∧
      ∀ v h'' tk, Kp h' h'' → RepV prog w (hid h'' M) z v → Q v { s with heap := h'', toks := tk }) E s → MethodOnS prog w A E name v pos [(false, t)] Q s
noncomputable def Me2 (prog : Program) (w : World) (A : Around) (name : Str) (p q r z : PV) : Prop :=
  ∀ (s : Shared) (M : List Addr) (v : Value) (pos : Pos) (t u : Sem Value) (Q : Value → Shared → Prop) (E : Value → Shared → Prop), RdV prog w s.heap M p v →
    wpAny (model prog w) A t (fun a s₁ => wpAny (model prog w) A u (fun b s₂ => ∃ h' tk, s₂ = { s with heap := h', toks := tk } ∧ Kp s.heap h' ∧ RdV prog w h' M q a ∧ RepV prog w (hid h' M) r b ∧ (∀ a ∈ M, ∃ o, h'.get? a = some o) ∧
      ∀ v h'' tk, Kp h' h'' → RepV prog w (hid h'' M) z v → Q v { s with heap := h'', toks := tk }) E s₁) E s → MethodOnS prog w A E name v pos [(false, t), (false, u)] Q s

theorem Ev.m0 {o : PySem.Expr} {name : Str} {apos pos : Pos} {p z : PV} (hm : Me0 prog w A name p z) (ho : Rd prog w H0 A env σ o p) (hbase : attributeBase o name env (eval o env) = eval o env := by rfl) (hline : (apos.endLine == pos.line) = true := by rfl) :
    Ev prog w H0 A env σ (.Call (.Attribute o name apos) [] [] pos) z := .mk fun s M m Q E V q =>
  Call_method0 hbase hline (ho.run s M m _ _ V fun v h₁ t₁ k₁ r => hm { s with heap := h₁, toks := t₁ } M v pos Q E r (V.keeps k₁).ex fun v h₂ t₂ k₂ r₂ => q v h₂ t₂ (k₁.trans k₂) r₂)
theorem Ev.m1 {o e : PySem.Expr} {name : Str} {apos pos : Pos} {p q z : PV} (hm : Me1 prog w A name p q z) (ho : Rd prog w H0 A env σ o p) (he : Rd prog w H0 A env σ e q) (hbase : attributeBase o name env (eval o env) = eval o env := by rfl)
    (hline : (apos.endLine == pos.line) = true := by rfl) (hs : starEach [e] env = [(false, eval e env)] := by rfl) :
    Ev prog w H0 A env σ (.Call (.Attribute o name apos) [e] [] pos) z := .mk fun s M m Q E V q' =>
  Call_method1 hbase hs hline (ho.run s M m _ _ V fun v h₁ t₁ k₁ r => hm { s with heap := h₁, toks := t₁ } M v pos _ Q E r (he.run { s with heap := h₁, toks := t₁ } M m _ _ (V.keeps k₁) fun a h₂ t₂ k₂ ra =>
    ⟨h₂, t₂, rfl, k₂, ra, ((V.keeps k₁).keeps k₂).ex, fun v h₃ t₃ k₃ r₃ => q' v h₃ t₃ ((k₁.trans k₂).trans k₃) r₃⟩))
theorem Ev.m2 {o e₁ e₂ : PySem.Expr} {name : Str} {apos pos : Pos} {p q r z : PV} (hm : Me2 prog w A name p q r z) (ho : Rd prog w H0 A env σ o p) (he₁ : Rd prog w H0 A env σ e₁ q) (he₂ : Ev prog w H0 A env σ e₂ r)
    (hbase : attributeBase o name env (eval o env) = eval o env := by rfl) (hline : (apos.endLine == pos.line) = true := by rfl) (hs : starEach [e₁, e₂] env = [(false, eval e₁ env), (false, eval e₂ env)] := by rfl) :
    Ev prog w H0 A env σ (.Call (.Attribute o name apos) [e₁, e₂] [] pos) z := .mk fun s M m Q E V q' =>
  Call_method2 hbase hs hline (ho.run s M m _ _ V fun v h₁ t₁ k₁ rv => hm { s with heap := h₁, toks := t₁ } M v pos _ _ Q E rv (he₁.run { s with heap := h₁, toks := t₁ } M m _ _ (V.keeps k₁) fun a h₂ t₂ k₂ ra =>
    he₂.run { s with heap := h₂, toks := t₂ } M m _ _ ((V.keeps k₁).keeps k₂) fun b h₃ t₃ k₃ rb =>
    ⟨h₃, t₃, rfl, k₂.trans k₃, ra.keeps k₃, rb, (((V.keeps k₁).keeps k₂).keeps k₃).ex, fun v h₄ t₄ k₄ r₄ => q' v h₄ t₄ ((k₁.trans k₂).trans (k₃.trans k₄)) r₄⟩))

theorem Me0.lower {x : Str} (hfit : Builtin.Str.tooLong (Txt.lower x).length = false) : Me0 prog w A "lower" (.str x) (.str (Txt.lower x)) := fun s M v pos Q E ⟨t, e⟩ _ q => by
  subst e; exact SB.lower hfit (q _ s.heap _ Kp.rfl ⟨_, rfl⟩)
theorem Me0.upper {x : Str} (hfit : Builtin.Str.tooLong (Txt.upper x).length = false) : Me0 prog w A "upper" (.str x) (.str (Txt.upper x)) := fun s M v pos Q E ⟨t, e⟩ _ q => by
  subst e; exact SB.upper hfit (q _ s.heap _ Kp.rfl ⟨_, rfl⟩)
theorem Me0.isalpha {x : Str} : Me0 prog w A "isalpha" (.str x) (.bool (Txt.isalpha x)) := fun s M v pos Q E ⟨t, e⟩ _ q => by
  subst e; exact SB.isalpha (q _ s.heap s.toks Kp.rfl rfl)
theorem Me1.find {x y : Str} : Me1 prog w A "find" (.str x) (.str y) (.int (Txt.find x y)) := fun s M v pos t Q E ⟨u, e⟩ h => by
  subst e
  refine SB.find (wpAny_mono h (fun a s₁ h₁ => ?_) fun _ _ e => e)
  refine LW.hideGoal fun GG hGG => ?_
  obtain ⟨h', tk, rfl, k, ⟨u', rfl⟩, _, q⟩ := h₁
  refine hGG ?_
  clear hGG GG
  exact ⟨y, u', rfl, q _ _ _ Kp.rfl ⟨_, rfl⟩⟩

theorem typeIs_of_at {h : Heap} {s : Shared} {a : Addr} {T : String} {o : Obj} (e : s.heap.get? a = some o) (hc : o.cls = .type T) : s.TypeIs (.ref a) T := ⟨o, e, hc⟩
/-- what a dict gives for a text -/
noncomputable def dget (ps : List (Str × PV)) (x : Str) (d : PV) : PV := (ps.lookup x).getD d
theorem RepKs.dget {F : Heap} {ps : List (Str × PV)} {kvs : List (Str × Value)} (r : RepKs prog w F ps kvs) {x : Str} {d : PV} {b : Value} (rb : RepV prog w F d b) : RepV prog w F (dget ps x d) ((valueAt kvs x).getD b) := by
  unfold LW.dget
  cases e : ps.lookup x with
  | none => rw [r.at_none e]; exact rb
  | some p => obtain ⟨v, hv, hr⟩ := r.at e; rw [hv]; exact hr
theorem Me2.get {ps : List (Str × PV)} {x : Str} {d : PV} : Me2 prog w A "get" (.dct ps) (.str x) d (dget ps x d) := fun s M v pos t u Q E ⟨a, kvs, e, hs, hd, r⟩ h => by
  subst e
  have hT := hd.mapOf
  refine LW.hideGoal fun GG hGG => ?_
  obtain ⟨o, es, ep, ho, hex, _⟩ := hd
  refine hGG ?_
  clear hGG GG
  refine ⟨"dict", "dict.get", F.plainAttrs_dict, F.slot_dict_get, F.type_dict_get, ⟨o, ho, hex.1⟩, fun a' e' => by cases e'; exact ⟨o, ho, hex.2.1⟩, ?_⟩
  refine wpAny_dict_get2 (knd := PySem.strKind prog w) hs (wpAny_mono h (fun a' s₁ h₁ => wpAny_mono h₁ (fun b s₂ h₂ => ?_) fun _ _ e => e) fun _ _ e => e)
  refine LW.hideGoal fun GG hGG => ?_
  obtain ⟨h', tk, rfl, k, ⟨u', rfl⟩, rb, hex', q⟩ := h₂
  refine hGG ?_
  clear hGG GG
  refine ⟨x, valueAt kvs, show Value.isStrOf x (.str x u') = true by simp [Value.isStrOf], ?_, ?_⟩
  · obtain ⟨o1, es1, ep1, ho1, r1⟩ := hT; exact ⟨o1, es1, ep1, k _ _ ho1, r1⟩
  · exact q _ _ _ Kp.rfl (RepKs.dget (RepKs.mono (k.hid M) _ _ r) rb)

/-- a dict's keys -/
theorem RepKs.isSome {F : Heap} {ps : List (Str × PV)} {kvs : List (Str × Value)} (r : RepKs prog w F ps kvs) (x : Str) : (valueAt kvs x).isSome = (ps.lookup x).isSome := by
  cases e : ps.lookup x with
  | none => rw [r.at_none e]; rfl
  | some p => obtain ⟨v, hv, _⟩ := r.at e; rw [hv]; rfl
theorem CmpOk.inD {ps : List (Str × PV)} {x : Str} : CmpOk prog w A .In (.str x) (.dct ps) (ps.lookup x).isSome := fun s M _ _ Q E ⟨t, e⟩ ⟨a, kvs, e', hs, hd, r⟩ q => by
  subst e e'
  exact wpAny_in_of (strKind_is prog w x t) hs hd.mapOf (by rw [r.isSome]; exact q s.heap _ Kp.rfl)
theorem CmpOk.notInD {ps : List (Str × PV)} {x : Str} : CmpOk prog w A .NotIn (.str x) (.dct ps) (!(ps.lookup x).isSome) := fun s M _ _ Q E ⟨t, e⟩ ⟨a, kvs, e', hs, hd, r⟩ q => by
  subst e e'
  exact wpAny_notIn_of (strKind_is prog w x t) hs hd.mapOf (by rw [r.isSome]; exact q s.heap _ Kp.rfl)
theorem CmpOk.isNone {p : PV} (hp : ∀ v h M, RdV prog w h M p v → (v == Value.none) = false) : CmpOk prog w A .IsNot p .none true := fun s M a b Q E r e q => by
  obtain rfl : b = .none := e
  have : wpAny (model prog w) A (compareOp .IsNot a .none) Q E s := by
    show wpAny _ A (do return .bool (!(← isSame a .none))) Q E s
    rw [isSame_none]; refine wpAny_bind (wpAny_pure (wpAny_pure ?_)); rw [hp _ _ _ r]; exact q s.heap s.toks Kp.rfl
  exact this
end
end LW
namespace LW

/-- what a frame stands on: H0 is not changed; X are hidden and stay as in HX -/
structure Bs where
  H0 : Heap
  X : List Addr
  HX : Heap

noncomputable def cellsOf (env : Env) : List (Str × Addr) := env.cells.filter fun y => env.kindOf y.1 == some .cell
noncomputable abbrev OA := List (Str × Addr)
/-- what the frame may change -/
noncomputable def ownA (env : Env) (oa : OA) (t : List (Addr × PV)) : List Addr := env.locals :: ((cellsOf env).map (·.2) ++ (oa.map (·.2) ++ t.map (·.1)))
noncomputable def Mu (env : Env) (B : Bs) (oa : OA) (t : List (Addr × PV)) : List Addr := B.X ++ ownA env oa t

noncomputable def LvS (prog : Program) (w : World) (h : Heap) (M : List Addr) (oa : OA) (x : Str) (v : Value) : LV → Prop
  | .im p => RepV prog w (hid h M) p v
  | .ow p => ∃ a, oa.lookup x = some a ∧ OwnV prog w h M a v p

structure St (prog : Program) (w : World) (B : Bs) (env : Env) (σ : Sy) (h : Heap) (oa : OA) (m : Str → Option Value) : Prop where
  fn : env.scope.kind = .function
  gl : env.globals = mainGlobals
  bl : env.builtins = builtinsNs
  base : Kp B.H0 (hid h (Mu env B oa σ.t))
  px : ∀ a ∈ B.X, ∃ o, B.HX.get? a = some o ∧ h.get? a = some o
  ns : h.Ns env.locals m
  sm : ∃ o, h.get? sysModules = some o
  nf : ∀ x, env.kindOf x ≠ some .free
  nd : (ownA env oa σ.t).Nodup
  ap : ∀ a ∈ ownA env oa σ.t, a ∉ B.X
  ex : ∀ a ∈ ownA env oa σ.t, ∃ o, h.get? a = some o
  ce : ∀ y ∈ cellsOf env, ∃ v, h.IsCell y.2 v
  va : ∀ x lv, σ.v.lookup x = some lv → ∃ v, Slot h env m x v ∧ LvS prog w h (Mu env B oa σ.t) oa x v lv
  th : ∀ y ∈ σ.t, OwnV prog w h (Mu env B oa σ.t) y.1 (.ref y.1) y.2

theorem lookup_mem {x : Str} {a : Addr} : ∀ {l : OA}, l.lookup x = some a → (x, a) ∈ l
  | [], e => by cases e
  | (y, b) :: l, e => by
    rw [List.lookup_cons] at e
    cases hb : x == y with
    | true => rw [hb] at e; cases e; rw [eq_of_beq hb]; exact List.mem_cons_self
    | false => rw [hb] at e; exact List.mem_cons_of_mem _ (lookup_mem e)

section
variable {prog : Program} {w : World} {A : Around} {G : Heap} {B : Bs} {env : Env} {σ : Sy} {h h' : Heap} {oa : OA} {m : Str → Option Value}

theorem mem_own_oa {x : Str} {a : Addr} {t : List (Addr × PV)} (e : oa.lookup x = some a) : a ∈ ownA env oa t :=
  List.mem_cons_of_mem _ (List.mem_append_right _ (List.mem_append_left _ (List.mem_map.mpr ⟨_, lookup_mem e, rfl⟩)))
theorem mem_own_th {t : List (Addr × PV)} {y : Addr × PV} (e : y ∈ t) : y.1 ∈ ownA env oa t :=
  List.mem_cons_of_mem _ (List.mem_append_right _ (List.mem_append_right _ (List.mem_map.mpr ⟨_, e, rfl⟩)))
theorem mem_own_ce {t : List (Addr × PV)} {y : Str × Addr} (e : y ∈ cellsOf env) : y.2 ∈ ownA env oa t :=
  List.mem_cons_of_mem _ (List.mem_append_left _ (List.mem_map.mpr ⟨_, e, rfl⟩))
theorem mem_Mu {a : Addr} {t : List (Addr × PV)} (e : a ∈ ownA env oa t) : a ∈ Mu env B oa t := List.mem_append_right _ e

theorem St.exM (S : St prog w B env σ h oa m) : ∀ a ∈ Mu env B oa σ.t, ∃ o, h.get? a = some o := fun a ha => by
  rcases List.mem_append.mp ha with ha | ha
  · obtain ⟨o, _, e⟩ := S.px a ha; exact ⟨o, e⟩
  · exact S.ex a ha

theorem St.vars (S : St prog w B env σ h oa m) (kg : Kp G B.H0) : Vars prog w G h (Mu env B oa σ.t) env σ m where
  fn := S.fn
  gl := S.gl
  bl := S.bl
  base := kg.trans S.base
  ns := S.ns
  sm := S.sm
  ex := S.exM
  va := fun x lv e => by
    obtain ⟨v, s, r⟩ := S.va x lv e
    refine ⟨v, s, ?_⟩
    cases lv with
    | im p => exact r
    | ow p => obtain ⟨a, ha, r⟩ := r; exact ⟨a, mem_Mu (mem_own_oa ha), r⟩
  th := fun y hy => ⟨mem_Mu (mem_own_th hy), S.th y hy⟩

theorem St.keeps (k : Kp h h') (S : St prog w B env σ h oa m) : St prog w B env σ h' oa m where
  fn := S.fn
  gl := S.gl
  bl := S.bl
  base := S.base.trans (k.hid _)
  px := fun a ha => let ⟨o, e1, e2⟩ := S.px a ha; ⟨o, e1, k a o e2⟩
  ns := S.ns.keeps k
  sm := let ⟨o, e⟩ := S.sm; ⟨o, k _ _ e⟩
  nf := S.nf
  nd := S.nd
  ap := S.ap
  ex := fun a ha => let ⟨o, e⟩ := S.ex a ha; ⟨o, k a o e⟩
  ce := fun y hy => let ⟨v, e⟩ := S.ce y hy; ⟨v, e.keeps k⟩
  va := fun x lv e => by
    obtain ⟨v, s, r⟩ := S.va x lv e
    refine ⟨v, s.keeps k, ?_⟩
    cases lv with
    | im p => exact RepV.mono (k.hid _) _ _ r
    | ow p => obtain ⟨a, ha, r⟩ := r; exact ⟨a, ha, r.keeps k⟩
  th := fun y hy => (S.th y hy).keeps k

/-- a thing at a, when another place is changed and things come to and go from the hidden -/
theorem OwnV.other {M M' : List Addr} {a a0 : Addr} {v : Value} {p : PV} (x : OwnV prog w h M a v p) (ha : a ≠ a0) (k : ∀ b o, b ≠ a0 → h.get? b = some o → h'.get? b = some o)
    (kh : Kp (hid h M) (hid h' M')) : OwnV prog w h' M' a v p := by
  cases p <;> try exact x
  · obtain ⟨e, vs, a1, a2⟩ := x; exact ⟨e, vs, a1.at fun o => k _ o ha, RepVs.mono kh _ _ a2⟩
  · obtain ⟨e, hs, vs, ⟨o, es, ep, ho, a1⟩, a2⟩ := x; exact ⟨e, hs, vs, ⟨o, es, ep, k _ _ ha ho, a1⟩, RepKs.mono kh _ _ a2⟩
  · obtain ⟨i, vs, e, u, a1, a2⟩ := x; exact ⟨i, vs, e, u.mono kh, a1.at fun o => k _ o ha, RepVs.mono kh _ _ a2⟩
  · obtain ⟨e, l, vs, n, a1, a2, a3⟩ := x; exact ⟨e, l, vs, n, a1.at fun o => k _ o ha, a2.at fun o => kh _ o, RepVs.mono kh _ _ a3⟩
theorem OwnV.less {M M' : List Addr} {a : Addr} {v : Value} {p : PV} (x : OwnV prog w h M a v p) (s : ∀ b ∈ M', b ∈ M) : OwnV prog w h M' a v p := by
  have kh : Kp (hid h M) (hid h M') := Kp.hidSub h s
  cases p <;> try exact x
  · obtain ⟨e, vs, a1, a2⟩ := x; exact ⟨e, vs, a1, RepVs.mono kh _ _ a2⟩
  · obtain ⟨e, hs, vs, a1, a2⟩ := x; exact ⟨e, hs, vs, a1, RepKs.mono kh _ _ a2⟩
  · obtain ⟨i, vs, e, u, a1, a2⟩ := x; exact ⟨i, vs, e, u.mono kh, a1, RepVs.mono kh _ _ a2⟩
  · obtain ⟨e, l, vs, n, a1, a2, a3⟩ := x; exact ⟨e, l, vs, n, a1, a2.at fun o => kh _ o, RepVs.mono kh _ _ a3⟩

/-- fewer names -/
theorem St.weaken {σ' : Sy} (S : St prog w B env σ h oa m) (ht : σ'.t = σ.t) (hv : ∀ x lv, σ'.v.lookup x = some lv → σ.v.lookup x = some lv) : St prog w B env σ' h oa m := by
  obtain ⟨v', t'⟩ := σ'
  obtain rfl : t' = σ.t := ht
  exact { S with va := fun x lv e => S.va x lv (hv x lv e) }

theorem Nodup.sub_own {oa' : OA} {t : List (Addr × PV)} (nd : (ownA env oa t).Nodup) (s : List.Sublist oa' oa) : (ownA env oa' t).Nodup :=
  nd.sublist (List.Sublist.cons_cons _ (List.Sublist.append (List.Sublist.refl _) (List.Sublist.append (s.map _) (List.Sublist.refl _))))
theorem mem_own_sub {oa' : OA} {t : List (Addr × PV)} (s : List.Sublist oa' oa) : ∀ a ∈ ownA env oa' t, a ∈ ownA env oa t := fun a ha =>
  (List.Sublist.cons_cons _ (List.Sublist.append (List.Sublist.refl _) (List.Sublist.append (s.map _) (List.Sublist.refl _)))).subset ha

theorem lookup_filter_ne {x y : Str} (hne : y ≠ x) : ∀ l : OA, (l.filter fun z => z.1 != x).lookup y = l.lookup y
  | [] => rfl
  | (z, b) :: l => by
    rw [List.filter_cons]
    by_cases hz : z = x
    · subst hz
      have : (z != z) = false := by simp
      simp only [this, Bool.false_eq_true, if_false]
      rw [lookup_filter_ne hne l, List.lookup_cons, beq_false_of_ne hne]
    · have : (z != x) = true := by simpa using hz
      simp only [this, if_true]
      rw [List.lookup_cons, List.lookup_cons, lookup_filter_ne hne l]
theorem nodup_snd {l : OA} (nd : (l.map (·.2)).Nodup) {x y : Str} {c : Addr} (h1 : (x, c) ∈ l) (h2 : (y, c) ∈ l) : x = y := by
  induction l with
  | nil => cases h1
  | cons z l ih =>
    rw [List.map_cons, List.nodup_cons] at nd
    rcases List.mem_cons.mp h1 with e1 | h1
    · rcases List.mem_cons.mp h2 with e2 | h2
      · have := e1.trans e2.symm; exact (Prod.mk.inj this).1
      · exact (nd.1 (List.mem_map.mpr ⟨_, h2, by rw [← e1]⟩)).elim
    · rcases List.mem_cons.mp h2 with e2 | h2
      · exact (nd.1 (List.mem_map.mpr ⟨_, h1, by rw [← e2]⟩)).elim
      · exact ih nd.2 h1 h2

/-- a place that a name is stored at -/
noncomputable def Place (env : Env) (x : Str) (a0 : Addr) : Prop := (env.kindOf x = some .local ∧ a0 = env.locals) ∨ (env.kindOf x = some .cell ∧ env.cells.lookup x = some a0)

theorem mem_cellsOf {x : Str} {c : Addr} (hk : env.kindOf x = some .cell) (hc : env.cells.lookup x = some c) : (x, c) ∈ cellsOf env :=
  List.mem_filter.mpr ⟨lookup_mem hc, by rw [hk]; rfl⟩

theorem own_parts {t : List (Addr × PV)} (nd : (ownA env oa t).Nodup) :
    (∀ y ∈ cellsOf env, y.2 ≠ env.locals) ∧ ((cellsOf env).map (·.2)).Nodup ∧ (∀ x a, oa.lookup x = some a → a ≠ env.locals ∧ ∀ y ∈ cellsOf env, a ≠ y.2) ∧ (∀ z ∈ t, z.1 ≠ env.locals ∧ ∀ y ∈ cellsOf env, z.1 ≠ y.2) := by
  unfold ownA at nd
  rw [List.nodup_cons, List.nodup_append] at nd
  refine LW.hideGoal fun GG hGG => ?_
  obtain ⟨h1, h2, h3, h4⟩ := nd
  refine hGG ?_
  clear hGG GG
  refine ⟨fun y hy e => h1 (e ▸ List.mem_append_left _ (List.mem_map.mpr ⟨y, hy, rfl⟩)), h2, fun x a e => ⟨fun e' => h1 (e' ▸ List.mem_append_right _ (List.mem_append_left _ (List.mem_map.mpr ⟨_, lookup_mem e, rfl⟩))), fun y hy e' => ?_⟩,
    fun z hz => ⟨fun e' => h1 (e' ▸ List.mem_append_right _ (List.mem_append_right _ (List.mem_map.mpr ⟨z, hz, rfl⟩))), fun y hy e' => ?_⟩⟩
  · exact h4 y.2 (List.mem_map.mpr ⟨y, hy, rfl⟩) a (List.mem_append_left _ (List.mem_map.mpr ⟨_, lookup_mem e, rfl⟩)) e'.symm
  · exact h4 y.2 (List.mem_map.mpr ⟨y, hy, rfl⟩) z.1 (List.mem_append_right _ (List.mem_map.mpr ⟨z, hz, rfl⟩)) e'.symm

theorem Place.mem {x : Str} {a0 : Addr} (P : Place env x a0) {t : List (Addr × PV)} : a0 ∈ ownA env oa t := by
  rcases P with ⟨_, rfl⟩ | ⟨hk, hc⟩
  · exact List.mem_cons_self
  · exact mem_own_ce (mem_cellsOf hk hc)

theorem St.stored {h1 h2 : Heap} {x : Str} {a0 : Addr} {lv : LV} {v : Value} {m' : Str → Option Value} (S : St prog w B env σ h oa m) (k : Kp h h1) (P : Place env x a0)
    (new : match lv with | .im p => RepV prog w (hid h1 (Mu env B oa σ.t)) p v | .ow p => ∃ a, h.get? a = none ∧ OwnV prog w h1 (a :: Mu env B oa σ.t) a v p)
    (kb : ∀ b o, b ≠ a0 → h1.get? b = some o → h2.get? b = some o) (ke : ∃ o, h2.get? a0 = some o) (hns : h2.Ns env.locals m') (hsl : Slot h2 env m' x v) (hm : ∀ y, y ≠ x → m' y = m y) :
    ∃ oa', St prog w B env ⟨(x, lv) :: σ.v, σ.t⟩ h2 oa' m' ∧ (∀ p, lv = .im p → Kp (hid h1 (Mu env B oa σ.t)) (hid h2 (Mu env B oa' σ.t))) := by
  refine LW.hideGoal fun GG hGG => ?_
  obtain ⟨p1, p2, p3, p4⟩ := own_parts S.nd
  refine hGG ?_
  clear hGG GG
  have hsubl : List.Sublist (oa.filter fun z => z.1 != x) oa := List.filter_sublist
  -- the new own thing's address
  obtain ⟨na, hni, hna, hnew⟩ : ∃ na : OA, (∀ p, lv = .im p → na = []) ∧ ((na = [] ∨ ∃ a, na = [(x, a)] ∧ h.get? a = none ∧ ∃ o, h1.get? a = some o)) ∧ ∀ M', (∀ b ∈ M', b ∈ na.map (·.2) ++ Mu env B oa σ.t) → a0 ∈ M' → (na = [] ∨ ∀ a ∈ na.map (·.2), a ∈ M') →
      LvS prog w h2 M' (na ++ oa.filter fun z => z.1 != x) x v lv := by
    cases lv with
    | im p =>
      refine ⟨[], fun _ _ => rfl, .inl rfl, fun M' hM' h0 _ => RepV.mono (fun b o e => ?_) _ _ new⟩
      rw [hid_get] at e ⊢
      refine ⟨kb b o (fun e' => ?_) e.1, fun hb => e.2 (by simpa using hM' b hb)⟩
      exact e.2 (e' ▸ mem_Mu (Place.mem P))
    | ow p =>
      obtain ⟨a, fr, hv⟩ := new
      have ha0 : a ≠ a0 := fun e => by
        obtain ⟨o, ho⟩ := S.ex a0 (Place.mem P); rw [← e, fr] at ho; cases ho
      have hex : ∃ o, h1.get? a = some o := by
        cases p <;> try exact hv.elim
        · obtain ⟨_, vs, ⟨n, e⟩, _⟩ := hv; exact ⟨_, e⟩
        · obtain ⟨_, _, vs, ⟨o, es, ep, e, _⟩, _⟩ := hv; exact ⟨_, e⟩
        · obtain ⟨i, vs, _, _, ⟨n, e⟩, _⟩ := hv; exact ⟨_, e⟩
        · obtain ⟨_, l, vs, n, ⟨o, e, _⟩, _⟩ := hv; exact ⟨_, e⟩
      refine ⟨[(x, a)], fun _ e => (LV.noConfusion e), .inr ⟨a, rfl, fr, hex⟩, fun M' hM' h0 hin => ⟨a, by simp [List.lookup_cons], ?_⟩⟩
      refine hv.other ha0 kb fun b o e => ?_
      rw [hid_get] at e ⊢
      have hb0 : b ≠ a0 := fun e' => e.2 (e' ▸ List.mem_cons_of_mem _ (mem_Mu (Place.mem P)))
      refine ⟨kb b o hb0 e.1, fun hb => e.2 ?_⟩
      have := hM' b hb
      simpa using this
  have hsub : ∀ a ∈ ownA env (na ++ oa.filter fun z => z.1 != x) σ.t, a ∈ na.map (·.2) ∨ a ∈ ownA env oa σ.t := fun a ha => by
    unfold ownA at ha
    rcases memC ha with rfl | ha
    · exact .inr List.mem_cons_self
    rcases List.mem_append.mp ha with ha | ha
    · exact .inr (List.mem_cons_of_mem _ (List.mem_append_left _ ha))
    rcases List.mem_append.mp ha with ha | ha
    · rw [List.map_append] at ha
      rcases List.mem_append.mp ha with ha | ha
      · exact .inl ha
      · exact .inr (List.mem_cons_of_mem _ (List.mem_append_right _ (List.mem_append_left _ ((hsubl.map _).subset ha))))
    · exact .inr (List.mem_cons_of_mem _ (List.mem_append_right _ (List.mem_append_right _ ha)))
  have hMsub : ∀ a ∈ Mu env B (na ++ oa.filter fun z => z.1 != x) σ.t, a ∈ na.map (·.2) ++ Mu env B oa σ.t := fun a ha => by
    rcases List.mem_append.mp ha with ha | ha
    · exact List.mem_append_right _ (List.mem_append_left _ ha)
    · rcases hsub a ha with ha | ha
      · exact List.mem_append_left _ ha
      · exact List.mem_append_right _ (List.mem_append_right _ ha)
  have hfr : ∀ a ∈ na.map (·.2), h.get? a = none := fun a ha => by
    rcases hna with e | ⟨a', e, fr, _⟩
    · rw [e] at ha; cases ha
    · rw [e] at ha; rw [List.mem_singleton.mp ha]; exact fr
  have h0M : a0 ∈ Mu env B oa σ.t := mem_Mu (Place.mem P)
  have kh : Kp (hid h (Mu env B oa σ.t)) (hid h2 (Mu env B (na ++ oa.filter fun z => z.1 != x) σ.t)) := fun b o e => by
    rw [hid_get] at e ⊢
    refine ⟨kb b o (fun e' => e.2 (e' ▸ h0M)) (k b o e.1), fun hb => ?_⟩
    rcases List.mem_append.mp (hMsub b hb) with hb | hb
    · rw [hfr b hb] at e; cases e.1
    · exact e.2 hb
  have k2 : ∀ b o, b ≠ a0 → h.get? b = some o → h2.get? b = some o := fun b o hb e => kb b o hb (k b o e)
  have hcell : ∀ y c, env.kindOf y = some .cell → env.cells.lookup y = some c → y ≠ x → c ≠ a0 := fun y c hk hc hne e => by
    rcases P with ⟨_, e0⟩ | ⟨hk', hc'⟩
    · exact p1 _ (mem_cellsOf hk hc) (e.trans e0)
    · exact hne (nodup_snd p2 (mem_cellsOf hk hc) (e ▸ mem_cellsOf hk' hc'))
  have hth0 : ∀ z ∈ σ.t, z.1 ≠ a0 := fun z hz e => by
    rcases P with ⟨_, e0⟩ | ⟨hk', hc'⟩
    · exact (p4 z hz).1 (e.trans e0)
    · exact (p4 z hz).2 _ (mem_cellsOf hk' hc') e
  have hoa0 : ∀ y a, oa.lookup y = some a → a ≠ a0 := fun y a ha e => by
    rcases P with ⟨_, e0⟩ | ⟨hk', hc'⟩
    · exact (p3 y a ha).1 (e.trans e0)
    · exact (p3 y a ha).2 _ (mem_cellsOf hk' hc') e
  refine ⟨na ++ oa.filter fun z => z.1 != x, ⟨S.fn, S.gl, S.bl, S.base.trans kh, fun a ha => ?_, hns, ?_, S.nf, ?_, ?_, ?_, ?_, ?_, ?_⟩, fun p e b o e1 => ?_⟩
  · obtain ⟨o, e1, e2⟩ := S.px a ha
    exact ⟨o, e1, k2 a o (fun e => S.ap a0 (Place.mem P) (e ▸ ha)) e2⟩
  · obtain ⟨o, e⟩ := S.sm
    by_cases hs : sysModules = a0
    · rw [hs]; exact ke
    · exact ⟨o, k2 _ _ hs e⟩
  · show (ownA env (na ++ oa.filter fun z => z.1 != x) σ.t).Nodup
    have nd := Nodup.sub_own (t := σ.t) S.nd hsubl
    rcases hna with e | ⟨a, e, fr, _⟩ <;> rw [e]
    · exact nd
    · have hnot : a ∉ ownA env (oa.filter fun z => z.1 != x) σ.t := fun hm => by
        obtain ⟨o, ho⟩ := S.ex a (mem_own_sub hsubl a hm); rw [fr] at ho; cases ho
      have perm : (ownA env ([(x, a)] ++ oa.filter fun z => z.1 != x) σ.t).Perm (a :: ownA env (oa.filter fun z => z.1 != x) σ.t) := by
        unfold ownA
        rw [List.map_append, List.map_cons, List.map_nil, List.append_assoc, List.singleton_append]
        exact ((List.perm_middle).cons _).trans (List.Perm.swap _ _ _)
      exact perm.nodup_iff.mpr (List.nodup_cons.mpr ⟨hnot, nd⟩)
  · intro a ha hX
    rcases hsub a ha with ha | ha
    · obtain ⟨o, _, e⟩ := S.px a hX; rw [hfr a ha] at e; cases e
    · exact S.ap a ha hX
  · intro a ha
    by_cases e0 : a = a0
    · rw [e0]; exact ke
    · rcases hsub a ha with ha | ha
      · rcases hna with e | ⟨a', e, fr, o, ho⟩ <;> rw [e] at ha
        · cases ha
        · rw [List.mem_singleton.mp ha] at e0 ⊢; exact ⟨o, kb _ _ e0 ho⟩
      · obtain ⟨o, ho⟩ := S.ex a ha; exact ⟨o, k2 _ _ e0 ho⟩
  · intro y hy
    by_cases e0 : y.2 = a0
    · rcases P with ⟨hk, e1⟩ | ⟨hk', hc'⟩
      · exact (p1 y hy (e0.trans e1)).elim
      · rcases hsl with ⟨hl, _⟩ | ⟨_, c, hc, hv⟩
        · rw [hk'] at hl; cases hl
        · rw [hc'] at hc; cases hc; rw [e0]; exact ⟨_, hv⟩
    · refine LW.hideGoal fun GG hGG => ?_
      obtain ⟨v', o, ho, hd⟩ := S.ce y hy
      refine hGG ?_
      clear hGG GG
      exact ⟨v', o, k2 _ _ e0 ho, hd⟩
  · intro y lv' e
    by_cases hy : y = x
    · rw [hy] at e ⊢
      simp only [List.lookup_cons, beq_self_eq_true] at e
      cases e
      refine ⟨v, hsl, hnew _ hMsub (mem_Mu (Place.mem P)) ?_⟩
      rcases hna with e | ⟨a, e, _⟩
      · exact .inl e
      · refine .inr fun a' ha' => ?_
        rw [e] at ha' ⊢
        rw [List.mem_singleton.mp ha']
        exact mem_Mu (mem_own_oa (x := x) (by simp [List.lookup_cons]))
    · have e' : σ.v.lookup y = some lv' := by simpa [List.lookup_cons, beq_false_of_ne hy] using e
      obtain ⟨v', s, r⟩ := S.va y lv' e'
      refine ⟨v', ?_, ?_⟩
      · rcases s with ⟨hl, hv⟩ | ⟨hk, c, hc, o, ho, hd⟩
        · exact .inl ⟨hl, (hm y hy).trans hv⟩
        · rcases hk with hk | hk
          · exact .inr ⟨.inl hk, c, hc, o, k2 c o (hcell y c hk hc hy) ho, hd⟩
          · exact (S.nf y hk).elim
      · cases lv' with
        | im p => exact RepV.mono kh _ _ r
        | ow p =>
          obtain ⟨a, ha, r⟩ := r
          refine ⟨a, ?_, r.other (hoa0 y a ha) k2 kh⟩
          have : na.lookup y = none := by
            rcases hna with rfl | ⟨a', rfl, _⟩
            · rfl
            · simp [List.lookup_cons, beq_false_of_ne hy]
          rw [List.lookup_append, this, lookup_filter_ne hy]
          simpa using ha
  · exact fun z hz => (S.th z hz).other (hth0 z hz) k2 kh
  · obtain rfl := hni p e
    rw [hid_get] at e1 ⊢
    exact ⟨kb b o (fun e' => e1.2 (e' ▸ h0M)) e1.1, fun hb => e1.2 (by simpa using hMsub b hb)⟩
end
end LW
namespace LW

/-- how statements end -/
inductive Out where
  | nx (σ : Sy)
  | rt (p : PV) (t : List (Addr × PV))
  | br (σ : Sy)
  | co (σ : Sy)

structure RtOk (prog : Program) (w : World) (B : Bs) (h : Heap) (p : PV) (t : List (Addr × PV)) (v : Value) : Prop where
  base : Kp B.H0 (hid h (B.X ++ t.map (·.1)))
  px : ∀ a ∈ B.X, ∃ o, B.HX.get? a = some o ∧ h.get? a = some o
  val : RepV prog w (hid h (B.X ++ t.map (·.1))) p v
  th : ∀ y ∈ t, OwnV prog w h (B.X ++ t.map (·.1)) y.1 (.ref y.1) y.2

noncomputable def Post (prog : Program) (w : World) (B : Bs) (env : Env) (h : Heap) : Out → Flow → Prop
  | .nx σ, f => f = .next ∧ ∃ oa m, St prog w B env σ h oa m
  | .br σ, f => f = .brk ∧ ∃ oa m, St prog w B env σ h oa m
  | .co σ, f => f = .cont ∧ ∃ oa m, St prog w B env σ h oa m
  | .rt p t, f => ∃ v, f = .ret v ∧ RtOk prog w B h p t v

noncomputable def Exc (prog : Program) (w : World) (A : Around) (G : Heap) (env : Env) (σ : Sy) (c : Sem Flow) (out : Out) : Prop :=
  ∀ (B : Bs) (s : Shared) (oa : OA) (m : Str → Option Value) (Q : Flow → Shared → Prop) (E : Value → Shared → Prop), Kp G B.H0 → St prog w B env σ s.heap oa m →
    (∀ f h' tk, Post prog w B env h' out f → Q f { s with heap := h', toks := tk }) → wpAny (model prog w) A c Q E s
structure Ex (prog : Program) (w : World) (A : Around) (G : Heap) (env : Env) (σ : Sy) (ss : List Stmt) (out : Out) : Prop where
  run : Exc prog w A G env σ (execs ss env) out
structure Ex1 (prog : Program) (w : World) (A : Around) (G : Heap) (env : Env) (σ : Sy) (st : Stmt) (out : Out) : Prop where
  run : Exc prog w A G env σ (exec st env) out


section
variable {prog : Program} {w : World} {A : Around} {G : Heap} {B : Bs} {env : Env} {σ σ' : Sy} {h h' : Heap} {oa : OA} {m : Str → Option Value}

theorem Ex.nil : Ex prog w A G env σ [] (.nx σ) := .mk fun B s oa m Q E kg S q => wpAny_execs_nil (q _ s.heap s.toks ⟨rfl, oa, m, S⟩)
theorem Ex.cons {st : Stmt} {rest : List Stmt} {out : Out} (h1 : Ex1 prog w A G env σ st (.nx σ')) (h2 : Ex prog w A G env σ' rest out) : Ex prog w A G env σ (st :: rest) out := .mk fun B s oa m Q E kg S q =>
  wpAny_execs_cons (h1.run B s oa m _ E kg S fun f h' tk P => by
    obtain ⟨rfl, oa', m', S'⟩ := P
    exact h2.run B _ oa' m' Q E kg S' fun f h'' tk' P' => q f h'' tk' P')
theorem Ex.stop {st : Stmt} {rest : List Stmt} {out : Out} (h1 : Ex1 prog w A G env σ st out) (hn : ∀ σ', out ≠ .nx σ' := by intro _; exact Out.noConfusion) : Ex prog w A G env σ (st :: rest) out := .mk fun B s oa m Q E kg S q =>
  wpAny_execs_cons (h1.run B s oa m _ E kg S fun f h' tk P => by
    cases out with
    | nx σ' => exact (hn _ rfl).elim
    | rt p t => obtain ⟨v, rfl, r⟩ := P; exact q _ h' tk ⟨v, rfl, r⟩
    | br σ' => obtain ⟨rfl, r⟩ := P; exact q _ h' tk ⟨rfl, r⟩
    | co σ' => obtain ⟨rfl, r⟩ := P; exact q _ h' tk ⟨rfl, r⟩)
theorem Ex.step {ss : List Stmt} {st : Stmt} {rest : List Stmt} {out : Out} (hb : ss = st :: rest) (h1 : Ex1 prog w A G env σ st (.nx σ')) (h2 : Ex prog w A G env σ' rest out) : Ex prog w A G env σ ss out := hb ▸ Ex.cons h1 h2
theorem Ex.last {ss : List Stmt} {st : Stmt} {rest : List Stmt} {out : Out} (hb : ss = st :: rest) (h1 : Ex1 prog w A G env σ st out) (hn : ∀ σ', out ≠ .nx σ' := by intro _; exact Out.noConfusion) : Ex prog w A G env σ ss out := hb ▸ Ex.stop h1 hn
theorem Ex.done {ss : List Stmt} (hb : ss = []) : Ex prog w A G env σ ss (.nx σ) := hb ▸ Ex.nil
theorem Ex.weaken {c : List Stmt} {out : Out} (hx : Ex prog w A G env σ' c out) (ht : σ'.t = σ.t := by rfl) (hv : ∀ x lv, σ'.v.lookup x = some lv → σ.v.lookup x = some lv) : Ex prog w A G env σ c out := .mk fun B s oa m Q E kg S q =>
  hx.run B s oa m Q E kg (S.weaken ht hv) q

noncomputable def storB (env : Env) (x : Str) : Bool := match env.kindOf x with | some .local => true | some .cell => (env.cells.lookup x).isSome | _ => false
theorem storB_spec {x : Str} (e : storB env x = true) : env.kindOf x = some .local ∨ (env.kindOf x = some .cell ∧ ∃ c, env.cells.lookup x = some c) := by
  unfold storB at e
  split at e
  · exact .inl (by assumption)
  · exact .inr ⟨by assumption, Option.isSome_iff_exists.mp e⟩
  · cases e

/-- a name is stored -/
theorem storeRk {s : Shared} {x : Str} {lv : LV} {v : Value} {Q : Unit → Shared → Prop} {E : Value → Shared → Prop} (S : St prog w B env σ h oa m) (k : Kp h s.heap) (hx : storB env x = true)
    (new : match lv with | .im p => RepV prog w (hid s.heap (Mu env B oa σ.t)) p v | .ow p => ∃ a, h.get? a = none ∧ OwnV prog w s.heap (a :: Mu env B oa σ.t) a v p)
    (q : ∀ h' tk oa' m', St prog w B env ⟨(x, lv) :: σ.v, σ.t⟩ h' oa' m' → (∀ p, lv = .im p → Kp (hid s.heap (Mu env B oa σ.t)) (hid h' (Mu env B oa' σ.t))) → Q () { s with heap := h', toks := tk }) : wpAny (model prog w) A (storeName env x v) Q E s := by
  have S1 := S.keeps k
  rcases storB_spec hx with hl | ⟨hk, c, hc⟩
  · refine wpAny_storeName_local hl S1.ns (fun h2 hn hs => ?_) (by rw [S.fn]; rfl)
    obtain ⟨oa', S', kk⟩ := S.stored k (.inl ⟨hl, rfl⟩) new (fun b o hb e => (hs.2 b hb).trans e) (by obtain ⟨o, _, _, e, _⟩ := hn; exact ⟨o, e⟩) hn (.inl ⟨hl, by simp⟩) (fun y hy => by simp [hy])
    exact q h2 _ oa' _ S' kk
  · obtain ⟨v0, hv0⟩ := S1.ce _ (mem_cellsOf hk hc)
    refine wpAny_storeName_cell S.fn hk hc hv0 fun h2 hv hs => ?_
    have hne : env.locals ≠ c := fun e => (own_parts S.nd).1 _ (mem_cellsOf hk hc) e.symm
    obtain ⟨oa', S', kk⟩ := S.stored k (.inr ⟨hk, hc⟩) new (fun b o hb e => (hs.2 b hb).trans e) (by obtain ⟨o, e, _⟩ := hv; exact ⟨o, e⟩) (S1.ns.sameBut hs hne) (.inr ⟨.inl hk, c, hc, hv⟩) (fun y hy => rfl)
    exact q h2 _ oa' _ S' kk

theorem storeR {s : Shared} {x : Str} {lv : LV} {v : Value} {Q : Unit → Shared → Prop} {E : Value → Shared → Prop} (S : St prog w B env σ h oa m) (k : Kp h s.heap) (hx : storB env x = true)
    (new : match lv with | .im p => RepV prog w (hid s.heap (Mu env B oa σ.t)) p v | .ow p => ∃ a, h.get? a = none ∧ OwnV prog w s.heap (a :: Mu env B oa σ.t) a v p)
    (q : ∀ h' tk, (∃ oa' m', St prog w B env ⟨(x, lv) :: σ.v, σ.t⟩ h' oa' m') → Q () { s with heap := h', toks := tk }) : wpAny (model prog w) A (storeName env x v) Q E s :=
  storeRk S k hx new fun h' tk oa' m' S' _ => q h' tk ⟨oa', m', S'⟩

theorem Ex1.assign {x : Str} {pos' pos : Pos} {value : PySem.Expr} {p : PV} (he : Ev prog w G A env σ value p) (hx : storB env x = true := by rfl) (hs : swapsWith value (some (.Name x pos')) pos.line env = pure false := by rfl) :
    Ex1 prog w A G env σ (.Assign [.Name x pos'] value pos) (.nx ⟨(x, .im p) :: σ.v, σ.t⟩) := .mk fun B s oa m Q E kg S q =>
  wpAny_Assign_Name (he.run s _ m _ _ (S.vars kg) fun v h' tk k r => storeR (lv := .im p) S k hx r fun h'' tk' S' => q _ h'' tk' ⟨rfl, S'⟩) hs
theorem Ex1.assignN {x : Str} {pos' pos : Pos} {value : PySem.Expr} {p : PV} (he : EvN prog w G A env σ value p) (hx : storB env x = true := by rfl) (hs : swapsWith value (some (.Name x pos')) pos.line env = pure false := by rfl) :
    Ex1 prog w A G env σ (.Assign [.Name x pos'] value pos) (.nx ⟨(x, .ow p) :: σ.v, σ.t⟩) := .mk fun B s oa m Q E kg S q =>
  wpAny_Assign_Name (he.run s _ m _ _ (S.vars kg) fun a v h' tk k f r => storeR (lv := .ow p) S k hx ⟨a, f, r⟩ fun h'' tk' S' => q _ h'' tk' ⟨rfl, S'⟩) hs

noncomputable def IpOk (prog : Program) (w : World) (A : Around) (op : Operator) (p q z : PV) : Prop :=
  ∀ (s : Shared) (M : List Addr) (a b : Value) (Q : Value → Shared → Prop) (E : Value → Shared → Prop), RepV prog w (hid s.heap M) p a → RepV prog w (hid s.heap M) q b → (∀ a ∈ M, ∃ o, s.heap.get? a = some o) →
    (∀ v h' tk, Kp s.heap h' → RepV prog w (hid h' M) z v → Q v { s with heap := h', toks := tk }) → wpAny (model prog w) A (inplaceOp op a b) Q E s
theorem Ex1.aug {x : Str} {pos' pos : Pos} {op : Operator} {value : PySem.Expr} {p q z : PV} (hop : IpOk prog w A op p q z) (hl : σ.v.lookup x = some (.im p)) (he : Ev prog w G A env σ value q) (hx : storB env x = true := by rfl)
    (hd : (x == ("__classdict__" : Str)) = false := by decide) :
    Ex1 prog w A G env σ (.AugAssign (.Name x pos') op value pos) (.nx ⟨(x, .im z) :: σ.v, σ.t⟩) := .mk fun B s oa m Q E kg S q' => by
  have V := S.vars kg
  obtain ⟨v, sl, r⟩ := V.va x _ hl
  refine wpAny_AugAssign_Name (load_slot V.fn V.ns sl hd (he.run s _ m _ _ V fun b h₁ t₁ k₁ rb => hop _ _ v b _ _ (RepV.mono (k₁.hid _) _ _ r) rb (V.keeps k₁).ex fun v' h₂ t₂ k₂ r₂ => ?_))
  exact storeR (lv := .im z) S (k₁.trans k₂) hx r₂ fun h'' tk' S' => q' _ h'' tk' ⟨rfl, S'⟩
theorem IpOk.addI {a b : Int} : IpOk prog w A .Add (.int a) (.int b) (.int (a + b)) := fun s M _ _ Q E ⟨_, e1⟩ ⟨_, e2⟩ _ q => by subst e1 e2; exact P.iadd_int (q _ s.heap _ Kp.rfl ⟨_, rfl⟩)
theorem IpOk.subI {a b : Int} : IpOk prog w A .Sub (.int a) (.int b) (.int (a - b)) := fun s M _ _ Q E ⟨_, e1⟩ ⟨_, e2⟩ _ q => by subst e1 e2; exact P.isub_int (q _ s.heap _ Kp.rfl ⟨_, rfl⟩)
theorem IpOk.orI {a b : Int} : IpOk prog w A .BitOr (.int a) (.int b) (.int (Builtin.bitOr a b)) := fun s M _ _ Q E ⟨_, e1⟩ ⟨_, e2⟩ _ q => by subst e1 e2; exact ior_int (q _ s.heap _ Kp.rfl ⟨_, rfl⟩)
theorem IpOk.shlI {a b : Int} (hn : 0 ≤ b) (hsz : (Builtin.Int.intBits a : Int) + b ≤ 2 ^ 27) : IpOk prog w A .LShift (.int a) (.int b) (.int (a * 2 ^ b.toNat)) := fun s M _ _ Q E ⟨_, e1⟩ ⟨_, e2⟩ _ q => by
  subst e1 e2; exact ilshift_int hn hsz (q _ s.heap _ Kp.rfl ⟨_, rfl⟩)

theorem Ex1.ite {test : PySem.Expr} {body orelse : List Stmt} {pos : Pos} {b : Bool} {out : Out} (ht : Tst prog w G A env σ test b) (h1 : b = true → Ex prog w A G env σ body out) (h2 : b = false → Ex prog w A G env σ orelse out) :
    Ex1 prog w A G env σ (.If test body orelse pos) out := .mk fun B s oa m Q E kg S q =>
  wpAny_If (ht.run s _ m _ _ (S.vars kg) fun h' tk k => by
    cases b with
    | true => exact (h1 rfl).run B { s with heap := h', toks := tk } oa m Q E kg (S.keeps k) q
    | false => exact (h2 rfl).run B { s with heap := h', toks := tk } oa m Q E kg (S.keeps k) q)

theorem St.fin {p : PV} {v : Value} (S : St prog w B env σ h oa m) (r : RepV prog w (hid h (B.X ++ σ.t.map (·.1))) p v) : RtOk prog w B h p σ.t v := by
  have sub : ∀ b ∈ B.X ++ σ.t.map (·.1), b ∈ Mu env B oa σ.t := fun b hb => by
    rcases List.mem_append.mp hb with hb | hb
    · exact List.mem_append_left _ hb
    · obtain ⟨y, hy, rfl⟩ := List.mem_map.mp hb; exact mem_Mu (mem_own_th hy)
  exact ⟨S.base.trans (Kp.hidSub h sub), S.px, r, fun y hy => (S.th y hy).less sub⟩
theorem St.subX (S : St prog w B env σ h oa m) : ∀ b ∈ B.X ++ σ.t.map (·.1), b ∈ Mu env B oa σ.t := fun b hb => by
  rcases List.mem_append.mp hb with hb | hb
  · exact List.mem_append_left _ hb
  · obtain ⟨y, hy, rfl⟩ := List.mem_map.mp hb; exact mem_Mu (mem_own_th hy)
theorem Ex1.ret {e : PySem.Expr} {pos : Pos} {p : PV} (he : Ev prog w G A env σ e p) : Ex1 prog w A G env σ (.Return (some e) pos) (.rt p σ.t) := .mk fun B s oa m Q E kg S q =>
  wpAny_Return_some (he.run s _ m _ _ (S.vars kg) fun v h' tk k r => q _ h' tk ⟨v, rfl, (S.keeps k).fin (RepV.mono (Kp.hidSub h' S.subX) _ _ r)⟩)
theorem Ex1.retNone {pos : Pos} : Ex1 prog w A G env σ (.Return none pos) (.rt .none σ.t) := .mk fun B s oa m Q E kg S q =>
  wpAny_Return_none (q _ s.heap s.toks ⟨_, rfl, S.fin rfl⟩)
theorem OwnV.froz {M M' : List Addr} {a : Addr} {v : Value} {p : PV} (x : OwnV prog w h M a v p) (hp : ∀ l, p ≠ .itr l) (ha : a ∉ M') (s : ∀ b ∈ M', b ∈ M) : RepV prog w (hid h M') p v := by
  have kh : Kp (hid h M) (hid h M') := Kp.hidSub h s
  cases p <;> try exact x.elim
  · obtain ⟨e, vs, a1, a2⟩ := x; exact ⟨a, vs, e, a1.at fun o ho => hid_get.mpr ⟨ho, ha⟩, RepVs.mono kh _ _ a2⟩
  · obtain ⟨e, hs, vs, ⟨o, es, ep, ho, a1⟩, a2⟩ := x; exact ⟨a, vs, e, hs, ⟨o, es, ep, hid_get.mpr ⟨ho, ha⟩, a1⟩, RepKs.mono kh _ _ a2⟩
  · obtain ⟨i, vs, e, u, a1, a2⟩ := x; exact ⟨i, a, vs, e, u.mono kh, a1.at fun o ho => hid_get.mpr ⟨ho, ha⟩, RepVs.mono kh _ _ a2⟩
  · exact (hp _ rfl).elim
theorem St.oa_not (S : St prog w B env σ h oa m) {x : Str} {a : Addr} (e : oa.lookup x = some a) : a ∉ B.X ++ σ.t.map (·.1) := fun hb => by
  rcases List.mem_append.mp hb with hb | hb
  · exact S.ap a (mem_own_oa e) hb
  · have nd := S.nd
    unfold ownA at nd
    rw [List.nodup_cons, List.nodup_append, List.nodup_append] at nd
    exact nd.2.2.1.2.2 a (List.mem_map.mpr ⟨_, lookup_mem e, rfl⟩) a hb rfl
theorem Ex1.retOwn {x : Str} {p0 pos : Pos} {p : PV} (hl : σ.v.lookup x = some (.ow p)) (hp : ∀ l, p ≠ .itr l := by intro _; exact PV.noConfusion) (hd : ((x == ("__debug__" : Str)) || (x == ("__classdict__" : Str))) = false := by decide) :
    Ex1 prog w A G env σ (.Return (some (.Name x p0)) pos) (.rt p σ.t) := .mk fun B s oa m Q E kg S q => by
  refine LW.hideGoal fun GG hGG => ?_
  obtain ⟨h1, h2⟩ := Bool.or_eq_false_iff.mp hd
  obtain ⟨v, sl, a, ha, r⟩ := S.va x _ hl
  refine hGG ?_
  clear hGG GG
  refine wpAny_Return_some (wpAny_Name (load_slot S.fn S.ns sl h2 ?_) h1)
  exact q _ s.heap s.toks ⟨v, rfl, S.fin (r.froz hp (S.oa_not ha) S.subX)⟩
end
end LW
namespace LW
section
variable {prog : Program} {w : World} {A : Around} {G : Heap} {B : Bs} {env : Env} {σ σ' : Sy} {h h' : Heap} {oa : OA} {m : Str → Option Value}

/-- when a place that holds no name is changed -/
theorem St.other {h1 h2 : Heap} {a0 : Addr} {t' : List (Addr × PV)} (S : St prog w B env σ h oa m) (k : Kp h h1) (hl : a0 ≠ env.locals) (hc : ∀ y ∈ cellsOf env, a0 ≠ y.2) (h0 : a0 ∈ ownA env oa σ.t)
    (kb : ∀ b o, b ≠ a0 → h1.get? b = some o → h2.get? b = some o) (ke : ∃ o, h2.get? a0 = some o) (ht : t'.map (·.1) = σ.t.map (·.1))
    (va : ∀ x lv, σ'.v.lookup x = some lv → ∃ v, Slot h2 env m x v ∧ LvS prog w h2 (Mu env B oa t') oa x v lv) (th : ∀ y ∈ t', OwnV prog w h2 (Mu env B oa t') y.1 (.ref y.1) y.2) :
    St prog w B env ⟨σ'.v, t'⟩ h2 oa m := by
  have k2 : ∀ b o, b ≠ a0 → h.get? b = some o → h2.get? b = some o := fun b o hb e => kb b o hb (k b o e)
  have eO : ownA env oa t' = ownA env oa σ.t := by unfold ownA; rw [ht]
  have eM : Mu env B oa t' = Mu env B oa σ.t := by unfold Mu; rw [eO]
  have kh : Kp (hid h (Mu env B oa σ.t)) (hid h2 (Mu env B oa σ.t)) := fun b o e => by
    rw [hid_get] at e ⊢
    exact ⟨k2 b o (fun e' => e.2 (e' ▸ mem_Mu h0)) e.1, e.2⟩
  refine ⟨S.fn, S.gl, S.bl, by rw [eM]; exact S.base.trans kh, fun a ha => ?_, ?_, ?_, S.nf, by rw [eO]; exact S.nd, by rw [eO]; exact S.ap, ?_, ?_, va, th⟩
  · obtain ⟨o, e1, e2⟩ := S.px a ha
    exact ⟨o, e1, k2 a o (fun e => S.ap a0 h0 (e ▸ ha)) e2⟩
  · refine LW.hideGoal fun GG hGG => ?_
    obtain ⟨o, es, ep, e, r⟩ := S.ns
    refine hGG ?_
    clear hGG GG
    exact ⟨o, es, ep, k2 _ _ (Ne.symm hl) e, r⟩
  · obtain ⟨o, e⟩ := S.sm
    by_cases hs : sysModules = a0
    · rw [hs]; exact ke
    · exact ⟨o, k2 _ _ hs e⟩
  · rw [eO]
    intro a ha
    by_cases e0 : a = a0
    · rw [e0]; exact ke
    · obtain ⟨o, ho⟩ := S.ex a ha; exact ⟨o, k2 _ _ e0 ho⟩
  · intro y hy
    refine LW.hideGoal fun GG hGG => ?_
    obtain ⟨v, o, e, r⟩ := S.ce y hy
    refine hGG ?_
    clear hGG GG
    exact ⟨v, o, k2 _ _ (Ne.symm (hc y hy)) e, r⟩

theorem St.slot {h1 h2 : Heap} {a0 : Addr} {y : Str} {v : Value} (S : St prog w B env σ h oa m) (k : Kp h h1) (hc : ∀ y ∈ cellsOf env, a0 ≠ y.2) (kb : ∀ b o, b ≠ a0 → h1.get? b = some o → h2.get? b = some o)
    (s : Slot h env m y v) : Slot h2 env m y v := by
  rcases s with ⟨hl, hv⟩ | ⟨hk, c, hcc, o, ho, hd⟩
  · exact .inl ⟨hl, hv⟩
  · rcases hk with hk | hk
    · exact .inr ⟨.inl hk, c, hcc, o, kb c o (Ne.symm (hc _ (mem_cellsOf hk hcc))) (k c o ho), hd⟩
    · exact (S.nf y hk).elim

theorem own_oa_th {t : List (Addr × PV)} (nd : (ownA env oa t).Nodup) : (oa.map (·.2)).Nodup ∧ (t.map (·.1)).Nodup ∧ ∀ x a, oa.lookup x = some a → ∀ z ∈ t, a ≠ z.1 := by
  unfold ownA at nd
  rw [List.nodup_cons, List.nodup_append, List.nodup_append] at nd
  exact ⟨nd.2.2.1.1, nd.2.2.1.2.1, fun x a e z hz => nd.2.2.1.2.2 a (List.mem_map.mpr ⟨_, lookup_mem e, rfl⟩) z.1 (List.mem_map.mpr ⟨z, hz, rfl⟩)⟩

/-- an own thing is changed -/
theorem St.upd {h1 h2 : Heap} {x : Str} {a : Addr} {v : Value} {p p' : PV} (S : St prog w B env σ h oa m) (k : Kp h h1) (hl : σ.v.lookup x = some (.ow p)) (sl : Slot h env m x v) (ha : oa.lookup x = some a)
    (kb : ∀ b o, b ≠ a → h1.get? b = some o → h2.get? b = some o) (new : OwnV prog w h2 (Mu env B oa σ.t) a v p') (ke : ∃ o, h2.get? a = some o) : St prog w B env ⟨(x, .ow p') :: σ.v, σ.t⟩ h2 oa m := by
  refine LW.hideGoal fun GG hGG => ?_
  obtain ⟨p1, p2, p3, p4⟩ := own_parts S.nd
  obtain ⟨q1, q2, q3⟩ := own_oa_th S.nd
  refine hGG ?_
  clear hGG GG
  have kh : Kp (hid h (Mu env B oa σ.t)) (hid h2 (Mu env B oa σ.t)) := fun b o e => by
    rw [hid_get] at e ⊢
    exact ⟨kb b o (fun e' => e.2 (e' ▸ mem_Mu (mem_own_oa ha))) (k b o e.1), e.2⟩
  refine S.other (σ' := ⟨(x, .ow p') :: σ.v, σ.t⟩) k (p3 x a ha).1 (p3 x a ha).2 (mem_own_oa ha) kb ke rfl (fun y lv e => ?_) fun z hz => (S.th z hz).other (Ne.symm (q3 x a ha z hz)) (fun b o hb e => kb b o hb (k b o e)) kh
  by_cases hy : y = x
  · subst hy
    simp only [List.lookup_cons, beq_self_eq_true] at e
    cases e
    exact ⟨v, S.slot k (p3 y a ha).2 kb sl, a, ha, new⟩
  · have e' : σ.v.lookup y = some lv := by simpa [List.lookup_cons, beq_false_of_ne hy] using e
    obtain ⟨v', s, r⟩ := S.va y lv e'
    refine ⟨v', S.slot k (p3 x a ha).2 kb s, ?_⟩
    cases lv with
    | im p => exact RepV.mono kh _ _ r
    | ow p =>
      obtain ⟨b, hb, r⟩ := r
      exact ⟨b, hb, r.other (fun e => hy (nodup_snd q1 (lookup_mem (e ▸ hb)) (lookup_mem ha))) (fun b o hb e => kb b o hb (k b o e)) kh⟩
/-- the first of the things is changed -/
theorem St.updTh {h1 h2 : Heap} {a : Addr} {p p' : PV} {t : List (Addr × PV)} (S : St prog w B env σ h oa m) (k : Kp h h1) (ht : σ.t = (a, p) :: t)
    (kb : ∀ b o, b ≠ a → h1.get? b = some o → h2.get? b = some o) (new : OwnV prog w h2 (Mu env B oa σ.t) a (.ref a) p') (ke : ∃ o, h2.get? a = some o) : St prog w B env ⟨σ.v, (a, p') :: t⟩ h2 oa m := by
  refine LW.hideGoal fun GG hGG => ?_
  obtain ⟨p1, p2, p3, p4⟩ := own_parts S.nd
  obtain ⟨q1, q2, q3⟩ := own_oa_th S.nd
  refine hGG ?_
  clear hGG GG
  have hm : (a, p) ∈ σ.t := by rw [ht]; exact List.mem_cons_self
  have kh : Kp (hid h (Mu env B oa σ.t)) (hid h2 (Mu env B oa σ.t)) := fun b o e => by
    rw [hid_get] at e ⊢
    exact ⟨kb b o (fun e' => e.2 (e' ▸ mem_Mu (mem_own_th hm))) (k b o e.1), e.2⟩
  have eM : Mu env B oa ((a, p') :: t) = Mu env B oa σ.t := by unfold Mu ownA; rw [ht]; rfl
  refine S.other (σ' := σ) k (p4 _ hm).1 (p4 _ hm).2 (mem_own_th hm) kb ke (by rw [ht]; rfl) (fun y lv e => ?_) fun z hz => ?_
  · rw [eM]
    obtain ⟨v', s, r⟩ := S.va y lv e
    refine ⟨v', S.slot k (p4 _ hm).2 kb s, ?_⟩
    cases lv with
    | im p => exact RepV.mono kh _ _ r
    | ow p =>
      obtain ⟨b, hb, r⟩ := r
      exact ⟨b, hb, r.other (q3 y b hb _ hm) (fun b o hb e => kb b o hb (k b o e)) kh⟩
  · rw [eM]
    rcases memC hz with rfl | hz
    · exact new
    · have hz' : z ∈ σ.t := by rw [ht]; exact List.mem_cons_of_mem _ hz
      refine (S.th z hz').other (fun e => ?_) (fun b o hb e => kb b o hb (k b o e)) kh
      rw [ht, List.map_cons, List.nodup_cons] at q2
      exact q2.1 (List.mem_map.mpr ⟨z, hz, e⟩)

/-- an own thing is not changed any more -/
theorem St.freeze {x : Str} {p : PV} (S : St prog w B env σ h oa m) (hl : σ.v.lookup x = some (.ow p)) (hp : ∀ l, p ≠ .itr l := by intro _; exact PV.noConfusion) :
    ∃ oa', St prog w B env ⟨(x, .im p) :: σ.v, σ.t⟩ h oa' m := by
  refine LW.hideGoal fun GG hGG => ?_
  obtain ⟨v, sl, a, ha, r⟩ := S.va x _ hl
  obtain ⟨q1, q2, q3⟩ := own_oa_th S.nd
  obtain ⟨p1, p2, p3, p4⟩ := own_parts S.nd
  refine hGG ?_
  clear hGG GG
  have sub : List.Sublist (oa.filter fun z => z.2 != a) oa := List.filter_sublist
  have sO := mem_own_sub (env := env) (t := σ.t) sub
  have sM : ∀ b ∈ Mu env B (oa.filter fun z => z.2 != a) σ.t, b ∈ Mu env B oa σ.t := fun b hb => by
    rcases List.mem_append.mp hb with hb | hb
    · exact List.mem_append_left _ hb
    · exact mem_Mu (sO b hb)
  have kh := Kp.hidSub h sM
  have hna : a ∉ Mu env B (oa.filter fun z => z.2 != a) σ.t := fun hm => by
    rcases List.mem_append.mp hm with hm | hm
    · exact S.ap a (mem_own_oa ha) hm
    · unfold ownA at hm
      rcases List.mem_cons.mp hm with e | hm
      · exact (p3 x a ha).1 e
      rcases List.mem_append.mp hm with hm | hm
      · obtain ⟨y, hy, e⟩ := List.mem_map.mp hm; exact (p3 x a ha).2 y hy e.symm
      rcases List.mem_append.mp hm with hm | hm
      · obtain ⟨y, hy, e⟩ := List.mem_map.mp hm
        have := (List.mem_filter.mp hy).2
        rw [e] at this; simp at this
      · obtain ⟨y, hy, e⟩ := List.mem_map.mp hm; exact q3 x a ha y hy e.symm
  have lk : ∀ y b, oa.lookup y = some b → b ≠ a → (oa.filter fun z => z.2 != a).lookup y = some b := fun y b e hb => by
    clear S r q1 q3 p3 sub sO sM kh hna ha sl
    induction oa with
    | nil => cases e
    | cons z l ih =>
      rw [List.lookup_cons] at e
      rw [List.filter_cons]
      cases hz : y == z.1 with
      | true =>
        rw [hz] at e; cases e
        have : (z.2 != a) = true := by simpa using hb
        rw [if_pos this, List.lookup_cons, hz]
      | false =>
        rw [hz] at e
        split
        · rw [List.lookup_cons, hz]; exact ih e
        · exact ih e
  refine ⟨oa.filter fun z => z.2 != a, { S with base := S.base.trans kh, nd := Nodup.sub_own S.nd sub, ap := fun b hb => S.ap b (sO b hb), ex := fun b hb => S.ex b (sO b hb), va := fun y lv e => ?_, th := fun z hz => (S.th z hz).less sM }⟩
  by_cases hy : y = x
  · subst hy
    simp only [List.lookup_cons, beq_self_eq_true] at e
    cases e
    exact ⟨v, sl, r.froz hp hna sM⟩
  · have e' : σ.v.lookup y = some lv := by simpa [List.lookup_cons, beq_false_of_ne hy] using e
    obtain ⟨v', s, r'⟩ := S.va y lv e'
    refine ⟨v', s, ?_⟩
    cases lv with
    | im p => exact RepV.mono kh _ _ r'
    | ow p =>
      obtain ⟨b, hb, r'⟩ := r'
      exact ⟨b, lk y b hb (fun e => hy (nodup_snd q1 (lookup_mem (e ▸ hb)) (lookup_mem ha))), r'.less sM⟩
theorem Ex.freeze {c : List Stmt} {out : Out} {x : Str} {p : PV} (hl : σ.v.lookup x = some (.ow p)) (hx : Ex prog w A G env ⟨(x, .im p) :: σ.v, σ.t⟩ c out) (hp : ∀ l, p ≠ .itr l := by intro _; exact PV.noConfusion) :
    Ex prog w A G env σ c out := .mk fun B s oa m Q E kg S q => by
  obtain ⟨oa', S'⟩ := S.freeze hl hp
  exact hx.run B s oa' m Q E kg S' q
end
end LW
namespace LW
section
variable {prog : Program} {w : World} {A : Around} {G : Heap} {B : Bs} {env : Env} {σ σ' : Sy} {h h' : Heap} {oa : OA} {m : Str → Option Value}

theorem PlainList.toL {a : Addr} {its : Array Value} (x : h.PlainList a its) : PlainL h a its := let ⟨n, e⟩ := x; ⟨_, n, e, rfl, rfl, rfl⟩

theorem RepVs.own {M : List Addr} {ps : List PV} {vs : List Value} {a : Addr} (hL : h.PlainList a vs.toArray) (r : RepVs prog w (hid h M) ps vs) : OwnV prog w h M a (.ref a) (.lst ps) := ⟨rfl, vs, hL, r⟩

theorem kb_of_sameBut {a : Addr} {h1 h2 : Heap} (hs : Heap.SameBut a h1 h2) : ∀ b o, b ≠ a → h1.get? b = some o → h2.get? b = some o := fun b o hb e => (hs.2 b hb).trans e

theorem Ex1.append {x : Str} {p0 apos pos pos' : Pos} {e : PySem.Expr} {ps : List PV} {p : PV} (hl : σ.v.lookup x = some (.ow (.lst ps))) (he : Ev prog w G A env σ e p) (hsz : ps.length ≤ sizeLine)
    (hd : ((x == ("__debug__" : Str)) || (x == ("__classdict__" : Str))) = false := by decide)
    (hfew : ((backTo pos (starEach [e] env)).all (fun x => !x.1) && (backToKw pos (keywordEach [] env)).all (fun x => x.1.isSome)
      && decide (([e] : List PySem.Expr).length + ([] : List Keyword).length + (if ([] : List Keyword).isEmpty then 0 else 1) < 30)) = true := by rfl) (hline : (apos.endLine == pos.line) = true := by rfl)
    (htrees : backTo pos (starEach [e] env) = [(false, eval e env)] := by rfl) (hi : interactive env = false := by rfl)
    (hs : swapsWith (.Call (.Attribute (.Name x p0) "append" apos) [e] [] pos) none pos'.line env = pure false := by rfl) :
    Ex1 prog w A G env σ (.Expr (.Call (.Attribute (.Name x p0) "append" apos) [e] [] pos) pos') (.nx ⟨(x, .ow (.lst (ps ++ [p]))) :: σ.v, σ.t⟩) := .mk fun B s oa m Q E kg S q => by
  refine LW.hideGoal fun GG hGG => ?_
  obtain ⟨h1, h2⟩ := Bool.or_eq_false_iff.mp hd
  obtain ⟨v, sl, a, ha, rfl, vs, hL, r⟩ := S.va x _ hl
  refine hGG ?_
  clear hGG GG
  refine wpAny_Expr (wpAny_Call_append rfl hfew hline htrees (wpAny_Name (load_slot S.fn S.ns sl h2 ⟨a, vs.toArray, rfl, PlainList.toL hL, ?_⟩) h1)) hi hs
  refine he.run s _ m _ _ (S.vars kg) fun y h₁ t₁ k₁ ry => ?_
  refine wpAny_list_append_plain (hL.at fun o => k₁ a o) (fun h₂ hL₂ hs => ?_) (by rw [List.size_toArray, r.length]; exact hsz)
  have haM := mem_Mu (B := B) (mem_own_oa (env := env) (t := σ.t) ha)
  have kh : Kp (hid h₁ (Mu env B oa σ.t)) (hid h₂ (Mu env B oa σ.t)) := fun b o e => by
    rw [hid_get] at e ⊢
    exact ⟨kb_of_sameBut hs b o (fun e' => e.2 (e' ▸ haM)) e.1, e.2⟩
  refine q _ h₂ t₁ ⟨rfl, oa, m, S.upd k₁ hl sl ha (kb_of_sameBut hs) ⟨rfl, vs ++ [y], by simpa using hL₂, ?_⟩ (by obtain ⟨n, e⟩ := hL₂; exact ⟨_, e⟩)⟩
  exact (RepVs.mono ((k₁.hid _).trans kh) _ _ r).append (RepVs.one (RepV.mono kh _ _ ry))

theorem getMethod_call {o : PySem.Expr} {name : Str} {apos pos : Pos} {e : PySem.Expr} {Q : Value → Shared → Prop} {E : Value → Shared → Prop} {s : Shared} (hbase : attributeBase o name env (eval o env) = eval o env) (hline : (apos.endLine == pos.line) = true)
    (hs : starEach [e] env = [(false, eval e env)]) (h : wpAny (model prog w) A (eval o env) (fun ov s₁ => MethodOnS prog w A E name ov pos [(false, eval e env)] Q s₁) E s) :
    wpAny (model prog w) A (eval (.Call (.Attribute o name apos) [e] [] pos) env) Q E s := Call_method1 hbase hs hline h

theorem Ex1.extend {x : Str} {p0 apos pos pos' : Pos} {e : PySem.Expr} {ps qs : List PV} (hl : σ.v.lookup x = some (.ow (.lst ps))) (he : Ev prog w G A env σ e (.lst qs)) (hsz : ps.length + qs.length ≤ sizeLine)
    (hd : ((x == ("__debug__" : Str)) || (x == ("__classdict__" : Str))) = false := by decide) (hline : (apos.endLine == pos.line) = true := by rfl)
    (hs1 : starEach [e] env = [(false, eval e env)] := by rfl) (hi : interactive env = false := by rfl)
    (hs : swapsWith (.Call (.Attribute (.Name x p0) "extend" apos) [e] [] pos) none pos'.line env = pure false := by rfl) :
    Ex1 prog w A G env σ (.Expr (.Call (.Attribute (.Name x p0) "extend" apos) [e] [] pos) pos') (.nx ⟨(x, .ow (.lst (ps ++ qs))) :: σ.v, σ.t⟩) := .mk fun B s oa m Q E kg S q => by
  refine LW.hideGoal fun GG hGG => ?_
  obtain ⟨h1, h2⟩ := Bool.or_eq_false_iff.mp hd
  obtain ⟨v, sl, a, ha, rfl, vs, hL, r⟩ := S.va x _ hl
  obtain ⟨n, hLo⟩ := id hL
  refine hGG ?_
  clear hGG GG
  refine wpAny_Expr (Call_method1 rfl hs1 hline (wpAny_Name (load_slot S.fn S.ns sl h2 ?_) h1)) hi hs
  refine ⟨"list", "list.extend", F.plainAttrs_list, F.slot_list_extend, F.type_list_extend, ⟨_, hLo, rfl⟩, fun a' e' => by cases e'; exact ⟨_, hLo, rfl⟩, ?_⟩
  refine P.extend_list (he.run s _ m _ _ (S.vars kg) fun y h₁ t₁ k₁ ry => ?_)
  refine LW.hideGoal fun GG hGG => ?_
  obtain ⟨b, us, rfl, ⟨n2, hb'⟩, ru⟩ := ry
  refine hGG ?_
  clear hGG GG
  have hb : h₁.get? b = _ := (hid_get.mp hb').1
  have e1 : vs.toArray.size = ps.length := by rw [List.size_toArray, r.length]
  have e2 : us.toArray.size = qs.length := by rw [List.size_toArray, ru.length]
  refine ⟨b, vs.toArray, us.toArray, n, n2, by omega, by omega, ?_, rfl, k₁ _ _ hLo, hb, ?_⟩
  · rw [e1, e2]
    simp only [Bool.and_eq_true, not_and]
    intro _ hc
    unfold Builtin.List.listTooLong at hc
    have := of_decide_eq_true hc
    omega
  have haM := mem_Mu (B := B) (mem_own_oa (env := env) (t := σ.t) ha)
  generalize hh2 : h₁.update a (Obj.mapSeq fun xs => xs ++ us.toArray) = h₂
  have hs : Heap.SameBut a h₁ h₂ := hh2 ▸ Heap.SameBut.update ..
  have hL₂ : h₂.get? a = some _ := hh2 ▸ Heap.get?_update_self (Obj.mapSeq fun xs => xs ++ us.toArray) (k₁ _ _ hLo) rfl
  have kh : Kp (hid h₁ (Mu env B oa σ.t)) (hid h₂ (Mu env B oa σ.t)) := fun b o e => by
    rw [hid_get] at e ⊢
    exact ⟨kb_of_sameBut hs b o (fun e' => e.2 (e' ▸ haM)) e.1, e.2⟩
  refine q _ h₂ t₁ ⟨rfl, oa, m, S.upd k₁ hl sl ha (kb_of_sameBut hs) ⟨rfl, vs ++ us, ?_, ?_⟩ ⟨_, hL₂⟩⟩
  · have em : ∃ n', (Obj.mapSeq (fun xs => xs ++ us.toArray) { cls := .type "list", data := .seq vs.toArray n } : Obj) = { cls := .type "list", data := .seq (vs ++ us).toArray n' } := by
      unfold Obj.mapSeq; simp
    obtain ⟨n', em⟩ := em
    exact ⟨n', hL₂.trans (congrArg some em)⟩
  · exact (RepVs.mono ((k₁.hid _).trans kh) _ _ r).append (RepVs.mono kh _ _ ru)

theorem RepKs.mem {F : Heap} : ∀ {ps : List (Str × PV)} {kvs : List (Str × Value)}, RepKs prog w F ps kvs → kvs.map (·.1) = ps.map (·.1)
  | [], _, h => by obtain rfl : _ = [] := h; rfl
  | (x, p) :: ps, _, ⟨v, r, e, _, t⟩ => by subst e; rw [List.map_cons, List.map_cons, RepKs.mem t]
/-- a dict with one more text, or with a text's value changed -/
noncomputable def dput (ps : List (Str × PV)) (x : Str) (p : PV) : List (Str × PV) := if ps.any (fun y => y.1 = x) then ps.map (fun y => if y.1 = x then (y.1, p) else y) else ps ++ [(x, p)]
theorem RepKs.any {F : Heap} : ∀ {ps : List (Str × PV)} {kvs : List (Str × Value)}, RepKs prog w F ps kvs → ∀ x : Str, kvs.any (fun y => y.1 = x) = ps.any (fun y => y.1 = x)
  | [], _, h, x => by obtain rfl : _ = [] := h; rfl
  | (y, p) :: ps, _, ⟨v, r, e, _, t⟩, x => by subst e; rw [List.any_cons, List.any_cons, RepKs.any t x]
theorem RepKs.change {F : Heap} {x : Str} {p : PV} {v : Value} (rv : RepV prog w F p v) : ∀ {ps : List (Str × PV)} {kvs : List (Str × Value)}, RepKs prog w F ps kvs →
    RepKs prog w F (ps.map (fun y => if y.1 = x then (y.1, p) else y)) (kvs.map (fun y => if y.1 = x then (y.1, v) else y))
  | [], _, h => by obtain rfl : _ = [] := h; exact (rfl : ([] : List (Str × Value)) = [])
  | (y, q) :: ps, _, ⟨u, r, e, hu, t⟩ => by
    subst e
    rw [List.map_cons, List.map_cons]
    by_cases hy : y = x
    · subst hy; simp only [if_true]; exact ⟨v, _, rfl, rv, RepKs.change rv t⟩
    · simp only [if_neg hy]; exact ⟨u, _, rfl, hu, RepKs.change rv t⟩
theorem RepKs.snoc {F : Heap} {x : Str} {p : PV} {v : Value} (rv : RepV prog w F p v) : ∀ {ps : List (Str × PV)} {kvs : List (Str × Value)}, RepKs prog w F ps kvs → RepKs prog w F (ps ++ [(x, p)]) (kvs ++ [(x, v)])
  | [], _, h => by obtain rfl : _ = [] := h; exact ⟨v, [], rfl, rv, rfl⟩
  | (y, q) :: ps, _, ⟨u, r, e, hu, t⟩ => by subst e; exact ⟨u, _, rfl, hu, RepKs.snoc rv t⟩
theorem RepKs.stored {F : Heap} {x : Str} {p : PV} {v : Value} {ps : List (Str × PV)} {kvs : List (Str × Value)} (r : RepKs prog w F ps kvs) (rv : RepV prog w F p v) : RepKs prog w F (dput ps x p) (PySem.stored kvs x v) := by
  unfold dput PySem.stored
  rw [RepKs.any r x]
  split
  · exact RepKs.change rv r
  · exact RepKs.snoc rv r
theorem RepKs.length {F : Heap} {ps : List (Str × PV)} {kvs : List (Str × Value)} (r : RepKs prog w F ps kvs) : kvs.length = ps.length := by
  have := congrArg List.length (RepKs.mem r); simpa using this

theorem Ex1.setItem {x : Str} {p0 pos' pos : Pos} {i value : PySem.Expr} {ps : List (Str × PV)} {k : Str} {p : PV} (hl : σ.v.lookup x = some (.ow (.dct ps))) (hv : Ev prog w G A env σ value p) (hi : Ev prog w G A env σ i (.str k)) (hsz : ps.length ≤ sizeLine)
    (hd : ((x == ("__debug__" : Str)) || (x == ("__classdict__" : Str))) = false := by decide) (hs : swapsWith value (some (.Subscript (.Name x p0) i pos')) pos.line env = pure false := by rfl) :
    Ex1 prog w A G env σ (.Assign [.Subscript (.Name x p0) i pos'] value pos) (.nx ⟨(x, .ow (.dct (dput ps k p))) :: σ.v, σ.t⟩) := .mk fun B s oa m Q E kg S q => by
  refine LW.hideGoal fun GG hGG => ?_
  obtain ⟨h1, h2⟩ := Bool.or_eq_false_iff.mp hd
  obtain ⟨v, sl, a, ha, rfl, hsys, kvs, hD, r⟩ := S.va x _ hl
  refine hGG ?_
  clear hGG GG
  refine wpAny_Assign_Subscript (hv.run s _ m _ _ (S.vars kg) fun y h₁ t₁ k₁ ry => wpAny_Name (load_slot S.fn (S.keeps k₁).ns (sl.keeps k₁) h2 (hi.run { s with heap := h₁, toks := t₁ } _ m _ _ ((S.keeps k₁).vars kg) fun z h₂ t₂ k₂ rz => ?_)) h1) hs
  obtain ⟨t, rfl⟩ := rz
  have hD2 : h₂.DictOf (PySem.strKind prog w) a kvs := hD.at fun o e => k₂ a o (k₁ a o e)
  refine wpAny_setItem_pairs (knd := PySem.strKind prog w) (strKind_is prog w k t) hD2 (fun h₃ hD₃ hs => ?_) (by rw [RepKs.length r]; exact hsz)
  have haM := mem_Mu (B := B) (mem_own_oa (env := env) (t := σ.t) ha)
  have kh : Kp (hid h₂ (Mu env B oa σ.t)) (hid h₃ (Mu env B oa σ.t)) := fun b o e => by
    rw [hid_get] at e ⊢
    exact ⟨kb_of_sameBut hs b o (fun e' => e.2 (e' ▸ haM)) e.1, e.2⟩
  have kk := k₁.trans k₂
  refine q _ h₃ _ ⟨rfl, oa, m, S.upd kk hl sl ha (kb_of_sameBut hs) ⟨rfl, hsys, _, hD₃, ?_⟩ (by obtain ⟨o, es, ep, e, _⟩ := hD₃; exact ⟨o, e⟩)⟩
  exact RepKs.stored (RepKs.mono ((kk.hid _).trans kh) _ _ r) (RepV.mono ((k₂.hid _).trans kh) _ _ ry)
end
end LW
namespace LW

structure Tgt (prog : Program) (w : World) (A : Around) (G : Heap) (env : Env) (σ : Sy) (tg : PySem.Expr) (p : PV) (σ' : Sy) : Prop where
  run :
    ∀ (B : Bs) (s : Shared) (oa : OA) (m : Str → Option Value) (v : Value) (Q : Unit → Shared → Prop) (E : Value → Shared → Prop), Kp G B.H0 → St prog w B env σ s.heap oa m → RepV prog w (hid s.heap (Mu env B oa σ.t)) p v →
      (∀ h' tk, (∃ oa' m', St prog w B env σ' h' oa' m') → Q () { s with heap := h', toks := tk }) → wpAny (model prog w) A (assign tg env v) Q E s

inductive Turns (prog : Program) (w : World) (A : Around) (G : Heap) (env : Env) (tg : PySem.Expr) (body : List Stmt) (xs : List PV) : Nat → Sy → Out → Prop where
  | done {σ : Sy} : Turns prog w A G env tg body xs xs.length σ (.nx σ)
  | turn {i : Nat} {p : PV} {σ σ₁ σ₂ : Sy} {out : Out} (hx : xs[i]? = some p) (ht : Tgt prog w A G env σ tg p σ₁) (hb : Ex prog w A G env σ₁ body (.nx σ₂)) (hr : Turns prog w A G env tg body xs (i + 1) σ₂ out) : Turns prog w A G env tg body xs i σ out
  | ret {i : Nat} {p q : PV} {t : List (Addr × PV)} {σ σ₁ : Sy} (hx : xs[i]? = some p) (ht : Tgt prog w A G env σ tg p σ₁) (hb : Ex prog w A G env σ₁ body (.rt q t)) : Turns prog w A G env tg body xs i σ (.rt q t)

inductive WTurns (prog : Program) (w : World) (A : Around) (G : Heap) (env : Env) (test : PySem.Expr) (body : List Stmt) : Nat → Sy → Out → Prop where
  | done {σ : Sy} (ht : Tst prog w G A env σ test false) : WTurns prog w A G env test body 0 σ (.nx σ)
  | turn {n : Nat} {σ σ₁ : Sy} {out : Out} (ht : Tst prog w G A env σ test true) (hb : Ex prog w A G env σ body (.nx σ₁)) (hr : WTurns prog w A G env test body n σ₁ out) : WTurns prog w A G env test body (n + 1) σ out

section
variable {prog : Program} {w : World} {A : Around} {G : Heap} {B : Bs} {env : Env} {σ σ' : Sy} {h h' : Heap} {oa : OA} {m : Str → Option Value}

theorem Tgt.name {x : Str} {px : Pos} {p : PV} (hx : storB env x = true := by rfl) : Tgt prog w A G env σ (.Name x px) p ⟨(x, .im p) :: σ.v, σ.t⟩ := .mk fun B s oa m v Q E kg S r q =>
  wpAny_assign_Name (storeR (lv := .im p) S Kp.rfl hx r q)

theorem names_in_order : ∀ (ns : List (Str × Pos)) (ps : List PV) (vs : List Value) (σ : Sy) (s : Shared) (oa : OA) (m : Str → Option Value) (Q : Unit → Shared → Prop) (E : Value → Shared → Prop), St prog w B env σ s.heap oa m → ps.length = ns.length →
    RepVs prog w (hid s.heap (Mu env B oa σ.t)) ps vs → (∀ x ∈ ns, storB env x.1 = true) →
    (∀ h' tk, (∃ oa' m', St prog w B env ⟨(ns.zip ps).foldl (fun l y => (y.1.1, .im y.2) :: l) σ.v, σ.t⟩ h' oa' m') → Q () { s with heap := h', toks := tk }) →
    wpAny (model prog w) A (assignInOrder (ns.map fun x => assign (.Name x.1 x.2) env) vs) Q E s
  | [], ps, vs, σ, s, oa, m, Q, E, S, hl, r, hx, q => by
    obtain rfl : ps = [] := List.eq_nil_of_length_eq_zero hl
    obtain rfl : vs = [] := r
    exact wpAny_pure (q s.heap s.toks ⟨oa, m, S⟩)
  | n :: ns, [], vs, σ, s, oa, m, Q, E, S, hl, r, hx, q => by cases hl
  | n :: ns, p :: ps, vs, σ, s, oa, m, Q, E, S, hl, r, hx, q => by
    refine LW.hideGoal fun GG hGG => ?_
    obtain ⟨v, vs', rfl, rv, rr⟩ := r
    refine hGG ?_
    clear hGG GG
    refine assignInOrder_cons (wpAny_assign_Name (storeRk (lv := .im p) S Kp.rfl (hx n List.mem_cons_self) rv fun h' tk oa' m' S' kk => ?_))
    exact names_in_order ns ps vs' ⟨(n.1, .im p) :: σ.v, σ.t⟩ { s with heap := h', toks := tk } oa' m' Q E S' (by simpa using hl) (RepVs.mono (kk p rfl) _ _ rr) (fun x hx' => hx x (List.mem_cons_of_mem _ hx')) q

theorem Tgt.names {elts : List PySem.Expr} {k₀ : Nat} {pos : Pos} (hh : A.handled = none) (ns : List (Str × Pos)) (ps : List PV) (he : elts = ns.map fun x => .Name x.1 x.2) (hl : ps.length = ns.length) (hx : ∀ x ∈ ns, storB env x.1 = true) :
    Tgt prog w A G env σ (.Tuple elts k₀ pos) (.tup ps) ⟨(ns.zip ps).foldl (fun l y => (y.1.1, .im y.2) :: l) σ.v, σ.t⟩ := .mk fun B s oa m v Q E kg S r q => by
  refine LW.hideGoal fun GG hGG => ?_
  obtain ⟨a, vs, rfl, hT, r⟩ := r
  refine hGG ?_
  clear hGG GG
  subst he
  have ea : ∀ ns : List (Str × Pos), assignEach (ns.map fun x => PySem.Expr.Name x.1 x.2) env = ns.map fun x => (false, assign (.Name x.1 x.2) env) := fun ns => by
    induction ns with
    | nil => rfl
    | cons n ns ih => rw [List.map_cons, List.map_cons, ← ih]; rfl
  have hT' : IsTup s.heap a vs.toArray := hT.keeps (Kp.ofHid _ _)
  refine assign_Tuple_tuple hh hT' (by rw [ea]; simp [r.length, hl]) (by rw [ea]; simp) fun h₁ hs => ?_
  have k1 : Kp s.heap h₁ := fun b o e => hs b o (Nat.ne_of_lt (Heap.lt_size e)) e
  rw [ea, List.map_map]
  exact names_in_order (A := A) ns ps vs σ { s with heap := h₁ } oa m Q E (S.keeps k1) hl (RepVs.mono (k1.hid _) _ _ r) hx q
theorem Tgt.two {x y : Str} {px py pos : Pos} {k₀ : Nat} {p q : PV} (hh : A.handled = none) (hx : storB env x = true := by rfl) (hy : storB env y = true := by rfl) :
    Tgt prog w A G env σ (.Tuple [.Name x px, .Name y py] k₀ pos) (.tup [p, q]) ⟨(y, .im q) :: (x, .im p) :: σ.v, σ.t⟩ :=
  Tgt.names hh [(x, px), (y, py)] [p, q] rfl rfl (by intro z hz; simp at hz; rcases hz with rfl | rfl; exact hx; exact hy)
theorem Tgt.three {x y z : Str} {px py pz pos : Pos} {k₀ : Nat} {p q r : PV} (hh : A.handled = none) (hx : storB env x = true := by rfl) (hy : storB env y = true := by rfl) (hz : storB env z = true := by rfl) :
    Tgt prog w A G env σ (.Tuple [.Name x px, .Name y py, .Name z pz] k₀ pos) (.tup [p, q, r]) ⟨(z, .im r) :: (y, .im q) :: (x, .im p) :: σ.v, σ.t⟩ :=
  Tgt.names hh [(x, px), (y, py), (z, pz)] [p, q, r] rfl rfl (by intro u hu; simp at hu; rcases hu with rfl | rfl | rfl; exact hx; exact hy; exact hz)
end
end LW
namespace LW
section
variable {prog : Program} {w : World} {A : Around} {G : Heap} {B B' : Bs} {env : Env} {σ σ' : Sy} {h h' : Heap} {oa : OA} {m : Str → Option Value}

theorem OwnV.move {M M' : List Addr} {a : Addr} {v : Value} {p : PV} (x : OwnV prog w h M a v p) (k : ∀ o, h.get? a = some o → h'.get? a = some o) (kh : Kp (hid h M) (hid h' M')) : OwnV prog w h' M' a v p := by
  cases p <;> try exact x
  · obtain ⟨e, vs, a1, a2⟩ := x; exact ⟨e, vs, a1.at k, RepVs.mono kh _ _ a2⟩
  · obtain ⟨e, hs, vs, ⟨o, es, ep, ho, a1⟩, a2⟩ := x; exact ⟨e, hs, vs, ⟨o, es, ep, k _ ho, a1⟩, RepKs.mono kh _ _ a2⟩
  · obtain ⟨i, vs, e, u, a1, a2⟩ := x; exact ⟨i, vs, e, u.mono kh, a1.at k, RepVs.mono kh _ _ a2⟩
  · obtain ⟨e, l, vs, n, a1, a2, a3⟩ := x; exact ⟨e, l, vs, n, a1.at k, a2.at fun o => kh _ o, RepVs.mono kh _ _ a3⟩

/-- what is not the frame's own changes, or what it stands on -/
theorem St.move (S : St prog w B env σ h oa m) (k : ∀ b ∈ ownA env oa σ.t, ∀ o, h.get? b = some o → h'.get? b = some o) (kh : Kp (hid h (Mu env B oa σ.t)) (hid h' (Mu env B' oa σ.t))) (base : Kp B'.H0 (hid h' (Mu env B' oa σ.t)))
    (px : ∀ a ∈ B'.X, ∃ o, B'.HX.get? a = some o ∧ h'.get? a = some o) (ap : ∀ a ∈ ownA env oa σ.t, a ∉ B'.X) (sm : ∃ o, h'.get? sysModules = some o) : St prog w B' env σ h' oa m where
  fn := S.fn
  gl := S.gl
  bl := S.bl
  base := base
  px := px
  ns := S.ns.at' fun o e => k _ List.mem_cons_self o e
  sm := sm
  nf := S.nf
  nd := S.nd
  ap := ap
  ex := fun a ha => let ⟨o, e⟩ := S.ex a ha; ⟨o, k a ha o e⟩
  ce := fun y hy => let ⟨v, o, e, r⟩ := S.ce y hy; ⟨v, o, k _ (mem_own_ce hy) o e, r⟩
  va := fun x lv e => by
    obtain ⟨v, s, r⟩ := S.va x lv e
    refine ⟨v, ?_, ?_⟩
    · rcases s with s | ⟨hk, c, hc, o, ho, hd⟩
      · exact .inl s
      · rcases hk with hk | hk
        · exact .inr ⟨.inl hk, c, hc, o, k _ (mem_own_ce (mem_cellsOf hk hc)) o ho, hd⟩
        · exact (S.nf x hk).elim
    · cases lv with
      | im p => exact RepV.mono kh _ _ r
      | ow p => obtain ⟨a, ha, r⟩ := r; exact ⟨a, ha, r.move (k a (mem_own_oa ha)) kh⟩
  th := fun y hy => (S.th y hy).move (k _ (mem_own_th hy)) kh

theorem mu_append {wr : List Addr} {H1 HX : Heap} {t : List (Addr × PV)} : Mu env ⟨H1, wr ++ B.X, HX⟩ oa t = wr ++ Mu env B oa t := by unfold Mu; rw [List.append_assoc]

theorem Post.nx_ok {f : Flow} (P : Post prog w B env h (.nx σ) f) : f = .next ∧ ∃ oa m, St prog w B env σ h oa m := P

theorem for_rule {tg iter : PySem.Expr} {body : List Stmt} {pos : Pos} {xs : List PV} {out : Out} (hi : It prog w G A env σ True iter tg xs) (ht : Turns prog w A G env tg body xs 0 σ out)
    (hs : ∀ x, foldedSetIterable iter env x = pure x := by intro _; rfl) : Ex1 prog w A G env σ (.For tg iter body [] pos) out := .mk fun B s oa m Q E kg S q => by
  refine wpAny_For (hi.run s _ m _ _ (S.vars kg) fun I fp wr inv mid h0 tk0 k0 W i0 fr hfp => ?_) hs
  have hX : ∀ a ∈ B.X, a ∉ wr := fun a ha hw => by obtain ⟨o, _, e⟩ := S.px a ha; rw [fr a hw] at e; cases e
  generalize hH1 : hid h0 (wr ++ Mu env B oa σ.t) = H1 at W
  have kH0 : Kp B.H0 H1 := hH1 ▸ S.base.trans (Kp.hidFreshs k0 fr _)
  have kgH : Kp G H1 := kg.trans kH0
  have hfp1 : ∀ b ∈ fp, b ∈ wr ∨ ∃ o, H1.get? b = some o := fun b hb => by
    rcases hfp trivial b hb with hw | hM
    · exact .inl hw
    · by_cases hw : b ∈ wr
      · exact .inl hw
      · obtain ⟨o, ho⟩ := W.live 0 h0 i0 b hb
        refine .inr ⟨o, ?_⟩
        rw [← hH1, hid_get]
        exact ⟨ho, fun hm => (List.mem_append.mp hm).elim hw hM⟩
  -- the loop's invariant
  let Inv : Nat → Shared → Prop := fun n s' => ∃ i σi h tk oa m, s' = { s with heap := h, toks := tk } ∧ n + i = xs.length + 1 ∧ St prog w ⟨H1, wr ++ B.X, h⟩ env σi h oa m ∧ (∀ a ∈ B.X, ∃ o, B.HX.get? a = some o ∧ h.get? a = some o) ∧ inv i h ∧
    Turns prog w A G env tg body xs i σi out
  have start : Inv (xs.length + 1) { s with heap := h0, toks := tk0 } := by
    have px0 : ∀ a ∈ B.X, ∃ o, B.HX.get? a = some o ∧ h0.get? a = some o := fun a ha => let ⟨o, e1, e2⟩ := S.px a ha; ⟨o, e1, k0 a o e2⟩
    refine ⟨0, σ, h0, tk0, oa, m, rfl, rfl, S.move (fun b _ o e => k0 b o e) ?_ ?_ ?_ ?_ ?_, px0, i0, ht⟩
    · rw [mu_append]; exact Kp.hidFreshs k0 fr _
    · rw [mu_append]; exact hH1 ▸ Kp.rfl
    · intro a ha
      rcases List.mem_append.mp ha with hw | hx
      · obtain ⟨o, ho⟩ := W.live 0 h0 i0 a (W.sub a hw); exact ⟨o, ho, ho⟩
      · obtain ⟨o, _, e⟩ := px0 a hx; exact ⟨o, e, e⟩
    · intro a ha hm
      rcases List.mem_append.mp hm with hw | hx
      · obtain ⟨o, e⟩ := S.ex a ha; rw [fr a hw] at e; cases e
      · exact S.ap a ha hx
    · obtain ⟨o, e⟩ := S.sm; exact ⟨o, k0 _ _ e⟩
  -- back to what the frame stands on
  have back : ∀ {σ' : Sy} {h h₂ : Heap} {oa : OA} {m : Str → Option Value}, St prog w ⟨H1, wr ++ B.X, h₂⟩ env σ' h oa m → (∀ a ∈ B.X, ∃ o, B.HX.get? a = some o ∧ h.get? a = some o) →
      ∀ h', (∀ b o, b ∉ wr → h.get? b = some o → h'.get? b = some o) → St prog w B env σ' h' oa m := by
    intro σ' h h₂ oa m S' px h' k
    have ap' : ∀ a ∈ ownA env oa σ'.t, a ∉ wr := fun a ha hw => S'.ap a ha (List.mem_append_left _ hw)
    have kh : Kp (hid h (Mu env ⟨H1, wr ++ B.X, h₂⟩ oa σ'.t)) (hid h' (Mu env B oa σ'.t)) := by
      rw [mu_append]
      exact (Kp.outside k).trans (Kp.hidSub h' fun b hb => List.mem_append_right _ hb)
    refine S'.move (fun b hb o e => k b o (ap' b hb) e) kh ((kH0.trans S'.base).trans kh) (fun a ha => ?_) (fun a ha hx => S'.ap a ha (List.mem_append_right _ hx)) ?_
    · obtain ⟨o, e1, e2⟩ := px a ha; exact ⟨o, e1, k a o (hX a ha) e2⟩
    · obtain ⟨o, e⟩ := S.sm
      have e0 := k0 _ _ e
      by_cases hw : sysModules ∈ wr
      · rw [fr _ hw] at e; cases e
      · by_cases hM : sysModules ∈ Mu env B oa σ'.t
        · rcases List.mem_append.mp hM with hx | ho
          · obtain ⟨o', _, e'⟩ := px _ hx; exact ⟨o', k _ _ hw e'⟩
          · obtain ⟨o', e'⟩ := S'.ex _ ho; exact ⟨o', k _ _ hw e'⟩
        · obtain ⟨o', e'⟩ := S'.sm
          exact ⟨o', k _ _ hw e'⟩
  refine codeAny_forLoop_any Inv ?_ _ start
  rintro n s' hRR
  refine LW.hideGoal fun GG hGG => ?_
  obtain ⟨i, σi, h, tk, oai, mi, rfl, hn, Si, px, hinv, T⟩ := hRR
  refine hGG ?_
  clear hGG GG
  have exM : ∀ a ∈ B.X ++ ownA env oai σi.t, ∃ o, h.get? a = some o := fun a ha => Si.exM a (by
    rw [mu_append]; exact List.mem_append_right _ ha)
  have baseI : Kp H1 (hid h (wr ++ (B.X ++ ownA env oai σi.t))) := by have := Si.base; rw [mu_append] at this; exact this
  -- one turn's beginning
  have next : ∀ {p : PV} {σ₁ : Sy} {bout : Out}, xs[i]? = some p → Tgt prog w A G env σi tg p σ₁ → Ex prog w A G env σ₁ body bout → ∀ (Qt : Flow → Shared → Prop) (Et : Value → Shared → Prop) (K : Option Value → Shared → Prop),
      (∀ f h₂ h₃ tk', Post prog w ⟨H1, wr ++ B.X, h₂⟩ env h₃ bout f → (∀ a ∈ B.X, ∃ o, B.HX.get? a = some o ∧ h₃.get? a = some o) → inv (i + 1) h₃ → (∀ a ∈ wr, ∃ o, h₃.get? a = some o) → Qt f { s with heap := h₃, toks := tk' }) →
      (∀ v s₁, wpAny (model prog w) A (letOwnedTupleGo tg (.ref I) v) (fun _ s₁' => wpAny (model prog w) A (assign tg env v) (fun _ s₂ => wpAny (model prog w) A (execs body env) Qt Et s₂) Et s₁') Et s₁ → K (some v) s₁) →
      wpAny (model prog w) A (pyNext (.ref I)) K Et { s with heap := h, toks := tk } := by
    intro p σ₁ bout hx htg hb Qt Et K hq hK
    refine W.item i p { s with heap := h, toks := tk } (B.X ++ ownA env oai σi.t) _ _ hx hinv exM baseI fun v h₁ t₁ rv hmid k1 => hK _ _ ?_
    refine W.go i v { s with heap := h₁, toks := t₁ } _ _ hmid fun h₂ hinv2 k2 => ?_
    have k12 : ∀ b o, b ∉ wr → h.get? b = some o → h₂.get? b = some o := fun b o hb e => k2 b o hb (k1 b o hb e)
    have px2 : ∀ a ∈ B.X, ∃ o, B.HX.get? a = some o ∧ h₂.get? a = some o := fun a ha => let ⟨o, e1, e2⟩ := px a ha; ⟨o, e1, k12 a o (hX a ha) e2⟩
    have kh : Kp (hid h (Mu env ⟨H1, wr ++ B.X, h⟩ oai σi.t)) (hid h₂ (Mu env ⟨H1, wr ++ B.X, h₂⟩ oai σi.t)) := by
      rw [mu_append, mu_append]; exact Kp.outside k12
    have S2 : St prog w ⟨H1, wr ++ B.X, h₂⟩ env σi h₂ oai mi := by
      refine Si.move (fun b hb o e => k12 b o (fun hw => Si.ap b hb (List.mem_append_left _ hw)) e) kh (Si.base.trans kh) (fun a ha => ?_) Si.ap ?_
      · rcases List.mem_append.mp ha with hw | hx
        · obtain ⟨o, ho⟩ := W.live (i + 1) h₂ hinv2 a (W.sub a hw); exact ⟨o, ho, ho⟩
        · obtain ⟨o, _, e⟩ := px2 a hx; exact ⟨o, e, e⟩
      · obtain ⟨o, e⟩ := S.sm
        by_cases hw : sysModules ∈ wr
        · rw [fr _ hw] at e; cases e
        · obtain ⟨o', e'⟩ := Si.sm; exact ⟨o', k12 _ _ hw e'⟩
    have rv2 : RepV prog w (hid h₂ (Mu env ⟨H1, wr ++ B.X, h₂⟩ oai σi.t)) p v := by
      rw [mu_append]; exact RepV.mono (Kp.outside k2) _ _ rv
    refine htg.run ⟨H1, wr ++ B.X, h₂⟩ { s with heap := h₂, toks := t₁ } oai mi v _ _ kgH S2 rv2 fun h₃ t₃ hS3 => ?_
    obtain ⟨oa3, m3, S3⟩ := hS3
    refine hb.run ⟨H1, wr ++ B.X, h₂⟩ { s with heap := h₃, toks := t₃ } oa3 m3 _ _ kgH S3 fun f h₄ t₄ P => ?_
    have base4 : Kp H1 h₄ ∧ ∀ a ∈ wr ++ B.X, ∃ o, h₂.get? a = some o ∧ h₄.get? a = some o := by
      cases bout with
      | nx σ' => obtain ⟨_, oa4, m4, S4⟩ := P; exact ⟨S4.base.trans (Kp.ofHid _ _), S4.px⟩
      | br σ' => obtain ⟨_, oa4, m4, S4⟩ := P; exact ⟨S4.base.trans (Kp.ofHid _ _), S4.px⟩
      | co σ' => obtain ⟨_, oa4, m4, S4⟩ := P; exact ⟨S4.base.trans (Kp.ofHid _ _), S4.px⟩
      | rt p t => obtain ⟨v, _, S4⟩ := P; exact ⟨S4.base.trans (Kp.ofHid _ _), S4.px⟩
    have hfin : inv (i + 1) h₄ := ?_
    refine hq f h₂ h₄ t₄ P (fun a ha => ?_) hfin fun a ha => W.live _ _ hfin a (W.sub a ha)
    · refine LW.hideGoal fun GG hGG => ?_
      obtain ⟨o, e1, e2⟩ := base4.2 a (List.mem_append_right _ ha)
      obtain ⟨o', e3, e4⟩ := px2 a ha
      refine hGG ?_
      clear hGG GG
      rw [e1] at e4; cases e4; exact ⟨o, e3, e2⟩
    · refine W.frame (i + 1) h₂ h₄ hinv2 fun b hb o e => ?_
      rcases hfp1 b hb with hw | ⟨o', e'⟩
      · obtain ⟨o1, e1, e2⟩ := base4.2 b (List.mem_append_left _ hw)
        rw [e] at e1; cases e1; exact e2
      · have e2 := (S2.base.trans (Kp.ofHid _ _)) b o' e'
        rw [e] at e2; cases e2
        exact base4.1 b o e'
  cases T with
  | done =>
    refine W.done { s with heap := h, toks := tk } _ _ hinv fun h' tk' k => ?_
    exact wpAny_execs_nil (q _ h' tk' ⟨rfl, oai, mi, back Si px h' k⟩)
  | turn hx htg hb hr =>
    rename_i p σ₁ σ₂
    have hlt : i < xs.length := (List.getElem?_eq_some_iff.mp hx).1
    refine next hx htg hb _ _ _ (fun f h₂ h₃ tk' P px3 hinv3 hw3 => ?_) fun v s₁ hv => hv
    obtain ⟨rfl, oa3, m3, S3⟩ := P
    refine ⟨n - 1, by omega, i + 1, σ₂, h₃, tk', oa3, m3, rfl, by omega, ?_, px3, hinv3, hr⟩
    refine S3.move (fun _ _ _ e => e) Kp.rfl S3.base (fun a ha => ?_) S3.ap S3.sm
    obtain ⟨o, _, e⟩ := S3.px a ha; exact ⟨o, e, e⟩
  | ret hx htg hb =>
    rename_i p pq t σ₁
    refine next hx htg hb _ _ _ (fun f h₂ h₃ tk' P px3 hinv3 hw3 => ?_) fun v s₁ hv => hv
    obtain ⟨v, rfl, r⟩ := P
    have sub : ∀ b ∈ B.X ++ t.map (·.1), b ∈ (wr ++ B.X) ++ t.map (·.1) := fun b hb => by rw [List.append_assoc]; exact List.mem_append_right _ hb
    exact q _ h₃ tk' ⟨v, rfl, (kH0.trans r.base).trans (Kp.hidSub h₃ sub), px3, RepV.mono (Kp.hidSub h₃ sub) _ _ r.val, fun y hy => (r.th y hy).less sub⟩
theorem while_rule {test : PySem.Expr} {body : List Stmt} {pos : Pos} {n : Nat} {out : Out} (ht : WTurns prog w A G env test body n σ out) : Ex1 prog w A G env σ (.While test body [] pos) out := .mk fun B s oa m Q E kg S q => by
  refine wpAny_While (codeAny_whileLoop (fun n s' => ∃ σi h tk oa m, s' = { s with heap := h, toks := tk } ∧ St prog w B env σi h oa m ∧ WTurns prog w A G env test body n σi out) ?_ n ⟨σ, s.heap, s.toks, oa, m, rfl, S, ht⟩)
  rintro n s' hRR
  refine LW.hideGoal fun GG hGG => ?_
  obtain ⟨σi, h, tk, oai, mi, rfl, Si, T⟩ := hRR
  refine hGG ?_
  clear hGG GG
  cases T with
  | done htst => exact htst.run _ _ mi _ _ (Si.vars kg) fun h' tk' k => wpAny_execs_nil (q _ h' tk' ⟨rfl, oai, mi, Si.keeps k⟩)
  | turn htst hb hr =>
    rename_i n σ₁
    refine htst.run _ _ mi _ _ (Si.vars kg) fun h' tk' k => hb.run B { s with heap := h', toks := tk' } oai mi _ _ kg (Si.keeps k) fun f h'' tk'' P => ?_
    obtain ⟨rfl, oa2, m2, S2⟩ := P
    exact ⟨n, Nat.lt_succ_self n, σ₁, h'', tk'', oa2, m2, rfl, S2, hr⟩
end
end LW
namespace LW

/-- a comprehension's frame: N is what it changes itself, M what was hidden before -/
structure CS (prog : Program) (w : World) (H0 h : Heap) (N M : List Addr) (env : Env) (σ : Sy) (m : Str → Option Value) : Prop where
  fn : env.scope.kind = .function
  gl : env.globals = mainGlobals
  bl : env.builtins = builtinsNs
  base : Kp H0 (hid h (N ++ M))
  ns : h.Ns env.locals m
  sm : ∃ o, h.get? sysModules = some o
  ex : ∀ a ∈ N ++ M, ∃ o, h.get? a = some o
  ap : ∀ a ∈ M, a ∉ N
  inC : env.locals ∈ N
  va : ∀ x lv, σ.v.lookup x = some lv → ∃ v, ((env.kindOf x = some .local ∧ m x = some v) ∨ ((env.kindOf x = some .cell ∨ env.kindOf x = some .free) ∧ ∃ c, env.cells.lookup x = some c ∧ c ∉ N ∧ h.IsCell c (some v))) ∧
    (match lv with | .im p => RepV prog w (hid h (N ++ M)) p v | .ow p => ∃ a ∈ M, OwnV prog w h (N ++ M) a v p)
  th : ∀ y ∈ σ.t, y.1 ∈ M ∧ OwnV prog w h (N ++ M) y.1 (.ref y.1) y.2

section
variable {prog : Program} {w : World} {A : Around} {H0 : Heap} {env : Env} {σ σ' : Sy} {h h' : Heap} {N M : List Addr} {m m' : Str → Option Value}

theorem CS.vars (S : CS prog w H0 h N M env σ m) : Vars prog w H0 h (N ++ M) env σ m where
  fn := S.fn
  gl := S.gl
  bl := S.bl
  base := S.base
  ns := S.ns
  sm := S.sm
  ex := S.ex
  va := fun x lv e => by
    obtain ⟨v, s, r⟩ := S.va x lv e
    refine ⟨v, ?_, ?_⟩
    · rcases s with s | ⟨hk, c, hc, _, hv⟩
      · exact .inl s
      · exact .inr ⟨hk, c, hc, hv⟩
    · cases lv with
      | im p => exact r
      | ow p => obtain ⟨a, ha, r⟩ := r; exact ⟨a, List.mem_append_right _ ha, r⟩
  th := fun y hy => ⟨List.mem_append_right _ (S.th y hy).1, (S.th y hy).2⟩

/-- its own things change -/
theorem CS.chg (S : CS prog w H0 h N M env σ m) (k : ∀ b o, b ∉ N → h.get? b = some o → h'.get? b = some o) (hn : h'.Ns env.locals m') (exN : ∀ a ∈ N, ∃ o, h'.get? a = some o)
    (hv : ∀ x lv, σ'.v.lookup x = some lv → (σ.v.lookup x = some lv ∧ (env.kindOf x = some .local → m' x = m x)) ∨ ∃ p v, lv = .im p ∧ env.kindOf x = some .local ∧ m' x = some v ∧ RepV prog w (hid h (N ++ M)) p v) (ht : σ'.t = σ.t) : CS prog w H0 h' N M env σ' m' := by
  have kh : Kp (hid h (N ++ M)) (hid h' (N ++ M)) := Kp.outside k
  refine ⟨S.fn, S.gl, S.bl, S.base.trans kh, hn, ?_, ?_, S.ap, S.inC, ?_, ?_⟩
  · obtain ⟨o, e⟩ := S.sm
    by_cases hs : sysModules ∈ N
    · exact exN _ hs
    · exact ⟨o, k _ _ hs e⟩
  · intro a ha
    rcases List.mem_append.mp ha with ha | hm
    · exact exN a ha
    · obtain ⟨o, e⟩ := S.ex a ha; exact ⟨o, k _ _ (S.ap a hm) e⟩
  · intro x lv e
    rcases hv x lv e with ⟨e, hm⟩ | ⟨p, v, rfl, hk, hm, r⟩
    · obtain ⟨v, s, r⟩ := S.va x lv e
      refine ⟨v, ?_, ?_⟩
      · rcases s with ⟨hl, hv⟩ | ⟨hk, c, hc, hN, o, ho, hd⟩
        · exact .inl ⟨hl, (hm hl).trans hv⟩
        · exact .inr ⟨hk, c, hc, hN, o, k c o hN ho, hd⟩
      · cases lv with
        | im p => exact RepV.mono kh _ _ r
        | ow p => obtain ⟨a, ha, r⟩ := r; exact ⟨a, ha, r.move (fun o => k a o (S.ap a ha)) kh⟩
    · exact ⟨v, .inl ⟨hk, hm⟩, RepV.mono kh _ _ r⟩
  · intro y hy
    rw [ht] at hy
    exact ⟨(S.th y hy).1, (S.th y hy).2.move (fun o => k y.1 o (S.ap _ (S.th y hy).1)) kh⟩
theorem CS.keeps (k : Kp h h') (S : CS prog w H0 h N M env σ m) : CS prog w H0 h' N M env σ m :=
  S.chg (fun b o _ e => k b o e) (S.ns.keeps k) (fun a ha => let ⟨o, e⟩ := S.ex a (List.mem_append_left _ ha); ⟨o, k a o e⟩) (fun x lv e => .inl ⟨e, fun _ => rfl⟩) rfl
theorem CS.weaken (S : CS prog w H0 h N M env σ m) (ht : σ'.t = σ.t) (hv : ∀ x lv, σ'.v.lookup x = some lv → σ.v.lookup x = some lv) : CS prog w H0 h N M env σ' m :=
  S.chg (fun b o _ e => e) S.ns (fun a ha => S.ex a (List.mem_append_left _ ha)) (fun x lv e => .inl ⟨hv x lv e, fun _ => rfl⟩) ht

/-- a target of a comprehension -/
structure CTgt (prog : Program) (w : World) (A : Around) (env : Env) (σ : Sy) (tg : PySem.Expr) (p : PV) (σ' : Sy) : Prop where
  run :
    ∀ (H0 : Heap) (N M : List Addr) (s : Shared) (m : Str → Option Value) (v : Value) (Q : Unit → Shared → Prop) (E : Value → Shared → Prop), CS prog w H0 s.heap N M env σ m → RepV prog w (hid s.heap (N ++ M)) p v →
      (∀ h' tk m', CS prog w H0 h' N M env σ' m' → (∀ b o, b ≠ env.locals → s.heap.get? b = some o → h'.get? b = some o) → Q () { s with heap := h', toks := tk }) → wpAny (model prog w) A (assign tg env v) Q E s

theorem CTgt.nameR {x : Str} {px : Pos} {p : PV} {s : Shared} {v : Value} {Q : Unit → Shared → Prop} {E : Value → Shared → Prop} (hx : env.kindOf x = some .local) (S : CS prog w H0 s.heap N M env σ m) (r : RepV prog w (hid s.heap (N ++ M)) p v)
    (q : ∀ h' tk m', CS prog w H0 h' N M env ⟨(x, .im p) :: σ.v, σ.t⟩ m' → (∀ b o, b ≠ env.locals → s.heap.get? b = some o → h'.get? b = some o) → Q () { s with heap := h', toks := tk }) : wpAny (model prog w) A (assign (.Name x px) env v) Q E s := by
  refine wpAny_assign_Name (wpAny_storeName_local hx S.ns (fun h2 hn hs => ?_) (by rw [S.fn]; rfl))
  have S' : CS prog w H0 h2 N M env ⟨(x, .im p) :: σ.v, σ.t⟩ (fun y => if y = x then some v else m y) := by
    refine S.chg (σ' := ⟨(x, .im p) :: σ.v, σ.t⟩) (fun b o hb e => (hs.2 b (fun e' => hb (e' ▸ S.inC))).trans e) hn (fun a ha => ?_) (fun y lv e => ?_) rfl
    · by_cases e0 : a = env.locals
      · rw [e0]; obtain ⟨o, _, _, e, _⟩ := hn; exact ⟨o, e⟩
      · obtain ⟨o, e⟩ := S.ex a (List.mem_append_left _ ha); exact ⟨o, (hs.2 a e0).trans e⟩
    · by_cases hy : y = x
      · subst hy
        simp only [List.lookup_cons, beq_self_eq_true] at e
        cases e
        exact .inr ⟨p, v, rfl, hx, by simp, r⟩
      · exact .inl ⟨by simpa [List.lookup_cons, beq_false_of_ne hy] using e, fun _ => by simp [hy]⟩
  exact q h2 _ _ S' fun b o hb e => (hs.2 b hb).trans e
theorem CTgt.name {x : Str} {px : Pos} {p : PV} (hx : env.kindOf x = some .local := by rfl) : CTgt prog w A env σ (.Name x px) p ⟨(x, .im p) :: σ.v, σ.t⟩ := .mk fun H0 N M s m v Q E S r q => CTgt.nameR hx S r q

theorem cnames_in_order : ∀ (ns : List (Str × Pos)) (ps : List PV) (vs : List Value) (σ : Sy) (s : Shared) (m : Str → Option Value) (Q : Unit → Shared → Prop) (E : Value → Shared → Prop), CS prog w H0 s.heap N M env σ m → ps.length = ns.length →
    RepVs prog w (hid s.heap (N ++ M)) ps vs → (∀ x ∈ ns, env.kindOf x.1 = some .local) →
    (∀ h' tk m', CS prog w H0 h' N M env ⟨(ns.zip ps).foldl (fun l y => (y.1.1, .im y.2) :: l) σ.v, σ.t⟩ m' → (∀ b o, b ≠ env.locals → s.heap.get? b = some o → h'.get? b = some o) → Q () { s with heap := h', toks := tk }) →
    wpAny (model prog w) A (assignInOrder (ns.map fun x => assign (.Name x.1 x.2) env) vs) Q E s
  | [], ps, vs, σ, s, m, Q, E, S, hl, r, hx, q => by
    obtain rfl : ps = [] := List.eq_nil_of_length_eq_zero hl
    obtain rfl : vs = [] := r
    exact wpAny_pure (q s.heap s.toks m S fun _ _ _ e => e)
  | n :: ns, [], vs, σ, s, m, Q, E, S, hl, r, hx, q => by cases hl
  | n :: ns, p :: ps, vs, σ, s, m, Q, E, S, hl, r, hx, q => by
    refine LW.hideGoal fun GG hGG => ?_
    obtain ⟨v, vs', rfl, rv, rr⟩ := r
    refine hGG ?_
    clear hGG GG
    refine assignInOrder_cons (CTgt.nameR (hx n List.mem_cons_self) S rv fun h' tk m' S' k => ?_)
    have kh : Kp (hid s.heap (N ++ M)) (hid h' (N ++ M)) := Kp.outside fun b o hb e => k b o (fun e' => hb (e' ▸ S.inC)) e
    exact cnames_in_order ns ps vs' ⟨(n.1, .im p) :: σ.v, σ.t⟩ { s with heap := h', toks := tk } m' Q E S' (by simpa using hl) (RepVs.mono kh _ _ rr) (fun x hx' => hx x (List.mem_cons_of_mem _ hx'))
      fun h'' tk' m'' S'' k' => q h'' tk' m'' S'' fun b o hb e => k' b o hb (k b o hb e)
theorem CTgt.names {elts : List PySem.Expr} {k₀ : Nat} {pos : Pos} (hh : A.handled = none) (ns : List (Str × Pos)) (ps : List PV) (he : elts = ns.map fun x => .Name x.1 x.2) (hl : ps.length = ns.length) (hx : ∀ x ∈ ns, env.kindOf x.1 = some .local) :
    CTgt prog w A env σ (.Tuple elts k₀ pos) (.tup ps) ⟨(ns.zip ps).foldl (fun l y => (y.1.1, .im y.2) :: l) σ.v, σ.t⟩ := .mk fun H0 N M s m v Q E S r q => by
  refine LW.hideGoal fun GG hGG => ?_
  obtain ⟨a, vs, rfl, hT, r⟩ := r
  refine hGG ?_
  clear hGG GG
  subst he
  have ea : ∀ ns : List (Str × Pos), assignEach (ns.map fun x => PySem.Expr.Name x.1 x.2) env = ns.map fun x => (false, assign (.Name x.1 x.2) env) := fun ns => by
    induction ns with
    | nil => rfl
    | cons n ns ih => rw [List.map_cons, List.map_cons, ← ih]; rfl
  have hT' : IsTup s.heap a vs.toArray := hT.keeps (Kp.ofHid _ _)
  refine assign_Tuple_tuple hh hT' (by rw [ea]; simp [r.length, hl]) (by rw [ea]; simp) fun h₁ hs => ?_
  have k1 : Kp s.heap h₁ := fun b o e => hs b o (Nat.ne_of_lt (Heap.lt_size e)) e
  rw [ea, List.map_map]
  exact cnames_in_order (A := A) ns ps vs σ { s with heap := h₁ } m Q E (S.keeps k1) hl (RepVs.mono (k1.hid _) _ _ r) hx fun h' tk m' S' k => q h' tk m' S' fun b o hb e => k b o hb (k1 b o e)
theorem CTgt.two {x y : Str} {px py pos : Pos} {k₀ : Nat} {p q : PV} (hh : A.handled = none) (hx : env.kindOf x = some .local := by rfl) (hy : env.kindOf y = some .local := by rfl) :
    CTgt prog w A env σ (.Tuple [.Name x px, .Name y py] k₀ pos) (.tup [p, q]) ⟨(y, .im q) :: (x, .im p) :: σ.v, σ.t⟩ :=
  CTgt.names hh [(x, px), (y, py)] [p, q] rfl rfl (by intro z hz; simp at hz; rcases hz with rfl | rfl; exact hx; exact hy)
theorem CTgt.three {x y z : Str} {px py pz pos : Pos} {k₀ : Nat} {p q r : PV} (hh : A.handled = none) (hx : env.kindOf x = some .local := by rfl) (hy : env.kindOf y = some .local := by rfl) (hz : env.kindOf z = some .local := by rfl) :
    CTgt prog w A env σ (.Tuple [.Name x px, .Name y py, .Name z pz] k₀ pos) (.tup [p, q, r]) ⟨(z, .im r) :: (y, .im q) :: (x, .im p) :: σ.v, σ.t⟩ :=
  CTgt.names hh [(x, px), (y, py), (z, pz)] [p, q, r] rfl rfl (by intro u hu; simp at hu; rcases hu with rfl | rfl | rfl; exact hx; exact hy; exact hz)

/-- the tests of a comprehension: none, or one -/
noncomputable def TstL (prog : Program) (w : World) (H0 : Heap) (A : Around) (env : Env) (σ : Sy) : List PySem.Expr → Bool → Prop
  | [], b => b = true
  | [c], b => Tst prog w H0 A env σ c b
  | _, _ => False
theorem TstL.run {ifs : List PySem.Expr} {b : Bool} {s : Shared} {Q : Bool → Shared → Prop} {E : Value → Shared → Prop} (T : TstL prog w H0 A env σ ifs b) (V : Vars prog w H0 s.heap M env σ m)
    (q : ∀ h' tk, Kp s.heap h' → Q b { s with heap := h', toks := tk }) :
    wpAny (model prog w) A (forIn ifs true fun c r => if r = true then do let ok ← isTrue c env (eval c env); pure (ForInStep.yield ok) else pure (ForInStep.yield r)) Q E s := by
  match ifs, T with
  | [], T => obtain rfl : b = true := T; exact wpAny_tests_nil (q s.heap s.toks Kp.rfl)
  | [c], T => exact wpAny_tests_one (Tst.run T s M m Q E V q)

/-- the names that a comprehension sees from outside -/
noncomputable def Caps (env : Env) (scope : Scope) (cl : List (Str × Addr)) (v : List (Str × LV)) : List (Str × LV) → Prop
  | [] => True
  | (x, lv) :: r => (v.lookup x = some lv ∧ ((relabel scope env).names.lookup x = some .cell ∨ (relabel scope env).names.lookup x = some .free) ∧ (env.kindOf x == some .local) = false ∧ cl.lookup x = env.cells.lookup x) ∧ Caps env scope cl v r
theorem Caps.get {scope : Scope} {cl : List (Str × Addr)} {v : List (Str × LV)} : ∀ {l : List (Str × LV)}, Caps env scope cl v l → ∀ x lv, l.lookup x = some lv →
    v.lookup x = some lv ∧ ((relabel scope env).names.lookup x = some .cell ∨ (relabel scope env).names.lookup x = some .free) ∧ (env.kindOf x == some .local) = false ∧ cl.lookup x = env.cells.lookup x
  | [], _, x, lv, e => by cases e
  | (y, lv') :: r, ⟨h, t⟩, x, lv, e => by
    rw [List.lookup_cons] at e
    cases hb : x == y with
    | true => rw [hb] at e; cases e; obtain rfl := eq_of_beq hb; exact h
    | false => rw [hb] at e; exact Caps.get t x lv e
end
end LW
namespace LW
section
variable {prog : Program} {w : World} {A : Around} {E : Value → Shared → Prop} {R : Result → Shared → Prop} {s : Shared}

theorem lc_loop {elt target iter : PySem.Expr} {ifs : List PySem.Expr} {scope : Scope} {pos : Pos} {it acc : Value} {env : Env} (I : Nat → Shared → Prop)
    (turn : ∀ n s (J K : Shared → Prop) (E' : Value → Shared → Prop), (∀ m s', m < n → I m s' → J s') → (∀ s', R (.ok .next) s' → K s') → I n s → wpAny (model prog w) A (pyNext it) (fun r s₁ => match r with
      | none => K s₁
      | some v => wpAny (model prog w) A (letOwnedTupleGo target it v) (fun _ s₁' => wpAny (model prog w) A (assign target env v) (fun _ s₂ =>
          wpAny (model prog w) A (forIn ifs true fun c r => if r = true then do let ok ← isTrue c env (eval c env); pure (ForInStep.yield ok) else pure (ForInStep.yield r)) (fun ok s₃ =>
            if ok = true then wpAny (model prog w) A (eval elt env) (fun x s₄ =>
              wpAny (model prog w) A (call (.builtin "list.append") [acc, x]) (fun _ s₅ => J s₅) E' s₄) E' s₃
            else J s₃) E' s₂) E' s₁') E' s₁) E' s)
    (n : Nat) (h : I n s) : codeAny (model prog w) A (.compLoop (.ListComp elt [⟨target, iter, ifs, 0⟩] scope pos) 0 it acc env) R s := by
  refine codeAny_loop rfl I (fun n s hI => ?_) n h
  show wpAny _ A ((compTurn (.ListComp elt [⟨target, iter, ifs, 0⟩] scope pos) 0 it acc env).onRaise (fun x => do noteFrame x env; theTreesLotGoes x)) _ _ s
  refine wpAny_noted ?_
  rw [compTurn_list]
  refine wpAny_bind (wpAny_standAt (wpAny_bind (wpAny_mono (turn n s (fun s' => ∃ m, m < n ∧ I m s') _ _ (fun m _ h1 h2 => ⟨m, h1, h2⟩) (fun _ h => h) hI) (fun r s₁ h₁ => ?_) fun _ _ h' => h')))
  cases r with
  | none => exact wpAny_pure h₁
  | some v =>
    refine wpAny_bind (wpAny_mono h₁ (fun _ s₁' h₁' => ?_) fun _ _ h' => h')
    refine wpAny_bind (wpAny_mono h₁' (fun _ s₂ h₂ => wpAny_bind (wpAny_mono h₂ (fun ok s₃ h₃ => ?_) fun _ _ h' => h')) fun _ _ h' => h')
    cases ok with
    | false => exact wpAny_pure ⟨rfl, h₃⟩
    | true =>
      exact wpAny_bind (wpAny_bind (wpAny_mono h₃ (fun x s₄ h₄ => wpAny_bind (wpAny_mono h₄ (fun _ s₅ h₅ => wpAny_pure (wpAny_pure ⟨rfl, h₅⟩)) fun _ _ h' => h')) fun _ _ h' => h'))
end

section
variable {prog : Program} {w : World} {A : Around} {H0 : Heap} {env : Env} {σ σc : Sy} {h h' : Heap} {M : List Addr} {m m' : Str → Option Value} {E : Value → Shared → Prop}

/-- the beginning of a comprehension's frame -/
theorem CS.start {s : Shared} {scope : Scope} {cl : List (Str × Addr)} {C : Addr} {h₁ : Heap} {N : List Addr} {m₁ : Str → Option Value} (V : Vars prog w H0 s.heap M env σ m) (k : Kp s.heap h₁) (frN : ∀ a ∈ N, s.heap.get? a = none) (exN : ∀ a ∈ N, ∃ o, h₁.get? a = some o)
    (hkind : scope.kind = .function) (hC : C ∈ N) (hns : h₁.Ns C m₁) (caps : Caps env scope cl σ.v σc.v) (htc : σc.t = σ.t) : CS prog w H0 h₁ N M (compEnvC scope cl C env) σc m₁ where
  fn := hkind
  gl := V.gl
  bl := V.bl
  base := V.base.trans (Kp.hidFreshs k frN M)
  ns := hns
  sm := let ⟨o, e⟩ := V.sm; ⟨o, k _ _ e⟩
  ex := fun a ha => by
    rcases List.mem_append.mp ha with ha | ha
    · exact exN a ha
    · obtain ⟨o, e⟩ := V.ex a ha; exact ⟨o, k a o e⟩
  ap := fun a ha hN => by obtain ⟨o, e⟩ := V.ex a ha; rw [frN a hN] at e; cases e
  inC := hC
  va := fun x lv e => by
    refine LW.hideGoal fun GG hGG => ?_
    obtain ⟨e', hk, hnl, hcl⟩ := caps.get x lv e
    obtain ⟨v, sl, r⟩ := V.va x lv e'
    refine hGG ?_
    clear hGG GG
    refine ⟨v, ?_, ?_⟩
    · rcases sl with ⟨hl, _⟩ | ⟨_, c, hc, hv⟩
      · rw [hl] at hnl; cases hnl
      · refine .inr ⟨hk, c, hcl.trans hc, fun hN => ?_, hv.keeps k⟩
        obtain ⟨o, e, _⟩ := hv; rw [frN c hN] at e; cases e
    · cases lv with
      | im p => exact RepV.mono (Kp.hidFreshs k frN M) _ _ r
      | ow p => obtain ⟨a, ha, r⟩ := r; exact ⟨a, ha, r.move (fun o => k a o) (Kp.hidFreshs k frN M)⟩
  th := fun y hy => by
    rw [htc] at hy
    exact ⟨(V.th y hy).1, (V.th y hy).2.move (fun o => k y.1 o) (Kp.hidFreshs k frN M)⟩

theorem comp_list {s : Shared} {h0 : Heap} {tk0 : Nat} {elt tg iter : PySem.Expr} {ifs : List PySem.Expr} {scope : Scope} {cl : List (Str × Addr)} {pos : Pos} {xs : List PV} {g : PV → Bool} {f : PV → PV} {I : Addr} {fp wr : List Addr} {inv : Nat → Heap → Prop}
    {mid : Nat → Value → Heap → Prop} (V : Vars prog w H0 s.heap M env σ m) (k0 : Kp s.heap h0) (W : Wk prog w A (hid h0 (wr ++ M)) I fp wr xs inv mid tg) (i0 : inv 0 h0) (fr : ∀ b ∈ wr, s.heap.get? b = none)
    (hcell : ∀ y ∈ scope.names, y.2 ≠ .cell) (hkind : scope.kind = .function) (caps : Caps env scope cl σ.v σc.v) (htc : σc.t = σ.t)
    (step : ∀ C p, p ∈ xs → ∃ σp, σp.t = σc.t ∧ (∀ x lv, σc.v.lookup x = some lv → σp.v.lookup x = some lv) ∧ CTgt prog w A (compEnvC scope cl C env) σc tg p σp ∧ TstL prog w H0 A (compEnvC scope cl C env) σp ifs (g p) ∧
      (g p = true → Ev prog w H0 A (compEnvC scope cl C env) σp elt (f p)))
    (hsz : xs.length ≤ sizeLine) {RR : Value → Addr → Result → Shared → Prop}
    (hRR : ∀ D C h1 tk m', s.heap.get? D = none → s.heap.get? C = none → C ≠ D → Kp s.heap h1 → h1.Ns C m' → OwnV prog w h1 (D :: C :: M) D (.ref D) (.lst ((xs.filter g).map f)) → RR (.ref D) C (.ok .next) { s with heap := h1, toks := tk }) :
    wpAny (model prog w) A (newList []) (fun acc s₃ => wpAny (model prog w) A (newFunctionEnv scope env.globals cl [] env.qual none .none (some env)) (fun cenv s₄ =>
      codeAny (model prog w) A (.compStart (.ListComp elt [⟨tg, iter, ifs, 0⟩] scope pos) 0 (.ref I) acc { cenv with scope := relabel scope env }) (RR acc cenv.locals) s₄) E s₃) E { s with heap := h0, toks := tk0 } := by
  refine wpAny_newObj_type (wpAny_newFunctionEnv hcell (by intro y hy; simp at hy) (fun h₁ hns₁ hsb₁ => ?_) hkind)
  dsimp only at hns₁ hsb₁ ⊢
  generalize hH2 : h0.push { cls := .type "list", dict := none, data := .seq ([] : List Value).toArray } = H2 at hns₁ hsb₁ ⊢
  generalize hD : h0.objs.size = D
  generalize hC : H2.objs.size = C at hns₁ hsb₁ ⊢
  have hCD : C = D + 1 := by rw [← hC, ← hH2, Heap.size_push, hD]
  have hDC : @LT.lt Nat _ D C := by rw [hCD]; exact Nat.lt_succ_self _
  have hneDC : D ≠ C := Nat.ne_of_lt hDC
  have below : ∀ b o, h0.get? b = some o → b ≠ C ∧ b ≠ D := fun b o e => by
    have := Heap.lt_size e; rw [hD] at this; exact ⟨Nat.ne_of_lt (Nat.lt_trans this hDC), Nat.ne_of_lt this⟩
  have old : ∀ b o, h0.get? b = some o → h₁.get? b = some o := fun b o e => hsb₁.extBut b o (below b o e).1 (Heap.get?_push_of_some _ (hH2 ▸ Heap.get?_push_of_some _ e))
  have hacc : h₁.PlainList D #[] := ⟨_, hsb₁.extBut _ _ hneDC (Heap.get?_push_of_some _ (hH2 ▸ hD ▸ Heap.get?_push_size _ rfl))⟩
  have kS : Kp s.heap h₁ := k0.trans old
  have fpC : ∀ b ∈ fp, b ≠ C ∧ b ≠ D := fun b hb => by obtain ⟨o, e⟩ := W.live 0 h0 i0 b hb; exact below b o e
  have wrC : ∀ b ∈ wr, b ≠ C ∧ b ≠ D := fun b hb => fpC b (W.sub b hb)
  have hCw : C ∉ wr := fun hm => (wrC C hm).1 rfl
  have hDw : D ∉ wr := fun hm => (wrC D hm).2 rfl
  have frD : s.heap.get? D = none := none_of_kp k0 (hD ▸ size_none h0)
  have frC : s.heap.get? C = none := none_of_kp k0 (by
    cases e : h0.get? C with
    | none => rfl
    | some o => have := Heap.lt_size e; rw [hD] at this; exact absurd (Nat.lt_trans this hDC) (Nat.lt_irrefl _))
  have inv1 : inv 0 h₁ := W.frame 0 h0 h₁ i0 fun b hb o e => old b o e
  generalize hN : wr ++ [C, D] = N
  have memN : ∀ b, b ∈ N ↔ b ∈ wr ∨ b = C ∨ b = D := fun b => by rw [← hN]; simp
  have memN' : ∀ b, b ∈ N → b ∈ wr ∨ C = b ∨ D = b := fun b hb => ((memN b).mp hb).imp_right fun h => h.imp Eq.symm Eq.symm
  have frN : ∀ a ∈ N, s.heap.get? a = none := fun a ha => by
    rcases memN' a ha with ha | rfl | rfl
    · exact fr a ha
    · exact frC
    · exact frD
  have exN : ∀ a ∈ N, ∃ o, h₁.get? a = some o := fun a ha => by
    rcases memN' a ha with ha | rfl | rfl
    · exact W.live 0 h₁ inv1 a (W.sub a ha)
    · obtain ⟨o, _, _, e, _⟩ := hns₁; exact ⟨o, e⟩
    · obtain ⟨n, e⟩ := hacc; exact ⟨_, e⟩
  have S1 : CS prog w H0 h₁ N M (compEnvC scope cl C env) σc (fun x => ([] : List (Str × Value)).reverse.lookup x) :=
    CS.start V kS frN exN hkind ((memN C).mpr (.inr (.inl rfl))) hns₁ caps htc
  have eN : ∀ L : List Addr, N ++ L = wr ++ ([C, D] ++ L) := fun L => by rw [← hN, List.append_assoc]
  -- the loop
  have loop : ∀ s₃ : Shared, s₃ = { s with heap := h₁, toks := tk0 + ([] : List (Str × Value)).length } →
      codeAny (model prog w) A (.compLoop (.ListComp elt [⟨tg, iter, ifs, 0⟩] scope pos) 0 (.ref I) (.ref D) (compEnvC scope cl C env)) (RR (.ref D) C) s₃ := by
    rintro s₃ rfl
    refine lc_loop (fun n s' => ∃ i h tk m vs, s' = { s with heap := h, toks := tk } ∧ n + i = xs.length + 1 ∧ i ≤ xs.length ∧ CS prog w H0 h N M (compEnvC scope cl C env) σc m ∧ inv i h ∧ h.PlainList D (List.toArray vs) ∧
      RepVs prog w (hid h (N ++ M)) (((xs.take i).filter g).map f) vs ∧ (∀ b o, b ∉ N → h₁.get? b = some o → h.get? b = some o)) ?_ (xs.length + 1)
      ⟨0, h₁, _, _, [], rfl, rfl, Nat.zero_le _, S1, inv1, hacc, rfl, fun _ _ _ e => e⟩
    rintro n s' J K E' hJ hK hRR
    refine LW.hideGoal fun GG hGG => ?_
    obtain ⟨i, h, tk, mi, vs, rfl, hn, hile, Si, hinv, hpl, hvs, hk⟩ := hRR
    refine hGG ?_
    clear hGG GG
    have kF : Kp (hid h0 (wr ++ M)) (hid h (wr ++ ([C, D] ++ M))) := fun b o e => by
      rw [hid_get] at e ⊢
      obtain ⟨h1, h2⟩ := below b o e.1
      have hbN : b ∉ N := fun hm => by
        rcases memN' b hm with hm | rfl | rfl
        · exact e.2 (List.mem_append_left _ hm)
        · exact h1 rfl
        · exact h2 rfl
      refine ⟨hk b o hbN (old b o e.1), fun hm => ?_⟩
      rw [← eN] at hm
      rcases List.mem_append.mp hm with hm | hm
      · exact hbN hm
      · exact e.2 (List.mem_append_right _ hm)
    have nsKeep : ∀ {h₂ : Heap}, (∀ b o, b ∉ wr → h.get? b = some o → h₂.get? b = some o) → h₂.Ns C mi := fun k => by
      have hns := Si.ns
      exact hns.at' fun o e => k C o hCw e
    have exs : ∀ a ∈ [C, D] ++ M, ∃ o, h.get? a = some o := fun a ha => Si.ex a (by rw [eN]; exact List.mem_append_right _ ha)
    by_cases hi : i < xs.length
    · refine LW.hideGoal fun GG hGG => ?_
      obtain ⟨p, hx⟩ : ∃ p, xs[i]? = some p := ⟨xs[i], List.getElem?_eq_getElem hi⟩
      obtain ⟨σp, hσt, hσv, ct, tst, ev⟩ := step C p (List.mem_of_getElem? hx)
      refine hGG ?_
      clear hGG GG
      refine W.item i p { s with heap := h, toks := tk } ([C, D] ++ M) _ _ hx hinv exs kF fun v h₂ t₂ rv hmid k2 => ?_
      refine W.go i v { s with heap := h₂, toks := t₂ } _ _ hmid fun h₃ hinv3 k3 => ?_
      have k23 : ∀ b o, b ∉ wr → h.get? b = some o → h₃.get? b = some o := fun b o hb e => k3 b o hb (k2 b o hb e)
      have S3 : CS prog w H0 h₃ N M (compEnvC scope cl C env) σc mi := by
        refine Si.chg (fun b o hb e => k23 b o (fun hw => hb ((memN b).mpr (.inl hw))) e) (nsKeep k23) (fun a ha => ?_) (fun x lv e => .inl ⟨e, fun _ => rfl⟩) rfl
        rcases memN' a ha with ha | rfl | rfl
        · exact W.live _ _ hinv3 a (W.sub a ha)
        · obtain ⟨o, e⟩ := Si.ex C (List.mem_append_left _ ha); exact ⟨o, k23 C o hCw e⟩
        · obtain ⟨o, e⟩ := Si.ex D (List.mem_append_left _ ha); exact ⟨o, k23 D o hDw e⟩
      have rv3 : RepV prog w (hid h₃ (N ++ M)) p v := by rw [eN]; exact RepV.mono (Kp.outside k3) _ _ rv
      have hpl3 : h₃.PlainList D (List.toArray vs) := hpl.at fun o e => k23 D o hDw e
      have hvs3 : RepVs prog w (hid h₃ (N ++ M)) (((xs.take i).filter g).map f) vs := by
        refine RepVs.mono ?_ _ _ hvs
        rw [eN]; exact Kp.outside k23
      refine ct.run H0 N M { s with heap := h₃, toks := t₂ } mi v _ _ S3 rv3 fun h₄ t₄ m₄ S4 k4 => ?_
      have k4C : ∀ b o, b ≠ C → h₃.get? b = some o → h₄.get? b = some o := k4
      have inv4 : inv (i + 1) h₄ := W.frame _ _ _ hinv3 fun b hb o e => k4C b o (fpC b hb).1 e
      have kN4 : Kp (hid h₃ (N ++ M)) (hid h₄ (N ++ M)) := Kp.outside fun b o hb e => k4C b o (fun e' => hb ((memN b).mpr (.inr (.inl e')))) e
      have hk4 : ∀ b o, b ∉ N → h₁.get? b = some o → h₄.get? b = some o := fun b o hb e =>
        k4C b o (fun e' => hb ((memN b).mpr (.inr (.inl e')))) (k23 b o (fun hw => hb ((memN b).mpr (.inl hw))) (hk b o hb e))
      refine tst.run S4.vars fun h₅ t₅ k5 => ?_
      have S5 := S4.keeps k5
      have efil := take_succ_filter g xs i p hx
      cases hg : g p with
      | false =>
        rw [if_neg (by decide)]
        refine hJ (n - 1) _ (by omega) ⟨i + 1, h₅, t₅, m₄, vs, rfl, by omega, hi, S5.weaken hσt.symm hσv, W.frame _ _ _ inv4 fun b _ o e => k5 b o e, (hpl3.at fun o e => k5 D o (k4C D o hneDC e)), ?_, fun b o hb e => k5 b o (hk4 b o hb e)⟩
        rw [efil, hg, if_neg (by decide), List.append_nil]
        exact RepVs.mono (kN4.trans (k5.hid _)) _ _ hvs3
      | true =>
        rw [if_pos rfl]
        refine (ev hg).run { s with heap := h₅, toks := t₅ } (N ++ M) m₄ _ _ S5.vars fun y h₆ t₆ k6 ry => ?_
        have k56 := k5.trans k6
        have hpl6 : h₆.PlainList D (List.toArray vs) := hpl3.at fun o e => k56 D o (k4C D o hneDC e)
        have hlen : vs.length ≤ xs.length := by
          rw [hvs.length, List.length_map]
          exact Nat.le_trans (List.length_filter_le _ _) (by rw [List.length_take]; exact Nat.min_le_right _ _)
        refine wpAny_list_append_plain hpl6 (fun h₇ hpl7 hs7 => ?_) (by rw [List.size_toArray]; omega)
        have kD : ∀ b o, b ≠ D → h₆.get? b = some o → h₇.get? b = some o := kb_of_sameBut hs7
        have kN7 : Kp (hid h₆ (N ++ M)) (hid h₇ (N ++ M)) := Kp.outside fun b o hb e => kD b o (fun e' => hb ((memN b).mpr (.inr (.inr e')))) e
        have S6 := S5.keeps k6
        refine hJ (n - 1) _ (by omega) ⟨i + 1, h₇, t₆, m₄, vs ++ [y], rfl, by omega, hi, ?_, ?_, by simpa using hpl7, ?_, fun b o hb e => kD b o (fun e' => hb ((memN b).mpr (.inr (.inr e')))) (k56 b o (hk4 b o hb e))⟩
        · refine S6.chg (σ' := σc) (fun b o hb e => kD b o (fun e' => hb ((memN b).mpr (.inr (.inr e')))) e) ?_ (fun a ha => ?_) (fun x lv e => .inl ⟨hσv x lv e, fun _ => rfl⟩) hσt.symm
          · have hns := S6.ns
            exact hns.at' fun o e => kD C o hneDC.symm e
          · by_cases e0 : a = D
            · obtain ⟨n', e⟩ := hpl7; exact ⟨_, e0 ▸ e⟩
            · obtain ⟨o, e⟩ := S6.ex a (List.mem_append_left _ ha); exact ⟨o, kD a o e0 e⟩
        · exact W.frame _ _ _ inv4 fun b hb o e => kD b o (fpC b hb).2 (k56 b o e)
        · rw [efil, hg, if_pos rfl, List.map_append]
          exact (RepVs.mono ((kN4.trans (k56.hid _)).trans kN7) _ _ hvs3).append (RepVs.one (RepV.mono kN7 _ _ ry))
    · have hi' : i = xs.length := by omega
      subst hi'
      refine W.done { s with heap := h, toks := tk } _ _ hinv fun h₈ t₈ k8 => ?_
      rw [List.take_length] at hvs
      refine hK _ (hRR D C h₈ t₈ mi frD frC hneDC.symm (fun b o e => ?_) (nsKeep k8) ⟨rfl, vs, hpl.at fun o e => k8 D o hDw e, RepVs.mono (fun b o e => ?_) _ _ hvs⟩)
      · have hbN : b ∉ N := fun hm => by rw [frN b hm] at e; cases e
        exact k8 b o (fun hw => hbN ((memN b).mpr (.inl hw))) (hk b o hbN (kS b o e))
      · rw [hid_get] at e ⊢
        refine ⟨k8 b o (fun hw => e.2 (List.mem_append_left _ ((memN b).mpr (.inl hw)))) e.1, fun hm => e.2 ?_⟩
        rcases memC hm with rfl | hm
        · exact List.mem_append_left _ ((memN D).mpr (.inr (.inr rfl)))
        · rcases memC hm with rfl | hm
          · exact List.mem_append_left _ ((memN C).mpr (.inr (.inl rfl)))
          · exact List.mem_append_right _ hm
  subst hD
  exact codeAny_compStart_list (loop _ rfl) (W.self 0 _ _ _ inv1 (loop _ rfl))
end
end LW
namespace LW
section
variable {prog : Program} {w : World} {A : Around} {H0 : Heap} {env : Env} {σ σc : Sy} {h h' : Heap} {M : List Addr} {m m' : Str → Option Value} {E : Value → Shared → Prop}

/-- what is asked of a comprehension's inside -/
structure CompOk (prog : Program) (w : World) (H0 : Heap) (A : Around) (env : Env) (σ σc : Sy) (tg iter : PySem.Expr) (ifs : List PySem.Expr) (scope : Scope) (cl : List (Str × Addr)) : Prop where
  clos : closureFor scope env = pure cl
  cell : ∀ y ∈ scope.names, y.2 ≠ .cell
  kind : scope.kind = .function
  names : ∀ y ∈ scope.names, y.2 = .local → scope.names.lookup y.1 = some .local
  caps : Caps env scope cl σ.v σc.v
  htc : σc.t = σ.t
  fold : ∀ x, foldedSetIterable iter env x = pure x
noncomputable def StepOk (prog : Program) (w : World) (H0 : Heap) (A : Around) (env : Env) (σc : Sy) (tg elt : PySem.Expr) (ifs : List PySem.Expr) (scope : Scope) (cl : List (Str × Addr)) (xs : List PV) (g : PV → Bool) (f : PV → PV) : Prop :=
  ∀ C p, p ∈ xs → ∃ σp, σp.t = σc.t ∧ (∀ x lv, σc.v.lookup x = some lv → σp.v.lookup x = some lv) ∧ CTgt prog w A (compEnvC scope cl C env) σc tg p σp ∧ TstL prog w H0 A (compEnvC scope cl C env) σp ifs (g p) ∧
      (g p = true → Ev prog w H0 A (compEnvC scope cl C env) σp elt (f p))

theorem EvN.comp {elt tg iter : PySem.Expr} {ifs : List PySem.Expr} {scope : Scope} {cl : List (Str × Addr)} {pos : Pos} {xs : List PV} {g : PV → Bool} {f : PV → PV} (C : CompOk prog w H0 A env σ σc tg iter ifs scope cl) (hi : It prog w H0 A env σ False iter tg xs)
    (step : StepOk prog w H0 A env σc tg elt ifs scope cl xs g f) (hsz : xs.length ≤ sizeLine) : EvN prog w H0 A env σ (.ListComp elt [⟨tg, iter, ifs, 0⟩] scope pos) (.lst ((xs.filter g).map f)) := .mk fun s M m Q E V q => by
  rw [eval_ListComp]
  refine wpAny_comprehension_free (use := none) rfl C.fold C.clos C.kind C.names (hi.run s M m _ _ V fun I fp wr inv mid h' tk k W i0 fr _ => ?_)
  refine comp_list (RR := fun acc Cc => compPost (model prog w) A E none Q acc Cc) V k W i0 fr C.cell C.kind C.caps C.htc step hsz fun D Cc h1 tk1 m' frD frC hne k1 hn ho => ?_
  refine ⟨m', hn, fun h'' hs'' => q D _ h'' tk1 (fun b o e => (hs''.2 b (fun e' => by rw [e', frC] at e; cases e)).trans (k1 b o e)) frD ?_⟩
  refine ho.move (fun o e => (hs''.2 D hne.symm).trans e) fun b o e => ?_
  rw [hid_get] at e ⊢
  refine ⟨(hs''.2 b fun e' => e.2 (by rw [e']; simp)).trans e.1, fun hm => e.2 ?_⟩
  rcases memC hm with rfl | hm
  · exact List.mem_cons_self
  · exact List.mem_cons_of_mem _ (List.mem_cons_of_mem _ hm)

/-- a comprehension stored to a name that is exchanged -/
theorem use_store {B : Bs} {s : Shared} {oa : OA} {y : Str} {py : Pos} {p : PV} {D Cc : Addr} {h1 : Heap} {tk1 : Nat} {m' : Str → Option Value} {v : Value} {Q : Flow → Shared → Prop} {E : Value → Shared → Prop} (S : St prog w B env σ s.heap oa m) (k1 : Kp s.heap h1)
    (frD : s.heap.get? D = none) (frC : s.heap.get? Cc = none) (hne : Cc ≠ D) (hn : h1.Ns Cc m') (ho : OwnV prog w h1 (D :: Cc :: Mu env B oa σ.t) D v p) (hy : storB env y = true)
    (q : ∀ f h' tk, Post prog w B env h' (.nx ⟨(y, .ow p) :: σ.v, σ.t⟩) f → Q f { s with heap := h', toks := tk }) :
    wpAny (model prog w) A (assign (.Name y py) env v) (fun _ s'' => ∃ m, s''.heap.Ns Cc m ∧ ∀ h', Heap.SameBut Cc s''.heap h' → Q .next { s'' with heap := h' }) E { s with heap := h1, toks := tk1 } := by
  have exC : ∃ o, h1.get? Cc = some o := by obtain ⟨o, _, _, e, _⟩ := hn; exact ⟨o, e⟩
  have kD : ∀ b o, s.heap.get? b = some o → (hid h1 [D]).get? b = some o := fun b o e => hid_get.mpr ⟨k1 b o e, fun hm => by rw [List.mem_singleton.mp hm, frD] at e; cases e⟩
  have kM : Kp (hid s.heap (Mu env B oa σ.t)) (hid (hid h1 [D]) (Mu env ⟨B.H0, Cc :: B.X, h1⟩ oa σ.t)) := fun b o e => by
    rw [hid_get] at e ⊢
    refine ⟨kD b o e.1, fun hm => ?_⟩
    rcases List.mem_append.mp hm with hm | hm
    · rcases memC hm with rfl | hm
      · rw [frC] at e; cases e.1
      · exact e.2 (List.mem_append_left _ hm)
    · exact e.2 (List.mem_append_right _ hm)
  have S1 : St prog w ⟨B.H0, Cc :: B.X, h1⟩ env σ (hid h1 [D]) oa m := by
    refine S.move (fun b _ o e => kD b o e) kM (S.base.trans kM) (fun a ha => ?_) (fun a ha hx => ?_) (let ⟨o, e⟩ := S.sm; ⟨o, kD _ _ e⟩)
    · rcases memC ha with rfl | ha
      · obtain ⟨o, e⟩ := exC; exact ⟨o, e, hid_get.mpr ⟨e, fun hm => hne (List.mem_singleton.mp hm)⟩⟩
      · obtain ⟨o, _, e⟩ := S.px a ha; exact ⟨o, k1 _ _ e, kD _ _ e⟩
    · rcases memC hx with rfl | hx
      · obtain ⟨o, e⟩ := S.ex _ ha; rw [frC] at e; cases e
      · exact S.ap a ha hx
  have hfr : (hid h1 [D]).get? D = none := by
    cases e : (hid h1 [D]).get? D with
    | none => rfl
    | some o => exact absurd (List.mem_singleton.mpr rfl) (hid_get.mp e).2
  refine wpAny_assign_Name (storeRk (s := { s with heap := h1, toks := tk1 }) (lv := .ow p) S1 (Kp.ofHid h1 [D]) hy ⟨D, hfr, ho⟩ fun h2 tk2 oa2 m2 S2 _ => ?_)
  obtain ⟨oC, eC1, eC2⟩ := S2.px Cc List.mem_cons_self
  refine ⟨m', hn.at' fun o e => ?_, fun h3 hs3 => q _ h3 tk2 ⟨rfl, oa2, m2, ?_⟩⟩
  · rw [e] at eC1; cases eC1; exact eC2
  · have k3 : ∀ b o, b ≠ Cc → h2.get? b = some o → h3.get? b = some o := fun b o hb e => (hs3.2 b hb).trans e
    have kh : Kp (hid h2 (Mu env ⟨B.H0, Cc :: B.X, h1⟩ oa2 σ.t)) (hid h3 (Mu env B oa2 σ.t)) := fun b o e => by
      rw [hid_get] at e ⊢
      exact ⟨k3 b o (fun e' => e.2 (e' ▸ List.mem_cons_self)) e.1, fun hm => e.2 (List.mem_cons_of_mem _ hm)⟩
    have hXC : ∀ a ∈ B.X, a ≠ Cc := fun a ha e' => by obtain ⟨o, _, e⟩ := S.px a ha; rw [e', frC] at e; cases e
    refine S2.move (fun b hb o e => k3 b o (fun e' => S2.ap b hb (e' ▸ List.mem_cons_self)) e) kh (S2.base.trans kh) (fun a ha => ?_) (fun a ha hx => S2.ap a ha (List.mem_cons_of_mem _ hx)) ?_
    · refine LW.hideGoal fun GG hGG => ?_
      obtain ⟨o, e1, e2⟩ := S.px a ha
      obtain ⟨o', e3, e4⟩ := S2.px a (List.mem_cons_of_mem _ ha)
      refine hGG ?_
      clear hGG GG
      have := k1 _ _ e2
      rw [this] at e3; cases e3
      exact ⟨o, e1, k3 a o (hXC a ha) e4⟩
    · obtain ⟨o, e⟩ := S.sm
      obtain ⟨o', e'⟩ := S2.sm
      exact ⟨o', k3 _ _ (fun e'' => by rw [e'', frC] at e; cases e) e'⟩

theorem assign_comp {G : Heap} {elt tg iter : PySem.Expr} {ifs : List PySem.Expr} {scope : Scope} {cl : List (Str × Addr)} {y : Str} {py pos spos : Pos} {xs : List PV} {g : PV → Bool} {f : PV → PV} (C : CompOk prog w G A env σ σc tg iter ifs scope cl)
    (hi : It prog w G A env σ False iter tg xs) (step : StepOk prog w G A env σc tg elt ifs scope cl xs g f) (hsz : xs.length ≤ sizeLine)
    (hsw : swapsWith (.ListComp elt [⟨tg, iter, ifs, 0⟩] scope pos) (some (.Name y py)) spos.line env = pure true) (hy : storB env y = true) :
    Ex1 prog w A G env σ (.Assign [.Name y py] (.ListComp elt [⟨tg, iter, ifs, 0⟩] scope pos) spos) (.nx ⟨(y, .ow (.lst ((xs.filter g).map f))) :: σ.v, σ.t⟩) := .mk fun B s oa m Q E kg S q => by
  rw [exec_Assign_Name_used _ _ _ _ hsw]
  refine wpAny_bind (wpAny_standAt (wpAny_bind ?_))
  show wpAny _ A (do let _ ← comprehension (.ListComp elt [⟨tg, iter, ifs, 0⟩] scope pos) scope env _ (newList []) false (eval iter env) (some (assign (.Name y py) env))) _ _ s
  have V := S.vars kg
  refine wpAny_bind (wpAny_mono (wpAny_comprehension_free (use := some (assign (.Name y py) env)) (Q := fun _ s' => Q .next s') rfl C.fold C.clos C.kind C.names (hi.run s _ m _ _ V fun I fp wr inv mid h' tk k W i0 fr _ => ?_))
    (fun _ s' hq => wpAny_pure (wpAny_pure hq)) fun _ _ e => e)
  refine comp_list (RR := fun acc Cc => compPost (model prog w) A E (some (assign (.Name y py) env)) (fun _ s' => Q .next s') acc Cc) V k W i0 fr C.cell C.kind C.caps C.htc step hsz fun D Cc h1 tk1 m' frD frC hne k1 hn ho => ?_
  exact use_store (Q := Q) S k1 frD frC hne hn ho hy q
end
end LW
namespace LW
section
variable {prog : Program} {w : World} {A : Around} {E : Value → Shared → Prop} {R : Result → Shared → Prop} {s : Shared}

theorem codeAny_compLoop_testsD' {kx vx target iter : PySem.Expr} {ifs : List PySem.Expr} {scope : Scope} {pos : Pos} {it : Value} {D : Addr} {env : Env} (I : Nat → Shared → Prop)
    (turn : ∀ n s (J K : Shared → Prop) (E' : Value → Shared → Prop), (∀ m s', m < n → I m s' → J s') → (∀ s', R (.ok .next) s' → K s') → I n s → wpAny (model prog w) A (pyNext it) (fun r s₁ => match r with
      | none => K s₁
      | some v => wpAny (model prog w) A (letOwnedTupleGo target it v) (fun _ s₁' => wpAny (model prog w) A (assign target env v) (fun _ s₂ =>
          wpAny (model prog w) A (forIn ifs true fun c r => if r = true then do let ok ← isTrue c env (eval c env); pure (ForInStep.yield ok) else pure (ForInStep.yield r)) (fun ok s₃ =>
            if ok = true then wpAny (model prog w) A (eval kx env) (fun kv s₄ => wpAny (model prog w) A (eval vx env) (fun vv s₅ =>
              wpAny (model prog w) A (dictSet D kv vv) (fun _ s₆ => J s₆) E' s₅) E' s₄) E' s₃
            else J s₃) E' s₂) E' s₁') E' s₁) E' s)
    (n : Nat) (h : I n s) :
    codeAny (model prog w) A (.compLoop (.DictComp kx vx [⟨target, iter, ifs, 0⟩] scope pos) 0 it (.ref D) env) R s := by
  refine codeAny_loop rfl I (fun n s hI => ?_) n h
  show wpAny _ A ((compTurn (.DictComp kx vx [⟨target, iter, ifs, 0⟩] scope pos) 0 it (.ref D) env).onRaise (fun x => do noteFrame x env; theTreesLotGoes x)) _ _ s
  refine wpAny_noted ?_
  rw [compTurn_dict]
  refine wpAny_bind (wpAny_standAt (wpAny_bind (wpAny_mono (turn n s (fun s' => ∃ m, m < n ∧ I m s') _ _ (fun m _ h1 h2 => ⟨m, h1, h2⟩) (fun _ h => h) hI) (fun r s₁ h₁ => ?_) fun _ _ h' => h')))
  cases r with
  | none => exact wpAny_pure h₁
  | some v =>
    refine wpAny_bind (wpAny_mono h₁ (fun _ s₁' h₁' => ?_) fun _ _ h' => h')
    refine wpAny_bind (wpAny_mono h₁' (fun _ s₂ h₂ => wpAny_bind (wpAny_mono h₂ (fun ok s₃ h₃ => ?_) fun _ _ h' => h')) fun _ _ h' => h')
    cases ok with
    | false => exact wpAny_pure ⟨rfl, h₃⟩
    | true =>
      exact wpAny_bind (wpAny_bind (wpAny_mono h₃ (fun kv s₄ h₄ => wpAny_bind (wpAny_holding (wpAny_mono h₄ (fun vv s₅ h₅ => wpAny_bind (wpAny_standAt (wpAny_holding (wpAny_mono h₅ (fun _ s₆ h₆ => wpAny_pure ⟨rfl, h₆⟩) fun _ _ h' => h')))) fun _ _ h' => h'))) fun _ _ h' => h'))
end

section
variable {prog : Program} {w : World} {A : Around} {H0 : Heap} {env : Env} {σ σc : Sy} {h h' : Heap} {M : List Addr} {m m' : Str → Option Value} {E : Value → Shared → Prop}

theorem comp_dict {s : Shared} {h0 : Heap} {tk0 : Nat} {kx vx tg iter : PySem.Expr} {scope : Scope} {cl : List (Str × Addr)} {pos : Pos} {xs : List PV} {fk : PV → Str} {f : PV → PV} {I : Addr} {fp wr : List Addr} {inv : Nat → Heap → Prop}
    {mid : Nat → Value → Heap → Prop} (V : Vars prog w H0 s.heap M env σ m) (k0 : Kp s.heap h0) (W : Wk prog w A (hid h0 (wr ++ M)) I fp wr xs inv mid tg) (i0 : inv 0 h0) (fr : ∀ b ∈ wr, s.heap.get? b = none)
    (hcell : ∀ y ∈ scope.names, y.2 ≠ .cell) (hkind : scope.kind = .function) (caps : Caps env scope cl σ.v σc.v) (htc : σc.t = σ.t)
    (step : ∀ C p, p ∈ xs → ∃ σp, σp.t = σc.t ∧ (∀ x lv, σc.v.lookup x = some lv → σp.v.lookup x = some lv) ∧ CTgt prog w A (compEnvC scope cl C env) σc tg p σp ∧ Ev prog w H0 A (compEnvC scope cl C env) σp kx (.str (fk p)) ∧ Ev prog w H0 A (compEnvC scope cl C env) σp vx (f p))
    (hsz : xs.length ≤ sizeLine) {RR : Value → Addr → Result → Shared → Prop}
    (hRR : ∀ D C h1 tk m', s.heap.get? D = none → s.heap.get? C = none → C ≠ D → Kp s.heap h1 → h1.Ns C m' → OwnV prog w h1 (D :: C :: M) D (.ref D) (.dct (xs.foldl (fun d p => dput d (fk p) (f p)) [])) → RR (.ref D) C (.ok .next) { s with heap := h1, toks := tk }) :
    wpAny (model prog w) A newDict (fun acc s₃ => wpAny (model prog w) A (newFunctionEnv scope env.globals cl [] env.qual none .none (some env)) (fun cenv s₄ =>
      codeAny (model prog w) A (.compStart (.DictComp kx vx [⟨tg, iter, [], 0⟩] scope pos) 0 (.ref I) acc { cenv with scope := relabel scope env }) (RR acc cenv.locals) s₄) E s₃) E { s with heap := h0, toks := tk0 } := by
  refine wpAny_newObj_type (wpAny_newFunctionEnv hcell (by intro y hy; simp at hy) (fun h₁ hns₁ hsb₁ => ?_) hkind)
  dsimp only at hns₁ hsb₁ ⊢
  generalize hH2 : h0.push { cls := .type "dict", dict := none, data := .dict #[] } = H2 at hns₁ hsb₁ ⊢
  generalize hD : h0.objs.size = D
  generalize hC : H2.objs.size = C at hns₁ hsb₁ ⊢
  have hCD : C = D + 1 := by rw [← hC, ← hH2, Heap.size_push, hD]
  have hDC : @LT.lt Nat _ D C := by rw [hCD]; exact Nat.lt_succ_self _
  have hneDC : D ≠ C := Nat.ne_of_lt hDC
  have below : ∀ b o, h0.get? b = some o → b ≠ C ∧ b ≠ D := fun b o e => by
    have := Heap.lt_size e; rw [hD] at this; exact ⟨Nat.ne_of_lt (Nat.lt_trans this hDC), Nat.ne_of_lt this⟩
  have old : ∀ b o, h0.get? b = some o → h₁.get? b = some o := fun b o e => hsb₁.extBut b o (below b o e).1 (Heap.get?_push_of_some _ (hH2 ▸ Heap.get?_push_of_some _ e))
  have hacc : h₁.DictOf (PySem.strKind prog w) D [] := by
    have hnew : (h0.push { cls := .type "dict", dict := none, data := .dict #[] }).DictOf (PySem.strKind prog w) h0.objs.size [] := Heap.DictOf.new h0
    rw [hH2, hD] at hnew
    exact hnew.at fun o e => hsb₁.extBut _ _ hneDC (Heap.get?_push_of_some _ e)
  have hDs : (D == sysModules) = false := not_sys (let ⟨o, e⟩ := V.sm; ⟨o, k0 _ _ e⟩) (hD ▸ size_none h0)
  have kS : Kp s.heap h₁ := k0.trans old
  have fpC : ∀ b ∈ fp, b ≠ C ∧ b ≠ D := fun b hb => by obtain ⟨o, e⟩ := W.live 0 h0 i0 b hb; exact below b o e
  have wrC : ∀ b ∈ wr, b ≠ C ∧ b ≠ D := fun b hb => fpC b (W.sub b hb)
  have hCw : C ∉ wr := fun hm => (wrC C hm).1 rfl
  have hDw : D ∉ wr := fun hm => (wrC D hm).2 rfl
  have frD : s.heap.get? D = none := none_of_kp k0 (hD ▸ size_none h0)
  have frC : s.heap.get? C = none := none_of_kp k0 (by
    cases e : h0.get? C with
    | none => rfl
    | some o => have := Heap.lt_size e; rw [hD] at this; exact absurd (Nat.lt_trans this hDC) (Nat.lt_irrefl _))
  have inv1 : inv 0 h₁ := W.frame 0 h0 h₁ i0 fun b hb o e => old b o e
  generalize hN : wr ++ [C, D] = N
  have memN : ∀ b, b ∈ N ↔ b ∈ wr ∨ b = C ∨ b = D := fun b => by rw [← hN]; simp
  have memN' : ∀ b, b ∈ N → b ∈ wr ∨ C = b ∨ D = b := fun b hb => ((memN b).mp hb).imp_right fun h => h.imp Eq.symm Eq.symm
  have frN : ∀ a ∈ N, s.heap.get? a = none := fun a ha => by
    rcases memN' a ha with ha | rfl | rfl
    · exact fr a ha
    · exact frC
    · exact frD
  have exN : ∀ a ∈ N, ∃ o, h₁.get? a = some o := fun a ha => by
    rcases memN' a ha with ha | rfl | rfl
    · exact W.live 0 h₁ inv1 a (W.sub a ha)
    · obtain ⟨o, _, _, e, _⟩ := hns₁; exact ⟨o, e⟩
    · obtain ⟨o, _, _, e, _⟩ := hacc; exact ⟨o, e⟩
  have S1 : CS prog w H0 h₁ N M (compEnvC scope cl C env) σc (fun x => ([] : List (Str × Value)).reverse.lookup x) :=
    CS.start V kS frN exN hkind ((memN C).mpr (.inr (.inl rfl))) hns₁ caps htc
  have eN : ∀ L : List Addr, N ++ L = wr ++ ([C, D] ++ L) := fun L => by rw [← hN, List.append_assoc]
  -- the loop
  have loop : ∀ s₃ : Shared, s₃ = { s with heap := h₁, toks := tk0 + ([] : List (Str × Value)).length } →
      codeAny (model prog w) A (.compLoop (.DictComp kx vx [⟨tg, iter, [], 0⟩] scope pos) 0 (.ref I) (.ref D) (compEnvC scope cl C env)) (RR (.ref D) C) s₃ := by
    rintro s₃ rfl
    refine codeAny_compLoop_testsD' (fun n s' => ∃ i h tk m vs, s' = { s with heap := h, toks := tk } ∧ n + i = xs.length + 1 ∧ i ≤ xs.length ∧ CS prog w H0 h N M (compEnvC scope cl C env) σc m ∧ inv i h ∧ h.DictOf (PySem.strKind prog w) D vs ∧ vs.length ≤ i ∧
      RepKs prog w (hid h (N ++ M)) ((xs.take i).foldl (fun d p => dput d (fk p) (f p)) []) vs ∧ (∀ b o, b ∉ N → h₁.get? b = some o → h.get? b = some o)) ?_ (xs.length + 1)
      ⟨0, h₁, _, _, [], rfl, rfl, Nat.zero_le _, S1, inv1, hacc, Nat.zero_le _, rfl, fun _ _ _ e => e⟩
    rintro n s' J K E' hJ hK hRR
    refine LW.hideGoal fun GG hGG => ?_
    obtain ⟨i, h, tk, mi, vs, rfl, hn, hile, Si, hinv, hpl, hvl, hvs, hk⟩ := hRR
    refine hGG ?_
    clear hGG GG
    have kF : Kp (hid h0 (wr ++ M)) (hid h (wr ++ ([C, D] ++ M))) := fun b o e => by
      rw [hid_get] at e ⊢
      obtain ⟨h1, h2⟩ := below b o e.1
      have hbN : b ∉ N := fun hm => by
        rcases memN' b hm with hm | rfl | rfl
        · exact e.2 (List.mem_append_left _ hm)
        · exact h1 rfl
        · exact h2 rfl
      refine ⟨hk b o hbN (old b o e.1), fun hm => ?_⟩
      rw [← eN] at hm
      rcases List.mem_append.mp hm with hm | hm
      · exact hbN hm
      · exact e.2 (List.mem_append_right _ hm)
    have nsKeep : ∀ {h₂ : Heap}, (∀ b o, b ∉ wr → h.get? b = some o → h₂.get? b = some o) → h₂.Ns C mi := fun k => by
      have hns := Si.ns
      exact hns.at' fun o e => k C o hCw e
    have exs : ∀ a ∈ [C, D] ++ M, ∃ o, h.get? a = some o := fun a ha => Si.ex a (by rw [eN]; exact List.mem_append_right _ ha)
    by_cases hi : i < xs.length
    · refine LW.hideGoal fun GG hGG => ?_
      obtain ⟨p, hx⟩ : ∃ p, xs[i]? = some p := ⟨xs[i], List.getElem?_eq_getElem hi⟩
      obtain ⟨σp, hσt, hσv, ct, evk, ev⟩ := step C p (List.mem_of_getElem? hx)
      refine hGG ?_
      clear hGG GG
      refine W.item i p { s with heap := h, toks := tk } ([C, D] ++ M) _ _ hx hinv exs kF fun v h₂ t₂ rv hmid k2 => ?_
      refine W.go i v { s with heap := h₂, toks := t₂ } _ _ hmid fun h₃ hinv3 k3 => ?_
      have k23 : ∀ b o, b ∉ wr → h.get? b = some o → h₃.get? b = some o := fun b o hb e => k3 b o hb (k2 b o hb e)
      have S3 : CS prog w H0 h₃ N M (compEnvC scope cl C env) σc mi := by
        refine Si.chg (fun b o hb e => k23 b o (fun hw => hb ((memN b).mpr (.inl hw))) e) (nsKeep k23) (fun a ha => ?_) (fun x lv e => .inl ⟨e, fun _ => rfl⟩) rfl
        rcases memN' a ha with ha | rfl | rfl
        · exact W.live _ _ hinv3 a (W.sub a ha)
        · obtain ⟨o, e⟩ := Si.ex C (List.mem_append_left _ ha); exact ⟨o, k23 C o hCw e⟩
        · obtain ⟨o, e⟩ := Si.ex D (List.mem_append_left _ ha); exact ⟨o, k23 D o hDw e⟩
      have rv3 : RepV prog w (hid h₃ (N ++ M)) p v := by rw [eN]; exact RepV.mono (Kp.outside k3) _ _ rv
      have hpl3 : h₃.DictOf (PySem.strKind prog w) D vs := hpl.at fun o e => k23 D o hDw e
      have hvs3 : RepKs prog w (hid h₃ (N ++ M)) ((xs.take i).foldl (fun d p => dput d (fk p) (f p)) []) vs := by
        refine RepKs.mono ?_ _ _ hvs
        rw [eN]; exact Kp.outside k23
      refine ct.run H0 N M { s with heap := h₃, toks := t₂ } mi v _ _ S3 rv3 fun h₄ t₄ m₄ S4 k4 => ?_
      have k4C : ∀ b o, b ≠ C → h₃.get? b = some o → h₄.get? b = some o := k4
      have inv4 : inv (i + 1) h₄ := W.frame _ _ _ hinv3 fun b hb o e => k4C b o (fpC b hb).1 e
      have kN4 : Kp (hid h₃ (N ++ M)) (hid h₄ (N ++ M)) := Kp.outside fun b o hb e => k4C b o (fun e' => hb ((memN b).mpr (.inr (.inl e')))) e
      have hk4 : ∀ b o, b ∉ N → h₁.get? b = some o → h₄.get? b = some o := fun b o hb e =>
        k4C b o (fun e' => hb ((memN b).mpr (.inr (.inl e')))) (k23 b o (fun hw => hb ((memN b).mpr (.inl hw))) (hk b o hb e))
      refine wpAny_tests_nil ?_
      rw [if_pos rfl]
      refine evk.run { s with heap := h₄, toks := t₄ } (N ++ M) m₄ _ _ S4.vars fun yk h₅ t₅ k5 rk => ?_
      obtain ⟨tk', rfl⟩ := rk
      have S5 := S4.keeps k5
      refine ev.run { s with heap := h₅, toks := t₅ } (N ++ M) m₄ _ _ S5.vars fun y h₆ t₆ k6 ry => ?_
      have k56 := k5.trans k6
      have hpl6 : h₆.DictOf (PySem.strKind prog w) D vs := hpl3.at fun o e => k56 D o (k4C D o hneDC e)
      refine wpAny_dictSet_pairs (knd := PySem.strKind prog w) (strKind_is prog w (fk p) tk') hpl6 (fun h₇ hpl7 hs7 => ?_) (by omega)
      have kD : ∀ b o, b ≠ D → h₆.get? b = some o → h₇.get? b = some o := kb_of_sameBut hs7
      have kN7 : Kp (hid h₆ (N ++ M)) (hid h₇ (N ++ M)) := Kp.outside fun b o hb e => kD b o (fun e' => hb ((memN b).mpr (.inr (.inr e')))) e
      have S6 := S5.keeps k6
      refine hJ (n - 1) _ (by omega) ⟨i + 1, h₇, _, m₄, PySem.stored vs (fk p) y, rfl, by omega, hi, ?_, ?_, hpl7, ?_, ?_, fun b o hb e => kD b o (fun e' => hb ((memN b).mpr (.inr (.inr e')))) (k56 b o (hk4 b o hb e))⟩
      · refine S6.chg (σ' := σc) (fun b o hb e => kD b o (fun e' => hb ((memN b).mpr (.inr (.inr e')))) e) ?_ (fun a ha => ?_) (fun x lv e => .inl ⟨hσv x lv e, fun _ => rfl⟩) hσt.symm
        · have hns := S6.ns
          exact hns.at' fun o e => kD C o hneDC.symm e
        · by_cases e0 : a = D
          · obtain ⟨o, _, _, e, _⟩ := hpl7; exact ⟨o, e0 ▸ e⟩
          · obtain ⟨o, e⟩ := S6.ex a (List.mem_append_left _ ha); exact ⟨o, kD a o e0 e⟩
      · exact W.frame _ _ _ inv4 fun b hb o e => kD b o (fpC b hb).2 (k56 b o e)
      · have := stored_length_le vs (fk p) y; omega
      · rw [List.take_add_one, hx, List.foldl_append]
        exact RepKs.stored (RepKs.mono ((kN4.trans (k56.hid _)).trans kN7) _ _ hvs3) (RepV.mono kN7 _ _ ry)
    · have hi' : i = xs.length := by omega
      subst hi'
      refine W.done { s with heap := h, toks := tk } _ _ hinv fun h₈ t₈ k8 => ?_
      rw [List.take_length] at hvs
      refine hK _ (hRR D C h₈ t₈ mi frD frC hneDC.symm (fun b o e => ?_) (nsKeep k8) ⟨rfl, hDs, vs, hpl.at fun o e => k8 D o hDw e, RepKs.mono (fun b o e => ?_) _ _ hvs⟩)
      · have hbN : b ∉ N := fun hm => by rw [frN b hm] at e; cases e
        exact k8 b o (fun hw => hbN ((memN b).mpr (.inl hw))) (hk b o hbN (kS b o e))
      · rw [hid_get] at e ⊢
        refine ⟨k8 b o (fun hw => e.2 (List.mem_append_left _ ((memN b).mpr (.inl hw)))) e.1, fun hm => e.2 ?_⟩
        rcases memC hm with rfl | hm
        · exact List.mem_append_left _ ((memN D).mpr (.inr (.inr rfl)))
        · rcases memC hm with rfl | hm
          · exact List.mem_append_left _ ((memN C).mpr (.inr (.inl rfl)))
          · exact List.mem_append_right _ hm
  subst hD
  exact codeAny_compStart_dict (loop _ rfl) (W.self 0 _ _ _ inv1 (loop _ rfl))

theorem assign_dcomp {G : Heap} {kx vx tg iter : PySem.Expr} {scope : Scope} {cl : List (Str × Addr)} {y : Str} {py pos spos : Pos} {xs : List PV} {fk : PV → Str} {f : PV → PV} (C : CompOk prog w G A env σ σc tg iter [] scope cl)
    (hi : It prog w G A env σ False iter tg xs)
    (step : ∀ C p, p ∈ xs → ∃ σp, σp.t = σc.t ∧ (∀ x lv, σc.v.lookup x = some lv → σp.v.lookup x = some lv) ∧ CTgt prog w A (compEnvC scope cl C env) σc tg p σp ∧ Ev prog w G A (compEnvC scope cl C env) σp kx (.str (fk p)) ∧ Ev prog w G A (compEnvC scope cl C env) σp vx (f p)) (hsz : xs.length ≤ sizeLine)
    (hsw : swapsWith (.DictComp kx vx [⟨tg, iter, [], 0⟩] scope pos) (some (.Name y py)) spos.line env = pure true) (hy : storB env y = true) :
    Ex1 prog w A G env σ (.Assign [.Name y py] (.DictComp kx vx [⟨tg, iter, [], 0⟩] scope pos) spos) (.nx ⟨(y, .ow (.dct (xs.foldl (fun d p => dput d (fk p) (f p)) []))) :: σ.v, σ.t⟩) := .mk fun B s oa m Q E kg S q => by
  rw [exec_Assign_Name_used _ _ _ _ hsw]
  refine wpAny_bind (wpAny_standAt (wpAny_bind ?_))
  show wpAny _ A (do let _ ← comprehension (.DictComp kx vx [⟨tg, iter, [], 0⟩] scope pos) scope env _ newDict false (eval iter env) (some (assign (.Name y py) env))) _ _ s
  have V := S.vars kg
  refine wpAny_bind (wpAny_mono (wpAny_comprehension_free (use := some (assign (.Name y py) env)) (Q := fun _ s' => Q .next s') rfl C.fold C.clos C.kind C.names (hi.run s _ m _ _ V fun I fp wr inv mid h' tk k W i0 fr _ => ?_))
    (fun _ s' hq => wpAny_pure (wpAny_pure hq)) fun _ _ e => e)
  refine comp_dict (RR := fun acc Cc => compPost (model prog w) A E (some (assign (.Name y py) env)) (fun _ s' => Q .next s') acc Cc) V k W i0 fr C.cell C.kind C.caps C.htc step hsz fun D Cc h1 tk1 m' frD frC hne k1 hn ho => ?_
  exact use_store (Q := Q) S k1 frD frC hne hn ho hy q
end
end LW
namespace LW

/-- room for n calls in one another -/
noncomputable def Rm (A : Around) (n : Nat) : Prop := A.handled = none ∧ A.depth + n ≤ 900 ∧ A.units + 3 * n + 100 < cLine
theorem Rm.deeper {A : Around} {n : Nat} {env : Env} (r : Rm A (n + 1)) : Rm (A.deeper env) n := by
  obtain ⟨h1, h2, h3⟩ := r
  exact ⟨h1, by show A.depth + 1 + n ≤ 900; omega, by show A.units + 3 + 3 * n + 100 < cLine; omega⟩
theorem Rm.le {A : Around} {n k : Nat} (r : Rm A n) (h : k ≤ n) : Rm A k := ⟨r.1, by have := r.2.1; omega, by have := r.2.2; omega⟩

noncomputable abbrev fenv (sc : Scope) (L : Addr) (qual : Str) (fa : Addr) (code : Value) : Env := newEnv sc L mainGlobals (cellsFrom (L + 1) sc.names []) (qual ++ ".<locals>.") (some fa) code none builtinsNs

/-- a function of the module -/
inductive FunIt (G : Heap) (a : Addr) (ps : Arguments) (body : List Stmt) (sc : Scope) (dflt : Value) : Prop
  | mk (o : Obj) (nm q kd doc pm an code ct) (h1 : G.get? a = some o) (h2 : o.cls = .type "function") (h3 : o.dict = none) (h4 : o.data = .func ⟨nm, q, ps, .stmts body, sc, mainGlobals, [], dflt, kd, doc, pm, an, code, ct, builtinsNs⟩) (h5 : G.CodeRec code q)
structure FunR (G : Heap) (a : Addr) (ps : Arguments) (body : List Stmt) (sc : Scope) (dflt : Value) : Prop where
  it : FunIt G a ps body sc dflt
  lim : G.NoLimit

section
variable {prog : Program} {w : World} {A : Around} {G : Heap} {env : Env} {σ : Sy} {h h' : Heap} {M : List Addr} {m : Str → Option Value}

theorem bindL_skip {kindOf : Str → Option NameKind} {x : Str} : ∀ {binds : List (Str × Value)} {m : Str → Option Value}, (∀ y ∈ binds, y.1 ≠ x) → bindL kindOf binds m x = m x
  | [], m, _ => rfl
  | (n, v) :: r, m, h => by
    unfold bindL
    rw [bindL_skip fun y hy => h y (List.mem_cons_of_mem _ hy)]
    have hn : x ≠ n := fun e => h (n, v) List.mem_cons_self e.symm
    split
    · simp [hn]
    · rfl
theorem bindC_skip {kindOf : Str → Option NameKind} {x : Str} : ∀ {binds : List (Str × Value)} {m : Str → Option Value}, (∀ y ∈ binds, y.1 ≠ x) → bindC kindOf binds m x = m x
  | [], m, _ => rfl
  | (n, v) :: r, m, h => by
    unfold bindC
    rw [bindC_skip fun y hy => h y (List.mem_cons_of_mem _ hy)]
    have hn : x ≠ n := fun e => h (n, v) List.mem_cons_self e.symm
    split
    · rfl
    · simp [hn]
theorem bindL_get {kindOf : Str → Option NameKind} {x : Str} {v : Value} (hk : kindOf x = some .local) : ∀ {binds : List (Str × Value)} {m : Str → Option Value}, (binds.map (·.1)).Nodup → (x, v) ∈ binds → bindL kindOf binds m x = some v
  | (n, u) :: r, m, nd, hm => by
    rw [List.map_cons, List.nodup_cons] at nd
    unfold bindL
    rcases List.mem_cons.mp hm with e | hm
    · cases e
      rw [bindL_skip fun y hy e => nd.1 (List.mem_map.mpr ⟨y, hy, e⟩), if_pos hk]; simp
    · exact bindL_get hk nd.2 hm
theorem bindC_get {kindOf : Str → Option NameKind} {x : Str} {v : Value} (hk : kindOf x = some .cell) : ∀ {binds : List (Str × Value)} {m : Str → Option Value}, (binds.map (·.1)).Nodup → (x, v) ∈ binds → bindC kindOf binds m x = some v
  | (n, u) :: r, m, nd, hm => by
    rw [List.map_cons, List.nodup_cons] at nd
    unfold bindC
    rcases List.mem_cons.mp hm with e | hm
    · cases e
      rw [bindC_skip fun y hy e => nd.1 (List.mem_map.mpr ⟨y, hy, e⟩), if_neg (by rw [hk]; decide)]; simp
    · exact bindC_get hk nd.2 hm

/-- names with their plain values, and the values -/
inductive Binds (prog : Program) (w : World) (F : Heap) : List (Str × PV) → List (Str × Value) → Prop where
  | nil : Binds prog w F [] []
  | cons {x : Str} {p : PV} {v : Value} {l : List (Str × PV)} {b : List (Str × Value)} (r : RepV prog w F p v) (t : Binds prog w F l b) : Binds prog w F ((x, p) :: l) ((x, v) :: b)
theorem Binds.names {F : Heap} {l : List (Str × PV)} {b : List (Str × Value)} (x : Binds prog w F l b) : b.map (·.1) = l.map (·.1) := by
  induction x with
  | nil => rfl
  | cons r t ih => rw [List.map_cons, List.map_cons, ih]
theorem Binds.get {F : Heap} {l : List (Str × PV)} {b : List (Str × Value)} (x : Binds prog w F l b) {y : Str} {lv : LV} (e : (l.map fun z => (z.1, LV.im z.2)).lookup y = some lv) : ∃ p v, lv = .im p ∧ (y, v) ∈ b ∧ RepV prog w F p v := by
  induction x with
  | nil => cases e
  | @cons x p v l b r t ih =>
    rw [List.map_cons, List.lookup_cons] at e
    cases hb : y == x with
    | true => rw [hb] at e; cases e; rw [eq_of_beq hb]; exact ⟨p, v, rfl, List.mem_cons_self, r⟩
    | false => rw [hb] at e; obtain ⟨p', v', h1, h2, h3⟩ := ih e; exact ⟨p', v', h1, List.mem_cons_of_mem _ h2, h3⟩

noncomputable def kindsOk (sc : Scope) (l : List (Str × PV)) : Bool := l.all fun y => match sc.names.lookup y.1 with | some .local => true | some .cell => true | _ => false
theorem cellsFrom_some {x : Str} : ∀ {names : List (Str × NameKind)} {n : Nat} {acc : List (Str × Addr)}, ((x, NameKind.cell) ∈ names ∨ (acc.lookup x).isSome = true) → ((cellsFrom n names acc).lookup x).isSome = true
  | [], n, acc, h => by
    rcases h with h | h
    · cases h
    · exact h
  | (y, k) :: r, n, acc, h => by
    unfold cellsFrom
    split
    · rename_i hk
      refine cellsFrom_some ?_
      rcases h with h | h
      · rcases List.mem_cons.mp h with e | h
        · cases e; right; simp
        · exact .inl h
      · right
        rw [List.lookup_cons]
        split
        · rfl
        · exact h
    · rename_i hk
      refine cellsFrom_some ?_
      rcases h with h | h
      · rcases List.mem_cons.mp h with e | h
        · cases e; exact absurd rfl hk
        · exact .inl h
      · exact .inr h
theorem lookup_mem' {β : Type} {x : Str} {a : β} : ∀ {l : List (Str × β)}, l.lookup x = some a → (x, a) ∈ l
  | [], e => by cases e
  | (y, b) :: l, e => by
    rw [List.lookup_cons] at e
    cases hb : x == y with
    | true => rw [hb] at e; cases e; rw [eq_of_beq hb]; exact List.mem_cons_self
    | false => rw [hb] at e; exact List.mem_cons_of_mem _ (lookup_mem' e)

theorem cellsFrom_keys : ∀ (names : List (Str × NameKind)) (n k : Nat) (acc acc' : List (Str × Addr)), acc.map (·.1) = acc'.map (·.1) → (cellsFrom n names acc).map (·.1) = (cellsFrom k names acc').map (·.1)
  | [], n, k, acc, acc', h => h
  | (y, kd) :: r, n, k, acc, acc', h => by
    unfold cellsFrom
    split
    · exact cellsFrom_keys r _ _ _ _ (by rw [List.map_cons, List.map_cons, h])
    · exact cellsFrom_keys r _ _ _ _ h
theorem lookup_of_mem : ∀ {l : List (Str × Addr)}, (l.map (·.1)).Nodup → ∀ {x : Str} {a : Addr}, (x, a) ∈ l → l.lookup x = some a
  | (y, b) :: l, nd, x, a, h => by
    rw [List.map_cons, List.nodup_cons] at nd
    rw [List.lookup_cons]
    rcases List.mem_cons.mp h with e | h
    · cases e; simp
    · have : x ≠ y := fun e => nd.1 (List.mem_map.mpr ⟨_, h, e⟩)
      rw [beq_false_of_ne this]; exact lookup_of_mem nd.2 h

/-- what is asked of a function's names -/
structure ScOk (sc : Scope) : Prop where
  kind : sc.kind = .function
  nofree : ∀ y ∈ sc.names, y.2 ≠ .free
  keys : ((cellsFrom 0 sc.names []).map (·.1)).Nodup

/-- the beginning of a call's frame -/
theorem enter {s s₁ : Shared} {X : List Addr} {t : List (Addr × PV)} {l : List (Str × PV)} {binds : List (Str × Value)} {sc : Scope} {L : Addr} {qual : Str} {fa : Addr} {code : Value} (hs : ScOk sc)
    (x : InCallC s (fenv sc L qual fa code).locals (bindL (fenv sc L qual fa code).kindOf binds fun _ => none) (fenv sc L qual fa code).cells (bindC (fenv sc L qual fa code).kindOf binds fun _ => none) s₁)
    (MX : ∀ a, a ∈ M ↔ a ∈ X ∨ a ∈ t.map (·.1)) (ap : ∀ a ∈ t.map (·.1), a ∉ X) (nd : (t.map (·.1)).Nodup) (ex : ∀ a ∈ M, ∃ o, s.heap.get? a = some o) (sm : ∃ o, s.heap.get? sysModules = some o)
    (hb : Binds prog w (hid s.heap M) l binds) (hnd : (l.map (·.1)).Nodup) (hko : kindsOk sc l = true) (th : ∀ y ∈ t, OwnV prog w s.heap M y.1 (.ref y.1) y.2) :
    St prog w ⟨hid s.heap M, X, s.heap⟩ (fenv sc L qual fa code) ⟨l.map fun y => (y.1, .im y.2), t⟩ s₁.heap [] (bindL (fenv sc L qual fa code).kindOf binds fun _ => none) := by
  have kp : Kp s.heap s₁.heap := x.toInCall.keep
  have frL : ∀ b, L ≤ b → s.heap.get? b = none := fun b hb => by
    cases e : s.heap.get? b with
    | none => rfl
    | some o => exact absurd (Nat.lt_of_lt_of_le (Heap.lt_size e) x.toInCall.fresh) (Nat.not_lt.mpr hb)
  have keys : ((fenv sc L qual fa code).cells.map (·.1)).Nodup := by
    have := cellsFrom_keys sc.names (L + 1) 0 [] [] rfl
    show ((cellsFrom (L + 1) sc.names []).map (·.1)).Nodup
    rw [this]; exact hs.keys
  have hcells : ∀ y ∈ cellsOf (fenv sc L qual fa code), L < y.2 ∧ ∃ v, s₁.heap.IsCell y.2 v := fun y hy => by
    obtain ⟨h1, h2⟩ := List.mem_filter.mp hy
    exact ⟨x.above y.1 y.2 h1, _, x.cell y.1 y.2 (lookup_of_mem keys h1)⟩
  have own : ∀ a ∈ ownA (fenv sc L qual fa code) [] t, (L ≤ a ∧ ∃ o, s₁.heap.get? a = some o) ∨ a ∈ t.map (·.1) := fun a ha => by
    rcases memC ha with rfl | ha
    · obtain ⟨o, _, _, e, _⟩ := x.toInCall.ns; exact .inl ⟨Nat.le_refl _, o, e⟩
    rcases List.mem_append.mp ha with ha | ha
    · refine LW.hideGoal fun GG hGG => ?_
      obtain ⟨y, hy, rfl⟩ := List.mem_map.mp ha
      obtain ⟨h1, v, o, e, _⟩ := hcells y hy
      refine hGG ?_
      clear hGG GG
      exact .inl ⟨Nat.le_of_lt h1, o, e⟩
    rcases List.mem_append.mp ha with ha | ha
    · cases ha
    · exact .inr ha
  have kM : Kp (hid s.heap M) (hid s₁.heap (Mu (fenv sc L qual fa code) ⟨hid s.heap M, X, s.heap⟩ [] t)) := fun b o e => by
    rw [hid_get] at e ⊢
    refine ⟨kp b o e.1, fun hm => ?_⟩
    rcases List.mem_append.mp hm with hm | hm
    · exact e.2 ((MX b).mpr (.inl hm))
    · rcases own b hm with ⟨hl, _⟩ | hm
      · rw [frL b hl] at e; cases e.1
      · exact e.2 ((MX b).mpr (.inr hm))
  have exT : ∀ a ∈ t.map (·.1), ∃ o, s.heap.get? a = some o := fun a ha => ex a ((MX a).mpr (.inr ha))
  refine ⟨hs.kind, rfl, rfl, kM, fun a ha => ?_, x.toInCall.ns, let ⟨o, e⟩ := sm; ⟨o, kp _ _ e⟩, fun y e => ?_, ?_, fun a ha hX => ?_, fun a ha => ?_, fun y hy => (hcells y hy).2, fun y lv e => ?_, fun y hy => (th y hy).move (fun o => kp y.1 o) kM⟩
  · obtain ⟨o, e⟩ := ex a ((MX a).mpr (.inl ha)); exact ⟨o, e, kp _ _ e⟩
  · exact hs.nofree _ (lookup_mem' e) rfl
  · show (L :: ((cellsOf (fenv sc L qual fa code)).map (·.2) ++ ([] ++ t.map (·.1)))).Nodup
    rw [List.nodup_cons, List.nodup_append]
    refine ⟨fun hm => ?_, ?_, by simpa using nd, ?_⟩
    · rcases List.mem_append.mp hm with hm | hm
      · obtain ⟨y, hy, e⟩ := List.mem_map.mp hm
        have := (hcells y hy).1; rw [e] at this; exact Nat.lt_irrefl _ this
      · obtain ⟨o, e⟩ := exT L (by simpa using hm); rw [frL L (Nat.le_refl _)] at e; cases e
    · have : (cellsOf (fenv sc L qual fa code)).Pairwise fun a b => a.2 ≠ b.2 := List.Pairwise.sublist List.filter_sublist x.apart
      exact List.pairwise_map.mpr this
    · intro a ha b hb' e
      refine LW.hideGoal fun GG hGG => ?_
      obtain ⟨y, hy, e'⟩ := List.mem_map.mp ha
      obtain ⟨o, eo⟩ := exT b (by simpa using hb')
      refine hGG ?_
      clear hGG GG
      have := (hcells y hy).1
      rw [e', e] at this
      rw [frL b (Nat.le_of_lt this)] at eo; cases eo
  · rcases own a ha with ⟨hl, _⟩ | hm
    · obtain ⟨o, e⟩ := ex a ((MX a).mpr (.inl hX)); rw [frL a hl] at e; cases e
    · exact ap a hm hX
  · rcases own a ha with ⟨_, h⟩ | hm
    · exact h
    · obtain ⟨o, e⟩ := exT a hm; exact ⟨o, kp _ _ e⟩
  · refine LW.hideGoal fun GG hGG => ?_
    obtain ⟨p, v, rfl, hm, r⟩ := hb.get e
    refine hGG ?_
    clear hGG GG
    refine ⟨v, ?_, RepV.mono kM _ _ r⟩
    have nd' : (binds.map (·.1)).Nodup := by rw [hb.names]; exact hnd
    have hin : y ∈ l.map (·.1) := by rw [← hb.names]; exact List.mem_map.mpr ⟨_, hm, rfl⟩
    obtain ⟨z, hz, rfl⟩ := List.mem_map.mp hin
    have hk1 := List.all_eq_true.mp hko z hz
    split at hk1
    · rename_i hk
      exact .inl ⟨hk, bindL_get hk nd' hm⟩
    · rename_i hk
      have hsome : ((fenv sc L qual fa code).cells.lookup z.1).isSome = true := cellsFrom_some (.inl (lookup_mem' hk))
      obtain ⟨c, hc⟩ := Option.isSome_iff_exists.mp hsome
      refine .inr ⟨.inl hk, c, hc, ?_⟩
      have := x.cell z.1 c hc
      rwa [bindC_get (kindOf := (fenv sc L qual fa code).kindOf) hk nd' hm] at this
    · cases hk1

/-- what a call asks and gives; the things t may be changed -/
noncomputable def CallT (prog : Program) (w : World) (G : Heap) (n : Nat) (f : Value) (ps : List PV) (kws : List (Str × PV)) (t : List (Addr × PV)) (r : PV) (t' : List (Addr × PV)) : Prop :=
  ∀ (A : Around) (s : Shared) (M X : List Addr) (vs : List Value) (kvs : List (Str × Value)) (Q : Value → Shared → Prop) (E : Value → Shared → Prop), Rm A n → Kp G (hid s.heap M) → (∃ o, s.heap.get? sysModules = some o) → (∀ a ∈ M, ∃ o, s.heap.get? a = some o) →
    (∀ a, a ∈ M ↔ a ∈ X ∨ a ∈ t.map (·.1)) → (∀ a ∈ t.map (·.1), a ∉ X) → (t.map (·.1)).Nodup → (∀ y ∈ t, OwnV prog w s.heap M y.1 (.ref y.1) y.2) → RepVs prog w (hid s.heap M) ps vs → RepKs prog w (hid s.heap M) kws kvs →
    (∀ v h' tk, (∀ b o, b ∉ t.map (·.1) → s.heap.get? b = some o → h'.get? b = some o) → RepV prog w (hid h' M) r v → (∀ y ∈ t', OwnV prog w h' M y.1 (.ref y.1) y.2) → Q v { s with heap := h', toks := tk }) →
    wpAny (model prog w) A (call f vs kvs) Q E s

theorem CallT.of {a : Addr} {ps : Arguments} {body : List Stmt} {sc : Scope} {dflt : Value} {n : Nat} {pvs : List PV} {kws : List (Str × PV)} {t t' : List (Addr × PV)} {l : List (Str × PV)} {out : Out} {r : PV} (F : FunR G a ps body sc dflt) (hs : ScOk sc)
    (hb : ∀ (s : Shared) (M : List Addr) (vs : List Value) (kvs : List (Str × Value)), Kp G (hid s.heap M) → RepVs prog w (hid s.heap M) pvs vs → RepKs prog w (hid s.heap M) kws kvs → ∃ binds, Binds prog w (hid s.heap M) l binds ∧
      ∀ nm q kd doc pm an code ct, BindsTo s ⟨nm, q, ps, .stmts body, sc, mainGlobals, [], dflt, kd, doc, pm, an, code, ct, builtinsNs⟩ ⟨vs, kvs⟩ binds)
    (hnd : (l.map (·.1)).Nodup) (hko : kindsOk sc l = true) (ht : t'.map (·.1) = t.map (·.1)) (hout : out = .rt r t' ∨ (r = .none ∧ ∃ σ, out = .nx σ ∧ σ.t = t'))
    (hbody : ∀ A L qual code, Rm A n → Ex prog w A G (fenv sc L qual a code) ⟨l.map fun y => (y.1, .im y.2), t⟩ body out)
    (hco : sc.isCoroutine = false := by rfl) (hgen : sc.isGenerator = false := by rfl) : CallT prog w G (n + 1) (.ref a) pvs kws t r t' := by
  intro A s M X vs kvs Q E hA kg sm ex MX ap nd th rv rk q
  refine LW.hideGoal fun GG hGG => ?_
  obtain ⟨o, nm, qn, kd, doc, pm, an, code, ct, ho, hcls, hdict, hdata, hcode⟩ := F.it
  obtain ⟨binds, hbs, hbt⟩ := hb s M vs kvs kg rv rk
  refine hGG ?_
  clear hGG GG
  have kgs : Kp G s.heap := kg.trans (Kp.ofHid _ _)
  refine wpAny_call (codeAny_call_function (by have := hA.2.1; show A.depth < 1000; omega) (kgs _ _ ho) hdata hco hgen rfl (hcode.keeps kgs) (hbt nm qn kd doc pm an code ct _ _ _ _ ?_))
  refine wpAny_newFunctionEnv_cells hs.kind (fun y hy => ?_) fun env he s' x => ?_
  · have hin : y.1 ∈ l.map (·.1) := by rw [← hbs.names]; exact List.mem_map.mpr ⟨_, hy, rfl⟩
    obtain ⟨z, hz, ez⟩ := List.mem_map.mp hin
    have hk1 := List.all_eq_true.mp hko z hz
    rw [ez] at hk1
    split at hk1
    · rename_i hk; exact .inl hk
    · rename_i hk; exact .inr ⟨hk, cellsFrom_some (.inl (lookup_mem' hk))⟩
    · cases hk1
  · subst he
    refine ⟨(F.lim.keeps kgs).keeps x.toInCall.keep, codeAny_func ?_⟩
    have S := enter (prog := prog) (w := w) (qual := qn) (fa := a) (code := code) (L := s.heap.objs.size) hs x MX ap nd ex sm hbs hnd hko th
    obtain ⟨h₁, t₁, es⟩ := x.toInCall.same
    subst es
    refine (hbody (A.deeper _) s.heap.objs.size qn code hA.deeper).run ⟨hid s.heap M, X, s.heap⟩ { s with heap := h₁, toks := t₁ } [] _ _ _ kg S fun f h' tk P => ?_
    have fin : ∀ {v : Value}, RtOk prog w ⟨hid s.heap M, X, s.heap⟩ h' r t' v → Q v { s with heap := h', toks := tk } := fun {v} R => by
      have eqM : ∀ b, b ∈ X ++ t'.map (·.1) ↔ b ∈ M := fun b => by rw [ht, List.mem_append]; exact (MX b).symm
      refine q v h' tk (fun b o hbt e => ?_) (RepV.mono (Kp.hidSub h' fun b hb => (eqM b).mpr hb) _ _ R.val) fun y hy => (R.th y hy).less fun b hb => (eqM b).mpr hb
      by_cases hbM : b ∈ M
      · rcases (MX b).mp hbM with hX | hT
        · obtain ⟨o', e1, e2⟩ := R.px b hX
          rw [e] at e1; cases e1; exact e2
        · exact (hbt hT).elim
      · exact Kp.ofHid _ _ b o (R.base b o (hid_get.mpr ⟨e, hbM⟩))
    rcases hout with rfl | ⟨rfl, σ', rfl, hσ⟩
    · obtain ⟨v, rfl, R⟩ := P
      exact fin R
    · obtain ⟨rfl, oa', m', S'⟩ := P
      have R := S'.fin (p := .none) (v := .none) rfl
      rw [hσ] at R
      exact fin R
end
end LW
namespace LW

noncomputable def pB : List Stmt := PySem.Challenge.pw_wf0111_01.main.body
noncomputable def dA (i : Nat) : Arguments := match pB[i]? with | some (.FunctionDef _ a _ _ _ _ _ _ _ _) => a | _ => default
noncomputable def dB (i : Nat) : List Stmt := match pB[i]? with | some (.FunctionDef _ _ b _ _ _ _ _ _ _) => b | _ => []
noncomputable def dS (i : Nat) : Scope := match pB[i]? with | some (.FunctionDef _ _ _ _ _ _ s _ _ _) => s | _ => default

section
variable {prog : Program} {w : World} {A : Around} {G : Heap} {env : Env} {σ : Sy} {h h' : Heap} {M : List Addr} {m : Str → Option Value}

theorem isFunc {a : Addr} {ps : Arguments} {body : List Stmt} {sc : Scope} {dflt : Value} (F : FunR G a ps body sc dflt) : ∃ o fd, G.get? a = some o ∧ o.data = .func fd := by
  refine LW.hideGoal fun GG hGG => ?_
  obtain ⟨o, nm, q, kd, doc, pm, an, code, ct, h1, _, _, h2, _⟩ := F.it
  refine hGG ?_
  clear hGG GG
  exact ⟨o, _, h1, h2⟩

/-- a call of a function that changes nothing -/
theorem Ev.callF {x : Str} {np pos : Pos} {es : List PySem.Expr} {ps : List PV} {r : PV} {a : Addr} {n : Nat} {o : Obj} {fd : FuncData} (hf : Ev prog w G A env σ (.Name x np) (.raw (.ref a))) (ho : G.get? a = some o) (hd : o.data = .func fd)
    (hc : CallT prog w G n (.ref a) ps [] [] r []) (hes : EvL prog w G A env σ pos es ps) (hA : Rm A n) (hform : ∃ t rest, backTo pos (starEach es env) = (false, t) :: rest := by exact ⟨_, _, rfl⟩) :
    Ev prog w G A env σ (.Call (.Name x np) es [] pos) r := .mk fun s M m Q E V q => by
  rw [arm_eval_Call_Name']
  refine wpAny_bind (hf.run s M m _ _ V fun f h₁ t₁ k₁ rf => ?_)
  obtain rfl : f = .ref a := rf
  obtain ⟨t, rest, hf'⟩ := hform
  show wpAny _ A (callWith pos (.ref a) [] (backTo pos (starEach es env)) []) Q E _
  have V1 := V.keeps k₁
  refine Calls.callWith_function (o := o) (fd := fd) ?_
  have key := hes.run { s with heap := h₁, toks := t₁ } M m (fun vs s' => (s'.heap.get? a = some o ∧ o.data = .func fd) ∧ wpAny (model prog w) A (call (.ref a) ([] ++ vs) []) Q E s') E V1 fun vs h₂ t₂ k₂ rv => ?_
  · rw [hf'] at key ⊢
    exact Calls.evalArgs_plain key
  · have V2 := V1.keeps k₂
    refine ⟨⟨V2.kp _ _ ho, hd⟩, ?_⟩
    rw [List.nil_append]
    exact hc A { s with heap := h₂, toks := t₂ } M M vs [] Q E hA V2.base V2.sm V2.ex (fun a => by simp) (by simp) (by simp) (by simp) rv rfl fun v h₃ t₃ k₃ rv' _ => q v h₃ t₃ ((k₁.trans k₂).trans fun b o e => k₃ b o (by simp) e) rv'
end

/-- binds of a function without defaults -/
theorem binds1 {prog : Program} {w : World} {F : Heap} {x : Str} {p : PV} {vs : List Value} (r : RepVs prog w F [p] vs) : ∃ v, vs = [v] ∧ Binds prog w F [(x, p)] [(x, v)] := by
  obtain ⟨v, r, rfl, hv, rfl⟩ := r; exact ⟨v, rfl, .cons hv .nil⟩
theorem binds2 {prog : Program} {w : World} {F : Heap} {x y : Str} {p q : PV} {vs : List Value} (r : RepVs prog w F [p, q] vs) : ∃ v u, vs = [v, u] ∧ Binds prog w F [(x, p), (y, q)] [(x, v), (y, u)] := by
  obtain ⟨v, r, rfl, hv, u, r', rfl, hu, rfl⟩ := r; exact ⟨v, u, rfl, .cons hv (.cons hu .nil)⟩

theorem sc_lines : ScOk (dS 69) := ⟨rfl, by decide +kernel, by decide +kernel⟩

section
variable {prog : Program} {w : World} {G : Heap}
noncomputable def lefts : List Str := ["f", "i", "k", "l", "m", "s", "fi", "fl", "il", "km"]
noncomputable def rights : List Str := ["i", "k", "l", "m", "s", "t", "kl", "km", "lm", "st"]
noncomputable def marks : List Str := ["->", "->", "->", ":=", "|=", "-="]

end
end LW
namespace LW
section
variable {prog : Program} {w : World} {A : Around} {G H0 : Heap} {env : Env} {σ σc : Sy} {h h' : Heap} {M : List Addr} {m : Str → Option Value}

noncomputable def back {α β : Type} (inj : α → PV) (f : α → β) (d : β) (p : PV) : β := by
  classical exact if h : ∃ a, inj a = p then f (Classical.choose h) else d
theorem back_eq {α β : Type} {inj : α → PV} (hinj : ∀ a b, inj a = inj b → a = b) (f : α → β) (d : β) (a : α) : back inj f d (inj a) = f a := by
  classical
  unfold back
  have h : ∃ b, inj b = inj a := ⟨a, rfl⟩
  rw [dif_pos h, hinj _ _ (Classical.choose_spec h)]

noncomputable def StepM {α : Type} (prog : Program) (w : World) (H0 : Heap) (A : Around) (env : Env) (σc : Sy) (tg elt : PySem.Expr) (ifs : List PySem.Expr) (scope : Scope) (cl : List (Str × Addr)) (l : List α) (inj : α → PV) (g : α → Bool) (f : α → PV) : Prop :=
  ∀ C a, a ∈ l → ∃ σp, σp.t = σc.t ∧ (∀ x lv, σc.v.lookup x = some lv → σp.v.lookup x = some lv) ∧ CTgt prog w A (compEnvC scope cl C env) σc tg (inj a) σp ∧ TstL prog w H0 A (compEnvC scope cl C env) σp ifs (g a) ∧
      (g a = true → Ev prog w H0 A (compEnvC scope cl C env) σp elt (f a))
theorem StepM.ok {α : Type} {tg elt : PySem.Expr} {ifs : List PySem.Expr} {scope : Scope} {cl : List (Str × Addr)} {l : List α} {inj : α → PV} {g : α → Bool} {f : α → PV} (hinj : ∀ a b, inj a = inj b → a = b)
    (s : StepM prog w H0 A env σc tg elt ifs scope cl l inj g f) : StepOk prog w H0 A env σc tg elt ifs scope cl (l.map inj) (back inj g true) (back inj f .none) := fun C p hp => by
  obtain ⟨a, ha, rfl⟩ := List.mem_map.mp hp
  rw [back_eq hinj, back_eq hinj]
  exact s C a ha
theorem back_list {α : Type} {inj : α → PV} (hinj : ∀ a b, inj a = inj b → a = b) (g : α → Bool) (f : α → PV) : ∀ l : List α, ((l.map inj).filter (back inj g true)).map (back inj f .none) = (l.filter g).map f
  | [] => rfl
  | a :: l => by
    rw [List.map_cons, List.filter_cons, List.filter_cons, back_eq hinj]
    split
    · rw [List.map_cons, List.map_cons, back_eq hinj, back_list hinj g f l]
    · exact back_list hinj g f l

theorem EvN.compM {α : Type} {elt tg iter : PySem.Expr} {ifs : List PySem.Expr} {scope : Scope} {cl : List (Str × Addr)} {pos : Pos} {l : List α} {inj : α → PV} {g : α → Bool} {f : α → PV} (hinj : ∀ a b, inj a = inj b → a = b) (C : CompOk prog w H0 A env σ σc tg iter ifs scope cl)
    (hi : It prog w H0 A env σ False iter tg (l.map inj)) (step : StepM prog w H0 A env σc tg elt ifs scope cl l inj g f) (hsz : l.length ≤ sizeLine) : EvN prog w H0 A env σ (.ListComp elt [⟨tg, iter, ifs, 0⟩] scope pos) (.lst ((l.filter g).map f)) := by
  rw [← back_list hinj g f l]
  exact EvN.comp C hi (step.ok hinj) (by rw [List.length_map]; exact hsz)
theorem assign_compM {α : Type} {elt tg iter : PySem.Expr} {ifs : List PySem.Expr} {scope : Scope} {cl : List (Str × Addr)} {y : Str} {py pos spos : Pos} {l : List α} {inj : α → PV} {g : α → Bool} {f : α → PV} (hinj : ∀ a b, inj a = inj b → a = b) (C : CompOk prog w G A env σ σc tg iter ifs scope cl)
    (hi : It prog w G A env σ False iter tg (l.map inj)) (step : StepM prog w G A env σc tg elt ifs scope cl l inj g f) (hsz : l.length ≤ sizeLine)
    (hsw : swapsWith (.ListComp elt [⟨tg, iter, ifs, 0⟩] scope pos) (some (.Name y py)) spos.line env = pure true := by rfl) (hy : storB env y = true := by rfl) :
    Ex1 prog w A G env σ (.Assign [.Name y py] (.ListComp elt [⟨tg, iter, ifs, 0⟩] scope pos) spos) (.nx ⟨(y, .ow (.lst ((l.filter g).map f))) :: σ.v, σ.t⟩) := by
  rw [← back_list hinj g f l]
  exact assign_comp C hi (step.ok hinj) (by rw [List.length_map]; exact hsz) hsw hy
theorem cons_fresh {y : Str} {a : LV} {l : List (Str × LV)} (h : l.lookup y = none) : ∀ x lv, l.lookup x = some lv → ((y, a) :: l).lookup x = some lv := fun x lv e => by
  rw [List.lookup_cons]
  by_cases hx : x = y
  · subst hx; rw [h] at e; cases e
  · rw [beq_false_of_ne hx]; exact e
theorem cons_fresh2 {y z : Str} {a b : LV} {l : List (Str × LV)} (h : l.lookup y = none) (h2 : l.lookup z = none) : ∀ x lv, l.lookup x = some lv → ((y, a) :: (z, b) :: l).lookup x = some lv := fun x lv e => by
  rw [List.lookup_cons, List.lookup_cons]
  by_cases hx : x = y
  · subst hx; rw [h] at e; cases e
  · by_cases hz : x = z
    · subst hz; rw [h2] at e; cases e
    · rw [beq_false_of_ne hx, beq_false_of_ne hz]; exact e
theorem cons_fresh3 {y z u : Str} {a b c : LV} {l : List (Str × LV)} (h : l.lookup y = none) (h2 : l.lookup z = none) (h3 : l.lookup u = none) : ∀ x lv, l.lookup x = some lv → ((y, a) :: (z, b) :: (u, c) :: l).lookup x = some lv := fun x lv e => by
  rw [List.lookup_cons, List.lookup_cons, List.lookup_cons]
  by_cases hx : x = y
  · subst hx; rw [h] at e; cases e
  · by_cases hz : x = z
    · subst hz; rw [h2] at e; cases e
    · by_cases hu : x = u
      · subst hu; rw [h3] at e; cases e
      · rw [beq_false_of_ne hx, beq_false_of_ne hz, beq_false_of_ne hu]; exact e
theorem fmod_pos {a b : Int} (hb : 0 ≤ b) : a.fmod b = a % b := Int.fmod_eq_emod_of_nonneg a hb
theorem fdiv_pos {a b : Int} (hb : 0 ≤ b) : a.fdiv b = a / b := Int.fdiv_eq_ediv_of_nonneg a hb
theorem inj_int : ∀ a b : Int, PV.int a = PV.int b → a = b := fun a b e => PV.int.inj e

/-- items of a list of known texts -/
theorem get_str {l : List Str} {k : Nat} (h : k < l.length) : (l.map PV.str)[k]? = some (.str (l.getD k default)) := by
  rw [List.getElem?_map, List.getElem?_eq_getElem h, List.getD_eq_getElem?_getD, List.getElem?_eq_getElem h]; rfl

theorem ItOk.strs {l : List Str} {i : Int} {k : Nat} (hk : i = k) (h : k < l.length) (hl : l.length < 1000) : ItOk prog w A (.lst (l.map .str)) (.int i) (.str (l.getD k default)) := by
  subst hk
  refine ItOk.lst (by omega) (by rw [Int.toNat_natCast]; exact get_str h) ?_
  have : ((k : Nat) : Int) < 1000 := by omega
  exact Int.lt_trans this (by decide)

noncomputable def linesOf (numbers : List Int) : List (Str × Str × Str) := numbers.map fun n => (lefts.getD (n.toNat % 10) default, marks.getD (n.toNat / 100 % 6) default, rights.getD (n.toNat / 10 % 10) default)
noncomputable def pvLine (x : Str × Str × Str) : PV := .tup [.str x.1, .str x.2.1, .str x.2.2]

theorem body_lines {L : Addr} {qual : Str} {fa : Addr} {code : Value} {numbers : List Int} (hA : A.handled = none) (hn : ∀ i ∈ numbers, 0 ≤ i) (hl : numbers.length ≤ 1000) :
    Ex prog w A G (fenv (dS 69) L qual fa code) ⟨[("numbers", .im (.lst (numbers.map .int)))], []⟩ (dB 69) (.rt (.lst ((linesOf numbers).map pvLine)) []) := by
  refine Ex.step rfl (Ex1.assign (EvN.list (ps := lefts.map .str) ?_).ev) ?_
  · repeat (first | exact EvL.nil | refine EvL.cons Ev.str ?_)
  refine Ex.step rfl (Ex1.assign (EvN.list (ps := rights.map .str) ?_).ev) ?_
  · repeat (first | exact EvL.nil | refine EvL.cons Ev.str ?_)
  refine Ex.step rfl (Ex1.assign (EvN.list (ps := marks.map .str) ?_).ev) ?_
  · repeat (first | exact EvL.nil | refine EvL.cons Ev.str ?_)
  have key : (linesOf numbers).map pvLine = (numbers.filter fun _ => true).map fun n => pvLine (lefts.getD (n.toNat % 10) default, marks.getD (n.toNat / 100 % 6) default, rights.getD (n.toNat / 10 % 10) default) := by
    rw [List.filter_eq_self.mpr (by simp)]; unfold linesOf; rw [List.map_map]; rfl
  rw [key]
  refine Ex.last rfl (Ex1.ret (EvN.ev ?_))
  refine (EvN.compM (σc := ⟨[("lefts", .im (.lst (lefts.map .str))), ("signs", .im (.lst (marks.map .str))), ("rights", .im (.lst (rights.map .str)))], []⟩) inj_int
    ⟨rfl, by decide +kernel, rfl, by decide +kernel, ?_, rfl, fun _ => rfl⟩ (It.list hA (Ev.name rfl)) ?_ (Nat.le_trans hl (by decide)))
  · exact ⟨⟨rfl, .inl rfl, rfl, rfl⟩, ⟨rfl, .inl rfl, rfl, rfl⟩, ⟨rfl, .inl rfl, rfl, rfl⟩, trivial⟩
  · intro C n hnm
    have h0 := hn n hnm
    refine ⟨⟨("number", .im (.int n)) :: _, []⟩, rfl, ?_, CTgt.name, rfl, fun _ => ?_⟩
    · exact cons_fresh rfl
    · refine Ev.tuple (EvL.cons (Ev.sub (ItOk.strs (k := n.toNat % 10) ?_ ?_ (by decide)) (Ev.name rfl).rd (Ev.modI (Ev.name rfl) Ev.int (by decide)).rd)
        (EvL.cons (Ev.sub (ItOk.strs (k := n.toNat / 100 % 6) ?_ ?_ (by decide)) (Ev.name rfl).rd (Ev.modI (Ev.divI (Ev.name rfl) Ev.int (by decide) (by decide)) Ev.int (by decide)).rd)
        (EvL.cons (Ev.sub (ItOk.strs (k := n.toNat / 10 % 10) ?_ ?_ (by decide)) (Ev.name rfl).rd (Ev.modI (Ev.divI (Ev.name rfl) Ev.int (by decide) (by decide)) Ev.int (by decide)).rd) EvL.nil)))
      · rw [fmod_pos (by decide)]; omega
      · exact Nat.mod_lt _ (by decide)
      · rw [fmod_pos (by decide), fdiv_pos (by decide)]; omega
      · exact Nat.mod_lt _ (by decide)
      · rw [fmod_pos (by decide), fdiv_pos (by decide)]; omega
      · exact Nat.mod_lt _ (by decide)
end
end LW
namespace LW
section
variable {prog : Program} {w : World} {A : Around} {G H0 : Heap} {env : Env} {σ σc : Sy} {h h' : Heap} {M : List Addr} {m : Str → Option Value}

theorem EvN.addL {l r : PySem.Expr} {pos : Pos} {ps qs : List PV} (hl : Rd prog w H0 A env σ l (.lst ps)) (hr : Rd prog w H0 A env σ r (.lst qs)) (hsz : ps.length + qs.length ≤ sizeLine) : EvN prog w H0 A env σ (.BinOp l .Add r pos) (.lst (ps ++ qs)) := .mk fun s M m Q E V q =>
  wpAny_BinOp (ev_two hl hr V fun a b h₁ t₁ k₁ ra rb => by
    refine LW.hideGoal fun GG hGG => ?_
    obtain ⟨x, vs, rfl, ⟨n, hx⟩, rx⟩ := ra
    obtain ⟨y, us, rfl, ⟨n2, hy⟩, ry⟩ := rb
    refine hGG ?_
    clear hGG GG
    refine P.add_list (items := vs.toArray) (items2 := us.toArray) hx hy ?_ (by rw [List.size_toArray, List.size_toArray, rx.length, ry.length]; exact hsz)
    refine q h₁.objs.size _ _ t₁ (k₁.trans (Kp.push h₁ _)) (none_of_kp k₁ (size_none h₁)) ?_
    have e : vs.toArray ++ us.toArray = (vs ++ us).toArray := by simp
    show OwnV prog w (h₁.push { cls := .type "list", data := .seq (vs.toArray ++ us.toArray) }) _ _ _ _
    rw [e]
    exact ownList (rx.append ry))

theorem call_typE {x : Str} {np pos : Pos} {e : PySem.Expr} {T : String} {p : PV} {s : Shared} {Q : Value → Shared → Prop} {E : Value → Shared → Prop} (V : Vars prog w H0 s.heap M env σ m) (hf : Ev prog w H0 A env σ (.Name x np) (.raw (.type T))) (he : Ev prog w H0 A env σ e p)
    (q : ∀ v h' tk, Kp s.heap h' → RepV prog w (hid h' M) p v → wpAny (model prog w) A (call (.type T) [v]) Q E { s with heap := h', toks := tk })
    (hs : starEach [e] env = [(false, eval e env)] := by rfl) : wpAny (model prog w) A (eval (.Call (.Name x np) [e] [] pos) env) Q E s :=
  Call_name1 hs (hf.run s M m _ _ V fun f h₁ t₁ k₁ r => by
    obtain rfl : f = _ := r
    exact PySem.callWith_type1 (he.run { s with heap := h₁, toks := t₁ } M m _ _ (V.keeps k₁) fun v h₂ t₂ k₂ rv => q v h₂ t₂ (k₁.trans k₂) rv))

theorem enum_tail {s : Shared} {h₁ : Heap} {t₁ : Nat} {fp : List Addr} {n : Nat} {P : Nat → Value → Prop} {St : Nat → Heap → Prop} {xs : List PV} {elts : List PySem.Expr} {k₀ : Nat} {tp : Pos} {fr : Prop} {Q : Value → Shared → Prop} {E : Value → Shared → Prop} (hh : A.handled = none) (k₁ : Kp s.heap h₁) (h2 : Heap)
    (D : Draws prog w A.in1 h₁.objs.size fp n P St) (hef : h₁.objs.size + 1 ∉ fp) (hif : h₁.objs.size ∈ fp) (hn : xs.length = n) (hP : ∀ i p v, xs[i]? = some p → P i v → RepV prog w (hid h2 ([h₁.objs.size + 1, h₁.objs.size] ++ M)) p v)
    (hl : ∀ i h, St i h → ∀ b ∈ fp, ∃ o, h.get? b = some o) (he : IsEnum h2 (h₁.objs.size + 1) h₁.objs.size 0 .none) (st : St 0 h2) (k2 : Kp h₁ h2) (hfr : fr → ∀ b ∈ fp, b = h₁.objs.size ∨ b ∉ M)
    (q : ∀ I fp wr inv mid h' tk, Kp s.heap h' → Wk prog w A (hid h' (wr ++ M)) I fp wr (enums xs) inv mid (.Tuple elts k₀ tp) → inv 0 h' → (∀ b ∈ wr, s.heap.get? b = none) → (fr → ∀ b ∈ fp, b ∈ wr ∨ b ∉ M) → Q (.ref I) { s with heap := h', toks := tk }) :
    wpAny (model prog w) A (pyIter (.ref (h₁.objs.size + 1))) Q E { s with heap := h2, toks := t₁ } := by
  refine wpAny_pyIter_enum he ?_
  have n2 : h₁.get? (h₁.objs.size + 1) = none := by
    cases e : h₁.get? (h₁.objs.size + 1) with
    | none => rfl
    | some o => exact absurd (Nat.lt_of_succ_lt (Heap.lt_size e)) (Nat.lt_irrefl _)
  refine q _ _ _ _ _ h2 t₁ (k₁.trans k2) (Wk.enumOf hh D (Nat.succ_ne_self _) hef hif hn hP hl) ⟨⟨.none, he⟩, st⟩ (fun b hb => ?_) fun hfr' b hb => ?_
  · rcases memC hb with rfl | hb
    · exact none_of_kp k₁ n2
    · rw [List.mem_singleton.mp hb]; exact none_of_kp k₁ (size_none h₁)
  · rcases memC hb with rfl | hb
    · exact .inl List.mem_cons_self
    · rcases hfr hfr' b hb with rfl | h
      · exact .inl (by simp)
      · exact .inr h

theorem It.enumL {np pos tp : Pos} {e : PySem.Expr} {xs : List PV} {elts : List PySem.Expr} {k₀ : Nat} {fr : Prop} (hh : A.handled = none) (hf : Ev prog w H0 A env σ (.Name "enumerate" np) (.raw (.type "enumerate"))) (he : Ev prog w H0 A env σ e (.lst xs))
    (hs : starEach [e] env = [(false, eval e env)] := by rfl) : It prog w H0 A env σ fr (.Call (.Name "enumerate" np) [e] [] pos) (.Tuple elts k₀ tp) (enums xs) := .mk fun s M m Q E V q =>
  call_typE V hf he (fun v h₁ t₁ k₁ r => by
    refine LW.hideGoal fun GG hGG => ?_
    obtain ⟨l, vs, rfl, hL', r⟩ := r
    refine hGG ?_
    clear hGG GG
    have hlM : l ∉ M := by obtain ⟨n, e⟩ := hL'; exact (hid_get.mp e).2
    have hL : h₁.PlainList l vs.toArray := hL'.at fun o => Kp.ofHid _ _ l o
    have hlt : l < h₁.objs.size := by obtain ⟨n, e⟩ := hL; exact Heap.lt_size e
    refine call_enumerate_list (s := { s with heap := h₁, toks := t₁ }) hL.isList fun h2 hen hit hsz k2 => ?_
    have hne : l ≠ h₁.objs.size := Nat.ne_of_lt hlt
    refine enum_tail (fr := fr) hh k₁ h2 (Draws.list (A := A.in1) hh h₁.objs.size l hne vs.toArray) ?_ (by simp) (by rw [List.size_toArray, r.length]) (fun i p v hx hv => ?_) (fun i h st b hb => ?_) hen ⟨hit, (hL.at fun o e => k2 l o e).isList⟩ k2 (fun _ b hb => ?_) q
    · intro hm
      rcases List.mem_cons.mp hm with e | hm
      · exact Nat.succ_ne_self _ e
      · exact absurd (Nat.lt_succ_of_lt hlt) (by rw [← List.mem_singleton.mp hm]; exact Nat.lt_irrefl _)
    · obtain ⟨u, hu, hr⟩ := r.get hx
      rw [List.getElem?_toArray, hu] at hv
      cases hv
      refine RepV.mono (fun b o e => ?_) _ _ hr
      rw [hid_get] at e ⊢
      refine ⟨k2 b o e.1, fun hm => ?_⟩
      have hb := Heap.lt_size e.1
      rcases memC hm with rfl | hm
      · exact absurd (Nat.lt_of_succ_lt hb) (Nat.lt_irrefl _)
      · rcases memC hm with rfl | hm
        · exact absurd hb (Nat.lt_irrefl _)
        · exact e.2 hm
    · refine LW.hideGoal fun GG hGG => ?_
      obtain ⟨⟨o, ho, _⟩, ⟨o', ho', _⟩⟩ := st
      refine hGG ?_
      clear hGG GG
      rcases memC hb with rfl | hb
      · exact ⟨o, ho⟩
      · rw [List.mem_singleton.mp hb]; exact ⟨o', ho'⟩
    · rcases memC hb with rfl | hb
      · exact .inl rfl
      · rw [List.mem_singleton.mp hb]; exact .inr hlM) hs
theorem It.enumS {np pos tp : Pos} {e : PySem.Expr} {x : Str} {elts : List PySem.Expr} {k₀ : Nat} {fr : Prop} (hh : A.handled = none) (hf : Ev prog w H0 A env σ (.Name "enumerate" np) (.raw (.type "enumerate"))) (he : Ev prog w H0 A env σ e (.str x))
    (hs : starEach [e] env = [(false, eval e env)] := by rfl) : It prog w H0 A env σ fr (.Call (.Name "enumerate" np) [e] [] pos) (.Tuple elts k₀ tp) (enums (signs x)) := .mk fun s M m Q E V q =>
  call_typE V hf he (fun v h₁ t₁ k₁ r => by
    obtain ⟨t, rfl⟩ := r
    refine call_enumerate_str (s := { s with heap := h₁, toks := t₁ }) fun h2 hen hit hsz k2 => ?_
    refine enum_tail (fr := fr) hh k₁ h2 (Draws.strT (A := A.in1) hh h₁.objs.size x t) ?_ (by simp) (signs_length x) (fun i p v hx hv => ?_) (fun i h st b hb => ?_) hen hit k2 (fun _ b hb => ?_) q
    · intro hm; exact Nat.succ_ne_self _ (List.mem_singleton.mp hm)
    · refine LW.hideGoal fun GG hGG => ?_
      obtain ⟨c, hc, rfl⟩ := signs_get hx
      obtain ⟨c', u, hc', rfl⟩ := hv
      refine hGG ?_
      clear hGG GG
      rw [hc] at hc'; cases hc'; exact ⟨u, rfl⟩
    · obtain ⟨o, ho, _⟩ := st
      rw [List.mem_singleton.mp hb]; exact ⟨o, ho⟩
    · exact .inl (List.mem_singleton.mp hb)) hs
theorem It.range1 {np pos : Pos} {e tg : PySem.Expr} {n : Nat} {fr : Prop} (hh : A.handled = none) (hn : n < 2 ^ 62) (hf : Ev prog w H0 A env σ (.Name "range" np) (.raw (.type "range"))) (he : Ev prog w H0 A env σ e (.int n))
    (hs : starEach [e] env = [(false, eval e env)] := by rfl) : It prog w H0 A env σ fr (.Call (.Name "range" np) [e] [] pos) tg ((List.range n).map fun (k : Nat) => PV.int ((0 : Int) + (k : Int))) := .mk fun s M m Q E V q =>
  call_typE V hf he (fun v h₁ t₁ k₁ r => by
    obtain ⟨t, rfl⟩ := r
    refine call_range_1 ?_
    refine wpAny_pyIter_range (IsRange.new h₁ 0 n 1 _ _ _) (small_one (by decide) (by decide) (by have : (0 : Int) ≤ (n : Int) := Int.natCast_nonneg n; exact Int.le_trans (by decide) this) (by exact_mod_cast hn)) ?_
    have kp := (Kp.push h₁ { cls := .type "range", data := .fields #[.int 0 t₁, .int n t, .int 1 (t₁ + 1)] })
    generalize hH : h₁.push { cls := .type "range", data := .fields #[.int 0 t₁, .int n t, .int 1 (t₁ + 1)] } = h₂ at kp
    have e1 : Builtin.Range.rangeSize 0 n 1 = n := by rw [rangeSize_one]; split <;> omega
    have kp2 := Kp.push h₂ { cls := .type "range_iterator", data := .fields #[rawInt 0, rawInt (Builtin.Range.rangeSize 0 n 1), rawInt 1] }
    refine q h₂.objs.size _ _ _ _ _ _ ((k₁.trans kp).trans kp2) (Wk.range hh) ?_ (fun b hb => ?_) fun _ b hb => .inl hb
    · show IsRangeIter _ _ _ _ _
      rw [e1]; simpa using Heap.get?_push_size _ rfl
    · rw [List.mem_singleton.mp hb]; exact none_of_kp (k₁.trans kp) (size_none h₂)) hs
end
end LW
namespace LW
section
variable {prog : Program} {w : World} {A : Around} {G H0 : Heap} {env : Env} {σ σ₂ σ₃ σc : Sy} {h h' : Heap} {M : List Addr} {m : Str → Option Value}

noncomputable def subL (v : List (Str × LV)) : List (Str × LV) → Prop
  | [] => True
  | (x, lv) :: r => v.lookup x = some lv ∧ subL v r
theorem subL.get {v : List (Str × LV)} : ∀ {l : List (Str × LV)}, subL v l → ∀ x lv, l.lookup x = some lv → v.lookup x = some lv
  | [], _, x, lv, e => by cases e
  | (y, lv') :: r, ⟨h, t⟩, x, lv, e => by
    rw [List.lookup_cons] at e
    cases hb : x == y with
    | true => rw [hb] at e; cases e; obtain rfl := eq_of_beq hb; exact h
    | false => rw [hb] at e; exact subL.get t x lv e
theorem Ex.post {ss : List Stmt} (hx : Ex prog w A G env σ ss (.nx σ₂)) (hv : subL σ₂.v σ₃.v) (ht : σ₃.t = σ₂.t := by rfl) : Ex prog w A G env σ ss (.nx σ₃) := .mk fun B s oa m Q E kg S q =>
  hx.run B s oa m Q E kg S fun f h' tk P => by
    obtain ⟨rfl, oa', m', S'⟩ := P
    exact q _ h' tk ⟨rfl, oa', m', S'.weaken ht hv.get⟩
theorem Ex.pre {ss : List Stmt} {out : Out} (hx : Ex prog w A G env σ₂ ss out) (hv : subL σ.v σ₂.v) (ht : σ₂.t = σ.t := by rfl) : Ex prog w A G env σ ss out := Ex.weaken hx ht hv.get
theorem Tst.of {e : PySem.Expr} {b b' : Bool} (x : Tst prog w H0 A env σ e b) (h : b = b') : Tst prog w H0 A env σ e b' := h ▸ x
theorem while_ex {test : PySem.Expr} {body : List Stmt} {pos : Pos} {out : Out} (h : ∃ n, WTurns prog w A G env test body n σ out) : Ex1 prog w A G env σ (.While test body [] pos) out := let ⟨_, h⟩ := h; while_rule h
theorem Turns.fin {tg : PySem.Expr} {body : List Stmt} {xs : List PV} {i : Nat} (h : i = xs.length) (e : σ₂ = σ) : Turns prog w A G env tg body xs i σ (.nx σ₂) := by subst h e; exact .done
theorem enums_get {xs : List PV} {i : Nat} {p : PV} (h : xs[i]? = some p) : (enums xs)[i]? = some (.tup [.int i, p]) := by unfold enums; rw [List.getElem?_mapIdx, h]; rfl
theorem enums_length (xs : List PV) : (enums xs).length = xs.length := by simp [enums]

theorem Ev.of {e : PySem.Expr} {p p' : PV} (x : Ev prog w H0 A env σ e p) (h : p = p') : Ev prog w H0 A env σ e p' := h ▸ x
theorem EvN.of {e : PySem.Expr} {p p' : PV} (x : EvN prog w H0 A env σ e p) (h : p = p') : EvN prog w H0 A env σ e p' := h ▸ x
theorem Ev.nat {i : Int} {k : Nat} {pos : Pos} (n : Nat) (h : i = n := by rfl) : Ev prog w H0 A env σ (.Constant (.int i) k pos) (.int (n : Int)) := h ▸ Ev.int
theorem Ev.addN {l r : PySem.Expr} {pos : Pos} {a b : Nat} (hl : Ev prog w H0 A env σ l (.int (a : Int))) (hr : Ev prog w H0 A env σ r (.int (b : Int))) : Ev prog w H0 A env σ (.BinOp l .Add r pos) (.int ((a + b : Nat) : Int)) := (Ev.addI hl hr).of (by rw [Int.natCast_add])
theorem Ev.mulN {l r : PySem.Expr} {pos : Pos} {a b : Nat} (hl : Ev prog w H0 A env σ l (.int (a : Int))) (hr : Ev prog w H0 A env σ r (.int (b : Int))) (hm : IntMulOk (a : Int) b) : Ev prog w H0 A env σ (.BinOp l .Mult r pos) (.int ((a * b : Nat) : Int)) := (Ev.mulI hl hr hm).of (by rw [Int.natCast_mul])
theorem Ev.modN {l r : PySem.Expr} {pos : Pos} {a b : Nat} (hl : Ev prog w H0 A env σ l (.int (a : Int))) (hr : Ev prog w H0 A env σ r (.int (b : Int))) (hb : 0 < b) : Ev prog w H0 A env σ (.BinOp l .Mod r pos) (.int ((a % b : Nat) : Int)) :=
  (Ev.modI hl hr (by omega)).of (by rw [fmod_pos (by omega), Int.natCast_emod])
theorem Ev.divN {l r : PySem.Expr} {pos : Pos} {a b : Nat} (hl : Ev prog w H0 A env σ l (.int (a : Int))) (hr : Ev prog w H0 A env σ r (.int (b : Int))) (hb : 0 < b) (hb' : b < 1073741824) : Ev prog w H0 A env σ (.BinOp l .FloorDiv r pos) (.int ((a / b : Nat) : Int)) :=
  (Ev.divI hl hr (by omega) (by simpa using hb')).of (by rw [fdiv_pos (by omega), Int.natCast_ediv])

theorem turns_ind {tg : PySem.Expr} {body : List Stmt} {xs : List PV} (S : Nat → Sy) (step : ∀ i p, xs[i]? = some p → ∃ σ₁, Tgt prog w A G env (S i) tg p σ₁ ∧ Ex prog w A G env σ₁ body (.nx (S (i + 1)))) :
    ∀ d i, i + d = xs.length → Turns prog w A G env tg body xs i (S i) (.nx (S xs.length))
  | 0, i, h => by obtain rfl : i = xs.length := by omega
                  exact .done
  | d + 1, i, h => by
    have hlt : i < xs.length := by omega
    obtain ⟨σ₁, h1, h2⟩ := step i _ (List.getElem?_eq_getElem hlt)
    exact .turn (List.getElem?_eq_getElem hlt) h1 h2 (turns_ind S step d (i + 1) (by omega))
/-- a loop over a known list -/
theorem for_ind {tg iter : PySem.Expr} {body : List Stmt} {pos : Pos} {xs : List PV} {σ' : Sy} (S : Nat → Sy) (hi : It prog w G A env σ True iter tg xs) (h0 : σ = S 0) (hN : S xs.length = σ')
    (step : ∀ i p, xs[i]? = some p → ∃ σ₁, Tgt prog w A G env (S i) tg p σ₁ ∧ Ex prog w A G env σ₁ body (.nx (S (i + 1)))) (hs : ∀ x, foldedSetIterable iter env x = pure x := by intro _; rfl) :
    Ex1 prog w A G env σ (.For tg iter body [] pos) (.nx σ') := by
  subst h0 hN
  exact for_rule hi (turns_ind S step xs.length 0 (Nat.zero_add _)) hs
theorem wturns_ind {α : Type} {test : PySem.Expr} {body : List Stmt} (S : α → Sy) (c : α → Bool) (f fin : α → α) (μ : α → Nat) (inv : α → Prop) (h1 : ∀ a, inv a → c a = true → inv (f a) ∧ μ (f a) < μ a ∧ fin a = fin (f a)) (h0 : ∀ a, inv a → c a = false → fin a = a)
    (ht : ∀ a, inv a → Tst prog w G A env (S a) test (c a)) (hb : ∀ a, inv a → c a = true → Ex prog w A G env (S a) body (.nx (S (f a)))) : ∀ (k : Nat) (a : α), μ a ≤ k → inv a → ∃ n, WTurns prog w A G env test body n (S a) (.nx (S (fin a)))
  | k, a, hk, ha => by
    have t := ht a ha
    cases hc : c a with
    | false => rw [h0 a ha hc]; rw [hc] at t; exact ⟨0, .done t⟩
    | true =>
      obtain ⟨i1, i2, i3⟩ := h1 a ha hc
      cases k with
      | zero => omega
      | succ k =>
        obtain ⟨n, hn⟩ := wturns_ind S c f fin μ inv h1 h0 ht hb k (f a) (by omega) i1
        rw [hc] at t
        rw [i3]; exact ⟨n + 1, .turn t (hb a ha hc) hn⟩
/-- a loop with a test -/
theorem while_ind {α : Type} {test : PySem.Expr} {body : List Stmt} {pos : Pos} {σ' : Sy} (S : α → Sy) (c : α → Bool) (f fin : α → α) (μ : α → Nat) (inv : α → Prop) (a : α) (ha : inv a) (hs : σ = S a) (hN : S (fin a) = σ')
    (h1 : ∀ a, inv a → c a = true → inv (f a) ∧ μ (f a) < μ a ∧ fin a = fin (f a)) (h0 : ∀ a, inv a → c a = false → fin a = a)
    (ht : ∀ a, inv a → Tst prog w G A env (S a) test (c a)) (hb : ∀ a, inv a → c a = true → Ex prog w A G env (S a) body (.nx (S (f a)))) : Ex1 prog w A G env σ (.While test body [] pos) (.nx σ') := by
  subst hs hN
  exact while_ex (wturns_ind S c f fin μ inv h1 h0 ht hb (μ a) a (Nat.le_refl _) ha)
theorem Ex.sub {ss : List Stmt} {out : Out} (hx : Ex prog w A G env σ₂ ss out) (hv : subL σ.v σ₂.v) (ht : σ₂.t = σ.t := by rfl) : Ex prog w A G env σ ss out := Ex.weaken hx ht hv.get

/-- the figures of a number, 64 to a step -/
noncomputable def moreF : Nat → Nat → List Nat → List Nat
  | 0, _, acc => acc
  | f + 1, left, acc => if left = 0 then acc else moreF f (left / 64) ((64 + left % 64) :: acc)
theorem moreF_eq (f : Nat) : ∀ f' left acc, left ≤ f → left ≤ f' → moreF f left acc = moreF f' left acc := by
  induction f with
  | zero =>
    intro f' left acc h h'
    obtain rfl : left = 0 := Nat.le_zero.mp h
    cases f' <;> rfl
  | succ f ih =>
    intro f' left acc h h'
    by_cases h0 : left = 0
    · subst h0; cases f' <;> rfl
    · cases f' with
      | zero => exact absurd (Nat.le_zero.mp h') h0
      | succ f' =>
        have hd := Nat.div_lt_self (Nat.pos_of_ne_zero h0) (by decide : 1 < 64)
        show (if left = 0 then acc else moreF f (left / 64) _) = (if left = 0 then acc else moreF f' (left / 64) _)
        rw [if_neg h0, if_neg h0]
        exact ih f' _ _ (Nat.le_of_lt_succ (Nat.lt_of_lt_of_le hd h)) (Nat.le_of_lt_succ (Nat.lt_of_lt_of_le hd h'))
noncomputable def more (left : Nat) (acc : List Nat) : List Nat := moreF left left acc
theorem more_eq (left : Nat) (acc : List Nat) : more left acc = if h : left = 0 then acc else more (left / 64) ((64 + left % 64) :: acc) := by
  by_cases h0 : left = 0
  · subst h0; rfl
  · rw [dif_neg h0]
    cases left with
    | zero => exact absurd rfl h0
    | succ k =>
      have hd := Nat.div_lt_self (Nat.pos_of_ne_zero h0) (by decide : 1 < 64)
      show (if k + 1 = 0 then acc else moreF k ((k + 1) / 64) _) = moreF ((k + 1) / 64) ((k + 1) / 64) _
      rw [if_neg h0]
      exact moreF_eq _ _ _ _ (Nat.le_of_lt_succ hd) (Nat.le_refl _)
noncomputable def octOf (turn code : Nat) : List Nat := (more (code / 64) [code % 64]).map (· + turn % 2 * 128)
noncomputable def octsFrom : Nat → List Nat → List Nat
  | _, [] => []
  | i, c :: l => octOf i c ++ octsFrom (i + 1) l
noncomputable def pvN (l : List Nat) : List PV := l.map fun (n : Nat) => .int (n : Int)
theorem pvN_append (a b : List Nat) : pvN (a ++ b) = pvN a ++ pvN b := List.map_append
theorem pvN_length (a : List Nat) : (pvN a).length = a.length := List.length_map _
theorem inj_nat : ∀ a b : Nat, PV.int (a : Int) = PV.int (b : Int) → a = b := fun a b e => by have := PV.int.inj e; omega
theorem more_length : ∀ k left acc, left < 64 ^ k → (more left acc).length ≤ acc.length + k := by
  intro k
  induction k with
  | zero => intro left acc h; have : left = 0 := by omega
            subst this; rw [more_eq]; simp
  | succ k ih =>
    intro left acc h
    rw [more_eq]
    split
    · omega
    · have h' : left / 64 < 64 ^ k := by rw [Nat.pow_succ] at h; omega
      have := ih (left / 64) ((64 + left % 64) :: acc) h'
      rw [List.length_cons] at this; omega

theorem octsFrom_snoc : ∀ (l : List Nat) (j c : Nat), octsFrom j (l ++ [c]) = octsFrom j l ++ octOf (j + l.length) c
  | [], j, c => by simp [octsFrom]
  | a :: l, j, c => by
    rw [List.cons_append, octsFrom, octsFrom, octsFrom_snoc l (j + 1) c, List.append_assoc, List.length_cons]
    congr 3; omega
theorem octsFrom_length : ∀ (l : List Nat) (j : Nat), (∀ c ∈ l, c < 64 ^ 4) → (octsFrom j l).length ≤ 4 * l.length
  | [], j, _ => by simp [octsFrom]
  | a :: l, j, h => by
    have h1 := octsFrom_length l (j + 1) fun c hc => h c (List.mem_cons_of_mem _ hc)
    have h2 := more_length 3 (a / 64) [a % 64] (by have := h a List.mem_cons_self; omega)
    rw [octsFrom, List.length_append, octOf, List.length_map, List.length_cons]
    simp only [List.length_cons, List.length_nil] at h2
    omega

noncomputable def octS (codes : List Nat) (i : Nat) : Sy := ⟨[("octets", .ow (.lst (pvN (octsFrom 0 (codes.take i))))), ("codes", .im (.lst (pvN codes)))], []⟩
theorem body_octets {L : Addr} {qual : Str} {fa : Addr} {code : Value} {codes : List Nat} (hA : A.handled = none) (hc : ∀ c ∈ codes, c < 64 ^ 4) (hl : codes.length ≤ 1000) (hb : BVal G "enumerate" (.type "enumerate")) :
    Ex prog w A G (fenv (dS 71) L qual fa code) ⟨[("codes", .im (.lst (pvN codes)))], []⟩ (dB 71) (.rt (.lst (pvN (octsFrom 0 codes))) []) := by
  refine Ex.step rfl (Ex1.assignN (EvN.list EvL.nil)) ?_
  refine Ex.step rfl (for_ind (octS codes) (It.enumL hA (Ev.bi hb rfl) (Ev.name rfl)) rfl rfl fun i p hp => ?_) ?_
  · have hlt : i < codes.length := by have := (List.getElem?_eq_some_iff.mp hp).1; rwa [enums_length, pvN_length] at this
    obtain ⟨c, hci⟩ : ∃ c, codes[i]? = some c := ⟨_, List.getElem?_eq_getElem hlt⟩
    have hcm : c < 64 ^ 4 := hc c (List.mem_of_getElem? hci)
    have hx : (enums (pvN codes))[i]? = some (.tup [.int (i : Int), .int (c : Int)]) := enums_get (by unfold pvN; rw [List.getElem?_map, hci]; rfl)
    rw [hx] at hp; cases hp
    have etake : octsFrom 0 (codes.take (i + 1)) = octsFrom 0 (codes.take i) ++ octOf i c := by
      rw [List.take_add_one, hci]
      show octsFrom 0 (codes.take i ++ [c]) = _
      rw [octsFrom_snoc, List.length_take, Nat.min_eq_left (Nat.le_of_lt hlt), Nat.zero_add]
    have hlt4 : (octsFrom 0 (codes.take i)).length ≤ 4000 := by
      have := octsFrom_length (codes.take i) 0 fun c hc' => hc c (List.mem_of_mem_take hc')
      rw [List.length_take] at this
      omega
    have hml := more_length 3 (c / 64) [c % 64] (by omega)
    refine ⟨_, Tgt.two hA, ?_⟩
    refine Ex.step rfl (Ex1.assign (EvN.list (EvL.cons (Ev.modN (Ev.name rfl) (Ev.nat 64) (by decide)) EvL.nil)).ev) ?_
    refine Ex.step rfl (Ex1.assign (Ev.divN (Ev.name rfl) (Ev.nat 64) (by decide) (by decide))) ?_
    refine Ex.sub (σ₂ := ⟨("left", .im (.int (c / 64 : Nat))) :: ("figures", .im (.lst (pvN [c % 64]))) :: ("turn", .im (.int (i : Nat))) :: (octS codes i).v, []⟩) ?_ ⟨rfl, rfl, rfl, rfl, rfl, trivial⟩
    refine Ex.step rfl (while_ind (fun (x : Nat × List Nat) => ⟨("left", .im (.int (x.1 : Nat))) :: ("figures", .im (.lst (pvN x.2))) :: ("turn", .im (.int (i : Nat))) :: (octS codes i).v, []⟩) (fun x => x.1 != 0) (fun x => (x.1 / 64, (64 + x.1 % 64) :: x.2))
      (fun x => (0, more x.1 x.2)) (fun x => x.1) (fun x => x.2.length ≤ 10 ∧ x.1 < 64 ^ (10 - x.2.length)) (c / 64, [c % 64]) ?_ rfl rfl ?_ ?_ ?_ ?_) ?_
    · refine ⟨by simp, ?_⟩
      show c / 64 < 64 ^ 9
      omega
    · rintro ⟨left, acc⟩ ⟨h1, h2⟩ hne
      have hne' : left ≠ 0 := by simpa using hne
      simp only at h1 h2 ⊢
      have hlt : acc.length < 10 := by
        rcases Nat.lt_or_ge acc.length 10 with h | h
        · exact h
        · have : 10 - acc.length = 0 := by omega
          rw [this] at h2; omega
      refine ⟨⟨by rw [List.length_cons]; omega, ?_⟩, Nat.div_lt_self (Nat.pos_of_ne_zero hne') (by decide), ?_⟩
      · have e : 10 - acc.length = (10 - (acc.length + 1)) + 1 := by omega
        rw [e, Nat.pow_succ] at h2
        rw [List.length_cons]
        exact Nat.div_lt_of_lt_mul (by rw [Nat.mul_comm]; exact h2)
      · rw [more_eq, dif_neg hne']
    · rintro ⟨left, acc⟩ _ he
      have he' : left = 0 := by simpa using he
      subst he'
      show (0, more 0 acc) = (0, acc)
      rw [more_eq, dif_pos rfl]
    · rintro ⟨left, acc⟩ _
      exact (Tst.cmp CmpOk.gtI (Ev.name rfl).rd (Ev.nat 0).rd).of (by simp only; rw [Bool.eq_iff_iff]; simp; omega)
    · rintro ⟨left, acc⟩ ⟨h1, _⟩ _
      refine Ex.post (Ex.step rfl (Ex1.assign (EvN.addL (EvN.list (EvL.cons (Ev.addN (Ev.nat 64) (Ev.modN (Ev.name rfl) (Ev.nat 64) (by decide))) EvL.nil)).ev.rd (Ev.name rfl).rd ?_).ev)
        (Ex.step rfl (Ex1.assign (Ev.divN (Ev.name rfl) (Ev.nat 64) (by decide) (by decide))) (Ex.done rfl))) ⟨rfl, rfl, rfl, rfl, rfl, trivial⟩
      rw [List.length_map, List.length_cons, List.length_nil]
      simp only at h1 ⊢
      exact Nat.le_trans (by omega : 0 + 1 + acc.length ≤ 100) (by decide)
    · have hfil : (pvN (octOf i c)) = ((more (c / 64) [c % 64]).filter fun _ => true).map fun n => PV.int ((n + i % 2 * 128 : Nat) : Int) := by
        rw [List.filter_eq_self.mpr (by simp)]; unfold pvN octOf; rw [List.map_map]; rfl
      refine Ex.post (Ex.step rfl (Ex1.extend (qs := pvN (octOf i c)) rfl ?_ ?_) (Ex.done rfl)) ⟨?_, rfl, trivial⟩
      · rw [hfil]
        refine EvN.ev ?_
        refine EvN.compM (σc := ⟨[("turn", .im (.int (i : Nat)))], []⟩) inj_nat ⟨rfl, by decide +kernel, rfl, by decide +kernel, ⟨⟨rfl, .inl rfl, rfl, rfl⟩, trivial⟩, rfl, fun _ => rfl⟩ (It.list hA (Ev.name rfl)) ?_ ?_
        · intro C n hn
          refine ⟨⟨("figure", .im (.int (n : Nat))) :: _, []⟩, rfl, cons_fresh rfl, CTgt.name, rfl, fun _ => Ev.addN (Ev.name rfl) (Ev.mulN (Ev.modN (Ev.name rfl) (Ev.nat 2) (by decide)) (Ev.nat 128) ?_)⟩
          exact IntMulOk.of_right (by decide)
        · simp only [List.length_cons, List.length_nil] at hml
          exact Nat.le_trans (by omega : _ ≤ 100) (by decide)
      · rw [pvN_length, pvN_length, octOf, List.length_map]
        simp only [List.length_cons, List.length_nil] at hml
        exact Nat.le_trans (by omega : _ ≤ 10000) (by decide)
      · show some (LV.ow (.lst (pvN (octsFrom 0 (codes.take i)) ++ pvN (octOf i c)))) = some (LV.ow (.lst (pvN (octsFrom 0 (codes.take (i + 1))))))
        rw [etake, pvN_append]
  · exact Ex.last rfl (Ex1.retOwn (by unfold octS; rw [enums_length, pvN_length, List.take_length]; rfl))
end
end LW
namespace LW
section
variable {prog : Program} {w : World} {A : Around} {G H0 : Heap} {env : Env} {σ σ₂ σ₃ σc : Sy} {h h' : Heap} {M : List Addr} {m : Str → Option Value}

/-- a global's plain value -/
noncomputable def GRep (prog : Program) (w : World) (G : Heap) (x : Str) (p : PV) : Prop := ∃ v, GVal G x v ∧ RepV prog w G p v
theorem Ev.globP {x : Str} {pos : Pos} {p : PV} (hg : GRep prog w H0 x p) (hk : env.kindOf x = some .globalImplicit) (hd : (x == ("__debug__" : Str)) = false := by decide) : Ev prog w H0 A env σ (.Name x pos) p := .mk fun s M m Q E V q => by
  obtain ⟨v, hv, r⟩ := hg
  exact (Ev.glob hv hk hd).run s M m Q E V fun v' h' tk k e => q v' h' tk k (by obtain rfl : v' = v := e; exact RepV.mono (V.base.trans (k.hid M)) _ _ r)

/-- a text of signs -/
noncomputable def S (l : List Nat) : Str := ⟨l.toArray⟩
theorem S_inj {a b : List Nat} (e : S a = S b) : a = b := by
  have := congrArg (fun x : Str => x.cps.toList) e
  simpa [S] using this
theorem S_length (l : List Nat) : (S l).length = l.length := by simp [S, Str.length]
theorem S_take (l : List Nat) (n : Nat) : cutS (S l) none (some n) = S (l.take n) := by simp [cutS, cut, S]
theorem S_drop (l : List Nat) (n : Nat) : cutS (S l) (some n) none = S (l.drop n) := by simp [cutS, cut, S]
theorem S_run (l : List Nat) (a b : Nat) : cutS (S l) (some a) (some b) = S ((l.take b).drop a) := by simp [cutS, cut, S]
theorem S_ne_empty (l : List Nat) : (S l != ("" : Str)) = (l != []) := by
  have : ("" : Str) = S [] := rfl
  rw [this]
  cases l with
  | nil => rfl
  | cons a l =>
    have h1 : S (a :: l) ≠ S [] := fun e => by have := S_inj e; cases this
    rw [bne_iff_ne.mpr h1]; rfl
theorem S_cps (l : List Nat) (k : Nat) : (S l).cps[k]? = l[k]? := by simp [S]

noncomputable abbrev sevens : Str := "fiklmst"
/-- the tokens: operators, the longest first; a letter's place -/
noncomputable def tokP (tk : List (Str × Nat)) : List (Str × PV) := tk.map fun y => (y.1, .int (y.2 : Int))
theorem tokP_lookup (tk : List (Str × Nat)) (x : Str) : (tokP tk).lookup x = (tk.lookup x).map fun (n : Nat) => PV.int (n : Int) := by
  unfold tokP
  induction tk with
  | nil => rfl
  | cons y tk ih =>
    rw [List.map_cons, List.lookup_cons, List.lookup_cons]
    split
    · rfl
    · exact ih
noncomputable def szOf (tk : List (Str × Nat)) (l : List Nat) : Nat → Nat
  | 0 => 0
  | 1 => 1
  | n + 2 => if (tk.lookup (S (l.take (n + 2)))).isSome then n + 2 else szOf tk l (n + 1)
theorem szOf_pos (tk : List (Str × Nat)) (l : List Nat) : ∀ n, 0 < n → 0 < szOf tk l n
  | 1, _ => by unfold szOf; decide
  | n + 2, _ => by
    unfold szOf; split
    · omega
    · exact szOf_pos tk l (n + 1) (by omega)
noncomputable def tokOf (tk : List (Str × Nat)) (c : Nat) (l : List Nat) : Int := match tk.lookup (S l) with | some n => (n : Int) | none => 256 + Txt.find sevens (S [c])
noncomputable def cutF (tk : List (Str × Nat)) : Nat → List Nat → List Int
  | 0, _ => []
  | _ + 1, [] => []
  | f + 1, c :: r => tokOf tk c ((c :: r).take (szOf tk (c :: r) 3)) :: cutF tk f ((c :: r).drop (szOf tk (c :: r) 3))
theorem drop_le (tk : List (Str × Nat)) (c : Nat) (r : List Nat) : ((c :: r).drop (szOf tk (c :: r) 3)).length ≤ r.length := by
  have := szOf_pos tk (c :: r) 3 (by decide)
  rw [List.length_drop, List.length_cons]; omega
theorem cutF_eq (tk : List (Str × Nat)) (f : Nat) : ∀ f' l, l.length ≤ f → l.length ≤ f' → cutF tk f l = cutF tk f' l := by
  induction f with
  | zero =>
    intro f' l h h'
    obtain rfl : l = [] := List.length_eq_zero_iff.mp (Nat.le_zero.mp h)
    cases f' <;> rfl
  | succ f ih =>
    intro f' l h h'
    cases l with
    | nil => cases f' <;> rfl
    | cons c r =>
      cases f' with
      | zero => exact absurd h' (Nat.not_succ_le_zero _)
      | succ f' =>
        show _ :: cutF tk f _ = _ :: cutF tk f' _
        rw [ih f' _ (Nat.le_trans (drop_le tk c r) (Nat.le_of_succ_le_succ h)) (Nat.le_trans (drop_le tk c r) (Nat.le_of_succ_le_succ h'))]
noncomputable def cutRow (tk : List (Str × Nat)) (l : List Nat) : List Int := cutF tk l.length l
theorem cutRow_cons (tk : List (Str × Nat)) (c : Nat) (r : List Nat) : cutRow tk (c :: r) = tokOf tk c ((c :: r).take (szOf tk (c :: r) 3)) :: cutRow tk ((c :: r).drop (szOf tk (c :: r) 3)) := by
  show _ :: cutF tk r.length _ = _ :: cutF tk _ _
  rw [cutF_eq tk _ _ _ (drop_le tk c r) (Nat.le_refl _)]
theorem cutRow_nil (tk : List (Str × Nat)) : cutRow tk [] = [] := rfl

theorem cutRow_length (tk : List (Str × Nat)) : ∀ n (l : List Nat), l.length ≤ n → (cutRow tk l).length ≤ l.length
  | _, [], _ => by rw [cutRow_nil]; exact Nat.le_refl _
  | n + 1, c :: r, h => by
    have hp := szOf_pos tk (c :: r) 3 (by decide)
    have := cutRow_length tk n ((c :: r).drop (szOf tk (c :: r) 3)) (by rw [List.length_drop, List.length_cons] at *; omega)
    rw [cutRow_cons, List.length_cons, List.length_cons]
    rw [List.length_drop, List.length_cons] at this
    omega
noncomputable def cutSt (x : List Nat × List Int) : Sy := ⟨[("row", .ow (.lst (x.2.map .int))), ("text", .im (.str (S x.1)))], []⟩
theorem body_cut {L : Addr} {qual : Str} {fa : Addr} {code : Value} {tk : List (Str × Nat)} {text : List Nat} (hA : A.handled = none) (hl : text.length ≤ 1000) (hg : GRep prog w G "EXACT_TOKEN_TYPES" (.dct (tokP tk))) :
    Ex prog w A G (fenv (dS 74) L qual fa code) ⟨[("text", .im (.str (S text)))], []⟩ (dB 74) (.rt (.lst ((cutRow tk text ++ [0]).map .int)) []) := by
  refine Ex.step rfl (Ex1.assignN (EvN.list EvL.nil)) ?_
  refine Ex.step rfl (while_ind cutSt (fun x => x.1 != []) (fun x => (x.1.drop (szOf tk x.1 3), x.2 ++ [tokOf tk (x.1.headD 0) (x.1.take (szOf tk x.1 3))])) (fun x => ([], x.2 ++ cutRow tk x.1)) (fun x => x.1.length) (fun x => x.1.length + x.2.length ≤ 1000) (text, []) (by simpa using hl) rfl rfl ?_ ?_ ?_ ?_) ?_
  · rintro ⟨l, row⟩ hi hc
    cases l with
    | nil => cases hc
    | cons c r =>
      have hp := szOf_pos tk (c :: r) 3 (by decide)
      simp only [List.length_cons] at hi
      refine ⟨?_, ?_, ?_⟩
      · simp only [List.length_drop, List.length_cons, List.length_append, List.length_nil]; omega
      · simp only [List.length_drop, List.length_cons]; omega
      · show ([], row ++ cutRow tk (c :: r)) = ([], (row ++ [tokOf tk c ((c :: r).take (szOf tk (c :: r) 3))]) ++ cutRow tk ((c :: r).drop (szOf tk (c :: r) 3)))
        rw [cutRow_cons, List.append_assoc]; rfl
  · rintro ⟨l, row⟩ _ hc
    have hc' : l = [] := by simpa using hc
    subst hc'
    show ([], row ++ cutRow tk []) = ([], row)
    rw [cutRow_nil, List.append_nil]
  · rintro ⟨l, row⟩ _
    exact (Tst.cmp CmpOk.neS (Ev.name rfl).rd Ev.str.rd).of (S_ne_empty l)
  · rintro ⟨l, row⟩ hi hc
    cases l with
    | nil => cases hc
    | cons c r =>
      simp only [List.length_cons] at hi
      have hszl : (S (c :: r)).length ≤ sizeLine := by rw [S_length, List.length_cons]; exact Nat.le_trans (by omega : _ ≤ 1000) (by decide)
      refine Ex.step rfl (Ex1.assign (Ev.nat 3)) ?_
      refine Ex.step rfl (while_ind (fun (n : Nat) => ⟨("size", .im (.int (n : Nat))) :: (cutSt (c :: r, row)).v, []⟩) (fun n => decide (1 < n) && !(tk.lookup (S ((c :: r).take n))).isSome) (fun n => n - 1) (szOf tk (c :: r)) (fun n => n) (fun n => 0 < n) 3 (by decide) rfl rfl ?_ ?_ ?_ ?_) ?_
      · intro n hn hc'
        obtain ⟨h1, h2⟩ := Bool.and_eq_true_iff.mp hc'
        have h1 := of_decide_eq_true h1
        obtain ⟨k, rfl⟩ : ∃ k, n = k + 2 := ⟨n - 2, by omega⟩
        refine ⟨by omega, by omega, ?_⟩
        show szOf tk (c :: r) (k + 2) = szOf tk (c :: r) (k + 1)
        rw [szOf]
        simp only [Bool.not_eq_true', Option.isSome_eq_false_iff, Option.isNone_iff_eq_none] at h2
        rw [h2]; rfl
      · intro n hn hc'
        match n, hn with
        | 1, _ => rfl
        | k + 2, _ =>
          rw [Bool.and_eq_false_iff] at hc'
          rcases hc' with h | h
          · have := of_decide_eq_false h; omega
          · rw [szOf]; simp only [Bool.not_eq_false'] at h; rw [h]; rfl
      · intro n hn
        refine Tst.of (Tst.and2 (c := !(tk.lookup (S ((c :: r).take n))).isSome) (Tst.cmp CmpOk.gtI (Ev.name rfl).rd (Ev.nat 1).rd) fun _ => ?_) ?_
        · refine Tst.of (Tst.cmp CmpOk.notInD (Ev.rd (Ev.sliceS (lo := none) (hi := some n) (Ev.name rfl) ?_ ?_ hszl)) (Ev.rd (Ev.globP hg rfl))) ?_
          · exact trivial
          · exact Ev.name rfl
          · rw [S_take, tokP_lookup, Option.isSome_map]
        · congr 1; rw [Bool.eq_iff_iff]; simp; omega
      · intro n hn hc'
        refine Ex.post (Ex.step rfl (Ex1.aug IpOk.subI rfl Ev.int) (Ex.done rfl)) ⟨?_, rfl, rfl, trivial⟩
        show some (LV.im (.int ((n : Int) - 1))) = some (LV.im (.int ((n - 1 : Nat) : Int)))
        rw [show ((n - 1 : Nat) : Int) = (n : Int) - 1 by omega]
      · have hpos := szOf_pos tk (c :: r) 3 (by decide)
        refine Ex.step rfl (Ex1.append (p := .int (tokOf tk c ((c :: r).take (szOf tk (c :: r) 3)))) rfl ?_ ?_) ?_
        · refine Ev.of (Ev.m2 Me2.get (Ev.rd (Ev.globP hg rfl)) (Ev.rd (Ev.sliceS (lo := none) (hi := some (szOf tk (c :: r) 3)) (Ev.name rfl) ?_ ?_ hszl)) (Ev.addI (Ev.int) (Ev.m1 Me1.find (Ev.rd Ev.str) (Ev.rd (Ev.sub (ItOk.str (c := c) (by decide) ?_ (by decide)) (Ev.rd (Ev.name rfl)) (Ev.rd Ev.int)))))) ?_
          · exact trivial
          · exact Ev.name rfl
          · rw [S_cps]; rfl
          · rw [S_take]
            unfold dget tokOf
            rw [tokP_lookup]
            cases tk.lookup (S ((c :: r).take (szOf tk (c :: r) 3))) <;> rfl
        · rw [List.length_map]; show row.length ≤ _; exact Nat.le_trans (by omega : _ ≤ 1000) (by decide)
        · refine Ex.post (Ex.step rfl (Ex1.assign (Ev.sliceS (lo := some (szOf tk (c :: r) 3)) (hi := none) (Ev.name rfl) ?_ ?_ hszl)) (Ex.done rfl)) ⟨?_, ?_, trivial⟩
          · exact Ev.name rfl
          · exact trivial
          · show some (LV.ow (.lst (row.map PV.int ++ [.int (tokOf tk c ((c :: r).take (szOf tk (c :: r) 3)))]))) = some (LV.ow (.lst ((row ++ [tokOf tk c ((c :: r).take (szOf tk (c :: r) 3))]).map PV.int)))
            rw [List.map_append]; rfl
          · show some (LV.im (.str (cutS (S (c :: r)) (some (szOf tk (c :: r) 3)) none))) = some (LV.im (.str (S ((c :: r).drop (szOf tk (c :: r) 3)))))
            rw [S_drop]
  · refine Ex.last rfl (Ex1.ret (EvN.ev ?_))
    refine EvN.of (EvN.addL (Rd.own rfl) (Ev.rd (EvN.ev (EvN.list (EvL.cons Ev.int EvL.nil)))) ?_) ?_
    · rw [List.length_map, List.nil_append]
      have := cutRow_length tk text.length text (Nat.le_refl _)
      show (cutRow tk text).length + 1 ≤ _
      exact Nat.le_trans (by omega : _ ≤ 1001) (by decide)
    · show PV.lst (([] ++ cutRow tk text).map PV.int ++ [.int 0]) = .lst ((cutRow tk text ++ [0]).map .int)
      rw [List.nil_append, List.map_append]; rfl
end
end LW
namespace LW

noncomputable abbrev Town := Fin 7
noncomputable def lt (t : Town) : Nat := match t with | 0 => 102 | 1 => 105 | 2 => 107 | 3 => 108 | 4 => 109 | 5 => 115 | 6 => 116
noncomputable def nm (t : Town) (u : Bool) : Str := S [if u then lt t - 32 else lt t]
noncomputable def txt (ts : List Town) : Str := S (ts.map lt)
inductive Mark where
  | add | put | lay | del
  deriving DecidableEq
noncomputable def Mark.s : Mark → Str
  | .add => "->" | .put => ":=" | .lay => "|=" | .del => "-="
noncomputable abbrev Road := Town × Bool × Town
noncomputable def pvRoad (r : Road) : PV := .tup [.str (nm r.1 r.2.1), .str (nm r.2.2 false)]
noncomputable abbrev Line := List Town × Mark × List Town
noncomputable def pvLn (l : Line) : PV := .tup [.str (txt l.1), .str l.2.1.s, .str (txt l.2.2)]

theorem nm_inj : ∀ (t t' : Town) (u u' : Bool), nm t u = nm t' u' → t = t' ∧ u = u' := by decide +kernel
theorem nm_lower : ∀ (t : Town) (u : Bool), Txt.lower (nm t u) = nm t false := by decide +kernel
theorem nm_upper : ∀ (t : Town) (u : Bool), Txt.upper (nm t u) = nm t true := by decide +kernel
theorem nm_lt : ∀ (a b : Town), decide ((nm a false).cps.toList < (nm b false).cps.toList) = decide (a < b) := by decide +kernel
theorem nm_ne : ∀ (a b : Town), (nm a false != nm b false) = (a != b) := by decide +kernel
theorem mark_eq : ∀ k : Mark, (k.s == "->") = (k == .add) ∧ (k.s == "|=") = (k == .lay) ∧ (k.s == ":=") = (k == .put) ∧ (k.s == "-=") = (k == .del) := by
  intro k; cases k <;> decide +kernel
theorem signs_txt (ts : List Town) : signs (txt ts) = ts.map fun t => .str (nm t false) := by
  unfold signs txt S nm
  rw [List.toList_toArray, List.map_map]; rfl

noncomputable def others (rs : List Road) (s : Town) : List Road := rs.filter fun r => r.1 != s
noncomputable def deed (rs : List Road) (turn : Nat) (k : Mark) (s g : Town) : List Road :=
  match k with
  | .add => rs ++ [(s, turn % 2 == 1, g)]
  | .put => others rs s ++ [(s, turn % 2 == 1, g)]
  | .lay => if others rs s = rs then rs ++ [(s, turn % 2 == 1, g)] else rs
  | .del => others rs s
noncomputable abbrev PSt := List Road × Nat
noncomputable def stepG (k : Mark) (s : Town) (x : PSt) (g : Town) : PSt := if s < g then (deed x.1 x.2 k s g, x.2 + 1) else x
noncomputable def stepS (k : Mark) (gs : List Town) (x : PSt) (s : Town) : PSt := gs.foldl (stepG k s) x
noncomputable def stepL (x : PSt) (l : Line) : PSt := l.1.foldl (stepS l.2.1 l.2.2) x
noncomputable def plain (lines : List Line) : List Road := (lines.foldl stepL ([], 0)).1

theorem stepG_len (k : Mark) (s : Town) (x : PSt) (g : Town) : (stepG k s x g).1.length ≤ x.1.length + 1 := by
  unfold stepG
  split
  · have : (others x.1 s).length ≤ x.1.length := List.length_filter_le _ _
    cases k <;> simp only [deed]
    · simp
    · simp; omega
    · split <;> simp
    · omega
  · omega
theorem stepS_len (k : Mark) (s : Town) : ∀ (gs : List Town) (x : PSt), (stepS k gs x s).1.length ≤ x.1.length + gs.length
  | [], x => Nat.le_refl _
  | g :: gs, x => by
    have h1 := stepG_len k s x g
    have h2 := stepS_len k s gs (stepG k s x g)
    unfold stepS at h2 ⊢
    rw [List.foldl_cons, List.length_cons]; omega
theorem stepL_len' (k : Mark) (gs : List Town) : ∀ (ss : List Town) (x : PSt), (ss.foldl (stepS k gs) x).1.length ≤ x.1.length + ss.length * gs.length
  | [], x => by simp
  | s :: ss, x => by
    have h1 := stepS_len k s gs x
    have h2 := stepL_len' k gs ss (stepS k gs x s)
    rw [List.foldl_cons, List.length_cons, Nat.succ_mul]; omega
noncomputable def lineSz (l : Line) : Nat := l.1.length * l.2.2.length
theorem stepL_len (x : PSt) (l : Line) : (stepL x l).1.length ≤ x.1.length + lineSz l := stepL_len' _ _ _ _

theorem foldl_take_succ {α β : Type} (f : β → α → β) (x : β) (l : List α) {i : Nat} {a : α} (h : l[i]? = some a) : (l.take (i + 1)).foldl f x = f ((l.take i).foldl f x) a := by
  rw [List.take_add_one, h, List.foldl_append]; rfl

section
variable {prog : Program} {w : World} {A : Around} {G H0 : Heap} {env : Env} {σ σ₂ σ₃ σc : Sy} {h h' : Heap} {M : List Addr} {m : Str → Option Value} {s : Shared}

theorem EqAt.strs {a b : Str} {t u : Tok} : SeqAt.EqAt A s (.str a t) (.str b u) (decide (a = b)) := by
  have := (eqGives_str a b t u).at A s
  have e : (a == b) = decide (a = b) := by rw [Bool.eq_iff_iff]; simp
  rwa [e] at this
theorem row_eq (x y : Road) : (nm x.1 x.2.1 = nm y.1 y.2.1 ∧ nm x.2.2 false = nm y.2.2 false) ↔ x = y := by
  constructor
  · rintro hRR
    refine LW.hideGoal fun GG hGG => ?_
    obtain ⟨h1, h2⟩ := hRR
    obtain ⟨a, b⟩ := nm_inj _ _ _ _ h1
    obtain ⟨c, _⟩ := nm_inj _ _ _ _ h2
    refine hGG ?_
    clear hGG GG
    exact Prod.ext a (Prod.ext b c)
  · rintro rfl; exact ⟨rfl, rfl⟩
theorem EqAt.row {F : Heap} {x y : Road} {v u : Value} (k : Kp F s.heap) (hu : A.units < cLine) (r : RepV prog w F (pvRoad x) v) (r' : RepV prog w F (pvRoad y) u) : SeqAt.EqAt A s v u (decide (x = y)) := by
  refine LW.hideGoal fun GG hGG => ?_
  obtain ⟨a, vs, rfl, hT, v1, _, rfl, ⟨t1, rfl⟩, v2, _, rfl, ⟨t2, rfl⟩, rfl⟩ := r
  obtain ⟨b, us, rfl, hT', u1, _, rfl, ⟨t3, rfl⟩, u2, _, rfl, ⟨t4, rfl⟩, rfl⟩ := r'
  refine hGG ?_
  clear hGG GG
  by_cases hab : a = b
  · subst hab
    refine LW.hideGoal fun GG hGG => ?_
    obtain ⟨o, h1, _, n, h2⟩ := hT
    obtain ⟨o', h3, _, n', h4⟩ := hT'
    refine hGG ?_
    clear hGG GG
    rw [h1] at h3; cases h3
    rw [h2] at h4
    have e := (Data.seq.inj h4).1
    have e' : [Value.str (nm x.1 x.2.1) t1, Value.str (nm x.2.2 false) t2] = [Value.str (nm y.1 y.2.1) t3, Value.str (nm y.2.2 false) t4] := by simpa using e
    have hxy : x = y := (row_eq x y).mp (by
      simp only [List.cons.injEq, Value.str.injEq] at e'
      exact ⟨e'.1.1, e'.2.1.1⟩)
    rw [decide_eq_true hxy]; exact SeqAt.EqAt.same _
  · have i1 : s.heap.IsTuple a (List.toArray [.str (nm x.1 x.2.1) t1, .str (nm x.2.2 false) t2]) := hT.keeps k
    have i2 : s.heap.IsTuple b (List.toArray [.str (nm y.1 y.2.1) t3, .str (nm y.2.2 false) t4]) := hT'.keeps k
    have := SeqAt.RcAt.tuples (A := A) (e := fun j => if j = 0 then decide (nm x.1 x.2.1 = nm y.1 y.2.1) else decide (nm x.2.2 false = nm y.2.2 false)) i1 i2 hu (fun j h1 h2 => by
      match j, h1 with
      | 0, _ => exact EqAt.strs
      | 1, _ => exact EqAt.strs)
    have e : ((List.range (min 2 2)).all (fun j => if j = 0 then decide (nm x.1 x.2.1 = nm y.1 y.2.1) else decide (nm x.2.2 false = nm y.2.2 false)) && (2 : Nat) == 2) = decide (x = y) := by
      rw [Bool.eq_iff_iff]
      simp only [Nat.min_self, List.range_succ, List.range_zero, List.nil_append, List.cons_append, List.all_cons, List.all_nil, if_true, Bool.and_true, beq_self_eq_true, Bool.and_eq_true, decide_eq_true_iff]
      rw [← row_eq x y]; simp
    exact SeqAt.EqAt.of_refs hab (e ▸ this)

noncomputable def pvRoads (rs : List Road) : PV := .lst (rs.map pvRoad)
theorem CmpOk.eqRoads {a b : List Road} (hu : A.units + 1 < cLine) : CmpOk prog w A .Eq (pvRoads a) (pvRoads b) (decide (a = b)) := fun s M v u Q E ⟨l, vs, e1, hL, r⟩ ⟨l', us, e2, hL', r'⟩ q => by
  subst e1 e2
  have n1 : vs.length = a.length := by rw [r.length, List.length_map]
  have n2 : us.length = b.length := by rw [r'.length, List.length_map]
  by_cases hlen : a.length = b.length
  · have := SeqAt.eq_listAt (prog := prog) (w := w) (A := A) (E := E) (Q := Q) (e := fun j => decide (a[j]? = b[j]?)) hL.isList hL'.isList (by rw [List.size_toArray, List.size_toArray, n1, n2, hlen]) (Nat.lt_of_succ_lt hu) (fun j h1 h2 => ?_) ?_
    · exact this
    · rw [List.size_toArray] at h1 h2
      have j1 : j < a.length := by omega
      have j2 : j < b.length := by omega
      refine LW.hideGoal fun GG hGG => ?_
      obtain ⟨v', hv, rv⟩ := r.get (i := j) (p := pvRoad a[j]) (by rw [List.getElem?_map, List.getElem?_eq_getElem j1]; rfl)
      obtain ⟨u', hu', ru⟩ := r'.get (i := j) (p := pvRoad b[j]) (by rw [List.getElem?_map, List.getElem?_eq_getElem j2]; rfl)
      refine hGG ?_
      clear hGG GG
      have ev : vs.toArray[j]'(by rw [List.size_toArray]; exact h1) = v' := by rw [List.getElem_toArray]; exact (List.getElem?_eq_some_iff.mp hv).2
      have eu : us.toArray[j]'(by rw [List.size_toArray]; exact h2) = u' := by rw [List.getElem_toArray]; exact (List.getElem?_eq_some_iff.mp hu').2
      rw [ev, eu, List.getElem?_eq_getElem j1, List.getElem?_eq_getElem j2]
      have := EqAt.row (A := A.in1) (Kp.ofHid s.heap M) hu rv ru
      have e : decide (a[j] = b[j]) = decide (some a[j] = some b[j]) := by rw [Bool.eq_iff_iff]; simp
      exact e ▸ this
    · have e : (List.range vs.toArray.size).all (fun j => decide (a[j]? = b[j]?)) = decide (a = b) := by
        rw [Bool.eq_iff_iff, List.size_toArray, n1]
        simp only [List.all_eq_true, List.mem_range, decide_eq_true_iff]
        constructor
        · intro hh
          refine List.ext_getElem? fun i => ?_
          by_cases hi : i < a.length
          · exact hh i hi
          · rw [List.getElem?_eq_none (by omega), List.getElem?_eq_none (by omega)]
        · rintro rfl _ _; rfl
      rw [e]; exact q s.heap s.toks Kp.rfl
  · refine SeqAt.eq_list_lengthsAt hL.isList hL'.isList (by rw [List.size_toArray, List.size_toArray, n1, n2]; simpa using hlen) (Nat.lt_of_succ_lt hu) ?_
    have e : decide (a = b) = false := decide_eq_false fun h => hlen (by rw [h])
    have := q s.heap s.toks Kp.rfl
    rwa [e] at this
end
end LW
namespace LW
section
variable {prog : Program} {w : World} {A : Around} {G H0 : Heap} {env : Env} {σ σ₂ σ₃ σc : Sy} {h h' : Heap} {M : List Addr} {m : Str → Option Value} {s : Shared}

theorem inj_road : ∀ a b : Road, pvRoad a = pvRoad b → a = b := fun a b e => by
  have := PV.tup.inj e
  simp only [List.cons.injEq, PV.str.injEq, and_true] at this
  exact (row_eq a b).mp this
theorem It.towns {e tg : PySem.Expr} {ts : List Town} {fr : Prop} (hh : A.handled = none) (he : Ev prog w H0 A env σ e (.str (txt ts))) : It prog w H0 A env σ fr e tg (ts.map fun t => .str (nm t false)) := by
  rw [← signs_txt]; exact It.str hh he

/-- the name of a road: great every second time -/
theorem Ev.great {p1 p2 p3 p4 p5 p6 p7 p8 p9 p10 : Pos} {k1 k2 : Nat} {s : Town} {n : Nat} (h1 : σ.v.lookup ("start" : Str) = some (.im (.str (nm s false)))) (h2 : σ.v.lookup ("turn" : Str) = some (.im (.int (n : Nat)))) (hline : (p7.endLine == p8.line) = true := by rfl) :
    Ev prog w H0 A env σ (.IfExp (.Compare (.BinOp (.Name "turn" p1) .Mod (.Constant (.int 2) k1 p2) p3) [.Eq] [.Constant (.int 1) k2 p4] p5) (.Call (.Attribute (.Name "start" p6) "upper" p7) [] [] p8) (.Name "start" p9) p10) (.str (nm s (n % 2 == 1))) := by
  refine Ev.ite (b := (n % 2 == 1)) (Tst.of (Tst.cmp CmpOk.eqI (Ev.rd (Ev.modN (Ev.name h2) (Ev.nat 2) (by decide))) (Ev.rd Ev.int)) ?_) (fun hb => ?_) (fun hb => ?_)
  · rw [Bool.eq_iff_iff]; simp; omega
  · rw [hb]
    exact Ev.of (Ev.m0 (Me0.upper (by rw [nm_upper]; rfl)) (Ev.rd (Ev.name h1)) rfl hline) (by rw [nm_upper])
  · rw [hb]; exact Ev.name h1
theorem roads_add {a : List Road} {r : Road} : PV.lst (a.map pvRoad ++ [pvRoad r]) = pvRoads (a ++ [r]) := by unfold pvRoads; rw [List.map_append]; rfl

theorem deed_add {rs : List Road} {n : Nat} {k : Mark} {s g : Town} (h : (k == .add || (k == .lay && decide (others rs s = rs))) = true) : deed rs n k s g = rs ++ [(s, n % 2 == 1, g)] := by
  cases k with
  | add => rfl
  | put => cases (h : false = true)
  | lay => have ho : others rs s = rs := of_decide_eq_true h
           show (if others rs s = rs then _ else _) = _
           rw [if_pos ho]
  | del => cases (h : false = true)
theorem deed_none {rs : List Road} {n : Nat} {k : Mark} {s g : Town} (h : (k == .add || (k == .lay && decide (others rs s = rs))) = false) (h2 : (k == .put) = false) (h3 : (k == .del) = false) : deed rs n k s g = rs := by
  cases k with
  | add => cases (h : true = false)
  | put => cases (h2 : true = false)
  | lay => have ho : ¬ others rs s = rs := of_decide_eq_false h
           show (if others rs s = rs then _ else _) = _
           rw [if_neg ho]
  | del => cases (h3 : true = false)

noncomputable def plS (lines : List Line) (x : PSt) : Sy := ⟨[("roads", .im (pvRoads x.1)), ("turn", .im (.int (x.2 : Nat))), ("lines", .im (.lst (lines.map pvLn)))], []⟩
noncomputable def plS1 (lines : List Line) (l : Line) (x : PSt) : Sy := ⟨("roads", .im (pvRoads x.1)) :: ("turn", .im (.int (x.2 : Nat))) :: ("goals", .im (.str (txt l.2.2))) :: ("sign", .im (.str l.2.1.s)) :: ("starts", .im (.str (txt l.1))) :: [("lines", .im (.lst (lines.map pvLn)))], []⟩
noncomputable def plS2 (lines : List Line) (l : Line) (s : Town) (x : PSt) : Sy := ⟨("roads", .im (pvRoads x.1)) :: ("turn", .im (.int (x.2 : Nat))) :: ("start", .im (.str (nm s false))) :: ("goals", .im (.str (txt l.2.2))) :: ("sign", .im (.str l.2.1.s)) :: ("starts", .im (.str (txt l.1))) :: [("lines", .im (.lst (lines.map pvLn)))], []⟩

theorem body_plain {L : Addr} {qual : Str} {fa : Addr} {code : Value} {lines : List Line} (hA : A.handled = none) (hu : A.units + 1 < cLine) (hsz : (lines.map lineSz).sum ≤ 1000) :
    Ex prog w A G (fenv (dS 77) L qual fa code) ⟨[("lines", .im (.lst (lines.map pvLn)))], []⟩ (dB 77) (.rt (pvRoads (plain lines)) []) := by
  have hlen : ∀ i, ((lines.take i).foldl stepL ([], 0)).1.length ≤ ((lines.take i).map lineSz).sum := fun i => by
    suffices H : ∀ (ls : List Line) (x : PSt), (ls.foldl stepL x).1.length ≤ x.1.length + (ls.map lineSz).sum by simpa using H (lines.take i) ([], 0)
    intro ls
    induction ls with
    | nil => intro x; simp
    | cons l ls ih =>
      intro x
      have h1 := stepL_len x l
      have h2 := ih (stepL x l)
      rw [List.foldl_cons, List.map_cons, List.sum_cons]; omega
  refine Ex.step rfl (Ex1.assign (EvN.ev (EvN.list EvL.nil))) ?_
  refine Ex.step rfl (Ex1.assign (Ev.nat 0)) ?_
  refine Ex.sub (σ₂ := plS lines ([], 0)) ?_ ⟨rfl, rfl, rfl, trivial⟩
  refine Ex.step rfl (for_ind (fun i => plS lines ((lines.take i).foldl stepL ([], 0))) (It.list hA (Ev.name rfl)) rfl rfl fun i p hp => ?_) ?_
  · obtain ⟨l, hl, rfl⟩ : ∃ l, lines[i]? = some l ∧ p = pvLn l := by
      rw [List.getElem?_map] at hp
      cases e : lines[i]? with
      | none => rw [e] at hp; cases hp
      | some l => rw [e] at hp; cases hp; exact ⟨l, rfl, rfl⟩
    have hbound : ((lines.take i).foldl stepL ([], 0)).1.length + lineSz l ≤ 1000 := by
      have h1 := hlen i
      have h2 : ((lines.take (i + 1)).map lineSz).sum = ((lines.take i).map lineSz).sum + lineSz l := by rw [List.take_add_one, hl]; simp
      have h3 : ((lines.take (i + 1)).map lineSz).sum ≤ (lines.map lineSz).sum := by
        have : (lines.map lineSz).sum = ((lines.take (i + 1)).map lineSz).sum + ((lines.drop (i + 1)).map lineSz).sum := by
          rw [← List.sum_append, ← List.map_append, List.take_append_drop]
        omega
      omega
    rw [foldl_take_succ stepL _ _ hl]
    generalize (lines.take i).foldl stepL ([], 0) = x0 at hbound ⊢
    refine ⟨_, Tgt.three hA, ?_⟩
    refine Ex.sub (σ₂ := plS1 lines l x0) ?_ ⟨rfl, rfl, rfl, rfl, rfl, rfl, trivial⟩
    refine Ex.post (σ₂ := plS1 lines l (stepL x0 l)) (Ex.step rfl (for_ind (fun j => plS1 lines l ((l.1.take j).foldl (stepS l.2.1 l.2.2) x0)) (It.towns hA (Ev.name rfl)) rfl ?_ fun j p hp => ?_) (Ex.done rfl)) ⟨rfl, rfl, rfl, trivial⟩
    · rw [List.length_map, List.take_length]; rfl
    · obtain ⟨s, hs, rfl⟩ : ∃ s, l.1[j]? = some s ∧ p = .str (nm s false) := by
        rw [List.getElem?_map] at hp
        cases e : l.1[j]? with
        | none => rw [e] at hp; cases hp
        | some l => rw [e] at hp; cases hp; exact ⟨l, rfl, rfl⟩
      have hb2 : ((l.1.take j).foldl (stepS l.2.1 l.2.2) x0).1.length + l.2.2.length ≤ 1000 := by
        have h1 := stepL_len' l.2.1 l.2.2 (l.1.take j) x0
        have hj : j < l.1.length := (List.getElem?_eq_some_iff.mp hs).1
        rw [List.length_take, Nat.min_eq_left (Nat.le_of_lt hj)] at h1
        have h3 : (j + 1) * l.2.2.length ≤ l.1.length * l.2.2.length := Nat.mul_le_mul_right _ hj
        unfold lineSz at hbound
        rw [Nat.succ_mul] at h3
        omega
      rw [foldl_take_succ _ _ _ hs]
      generalize (l.1.take j).foldl (stepS l.2.1 l.2.2) x0 = x1 at hb2 ⊢
      refine ⟨_, Tgt.name, ?_⟩
      refine Ex.sub (σ₂ := plS2 lines l s x1) ?_ ⟨rfl, rfl, rfl, rfl, rfl, rfl, rfl, trivial⟩
      refine Ex.post (σ₂ := plS2 lines l s (stepS l.2.1 l.2.2 x1 s)) (Ex.step rfl (for_ind (fun k => plS2 lines l s ((l.2.2.take k).foldl (stepG l.2.1 s) x1)) (It.towns hA (Ev.name rfl)) rfl ?_ fun k p hp => ?_) (Ex.done rfl)) ⟨rfl, rfl, rfl, rfl, rfl, rfl, trivial⟩
      · rw [List.length_map, List.take_length]; rfl
      · obtain ⟨g, hg, rfl⟩ : ∃ g, l.2.2[k]? = some g ∧ p = .str (nm g false) := by
          rw [List.getElem?_map] at hp
          cases e : l.2.2[k]? with
          | none => rw [e] at hp; cases hp
          | some l => rw [e] at hp; cases hp; exact ⟨l, rfl, rfl⟩
        have hb3 : ((l.2.2.take k).foldl (stepG l.2.1 s) x1).1.length + 1 ≤ 1000 := by
          have h1 := stepS_len l.2.1 s (l.2.2.take k) x1
          have hk : k < l.2.2.length := (List.getElem?_eq_some_iff.mp hg).1
          rw [List.length_take, Nat.min_eq_left (Nat.le_of_lt hk)] at h1
          unfold stepS at h1
          omega
        rw [foldl_take_succ _ _ _ hg]
        generalize (l.2.2.take k).foldl (stepG l.2.1 s) x1 = x at hb3 ⊢
        refine ⟨_, Tgt.name, ?_⟩
        have hszx : x.1.length + 1 ≤ sizeLine := Nat.le_trans hb3 (by decide)
        refine Ex.step rfl (Ex1.ite (out := .nx (plS2 lines l s (stepG l.2.1 s x g))) (b := decide (s < g)) (Tst.of (Tst.cmp CmpOk.ltS (Ev.rd (Ev.name rfl)) (Ev.rd (Ev.name rfl))) (nm_lt s g)) (fun hb => ?_) (fun hb => ?_)) (Ex.done rfl)
        · have hlt := of_decide_eq_true hb
          have est : stepG l.2.1 s x g = (deed x.1 x.2 l.2.1 s g, x.2 + 1) := by unfold stepG; rw [if_pos hlt]
          rw [est]
          refine Ex.step rfl (assign_compM (l := x.1) (inj := pvRoad) (g := fun r => r.1 != s) (f := pvRoad) (σc := ⟨[("start", .im (.str (nm s false)))], []⟩) inj_road ⟨rfl, by decide +kernel, rfl, by decide +kernel, ⟨⟨rfl, .inl rfl, rfl, rfl⟩, trivial⟩, rfl, fun _ => rfl⟩ (It.list hA (Ev.name rfl)) ?_ (Nat.le_of_succ_le hszx)) ?_
          · intro C r hr
            refine ⟨⟨("road", .im (pvRoad r)) :: _, []⟩, rfl, cons_fresh rfl, CTgt.name, ?_, fun _ => Ev.name rfl⟩
            refine Tst.of (Tst.cmp CmpOk.neS (Ev.rd (Ev.m0 (Me0.lower (x := nm r.1 r.2.1) (by rw [nm_lower]; rfl)) (Ev.rd (Ev.sub (ItOk.tup (by decide) rfl (by decide)) (Ev.rd (Ev.name rfl)) (Ev.rd Ev.int))))) (Ev.rd (Ev.name rfl))) ?_
            rw [nm_lower, nm_ne]
          refine Ex.freeze (x := "others") rfl ?_
          refine Ex.step rfl (Ex1.ite (out := .nx (plS2 lines l s (deed x.1 x.2 l.2.1 s g, x.2))) (b := (l.2.1 == .add) || ((l.2.1 == .lay) && decide (others x.1 s = x.1))) ?_ (fun hb => ?_) (fun hb => ?_)) ?_
          · refine LW.hideGoal fun GG hGG => ?_
            obtain ⟨m1, m2, m3, m4⟩ := mark_eq l.2.1
            refine hGG ?_
            clear hGG GG
            refine Tst.or2 (Tst.of (Tst.cmp CmpOk.eqS (Ev.rd (Ev.name rfl)) (Ev.rd Ev.str)) m1) fun _ => ?_
            refine Tst.and2 (Tst.of (Tst.cmp CmpOk.eqS (Ev.rd (Ev.name rfl)) (Ev.rd Ev.str)) m2) fun _ => ?_
            exact Tst.cmp (CmpOk.eqRoads (a := others x.1 s) (b := x.1) hu) (Ev.rd (Ev.name rfl)) (Ev.rd (Ev.name rfl))
          · have ed := deed_add (n := x.2) (g := g) hb
            rw [ed]
            refine Ex.post (Ex.step rfl (Ex1.assign (EvN.ev (EvN.of (EvN.addL (ps := x.1.map pvRoad) (qs := [pvRoad (s, x.2 % 2 == 1, g)]) (Ev.rd (Ev.name rfl)) (Ev.rd (EvN.ev (EvN.list (EvL.cons (Ev.tuple (EvL.cons (Ev.great rfl rfl) (EvL.cons (Ev.name rfl) EvL.nil))) EvL.nil)))) ?_) roads_add))) (Ex.done rfl)) ⟨rfl, rfl, rfl, rfl, rfl, rfl, rfl, trivial⟩
            rw [List.length_map]; exact hszx
          · refine LW.hideGoal fun GG hGG => ?_
            obtain ⟨m1, m2, m3, m4⟩ := mark_eq l.2.1
            refine hGG ?_
            clear hGG GG
            refine Ex.step rfl (Ex1.ite (b := l.2.1 == .put) (Tst.of (Tst.cmp CmpOk.eqS (Ev.rd (Ev.name rfl)) (Ev.rd Ev.str)) m3) (fun hp => ?_) (fun hp => ?_)) (Ex.done rfl)
            · have ed : deed x.1 x.2 l.2.1 s g = others x.1 s ++ [(s, x.2 % 2 == 1, g)] := by
                have : l.2.1 = .put := by simpa using hp
                rw [this]; rfl
              rw [ed]
              refine Ex.post (Ex.step rfl (Ex1.assign (EvN.ev (EvN.of (EvN.addL (ps := (others x.1 s).map pvRoad) (qs := [pvRoad (s, x.2 % 2 == 1, g)]) (Ev.rd (Ev.name rfl)) (Ev.rd (EvN.ev (EvN.list (EvL.cons (Ev.tuple (EvL.cons (Ev.great rfl rfl) (EvL.cons (Ev.name rfl) EvL.nil))) EvL.nil)))) ?_) roads_add))) (Ex.done rfl)) ⟨rfl, rfl, rfl, rfl, rfl, rfl, rfl, trivial⟩
              rw [List.length_map]
              have : (others x.1 s).length ≤ x.1.length := List.length_filter_le _ _
              exact Nat.le_trans (Nat.succ_le_succ this) hszx
            · refine Ex.step rfl (Ex1.ite (b := l.2.1 == .del) (Tst.of (Tst.cmp CmpOk.eqS (Ev.rd (Ev.name rfl)) (Ev.rd Ev.str)) m4) (fun hd => ?_) (fun hd => ?_)) (Ex.done rfl)
              · have ed : deed x.1 x.2 l.2.1 s g = others x.1 s := by
                  have : l.2.1 = .del := by simpa using hd
                  rw [this]; rfl
                rw [ed]
                exact Ex.post (Ex.step rfl (Ex1.assign (Ev.name rfl)) (Ex.done rfl)) ⟨rfl, rfl, rfl, rfl, rfl, rfl, rfl, trivial⟩
              · have ed := deed_none (n := x.2) (g := g) hb hp hd
                rw [ed]
                exact Ex.post (Ex.done rfl) ⟨rfl, rfl, rfl, rfl, rfl, rfl, rfl, trivial⟩
          · refine Ex.post (Ex.step rfl (Ex1.aug IpOk.addI rfl Ev.int) (Ex.done rfl)) ⟨rfl, rfl, rfl, rfl, rfl, rfl, rfl, trivial⟩
        · have hlt := of_decide_eq_false hb
          have est : stepG l.2.1 s x g = x := by unfold stepG; rw [if_neg hlt]
          rw [est]
          exact Ex.post (Ex.done rfl) ⟨rfl, rfl, rfl, rfl, rfl, rfl, rfl, trivial⟩
  · refine Ex.last rfl (Ex1.ret (Ev.of (Ev.name rfl) ?_))
    rw [List.length_map, List.take_length]; rfl
end
end LW
namespace LW

noncomputable def towns : List Town := [0, 1, 2, 3, 4, 5, 6]
theorem txt_towns : txt towns = sevens := by decide +kernel
theorem towns_take : ∀ i < 8, ∀ a : Town, a ∈ towns.take i ↔ a.val < i := by decide +kernel
theorem towns_get : ∀ i < 7, ∀ a : Town, towns[i]? = some a → a.val = i := by decide +kernel
theorem lookup_towns {β : Type} (f : Town → β) {a : Town} : ∀ {ts : List Town}, a ∈ ts → (ts.map fun t => (nm t false, f t)).lookup (nm a false) = some (f a)
  | t :: ts, h => by
    rw [List.map_cons, List.lookup_cons]
    by_cases e : nm a false = nm t false
    · have := (nm_inj _ _ _ _ e).1; subst this; simp
    · rw [beq_false_of_ne e]
      rcases memC h with rfl | h
      · exact absurd rfl e
      · exact lookup_towns f h
theorem any_towns {β : Type} (f : Town → β) {a : Town} {ts : List Town} (h : a ∉ ts) : (ts.map fun t => (nm t false, f t)).any (fun y => y.1 = nm a false) = false := by
  rw [List.any_eq_false]
  intro y hy e
  obtain ⟨t, ht, rfl⟩ := List.mem_map.mp hy
  have := (nm_inj _ _ _ _ (of_decide_eq_true e)).1
  exact h (this ▸ ht)

noncomputable abbrev Pl := Town × Town × Nat
noncomputable def pvPl (x : Pl) : PV := .tup [.str (nm x.1 false), .str (nm x.2.1 false), .int (x.2.2 : Nat)]
theorem inj_pl : ∀ a b : Pl, pvPl a = pvPl b → a = b := fun a b e => by
  have := PV.tup.inj e
  simp only [List.cons.injEq, PV.str.injEq, PV.int.injEq, and_true] at this
  obtain ⟨h1, h2, h3⟩ := this
  exact Prod.ext (nm_inj _ _ _ _ h1).1 (Prod.ext (nm_inj _ _ _ _ h2).1 (by omega))
theorem nm_eqb : ∀ (a b : Town), (nm a false == nm b false) = (a == b) := by decide +kernel

/-- the numbers of the ways, town by town -/
noncomputable def CntOk (pl : List Pl) (s : Town) (c : Town → Nat) : Prop := ∀ t, c t = if t = s then 1 else ((pl.filter fun x => x.2.1 == t).map fun x => c x.1 * x.2.2).sum
noncomputable def cD (c : Town → Nat) (i : Nat) : List (Str × PV) := (towns.take i).map fun t => (nm t false, PV.int (c t : Nat))

section
variable {prog : Program} {w : World} {A : Around} {G H0 : Heap} {env : Env} {σ σ₂ σ₃ σc : Sy} {h h' : Heap} {M : List Addr} {m : Str → Option Value} {s : Shared}

theorem EvN.dict0 {pos : Pos} : EvN prog w H0 A env σ (.Dict [] [] pos) (.dct []) := .mk fun s M m Q E V q => by
  refine wpAny_Dict_empty ?_
  have kp := Kp.push s.heap { cls := .type "dict", data := .dict #[] }
  exact q s.heap.objs.size _ _ s.toks kp (size_none _) ⟨rfl, not_sys V.sm (size_none _), [], Heap.DictOf.new s.heap, rfl⟩
theorem mul_small {a : Int} {n : Nat} (h : n < 2 ^ 62) : IntMulOk a (n : Int) := IntMulOk.of_right (PySem.intBits_le_64 (by omega) (by omega))
noncomputable def cntS (pl : List Pl) (s : Town) (c : Town → Nat) (i : Nat) : Sy := ⟨[("counts", .ow (.dct (cD c i))), ("placed", .im (.lst (pl.map pvPl))), ("start", .im (.str (nm s false)))], []⟩

theorem body_counts {L : Addr} {qual : Str} {fa : Addr} {code : Value} {pl : List Pl} {s : Town} {c : Town → Nat} (hA : A.handled = none) (hpl : pl.length ≤ 1000) (hn : ∀ x ∈ pl, x.2.2 < 2 ^ 62) (hlt : ∀ x ∈ pl, x.1 < x.2.1) (hc : CntOk pl s c) (hsum : BVal G "sum" (.builtin "sum")) :
    Ex prog w A G (fenv (dS 81) L qual fa code) ⟨[("placed", .im (.lst (pl.map pvPl))), ("start", .im (.str (nm s false)))], []⟩ (dB 81) (.rt (.dct (cD c 7)) []) := by
  refine Ex.step rfl (Ex1.assignN EvN.dict0) ?_
  refine Ex.step rfl (for_ind (cntS pl s c) (It.towns (ts := towns) hA (Ev.of Ev.str (by rw [txt_towns]))) rfl rfl fun i p hp => ?_) ?_
  · obtain ⟨t, ht, rfl⟩ : ∃ t, towns[i]? = some t ∧ p = .str (nm t false) := by
      rw [List.getElem?_map] at hp
      cases e : towns[i]? with
      | none => rw [e] at hp; cases hp
      | some l => rw [e] at hp; cases hp; exact ⟨l, rfl, rfl⟩
    have hi : i < 7 := (List.getElem?_eq_some_iff.mp ht).1
    have hti := towns_get i hi t ht
    refine ⟨_, Tgt.name, ?_⟩
    refine Ex.post (Ex.step rfl (Ex1.setItem (p := .int (c t : Nat)) (k := nm t false) rfl ?_ (Ev.name rfl) ?_) (Ex.done rfl)) ⟨?_, rfl, rfl, trivial⟩
    · refine Ev.ite (b := t == s) (Tst.of (Tst.cmp CmpOk.eqS (Ev.rd (Ev.name rfl)) (Ev.rd (Ev.name rfl))) (nm_eqb t s)) (fun hb => ?_) (fun hb => ?_)
      · have e : t = s := by simpa using hb
        have : c t = 1 := by rw [hc t, if_pos e]
        exact Ev.of Ev.int (by rw [this]; rfl)
      · have e : ¬ t = s := by simpa using hb
        have ect : c t = ((pl.filter fun x => x.2.1 == t).map fun x => c x.1 * x.2.2).sum := by rw [hc t, if_neg e]
        have key : ((pl.filter fun x => x.2.1 == t).map fun x => PV.int ((c x.1 * x.2.2 : Nat) : Int)) = (((pl.filter fun x => x.2.1 == t).map fun x => ((c x.1 * x.2.2 : Nat) : Int)).map PV.int) := by rw [List.map_map]; rfl
        refine Ev.of (Ev.callB (C1.sum (l := (pl.filter fun x => x.2.1 == t).map fun x => ((c x.1 * x.2.2 : Nat) : Int)) hA) (Ev.bi hsum rfl) (Ev.rd (EvN.ev ?_))) ?_
        · rw [← key]
          refine EvN.compM (inj := pvPl) (σc := ⟨[("counts", .ow (.dct (cD c i))), ("town", .im (.str (nm t false)))], []⟩) inj_pl ⟨rfl, by decide +kernel, rfl, by decide +kernel, ⟨⟨rfl, .inl rfl, rfl, rfl⟩, ⟨rfl, .inl rfl, rfl, rfl⟩, trivial⟩, rfl, fun _ => rfl⟩ (It.list hA (Ev.name rfl)) ?_ (Nat.le_trans hpl (by decide))
          intro C x hx
          refine ⟨⟨("place", .im (.int (x.2.2 : Nat))) :: ("goal", .im (.str (nm x.2.1 false))) :: ("name", .im (.str (nm x.1 false))) :: _, []⟩, rfl, cons_fresh3 rfl rfl rfl, CTgt.three hA, ?_, fun hg => ?_⟩
          · exact Tst.of (Tst.cmp CmpOk.eqS (Ev.rd (Ev.name rfl)) (Ev.rd (Ev.name rfl))) (nm_eqb _ _)
          · have hg' : x.2.1 = t := by simpa using hg
            have hlt' := hlt x hx
            refine Ev.mulN (Ev.sub (ItOk.dct (ps := cD c i) (x := nm x.1 false) (z := .int (c x.1 : Nat)) ?_) (Rd.own rfl) (Ev.rd (Ev.name rfl))) (Ev.name rfl) (mul_small (hn x hx))
            refine lookup_towns (fun t => PV.int (c t : Nat)) ((towns_take i (by omega) x.1).mpr ?_)
            rw [← hti, ← hg']; exact hlt'
        · rw [ect]
          congr 1
          induction (pl.filter fun x => x.2.1 == t) with
          | nil => rfl
          | cons x l ih => rw [List.map_cons, List.map_cons, List.sum_cons, List.sum_cons, ih, Int.natCast_add]
    · unfold cD; rw [List.length_map, List.length_take]
      exact Nat.le_trans (Nat.min_le_right _ _) (by decide)
    · show some (LV.ow (.dct (dput (cD c i) (nm t false) (.int (c t : Nat))))) = some (LV.ow (.dct (cD c (i + 1))))
      have hno : t ∉ towns.take i := fun hm => by have := (towns_take i (by omega) t).mp hm; omega
      have ha := any_towns (fun t => PV.int (c t : Nat)) hno
      unfold dput
      unfold cD
      rw [ha]
      rw [if_neg (by decide), List.take_add_one, ht, List.map_append]; rfl
  · exact Ex.last rfl (Ex1.retOwn rfl)
end
end LW
namespace LW

theorem bitAnd_nat (a b : Nat) : Builtin.bitAnd (a : Int) (b : Int) = ((a &&& b : Nat) : Int) := by
  unfold Builtin.bitAnd
  rw [decide_eq_true (Int.natCast_nonneg a), decide_eq_true (Int.natCast_nonneg b)]
  rfl
theorem bitNot_nat (a : Nat) : Builtin.bitNot (Builtin.bitNot (a : Int)) = (a : Int) := by unfold Builtin.bitNot; omega
theorem bitOr_nat (a b : Nat) : Builtin.bitOr (a : Int) (b : Int) = ((a ||| b : Nat) : Int) := by
  unfold Builtin.bitOr Builtin.bitAnd
  have h1 : decide ((0 : Int) ≤ Builtin.bitNot (a : Int)) = false := decide_eq_false (by unfold Builtin.bitNot; omega)
  have h2 : decide ((0 : Int) ≤ Builtin.bitNot (b : Int)) = false := decide_eq_false (by unfold Builtin.bitNot; omega)
  rw [h1, h2]
  show Builtin.bitNot (Builtin.bitNot (((Builtin.bitNot (Builtin.bitNot (a : Int))).toNat ||| (Builtin.bitNot (Builtin.bitNot (b : Int))).toNat : Nat) : Int)) = _
  rw [bitNot_nat, bitNot_nat, bitNot_nat]; rfl

theorem nodup_len {α : Type} [DecidableEq α] : ∀ (l m : List α), l.Nodup → (∀ a ∈ l, a ∈ m) → l.length ≤ m.length
  | [], m, _, _ => Nat.zero_le _
  | a :: l, m, nd, h => by
    rw [List.nodup_cons] at nd
    have ha : a ∈ m := h a List.mem_cons_self
    have := nodup_len l (m.erase a) nd.2 fun b hb => (List.mem_erase_of_ne (a := b) (b := a) (fun e : b = a => nd.1 (e ▸ hb))).mpr (h b (List.mem_cons_of_mem _ hb))
    rw [List.length_erase_of_mem ha] at this
    have := List.length_pos_of_mem ha
    rw [List.length_cons]; omega

noncomputable abbrev Way := Town × Nat × Nat
noncomputable def pvWay (x : Way) : PV := .tup [.str (nm x.1 false), .int (x.2.1 : Nat), .int (x.2.2 : Nat)]
noncomputable def nm2 (a b : Town) : Str := nm a false ++ nm b false
theorem nm2_inj : ∀ a b c d : Town, nm2 a b = nm2 c d → a = c ∧ b = d := by decide +kernel
theorem nm2_len : ∀ a b : Town, (nm a false).length + (nm b false).length ≤ 2 := by decide +kernel
noncomputable abbrev AD := List ((Town × Town) × Nat)
noncomputable def pvAD (D : AD) : List (Str × PV) := D.map fun y => (nm2 y.1.1 y.1.2, .int (y.2 : Nat))
noncomputable def aget (D : AD) (k : Town × Town) : Nat := (D.lookup k).getD 0
noncomputable def aput (D : AD) (k : Town × Town) (n : Nat) : AD := if D.any (fun y => y.1 = k) then D.map (fun y => if y.1 = k then (y.1, n) else y) else D ++ [(k, n)]
theorem pvAD_lookup (D : AD) (a b : Town) : (pvAD D).lookup (nm2 a b) = (D.lookup (a, b)).map fun (n : Nat) => PV.int (n : Int) := by
  unfold pvAD
  induction D with
  | nil => rfl
  | cons y D ih =>
    rw [List.map_cons, List.lookup_cons, List.lookup_cons]
    by_cases e : nm2 a b = nm2 y.1.1 y.1.2
    · obtain ⟨h1, h2⟩ := nm2_inj _ _ _ _ e
      have : (a, b) = y.1 := Prod.ext h1 h2
      rw [e, this]; simp
    · have : (a, b) ≠ y.1 := fun h => e (by rw [← h])
      rw [beq_false_of_ne e, beq_false_of_ne this]; exact ih
theorem pvAD_get (D : AD) (a b : Town) : dget (pvAD D) (nm2 a b) (.int (0 : Nat)) = .int (aget D (a, b) : Nat) := by
  unfold dget aget
  rw [pvAD_lookup]
  cases D.lookup (a, b) <;> rfl
theorem pvAD_key (y : (Town × Town) × Nat) (a b : Town) : (decide (nm2 y.1.1 y.1.2 = nm2 a b)) = decide (y.1 = (a, b)) := by
  rw [Bool.eq_iff_iff, decide_eq_true_iff, decide_eq_true_iff]
  constructor
  · intro e; obtain ⟨h1, h2⟩ := nm2_inj _ _ _ _ e; exact Prod.ext h1 h2
  · intro e; rw [e]
theorem pvAD_put (D : AD) (a b : Town) (n : Nat) : dput (pvAD D) (nm2 a b) (.int (n : Nat)) = pvAD (aput D (a, b) n) := by
  unfold dput aput
  have e : (pvAD D).any (fun y => y.1 = nm2 a b) = D.any (fun y => y.1 = (a, b)) := by
    unfold pvAD
    rw [List.any_map]
    congr 1; funext y; exact pvAD_key y a b
  rw [e]
  split
  · unfold pvAD
    rw [List.map_map, List.map_map]
    refine List.map_congr_left fun y _ => ?_
    have := pvAD_key y a b
    simp only [Function.comp]
    by_cases h : y.1 = (a, b)
    · rw [decide_eq_true h] at this
      rw [if_pos (of_decide_eq_true this), if_pos h]
    · rw [decide_eq_false h] at this
      rw [if_neg (of_decide_eq_false this), if_neg h]
  · unfold pvAD; rw [List.map_append]; rfl
theorem aput_keys (D : AD) (k : Town × Town) (n : Nat) (nd : (D.map (·.1)).Nodup) : ((aput D k n).map (·.1)).Nodup := by
  unfold aput
  split
  · rw [List.map_map]
    have : ((fun y : (Town × Town) × Nat => y.1) ∘ fun y => if y.1 = k then (y.1, n) else y) = fun y => y.1 := by funext y; simp only [Function.comp]; split <;> rfl
    rw [this]; exact nd
  · rename_i h
    rw [List.map_append, List.nodup_append]
    refine ⟨nd, by simp, ?_⟩
    intro a ha b hb e
    simp only [List.map_cons, List.map_nil, List.mem_singleton] at hb
    obtain ⟨y, hy, rfl⟩ := List.mem_map.mp ha
    exact h (List.any_eq_true.mpr ⟨y, hy, by simp [e, hb]⟩)
noncomputable def allPairs : List (Town × Town) := towns.flatMap fun a => towns.map fun b => (a, b)
theorem allPairs_all : ∀ a b : Town, (a, b) ∈ allPairs := by decide +kernel
theorem ad_len {D : AD} (nd : (D.map (·.1)).Nodup) : D.length ≤ 49 := by
  have := nodup_len _ allPairs nd fun x _ => allPairs_all x.1 x.2
  rw [List.length_map] at this
  exact Nat.le_trans this (by decide)

noncomputable def apart1 (x : Way) (D : AD) (y : Way) : AD := if x.2.1 &&& y.2.1 = 0 then aput D (x.1, y.1) (aget D (x.1, y.1) + x.2.2 * y.2.2) else D
noncomputable def apartD (ones others : List Way) : AD := ones.foldl (fun D x => others.foldl (apart1 x) D) []
theorem apart1_nd (x : Way) (D : AD) (y : Way) (nd : (D.map (·.1)).Nodup) : ((apart1 x D y).map (·.1)).Nodup := by
  unfold apart1; split
  · exact aput_keys _ _ _ nd
  · exact nd
theorem apartI_nd (x : Way) : ∀ (l : List Way) (D : AD), (D.map (·.1)).Nodup → ((l.foldl (apart1 x) D).map (·.1)).Nodup
  | [], D, nd => nd
  | y :: l, D, nd => apartI_nd x l _ (apart1_nd x D y nd)
theorem apartO_nd (others : List Way) : ∀ (l : List Way) (D : AD), (D.map (·.1)).Nodup → ((l.foldl (fun D x => others.foldl (apart1 x) D) D).map (·.1)).Nodup
  | [], D, nd => nd
  | x :: l, D, nd => apartO_nd others l _ (apartI_nd x others D nd)

section
variable {prog : Program} {w : World} {A : Around} {G H0 : Heap} {env : Env} {σ σ₂ σ₃ σc : Sy} {h h' : Heap} {M : List Addr} {m : Str → Option Value} {s : Shared}

noncomputable def apS (ones others : List Way) (D : AD) : Sy := ⟨[("apart", .ow (.dct (pvAD D))), ("ones", .im (.lst (ones.map pvWay))), ("others", .im (.lst (others.map pvWay)))], []⟩
noncomputable def apS2 (ones others : List Way) (x : Way) (D : AD) : Sy := ⟨("apart", .ow (.dct (pvAD D))) :: ("times", .im (.int (x.2.2 : Nat))) :: ("met", .im (.int (x.2.1 : Nat))) :: ("one", .im (.str (nm x.1 false))) :: [("ones", .im (.lst (ones.map pvWay))), ("others", .im (.lst (others.map pvWay)))], []⟩

theorem body_apart {L : Addr} {qual : Str} {fa : Addr} {code : Value} {ones others : List Way} (hA : A.handled = none) (hn : ∀ x ∈ others, x.2.2 < 2 ^ 62) :
    Ex prog w A G (fenv (dS 80) L qual fa code) ⟨[("ones", .im (.lst (ones.map pvWay))), ("others", .im (.lst (others.map pvWay)))], []⟩ (dB 80) (.rt (.dct (pvAD (apartD ones others))) []) := by
  refine Ex.step rfl (Ex1.assignN EvN.dict0) ?_
  refine Ex.step rfl (for_ind (fun i => apS ones others ((ones.take i).foldl (fun D x => others.foldl (apart1 x) D) [])) (It.list hA (Ev.name rfl)) rfl rfl fun i p hp => ?_) ?_
  · obtain ⟨x, hx, rfl⟩ : ∃ x, ones[i]? = some x ∧ p = pvWay x := by
      rw [List.getElem?_map] at hp
      cases e : ones[i]? with
      | none => rw [e] at hp; cases hp
      | some l => rw [e] at hp; cases hp; exact ⟨l, rfl, rfl⟩
    have nd := apartO_nd others (ones.take i) [] (by simp)
    rw [foldl_take_succ _ _ _ hx]
    generalize (ones.take i).foldl (fun D x => others.foldl (apart1 x) D) [] = D at nd ⊢
    refine ⟨_, Tgt.three hA, ?_⟩
    refine Ex.sub (σ₂ := apS2 ones others x D) ?_ ⟨rfl, rfl, rfl, rfl, rfl, rfl, trivial⟩
    refine Ex.post (σ₂ := apS2 ones others x (others.foldl (apart1 x) D)) (Ex.step rfl (for_ind (fun j => apS2 ones others x ((others.take j).foldl (apart1 x) D)) (It.list hA (Ev.name rfl)) rfl ?_ fun j p hp => ?_) (Ex.done rfl)) ⟨rfl, rfl, rfl, trivial⟩
    · rw [List.length_map, List.take_length]
    · obtain ⟨y, hy, rfl⟩ : ∃ y, others[j]? = some y ∧ p = pvWay y := by
        rw [List.getElem?_map] at hp
        cases e : others[j]? with
        | none => rw [e] at hp; cases hp
        | some l => rw [e] at hp; cases hp; exact ⟨l, rfl, rfl⟩
      have nd2 := apartI_nd x (others.take j) D nd
      have hny := hn y (List.mem_of_getElem? hy)
      rw [foldl_take_succ _ _ _ hy]
      generalize (others.take j).foldl (apart1 x) D = D' at nd2 ⊢
      refine ⟨_, Tgt.three hA, ?_⟩
      refine Ex.step rfl (Ex1.ite (out := .nx (apS2 ones others x (apart1 x D' y))) (b := decide (x.2.1 &&& y.2.1 = 0)) (Tst.of (Tst.cmp CmpOk.eqI (Ev.rd (Ev.andI (Ev.name rfl) (Ev.name rfl))) (Ev.rd Ev.int)) ?_) (fun hb => ?_) (fun hb => ?_)) (Ex.done rfl)
      · rw [bitAnd_nat, Bool.eq_iff_iff]; simp
      · have hb' := of_decide_eq_true hb
        have key : ∀ {l r : PySem.Expr} {pos : Pos}, Ev prog w G A (fenv (dS 80) L qual fa code) ⟨("often", .im (.int (y.2.2 : Nat))) :: ("seen", .im (.int (y.2.1 : Nat))) :: ("other", .im (.str (nm y.1 false))) :: (apS2 ones others x D').v, []⟩ l (.str (nm x.1 false)) →
            Ev prog w G A (fenv (dS 80) L qual fa code) ⟨("often", .im (.int (y.2.2 : Nat))) :: ("seen", .im (.int (y.2.1 : Nat))) :: ("other", .im (.str (nm y.1 false))) :: (apS2 ones others x D').v, []⟩ r (.str (nm y.1 false)) →
            Ev prog w G A (fenv (dS 80) L qual fa code) ⟨("often", .im (.int (y.2.2 : Nat))) :: ("seen", .im (.int (y.2.1 : Nat))) :: ("other", .im (.str (nm y.1 false))) :: (apS2 ones others x D').v, []⟩ (.BinOp l .Add r pos) (.str (nm2 x.1 y.1)) :=
          fun h1 h2 => Ev.addS h1 h2 (Nat.le_trans (nm2_len x.1 y.1) (by decide))
        have e : apart1 x D' y = aput D' (x.1, y.1) (aget D' (x.1, y.1) + x.2.2 * y.2.2) := by unfold apart1; rw [if_pos hb']
        rw [e]
        refine Ex.post (Ex.step rfl (Ex1.setItem (p := .int ((aget D' (x.1, y.1) + x.2.2 * y.2.2 : Nat) : Int)) (k := nm2 x.1 y.1) rfl ?_ (key (Ev.name rfl) (Ev.name rfl)) ?_) (Ex.done rfl)) ⟨?_, rfl, rfl, rfl, rfl, rfl, trivial⟩
        · refine Ev.addN (Ev.of (Ev.m2 (Me2.get (d := .int (0 : Nat))) (Rd.own rfl) (Ev.rd (key (Ev.name rfl) (Ev.name rfl))) (Ev.nat 0)) (pvAD_get D' x.1 y.1)) (Ev.mulN (Ev.name rfl) (Ev.name rfl) (mul_small hny))
        · unfold pvAD; rw [List.length_map]; exact Nat.le_trans (ad_len nd2) (by decide)
        · rw [← pvAD_put]; rfl
      · have hb' := of_decide_eq_false hb
        have e : apart1 x D' y = D' := by unfold apart1; rw [if_neg hb']
        rw [e]
        exact Ex.post (Ex.done rfl) ⟨rfl, rfl, rfl, rfl, rfl, rfl, trivial⟩
  · refine Ex.last rfl (Ex1.retOwn ?_)
    rw [List.length_map, List.take_length]; rfl
end
end LW
namespace LW
section
variable {prog : Program} {w : World} {A : Around} {H0 : Heap} {env : Env} {σ σc : Sy} {h h' : Heap} {M : List Addr} {m m' : Str → Option Value} {E : Value → Shared → Prop}

theorem Kp.hidFreshs2 (k : Kp h h') {N : List Addr} {a : Addr} (f : ∀ b ∈ N, h.get? b = none) (fa : h.get? a = none) (M : List Addr) : Kp (LW.hid h M) (LW.hid h' (N ++ a :: M)) := fun b o e => by
  rw [hid_get] at e ⊢
  refine ⟨k b o e.1, fun hm => ?_⟩
  rcases List.mem_append.mp hm with hm | hm
  · rw [f b hm] at e; cases e.1
  · rcases memC hm with rfl | hm
    · rw [fa] at e; cases e.1
    · exact e.2 hm

theorem Kp.outside' {L : List Addr} (k : ∀ b o, b ∉ L → h.get? b = some o → h'.get? b = some o) : Kp (LW.hid h L) (LW.hid h' L) := fun b o e => by
  rw [hid_get] at e ⊢
  exact ⟨k b o e.2 e.1, e.2⟩
theorem CS.startK {s : Shared} {scope : Scope} {cl : List (Str × Addr)} {C ck : Addr} {x : Str} {p : PV} {v : Value} {h₁ : Heap} {N : List Addr} {m₁ : Str → Option Value} (V : Vars prog w H0 s.heap M env σ m) (k : Kp s.heap h₁) (frN : ∀ a ∈ N, s.heap.get? a = none) (frc : s.heap.get? ck = none)
    (exN : ∀ a ∈ N, ∃ o, h₁.get? a = some o) (hckN : ck ∉ N) (hkind : scope.kind = .function) (hC : C ∈ N) (hns : h₁.Ns C m₁) (caps : Caps env scope cl σ.v σc.v) (htc : σc.t = σ.t) (hx : σc.v.lookup x = none) (kx : (relabel scope env).names.lookup x = some .cell)
    (hcell : h₁.IsCell ck (some v)) (r : RepV prog w (hid h₁ (N ++ ck :: M)) p v) : CS prog w H0 h₁ N (ck :: M) (compEnvC scope ((x, ck) :: cl) C env) ⟨(x, .im p) :: σc.v, σc.t⟩ m₁ where
  fn := hkind
  gl := V.gl
  bl := V.bl
  base := V.base.trans (Kp.hidFreshs2 k frN frc M)
  ns := hns
  sm := let ⟨o, e⟩ := V.sm; ⟨o, k _ _ e⟩
  ex := fun a ha => by
    rcases List.mem_append.mp ha with ha | ha
    · exact exN a ha
    · rcases memC ha with rfl | ha
      · obtain ⟨o, e, _⟩ := hcell; exact ⟨o, e⟩
      · obtain ⟨o, e⟩ := V.ex a ha; exact ⟨o, k a o e⟩
  ap := fun a ha hN => by
    rcases memC ha with rfl | ha
    · exact hckN hN
    · obtain ⟨o, e⟩ := V.ex a ha; rw [frN a hN] at e; cases e
  inC := hC
  va := fun y lv e => by
    by_cases hy : y = x
    · subst hy
      simp only [List.lookup_cons, beq_self_eq_true] at e
      cases e
      exact ⟨v, .inr ⟨.inl kx, ck, by show ((y, ck) :: cl).lookup y = some ck; simp, hckN, hcell⟩, r⟩
    · have e1 : σc.v.lookup y = some lv := by simpa [List.lookup_cons, beq_false_of_ne hy] using e
      refine LW.hideGoal fun GG hGG => ?_
      obtain ⟨e', hk, hnl, hcl⟩ := caps.get y lv e1
      obtain ⟨v', sl, r'⟩ := V.va y lv e'
      refine hGG ?_
      clear hGG GG
      refine ⟨v', ?_, ?_⟩
      · rcases sl with ⟨hl, _⟩ | ⟨_, c, hc, hv⟩
        · rw [hl] at hnl; cases hnl
        · refine .inr ⟨hk, c, ?_, fun hN => ?_, hv.keeps k⟩
          · show ((x, ck) :: cl).lookup y = some c
            rw [List.lookup_cons, beq_false_of_ne hy]; exact hcl.trans hc
          · obtain ⟨o, e, _⟩ := hv; rw [frN c hN] at e; cases e
      · cases lv with
        | im p => exact RepV.mono (Kp.hidFreshs2 k frN frc M) _ _ r'
        | ow p => obtain ⟨a, ha, r'⟩ := r'; exact ⟨a, List.mem_cons_of_mem _ ha, r'.move (fun o => k a o) (Kp.hidFreshs2 k frN frc M)⟩
  th := fun y hy => by
    have hy' : y ∈ σ.t := by rw [← htc]; exact hy
    exact ⟨List.mem_cons_of_mem _ (V.th y hy').1, (V.th y hy').2.move (fun o => k y.1 o) (Kp.hidFreshs2 k frN frc M)⟩

theorem comp_cell {s : Shared} {h0 : Heap} {tk0 : Nat} {elt iter : PySem.Expr} {x : Str} {px : Pos} {scope : Scope} {cl : List (Str × Addr)} {pos : Pos} {xs : List PV} {f : PV → PV} {I : Addr} {fp wr : List Addr} {inv : Nat → Heap → Prop}
    {mid : Nat → Value → Heap → Prop} (V : Vars prog w H0 s.heap M env σ m) (k0 : Kp s.heap h0) (W : Wk prog w A (hid h0 (wr ++ M)) I fp wr xs inv mid (.Name x px)) (i0 : inv 0 h0) (fr : ∀ b ∈ wr, s.heap.get? b = none)
    (hck : ∀ n acc, cellsFrom n scope.names acc = (x, n) :: acc) (hpush : ∀ h, pushCells h scope.names = h.push { cls := .type "cell", data := .cell none }) (hkind : scope.kind = .function) (caps : Caps env scope cl σ.v σc.v) (htc : σc.t = σ.t) (hx : σc.v.lookup x = none)
    (kx : (relabel scope env).names.lookup x = some .cell) (step : ∀ C c p, p ∈ xs → Ev prog w H0 A (compEnvC scope ((x, c) :: cl) C env) ⟨(x, .im p) :: σc.v, σc.t⟩ elt (f p))
    (hsz : xs.length ≤ sizeLine) {RR : Value → Addr → Result → Shared → Prop}
    (hRR : ∀ D C h1 tk m', s.heap.get? D = none → s.heap.get? C = none → C ≠ D → Kp s.heap h1 → h1.Ns C m' → OwnV prog w h1 (D :: C :: M) D (.ref D) (.lst (xs.map f)) → RR (.ref D) C (.ok .next) { s with heap := h1, toks := tk }) :
    wpAny (model prog w) A (newList []) (fun acc s₃ => wpAny (model prog w) A (newFunctionEnv scope env.globals cl [] env.qual none .none (some env)) (fun cenv s₄ =>
      codeAny (model prog w) A (.compStart (.ListComp elt [⟨.Name x px, iter, [], 0⟩] scope pos) 0 (.ref I) acc { cenv with scope := relabel scope env }) (RR acc cenv.locals) s₄) E s₃) E { s with heap := h0, toks := tk0 } := by
  refine wpAny_newObj_type ?_
  simp only [newFunctionEnv, Option.isSome_some, if_true]
  refine wpAny_bind (wpAny_alloc ?_)
  refine wpAny_bind (wpAny_layCells _ (fun name kind cells => by cases hkc : kind == NameKind.cell <;> simp [hkc]) _ _ _ _ ?_)
  rw [List.forIn_nil]
  refine wpAny_bind (wpAny_pure (wpAny_pure ?_))
  dsimp only
  rw [hck, hpush]
  generalize hD : h0.objs.size = D
  have hC1 : (h0.push { cls := .type "list", dict := none, data := .seq ([] : List Value).toArray }).objs.size = D + 1 := by rw [Heap.size_push, hD]
  generalize hH2 : h0.push { cls := .type "list", dict := none, data := .seq ([] : List Value).toArray } = H2 at hC1 ⊢
  have hC2 : (H2.push { cls := .type "dict", data := .dict #[] }).objs.size = D + 2 := by rw [Heap.size_push, hC1]
  rw [hC1, hC2]
  generalize hH3 : H2.push { cls := .type "dict", data := .dict #[] } = H3
  generalize hH4 : H3.push { cls := .type "cell", data := .cell none } = h₁
  have n1 : D ≠ D + 1 := Nat.ne_of_lt (Nat.lt_succ_self _)
  have n2 : D ≠ D + 2 := Nat.ne_of_lt (Nat.lt_succ_of_lt (Nat.lt_succ_self _))
  have n3 : D + 1 ≠ D + 2 := Nat.ne_of_lt (Nat.lt_succ_self _)
  have below : ∀ b o, h0.get? b = some o → b ≠ D + 2 ∧ b ≠ D + 1 ∧ b ≠ D := fun b o e => by
    have := Heap.lt_size e; rw [hD] at this
    exact ⟨Nat.ne_of_lt (Nat.lt_succ_of_lt (Nat.lt_succ_of_lt this)), Nat.ne_of_lt (Nat.lt_succ_of_lt this), Nat.ne_of_lt this⟩
  have k23 : Kp H2 H3 := hH3 ▸ Kp.push _ _
  have k34 : Kp H3 h₁ := hH4 ▸ Kp.push _ _
  have old : Kp h0 h₁ := (hH2 ▸ Kp.push _ _ : Kp h0 H2).trans (k23.trans k34)
  have hacc : h₁.PlainList D #[] := ⟨_, (k23.trans k34) _ _ (hH2 ▸ hD ▸ Heap.get?_push_size _ rfl)⟩
  have hns₁ : h₁.Ns (D + 1) (fun _ => none) := by
    have := Heap.Ns.new H2 (.type "dict")
    rw [hC1, hH3] at this
    exact this.keeps k34
  have hcell₁ : h₁.IsCell (D + 2) none := by
    refine ⟨{ cls := .type "cell", data := .cell none }, ?_, rfl⟩
    have : H3.objs.size = D + 2 := by rw [← hH3, hC2]
    rw [← hH4, ← this]; exact Heap.get?_push_size _ rfl
  have kS : Kp s.heap h₁ := k0.trans old
  have none_of : ∀ b, D ≤ b → h0.get? b = none := fun b hb => by
    cases e : h0.get? b with
    | none => rfl
    | some o => have := Heap.lt_size e; rw [hD] at this; exact absurd (Nat.lt_of_lt_of_le this hb) (Nat.lt_irrefl _)
  have fpC : ∀ b ∈ fp, b ≠ D + 2 ∧ b ≠ D + 1 ∧ b ≠ D := fun b hb => by obtain ⟨o, e⟩ := W.live 0 h0 i0 b hb; exact below b o e
  have wrC : ∀ b ∈ wr, b ≠ D + 2 ∧ b ≠ D + 1 ∧ b ≠ D := fun b hb => fpC b (W.sub b hb)
  have hKw : (D + 2) ∉ wr := fun hm => (wrC _ hm).1 rfl
  have hCw : (D + 1) ∉ wr := fun hm => (wrC _ hm).2.1 rfl
  have hDw : D ∉ wr := fun hm => (wrC D hm).2.2 rfl
  have frD : s.heap.get? D = none := none_of_kp k0 (none_of _ (Nat.le_refl _))
  have frC : s.heap.get? (D + 1) = none := none_of_kp k0 (none_of _ (Nat.le_succ _))
  have frK : s.heap.get? (D + 2) = none := none_of_kp k0 (none_of _ (Nat.le_add_right _ _))
  have inv1 : inv 0 h₁ := W.frame 0 h0 h₁ i0 fun b hb o e => old b o e
  generalize hN : wr ++ [D + 1, D] = N
  have memN : ∀ b, b ∈ N ↔ b ∈ wr ∨ b = D + 1 ∨ b = D := fun b => by rw [← hN]; simp
  have memN' : ∀ b, b ∈ N → b ∈ wr ∨ D + 1 = b ∨ D = b := fun b hb => ((memN b).mp hb).imp_right fun h => h.imp Eq.symm Eq.symm
  have hKN : (D + 2) ∉ N := fun hm => by
    rcases (memN _).mp hm with hm | hm | hm
    · exact hKw hm
    · exact n3 hm.symm
    · exact n2 hm.symm
  have frN : ∀ a ∈ N, s.heap.get? a = none := fun a ha => by
    rcases memN' a ha with ha | rfl | rfl
    · exact fr a ha
    · exact frC
    · exact frD
  have eN : ∀ L : List Addr, N ++ L = wr ++ ([D + 1, D] ++ L) := fun L => by rw [← hN, List.append_assoc]
  have hns0 : ∀ x, x = D + 1 → True := fun _ _ => trivial
  have loop : ∀ s₃ : Shared, (∃ tk, s₃ = { s with heap := h₁, toks := tk }) →
      codeAny (model prog w) A (.compLoop (.ListComp elt [⟨.Name x px, iter, [], 0⟩] scope pos) 0 (.ref I) (.ref D) (compEnvC scope ((x, D + 2) :: cl) (D + 1) env)) (RR (.ref D) (D + 1)) s₃ := by
    rintro s₃ ⟨tk3, rfl⟩
    refine lc_loop (fun n s' => ∃ i h tk vs v0, s' = { s with heap := h, toks := tk } ∧ n + i = xs.length + 1 ∧ i ≤ xs.length ∧ h.Ns (D + 1) (fun _ => none) ∧ inv i h ∧ h.PlainList D (List.toArray vs) ∧ h.IsCell (D + 2) v0 ∧
      RepVs prog w (hid h (N ++ (D + 2) :: M)) ((xs.take i).map f) vs ∧ (∀ b o, b ∉ N → b ≠ D + 2 → h₁.get? b = some o → h.get? b = some o)) ?_ (xs.length + 1)
      ⟨0, h₁, _, [], none, rfl, rfl, Nat.zero_le _, hns₁, inv1, hacc, hcell₁, rfl, fun _ _ _ _ e => e⟩
    rintro n s' J K E' hJ hK hRR
    refine LW.hideGoal fun GG hGG => ?_
    obtain ⟨i, h, tk, vs, v0, rfl, hn, hile, hnsi, hinv, hpl, hci, hvs, hk⟩ := hRR
    refine hGG ?_
    clear hGG GG
    have kSh : Kp s.heap h := fun b o e => hk b o (fun hm => by rw [frN b hm] at e; cases e) (fun e' => by rw [e', frK] at e; cases e) (kS b o e)
    have kF : Kp (hid h0 (wr ++ M)) (hid h (wr ++ ([D + 1, D] ++ (D + 2) :: M))) := fun b o e => by
      rw [hid_get] at e ⊢
      obtain ⟨h1, h2, h3⟩ := below b o e.1
      have hbN : b ∉ N := fun hm => by
        rcases (memN b).mp hm with hm | hm | hm
        · exact e.2 (List.mem_append_left _ hm)
        · exact h2 hm
        · exact h3 hm
      refine ⟨hk b o hbN h1 (old b o e.1), fun hm => ?_⟩
      rw [← eN] at hm
      rcases List.mem_append.mp hm with hm | hm
      · exact hbN hm
      · rcases List.mem_cons.mp hm with hm | hm
        · exact h1 hm
        · exact e.2 (List.mem_append_right _ hm)
    have exs : ∀ a ∈ [D + 1, D] ++ (D + 2) :: M, ∃ o, h.get? a = some o := fun a ha => by
      rcases List.mem_append.mp ha with ha | ha
      · rcases memC ha with rfl | ha
        · obtain ⟨o, _, _, e, _⟩ := hnsi; exact ⟨o, e⟩
        · rw [List.mem_singleton.mp ha]; obtain ⟨n', e⟩ := hpl; exact ⟨_, e⟩
      · rcases memC ha with rfl | ha
        · obtain ⟨o, e, _⟩ := hci; exact ⟨o, e⟩
        · obtain ⟨o, e⟩ := V.ex a ha; exact ⟨o, kSh a o e⟩
    by_cases hi : i < xs.length
    · obtain ⟨p, hxp⟩ : ∃ p, xs[i]? = some p := ⟨xs[i], List.getElem?_eq_getElem hi⟩
      refine W.item i p { s with heap := h, toks := tk } ([D + 1, D] ++ (D + 2) :: M) _ _ hxp hinv exs kF fun v h₂ t₂ rv hmid k2 => ?_
      refine W.go i v { s with heap := h₂, toks := t₂ } _ _ hmid fun h₃ hinv3 k3 => ?_
      have k23' : ∀ b o, b ∉ wr → h.get? b = some o → h₃.get? b = some o := fun b o hb e => k3 b o hb (k2 b o hb e)
      have rv3 : RepV prog w (hid h₃ (N ++ (D + 2) :: M)) p v := by rw [eN]; exact RepV.mono (Kp.outside k3) _ _ rv
      have hvs3 : RepVs prog w (hid h₃ (N ++ (D + 2) :: M)) ((xs.take i).map f) vs := by
        refine RepVs.mono ?_ _ _ hvs
        rw [eN]; exact Kp.outside k23'
      have hc3 : h₃.IsCell (D + 2) v0 := by obtain ⟨o, e, r⟩ := hci; exact ⟨o, k23' _ _ hKw e, r⟩
      refine wpAny_assign_Name (wpAny_storeName_cell (env := compEnvC scope ((x, D + 2) :: cl) (D + 1) env) (c := D + 2) hkind kx (by show ((x, D + 2) :: cl).lookup x = some (D + 2); simp) hc3 fun h₄ hc4 hs4 => ?_)
      have k4 : ∀ b o, b ≠ D + 2 → h₃.get? b = some o → h₄.get? b = some o := fun b o hb e => (hs4.2 b hb).trans e
      have inv4 : inv (i + 1) h₄ := W.frame _ _ _ hinv3 fun b hb o e => k4 b o (fpC b hb).1 e
      have kN4 : Kp (hid h₃ (N ++ (D + 2) :: M)) (hid h₄ (N ++ (D + 2) :: M)) := fun b o e => by
        rw [hid_get] at e ⊢
        exact ⟨k4 b o (fun e' => e.2 (e' ▸ List.mem_append_right _ List.mem_cons_self)) e.1, e.2⟩
      have hk4 : ∀ b o, b ∉ N → b ≠ D + 2 → h₁.get? b = some o → h₄.get? b = some o := fun b o hb hb2 e =>
        k4 b o hb2 (k23' b o (fun hw => hb ((memN b).mpr (.inl hw))) (hk b o hb hb2 e))
      have kS4 : Kp s.heap h₄ := fun b o e => hk4 b o (fun hm => by rw [frN b hm] at e; cases e) (fun e' => by rw [e', frK] at e; cases e) (kS b o e)
      have hns4 : h₄.Ns (D + 1) (fun _ => none) := hnsi.at' fun o e => k4 _ o n3 (k23' _ o hCw e)
      have hpl4 : h₄.PlainList D (List.toArray vs) := hpl.at fun o e => k4 D o n2 (k23' D o hDw e)
      have exN4 : ∀ a ∈ N, ∃ o, h₄.get? a = some o := fun a ha => by
        rcases memN' a ha with ha | rfl | rfl
        · exact W.live _ _ inv4 a (W.sub a ha)
        · obtain ⟨o, _, _, e, _⟩ := hns4; exact ⟨o, e⟩
        · obtain ⟨n', e⟩ := hpl4; exact ⟨_, e⟩
      have S4 := CS.startK (x := x) (p := p) (v := v) V kS4 frN frK exN4 hKN hkind ((memN (D + 1)).mpr (.inr (.inl rfl))) hns4 caps htc hx kx hc4 (RepV.mono kN4 _ _ rv3)
      refine wpAny_tests_nil ?_
      rw [if_pos rfl]
      refine (step (D + 1) (D + 2) p (List.mem_of_getElem? hxp)).run { s with heap := h₄, toks := t₂ } (N ++ (D + 2) :: M) _ _ _ S4.vars fun y h₆ t₆ k6 ry => ?_
      have hpl6 : h₆.PlainList D (List.toArray vs) := hpl4.at fun o e => k6 D o e
      have hlen : vs.length ≤ xs.length := by
        rw [hvs.length, List.length_map, List.length_take]; exact Nat.min_le_right _ _
      refine wpAny_list_append_plain hpl6 (fun h₇ hpl7 hs7 => ?_) (by rw [List.size_toArray]; omega)
      have kD : ∀ b o, b ≠ D → h₆.get? b = some o → h₇.get? b = some o := kb_of_sameBut hs7
      have kN7 : Kp (hid h₆ (N ++ (D + 2) :: M)) (hid h₇ (N ++ (D + 2) :: M)) := Kp.outside' fun b o hb e => kD b o (fun e' => hb (List.mem_append_left _ ((memN b).mpr (.inr (.inr e'))))) e
      refine hJ (n - 1) _ (by omega) ⟨i + 1, h₇, t₆, vs ++ [y], some v, rfl, by omega, hi, ?_, ?_, by simpa using hpl7, ?_, ?_, fun b o hb hb2 e => kD b o (fun e' => hb ((memN b).mpr (.inr (.inr e')))) (k6 b o (hk4 b o hb hb2 e))⟩
      · exact hns4.at' fun o e => kD _ o n1.symm (k6 _ o e)
      · exact W.frame _ _ _ inv4 fun b hb o e => kD b o (fpC b hb).2.2 (k6 b o e)
      · obtain ⟨o, e, r⟩ := hc4; exact ⟨o, kD _ _ n2.symm (k6 _ _ e), r⟩
      · rw [List.take_add_one, hxp, List.map_append]
        exact (RepVs.mono ((kN4.trans (k6.hid _)).trans kN7) _ _ hvs3).append (RepVs.one (RepV.mono kN7 _ _ ry))
    · have hi' : i = xs.length := by omega
      subst hi'
      refine W.done { s with heap := h, toks := tk } _ _ hinv fun h₈ t₈ k8 => ?_
      rw [List.take_length] at hvs
      refine hK _ (hRR D (D + 1) h₈ t₈ (fun _ => none) frD frC n1.symm (fun b o e => ?_) (hnsi.at' fun o e => k8 _ o hCw e) ⟨rfl, vs, hpl.at fun o e => k8 D o hDw e, RepVs.mono (fun b o e => ?_) _ _ hvs⟩)
      · exact k8 b o (fun hw => by rw [fr b hw] at e; cases e) (kSh b o e)
      · rw [hid_get] at e ⊢
        refine ⟨k8 b o (fun hw => e.2 (List.mem_append_left _ ((memN b).mpr (.inl hw)))) e.1, fun hm => e.2 ?_⟩
        rcases List.mem_cons.mp hm with hm | hm
        · exact List.mem_append_left _ ((memN b).mpr (.inr (.inr hm)))
        · rcases List.mem_cons.mp hm with hm | hm
          · exact List.mem_append_left _ ((memN b).mpr (.inr (.inl hm)))
          · exact List.mem_append_right _ (List.mem_cons_of_mem _ hm)
  exact codeAny_compStart_list (loop _ ⟨_, rfl⟩) (W.self 0 _ _ _ inv1 (loop _ ⟨_, rfl⟩))
end
end LW
namespace LW
section
variable {prog : Program} {w : World} {A : Around} {G H0 : Heap} {env : Env} {σ σ₂ σ₃ σc : Sy} {h h' : Heap} {M : List Addr} {m : Str → Option Value} {s : Shared}

theorem EvN.compK {elt iter : PySem.Expr} {x : Str} {px : Pos} {scope : Scope} {cl : List (Str × Addr)} {pos : Pos} {xs : List PV} {f : PV → PV} (clos : closureFor scope env = pure cl)
    (hck : ∀ n acc, cellsFrom n scope.names acc = (x, n) :: acc) (hpush : ∀ h, pushCells h scope.names = h.push { cls := .type "cell", data := .cell none }) (hkind : scope.kind = .function) (names : ∀ y ∈ scope.names, y.2 = .local → scope.names.lookup y.1 = some .local)
    (caps : Caps env scope cl σ.v σc.v) (htc : σc.t = σ.t) (fold : ∀ x, foldedSetIterable iter env x = pure x) (hx : σc.v.lookup x = none)
    (kx : (relabel scope env).names.lookup x = some .cell) (hi : It prog w H0 A env σ False iter (.Name x px) xs) (step : ∀ C c p, p ∈ xs → Ev prog w H0 A (compEnvC scope ((x, c) :: cl) C env) ⟨(x, .im p) :: σc.v, σc.t⟩ elt (f p))
    (hsz : xs.length ≤ sizeLine) : EvN prog w H0 A env σ (.ListComp elt [⟨.Name x px, iter, [], 0⟩] scope pos) (.lst (xs.map f)) := .mk fun s M m Q E V q => by
  rw [eval_ListComp]
  refine wpAny_comprehension_free (use := none) rfl fold clos hkind names (hi.run s M m _ _ V fun I fp wr inv mid h' tk k W i0 fr _ => ?_)
  refine comp_cell (RR := fun acc Cc => compPost (model prog w) A E none Q acc Cc) V k W i0 fr hck hpush hkind caps htc hx kx step hsz fun D Cc h1 tk1 m' frD frC hne k1 hn ho => ?_
  refine ⟨m', hn, fun h'' hs'' => q D _ h'' tk1 (fun b o e => (hs''.2 b (fun e' => by rw [e', frC] at e; cases e)).trans (k1 b o e)) frD ?_⟩
  refine ho.move (fun o e => (hs''.2 D hne.symm).trans e) fun b o e => ?_
  rw [hid_get] at e ⊢
  refine ⟨(hs''.2 b fun e' => e.2 (by rw [e']; simp)).trans e.1, fun hm => e.2 ?_⟩
  rcases memC hm with rfl | hm
  · exact List.mem_cons_self
  · exact List.mem_cons_of_mem _ (List.mem_cons_of_mem _ hm)

noncomputable def placed1 (rs : List Road) (k : Nat) : Pl := ((rs.getD k default).1, (rs.getD k default).2.2, ((rs.take (k + 1)).filter fun r => r.1 == (rs.getD k default).1).length)
noncomputable def placedOf (rs : List Road) : List Pl := (List.range rs.length).map (placed1 rs)
noncomputable def pvNames (rs : List Road) : List PV := rs.map fun r => .str (nm r.1 false)

theorem hinjk : ∀ a b : Nat, PV.int ((0 : Int) + (a : Int)) = PV.int ((0 : Int) + (b : Int)) → a = b := fun a b e => by have := PV.int.inj e; omega
theorem body_placed {L : Addr} {qual : Str} {fa : Addr} {code : Value} {rs : List Road} (hA : A.handled = none) (hsz : rs.length ≤ 1000) (hr : BVal G "range" (.type "range")) (hlen : BVal G "len" (.builtin "len")) :
    Ex prog w A G (fenv (dS 78) L qual fa code) ⟨[("roads", .im (pvRoads rs))], []⟩ (dB 78) (.rt (.lst ((placedOf rs).map pvPl)) []) := by
  have hszl : rs.length ≤ sizeLine := Nat.le_trans hsz (by decide)
  refine Ex.step rfl (Ex1.assign (p := .lst (pvNames rs)) (EvN.ev (EvN.of (p := .lst ((rs.filter fun _ => true).map fun r => .str (nm r.1 false))) ?_ ?_))) ?_
  · refine EvN.compM (l := rs) (inj := pvRoad) (g := fun _ => true) (f := fun r => .str (nm r.1 false)) (σc := ⟨[], []⟩) inj_road ⟨rfl, by decide +kernel, rfl, by decide +kernel, trivial, rfl, fun _ => rfl⟩ (It.list hA (Ev.name rfl)) ?_ hszl
    intro C r hr'
    refine ⟨⟨("goal", .im (.str (nm r.2.2 false))) :: ("name", .im (.str (nm r.1 r.2.1))) :: _, []⟩, rfl, cons_fresh2 rfl rfl, CTgt.two hA, rfl, fun _ => ?_⟩
    exact Ev.of (Ev.m0 (Me0.lower (by rw [nm_lower]; rfl)) (Ev.rd (Ev.name rfl))) (by rw [nm_lower])
  · rw [List.filter_eq_self.mpr (by simp)]; rfl
  · refine Ex.last rfl (Ex1.ret (EvN.ev (EvN.of (p := .lst (((List.range rs.length).map fun (k : Nat) => PV.int ((0 : Int) + (k : Int))).map (back (fun (k : Nat) => PV.int ((0 : Int) + (k : Int))) (fun k => pvPl (placed1 rs k)) .none))) ?_ ?_)))
    · refine EvN.compK (σc := ⟨[("names", .im (.lst (pvNames rs))), ("roads", .im (pvRoads rs))], []⟩)
        rfl (fun _ _ => rfl) (fun _ => rfl) rfl (by decide +kernel) ⟨⟨rfl, .inl rfl, rfl, rfl⟩, ⟨rfl, .inl rfl, rfl, rfl⟩, trivial⟩ rfl (fun _ => rfl) rfl rfl (It.range1 (n := rs.length) hA (Nat.lt_of_le_of_lt hsz (by decide)) (Ev.bi hr rfl) ?_) ?_ (by rw [List.length_map, List.length_range]; exact hszl)
      · exact Ev.of (Ev.callB (C1.lenL (by rw [List.length_map]; exact Nat.lt_of_le_of_lt hsz (by decide))) (Ev.bi hlen rfl) (Ev.rd (Ev.name rfl))) (by rw [List.length_map])
      · intro C c p hp
        obtain ⟨k, hk, rfl⟩ := List.mem_map.mp hp
        rw [List.mem_range] at hk
        rw [back_eq hinjk, Int.zero_add]
        obtain ⟨r, hr2⟩ : ∃ r, rs[k]? = some r := ⟨_, List.getElem?_eq_getElem hk⟩
        have hgd : rs.getD k default = r := by rw [List.getD_eq_getElem?_getD, hr2]; rfl
        have hk63 : ((k : Nat) : Int) < 2 ^ 63 := by have : (k : Int) < 1001 := by omega
                                                     exact Int.lt_trans this (by decide)
        unfold placed1
        rw [hgd]
        refine Ev.tuple (EvL.cons (Ev.sub (ItOk.lst (ps := pvNames rs) (by omega) ?_ hk63) (Ev.rd (Ev.name rfl)) (Ev.rd (Ev.name rfl))) (EvL.cons (Ev.sub (ItOk.tup (ps := [.str (nm r.1 r.2.1), .str (nm r.2.2 false)]) (by decide) rfl (by decide)) (Ev.rd (Ev.sub (ItOk.lst (ps := rs.map pvRoad) (z := pvRoad r) (by omega) ?_ hk63) (Ev.rd (Ev.name rfl)) (Ev.rd (Ev.name rfl)))) (Ev.rd Ev.int))
          (EvL.cons (Ev.of (p := .int ((((rs.take (k + 1)).filter fun r' => r'.1 == r.1).map fun r' => PV.str (nm r'.1 false)).length : Nat)) (Ev.callB (C1.lenL ?_) (Ev.bi hlen rfl) (Ev.rd (EvN.ev ?_))) ?_) EvL.nil)))
        · rw [Int.toNat_natCast]; unfold pvNames; rw [List.getElem?_map, hr2]; rfl
        · rw [Int.toNat_natCast, List.getElem?_map, hr2]; rfl
        · rw [List.length_map]
          have : ((rs.take (k + 1)).filter fun r' => r'.1 == r.1).length ≤ rs.length := Nat.le_trans (List.length_filter_le _ _) (by rw [List.length_take]; exact Nat.min_le_right _ _)
          exact Nat.lt_of_le_of_lt (Nat.le_trans this hsz) (by decide)
        · have hl1 : ((rs.take (k + 1)).map (·.1)).length ≤ 1000 := by rw [List.length_map, List.length_take]; exact Nat.le_trans (Nat.min_le_right _ _) hsz
          refine EvN.of (p := .lst ((((rs.take (k + 1)).map (·.1)).filter fun t => t == r.1).map fun t => .str (nm t false))) ?_ ?_
          · refine EvN.compM (inj := fun t => .str (nm t false)) (σc := ⟨[("names", .im (.lst (pvNames rs))), ("k", .im (.int (k : Nat)))], []⟩) (fun a b e => (nm_inj _ _ _ _ (PV.str.inj e)).1) ⟨rfl, by decide +kernel, rfl, by decide +kernel, ⟨⟨rfl, .inl rfl, rfl, rfl⟩, ⟨rfl, .inl rfl, rfl, rfl⟩, trivial⟩, rfl, fun _ => rfl⟩ (It.list hA (EvN.ev (EvN.of (EvN.slice (ps := pvNames rs) (lo := none) (hi := some (k + 1)) (Ev.rd (Ev.name rfl)) ?_ ?_ ?_) ?_))) ?_ (Nat.le_trans hl1 (by decide))
            · exact trivial
            · exact Ev.addN (Ev.name rfl) (Ev.nat 1)
            · unfold pvNames; rw [List.length_map]; exact hszl
            · unfold cut pvNames; rw [List.map_map]; simp [List.map_take]; rfl
            · intro C' t ht
              refine ⟨⟨("name", .im (.str (nm t false))) :: _, []⟩, rfl, cons_fresh rfl, CTgt.name, ?_, fun _ => Ev.name rfl⟩
              refine Tst.of (Tst.cmp CmpOk.eqS (Ev.rd (Ev.name rfl)) (Ev.rd (Ev.sub (ItOk.lst (ps := pvNames rs) (z := .str (nm r.1 false)) (by omega) ?_ hk63) (Ev.rd (Ev.name rfl)) (Ev.rd (Ev.name rfl))))) (nm_eqb t r.1)
              rw [Int.toNat_natCast]; unfold pvNames; rw [List.getElem?_map, hr2]; rfl
          · rw [List.filter_map, List.map_map]; rfl
        · rw [List.length_map]
    · show PV.lst _ = .lst ((placedOf rs).map pvPl)
      congr 1
      unfold placedOf
      rw [List.map_map, List.map_map]
      refine List.map_congr_left fun k _ => ?_
      exact back_eq hinjk _ _ k
end
end LW
namespace LW
section
variable {prog : Program} {w : World} {A : Around} {G H0 : Heap} {env : Env} {σ σ₂ σ₃ σc : Sy} {h h' : Heap} {M : List Addr} {m : Str → Option Value} {s : Shared}

theorem Vars.hideMore {a : Addr} (V : Vars prog w H0 h M env σ m) (k : Kp h h') (f : h.get? a = none) (e : ∃ o, h'.get? a = some o) : Vars prog w H0 h' (a :: M) env σ m where
  fn := V.fn
  gl := V.gl
  bl := V.bl
  base := V.base.trans (k.hidFresh f M)
  ns := V.ns.keeps k
  sm := let ⟨o, e⟩ := V.sm; ⟨o, k _ _ e⟩
  ex := fun b hb => by
    rcases memC hb with rfl | hb
    · exact e
    · obtain ⟨o, e⟩ := V.ex b hb; exact ⟨o, k b o e⟩
  va := fun x lv e => by
    obtain ⟨v, s, r⟩ := V.va x lv e
    refine ⟨v, s.keeps k, ?_⟩
    cases lv with
    | im p => exact RepV.mono (k.hidFresh f M) _ _ r
    | ow p => obtain ⟨b, hb, r⟩ := r; exact ⟨b, List.mem_cons_of_mem _ hb, r.move (fun o => k b o) (k.hidFresh f M)⟩
  th := fun y hy => ⟨List.mem_cons_of_mem _ (V.th y hy).1, (V.th y hy).2.move (fun o => k y.1 o) (k.hidFresh f M)⟩

theorem RepVs.of_get {F : Heap} : ∀ {ps : List PV} {vs : List Value}, vs.length = ps.length → (∀ (i : Nat) (p : PV) (v : Value), ps[i]? = some p → vs[i]? = some v → RepV prog w F p v) → RepVs prog w F ps vs
  | [], vs, h, _ => List.eq_nil_of_length_eq_zero h
  | p :: ps, [], h, _ => by cases h
  | p :: ps, v :: vs, h, k => ⟨v, vs, rfl, k 0 p v rfl rfl, RepVs.of_get (by simpa using h) fun i q u h1 h2 => k (i + 1) q u (by simpa using h1) (by simpa using h2)⟩
inductive EvPs (prog : Program) (w : World) (H0 : Heap) (A : Around) (env : Env) (σ : Sy) : List (Option PySem.Expr) → List PySem.Expr → List (Str × PV) → Prop where
  | nil : EvPs prog w H0 A env σ [] [] []
  | cons {k v : PySem.Expr} {ks : List (Option PySem.Expr)} {vs : List PySem.Expr} {x : Str} {p : PV} {ps : List (Str × PV)} (hk : Ev prog w H0 A env σ k (.str x)) (hv : Ev prog w H0 A env σ v p) (ht : EvPs prog w H0 A env σ ks vs ps) :
      EvPs prog w H0 A env σ (some k :: ks) (v :: vs) ((x, p) :: ps)
theorem EvPs.run {pos : Pos} {E : Value → Shared → Prop} {keys : List (Option PySem.Expr)} {values : List PySem.Expr} {ps : List (Str × PV)} (X : EvPs prog w H0 A env σ keys values ps) : ∀ (s : Shared) (Q : List (Value × Value) → Shared → Prop), Vars prog w H0 s.heap M env σ m →
    (∀ vs kvs h' tk, Kp s.heap h' → Carries (PySem.strKind prog w) vs kvs → RepKs prog w (hid h' M) ps kvs → Q vs { s with heap := h', toks := tk }) → wpAny (model prog w) A (evalPairs (pairTrees keys values env pos)) Q E s := by
  induction X with
  | nil => exact fun s Q V q => pairTrees_nil_walk (q [] [] s.heap s.toks Kp.rfl trivial rfl)
  | @cons k v ks vs x p ps h1 h2 h3 ih =>
    intro s Q V q
    refine pairTrees_cons_walk (h1.run s M m _ _ V fun kv h₁ t₁ k₁ r₁ => h2.run { s with heap := h₁, toks := t₁ } M m _ _ (V.keeps k₁) fun vv h₂ t₂ k₂ r₂ => ?_)
    refine ih { s with heap := h₂, toks := t₂ } _ ((V.keeps k₁).keeps k₂) fun r kvs h₃ t₃ k₃ c₃ r₃ => ?_
    obtain ⟨t, rfl⟩ := r₁
    exact q _ ((x, vv) :: kvs) h₃ t₃ ((k₁.trans k₂).trans k₃) ⟨strKind_is prog w x t, rfl, c₃⟩ ⟨vv, kvs, rfl, RepV.mono (k₃.hid M) _ _ r₂, r₃⟩
theorem RepKs.merged {F : Heap} : ∀ {ps : List (Str × PV)} {kvs : List (Str × Value)}, RepKs prog w F ps kvs → ∀ {d : List (Str × PV)} {kd : List (Str × Value)}, RepKs prog w F d kd → RepKs prog w F (ps.foldl (fun d y => dput d y.1 y.2) d) (PySem.merged kd kvs)
  | [], _, h, d, kd, r => by obtain rfl : _ = [] := h; exact r
  | (x, p) :: ps, _, ⟨v, t, e, hv, ht⟩, d, kd, r => by subst e; exact RepKs.merged ht (RepKs.stored r hv)
theorem EvN.dict {keys : List (Option PySem.Expr)} {values : List PySem.Expr} {pos : Pos} {ps : List (Str × PV)} (he : EvPs prog w H0 A env σ keys values ps) (hall : keys.all (·.isSome) = true := by rfl) (hl : keys.length = values.length := by rfl) (h0 : keys ≠ [] := by simp)
    (hlen : keys.length ≤ 15 := by decide) : EvN prog w H0 A env σ (.Dict keys values pos) (.dct (ps.foldl (fun d y => dput d y.1 y.2) [])) := .mk fun s M m Q E V q => by
  have kp := Kp.push s.heap { cls := .type "dict", data := .dict #[] }
  have fr := size_none s.heap
  refine wpAny_Dict_walk (knd := PySem.strKind prog w) hall hl h0 hlen ?_
  have V1 := V.hideMore kp fr ⟨_, Heap.get?_push_size _ rfl⟩
  refine he.run { s with heap := s.heap.push { cls := .type "dict", data := .dict #[] } } _ V1 fun vs kvs h₁ t₁ k₁ c₁ r₁ => ?_
  have hnew : h₁.DictOf (PySem.strKind prog w) s.heap.objs.size [] := (Heap.DictOf.new s.heap).at fun o e => k₁ _ _ e
  refine ⟨kvs, c₁, hnew, fun h₂ hd hs => ?_⟩
  have kk : ∀ b o, b ≠ s.heap.objs.size → h₁.get? b = some o → h₂.get? b = some o := kb_of_sameBut hs
  refine q s.heap.objs.size _ h₂ _ (fun b o e => kk b o (Nat.ne_of_lt (Heap.lt_size e)) (k₁ b o (kp b o e))) fr ⟨rfl, not_sys V.sm fr, _, hd, ?_⟩
  refine RepKs.merged (RepKs.mono (fun b o e => ?_) _ _ r₁) rfl
  rw [hid_get] at e ⊢
  exact ⟨kk b o (fun e' => e.2 (e' ▸ List.mem_cons_self)) e.1, e.2⟩

theorem EvN.listRange {np rp p2 pos : Pos} {e1 e2 : PySem.Expr} {a b : Int} {n : Nat} (hh : A.handled = none) (hl : Ev prog w H0 A env σ (.Name "list" np) (.raw (.type "list"))) (hr : Ev prog w H0 A env σ (.Name "range" rp) (.raw (.type "range")))
    (h1 : Ev prog w H0 A env σ e1 (.int a)) (h2 : Ev prog w H0 A env σ e2 (.int b)) (hsmall : Builtin.Range.small a b 1 = true) (hn : Builtin.Range.rangeSize a b 1 = n) (hlen : n ≤ 2 ^ 24)
    (hs1 : starEach [e1, e2] env = (false, eval e1 env) :: starEach [e2] env := by rfl) (hs2 : starEach [e2] env = (false, eval e2 env) :: starEach [] env := by rfl)
    (hs : starEach [.Call (.Name "range" rp) [e1, e2] [] p2] env = [(false, eval (.Call (.Name "range" rp) [e1, e2] [] p2) env)] := by rfl) (hplain : (backTo p2 (starEach [e2] env)).any (·.1) = false := by rfl) :
    EvN prog w H0 A env σ (.Call (.Name "list" np) [.Call (.Name "range" rp) [e1, e2] [] p2] [] pos) (.lst ((List.range n).map fun (i : Nat) => .int (a + (i : Int)))) := .mk fun s M m Q E V q =>
  Call_name1 hs (hl.run s M m _ _ V fun f h₁ t₁ k₁ r₁ => by
    obtain rfl : f = _ := r₁
    refine PySem.callWith_type1 ?_
    rw [arm_eval_Call_Name']
    refine wpAny_bind (hr.run { s with heap := h₁, toks := t₁ } M m _ _ (V.keeps k₁) fun f h₂ t₂ k₂ r₂ => ?_)
    obtain rfl : f = _ := r₂
    have key := (EvL.cons (pos := p2) h1 (EvL.cons h2 EvL.nil hs2) hs1).run { s with heap := h₂, toks := t₂ } M m
    refine Pv.callWith_type1 (key _ _ ((V.keeps k₁).keeps k₂) fun vs h₃ t₃ k₃ rv => ?_) hs1 hplain
    refine LW.hideGoal fun GG hGG => ?_
    obtain ⟨_, _, rfl, ⟨ta, rfl⟩, _, _, rfl, ⟨tb, rfl⟩, rfl⟩ := rv
    refine hGG ?_
    clear hGG GG
    refine call_range_2 ?_
    have kp := Kp.push h₃ { cls := .type "range", data := .fields #[.int a ta, .int b tb, .int 1 t₃] }
    have hrg := IsRange.new h₃ a b 1 ta tb t₃
    refine call_list_range (s := { s with heap := h₃.push { cls := .type "range", data := .fields #[.int a ta, .int b tb, .int 1 t₃] }, toks := t₃ + 1 }) hh hrg hsmall hn hlen fun h₄ t₄ acc c k₄ hS hacc => ?_
    have kk : Kp s.heap h₄ := (((k₁.trans k₂).trans k₃).trans kp).trans k₄
    have fr := none_of_kp (((k₁.trans k₂).trans k₃).trans kp) (size_none (h₃.push { cls := .type "range", data := .fields #[.int a ta, .int b tb, .int 1 t₃] }))
    refine q _ _ h₄ t₄ kk fr ⟨rfl, acc.toList, ⟨c, hS⟩, ?_⟩
    refine RepVs.of_get (by rw [Array.length_toList, hacc.1, List.length_map, List.length_range]) fun i p v hp hv => ?_
    have hi : i < n := by have := (List.getElem?_eq_some_iff.mp hp).1; rwa [List.length_map, List.length_range] at this
    rw [List.getElem?_map, List.getElem?_range hi] at hp
    cases hp
    obtain ⟨t, rfl⟩ := hacc.2 i v (by rw [← Array.getElem?_toList]; exact hv)
    exact ⟨t, by rw [Int.mul_one]⟩)
end
end LW
namespace LW

noncomputable def foldT (style : Nat) : List (Str × Nat) := [("fi", 64257), ("fl", 64258), ("km", 13262), ("st", 64261 + style % 2)]
noncomputable def capsL : List Nat := [65, 119808, 119860, 119912, 120016, 120172, 120224, 120276, 120328, 120380, 120432]
noncomputable def unsL : List Nat := [173, 847, 6150, 6155, 6156, 6157, 8203, 8204, 8205, 8288, 65279] ++ (List.range 16).map (65024 + ·)
noncomputable def seg (l : List Nat) (a : Nat) : Str := S ((l.take (a + 2)).drop a)
noncomputable def isLet (c : Nat) : Bool := decide (97 ≤ c) && decide (c ≤ 122)
noncomputable def chrs : List Nat := [102, 105, 107, 108, 109, 115, 116, 45, 62, 58, 61, 124, 59]
theorem alpha_chrs : ∀ c ∈ chrs, Txt.isalpha (S [c]) = isLet c := by decide +kernel
noncomputable def cTwo (l : List Nat) (style a : Nat) : Bool := decide (0 < (style + a) % 12 % 3) && ((foldT style).lookup (seg l a)).isSome
noncomputable def cNext (l : List Nat) (style a : Nat) : Nat := if cTwo l style a then a + 2 else a + 1
noncomputable def cOne (l : List Nat) (style a : Nat) : Nat := if cTwo l style a then ((foldT style).lookup (seg l a)).getD 0 else
  if isLet (l.getD a 0) && decide (0 < (style + a) % 12) then capsL.getD ((style + a) % 12 - 1) 0 + l.getD a 0 - 97 else l.getD a 0
noncomputable def cAdd (l : List Nat) (style a : Nat) : List Nat := cOne l style a :: (if (style + cNext l style a) % 5 = 0 then [unsL.getD ((style / 5 + cNext l style a) % 27) 0] else [])
theorem cNext_lt (l : List Nat) (style a : Nat) : a < cNext l style a := by unfold cNext; split <;> omega
noncomputable def codesF (l : List Nat) (style : Nat) : Nat → Nat → List Nat → Nat × List Nat
  | 0, a, acc => (a, acc)
  | f + 1, a, acc => if a < l.length then codesF l style f (cNext l style a) (acc ++ cAdd l style a) else (a, acc)
theorem codesF_eq (l : List Nat) (style : Nat) (f : Nat) : ∀ f' a acc, l.length - a ≤ f → l.length - a ≤ f' → codesF l style f a acc = codesF l style f' a acc := by
  induction f with
  | zero =>
    intro f' a acc h h'
    have hn : ¬ a < l.length := fun hlt => by omega
    cases f' with
    | zero => rfl
    | succ f' => show (a, acc) = if a < l.length then codesF l style f' _ _ else (a, acc); rw [if_neg hn]
  | succ f ih =>
    intro f' a acc h h'
    show (if a < l.length then codesF l style f _ _ else (a, acc)) = _
    by_cases hn : a < l.length
    · have := cNext_lt l style a
      rw [if_pos hn]
      cases f' with
      | zero => exact absurd h' (by omega)
      | succ f' => show _ = if a < l.length then codesF l style f' _ _ else (a, acc); rw [if_pos hn]; exact ih f' _ _ (by omega) (by omega)
    · rw [if_neg hn]
      cases f' with
      | zero => rfl
      | succ f' => show (a, acc) = if a < l.length then codesF l style f' _ _ else (a, acc); rw [if_neg hn]
noncomputable def codesRun (l : List Nat) (style : Nat) (a : Nat) (acc : List Nat) : Nat × List Nat := codesF l style (l.length - a) a acc
theorem codesRun_eq (l : List Nat) (style : Nat) (a : Nat) (acc : List Nat) : codesRun l style a acc = if h : a < l.length then codesRun l style (cNext l style a) (acc ++ cAdd l style a) else (a, acc) := by
  have hc := cNext_lt l style a
  by_cases hn : a < l.length
  · rw [dif_pos hn]
    show codesF l style _ a acc = codesF l style _ _ _
    rw [codesF_eq l style (l.length - a) (l.length - a + 1) a acc (Nat.le_refl _) (Nat.le_succ _)]
    show (if a < l.length then codesF l style (l.length - a) _ _ else (a, acc)) = _
    rw [if_pos hn]
    exact codesF_eq l style _ _ _ _ (Nat.sub_le_sub_left (Nat.le_of_lt hc) _) (Nat.le_refl _)
  · rw [dif_neg hn]
    show codesF l style (l.length - a) a acc = _
    rw [Nat.sub_eq_zero_of_le (Nat.le_of_not_lt hn)]; rfl
noncomputable def codesOf (l : List Nat) (style : Nat) : List Nat := (codesRun l style 0 []).2

section
variable {prog : Program} {w : World} {A : Around} {G H0 : Heap} {env : Env} {σ σ₂ σ₃ σc : Sy} {h h' : Heap} {M : List Addr} {m : Str → Option Value} {s : Shared}

theorem ItOk.nats {l : List Nat} {i : Int} {k : Nat} (hk : i = k) (h : k < l.length) (hl : k < 1000000) : ItOk prog w A (.lst (pvN l)) (.int i) (.int (l.getD k 0 : Nat)) := by
  subst hk
  refine ItOk.lst (by omega) ?_ ?_
  · rw [Int.toNat_natCast]; unfold pvN
    rw [List.getElem?_map, List.getElem?_eq_getElem h, List.getD_eq_getElem?_getD, List.getElem?_eq_getElem h]; rfl
  · have : ((k : Nat) : Int) < 1000000 := by omega
    exact Int.lt_trans this (by decide)
noncomputable def cdS (l : List Nat) (style : Nat) (x : Nat × List Nat) : Sy := ⟨[("at", .im (.int (x.1 : Nat))), ("codes", .ow (.lst (pvN x.2))), ("unseen", .im (.lst (pvN unsL))), ("capitals", .im (.lst (pvN capsL))), ("folding", .im (.dct (tokP (foldT style)))), ("text", .im (.str (S l))), ("style", .im (.int (style : Nat)))], []⟩

noncomputable def cdS2 (l : List Nat) (style : Nat) (a : Nat) (acc : List Nat) : Sy := ⟨[("codes", .ow (.lst (pvN acc))), ("at", .im (.int (a : Nat))), ("unseen", .im (.lst (pvN unsL))), ("capitals", .im (.lst (pvN capsL))), ("folding", .im (.dct (tokP (foldT style)))), ("text", .im (.str (S l))), ("style", .im (.int (style : Nat)))], []⟩
theorem body_codes {L : Addr} {qual : Str} {fa : Addr} {code : Value} {l : List Nat} {style : Nat} (hA : A.handled = none) (hl : l.length ≤ 1000) (hch : ∀ c ∈ l, c ∈ chrs) (hlist : BVal G "list" (.type "list")) (hr : BVal G "range" (.type "range")) (hlen : BVal G "len" (.builtin "len")) (hord : BVal G "ord" (.builtin "ord")) :
    Ex prog w A G (fenv (dS 70) L qual fa code) ⟨[("text", .im (.str (S l))), ("style", .im (.int (style : Nat)))], []⟩ (dB 70) (.rt (.lst (pvN (codesOf l style))) []) := by
  have hszl : (S l).length ≤ sizeLine := by rw [S_length]; exact Nat.le_trans hl (by decide)
  refine Ex.step rfl (Ex1.assign (p := .dct (tokP (foldT style))) (EvN.ev (EvN.of (EvN.dict (.cons Ev.str (Ev.nat 64257) (.cons Ev.str (Ev.nat 64258) (.cons Ev.str (Ev.nat 13262) (.cons Ev.str (Ev.addN (Ev.nat 64261) (Ev.modN (Ev.name rfl) (Ev.nat 2) (by decide))) .nil))))) ?_))) ?_
  · rfl
  refine Ex.step rfl (Ex1.assign (p := .lst (pvN capsL)) (EvN.ev (EvN.list ?_))) ?_
  · repeat (first | exact EvL.nil | refine EvL.cons Ev.int ?_)
  refine Ex.step rfl (Ex1.assign (p := .lst (pvN unsL)) (EvN.ev (EvN.of (EvN.addL (ps := pvN [173, 847, 6150, 6155, 6156, 6157, 8203, 8204, 8205, 8288, 65279]) (qs := (List.range 16).map fun (i : Nat) => PV.int (65024 + (i : Int))) (Ev.rd (EvN.ev (EvN.list ?_))) (Ev.rd (EvN.ev (EvN.listRange hA (Ev.bi hlist rfl) (Ev.bi hr rfl) Ev.int Ev.int (by decide +kernel) (by decide +kernel) (by decide)))) (by decide)) ?_))) ?_
  · repeat (first | exact EvL.nil | refine EvL.cons Ev.int ?_)
  · rfl
  refine Ex.step rfl (Ex1.assignN (EvN.list EvL.nil)) ?_
  refine Ex.step rfl (Ex1.assign (Ev.nat 0)) ?_
  refine Ex.step rfl (while_ind (cdS l style) (fun x => decide (x.1 < l.length)) (fun x => (cNext l style x.1, x.2 ++ cAdd l style x.1)) (fun x => codesRun l style x.1 x.2) (fun x => l.length - x.1) (fun x => x.2.length ≤ 2 * x.1 ∧ x.1 ≤ 1001) (0, []) (by decide) rfl rfl ?_ ?_ ?_ ?_) ?_
  · rintro ⟨a, acc⟩ ⟨h1, h2⟩ hc
    have hlt := of_decide_eq_true hc
    have hn := cNext_lt l style a
    have hn2 : cNext l style a ≤ a + 2 := by unfold cNext; split <;> omega
    have hal : (cAdd l style a).length ≤ 2 := by unfold cAdd; split <;> simp
    simp only at h1 h2 hlt ⊢
    refine ⟨⟨by rw [List.length_append]; omega, by omega⟩, by omega, ?_⟩
    rw [codesRun_eq, dif_pos hlt]
  · rintro ⟨a, acc⟩ _ hc
    have hlt := of_decide_eq_false hc
    simp only at hlt ⊢
    rw [codesRun_eq, dif_neg hlt]
  · rintro ⟨a, acc⟩ _
    refine Tst.of (Tst.cmp CmpOk.ltI (Ev.rd (Ev.name rfl)) (Ev.rd (Ev.callB (C1.lenS (x := S l) (by rw [S_length]; exact Nat.lt_of_le_of_lt hl (by decide))) (Ev.bi hlen rfl) (Ev.rd (Ev.name rfl))))) ?_
    rw [S_length, Bool.eq_iff_iff]; simp
  · rintro ⟨a, acc⟩ ⟨h1, h2⟩ hc
    have hlt : a < l.length := of_decide_eq_true hc
    obtain ⟨c, hca⟩ : ∃ c, l[a]? = some c := ⟨_, List.getElem?_eq_getElem hlt⟩
    have hcc : c ∈ chrs := hch c (List.mem_of_getElem? hca)
    have hgd : l.getD a 0 = c := by rw [List.getD_eq_getElem?_getD, hca]; rfl
    have ha63 : ((a : Nat) : Int) < 2 ^ 63 := by have : (a : Int) < 1001 := by omega
                                                 exact Int.lt_trans this (by decide)
    simp only at h1 h2
    refine Ex.step rfl (Ex1.assign (Ev.modN (Ev.addN (Ev.name rfl) (Ev.name rfl)) (Ev.nat 12) (by decide))) ?_
    refine Ex.step rfl (Ex1.ite (out := .nx (cdS l style (cNext l style a, acc ++ [cOne l style a]))) (b := cTwo l style a) ?_ (fun hb => ?_) (fun hb => ?_)) ?_
    · unfold cTwo
      refine Tst.and2 (b := decide (0 < (style + a) % 12 % 3)) (Tst.of (Tst.cmp CmpOk.gtI (Ev.rd (Ev.modN (Ev.name rfl) (Ev.nat 3) (by decide))) (Ev.rd (Ev.nat 0))) ?_) fun _ => Tst.of (Tst.cmp CmpOk.inD (Ev.rd (Ev.sliceS (lo := some a) (hi := some (a + 2)) (Ev.name rfl) ?_ ?_ hszl)) (Ev.rd (Ev.name rfl))) ?_
      · rw [Bool.eq_iff_iff]; simp; omega
      · exact Ev.name rfl
      · exact Ev.addN (Ev.name rfl) (Ev.nat 2)
      · rw [S_run, tokP_lookup, Option.isSome_map]; rfl
    · have hb2 := hb
      unfold cTwo at hb2
      rw [Bool.and_eq_true] at hb2
      obtain ⟨n, hn⟩ := Option.isSome_iff_exists.mp hb2.2
      have e1 : cOne l style a = n := by unfold cOne; rw [if_pos hb, hn]; rfl
      have e2 : cNext l style a = a + 2 := by unfold cNext; rw [if_pos hb]
      rw [e1, e2]
      refine Ex.step rfl (Ex1.append (p := .int (n : Nat)) rfl (Ev.sub (ItOk.dct (ps := tokP (foldT style)) (x := seg l a) ?_) (Ev.rd (Ev.name rfl)) (Ev.rd (Ev.of (Ev.sliceS (lo := some a) (hi := some (a + 2)) (Ev.name rfl) ?_ ?_ hszl) ?_))) ?_) ?_
      · rw [tokP_lookup, hn]; rfl
      · exact Ev.name rfl
      · exact Ev.addN (Ev.name rfl) (Ev.nat 2)
      · rw [S_run]; rfl
      · rw [pvN_length]; show acc.length ≤ _; exact Nat.le_trans (by omega : _ ≤ 3000) (by decide)
      · refine Ex.post (Ex.step rfl (Ex1.aug IpOk.addI rfl Ev.int) (Ex.done rfl)) ⟨rfl, ?_, rfl, rfl, rfl, rfl, rfl, trivial⟩
        show some (LV.ow (.lst (pvN acc ++ [.int (n : Nat)]))) = some (LV.ow (.lst (pvN (acc ++ [n]))))
        rw [pvN_append]; rfl
    · have e2 : cNext l style a = a + 1 := by unfold cNext; rw [if_neg (by rw [hb]; decide)]
      rw [e2]
      have happ : ∀ {v : Nat}, cOne l style a = v → some (LV.ow (.lst (pvN acc ++ [.int (v : Nat)]))) = some (LV.ow (.lst (pvN (acc ++ [cOne l style a])))) := fun h => by rw [h, pvN_append]; rfl
      have eone : cOne l style a = if isLet c && decide (0 < (style + a) % 12) then capsL.getD ((style + a) % 12 - 1) 0 + c - 97 else c := by unfold cOne; rw [if_neg (by rw [hb]; decide), hgd]
      have hsz' : (pvN acc).length ≤ sizeLine := by rw [pvN_length]; exact Nat.le_trans (by omega : _ ≤ 3000) (by decide)
      refine Ex.step rfl (Ex1.ite (out := .nx (cdS2 l style a (acc ++ [cOne l style a]))) (b := isLet c && decide (0 < (style + a) % 12)) ?_ (fun hb' => ?_) (fun hb' => ?_)) ?_
      · refine Tst.and2 (Tst.val (Ev.of (Ev.m0 (Me0.isalpha (x := S [c])) (Ev.rd (Ev.sub (ItOk.str (c := c) (by omega) ?_ ha63) (Ev.rd (Ev.name rfl)) (Ev.rd (Ev.name rfl))))) ?_)) fun _ => Tst.of (Tst.cmp CmpOk.gtI (Ev.rd (Ev.name rfl)) (Ev.rd (Ev.nat 0))) ?_
        · rw [Int.toNat_natCast, S_cps]; exact hca
        · rw [alpha_chrs c hcc]
        · rw [Bool.eq_iff_iff]; simp; omega
      · have hb3 := Bool.and_eq_true_iff.mp hb'
        have hw := of_decide_eq_true hb3.2
        have h97 : 97 ≤ c := by have := hb3.1; unfold isLet at this; exact of_decide_eq_true (Bool.and_eq_true_iff.mp this).1
        have ev : cOne l style a = capsL.getD ((style + a) % 12 - 1) 0 + c - 97 := by rw [eone, if_pos hb']
        have hidx : (style + a) % 12 - 1 < capsL.length := by
          have : (style + a) % 12 < 12 := Nat.mod_lt _ (by decide)
          show _ < 11
          omega
        refine Ex.post (Ex.step rfl (Ex1.append (p := .int ((capsL.getD ((style + a) % 12 - 1) 0 + c - 97 : Nat) : Int)) rfl (Ev.of (Ev.subI (Ev.addN (Ev.sub (ItOk.nats (l := capsL) (k := (style + a) % 12 - 1) ?_ hidx (by omega)) (Ev.rd (Ev.name rfl)) (Ev.rd (Ev.subI (Ev.name rfl) Ev.int))) (Ev.callB (C1.ord (c := c)) (Ev.bi hord rfl) (Ev.rd (Ev.sub (ItOk.str (c := c) (by omega) ?_ ha63) (Ev.rd (Ev.name rfl)) (Ev.rd (Ev.name rfl)))))) Ev.int) ?_) hsz') (Ex.done rfl)) ⟨happ ev, rfl, rfl, rfl, rfl, rfl, rfl, trivial⟩
        · omega
        · rw [Int.toNat_natCast, S_cps]; exact hca
        · congr 1; omega
      · have ev : cOne l style a = c := by rw [eone, if_neg (by rw [hb']; decide)]
        refine Ex.post (Ex.step rfl (Ex1.append (p := .int (c : Nat)) rfl (Ev.callB (C1.ord (c := c)) (Ev.bi hord rfl) (Ev.rd (Ev.sub (ItOk.str (c := c) (by omega) ?_ ha63) (Ev.rd (Ev.name rfl)) (Ev.rd (Ev.name rfl))))) hsz') (Ex.done rfl)) ⟨happ ev, rfl, rfl, rfl, rfl, rfl, rfl, trivial⟩
        rw [Int.toNat_natCast, S_cps]; exact hca
      · exact Ex.post (Ex.step rfl (Ex1.aug IpOk.addI rfl Ev.int) (Ex.done rfl)) ⟨rfl, rfl, rfl, rfl, rfl, rfl, rfl, trivial⟩
    · have hsz' : (pvN (acc ++ [cOne l style a])).length ≤ sizeLine := by rw [pvN_length, List.length_append]; exact Nat.le_trans (by simp; omega : _ ≤ 3000) (by decide)
      refine Ex.step rfl (Ex1.ite (out := .nx (cdS l style (cNext l style a, acc ++ cAdd l style a))) (b := decide ((style + cNext l style a) % 5 = 0)) (Tst.of (Tst.cmp CmpOk.eqI (Ev.rd (Ev.modN (Ev.addN (Ev.name rfl) (Ev.name rfl)) (Ev.nat 5) (by decide))) (Ev.rd (Ev.nat 0))) ?_) (fun hb => ?_) (fun hb => ?_)) (Ex.done rfl)
      · rw [Bool.eq_iff_iff]; simp; omega
      · have hb' := of_decide_eq_true hb
        have e : acc ++ cAdd l style a = (acc ++ [cOne l style a]) ++ [unsL.getD ((style / 5 + cNext l style a) % 27) 0] := by unfold cAdd; rw [if_pos hb', List.append_assoc]; rfl
        rw [e]
        refine Ex.post (Ex.step rfl (Ex1.append (p := .int (unsL.getD ((style / 5 + cNext l style a) % 27) 0 : Nat)) rfl (Ev.sub (ItOk.nats (l := unsL) (k := (style / 5 + cNext l style a) % 27) rfl ?_ ?_) (Ev.rd (Ev.name rfl)) (Ev.rd (Ev.modN (Ev.addN (Ev.divN (Ev.name rfl) (Ev.nat 5) (by decide) (by decide)) (Ev.name rfl)) (Ev.nat 27) (by decide)))) hsz') (Ex.done rfl)) ⟨rfl, ?_, rfl, rfl, rfl, rfl, rfl, trivial⟩
        · exact Nat.mod_lt _ (by decide)
        · exact Nat.lt_trans (Nat.mod_lt _ (by decide)) (by decide)
        · show some (LV.ow (.lst (pvN (acc ++ [cOne l style a]) ++ [.int (unsL.getD ((style / 5 + cNext l style a) % 27) 0 : Nat)]))) = some (LV.ow (.lst (pvN ((acc ++ [cOne l style a]) ++ [unsL.getD ((style / 5 + cNext l style a) % 27) 0]))))
          rw [pvN_append (acc ++ [cOne l style a])]; rfl
      · have hb' := of_decide_eq_false hb
        have e : acc ++ cAdd l style a = acc ++ [cOne l style a] := by unfold cAdd; rw [if_neg hb']
        rw [e]; exact Ex.done rfl
  · refine Ex.last rfl (Ex1.retOwn rfl)
end
end LW
namespace LW

/-- a plain def of the module, by its place -/
noncomputable def FunG (G : Heap) (name : Str) (i : Nat) : Prop := ∃ a, GVal G name (.ref a) ∧ FunR G a (dA i) (dB i) (dS i) .none
/-- a function that can be called with these values and gives that one -/
noncomputable def Fn (prog : Program) (w : World) (G : Heap) (name : Str) (n : Nat) (ps : List PV) (r : PV) : Prop :=
  ∃ a o fd, GVal G name (.ref a) ∧ G.get? a = some o ∧ o.data = .func fd ∧ CallT prog w G n (.ref a) ps [] [] r []

section
variable {prog : Program} {w : World} {A : Around} {G H0 : Heap} {env : Env} {σ σ₂ σ₃ σc : Sy} {h h' : Heap} {M : List Addr} {m : Str → Option Value} {s : Shared}

theorem Ev.fn {x : Str} {np pos : Pos} {es : List PySem.Expr} {ps : List PV} {r : PV} {n : Nat} (F : Fn prog w G x n ps r) (hk : env.kindOf x = some .globalImplicit) (hes : EvL prog w G A env σ pos es ps) (hA : Rm A n)
    (hd : (x == ("__debug__" : Str)) = false := by decide) (hform : ∃ t rest, backTo pos (starEach es env) = (false, t) :: rest := by exact ⟨_, _, rfl⟩) : Ev prog w G A env σ (.Call (.Name x np) es [] pos) r := by
  refine LW.hideGoal fun GG hGG => ?_
  obtain ⟨a, o, fd, hg, ho, hfd, hc⟩ := F
  refine hGG ?_
  clear hGG GG
  exact Ev.callF (Ev.glob hg hk hd) ho hfd hc hes hA hform

theorem Fn.one {name : Str} {i n : Nat} {x : Str} {p r : PV} (F : FunG G name i) (hs : ScOk (dS i))
    (hb : ∀ v nm q kd doc pm an code ct, bindArgs ⟨nm, q, dA i, .stmts (dB i), dS i, mainGlobals, [], .none, kd, doc, pm, an, code, ct, builtinsNs⟩ ⟨[v], []⟩ = pure [(x, v)]) (hko : kindsOk (dS i) [(x, p)] = true)
    (body : ∀ A L qual a code, Rm A n → Ex prog w A G (fenv (dS i) L qual a code) ⟨[(x, .im p)], []⟩ (dB i) (.rt r [])) (hco : (dS i).isCoroutine = false := by rfl) (hgen : (dS i).isGenerator = false := by rfl) : Fn prog w G name (n + 1) [p] r := by
  refine LW.hideGoal fun GG hGG => ?_
  obtain ⟨a, hg, F⟩ := F
  obtain ⟨o, fd, ho, hfd⟩ := isFunc F
  refine hGG ?_
  clear hGG GG
  refine ⟨a, o, fd, hg, ho, hfd, CallT.of (l := [(x, p)]) F hs (fun s M vs kvs kg rv rk => ?_) (by simp) hko rfl (.inl rfl) (fun A L qual code hA => body A L qual a code hA) hco hgen⟩
  obtain ⟨v, rfl, hbs⟩ := binds1 (x := x) rv
  obtain rfl : kvs = [] := rk
  exact ⟨_, hbs, fun nm q kd doc pm an code ct => BindsTo.of_eq (hb v nm q kd doc pm an code ct)⟩
theorem Fn.two {name : Str} {i n : Nat} {x y : Str} {p p' r : PV} (F : FunG G name i) (hs : ScOk (dS i)) (hxy : x ≠ y)
    (hb : ∀ v u nm q kd doc pm an code ct, bindArgs ⟨nm, q, dA i, .stmts (dB i), dS i, mainGlobals, [], .none, kd, doc, pm, an, code, ct, builtinsNs⟩ ⟨[v, u], []⟩ = pure [(x, v), (y, u)]) (hko : kindsOk (dS i) [(x, p), (y, p')] = true)
    (body : ∀ A L qual a code, Rm A n → Ex prog w A G (fenv (dS i) L qual a code) ⟨[(x, .im p), (y, .im p')], []⟩ (dB i) (.rt r [])) (hco : (dS i).isCoroutine = false := by rfl) (hgen : (dS i).isGenerator = false := by rfl) : Fn prog w G name (n + 1) [p, p'] r := by
  refine LW.hideGoal fun GG hGG => ?_
  obtain ⟨a, hg, F⟩ := F
  obtain ⟨o, fd, ho, hfd⟩ := isFunc F
  refine hGG ?_
  clear hGG GG
  refine ⟨a, o, fd, hg, ho, hfd, CallT.of (l := [(x, p), (y, p')]) F hs (fun s M vs kvs kg rv rk => ?_) (by simpa using hxy) hko rfl (.inl rfl) (fun A L qual code hA => body A L qual a code hA) hco hgen⟩
  obtain ⟨v, u, rfl, hbs⟩ := binds2 (x := x) (y := y) rv
  obtain rfl : kvs = [] := rk
  exact ⟨_, hbs, fun nm q kd doc pm an code ct => BindsTo.of_eq (hb v u nm q kd doc pm an code ct)⟩

theorem fn_lines {n : Nat} {numbers : List Int} (F : FunG G "_law_lines" 69) (hn : ∀ i ∈ numbers, 0 ≤ i) (hl : numbers.length ≤ 1000) : Fn prog w G "_law_lines" (n + 1) [.lst (numbers.map .int)] (.lst ((linesOf numbers).map pvLine)) :=
  Fn.one (x := "numbers") F sc_lines (fun _ _ _ _ _ _ _ _ _ => rfl) rfl fun A L qual a code hA => body_lines hA.1 hn hl
theorem fn_codes {n : Nat} {l : List Nat} {style : Nat} (F : FunG G "_law_codes" 70) (hl : l.length ≤ 1000) (hch : ∀ c ∈ l, c ∈ chrs) (hlist : BVal G "list" (.type "list")) (hr : BVal G "range" (.type "range")) (hlen : BVal G "len" (.builtin "len")) (hord : BVal G "ord" (.builtin "ord")) :
    Fn prog w G "_law_codes" (n + 1) [.str (S l), .int (style : Nat)] (.lst (pvN (codesOf l style))) :=
  Fn.two (x := "text") (y := "style") F ⟨rfl, by decide +kernel, by decide +kernel⟩ (by decide) (fun _ _ _ _ _ _ _ _ _ _ => rfl) rfl fun A L qual a code hA => body_codes hA.1 hl hch hlist hr hlen hord
theorem fn_octets {n : Nat} {codes : List Nat} (F : FunG G "_law_octets" 71) (hc : ∀ c ∈ codes, c < 64 ^ 4) (hl : codes.length ≤ 1000) (hb : BVal G "enumerate" (.type "enumerate")) : Fn prog w G "_law_octets" (n + 1) [.lst (pvN codes)] (.lst (pvN (octsFrom 0 codes))) :=
  Fn.one (x := "codes") F ⟨rfl, by decide +kernel, by decide +kernel⟩ (fun _ _ _ _ _ _ _ _ _ => rfl) rfl fun A L qual a code hA => body_octets hA.1 hc hl hb
theorem fn_cut {n : Nat} {tk : List (Str × Nat)} {text : List Nat} (F : FunG G "_law_cut" 74) (hl : text.length ≤ 1000) (hg : GRep prog w G "EXACT_TOKEN_TYPES" (.dct (tokP tk))) : Fn prog w G "_law_cut" (n + 1) [.str (S text)] (.lst ((cutRow tk text ++ [0]).map .int)) :=
  Fn.one (x := "text") F ⟨rfl, by decide +kernel, by decide +kernel⟩ (fun _ _ _ _ _ _ _ _ _ => rfl) rfl fun A L qual a code hA => body_cut hA.1 hl hg
theorem fn_plain {n : Nat} {lines : List Line} (F : FunG G "_law_plain" 77) (hsz : (lines.map lineSz).sum ≤ 1000) : Fn prog w G "_law_plain" (n + 1) [.lst (lines.map pvLn)] (pvRoads (plain lines)) :=
  Fn.one (x := "lines") F ⟨rfl, by decide +kernel, by decide +kernel⟩ (fun _ _ _ _ _ _ _ _ _ => rfl) rfl fun A L qual a code hA => body_plain hA.1 (by have := hA.2.2; omega) hsz
theorem fn_placed {n : Nat} {rs : List Road} (F : FunG G "_law_placed" 78) (hsz : rs.length ≤ 1000) (hr : BVal G "range" (.type "range")) (hlen : BVal G "len" (.builtin "len")) : Fn prog w G "_law_placed" (n + 1) [pvRoads rs] (.lst ((placedOf rs).map pvPl)) :=
  Fn.one (x := "roads") F ⟨rfl, by decide +kernel, by decide +kernel⟩ (fun _ _ _ _ _ _ _ _ _ => rfl) rfl fun A L qual a code hA => body_placed hA.1 hsz hr hlen
theorem fn_apart {n : Nat} {ones others : List Way} (F : FunG G "_law_apart" 80) (hn : ∀ x ∈ others, x.2.2 < 2 ^ 62) : Fn prog w G "_law_apart" (n + 1) [.lst (ones.map pvWay), .lst (others.map pvWay)] (.dct (pvAD (apartD ones others))) :=
  Fn.two (x := "ones") (y := "others") F ⟨rfl, by decide +kernel, by decide +kernel⟩ (by decide) (fun _ _ _ _ _ _ _ _ _ _ => rfl) rfl fun A L qual a code hA => body_apart hA.1 hn
theorem fn_counts {n : Nat} {pl : List Pl} {s : Town} {c : Town → Nat} (F : FunG G "_law_counts" 81) (hpl : pl.length ≤ 1000) (hn : ∀ x ∈ pl, x.2.2 < 2 ^ 62) (hlt : ∀ x ∈ pl, x.1 < x.2.1) (hc : CntOk pl s c) (hsum : BVal G "sum" (.builtin "sum")) :
    Fn prog w G "_law_counts" (n + 1) [.lst (pl.map pvPl), .str (nm s false)] (.dct (cD c 7)) :=
  Fn.two (x := "placed") (y := "start") F ⟨rfl, by decide +kernel, by decide +kernel⟩ (by decide) (fun _ _ _ _ _ _ _ _ _ _ => rfl) rfl fun A L qual a code hA => body_counts hA.1 hpl hn hlt hc hsum
end
end LW
namespace LW

/-- the two tables of the preparation -/
structure Tabs (prog : Program) (w : World) (G : Heap) (uns : Nat → Bool) (b3 : Nat → Option Str) : Prop where
  set : ∃ a n Sf, GVal G "b1_set" (.ref a) ∧ G.SetOf (intKind prog w) a Sf n ∧ ∀ k : Nat, Sf (k : Int) = uns k
  dict : ∃ a f, GVal G "b3_exceptions" (.ref a) ∧ (a == sysModules) = false ∧ G.MapOf (intKind prog w) a f ∧ ∀ k : Nat, match b3 k with | none => f (k : Int) = none | some x => ∃ t, f (k : Int) = some (.str x t)

section
variable {prog : Program} {w : World} {A : Around} {G H0 : Heap} {env : Env} {σ σ₂ σ₃ σc : Sy} {h h' : Heap} {M : List Addr} {m : Str → Option Value} {s : Shared}

theorem SetOf.mono {F F' : Heap} (k : Kp F F') {a : Addr} {Sf : Int → Bool} {n : Nat} (x : F.SetOf (intKind prog w) a Sf n) : F'.SetOf (intKind prog w) a Sf n := by
  obtain ⟨o, es, ep, t, ho, r⟩ := x; exact ⟨o, es, ep, t, k _ _ ho, r⟩
theorem MapOf.mono {F F' : Heap} (k : Kp F F') {a : Addr} {f : Int → Option Value} (x : F.MapOf (intKind prog w) a f) : F'.MapOf (intKind prog w) a f := by
  obtain ⟨o, es, ep, ho, r⟩ := x; exact ⟨o, es, ep, k _ _ ho, r⟩

theorem Ev.inSet {l r : PySem.Expr} {pos : Pos} {a : Addr} {Sf : Int → Bool} {n : Nat} {k : Int} (hS : H0.SetOf (intKind prog w) a Sf n) (hl : Ev prog w H0 A env σ l (.int k)) (hr : Ev prog w H0 A env σ r (.raw (.ref a)))
    (hm : behindInMarks .In r = false := by with_unfolding_all rfl) : Ev prog w H0 A env σ (.Compare l [.In] [r] pos) (.bool (Sf k)) := .mk fun s M m Q E V q =>
  wpAny_Compare1 (ev_two hl.rd hr.rd V fun x y h₁ t₁ k₁ rx ry => by
    obtain ⟨t, rfl⟩ := rx
    obtain rfl : y = .ref a := ry
    exact wpAny_inSet_of (knd := intKind prog w) (k := k) (show Value.isInt k (.int k t) = true by simp [Value.isInt]) rfl (SetOf.mono (V.kp.trans k₁) hS) (q _ h₁ _ k₁ rfl)) hm

theorem body_b1 {L : Addr} {qual : Str} {fa : Addr} {code : Value} {c : Nat} {uns : Nat → Bool} {b3 : Nat → Option Str} (T : Tabs prog w G uns b3) (hord : BVal G "ord" (.builtin "ord")) :
    Ex prog w A G (fenv (dS 11) L qual fa code) ⟨[("code", .im (.str (S [c])))], []⟩ (dB 11) (.rt (.bool (uns c)) []) := by
  refine LW.hideGoal fun GG hGG => ?_
  obtain ⟨a, n, Sf, hg, hS, hu⟩ := T.set
  refine hGG ?_
  clear hGG GG
  refine Ex.last rfl (Ex1.ret (Ev.of (Ev.inSet hS (Ev.callB (C1.ord (c := c)) (Ev.bi hord rfl) (Ev.rd (Ev.name rfl))) (Ev.glob hg rfl)) ?_))
  rw [hu]

/-- dict.get of the second table -/
theorem Ev.getInt {o e : PySem.Expr} {apos pos : Pos} {a : Addr} {f : Int → Option Value} {k : Int} {z : PV} (hM : H0.MapOf (intKind prog w) a f) (hs : (a == sysModules) = false) (ho : Ev prog w H0 A env σ o (.raw (.ref a))) (he : Ev prog w H0 A env σ e (.int k))
    (hz : match z with | .none => f k = Option.none | .str x => ∃ t, f k = some (.str x t) | _ => False)
    (hbase : attributeBase o "get" env (eval o env) = eval o env := by rfl) (hline : (apos.endLine == pos.line) = true := by rfl) (hse : starEach [e] env = [(false, eval e env)] := by rfl) : Ev prog w H0 A env σ (.Call (.Attribute o "get" apos) [e] [] pos) z := .mk fun s M m Q E V q =>
  Call_method1 hbase hse hline (ho.run s M m _ _ V fun v h₁ t₁ k₁ r => by
    refine LW.hideGoal fun GG hGG => ?_
    obtain rfl : v = .ref a := r
    have hM1 := MapOf.mono (V.kp.trans k₁) hM
    obtain ⟨ob, es, ep, hob, hex, _⟩ := id hM1
    refine hGG ?_
    clear hGG GG
    refine ⟨"dict", "dict.get", F.plainAttrs_dict, F.slot_dict_get, F.type_dict_get, ⟨ob, hob, hex.1⟩, fun a' e' => by cases e'; exact ⟨ob, hob, hex.2.1⟩, ?_⟩
    refine wpAny_dict_get1 (knd := intKind prog w) hs (he.run { s with heap := h₁, toks := t₁ } M m _ _ (V.keeps k₁) fun v h₂ t₂ k₂ rv => ?_)
    obtain ⟨t, rfl⟩ := rv
    refine ⟨k, f, show Value.isInt k (.int k t) = true by simp [Value.isInt], MapOf.mono k₂ hM1, ?_⟩
    refine q _ h₂ _ (k₁.trans k₂) ?_
    cases z <;> try exact hz.elim
    · rw [hz]; rfl
    · obtain ⟨t', e'⟩ := hz; rw [e']; exact ⟨t', rfl⟩)

noncomputable def foldS (b3 : Nat → Option Str) (c : Nat) : Str := (b3 c).getD (Txt.lower (S [c]))
theorem CmpOk.isNotNone {p : PV} {b : Bool} (hp : ∀ (v : Value) (h : Heap) (M : List Addr), RdV prog w h M p v → (v == Value.none) = !b) : CmpOk prog w A .IsNot p .none b := fun s M a c Q E r e q => by
  obtain rfl : c = .none := e
  show wpAny _ A (do return .bool (!(← isSame a .none))) Q E s
  rw [isSame_none]; refine wpAny_bind (wpAny_pure (wpAny_pure ?_)); rw [hp _ _ _ r, Bool.not_not]; exact q s.heap s.toks Kp.rfl
theorem str_not_none {x : Str} : ∀ (v : Value) (h : Heap) (M : List Addr), RdV prog w h M (.str x) v → (v == Value.none) = !true := fun v h M ⟨t, e⟩ => by subst e; rfl
theorem none_is_none : ∀ (v : Value) (h : Heap) (M : List Addr), RdV prog w h M .none v → (v == Value.none) = !false := fun v h M e => by obtain rfl : v = .none := e; rfl

theorem body_b3 {L : Addr} {qual : Str} {fa : Addr} {code : Value} {c : Nat} {uns : Nat → Bool} {b3 : Nat → Option Str} (T : Tabs prog w G uns b3) (hord : BVal G "ord" (.builtin "ord")) (hfit : b3 c = none → Builtin.Str.tooLong (Txt.lower (S [c])).length = false) :
    Ex prog w A G (fenv (dS 13) L qual fa code) ⟨[("code", .im (.str (S [c])))], []⟩ (dB 13) (.rt (.str (foldS b3 c)) []) := by
  refine LW.hideGoal fun GG hGG => ?_
  obtain ⟨a, f, hg, hs, hM, hb⟩ := T.dict
  refine hGG ?_
  clear hGG GG
  have hbc := hb c
  cases e : b3 c with
  | none =>
    rw [e] at hbc
    have ef : foldS b3 c = Txt.lower (S [c]) := by unfold foldS; rw [e]; rfl
    rw [ef]
    refine Ex.step rfl (Ex1.assign (p := .none) (Ev.getInt hM hs (Ev.glob hg rfl) (Ev.callB (C1.ord (c := c)) (Ev.bi hord rfl) (Ev.rd (Ev.name rfl))) hbc)) ?_
    refine Ex.step rfl (Ex1.ite (b := false) (Tst.cmp (CmpOk.isNotNone none_is_none) (Ev.rd (Ev.name rfl)) (Ev.rd Ev.none)) (fun h => by cases h) (fun _ => Ex.done rfl)) ?_
    exact Ex.last rfl (Ex1.ret (Ev.m0 (Me0.lower (hfit e)) (Ev.rd (Ev.name rfl))))
  | some x =>
    rw [e] at hbc
    have ef : foldS b3 c = x := by unfold foldS; rw [e]; rfl
    rw [ef]
    refine Ex.step rfl (Ex1.assign (p := .str x) (Ev.getInt hM hs (Ev.glob hg rfl) (Ev.callB (C1.ord (c := c)) (Ev.bi hord rfl) (Ev.rd (Ev.name rfl))) hbc)) ?_
    exact Ex.last rfl (Ex1.ite (b := true) (Tst.cmp (CmpOk.isNotNone str_not_none) (Ev.rd (Ev.name rfl)) (Ev.rd Ev.none)) (fun _ => Ex.last rfl (Ex1.ret (Ev.name rfl))) (fun h => by cases h))
end
end LW
namespace LW
section
variable {prog : Program} {w : World} {A : Around} {G H0 : Heap} {env : Env} {σ σ₂ σ₃ σc : Sy} {h h' : Heap} {M : List Addr} {m : Str → Option Value} {s : Shared}

theorem fn_b1 {n c : Nat} {uns : Nat → Bool} {b3 : Nat → Option Str} (F : FunG G "in_table_b1" 11) (T : Tabs prog w G uns b3) (hord : BVal G "ord" (.builtin "ord")) : Fn prog w G "in_table_b1" (n + 1) [.str (S [c])] (.bool (uns c)) :=
  Fn.one (x := "code") F ⟨rfl, by decide +kernel, by decide +kernel⟩ (fun _ _ _ _ _ _ _ _ _ => rfl) rfl fun A L qual a code hA => body_b1 T hord
theorem fn_b3 {n c : Nat} {uns : Nat → Bool} {b3 : Nat → Option Str} (F : FunG G "map_table_b3" 13) (T : Tabs prog w G uns b3) (hord : BVal G "ord" (.builtin "ord")) (hfit : b3 c = none → Builtin.Str.tooLong (Txt.lower (S [c])).length = false) : Fn prog w G "map_table_b3" (n + 1) [.str (S [c])] (.str (foldS b3 c)) :=
  Fn.one (x := "code") F ⟨rfl, by decide +kernel, by decide +kernel⟩ (fun _ _ _ _ _ _ _ _ _ => rfl) rfl fun A L qual a code hA => body_b3 T hord hfit

theorem strs_of {F : Heap} : ∀ {texts : List Str} {vs : List Value}, RepVs prog w F (texts.map .str) vs → ∃ l : List (Str × Tok), vs = strValues l ∧ l.map (·.1) = texts
  | [], vs, r => by obtain rfl : vs = [] := r; exact ⟨[], rfl, rfl⟩
  | x :: xs, vs, ⟨v, r, e, ⟨t, hv⟩, ht⟩ => by
    obtain ⟨l, e1, e2⟩ := strs_of ht
    subst e hv e1
    exact ⟨(x, t) :: l, rfl, by rw [List.map_cons, e2]⟩
theorem Me1.join {x : Str} {texts : List Str} (hok : JoinOk x texts = true) : Me1 prog w A "join" (.str x) (.lst (texts.map .str)) (.str (Txt.join x texts)) := fun s M v pos t Q E ⟨u, e⟩ h => by
  subst e
  refine SB.join (wpAny_mono h (fun a s₁ h₁ => ?_) fun _ _ e => e)
  refine LW.hideGoal fun GG hGG => ?_
  obtain ⟨h', tk, rfl, k, ⟨D, vs, rfl, hL, r⟩, _, q⟩ := h₁
  obtain ⟨l, rfl, e2⟩ := strs_of r
  refine hGG ?_
  clear hGG GG
  exact ⟨D, l, rfl, hL.isList, texts, e2, hok, fun t' k' => q _ _ _ Kp.rfl ⟨t', rfl⟩⟩
theorem inj_sign : ∀ a b : Nat, PV.str (S [a]) = PV.str (S [b]) → a = b := fun a b e => by have := S_inj (PV.str.inj e); simpa using this

noncomputable def prepT (uns : Nat → Bool) (b3 : Nat → Option Str) (cs : List Nat) : List Str := (cs.filter fun c => !uns c).map (foldS b3)
theorem body_prepared {L : Addr} {qual : Str} {fa : Addr} {code : Value} {n : Nat} {cs : List Nat} {uns : Nat → Bool} {b3 : Nat → Option Str} (hA : Rm A n) (hn : 1 ≤ n) (hl : cs.length ≤ 10000) (T : Tabs prog w G uns b3) (F1 : FunG G "in_table_b1" 11) (F3 : FunG G "map_table_b3" 13)
    (hord : BVal G "ord" (.builtin "ord")) (hfit : ∀ c ∈ cs, b3 c = none → Builtin.Str.tooLong (Txt.lower (S [c])).length = false) (hok : JoinOk "" (prepT uns b3 cs) = true) :
    Ex prog w A G (fenv (dS 73) L qual fa code) ⟨[("signs", .im (.lst (cs.map fun c => .str (S [c]))))], []⟩ (dB 73) (.rt (.str (Txt.join "" (prepT uns b3 cs))) []) := by
  have hA1 : Rm A (0 + 1) := hA.le hn
  refine Ex.last rfl (Ex1.ret (Ev.m1 (Me1.join hok) (Ev.rd Ev.str) (Ev.rd (EvN.ev (EvN.of (p := .lst ((cs.filter fun c => !uns c).map fun c => .str (foldS b3 c))) ?_ ?_)))))
  · refine EvN.compM (inj := fun c => .str (S [c])) (σc := ⟨[], []⟩) inj_sign ⟨rfl, by decide +kernel, rfl, by decide +kernel, trivial, rfl, fun _ => rfl⟩ (It.list hA.1 (Ev.name rfl)) ?_ (Nat.le_trans hl (by decide))
    intro C c hc
    refine ⟨⟨("sign", .im (.str (S [c]))) :: _, []⟩, rfl, cons_fresh rfl, CTgt.name, ?_, fun _ => ?_⟩
    · exact Tst.not (Tst.val (Ev.fn (fn_b1 (n := 0) F1 T hord) rfl (EvL.cons (Ev.name rfl) EvL.nil) hA1))
    · exact Ev.fn (fn_b3 (n := 0) F3 T hord (hfit c hc)) rfl (EvL.cons (Ev.name rfl) EvL.nil) hA1
  · unfold prepT; rw [List.map_map]; rfl
theorem fn_prepared {n : Nat} {cs : List Nat} {uns : Nat → Bool} {b3 : Nat → Option Str} (F : FunG G "_law_prepared" 73) (hn : 1 ≤ n) (hl : cs.length ≤ 10000) (T : Tabs prog w G uns b3) (F1 : FunG G "in_table_b1" 11) (F3 : FunG G "map_table_b3" 13)
    (hord : BVal G "ord" (.builtin "ord")) (hfit : ∀ c ∈ cs, b3 c = none → Builtin.Str.tooLong (Txt.lower (S [c])).length = false) (hok : JoinOk "" (prepT uns b3 cs) = true) : Fn prog w G "_law_prepared" (n + 1) [.lst (cs.map fun c => .str (S [c]))] (.str (Txt.join "" (prepT uns b3 cs))) :=
  Fn.one (x := "signs") F ⟨rfl, by decide +kernel, by decide +kernel⟩ (fun _ _ _ _ _ _ _ _ _ => rfl) rfl fun A L qual a code hA => body_prepared hA hn hl T F1 F3 hord hfit hok

theorem body_nonterm {L : Addr} {qual : Str} {fa : Addr} {code : Value} {x : Int} {t : Tok} (hg : GVal G "NT_OFFSET" (.int 256 t)) : Ex prog w A G (fenv (dS 66) L qual fa code) ⟨[("x", .im (.int x))], []⟩ (dB 66) (.rt (.bool (decide (256 ≤ x))) []) :=
  Ex.last rfl (Ex1.ret (Ev.cmp CmpOk.geI (Ev.rd (Ev.name rfl)) (Ev.rd (Ev.globI hg rfl))))
theorem fn_nonterm {n : Nat} {x : Int} {t : Tok} (F : FunG G "ISNONTERMINAL" 66) (hg : GVal G "NT_OFFSET" (.int 256 t)) : Fn prog w G "ISNONTERMINAL" (n + 1) [.int x] (.bool (decide (256 ≤ x))) :=
  Fn.one (x := "x") F ⟨rfl, by decide +kernel, by decide +kernel⟩ (fun _ _ _ _ _ _ _ _ _ => rfl) rfl fun A L qual a code hA => body_nonterm hg
theorem body_iseof {L : Addr} {qual : Str} {fa : Addr} {code : Value} {x : Int} {t : Tok} (hg : GVal G "ENDMARKER" (.int 0 t)) : Ex prog w A G (fenv (dS 67) L qual fa code) ⟨[("x", .im (.int x))], []⟩ (dB 67) (.rt (.bool (x == 0)) []) :=
  Ex.last rfl (Ex1.ret (Ev.cmp CmpOk.eqI (Ev.rd (Ev.name rfl)) (Ev.rd (Ev.globI hg rfl))))
theorem fn_iseof {n : Nat} {x : Int} {t : Tok} (F : FunG G "ISEOF" 67) (hg : GVal G "ENDMARKER" (.int 0 t)) : Fn prog w G "ISEOF" (n + 1) [.int x] (.bool (x == 0)) :=
  Fn.one (x := "x") F ⟨rfl, by decide +kernel, by decide +kernel⟩ (fun _ _ _ _ _ _ _ _ _ => rfl) rfl fun A L qual a code hA => body_iseof hg
end
end LW
namespace LW
section
variable {prog : Program} {w : World} {A : Around} {E : Value → Shared → Prop} {s : Shared}

theorem next_entry : entryFor table "next" = some Builtin.«next» := entryFor_of_tree (by kernel_rfl)
theorem next_args (a : Value) : argsOk "next" ⟨[a], []⟩ := by unfold argsOk; kernel_rfl

theorem special_next_item {it l : Addr} {i : Nat} {items : Array Value} {x : Value} {Q : Option Value → Shared → Prop} (hit : s.heap.IsListIter it l i) (hl : s.heap.IsList l items) (hx : items[i]? = some x)
    (hQ : ∀ h', h'.IsListIter it l (i + 1) → Heap.SameBut it s.heap h' → Q (some x) { s with heap := h' }) : wpAny (model prog w) A (callSpecial? (.ref it) (Str.ofString "__next__")) Q E s := by
  refine LW.hideGoal fun GG hGG => ?_
  obtain ⟨o, ho, hc, hd⟩ := id hit
  obtain ⟨ol, hol, _, nl, hdl⟩ := hl
  refine hGG ?_
  clear hGG GG
  refine wpAny_callSpecial?_slot (name := Str.ofString "__next__") hit.typeIs slot_listiter_next (wpAny_call_entry slot_listiter_next hit.typeIs entry_listiter_next ?_ (args_listiter_next _))
  show wpAny _ _ (field (.ref it) 0 >>= _) _ _ s
  refine wpAny_bind (wpAny_field ho hd (x := .ref l) rfl ?_)
  show wpAny _ _ (if (Value.ref l == Value.none) = true then _ else _) _ _ s
  rw [if_neg (show ¬ ((Value.ref l == Value.none) = true) from Bool.false_ne_true)]
  show wpAny _ _ (field (.ref it) 1 >>= _) _ _ s
  refine wpAny_bind (wpAny_field ho hd (x := .int i 0) rfl ?_)
  show wpAny _ _ (seqItems? (.ref l) >>= _) _ _ s
  refine wpAny_bind (wpAny_seqItems hol hdl ?_)
  simp only [Int.toNat_natCast, hx]
  refine wpAny_bind (wpAny_setField ho hd (by simp) (wpAny_pure ⟨x, rfl, hQ _ ?_ (Heap.SameBut.update ..)⟩))
  exact ⟨_, Heap.get?_update_self _ ho (Obj.isFreed_of_fields (Obj.data_mapFields hd _)), (Obj.cls_mapFields ..).trans hc, by rw [Obj.data_mapFields hd]; simp [rawInt]⟩

theorem call_next_item {it l : Addr} {i : Nat} {items : Array Value} {x : Value} {Q : Value → Shared → Prop} (hit : s.heap.IsListIter it l i) (hl : s.heap.IsList l items) (hx : items[i]? = some x)
    (hQ : ∀ h', h'.IsListIter it l (i + 1) → Heap.SameBut it s.heap h' → Q x { s with heap := h' }) : wpAny (model prog w) A (call (.builtin "next") [.ref it]) Q E s := by
  refine Calls.call_function_entry (by decide +kernel) (by decide +kernel) next_entry (next_args _) ?_
  unfold Builtin.«next»
  refine wpAny_bind (m := someArgs "next" 1 2 _) (wpAny_of_eq (a := [Value.ref it]) (by first | rfl | kernel_rfl!) ?_)
  dsimp only
  refine wpAny_bind (wpAny_specialOf (name := Str.ofString "__next__") hit.typeIs slot_listiter_next.lookup ?_)
  refine wpAny_ite_split (fun hab => absurd hab (by decide)) (fun _ => ?_)
  refine wpAny_bind (special_next_item hit hl hx fun h' h1 h2 => ?_)
  exact wpAny_pure ⟨_, rfl, hQ h' h1 h2⟩
end

section
variable {prog : Program} {w : World} {A : Around} {G : Heap} {env : Env} {σ : Sy}

theorem OwnV.next {h : Heap} {M : List Addr} {a : Addr} {p : PV} {ps : List PV} (x : OwnV prog w h M a (.ref a) (.itr (p :: ps))) : ∃ l vs k v, h.IsListIter a l k ∧ (hid h M).PlainList l (List.toArray vs) ∧ vs[k]? = some v ∧ RepV prog w (hid h M) p v ∧ RepVs prog w (hid h M) ps (vs.drop (k + 1)) := by
  refine LW.hideGoal fun GG hGG => ?_
  obtain ⟨_, l, vs, k, h1, h2, v, r, e, hv, hr⟩ := x
  refine hGG ?_
  clear hGG GG
  have hk : vs[k]? = some v := by
    have := congrArg (·[0]?) e
    simpa [List.getElem?_drop] using this
  refine ⟨l, vs, k, v, h1, h2, hk, hv, ?_⟩
  have e2 : vs.drop (k + 1) = r := by
    have := congrArg (List.drop 1) e
    simpa [List.drop_drop] using this
  rw [e2]; exact hr

/-- x = next(y), y an iterator that may be changed -/
theorem Ex1.next {x y : Str} {px py np pos spos : Pos} {a : Addr} {p : PV} {ps : List PV} {t : List (Addr × PV)} (hb : BVal G "next" (.builtin "next")) (hk : env.kindOf "next" = some .globalImplicit) (hy : σ.v.lookup y = some (.im (.raw (.ref a)))) (ht : σ.t = (a, .itr (p :: ps)) :: t)
    (hx : storB env x = true := by rfl) (hs : swapsWith (.Call (.Name "next" np) [.Name y py] [] pos) (some (.Name x px)) spos.line env = pure false := by rfl)
    (hse : starEach [.Name y py] env = [(false, eval (.Name y py) env)] := by rfl) (hd : ((y == ("__debug__" : Str)) || (y == ("__classdict__" : Str))) = false := by decide) :
    Ex1 prog w A G env σ (.Assign [.Name x px] (.Call (.Name "next" np) [.Name y py] [] pos) spos) (.nx ⟨(x, .im p) :: σ.v, (a, .itr ps) :: t⟩) := .mk fun B s oa m Q E kg S q => by
  have V := S.vars kg
  refine wpAny_Assign_Name (Call_name1 hse ((Ev.bi hb hk).run s _ m _ _ V fun f h₁ t₁ k₁ r₁ => ?_)) hs
  obtain rfl : f = _ := r₁
  refine callWith_builtin1 ((Ev.name (p := .raw (.ref a)) hy hd).run { s with heap := h₁, toks := t₁ } _ m _ _ (V.keeps k₁) fun v h₂ t₂ k₂ r₂ => ?_)
  refine LW.hideGoal fun GG hGG => ?_
  obtain rfl : v = .ref a := r₂
  have S2 := S.keeps (k₁.trans k₂)
  have hm : (a, PV.itr (p :: ps)) ∈ σ.t := by rw [ht]; exact List.mem_cons_self
  obtain ⟨l, vs, k, v, hit, hL', hvk, rv, rr⟩ := OwnV.next (S2.th _ hm)
  refine hGG ?_
  clear hGG GG
  have haM : a ∈ Mu env B oa σ.t := mem_Mu (mem_own_th hm)
  have hL : h₂.PlainList l vs.toArray := hL'.at fun o => Kp.ofHid _ _ l o
  refine call_next_item (s := { s with heap := h₂, toks := t₂ }) hit hL.isList (by rw [List.getElem?_toArray]; exact hvk) fun h₃ hit3 hs3 => ?_
  have kb := kb_of_sameBut hs3
  have kh : Kp (hid h₂ (Mu env B oa σ.t)) (hid h₃ (Mu env B oa σ.t)) := fun b o e => by
    rw [hid_get] at e ⊢
    exact ⟨kb b o (fun e' => e.2 (e' ▸ haM)) e.1, e.2⟩
  have S3 := S2.updTh (p' := .itr ps) Kp.rfl ht kb ⟨rfl, l, vs, k + 1, hit3, hL'.at fun o e => kh l o e, RepVs.mono kh _ _ rr⟩ (by obtain ⟨o, e, _⟩ := hit3; exact ⟨o, e⟩)
  refine storeR (s := { s with heap := h₃, toks := t₂ }) (lv := .im p) S3 Kp.rfl hx ?_ fun h' tk S' => q _ h' tk ⟨rfl, S'⟩
  have eM : Mu env B oa ((a, PV.itr ps) :: t) = Mu env B oa σ.t := by unfold Mu ownA; rw [ht]; rfl
  show RepV prog w (hid h₃ (Mu env B oa ((a, PV.itr ps) :: t))) p v
  rw [eM]; exact RepV.mono kh _ _ rv
end
end LW
namespace LW
section
variable {prog : Program} {w : World} {A : Around} {G H0 : Heap} {env : Env} {σ σ₂ σ₃ σc : Sy} {h h' : Heap} {M : List Addr} {m : Str → Option Value} {s : Shared}

theorem Tst.valI {e : PySem.Expr} {i : Int} (he : Ev prog w H0 A env σ e (.int i)) (hi : isTrue e env (eval e env) = (do let v ← eval e env; standAt e.pos; holding [v] (truthy v)) := by rfl) : Tst prog w H0 A env σ e (i != 0) := .mk fun s M m Q E V q =>
  wpAny_isTrue_value (he.run s M m _ _ V fun v h' tk k r => by obtain ⟨t, rfl⟩ := r; exact P.truthy_int (q h' tk k)) hi

/-- a number's octets: all but the last one carry 64 -/
noncomputable def goodV : List Nat → Prop
  | [] => False
  | [x] => x &&& 64 = 0
  | x :: y :: r => x &&& 64 ≠ 0 ∧ goodV (y :: r)
noncomputable def valOf : Nat → List Nat → Nat
  | acc, [] => acc
  | acc, x :: r => valOf (acc * 64 + (x &&& 63)) r
theorem and63_lt (x : Nat) : x &&& 63 < 64 := Nat.lt_succ_of_le Nat.and_le_right
theorem or_low (v d : Nat) (h : d < 64) : (v * 64) ||| d = v * 64 + d := by
  have := Nat.shiftLeft_add_eq_or_of_lt (b := d) (i := 6) h v
  rw [Nat.shiftLeft_eq] at this
  exact this.symm

noncomputable def vaS (a : Addr) (rest : List Nat) (x : Nat × Nat × List Nat) : Sy := ⟨[("val", .im (.int (x.1 : Nat))), ("b", .im (.int (x.2.1 : Nat))), ("iterator", .im (.raw (.ref a)))], [(a, .itr (pvN (x.2.2 ++ rest)))]⟩
theorem body_varint {L : Addr} {qual : Str} {fa : Addr} {code : Value} {a : Addr} {fs rest : List Nat} (hg : goodV fs) (hl : fs.length ≤ 9) (hb : BVal G "next" (.builtin "next")) :
    Ex prog w A G (fenv (dS 8) L qual fa code) ⟨[("iterator", .im (.raw (.ref a)))], [(a, .itr (pvN (fs ++ rest)))]⟩ (dB 8) (.rt (.int (valOf 0 fs : Nat)) [(a, .itr (pvN rest))]) := by
  cases fs with
  | nil => exact hg.elim
  | cons f0 fs =>
    refine Ex.step rfl (Ex1.next (p := .int (f0 : Nat)) (ps := pvN (fs ++ rest)) hb rfl rfl rfl) ?_
    refine Ex.step rfl (Ex1.assign (Ev.of (Ev.andI (Ev.name rfl) (Ev.nat 63)) (by rw [bitAnd_nat]))) ?_
    refine Ex.sub (σ₂ := vaS a rest (f0 &&& 63, f0, fs)) ?_ ⟨rfl, rfl, rfl, trivial⟩
    refine Ex.step rfl (while_ind (vaS a rest) (fun x => (x.2.1 &&& 64) != 0) (fun x => (x.1 * 64 + (x.2.2.headD 0 &&& 63), x.2.2.headD 0, x.2.2.tail)) (fun x => (valOf x.1 x.2.2, (x.2.1 :: x.2.2).getLastD 0, [])) (fun x => x.2.2.length)
      (fun x => goodV (x.2.1 :: x.2.2) ∧ x.2.2.length ≤ 9 ∧ x.1 < 64 ^ (10 - x.2.2.length)) (f0 &&& 63, f0, fs) ?_ rfl rfl ?_ ?_ ?_ ?_) ?_
    · simp only [List.length_cons] at hl
      refine ⟨hg, by simp only; omega, ?_⟩
      simp only
      have h1 := and63_lt f0
      exact Nat.lt_of_lt_of_le h1 (Nat.le_trans (by decide : 64 ≤ 64 ^ 1) (Nat.pow_le_pow_right (by decide) (by omega)))
    · rintro ⟨v, b, rem⟩ ⟨h1, h2, h3⟩ hc
      cases rem with
      | nil => have : b &&& 64 = 0 := h1
               simp [this] at hc
      | cons y r =>
        have h1' : b &&& 64 ≠ 0 ∧ goodV (y :: r) := h1
        simp only [List.length_cons] at h2 h3 ⊢
        refine ⟨⟨h1'.2, ?_, ?_⟩, ?_, ?_⟩
        · show r.length ≤ 9
          omega
        · show v * 64 + (y &&& 63) < 64 ^ (10 - r.length)
          have h4 := and63_lt y
          have e : 10 - r.length = (10 - (r.length + 1)) + 1 := by omega
          rw [e, Nat.pow_succ]
          omega
        · exact Nat.lt_succ_self _
        · show (valOf v (y :: r), (b :: y :: r).getLastD 0, []) = (valOf (v * 64 + (y &&& 63)) r, (y :: r).getLastD 0, [])
          simp [valOf, List.getLastD]
    · rintro ⟨v, b, rem⟩ ⟨h1, _, _⟩ hc
      cases rem with
      | nil => rfl
      | cons y r =>
        have h1' : b &&& 64 ≠ 0 ∧ goodV (y :: r) := h1
        exfalso
        have : (b &&& 64) = 0 := by simpa using hc
        exact h1'.1 this
    · rintro ⟨v, b, rem⟩ _
      refine Tst.of (Tst.valI (Ev.andI (Ev.name rfl) (Ev.nat 64))) ?_
      rw [bitAnd_nat]
      rw [Bool.eq_iff_iff]; simp
    · rintro ⟨v, b, rem⟩ ⟨h1, h2, h3⟩ hc
      cases rem with
      | nil => have : b &&& 64 = 0 := h1
               simp [this] at hc
      | cons y r =>
        have hv : v < 2 ^ 62 := by
          simp only [List.length_cons] at h3
          have h5 : 64 ^ (10 - (r.length + 1)) ≤ 64 ^ 9 := Nat.pow_le_pow_right (by decide) (by omega)
          exact Nat.lt_of_lt_of_le (Nat.lt_of_lt_of_le h3 h5) (by decide)
        refine Ex.step rfl (Ex1.aug (IpOk.shlI (by decide) ?_) rfl Ev.int) ?_
        · have := PySem.intBits_le_64 (k := (v : Int)) (by omega) (by omega)
          show (Builtin.Int.intBits (v : Int) : Int) + 6 ≤ 2 ^ 27
          have e27 : (2 : Int) ^ 27 = 134217728 := by decide
          rw [e27]; omega
        refine Ex.step rfl (Ex1.next (p := .int (y : Nat)) (ps := pvN (r ++ rest)) hb rfl rfl rfl) ?_
        refine Ex.post (Ex.step rfl (Ex1.aug IpOk.orI rfl (Ev.of (Ev.andI (Ev.name rfl) (Ev.nat 63)) (by rw [bitAnd_nat]))) (Ex.done rfl)) ⟨?_, rfl, rfl, trivial⟩
        show some (LV.im (.int (Builtin.bitOr ((v : Int) * 2 ^ (6 : Int).toNat) ((y &&& 63 : Nat) : Int)))) = some (LV.im (.int ((v * 64 + (y &&& 63) : Nat) : Int)))
        have e : (v : Int) * 2 ^ (6 : Int).toNat = ((v * 64 : Nat) : Int) := by rw [Int.natCast_mul]; rfl
        rw [e, bitOr_nat, or_low _ _ (and63_lt y)]
    · refine Ex.last rfl (Ex1.ret (Ev.of (Ev.name rfl) ?_))
      show PV.int ((valOf (f0 &&& 63) fs : Nat) : Int) = .int ((valOf (0 * 64 + (f0 &&& 63)) fs : Nat) : Int)
      rw [Nat.zero_mul, Nat.zero_add]
end
end LW
namespace LW
section
variable {prog : Program} {w : World} {A : Around} {G H0 : Heap} {env : Env} {σ σ₂ σ₃ σc : Sy} {h h' : Heap} {M : List Addr} {m : Str → Option Value} {s : Shared}

/-- a store to a tuple of names -/
theorem assign_tup {tg value : PySem.Expr} {pos : Pos} {p : PV} {σ' : Sy} (he : Ev prog w G A env σ value p) (ht : Tgt prog w A G env σ tg p σ') (hs : swapsWithSole [tg] value pos.line env = pure false := by rfl)
    (hw : swappedStores [tg] value env = pure none := by rfl) (ha : (assignEach [tg] env).map (·.2) = [assign tg env] := by rfl) : Ex1 prog w A G env σ (.Assign [tg] value pos) (.nx σ') := .mk fun B s oa m Q E kg S q => by
  rw [exec_Assign_arm, hs, hw, ha]
  refine wpAny_bind (wpAny_standAt (wpAny_bind (wpAny_pure ?_)))
  rw [if_neg (by decide)]
  refine wpAny_bind (he.run s _ m _ _ (S.vars kg) fun v h' tk k r => ?_)
  refine wpAny_bind (wpAny_pure ?_)
  show wpAny _ A (do assignAll v [assign tg env]; pure .next) Q E _
  refine wpAny_bind ?_
  unfold assignAll
  refine ht.run B { s with heap := h', toks := tk } oa m v _ _ kg (S.keeps k) r fun h'' tk' S' => ?_
  exact wpAny_pure (q _ h'' tk' ⟨rfl, S'⟩)
end
end LW
namespace LW
/-- the goals of a town, and the ways that go one road on -/
noncomputable abbrev On := Town → List Town
noncomputable def hop (x : Way) (p : Town × Nat) : Way := (p.1, x.2.1 ||| 2 ^ p.1.val, x.2.2 * p.2)
noncomputable def kids (on : On) (x : Way) : List Way := ((on x.1).zipIdx 1).map (hop x)
noncomputable def run (on : On) : Nat → List Way → Nat → List Way
  | 0, ws, _ => ws
  | f + 1, ws, i => match ws[i]? with
    | none => ws
    | some x => run on f (ws ++ kids on x) (i + 1)
/-- how many ways start at a town, itself counted -/
noncomputable def treeN (on : On) : Nat → Town → Nat
  | 0, _ => 1
  | f + 1, t => 1 + ((on t).map (treeN on f)).sum
noncomputable def OnUp (on : On) : Prop := ∀ t, ∀ g ∈ on t, t < g
theorem treeN_fix {on : On} (hu : OnUp on) : ∀ (f : Nat) (t : Town), 7 ≤ f + t.val → treeN on (f + 1) t = treeN on f t
  | 0, t, h => absurd t.isLt (by omega)
  | f + 1, t, h => by
    show 1 + _ = 1 + _
    congr 2
    refine List.map_congr_left fun g hg => treeN_fix hu f g ?_
    have := hu t g hg
    have : t.val < g.val := this
    omega
noncomputable def sizeW (on : On) (l : List Way) : Nat := (l.map fun x => treeN on 7 x.1).sum
theorem kids_map (on : On) (x : Way) (g : Town → Nat) : ((kids on x).map fun y => g y.1).sum = ((on x.1).map g).sum := by
  unfold kids
  rw [List.map_map]
  have : ((fun y : Way => g y.1) ∘ hop x) = g ∘ Prod.fst := rfl
  rw [this, ← List.map_map, List.zipIdx_map_fst]
theorem sizeW_kids {on : On} (hu : OnUp on) (x : Way) : treeN on 7 x.1 = 1 + sizeW on (kids on x) := by
  unfold sizeW
  rw [kids_map on x (treeN on 7), ← treeN_fix hu 7 x.1 (by omega)]
  rfl
/-- the roads that go out of the towns from one on -/
noncomputable def outs (on : On) (k : Nat) : Nat := ((([0, 1, 2, 3, 4, 5, 6] : List Town).map fun u => (on u).length).drop k).sum
theorem sum_map_le {α : Type} {f g : α → Nat} : ∀ (l : List α), (∀ x ∈ l, f x ≤ g x) → (l.map f).sum ≤ (l.map g).sum
  | [], _ => Nat.le_refl _
  | x :: l, h => by
    rw [List.map_cons, List.map_cons, List.sum_cons, List.sum_cons]
    exact Nat.add_le_add (h x (List.mem_cons_self ..)) (sum_map_le l fun y hy => h y (List.mem_cons_of_mem _ hy))
theorem sum_drop_le : ∀ (n : Nat) (l : List Nat), (l.drop n).sum ≤ l.sum
  | 0, l => Nat.le_refl _
  | n + 1, [] => Nat.le_refl _
  | n + 1, x :: l => by
    have := sum_drop_le n l
    rw [List.drop_succ_cons, List.sum_cons]; omega
theorem outs_mono (on : On) {k j : Nat} (h : k ≤ j) : outs on j ≤ outs on k := by
  obtain ⟨d, rfl⟩ : ∃ d, j = k + d := ⟨j - k, by omega⟩
  unfold outs
  rw [← List.drop_drop]
  exact sum_drop_le _ _
theorem outs_step (on : On) (t : Town) : outs on t.val = (on t).length + outs on (t.val + 1) :=
  match t with
  | 0 | 1 | 2 | 3 | 4 | 5 | 6 => rfl
theorem sum_map_le_mul {α : Type} {f : α → Nat} {b : Nat} : ∀ (l : List α), (∀ x ∈ l, f x ≤ b) → (l.map f).sum ≤ l.length * b
  | [], _ => by simp
  | x :: l, h => by
    rw [List.map_cons, List.sum_cons, List.length_cons, Nat.succ_mul, Nat.add_comm]
    exact Nat.add_le_add (sum_map_le_mul l fun y hy => h y (List.mem_cons_of_mem _ hy)) (h x (List.mem_cons_self ..))
theorem succ_le_two_pow : ∀ d : Nat, 1 + d ≤ 2 ^ d
  | 0 => by decide
  | d + 1 => by have := succ_le_two_pow d; rw [Nat.pow_succ]; omega
theorem treeN_le {on : On} (hu : OnUp on) : ∀ (f : Nat) (t : Town), treeN on f t ≤ 2 ^ outs on t.val
  | 0, t => Nat.one_le_two_pow
  | f + 1, t => by
    show 1 + _ ≤ _
    have h1 := sum_map_le_mul (f := treeN on f) (b := 2 ^ outs on (t.val + 1)) (on t) fun g hg =>
      Nat.le_trans (treeN_le hu f g) (Nat.pow_le_pow_right (by decide) (outs_mono on (hu t g hg)))
    have h2 := succ_le_two_pow (on t).length
    have h3 : 1 ≤ 2 ^ outs on (t.val + 1) := Nat.one_le_two_pow
    rw [outs_step, Nat.pow_add]
    have h4 := Nat.mul_le_mul_right (2 ^ outs on (t.val + 1)) h2
    rw [Nat.add_mul, Nat.one_mul] at h4
    omega

/-- what stays true while the queue is worked off -/
structure WInv (on : On) (B : Nat) (ws : List Way) (i : Nat) : Prop where
  le : i ≤ ws.length
  size : i + sizeW on (ws.drop i) ≤ B
  times : ∀ x ∈ ws, x.2.2 * 2 ^ outs on x.1.val ≤ B
theorem one_le_tree (on : On) (f : Nat) (t : Town) : 1 ≤ treeN on f t := by cases f <;> simp [treeN]
theorem len_le_sizeW (on : On) : ∀ l : List Way, l.length ≤ sizeW on l
  | [] => Nat.le_refl _
  | x :: l => by
    have := len_le_sizeW on l
    have := one_le_tree on 7 x.1
    unfold sizeW at *
    rw [List.length_cons, List.map_cons, List.sum_cons]; omega
theorem sizeW_append (on : On) (a b : List Way) : sizeW on (a ++ b) = sizeW on a + sizeW on b := by unfold sizeW; rw [List.map_append, List.sum_append]
theorem WInv.len {on : On} {B : Nat} {ws : List Way} {i : Nat} (v : WInv on B ws i) : ws.length ≤ B := by
  have := len_le_sizeW on (ws.drop i)
  have := v.size
  have := v.le
  rw [List.length_drop] at *; omega
theorem drop_get {α : Type} {l : List α} {i : Nat} {x : α} (h : l[i]? = some x) : l.drop i = x :: l.drop (i + 1) := by
  obtain ⟨hi, rfl⟩ := List.getElem?_eq_some_iff.mp h
  exact List.drop_eq_getElem_cons hi
theorem WInv.step {on : On} (hu : OnUp on) {B : Nat} {ws : List Way} {i : Nat} {x : Way} (v : WInv on B ws i) (h : ws[i]? = some x) :
    WInv on B (ws ++ kids on x) (i + 1) ∧ (i + 1) + sizeW on ((ws ++ kids on x).drop (i + 1)) = i + sizeW on (ws.drop i) := by
  have hi : i < ws.length := (List.getElem?_eq_some_iff.mp h).1
  have e : (i + 1) + sizeW on ((ws ++ kids on x).drop (i + 1)) = i + sizeW on (ws.drop i) := by
    rw [List.drop_append_of_le_length (by omega), sizeW_append, drop_get h]
    have := sizeW_kids hu x
    unfold sizeW at *
    rw [List.map_cons, List.sum_cons]; omega
  refine ⟨⟨by rw [List.length_append]; omega, by rw [e]; exact v.size, fun y hy => ?_⟩, e⟩
  rcases List.mem_append.mp hy with hy | hy
  · exact v.times y hy
  · have hx := v.times x (List.mem_of_getElem? h)
    unfold kids at hy
    obtain ⟨⟨g, p⟩, hp, rfl⟩ := List.mem_map.mp hy
    have hm := List.mem_zipIdx hp
    have hg : g ∈ on x.1 := by rw [hm.2.2]; exact List.getElem_mem ..
    have hp' : p ≤ (on x.1).length := by omega
    have hup : x.1 < g := hu _ g hg
    refine Nat.le_trans ?_ hx
    show x.2.2 * p * 2 ^ outs on g.val ≤ _
    rw [outs_step on x.1, Nat.pow_add, Nat.mul_assoc]
    refine Nat.mul_le_mul_left _ (Nat.mul_le_mul ?_ (Nat.pow_le_pow_right (n := 2) (by decide) (outs_mono on (show x.1.val + 1 ≤ g.val from hup))))
    have := succ_le_two_pow (on x.1).length
    omega
end LW
namespace LW
/-- all ways that go on from a way -/
noncomputable def tree (on : On) : Nat → Way → List Way
  | 0, x => [x]
  | f + 1, x => x :: (kids on x).flatMap (tree on f)
theorem kids_up {on : On} (hu : OnUp on) {x y : Way} (h : y ∈ kids on x) : x.1 < y.1 := by
  obtain ⟨⟨g, p⟩, hp, rfl⟩ := List.mem_map.mp h
  have hm := List.mem_zipIdx hp
  exact hu _ g (by rw [hm.2.2]; exact List.getElem_mem ..)
theorem flatMap_congr' {α β : Type} {f g : α → List β} : ∀ (l : List α), (∀ x ∈ l, f x = g x) → l.flatMap f = l.flatMap g
  | [], _ => rfl
  | x :: l, h => by
    rw [List.flatMap_cons, List.flatMap_cons, h x (List.mem_cons_self ..), flatMap_congr' l fun y hy => h y (List.mem_cons_of_mem _ hy)]
theorem tree_fix {on : On} (hu : OnUp on) : ∀ (f : Nat) (x : Way), 7 ≤ f + x.1.val → tree on (f + 1) x = tree on f x
  | 0, x, h => absurd x.1.isLt (by omega)
  | f + 1, x, h => by
    show _ :: _ = _ :: _
    rw [flatMap_congr' (kids on x) fun y hy => tree_fix hu f y (by have := kids_up hu hy; have : x.1.val < y.1.val := this; omega)]
theorem tree_eq {on : On} (hu : OnUp on) (x : Way) : tree on 7 x = x :: (kids on x).flatMap (tree on 7) := by
  rw [← tree_fix hu 7 x (by omega)]; rfl
theorem run_perm {on : On} (hu : OnUp on) : ∀ (f : Nat) (ws : List Way) (i : Nat), i ≤ ws.length → sizeW on (ws.drop i) ≤ f →
    (run on f ws i).Perm (ws.take i ++ (ws.drop i).flatMap (tree on 7)) := by
  intro f
  induction f with
  | zero =>
    intro ws i hi hf
    have := len_le_sizeW on (ws.drop i)
    have e : ws.drop i = [] := List.length_eq_zero_iff.mp (by omega)
    have e2 : ws.take i = ws := List.take_of_length_le (List.drop_eq_nil_iff.mp e)
    rw [e, e2]; show ws.Perm _; simp
  | succ f ih =>
    intro ws i hi hf
    unfold run
    cases h : ws[i]? with
    | none =>
      have hl := List.getElem?_eq_none_iff.mp h
      have e : ws.drop i = [] := List.drop_eq_nil_iff.mpr hl
      have e2 : ws.take i = ws := List.take_of_length_le hl
      rw [e, e2]; simp
    | some x =>
      have hl := (List.getElem?_eq_some_iff.mp h).1
      have ed := drop_get h
      have ek := sizeW_kids hu x
      have hsz : sizeW on ((ws ++ kids on x).drop (i + 1)) ≤ f := by
        rw [List.drop_append_of_le_length (by omega), sizeW_append]
        rw [ed] at hf
        unfold sizeW at *
        rw [List.map_cons, List.sum_cons] at hf; omega
      refine (ih _ _ (by rw [List.length_append]; omega) hsz).trans ?_
      rw [List.take_append_of_le_length (by omega), List.drop_append_of_le_length (by omega), ed, List.flatMap_append, List.flatMap_cons, tree_eq hu x, List.take_add_one, h]
      simp only [Option.toList, List.append_assoc, List.cons_append, List.nil_append]
      exact List.Perm.append_left _ (List.Perm.cons _ List.perm_append_comm)
theorem run_more {on : On} (hu : OnUp on) : ∀ (f : Nat) (ws : List Way) (i : Nat), i ≤ ws.length → sizeW on (ws.drop i) ≤ f → run on (f + 1) ws i = run on f ws i := by
  intro f
  induction f with
  | zero =>
    intro ws i hi hf
    have := len_le_sizeW on (ws.drop i)
    have hd : ws.length ≤ i := by rw [List.length_drop] at this; omega
    unfold run
    rw [List.getElem?_eq_none_iff.mpr hd]
  | succ f ih =>
    intro ws i hi hf
    conv => lhs; unfold run
    conv => rhs; unfold run
    cases h : ws[i]? with
    | none => rfl
    | some x =>
      have hl := (List.getElem?_eq_some_iff.mp h).1
      refine ih _ _ (by rw [List.length_append]; omega) ?_
      have ek := sizeW_kids hu x
      rw [List.drop_append_of_le_length (by omega), sizeW_append]
      rw [drop_get h] at hf
      unfold sizeW at *
      rw [List.map_cons, List.sum_cons] at hf; omega
theorem run_step {on : On} (hu : OnUp on) {f : Nat} {ws : List Way} {i : Nat} {x : Way} (h : ws[i]? = some x) (hf : sizeW on (ws.drop i) ≤ f) : run on f ws i = run on f (ws ++ kids on x) (i + 1) := by
  have hl := (List.getElem?_eq_some_iff.mp h).1
  rw [← run_more hu f ws i (by omega) hf]
  conv => lhs; unfold run
  rw [h]
theorem run_end {on : On} {f : Nat} {ws : List Way} {i : Nat} (h : ws.length ≤ i) : run on f ws i = ws := by
  cases f with
  | zero => rfl
  | succ f => unfold run; rw [List.getElem?_eq_none_iff.mpr h]
end LW
namespace LW
section
variable {prog : Program} {w : World} {A : Around} {G H0 : Heap} {env : Env} {σ σ₂ σ₃ σc : Sy} {h h' : Heap} {M : List Addr} {m : Str → Option Value} {s : Shared}

/-- what `table.get_all(x)` gives, as a rule for every frame -/
structure GetAll (prog : Program) (w : World) (A : Around) (G : Heap) (C : Addr) (l : List PV) (on : On) : Prop where
  get : ∀ {env : Env} {σ : Sy} {o e : PySem.Expr} {apos pos : Pos} (t : Town), Ev prog w G A env σ o (.hdr C l) → EvL prog w G A env σ pos [e] [.str (nm t true)] →
    attributeBase o "get_all" env (eval o env) = eval o env → (apos.endLine == pos.line) = true → methodCallForm 1 (backTo pos (starEach [e] env)) [] = true → (∃ t rest, backTo pos (starEach [e] env) = (false, t) :: rest) →
    Ev prog w G A env σ (.Call (.Attribute o "get_all" apos) [e] [] pos) (.lst ((on t).map fun g => .str (nm g false)))
noncomputable def onward (on : On) : List (Str × PV) := towns.map fun t => (nm t false, .lst ((t :: on t).map fun g => .str (nm g false)))
noncomputable def wayS (C : Addr) (l : List PV) (on : On) (s : Town) (ws : List Way) (i : Nat) : Sy :=
  ⟨[("at", .im (.int (i : Nat))), ("ways", .ow (.lst (ws.map pvWay))), ("onward", .ow (.dct (onward on))), ("table", .im (.hdr C l)), ("start", .im (.str (nm s false)))], []⟩
theorem find_town : ∀ t : Town, Txt.find sevens (nm t false) = (t.val : Int) := by decide +kernel
theorem bits_two : ∀ t : Town, (Builtin.Int.intBits 2 : Int) * (t.val : Int) ≤ 2 ^ 27 := by decide +kernel
theorem pow_two : ∀ t : Town, (PV.int (2 ^ ((t.val : Int)).toNat)) = PV.int ((2 ^ t.val : Nat) : Int) := fun t => by rw [Int.toNat_natCast]; norm_cast
theorem foldl_dput {α : Type} (fk : α → Str) (f : α → PV) : ∀ (l : List α) (d : List (Str × PV)), (d.map (·.1) ++ l.map fk).Nodup → l.foldl (fun d a => dput d (fk a) (f a)) d = d ++ l.map fun a => (fk a, f a)
  | [], d, _ => by simp
  | a :: l, d, nd => by
    have ha : d.any (fun y => y.1 = fk a) = false := by
      rw [List.any_eq_false]
      intro y hy e
      rw [List.nodup_append] at nd
      exact nd.2.2 y.1 (List.mem_map.mpr ⟨y, hy, rfl⟩) (fk a) (by simp) (of_decide_eq_true e)
    have e : dput d (fk a) (f a) = d ++ [(fk a, f a)] := by unfold dput; rw [ha]; rfl
    rw [List.foldl_cons, e, foldl_dput fk f l _ (by simpa using nd)]
    simp
theorem enums_zip (ts : List Town) : enums (ts.map fun g => PV.str (nm g false)) = (ts.zipIdx.map fun x => PV.tup [.int ((x.2 : Nat) : Int), .str (nm x.1 false)]) := by
  unfold enums
  rw [List.mapIdx_eq_zipIdx_map, List.zipIdx_map, List.map_map]; rfl
theorem zip_pos (t : Town) (l : List Town) : (((t :: l).zipIdx).filter fun x => decide (0 < x.2)) = l.zipIdx 1 := by
  rw [List.zipIdx_cons, List.filter_cons, if_neg (by simp), Nat.zero_add]
  refine List.filter_eq_self.mpr fun x hx => ?_
  have := List.mem_zipIdx hx
  exact decide_eq_true (by omega)
theorem inj_zip : ∀ a b : Town × Nat, PV.tup [.int ((a.2 : Nat) : Int), .str (nm a.1 false)] = PV.tup [.int ((b.2 : Nat) : Int), .str (nm b.1 false)] → a = b := fun a b e => by
  have := PV.tup.inj e
  simp only [List.cons.injEq, PV.str.injEq, PV.int.injEq, and_true] at this
  exact Prod.ext (nm_inj _ _ _ _ this.2).1 (by omega)
theorem body_ways {L : Addr} {qual : Str} {fa : Addr} {code : Value} {C : Addr} {l : List PV} {on : On} {s : Town} (hA : A.handled = none) (hu : OnUp on) (ho : outs on 0 ≤ 20) (hg : GetAll prog w A G C l on)
    (hlen : BVal G "len" (.builtin "len")) (hen : BVal G "enumerate" (.type "enumerate")) :
    Ex prog w A G (fenv (dS 79) L qual fa code) ⟨[("table", .im (.hdr C l)), ("start", .im (.str (nm s false)))], []⟩ (dB 79) (.rt (.lst ((run on (2 ^ 20) [(s, 2 ^ s.val, 1)] 0).map pvWay)) []) := by
  refine Ex.step rfl (assign_dcomp (σc := ⟨[("table", .im (.hdr C l))], []⟩) (xs := towns.map fun t => .str (nm t false)) (fk := fun p => match p with | .str x => x | _ => "") (f := back (fun t => PV.str (nm t false)) (fun t => .lst ((t :: on t).map fun g => .str (nm g false))) .none) ⟨rfl, by decide +kernel, rfl, by decide +kernel, ⟨⟨rfl, .inl rfl, rfl, rfl⟩, trivial⟩, rfl, fun _ => rfl⟩ (It.towns (ts := towns) hA (Ev.of Ev.str (by rw [txt_towns]))) ?_ (by decide) rfl rfl) ?_
  · intro Cc p hp
    obtain ⟨t, ht, rfl⟩ := List.mem_map.mp hp
    refine ⟨⟨("town", .im (.str (nm t false))) :: _, []⟩, rfl, cons_fresh rfl, CTgt.name, Ev.name rfl, ?_⟩
    rw [back_eq (fun a b e => (nm_inj _ _ _ _ (PV.str.inj e)).1)]
    refine EvN.ev (EvN.of (EvN.addL (ps := [.str (nm t false)]) (Ev.rd (EvN.ev (EvN.list (EvL.cons (Ev.name rfl) EvL.nil)))) (Ev.rd (hg.get t (Ev.name rfl) (EvL.cons ?_ EvL.nil) rfl rfl rfl ⟨_, _, rfl⟩)) ?_) ?_)
    · exact Ev.of (Ev.m0 (Me0.upper (by rw [nm_upper]; rfl)) (Ev.rd (Ev.name rfl))) (by rw [nm_upper])
    · rw [List.length_map]
      have := outs_step on t
      have := outs_mono on (Nat.zero_le t.val)
      exact Nat.le_trans (show 1 + (on t).length ≤ 21 by omega) (by decide)
    · rfl
  refine Ex.step rfl (Ex1.assignN (p := .lst [pvWay (s, 2 ^ s.val, 1)]) (EvN.list (EvL.cons (Ev.tuple (EvL.cons (Ev.name rfl) (EvL.cons ?_ (EvL.cons Ev.int EvL.nil)))) EvL.nil))) ?_
  · exact Ev.of (Ev.powI Ev.int (Ev.m1 Me1.find (Ev.rd Ev.str) (Ev.rd (Ev.name rfl))) (by rw [find_town]; omega) (by rw [find_town]; exact bits_two s)) (by rw [find_town]; exact pow_two s)
  refine Ex.step rfl (Ex1.assign Ev.int) ?_
  refine Ex.step rfl (while_ind (σ' := wayS C l on s (run on (2 ^ 20) [(s, 2 ^ s.val, 1)] 0) (run on (2 ^ 20) [(s, 2 ^ s.val, 1)] 0).length) (fun x : List Way × Nat => wayS C l on s x.1 x.2) (fun x => decide (x.2 < x.1.length)) (fun x => (x.1 ++ kids on (x.1.getD x.2 (0, 0, 0)), x.2 + 1)) (fun x => (run on (2 ^ 20) x.1 x.2, (run on (2 ^ 20) x.1 x.2).length)) (fun x => sizeW on (x.1.drop x.2)) (fun x => WInv on (2 ^ 20) x.1 x.2) ([(s, 2 ^ s.val, 1)], 0) ?_ ?_ rfl ?_ ?_ ?_ ?_) ?_
  · refine ⟨Nat.zero_le _, ?_, ?_⟩
    · have := treeN_le hu 7 s
      have h2 := Nat.pow_le_pow_right (n := 2) (by decide) (Nat.le_trans (outs_mono on (Nat.zero_le s.val)) ho)
      show 0 + (treeN on 7 s + 0) ≤ _
      omega
    · intro x hx
      rw [List.mem_singleton] at hx
      subst hx
      have h2 := Nat.pow_le_pow_right (n := 2) (by decide) (Nat.le_trans (outs_mono on (Nat.zero_le s.val)) ho)
      show 1 * 2 ^ outs on s.val ≤ _
      omega
  · have : List.foldl (fun d p => dput d (match p with | PV.str x => x | _ => "") (back (fun t => PV.str (nm t false)) (fun t => PV.lst (List.map (fun g => PV.str (nm g false)) (t :: on t))) PV.none p)) [] (List.map (fun t => PV.str (nm t false)) towns) = onward on := by
      rw [List.foldl_map]
      simp only [back_eq (inj := fun t : Town => PV.str (nm t false)) (fun a b e => (nm_inj _ _ _ _ (PV.str.inj e)).1)]
      rw [foldl_dput (fun t : Town => nm t false) (fun t => PV.lst (List.map (fun g => PV.str (nm g false)) (t :: on t))) towns [] (by decide +kernel)]
      rfl
    rw [this]; rfl
  · intro x v hc
    have hlt : x.2 < x.1.length := of_decide_eq_true hc
    obtain ⟨y, hy⟩ : ∃ y, x.1[x.2]? = some y := ⟨_, List.getElem?_eq_getElem hlt⟩
    have hgd : x.1.getD x.2 (0, 0, 0) = y := by rw [List.getD_eq_getElem?_getD, hy]; rfl
    have h1 := v.step hu hy
    have hsz : sizeW on (x.1.drop x.2) ≤ 2 ^ 20 := by have := v.size; omega
    refine ⟨by rw [hgd]; exact h1.1, ?_, ?_⟩
    · show sizeW on ((x.1 ++ kids on (x.1.getD x.2 (0, 0, 0))).drop (x.2 + 1)) < sizeW on (x.1.drop x.2)
      rw [hgd]; omega
    · show (_, _) = (_, _)
      rw [hgd, run_step hu hy hsz]
  · intro x v hc
    have hle : x.1.length ≤ x.2 := Nat.le_of_not_lt (of_decide_eq_false hc)
    have := v.le
    show (_, _) = x
    rw [run_end hle]
    exact Prod.ext rfl (by show x.1.length = x.2; omega)
  · intro x v
    refine Tst.of (Tst.cmp CmpOk.ltI (Ev.rd (Ev.name rfl)) (Ev.rd (Ev.callB (C1.lenL (ps := x.1.map pvWay) ?_) (Ev.bi hlen rfl) (Rd.own rfl)))) ?_
    · rw [List.length_map]
      have := v.len
      exact Nat.lt_of_le_of_lt this (by decide)
    · rw [List.length_map, Bool.eq_iff_iff]; simp
  · intro x v hc
    have hlt : x.2 < x.1.length := of_decide_eq_true hc
    obtain ⟨y, hy⟩ : ∃ y, x.1[x.2]? = some y := ⟨_, List.getElem?_eq_getElem hlt⟩
    have hgd : x.1.getD x.2 (0, 0, 0) = y := by rw [List.getD_eq_getElem?_getD, hy]; rfl
    have h1 := (v.step hu hy).1.len
    have hlen20 := v.len
    have hx63 : ((x.2 : Nat) : Int) < 2 ^ 63 := by
      have : (x.2 : Int) < 2 ^ 20 + 1 := by
        have := v.le
        omega
      exact Int.lt_trans this (by decide)
    have hon : (on y.1).length ≤ 20 := by
      have := outs_step on y.1
      have := outs_mono on (Nat.zero_le y.1.val)
      omega
    show Ex _ _ _ _ _ _ _ (.nx (wayS C l on s (x.1 ++ kids on (x.1.getD x.2 (0, 0, 0))) (x.2 + 1)))
    rw [hgd]
    refine Ex.step rfl (assign_tup (p := pvWay y) (Ev.sub (ItOk.lst (ps := x.1.map pvWay) (k := ((x.2 : Nat) : Int)) (by omega) ?_ hx63) (Rd.own rfl) (Ev.rd (Ev.name rfl))) (Tgt.three hA)) ?_
    · rw [Int.toNat_natCast, List.getElem?_map, hy]; rfl
    refine Ex.step rfl (Ex1.extend (qs := (kids on y).map pvWay) rfl (EvN.ev ?_) ?_) ?_
    · have key : (kids on y).map pvWay = (((y.1 :: on y.1).zipIdx).filter fun z => decide (0 < z.2)).map fun z => pvWay (hop y z) := by
        rw [zip_pos]; unfold kids; rw [List.map_map]; rfl
      rw [key]
      refine EvN.compM (σc := ⟨[("met", .im (.int (y.2.1 : Nat))), ("times", .im (.int (y.2.2 : Nat)))], []⟩) inj_zip ⟨rfl, by decide +kernel, rfl, by decide +kernel, ⟨⟨rfl, .inl rfl, rfl, rfl⟩, ⟨rfl, .inl rfl, rfl, rfl⟩, trivial⟩, rfl, fun _ => rfl⟩ ?_ ?_ ?_
      · rw [← enums_zip]
        refine It.enumL hA (Ev.bi hen rfl) (Ev.sub (ItOk.dct (ps := onward on) (x := nm y.1 false) ?_) (Rd.own rfl) (Ev.rd (Ev.name rfl)))
        exact lookup_towns (fun t => PV.lst ((t :: on t).map fun g => .str (nm g false))) ((towns_take 7 (by decide) y.1).mpr y.1.isLt)
      · intro Cc z hz
        refine ⟨⟨("goal", .im (.str (nm z.1 false))) :: ("place", .im (.int (z.2 : Nat))) :: _, []⟩, rfl, cons_fresh2 rfl rfl, CTgt.two hA, ?_, fun hg => ?_⟩
        · refine Tst.of (Tst.cmp CmpOk.gtI (Ev.rd (Ev.name rfl)) (Ev.rd Ev.int)) ?_
          rw [Bool.eq_iff_iff]; simp
        · have hz2 : z.2 < 2 ^ 62 := by
            have := (List.mem_zipIdx hz).2.1
            rw [List.length_cons] at this
            exact Nat.lt_of_lt_of_le (show z.2 < 22 by omega) (by decide)
          refine Ev.tuple (EvL.cons (Ev.name rfl) (EvL.cons (Ev.of (p := .int (Builtin.bitOr ((y.2.1 : Nat) : Int) ((2 ^ z.1.val : Nat) : Int))) (Ev.orI (Ev.name rfl) (Ev.of (Ev.powI Ev.int (Ev.m1 Me1.find (Ev.rd Ev.str) (Ev.rd (Ev.name rfl))) (by rw [find_town]; omega) (by rw [find_town]; exact bits_two z.1)) (by rw [find_town]; exact pow_two z.1))) (by rw [bitOr_nat]; rfl)) (EvL.cons (Ev.mulN (Ev.name rfl) (Ev.name rfl) (mul_small hz2)) EvL.nil)))
      · rw [List.length_zipIdx, List.length_cons]
        exact Nat.le_trans (show (on y.1).length + 1 ≤ 21 by omega) (by decide)
    · rw [List.length_map, List.length_map]
      rw [List.length_append] at h1
      exact Nat.le_trans h1 (by decide)
    · refine Ex.post (Ex.step rfl (Ex1.aug IpOk.addI rfl Ev.int) (Ex.done rfl)) ⟨rfl, ?_, rfl, rfl, rfl, trivial⟩
      show some (LV.ow (.lst (x.1.map pvWay ++ (kids on y).map pvWay))) = some (LV.ow (.lst ((x.1 ++ kids on y).map pvWay)))
      rw [List.map_append]
  · exact Ex.last rfl (Ex1.retOwn rfl)
end
end LW
namespace LW

theorem plainAttrs_pat : PlainAttrs "re.Pattern" :=
  ⟨⟨"object.__getattribute__", by rw [typeLookup_type, builtinLookup_eq_fast]; kernel_rfl, by decide +kernel⟩, by rw [typeLookup_type, builtinLookup_eq_fast]; kernel_rfl⟩
theorem slot_search : PySem.Slot "re.Pattern" "search" "re.Pattern.search" :=
  PySem.Slot.of (owner := "re.Pattern") (n := "search") (by rw [typeLookup_type, builtinLookup_eq_fast]; kernel_rfl) (by decide +kernel) (by decide +kernel) (by decide +kernel) (.inr (by decide +kernel)) (by rw [isSubtype_type]; kernel_rfl)
theorem type_search : typeOf (.builtin "re.Pattern.search") = pure (.type "method_descriptor") := by show builtinType _ = _; rw [builtinType_eq_fast]; kernel_rfl
theorem entry_search : entryFor table "re.Pattern.search" = some Builtin.«re.Pattern.search» := entryFor_of_tree (by kernel_rfl)
theorem args_search (a b : Value) : argsOk "re.Pattern.search" ⟨[a, b], []⟩ := by unfold argsOk; kernel_rfl

/-- the machine's turns, in plain form -/
noncomputable def drives : Nat → Sre.M → Option Sre.M
  | 0, _ => none
  | k + 1, m => if (m.runFor Builtin.Re.reTurnSteps).outcome.isSome then some (m.runFor Builtin.Re.reTurnSteps) else drives k (m.runFor Builtin.Re.reTurnSteps)
theorem drive_ok {M : Model} {A : Around} {E : Value → Shared → Prop} {s : Shared} {Q : Sre.M → Shared → Prop} : ∀ (k n : Nat) (m m' : Sre.M), k ≤ n → drives k m = some m' → Q m' s → wpAny M A (Builtin.Re.reDrive n m) Q E s
  | 0, _, _, _, _, h, _ => by cases h
  | k + 1, 0, _, _, h, _, _ => by omega
  | k + 1, n + 1, m, m', hk, h, q => by
    unfold drives at h
    unfold Builtin.Re.reDrive
    by_cases ho : (m.runFor Builtin.Re.reTurnSteps).outcome.isSome = true
    · rw [if_pos ho] at h ⊢
      cases h
      exact wpAny_pure q
    · rw [if_neg ho] at h ⊢
      exact wpAny_bind (wpAny_rule (drive_ok k n _ _ (by omega) h q))
theorem rules_ok {M : Model} {A : Around} {E : Value → Shared → Prop} {s : Shared} {Q : PUnit → Shared → Prop} (m : Sre.M) (q : Q ⟨⟩ s) : ∀ l : List Nat, wpAny M A (forIn l PUnit.unit fun i _ => if m.seen.has i = true then do rule (Sre.names.getD i ""); pure (ForInStep.yield PUnit.unit) else pure (ForInStep.yield PUnit.unit)) Q E s
  | [] => by rw [List.forIn_nil]; exact wpAny_pure q
  | i :: l => by
    rw [List.forIn_cons]
    refine wpAny_bind ?_
    split
    · exact wpAny_bind (wpAny_rule (wpAny_pure (rules_ok m q l)))
    · exact wpAny_pure (rules_ok m q l)
/-- a text in which a pattern is not found -/
noncomputable def reNoB (code text : Array Nat) : Bool := match drives 30 (Sre.forSearch code text 0 0 text.size false) with
  | some m => match m.outcome with | some .failed => true | _ => false
  | none => false
noncomputable def reNo (code text : Array Nat) : Prop := ∃ m', drives 30 (Sre.forSearch code text 0 0 text.size false) = some m' ∧ m'.outcome = some .failed
theorem reNo_of {code text : Array Nat} (h : reNoB code text = true) : reNo code text := by
  unfold reNoB at h
  split at h
  · rename_i m hm
    refine ⟨m, hm, ?_⟩
    split at h
    · assumption
    · cases h
  · cases h
theorem search_tree {prog : Program} {w : World} {A : Around} {E : Value → Shared → Prop} {s : Shared} {a c : Addr} {o oc : Obj} {p f : Value} {t : Tok} {x : Str} {items : Array Value} {n : Nat} {t1 t2 : Tok} {Q : Fin → Shared → Prop} (ho : s.heap.get? a = some o)
    (hd : o.data = .fields #[p, f, .int 0 t1, .none, .none, .ref c, .int 0 t2]) (hc : s.heap.get? c = some oc) (hcd : oc.data = .seq items n) (hno : reNo ((items.map Builtin.Re.reRawOf).map (·.toNat)) x.cps) (hx : x.cps.size < 2 ^ 63) (q : Q (.done (.ret .none)) s) :
    wpAny (model prog w) A (Builtin.«re.Pattern.search» ⟨[.ref a, .str x t], []⟩) Q E s := by
  unfold Builtin.«re.Pattern.search» Builtin.Re.reTarget
  dsimp only
  repeat wp_step
  rw [hd]
  refine wpAny_pure ?_
  unfold Builtin.Re.reTextOf Builtin.Re.reNoCollectionInside Builtin.Re.reRawItems
  repeat wp_step
  rw [hcd]
  refine wpAny_pure (wpAny_pure (wpAny_pure ?_))
  obtain ⟨m', h1, h2⟩ := hno
  have e1 : min (2 ^ 63 - 1 : Int).toNat x.cps.size = x.cps.size := by
    have : (2 ^ 63 - 1 : Int).toNat = 9223372036854775807 := by decide
    rw [this]; omega
  have e2 : min (Int.toNat 0) x.cps.size = 0 := by simp
  show wpAny _ _ (Builtin.Re.reAnswer _ (Sre.forSearch ((items.map Builtin.Re.reRawOf).map (·.toNat)) x.cps 0 (min (Int.toNat 0) x.cps.size) (min (2 ^ 63 - 1 : Int).toNat x.cps.size) false)) _ _ _
  rw [e1, e2]
  unfold Builtin.Re.reAnswer Builtin.Re.reRunToEnd
  refine wpAny_bind (wpAny_bind (drive_ok 30 _ _ m' (by decide) h1 (wpAny_bind (rules_ok m' ?_ _))))
  rw [h2]
  exact wpAny_pure (wpAny_pure q)

/-- a pattern of the module, by its code -/
inductive PatAt (G : Heap) (a : Addr) (code : Array Nat) : Prop
  | mk (o : Obj) (p f : Value) (t1 t2 : Tok) (c : Addr) (oc : Obj) (items : Array Value) (n) (h1 : G.get? a = some o) (h2 : o.cls = .type "re.Pattern") (h3 : o.dict = none) (h4 : o.data = .fields #[p, f, .int 0 t1, .none, .none, .ref c, .int 0 t2]) (h5 : G.get? c = some oc)
    (h6 : oc.data = .seq items n) (h7 : (items.map Builtin.Re.reRawOf).map (·.toNat) = code)
section
variable {prog : Program} {w : World} {A : Around} {G H0 : Heap} {env : Env} {σ σ₂ σ₃ σc : Sy} {h h' : Heap} {M : List Addr} {m : Str → Option Value} {s : Shared}
theorem PatAt.mono {F F' : Heap} (k : Kp F F') {a : Addr} {code : Array Nat} (x : PatAt F a code) : PatAt F' a code := by
  refine LW.hideGoal fun GG hGG => ?_
  obtain ⟨o, p, f, t1, t2, c, oc, items, n, h1, h2, h3, h4, h5, h6, h7⟩ := x
  refine hGG ?_
  clear hGG GG
  exact ⟨o, p, f, t1, t2, c, oc, items, n, k _ _ h1, h2, h3, h4, k _ _ h5, h6, h7⟩
theorem Ev.search {o e : PySem.Expr} {apos pos : Pos} {a : Addr} {code : Array Nat} {x : Str} (hP : PatAt H0 a code) (hno : reNo code x.cps) (hx : x.cps.size < 2 ^ 63) (ho : Ev prog w H0 A env σ o (.raw (.ref a))) (he : Ev prog w H0 A env σ e (.str x))
    (hbase : attributeBase o "search" env (eval o env) = eval o env := by rfl) (hline : (apos.endLine == pos.line) = true := by rfl) (hse : starEach [e] env = [(false, eval e env)] := by rfl) : Ev prog w H0 A env σ (.Call (.Attribute o "search" apos) [e] [] pos) .none := .mk fun s M m Q E V q =>
  Call_method1 hbase hse hline (ho.run s M m _ _ V fun v h₁ t₁ k₁ r => by
    refine LW.hideGoal fun GG hGG => ?_
    obtain rfl : v = .ref a := r
    obtain ⟨ob, p, f, t1, t2, c, oc, items, n, h1, h2, h3, h4, h5, h6, h7⟩ := PatAt.mono (V.kp.trans k₁) hP
    refine hGG ?_
    clear hGG GG
    refine ⟨"re.Pattern", "re.Pattern.search", plainAttrs_pat, slot_search, type_search, ⟨ob, h1, h2⟩, fun a' e' => by cases e'; exact ⟨ob, h1, h3⟩, ?_⟩
    refine method1_meetsIn slot_search entry_search (he.run { s with heap := h₁, toks := t₁ } M m _ _ (V.keeps k₁) fun v h₂ t₂ k₂ rv => ?_)
    obtain ⟨t, rfl⟩ := rv
    refine ⟨⟨ob, k₂ _ _ h1, h2⟩, args_search _ _, fun A R s => s.heap.get? a = some ob ∧ s.heap.get? c = some oc ∧ R (.ok (.ret .none)) s, fun A R s hs => ?_, k₂ _ _ h1, k₂ _ _ h5, ?_⟩
    · exact search_tree hs.1 h4 hs.2.1 h6 (by rw [h7]; exact hno) hx hs.2.2
    · exact q _ h₂ t₂ (k₁.trans k₂) rfl)
end
noncomputable def nameCode : Array Nat := #[14, 10, 4, 1, 1, 22, 0, 31, 16, 127, 0, 13, 7, 22, 0, 31, 16, 127, 0, 1]
noncomputable def valueCode : Array Nat := #[14, 14, 4, 1, 1, 9, 4294966783, 0, 0, 2147483648, 0, 0, 0, 0, 0, 13, 11, 9, 4294966783, 0, 0, 2147483648, 0, 0, 0, 0, 0, 1]
theorem no_name : ∀ (t : Town) (b : Bool), reNoB nameCode (nm t b).cps = true := by decide +kernel
theorem no_value : ∀ (t : Town) (b : Bool), reNoB valueCode (nm t b).cps = true := by decide +kernel
end LW
namespace LW

noncomputable def cB : List Stmt := match (pB[6]? : Option Stmt) with | some (.ClassDef _ _ _ b _ _ _ _ _ _ _) => b | _ => []
noncomputable def hA (i : Nat) : Arguments := match cB[i]? with | some (.FunctionDef _ a _ _ _ _ _ _ _ _) => a | _ => default
noncomputable def hB (i : Nat) : List Stmt := match cB[i]? with | some (.FunctionDef _ _ b _ _ _ _ _ _ _) => b | _ => []
noncomputable def hS (i : Nat) : Scope := match cB[i]? with | some (.FunctionDef _ _ _ _ _ _ s _ _ _) => s | _ => default

/-- the class of the tables, with its methods' addresses -/
inductive ClsIt (G : Heap) (C : Addr) (mt : Str → Option Addr) : Prop
  | mk (nm q N bs sn sub col dd k0 k1 k2 k3 k5) (mN : Str → Option Value) (h1 : G.get? C = some (excClassObj nm q C N bs [.type "object"] true sn sub false col dd k0 k1 k2 k3 k5 "object.__new__")) (h2 : G.Ns N mN) (h3 : mN "__getattribute__" = none)
    (h4 : mN "__getattr__" = none) (h5 : mN "__setattr__" = none) (h6 : mN "_headers" = none) (h7 : ∀ x f, mt x = some f → mN x = some (.ref f))
structure HCls (G : Heap) (C : Addr) (mt : Str → Option Addr) : Prop where
  cls : ClsIt G C mt
  fn : ∀ x f, mt x = some f → ∃ o fd, G.get? f = some o ∧ o.cls = .type "function" ∧ o.data = .func fd
noncomputable def MethR (G : Heap) (mt : Str → Option Addr) (name : Str) (i : Nat) : Prop := ∃ f, mt name = some f ∧ FunR G f (hA i) (hB i) (hS i) .none
noncomputable def MethD (G : Heap) (mt : Str → Option Addr) (name : Str) (i : Nat) : Prop := ∃ f T o n, mt name = some f ∧ FunR G f (hA i) (hB i) (hS i) (.ref T) ∧ G.get? T = some o ∧ o.data = .seq #[.none] n

theorem FunR.mono {F F' : Heap} (k : Kp F F') {a : Addr} {ps : Arguments} {body : List Stmt} {sc : Scope} {dflt : Value} (x : FunR F a ps body sc dflt) : FunR F' a ps body sc dflt := by
  refine LW.hideGoal fun GG hGG => ?_
  obtain ⟨⟨o, nm, q, kd, doc, pm, an, code, ct, h1, h2, h3, h4, h5⟩, hl⟩ := x
  refine hGG ?_
  clear hGG GG
  exact ⟨⟨o, nm, q, kd, doc, pm, an, code, ct, k _ _ h1, h2, h3, h4, h5.keeps k⟩, hl.keeps k⟩
theorem HCls.mono {F F' : Heap} (k : Kp F F') {C : Addr} {mt : Str → Option Addr} (x : HCls F C mt) : HCls F' C mt := by
  refine LW.hideGoal fun GG hGG => ?_
  obtain ⟨⟨nm, q, N, bs, sn, sub, col, dd, k0, k1, k2, k3, k5, mN, h1, h2, h3, h4, h5, h6, h7⟩, hf⟩ := x
  refine hGG ?_
  clear hGG GG
  exact ⟨⟨nm, q, N, bs, sn, sub, col, dd, k0, k1, k2, k3, k5, mN, k _ _ h1, h2.keeps k, h3, h4, h5, h6, h7⟩, fun x f e => let ⟨o, fd, h1, h2⟩ := hf x f e; ⟨o, fd, k _ _ h1, h2⟩⟩
theorem MethR.mono {F F' : Heap} (k : Kp F F') {mt : Str → Option Addr} {name : Str} {i : Nat} (x : MethR F mt name i) : MethR F' mt name i := let ⟨f, h1, h2⟩ := x; ⟨f, h1, h2.mono k⟩
theorem MethD.mono {F F' : Heap} (k : Kp F F') {mt : Str → Option Addr} {name : Str} {i : Nat} (x : MethD F mt name i) : MethD F' mt name i := let ⟨f, T, o, n, h1, h2, h3, h4⟩ := x; ⟨f, T, o, n, h1, h2.mono k, k _ _ h3, h4⟩
theorem GVal.mono {F F' : Heap} (k : Kp F F') {x : Str} {v : Value} (h : GVal F x v) : GVal F' x v := let ⟨mg, h1, h2⟩ := h; ⟨mg, h1.keeps k, h2⟩
theorem BVal.mono {F F' : Heap} (k : Kp F F') {x : Str} {v : Value} (h : BVal F x v) : BVal F' x v := let ⟨mg, mb, h1, h2, h3, h4⟩ := h; ⟨mg, mb, h1.keeps k, h2, h3.keeps k, h4⟩

section
variable {prog : Program} {w : World} {A : Around} {G H0 : Heap} {env : Env} {σ σ₂ σ₃ σc : Sy} {h h' : Heap} {M : List Addr} {m : Str → Option Value} {s : Shared} {C i a : Addr} {mt : Str → Option Addr} {E : Value → Shared → Prop}

theorem getMethod_h {pl : Sem Bool} {name : Str} {f : Addr} {y : Option Value} {Q : Value × List Value → Shared → Prop} (H : HCls G C mt) (k : Kp G s.heap) (I : IsHdr s.heap C i a) (hf : mt name = some f) (hne : name ≠ "_headers")
    (hB : typeLookup (.type "object") name = pure y) (q : Q (.ref f, [.ref i]) s) : wpAny (model prog w) A (getMethod (.ref i) name pl) Q E s := by
  refine LW.hideGoal fun GG hGG => ?_
  obtain ⟨⟨nm, q', N, bs, sn, sub, col, dd, k0, k1, k2, k3, k5, mN, h1, h2, h3, h4, h5, h6, h7⟩, hfn⟩ := H.mono k
  obtain ⟨of, fd, e1, e2, _⟩ := hfn name f hf
  obtain ⟨hh, g, d, t, os⟩ := s
  refine hGG ?_
  clear hGG GG
  exact method_of h1 h2 h3 h4 (h7 _ _ hf) e1 e2 hB I (by unfold fieldMap; rw [if_neg hne]) q
theorem getAttr_h {expr : Bool} {Q : Value → Shared → Prop} (H : HCls G C mt) (k : Kp G s.heap) (I : IsHdr s.heap C i a) (q : Q (.ref a) { s with toks := s.toks + 1 }) : wpAny (model prog w) A (getAttr (.ref i) "_headers" expr) Q E s := by
  refine LW.hideGoal fun GG hGG => ?_
  obtain ⟨⟨nm, q', N, bs, sn, sub, col, dd, k0, k1, k2, k3, k5, mN, h1, h2, h3, h4, h5, h6, h7⟩, hfn⟩ := H.mono k
  obtain ⟨hh, g, d, t, os⟩ := s
  refine hGG ?_
  clear hGG GG
  exact load_attr h1 h2 h3 h6 (by rw [typeLookup_type, builtinLookup_eq_fast]; kernel_rfl) I (by unfold fieldMap; rw [if_pos rfl]) rfl q
theorem ownSpecial_h {name : Str} {f : Addr} {y : Option Value} (H : HCls G C mt) (k : Kp G h) (I : IsHdr h C i a) (hf : mt name = some f) (hB : typeLookup (.type "object") name = pure y) : h.OwnSpecial i C f "object" name := by
  refine LW.hideGoal fun GG hGG => ?_
  obtain ⟨⟨nm, q', N, bs, sn, sub, col, dd, k0, k1, k2, k3, k5, mN, h1, h2, h3, h4, h5, h6, h7⟩, hfn⟩ := H.mono k
  obtain ⟨of, fd, e1, e2, _⟩ := hfn name f hf
  obtain ⟨o, i1, i2, _⟩ := I
  refine hGG ?_
  clear hGG GG
  exact ⟨o, of, nm, q', N, bs, _, true, sn, sub, false, col, dd, k0, k1, k2, k3, k5, _, mN, y, i1, i2, h1, h2, h7 _ _ hf, e1, e2, PySem.F.mro_object, hB⟩
theorem seqKey_h {key : Value} {name : Str} {Q : Value → Shared → Prop} (H : HCls G C mt) (k : Kp G s.heap) (I : IsHdr s.heap C i a) (q : Q key s) : wpAny (model prog w) A (sequenceKey (.ref i) key name) Q E s := by
  refine LW.hideGoal fun GG hGG => ?_
  obtain ⟨⟨nm, q', N, bs, sn, sub, col, dd, k0, k1, k2, k3, k5, mN, h1, h2, _⟩, hfn⟩ := H.mono k
  obtain ⟨o, i1, i2, _⟩ := I
  obtain ⟨hh, g, d, t, os⟩ := s
  refine hGG ?_
  clear hGG GG
  unfold sequenceKey
  refine wpAny_bind (wpAny_typeOf_ref i1 ?_)
  rw [i2]
  dsimp only
  have none_ : ∀ (l : List String) (Q : Bool → Shared → Prop), (∀ x ∈ l, x ≠ "object") → Q false ⟨hh, g, d, t, os⟩ → wpAny (model prog w) A (l.anyM fun n => isSubtype (.ref C) (.type n)) Q E ⟨hh, g, d, t, os⟩ := by
    intro l
    induction l with
    | nil => intro Q _ q; exact wpAny_pure q
    | cons n l ih =>
      intro Q hl q
      rw [List.anyM_cons]
      refine wpAny_bind (wpAny_isSubtype_exc h1 ?_)
      have : (Value.ref C :: [Value.type "object"]).contains (.type n) = false := by
        have := hl n List.mem_cons_self
        simp [this]
      rw [this]
      exact ih Q (fun x hx => hl x (List.mem_cons_of_mem _ hx)) q
  refine wpAny_bind (none_ _ _ (by decide) ?_)
  exact wpAny_pure q
end
end LW
namespace LW
section
variable {prog : Program} {w : World} {A : Around} {G H0 : Heap} {env : Env} {σ σ₂ σ₃ σc : Sy} {h h' : Heap} {M : List Addr} {m : Str → Option Value} {s : Shared} {C i a : Addr} {mt : Str → Option Addr} {E : Value → Shared → Prop}

/-- a call's arguments -/
structure EvA (prog : Program) (w : World) (H0 : Heap) (A : Around) (env : Env) (σ : Sy) (pos : Pos) (es : List PySem.Expr) (kws : List Keyword) (ps : List PV) (pks : List (Str × PV)) : Prop where
  run : ∀ (s : Shared) (M : List Addr) (m : Str → Option Value) (f : Value) (Q : Args → Shared → Prop) (E : Value → Shared → Prop), Vars prog w H0 s.heap M env σ m →
    (∀ vs kvs h' tk, Kp s.heap h' → RepVs prog w (hid h' M) ps vs → RepKs prog w (hid h' M) pks kvs → Q ⟨vs, kvs⟩ { s with heap := h', toks := tk }) → wpAny (model prog w) A (evalArgs f true (backTo pos (starEach es env)) (backToKw pos (keywordEach kws env))) Q E s
theorem EvA.none {pos : Pos} : EvA prog w H0 A env σ pos [] [] [] [] := .mk fun s M m f Q E V q => PySem.evalArgs_none (q [] [] s.heap s.toks Kp.rfl rfl rfl)
theorem EvA.pos {pos : Pos} {es : List PySem.Expr} {ps : List PV} (he : EvL prog w H0 A env σ pos es ps) (hform : ∃ t rest, backTo pos (starEach es env) = (false, t) :: rest := by exact ⟨_, _, rfl⟩) : EvA prog w H0 A env σ pos es [] ps [] := .mk fun s M m f Q E V q => by
  obtain ⟨t, rest, hf⟩ := hform
  have key := he.run s M m (fun vs s' => Q ⟨vs, []⟩ s') E V fun vs h' tk k r => q vs [] h' tk k r rfl
  show wpAny _ _ (evalArgs f true (backTo pos (starEach es env)) []) _ _ _
  rw [hf] at key ⊢
  exact Calls.evalArgs_plain key
theorem EvA.kw1 {pos kp : Pos} {es : List PySem.Expr} {ps : List PV} {n : Str} {c : PySem.Expr} {p : PV} (he : EvL prog w H0 A env σ pos es ps) (hc : Ev prog w H0 A env σ c p) (hform : ∃ t rest, backTo pos (starEach es env) = (false, t) :: rest := by exact ⟨_, _, rfl⟩) :
    EvA prog w H0 A env σ pos es [⟨some n, c, kp⟩] ps [(n, p)] := .mk fun s M m f Q E V q => by
  obtain ⟨t, rest, hf⟩ := hform
  have key := he.run s M m (fun vs s' => wpAny (model prog w) A (evalAll ((backToKw pos (keywordEach [⟨some n, c, kp⟩] env)).map (·.2))) (fun ks s₂ => Q ⟨vs, ((backToKw pos (keywordEach [⟨some n, c, kp⟩] env)).filterMap (·.1)).zip ks⟩ s₂) E s') E V fun vs h₁ t₁ k₁ r₁ => by
    refine wpAny_evalAll_cons (wpAny_bind (hc.run { s with heap := h₁, toks := t₁ } M m _ _ (V.keeps k₁) fun v h₂ t₂ k₂ r₂ => ?_))
    refine wpAny_bind (wpAny_standAt (wpAny_pure (wpAny_evalAll_nil ?_)))
    exact q vs [(n, v)] h₂ t₂ (k₁.trans k₂) (RepVs.mono (k₂.hid M) _ _ r₁) ⟨v, [], rfl, r₂, rfl⟩
  rw [hf] at key ⊢
  exact evalArgs_kw rfl key

/-- a table as the receiver of a call -/
noncomputable def SelfOk (prog : Program) (w : World) (H0 : Heap) (C : Addr) (p : PV) : Prop := ∀ (h : Heap) (M : List Addr) (v : Value), Kp H0 (hid h M) → RepV prog w (hid h M) p v → ∃ i a, v = .ref i ∧ IsHdr (hid h M) C i a
theorem SelfOk.hdr {ps : List PV} : SelfOk prog w H0 C (.hdr C ps) := fun h M v k r => by
  obtain ⟨i, b, vs, e, u, _⟩ := r; exact ⟨i, b, e, u⟩
theorem SelfOk.raw (I : IsHdr H0 C i a) : SelfOk prog w H0 C (.raw (.ref i)) := fun h M v k r => by
  obtain rfl : v = .ref i := r
  exact ⟨i, a, rfl, I.mono k⟩

theorem Call_meth {o : PySem.Expr} {name : Str} {apos pos : Pos} {es : List PySem.Expr} {kws : List Keyword} {ps : List PV} {pks : List (Str × PV)} {f : Addr} {y : Option Value} {p : PV} {Q : Value → Shared → Prop}
    (H : HCls H0 C mt) (hf : mt name = some f) (hne : name ≠ "_headers") (hB : typeLookup (.type "object") name = pure y) (hself : SelfOk prog w H0 C p) (ho : Ev prog w H0 A env σ o p) (ha : EvA prog w H0 A env σ pos es kws ps pks)
    (hbase : attributeBase o name env (eval o env) = eval o env) (hline : (apos.endLine == pos.line) = true) (hform : methodCallForm (es.length + kws.length) (backTo pos (starEach es env)) (backToKw pos (keywordEach kws env)) = true)
    (V : Vars prog w H0 s.heap M env σ m)
    (q : ∀ i vs kvs h' tk, Kp s.heap h' → RepV prog w (hid h' M) p (.ref i) → RepVs prog w (hid h' M) ps vs → RepKs prog w (hid h' M) pks kvs → wpAny (model prog w) A (call (.ref f) (.ref i :: vs) kvs) Q E { s with heap := h', toks := tk }) :
    wpAny (model prog w) A (eval (.Call (.Attribute o name apos) es kws pos) env) Q E s := by
  rw [arm_eval_Call, hbase]
  refine wpAny_bind (ho.run s M m _ _ V fun v h₁ t₁ k₁ r₁ => ?_)
  have V1 := V.keeps k₁
  obtain ⟨i, a, rfl, I⟩ := hself h₁ M v V1.base r₁
  refine wpAny_bind (wpAny_standAt ?_)
  unfold methodCall
  rw [hform]
  refine wpAny_bind (wpAny_holding (getMethod_h (s := { s with heap := h₁, toks := t₁ }) H V1.kp (I.mono (Kp.ofHid _ _)) hf hne hB ?_))
  have hpos : methodCallPos true o env apos pos = pure pos := by unfold methodCallPos; simp [hline]
  rw [hpos]
  refine wpAny_bind (wpAny_pure ?_)
  refine LW.hideGoal fun GG hGG => ?_
  obtain ⟨of, fd, e1, e2, e3⟩ := H.fn name f hf
  refine hGG ?_
  clear hGG GG
  refine callWith_function_kw (o := of) (fd := fd) (ha.run { s with heap := h₁, toks := t₁ } M m _ _ _ V1 fun vs kvs h₂ t₂ k₂ r₂ r₃ => ?_)
  refine ⟨⟨k₂ _ _ (V1.kp _ _ e1), e3⟩, ?_⟩
  exact q i vs kvs h₂ t₂ (k₁.trans k₂) (RepV.mono (k₂.hid M) _ _ r₁) r₂ r₃

/-- a method that changes nothing -/
theorem Ev.meth {o : PySem.Expr} {name : Str} {apos pos : Pos} {es : List PySem.Expr} {kws : List Keyword} {ps : List PV} {pks : List (Str × PV)} {f : Addr} {y : Option Value} {p r : PV} {n : Nat}
    (H : HCls H0 C mt) (hf : mt name = some f) (hself : SelfOk prog w H0 C p) (hc : CallT prog w H0 n (.ref f) (p :: ps) pks [] r []) (ho : Ev prog w H0 A env σ o p) (ha : EvA prog w H0 A env σ pos es kws ps pks) (hA : Rm A n)
    (hB : typeLookup (.type "object") name = pure y) (hne : name ≠ "_headers" := by decide) (hbase : attributeBase o name env (eval o env) = eval o env := by rfl) (hline : (apos.endLine == pos.line) = true := by rfl)
    (hform : methodCallForm (es.length + kws.length) (backTo pos (starEach es env)) (backToKw pos (keywordEach kws env)) = true := by rfl) : Ev prog w H0 A env σ (.Call (.Attribute o name apos) es kws pos) r := .mk fun s M m Q E V q =>
  Call_meth H hf hne hB hself ho ha hbase hline hform V fun i vs kvs h₁ t₁ k₁ r₁ r₂ r₃ => by
    have V1 := V.keeps k₁
    exact hc A { s with heap := h₁, toks := t₁ } M M (.ref i :: vs) kvs Q E hA V1.base V1.sm V1.ex (fun a => by simp) (by simp) (by simp) (by simp) ⟨.ref i, vs, rfl, r₁, r₂⟩ r₃ fun v h₂ t₂ k₂ rv _ => q v h₂ t₂ (k₁.trans fun b o e => k₂ b o (by simp) e) rv

/-- its list -/
theorem Ev.attrH {o : PySem.Expr} {pos : Pos} {ps : List PV} (H : HCls H0 C mt) (ho : Ev prog w H0 A env σ o (.hdr C ps)) (he : eval (.Attribute o "_headers" pos) env = (do
      let o' ← eval o env
      standAt pos.atName
      let r ← holding [o'] (getAttr o' "_headers" true)
      letTemporaryGo o o' r
      pure r) := by with_unfolding_all rfl) : Ev prog w H0 A env σ (.Attribute o "_headers" pos) (.lst ps) := .mk fun s M m Q E V q =>
  Attribute_any_ (ho.run s M m _ _ V fun v h₁ t₁ k₁ r₁ => by
    refine LW.hideGoal fun GG hGG => ?_
    obtain ⟨i, b, vs, rfl, I, hL, r⟩ := r₁
    refine hGG ?_
    clear hGG GG
    refine getAttr_h (s := { s with heap := h₁, toks := t₁ }) H (V.kp.trans k₁) (I.mono (Kp.ofHid _ _)) ?_
    exact q _ h₁ _ k₁ ⟨b, vs, rfl, hL, r⟩) he
theorem Ev.attrR {o : PySem.Expr} {pos : Pos} (H : HCls H0 C mt) (I : IsHdr H0 C i a) (ho : Ev prog w H0 A env σ o (.raw (.ref i))) (he : eval (.Attribute o "_headers" pos) env = (do
      let o' ← eval o env
      standAt pos.atName
      let r ← holding [o'] (getAttr o' "_headers" true)
      letTemporaryGo o o' r
      pure r) := by with_unfolding_all rfl) : Ev prog w H0 A env σ (.Attribute o "_headers" pos) (.raw (.ref a)) := .mk fun s M m Q E V q =>
  Attribute_any_ (ho.run s M m _ _ V fun v h₁ t₁ k₁ r₁ => by
    obtain rfl : v = .ref i := r₁
    exact getAttr_h (s := { s with heap := h₁, toks := t₁ }) H (V.kp.trans k₁) (I.mono (V.kp.trans k₁)) (q _ h₁ _ k₁ rfl)) he
/-- a thing, read -/
theorem Rd.th {e : PySem.Expr} {p : PV} (he : Ev prog w H0 A env σ e (.raw (.ref a))) (hm : (a, p) ∈ σ.t) : Rd prog w H0 A env σ e p := .mk fun s M m Q E V q =>
  he.run s M m _ _ V fun v h₁ t₁ k₁ r₁ => by
    obtain rfl : v = .ref a := r₁
    exact q _ h₁ t₁ k₁ (RdV.of_own ((V.keeps k₁).th _ hm).2)
end
end LW
namespace LW

/-- what the module holds for its tables -/
structure Mdl (G : Heap) (C : Addr) (mt : Str → Option Addr) : Prop where
  hc : HCls G C mt
  hcG : GVal G "Headers" (.ref C)
  init : MethD G mt "__init__" 0
  conv : MethR G mt "_convert_string_type" 1
  setI : MethR G mt "__setitem__" 3
  delI : MethR G mt "__delitem__" 4
  getA : MethR G mt "get_all" 7
  get : MethD G mt "get" 8
  items : MethR G mt "items" 11
  setD : MethR G mt "setdefault" 15
  addH : MethR G mt "add_header" 16
  nre : ∃ a, GVal G "_name_disallowed_re" (.ref a) ∧ PatAt G a nameCode
  vre : ∃ a, GVal G "_value_disallowed_re" (.ref a) ∧ PatAt G a valueCode
  typ : BVal G "type" (.type "type")
  str : BVal G "str" (.type "str")
  list : BVal G "list" (.type "list")
theorem Mdl.mono {F F' : Heap} (k : Kp F F') {C : Addr} {mt : Str → Option Addr} (x : Mdl F C mt) : Mdl F' C mt :=
  ⟨x.hc.mono k, x.hcG.mono k, x.init.mono k, x.conv.mono k, x.setI.mono k, x.delI.mono k, x.getA.mono k, x.get.mono k, x.items.mono k, x.setD.mono k, x.addH.mono k, let ⟨a, h1, h2⟩ := x.nre; ⟨a, h1.mono k, h2.mono k⟩, let ⟨a, h1, h2⟩ := x.vre; ⟨a, h1.mono k, h2.mono k⟩,
    x.typ.mono k, x.str.mono k, x.list.mono k⟩

section
variable {prog : Program} {w : World} {A : Around} {G H0 : Heap} {env : Env} {σ σ₂ σ₃ σc : Sy} {h h' : Heap} {M : List Addr} {m : Str → Option Value} {s : Shared} {C i a : Addr} {mt : Str → Option Addr} {E : Value → Shared → Prop}

/-- the type of a value, asked -/
theorem Ev.typeOf {np pos : Pos} {e : PySem.Expr} {p : PV} {T : String} (hf : Ev prog w H0 A env σ (.Name "type" np) (.raw (.type "type"))) (he : Ev prog w H0 A env σ e p) (hT : ∀ (s : Shared) (M : List Addr) v, RepV prog w (hid s.heap M) p v → s.TypeIs v T)
    (hnb : (Value.type T == Value.type "builtin_function_or_method") = false := by decide) (hs : starEach [e] env = [(false, eval e env)] := by rfl) : Ev prog w H0 A env σ (.Call (.Name "type" np) [e] [] pos) (.raw (.type T)) := .mk fun s M m Q E V q =>
  call_typE V hf he (fun v h₁ t₁ k₁ r => call_type_of (s := { s with heap := h₁, toks := t₁ }) (hT _ M v r) hnb (q _ h₁ t₁ k₁ rfl)) hs
theorem typ_str {x : Str} (s : Shared) (M : List Addr) (v : Value) (r : RepV prog w (hid s.heap M) (.str x) v) : s.TypeIs v "str" := by obtain ⟨t, rfl⟩ := r; exact typeIs_str _ _ _
theorem typ_lst {l : List PV} (s : Shared) (M : List Addr) (v : Value) (r : RepV prog w (hid s.heap M) (.lst l) v) : s.TypeIs v "list" := by
  obtain ⟨a, vs, rfl, hL, _⟩ := r; exact (Heap.PlainList.at (h' := s.heap) hL fun o => Kp.ofHid _ _ a o).isList.typeIs
theorem CmpOk.isTy {T U : String} : CmpOk prog w A .Is (.raw (.type T)) (.raw (.type U)) (decide (T = U)) := fun s M a b Q E r1 r2 q => by
  obtain rfl : a = .type T := r1
  obtain rfl : b = .type U := r2
  show wpAny (model prog w) A (do return .bool (← isSame (.type T) (.type U))) Q E s
  refine wpAny_bind (wpAny_isSame_plain rfl (wpAny_pure ?_))
  have : (Value.type T == Value.type U) = decide (T = U) := by rw [Bool.eq_iff_iff]; simp
  rw [this]; exact q s.heap s.toks Kp.rfl
theorem CmpOk.isNotTy {T U : String} : CmpOk prog w A .IsNot (.raw (.type T)) (.raw (.type U)) (!decide (T = U)) := fun s M a b Q E r1 r2 q => by
  obtain rfl : a = .type T := r1
  obtain rfl : b = .type U := r2
  show wpAny (model prog w) A (do return .bool (!(← isSame (.type T) (.type U)))) Q E s
  refine wpAny_bind (wpAny_isSame_plain rfl (wpAny_pure ?_))
  have : (Value.type T == Value.type U) = decide (T = U) := by rw [Bool.eq_iff_iff]; simp
  rw [this]; exact q s.heap s.toks Kp.rfl
theorem Tst.none {e : PySem.Expr} (he : Ev prog w H0 A env σ e .none) (hi : isTrue e env (eval e env) = (do let v ← eval e env; standAt e.pos; holding [v] (truthy v)) := by rfl) : Tst prog w H0 A env σ e false := .mk fun s M m Q E V q =>
  wpAny_isTrue_value (he.run s M m _ _ V fun v h' tk k r => by obtain rfl : v = .none := r; exact truthy_none (q h' tk k)) hi

noncomputable def reOf (b : Bool) : Array Nat := if b then nameCode else valueCode
theorem body_conv {L : Addr} {qual : Str} {fa : Addr} {code : Value} {x : Str} {b : Bool} {p : PV} (D : Mdl G C mt) (hno : reNo (reOf b) x.cps) (hx : x.cps.size < 2 ^ 63) :
    Ex prog w A G (fenv (hS 1) L qual fa code) ⟨[("self", .im p), ("value", .im (.str x)), ("name", .im (.bool b))], []⟩ (hB 1) (.rt (.str x) []) := by
  refine LW.hideGoal fun GG hGG => ?_
  obtain ⟨a1, g1, P1⟩ := D.nre
  obtain ⟨a2, g2, P2⟩ := D.vre
  refine hGG ?_
  clear hGG GG
  refine Ex.last rfl (Ex1.ite (b := true) (Tst.of (Tst.cmp CmpOk.isTy (Ev.rd (Ev.typeOf (Ev.bi D.typ rfl) (Ev.name rfl) typ_str)) (Ev.rd (Ev.bi D.str rfl))) (by decide)) (fun _ => ?_) (fun h => by cases h))
  have key : ∀ a3, PatAt G a3 (reOf b) → Ex prog w A G (fenv (hS 1) L qual fa code) ⟨("regex", .im (.raw (.ref a3))) :: [("self", .im p), ("value", .im (.str x)), ("name", .im (.bool b))], []⟩ ((match hB 1 with | (.If _ b _ _) :: _ => b | _ => []).drop 1) (.rt (.str x) []) := by
    intro a3 P3
    refine Ex.step rfl (Ex1.ite (out := .nx _) (b := false) (Tst.none (Ev.search P3 hno hx (Ev.name rfl) (Ev.name rfl))) (fun h => by cases h) (fun _ => Ex.done rfl)) ?_
    exact Ex.last rfl (Ex1.ret (Ev.name rfl))
  cases b with
  | true => exact Ex.step rfl (Ex1.assign (p := .raw (.ref a1)) (Ev.ite (b := true) (Tst.val (Ev.name rfl)) (fun _ => Ev.glob g1 rfl) (fun h => by cases h))) (key a1 P1)
  | false => exact Ex.step rfl (Ex1.assign (p := .raw (.ref a2)) (Ev.ite (b := false) (Tst.val (Ev.name rfl)) (fun h => by cases h) (fun _ => Ev.glob g2 rfl))) (key a2 P2)
theorem meth_conv {n : Nat} {x : Str} {b : Bool} {p : PV} (D : Mdl G C mt) (hno : reNo (reOf b) x.cps) (hx : x.cps.size < 2 ^ 63) : ∃ f, mt "_convert_string_type" = some f ∧ CallT prog w G (n + 1) (.ref f) [p, .str x] [("name", .bool b)] [] (.str x) [] := by
  obtain ⟨f, hf, F⟩ := D.conv
  refine ⟨f, hf, CallT.of (l := [("self", p), ("value", .str x), ("name", .bool b)]) F ⟨rfl, by decide +kernel, by decide +kernel⟩ (fun s M vs kvs kg rv rk => ?_) (show (["self", "value", "name"] : List Str).Nodup by decide +kernel) rfl rfl (.inl rfl) fun A L qual code hA => body_conv D hno hx⟩
  refine LW.hideGoal fun GG hGG => ?_
  obtain ⟨v, r, rfl, h1, u, r', rfl, h2, rfl⟩ := rv
  obtain ⟨c, r'', rfl, h3, rfl⟩ := rk
  refine hGG ?_
  clear hGG GG
  exact ⟨_, .cons h1 (.cons h2 (.cons h3 .nil)), fun nm q kd doc pm an code ct => BindsTo.of_eq rfl⟩
theorem lk_conv : typeLookup (.type "object") "_convert_string_type" = pure Option.none := by rw [typeLookup_type, builtinLookup_eq_fast]; kernel_rfl
/-- a text that is let by -/
theorem Ev.conv {o e c : PySem.Expr} {apos pos kp : Pos} {x : Str} {b : Bool} {p : PV} {n : Nat} (D : Mdl H0 C mt) (hself : SelfOk prog w H0 C p) (hno : reNo (reOf b) x.cps) (hx : x.cps.size < 2 ^ 63) (hA : Rm A (n + 1)) (ho : Ev prog w H0 A env σ o p) (he : Ev prog w H0 A env σ e (.str x)) (hcv : Ev prog w H0 A env σ c (.bool b))
    (hbase : attributeBase o "_convert_string_type" env (eval o env) = eval o env := by rfl) (hline : (apos.endLine == pos.line) = true := by rfl) (hs : starEach (e :: []) env = (false, eval e env) :: starEach [] env := by rfl)
    (hform : methodCallForm 2 (backTo pos (starEach [e] env)) (backToKw pos (keywordEach [⟨some "name", c, kp⟩] env)) = true := by rfl) : Ev prog w H0 A env σ (.Call (.Attribute o "_convert_string_type" apos) [e] [⟨some "name", c, kp⟩] pos) (.str x) := by
  obtain ⟨f, hf, hc⟩ := meth_conv (prog := prog) (w := w) (n := n) (x := x) (b := b) (p := p) D hno hx
  exact Ev.meth D.hc hf hself hc ho (EvA.kw1 (EvL.cons he EvL.nil hs) hcv ⟨_, _, by rw [hs]; rfl⟩) hA lk_conv (by decide) hbase hline hform
end
end LW
namespace LW
noncomputable def hdrOf (C : Addr) (rs : List Road) : PV := .hdr C (rs.map pvRoad)
noncomputable def onOf (rs : List Road) : On := fun t => (rs.filter fun r => r.1 == t).map fun r => r.2.2
theorem reNo_name (t : Town) (b : Bool) : reNo (reOf true) (nm t b).cps := reNo_of (no_name t b)
theorem reNo_value (t : Town) (b : Bool) : reNo (reOf false) (nm t b).cps := reNo_of (no_value t b)
theorem nm_small (t : Town) (b : Bool) : (nm t b).cps.size < 2 ^ 63 := Nat.lt_of_le_of_lt (show (nm t b).cps.size ≤ 1 by revert t b; decide +kernel) (by decide)
section
variable {prog : Program} {w : World} {A : Around} {G H0 : Heap} {env : Env} {σ σ₂ σ₃ σc : Sy} {h h' : Heap} {M : List Addr} {m : Str → Option Value} {s : Shared} {C i a : Addr} {mt : Str → Option Addr} {E : Value → Shared → Prop}

/-- name = self._convert_string_type(name.lower(), name=True) -/
theorem Ex.lowered {np np2 sp lp lp2 mp mp2 kp bp pos : Pos} {kk : Nat} {rest : List Stmt} {out : Out} {t : Town} {b : Bool} {p : PV} {n : Nat} (D : Mdl G C mt) (hself : SelfOk prog w G C p) (hA : Rm A (n + 1)) (hs : σ.v.lookup ("self" : Str) = some (.im p)) (hn : σ.v.lookup ("name" : Str) = some (.im (.str (nm t b))))
    (hx : storB env "name" = true) (hl1 : (lp.endLine == lp2.line) = true) (hl2 : (mp.endLine == mp2.line) = true) (hr : Ex prog w A G env ⟨("name", .im (.str (nm t false))) :: σ.v, σ.t⟩ rest out)
    (hform : methodCallForm 2 (backTo mp2 (starEach [.Call (.Attribute (.Name "name" np2) "lower" lp) [] [] lp2] env)) (backToKw mp2 (keywordEach [⟨some "name", .Constant (.bool true) kk bp, kp⟩] env)) = true)
    (hsw : swapsWith (.Call (.Attribute (.Name "self" sp) "_convert_string_type" mp) [.Call (.Attribute (.Name "name" np2) "lower" lp) [] [] lp2] [⟨some "name", .Constant (.bool true) kk bp, kp⟩] mp2) (some (.Name "name" np)) pos.line env = pure false) :
    Ex prog w A G env σ (.Assign [.Name "name" np] (.Call (.Attribute (.Name "self" sp) "_convert_string_type" mp) [.Call (.Attribute (.Name "name" np2) "lower" lp) [] [] lp2] [⟨some "name", .Constant (.bool true) kk bp, kp⟩] mp2) pos :: rest) out :=
  Ex.cons (Ex1.assign (Ev.conv D hself (reNo_name t false) (nm_small t false) hA (Ev.name hs) (Ev.of (Ev.m0 (Me0.lower (by rw [nm_lower]; rfl)) (Ev.rd (Ev.name hn)) rfl hl1) (by rw [nm_lower])) Ev.bool rfl hl2 rfl hform) hx hsw) hr

theorem body_getall {L : Addr} {qual : Str} {fa : Addr} {code : Value} {rs : List Road} {t : Town} {b : Bool} {n : Nat} (hA : Rm A (n + 1)) (D : Mdl G C mt) (hl : rs.length ≤ 1000) :
    Ex prog w A G (fenv (hS 7) L qual fa code) ⟨[("self", .im (hdrOf C rs)), ("name", .im (.str (nm t b)))], []⟩ (hB 7) (.rt (.lst ((onOf rs t).map fun g => .str (nm g false))) []) := by
  refine Ex.lowered (n := n) D SelfOk.hdr hA rfl rfl rfl rfl rfl ?_ rfl rfl
  have key : (onOf rs t).map (fun g => PV.str (nm g false)) = (rs.filter fun r => r.1 == t).map fun r => .str (nm r.2.2 false) := by unfold onOf; rw [List.map_map]; rfl
  rw [key]
  refine Ex.last rfl (Ex1.ret (EvN.ev ?_))
  refine EvN.compM (inj := pvRoad) (σc := ⟨[("name", .im (.str (nm t false)))], []⟩) inj_road ⟨rfl, by decide +kernel, rfl, by decide +kernel, ⟨⟨rfl, .inl rfl, rfl, rfl⟩, trivial⟩, rfl, fun _ => rfl⟩ (It.list hA.1 (Ev.attrH D.hc (Ev.name rfl))) ?_ (Nat.le_trans hl (by decide))
  intro Cc r hr
  refine ⟨⟨("kv", .im (pvRoad r)) :: _, []⟩, rfl, cons_fresh rfl, CTgt.name, ?_, fun _ => Ev.sub (ItOk.tup (by decide) rfl (by decide)) (Ev.rd (Ev.name rfl)) (Ev.rd Ev.int)⟩
  refine Tst.of (Tst.cmp CmpOk.eqS (Ev.rd (Ev.m0 (Me0.lower (x := nm r.1 r.2.1) (by rw [nm_lower]; rfl)) (Ev.rd (Ev.sub (ItOk.tup (by decide) rfl (by decide)) (Ev.rd (Ev.name rfl)) (Ev.rd Ev.int))))) (Ev.rd (Ev.name rfl))) ?_
  rw [nm_lower, nm_eqb]
theorem meth_getall {n : Nat} {rs : List Road} {t : Town} {b : Bool} (D : Mdl G C mt) (hl : rs.length ≤ 1000) : ∃ f, mt "get_all" = some f ∧ CallT prog w G (n + 2) (.ref f) [hdrOf C rs, .str (nm t b)] [] [] (.lst ((onOf rs t).map fun g => .str (nm g false))) [] := by
  obtain ⟨f, hf, F⟩ := D.getA
  refine ⟨f, hf, CallT.of (l := [("self", hdrOf C rs), ("name", .str (nm t b))]) F ⟨rfl, by decide +kernel, by decide +kernel⟩ (fun s M vs kvs kg rv rk => ?_) (show (["self", "name"] : List Str).Nodup by decide +kernel) rfl rfl (.inl rfl) fun A L qual code hA => body_getall hA D hl⟩
  obtain ⟨v, u, rfl, hb⟩ := binds2 (x := "self") (y := "name") rv
  obtain rfl : kvs = [] := rk
  exact ⟨_, hb, fun nm q kd doc pm an code ct => BindsTo.of_eq rfl⟩
theorem lk_getall : typeLookup (.type "object") "get_all" = pure Option.none := by rw [typeLookup_type, builtinLookup_eq_fast]; kernel_rfl
theorem getAll_of {rs : List Road} {n : Nat} (D : Mdl G C mt) (hl : rs.length ≤ 1000) (hA : Rm A (n + 2)) : GetAll prog w A G C (rs.map pvRoad) (onOf rs) where
  get := fun t ho he hbase hline hform h2 => by
    obtain ⟨f, hf, hc⟩ := meth_getall (prog := prog) (w := w) (n := n) (rs := rs) (t := t) (b := true) D hl
    exact Ev.meth D.hc hf SelfOk.hdr hc ho (EvA.pos he h2) hA lk_getall (by decide) hbase hline hform

theorem body_items {L : Addr} {qual : Str} {fa : Addr} {code : Value} {rs : List Road} (D : Mdl G C mt) (hl : rs.length ≤ 1000) :
    Ex prog w A G (fenv (hS 11) L qual fa code) ⟨[("self", .im (hdrOf C rs))], []⟩ (hB 11) (.rt (pvRoads rs) []) := by
  refine Ex.last rfl (Ex1.ret (Ev.of (EvN.ev (EvN.slice (ps := rs.map pvRoad) (lo := none) (hi := none) (Ev.rd (Ev.attrH D.hc (Ev.name rfl))) ?_ ?_ ?_)) ?_))
  · exact trivial
  · exact trivial
  · rw [List.length_map]; exact Nat.le_trans hl (by decide)
  · unfold cut pvRoads; simp; rw [List.take_of_length_le (by simp)]
theorem meth_items {n : Nat} {rs : List Road} (D : Mdl G C mt) (hl : rs.length ≤ 1000) : ∃ f, mt "items" = some f ∧ CallT prog w G (n + 1) (.ref f) [hdrOf C rs] [] [] (pvRoads rs) [] := by
  obtain ⟨f, hf, F⟩ := D.items
  refine ⟨f, hf, CallT.of (l := [("self", hdrOf C rs)]) F ⟨rfl, by decide +kernel, by decide +kernel⟩ (fun s M vs kvs kg rv rk => ?_) (show (["self"] : List Str).Nodup by decide +kernel) rfl rfl (.inl rfl) fun A L qual code hA => body_items D hl⟩
  obtain ⟨v, rfl, hb⟩ := binds1 (x := "self") rv
  obtain rfl : kvs = [] := rk
  exact ⟨_, hb, fun nm q kd doc pm an code ct => BindsTo.of_eq rfl⟩
theorem lk_items : typeLookup (.type "object") "items" = pure Option.none := by rw [typeLookup_type, builtinLookup_eq_fast]; kernel_rfl

noncomputable def getRes (rs : List Road) (t : Town) : PV := match rs.find? fun r => r.1 == t with | some r => .str (nm r.2.2 false) | none => .none
noncomputable def getOut (rs : List Road) (t : Town) (σ : Sy) : Out := match rs.find? fun r => r.1 == t with | some r => .rt (.str (nm r.2.2 false)) σ.t | none => .nx σ
theorem body_get {L : Addr} {qual : Str} {fa : Addr} {code : Value} {rs : List Road} {t : Town} {b : Bool} {n : Nat} (hA : Rm A (n + 1)) (D : Mdl G C mt) (hl : rs.length ≤ 1000) :
    Ex prog w A G (fenv (hS 8) L qual fa code) ⟨[("self", .im (hdrOf C rs)), ("name", .im (.str (nm t b))), ("default", .im .none)], []⟩ (hB 8) (.rt (getRes rs t) []) := by
  refine Ex.lowered (n := n) D SelfOk.hdr hA rfl rfl rfl rfl rfl ?_ rfl rfl
  refine Ex.sub (σ₂ := ⟨[("name", .im (.str (nm t false))), ("self", .im (hdrOf C rs)), ("default", .im .none)], []⟩) ?_ ⟨rfl, rfl, rfl, trivial⟩
  have key : Ex1 prog w A G (fenv (hS 8) L qual fa code) ⟨[("name", .im (.str (nm t false))), ("self", .im (hdrOf C rs)), ("default", .im .none)], []⟩ ((hB 8).getD 1 default) (getOut rs t ⟨[("name", .im (.str (nm t false))), ("self", .im (hdrOf C rs)), ("default", .im .none)], []⟩) := by
    refine for_rule (xs := rs.map pvRoad) (It.list hA.1 (Ev.attrH D.hc (Ev.name rfl))) ?_
    have go : ∀ d k, k + d = rs.length → Turns prog w A G (fenv (hS 8) L qual fa code) (match (hB 8).getD 1 default with | .For tg _ _ _ _ => tg | _ => default) (match (hB 8).getD 1 default with | .For _ _ b _ _ => b | _ => []) (rs.map pvRoad) k
        ⟨[("name", .im (.str (nm t false))), ("self", .im (hdrOf C rs)), ("default", .im .none)], []⟩ (getOut (rs.drop k) t ⟨[("name", .im (.str (nm t false))), ("self", .im (hdrOf C rs)), ("default", .im .none)], []⟩) := by
      intro d
      induction d with
      | zero =>
        intro k hk
        have : rs.drop k = [] := List.drop_eq_nil_iff.mpr (by omega)
        rw [this]
        exact Turns.fin (by rw [List.length_map]; omega) rfl
      | succ d ih =>
        intro k hk
        have hlt : k < rs.length := by omega
        obtain ⟨r, hr⟩ : ∃ r, rs[k]? = some r := ⟨_, List.getElem?_eq_getElem hlt⟩
        have hx : (rs.map pvRoad)[k]? = some (pvRoad r) := by rw [List.getElem?_map, hr]; rfl
        have ed : rs.drop k = r :: rs.drop (k + 1) := drop_get hr
        have tst : ∀ {pp pq pr : Pos} {σ' : Sy}, σ'.v.lookup ("k" : Str) = some (.im (.str (nm r.1 r.2.1))) → σ'.v.lookup ("name" : Str) = some (.im (.str (nm t false))) → True := fun _ _ => trivial
        cases hb : r.1 == t with
        | true =>
          have eo : getOut (rs.drop k) t ⟨[("name", .im (.str (nm t false))), ("self", .im (hdrOf C rs)), ("default", .im .none)], []⟩ = .rt (.str (nm r.2.2 false)) [] := by unfold getOut; rw [ed, List.find?_cons, hb]
          rw [eo]
          refine Turns.ret hx (Tgt.two hA.1) ?_
          refine Ex.last rfl (Ex1.ite (b := true) (Tst.of (Tst.cmp CmpOk.eqS (Ev.rd (Ev.m0 (Me0.lower (x := nm r.1 r.2.1) (by rw [nm_lower]; rfl)) (Ev.rd (Ev.name rfl)))) (Ev.rd (Ev.name rfl))) ?_) (fun _ => Ex.last rfl (Ex1.ret (Ev.name rfl))) (fun h => by cases h))
          rw [nm_lower, nm_eqb, hb]
        | false =>
          have eo : getOut (rs.drop k) t ⟨[("name", .im (.str (nm t false))), ("self", .im (hdrOf C rs)), ("default", .im .none)], []⟩ = getOut (rs.drop (k + 1)) t ⟨[("name", .im (.str (nm t false))), ("self", .im (hdrOf C rs)), ("default", .im .none)], []⟩ := by
            unfold getOut; rw [ed, List.find?_cons, hb]
          rw [eo]
          refine Turns.turn hx (Tgt.two hA.1) (σ₂ := ⟨[("name", .im (.str (nm t false))), ("self", .im (hdrOf C rs)), ("default", .im .none)], []⟩) ?_ (ih (k + 1) (by omega))
          refine Ex.step rfl (Ex1.ite (out := .nx _) (b := false) (Tst.of (Tst.cmp CmpOk.eqS (Ev.rd (Ev.m0 (Me0.lower (x := nm r.1 r.2.1) (by rw [nm_lower]; rfl)) (Ev.rd (Ev.name rfl)))) (Ev.rd (Ev.name rfl))) ?_) (fun h => by cases h) (fun _ => Ex.done rfl)) (Ex.post (Ex.done rfl) ⟨rfl, rfl, rfl, trivial⟩)
          rw [nm_lower, nm_eqb, hb]
    have := go rs.length 0 (by omega)
    rwa [List.drop_zero] at this
  unfold getRes
  unfold getOut at key
  cases hf : rs.find? fun r => r.1 == t with
  | some r => rw [hf] at key; exact Ex.last rfl key
  | none => rw [hf] at key; exact Ex.step rfl key (Ex.last rfl (Ex1.ret (Ev.name rfl)))
theorem meth_get {n : Nat} {rs : List Road} {t : Town} {b : Bool} (D : Mdl G C mt) (hl : rs.length ≤ 1000) : ∃ f, mt "get" = some f ∧ CallT prog w G (n + 2) (.ref f) [hdrOf C rs, .str (nm t b)] [] [] (getRes rs t) [] := by
  refine LW.hideGoal fun GG hGG => ?_
  obtain ⟨f, T, o, k, hf, F, ho, hd⟩ := D.get
  refine hGG ?_
  clear hGG GG
  refine ⟨f, hf, CallT.of (l := [("self", hdrOf C rs), ("name", .str (nm t b)), ("default", .none)]) F ⟨rfl, by decide +kernel, by decide +kernel⟩ (fun s M vs kvs kg rv rk => ?_) (show (["self", "name", "default"] : List Str).Nodup by decide +kernel) rfl rfl (.inl rfl) fun A L qual code hA => body_get hA D hl⟩
  refine LW.hideGoal fun GG hGG => ?_
  obtain ⟨v, r, rfl, h1, u, r', rfl, h2, rfl⟩ := rv
  obtain rfl : kvs = [] := rk
  refine hGG ?_
  clear hGG GG
  exact ⟨_, .cons h1 (.cons h2 (.cons rfl .nil)), fun nm q kd doc pm an code ct => BindsTo.of_defaults rfl (kg.trans (Kp.ofHid _ _) _ _ ho) hd rfl rfl⟩
theorem lk_get : typeLookup (.type "object") "get" = pure Option.none := by rw [typeLookup_type, builtinLookup_eq_fast]; kernel_rfl
end
end LW
namespace LW
noncomputable def roadsT (rs : List Road) : PV := .lst (rs.map pvRoad)
section
variable {prog : Program} {w : World} {A : Around} {G H0 : Heap} {env : Env} {σ σ₂ σ₃ σc : Sy} {h h' : Heap} {M : List Addr} {m : Str → Option Value} {s : Shared} {C i a : Addr} {mt : Str → Option Addr} {E : Value → Shared → Prop} {B : Bs} {oa : OA}

theorem OwnV.ex {a : Addr} {v : Value} {p : PV} (x : OwnV prog w h M a v p) : ∃ o, h.get? a = some o := by
  cases p <;> try exact x.elim
  · obtain ⟨_, vs, ⟨n, e⟩, _⟩ := x; exact ⟨_, e⟩
  · obtain ⟨_, _, vs, ⟨o, es, ep, e, _⟩, _⟩ := x; exact ⟨_, e⟩
  · obtain ⟨i, vs, _, _, ⟨n, e⟩, _⟩ := x; exact ⟨_, e⟩
  · obtain ⟨_, l, vs, n, ⟨o, e, _⟩, _⟩ := x; exact ⟨_, e⟩

/-- a call that changes the first thing -/
theorem St.callT {f : Value} {qs : List PV} {pks : List (Str × PV)} {p p' r : PV} {t : List (Addr × PV)} {n : Nat} {vs : List Value} {kvs : List (Str × Value)} {Q : Value → Shared → Prop} (S : St prog w B env σ s.heap oa m) (kg : Kp G B.H0) (ht : σ.t = (a, p) :: t)
    (hc : CallT prog w G n f qs pks [(a, p)] r [(a, p')]) (hA : Rm A n) (rv : RepVs prog w (hid s.heap (Mu env B oa σ.t)) qs vs) (rk : RepKs prog w (hid s.heap (Mu env B oa σ.t)) pks kvs)
    (q : ∀ v h' tk, St prog w B env ⟨σ.v, (a, p') :: t⟩ h' oa m → RepV prog w (hid h' (Mu env B oa σ.t)) r v → Q v { s with heap := h', toks := tk }) : wpAny (model prog w) A (call f vs kvs) Q E s := by
  have hm : (a, p) ∈ σ.t := by rw [ht]; exact List.mem_cons_self
  have haM : a ∈ Mu env B oa σ.t := mem_Mu (mem_own_th hm)
  refine hc A s (Mu env B oa σ.t) ((Mu env B oa σ.t).filter fun b => b != a) vs kvs Q E hA (kg.trans S.base) S.sm S.exM (fun b => ?_) (fun b hb => ?_) (by simp) (fun y hy => ?_) rv rk fun v h' tk kb rv' th' => ?_
  · rw [List.mem_filter]
    by_cases hb : b = a
    · subst hb; simp [haM]
    · simp [hb]
  · simp only [List.map_cons, List.map_nil, List.mem_singleton] at hb
    subst hb
    intro hm; have := (List.mem_filter.mp hm).2; simp at this
  · rw [List.mem_singleton.mp hy]; exact S.th _ hm
  · have new := th' (a, p') List.mem_cons_self
    exact q v h' tk (S.updTh Kp.rfl ht (fun b o hb e => kb b o (by simpa using hb) e) new new.ex) rv'
/-- a call that changes an own table -/
theorem St.callOwn {f : Value} {qs : List PV} {ps ps' : List PV} {r : PV} {x : Str} {n : Nat} {vs : List Value} {v : Value} {Q : Value → Shared → Prop} (S : St prog w B env σ s.heap oa m) (kg : Kp G B.H0) (hl : σ.v.lookup x = some (.ow (.hdr C ps))) (sl : Slot s.heap env m x v) (ha : oa.lookup x = some a)
    (hv : OwnV prog w s.heap (Mu env B oa σ.t) a v (.hdr C ps)) (hc : ∀ G' i, Kp G G' → IsHdr G' C i a → CallT prog w G' n f (.raw (.ref i) :: qs) [] [(a, .lst ps)] r [(a, .lst ps')]) (hA : Rm A n) (rv : RepVs prog w (hid s.heap (Mu env B oa σ.t)) qs vs)
    (q : ∀ u h' tk, St prog w B env ⟨(x, .ow (.hdr C ps')) :: σ.v, σ.t⟩ h' oa m → Q u { s with heap := h', toks := tk }) : wpAny (model prog w) A (call f (v :: vs) []) Q E s := by
  refine LW.hideGoal fun GG hGG => ?_
  obtain ⟨i, us, rfl, I, hL, rL⟩ := hv
  refine hGG ?_
  clear hGG GG
  have haM : a ∈ Mu env B oa σ.t := mem_Mu (mem_own_oa ha)
  refine hc (hid s.heap (Mu env B oa σ.t)) i (kg.trans S.base) I A s (Mu env B oa σ.t) ((Mu env B oa σ.t).filter fun b => b != a) (.ref i :: vs) [] Q E hA Kp.rfl S.sm S.exM (fun b => ?_) (fun b hb => ?_) (by simp) (fun y hy => ?_) ⟨.ref i, vs, rfl, rfl, rv⟩ rfl fun u h' tk kb rv' th' => ?_
  · rw [List.mem_filter]
    by_cases hb : b = a
    · subst hb; simp [haM]
    · simp [hb]
  · simp only [List.map_cons, List.map_nil, List.mem_singleton] at hb
    subst hb
    intro hm; have := (List.mem_filter.mp hm).2; simp at this
  · rw [List.mem_singleton.mp hy]; exact ⟨rfl, us, hL, rL⟩
  · refine LW.hideGoal fun GG hGG => ?_
    obtain ⟨_, us', hL', rL'⟩ := th' (a, .lst ps') List.mem_cons_self
    refine hGG ?_
    clear hGG GG
    have kb' : ∀ b o, b ≠ a → s.heap.get? b = some o → h'.get? b = some o := fun b o hb e => kb b o (by simpa using hb) e
    have kh : Kp (hid s.heap (Mu env B oa σ.t)) (hid h' (Mu env B oa σ.t)) := fun b o e => by
      rw [hid_get] at e ⊢
      exact ⟨kb' b o (fun e' => e.2 (e' ▸ haM)) e.1, e.2⟩
    exact q u h' tk (S.upd (p' := .hdr C ps') Kp.rfl hl sl ha kb' ⟨i, us', rfl, I.mono kh, hL', rL'⟩ (by obtain ⟨n, e⟩ := hL'; exact ⟨_, e⟩))

/-- a method of a table, whose list is the first thing, as a statement -/
theorem Ex1.methT {o : PySem.Expr} {name : Str} {apos pos pos' : Pos} {es : List PySem.Expr} {kws : List Keyword} {ps : List PV} {pks : List (Str × PV)} {f : Addr} {y : Option Value} {r p p' : PV} {n : Nat} {t : List (Addr × PV)}
    (H : HCls G C mt) (hf : mt name = some f) (I : IsHdr G C i a) (ht : σ.t = (a, p) :: t) (hc : CallT prog w G n (.ref f) (.raw (.ref i) :: ps) pks [(a, p)] r [(a, p')]) (ho : Ev prog w G A env σ o (.raw (.ref i))) (ha : EvA prog w G A env σ pos es kws ps pks) (hA : Rm A n)
    (hB : typeLookup (.type "object") name = pure y) (hr : ∀ F v, RepV prog w F r v → ∀ b, v ≠ .ref b) (hne : name ≠ "_headers" := by decide) (hbase : attributeBase o name env (eval o env) = eval o env := by rfl) (hline : (apos.endLine == pos.line) = true := by rfl)
    (hform : methodCallForm (es.length + kws.length) (backTo pos (starEach es env)) (backToKw pos (keywordEach kws env)) = true := by rfl) (hi : interactive env = false := by rfl)
    (hs : swapsWith (.Call (.Attribute o name apos) es kws pos) none pos'.line env = pure false := by rfl) : Ex1 prog w A G env σ (.Expr (.Call (.Attribute o name apos) es kws pos) pos') (.nx ⟨σ.v, (a, p') :: t⟩) := .mk fun B s oa m Q E kg S q => by
  refine wpAny_Expr ?_ hi hs
  refine Call_meth H hf hne hB (SelfOk.raw I) ho ha hbase hline hform (S.vars kg) fun j vs kvs h₁ t₁ k₁ r₁ r₂ r₃ => ?_
  refine St.callT (s := { s with heap := h₁, toks := t₁ }) (S.keeps k₁) kg ht hc hA ⟨_, vs, rfl, r₁, r₂⟩ r₃ fun v h₂ t₂ S2 rv => ?_
  have := q _ h₂ t₂ ⟨rfl, oa, m, S2⟩
  cases v <;> first | exact this | exact (hr _ _ rv _ rfl).elim

/-- the list gets one more -/
theorem Ex1.appendT {o : PySem.Expr} {apos pos pos' : Pos} {e : PySem.Expr} {ps : List PV} {p : PV} {t : List (Addr × PV)} (ho : Ev prog w G A env σ o (.raw (.ref a))) (ht : σ.t = (a, .lst ps) :: t) (he : Ev prog w G A env σ e p) (hsz : ps.length ≤ sizeLine)
    (hbase : attributeBase o "append" env (eval o env) = eval o env := by rfl)
    (hfew : ((backTo pos (starEach [e] env)).all (fun x => !x.1) && (backToKw pos (keywordEach [] env)).all (fun x => x.1.isSome)
      && decide (([e] : List PySem.Expr).length + ([] : List Keyword).length + (if ([] : List Keyword).isEmpty then 0 else 1) < 30)) = true := by rfl) (hline : (apos.endLine == pos.line) = true := by rfl)
    (htrees : backTo pos (starEach [e] env) = [(false, eval e env)] := by rfl) (hi : interactive env = false := by rfl)
    (hs : swapsWith (.Call (.Attribute o "append" apos) [e] [] pos) none pos'.line env = pure false := by rfl) :
    Ex1 prog w A G env σ (.Expr (.Call (.Attribute o "append" apos) [e] [] pos) pos') (.nx ⟨σ.v, (a, .lst (ps ++ [p])) :: t⟩) := .mk fun B s oa m Q E kg S q => by
  refine wpAny_Expr (wpAny_Call_append hbase hfew hline htrees (ho.run s _ m _ _ (S.vars kg) fun v h₁ t₁ k₁ rv => ?_)) hi hs
  obtain rfl : v = .ref a := rv
  have S1 := S.keeps k₁
  have hm : (a, PV.lst ps) ∈ σ.t := by rw [ht]; exact List.mem_cons_self
  obtain ⟨_, vs, hL, r⟩ := S1.th _ hm
  refine ⟨a, vs.toArray, rfl, PlainList.toL hL, ?_⟩
  refine he.run { s with heap := h₁, toks := t₁ } _ m _ _ (S1.vars kg) fun y h₂ t₂ k₂ ry => ?_
  refine wpAny_list_append_plain (hL.at fun o => k₂ a o) (fun h₃ hL₃ hs => ?_) (by rw [List.size_toArray, r.length]; exact hsz)
  have haM : a ∈ Mu env B oa σ.t := mem_Mu (mem_own_th hm)
  have kh : Kp (hid h₂ (Mu env B oa σ.t)) (hid h₃ (Mu env B oa σ.t)) := fun b o e => by
    rw [hid_get] at e ⊢
    exact ⟨kb_of_sameBut hs b o (fun e' => e.2 (e' ▸ haM)) e.1, e.2⟩
  refine q _ h₃ t₂ ⟨rfl, oa, m, S1.updTh (p' := .lst (ps ++ [p])) k₂ ht (kb_of_sameBut hs) ⟨rfl, vs ++ [y], by simpa using hL₃, ?_⟩ (by obtain ⟨n, e⟩ := hL₃; exact ⟨_, e⟩)⟩
  exact (RepVs.mono ((k₂.hid _).trans kh) _ _ r).append (RepVs.one (RepV.mono kh _ _ ry))

/-- a table's own special methods -/
theorem setItem_h {f : Addr} {y : Option Value} {key v : Value} {Q : Unit → Shared → Prop} (H : HCls G C mt) (k : Kp G s.heap) (I : IsHdr s.heap C i a) (hf : mt "__setitem__" = some f) (hB : typeLookup (.type "object") "__setitem__" = pure y)
    (q : wpAny (model prog w) A (call (.ref f) [.ref i, key, v]) (fun _ s' => Q () s') E s) : wpAny (model prog w) A (setItem (.ref i) key v) Q E s := by
  refine LW.hideGoal fun GG hGG => ?_
  obtain ⟨hh, g, d, t, os⟩ := s
  refine hGG ?_
  clear hGG GG
  unfold setItem
  refine wpAny_holding (wpAny_bind (seqKey_h H k I ?_))
  refine wpAny_bind (wpAny_callSpecial?_own (ownSpecial_h H k I hf hB) (wpAny_mono q (fun v s' h' => ?_) fun _ _ e => e))
  exact wpAny_pure h'
theorem delItem_h {f : Addr} {y : Option Value} {key : Value} {Q : Unit → Shared → Prop} (H : HCls G C mt) (k : Kp G s.heap) (I : IsHdr s.heap C i a) (hf : mt "__delitem__" = some f) (hB : typeLookup (.type "object") "__delitem__" = pure y)
    (q : wpAny (model prog w) A (call (.ref f) [.ref i, key]) (fun _ s' => Q () s') E s) : wpAny (model prog w) A (delItem (.ref i) key) Q E s := by
  refine LW.hideGoal fun GG hGG => ?_
  obtain ⟨hh, g, d, t, os⟩ := s
  refine hGG ?_
  clear hGG GG
  unfold delItem
  refine wpAny_holding (wpAny_bind (seqKey_h H k I ?_))
  refine wpAny_bind (wpAny_callSpecial?_own (ownSpecial_h H k I hf hB) (wpAny_mono q (fun v s' h' => ?_) fun _ _ e => e))
  exact wpAny_pure h'
theorem lk_set : typeLookup (.type "object") "__setitem__" = pure Option.none := by rw [typeLookup_type, builtinLookup_eq_fast]; kernel_rfl
theorem lk_del : typeLookup (.type "object") "__delitem__" = pure Option.none := by rw [typeLookup_type, builtinLookup_eq_fast]; kernel_rfl

theorem Ex1.setT {o e value : PySem.Expr} {pos' pos : Pos} {k v : PV} {f : Addr} {r p p' : PV} {n : Nat} {t : List (Addr × PV)} (H : HCls G C mt) (hf : mt "__setitem__" = some f) (I : IsHdr G C i a) (ht : σ.t = (a, p) :: t) (hc : CallT prog w G n (.ref f) [.raw (.ref i), k, v] [] [(a, p)] r [(a, p')])
    (hv : Ev prog w G A env σ value v) (ho : Ev prog w G A env σ o (.raw (.ref i))) (he : Ev prog w G A env σ e k) (hA : Rm A n) (hs : swapsWith value (some (.Subscript o e pos')) pos.line env = pure false := by rfl) :
    Ex1 prog w A G env σ (.Assign [.Subscript o e pos'] value pos) (.nx ⟨σ.v, (a, p') :: t⟩) := .mk fun B s oa m Q E kg S q => by
  refine wpAny_Assign_Subscript (hv.run s _ m _ _ (S.vars kg) fun y h₁ t₁ k₁ ry => ho.run { s with heap := h₁, toks := t₁ } _ m _ _ ((S.keeps k₁).vars kg) fun ov h₂ t₂ k₂ ro => he.run { s with heap := h₂, toks := t₂ } _ m _ _ ((S.keeps (k₁.trans k₂)).vars kg) fun z h₃ t₃ k₃ rz => ?_) hs
  obtain rfl : ov = .ref i := ro
  have S3 := S.keeps ((k₁.trans k₂).trans k₃)
  have kG : Kp G h₃ := kg.trans (S3.base.trans (Kp.ofHid _ _))
  refine setItem_h (s := { s with heap := h₃, toks := t₃ }) H kG (I.mono kG) hf lk_set ?_
  refine St.callT (s := { s with heap := h₃, toks := t₃ }) S3 kg ht hc hA ⟨_, _, rfl, rfl, z, _, rfl, rz, y, _, rfl, RepV.mono ((k₂.trans k₃).hid _) _ _ ry, rfl⟩ rfl fun v h₄ t₄ S4 _ => ?_
  exact q _ h₄ t₄ ⟨rfl, oa, m, S4⟩
theorem Ex1.delT {o e : PySem.Expr} {pos' pos : Pos} {k : PV} {f : Addr} {r p p' : PV} {n : Nat} {t : List (Addr × PV)} (H : HCls G C mt) (hf : mt "__delitem__" = some f) (I : IsHdr G C i a) (ht : σ.t = (a, p) :: t) (hc : CallT prog w G n (.ref f) [.raw (.ref i), k] [] [(a, p)] r [(a, p')])
    (ho : Ev prog w G A env σ o (.raw (.ref i))) (he : Ev prog w G A env σ e k) (hA : Rm A n)
    (hd : delete (.Subscript o e pos') env = (do
      let ov ← eval o env
      let iv ← holding [ov] (eval e env)
      standAt pos'
      holding [ov, iv] (delItem ov iv)
      release [ov, iv] []) := by rfl) : Ex1 prog w A G env σ (.Delete [.Subscript o e pos'] pos) (.nx ⟨σ.v, (a, p') :: t⟩) := .mk fun B s oa m Q E kg S q => by
  refine wpAny_Delete (wpAny_deleteEach_cons ?_)
  rw [hd]
  refine wpAny_bind (ho.run s _ m _ _ (S.vars kg) fun ov h₂ t₂ k₂ ro => wpAny_bind (wpAny_holding (he.run { s with heap := h₂, toks := t₂ } _ m _ _ ((S.keeps k₂).vars kg) fun z h₃ t₃ k₃ rz => ?_)))
  obtain rfl : ov = .ref i := ro
  have S3 := S.keeps (k₂.trans k₃)
  have kG : Kp G h₃ := kg.trans (S3.base.trans (Kp.ofHid _ _))
  refine wpAny_bind (wpAny_standAt (wpAny_bind (wpAny_holding (delItem_h (s := { s with heap := h₃, toks := t₃ }) H kG (I.mono kG) hf lk_del ?_))))
  refine St.callT (s := { s with heap := h₃, toks := t₃ }) S3 kg ht hc hA ⟨_, _, rfl, rfl, z, _, rfl, rz, rfl⟩ rfl fun v h₄ t₄ S4 _ => ?_
  exact wpAny_release (wpAny_deleteEach_nil (q _ h₄ t₄ ⟨rfl, oa, m, S4⟩))

/-- a call that only reads the table -/
theorem Ev.frozen {o : PySem.Expr} {name : Str} {apos pos : Pos} {es : List PySem.Expr} {kws : List Keyword} {ps qs : List PV} {pks : List (Str × PV)} {f : Addr} {y : Option Value} {r : PV} {n : Nat}
    (H : HCls H0 C mt) (hf : mt name = some f) (I : IsHdr H0 C i a) (hm : (a, PV.lst qs) ∈ σ.t) (hc : CallT prog w H0 n (.ref f) (.hdr C qs :: ps) pks [] r []) (hr : ∀ F F' v, RepV prog w F r v → RepV prog w F' r v) (ho : Ev prog w H0 A env σ o (.raw (.ref i))) (ha : EvA prog w H0 A env σ pos es kws ps pks) (hA : Rm A n)
    (hB : typeLookup (.type "object") name = pure y) (hne : name ≠ "_headers" := by decide) (hbase : attributeBase o name env (eval o env) = eval o env := by rfl) (hline : (apos.endLine == pos.line) = true := by rfl)
    (hform : methodCallForm (es.length + kws.length) (backTo pos (starEach es env)) (backToKw pos (keywordEach kws env)) = true := by rfl) : Ev prog w H0 A env σ (.Call (.Attribute o name apos) es kws pos) r := .mk fun s M m Q E V q =>
  Call_meth H hf hne hB (SelfOk.raw I) ho ha hbase hline hform V fun j vs kvs h₁ t₁ k₁ r₁ r₂ r₃ => by
    have V1 := V.keeps k₁
    refine LW.hideGoal fun GG hGG => ?_
    obtain rfl : j = i := Value.ref.inj r₁
    obtain ⟨haM, _, us, hL, rL⟩ := V1.th _ hm
    refine hGG ?_
    clear hGG GG
    have sub : ∀ b ∈ M.filter fun b => b != a, b ∈ M := fun b hb => (List.mem_filter.mp hb).1
    have kh : Kp (hid h₁ M) (hid h₁ (M.filter fun b => b != a)) := Kp.hidSub h₁ sub
    have hna : a ∉ M.filter fun b => b != a := fun hm => by have := (List.mem_filter.mp hm).2; simp at this
    refine hc A { s with heap := h₁, toks := t₁ } (M.filter fun b => b != a) (M.filter fun b => b != a) (.ref j :: vs) kvs Q E hA (V1.base.trans kh) V1.sm (fun b hb => V1.ex b (sub b hb)) (fun a => by simp) (by simp) (by simp) (by simp)
      ⟨.ref j, vs, rfl, ⟨j, a, us, rfl, I.mono (V1.base.trans kh), hL.at fun o ho => hid_get.mpr ⟨ho, hna⟩, RepVs.mono kh _ _ rL⟩, RepVs.mono kh _ _ r₂⟩ (RepKs.mono kh _ _ r₃) fun v h₂ t₂ k₂ rv _ => ?_
    exact q v h₂ t₂ (k₁.trans fun b o e => k₂ b o (by simp) e) (hr _ _ v rv)
end
end LW
namespace LW
section
variable {prog : Program} {w : World} {A : Around} {E : Value → Shared → Prop} {s : Shared}
theorem items_ok {a : Addr} {o : Obj} {xs : Array Value} {n : Nat} {Q : Array Value → Shared → Prop} (ho : s.heap.get? a = some o) (hd : o.data = .seq xs n) (h : Q xs s) : wpAny (model prog w) A (Builtin.List.listItems (.ref a)) Q E s := by
  unfold Builtin.List.listItems
  exact wpAny_bind (wpAny_seqItems ho hd (wpAny_pure h))
theorem allItems_ok {a : Addr} {o : Obj} {xs : Array Value} {n : Nat} {msg : String} {Q : Array Value → Shared → Prop} (ho : s.heap.get? a = some o) (hc : o.cls = .type "list") (hd : o.data = .seq xs n) (h : Q xs s) : wpAny (model prog w) A (Builtin.List.listAllItems (.ref a) msg) Q E s := by
  unfold Builtin.List.listAllItems
  refine wpAny_bind (wpAny_typeOf (T := "list") ⟨o, ho, hc⟩ ?_)
  rw [if_pos (by decide)]
  refine wpAny_mono (items_ok ho hd h) (fun _ _ x => ?_) fun _ _ x => x
  exact x
theorem setItem_whole {l sl b : Addr} {items items2 : Array Value} {Q : Unit → Shared → Prop} (hl : s.heap.PlainList l items) (hs : s.heap.IsSliceOf sl .none .none .none) (hb : s.heap.IsList b items2) (hne : l ≠ b) (hsz : items.size + items2.size ≤ sizeLine)
    (q : ∀ h', h'.PlainList l items2 → Heap.SameBut l s.heap h' → Q () { s with heap := h' }) : wpAny (model prog w) A (setItem (.ref l) (.ref sl) (.ref b)) Q E s := by
  have hL := hl.isList
  refine LW.hideGoal fun GG hGG => ?_
  obtain ⟨o, ho, hc, ne, hd⟩ := id hL
  obtain ⟨os, hos, hcs, hds⟩ := id hs
  have hTs : s.TypeIs (.ref sl) "slice" := ⟨os, hos, hcs⟩
  obtain ⟨o2, ho2, hc2, ne2, hd2⟩ := id hb
  refine hGG ?_
  clear hGG GG
  unfold setItem
  refine wpAny_holding ?_
  refine wpAny_bind (wpAny_sequenceKey hL.typeIs (by decide) ?_)
  refine wpAny_bind (wpAny_callSpecial?_slot (name := Str.ofString "__setitem__") hL.typeIs slot_list_setitem
    (wpAny_call_entry slot_list_setitem hL.typeIs entry_list_setitem ?_ (args_list_setitem _ _ _)))
  show wpAny _ _ (Builtin.List.listSubscript? (.ref sl) >>= _) _ _ s
  refine wpAny_bind ?_
  unfold Builtin.List.listSubscript?
  refine wpAny_bind (wpAny_specialOf hTs slice_no_index ?_)
  rw [Option.isNone_none, if_pos rfl]
  refine wpAny_pure ?_
  show wpAny _ _ (typeOf (.ref sl) >>= _) _ _ s
  refine wpAny_bind (wpAny_typeOf hTs ?_)
  rw [if_neg (by decide)]
  rw [listSliceParts_eq]
  refine wpAny_bind (wpAny_bind (wpAny_field hos hds (x := .none) rfl (wpAny_bind (wpAny_listPart .none ?_))))
  rw [if_neg (show ¬ ((rawPart Option.none == rawInt 0) = true) from Bool.false_ne_true)]
  refine wpAny_bind (wpAny_field hos hds (x := .none) rfl (wpAny_bind (wpAny_listPart .none ?_)))
  refine wpAny_bind (wpAny_field hos hds (x := .none) rfl (wpAny_bind (wpAny_listPart .none (wpAny_pure ?_))))
  have hsr : ¬ (Builtin.List.listSameRef (.ref l) (.ref b) = true) := by simp [Builtin.List.listSameRef, hne]
  dsimp only
  rw [if_neg hsr]
  refine wpAny_bind (allItems_ok ho2 hc2 hd2 ?_)
  refine wpAny_bind (items_ok ho hd ?_)
  refine wpAny_bind (wpAny_of_eq (sliceIndices_raw Option.none Option.none Option.none items.size (by simp)) ?_)
  have hb0 : sliceBounds Option.none Option.none Option.none items.size = (0, (items.size : Int), 1) := by
    have := bounds_nat Option.none Option.none items.size
    simpa using this
  rw [hb0]
  rw [if_pos (show ((1 : Int) == 1) = true from rfl)]
  refine wpAny_bind (wpAny_rule ?_)
  have htl : ¬ (Builtin.List.listTooLong (items.size + items2.size) = true) := by
    unfold Builtin.List.listTooLong
    intro hc
    have := of_decide_eq_true hc
    omega
  rw [if_neg htl]
  have efn : (fun xs : Array Value => xs.extract 0 (0 : Int).toNat ++ items2 ++ xs.extract (max (0 : Int) (items.size : Int)).toNat) items = items2 := by
    have e : (max (0 : Int) (items.size : Int)).toNat = items.size := by omega
    show items.extract 0 (0 : Int).toNat ++ items2 ++ items.extract (max (0 : Int) (items.size : Int)).toNat = items2
    rw [e]
    simp
  obtain ⟨n, hlo⟩ := hl
  refine wpAny_bind (m := Builtin.List.listUpdate (.ref l) _) ?_
  show wpAny _ _ (updateSeq l _) _ _ _
  refine wpAny_updateSeq hlo rfl ?_ (by omega) (by have e2 := congrArg Array.size efn; exact Nat.le_trans (Nat.le_of_eq e2) (by omega))
  refine wpAny_bind (wpAny_letGo (wpAny_pure ⟨.none, rfl, wpAny_pure (q _ ?_ (Heap.SameBut.update ..))⟩))
  generalize hff : (fun xs : Array Value => xs.extract 0 (0 : Int).toNat ++ items2 ++ xs.extract (max (0 : Int) (items.size : Int)).toNat) = ff at efn
  have hL₂ := Heap.get?_update_self (Obj.mapSeq ff) hlo rfl
  have em : ∃ n', (Obj.mapSeq ff { cls := .type "list", data := .seq items n } : Obj) = { cls := .type "list", data := .seq items2 n' } := by
    unfold Obj.mapSeq; simp [efn]
  obtain ⟨n', em⟩ := em
  exact ⟨n', hL₂.trans (congrArg some em)⟩
end
section
variable {prog : Program} {w : World} {A : Around} {G H0 : Heap} {env : Env} {σ σ₂ σ₃ σc : Sy} {h h' : Heap} {M : List Addr} {m : Str → Option Value} {s : Shared} {C i a : Addr} {mt : Str → Option Addr} {E : Value → Shared → Prop} {B : Bs} {oa : OA}
/-- the list as a whole is changed -/
theorem Ex1.wholeT {o value : PySem.Expr} {sp pos' pos : Pos} {ps qs : List PV} {t : List (Addr × PV)} (ho : Ev prog w G A env σ o (.raw (.ref a))) (ht : σ.t = (a, .lst ps) :: t) (hv : EvN prog w G A env σ value (.lst qs)) (hsz : ps.length + qs.length ≤ sizeLine)
    (hs : swapsWith value (some (.Subscript o (.Slice none none none sp) pos')) pos.line env = pure false := by rfl) :
    Ex1 prog w A G env σ (.Assign [.Subscript o (.Slice none none none sp) pos'] value pos) (.nx ⟨σ.v, (a, .lst qs) :: t⟩) := .mk fun B s oa m Q E kg S q => by
  refine wpAny_Assign_Subscript (hv.run s _ m _ _ (S.vars kg) fun b v h₁ t₁ k₁ fr ov => ho.run { s with heap := h₁, toks := t₁ } _ m _ _ ((S.keeps k₁).vars kg) fun lv h₂ t₂ k₂ ro => ?_) hs
  obtain rfl : lv = .ref a := ro
  obtain ⟨rfl, us, hU, rU⟩ := ov
  refine wpAny_Slice (evalPart_none_step (evalPart_none_step (evalPart_none_step ?_)))
  dsimp only
  generalize hh : h₂.push { cls := .type "slice", data := .fields #[.none, .none, .none] } = h₃
  have k₃ : Kp h₂ h₃ := hh ▸ Kp.push _ _
  have hm : (a, PV.lst ps) ∈ σ.t := by rw [ht]; exact List.mem_cons_self
  have S3 := S.keeps ((k₁.trans k₂).trans k₃)
  refine LW.hideGoal fun GG hGG => ?_
  obtain ⟨_, vs, hL, r⟩ := S3.th _ hm
  refine hGG ?_
  clear hGG GG
  have hba : a ≠ b := fun e => by
    obtain ⟨o', ho'⟩ := S.ex a (mem_own_th hm); rw [e, fr] at ho'; cases ho'
  have hU3 : h₃.PlainList b us.toArray := hU.at fun o e => k₃ b o (k₂ b o e)
  have hsl : h₃.IsSliceOf h₂.objs.size .none .none .none := hh ▸ Heap.IsSliceOf.new ..
  refine setItem_whole (s := { s with heap := h₃, toks := t₂ }) hL hsl hU3.isList hba (by rw [List.size_toArray, List.size_toArray, r.length, rU.length]; exact hsz) fun h₄ hL₄ hs₄ => ?_
  have haM : a ∈ Mu env B oa σ.t := mem_Mu (mem_own_th hm)
  have kh : Kp (hid h₃ (Mu env B oa σ.t)) (hid h₄ (Mu env B oa σ.t)) := fun b o e => by
    rw [hid_get] at e ⊢
    exact ⟨kb_of_sameBut hs₄ b o (fun e' => e.2 (e' ▸ haM)) e.1, e.2⟩
  refine q _ h₄ t₂ ⟨rfl, oa, m, S3.updTh (p' := .lst qs) Kp.rfl ht (kb_of_sameBut hs₄) ⟨rfl, us, hL₄, ?_⟩ (by obtain ⟨n, e⟩ := hL₄; exact ⟨_, e⟩)⟩
  refine RepVs.mono (Kp.trans (Kp.trans (Kp.hidSub h₁ fun c hc => List.mem_cons_of_mem _ hc) ((k₂.trans k₃).hid _)) kh) _ _ rU

theorem body_delI {L : Addr} {qual : Str} {fa : Addr} {code : Value} {rs : List Road} {t : Town} {b : Bool} {n : Nat} (hA : Rm A (n + 1)) (D : Mdl G C mt) (I : IsHdr G C i a) (hl : rs.length ≤ 1000) :
    Ex prog w A G (fenv (hS 4) L qual fa code) ⟨[("self", .im (.raw (.ref i))), ("name", .im (.str (nm t b)))], [(a, roadsT rs)]⟩ (hB 4) (.nx ⟨[], [(a, roadsT (others rs t))]⟩) := by
  refine Ex.lowered (n := n) D (SelfOk.raw I) hA rfl rfl rfl rfl rfl ?_ rfl rfl
  refine Ex.post (Ex.step rfl (Ex1.wholeT (ps := rs.map pvRoad) (qs := (rs.filter fun r => r.1 != t).map pvRoad) (Ev.attrR D.hc I (Ev.name rfl)) rfl ?_ ?_) (Ex.done rfl)) trivial
  · refine EvN.compM (inj := pvRoad) (σc := ⟨[("name", .im (.str (nm t false)))], [(a, roadsT rs)]⟩) inj_road ⟨rfl, by decide +kernel, rfl, by decide +kernel, ⟨⟨rfl, .inl rfl, rfl, rfl⟩, trivial⟩, rfl, fun _ => rfl⟩ (It.listRd hA.1 (Rd.th (Ev.attrR D.hc I (Ev.name rfl)) (List.mem_singleton.mpr rfl))) ?_ (Nat.le_trans hl (by decide))
    intro Cc r hr
    refine ⟨⟨("kv", .im (pvRoad r)) :: _, [(a, roadsT rs)]⟩, rfl, cons_fresh rfl, CTgt.name, ?_, fun _ => Ev.name rfl⟩
    refine Tst.of (Tst.cmp CmpOk.neS (Ev.rd (Ev.m0 (Me0.lower (x := nm r.1 r.2.1) (by rw [nm_lower]; rfl)) (Ev.rd (Ev.sub (ItOk.tup (by decide) rfl (by decide)) (Ev.rd (Ev.name rfl)) (Ev.rd Ev.int))))) (Ev.rd (Ev.name rfl))) ?_
    rw [nm_lower, nm_ne]
  · rw [List.length_map, List.length_map]
    have : (rs.filter fun r => r.1 != t).length ≤ rs.length := List.length_filter_le _ _
    exact Nat.le_trans (show _ ≤ 2000 by omega) (by decide)
theorem meth_delI {n : Nat} {rs : List Road} {t : Town} {b : Bool} (D : Mdl G C mt) (I : IsHdr G C i a) (hl : rs.length ≤ 1000) : ∃ f, mt "__delitem__" = some f ∧ CallT prog w G (n + 2) (.ref f) [.raw (.ref i), .str (nm t b)] [] [(a, roadsT rs)] .none [(a, roadsT (others rs t))] := by
  obtain ⟨f, hf, F⟩ := D.delI
  refine ⟨f, hf, CallT.of (l := [("self", .raw (.ref i)), ("name", .str (nm t b))]) F ⟨rfl, by decide +kernel, by decide +kernel⟩ (fun s M vs kvs kg rv rk => ?_) (show (["self", "name"] : List Str).Nodup by decide +kernel) rfl rfl (.inr ⟨rfl, _, rfl, rfl⟩) fun A L qual code hA => body_delI hA D I hl⟩
  obtain ⟨v, u, rfl, hb⟩ := binds2 (x := "self") (y := "name") rv
  obtain rfl : kvs = [] := rk
  exact ⟨_, hb, fun nm q kd doc pm an code ct => BindsTo.of_eq rfl⟩

theorem Ev.pair {l r : PySem.Expr} {k₀ : Nat} {pos : Pos} {s g : Town} {u : Bool} (hl : Ev prog w H0 A env σ l (.str (nm s u))) (hr : Ev prog w H0 A env σ r (.str (nm g false))) (h1 : starEach (l :: [r]) env = (false, eval l env) :: starEach [r] env := by rfl) (h2 : starEach (r :: []) env = (false, eval r env) :: starEach [] env := by rfl) :
    Ev prog w H0 A env σ (.Tuple [l, r] k₀ pos) (pvRoad (s, u, g)) := Ev.tuple (EvL.cons hl (EvL.cons hr EvL.nil h2) h1)
theorem roads_snoc {rs : List Road} {r : Road} : PV.lst (rs.map pvRoad ++ [pvRoad r]) = roadsT (rs ++ [r]) := by unfold roadsT; rw [List.map_append]; rfl

theorem body_setI {L : Addr} {qual : Str} {fa : Addr} {code : Value} {rs : List Road} {t g : Town} {b : Bool} {n : Nat} (hA : Rm A (n + 2)) (D : Mdl G C mt) (I : IsHdr G C i a) (hl : rs.length ≤ 1000) :
    Ex prog w A G (fenv (hS 3) L qual fa code) ⟨[("self", .im (.raw (.ref i))), ("name", .im (.str (nm t b))), ("val", .im (.str (nm g false)))], [(a, roadsT rs)]⟩ (hB 3) (.nx ⟨[], [(a, roadsT (others rs t ++ [(t, b, g)]))]⟩) := by
  obtain ⟨f, hf, hc⟩ := meth_delI (prog := prog) (w := w) (n := n) (rs := rs) (t := t) (b := b) D I hl
  refine Ex.step rfl (Ex1.delT D.hc hf I rfl hc (Ev.name rfl) (Ev.name rfl) hA) ?_
  rw [← roads_snoc]
  refine Ex.post (Ex.step rfl (Ex1.appendT (Ev.attrR D.hc I (Ev.name rfl)) rfl (Ev.pair (Ev.conv (n := n + 1) D (SelfOk.raw I) (reNo_name t b) (nm_small t b) hA (Ev.name rfl) (Ev.name rfl) Ev.bool) (Ev.conv (n := n + 1) D (SelfOk.raw I) (reNo_value g false) (nm_small g false) hA (Ev.name rfl) (Ev.name rfl) Ev.bool)) ?_) (Ex.done rfl)) trivial
  rw [List.length_map]
  have : (others rs t).length ≤ rs.length := List.length_filter_le _ _
  exact Nat.le_trans (Nat.le_trans this hl) (by decide)
theorem meth_setI {n : Nat} {rs : List Road} {t g : Town} {b : Bool} (D : Mdl G C mt) (I : IsHdr G C i a) (hl : rs.length ≤ 1000) : ∃ f, mt "__setitem__" = some f ∧ CallT prog w G (n + 3) (.ref f) [.raw (.ref i), .str (nm t b), .str (nm g false)] [] [(a, roadsT rs)] .none [(a, roadsT (others rs t ++ [(t, b, g)]))] := by
  obtain ⟨f, hf, F⟩ := D.setI
  refine ⟨f, hf, CallT.of (l := [("self", .raw (.ref i)), ("name", .str (nm t b)), ("val", .str (nm g false))]) F ⟨rfl, by decide +kernel, by decide +kernel⟩ (fun s M vs kvs kg rv rk => ?_) (show (["self", "name", "val"] : List Str).Nodup by decide +kernel) rfl rfl (.inr ⟨rfl, _, rfl, rfl⟩) fun A L qual code hA => body_setI hA D I hl⟩
  refine LW.hideGoal fun GG hGG => ?_
  obtain ⟨v, r, rfl, h1, u, r', rfl, h2, x, r'', rfl, h3, rfl⟩ := rv
  obtain rfl : kvs = [] := rk
  refine hGG ?_
  clear hGG GG
  exact ⟨_, .cons h1 (.cons h2 (.cons h3 .nil)), fun nm q kd doc pm an code ct => BindsTo.of_eq rfl⟩
end
end LW
namespace LW
section
variable {prog : Program} {w : World} {A : Around} {G H0 : Heap} {env : Env} {σ σ₂ σ₃ σc : Sy} {h h' : Heap} {M : List Addr} {m : Str → Option Value} {s : Shared} {C i a : Addr} {mt : Str → Option Addr} {E : Value → Shared → Prop} {B : Bs} {oa : OA}

/-- a call whose binding makes new objects -/
theorem CallT.ofNew {a : Addr} {ps : Arguments} {body : List Stmt} {sc : Scope} {dflt : Value} {n : Nat} {pvs : List PV} {kws : List (Str × PV)} {t t' : List (Addr × PV)} {l : List (Str × PV)} {out : Out} {r : PV} (F : FunR G a ps body sc dflt) (hs : ScOk sc)
    (hb : ∀ (A : Around) (s : Shared) (M : List Addr) (vs : List Value) (kvs : List (Str × Value)) (Q : List (Str × Value) → Shared → Prop) (E : Value → Shared → Prop), (∃ o, s.heap.get? sysModules = some o) → (∀ a ∈ M, ∃ o, s.heap.get? a = some o) → RepVs prog w (hid s.heap M) pvs vs → RepKs prog w (hid s.heap M) kws kvs →
      ∀ nm q kd doc pm an code ct, (∀ h' binds, Kp s.heap h' → Binds prog w (hid h' M) l binds → Q binds { s with heap := h' }) → wpAny (model prog w) A (bindArgs ⟨nm, q, ps, .stmts body, sc, mainGlobals, [], dflt, kd, doc, pm, an, code, ct, builtinsNs⟩ ⟨vs, kvs⟩) Q E s)
    (hnd : (l.map (·.1)).Nodup) (hko : kindsOk sc l = true) (ht : t'.map (·.1) = t.map (·.1)) (hout : out = .rt r t' ∨ (r = .none ∧ ∃ σ, out = .nx σ ∧ σ.t = t'))
    (hbody : ∀ A L qual code, Rm A n → Ex prog w A G (fenv sc L qual a code) ⟨l.map fun y => (y.1, .im y.2), t⟩ body out)
    (hco : sc.isCoroutine = false := by rfl) (hgen : sc.isGenerator = false := by rfl) : CallT prog w G (n + 1) (.ref a) pvs kws t r t' := by
  intro A s0 M X vs kvs Q E hA kg0 sm0 ex0 MX ap nd th0 rv rk q0
  refine LW.hideGoal fun GG hGG => ?_
  obtain ⟨o, nm, qn, kd, doc, pm, an, code, ct, ho, hcls, hdict, hdata, hcode⟩ := F.it
  refine hGG ?_
  clear hGG GG
  have kgs0 : Kp G s0.heap := kg0.trans (Kp.ofHid _ _)
  refine wpAny_call (codeAny_call_function (by have := hA.2.1; show A.depth < 1000; omega) (kgs0 _ _ ho) hdata hco hgen rfl (hcode.keeps kgs0) (hb _ s0 M vs kvs _ _ sm0 ex0 rv rk nm qn kd doc pm an code ct fun hN binds kN hbs => ?_))
  generalize hsN : ({ s0 with heap := hN } : Shared) = s
  have eh : s.heap = hN := by rw [← hsN]
  have kg : Kp G (hid s.heap M) := by rw [eh]; exact kg0.trans (kN.hid M)
  have kgs : Kp G s.heap := kg.trans (Kp.ofHid _ _)
  have sm : ∃ o, s.heap.get? sysModules = some o := by obtain ⟨o, e⟩ := sm0; exact ⟨o, eh ▸ kN _ _ e⟩
  have ex : ∀ a ∈ M, ∃ o, s.heap.get? a = some o := fun a ha => by obtain ⟨o, e⟩ := ex0 a ha; exact ⟨o, eh ▸ kN _ _ e⟩
  have th : ∀ y ∈ t, OwnV prog w s.heap M y.1 (.ref y.1) y.2 := fun y hy => by rw [eh]; exact (th0 y hy).keeps kN
  have hbs : Binds prog w (hid s.heap M) l binds := by rw [eh]; exact hbs
  have q : ∀ v h' tk, (∀ b o, b ∉ t.map (·.1) → s.heap.get? b = some o → h'.get? b = some o) → RepV prog w (hid h' M) r v → (∀ y ∈ t', OwnV prog w h' M y.1 (.ref y.1) y.2) → Q v { s with heap := h', toks := tk } := fun v h' tk k r1 r2 => by
    have := q0 v h' tk (fun b o hb e => k b o hb (eh ▸ kN _ _ e)) r1 r2
    rw [← hsN]; exact this
  refine wpAny_newFunctionEnv_cells hs.kind (fun y hy => ?_) fun env he s' x => ?_
  · have hin : y.1 ∈ l.map (·.1) := by rw [← hbs.names]; exact List.mem_map.mpr ⟨_, hy, rfl⟩
    obtain ⟨z, hz, ez⟩ := List.mem_map.mp hin
    have hk1 := List.all_eq_true.mp hko z hz
    rw [ez] at hk1
    split at hk1
    · rename_i hk; exact .inl hk
    · rename_i hk; exact .inr ⟨hk, cellsFrom_some (.inl (lookup_mem' hk))⟩
    · cases hk1
  · subst he
    refine ⟨(F.lim.keeps kgs).keeps x.toInCall.keep, codeAny_func ?_⟩
    have S := enter (prog := prog) (w := w) (qual := qn) (fa := a) (code := code) (L := s.heap.objs.size) hs x MX ap nd ex sm hbs hnd hko th
    obtain ⟨h₁, t₁, es⟩ := x.toInCall.same
    subst es
    refine (hbody (A.deeper _) s.heap.objs.size qn code hA.deeper).run ⟨hid s.heap M, X, s.heap⟩ { s with heap := h₁, toks := t₁ } [] _ _ _ kg S fun f h' tk P => ?_
    have fin : ∀ {v : Value}, RtOk prog w ⟨hid s.heap M, X, s.heap⟩ h' r t' v → Q v { s with heap := h', toks := tk } := fun {v} R => by
      have eqM : ∀ b, b ∈ X ++ t'.map (·.1) ↔ b ∈ M := fun b => by rw [ht, List.mem_append]; exact (MX b).symm
      refine q v h' tk (fun b o hbt e => ?_) (RepV.mono (Kp.hidSub h' fun b hb => (eqM b).mpr hb) _ _ R.val) fun y hy => (R.th y hy).less fun b hb => (eqM b).mpr hb
      by_cases hbM : b ∈ M
      · rcases (MX b).mp hbM with hX | hT
        · obtain ⟨o', e1, e2⟩ := R.px b hX
          rw [e] at e1; cases e1; exact e2
        · exact (hbt hT).elim
      · exact Kp.ofHid _ _ b o (R.base b o (hid_get.mpr ⟨e, hbM⟩))
    rcases hout with rfl | ⟨rfl, σ', rfl, hσ⟩
    · obtain ⟨v, rfl, R⟩ := P
      exact fin R
    · obtain ⟨rfl, oa', m', S'⟩ := P
      have R := S'.fin (p := .none) (v := .none) rfl
      rw [hσ] at R
      exact fin R

/-- a loop over the items of an empty dict -/
theorem Ex1.items0 {tg o : PySem.Expr} {apos cpos pos : Pos} {body : List Stmt} (hA : A.handled = none) (ho : Ev prog w G A env σ o (.dct [])) (hbase : attributeBase o "items" env (eval o env) = eval o env := by rfl) (hline : (apos.endLine == cpos.line) = true := by rfl)
    (hs : ∀ x, foldedSetIterable (.Call (.Attribute o "items" apos) [] [] cpos) env x = pure x := by intro _; rfl) : Ex1 prog w A G env σ (.For tg (.Call (.Attribute o "items" apos) [] [] cpos) body [] pos) (.nx σ) := .mk fun B s oa m Q E kg S q => by
  refine wpAny_For (Call_method0 hbase hline (ho.run s _ m _ _ (S.vars kg) fun v h₁ t₁ k₁ r => ?_)) hs
  refine LW.hideGoal fun GG hGG => ?_
  obtain ⟨d, kvs, rfl, hsys, hD', rk⟩ := r
  obtain rfl : kvs = [] := rk
  refine hGG ?_
  clear hGG GG
  have hD : h₁.DictOf (PySem.strKind prog w) d [] := hD'.at fun o e => Kp.ofHid _ _ d o e
  refine ⟨"dict", "dict.items", F.plainAttrs_dict, F.slot_dict_items, F.type_dict_items, hD.mapOf.typeIs, fun a e => by cases e; exact hD.mapOf.noDict _ rfl, ?_⟩
  refine method_meetsIn F.slot_dict_items F.entry_dict_items rfl (PySem.evalArgs_none ⟨rfl, hD.mapOf.typeIs, F.args_dict_items_1 _, _, meets_dict_items (PySem.strKind prog w) d hsys, ⟨[], hD⟩, ?_⟩)
  have k2 := Kp.push h₁ { cls := .type "dict_items", data := .fields #[.ref d] }
  have hs2 : (h₁.push { cls := .type "dict_items", data := .fields #[.ref d] }).IsItemsView h₁.objs.size d := ⟨_, Heap.get?_push_size _ rfl, rfl, rfl⟩
  generalize hh2 : h₁.push { cls := .type "dict_items", data := .fields #[.ref d] } = h₂ at k2 hs2
  refine LW.hideGoal fun GG hGG => ?_
  obtain ⟨o', es', ep', hod, rD⟩ := id hD
  refine hGG ?_
  clear hGG GG
  have hAt : h₂.DictAt (PySem.strKind prog w) d [] ep' := ⟨o', es', k2 _ _ hod, rD⟩
  refine wpAny_pyIter_items (knd := PySem.strKind prog w) (d := d) (kvs := []) (ep := ep') hs2 hAt ?_
  have k3 := Kp.push h₂ { cls := .type "dict_itemiterator", data := .fields #[.none, .bool false, .ref d, .int 0 0, .int (([] : List (Str × Value)).length : Nat) 0, .int ep' 0, .none, .none] }
  have hit : IsItemIter (h₂.push { cls := .type "dict_itemiterator", data := .fields #[.none, .bool false, .ref d, .int 0 0, .int (([] : List (Str × Value)).length : Nat) 0, .int ep' 0, .none, .none] }) h₂.objs.size d 0 ([] : List (Str × Value)).length ep' .none .none := Heap.get?_push_size _ rfl
  generalize hh3 : h₂.push { cls := .type "dict_itemiterator", data := .fields #[.none, .bool false, .ref d, .int 0 0, .int (([] : List (Str × Value)).length : Nat) 0, .int ep' 0, .none, .none] } = h₃ at k3 hit
  have hAt3 : h₃.DictAt (PySem.strKind prog w) d [] ep' := ⟨o', es', k3 _ _ (k2 _ _ hod), rD⟩
  refine codeAny_forLoop_any (fun _ s' => s' = { s with heap := h₃, toks := t₁ }) (fun n s' e => ?_) 0 rfl
  subst e
  refine wpAny_pyNext_items_end (s := { s with heap := h₃, toks := t₁ }) hA hit hAt3 rfl fun h₄ k4 => wpAny_execs_nil ?_
  refine q _ h₄ t₁ ⟨rfl, oa, m, S.keeps ?_⟩
  have nI : s.heap.get? h₂.objs.size = none := none_of_kp (k₁.trans k2) (size_none h₂)
  exact fun b o e => k4 b o (fun e' => by rw [e', nI] at e; cases e) (k3 _ _ (k2 _ _ (k₁ _ _ e)))
end
end LW
namespace LW
section
variable {prog : Program} {w : World} {A : Around} {G H0 : Heap} {env : Env} {σ σ₂ σ₃ σc : Sy} {h h' : Heap} {M : List Addr} {m : Str → Option Value} {s : Shared} {C i a : Addr} {mt : Str → Option Addr} {E : Value → Shared → Prop} {B : Bs} {oa : OA}

theorem CmpOk.isNone' {p : PV} {b : Bool} (hp : ∀ (v : Value) (h : Heap) (M : List Addr), RdV prog w h M p v → (v == Value.none) = b) : CmpOk prog w A .Is p .none b := fun s M a c Q E r e q => by
  obtain rfl : c = .none := e
  show wpAny _ A (do return .bool (← isSame a .none)) Q E s
  rw [isSame_none]; refine wpAny_bind (wpAny_pure (wpAny_pure ?_)); rw [hp _ _ _ r]; exact q s.heap s.toks Kp.rfl
theorem none_is : ∀ (v : Value) (h : Heap) (M : List Addr), RdV prog w h M .none v → (v == Value.none) = true := fun v h M e => by obtain rfl : v = .none := e; rfl
theorem str_is {x : Str} : ∀ (v : Value) (h : Heap) (M : List Addr), RdV prog w h M (.str x) v → (v == Value.none) = false := fun v h M ⟨t, e⟩ => by subst e; rfl

noncomputable def sdRoads (rs : List Road) (t : Town) (b : Bool) (g : Town) : List Road := match rs.find? fun r => r.1 == t with | some _ => rs | none => rs ++ [(t, b, g)]
noncomputable def sdRes (rs : List Road) (t : Town) (g : Town) : PV := match rs.find? fun r => r.1 == t with | some r => .str (nm r.2.2 false) | none => .str (nm g false)
theorem body_setD {L : Addr} {qual : Str} {fa : Addr} {code : Value} {rs : List Road} {t g : Town} {b : Bool} {n : Nat} (hA : Rm A (n + 2)) (D : Mdl G C mt) (I : IsHdr G C i a) (hl : rs.length ≤ 1000) :
    Ex prog w A G (fenv (hS 15) L qual fa code) ⟨[("self", .im (.raw (.ref i))), ("name", .im (.str (nm t b))), ("value", .im (.str (nm g false)))], [(a, roadsT rs)]⟩ (hB 15) (.rt (sdRes rs t g) [(a, roadsT (sdRoads rs t b g))]) := by
  obtain ⟨f, hf, hc⟩ := meth_get (prog := prog) (w := w) (n := n) (rs := rs) (t := t) (b := b) D hl
  refine Ex.step rfl (Ex1.assign (p := getRes rs t) (Ev.frozen (qs := rs.map pvRoad) D.hc hf I (List.mem_singleton.mpr rfl) hc (fun F F' v r => ?_) (Ev.name rfl) (EvA.pos (EvL.cons (Ev.name rfl) EvL.nil)) hA lk_get)) ?_
  · unfold getRes at r ⊢
    cases hq : rs.find? fun r => r.1 == t with
    | some r' => rw [hq] at r; exact r
    | none => rw [hq] at r; exact r
  · unfold getRes sdRes sdRoads
    cases hq : rs.find? fun r => r.1 == t with
    | some r' =>
      exact Ex.last rfl (Ex1.ite (b := false) (Tst.cmp (CmpOk.isNone' str_is) (Ev.rd (Ev.name rfl)) (Ev.rd Ev.none)) (fun h => by cases h) (fun _ => Ex.last rfl (Ex1.ret (Ev.name rfl))))
    | none =>
      refine Ex.last rfl (Ex1.ite (b := true) (Tst.cmp (CmpOk.isNone' none_is) (Ev.rd (Ev.name rfl)) (Ev.rd Ev.none)) (fun _ => ?_) (fun h => by cases h))
      rw [← roads_snoc]
      refine Ex.step rfl (Ex1.appendT (ps := rs.map pvRoad) (Ev.attrR D.hc I (Ev.name rfl)) rfl (Ev.pair (Ev.conv (n := n + 1) D (SelfOk.raw I) (reNo_name t b) (nm_small t b) hA (Ev.name rfl) (Ev.name rfl) Ev.bool) (Ev.conv (n := n + 1) D (SelfOk.raw I) (reNo_value g false) (nm_small g false) hA (Ev.name rfl) (Ev.name rfl) Ev.bool)) ?_) ?_
      · rw [List.length_map]; exact Nat.le_trans hl (by decide)
      · exact Ex.last rfl (Ex1.ret (Ev.name rfl))
theorem meth_setD {n : Nat} {rs : List Road} {t g : Town} {b : Bool} (D : Mdl G C mt) (I : IsHdr G C i a) (hl : rs.length ≤ 1000) : ∃ f, mt "setdefault" = some f ∧ CallT prog w G (n + 3) (.ref f) [.raw (.ref i), .str (nm t b), .str (nm g false)] [] [(a, roadsT rs)] (sdRes rs t g) [(a, roadsT (sdRoads rs t b g))] := by
  obtain ⟨f, hf, F⟩ := D.setD
  refine ⟨f, hf, CallT.of (l := [("self", .raw (.ref i)), ("name", .str (nm t b)), ("value", .str (nm g false))]) F ⟨rfl, by decide +kernel, by decide +kernel⟩ (fun s M vs kvs kg rv rk => ?_) (show (["self", "name", "value"] : List Str).Nodup by decide +kernel) rfl rfl (.inl rfl) fun A L qual code hA => body_setD hA D I hl⟩
  refine LW.hideGoal fun GG hGG => ?_
  obtain ⟨v, r, rfl, h1, u, r', rfl, h2, x, r'', rfl, h3, rfl⟩ := rv
  obtain rfl : kvs = [] := rk
  refine hGG ?_
  clear hGG GG
  exact ⟨_, .cons h1 (.cons h2 (.cons h3 .nil)), fun nm q kd doc pm an code ct => BindsTo.of_eq rfl⟩
theorem sdRes_noref {rs : List Road} {t g : Town} : ∀ F v, RepV prog w F (sdRes rs t g) v → ∀ b, v ≠ .ref b := fun F v r b e => by
  unfold sdRes at r
  cases hq : rs.find? fun r => r.1 == t with
  | some r' => rw [hq] at r; obtain ⟨t, e'⟩ := r; rw [e'] at e; cases e
  | none => rw [hq] at r; obtain ⟨t, e'⟩ := r; rw [e'] at e; cases e

theorem join_one : ∀ g : Town, Txt.join "; " [nm g false] = nm g false := by decide +kernel
theorem joinOk_one : ∀ g : Town, JoinOk "; " [nm g false] = true := by decide +kernel
theorem body_addH {L : Addr} {qual : Str} {fa : Addr} {code : Value} {rs : List Road} {t g : Town} {b : Bool} {n : Nat} (hA : Rm A (n + 1)) (D : Mdl G C mt) (I : IsHdr G C i a) (hl : rs.length ≤ 1000) :
    Ex prog w A G (fenv (hS 16) L qual fa code) ⟨[("self", .im (.raw (.ref i))), ("_name", .im (.str (nm t b))), ("_value", .im (.str (nm g false))), ("_params", .im (.dct []))], [(a, roadsT rs)]⟩ (hB 16) (.nx ⟨[], [(a, roadsT (rs ++ [(t, b, g)]))]⟩) := by
  refine Ex.step rfl (Ex1.assignN (EvN.list EvL.nil)) ?_
  refine Ex.step rfl (Ex1.ite (out := .nx ⟨[("parts", .ow (.lst [.str (nm g false)])), ("self", .im (.raw (.ref i))), ("_name", .im (.str (nm t b))), ("_params", .im (.dct []))], [(a, roadsT rs)]⟩) (b := true) (Tst.cmp (CmpOk.isNotNone str_not_none) (Ev.rd (Ev.name rfl)) (Ev.rd Ev.none)) (fun _ => ?_) (fun h => by cases h)) ?_
  · refine Ex.step rfl (Ex1.assign (Ev.conv (n := n) D (SelfOk.raw I) (reNo_value g false) (nm_small g false) hA (Ev.name rfl) (Ev.name rfl) Ev.bool)) ?_
    exact Ex.post (Ex.step rfl (Ex1.append rfl (Ev.name rfl) (by decide)) (Ex.done rfl)) ⟨rfl, rfl, rfl, rfl, trivial⟩
  · refine Ex.step rfl (Ex1.items0 hA.1 (Ev.name rfl)) ?_
    rw [← roads_snoc]
    refine Ex.post (Ex.step rfl (Ex1.appendT (ps := rs.map pvRoad) (Ev.attrR D.hc I (Ev.name rfl)) rfl (Ev.pair (Ev.conv (n := n) D (SelfOk.raw I) (reNo_name t b) (nm_small t b) hA (Ev.name rfl) (Ev.name rfl) Ev.bool) (Ev.of (Ev.m1 (Me1.join (texts := [nm g false]) (joinOk_one g)) (Ev.rd Ev.str) (Rd.own rfl)) (by rw [join_one]))) ?_) (Ex.done rfl)) trivial
    rw [List.length_map]; exact Nat.le_trans hl (by decide)
theorem meth_addH {n : Nat} {rs : List Road} {t g : Town} {b : Bool} (D : Mdl G C mt) (I : IsHdr G C i a) (hl : rs.length ≤ 1000) : ∃ f, mt "add_header" = some f ∧ CallT prog w G (n + 2) (.ref f) [.raw (.ref i), .str (nm t b), .str (nm g false)] [] [(a, roadsT rs)] .none [(a, roadsT (rs ++ [(t, b, g)]))] := by
  obtain ⟨f, hf, F⟩ := D.addH
  refine ⟨f, hf, CallT.ofNew (l := [("self", .raw (.ref i)), ("_name", .str (nm t b)), ("_value", .str (nm g false)), ("_params", .dct [])]) F ⟨rfl, by decide +kernel, by decide +kernel⟩ (fun A s M vs kvs Q E sm ex rv rk => ?_) (show (["self", "_name", "_value", "_params"] : List Str).Nodup by decide +kernel) rfl rfl (.inr ⟨rfl, _, rfl, rfl⟩) fun A L qual code hA => body_addH hA D I hl⟩
  refine LW.hideGoal fun GG hGG => ?_
  obtain ⟨v, r, rfl, h1, u, r', rfl, h2, x, r'', rfl, h3, rfl⟩ := rv
  obtain rfl : kvs = [] := rk
  refine hGG ?_
  clear hGG GG
  intro nm' q kd doc pm an code ct qq
  have key : bindArgs ⟨nm', q, hA 16, .stmts (hB 16), hS 16, mainGlobals, [], .none, kd, doc, pm, an, code, ct, builtinsNs⟩ ⟨[v, u, x], []⟩ = ((alloc { cls := .type "dict", data := .dict #[] } : Sem Addr) >>= fun d => (pure ([("self", v), ("_name", u), ("_value", x), ("_params", .ref d)] : List (Str × Value)) : Sem (List (Str × Value)))) := rfl
  rw [key]
  refine wpAny_bind (wpAny_alloc (wpAny_pure ?_))
  have kp := Kp.push s.heap { cls := .type "dict", data := .dict #[] }
  have hn : s.heap.objs.size ∉ M := fresh_not_mem ex (size_none s.heap)
  refine qq _ _ kp (.cons (RepV.mono (kp.hid M) _ _ h1) (.cons (RepV.mono (kp.hid M) _ _ h2) (.cons (RepV.mono (kp.hid M) _ _ h3) (.cons ⟨s.heap.objs.size, [], rfl, not_sys sm (size_none s.heap), ?_, rfl⟩ .nil))))
  exact (Heap.DictOf.new s.heap).at fun o e => hid_get.mpr ⟨e, hn⟩
theorem lk_addH : typeLookup (.type "object") "add_header" = pure Option.none := by rw [typeLookup_type, builtinLookup_eq_fast]; kernel_rfl
theorem lk_setD : typeLookup (.type "object") "setdefault" = pure Option.none := by rw [typeLookup_type, builtinLookup_eq_fast]; kernel_rfl
end
end LW
namespace LW
noncomputable def mkCode : Mark → Int
  | .add => 51 | .put => 53 | .lay => 42 | .del => 37
noncomputable def dRoads (k : Mark) (rs : List Road) (t : Town) (b : Bool) (g : Town) : List Road := match k with
  | .add => rs ++ [(t, b, g)]
  | .put => others rs t ++ [(t, b, g)]
  | .lay => sdRoads rs t b g
  | .del => others rs t
section
variable {prog : Program} {w : World} {A : Around} {G H0 : Heap} {env : Env} {σ σ₂ σ₃ σc : Sy} {h h' : Heap} {M : List Addr} {m : Str → Option Value} {s : Shared} {C i a : Addr} {mt : Str → Option Addr} {E : Value → Shared → Prop} {B : Bs} {oa : OA}

theorem none_noref : ∀ F v, RepV prog w F .none v → ∀ b, v ≠ .ref b := fun F v r b e => by obtain rfl : v = .none := r; cases e
theorem body_deed {L : Addr} {qual : Str} {fa : Addr} {code : Value} {rs : List Road} {k : Mark} {t g : Town} {b : Bool} {n : Nat} (hA : Rm A (n + 3)) (D : Mdl G C mt) (I : IsHdr G C i a) (hl : rs.length ≤ 1000) :
    Ex prog w A G (fenv (dS 75) L qual fa code) ⟨[("table", .im (.raw (.ref i))), ("deed", .im (.int (mkCode k))), ("name", .im (.str (nm t b))), ("goal", .im (.str (nm g false)))], [(a, roadsT rs)]⟩ (dB 75)
      (.nx ⟨[("table", .im (.raw (.ref i))), ("deed", .im (.int (mkCode k))), ("name", .im (.str (nm t b))), ("goal", .im (.str (nm g false)))], [(a, roadsT (dRoads k rs t b g))]⟩) := by
  refine LW.hideGoal fun GG hGG => ?_
  obtain ⟨f1, hf1, hc1⟩ := meth_addH (prog := prog) (w := w) (n := n + 1) (rs := rs) (t := t) (b := b) (g := g) D I hl
  obtain ⟨f2, hf2, hc2⟩ := meth_setI (prog := prog) (w := w) (n := n) (rs := rs) (t := t) (b := b) (g := g) D I hl
  obtain ⟨f3, hf3, hc3⟩ := meth_setD (prog := prog) (w := w) (n := n) (rs := rs) (t := t) (b := b) (g := g) D I hl
  obtain ⟨f4, hf4, hc4⟩ := meth_delI (prog := prog) (w := w) (n := n + 1) (rs := rs) (t := t) (b := b) D I hl
  refine hGG ?_
  clear hGG GG
  have args : ∀ {e1 e2 : PySem.Expr} {σ' : Sy} {pos : Pos}, Ev prog w G A (fenv (dS 75) L qual fa code) σ' e1 (.str (nm t b)) → Ev prog w G A (fenv (dS 75) L qual fa code) σ' e2 (.str (nm g false)) → starEach [e1, e2] (fenv (dS 75) L qual fa code) = (false, eval e1 (fenv (dS 75) L qual fa code)) :: starEach [e2] (fenv (dS 75) L qual fa code) →
      starEach [e2] (fenv (dS 75) L qual fa code) = (false, eval e2 (fenv (dS 75) L qual fa code)) :: starEach [] (fenv (dS 75) L qual fa code) → EvA prog w G A (fenv (dS 75) L qual fa code) σ' pos [e1, e2] [] [.str (nm t b), .str (nm g false)] [] := fun h1 h2 e1 e2 => EvA.pos (EvL.cons h1 (EvL.cons h2 EvL.nil e2) e1) ⟨_, _, by rw [e1]; rfl⟩
  cases k with
  | add =>
    refine Ex.step rfl (Ex1.ite (b := true) (Tst.cmp CmpOk.eqI (Ev.rd (Ev.name rfl)) (Ev.rd Ev.int)) (fun _ => ?_) (fun h => by cases h)) (Ex.done rfl)
    exact Ex.step rfl (Ex1.methT D.hc hf1 I rfl hc1 (Ev.name rfl) (args (Ev.name rfl) (Ev.name rfl) rfl rfl) hA lk_addH none_noref) (Ex.done rfl)
  | put =>
    refine Ex.step rfl (Ex1.ite (b := false) (Tst.cmp CmpOk.eqI (Ev.rd (Ev.name rfl)) (Ev.rd Ev.int)) (fun h => by cases h) (fun _ => ?_)) (Ex.done rfl)
    refine Ex.step rfl (Ex1.ite (b := true) (Tst.cmp CmpOk.eqI (Ev.rd (Ev.name rfl)) (Ev.rd Ev.int)) (fun _ => ?_) (fun h => by cases h)) (Ex.done rfl)
    exact Ex.step rfl (Ex1.setT D.hc hf2 I rfl hc2 (Ev.name rfl) (Ev.name rfl) (Ev.name rfl) hA) (Ex.done rfl)
  | lay =>
    refine Ex.step rfl (Ex1.ite (b := false) (Tst.cmp CmpOk.eqI (Ev.rd (Ev.name rfl)) (Ev.rd Ev.int)) (fun h => by cases h) (fun _ => ?_)) (Ex.done rfl)
    refine Ex.step rfl (Ex1.ite (b := false) (Tst.cmp CmpOk.eqI (Ev.rd (Ev.name rfl)) (Ev.rd Ev.int)) (fun h => by cases h) (fun _ => ?_)) (Ex.done rfl)
    refine Ex.step rfl (Ex1.ite (b := true) (Tst.cmp CmpOk.eqI (Ev.rd (Ev.name rfl)) (Ev.rd Ev.int)) (fun _ => ?_) (fun h => by cases h)) (Ex.done rfl)
    exact Ex.step rfl (Ex1.methT D.hc hf3 I rfl hc3 (Ev.name rfl) (args (Ev.name rfl) (Ev.name rfl) rfl rfl) hA lk_setD sdRes_noref) (Ex.done rfl)
  | del =>
    refine Ex.step rfl (Ex1.ite (b := false) (Tst.cmp CmpOk.eqI (Ev.rd (Ev.name rfl)) (Ev.rd Ev.int)) (fun h => by cases h) (fun _ => ?_)) (Ex.done rfl)
    refine Ex.step rfl (Ex1.ite (b := false) (Tst.cmp CmpOk.eqI (Ev.rd (Ev.name rfl)) (Ev.rd Ev.int)) (fun h => by cases h) (fun _ => ?_)) (Ex.done rfl)
    refine Ex.step rfl (Ex1.ite (b := false) (Tst.cmp CmpOk.eqI (Ev.rd (Ev.name rfl)) (Ev.rd Ev.int)) (fun h => by cases h) (fun _ => ?_)) (Ex.done rfl)
    refine Ex.step rfl (Ex1.ite (b := true) (Tst.cmp CmpOk.eqI (Ev.rd (Ev.name rfl)) (Ev.rd Ev.int)) (fun _ => ?_) (fun h => by cases h)) (Ex.done rfl)
    exact Ex.step rfl (Ex1.delT D.hc hf4 I rfl hc4 (Ev.name rfl) (Ev.name rfl) hA) (Ex.done rfl)
/-- the call of _law_deed -/
noncomputable def DeedFn (prog : Program) (w : World) (G : Heap) (C : Addr) (n : Nat) : Prop := ∃ fa o fd, GVal G "_law_deed" (.ref fa) ∧ G.get? fa = some o ∧ o.data = .func fd ∧ ∀ (rs : List Road) (k : Mark) (t g : Town) (b : Bool) (G' : Heap) (i a : Addr), rs.length ≤ 1000 → Kp G G' → IsHdr G' C i a →
  CallT prog w G' n (.ref fa) [.raw (.ref i), .int (mkCode k), .str (nm t b), .str (nm g false)] [] [(a, roadsT rs)] .none [(a, roadsT (dRoads k rs t b g))]
theorem fn_deed {n : Nat} (F : FunG G "_law_deed" 75) (D : Mdl G C mt) : DeedFn prog w G C (n + 4) := by
  refine LW.hideGoal fun GG hGG => ?_
  obtain ⟨fa, hg, F⟩ := F
  obtain ⟨o, fd, ho, hfd⟩ := isFunc F
  refine hGG ?_
  clear hGG GG
  refine ⟨fa, o, fd, hg, ho, hfd, fun rs k t g b G' i a hl kG I => CallT.of (l := [("table", .raw (.ref i)), ("deed", .int (mkCode k)), ("name", .str (nm t b)), ("goal", .str (nm g false))]) (F.mono kG) ⟨rfl, by decide +kernel, by decide +kernel⟩ (fun s M vs kvs kg rv rk => ?_) (show (["table", "deed", "name", "goal"] : List Str).Nodup by decide +kernel) rfl rfl
    (.inr ⟨rfl, _, rfl, rfl⟩) fun A L qual code hA => body_deed hA (D.mono kG) I hl⟩
  refine LW.hideGoal fun GG hGG => ?_
  obtain ⟨v, r, rfl, h1, u, r', rfl, h2, x, r'', rfl, h3, y, r3, rfl, h4, rfl⟩ := rv
  obtain rfl : kvs = [] := rk
  refine hGG ?_
  clear hGG GG
  exact ⟨_, .cons h1 (.cons h2 (.cons h3 (.cons h4 .nil))), fun nm q kd doc pm an code ct => BindsTo.of_eq rfl⟩

theorem EvN.ite {t x y : PySem.Expr} {pos : Pos} {b : Bool} {p : PV} (ht : Tst prog w H0 A env σ t b) (hx : b = true → EvN prog w H0 A env σ x p) (hy : b = false → EvN prog w H0 A env σ y p) :
    EvN prog w H0 A env σ (.IfExp t x y pos) p := .mk fun s M m Q E V q =>
  wpAny_IfExp (ht.run s M m _ _ V fun h' tk k => by
    cases b with
    | true => exact (hx (Eq.refl _)).run _ M m _ _ (V.keeps k) fun a v h'' tk' k' f r => q a v h'' tk' (k.trans k') (none_of_kp k f) r
    | false => exact (hy (Eq.refl _)).run _ M m _ _ (V.keeps k) fun a v h'' tk' k' f r => q a v h'' tk' (k.trans k') (none_of_kp k f) r)
/-- the type of an own list, asked -/
theorem Ev.typeOfL {np pos : Pos} {e : PySem.Expr} {l : List PV} (hf : Ev prog w H0 A env σ (.Name "type" np) (.raw (.type "type"))) (he : Rd prog w H0 A env σ e (.lst l)) (hs : starEach [e] env = [(false, eval e env)] := by rfl) :
    Ev prog w H0 A env σ (.Call (.Name "type" np) [e] [] pos) (.raw (.type "list")) := .mk fun s M m Q E V q =>
  call_typ V hf he (fun v h₁ t₁ k₁ r => by
    refine LW.hideGoal fun GG hGG => ?_
    obtain ⟨a, vs, rfl, hL, _⟩ := r
    refine hGG ?_
    clear hGG GG
    exact call_type_of (s := { s with heap := h₁, toks := t₁ }) hL.isList.typeIs (by decide) (q _ h₁ t₁ k₁ rfl)) hs
/-- a loop over an empty list -/
theorem Ex1.for0 {tg e : PySem.Expr} {pos : Pos} {body : List Stmt} (hA : A.handled = none) (he : Rd prog w G A env σ e (.lst [])) (hs : ∀ x, foldedSetIterable e env x = pure x := by intro _; rfl) : Ex1 prog w A G env σ (.For tg e body [] pos) (.nx σ) := .mk fun B s oa m Q E kg S q => by
  refine wpAny_For ((It.listRd (tg := tg) hA he).run s _ m _ _ (S.vars kg) fun I fp wr inv mid h0 tk0 k0 W i0 fr _ => ?_) hs
  refine codeAny_forLoop_any (fun _ s' => s' = { s with heap := h0, toks := tk0 }) (fun n s' e => ?_) 0 rfl
  subst e
  refine W.done { s with heap := h0, toks := tk0 } _ _ i0 fun h' tk' k => wpAny_execs_nil ?_
  refine q _ h' tk' ⟨rfl, oa, m, S.keeps fun b o e => k b o (fun hw => by rw [fr b hw] at e; cases e) (k0 b o e)⟩
theorem Tst.debug {pos : Pos} : Tst prog w H0 A env σ (.Name "__debug__" pos) true := .mk fun s M m Q E V q =>
  wpAny_isTrue_value (wpAny_bind (wpAny_standAt (by
    show wpAny _ _ debugConstant _ _ _
    exact wpAny_bind (wpAny_rule (wpAny_pure (wpAny_truthy_bool (q s.heap s.toks Kp.rfl)))))))
end
end LW
namespace LW
section
variable {prog : Program} {w : World} {A : Around} {G H0 : Heap} {env : Env} {σ σ₂ σ₃ σc : Sy} {h h' : Heap} {M : List Addr} {m : Str → Option Value} {s : Shared} {C i a : Addr} {mt : Str → Option Addr} {B : Bs} {oa : OA}

theorem Rm.make {n : Nat} (r : Rm A (n + 1)) : Rm (A.under (.builtin "type.__call__" ⟨[.ref C], []⟩)) n := by
  obtain ⟨h1, h2, h3⟩ := r
  have hw : (Code.builtin "type.__call__" ⟨[.ref C], []⟩).weight ≤ 1 := Nat.le_of_eq rfl
  have hu : (Code.builtin "type.__call__" ⟨[.ref C], []⟩).cUnits = 1 := rfl
  refine ⟨h1, ?_, ?_⟩
  · show A.depth + (Code.builtin "type.__call__" ⟨[.ref C], []⟩).weight + n ≤ 900; omega
  · show A.units + (Code.builtin "type.__call__" ⟨[.ref C], []⟩).cUnits + 3 * n + 100 < cLine
    rw [hu]; omega

/-- a call, up to its frame -/
theorem call_frame {a : Addr} {ps : Arguments} {body : List Stmt} {sc : Scope} {dflt : Value} {l : List (Str × PV)} {n : Nat} {vs : List Value} {Q : Value → Shared → Prop} {E : Value → Shared → Prop} (F : FunR G a ps body sc dflt) (hs : ScOk sc) (hA : Rm A (n + 1)) (kg : Kp G (hid s.heap M))
    (sm : ∃ o, s.heap.get? sysModules = some o) (ex : ∀ a ∈ M, ∃ o, s.heap.get? a = some o) (hb : ∃ binds, Binds prog w (hid s.heap M) l binds ∧ ∀ nm q kd doc pm an code ct, BindsTo s ⟨nm, q, ps, .stmts body, sc, mainGlobals, [], dflt, kd, doc, pm, an, code, ct, builtinsNs⟩ ⟨vs, []⟩ binds)
    (hnd : (l.map (·.1)).Nodup) (hko : kindsOk sc l = true)
    (hbody : ∀ A' L qual code h₁ t₁ m (E' : Value → Shared → Prop), Rm A' n → Kp s.heap h₁ → St prog w ⟨hid s.heap M, M, s.heap⟩ (fenv sc L qual a code) ⟨l.map fun y => (y.1, .im y.2), []⟩ h₁ [] m →
      wpAny (model prog w) A' (execs body (fenv sc L qual a code)) (fun f s' => Q (match f with | .ret v => v | _ => .none) s') E' { s with heap := h₁, toks := t₁ })
    (hco : sc.isCoroutine = false := by rfl) (hgen : sc.isGenerator = false := by rfl) : wpAny (model prog w) A (call (.ref a) vs []) Q E s := by
  refine LW.hideGoal fun GG hGG => ?_
  obtain ⟨o, nm, qn, kd, doc, pm, an, code, ct, ho, hcls, hdict, hdata, hcode⟩ := F.it
  obtain ⟨binds, hbs, hbt⟩ := hb
  refine hGG ?_
  clear hGG GG
  have kgs : Kp G s.heap := kg.trans (Kp.ofHid _ _)
  refine wpAny_call (codeAny_call_function (by have := hA.2.1; show A.depth < 1000; omega) (kgs _ _ ho) hdata hco hgen rfl (hcode.keeps kgs) (hbt nm qn kd doc pm an code ct _ _ _ _ ?_))
  refine wpAny_newFunctionEnv_cells hs.kind (fun y hy => ?_) fun env he s' x => ?_
  · have hin : y.1 ∈ l.map (·.1) := by rw [← hbs.names]; exact List.mem_map.mpr ⟨_, hy, rfl⟩
    obtain ⟨z, hz, ez⟩ := List.mem_map.mp hin
    have hk1 := List.all_eq_true.mp hko z hz
    rw [ez] at hk1
    split at hk1
    · rename_i hk; exact .inl hk
    · rename_i hk; exact .inr ⟨hk, cellsFrom_some (.inl (lookup_mem' hk))⟩
    · cases hk1
  · subst he
    refine ⟨(F.lim.keeps kgs).keeps x.toInCall.keep, codeAny_func ?_⟩
    have S := enter (prog := prog) (w := w) (qual := qn) (fa := a) (code := code) (L := s.heap.objs.size) (t := []) (X := M) hs x (fun a => by simp) (by simp) (by simp) ex sm hbs hnd hko (by simp)
    obtain ⟨h₁, t₁, es⟩ := x.toInCall.same
    subst es
    exact hbody (A.deeper _) s.heap.objs.size qn code h₁ t₁ _ _ hA.deeper x.toInCall.keep S

theorem glob_headers {np pos : Pos} {Q : Value → Shared → Prop} {E : Value → Shared → Prop} {n : Nat} (D : Mdl H0 C mt) (hk : env.kindOf "Headers" = some .globalImplicit) (hA : Rm A (n + 2)) (V : Vars prog w H0 s.heap M env σ m)
    (q : ∀ a v h' tk, Kp s.heap h' → s.heap.get? a = none → OwnV prog w h' (a :: M) a v (.hdr C []) → Q v { s with heap := h', toks := tk }) : wpAny (model prog w) A (eval (.Call (.Name "Headers" np) [] [] pos) env) Q E s := by
  rw [arm_eval_Call_Name']
  refine wpAny_bind ((Ev.glob D.hcG hk).run s M m _ _ V fun f h₁ t₁ k₁ r => ?_)
  refine LW.hideGoal fun GG hGG => ?_
  obtain rfl : f = .ref C := r
  have V1 := V.keeps k₁
  obtain ⟨⟨nm, q', N, bs, sn, sub, col, dd, k0, k1', k2, k3, k5, mN, e1, e2, e3, e4, e5, e6, e7⟩, hfn⟩ := D.hc.mono V1.kp
  obtain ⟨f, T, oT, nT, hf, F, hT, hTd⟩ := D.init
  obtain ⟨oI, fdI, i1, i2, i3⟩ := hfn _ f hf
  refine hGG ?_
  clear hGG GG
  refine callWith_cls0 (h₀ := h₁) (s := { s with heap := h₁, toks := t₁ }) ⟨⟨nm, q', bs, sn, sub, col, dd, k0, k1', k2, k3, k5, e1⟩, e2⟩ (fun _ _ e => e) ?_
  refine wpAny_call_obj_init (mN := mN) PySem.F.objNew e1 e2 (e7 _ _ hf) i1 i2 fun h₂ x dx hm => ?_
  refine LW.hideGoal fun GG hGG => ?_
  obtain ⟨ox, hox, hcx, hncx, hdx⟩ := hm.inst
  refine hGG ?_
  clear hGG GG
  have hdict := hm.dict ox hox
  have hxdx : dx ≠ x ∧ h₂.Ns1 dx (fun _ => none) := by
    rcases hdx with ⟨hn, _⟩ | ⟨d', hd', hne, hns⟩
    · rw [hdict] at hn; cases hn
    · rw [hdict] at hd'; cases hd'; exact ⟨hne, hns⟩
  have exx : ∃ o, h₂.get? x = some o := ⟨ox, hox⟩
  have exd : ∃ o, h₂.get? dx = some o := by obtain ⟨_, o, _, _, e, _⟩ := hxdx; exact ⟨o, e⟩
  have nx : s.heap.get? x = none := none_of_kp k₁ hm.newX
  have nd : s.heap.get? dx = none := none_of_kp k₁ hm.newD
  have kM : Kp (hid h₁ M) (hid h₂ (x :: dx :: M)) := fun b o e => by
    rw [hid_get] at e ⊢
    refine ⟨hm.keeps b o e.1, fun hb => ?_⟩
    rcases memC hb with rfl | hb
    · rw [hm.newX] at e; cases e.1
    · rcases memC hb with rfl | hb
      · rw [hm.newD] at e; cases e.1
      · exact e.2 hb
  have kg2 : Kp H0 (hid h₂ (x :: dx :: M)) := V1.base.trans kM
  have ex2 : ∀ b ∈ x :: dx :: M, ∃ o, h₂.get? b = some o := fun b hb => by
    rcases memC hb with rfl | hb
    · exact exx
    · rcases memC hb with rfl | hb
      · exact exd
      · obtain ⟨o, e⟩ := V1.ex b hb; exact ⟨o, hm.keeps _ _ e⟩
  have sm2 : ∃ o, h₂.get? sysModules = some o := by obtain ⟨o, e⟩ := V1.sm; exact ⟨o, hm.keeps _ _ e⟩
  refine call_frame (prog := prog) (w := w) (G := H0) (M := x :: dx :: M) (l := [("self", .raw (.ref x)), ("headers", .none)]) (n := n) (s := { s with heap := h₂, toks := t₁ }) F ⟨rfl, by decide +kernel, by decide +kernel⟩ (Rm.make hA) kg2 sm2 ex2 ?_ (show (["self", "headers"] : List Str).Nodup by decide +kernel) rfl ?_
  · exact ⟨_, .cons rfl (.cons rfl .nil), fun nm q kd doc pm an code ct => BindsTo.of_defaults rfl (hm.keeps _ _ (V1.kp _ _ hT)) hTd rfl rfl⟩
  intro A' L qual code h₃ t₃ m₃ E' hA' k₃ S₃
  generalize hMM : x :: dx :: M = MM at kM kg2 ex2 S₃
  have xM : x ∈ MM := by rw [← hMM]; simp
  have dM : dx ∈ MM := by rw [← hMM]; simp
  have hcut : hB 0 = [(hB 0).getD 0 default, (hB 0).getD 1 default, (hB 0).getD 2 default, (hB 0).getD 3 default] := rfl
  rw [hcut]
  -- headers = []
  have st0 : Ex1 prog w A' H0 (fenv (hS 0) L qual f code) ⟨[("self", .im (.raw (.ref x))), ("headers", .im .none)], []⟩ ((hB 0).getD 0 default) (.nx ⟨("headers", .ow (.lst [])) :: [("self", .im (.raw (.ref x))), ("headers", .im .none)], []⟩) :=
    Ex1.assignN (EvN.ite (b := false) (Tst.cmp (CmpOk.isNotNone none_is_none) (Ev.rd (Ev.name rfl)) (Ev.rd Ev.none)) (fun h => by cases h) (fun _ => EvN.list EvL.nil))
  have st1 : Ex1 prog w A' H0 (fenv (hS 0) L qual f code) ⟨("headers", .ow (.lst [])) :: [("self", .im (.raw (.ref x))), ("headers", .im .none)], []⟩ ((hB 0).getD 1 default) (.nx ⟨("headers", .ow (.lst [])) :: [("self", .im (.raw (.ref x))), ("headers", .im .none)], []⟩) :=
    Ex1.ite (b := false) (Tst.of (Tst.cmp CmpOk.isNotTy (Ev.rd (Ev.typeOfL (Ev.bi D.typ rfl) (Rd.own rfl))) (Ev.rd (Ev.bi D.list rfl))) (by decide)) (fun h => by cases h) (fun _ => Ex.done rfl)
  have st3 : ∀ G', Mdl G' C mt → Ex1 prog w A' G' (fenv (hS 0) L qual f code) ⟨("headers", .im (.lst [])) :: [("self", .im (.raw (.ref x)))], []⟩ ((hB 0).getD 3 default) (.nx ⟨("headers", .im (.lst [])) :: [("self", .im (.raw (.ref x)))], []⟩) := fun G' D' =>
    Ex1.ite (b := true) (Tst.val Ev.bool) (fun _ => Ex.step rfl (Ex1.for0 hA'.1 (Ev.rd (Ev.name rfl))) (Ex.done rfl)) (fun h => by cases h)
  refine wpAny_execs_cons (st0.run ⟨hid h₂ MM, MM, h₂⟩ { s with heap := h₃, toks := t₃ } [] m₃ _ _ kg2 S₃ fun f0 h₄ t₄ P => ?_)
  obtain ⟨rfl, oa₄, m₄, S₄⟩ := P
  refine wpAny_execs_cons (st1.run ⟨hid h₂ MM, MM, h₂⟩ { s with heap := h₄, toks := t₄ } oa₄ m₄ _ _ kg2 S₄ fun f0 h₅ t₅ P => ?_)
  obtain ⟨rfl, oa₅, m₅, S₅⟩ := P
  -- the list is new
  refine LW.hideGoal fun GG hGG => ?_
  obtain ⟨v₀, sl₀, b, hb, rfl, us, hL0, rU⟩ := S₅.va "headers" (.ow (.lst [])) rfl
  obtain rfl : us = [] := rU
  have bOwn : b ∈ ownA (fenv (hS 0) L qual f code) oa₅ [] := mem_own_oa hb
  have bNew : h₂.get? b = none := by
    cases e : h₂.get? b with
    | none => rfl
    | some o =>
      by_cases hbM : b ∈ MM
      · exact (S₅.ap b bOwn hbM).elim
      · have := S₅.base b o (hid_get.mpr ⟨e, hbM⟩)
        exact ((hid_get.mp this).2 (mem_Mu bOwn)).elim
  obtain ⟨oa₆, S₆⟩ := S₅.freeze (x := "headers") (p := .lst []) rfl
  obtain ⟨v₁, sl₁, rl⟩ := S₆.va "headers" (.im (.lst [])) rfl
  refine hGG ?_
  clear hGG GG
  have hloc : (fenv (hS 0) L qual f code).kindOf "headers" = some .local := rfl
  have hsl : ∀ v, Slot h₅ (fenv (hS 0) L qual f code) m₅ "headers" v → m₅ "headers" = some v := fun v sl => by
    rcases sl with ⟨_, e⟩ | ⟨e | e, _⟩
    · exact e
    · rw [hloc] at e; cases e
    · rw [hloc] at e; cases e
  have hm0 := hsl _ sl₀
  have hm1 := hsl _ sl₁
  obtain rfl : v₁ = .ref b := by rw [hm0] at hm1; exact (Option.some.inj hm1).symm
  refine LW.hideGoal fun GG hGG => ?_
  obtain ⟨b', us', e', hLb, rU'⟩ := rl
  obtain rfl : b = b' := Value.ref.inj e'
  obtain rfl : us' = [] := rU'
  obtain ⟨v₂, sl₂, rself⟩ := S₆.va "self" (.im (.raw (.ref x))) rfl
  obtain rfl : v₂ = .ref x := rself
  refine hGG ?_
  clear hGG GG
  -- self._headers = headers
  refine wpAny_execs_cons (plainObj_wpAny_Assign_Attribute (wpAny_Name (load_slot (s := { s with heap := h₅, toks := t₅ }) S₆.fn S₆.ns sl₁ (by decide) (wpAny_Name (load_slot (s := { s with heap := h₅, toks := t₅ }) S₆.fn S₆.ns sl₂ (by decide) ?_) (by decide))) (by decide)) rfl)
  have kG5 : Kp H0 h₅ := kg2.trans (S₅.base.trans (Kp.ofHid _ _))
  refine LW.hideGoal fun GG hGG => ?_
  obtain ⟨⟨nmA, qA, NA, bsA, snA, subA, colA, ddA, c0, c1, c2, c3, c5, mNA, a1, a2, a3, a4, a5, a6, a7⟩, _⟩ := D.hc.mono kG5
  obtain ⟨ox', px1, px2⟩ := S₆.px x xM
  obtain ⟨od', pd1, pd2⟩ := S₆.px dx dM
  refine hGG ?_
  clear hGG GG
  obtain rfl : ox' = ox := by have e1 : h₂.get? x = some ox' := px1; rw [hox] at e1; exact (Option.some.inj e1).symm
  have Ix : h₅.Inst x C (fun _ => none) := ⟨ox', px2, hcx, hncx, .inr ⟨dx, hdict, hxdx.1, by
    refine LW.hideGoal fun GG hGG => ?_
    obtain ⟨o, es, ep, e, r⟩ := hxdx.2
    refine hGG ?_
    clear hGG GG
    have e1 : h₂.get? dx = some od' := pd1
    rw [e] at e1; cases e1
    exact ⟨_, es, ep, pd2, r⟩⟩⟩
  have hxC : x ≠ C := fun e => by
    have e1' := e1
    rw [← e, hm.newX] at e1'; cases e1'
  refine store_attr (ns := []) PySem.F.store_object a1 a2 a5 a6 (by rw [typeLookup_type, builtinLookup_eq_fast]; kernel_rfl) hxC Ix (fun h₆ tk₆ I6 hk6 hsame => ?_) ?_ ?_
  · refine LW.hideGoal fun GG hGG => ?_
    obtain ⟨o6, i61, i62, i63, i64⟩ := I6
    obtain ⟨o1, f1, f2, f3, f4, f5⟩ := hsame ox' px2
    refine hGG ?_
    clear hGG GG
    obtain rfl : o6 = o1 := by rw [i61] at f1; exact Option.some.inj f1
    have hd6 : o6.dict = some dx := f5 dx hdict
    have hns6 : dx ≠ x ∧ h₆.Ns1 dx (fun y => if y = ("_headers" : Str) then some (.ref b) else (fun _ => Option.none) y) := by
      rcases i64 with ⟨e, _⟩ | ⟨d', e, g1, g2⟩
      · rw [hd6] at e; cases e
      · rw [hd6] at e; cases e; exact ⟨g1, g2⟩
    have kk : ∀ c o, c ≠ x → c ≠ dx → h₅.get? c = some o → h₆.get? c = some o := fun c o hc1 hc2 e => hk6 c o hc1 (fun o₀ d' e0 ed => by
      rw [px2] at e0; cases e0; rw [hdict] at ed; cases ed; exact hc2) e
    have ex6 : ∀ c, (∃ o, h₅.get? c = some o) → ∃ o, h₆.get? c = some o := fun c ⟨o, e⟩ => by
      by_cases hc1 : c = x
      · subst hc1; exact ⟨_, i61⟩
      · by_cases hc2 : c = dx
        · subst hc2; obtain ⟨o', _, _, e', _⟩ := hns6.2; exact ⟨o', e'⟩
        · exact ⟨o, kk c o hc1 hc2 e⟩
    have inMu : ∀ c ∈ MM, c ∈ Mu (fenv (hS 0) L qual f code) ⟨hid h₂ MM, MM, h₂⟩ oa₆ [] := fun c hc => List.mem_append_left _ hc
    generalize hMu : Mu (fenv (hS 0) L qual f code) ⟨hid h₂ MM, MM, h₂⟩ oa₆ [] = MU at inMu hLb
    have kh : Kp (hid h₅ MU) (hid h₆ MU) := fun c o e => by
      rw [hid_get] at e ⊢
      exact ⟨kk c o (fun e' => e.2 (e' ▸ inMu x xM)) (fun e' => e.2 (e' ▸ inMu dx dM)) e.1, e.2⟩
    have b6 : Kp (hid h₂ MM) (hid h₅ MU) := by have := S₆.base; rw [← hMu]; exact this
    have S₇ : St prog w ⟨hid h₆ MU, MM, h₆⟩ (fenv (hS 0) L qual f code) ⟨("headers", .im (.lst [])) :: [("self", .im (.raw (.ref x)))], []⟩ h₆ oa₆ m₅ := by
      have S6' : St prog w ⟨hid h₂ MM, MM, h₂⟩ (fenv (hS 0) L qual f code) ⟨("headers", .im (.lst [])) :: [("self", .im (.raw (.ref x)))], []⟩ h₅ oa₆ m₅ := S₆.weaken rfl (subL.get (l := [("headers", .im (.lst [])), ("self", .im (.raw (.ref x)))]) ⟨rfl, rfl, trivial⟩)
      refine S6'.move (fun c hc o e => kk c o (fun e' => S₆.ap c hc (e' ▸ xM)) (fun e' => S₆.ap c hc (e' ▸ dM)) e) ?_ ?_ (fun c hc => ?_) (fun c hc => S₆.ap c hc) (ex6 _ S₆.sm)
      · show Kp (hid h₅ (Mu (fenv (hS 0) L qual f code) ⟨hid h₂ MM, MM, h₂⟩ oa₆ [])) (hid h₆ (Mu (fenv (hS 0) L qual f code) ⟨hid h₂ MM, MM, h₂⟩ oa₆ []))
        rw [hMu]; exact kh
      · show Kp (hid h₆ MU) (hid h₆ (Mu (fenv (hS 0) L qual f code) ⟨hid h₂ MM, MM, h₂⟩ oa₆ []))
        rw [hMu]; exact Kp.rfl
      · refine LW.hideGoal fun GG hGG => ?_
        obtain ⟨o, _, e⟩ := S₆.px c hc
        obtain ⟨o', e'⟩ := ex6 c ⟨o, e⟩
        refine hGG ?_
        clear hGG GG
        exact ⟨o', e', e'⟩
    refine wpAny_execs_cons ((st3 H0 D).run ⟨hid h₆ MU, MM, h₆⟩ { s with heap := h₆, toks := tk₆ } oa₆ m₅ _ _ (kg2.trans (b6.trans kh)) S₇ fun f0 h₈ t₈ P => ?_)
    obtain ⟨rfl, oa₈, m₈, S₈⟩ := P
    refine wpAny_execs_nil ⟨rfl, ?_⟩
    have px8 : ∀ c ∈ MM, ∀ o, h₆.get? c = some o → h₈.get? c = some o := fun c hc o e => by
      obtain ⟨o', e1, e2⟩ := S₈.px c hc
      have e1 : h₆.get? c = some o' := e1
      rw [e] at e1; cases e1; exact e2
    have b8 : Kp (hid h₆ MU) h₈ := S₈.base.trans (Kp.ofHid _ _)
    have exM : ∀ c ∈ M, ∃ o, s.heap.get? c = some o := V.ex
    have bs : s.heap.get? b = none := none_of_kp (k₁.trans hm.keeps) bNew
    have nxM : x ∉ b :: M := fun hc => by
      rcases List.mem_cons.mp hc with e | hc
      · rw [e] at hox; rw [bNew] at hox; cases hox
      · obtain ⟨o, e⟩ := exM x hc; rw [nx] at e; cases e
    have ndM : dx ∉ b :: M := fun hc => by
      rcases List.mem_cons.mp hc with e | hc
      · obtain ⟨o, e'⟩ := exd; rw [e, bNew] at e'; cases e'
      · obtain ⟨o, e⟩ := exM dx hc; rw [nd] at e; cases e
    refine q b (.ref x) h₈ t₈ (fun c o e => ?_) bs ⟨x, [], rfl, ?_, ?_, rfl⟩
    · have c2 : h₂.get? c = some o := hm.keeps _ _ (k₁ _ _ e)
      have cx : c ≠ x := fun e' => by rw [e', nx] at e; cases e
      have cd : c ≠ dx := fun e' => by rw [e', nd] at e; cases e
      by_cases hc : c ∈ MM
      · obtain ⟨o', e1, e2⟩ := S₆.px c hc
        have e1 : h₂.get? c = some o' := e1
        rw [c2] at e1; cases e1
        exact px8 c hc o (kk c o cx cd e2)
      · exact b8 c o (kh c o (b6 c o (hid_get.mpr ⟨c2, hc⟩)))
    · refine ⟨o6, hid_get.mpr ⟨px8 x xM _ i61, nxM⟩, i62, i63, .inr ⟨dx, hd6, hns6.1, ?_⟩⟩
      refine LW.hideGoal fun GG hGG => ?_
      obtain ⟨o', es', ep', e', r'⟩ := hns6.2
      refine hGG ?_
      clear hGG GG
      have : h₈.get? dx = some o' := px8 dx dM _ e'
      refine ⟨o', es', ep', hid_get.mpr ⟨this, ndM⟩, ?_⟩
      refine LW.hideGoal fun GG hGG => ?_
      obtain ⟨r1, r2, r3, r4⟩ := r'
      refine hGG ?_
      clear hGG GG
      refine ⟨r1, r2, r3, fun y => ?_⟩
      have := r4 y
      unfold fieldMap
      exact this
    · obtain ⟨n', e'⟩ := hLb
      exact ⟨n', b8 b _ (kh b _ e')⟩
  · exact Within.nil
  · decide
end
end LW
namespace LW

theorem find_none {rs : List Road} {t : Town} : (rs.find? fun r => r.1 == t) = none ↔ others rs t = rs := by
  rw [List.find?_eq_none]
  unfold others
  rw [List.filter_eq_self]
  simp
theorem dRoads_eq (k : Mark) (rs : List Road) (s g : Town) (n : Nat) : dRoads k rs s (n % 2 == 1) g = deed rs n k s g := by
  cases k with
  | add => rfl
  | put => rfl
  | del => rfl
  | lay =>
    show sdRoads rs s (n % 2 == 1) g = if others rs s = rs then rs ++ [(s, n % 2 == 1, g)] else rs
    unfold sdRoads
    cases h : rs.find? fun r => r.1 == s with
    | none => rw [if_pos (find_none.mp h)]
    | some r => rw [if_neg (fun e => by rw [find_none.mpr e] at h; cases h)]

inductive Sym where
  | town (t : Town) | mark (k : Mark) | sep | eof
noncomputable def Sym.i : Sym → Int
  | .town t => 256 + (t.val : Nat)
  | .mark k => mkCode k
  | .sep => 13
  | .eof => 0
noncomputable abbrev DSt := PSt × List Town × List Town × Option Mark
noncomputable def dI : Option Mark → Int
  | none => 0
  | some k => mkCode k
noncomputable def dproc (x : DSt) : PSt := x.2.1.foldl (stepS (x.2.2.2.getD .add) x.2.2.1) x.1
noncomputable def dstep (x : DSt) : Sym → DSt
  | .town t => match x.2.2.2 with
    | none => (x.1, x.2.1 ++ [t], x.2.2.1, none)
    | some k => (x.1, x.2.1, x.2.2.1 ++ [t], some k)
  | .mark k => (x.1, x.2.1, x.2.2.1, some k)
  | .sep => (dproc x, [], [], none)
  | .eof => (dproc x, [], [], none)
structure DInv (i : Nat) (x : DSt) : Prop where
  c : x.2.1.length + x.2.2.1.length ≤ i
  len : x.1.1.length ≤ (i - (x.2.1.length + x.2.2.1.length)) * (i - (x.2.1.length + x.2.2.1.length))
  none : x.2.2.2 = none → x.2.2.1 = []
theorem sq_add (i c p : Nat) (h : c ≤ i) (hp : p ≤ c * c) : (i - c) * (i - c) + p ≤ i * i := by
  obtain ⟨d, rfl⟩ : ∃ d, i = d + c := ⟨i - c, by omega⟩
  rw [Nat.add_sub_cancel]
  have : (d + c) * (d + c) = d * d + 2 * (d * c) + c * c := by rw [Nat.add_mul, Nat.mul_add, Nat.mul_add, Nat.mul_comm c d]; omega
  omega
theorem mul_sq (a b : Nat) : a * b ≤ (a + b) * (a + b) := Nat.mul_le_mul (Nat.le_add_right _ _) (Nat.le_add_left _ _)
theorem DInv.step {i : Nat} {x : DSt} (v : DInv i x) (y : Sym) : DInv (i + 1) (dstep x y) := by
  refine LW.hideGoal fun GG hGG => ?_
  obtain ⟨⟨rs, n⟩, ss, gs, d⟩ := x
  obtain ⟨v1, v2, v3⟩ := v
  refine hGG ?_
  clear hGG GG
  simp only at v1 v2 v3
  cases y with
  | town t =>
    cases d with
    | none =>
      refine ⟨?_, ?_, v3⟩
      · show (ss ++ [t]).length + gs.length ≤ i + 1; rw [List.length_append, List.length_singleton]; omega
      · show rs.length ≤ (i + 1 - ((ss ++ [t]).length + gs.length)) * (i + 1 - ((ss ++ [t]).length + gs.length))
        rw [List.length_append, List.length_singleton, show i + 1 - (ss.length + 1 + gs.length) = i - (ss.length + gs.length) by omega]; exact v2
    | some k =>
      refine ⟨?_, ?_, fun h => by cases h⟩
      · show ss.length + (gs ++ [t]).length ≤ i + 1; rw [List.length_append, List.length_singleton]; omega
      · show rs.length ≤ (i + 1 - (ss.length + (gs ++ [t]).length)) * (i + 1 - (ss.length + (gs ++ [t]).length))
        rw [List.length_append, List.length_singleton, show i + 1 - (ss.length + (gs.length + 1)) = i - (ss.length + gs.length) by omega]; exact v2
  | mark k =>
    refine ⟨?_, ?_, fun h => by cases h⟩
    · show ss.length + gs.length ≤ i + 1; omega
    · show rs.length ≤ (i + 1 - (ss.length + gs.length)) * (i + 1 - (ss.length + gs.length))
      exact Nat.le_trans v2 (Nat.mul_le_mul (by omega) (by omega))
  | sep | eof =>
    refine ⟨Nat.zero_le _, ?_, fun _ => rfl⟩
    show (dproc ((rs, n), ss, gs, d)).1.length ≤ (i + 1) * (i + 1)
    have h1 := stepL_len' (d.getD .add) gs ss (rs, n)
    have h2 := sq_add i (ss.length + gs.length) (ss.length * gs.length) v1 (mul_sq _ _)
    have h3 : i * i ≤ (i + 1) * (i + 1) := Nat.mul_le_mul (by omega) (by omega)
    unfold dproc
    simp only at h1 ⊢
    omega
theorem dinv_all (row : List Sym) : ∀ i, i ≤ row.length → DInv i ((row.take i).foldl dstep (([], 0), [], [], none)) := by
  intro i
  induction i with
  | zero => intro _; exact ⟨Nat.le_refl _, Nat.zero_le _, fun _ => rfl⟩
  | succ i ih =>
    intro h
    obtain ⟨y, hy⟩ : ∃ y, row[i]? = some y := ⟨_, List.getElem?_eq_getElem (by omega)⟩
    rw [foldl_take_succ _ _ _ hy]
    exact (ih (by omega)).step y

section
variable {prog : Program} {w : World} {A : Around} {G H0 : Heap} {env : Env} {σ σ₂ σ₃ σc : Sy} {h h' : Heap} {M : List Addr} {m : Str → Option Value} {s : Shared} {C i a : Addr} {mt : Str → Option Addr} {B : Bs} {oa : OA}
theorem EvN.headers {np pos : Pos} {n : Nat} (D : Mdl H0 C mt) (hA : Rm A (n + 2)) (hk : env.kindOf "Headers" = some .globalImplicit) : EvN prog w H0 A env σ (.Call (.Name "Headers" np) [] [] pos) (.hdr C []) := .mk fun s M m Q E V q => glob_headers D hk hA V q

/-- a call that changes an own table, as a statement -/
theorem Ex1.callOwn {f x : Str} {np px pos pos' : Pos} {es : List PySem.Expr} {fa : Addr} {o : Obj} {fd : FuncData} {ps ps' qs : List PV} {n : Nat} (hg : GVal G f (.ref fa)) (ho : G.get? fa = some o) (hfd : o.data = .func fd) (hk : env.kindOf f = some .globalImplicit) (hl : σ.v.lookup x = some (.ow (.hdr C ps)))
    (hes : EvL prog w G A env σ pos es qs) (hc : ∀ G' i a, Kp G G' → IsHdr G' C i a → CallT prog w G' n (.ref fa) (.raw (.ref i) :: qs) [] [(a, .lst ps)] .none [(a, .lst ps')]) (hA : Rm A n)
    (hd : ((x == ("__debug__" : Str)) || (x == ("__classdict__" : Str))) = false := by decide) (hdf : (f == ("__debug__" : Str)) = false := by decide) (hs1 : starEach (.Name x px :: es) env = (false, eval (.Name x px) env) :: starEach es env := by rfl) (hi : interactive env = false := by rfl)
    (hs : swapsWith (.Call (.Name f np) (.Name x px :: es) [] pos) none pos'.line env = pure false := by rfl) : Ex1 prog w A G env σ (.Expr (.Call (.Name f np) (.Name x px :: es) [] pos) pos') (.nx ⟨(x, .ow (.hdr C ps')) :: σ.v, σ.t⟩) := .mk fun B s oa m Q E kg S q => by
  obtain ⟨h1, h2⟩ := Bool.or_eq_false_iff.mp hd
  refine wpAny_Expr ?_ hi hs
  rw [arm_eval_Call_Name']
  refine wpAny_bind ((Ev.glob hg hk hdf).run s _ m _ _ (S.vars kg) fun g h₁ t₁ k₁ rg => ?_)
  obtain rfl : g = .ref fa := rg
  have S1 := S.keeps k₁
  show wpAny _ A (callWith pos (.ref fa) [] (backTo pos (starEach (.Name x px :: es) env)) []) _ _ _
  refine Calls.callWith_function (o := o) (fd := fd) ?_
  refine LW.hideGoal fun GG hGG => ?_
  obtain ⟨v, sl, a, ha, rv⟩ := S1.va x _ hl
  refine hGG ?_
  clear hGG GG
  have key : wpAny (model prog w) A (spliced (backTo pos (starEach (.Name x px :: es) env))) (fun vs s' => (s'.heap.get? fa = some o ∧ o.data = .func fd) ∧ wpAny (model prog w) A (call (.ref fa) ([] ++ vs) []) (fun v s₁ => match v with | .ref _ => False | _ => Q .next s₁) E s') E { s with heap := h₁, toks := t₁ } := by
    refine wpAny_items_cons (wpAny_Name (load_slot (s := { s with heap := h₁, toks := t₁ }) S1.fn S1.ns sl h2 ?_) h1) hs1
    refine hes.run { s with heap := h₁, toks := t₁ } _ m _ _ (S1.vars kg) fun vs h₂ t₂ k₂ r₂ => ?_
    have S2 := S1.keeps k₂
    refine ⟨⟨S2.base.trans (Kp.ofHid _ _) _ _ (kg _ _ ho), hfd⟩, ?_⟩
    rw [List.nil_append]
    have rv2 : OwnV prog w h₂ (Mu env B oa σ.t) a v (.hdr C ps) := rv.keeps k₂
    refine LW.hideGoal fun GG hGG => ?_
    obtain ⟨j, us, rfl, I, hL, rL⟩ := rv2
    refine hGG ?_
    clear hGG GG
    have haM : a ∈ Mu env B oa σ.t := mem_Mu (mem_own_oa ha)
    refine hc (hid h₂ (Mu env B oa σ.t)) j a (kg.trans S2.base) I A { s with heap := h₂, toks := t₂ } (Mu env B oa σ.t) ((Mu env B oa σ.t).filter fun b => b != a) (.ref j :: vs) [] _ E hA Kp.rfl S2.sm S2.exM (fun b => ?_) (fun b hb => ?_) (by simp) (fun y hy => ?_) ⟨.ref j, vs, rfl, rfl, r₂⟩ rfl fun u h' tk kb rv' th' => ?_
    · rw [List.mem_filter]
      by_cases hb : b = a
      · subst hb; simp [haM]
      · simp [hb]
    · simp only [List.map_cons, List.map_nil, List.mem_singleton] at hb
      subst hb
      intro hm; have := (List.mem_filter.mp hm).2; simp at this
    · rw [List.mem_singleton.mp hy]; exact ⟨rfl, us, hL, rL⟩
    · obtain rfl : u = .none := rv'
      obtain ⟨_, us', hL', rL'⟩ := th' (a, .lst ps') List.mem_cons_self
      have kb' : ∀ b o, b ≠ a → h₂.get? b = some o → h'.get? b = some o := fun b o hb e => kb b o (by simpa using hb) e
      have kh : Kp (hid h₂ (Mu env B oa σ.t)) (hid h' (Mu env B oa σ.t)) := fun b o e => by
        rw [hid_get] at e ⊢
        exact ⟨kb' b o (fun e' => e.2 (e' ▸ haM)) e.1, e.2⟩
      exact q _ h' tk ⟨rfl, oa, m, S2.upd (p' := .hdr C ps') Kp.rfl hl (sl.keeps k₂) ha kb' ⟨j, us', rfl, I.mono kh, hL', rL'⟩ (by obtain ⟨n, e⟩ := hL'; exact ⟨_, e⟩)⟩
  rw [show backTo pos (starEach (.Name x px :: es) env) = (false, eval (.Name x px) env) :: backTo pos (starEach es env) by rw [hs1]; rfl] at key ⊢
  exact Calls.evalArgs_plain key
end
end LW
namespace LW
noncomputable def tnL (ts : List Town) : List PV := ts.map fun t => .str (nm t false)
theorem tnL_snoc (ts : List Town) (t : Town) : PV.lst (tnL ts ++ [.str (nm t false)]) = .lst (tnL (ts ++ [t])) := by unfold tnL; rw [List.map_append]; rfl
theorem sevens_at : ∀ t : Town, sevens.cps[t.val]? = some (lt t) := by decide +kernel
theorem symI_town (t : Town) : decide (256 ≤ Sym.i (.town t)) = true := decide_eq_true (by show 256 ≤ 256 + (t.val : Int); omega)
theorem symI_not (y : Sym) (h : ∀ t, y ≠ .town t) : decide (256 ≤ y.i) = false := by
  cases y with
  | town t => exact (h t rfl).elim
  | mark k => cases k <;> rfl
  | sep => rfl
  | eof => rfl
noncomputable def doneS (C : Addr) (row : List Sym) (x : DSt) : Sy := ⟨[("turn", .im (.int (x.1.2 : Nat))), ("deed", .im (.int (dI x.2.2.2))), ("goals", .ow (.lst (tnL x.2.2.1))), ("starts", .ow (.lst (tnL x.2.1))), ("table", .ow (hdrOf C x.1.1)), ("row", .im (.lst (row.map fun y => .int y.i)))], []⟩
noncomputable def doneS2 (C : Addr) (row : List Sym) (x : DSt) (p : PSt) : Sy := ⟨[("turn", .im (.int (p.2 : Nat))), ("table", .ow (hdrOf C p.1)), ("deed", .im (.int (dI x.2.2.2))), ("goals", .im (.lst (tnL x.2.2.1))), ("starts", .im (.lst (tnL x.2.1))), ("row", .im (.lst (row.map fun y => .int y.i)))], []⟩
noncomputable def doneS3 (C : Addr) (row : List Sym) (x : DSt) (s : Town) (p : PSt) : Sy := ⟨[("turn", .im (.int (p.2 : Nat))), ("table", .ow (hdrOf C p.1)), ("start", .im (.str (nm s false))), ("deed", .im (.int (dI x.2.2.2))), ("goals", .im (.lst (tnL x.2.2.1))), ("starts", .im (.lst (tnL x.2.1))), ("row", .im (.lst (row.map fun y => .int y.i)))], []⟩
section
variable {prog : Program} {w : World} {A : Around} {G H0 : Heap} {env : Env} {σ σ₂ σ₃ σc : Sy} {h h' : Heap} {M : List Addr} {m : Str → Option Value} {s : Shared} {C i a : Addr} {mt : Str → Option Addr} {B : Bs} {oa : OA}

theorem tnL_get {ts : List Town} {j : Nat} {p : PV} (hp : (tnL ts)[j]? = some p) : ∃ t, ts[j]? = some t ∧ p = .str (nm t false) := by
  unfold tnL at hp
  rw [List.getElem?_map] at hp
  cases e : ts[j]? with
  | none => rw [e] at hp; cases hp
  | some l => rw [e] at hp; cases hp; exact ⟨l, rfl, rfl⟩

theorem body_done {L : Addr} {qual : Str} {fa : Addr} {code : Value} {row : List Sym} {n : Nat} {t1 t2 : Tok} (hA : Rm A (n + 4)) (D : Mdl G C mt) (DF : DeedFn prog w G C (n + 4)) (F1 : FunG G "ISNONTERMINAL" 66) (g1 : GVal G "NT_OFFSET" (.int 256 t1)) (F2 : FunG G "ISEOF" 67) (g2 : GVal G "ENDMARKER" (.int 0 t2)) (hl : row.length ≤ 31) :
    Ex prog w A G (fenv (dS 76) L qual fa code) ⟨[("row", .im (.lst (row.map fun y => .int y.i)))], []⟩ (dB 76) (.rt (hdrOf C (row.foldl dstep (([], 0), [], [], none)).1.1) []) := by
  have hA1 : Rm A (0 + 1) := hA.le (by omega)
  refine Ex.step rfl (Ex1.assignN (EvN.headers (n := n + 2) D hA rfl)) ?_
  refine Ex.step rfl (Ex1.assignN (EvN.list EvL.nil)) ?_
  refine Ex.step rfl (Ex1.assignN (EvN.list EvL.nil)) ?_
  refine Ex.step rfl (Ex1.assign Ev.int) ?_
  refine Ex.step rfl (Ex1.assign Ev.int) ?_
  refine Ex.sub (σ₂ := doneS C row (([], 0), [], [], none)) ?_ ⟨rfl, rfl, rfl, rfl, rfl, rfl, trivial⟩
  refine Ex.step rfl (for_ind (fun i => doneS C row ((row.take i).foldl dstep (([], 0), [], [], none))) (It.list hA.1 (Ev.name rfl)) rfl rfl fun i p hp => ?_) ?_
  · obtain ⟨y, hy, rfl⟩ : ∃ y, row[i]? = some y ∧ p = .int y.i := by
      rw [List.getElem?_map] at hp
      cases e : row[i]? with
      | none => rw [e] at hp; cases hp
      | some l => rw [e] at hp; cases hp; exact ⟨l, rfl, rfl⟩
    have hi : i < row.length := (List.getElem?_eq_some_iff.mp hy).1
    have v := dinv_all row i (by omega)
    have v' := dinv_all row (i + 1) (by omega)
    rw [foldl_take_succ _ _ _ hy] at v' ⊢
    generalize (row.take i).foldl dstep (([], 0), [], [], none) = x at v v' ⊢
    refine LW.hideGoal fun GG hGG => ?_
    obtain ⟨⟨rs, nt⟩, ss, gs, d⟩ := x
    refine hGG ?_
    clear hGG GG
    refine ⟨_, Tgt.name, ?_⟩
    have tNT : ∀ {σ' : Sy} {p1 p2 pos : Pos}, σ'.v.lookup ("symbol" : Str) = some (.im (.int y.i)) → Ev prog w G A (fenv (dS 76) L qual fa code) σ' (.Call (.Name "ISNONTERMINAL" p1) [.Name "symbol" p2] [] pos) (.bool (decide (256 ≤ y.i))) :=
      fun hs => Ev.fn (fn_nonterm (n := 0) F1 g1) rfl (EvL.cons (Ev.name hs) EvL.nil) hA1
    have tEOF : ∀ {σ' : Sy} {p1 p2 pos : Pos}, σ'.v.lookup ("symbol" : Str) = some (.im (.int y.i)) → Ev prog w G A (fenv (dS 76) L qual fa code) σ' (.Call (.Name "ISEOF" p1) [.Name "symbol" p2] [] pos) (.bool (y.i == 0)) :=
      fun hs => Ev.fn (fn_iseof (n := 0) F2 g2) rfl (EvL.cons (Ev.name hs) EvL.nil) hA1
    have hssz : (tnL ss).length ≤ sizeLine ∧ (tnL gs).length ≤ sizeLine := by
      have := v.c
      simp only at this
      unfold tnL
      rw [List.length_map, List.length_map]
      exact ⟨Nat.le_trans (show _ ≤ 31 by omega) (by decide), Nat.le_trans (show _ ≤ 31 by omega) (by decide)⟩
    have proc : (y = .sep ∨ y = .eof) → Ex prog w A G (fenv (dS 76) L qual fa code) ⟨("symbol", .im (.int y.i)) :: (doneS C row ((rs, nt), ss, gs, d)).v, []⟩ (match (match (match (dB 76).getD 5 default with | .For _ _ b _ _ => b | _ => []) with | .If _ _ e _ :: _ => e | _ => []) with | .If _ b _ _ :: _ => b | _ => [])
        (.nx (doneS C row (dproc ((rs, nt), ss, gs, d), [], [], none))) := by
      intro _
      refine Ex.freeze (x := "starts") (p := .lst (tnL ss)) rfl ?_
      refine Ex.freeze (x := "goals") (p := .lst (tnL gs)) rfl ?_
      refine Ex.sub (σ₂ := doneS2 C row ((rs, nt), ss, gs, d) (rs, nt)) ?_ ⟨rfl, rfl, rfl, rfl, rfl, rfl, trivial⟩
      refine Ex.step rfl (for_ind (xs := tnL ss) (σ' := doneS2 C row ((rs, nt), ss, gs, d) (dproc ((rs, nt), ss, gs, d))) (fun j => doneS2 C row ((rs, nt), ss, gs, d) ((ss.take j).foldl (stepS (d.getD .add) gs) (rs, nt))) (It.list hA.1 (Ev.name rfl)) rfl ?_ fun j p hp => ?_) ?_
      · unfold tnL; rw [List.length_map, List.take_length]; rfl
      · obtain ⟨s, hs, rfl⟩ := tnL_get hp
        have hj : j < ss.length := (List.getElem?_eq_some_iff.mp hs).1
        have hb2 : ((ss.take j).foldl (stepS (d.getD .add) gs) (rs, nt)).1.length + gs.length ≤ 961 := by
          have h1 := stepL_len' (d.getD .add) gs (ss.take j) (rs, nt)
          rw [List.length_take, Nat.min_eq_left (Nat.le_of_lt hj)] at h1
          have h3 : (j + 1) * gs.length ≤ ss.length * gs.length := Nat.mul_le_mul_right _ hj
          have h4 := sq_add i (ss.length + gs.length) (ss.length * gs.length) v.c (mul_sq _ _)
          have h5 := v.len
          simp only at h1 h5
          have h6 : i * i ≤ 31 * 31 := Nat.mul_le_mul (by omega) (by omega)
          rw [Nat.succ_mul] at h3
          omega
        rw [foldl_take_succ _ _ _ hs]
        generalize (ss.take j).foldl (stepS (d.getD .add) gs) (rs, nt) = x1 at hb2 ⊢
        refine ⟨_, Tgt.name, ?_⟩
        refine Ex.sub (σ₂ := doneS3 C row ((rs, nt), ss, gs, d) s x1) ?_ ⟨rfl, rfl, rfl, rfl, rfl, rfl, rfl, trivial⟩
        refine Ex.post (σ₂ := doneS3 C row ((rs, nt), ss, gs, d) s (stepS (d.getD .add) gs x1 s)) (Ex.step rfl (for_ind (xs := tnL gs) (fun k => doneS3 C row ((rs, nt), ss, gs, d) s ((gs.take k).foldl (stepG (d.getD .add) s) x1)) (It.list hA.1 (Ev.name rfl)) rfl ?_ fun k p hp => ?_) (Ex.done rfl)) ⟨rfl, rfl, rfl, rfl, rfl, rfl, trivial⟩
        · unfold tnL; rw [List.length_map, List.take_length]; rfl
        · obtain ⟨g, hg, rfl⟩ := tnL_get hp
          have hk : k < gs.length := (List.getElem?_eq_some_iff.mp hg).1
          have hb3 : ((gs.take k).foldl (stepG (d.getD .add) s) x1).1.length ≤ 1000 := by
            have h1 := stepS_len (d.getD .add) s (gs.take k) x1
            rw [List.length_take, Nat.min_eq_left (Nat.le_of_lt hk)] at h1
            unfold stepS at h1
            omega
          obtain ⟨kd, rfl⟩ : ∃ kd, d = some kd := by
            cases d with
            | some kd => exact ⟨kd, rfl⟩
            | none => have := v.none rfl; simp only at this; subst this; cases hg
          rw [foldl_take_succ _ _ _ hg]
          generalize (gs.take k).foldl (stepG ((some kd).getD .add) s) x1 = x2 at hb3 ⊢
          refine ⟨_, Tgt.name, ?_⟩
          refine LW.hideGoal fun GG hGG => ?_
          obtain ⟨fa', o', fd', hgf, hof, hfd, hcall⟩ := DF
          refine hGG ?_
          clear hGG GG
          refine Ex.step rfl (Ex1.ite (out := .nx (doneS3 C row ((rs, nt), ss, gs, some kd) s (stepG kd s x2 g))) (b := decide (s < g)) (Tst.of (Tst.cmp CmpOk.ltS (Ev.rd (Ev.name rfl)) (Ev.rd (Ev.name rfl))) (nm_lt s g)) (fun hb => ?_) (fun hb => ?_)) (Ex.done rfl)
          · have hlt := of_decide_eq_true hb
            have est : stepG kd s x2 g = (dRoads kd x2.1 s (x2.2 % 2 == 1) g, x2.2 + 1) := by unfold stepG; rw [if_pos hlt, dRoads_eq]
            rw [est]
            refine Ex.step rfl (Ex1.callOwn (C := C) (ps := x2.1.map pvRoad) (ps' := (dRoads kd x2.1 s (x2.2 % 2 == 1) g).map pvRoad) (qs := [.int (mkCode kd), .str (nm s (x2.2 % 2 == 1)), .str (nm g false)]) hgf hof hfd rfl rfl (EvL.cons (Ev.name rfl) (EvL.cons (Ev.great rfl rfl) (EvL.cons (Ev.name rfl) EvL.nil))) (fun G' i a kG I => hcall x2.1 kd s g (x2.2 % 2 == 1) G' i a hb3 kG I) hA) ?_
            exact Ex.post (Ex.step rfl (Ex1.aug IpOk.addI rfl Ev.int) (Ex.done rfl)) ⟨rfl, rfl, rfl, rfl, rfl, rfl, rfl, trivial⟩
          · have hlt := of_decide_eq_false hb
            have est : stepG kd s x2 g = x2 := by unfold stepG; rw [if_neg hlt]
            rw [est]
            exact Ex.post (Ex.done rfl) ⟨rfl, rfl, rfl, rfl, rfl, rfl, rfl, trivial⟩
      · refine Ex.step rfl (Ex1.assignN (EvN.list EvL.nil)) ?_
        refine Ex.step rfl (Ex1.assignN (EvN.list EvL.nil)) ?_
        exact Ex.post (Ex.step rfl (Ex1.assign Ev.int) (Ex.done rfl)) ⟨rfl, rfl, rfl, rfl, rfl, rfl, trivial⟩
    cases y with
    | town t =>
      refine Ex.step rfl (Ex1.ite (b := true) (Tst.of (Tst.val (tNT rfl)) (symI_town t)) (fun _ => ?_) (fun h => by cases h)) (Ex.done rfl)
      have letter : ∀ {σ' : Sy} {p1 p2 p3 p4 p5 : Pos} {k1 k2 : Nat}, σ'.v.lookup ("symbol" : Str) = some (.im (.int (Sym.i (.town t)))) → Ev prog w G A (fenv (dS 76) L qual fa code) σ' (.Subscript (.Constant (.str "fiklmst") k1 p1) (.BinOp (.Name "symbol" p2) .Sub (.Constant (.int 256) k2 p3) p4) p5) (.str (nm t false)) := fun hs => by
        refine Ev.sub (q := .int (t.val : Nat)) (ItOk.str (x := sevens) (c := lt t) (by omega) (by rw [Int.toNat_natCast]; exact sevens_at t) ?_) (Ev.rd Ev.str) (Ev.rd (Ev.of (Ev.subI (Ev.name hs) Ev.int) ?_))
        · have : ((t.val : Nat) : Int) < 7 := by omega
          exact Int.lt_trans this (by decide)
        · congr 1; show (256 + ((t.val : Nat) : Int)) - 256 = _; omega
      cases d with
      | none =>
        refine Ex.step rfl (Ex1.ite (b := true) (Tst.of (Tst.cmp CmpOk.eqI (Ev.rd (Ev.name rfl)) (Ev.rd Ev.int)) rfl) (fun _ => ?_) (fun h => by cases h)) (Ex.done rfl)
        refine Ex.post (Ex.step rfl (Ex1.append rfl (letter rfl) hssz.1) (Ex.done rfl)) ⟨rfl, rfl, rfl, ?_, rfl, rfl, trivial⟩
        show some (LV.ow (.lst (tnL ss ++ [.str (nm t false)]))) = some (LV.ow (.lst (tnL (ss ++ [t]))))
        rw [tnL_snoc]
      | some k =>
        refine Ex.step rfl (Ex1.ite (b := false) (Tst.of (Tst.cmp CmpOk.eqI (Ev.rd (Ev.name rfl)) (Ev.rd Ev.int)) (by cases k <;> rfl)) (fun h => by cases h) (fun _ => ?_)) (Ex.done rfl)
        refine Ex.post (Ex.step rfl (Ex1.append rfl (letter rfl) hssz.2) (Ex.done rfl)) ⟨rfl, rfl, ?_, rfl, rfl, rfl, trivial⟩
        show some (LV.ow (.lst (tnL gs ++ [.str (nm t false)]))) = some (LV.ow (.lst (tnL (gs ++ [t]))))
        rw [tnL_snoc]
    | mark k =>
      refine Ex.step rfl (Ex1.ite (b := false) (Tst.of (Tst.val (tNT rfl)) (symI_not _ (by intro t e; cases e))) (fun h => by cases h) (fun _ => ?_)) (Ex.done rfl)
      refine Ex.step rfl (Ex1.ite (b := false) (Tst.of (Tst.or2 (b := ((Sym.mark k).i == 0)) (c := ((Sym.mark k).i == 13)) (Tst.val (tEOF rfl)) fun _ => Tst.cmp CmpOk.eqI (Ev.rd (Ev.name rfl)) (Ev.rd Ev.int)) (by cases k <;> rfl)) (fun h => by cases h) (fun _ => ?_)) (Ex.done rfl)
      exact Ex.post (Ex.step rfl (Ex1.assign (Ev.name rfl)) (Ex.done rfl)) ⟨rfl, rfl, rfl, rfl, rfl, rfl, trivial⟩
    | sep =>
      refine Ex.step rfl (Ex1.ite (b := false) (Tst.of (Tst.val (tNT rfl)) (symI_not _ (by intro t e; cases e))) (fun h => by cases h) (fun _ => ?_)) (Ex.done rfl)
      exact Ex.step rfl (Ex1.ite (b := true) (Tst.of (Tst.or2 (b := (Sym.sep.i == 0)) (c := (Sym.sep.i == 13)) (Tst.val (tEOF rfl)) fun _ => Tst.cmp CmpOk.eqI (Ev.rd (Ev.name rfl)) (Ev.rd Ev.int)) rfl) (fun _ => proc (.inl rfl)) (fun h => by cases h)) (Ex.done rfl)
    | eof =>
      refine Ex.step rfl (Ex1.ite (b := false) (Tst.of (Tst.val (tNT rfl)) (symI_not _ (by intro t e; cases e))) (fun h => by cases h) (fun _ => ?_)) (Ex.done rfl)
      exact Ex.step rfl (Ex1.ite (b := true) (Tst.of (Tst.or2 (b := (Sym.eof.i == 0)) (c := (Sym.eof.i == 13)) (Tst.val (tEOF rfl)) fun _ => Tst.cmp CmpOk.eqI (Ev.rd (Ev.name rfl)) (Ev.rd Ev.int)) rfl) (fun _ => proc (.inr rfl)) (fun h => by cases h)) (Ex.done rfl)
  · refine Ex.last rfl (Ex1.retOwn ?_)
    rw [List.length_map, List.take_length]; rfl
theorem fn_done {row : List Sym} {n : Nat} {t1 t2 : Tok} (F : FunG G "_law_done" 76) (D : Mdl G C mt) (DF : DeedFn prog w G C (n + 4)) (F1 : FunG G "ISNONTERMINAL" 66) (g1 : GVal G "NT_OFFSET" (.int 256 t1)) (F2 : FunG G "ISEOF" 67) (g2 : GVal G "ENDMARKER" (.int 0 t2)) (hl : row.length ≤ 31) :
    Fn prog w G "_law_done" (n + 5) [.lst (row.map fun y => .int y.i)] (hdrOf C (row.foldl dstep (([], 0), [], [], none)).1.1) :=
  Fn.one (x := "row") F ⟨rfl, by decide +kernel, by decide +kernel⟩ (fun _ _ _ _ _ _ _ _ _ => rfl) rfl fun A L qual a code hA => body_done hA D DF F1 g1 F2 g2 hl
theorem fn_ways {rs : List Road} {s : Town} {n : Nat} (F : FunG G "_law_ways" 79) (D : Mdl G C mt) (hl : rs.length ≤ 20) (hu : OnUp (onOf rs)) (ho : outs (onOf rs) 0 ≤ 20) (hlen : BVal G "len" (.builtin "len")) (hen : BVal G "enumerate" (.type "enumerate")) :
    Fn prog w G "_law_ways" (n + 3) [hdrOf C rs, .str (nm s false)] (.lst ((run (onOf rs) (2 ^ 20) [(s, 2 ^ s.val, 1)] 0).map pvWay)) :=
  Fn.two (x := "table") (y := "start") F ⟨rfl, by decide +kernel, by decide +kernel⟩ (by decide) (fun _ _ _ _ _ _ _ _ _ _ => rfl) rfl fun A L qual a code hA => body_ways hA.1 hu ho (getAll_of D (by omega) hA) hlen hen
end
end LW
namespace LW

/-- only the slots at L may be changed -/
structure KpS (L : Addr) (h h' : Heap) : Prop where
  off : ∀ b o, b ≠ L → h.get? b = some o → h'.get? b = some o
  here : ∀ o, h.get? L = some o → ∃ sl, h'.get? L = some { o with slots := sl }
theorem Kp.toS {L : Addr} {h h' : Heap} (k : Kp h h') : KpS L h h' := ⟨fun b o _ e => k b o e, fun o e => ⟨o.slots, k _ _ e⟩⟩
theorem KpS.trans {L : Addr} {a b c : Heap} (x : KpS L a b) (y : KpS L b c) : KpS L a c :=
  ⟨fun d o n e => y.off d o n (x.off d o n e), fun o e => let ⟨sl, e1⟩ := x.here o e; let ⟨sl2, e2⟩ := y.here _ e1; ⟨sl2, e2⟩⟩
theorem KpS.hid {L : Addr} {h h' : Heap} {M : List Addr} (k : KpS L h h') (hL : L ∈ M) : Kp (LW.hid h M) (LW.hid h' M) := fun b o e => by
  rw [hid_get] at e ⊢
  exact ⟨k.off b o (fun e' => e.2 (e' ▸ hL)) e.1, e.2⟩

/-- no record of fields -/
noncomputable def NF (o : Obj) : Prop := ∀ vs, o.data ≠ .fields vs
/-- what an exception on its way has left of the heap -/
structure Held (Bh h0 : Heap) (e : Addr) (X : String) (h : Heap) (fl : Value) : Prop where
  base : Bh.StaysIn h
  nf : ∀ b o, h0.get? b = some o → NF o → ∃ sl, h.get? b = some { o with slots := sl }
  exc : ∃ oe vs tb otb tvs, h.get? e = some oe ∧ oe.cls = .type X ∧ oe.data = .fields vs ∧ vs[1]? = some (.ref tb) ∧ h.get? tb = some otb ∧ otb.data = .fields tvs ∧ tvs[3]? = some fl ∧ tb ≠ e ∧ Bh.get? tb = none

section
variable {M : Model} {A : Around} {E : Value → Shared → Prop} {s : Shared}

theorem wpAny_setFlightH {base h0 : Heap} {e : Addr} {X : String} {fl : Value} {f : Option Addr} {Q : Unit → Shared → Prop} (H : Held base h0 e X s.heap fl)
    (h : ∀ h', Held base h0 e X h' (f.elim .none fun f => rawInt f) → Q () { s with heap := h' }) : wpAny M A (setFlight (.ref e) f) Q E s := by
  refine LW.hideGoal fun GG hGG => ?_
  obtain ⟨hb, hn, oe, vs, tb, otb, tvs, he, hc, hd, h1, ht, htd, h3, hne, hbt⟩ := H
  refine hGG ?_
  clear hGG GG
  have hsz : 3 < tvs.size := (Array.getElem?_eq_some_iff.mp h3).1
  unfold setFlight
  refine wpAny_bind (wpAny_field he hd h1 ?_)
  rw [if_pos (show (Value.ref tb != Value.none) = true from by simp)]
  refine wpAny_setField ht htd hsz (h _ ⟨fun b o e => ?_, fun b o e hnf => ?_, oe, vs, tb, _, _, ?_, hc, hd, h1, Heap.get?_update_self _ ht (Obj.isFreed_of_fields (Obj.data_mapFields htd _)), Obj.data_mapFields htd _, by simp [Array.getElem?_setIfInBounds, hsz], hne, hbt⟩)
  · rw [Heap.get?_update_ne _ _ _ _ (fun q => by rw [q, hbt] at e; cases e)]; exact hb b o e
  · obtain ⟨sl, e'⟩ := hn b o e hnf
    refine ⟨sl, (Heap.get?_update_ne _ _ _ _ fun q => ?_).trans e'⟩
    rw [q, ht] at e'; cases e'; exact hnf _ htd
  · rw [Heap.get?_update_ne _ _ _ _ (Ne.symm hne)]; exact he

theorem wpAny_noteNext {base h0 : Heap} {env : Env} {outer : List Env} {L e : Addr} {X : String} {Q : Unit → Shared → Prop}
    (hfr : A.frames = some (env :: outer)) (hl : s.heap.FunFrames base (env :: outer)) (hf : env.frame = some L) (H : Held base h0 e X s.heap .none) (hen : base.get? e = none)
    (h : ∀ h', Held base h0 e X h' (rawInt L) → Q () { s with heap := h' }) : wpAny M A (noteFrame (.ref e) env) Q E s := by
  refine LW.hideGoal fun GG hGG => ?_
  obtain ⟨hb, hn, oe, vs, T, oT, ts, he, hc, hd, h1, hT, hdT, h3, hTe, hnT⟩ := H
  refine hGG ?_
  clear hGG GG
  have hsz : 1 < vs.size := (Array.getElem?_eq_some_iff.mp h1).1
  unfold noteFrame
  simp only [hf]
  refine wpAny_bind (wpAny_field he hd h1 ?_)
  rw [if_pos (show (Value.ref T != Value.none) = true from by simp)]
  refine wpAny_bind (wpAny_field hT hdT h3 ?_)
  rw [if_neg (show ¬ ((Value.none == rawInt L) = true) from by simp [rawInt])]
  refine wpAny_bind (wpAny_setField hT hdT (Array.getElem?_eq_some_iff.mp h3).1 ?_)
  have other : ∀ b, b ≠ T → (s.heap.update T (Obj.mapFields (·.setIfInBounds 3 Value.none))).get? b = s.heap.get? b := fun b hb => Heap.get?_update_other _ _ (Ne.symm hb)
  have noRec : ∀ b o, s.heap.get? b = some o → (∀ vs, o.data ≠ .fields vs) → b ≠ T := fun b o hb hnf q => by
    rw [q, hT] at hb; injection hb with hb; subst hb; exact hnf ts hdT
  have hl1 : (s.heap.update T (Obj.mapFields (·.setIfInBounds 3 Value.none))).FunFrames base (env :: outer) := hl.of_keeps fun b o hb hnf => ⟨o, (other b (noRec b o hb hnf)).trans hb, rfl⟩
  have he1 := (other e (Ne.symm hTe)).trans he
  generalize (s.heap.update T (Obj.mapFields (·.setIfInBounds 3 Value.none))) = g at other hl1 he1
  refine wpAny_bind (wpAny_frameOf_fun (s := { s with heap := g }) hfr hl1 hf fun h₁ hs₁ => ?_)
  have hene : e ∉ (env :: outer).filterMap (·.frame) := fun hm => by
    refine LW.hideGoal fun GG hGG => ?_
    obtain ⟨_, o, ho, hnf⟩ := hl1.mem hm
    refine hGG ?_
    clear hGG GG
    rw [he1] at ho; injection ho with ho; subst ho; exact hnf vs hd
  have he2 := (hs₁.2.1 e hene).trans he1
  have kb1 : base.StaysIn h₁ := fun b o hbo => (hs₁.2.1 b fun hm => by rw [(hl1.mem hm).1] at hbo; cases hbo).trans ((other b fun q => by rw [q, hnT] at hbo; cases hbo).trans (hb b o hbo))
  refine wpAny_bind (wpAny_entryPlaceOf fun pl hpl => ?_)
  unfold EntryCells.newEntry newFields
  refine wpAny_bind (wpAny_newObj_type ?_ (hpl.sizeOk5 _ _ _ _ _))
  have he3 := Heap.get?_push_of_some (h := h₁) { cls := .type "traceback", dict := none, data := .fields ([Value.ref T, .ref L, .none, rawInt L, .none] ++ (if pl.isEmpty then List.replicate 6 Value.none else pl)).toArray } he2
  refine wpAny_setField he3 hd hsz (h _ ?_)
  have hTe' : h₁.objs.size ≠ e := Nat.ne_of_gt (Heap.lt_size he2)
  have hd3 := Obj.data_mapFields hd (·.setIfInBounds 1 (Value.ref h₁.objs.size))
  refine ⟨fun b o hbo => ?_, fun b o hb0 hnf => ?_, _, _, h₁.objs.size, _, _, Heap.get?_update_self _ he3 (Obj.isFreed_of_fields hd3), (Obj.cls_mapFields _ _).trans hc, hd3, by simp [hsz],
    (Heap.get?_update_ne _ _ _ _ hTe').trans (Heap.get?_push_size h₁ rfl), rfl, by simp, hTe', kb1.fresh⟩
  · rw [Heap.get?_update_ne _ _ _ _ (fun q => by rw [q, hen] at hbo; cases hbo)]
    exact Heap.get?_push_of_some _ (kb1 b o hbo)
  · obtain ⟨sl, hs⟩ := hn b o hb0 hnf
    have hs' := (other b (noRec b _ hs hnf)).trans hs
    obtain ⟨sl2, hs2⟩ := hs₁.2.2 b _ hs'
    refine ⟨sl2, ?_⟩
    rw [Heap.get?_update_ne _ _ _ _ (fun q => ?_)]
    · exact Heap.get?_push_of_some _ hs2
    · rw [q, he2] at hs2; cases hs2; exact hnf _ hd

theorem wpAny_cameBackH {base h0 : Heap} {env : Env} {L e : Addr} {X : String} {fl : Value} (hf : env.frame = some L) (H : Held base h0 e X s.heap fl)
    (h : ∀ h', Held base h0 e X h' (rawInt L) → E (.ref e) { s with heap := h' }) : cameBackBy M A env E (.ref e) s := by
  unfold cameBackBy
  have H' := H
  refine LW.hideGoal fun GG hGG => ?_
  obtain ⟨hb, hn, oe, vs, tb, otb, tvs, he, hc, hd, h1, ht, htd, h3, hne, hbt⟩ := H'
  refine hGG ?_
  clear hGG GG
  refine wpAny_bind (wpAny_field he hd h1 ?_)
  rw [if_neg (show ¬ ((Value.ref tb == Value.none) = true) from by simp)]
  refine wpAny_setFlightH H fun h' H2 => ?_
  rw [hf] at H2
  exact h h' H2
theorem wpAny_noteAgain {base h0 : Heap} {env : Env} {L e : Addr} {X : String} {Q : Unit → Shared → Prop} (hf : env.frame = some L) (H : Held base h0 e X s.heap (rawInt L)) (h : Q () s) : wpAny M A (noteFrame (.ref e) env) Q E s := by
  refine LW.hideGoal fun GG hGG => ?_
  obtain ⟨hb, hn, oe, vs, tb, otb, tvs, he, hc, hd, h1, ht, htd, h3, hne, hbt⟩ := H
  refine hGG ?_
  clear hGG GG
  exact wpAny_noteFrame_inFlight hf he hd h1 ht htd h3 h
end

section
variable {prog : Program} {w : World} {A : Around} {E : Value → Shared → Prop} {s : Shared}

/-- next(it) at the end -/
theorem call_next_end {it l : Addr} {i : Nat} {items : Array Value} {Q : Value → Shared → Prop} (hh : A.handled = none) (hit : s.heap.IsListIter it l i) (hl : s.heap.IsList l items) (hx : items[i]? = none)
    (hE : ∀ h' e, (∀ b o, b ≠ it → s.heap.get? b = some o → h'.get? b = some o) → s.heap.get? e = none → (∃ ob vs, h'.get? e = some ob ∧ ob.cls = .type "StopIteration" ∧ ob.data = .fields vs ∧ vs[1]? = some .none) → E (.ref e) { s with heap := h' }) :
    wpAny (model prog w) A (call (.builtin "next") [.ref it]) Q E s := by
  refine Calls.call_function_entry (by decide +kernel) (by decide +kernel) next_entry (next_args _) ?_
  unfold Builtin.«next»
  refine wpAny_bind (m := someArgs "next" 1 2 _) (wpAny_of_eq (a := [Value.ref it]) (by first | rfl | kernel_rfl!) ?_)
  dsimp only
  refine wpAny_bind (wpAny_specialOf (name := Str.ofString "__next__") hit.typeIs slot_listiter_next.lookup ?_)
  refine wpAny_ite_split (fun hab => absurd hab (by decide)) (fun _ => ?_)
  refine LW.hideGoal fun GG hGG => ?_
  obtain ⟨o, ho, hc, hd⟩ := id hit
  obtain ⟨ol, hol, _, nl, hdl⟩ := hl
  refine hGG ?_
  clear hGG GG
  refine wpAny_bind (wpAny_callSpecial?_slot (name := Str.ofString "__next__") hit.typeIs slot_listiter_next (wpAny_call_entry slot_listiter_next hit.typeIs entry_listiter_next ?_ (args_listiter_next _)))
  show wpAny _ _ (field (.ref it) 0 >>= _) _ _ s
  refine wpAny_bind (wpAny_field ho hd (x := .ref l) rfl ?_)
  show wpAny _ _ (if (Value.ref l == Value.none) = true then _ else _) _ _ s
  rw [if_neg (show ¬ ((Value.ref l == Value.none) = true) from Bool.false_ne_true)]
  show wpAny _ _ (field (.ref it) 1 >>= _) _ _ s
  refine wpAny_bind (wpAny_field ho hd (x := .int i 0) rfl ?_)
  show wpAny _ _ (seqItems? (.ref l) >>= _) _ _ s
  refine wpAny_bind (wpAny_seqItems hol hdl ?_)
  simp only [Int.toNat_natCast, hx]
  refine wpAny_bind (wpAny_rule (wpAny_bind (wpAny_setField ho hd (by simp) ?_)))
  show wpAny _ _ (newExc (.type "StopIteration") [] >>= _) _ _ _
  refine wpAny_bind ?_
  simp only [newExc, newTuple]
  refine wpAny_bind (wpAny_newObj_type ?_ (by size_fits))
  refine wpAny_bind (m := firstArgMember _ _) (wpAny_of_eq (a := Value.none) (by first | rfl | (simp only [firstArgMember]; rfl)) ?_)
  refine wpAny_newObj_type ?_ (by size_fits)
  simp only [raiseNew]
  refine wpAny_bind (wpAny_handled ?_)
  first | rw [show A.in1.in1.handled = none from hh] | rw [show A.in1.handled = none from hh] | rw [hh]
  refine wpAny_bind (wpAny_pure (wpAny_throw ?_))
  refine hE _ _ (fun b o hb e => Heap.get?_push_of_some _ (Heap.get?_push_of_some _ ((Heap.get?_update_ne _ _ _ _ hb).trans e))) ?_ ⟨_, _, Heap.get?_push_size _ rfl, rfl, rfl, rfl⟩
  refine Heap.get?_none_of_le ?_
  simp [Heap.size_after_update]
end
end LW
namespace LW
section
variable {prog : Program} {w : World} {A : Around} {G H0 : Heap} {env : Env} {σ σ₂ σ₃ σc : Sy} {h h' : Heap} {M : List Addr} {m : Str → Option Value} {s : Shared} {B : Bs} {oa : OA}

theorem iter_entry : entryFor table "iter" = some Builtin.«iter» := entryFor_of_tree (by kernel_rfl)
theorem iter_args (a : Value) : argsOk "iter" ⟨[a], []⟩ := by unfold argsOk; kernel_rfl
theorem EvN.iter {np pos : Pos} {e : PySem.Expr} {ps : List PV} (hb : BVal H0 "iter" (.builtin "iter")) (hk : env.kindOf "iter" = some .globalImplicit) (he : Ev prog w H0 A env σ e (.lst ps))
    (hse : starEach [e] env = [(false, eval e env)] := by rfl) : EvN prog w H0 A env σ (.Call (.Name "iter" np) [e] [] pos) (.itr ps) := .mk fun s M m Q E V q => by
  refine Call_name1 hse ((Ev.bi hb hk).run s M m _ _ V fun f h₁ t₁ k₁ r₁ => ?_)
  obtain rfl : f = _ := r₁
  refine PySem.callWith_builtin1 (he.run _ M m _ _ (V.keeps k₁) fun v h₂ t₂ k₂ rv => ?_)
  refine LW.hideGoal fun GG hGG => ?_
  obtain ⟨l, vs, rfl, hl, r⟩ := rv
  refine hGG ?_
  clear hGG GG
  refine Calls.call_function_entry (by decide +kernel) (by decide +kernel) iter_entry (iter_args _) ?_
  unfold Builtin.«iter»
  refine wpAny_bind (m := someArgs "iter" 1 2 _) (wpAny_of_eq (a := [Value.ref l]) (by first | rfl | kernel_rfl!) ?_)
  dsimp only
  have hl2 : h₂.PlainList l vs.toArray := hl.at fun o => Kp.ofHid _ _ l o
  refine wpAny_bind (wpAny_pyIter_list (s := { s with heap := h₂, toks := t₂ }) hl2.isList (wpAny_pure ⟨_, rfl, ?_⟩))
  have fr : s.heap.get? h₂.objs.size = none := by
    cases e : s.heap.get? h₂.objs.size with
    | none => rfl
    | some o => exact absurd (Heap.lt_size (k₂ _ _ (k₁ _ _ e))) (Nat.lt_irrefl _)
  have kp := Kp.push h₂ { cls := .type "list_iterator", data := .fields #[.ref l, .int 0 0] }
  have hn : h₂.get? h₂.objs.size = none := size_none _
  have kh : Kp (hid h₂ M) (hid (h₂.push { cls := .type "list_iterator", data := .fields #[.ref l, .int 0 0] }) (h₂.objs.size :: M)) := fun b o e => by
    rw [hid_get] at e ⊢
    refine ⟨kp _ _ e.1, fun hm => ?_⟩
    rcases memC hm with rfl | hm
    · rw [hn] at e; cases e.1
    · exact e.2 hm
  exact q h₂.objs.size _ _ _ (Kp.trans k₁ (Kp.trans k₂ kp)) fr ⟨rfl, l, vs, 0, ⟨_, Heap.get?_push_size _ rfl, rfl, rfl⟩, hl.at fun o e => kh l o e, RepVs.mono kh _ _ r⟩

theorem OwnV.stop {h : Heap} {M : List Addr} {a : Addr} (x : OwnV prog w h M a (.ref a) (.itr [])) : ∃ l vs k, h.IsListIter a l k ∧ h.PlainList l (List.toArray vs) ∧ vs[k]? = none := by
  refine LW.hideGoal fun GG hGG => ?_
  obtain ⟨_, l, vs, k, h1, h2, e⟩ := x
  obtain e : vs.drop k = [] := e
  refine hGG ?_
  clear hGG GG
  refine ⟨l, vs, k, h1, h2.at fun o => Kp.ofHid _ _ l o, ?_⟩
  rw [List.getElem?_eq_none]
  exact List.drop_eq_nil_iff.mp e

/-- x = next(y) at the end -/
theorem next_raises {x y : Str} {px py np pos spos : Pos} {a : Addr} {t : List (Addr × PV)} {Q : Flow → Shared → Prop} {E : Value → Shared → Prop} (hh : A.handled = none) (S : St prog w B env σ s.heap oa m) (kg : Kp G B.H0) (hb : BVal G "next" (.builtin "next")) (hk : env.kindOf "next" = some .globalImplicit) (hy : σ.v.lookup y = some (.im (.raw (.ref a)))) (ht : σ.t = (a, .itr []) :: t)
    (hE : ∀ h₀ tk h' e, Kp s.heap h₀ → (∀ b o, b ≠ a → h₀.get? b = some o → h'.get? b = some o) → h₀.get? e = none → (∃ ob vs, h'.get? e = some ob ∧ ob.cls = .type "StopIteration" ∧ ob.data = .fields vs ∧ vs[1]? = some .none) → E (.ref e) { s with heap := h', toks := tk })
    (hs : swapsWith (.Call (.Name "next" np) [.Name y py] [] pos) (some (.Name x px)) spos.line env = pure false := by rfl)
    (hse : starEach [.Name y py] env = [(false, eval (.Name y py) env)] := by rfl) (hd : ((y == ("__debug__" : Str)) || (y == ("__classdict__" : Str))) = false := by decide) :
    wpAny (model prog w) A (exec (.Assign [.Name x px] (.Call (.Name "next" np) [.Name y py] [] pos) spos) env) Q E s := by
  have V := S.vars kg
  refine wpAny_Assign_Name (Call_name1 hse ((Ev.bi hb hk).run s _ m _ _ V fun f h₁ t₁ k₁ r₁ => ?_)) hs
  obtain rfl : f = _ := r₁
  refine PySem.callWith_builtin1 ((Ev.name (p := .raw (.ref a)) hy hd).run { s with heap := h₁, toks := t₁ } _ m _ _ (V.keeps k₁) fun v h₂ t₂ k₂ r₂ => ?_)
  refine LW.hideGoal fun GG hGG => ?_
  obtain rfl : v = .ref a := r₂
  have S2 := S.keeps (k₁.trans k₂)
  have hm : (a, PV.itr []) ∈ σ.t := by rw [ht]; exact List.mem_cons_self
  obtain ⟨l, vs, k, hit, hL, hvk⟩ := OwnV.stop (S2.th _ hm)
  refine hGG ?_
  clear hGG GG
  exact call_next_end (s := { s with heap := h₂, toks := t₂ }) hh hit hL.isList (by rw [List.getElem?_toArray]; exact hvk) fun h' e h1 h2 h3 => hE h₂ t₂ h' e (k₁.trans k₂) h1 h2 h3

theorem execs_cons_of {ss rest : List Stmt} {st : Stmt} {Q : Flow → Shared → Prop} {E : Value → Shared → Prop} {M : Model} (hb : ss = st :: rest) (h1 : wpAny M A (exec st env) (fun f s' => match f with | .next => wpAny M A (execs rest env) Q E s' | f => Q f s') E s) : wpAny M A (execs ss env) Q E s := hb ▸ wpAny_execs_cons h1

/-- _parse_varint at the end of its iterator -/
theorem varint_stops {fa a : Addr} {X : List Addr} {base : Heap} {l : List Env} {Q : Value → Shared → Prop} {E : Value → Shared → Prop} (F : FunR G fa (dA 8) (dB 8) (dS 8) .none) (hb : BVal G "next" (.builtin "next")) (hA : Rm A 1) (hfr : A.frames = some l)
    (kg : Kp G (hid s.heap M)) (sm : ∃ o, s.heap.get? sysModules = some o) (ex : ∀ a ∈ M, ∃ o, s.heap.get? a = some o) (MX : ∀ b, b ∈ M ↔ b ∈ X ∨ b ∈ [a]) (ap : a ∉ X) (th : OwnV prog w s.heap M a (.ref a) (.itr []))
    (hbase : base.StaysIn s.heap) (hba : base.get? a = none) (hfl : s.heap.FunFrames base l)
    (hE : ∀ e h' tk, base.get? e = none → Held base s.heap e "StopIteration" h' .none → h'.FunFrames base l → E (.ref e) { s with heap := h', toks := tk }) :
    wpAny (model prog w) A (call (.ref fa) [.ref a] []) Q E s := by
  refine LW.hideGoal fun GG hGG => ?_
  obtain ⟨o, nm, qn, kd, doc, pm, an, code, ct, ho, hcls, hdict, hdata, hcode⟩ := F.it
  refine hGG ?_
  clear hGG GG
  have kgs : Kp G s.heap := kg.trans (Kp.ofHid _ _)
  have hs : ScOk (dS 8) := ⟨rfl, by decide +kernel, by decide +kernel⟩
  have hbt : BindsTo s ⟨nm, qn, dA 8, .stmts (dB 8), dS 8, mainGlobals, [], .none, kd, doc, pm, an, code, ct, builtinsNs⟩ ⟨[.ref a], []⟩ [("iterator", .ref a)] := BindsTo.of_eq rfl
  have hbs : Binds prog w (hid s.heap M) [("iterator", .raw (.ref a))] [("iterator", .ref a)] := .cons rfl .nil
  refine wpAny_call (codeAny_call_function (by have := hA.2.1; show A.depth < 1000; omega) (kgs _ _ ho) hdata rfl rfl rfl (hcode.keeps kgs) (hbt _ _ _ _ ?_))
  refine wpAny_newFunctionEnv_cells hs.kind (fun y hy => ?_) fun env he s' x => ?_
  · rw [List.mem_singleton.mp hy]; exact .inl rfl
  · subst he
    refine ⟨(F.lim.keeps kgs).keeps x.toInCall.keep, codeAny_func ?_⟩
    have S := enter (prog := prog) (w := w) (M := M) (X := X) (t := [(a, .itr [])]) (qual := qn) (fa := fa) (code := code) (L := s.heap.objs.size) hs x MX (fun b hb => by rw [List.mem_singleton.mp hb]; exact ap) (by simp) ex sm hbs (by simp) rfl (fun y hy => by rw [List.mem_singleton.mp hy]; exact th)
    obtain ⟨h₁, t₁, es⟩ := x.toInCall.same
    subst es
    have k1 : Kp s.heap h₁ := x.toInCall.keep
    obtain ⟨mm, hns⟩ : ∃ mm, h₁.Ns s.heap.objs.size mm := ⟨_, x.toInCall.ns⟩
    have fr : s.heap.get? s.heap.objs.size = none := size_none _
    have haL : a ≠ s.heap.objs.size := fun e => by obtain ⟨o, ho⟩ := ex a ((MX a).mpr (.inr List.mem_cons_self)); rw [e, fr] at ho; cases ho
    refine execs_cons_of (env := fenv (dS 8) s.heap.objs.size qn fa code) (ss := dB 8) rfl (next_raises (s := { s with heap := h₁, toks := t₁ }) (G := G) (a := a) (t := []) hA.1 S kg hb rfl rfl rfl fun h₀ tk h' e k2 kb hne hex => ?_)
    refine LW.hideGoal fun GG hGG => ?_
    obtain ⟨ob, vs, he, hc, hd, hv1⟩ := hex
    refine hGG ?_
    clear hGG GG
    have nfa : ∀ b o, s.heap.get? b = some o → NF o → b ≠ a := fun b o hb hnf e => by
      refine LW.hideGoal fun GG hGG => ?_
      obtain ⟨_, lst, us, k, ⟨oi, hi, _, hid'⟩, _⟩ := th
      refine hGG ?_
      clear hGG GG
      rw [e, hi] at hb; cases hb; exact hnf _ hid'
    have k3 : ∀ b o, b ≠ a → s.heap.get? b = some o → h'.get? b = some o := fun b o hb e => kb b o hb (k2 b o (k1 b o e))
    have hst : base.StaysIn h' := fun b o e => k3 b o (fun e' => by rw [e', hba] at e; cases e) (hbase b o e)
    have hbL : base.get? s.heap.objs.size = none := hbase.fresh
    have hbe : base.get? e = none := by
      cases hq : base.get? e with
      | none => rfl
      | some o' => have := k2 _ _ (k1 _ _ (hbase _ _ hq)); rw [hne] at this; cases this
    have hFl : h'.FunFrames base l := hfl.of_keeps fun b o hb hnf => ⟨o, k3 b o (nfa b o hb hnf) hb, rfl⟩
    have hns' : h'.Ns s.heap.objs.size mm := by
      refine LW.hideGoal fun GG hGG => ?_
      obtain ⟨on, es, ep, h1, h2⟩ := hns
      refine hGG ?_
      clear hGG GG
      exact ⟨on, es, ep, kb _ _ (Ne.symm haL) (k2 _ _ h1), h2⟩
    have hF : h'.FunFrames base (fenv (dS 8) s.heap.objs.size qn fa code :: l) := Heap.FunFrames.cons (by show (dS 8).kind ≠ .module; decide +kernel) rfl hns' hbL hFl
    refine wpAny_leaving_first (s := { s with heap := h', toks := tk }) (Around.frames_deeper hfr) hF rfl he hst hbe hd hv1 fun h'' Lf => ?_
    refine LW.hideGoal fun GG hGG => ?_
    obtain ⟨l1, ⟨_, _, l2⟩, ⟨oe, vs', T, oT, ts, e1, e2, e3, e4, e5, e6, e7, e8, e9⟩, l4⟩ := Lf
    refine hGG ?_
    clear hGG GG
    exact hE e h'' tk hbe ⟨l1, fun b o hb hnf => l4 b o (k3 b o (nfa b o hb hnf) hb) hnf, oe, vs', T, oT, ts, e1, e2.trans hc, e3, e4, e7, e8, e9, e6, e5⟩ l2
end
end LW
namespace LW
section
variable {prog : Program} {w : World} {A : Around} {G H0 : Heap} {env : Env} {σ σ' σ₂ σ₃ σc : Sy} {h h' : Heap} {M : List Addr} {m : Str → Option Value} {s : Shared} {B : Bs} {oa : OA}

/-- signs.append(chr(_parse_varint(tape))), up to the call of _parse_varint -/
theorem signs_eval {fa : Addr} {o : Obj} {fd : FuncData} {ps qs : List PV} {p0 apos cp fp tp fpos cpos pos pos' : Pos} {Q : Flow → Shared → Prop} {E : Value → Shared → Prop}
    (S : St prog w B env σ s.heap oa m) (kg : Kp G B.H0) (hsig : σ.v.lookup ("signs" : Str) = some (.ow (.lst ps))) (htape : σ.v.lookup ("tape" : Str) = some (.ow (.itr qs)))
    (hg : GVal G "_parse_varint" (.ref fa)) (ho : G.get? fa = some o) (hfd : o.data = .func fd) (hk : env.kindOf "_parse_varint" = some .globalImplicit) (hc : BVal G "chr" (.builtin "chr")) (hkc : env.kindOf "chr" = some .globalImplicit)
    (k : ∀ h₁ t₁ at_ as_, Kp s.heap h₁ → oa.lookup ("tape" : Str) = some at_ → oa.lookup ("signs" : Str) = some as_ → wpAny (model prog w) A (call (.ref fa) [.ref at_] []) (fun v s₂ => wpAny (model prog w) A (call (.builtin "chr") [v]) (fun y s₃ => wpAny (model prog w) A (call (.builtin "list.append") [.ref as_, y]) (fun v s' => match v with | .ref _ => False | _ => Q .next s') E s₃) E s₂) E { s with heap := h₁, toks := t₁ })
    (hfew : ((backTo pos (starEach [.Call (.Name "chr" cp) [.Call (.Name "_parse_varint" fp) [.Name "tape" tp] [] fpos] [] cpos] env)).all (fun x => !x.1) && (backToKw pos (keywordEach [] env)).all (fun x => x.1.isSome)
      && decide (([.Call (.Name "chr" cp) [.Call (.Name "_parse_varint" fp) [.Name "tape" tp] [] fpos] [] cpos] : List PySem.Expr).length + ([] : List Keyword).length + (if ([] : List Keyword).isEmpty then 0 else 1) < 30)) = true := by rfl)
    (hline : (apos.endLine == pos.line) = true := by rfl)
    (htrees : backTo pos (starEach [.Call (.Name "chr" cp) [.Call (.Name "_parse_varint" fp) [.Name "tape" tp] [] fpos] [] cpos] env) = [(false, eval (.Call (.Name "chr" cp) [.Call (.Name "_parse_varint" fp) [.Name "tape" tp] [] fpos] [] cpos) env)] := by rfl)
    (hse : starEach [.Call (.Name "_parse_varint" fp) [.Name "tape" tp] [] fpos] env = [(false, eval (.Call (.Name "_parse_varint" fp) [.Name "tape" tp] [] fpos) env)] := by rfl)
    (hst : starEach [.Name "tape" tp] env = (false, eval (.Name "tape" tp) env) :: starEach [] env := by rfl)
    (hbt : backTo fpos (starEach [.Name "tape" tp] env) = (false, eval (.Name "tape" tp) env) :: backTo fpos (starEach [] env) := by rfl)
    (hi : interactive env = false := by rfl)
    (hs : swapsWith (.Call (.Attribute (.Name "signs" p0) "append" apos) [.Call (.Name "chr" cp) [.Call (.Name "_parse_varint" fp) [.Name "tape" tp] [] fpos] [] cpos] [] pos) none pos'.line env = pure false := by rfl) :
    wpAny (model prog w) A (exec (.Expr (.Call (.Attribute (.Name "signs" p0) "append" apos) [.Call (.Name "chr" cp) [.Call (.Name "_parse_varint" fp) [.Name "tape" tp] [] fpos] [] cpos] [] pos) pos') env) Q E s := by
  refine LW.hideGoal fun GG hGG => ?_
  obtain ⟨v, sl, as_, ha, rfl, vs, hL, r⟩ := S.va _ _ hsig
  obtain ⟨v', sl', at_, ha', rv'⟩ := S.va _ _ htape
  obtain rfl : v' = .ref at_ := rv'.1
  refine hGG ?_
  clear hGG GG
  refine wpAny_Expr (wpAny_Call_append rfl hfew hline htrees (wpAny_Name (load_slot S.fn S.ns sl (by decide) ⟨as_, vs.toArray, rfl, PlainList.toL hL, ?_⟩) (by decide))) hi hs
  refine Call_name1 hse ((Ev.bi hc hkc).run s _ m _ _ (S.vars kg) fun f h₁ t₁ k₁ r₁ => ?_)
  obtain rfl : f = _ := r₁
  refine PySem.callWith_builtin1 ?_
  rw [arm_eval_Call_Name']
  have S1 := S.keeps k₁
  refine wpAny_bind ((Ev.glob hg hk (by decide)).run { s with heap := h₁, toks := t₁ } _ m _ _ (S1.vars kg) fun g h₂ t₂ k₂ rg => ?_)
  obtain rfl : g = .ref fa := rg
  have S2 := S1.keeps k₂
  show wpAny _ A (callWith fpos (.ref fa) [] (backTo fpos (starEach [.Name "tape" tp] env)) []) _ _ _
  refine Calls.callWith_function (o := o) (fd := fd) ?_
  have key : wpAny (model prog w) A (spliced (backTo fpos (starEach [.Name "tape" tp] env))) (fun us s' => (s'.heap.get? fa = some o ∧ o.data = .func fd) ∧ wpAny (model prog w) A (call (.ref fa) ([] ++ us) []) (fun v s₂ => wpAny (model prog w) A (call (.builtin "chr") [v]) (fun y s₃ => wpAny (model prog w) A (call (.builtin "list.append") [.ref as_, y]) (fun v s' => match v with | .ref _ => False | _ => Q .next s') E s₃) E s₂) E s') E { s with heap := h₂, toks := t₂ } := by
    refine wpAny_items_cons (wpAny_Name (load_slot (s := { s with heap := h₂, toks := t₂ }) S2.fn S2.ns (sl'.keeps (k₁.trans k₂)) (by decide) ?_) (by decide)) hst
    refine (EvL.nil (prog := prog) (w := w) (H0 := G) (A := A) (env := env) (σ := σ)).run { s with heap := h₂, toks := t₂ } _ m _ _ (S2.vars kg) fun us h₃ t₃ k₃ r₃ => ?_
    obtain rfl : us = [] := r₃
    have S3 := S2.keeps k₃
    exact ⟨⟨S3.base.trans (Kp.ofHid _ _) _ _ (kg _ _ ho), hfd⟩, k h₃ t₃ at_ as_ (Kp.trans k₁ (Kp.trans k₂ k₃)) ha' ha⟩
  rw [hbt] at key ⊢
  exact Calls.evalArgs_plain key

/-- a turn that gives a sign -/
theorem signs_turn {fa : Addr} {ps qs qs' : List PV} {n : Nat} {i : Nat} {Q : Shared → Prop} {E : Value → Shared → Prop}
    (S : St prog w B env σ s.heap oa m) (kg : Kp G B.H0) (hsig : σ.v.lookup ("signs" : Str) = some (.ow (.lst ps))) (htape : σ.v.lookup ("tape" : Str) = some (.ow (.itr qs)))
    (hc : ∀ a, CallT prog w G n (.ref fa) [.raw (.ref a)] [] [(a, .itr qs)] (.int (i : Nat)) [(a, .itr qs')]) (hA : Rm A n) (hi1 : i ≤ 0x10FFFF) (hsz : ps.length ≤ sizeLine)
    (q : ∀ h' tk, St prog w B env ⟨("signs", .ow (.lst (ps ++ [.str ⟨#[i]⟩]))) :: ("tape", .ow (.itr qs')) :: σ.v, σ.t⟩ h' oa m → Q { s with heap := h', toks := tk }) :
    ∀ h₁ t₁ at_ as_, Kp s.heap h₁ → oa.lookup ("tape" : Str) = some at_ → oa.lookup ("signs" : Str) = some as_ → wpAny (model prog w) A (call (.ref fa) [.ref at_] []) (fun v s₂ => wpAny (model prog w) A (call (.builtin "chr") [v]) (fun y s₃ => wpAny (model prog w) A (call (.builtin "list.append") [.ref as_, y]) (fun v s' => match v with | .ref _ => False | _ => Q s') E s₃) E s₂) E { s with heap := h₁, toks := t₁ } := by
  intro h₁ t₁ at_ as_ k₁ ha ha'
  have S1 := S.keeps k₁
  refine LW.hideGoal fun GG hGG => ?_
  obtain ⟨v, sl, a, ha0, rv⟩ := S1.va _ _ htape
  refine hGG ?_
  clear hGG GG
  obtain rfl : at_ = a := by rw [ha] at ha0; cases ha0; rfl
  obtain rfl : v = .ref at_ := rv.1
  have haM : at_ ∈ Mu env B oa σ.t := mem_Mu (mem_own_oa ha)
  refine hc at_ A { s with heap := h₁, toks := t₁ } (Mu env B oa σ.t) ((Mu env B oa σ.t).filter fun b => b != at_) [.ref at_] [] _ E hA (kg.trans S1.base) S1.sm S1.exM (fun b => ?_) (fun b hb => ?_) (by simp) (fun y hy => ?_) ⟨.ref at_, [], rfl, rfl, rfl⟩ rfl fun u h' tk kb rv' th' => ?_
  · rw [List.mem_filter]
    by_cases hb : b = at_
    · subst hb; simp [haM]
    · simp [hb]
  · simp only [List.map_cons, List.map_nil, List.mem_singleton] at hb
    subst hb
    intro hm; have := (List.mem_filter.mp hm).2; simp at this
  · rw [List.mem_singleton.mp hy]; exact rv
  · have new := th' (at_, .itr qs') List.mem_cons_self
    have kb' : ∀ b o, b ≠ at_ → h₁.get? b = some o → h'.get? b = some o := fun b o hb e => kb b o (by simpa using hb) e
    have S2 := S1.upd (p' := .itr qs') Kp.rfl htape sl ha kb' new new.ex
    refine C1.chr (i := (i : Int)) (by omega) (by omega) { s with heap := h', toks := tk } (Mu env B oa σ.t) u _ _ (RdV.of_rep rv') S2.exM fun y h₂ t₂ k₂ ry => ?_
    have S3 := S2.keeps k₂
    have hsig' : ((("tape" : Str), LV.ow (.itr qs')) :: σ.v).lookup ("signs" : Str) = some (.ow (.lst ps)) := hsig
    refine LW.hideGoal fun GG hGG => ?_
    obtain ⟨v3, sl3, a3, ha3, rfl, vs, hL, r⟩ := S3.va _ _ hsig'
    refine hGG ?_
    clear hGG GG
    obtain rfl : as_ = a3 := by rw [ha'] at ha3; cases ha3; rfl
    refine wpAny_list_append_plain (s := { s with heap := h₂, toks := t₂ }) hL (fun h₃ hL₃ hs => ?_) (by rw [List.size_toArray, r.length]; exact hsz)
    have haM := mem_Mu (B := B) (mem_own_oa (env := env) (t := σ.t) ha')
    have kh : Kp (hid h₂ (Mu env B oa σ.t)) (hid h₃ (Mu env B oa σ.t)) := fun b o e => by
      rw [hid_get] at e ⊢
      exact ⟨kb_of_sameBut hs b o (fun e' => e.2 (e' ▸ haM)) e.1, e.2⟩
    refine q h₃ t₂ (S3.upd Kp.rfl hsig' sl3 ha3 (kb_of_sameBut hs) ⟨rfl, vs ++ [y], by simpa using hL₃, ?_⟩ (by obtain ⟨n, e⟩ := hL₃; exact ⟨_, e⟩))
    refine RepVs.append (RepVs.mono kh _ _ r) (RepVs.one ?_)
    obtain ⟨t, rfl⟩ := ry
    exact ⟨t, rfl⟩

/-- what stands when the exception has come back -/
theorem St.held {L a e : Addr} {X : String} {fl : Value} (S : St prog w B env σ h oa m) (H : Held (hid h [L, env.locals, a]) h e X h' fl) (hL : L ∈ B.X) (hnL : ∃ o, h.get? L = some o ∧ NF o) (hsys : ∃ o, h.get? sysModules = some o ∧ NF o) (ha : oa.lookup ("tape" : Str) = some a)
    (ht : σ'.t = σ.t) (ht0 : σ.t = []) (hv : ∀ x lv, σ'.v.lookup x = some lv → x ≠ ("tape" : Str) ∧ σ.v.lookup x = some lv) : ∃ oa', St prog w ⟨B.H0, B.X, h'⟩ env σ' h' oa' m := by
  refine LW.hideGoal fun GG hGG => ?_
  obtain ⟨v', t'⟩ := σ'
  obtain rfl : t' = σ.t := ht
  obtain ⟨p1, p2, p3, p4⟩ := own_parts S.nd
  obtain ⟨q1, q2, q3⟩ := own_oa_th S.nd
  have k : ∀ b o, b ≠ L → b ≠ env.locals → b ≠ a → h.get? b = some o → h'.get? b = some o := fun b o n1 n2 n3 e => H.base b o (hid_get.mpr ⟨e, by simp [n1, n2, n3]⟩)
  have sub : List.Sublist (oa.filter fun z => z.1 != ("tape" : Str)) oa := List.filter_sublist
  have sO := mem_own_sub (env := env) (t := σ.t) sub
  have sM : ∀ b ∈ Mu env B (oa.filter fun z => z.1 != ("tape" : Str)) σ.t, b ∈ Mu env B oa σ.t := fun b hb => by
    rcases List.mem_append.mp hb with hb | hb
    · exact List.mem_append_left _ hb
    · exact mem_Mu (sO b hb)
  have hLM : L ∈ Mu env B oa σ.t := List.mem_append_left _ hL
  have haM : a ∈ Mu env B oa σ.t := mem_Mu (mem_own_oa ha)
  have hlM : env.locals ∈ Mu env B oa σ.t := mem_Mu List.mem_cons_self
  have kh : Kp (hid h (Mu env B oa σ.t)) (hid h' (Mu env B (oa.filter fun z => z.1 != ("tape" : Str)) σ.t)) := fun b o e => by
    rw [hid_get] at e ⊢
    exact ⟨k b o (fun q => e.2 (q ▸ hLM)) (fun q => e.2 (q ▸ hlM)) (fun q => e.2 (q ▸ haM)) e.1, fun q => e.2 (sM b q)⟩
  have hlocL : env.locals ≠ L := fun q => S.ap env.locals List.mem_cons_self (q ▸ hL)
  have haL : a ≠ L := fun q => S.ap a (mem_own_oa ha) (q ▸ hL)
  obtain ⟨ol, es, ep, hl, hld, hlr⟩ := S.ns
  have nfl : NF ol := fun vs q => by rw [hld] at q; cases q
  obtain ⟨slL, hlL⟩ := H.nf _ _ hl nfl
  refine hGG ?_
  clear hGG GG
  -- an own place other than the tape's
  have na : ∀ b ∈ ownA env (oa.filter fun z => z.1 != ("tape" : Str)) σ.t, b ≠ a := fun b hb q => by
    subst q
    unfold ownA at hb
    rcases List.mem_cons.mp hb with e | hb
    · exact (p3 _ b ha).1 e
    rcases List.mem_append.mp hb with hb | hb
    · obtain ⟨y, hy, e⟩ := List.mem_map.mp hb; exact (p3 _ b ha).2 y hy e.symm
    rcases List.mem_append.mp hb with hb | hb
    · refine LW.hideGoal fun GG hGG => ?_
      obtain ⟨⟨y, c⟩, hy, e⟩ := List.mem_map.mp hb
      obtain ⟨hy1, hy2⟩ := List.mem_filter.mp hy
      refine hGG ?_
      clear hGG GG
      simp only at e; subst e
      have := nodup_snd q1 hy1 (lookup_mem ha)
      subst this
      simp at hy2
    · obtain ⟨y, hy, e⟩ := List.mem_map.mp hb; exact q3 _ b ha y hy e.symm
  refine ⟨oa.filter fun z => z.1 != ("tape" : Str), S.fn, S.gl, S.bl, S.base.trans kh, fun b hb => ?_, ⟨_, es, ep, hlL, hld, hlr⟩, ?_, S.nf, Nodup.sub_own S.nd sub, fun b hb => S.ap b (sO b hb), fun b hb => ?_, fun y hy => ?_, fun x lv e => ?_, fun z hz => ?_⟩
  · -- hidden things stand
    obtain ⟨o, e1, e2⟩ := S.px b hb
    by_cases hbL : b = L
    · subst hbL
      refine LW.hideGoal fun GG hGG => ?_
      obtain ⟨o', e3, nf⟩ := hnL
      obtain ⟨sl, e4⟩ := H.nf _ _ e3 nf
      refine hGG ?_
      clear hGG GG
      exact ⟨_, e4, e4⟩
    · have e3 := k b o hbL (fun q => S.ap env.locals List.mem_cons_self (q ▸ hb)) (fun q => S.ap a (mem_own_oa ha) (q ▸ hb)) e2
      exact ⟨o, e3, e3⟩
  · obtain ⟨o', e3, nf⟩ := hsys; obtain ⟨sl, e4⟩ := H.nf _ _ e3 nf; exact ⟨_, e4⟩
  · have hba := na b hb
    by_cases h2 : b = env.locals
    · rw [h2]; exact ⟨_, hlL⟩
    · obtain ⟨o, e⟩ := S.ex b (sO b hb)
      exact ⟨o, k b o (fun q => S.ap b (sO b hb) (q ▸ hL)) h2 hba e⟩
  · refine LW.hideGoal fun GG hGG => ?_
    obtain ⟨v, o, e, r⟩ := S.ce y hy
    refine hGG ?_
    clear hGG GG
    exact ⟨v, o, k _ _ (fun q => S.ap y.2 (mem_own_ce hy) (q ▸ hL)) (p1 y hy) (na y.2 (mem_own_ce hy)) e, r⟩
  · refine LW.hideGoal fun GG hGG => ?_
    obtain ⟨hx, e'⟩ := hv x lv e
    obtain ⟨v, s, r⟩ := S.va x lv e'
    refine hGG ?_
    clear hGG GG
    refine ⟨v, ?_, ?_⟩
    · rcases s with ⟨hl, hv⟩ | ⟨hk, c, hc, o, ho, hd⟩
      · exact .inl ⟨hl, hv⟩
      · rcases hk with hk | hk
        · have hy := mem_cellsOf hk hc
          exact .inr ⟨.inl hk, c, hc, o, k _ _ (fun q => S.ap c (mem_own_ce hy) (q ▸ hL)) (p1 _ hy) (na c (mem_own_ce hy)) ho, hd⟩
        · exact (S.nf x hk).elim
    · cases lv with
      | im p => exact RepV.mono kh _ _ r
      | ow p =>
        obtain ⟨b, hb, r⟩ := r
        have hb' : (oa.filter fun z => z.1 != ("tape" : Str)).lookup x = some b := by rw [lookup_filter_ne hx]; exact hb
        exact ⟨b, hb', r.move (fun o => k b o (fun q => S.ap b (mem_own_oa hb) (q ▸ hL)) (p3 x b hb).1 (na b (mem_own_oa hb'))) kh⟩
  · rw [show (Sy.mk v' σ.t).t = [] from ht0] at hz; cases hz
end
end LW
namespace LW

noncomputable def SysOk (G : Heap) : Prop := ∃ o, G.get? sysModules = some o ∧ NF o
/-- a call that may change the slots of the caller's frame -/
noncomputable def CallS (prog : Program) (w : World) (G : Heap) (n : Nat) (f : Value) (ps : List PV) (r : PV) : Prop :=
  ∀ (A : Around) (s : Shared) (M : List Addr) (vs : List Value) (L : Addr) (env₀ : Env) (Q : Value → Shared → Prop) (E : Value → Shared → Prop), Rm A n → A.frames = some [env₀] → env₀.frame = some L → env₀.scope.kind ≠ .module → (∃ o, s.heap.get? L = some o ∧ NF o) → L ∈ M →
    Kp G (hid s.heap M) → (∃ o, s.heap.get? sysModules = some o) → (∀ a ∈ M, ∃ o, s.heap.get? a = some o) → RepVs prog w (hid s.heap M) ps vs →
    (∀ v h' tk, KpS L s.heap h' → RepV prog w (hid h' M) r v → Q v { s with heap := h', toks := tk }) → wpAny (model prog w) A (call f vs []) Q E s

noncomputable def chrV (gs : List (List Nat)) : PV := .lst (gs.map fun g => .str ⟨#[valOf 0 g]⟩)
section
variable {prog : Program} {w : World} {A : Around} {G H0 : Heap} {env : Env} {σ σ' σ₂ σ₃ σc : Sy} {h h' : Heap} {M : List Addr} {m : Str → Option Value} {s : Shared} {B : Bs} {oa : OA}

noncomputable def sgS (gs : List (List Nat)) (i : Nat) : Sy := ⟨[("signs", .ow (chrV (gs.take i))), ("tape", .ow (.itr (pvN (gs.drop i).flatten))), ("octets", .im (.lst (pvN gs.flatten)))], []⟩


theorem run1 {ss rest : List Stmt} {st : Stmt} {σ' : Sy} {Q : Flow → Shared → Prop} {E : Value → Shared → Prop} (hb : ss = st :: rest) (h1 : Ex1 prog w A G env σ st (.nx σ')) (kg : Kp G B.H0) (S : St prog w B env σ s.heap oa m)
    (k : ∀ h' tk oa' m', St prog w B env σ' h' oa' m' → wpAny (model prog w) A (execs rest env) Q E { s with heap := h', toks := tk }) : wpAny (model prog w) A (execs ss env) Q E s :=
  execs_cons_of hb (h1.run B s oa m _ E kg S fun f h' tk P => by
    obtain ⟨rfl, oa', m', S'⟩ := P
    exact k h' tk oa' m' S')
theorem Held.keeps {base h0 g g' : Heap} {e : Addr} {X : String} {fl : Value} (H : Held base h0 e X g fl) (k : Kp g g') : Held base h0 e X g' fl := by
  refine LW.hideGoal fun GG hGG => ?_
  obtain ⟨hb, hn, oe, vs, tb, otb, tvs, he, hc, hd, h1, ht, htd, h3, hne, hbt⟩ := H
  refine hGG ?_
  clear hGG GG
  exact ⟨fun b o e => k b o (hb b o e), fun b o e nf => let ⟨sl, e'⟩ := hn b o e nf; ⟨sl, k _ _ e'⟩, oe, vs, tb, otb, tvs, k _ _ he, hc, hd, h1, k _ _ ht, htd, h3, hne, hbt⟩
theorem Held.typeIs {base h0 : Heap} {e : Addr} {X : String} {fl : Value} (H : Held base h0 e X s.heap fl) : s.TypeIs (.ref e) X := by
  refine LW.hideGoal fun GG hGG => ?_
  obtain ⟨hb, hn, oe, vs, tb, otb, tvs, he, hc, _⟩ := H
  refine hGG ?_
  clear hGG GG
  exact ⟨oe, he, hc⟩
theorem body_signs {fa pa L L0 : Addr} {env₀ : Env} {qual : Str} {code : Value} {gs : List (List Nat)} {n : Nat} {o8 : Obj} {fd8 : FuncData} {Q : Flow → Shared → Prop} {E : Value → Shared → Prop} (F8 : FunR G pa (dA 8) (dB 8) (dS 8) .none) (hg8 : GVal G "_parse_varint" (.ref pa)) (ho8 : G.get? pa = some o8) (hd8 : o8.data = .func fd8)
    (hgs : ∀ g ∈ gs, goodV g ∧ g.length ≤ 9 ∧ valOf 0 g ≤ 0x10FFFF) (hl : gs.length ≤ 1000) (hsys : SysOk G)
    (hni : BVal G "next" (.builtin "next")) (hit : BVal G "iter" (.builtin "iter")) (hch : BVal G "chr" (.builtin "chr")) (hst : BVal G "StopIteration" (.type "StopIteration"))
    (hA : Rm A (n + 1)) (hfr : A.frames = some [fenv (dS 72) L0 qual fa code, env₀]) (hfL : env₀.frame = some L) (hkL : env₀.scope.kind ≠ .module) (hLX : L ∈ B.X) (hLn : ∀ o, B.HX.get? L = some o → NF o) (kg : Kp G B.H0)
    (S0 : St prog w B (fenv (dS 72) L0 qual fa code) ⟨[("octets", .im (.lst (pvN gs.flatten)))], []⟩ s.heap oa m)
    (q : ∀ v h' tk, Kp B.H0 (hid h' B.X) → (∀ b ∈ B.X, b ≠ L → ∀ o, B.HX.get? b = some o → h'.get? b = some o) → (∀ o, B.HX.get? L = some o → ∃ sl, h'.get? L = some { o with slots := sl }) → RepV prog w (hid h' B.X) (chrV gs) v → Q (.ret v) { s with heap := h', toks := tk }) :
    wpAny (model prog w) A (execs (dB 72) (fenv (dS 72) L0 qual fa code)) Q E s := by
  refine run1 (ss := dB 72) rfl (Ex1.assignN (G := G) (EvN.iter hit rfl (Ev.name rfl))) kg S0 fun h₂ t₂ oa2 m2 S2 => ?_
  refine run1 rfl (Ex1.assignN (G := G) (EvN.list EvL.nil (by decide))) kg S2 fun h₃ t₃ oa3 m3 S3 => ?_
  have S4 : St prog w B (fenv (dS 72) L0 qual fa code) (sgS gs 0) h₃ oa3 m3 := S3.weaken rfl (subL.get (l := (sgS gs 0).v) ⟨rfl, rfl, rfl, trivial⟩)
  refine wpAny_execs_cons (wpAny_Try_except (wpAny_execs_cons (wpAny_While (codeAny_whileLoop (fun k s' => ∃ i h tk oa m, k = gs.length - i ∧ i ≤ gs.length ∧ s' = { s with heap := h, toks := tk } ∧ St prog w B (fenv (dS 72) L0 qual fa code) (sgS gs i) h oa m) ?_ _ ⟨0, h₃, t₃, oa3, m3, rfl, Nat.zero_le _, rfl, S4⟩))))
  rintro k s' hRR
  refine LW.hideGoal fun GG hGG => ?_
  obtain ⟨i, h, tk, oai, mi, rfl, hi, rfl, Si⟩ := hRR
  refine hGG ?_
  clear hGG GG
  refine (Tst.val Ev.bool rfl).run _ _ mi _ _ (Si.vars kg) fun h' tk' kk => ?_
  rw [if_pos rfl]
  have Si' := Si.keeps kk
  refine wpAny_execs_cons ?_
  refine signs_eval (G := G) (s := { s with heap := h', toks := tk' }) Si' kg rfl rfl hg8 ho8 hd8 rfl hch rfl ?_
  by_cases hlt : i < gs.length
  · refine LW.hideGoal fun GG hGG => ?_
    obtain ⟨g, hgi⟩ : ∃ g, gs[i]? = some g := ⟨_, List.getElem?_eq_getElem hlt⟩
    have hdrop : gs.drop i = g :: gs.drop (i + 1) := by
      rw [List.drop_eq_getElem_cons hlt]
      rw [List.getElem?_eq_getElem hlt] at hgi
      cases hgi; rfl
    obtain ⟨g1, g2, g3⟩ := hgs g (List.mem_of_getElem? hgi)
    refine hGG ?_
    clear hGG GG
    refine signs_turn (G := G) (s := { s with heap := h', toks := tk' }) (ps := (gs.take i).map fun g => .str (LW.S [valOf 0 g])) (qs := pvN (gs.drop i).flatten) (qs' := pvN (gs.drop (i + 1)).flatten) (i := valOf 0 g) (n := n + 1) Si' kg rfl rfl (fun a => ?_) hA g3 (by rw [List.length_map, List.length_take]; exact Nat.le_trans (Nat.min_le_right _ _) (Nat.le_trans hl (by decide))) fun h'' tk'' S'' => ?_
    · rw [hdrop, List.flatten_cons]
      refine CallT.of (l := [("iterator", .raw (.ref a))]) F8 ⟨rfl, by decide +kernel, by decide +kernel⟩ (fun s M vs kvs kg rv rk => ?_) (by simp) rfl rfl (.inl rfl) (fun A L qual code hA => body_varint g1 g2 hni)
      obtain ⟨v, rfl, hbs⟩ := binds1 (x := "iterator") rv
      obtain rfl : kvs = [] := rk
      exact ⟨_, hbs, fun nm q kd doc pm an code ct => BindsTo.of_eq rfl⟩
    · refine wpAny_execs_nil ⟨gs.length - (i + 1), by omega, i + 1, h'', tk'', oai, mi, rfl, hlt, rfl, S''.weaken rfl (subL.get (l := (sgS gs (i + 1)).v) ⟨?_, rfl, rfl, trivial⟩)⟩
      show some (LV.ow (.lst (((gs.take i).map fun g => .str (LW.S [valOf 0 g])) ++ [.str ⟨#[valOf 0 g]⟩]))) = some (LV.ow (chrV (gs.take (i + 1))))
      have : gs.take (i + 1) = gs.take i ++ [g] := by rw [List.take_add_one, hgi]; rfl
      rw [this]; unfold chrV; rw [List.map_append]; rfl
  · obtain rfl : i = gs.length := by omega
    have hdrop : (gs.drop gs.length).flatten = [] := by rw [List.drop_length]; rfl
    intro h₁ t₁ at_ as_ k₁ hat has
    have S5 := Si'.keeps k₁
    refine LW.hideGoal fun GG hGG => ?_
    obtain ⟨v, sl, a, ha0, rv⟩ := S5.va "tape" _ rfl
    refine hGG ?_
    clear hGG GG
    obtain rfl : at_ = a := by rw [hat] at ha0; cases ha0; rfl
    obtain rfl : v = .ref at_ := rv.1
    rw [hdrop] at rv
    have haM : at_ ∈ Mu (fenv (dS 72) L0 qual fa code) B oai [] := mem_Mu (mem_own_oa hat)
    have hLat : L ≠ at_ := fun e => S5.ap at_ (mem_own_oa hat) (e ▸ hLX)
    obtain ⟨oL, hL1, hL2⟩ := S5.px L hLX
    have hnL : ∃ o, h₁.get? L = some o ∧ NF o := ⟨oL, hL2, hLn oL hL1⟩
    have kG : Kp G h₁ := kg.trans (S5.base.trans (Kp.ofHid _ _))
    have hsys1 : ∃ o, h₁.get? sysModules = some o ∧ NF o := let ⟨o, e, nf⟩ := hsys; ⟨o, kG _ _ e, nf⟩
    refine varint_stops (G := G) (s := { s with heap := h₁, toks := t₁ }) (M := Mu (fenv (dS 72) L0 qual fa code) B oai []) (X := (Mu (fenv (dS 72) L0 qual fa code) B oai []).filter fun b => b != at_) (base := hid h₁ [L, (fenv (dS 72) L0 qual fa code).locals, at_])
      F8 hni (hA.le (by omega)) hfr (kg.trans S5.base) S5.sm S5.exM (fun b => ?_) (fun hb => ?_) rv (fun b o e => Kp.ofHid _ _ b o e) ?_ ?_ fun e h4 t4 hbe H hF => ?_
    · rw [List.mem_filter, List.mem_singleton]
      by_cases hb : b = at_
      · subst hb; simp [haM]
      · simp [hb]
    · have := (List.mem_filter.mp hb).2; simp at this
    · cases e : (hid h₁ [L, (fenv (dS 72) L0 qual fa code).locals, at_]).get? at_ with
      | none => rfl
      | some o => rw [hid_get] at e; exact (e.2 (by simp)).elim
    · have hn : ∀ b ∈ [L, (fenv (dS 72) L0 qual fa code).locals, at_], (hid h₁ [L, (fenv (dS 72) L0 qual fa code).locals, at_]).get? b = none := fun b hb => by
        cases e : (hid h₁ [L, (fenv (dS 72) L0 qual fa code).locals, at_]).get? b with
        | none => rfl
        | some o => rw [hid_get] at e; exact (e.2 hb).elim
      obtain ⟨o1, e1, nf1⟩ := hnL
      exact Heap.FunFrames.cons (by show (dS 72).kind ≠ .module; decide +kernel) rfl S5.ns (hn _ (List.mem_cons_of_mem _ List.mem_cons_self)) ⟨hkL, ⟨L, o1, hfL, hn _ List.mem_cons_self, e1, nf1⟩, trivial⟩
    · -- on the way
      show wpAny _ A (noteFrame (.ref e) (fenv (dS 72) L0 qual fa code)) _ _ _
      refine wpAny_noteNext (s := { s with heap := h4, toks := t4 }) hfr hF rfl H hbe fun h5 H5 => ?_
      refine wpAny_cameBackH (s := { s with heap := h5, toks := t4 }) rfl H5 fun h6 H6 => ?_
      refine wpAny_noteAgain (s := { s with heap := h6, toks := t4 }) rfl H6 ?_
      refine wpAny_setFlightH (s := { s with heap := h6, toks := t4 }) H6 fun h7 H7 => ?_
      refine wpAny_handleBy_builtin (X := "StopIteration") (T := "StopIteration") (b := true) (isSubtype_of_subB (by decide +kernel)) (isSubtype_of_subB (by decide +kernel)) (isSubtype_of_subB (by decide +kernel)) ?_
      have hv : ∀ x lv, (Sy.mk [("signs", .ow (chrV (gs.take gs.length))), ("octets", .im (.lst (pvN gs.flatten)))] []).v.lookup x = some lv → x ≠ ("tape" : Str) ∧ (sgS gs gs.length).v.lookup x = some lv := fun x lv e => by
        by_cases hx : x = ("tape" : Str)
        · subst hx; cases e
        · exact ⟨hx, subL.get (l := [("signs", .ow (chrV (gs.take gs.length))), ("octets", .im (.lst (pvN gs.flatten)))]) ⟨rfl, rfl, trivial⟩ x lv e⟩
      obtain ⟨oa7, S7⟩ := St.held (σ' := ⟨[("signs", .ow (chrV (gs.take gs.length))), ("octets", .im (.lst (pvN gs.flatten)))], []⟩) S5 H7 hLX hnL hsys1 hat rfl rfl hv
      refine (Ev.bi hst rfl).run { s with heap := h7, toks := t4 } _ mi _ _ (S7.vars kg) fun c h8 t8 k8 rc => ?_
      obtain rfl : c = .type "StopIteration" := rc
      have H8 : Held (hid h₁ [L, (fenv (dS 72) L0 qual fa code).locals, at_]) h₁ e "StopIteration" h8 ((none : Option Addr).elim .none fun f => rawInt f) := H7.keeps k8
      refine ⟨rfl, H8.typeIs, ?_⟩
      rw [if_pos rfl]
      refine wpAny_setFlightH (s := { s with heap := h8, toks := t8 }) H8 fun h9 H9 => ?_
      obtain ⟨oa9, S9⟩ := St.held (σ' := ⟨[("signs", .ow (chrV (gs.take gs.length))), ("octets", .im (.lst (pvN gs.flatten)))], []⟩) S5 H9 hLX hnL hsys1 hat rfl rfl hv
      refine wpAny_execs_cons ((Ex1.retOwn (prog := prog) (w := w) (G := G) (σ := ⟨[("signs", .ow (chrV (gs.take gs.length))), ("octets", .im (.lst (pvN gs.flatten)))], []⟩) (p := chrV (gs.take gs.length)) rfl).run ⟨B.H0, B.X, h9⟩ { s with heap := h9, toks := t8 } oa9 mi _ _ kg S9 fun f h10 t10 P => ?_)
      refine LW.hideGoal fun GG hGG => ?_
      obtain ⟨v, rfl, R⟩ := P
      rw [List.take_length] at R
      have hX : B.X ++ ([] : List (Addr × PV)).map (·.1) = B.X := List.append_nil _
      obtain ⟨r1, r2, r3, _⟩ := R
      refine hGG ?_
      clear hGG GG
      refine q v h10 t10 (by simpa using r1) (fun b hb hbL o e => ?_) (fun o e => ?_) (by simpa using r3)
      · obtain ⟨o', e1, e2⟩ := S5.px b hb
        rw [e] at e1; cases e1
        have e9 := H9.base b o (hid_get.mpr ⟨e2, by
          simp only [List.mem_cons, List.not_mem_nil, or_false, not_or]
          exact ⟨hbL, fun q => S5.ap _ List.mem_cons_self (q ▸ hb), fun q => S5.ap at_ (mem_own_oa hat) (q ▸ hb)⟩⟩)
        obtain ⟨o'', e3, e4⟩ := r2 b hb
        rw [e9] at e3; cases e3; exact e4
      · obtain ⟨o', e1, e2⟩ := S5.px L hLX
        rw [e] at e1; cases e1
        refine LW.hideGoal fun GG hGG => ?_
        obtain ⟨sl, e9⟩ := H9.nf L o e2 (hLn o e)
        obtain ⟨o'', e3, e4⟩ := r2 L hLX
        refine hGG ?_
        clear hGG GG
        rw [e9] at e3; cases e3; exact ⟨sl, e4⟩
end
end LW
namespace LW
section
variable {prog : Program} {w : World} {A : Around} {G H0 : Heap} {env : Env} {σ σ' σ₂ σ₃ σc : Sy} {h h' : Heap} {M : List Addr} {m : Str → Option Value} {s : Shared} {B : Bs} {oa : OA}

/-- a function that can be called so -/
noncomputable def FnS (prog : Program) (w : World) (G : Heap) (name : Str) (n : Nat) (ps : List PV) (r : PV) : Prop :=
  ∃ a o fd, GVal G name (.ref a) ∧ G.get? a = some o ∧ o.data = .func fd ∧ CallS prog w G n (.ref a) ps r

theorem fn_signs {gs : List (List Nat)} {n : Nat} (F : FunG G "_law_signs" 72) (F8 : FunG G "_parse_varint" 8)
    (hgs : ∀ g ∈ gs, goodV g ∧ g.length ≤ 9 ∧ valOf 0 g ≤ 0x10FFFF) (hl : gs.length ≤ 1000) (hsys : SysOk G)
    (hni : BVal G "next" (.builtin "next")) (hit : BVal G "iter" (.builtin "iter")) (hch : BVal G "chr" (.builtin "chr")) (hst : BVal G "StopIteration" (.type "StopIteration")) :
    FnS prog w G "_law_signs" (n + 2) [.lst (pvN gs.flatten)] (chrV gs) := by
  refine LW.hideGoal fun GG hGG => ?_
  obtain ⟨fa, hg, F⟩ := F
  obtain ⟨pa, hg8, F8⟩ := F8
  obtain ⟨o, fd, ho', hfd⟩ := isFunc F
  obtain ⟨o8, fd8, ho8, hd8⟩ := isFunc F8
  refine hGG ?_
  clear hGG GG
  refine ⟨fa, o, fd, hg, ho', hfd, ?_⟩
  intro A s M vs L env₀ Q E hA hfr hfL hkL hL hLM kg sm ex rv q
  refine LW.hideGoal fun GG hGG => ?_
  obtain ⟨o, nm, qn, kd, doc, pm, an, code, ct, ho, hcls, hdict, hdata, hcode⟩ := F.it
  have kgs : Kp G s.heap := kg.trans (Kp.ofHid _ _)
  have hs : ScOk (dS 72) := ⟨rfl, by decide +kernel, by decide +kernel⟩
  obtain ⟨v0, rest, rfl, rv0, rfl⟩ := rv
  refine hGG ?_
  clear hGG GG
  have hbt : BindsTo s ⟨nm, qn, dA 72, .stmts (dB 72), dS 72, mainGlobals, [], .none, kd, doc, pm, an, code, ct, builtinsNs⟩ ⟨[v0], []⟩ [("octets", v0)] := BindsTo.of_eq rfl
  have hbs : Binds prog w (hid s.heap M) [("octets", .lst (pvN gs.flatten))] [("octets", v0)] := .cons rv0 .nil
  refine wpAny_call (codeAny_call_function (by have := hA.2.1; show A.depth < 1000; omega) (kgs _ _ ho) hdata rfl rfl rfl (hcode.keeps kgs) (hbt _ _ _ _ ?_))
  refine wpAny_newFunctionEnv_cells hs.kind (fun y hy => ?_) fun env he s' x => ?_
  · rw [List.mem_singleton.mp hy]; exact .inl rfl
  subst he
  refine ⟨(F.lim.keeps kgs).keeps x.toInCall.keep, codeAny_func ?_⟩
  have S := enter (prog := prog) (w := w) (M := M) (X := M) (t := []) (qual := qn) (fa := fa) (code := code) (L := s.heap.objs.size) hs x (by simp) (by simp) (by simp) ex sm hbs (by simp) rfl (by simp)
  obtain ⟨h₁, t₁, es⟩ := x.toInCall.same
  subst es
  refine body_signs (G := G) (s := { s with heap := h₁, toks := t₁ }) (B := ⟨hid s.heap M, M, s.heap⟩) F8 hg8 ho8 hd8 hgs hl hsys hni hit hch hst hA.deeper (Around.frames_deeper hfr) hfL hkL hLM (fun o e => by obtain ⟨o', e', nf⟩ := hL; rw [e] at e'; cases e'; exact nf) kg S fun v h' tk r1 r2 r3 r4 => ?_
  refine q v h' tk ⟨fun b o hb e => ?_, r3⟩ r4
  by_cases hM : b ∈ M
  · exact r2 b hM hb o e
  · exact (hid_get.mp (r1 b o (hid_get.mpr ⟨e, hM⟩))).1

/-- where such calls are made -/
structure Top (A : Around) (env : Env) : Prop where
  fr : A.frames = some [env]
  env : env.frame = some env.locals

/-- evaluation that may change the slots of the frame's own names -/
structure EvS (prog : Program) (w : World) (H0 : Heap) (A : Around) (env : Env) (σ : Sy) (e : PySem.Expr) (p : PV) : Prop where
  run : ∀ (B : Bs) (s : Shared) (oa : OA) (m : Str → Option Value) (Q : Value → Shared → Prop) (E : Value → Shared → Prop), Kp H0 B.H0 → St prog w B env σ s.heap oa m →
      (∀ v h' tk, KpS env.locals s.heap h' → RepV prog w (hid h' (Mu env B oa σ.t)) p v → Q v { s with heap := h', toks := tk }) → wpAny (model prog w) A (eval e env) Q E s

theorem KpS.ns {L : Addr} (k : KpS L h h') (x : h.Ns L m) : h'.Ns L m := by
  refine LW.hideGoal fun GG hGG => ?_
  obtain ⟨o, es, ep, e, r⟩ := x
  obtain ⟨sl, e'⟩ := k.here o e
  refine hGG ?_
  clear hGG GG
  exact ⟨_, es, ep, e', r⟩
theorem KpS.ex {L a : Addr} (k : KpS L h h') (x : ∃ o, h.get? a = some o) : ∃ o, h'.get? a = some o := by
  obtain ⟨o, e⟩ := x
  by_cases ha : a = L
  · subst ha; obtain ⟨sl, e'⟩ := k.here o e; exact ⟨_, e'⟩
  · exact ⟨o, k.off a o ha e⟩
theorem St.keepsS (k : KpS env.locals h h') (S : St prog w B env σ h oa m) : St prog w B env σ h' oa m := by
  refine LW.hideGoal fun GG hGG => ?_
  obtain ⟨p1, p2, p3, p4⟩ := own_parts S.nd
  refine hGG ?_
  clear hGG GG
  have kh : Kp (hid h (Mu env B oa σ.t)) (hid h' (Mu env B oa σ.t)) := k.hid (mem_Mu List.mem_cons_self)
  refine ⟨S.fn, S.gl, S.bl, S.base.trans kh, fun a ha => ?_, k.ns S.ns, k.ex S.sm, S.nf, S.nd, S.ap, fun a ha => k.ex (S.ex a ha), fun y hy => ?_, fun x lv e => ?_, fun y hy => ?_⟩
  · obtain ⟨o, e1, e2⟩ := S.px a ha
    exact ⟨o, e1, k.off a o (fun q => S.ap _ List.mem_cons_self (q ▸ ha)) e2⟩
  · refine LW.hideGoal fun GG hGG => ?_
    obtain ⟨v, o, e, r⟩ := S.ce y hy
    refine hGG ?_
    clear hGG GG
    exact ⟨v, o, k.off _ _ (p1 y hy) e, r⟩
  · obtain ⟨v, s, r⟩ := S.va x lv e
    refine ⟨v, ?_, ?_⟩
    · rcases s with ⟨hl, hv⟩ | ⟨hk, c, hc, o, ho, hd⟩
      · exact .inl ⟨hl, hv⟩
      · rcases hk with hk | hk
        · exact .inr ⟨.inl hk, c, hc, o, k.off _ _ (p1 _ (mem_cellsOf hk hc)) ho, hd⟩
        · exact (S.nf x hk).elim
    · cases lv with
      | im p => exact RepV.mono kh _ _ r
      | ow p => obtain ⟨a, ha, r⟩ := r; exact ⟨a, ha, r.move (fun o => k.off a o (p3 x a ha).1) kh⟩
  · exact (S.th y hy).move (fun o => k.off y.1 o (p4 y hy).1) kh

theorem EvS.of {e : PySem.Expr} {p : PV} (x : Ev prog w H0 A env σ e p) : EvS prog w H0 A env σ e p := .mk fun B s oa m Q E kg S q => x.run s _ m Q E (S.vars kg) fun v h' tk k r => q v h' tk k.toS r
theorem RepV.moveS {L : Addr} {p : PV} {v : Value} (k : KpS L h h') (hL : L ∈ M) (r : RepV prog w (hid h M) p v) : RepV prog w (hid h' M) p v := RepV.mono (k.hid hL) _ _ r

theorem evS_call {x : Str} {np pos : Pos} {e : PySem.Expr} {p : PV} {a : Addr} {o : Obj} {fd : FuncData} {Q : Value → Shared → Prop} {E : Value → Shared → Prop} (hg : GVal H0 x (.ref a)) (ho : H0.get? a = some o) (hd : o.data = .func fd) (hk : env.kindOf x = some .globalImplicit) (he : EvS prog w H0 A env σ e p)
    (kg : Kp H0 B.H0) (S : St prog w B env σ s.heap oa m)
    (q : ∀ v h' tk, KpS env.locals s.heap h' → St prog w B env σ h' oa m → RepV prog w (hid h' (Mu env B oa σ.t)) p v → wpAny (model prog w) A (call (.ref a) [v] []) Q E { s with heap := h', toks := tk })
    (hdb : (x == ("__debug__" : Str)) = false := by decide) (hs : starEach [e] env = (false, eval e env) :: starEach [] env := by rfl) (hbt : backTo pos (starEach [e] env) = (false, eval e env) :: backTo pos (starEach [] env) := by rfl) :
    wpAny (model prog w) A (eval (.Call (.Name x np) [e] [] pos) env) Q E s := by
  rw [arm_eval_Call_Name']
  refine wpAny_bind ((Ev.glob hg hk hdb).run s _ m _ _ (S.vars kg) fun g h₁ t₁ k₁ rg => ?_)
  obtain rfl : g = .ref a := rg
  have S1 := S.keeps k₁
  show wpAny _ A (callWith pos (.ref a) [] (backTo pos (starEach [e] env)) []) _ _ _
  refine Calls.callWith_function (o := o) (fd := fd) ?_
  have key : wpAny (model prog w) A (spliced (backTo pos (starEach [e] env))) (fun us s' => (s'.heap.get? a = some o ∧ o.data = .func fd) ∧ wpAny (model prog w) A (call (.ref a) ([] ++ us) []) Q E s') E { s with heap := h₁, toks := t₁ } := by
    refine wpAny_items_cons (he.run B { s with heap := h₁, toks := t₁ } oa m _ _ kg S1 fun v h₂ t₂ k₂ rv => ?_) hs
    have S2 := S1.keepsS k₂
    refine (EvL.nil (prog := prog) (w := w) (H0 := H0) (A := A) (env := env) (σ := σ)).run { s with heap := h₂, toks := t₂ } _ m _ _ (S2.vars kg) fun us h₃ t₃ k₃ r₃ => ?_
    obtain rfl : us = [] := r₃
    have S3 := S2.keeps k₃
    exact ⟨⟨S3.base.trans (Kp.ofHid _ _) _ _ (kg _ _ ho), hd⟩, q v h₃ t₃ (k₁.toS.trans (k₂.trans k₃.toS)) S3 (RepV.mono (k₃.hid _) _ _ rv)⟩
  rw [hbt] at key ⊢
  exact Calls.evalArgs_plain key

/-- a call that keeps all, on such a value -/
theorem EvS.fn {x : Str} {np pos : Pos} {e : PySem.Expr} {p r : PV} {n : Nat} (F : Fn prog w H0 x n [p] r) (hk : env.kindOf x = some .globalImplicit) (he : EvS prog w H0 A env σ e p) (hA : Rm A n)
    (hdb : (x == ("__debug__" : Str)) = false := by decide) (hs : starEach [e] env = (false, eval e env) :: starEach [] env := by rfl) (hbt : backTo pos (starEach [e] env) = (false, eval e env) :: backTo pos (starEach [] env) := by rfl) :
    EvS prog w H0 A env σ (.Call (.Name x np) [e] [] pos) r := .mk fun B s oa m Q E kg S q => by
  refine LW.hideGoal fun GG hGG => ?_
  obtain ⟨a, o, fd, hg, ho, hd, hc⟩ := F
  refine hGG ?_
  clear hGG GG
  refine evS_call hg ho hd hk he kg S (fun v h' tk k S' rv => ?_) hdb hs hbt
  refine hc A { s with heap := h', toks := tk } (Mu env B oa σ.t) (Mu env B oa σ.t) [v] [] Q E hA (kg.trans S'.base) S'.sm S'.exM (by simp) (by simp) (by simp) (by simp) ⟨v, [], rfl, rv, rfl⟩ rfl fun u h'' tk' k' ru _ => ?_
  exact q u h'' tk' (k.trans (Kp.toS fun b o e => k' b o (by simp) e)) ru
/-- a call that may change the slots -/
theorem EvS.fnS {x : Str} {np pos : Pos} {e : PySem.Expr} {p r : PV} {n : Nat} (F : FnS prog w H0 x n [p] r) (hk : env.kindOf x = some .globalImplicit) (he : EvS prog w H0 A env σ e p) (hA : Rm A n) (hT : Top A env)
    (hdb : (x == ("__debug__" : Str)) = false := by decide) (hs : starEach [e] env = (false, eval e env) :: starEach [] env := by rfl) (hbt : backTo pos (starEach [e] env) = (false, eval e env) :: backTo pos (starEach [] env) := by rfl) :
    EvS prog w H0 A env σ (.Call (.Name x np) [e] [] pos) r := .mk fun B s oa m Q E kg S q => by
  refine LW.hideGoal fun GG hGG => ?_
  obtain ⟨a, o, fd, hg, ho, hd, hc⟩ := F
  refine hGG ?_
  clear hGG GG
  refine evS_call hg ho hd hk he kg S (fun v h' tk k S' rv => ?_) hdb hs hbt
  refine hc A { s with heap := h', toks := tk } (Mu env B oa σ.t) [v] env.locals env Q E hA hT.fr hT.env (by rw [S.fn]; decide) ?_ (mem_Mu List.mem_cons_self) (kg.trans S'.base) S'.sm S'.exM ⟨v, [], rfl, rv, rfl⟩ fun u h'' tk' k' ru => ?_
  · refine LW.hideGoal fun GG hGG => ?_
    obtain ⟨on, es, ep, e1, e2, _⟩ := S'.ns
    refine hGG ?_
    clear hGG GG
    exact ⟨on, e1, fun vs e => by rw [e2] at e; cases e⟩
  · exact q u h'' tk' (k.trans k') ru
theorem Ex1.assignS {x : Str} {pos' pos : Pos} {value : PySem.Expr} {p : PV} (he : EvS prog w G A env σ value p) (hx : storB env x = true := by rfl) (hs : swapsWith value (some (.Name x pos')) pos.line env = pure false := by rfl) :
    Ex1 prog w A G env σ (.Assign [.Name x pos'] value pos) (.nx ⟨(x, .im p) :: σ.v, σ.t⟩) := .mk fun B s oa m Q E kg S q =>
  wpAny_Assign_Name (he.run B s oa m _ _ kg S fun v h' tk k r => storeR (s := { s with heap := h', toks := tk }) (lv := .im p) (S.keepsS k) Kp.rfl hx r fun h'' tk' S' => q _ h'' tk' ⟨rfl, S'⟩) hs
end
end LW
namespace LW

noncomputable def lineT (l : Line) : Str := txt l.1 ++ l.2.1.s ++ txt l.2.2
theorem inj_mark : ∀ a b : Mark, a.s = b.s → a = b := by intro a b; cases a <;> cases b <;> decide +kernel
theorem txt_inj {a b : List Town} (e : txt a = txt b) : a = b := by
  have h := S_inj e
  have key : ∀ x y : Town, lt x = lt y → x = y := by decide +kernel
  clear e
  induction a generalizing b with
  | nil => cases b with
    | nil => rfl
    | cons y b => cases h
  | cons x a ih => cases b with
    | nil => cases h
    | cons y b =>
      rw [List.map_cons, List.map_cons, List.cons.injEq] at h
      rw [key x y h.1, ih h.2]
theorem inj_ln : ∀ a b : Line, pvLn a = pvLn b → a = b := fun a b e => by
  have := PV.tup.inj e
  simp only [List.cons.injEq, PV.str.injEq, and_true] at this
  obtain ⟨h1, h2, h3⟩ := this
  exact Prod.ext (txt_inj h1) (Prod.ext (inj_mark _ _ h2) (txt_inj h3))
theorem inj_en : ∀ a b : Nat × Int, PV.tup [.int (a.1 : Nat), .int a.2] = PV.tup [.int (b.1 : Nat), .int b.2] → a = b := fun a b e => by
  have := PV.tup.inj e
  simp only [List.cons.injEq, PV.int.injEq, and_true] at this
  exact Prod.ext (by omega) this.2

/-- every sixth of the script's first sixty -/
noncomputable def part (script : List Int) (k : Nat) : List Int := (sliceRange (sliceBounds (some (k : Int)) (some 60) (some 6) script.length).1 (sliceBounds (some (k : Int)) (some 60) (some 6) script.length).2.1 (sliceBounds (some (k : Int)) (some 60) (some 6) script.length).2.2).filterMap (script[·]?)
noncomputable def based : List (Nat × Int) := [(0, 76), (1, 99), (2, 10), (3, 498), (4, 394), (5, 4)]
noncomputable def numsOf (script : List Int) : List Int := based.map fun x => (x.2 + (part script x.1).sum) % 1000000

theorem sevens_drop : ∀ i < 7, cutS ("fiklmst" : Str) (some (i + 1)) none = txt (towns.drop (i + 1)) := by decide +kernel
theorem drop_gt : ∀ i < 7, ∀ d : Town, d ∈ towns.drop (i + 1) → i < d.val := by decide +kernel

section
variable {prog : Program} {w : World} {A : Around} {G H0 : Heap} {env : Env} {σ σ' σ₂ σ₃ σc : Sy} {h h' : Heap} {M : List Addr} {m : Str → Option Value} {s : Shared} {B : Bs} {oa : OA}

theorem CmpOk.neRoads {a : List Road} (hu : A.units + 1 < cLine) : CmpOk prog w A .NotEq (pvRoads a) (pvRoads a) false := fun s M v u Q E ⟨l, vs, e1, hL, r⟩ ⟨l', us, e2, hL', r'⟩ q => by
  subst e1 e2
  have n1 : vs.length = a.length := by rw [r.length, List.length_map]
  have n2 : us.length = a.length := by rw [r'.length, List.length_map]
  refine SeqAt.RcNeAt.lists (prog := prog) (w := w) (A := A) (E := E) (Q := Q) (e := fun _ => true) hL.isList hL'.isList (by rw [List.size_toArray, List.size_toArray, n1, n2]) (Nat.lt_of_succ_lt hu) (fun j h1 h2 => ?_) ?_
  · rw [List.size_toArray] at h1 h2
    have j1 : j < a.length := by omega
    refine LW.hideGoal fun GG hGG => ?_
    obtain ⟨v', hv, rv⟩ := r.get (i := j) (p := pvRoad a[j]) (by rw [List.getElem?_map, List.getElem?_eq_getElem j1]; rfl)
    obtain ⟨u', hu', ru⟩ := r'.get (i := j) (p := pvRoad a[j]) (by rw [List.getElem?_map, List.getElem?_eq_getElem j1]; rfl)
    refine hGG ?_
    clear hGG GG
    have ev : vs.toArray[j]'(by rw [List.size_toArray]; exact h1) = v' := by rw [List.getElem_toArray]; exact (List.getElem?_eq_some_iff.mp hv).2
    have eu : us.toArray[j]'(by rw [List.size_toArray]; exact h2) = u' := by rw [List.getElem_toArray]; exact (List.getElem?_eq_some_iff.mp hu').2
    rw [ev, eu]
    have := EqAt.row (A := A.in1) (Kp.ofHid s.heap M) hu rv ru
    rwa [decide_eq_true rfl] at this
  · have e : (List.range vs.toArray.size).all (fun _ => true) = true := by simp
    rw [e]; exact q s.heap s.toks Kp.rfl


theorem body_law {C : Addr} {mt : Str → Option Addr} {L : Addr} {qual : Str} {fa : Addr} {code : Value} {script : List Int} {ls : List Line} {style : Nat} {tx cs : List Nat} {gs : List (List Nat)} {row : List Sym} {rs : List Road} {wf wi : List Way} {D : AD} {pl : List Pl} {a b : Town → Nat} {n : Nat}
    (hA : Rm A (n + 1)) (hT : Top A (fenv (dS 82) L qual fa code)) (hsl : script.length ≤ 63) (D0 : Mdl G C mt)
    (hen : BVal G "enumerate" (.type "enumerate")) (hsum : BVal G "sum" (.builtin "sum"))
    (h1 : Fn prog w G "_law_lines" (n + 1) [.lst ((cut (numsOf script) none (some 5)).map .int)] (.lst (ls.map pvLn))) (h2 : (numsOf script)[5]? = some (style : Int))
    (h3 : Txt.join ";" (ls.map lineT) = LW.S tx) (h3' : JoinOk ";" (ls.map lineT) = true) (hll : ls.length ≤ 5) (hlt : ∀ l ∈ ls, (lineT l).length ≤ 1000)
    (hcodes : Fn prog w G "_law_codes" (n + 1) [.str (LW.S tx), .int (style : Nat)] (.lst (pvN cs)))
    (hoct : Fn prog w G "_law_octets" (n + 1) [.lst (pvN cs)] (.lst (pvN gs.flatten)))
    (hsig : FnS prog w G "_law_signs" (n + 1) [.lst (pvN gs.flatten)] (chrV gs))
    (hprep : Fn prog w G "_law_prepared" (n + 1) [chrV gs] (.str (LW.S tx)))
    (hcut : Fn prog w G "_law_cut" (n + 1) [.str (LW.S tx)] (.lst (row.map fun y => .int y.i)))
    (hdone : Fn prog w G "_law_done" (n + 1) [.lst (row.map fun y => .int y.i)] (hdrOf C rs)) (hrl : rs.length ≤ 20)
    (hplain : Fn prog w G "_law_plain" (n + 1) [.lst (ls.map pvLn)] (pvRoads rs))
    (hwf : Fn prog w G "_law_ways" (n + 1) [hdrOf C rs, .str (nm 0 false)] (.lst (wf.map pvWay))) (hwi : Fn prog w G "_law_ways" (n + 1) [hdrOf C rs, .str (nm 1 false)] (.lst (wi.map pvWay)))
    (hap : Fn prog w G "_law_apart" (n + 1) [.lst (wf.map pvWay), .lst (wi.map pvWay)] (.dct (pvAD D)))
    (hpl : Fn prog w G "_law_placed" (n + 1) [pvRoads rs] (.lst (pl.map pvPl)))
    (hca : Fn prog w G "_law_counts" (n + 1) [.lst (pl.map pvPl), .str (nm 0 false)] (.dct (cD a 7))) (hcb : Fn prog w G "_law_counts" (n + 1) [.lst (pl.map pvPl), .str (nm 1 false)] (.dct (cD b 7)))
    (hb : ∀ t, b t < 2 ^ 62) (hfin : ∀ c d : Town, c < d → (aget D (c, d) : Int) - (aget D (d, c) : Int) = (a c : Int) * b d - (a d : Int) * b c) :
    Ex prog w A G (fenv (dS 82) L qual fa code) ⟨[("script", .im (.lst (script.map .int)))], []⟩ (dB 82) (.rt (.bool true) []) := by
  have hu : A.units + 1 < cLine := by have := hA.2.2; omega
  have key : (.lst ((numsOf script).map PV.int) : PV) = .lst ((based.filter fun _ => true).map fun x => PV.int ((x.2 + (part script x.1).sum) % 1000000)) := by
    rw [List.filter_eq_self.mpr (by simp)]; unfold numsOf; rw [List.map_map]; rfl
  refine Ex.step rfl (assign_compM (l := based) (g := fun _ => true) (f := fun x => PV.int ((x.2 + (part script x.1).sum) % 1000000)) (σc := ⟨[("script", .im (.lst (script.map .int)))], []⟩) inj_en ⟨rfl, by decide +kernel, rfl, by decide +kernel, ⟨⟨rfl, .inl rfl, rfl, rfl⟩, trivial⟩, rfl, fun _ => rfl⟩ (It.enumL hA.1 (Ev.bi hen rfl) (EvN.ev (EvN.list (ps := based.map fun x => .int x.2) ?_))) ?_ (by decide)) ?_
  · repeat (first | exact EvL.nil | refine EvL.cons Ev.int ?_)
  · intro C x hx
    refine ⟨⟨("base", .im (.int x.2)) :: ("k", .im (.int (x.1 : Nat))) :: _, []⟩, rfl, cons_fresh2 rfl rfl, CTgt.two hA.1, rfl, fun _ => ?_⟩
    refine Ev.of (Ev.modI (Ev.addI (Ev.name rfl) (Ev.callB (C1.sum (l := part script x.1) hA.1) (Ev.bi hsum rfl) (Ev.rd (EvN.ev (EvN.of (EvN.sliceOf (lo := some (x.1 : Int)) (hi := some 60) (st := some 6) (Ev.rd (Ev.name rfl)) (Ev.name rfl) Ev.int Ev.int (by decide) (by rw [List.length_map]; exact Nat.le_trans hsl (by decide))) ?_))))) Ev.int (by decide)) ?_
    · unfold part; rw [List.length_map]; congr 1
      rw [List.map_filterMap]; congr 1; funext i
      rw [List.getElem?_map]
    · rw [fmod_pos (by decide)]
  rw [← key]
  refine Ex.freeze (x := "numbers") rfl ?_
  refine Ex.step rfl (Ex1.assign (Ev.fn h1 rfl (EvL.cons (EvN.ev (EvN.of (EvN.slice (lo := none) (hi := some 5) (Ev.rd (Ev.name rfl)) trivial Ev.int (by rw [List.length_map]; exact (by decide : 6 ≤ sizeLine))) ?_)) EvL.nil) hA)) ?_
  · unfold cut; rw [List.length_map, List.map_drop, List.map_take]
  refine Ex.step rfl (Ex1.assign (p := .str (LW.S tx)) ?_) ?_
  · refine Ev.of (Ev.m1 (Me1.join h3') (Ev.rd Ev.str) (Ev.rd (EvN.ev (EvN.of (p := .lst ((ls.filter fun _ => true).map fun l => .str (lineT l))) ?_ ?_)))) (by rw [h3])
    · refine EvN.compM (inj := pvLn) (σc := ⟨[], []⟩) inj_ln ⟨rfl, by decide +kernel, rfl, by decide +kernel, trivial, rfl, fun _ => rfl⟩ (It.list hA.1 (Ev.name rfl)) ?_ (Nat.le_trans hll (by decide))
      intro C l hl
      refine ⟨⟨("goals", .im (.str (txt l.2.2))) :: ("sign", .im (.str l.2.1.s)) :: ("starts", .im (.str (txt l.1))) :: _, []⟩, rfl, cons_fresh3 rfl rfl rfl, CTgt.three hA.1, rfl, fun _ => ?_⟩
      have hl2 := hlt l hl
      have e1 : (lineT l).length = (txt l.1 ++ l.2.1.s).length + (txt l.2.2).length := Array.size_append
      have e2 : (txt l.1 ++ l.2.1.s).length = (txt l.1).length + l.2.1.s.length := Array.size_append
      exact Ev.addS (Ev.addS (Ev.name rfl) (Ev.name rfl) (Nat.le_trans (by omega) (by decide : 1000 ≤ sizeLine))) (Ev.name rfl) (Nat.le_trans (by omega) (by decide : 1000 ≤ sizeLine))
    · rw [List.filter_eq_self.mpr (by simp), List.map_map]; rfl
  refine Ex.step rfl (Ex1.assignS (EvS.fn hdone rfl (EvS.fn hcut rfl (EvS.fn hprep rfl (EvS.fnS hsig rfl (EvS.of (Ev.fn hoct rfl (EvL.cons (Ev.fn hcodes rfl (EvL.cons (Ev.name rfl) (EvL.cons (Ev.sub (ItOk.lst (ps := (numsOf script).map .int) (k := 5) (z := .int (style : Int)) (by decide) (by rw [List.getElem?_map]; exact congrArg (Option.map PV.int) h2) (by decide)) (Ev.rd (Ev.name rfl)) (Ev.rd Ev.int)) EvL.nil)) hA) EvL.nil) hA)) hA hT) hA) hA) hA)) ?_
  refine Ex.step rfl (Ex1.assign (Ev.fn hplain rfl (EvL.cons (Ev.name rfl) EvL.nil) hA)) ?_
  obtain ⟨fi, hfi, hci⟩ := meth_items (n := n) (prog := prog) (w := w) D0 (show rs.length ≤ 1000 by omega)
  refine Ex.step rfl (Ex1.ite (b := false) (Tst.cmp (CmpOk.neRoads hu) (Ev.rd (Ev.meth D0.hc hfi SelfOk.hdr hci (Ev.name rfl) EvA.none hA lk_items)) (Ev.rd (Ev.name rfl))) (fun h => by cases h) fun _ => Ex.done rfl) ?_
  refine Ex.step rfl (Ex1.assign (Ev.fn hap rfl (EvL.cons (Ev.fn hwf rfl (EvL.cons (Ev.name rfl) (EvL.cons Ev.str EvL.nil)) hA) (EvL.cons (Ev.fn hwi rfl (EvL.cons (Ev.name rfl) (EvL.cons Ev.str EvL.nil)) hA) EvL.nil)) hA)) ?_
  refine Ex.step rfl (Ex1.assign (Ev.fn hpl rfl (EvL.cons (Ev.name rfl) EvL.nil) hA)) ?_
  refine Ex.step rfl (Ex1.assign (Ev.fn hca rfl (EvL.cons (Ev.name rfl) (EvL.cons Ev.str EvL.nil)) hA)) ?_
  refine Ex.step rfl (Ex1.assign (Ev.fn hcb rfl (EvL.cons (Ev.name rfl) (EvL.cons Ev.str EvL.nil)) hA)) ?_
  refine Ex.sub (σ₂ := ⟨[("apart", .im (.dct (pvAD D))), ("a", .im (.dct (cD a 7))), ("b", .im (.dct (cD b 7)))], []⟩) ?_ ⟨rfl, rfl, rfl, trivial⟩
  refine Ex.step rfl (for_ind (fun _ => ⟨[("apart", .im (.dct (pvAD D))), ("a", .im (.dct (cD a 7))), ("b", .im (.dct (cD b 7)))], []⟩) (It.enumS hA.1 (Ev.bi hen rfl) Ev.str) rfl rfl fun i p hp => ?_) (Ex.last rfl (Ex1.ret Ev.bool))
  obtain ⟨c, hc, rfl⟩ : ∃ c, towns[i]? = some c ∧ p = .tup [.int (i : Nat), .str (nm c false)] := by
    have e : signs ("fiklmst" : Str) = towns.map fun t => .str (nm t false) := by rw [← signs_txt, txt_towns]
    unfold enums at hp
    rw [e, List.getElem?_mapIdx, List.getElem?_map] at hp
    cases ht : towns[i]? with
    | none => rw [ht] at hp; cases hp
    | some t => rw [ht] at hp; cases hp; exact ⟨t, rfl, rfl⟩
  have hi : i < 7 := (List.getElem?_eq_some_iff.mp hc).1
  have hci' := towns_get i hi c hc
  refine ⟨_, Tgt.two hA.1, ?_⟩
  refine Ex.sub (σ₂ := ⟨[("c", .im (.str (nm c false))), ("first", .im (.int (i : Nat))), ("apart", .im (.dct (pvAD D))), ("a", .im (.dct (cD a 7))), ("b", .im (.dct (cD b 7)))], []⟩) ?_ ⟨rfl, rfl, rfl, rfl, rfl, trivial⟩
  refine Ex.post (σ₂ := ⟨[("c", .im (.str (nm c false))), ("first", .im (.int (i : Nat))), ("apart", .im (.dct (pvAD D))), ("a", .im (.dct (cD a 7))), ("b", .im (.dct (cD b 7)))], []⟩) (Ex.step rfl (for_ind (fun _ => ⟨[("c", .im (.str (nm c false))), ("first", .im (.int (i : Nat))), ("apart", .im (.dct (pvAD D))), ("a", .im (.dct (cD a 7))), ("b", .im (.dct (cD b 7)))], []⟩) (It.towns (ts := towns.drop (i + 1)) hA.1 (Ev.of (Ev.sliceS (lo := some (i + 1)) (hi := none) Ev.str (Ev.of (Ev.addI (Ev.name rfl) Ev.int) rfl) trivial (by decide)) ?_)) rfl rfl fun j p hp => ?_) (Ex.done rfl)) ⟨rfl, rfl, rfl, trivial⟩
  · exact congrArg PV.str (sevens_drop i hi)
  obtain ⟨d, hd, rfl⟩ : ∃ d, d ∈ towns.drop (i + 1) ∧ p = .str (nm d false) := by
    rw [List.getElem?_map] at hp
    cases ht : (towns.drop (i + 1))[j]? with
    | none => rw [ht] at hp; cases hp
    | some t => rw [ht] at hp; cases hp; exact ⟨t, List.mem_of_getElem? ht, rfl⟩
  have hcd : c < d := by
    have := drop_gt i hi d hd
    show c.val < d.val
    omega
  refine ⟨_, Tgt.name, ?_⟩
  have hlk : ∀ (f : Town → Nat) (t : Town), (cD f 7).lookup (nm t false) = some (.int (f t : Nat)) := fun f t => lookup_towns (fun t => PV.int (f t : Nat)) ((towns_take 7 (by decide) t).mpr t.isLt)
  refine Ex.post (Ex.step rfl (Ex1.ite (b := false) (Tst.of (Tst.cmp CmpOk.neI (Ev.rd (Ev.subI (Ev.of (Ev.m2 (Me2.get (x := nm2 c d) (d := .int (0 : Nat))) (Ev.rd (Ev.name rfl)) (Ev.rd (Ev.addS (Ev.name rfl) (Ev.name rfl) (Nat.le_trans (nm2_len c d) (by decide)))) (Ev.nat 0)) (pvAD_get D c d))
      (Ev.of (Ev.m2 (Me2.get (x := nm2 d c) (d := .int (0 : Nat))) (Ev.rd (Ev.name rfl)) (Ev.rd (Ev.addS (Ev.name rfl) (Ev.name rfl) (Nat.le_trans (nm2_len d c) (by decide)))) (Ev.nat 0)) (pvAD_get D d c))))
    (Ev.rd (Ev.subI (Ev.mulI (Ev.sub (ItOk.dct (hlk a c)) (Ev.rd (Ev.name rfl)) (Ev.rd (Ev.name rfl))) (Ev.sub (ItOk.dct (hlk b d)) (Ev.rd (Ev.name rfl)) (Ev.rd (Ev.name rfl))) (mul_small (hb d)))
      (Ev.mulI (Ev.sub (ItOk.dct (hlk a d)) (Ev.rd (Ev.name rfl)) (Ev.rd (Ev.name rfl))) (Ev.sub (ItOk.dct (hlk b c)) (Ev.rd (Ev.name rfl)) (Ev.rd (Ev.name rfl))) (mul_small (hb c)))))) ?_) (fun h => by cases h) fun _ => Ex.done rfl) (Ex.done rfl)) ⟨rfl, rfl, rfl, rfl, rfl, trivial⟩
  rw [hfin c d hcd]; simp
end
end LW
namespace LW
noncomputable def p0 : Program := PySem.Challenge.pw_wf0111_01
noncomputable def bd : List Stmt := behindTheImports p0
noncomputable def env0 : Env := mainEnv p0 30 31
noncomputable def cd0 : Code := .body bd env0
noncomputable def topT : Thread := ⟨denote treeTable cd0, cd0, default, [topFrame default]⟩
/-- the beginning of the top, up to behind _parse_varint -/
noncomputable def midRun (w : World) (s : Shared) : Option ((Shared × Thread) × (Flow × Shared × Code × Pos) × (Flow × Shared × Code × Pos)) :=
  (topGo treeTable p0 w 28 (some (.ref 6)) 12 s (topStub p0)).bind fun x =>
  (segRun treeTable p0 w 28 (some (.ref 6)) 1 400 x.1 (blockOf bd env0 cd0 default [topFrame default])).bind fun y =>
  (segRun treeTable p0 w 28 (some (.ref 6)) 1 4000 y.2.1 (piecesOf (bd.take 9) env0 cd0 y.2.2.2 [topFrame default])).map fun z => (x, y, z)

noncomputable def codeOkB (h : Heap) (code : Value) (q : Str) : Bool := match code with
  | .ref c => (match h.get? c with
    | some o => (match o.data with
      | .fields vs => (match (vs[1]? : Option Value) with
        | some (.str x _) => x == q
        | _ => false)
      | _ => false)
    | none => false)
  | _ => false
noncomputable def fnView (h : Heap) (a : Addr) : Option (Arguments × List Stmt × Scope × Value) := match h.get? a with
  | none => none
  | some o => match o.data with
    | .func fd => (match fd.body with
      | .stmts b => if o.cls == .type "function" && o.dict.isNone && fd.globals == mainGlobals && fd.closure.isEmpty && fd.builtins == builtinsNs && codeOkB h fd.code fd.qualname then some (fd.params, b, fd.scope, fd.defaults) else none
      | _ => none)
    | _ => none
noncomputable def seqView (h : Heap) (a : Addr) : Option (Array Nat) := match h.get? a with
  | none => none
  | some o => match o.data with
    | .seq items _ => some ((items.map Builtin.Re.reRawOf).map (·.toNat))
    | _ => none
noncomputable def tupView (h : Heap) (a : Addr) : Option (Array Value) := match h.get? a with
  | none => none
  | some o => match o.data with
    | .seq items _ => some items
    | _ => none
noncomputable def fldView (h : Heap) (a : Addr) : Option (Array Value) := match h.get? a with
  | none => none
  | some o => match o.data with
    | .fields items => some items
    | _ => none
noncomputable def mods0 : List Str := importedModules p0.main.body
noncomputable def topOk (s₀ s : Shared) : Bool := s₀.heap.isNs mainGlobals && s₀.gens.size == 0 && staticsOk mods0 s₀.heap s.heap && namesBound p0 s.heap && s.gens.size == 0 && laidKept s₀.heap s.heap && s.heap.accountedOkI mods0 &&
  s.heap.isNs mainGlobals && s.heap.isNs builtinsNs && s.heap.isNs cStatics && s.heap.isNs sysModules && s.heap.isNs 174
noncomputable def gNames : List Str := ["Headers", "_name_disallowed_re", "_value_disallowed_re", "_parse_varint", "__builtins__", "type", "str", "list", "len", "ord", "chr", "iter", "next", "enumerate", "range", "sum", "StopIteration", "set"]
noncomputable def cNames : List Str := ["__getattribute__", "__getattr__", "__setattr__", "_headers", "__init__", "_convert_string_type", "__setitem__", "__delitem__", "get_all", "get", "items", "setdefault", "add_header"]
noncomputable def obs (s₀ s : Shared) :=
  (topOk s₀ s, (s₀.heap.objs.size, s₀.heap.nsMap mainGlobals "__annotations__", s.heap.objs.size), s.heap.bltView, gNames.map (s.heap.nsMap mainGlobals), cNames.map (s.heap.nsMap 174), s.heap.nsMap cStatics "sys.recursionlimit",
   [fnView s.heap 69, fnView s.heap 76, fnView s.heap 90, fnView s.heap 95, fnView s.heap 114, fnView s.heap 122, fnView s.heap 139, fnView s.heap 165, fnView s.heap 172, fnView s.heap 186],
   (tupView s.heap 62, tupView s.heap 115, seqView s.heap 40, seqView s.heap 45, fldView s.heap 30, fldView s.heap 29),
   (s.heap.get? 175, s.heap.get? 41, s.heap.get? 46, s.heap.get? 4))
noncomputable def expected :=
  (true, (28, some (Value.ref 6), 187), bltViewBooted,
   [some (Value.ref 175), some (.ref 41), some (.ref 46), some (.ref 186), some (.ref 4), none, none, none, none, none, none, none, none, none, none, none, none, none],
   [(none : Option Value), none, none, none, some (.ref 69), some (.ref 76), some (.ref 90), some (.ref 95), some (.ref 114), some (.ref 122), some (.ref 139), some (.ref 165), some (.ref 172)], (none : Option Value),
   [some (hA 0, hB 0, hS 0, Value.ref 62), some (hA 1, hB 1, hS 1, .none), some (hA 3, hB 3, hS 3, .none), some (hA 4, hB 4, hS 4, .none), some (hA 7, hB 7, hS 7, .none), some (hA 8, hB 8, hS 8, .ref 115), some (hA 11, hB 11, hS 11, .none), some (hA 15, hB 15, hS 15, .none), some (hA 16, hB 16, hS 16, .none), some (dA 8, dB 8, dS 8, .none)],
   (some #[Value.none], some #[Value.none], some nameCode, some valueCode,
    some #[Value.str (Str.ofString "<module>") 277, Value.str (Str.ofString "<module>") 278, Value.str (Str.ofString "/claim/cut.py") 279, Value.int 1 0, Value.int 0 0, Value.int 0 0, Value.int 0 0,
        Value.int 0 0, Value.ref 28, Value.bool false, Value.int 276 0, Value.ref 29, Value.none, Value.none, Value.none, Value.none, Value.int 280 0, Value.int 1 0,
        Value.str (Str.ofString "/claim/cut.py") 281],
    some #[Value.int 6 0, Value.int 0 0, Value.ref 53, Value.int 15 0, Value.int 0 0, Value.ref 60, Value.int 103 0, Value.int 0 0, Value.ref 185]),
   (some (excClassObj "Headers" "Headers" 175 174 [.type "object"] [.type "object"] true [] [] false none none none none (some (Value.str (Str.ofString "Headers") 388)) (some (Value.str (Str.ofString "Headers") 396)) (some (Value.bool true)) "object.__new__"),
    some ({ cls := Value.type "re.Pattern", data := Data.fields #[Value.str (Str.ofString "[\\x00-\\x1F\\x7F]") 319, Value.int 32 342, Value.int 0 0, Value.none, Value.none, Value.ref 40, Value.int 0 0] } : Obj),
    some ({ cls := Value.type "re.Pattern", data := Data.fields #[Value.str (Str.ofString "[\\x00-\\x08\\x0A-\\x1F\\x7F]") 345, Value.int 32 376, Value.int 0 0, Value.none, Value.none, Value.ref 45, Value.int 0 0] } : Obj),
    some ({ cls := Value.type "module", dict := some 0 } : Obj)))
theorem kmid : ∀ w, (fencedOpening treeTable p0 w 4000).bind (fun s₀ => (midRun w s₀).map fun r => (r.1.2, (r.2.1.1, r.2.1.2.2.1), (r.2.2.1, r.2.2.2.2.1), obs s₀ r.2.2.2.1)) = some (topT, (Flow.next, cd0), (Flow.next, cd0), expected) := by intro w; kernel_rfl
end LW
namespace LW

section
variable {α : Type} {tb : String → Option Builtin} {p : Program} {w : World} {n₀ : Nat} {ann : Option Value} {B : List Frame} {K' : α → Sem Fin} {H' : Value → Sem Fin} {gd : Bool → Bool} {lv : List Value → List Value} {res : α → Flow}

theorem topGo_seg (hB : splitAtGen B = none) : ∀ (n : Nat) (s : Shared) (t t' : Thread) (f : Flow) (s' : Shared) (c' : Code) (p' : Pos), Rel2 (fun a => .pure (.done (res a))) K' deadEnd H' gd lv B t t' →
    segRun tb p w n₀ ann B.length n s t = some (f, s', c', p') → ∃ a m, res a = f ∧ topGo tb p w n₀ ann m s t' = some (s', ⟨K' a, c', p', B⟩)
  | 0, _, _, _, _, _, _, _, _, h => by simp [segRun] at h
  | n + 1, s, ⟨cur, code, pos, st⟩, ⟨cur', code', pos', st'⟩, f, s', c', p', R, h => by
    obtain ⟨e1, e2, R⟩ := R
    dsimp only at e1 e2 R
    subst e1 e2
    unfold segRun at h
    cases he : endAt B.length ⟨cur, code, pos, st⟩ with
    | some g =>
      rw [he] at h
      obtain ⟨rfl, rfl, rfl, rfl⟩ : g = f ∧ s = s' ∧ code = c' ∧ pos = p' := by simpa using h
      rcases R with ⟨rfl, rfl, x, rfl, rfl⟩ | ⟨rfl, F⟩
      · have hx : ∃ a, x = .pure a ∧ res a = g := by
          cases x with
          | pure a => simp only [endAt, Sem.wrap, beq_self_eq_true, Option.some.injEq] at he; exact ⟨a, rfl, he⟩
          | _ => simp [endAt, Sem.wrap] at he
        obtain ⟨a, rfl, rfl⟩ := hx
        exact ⟨a, 0, rfl, rfl⟩
      · have l := F.longer.1
        have : ((st.length == B.length) = false) := beq_eq_false_iff_ne.mpr (Nat.ne_of_gt l)
        simp only [endAt, this] at he
        cases he
    | none =>
      rw [he] at h
      cases hk : stepOk n₀ ann ⟨cur, code, pos, st⟩ with
      | false => rw [hk] at h; cases h
      | true =>
        rw [hk] at h
        cases hs : step (denote tb) p w s ⟨cur, code, pos, st⟩ with
        | halt o s₂ => rw [hs] at h; cases h
        | go s₂ t₂ =>
          rw [hs] at h
          have key : stepOk n₀ ann ⟨cur', code, pos, st'⟩ = true ∧ through ⟨cur', code, pos, st'⟩ = false ∧ ∃ t₂', step (denote tb) p w s ⟨cur', code, pos, st'⟩ = .go s₂ t₂' ∧ Rel2 (fun a => .pure (.done (res a))) K' deadEnd H' gd lv B t₂ t₂' := by
            rcases R with ⟨rfl, rfl, x, rfl, rfl⟩ | ⟨rfl, F⟩
            · have hp : ∀ a, x ≠ .pure a := by
                rintro a rfl
                simp [endAt, Sem.wrap] at he
              have hr : ∀ e, x ≠ .raise e := by
                rintro e rfl
                refine LW.hideGoal fun GG hGG => ?_
                obtain ⟨heap, gens, drawn, toks, os⟩ := s
                refine hGG ?_
                clear hGG GG
                simp only [Sem.wrap, step] at hs
                cases hs
              obtain ⟨k1, k2⟩ := okOuter (K' := K') (H' := H') hp hr hk
              exact ⟨k1, k2, step_outer hB hp hs⟩
            · obtain ⟨k1, k2⟩ := okInner hB F hk
              exact ⟨k1, k2, step_inner hB F hs⟩
          refine LW.hideGoal fun GG hGG => ?_
          obtain ⟨k1, k2, t₂', k3, R'⟩ := key
          obtain ⟨a, m, ha, hm⟩ := topGo_seg hB n s₂ t₂ t₂' f s' c' p' R' h
          refine hGG ?_
          clear hGG GG
          refine ⟨a, m + 1, ha, ?_⟩
          unfold topGo
          rw [k2, k1, k3]
          exact hm
end

/-- what the scheduler comes to -/
structure Came (p : Program) (w : World) (n₀ : Nat) (ann : Option Value) (s : Shared) (t : Thread) (s' : Shared) (t' : Thread) : Prop where
  run : ∃ m, schedN (denote table) p w m (.single s t) = .running (.single s' t')
  life : s'.heap.life = s.heap.life
  os : s'.os = s.os
  old : ∀ b o, b < n₀ → b ≠ mainNs → b ≠ cStatics → ann ≠ some (.ref b) → s.heap.get? b = some o → s'.heap.get? b = some o
theorem schedN_add {den : Code → Sem Fin} {p : Program} {w : World} : ∀ (n m : Nat) (c c' : Config), schedN den p w n c = .running c' → schedN den p w (n + m) c = schedN den p w m c'
  | 0, m, c, c', h => by
    have : c = c' := by simpa [schedN] using h
    rw [Nat.zero_add, this]
  | n + 1, m, c, c', h => by
    rw [show n + 1 + m = n + m + 1 by omega]
    simp only [schedN] at h ⊢
    split at h
    · exact schedN_add n m _ c' h
    · cases h
theorem Came.trans {p : Program} {w : World} {n₀ : Nat} {ann : Option Value} {s s₁ s₂ : Shared} {t t₁ t₂ : Thread} (x : Came p w n₀ ann s t s₁ t₁) (y : Came p w n₀ ann s₁ t₁ s₂ t₂) : Came p w n₀ ann s t s₂ t₂ := by
  refine LW.hideGoal fun GG hGG => ?_
  obtain ⟨⟨m, hm⟩, l1, o1, k1⟩ := x
  obtain ⟨⟨m', hm'⟩, l2, o2, k2⟩ := y
  refine hGG ?_
  clear hGG GG
  exact ⟨⟨m + m', by rw [schedN_add _ _ _ _ hm]; exact hm'⟩, l2.trans l1, o2.trans o1, fun b o h1 h2 h3 h4 e => k2 b o h1 h2 h3 h4 (k1 b o h1 h2 h3 h4 e)⟩

theorem topGo_came {p : Program} {w : World} {n₀ : Nat} {ann : Option Value} : ∀ (n : Nat) (s : Shared) (t : Thread) (s' : Shared) (t' : Thread), s.asleep → topGo table p w n₀ ann n s t = some (s', t') → Came p w n₀ ann s t s' t'
  | 0, s, t, s', t', hr, h => by
    obtain ⟨rfl, rfl⟩ : s = s' ∧ t = t' := by simpa [topGo] using h
    exact ⟨⟨0, rfl⟩, rfl, rfl, fun _ _ _ _ _ _ e => e⟩
  | n + 1, s, t, s', t', hr, h => by
    unfold topGo at h
    cases ht : through t with
    | true => rw [ht] at h; cases h
    | false =>
      rw [ht] at h
      cases hk : stepOk n₀ ann t with
      | false => rw [hk] at h; cases h
      | true =>
        rw [hk] at h
        cases hs : step (denote table) p w s t with
        | halt o s₂ => rw [hs] at h; cases h
        | go s₂ t₂ =>
          rw [hs] at h
          obtain ⟨hc, hk⟩ := Bool.and_eq_true_iff.mp hk
          have hl := step_life (denote table) p w s s₂ t t₂ hs
          have e : sstep (denote table) p w (.single s t) = .go (.single s₂ t₂) := by
            rcases sstep_single (denote table) p w s t hc hr with e | e
            · rw [e, hs]; rfl
            · rw [hs] at e; cases e
          have one : Came p w n₀ ann s t s₂ t₂ := by
            refine ⟨⟨1, by simp only [schedN, e]⟩, hl, step_os_same hs (by revert hk; cases t.cur <;> simp), fun b o h1 h2 h3 h4 h5 => ?_⟩
            rw [step_heap (denote table) p w s s₂ t t₂ hs]
            revert hk
            cases t.cur <;> intro hk <;> try exact h5
            case update a _ f _ =>
              have : b ≠ a := by
                rintro rfl
                simp only [Bool.or_eq_true, Nat.ble_eq, beq_iff_eq] at hk
                rcases hk with ((q | q) | q) | q
                · exact absurd h1 (Nat.not_lt.mpr q)
                · exact h2 q
                · exact h3 q
                · exact h4 q
              exact (Heap.get?_update_ne _ _ _ _ this).trans h5
            case alloc x _ => exact Heap.get?_push_of_some x h5
          exact one.trans (topGo_came n s₂ t₂ s' t' (Shared.asleep_of_life hl hr) h)

/-- from the machine of the proofs to the scheduler -/
theorem runNI_sched {den : Code → Sem Fin} {p : Program} {w : World} {n : Nat} {s s' : Shared} {t t' : Thread} (hr : s.asleep) (h : runNI den p w n s t = .running s' t') :
    ∃ σ τ, schedN den p w n (.single s t) = .running (.single σ τ) ∧ σ.forget = s'.forget ∧ τ.forget = t'.forget ∧ σ.heap.life = s.heap.life := by
  refine LW.hideGoal fun GG hGG => ?_
  obtain ⟨σ, τ, e, e1, e2⟩ := runNI_running_real h
  refine hGG ?_
  clear hGG GG
  have hall : ∀ k s₁ t₁, k < n → runN den p w k s t = .running s₁ t₁ → t₁.calm = true ∧ step den p w s₁ t₁ ≠ .halt (.unsupported "lifetime:generator-with-cleanup-left-suspended") s₁ := by
    intro k s₁ t₁ hk hk1
    refine LW.hideGoal fun GG hGG => ?_
    obtain ⟨s₂, t₂, h2⟩ := runNI_prefix (k := k + 1) hk h
    obtain ⟨s₃, t₃, h3⟩ := runNI_prefix (k := k) (Nat.le_of_lt hk) h
    obtain ⟨σ3, τ3, r3, _, f3⟩ := runNI_running_real h3
    refine hGG ?_
    clear hGG GG
    rw [hk1] at r3
    obtain ⟨rfl, rfl⟩ : s₁ = σ3 ∧ t₁ = τ3 := by injection r3 with a b; exact ⟨a, b⟩
    constructor
    · rw [← Thread.calm_forget t₁, f3, Thread.calm_forget]
      -- the next step is no halt
      have step2 : ∀ (k : Nat) (s : Shared) (t : Thread) (s₃ : Shared) (t₃ : Thread), runNI den p w k s t = .running s₃ t₃ → (∃ s₂ t₂, runNI den p w (k + 1) s t = .running s₂ t₂) → t₃.calm = true := by
        intro k
        induction k with
        | zero =>
          rintro s t s₃ t₃ h ⟨s₂, t₂, h2⟩
          obtain ⟨rfl, rfl⟩ : s = s₃ ∧ t = t₃ := by have : Run.running s t = .running s₃ t₃ := h; injection this with a b; exact ⟨a, b⟩
          simp only [runNI] at h2
          cases hl : t.loud with
          | true => simp only [stepI_loud den p w hl] at h2; cases h2
          | false =>
            simp only [stepI_quiet den p w hl] at h2
            rw [Thread.calm_eq, hl]
            cases hf : t.refused with
            | false => rfl
            | true =>
              obtain ⟨what, e⟩ := stepK_refused den p w (s := s) hf
              simp only [e] at h2; cases h2
        | succ k ih =>
          rintro s t s₃ t₃ h ⟨s₂, t₂, h2⟩
          simp only [runNI] at h
          rw [runNI] at h2
          cases hs : stepI den p w s t with
          | halt o s₄ => simp only [hs] at h; cases h
          | go s₄ t₄ => simp only [hs] at h h2; exact ih s₄ t₄ s₃ t₃ h ⟨s₂, t₂, h2⟩
      exact step2 k s t s₃ t₃ h3 ⟨s₂, t₂, h2⟩
    · intro hh
      refine LW.hideGoal fun GG hGG => ?_
      obtain ⟨σ2, τ2, r2, _, _⟩ := runNI_running_real h2
      refine hGG ?_
      clear hGG GG
      have : ∀ (k : Nat) (s : Shared) (t : Thread), runN den p w k s t = .running s₁ t₁ → runN den p w (k + 1) s t = .halted (.unsupported "lifetime:generator-with-cleanup-left-suspended") s₁ := by
        intro k
        induction k with
        | zero =>
          intro s t h
          obtain ⟨rfl, rfl⟩ : s = s₁ ∧ t = t₁ := by have : Run.running s t = .running s₁ t₁ := h; injection this with a b; exact ⟨a, b⟩
          simp only [runN, hh]
        | succ k ih =>
          intro s t h
          simp only [runN] at h
          rw [runN]
          cases hs : step den p w s t with
          | halt o s₄ => simp only [hs] at h; cases h
          | go s₄ t₄ => simp only [hs] at h ⊢; exact ih s₄ t₄ h
      rw [this k s t hk1] at r2; cases r2
  refine ⟨σ, τ, ?_, e1, e2, ?_⟩
  · rw [schedN_prefix den p w n s t hr fun k s' t' hk hrun => hall k s' t' hk hrun, e]; rfl
  · have life : ∀ (n : Nat) (s : Shared) (t : Thread), runN den p w n s t = .running σ τ → σ.heap.life = s.heap.life := by
      intro n
      induction n with
      | zero =>
        intro s t h
        have : Run.running s t = .running σ τ := h
        injection this with a b; rw [a]
      | succ n ih =>
        intro s t h
        simp only [runN] at h
        cases hs : step den p w s t with
        | halt o s₄ => simp only [hs] at h; cases h
        | go s₄ t₄ => simp only [hs] at h; exact (ih s₄ t₄ h).trans (step_life den p w s s₄ t t₄ hs)
    exact life n s t e
end LW
namespace LW

theorem execs_tree (l : List Stmt) (env : Env) : (execs l env).wrap doneF (leaveH env) id id = (((execs l env).onRaise (leaving env)).bind fun f => (Sem.pure (Fin.done f) : Sem Fin)) := by
  symm
  rw [Sem.bind_eq_wrap, Sem.onRaise_eq_wrap, Sem.wrap_wrap]
  rfl

noncomputable def topCtx : Ctx := (Ctx.of (.builtin "claim.caller" {}) []).enter cd0 none default
/-- where the module's text runs -/
noncomputable def topA : Around := { handled := none, depth := frameCount topCtx.below + topCtx.code.weight, units := topCtx.units }
theorem topCtx_in : topCtx.In topA := ⟨rfl, Nat.le_refl _, fun _ h => (nomatch h), fun _ h => (nomatch h), Nat.le_refl _⟩
theorem topCtx_fits : topCtx.Fits [topFrame default] := (Ctx.fits_of (.builtin "claim.caller" {}) []).enter cd0 topAfter none false [] default []

theorem suffix {w : World} {s : Shared} {n₀ : Nat} {ann : Option Value} {pos : Pos} {rest : List Stmt} {R : Shared → Prop} (hr : s.asleep)
    (h : wpAny (model p0 w) topA (execs rest env0) (fun f s' => f = .next ∧ s'.gens = #[] ∧ s'.os = s.os ∧ (∀ b o, b < n₀ → b ≠ mainNs → b ≠ cStatics → ann ≠ some (.ref b) → s.heap.get? b = some o → s'.heap.get? b = some o) ∧ R s') (fun _ _ => False) s) :
    ∃ s' t', Came p0 w n₀ ann s (restOf rest env0 cd0 pos [topFrame default]) s' t' ∧ through t' = true ∧ s'.gens = #[] ∧ R s' := by
  have h1 : wpAny (model p0 w) topA ((execs rest env0).wrap doneF (leaveH env0) id id) (fun fin s' => fin = .done .next ∧ s'.gens = #[] ∧ s'.os = s.os ∧ (∀ b o, b < n₀ → b ≠ mainNs → b ≠ cStatics → ann ≠ some (.ref b) → s.heap.get? b = some o → s'.heap.get? b = some o) ∧ R s') (fun _ _ => False) s := by
    rw [execs_tree]
    exact wpAny_bind (wpAny_onRaise (wpAny_mono h (fun f s' hf => by obtain ⟨rfl, hf⟩ := hf; exact wpAny_pure ⟨rfl, hf⟩) fun _ _ x => x.elim))
  refine LW.hideGoal fun GG hGG => ?_
  obtain ⟨s', p', leaf, hc, hl⟩ := wp_comes (M := model p0 w) topCtx_fits _ _ _ pos s (h1 topCtx pos topCtx_in)
  refine hGG ?_
  clear hGG GG
  rcases hl with ⟨a, rfl, rfl, hg, hos, hk, hR⟩ | ⟨e, rfl, hx⟩
  · have hc2 : Comes (model p0 w) s (restOf rest env0 cd0 pos [topFrame default]) s' ⟨.pure (.done (.ret .none)), .builtin "claim.caller" {}, default, []⟩ :=
      Comes.trans hc (.step (step_leaf_ret (r := .ok .next) ..) (.refl _ _))
    refine LW.hideGoal fun GG hGG => ?_
    obtain ⟨n, hn⟩ := hc2
    obtain ⟨σ, τ, e1, e2, e3, e4⟩ := runNI_sched (den := denote table) (p := p0) (w := w) hr hn
    obtain rfl := Shared.eq_of_forget_eq e2 hg
    obtain ⟨cur, code, ps, stack⟩ := τ
    simp only [Thread.forget, Thread.mk.injEq, forgetAll] at e3
    obtain ⟨rfl, rfl, rfl, e5⟩ := e3
    refine hGG ?_
    clear hGG GG
    have hst : stack = [] := by cases stack with | nil => rfl | cons x xs => simp at e5
    subst hst
    exact ⟨_, _, ⟨⟨n, e1⟩, e4, hos, hk⟩, rfl, hg, hR⟩
  · exact hx.elim

theorem block_came {w : World} {s s' : Shared} {n : Nat} {pos p' : Pos} (hr : s.asleep) (h : segRun table p0 w 28 (some (.ref 6)) 1 n s (blockOf bd env0 cd0 pos [topFrame default]) = some (.next, s', cd0, p')) :
    Came p0 w 28 (some (.ref 6)) s ⟨denote table cd0, cd0, pos, [topFrame default]⟩ s' (restOf bd env0 cd0 p' [topFrame default]) := by
  refine LW.hideGoal fun GG hGG => ?_
  obtain ⟨a, m, _, hm⟩ := topGo_seg (res := fun _ : Unit => Flow.next) (K' := fun _ => (execs bd env0).wrap doneF (leaveH env0) id id) (H' := Sem.raise) (B := [topFrame default]) rfl n s (blockOf bd env0 cd0 pos [topFrame default])
    ⟨(blockStart bd env0).wrap (fun _ => (execs bd env0).wrap doneF (leaveH env0) id id) .raise id id, cd0, pos, [topFrame default]⟩ _ _ _ _ ⟨rfl, rfl, .inl ⟨rfl, rfl, _, rfl, rfl⟩⟩ h
  refine hGG ?_
  clear hGG GG
  have e : denote table cd0 = (blockStart bd env0).wrap (fun _ => (execs bd env0).wrap doneF (leaveH env0) id id) .raise id id := body_wrap (tb := table) (env := env0) bd
  rw [e]
  exact topGo_came _ _ _ _ _ hr hm
theorem pieces_came {w : World} {s s' : Shared} {n : Nat} {pos p' : Pos} {l rest : List Stmt} (hr : s.asleep) (h : segRun table p0 w 28 (some (.ref 6)) 1 n s (piecesOf l env0 cd0 pos [topFrame default]) = some (.next, s', cd0, p')) :
    Came p0 w 28 (some (.ref 6)) s (restOf (l ++ rest) env0 cd0 pos [topFrame default]) s' (restOf rest env0 cd0 p' [topFrame default]) := by
  obtain ⟨a, m, ha, hm⟩ := topGo_seg (res := id) (K' := fun f => match f with | .next => (execs rest env0).wrap doneF (leaveH env0) id id | f => doneF f) (H' := leaveH env0) (B := [topFrame default]) rfl n s (piecesOf l env0 cd0 pos [topFrame default])
    ⟨(execs l env0).wrap (fun f => match f with | .next => (execs rest env0).wrap doneF (leaveH env0) id id | f => doneF f) (leaveH env0) id id, cd0, pos, [topFrame default]⟩ _ _ _ _ ⟨rfl, rfl, .inl ⟨rfl, rfl, _, rfl, rfl⟩⟩ h
  obtain rfl : a = .next := ha
  have := topGo_came _ _ _ _ _ hr hm
  unfold restOf
  rw [execs_app_wrap]
  exact this

theorem opened (w : World) : ∃ s s₀ sm pos, AfterRun (opening p0) w s ∧ fenceModules? p0 s = some s₀ ∧ s₀.asleep ∧ Came p0 w 28 (some (.ref 6)) s₀ (topStub p0) sm (restOf (bd.drop 9) env0 cd0 pos [topFrame default]) ∧ obs s₀ sm = expected := by
  have h := kmid w
  unfold midRun at h
  rw [← table_eq_tree] at h
  refine LW.hideGoal fun GG hGG => ?_
  obtain ⟨s₀, h1, h2⟩ := Option.bind_eq_some_iff.mp h
  obtain ⟨s, h3, h4⟩ := Option.bind_eq_some_iff.mp h1
  have A := AfterImport.of_importEnds h3
  have z : s₀.asleep := Shared.asleep_of_life (fence_lifeW h4) A.life
  obtain ⟨r, h5, h6⟩ := Option.map_eq_some_iff.mp h2
  obtain ⟨x, h7, h8⟩ := Option.bind_eq_some_iff.mp h5
  obtain ⟨y, h9, h10⟩ := Option.bind_eq_some_iff.mp h8
  obtain ⟨u, h11, rfl⟩ := Option.map_eq_some_iff.mp h10
  obtain ⟨e1, f1⟩ := Prod.mk.inj h6
  obtain ⟨e2, f2⟩ := Prod.mk.inj f1
  obtain ⟨e3, e4⟩ := Prod.mk.inj f2
  obtain ⟨x1, x2⟩ := x
  obtain ⟨y1, y2, y3, y4⟩ := y
  obtain ⟨u1, u2, u3, u4⟩ := u
  obtain ⟨g1, g2⟩ := Prod.mk.inj e2
  obtain ⟨g3, g4⟩ := Prod.mk.inj e3
  refine hGG ?_
  clear hGG GG
  dsimp only at e1 g1 g2 g3 g4 e4 h9 h11
  clear h h1 h2 h5 h6 h8 h10 e2 e3 f1 f2
  subst g1 g2 g3 g4
  have c1 := topGo_came _ _ _ _ _ z h7
  rw [e1] at c1
  have z1 : x1.asleep := Shared.asleep_of_life c1.life z
  have c2 := block_came (pos := default) z1 h9
  have z2 : y2.asleep := Shared.asleep_of_life c2.life z1
  have c3 := pieces_came (rest := bd.drop 9) z2 h11
  rw [List.take_append_drop] at c3
  have et : topT = ⟨denote table cd0, cd0, default, [topFrame default]⟩ := by unfold topT; rw [table_eq_tree]
  rw [et] at c1
  exact ⟨s, s₀, u2, u4, A, h4, z, (c1.trans c2).trans c3, e4⟩
end LW
namespace LW

noncomputable abbrev TH (h : Heap) : Heap := hid h [29, mainGlobals]
noncomputable def FunI (F : Heap) (v : Value) (name : Str) (i : Nat) : Prop := ∃ a pm c', v = .ref a ∧ F.get? a = some { cls := .type "function", data := .func (plainDef name (dA i) (dB i) (dS i) pm (.ref c')) } ∧ F.CodeRec (.ref c') name
theorem FunI.mono {F F' : Heap} (k : Kp F F') {v : Value} {name : Str} {i : Nat} (x : FunI F v name i) : FunI F' v name i := let ⟨a, pm, c, h1, h2, h3⟩ := x; ⟨a, pm, c, h1, k _ _ h2, h3.keeps k⟩
noncomputable abbrev OFact := Str × (Heap → Value → Prop)
noncomputable def freshB (x : Str) (cs : List (Str × Int)) (ds : List (Str × Nat)) (os : List OFact) : Bool := !(cs.any fun y => y.1 == x) && !(ds.any fun y => y.1 == x) && !(os.any fun y => y.1 == x)

/-- the top, behind some statements of its rest -/
structure TI (h₀ h : Heap) (mg₀ mg : Str → Option Value) (ps : Array Value) (ns : List Str) (cs : List (Str × Int)) (ds : List (Str × Nat)) (os : List OFact) : Prop where
  main : h.Main mg 30 29 ps
  keep : ∀ b o, b ≠ 29 → b ≠ mainGlobals → h₀.get? b = some o → h.get? b = some o
  con : ∀ p ∈ cs, ∃ t, mg p.1 = some (.int p.2 t)
  fn : ∀ p ∈ ds, ∃ v, mg p.1 = some v ∧ FunI (TH h) v p.1 p.2
  ob : ∀ p ∈ os, ∃ v, mg p.1 = some v ∧ p.2 (TH h) v
  mono : ∀ p ∈ os, ∀ F F' v, Kp F F' → p.2 F v → p.2 F' v
  others : ∀ x, x ∉ ns → mg x = mg₀ x

section
variable {M : Model} {A : Around} {E : Value → Shared → Prop} {Q : Flow → Shared → Prop} {s : Shared} {h₀ h h' : Heap} {mg₀ mg : Str → Option Value} {ps ps' : Array Value} {ns : List Str} {cs : List (Str × Int)} {ds : List (Str × Nat)} {os : List OFact} {x : Str} {v : Value}

theorem TH.kp (keep : ∀ b o, b ≠ 29 → b ≠ mainGlobals → h.get? b = some o → h'.get? b = some o) : Kp (TH h) (TH h') := fun b o e => by
  rw [hid_get] at e ⊢
  refine ⟨keep b o (fun q => e.2 (by simp [q])) (fun q => e.2 (by simp [q])) e.1, e.2⟩
theorem TI.rebind (T : TI h₀ h mg₀ mg ps ns cs ds os) (hm : h'.Main (fun y => if y = x then some v else mg y) 30 29 ps')
    (keep : ∀ b o, b ≠ 29 → b ≠ mainGlobals → h.get? b = some o → h'.get? b = some o) (hx : freshB x cs ds os = true) : TI h₀ h' mg₀ (fun y => if y = x then some v else mg y) ps' (x :: ns) cs ds os := by
  unfold freshB at hx
  simp only [Bool.and_eq_true, Bool.not_eq_true', List.any_eq_false, beq_iff_eq] at hx
  obtain ⟨⟨h1, h2⟩, h3⟩ := hx
  have k := TH.kp keep
  refine ⟨hm, fun b o hP hG e => keep b o hP hG (T.keep b o hP hG e), fun p hp => ?_, fun p hp => ?_, fun p hp => ?_, T.mono, fun y hy => ?_⟩
  · obtain ⟨t, e⟩ := T.con p hp
    exact ⟨t, by rw [if_neg (h1 p hp)]; exact e⟩
  · obtain ⟨u, e, f⟩ := T.fn p hp
    exact ⟨u, by rw [if_neg (h2 p hp)]; exact e, f.mono k⟩
  · obtain ⟨u, e, f⟩ := T.ob p hp
    exact ⟨u, by rw [if_neg (h3 p hp)]; exact e, T.mono p hp _ _ u k f⟩
  · rw [if_neg (fun q => hy (by rw [q]; exact List.mem_cons_self))]
    exact T.others y fun q => hy (List.mem_cons_of_mem _ q)
theorem TI.grown (T : TI h₀ h mg₀ mg ps ns cs ds os) (k : Kp h h') : TI h₀ h' mg₀ mg ps ns cs ds os := by
  refine LW.hideGoal fun GG hGG => ?_
  obtain ⟨bm, o, hbm, hne0, hneG, hneP, hbo, hrest⟩ := T.main.bmod
  refine hGG ?_
  clear hGG GG
  exact ⟨⟨T.main.g.keeps k, T.main.code.keeps k, T.main.low, ⟨bm, o, hbm, hne0, hneG, hneP, k _ _ hbo, hrest⟩⟩, fun b o hP hG e => k b o (T.keep b o hP hG e), T.con, fun p hp => let ⟨u, e, f⟩ := T.fn p hp; ⟨u, e, f.mono (k.hid _)⟩,
    fun p hp => let ⟨u, e, f⟩ := T.ob p hp; ⟨u, e, T.mono p hp _ _ u (k.hid _) f⟩, T.mono, T.others⟩

theorem TI.store {Q : Unit → Shared → Prop} (T : TI h₀ s.heap mg₀ mg ps ns cs ds os) (hloc : p0.main.scope.names.lookup x = some .local) (hx : freshB x cs ds os = true)
    (k : ∀ h' tk, TI h₀ h' mg₀ (fun y => if y = x then some v else mg y) ps (x :: ns) cs ds os → (∀ b o, b ≠ mainGlobals → s.heap.get? b = some o → h'.get? b = some o) → Q () { s with heap := h', toks := tk }) (hnb : x ≠ "__builtins__" := by decide) :
    wpAny M A (storeName env0 x v) Q E s := by
  refine wpAny_storeName_local (env := env0) hloc T.main.g (fun h' hg' hs' => ?_) (by decide +kernel)
  refine LW.hideGoal fun GG hGG => ?_
  obtain ⟨bm, o, hbm, hne0, hneG, hneP, hbo, hrest⟩ := T.main.bmod
  refine hGG ?_
  clear hGG GG
  have hm : h'.Main (fun y => if y = x then some v else mg y) 30 29 ps :=
    ⟨hg', T.main.code.sameBut hs' (Nat.ne_of_gt T.main.low.1) (Nat.ne_of_gt T.main.low.2), T.main.low,
      ⟨bm, o, by simp only [Ne.symm hnb, if_false]; exact hbm, hne0, hneG, hneP, (hs'.2 _ hneG).trans hbo, hrest⟩⟩
  exact k h' _ (T.rebind hm (fun b o _ hG e => (hs'.2 _ hG).trans e) hx) fun b o hG e => (hs'.2 _ hG).trans e

/-- a text constant, that is not wanted later -/
theorem TI.text {ss rest : List Stmt} {y : Str} {k1 : Nat} {p1 p2 pos : Pos} (T : TI h₀ s.heap mg₀ mg ps ns cs ds os) (hb : ss = .Assign [.Name x p1] (.Constant (.str y) k1 p2) pos :: rest)
    (hloc : p0.main.scope.names.lookup x = some .local) (hx : freshB x cs ds os = true)
    (k : ∀ h' mg' tk, TI h₀ h' mg₀ mg' ps (x :: ns) cs ds os → wpAny M A (execs rest env0) Q E { s with heap := h', toks := tk }) (hnb : x ≠ "__builtins__" := by decide)
    (hs : swapsWith (.Constant (.str y) k1 p2) (some (.Name x p1)) pos.line env0 = pure false := by rfl) : wpAny M A (execs ss env0) Q E s :=
  execs_cons_of hb (wpAny_Assign_Name (wpAny_Constant_str (TI.store (s := { s with toks := s.toks + 1 }) T hloc hx (fun h' tk T' _ => k h' _ tk T') hnb)) hs)
/-- a number -/
theorem TI.int {ss rest : List Stmt} {i : Int} {k1 : Nat} {p1 p2 pos : Pos} (T : TI h₀ s.heap mg₀ mg ps ns cs ds os) (hb : ss = .Assign [.Name x p1] (.Constant (.int i) k1 p2) pos :: rest)
    (hloc : p0.main.scope.names.lookup x = some .local) (hx : freshB x cs ds os = true)
    (k : ∀ h' mg' tk, TI h₀ h' mg₀ mg' ps (x :: ns) ((x, i) :: cs) ds os → wpAny M A (execs rest env0) Q E { s with heap := h', toks := tk }) (hnb : x ≠ "__builtins__" := by decide)
    (hs : swapsWith (.Constant (.int i) k1 p2) (some (.Name x p1)) pos.line env0 = pure false := by rfl) : wpAny M A (execs ss env0) Q E s :=
  execs_cons_of hb (wpAny_Assign_Name (wpAny_Constant_int (TI.store (s := { s with toks := s.toks + 1 }) T hloc hx (fun h' tk T' _ => k h' _ tk { T' with con := fun p hp => (by
      rcases memC hp with rfl | hp
      · exact ⟨s.toks, if_pos rfl⟩
      · exact T'.con p hp) }) hnb)) hs)
/-- a new thing -/
theorem TI.obj {ss rest : List Stmt} {value : PySem.Expr} {P : Heap → Value → Prop} {p1 pos : Pos} (T : TI h₀ s.heap mg₀ mg ps ns cs ds os) (hb : ss = .Assign [.Name x p1] value pos :: rest)
    (hloc : p0.main.scope.names.lookup x = some .local) (hx : freshB x cs ds os = true) (hP : ∀ F F' v, Kp F F' → P F v → P F' v)
    (hv : ∀ (Q' : Value → Shared → Prop), (∀ v h₁ tk, Kp s.heap h₁ → P (TH h₁) v → Q' v { s with heap := h₁, toks := tk }) → wpAny M A (eval value env0) Q' E s)
    (k : ∀ h' mg' tk, TI h₀ h' mg₀ mg' ps (x :: ns) cs ds ((x, P) :: os) → wpAny M A (execs rest env0) Q E { s with heap := h', toks := tk }) (hnb : x ≠ "__builtins__" := by decide)
    (hs : swapsWith value (some (.Name x p1)) pos.line env0 = pure false := by rfl) : wpAny M A (execs ss env0) Q E s :=
  execs_cons_of hb (wpAny_Assign_Name (hv _ fun v h₁ tk kp hp1 => TI.store (s := { s with heap := h₁, toks := tk }) (T.grown kp) hloc hx (fun h' tk' T' kk => k h' _ tk' { T' with
    ob := fun p hp => (by
      rcases memC hp with rfl | hp
      · exact ⟨v, if_pos rfl, hP _ _ v (TH.kp fun b o _ hG e => kk b o hG e) hp1⟩
      · exact T'.ob p hp)
    mono := fun p hp => (by
      rcases memC hp with rfl | hp
      · exact hP
      · exact T'.mono p hp) }) hnb) hs)
/-- a def -/
theorem TI.def (i : Nat) {ss rest : List Stmt} {name : Str} {pos : Pos} (T : TI h₀ s.heap mg₀ mg ps ns cs ds os) (hb : ss = .FunctionDef name (dA i) (dB i) [] none [] (dS i) none name pos :: rest)
    (hexec : PlainDefTree name (dA i) (dB i) (dS i) pos) (hfree : ∀ x ∈ (dS i).names, x.2 ≠ .free) (hdoc : docOf (dB i) = none) (hloc : p0.main.scope.names.lookup name = some .local)
    (hq : qualnameIn { scope := p0.main.scope, locals := mainGlobals, globals := mainGlobals, cells := [] } name name = name) (hx : freshB name cs ds os = true) (hnf : codeAmong pos ps.toList = none)
    (k : ∀ h' mg' c' tk, TI h₀ h' mg₀ mg' (ps ++ #[rawInt pos.line, rawInt pos.col, .ref c']) (name :: ns) cs ((name, i) :: ds) os → wpAny M A (execs rest env0) Q E { s with heap := h', toks := tk }) (hnb : name ≠ "__builtins__" := by decide) :
    wpAny M A (execs ss env0) Q E s := by
  refine execs_cons_of hb (wpAny_plainDefN (prog := p0) (c := 30) (Pl := 29) (F := 31) hexec hfree hdoc hloc hq T.main (fun a c' h' tk ha hm hf hcd htb keep => ?_) hnb (by decide +kernel) hnf)
  have T' := T.rebind hm keep hx
  have la : (29 : Addr) < a ∧ mainGlobals < a := ⟨Nat.lt_of_lt_of_le T.main.code.lt.2 ha, Nat.lt_of_lt_of_le T.main.g.lt ha⟩
  have lc : (29 : Addr) < c' ∧ mainGlobals < c' := ⟨Nat.lt_of_lt_of_le T.main.code.lt.2 hcd.1, Nat.lt_of_lt_of_le T.main.g.lt hcd.1⟩
  have hid1 : ∀ b : Addr, 29 < b ∧ mainGlobals < b → b ∉ [29, mainGlobals] := fun b hb hm => by
    rcases List.mem_cons.mp hm with e | hm
    · exact Nat.ne_of_gt hb.1 e
    · exact Nat.ne_of_gt hb.2 (List.mem_singleton.mp hm)
  refine k h' _ c' tk { T' with fn := fun p hp => ?_ }
  rcases memC hp with rfl | hp
  · exact ⟨_, if_pos rfl, a, _, c', rfl, hid_get.mpr ⟨hf, hid1 a la⟩, hcd.2.at fun o e => hid_get.mpr ⟨e, hid1 c' lc⟩⟩
  · exact T'.fn p hp
end
end LW
namespace LW
noncomputable abbrev SP := Sem Value × Sem Value
noncomputable def flushD (run : List SP) (main : Option Addr) : Sem (Option Addr) := do
  if run.isEmpty then return main
  match main with
  | none => return some (← subDict run)
  | some d =>
    let sub ← holding [.ref d] (subDict run)
    (holding [.ref d, .ref sub] (mergeMapping d (.ref sub) false)).onRaise fun x => do let _ ← holding [.ref d, x] (runValue (.builtin "proto.let_go" {}))
    return some d
noncomputable def gather : List SP → Option Addr → List SP → Sem (Option Addr × List SP)
  | [], main, run => pure (main, run)
  | p :: r, main, run => if ((run ++ [p]).length == 17) = true then (do let m ← flushD (run ++ [p]) main; gather r m []) else gather r main (run ++ [p])

theorem forIn_gatherD (f : (Option (Sem Value) × Sem Value) → (Option Addr × List SP) → Sem (ForInStep (Option Addr × List SP)))
    (h1 : ∀ (p : SP) (main : Option Addr) (run : List SP), ((run ++ [(p.1, p.2)]).length == 17) = false → f (some p.1, p.2) (main, run) = pure (.yield (main, run ++ [(p.1, p.2)])))
    (h2 : ∀ (p : SP) (main : Option Addr) (run : List SP), ((run ++ [(p.1, p.2)]).length == 17) = true → f (some p.1, p.2) (main, run) = (do let m ← flushD (run ++ [(p.1, p.2)]) main; pure (.yield (m, [])))) :
    ∀ (items : List SP) (main : Option Addr) (run : List SP), forIn (items.map fun p => (some p.1, p.2)) (main, run) f = gather items main run
  | [], main, run => by simp [gather]
  | p :: rest, main, run => by
    rw [List.map_cons, List.forIn_cons]
    unfold gather
    cases h : ((run ++ [p]).length == 17) with
    | false =>
      rw [if_neg (by simp), h1 p main run h, pure_bind]
      exact forIn_gatherD f h1 h2 rest main (run ++ [p])
    | true =>
      rw [if_pos rfl, h2 p main run h, bind_assoc]
      congr 1; funext m
      rw [pure_bind]
      exact forIn_gatherD f h1 h2 rest m []
theorem display_eq (items : List SP) : dictDisplay (items.map fun p => (some p.1, p.2)) = (do let x ← gather items none []; match ← flushD x.2 x.1 with | some d => pure (.ref d) | none => newDict) := by
  unfold dictDisplay
  dsimp only
  rw [forIn_gatherD _ (fun p main run h => by
    simp only [h, Bool.false_eq_true, if_false]) (fun p main run h => by
    simp only [h, if_true]
    rfl) items none []]
  rfl
end LW
namespace LW
section
variable {prog : Program} {w : World} {K : Type} [DecidableEq K] {knd : KeyKind prog w K} {A : Around} {E : Value → Shared → Prop} {s : Shared}

noncomputable abbrev KP (K : Type) := K × (Value → Prop)
inductive Vals {K : Type} : List (KP K) → List (K × Value) → Prop where
  | nil : Vals [] []
  | cons {k : K} {R : Value → Prop} {v : Value} {l : List (KP K)} {kvs : List (K × Value)} (r : R v) (t : Vals l kvs) : Vals ((k, R) :: l) ((k, v) :: kvs)
theorem Vals.keys {l : List (KP K)} {kvs : List (K × Value)} (x : Vals l kvs) : kvs.map (·.1) = l.map (·.1) := by
  induction x with
  | nil => rfl
  | cons r t ih => rw [List.map_cons, List.map_cons, ih]
theorem Vals.length {l : List (KP K)} {kvs : List (K × Value)} (x : Vals l kvs) : kvs.length = l.length := by
  induction x with
  | nil => rfl
  | cons r t ih => rw [List.length_cons, List.length_cons, ih]
theorem Vals.append {l m : List (KP K)} {a b : List (K × Value)} (x : Vals l a) (y : Vals m b) : Vals (l ++ m) (a ++ b) := by
  induction x with
  | nil => exact y
  | cons r t ih => exact .cons r ih
theorem Vals.at {l : List (KP K)} {kvs : List (K × Value)} (x : Vals l kvs) (nd : (l.map (·.1)).Nodup) {k : K} {R : Value → Prop} (hm : (k, R) ∈ l) : ∃ v, valueAt kvs k = some v ∧ R v := by
  induction x with
  | nil => cases hm
  | @cons k' R' v l kvs r t ih =>
    rw [List.map_cons, List.nodup_cons] at nd
    rcases List.mem_cons.mp hm with e | hm
    · cases e; exact ⟨v, by simp [valueAt], r⟩
    · obtain ⟨u, e, hu⟩ := ih nd.2 hm
      refine ⟨u, ?_, hu⟩
      have : k' ≠ k := fun q => nd.1 (List.mem_map.mpr ⟨_, hm, q.symm⟩)
      unfold valueAt at e ⊢
      rw [List.find?_cons_of_neg (by simpa using this)]; exact e
theorem Vals.none {l : List (KP K)} {kvs : List (K × Value)} (x : Vals l kvs) {k : K} (hm : k ∉ l.map (·.1)) : valueAt kvs k = Option.none := by
  induction x with
  | nil => rfl
  | @cons k' R' v l kvs r t ih =>
    rw [List.map_cons, List.mem_cons, not_or] at hm
    unfold valueAt
    rw [List.find?_cons_of_neg (by simpa using Ne.symm hm.1)]
    exact ih hm.2

/-- how a pair is evaluated -/
structure PSp (knd : KeyKind prog w K) (A : Around) (hB : Heap) (p : SP) (x : KP K) : Prop where
  key : ∀ (s' : Shared) (Q : Value → Shared → Prop) (E : Value → Shared → Prop), Kp hB s'.heap → (∀ v tk, knd.is x.1 v = true → Q v { s' with toks := tk }) → wpAny (model prog w) A p.1 Q E s'
  val : ∀ (s' : Shared) (Q : Value → Shared → Prop) (E : Value → Shared → Prop), Kp hB s'.heap → (∀ v tk, x.2 v → Q v { s' with toks := tk }) → wpAny (model prog w) A p.2 Q E s'
inductive PSps (knd : KeyKind prog w K) (A : Around) (hB : Heap) : List SP → List (KP K) → Prop where
  | nil : PSps knd A hB [] []
  | cons {p : SP} {x : KP K} {ps : List SP} {l : List (KP K)} (h : PSp knd A hB p x) (t : PSps knd A hB ps l) : PSps knd A hB (p :: ps) (x :: l)
theorem PSps.length {hB : Heap} {ps : List SP} {l : List (KP K)} (x : PSps knd A hB ps l) : ps.length = l.length := by
  induction x with
  | nil => rfl
  | cons r t ih => rw [List.length_cons, List.length_cons, ih]
theorem PSps.snoc {hB : Heap} {ps : List SP} {l : List (KP K)} {p : SP} {x : KP K} (a : PSps knd A hB ps l) (h : PSp knd A hB p x) : PSps knd A hB (ps ++ [p]) (l ++ [x]) := by
  induction a with
  | nil => exact .cons h .nil
  | cons r t ih => exact .cons r ih

theorem evalPairs_sp {hB : Heap} : ∀ {ps : List SP} {l : List (KP K)} {s : Shared} {Q : List (Value × Value) → Shared → Prop}, PSps knd A hB ps l → Kp hB s.heap → (∀ vs kvs tk, Carries knd vs kvs → Vals l kvs → Q vs { s with toks := tk }) → wpAny (model prog w) A (evalPairs ps) Q E s
  | _, _, s, Q, .nil, k, q => evalPairs_nil (q [] [] s.toks trivial .nil)
  | _, _, s, Q, .cons (p := (pk, pv)) (x := (kk, R)) h t, k, q =>
    evalPairs_cons (h.key s _ _ k fun kv tk hkv => h.val { s with toks := tk } _ _ k fun vv tk2 hvv => evalPairs_sp t k fun vs kvs tk3 hc hv => q _ ((kk, vv) :: kvs) tk3 ⟨hkv, rfl, hc⟩ (.cons hvv hv))

theorem stored_new {kvs : List (K × Value)} {k : K} {v : Value} (h : k ∉ kvs.map (·.1)) : stored kvs k v = kvs ++ [(k, v)] := by
  unfold stored
  rw [if_neg]
  rw [List.any_eq_true]
  rintro ⟨kv, hkv, he⟩
  exact h (List.mem_map.mpr ⟨kv, hkv, of_decide_eq_true he⟩)

/-- a sub-dict of a display -/
theorem subDict_sp {hB : Heap} {ps : List SP} {l : List (KP K)} {Q : Addr → Shared → Prop} (hsp : PSps knd A hB ps l) (nd : (l.map (·.1)).Nodup) (hl : l.length ≤ 17) (kB : Kp hB s.heap)
    (q : ∀ h' tk kvs, Vals l kvs → h'.DictOf knd s.heap.objs.size kvs → Kp s.heap h' → Q s.heap.objs.size { s with heap := h', toks := tk }) : wpAny (model prog w) A (subDict ps) Q E s := by
  have kp := Kp.push s.heap { cls := .type "dict", data := .dict #[] }
  by_cases hlen : ps.length ≤ 15
  · refine wpAny_subDict (knd := knd) hlen (evalPairs_sp (hB := hB) hsp (Kp.trans kB kp) fun vs kvs tk hc hv => ⟨kvs, hc, Heap.DictOf.new s.heap, fun h' hd hs => ?_⟩)
    rw [merged_nil_of_nodup kvs (by rw [hv.keys]; exact nd)] at hd
    refine q h' _ kvs hv hd fun b o e => ?_
    refine (hs.2 b fun e' => ?_).trans (kp b o e)
    rw [e', size_none] at e; cases e
  · unfold subDict
    refine wpAny_bind (wpAny_alloc ?_)
    refine wpAny_bind (wpAny_holding ?_)
    rw [if_neg hlen]
    refine wpAny_bind (wpAny_rule ?_)
    refine wpAny_bind ?_
    refine wpAny_forIn_list _ (fun (rest : List SP) _ s' => ∃ h' tk d1 l1 l2 kvs, s' = { s with heap := h', toks := tk } ∧ l = l1 ++ l2 ∧ PSps knd A hB rest l2 ∧ Vals l1 kvs ∧ h'.DictOf knd s.heap.objs.size kvs ∧ Kp s.heap h' ∧ d1 = ())
      _ ?_ ?_ _ _ ⟨_, s.toks, (), [], l, [], rfl, rfl, hsp, .nil, Heap.DictOf.new s.heap, kp, rfl⟩
    · rintro ⟨pk, pv⟩ rest b s' ⟨h', tk, d1, l1, l2, kvs, rfl, rfl, hr, hv, hd, kh, _⟩
      cases hr with
      | cons h t =>
        rename_i x l2
        refine wpAny_bind (h.key { s with heap := h', toks := tk } _ _ (Kp.trans kB kh) fun kv tk1 hkv => ?_)
        refine wpAny_bind (wpAny_holding (h.val { s with heap := h', toks := tk1 } _ _ (Kp.trans kB kh) fun vv tk2 hvv => ?_))
        have hn : x.1 ∉ kvs.map (·.1) := by
          rw [hv.keys]
          rw [List.map_append, List.nodup_append] at nd
          intro hm
          exact nd.2.2 x.1 hm x.1 (by simp) rfl
        have hk17 : kvs.length ≤ sizeLine := by
          rw [hv.length]
          rw [List.length_append] at hl
          exact Nat.le_trans (by omega) (by decide : 17 ≤ sizeLine)
        refine wpAny_bind (wpAny_holding (wpAny_dictSet_pairs (knd := knd) (k := x.1) hkv hd (fun h'' hd'' hs => ?_) hk17))
        rw [stored_new hn] at hd''
        refine wpAny_pure ⟨h'', tk2 + 1, (), l1 ++ [x], l2, kvs ++ [(x.1, vv)], rfl, by rw [List.append_assoc]; rfl, t, hv.append (.cons hvv .nil), hd'', fun b o e => ?_, rfl⟩
        refine (hs.2 b fun e' => ?_).trans (kh b o e)
        rw [e', size_none] at e; cases e
    · rintro b s' hRR
      refine LW.hideGoal fun GG hGG => ?_
      obtain ⟨h', tk, d1, l1, l2, kvs, rfl, rfl, hr, hv, hd, kh, _⟩ := hRR
      refine hGG ?_
      clear hGG GG
      cases hr
      rw [List.append_nil] at q
      exact wpAny_pure (wpAny_pure (q h' tk kvs hv hd kh))
end
end LW
namespace LW
section
variable {prog : Program} {w : World} {K : Type} [DecidableEq K] {knd : KeyKind prog w K} {A : Around} {E : Value → Shared → Prop} {s : Shared}

theorem sub_dict_dict : isSubtype (.type "dict") (.type "dict") = pure true := by rw [isSubtype_type]; kernel_rfl

theorem dictPut_new {d : Addr} {kvs : List (K × Value)} {k : K} {key v : Value} {Q : Unit → Shared → Prop} (hkey : knd.is k key = true) (hm : s.heap.DictOf knd d kvs) (hn : k ∉ kvs.map (·.1))
    (hQ : ∀ h', h'.DictOf knd d (kvs ++ [(k, v)]) → Heap.SameBut d s.heap h' → Q () { s with heap := h' }) (hsz : kvs.length ≤ sizeLine) :
    wpAny (model prog w) A (dictPut d (knd.hash k) key v) Q E s := by
  refine LW.hideGoal fun GG hGG => ?_
  obtain ⟨o, es, ep, ho, hc, hd, hk, hp, hnd⟩ := hm
  refine hGG ?_
  clear hGG GG
  have hes : es.size ≤ sizeLine := by
    have e1 := hp.length
    have e2 : es.toList.length = es.size := by simp
    omega
  unfold dictPut
  refine wpAny_bind (wpAny_dictFind_of hkey ho hd hk ?_)
  have hidx : (es.findIdx? fun e => knd.is k e.key) = kvs.findIdx? fun kv => decide (kv.1 = k) := by
    rw [← hp.findIdx k]; obtain ⟨l⟩ := es; simp
  have hnone : kvs.findIdx? (fun kv => decide (kv.1 = k)) = none := by
    rw [List.findIdx?_eq_none_iff]
    intro kv hkv
    exact decide_eq_false fun e => hn (List.mem_map.mpr ⟨kv, hkv, e⟩)
  rw [hidx, hnone]
  refine wpAny_updateDictKeys (hz := hes) ho hd (hQ _ ⟨_, _, ep + 1, Heap.get?_update_self _ ho (Obj.isFreed_of_dict (Obj.data_mapDictKeys hd _)), hc.mapDictKeys _, Obj.data_mapDictKeys hd _, hk.push hkey _, ?_, ?_⟩ (Heap.SameBut.update ..))
  · have := hp.append hkey (knd.hash k) v
    obtain ⟨l⟩ := es
    simpa using this
  · rw [List.map_append, List.nodup_append]
    refine ⟨hnd, by simp, ?_⟩
    intro a ha b hb
    simp only [List.map_cons, List.map_nil, List.mem_singleton] at hb
    subst hb
    exact fun e => hn (e ▸ ha)

theorem mergeMapping_sp {d o : Addr} {kvs more : List (K × Value)} {Q : Unit → Shared → Prop} (hdo : d ≠ o) (hoS : (o == sysModules) = false) (hd : s.heap.DictOf knd d kvs) (ho : s.heap.DictOf knd o more) (hne : kvs ≠ [])
    (nd : ((kvs ++ more).map (·.1)).Nodup) (hsz : kvs.length + more.length ≤ sizeLine)
    (hQ : ∀ h', h'.DictOf knd d (kvs ++ more) → Heap.SameBut d s.heap h' → Q () { s with heap := h' }) : wpAny (model prog w) A (mergeMapping d (.ref o) false) Q E s := by
  refine LW.hideGoal fun GG hGG => ?_
  obtain ⟨od, esd, epd, hod, hcd, hdd, hkd, hpd, hnd⟩ := id hd
  obtain ⟨oo, eso, epo, hoo, hco, hdo', hko, hpo, hno⟩ := id ho
  refine hGG ?_
  clear hGG GG
  have hT : s.TypeIs (.ref o) "dict" := ⟨oo, hoo, hco.1⟩
  have hlen : more.length = eso.size := by rw [← hpo.length]; simp
  have hemp : esd.isEmpty = false := by
    cases h : esd.isEmpty with
    | false => rfl
    | true =>
      have h0 : esd = #[] := Array.isEmpty_iff.mp h
      have := hpd.length; rw [h0] at this
      exact (hne (List.length_eq_zero_iff.mp (by simpa using this.symm))).elim
  unfold mergeMapping
  refine wpAny_bind (wpAny_isInstance hT sub_dict_dict ?_)
  rw [if_pos rfl]
  refine wpAny_bind (wpAny_specialOf hT F.slot_dict_iter.lookup (wpAny_bind (wpAny_pure ?_)))
  show wpAny _ _ (if (o == sysModules) = true then _ else _) _ _ _
  rw [if_neg (by rw [hoS]; exact Bool.false_ne_true)]
  refine wpAny_bind (wpAny_dictEntries hod hdd ?_)
  rw [if_neg (by rw [hemp]; exact Bool.false_ne_true)]
  refine wpAny_bind (wpAny_dictEntries hoo hdo' ?_)
  refine wpAny_bind (wpAny_dictEpoch hoo hdo' ?_)
  refine wpAny_bind ?_
  rw [List.range_eq_range']
  refine wpAny_forIn_list _ (fun (rest : List Nat) _ s' => ∃ h' i, s' = { s with heap := h' } ∧ rest = List.range' i (eso.size - i) ∧ i ≤ eso.size ∧ h'.DictOf knd d (kvs ++ more.take i) ∧ h'.get? o = some oo ∧ Heap.SameBut d s.heap h')
    _ ?_ ?_ _ _ ⟨s.heap, 0, rfl, by simp, Nat.zero_le _, by simpa using hd, hoo, Heap.SameBut.refl _ _⟩
  · rintro x rest b s' hRR
    refine LW.hideGoal fun GG hGG => ?_
    obtain ⟨h', i, rfl, hr, hi, hd', hoo', hs'⟩ := hRR
    have hlt : i < eso.size := by
      rcases Nat.lt_or_ge i eso.size with h | h
      · exact h
      · rw [Nat.sub_eq_zero_of_le h] at hr; simp at hr
    obtain ⟨rfl, hrest⟩ : x = i ∧ rest = List.range' (i + 1) (eso.size - (i + 1)) := by
      have e : eso.size - i = (eso.size - (i + 1)) + 1 := by omega
      rw [e, List.range'_succ] at hr
      injection hr with h1 h2
      exact ⟨h1, h2⟩
    refine hGG ?_
    clear hGG GG
    refine wpAny_bind (wpAny_dictEntries hoo' hdo' ?_)
    rw [Array.getElem?_eq_getElem hlt]
    refine LW.hideGoal fun GG hGG => ?_
    obtain ⟨kv, hkv⟩ : ∃ kv, more[x]? = some kv := ⟨more[x]'(by rw [hlen]; exact hlt), List.getElem?_eq_getElem _⟩
    obtain ⟨k, v⟩ := kv
    obtain ⟨hkey, hval⟩ := hpo.get? (e := eso[x]) (by simp [hlt]) hkv
    obtain ⟨k', hkey', hhash⟩ := hko eso[x] (Array.getElem_mem hlt)
    obtain rfl : k' = k := knd.inj _ _ _ hkey' hkey
    refine hGG ?_
    clear hGG GG
    have htake : more.take (x + 1) = more.take x ++ [(k', v)] := by rw [List.take_add_one, hkv]; rfl
    have hnew : k' ∉ (kvs ++ more.take x).map (·.1) := by
      have hsub : ((kvs ++ more.take (x + 1)).map (·.1)).Nodup := by
        refine nd.sublist (List.Sublist.map _ (List.Sublist.append (List.Sublist.refl _) (List.take_sublist _ _)))
      rw [htake, ← List.append_assoc, List.map_append, List.nodup_append] at hsub
      intro hm
      exact hsub.2.2 k' hm k' (by simp) rfl
    have hmx : (kvs ++ more.take x).length ≤ sizeLine := by
      rw [List.length_append, List.length_take]
      have := Nat.min_le_right x more.length
      omega
    refine wpAny_bind (wpAny_holding ?_)
    show wpAny _ _ (dictPut d eso[x].hash eso[x].key eso[x].val) _ _ _
    rw [hhash, hval]
    refine dictPut_new (s := { s with heap := h' }) hkey hd' hnew (fun h'' hd'' hs'' => ?_) hmx
    have hoo'' : h''.get? o = some oo := (hs''.2 o (Ne.symm hdo)).trans hoo'
    refine wpAny_bind (wpAny_dictEpoch hoo'' hdo' ?_)
    rw [if_neg (by simp)]
    exact wpAny_pure ⟨h'', x + 1, rfl, hrest, hlt, by rw [htake, ← List.append_assoc]; exact hd'', hoo'', hs'.trans hs''⟩
  · rintro b s' hRR
    refine LW.hideGoal fun GG hGG => ?_
    obtain ⟨h', i, rfl, hr, hi, hd', hoo', hs'⟩ := hRR
    refine hGG ?_
    clear hGG GG
    have hin : i = eso.size := by
      rcases Nat.lt_or_ge i eso.size with h | h
      · have e : eso.size - i = (eso.size - (i + 1)) + 1 := by omega
        rw [e, List.range'_succ] at hr; exact nomatch hr
      · exact Nat.le_antisymm hi h
    refine wpAny_pure (hQ h' ?_ hs')
    rw [hin, ← hlen, List.take_length] at hd'; exact hd'

noncomputable def MainOk (knd : KeyKind prog w K) (hB h : Heap) (main : Option Addr) (dl : List (KP K)) : Prop := match main with
  | none => dl = []
  | some d => hB.get? d = none ∧ dl ≠ [] ∧ ∃ kvs, Vals dl kvs ∧ h.DictOf knd d kvs
/-- a run of a display is laid -/
theorem flush_sp {hB : Heap} {ps : List SP} {l dl : List (KP K)} {main : Option Addr} {Q : Option Addr → Shared → Prop} (hsp : PSps knd A hB ps l) (hne : ps ≠ []) (hl : l.length ≤ 17) (nd : ((dl ++ l).map (·.1)).Nodup) (hsz : (dl ++ l).length ≤ sizeLine) (sm : ∃ o, s.heap.get? sysModules = some o) (kB : Kp hB s.heap)
    (hm : MainOk knd hB s.heap main dl)
    (q : ∀ d h' tk kvs, hB.get? d = none → Vals (dl ++ l) kvs → h'.DictOf knd d kvs → Kp hB h' → (∃ o, h'.get? sysModules = some o) → Q (some d) { s with heap := h', toks := tk }) : wpAny (model prog w) A (flushD ps main) Q E s := by
  have ndl : (l.map (·.1)).Nodup := by
    rw [List.map_append, List.nodup_append] at nd
    exact nd.2.1
  have he : ps.isEmpty = false := by cases ps with
    | nil => exact (hne rfl).elim
    | cons => rfl
  have fr : hB.get? s.heap.objs.size = none := by
    cases e : hB.get? s.heap.objs.size with
    | none => rfl
    | some o => have := kB _ _ e; rw [size_none] at this; cases this
  have smk : ∀ {h' : Heap}, Kp s.heap h' → ∃ o, h'.get? sysModules = some o := fun k => let ⟨o, e⟩ := sm; ⟨o, k _ _ e⟩
  unfold flushD
  rw [he]
  simp only [Bool.false_eq_true, if_false]
  cases main with
  | none =>
    obtain rfl : dl = [] := hm
    exact wpAny_bind (subDict_sp hsp ndl hl kB fun h' tk kvs hv hd kp => wpAny_pure (q _ h' tk kvs fr hv hd (Kp.trans kB kp) (smk kp)))
  | some d =>
    refine LW.hideGoal fun GG hGG => ?_
    obtain ⟨hdB, hdne, kvs, hv, hd⟩ := hm
    refine hGG ?_
    clear hGG GG
    refine wpAny_bind (wpAny_holding (subDict_sp hsp ndl hl kB fun h' tk kvs2 hv2 hd2 kp => ?_))
    have hdne2 : d ≠ s.heap.objs.size := by
      refine LW.hideGoal fun GG hGG => ?_
      obtain ⟨o, es, ep, ho, _⟩ := hd
      refine hGG ?_
      clear hGG GG
      exact Nat.ne_of_lt (Heap.lt_size ho)
    have hsn : (s.heap.objs.size == sysModules) = false := by
      refine beq_false_of_ne fun e => ?_
      obtain ⟨o, e'⟩ := sm; rw [← e, size_none] at e'; cases e'
    have hkn : kvs ≠ [] := fun e => by
      subst e
      cases hv; exact hdne rfl
    have hdk : h'.DictOf knd d kvs := by
      refine LW.hideGoal fun GG hGG => ?_
      obtain ⟨o, es, ep, ho, r⟩ := hd
      refine hGG ?_
      clear hGG GG
      exact ⟨o, es, ep, kp _ _ ho, r⟩
    refine wpAny_bind (wpAny_onRaise (wpAny_holding (mergeMapping_sp (s := { s with heap := h', toks := tk }) hdne2 hsn hdk hd2 hkn (by rw [(hv.append hv2).keys]; exact nd) (by
      have := (hv.append hv2).length
      rw [List.length_append] at this
      omega) fun h'' hd'' hs => wpAny_pure (q d h'' tk _ hdB (hv.append hv2) hd'' (fun b o e => ?_) ?_))))
    · exact (hs.2 b (fun e' => by rw [e', hdB] at e; cases e)).trans (kp b o (kB b o e))
    · obtain ⟨o, e⟩ := smk kp
      by_cases hb : sysModules = d
      · refine LW.hideGoal fun GG hGG => ?_
        obtain ⟨o', es, ep, ho', _⟩ := hd''
        refine hGG ?_
        clear hGG GG
        exact ⟨o', hb ▸ ho'⟩
      · exact ⟨o, (hs.2 _ hb).trans e⟩

theorem gather_sp {hB : Heap} : ∀ (items : List SP) (l rl dl : List (KP K)) (main : Option Addr) (run : List SP) (s : Shared) (Q : Option Addr × List SP → Shared → Prop), PSps knd A hB items l → PSps knd A hB run rl → rl.length < 17 → ((dl ++ rl ++ l).map (·.1)).Nodup → (dl ++ rl ++ l).length ≤ sizeLine → (∃ o, s.heap.get? sysModules = some o) → Kp hB s.heap →
    MainOk knd hB s.heap main dl →
    (∀ main' run' dl' rl' h' tk, dl' ++ rl' = dl ++ rl ++ l → PSps knd A hB run' rl' → rl'.length < 17 → (∃ o, h'.get? sysModules = some o) → Kp hB h' → MainOk knd hB h' main' dl' → Q (main', run') { s with heap := h', toks := tk }) →
    wpAny (model prog w) A (gather items main run) Q E s
  | [], l, rl, dl, main, run, s, Q, hi, hr, hrl, nd, hsz, sm, kB, hm, q => by
    cases hi
    unfold gather
    exact wpAny_pure (q main run dl rl s.heap s.toks (by simp) hr hrl sm kB hm)
  | p :: items, l, rl, dl, main, run, s, Q, hi, hr, hrl, nd, hsz, sm, kB, hm, q => by
    cases hi with
    | cons h t =>
      rename_i x l
      unfold gather
      have e1 : dl ++ rl ++ x :: l = dl ++ (rl ++ [x]) ++ l := by simp
      have hr' := hr.snoc h
      by_cases h17 : ((run ++ [p]).length == 17) = true
      · rw [if_pos h17]
        have hlen : (rl ++ [x]).length = 17 := by rw [← hr'.length]; exact eq_of_beq h17
        rw [e1] at nd hsz q
        have nd1 : ((dl ++ (rl ++ [x])).map (·.1)).Nodup := by rw [List.map_append, List.nodup_append] at nd; exact nd.1
        refine wpAny_bind (flush_sp (hB := hB) hr' (by simp) (Nat.le_of_eq hlen) nd1 (by rw [List.length_append] at hsz; omega) sm kB hm fun d h' tk kvs hdB hv hd kp sm' => ?_)
        refine gather_sp items l [] (dl ++ (rl ++ [x])) (some d) [] { s with heap := h', toks := tk } Q t .nil (by simp) (by rw [List.append_nil]; exact nd) (by rw [List.append_nil]; exact hsz) sm' kp ⟨hdB, by simp, kvs, hv, hd⟩ fun main' run' dl' rl' h'' tk' he hr'' hl'' sm'' kp'' hm'' => ?_
        exact q main' run' dl' rl' h'' tk' (by rw [he, List.append_nil]) hr'' hl'' sm'' kp'' hm''
      · rw [if_neg h17]
        have hlen : (rl ++ [x]).length < 17 := by
          have : (rl ++ [x]).length ≠ 17 := fun e => h17 (by rw [hr'.length, e]; rfl)
          rw [List.length_append, List.length_singleton] at this ⊢
          omega
        rw [e1] at nd hsz q
        exact gather_sp items l (rl ++ [x]) dl main (run ++ [p]) s Q t hr' hlen nd hsz sm kB hm q

/-- a dict display, of any length -/
theorem display_sp {ps : List SP} {l : List (KP K)} {Q : Value → Shared → Prop} (hsp : PSps knd A s.heap ps l) (hne : ps ≠ []) (nd : (l.map (·.1)).Nodup) (hsz : l.length ≤ sizeLine) (sm : ∃ o, s.heap.get? sysModules = some o)
    (q : ∀ d h' tk kvs, s.heap.get? d = none → Vals l kvs → h'.DictOf knd d kvs → Kp s.heap h' → Q (.ref d) { s with heap := h', toks := tk }) : wpAny (model prog w) A (dictDisplay (ps.map fun p => (some p.1, p.2))) Q E s := by
  rw [display_eq]
  have hl : l ≠ [] := fun e => by
    have := hsp.length
    rw [e] at this
    exact hne (List.length_eq_zero_iff.mp this)
  refine wpAny_bind (gather_sp (hB := s.heap) ps l [] [] none [] s _ hsp .nil (by simp) (by simpa using nd) (by simpa using hsz) sm Kp.rfl rfl fun main run dl rl h' tk he hr hrl sm' kp hm => ?_)
  simp only [List.nil_append] at he
  dsimp only
  by_cases hrun : run = []
  · subst hrun
    cases hr
    rw [List.append_nil] at he
    subst he
    unfold flushD
    simp only [List.isEmpty_nil, if_true]
    cases main with
    | none => exact (hl hm).elim
    | some d =>
      refine LW.hideGoal fun GG hGG => ?_
      obtain ⟨hdB, _, kvs, hv, hd⟩ := hm
      refine hGG ?_
      clear hGG GG
      exact wpAny_bind (wpAny_pure (wpAny_pure (q d h' tk kvs hdB hv hd kp)))
  · refine wpAny_bind (flush_sp (s := { s with heap := h', toks := tk }) (hB := s.heap) hr hrun (by omega) (by rw [he]; exact nd) (by rw [he]; exact hsz) sm' kp hm fun d h'' tk' kvs hdB hv hd kp' _ => ?_)
    rw [he] at hv
    exact wpAny_pure (q d h'' tk' kvs hdB hv hd kp')
end
end LW
namespace LW
noncomputable def constI? : PySem.Expr → Option Int
  | .Constant (.int i) _ _ => some i
  | _ => none
noncomputable def constS? : PySem.Expr → Option Str
  | .Constant (.str x) _ _ => some x
  | _ => none
noncomputable def name? : PySem.Expr → Option Str
  | .Name x _ => some x
  | _ => none

section
variable {prog : Program} {w : World} {K : Type} [DecidableEq K] {knd : KeyKind prog w K} {A : Around} {E : Value → Shared → Prop} {s : Shared} {env : Env}

theorem constI_eval {e : PySem.Expr} {i : Int} (h : constI? e = some i) {M : Model} {Q : Value → Shared → Prop} (q : ∀ tk, Q (.int i s.toks) { s with toks := tk }) : wpAny M A (eval e env) Q E s := by
  unfold constI? at h
  split at h
  · cases h; exact wpAny_Constant_int (q _)
  · cases h
theorem constS_eval {e : PySem.Expr} {x : Str} (h : constS? e = some x) {M : Model} {Q : Value → Shared → Prop} (q : ∀ tk, Q (.str x s.toks) { s with toks := tk }) : wpAny M A (eval e env) Q E s := by
  unfold constS? at h
  split at h
  · cases h; exact wpAny_Constant_str (q _)
  · cases h
theorem const_items {M : Model} {pos : Pos} : ∀ (es : List PySem.Expr) (is : List Int) (s : Shared) (Q : List Value → Shared → Prop), es.map constI? = is.map some → (∀ vs tk, IntsAre vs is → Q vs { s with toks := tk }) → wpAny M A (spliced (backTo pos (starEach es env))) Q E s
  | [], [], s, Q, h, q => wpAny_items_nil (q [] s.toks .nil)
  | [], i :: is, s, Q, h, q => by cases h
  | e :: es, [], s, Q, h, q => by cases h
  | e :: es, i :: is, s, Q, h, q => by
    rw [List.map_cons, List.map_cons, List.cons.injEq] at h
    refine wpAny_items_cons (constI_eval h.1 fun tk => const_items es is _ _ h.2 fun vs tk' hi => q _ tk' (.cons i _ hi)) ?_
    have := h.1
    unfold constI? at this
    split at this
    · rfl
    · cases this

theorem zip_sp {f : Sem Value → Sem Value} : ∀ (ks : List (Option PySem.Expr)) (vs : List PySem.Expr), (∀ k ∈ ks, k.isSome = true) → (evalEachOpt ks env).zip ((evalEach vs env).map f) = ((ks.zip vs).map fun x => (eval (x.1.getD default) env, f (eval x.2 env))).map fun p => (some p.1, p.2)
  | [], vs, h => by cases vs <;> rfl
  | k :: ks, [], h => by simp [evalEach, evalEachOpt]
  | k :: ks, v :: vs, h => by
    have hk := h k List.mem_cons_self
    obtain ⟨e, rfl⟩ := Option.isSome_iff_exists.mp hk
    simp only [evalEach, evalEachOpt, List.map_cons, List.zip_cons_cons, Option.getD_some]
    rw [zip_sp ks vs fun k hk => h k (List.mem_cons_of_mem _ hk)]
    rfl
noncomputable abbrev pairOf (env : Env) (pos : Pos) (x : Option PySem.Expr × PySem.Expr) : SP := (eval (x.1.getD default) env, do let v ← eval x.2 env; standAt pos; pure v)

/-- a dict display whose pairs are evaluated so -/
theorem dict_sp {ks : List (Option PySem.Expr)} {vs : List PySem.Expr} {pos : Pos} {l : List (KP K)} {Q : Value → Shared → Prop} (hk : ∀ k ∈ ks, k.isSome = true) (hsp : PSps knd A s.heap ((ks.zip vs).map (pairOf env pos)) l) (hne : l ≠ []) (nd : (l.map (·.1)).Nodup) (hsz : l.length ≤ sizeLine) (sm : ∃ o, s.heap.get? sysModules = some o)
    (q : ∀ d h' tk kvs, s.heap.get? d = none → Vals l kvs → h'.DictOf knd d kvs → Kp s.heap h' → Q (.ref d) { s with heap := h', toks := tk }) : wpAny (model prog w) A (eval (.Dict ks vs pos) env) Q E s := by
  rw [arm_eval_Dict, zip_sp (f := fun v => do let x ← v; standAt pos; pure x) ks vs hk]
  refine wpAny_bind (wpAny_standAt (display_sp hsp (fun e => ?_) nd hsz sm q))
  have := hsp.length
  rw [e] at this
  exact hne (List.length_eq_zero_iff.mp this.symm)
end

/-- the values of a table of numbers and texts -/
theorem psps_int {prog : Program} {w : World} {A : Around} {env : Env} {pos : Pos} {hB : Heap} : ∀ (l : List (Option PySem.Expr × PySem.Expr)) (r : List (Int × Str)), l.map (fun x => (x.1.bind constI?, constS? x.2)) = r.map (fun y => (some y.1, some y.2)) →
    PSps (PySem.intKind prog w) A hB (l.map (pairOf env pos)) (r.map fun y => (y.1, fun v => ∃ t, v = .str y.2 t))
  | [], [], h => .nil
  | [], y :: r, h => by cases h
  | x :: l, [], h => by cases h
  | (k, e) :: l, (i, x) :: r, h => by
    rw [List.map_cons, List.map_cons, List.cons.injEq] at h
    obtain ⟨h1, h2⟩ := Prod.mk.inj h.1
    obtain ⟨k', rfl, hk⟩ := Option.bind_eq_some_iff.mp h1
    exact .cons ⟨fun s' Q E kp q => constI_eval hk fun tk => q _ tk (show Value.isInt i (.int i s'.toks) = true by simp [Value.isInt]), fun s' Q E kp q => wpAny_bind (constS_eval h2 fun tk => wpAny_bind (wpAny_standAt (wpAny_pure (q _ tk ⟨_, rfl⟩))))⟩ (psps_int l r h.2)
end LW
namespace LW
theorem psps_tok {prog : Program} {w : World} {A : Around} {pos : Pos} {hB : Heap} {mg : Str → Option Value} (hg : hB.Ns mainGlobals mg) : ∀ (l : List (Option PySem.Expr × PySem.Expr)) (r : List (Str × Str × Int)), l.map (fun x => (x.1.bind constS?, name? x.2)) = r.map (fun y => (some y.1, some y.2.1)) →
    (∀ y ∈ r, (y.2.1 == ("__debug__" : Str)) = false ∧ ∃ t, mg y.2.1 = some (.int y.2.2 t)) → PSps (PySem.strKind prog w) A hB (l.map (pairOf env0 pos)) (r.map fun y => (y.1, fun v => ∃ t, v = .int y.2.2 t))
  | [], [], h, _ => .nil
  | [], y :: r, h, _ => by cases h
  | x :: l, [], h, _ => by cases h
  | (k, e) :: l, (x, n, i) :: r, h, hv => by
    rw [List.map_cons, List.map_cons, List.cons.injEq] at h
    refine LW.hideGoal fun GG hGG => ?_
    obtain ⟨h1, h2⟩ := Prod.mk.inj h.1
    obtain ⟨k', rfl, hk⟩ := Option.bind_eq_some_iff.mp h1
    obtain ⟨hd, t, ht⟩ := hv _ List.mem_cons_self
    refine hGG ?_
    clear hGG GG
    refine .cons ⟨fun s' Q E kp q => constS_eval hk fun tk => q _ tk (strKind_is prog w x s'.toks), fun s' Q E kp q => ?_⟩ (psps_tok hg l r h.2 fun y hy => hv y (List.mem_cons_of_mem _ hy))
    refine wpAny_bind ?_
    have h2' : name? e = some n := h2
    cases e with
    | Name nm p =>
      obtain rfl : nm = n := Option.some.inj h2'
      refine Calls.Name_module (env := env0) (by decide +kernel) rfl (Calls.loadGlobal_global (hg.keeps kp) ht ?_) hd
      exact wpAny_bind (wpAny_standAt (wpAny_pure (q _ s'.toks ⟨t, rfl⟩)))
    | _ => cases h2'

noncomputable def dictAt (i : Nat) : List (Option PySem.Expr × PySem.Expr) := match pB[i]? with | some (.Assign _ (.Dict ks vs _) _) => ks.zip vs | _ => []
noncomputable def dKeys (i : Nat) : List (Option PySem.Expr) := match pB[i]? with | some (.Assign _ (.Dict ks _ _) _) => ks | _ => []
noncomputable def dVals (i : Nat) : List PySem.Expr := match pB[i]? with | some (.Assign _ (.Dict _ vs _) _) => vs | _ => []
noncomputable def b3L : List (Int × Str) := ((dKeys 12).zip (dVals 12)).map fun x => ((x.1.bind constI?).getD 0, (constS? x.2).getD default)
theorem b3L_ok : ((dKeys 12).zip (dVals 12)).map (fun x => (x.1.bind constI?, constS? x.2)) = b3L.map (fun y => (some y.1, some y.2)) := by kernel_rfl
noncomputable def incB : List Int → Bool
  | a :: b :: r => decide (a < b) && incB (b :: r)
  | _ => true
theorem incB_lt : ∀ (l : List Int) (a : Int), incB (a :: l) = true → ∀ b ∈ l, a < b
  | [], a, _, b, hb => by cases hb
  | c :: r, a, h, b, hb => by
    unfold incB at h
    simp only [Bool.and_eq_true, decide_eq_true_eq] at h
    rcases memC hb with rfl | hb
    · exact h.1
    · exact Int.lt_trans h.1 (incB_lt r c h.2 b hb)
theorem incB_nodup : ∀ (l : List Int), incB l = true → l.Nodup
  | [], _ => List.nodup_nil
  | a :: l, h => by
    rw [List.nodup_cons]
    refine ⟨fun hm => absurd (incB_lt l a h a hm) (Int.lt_irrefl a), incB_nodup l ?_⟩
    cases l with
    | nil => rfl
    | cons b r => unfold incB at h; simp only [Bool.and_eq_true] at h; exact h.2
theorem b3L_inc : incB (b3L.map (·.1)) = true := by decide +kernel
theorem b3L_nd : (b3L.map (·.1)).Nodup := incB_nodup _ b3L_inc
theorem b3K_some : ∀ k ∈ dKeys 12, k.isSome = true := List.all_eq_true.mp (by decide +kernel : (dKeys 12).all (·.isSome) = true)
theorem b3L_len : b3L.length = 650 := by decide +kernel
noncomputable def b3 (k : Nat) : Option Str := b3L.lookup (k : Int)

noncomputable def intA? : Stmt → Option (Str × Int)
  | .Assign [.Name x _] (.Constant (.int i) _ _) _ => some (x, i)
  | _ => none
noncomputable def csL : List (Str × Int) := ((pB.drop 15).take 50).map fun st => (intA? st).getD default
theorem csL_ok : ((pB.drop 15).take 50).map intA? = csL.map some := by kernel_rfl
noncomputable def tkL : List (Str × Str × Int) := ((dKeys 65).zip (dVals 65)).map fun x => ((x.1.bind constS?).getD default, (name? x.2).getD default, (csL.lookup ((name? x.2).getD default)).getD 0)
theorem tkL_ok : ((dKeys 65).zip (dVals 65)).map (fun x => (x.1.bind constS?, name? x.2)) = tkL.map (fun y => (some y.1, some y.2.1)) := by kernel_rfl
theorem tkL_nd : (tkL.map (·.1)).Nodup := by decide +kernel
theorem tkL_con : ∀ y ∈ tkL, (y.2.1 == ("__debug__" : Str)) = false ∧ (y.2.1, y.2.2) ∈ csL ∧ 0 ≤ y.2.2 := by
  have : tkL.all (fun y => !(y.2.1 == ("__debug__" : Str)) && csL.contains (y.2.1, y.2.2) && decide (0 ≤ y.2.2)) = true := by decide +kernel
  intro y hy
  have h := List.all_eq_true.mp this y hy
  simp only [Bool.and_eq_true, Bool.not_eq_true', List.contains_iff_mem, decide_eq_true_eq] at h
  exact ⟨h.1.1, h.1.2, h.2⟩
theorem tkK_some : ∀ k ∈ dKeys 65, k.isSome = true := List.all_eq_true.mp (by decide +kernel : (dKeys 65).all (·.isSome) = true)
noncomputable def tk0 : List (Str × Nat) := tkL.map fun y => (y.1, y.2.2.toNat)
theorem tkL_len : tkL.length = 48 := by decide +kernel
end LW
namespace LW
noncomputable def okInts : List (Str × Int) → List (Str × Int) → List (Str × Nat) → List Str → Bool
  | [], _, _, _ => true
  | (x, i) :: r, cs, ds, os => !(cs.any fun y => y.1 == x) && !(ds.any fun y => y.1 == x) && !(os.any fun y => y == x) && (p0.main.scope.names.lookup x == some .local) && !(x == ("__builtins__" : Str)) && okInts r ((x, i) :: cs) ds os
section
variable {w : World} {A : Around} {E : Value → Shared → Prop} {Q : Flow → Shared → Prop} {s : Shared} {h₀ h h' : Heap} {mg₀ mg : Str → Option Value} {ps ps' : Array Value} {ns : List Str} {cs : List (Str × Int)} {ds : List (Str × Nat)} {os : List OFact} {x : Str} {v : Value}

theorem TI.ints {M : Model} : ∀ (l : List Stmt) (r : List (Str × Int)) (ns : List Str) (cs : List (Str × Int)) (mg : Str → Option Value) (s : Shared) (ss rest : List Stmt), TI h₀ s.heap mg₀ mg ps ns cs ds os → ss = l ++ rest → l.map intA? = r.map some → okInts r cs ds (os.map (·.1)) = true →
    (∀ h' mg' tk, TI h₀ h' mg₀ mg' ps ((r.map (·.1)).reverse ++ ns) (r.reverse ++ cs) ds os → wpAny M A (execs rest env0) Q E { s with heap := h', toks := tk }) → wpAny M A (execs ss env0) Q E s
  | [], [], ns, cs, mg, s, ss, rest, T, hb, _, _, k => by subst hb; exact k s.heap mg s.toks T
  | [], y :: r, ns, cs, mg, s, ss, rest, T, hb, h, _, k => by cases h
  | st :: l, [], ns, cs, mg, s, ss, rest, T, hb, h, _, k => by cases h
  | st :: l, (x, i) :: r, ns, cs, mg, s, ss, rest, T, hb, h, hok, k => by
    rw [List.map_cons, List.map_cons, List.cons.injEq] at h
    refine LW.hideGoal fun GG hGG => ?_
    obtain ⟨h1, h2⟩ := h
    unfold okInts at hok
    simp only [Bool.and_eq_true, Bool.not_eq_true', beq_iff_eq] at hok
    obtain ⟨⟨⟨⟨⟨o1, o2⟩, o3⟩, o4⟩, o5⟩, o6⟩ := hok
    refine hGG ?_
    clear hGG GG
    have hfr : freshB x cs ds os = true := by
      unfold freshB
      rw [o1, o2]
      rw [List.any_map] at o3
      simp only [Bool.not_false, Bool.true_and]
      have : (os.any fun y => y.1 == x) = false := o3
      rw [this]; rfl
    unfold intA? at h1
    split at h1
    · obtain ⟨rfl, rfl⟩ : _ ∧ _ := by simpa using h1
      refine TI.int T hb o4 hfr (fun h' mg' tk T' => ?_) (by simpa using o5)
      refine TI.ints l r _ _ mg' { s with heap := h', toks := tk } (l ++ rest) rest T' rfl h2 o6 fun h'' mg'' tk' T'' => ?_
      refine k h'' mg'' tk' ?_
      simp only [List.map_cons, List.reverse_cons, List.append_assoc, List.singleton_append]
      exact T''
    · cases h1

/-- the second table -/
noncomputable def B3G (l : List (Int × Str)) (w : World) (F : Heap) (v : Value) : Prop := ∃ a f, v = .ref a ∧ (a == sysModules) = false ∧ F.MapOf (intKind p0 w) a f ∧ ∀ k : Nat, match l.lookup (k : Int) with | none => f (k : Int) = none | some x => ∃ t, f (k : Int) = some (.str x t)
noncomputable abbrev B3F := B3G b3L
theorem B3G.mono {l : List (Int × Str)} {F F' : Heap} {v : Value} (k : Kp F F') (x : B3G l w F v) : B3G l w F' v := let ⟨a, f, h1, h2, h3, h4⟩ := x; ⟨a, f, h1, h2, MapOf.mono k h3, h4⟩
theorem TI.low (T : TI h₀ h mg₀ mg ps ns cs ds os) {d : Addr} (hd : h.get? d = none) : d ∉ [29, mainGlobals] := fun hm => by
  rcases memC hm with rfl | hm
  · refine LW.hideGoal fun GG hGG => ?_
    obtain ⟨o, vs, file, tf, flags, tg, inF, text, tt, op, _, _, _, _, _, _, _, e, _⟩ := T.main.code
    refine hGG ?_
    clear hGG GG
    rw [hd] at e; cases e
  · refine LW.hideGoal fun GG hGG => ?_
    obtain ⟨o, es, ep, e, _⟩ := T.main.g
    refine hGG ?_
    clear hGG GG
    rw [List.mem_singleton.mp hm, e] at hd; cases hd
theorem lookup_none_notin {β : Type} {k : Int} : ∀ {l : List (Int × β)}, l.lookup k = none → k ∉ l.map (·.1)
  | [], _, hm => by cases hm
  | (a, b) :: l, e, hm => by
    rw [List.lookup_cons] at e
    cases hb : k == a with
    | true => rw [hb] at e; cases e
    | false =>
      rw [hb] at e
      rcases List.mem_cons.mp hm with e' | hm
      · have : k = a := e'
        rw [this] at hb; simp at hb
      · exact lookup_none_notin e hm
theorem lookup_memI {β : Type} {k : Int} {x : β} : ∀ {l : List (Int × β)}, l.lookup k = some x → (k, x) ∈ l
  | [], e => by cases e
  | (a, b) :: l, e => by
    rw [List.lookup_cons] at e
    cases hb : k == a with
    | true => rw [hb] at e; cases e; rw [eq_of_beq hb]; exact List.mem_cons_self
    | false => rw [hb] at e; exact List.mem_cons_of_mem _ (lookup_memI e)
theorem b3_gen {ks : List (Option PySem.Expr)} {vs : List PySem.Expr} {l : List (Int × Str)} (hk : ∀ k ∈ ks, k.isSome = true) (hok : (ks.zip vs).map (fun x => (x.1.bind constI?, constS? x.2)) = l.map (fun y => (some y.1, some y.2))) (hnd : (l.map (·.1)).Nodup) (hne : l ≠ []) (hlen : l.length ≤ sizeLine)
    {pos : Pos} (T : TI h₀ s.heap mg₀ mg ps ns cs ds os) (sm : ∃ o, s.heap.get? sysModules = some o) {Q : Value → Shared → Prop} (q : ∀ v h₁ tk, Kp s.heap h₁ → B3G l w (TH h₁) v → Q v { s with heap := h₁, toks := tk }) :
    wpAny (model p0 w) A (eval (.Dict ks vs pos) env0) Q E s := by
  have nd : ((l.map fun y => (y.1, fun v => ∃ t, v = Value.str y.2 t)).map (·.1)).Nodup := by rw [List.map_map]; exact hnd
  refine dict_sp (knd := intKind p0 w) (l := l.map fun y => (y.1, fun v => ∃ t, v = .str y.2 t)) hk (psps_int _ _ hok) (fun e => hne (List.map_eq_nil_iff.mp e)) nd (by rw [List.length_map]; exact hlen) sm fun d h' tk kvs hd hv hD kp => ?_
  have hl := T.low hd
  refine LW.hideGoal fun GG hGG => ?_
  obtain ⟨o, es, ep, ho, hr⟩ := hD.mapOf
  refine hGG ?_
  clear hGG GG
  refine q _ h' tk kp ⟨d, valueAt kvs, rfl, ?_, ⟨o, es, ep, hid_get.mpr ⟨ho, hl⟩, hr⟩, fun k => ?_⟩
  · refine beq_false_of_ne fun e => ?_
    obtain ⟨o', e'⟩ := sm
    rw [← e, hd] at e'; cases e'
  · cases e : l.lookup (k : Int) with
    | none =>
      refine hv.none ?_
      rw [List.map_map]
      exact lookup_none_notin e
    | some x =>
      obtain ⟨v, e1, t, rfl⟩ := hv.at nd (k := (k : Int)) (R := fun v => ∃ t, v = .str x t) (List.mem_map.mpr ⟨(k, x), lookup_memI e, rfl⟩)
      exact ⟨t, e1⟩
theorem b3L_ne : b3L ≠ [] := fun e => by
  have := b3L_len
  rw [e] at this; cases this
theorem b3L_sz : b3L.length ≤ sizeLine := by rw [b3L_len]; decide
theorem repKs_tok {F : Heap} : ∀ {l : List (Str × Str × Int)} {kvs : List (Str × Value)}, (∀ y ∈ l, 0 ≤ y.2.2) → Vals (l.map fun y => (y.1, fun v => ∃ t, v = .int y.2.2 t)) kvs → RepKs p0 w F (tokP (l.map fun y => (y.1, y.2.2.toNat))) kvs
  | [], _, _, .nil => rfl
  | (x, n, i) :: l, _, hp, .cons ⟨t, e⟩ hv => ⟨_, _, rfl, ⟨t, by
      have : 0 ≤ i := hp _ List.mem_cons_self
      rw [e]
      show Value.int i t = .int ((i.toNat : Nat) : Int) t
      rw [Int.toNat_of_nonneg this]⟩, repKs_tok (fun y hy => hp y (List.mem_cons_of_mem _ hy)) hv⟩
theorem tk_gen {ks : List (Option PySem.Expr)} {vs : List PySem.Expr} {l : List (Str × Str × Int)} (hk : ∀ k ∈ ks, k.isSome = true) (hok : (ks.zip vs).map (fun x => (x.1.bind constS?, name? x.2)) = l.map (fun y => (some y.1, some y.2.1))) (hnd : (l.map (·.1)).Nodup) (hne : l ≠ []) (hlen : l.length ≤ sizeLine)
    (hc : ∀ y ∈ l, (y.2.1 == ("__debug__" : Str)) = false ∧ (y.2.1, y.2.2) ∈ cs ∧ 0 ≤ y.2.2)
    {pos : Pos} (T : TI h₀ s.heap mg₀ mg ps ns cs ds os) (sm : ∃ o, s.heap.get? sysModules = some o) {Q : Value → Shared → Prop} (q : ∀ v h₁ tk, Kp s.heap h₁ → RepV p0 w (TH h₁) (.dct (tokP (l.map fun y => (y.1, y.2.2.toNat)))) v → Q v { s with heap := h₁, toks := tk }) :
    wpAny (model p0 w) A (eval (.Dict ks vs pos) env0) Q E s := by
  have nd : ((l.map fun y => (y.1, fun v => ∃ t, v = Value.int y.2.2 t)).map (·.1)).Nodup := by rw [List.map_map]; exact hnd
  refine dict_sp (knd := strKind p0 w) (l := l.map fun y => (y.1, fun v => ∃ t, v = .int y.2.2 t)) hk (psps_tok T.main.g _ _ hok fun y hy => ⟨(hc y hy).1, T.con _ (hc y hy).2.1⟩) (fun e => hne (List.map_eq_nil_iff.mp e)) nd (by rw [List.length_map]; exact hlen) sm fun d h' tk kvs hd hv hD kp => ?_
  have hl := T.low hd
  refine LW.hideGoal fun GG hGG => ?_
  obtain ⟨o, es, ep, ho, hr⟩ := hD
  refine hGG ?_
  clear hGG GG
  refine q _ h' tk kp ⟨d, kvs, rfl, ?_, ⟨o, es, ep, hid_get.mpr ⟨ho, hl⟩, hr⟩, repKs_tok (fun y hy => (hc y hy).2.2) hv⟩
  refine beq_false_of_ne fun e => ?_
  obtain ⟨o', e'⟩ := sm
  rw [← e, hd] at e'; cases e'
theorem tkL_ne : tkL ≠ [] := fun e => by
  have := tkL_len
  rw [e] at this; cases this
theorem tkL_sz : tkL.length ≤ sizeLine := by rw [tkL_len]; decide
end
end LW
namespace LW
section
variable {w : World} {A : Around} {E : Value → Shared → Prop} {s : Shared} {h₀ h h' : Heap} {mg₀ mg mb : Str → Option Value} {ps ps' : Array Value} {ns : List Str} {cs : List (Str × Int)} {ds : List (Str × Nat)} {os : List OFact} {x : Str} {v : Value}

noncomputable def rangeL (a : Int) (n : Nat) : List Int := (List.range n).map fun (i : Nat) => a + (i : Int)
theorem intsAre_items {a : Int} : ∀ {n : Nat} {vs : List Value} {k : Nat}, vs.length = n → (∀ (i : Nat) (v : Value), vs[i]? = some v → ∃ t, v = .int (a + ((k + i : Nat) : Int)) t) → IntsAre vs ((List.range' k n).map fun (i : Nat) => a + (i : Int))
  | 0, [], k, _, _ => .nil
  | 0, v :: vs, k, h, _ => by cases h
  | n + 1, [], k, h, _ => by cases h
  | n + 1, v :: vs, k, h, hv => by
    rw [List.range'_succ, List.map_cons]
    obtain ⟨t, rfl⟩ := hv 0 v rfl
    refine .cons _ t (intsAre_items (by simpa using h) fun i v hi => ?_)
    obtain ⟨t, e⟩ := hv (i + 1) v (by simpa using hi)
    exact ⟨t, by rw [e, show k + (i + 1) = k + 1 + i by omega]⟩
theorem IntsAre.app : ∀ {vs us : List Value} {is js : List Int}, IntsAre vs is → IntsAre us js → IntsAre (vs ++ us) (is ++ js)
  | _, _, _, _, .nil, h => h
  | _, _, _, _, .cons n t h', h => .cons n t (IntsAre.app h' h)
theorem IntsAre.len : ∀ {vs : List Value} {is : List Int}, IntsAre vs is → vs.length = is.length
  | _, _, .nil => rfl
  | _, _, .cons n t h => by rw [List.length_cons, List.length_cons, IntsAre.len h]
theorem getD_range (l : List Int) : (List.range l.length).map (fun i => l.getD i 0) = l := by
  refine List.ext_getElem? fun i => ?_
  rw [List.getElem?_map]
  by_cases hi : i < l.length
  · rw [List.getElem?_range hi, Option.map_some, List.getElem?_eq_getElem hi, List.getD_eq_getElem?_getD, List.getElem?_eq_getElem hi]; rfl
  · rw [List.getElem?_eq_none (by simpa using hi), List.getElem?_eq_none (by omega)]; rfl

/-- the first table -/
noncomputable def SetF (l : List Int) (w : World) (F : Heap) (v : Value) : Prop := ∃ a n Sf, v = .ref a ∧ F.SetOf (intKind p0 w) a Sf n ∧ ∀ k : Nat, Sf (k : Int) = l.any (· == (k : Int))
theorem SetF.mono {l : List Int} {F F' : Heap} {v : Value} (k : Kp F F') (x : SetF l w F v) : SetF l w F' v := let ⟨a, n, f, h1, h2, h3⟩ := x; ⟨a, n, f, h1, SetOf.mono k h2, h3⟩

theorem ints2 {us : List Value} {a b : Int} (h : IntsAre us [a, b]) : ∃ ta tb, us = [.int a ta, .int b tb] := by
  cases h with
  | cons _ ta h =>
    cases h with
    | cons _ tb h => cases h; exact ⟨ta, tb, rfl⟩

theorem set_eval {es : List PySem.Expr} {is : List Int} {a b : Int} {n : Nat} {e1 e2 : PySem.Expr} {sp lp lp2 rp p2 p3 bp pos : Pos} {Q : Value → Shared → Prop} (hes : es.map constI? = is.map some) (ha : constI? e1 = some a) (hb : constI? e2 = some b) (hsmall : Builtin.Range.small a b 1 = true) (hn : Builtin.Range.rangeSize a b 1 = n) (hlen : is.length + n + 1 < scanBound)
    (hh : A.handled = none) (T : TI h₀ s.heap mg₀ mg ps ns cs ds os) (hmb : s.heap.Ns builtinsNs mb) (b1 : mg "set" = none ∧ mb "set" = some (.type "set")) (b2 : mg "list" = none ∧ mb "list" = some (.type "list")) (b3 : mg "range" = none ∧ mb "range" = some (.type "range"))
    (q : ∀ v h₁ tk, Kp s.heap h₁ → SetF (is ++ rangeL a n) w (TH h₁) v → Q v { s with heap := h₁, toks := tk })
    (hse : starEach [.BinOp (.List es lp) .Add (.Call (.Name "list" lp2) [.Call (.Name "range" rp) [e1, e2] [] p2] [] p3) bp] env0 = [(false, eval (.BinOp (.List es lp) .Add (.Call (.Name "list" lp2) [.Call (.Name "range" rp) [e1, e2] [] p2] [] p3) bp) env0)] := by rfl)
    (hs2 : starEach [.Call (.Name "range" rp) [e1, e2] [] p2] env0 = [(false, eval (.Call (.Name "range" rp) [e1, e2] [] p2) env0)] := by rfl)
    (hs1 : starEach [e1, e2] env0 = (false, eval e1 env0) :: starEach [e2] env0 := by rfl) (hplain : (backTo p2 (starEach [e2] env0)).any (·.1) = false := by rfl) :
    wpAny (model p0 w) A (eval (.Call (.Name "set" sp) [.BinOp (.List es lp) .Add (.Call (.Name "list" lp2) [.Call (.Name "range" rp) [e1, e2] [] p2] [] p3) bp] [] pos) env0) Q E s := by
  have hg := T.main.g
  have hsb : scanBound ≤ sizeLine := by decide
  refine Call_name1 hse (Calls.Name_module (env := env0) (by decide +kernel) rfl (Calls.loadGlobal_builtin hg b1.1 hmb b1.2 ?_))
  refine PySem.callWith_type1 (wpAny_BinOp ?_)
  refine wpAny_List (const_items es is s _ hes fun vs tk hvs => ⟨by rw [IntsAre.len hvs]; omega, ?_⟩)
  generalize hH1 : s.heap.push { cls := .type "list", data := .seq vs.toArray } = h1
  have k1 : Kp s.heap h1 := hH1 ▸ Kp.push _ _
  have g1 : h1.get? s.heap.objs.size = some { cls := .type "list", data := .seq vs.toArray } := hH1 ▸ Heap.get?_push_size _ rfl
  refine Call_name1 hs2 (Calls.Name_module (env := env0) (by decide +kernel) rfl (Calls.loadGlobal_builtin (s := { s with heap := h1, toks := tk }) (hg.keeps k1) b2.1 (hmb.keeps k1) b2.2 ?_))
  refine PySem.callWith_type1 ?_
  rw [arm_eval_Call_Name']
  refine wpAny_bind (Calls.Name_module (env := env0) (by decide +kernel) rfl (Calls.loadGlobal_builtin (s := { s with heap := h1, toks := tk }) (hg.keeps k1) b3.1 (hmb.keeps k1) b3.2 ?_))
  refine Pv.callWith_type1 (const_items [e1, e2] [a, b] { s with heap := h1, toks := tk } _ (by rw [List.map_cons, List.map_cons, ha, hb]; rfl) fun us tk2 hus => ?_) hs1 hplain
  obtain ⟨ta, tb, rfl⟩ := ints2 hus
  refine call_range_2 ?_
  have kp := Kp.push h1 { cls := .type "range", data := .fields #[.int a ta, .int b tb, .int 1 tk2] }
  have hrg := IsRange.new h1 a b 1 ta tb tk2
  refine call_list_range (s := { s with heap := h1.push { cls := .type "range", data := .fields #[.int a ta, .int b tb, .int 1 tk2] }, toks := tk2 + 1 }) hh hrg hsmall hn (Nat.le_trans (by omega : n ≤ scanBound) (by decide)) fun h2 tk3 acc c k2 hS hacc => ?_
  have g2 : h2.get? s.heap.objs.size = some { cls := .type "list", data := .seq vs.toArray } := k2 _ _ (kp _ _ g1)
  have hacl : acc.toList.length = n := by rw [Array.length_toList]; exact hacc.1
  have hints : IntsAre acc.toList (rangeL a n) := by
    unfold rangeL
    rw [List.range_eq_range']
    refine intsAre_items hacl fun i v hv => ?_
    obtain ⟨t, e⟩ := hacc.2 i v (by rw [← Array.getElem?_toList]; exact hv)
    exact ⟨t, by rw [e, Int.mul_one, Nat.zero_add]⟩
  refine P.add_list (s := { s with heap := h2, toks := tk3 }) (items := vs.toArray) (items2 := acc) g2 hS ?_ (by rw [List.size_toArray, IntsAre.len hvs, hacc.1]; omega)
  have kk : Kp s.heap h2 := Kp.trans k1 (Kp.trans kp k2)
  generalize hH3 : h2.push { cls := .type "list", data := .seq (vs.toArray ++ acc) } = h3
  have k3 : Kp h2 h3 := hH3 ▸ Kp.push _ _
  have g3 : h3.get? h2.objs.size = some { cls := .type "list", data := .seq (vs ++ acc.toList).toArray } := by
    rw [← hH3]
    have := Heap.get?_push_size (h := h2) (o := { cls := .type "list", data := .seq (vs.toArray ++ acc) }) rfl
    rw [this]
    congr 3
    apply Array.toList_inj.mp
    simp
  have hall := IntsAre.app hvs hints
  have hL3 : h3.IsList h2.objs.size (vs ++ acc.toList).toArray := ⟨_, g3, rfl, 0, rfl⟩
  have hsz3 : (vs ++ acc.toList).toArray.size = (is ++ rangeL a n).length := by rw [List.size_toArray, IntsAre.len hall]
  refine call_set_list (s := { s with heap := h3, toks := tk3 }) (ns := is ++ rangeL a n) hh hL3 (by simpa using hall) ?_ fun h4 tk4 hS4 hk4 => ?_
  · rw [hsz3, List.length_append]
    unfold rangeL
    rw [List.length_map, List.length_range]; omega
  · have fr : s.heap.get? h3.objs.size = none := by
      cases e : s.heap.get? h3.objs.size with
      | none => rfl
      | some o => have := k3 _ _ (kk _ _ e); rw [size_none] at this; cases this
    have hl := T.low fr
    refine LW.hideGoal fun GG hGG => ?_
    obtain ⟨o, es', ep, t, ho, hr⟩ := hS4
    refine hGG ?_
    clear hGG GG
    refine q _ h4 tk4 (fun b o e => hk4 b o (Heap.lt_size (k3 _ _ (kk _ _ e))) (k3 _ _ (kk _ _ e))) ⟨h3.objs.size, _, _, rfl, ⟨o, es', ep, t, hid_get.mpr ⟨ho, hl⟩, hr⟩, fun k => ?_⟩
    rw [firstMet_any, hsz3, getD_range]
end
end LW
namespace LW
noncomputable def b1L : List Int := [173, 847, 6150, 6155, 6156, 6157, 8203, 8204, 8205, 8288, 65279] ++ rangeL 65024 16
noncomputable def TokF (w : World) (F : Heap) (v : Value) : Prop := RepV p0 w F (.dct (tokP tk0)) v
noncomputable def dsF : List (Str × Nat) := [("law", 82), ("_law_counts", 81), ("_law_apart", 80), ("_law_ways", 79), ("_law_placed", 78), ("_law_plain", 77), ("_law_done", 76), ("_law_deed", 75), ("_law_cut", 74), ("_law_prepared", 73), ("_law_signs", 72), ("_law_octets", 71), ("_law_codes", 70), ("_law_lines", 69), ("ISEOF", 67), ("ISNONTERMINAL", 66), ("map_table_b3", 13), ("in_table_b1", 11)]
noncomputable def osF (w : World) : List OFact := [("EXACT_TOKEN_TYPES", TokF w), ("b3_exceptions", B3F w), ("b1_set", SetF b1L w)]
noncomputable def nsF : List Str := (["law", "_law_counts", "_law_apart", "_law_ways", "_law_placed", "_law_plain", "_law_done", "_law_deed", "_law_cut", "_law_prepared", "_law_signs", "_law_octets", "_law_codes", "_law_lines", "__name__", "ISEOF", "ISNONTERMINAL", "EXACT_TOKEN_TYPES"] : List Str) ++ ((csL.map (·.1)).reverse ++ (["__name__", "map_table_b3", "b3_exceptions", "in_table_b1", "b1_set"] : List Str))
theorem st66 : pB.drop 66 = .FunctionDef "ISNONTERMINAL" (dA 66) (dB 66) [] none [] (dS 66) none "ISNONTERMINAL" ⟨173, 0, 174, 25⟩ :: pB.drop 67 := by kernel_rfl
theorem st67 : pB.drop 67 = .FunctionDef "ISEOF" (dA 67) (dB 67) [] none [] (dS 67) none "ISEOF" ⟨175, 0, 176, 25⟩ :: pB.drop 68 := by kernel_rfl
theorem st69 : pB.drop 69 = .FunctionDef "_law_lines" (dA 69) (dB 69) [] none [] (dS 69) none "_law_lines" ⟨178, 0, 182, 108⟩ :: pB.drop 70 := by kernel_rfl
theorem st70 : pB.drop 70 = .FunctionDef "_law_codes" (dA 70) (dB 70) [] none [] (dS 70) none "_law_codes" ⟨183, 0, 202, 16⟩ :: pB.drop 71 := by kernel_rfl
theorem st71 : pB.drop 71 = .FunctionDef "_law_octets" (dA 71) (dB 71) [] none [] (dS 71) none "_law_octets" ⟨203, 0, 212, 17⟩ :: pB.drop 72 := by kernel_rfl
theorem st72 : pB.drop 72 = .FunctionDef "_law_signs" (dA 72) (dB 72) [] none [] (dS 72) none "_law_signs" ⟨213, 0, 220, 20⟩ :: pB.drop 73 := by kernel_rfl
theorem st73 : pB.drop 73 = .FunctionDef "_law_prepared" (dA 73) (dB 73) [] none [] (dS 73) none "_law_prepared" ⟨221, 0, 222, 83⟩ :: pB.drop 74 := by kernel_rfl
theorem st74 : pB.drop 74 = .FunctionDef "_law_cut" (dA 74) (dB 74) [] none [] (dS 74) none "_law_cut" ⟨223, 0, 231, 20⟩ :: pB.drop 75 := by kernel_rfl
theorem st75 : pB.drop 75 = .FunctionDef "_law_deed" (dA 75) (dB 75) [] none [] (dS 75) none "_law_deed" ⟨232, 0, 240, 23⟩ :: pB.drop 76 := by kernel_rfl
theorem st76 : pB.drop 76 = .FunctionDef "_law_done" (dA 76) (dB 76) [] none [] (dS 76) none "_law_done" ⟨241, 0, 264, 16⟩ :: pB.drop 77 := by kernel_rfl
theorem st77 : pB.drop 77 = .FunctionDef "_law_plain" (dA 77) (dB 77) [] none [] (dS 77) none "_law_plain" ⟨265, 0, 280, 16⟩ :: pB.drop 78 := by kernel_rfl
theorem st78 : pB.drop 78 = .FunctionDef "_law_placed" (dA 78) (dB 78) [] none [] (dS 78) none "_law_placed" ⟨281, 0, 283, 122⟩ :: pB.drop 79 := by kernel_rfl
theorem st79 : pB.drop 79 = .FunctionDef "_law_ways" (dA 79) (dB 79) [] none [] (dS 79) none "_law_ways" ⟨284, 0, 292, 15⟩ :: pB.drop 80 := by kernel_rfl
theorem st80 : pB.drop 80 = .FunctionDef "_law_apart" (dA 80) (dB 80) [] none [] (dS 80) none "_law_apart" ⟨293, 0, 299, 16⟩ :: pB.drop 81 := by kernel_rfl
theorem st81 : pB.drop 81 = .FunctionDef "_law_counts" (dA 81) (dB 81) [] none [] (dS 81) none "_law_counts" ⟨300, 0, 304, 17⟩ :: pB.drop 82 := by kernel_rfl
theorem st82 : pB.drop 82 = .FunctionDef "law" (dA 82) (dB 82) [] none [] (dS 82) none "law" ⟨305, 0, 321, 15⟩ :: pB.drop 83 := by kernel_rfl
theorem st11 : pB.drop 11 = .FunctionDef "in_table_b1" (dA 11) (dB 11) [] none [] (dS 11) none "in_table_b1" ⟨113, 0, 114, 30⟩ :: pB.drop 12 := by kernel_rfl
theorem st13 : pB.drop 13 = .FunctionDef "map_table_b3" (dA 13) (dB 13) [] none [] (dS 13) none "map_table_b3" ⟨116, 0, 120, 23⟩ :: pB.drop 14 := by kernel_rfl
theorem st10 : pB.drop 10 = .Assign [.Name "b1_set" ⟨112, 0, 112, 6⟩] (.Call (.Name "set" ⟨112, 9, 112, 12⟩) [.BinOp (.List [.Constant (.int 173) 0 ⟨112, 14, 112, 17⟩, .Constant (.int 847) 0 ⟨112, 19, 112, 22⟩, .Constant (.int 6150) 0 ⟨112, 24, 112, 28⟩, .Constant (.int 6155) 0 ⟨112, 30, 112, 34⟩, .Constant (.int 6156) 0 ⟨112, 36, 112, 40⟩, .Constant (.int 6157) 0 ⟨112, 42, 112, 46⟩, .Constant (.int 8203) 0 ⟨112, 48, 112, 52⟩, .Constant (.int 8204) 0 ⟨112, 54, 112, 58⟩, .Constant (.int 8205) 0 ⟨112, 60, 112, 64⟩, .Constant (.int 8288) 0 ⟨112, 66, 112, 70⟩, .Constant (.int 65279) 0 ⟨112, 72, 112, 77⟩] ⟨112, 13, 112, 78⟩) .Add (.Call (.Name "list" ⟨112, 81, 112, 85⟩) [.Call (.Name "range" ⟨112, 86, 112, 91⟩) [.Constant (.int 65024) 0 ⟨112, 92, 112, 97⟩, .Constant (.int 65040) 0 ⟨112, 99, 112, 104⟩] [] ⟨112, 86, 112, 105⟩] [] ⟨112, 81, 112, 106⟩) ⟨112, 13, 112, 106⟩] [] ⟨112, 9, 112, 107⟩) ⟨112, 0, 112, 107⟩ :: pB.drop 11 := by kernel_rfl
theorem st12 : pB.drop 12 = .Assign [.Name "b3_exceptions" ⟨115, 0, 115, 13⟩] (.Dict (dKeys 12) (dVals 12) ⟨115, 16, 115, 8704⟩) ⟨115, 0, 115, 8704⟩ :: pB.drop 13 := by kernel_rfl
theorem st65 : pB.drop 65 = .Assign [.Name "EXACT_TOKEN_TYPES" ⟨172, 0, 172, 17⟩] (.Dict (dKeys 65) (dVals 65) ⟨172, 20, 172, 757⟩) ⟨172, 0, 172, 757⟩ :: pB.drop 66 := by kernel_rfl
theorem st14 : pB.drop 14 = .Assign [.Name "__name__" ⟨121, 0, 121, 8⟩] (.Constant (.str "cpy313.token") 0 ⟨121, 11, 121, 25⟩) ⟨121, 0, 121, 25⟩ :: pB.drop 15 := by kernel_rfl
theorem st68 : pB.drop 68 = .Assign [.Name "__name__" ⟨177, 0, 177, 8⟩] (.Constant (.str "law_wf0111_01") 0 ⟨177, 11, 177, 26⟩) ⟨177, 0, 177, 26⟩ :: pB.drop 69 := by kernel_rfl
theorem st15 : pB.drop 15 = (pB.drop 15).take 50 ++ pB.drop 65 := by kernel_rfl
theorem bd9 : bd.drop 9 = pB.drop 10 := by kernel_rfl
section
variable {w : World} {A : Around} {E : Value → Shared → Prop} {s : Shared} {h₀ h h' : Heap} {mg₀ mg mb : Str → Option Value} {ps ps' : Array Value} {ns : List Str} {cs : List (Str × Int)} {ds : List (Str × Nat)} {os : List OFact} {x : Str} {v : Value}
theorem TI.b3 {M : Model} {Q : Flow → Shared → Prop} {ss rest : List Stmt} {p1 p2 p3 : Pos} {kk : List (Option PySem.Expr)} {vv : List PySem.Expr} (hk : kk = dKeys 12) (hv : vv = dVals 12) (T : TI h₀ s.heap mg₀ mg ps ns cs ds os) (hb : ss = .Assign [.Name "b3_exceptions" p1] (.Dict kk vv p2) p3 :: rest)
    (sm : ∃ o, s.heap.get? sysModules = some o) (hx : freshB "b3_exceptions" cs ds os = true)
    (k : ∀ h' mg' tk, TI h₀ h' mg₀ mg' ps ("b3_exceptions" :: ns) cs ds (("b3_exceptions", B3F w) :: os) → wpAny (model p0 w) A (execs rest env0) Q E { s with heap := h', toks := tk }) : wpAny (model p0 w) A (execs ss env0) Q E s := by
  have key : ∀ (Q' : Value → Shared → Prop), (∀ v h₁ tk, Kp s.heap h₁ → B3F w (TH h₁) v → Q' v { s with heap := h₁, toks := tk }) → wpAny (model p0 w) A (eval (.Dict kk vv p2) env0) Q' E s := by
    have h1 : ∀ k ∈ kk, k.isSome = true := by rw [hk]; exact b3K_some
    have h2 : (kk.zip vv).map (fun x => (x.1.bind constI?, constS? x.2)) = b3L.map (fun y => (some y.1, some y.2)) := by rw [hk, hv]; exact b3L_ok
    have h3 := b3L_nd
    have h4 := b3L_ne
    have h5 := b3L_sz
    show ∀ (Q' : Value → Shared → Prop), (∀ v h₁ tk, Kp s.heap h₁ → B3G b3L w (TH h₁) v → Q' v { s with heap := h₁, toks := tk }) → wpAny (model p0 w) A (eval (.Dict kk vv p2) env0) Q' E s
    clear hk hv k
    generalize b3L = l at h2 h3 h4 h5 ⊢
    exact fun Q' q => b3_gen h1 h2 h3 h4 h5 T sm q
  clear hk hv
  generalize hF : B3F w = F at key k
  exact TI.obj (P := F) T hb (by kernel_rfl) hx (fun F1 F2 v kF => by subst hF; exact B3G.mono kF) key k
theorem TI.tok {M : Model} {Q : Flow → Shared → Prop} {ss rest : List Stmt} {p1 p2 p3 : Pos} {kk : List (Option PySem.Expr)} {vv : List PySem.Expr} (hk : kk = dKeys 65) (hv : vv = dVals 65) (T : TI h₀ s.heap mg₀ mg ps ns (csL.reverse ++ []) ds os) (hb : ss = .Assign [.Name "EXACT_TOKEN_TYPES" p1] (.Dict kk vv p2) p3 :: rest)
    (sm : ∃ o, s.heap.get? sysModules = some o) (hx : freshB "EXACT_TOKEN_TYPES" (csL.reverse ++ []) ds os = true)
    (k : ∀ h' mg' tk, TI h₀ h' mg₀ mg' ps ("EXACT_TOKEN_TYPES" :: ns) (csL.reverse ++ []) ds (("EXACT_TOKEN_TYPES", TokF w) :: os) → wpAny (model p0 w) A (execs rest env0) Q E { s with heap := h', toks := tk }) : wpAny (model p0 w) A (execs ss env0) Q E s := by
  have key : ∀ (Q' : Value → Shared → Prop), (∀ v h₁ tk, Kp s.heap h₁ → TokF w (TH h₁) v → Q' v { s with heap := h₁, toks := tk }) → wpAny (model p0 w) A (eval (.Dict kk vv p2) env0) Q' E s := by
    have h1 : ∀ k ∈ kk, k.isSome = true := by rw [hk]; exact tkK_some
    have h2 : (kk.zip vv).map (fun x => (x.1.bind constS?, name? x.2)) = tkL.map (fun y => (some y.1, some y.2.1)) := by rw [hk, hv]; exact tkL_ok
    have h3 := tkL_nd
    have h4 := tkL_ne
    have h5 := tkL_sz
    have h6 := tkL_con
    show ∀ (Q' : Value → Shared → Prop), (∀ v h₁ tk, Kp s.heap h₁ → RepV p0 w (TH h₁) (.dct (tokP (tkL.map fun y => (y.1, y.2.2.toNat)))) v → Q' v { s with heap := h₁, toks := tk }) → wpAny (model p0 w) A (eval (.Dict kk vv p2) env0) Q' E s
    clear hk hv k hx
    generalize tkL = l at h2 h3 h4 h5 h6 ⊢
    generalize csL = c at h6 T
    exact fun Q' q => tk_gen h1 h2 h3 h4 h5 (fun y hy => ⟨(h6 y hy).1, List.mem_append_left _ (List.mem_reverse.mpr (h6 y hy).2.1), (h6 y hy).2.2⟩) T sm q
  have hm : ∀ F1 F2 v, Kp F1 F2 → TokF w F1 v → TokF w F2 v := fun F1 F2 v k => RepV.mono k _ _
  clear hk hv
  generalize TokF w = F at key k hm
  generalize csL.reverse ++ [] = c at T hx k
  exact TI.obj (P := F) T hb (by kernel_rfl) hx hm key k
end

theorem rest_walk0 {w : World} {A : Around} {s : Shared} {mg mb : Str → Option Value} {ps : Array Value} {Q : Flow → Shared → Prop} {E : Value → Shared → Prop} (hh : A.handled = none) (hps : ps = #[Value.int 6 0, Value.int 0 0, Value.ref 53, Value.int 15 0, Value.int 0 0, Value.ref 60, Value.int 103 0, Value.int 0 0, Value.ref 185])
    (T : TI s.heap s.heap mg mg ps [] [] [] []) (hmb : s.heap.Ns builtinsNs mb) (sm : ∃ o, s.heap.get? sysModules = some o) (b1 : mg "set" = none ∧ mb "set" = some (.type "set")) (b2 : mg "list" = none ∧ mb "list" = some (.type "list")) (b3 : mg "range" = none ∧ mb "range" = some (.type "range"))
    (k : ∀ h' mg' ps' tk, TI s.heap h' mg mg' ps' nsF (csL.reverse ++ []) dsF (osF w) → Q .next { s with heap := h', toks := tk })
    {t10 t11 t12 t13 t14 t15 t65 t66 t67 t68 t69 t70 t71 t72 t73 t74 t75 t76 t77 t78 t79 t80 t81 t82 t83 l15 : List Stmt} {k12 k65 : List (Option PySem.Expr)} {v12 v65 : List PySem.Expr} (hk12 : k12 = dKeys 12) (hv12 : v12 = dVals 12) (hk65 : k65 = dKeys 65) (hv65 : v65 = dVals 65)
    (st10 : t10 = .Assign [.Name "b1_set" ⟨112, 0, 112, 6⟩] (.Call (.Name "set" ⟨112, 9, 112, 12⟩) [.BinOp (.List [.Constant (.int 173) 0 ⟨112, 14, 112, 17⟩, .Constant (.int 847) 0 ⟨112, 19, 112, 22⟩, .Constant (.int 6150) 0 ⟨112, 24, 112, 28⟩, .Constant (.int 6155) 0 ⟨112, 30, 112, 34⟩, .Constant (.int 6156) 0 ⟨112, 36, 112, 40⟩, .Constant (.int 6157) 0 ⟨112, 42, 112, 46⟩, .Constant (.int 8203) 0 ⟨112, 48, 112, 52⟩, .Constant (.int 8204) 0 ⟨112, 54, 112, 58⟩, .Constant (.int 8205) 0 ⟨112, 60, 112, 64⟩, .Constant (.int 8288) 0 ⟨112, 66, 112, 70⟩, .Constant (.int 65279) 0 ⟨112, 72, 112, 77⟩] ⟨112, 13, 112, 78⟩) .Add (.Call (.Name "list" ⟨112, 81, 112, 85⟩) [.Call (.Name "range" ⟨112, 86, 112, 91⟩) [.Constant (.int 65024) 0 ⟨112, 92, 112, 97⟩, .Constant (.int 65040) 0 ⟨112, 99, 112, 104⟩] [] ⟨112, 86, 112, 105⟩] [] ⟨112, 81, 112, 106⟩) ⟨112, 13, 112, 106⟩] [] ⟨112, 9, 112, 107⟩) ⟨112, 0, 112, 107⟩ :: t11)
    (st11 : t11 = .FunctionDef "in_table_b1" (dA 11) (dB 11) [] none [] (dS 11) none "in_table_b1" ⟨113, 0, 114, 30⟩ :: t12)
    (st12 : t12 = .Assign [.Name "b3_exceptions" ⟨115, 0, 115, 13⟩] (.Dict k12 v12 ⟨115, 16, 115, 8704⟩) ⟨115, 0, 115, 8704⟩ :: t13)
    (st13 : t13 = .FunctionDef "map_table_b3" (dA 13) (dB 13) [] none [] (dS 13) none "map_table_b3" ⟨116, 0, 120, 23⟩ :: t14)
    (st14 : t14 = .Assign [.Name "__name__" ⟨121, 0, 121, 8⟩] (.Constant (.str "cpy313.token") 0 ⟨121, 11, 121, 25⟩) ⟨121, 0, 121, 25⟩ :: t15)
    (st15 : t15 = l15 ++ t65) (ok15 : l15.map intA? = csL.map some)
    (st65 : t65 = .Assign [.Name "EXACT_TOKEN_TYPES" ⟨172, 0, 172, 17⟩] (.Dict k65 v65 ⟨172, 20, 172, 757⟩) ⟨172, 0, 172, 757⟩ :: t66)
    (st66 : t66 = .FunctionDef "ISNONTERMINAL" (dA 66) (dB 66) [] none [] (dS 66) none "ISNONTERMINAL" ⟨173, 0, 174, 25⟩ :: t67)
    (st67 : t67 = .FunctionDef "ISEOF" (dA 67) (dB 67) [] none [] (dS 67) none "ISEOF" ⟨175, 0, 176, 25⟩ :: t68)
    (st68 : t68 = .Assign [.Name "__name__" ⟨177, 0, 177, 8⟩] (.Constant (.str "law_wf0111_01") 0 ⟨177, 11, 177, 26⟩) ⟨177, 0, 177, 26⟩ :: t69)
    (st69 : t69 = .FunctionDef "_law_lines" (dA 69) (dB 69) [] none [] (dS 69) none "_law_lines" ⟨178, 0, 182, 108⟩ :: t70)
    (st70 : t70 = .FunctionDef "_law_codes" (dA 70) (dB 70) [] none [] (dS 70) none "_law_codes" ⟨183, 0, 202, 16⟩ :: t71)
    (st71 : t71 = .FunctionDef "_law_octets" (dA 71) (dB 71) [] none [] (dS 71) none "_law_octets" ⟨203, 0, 212, 17⟩ :: t72)
    (st72 : t72 = .FunctionDef "_law_signs" (dA 72) (dB 72) [] none [] (dS 72) none "_law_signs" ⟨213, 0, 220, 20⟩ :: t73)
    (st73 : t73 = .FunctionDef "_law_prepared" (dA 73) (dB 73) [] none [] (dS 73) none "_law_prepared" ⟨221, 0, 222, 83⟩ :: t74)
    (st74 : t74 = .FunctionDef "_law_cut" (dA 74) (dB 74) [] none [] (dS 74) none "_law_cut" ⟨223, 0, 231, 20⟩ :: t75)
    (st75 : t75 = .FunctionDef "_law_deed" (dA 75) (dB 75) [] none [] (dS 75) none "_law_deed" ⟨232, 0, 240, 23⟩ :: t76)
    (st76 : t76 = .FunctionDef "_law_done" (dA 76) (dB 76) [] none [] (dS 76) none "_law_done" ⟨241, 0, 264, 16⟩ :: t77)
    (st77 : t77 = .FunctionDef "_law_plain" (dA 77) (dB 77) [] none [] (dS 77) none "_law_plain" ⟨265, 0, 280, 16⟩ :: t78)
    (st78 : t78 = .FunctionDef "_law_placed" (dA 78) (dB 78) [] none [] (dS 78) none "_law_placed" ⟨281, 0, 283, 122⟩ :: t79)
    (st79 : t79 = .FunctionDef "_law_ways" (dA 79) (dB 79) [] none [] (dS 79) none "_law_ways" ⟨284, 0, 292, 15⟩ :: t80)
    (st80 : t80 = .FunctionDef "_law_apart" (dA 80) (dB 80) [] none [] (dS 80) none "_law_apart" ⟨293, 0, 299, 16⟩ :: t81)
    (st81 : t81 = .FunctionDef "_law_counts" (dA 81) (dB 81) [] none [] (dS 81) none "_law_counts" ⟨300, 0, 304, 17⟩ :: t82)
    (st82 : t82 = .FunctionDef "law" (dA 82) (dB 82) [] none [] (dS 82) none "law" ⟨305, 0, 321, 15⟩ :: t83) (e83 : t83 = []) :
    wpAny (model p0 w) A (execs t10 env0) Q E s := by
  subst hps
  have smk : ∀ {h : Heap} {mg' : Str → Option Value} {ps : Array Value} {ns : List Str} {cs : List (Str × Int)} {ds : List (Str × Nat)} {os : List OFact}, TI s.heap h mg mg' ps ns cs ds os → ∃ o, h.get? sysModules = some o := fun T => by
    obtain ⟨o, e⟩ := sm
    exact ⟨o, T.keep _ _ (by decide) (by decide) e⟩
  refine TI.obj (P := SetF b1L w) T st10 (by kernel_rfl) (by kernel_rfl) (fun F F' v k => SetF.mono k) (fun Q' q => set_eval (is := [173, 847, 6150, 6155, 6156, 6157, 8203, 8204, 8205, 8288, 65279]) (a := 65024) (b := 65040) (n := 16) rfl rfl rfl (by decide +kernel) (by decide +kernel) (by decide) hh T hmb b1 b2 b3 q) (fun h mg tk T => ?_) (by decide) (by kernel_rfl)
  refine TI.def 11 T st11 (fun _ => rfl) (by decide +kernel) (by kernel_rfl) (by kernel_rfl) (by kernel_rfl) (by kernel_rfl) (by kernel_rfl) fun h mg c tk T => ?_
  refine TI.b3 (M := model p0 w) hk12 hv12 T st12 (smk T) (by kernel_rfl) fun h mg tk T => ?_
  refine TI.def 13 T st13 (fun _ => rfl) (by decide +kernel) (by kernel_rfl) (by kernel_rfl) (by kernel_rfl) (by kernel_rfl) (by kernel_rfl) fun h mg c tk T => ?_
  refine TI.text T st14 (by kernel_rfl) (by kernel_rfl) (fun h mg tk T => ?_)
  refine TI.ints _ csL _ _ _ _ _ t65 T st15 ok15 (by kernel_rfl) fun h mg tk T => ?_
  refine TI.tok (M := model p0 w) hk65 hv65 T st65 (smk T) (by kernel_rfl) fun h mg tk T => ?_
  refine TI.def 66 T st66 (fun _ => rfl) (by decide +kernel) (by kernel_rfl) (by kernel_rfl) (by kernel_rfl) (by kernel_rfl) (by kernel_rfl) fun h mg c tk T => ?_
  refine TI.def 67 T st67 (fun _ => rfl) (by decide +kernel) (by kernel_rfl) (by kernel_rfl) (by kernel_rfl) (by kernel_rfl) (by kernel_rfl) fun h mg c tk T => ?_
  refine TI.text T st68 (by kernel_rfl) (by kernel_rfl) (fun h mg tk T => ?_)
  refine TI.def 69 T st69 (fun _ => rfl) (by decide +kernel) (by kernel_rfl) (by kernel_rfl) (by kernel_rfl) (by kernel_rfl) (by kernel_rfl) fun h mg c tk T => ?_
  refine TI.def 70 T st70 (fun _ => rfl) (by decide +kernel) (by kernel_rfl) (by kernel_rfl) (by kernel_rfl) (by kernel_rfl) (by kernel_rfl) fun h mg c tk T => ?_
  refine TI.def 71 T st71 (fun _ => rfl) (by decide +kernel) (by kernel_rfl) (by kernel_rfl) (by kernel_rfl) (by kernel_rfl) (by kernel_rfl) fun h mg c tk T => ?_
  refine TI.def 72 T st72 (fun _ => rfl) (by decide +kernel) (by kernel_rfl) (by kernel_rfl) (by kernel_rfl) (by kernel_rfl) (by kernel_rfl) fun h mg c tk T => ?_
  refine TI.def 73 T st73 (fun _ => rfl) (by decide +kernel) (by kernel_rfl) (by kernel_rfl) (by kernel_rfl) (by kernel_rfl) (by kernel_rfl) fun h mg c tk T => ?_
  refine TI.def 74 T st74 (fun _ => rfl) (by decide +kernel) (by kernel_rfl) (by kernel_rfl) (by kernel_rfl) (by kernel_rfl) (by kernel_rfl) fun h mg c tk T => ?_
  refine TI.def 75 T st75 (fun _ => rfl) (by decide +kernel) (by kernel_rfl) (by kernel_rfl) (by kernel_rfl) (by kernel_rfl) (by kernel_rfl) fun h mg c tk T => ?_
  refine TI.def 76 T st76 (fun _ => rfl) (by decide +kernel) (by kernel_rfl) (by kernel_rfl) (by kernel_rfl) (by kernel_rfl) (by kernel_rfl) fun h mg c tk T => ?_
  refine TI.def 77 T st77 (fun _ => rfl) (by decide +kernel) (by kernel_rfl) (by kernel_rfl) (by kernel_rfl) (by kernel_rfl) (by kernel_rfl) fun h mg c tk T => ?_
  refine TI.def 78 T st78 (fun _ => rfl) (by decide +kernel) (by kernel_rfl) (by kernel_rfl) (by kernel_rfl) (by kernel_rfl) (by kernel_rfl) fun h mg c tk T => ?_
  refine TI.def 79 T st79 (fun _ => rfl) (by decide +kernel) (by kernel_rfl) (by kernel_rfl) (by kernel_rfl) (by kernel_rfl) (by kernel_rfl) fun h mg c tk T => ?_
  refine TI.def 80 T st80 (fun _ => rfl) (by decide +kernel) (by kernel_rfl) (by kernel_rfl) (by kernel_rfl) (by kernel_rfl) (by kernel_rfl) fun h mg c tk T => ?_
  refine TI.def 81 T st81 (fun _ => rfl) (by decide +kernel) (by kernel_rfl) (by kernel_rfl) (by kernel_rfl) (by kernel_rfl) (by kernel_rfl) fun h mg c tk T => ?_
  refine TI.def 82 T st82 (fun _ => rfl) (by decide +kernel) (by kernel_rfl) (by kernel_rfl) (by kernel_rfl) (by kernel_rfl) (by kernel_rfl) fun h mg c tk T => ?_
  subst e83
  exact wpAny_execs_nil (k h mg _ tk T)
theorem rest_walk {w : World} {A : Around} {s : Shared} {mg mb : Str → Option Value} {ps : Array Value} {Q : Flow → Shared → Prop} {E : Value → Shared → Prop} (hh : A.handled = none) (hps : ps = #[Value.int 6 0, Value.int 0 0, Value.ref 53, Value.int 15 0, Value.int 0 0, Value.ref 60, Value.int 103 0, Value.int 0 0, Value.ref 185])
    (T : TI s.heap s.heap mg mg ps [] [] [] []) (hmb : s.heap.Ns builtinsNs mb) (sm : ∃ o, s.heap.get? sysModules = some o) (b1 : mg "set" = none ∧ mb "set" = some (.type "set")) (b2 : mg "list" = none ∧ mb "list" = some (.type "list")) (b3 : mg "range" = none ∧ mb "range" = some (.type "range"))
    (k : ∀ h' mg' ps' tk, TI s.heap h' mg mg' ps' nsF (csL.reverse ++ []) dsF (osF w) → Q .next { s with heap := h', toks := tk }) :
    wpAny (model p0 w) A (execs (bd.drop 9) env0) Q E s := by
  rw [bd9]
  have key : ∀ t10, t10 = pB.drop 10 → wpAny (model p0 w) A (execs t10 env0) Q E s := fun t10 e => rest_walk0 hh hps T hmb sm b1 b2 b3 k rfl rfl rfl rfl (e.trans st10) st11 st12 st13 st14 st15 csL_ok st65 st66 st67 st68 st69 st70 st71 st72 st73 st74 st75 st76 st77 st78 st79 st80 st81 st82 (by kernel_rfl)
  exact key _ rfl
end LW
namespace LW

theorem fn_of_view {h : Heap} {a : Addr} {ps : Arguments} {b : List Stmt} {sc : Scope} {d : Value} (e : fnView h a = some (ps, b, sc, d)) :
    FunIt h a ps b sc d := by
  unfold fnView at e
  cases ho : h.get? a with
  | none => rw [ho] at e; cases e
  | some o =>
    rw [ho] at e
    dsimp only at e
    cases hd : o.data <;> rw [hd] at e <;> try (cases e; done)
    rename_i fd
    dsimp only at e
    cases hb : fd.body <;> rw [hb] at e <;> try (cases e; done)
    rename_i bb
    dsimp only at e
    split at e
    · rename_i hc
      simp only [Bool.and_eq_true, beq_iff_eq, Option.isNone_iff_eq_none, List.isEmpty_iff] at hc
      refine LW.hideGoal fun GG hGG => ?_
      obtain ⟨⟨⟨⟨⟨c1, c2⟩, c3⟩, c4⟩, c5⟩, c6⟩ := hc
      simp only [Option.some.injEq, Prod.mk.injEq] at e
      obtain ⟨e1, e2, e3, e4⟩ := e
      obtain ⟨nm, q, params, body, scope, globals, closure, defaults, kd, doc, pm, an, code, ct, bt⟩ := fd
      refine hGG ?_
      clear hGG GG
      simp only at hb c3 c4 c5 c6 e1 e2 e3 e4
      subst hb c3 c4 c5 e1 e2 e3 e4
      refine ⟨o, nm, q, kd, doc, pm, an, code, ct, ho, c1, c2, hd, ?_⟩
      unfold codeOkB at c6
      split at c6
      · rename_i c
        cases hc : h.get? c with
        | none => rw [hc] at c6; cases c6
        | some oc =>
          rw [hc] at c6
          dsimp only at c6
          cases hdc : oc.data <;> rw [hdc] at c6 <;> try (cases c6; done)
          rename_i vs
          dsimp only at c6
          split at c6
          · rename_i x t hx
            obtain rfl := eq_of_beq c6
            exact ⟨c, oc, vs, t, rfl, hc, hdc, hx⟩
          · cases c6
      · cases c6
    · cases e
theorem tup_of_view {h : Heap} {a : Addr} {vs : Array Value} (e : tupView h a = some vs) : ∃ o n, h.get? a = some o ∧ o.data = .seq vs n := by
  unfold tupView at e
  cases ho : h.get? a with
  | none => rw [ho] at e; cases e
  | some o =>
    rw [ho] at e
    dsimp only at e
    cases hd : o.data <;> rw [hd] at e <;> try (cases e; done)
    rename_i items n
    dsimp only at e
    cases e; exact ⟨o, n, rfl, hd⟩
theorem seq_of_view {h : Heap} {a : Addr} {c : Array Nat} (e : seqView h a = some c) : ∃ o items n, h.get? a = some o ∧ o.data = .seq items n ∧ (items.map Builtin.Re.reRawOf).map (·.toNat) = c := by
  unfold seqView at e
  cases ho : h.get? a with
  | none => rw [ho] at e; cases e
  | some o =>
    rw [ho] at e
    dsimp only at e
    cases hd : o.data <;> rw [hd] at e <;> try (cases e; done)
    rename_i items n
    dsimp only at e
    exact ⟨o, items, n, rfl, hd, Option.some.inj e⟩
theorem fld_of_view {h : Heap} {a : Addr} {vs : Array Value} (e : fldView h a = some vs) : ∃ o, h.get? a = some o ∧ o.data = .fields vs := by
  unfold fldView at e
  cases ho : h.get? a with
  | none => rw [ho] at e; cases e
  | some o =>
    rw [ho] at e
    dsimp only at e
    cases hd : o.data <;> rw [hd] at e <;> try (cases e; done)
    rename_i items
    dsimp only at e
    cases e; exact ⟨o, rfl, hd⟩

/-- the facts behind the beginning, by name -/
structure MidF (s₀ s : Shared) : Prop where
  ok : topOk s₀ s = true
  sz : s₀.heap.objs.size = 28
  ann : s₀.heap.nsMap mainGlobals "__annotations__" = some (Value.ref 6)
  blt : s.heap.bltView = bltViewBooted
  g1 : s.heap.nsMap mainGlobals "Headers" = some (.ref 175)
  g2 : s.heap.nsMap mainGlobals "_name_disallowed_re" = some (.ref 41)
  g3 : s.heap.nsMap mainGlobals "_value_disallowed_re" = some (.ref 46)
  g4 : s.heap.nsMap mainGlobals "_parse_varint" = some (.ref 186)
  g5 : s.heap.nsMap mainGlobals "__builtins__" = some (.ref 4)
  gn : ∀ x ∈ (["type", "str", "list", "len", "ord", "chr", "iter", "next", "enumerate", "range", "sum", "StopIteration", "set"] : List Str), s.heap.nsMap mainGlobals x = none
  cn : ∀ x ∈ (["__getattribute__", "__getattr__", "__setattr__", "_headers"] : List Str), s.heap.nsMap 174 x = none
  cf : ∀ y ∈ ([("__init__", 69), ("_convert_string_type", 76), ("__setitem__", 90), ("__delitem__", 95), ("get_all", 114), ("get", 122), ("items", 139), ("setdefault", 165), ("add_header", 172)] : List (Str × Addr)), s.heap.nsMap 174 y.1 = some (.ref y.2)
  lim : s.heap.nsMap cStatics "sys.recursionlimit" = none
  f0 : fnView s.heap 69 = some (hA 0, hB 0, hS 0, .ref 62)
  f1 : fnView s.heap 76 = some (hA 1, hB 1, hS 1, .none)
  f3 : fnView s.heap 90 = some (hA 3, hB 3, hS 3, .none)
  f4 : fnView s.heap 95 = some (hA 4, hB 4, hS 4, .none)
  f7 : fnView s.heap 114 = some (hA 7, hB 7, hS 7, .none)
  f8 : fnView s.heap 122 = some (hA 8, hB 8, hS 8, .ref 115)
  f11 : fnView s.heap 139 = some (hA 11, hB 11, hS 11, .none)
  f15 : fnView s.heap 165 = some (hA 15, hB 15, hS 15, .none)
  f16 : fnView s.heap 172 = some (hA 16, hB 16, hS 16, .none)
  fv : fnView s.heap 186 = some (dA 8, dB 8, dS 8, .none)
  t62 : tupView s.heap 62 = some #[Value.none]
  t115 : tupView s.heap 115 = some #[Value.none]
  s40 : seqView s.heap 40 = some nameCode
  s45 : seqView s.heap 45 = some valueCode
  c30 : fldView s.heap 30 = some #[Value.str (Str.ofString "<module>") 277, Value.str (Str.ofString "<module>") 278, Value.str (Str.ofString "/claim/cut.py") 279, Value.int 1 0, Value.int 0 0, Value.int 0 0, Value.int 0 0,
        Value.int 0 0, Value.ref 28, Value.bool false, Value.int 276 0, Value.ref 29, Value.none, Value.none, Value.none, Value.none, Value.int 280 0, Value.int 1 0,
        Value.str (Str.ofString "/claim/cut.py") 281]
  c29 : fldView s.heap 29 = some #[Value.int 6 0, Value.int 0 0, Value.ref 53, Value.int 15 0, Value.int 0 0, Value.ref 60, Value.int 103 0, Value.int 0 0, Value.ref 185]
  o175 : s.heap.get? 175 = some (excClassObj "Headers" "Headers" 175 174 [.type "object"] [.type "object"] true [] [] false none none none none (some (Value.str (Str.ofString "Headers") 388)) (some (Value.str (Str.ofString "Headers") 396)) (some (Value.bool true)) "object.__new__")
  o41 : s.heap.get? 41 = some { cls := Value.type "re.Pattern", data := Data.fields #[Value.str (Str.ofString "[\\x00-\\x1F\\x7F]") 319, Value.int 32 342, Value.int 0 0, Value.none, Value.none, Value.ref 40, Value.int 0 0] }
  o46 : s.heap.get? 46 = some { cls := Value.type "re.Pattern", data := Data.fields #[Value.str (Str.ofString "[\\x00-\\x08\\x0A-\\x1F\\x7F]") 345, Value.int 32 376, Value.int 0 0, Value.none, Value.none, Value.ref 45, Value.int 0 0] }
  o4 : s.heap.get? 4 = some { cls := Value.type "module", dict := some 0 }

theorem MidF.of {s₀ s : Shared} (h : obs s₀ s = expected) : MidF s₀ s := by
  have a1 := congrArg (fun x => x.1) h
  have a2 := congrArg (fun x => x.2.1.1) h
  have a3 := congrArg (fun x => x.2.1.2.1) h
  have a4 := congrArg (fun x => x.2.2.1) h
  have a5 := congrArg (fun x => x.2.2.2.1) h
  have a6 := congrArg (fun x => x.2.2.2.2.1) h
  have a7 := congrArg (fun x => x.2.2.2.2.2.1) h
  have a8 := congrArg (fun x => x.2.2.2.2.2.2.1) h
  have a9 := congrArg (fun x => x.2.2.2.2.2.2.2.1) h
  have a10 := congrArg (fun x => x.2.2.2.2.2.2.2.2) h
  clear h
  dsimp only [obs, expected, gNames, cNames, List.map] at a1 a2 a3 a4 a5 a6 a7 a8 a9 a10
  simp only [List.cons.injEq, and_true] at a5 a6
  injection a8 with b1 a8
  injection a8 with b2 a8
  injection a8 with b3 a8
  injection a8 with b4 a8
  injection a8 with b5 a8
  injection a8 with b6 a8
  injection a8 with b7 a8
  injection a8 with b8 a8
  injection a8 with b9 a8
  injection a8 with b10 a8
  refine LW.hideGoal fun GG hGG => ?_
  obtain ⟨c1, a9⟩ := Prod.mk.inj a9
  obtain ⟨c2, a9⟩ := Prod.mk.inj a9
  obtain ⟨c3, a9⟩ := Prod.mk.inj a9
  obtain ⟨c4, a9⟩ := Prod.mk.inj a9
  obtain ⟨c5, c6⟩ := Prod.mk.inj a9
  obtain ⟨d1, a10⟩ := Prod.mk.inj a10
  obtain ⟨d2, a10⟩ := Prod.mk.inj a10
  obtain ⟨d3, d4⟩ := Prod.mk.inj a10
  obtain ⟨e1, e2, e3, e4, e5, e6⟩ := a5
  obtain ⟨g1, g2, g3, g4, g5, g6, g7, g8, g9, g10, g11, g12, g13⟩ := a6
  refine hGG ?_
  clear hGG GG
  refine ⟨a1, a2, a3, a4, e1, e2, e3, e4, e5, ?_, ?_, ?_, a7, b1, b2, b3, b4, b5, b6, b7, b8, b9, b10, c1, c2, c3, c4, c5, c6, d1, d2, d3, d4⟩
  · refine LW.hideGoal fun GG hGG => ?_
    obtain ⟨f1, f2, f3, f4, f5, f6, f7, f8, f9, f10, f11, f12, f13⟩ := e6
    refine hGG ?_
    clear hGG GG
    intro x hx
    simp only [List.mem_cons, List.not_mem_nil, or_false] at hx
    rcases hx with rfl | rfl | rfl | rfl | rfl | rfl | rfl | rfl | rfl | rfl | rfl | rfl | rfl <;> assumption
  · intro x hx
    simp only [List.mem_cons, List.not_mem_nil, or_false] at hx
    rcases hx with rfl | rfl | rfl | rfl <;> assumption
  · intro y hy
    simp only [List.mem_cons, List.not_mem_nil, or_false] at hy
    rcases hy with rfl | rfl | rfl | rfl | rfl | rfl | rfl | rfl | rfl <;> assumption
end LW
namespace LW
noncomputable def mtL : List (Str × Addr) := [("__init__", 69), ("_convert_string_type", 76), ("__setitem__", 90), ("__delitem__", 95), ("get_all", 114), ("get", 122), ("items", 139), ("setdefault", 165), ("add_header", 172)]
noncomputable def mt0 : Str → Option Addr := fun x => mtL.lookup x
noncomputable def uns0 (k : Nat) : Bool := b1L.any (· == (k : Int))
noncomputable def biL : List (Str × Value) := [("type", .type "type"), ("str", .type "str"), ("list", .type "list"), ("len", .builtin "len"), ("ord", .builtin "ord"), ("chr", .builtin "chr"), ("iter", .builtin "iter"), ("next", .builtin "next"), ("enumerate", .type "enumerate"), ("range", .type "range"), ("sum", .builtin "sum"), ("StopIteration", .type "StopIteration")]

/-- what the walk wants of the heap -/
structure LawG (w : World) (G : Heap) : Prop where
  fg : ∀ p ∈ dsF, FunG G p.1 p.2
  fv : FunG G "_parse_varint" 8
  mdl : Mdl G 175 mt0
  tabs : Tabs p0 w G uns0 b3
  tok : GRep p0 w G "EXACT_TOKEN_TYPES" (.dct (tokP tk0))
  nt : ∃ t, GVal G "NT_OFFSET" (.int 256 t)
  em : ∃ t, GVal G "ENDMARKER" (.int 0 t)
  bi : ∀ y ∈ biL, BVal G y.1 y.2
  sys : SysOk G

theorem lookup_memA {x : Str} {a : Addr} : ∀ {l : List (Str × Addr)}, l.lookup x = some a → (x, a) ∈ l
  | [], e => by cases e
  | (y, b) :: l, e => by
    rw [List.lookup_cons] at e
    cases hb : x == y with
    | true => rw [hb] at e; cases e; rw [eq_of_beq hb]; exact List.mem_cons_self
    | false => rw [hb] at e; exact List.mem_cons_of_mem _ (lookup_memA e)
theorem boot_bi : ∀ y ∈ biL, bootBuiltins y.1 = some y.2 := by
  have : biL.map (fun y => bootBuiltins y.1) = biL.map fun y => some y.2 := by kernel_rfl
  intro y hy
  obtain ⟨i, hi, rfl⟩ := List.getElem_of_mem hy
  have h := congrArg (·[i]?) this
  simpa [hi] using h

section
variable {w : World} {s₀ s : Shared} {G : Heap} {mg' : Str → Option Value} {ps' : Array Value}
theorem MidF.isNs (m : MidF s₀ s) : s.heap.isNs mainGlobals = true ∧ s.heap.isNs builtinsNs = true ∧ s.heap.isNs cStatics = true ∧ s.heap.isNs sysModules = true ∧ s.heap.isNs 174 = true := by
  have h := m.ok
  unfold topOk at h
  simp only [Bool.and_eq_true] at h
  exact ⟨h.1.1.1.1.2, h.1.1.1.2, h.1.1.2, h.1.2, h.2⟩
theorem MidF.bi (m : MidF s₀ s) : ∀ y ∈ biL, s.heap.nsMap mainGlobals y.1 = none ∧ s.heap.nsMap builtinsNs y.1 = some y.2 := fun y hy => by
  have h1 : biL.all (fun y => (["type", "str", "list", "len", "ord", "chr", "iter", "next", "enumerate", "range", "sum", "StopIteration", "set"] : List Str).contains y.1 && !(y.1 == ("__name__" : Str))) = true := by decide +kernel
  have h2 := List.all_eq_true.mp h1 y hy
  simp only [Bool.and_eq_true, List.contains_iff_mem, Bool.not_eq_true'] at h2
  refine ⟨m.gn _ h2.1, ?_⟩
  rw [Heap.of_bltView m.isNs.2.1 m.blt y.1 (by simpa using h2.2)]
  exact boot_bi y hy
theorem nsF_bi : ∀ y ∈ biL, y.1 ∉ nsF := by
  have h1 : biL.all (fun y => !(nsF.contains y.1)) = true := by decide +kernel
  intro y hy
  have := List.all_eq_true.mp h1 y hy
  simpa using this
theorem nsF_g : ∀ x ∈ (["Headers", "_name_disallowed_re", "_value_disallowed_re", "_parse_varint", "__builtins__"] : List Str), x ∉ nsF := by
  have h1 : (["Headers", "_name_disallowed_re", "_value_disallowed_re", "_parse_varint", "__builtins__"] : List Str).all (fun x => !(nsF.contains x)) = true := by decide +kernel
  intro y hy
  have := List.all_eq_true.mp h1 y hy
  simpa using this

theorem cs_nt : (("NT_OFFSET" : Str), (256 : Int)) ∈ csL := List.contains_iff_mem.mp (by decide +kernel : csL.contains (("NT_OFFSET" : Str), (256 : Int)) = true)
theorem cs_em : (("ENDMARKER" : Str), (0 : Int)) ∈ csL := List.contains_iff_mem.mp (by decide +kernel : csL.contains (("ENDMARKER" : Str), (0 : Int)) = true)
theorem lawG (m : MidF s₀ s) (T : TI s.heap G (s.heap.nsMap mainGlobals) mg' ps' nsF (csL.reverse ++ []) dsF (osF w)) : LawG w G := by
  have K : ∀ b o, b ≠ 29 → b ≠ mainGlobals → s.heap.get? b = some o → G.get? b = some o := T.keep
  have hlimS : s.heap.NoLimit := ⟨_, .of_isNs m.isNs.2.2.1, m.lim⟩
  have hlim : G.NoLimit := hlimS.at fun o => K _ o (by decide) (by decide)
  have hg : G.Ns mainGlobals mg' := T.main.g
  have gv : ∀ x v, mg' x = some v → GVal G x v := fun x v e => ⟨mg', hg, e⟩
  have go : ∀ x v, x ∈ (["Headers", "_name_disallowed_re", "_value_disallowed_re", "_parse_varint", "__builtins__"] : List Str) → s.heap.nsMap mainGlobals x = some v → GVal G x v := fun x v hx e => gv x v ((T.others x (nsF_g x hx)).trans e)
  have funR : ∀ (a : Addr) (ps : Arguments) (b : List Stmt) (sc : Scope) (d : Value), (29 : Addr) < a → fnView s.heap a = some (ps, b, sc, d) → FunR G a ps b sc d := fun a ps b sc d ha e => by
    have hm : a ≠ 29 ∧ a ≠ mainGlobals := ⟨Nat.ne_of_gt ha, Nat.ne_of_gt (Nat.lt_trans (by decide : mainGlobals < 29) ha)⟩
    refine LW.hideGoal fun GG hGG => ?_
    obtain ⟨o, nm, q, kd, doc, pm, an, code, ct, h1, h2, h3, h4, c, oc, vs, t, h5, h6, h7, h8⟩ := fn_of_view e
    refine hGG ?_
    clear hGG GG
    refine ⟨⟨o, nm, q, kd, doc, pm, an, code, ct, K _ _ hm.1 hm.2 h1, h2, h3, h4, c, oc, vs, t, h5, K _ _ (fun e => ?_) (fun e => ?_) h6, h7, h8⟩, hlim⟩
    · -- the code table is no code record
      obtain ⟨o29, e29, d29⟩ := fld_of_view m.c29
      rw [e, e29] at h6; cases h6
      rw [h7] at d29
      injection d29 with d29
      subst d29
      cases h8
    · refine LW.hideGoal fun GG hGG => ?_
      obtain ⟨og, es, ep, eg, dg, _⟩ := Heap.Ns.of_isNs m.isNs.1
      refine hGG ?_
      clear hGG GG
      rw [e, eg] at h6; cases h6
      rw [h7] at dg; cases dg
  have thg : ∀ {b : Addr} {o : Obj}, (TH G).get? b = some o → G.get? b = some o := fun e => (hid_get.mp e).1
  have kth : Kp (TH G) G := Kp.ofHid _ _
  have nsm : ∀ y ∈ mtL, s.heap.nsMap 174 y.1 = some (.ref y.2) := m.cf
  have hB : G.Ns builtinsNs (s.heap.nsMap builtinsNs) := (Heap.Ns.of_isNs m.isNs.2.1).at fun o => K _ o (by decide) (by decide)
  have bi : ∀ y ∈ biL, BVal G y.1 y.2 := fun y hy => ⟨mg', _, hg, (T.others _ (nsF_bi y hy)).trans (m.bi y hy).1, hB, (m.bi y hy).2⟩
  have fm : ∀ (name : Str) (a : Addr) (i : Nat), mt0 name = some a → (29 : Addr) < a → fnView s.heap a = some (hA i, LW.hB i, hS i, .none) → MethR G mt0 name i := fun name a i h1 ha h2 => ⟨a, h1, funR a _ _ _ _ ha h2⟩
  have fd : ∀ (name : Str) (a T : Addr) (i : Nat), mt0 name = some a → (29 : Addr) < a → (29 : Addr) < T → fnView s.heap a = some (hA i, LW.hB i, hS i, .ref T) → tupView s.heap T = some #[Value.none] → MethD G mt0 name i := fun name a T i h1 ha hT h2 h3 => by
    refine LW.hideGoal fun GG hGG => ?_
    obtain ⟨o, n, e1, e2⟩ := tup_of_view h3
    refine hGG ?_
    clear hGG GG
    exact ⟨a, T, o, n, h1, funR a _ _ _ _ ha h2, K _ _ (Nat.ne_of_gt hT) (Nat.ne_of_gt (Nat.lt_trans (by decide : mainGlobals < 29) hT)) e1, e2⟩
  have k41 := K 41 _ (by decide) (by decide) m.o41
  have k46 := K 46 _ (by decide) (by decide) m.o46
  refine ⟨fun p hp => ?_, ⟨186, go _ _ (by decide +kernel) m.g4, funR _ _ _ _ _ (by decide) m.fv⟩, ⟨⟨?_, fun x f e => ?_⟩, go _ _ (by decide +kernel) m.g1, fd _ 69 62 0 rfl (by decide) (by decide) m.f0 m.t62, fm _ 76 1 rfl (by decide) m.f1, fm _ 90 3 rfl (by decide) m.f3, fm _ 95 4 rfl (by decide) m.f4, fm _ 114 7 rfl (by decide) m.f7,
    fd _ 122 115 8 rfl (by decide) (by decide) m.f8 m.t115, fm _ 139 11 rfl (by decide) m.f11, fm _ 165 15 rfl (by decide) m.f15, fm _ 172 16 rfl (by decide) m.f16, ?_, ?_, bi ("type", .type "type") (by simp [biL]), bi ("str", .type "str") (by simp [biL]), bi ("list", .type "list") (by simp [biL])⟩, ⟨?_, ?_⟩, ?_, ?_, ?_, bi, ?_⟩
  · refine LW.hideGoal fun GG hGG => ?_
    obtain ⟨v, e1, a, pm, c', rfl, e2, e3⟩ := T.fn p hp
    refine hGG ?_
    clear hGG GG
    exact ⟨a, gv _ _ e1, ⟨_, _, _, _, _, _, _, _, _, thg e2, rfl, rfl, rfl, e3.keeps kth⟩, hlim⟩
  · refine ⟨_, _, 174, _, _, _, _, _, _, _, _, _, _, s.heap.nsMap 174, K 175 _ (by decide) (by decide) m.o175, (Heap.Ns.of_isNs m.isNs.2.2.2.2).at fun o => K _ o (by decide) (by decide), m.cn _ (by decide +kernel), m.cn _ (by decide +kernel), m.cn _ (by decide +kernel), m.cn _ (by decide +kernel), fun x f e => nsm (x, f) (lookup_memA e)⟩
  · have hm := lookup_memA e
    have : ∀ a : Addr, (29 : Addr) < a → (∃ r, fnView s.heap a = some r) → ∃ o fd, G.get? a = some o ∧ o.cls = .type "function" ∧ o.data = .func fd := fun a ha ⟨⟨ps, b, sc, d⟩, h⟩ => by
      refine LW.hideGoal fun GG hGG => ?_
      obtain ⟨o, nm, q, kd, doc, pm, an, code, ct, h1, h2, h3, h4, _⟩ := fn_of_view h
      refine hGG ?_
      clear hGG GG
      exact ⟨o, _, K _ _ (Nat.ne_of_gt ha) (Nat.ne_of_gt (Nat.lt_trans (by decide : mainGlobals < 29) ha)) h1, h2, h4⟩
    unfold mtL at hm
    simp only [List.mem_cons, List.not_mem_nil, or_false, Prod.mk.injEq] at hm
    rcases hm with h | h | h | h | h | h | h | h | h <;> obtain ⟨_, rfl⟩ := h
    · exact this 69 (by decide) ⟨_, m.f0⟩
    · exact this 76 (by decide) ⟨_, m.f1⟩
    · exact this 90 (by decide) ⟨_, m.f3⟩
    · exact this 95 (by decide) ⟨_, m.f4⟩
    · exact this 114 (by decide) ⟨_, m.f7⟩
    · exact this 122 (by decide) ⟨_, m.f8⟩
    · exact this 139 (by decide) ⟨_, m.f11⟩
    · exact this 165 (by decide) ⟨_, m.f15⟩
    · exact this 172 (by decide) ⟨_, m.f16⟩
  · refine LW.hideGoal fun GG hGG => ?_
    obtain ⟨o, items, n, e1, e2, e3⟩ := seq_of_view m.s40
    refine hGG ?_
    clear hGG GG
    exact ⟨41, go _ _ (by decide +kernel) m.g2, _, _, _, _, _, 40, o, items, n, k41, rfl, rfl, rfl, K _ _ (by decide) (by decide) e1, e2, e3⟩
  · refine LW.hideGoal fun GG hGG => ?_
    obtain ⟨o, items, n, e1, e2, e3⟩ := seq_of_view m.s45
    refine hGG ?_
    clear hGG GG
    exact ⟨46, go _ _ (by decide +kernel) m.g3, _, _, _, _, _, 45, o, items, n, k46, rfl, rfl, rfl, K _ _ (by decide) (by decide) e1, e2, e3⟩
  · refine LW.hideGoal fun GG hGG => ?_
    obtain ⟨v, e1, a, n, Sf, rfl, e2, e3⟩ := T.ob ("b1_set", SetF b1L w) (by unfold osF; simp)
    refine hGG ?_
    clear hGG GG
    exact ⟨a, n, Sf, gv _ _ e1, SetOf.mono kth e2, fun k => e3 k⟩
  · refine LW.hideGoal fun GG hGG => ?_
    obtain ⟨v, e1, a, f, rfl, e2, e3, e4⟩ := T.ob ("b3_exceptions", B3F w) (by unfold osF; simp)
    refine hGG ?_
    clear hGG GG
    exact ⟨a, f, gv _ _ e1, e2, MapOf.mono kth e3, fun k => e4 k⟩
  · obtain ⟨v, e1, e2⟩ := T.ob ("EXACT_TOKEN_TYPES", TokF w) (by unfold osF; simp)
    exact ⟨v, gv _ _ e1, RepV.mono kth _ _ e2⟩
  · obtain ⟨t, e⟩ := T.con ("NT_OFFSET", 256) (List.mem_append_left _ (List.mem_reverse.mpr cs_nt))
    exact ⟨t, gv _ _ e⟩
  · obtain ⟨t, e⟩ := T.con ("ENDMARKER", 0) (List.mem_append_left _ (List.mem_reverse.mpr cs_em))
    exact ⟨t, gv _ _ e⟩
  · refine LW.hideGoal fun GG hGG => ?_
    obtain ⟨o, es, ep, e, d, _⟩ := Heap.Ns.of_isNs m.isNs.2.2.2.1
    refine hGG ?_
    clear hGG GG
    exact ⟨o, K _ _ (by decide) (by decide) e, fun vs h => by rw [d] at h; cases h⟩
end
end LW
namespace LW
theorem nsF_bound : ∀ x ∈ nsF, x ∈ startupNames ∨ x ∈ p0.boundNames := by
  have h : nsF.all (fun x => startupNames.contains x || p0.boundNames.contains x) = true := by decide +kernel
  intro x hx
  have := List.all_eq_true.mp h x hx
  simpa only [Bool.or_eq_true, List.contains_iff_mem] using this
theorem nsF_laid : ∀ x ∈ laidNames, x ∉ nsF := by
  have h : laidNames.all (fun x => !(nsF.contains x)) = true := by decide +kernel
  intro x hx
  have := List.all_eq_true.mp h x hx
  simpa using this

theorem FunG.mono {F F' : Heap} (k : Kp F F') {name : Str} {i : Nat} (x : FunG F name i) : FunG F' name i := let ⟨a, h1, h2⟩ := x; ⟨a, h1.mono k, h2.mono k⟩
theorem LawG.mono {w : World} {F F' : Heap} (k : Kp F F') (x : LawG w F) : LawG w F' where
  fg := fun p hp => (x.fg p hp).mono k
  fv := x.fv.mono k
  mdl := x.mdl.mono k
  tabs := ⟨let ⟨a, n, Sf, h1, h2, h3⟩ := x.tabs.set; ⟨a, n, Sf, h1.mono k, SetOf.mono k h2, h3⟩, let ⟨a, f, h1, h2, h3, h4⟩ := x.tabs.dict; ⟨a, f, h1.mono k, h2, MapOf.mono k h3, h4⟩⟩
  tok := let ⟨v, h1, h2⟩ := x.tok; ⟨v, h1.mono k, RepV.mono k _ _ h2⟩
  nt := let ⟨t, h⟩ := x.nt; ⟨t, h.mono k⟩
  em := let ⟨t, h⟩ := x.em; ⟨t, h.mono k⟩
  bi := fun y hy => (x.bi y hy).mono k
  sys := let ⟨o, h1, h2⟩ := x.sys; ⟨o, k _ _ h1, h2⟩

/-- the top has run -/
theorem top_ran (w : World) : ∃ s s₀ s₁, AfterRun (opening p0) w s ∧ fenceModules? p0 s = some s₀ ∧ s₀.gens = #[] ∧ TopRan p0 w s₀ s₁ ∧ s₁.asleep ∧ s₁.gens = #[] ∧ isTheDefsW p0 s₁.heap "law" ∧ LawG w s₁.heap := by
  refine LW.hideGoal fun GG hGG => ?_
  obtain ⟨s, s₀, sm, pos, hA, hf, hz, hc, ho⟩ := opened w
  have m := MidF.of ho
  have hok := m.ok
  unfold topOk at hok
  simp only [Bool.and_eq_true] at hok
  obtain ⟨⟨⟨⟨⟨⟨⟨⟨⟨⟨⟨k1, k2⟩, k3⟩, k4⟩, k5⟩, k6⟩, k7⟩, k8⟩, k9⟩, k10⟩, k11⟩, k12⟩ := hok
  have hg0 : s₀.gens = #[] := Array.eq_empty_of_size_eq_zero (beq_iff_eq.mp k2)
  have hgm : sm.gens = #[] := Array.eq_empty_of_size_eq_zero (beq_iff_eq.mp k5)
  have hzm : sm.asleep := Shared.asleep_of_life hc.life hz
  obtain ⟨o30, e30, d30⟩ := fld_of_view m.c30
  obtain ⟨o29, e29, d29⟩ := fld_of_view m.c29
  have hmain : sm.heap.Main (sm.heap.nsMap mainGlobals) 30 29 #[Value.int 6 0, Value.int 0 0, Value.ref 53, Value.int 15 0, Value.int 0 0, Value.ref 60, Value.int 103 0, Value.int 0 0, Value.ref 185] :=
    ⟨.of_isNs k8, ⟨o30, _, _, _, _, _, _, _, _, o29, e30, d30, rfl, rfl, rfl, rfl, rfl, e29, d29, trivial, by decide⟩, ⟨by decide, by decide⟩, ⟨4, _, m.g5, by decide, by decide, by decide, m.o4, rfl, rfl, rfl⟩⟩
  have T0 : TI sm.heap sm.heap (sm.heap.nsMap mainGlobals) (sm.heap.nsMap mainGlobals) #[Value.int 6 0, Value.int 0 0, Value.ref 53, Value.int 15 0, Value.int 0 0, Value.ref 60, Value.int 103 0, Value.int 0 0, Value.ref 185] [] [] [] [] :=
    ⟨hmain, fun _ _ _ _ e => e, (fun _ h => nomatch h), (fun _ h => nomatch h), (fun _ h => nomatch h), (fun _ h => nomatch h), fun _ _ => rfl⟩
  have hsm : ∃ o, sm.heap.get? sysModules = some o := by obtain ⟨o, es, ep, e, _⟩ := Heap.Ns.of_isNs k11; exact ⟨o, e⟩
  have hbi : ∀ x v, x ≠ ("__name__" : Str) → bootBuiltins x = some v → sm.heap.nsMap builtinsNs x = some v := fun x v hx e => by rw [Heap.of_bltView k9 m.blt x hx]; exact e
  obtain ⟨s₁, t₁, hc1, ht, hg1, mg', ps', T⟩ := suffix (w := w) (s := sm) (n₀ := 28) (ann := some (.ref 6)) (pos := pos) (rest := bd.drop 9) (R := fun s' => ∃ mg' ps', TI sm.heap s'.heap (sm.heap.nsMap mainGlobals) mg' ps' nsF (csL.reverse ++ []) dsF (osF w)) hzm
    (rest_walk rfl rfl T0 (.of_isNs k9) hsm ⟨m.gn _ (by decide +kernel), hbi "set" _ (by decide) (by kernel_rfl)⟩ ⟨m.gn _ (by decide +kernel), hbi "list" _ (by decide) (by kernel_rfl)⟩ ⟨m.gn _ (by decide +kernel), hbi "range" _ (by decide) (by kernel_rfl)⟩
      fun h' mg' ps' tk T => ⟨rfl, hgm, rfl, fun b o h1 h2 h3 h4 e => T.keep b o (Nat.ne_of_lt (Nat.lt_trans h1 (by decide))) h2 e, mg', ps', T⟩)
  refine hGG ?_
  clear hGG GG
  have C := hc.trans hc1
  have hK : ∀ b o, b ≠ 29 → b ≠ mainGlobals → sm.heap.get? b = some o → s₁.heap.get? b = some o := T.keep
  have hgo : ∀ x, globalOf s₁.heap x = mg' x := fun x => Claim2Try.globalOf_of_ns T.main.g x
  have hgm' : ∀ x, globalOf sm.heap x = sm.heap.nsMap mainGlobals x := fun x => Pin.globalOf_eq k8 x
  have hst : ∀ x, staticOf s₁.heap x = staticOf sm.heap x := fun x => by
    refine LW.hideGoal fun GG hGG => ?_
    obtain ⟨o, es, ep, e, _⟩ := Heap.Ns.of_isNs k10
    refine hGG ?_
    clear hGG GG
    unfold staticOf
    rw [e, hK _ _ (by decide) (by decide) e]
  have hbt : ∀ x, builtinOf s₁.heap x = builtinOf sm.heap x := fun x => by
    refine LW.hideGoal fun GG hGG => ?_
    obtain ⟨o, es, ep, e, _⟩ := Heap.Ns.of_isNs k9
    refine hGG ?_
    clear hGG GG
    unfold builtinOf
    rw [e, hK _ _ (by decide) (by decide) e]
  have L := lawG m T
  refine ⟨s, s₀, s₁, hA, hf, hg0, ⟨?_, C.life, Shared.rest_eq C.os, fun b o e hn => C.old b o (by rw [← m.sz]; exact Heap.lt_size e) (fun q => hn (.inl q)) (fun q => hn (.inr (.inl q))) (fun q => hn (.inr (.inr ((Pin.globalOf_eq k1 _).trans (m.ann.trans q))))) e,
    ?_, ?_, ?_, ?_, ?_, fun g hg => by rw [hg1] at hg; simp at hg, fun x v e => ?_, fun x hx => ?_⟩, Shared.asleep_of_life C.life hz, hg1, ?_, L⟩
  · obtain ⟨n, hn⟩ := C.run
    exact ⟨n, t₁, hn, ht⟩
  · have h := Heap.accountedI_of_ok k7
    unfold staticsAccountedI at h ⊢
    simp only [hst]
    exact h
  · have h := statics_of_ok k3
    unfold staticsBehindTheTop at h ⊢
    intro key
    rw [hst]
    exact h key
  · refine LW.hideGoal fun GG hGG => ?_
    obtain ⟨o, es, ep, e, d, ks, _⟩ := T.main.g
    refine hGG ?_
    clear hGG GG
    exact ⟨o, es, ep, e, d, ks⟩
  · intro name hn
    rw [hbt, Pin.builtinOf_eq k9]
    exact Heap.of_bltView k9 m.blt name hn
  · refine ⟨4, { cls := Value.type "module", dict := some 0 }, ?_, hK 4 _ (by decide) (by decide) m.o4, rfl, rfl⟩
    rw [hgo, T.others _ (nsF_g _ (by decide +kernel))]
    exact m.g5
  · rw [hgo] at e
    by_cases hx : x ∈ nsF
    · exact nsF_bound x hx
    · rw [T.others x hx] at e
      exact names_of_bound k4 x v ((hgm' x).trans e)
  · rw [hgo, T.others x (nsF_laid x hx), ← hgm']
    exact laid_of_kept k6 x hx
  · refine LW.hideGoal fun GG hGG => ?_
    obtain ⟨v, e1, a, pm, c', rfl, e2, e3⟩ := T.fn ("law", 82) (by unfold dsF; simp)
    refine hGG ?_
    clear hGG GG
    refine ⟨a, _, _, dA 82, dB 82, dS 82, (hgo _).trans e1, (hid_get.mp e2).1, rfl, by kernel_rfl, rfl, rfl, rfl, rfl, rfl, rfl, rfl, rfl, .inl ⟨by kernel_rfl, rfl⟩, [], by kernel_rfl, .inl ⟨rfl, rfl⟩⟩
end LW
namespace LW
abbrev row0 : OpenRow := PySem.Challenge.rw_wf0111_01.row
abbrev cl0 : ClaimW := row0.toRowW.claim

/-- what is asked of the walk of law -/
noncomputable def WalkLaw : Prop := ∀ (w : World) (s₁ : Shared) (is : List Int) (v : Value), LawG w s₁.heap → is.length ≤ 63 → RepV p0 w s₁.heap (.lst (is.map .int)) v → s₁.gens = #[] → ∃ f, GVal s₁.heap "law" f ∧
  wpAny (model p0 w) callerA (call f [v]) (fun r s' => r = .bool true ∧ Kp s₁.heap s'.heap ∧ s'.os = s₁.os ∧ s'.gens = #[]) (fun _ _ => False) s₁

theorem lay_ints {R : WRecords} {cl : Str → Option Addr} {P : Params} {ord : List DictEntry → List DictEntry} : ∀ (is : List Int) (s : Shared), ∃ vs, layAllW R cl P ord (is.map .int) s = some (vs, { s with toks := s.toks + is.length }) ∧ ∀ F, ∀ w, RepVs p0 w F (is.map .int) vs
  | [], s => ⟨[], rfl, fun F w => rfl⟩
  | i :: is, s => by
    obtain ⟨vs, h1, h2⟩ := lay_ints (R := R) (cl := cl) (P := P) (ord := ord) is { s with toks := s.toks + 1 }
    refine ⟨.int i s.toks :: vs, ?_, fun F w => ⟨_, _, rfl, ⟨_, rfl⟩, h2 F w⟩⟩
    rw [List.map_cons]
    unfold layAllW
    simp only [layW]
    rw [h1]
    simp only [List.length_cons]
    rw [show s.toks + 1 + is.length = s.toks + (is.length + 1) by omega]
theorem has_list {R : WRecords} : ∀ d, WShape.has R d (.list .int) = true → ∃ xs, d = .list xs ∧ WShape.hasItems R xs .int = true := by
  intro d h
  cases d <;> first
    | exact Bool.noConfusion (show false = true from h)
    | (have h' : (WShape.hasItems R _ .int || false) = true := h; rw [Bool.or_false] at h'; exact ⟨_, rfl, h'⟩)
theorem ints_of_has {R : WRecords} (xs : List WData) : WShape.hasItems R xs .int = true → ∃ is : List Int, xs = is.map .int := by
  induction xs with
  | nil => exact fun _ => ⟨[], rfl⟩
  | cons x xs ih =>
    intro h
    have h' : (WShape.has R x .int && WShape.hasItems R xs .int) = true := h
    obtain ⟨h1, h2⟩ := Bool.and_eq_true_iff.mp h'
    obtain ⟨is, rfl⟩ := ih h2
    cases x <;> first
      | exact Bool.noConfusion (show false = true from h1)
      | exact ⟨_ :: is, rfl⟩
theorem pre_of {args : List WData} (h : cl0.pre args = true) : ∃ is : List Int, args = [.list (is.map .int)] ∧ is.length ≤ 63 := by
  have h' := pre_splitW (r := row0.toRowW) h
  refine LW.hideGoal fun GG hGG => ?_
  obtain ⟨h1, h2⟩ := h'
  have h1' : WShape.hasAll row0.toRowW.records args [.list .int] = true := h1
  obtain ⟨d, r, rfl, hd, hr⟩ := hasAllW_cons h1'
  obtain rfl := hasAllW_nil hr
  obtain ⟨xs, rfl, hx⟩ := has_list d hd
  obtain ⟨is, rfl⟩ := ints_of_has xs hx
  refine hGG ?_
  clear hGG GG
  refine ⟨is, rfl, ?_⟩
  have h3 : WTm.holds [] (.and (.not (.lit (.bool (decide ((63 : Int) < ((is.map WData.int).length : Nat)))))) (.lit (.bool true))) { args := [] } = true := h2
  rw [List.length_map] at h3
  by_cases hl : is.length ≤ 63
  · exact hl
  · rw [decide_eq_true (by omega : (63 : Int) < (is.length : Nat))] at h3
    exact Bool.noConfusion (show false = true from h3)

theorem post_ok {args : List WData} : cl0.post args (.bool true) args = true := by kernel_rfl
theorem promised0 : row0.toRowW.promised := by w_witness2
theorem frees0 : frees row0.toRowW = true := by decide +kernel
theorem opens0 : opensWell p0 = true := by decide +kernel

theorem row_holds (k1 : row0.wellSaid = true) (walk : WalkLaw) : row0.Holds := by
  refine LW.hideGoal fun GG hGG => ?_
  obtain ⟨hsame, hu, ha, hap, hm⟩ := frees_parts frees0
  refine hGG ?_
  clear hGG GG
  refine ⟨k1, promised0, ⟨⟨rfl, rfl, rfl, rfl, rfl, by decide +kernel⟩, opens0, rfl⟩, promised0.witness, fun w => ?_⟩
  refine LW.hideGoal fun GG hGG => ?_
  obtain ⟨s, s₀, s₁, hA, hf, hg0, hT, hz, hg1, hd, hL⟩ := top_ran w
  refine hGG ?_
  clear hGG GG
  refine ⟨⟨s, hA⟩, fun s' hs' => ?_⟩
  obtain rfl : s' = s := AfterImport.unique hs' hA
  refine ⟨s₀, hf, hg0, s₁, hT, fun n hn => ?_, (fun x hx => nomatch hx), (fun x hx => nomatch hx), ?_⟩
  · obtain rfl : n = ("law" : Str) := by
      have : n ∈ ([("law" : Str)] : List Str) := hn
      exact List.mem_singleton.mp this
    exact hd
  refine ClaimW.callFrom_of_specG (c := cl0) (tree := fun vs => do match ← nsGet mainNs ("law" : Str) with
      | some f => do ret (← PySem.call f vs)
      | none => unsupported "claim.caller:no-such-global") hz hg1 fun args hpre hlay ord hord => ?_
  refine LW.hideGoal fun GG hGG => ?_
  obtain ⟨is, rfl, hlen⟩ := pre_of hpre
  obtain ⟨vs, hl1, hvs⟩ := lay_ints (R := cl0.records) (cl := classAt s₁.heap) (P := w.params) (ord := ord) is s₁
  refine hGG ?_
  clear hGG GG
  generalize hS : ({ s₁ with toks := s₁.toks + is.length } : Shared) = s2 at hl1
  have hlaid : layAllW cl0.records (classAt s₁.heap) w.params ord [.list (is.map .int)] s₁ = some ([.ref s2.heap.objs.size], { s2 with heap := s2.heap.push { cls := .type "list", data := .seq vs.toArray } }) := by
    unfold layAllW
    simp only [layW]
    rw [hl1]
    rfl
  refine ⟨_, _, hlaid, ?_⟩
  have keeps := layAllW_keeps _ _ _ hlaid
  have hal := layAllW_rest _ _ _ hlaid
  refine LW.hideGoal fun GG hGG => ?_
  obtain ⟨as, hrd, hin, hold⟩ := reads_layAllW hord _ _ _ hlaid hlay _ (fun _ _ e => e)
  have hgens : s2.gens = #[] := by rw [← hS]; exact hg1
  have hos : s2.os = s₁.os := by rw [← hS]
  have Ld : Laid cl0.records w s₁ { s2 with heap := s2.heap.push { cls := .type "list", data := .seq vs.toArray } } [.list (is.map .int)] [.ref s2.heap.objs.size] as := ⟨⟨ord, hord, hlaid⟩, hrd, hin, hold, keeps, hgens, hos⟩
  obtain ⟨f, hgf, hw⟩ := walk w { s2 with heap := s2.heap.push { cls := .type "list", data := .seq vs.toArray } } is (.ref s2.heap.objs.size) (hL.mono keeps) hlen ⟨_, vs, rfl, ⟨_, Heap.get?_push_size _ rfl⟩, hvs _ _⟩ hgens
  obtain ⟨mg, hmg, hx⟩ := hgf
  refine hGG ?_
  clear hGG GG
  refine wpAny_bind (wpAny_nsGet hmg ?_)
  rw [hx]
  refine wpAny_bind (wpAny_mono hw (fun r s' h => ?_) fun _ _ h => h.elim)
  obtain ⟨rfl, hk, ho, hgn⟩ := h
  have g : GoodW cl0 (classAt s₁.heap) (ExcName.means s₁.heap) [.list (is.map .int)] { s2 with heap := s2.heap.push { cls := .type "list", data := .seq vs.toArray } } (.ok (.ret (.bool true))) s' :=
    ⟨.inl ⟨.bool true, .bool true, [], rfl, fun cls => rfl, .bool true, post_ok, fun _ => ⟨List.nodup_nil, fun a ha => nomatch ha⟩⟩, hk, ho, hgn⟩
  have z := g.toG.laid (c := cl0) hsame rfl (ident_freeW hu ha hap) Ld
  exact wpAny_pure ⟨_, rfl, z.1, z.2.1, z.2.2, fun q => by cases q⟩
end LW
namespace LW
theorem S_append (a b : List Nat) : S a ++ S b = S (a ++ b) := by
  show (⟨a.toArray ++ b.toArray⟩ : Str) = ⟨(a ++ b).toArray⟩
  congr 1; simp
theorem join_S : ∀ segs : List (List Nat), Txt.join "" (segs.map S) = S segs.flatten := by
  intro segs
  show Builtin.Str.glued "" (segs.map S) = _
  rw [StrLaws.glued_eq_join]
  induction segs with
  | nil => rfl
  | cons a r ih =>
    cases r with
    | nil => show S a = S (a ++ []); rw [List.append_nil]
    | cons b r =>
      show S a ++ "" ++ Str.join "" ((b :: r).map S) = _
      rw [ih]
      show S a ++ S [] ++ S _ = _
      rw [S_append, S_append, List.append_nil]; rfl
theorem joinOk_of {sep : Str} {texts : List Str} (h : (texts.map (·.length)).sum + texts.length * sep.length ≤ 100000) : JoinOk sep texts = true := by
  unfold JoinOk
  rw [StrLaws.joinTotal]
  have : Builtin.Str.tooLong ((texts.map (·.length)).sum + texts.length * sep.length) = false := by
    unfold Builtin.Str.tooLong
    exact decide_eq_false (Nat.not_lt.mpr (Nat.le_trans h (by decide)))
  rw [this]; rfl

theorem fold_fix : ∀ c ∈ chrs, uns0 c = false ∧ foldS b3 c = S [c] := by decide +kernel
theorem fold_caps : ∀ c ∈ chrs, isLet c = true → ∀ k < 11, uns0 (capsL.getD k 0 + c - 97) = false ∧ foldS b3 (capsL.getD k 0 + c - 97) = S [c] ∧ capsL.getD k 0 + c - 97 ≤ 0x10FFFF := by decide +kernel
theorem fold_lig : ∀ b < 2, ∀ y ∈ foldT b, uns0 y.2 = false ∧ foldS b3 y.2 = y.1 ∧ y.1.length = 2 ∧ y.2 ≤ 0x10FFFF := by decide +kernel
theorem uns_all : ∀ k < 27, uns0 (unsL.getD k 0) = true ∧ unsL.getD k 0 ≤ 0x10FFFF ∧ Builtin.Str.tooLong (Txt.lower (S [unsL.getD k 0])).length = false := by decide +kernel
theorem foldT_mod (style : Nat) : foldT style = foldT (style % 2) := by unfold foldT; rw [Nat.mod_mod]
theorem lookup_memS {β : Type} {x : Str} {v : β} : ∀ {l : List (Str × β)}, l.lookup x = some v → (x, v) ∈ l
  | [], h => by cases h
  | (k, u) :: l, h => by
    rw [List.lookup_cons] at h
    cases hb : x == k with
    | true => rw [hb] at h; cases h; rw [eq_of_beq hb]; exact List.mem_cons_self
    | false => rw [hb] at h; exact List.mem_cons_of_mem _ (lookup_memS h)

/-- what one step of the encoder gives is read back as that piece of the text -/
theorem one_back {l : List Nat} {style a : Nat} (hch : ∀ c ∈ l, c ∈ chrs) (ha : a < l.length) :
    uns0 (cOne l style a) = false ∧ cOne l style a ≤ 0x10FFFF ∧ cNext l style a ≤ l.length ∧ foldS b3 (cOne l style a) = S ((l.take (cNext l style a)).drop a) := by
  by_cases h2 : cTwo l style a = true
  · have hn : cNext l style a = a + 2 := if_pos h2
    have ho : cOne l style a = ((foldT style).lookup (seg l a)).getD 0 := if_pos h2
    refine LW.hideGoal fun GG hGG => ?_
    obtain ⟨n, hn2⟩ := Option.isSome_iff_exists.mp (Bool.and_eq_true_iff.mp h2).2
    have hm : ((seg l a, n) : Str × Nat) ∈ foldT (style % 2) := by rw [← foldT_mod]; exact lookup_memS hn2
    obtain ⟨e1, e2, e3, e4⟩ := fold_lig _ (Nat.mod_lt _ (by decide)) _ hm
    refine hGG ?_
    clear hGG GG
    rw [ho, hn2, hn]
    refine ⟨e1, e4, ?_, e2⟩
    unfold seg at e3
    rw [S_length, List.length_drop, List.length_take] at e3
    omega
  · have hn : cNext l style a = a + 1 := if_neg h2
    have hg : l.getD a 0 = l[a] := by rw [List.getD_eq_getElem?_getD, List.getElem?_eq_getElem ha]; rfl
    have hc := hch l[a] (List.getElem_mem ha)
    have hs : (l.take (a + 1)).drop a = [l[a]] := by
      rw [List.drop_take, List.drop_eq_getElem_cons ha]
      rw [show a + 1 - a = 1 by omega]; rfl
    rw [hn, hs]
    by_cases hl : (isLet (l.getD a 0) && decide (0 < (style + a) % 12)) = true
    · have ho : cOne l style a = capsL.getD ((style + a) % 12 - 1) 0 + l.getD a 0 - 97 := by unfold cOne; rw [if_neg h2, if_pos hl]
      refine LW.hideGoal fun GG hGG => ?_
      obtain ⟨l1, l2⟩ := Bool.and_eq_true_iff.mp hl
      have := of_decide_eq_true l2
      have := Nat.mod_lt (style + a) (by decide : 0 < 12)
      rw [hg] at l1 ho
      obtain ⟨e1, e2, e3⟩ := fold_caps _ hc l1 ((style + a) % 12 - 1) (by omega)
      refine hGG ?_
      clear hGG GG
      rw [ho]; exact ⟨e1, e3, ha, e2⟩
    · have ho : cOne l style a = l.getD a 0 := by unfold cOne; rw [if_neg h2, if_neg hl]
      rw [hg] at ho
      obtain ⟨e1, e2⟩ := fold_fix _ hc
      rw [ho]
      refine ⟨e1, ?_, ha, e2⟩
      have : ∀ c ∈ chrs, c ≤ 0x10FFFF := by decide
      exact this _ hc
theorem prepT_append (u : Nat → Bool) (b : Nat → Option Str) (x y : List Nat) : prepT u b (x ++ y) = prepT u b x ++ prepT u b y := by unfold prepT; rw [List.filter_append, List.map_append]
noncomputable def okC (c : Nat) : Prop := c ≤ 0x10FFFF ∧ (b3 c = none → Builtin.Str.tooLong (Txt.lower (S [c])).length = false)
theorem add_back {l : List Nat} {style a : Nat} (hch : ∀ c ∈ l, c ∈ chrs) (ha : a < l.length) :
    prepT uns0 b3 (cAdd l style a) = [S ((l.take (cNext l style a)).drop a)] ∧ (∀ c ∈ cAdd l style a, okC c) ∧ (cAdd l style a).length ≤ 2 := by
  refine LW.hideGoal fun GG hGG => ?_
  obtain ⟨e1, e2, e3, e4⟩ := one_back (style := style) hch ha
  refine hGG ?_
  clear hGG GG
  have fit : b3 (cOne l style a) = none → Builtin.Str.tooLong (Txt.lower (S [cOne l style a])).length = false := fun e => by
    unfold foldS at e4
    rw [e] at e4
    rw [show Txt.lower (S [cOne l style a]) = _ from e4, S_length]
    refine decide_eq_false (Nat.not_lt.mpr (Nat.le_trans ?_ (by decide : 2 ≤ sizeLine)))
    rw [List.length_drop, List.length_take]
    have : cNext l style a ≤ a + 2 := by unfold cNext; split <;> omega
    omega
  unfold cAdd
  split
  · obtain ⟨u1, u2⟩ := uns_all ((style / 5 + cNext l style a) % 27) (Nat.mod_lt _ (by decide))
    refine ⟨?_, fun c hc => ?_, Nat.le_refl _⟩
    · unfold prepT
      simp only [List.filter_cons, List.filter_nil, e1, u1, Bool.not_true, Bool.not_false, if_true, if_false, List.map_cons, List.map_nil, e4, Bool.false_eq_true]
    · simp only [List.mem_cons, List.not_mem_nil, or_false] at hc
      rcases hc with rfl | rfl
      · exact ⟨e2, fit⟩
      · exact ⟨u2.1, fun _ => u2.2⟩
  · refine ⟨?_, fun c hc => ?_, by simp⟩
    · unfold prepT
      simp only [List.filter_cons, List.filter_nil, e1, Bool.not_false, if_true, List.map_cons, List.map_nil, e4]
    · rw [List.mem_singleton.mp hc]; exact ⟨e2, fit⟩
theorem run_back {l : List Nat} {style : Nat} (hch : ∀ c ∈ l, c ∈ chrs) : ∀ (n a : Nat) (acc : List Nat) (segs : List (List Nat)), l.length - a ≤ n → a ≤ l.length → prepT uns0 b3 acc = segs.map S → segs.flatten = l.take a → (∀ c ∈ acc, okC c) → acc.length ≤ 2 * a →
    ∃ segs' : List (List Nat), prepT uns0 b3 (codesRun l style a acc).2 = segs'.map S ∧ segs'.flatten = l ∧ (∀ c ∈ (codesRun l style a acc).2, okC c) ∧ (codesRun l style a acc).2.length ≤ 2 * l.length := by
  intro n
  induction n with
  | zero =>
    intro a acc segs h1 h2 h3 h4 h5 h6
    have : a = l.length := by omega
    subst this
    rw [codesRun_eq]
    rw [dif_neg (Nat.lt_irrefl _)]
    exact ⟨segs, h3, by rw [h4, List.take_length], h5, h6⟩
  | succ n ih =>
    intro a acc segs h1 h2 h3 h4 h5 h6
    rw [codesRun_eq]
    by_cases ha : a < l.length
    · rw [dif_pos ha]
      refine LW.hideGoal fun GG hGG => ?_
      obtain ⟨e1, e2, e3⟩ := add_back (style := style) hch ha
      obtain ⟨_, _, o3, _⟩ := one_back (style := style) hch ha
      refine hGG ?_
      clear hGG GG
      have hlt := cNext_lt l style a
      refine ih (cNext l style a) (acc ++ cAdd l style a) (segs ++ [(l.take (cNext l style a)).drop a]) (by omega) o3 ?_ ?_ ?_ ?_
      · rw [prepT_append, h3, e1, List.map_append]; rfl
      · rw [List.flatten_append, h4]
        have : l.take a = (l.take (cNext l style a)).take a := by rw [List.take_take, Nat.min_eq_left (by omega)]
        rw [this, List.flatten_cons, List.flatten_nil, List.append_nil, List.take_append_drop]
      · intro c hc
        rcases List.mem_append.mp hc with hc | hc
        · exact h5 c hc
        · exact e2 c hc
      · rw [List.length_append]; omega
    · rw [dif_neg ha]
      have : a = l.length := by omega
      subst this
      exact ⟨segs, h3, by rw [h4, List.take_length], h5, h6⟩
theorem codes_back {l : List Nat} {style : Nat} (hch : ∀ c ∈ l, c ∈ chrs) : Txt.join "" (prepT uns0 b3 (codesOf l style)) = S l ∧ (∀ c ∈ codesOf l style, okC c) ∧ (codesOf l style).length ≤ 2 * l.length ∧ ∃ segs : List (List Nat), prepT uns0 b3 (codesOf l style) = segs.map S ∧ segs.flatten = l := by
  refine LW.hideGoal fun GG hGG => ?_
  obtain ⟨segs, h1, h2, h3, h4⟩ := run_back (style := style) hch l.length 0 [] [] (by omega) (by omega) rfl rfl (by simp) (by simp)
  refine hGG ?_
  clear hGG GG
  exact ⟨by show Txt.join "" (prepT uns0 b3 (codesRun l style 0 []).2) = _; rw [h1, join_S, h2], h3, h4, segs, h1, h2⟩

/-! the octets -/
theorem and_tabs : ∀ x < 256, (x &&& 63 = x % 64) ∧ ((x &&& 64 = 0) ↔ x / 64 % 2 = 0) := by decide +kernel
theorem valOf_add : ∀ (l : List Nat) (v : Nat), valOf v l = v * 64 ^ l.length + valOf 0 l
  | [], v => by simp [valOf]
  | x :: l, v => by
    unfold valOf
    rw [valOf_add l (v * 64 + (x &&& 63)), valOf_add l (0 * 64 + (x &&& 63)), List.length_cons, Nat.pow_succ, Nat.add_mul, Nat.zero_mul, Nat.zero_add, Nat.add_assoc]
    congr 1
    rw [Nat.mul_comm (64 ^ l.length) 64, ← Nat.mul_assoc]
theorem goodV_cons {x : Nat} {l : List Nat} (hx : x &&& 64 ≠ 0) (h : goodV l) : goodV (x :: l) := by
  cases l with
  | nil => exact h.elim
  | cons y r => exact ⟨hx, h⟩
theorem more_back {t : Nat} (ht : t < 2) : ∀ (n left : Nat) (acc : List Nat), left ≤ n → goodV (acc.map (· + t * 128)) →
    goodV ((more left acc).map (· + t * 128)) ∧ valOf 0 ((more left acc).map (· + t * 128)) = left * 64 ^ acc.length + valOf 0 (acc.map (· + t * 128)) := by
  intro n
  induction n with
  | zero =>
    intro left acc h hg
    have : left = 0 := by omega
    subst this
    rw [more_eq]
    rw [dif_pos rfl, Nat.zero_mul, Nat.zero_add]; exact ⟨hg, rfl⟩
  | succ n ih =>
    intro left acc h hg
    rw [more_eq]
    by_cases h0 : left = 0
    · rw [dif_pos h0, h0, Nat.zero_mul, Nat.zero_add]; exact ⟨hg, rfl⟩
    · rw [dif_neg h0]
      have hl := Nat.div_lt_self (Nat.pos_of_ne_zero h0) (by decide : 1 < 64)
      have hm := Nat.mod_lt left (by decide : 0 < 64)
      obtain ⟨a1, a2⟩ := and_tabs (64 + left % 64 + t * 128) (by omega)
      obtain ⟨g, v⟩ := ih (left / 64) ((64 + left % 64) :: acc) (by omega) (by
        rw [List.map_cons]
        exact goodV_cons (fun e => by have := a2.mp e; omega) hg)
      refine ⟨g, v.trans ?_⟩
      rw [List.map_cons, List.length_cons]
      conv => lhs; rhs; unfold valOf
      rw [valOf_add, a1, List.length_map, Nat.pow_succ, ← Nat.add_assoc]
      congr 1
      have e : (64 + left % 64 + t * 128) % 64 = left % 64 := by omega
      rw [e, Nat.zero_mul, Nat.zero_add]
      have e2 : left = left / 64 * 64 + left % 64 := by omega
      conv => rhs; rw [e2]
      rw [Nat.add_mul]
      congr 1
      rw [Nat.mul_comm (64 ^ acc.length) 64, ← Nat.mul_assoc]
theorem oct_back (turn code : Nat) (h : code ≤ 0x10FFFF) : goodV (octOf turn code) ∧ (octOf turn code).length ≤ 9 ∧ valOf 0 (octOf turn code) = code := by
  have ht := Nat.mod_lt turn (by decide : 0 < 2)
  have hm := Nat.mod_lt code (by decide : 0 < 64)
  obtain ⟨a1, a2⟩ := and_tabs (code % 64 + turn % 2 * 128) (by omega)
  obtain ⟨g, v⟩ := more_back ht (code / 64) (code / 64) [code % 64] (Nat.le_refl _) (a2.mpr (by omega))
  refine ⟨g, ?_, v.trans ?_⟩
  · unfold octOf
    rw [List.length_map]
    exact Nat.le_trans (more_length 4 _ _ (by omega)) (Nat.le_of_ble_eq_true rfl)
  · show code / 64 * 64 ^ 1 + (0 * 64 + ((code % 64 + turn % 2 * 128) &&& 63)) = code
    rw [a1]; omega
noncomputable def octGs : Nat → List Nat → List (List Nat)
  | _, [] => []
  | i, c :: l => octOf i c :: octGs (i + 1) l
theorem octGs_flat : ∀ (l : List Nat) (i : Nat), octsFrom i l = (octGs i l).flatten
  | [], _ => rfl
  | c :: l, i => by show octOf i c ++ octsFrom (i + 1) l = octOf i c ++ (octGs (i + 1) l).flatten; rw [octGs_flat l]
theorem octGs_len : ∀ (l : List Nat) (i : Nat), (octGs i l).length = l.length
  | [], _ => rfl
  | c :: l, i => by show _ + 1 = _ + 1; rw [octGs_len l]
theorem octGs_good : ∀ (l : List Nat) (i : Nat), (∀ c ∈ l, c ≤ 0x10FFFF) → ∀ g ∈ octGs i l, goodV g ∧ g.length ≤ 9 ∧ valOf 0 g ≤ 0x10FFFF
  | [], _, _ => fun g hg => nomatch hg
  | c :: l, i, h => fun g hg => by
    rcases memC hg with rfl | hg
    · obtain ⟨h1, h2, h3⟩ := oct_back i c (h c List.mem_cons_self)
      exact ⟨h1, h2, by rw [h3]; exact h c List.mem_cons_self⟩
    · exact octGs_good l (i + 1) (fun c hc => h c (List.mem_cons_of_mem _ hc)) g hg
theorem octGs_val : ∀ (l : List Nat) (i : Nat), (∀ c ∈ l, c ≤ 0x10FFFF) → (octGs i l).map (valOf 0) = l
  | [], _, _ => rfl
  | c :: l, i, h => by
    show valOf 0 (octOf i c) :: (octGs (i + 1) l).map (valOf 0) = _
    rw [(oct_back i c (h c List.mem_cons_self)).2.2, octGs_val l (i + 1) fun c hc => h c (List.mem_cons_of_mem _ hc)]
theorem chrV_octGs (l : List Nat) (h : ∀ c ∈ l, c ≤ 0x10FFFF) : chrV (octGs 0 l) = .lst (l.map fun c => .str (S [c])) := by
  unfold chrV
  conv => rhs; rw [← octGs_val l 0 h]
  rw [List.map_map]; rfl
end LW
namespace LW
noncomputable def leftT : List (List Town) := [[0], [1], [2], [3], [4], [5], [0, 1], [0, 3], [1, 3], [2, 4]]
noncomputable def rightT : List (List Town) := [[1], [2], [3], [4], [5], [6], [2, 3], [2, 4], [3, 4], [5, 6]]
noncomputable def markT : List Mark := [.add, .add, .add, .put, .lay, .del]
noncomputable def lineOf (n : Int) : Line := (leftT.getD (n.toNat % 10) [], markT.getD (n.toNat / 100 % 6) .add, rightT.getD (n.toNat / 10 % 10) [])
theorem left_txt : ∀ i < 10, lefts.getD i default = txt (leftT.getD i []) := by decide +kernel
theorem right_txt : ∀ i < 10, rights.getD i default = txt (rightT.getD i []) := by decide +kernel
theorem mark_txt : ∀ i < 6, marks.getD i default = (markT.getD i .add).s := by decide +kernel
theorem lines_eq (numbers : List Int) : (linesOf numbers).map pvLine = (numbers.map lineOf).map pvLn := by
  unfold linesOf
  rw [List.map_map, List.map_map]
  refine List.map_congr_left fun n _ => ?_
  show PV.tup [.str (lefts.getD (n.toNat % 10) default), .str (marks.getD (n.toNat / 100 % 6) default), .str (rights.getD (n.toNat / 10 % 10) default)] = PV.tup [.str (txt (leftT.getD (n.toNat % 10) [])), .str (markT.getD (n.toNat / 100 % 6) .add).s, .str (txt (rightT.getD (n.toNat / 10 % 10) []))]
  rw [left_txt _ (Nat.mod_lt _ (by decide)), right_txt _ (Nat.mod_lt _ (by decide)), mark_txt _ (Nat.mod_lt _ (by decide))]

/-- a line as the law writes it -/
structure LineOk (l : Line) : Prop where
  l1 : l.1 ≠ []
  l2 : l.1.length ≤ 2
  r1 : l.2.2 ≠ []
  r2 : l.2.2.length ≤ 2
theorem left_ok : ∀ i < 10, leftT.getD i [] ≠ [] ∧ (leftT.getD i []).length ≤ 2 := by decide
theorem right_ok : ∀ i < 10, rightT.getD i [] ≠ [] ∧ (rightT.getD i []).length ≤ 2 := by decide
theorem lineOf_ok (n : Int) : LineOk (lineOf n) :=
  ⟨(left_ok _ (Nat.mod_lt _ (by decide))).1, (left_ok _ (Nat.mod_lt _ (by decide))).2, (right_ok _ (Nat.mod_lt _ (by decide))).1, (right_ok _ (Nat.mod_lt _ (by decide))).2⟩

noncomputable def markN : Mark → List Nat
  | .add => [45, 62] | .put => [58, 61] | .lay => [124, 61] | .del => [45, 61]
theorem markN_S : ∀ k : Mark, k.s = S (markN k) := by intro k; cases k <;> decide +kernel
noncomputable def lineN (l : Line) : List Nat := l.1.map lt ++ markN l.2.1 ++ l.2.2.map lt
theorem lineT_S (l : Line) : lineT l = S (lineN l) := by
  unfold lineT lineN txt
  rw [markN_S, S_append, S_append]
noncomputable def textOf : List Line → List Nat
  | [] => []
  | l :: r => lineN l ++ (match r with | [] => [] | _ :: _ => 59 :: textOf r)
theorem textOf_one (l : Line) : textOf [l] = lineN l := by unfold textOf; simp
theorem textOf_two (l l' : Line) (r : List Line) : textOf (l :: l' :: r) = lineN l ++ 59 :: textOf (l' :: r) := by
  conv => lhs; unfold textOf
theorem join_lines : ∀ ls : List Line, Txt.join ";" (ls.map lineT) = S (textOf ls) := by
  intro ls
  show Builtin.Str.glued ";" (ls.map lineT) = _
  rw [StrLaws.glued_eq_join]
  induction ls with
  | nil => rfl
  | cons a r ih =>
    cases r with
    | nil => show lineT a = _; rw [textOf_one, lineT_S]
    | cons b r =>
      show lineT a ++ ";" ++ Str.join ";" ((b :: r).map lineT) = _
      rw [ih, textOf_two, lineT_S]
      show S (lineN a) ++ S [59] ++ S _ = _
      rw [S_append, S_append, List.append_assoc]; rfl
theorem lineN_len {l : Line} (h : LineOk l) : (lineN l).length ≤ 6 := by
  unfold lineN
  have h1 := h.l2
  have h2 := h.r2
  have : ∀ k, (markN k).length = 2 := by intro k; cases k <;> rfl
  rw [List.length_append, List.length_append, List.length_map, List.length_map, this]; omega
theorem textOf_len : ∀ {ls : List Line}, (∀ l ∈ ls, LineOk l) → (textOf ls).length ≤ 7 * ls.length
  | [], _ => Nat.zero_le _
  | [l], h => by have := lineN_len (h l List.mem_cons_self); rw [textOf_one]; simp only [List.length_cons, List.length_nil]; omega
  | l :: l' :: r, h => by
    have h1 := lineN_len (h l List.mem_cons_self)
    have h2 := textOf_len (ls := l' :: r) fun x hx => h x (List.mem_cons_of_mem _ hx)
    rw [textOf_two, List.length_append, List.length_cons]
    simp only [List.length_cons] at h2 ⊢
    omega
theorem lt_chrs : ∀ t : Town, lt t ∈ chrs := by decide
theorem mark_chrs : ∀ k : Mark, ∀ c ∈ markN k, c ∈ chrs := by intro k; cases k <;> decide
theorem lineN_chrs (l : Line) : ∀ c ∈ lineN l, c ∈ chrs := fun c hc => by
  unfold lineN at hc
  rcases List.mem_append.mp hc with hc | hc
  · rcases List.mem_append.mp hc with hc | hc
    · obtain ⟨t, _, rfl⟩ := List.mem_map.mp hc; exact lt_chrs t
    · exact mark_chrs _ c hc
  · obtain ⟨t, _, rfl⟩ := List.mem_map.mp hc; exact lt_chrs t
theorem textOf_chrs : ∀ (ls : List Line), ∀ c ∈ textOf ls, c ∈ chrs
  | [], c, hc => nomatch hc
  | [l], c, hc => by rw [textOf_one] at hc; exact lineN_chrs l c hc
  | l :: l' :: r, c, hc => by
    rw [textOf_two] at hc
    rcases List.mem_append.mp hc with hc | hc
    · exact lineN_chrs l c hc
    · rcases memC hc with rfl | hc
      · decide
      · exact textOf_chrs (l' :: r) c hc

/-! the cut -/
theorem tk_heads : ∀ y ∈ tk0, (∀ t : Town, y.1.cps.toList.head? ≠ some (lt t)) ∧ (y.1.cps.toList.head? = some 59 → y.1 = ";") := by decide +kernel
theorem look_none {l : List Nat} (h : ∀ y ∈ tk0, y.1 ≠ S l) : tk0.lookup (S l) = none := by
  cases e : tk0.lookup (S l) with
  | none => rfl
  | some v => exact absurd rfl (h _ (lookup_memS e))
theorem S_list (l : List Nat) : (S l).cps.toList = l := by simp [S]
theorem look_town (t : Town) (r : List Nat) : tk0.lookup (S (lt t :: r)) = none := look_none fun y hy e => (tk_heads y hy).1 t (by rw [e, S_list]; rfl)
theorem look_semi (x : Nat) (r : List Nat) : tk0.lookup (S (59 :: x :: r)) = none := look_none fun y hy e => by
  have h := (tk_heads y hy).2 (by rw [e, S_list]; rfl)
  rw [h] at e
  have h2 : S [59] = S (59 :: x :: r) := e
  have := S_inj h2
  simp at this
theorem look_59 : tk0.lookup (S [59]) = some 13 := by decide +kernel
theorem look_mark : ∀ k : Mark, tk0.lookup (S (markN k)) = some (mkCode k).toNat := by intro k; cases k <;> decide +kernel
theorem look_mark3 : ∀ (k : Mark) (t : Town), tk0.lookup (S (markN k ++ [lt t])) = none := by intro k; cases k <;> decide +kernel
theorem find_lt : ∀ t : Town, Txt.find sevens (S [lt t]) = (t.val : Nat) := by decide +kernel
theorem cut_town (t : Town) (r : List Nat) : cutRow tk0 (lt t :: r) = (Sym.town t).i :: cutRow tk0 r := by
  have hs : szOf tk0 (lt t :: r) 3 = 1 := by
    unfold szOf
    rw [show (lt t :: r).take (1 + 2) = lt t :: r.take 2 from rfl, look_town]
    simp only [Option.isSome_none, Bool.false_eq_true, if_false]
    unfold szOf
    rw [show (lt t :: r).take (0 + 2) = lt t :: r.take 1 from rfl, look_town]
    simp only [Option.isSome_none, Bool.false_eq_true, if_false]
    unfold szOf
    rfl
  rw [cutRow_cons, hs]
  congr 1
  unfold tokOf
  rw [show (lt t :: r).take 1 = lt t :: [] from rfl, look_town, find_lt]; rfl
theorem cut_towns : ∀ (ts : List Town) (r : List Nat), cutRow tk0 (ts.map lt ++ r) = ts.map (fun t => (Sym.town t).i) ++ cutRow tk0 r
  | [], r => rfl
  | t :: ts, r => by
    show cutRow tk0 (lt t :: (ts.map lt ++ r)) = _
    rw [cut_town, cut_towns ts r]; rfl
theorem cut_semi (x : Nat) (r : List Nat) : cutRow tk0 (59 :: x :: r) = Sym.sep.i :: cutRow tk0 (x :: r) := by
  have hs : szOf tk0 (59 :: x :: r) 3 = 1 := by
    unfold szOf
    rw [show (59 :: x :: r).take (1 + 2) = 59 :: x :: r.take 1 from rfl, look_semi]
    simp only [Option.isSome_none, Bool.false_eq_true, if_false]
    unfold szOf
    rw [show (59 :: x :: r).take (0 + 2) = 59 :: x :: [] from rfl, look_semi]
    simp only [Option.isSome_none, Bool.false_eq_true, if_false]
    unfold szOf
    rfl
  rw [cutRow_cons, hs]
  congr 1
theorem cut_mark (k : Mark) (t : Town) (r : List Nat) : cutRow tk0 (markN k ++ lt t :: r) = (Sym.mark k).i :: cutRow tk0 (lt t :: r) := by
  obtain ⟨a, b, hab⟩ : ∃ a b, markN k = [a, b] := by cases k <;> exact ⟨_, _, rfl⟩
  have h2 := look_mark k
  have h3 := look_mark3 k t
  rw [hab] at h2 h3 ⊢
  show cutRow tk0 (a :: b :: lt t :: r) = _
  have hs : szOf tk0 (a :: b :: lt t :: r) 3 = 2 := by
    unfold szOf
    rw [show (a :: b :: lt t :: r).take (1 + 2) = [a, b] ++ [lt t] from rfl, h3]
    simp only [Option.isSome_none, Bool.false_eq_true, if_false]
    unfold szOf
    rw [show (a :: b :: lt t :: r).take (0 + 2) = [a, b] from rfl, h2]
    rfl
  rw [cutRow_cons, hs]
  congr 1
  unfold tokOf
  rw [show (a :: b :: lt t :: r).take 2 = [a, b] from rfl, h2]
  show (((mkCode k).toNat : Nat) : Int) = mkCode k
  cases k <;> rfl
noncomputable def lineSy (l : Line) : List Sym := l.1.map Sym.town ++ Sym.mark l.2.1 :: l.2.2.map Sym.town
noncomputable def rowOf : List Line → List Sym
  | [] => []
  | l :: r => lineSy l ++ (match r with | [] => [.eof] | _ :: _ => .sep :: rowOf r)
theorem rowOf_one (l : Line) : rowOf [l] = lineSy l ++ [.eof] := by unfold rowOf; rfl
theorem rowOf_two (l l' : Line) (r : List Line) : rowOf (l :: l' :: r) = lineSy l ++ .sep :: rowOf (l' :: r) := by
  conv => lhs; unfold rowOf
theorem cut_line {l : Line} (h : LineOk l) (r : List Nat) : cutRow tk0 (lineN l ++ r) = (lineSy l).map Sym.i ++ cutRow tk0 r := by
  obtain ⟨ss, k, gs⟩ := l
  have h3 : gs ≠ [] := h.r1
  cases gs with
  | nil => exact absurd rfl h3
  | cons g gs =>
    unfold lineN lineSy
    show cutRow tk0 (ss.map lt ++ markN k ++ (g :: gs).map lt ++ r) = _
    rw [List.append_assoc, List.append_assoc, cut_towns]
    show _ ++ cutRow tk0 (markN k ++ (lt g :: (gs.map lt ++ r))) = _
    rw [cut_mark]
    show _ ++ _ :: cutRow tk0 ((g :: gs).map lt ++ r) = _
    rw [cut_towns]
    simp only [List.map_append, List.map_map, List.map_cons, List.append_assoc, List.cons_append]
    rfl
theorem lineN_cons {l : Line} (h : LineOk l) : ∃ x r, lineN l = x :: r := by
  obtain ⟨ss, k, gs⟩ := l
  have h1 : ss ≠ [] := h.l1
  cases ss with
  | nil => exact absurd rfl h1
  | cons s ss => exact ⟨_, _, rfl⟩
theorem textOf_cons {l : Line} {r : List Line} (h : LineOk l) : ∃ x y, textOf (l :: r) = x :: y := by
  obtain ⟨x, y, e⟩ := lineN_cons h
  unfold textOf
  rw [e]; exact ⟨_, _, rfl⟩
theorem cut_text : ∀ {ls : List Line}, ls ≠ [] → (∀ l ∈ ls, LineOk l) → cutRow tk0 (textOf ls) ++ [0] = (rowOf ls).map Sym.i
  | [], h, _ => absurd rfl h
  | [l], _, h => by
    have := cut_line (h l List.mem_cons_self) []
    rw [List.append_nil, cutRow_nil, List.append_nil] at this
    rw [textOf_one, rowOf_one, this, List.map_append]; rfl
  | l :: l' :: r, _, h => by
    have ih := cut_text (ls := l' :: r) (by simp) fun x hx => h x (List.mem_cons_of_mem _ hx)
    obtain ⟨x, y, e⟩ := textOf_cons (r := r) (h l' (List.mem_cons_of_mem _ List.mem_cons_self))
    rw [textOf_two, rowOf_two, cut_line (h l List.mem_cons_self), e, cut_semi, ← e, List.append_assoc, List.cons_append, ih, List.map_append, List.map_cons]

/-! the table -/
theorem step_starts : ∀ (ts : List Town) (x : PSt) (ss : List Town), (ts.map Sym.town).foldl dstep (x, ss, [], none) = (x, ss ++ ts, [], none)
  | [], x, ss => by rw [List.append_nil]; rfl
  | t :: ts, x, ss => by
    rw [List.map_cons, List.foldl_cons]
    show (ts.map Sym.town).foldl dstep (x, ss ++ [t], [], none) = _
    rw [step_starts ts, List.append_assoc]; rfl
theorem step_goals (k : Mark) : ∀ (ts : List Town) (x : PSt) (ss gs : List Town), (ts.map Sym.town).foldl dstep (x, ss, gs, some k) = (x, ss, gs ++ ts, some k)
  | [], x, ss, gs => by rw [List.append_nil]; rfl
  | t :: ts, x, ss, gs => by
    rw [List.map_cons, List.foldl_cons]
    show (ts.map Sym.town).foldl dstep (x, ss, gs ++ [t], some k) = _
    rw [step_goals k ts, List.append_assoc]; rfl
theorem step_line (l : Line) (x : PSt) : (lineSy l).foldl dstep (x, [], [], none) = (x, l.1, l.2.2, some l.2.1) := by
  unfold lineSy
  rw [List.foldl_append, step_starts, List.foldl_cons]
  show (l.2.2.map Sym.town).foldl dstep (x, [] ++ l.1, [], some l.2.1) = _
  rw [step_goals]; rfl
theorem done_rows : ∀ {ls : List Line} (x : PSt), ls ≠ [] → (rowOf ls).foldl dstep (x, [], [], none) = (ls.foldl stepL x, [], [], none)
  | [], x, h => absurd rfl h
  | [l], x, _ => by
    rw [rowOf_one, List.foldl_append, step_line]; rfl
  | l :: l' :: r, x, _ => by
    rw [rowOf_two, List.foldl_append, step_line, List.foldl_cons]
    exact done_rows (stepL x l) (by simp)
theorem done_plain {ls : List Line} (h : ls ≠ []) : ((rowOf ls).foldl dstep (([], 0), [], [], none)).1.1 = plain ls := by
  rw [done_rows _ h]; rfl
theorem lineSy_len {l : Line} (h : LineOk l) : (lineSy l).length ≤ 5 := by
  have h1 := h.l2
  have h2 := h.r2
  unfold lineSy
  rw [List.length_append, List.length_cons, List.length_map, List.length_map]; omega
theorem rowOf_len : ∀ {ls : List Line}, (∀ l ∈ ls, LineOk l) → (rowOf ls).length ≤ 6 * ls.length
  | [], _ => Nat.zero_le _
  | [l], h => by have := lineSy_len (h l List.mem_cons_self); rw [rowOf_one, List.length_append]; simp only [List.length_cons, List.length_nil]; omega
  | l :: l' :: r, h => by
    have h1 := lineSy_len (h l List.mem_cons_self)
    have h2 := rowOf_len (ls := l' :: r) fun x hx => h x (List.mem_cons_of_mem _ hx)
    rw [rowOf_two, List.length_append, List.length_cons]
    simp only [List.length_cons] at h2 ⊢
    omega
theorem lineSz_le {l : Line} (h : LineOk l) : lineSz l ≤ 4 := by
  unfold lineSz
  exact Nat.mul_le_mul h.l2 h.r2
theorem sizes_le : ∀ {ls : List Line}, (∀ l ∈ ls, LineOk l) → (ls.map lineSz).sum ≤ 4 * ls.length
  | [], _ => Nat.zero_le _
  | l :: r, h => by
    have h1 := lineSz_le (h l List.mem_cons_self)
    have h2 := sizes_le (ls := r) fun x hx => h x (List.mem_cons_of_mem _ hx)
    rw [List.map_cons, List.sum_cons, List.length_cons]; omega
theorem plain_len (ls : List Line) : (plain ls).length ≤ (ls.map lineSz).sum := by
  have : ∀ (ls : List Line) (x : PSt), (ls.foldl stepL x).1.length ≤ x.1.length + (ls.map lineSz).sum := by
    intro ls
    induction ls with
    | nil => intro x; exact Nat.le_refl _
    | cons l r ih =>
      intro x
      have h1 := ih (stepL x l)
      have h2 := stepL_len x l
      rw [List.foldl_cons, List.map_cons, List.sum_cons]; omega
  have h := this ls ([], 0)
  rw [List.length_nil, Nat.zero_add] at h
  exact h

/-! roads go up -/
noncomputable def Up (rs : List Road) : Prop := ∀ r ∈ rs, r.1 < r.2.2
theorem Up.others {rs : List Road} (h : Up rs) (s : Town) : Up (others rs s) := fun r hr => h r (List.mem_filter.mp hr).1
theorem Up.snoc {rs : List Road} (h : Up rs) {s g : Town} {b : Bool} (hs : s < g) : Up (rs ++ [(s, b, g)]) := fun r hr => by
  rcases List.mem_append.mp hr with hr | hr
  · exact h r hr
  · rw [List.mem_singleton.mp hr]; exact hs
theorem Up.deed {rs : List Road} (h : Up rs) {s g : Town} (n : Nat) (k : Mark) (hs : s < g) : Up (deed rs n k s g) := by
  cases k with
  | add => exact h.snoc hs
  | put => exact (h.others s).snoc hs
  | lay =>
    show Up (if _ then _ else _)
    split
    · exact h.snoc hs
    · exact h
  | del => exact h.others s
theorem Up.stepG {x : PSt} (h : Up x.1) (k : Mark) (s g : Town) : Up (stepG k s x g).1 := by
  unfold LW.stepG
  split
  · rename_i hs; exact h.deed _ _ hs
  · exact h
theorem Up.stepS (k : Mark) (s : Town) : ∀ (gs : List Town) {x : PSt}, Up x.1 → Up (stepS k gs x s).1
  | [], x, h => h
  | g :: gs, x, h => Up.stepS k s gs (h.stepG k s g)
theorem Up.stepL' (k : Mark) (gs : List Town) : ∀ (ss : List Town) {x : PSt}, Up x.1 → Up (ss.foldl (LW.stepS k gs) x).1
  | [], x, h => h
  | s :: ss, x, h => Up.stepL' k gs ss (Up.stepS k s gs h)
theorem plain_up (ls : List Line) : Up (plain ls) := by
  have : ∀ (ls : List Line) (x : PSt), Up x.1 → Up (ls.foldl stepL x).1 := by
    intro ls
    induction ls with
    | nil => intro x h; exact h
    | cons l r ih => intro x h; exact ih _ (Up.stepL' _ _ _ h)
  exact this ls ([], 0) fun r hr => nomatch hr
theorem Up.onUp {rs : List Road} (h : Up rs) : OnUp (onOf rs) := fun t g hg => by
  obtain ⟨r, hr, rfl⟩ := List.mem_map.mp hg
  obtain ⟨h1, h2⟩ := List.mem_filter.mp hr
  rw [← eq_of_beq h2]; exact h r h1
theorem outs_le (rs : List Road) : outs (onOf rs) 0 = rs.length := by
  unfold outs onOf
  induction rs with
  | nil => rfl
  | cons r rs ih =>
    have key : ∀ t : Town, ((([0, 1, 2, 3, 4, 5, 6] : List Town)).map fun u => if t = u then 1 else 0).sum = 1 := by decide
    have e := key r.1
    simp only [List.drop_zero, List.length_map, List.map_cons, List.map_nil, List.sum_cons, List.sum_nil] at ih e ⊢
    have hc : ∀ u : Town, ((r :: rs).filter fun r => r.1 == u).length = (if r.1 = u then 1 else 0) + (rs.filter fun r => r.1 == u).length := fun u => by
      rw [List.filter_cons]
      by_cases hu : r.1 = u
      · rw [if_pos (beq_iff_eq.mpr hu), if_pos hu, List.length_cons]; omega
      · rw [if_neg (fun e => hu (eq_of_beq e)), if_neg hu]; omega
    simp only [hc, List.length_cons]
    omega
end LW
namespace LW
/-! sums over lists -/
noncomputable def sm {α : Type} (l : List α) (f : α → Nat) : Nat := (l.map f).sum
section
variable {α β : Type}
theorem sm_nil (f : α → Nat) : sm [] f = 0 := rfl
theorem sm_cons (x : α) (l : List α) (f : α → Nat) : sm (x :: l) f = f x + sm l f := by unfold sm; rw [List.map_cons, List.sum_cons]
theorem sm_append (l m : List α) (f : α → Nat) : sm (l ++ m) f = sm l f + sm m f := by unfold sm; rw [List.map_append, List.sum_append]
theorem sm_congr {l : List α} {f g : α → Nat} (h : ∀ x ∈ l, f x = g x) : sm l f = sm l g := by unfold sm; rw [List.map_congr_left h]
theorem sm_zero {l : List α} {f : α → Nat} (h : ∀ x ∈ l, f x = 0) : sm l f = 0 := by
  induction l with
  | nil => rfl
  | cons x l ih => rw [sm_cons, h x List.mem_cons_self, ih fun y hy => h y (List.mem_cons_of_mem _ hy)]
theorem sm_add (l : List α) (f g : α → Nat) : sm l (fun x => f x + g x) = sm l f + sm l g := by
  induction l with
  | nil => rfl
  | cons x l ih => rw [sm_cons, sm_cons, sm_cons, ih]; omega
theorem sm_mul (l : List α) (c : Nat) (f : α → Nat) : sm l (fun x => c * f x) = c * sm l f := by
  induction l with
  | nil => rfl
  | cons x l ih => rw [sm_cons, sm_cons, ih, Nat.mul_add]
theorem sm_mulr (l : List α) (c : Nat) (f : α → Nat) : sm l (fun x => f x * c) = sm l f * c := by
  rw [Nat.mul_comm, ← sm_mul]; exact sm_congr fun x _ => Nat.mul_comm _ _
theorem sm_comm (l : List α) (m : List β) (f : α → β → Nat) : sm l (fun x => sm m (f x)) = sm m fun y => sm l fun x => f x y := by
  induction l with
  | nil => exact (sm_zero fun _ _ => rfl).symm
  | cons x l ih =>
    rw [sm_cons, ih, ← sm_add]
    exact sm_congr fun y _ => (sm_cons x l fun x => f x y).symm
theorem sm_flatMap (l : List α) (g : α → List β) (f : β → Nat) : sm (l.flatMap g) f = sm l fun x => sm (g x) f := by
  induction l with
  | nil => rfl
  | cons x l ih => rw [List.flatMap_cons, sm_append, sm_cons, ih]
theorem sm_map (l : List α) (g : α → β) (f : β → Nat) : sm (l.map g) f = sm l fun x => f (g x) := by unfold sm; rw [List.map_map]; rfl
theorem sm_perm {l m : List α} (h : l.Perm m) (f : α → Nat) : sm l f = sm m f := by
  induction h with
  | nil => rfl
  | cons x h ih => rw [sm_cons, sm_cons, ih]
  | swap x y l => rw [sm_cons, sm_cons, sm_cons, sm_cons]; omega
  | trans h1 h2 i1 i2 => rw [i1, i2]
theorem sm_filter (l : List α) (p : α → Bool) (f : α → Nat) : sm (l.filter p) f = sm l fun x => if p x = true then f x else 0 := by
  induction l with
  | nil => rfl
  | cons x l ih =>
    rw [List.filter_cons, sm_cons]
    cases h : p x with
    | true => rw [if_pos rfl, if_pos rfl, sm_cons, ih]
    | false => rw [if_neg (by decide), if_neg (by decide), ih, Nat.zero_add]
theorem sm_le {l : List α} {f g : α → Nat} (h : ∀ x ∈ l, f x ≤ g x) : sm l f ≤ sm l g := sum_map_le l h
theorem le_sm {l : List α} {x : α} (f : α → Nat) (h : x ∈ l) : f x ≤ sm l f := by
  induction l with
  | nil => cases h
  | cons y l ih =>
    rw [sm_cons]
    rcases memC h with rfl | h
    · omega
    · have := ih h; omega
end
theorem sm_towns (f : Town → Nat) : sm towns f = f 0 + f 1 + f 2 + f 3 + f 4 + f 5 + f 6 := by
  unfold sm towns
  simp only [List.map_cons, List.map_nil, List.sum_cons, List.sum_nil]; omega
theorem sm_pick (t : Town) (f : Town → Nat) : sm towns (fun u => if u = t then f u else 0) = f t := by
  rw [sm_towns]
  match t with
  | 0 => simp
  | 1 => simp
  | 2 => simp
  | 3 => simp
  | 4 => simp
  | 5 => simp
  | 6 => simp

/-! the table of the pairs that stay apart, as sums -/
theorem aget_nil (k : Town × Town) : aget [] k = 0 := rfl
theorem aget_cons (y : (Town × Town) × Nat) (D : AD) (k : Town × Town) : aget (y :: D) k = if k = y.1 then y.2 else aget D k := by
  unfold aget
  rw [show (y :: D).lookup k = ((y.1, y.2) :: D).lookup k from rfl, List.lookup_cons]
  by_cases h : k = y.1
  · rw [if_pos h, show (k == y.1) = true from beq_iff_eq.mpr h]; rfl
  · rw [if_neg h, show (k == y.1) = false from beq_false_of_ne h]
theorem aget_map (k : Town × Town) (n : Nat) (k' : Town × Town) : ∀ D : AD, D.any (fun y => y.1 = k) = true → aget (D.map (fun y => if y.1 = k then (y.1, n) else y)) k' = if k' = k then n else aget D k'
  | [], h => by cases h
  | y :: D, h => by
    rw [List.map_cons, aget_cons, aget_cons]
    by_cases hy : y.1 = k
    · rw [if_pos hy]
      by_cases hk : k' = k
      · rw [if_pos (hk.trans hy.symm), if_pos hk]
      · rw [if_neg (fun e : k' = y.1 => hk (e.trans hy)), if_neg hk, if_neg (fun e : k' = y.1 => hk (e.trans hy))]
        by_cases ha : D.any (fun y => y.1 = k) = true
        · rw [aget_map k n k' D ha, if_neg hk]
        · have : D.map (fun y => if y.1 = k then (y.1, n) else y) = D := by
            conv => rhs; rw [← List.map_id D]
            refine List.map_congr_left fun z hz => ?_
            rw [if_neg (fun e => ha (List.any_eq_true.mpr ⟨z, hz, decide_eq_true e⟩))]; rfl
          rw [this]
    · rw [if_neg hy]
      have ha : D.any (fun y => y.1 = k) = true := by
        rw [List.any_cons, decide_eq_false hy, Bool.false_or] at h; exact h
      by_cases hk : k' = y.1
      · rw [if_pos hk, if_pos hk, if_neg (fun e : k' = k => hy (hk.symm.trans e))]
      · rw [if_neg hk, if_neg hk, aget_map k n k' D ha]
theorem aget_snoc (k : Town × Town) (n : Nat) (k' : Town × Town) : ∀ D : AD, ¬ D.any (fun y => y.1 = k) = true → aget (D ++ [(k, n)]) k' = if k' = k then n else aget D k'
  | [], _ => by rw [List.nil_append, aget_cons]
  | y :: D, h => by
    rw [List.cons_append, aget_cons, aget_cons]
    have hy : ¬ y.1 = k := fun e => h (by rw [List.any_cons, decide_eq_true e]; rfl)
    have ha : ¬ D.any (fun y => y.1 = k) = true := fun e => h (by rw [List.any_cons, e, Bool.or_true])
    by_cases hk : k' = y.1
    · rw [if_pos hk, if_pos hk, if_neg (fun e : k' = k => hy (hk.symm.trans e))]
    · rw [if_neg hk, if_neg hk, aget_snoc k n k' D ha]
theorem aget_aput (D : AD) (k : Town × Town) (n : Nat) (k' : Town × Town) : aget (aput D k n) k' = if k' = k then n else aget D k' := by
  unfold aput
  split
  · rename_i h; exact aget_map k n k' D h
  · rename_i h; exact aget_snoc k n k' D h

/-- one pair's share -/
noncomputable def share (c d : Town) (x y : Way) : Nat := if x.1 = c ∧ y.1 = d ∧ x.2.1 &&& y.2.1 = 0 then x.2.2 * y.2.2 else 0
theorem aget_apart1 (x y : Way) (D : AD) (c d : Town) : aget (apart1 x D y) (c, d) = aget D (c, d) + share c d x y := by
  unfold apart1 share
  by_cases hm : x.2.1 &&& y.2.1 = 0
  · rw [if_pos hm, aget_aput]
    by_cases hk : ((c, d) : Town × Town) = (x.1, y.1)
    · obtain ⟨rfl, rfl⟩ := Prod.mk.inj hk
      rw [if_pos rfl, if_pos ⟨rfl, rfl, hm⟩]
    · rw [if_neg hk, if_neg (fun h => hk (by rw [h.1, h.2.1])), Nat.add_zero]
  · rw [if_neg hm, if_neg (fun h => hm h.2.2), Nat.add_zero]
theorem aget_in (x : Way) (c d : Town) : ∀ (l : List Way) (D : AD), aget (l.foldl (apart1 x) D) (c, d) = aget D (c, d) + sm l (share c d x)
  | [], D => (Nat.add_zero _).symm
  | y :: l, D => by rw [List.foldl_cons, aget_in x c d l, aget_apart1, sm_cons]; omega
theorem aget_out (others : List Way) (c d : Town) : ∀ (l : List Way) (D : AD), aget (l.foldl (fun D x => others.foldl (apart1 x) D) D) (c, d) = aget D (c, d) + sm l fun x => sm others (share c d x)
  | [], D => (Nat.add_zero _).symm
  | x :: l, D => by rw [List.foldl_cons, aget_out others c d l, aget_in, sm_cons]; omega
theorem aget_apart (ones others : List Way) (c d : Town) : aget (apartD ones others) (c, d) = sm ones fun x => sm others (share c d x) := by
  unfold apartD
  rw [aget_out, aget_nil, Nat.zero_add]

/-! ways and what they meet -/
theorem apart_iff (a b : Nat) : a &&& b = 0 ↔ ∀ i, ¬ (a.testBit i = true ∧ b.testBit i = true) := by
  constructor
  · intro h i ⟨h1, h2⟩
    have := congrArg (·.testBit i) h
    simp only [Nat.testBit_and, h1, h2, Nat.zero_testBit] at this
    cases this
  · intro h
    refine Nat.eq_of_testBit_eq fun i => ?_
    rw [Nat.testBit_and, Nat.zero_testBit]
    have := h i
    cases h1 : a.testBit i <;> cases h2 : b.testBit i <;> simp_all
noncomputable def Met (x : Way) (i : Nat) : Prop := x.2.1.testBit i = true
theorem met_hop (x : Way) (p : Town × Nat) (i : Nat) : Met (hop x p) i ↔ Met x i ∨ i = p.1.val := by
  unfold Met hop
  rw [Nat.testBit_or, Nat.testBit_two_pow]
  simp only [Bool.or_eq_true, decide_eq_true_eq]
  exact or_congr_right ⟨fun h => h.symm, fun h => h.symm⟩
theorem tree_met {on : On} (hu : OnUp on) : ∀ (f : Nat) (y x : Way), x ∈ tree on f y → (∀ i, Met y i → Met x i) ∧ ∀ i, Met x i → Met y i ∨ y.1.val < i
  | 0, y, x, h => by
    obtain rfl := List.mem_singleton.mp h
    exact ⟨fun i h => h, fun i h => .inl h⟩
  | f + 1, y, x, h => by
    rcases memC h with rfl | h
    · exact ⟨fun i h => h, fun i h => .inl h⟩
    · refine LW.hideGoal fun GG hGG => ?_
      obtain ⟨z, hz, hx⟩ := List.mem_flatMap.mp h
      obtain ⟨h1, h2⟩ := tree_met hu f z x hx
      have hlt : y.1.val < z.1.val := kids_up hu hz
      obtain ⟨p, hp, rfl⟩ := List.mem_map.mp hz
      refine hGG ?_
      clear hGG GG
      refine ⟨fun i hi => h1 i ((met_hop y p i).mpr (.inl hi)), fun i hi => ?_⟩
      rcases h2 i hi with hi | hi
      · rcases (met_hop y p i).mp hi with hi | rfl
        · exact .inl hi
        · exact .inr hlt
      · exact .inr (Nat.lt_trans hlt hi)
end LW
namespace LW
/-- the places of the roads between two towns, summed -/
noncomputable def Mx (on : On) (u g : Town) : Nat := sm ((on u).zipIdx 1) fun p => if p.1 = g then p.2 else 0
theorem sm_zip (on : On) (u : Town) (h : Town → Nat) : sm ((on u).zipIdx 1) (fun p => p.2 * h p.1) = sm towns fun g => Mx on u g * h g := by
  have e : (fun g => Mx on u g * h g) = fun g => sm ((on u).zipIdx 1) fun p => (if p.1 = g then p.2 else 0) * h g := by
    funext g; unfold Mx; rw [sm_mulr]
  rw [e, sm_comm]
  refine sm_congr fun p _ => ?_
  have e2 : sm towns (fun g => (if p.1 = g then p.2 else 0) * h g) = sm towns fun g => if g = p.1 then p.2 * h g else 0 := sm_congr fun g _ => by
    by_cases hg : g = p.1
    · rw [if_pos hg, if_pos hg.symm]
    · rw [if_neg hg, if_neg (fun e => hg e.symm), Nat.zero_mul]
  rw [e2, sm_pick p.1 fun g => p.2 * h g]
/-- the numbers of the ways from a town to a town -/
noncomputable def Nn (on : On) : Nat → Town → Town → Nat
  | 0, u, c => if u = c then 1 else 0
  | f + 1, u, c => (if u = c then 1 else 0) + sm towns fun g => Mx on u g * Nn on f g c
theorem Mx_up {on : On} (hu : OnUp on) {u g : Town} (h : ¬ u < g) : Mx on u g = 0 := sm_zero fun p hp => by
  have hm := List.mem_zipIdx hp
  have : u < p.1 := hu u p.1 (by rw [hm.2.2]; exact List.getElem_mem ..)
  exact if_neg fun e : p.1 = g => h (e ▸ this)
theorem Nn_fix {on : On} (hu : OnUp on) : ∀ (f : Nat) (u c : Town), 7 ≤ f + u.val → Nn on (f + 1) u c = Nn on f u c
  | 0, u, c, h => absurd u.isLt (by omega)
  | f + 1, u, c, h => by
    show _ + _ = _ + _
    congr 1
    refine sm_congr fun g _ => ?_
    by_cases hg : u < g
    · rw [Nn_fix hu f g c (by have : u.val < g.val := hg; omega)]
    · rw [Mx_up hu hg, Nat.zero_mul, Nat.zero_mul]
theorem Nn_eq {on : On} (hu : OnUp on) (u c : Town) : Nn on 7 u c = (if u = c then 1 else 0) + sm ((on u).zipIdx 1) fun p => p.2 * Nn on 7 p.1 c := by
  rw [← Nn_fix hu 7 u c (by omega), sm_zip on u fun g => Nn on 7 g c]; rfl
theorem tree_sum (on : On) (c : Town) : ∀ (f : Nat) (x : Way), sm (tree on f x) (fun y => if y.1 = c then y.2.2 else 0) = x.2.2 * Nn on f x.1 c
  | 0, x => by
    show sm [x] _ = x.2.2 * (if x.1 = c then 1 else 0)
    rw [sm_cons, sm_nil]
    split <;> omega
  | f + 1, x => by
    show sm (x :: (kids on x).flatMap (tree on f)) _ = x.2.2 * ((if x.1 = c then 1 else 0) + sm towns fun g => Mx on x.1 g * Nn on f g c)
    rw [sm_cons, sm_flatMap, Nat.mul_add, ← sm_zip on x.1 fun g => Nn on f g c, ← sm_mul]
    have e : (kids on x) = ((on x.1).zipIdx 1).map (hop x) := rfl
    rw [e, sm_map]
    congr 1
    · split <;> omega
    · refine sm_congr fun p _ => ?_
      rw [tree_sum on c f (hop x p)]
      show x.2.2 * p.2 * Nn on f p.1 c = _
      rw [Nat.mul_assoc]

noncomputable def HH (on : On) (x y : Way) (c d : Town) : Nat := sm (tree on 7 x) fun x' => sm (tree on 7 y) (share c d x')
structure Apart2 (x y : Way) : Prop where
  mx : Met x x.1.val
  my : Met y y.1.val
  ox : ∀ i, Met x i → i = x.1.val ∨ (i < x.1.val ∧ i < y.1.val)
  oy : ∀ i, Met y i → i = y.1.val ∨ (i < x.1.val ∧ i < y.1.val)
  ap : ∀ i, ¬ (Met x i ∧ Met y i)
theorem share_swap (c d : Town) (x y : Way) : share c d x y = share d c y x := by
  unfold share
  rw [Nat.and_comm, Nat.mul_comm]
  by_cases h : x.1 = c ∧ y.1 = d ∧ y.2.1 &&& x.2.1 = 0
  · rw [if_pos h, if_pos ⟨h.2.1, h.1, h.2.2⟩]
  · rw [if_neg h, if_neg fun e => h ⟨e.2.1, e.1, e.2.2⟩]
theorem HH_swap (on : On) (x y : Way) (c d : Town) : HH on x y c d = HH on y x d c := by
  unfold HH
  rw [sm_comm]
  exact sm_congr fun y' _ => sm_congr fun x' _ => share_swap c d x' y'
theorem Apart2.swap {x y : Way} (a : Apart2 x y) : Apart2 y x :=
  ⟨a.my, a.mx, fun i h => (a.oy i h).imp id fun h => ⟨h.2, h.1⟩, fun i h => (a.ox i h).imp id fun h => ⟨h.2, h.1⟩, fun i h => a.ap i ⟨h.2, h.1⟩⟩

section
variable {on : On}
theorem HH_step (hu : OnUp on) (x y : Way) (c d : Town) : HH on x y c d = sm (tree on 7 y) (share c d x) + sm ((on x.1).zipIdx 1) fun p => HH on (hop x p) y c d := by
  unfold HH
  rw [tree_eq hu x, sm_cons, sm_flatMap]
  congr 1
  exact sm_map _ _ _
theorem HH_first (hu : OnUp on) {x y : Way} (a : Apart2 x y) (hlt : x.1 < y.1) (c d : Town) : sm (tree on 7 y) (share c d x) = (if x.1 = c then 1 else 0) * (x.2.2 * y.2.2 * Nn on 7 y.1 d) := by
  have hl : x.1.val < y.1.val := hlt
  have e : sm (tree on 7 y) (share c d x) = sm (tree on 7 y) fun y' => (if x.1 = c then 1 else 0) * (x.2.2 * (if y'.1 = d then y'.2.2 else 0)) := sm_congr fun y' hy => by
    have hz : x.2.1 &&& y'.2.1 = 0 := (apart_iff _ _).mpr fun i ⟨h1, h2⟩ => by
      have h3 : i ≤ x.1.val := by rcases a.ox i h1 with h | h <;> omega
      rcases (tree_met hu 7 y y' hy).2 i h2 with h | h
      · exact a.ap i ⟨h1, h⟩
      · omega
    unfold share
    by_cases h1 : x.1 = c <;> by_cases h2 : y'.1 = d <;> simp [h1, h2, hz]
  rw [e, sm_mul, sm_mul, tree_sum, Nat.mul_assoc]
theorem HH_meet (hu : OnUp on) {x y : Way} {i : Nat} (h1 : Met x i) (h2 : Met y i) (c d : Town) : HH on x y c d = 0 := sm_zero fun x' hx => sm_zero fun y' hy => by
  have e1 := (tree_met hu 7 x x' hx).1 i h1
  have e2 := (tree_met hu 7 y y' hy).1 i h2
  exact if_neg fun h => (apart_iff _ _).mp h.2.2 i ⟨e1, e2⟩
theorem Apart2.hop {x y : Way} (a : Apart2 x y) (hlt : x.1 < y.1) {p : Town × Nat} (hp : x.1 < p.1) (hne : p.1 ≠ y.1) : Apart2 (hop x p) y := by
  have hl : x.1.val < y.1.val := hlt
  have hp' : x.1.val < p.1.val := hp
  have hn : p.1.val ≠ y.1.val := fun e => hne (Fin.ext e)
  have e1 : (LW.hop x p).1 = p.1 := rfl
  refine ⟨(met_hop x p _).mpr (.inr rfl), a.my, fun i h => ?_, fun i h => ?_, fun i ⟨h1, h2⟩ => ?_⟩
  · rw [e1]
    rcases (met_hop x p i).mp h with h | rfl
    · have := a.ox i h; omega
    · exact .inl rfl
  · rw [e1]
    have := a.oy i h; omega
  · rcases (met_hop x p i).mp h1 with h | rfl
    · exact a.ap i ⟨h, h2⟩
    · have := a.oy _ h2; omega

/-- the law of the pairs: those that stay apart, one order against the other -/
noncomputable def Pairs (on : On) (x y : Way) : Prop := ∀ c d : Town, HH on x y c d + x.2.2 * y.2.2 * (Nn on 7 x.1 d * Nn on 7 y.1 c) = HH on x y d c + x.2.2 * y.2.2 * (Nn on 7 x.1 c * Nn on 7 y.1 d)
theorem Pairs.swap {x y : Way} (h : Pairs on y x) : Pairs on x y := fun c d => by
  have := h d c
  rw [HH_swap on x y c d, HH_swap on x y d c, Nat.mul_comm x.2.2, Nat.mul_comm (Nn on 7 x.1 d), Nat.mul_comm (Nn on 7 x.1 c)]
  exact this
theorem mul5 (x y m p n : Nat) : x * y * m * (p * n) = x * p * y * (n * m) := by
  rw [Nat.mul_assoc (x * y), Nat.mul_left_comm m p n, Nat.mul_comm m n, ← Nat.mul_assoc (x * y) p, Nat.mul_right_comm x y p]
theorem mul6 (t i n m : Nat) : t * ((i + n) * m) = i * (t * m) + t * m * n := by
  rw [Nat.add_mul, Nat.mul_add, Nat.mul_left_comm t i m, Nat.mul_comm n m, Nat.mul_assoc t m n]
theorem pairs_step (hu : OnUp on) {x y : Way} (a : Apart2 x y) (hlt : x.1 < y.1) (ih : ∀ p : Town × Nat, x.1 < p.1 → p.1 ≠ y.1 → Pairs on (hop x p) y) : Pairs on x y := fun c d => by
  have key : ∀ p ∈ (on x.1).zipIdx 1, HH on (hop x p) y c d + x.2.2 * y.2.2 * Nn on 7 y.1 c * (p.2 * Nn on 7 p.1 d) = HH on (hop x p) y d c + x.2.2 * y.2.2 * Nn on 7 y.1 d * (p.2 * Nn on 7 p.1 c) := fun p hp => by
    have hm := List.mem_zipIdx hp
    have hup : x.1 < p.1 := hu x.1 p.1 (by rw [hm.2.2]; exact List.getElem_mem ..)
    have r1 : ∀ e f : Town, x.2.2 * y.2.2 * Nn on 7 y.1 e * (p.2 * Nn on 7 p.1 f) = x.2.2 * p.2 * y.2.2 * (Nn on 7 p.1 f * Nn on 7 y.1 e) := fun e f => mul5 _ _ _ _ _
    rw [r1, r1]
    by_cases hne : p.1 = y.1
    · have hmeet : Met (hop x p) y.1.val := (met_hop x p _).mpr (.inr (by rw [hne]))
      rw [HH_meet hu hmeet a.my, HH_meet hu hmeet a.my, hne, Nat.mul_comm (Nn on 7 y.1 d)]
    · exact ih p hup hne c d
  have hs : sm ((on x.1).zipIdx 1) (fun p => HH on (hop x p) y c d + x.2.2 * y.2.2 * Nn on 7 y.1 c * (p.2 * Nn on 7 p.1 d)) = sm ((on x.1).zipIdx 1) fun p => HH on (hop x p) y d c + x.2.2 * y.2.2 * Nn on 7 y.1 d * (p.2 * Nn on 7 p.1 c) := sm_congr key
  rw [sm_add, sm_add, sm_mul, sm_mul] at hs
  rw [HH_step hu x y c d, HH_step hu x y d c, HH_first hu a hlt, HH_first hu a hlt, Nn_eq hu x.1 d, Nn_eq hu x.1 c]
  generalize sm ((on x.1).zipIdx 1) (fun p => HH on (hop x p) y c d) = h1 at *
  generalize sm ((on x.1).zipIdx 1) (fun p => HH on (hop x p) y d c) = h2 at *
  generalize sm ((on x.1).zipIdx 1) (fun p => p.2 * Nn on 7 p.1 c) = n1 at *
  generalize sm ((on x.1).zipIdx 1) (fun p => p.2 * Nn on 7 p.1 d) = n2 at *
  generalize (if x.1 = c then 1 else 0) = i1 at *
  generalize (if x.1 = d then 1 else 0) = i2 at *
  generalize Nn on 7 y.1 c = m1 at *
  generalize Nn on 7 y.1 d = m2 at *
  generalize x.2.2 * y.2.2 = t at *
  rw [mul6 t i2 n2 m1, mul6 t i1 n1 m2]
  omega
theorem pairs (hu : OnUp on) : ∀ (n : Nat) (x y : Way), Apart2 x y → 14 ≤ n + x.1.val + y.1.val → Pairs on x y
  | 0, x, y, a, h => absurd x.1.isLt (by have := y.1.isLt; omega)
  | n + 1, x, y, a, h => by
    have hne : x.1 ≠ y.1 := fun e => a.ap _ ⟨a.mx, by rw [e]; exact a.my⟩
    rcases Nat.lt_or_ge x.1.val y.1.val with hl | hl
    · refine pairs_step hu a hl fun p h1 h2 => pairs hu n _ y (a.hop hl h1 h2) ?_
      have : x.1.val < p.1.val := h1
      show 14 ≤ n + p.1.val + y.1.val
      omega
    · have hl : y.1.val < x.1.val := Nat.lt_of_le_of_ne hl fun e => hne (Fin.ext e.symm)
      refine Pairs.swap (pairs_step hu a.swap hl fun p h1 h2 => pairs hu n _ x (a.swap.hop hl h1 h2) ?_)
      have : y.1.val < p.1.val := h1
      show 14 ≤ n + p.1.val + x.1.val
      omega
theorem pairs01 (hu : OnUp on) : Pairs on (0, 1, 1) (1, 2, 1) := by
  have b0 : ∀ i, Met ((0, 1, 1) : Way) i ↔ i = 0 := fun i => by
    show Nat.testBit (2 ^ 0) i = true ↔ _
    rw [Nat.testBit_two_pow, decide_eq_true_eq]; exact eq_comm
  have b1 : ∀ i, Met ((1, 2, 1) : Way) i ↔ i = 1 := fun i => by
    show Nat.testBit (2 ^ 1) i = true ↔ _
    rw [Nat.testBit_two_pow, decide_eq_true_eq]; exact eq_comm
  refine pairs hu 14 _ _ ⟨(b0 _).mpr rfl, (b1 _).mpr rfl, fun i h => .inl ((b0 i).mp h), fun i h => .inl ((b1 i).mp h), fun i ⟨h1, h2⟩ => ?_⟩ (by omega)
  have := (b0 i).mp h1
  have := (b1 i).mp h2
  omega
end
end LW
namespace LW
theorem pick_l (u : Town) (h : Town → Nat) : sm towns (fun v => (if u = v then 1 else 0) * h v) = h u := by
  have e : sm towns (fun v => (if u = v then 1 else 0) * h v) = sm towns fun v => if v = u then h v else 0 := sm_congr fun v _ => by
    by_cases hv : u = v
    · rw [if_pos hv, if_pos hv.symm, Nat.one_mul]
    · rw [if_neg hv, if_neg (fun e => hv e.symm), Nat.zero_mul]
  rw [e, sm_pick u h]
theorem pick_r (t : Town) (h : Town → Nat) : sm towns (fun g => h g * (if g = t then 1 else 0)) = h t := by
  have e : sm towns (fun g => h g * (if g = t then 1 else 0)) = sm towns fun v => if v = t then h v else 0 := sm_congr fun v _ => by
    by_cases hv : v = t
    · rw [if_pos hv, if_pos hv, Nat.mul_one]
    · rw [if_neg hv, if_neg hv, Nat.mul_zero]
  rw [e, sm_pick t h]
theorem Nn_back (on : On) (t : Town) : ∀ (f : Nat) (u : Town), Nn on (f + 1) u t = (if u = t then 1 else 0) + sm towns fun v => Nn on f u v * Mx on v t
  | 0, u => by
    show _ + sm towns (fun g => Mx on u g * (if g = t then 1 else 0)) = _ + sm towns fun v => (if u = v then 1 else 0) * Mx on v t
    rw [pick_r t (Mx on u), pick_l u fun v => Mx on v t]
  | f + 1, u => by
    have e1 : Nn on (f + 2) u t = (if u = t then 1 else 0) + sm towns fun g => Mx on u g * Nn on (f + 1) g t := rfl
    have e2 : ∀ v, Nn on (f + 1) u v = (if u = v then 1 else 0) + sm towns fun g => Mx on u g * Nn on f g v := fun v => rfl
    rw [e1]
    refine congrArg ((if u = t then 1 else 0) + ·) ?_
    have a1 : sm towns (fun g => Mx on u g * Nn on (f + 1) g t) = sm towns (fun g => Mx on u g * (if g = t then 1 else 0)) + sm towns fun g => sm towns fun v => Mx on u g * (Nn on f g v * Mx on v t) := by
      rw [← sm_add]
      exact sm_congr fun g _ => by rw [Nn_back on t f g, Nat.mul_add, sm_mul]
    have a2 : sm towns (fun v => Nn on (f + 1) u v * Mx on v t) = sm towns (fun v => (if u = v then 1 else 0) * Mx on v t) + sm towns fun v => sm towns fun g => Mx on u g * (Nn on f g v * Mx on v t) := by
      rw [← sm_add]
      refine sm_congr fun v _ => ?_
      rw [e2 v, Nat.add_mul, ← sm_mulr]
      refine congrArg ((if u = v then 1 else 0) * Mx on v t + ·) ?_
      exact sm_congr fun g _ => Nat.mul_assoc _ _ _
    rw [a1, a2, pick_r t (Mx on u), pick_l u fun v => Mx on v t, sm_comm]
theorem Nn_up {on : On} (hu : OnUp on) : ∀ (f : Nat) {u v : Town}, v < u → Nn on f u v = 0
  | 0, u, v, h => if_neg fun e => absurd h (by rw [e]; exact Nat.lt_irrefl _)
  | f + 1, u, v, h => by
    have hl : v.val < u.val := h
    show _ + sm _ _ = 0
    rw [if_neg (fun e : u = v => absurd h (by rw [e]; exact Nat.lt_irrefl _)), sm_zero fun g _ => ?_]
    by_cases hg : u < g
    · have hg' : u.val < g.val := hg
      rw [Nn_up hu f (show v < g from Nat.lt_trans hl hg'), Nat.mul_zero]
    · rw [Mx_up hu hg, Nat.zero_mul]
theorem Nn_self {on : On} (hu : OnUp on) (s t : Town) : Nn on 7 s t = if t = s then 1 else sm towns fun v => Nn on 7 s v * Mx on v t := by
  rw [← Nn_fix hu 7 s t (by omega), Nn_back]
  by_cases h : t = s
  · subst h
    rw [if_pos rfl, if_pos rfl, sm_zero fun v _ => ?_]
    by_cases hv : v < t
    · rw [Nn_up hu 7 hv, Nat.zero_mul]
    · rw [Mx_up hu hv, Nat.mul_zero]
  · rw [if_neg (fun e => h e.symm), if_neg h, Nat.zero_add]

/-! the placed roads -/
theorem snoc_ind {α : Type} {P : List α → Prop} (h0 : P []) (h1 : ∀ l a, P l → P (l ++ [a])) (l : List α) : P l := by
  have : ∀ l : List α, P l.reverse := by
    intro l
    induction l with
    | nil => exact h0
    | cons a l ih => rw [List.reverse_cons]; exact h1 _ _ ih
  have h := this l.reverse
  rwa [List.reverse_reverse] at h
theorem placedOf_snoc (rs : List Road) (r : Road) : placedOf (rs ++ [r]) = placedOf rs ++ [(r.1, r.2.2, (rs.filter fun x => x.1 == r.1).length + 1)] := by
  unfold placedOf
  rw [List.length_append, List.length_cons, List.length_nil, List.range_succ, List.map_append]
  congr 1
  · refine List.map_congr_left fun k hk => ?_
    have hk := List.mem_range.mp hk
    unfold placed1
    have e1 : (rs ++ [r]).getD k default = rs.getD k default := by
      rw [List.getD_eq_getElem?_getD, List.getD_eq_getElem?_getD, List.getElem?_append_left hk]
    have e2 : (rs ++ [r]).take (k + 1) = rs.take (k + 1) := List.take_append_of_le_length hk
    rw [e1, e2]
  · rw [List.map_cons, List.map_nil]
    unfold placed1
    have e1 : (rs ++ [r]).getD rs.length default = r := by
      rw [List.getD_eq_getElem?_getD, List.getElem?_append_right (Nat.le_refl _), Nat.sub_self]; rfl
    have e2 : (rs ++ [r]).take (rs.length + 1) = rs ++ [r] := List.take_of_length_le (by rw [List.length_append]; exact Nat.le_refl _)
    rw [e1, e2, List.filter_append, List.length_append]
    have e3 : ([r].filter fun x => x.1 == r.1) = [r] := by simp
    rw [e3]; rfl
theorem onOf_snoc (rs : List Road) (r : Road) (v : Town) : onOf (rs ++ [r]) v = onOf rs v ++ if r.1 = v then [r.2.2] else [] := by
  unfold onOf
  rw [List.filter_append, List.map_append]
  congr 1
  by_cases h : r.1 = v
  · simp [h]
  · simp [h]
theorem Mx_snoc (rs : List Road) (r : Road) (v t : Town) : Mx (onOf (rs ++ [r])) v t = Mx (onOf rs) v t + if v = r.1 then (if r.2.2 = t then (rs.filter fun x => x.1 == r.1).length + 1 else 0) else 0 := by
  unfold Mx
  rw [onOf_snoc, List.zipIdx_append, sm_append]
  congr 1
  by_cases h : r.1 = v
  · rw [if_pos h, if_pos h.symm]
    show sm [(r.2.2, 1 + (onOf rs v).length)] _ = _
    rw [sm_cons, sm_nil, Nat.add_zero]
    have : (onOf rs v).length = (rs.filter fun x => x.1 == r.1).length := by unfold onOf; rw [List.length_map, h]
    rw [this, Nat.add_comm]
  · rw [if_neg h, if_neg (fun e => h e.symm)]; rfl
theorem placed_sum (c : Town → Nat) (t : Town) (rs : List Road) : sm (placedOf rs) (fun x => if x.2.1 = t then c x.1 * x.2.2 else 0) = sm towns fun v => c v * Mx (onOf rs) v t := by
  induction rs using snoc_ind with
  | h0 => exact (sm_zero fun v _ => by rw [show Mx (onOf []) v t = 0 from rfl, Nat.mul_zero]).symm
  | h1 rs r ih =>
    rw [placedOf_snoc, sm_append, ih]
    have e : sm towns (fun v => c v * Mx (onOf (rs ++ [r])) v t) = sm towns (fun v => c v * Mx (onOf rs) v t) + sm towns fun v => if v = r.1 then c v * (if r.2.2 = t then (rs.filter fun x => x.1 == r.1).length + 1 else 0) else 0 := by
      rw [← sm_add]
      refine sm_congr fun v _ => ?_
      rw [Mx_snoc, Nat.mul_add]
      congr 1
      by_cases h : v = r.1
      · rw [if_pos h, if_pos h]
      · rw [if_neg h, if_neg h, Nat.mul_zero]
    rw [e, sm_pick r.1 fun v => c v * (if r.2.2 = t then (rs.filter fun x => x.1 == r.1).length + 1 else 0), sm_cons, sm_nil, Nat.add_zero]
    congr 1
    by_cases h : r.2.2 = t
    · rw [if_pos h, if_pos h]
    · rw [if_neg h, if_neg h, Nat.mul_zero]
theorem cnt_ok {rs : List Road} (hu : OnUp (onOf rs)) (s : Town) : CntOk (placedOf rs) s (Nn (onOf rs) 7 s) := fun t => by
  rw [Nn_self hu s t]
  by_cases h : t = s
  · rw [if_pos h, if_pos h]
  · rw [if_neg h, if_neg h, ← placed_sum]
    show _ = sm ((placedOf rs).filter fun x => x.2.1 == t) fun x => Nn (onOf rs) 7 s x.1 * x.2.2
    rw [sm_filter]
    refine sm_congr fun x _ => ?_
    by_cases hx : x.2.1 = t
    · rw [if_pos hx, if_pos (beq_iff_eq.mpr hx)]
    · rw [if_neg hx, if_neg (fun e => hx (eq_of_beq e))]
theorem placed_mem {rs : List Road} {x : Pl} (h : x ∈ placedOf rs) : (∃ r ∈ rs, x.1 = r.1 ∧ x.2.1 = r.2.2) ∧ x.2.2 ≤ rs.length := by
  obtain ⟨k, hk, rfl⟩ := List.mem_map.mp h
  have hk := List.mem_range.mp hk
  have e : rs.getD k default = rs[k] := by rw [List.getD_eq_getElem?_getD, List.getElem?_eq_getElem hk]; rfl
  refine ⟨⟨rs[k], List.getElem_mem hk, ?_, ?_⟩, ?_⟩
  · unfold placed1; rw [e]
  · unfold placed1; rw [e]
  · unfold placed1
    exact Nat.le_trans (List.length_filter_le _ _) (by rw [List.length_take]; exact Nat.min_le_right _ _)
theorem placedOf_len (rs : List Road) : (placedOf rs).length = rs.length := by unfold placedOf; rw [List.length_map, List.length_range]

/-! bounds -/
theorem sq_pow : ∀ n : Nat, 1 + n * n ≤ 4 ^ n
  | 0 => by decide
  | n + 1 => by
    have := sq_pow n
    rw [Nat.pow_succ, Nat.add_mul, Nat.mul_add]
    have : n ≤ n * n + 1 := by
      cases n with
      | zero => decide
      | succ n => exact Nat.le_succ_of_le (Nat.le_mul_of_pos_left _ (Nat.succ_pos _))
    omega
theorem zip_sum (l : List Town) : sm (l.zipIdx 1) Prod.snd ≤ l.length * l.length := by
  have h := sum_map_le_mul (f := fun p : Town × Nat => p.2) (b := l.length) (l.zipIdx 1) fun p hp => by
    have hm := List.mem_zipIdx hp
    omega
  rw [List.length_zipIdx] at h
  exact h
theorem Nn_le {on : On} (hu : OnUp on) (t : Town) : ∀ (f : Nat) (u : Town), Nn on f u t ≤ 4 ^ outs on u.val
  | 0, u => by
    have : 1 ≤ 4 ^ outs on u.val := Nat.one_le_pow _ _ (by decide)
    show (if u = t then 1 else 0) ≤ _
    split <;> omega
  | f + 1, u => by
    show (if u = t then 1 else 0) + sm towns (fun g => Mx on u g * Nn on f g t) ≤ _
    rw [← sm_zip on u fun g => Nn on f g t, outs_step, Nat.pow_add]
    have h1 : sm ((on u).zipIdx 1) (fun p => p.2 * Nn on f p.1 t) ≤ sm ((on u).zipIdx 1) fun p => p.2 * 4 ^ outs on (u.val + 1) := sm_le fun p hp => by
      have hm := List.mem_zipIdx hp
      have hup : u < p.1 := hu u p.1 (by rw [hm.2.2]; exact List.getElem_mem ..)
      exact Nat.mul_le_mul_left _ (Nat.le_trans (Nn_le hu t f p.1) (Nat.pow_le_pow_right (by decide) (outs_mono on hup)))
    rw [sm_mulr] at h1
    change _ ≤ sm ((on u).zipIdx 1) Prod.snd * _ at h1
    have h2 := Nat.mul_le_mul_right (4 ^ outs on (u.val + 1)) (zip_sum (on u))
    have h3 := Nat.mul_le_mul_right (4 ^ outs on (u.val + 1)) (sq_pow (on u).length)
    rw [Nat.add_mul, Nat.one_mul] at h3
    have h4 : 1 ≤ 4 ^ outs on (u.val + 1) := Nat.one_le_pow _ _ (by decide)
    have h5 : (if u = t then 1 else 0) ≤ 1 := by split <;> omega
    omega
theorem Nn_small {on : On} (hu : OnUp on) (ho : outs on 0 ≤ 20) (s t : Town) : Nn on 7 s t < 2 ^ 62 := by
  refine Nat.lt_of_le_of_lt (Nn_le hu t 7 s) (Nat.lt_of_le_of_lt (Nat.pow_le_pow_right (by decide) (Nat.le_trans (outs_mono on (Nat.zero_le _)) ho)) (by decide))

/-- the ways from a town -/
noncomputable abbrev waysOf (rs : List Road) (s : Town) : List Way := run (onOf rs) (2 ^ 20) [(s, 2 ^ s.val, 1)] 0
theorem ways_perm {rs : List Road} (hu : OnUp (onOf rs)) (ho : outs (onOf rs) 0 ≤ 20) (s : Town) : (waysOf rs s).Perm (tree (onOf rs) 7 (s, 2 ^ s.val, 1)) := by
  have h := run_perm hu (2 ^ 20) [(s, 2 ^ s.val, 1)] 0 (by simp) (by
    rw [List.drop_zero]
    unfold sizeW
    rw [List.map_cons, List.map_nil, List.sum_cons, List.sum_nil]
    exact Nat.le_trans (treeN_le hu 7 s) (Nat.pow_le_pow_right (by decide) (Nat.le_trans (outs_mono _ (Nat.zero_le _)) ho)))
  rw [List.take_zero, List.drop_zero, List.nil_append, List.flatMap_cons, List.flatMap_nil, List.append_nil] at h
  exact h
theorem ways_small {rs : List Road} (hu : OnUp (onOf rs)) (ho : outs (onOf rs) 0 ≤ 20) (s : Town) : ∀ x ∈ waysOf rs s, x.2.2 < 2 ^ 62 := fun x hx => by
  have hm := (ways_perm hu ho s).mem_iff.mp hx
  have h1 := le_sm (fun y : Way => if y.1 = x.1 then y.2.2 else 0) hm
  simp only [if_pos] at h1
  have h2 := tree_sum (onOf rs) x.1 7 (s, 2 ^ s.val, 1)
  rw [h2] at h1
  have h3 := Nn_small hu ho s x.1
  show x.2.2 < _
  simp only [Nat.one_mul] at h1
  omega
theorem fin_law {rs : List Road} (hu : OnUp (onOf rs)) (ho : outs (onOf rs) 0 ≤ 20) (c d : Town) :
    (aget (apartD (waysOf rs 0) (waysOf rs 1)) (c, d) : Int) - (aget (apartD (waysOf rs 0) (waysOf rs 1)) (d, c) : Int) = (Nn (onOf rs) 7 0 c : Int) * Nn (onOf rs) 7 1 d - (Nn (onOf rs) 7 0 d : Int) * Nn (onOf rs) 7 1 c := by
  have e : ∀ c d, aget (apartD (waysOf rs 0) (waysOf rs 1)) (c, d) = HH (onOf rs) (0, 1, 1) (1, 2, 1) c d := fun c d => by
    rw [aget_apart, sm_perm (ways_perm hu ho 0)]
    unfold HH
    exact sm_congr fun x _ => sm_perm (ways_perm hu ho 1) _
  have h := pairs01 hu c d
  rw [e, e]
  simp only [Nat.one_mul, Nat.mul_one] at h
  have h' := congrArg (fun n : Nat => (n : Int)) h
  simp only [Int.natCast_add, Int.natCast_mul] at h'
  omega
end LW
namespace LW
theorem numsOf_pos (is : List Int) : ∀ n ∈ numsOf is, 0 ≤ n := fun n hn => by
  obtain ⟨x, _, rfl⟩ := List.mem_map.mp hn
  exact Int.emod_nonneg _ (by decide)
theorem cut_mem {α : Type} {l : List α} {x : α} {k : Nat} (h : x ∈ cut l none (some k)) : x ∈ l := by
  unfold cut at h
  exact List.mem_of_mem_take (List.mem_of_mem_drop h)
theorem cut_len {α : Type} (l : List α) (k : Nat) : (cut l none (some k)).length ≤ k := by
  unfold cut
  rw [List.length_drop, List.length_take]
  exact Nat.le_trans (Nat.sub_le _ _) (Nat.min_le_left _ _)
theorem cut_ne (is : List Int) : cut (numsOf is) none (some 5) ≠ [] := by
  unfold numsOf based cut
  intro h
  cases h
theorem sum_le_mul (l : List Nat) (b : Nat) (h : ∀ x ∈ l, x ≤ b) : l.sum ≤ l.length * b := by
  have := sum_map_le_mul (f := id) l h
  rwa [List.map_id] at this
theorem fg_of {w : World} {G : Heap} (L : LawG w G) {name : Str} {i : Nat} (h : dsF.contains (name, i) = true := by decide +kernel) : FunG G name i := L.fg (name, i) (List.contains_iff_mem.mp h)
theorem bi_of {w : World} {G : Heap} (L : LawG w G) {name : Str} {v : Value} (h : (name, v) ∈ biL := by simp [biL]) : BVal G name v := L.bi (name, v) h

theorem law_body {w : World} {G : Heap} {A : Around} {is : List Int} {Lo : Addr} {qual : Str} {fa : Addr} {code : Value} (hA : Rm A 20) (hT : Top A (fenv (dS 82) Lo qual fa code)) (L : LawG w G) (hl : is.length ≤ 63) :
    Ex p0 w A G (fenv (dS 82) Lo qual fa code) ⟨[("script", .im (.lst (is.map .int)))], []⟩ (dB 82) (.rt (.bool true) []) := by
  refine LW.hideGoal fun GG hGG => ?_
  obtain ⟨nums, hnums⟩ : ∃ nums, cut (numsOf is) none (some 5) = nums := ⟨_, rfl⟩
  have hn0 : ∀ n ∈ nums, 0 ≤ n := fun n hn => numsOf_pos is n (cut_mem (hnums ▸ hn))
  have hn5 : nums.length ≤ 5 := hnums ▸ cut_len _ _
  have hne : nums ≠ [] := hnums ▸ cut_ne is
  obtain ⟨ls, hls⟩ : ∃ ls, nums.map lineOf = ls := ⟨_, rfl⟩
  have hl5 : ls.length ≤ 5 := by rw [← hls, List.length_map]; exact hn5
  have hok : ∀ l ∈ ls, LineOk l := fun l h => by rw [← hls] at h; obtain ⟨n, _, rfl⟩ := List.mem_map.mp h; exact lineOf_ok n
  have hlne : ls ≠ [] := fun e => hne (by rw [← hls] at e; exact List.map_eq_nil_iff.mp e)
  obtain ⟨st, hst⟩ : ∃ st : Nat, (numsOf is)[5]? = some (st : Int) := by
    obtain ⟨z, hz⟩ : ∃ z, (numsOf is)[5]? = some z := ⟨_, rfl⟩
    have := numsOf_pos is z (List.mem_of_getElem? hz)
    exact ⟨z.toNat, by rw [hz, Int.toNat_of_nonneg this]⟩
  have htl : (textOf ls).length ≤ 35 := Nat.le_trans (textOf_len hok) (by omega)
  have hch := textOf_chrs ls
  obtain ⟨hback, hcok, hclen, segs, hsegs, hflat⟩ := codes_back (style := st) hch
  have hc1 : ∀ c ∈ codesOf (textOf ls) st, c ≤ 0x10FFFF := fun c hc => (hcok c hc).1
  have hcl : (codesOf (textOf ls) st).length ≤ 1000 := by omega
  have hu := (plain_up ls).onUp
  have hsz := sizes_le hok
  have hrl : (plain ls).length ≤ 20 := Nat.le_trans (plain_len ls) (by omega)
  have ho : outs (onOf (plain ls)) 0 ≤ 20 := by rw [outs_le]; exact hrl
  have h1 := fn_lines (prog := p0) (w := w) (n := 19) (fg_of L (name := "_law_lines") (i := 69)) hn0 (by omega)
  rw [lines_eq, hls] at h1
  have hoct := fn_octets (prog := p0) (w := w) (n := 19) (codes := codesOf (textOf ls) st) (fg_of L (name := "_law_octets") (i := 71)) (fun c hc => Nat.lt_of_le_of_lt (hc1 c hc) (by decide)) hcl (bi_of L)
  rw [octGs_flat] at hoct
  have hprep := fn_prepared (prog := p0) (w := w) (n := 19) (cs := codesOf (textOf ls) st) (fg_of L (name := "_law_prepared") (i := 73)) (by omega) (by omega) L.tabs (fg_of L) (fg_of L) (bi_of L) (fun c hc => (hcok c hc).2) (joinOk_of (by
    rw [hsegs, List.map_map]
    have : ((segs.map ((fun x : Str => x.length) ∘ S)).sum) = (textOf ls).length := by
      rw [← hflat, List.length_flatten]
      congr 1
    rw [this]
    show _ + _ * 0 ≤ _
    omega))
  rw [hback, ← chrV_octGs _ hc1] at hprep
  have hcut := fn_cut (prog := p0) (w := w) (n := 19) (tk := tk0) (text := textOf ls) (fg_of L (name := "_law_cut") (i := 74)) (by omega) L.tok
  rw [cut_text hlne hok, List.map_map] at hcut
  obtain ⟨t1, g1⟩ := L.nt
  obtain ⟨t2, g2⟩ := L.em
  refine hGG ?_
  clear hGG GG
  have hdone := fn_done (prog := p0) (w := w) (n := 15) (row := rowOf ls) (fg_of L (name := "_law_done") (i := 76)) L.mdl (fn_deed (fg_of L) L.mdl) (fg_of L) g1 (fg_of L) g2 (Nat.le_trans (rowOf_len hok) (by omega))
  rw [done_plain hlne] at hdone
  refine body_law (n := 19) (ls := ls) (style := st) (tx := textOf ls) (cs := codesOf (textOf ls) st) (gs := octGs 0 (codesOf (textOf ls) st)) (row := rowOf ls) (rs := plain ls) (wf := waysOf (plain ls) 0) (wi := waysOf (plain ls) 1)
    (D := apartD (waysOf (plain ls) 0) (waysOf (plain ls) 1)) (pl := placedOf (plain ls)) (a := Nn (onOf (plain ls)) 7 0) (b := Nn (onOf (plain ls)) 7 1)
    hA hT hl L.mdl (bi_of L) (bi_of L) (by rw [hnums]; exact h1) hst (join_lines ls) (joinOk_of ?_) hl5 (fun l h => ?_)
    (fn_codes (fg_of L) (by omega) hch (bi_of L) (bi_of L) (bi_of L) (bi_of L)) hoct (fn_signs (n := 18) (fg_of L) L.fv (octGs_good _ 0 hc1) (by rw [octGs_len]; exact hcl) L.sys (bi_of L) (bi_of L) (bi_of L) (bi_of L)) hprep hcut hdone hrl
    (fn_plain (fg_of L) (by omega)) (fn_ways (n := 17) (fg_of L) L.mdl hrl hu ho (bi_of L) (bi_of L)) (fn_ways (n := 17) (fg_of L) L.mdl hrl hu ho (bi_of L) (bi_of L)) (fn_apart (fg_of L) (ways_small hu ho 1))
    (fn_placed (fg_of L) (by omega) (bi_of L) (bi_of L)) (fn_counts (fg_of L) (by rw [placedOf_len]; omega) (fun x hx => ?_) (fun x hx => ?_) (cnt_ok hu 0) (bi_of L)) (fn_counts (fg_of L) (by rw [placedOf_len]; omega) (fun x hx => ?_) (fun x hx => ?_) (cnt_ok hu 1) (bi_of L))
    (fun t => Nn_small hu ho 1 t) (fun c d _ => fin_law hu ho c d)
  · have : ((ls.map lineT).map (·.length)).sum ≤ ((ls.map lineT).map (·.length)).length * 6 := sum_le_mul _ _ fun x hx => by
      rw [List.map_map] at hx
      obtain ⟨l, hl, rfl⟩ := List.mem_map.mp hx
      show (lineT l).length ≤ 6
      rw [lineT_S, S_length]; exact lineN_len (hok l hl)
    rw [List.length_map, List.length_map] at this
    rw [List.length_map]
    show _ + ls.length * 1 ≤ _
    omega
  · rw [lineT_S, S_length]; exact Nat.le_trans (lineN_len (hok l h)) (by decide)
  all_goals first
    | exact Nat.lt_of_le_of_lt (Nat.le_trans (placed_mem hx).2 hrl) (by decide)
    | (obtain ⟨⟨r, hr, e1, e2⟩, _⟩ := placed_mem hx
       rw [e1, e2]; exact plain_up ls r hr)

theorem rm_law (env : Env) : Rm (callerA.deeper env) 20 := ⟨rfl, by show 1 + claimMargin + 1 + 20 ≤ 900; decide, by show 4 + 3 + 3 * 20 + 100 < cLine; decide +kernel⟩
theorem walk_law : WalkLaw := by
  intro w s is v L hl rv hg0
  obtain ⟨fa, hg, F⟩ := fg_of L (name := "law") (i := 82)
  refine ⟨.ref fa, hg, ?_⟩
  refine LW.hideGoal fun GG hGG => ?_
  obtain ⟨o, nm, qn, kd, doc, pm, an, code, ct, ho, hcls, hdict, hdata, hcode⟩ := F.it
  refine hGG ?_
  clear hGG GG
  have hs : ScOk (dS 82) := ⟨rfl, by decide +kernel, by decide +kernel⟩
  have kh : Kp s.heap (hid s.heap []) := fun b o e => hid_get.mpr ⟨e, by simp⟩
  have hbt : BindsTo s ⟨nm, qn, dA 82, .stmts (dB 82), dS 82, mainGlobals, [], .none, kd, doc, pm, an, code, ct, builtinsNs⟩ ⟨[v], []⟩ [("script", v)] := BindsTo.of_eq rfl
  have hbs : Binds p0 w (hid s.heap []) [("script", .lst (is.map .int))] [("script", v)] := .cons (RepV.mono kh _ _ rv) .nil
  have hsm : ∃ o, s.heap.get? sysModules = some o := by obtain ⟨o, e, _⟩ := L.sys; exact ⟨o, e⟩
  refine wpAny_call (codeAny_call_function (by show 1 + claimMargin < 1000; decide) ho hdata rfl rfl rfl hcode (hbt _ _ _ _ ?_))
  refine wpAny_newFunctionEnv_cells hs.kind (fun y hy => ?_) fun env he s' x => ?_
  · rw [List.mem_singleton.mp hy]
    have hk : (dS 82).names.lookup ("script" : Str) = some .local ∨ (dS 82).names.lookup ("script" : Str) = some .cell := by decide +kernel
    rcases hk with hk | hk
    · exact .inl hk
    · exact .inr ⟨hk, cellsFrom_some (.inl (lookup_mem' hk))⟩
  subst he
  refine ⟨F.lim.keeps x.toInCall.keep, codeAny_func ?_⟩
  have S := enter (prog := p0) (w := w) (M := []) (X := []) (t := []) (qual := qn) (fa := fa) (code := code) (L := s.heap.objs.size) hs x (by simp) (by simp) (by simp) (by simp) hsm hbs (by simp) rfl (by simp)
  obtain ⟨h₁, t₁, es⟩ := x.toInCall.same
  subst es
  refine (law_body (A := callerA.deeper _) (G := s.heap) (rm_law _) ⟨Around.frames_deeper rfl, rfl⟩ L hl).run ⟨hid s.heap [], [], s.heap⟩ { s with heap := h₁, toks := t₁ } [] _ _ _ kh S fun f h' tk P => ?_
  obtain ⟨v', rfl, R⟩ := P
  have hv : v' = .bool true := R.val
  refine ⟨hv, fun b o e => ?_, rfl, hg0⟩
  exact Kp.ofHid _ _ b o (R.base b o (kh b o e))
end LW
namespace LW
/-! the look at the law, in pieces -/
abbrev lw : OpenLaw := PySem.Challenge.rw_wf0111_01
theorem and2 {a b : Bool} (x : a = true) (y : b = true) : (a && b) = true := by rw [x, y]; rfl
theorem lk_sre : sreFenced p0.main = true := by decide +kernel
theorem lk_mods : ((moduleNames p0.main.body).isEmpty || lookedIntoSs (moduleNames p0.main.body) p0.main.body) = true := by decide +kernel
theorem lk_res : namesResolve p0 = true := by decide +kernel
theorem lk_bound : p0.boundNames.all (fun n => !worldNames.contains n) = true := by decide +kernel
theorem lk_strict : (!(importedModules p0.main.body).all cThrough.contains) = false := by decide +kernel
theorem lk_bare : (["vars", "dir", "locals"] : List Str).filter (readsOut p0 p0.main.body) = [] := by decide +kernel
theorem lk_road0 : noRoadLSs { strict := false, foot := none, bare := [] } p0.main.body = true := by decide +kernel
theorem lk_road : noRoadLSs { strict := !(importedModules p0.main.body).all cThrough.contains, foot := none, bare := (["vars", "dir", "locals"] : List Str).filter (readsOut p0 p0.main.body) } p0.main.body = true := by
  rw [lk_strict, lk_bare]; exact lk_road0
theorem lk_attr : (namesMeet p0 p0.main.body fun _ n => attrL n) = true := by decide +kernel
theorem lk_open : looksOpen p0 = true := by
  unfold looksOpen
  exact and2 (and2 (and2 (and2 (and2 lk_sre lk_mods) lk_res) lk_bound) lk_road) lk_attr
theorem lk_row : lw.row.wellSaid = true := by
  unfold OpenRow.wellSaid OpenRow.partSaid
  refine and2 (and2 (and2 (and2 (and2 (and2 (and2 (and2 (and2 (and2 (and2 (and2 (and2 (and2 (and2 lk_open ?_) ?_) ?_) ?_) ?_) ?_) ?_) ?_) ?_) ?_) ?_) ?_) ?_) ?_) ?_
  all_goals decide +kernel
theorem lk_roadF : noRoadLSs { strict := true, foot := some lw.bound', writes := lw.writes, may := lw.may } lw.footing = true := by decide +kernel
theorem lk_blt : lw.bound'.all (fun n => !builtinNamed n || lw.about == [n] || !lw.reads n) = true := by decide +kernel
theorem lk_law : lw.wellSaid = true := by
  unfold OpenLaw.wellSaid
  refine and2 (and2 (and2 (and2 (and2 (and2 (and2 (and2 (and2 (and2 (and2 (and2 (and2 (and2 (and2 (and2 (and2 (and2 lk_row ?_) ?_) ?_) ?_) ?_) lk_roadF) ?_) ?_) ?_) lk_blt) ?_) ?_) ?_) ?_) ?_) ?_) ?_) ?_
  all_goals decide +kernel
end LW
theorem PySem.Challenge.cw_wf0111_01_holds : PySem.Challenge.rw_wf0111_01.Holds :=
  ⟨LW.lk_law, LW.row_holds LW.lk_row LW.walk_law⟩
