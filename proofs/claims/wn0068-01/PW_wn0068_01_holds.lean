import PyProof.Rows.All
import Wide.All
import OpenK.AllK
import Wide.FinOn
import Flt.RightMore
import Flt.Round
import PyProof.FactsAll.range_1
import PyProof.FactsAll.range_2
import PySem.Challenge.RW_wn0068_01
set_option Elab.async false

/-! the head -/
section
open PySem PySem.W PyProof.Rows
set_option maxRecDepth 100000
set_option maxHeartbeats 8000000
namespace Mine
open_top hd for PySem.Challenge.rw_wn0068_01
end Mine
end

/-! part F1 -/
section
set_option maxRecDepth 100000
set_option linter.unusedVariables false
namespace Mine
open PySem PySem.Calls PySem.W PyProof.Rows

/-- plain scalars -/
inductive SV where
  | none
  | bool (b : Bool)
  | int (i : Int)
  | flt (x : UInt64)

/-- plain values -/
inductive PV where
  | sc (s : SV)
  | tup (l : List SV)
  | lst (l : List SV)
  | rng (a b : Int)
  | val (v : Value)
  | tys (l : List Value)
  | lam (params : Arguments) (body : Expr) (scope : Scope) (clos : List (Str × Addr))

def lamQual : Str := "_law_found" ++ ".<locals>." ++ "<lambda>"

abbrev PV.int (i : Int) : PV := .sc (.int i)
abbrev PV.flt (x : UInt64) : PV := .sc (.flt x)
abbrev PV.bool (b : Bool) : PV := .sc (.bool b)
abbrev PV.none : PV := .sc .none

inductive IsS : Value → SV → Prop
  | none : IsS .none .none
  | bool (b : Bool) : IsS (.bool b) (.bool b)
  | int (i : Int) (t : Tok) : IsS (.int i t) (.int i)
  | flt (x : UInt64) (t : Tok) : IsS (.float x t) (.flt x)

def Is (h : Heap) (v : Value) : PV → Prop
  | .sc s => IsS v s
  | .tup l => ∃ (a : Addr) (vs : List Value), v = .ref a ∧ IsTup h a vs.toArray ∧ Paired IsS vs l
  | .lst l => ∃ (a : Addr) (vs : List Value), v = .ref a ∧ h.IsList a vs.toArray ∧ Paired IsS vs l
  | .rng a b => ∃ (r : Addr) (t u w : Tok), v = .ref r ∧ IsRange h r a b 1 t u w
  | .val w => v = w
  | .tys l => ∃ a : Addr, v = .ref a ∧ h.get? a = some { cls := .type "tuple", data := .seq l.toArray }
  | .lam params body scope clos => ∃ (f c' : Addr) (pm ctv : Value) (oc : Obj) (vs : Array Value) (t : Tok), v = .ref f ∧ h.get? f = some (kla_obj "<lambda>" lamQual params body scope clos pm c' ctv) ∧
      h.get? c' = some oc ∧ oc.data = .fields vs ∧ vs[1]? = some (.str lamQual t)

/-- objects that nothing in these calls turns -/
def Lasting (o : Obj) : Prop := (∀ es n, o.data ≠ .dict es n) ∧ (∀ v, o.data ≠ .cell v) ∧ (o.cls ≠ .none ∨ ∃ vs q t, o.data = .fields vs ∧ vs[1]? = some (.str q t))

def Step (h h' : Heap) : Prop := ∀ b o, h.get? b = some o → Lasting o → h'.get? b = some o

theorem Step.refl (h : Heap) : Step h h := fun _ _ e _ => e
theorem Step.trans {h h₁ h₂ : Heap} (a : Step h h₁) (b : Step h₁ h₂) : Step h h₂ := fun c o e l => b c o (a c o e l) l
theorem Step.of_stays {h h' : Heap} (k : h.StaysIn h') : Step h h' := fun b o e _ => k b o e
theorem stays_trans {h h₁ h₂ : Heap} (a : h.StaysIn h₁) (b : h₁.StaysIn h₂) : h.StaysIn h₂ := fun c o e => b c o (a c o e)
theorem stays_refl (h : Heap) : h.StaysIn h := fun _ _ e => e
theorem Step.of_sameBut {h h' : Heap} {a : Addr} {o : Obj} (ho : h.get? a = some o) (hl : ¬ Lasting o) (hs : Heap.SameBut a h h') : Step h h' := fun b o' e l => by
  by_cases q : b = a
  · subst q; rw [ho] at e; cases e; exact absurd l hl
  · exact (hs.2 b q).trans e
theorem not_lasting_ns {h : Heap} {a : Addr} {m : Str → Option Value} (n : h.Ns a m) : ∃ o, h.get? a = some o ∧ ¬ Lasting o :=
  let ⟨o, es, ep, ho, hd, _⟩ := n; ⟨o, ho, fun l => l.1 _ _ hd⟩
theorem not_lasting_cell {h : Heap} {a : Addr} {v : Option Value} (n : h.IsCell a v) : ∃ o, h.get? a = some o ∧ ¬ Lasting o :=
  let ⟨o, ho, hd⟩ := n; ⟨o, ho, fun l => l.2.1 _ hd⟩
theorem lasting_cls {o : Obj} {T : String} (h : o.cls = .type T) : o.cls ≠ .none := by rw [h]; intro e; cases e
theorem lasting_seq {o : Obj} {T : String} {xs : Array Value} {n : Nat} (h : o.cls = .type T) (hd : o.data = .seq xs n) : Lasting o :=
  ⟨fun _ _ e => (by rw [hd] at e; cases e), fun _ e => (by rw [hd] at e; cases e), .inl (lasting_cls h)⟩

theorem isTup_step {h h' : Heap} {a : Addr} {xs : Array Value} (x : IsTup h a xs) (k : Step h h') : IsTup h' a xs :=
  let ⟨o, ho, hc, n, hd⟩ := x; ⟨o, k _ _ ho (lasting_seq hc hd), hc, n, hd⟩
theorem isList_step {h h' : Heap} {a : Addr} {xs : Array Value} (x : h.IsList a xs) (k : Step h h') : h'.IsList a xs :=
  let ⟨o, ho, hc, n, hd⟩ := x; ⟨o, k _ _ ho (lasting_seq hc hd), hc, n, hd⟩
theorem isRange_step {h h' : Heap} {r : Addr} {a b c : Int} {t u v : Tok} (x : IsRange h r a b c t u v) (k : Step h h') : IsRange h' r a b c t u v :=
  k _ _ x ⟨fun _ _ e => (nomatch e), fun _ e => (nomatch e), .inl fun e => (nomatch e)⟩

theorem Is.step {h h' : Heap} {v : Value} {p : PV} (x : Is h v p) (k : Step h h') : Is h' v p := by
  cases p with
  | sc s => exact x
  | tup l => obtain ⟨a, vs, e, i, q⟩ := x; exact ⟨a, vs, e, isTup_step i k, q⟩
  | lst l => obtain ⟨a, vs, e, i, q⟩ := x; exact ⟨a, vs, e, isList_step i k, q⟩
  | rng a b => obtain ⟨r, t, u, w, e, i⟩ := x; exact ⟨r, t, u, w, e, isRange_step i k⟩
  | val w => exact x
  | tys l => obtain ⟨a, e, i⟩ := x; exact ⟨a, e, k _ _ i (lasting_seq rfl rfl)⟩
  | lam a b c d =>
    obtain ⟨f, c', pm, ctv, oc, vs, t, e, e1, e2, e3, e4⟩ := x
    exact ⟨f, c', pm, ctv, oc, vs, t, e, k _ _ e1 ⟨fun _ _ e => (nomatch e), fun _ e => (nomatch e), .inl fun e => (nomatch e)⟩,
      k _ _ e2 ⟨fun _ _ e => (by rw [e3] at e; cases e), fun _ e => (by rw [e3] at e; cases e), .inr ⟨vs, _, t, e3, e4⟩⟩, e3, e4⟩
theorem Is.stays {h h' : Heap} {v : Value} {p : PV} (x : Is h v p) (k : h.StaysIn h') : Is h' v p := x.step (Step.of_stays k)

abbrev Vars := List (Str × PV)

/-- how a name is borne -/
def Reads (h : Heap) (env : Env) (m : Str → Option Value) (x : Str) (p : PV) : Prop :=
  (env.kindOf x = some .local ∧ ∃ v, m x = some v ∧ Is h v p) ∨
  ((env.kindOf x = some .cell ∨ env.kindOf x = some .free) ∧ ∃ c v, env.cells.lookup x = some c ∧ h.IsCell c (some v) ∧ Is h v p)

/-- the table of the codes made in the text's one def with a lambda -/
abbrev tabAddr : Addr := 130
def TabObj (o : Obj) : Prop := ∃ vs, o.data = .fields vs ∧ (o.cls = .none ∨ ∃ q t, vs[1]? = some (.str q t))
def TabOk (h : Heap) : Prop := ∃ ps, h.get? tabAddr = some (tabObj ps) ∧ (ps = #[] ∨ ∃ c' oc vs t, ps = #[rawInt ((107 : Nat) : Int), rawInt ((11 : Nat) : Int), .ref c'] ∧ h.get? c' = some oc ∧ oc.data = .fields vs ∧ vs[1]? = some (.str lamQual t))
theorem TabOk.of {h h' : Heap} (x : TabOk h) (k : ∀ b o, h.get? b = some o → TabObj o → h'.get? b = some o) : TabOk h' := by
  obtain ⟨ps, e, r⟩ := x
  refine ⟨ps, k _ _ e ⟨_, rfl, .inl rfl⟩, ?_⟩
  rcases r with r | ⟨c', oc, vs, t, e1, e2, e3, e4⟩
  · exact .inl r
  · exact .inr ⟨c', oc, vs, t, e1, k _ _ e2 ⟨vs, e3, .inr ⟨_, _, e4⟩⟩, e3, e4⟩
theorem TabOk.stays {h h' : Heap} (x : TabOk h) (k : h.StaysIn h') : TabOk h' := x.of fun b o e _ => k b o e
theorem tabObj_ne {o : Obj} (t : TabObj o) : (∀ es n, o.data ≠ .dict es n) ∧ (∀ v, o.data ≠ .cell v) := by
  obtain ⟨vs, e, _⟩ := t
  exact ⟨fun es n q => (by rw [e] at q; cases q), fun v q => (by rw [e] at q; cases q)⟩

/-- the frame: what stood before stands, the names are as told -/
structure FR (g : Heap) (env : Env) (r : Vars) (h : Heap) : Prop where
  keep : g.StaysIn h
  new : g.get? env.locals = none
  cnew : ∀ x c, env.kindOf x = some .cell → env.cells.lookup x = some c → g.get? c = none
  apart : ∀ x y c, env.cells.lookup x = some c → env.cells.lookup y = some c → x = y
  cells : ∀ x c, env.cells.lookup x = some c → ∃ v, h.IsCell c v
  vars : ∃ m, h.Ns env.locals m ∧ ∀ x p, r.lookup x = some p → Reads h env m x p
  tab : g.get? tabAddr = none → TabOk h

theorem Reads.keep {h h' : Heap} {env : Env} {m : Str → Option Value} {x : Str} {p : PV} (q : Reads h env m x p) (k : h.StaysIn h') : Reads h' env m x p := by
  rcases q with ⟨l, v, e, i⟩ | ⟨l, c, v, e, i, j⟩
  · exact .inl ⟨l, v, e, i.stays k⟩
  · exact .inr ⟨l, c, v, e, i.keeps k, j.stays k⟩

theorem FR.stays {g : Heap} {env : Env} {r : Vars} {h h' : Heap} (F : FR g env r h) (k : h.StaysIn h') : FR g env r h' where
  keep := stays_trans F.keep k
  new := F.new
  cnew := F.cnew
  apart := F.apart
  cells := fun x c e => let ⟨v, q⟩ := F.cells x c e; ⟨v, q.keeps k⟩
  vars := let ⟨m, n, q⟩ := F.vars; ⟨m, n.keeps k, fun x p e => (q x p e).keep k⟩
  tab := fun e => (F.tab e).stays k

theorem FR.less {g : Heap} {env : Env} {r r' : Vars} {h : Heap} (F : FR g env r h) (k : ∀ x p, r'.lookup x = some p → r.lookup x = some p) : FR g env r' h :=
  { F with vars := let ⟨m, n, q⟩ := F.vars; ⟨m, n, fun x p e => q x p (k x p e)⟩ }

theorem lookup_cons' {x y : Str} {p : PV} {r : Vars} : ((y, p) :: r).lookup x = if x = y then some p else r.lookup x := by
  rw [List.lookup_cons]
  by_cases q : x = y
  · subst q; simp
  · rw [if_neg q]; have : (x == y) = false := beq_eq_false_iff_ne.mpr q
    rw [this]

theorem FR.setLocal {g : Heap} {env : Env} {r : Vars} {h h' : Heap} {x : Str} {v : Value} {p : PV} {m : Str → Option Value} (F : FR g env r h) (hl : env.kindOf x = some .local)
    (n : h.Ns env.locals m) (q : ∀ y p, r.lookup y = some p → Reads h env m y p)
    (n' : h'.Ns env.locals (fun y => if y = x then some v else m y)) (hs : Heap.SameBut env.locals h h') (i : Is h v p) : FR g env ((x, p) :: r) h' ∧ Step h h' := by
  obtain ⟨o, ho, hn⟩ := not_lasting_ns n
  have k : Step h h' := Step.of_sameBut ho hn hs
  refine ⟨⟨fun b o' e => ?_, F.new, F.cnew, F.apart, fun y c e => ?_, ⟨_, n', fun y p' e => ?_⟩, fun e => (F.tab e).of fun b o' e' t => ?_⟩, k⟩
  · exact (hs.2 b fun z => by rw [z, F.new] at e; cases e).trans (F.keep b o' e)
  · obtain ⟨w, hc⟩ := F.cells y c e
    refine ⟨w, hc.sameBut hs fun z => ?_⟩
    obtain ⟨o', ho', hd'⟩ := hc
    obtain ⟨o, es, ep, ho, hd, _⟩ := n
    rw [z, ho] at ho'; cases ho'; rw [hd] at hd'; cases hd'
  · rw [lookup_cons'] at e
    by_cases z : y = x
    · subst z
      rw [if_pos rfl] at e; cases e
      exact .inl ⟨hl, v, by simp, i.step k⟩
    · rw [if_neg z] at e
      rcases q y p' e with ⟨l, w, e1, e2⟩ | ⟨l, c, w, e1, e2, e3⟩
      · exact .inl ⟨l, w, by simp [z, e1], e2.step k⟩
      · refine .inr ⟨l, c, w, e1, e2.sameBut hs fun z => ?_, e3.step k⟩
        obtain ⟨o', ho', hd'⟩ := e2
        obtain ⟨o, es, ep, ho, hd, _⟩ := n
        rw [z, ho] at ho'; cases ho'; rw [hd] at hd'; cases hd'
  · refine (hs.2 b fun z => ?_).trans e'
    obtain ⟨o, es, ep, ho, hd, _⟩ := n
    rw [z, ho] at e'; cases e'; exact (tabObj_ne t).1 _ _ hd

theorem FR.setCell {g : Heap} {env : Env} {r : Vars} {h h' : Heap} {x : Str} {c : Addr} {v : Value} {p : PV} (F : FR g env r h) (hl : env.kindOf x = some .cell) (hc : env.cells.lookup x = some c)
    (n' : h'.IsCell c (some v)) (hs : Heap.SameBut c h h') (i : Is h v p) : FR g env ((x, p) :: r) h' ∧ Step h h' := by
  obtain ⟨w0, hc0⟩ := F.cells x c hc
  obtain ⟨o, ho, hn⟩ := not_lasting_cell hc0
  have k : Step h h' := Step.of_sameBut ho hn hs
  obtain ⟨m, n, q⟩ := F.vars
  have hne : env.locals ≠ c := fun z => by
    obtain ⟨o', es, ep, ho', hd', _⟩ := n
    obtain ⟨o, ho, hd⟩ := hc0
    rw [z, ho] at ho'; cases ho'; rw [hd] at hd'; cases hd'
  refine ⟨⟨fun b o' e => ?_, F.new, F.cnew, F.apart, fun y d e => ?_, ⟨m, n.sameBut hs hne, fun y p' e => ?_⟩, fun e => (F.tab e).of fun b o' e' t => ?_⟩, k⟩
  · exact (hs.2 b fun z => by rw [z, F.cnew x c hl hc] at e; cases e).trans (F.keep b o' e)
  · by_cases z : d = c
    · subst z; exact ⟨_, n'⟩
    · obtain ⟨w, hd⟩ := F.cells y d e; exact ⟨w, hd.sameBut hs z⟩
  · rw [lookup_cons'] at e
    by_cases z : y = x
    · subst z
      rw [if_pos rfl] at e; cases e
      exact .inr ⟨.inl hl, c, v, hc, n', i.step k⟩
    · rw [if_neg z] at e
      rcases q y p' e with ⟨l, w, e1, e2⟩ | ⟨l, d, w, e1, e2, e3⟩
      · exact .inl ⟨l, w, e1, e2.step k⟩
      · exact .inr ⟨l, d, w, e1, e2.sameBut hs fun zz => z (F.apart y x c (zz ▸ e1) hc), e3.step k⟩
  · refine (hs.2 b fun z => ?_).trans e'
    obtain ⟨o, ho, hd⟩ := hc0
    rw [z, ho] at e'; cases e'; exact (tabObj_ne t).2 _ hd

section
variable (prog : Program) (w : World) (A : Around) (g : Heap) (env : Env)

/-- an expression's value -/
def EV (r : Vars) (e : Expr) (p : PV) : Prop := ∀ (s : Shared) (Q E : Value → Shared → Prop), FR g env r s.heap →
  (∀ v h' t', FR g env r h' → s.heap.StaysIn h' → Is h' v p → Q v { s with heap := h', toks := t' }) → wpAny (model prog w) A (eval e env) Q E s

/-- several expressions -/
def EVs (r : Vars) (pos : Pos) (es : List Expr) (ps : List PV) : Prop := ∀ (s : Shared) (Q : List Value → Shared → Prop) (E : Value → Shared → Prop), FR g env r s.heap →
  (∀ vs h' t', FR g env r h' → s.heap.StaysIn h' → Paired (Is h') vs ps → Q vs { s with heap := h', toks := t' }) → wpAny (model prog w) A (spliced (backTo pos (starEach es env))) Q E s

/-- a test -/
def TV (r : Vars) (e : Expr) (b : Bool) : Prop := ∀ (s : Shared) (Q : Bool → Shared → Prop) (E : Value → Shared → Prop), FR g env r s.heap →
  (∀ h' t', FR g env r h' → s.heap.StaysIn h' → Q b { s with heap := h', toks := t' }) → wpAny (model prog w) A (isTrue e env (eval e env)) Q E s

inductive Out where
  | nxt (r : Vars)
  | ret (r : Vars) (p : PV)

def Ends (o : Out) (h : Heap) (f : Flow) : Prop := match o with
  | .nxt r => f = .next ∧ FR g env r h
  | .ret r p => ∃ v, f = .ret v ∧ Is h v p ∧ FR g env r h

/-- statements -/
def EX (r : Vars) (b : List Stmt) (o : Out) : Prop := ∀ (s : Shared) (Q : Flow → Shared → Prop) (E : Value → Shared → Prop), FR g env r s.heap →
  (∀ f h' t', Ends g env o h' f → Step s.heap h' → Q f { s with heap := h', toks := t' }) → wpAny (model prog w) A (execs b env) Q E s
def EX1 (r : Vars) (b : Stmt) (o : Out) : Prop := ∀ (s : Shared) (Q : Flow → Shared → Prop) (E : Value → Shared → Prop), FR g env r s.heap →
  (∀ f h' t', Ends g env o h' f → Step s.heap h' → Q f { s with heap := h', toks := t' }) → wpAny (model prog w) A (exec b env) Q E s

/-- operations on values -/
def OP (t : Value → Value → Sem Value) (a b c : PV) : Prop := ∀ (s : Shared) (Q E : Value → Shared → Prop) (va vb : Value), Is s.heap va a → Is s.heap vb b →
  (∀ v h' t', s.heap.StaysIn h' → Is h' v c → Q v { s with heap := h', toks := t' }) → wpAny (model prog w) A (t va vb) Q E s
def OP1 (t : Value → Sem Value) (a c : PV) : Prop := ∀ (s : Shared) (Q E : Value → Shared → Prop) (va : Value), Is s.heap va a →
  (∀ v h' t', s.heap.StaysIn h' → Is h' v c → Q v { s with heap := h', toks := t' }) → wpAny (model prog w) A (t va) Q E s
def TRU (a : PV) (b : Bool) : Prop := ∀ (s : Shared) (Q : Bool → Shared → Prop) (E : Value → Shared → Prop) (va : Value), Is s.heap va a →
  (∀ h' t', s.heap.StaysIn h' → Q b { s with heap := h', toks := t' }) → wpAny (model prog w) A (truthy va) Q E s

/-- a call's value, where P holds of the heap -/
def FN (P : Heap → Prop) (f : Value) (as : List PV) (ks : List (Str × PV)) (p : PV) : Prop := ∀ (s : Shared) (Q E : Value → Shared → Prop) (vs : List Value) (kv : List (Str × Value)), P s.heap → Paired (Is s.heap) vs as →
  Paired (fun a b => a.1 = b.1 ∧ Is s.heap a.2 b.2) kv ks →
  (∀ v h' t', s.heap.StaysIn h' → Is h' v p → Q v { s with heap := h', toks := t' }) → wpAny (model prog w) A (call f vs kv) Q E s
end

section
variable {prog : Program} {w : World} {A : Around} {g : Heap} {env : Env} {r : Vars}

theorem EV.int {i : Int} {k : Nat} {pos : Pos} : EV prog w A g env r (.Constant (.int i) k pos) (.int i) := fun s _ _ F h =>
  wpAny_Constant_int (h _ s.heap _ F (stays_refl _) (IsS.int _ _))
theorem EV.flt {x : UInt64} {k : Nat} {pos : Pos} : EV prog w A g env r (.Constant (.float x) k pos) (.flt x) := fun s _ _ F h =>
  fun _ _ _ => h _ s.heap (s.toks + 1) F (stays_refl _) (IsS.flt _ _)
theorem EV.bool {b : Bool} {k : Nat} {pos : Pos} : EV prog w A g env r (.Constant (.bool b) k pos) (.bool b) := fun s _ _ F h =>
  fun _ _ _ => h _ s.heap s.toks F (stays_refl _) (IsS.bool _)
theorem EV.nonec {k : Nat} {pos : Pos} : EV prog w A g env r (.Constant .none k pos) PV.none := fun s _ _ F h =>
  fun _ _ _ => h _ s.heap s.toks F (stays_refl _) IsS.none

theorem EV.name {x : Str} {pos : Pos} {p : PV} (hk : env.scope.kind = .function) (hr : r.lookup x = some p) (hd : (x == ("__debug__" : Str)) = false) (hn : (x == ("__classdict__" : Str)) = false) :
    EV prog w A g env r (.Name x pos) p := fun s Q E F h => by
  obtain ⟨m, n, q⟩ := F.vars
  rcases q x p hr with ⟨l, v, e1, e2⟩ | ⟨l | l, c, v, e1, e2, e3⟩
  · exact wpAny_Name (wpAny_loadName_local hk l n e1 (h v s.heap s.toks F (stays_refl _) e2)) hd
  · exact wpAny_Name (wpAny_loadName_cell hk l e1 e2 (h v s.heap s.toks F (stays_refl _) e3)) hd
  · exact wpAny_Name (wpAny_loadName_free hk l e1 e2 (h v s.heap s.toks F (stays_refl _) e3) hn) hd

theorem EV.glob {x : Str} {pos : Pos} {v : Value} {mg : Str → Option Value} (hk : env.scope.kind = .function) (hx : env.kindOf x = some .globalImplicit) (hg : g.Ns env.globals mg) (hv : mg x = some v)
    (hd : (x == ("__debug__" : Str)) = false) : EV prog w A g env r (.Name x pos) (.val v) := fun s Q E F h =>
  Name_function_global hk hx (loadGlobal_global (hg.keeps F.keep) hv (h v s.heap s.toks F (stays_refl _) rfl)) hd
theorem EV.blt {x : Str} {pos : Pos} {v : Value} {mg mb : Str → Option Value} (hk : env.scope.kind = .function) (hx : env.kindOf x = some .globalImplicit) (hg : g.Ns env.globals mg) (hm : mg x = none)
    (hb : g.Ns env.builtins mb) (hv : mb x = some v) (hd : (x == ("__debug__" : Str)) = false) : EV prog w A g env r (.Name x pos) (.val v) := fun s Q E F h =>
  Name_function_global hk hx (loadGlobal_builtin (hg.keeps F.keep) hm (hb.keeps F.keep) hv (h v s.heap s.toks F (stays_refl _) rfl)) hd

theorem EV.bin {l r' : Expr} {op : Operator} {pos : Pos} {a b c : PV} (h1 : EV prog w A g env r l a) (h2 : EV prog w A g env r r' b) (h3 : OP prog w A (binaryOp op) a b c) :
    EV prog w A g env r (.BinOp l op r' pos) c := fun s Q E F h =>
  wpAny_BinOp (h1 s _ _ F fun va g1 t1 F1 k1 i1 => h2 _ _ _ F1 fun vb g2 t2 F2 k2 i2 => h3 _ _ _ va vb (i1.stays k2) i2 fun v g3 t3 k3 i3 =>
    h v g3 t3 (F2.stays k3) (stays_trans (stays_trans k1 k2) k3) i3)
theorem EV.cmp {l r' : Expr} {op : CmpOp} {pos : Pos} {a b c : PV} (h1 : EV prog w A g env r l a) (h2 : EV prog w A g env r r' b) (h3 : OP prog w A (compareOp op) a b c)
    (hm : behindInMarks op r' = false := by with_unfolding_all rfl) : EV prog w A g env r (.Compare l [op] [r'] pos) c := fun s Q E F h =>
  wpAny_Compare1 (h1 s _ _ F fun va g1 t1 F1 k1 i1 => h2 _ _ _ F1 fun vb g2 t2 F2 k2 i2 => h3 _ _ _ va vb (i1.stays k2) i2 fun v g3 t3 k3 i3 =>
    h v g3 t3 (F2.stays k3) (stays_trans (stays_trans k1 k2) k3) i3) hm
theorem EV.una {x : Expr} {op : UnaryOp} {pos : Pos} {a c : PV} (h1 : EV prog w A g env r x a) (h3 : OP1 prog w A (unaryOp op) a c) :
    EV prog w A g env r (.UnaryOp op x pos) c := fun s Q E F h =>
  wpAny_UnaryOp (h1 s _ _ F fun va g1 t1 F1 k1 i1 => h3 _ _ _ va i1 fun v g3 t3 k3 i3 =>
    h v g3 t3 (F1.stays k3) (stays_trans k1 k3) i3)

theorem EVs.nil {pos : Pos} : EVs prog w A g env r pos [] [] := fun s Q E F h => spliced_none (h [] s.heap s.toks F (stays_refl _) .nil)
theorem EVs.cons {pos : Pos} {e : Expr} {es : List Expr} {p : PV} {ps : List PV} (h1 : EV prog w A g env r e p) (h2 : EVs prog w A g env r pos es ps)
    (he : ∀ env, starEach (e :: es) env = (false, eval e env) :: starEach es env := by intro _; rfl) : EVs prog w A g env r pos (e :: es) (p :: ps) := fun s Q E F h =>
  spliced_more (h1 s _ _ F fun va g1 t1 F1 k1 i1 => h2 _ _ _ F1 fun vs g2 t2 F2 k2 i2 => h _ g2 t2 F2 (stays_trans k1 k2) (.cons (i1.stays k2) i2)) (he env)

theorem TV.cmp {l r' : Expr} {op : CmpOp} {pos : Pos} {a b : PV} {c : Bool} (h1 : EV prog w A g env r l a) (h2 : EV prog w A g env r r' b) (h3 : OP prog w A (compareOp op) a b (.bool c))
    (hm : behindInMarks op r' = false := by with_unfolding_all rfl) : TV prog w A g env r (.Compare l [op] [r'] pos) c := fun s Q E F h =>
  wpAny_isTrue_Compare1 (h1 s _ _ F fun va g1 t1 F1 k1 i1 => h2 _ _ _ F1 fun vb g2 t2 F2 k2 i2 => h3 _ _ _ va vb (i1.stays k2) i2 fun v g3 t3 k3 i3 => by
    cases i3
    exact wpAny_truthy_bool (h g3 t3 (F2.stays k3) (stays_trans (stays_trans k1 k2) k3))) hm
theorem TV.not {x : Expr} {pos : Pos} {b : Bool} (h1 : TV prog w A g env r x b) : TV prog w A g env r (.UnaryOp .Not x pos) (!b) := fun s Q E F h =>
  isTrue_not (h1 s _ _ F h)
theorem TV.and_nil {pos : Pos} : TV prog w A g env r (.BoolOp .And [] pos) true := fun s Q E F h => isTrue_and_nil (h s.heap s.toks F (stays_refl _))
theorem TV.or_nil {pos : Pos} : TV prog w A g env r (.BoolOp .Or [] pos) false := fun s Q E F h => isTrue_or_nil (h s.heap s.toks F (stays_refl _))
theorem TV.and {x : Expr} {xs : List Expr} {pos : Pos} {b c : Bool} (h1 : TV prog w A g env r x b) (h2 : b = true → TV prog w A g env r (.BoolOp .And xs pos) c) :
    TV prog w A g env r (.BoolOp .And (x :: xs) pos) (b && c) := fun s Q E F h =>
  isTrue_and (h1 s _ _ F fun g1 t1 F1 k1 => by
    cases b with
    | false => exact h g1 t1 F1 k1
    | true => exact h2 rfl _ _ _ F1 fun g2 t2 F2 k2 => h g2 t2 F2 (stays_trans k1 k2))
theorem TV.or {x : Expr} {xs : List Expr} {pos : Pos} {b c : Bool} (h1 : TV prog w A g env r x b) (h2 : b = false → TV prog w A g env r (.BoolOp .Or xs pos) c) :
    TV prog w A g env r (.BoolOp .Or (x :: xs) pos) (b || c) := fun s Q E F h =>
  isTrue_or (h1 s _ _ F fun g1 t1 F1 k1 => by
    cases b with
    | true => exact h g1 t1 F1 k1
    | false => exact h2 rfl _ _ _ F1 fun g2 t2 F2 k2 => h g2 t2 F2 (stays_trans k1 k2))
theorem TV.plain {e : Expr} {p : PV} {b : Bool} (h1 : EV prog w A g env r e p) (h2 : TRU prog w A p b)
    (he : isTrue e env (eval e env) = (do let v ← eval e env; standAt e.pos; holding [v] (truthy v)) := by rfl) : TV prog w A g env r e b := fun s Q E F h =>
  isTrue_plain (h1 s _ _ F fun va g1 t1 F1 k1 i1 => h2 _ _ _ va i1 fun g2 t2 k2 => h g2 t2 (F1.stays k2) (stays_trans k1 k2)) he

theorem EX.nil : EX prog w A g env r [] (.nxt r) := fun s Q E F h => wpAny_execs_nil (h _ s.heap s.toks ⟨rfl, F⟩ (Step.refl _))
theorem EX.cons {st : Stmt} {b : List Stmt} {r' : Vars} {o : Out} (h1 : EX1 prog w A g env r st (.nxt r')) (h2 : EX prog w A g env r' b o) : EX prog w A g env r (st :: b) o := fun s Q E F h =>
  wpAny_execs_cons (h1 s _ _ F fun f g1 t1 e1 k1 => by
    obtain ⟨rfl, F1⟩ := e1
    exact h2 _ _ _ F1 fun f g2 t2 e2 k2 => h f g2 t2 e2 (k1.trans k2))
theorem EX.ret {st : Stmt} {b : List Stmt} {r' : Vars} {p : PV} (h1 : EX1 prog w A g env r st (.ret r' p)) : EX prog w A g env r (st :: b) (.ret r' p) := fun s Q E F h =>
  wpAny_execs_cons (h1 s _ _ F fun f g1 t1 e1 k1 => by
    obtain ⟨v, rfl, e2⟩ := e1
    exact h _ g1 t1 ⟨v, rfl, e2⟩ k1)

theorem hpOf (hk : env.scope.kind = .function) : (env.scope.kind == .class || (env.scope.kind == .module && env.locals != env.globals)) = false := by rw [hk]; rfl

theorem store_local {x : Str} {v : Value} {p : PV} {s : Shared} {Q : Unit → Shared → Prop} {E : Value → Shared → Prop} (hk : env.scope.kind = .function) (hl : env.kindOf x = some .local) (F : FR g env r s.heap) (i : Is s.heap v p)
    (h : ∀ h' t', FR g env ((x, p) :: r) h' → Step s.heap h' → Q () { s with heap := h', toks := t' }) : wpAny (model prog w) A (storeName env x v) Q E s := by
  obtain ⟨m, n, q⟩ := F.vars
  exact wpAny_storeName_local hl n (fun h' n' hs => let z := F.setLocal hl n q n' hs i; h h' _ z.1 z.2) (hpOf hk)
theorem store_cell {x : Str} {c : Addr} {v : Value} {p : PV} {s : Shared} {Q : Unit → Shared → Prop} {E : Value → Shared → Prop} (hk : env.scope.kind = .function) (hl : env.kindOf x = some .cell) (hc : env.cells.lookup x = some c)
    (F : FR g env r s.heap) (i : Is s.heap v p)
    (h : ∀ h' t', FR g env ((x, p) :: r) h' → Step s.heap h' → Q () { s with heap := h', toks := t' }) : wpAny (model prog w) A (storeName env x v) Q E s := by
  obtain ⟨w0, hc0⟩ := F.cells x c hc
  exact wpAny_storeName_cell hk hl hc hc0 (fun h' n' hs => let z := F.setCell hl hc n' hs i; h h' _ z.1 z.2)

theorem EX1.assign {x : Str} {px pos : Pos} {e : Expr} {p : PV} (hk : env.scope.kind = .function) (hl : env.kindOf x = some .local) (h1 : EV prog w A g env r e p)
    (hs : swapsWith e (some (.Name x px)) pos.line env = pure false := by rfl) : EX1 prog w A g env r (.Assign [.Name x px] e pos) (.nxt ((x, p) :: r)) := fun s Q E F h =>
  wpAny_Assign_Name (h1 s _ _ F fun v g1 t1 F1 k1 i1 => store_local hk hl F1 i1 fun g2 t2 F2 k2 => h _ g2 t2 ⟨rfl, F2⟩ ((Step.of_stays k1).trans k2)) hs
theorem EX1.assignCell {x : Str} {c : Addr} {px pos : Pos} {e : Expr} {p : PV} (hk : env.scope.kind = .function) (hl : env.kindOf x = some .cell) (hc : env.cells.lookup x = some c) (h1 : EV prog w A g env r e p)
    (hs : swapsWith e (some (.Name x px)) pos.line env = pure false := by rfl) : EX1 prog w A g env r (.Assign [.Name x px] e pos) (.nxt ((x, p) :: r)) := fun s Q E F h =>
  wpAny_Assign_Name (h1 s _ _ F fun v g1 t1 F1 k1 i1 => store_cell hk hl hc F1 i1 fun g2 t2 F2 k2 => h _ g2 t2 ⟨rfl, F2⟩ ((Step.of_stays k1).trans k2)) hs
theorem EX1.aug {x : Str} {px pos : Pos} {op : Operator} {e : Expr} {a b c : PV} (hk : env.scope.kind = .function) (hl : env.kindOf x = some .local) (hr : r.lookup x = some a) (h1 : EV prog w A g env r e b)
    (h3 : OP prog w A (inplaceOp op) a b c) : EX1 prog w A g env r (.AugAssign (.Name x px) op e pos) (.nxt ((x, c) :: r)) := fun s Q E F h => by
  obtain ⟨m, n, q⟩ := F.vars
  rcases q x a hr with ⟨l, v, e1, e2⟩ | ⟨l | l, _⟩
  · exact wpAny_AugAssign_Name (wpAny_loadName_local hk l n e1 (h1 _ _ _ F fun vb g1 t1 F1 k1 i1 => h3 _ _ _ v vb (e2.stays k1) i1 fun v3 g3 t3 k3 i3 =>
      store_local hk hl (F1.stays k3) i3 fun g4 t4 F4 k4 => h _ g4 t4 ⟨rfl, F4⟩ ((Step.of_stays (stays_trans k1 k3)).trans k4)))
  · rw [hl] at l; cases l
  · rw [hl] at l; cases l
theorem EX1.ite {test : Expr} {b o : List Stmt} {pos : Pos} {c : Bool} {out : Out} (h1 : TV prog w A g env r test c) (h2 : c = true → EX prog w A g env r b out) (h3 : c = false → EX prog w A g env r o out) :
    EX1 prog w A g env r (.If test b o pos) out := fun s Q E F h =>
  wpAny_If (h1 s _ _ F fun g1 t1 F1 k1 => by
    cases c with
    | true => exact h2 rfl _ _ _ F1 fun f g2 t2 e2 k2 => h f g2 t2 e2 ((Step.of_stays k1).trans k2)
    | false => exact h3 rfl _ _ _ F1 fun f g2 t2 e2 k2 => h f g2 t2 e2 ((Step.of_stays k1).trans k2))
theorem EX1.ret {e : Expr} {pos : Pos} {p : PV} (h1 : EV prog w A g env r e p) : EX1 prog w A g env r (.Return (some e) pos) (.ret r p) := fun s Q E F h =>
  wpAny_Return_some (h1 s _ _ F fun v g1 t1 F1 k1 i1 => h _ g1 t1 ⟨v, rfl, i1, F1⟩ (Step.of_stays k1))

theorem EX.less {r' : Vars} {b : List Stmt} {o : Out} (h : EX prog w A g env r' b o) (k : ∀ x p, r'.lookup x = some p → r.lookup x = some p) : EX prog w A g env r b o :=
  fun s Q E F q => h s Q E (F.less k) q
end
end Mine
end

/-! part F2 -/
section
set_option maxRecDepth 100000
set_option linter.unusedVariables false
namespace Mine
open PySem PySem.Calls PySem.W PyProof.Rows

section
variable {prog : Program} {w : World} {A : Around}

theorem OP.addI {a b : Int} : OP prog w A (binaryOp .Add) (.int a) (.int b) (.int (a + b)) := fun s Q E va vb ia ib h => by
  cases ia; cases ib; exact PyProof.Rows.add_int (h _ s.heap _ (stays_refl _) (IsS.int _ _))
theorem OP.subI {a b : Int} : OP prog w A (binaryOp .Sub) (.int a) (.int b) (.int (a - b)) := fun s Q E va vb ia ib h => by
  cases ia; cases ib; exact PyProof.Rows.sub_int (h _ s.heap _ (stays_refl _) (IsS.int _ _))
theorem OP.mulI {a b : Int} (hm : IntMulOk a b) : OP prog w A (binaryOp .Mult) (.int a) (.int b) (.int (a * b)) := fun s Q E va vb ia ib h => by
  cases ia; cases ib; exact PyProof.Rows.mul_int (h _ s.heap _ (stays_refl _) (IsS.int _ _)) hm
theorem OP.fdivI {a b : Int} (hb : b ≠ 0) (hs : b.natAbs < 1073741824) : OP prog w A (binaryOp .FloorDiv) (.int a) (.int b) (.int (a.fdiv b)) := fun s Q E va vb ia ib h => by
  cases ia; cases ib; exact PyProof.Rows.floordiv_int hb (h _ s.heap _ (stays_refl _) (IsS.int _ _)) (.inl (PyProof.noPylong_small hs))
theorem OP.modI {a b : Int} (hb : b ≠ 0) : OP prog w A (binaryOp .Mod) (.int a) (.int b) (.int (a.fmod b)) := fun s Q E va vb ia ib h => by
  cases ia; cases ib; exact PyProof.Rows.mod_int' hb (h _ s.heap _ (stays_refl _) (IsS.int _ _))
theorem OP.powI {a b : Int} (hn : 0 ≤ b) (hn2 : b ≤ 1000000) (ha : a.natAbs < 2 ^ 64) : OP prog w A (binaryOp .Pow) (.int a) (.int b) (.int (a ^ b.toNat)) := fun s Q E va vb ia ib h => by
  cases ia; cases ib; exact PyProof.Rows.pow_int_small hn hn2 ha (h _ s.heap _ (stays_refl _) (IsS.int _ _))
theorem OP.iaddI {a b : Int} : OP prog w A (inplaceOp .Add) (.int a) (.int b) (.int (a + b)) := fun s Q E va vb ia ib h => by
  cases ia; cases ib; exact PyProof.Rows.iadd_int (h _ s.heap _ (stays_refl _) (IsS.int _ _))
/-- int / int -/
def divII (a b : Int) : UInt64 := Float64.ofFrac (decide (a < 0) != decide (b < 0)) a.natAbs b.natAbs
theorem OP.divI {a b : Int} (hA : A.handled = none) (hfit : a.natAbs < 2 ^ 1023) (hb : b ≠ 0) : OP prog w A (binaryOp .Div) (.int a) (.int b) (.flt (divII a b)) := fun s Q E va vb ia ib h => by
  cases ia; cases ib
  exact PySem.Flt.div_ii_fits hA hfit (fun z => absurd z hb) fun _ _ => h _ s.heap _ (stays_refl _) (IsS.flt _ _)
theorem OP1.negI {a : Int} : OP1 prog w A (unaryOp .USub) (.int a) (.int (-a)) := fun s Q E va ia h => by
  cases ia; exact PyProof.Rows.neg_int (h _ s.heap _ (stays_refl _) (IsS.int _ _))

theorem OP.addF {a b : UInt64} : OP prog w A (binaryOp .Add) (.flt a) (.flt b) (.flt (Float64.add a b)) := fun s Q E va vb ia ib h => by
  cases ia; cases ib; exact PyProof.Rows.add_float (h _ s.heap _ (stays_refl _) (IsS.flt _ _))
theorem OP.subF {a b : UInt64} : OP prog w A (binaryOp .Sub) (.flt a) (.flt b) (.flt (Float64.sub a b)) := fun s Q E va vb ia ib h => by
  cases ia; cases ib; exact PyProof.Rows.sub_float (h _ s.heap _ (stays_refl _) (IsS.flt _ _))
theorem OP.mulF {a b : UInt64} : OP prog w A (binaryOp .Mult) (.flt a) (.flt b) (.flt (Float64.mul a b)) := fun s Q E va vb ia ib h => by
  cases ia; cases ib; exact PyProof.Rows.mul_float (h _ s.heap _ (stays_refl _) (IsS.flt _ _))
theorem OP.divF {a b : UInt64} (hA : A.handled = none) (hb : Float64.isZero b = false) : OP prog w A (binaryOp .Div) (.flt a) (.flt b) (.flt (Float64.div a b)) := fun s Q E va vb ia ib h => by
  cases ia; cases ib; exact PyProof.Rows.truediv_float_or hA (fun z => by rw [hb] at z; cases z) fun _ => h _ s.heap _ (stays_refl _) (IsS.flt _ _)
theorem OP.mulFI {a : UInt64} {n : Int} (hfit : n.natAbs < 2 ^ 1023) : OP prog w A (binaryOp .Mult) (.flt a) (.int n) (.flt (Float64.mul a (Float64.ofInt n))) := fun s Q E va vb ia ib h => by
  cases ia; cases ib; exact PyProof.Rows.mul_fi_fits hfit (h _ s.heap _ (stays_refl _) (IsS.flt _ _))
theorem OP.divFI {a : UInt64} {n : Int} (hA : A.handled = none) (hfit : n.natAbs < 2 ^ 1023) (hn : n ≠ 0) : OP prog w A (binaryOp .Div) (.flt a) (.int n) (.flt (Float64.div a (Float64.ofInt n))) := fun s Q E va vb ia ib h => by
  cases ia; cases ib
  exact PySem.Flt.truediv_fi hA (fun z => absurd (PySem.Flt.inf_of_over z) (Float64.ofInt_fits hfit)) (fun z => absurd z hn) fun _ _ => h _ s.heap _ (stays_refl _) (IsS.flt _ _)

theorem OP.ltI {a b : Int} : OP prog w A (compareOp .Lt) (.int a) (.int b) (.bool (decide (a < b))) := fun s Q E va vb ia ib h => by
  cases ia; cases ib; exact PyProof.Rows.lt_int (h _ s.heap s.toks (stays_refl _) (IsS.bool _))
theorem OP.gtI {a b : Int} : OP prog w A (compareOp .Gt) (.int a) (.int b) (.bool (decide (b < a))) := fun s Q E va vb ia ib h => by
  cases ia; cases ib; exact PyProof.Rows.gt_int (h _ s.heap s.toks (stays_refl _) (IsS.bool _))
theorem OP.eqI {a b : Int} : OP prog w A (compareOp .Eq) (.int a) (.int b) (.bool (a == b)) := fun s Q E va vb ia ib h => by
  cases ia; cases ib; exact PyProof.Rows.eq_int (h _ s.heap s.toks (stays_refl _) (IsS.bool _))
theorem OP.neI {a b : Int} : OP prog w A (compareOp .NotEq) (.int a) (.int b) (.bool (a != b)) := fun s Q E va vb ia ib h => by
  cases ia; cases ib; exact PyProof.Rows.ne_int (h _ s.heap s.toks (stays_refl _) (IsS.bool _))
theorem OP.ltF {a b : UInt64} : OP prog w A (compareOp .Lt) (.flt a) (.flt b) (.bool (Float64.cmp a b == some .lt)) := fun s Q E va vb ia ib h => by
  cases ia; cases ib; exact AutoFloatOps.lt_0 (h _ s.heap s.toks (stays_refl _) (IsS.bool _))
theorem OP.gtF {a b : UInt64} : OP prog w A (compareOp .Gt) (.flt a) (.flt b) (.bool (Float64.cmp a b == some .gt)) := fun s Q E va vb ia ib h => by
  cases ia; cases ib; exact AutoFloatOps.gt_0 (h _ s.heap s.toks (stays_refl _) (IsS.bool _))
theorem OP.leI {a b : Int} : OP prog w A (compareOp .LtE) (.int a) (.int b) (.bool (decide (a ≤ b))) := fun s Q E va vb ia ib h => by
  cases ia; cases ib; exact PyProof.Rows.le_int (h _ s.heap s.toks (stays_refl _) (IsS.bool _))
theorem OP.geI {a b : Int} : OP prog w A (compareOp .GtE) (.int a) (.int b) (.bool (decide (b ≤ a))) := fun s Q E va vb ia ib h => by
  cases ia; cases ib; exact PyProof.Rows.ge_int (h _ s.heap s.toks (stays_refl _) (IsS.bool _))
def isNoneP : PV → Bool
  | .sc .none => true
  | _ => false
theorem OP.isNone {a : PV} (ha : ∀ v, a ≠ .val v) : OP prog w A (compareOp .Is) a PV.none (.bool (isNoneP a)) := fun s Q E va vb ia ib h => by
  cases ib
  have key : ∀ (hp : plainIs va .none = true) (e : (va == Value.none) = isNoneP a), wpAny (model prog w) A (compareOp .Is va .none) Q E s := fun hp e =>
    wpAny_is_plain hp (e ▸ h _ s.heap s.toks (stays_refl _) (IsS.bool _))
  cases a with
  | sc x => cases ia <;> exact key rfl rfl
  | tup l => obtain ⟨a, vs, rfl, _⟩ := ia; exact key rfl rfl
  | lst l => obtain ⟨a, vs, rfl, _⟩ := ia; exact key rfl rfl
  | rng a b => obtain ⟨r, _, _, _, rfl, _⟩ := ia; exact key rfl rfl
  | val v => exact absurd rfl (ha v)
  | tys l => obtain ⟨a, rfl, _⟩ := ia; exact key rfl rfl
  | lam _ _ _ _ => obtain ⟨a, _, _, _, _, _, _, rfl, _⟩ := ia; exact key rfl rfl
theorem OP.isNoneRef {x : Addr} : OP prog w A (compareOp .Is) (.val (.ref x)) PV.none (.bool false) := fun s Q E va vb ia ib h => by
  cases ib; cases ia
  exact wpAny_is_plain rfl (h _ s.heap s.toks (stays_refl _) (IsS.bool _))
theorem TRU.int {a : Int} : TRU prog w A (.int a) (a != 0) := fun s Q E va ia h => by
  cases ia; exact PyProof.Rows.truthy_int (h s.heap s.toks (stays_refl _))
theorem TRU.flt {a : UInt64} : TRU prog w A (.flt a) (!Float64.isZero a) := fun s Q E va ia h => by
  cases ia; exact PySem.truthy_float (h s.heap s.toks (stays_refl _))
theorem TRU.bool {b : Bool} : TRU prog w A (.bool b) b := fun s Q E va ia h => by
  cases ia; exact wpAny_truthy_bool (h s.heap s.toks (stays_refl _))

theorem Paired.append {α β : Type} {F : α → β → Prop} : ∀ {a b : List α} {c d : List β}, Paired F a c → Paired F b d → Paired F (a ++ b) (c ++ d)
  | _, _, _, _, .nil, h => h
  | _, _, _, _, .cons x t, h => .cons x (Paired.append t h)
theorem Paired.get {α β : Type} {F : α → β → Prop} : ∀ {a : List α} {c : List β}, Paired F a c → ∀ {i : Nat} {y : β}, c[i]? = some y → ∃ x, a[i]? = some x ∧ F x y
  | _, _, .nil, i, y, h => by simp at h
  | _, _, .cons (a := a) hx t, 0, y, h => by simp at h; subst h; exact ⟨a, by simp, hx⟩
  | _, _, .cons hx t, i + 1, y, h => by
    simp only [List.getElem?_cons_succ] at h ⊢
    exact Paired.get t h

theorem paired_ne {α β : Type} {F : α → β → Prop} {a : List α} {b : List β} (h : Paired F a b) (hb : b ≠ []) : a ≠ [] := by
  intro e; subst e; cases h; exact hb rfl
theorem OP.addT {l k : List SV} (hl : l ≠ []) (hk : k ≠ []) (hsz : l.length + k.length ≤ sizeLine) : OP prog w A (binaryOp .Add) (.tup l) (.tup k) (.tup (l ++ k)) := fun s Q E va vb ia ib h => by
  obtain ⟨t, vs, rfl, ht, hp⟩ := ia
  obtain ⟨b, ws, rfl, hb, hq⟩ := ib
  have hv := paired_ne hp hl
  have hw := paired_ne hq hk
  obtain ⟨⟨cls, dd, data, sl⟩, ho, hc, n, hd⟩ := id ht
  obtain ⟨⟨cls2, dd2, data2, sl2⟩, ho2, hc2, n2, hd2⟩ := id hb
  simp only at hc hd hc2 hd2
  subst hc hd hc2 hd2
  have e : vs.toArray ++ ws.toArray = (vs ++ ws).toArray := by simp
  refine concat_meets ⟨_, ho, rfl⟩ ⟨_, ho2, rfl⟩ noFill_tuple_add seq_tuple_add PySem.F.slot_tuple_add PySem.F.entry_tuple_add (PySem.F.args_tuple_add_2 _ _)
        (tuple_addW2 t b vs.toArray ws.toArray n n2 dd dd2 sl sl2 (by simpa using hv) (by simpa using hw) (by rw [List.size_toArray, List.size_toArray, hp.length, hq.length]; exact hsz)) ⟨ho, ho2, ?_⟩
  rw [e]
  exact h _ _ s.toks (fun c o q => Heap.get?_push_of_some _ q) ⟨_, _, rfl, ⟨_, Heap.get?_push_size _ rfl, rfl, _, rfl⟩, Paired.append hp hq⟩
theorem OP.addL {l k : List SV} (hsz : l.length + k.length ≤ sizeLine) : OP prog w A (binaryOp .Add) (.lst l) (.lst k) (.lst (l ++ k)) := fun s Q E va vb ia ib h => by
  obtain ⟨t, vs, rfl, ht, hp⟩ := ia
  obtain ⟨b, ws, rfl, hb, hq⟩ := ib
  obtain ⟨⟨cls, dd, data, sl⟩, ho, hc, n, hd⟩ := id ht
  obtain ⟨⟨cls2, dd2, data2, sl2⟩, ho2, hc2, n2, hd2⟩ := id hb
  simp only at hc hd hc2 hd2
  subst hc hd hc2 hd2
  have e : vs.toArray ++ ws.toArray = (vs ++ ws).toArray := by simp
  refine concat_meets ⟨_, ho, rfl⟩ ⟨_, ho2, rfl⟩ noFill_list_add seq_list_add PySem.F.slot_list_add PySem.F.entry_list_add (PySem.F.args_list_add_2 _ _)
        (list_addW t b vs.toArray ws.toArray n n2 dd dd2 sl sl2 (by rw [List.size_toArray, List.size_toArray, hp.length, hq.length]; exact hsz)) ⟨ho, ho2, ?_⟩
  rw [e]
  exact h _ _ s.toks (fun c o q => Heap.get?_push_of_some _ q) ⟨_, _, rfl, ⟨_, Heap.get?_push_size _ rfl, rfl, _, rfl⟩, Paired.append hp hq⟩

/-- an item: the tail of a subscript -/
def SUB (prog : Program) (w : World) (A : Around) (value slice : Expr) (a b c : PV) : Prop := ∀ (s : Shared) (Q E : Value → Shared → Prop) (va vb : Value), Is s.heap va a → Is s.heap vb b →
  (∀ v h' t', s.heap.StaysIn h' → Is h' v c → Q v { s with heap := h', toks := t' }) → wpAny (model prog w) A (subscriptTail value slice va vb) Q E s
variable {g : Heap} {env : Env} {r : Vars}
theorem EV.sub {value slice : Expr} {pos : Pos} {a b c : PV} (h1 : EV prog w A g env r value a) (h2 : EV prog w A g env r slice b) (h3 : SUB prog w A value slice a b c) :
    EV prog w A g env r (.Subscript value slice pos) c := fun s Q E F h =>
  PyProof.Rows.Subscript_ (h1 s _ _ F fun va g1 t1 F1 k1 i1 => h2 _ _ _ F1 fun vb g2 t2 F2 k2 i2 => h3 _ _ _ va vb (i1.stays k2) i2 fun v g3 t3 k3 i3 =>
    h v g3 t3 (F2.stays k3) (stays_trans (stays_trans k1 k2) k3) i3)

theorem idx_nat {i : Int} {n : Nat} (h0 : 0 ≤ i) (h1 : i.toNat < n) : seqIndex? i n = some i.toNat := by
  unfold seqIndex?
  simp only [show ¬ (i < 0) by omega, if_false]
  first
    | (rw [if_pos (by omega)])
    | (rw [if_neg (by omega)])
    | simp; omega

theorem SUB.tup {value slice : Expr} {l : List SV} {i : Int} {x : SV} (h0 : 0 ≤ i) (hhi : i < 2 ^ 63) (hx : l[i.toNat]? = some x)
    (hs : ∀ o v, subscripted slice false o v = operate [o, v] (getItem o v)) : SUB prog w A value slice (.tup l) (.int i) (.sc x) := fun s Q E va vb ia ib h => by
  cases ib
  obtain ⟨t, vs, rfl, ht, hp⟩ := ia
  obtain ⟨v, hv, q⟩ := Mine.Paired.get hp hx
  have hlt : i.toNat < vs.length := (List.getElem?_eq_some_iff.mp hv).1
  exact item_tupleT ht (by omega) hhi (idx_nat h0 (by simpa using hlt)) (by simpa using hv) (h v s.heap s.toks (stays_refl _) q) (hs _ _)
theorem SUB.lst {value slice : Expr} {l : List SV} {i : Int} {x : SV} (h0 : 0 ≤ i) (hhi : i < 2 ^ 63) (hx : l[i.toNat]? = some x)
    (hs : ∀ o v, subscripted slice false o v = operate [o, v] (getItem o v)) : SUB prog w A value slice (.lst l) (.int i) (.sc x) := fun s Q E va vb ia ib h => by
  cases ib
  obtain ⟨t, vs, rfl, ht, hp⟩ := ia
  obtain ⟨v, hv, q⟩ := Mine.Paired.get hp hx
  exact tail_any ht.typeIs slot_list_getitem.lookup (wpAny_getItem_list ht h0 hhi (by simpa using hv) (h v s.heap s.toks (stays_refl _) q)) (hs _ _)

theorem range_getitem_at (r : Addr) (a b c k : Int) (t u v z : Tok) (h0 : 0 ≤ k) (h1 : k < Builtin.Range.rangeSize a b c) :
    Meets (Builtin.«range.__getitem__» ⟨[.ref r, .int k z], []⟩) (fun _ R s => IsRange s.heap r a b c t u v ∧ ∀ t', R (.ok (.ret (.int (a + k * c) t'))) { s with toks := t' + 1 }) :=
  .of_wp fun prog w A R s h => by
    obtain ⟨hp, g, d, tk, os⟩ := s
    obtain ⟨hl, h⟩ := h
    have hix : typeLookup (.type "int") (Str.ofString "__index__") = pure (some (.builtin "int.__index__")) := F.slot_int_index.lookup
    have hk : ¬ (k < 0) := by omega
    have hk2 : ¬ (Builtin.Range.rangeSize a b c ≤ k) := by omega
    wp_walk
    rw [if_neg hk]
    exact ⟨_, rfl, h _⟩
end
end Mine
end

/-! part F3 -/
section
set_option maxRecDepth 100000
set_option linter.unusedVariables false
namespace Mine
open PySem PySem.Calls PySem.W PyProof.Rows

section
variable {prog : Program} {w : World} {A : Around} {g : Heap} {env : Env} {r : Vars}

theorem SUB.rng {value slice : Expr} {a b i : Int} (h0 : 0 ≤ i) (h1 : i < b - a)
    (hs : ∀ o v, subscripted slice false o v = operate [o, v] (getItem o v)) : SUB prog w A value slice (.rng a b) (.int i) (.int (a + i)) := fun s Q E va vb ia ib h => by
  cases ib
  obtain ⟨r, t, u, w', rfl, hr⟩ := ia
  have hsz : i < Builtin.Range.rangeSize a b 1 := by
    unfold Builtin.Range.rangeSize
    rw [if_pos (by decide), if_pos (by omega)]
    omega
  refine tail_any (T := "range") ⟨_, hr, rfl⟩ F.slot_range_getitem.lookup ?_ (hs _ _)
  refine getItem_meets (T := "range") ⟨_, hr, rfl⟩ (by decide) F.slot_range_getitem F.entry_range_getitem (F.args_range_getitem_2 _ _) (range_getitem_at r a b 1 i t u w' _ h0 hsz) ⟨hr, fun t' => ?_⟩
  exact h _ s.heap _ (stays_refl _) (by rw [Int.mul_one]; exact IsS.int _ _)

theorem range_len_at (r : Addr) (a b c : Int) (t u v : Tok) (h1 : Builtin.Range.rangeSize a b c < 2 ^ 63) :
    Meets (Builtin.«range.__len__» ⟨[.ref r], []⟩) (fun _ R s => IsRange s.heap r a b c t u v ∧ ∀ t', R (.ok (.ret (.int (Builtin.Range.rangeSize a b c) t'))) { s with toks := t' + 1 }) :=
  .of_wp fun prog w A R s h => by
    obtain ⟨hp, g, d, tk, os⟩ := s
    obtain ⟨hl, h⟩ := h
    have hk2 : ¬ (9223372036854775808 ≤ Builtin.Range.rangeSize a b c) := by omega
    wp_walk
    exact ⟨_, rfl, h _⟩

/-- len -/
theorem FN.lenRng {a b : Int} (hab : a ≤ b) (hfit : b - a < 2 ^ 63) : FN prog w A (fun _ => True) (.builtin "len") [.rng a b] [] (.int (b - a)) := fun s Q E vs kv _ ps pk h => by
  cases ps with
  | cons ia t =>
    cases t; cases pk
    obtain ⟨r, t, u, w', rfl, hr⟩ := ia
    have hsz : Builtin.Range.rangeSize a b 1 = b - a := by
      unfold Builtin.Range.rangeSize
      rw [if_pos (by decide)]
      split <;> omega
    have hT : s.TypeIs (.ref r) "range" := ⟨_, hr, rfl⟩
    refine call_function_entry kind_len plain_len entry_len (args_len1 _) ?_
    unfold Builtin.«len»
    refine wpAny_bind (m := oneArg "len" _) (wpAny_pure ?_)
    refine wpAny_bind (m := callSpecial? (.ref r) (Str.ofString "__len__")) (wpAny_callSpecial?_slot (name := Str.ofString "__len__") hT F.slot_range_len
      (call_meets F.slot_range_len hT F.entry_range_len (F.args_range_len_1 _) (range_len_at r a b 1 t u w' (by omega)) ⟨hr, fun t' => ?_⟩))
    refine wpAny_bind (wpAny_holding (wpAny_pure ?_))
    refine wpAny_bind (wpAny_letGo ?_)
    show wpAny _ _ (if Builtin.Range.rangeSize a b 1 < 0 then _ else _) _ _ _
    rw [if_neg (by omega)]
    show wpAny _ _ (if Builtin.Range.rangeSize a b 1 ≥ 2 ^ 63 then _ else _) _ _ _
    rw [if_neg (by omega)]
    exact wpAny_bind (wpAny_mkInt (wpAny_pure ⟨_, rfl, h _ s.heap _ (stays_refl _) (by rw [hsz]; exact IsS.int _ _)⟩))
theorem FN.lenTup {l : List SV} (hfit : (l.length : Int) < 2 ^ 63) : FN prog w A (fun _ => True) (.builtin "len") [.tup l] [] (.int l.length) := fun s Q E vs kv _ ps pk h => by
  cases ps with
  | cons ia t =>
    cases t; cases pk
    obtain ⟨r, vs, rfl, hr, hp⟩ := ia
    have e : (vs.toArray.size : Int) = l.length := by rw [List.size_toArray, hp.length]
    exact PyProof.Rows.len_tuple hr (by omega) (h _ s.heap _ (stays_refl _) (by rw [e]; exact IsS.int _ _))
end
end Mine
end

/-! part F4 -/
section
set_option maxRecDepth 100000
set_option linter.unusedVariables false
namespace Mine
open PySem PySem.Calls PySem.W PyProof.Rows

section
variable {prog : Program} {w : World} {A : Around} {g : Heap} {env : Env} {r : Vars}

/-- scalars alone -/
theorem paired_sc {h : Heap} {vs : List Value} {l : List SV} (hp : Paired (Is h) vs (l.map PV.sc)) : Paired IsS vs l := by
  induction l generalizing vs with
  | nil => cases hp; exact .nil
  | cons x l ih => cases hp with | cons a t => exact .cons a (ih t)

theorem EV.tupD {elts : List Expr} {k : Nat} {pos : Pos} {l : List SV} (h1 : EVs prog w A g env r pos elts (l.map PV.sc)) (hsz : l.length ≤ sizeLine) : EV prog w A g env r (.Tuple elts k pos) (.tup l) := fun s Q E F h =>
  Tuple_ (h1 s _ _ F fun vs g1 t1 F1 k1 i1 => by
    have hp := paired_sc i1
    have ks : g1.StaysIn (g1.push { cls := .type "tuple", data := .seq vs.toArray }) := fun b o e => Heap.get?_push_of_some _ e
    exact wpAny_newObj_type (h _ _ t1 (F1.stays ks) (stays_trans k1 ks) ⟨_, vs, rfl, ⟨_, Heap.get?_push_size _ rfl, rfl, _, rfl⟩, hp⟩)
      (by show vs.toArray.size ≤ sizeLine; rw [List.size_toArray, hp.length]; exact hsz))
theorem EV.lstD {elts : List Expr} {pos : Pos} {l : List SV} (h1 : EVs prog w A g env r pos elts (l.map PV.sc)) (hsz : l.length ≤ sizeLine) : EV prog w A g env r (.List elts pos) (.lst l) := fun s Q E F h =>
  List_ (h1 s _ _ F fun vs g1 t1 F1 k1 i1 => by
    have hp := paired_sc i1
    have ks : g1.StaysIn (g1.push { cls := .type "list", data := .seq vs.toArray }) := fun b o e => Heap.get?_push_of_some _ e
    exact wpAny_newObj_type (h _ _ t1 (F1.stays ks) (stays_trans k1 ks) ⟨_, vs, rfl, ⟨_, Heap.get?_push_size _ rfl, rfl, _, rfl⟩, hp⟩)
      (by show vs.toArray.size ≤ sizeLine; rw [List.size_toArray, hp.length]; exact hsz))

/-- a list display of plain values: the list as it was just made -/
def PLN (prog : Program) (w : World) (A : Around) (g : Heap) (env : Env) (r : Vars) (e : Expr) (l : List SV) : Prop := ∀ (s : Shared) (Q E : Value → Shared → Prop), FR g env r s.heap →
  (∀ a vs h' t', FR g env r h' → s.heap.StaysIn h' → h'.get? a = some { cls := .type "list", data := .seq (List.toArray vs) } → Paired IsS vs l → Q (.ref a) { s with heap := h', toks := t' }) → wpAny (model prog w) A (eval e env) Q E s
theorem PLN.lstD {elts : List Expr} {pos : Pos} {l : List SV} (h1 : EVs prog w A g env r pos elts (l.map PV.sc)) (hsz : l.length ≤ sizeLine) : PLN prog w A g env r (.List elts pos) l := fun s Q E F h =>
  List_ (h1 s _ _ F fun vs g1 t1 F1 k1 i1 => by
    have hp := paired_sc i1
    have ks : g1.StaysIn (g1.push { cls := .type "list", data := .seq vs.toArray }) := fun b o e => Heap.get?_push_of_some _ e
    exact wpAny_newObj_type (h _ vs _ t1 (F1.stays ks) (stays_trans k1 ks) (Heap.get?_push_size _ rfl) hp)
      (by show vs.toArray.size ≤ sizeLine; rw [List.size_toArray, hp.length]; exact hsz))
theorem foldl_rep (vs : List Value) : ∀ (n : Nat) (acc : Array Value), List.foldl (fun x1 x2 => x1 ++ x2) acc (List.replicate n vs.toArray) = acc ++ ((List.replicate n vs).flatten).toArray
  | 0, acc => by simp
  | n + 1, acc => by rw [List.replicate_succ, List.foldl_cons, foldl_rep vs n]; simp [List.replicate_succ, Array.append_assoc]
theorem paired_rep {vs : List Value} {l : List SV} (hp : Paired IsS vs l) : ∀ n : Nat, Paired IsS (List.replicate n vs).flatten (List.replicate n l).flatten
  | 0 => by simpa using Paired.nil
  | n + 1 => by simpa [List.replicate_succ] using Paired.append hp (paired_rep hp n)
theorem EV.mulL {e : Expr} {pos pos' : Pos} {l : List SV} {n : Int} {k : Nat} (h1 : PLN prog w A g env r e l) (hl : l ≠ []) (h0 : 0 ≤ n) (hn : n < 2 ^ 63) (hsz : l.length * n.toNat ≤ 2 ^ 24) :
    EV prog w A g env r (.BinOp e .Mult (.Constant (.int n) k pos') pos) (.lst (List.replicate n.toNat l).flatten) := fun s Q E F h =>
  wpAny_BinOp (h1 s _ _ F fun a vs g1 t1 F1 k1 e1 hp => wpAny_Constant_int (by
    have hv : vs ≠ [] := paired_ne hp hl
    have hv' : vs.toArray.isEmpty = false := by cases vs with | nil => exact absurd rfl hv | cons => rfl
    have hz : vs.toArray.size = l.length := by rw [List.size_toArray, hp.length]
    have hsz1 : vs.toArray.size * n.toNat ≤ 2 ^ 24 := hz ▸ hsz
    have hsz2 : vs.length * n.toNat ≤ 2 ^ 24 := by rw [List.size_toArray] at hsz1; exact hsz1
    refine wpAny_binaryOp_repeat_ref (T := "list") (U := "int") (by decide) ⟨_, e1, rfl⟩ (fun s' => typeIs_int s' n _) noFill_list_mul PySem.F.fills_int_mul PySem.F.slot_int_rmul repeat_list PySem.F.slot_int_index.lookup
      (call_meets PySem.F.slot_int_rmul (typeIs_int _ n _) PySem.F.entry_int_rmul (PySem.F.args_int_rmul_2 _ _) (int___rmul___int_list n _ a vs.toArray 0)
      ⟨e1, rfl, ⟨_, e1, rfl⟩, call_meets PySem.F.slot_list_mul ⟨_, e1, rfl⟩ PySem.F.entry_list_mul (PySem.F.args_list_mul_2 _ _)
        (AutoListH.list___mul___list_int_3 a vs.toArray 0 n _ (by simp [Builtin.List.listFitsIndex]; omega) (by omega) (by simp [Builtin.List.listTooLong, sizeLine]; omega))
        ⟨e1, ?_⟩⟩)
    rw [hv']
    simp only [Bool.false_eq_true, if_false, foldl_rep, Array.empty_append]
    have ks : ∀ o : Obj, g1.StaysIn (g1.push o) := fun o b o' e => Heap.get?_push_of_some _ e
    exact h _ _ _ (F1.stays (ks _)) (stays_trans k1 (ks _)) ⟨_, _, rfl, ⟨_, Heap.get?_push_size _ rfl, rfl, _, rfl⟩, paired_rep hp _⟩))

/-- what may stand as a callee -/
def CAN (P : Heap → Prop) (f : Value) : Prop := ∀ (M : Model) (h : Heap), P h → ∃ k, (k = Keeper.frame ∨ k = Keeper.machine ∨ k = Keeper.boundFrame) ∧ Looks M h (keeperOf f) k
theorem CAN.blt {P : Heap → Prop} {id : String} : CAN P (.builtin id) := fun M h _ => ⟨.machine, .inr (.inl rfl), Looks.now⟩
theorem CAN.typ {P : Heap → Prop} {T : String} : CAN P (.type T) := fun M h _ => ⟨.machine, .inr (.inl rfl), Looks.now⟩
theorem CAN.fn {P : Heap → Prop} {a : Addr} (hf : ∀ h, P h → ∃ o fd, h.get? a = some o ∧ o.data = .func fd) : CAN P (.ref a) := fun M h p => by
  obtain ⟨o, fd, ho, hd⟩ := hf h p
  refine ⟨.frame, .inl rfl, (Looks.ld (part := none) ho).andThen ?_⟩
  rw [hd]
  exact Looks.now

theorem EV.app {P : Heap → Prop} {id : Str} {p pos : Pos} {e : Expr} {es : List Expr} {f : Value} {as : List PV} {res : PV} (hf : EV prog w A g env r (.Name id p) (.val f)) (ha : EVs prog w A g env r pos (e :: es) as)
    (hc : CAN P f) (hfn : FN prog w A P f as [] res) (hP : ∀ h, FR g env r h → P h) (he : ∀ env, starEach (e :: es) env = (false, eval e env) :: starEach es env := by intro _; rfl)
    (hplain : ∀ env, (backTo pos (starEach es env)).any (·.1) = false := by intro _; rfl) :
    EV prog w A g env r (.Call (.Name id p) (e :: es) [] pos) res := fun s Q E F h =>
  wpAny_Call_Name_kw (hf s _ _ F fun v g1 t1 F1 k1 i1 => by
    cases i1
    have body : wpAny (model prog w) A (spliced (backTo pos (starEach (e :: es) env))) (fun vs s₁ => P s₁.heap ∧ wpAny (model prog w) A (PySem.call f ([] ++ vs) []) Q E s₁) E { s with heap := g1, toks := t1 } :=
      ha _ _ _ F1 fun vs g2 t2 F2 k2 i2 => ⟨hP _ F2, hfn { s with heap := g2, toks := t2 } Q E vs [] (hP _ F2) i2 .nil fun v g3 t3 k3 i3 => h v g3 t3 (F2.stays k3) (stays_trans (stays_trans k1 k2) k3) i3⟩
    rw [he] at body ⊢
    refine callWith_of (P := P) ?_ (hc _) ?_
    · show ((false || (backTo pos (starEach es env)).any (·.1)) || false) = false
      rw [hplain]; rfl
    · exact evalArgs_plain body)

/-- with one keyword -/
theorem EV.appK {P : Heap → Prop} {id kn : Str} {p pos kp : Pos} {e ke : Expr} {es : List Expr} {f : Value} {as : List PV} {kv : PV} {res : PV} (hf : EV prog w A g env r (.Name id p) (.val f)) (ha : EVs prog w A g env r pos (e :: es) as)
    (hk : EV prog w A g env r ke kv)
    (hc : CAN P f) (hfn : FN prog w A P f as [(kn, kv)] res) (hP : ∀ h, FR g env r h → P h) (he : ∀ env, starEach (e :: es) env = (false, eval e env) :: starEach es env := by intro _; rfl)
    (hplain : ∀ env, (backTo pos (starEach es env)).any (·.1) = false := by intro _; rfl) :
    EV prog w A g env r (.Call (.Name id p) (e :: es) [⟨some kn, ke, kp⟩] pos) res := fun s Q E F h =>
  wpAny_Call_Name_kw (hf s _ _ F fun v g1 t1 F1 k1 i1 => by
    cases i1
    refine callWith_of (P := P) ?_ (hc _) ?_
    · rw [he]
      show ((false || (backTo pos (starEach es env)).any (·.1)) || false) = false
      rw [hplain]; rfl
    · refine evalArgs_kw2 rfl (ha _ _ _ F1 fun vs g2 t2 F2 k2 i2 => ?_) (he env)
      refine kwAll_cons (hk _ _ _ F2 fun v g3 t3 F3 k3 i3 => kwAll_nil ⟨hP _ F3, ?_⟩)
      refine hfn { s with heap := g3, toks := t3 } Q E ([] ++ vs) [(kn, v)] (hP _ F3) ?_ (.cons ⟨rfl, i3⟩ .nil) fun v g4 t4 k4 i4 => h v g4 t4 (F3.stays k4) (stays_trans (stays_trans (stays_trans k1 k2) k3) k4) i4
      have : ∀ {vs : List Value} {as : List PV}, Paired (Is g2) vs as → Paired (Is g3) vs as := fun q => by
        induction q with
        | nil => exact .nil
        | cons a _ ih => exact .cons (a.stays k3) ih
      exact this i2)
end
end Mine
end

/-! part F5 -/
section
set_option maxRecDepth 100000
set_option linter.unusedVariables false
namespace Mine
open PySem PySem.Calls PySem.W PyProof.Rows

section
variable {prog : Program} {w : World} {A : Around} {g : Heap} {env : Env} {r : Vars}

/-- an iterator's object -/
def Iterish (o : Obj) : Prop := (∃ xs, o.data = .fields xs) ∧ o.cls ≠ .type "tuple" ∧ o.cls ≠ .type "list" ∧ o.cls ≠ .type "range" ∧ ¬ TabObj o
theorem iterish_of {o : Obj} {T : String} {xs : Array Value} (h : o.cls = .type T) (hd : o.data = .fields xs) (h1 : T ≠ "tuple" := by decide) (h2 : T ≠ "list" := by decide) (h3 : T ≠ "range" := by decide) (h4 : ∀ q t, xs[1]? ≠ some (.str q t) := by intro q t e; cases e) : Iterish o :=
  ⟨⟨xs, hd⟩, fun e => h1 (Value.type.inj (h.symm.trans e)), fun e => h2 (Value.type.inj (h.symm.trans e)), fun e => h3 (Value.type.inj (h.symm.trans e)), fun ⟨vs, e1, e2⟩ => by
    rcases e2 with e2 | ⟨q, t, e2⟩
    · rw [h] at e2; cases e2
    · rw [hd] at e1; cases e1; exact h4 q t e2⟩
/-- a source of items -/
def ITER (prog : Program) (w : World) (A : Around) (a : PV) (xs : List SV) : Prop := ∀ (s : Shared) (Q E : Value → Shared → Prop) (va : Value), Is s.heap va a →
  (∀ I fp wr P St h', Walks prog w A I fp wr xs.length P St → (∀ i v, P i v → ∃ x, xs[i]? = some x ∧ IsS v x) → St 0 h' → s.heap.StaysIn h' → (∀ b ∈ fp, b < h'.objs.size) → (∀ b ∈ wr, s.heap.get? b = none) → (∀ i h, St i h → ∀ b ∈ fp, ∀ o, h.get? b = some o → Lasting o) →
    (∀ i h, St i h → ∀ b ∈ wr, ∃ o, h.get? b = some o ∧ Iterish o) → Q (.ref I) { s with heap := h' }) → wpAny (model prog w) A (pyIter va) Q E s

theorem fresh_at {h : Heap} {b : Addr} (k : h.objs.size ≤ b) : h.get? b = none := by
  cases e : h.get? b with
  | none => rfl
  | some o => exact absurd (Heap.lt_size e) (Nat.not_lt.mpr k)
theorem stays_push (h : Heap) (o : Obj) : h.StaysIn (h.push o) := fun _ _ e => Heap.get?_push_of_some _ e

theorem lasting_fields {o : Obj} {T : String} {xs : Array Value} (h : o.cls = .type T) (hd : o.data = .fields xs) : Lasting o :=
  ⟨fun _ _ e => (by rw [hd] at e; cases e), fun _ e => (by rw [hd] at e; cases e), .inl (lasting_cls h)⟩
theorem last_two {h : Heap} {a b c : Addr} {o : Obj} (h1 : ∀ o, h.get? a = some o → Lasting o) (h2 : ∀ o, h.get? b = some o → Lasting o) (hc : c ∈ [a, b]) (ho : h.get? c = some o) : Lasting o := by
  rcases List.mem_cons.mp hc with rfl | hc
  · exact h1 _ ho
  · rw [List.mem_singleton.mp hc] at ho; exact h2 _ ho
theorem ITER.lst (hh : A.handled = none) {l : List SV} : ITER prog w A (.lst l) l := fun s Q E va ia h => by
  obtain ⟨a, vs, rfl, hl, hp⟩ := ia
  have hlt : a < s.heap.objs.size := by obtain ⟨_, e, _⟩ := hl; exact Heap.lt_size e
  have e : vs.toArray.size = l.length := by rw [List.size_toArray, hp.length]
  refine wpAny_pyIter_list hl (h s.heap.objs.size [s.heap.objs.size, a] [s.heap.objs.size] _ _ _ (e ▸ Walks.list hh _ a (Nat.ne_of_lt hlt) vs.toArray) (fun i v hv => ?_)
    ⟨⟨_, Heap.get?_push_size _ rfl, rfl, rfl⟩, hl.push _⟩ (stays_push _ _) (fun b hb => ?_) (fun b hb => ?_) (fun i h st b hb o ho => ?_) fun i h st b hb => ?_)
  · have hv' : vs[i]? = some v := by simpa using hv
    have hlen : i < l.length := by rw [← hp.length]; exact (List.getElem?_eq_some_iff.mp hv').1
    obtain ⟨x, hx, q⟩ := Mine.Paired.get hp (i := i) (y := l[i]) (List.getElem?_eq_getElem hlen)
    rw [hv'] at hx; cases hx
    exact ⟨_, List.getElem?_eq_getElem hlen, q⟩
  · rw [Heap.size_push]
    rcases List.mem_cons.mp hb with rfl | hb
    · exact Nat.lt_succ_self _
    · rw [List.mem_singleton.mp hb]; exact Nat.lt_succ_of_lt hlt
  · rw [List.mem_singleton.mp hb]; exact fresh_at (Nat.le_refl _)
  · exact last_two (fun o ho => by obtain ⟨o', e, hc, hd⟩ := st.1; rw [e] at ho; cases ho; exact lasting_fields hc hd) (fun o ho => by obtain ⟨o', e, hc, n, hd⟩ := st.2; rw [e] at ho; cases ho; exact lasting_seq hc hd) hb ho
  · rw [List.mem_singleton.mp hb]; obtain ⟨o', e, hc, hd⟩ := st.1; exact ⟨o', e, iterish_of hc hd⟩
theorem ITER.tup (hh : A.handled = none) {l : List SV} : ITER prog w A (.tup l) l := fun s Q E va ia h => by
  obtain ⟨a, vs, rfl, hl, hp⟩ := ia
  have hlt : a < s.heap.objs.size := by obtain ⟨_, e, _⟩ := hl; exact Heap.lt_size e
  have e : vs.toArray.size = l.length := by rw [List.size_toArray, hp.length]
  have hl' : s.heap.IsTuple a vs.toArray := hl
  refine wpAny_pyIter_tuple hl' (h s.heap.objs.size [s.heap.objs.size, a] [s.heap.objs.size] _ _ _ (e ▸ Walks.tuple hh _ a (Nat.ne_of_lt hlt) vs.toArray) (fun i v hv => ?_)
    ⟨⟨_, Heap.get?_push_size _ rfl, rfl, rfl⟩, hl'.push _⟩ (stays_push _ _) (fun b hb => ?_) (fun b hb => ?_) (fun i h st b hb o ho => ?_) fun i h st b hb => ?_)
  · have hv' : vs[i]? = some v := by simpa using hv
    have hlen : i < l.length := by rw [← hp.length]; exact (List.getElem?_eq_some_iff.mp hv').1
    obtain ⟨x, hx, q⟩ := Mine.Paired.get hp (i := i) (y := l[i]) (List.getElem?_eq_getElem hlen)
    rw [hv'] at hx; cases hx
    exact ⟨_, List.getElem?_eq_getElem hlen, q⟩
  · rw [Heap.size_push]
    rcases List.mem_cons.mp hb with rfl | hb
    · exact Nat.lt_succ_self _
    · rw [List.mem_singleton.mp hb]; exact Nat.lt_succ_of_lt hlt
  · rw [List.mem_singleton.mp hb]; exact fresh_at (Nat.le_refl _)
  · exact last_two (fun o ho => by obtain ⟨o', e, hc, hd⟩ := st.1; rw [e] at ho; cases ho; exact lasting_fields hc hd) (fun o ho => by obtain ⟨o', e, hc, n, hd⟩ := st.2; rw [e] at ho; cases ho; exact lasting_seq hc hd) hb ho
  · rw [List.mem_singleton.mp hb]; obtain ⟨o', e, hc, hd⟩ := st.1; exact ⟨o', e, iterish_of hc hd⟩
theorem ITER.rng (hh : A.handled = none) {a : Int} {n : Nat} (h0 : 0 ≤ a) (h1 : a + n < 2 ^ 62) : ITER prog w A (.rng a (a + n)) ((List.range n).map fun (k : Nat) => SV.int (a + k)) := fun s Q E va ia h => by
  obtain ⟨x, t, u, w', rfl, hl⟩ := ia
  have hsz : Builtin.Range.rangeSize a (a + n) 1 = n := by
    unfold Builtin.Range.rangeSize
    rw [if_pos (by decide)]
    split <;> omega
  have hsm : Builtin.Range.small a (a + n) 1 = true := by
    unfold Builtin.Range.small Builtin.Range.rangeFitsLong
    rw [hsz]
    simp
    omega
  have hW := Walks.bound (Walks.range (prog := prog) (w := w) hh s.heap.objs.size a 1 n)
  rw [show n = ((List.range n).map fun (k : Nat) => SV.int (a + k)).length by simp] at hW
  refine wpAny_pyIter_range hl hsm (h s.heap.objs.size [s.heap.objs.size] [s.heap.objs.size] _ _ _ hW (fun i v hv => ?_) ?_ (stays_push _ _) (fun b hb => ?_) (fun b hb => ?_) (fun i h st b hb o ho => ?_) fun i h st b hb => ?_)
  · obtain ⟨hi, t, rfl⟩ := hv
    have hi' : i < n := by simpa using hi
    exact ⟨.int (a + i), by simp [hi'], by rw [Int.mul_one]; exact IsS.int _ _⟩
  · have := Heap.get?_push_size s.heap (o := { cls := .type "range_iterator", data := .fields #[rawInt a, rawInt (Builtin.Range.rangeSize a (a + n) 1), rawInt 1] }) rfl
    rw [hsz] at this
    simp only [hsz]
    simpa using this
  · rw [Heap.size_push, List.mem_singleton.mp hb]; exact Nat.lt_succ_self _
  · rw [List.mem_singleton.mp hb]; exact fresh_at (Nat.le_refl _)
  · rw [List.mem_singleton.mp hb] at ho; rw [st] at ho; cases ho; exact lasting_fields rfl rfl
  · rw [List.mem_singleton.mp hb]; exact ⟨_, st, iterish_of rfl rfl⟩

theorem kept_wr {h h' h2 : Heap} {wr : List Addr} (k : h.StaysIn h') (hw : ∀ b ∈ wr, h.get? b = none) (k2 : ∀ b o, b ∉ wr → h'.get? b = some o → h2.get? b = some o) : h.StaysIn h2 := fun b o e =>
  k2 b o (fun hb => by rw [hw b hb] at e; cases e) (k b o e)

def svInt : SV → Int
  | .int i => i
  | _ => 0
theorem preSum_list (ns : List Int) : ∀ j, j ≤ ns.length → preSum (fun i => ns.getD i 0) j = (ns.take j).sum
  | 0, _ => rfl
  | j + 1, h => by
    rw [preSum, preSum_list ns j (by omega), List.take_add_one, List.getElem?_eq_getElem (show j < ns.length by omega), List.sum_append]
    simp [List.getD, List.getElem?_eq_getElem (show j < ns.length by omega), List.sum_append]
/-- sum of ints -/
theorem FN.sum {P : Heap → Prop} {a : PV} {ns : List Int} (ha : ITER prog w A.in1 a (ns.map SV.int)) : FN prog w A P (.builtin "sum") [a] [] (.int ns.sum) := fun s Q E vs kv _ ps pk h => by
  cases ps with
  | cons ia t =>
    cases t; cases pk
    refine call_sum_walkG (ha _ _ _ _ ia fun I fp wr P St h' W hP h0 hk hfp hwr _ _ => ⟨I, fp, wr, _, _, St, fun i => ns.getD i 0, rfl, Walks.bound W, h0, hfp, fun i v hv => ?_, fun h2 tk t' k2 => ?_⟩)
    · obtain ⟨x, hx, q⟩ := hP i v hv.2
      simp only [List.getElem?_map, Option.map_eq_some_iff] at hx
      obtain ⟨y, hy, rfl⟩ := hx
      cases q
      rw [show y = ns.getD i 0 by simp [List.getD, hy]]
      exact ⟨_, rfl⟩
    · refine h _ h2 tk (kept_wr hk hwr k2) ?_
      rw [show (ns.map SV.int).length = ns.length by simp, preSum_list ns _ (Nat.le_refl _), List.take_of_length_le (Nat.le_refl _)]
      exact IsS.int _ _

/-- a while: the turns' outcomes by a measure -/
theorem EX1.while {test : Expr} {body : List Stmt} {pos : Pos} {r' : Vars} (I : Nat → Vars → Prop)
    (turn : ∀ n r, I n r → (TV prog w A g env r test false ∧ (∀ x p, r'.lookup x = some p → r.lookup x = some p)) ∨
      (TV prog w A g env r test true ∧ ∃ m r2, m < n ∧ EX prog w A g env r body (.nxt r2) ∧ I m r2)) {n : Nat} (h0 : I n r) : EX1 prog w A g env r (.While test body [] pos) (.nxt r') := fun s Q E F h => by
  refine wpAny_While (codeAny_whileLoop (fun n s' => ∃ r2 h' t', s' = { s with heap := h', toks := t' } ∧ I n r2 ∧ FR g env r2 h' ∧ Step s.heap h') (fun n s' hI => ?_) n ⟨r, s.heap, s.toks, rfl, h0, F, Step.refl _⟩)
  obtain ⟨r2, h', t', rfl, hi, F2, k2⟩ := hI
  rcases turn n r2 hi with ⟨tv, le⟩ | ⟨tv, m, r3, hm, ex, hi3⟩
  · refine tv _ _ _ F2 fun h3 t3 F3 k3 => ?_
    simp only [Bool.false_eq_true, if_false]
    exact wpAny_execs_nil (h _ h3 t3 ⟨rfl, F3.less le⟩ (k2.trans (Step.of_stays k3)))
  · refine tv _ _ _ F2 fun h3 t3 F3 k3 => ?_
    simp only [if_true]
    refine ex _ _ _ F3 fun f h4 t4 e4 k4 => ?_
    obtain ⟨rfl, F4⟩ := e4
    exact ⟨m, hm, r3, h4, t4, rfl, hi3, F4, (k2.trans (Step.of_stays k3)).trans k4⟩
end
end Mine
end

/-! part F6 -/
section
set_option maxRecDepth 100000
set_option linter.unusedVariables false
namespace Mine
open PySem PySem.Calls PySem.W PyProof.Rows

section
variable {prog : Program} {w : World} {A : Around} {g : Heap} {env : Env} {r : Vars}

theorem FR.setLocalX {h h' : Heap} {x : Str} {v : Value} {p : PV} {m : Str → Option Value} (F : FR g env r h) (hl : env.kindOf x = some .local)
    (n : h.Ns env.locals m) (q : ∀ y p, r.lookup y = some p → Reads h env m y p)
    (n' : h'.Ns env.locals (fun y => if y = x then some v else m y)) (hs : ∀ b o, b ≠ env.locals → h.get? b = some o → h'.get? b = some o) (i : Is h' v p) : FR g env ((x, p) :: r) h' ∧ Step h h' := by
  obtain ⟨o, ho, hn⟩ := not_lasting_ns n
  have k : Step h h' := fun b o' e l => by
    by_cases z : b = env.locals
    · subst z; rw [ho] at e; cases e; exact absurd l hn
    · exact hs b o' z e
  have cl : ∀ {c : Addr} {w : Option Value}, h.IsCell c w → h'.IsCell c w := fun {c w} hc => by
    obtain ⟨o', ho', hd'⟩ := hc
    refine ⟨o', hs c o' (fun z => ?_) ho', hd'⟩
    obtain ⟨o, es, ep, ho, hd, _⟩ := n
    rw [z, ho] at ho'; cases ho'; rw [hd] at hd'; cases hd'
  refine ⟨⟨fun b o' e => ?_, F.new, F.cnew, F.apart, fun y c e => ?_, ⟨_, n', fun y p' e => ?_⟩, fun e => (F.tab e).of fun b o' e' t => ?_⟩, k⟩
  · exact hs b o' (fun z => by rw [z, F.new] at e; cases e) (F.keep b o' e)
  · obtain ⟨w, hc⟩ := F.cells y c e
    exact ⟨w, cl hc⟩
  · rw [lookup_cons'] at e
    by_cases z : y = x
    · subst z
      rw [if_pos rfl] at e; cases e
      exact .inl ⟨hl, v, by simp, i⟩
    · rw [if_neg z] at e
      rcases q y p' e with ⟨l, w, e1, e2⟩ | ⟨l, c, w, e1, e2, e3⟩
      · exact .inl ⟨l, w, by simp [z, e1], e2.step k⟩
      · exact .inr ⟨l, c, w, e1, cl e2, e3.step k⟩
  · refine hs b o' (fun z => ?_) e'
    obtain ⟨o, es, ep, ho, hd, _⟩ := n
    rw [z, ho] at e'; cases e'; exact (tabObj_ne t).1 _ _ hd

/-- what a comprehension's block sees of the names around it -/
structure Seen (scope : Scope) (cl : List (Str × Addr)) (env : Env) (r rf : Vars) (x : Str) : Prop where
  clos : closureFor scope env = pure cl
  cell : ∀ y ∈ scope.names, y.2 ≠ .cell
  kind : scope.kind = .function
  names : ∀ y ∈ scope.names, y.2 = .local → scope.names.lookup y.1 = some .local
  var : scope.names.lookup x = some .local
  sub : ∀ n c, cl.lookup n = some c → env.cells.lookup n = some c
  cells : ∀ n c, cl.lookup n = some c → ∀ C, (compEnvC scope cl C env).kindOf n = some .cell → env.kindOf n = some .cell
  vars : ∀ n p, rf.lookup n = some p → r.lookup n = some p ∧ (∃ c, cl.lookup n = some c) ∧ (∀ C, (compEnvC scope cl C env).kindOf n = some .cell) ∧ env.kindOf n ≠ some .local

theorem Seen.nil {scope : Scope} {x : Str} (hfree : ∀ y ∈ scope.names, y.2 ≠ .free) (cell : ∀ y ∈ scope.names, y.2 ≠ .cell) (kind : scope.kind = .function)
    (names : ∀ y ∈ scope.names, y.2 = .local → scope.names.lookup y.1 = some .local) (var : scope.names.lookup x = some .local) : Seen scope [] env r [] x where
  clos := closureFor_none hfree
  cell := cell
  kind := kind
  names := names
  var := var
  sub := fun _ _ e => (nomatch e)
  cells := fun _ _ e => (nomatch e)
  vars := fun _ _ e => (nomatch e)

theorem FR.block {scope : Scope} {cl : List (Str × Addr)} {rf : Vars} {x : Str} {h h3 : Heap} {C : Addr} {v : Value} {p : PV} {m3 : Str → Option Value} (F : FR g env r h) (S : Seen scope cl env r rf x)
    (hC : g.get? C = none) (n3 : h3.Ns C m3) (hv : m3 x = some v) (k : h.StaysIn h3) (i : Is h3 v p) : FR g (compEnvC scope cl C env) ((x, p) :: rf) h3 where
  keep := stays_trans F.keep k
  new := hC
  cnew := fun y c hk hc => F.cnew y c (S.cells y c hc C hk) (S.sub y c hc)
  apart := fun y z c a b => F.apart y z c (S.sub y c a) (S.sub z c b)
  cells := fun y c e => let ⟨w, q⟩ := F.cells y c (S.sub y c e); ⟨w, q.keeps k⟩
  vars := ⟨m3, n3, fun y p' e => by
    rw [lookup_cons'] at e
    by_cases z : y = x
    · subst z
      rw [if_pos rfl] at e; cases e
      exact .inl ⟨lookup_relabel_local S.var, v, hv, i⟩
    · rw [if_neg z] at e
      obtain ⟨e1, ⟨c, e2⟩, e3, e4⟩ := S.vars y p' e
      obtain ⟨m, n, q⟩ := F.vars
      rcases q y p' e1 with ⟨l, _⟩ | ⟨l, c', w, e5, e6, e7⟩
      · exact absurd l e4
      · rw [S.sub y c e2] at e5; cases e5
        exact .inr ⟨.inl (e3 C), c, w, e2, e6.keeps k, e7.stays k⟩⟩
  tab := fun e => (F.tab e).stays k

theorem paired_map {P : Nat → Value → Prop} {xs : List SV} {f : SV → SV} (hP : ∀ i v, P i v → ∃ x, xs[i]? = some x ∧ IsS v x) : ∀ {vs us : List Value}, vs.length = xs.length → (∀ j v, vs[j]? = some v → P j v) →
    Paired (fun v y => ∃ x, IsS v x ∧ IsS y (f x)) vs us → Paired IsS us (xs.map f) := by
  have isS_inj : ∀ {v : Value} {a b : SV}, IsS v a → IsS v b → a = b := fun {v a b} p q => by cases p <;> cases q <;> rfl
  have key : ∀ {vs us : List Value} {xs : List SV}, Paired IsS vs xs → Paired (fun v y => ∃ x, IsS v x ∧ IsS y (f x)) vs us → Paired IsS us (xs.map f) := by
    intro vs us xs a
    induction a generalizing us with
    | nil => intro b; cases b; exact .nil
    | cons h t ih =>
      intro b
      cases b with
      | cons h' t' =>
        obtain ⟨x, p, q⟩ := h'
        have e := isS_inj h p
        subst e
        exact .cons q (ih t')
  intro vs us hl hv hp
  refine key ?_ hp
  clear hp
  have : ∀ {vs : List Value} {xs : List SV}, vs.length = xs.length → (∀ (j : Nat) (v : Value), vs[j]? = some v → ∃ x, xs[j]? = some x ∧ IsS v x) → Paired IsS vs xs := by
    intro vs
    induction vs with
    | nil => intro xs e _; cases xs with | nil => exact .nil | cons => cases e
    | cons v vs ih =>
      intro xs e q
      cases xs with
      | nil => cases e
      | cons x xs =>
        obtain ⟨y, hy, z⟩ := q 0 v (by simp)
        simp at hy; subst hy
        exact .cons z (ih (by simpa using e) fun j u hu => q (j + 1) u (by simpa using hu))
  exact this hl fun (j : Nat) (v : Value) e => hP j v (hv j v e)

theorem filter_true (vs : List Value) : vs.filter (fun _ => true) = vs := by simp

theorem EV.comp {elt iter : Expr} {x : Str} {px pos : Pos} {scope : Scope} {cl : List (Str × Addr)} {rf : Vars} {a : PV} {xs : List SV} (f : SV → SV) (S : Seen scope cl env r rf x)
    (h1 : EV prog w A g env r iter a) (h2 : ITER prog w A a xs) (hsz : xs.length ≤ sizeLine)
    (h3 : ∀ y ∈ xs, ∀ C, EV prog w A g (compEnvC scope cl C env) ((x, .sc y) :: rf) elt (.sc (f y)))
    (hs : ∀ x, foldedSetIterable iter env x = pure x := by intro _; rfl) : EV prog w A g env r (.ListComp elt [⟨.Name x px, iter, [], 0⟩] scope pos) (.lst (xs.map f)) := fun s Q E F h => by
  refine wpAny_ListComp_free (fun _ => true) (fun v y => ∃ x, IsS v x ∧ IsS y (f x)) S.clos S.cell S.kind S.names S.var (h1 s _ _ F fun va g1 t1 F1 k1 i1 => h2 _ _ _ _ i1 fun I fp wr P St g2 W hP h0 k2 hfp hwr hlast _ => ?_) hs
  have F2 := F1.stays k2
  refine ⟨I, fp, wr, xs.length, P, St, rfl, W, hsz, h0, hfp, ⟨fun C i v s3 m3 E' hC hp n3 hv hk _ => ?_, fun C i v s3 m3 E' hC hp _ n3 hv hk _ => ?_⟩, fun D h' tk ys vs hD hL hPl hlen hv hpr hk => ?_⟩
  · exact wpAny_tests_nil ⟨rfl, s3.heap, s3.toks, rfl, fun _ _ e => e⟩
  · obtain ⟨y, hy, q⟩ := hP i v hp
    have hmem : y ∈ xs := List.mem_of_getElem? hy
    have k3 : g1.StaysIn s3.heap := kept_wr k2 hwr hk
    have hC' : g.get? C = none := by
      cases e : g.get? C with
      | none => rfl
      | some o => exact absurd (Heap.lt_size (F2.keep _ _ e)) (Nat.not_lt.mpr hC)
    exact h3 y hmem C s3 _ _ (F1.block (p := .sc y) S hC' n3 hv k3 q) fun u h4 t4 F4 k4 i4 => ⟨⟨y, q, i4⟩, h4, t4, rfl, k4⟩
  · rw [filter_true] at hpr
    have k3 : g1.StaysIn h' := kept_wr k2 hwr hk
    exact h _ h' tk (F1.stays k3) (stays_trans k1 k3) ⟨D, ys.toList, rfl, hL, paired_map hP hlen hv hpr⟩

theorem EX1.assignComp {elt iter : Expr} {x y : Str} {px py pos spos : Pos} {scope : Scope} {cl : List (Str × Addr)} {rf : Vars} {a : PV} {xs : List SV} (f : SV → SV) (S : Seen scope cl env r rf x)
    (hk : env.scope.kind = .function) (hl : env.kindOf y = some .local)
    (h1 : EV prog w A g env r iter a) (h2 : ITER prog w A a xs) (hsz : xs.length ≤ sizeLine)
    (h3 : ∀ y ∈ xs, ∀ C, EV prog w A g (compEnvC scope cl C env) ((x, .sc y) :: rf) elt (.sc (f y)))
    (hsw : swapsWith (.ListComp elt [⟨.Name x px, iter, [], 0⟩] scope pos) (some (.Name y py)) spos.line env = pure true)
    (hs : ∀ x, foldedSetIterable iter env x = pure x := by intro _; rfl) : EX1 prog w A g env r (.Assign [.Name y py] (.ListComp elt [⟨.Name x px, iter, [], 0⟩] scope pos) spos) (.nxt ((y, .lst (xs.map f)) :: r)) := fun s Q E F h => by
  refine wpAny_Assign_ListComp_free (fun _ => true) (fun v y => ∃ x, IsS v x ∧ IsS y (f x)) hsw S.clos S.cell S.kind S.names S.var hl (hpOf hk) (h1 s _ _ F fun va g1 t1 F1 k1 i1 => h2 _ _ _ _ i1 fun I fp wr P St g2 W hP h0 k2 hfp hwr hlast _ => ?_) hs
  have F2 := F1.stays k2
  obtain ⟨m1, n1, q1⟩ := F1.vars
  have hlw : env.locals ∉ wr := fun hm => by
    obtain ⟨o, _, _, ho, _⟩ := n1
    rw [hwr _ hm] at ho; cases ho
  refine ⟨I, fp, wr, xs.length, P, St, m1, rfl, W, hsz, h0, hfp, hlw, n1.keeps k2, ⟨fun C i v s3 m3 E' hC hp n3 hv hk _ => ?_, fun C i v s3 m3 E' hC hp _ n3 hv hk _ => ?_⟩, fun D h' tk ys vs hD hL hPl hlen hv hpr n' hk => ?_⟩
  · exact wpAny_tests_nil ⟨rfl, s3.heap, s3.toks, rfl, fun _ _ e => e⟩
  · obtain ⟨y, hy, q⟩ := hP i v hp
    have hmem : y ∈ xs := List.mem_of_getElem? hy
    have k3 : g1.StaysIn s3.heap := kept_wr k2 hwr hk
    have hC' : g.get? C = none := by
      cases e : g.get? C with
      | none => rfl
      | some o => exact absurd (Heap.lt_size (F2.keep _ _ e)) (Nat.not_lt.mpr hC)
    exact h3 y hmem C s3 _ _ (F1.block (p := .sc y) S hC' n3 hv k3 q) fun u h4 t4 F4 k4 i4 => ⟨⟨y, q, i4⟩, h4, t4, rfl, k4⟩
  · rw [filter_true] at hpr
    have k3 : ∀ b o, b ≠ env.locals → g1.get? b = some o → h'.get? b = some o := fun b o hb e => hk b o hb (fun hm => by rw [hwr b hm] at e; cases e) (k2 b o e)
    have z := F1.setLocalX (p := .lst (xs.map f)) hl n1 q1 n' k3 ⟨D, ys.toList, rfl, hL, paired_map hP hlen hv hpr⟩
    exact h _ h' tk ⟨rfl, z.1⟩ ((Step.of_stays k1).trans z.2)

theorem FR.walk {h h' : Heap} {wr : List Addr} (F : FR g env r h) (hg : ∀ b ∈ wr, g.get? b = none) (hi : ∀ b ∈ wr, ∃ o, h.get? b = some o ∧ Iterish o) (hk : ∀ b o, b ∉ wr → h.get? b = some o → h'.get? b = some o) : FR g env r h' := by
  have nf : ∀ {b : Addr} {o : Obj}, h.get? b = some o → (∀ xs, o.data ≠ .fields xs) → b ∉ wr := fun {b o} e q hm => by
    obtain ⟨o', e', ⟨xs, d⟩, _⟩ := hi b hm
    rw [e] at e'; cases e'; exact q xs d
  have is : ∀ {v : Value} {p : PV}, Is h v p → Is h' v p := fun {v p} q => by
    cases p with
    | sc s => exact q
    | tup l =>
      obtain ⟨a, vs, e, ⟨o, ho, hc, n, hd⟩, z⟩ := q
      exact ⟨a, vs, e, ⟨o, hk a o (nf ho fun xs e => by rw [hd] at e; cases e) ho, hc, n, hd⟩, z⟩
    | lst l =>
      obtain ⟨a, vs, e, ⟨o, ho, hc, n, hd⟩, z⟩ := q
      exact ⟨a, vs, e, ⟨o, hk a o (nf ho fun xs e => by rw [hd] at e; cases e) ho, hc, n, hd⟩, z⟩
    | rng a b =>
      obtain ⟨x, t, u, w, e, ho⟩ := q
      refine ⟨x, t, u, w, e, hk x _ (fun hm => ?_) ho⟩
      obtain ⟨o', e', _, _, _, z, _⟩ := hi x hm
      rw [ho] at e'; cases e'; exact z rfl
    | val w => exact q
    | tys l =>
      obtain ⟨x, e, ho⟩ := q
      refine ⟨x, e, hk x _ (fun hm => ?_) ho⟩
      obtain ⟨o', e', _, z, _, _⟩ := hi x hm
      rw [ho] at e'; cases e'; exact z rfl
    | lam _ _ _ _ =>
      obtain ⟨f, c', pm, ctv, oc, vs, t, e, e1, e2, e3, e4⟩ := q
      refine ⟨f, c', pm, ctv, oc, vs, t, e, hk f _ (nf e1 fun xs e => by cases e) e1, hk c' _ (fun hm => ?_) e2, e3, e4⟩
      obtain ⟨o', e', _, _, _, _, z⟩ := hi c' hm
      rw [e2] at e'; cases e'; exact z ⟨vs, e3, .inr ⟨_, _, e4⟩⟩
  have ce : ∀ {c : Addr} {v : Option Value}, h.IsCell c v → h'.IsCell c v := fun {c v} q => by
    obtain ⟨o, ho, hd⟩ := q
    exact ⟨o, hk c o (nf ho fun xs e => by rw [hd] at e; cases e) ho, hd⟩
  refine ⟨fun b o e => hk b o (fun hm => by rw [hg b hm] at e; cases e) (F.keep b o e), F.new, F.cnew, F.apart, fun x c e => let ⟨v, q⟩ := F.cells x c e; ⟨v, ce q⟩, ?_, fun e => (F.tab e).of fun b o e' t => hk b o (fun hm => ?_) e'⟩
  rotate_left
  · obtain ⟨o', e2, _, _, _, _, z⟩ := hi b hm
    rw [e'] at e2; cases e2; exact z t
  obtain ⟨m, n, q⟩ := F.vars
  obtain ⟨o, es, ep, ho, hd, r1⟩ := n
  refine ⟨m, ⟨o, es, ep, hk _ o (nf ho fun xs e => by rw [hd] at e; cases e) ho, hd, r1⟩, fun x p e => ?_⟩
  rcases q x p e with ⟨l, v, e1, e2⟩ | ⟨l, c, v, e1, e2, e3⟩
  · exact .inl ⟨l, v, e1, is e2⟩
  · exact .inr ⟨l, c, v, e1, ce e2, is e3⟩

/-- a for whose turns all fall through -/
theorem EX1.for {x : Str} {px pos : Pos} {iter : Expr} {body : List Stmt} {a : PV} {xs : List SV} {r' : Vars} (I : Nat → Vars → Prop) (hk : env.scope.kind = .function) (hl : env.kindOf x = some .local)
    (h1 : EV prog w A g env r iter a) (h2 : ITER prog w A a xs) (h0 : I 0 r)
    (turn : ∀ i y r, xs[i]? = some y → I i r → ∃ r2, EX prog w A g env ((x, .sc y) :: r) body (.nxt r2) ∧ I (i + 1) r2)
    (fin : ∀ r2, I xs.length r2 → ∀ x p, r'.lookup x = some p → r2.lookup x = some p)
    (hs : ∀ x, foldedSetIterable iter env x = pure x := by intro _; rfl) : EX1 prog w A g env r (.For (.Name x px) iter body [] pos) (.nxt r') := fun s Q E F h => by
  refine wpAny_For (h1 s _ _ F fun va g1 t1 F1 k1 i1 => h2 _ _ _ _ i1 fun J fp wr P St g2 W hP st0 k2 hfp hwr hlast hit => ?_) hs
  have hg : ∀ b ∈ wr, g.get? b = none := fun b hb => by
    cases e : g.get? b with
    | none => rfl
    | some o => have := F1.keep b o e; rw [hwr b hb] at this; cases this
  refine codeAny_forLoop (fun n s' => ∃ i r2 h' t', s' = { s with heap := h', toks := t' } ∧ n = xs.length + 1 - i ∧ i ≤ xs.length ∧ I i r2 ∧ FR g env r2 h' ∧ Step g1 h' ∧ St i h') ?_ (xs.length + 1)
    ⟨0, r, g2, t1, rfl, rfl, Nat.zero_le _, h0, F1.stays k2, Step.of_stays k2, st0⟩
  rintro n s' ⟨i, r2, h', t', rfl, rfl, hle, hI, F2, k3, st⟩
  have kw : ∀ {h3 : Heap}, (∀ b o, b ∉ wr → h'.get? b = some o → h3.get? b = some o) → Step g1 h3 := fun hk3 b o e l => hk3 b o (fun hm => by rw [hwr b hm] at e; cases e) (k3 b o e l)
  by_cases hlt : i < xs.length
  · refine W.item i _ _ _ hlt st fun v h3 t3 hp st3 hk3 => ?_
    obtain ⟨y, hy, q⟩ := hP i v hp
    have F3 := F2.walk hg (hit i h' st) hk3
    obtain ⟨r3, ex, hI3⟩ := turn i y r2 hy hI
    refine wpAny_assign_Name (store_local (p := .sc y) hk hl F3 q fun h4 t4 F4 k4 => ?_)
    refine ex { s with heap := h4, toks := t4 } _ _ F4 fun f h5 t5 e5 k5 => ?_
    obtain ⟨rfl, F5⟩ := e5
    have k35 : Step h3 h5 := k4.trans k5
    exact ⟨xs.length + 1 - (i + 1), by omega, i + 1, r3, h5, t5, rfl, rfl, hlt, hI3, F5, (kw hk3).trans k35, W.frame _ _ _ st3 fun b hb o ho => k35 b o ho (hlast _ _ st3 b hb o ho)⟩
  · have he : i = xs.length := by omega
    subst he
    refine W.done _ _ _ st fun h3 t3 hk3 => wpAny_execs_nil ?_
    have F3 := F2.walk hg (hit _ h' st) hk3
    exact h _ h3 t3 ⟨rfl, F3.less (fin r2 hI)⟩ ((Step.of_stays k1).trans (kw hk3))
end
end Mine
end

/-! part F7 -/
section
set_option maxRecDepth 100000
set_option linter.unusedVariables false
namespace Mine
open PySem PySem.Calls PySem.W PyProof.Rows

/-- room for n more frames -/
def Room (A : Around) (n : Nat) : Prop := A.handled = none ∧ A.depth + n < 1000 ∧ A.units + 100 * n + 100 < 9900
theorem Room.hh {A : Around} {n : Nat} (R : Room A n) : A.handled = none := R.1
theorem Room.deeper {A : Around} {n : Nat} (R : Room A (n + 1)) (env : Env) : Room (A.deeper env) n := ⟨R.1, by show A.depth + 1 + n < 1000; have := R.2.1; omega, by show A.units + 3 + 100 * n + 100 < 9900; have := R.2.2; omega⟩
theorem Room.in1 {A : Around} {n : Nat} (R : Room A (n + 1)) : Room A.in1 n := ⟨R.1, by show A.depth + n < 1000; have := R.2.1; omega, by show A.units + 1 + 100 * n + 100 < 9900; have := R.2.2; omega⟩
theorem Room.less {A : Around} {n m : Nat} (R : Room A n) (h : m ≤ n) : Room A m := ⟨R.1, by have := R.2.1; omega, by have := R.2.2; omega⟩
theorem Room.depth {A : Around} {n : Nat} (R : Room A n) : A.depth < recursionLimit := by have := R.2.1; show A.depth < 1000; omega
theorem Room.units {A : Around} {n : Nat} (R : Room A n) : A.units + 64 < cLine := by have := R.2.2; show A.units + 64 < 9900; omega

abbrev Binds := List (Str × PV)
def BindsAre (h : Heap) (bv : List (Str × Value)) (bp : Binds) : Prop := Paired (fun a b => a.1 = b.1 ∧ Is h a.2 b.2) bv bp

theorem paired_snoc_inv {α β : Type} {F : α → β → Prop} : ∀ {a : List α} {b : List β}, Paired F a b → Paired F a.reverse b.reverse
  | _, _, .nil => .nil
  | _, _, .cons x t => by simpa using Paired.append (paired_snoc_inv t) (.cons x .nil)
theorem binds_lookup {h : Heap} {bv : List (Str × Value)} {bp : Binds} (q : BindsAre h bv bp) {x : Str} {p : PV} (e : bp.lookup x = some p) : ∃ v, bv.lookup x = some v ∧ Is h v p := by
  induction q with
  | nil => cases e
  | @cons a b l₁ l₂ hx t ih =>
    obtain ⟨n, v⟩ := a
    obtain ⟨n', p'⟩ := b
    obtain ⟨rfl, i⟩ := hx
    rw [List.lookup_cons] at e
    simp only [List.lookup_cons]
    cases z : x == n with
    | true => rw [z] at e; cases e; exact ⟨v, rfl, i⟩
    | false => rw [z] at e; exact ih e

/-- a def of the text, as it stands in the heap -/
def FnAt (h : Heap) (a : Addr) (params : Arguments) (body : List Stmt) (scope : Scope) (dV kV : Value) : Prop :=
  ∃ (o : Obj) (name qual : Str) (doc pm cdv ct : Value) (an : Option Addr), h.get? a = some o ∧ o.data = .func (fnX name qual params body scope [] dV kV doc pm an cdv ct) ∧ h.CodeRec cdv qual
theorem FnAt.keeps {h h' : Heap} {a : Addr} {params : Arguments} {body : List Stmt} {scope : Scope} {dV kV : Value} (x : FnAt h a params body scope dV kV) (k : h.StaysIn h') : FnAt h' a params body scope dV kV :=
  let ⟨o, name, qual, doc, pm, cdv, ct, an, ho, hd, hc⟩ := x; ⟨o, name, qual, doc, pm, cdv, ct, an, k _ _ ho, hd, hc.keeps k⟩
theorem CAN.def {P : Heap → Prop} {a : Addr} {params : Arguments} {body : List Stmt} {scope : Scope} {dV kV : Value} (hf : ∀ h, P h → FnAt h a params body scope dV kV) : CAN P (.ref a) :=
  CAN.fn fun h p => let ⟨o, _, _, _, _, _, _, _, ho, hd, _⟩ := hf h p; ⟨o, _, ho, hd⟩

section
variable {prog : Program} {w : World} {A : Around}

/-- how the arguments are bound -/
def BINDS (P : Heap → Prop) (params : Arguments) (body : List Stmt) (scope : Scope) (dV kV : Value) (as : List PV) (ks : List (Str × PV)) (bp : Binds) : Prop :=
  ∀ (s : Shared) (vs : List Value) (kv : List (Str × Value)) (name qual : Str) (doc pm cdv ct : Value) (an : Option Addr), P s.heap → Paired (Is s.heap) vs as → Paired (fun a b => a.1 = b.1 ∧ Is s.heap a.2 b.2) kv ks →
    ∃ bv, BindsTo s (fnX name qual params body scope [] dV kV doc pm an cdv ct) ⟨vs, kv⟩ bv ∧ BindsAre s.heap bv bp

theorem FN.def {P : Heap → Prop} {a : Addr} {params : Arguments} {body : List Stmt} {scope : Scope} {dV kV : Value} {as : List PV} {ks : List (Str × PV)} {bp : Binds} {res : PV} {n : Nat}
    (R : Room A n) (hf : ∀ h, P h → FnAt h a params body scope dV kV) (hl : ∀ h, P h → h.NoLimit) (ht : ∀ h, P h → h.get? tabAddr ≠ none)
    (hb : BINDS P params body scope dV kV as ks bp) (hcell : ∀ x ∈ scope.names, x.2 ≠ .cell) (hloc : ∀ x ∈ bp, scope.names.lookup x.1 = some .local)
    (hco : scope.isCoroutine = false) (hgen : scope.isGenerator = false) (hk : scope.kind = .function)
    (hbody : ∀ (g : Heap) (qual : Str) (L : Addr) (cdv : Value), P g → ∃ r', EX prog w (A.deeper (envX qual scope L a cdv [])) g (envX qual scope L a cdv []) bp.reverse body (.ret r' res)) :
    FN prog w A P (.ref a) as ks res := fun s Q E vs kv p ps pk h => by
  obtain ⟨o, name, qual, doc, pm, cdv, ct, an, ho, hd, hc⟩ := hf _ p
  obtain ⟨bv, hbv, hba⟩ := hb s vs kv name qual doc pm cdv ct an p ps pk
  have names : ∀ {bv : List (Str × Value)} {bp : Binds}, BindsAre s.heap bv bp → (∀ x ∈ bp, scope.names.lookup x.1 = some .local) → ∀ x ∈ bv, scope.names.lookup x.1 = some .local := by
    intro bv bp q
    induction q with
    | nil => intro _ x hx; cases hx
    | cons hx t ih =>
      intro hl x hm
      rcases List.mem_cons.mp hm with rfl | hm
      · rw [hx.1]; exact hl _ (.head _)
      · exact ih (fun y hy => hl y (.tail _ hy)) x hm
  refine wpAny_call (codeAny_call_def (body := body) (binds := bv) R.depth ho hd (hl _ p) hc rfl hbv hcell (names hba hloc) (fun h₀ hns hkeep => ?_) hco hgen hk)
  obtain ⟨r', ex⟩ := hbody s.heap qual s.heap.objs.size cdv p
  have F : FR s.heap (envX qual scope s.heap.objs.size a cdv []) bp.reverse h₀ := by
    refine ⟨hkeep, fresh_at (Nat.le_refl _), fun x c _ e => (nomatch e), fun x y c e => (nomatch e), fun x c e => (nomatch e), ⟨_, hns, fun x q e => ?_⟩, fun e => absurd e (ht _ p)⟩
    obtain ⟨v, e1, i⟩ := binds_lookup (paired_snoc_inv hba) e
    have hm : (x, q) ∈ bp := by simpa using mem_of_lookup e
    exact .inl ⟨hloc _ hm, v, e1, i.stays hkeep⟩
  refine ex _ _ _ F fun f h' t' e k => ?_
  obtain ⟨v, rfl, i, F'⟩ := e
  exact h v h' t' F'.keep i
end
end Mine
end

/-! part F8 -/
section
set_option maxRecDepth 100000
set_option linter.unusedVariables false
namespace Mine
open PySem PySem.Calls PySem.W PyProof.Rows

theorem bindL_is (kind : Str → Option NameKind) : ∀ (bv : List (Str × Value)) (m : Str → Option Value) (x : Str) (v : Value), kind x = some .local → bv.reverse.lookup x = some v → bindL kind bv m x = some v
  | [], m, x, v, _, e => by simp at e
  | (n, u) :: t, m, x, v, hk, e => by
    unfold bindL
    rw [List.reverse_cons, List.lookup_append] at e
    cases h : t.reverse.lookup x with
    | some y => rw [h] at e; simp at e; subst e; exact bindL_is kind t _ x _ hk h
    | none =>
      rw [h] at e
      simp only [Option.none_or, List.lookup_cons, List.lookup_nil] at e
      have hn : x = n := by
        cases z : x == n with
        | true => exact beq_iff_eq.mp z
        | false => rw [z] at e; cases e
      subst hn
      simp at e; subst e
      rw [if_pos hk]
      have rest : ∀ (t : List (Str × Value)) (m : Str → Option Value), t.reverse.lookup x = none → bindL kind t m x = m x := by
        intro t
        induction t with
        | nil => intro m _; rfl
        | cons a t ih =>
          intro m e
          obtain ⟨k, y⟩ := a
          rw [List.reverse_cons, List.lookup_append] at e
          obtain ⟨e1, e2⟩ := Option.or_eq_none_iff.mp e
          unfold bindL
          rw [ih _ e1]
          have hne : x ≠ k := fun z => by subst z; simp at e2
          split
          · simp [hne]
          · rfl
      rw [rest t _ h]; simp
theorem bindC_is (kind : Str → Option NameKind) : ∀ (bv : List (Str × Value)) (m : Str → Option Value) (x : Str) (v : Value), kind x ≠ some .local → bv.reverse.lookup x = some v → bindC kind bv m x = some v
  | [], m, x, v, _, e => by simp at e
  | (n, u) :: t, m, x, v, hk, e => by
    unfold bindC
    rw [List.reverse_cons, List.lookup_append] at e
    cases h : t.reverse.lookup x with
    | some y => rw [h] at e; simp at e; subst e; exact bindC_is kind t _ x _ hk h
    | none =>
      rw [h] at e
      simp only [Option.none_or, List.lookup_cons, List.lookup_nil] at e
      have hn : x = n := by
        cases z : x == n with
        | true => exact beq_iff_eq.mp z
        | false => rw [z] at e; cases e
      subst hn
      simp at e; subst e
      rw [if_neg hk]
      have rest : ∀ (t : List (Str × Value)) (m : Str → Option Value), t.reverse.lookup x = none → bindC kind t m x = m x := by
        intro t
        induction t with
        | nil => intro m _; rfl
        | cons a t ih =>
          intro m e
          obtain ⟨k, y⟩ := a
          rw [List.reverse_cons, List.lookup_append] at e
          obtain ⟨e1, e2⟩ := Option.or_eq_none_iff.mp e
          unfold bindC
          rw [ih _ e1]
          have hne : x ≠ k := fun z => by subst z; simp at e2
          split
          · rfl
          · simp [hne]
      rw [rest t _ h]; simp

section
variable {prog : Program} {w : World} {A : Around}

theorem binds_names {h : Heap} {bv : List (Str × Value)} {bp : Binds} (q : BindsAre h bv bp) {p : Str → Prop} : (∀ x ∈ bp, p x.1) → ∀ x ∈ bv, p x.1 := by
  induction q with
  | nil => intro _ x hx; cases hx
  | cons hx t ih =>
    intro hl x hm
    rcases List.mem_cons.mp hm with rfl | hm
    · rw [hx.1]; exact hl _ (.head _)
    · exact ih (fun y hy => hl y (.tail _ hy)) x hm

theorem FN.defC {P : Heap → Prop} {a : Addr} {params : Arguments} {body : List Stmt} {scope : Scope} {dV kV : Value} {as : List PV} {ks : List (Str × PV)} {bp : Binds} {res : PV} {n : Nat}
    (R : Room A n) (hf : ∀ h, P h → FnAt h a params body scope dV kV) (hl : ∀ h, P h → h.NoLimit) (ht : ∀ h, P h → h.get? tabAddr ≠ none)
    (hb : BINDS P params body scope dV kV as ks bp)
    (hkind : ∀ x ∈ bp, scope.names.lookup x.1 = some .local ∨ scope.names.lookup x.1 = some .cell)
    (hco : scope.isCoroutine = false) (hgen : scope.isGenerator = false) (hk : scope.kind = .function)
    (hbody : ∀ (g : Heap) (qual : Str) (L : Addr) (cdv : Value), P g → g.objs.size ≤ L → ∃ r', EX prog w (A.deeper (envX qual scope L a cdv (cellsFrom (L + 1) scope.names []))) g (envX qual scope L a cdv (cellsFrom (L + 1) scope.names [])) bp.reverse body (.ret r' res)) :
    FN prog w A P (.ref a) as ks res := fun s Q E vs kv p ps pk h => by
  obtain ⟨o, name, qual, doc, pm, cdv, ct, an, ho, hd, hc⟩ := hf _ p
  obtain ⟨bv, hbv, hba⟩ := hb s vs kv name qual doc pm cdv ct an p ps pk
  refine wpAny_call (codeAny_call_function R.depth ho hd hco hgen rfl hc (hbv _ _ _ _ ?_))
  have some_of : ∀ x ∈ bv, scope.names.lookup x.1 = some .local ∨ (scope.names.lookup x.1 = some .cell ∧ ((cellsFrom (s.heap.objs.size + 1) scope.names []).lookup x.1).isSome = true) :=
    binds_names (p := fun n => scope.names.lookup n = some .local ∨ (scope.names.lookup n = some .cell ∧ ((cellsFrom (s.heap.objs.size + 1) scope.names []).lookup n).isSome = true)) hba fun x hx => (hkind x hx).imp id fun e => ⟨e, cellsFrom_some _ _ _ (.inl e)⟩
  refine wpAny_newFunctionEnv_cells hk some_of fun env he s' x => ?_
  subst he
  refine ⟨(hl _ p).keeps x.toInCall.keep, codeAny_func ?_⟩
  obtain ⟨r', ex⟩ := hbody s.heap qual s.heap.objs.size cdv p (Nat.le_refl _)
  obtain ⟨h₁, tk, rfl⟩ := x.toInCall.same
  have F : FR s.heap (envX qual scope s.heap.objs.size a cdv (cellsFrom (s.heap.objs.size + 1) scope.names [])) bp.reverse h₁ := by
    refine ⟨x.toInCall.keep, fresh_at (Nat.le_refl _), fun y c _ e => ?_, fun y z c e1 e2 => ?_, fun y c e => ⟨_, x.cell y c e⟩, ⟨_, x.toInCall.ns, fun y q e => ?_⟩, fun e => absurd e (ht _ p)⟩
    · have := x.above y c (mem_of_lookup e)
      exact fresh_at (Nat.le_of_lt this)
    · exact name_of_addr x.apart (mem_of_lookup e1) (mem_of_lookup e2)
    · obtain ⟨v, e1, i⟩ := binds_lookup (paired_snoc_inv hba) e
      have hm : (y, q) ∈ bp := by simpa using mem_of_lookup e
      have hm' : (y, v) ∈ bv := by simpa using mem_of_lookup e1
      rcases some_of _ hm' with hl | ⟨hl, hs⟩
      · exact .inl ⟨hl, v, bindL_is _ bv _ y v hl e1, i.stays x.toInCall.keep⟩
      · obtain ⟨c, hc⟩ := Option.isSome_iff_exists.mp hs
        refine .inr ⟨.inl hl, c, v, hc, ?_, i.stays x.toInCall.keep⟩
        have hn : Env.kindOf (envX qual scope s.heap.objs.size a cdv (cellsFrom (s.heap.objs.size + 1) scope.names [])) y ≠ some .local := by
          show scope.names.lookup y ≠ _
          rw [hl]; decide
        have q := x.cell y c hc
        have e : bindC (envX qual scope s.heap.objs.size a cdv (cellsFrom (s.heap.objs.size + 1) scope.names [])).kindOf bv (fun _ => none) y = some v := bindC_is _ bv _ y v hn e1
        exact e ▸ q
  refine ex { s with heap := h₁, toks := tk } _ _ F fun f h' t' e k => ?_
  obtain ⟨v, rfl, i, F'⟩ := e
  exact h v h' t' F'.keep i
end
end Mine
end

/-! part F9 -/
section
set_option maxRecDepth 100000
set_option linter.unusedVariables false
namespace Mine
open PySem PySem.Calls PySem.W PyProof.Rows

section
variable {prog : Program} {w : World} {A : Around} {g : Heap} {env : Env} {r : Vars} {P : Heap → Prop}

/-- round -/
theorem FN.round {x : UInt64} {n : Int} (hA : A.handled = none) (hf : Float64.isFinite x = true) (hn : PySem.Flt.toInt Float64.nearestOf x = n) : FN prog w A P (.builtin "round") [.flt x] [] (.int n) := fun s Q E vs kv _ ps pk h => by
  cases ps with
  | cons ia t =>
    cases t; cases pk
    cases ia
    have hn1 : Float64.isNaN x = false := by unfold Float64.isFinite at hf; unfold Float64.isNaN; split at hf <;> simp_all
    have hn2 : Float64.isInf x = false := by unfold Float64.isFinite at hf; unfold Float64.isInf; split at hf <;> simp_all
    refine PySem.Flt.call_round_float hA (fun e => by rw [hn1] at e; cases e) (fun e => by rw [hn2] at e; cases e) fun _ => ?_
    rw [hn]
    exact h _ s.heap _ (stays_refl _) (IsS.int _ _)

/-- isinstance, yes -/
theorem FN.isiFlt {x : UInt64} : FN prog w A P (.builtin "isinstance") [.flt x, .val (.type "float")] [] (.bool true) := fun s Q E vs kv _ ps pk h => by
  cases ps with
  | cons ia t =>
    cases t with
    | cons ib t =>
      cases t; cases pk
      cases ia; cases ib
      exact call_isinstance_yes (typeIs_float s _ _) F.isi_meta_float F.sub_float_float (h _ s.heap s.toks (stays_refl _) (IsS.bool _))
theorem FN.isiTup {l : List SV} : FN prog w A P (.builtin "isinstance") [.tup l, .val (.type "tuple")] [] (.bool true) := fun s Q E vs kv _ ps pk h => by
  cases ps with
  | cons ia t =>
    cases t with
    | cons ib t =>
      cases t; cases pk
      obtain ⟨a, vs, rfl, ⟨o, ho, hc, _⟩, _⟩ := ia
      cases ib
      exact call_isinstance_yes ⟨o, ho, hc⟩ F.isi_meta_tuple AutoSeq1.sub_tuple_tuple (h _ s.heap s.toks (stays_refl _) (IsS.bool _))
theorem FN.isiTup2 {l : List SV} : FN prog w A P (.builtin "isinstance") [.tup l, .tys [.type "list", .type "tuple"]] [] (.bool true) := fun s Q E vs kv _ ps pk h => by
  cases ps with
  | cons ia t =>
    cases t with
    | cons ib t =>
      cases t; cases pk
      obtain ⟨a, vs, rfl, ⟨o, ho, hc, _⟩, _⟩ := ia
      obtain ⟨b, rfl, hb⟩ := ib
      exact IsiPair.tupleOf (Tx := "tuple") (cs := [.type "list", .type "tuple"]) (vs := [false, true]) ⟨Answers.of_false_tuple (by decide +kernel) F.isi_meta_list AutoSeq1.sub_tuple_list, Answers.of_true F.isi_meta_tuple AutoSeq1.sub_tuple_tuple, trivial⟩ ⟨o, ho, hc⟩ hb
        fun tk => h _ s.heap tk (stays_refl _) (IsS.bool _)

/-- a tuple of types -/
theorem paired_val {h : Heap} {vs l : List Value} (hp : Paired (Is h) vs (l.map PV.val)) : vs = l := by
  induction l generalizing vs with
  | nil => cases hp; rfl
  | cons x l ih => cases hp with | cons a t => rw [ih t]; exact congrArg (· :: l) a
theorem EV.tupT {elts : List Expr} {k : Nat} {pos : Pos} {l : List Value} (h1 : EVs prog w A g env r pos elts (l.map PV.val)) (hsz : l.length ≤ sizeLine) : EV prog w A g env r (.Tuple elts k pos) (.tys l) := fun s Q E F h =>
  Tuple_ (h1 s _ _ F fun vs g1 t1 F1 k1 i1 => by
    have hp := paired_val i1
    subst hp
    have ks : g1.StaysIn (g1.push { cls := .type "tuple", data := .seq vs.toArray }) := fun b o e => Heap.get?_push_of_some _ e
    exact wpAny_newObj_type (h _ _ t1 (F1.stays ks) (stays_trans k1 ks) ⟨_, rfl, Heap.get?_push_size _ rfl⟩)
      (by show vs.toArray.size ≤ sizeLine; rw [List.size_toArray]; exact hsz))

/-- range -/
theorem FN.range1 {n : Int} : FN prog w A P (.type "range") [.int n] [] (.rng 0 n) := fun s Q E vs kv _ ps pk h => by
  cases ps with
  | cons ia t =>
    cases t; cases pk
    cases ia
    exact call_range_1 (h _ _ _ (stays_push _ _) ⟨_, _, _, _, rfl, IsRange.new ..⟩)
theorem FN.range2 {a b : Int} : FN prog w A P (.type "range") [.int a, .int b] [] (.rng a b) := fun s Q E vs kv _ ps pk h => by
  cases ps with
  | cons ia t =>
    cases t with
    | cons ib t =>
      cases t; cases pk
      cases ia; cases ib
      exact call_range_2 (h _ _ _ (stays_push _ _) ⟨_, _, _, _, rfl, IsRange.new ..⟩)

/-- min, max -/
def bestMin (ns : List Int) : Int := ns.getD (argBest (fun i j => decide (ns.getD i 0 < ns.getD j 0)) (ns.length - 1)) 0
def bestMax (ns : List Int) : Int := ns.getD (argBest (fun i j => decide (ns.getD i 0 > ns.getD j 0)) (ns.length - 1)) 0
theorem FN.min {a : PV} {ns : List Int} (ha : ITER prog w A.in1 a (ns.map SV.int)) (hn : ns ≠ []) : FN prog w A P (.builtin "min") [a] [] (.int (bestMin ns)) := fun s Q E vs kv _ ps pk h => by
  cases ps with
  | cons ia t =>
    cases t; cases pk
    refine call_min_walk (ha _ _ _ _ ia fun I fp wr P St h' W hP h0 hk hfp hwr _ _ => ?_)
    have hval : ∀ i v, P i v → ∃ t, v = .int (ns.getD i 0) t := fun i v hv => by
      obtain ⟨x, hx, q⟩ := hP i v hv
      simp only [List.getElem?_map, Option.map_eq_some_iff] at hx
      obtain ⟨y, hy, rfl⟩ := hx
      cases q
      rw [show y = ns.getD i 0 by simp [List.getD, hy]]
      exact ⟨_, rfl⟩
    refine ⟨I, fp, wr, _, P, St, _, rfl, W, h0, hfp, by simp; exact List.length_pos_iff.mpr hn, CmpOf.ints_lt (fun i => ns.getD i 0) hval, fun v h2 tk hv k2 => ?_⟩
    obtain ⟨t, rfl⟩ := hval _ _ hv
    refine h _ h2 tk (kept_wr hk hwr k2) ?_
    rw [show (ns.map SV.int).length = ns.length by simp]
    exact IsS.int _ _
theorem FN.max {a : PV} {ns : List Int} (ha : ITER prog w A.in1 a (ns.map SV.int)) (hn : ns ≠ []) : FN prog w A P (.builtin "max") [a] [] (.int (bestMax ns)) := fun s Q E vs kv _ ps pk h => by
  cases ps with
  | cons ia t =>
    cases t; cases pk
    refine call_max_walk (ha _ _ _ _ ia fun I fp wr P St h' W hP h0 hk hfp hwr _ _ => ?_)
    have hval : ∀ i v, P i v → ∃ t, v = .int (ns.getD i 0) t := fun i v hv => by
      obtain ⟨x, hx, q⟩ := hP i v hv
      simp only [List.getElem?_map, Option.map_eq_some_iff] at hx
      obtain ⟨y, hy, rfl⟩ := hx
      cases q
      rw [show y = ns.getD i 0 by simp [List.getD, hy]]
      exact ⟨_, rfl⟩
    refine ⟨I, fp, wr, _, P, St, _, rfl, W, h0, hfp, by simp; exact List.length_pos_iff.mpr hn, CmpOf.ints_gt (fun i => ns.getD i 0) hval, fun v h2 tk hv k2 => ?_⟩
    obtain ⟨t, rfl⟩ := hval _ _ hv
    refine h _ h2 tk (kept_wr hk hwr k2) ?_
    rw [show (ns.map SV.int).length = ns.length by simp]
    exact IsS.int _ _

/-- lists compared -/
theorem intsAre_of {vs : List Value} {ns : List Int} (h : Paired IsS vs (ns.map SV.int)) : IntsAre vs ns := by
  induction ns generalizing vs with
  | nil => cases h; exact .nil
  | cons n ns ih => cases h with | cons a t => cases a; exact .cons _ _ (ih t)
theorem of_intsAre {vs : List Value} {ns : List Int} (h : IntsAre vs ns) : Paired IsS vs (ns.map SV.int) := by
  induction h with
  | nil => exact .nil
  | cons n t _ ih => exact .cons (IsS.int _ _) ih
theorem OP.neInts {ns ms : List Int} (hu : A.units + 64 < cLine) : OP prog w A (compareOp .NotEq) (.lst (ns.map SV.int)) (.lst (ms.map SV.int)) (.bool (!decide (ns = ms))) := fun s Q E va vb ia ib h => by
  obtain ⟨a, vs, rfl, hl, hp⟩ := ia
  obtain ⟨b, ws, rfl, hm, hq⟩ := ib
  exact ke_ne_ints hl hm (intsAre_of hp) (intsAre_of hq) hu (h _ s.heap s.toks (stays_refl _) (IsS.bool _))
theorem carried_bools : ∀ {vs : List Value} {bs : List Bool}, Paired IsS vs (bs.map SV.bool) → CarriedAll vs (bs.map PyData.bool)
  | _, [], .nil => .nil
  | _, b :: bs, .cons h t => by cases h; exact .cons (.bool b) (carried_bools t)
theorem OP.neBools5 (hu : A.units + 64 < cLine) : OP prog w A (compareOp .NotEq) (.lst ([true, true, true, true, true].map SV.bool)) (.lst ([true, true, true, true, true].map SV.bool)) (.bool false) := fun s Q E va vb ia ib h => by
  obtain ⟨a, vs, rfl, hl, hp⟩ := ia
  obtain ⟨b, ws, rfl, hm, hq⟩ := ib
  exact ne_dataH_same (reads_newData hl (carried_bools hp)) (reads_newData hm (carried_bools hq)) (by decide) (by decide) hu (SeqAt.noMix_of_shape (.list .bool) rfl _ _ (by decide) (by decide)) (by
    have : PySem.Spec.same (.list ([true, true, true, true, true].map PyData.bool)) (.list ([true, true, true, true, true].map PyData.bool)) = true := by decide
    rw [this]
    exact h _ s.heap s.toks (stays_refl _) (IsS.bool _))

/-- a try whose body falls through -/
theorem EX1.try {body : List Stmt} {h₀ : ExceptHandler} {hs : List ExceptHandler} {pos : Pos} {r' : Vars} (h1 : EX prog w A g env r body (.nxt r')) : EX1 prog w A g env r (.Try body (h₀ :: hs) [] [] pos) (.nxt r') := fun s Q E F h =>
  wpAny_Try_except (h1 s _ _ F fun f h' t' e k => by
    obtain ⟨rfl, F'⟩ := e
    exact wpAny_execs_nil (h _ h' t' ⟨rfl, F'⟩ k))
end
end Mine
end

/-! part F10 -/
section
set_option maxRecDepth 100000
set_option linter.unusedVariables false
namespace Mine
open PySem PySem.Calls PySem.W PyProof.Rows

/-- the items of a slice -/
def pickSV (l : List SV) (lo hi st : Option Int) : List SV := (sliceRange (sliceBounds lo hi st l.length).1 (sliceBounds lo hi st l.length).2.1 (sliceBounds lo hi st l.length).2.2).filterMap (l[·]?)
theorem paired_places {vs : List Value} {l : List SV} (h : Paired IsS vs l) : ∀ js : List Nat, Paired IsS (js.filterMap (vs[·]?)) (js.filterMap (l[·]?))
  | [] => .nil
  | j :: js => by
    have ih := paired_places h js
    cases hn : l[j]? with
    | some n =>
      obtain ⟨v, hv, q⟩ := Mine.Paired.get h hn
      simp only [List.filterMap_cons, hn, hv]
      exact .cons q ih
    | none =>
      have hv : vs[j]? = none := by
        rw [List.getElem?_eq_none_iff] at hn ⊢
        rw [h.length]; exact hn
      simp only [List.filterMap_cons, hn, hv]
      exact ih
theorem paired_pick {vs : List Value} {l : List SV} (h : Paired IsS vs l) (lo hi st : Option Int) : ∃ us, slicePick vs.toArray lo hi st = List.toArray us ∧ Paired IsS us (pickSV l lo hi st) := by
  refine ⟨_, ?_, paired_places h _⟩
  simp [slicePick, h.length]
section
variable {prog : Program} {w : World} {A : Around} {g : Heap} {env : Env} {r : Vars}
theorem EV.sliceFrom {value lower : Expr} {p pos : Pos} {l : List SV} {i : Int} (h1 : EV prog w A g env r value (.lst l)) (h2 : EV prog w A g env r lower (.int i)) (hsz : l.length ≤ sizeLine)
    (ht : ∀ o r, letTemporaryGo value o r = pure () := by intro _ _; rfl) : EV prog w A g env r (.Subscript value (.Slice (some lower) none none p) pos) (.lst (pickSV l (some i) none none)) := fun s Q E F h =>
  wpAny_Subscript_Slice list_getitem_lookup (h1 s _ _ F fun va g1 t1 F1 k1 i1 => wpAny_Slice (h2 _ _ _ F1 fun vb g2 t2 F2 k2 i2 => wpAny_pure (wpAny_pure (by
    obtain ⟨a, vs, rfl, hl, hp⟩ := i1
    cases i2
    have hl2 := isList_step hl (Step.of_stays k2)
    obtain ⟨us, e, q⟩ := paired_pick hp (some i) none none
    refine ⟨Heap.IsList.typeIs (hl2.push _), wpAny_getItem_list_slice (hl2.push _) ⟨_, Heap.get?_push_size _ rfl, rfl, rfl⟩ (.int _ _) .none .none (by decide) ?_ (by rw [List.size_toArray, hp.length]; exact hsz)⟩
    rw [e]
    have ks : ∀ o1 o2, g2.StaysIn ((g2.push o1).push o2) := fun _ _ => stays_trans (stays_push _ _) (stays_push _ _)
    exact h _ _ _ (F2.stays (ks _ _)) (stays_trans (stays_trans k1 k2) (ks _ _)) ⟨_, us, rfl, ⟨_, Heap.get?_push_size _ rfl, rfl, _, rfl⟩, q⟩)))) ht
theorem EV.sliceStep {value lower step : Expr} {p pos : Pos} {l : List SV} {i k : Int} (h1 : EV prog w A g env r value (.lst l)) (h2 : EV prog w A g env r lower (.int i)) (h3 : EV prog w A g env r step (.int k)) (hk : k ≠ 0) (hsz : l.length ≤ sizeLine)
    (ht : ∀ o r, letTemporaryGo value o r = pure () := by intro _ _; rfl) : EV prog w A g env r (.Subscript value (.Slice (some lower) none (some step) p) pos) (.lst (pickSV l (some i) none (some k))) := fun s Q E F h =>
  wpAny_Subscript_Slice_step list_getitem_lookup (h1 s _ _ F fun va g1 t1 F1 k1 i1 => wpAny_Slice (h2 _ _ _ F1 fun vb g2 t2 F2 k2 i2 => wpAny_pure (h3 _ _ _ F2 fun vc g3 t3 F3 k3 i3 => by
    obtain ⟨a, vs, rfl, hl, hp⟩ := i1
    cases i2; cases i3
    have hl2 := isList_step hl (Step.of_stays (stays_trans k2 k3))
    obtain ⟨us, e, q⟩ := paired_pick hp (some i) none (some k)
    refine ⟨Heap.IsList.typeIs (hl2.push _), wpAny_getItem_list_slice (hl2.push _) ⟨_, Heap.get?_push_size _ rfl, rfl, rfl⟩ (.int _ _) .none (.int _ _) (fun z => hk (Option.some.inj z)) ?_ (by rw [List.size_toArray, hp.length]; exact hsz)⟩
    rw [e]
    have ks : ∀ o1 o2, g3.StaysIn ((g3.push o1).push o2) := fun _ _ => stays_trans (stays_push _ _) (stays_push _ _)
    exact h _ _ _ (F3.stays (ks _ _)) (stays_trans (stays_trans (stays_trans k1 k2) k3) (ks _ _)) ⟨_, us, rfl, ⟨_, Heap.get?_push_size _ rfl, rfl, _, rfl⟩, q⟩))) ht
end
theorem pick_ints (ns : List Int) (lo hi st : Option Int) : ∃ ms : List Int, pickSV (ns.map SV.int) lo hi st = ms.map SV.int := by
  unfold pickSV
  generalize sliceRange _ _ _ = js
  induction js with
  | nil => exact ⟨[], rfl⟩
  | cons j js ih =>
    obtain ⟨ms, e⟩ := ih
    cases hn : ns[j]? with
    | some n => exact ⟨n :: ms, by rw [List.filterMap_cons, List.getElem?_map, hn]; show SV.int n :: _ = _; rw [e]; rfl⟩
    | none => exact ⟨ms, by rw [List.filterMap_cons, List.getElem?_map, hn]; exact e⟩
end Mine
end

/-! part F11 -/
section
set_option maxRecDepth 100000
set_option linter.unusedVariables false
namespace Mine
open PySem PySem.Calls PySem.W PyProof.Rows

section
variable {prog : Program} {w : World} {A : Around} {g : Heap} {env : Env} {r : Vars}

/-- a call's value, of a callee told as a plain value -/
def FNV (prog : Program) (w : World) (A : Around) (P : Heap → Prop) (pf : PV) (as : List PV) (ks : List (Str × PV)) (p : PV) : Prop := ∀ (s : Shared) (Q E : Value → Shared → Prop) (v : Value) (vs : List Value) (kv : List (Str × Value)), P s.heap → Is s.heap v pf → Paired (Is s.heap) vs as →
  Paired (fun a b => a.1 = b.1 ∧ Is s.heap a.2 b.2) kv ks →
  (∀ u h' t', s.heap.StaysIn h' → Is h' u p → Q u { s with heap := h', toks := t' }) → wpAny (model prog w) A (call v vs kv) Q E s
def CANV (P : Heap → Prop) (pf : PV) : Prop := ∀ (h : Heap) (v : Value), P h → Is h v pf → CAN (fun h' => h.StaysIn h') v
theorem CANV.lam {P : Heap → Prop} {a : Arguments} {b : Expr} {c : Scope} {d : List (Str × Addr)} : CANV P (.lam a b c d) := fun h v _ i => by
  obtain ⟨f, c', pm, ctv, oc, vs, t, rfl, e1, _⟩ := i
  exact CAN.fn fun h' k => ⟨_, _, k _ _ e1, rfl⟩

theorem EV.appV {P : Heap → Prop} {id : Str} {p pos : Pos} {e : Expr} {es : List Expr} {f : PV} {as : List PV} {res : PV} (hf : EV prog w A g env r (.Name id p) f) (ha : EVs prog w A g env r pos (e :: es) as)
    (hc : CANV P f) (hfn : FNV prog w A P f as [] res) (hP : ∀ h, FR g env r h → P h) (he : ∀ env, starEach (e :: es) env = (false, eval e env) :: starEach es env := by intro _; rfl)
    (hplain : ∀ env, (backTo pos (starEach es env)).any (·.1) = false := by intro _; rfl) :
    EV prog w A g env r (.Call (.Name id p) (e :: es) [] pos) res := fun s Q E F h =>
  wpAny_Call_Name_kw (hf s _ _ F fun v g1 t1 F1 k1 i1 => by
    have body : wpAny (model prog w) A (spliced (backTo pos (starEach (e :: es) env))) (fun vs s₁ => g1.StaysIn s₁.heap ∧ wpAny (model prog w) A (PySem.call v ([] ++ vs) []) Q E s₁) E { s with heap := g1, toks := t1 } :=
      ha _ _ _ F1 fun vs g2 t2 F2 k2 i2 => ⟨k2, hfn { s with heap := g2, toks := t2 } Q E v vs [] (hP _ F2) (i1.stays k2) i2 .nil fun u g3 t3 k3 i3 => h u g3 t3 (F2.stays k3) (stays_trans (stays_trans k1 k2) k3) i3⟩
    rw [he] at body ⊢
    refine callWith_of (P := fun h' => g1.StaysIn h') ?_ (hc _ _ (hP _ F1) i1 _) ?_
    · show ((false || (backTo pos (starEach es env)).any (·.1)) || false) = false
      rw [hplain]; rfl
    · exact evalArgs_plain body)

/-- a call that may write the table of codes -/
def FNX (prog : Program) (w : World) (A : Around) (P : Heap → Prop) (f : Value) (as : List PV) (p : PV) : Prop := ∀ (s : Shared) (Q E : Value → Shared → Prop) (vs : List Value), P s.heap → TabOk s.heap → Paired (Is s.heap) vs as →
  (∀ v h' t', (∀ b o, b ≠ tabAddr → s.heap.get? b = some o → h'.get? b = some o) → TabOk h' → Is h' v p → Q v { s with heap := h', toks := t' }) → wpAny (model prog w) A (call f vs []) Q E s

theorem tab_at {h : Heap} (x : TabOk h) : ∃ ps, h.get? tabAddr = some (tabObj ps) ∧ (∀ vs q t, (tabObj ps).data = .fields vs → vs[1]? ≠ some (.str q t)) := by
  obtain ⟨ps, e, r⟩ := x
  refine ⟨ps, e, fun vs q t e1 e2 => ?_⟩
  cases e1
  rcases r with rfl | ⟨c', oc, vs, t, rfl, _⟩
  · cases e2
  · cases e2
theorem FR.but {h h' : Heap} (F : FR g env r h) (hg : g.get? tabAddr = none) (k : ∀ b o, b ≠ tabAddr → h.get? b = some o → h'.get? b = some o) (t : TabOk h') : FR g env r h' ∧ Step h h' := by
  obtain ⟨ps, et, hnt⟩ := tab_at (F.tab hg)
  have kl : Step h h' := fun b o e l => k b o (fun z => by
    rw [z, et] at e; cases e
    rcases l.2.2 with l | ⟨vs, q, t, e1, e2⟩
    · exact l rfl
    · exact hnt vs q t e1 e2) e
  have nt : ∀ {b : Addr} {o : Obj}, h.get? b = some o → (∀ vs, o.data ≠ .fields vs) → b ≠ tabAddr := fun {b o} e hd z => by rw [z, et] at e; cases e; exact hd _ rfl
  have ce : ∀ {c : Addr} {v : Option Value}, h.IsCell c v → h'.IsCell c v := fun {c v} q => by
    obtain ⟨o, ho, hd⟩ := q
    exact ⟨o, k c o (nt ho fun vs e => by rw [hd] at e; cases e) ho, hd⟩
  obtain ⟨m, n, q⟩ := F.vars
  obtain ⟨o, es, ep, ho, hd, r1⟩ := n
  refine ⟨⟨fun b o e => k b o (fun z => by rw [z, hg] at e; cases e) (F.keep b o e), F.new, F.cnew, F.apart, fun x c e => let ⟨v, q⟩ := F.cells x c e; ⟨v, ce q⟩,
    ⟨m, ⟨o, es, ep, k _ o (nt ho fun xs e => by rw [hd] at e; cases e) ho, hd, r1⟩, fun x p e => ?_⟩, fun _ => t⟩, kl⟩
  rcases q x p e with ⟨l, v, e1, e2⟩ | ⟨l, c, v, e1, e2, e3⟩
  · exact .inl ⟨l, v, e1, e2.step kl⟩
  · exact .inr ⟨l, c, v, e1, ce e2, e3.step kl⟩
/-- x = f(..), f may write the table of codes -/
theorem EX1.assignX {P : Heap → Prop} {id x : Str} {p pos px spos : Pos} {e : Expr} {es : List Expr} {f : Value} {as : List PV} {res : PV} (hk : env.scope.kind = .function) (hl : env.kindOf x = some .local) (hg : g.get? tabAddr = none)
    (hf : EV prog w A g env r (.Name id p) (.val f)) (ha : EVs prog w A g env r pos (e :: es) as)
    (hc : CAN P f) (hfn : FNX prog w A P f as res) (hP : ∀ h, FR g env r h → P h)
    (hs : swapsWith (.Call (.Name id p) (e :: es) [] pos) (some (.Name x px)) spos.line env = pure false := by rfl) (he : ∀ env, starEach (e :: es) env = (false, eval e env) :: starEach es env := by intro _; rfl)
    (hplain : ∀ env, (backTo pos (starEach es env)).any (·.1) = false := by intro _; rfl) :
    EX1 prog w A g env r (.Assign [.Name x px] (.Call (.Name id p) (e :: es) [] pos) spos) (.nxt ((x, res) :: r)) := fun s Q E F h =>
  wpAny_Assign_Name (wpAny_Call_Name_kw (hf s _ _ F fun v g1 t1 F1 k1 i1 => by
    cases i1
    have body : wpAny (model prog w) A (spliced (backTo pos (starEach (e :: es) env))) (fun vs s₁ => P s₁.heap ∧ wpAny (model prog w) A (PySem.call f ([] ++ vs) []) (fun v s' => wpAny (model prog w) A (storeName env x v) (fun _ s'' => Q .next s'') E s') E s₁) E { s with heap := g1, toks := t1 } :=
      ha _ _ _ F1 fun vs g2 t2 F2 k2 i2 => ⟨hP _ F2, hfn { s with heap := g2, toks := t2 } _ E vs (hP _ F2) (F2.tab hg) i2 fun v g3 t3 k3 tk i3 => by
        obtain ⟨F3, st⟩ := F2.but hg k3 tk
        exact store_local hk hl F3 i3 fun g4 t4 F4 k4 => h _ g4 t4 ⟨rfl, F4⟩ (((Step.of_stays (stays_trans k1 k2)).trans st).trans k4)⟩
    rw [he] at body ⊢
    refine callWith_of (P := P) ?_ (hc _) ?_
    · show ((false || (backTo pos (starEach es env)).any (·.1)) || false) = false
      rw [hplain]; rfl
    · exact evalArgs_plain body)) hs
end
end Mine
end

/-! part F12 -/
section
set_option maxRecDepth 100000
set_option linter.unusedVariables false
namespace Mine
open PySem PySem.Calls PySem.W PyProof.Rows

def FnAtQ (h : Heap) (a : Addr) (params : Arguments) (body : List Stmt) (scope : Scope) (dV kV : Value) (qual : Str) (cdv : Value) : Prop :=
  ∃ (o : Obj) (name : Str) (doc pm ct : Value) (an : Option Addr), h.get? a = some o ∧ o.data = .func (fnX name qual params body scope [] dV kV doc pm an cdv ct) ∧ h.CodeRec cdv qual
theorem FnAtQ.keeps {h h' : Heap} {a : Addr} {params : Arguments} {body : List Stmt} {scope : Scope} {dV kV : Value} {qual : Str} {cdv : Value} (x : FnAtQ h a params body scope dV kV qual cdv) (k : h.StaysIn h') : FnAtQ h' a params body scope dV kV qual cdv :=
  let ⟨o, name, doc, pm, ct, an, ho, hd, hc⟩ := x; ⟨o, name, doc, pm, ct, an, k _ _ ho, hd, hc.keeps k⟩

section
variable {prog : Program} {w : World} {A : Around} {g : Heap} {env : Env} {r : Vars}

theorem FNX.defC {P : Heap → Prop} {a : Addr} {params : Arguments} {body : List Stmt} {scope : Scope} {dV kV : Value} {qual : Str} {cdv : Value} {as : List PV} {bp : Binds} {res : PV} {n : Nat}
    (R : Room A n) (hf : ∀ h, P h → FnAtQ h a params body scope dV kV qual cdv) (hl : ∀ h, P h → h.NoLimit)
    (hb : BINDS P params body scope dV kV as [] bp)
    (hkind : ∀ x ∈ bp, scope.names.lookup x.1 = some .local ∨ scope.names.lookup x.1 = some .cell)
    (hco : scope.isCoroutine = false) (hgen : scope.isGenerator = false) (hk : scope.kind = .function)
    (hbody : ∀ (h : Heap) (L : Addr), P h → h.objs.size ≤ L → ∃ r', EX prog w (A.deeper (envX qual scope L a cdv (cellsFrom (L + 1) scope.names []))) (hideAll h [tabAddr]) (envX qual scope L a cdv (cellsFrom (L + 1) scope.names [])) bp.reverse body (.ret r' res)) :
    FNX prog w A P (.ref a) as res := fun s Q E vs p tb ps h => by
  obtain ⟨o, name, doc, pm, ct, an, ho, hd, hc⟩ := hf _ p
  obtain ⟨bv, hbv, hba⟩ := hb s vs [] name qual doc pm cdv ct an p ps .nil
  refine wpAny_call (codeAny_call_function R.depth ho hd hco hgen rfl hc (hbv _ _ _ _ ?_))
  have some_of : ∀ x ∈ bv, scope.names.lookup x.1 = some .local ∨ (scope.names.lookup x.1 = some .cell ∧ ((cellsFrom (s.heap.objs.size + 1) scope.names []).lookup x.1).isSome = true) :=
    binds_names (p := fun n => scope.names.lookup n = some .local ∨ (scope.names.lookup n = some .cell ∧ ((cellsFrom (s.heap.objs.size + 1) scope.names []).lookup n).isSome = true)) hba fun x hx => (hkind x hx).imp id fun e => ⟨e, cellsFrom_some _ _ _ (.inl e)⟩
  refine wpAny_newFunctionEnv_cells hk some_of fun env he s' x => ?_
  subst he
  refine ⟨(hl _ p).keeps x.toInCall.keep, codeAny_func ?_⟩
  obtain ⟨r', ex⟩ := hbody s.heap s.heap.objs.size p (Nat.le_refl _)
  obtain ⟨h₁, tk, rfl⟩ := x.toInCall.same
  have hidden : ∀ {b : Addr}, s.heap.get? b = none → (hideAll s.heap [tabAddr]).get? b = none := fun {b} e => by
    cases q : (hideAll s.heap [tabAddr]).get? b with
    | none => rfl
    | some o => rw [of_hideAll _ q] at e; cases e
  have F : FR (hideAll s.heap [tabAddr]) (envX qual scope s.heap.objs.size a cdv (cellsFrom (s.heap.objs.size + 1) scope.names [])) bp.reverse h₁ := by
    refine ⟨fun b o e => x.toInCall.keep b o (of_hideAll _ e), hidden (fresh_at (Nat.le_refl _)), fun y c _ e => ?_, fun y z c e1 e2 => ?_, fun y c e => ⟨_, x.cell y c e⟩, ⟨_, x.toInCall.ns, fun y q e => ?_⟩, fun _ => tb.stays x.toInCall.keep⟩
    · have := x.above y c (mem_of_lookup e)
      exact hidden (fresh_at (Nat.le_of_lt this))
    · exact name_of_addr x.apart (mem_of_lookup e1) (mem_of_lookup e2)
    · obtain ⟨v, e1, i⟩ := binds_lookup (paired_snoc_inv hba) e
      have hm : (y, q) ∈ bp := by simpa using mem_of_lookup e
      have hm' : (y, v) ∈ bv := by simpa using mem_of_lookup e1
      rcases some_of _ hm' with hl | ⟨hl, hs⟩
      · exact .inl ⟨hl, v, bindL_is _ bv _ y v hl e1, i.stays x.toInCall.keep⟩
      · obtain ⟨c, hc⟩ := Option.isSome_iff_exists.mp hs
        refine .inr ⟨.inl hl, c, v, hc, ?_, i.stays x.toInCall.keep⟩
        have hn : Env.kindOf (envX qual scope s.heap.objs.size a cdv (cellsFrom (s.heap.objs.size + 1) scope.names [])) y ≠ some .local := by
          show scope.names.lookup y ≠ _
          rw [hl]; decide
        have q := x.cell y c hc
        have e : bindC (envX qual scope s.heap.objs.size a cdv (cellsFrom (s.heap.objs.size + 1) scope.names [])).kindOf bv (fun _ => none) y = some v := bindC_is _ bv _ y v hn e1
        exact e ▸ q
  refine ex { s with heap := h₁, toks := tk } _ _ F fun f h' t' e k => ?_
  obtain ⟨v, rfl, i, F'⟩ := e
  exact h v h' t' (fun b o n e => F'.keep b o (hideAll_get _ e fun hm => n (List.mem_singleton.mp hm))) (F'.tab (hideAll_none _ (.head _))) i

/-- x = lambda .. -/
theorem EX1.lam {x : Str} {px spos lpos : Pos} {params : Arguments} {body : Expr} {lscope : Scope} {clos : List (Str × Addr)} {mg : Str → Option Value} {c : Addr} (hk : env.scope.kind = .function) (hl : env.kindOf x = some .local) (hdef : defaultsOf params env = ([], []))
    (hcl : closureFor lscope env = pure clos) (hge : env.globals = mainGlobals) (hgl : g.Ns mainGlobals mg) (hcode : env.code = .ref c) (C : CodeHd g c tabAddr) (hB : g.BuiltinsAt mg tabAddr) (hg : g.get? tabAddr = none) (hline : lpos.line = 107) (hcol : lpos.col = 11)
    (hq : env.qual ++ "<lambda>" = lamQual)
    (hs : swapsWith (.Lambda params body lscope lpos) (some (.Name x px)) spos.line env = pure false := by rfl) : EX1 prog w A g env r (.Assign [.Name x px] (.Lambda params body lscope lpos) spos) (.nxt ((x, .lam params body lscope clos) :: r)) := fun s Q E F h => by
  refine wpAny_Assign_Name (kla_eval hdef ?_) hs
  rw [hq]
  obtain ⟨ps, ht, hps⟩ := F.tab hg
  obtain ⟨bm, ob, b1, b2, b3, b4, b5, b6⟩ := hB
  have hgP : mainGlobals ≠ tabAddr := fun q => by
    obtain ⟨o, es, ep, e, hd, _⟩ := hgl
    rw [q, hg] at e; cases e
  have hBs : s.heap.BuiltinsAt mg tabAddr := ⟨bm, ob, b1, b2, b3, b4, F.keep _ _ b5, b6⟩
  rcases hps with rfl | ⟨c', oc, vs, t, rfl, e2, e3, e4⟩
  · refine kla_makeFunction (mg := mg) hcl hge (hgl.keeps F.keep) hcode (C.keeps F.keep) ht trivial rfl hgP hBs fun c' ctv h' tk hx hge' hlt hrec htb => ?_
    rw [hline, hcol] at htb
    obtain ⟨c2, oc, vs, t, e1, e2, e3, e4⟩ := hrec
    cases e1
    have hx2 : ∀ b o, b ≠ tabAddr → s.heap.get? b = some o → (h'.push (kla_obj "<lambda>" lamQual params body lscope clos ((mg "__name__").getD .none) c' ctv)).get? b = some o := fun b o n e => Heap.get?_push_of_some _ (hx b o n e)
    obtain ⟨F3, st⟩ := F.but hg hx2 ⟨_, Heap.get?_push_of_some _ htb, .inr ⟨c', oc, vs, t, rfl, Heap.get?_push_of_some _ e2, e3, e4⟩⟩
    exact store_local (s := { s with heap := _, toks := tk }) (p := .lam params body lscope clos) hk hl F3 ⟨_, c', _, _, oc, vs, t, rfl, Heap.get?_push_size _ rfl, Heap.get?_push_of_some _ e2, e3, e4⟩ fun g4 t4 F4 k4 => h _ g4 t4 ⟨rfl, F4⟩ (st.trans k4)
  · refine kla_makeFunctionHit (mg := mg) (cv := .ref c') hcl hge (hgl.keeps F.keep) hcode (C.keeps F.keep) ht trivial (by simp [codeAmong, rawInt, hline, hcol]) hBs fun ctv h' tk hk' hsz => ?_
    have hx2 : s.heap.StaysIn (h'.push { cls := .type "function", data := .func (kla_fn "<lambda>" lamQual params body lscope clos ((mg "__name__").getD .none) (.ref c') ctv) }) := fun b o e => Heap.get?_push_of_some _ (hk' b o e)
    exact store_local (s := { s with heap := _, toks := tk }) (p := .lam params body lscope clos) hk hl (F.stays hx2) ⟨_, c', _, _, oc, vs, t, rfl, Heap.get?_push_size _ rfl, hx2 _ _ e2, e3, e4⟩ fun g4 t4 F4 k4 => h _ g4 t4 ⟨rfl, F4⟩ ((Step.of_stays hx2).trans k4)

/-- a lambda of one name called -/
theorem FNV.lam {P : Heap → Prop} {params : Arguments} {body : Expr} {lscope : Scope} {clos : List (Str × Addr)} {x : Str} {a res : PV} {rf : Vars} {n : Nat}
    (R : Room A n) (hl : ∀ h, P h → h.NoLimit) (ht : ∀ h, P h → h.get? tabAddr ≠ none)
    (hbind : ∀ (pm cdv ctv v : Value), bindArgs (kla_fn "<lambda>" lamQual params body lscope clos pm cdv ctv) ⟨[v], []⟩ = pure [(x, v)])
    (hcell : ∀ x ∈ lscope.names, x.2 ≠ .cell) (hx : lscope.names.lookup x = some .local) (hco : lscope.isCoroutine = false) (hgen : lscope.isGenerator = false) (hk : lscope.kind = .function)
    (hap : ∀ x y c, clos.lookup x = some c → clos.lookup y = some c → x = y)
    (hcl : ∀ h, P h → ∀ n c, clos.lookup n = some c → ∃ v, h.IsCell c v)
    (hfr : ∀ h, P h → ∀ n q, rf.lookup n = some q → lscope.names.lookup n = some .free ∧ ∃ c v, clos.lookup n = some c ∧ h.IsCell c (some v) ∧ Is h v q) (hxf : rf.lookup x = none)
    (hbody : ∀ (g : Heap) (L f : Addr) (cdv : Value), P g → EV prog w (A.deeper (envX lamQual lscope L f cdv clos)) g (envX lamQual lscope L f cdv clos) ((x, a) :: rf) body res) :
    FNV prog w A P (.lam params body lscope clos) [a] [] res := fun s Q E v vs kv p iv ps pk h => by
  cases ps with
  | cons ia t =>
    cases t; cases pk
    obtain ⟨f, c', pm, ctv, oc, ws, t, rfl, ef, ec, e3, e4⟩ := iv
    refine wpAny_call (kla_callFunE R.depth ef rfl hco hgen rfl ⟨c', oc, ws, t, rfl, ec, e3, e4⟩ ?_)
    rw [hbind]
    refine wpAny_pure (wpAny_newFunctionEnv hcell (fun y hy => by rw [List.mem_singleton.mp hy]; exact hx) (fun h₁ hns hsb => ?_) hk)
    have hk₁ : s.heap.StaysIn h₁ := fun b o e => hsb.extBut b o (Nat.ne_of_lt (Heap.lt_size e)) (Heap.get?_push_of_some _ e)
    refine ⟨(hl _ p).keeps hk₁, kla_codeExpr ?_⟩
    show wpAny _ (A.deeper (envX lamQual lscope s.heap.objs.size f (.ref c') clos)) (eval body (envX lamQual lscope s.heap.objs.size f (.ref c') clos)) _ _ _
    refine hbody s.heap s.heap.objs.size f (.ref c') p _ _ _ ?_ fun u h2 t2 F2 k2 i2 => h u h2 t2 F2.keep i2
    refine ⟨hk₁, fresh_at (Nat.le_refl _), fun y c ky _ => ?_, hap, fun y c e => let ⟨v, q⟩ := hcl _ p y c e; ⟨v, q.keeps hk₁⟩, ⟨_, hns, fun y q e => ?_⟩, fun e => absurd e (ht _ p)⟩
    · exact absurd rfl (hcell _ (mem_of_lookup ky))
    · rw [lookup_cons'] at e
      by_cases z : y = x
      · subst z
        rw [if_pos rfl] at e; cases e
        exact .inl ⟨hx, _, by simp, ia.stays hk₁⟩
      · rw [if_neg z] at e
        obtain ⟨kf, c, v, e1, e2, e3⟩ := hfr _ p y q e
        exact .inr ⟨.inr kf, c, v, e1, e2.keeps hk₁, e3.stays hk₁⟩
end
end Mine
end

/-! part PL1 -/
section
set_option maxRecDepth 100000
set_option linter.unusedVariables false
set_option linter.unusedSimpArgs false
namespace Mine
open PySem PySem.Float64

/-- a double near W/D -/
theorem near_mult {W D s : Nat} (hD : 0 < D) (hs : 52 ≤ s) (hW : W ≤ D * 2 ^ (52 + s)) : ∃ t', 2 * dist W (D * V t') ≤ D * 2 ^ s := by
  -- the nearest multiple of 2 ^ s
  have hS : 0 < D * 2 ^ s := Nat.mul_pos hD (Nat.two_pow_pos _)
  obtain ⟨j, hj⟩ : ∃ j, j = (2 * W + D * 2 ^ s) / (2 * (D * 2 ^ s)) := ⟨_, rfl⟩
  have h1 : 2 * (D * 2 ^ s) * j ≤ 2 * W + D * 2 ^ s := by rw [hj]; exact Nat.mul_div_le _ _
  have h2 : 2 * W + D * 2 ^ s < 2 * (D * 2 ^ s) * j + 2 * (D * 2 ^ s) := by
    rw [hj]
    have := Nat.lt_mul_div_succ (2 * W + D * 2 ^ s) (show 0 < 2 * (D * 2 ^ s) by omega)
    rw [Nat.mul_add, Nat.mul_one] at this
    exact this
  have hjb : j ≤ 2 ^ 52 := by
    have e : D * 2 ^ (52 + s) = 2 ^ 52 * (D * 2 ^ s) := by rw [Nat.pow_add]; simp only [Nat.mul_comm, Nat.mul_left_comm, Nat.mul_assoc]
    rw [e] at hW
    have : 2 * (D * 2 ^ s) * j < 2 * (D * 2 ^ s) * (2 ^ 52 + 1) := by
      have : 2 * (D * 2 ^ s) * (2 ^ 52 + 1) = 2 * (2 ^ 52 * (D * 2 ^ s)) + 2 * (D * 2 ^ s) := by
        rw [Nat.mul_add, Nat.mul_one]; congr 1; simp only [Nat.mul_comm, Nat.mul_left_comm, Nat.mul_assoc]
      omega
    have := Nat.lt_of_mul_lt_mul_left this
    omega
  have hV : ∃ t', V t' = j * 2 ^ s := by
    by_cases h0 : j = 0
    · exact ⟨0, by rw [V_zero, h0, Nat.zero_mul]⟩
    · have hl : j.log2 ≤ 52 := by
        have := (Nat.log2_lt h0 (k := 53)).mpr (by omega)
        omega
      have hb1 : 2 ^ j.log2 ≤ j := Nat.log2_self_le h0
      have hb2 : j < 2 ^ (j.log2 + 1) := Nat.lt_log2_self
      refine ⟨(s - (52 - j.log2)) * 2 ^ 52 + j * 2 ^ (52 - j.log2), ?_⟩
      rw [V_at (q := j * 2 ^ (52 - j.log2)) ?_ (.inl ?_)]
      · rw [Nat.mul_assoc, ← Nat.pow_add]
        congr 2; omega
      · have : j * 2 ^ (52 - j.log2) ≤ 2 ^ (j.log2 + 1) * 2 ^ (52 - j.log2) := Nat.mul_le_mul_right _ (Nat.le_of_lt hb2)
        rw [← Nat.pow_add] at this
        rwa [show j.log2 + 1 + (52 - j.log2) = 53 by omega] at this
      · have : 2 ^ j.log2 * 2 ^ (52 - j.log2) ≤ j * 2 ^ (52 - j.log2) := Nat.mul_le_mul_right _ hb1
        rw [← Nat.pow_add] at this
        rwa [show j.log2 + (52 - j.log2) = 52 by omega] at this
  obtain ⟨t', ht⟩ := hV
  refine ⟨t', ?_⟩
  have e : D * V t' = D * 2 ^ s * j := by rw [ht]; simp only [Nat.mul_comm, Nat.mul_left_comm, Nat.mul_assoc]
  rw [e]
  have e2 : 2 * (D * 2 ^ s) * j = 2 * (D * 2 ^ s * j) := Nat.mul_assoc _ _ _
  rw [e2] at h1 h2
  unfold dist
  generalize D * 2 ^ s * j = X at *
  generalize D * 2 ^ s = Y at *
  omega

theorem dist_int (a b : Nat) : (dist a b : Int) = ((a : Int) - b).natAbs := by unfold dist; omega

/-- the error of one rounding -/
theorem right_err {r : UInt64} {neg : Bool} {W D k : Nat} (h : Right r neg W D) (hD : 0 < D) (hk : k ≤ 900) (hW : W ≤ D * 2 ^ (1074 + k)) :
    ∃ m e, decode r = .fin neg m e ∧ 2 * ((D : Int) * val r - sgn neg W).natAbs ≤ D * 2 ^ (1022 + k) := by
  obtain ⟨t, rfl, ht, hinf, hn⟩ := h
  have hlt : t < infMag := by
    refine Nat.lt_of_le_of_ne ht fun e => ?_
    have h1 := hinf.mp e
    have h2 : 2 * W ≤ D * 2 ^ (1075 + k) := by
      have : 2 * (D * 2 ^ (1074 + k)) = D * 2 ^ (1075 + k) := by
        rw [show 1075 + k = 1074 + k + 1 by omega, Nat.pow_succ]; simp only [Nat.mul_comm, Nat.mul_left_comm, Nat.mul_assoc]
      omega
    have h3 := Nat.le_of_mul_le_mul_left (Nat.le_trans h1 h2) hD
    have h4 : 2 ^ (1075 + k) ≤ 2 ^ 1975 := Nat.pow_le_pow_right (by decide) (by omega)
    have h5 : (2 : Nat) ^ 1975 < (2 ^ 54 - 1) * 2 ^ 2045 := by decide +kernel
    omega
  obtain ⟨m, e, hd, _⟩ := decode_pack neg hlt
  refine ⟨m, e, hd, ?_⟩
  rw [val_pack neg hlt]
  obtain ⟨t', h'⟩ := near_mult (s := 1022 + k) hD (by omega) (by rw [show 52 + (1022 + k) = 1074 + k by omega]; exact hW)
  have h1 := (hn hlt t').1
  have h2 : 2 * dist W (D * V t) ≤ D * 2 ^ (1022 + k) := by omega
  have e : ((D : Int) * sgn neg (V t) - sgn neg W).natAbs = dist W (D * V t) := by
    have := dist_int W (D * V t)
    cases neg
    · show ((D : Int) * ((V t : Nat) : Int) - ((W : Nat) : Int)).natAbs = _
      rw [Int.natCast_mul] at this
      generalize (D : Int) * (V t : Int) = X at *
      omega
    · show ((D : Int) * -((V t : Nat) : Int) - -((W : Nat) : Int)).natAbs = _
      rw [Int.natCast_mul] at this
      rw [Int.mul_neg]
      generalize (D : Int) * (V t : Int) = X at *
      omega
  rw [e]; exact h2

/-- finite -/
def Fin1 (x : UInt64) : Prop := ∃ a m e, decode x = .fin a m e

theorem add_err {x y : UInt64} {k : Nat} (hx : Fin1 x) (hy : Fin1 y) (hk : k ≤ 900) (hb : (val x + val y).natAbs ≤ 2 ^ (1074 + k)) :
    Fin1 (add x y) ∧ 2 * (val (add x y) - (val x + val y)).natAbs ≤ 2 ^ (1022 + k) := by
  obtain ⟨a, m, e, hx⟩ := hx
  obtain ⟨b, n, f, hy⟩ := hy
  obtain ⟨h0, h1⟩ := add_right hx hy
  by_cases z : val x + val y = 0
  · rw [h0 z]
    have hd : decode (zero (a && b)) = .fin (a && b) 0 (-1074) := by cases (a && b) <;> kernel_rfl
    refine ⟨⟨_, _, _, hd⟩, ?_⟩
    rw [val_eq hd, z]
    have : sgn (a && b) (0 * 2 ^ ((-1074 : Int) + 1074).toNat) = 0 := by cases (a && b) <;> rfl
    rw [this]; exact Nat.zero_le _
  · obtain ⟨m', e', hd, he⟩ := right_err (h1 z) (by decide) hk (by rw [Nat.one_mul]; exact hb)
    refine ⟨⟨_, _, _, hd⟩, ?_⟩
    have : sgn (decide (val x + val y < 0)) (val x + val y).natAbs = val x + val y := by
      unfold sgn
      by_cases q : val x + val y < 0
      · simp only [q, decide_true, if_true]; omega
      · simp only [q, decide_false, Bool.false_eq_true, if_false]; omega
    rw [this] at he
    simpa using he
theorem sub_err {x y : UInt64} {k : Nat} (hx : Fin1 x) (hy : Fin1 y) (hk : k ≤ 900) (hb : (val x - val y).natAbs ≤ 2 ^ (1074 + k)) :
    Fin1 (sub x y) ∧ 2 * (val (sub x y) - (val x - val y)).natAbs ≤ 2 ^ (1022 + k) := by
  obtain ⟨b, n, f, hy⟩ := hy
  have e := neg_val hy
  have := add_err (x := x) (y := neg y) hx ⟨_, _, _, neg_decode hy⟩ hk (by rw [e, ← Int.sub_eq_add_neg]; exact hb)
  rw [e, ← Int.sub_eq_add_neg] at this
  have es : sub x y = add x (neg y) := by unfold sub; rfl
  rw [es]
  exact this

theorem sgn_val {x : UInt64} {a : Bool} {m : Nat} {e : Int} (hx : decode x = .fin a m e) : sgn a (val x).natAbs = val x := by
  rw [val_natAbs hx, val_eq hx]
theorem sgn_prod (a b : Bool) (p q : Nat) : sgn (a != b) (p * q) = sgn a p * sgn b q := by
  unfold sgn
  cases a <;> cases b <;> simp [Int.neg_mul, Int.mul_neg]

theorem mul_err {x y : UInt64} {k : Nat} (hx : Fin1 x) (hy : Fin1 y) (hk : k ≤ 900) (hb : (val x * val y).natAbs ≤ 2 ^ 1074 * 2 ^ (1074 + k)) :
    Fin1 (mul x y) ∧ 2 * (2 ^ 1074 * val (mul x y) - val x * val y).natAbs ≤ 2 ^ 1074 * 2 ^ (1022 + k) := by
  obtain ⟨a, m, e, hx⟩ := hx
  obtain ⟨b, n, f, hy⟩ := hy
  obtain ⟨m', e', hd, he⟩ := right_err (mul_right hx hy) (Nat.two_pow_pos _) hk (by rw [← Int.natAbs_mul]; exact hb)
  refine ⟨⟨_, _, _, hd⟩, ?_⟩
  rw [sgn_prod, sgn_val hx, sgn_val hy] at he
  have e2 : (((2 ^ 1074 : Nat) : Int)) = 2 ^ 1074 := by simp
  rw [e2] at he
  exact he
/-- by a positive double -/
theorem div_err {x y : UInt64} {k : Nat} (hx : Fin1 x) (hy : Fin1 y) (hp : 0 < val y) (hk : k ≤ 900) (hb : (val x).natAbs ≤ (val y).natAbs * 2 ^ k) :
    Fin1 (div x y) ∧ 2 * (val y * val (div x y) - 2 ^ 1074 * val x).natAbs ≤ (val y).natAbs * 2 ^ (1022 + k) := by
  obtain ⟨a, m, e, hx⟩ := hx
  obtain ⟨b, n, f, hy⟩ := hy
  have hbf : b = false := by
    have := val_eq hy
    cases b with
    | false => rfl
    | true => rw [this] at hp; unfold sgn at hp; simp only [if_true] at hp; omega
  subst hbf
  have hn : n ≠ 0 := by
    rintro rfl
    have := val_eq hy
    rw [this] at hp; unfold sgn at hp; simp at hp
  have hD : 0 < (val y).natAbs := by omega
  obtain ⟨m', e', hd, he⟩ := right_err (div_right hx hy hn) hD hk (by
    rw [Nat.pow_add, Nat.mul_comm (2 ^ 1074) (2 ^ k), ← Nat.mul_assoc]
    exact Nat.mul_le_mul_right _ hb)
  refine ⟨⟨_, _, _, hd⟩, ?_⟩
  have e1 : (((val y).natAbs : Nat) : Int) = val y := by omega
  have e2 : sgn (a != false) ((val x).natAbs * 2 ^ 1074) = 2 ^ 1074 * val x := by
    rw [show (a != false) = a by cases a <;> rfl, sgn_mul, sgn_val hx, Int.mul_comm]; simp
  rw [e1, e2] at he
  exact he
theorem frac_err {neg : Bool} {n d k : Nat} (hd : 0 < d) (hk : k ≤ 900) (hb : n ≤ d * 2 ^ k) :
    Fin1 (ofFrac neg n d) ∧ 2 * ((d : Int) * val (ofFrac neg n d) - sgn neg n * 2 ^ 1074).natAbs ≤ d * 2 ^ (1022 + k) := by
  have h := ofFrac_right (neg := neg) (n := n) (d := d) (W := n * 2 ^ 1074) (D := d) hd rfl hd
  obtain ⟨m', e', hd', he⟩ := right_err h hd hk (by
    rw [Nat.pow_add, Nat.mul_comm (2 ^ 1074) (2 ^ k), ← Nat.mul_assoc]
    exact Nat.mul_le_mul_right _ hb)
  refine ⟨⟨_, _, _, hd'⟩, ?_⟩
  rw [sgn_mul] at he
  have e2 : (((2 ^ 1074 : Nat) : Int)) = 2 ^ 1074 := by simp
  rw [e2] at he
  exact he

theorem cmp_fin {x y : UInt64} (hx : Fin1 x) (hy : Fin1 y) : cmp x y = some (compare (val x) (val y)) := by
  obtain ⟨a, m, e, hx⟩ := hx
  obtain ⟨b, n, f, hy⟩ := hy
  exact cmp_right hx hy

/-- rounding to the nearest int -/
theorem nearest_is {s : Bool} {m : Nat} {e N : Int} {x : UInt64} (hd : decode x = .fin s m e) (h : 2 * (val x - N * 2 ^ 1074).natAbs < 2 ^ 1074) : nearestOf s m e = N := by
  have hge := decode_ge hd
  have hv := val_eq hd
  have hs := shift_one m e 1074 (by omega)
  have hpos : 0 < (shift m 1 e).2 := shift_pos m 1 e (by decide)
  have hne := halfEven_nearest (shift m 1 e).1 (shift m 1 e).2 hpos
  show sgn s (halfEven (shift m 1 e).1 (shift m 1 e).2) = N
  generalize (shift m 1 e).1 = n at *
  generalize (shift m 1 e).2 = d at *
  generalize hq : halfEven n d = q at *
  -- |sgn N'| where N' = N.natAbs
  generalize hX : m * 2 ^ (e + 1074).toNat = X at *
  -- n * 2^1074 = X * d
  have key : ∀ j : Nat, dist n (d * j) * 2 ^ 1074 = d * dist X (j * 2 ^ 1074) := by
    intro j
    unfold dist
    rw [Nat.add_mul, Nat.sub_mul, Nat.sub_mul, hs, Nat.mul_add, Nat.mul_sub, Nat.mul_sub]
    have e1 : d * j * 2 ^ 1074 = d * (j * 2 ^ 1074) := Nat.mul_assoc _ _ _
    rw [e1, Nat.mul_comm X d]
  have B0 : 0 < (2 : Nat) ^ 1074 := Nat.two_pow_pos _
  have far : ∀ j : Nat, dist X (q * 2 ^ 1074) ≤ dist X (j * 2 ^ 1074) := by
    intro j
    have := Nat.mul_le_mul_right (2 ^ 1074) (hne j)
    rw [key, key] at this
    exact Nat.le_of_mul_le_mul_left this hpos
  have hB : (2 : Int) ^ 1074 = ((2 ^ 1074 : Nat) : Int) := by simp
  rw [hB, hv] at h
  generalize (2 : Nat) ^ 1074 = B at *
  -- the same multiple
  have same : ∀ j : Nat, 2 * dist X (j * B) < B → q = j := by
    intro j hj
    have f := far j
    have : dist (q * B) (j * B) < B := by unfold dist at *; omega
    unfold dist at this
    by_cases hqj : q < j
    · have : (q + 1) * B ≤ j * B := Nat.mul_le_mul_right _ hqj
      rw [Nat.add_mul, Nat.one_mul] at this
      omega
    · by_cases hjq : j < q
      · have : (j + 1) * B ≤ q * B := Nat.mul_le_mul_right _ hjq
        rw [Nat.add_mul, Nat.one_mul] at this
        omega
      · omega
  have pos : ∀ j : Nat, (X : Int) - ((j : Int) * (B : Int)) = (X : Int) - ((j * B : Nat) : Int) := fun j => by rw [Int.natCast_mul]
  cases s with
  | false =>
    have h' : 2 * ((X : Int) - N * B).natAbs < B := h
    by_cases hN : 0 ≤ N
    · obtain ⟨j, rfl⟩ := Int.eq_ofNat_of_zero_le hN
      rw [pos] at h'
      have := same j (by unfold dist; omega)
      subst this; rfl
    · exfalso
      have : N * (B : Int) ≤ (-1) * B := Int.mul_le_mul_of_nonneg_right (by omega) (by omega)
      omega
  | true =>
    have h' : 2 * (-(X : Int) - N * B).natAbs < B := h
    by_cases hN : N ≤ 0
    · obtain ⟨j, hj⟩ := Int.eq_ofNat_of_zero_le (show 0 ≤ -N by omega)
      have hN' : N = -(j : Int) := by omega
      subst hN'
      rw [Int.neg_mul] at h'
      have := pos j
      rw [show (j : Int) * (B : Int) = ((j * B : Nat) : Int) by rw [Int.natCast_mul]] at h'
      have := same j (by unfold dist; omega)
      subst this; rfl
    · exfalso
      have : 1 * (B : Int) ≤ N * B := Int.mul_le_mul_of_nonneg_right (by omega) (by omega)
      omega

/-! ## in 2 ^ -60 -/
def U : Int := 2 ^ 1014
theorem U_pos : 0 < U := by unfold U; exact Int.pow_pos (by decide)
theorem U_nat : U = ((2 ^ 1014 : Nat) : Int) := by unfold U; simp
/-- a double's value, in 2 ^ -60, rounded down -/
def ap (x : UInt64) : Int := val x / U
theorem ap_spec (x : UInt64) : ∃ p, val x = ap x * U + p ∧ 0 ≤ p ∧ p < U := by
  refine ⟨val x % U, ?_, Int.emod_nonneg _ (Int.ne_of_gt U_pos), Int.emod_lt_of_pos _ U_pos⟩
  unfold ap
  have := Int.mul_ediv_add_emod (val x) U
  rw [Int.mul_comm]; omega

theorem natpow_split (a b : Nat) : ((2 ^ (a + b) : Nat) : Int) = ((2 ^ a : Nat) : Int) * ((2 ^ b : Nat) : Int) := by rw [Nat.pow_add, Int.natCast_mul]
/-- out of units -/
theorem units {d r u E : Int} (hu : 0 < u) (h1 : d * u + r ≤ E * u) (hr : -2 * u < r) : d ≤ E + 1 := by
  have : (d - 2) * u < E * u := by rw [Int.sub_mul]; omega
  have := Int.lt_of_mul_lt_mul_right this (Int.le_of_lt hu)
  omega

theorem ap_add {x y : UInt64} (k : Nat) (hx : Fin1 x) (hy : Fin1 y) (hk : k ≤ 900) (hb : (ap x + ap y).natAbs + 2 ≤ 2 ^ (60 + k)) :
    Fin1 (add x y) ∧ (ap (add x y) - (ap x + ap y)).natAbs ≤ 2 ^ (7 + k) + 2 := by
  obtain ⟨p, ep, p0, p1⟩ := ap_spec x
  obtain ⟨q, eq, q0, q1⟩ := ap_spec y
  obtain ⟨r, er, r0, r1⟩ := ap_spec (add x y)
  have hu := U_pos
  have hb' : (val x + val y).natAbs ≤ 2 ^ (1074 + k) := by
    have e : ((2 ^ (1074 + k) : Nat) : Int) = ((2 ^ (60 + k) : Nat) : Int) * U := by
      rw [U_nat, ← natpow_split]; congr 2; omega
    have h1 : (ap x + ap y) * U ≤ (((2 ^ (60 + k) : Nat) : Int) - 2) * U := Int.mul_le_mul_of_nonneg_right (by omega) (Int.le_of_lt hu)
    have h2 : (-(((2 ^ (60 + k) : Nat) : Int) - 2)) * U ≤ (ap x + ap y) * U := Int.mul_le_mul_of_nonneg_right (by omega) (Int.le_of_lt hu)
    rw [Int.add_mul] at h1 h2
    rw [Int.sub_mul] at h1
    rw [Int.neg_mul, Int.sub_mul] at h2
    omega
  obtain ⟨hf, he⟩ := add_err hx hy hk hb'
  refine ⟨hf, ?_⟩
  have e : ((2 ^ (1022 + k) : Nat) : Int) = 2 * (((2 ^ (7 + k) : Nat) : Int) * U) := by
    rw [U_nat, ← natpow_split, show (1022 + k) = 1 + (7 + k + 1014) by omega, natpow_split]; rfl
  have he' : (val (add x y) - (val x + val y)).natAbs ≤ ((2 ^ (7 + k) : Nat) : Int) * U := by omega
  rw [ep, eq, er] at he'
  have l1 := units (d := ap (add x y) - (ap x + ap y)) (r := r - (p + q)) (E := ((2 ^ (7 + k) : Nat) : Int)) hu (by rw [Int.sub_mul, Int.add_mul]; omega) (by omega)
  have l2 := units (d := -(ap (add x y) - (ap x + ap y))) (r := -(r - (p + q))) (E := ((2 ^ (7 + k) : Nat) : Int)) hu (by rw [Int.neg_mul, Int.sub_mul, Int.add_mul]; omega) (by omega)
  omega
end Mine
end

/-! part PL2 -/
section
set_option maxRecDepth 100000
set_option linter.unusedVariables false
set_option linter.unusedSimpArgs false
namespace Mine
open PySem PySem.Float64

theorem B_eq : (2 : Int) ^ 1074 = ((2 ^ 60 : Nat) : Int) * U := by
  have : (2 : Int) ^ 1074 = ((2 ^ 1074 : Nat) : Int) := by simp
  rw [this, U_nat, ← natpow_split]
theorem unit_e (k : Nat) : ((2 ^ (1022 + k) : Nat) : Int) = 2 * (((2 ^ (7 + k) : Nat) : Int) * U) := by
  rw [U_nat, ← natpow_split, show (1022 + k) = 1 + (7 + k + 1014) by omega, natpow_split]; rfl
theorem unit_b (k : Nat) : ((2 ^ (1074 + k) : Nat) : Int) = ((2 ^ (60 + k) : Nat) : Int) * U := by
  rw [U_nat, ← natpow_split]; congr 2; omega

theorem ap_sub {x y : UInt64} (k : Nat) (hx : Fin1 x) (hy : Fin1 y) (hk : k ≤ 900) (hb : (ap x - ap y).natAbs + 2 ≤ 2 ^ (60 + k)) :
    Fin1 (sub x y) ∧ (ap (sub x y) - (ap x - ap y)).natAbs ≤ 2 ^ (7 + k) + 2 := by
  obtain ⟨p, ep, p0, p1⟩ := ap_spec x
  obtain ⟨q, eq, q0, q1⟩ := ap_spec y
  obtain ⟨r, er, r0, r1⟩ := ap_spec (sub x y)
  have hu := U_pos
  have hb' : (val x - val y).natAbs ≤ 2 ^ (1074 + k) := by
    have e := unit_b k
    have h1 : (ap x - ap y) * U ≤ (((2 ^ (60 + k) : Nat) : Int) - 2) * U := Int.mul_le_mul_of_nonneg_right (by omega) (Int.le_of_lt hu)
    have h2 : (-(((2 ^ (60 + k) : Nat) : Int) - 2)) * U ≤ (ap x - ap y) * U := Int.mul_le_mul_of_nonneg_right (by omega) (Int.le_of_lt hu)
    rw [Int.sub_mul] at h1 h2
    rw [Int.sub_mul] at h1
    rw [Int.neg_mul, Int.sub_mul] at h2
    omega
  obtain ⟨hf, he⟩ := sub_err hx hy hk hb'
  refine ⟨hf, ?_⟩
  have e := unit_e k
  have he' : (val (sub x y) - (val x - val y)).natAbs ≤ ((2 ^ (7 + k) : Nat) : Int) * U := by omega
  rw [ep, eq, er] at he'
  have l1 := units (d := ap (sub x y) - (ap x - ap y)) (r := r - (p - q)) (E := ((2 ^ (7 + k) : Nat) : Int)) hu (by rw [Int.sub_mul, Int.sub_mul]; omega) (by omega)
  have l2 := units (d := -(ap (sub x y) - (ap x - ap y))) (r := -(r - (p - q))) (E := ((2 ^ (7 + k) : Nat) : Int)) hu (by rw [Int.neg_mul, Int.sub_mul, Int.sub_mul]; omega) (by omega)
  omega

/-- by a positive constant of the grid -/
theorem ap_mul {c x : UInt64} {C : Nat} (k : Nat) (hc : Fin1 c) (hv : val c = (C : Int) * U) (hx : Fin1 x) (hk : k ≤ 900) (hb : C * ((ap x).natAbs + 1) ≤ 2 ^ (120 + k)) :
    (Fin1 (mul c x) ∧ (2 ^ 60 * ap (mul c x) - C * ap x).natAbs ≤ 2 ^ (67 + k) + 2 ^ 60 + C + 1) ∧ (Fin1 (mul x c) ∧ (2 ^ 60 * ap (mul x c) - C * ap x).natAbs ≤ 2 ^ (67 + k) + 2 ^ 60 + C + 1) := by
  obtain ⟨p, ep, p0, p1⟩ := ap_spec x
  have hu := U_pos
  have hu0 := Int.le_of_lt hu
  have hC0 : (0 : Int) ≤ C := Int.natCast_nonneg C
  have hp0 : 0 ≤ (C : Int) * p := Int.mul_nonneg hC0 p0
  have hp1 : (C : Int) * p ≤ C * U := Int.mul_le_mul_of_nonneg_left (Int.le_of_lt p1) hC0
  have e67 : ((2 ^ (67 + k) : Nat) : Int) = ((2 ^ 60 : Nat) : Int) * ((2 ^ (7 + k) : Nat) : Int) := by rw [← natpow_split]; congr 2; omega
  have e120 : ((2 ^ (120 + k) : Nat) : Int) = ((2 ^ 60 : Nat) : Int) * ((2 ^ (60 + k) : Nat) : Int) := by rw [← natpow_split]; congr 2; omega
  have hbI : (C : Int) * (((ap x).natAbs : Int) + 1) ≤ ((2 ^ 60 : Nat) : Int) * ((2 ^ (60 + k) : Nat) : Int) := by
    rw [← e120]; exact_mod_cast hb
  have hb' : (val c * val x).natAbs ≤ 2 ^ 1074 * 2 ^ (1074 + k) := by
    have hxb : ((val x).natAbs : Int) ≤ (((ap x).natAbs : Int) + 1) * U := by
      have h1 : (ap x) * U ≤ ((ap x).natAbs : Int) * U := Int.mul_le_mul_of_nonneg_right (by omega) hu0
      have h2 : (-((ap x).natAbs : Int)) * U ≤ (ap x) * U := Int.mul_le_mul_of_nonneg_right (by omega) hu0
      rw [Int.neg_mul] at h2
      rw [Int.add_mul, Int.one_mul]
      omega
    have h1 : (((val c * val x).natAbs : Nat) : Int) = (C * U) * ((val x).natAbs : Int) := by
      rw [Int.natAbs_mul, Int.natCast_mul, hv]
      congr 1
    have h2 : (C * U) * ((val x).natAbs : Int) ≤ (C * U) * ((((ap x).natAbs : Int) + 1) * U) := Int.mul_le_mul_of_nonneg_left hxb (Int.mul_nonneg hC0 hu0)
    have h3 : (C * U) * ((((ap x).natAbs : Int) + 1) * U) = ((C : Int) * (((ap x).natAbs : Int) + 1)) * (U * U) := by
      simp only [Int.mul_assoc, Int.mul_comm, Int.mul_left_comm]
    have h4 : ((C : Int) * (((ap x).natAbs : Int) + 1)) * (U * U) ≤ (((2 ^ 60 : Nat) : Int) * ((2 ^ (60 + k) : Nat) : Int)) * (U * U) := Int.mul_le_mul_of_nonneg_right hbI (Int.mul_nonneg hu0 hu0)
    have h5 : (((2 ^ 1074 * 2 ^ (1074 + k) : Nat)) : Int) = (((2 ^ 60 : Nat) : Int) * ((2 ^ (60 + k) : Nat) : Int)) * (U * U) := by
      rw [Int.natCast_mul, unit_b, show ((2 ^ 1074 : Nat) : Int) = ((2 ^ 60 : Nat) : Int) * U from by have := unit_b 0; simpa using this]
      simp only [Int.mul_assoc, Int.mul_comm, Int.mul_left_comm]
    omega
  have fin : ∀ z : UInt64, 2 * (2 ^ 1074 * val z - val c * val x).natAbs ≤ 2 ^ 1074 * 2 ^ (1022 + k) → (2 ^ 60 * ap z - C * ap x).natAbs ≤ 2 ^ (67 + k) + 2 ^ 60 + C + 1 := by
    intro z he
    obtain ⟨r, er, r0, r1⟩ := ap_spec z
    have h60 : (2 : Int) ^ 60 = ((2 ^ 60 : Nat) : Int) := by simp
    have e2 : ((2 ^ 1074 * 2 ^ (1022 + k) : Nat) : Int) = 2 * (((2 ^ (67 + k) : Nat) : Int) * U) * U := by
      rw [Int.natCast_mul, unit_e, e67, show ((2 ^ 1074 : Nat) : Int) = ((2 ^ 60 : Nat) : Int) * U from by have := unit_b 0; simpa using this]
      simp only [Int.mul_assoc, Int.mul_comm, Int.mul_left_comm]
    have e3 : (2 : Int) ^ 1074 * val z - val c * val x = (((2 ^ 60 : Nat) : Int) * val z - C * val x) * U := by
      rw [B_eq, hv, Int.sub_mul]; simp only [Int.mul_assoc, Int.mul_comm, Int.mul_left_comm]
    have e4 : ((((2 ^ 60 : Nat) : Int) * val z - C * val x).natAbs : Int) * U ≤ (((2 ^ (67 + k) : Nat) : Int) * U) * U := by
      have h1 : (((2 : Int) ^ 1074 * val z - val c * val x).natAbs : Int) = ((((2 ^ 60 : Nat) : Int) * val z - C * val x).natAbs : Int) * U := by
        rw [e3, Int.natAbs_mul, Int.natCast_mul]; congr 1 <;> omega
      have h2 : (2 : Int) * (((2 : Int) ^ 1074 * val z - val c * val x).natAbs : Int) ≤ ((2 ^ 1074 * 2 ^ (1022 + k) : Nat) : Int) := by exact_mod_cast he
      rw [e2, h1] at h2
      rw [Int.mul_assoc] at h2
      generalize ((((2 ^ 60 : Nat) : Int) * val z - C * val x).natAbs : Int) * U = P at *
      generalize (((2 ^ (67 + k) : Nat) : Int) * U) * U = R at *
      omega
    have e5 : ((((2 ^ 60 : Nat) : Int) * val z - C * val x).natAbs : Int) ≤ ((2 ^ (67 + k) : Nat) : Int) * U := Int.le_of_mul_le_mul_right e4 hu
    rw [er, ep, Int.mul_add, Int.mul_add] at e5
    rw [h60]
    have hr1 : ((2 ^ 60 : Nat) : Int) * r ≤ ((2 ^ 60 : Nat) : Int) * U := Int.mul_le_mul_of_nonneg_left (Int.le_of_lt r1) (Int.natCast_nonneg _)
    have hr0 : 0 ≤ ((2 ^ 60 : Nat) : Int) * r := Int.mul_nonneg (Int.natCast_nonneg _) r0
    have a1 : ((2 ^ 60 : Nat) : Int) * (ap z * U) = (((2 ^ 60 : Nat) : Int) * ap z) * U := (Int.mul_assoc _ _ _).symm
    have a2 : (C : Int) * (ap x * U) = (C * ap x) * U := (Int.mul_assoc _ _ _).symm
    rw [a1, a2] at e5
    have key : ∀ d t : Int, d * U + t ≤ ((2 ^ (67 + k) : Nat) : Int) * U → -(((2 ^ 60 : Nat) : Int) * U + C * U) ≤ t → d ≤ ((2 ^ (67 + k) : Nat) : Int) + ((2 ^ 60 : Nat) : Int) + C := by
      intro d t h1 h2
      have : d * U ≤ (((2 ^ (67 + k) : Nat) : Int) + ((2 ^ 60 : Nat) : Int) + C) * U := by
        rw [Int.add_mul, Int.add_mul]; omega
      exact Int.le_of_mul_le_mul_right this hu
    have k1 := key (((2 ^ 60 : Nat) : Int) * ap z - C * ap x) (((2 ^ 60 : Nat) : Int) * r - C * p) (by rw [Int.sub_mul]; omega) (by omega)
    have k2 := key (-(((2 ^ 60 : Nat) : Int) * ap z - C * ap x)) (-(((2 ^ 60 : Nat) : Int) * r - C * p)) (by rw [Int.neg_mul, Int.sub_mul]; omega) (by omega)
    omega
  have m1 := mul_err hc hx hk hb'
  have m2 := mul_err hx hc hk (by rw [Int.mul_comm]; exact hb')
  rw [Int.mul_comm (val x) (val c)] at m2
  exact ⟨⟨m1.1, fin _ m1.2⟩, ⟨m2.1, fin _ m2.2⟩⟩
end Mine
end

/-! part PL3 -/
section
set_option maxRecDepth 100000
set_option linter.unusedVariables false
set_option linter.unusedSimpArgs false
set_option exponentiation.threshold 3000
namespace Mine
open PySem PySem.Float64

theorem fin1_of {c : UInt64} (h : (match decode c with | .fin .. => true | _ => false) = true) : Fin1 c := by
  unfold Fin1
  cases e : decode c with
  | fin a m k => exact ⟨_, _, _, rfl⟩
  | inf => rw [e] at h; cases h
  | nan => rw [e] at h; cases h
theorem val_of {c : UInt64} {C : Nat} (h : val c = ((C * 2 ^ 1014 : Nat) : Int)) : val c = (C : Int) * U := by rw [h, U_nat, Int.natCast_mul]

/-- x is near N / 153282000000, to e / 2 ^ 60 -/
def Nq (x : UInt64) (N e : Int) : Prop := Fin1 x ∧ 153282000000 * ap x - N * 1152921504606846976 ≤ 153282000000 * e ∧ N * 1152921504606846976 - 153282000000 * ap x ≤ 153282000000 * e

theorem Nq.add {x y : UInt64} {N M e f : Int} (a : Nq x N e) (b : Nq y M f) (hb : N + M ≤ 459846000000 ∧ -459846000000 ≤ N + M) (he : e + f ≤ 1000000) : Nq (add x y) (N + M) (e + f + 514) := by
  obtain ⟨fx, a1, a2⟩ := a
  obtain ⟨fy, b1, b2⟩ := b
  obtain ⟨fz, h⟩ := ap_add 2 fx fy (by decide) (by omega)
  refine ⟨fz, ?_, ?_⟩ <;> omega
theorem Nq.sub {x y : UInt64} {N M e f : Int} (a : Nq x N e) (b : Nq y M f) (hb : N - M ≤ 459846000000 ∧ -459846000000 ≤ N - M) (he : e + f ≤ 1000000) : Nq (sub x y) (N - M) (e + f + 514) := by
  obtain ⟨fx, a1, a2⟩ := a
  obtain ⟨fy, b1, b2⟩ := b
  obtain ⟨fz, h⟩ := ap_sub 2 fx fy (by decide) (by omega)
  refine ⟨fz, ?_, ?_⟩ <;> omega

theorem abs_mul {a b A B : Int} (h1 : -A ≤ a) (h2 : a ≤ A) (h3 : -B ≤ b) (h4 : b ≤ B) : -(A * B) ≤ a * b ∧ a * b ≤ A * B := by
  have e : ((a * b).natAbs : Int) ≤ A * B := by
    rw [Int.natAbs_mul, Int.natCast_mul]
    exact Int.mul_le_mul (by omega) (by omega) (Int.natCast_nonneg _) (by omega)
  omega
theorem mulc_end {P Y Z S V N' C : Int} (hC0 : 0 ≤ C) (hC2 : C ≤ 2305843009213693952) (hV : V ≤ 1152921504606846976 * S) (b1 : 153282000000 * P - Y * 1152921504606846976 ≤ 153282000000 * V) (b2 : Y * 1152921504606846976 - 153282000000 * P ≤ 153282000000 * V)
    (g1 : -(58860288000000 : Int) ≤ Y - 1152921504606846976 * N') (g2 : Y - 1152921504606846976 * N' ≤ 58860288000000) (h3 : -(591448731863312498688 + C + 1) ≤ 1152921504606846976 * Z - P) (h4 : 1152921504606846976 * Z - P ≤ 591448731863312498688 + C + 1) :
    153282000000 * Z - N' * 1152921504606846976 ≤ 153282000000 * (S + 1000) ∧ N' * 1152921504606846976 - 153282000000 * Z ≤ 153282000000 * (S + 1000) := by
  constructor <;> omega
theorem mulc_gap {C n d : Nat} {N N' : Int} (hd : 0 < d) (h1 : (C : Int) * d - n * 1152921504606846976 ≤ 128 * d) (h2 : (n : Int) * 1152921504606846976 - C * d ≤ 128 * d) (hb : N ≤ 459846000000 ∧ -459846000000 ≤ N) (hN : (d : Int) * N' = n * N) :
    -(58860288000000 : Int) ≤ C * N - 1152921504606846976 * N' ∧ C * N - 1152921504606846976 * N' ≤ 58860288000000 := by
  have hd' : (0 : Int) < d := Int.ofNat_lt.mpr hd
  have k1 : (d : Int) * (C * N - 1152921504606846976 * N') = N * (C * d - n * 1152921504606846976) := by
    rw [Int.mul_sub, Int.mul_sub, Int.mul_left_comm (d : Int) 1152921504606846976, hN]
    simp only [Int.mul_comm, Int.mul_left_comm, Int.mul_assoc]
  obtain ⟨t1, t2⟩ := abs_mul (a := N) (b := C * d - n * 1152921504606846976) (A := 459846000000) (B := 128 * d) hb.2 hb.1 (by omega) h1
  rw [← k1] at t1 t2
  have e : (459846000000 : Int) * (128 * d) = d * 58860288000000 := by omega
  rw [e] at t1 t2
  rw [← Int.mul_neg] at t1
  exact ⟨Int.le_of_mul_le_mul_left t1 hd', Int.le_of_mul_le_mul_left t2 hd'⟩
/-- by a constant c near n / d -/
theorem Nq.mulc {c x : UInt64} {C n d m B : Nat} {N N' e M : Int} (hc : Fin1 c) (hv : val c = (C : Int) * U) (hd : 0 < d) (hC : C ≤ m * 1152921504606846976) (hC2 : C ≤ 2305843009213693952) (h1 : (C : Int) * d - n * 1152921504606846976 ≤ 128 * d) (h2 : (n : Int) * 1152921504606846976 - C * d ≤ 128 * d)
    (a : Nq x N e) (hM : M ≤ 459846000000) (hb : N ≤ M ∧ -M ≤ N) (hB : M * 1152921504606846976 + 153282153282000000 ≤ 153282000000 * B) (hCB : C * B ≤ 5316911983139663491615228241121378304) (h0 : 0 ≤ e) (he : e ≤ 1000000) (hN : (d : Int) * N' = n * N) : Nq (mul c x) N' (m * e + 1000) := by
  obtain ⟨fx, a1, a2⟩ := a
  have hx : (ap x).natAbs + 1 ≤ B := by
    have u1 : 153282000000 * ap x ≤ 153282000000 * ((B : Int) - 1) := by omega
    have u2 : 153282000000 * (-ap x) ≤ 153282000000 * ((B : Int) - 1) := by omega
    have u3 := Int.le_of_mul_le_mul_left u1 (by decide)
    have u4 := Int.le_of_mul_le_mul_left u2 (by decide)
    omega
  obtain ⟨⟨fz, h⟩, _⟩ := ap_mul 2 hc hv fx (by decide) (Nat.le_trans (Nat.mul_le_mul_left _ hx) hCB)
  refine ⟨fz, ?_⟩
  have e60 : (2 : Int) ^ 60 = 1152921504606846976 := by decide
  have hK : (2 : Nat) ^ (67 + 2) + 2 ^ 60 = 591448731863312498688 := by decide
  rw [e60, hK] at h
  have hC0 : (0 : Int) ≤ C := Int.natCast_nonneg C
  have b1 := Int.mul_le_mul_of_nonneg_left a1 hC0
  have b2 := Int.mul_le_mul_of_nonneg_left a2 hC0
  have hCe : (C : Int) * e ≤ 1152921504606846976 * (m * e) := by
    have : (C : Int) * e ≤ ((m * 1152921504606846976 : Nat) : Int) * e := Int.mul_le_mul_of_nonneg_right (Int.ofNat_le.mpr hC) h0
    rw [Int.natCast_mul, Int.mul_comm (m : Int), Int.mul_assoc] at this
    exact this
  rw [Int.mul_sub, Int.mul_left_comm, Int.mul_left_comm (C : Int) 153282000000, ← Int.mul_assoc (C : Int) N] at b1
  rw [Int.mul_sub, Int.mul_left_comm (C : Int) 153282000000 (ap x), Int.mul_left_comm (C : Int) 153282000000, ← Int.mul_assoc (C : Int) N] at b2
  obtain ⟨g1, g2⟩ := mulc_gap hd h1 h2 ⟨by omega, by omega⟩ hN
  exact mulc_end hC0 (Int.ofNat_le.mpr hC2) hCe b1 b2 g1 g2 (by omega) (by omega)

theorem k30_fin : Fin1 4599075939470750515 := fin1_of (by decide +kernel)
theorem k30_val : val 4599075939470750515 = ((345876451382054080 : Nat) : Int) * U := val_of (by decide +kernel)
theorem Nq.k30 {x : UInt64} {N N' e : Int} (a : Nq x N e) (hb : N ≤ 459846000000 ∧ -459846000000 ≤ N) (he : e ≤ 1000000) (hN : 10 * N' = 3 * N) (h0 : 0 ≤ e := by omega) : Nq (mul 4599075939470750515 x) N' (1 * e + 1000) :=
  Nq.mulc (n := 3) (d := 10) (m := 1) (B := 3458764513821540929) (M := 459846000000) k30_fin k30_val (by decide) (by decide) (by decide) (by decide) (by decide) a (by decide) hb (by decide) (by decide) h0 he hN

theorem k59_fin : Fin1 4603489467105573601 := fin1_of (by decide +kernel)
theorem k59_val : val 4603489467105573601 = ((680223687718039680 : Nat) : Int) * U := val_of (by decide +kernel)
theorem Nq.k59 {x : UInt64} {N N' e : Int} (a : Nq x N e) (hb : N ≤ 459846000000 ∧ -459846000000 ≤ N) (he : e ≤ 1000000) (hN : 100 * N' = 59 * N) (h0 : 0 ≤ e := by omega) : Nq (mul 4603489467105573601 x) N' (1 * e + 1000) :=
  Nq.mulc (n := 59) (d := 100) (m := 1) (B := 3458764513821540929) (M := 459846000000) k59_fin k59_val (by decide) (by decide) (by decide) (by decide) (by decide) a (by decide) hb (by decide) (by decide) h0 he hN

theorem k11_fin : Fin1 4592590756007337001 := fin1_of (by decide +kernel)
theorem k11_val : val 4592590756007337001 = ((126821365506753168 : Nat) : Int) * U := val_of (by decide +kernel)
theorem Nq.k11 {x : UInt64} {N N' e : Int} (a : Nq x N e) (hb : N ≤ 459846000000 ∧ -459846000000 ≤ N) (he : e ≤ 1000000) (hN : 100 * N' = 11 * N) (h0 : 0 ≤ e := by omega) : Nq (mul 4592590756007337001 x) N' (1 * e + 1000) :=
  Nq.mulc (n := 11) (d := 100) (m := 1) (B := 3458764513821540929) (M := 459846000000) k11_fin k11_val (by decide) (by decide) (by decide) (by decide) (by decide) a (by decide) hb (by decide) (by decide) h0 he hN

theorem k74_fin : Fin1 4604840546993784750 := fin1_of (by decide +kernel)
theorem k74_val : val 4604840546993784750 = ((853161913409066752 : Nat) : Int) * U := val_of (by decide +kernel)
theorem Nq.k74 {x : UInt64} {N N' e : Int} (a : Nq x N e) (hb : N ≤ 459846000000 ∧ -459846000000 ≤ N) (he : e ≤ 1000000) (hN : 100 * N' = 74 * N) (h0 : 0 ≤ e := by omega) : Nq (mul 4604840546993784750 x) N' (1 * e + 1000) :=
  Nq.mulc (n := 74) (d := 100) (m := 1) (B := 3458764513821540929) (M := 459846000000) k74_fin k74_val (by decide) (by decide) (by decide) (by decide) (by decide) a (by decide) hb (by decide) (by decide) h0 he hN

theorem k27_fin : Fin1 4598535507515466056 := fin1_of (by decide +kernel)
theorem k27_val : val 4598535507515466056 = ((311288806243848704 : Nat) : Int) * U := val_of (by decide +kernel)
theorem Nq.k27 {x : UInt64} {N N' e : Int} (a : Nq x N e) (hb : N ≤ 459846000000 ∧ -459846000000 ≤ N) (he : e ≤ 1000000) (hN : 100 * N' = 27 * N) (h0 : 0 ≤ e := by omega) : Nq (mul 4598535507515466056 x) N' (1 * e + 1000) :=
  Nq.mulc (n := 27) (d := 100) (m := 1) (B := 3458764513821540929) (M := 459846000000) k27_fin k27_val (by decide) (by decide) (by decide) (by decide) (by decide) a (by decide) hb (by decide) (by decide) h0 he hN

theorem k48_fin : Fin1 4602318531202457272 := fin1_of (by decide +kernel)
theorem k48_val : val 4602318531202457272 = ((553402322211286528 : Nat) : Int) * U := val_of (by decide +kernel)
theorem Nq.k48 {x : UInt64} {N N' e : Int} (a : Nq x N e) (hb : N ≤ 459846000000 ∧ -459846000000 ≤ N) (he : e ≤ 1000000) (hN : 100 * N' = 48 * N) (h0 : 0 ≤ e := by omega) : Nq (mul 4602318531202457272 x) N' (1 * e + 1000) :=
  Nq.mulc (n := 48) (d := 100) (m := 1) (B := 3458764513821540929) (M := 459846000000) k48_fin k48_val (by decide) (by decide) (by decide) (by decide) (by decide) a (by decide) hb (by decide) (by decide) h0 he hN

theorem k41_fin : Fin1 4601057523306793533 := fin1_of (by decide +kernel)
theorem k41_val : val 4601057523306793533 = ((472697816888807232 : Nat) : Int) * U := val_of (by decide +kernel)
theorem Nq.k41 {x : UInt64} {N N' e : Int} (a : Nq x N e) (hb : N ≤ 459846000000 ∧ -459846000000 ≤ N) (he : e ≤ 1000000) (hN : 100 * N' = 41 * N) (h0 : 0 ≤ e := by omega) : Nq (mul 4601057523306793533 x) N' (1 * e + 1000) :=
  Nq.mulc (n := 41) (d := 100) (m := 1) (B := 3458764513821540929) (M := 459846000000) k41_fin k41_val (by decide) (by decide) (by decide) (by decide) (by decide) a (by decide) hb (by decide) (by decide) h0 he hN

theorem c1_fin : Fin1 4606703976345377586 := fin1_of (by decide +kernel)
theorem c1_val : val 4606703976345377586 = ((1091680870412949760 : Nat) : Int) * U := val_of (by decide +kernel)
theorem Nq.c1 {x : UInt64} {N N' e : Int} (a : Nq x N e) (hb : N ≤ 459846000000 ∧ -459846000000 ≤ N) (he : e ≤ 1000000) (hN : 433 * N' = 410 * N) (h0 : 0 ≤ e := by omega) : Nq (mul 4606703976345377586 x) N' (1 * e + 1000) :=
  Nq.mulc (n := 410) (d := 433) (m := 1) (B := 3458764513821540929) (M := 459846000000) c1_fin c1_val (by decide) (by decide) (by decide) (by decide) (by decide) a (by decide) hb (by decide) (by decide) h0 he hN

theorem c2_fin : Fin1 4603791717925830846 := fin1_of (by decide +kernel)
theorem c2_val : val 4603791717925830846 = ((718911792710967040 : Nat) : Int) * U := val_of (by decide +kernel)
theorem Nq.c2 {x : UInt64} {N N' e : Int} (a : Nq x N e) (hb : N ≤ 459846000000 ∧ -459846000000 ≤ N) (he : e ≤ 1000000) (hN : 433 * N' = 270 * N) (h0 : 0 ≤ e := by omega) : Nq (mul 4603791717925830846 x) N' (1 * e + 1000) :=
  Nq.mulc (n := 270) (d := 433) (m := 1) (B := 3458764513821540929) (M := 459846000000) c2_fin c2_val (by decide) (by decide) (by decide) (by decide) (by decide) a (by decide) hb (by decide) (by decide) h0 he hN

theorem c3_fin : Fin1 4598621754083818298 := fin1_of (by decide +kernel)
theorem c3_val : val 4598621754083818298 = ((316808586618392192 : Nat) : Int) * U := val_of (by decide +kernel)
theorem Nq.c3 {x : UInt64} {N N' e : Int} (a : Nq x N e) (hb : N ≤ 459846000000 ∧ -459846000000 ≤ N) (he : e ≤ 1000000) (hN : 25547 * N' = 7020 * N) (h0 : 0 ≤ e := by omega) : Nq (mul 4598621754083818298 x) N' (1 * e + 1000) :=
  Nq.mulc (n := 7020) (d := 25547) (m := 1) (B := 3458764513821540929) (M := 459846000000) c3_fin c3_val (by decide) (by decide) (by decide) (by decide) (by decide) a (by decide) hb (by decide) (by decide) h0 he hN

theorem c4_fin : Fin1 4603901015759978483 := fin1_of (by decide +kernel)
theorem c4_val : val 4603901015759978483 = ((732901915481864576 : Nat) : Int) * U := val_of (by decide +kernel)
theorem Nq.c4 {x : UInt64} {N N' e : Int} (a : Nq x N e) (hb : N ≤ 459846000000 ∧ -459846000000 ≤ N) (he : e ≤ 1000000) (hN : 25547 * N' = 16240 * N) (h0 : 0 ≤ e := by omega) : Nq (mul 4603901015759978483 x) N' (1 * e + 1000) :=
  Nq.mulc (n := 16240) (d := 25547) (m := 1) (B := 3458764513821540929) (M := 459846000000) c4_fin c4_val (by decide) (by decide) (by decide) (by decide) (by decide) a (by decide) hb (by decide) (by decide) h0 he hN

theorem c5_fin : Fin1 4607671262177584182 := fin1_of (by decide +kernel)
theorem c5_val : val 4607671262177584182 = ((1278065409263941120 : Nat) : Int) * U := val_of (by decide +kernel)
theorem Nq.c5 {x : UInt64} {N N' e : Int} (a : Nq x N e) (hb : N ≤ 459846000000 ∧ -459846000000 ≤ N) (he : e ≤ 1000000) (hN : 433 * N' = 480 * N) (h0 : 0 ≤ e := by omega) : Nq (mul 4607671262177584182 x) N' (2 * e + 1000) :=
  Nq.mulc (n := 480) (d := 433) (m := 2) (B := 3458764513821540929) (M := 459846000000) c5_fin c5_val (by decide) (by decide) (by decide) (by decide) (by decide) a (by decide) hb (by decide) (by decide) h0 he hN

theorem c6_fin : Fin1 4610375502138591871 := fin1_of (by decide +kernel)
theorem c6_val : val 4610375502138591871 = ((1970350839281909504 : Nat) : Int) * U := val_of (by decide +kernel)
theorem Nq.c6 {x : UInt64} {N N' e : Int} (a : Nq x N e) (hb : N ≤ 306564000000 ∧ -306564000000 ≤ N) (he : e ≤ 1000000) (hN : 433 * N' = 740 * N) (h0 : 0 ≤ e := by omega) : Nq (mul 4610375502138591871 x) N' (2 * e + 1000) :=
  Nq.mulc (n := 740) (d := 433) (m := 2) (B := 2305843009214693953) (M := 306564000000) c6_fin c6_val (by decide) (by decide) (by decide) (by decide) (by decide) a (by decide) hb (by decide) (by decide) h0 he hN

theorem zero_fin : Fin1 0 := fin1_of (by decide +kernel)
theorem zero_ap : val 0 = 0 := by decide +kernel
theorem one_fin : Fin1 4607182418800017408 := fin1_of (by decide +kernel)
theorem one_val : val 4607182418800017408 = ((1152921504606846976 : Nat) : Int) * U := val_of (by decide +kernel)
theorem ap_of {x : UInt64} {C : Nat} (h : val x = (C : Int) * U) : ap x = C := by
  unfold ap; rw [h]; exact Int.mul_ediv_cancel _ (Int.ne_of_gt U_pos)
theorem cmp_lt {x y : UInt64} (hx : Fin1 x) (hy : Fin1 y) : (cmp x y == some .lt) = decide (val x < val y) := by
  rw [cmp_fin hx hy]
  by_cases h : val x < val y
  · rw [Int.compare_eq_lt.mpr h]; simp [h]
  · have : compare (val x) (val y) ≠ .lt := fun e => h (Int.compare_eq_lt.mp e)
    simp only [h, decide_false, beq_eq_false_iff_ne, ne_eq, Option.some.injEq]; exact this
theorem cmp_gt {x y : UInt64} (hx : Fin1 x) (hy : Fin1 y) : (cmp x y == some .gt) = decide (val y < val x) := by
  rw [cmp_fin hx hy]
  by_cases h : val y < val x
  · rw [Int.compare_eq_gt.mpr h]; simp [h]
  · have : compare (val x) (val y) ≠ .gt := fun e => h (Int.compare_eq_gt.mp e)
    simp only [h, decide_false, beq_eq_false_iff_ne, ne_eq, Option.some.injEq]; exact this
theorem ap_neg {x : UInt64} (h : val x < 0) : ap x ≤ -1 := by
  obtain ⟨p, ep, p0, p1⟩ := ap_spec x
  have hu := U_pos
  by_cases q : ap x ≤ -1
  · exact q
  · have : 0 ≤ ap x * U := Int.mul_nonneg (by omega) (Int.le_of_lt hu)
    omega
theorem ap_ge {x : UInt64} {C : Nat} (h : (C : Int) * U ≤ val x) : (C : Int) ≤ ap x := by
  unfold ap
  exact (Int.le_ediv_iff_mul_le U_pos).mpr h
theorem ap_le {x : UInt64} {C : Int} (h : val x ≤ C * U) : ap x ≤ C := by
  unfold ap
  have := Int.ediv_le_ediv U_pos h
  rwa [Int.mul_ediv_cancel _ (Int.ne_of_gt U_pos)] at this
theorem Nq.clamp0 {x : UInt64} {N e : Int} (a : Nq x N e) (he : 0 ≤ e) : Nq (if cmp x 0 == some .lt then 0 else x) (max N 0) e := by
  obtain ⟨fx, a1, a2⟩ := a
  rw [cmp_lt fx zero_fin, zero_ap]
  have z : ap 0 = 0 := ap_of (C := 0) (by rw [zero_ap]; simp)
  by_cases h : val x < 0
  · have := ap_neg h
    rw [if_pos (by simpa using h)]
    refine ⟨zero_fin, ?_, ?_⟩ <;> rw [z] <;> omega
  · rw [if_neg (by simpa using h)]
    have h0 : (0 : Int) ≤ ap x := ap_ge (C := 0) (by simp; omega)
    refine ⟨fx, ?_, ?_⟩ <;> omega
theorem Nq.clamp1 {x : UInt64} {N e : Int} (a : Nq x N e) (he : 0 ≤ e) : Nq (if cmp x 4607182418800017408 == some .gt then 4607182418800017408 else x) (min N 153282000000) e := by
  obtain ⟨fx, a1, a2⟩ := a
  rw [cmp_gt fx one_fin, one_val]
  have z := ap_of one_val
  by_cases h : ((1152921504606846976 : Nat) : Int) * U < val x
  · have := ap_ge (Int.le_of_lt h)
    rw [if_pos (by simpa using h)]
    refine ⟨one_fin, ?_, ?_⟩ <;> rw [z] <;> omega
  · rw [if_neg (by simpa using h)]
    have h0 := ap_le (x := x) (Int.not_lt.mp h)
    refine ⟨fx, ?_, ?_⟩ <;> omega
end Mine
end

/-! part G1 -/
section
set_option maxRecDepth 100000
set_option linter.unusedVariables false
namespace Mine
open PySem PySem.Calls PySem.W PyProof.Rows

def stmtAt (n : Nat) : Stmt := (PySem.Challenge.pw_wn0068_01.main.body[n]?).getD (.Pass default)
def fnBody : Stmt → List Stmt
  | .FunctionDef _ _ b .. => b
  | _ => []
def fnParams : Stmt → Arguments
  | .FunctionDef _ p .. => p
  | _ => ⟨[], [], none, [], [], none, []⟩
def fnScope : Stmt → Scope
  | .FunctionDef _ _ _ _ _ _ s _ _ _ => s
  | _ => default

local macro_rules | `(tactic| walk_at "op") => `(tactic| with_reducible first
  | exact OP.addF | exact OP.mulF | exact OP.subF | exact OP.addI | exact OP.subI | exact OP.ltF | exact OP.gtF | exact OP.ltI)
local macro_rules | `(tactic| walk_at "ev") => `(tactic| first
  | (with_reducible exact EV.flt)
  | (with_reducible exact EV.int)
  | ((with_reducible refine' EV.name ?n1 ?n2 ?n3 ?n4); (case n1 => exact rfl); (case n2 => exact rfl); (case n3 => exact rfl); (case n4 => exact rfl))
  | ((with_reducible refine' EV.bin ?ea ?eb ?ec); (case ea => walk_at "ev"); (case eb => walk_at "ev"); (case ec => walk_at "op"))
  | (with_reducible exact EV.bool)
  | (with_reducible exact EV.nonec))
local macro_rules | `(tactic| walk_at "tv") => `(tactic| first
  | ((with_reducible refine' TV.cmp ?ea ?eb ?ec ?ed); (case ea => walk_at "ev"); (case eb => walk_at "ev"); (case ec => walk_at "op"); (case ed => with_unfolding_all rfl)))
-- a plain assignment, then the rest
local macro_rules | `(tactic| walk_at "asg") => `(tactic| (refine' EX.cons (EX1.assign ?k1 ?k2 ?k3 ?k4) ?_; (case k1 => exact rfl); (case k2 => exact rfl); (case k3 => walk_at "ev"); (case k4 => exact rfl)))
local macro_rules | `(tactic| walk_at "evs") => `(tactic| first
  | (with_reducible exact EVs.nil)
  | ((with_reducible refine' EVs.cons ?ca ?cb ?cc); (case ca => walk_at "ev"); (case cb => walk_at "evs"); (case cc => exact fun _ => rfl)))

section
variable {prog : Program} {w : World} {A : Around} {g : Heap} {env : Env} {r : Vars}
theorem FR.again {x : Str} {p : PV} {h : Heap} (F : FR g env r h) (e : r.lookup x = some p) : FR g env ((x, p) :: r) h := F.less fun y q hy => by
  rw [lookup_cons'] at hy
  by_cases z : y = x
  · subst z; rw [if_pos rfl] at hy; rw [← hy]; exact e
  · rw [if_neg z] at hy; exact hy
theorem EX1.setIf {test e : Expr} {x : Str} {px pos pos' : Pos} {c : Bool} {v z : UInt64} (hk : env.scope.kind = .function) (hl : env.kindOf x = some .local) (h1 : TV prog w A g env r test c) (hv : r.lookup x = some (.flt v)) (h2 : EV prog w A g env r e (.flt z))
    (hs : swapsWith e (some (.Name x px)) pos.line env = pure false := by rfl) : EX1 prog w A g env r (.If test [.Assign [.Name x px] e pos] [] pos') (.nxt ((x, .flt (if c then z else v)) :: r)) := by
  refine EX1.ite h1 (fun hc => ?_) fun hc => ?_
  · subst hc
    exact EX.cons (EX1.assign hk hl h2 hs) EX.nil
  · subst hc
    exact fun s Q E F h => wpAny_execs_nil (h _ s.heap s.toks ⟨rfl, F.again hv⟩ (Step.refl _))
end

local macro_rules | `(tactic| walk_at "setif") => `(tactic| (refine' EX.cons (EX1.setIf ?k1 ?k2 ?k3 ?k4 ?k5 ?k6) ?_; (case k1 => exact rfl); (case k2 => exact rfl); (case k3 => walk_at "tv"); (case k4 => exact rfl); (case k5 => walk_at "ev"); (case k6 => exact rfl)))
abbrev F0 : UInt64 := 0
abbrev F1 : UInt64 := 4607182418800017408
def yiqR (y i q : UInt64) : UInt64 := Float64.add (Float64.add y (Float64.mul 4606703976345377586 i)) (Float64.mul 4603791717925830846 q)
def yiqG (y i q : UInt64) : UInt64 := Float64.sub (Float64.sub y (Float64.mul 4598621754083818298 i)) (Float64.mul 4603901015759978483 q)
def yiqB (y i q : UInt64) : UInt64 := Float64.add (Float64.sub y (Float64.mul 4607671262177584182 i)) (Float64.mul 4610375502138591871 q)
def clamp0 (x : UInt64) : UInt64 := if Float64.cmp x F0 == some .lt then F0 else x
def clamp1 (x : UInt64) : UInt64 := if Float64.cmp x F1 == some .gt then F1 else x
def clampF (x : UInt64) : UInt64 := clamp1 (clamp0 x)
theorem yiq_ex {prog : Program} {w : World} {A : Around} (g : Heap) (qual : Str) (L a : Addr) (cdv : Value) (y i q : UInt64) : ∃ r', EX prog w A g (envX qual (fnScope (stmtAt 3)) L a cdv []) [("q", .flt q), ("i", .flt i), ("y", .flt y)] (fnBody (stmtAt 3))
    (.ret r' (.tup [.flt (clampF (yiqR y i q)), .flt (clampF (yiqG y i q)), .flt (clampF (yiqB y i q))])) := by
  refine ⟨?_, ?h⟩
  case h =>
    walk_at "asg"
    walk_at "asg"
    walk_at "asg"
    walk_at "setif"
    walk_at "setif"
    walk_at "setif"
    walk_at "setif"
    walk_at "setif"
    walk_at "setif"
    refine' EX.ret (EX1.ret (EV.tupD ?k1 ?k2))
    case k1 => show EVs _ _ _ _ _ _ _ _ [PV.sc _, PV.sc _, PV.sc _]; walk_at "evs"
    case k2 => exact Nat.le_of_ble_eq_true rfl
end Mine
end

/-! part PL4 -/
section
set_option maxRecDepth 100000
set_option linter.unusedVariables false
set_option linter.unusedSimpArgs false
set_option exponentiation.threshold 3000
namespace Mine
open PySem PySem.Float64

theorem Nq.frac {a : Int} (h0 : -600 ≤ a) (h1 : a ≤ 600) : Nq (divII a 600) (a * 255470000) 200 := by
  obtain ⟨hf, he⟩ := frac_err (neg := (decide (a < 0) != decide ((600 : Int) < 0))) (n := a.natAbs) (d := 600) (k := 0) (by decide) (by decide) (by omega)
  have hz : divII a 600 = ofFrac (decide (a < 0) != decide ((600 : Int) < 0)) a.natAbs 600 := rfl
  rw [hz]
  generalize ofFrac (decide (a < 0) != decide ((600 : Int) < 0)) a.natAbs 600 = x at *
  have hs : sgn (decide (a < 0) != decide ((600 : Int) < 0)) a.natAbs = a := by
    unfold sgn
    by_cases q : a < 0
    · simp [q]; omega
    · simp [q]; omega
  rw [hs] at he
  obtain ⟨p, ep, p0, p1⟩ := ap_spec x
  have hu := U_pos
  have eb := B_eq
  have ee := unit_e 0
  rw [ep, eb] at he
  have he' : ((600 : Int) * (ap x * U + p) - a * (1152921504606846976 * U)).natAbs ≤ 600 * (128 * U) := by
    have : ((2 ^ (7 + 0) : Nat) : Int) = 128 := by decide
    rw [this] at ee
    have e3 : (((2 ^ 60 : Nat) : Int)) = 1152921504606846976 := by decide
    rw [e3] at he
    have e4 : (((600 : Nat) : Int)) = 600 := rfl
    rw [e4] at he
    omega
  have l1 : (600 * ap x - a * 1152921504606846976) * U ≤ (600 * 128) * U := by
    rw [Int.sub_mul, Int.mul_assoc, Int.mul_assoc, Int.mul_assoc]; omega
  have l2 : (-(600 * ap x - a * 1152921504606846976)) * U ≤ (600 * 128 + 600) * U := by
    rw [Int.neg_mul, Int.sub_mul, Int.mul_assoc, Int.mul_assoc, Int.add_mul, Int.mul_assoc]; omega
  have l3 := Int.le_of_mul_le_mul_right l1 hu
  have l4 := Int.le_of_mul_le_mul_right l2 hu
  refine ⟨hf, ?_, ?_⟩ <;> omega

/-- rgb_to_yiq -/
def lumF (r g b : UInt64) : UInt64 := add (add (mul 4599075939470750515 r) (mul 4603489467105573601 g)) (mul 4592590756007337001 b)
def iF (r b y : UInt64) : UInt64 := sub (mul 4604840546993784750 (sub r y)) (mul 4598535507515466056 (sub b y))
def qF (r b y : UInt64) : UInt64 := add (mul 4602318531202457272 (sub r y)) (mul 4601057523306793533 (sub b y))

theorem Nq.lum {R G B : Int} (hR : 0 ≤ R ∧ R ≤ 600) (hG : 0 ≤ G ∧ G ≤ 600) (hB : 0 ≤ B ∧ B ≤ 600) :
    Nq (lumF (divII R 600) (divII G 600) (divII B 600)) ((30 * R + 59 * G + 11 * B) * 2554700) 4628 := by
  have r := Nq.frac (a := R) (by omega) (by omega)
  have g := Nq.frac (a := G) (by omega) (by omega)
  have b := Nq.frac (a := B) (by omega) (by omega)
  have r1 := Nq.k30 (N' := 30 * R * 2554700) r (by omega) (by omega) (by omega)
  have g1 := Nq.k59 (N' := 59 * G * 2554700) g (by omega) (by omega) (by omega)
  have b1 := Nq.k11 (N' := 11 * B * 2554700) b (by omega) (by omega) (by omega)
  have z := (r1.add g1 (by omega) (by omega)).add b1 (by omega) (by omega)
  have e : 30 * R * 2554700 + 59 * G * 2554700 + 11 * B * 2554700 = (30 * R + 59 * G + 11 * B) * 2554700 := by omega
  rw [e] at z
  exact z
theorem Nq.iq {R G B : Int} (hR : 0 ≤ R ∧ R ≤ 600) (hG : 0 ≤ G ∧ G ≤ 600) (hB : 0 ≤ B ∧ B ≤ 600) :
    Nq (iF (divII R 600) (divII B 600) (lumF (divII R 600) (divII G 600) (divII B 600))) ((5990 * R - 2773 * G - 3217 * B) * 25547) 13198 ∧
    Nq (qF (divII R 600) (divII B 600) (lumF (divII R 600) (divII G 600) (divII B 600))) ((2130 * R - 5251 * G + 3121 * B) * 25547) 13198 := by
  have r := Nq.frac (a := R) (by omega) (by omega)
  have b := Nq.frac (a := B) (by omega) (by omega)
  have y := Nq.lum hR hG hB
  unfold iF qF
  generalize lumF (divII R 600) (divII G 600) (divII B 600) = Y at *
  have ry := r.sub y (by omega) (by omega)
  have by' := b.sub y (by omega) (by omega)
  have e1 : R * 255470000 - (30 * R + 59 * G + 11 * B) * 2554700 = (70 * R - 59 * G - 11 * B) * 2554700 := by omega
  have e2 : B * 255470000 - (30 * R + 59 * G + 11 * B) * 2554700 = (89 * B - 30 * R - 59 * G) * 2554700 := by omega
  rw [e1] at ry
  rw [e2] at by'
  generalize Float64.sub (divII R 600) Y = X at *
  generalize Float64.sub (divII B 600) Y = Z at *
  have i1 := Nq.k74 (N' := 74 * (70 * R - 59 * G - 11 * B) * 25547) ry (by omega) (by omega) (by omega)
  have i2 := Nq.k27 (N' := 27 * (89 * B - 30 * R - 59 * G) * 25547) by' (by omega) (by omega) (by omega)
  have q1 := Nq.k48 (N' := 48 * (70 * R - 59 * G - 11 * B) * 25547) ry (by omega) (by omega) (by omega)
  have q2 := Nq.k41 (N' := 41 * (89 * B - 30 * R - 59 * G) * 25547) by' (by omega) (by omega) (by omega)
  have i := i1.sub i2 (by omega) (by omega)
  have q := q1.add q2 (by omega) (by omega)
  have e3 : 74 * (70 * R - 59 * G - 11 * B) * 25547 - 27 * (89 * B - 30 * R - 59 * G) * 25547 = (5990 * R - 2773 * G - 3217 * B) * 25547 := by omega
  have e4 : 48 * (70 * R - 59 * G - 11 * B) * 25547 + 41 * (89 * B - 30 * R - 59 * G) * 25547 = (2130 * R - 5251 * G + 3121 * B) * 25547 := by omega
  rw [e3] at i
  rw [e4] at q
  exact ⟨i, q⟩
theorem Nq.weak {x : UInt64} {N e f : Int} (a : Nq x N e) (h : e ≤ f) : Nq x N f := ⟨a.1, by have := a.2.1; omega, by have := a.2.2; omega⟩
/-- the painted parts -/
def wayY (R G B : Int) : UInt64 := lumF (divII R 600) (divII G 600) (divII B 600)
def wayI (R G B : Int) : UInt64 := iF (divII R 600) (divII B 600) (wayY R G B)
def wayQ (R G B : Int) : UInt64 := qF (divII R 600) (divII B 600) (wayY R G B)
def cl (n : Int) : Int := max 0 (min n 600)
theorem Nq.clampF {x : UInt64} {N n e : Int} (a : Nq x N e) (he : 0 ≤ e) (hN : N = n * 255470000) : Nq (Mine.clampF x) (cl n * 255470000) e := by
  have h := (a.clamp0 he).clamp1 he
  have e1 : min (max N 0) 153282000000 = cl n * 255470000 := by unfold cl; omega
  rw [e1] at h
  exact h
theorem paintedR {R G B s : Int} (hR : 0 ≤ R ∧ R ≤ 600) (hG : 0 ≤ G ∧ G ≤ 600) (hB : 0 ≤ B ∧ B ≤ 600) (hs : -600 ≤ s ∧ s ≤ 600) :
    Nq (clampF (yiqR (add (wayY R G B) (divII s 600)) (wayI R G B) (wayQ R G B))) (cl (R + s) * 255470000) 40000 := by
  have y := (Nq.lum hR hG hB).add (Nq.frac hs.1 hs.2) (by omega) (by omega)
  obtain ⟨i, q⟩ := Nq.iq hR hG hB
  have i1 := Nq.c1 (N' := 24190 * (5990 * R - 2773 * G - 3217 * B)) i (by omega) (by omega) (by omega)
  have q1 := Nq.c2 (N' := 15930 * (2130 * R - 5251 * G + 3121 * B)) q (by omega) (by omega) (by omega)
  have z := (y.add i1 (by omega) (by omega)).add q1 (by omega) (by omega)
  have z2 := Nq.clampF (n := R + s) z (by omega) (by omega)
  exact z2.weak (by omega)
theorem paintedG {R G B s : Int} (hR : 0 ≤ R ∧ R ≤ 600) (hG : 0 ≤ G ∧ G ≤ 600) (hB : 0 ≤ B ∧ B ≤ 600) (hs : -600 ≤ s ∧ s ≤ 600) :
    Nq (clampF (yiqG (add (wayY R G B) (divII s 600)) (wayI R G B) (wayQ R G B))) (cl (G + s) * 255470000) 40000 := by
  have y := (Nq.lum hR hG hB).add (Nq.frac hs.1 hs.2) (by omega) (by omega)
  obtain ⟨i, q⟩ := Nq.iq hR hG hB
  have i1 := Nq.c3 (N' := 7020 * (5990 * R - 2773 * G - 3217 * B)) i (by omega) (by omega) (by omega)
  have q1 := Nq.c4 (N' := 16240 * (2130 * R - 5251 * G + 3121 * B)) q (by omega) (by omega) (by omega)
  have z := (y.sub i1 (by omega) (by omega)).sub q1 (by omega) (by omega)
  have z2 := Nq.clampF (n := G + s) z (by omega) (by omega)
  exact z2.weak (by omega)
theorem paintedB {R G B s : Int} (hR : 0 ≤ R ∧ R ≤ 600) (hG : 0 ≤ G ∧ G ≤ 600) (hB : 0 ≤ B ∧ B ≤ 600) (hs : -600 ≤ s ∧ s ≤ 600) :
    Nq (clampF (yiqB (add (wayY R G B) (divII s 600)) (wayI R G B) (wayQ R G B))) (cl (B + s) * 255470000) 70000 := by
  have y := (Nq.lum hR hG hB).add (Nq.frac hs.1 hs.2) (by omega) (by omega)
  obtain ⟨i, q⟩ := Nq.iq hR hG hB
  have i1 := Nq.c5 (N' := 28320 * (5990 * R - 2773 * G - 3217 * B)) i (by omega) (by omega) (by omega)
  have q1 := Nq.c6 (N' := 43660 * (2130 * R - 5251 * G + 3121 * B)) q (by omega) (by omega) (by omega)
  have z := (y.sub i1 (by omega) (by omega)).add q1 (by omega) (by omega)
  have z2 := Nq.clampF (n := B + s) z (by omega) (by omega)
  exact z2.weak (by omega)
end Mine
end

/-! part PL5 -/
section
set_option maxRecDepth 100000
set_option linter.unusedVariables false
set_option linter.unusedSimpArgs false
set_option exponentiation.threshold 3000
namespace Mine
open PySem PySem.Float64

/-- a double that bears n -/
def IntF (x : UInt64) (n : Nat) : Prop := Fin1 x ∧ val x = ((n * 1152921504606846976 : Nat) : Int) * U
theorem IntF.of {x : UInt64} {n : Nat} (h1 : (match decode x with | .fin .. => true | _ => false) = true) (h2 : val x = (((n * 1152921504606846976) * 2 ^ 1014 : Nat) : Int)) : IntF x n := ⟨fin1_of h1, val_of h2⟩
theorem int1 : IntF (ofInt 1) 1 := IntF.of (by decide +kernel) (by decide +kernel)
theorem int2 : IntF (ofInt 2) 2 := IntF.of (by decide +kernel) (by decide +kernel)
theorem int3 : IntF (ofInt 3) 3 := IntF.of (by decide +kernel) (by decide +kernel)
theorem int4 : IntF (ofInt 4) 4 := IntF.of (by decide +kernel) (by decide +kernel)
theorem int5 : IntF (ofInt 5) 5 := IntF.of (by decide +kernel) (by decide +kernel)
theorem int6 : IntF (ofInt 6) 6 := IntF.of (by decide +kernel) (by decide +kernel)
theorem int600 : IntF (ofInt 600) 600 := IntF.of (by decide +kernel) (by decide +kernel)
theorem int1800 : IntF (ofInt 1800) 1800 := IntF.of (by decide +kernel) (by decide +kernel)
theorem intBig : IntF (ofInt 1073741824) 1073741824 := IntF.of (by decide +kernel) (by decide +kernel)

theorem ap_mulN {x c : UInt64} {n : Nat} (k : Nat) (hc : IntF c n) (hx : Fin1 x) (hk : k ≤ 900) (hb : n * ((ap x).natAbs + 1) ≤ 2 ^ (60 + k)) :
    Fin1 (mul x c) ∧ (ap (mul x c) - n * ap x).natAbs ≤ 2 ^ (7 + k) + n + 2 := by
  have e1 : (2 : Nat) ^ (120 + k) = 2 ^ 60 * 2 ^ (60 + k) := by rw [← Nat.pow_add]; congr 1; omega
  have e2 : (2 : Nat) ^ (67 + k) = 2 ^ 60 * 2 ^ (7 + k) := by rw [← Nat.pow_add]; congr 1; omega
  obtain ⟨_, h1, h2⟩ := ap_mul (C := n * 1152921504606846976) k hc.1 hc.2 hx hk (by
    rw [e1, Nat.mul_comm n, Nat.mul_assoc]
    exact Nat.mul_le_mul (by decide) hb)
  refine ⟨h1, ?_⟩
  rw [e2] at h2
  have e3 : (((n * 1152921504606846976 : Nat)) : Int) * ap x = 1152921504606846976 * (n * ap x) := by
    rw [Int.natCast_mul, Int.mul_comm (n : Int), Int.mul_assoc]; rfl
  rw [e3] at h2
  generalize (n : Int) * ap x = t at *
  generalize (2 : Nat) ^ (7 + k) = P at *
  have e4 : (2 : Int) ^ 60 = 1152921504606846976 := by decide
  have e5 : (2 : Nat) ^ 60 = 1152921504606846976 := by decide
  rw [e4, e5] at h2
  omega
theorem ap_divN {x c : UInt64} {n : Nat} (k : Nat) (hn : 0 < n) (hc : IntF c n) (hx : Fin1 x) (hk : k ≤ 900) (hb : (ap x).natAbs + 1 ≤ n * 2 ^ (60 + k)) :
    Fin1 (div x c) ∧ (n * ap (div x c) - ap x).natAbs ≤ n * 2 ^ (7 + k) + n + 1 := by
  have hu := U_pos
  have hn' : (0 : Int) < n := Int.ofNat_lt.mpr hn
  have hv : val c = n * 2 ^ 1074 := by
    rw [hc.2, B_eq, Int.natCast_mul, Int.mul_assoc]
  have hB : (0 : Int) < 2 ^ 1074 := Int.pow_pos (by decide)
  obtain ⟨p, ep, p0, p1⟩ := ap_spec x
  have hpos : 0 < val c := by rw [hv]; exact Int.mul_pos hn' hB
  have hvn : (val c).natAbs = n * 2 ^ 1074 := by
    rw [hv, Int.natAbs_mul]; rfl
  obtain ⟨hf, he⟩ := div_err (k := k) hx hc.1 hpos hk (by
    rw [hvn, Nat.mul_assoc, ← Nat.pow_add]
    have e : ((n * 2 ^ (1074 + k) : Nat) : Int) = ((n * 2 ^ (60 + k) : Nat) : Int) * U := by
      rw [Int.natCast_mul, Int.natCast_mul, unit_b, Int.mul_assoc]
    have h1 : ap x * U ≤ (((n * 2 ^ (60 + k) : Nat) : Int) - 1) * U := Int.mul_le_mul_of_nonneg_right (by omega) (Int.le_of_lt hu)
    have h2 : (-(((n * 2 ^ (60 + k) : Nat) : Int))) * U ≤ ap x * U := Int.mul_le_mul_of_nonneg_right (by omega) (Int.le_of_lt hu)
    rw [Int.sub_mul] at h1
    rw [Int.neg_mul] at h2
    omega)
  refine ⟨hf, ?_⟩
  obtain ⟨r, er, r0, r1⟩ := ap_spec (div x c)
  rw [hvn, hv] at he
  have e3 : (n : Int) * 2 ^ 1074 * val (div x c) - 2 ^ 1074 * val x = 2 ^ 1074 * (n * val (div x c) - val x) := by
    rw [Int.mul_sub, Int.mul_comm (n : Int), Int.mul_assoc]
  rw [e3, Int.natAbs_mul, Nat.mul_comm n, Nat.mul_assoc, ← Nat.mul_assoc 2] at he
  have e4 : ((2 : Int) ^ 1074).natAbs = 2 ^ 1074 := rfl
  rw [e4, Nat.mul_comm 2, Nat.mul_assoc] at he
  have he2 := Nat.le_of_mul_le_mul_left he (Nat.two_pow_pos 1074)
  have e5 : ((n * 2 ^ (1022 + k) : Nat) : Int) = 2 * (((n * 2 ^ (7 + k) : Nat) : Int) * U) := by
    rw [Int.natCast_mul, Int.natCast_mul, unit_e, Int.mul_left_comm, Int.mul_assoc]
  have he3 : ((n * val (div x c) - val x).natAbs : Int) ≤ ((n * 2 ^ (7 + k) : Nat) : Int) * U := by omega
  rw [er, ep, Int.mul_add, ← Int.mul_assoc] at he3
  have hr1 : (n : Int) * r ≤ n * U := Int.mul_le_mul_of_nonneg_left (Int.le_of_lt r1) (by omega)
  have hr0 : 0 ≤ (n : Int) * r := Int.mul_nonneg (by omega) r0
  have l1 : (n * ap (div x c) - ap x) * U ≤ (((n * 2 ^ (7 + k) : Nat) : Int) + 1) * U := by
    rw [Int.sub_mul, Int.add_mul]; omega
  have l2 : (-(n * ap (div x c) - ap x)) * U ≤ (((n * 2 ^ (7 + k) : Nat) : Int) + n) * U := by
    rw [Int.neg_mul, Int.sub_mul, Int.add_mul]; omega
  have l3 := Int.le_of_mul_le_mul_right l1 hu
  have l4 := Int.le_of_mul_le_mul_right l2 hu
  omega

/-- rounding -/
theorem round_is {x : UInt64} {N : Int} (hx : Fin1 x) (h : (ap x - N * 1152921504606846976).natAbs ≤ 576460752303423480) : PySem.Flt.toInt nearestOf x = N := by
  obtain ⟨s, m, e, hd⟩ := hx
  have hu := U_pos
  obtain ⟨p, ep, p0, p1⟩ := ap_spec x
  have hb := B_eq
  have e1 : ((2 ^ 60 : Nat) : Int) = 1152921504606846976 := by decide
  rw [e1] at hb
  have key : 2 * (val x - N * 2 ^ 1074).natAbs < 2 ^ 1074 := by
    rw [ep, hb, ← Int.mul_assoc]
    have l1 : (ap x - N * 1152921504606846976) * U ≤ 576460752303423480 * U := Int.mul_le_mul_of_nonneg_right (by omega) (Int.le_of_lt hu)
    have l2 : (-(ap x - N * 1152921504606846976)) * U ≤ 576460752303423480 * U := Int.mul_le_mul_of_nonneg_right (by omega) (Int.le_of_lt hu)
    rw [Int.neg_mul, Int.sub_mul] at l2
    rw [Int.sub_mul] at l1
    have e2 : (((2 ^ 1074 : Nat)) : Int) = 1152921504606846976 * U := by rw [← hb]; simp
    omega
  rw [PySem.Flt.toInt_fin hd]
  exact nearest_is hd key
end Mine
end

/-! part PL6 -/
section
set_option maxRecDepth 100000
set_option linter.unusedVariables false
set_option linter.unusedSimpArgs false
set_option exponentiation.threshold 3000
namespace Mine
open PySem PySem.Float64

theorem zero_dec (t : Bool) : decode (zero t) = .fin t 0 (-1074) := by cases t <;> kernel_rfl
theorem fma_err {x y z : UInt64} {k : Nat} (hx : Fin1 x) (hy : Fin1 y) (hz : Fin1 z) (hk : k ≤ 900) (hb : (val x * val y + val z * 2 ^ 1074).natAbs ≤ 2 ^ 1074 * 2 ^ (1074 + k)) :
    Fin1 (fma x y z) ∧ 2 * (2 ^ 1074 * val (fma x y z) - (val x * val y + val z * 2 ^ 1074)).natAbs ≤ 2 ^ 1074 * 2 ^ (1022 + k) := by
  obtain ⟨a, m, e, hx⟩ := hx
  obtain ⟨b, j, f, hy⟩ := hy
  obtain ⟨c, n, g, hz⟩ := hz
  have he := decode_ge hx
  have hf := decode_ge hy
  have hg := decode_ge hz
  have hdef : fma x y z = (let p := sgn (a != b) (m * j * 2 ^ (e + f - min (e + f) g).toNat); let q := sgn c (n * 2 ^ (g - min (e + f) g).toNat);
      if p + q == 0 then zero (if m * j == 0 && n == 0 then (a != b) && c else false) else ofBin (decide (p + q < 0)) (p + q).natAbs (min (e + f) g)) := by
    unfold fma
    rw [hx, hy, hz]
    rfl
  have hp : (sgn (a != b) (m * j * 2 ^ (e + f - min (e + f) g).toNat) + sgn c (n * 2 ^ (g - min (e + f) g).toNat)) * ((2 ^ (min (e + f) g + 2148).toNat : Nat) : Int) = val x * val y + val z * 2 ^ 1074 := by
    rw [Int.add_mul, ← sgn_mul, ← sgn_mul, val_eq hx, val_eq hy, val_eq hz, ← sgn_prod, Nat.mul_assoc (m * j), ← Nat.pow_add, Nat.mul_assoc n, ← Nat.pow_add]
    have e1 : (e + f - min (e + f) g).toNat + (min (e + f) g + 2148).toNat = (e + 1074).toNat + (f + 1074).toNat := by omega
    have e2 : (g - min (e + f) g).toNat + (min (e + f) g + 2148).toNat = (g + 1074).toNat + 1074 := by omega
    rw [e1, e2, Nat.pow_add, Nat.pow_add]
    have e3 : m * j * (2 ^ (e + 1074).toNat * 2 ^ (f + 1074).toNat) = m * 2 ^ (e + 1074).toNat * (j * 2 ^ (f + 1074).toNat) := by
      simp only [Nat.mul_assoc, Nat.mul_left_comm]
    have e4 : sgn c (n * (2 ^ (g + 1074).toNat * 2 ^ 1074)) = sgn c (n * 2 ^ (g + 1074).toNat) * 2 ^ 1074 := by
      rw [← Nat.mul_assoc, sgn_mul]; simp
    rw [e3, e4]
  simp only at hdef
  generalize sgn (a != b) (m * j * 2 ^ (e + f - min (e + f) g).toNat) + sgn c (n * 2 ^ (g - min (e + f) g).toNat) = s at *
  have hpos : (0 : Int) < ((2 ^ (min (e + f) g + 2148).toNat : Nat) : Int) := Int.ofNat_lt.mpr (Nat.two_pow_pos _)
  by_cases h0 : s = 0
  · rw [hdef, h0, if_pos (by rfl)]
    rw [← hp, h0, Int.zero_mul]
    generalize (if (m * j == 0 && n == 0) = true then (a != b) && c else false) = t
    have hd : decode (zero t) = .fin t 0 (-1074) := zero_dec t
    have hv : val (zero t) = 0 := by rw [val_eq hd]; cases t <;> rfl
    refine ⟨⟨_, _, _, hd⟩, ?_⟩
    rw [hv]; exact Nat.zero_le _
  · have hr : Right (fma x y z) (decide (s < 0)) (s.natAbs * 2 ^ (min (e + f) g + 2148).toNat) (2 ^ 1074) := by
      rw [hdef, if_neg (by simpa using h0)]
      unfold ofBin
      refine ofFrac_right (shift_pos _ _ _ (by decide)) ?_ (Nat.two_pow_pos _)
      have := shift_one s.natAbs (min (e + f) g) 2148 (by omega)
      rw [Nat.mul_assoc, ← Nat.pow_add]
      exact this
    have hW : s.natAbs * 2 ^ (min (e + f) g + 2148).toNat = (val x * val y + val z * 2 ^ 1074).natAbs := by rw [← hp, Int.natAbs_mul, Int.natAbs_natCast]
    rw [hW] at hr
    obtain ⟨m', e', hd, hh⟩ := right_err hr (Nat.two_pow_pos _) hk hb
    refine ⟨⟨_, _, _, hd⟩, ?_⟩
    have : sgn (decide (s < 0)) (val x * val y + val z * 2 ^ 1074).natAbs = val x * val y + val z * 2 ^ 1074 := by
      rw [← hp]
      unfold sgn
      by_cases q : s < 0
      · have := Int.mul_neg_of_neg_of_pos q hpos
        simp only [q, decide_true, if_true]; omega
      · have := Int.mul_nonneg (Int.not_lt.mp q) (Int.le_of_lt hpos)
        simp only [q, decide_false, Bool.false_eq_true, if_false]; omega
    rw [this] at hh
    have e2 : (((2 ^ 1074 : Nat) : Int)) = 2 ^ 1074 := by simp
    rw [e2] at hh
    exact hh

theorem neg_fin {x : UInt64} (hx : Fin1 x) : Fin1 (neg x) ∧ val (neg x) = -val x := by
  obtain ⟨a, m, e, hx⟩ := hx
  exact ⟨⟨_, _, _, neg_decode hx⟩, neg_val hx⟩

/-- what a product leaves -/
theorem ap_rest {x c : UInt64} {n : Nat} (hc : IntF c n) (hx : Fin1 x) (hb : n * ((ap x).natAbs + 1) ≤ 2 ^ 62) :
    Fin1 (fma x c (neg (mul x c))) ∧ (ap (fma x c (neg (mul x c)))).natAbs ≤ 1100 := by
  have hu := U_pos
  have hmul : Fin1 (mul x c) ∧ 2 * (2 ^ 1074 * val (mul x c) - val x * val c).natAbs ≤ 2 ^ 1074 * 2 ^ (1022 + 2) := by
    refine mul_err hx hc.1 (by decide) ?_
    rw [hc.2, Int.natAbs_mul]
    obtain ⟨p, ep, p0, p1⟩ := ap_spec x
    have e1 : ((((n * 1152921504606846976 : Nat) : Int) * U)).natAbs = n * 1152921504606846976 * 2 ^ 1014 := by rw [Int.natAbs_mul, U_nat]; rfl
    rw [e1]
    have h2 : (val x).natAbs ≤ ((ap x).natAbs + 1) * 2 ^ 1014 := by
      have h1 : (ap x) * U ≤ ((ap x).natAbs : Int) * U := Int.mul_le_mul_of_nonneg_right (by omega) (Int.le_of_lt hu)
      have h2 : (-((ap x).natAbs : Int)) * U ≤ (ap x) * U := Int.mul_le_mul_of_nonneg_right (by omega) (Int.le_of_lt hu)
      rw [Int.neg_mul] at h2
      have e : ((((ap x).natAbs + 1) * 2 ^ 1014 : Nat) : Int) = ((ap x).natAbs : Int) * U + U := by
        rw [Int.natCast_mul, ← U_nat, Int.natCast_add, Int.add_mul]; simp
      omega
    refine Nat.le_trans (Nat.mul_le_mul_right _ h2) ?_
    have e3 : ((ap x).natAbs + 1) * 2 ^ 1014 * (n * 1152921504606846976 * 2 ^ 1014) = (n * ((ap x).natAbs + 1)) * (2 ^ 60 * 2 ^ 1014 * 2 ^ 1014) := by
      have : (1152921504606846976 : Nat) = 2 ^ 60 := by decide
      rw [this]
      simp only [Nat.mul_assoc, Nat.mul_comm, Nat.mul_left_comm]
    rw [e3]
    refine Nat.le_trans (Nat.mul_le_mul_right _ hb) ?_
    simp only [← Nat.pow_add]
    exact Nat.pow_le_pow_right (by decide) (by decide)
  obtain ⟨hm, he⟩ := hmul
  obtain ⟨hn, ev⟩ := neg_fin hm
  have e0 : val x * val c + val (neg (mul x c)) * 2 ^ 1074 = -(2 ^ 1074 * val (mul x c) - val x * val c) := by
    rw [ev, Int.neg_mul, Int.mul_comm (val (mul x c))]; omega
  have hs : 2 * (val x * val c + val (neg (mul x c)) * 2 ^ 1074).natAbs ≤ 2 ^ 1074 * 2 ^ (1022 + 2) := by rw [e0, Int.natAbs_neg]; exact he
  obtain ⟨hf, hh⟩ := fma_err (k := 0) hx hc.1 hn (by decide) (by
    have : (2 : Nat) ^ 1074 * 2 ^ (1022 + 2) ≤ 2 ^ 1074 * 2 ^ (1074 + 0) := Nat.mul_le_mul_left _ (Nat.pow_le_pow_right (by decide) (by decide))
    omega)
  refine ⟨hf, ?_⟩
  generalize val x * val c + val (neg (mul x c)) * 2 ^ 1074 = S at *
  obtain ⟨p, ep, p0, p1⟩ := ap_spec (fma x c (neg (mul x c)))
  have h3 : 2 * (2 ^ 1074 * val (fma x c (neg (mul x c)))).natAbs ≤ 2 ^ 1074 * (2 ^ (1022 + 0) + 2 ^ (1022 + 2)) := by
    rw [Nat.mul_add]; omega
  rw [Int.natAbs_mul, Nat.mul_left_comm] at h3
  have e4 : ((2 : Int) ^ 1074).natAbs = 2 ^ 1074 := rfl
  rw [e4] at h3
  have h4 := Nat.le_of_mul_le_mul_left h3 (Nat.two_pow_pos 1074)
  have u0 := unit_e 0
  have u2 := unit_e 2
  have v0 : ((2 ^ (7 + 0) : Nat) : Int) = 128 := by decide
  have v2 : ((2 ^ (7 + 2) : Nat) : Int) = 512 := by decide
  rw [v0] at u0
  rw [v2] at u2
  rw [ep] at h4
  generalize ap (fma x c (neg (mul x c))) = t at *
  have l1 : t * U ≤ 640 * U := by omega
  have l2 : (-t) * U ≤ 641 * U := by rw [Int.neg_mul]; omega
  have l3 := Int.le_of_mul_le_mul_right l1 hu
  have l4 := Int.le_of_mul_le_mul_right l2 hu
  omega
end Mine
end

/-! part PL7 -/
section
set_option maxRecDepth 100000
set_option linter.unusedVariables false
set_option linter.unusedSimpArgs false
set_option exponentiation.threshold 3000
namespace Mine
open PySem PySem.Float64 PySem.Builtin.Math

theorem dlSum_big {a b : UInt64} (fa : Fin1 a) (fb : Fin1 b) (h : (ap a).natAbs + (ap b).natAbs ≤ 9000000000000000000) :
    Fin1 (dlSum a b).1 ∧ Fin1 (dlSum a b).2 ∧ (ap (dlSum a b).1 - (ap a + ap b)).natAbs ≤ 1026 ∧ (ap (dlSum a b).2).natAbs ≤ 3000 := by
  obtain ⟨f1, h1⟩ := ap_add 3 fa fb (by decide) (by omega)
  obtain ⟨f2, h2⟩ := ap_sub 3 f1 fa (by decide) (by omega)
  obtain ⟨f3, h3⟩ := ap_sub 3 f1 f2 (by decide) (by omega)
  obtain ⟨f4, h4⟩ := ap_sub 0 fa f3 (by decide) (by omega)
  obtain ⟨f5, h5⟩ := ap_sub 0 fb f2 (by decide) (by omega)
  obtain ⟨f6, h6⟩ := ap_add 0 f4 f5 (by decide) (by omega)
  exact ⟨f1, f6, by show (ap (add a b) - _).natAbs ≤ _; omega, by show (ap (add _ _)).natAbs ≤ _; omega⟩
theorem dlSum_small {a b : UInt64} (fa : Fin1 a) (fb : Fin1 b) (h : (ap a).natAbs + (ap b).natAbs ≤ 1000000000000000000) :
    Fin1 (dlSum a b).1 ∧ Fin1 (dlSum a b).2 ∧ (ap (dlSum a b).1 - (ap a + ap b)).natAbs ≤ 130 ∧ (ap (dlSum a b).2).natAbs ≤ 700 := by
  obtain ⟨f1, h1⟩ := ap_add 0 fa fb (by decide) (by omega)
  obtain ⟨f2, h2⟩ := ap_sub 0 f1 fa (by decide) (by omega)
  obtain ⟨f3, h3⟩ := ap_sub 0 f1 f2 (by decide) (by omega)
  obtain ⟨f4, h4⟩ := ap_sub 0 fa f3 (by decide) (by omega)
  obtain ⟨f5, h5⟩ := ap_sub 0 fb f2 (by decide) (by omega)
  obtain ⟨f6, h6⟩ := ap_add 0 f4 f5 (by decide) (by omega)
  exact ⟨f1, f6, by show (ap (add a b) - _).natAbs ≤ _; omega, by show (ap (add _ _)).natAbs ≤ _; omega⟩

/-- a weight -/
def Wgt (c : UInt64) (n : Nat) : Prop := IntF c n ∧ (n = 1 ∨ n = 2)
abbrev Three := UInt64 × UInt64 × UInt64
structure Tl (t : Three) (T e E : Int) : Prop where
  f1 : Fin1 t.1
  f2 : Fin1 t.2.1
  f3 : Fin1 t.2.2
  a1 : (ap t.1 - T).natAbs ≤ e
  a2 : (ap t.2.1).natAbs ≤ E
  a3 : (ap t.2.2).natAbs ≤ E
theorem two_sided {t n : Int} (h : (t.natAbs : Int) ≤ n) : -n ≤ t ∧ t ≤ n := by omega
theorem two_sidedN {t : Int} {n : Nat} (h : t.natAbs ≤ n) : -(n : Int) ≤ t ∧ t ≤ n := by omega
theorem of_two {t n : Int} (h : -n ≤ t) (h' : t ≤ n) : (t.natAbs : Int) ≤ n := by omega
theorem tl_step {x c : UInt64} {n : Nat} {t : Three} {T e E : Int} (hc : Wgt c n) (hx : Fin1 x) (hx0 : -100000 ≤ ap x) (hx1 : ap x ≤ 1152921504607000000) (ht : Tl t T e E) (hT : T.natAbs ≤ 4611686018528387904) (he : e ≤ 1000000) (hE : E ≤ 1000000) :
    Tl (tlFma x c t) (T + n * ap x) (e + 2000) (E + 5000) := by
  obtain ⟨hi, hn⟩ := hc
  obtain ⟨f1, f2, f3, a1, a2, a3⟩ := ht
  have hb : n * ((ap x).natAbs + 1) ≤ 2 ^ 62 := by rcases hn with rfl | rfl <;> omega
  have hnb : (n * ap x).natAbs ≤ 2305843009214000000 := by rcases hn with rfl | rfl <;> simp <;> omega
  have hn2 : n ≤ 2 := by omega
  obtain ⟨m1, m2⟩ := ap_mulN 2 hi hx (by decide) hb
  obtain ⟨r1, r2⟩ := ap_rest hi hx hb
  generalize (n : Int) * ap x = P at *
  have m3 : (ap (mul x c) - P).natAbs ≤ 516 := by omega
  obtain ⟨b1, b1'⟩ := two_sided a1
  obtain ⟨b2, b2'⟩ := two_sided a2
  obtain ⟨b3, b3'⟩ := two_sided a3
  obtain ⟨b4, b4'⟩ := two_sidedN hT
  obtain ⟨b5, b5'⟩ := two_sidedN hnb
  obtain ⟨b6, b6'⟩ := two_sidedN m3
  clear a1 a2 a3 hT hnb m3 m2 hb hx0 hx1
  obtain ⟨s1, s2, s3, s4⟩ := dlSum_big f1 m1 (by omega)
  obtain ⟨b7, b7'⟩ := two_sidedN s3
  clear s3
  have g1 : ((ap (dlSum t.1 (mul x c)).1 - (T + P)).natAbs : Int) ≤ e + 2000 := of_two (by omega) (by omega)
  clear b7 b7' b6 b6' b5 b5' b4 b4' b1 b1'
  obtain ⟨u1, u2, u3, u4⟩ := dlSum_small f2 r1 (by omega)
  have u5 : ((ap (dlSum t.2.1 (fma x c (neg (mul x c)))).1).natAbs : Int) ≤ E + 1300 := by omega
  clear u3
  obtain ⟨v1, v2, v3, v4⟩ := dlSum_small u1 s2 (by omega)
  have g2 : ((ap (dlSum (dlSum t.2.1 (fma x c (neg (mul x c)))).1 (dlSum t.1 (mul x c)).2).1).natAbs : Int) ≤ E + 5000 := by omega
  clear v3 u5 r2 s4 b2 b2'
  obtain ⟨w1, w2⟩ := ap_add 0 f3 u2 (by decide) (by omega)
  have w3 : ((ap (add t.2.2 (dlSum t.2.1 (fma x c (neg (mul x c)))).2)).natAbs : Int) ≤ E + 900 := by omega
  clear w2 u4 b3 b3'
  obtain ⟨z1, z2⟩ := ap_add 0 w1 v2 (by decide) (by omega)
  refine ⟨s1, v1, z1, by assumption, g2, ?_⟩
  show ((ap (add (add t.2.2 (dlSum t.2.1 (fma x c (neg (mul x c)))).2) (dlSum (dlSum t.2.1 (fma x c (neg (mul x c)))).1 (dlSum t.1 (mul x c)).2).2)).natAbs : Int) ≤ E + 5000
  omega
theorem tl_end {t : Three} {T e E : Int} (ht : Tl t T e E) (hT : T.natAbs ≤ 8000000000000000000) (he : e ≤ 1000000) (hE : E ≤ 1000000) :
    Fin1 (tlToFloat t) ∧ ((ap (tlToFloat t) - T).natAbs : Int) ≤ e + 2 * E + 7000 := by
  obtain ⟨f1, f2, f3, a1, a2, a3⟩ := ht
  obtain ⟨s1, s2, s3, s4⟩ := dlSum_big f2 f1 (by omega)
  obtain ⟨w1, w2⟩ := ap_add 0 f3 s2 (by decide) (by omega)
  obtain ⟨z1, z2⟩ := ap_add 3 w1 s1 (by decide) (by omega)
  refine ⟨z1, ?_⟩
  show ((ap (add (add t.2.2 (dlSum t.2.1 t.1).2) (dlSum t.2.1 t.1).1) - T).natAbs : Int) ≤ e + 2 * E + 7000
  omega
/-- sumprod of three floats by three ints -/
def tl3 (x1 c1 x2 c2 x3 c3 : UInt64) : Three := tlFma x3 c3 (tlFma x2 c2 (tlFma x1 c1 (0, 0, 0)))
def sumprodF (x1 c1 x2 c2 x3 c3 : UInt64) : UInt64 := add (ofInt 0) (tlToFloat (tl3 x1 c1 x2 c2 x3 c3))
theorem zero_apx : ap 0 = 0 := ap_of (C := 0) (by rw [zero_ap]; simp)
theorem ofInt0 : ofInt 0 = 0 := by decide +kernel
def Colour (x : UInt64) : Prop := Fin1 x ∧ -100000 ≤ ap x ∧ ap x ≤ 1152921504607000000
theorem tl_chain {x1 c1 x2 c2 x3 c3 : UInt64} {n1 n2 n3 : Nat} (w1 : Wgt c1 n1) (w2 : Wgt c2 n2) (w3 : Wgt c3 n3) (h1 : Colour x1) (h2 : Colour x2) (h3 : Colour x3) :
    Tl (tlFma x1 c1 (0, 0, 0)) (n1 * ap x1) 2000 5000 ∧ Tl (tlFma x2 c2 (tlFma x1 c1 (0, 0, 0))) (n1 * ap x1 + n2 * ap x2) 4000 10000 ∧ Tl (tl3 x1 c1 x2 c2 x3 c3) (n1 * ap x1 + n2 * ap x2 + n3 * ap x3) 6000 15000 := by
  have t0 : Tl (0, 0, 0) 0 0 0 := ⟨zero_fin, zero_fin, zero_fin, by simp [zero_apx], by simp [zero_apx], by simp [zero_apx]⟩
  have b : ∀ {x c : UInt64} {n : Nat}, Wgt c n → Colour x → (n * ap x).natAbs ≤ 2305843009214000000 := by
    intro x c n hw hx
    obtain ⟨_, a, b⟩ := hx
    rcases hw.2 with rfl | rfl <;> simp <;> omega
  have b1 := b w1 h1
  have b2 := b w2 h2
  have t1 := tl_step w1 h1.1 h1.2.1 h1.2.2 t0 (by decide) (by decide) (by decide)
  rw [Int.zero_add] at t1
  have t2 := tl_step w2 h2.1 h2.2.1 h2.2.2 t1 (by omega) (by decide) (by decide)
  have t3 := tl_step w3 h3.1 h3.2.1 h3.2.2 t2 (by omega) (by decide) (by decide)
  exact ⟨t1, t2, t3⟩
theorem sumprod_ap {x1 c1 x2 c2 x3 c3 : UInt64} {n1 n2 n3 : Nat} (w1 : Wgt c1 n1) (w2 : Wgt c2 n2) (w3 : Wgt c3 n3) (h1 : Colour x1) (h2 : Colour x2) (h3 : Colour x3) :
    Fin1 (sumprodF x1 c1 x2 c2 x3 c3) ∧ (ap (sumprodF x1 c1 x2 c2 x3 c3) - (n1 * ap x1 + n2 * ap x2 + n3 * ap x3)).natAbs ≤ 50000 := by
  obtain ⟨_, _, t3⟩ := tl_chain w1 w2 w3 h1 h2 h3
  have b : ∀ {x c : UInt64} {n : Nat}, Wgt c n → Colour x → (n * ap x).natAbs ≤ 2305843009214000000 := by
    intro x c n hw hx
    obtain ⟨_, a, b⟩ := hx
    rcases hw.2 with rfl | rfl <;> simp <;> omega
  have b1 := b w1 h1
  have b2 := b w2 h2
  have b3 := b w3 h3
  obtain ⟨e1, e2⟩ := tl_end t3 (by omega) (by decide) (by decide)
  obtain ⟨z1, z2⟩ := ap_add 3 zero_fin e1 (by decide) (by rw [zero_apx]; omega)
  rw [zero_apx] at z2
  unfold sumprodF
  rw [ofInt0]
  exact ⟨z1, by omega⟩
end Mine
end

/-! part G2 -/
section
set_option maxRecDepth 100000
set_option linter.unusedVariables false
namespace Mine
open PySem PySem.Calls PySem.W PyProof.Rows

def svBits : SV → UInt64
  | .flt x => x
  | .int n => Float64.ofInt n
  | _ => 0
/-- a number that a double bears -/
def Numb : SV → Prop
  | .flt _ => True
  | .int n => n.natAbs < 2 ^ 1023
  | _ => False
def fsumStep (ps : List UInt64) (x : UInt64) : List UInt64 := if Float64.isZero (Float64.fsumAdd ps x).2 then (Float64.fsumAdd ps x).1 else (Float64.fsumAdd ps x).1 ++ [(Float64.fsumAdd ps x).2]
def fsumAll : List UInt64 → List UInt64 → List UInt64
  | ps, [] => ps
  | ps, x :: xs => fsumAll (fsumStep ps x) xs
def fsumFin : List UInt64 → List UInt64 → Prop
  | _, [] => True
  | ps, x :: xs => Float64.isFinite (Float64.fsumAdd ps x).2 = true ∧ fsumFin (fsumStep ps x) xs
/-- fsum -/
def fsumF (xs : List UInt64) : UInt64 := Float64.fsumEnd (fsumAll [] xs)

theorem entry_fsum : entryFor table "math.fsum" = some Builtin.«math.fsum» := entryFor_of_fast (by kernel_rfl)
theorem entry_fsum_loop : entryFor table "math.fsum.loop" = some Builtin.«math.fsum.loop» := entryFor_of_fast (by kernel_rfl)
theorem plain_fsum : plainId "math.fsum" = true := by decide +kernel
theorem plain_fsum_loop : plainId "math.fsum.loop" = true := by decide +kernel
theorem kind_fsum : builtinKind "math.fsum" = none := by decide +kernel
theorem args_fsum (a : Value) : argsOk "math.fsum" ⟨[a], []⟩ := by unfold argsOk; kernel_rfl

def backBits (xs : List UInt64) : List UInt64 := ((xs.map fun x => rawInt x.toNat).toArray.toList.map fun v => match v with | Value.int i _ => i.toNat.toUInt64 | _ => 0)
theorem bits_back (xs : List UInt64) : backBits xs = xs := by
  unfold backBits
  induction xs with
  | nil => rfl
  | cons x xs ih =>
    simp only [List.map_cons, List.cons.injEq]
    refine ⟨?_, ih⟩
    show ((x.toNat : Int)).toNat.toUInt64 = x
    simp

section
variable {prog : Program} {w : World} {A : Around}
theorem realArg_sv {x : SV} {v : Value} {s : Shared} {Q : UInt64 → Shared → Prop} {E : Value → Shared → Prop} (hA : A.handled = none) (hn : Numb x) (i : IsS v x) (h : ∀ t', Q (svBits x) { s with toks := t' }) :
    wpAny (model prog w) A (Builtin.Math.realArg v) Q E s := by
  cases i with
  | none => cases hn
  | bool => cases hn
  | int n t =>
    refine PySem.Flt.realArg_int hA (fun o => absurd (PySem.Flt.inf_of_over o) (Float64.ofInt_fits hn)) fun _ => h _
  | flt x t =>
    unfold Builtin.Math.realArg
    refine wpAny_bind (wpAny_pure ?_)
    exact wpAny_pure (h s.toks)

theorem fsum_loop {R : Result → Shared → Prop} {I : Addr} {fp wr : List Addr} {P : Nat → Value → Prop} {St : Nat → Heap → Prop} {all : List SV} (hA : A.handled = none) (W : Walks prog w A.in1 I fp wr all.length P St)
    (hP : ∀ i v, P i v → ∃ x, all[i]? = some x ∧ IsS v x) (hnum : ∀ x ∈ all, Numb x) (sp : Addr) :
    ∀ (xs : List SV) (i : Nat) (ps : List UInt64) (pa : Addr) (s : Shared), all.drop i = xs → i ≤ all.length → St i s.heap →
    s.heap.get? pa = some { cls := .type "tuple", data := .seq (ps.map fun x => rawInt x.toNat).toArray } →
    s.heap.get? sp = some { cls := .type "tuple", data := .seq #[rawInt (Float64.zero false).toNat, rawInt (Float64.zero false).toNat] } → sp ∉ wr →
    ps.length + xs.length ≤ 100 → (∀ (ps : List UInt64) x, (fsumStep ps x).length ≤ ps.length + 1) →
    fsumFin ps (xs.map svBits) →
    (∀ h' tk t', (∀ b o, b ∉ wr → s.heap.get? b = some o → h'.get? b = some o) → R (.ok (.ret (.float (Float64.fsumEnd (fsumAll ps (xs.map svBits))) t'))) { s with heap := h', toks := tk }) →
    codeAny (model prog w) A (.builtin "math.fsum.loop" ⟨[.ref I, .ref pa, .ref sp], []⟩) R s := by
  intro xs
  induction xs with
  | nil =>
    intro i ps pa s hd hi hst hpa hsp hspw hlen hstep hfin hR
    have hin : i = all.length := by
      have := congrArg List.length hd
      simp at this; omega
    subst hin
    refine codeAny_builtin entry_fsum_loop ?_
    rw [Around.under_plainId plain_fsum_loop _]
    show wpAny _ A.in1 ((seqItems? (.ref pa) >>= _) >>= _) _ _ s
    refine wpAny_bind (wpAny_bind (wpAny_seqItems hpa rfl (wpAny_pure ?_)))
    show wpAny _ A.in1 ((seqItems? (.ref sp) >>= _) >>= _) _ _ s
    refine wpAny_bind (wpAny_bind (wpAny_seqItems hsp rfl (wpAny_pure ?_)))
    show wpAny _ A.in1 (pyNext (.ref I) >>= _) _ _ s
    refine wpAny_bind (W.done s _ _ hst fun h' tk hk' => ?_)
    have hb := bits_back ps
    have z : (!Float64.isZero ((((Float64.zero false).toNat : Int)).toNat.toUInt64)) = false := by decide +kernel
    show wpAny _ A.in1 (if (!Float64.isZero ((((Float64.zero false).toNat : Int)).toNat.toUInt64)) = true then _ else Builtin.Float.retFloat (Float64.fsumEnd (backBits ps))) _ _ _
    rw [if_neg (by rw [z]; exact Bool.false_ne_true), hb]
    exact wpAny_bind (PySem.Flt.wp_mkFloat (wpAny_pure (hR h' (tk + 1) tk hk')))
  | cons x xs ih =>
    intro i ps pa s hd hi hst hpa hsp hspw hlen hstep hfin hR
    have hlt : i < all.length := by
      have := congrArg List.length hd
      simp at this; omega
    have hget : all[i]? = some x := by
      have := congrArg (fun l => l[0]?) hd
      simpa using this
    refine codeAny_builtin entry_fsum_loop ?_
    rw [Around.under_plainId plain_fsum_loop _]
    show wpAny _ A.in1 ((seqItems? (.ref pa) >>= _) >>= _) _ _ s
    refine wpAny_bind (wpAny_bind (wpAny_seqItems hpa rfl (wpAny_pure ?_)))
    show wpAny _ A.in1 ((seqItems? (.ref sp) >>= _) >>= _) _ _ s
    refine wpAny_bind (wpAny_bind (wpAny_seqItems hsp rfl (wpAny_pure ?_)))
    show wpAny _ A.in1 (pyNext (.ref I) >>= _) _ _ s
    refine wpAny_bind (W.item i s _ _ hlt hst fun v h' tk hp hst' hk' => ?_)
    obtain ⟨y, hy, q⟩ := hP i v hp
    rw [hget] at hy; cases hy
    have hb := bits_back ps
    show wpAny _ A.in1 (holding [v] (Builtin.Math.realArg v) >>= _) _ _ _
    refine wpAny_bind (wpAny_holding (realArg_sv (A := A.in1) hA (hnum x (List.mem_of_getElem? hget)) q fun t' => ?_))
    simp only [List.map_cons, fsumFin] at hfin
    show wpAny _ A.in1 (if Float64.isFinite (Float64.fsumAdd (backBits ps) (svBits x)).2 = true then (newTuple ((fsumStep (backBits ps) (svBits x)).map fun x => rawInt x.toNat) >>= _) else _) _ _ _
    rw [hb]
    rw [if_pos hfin.1]
    have hl2 := hstep ps (svBits x)
    simp only [List.length_cons] at hlen
    refine wpAny_bind (wpAny_newObj_type ?_ (by show (List.map _ _).toArray.size ≤ sizeLine; rw [List.size_toArray, List.length_map, sizeLine_eq]; omega))
    refine wpAny_pure ⟨plainId_quiet plain_fsum_loop _, ih (i + 1) (fsumStep ps (svBits x)) _ _ ?_ hlt (W.frame _ _ _ hst' fun b _ o e => Heap.get?_push_of_some _ e) (Heap.get?_push_size _ rfl) (Heap.get?_push_of_some _ (hk' _ _ hspw hsp)) hspw (by omega) hstep hfin.2 fun h2 t2 t2' hk2 => ?_⟩
    · have := congrArg List.tail hd
      simpa [List.tail_drop] using this
    · exact hR h2 t2 t2' fun b o hbw e => hk2 b o hbw (Heap.get?_push_of_some _ (hk' b o hbw e))
end
end Mine
end

/-! part G3 -/
section
set_option maxRecDepth 100000
set_option linter.unusedVariables false
namespace Mine
open PySem PySem.Calls PySem.W PyProof.Rows

theorem fsumAdd_len : ∀ (ps : List UInt64) (x : UInt64), (Float64.fsumAdd ps x).1.length ≤ ps.length
  | [], x => Nat.le_refl _
  | y :: ps, x => by
    have e : ∀ (c : Prop) [Decidable c] (l : List UInt64) (z : UInt64), l.length ≤ ps.length → (if c then l else z :: l).length ≤ ps.length + 1 := fun c _ l z h => by
      split
      · omega
      · simpa using h
    unfold Float64.fsumAdd
    exact e _ _ _ (fsumAdd_len ps _)
theorem fsumStep_len (ps : List UInt64) (x : UInt64) : (fsumStep ps x).length ≤ ps.length + 1 := by
  unfold fsumStep
  have := fsumAdd_len ps x
  split
  · omega
  · simp; omega

section
variable {prog : Program} {w : World} {A : Around}
theorem FN.fsum {P : Heap → Prop} {a : PV} {xs : List SV} (hA : A.handled = none) (ha : ITER prog w A.in1 a xs) (hnum : ∀ x ∈ xs, Numb x) (hlen : xs.length ≤ 100) (hfin : fsumFin [] (xs.map svBits)) :
    FN prog w A P (.builtin "math.fsum") [a] [] (.flt (fsumF (xs.map svBits))) := fun s Q E vs kv _ ps pk h => by
  cases ps with
  | cons ia t =>
    cases t; cases pk
    refine call_function_tree kind_fsum plain_fsum entry_fsum (args_fsum _) ?_
    unfold Builtin.«math.fsum»
    refine wpAny_bind (m := Builtin.Math.mathOne "fsum" _) (wpAny_pure ?_)
    refine wpAny_bind (ha _ _ _ _ ia fun I fp wr P St h' W hP h0 hk hfp hwr _ _ => ?_)
    show wpAny _ A.in1 (newTuple [] >>= _) _ _ _
    refine wpAny_bind (wpAny_newObj_type ?_)
    show wpAny _ A.in1 (newTuple [rawInt (Float64.zero false).toNat, rawInt (Float64.zero false).toNat] >>= _) _ _ _
    refine wpAny_bind (wpAny_newObj_type ?_)
    have hspw : (h'.push { cls := .type "tuple", data := .seq ([] : List Value).toArray }).objs.size ∉ wr := fun hm => by
      have := hfp _ (W.sub _ hm)
      rw [Heap.size_push] at this; exact absurd this (Nat.not_lt.mpr (Nat.le_succ _))
    refine wpAny_pure ⟨plainId_quiet plain_fsum_loop _, fsum_loop hA W hP hnum _ xs 0 [] _ _ rfl (Nat.zero_le _) (W.frame _ _ _ h0 fun b _ o e => Heap.get?_push_of_some _ (Heap.get?_push_of_some _ e))
      (Heap.get?_push_of_some _ (Heap.get?_push_size _ rfl)) (Heap.get?_push_size _ rfl) hspw (by simpa using hlen) fsumStep_len hfin fun h2 t2 t2' hk2 => ?_⟩
    refine h _ h2 t2 (fun b o e => ?_) (IsS.flt _ _)
    exact hk2 b o (fun hb => by rw [hwr b hb] at e; cases e) (Heap.get?_push_of_some _ (Heap.get?_push_of_some _ (hk b o e)))
end
end Mine
end

/-! part PL8 -/
section
set_option maxRecDepth 100000
set_option linter.unusedVariables false
set_option linter.unusedSimpArgs false
set_option exponentiation.threshold 3000
namespace Mine
open PySem PySem.Float64

theorem isZero_ap {x : UInt64} (h : isZero x = true) : ap x = 0 := by
  unfold isZero at h
  split at h
  · rename_i hd
    have := val_eq hd
    have e : val x = 0 := by rw [this]; unfold sgn; split <;> simp
    exact ap_of (C := 0) (by rw [e]; simp)
  · cases h
theorem fin_of {x : UInt64} (h : Fin1 x) : isFinite x = true := by
  obtain ⟨a, m, e, h⟩ := h
  unfold isFinite; rw [h]
theorem pair_ap {x y : UInt64} (fx : Fin1 x) (fy : Fin1 y) (h : (ap x).natAbs + (ap y).natAbs ≤ 4000000000000000000) :
    Fin1 (add x y) ∧ Fin1 (sub y (sub (add x y) x)) ∧ (ap (add x y) - (ap x + ap y)).natAbs ≤ 514 ∧ (ap (sub y (sub (add x y) x))).natAbs ≤ 1200 := by
  obtain ⟨f1, h1⟩ := ap_add 2 fx fy (by decide) (by omega)
  obtain ⟨f2, h2⟩ := ap_sub 2 f1 fx (by decide) (by omega)
  obtain ⟨f3, h3⟩ := ap_sub 0 fy f2 (by decide) (by omega)
  exact ⟨f1, f3, by omega, by omega⟩

def SA : List UInt64 → Nat
  | [] => 0
  | y :: ps => (ap y).natAbs + SA ps
def SS : List UInt64 → Int
  | [] => 0
  | y :: ps => ap y + SS ps
theorem SS_SA : ∀ ps : List UInt64, (SS ps).natAbs ≤ SA ps
  | [] => Nat.le_refl _
  | y :: ps => by have := SS_SA ps; simp only [SS, SA]; omega
theorem fsumAdd_cons (y : UInt64) (ps : List UInt64) (x : UInt64) : ∃ a b, ((a = x ∧ b = y) ∨ (a = y ∧ b = x)) ∧ fsumAdd (y :: ps) x = (if isZero (sub b (sub (add a b) a)) then (fsumAdd ps (add a b)).1 else sub b (sub (add a b) a) :: (fsumAdd ps (add a b)).1, (fsumAdd ps (add a b)).2) := by
  by_cases h : lt (abs x) (abs y) = true
  · refine ⟨y, x, .inr ⟨rfl, rfl⟩, ?_⟩
    simp only [fsumAdd, h, if_true]
  · refine ⟨x, y, .inl ⟨rfl, rfl⟩, ?_⟩
    simp only [fsumAdd, h, if_false]
    rfl
theorem fsumAdd_ap : ∀ (ps : List UInt64) (x : UInt64), (∀ y ∈ ps, Fin1 y) → Fin1 x → SA ps + (ap x).natAbs + 514 * ps.length ≤ 4000000000000000000 →
    (∀ y ∈ (fsumAdd ps x).1, Fin1 y) ∧ Fin1 (fsumAdd ps x).2 ∧ (ap (fsumAdd ps x).2 - (SS ps + ap x)).natAbs ≤ 514 * ps.length ∧ SA (fsumAdd ps x).1 ≤ 1200 * ps.length
  | [], x, _, fx, _ => ⟨fun _ h => (nomatch h), fx, by show (ap x - (0 + ap x)).natAbs ≤ _; omega, Nat.le_refl _⟩
  | y :: ps, x, fps, fx, hb => by
    obtain ⟨a, b, hab, e⟩ := fsumAdd_cons y ps x
    have fy := fps y (.head _)
    have fab : Fin1 a ∧ Fin1 b ∧ (ap a).natAbs + (ap b).natAbs = (ap x).natAbs + (ap y).natAbs ∧ ap a + ap b = ap x + ap y := by
      rcases hab with ⟨rfl, rfl⟩ | ⟨rfl, rfl⟩
      · exact ⟨fx, fy, rfl, rfl⟩
      · exact ⟨fy, fx, by omega, by omega⟩
    obtain ⟨fa, fb, s1, s2⟩ := fab
    simp only [SA, List.length_cons] at hb
    obtain ⟨f1, f2, h1, h2⟩ := pair_ap fa fb (by omega)
    obtain ⟨r1, r2, r3, r4⟩ := fsumAdd_ap ps (add a b) (fun z hz => fps z (.tail _ hz)) f1 (by omega)
    rw [e]
    refine ⟨fun z hz => ?_, r2, ?_, ?_⟩
    · simp only at hz
      split at hz
      · exact r1 z hz
      · rcases List.mem_cons.mp hz with rfl | hz
        · exact f2
        · exact r1 z hz
    · simp only [SS, List.length_cons]; omega
    · simp only [List.length_cons]
      split
      · omega
      · simp only [SA]; omega

theorem fsumTop_ap : ∀ (ps : List UInt64) (x : UInt64), (∀ y ∈ ps, Fin1 y) → Fin1 x → SA ps + (ap x).natAbs + 514 * ps.length ≤ 4000000000000000000 →
    Fin1 (fsumTop x ps).1 ∧ Fin1 (fsumTop x ps).2.1 ∧ (ap (fsumTop x ps).1 - ap x).natAbs ≤ SA ps + 514 * ps.length ∧ (ap (fsumTop x ps).2.1).natAbs ≤ 1200
  | [], x, _, fx, _ => ⟨fx, zero_fin, by show (ap x - ap x).natAbs ≤ _; omega, by show (ap 0).natAbs ≤ _; rw [zero_apx]; decide⟩
  | y :: ps, x, fps, fx, hb => by
    have fy := fps y (.head _)
    simp only [SA, List.length_cons] at hb
    obtain ⟨f1, f2, h1, h2⟩ := pair_ap fx fy (by omega)
    simp only [SA, List.length_cons, fsumTop]
    split
    · obtain ⟨r1, r2, r3, r4⟩ := fsumTop_ap ps (add x y) (fun z hz => fps z (.tail _ hz)) f1 (by omega)
      exact ⟨r1, r2, by omega, r4⟩
    · exact ⟨f1, f2, by show (ap (add x y) - ap x).natAbs ≤ _; omega, h2⟩

/-- the partial sums after some items, all in all V -/
def Inv (ps : List UInt64) (V : Int) (e : Nat) : Prop := ps.length ≤ 3 ∧ ((ps = [] ∧ V.natAbs ≤ e) ∨ ∃ rest top, ps = rest ++ [top] ∧ Fin1 top ∧ (∀ y ∈ rest, Fin1 y) ∧ (ap top - V).natAbs ≤ e ∧ SA rest ≤ e)
theorem SA_app : ∀ (a b : List UInt64), SA (a ++ b) = SA a + SA b
  | [], b => by simp [SA]
  | y :: a, b => by simp only [List.cons_append, SA, SA_app a b]; omega
theorem SA_rev : ∀ a : List UInt64, SA a.reverse = SA a
  | [] => rfl
  | y :: a => by rw [List.reverse_cons, SA_app, SA_rev a]; simp only [SA]; omega
theorem SS_app : ∀ (a b : List UInt64), SS (a ++ b) = SS a + SS b
  | [], b => by simp [SS]
  | y :: a, b => by simp only [List.cons_append, SS, SS_app a b]; omega
theorem Inv.fin {ps : List UInt64} {V : Int} {e : Nat} (h : Inv ps V e) : ∀ y ∈ ps, Fin1 y := by
  rcases h.2 with ⟨rfl, _⟩ | ⟨rest, top, rfl, f, g, _⟩
  · intro y hy; cases hy
  · intro y hy
    rcases List.mem_append.mp hy with hy | hy
    · exact g y hy
    · rw [List.mem_singleton.mp hy]; exact f
theorem Inv.SA_le {ps : List UInt64} {V : Int} {e : Nat} (h : Inv ps V e) : SA ps ≤ V.natAbs + 2 * e ∧ (SS ps - V).natAbs ≤ 2 * e := by
  rcases h.2 with ⟨rfl, a⟩ | ⟨rest, top, rfl, f, g, a, b⟩
  · simp only [SA, SS]; omega
  · have := SS_SA rest
    rw [SA_app, SS_app]; simp only [SA, SS]; omega
theorem Inv.step {ps : List UInt64} {V : Int} {e : Nat} {x : UInt64} (h : Inv ps V e) (hl : ps.length ≤ 2) (fx : Fin1 x) (he : e ≤ 100000) (hb : V.natAbs + (ap x).natAbs ≤ 3900000000000000000) :
    isFinite (fsumAdd ps x).2 = true ∧ Inv (fsumStep ps x) (V + ap x) (4 * e + 4000) := by
  obtain ⟨a1, a2⟩ := h.SA_le
  obtain ⟨r1, r2, r3, r4⟩ := fsumAdd_ap ps x h.fin fx (by omega)
  refine ⟨fin_of r2, ?_⟩
  have hlen := fsumAdd_len ps x
  unfold fsumStep
  split
  · rename_i hz
    have z := isZero_ap hz
    generalize (fsumAdd ps x).1 = rest at *
    refine ⟨by omega, ?_⟩
    by_cases hr : rest = []
    · exact .inl ⟨hr, by omega⟩
    · refine .inr ⟨rest.dropLast, rest.getLast hr, (List.dropLast_concat_getLast hr).symm, r1 _ (List.getLast_mem hr), fun y hy => r1 y (List.dropLast_subset _ hy), ?_⟩
      have : SA rest = SA rest.dropLast + SA [rest.getLast hr] := by
        rw [← SA_app, List.dropLast_concat_getLast hr]
      simp only [SA] at this
      omega
  · refine ⟨by simp; omega, .inr ⟨_, _, rfl, r2, r1, by omega, by omega⟩⟩
theorem Inv.done {ps : List UInt64} {V : Int} {e : Nat} (h : Inv ps V e) (he : e ≤ 1000000) (hb : V.natAbs ≤ 3900000000000000000) : Fin1 (fsumEnd ps) ∧ (ap (fsumEnd ps) - V).natAbs ≤ 3 * e + 10000 := by
  obtain ⟨hl, ⟨rfl, a⟩ | ⟨rest, top, rfl, f, g, a, b⟩⟩ := h
  · exact ⟨zero_fin, by show (ap 0 - V).natAbs ≤ _; rw [zero_apx]; omega⟩
  · have hlen : rest.reverse.length ≤ 2 := by simp at hl ⊢; omega
    obtain ⟨r1, r2, r3, r4⟩ := fsumTop_ap rest.reverse top (fun y hy => g y (by simpa using hy)) f (by rw [SA_rev]; omega)
    rw [SA_rev] at r3
    have e0 : (rest ++ [top]).reverse = top :: rest.reverse := by simp
    unfold fsumEnd
    rw [e0]
    simp only
    obtain ⟨m1, m2⟩ := ap_mulN 0 int2 r2 (by decide) (by omega)
    obtain ⟨n1, n2⟩ := ap_add 2 r1 m1 (by decide) (by omega)
    split
    · rename_i hi lo nx tl e1
      rw [e1] at r1 r2 r3 r4 m1 m2 n1 n2
      simp only at r1 r2 r3 r4 m1 m2 n1 n2
      split
      · split
        · exact ⟨n1, by omega⟩
        · exact ⟨r1, by omega⟩
      · exact ⟨r1, by omega⟩
    · rename_i hi lo e1
      rw [e1] at r1 r3
      exact ⟨r1, by simp only at r3; omega⟩
theorem fsum3 {x1 x2 x3 : UInt64} (h1 : Colour x1) (h2 : Colour x2) (h3 : Colour x3) :
    fsumFin [] [x1, x2, x3] ∧ Fin1 (fsumF [x1, x2, x3]) ∧ (ap (fsumF [x1, x2, x3]) - (ap x1 + ap x2 + ap x3)).natAbs ≤ 300000 := by
  obtain ⟨f1, a1, b1⟩ := h1
  obtain ⟨f2, a2, b2⟩ := h2
  obtain ⟨f3, a3, b3⟩ := h3
  have i0 : Inv [] 0 0 := ⟨by decide, .inl ⟨rfl, by decide⟩⟩
  obtain ⟨g1, i1⟩ := i0.step (by decide) f1 (by decide) (by omega)
  have l1 := fsumStep_len [] x1
  simp only [List.length_nil] at l1
  obtain ⟨g2, i2⟩ := i1.step (by omega) f2 (by decide) (by omega)
  have l2 := fsumStep_len (fsumStep [] x1) x2
  obtain ⟨g3, i3⟩ := i2.step (by omega) f3 (by decide) (by omega)
  obtain ⟨z1, z2⟩ := i3.done (by decide) (by omega)
  have ef : fsumF [x1, x2, x3] = fsumEnd (fsumStep (fsumStep (fsumStep [] x1) x2) x3) := rfl
  rw [ef]
  exact ⟨⟨g1, g2, g3, trivial⟩, z1, by simp only [Int.zero_add] at z2; omega⟩
end Mine
end

/-! part PL9 -/
section
set_option maxRecDepth 100000
set_option linter.unusedVariables false
set_option linter.unusedSimpArgs false
set_option exponentiation.threshold 3000
namespace Mine
open PySem PySem.Float64

theorem Nq.colour {x : UInt64} {n e : Int} (h : Nq x (n * 255470000) e) (he : e ≤ 70000) (h0 : 0 ≤ n) (h1 : n ≤ 600) : Colour x ∧ (600 * ap x - n * 1152921504606846976).natAbs ≤ 42000000 := by
  obtain ⟨a, b, c⟩ := h
  exact ⟨⟨a, by omega, by omega⟩, by omega⟩
def fineF (x : UInt64) : UInt64 := mul (mul x (ofInt 600)) (ofInt 1073741824)
theorem fine_is {x : UInt64} {n e : Int} (h : Nq x (n * 255470000) e) (he : e ≤ 70000) (h0 : 0 ≤ n) (h1 : n ≤ 600) : Fin1 (fineF x) ∧ PySem.Flt.toInt nearestOf (fineF x) = n * 1073741824 := by
  obtain ⟨⟨f, a, b⟩, c⟩ := h.colour he h0 h1
  unfold fineF
  obtain ⟨f1, d1⟩ := ap_mulN 10 int600 f (by decide) (by omega)
  obtain ⟨f2, d2⟩ := ap_mulN 40 intBig f1 (by decide) (by omega)
  exact ⟨f2, round_is f2 (by omega)⟩
def meanF (x y z : UInt64) : UInt64 := div (fsumF [x, y, z]) (ofInt 3)
def meanBig (x y z : UInt64) : UInt64 := mul (mul (meanF x y z) (ofInt 1800)) (ofInt 1073741824)
theorem mean_is {x y z : UInt64} {n m k e : Int} (hx : Nq x (n * 255470000) e) (hy : Nq y (m * 255470000) e) (hz : Nq z (k * 255470000) e) (he : e ≤ 70000) (hn : 0 ≤ n ∧ n ≤ 600) (hm : 0 ≤ m ∧ m ≤ 600) (hk : 0 ≤ k ∧ k ≤ 600) :
    fsumFin [] [x, y, z] ∧ Fin1 (meanF x y z) ∧ Fin1 (meanBig x y z) ∧ PySem.Flt.toInt nearestOf (meanBig x y z) = (n + m + k) * 1073741824 := by
  obtain ⟨c1, a1⟩ := hx.colour he hn.1 hn.2
  obtain ⟨c2, a2⟩ := hy.colour he hm.1 hm.2
  obtain ⟨c3, a3⟩ := hz.colour he hk.1 hk.2
  obtain ⟨g, f, b⟩ := fsum3 c1 c2 c3
  have hs : (600 * ap (fsumF [x, y, z]) - (n + m + k) * 1152921504606846976).natAbs ≤ 306000000 := by omega
  clear b a1 a2 a3 c1 c2 c3 hx hy hz
  unfold meanBig meanF
  generalize fsumF [x, y, z] = S at *
  obtain ⟨f0, d0⟩ := ap_divN 1 (by decide) int3 f (by decide) (by omega)
  have h0 : (1800 * ap (div S (ofInt 3)) - (n + m + k) * 1152921504606846976).natAbs ≤ 307000000 := by omega
  clear d0 hs
  obtain ⟨f1, d1⟩ := ap_mulN 12 int1800 f0 (by decide) (by omega)
  have h1 : (ap (mul (div S (ofInt 3)) (ofInt 1800)) - (n + m + k) * 1152921504606846976).natAbs ≤ 308000000 := by omega
  clear d1 h0
  obtain ⟨f2, d2⟩ := ap_mulN 42 intBig f1 (by decide) (by omega)
  exact ⟨g, f0, f2, round_is f2 (by omega)⟩
/-- what is told of painted parts by weights -/
def denF (c1 c2 c3 : UInt64) : UInt64 := fsumF [c1, c2, c3]
def wmeanF (x y z c1 c2 c3 : UInt64) : UInt64 := div (sumprodF x c1 y c2 z c3) (denF c1 c2 c3)
def toldF (x y z c1 c2 c3 cs : UInt64) : UInt64 := mul (mul (mul (wmeanF x y z c1 c2 c3) cs) (ofInt 600)) (ofInt 1073741824)
theorem told_is {x y z c1 c2 c3 cs : UInt64} {n m k e : Int} {w1 w2 w3 : Nat} (hx : Nq x (n * 255470000) e) (hy : Nq y (m * 255470000) e) (hz : Nq z (k * 255470000) e) (he : e ≤ 70000) (hn : 0 ≤ n ∧ n ≤ 600) (hm : 0 ≤ m ∧ m ≤ 600) (hk : 0 ≤ k ∧ k ≤ 600)
    (h1 : Wgt c1 w1) (h2 : Wgt c2 w2) (h3 : Wgt c3 w3) (hs : IntF cs (w1 + w2 + w3)) (hd : denF c1 c2 c3 = cs) :
    Fin1 (wmeanF x y z c1 c2 c3) ∧ Fin1 (toldF x y z c1 c2 c3 cs) ∧ PySem.Flt.toInt nearestOf (toldF x y z c1 c2 c3 cs) = (w1 * n + w2 * m + w3 * k) * 1073741824 := by
  obtain ⟨d1, a1⟩ := hx.colour he hn.1 hn.2
  obtain ⟨d2, a2⟩ := hy.colour he hm.1 hm.2
  obtain ⟨d3, a3⟩ := hz.colour he hk.1 hk.2
  obtain ⟨f, b⟩ := sumprod_ap h1 h2 h3 d1 d2 d3
  have hS : (600 * ap (sumprodF x c1 y c2 z c3) - (w1 * n + w2 * m + w3 * k) * 1152921504606846976).natAbs ≤ 300000000 ∧ 0 ≤ (w1 * n + w2 * m + w3 * k) ∧ (w1 * n + w2 * m + w3 * k) ≤ 600 * (w1 + w2 + w3 : Nat) ∧ 3 ≤ w1 + w2 + w3 ∧ w1 + w2 + w3 ≤ 6 := by
    rcases h1.2 with rfl | rfl <;> rcases h2.2 with rfl | rfl <;> rcases h3.2 with rfl | rfl <;> (clear h1 h2 h3 hs hd hx hy hz; omega)
  unfold toldF wmeanF
  rw [hd]
  generalize sumprodF x c1 y c2 z c3 = S at *
  obtain ⟨g1, g2, g3, g4, g5⟩ := hS
  generalize (w1 * n + w2 * m + w3 * k : Int) = T at *
  generalize w1 + w2 + w3 = W at *
  clear b a1 a2 a3 d1 d2 d3 hx hy hz hd h1 h2 h3
  obtain ⟨f0, d0⟩ := ap_divN 2 (by omega) hs f (by decide) (by omega)
  have h0 : (600 * (W * ap (div S cs)) - T * 1152921504606846976).natAbs ≤ 304000000 := by omega
  have b0 : W * ((ap (div S cs)).natAbs + 1) ≤ 2 ^ 63 := by
    have : (W * (ap (div S cs)).natAbs : Nat) = ((W : Int) * ap (div S cs)).natAbs := by rw [Int.natAbs_mul]; rfl
    rw [Nat.mul_add, this]
    omega
  obtain ⟨f1, d1⟩ := ap_mulN 3 hs f0 (by decide) b0
  have h1 : (600 * ap (mul (div S cs) cs) - T * 1152921504606846976).natAbs ≤ 306000000 := by omega
  clear d1 h0 d0 b0
  obtain ⟨f2, d2⟩ := ap_mulN 13 int600 f1 (by decide) (by omega)
  have h2 : (ap (mul (mul (div S cs) cs) (ofInt 600)) - T * 1152921504606846976).natAbs ≤ 310000000 := by omega
  clear d2 h1
  obtain ⟨f3, d3⟩ := ap_mulN 42 intBig f2 (by decide) (by omega)
  exact ⟨f0, f3, round_is f3 (by omega)⟩
end Mine
end

/-! part G4 -/
section
set_option maxRecDepth 100000
set_option linter.unusedVariables false
namespace Mine
open PySem PySem.Calls PySem.W PyProof.Rows PySem.Builtin.Math
theorem entry_sumprod : entryFor table "math.sumprod" = some Builtin.«math.sumprod» := entryFor_of_fast (by kernel_rfl)
theorem entry_sumprod_loop : entryFor table "math.sumprod.loop" = some Builtin.«math.sumprod.loop» := entryFor_of_fast (by kernel_rfl)
theorem plain_sumprod : plainId "math.sumprod" = true := by decide +kernel
theorem plain_sumprod_loop : plainId "math.sumprod.loop" = true := by decide +kernel
theorem kind_sumprod : builtinKind "math.sumprod" = none := by decide +kernel
theorem args_sumprod (a b : Value) : argsOk "math.sumprod" ⟨[a, b], []⟩ := by unfold argsOk; kernel_rfl
def rawT (t : Three) : Obj := { cls := .type "tuple", data := .seq #[rawInt t.1.toNat, rawInt t.2.1.toNat, rawInt t.2.2.toNat] }
theorem raw_back (x : UInt64) : ((x.toNat : Int)).toNat.toUInt64 = x := by simp
section
variable {prog : Program} {w : World} {A : Around} {E : Value → Shared → Prop}
/-- one turn -/
theorem sumprod_turn {s : Shared} {Q : PySem.Fin → Shared → Prop} {I J ta : Addr} {tot : Value} {io fu : Bool} {t : Three} {fp1 wr1 fp2 wr2 : List Addr} {n m : Nat} {P1 P2 : Nat → Value → Prop} {St1 St2 : Nat → Heap → Prop} {i : Nat} {x : UInt64} {k : Int}
    (W1 : Walks prog w A.in1 I fp1 wr1 n P1 St1) (W2 : Walks prog w A.in1 J fp2 wr2 m P2 St2) (d1 : ∀ b ∈ fp2, b ∉ wr1) (d2 : ∀ b ∈ fp1, b ∉ wr2)
    (h1 : i < n) (h2 : i < m) (st1 : St1 i s.heap) (st2 : St2 i s.heap) (p1 : ∀ v, P1 i v → ∃ u, v = .float x u) (p2 : ∀ v, P2 i v → ∃ u, v = .int k u) (ht : s.heap.get? ta = some (rawT t))
    (hk : Float64.isInf (Float64.ofInt k) = false) (hf : Float64.isFinite (tlFma x (Float64.ofInt k) t).1 = true)
    (h : ∀ h' tk tb, St1 (i + 1) h' → St2 (i + 1) h' → (∀ b o, b ∉ wr1 → b ∉ wr2 → s.heap.get? b = some o → h'.get? b = some o) → h'.get? tb = some (rawT (tlFma x (Float64.ofInt k) t)) → h'.objs.size = tb + 1 →
      Q (.again (.builtin "math.sumprod.loop" ⟨[.ref I, .ref J, tot, .bool false, rawInt 0, .bool false, .bool true, .ref tb, .bool true], []⟩)) { s with heap := h', toks := tk }) :
    wpAny (model prog w) A.in1 (Builtin.«math.sumprod.loop» ⟨[.ref I, .ref J, tot, .bool io, rawInt 0, .bool false, .bool true, .ref ta, .bool fu], []⟩) Q E s := by
  unfold Builtin.«math.sumprod.loop»
  show wpAny _ _ (seqItems? (.ref ta) >>= _) _ _ s
  refine wpAny_bind (wpAny_seqItems ht rfl ?_)
  show wpAny _ _ (pyNext (.ref I) >>= _) _ _ s
  refine wpAny_bind (W1.item i s _ _ h1 st1 fun v g1 t1 hp1 st1' k1 => ?_)
  obtain ⟨u1, rfl⟩ := p1 v hp1
  refine wpAny_bind (wpAny_holding (W2.item i _ _ _ h2 (W2.frame _ _ _ st2 fun b hb o e => k1 b o (d1 b hb) e) fun v g2 t2 hp2 st2' k2 => ?_))
  obtain ⟨u2, rfl⟩ := p2 v hp2
  show wpAny _ _ (if (true != true) = true then _ else _) _ _ _
  rw [if_neg (by decide)]
  have fin : ∀ tk, wpAny (model prog w) A.in1 (newTuple [rawInt (tlFma x (Float64.ofInt k) t).1.toNat, rawInt (tlFma x (Float64.ofInt k) t).2.1.toNat, rawInt (tlFma x (Float64.ofInt k) t).2.2.toNat] >>= fun tb =>
      again (.builtin "math.sumprod.loop" ⟨[.ref I, .ref J, tot, .bool false, rawInt 0, .bool false, .bool true, tb, .bool true], []⟩)) Q E { s with heap := g2, toks := tk } := by
    intro tk
    refine wpAny_bind (wpAny_newObj_type (wpAny_pure ?_))
    refine h _ _ _ (W1.frame _ _ _ st1' fun b hb o e => Heap.get?_push_of_some _ (k2 b o (d2 b hb) e)) (W2.frame _ _ _ st2' fun b hb o e => Heap.get?_push_of_some _ e)
      (fun b o n1 n2 e => Heap.get?_push_of_some _ (k2 b o n2 (k1 b o n1 e))) (Heap.get?_push_size _ rfl) (by rw [Heap.size_push])
  have e3 : tlFma x (Float64.ofInt k) (((t.1.toNat : Int)).toNat.toUInt64, ((t.2.1.toNat : Int)).toNat.toUInt64, ((t.2.2.toNat : Int)).toNat.toUInt64) = tlFma x (Float64.ofInt k) t := by rw [raw_back, raw_back, raw_back]
  cases io with
  | true =>
    show wpAny _ _ (rule "math.sumprod.leaves-ints" >>= _) _ _ _
    refine wpAny_bind (wpAny_rule ?_)
    simp only [hk, Bool.false_eq_true, if_false, if_true, Bool.true_or, e3, hf]
    exact fin _
  | false =>
    simp only [hk, Bool.false_eq_true, if_false, if_true, Bool.true_or, e3, hf]
    exact fin _

theorem sumprod_last {s : Shared} {Q : PySem.Fin → Shared → Prop} {I J ta : Addr} {tt : Tok} {t : Three} {fp1 wr1 fp2 wr2 : List Addr} {n m : Nat} {P1 P2 : Nat → Value → Prop} {St1 St2 : Nat → Heap → Prop}
    (W1 : Walks prog w A.in1 I fp1 wr1 n P1 St1) (W2 : Walks prog w A.in1 J fp2 wr2 m P2 St2) (d1 : ∀ b ∈ fp2, b ∉ wr1)
    (st1 : St1 n s.heap) (st2 : St2 m s.heap) (ht : s.heap.get? ta = some (rawT t))
    (h : ∀ h' tk t', (∀ b o, b ∉ wr1 → b ∉ wr2 → s.heap.get? b = some o → h'.get? b = some o) → Q (.done (.ret (.float (Float64.add (Float64.ofInt 0) (tlToFloat t)) t'))) { s with heap := h', toks := tk }) :
    wpAny (model prog w) A.in1 (Builtin.«math.sumprod.loop» ⟨[.ref I, .ref J, .int 0 tt, .bool false, rawInt 0, .bool false, .bool true, .ref ta, .bool true], []⟩) Q E s := by
  unfold Builtin.«math.sumprod.loop»
  show wpAny _ _ (seqItems? (.ref ta) >>= _) _ _ s
  refine wpAny_bind (wpAny_seqItems ht rfl ?_)
  show wpAny _ _ (pyNext (.ref I) >>= _) _ _ s
  refine wpAny_bind (W1.done s _ _ st1 fun g1 t1 k1 => ?_)
  refine wpAny_bind (wpAny_holding (W2.done _ _ _ (W2.frame _ _ _ st2 fun b hb o e => k1 b o (d1 b hb) e) fun g2 t2 k2 => ?_))
  show wpAny _ _ (if (false != false) = true then _ else _) _ _ _
  rw [if_neg (by decide)]
  have e3 : tlToFloat (((t.1.toNat : Int)).toNat.toUInt64, ((t.2.1.toNat : Int)).toNat.toUInt64, ((t.2.2.toNat : Int)).toNat.toUInt64) = tlToFloat t := by rw [raw_back, raw_back, raw_back]
  show wpAny _ _ (rule "math.sumprod.leaves-floats" >>= _) _ _ _
  refine wpAny_bind (wpAny_rule ?_)
  simp only [if_true]
  show wpAny _ _ (mkFloat (tlToFloat (((t.1.toNat : Int)).toNat.toUInt64, ((t.2.1.toNat : Int)).toNat.toUInt64, ((t.2.2.toNat : Int)).toNat.toUInt64)) >>= _) _ _ _
  rw [e3]
  refine wpAny_bind (PySem.Flt.wp_mkFloat ?_)
  refine wpAny_bind (wpAny_holding (PyProof.Rows.add_if_fits (by decide) ?_))
  exact wpAny_pure (h _ _ _ fun b o n1 n2 e => k2 b o n2 (k1 b o n1 e))

theorem ofInt_fin {n : Nat} {c : UInt64} (h : Wgt c n) : Float64.isInf c = false := by
  obtain ⟨⟨⟨a, m, e, h⟩, _⟩, _⟩ := h
  unfold Float64.isInf; rw [h]
theorem paired_flt3 {vs : List Value} {x y z : UInt64} (h : Paired IsS vs [.flt x, .flt y, .flt z]) : ∃ a b c, vs = [.float x a, .float y b, .float z c] := by
  cases h with | cons h1 t => cases t with | cons h2 t => cases t with | cons h3 t => cases t; cases h1; cases h2; cases h3; exact ⟨_, _, _, rfl⟩
theorem paired_int3 {vs : List Value} {x y z : Int} (h : Paired IsS vs [.int x, .int y, .int z]) : ∃ a b c, vs = [.int x a, .int y b, .int z c] := by
  cases h with | cons h1 t => cases t with | cons h2 t => cases t with | cons h3 t => cases t; cases h1; cases h2; cases h3; exact ⟨_, _, _, rfl⟩

theorem FN.sumprod {P : Heap → Prop} {x y z : UInt64} {a b c : Int} (hA : A.handled = none) (ha : Float64.isInf (Float64.ofInt a) = false) (hb : Float64.isInf (Float64.ofInt b) = false) (hc : Float64.isInf (Float64.ofInt c) = false)
    (f1 : Float64.isFinite (tlFma x (Float64.ofInt a) (0, 0, 0)).1 = true) (f2 : Float64.isFinite (tlFma y (Float64.ofInt b) (tlFma x (Float64.ofInt a) (0, 0, 0))).1 = true)
    (f3 : Float64.isFinite (tl3 x (Float64.ofInt a) y (Float64.ofInt b) z (Float64.ofInt c)).1 = true) :
    FN prog w A P (.builtin "math.sumprod") [.tup [.flt x, .flt y, .flt z], .tup [.int a, .int b, .int c]] [] (.flt (sumprodF x (Float64.ofInt a) y (Float64.ofInt b) z (Float64.ofInt c))) := fun s Q E vs kv _ ps pk h => by
  cases ps with
  | cons ia t =>
    cases t with
    | cons ib t =>
      cases t; cases pk
      obtain ⟨pa, ps, rfl, hp, hps⟩ := ia
      obtain ⟨qa, qs, rfl, hq, hqs⟩ := ib
      obtain ⟨ta1, ta2, ta3, rfl⟩ := paired_flt3 hps
      obtain ⟨tb1, tb2, tb3, rfl⟩ := paired_int3 hqs
      have hpl : pa < s.heap.objs.size := by obtain ⟨_, e, _⟩ := hp; exact Heap.lt_size e
      have hql : qa < s.heap.objs.size := by obtain ⟨_, e, _⟩ := hq; exact Heap.lt_size e
      have hp' : s.heap.IsTuple pa _ := hp
      have hq' : s.heap.IsTuple qa _ := hq
      refine call_function_tree kind_sumprod plain_sumprod entry_sumprod (args_sumprod _ _) ?_
      unfold Builtin.«math.sumprod»
      refine wpAny_bind (m := mathSome "sumprod" 2 2 _) (wpAny_pure ?_)
      show wpAny _ A.in1 (pyIter (.ref pa) >>= _) _ _ _
      refine wpAny_bind (wpAny_pyIter_tuple hp' ?_)
      refine wpAny_bind (wpAny_holding (wpAny_pyIter_tuple (hq'.push _) ?_))
      refine wpAny_bind (wpAny_mkInt ?_)
      refine wpAny_bind (wpAny_newObj_type ?_)
      have zz : rawInt ((Float64.zero false).toNat : Int) = rawInt ((0 : UInt64).toNat : Int) := by decide
      simp only [zz]
      generalize hI : s.heap.objs.size = I at *
      have hJ : (s.heap.push { cls := .type "tuple_iterator", data := .fields #[.ref pa, .int 0 0] }).objs.size = I + 1 := by rw [Heap.size_push, hI]
      have W1 : Walks prog w A.in1 I [I, pa] [I] 3 _ _ := Walks.tuple (prog := prog) (w := w) (A := A.in1) hA I pa (Nat.ne_of_lt hpl) #[Value.float x ta1, Value.float y ta2, Value.float z ta3]
      have W2 : Walks prog w A.in1 (I + 1) [I + 1, qa] [I + 1] 3 _ _ := Walks.tuple (prog := prog) (w := w) (A := A.in1) hA (I + 1) qa (Nat.ne_of_lt (Nat.lt_succ_of_lt hql)) #[Value.int a tb1, Value.int b tb2, Value.int c tb3]
      have d1 : ∀ b ∈ [I + 1, qa], b ∉ [I] := by
        intro b hb hb'
        rw [List.mem_singleton.mp hb'] at hb
        rcases List.mem_cons.mp hb with e | hb
        · exact absurd e (Nat.ne_of_lt (Nat.lt_succ_self I))
        · exact absurd (List.mem_singleton.mp hb).symm (Nat.ne_of_lt hql)
      have d2 : ∀ b ∈ [I, pa], b ∉ [I + 1] := by
        intro b hb hb'
        rw [List.mem_singleton.mp hb'] at hb
        rcases List.mem_cons.mp hb with e | hb
        · exact absurd e.symm (Nat.ne_of_lt (Nat.lt_succ_self I))
        · exact absurd (List.mem_singleton.mp hb).symm (Nat.ne_of_lt (Nat.lt_succ_of_lt hpl))
      rw [hJ]
      generalize hh2 : (s.heap.push { cls := .type "tuple_iterator", data := .fields #[.ref pa, .int 0 0] }).push { cls := .type "tuple_iterator", data := .fields #[.ref qa, .int 0 0] } = g2
      have k2 : s.heap.StaysIn g2 := by rw [← hh2]; exact stays_trans (stays_push _ _) (stays_push _ _)
      have st1 : g2.IsTupleIter I pa 0 ∧ g2.IsTuple pa #[Value.float x ta1, Value.float y ta2, Value.float z ta3] := by
        rw [← hh2]
        have e1 : (s.heap.push { cls := .type "tuple_iterator", data := .fields #[.ref pa, .int 0 0] }).get? I = some { cls := .type "tuple_iterator", data := .fields #[.ref pa, .int 0 0] } := hI ▸ Heap.get?_push_size _ rfl
        exact ⟨⟨_, Heap.get?_push_of_some _ e1, rfl, rfl⟩, (hp'.push _).push _⟩
      have st2 : g2.IsTupleIter (I + 1) qa 0 ∧ g2.IsTuple qa #[Value.int a tb1, Value.int b tb2, Value.int c tb3] := by
        rw [← hh2]
        have e1 : ((s.heap.push { cls := .type "tuple_iterator", data := .fields #[.ref pa, .int 0 0] }).push { cls := .type "tuple_iterator", data := .fields #[.ref qa, .int 0 0] }).get? (I + 1) = some { cls := .type "tuple_iterator", data := .fields #[.ref qa, .int 0 0] } := hJ ▸ Heap.get?_push_size _ rfl
        exact ⟨⟨_, e1, rfl, rfl⟩, (hq'.push _).push _⟩
      have old : ∀ b, s.heap.get? b ≠ none → b ∉ [I] ∧ b ∉ [I + 1] := fun b hb => by
        have : b < I := by
          rw [← hI]
          cases e : s.heap.get? b with
          | none => exact absurd e hb
          | some o => exact Heap.lt_size e
        exact ⟨fun hm => absurd (List.mem_singleton.mp hm) (Nat.ne_of_lt this), fun hm => absurd (List.mem_singleton.mp hm) (Nat.ne_of_lt (Nat.lt_succ_of_lt this))⟩
      have st1' := W1.frame _ _ _ st1 fun b _ o e => Heap.get?_push_of_some { cls := .type "tuple", data := .seq #[rawInt ((0 : UInt64).toNat : Int), rawInt ((0 : UInt64).toNat : Int), rawInt ((0 : UInt64).toNat : Int)] } e
      have st2' := W2.frame _ _ _ st2 fun b _ o e => Heap.get?_push_of_some { cls := .type "tuple", data := .seq #[rawInt ((0 : UInt64).toNat : Int), rawInt ((0 : UInt64).toNat : Int), rawInt ((0 : UInt64).toNat : Int)] } e
      have at1 : ∀ {i : Nat} {v u : Value}, (#[Value.float x ta1, Value.float y ta2, Value.float z ta3] : Array Value)[i]? = some v → (#[Value.float x ta1, Value.float y ta2, Value.float z ta3] : Array Value)[i]? = some u → v = u := fun e e' => Option.some.inj (e.symm.trans e')
      have at2 : ∀ {i : Nat} {v u : Value}, (#[Value.int a tb1, Value.int b tb2, Value.int c tb3] : Array Value)[i]? = some v → (#[Value.int a tb1, Value.int b tb2, Value.int c tb3] : Array Value)[i]? = some u → v = u := fun e e' => Option.some.inj (e.symm.trans e')
      refine wpAny_pure ⟨plainId_quiet plain_sumprod_loop _, codeAny_builtin entry_sumprod_loop ?_⟩
      rw [Around.under_plainId plain_sumprod_loop _]
      refine sumprod_turn W1 W2 d1 d2 (i := 0) (by decide) (by decide) st1' st2' (fun v hv => ⟨_, at1 hv rfl⟩) (fun v hv => ⟨_, at2 hv rfl⟩) (t := (0, 0, 0)) (Heap.get?_push_size _ rfl) ha f1 fun h3 tk3 tb3 s13 s23 k3 e3 z3 => ?_
      refine ⟨plainId_quiet plain_sumprod_loop _, codeAny_builtin entry_sumprod_loop ?_⟩
      rw [Around.under_plainId plain_sumprod_loop _]
      refine sumprod_turn W1 W2 d1 d2 (i := 1) (by decide) (by decide) s13 s23 (fun v hv => ⟨_, at1 hv rfl⟩) (fun v hv => ⟨_, at2 hv rfl⟩) e3 hb f2 fun h4 tk4 tb4 s14 s24 k4 e4 z4 => ?_
      refine ⟨plainId_quiet plain_sumprod_loop _, codeAny_builtin entry_sumprod_loop ?_⟩
      rw [Around.under_plainId plain_sumprod_loop _]
      refine sumprod_turn W1 W2 d1 d2 (i := 2) (by decide) (by decide) s14 s24 (fun v hv => ⟨_, at1 hv rfl⟩) (fun v hv => ⟨_, at2 hv rfl⟩) e4 hc f3 fun h5 tk5 tb5 s15 s25 k5 e5 z5 => ?_
      refine ⟨plainId_quiet plain_sumprod_loop _, codeAny_builtin entry_sumprod_loop ?_⟩
      rw [Around.under_plainId plain_sumprod_loop _]
      refine sumprod_last W1 W2 d1 s15 s25 e5 fun h6 tk6 t6 k6 => ?_
      refine h _ h6 tk6 (fun b o e => ?_) (IsS.flt _ _)
      obtain ⟨n1, n2⟩ := old b (by rw [e]; exact Option.some_ne_none _)
      exact k6 b o n1 n2 (k5 b o n1 n2 (k4 b o n1 n2 (k3 b o n1 n2 (Heap.get?_push_of_some _ (k2 b o e)))))
end
end Mine
end

/-! part H1 -/
section
set_option maxRecDepth 100000
set_option linter.unusedVariables false
namespace Mine
open PySem PySem.Calls PySem.W PyProof.Rows

local macro_rules | `(tactic| walk_at "op") => `(tactic| with_reducible first
  | exact OP.addF | exact OP.mulF | exact OP.subF | exact OP.addI | exact OP.subI | exact OP.ltF | exact OP.gtF | exact OP.ltI)
local macro_rules | `(tactic| walk_at "ev") => `(tactic| first
  | (with_reducible exact EV.flt)
  | (with_reducible exact EV.int)
  | ((with_reducible refine' EV.name ?n1 ?n2 ?n3 ?n4); (case n1 => exact rfl); (case n2 => exact rfl); (case n3 => exact rfl); (case n4 => exact rfl))
  | ((with_reducible refine' EV.bin ?ea ?eb ?ec); (case ea => walk_at "ev"); (case eb => walk_at "ev"); (case ec => walk_at "op"))
  | (with_reducible exact EV.bool)
  | (with_reducible exact EV.nonec))
local macro_rules | `(tactic| walk_at "tv") => `(tactic| first
  | ((with_reducible refine' TV.cmp ?ea ?eb ?ec ?ed); (case ea => walk_at "ev"); (case eb => walk_at "ev"); (case ec => walk_at "op"); (case ed => with_unfolding_all rfl)))
local macro_rules | `(tactic| walk_at "asg") => `(tactic| (refine' EX.cons (EX1.assign ?k1 ?k2 ?k3 ?k4) ?_; (case k1 => exact rfl); (case k2 => exact rfl); (case k3 => walk_at "ev"); (case k4 => exact rfl)))
local macro_rules | `(tactic| walk_at "evs") => `(tactic| first
  | (with_reducible exact EVs.nil)
  | ((with_reducible refine' EVs.cons ?ca ?cb ?cc); (case ca => walk_at "ev"); (case cb => walk_at "evs"); (case cc => exact fun _ => rfl)))

/-- what stands as the run of the text leaves it -/
def kwObj (H : Int) (t : Tok) : Obj := { cls := .type "dict", data := .dict #[{ hash := H, key := .str "key" t, val := .none }] 1 }
def dfObj (t : Tok) : Obj := { cls := .type "tuple", data := .seq #[.int 0 t, .none] }
def nnObj : Obj := { cls := .type "tuple", data := .seq #[.none] }
structure GL (mg mb : Str → Option Value) (g0 : Heap) : Prop where
  g : g0.Ns mainGlobals mg
  b : g0.Ns builtinsNs mb
  lim : g0.NoLimit
  tab : g0.get? tabAddr = none
  code : CodeHd g0 132 tabAddr
  bat : g0.BuiltinsAt mg tabAddr
  o70 : g0.get? 70 = some nnObj
  o78 : g0.get? 78 = some (dfObj 441)
  o79 : ∃ H, g0.get? 79 = some (kwObj H 442)
  o87 : g0.get? 87 = some (dfObj 455)
  o88 : ∃ H, g0.get? 88 = some (kwObj H 456)
  f49 : FnAt g0 49 (fnParams (stmtAt 2)) (fnBody (stmtAt 2)) (fnScope (stmtAt 2)) .none .none
  f56 : FnAt g0 56 (fnParams (stmtAt 3)) (fnBody (stmtAt 3)) (fnScope (stmtAt 3)) .none .none
  f77 : FnAt g0 77 (fnParams (stmtAt 6)) (fnBody (stmtAt 6)) (fnScope (stmtAt 6)) (.ref 70) .none
  f86 : FnAt g0 86 (fnParams (stmtAt 8)) (fnBody (stmtAt 8)) (fnScope (stmtAt 8)) (.ref 78) (.ref 79)
  f95 : FnAt g0 95 (fnParams (stmtAt 9)) (fnBody (stmtAt 9)) (fnScope (stmtAt 9)) (.ref 87) (.ref 88)
  f102 : FnAt g0 102 (fnParams (stmtAt 11)) (fnBody (stmtAt 11)) (fnScope (stmtAt 11)) .none .none
  f109 : FnAt g0 109 (fnParams (stmtAt 12)) (fnBody (stmtAt 12)) (fnScope (stmtAt 12)) .none .none
  f116 : FnAt g0 116 (fnParams (stmtAt 13)) (fnBody (stmtAt 13)) (fnScope (stmtAt 13)) .none .none
  f123 : FnAt g0 123 (fnParams (stmtAt 14)) (fnBody (stmtAt 14)) (fnScope (stmtAt 14)) .none .none
  f128 : FnAt g0 128 (fnParams (stmtAt 15)) (fnBody (stmtAt 15)) (fnScope (stmtAt 15)) .none .none
  f133 : FnAtQ g0 133 (fnParams (stmtAt 16)) (fnBody (stmtAt 16)) (fnScope (stmtAt 16)) .none .none "_law_found" (.ref 132)
  f140 : FnAt g0 140 (fnParams (stmtAt 17)) (fnBody (stmtAt 17)) (fnScope (stmtAt 17)) .none .none
  n1 : mg "rgb_to_yiq" = some (.ref 49)
  n2 : mg "yiq_to_rgb" = some (.ref 56)
  n3 : mg "fmean" = some (.ref 77)
  n4 : mg "bisect_left" = some (.ref 95)
  n5 : mg "bisect_right" = some (.ref 86)
  n6 : mg "_law_parts" = some (.ref 102)
  n7 : mg "_law_weights" = some (.ref 109)
  n8 : mg "_law_weighed" = some (.ref 116)
  n9 : mg "_law_painted" = some (.ref 123)
  n10 : mg "_law_fine" = some (.ref 128)
  n11 : mg "_law_found" = some (.ref 133)
  n12 : mg "_law_is_nearest" = some (.ref 140)
  n13 : mg "fsum" = some (.builtin "math.fsum")
  n14 : mg "sumprod" = some (.builtin "math.sumprod")
  bl : ∀ x : Str, mg x = none → x ≠ "__name__" → mb x = bootBuiltins x
  m1 : mg "round" = none
  m2 : mg "isinstance" = none
  m3 : mg "len" = none
  m4 : mg "sum" = none
  m5 : mg "range" = none
  m6 : mg "min" = none
  m7 : mg "max" = none
  m8 : mg "list" = none
  m9 : mg "tuple" = none
  m10 : mg "float" = none

/-- a heap that bears it, and the table of codes -/
def Base (g0 : Heap) (h : Heap) : Prop := g0.StaysIn h ∧ TabOk h
theorem Base.tab {g0 h : Heap} (b : Base g0 h) : h.get? tabAddr ≠ none := by
  obtain ⟨ps, e, _⟩ := b.2
  rw [e]; exact Option.some_ne_none _
theorem Base.stays {g0 h h' : Heap} (b : Base g0 h) (k : h.StaysIn h') : Base g0 h' := ⟨stays_trans b.1 k, b.2.stays k⟩
section
variable {prog : Program} {w : World} {A : Around} {g g0 : Heap} {env : Env} {r : Vars} {mg mb : Str → Option Value} {P : Heap → Prop}
theorem Base.fr (b : Base g0 g) (h : Heap) (F : FR g env r h) : Base g0 h := b.stays F.keep

theorem BINDS.of1 {params : Arguments} {body : List Stmt} {scope : Scope} {dV kV : Value} {x1 : Str} {a1 : PV}
    (h : ∀ name qual doc pm cdv ct an v1, bindArgs (fnX name qual params body scope [] dV kV doc pm an cdv ct) ⟨[v1], []⟩ = pure [(x1, v1)]) : BINDS P params body scope dV kV [a1] [] [(x1, a1)] :=
  fun s vs kv name qual doc pm cdv ct an p ps pk => by
    cases ps with
    | cons i1 t => cases t; cases pk; exact ⟨_, BindsTo.of_eq (h ..), .cons ⟨rfl, i1⟩ .nil⟩
theorem BINDS.of2 {params : Arguments} {body : List Stmt} {scope : Scope} {dV kV : Value} {x1 x2 : Str} {a1 a2 : PV}
    (h : ∀ name qual doc pm cdv ct an v1 v2, bindArgs (fnX name qual params body scope [] dV kV doc pm an cdv ct) ⟨[v1, v2], []⟩ = pure [(x1, v1), (x2, v2)]) : BINDS P params body scope dV kV [a1, a2] [] [(x1, a1), (x2, a2)] :=
  fun s vs kv name qual doc pm cdv ct an p ps pk => by
    cases ps with
    | cons i1 t => cases t with | cons i2 t => cases t; cases pk; exact ⟨_, BindsTo.of_eq (h ..), .cons ⟨rfl, i1⟩ (.cons ⟨rfl, i2⟩ .nil)⟩
theorem BINDS.of3 {params : Arguments} {body : List Stmt} {scope : Scope} {dV kV : Value} {x1 x2 x3 : Str} {a1 a2 a3 : PV}
    (h : ∀ name qual doc pm cdv ct an v1 v2 v3, bindArgs (fnX name qual params body scope [] dV kV doc pm an cdv ct) ⟨[v1, v2, v3], []⟩ = pure [(x1, v1), (x2, v2), (x3, v3)]) : BINDS P params body scope dV kV [a1, a2, a3] [] [(x1, a1), (x2, a2), (x3, a3)] :=
  fun s vs kv name qual doc pm cdv ct an p ps pk => by
    cases ps with
    | cons i1 t => cases t with | cons i2 t => cases t with | cons i3 t => cases t; cases pk; exact ⟨_, BindsTo.of_eq (h ..), .cons ⟨rfl, i1⟩ (.cons ⟨rfl, i2⟩ (.cons ⟨rfl, i3⟩ .nil))⟩
theorem BINDS.of4 {params : Arguments} {body : List Stmt} {scope : Scope} {dV kV : Value} {x1 x2 x3 x4 : Str} {a1 a2 a3 a4 : PV}
    (h : ∀ name qual doc pm cdv ct an v1 v2 v3 v4, bindArgs (fnX name qual params body scope [] dV kV doc pm an cdv ct) ⟨[v1, v2, v3, v4], []⟩ = pure [(x1, v1), (x2, v2), (x3, v3), (x4, v4)]) : BINDS P params body scope dV kV [a1, a2, a3, a4] [] [(x1, a1), (x2, a2), (x3, a3), (x4, a4)] :=
  fun s vs kv name qual doc pm cdv ct an p ps pk => by
    cases ps with
    | cons i1 t => cases t with | cons i2 t => cases t with | cons i3 t => cases t with | cons i4 t => cases t; cases pk; exact ⟨_, BindsTo.of_eq (h ..), .cons ⟨rfl, i1⟩ (.cons ⟨rfl, i2⟩ (.cons ⟨rfl, i3⟩ (.cons ⟨rfl, i4⟩ .nil)))⟩

theorem locs {scope : Scope} {bp : Binds} (h : ((bp.map (·.1)).all fun n => scope.names.lookup n == some .local) = true) : ∀ x ∈ bp, scope.names.lookup x.1 = some .local := fun x hx => by
  have := List.all_eq_true.mp h x.1 (List.mem_map_of_mem hx)
  simpa using this
theorem locsC {scope : Scope} {bp : Binds} (h : ((bp.map (·.1)).all fun n => scope.names.lookup n == some .local || scope.names.lookup n == some .cell) = true) : ∀ x ∈ bp, scope.names.lookup x.1 = some .local ∨ scope.names.lookup x.1 = some .cell := fun x hx => by
  have := List.all_eq_true.mp h x.1 (List.mem_map_of_mem hx)
  simpa using this
theorem EV.gl (G : GL mg mb g0) (b : g0.StaysIn g) {x : Str} {pos : Pos} {v : Value} (hv : mg x = some v) (hk : env.scope.kind = .function) (hx : env.kindOf x = some .globalImplicit) (hg : env.globals = mainGlobals)
    (hd : (x == ("__debug__" : Str)) = false) : EV prog w A g env r (.Name x pos) (.val v) := EV.glob hk hx (hg ▸ G.g.keeps b) hv hd
theorem EV.bl (G : GL mg mb g0) (b : g0.StaysIn g) {x : Str} {pos : Pos} {v : Value} (hm : mg x = none) (hn : x ≠ "__name__") (hv : bootBuiltins x = some v) (hk : env.scope.kind = .function) (hx : env.kindOf x = some .globalImplicit) (hg : env.globals = mainGlobals)
    (hb : env.builtins = builtinsNs) (hd : (x == ("__debug__" : Str)) = false) : EV prog w A g env r (.Name x pos) (.val v) :=
  EV.blt hk hx (hg ▸ G.g.keeps b) hm (hb ▸ G.b.keeps b) ((G.bl x hm hn).trans hv) hd

theorem fn_yiq (G : GL mg mb g0) {n : Nat} (R : Room A n) {y i q : UInt64} : FN prog w A (Base g0) (.ref 56) [.flt y, .flt i, .flt q] [] (.tup [.flt (clampF (yiqR y i q)), .flt (clampF (yiqG y i q)), .flt (clampF (yiqB y i q))]) :=
  FN.def R (fun h p => G.f56.keeps p.1) (fun h p => G.lim.keeps p.1) (fun h p => p.tab) (BINDS.of3 fun _ _ _ _ _ _ _ _ _ _ => rfl)
    (by decide) (locs rfl) rfl rfl rfl fun g qual L cdv p => yiq_ex g qual L 56 cdv y i q
theorem rgb_ex (g : Heap) (qual : Str) (L a : Addr) (cdv : Value) (x y z : UInt64) : ∃ r', EX prog w A g (envX qual (fnScope (stmtAt 2)) L a cdv []) [("b", .flt z), ("g", .flt y), ("r", .flt x)] (fnBody (stmtAt 2))
    (.ret r' (.tup [.flt (lumF x y z), .flt (iF x z (lumF x y z)), .flt (qF x z (lumF x y z))])) := by
  refine ⟨?_, ?h⟩
  case h =>
    walk_at "asg"
    walk_at "asg"
    walk_at "asg"
    refine' EX.ret (EX1.ret (EV.tupD ?k1 ?k2))
    case k1 => show EVs _ _ _ _ _ _ _ _ [PV.sc _, PV.sc _, PV.sc _]; walk_at "evs"
    case k2 => exact Nat.le_of_ble_eq_true rfl
theorem fn_rgb (G : GL mg mb g0) {n : Nat} (R : Room A n) {x y z : UInt64} : FN prog w A (Base g0) (.ref 49) [.flt x, .flt y, .flt z] [] (.tup [.flt (lumF x y z), .flt (iF x z (lumF x y z)), .flt (qF x z (lumF x y z))]) :=
  FN.def R (fun h p => G.f49.keeps p.1) (fun h p => G.lim.keeps p.1) (fun h p => p.tab) (BINDS.of3 fun _ _ _ _ _ _ _ _ _ _ => rfl)
    (by decide) (locs rfl) rfl rfl rfl fun g qual L cdv p => rgb_ex g qual L 49 cdv x y z
end
end Mine
end

/-! part H2 -/
section
set_option maxRecDepth 100000
set_option linter.unusedVariables false
namespace Mine
open PySem PySem.Calls PySem.W PyProof.Rows

theorem fit1023 {n : Int} (h : n.natAbs < 2 ^ 64) : n.natAbs < 2 ^ 1023 := Nat.lt_of_lt_of_le h (Nat.pow_le_pow_right (by decide) (by decide))
theorem OP.pow30 {prog : Program} {w : World} {A : Around} : OP prog w A (binaryOp .Pow) (.int 2) (.int 30) (.int 1073741824) := OP.powI (a := 2) (b := 30) (by decide) (by decide) (by decide)
local macro_rules | `(tactic| walk_at "op") => `(tactic| with_reducible first
  | exact OP.addF | exact OP.mulF | exact OP.subF | exact OP.addI | exact OP.subI | exact OP.ltF | exact OP.gtF | exact OP.ltI | exact OP.gtI | exact OP.geI | exact OP.leI | exact OP.eqI | exact OP.neI
  | exact OP.modI (by decide) | exact OP.fdivI (by decide) (by decide) | exact OP.mulI (.of_right (intBits_le_64 (by decide) (by decide))) | exact OP.mulI (.of_left (intBits_le_64 (by decide) (by decide)))
  | exact OP.mulI (.of_left (intBits_le_64 (by omega) (by omega))) | exact OP.mulI (.of_right (intBits_le_64 (by omega) (by omega)))
  | exact OP.divI (by assumption) (by omega) (by decide) | exact OP.mulFI (fit1023 (by decide)) | exact OP.pow30)
local macro_rules | `(tactic| walk_at "sub") => `(tactic| first
  | ((with_reducible refine' SUB.tup ?s1 ?s2 ?s3 ?s4); (case s1 => decide); (case s2 => decide); (case s3 => exact rfl); (case s4 => exact fun _ _ => rfl))
  | ((with_reducible refine' SUB.lst ?s1 ?s2 ?s3 ?s4); (case s1 => decide); (case s2 => decide); (case s3 => exact rfl); (case s4 => exact fun _ _ => rfl)))
local macro_rules | `(tactic| walk_at "ev") => `(tactic| first
  | (with_reducible exact EV.flt)
  | (with_reducible exact EV.int)
  | ((with_reducible refine' EV.name ?n1 ?n2 ?n3 ?n4); (case n1 => exact rfl); (case n2 => exact rfl); (case n3 => exact rfl); (case n4 => exact rfl))
  | ((with_reducible refine' EV.bin ?ea ?eb ?ec); (case ea => walk_at "ev"); (case eb => walk_at "ev"); (case ec => walk_at "op"))
  | ((with_reducible refine' EV.sub ?ea ?eb ?ec); (case ea => walk_at "ev"); (case eb => walk_at "ev"); (case ec => walk_at "sub"))
  | (with_reducible exact EV.bool)
  | (with_reducible exact EV.nonec))
local macro_rules | `(tactic| walk_at "tv") => `(tactic| first
  | ((with_reducible refine' TV.cmp ?ea ?eb ?ec ?ed); (case ea => walk_at "ev"); (case eb => walk_at "ev"); (case ec => walk_at "op"); (case ed => with_unfolding_all rfl)))
local macro_rules | `(tactic| walk_at "asg") => `(tactic| (refine' EX.cons (EX1.assign ?k1 ?k2 ?k3 ?k4) ?_; (case k1 => exact rfl); (case k2 => exact rfl); (case k3 => walk_at "ev"); (case k4 => exact rfl)))
local macro_rules | `(tactic| walk_at "evs") => `(tactic| first
  | (with_reducible exact EVs.nil)
  | ((with_reducible refine' EVs.cons ?ca ?cb ?cc); (case ca => walk_at "ev"); (case cb => walk_at "evs"); (case cc => exact fun _ => rfl)))

def partOf (c k : Int) : Int := (c.fdiv k).fmod 11 * 60
def parts3 (c : Int) : List SV := [.int (c.fmod 11 * 60), .int ((c.fdiv 11).fmod 11 * 60), .int ((c.fdiv 121).fmod 11 * 60)]
def wgts3 (c : Int) : List SV := [.int (1 + (c.fdiv 1331).fmod 2), .int (1 + (c.fdiv 2662).fmod 2), .int (1 + (c.fdiv 5324).fmod 2)]
section
variable {prog : Program} {w : World} {A : Around} {g g0 : Heap} {env : Env} {r : Vars} {mg mb : Str → Option Value} {P : Heap → Prop}

theorem fn_parts (G : GL mg mb g0) {n : Nat} (R : Room A n) {c : Int} : FN prog w A (Base g0) (.ref 102) [.int c] [] (.lst (parts3 c)) :=
  FN.def R (fun h p => G.f102.keeps p.1) (fun h p => G.lim.keeps p.1) (fun h p => p.tab) (BINDS.of1 fun _ _ _ _ _ _ _ _ => rfl)
    (by decide) (locs rfl) rfl rfl rfl fun g qual L cdv p => by
      refine ⟨?_, ?h⟩
      case h =>
        refine' EX.ret (EX1.ret (EV.lstD ?k1 ?k2))
        case k1 => show EVs _ _ _ _ _ _ _ _ [PV.sc _, PV.sc _, PV.sc _]; walk_at "evs"
        case k2 => exact Nat.le_of_ble_eq_true rfl
theorem fn_weights (G : GL mg mb g0) {n : Nat} (R : Room A n) {c : Int} : FN prog w A (Base g0) (.ref 109) [.int c] [] (.tup (wgts3 c)) :=
  FN.def R (fun h p => G.f109.keeps p.1) (fun h p => G.lim.keeps p.1) (fun h p => p.tab) (BINDS.of1 fun _ _ _ _ _ _ _ _ => rfl)
    (by decide) (locs rfl) rfl rfl rfl fun g qual L cdv p => by
      refine ⟨?_, ?h⟩
      case h =>
        refine' EX.ret (EX1.ret (EV.tupD ?k1 ?k2))
        case k1 => show EVs _ _ _ _ _ _ _ _ [PV.sc _, PV.sc _, PV.sc _]; walk_at "evs"
        case k2 => exact Nat.le_of_ble_eq_true rfl
theorem fn_weighed (G : GL mg mb g0) {n : Nat} (R : Room A n) {a b c x y z : Int} (ha : 0 ≤ a ∧ a ≤ 2) (hb : 0 ≤ b ∧ b ≤ 2) (hc : 0 ≤ c ∧ c ≤ 2) :
    FN prog w A (Base g0) (.ref 116) [.tup [.int a, .int b, .int c], .lst [.int x, .int y, .int z]] [] (.int (a * x + b * y + c * z)) :=
  FN.def R (fun h p => G.f116.keeps p.1) (fun h p => G.lim.keeps p.1) (fun h p => p.tab) (BINDS.of2 fun _ _ _ _ _ _ _ _ _ => rfl)
    (by decide) (locs rfl) rfl rfl rfl fun g qual L cdv p => by
      refine ⟨?_, ?h⟩
      case h =>
        refine' EX.ret (EX1.ret ?k1)
        case k1 => walk_at "ev"
theorem fn_painted (G : GL mg mb g0) {n : Nat} (R : Room A (n + 1)) {y i q : UInt64} {s : Int} (hs : -600 ≤ s ∧ s ≤ 600) :
    FN prog w A (Base g0) (.ref 123) [.tup [.flt y, .flt i, .flt q], .int s] [] (.tup [.flt (clampF (yiqR (Float64.add y (divII s 600)) i q)), .flt (clampF (yiqG (Float64.add y (divII s 600)) i q)), .flt (clampF (yiqB (Float64.add y (divII s 600)) i q))]) :=
  FN.def R (fun h p => G.f123.keeps p.1) (fun h p => G.lim.keeps p.1) (fun h p => p.tab) (BINDS.of2 fun _ _ _ _ _ _ _ _ _ => rfl)
    (by decide) (locs rfl) rfl rfl rfl fun g qual L cdv p => by
      refine ⟨?_, ?h⟩
      case h =>
        have R' := R.deeper (envX qual (fnScope (stmtAt 14)) L 123 cdv [])
        have hh : (A.deeper (envX qual (fnScope (stmtAt 14)) L 123 cdv [])).handled = none := R'.hh
        have hb : s.natAbs < 2 ^ 1023 := Nat.lt_of_lt_of_le (show s.natAbs < 2 ^ 10 by omega) (Nat.pow_le_pow_right (by decide) (by decide))
        refine' EX.ret (EX1.ret (EV.app (P := Base g0) (EV.gl G p.1 G.n2 rfl rfl rfl rfl) ?k1 (CAN.def fun h q => G.f56.keeps q.1) (fn_yiq G R') (fun h F => p.fr h F) ?k2 ?k3))
        case k2 => exact fun _ => rfl
        case k3 => exact fun _ => rfl
        case k1 =>
          refine' EVs.cons ?a ?b (fun _ => rfl)
          case a =>
            refine' EV.bin ?a1 (EV.bin ?a2 ?a3 (OP.divI hh hb (by decide))) OP.addF
            case a1 => walk_at "ev"
            case a2 => walk_at "ev"
            case a3 => walk_at "ev"
          case b => walk_at "evs"
def fineSV : SV → SV
  | .flt x => .int (PySem.Flt.toInt Float64.nearestOf (fineF x))
  | _ => .none
theorem fn_fine (G : GL mg mb g0) {n : Nat} (R : Room A (n + 1)) {x y z : UInt64} (hx : Fin1 (fineF x)) (hy : Fin1 (fineF y)) (hz : Fin1 (fineF z)) :
    FN prog w A (Base g0) (.ref 128) [.tup [.flt x, .flt y, .flt z]] [] (.lst [fineSV (.flt x), fineSV (.flt y), fineSV (.flt z)]) :=
  FN.def R (fun h p => G.f128.keeps p.1) (fun h p => G.lim.keeps p.1) (fun h p => p.tab) (BINDS.of1 fun _ _ _ _ _ _ _ _ => rfl)
    (by decide) (locs rfl) rfl rfl rfl fun g qual L cdv p => by
      refine ⟨?_, ?h⟩
      case h =>
        have R' := R.deeper (envX qual (fnScope (stmtAt 15)) L 128 cdv [])
        refine' EX.ret (EX1.ret (EV.comp (x := "part") (xs := [.flt x, .flt y, .flt z]) (cl := []) (rf := []) fineSV ?k0 ?k1 (ITER.tup R'.hh) ?k3 ?k4 ?k5))
        case k0 => exact Seen.nil (by decide) (by decide) rfl (by decide) rfl
        case k1 => walk_at "ev"
        case k3 => exact Nat.le_of_ble_eq_true rfl
        case k5 => exact fun _ => rfl
        case k4 =>
          intro v hv C
          have key : ∃ u, v = .flt u ∧ Fin1 (fineF u) := by
            rcases List.mem_cons.mp hv with rfl | hv
            · exact ⟨x, rfl, hx⟩
            · rcases List.mem_cons.mp hv with rfl | hv
              · exact ⟨y, rfl, hy⟩
              · rw [List.mem_singleton.mp hv]; exact ⟨z, rfl, hz⟩
          obtain ⟨u, rfl, hu⟩ := key
          refine' EV.app (P := Base g0) (EV.bl G p.1 G.m1 (by decide) rfl rfl rfl rfl rfl rfl) ?k1 CAN.blt (FN.round R'.hh (fin_of hu) rfl) (fun h F => p.fr h F) ?k2 ?k3
          case k2 => exact fun _ => rfl
          case k3 => exact fun _ => rfl
          case k1 =>
            refine' EVs.cons ?a EVs.nil (fun _ => rfl)
            case a =>
              show EV _ _ _ _ _ _ _ (PV.flt (Float64.mul (Float64.mul u (Float64.ofInt 600)) (Float64.ofInt 1073741824)))
              walk_at "ev"
end
end Mine
end

/-! part H3 -/
section
set_option maxRecDepth 100000
set_option linter.unusedVariables false
namespace Mine
open PySem PySem.Calls PySem.W PyProof.Rows
local macro_rules | `(tactic| walk_at "op") => `(tactic| with_reducible first
  | exact OP.addF | exact OP.mulF | exact OP.subF | exact OP.addI | exact OP.subI | exact OP.ltF | exact OP.gtF | exact OP.ltI | exact OP.gtI | exact OP.geI | exact OP.leI | exact OP.eqI | exact OP.neI
  | exact OP.modI (by decide) | exact OP.fdivI (by decide) (by decide) | exact OP.mulI (.of_right (intBits_le_64 (by decide) (by decide))) | exact OP.mulI (.of_left (intBits_le_64 (by decide) (by decide)))
  | exact OP.mulI (.of_left (intBits_le_64 (by omega) (by omega))) | exact OP.mulI (.of_right (intBits_le_64 (by omega) (by omega)))
  | exact OP.divI (by assumption) (by omega) (by decide) | exact OP.mulFI (fit1023 (by decide)) | exact OP.pow30)
local macro_rules | `(tactic| walk_at "sub") => `(tactic| first
  | ((with_reducible refine' SUB.tup ?s1 ?s2 ?s3 ?s4); (case s1 => decide); (case s2 => decide); (case s3 => exact rfl); (case s4 => exact fun _ _ => rfl))
  | ((with_reducible refine' SUB.lst ?s1 ?s2 ?s3 ?s4); (case s1 => decide); (case s2 => decide); (case s3 => exact rfl); (case s4 => exact fun _ _ => rfl)))
local macro_rules | `(tactic| walk_at "ev") => `(tactic| first
  | (with_reducible exact EV.flt)
  | (with_reducible exact EV.int)
  | ((with_reducible refine' EV.name ?n1 ?n2 ?n3 ?n4); (case n1 => exact rfl); (case n2 => exact rfl); (case n3 => exact rfl); (case n4 => exact rfl))
  | ((with_reducible refine' EV.bin ?ea ?eb ?ec); (case ea => walk_at "ev"); (case eb => walk_at "ev"); (case ec => walk_at "op"))
  | ((with_reducible refine' EV.sub ?ea ?eb ?ec); (case ea => walk_at "ev"); (case eb => walk_at "ev"); (case ec => walk_at "sub"))
  | (with_reducible exact EV.bool)
  | (with_reducible exact EV.nonec))
local macro_rules | `(tactic| walk_at "tv") => `(tactic| first
  | ((with_reducible refine' TV.cmp ?ea ?eb ?ec ?ed); (case ea => walk_at "ev"); (case eb => walk_at "ev"); (case ec => walk_at "op"); (case ed => with_unfolding_all rfl)))
local macro_rules | `(tactic| walk_at "asg") => `(tactic| (refine' EX.cons (EX1.assign ?k1 ?k2 ?k3 ?k4) ?_; (case k1 => exact rfl); (case k2 => exact rfl); (case k3 => walk_at "ev"); (case k4 => exact rfl)))
local macro_rules | `(tactic| walk_at "evs") => `(tactic| first
  | (with_reducible exact EVs.nil)
  | ((with_reducible refine' EVs.cons ?ca ?cb ?cc); (case ca => walk_at "ev"); (case cb => walk_at "evs"); (case cc => exact fun _ => rfl)))

section
variable {prog : Program} {w : World} {A : Around} {g g0 : Heap} {env : Env} {r : Vars} {mg mb : Str → Option Value} {P : Heap → Prop}

def frag2 (a : Addr) (o : Obj) (b : Addr) (q : Obj) : Frag := [(a, o), (b, q)]
theorem frag2_in {h : Heap} {a b : Addr} {o q : Obj} (h1 : h.get? a = some o) (h2 : h.get? b = some q) : (frag2 a o b q).In h := fun c x e => by
  unfold frag2 at e
  rw [List.lookup_cons] at e
  split at e
  · cases e; rename_i hh; rw [eq_of_beq hh]; exact h1
  · rw [List.lookup_cons] at e
    split at e
    · cases e; rename_i hh; rw [eq_of_beq hh]; exact h2
    · cases e
theorem BINDS.bis (hf : ∀ h, P h → h.get? 78 = some (dfObj 441) ∧ ∃ H, h.get? 79 = some (kwObj H 442)) {a x k : PV} :
    BINDS P (fnParams (stmtAt 8)) (fnBody (stmtAt 8)) (fnScope (stmtAt 8)) (.ref 78) (.ref 79) [a, x] [("key", k)] [("a", a), ("x", x), ("lo", .int 0), ("hi", .none), ("key", k)] :=
  fun s vs kv name qual doc pm cdv ct an p ps pk => by
    obtain ⟨h1, H, h2⟩ := hf _ p
    cases ps with
    | cons i1 t => cases t with | cons i2 t =>
      cases t
      cases pk with
      | @cons kk _ _ _ j1 t =>
        cases t
        obtain ⟨n, v⟩ := kk
        obtain ⟨rfl, j2⟩ := j1
        exact ⟨_, kp_binds (frag2_in h1 h2) (fun S => rfl), .cons ⟨rfl, i1⟩ (.cons ⟨rfl, i2⟩ (.cons ⟨rfl, IsS.int 0 441⟩ (.cons ⟨rfl, IsS.none⟩ (.cons ⟨rfl, j2⟩ .nil))))⟩
theorem BINDS.bis0 (hf : ∀ h, P h → h.get? 78 = some (dfObj 441) ∧ ∃ H, h.get? 79 = some (kwObj H 442)) {a x : PV} :
    BINDS P (fnParams (stmtAt 8)) (fnBody (stmtAt 8)) (fnScope (stmtAt 8)) (.ref 78) (.ref 79) [a, x] [] [("a", a), ("x", x), ("lo", .int 0), ("hi", .none), ("key", .none)] :=
  fun s vs kv name qual doc pm cdv ct an p ps pk => by
    obtain ⟨h1, H, h2⟩ := hf _ p
    cases ps with
    | cons i1 t => cases t with | cons i2 t =>
      cases t; cases pk
      exact ⟨_, kp_binds (frag2_in h1 h2) (fun S => rfl), .cons ⟨rfl, i1⟩ (.cons ⟨rfl, i2⟩ (.cons ⟨rfl, IsS.int 0 441⟩ (.cons ⟨rfl, IsS.none⟩ (.cons ⟨rfl, IsS.none⟩ .nil))))⟩
theorem BINDS.bil (hf : ∀ h, P h → h.get? 87 = some (dfObj 455) ∧ ∃ H, h.get? 88 = some (kwObj H 456)) {a x k : PV} :
    BINDS P (fnParams (stmtAt 9)) (fnBody (stmtAt 9)) (fnScope (stmtAt 9)) (.ref 87) (.ref 88) [a, x] [("key", k)] [("a", a), ("x", x), ("lo", .int 0), ("hi", .none), ("key", k)] :=
  fun s vs kv name qual doc pm cdv ct an p ps pk => by
    obtain ⟨h1, H, h2⟩ := hf _ p
    cases ps with
    | cons i1 t => cases t with | cons i2 t =>
      cases t
      cases pk with
      | @cons kk _ _ _ j1 t =>
        cases t
        obtain ⟨n, v⟩ := kk
        obtain ⟨rfl, j2⟩ := j1
        exact ⟨_, kp_binds (frag2_in h1 h2) (fun S => rfl), .cons ⟨rfl, i1⟩ (.cons ⟨rfl, i2⟩ (.cons ⟨rfl, IsS.int 0 455⟩ (.cons ⟨rfl, IsS.none⟩ (.cons ⟨rfl, j2⟩ .nil))))⟩
theorem BINDS.bil0 (hf : ∀ h, P h → h.get? 87 = some (dfObj 455) ∧ ∃ H, h.get? 88 = some (kwObj H 456)) {a x : PV} :
    BINDS P (fnParams (stmtAt 9)) (fnBody (stmtAt 9)) (fnScope (stmtAt 9)) (.ref 87) (.ref 88) [a, x] [] [("a", a), ("x", x), ("lo", .int 0), ("hi", .none), ("key", .none)] :=
  fun s vs kv name qual doc pm cdv ct an p ps pk => by
    obtain ⟨h1, H, h2⟩ := hf _ p
    cases ps with
    | cons i1 t => cases t with | cons i2 t =>
      cases t; cases pk
      exact ⟨_, kp_binds (frag2_in h1 h2) (fun S => rfl), .cons ⟨rfl, i1⟩ (.cons ⟨rfl, i2⟩ (.cons ⟨rfl, IsS.int 0 455⟩ (.cons ⟨rfl, IsS.none⟩ (.cons ⟨rfl, IsS.none⟩ .nil))))⟩

def Sub (r0 r : Vars) : Prop := ∀ x p, r0.lookup x = some p → r.lookup x = some p
theorem Sub.nil {r : Vars} : Sub [] r := fun _ _ e => (nomatch e)
theorem Sub.cons {r0 r : Vars} {x : Str} {p : PV} (h : r.lookup x = some p) (t : Sub r0 r) : Sub ((x, p) :: r0) r := fun y q e => by
  rw [lookup_cons'] at e
  by_cases z : y = x
  · subst z; rw [if_pos rfl] at e; rw [← e]; exact h
  · rw [if_neg z] at e; exact t y q e
theorem Sub.trans {a b c : Vars} (h : Sub a b) (k : Sub b c) : Sub a c := fun x p e => k x p (h x p e)
theorem TV.less {r0 : Vars} {e : Expr} {b : Bool} (h : TV prog w A g env r0 e b) (k : Sub r0 r) : TV prog w A g env r e b := fun s Q E F q => h s Q E (F.less k) fun h' t' F' st => by
  refine q h' t' ?_ st
  exact F.stays st
theorem TV.is {e : Expr} {b c : Bool} (h : TV prog w A g env r e b) (q : b = c) : TV prog w A g env r e c := q ▸ h
/-- an if of which one road is never gone -/
theorem EX1.yes {test : Expr} {b o : List Stmt} {pos : Pos} {c : Bool} {out : Out} (h1 : TV prog w A g env r test c) (hc : c = true) (h2 : EX prog w A g env r b out) : EX1 prog w A g env r (.If test b o pos) out :=
  EX1.ite h1 (fun _ => h2) (fun e => by rw [hc] at e; cases e)
theorem EX1.no {test : Expr} {b o : List Stmt} {pos : Pos} {c : Bool} {out : Out} (h1 : TV prog w A g env r test c) (hc : c = false) (h2 : EX prog w A g env r o out) : EX1 prog w A g env r (.If test b o pos) out :=
  EX1.ite h1 (fun e => by rw [hc] at e; cases e) (fun _ => h2)

def lv (lo hi x : Int) (pf : PV) : Vars := [("lo", .int lo), ("hi", .int hi), ("a", .rng (-600) 601), ("x", .int x), ("key", pf)]
/-- the place of x among the keys: what bisect_right tells -/
def PlaceR (T : Int → Int) (x res : Int) : Prop := 0 ≤ res ∧ res ≤ 1201 ∧ (∀ j, 0 ≤ j → j < res → T j ≤ x) ∧ (∀ j, res ≤ j → j < 1201 → x < T j)
def PlaceL (T : Int → Int) (x res : Int) : Prop := 0 ≤ res ∧ res ≤ 1201 ∧ (∀ j, 0 ≤ j → j < res → T j < x) ∧ (∀ j, res ≤ j → j < 1201 → x ≤ T j)
def Inv1 (x : Int) (pf : PV) (res : Int) (n : Nat) (r : Vars) : Prop := ∃ lo hi : Int, Sub (lv lo hi x pf) r ∧ 0 ≤ lo ∧ lo ≤ res ∧ res ≤ hi ∧ hi ≤ 1201 ∧ n = (hi - lo).toNat

theorem mid_ok {lo hi : Int} (h : lo < hi) (h0 : 0 ≤ lo) : lo ≤ (lo + hi).fdiv 2 ∧ (lo + hi).fdiv 2 < hi := by
  rw [Int.fdiv_eq_ediv_of_nonneg _ (by decide)]; omega
theorem EX1.search {test : Expr} {body : List Stmt} {pos : Pos} {x res : Int} {pf : PV} (hres : 0 ≤ res ∧ res ≤ 1201)
    (htest : ∀ lo hi, TV prog w A g env (lv lo hi x pf) test (decide (lo < hi)))
    (hbody : ∀ lo hi : Int, 0 ≤ lo → lo < hi → hi ≤ 1201 → lo ≤ res → res ≤ hi → ∃ (lo' hi' : Int) (r2 : Vars), EX prog w A g env (lv lo hi x pf) body (.nxt r2) ∧ Sub (lv lo' hi' x pf) r2 ∧ 0 ≤ lo' ∧ lo' ≤ res ∧ res ≤ hi' ∧ hi' ≤ 1201 ∧ (hi' - lo').toNat < (hi - lo).toNat)
    (h0 : Sub (lv 0 1201 x pf) r) : EX1 prog w A g env r (.While test body [] pos) (.nxt [("lo", .int res)]) := by
  refine EX1.while (Inv1 x pf res) (fun n r hI => ?_) (n := (1201 - 0 : Int).toNat) ⟨0, 1201, h0, by decide, hres.1, hres.2, by decide, rfl⟩
  obtain ⟨lo, hi, hs, b0, b1, b2, b3, rfl⟩ := hI
  by_cases hlt : lo < hi
  · obtain ⟨lo', hi', r2, ex, s2, c0, c1, c2, c3, c4⟩ := hbody lo hi b0 hlt b3 b1 b2
    exact .inr ⟨((htest lo hi).is (decide_eq_true hlt)).less hs, _, r2, c4, ex.less hs, ⟨lo', hi', s2, c0, c1, c2, c3, rfl⟩⟩
  · refine .inl ⟨((htest lo hi).is (decide_eq_false hlt)).less hs, Sub.cons ?_ Sub.nil⟩
    have e : lo = res := by omega
    rw [← e]
    exact hs _ _ rfl
local macro_rules | `(tactic| walk_at "lt") => `(tactic| ((with_reducible refine' TV.cmp ?ea ?eb OP.ltI ?ed); (case ea => walk_at "ev"); (case eb => walk_at "ev"); (case ed => with_unfolding_all rfl)))

theorem fn_bisR (G : GL mg mb g0) {m : Nat} (R : Room A (m + 1)) {x res : Int} (hPb : ∀ h, P h → Base g0 h) (hPs : ∀ h h', P h → h.StaysIn h' → P h') {pa : Arguments} {bo : Expr} {sc : Scope} {cl : List (Str × Addr)} {T : Int → Int} (hkey : ∀ A', Room A' m → ∀ j : Int, 0 ≤ j → j < 1201 → FNV prog w A' P (.lam pa bo sc cl) [.int (-600 + j)] [] (.int (T j)))
    (hp : PlaceR T x res) : FN prog w A P (.ref 86) [.rng (-600) 601, .int x] [("key", .lam pa bo sc cl)] (.int res) :=
  FN.def R (fun h p => G.f86.keeps (hPb h p).1) (fun h p => G.lim.keeps (hPb h p).1) (fun h p => (hPb h p).tab) (BINDS.bis fun h p => ⟨(hPb h p).1 _ _ G.o78, let ⟨H, e⟩ := G.o79; ⟨H, (hPb h p).1 _ _ e⟩⟩)
    (by decide) (locs rfl) rfl rfl rfl fun g qual L cdv p => by
      have R' := R.deeper (envX qual (fnScope (stmtAt 8)) L 86 cdv [])
      refine ⟨?_, ?h⟩
      case h =>
        refine' EX.cons (EX1.no ?t1 ?d1 EX.nil) ?_
        case t1 => walk_at "lt"
        case d1 => exact rfl
        refine' EX.cons (EX1.yes (TV.cmp ?a1 EV.nonec (OP.isNone (a := PV.none) ?a2) (by with_unfolding_all rfl)) rfl (EX.cons (EX1.assign rfl rfl ?e2 rfl) EX.nil)) ?_
        case a1 => walk_at "ev"
        case a2 => exact fun v e => by cases e
        case e2 =>
          refine' EV.app (P := fun _ => True) (EV.bl G (hPb _ p).1 G.m3 (by decide) rfl rfl rfl rfl rfl rfl) (EVs.cons ?i1 EVs.nil (fun _ => rfl)) CAN.blt (FN.lenRng (a := -600) (b := 601) (by decide) (by decide)) (fun _ _ => trivial) (fun _ => rfl) (fun _ => rfl)
          case i1 => walk_at "ev"
        refine' EX.cons (EX1.no (TV.cmp ?a1 EV.nonec (OP.isNone (a := (.lam pa bo sc cl)) ?a2) (by with_unfolding_all rfl)) rfl (EX.cons (EX1.search (x := x) (res := res) (pf := (.lam pa bo sc cl)) ⟨hp.1, hp.2.1⟩ ?s1 ?s2 ?s3) EX.nil)) ?_
        case a1 => walk_at "ev"
        case a2 => exact fun v e => by cases e
        case s3 => exact Sub.cons rfl (Sub.cons rfl (Sub.cons rfl (Sub.cons rfl (Sub.cons rfl Sub.nil))))
        case s1 => intro lo hi; walk_at "lt"
        case s2 =>
          intro lo hi h0 hlt h1 hl hr
          obtain ⟨m1, m2⟩ := mid_ok hlt h0
          by_cases hc : x < T ((lo + hi).fdiv 2)
          · have hm : res ≤ (lo + hi).fdiv 2 := by
              refine Int.not_lt.mp fun q => ?_
              have := hp.2.2.1 ((lo + hi).fdiv 2) (by omega) q
              try simp only at this
              omega
            refine ⟨lo, ((lo + hi).fdiv 2), ?_, ?h, ?_⟩
            case h =>
              refine' EX.cons (EX1.assign rfl rfl ?m1 rfl) (EX.cons (EX1.yes ?tv (decide_eq_true hc) (EX.cons (EX1.assign rfl rfl ?m2 rfl) EX.nil)) EX.nil)
              case m1 => walk_at "ev"
              case m2 => walk_at "ev"
              case tv =>
                refine' TV.cmp ?xx (EV.appV (P := P) (f := .lam pa bo sc cl) ?kn (EVs.cons ?it EVs.nil (fun _ => rfl)) CANV.lam (hkey _ R' ((lo + hi).fdiv 2) (by omega) (by omega)) (fun h F => hPs _ _ p F.keep) (fun _ => rfl) (fun _ => rfl)) OP.ltI (by with_unfolding_all rfl)
                case xx => walk_at "ev"
                case kn => walk_at "ev"
                case it =>
                  refine' EV.sub ?i1 ?i2 (SUB.rng (a := -600) (b := 601) (i := (lo + hi).fdiv 2) (by omega) (by omega) (fun _ _ => rfl))
                  case i1 => walk_at "ev"
                  case i2 => walk_at "ev"
            exact ⟨Sub.cons rfl (Sub.cons rfl (Sub.cons rfl (Sub.cons rfl (Sub.cons rfl Sub.nil)))), by omega, by omega, by omega, by omega, by omega⟩
          · have hm : (lo + hi).fdiv 2 < res := by
              refine Int.not_le.mp fun q => ?_
              have := hp.2.2.2 ((lo + hi).fdiv 2) q (by omega)
              try simp only at this
              omega
            refine ⟨((lo + hi).fdiv 2 + 1), hi, ?_, ?h, ?_⟩
            case h =>
              refine' EX.cons (EX1.assign rfl rfl ?m1 rfl) (EX.cons (EX1.no ?tv (decide_eq_false hc) (EX.cons (EX1.assign rfl rfl ?m2 rfl) EX.nil)) EX.nil)
              case m1 => walk_at "ev"
              case m2 => walk_at "ev"
              case tv =>
                refine' TV.cmp ?xx (EV.appV (P := P) (f := .lam pa bo sc cl) ?kn (EVs.cons ?it EVs.nil (fun _ => rfl)) CANV.lam (hkey _ R' ((lo + hi).fdiv 2) (by omega) (by omega)) (fun h F => hPs _ _ p F.keep) (fun _ => rfl) (fun _ => rfl)) OP.ltI (by with_unfolding_all rfl)
                case xx => walk_at "ev"
                case kn => walk_at "ev"
                case it =>
                  refine' EV.sub ?i1 ?i2 (SUB.rng (a := -600) (b := 601) (i := (lo + hi).fdiv 2) (by omega) (by omega) (fun _ _ => rfl))
                  case i1 => walk_at "ev"
                  case i2 => walk_at "ev"
            exact ⟨Sub.cons rfl (Sub.cons rfl (Sub.cons rfl (Sub.cons rfl (Sub.cons rfl Sub.nil)))), by omega, by omega, by omega, by omega, by omega⟩
        refine' EX.ret (EX1.ret ?r1)
        case r1 => walk_at "ev"

theorem fn_bisL (G : GL mg mb g0) {m : Nat} (R : Room A (m + 1)) {x res : Int} (hPb : ∀ h, P h → Base g0 h) (hPs : ∀ h h', P h → h.StaysIn h' → P h') {pa : Arguments} {bo : Expr} {sc : Scope} {cl : List (Str × Addr)} {T : Int → Int} (hkey : ∀ A', Room A' m → ∀ j : Int, 0 ≤ j → j < 1201 → FNV prog w A' P (.lam pa bo sc cl) [.int (-600 + j)] [] (.int (T j)))
    (hp : PlaceL T x res) : FN prog w A P (.ref 95) [.rng (-600) 601, .int x] [("key", .lam pa bo sc cl)] (.int res) :=
  FN.def R (fun h p => G.f95.keeps (hPb h p).1) (fun h p => G.lim.keeps (hPb h p).1) (fun h p => (hPb h p).tab) (BINDS.bil fun h p => ⟨(hPb h p).1 _ _ G.o87, let ⟨H, e⟩ := G.o88; ⟨H, (hPb h p).1 _ _ e⟩⟩)
    (by decide) (locs rfl) rfl rfl rfl fun g qual L cdv p => by
      have R' := R.deeper (envX qual (fnScope (stmtAt 9)) L 95 cdv [])
      refine ⟨?_, ?h⟩
      case h =>
        refine' EX.cons (EX1.no ?t1 ?d1 EX.nil) ?_
        case t1 => walk_at "lt"
        case d1 => exact rfl
        refine' EX.cons (EX1.yes (TV.cmp ?a1 EV.nonec (OP.isNone (a := PV.none) ?a2) (by with_unfolding_all rfl)) rfl (EX.cons (EX1.assign rfl rfl ?e2 rfl) EX.nil)) ?_
        case a1 => walk_at "ev"
        case a2 => exact fun v e => by cases e
        case e2 =>
          refine' EV.app (P := fun _ => True) (EV.bl G (hPb _ p).1 G.m3 (by decide) rfl rfl rfl rfl rfl rfl) (EVs.cons ?i1 EVs.nil (fun _ => rfl)) CAN.blt (FN.lenRng (a := -600) (b := 601) (by decide) (by decide)) (fun _ _ => trivial) (fun _ => rfl) (fun _ => rfl)
          case i1 => walk_at "ev"
        refine' EX.cons (EX1.no (TV.cmp ?a1 EV.nonec (OP.isNone (a := (.lam pa bo sc cl)) ?a2) (by with_unfolding_all rfl)) rfl (EX.cons (EX1.search (x := x) (res := res) (pf := (.lam pa bo sc cl)) ⟨hp.1, hp.2.1⟩ ?s1 ?s2 ?s3) EX.nil)) ?_
        case a1 => walk_at "ev"
        case a2 => exact fun v e => by cases e
        case s3 => exact Sub.cons rfl (Sub.cons rfl (Sub.cons rfl (Sub.cons rfl (Sub.cons rfl Sub.nil))))
        case s1 => intro lo hi; walk_at "lt"
        case s2 =>
          intro lo hi h0 hlt h1 hl hr
          obtain ⟨m1, m2⟩ := mid_ok hlt h0
          by_cases hc : T ((lo + hi).fdiv 2) < x
          · have hm : (lo + hi).fdiv 2 < res := by
              refine Int.not_le.mp fun q => ?_
              have := hp.2.2.2 ((lo + hi).fdiv 2) q (by omega)
              try simp only at this
              omega
            refine ⟨((lo + hi).fdiv 2 + 1), hi, ?_, ?h, ?_⟩
            case h =>
              refine' EX.cons (EX1.assign rfl rfl ?m1 rfl) (EX.cons (EX1.yes ?tv (decide_eq_true hc) (EX.cons (EX1.assign rfl rfl ?m2 rfl) EX.nil)) EX.nil)
              case m1 => walk_at "ev"
              case m2 => walk_at "ev"
              case tv =>
                refine' TV.cmp (EV.appV (P := P) (f := .lam pa bo sc cl) ?kn (EVs.cons ?it EVs.nil (fun _ => rfl)) CANV.lam (hkey _ R' ((lo + hi).fdiv 2) (by omega) (by omega)) (fun h F => hPs _ _ p F.keep) (fun _ => rfl) (fun _ => rfl)) ?xx OP.ltI (by with_unfolding_all rfl)
                case xx => walk_at "ev"
                case kn => walk_at "ev"
                case it =>
                  refine' EV.sub ?i1 ?i2 (SUB.rng (a := -600) (b := 601) (i := (lo + hi).fdiv 2) (by omega) (by omega) (fun _ _ => rfl))
                  case i1 => walk_at "ev"
                  case i2 => walk_at "ev"
            exact ⟨Sub.cons rfl (Sub.cons rfl (Sub.cons rfl (Sub.cons rfl (Sub.cons rfl Sub.nil)))), by omega, by omega, by omega, by omega, by omega⟩
          · have hm : res ≤ (lo + hi).fdiv 2 := by
              refine Int.not_lt.mp fun q => ?_
              have := hp.2.2.1 ((lo + hi).fdiv 2) (by omega) q
              try simp only at this
              omega
            refine ⟨lo, ((lo + hi).fdiv 2), ?_, ?h, ?_⟩
            case h =>
              refine' EX.cons (EX1.assign rfl rfl ?m1 rfl) (EX.cons (EX1.no ?tv (decide_eq_false hc) (EX.cons (EX1.assign rfl rfl ?m2 rfl) EX.nil)) EX.nil)
              case m1 => walk_at "ev"
              case m2 => walk_at "ev"
              case tv =>
                refine' TV.cmp (EV.appV (P := P) (f := .lam pa bo sc cl) ?kn (EVs.cons ?it EVs.nil (fun _ => rfl)) CANV.lam (hkey _ R' ((lo + hi).fdiv 2) (by omega) (by omega)) (fun h F => hPs _ _ p F.keep) (fun _ => rfl) (fun _ => rfl)) ?xx OP.ltI (by with_unfolding_all rfl)
                case xx => walk_at "ev"
                case kn => walk_at "ev"
                case it =>
                  refine' EV.sub ?i1 ?i2 (SUB.rng (a := -600) (b := 601) (i := (lo + hi).fdiv 2) (by omega) (by omega) (fun _ _ => rfl))
                  case i1 => walk_at "ev"
                  case i2 => walk_at "ev"
            exact ⟨Sub.cons rfl (Sub.cons rfl (Sub.cons rfl (Sub.cons rfl (Sub.cons rfl Sub.nil)))), by omega, by omega, by omega, by omega, by omega⟩
        refine' EX.ret (EX1.ret ?r1)
        case r1 => walk_at "ev"

theorem fn_bisR0 (G : GL mg mb g0) {m : Nat} (R : Room A (m + 1)) {x res : Int} (hPb : ∀ h, P h → Base g0 h) (hPs : ∀ h h', P h → h.StaysIn h' → P h') 
    (hp : PlaceR (fun j => -600 + j) x res) : FN prog w A P (.ref 86) [.rng (-600) 601, .int x] [] (.int res) :=
  FN.def R (fun h p => G.f86.keeps (hPb h p).1) (fun h p => G.lim.keeps (hPb h p).1) (fun h p => (hPb h p).tab) (BINDS.bis0 fun h p => ⟨(hPb h p).1 _ _ G.o78, let ⟨H, e⟩ := G.o79; ⟨H, (hPb h p).1 _ _ e⟩⟩)
    (by decide) (locs rfl) rfl rfl rfl fun g qual L cdv p => by
      have R' := R.deeper (envX qual (fnScope (stmtAt 8)) L 86 cdv [])
      refine ⟨?_, ?h⟩
      case h =>
        refine' EX.cons (EX1.no ?t1 ?d1 EX.nil) ?_
        case t1 => walk_at "lt"
        case d1 => exact rfl
        refine' EX.cons (EX1.yes (TV.cmp ?a1 EV.nonec (OP.isNone (a := PV.none) ?a2) (by with_unfolding_all rfl)) rfl (EX.cons (EX1.assign rfl rfl ?e2 rfl) EX.nil)) ?_
        case a1 => walk_at "ev"
        case a2 => exact fun v e => by cases e
        case e2 =>
          refine' EV.app (P := fun _ => True) (EV.bl G (hPb _ p).1 G.m3 (by decide) rfl rfl rfl rfl rfl rfl) (EVs.cons ?i1 EVs.nil (fun _ => rfl)) CAN.blt (FN.lenRng (a := -600) (b := 601) (by decide) (by decide)) (fun _ _ => trivial) (fun _ => rfl) (fun _ => rfl)
          case i1 => walk_at "ev"
        refine' EX.cons (EX1.yes (TV.cmp ?a1 EV.nonec (OP.isNone (a := PV.none) ?a2) (by with_unfolding_all rfl)) rfl (EX.cons (EX1.search (x := x) (res := res) (pf := PV.none) ⟨hp.1, hp.2.1⟩ ?s1 ?s2 ?s3) EX.nil)) ?_
        case a1 => walk_at "ev"
        case a2 => exact fun v e => by cases e
        case s3 => exact Sub.cons rfl (Sub.cons rfl (Sub.cons rfl (Sub.cons rfl (Sub.cons rfl Sub.nil))))
        case s1 => intro lo hi; walk_at "lt"
        case s2 =>
          intro lo hi h0 hlt h1 hl hr
          obtain ⟨m1, m2⟩ := mid_ok hlt h0
          by_cases hc : x < (-600 + (lo + hi).fdiv 2)
          · have hm : res ≤ (lo + hi).fdiv 2 := by
              refine Int.not_lt.mp fun q => ?_
              have := hp.2.2.1 ((lo + hi).fdiv 2) (by omega) q
              try simp only at this
              omega
            refine ⟨lo, ((lo + hi).fdiv 2), ?_, ?h, ?_⟩
            case h =>
              refine' EX.cons (EX1.assign rfl rfl ?m1 rfl) (EX.cons (EX1.yes ?tv (decide_eq_true hc) (EX.cons (EX1.assign rfl rfl ?m2 rfl) EX.nil)) EX.nil)
              case m1 => walk_at "ev"
              case m2 => walk_at "ev"
              case tv =>
                refine' TV.cmp ?xx (EV.sub ?i1 ?i2 (SUB.rng (a := -600) (b := 601) (i := (lo + hi).fdiv 2) (by omega) (by omega) (fun _ _ => rfl))) OP.ltI (by with_unfolding_all rfl)
                case xx => walk_at "ev"
                case i1 => walk_at "ev"
                case i2 => walk_at "ev"
            exact ⟨Sub.cons rfl (Sub.cons rfl (Sub.cons rfl (Sub.cons rfl (Sub.cons rfl Sub.nil)))), by omega, by omega, by omega, by omega, by omega⟩
          · have hm : (lo + hi).fdiv 2 < res := by
              refine Int.not_le.mp fun q => ?_
              have := hp.2.2.2 ((lo + hi).fdiv 2) q (by omega)
              try simp only at this
              omega
            refine ⟨((lo + hi).fdiv 2 + 1), hi, ?_, ?h, ?_⟩
            case h =>
              refine' EX.cons (EX1.assign rfl rfl ?m1 rfl) (EX.cons (EX1.no ?tv (decide_eq_false hc) (EX.cons (EX1.assign rfl rfl ?m2 rfl) EX.nil)) EX.nil)
              case m1 => walk_at "ev"
              case m2 => walk_at "ev"
              case tv =>
                refine' TV.cmp ?xx (EV.sub ?i1 ?i2 (SUB.rng (a := -600) (b := 601) (i := (lo + hi).fdiv 2) (by omega) (by omega) (fun _ _ => rfl))) OP.ltI (by with_unfolding_all rfl)
                case xx => walk_at "ev"
                case i1 => walk_at "ev"
                case i2 => walk_at "ev"
            exact ⟨Sub.cons rfl (Sub.cons rfl (Sub.cons rfl (Sub.cons rfl (Sub.cons rfl Sub.nil)))), by omega, by omega, by omega, by omega, by omega⟩
        refine' EX.ret (EX1.ret ?r1)
        case r1 => walk_at "ev"

theorem fn_bisL0 (G : GL mg mb g0) {m : Nat} (R : Room A (m + 1)) {x res : Int} (hPb : ∀ h, P h → Base g0 h) (hPs : ∀ h h', P h → h.StaysIn h' → P h') 
    (hp : PlaceL (fun j => -600 + j) x res) : FN prog w A P (.ref 95) [.rng (-600) 601, .int x] [] (.int res) :=
  FN.def R (fun h p => G.f95.keeps (hPb h p).1) (fun h p => G.lim.keeps (hPb h p).1) (fun h p => (hPb h p).tab) (BINDS.bil0 fun h p => ⟨(hPb h p).1 _ _ G.o87, let ⟨H, e⟩ := G.o88; ⟨H, (hPb h p).1 _ _ e⟩⟩)
    (by decide) (locs rfl) rfl rfl rfl fun g qual L cdv p => by
      have R' := R.deeper (envX qual (fnScope (stmtAt 9)) L 95 cdv [])
      refine ⟨?_, ?h⟩
      case h =>
        refine' EX.cons (EX1.no ?t1 ?d1 EX.nil) ?_
        case t1 => walk_at "lt"
        case d1 => exact rfl
        refine' EX.cons (EX1.yes (TV.cmp ?a1 EV.nonec (OP.isNone (a := PV.none) ?a2) (by with_unfolding_all rfl)) rfl (EX.cons (EX1.assign rfl rfl ?e2 rfl) EX.nil)) ?_
        case a1 => walk_at "ev"
        case a2 => exact fun v e => by cases e
        case e2 =>
          refine' EV.app (P := fun _ => True) (EV.bl G (hPb _ p).1 G.m3 (by decide) rfl rfl rfl rfl rfl rfl) (EVs.cons ?i1 EVs.nil (fun _ => rfl)) CAN.blt (FN.lenRng (a := -600) (b := 601) (by decide) (by decide)) (fun _ _ => trivial) (fun _ => rfl) (fun _ => rfl)
          case i1 => walk_at "ev"
        refine' EX.cons (EX1.yes (TV.cmp ?a1 EV.nonec (OP.isNone (a := PV.none) ?a2) (by with_unfolding_all rfl)) rfl (EX.cons (EX1.search (x := x) (res := res) (pf := PV.none) ⟨hp.1, hp.2.1⟩ ?s1 ?s2 ?s3) EX.nil)) ?_
        case a1 => walk_at "ev"
        case a2 => exact fun v e => by cases e
        case s3 => exact Sub.cons rfl (Sub.cons rfl (Sub.cons rfl (Sub.cons rfl (Sub.cons rfl Sub.nil))))
        case s1 => intro lo hi; walk_at "lt"
        case s2 =>
          intro lo hi h0 hlt h1 hl hr
          obtain ⟨m1, m2⟩ := mid_ok hlt h0
          by_cases hc : (-600 + (lo + hi).fdiv 2) < x
          · have hm : (lo + hi).fdiv 2 < res := by
              refine Int.not_le.mp fun q => ?_
              have := hp.2.2.2 ((lo + hi).fdiv 2) q (by omega)
              try simp only at this
              omega
            refine ⟨((lo + hi).fdiv 2 + 1), hi, ?_, ?h, ?_⟩
            case h =>
              refine' EX.cons (EX1.assign rfl rfl ?m1 rfl) (EX.cons (EX1.yes ?tv (decide_eq_true hc) (EX.cons (EX1.assign rfl rfl ?m2 rfl) EX.nil)) EX.nil)
              case m1 => walk_at "ev"
              case m2 => walk_at "ev"
              case tv =>
                refine' TV.cmp (EV.sub ?i1 ?i2 (SUB.rng (a := -600) (b := 601) (i := (lo + hi).fdiv 2) (by omega) (by omega) (fun _ _ => rfl))) ?xx OP.ltI (by with_unfolding_all rfl)
                case xx => walk_at "ev"
                case i1 => walk_at "ev"
                case i2 => walk_at "ev"
            exact ⟨Sub.cons rfl (Sub.cons rfl (Sub.cons rfl (Sub.cons rfl (Sub.cons rfl Sub.nil)))), by omega, by omega, by omega, by omega, by omega⟩
          · have hm : res ≤ (lo + hi).fdiv 2 := by
              refine Int.not_lt.mp fun q => ?_
              have := hp.2.2.1 ((lo + hi).fdiv 2) (by omega) q
              try simp only at this
              omega
            refine ⟨lo, ((lo + hi).fdiv 2), ?_, ?h, ?_⟩
            case h =>
              refine' EX.cons (EX1.assign rfl rfl ?m1 rfl) (EX.cons (EX1.no ?tv (decide_eq_false hc) (EX.cons (EX1.assign rfl rfl ?m2 rfl) EX.nil)) EX.nil)
              case m1 => walk_at "ev"
              case m2 => walk_at "ev"
              case tv =>
                refine' TV.cmp (EV.sub ?i1 ?i2 (SUB.rng (a := -600) (b := 601) (i := (lo + hi).fdiv 2) (by omega) (by omega) (fun _ _ => rfl))) ?xx OP.ltI (by with_unfolding_all rfl)
                case xx => walk_at "ev"
                case i1 => walk_at "ev"
                case i2 => walk_at "ev"
            exact ⟨Sub.cons rfl (Sub.cons rfl (Sub.cons rfl (Sub.cons rfl (Sub.cons rfl Sub.nil)))), by omega, by omega, by omega, by omega, by omega⟩
        refine' EX.ret (EX1.ret ?r1)
        case r1 => walk_at "ev"

end
end Mine
end

/-! part H4 -/
section
set_option maxRecDepth 100000
set_option linter.unusedVariables false
namespace Mine
open PySem PySem.Calls PySem.W PyProof.Rows
local macro_rules | `(tactic| walk_at "op") => `(tactic| with_reducible first
  | exact OP.addF | exact OP.mulF | exact OP.subF | exact OP.addI | exact OP.subI | exact OP.ltF | exact OP.gtF | exact OP.ltI | exact OP.gtI | exact OP.geI | exact OP.leI | exact OP.eqI | exact OP.neI
  | exact OP.modI (by decide) | exact OP.fdivI (by decide) (by decide) | exact OP.mulI (.of_right (intBits_le_64 (by decide) (by decide))) | exact OP.mulI (.of_left (intBits_le_64 (by decide) (by decide)))
  | exact OP.mulI (.of_left (intBits_le_64 (by omega) (by omega))) | exact OP.mulI (.of_right (intBits_le_64 (by omega) (by omega)))
  | exact OP.divI (by assumption) (by omega) (by decide) | exact OP.mulFI (fit1023 (by decide)) | exact OP.pow30)
local macro_rules | `(tactic| walk_at "sub") => `(tactic| first
  | ((with_reducible refine' SUB.tup ?s1 ?s2 ?s3 ?s4); (case s1 => decide); (case s2 => decide); (case s3 => exact rfl); (case s4 => exact fun _ _ => rfl))
  | ((with_reducible refine' SUB.lst ?s1 ?s2 ?s3 ?s4); (case s1 => decide); (case s2 => decide); (case s3 => exact rfl); (case s4 => exact fun _ _ => rfl)))
local macro_rules | `(tactic| walk_at "ev") => `(tactic| first
  | (with_reducible exact EV.flt)
  | (with_reducible exact EV.int)
  | ((with_reducible refine' EV.name ?n1 ?n2 ?n3 ?n4); (case n1 => exact rfl); (case n2 => exact rfl); (case n3 => exact rfl); (case n4 => exact rfl))
  | ((with_reducible refine' EV.bin ?ea ?eb ?ec); (case ea => walk_at "ev"); (case eb => walk_at "ev"); (case ec => walk_at "op"))
  | ((with_reducible refine' EV.sub ?ea ?eb ?ec); (case ea => walk_at "ev"); (case eb => walk_at "ev"); (case ec => walk_at "sub"))
  | (with_reducible exact EV.bool)
  | (with_reducible exact EV.nonec))
local macro_rules | `(tactic| walk_at "tv") => `(tactic| first
  | ((with_reducible refine' TV.cmp ?ea ?eb ?ec ?ed); (case ea => walk_at "ev"); (case eb => walk_at "ev"); (case ec => walk_at "op"); (case ed => with_unfolding_all rfl)))
local macro_rules | `(tactic| walk_at "asg") => `(tactic| (refine' EX.cons (EX1.assign ?k1 ?k2 ?k3 ?k4) ?_; (case k1 => exact rfl); (case k2 => exact rfl); (case k3 => walk_at "ev"); (case k4 => exact rfl)))
local macro_rules | `(tactic| walk_at "evs") => `(tactic| first
  | (with_reducible exact EVs.nil)
  | ((with_reducible refine' EVs.cons ?ca ?cb ?cc); (case ca => walk_at "ev"); (case cb => walk_at "evs"); (case cc => exact fun _ => rfl)))


local macro_rules | `(tactic| walk_at "lt") => `(tactic| ((with_reducible refine' TV.cmp ?ea ?eb OP.ltI ?ed); (case ea => walk_at "ev"); (case eb => walk_at "ev"); (case ed => with_unfolding_all rfl)))
section
variable {prog : Program} {w : World} {A : Around} {g g0 : Heap} {env : Env} {r : Vars} {mg mb : Str → Option Value} {P : Heap → Prop}

theorem BINDS.mean1 (hf : ∀ h, P h → h.get? 70 = some nnObj) {a : PV} : BINDS P (fnParams (stmtAt 6)) (fnBody (stmtAt 6)) (fnScope (stmtAt 6)) (.ref 70) .none [a] [] [("data", a), ("weights", .none)] :=
  fun s vs kv name qual doc pm cdv ct an p ps pk => by
    have h1 := hf _ p
    cases ps with
    | cons i1 t =>
      cases t; cases pk
      exact ⟨_, kp_binds (frag2_in h1 h1) (fun S => rfl), .cons ⟨rfl, i1⟩ (.cons ⟨rfl, IsS.none⟩ .nil)⟩
theorem BINDS.mean2 (hf : ∀ h, P h → h.get? 70 = some nnObj) {a b : PV} : BINDS P (fnParams (stmtAt 6)) (fnBody (stmtAt 6)) (fnScope (stmtAt 6)) (.ref 70) .none [a, b] [] [("data", a), ("weights", b)] :=
  fun s vs kv name qual doc pm cdv ct an p ps pk => by
    have h1 := hf _ p
    cases ps with
    | cons i1 t => cases t with | cons i2 t =>
      cases t; cases pk
      exact ⟨_, kp_binds (frag2_in h1 h1) (fun S => rfl), .cons ⟨rfl, i1⟩ (.cons ⟨rfl, i2⟩ .nil)⟩

theorem FN.len3 {x y z : SV} : FN prog w A (fun _ => True) (.builtin "len") [.tup [x, y, z]] [] (.int 3) := FN.lenTup (l := [x, y, z]) (by show (3 : Int) < 2 ^ 63; decide)
theorem fn_mean (G : GL mg mb g0) {n : Nat} (R : Room A (n + 1)) {x y z : UInt64} (hfin : fsumFin [] [x, y, z]) :
    FN prog w A (Base g0) (.ref 77) [.tup [.flt x, .flt y, .flt z]] [] (.flt (meanF x y z)) :=
  FN.defC R (fun h p => G.f77.keeps p.1) (fun h p => G.lim.keeps p.1) (fun h p => p.tab) (BINDS.mean1 fun h p => p.1 _ _ G.o70)
    (locsC rfl) rfl rfl rfl fun g qual L cdv p hL => by
      have R' := R.deeper (envX qual (fnScope (stmtAt 6)) L 77 cdv (cellsFrom (L + 1) (fnScope (stmtAt 6)).names []))
      have hi : (A.deeper (envX qual (fnScope (stmtAt 6)) L 77 cdv (cellsFrom (L + 1) (fnScope (stmtAt 6)).names []))).in1.handled = none := R'.hh
      refine ⟨?_, ?h⟩
      case h =>
        refine' EX.ret (EX1.yes (TV.cmp ?a1 EV.nonec (OP.isNone (a := PV.none) ?a2) (by with_unfolding_all rfl)) rfl ?body)
        case a1 => walk_at "ev"
        case a2 => exact fun v e => by cases e
        case body =>
          refine' EX.cons (EX1.try (EX.cons (EX1.assignCell (c := L + 1) rfl rfl rfl ?e1 rfl) EX.nil)) ?_
          case e1 =>
            refine' EV.app (P := fun _ => True) (EV.bl G p.1 G.m3 (by decide) rfl rfl rfl rfl rfl rfl) (EVs.cons ?i1 EVs.nil (fun _ => rfl)) CAN.blt FN.len3 (fun _ _ => trivial) (fun _ => rfl) (fun _ => rfl)
            case i1 => walk_at "ev"
          refine' EX.cons (EX1.assign rfl rfl ?e2 rfl) ?_
          case e2 =>
            refine' EV.app (P := Base g0) (EV.gl G p.1 G.n13 rfl rfl rfl rfl) (EVs.cons ?i1 EVs.nil (fun _ => rfl)) CAN.blt (FN.fsum (xs := [.flt x, .flt y, .flt z]) R'.hh (ITER.tup hi) ?i2 (Nat.le_of_ble_eq_true rfl) hfin) (fun h F => p.fr h F) (fun _ => rfl) (fun _ => rfl)
            case i1 => walk_at "ev"
            case i2 =>
              intro v hv
              rcases List.mem_cons.mp hv with rfl | hv
              · trivial
              · rcases List.mem_cons.mp hv with rfl | hv
                · trivial
                · rw [List.mem_singleton.mp hv]; trivial
          refine' EX.cons (EX1.no (TV.not (TV.plain ?t1 (TRU.int (a := 3)))) rfl EX.nil) ?_
          case t1 => walk_at "ev"
          refine' EX.ret (EX1.ret (EV.bin ?r1 ?r2 (OP.divFI R'.hh (fit1023 (by decide)) (by decide))))
          case r1 => walk_at "ev"
          case r2 => walk_at "ev"
theorem fn_wmean (G : GL mg mb g0) {n : Nat} (R : Room A (n + 1)) {x y z : UInt64} {a b c : Int} (ha : a.natAbs < 2 ^ 64) (hb : b.natAbs < 2 ^ 64) (hc : c.natAbs < 2 ^ 64) (hz : Float64.isZero (denF (Float64.ofInt a) (Float64.ofInt b) (Float64.ofInt c)) = false)
    (hfin : fsumFin [] [Float64.ofInt a, Float64.ofInt b, Float64.ofInt c])
    (ia : Float64.isInf (Float64.ofInt a) = false) (ib : Float64.isInf (Float64.ofInt b) = false) (ic : Float64.isInf (Float64.ofInt c) = false)
    (f1 : Float64.isFinite (PySem.Builtin.Math.tlFma x (Float64.ofInt a) (0, 0, 0)).1 = true) (f2 : Float64.isFinite (PySem.Builtin.Math.tlFma y (Float64.ofInt b) (PySem.Builtin.Math.tlFma x (Float64.ofInt a) (0, 0, 0))).1 = true)
    (f3 : Float64.isFinite (tl3 x (Float64.ofInt a) y (Float64.ofInt b) z (Float64.ofInt c)).1 = true) :
    FN prog w A (Base g0) (.ref 77) [.tup [.flt x, .flt y, .flt z], .tup [.int a, .int b, .int c]] [] (.flt (wmeanF x y z (Float64.ofInt a) (Float64.ofInt b) (Float64.ofInt c))) :=
  FN.defC R (fun h p => G.f77.keeps p.1) (fun h p => G.lim.keeps p.1) (fun h p => p.tab) (BINDS.mean2 fun h p => p.1 _ _ G.o70)
    (locsC rfl) rfl rfl rfl fun g qual L cdv p hL => by
      have R' := R.deeper (envX qual (fnScope (stmtAt 6)) L 77 cdv (cellsFrom (L + 1) (fnScope (stmtAt 6)).names []))
      have hi : (A.deeper (envX qual (fnScope (stmtAt 6)) L 77 cdv (cellsFrom (L + 1) (fnScope (stmtAt 6)).names []))).in1.handled = none := R'.hh
      refine ⟨?_, ?h⟩
      case h =>
        refine' EX.cons (EX1.no (TV.cmp ?a1 EV.nonec (OP.isNone (a := .tup [.int a, .int b, .int c]) ?a2) (by with_unfolding_all rfl)) rfl EX.nil) ?_
        case a1 => walk_at "ev"
        case a2 => exact fun v e => by cases e
        refine' EX.cons (EX1.no (TV.not (TV.plain ?t1 (TRU.bool (b := true)))) rfl EX.nil) ?_
        case t1 =>
          refine' EV.app (P := Base g0) (EV.bl G p.1 G.m2 (by decide) rfl rfl rfl rfl rfl rfl) (EVs.cons ?i1 (EVs.cons ?i2 EVs.nil (fun _ => rfl)) (fun _ => rfl)) CAN.blt (FN.isiTup2 (l := [.int a, .int b, .int c])) (fun h F => p.fr h F) (fun _ => rfl) (fun _ => rfl)
          case i1 => walk_at "ev"
          case i2 =>
            refine' EV.tupT (l := [.type "list", .type "tuple"]) (EVs.cons ?j1 (EVs.cons ?j2 EVs.nil (fun _ => rfl)) (fun _ => rfl)) (Nat.le_of_ble_eq_true rfl)
            case j1 => exact EV.bl G p.1 G.m8 (by decide) rfl rfl rfl rfl rfl rfl
            case j2 => exact EV.bl G p.1 G.m9 (by decide) rfl rfl rfl rfl rfl rfl
        refine' EX.cons (EX1.try (EX.cons (EX1.assign rfl rfl ?e1 rfl) EX.nil)) ?_
        case e1 =>
          refine' EV.app (P := Base g0) (EV.gl G p.1 G.n14 rfl rfl rfl rfl) (EVs.cons ?i1 (EVs.cons ?i2 EVs.nil (fun _ => rfl)) (fun _ => rfl)) CAN.blt (FN.sumprod R'.hh ia ib ic f1 f2 f3) (fun h F => p.fr h F) (fun _ => rfl) (fun _ => rfl)
          case i1 => walk_at "ev"
          case i2 => walk_at "ev"
        refine' EX.cons (EX1.assign rfl rfl ?e2 rfl) ?_
        case e2 =>
          refine' EV.app (P := Base g0) (EV.gl G p.1 G.n13 rfl rfl rfl rfl) (EVs.cons ?i1 EVs.nil (fun _ => rfl)) CAN.blt (FN.fsum (xs := [.int a, .int b, .int c]) R'.hh (ITER.tup hi) ?i2 (Nat.le_of_ble_eq_true rfl) hfin) (fun h F => p.fr h F) (fun _ => rfl) (fun _ => rfl)
          case i1 => walk_at "ev"
          case i2 =>
            intro v hv
            rcases List.mem_cons.mp hv with rfl | hv
            · exact fit1023 ha
            · rcases List.mem_cons.mp hv with rfl | hv
              · exact fit1023 hb
              · rw [List.mem_singleton.mp hv]; exact fit1023 hc
        refine' EX.cons (EX1.no (TV.not (TV.plain ?t1 TRU.flt)) ?t2 EX.nil) ?_
        case t1 => walk_at "ev"
        case t2 =>
          show (!(!Float64.isZero (denF (Float64.ofInt a) (Float64.ofInt b) (Float64.ofInt c)))) = false
          rw [hz]; rfl
        refine' EX.ret (EX1.ret (EV.bin ?r1 ?r2 (OP.divF R'.hh ?r3)))
        case r1 => walk_at "ev"
        case r2 => walk_at "ev"
        case r3 => exact hz
end
end Mine
end

/-! part H5 -/
section
set_option maxRecDepth 100000
set_option linter.unusedVariables false
namespace Mine
open PySem PySem.Calls PySem.W PyProof.Rows
local macro_rules | `(tactic| walk_at "op") => `(tactic| with_reducible first
  | exact OP.addF | exact OP.mulF | exact OP.subF | exact OP.addI | exact OP.subI | exact OP.ltF | exact OP.gtF | exact OP.ltI | exact OP.gtI | exact OP.geI | exact OP.leI | exact OP.eqI | exact OP.neI
  | exact OP.modI (by decide) | exact OP.fdivI (by decide) (by decide) | exact OP.mulI (.of_right (intBits_le_64 (by decide) (by decide))) | exact OP.mulI (.of_left (intBits_le_64 (by decide) (by decide)))
  | exact OP.mulI (.of_left (intBits_le_64 (by omega) (by omega))) | exact OP.mulI (.of_right (intBits_le_64 (by omega) (by omega)))
  | exact OP.divI (by assumption) (by omega) (by decide) | exact OP.mulFI (fit1023 (by decide)) | exact OP.pow30)
local macro_rules | `(tactic| walk_at "sub") => `(tactic| first
  | ((with_reducible refine' SUB.tup ?s1 ?s2 ?s3 ?s4); (case s1 => decide); (case s2 => decide); (case s3 => exact rfl); (case s4 => exact fun _ _ => rfl))
  | ((with_reducible refine' SUB.lst ?s1 ?s2 ?s3 ?s4); (case s1 => decide); (case s2 => decide); (case s3 => exact rfl); (case s4 => exact fun _ _ => rfl)))
local macro_rules | `(tactic| walk_at "ev") => `(tactic| first
  | (with_reducible exact EV.flt)
  | (with_reducible exact EV.int)
  | ((with_reducible refine' EV.name ?n1 ?n2 ?n3 ?n4); (case n1 => exact rfl); (case n2 => exact rfl); (case n3 => exact rfl); (case n4 => exact rfl))
  | ((with_reducible refine' EV.bin ?ea ?eb ?ec); (case ea => walk_at "ev"); (case eb => walk_at "ev"); (case ec => walk_at "op"))
  | ((with_reducible refine' EV.sub ?ea ?eb ?ec); (case ea => walk_at "ev"); (case eb => walk_at "ev"); (case ec => walk_at "sub"))
  | (with_reducible exact EV.bool)
  | (with_reducible exact EV.nonec))
local macro_rules | `(tactic| walk_at "tv") => `(tactic| first
  | ((with_reducible refine' TV.cmp ?ea ?eb ?ec ?ed); (case ea => walk_at "ev"); (case eb => walk_at "ev"); (case ec => walk_at "op"); (case ed => with_unfolding_all rfl)))
local macro_rules | `(tactic| walk_at "asg") => `(tactic| (refine' EX.cons (EX1.assign ?k1 ?k2 ?k3 ?k4) ?_; (case k1 => exact rfl); (case k2 => exact rfl); (case k3 => walk_at "ev"); (case k4 => exact rfl)))
local macro_rules | `(tactic| walk_at "evs") => `(tactic| first
  | (with_reducible exact EVs.nil)
  | ((with_reducible refine' EVs.cons ?ca ?cb ?cc); (case ca => walk_at "ev"); (case cb => walk_at "evs"); (case cc => exact fun _ => rfl)))


/-! ## the corners -/
theorem corner1 {f o s p : Int} (hf : f = cl (o + s)) (h0 : 0 ≤ p) (h1 : p ≤ 600) : (p - f) * (o - f) ≤ (p - f) * (-s) := by
  by_cases q : o + s ≤ 0
  · have e : f = 0 := by rw [hf]; unfold cl; omega
    rw [e]
    exact Int.mul_le_mul_of_nonneg_left (by omega) (by omega)
  · by_cases q2 : 600 ≤ o + s
    · have e : f = 600 := by rw [hf]; unfold cl; omega
      rw [e]
      exact Int.mul_le_mul_of_nonpos_left (by omega) (by omega)
    · have e : f = o + s := by rw [hf]; unfold cl; omega
      rw [e]
      have : o - (o + s) = -s := by omega
      rw [this]; exact Int.le_refl _
theorem corner2 {f o s r w : Int} (hf : f = cl (o + s)) (hw : 0 ≤ w) (h0 : 0 ≤ r) (h1 : r ≤ w * 600) : (r - w * f) * (o - f) ≤ (r - w * f) * (-s) := by
  by_cases q : o + s ≤ 0
  · have e : f = 0 := by rw [hf]; unfold cl; omega
    rw [e]
    exact Int.mul_le_mul_of_nonneg_left (by omega) (by omega)
  · by_cases q2 : 600 ≤ o + s
    · have e : f = 600 := by rw [hf]; unfold cl; omega
      rw [e]
      exact Int.mul_le_mul_of_nonpos_left (by omega) (by omega)
    · have e : f = o + s := by rw [hf]; unfold cl; omega
      rw [e]
      have : o - (o + s) = -s := by omega
      rw [this]; exact Int.le_refl _
theorem corner {w0 w1 w2 f0 f1 f2 o0 o1 o2 s e t due : Int} (h0 : f0 = cl (o0 + s)) (h1 : f1 = cl (o1 + s)) (h2 : f2 = cl (o2 + s)) (p0 : 0 ≤ w0) (p1 : 0 ≤ w1) (p2 : 0 ≤ w2) (he : 0 ≤ e ∧ e ≤ 600) (ht : 0 ≤ t ∧ t ≤ 600)
    (hd : due = w0 * f0 + w1 * f1 + w2 * f2) (r0 : 0 ≤ due - w1 * e - w2 * t) (r1 : due - w1 * e - w2 * t ≤ w0 * 600) :
    (due - w1 * e - w2 * t - w0 * f0) * (o0 - f0) + w1 * (e - f1) * (o1 - f1) + w2 * (t - f2) * (o2 - f2) ≤ 0 := by
  have a := corner2 h0 p0 r0 r1
  have b := Int.mul_le_mul_of_nonneg_left (corner1 h1 he.1 he.2) p1
  have c := Int.mul_le_mul_of_nonneg_left (corner1 h2 ht.1 ht.2) p2
  rw [← Int.mul_assoc, ← Int.mul_assoc] at b c
  have z : (due - w1 * e - w2 * t - w0 * f0) * (-s) + w1 * (e - f1) * (-s) + w2 * (t - f2) * (-s) = 0 := by
    rw [← Int.add_mul, ← Int.add_mul]
    have : due - w1 * e - w2 * t - w0 * f0 + w1 * (e - f1) + w2 * (t - f2) = 0 := by
      rw [hd, Int.mul_sub, Int.mul_sub]; omega
    rw [this, Int.zero_mul]
  omega

section
variable {prog : Program} {w : World} {A : Around} {g g0 : Heap} {env : Env} {r : Vars} {mg mb : Str → Option Value} {P : Heap → Prop}
theorem EX.end' {st : Stmt} {r' : Vars} (h : EX1 prog w A g env r st (.nxt r')) : EX prog w A g env r [st] (.nxt r') := EX.cons h EX.nil
theorem Sub.over {r0 r : Vars} {x : Str} {p : PV} (h : Sub r0 r) (hx : r0.lookup x = none) : Sub ((x, p) :: r0) ((x, p) :: r) := fun y q e => by
  rw [lookup_cons'] at e ⊢
  by_cases z : y = x
  · rw [if_pos z] at e ⊢; exact e
  · rw [if_neg z] at e ⊢; exact h y q e
def nb (o0 o1 o2 f0 f1 f2 w0 w1 w2 due : Int) : Vars := [("due", .int due), ("weights", .tup [.int w0, .int w1, .int w2]), ("found", .lst [.int f0, .int f1, .int f2]), ("own", .lst [.int o0, .int o1, .int o2])]
theorem pick2 {y : SV} {i : Nat} (h : ([.int 0, .int 600] : List SV)[i]? = some y) : ∃ v : Int, y = .int v ∧ 0 ≤ v ∧ v ≤ 600 := by
  match i, h with
  | 0, h => cases h; exact ⟨0, rfl, by decide, by decide⟩
  | 1, h => cases h; exact ⟨600, rfl, by decide, by decide⟩
theorem fn_nearest (G : GL mg mb g0) {m : Nat} (R : Room A (m + 1)) {o0 o1 o2 f0 f1 f2 w0 w1 w2 due s : Int} (h0 : f0 = cl (o0 + s)) (h1 : f1 = cl (o1 + s)) (h2 : f2 = cl (o2 + s)) (p0 : 0 ≤ w0 ∧ w0 ≤ 2) (p1 : 0 ≤ w1 ∧ w1 ≤ 2) (p2 : 0 ≤ w2 ∧ w2 ≤ 2)
    (q0 : 0 ≤ o0 ∧ o0 ≤ 600) (q1 : 0 ≤ o1 ∧ o1 ≤ 600) (q2 : 0 ≤ o2 ∧ o2 ≤ 600) (hd : due = w0 * f0 + w1 * f1 + w2 * f2) :
    FN prog w A (Base g0) (.ref 140) [.lst [.int o0, .int o1, .int o2], .lst [.int f0, .int f1, .int f2], .tup [.int w0, .int w1, .int w2], .int due] [] (.bool true) :=
  FN.def R (fun h p => G.f140.keeps p.1) (fun h p => G.lim.keeps p.1) (fun h p => p.tab) (BINDS.of4 fun _ _ _ _ _ _ _ _ _ _ _ => rfl)
    (by decide) (locs rfl) rfl rfl rfl fun g qual L cdv p => by
      have R' := R.deeper (envX qual (fnScope (stmtAt 17)) L 140 cdv [])
      have hi : (A.deeper (envX qual (fnScope (stmtAt 17)) L 140 cdv [])).in1.handled = none := R'.hh
      have b0 : 0 ≤ f0 ∧ f0 ≤ 600 := by rw [h0]; unfold cl; omega
      have b1 : 0 ≤ f1 ∧ f1 ≤ 600 := by rw [h1]; unfold cl; omega
      have b2 : 0 ≤ f2 ∧ f2 ≤ 600 := by rw [h2]; unfold cl; omega
      refine ⟨?_, ?h⟩
      case h =>
        refine' EX.cons (EX1.for (a := .rng 0 (0 + ((3 : Nat) : Int))) (r' := nb o0 o1 o2 f0 f1 f2 w0 w1 w2 due) (fun _ r => Sub (nb o0 o1 o2 f0 f1 f2 w0 w1 w2 due) r) rfl rfl ?it (ITER.rng R'.hh (by decide) (by decide)) ?z0 ?turn ?fin (fun _ => rfl)) ?rest
        case it =>
          refine' EV.app (P := Base g0) (EV.bl G p.1 G.m5 (by decide) rfl rfl rfl rfl rfl rfl) (EVs.cons ?i1 EVs.nil (fun _ => rfl)) CAN.typ (FN.range1 (n := 3)) (fun h F => p.fr h F) (fun _ => rfl) (fun _ => rfl)
          case i1 => walk_at "ev"
        case z0 => exact Sub.cons rfl (Sub.cons rfl (Sub.cons rfl (Sub.cons rfl Sub.nil)))
        case fin => exact fun r2 k => k
        case rest =>
          refine' EX.ret (EX1.ret ?r1)
          case r1 => walk_at "ev"
        case turn =>
          intro i y r hy hr
          match i, hy with
          | 0, hy =>
            cases hy
            have sd : ∀ e t : Int, 0 ≤ e ∧ e ≤ 600 → 0 ≤ t ∧ t ≤ 600 → 0 ≤ due - w1 * e - w2 * t → due - w1 * e - w2 * t ≤ w0 * 600 → (due - w1 * e - w2 * t - w0 * f0) * (o0 - f0) + w1 * (e - f1) * (o1 - f1) + w2 * (t - f2) * (o2 - f2) ≤ 0 := fun e t he ht r0 r1 => corner h0 h1 h2 p0.1 p1.1 p2.1 he ht (by omega) r0 r1
            refine' ⟨_, EX.less (r' := ("free", .int 0) :: nb o0 o1 o2 f0 f1 f2 w0 w1 w2 due) ?ex1_0 (Sub.over hr rfl), ?s21_0⟩
            case ex1_0 =>
              refine' EX.cons (EX1.assign rfl rfl ?e1 rfl) (EX.cons (EX1.assign rfl rfl ?e2 rfl) (EX.end' (EX1.for (a := .lst [.int 0, .int 600]) (r' := ("two", .int 2) :: ("one", .int 1) :: ("free", .int 0) :: nb o0 o1 o2 f0 f1 f2 w0 w1 w2 due) (fun _ r => Sub (("two", .int 2) :: ("one", .int 1) :: ("free", .int 0) :: nb o0 o1 o2 f0 f1 f2 w0 w1 w2 due) r) rfl rfl ?it (ITER.lst R'.hh) ?z0 ?turn ?fin (fun _ => rfl))))
              case e1 => walk_at "ev"
              case e2 => walk_at "ev"
              case it =>
                refine' EV.lstD ?k1 (Nat.le_of_ble_eq_true rfl)
                case k1 => show EVs _ _ _ _ _ _ _ _ [PV.sc _, PV.sc _]; walk_at "evs"
              case z0 => exact Sub.cons rfl (Sub.cons rfl (Sub.cons rfl (Sub.cons rfl (Sub.cons rfl (Sub.cons rfl (Sub.cons rfl (Sub.nil)))))))
              case fin => exact fun r2 k => k
              case turn =>
                intro i2 y2 r hy2 hr
                obtain ⟨e, rfl, he0, he1⟩ := pick2 hy2
                refine' ⟨_, EX.less (r' := ("end", .int e) :: ("two", .int 2) :: ("one", .int 1) :: ("free", .int 0) :: nb o0 o1 o2 f0 f1 f2 w0 w1 w2 due) ?ex2_0 (Sub.over hr rfl), ?s22_0⟩
                case ex2_0 =>
                  refine' EX.end' (EX1.for (a := .lst [.int 0, .int 600]) (r' := ("end", .int e) :: ("two", .int 2) :: ("one", .int 1) :: ("free", .int 0) :: nb o0 o1 o2 f0 f1 f2 w0 w1 w2 due) (fun _ r => Sub (("end", .int e) :: ("two", .int 2) :: ("one", .int 1) :: ("free", .int 0) :: nb o0 o1 o2 f0 f1 f2 w0 w1 w2 due) r) rfl rfl ?it (ITER.lst R'.hh) ?z0 ?turn ?fin (fun _ => rfl))
                  case it =>
                    refine' EV.lstD ?k1 (Nat.le_of_ble_eq_true rfl)
                    case k1 => show EVs _ _ _ _ _ _ _ _ [PV.sc _, PV.sc _]; walk_at "evs"
                  case z0 => exact Sub.cons rfl (Sub.cons rfl (Sub.cons rfl (Sub.cons rfl (Sub.cons rfl (Sub.cons rfl (Sub.cons rfl (Sub.cons rfl (Sub.nil))))))))
                  case fin => exact fun r2 k => k
                  case turn =>
                    intro i3 y3 r hy3 hr
                    obtain ⟨t, rfl, ht0, ht1⟩ := pick2 hy3
                    have sdt := sd e t ⟨he0, he1⟩ ⟨ht0, ht1⟩
                    by_cases c1 : 0 ≤ due - w1 * e - w2 * t ∧ due - w1 * e - w2 * t ≤ w0 * 600
                    · refine' ⟨_, EX.less (r' := ("stop", .int t) :: ("end", .int e) :: ("two", .int 2) :: ("one", .int 1) :: ("free", .int 0) :: nb o0 o1 o2 f0 f1 f2 w0 w1 w2 due) ?ex3_0 (Sub.over hr rfl), ?s23_0⟩
                      case ex3_0 =>
                        refine' EX.cons (EX1.assign rfl rfl ?e1 rfl) (EX.end' (EX1.yes (TV.and ?t1 (fun _ => TV.and ?t2 (fun _ => TV.and_nil))) ?tc ?b))
                        case e1 => walk_at "ev"
                        case t1 => walk_at "tv"
                        case t2 => walk_at "tv"
                        case tc => rw [decide_eq_true c1.1, decide_eq_true c1.2]; rfl
                        case b =>
                          refine' EX.cons (EX1.assign rfl rfl ?e1 rfl) (EX.cons (EX1.aug rfl rfl rfl ?e2 OP.iaddI) (EX.cons (EX1.aug rfl rfl rfl ?e3 OP.iaddI) (EX.end' (EX1.no ?t1 ?tc EX.nil))))
                          case e1 => walk_at "ev"
                          case e2 => walk_at "ev"
                          case e3 => walk_at "ev"
                          case t1 => walk_at "tv"
                          case tc => exact decide_eq_false (by have := sdt c1.1 c1.2; omega)
                      case s23_0 => exact Sub.cons rfl (Sub.cons rfl (Sub.cons rfl (Sub.cons rfl (Sub.cons rfl (Sub.cons rfl (Sub.cons rfl (Sub.cons rfl (Sub.nil))))))))
                    · refine' ⟨_, EX.less (r' := ("stop", .int t) :: ("end", .int e) :: ("two", .int 2) :: ("one", .int 1) :: ("free", .int 0) :: nb o0 o1 o2 f0 f1 f2 w0 w1 w2 due) ?ex4_0 (Sub.over hr rfl), ?s24_0⟩
                      case ex4_0 =>
                        refine' EX.cons (EX1.assign rfl rfl ?e1 rfl) (EX.end' (EX1.no (TV.and ?t1 (fun _ => TV.and ?t2 (fun _ => TV.and_nil))) ?tc EX.nil))
                        case e1 => walk_at "ev"
                        case t1 => walk_at "tv"
                        case t2 => walk_at "tv"
                        case tc => simpa using fun h1 => Int.not_le.mp fun h2 => c1 ⟨h1, h2⟩
                      case s24_0 => exact Sub.cons rfl (Sub.cons rfl (Sub.cons rfl (Sub.cons rfl (Sub.cons rfl (Sub.cons rfl (Sub.cons rfl (Sub.cons rfl (Sub.nil))))))))
                case s22_0 => exact Sub.cons rfl (Sub.cons rfl (Sub.cons rfl (Sub.cons rfl (Sub.cons rfl (Sub.cons rfl (Sub.cons rfl (Sub.nil)))))))
            case s21_0 => exact Sub.cons rfl (Sub.cons rfl (Sub.cons rfl (Sub.cons rfl Sub.nil)))
          | 1, hy =>
            cases hy
            have sd : ∀ e t : Int, 0 ≤ e ∧ e ≤ 600 → 0 ≤ t ∧ t ≤ 600 → 0 ≤ due - w2 * e - w0 * t → due - w2 * e - w0 * t ≤ w1 * 600 → (due - w2 * e - w0 * t - w1 * f1) * (o1 - f1) + w2 * (e - f2) * (o2 - f2) + w0 * (t - f0) * (o0 - f0) ≤ 0 := fun e t he ht r0 r1 => corner h1 h2 h0 p1.1 p2.1 p0.1 he ht (by omega) r0 r1
            refine' ⟨_, EX.less (r' := ("free", .int 1) :: nb o0 o1 o2 f0 f1 f2 w0 w1 w2 due) ?ex1_1 (Sub.over hr rfl), ?s21_1⟩
            case ex1_1 =>
              refine' EX.cons (EX1.assign rfl rfl ?e1 rfl) (EX.cons (EX1.assign rfl rfl ?e2 rfl) (EX.end' (EX1.for (a := .lst [.int 0, .int 600]) (r' := ("two", .int 0) :: ("one", .int 2) :: ("free", .int 1) :: nb o0 o1 o2 f0 f1 f2 w0 w1 w2 due) (fun _ r => Sub (("two", .int 0) :: ("one", .int 2) :: ("free", .int 1) :: nb o0 o1 o2 f0 f1 f2 w0 w1 w2 due) r) rfl rfl ?it (ITER.lst R'.hh) ?z0 ?turn ?fin (fun _ => rfl))))
              case e1 => walk_at "ev"
              case e2 => walk_at "ev"
              case it =>
                refine' EV.lstD ?k1 (Nat.le_of_ble_eq_true rfl)
                case k1 => show EVs _ _ _ _ _ _ _ _ [PV.sc _, PV.sc _]; walk_at "evs"
              case z0 => exact Sub.cons rfl (Sub.cons rfl (Sub.cons rfl (Sub.cons rfl (Sub.cons rfl (Sub.cons rfl (Sub.cons rfl (Sub.nil)))))))
              case fin => exact fun r2 k => k
              case turn =>
                intro i2 y2 r hy2 hr
                obtain ⟨e, rfl, he0, he1⟩ := pick2 hy2
                refine' ⟨_, EX.less (r' := ("end", .int e) :: ("two", .int 0) :: ("one", .int 2) :: ("free", .int 1) :: nb o0 o1 o2 f0 f1 f2 w0 w1 w2 due) ?ex2_1 (Sub.over hr rfl), ?s22_1⟩
                case ex2_1 =>
                  refine' EX.end' (EX1.for (a := .lst [.int 0, .int 600]) (r' := ("end", .int e) :: ("two", .int 0) :: ("one", .int 2) :: ("free", .int 1) :: nb o0 o1 o2 f0 f1 f2 w0 w1 w2 due) (fun _ r => Sub (("end", .int e) :: ("two", .int 0) :: ("one", .int 2) :: ("free", .int 1) :: nb o0 o1 o2 f0 f1 f2 w0 w1 w2 due) r) rfl rfl ?it (ITER.lst R'.hh) ?z0 ?turn ?fin (fun _ => rfl))
                  case it =>
                    refine' EV.lstD ?k1 (Nat.le_of_ble_eq_true rfl)
                    case k1 => show EVs _ _ _ _ _ _ _ _ [PV.sc _, PV.sc _]; walk_at "evs"
                  case z0 => exact Sub.cons rfl (Sub.cons rfl (Sub.cons rfl (Sub.cons rfl (Sub.cons rfl (Sub.cons rfl (Sub.cons rfl (Sub.cons rfl (Sub.nil))))))))
                  case fin => exact fun r2 k => k
                  case turn =>
                    intro i3 y3 r hy3 hr
                    obtain ⟨t, rfl, ht0, ht1⟩ := pick2 hy3
                    have sdt := sd e t ⟨he0, he1⟩ ⟨ht0, ht1⟩
                    by_cases c1 : 0 ≤ due - w2 * e - w0 * t ∧ due - w2 * e - w0 * t ≤ w1 * 600
                    · refine' ⟨_, EX.less (r' := ("stop", .int t) :: ("end", .int e) :: ("two", .int 0) :: ("one", .int 2) :: ("free", .int 1) :: nb o0 o1 o2 f0 f1 f2 w0 w1 w2 due) ?ex3_1 (Sub.over hr rfl), ?s23_1⟩
                      case ex3_1 =>
                        refine' EX.cons (EX1.assign rfl rfl ?e1 rfl) (EX.end' (EX1.yes (TV.and ?t1 (fun _ => TV.and ?t2 (fun _ => TV.and_nil))) ?tc ?b))
                        case e1 => walk_at "ev"
                        case t1 => walk_at "tv"
                        case t2 => walk_at "tv"
                        case tc => rw [decide_eq_true c1.1, decide_eq_true c1.2]; rfl
                        case b =>
                          refine' EX.cons (EX1.assign rfl rfl ?e1 rfl) (EX.cons (EX1.aug rfl rfl rfl ?e2 OP.iaddI) (EX.cons (EX1.aug rfl rfl rfl ?e3 OP.iaddI) (EX.end' (EX1.no ?t1 ?tc EX.nil))))
                          case e1 => walk_at "ev"
                          case e2 => walk_at "ev"
                          case e3 => walk_at "ev"
                          case t1 => walk_at "tv"
                          case tc => exact decide_eq_false (by have := sdt c1.1 c1.2; omega)
                      case s23_1 => exact Sub.cons rfl (Sub.cons rfl (Sub.cons rfl (Sub.cons rfl (Sub.cons rfl (Sub.cons rfl (Sub.cons rfl (Sub.cons rfl (Sub.nil))))))))
                    · refine' ⟨_, EX.less (r' := ("stop", .int t) :: ("end", .int e) :: ("two", .int 0) :: ("one", .int 2) :: ("free", .int 1) :: nb o0 o1 o2 f0 f1 f2 w0 w1 w2 due) ?ex4_1 (Sub.over hr rfl), ?s24_1⟩
                      case ex4_1 =>
                        refine' EX.cons (EX1.assign rfl rfl ?e1 rfl) (EX.end' (EX1.no (TV.and ?t1 (fun _ => TV.and ?t2 (fun _ => TV.and_nil))) ?tc EX.nil))
                        case e1 => walk_at "ev"
                        case t1 => walk_at "tv"
                        case t2 => walk_at "tv"
                        case tc => simpa using fun h1 => Int.not_le.mp fun h2 => c1 ⟨h1, h2⟩
                      case s24_1 => exact Sub.cons rfl (Sub.cons rfl (Sub.cons rfl (Sub.cons rfl (Sub.cons rfl (Sub.cons rfl (Sub.cons rfl (Sub.cons rfl (Sub.nil))))))))
                case s22_1 => exact Sub.cons rfl (Sub.cons rfl (Sub.cons rfl (Sub.cons rfl (Sub.cons rfl (Sub.cons rfl (Sub.cons rfl (Sub.nil)))))))
            case s21_1 => exact Sub.cons rfl (Sub.cons rfl (Sub.cons rfl (Sub.cons rfl Sub.nil)))
          | 2, hy =>
            cases hy
            have sd : ∀ e t : Int, 0 ≤ e ∧ e ≤ 600 → 0 ≤ t ∧ t ≤ 600 → 0 ≤ due - w0 * e - w1 * t → due - w0 * e - w1 * t ≤ w2 * 600 → (due - w0 * e - w1 * t - w2 * f2) * (o2 - f2) + w0 * (e - f0) * (o0 - f0) + w1 * (t - f1) * (o1 - f1) ≤ 0 := fun e t he ht r0 r1 => corner h2 h0 h1 p2.1 p0.1 p1.1 he ht (by omega) r0 r1
            refine' ⟨_, EX.less (r' := ("free", .int 2) :: nb o0 o1 o2 f0 f1 f2 w0 w1 w2 due) ?ex1_2 (Sub.over hr rfl), ?s21_2⟩
            case ex1_2 =>
              refine' EX.cons (EX1.assign rfl rfl ?e1 rfl) (EX.cons (EX1.assign rfl rfl ?e2 rfl) (EX.end' (EX1.for (a := .lst [.int 0, .int 600]) (r' := ("two", .int 1) :: ("one", .int 0) :: ("free", .int 2) :: nb o0 o1 o2 f0 f1 f2 w0 w1 w2 due) (fun _ r => Sub (("two", .int 1) :: ("one", .int 0) :: ("free", .int 2) :: nb o0 o1 o2 f0 f1 f2 w0 w1 w2 due) r) rfl rfl ?it (ITER.lst R'.hh) ?z0 ?turn ?fin (fun _ => rfl))))
              case e1 => walk_at "ev"
              case e2 => walk_at "ev"
              case it =>
                refine' EV.lstD ?k1 (Nat.le_of_ble_eq_true rfl)
                case k1 => show EVs _ _ _ _ _ _ _ _ [PV.sc _, PV.sc _]; walk_at "evs"
              case z0 => exact Sub.cons rfl (Sub.cons rfl (Sub.cons rfl (Sub.cons rfl (Sub.cons rfl (Sub.cons rfl (Sub.cons rfl (Sub.nil)))))))
              case fin => exact fun r2 k => k
              case turn =>
                intro i2 y2 r hy2 hr
                obtain ⟨e, rfl, he0, he1⟩ := pick2 hy2
                refine' ⟨_, EX.less (r' := ("end", .int e) :: ("two", .int 1) :: ("one", .int 0) :: ("free", .int 2) :: nb o0 o1 o2 f0 f1 f2 w0 w1 w2 due) ?ex2_2 (Sub.over hr rfl), ?s22_2⟩
                case ex2_2 =>
                  refine' EX.end' (EX1.for (a := .lst [.int 0, .int 600]) (r' := ("end", .int e) :: ("two", .int 1) :: ("one", .int 0) :: ("free", .int 2) :: nb o0 o1 o2 f0 f1 f2 w0 w1 w2 due) (fun _ r => Sub (("end", .int e) :: ("two", .int 1) :: ("one", .int 0) :: ("free", .int 2) :: nb o0 o1 o2 f0 f1 f2 w0 w1 w2 due) r) rfl rfl ?it (ITER.lst R'.hh) ?z0 ?turn ?fin (fun _ => rfl))
                  case it =>
                    refine' EV.lstD ?k1 (Nat.le_of_ble_eq_true rfl)
                    case k1 => show EVs _ _ _ _ _ _ _ _ [PV.sc _, PV.sc _]; walk_at "evs"
                  case z0 => exact Sub.cons rfl (Sub.cons rfl (Sub.cons rfl (Sub.cons rfl (Sub.cons rfl (Sub.cons rfl (Sub.cons rfl (Sub.cons rfl (Sub.nil))))))))
                  case fin => exact fun r2 k => k
                  case turn =>
                    intro i3 y3 r hy3 hr
                    obtain ⟨t, rfl, ht0, ht1⟩ := pick2 hy3
                    have sdt := sd e t ⟨he0, he1⟩ ⟨ht0, ht1⟩
                    by_cases c1 : 0 ≤ due - w0 * e - w1 * t ∧ due - w0 * e - w1 * t ≤ w2 * 600
                    · refine' ⟨_, EX.less (r' := ("stop", .int t) :: ("end", .int e) :: ("two", .int 1) :: ("one", .int 0) :: ("free", .int 2) :: nb o0 o1 o2 f0 f1 f2 w0 w1 w2 due) ?ex3_2 (Sub.over hr rfl), ?s23_2⟩
                      case ex3_2 =>
                        refine' EX.cons (EX1.assign rfl rfl ?e1 rfl) (EX.end' (EX1.yes (TV.and ?t1 (fun _ => TV.and ?t2 (fun _ => TV.and_nil))) ?tc ?b))
                        case e1 => walk_at "ev"
                        case t1 => walk_at "tv"
                        case t2 => walk_at "tv"
                        case tc => rw [decide_eq_true c1.1, decide_eq_true c1.2]; rfl
                        case b =>
                          refine' EX.cons (EX1.assign rfl rfl ?e1 rfl) (EX.cons (EX1.aug rfl rfl rfl ?e2 OP.iaddI) (EX.cons (EX1.aug rfl rfl rfl ?e3 OP.iaddI) (EX.end' (EX1.no ?t1 ?tc EX.nil))))
                          case e1 => walk_at "ev"
                          case e2 => walk_at "ev"
                          case e3 => walk_at "ev"
                          case t1 => walk_at "tv"
                          case tc => exact decide_eq_false (by have := sdt c1.1 c1.2; omega)
                      case s23_2 => exact Sub.cons rfl (Sub.cons rfl (Sub.cons rfl (Sub.cons rfl (Sub.cons rfl (Sub.cons rfl (Sub.cons rfl (Sub.cons rfl (Sub.nil))))))))
                    · refine' ⟨_, EX.less (r' := ("stop", .int t) :: ("end", .int e) :: ("two", .int 1) :: ("one", .int 0) :: ("free", .int 2) :: nb o0 o1 o2 f0 f1 f2 w0 w1 w2 due) ?ex4_2 (Sub.over hr rfl), ?s24_2⟩
                      case ex4_2 =>
                        refine' EX.cons (EX1.assign rfl rfl ?e1 rfl) (EX.end' (EX1.no (TV.and ?t1 (fun _ => TV.and ?t2 (fun _ => TV.and_nil))) ?tc EX.nil))
                        case e1 => walk_at "ev"
                        case t1 => walk_at "tv"
                        case t2 => walk_at "tv"
                        case tc => simpa using fun h1 => Int.not_le.mp fun h2 => c1 ⟨h1, h2⟩
                      case s24_2 => exact Sub.cons rfl (Sub.cons rfl (Sub.cons rfl (Sub.cons rfl (Sub.cons rfl (Sub.cons rfl (Sub.cons rfl (Sub.cons rfl (Sub.nil))))))))
                case s22_2 => exact Sub.cons rfl (Sub.cons rfl (Sub.cons rfl (Sub.cons rfl (Sub.cons rfl (Sub.cons rfl (Sub.cons rfl (Sub.nil)))))))
            case s21_2 => exact Sub.cons rfl (Sub.cons rfl (Sub.cons rfl (Sub.cons rfl Sub.nil)))
end
end Mine
end

/-! part PL10 -/
section
set_option maxRecDepth 100000
set_option linter.unusedVariables false
namespace Mine

def gw (w1 w2 w3 R G B s : Int) : Int := w1 * cl (R + s) + w2 * cl (G + s) + w3 * cl (B + s)
theorem cl_mono {a b : Int} (h : a ≤ b) : cl a ≤ cl b := by unfold cl; omega
theorem cl_range (a : Int) : 0 ≤ cl a ∧ cl a ≤ 600 := by unfold cl; omega
theorem gw_mono {w1 w2 w3 R G B s t : Int} (p1 : 0 ≤ w1) (p2 : 0 ≤ w2) (p3 : 0 ≤ w3) (h : s ≤ t) : gw w1 w2 w3 R G B s ≤ gw w1 w2 w3 R G B t := by
  unfold gw
  have a := Int.mul_le_mul_of_nonneg_left (cl_mono (show R + s ≤ R + t by omega)) p1
  have b := Int.mul_le_mul_of_nonneg_left (cl_mono (show G + s ≤ G + t by omega)) p2
  have c := Int.mul_le_mul_of_nonneg_left (cl_mono (show B + s ≤ B + t by omega)) p3
  omega
theorem place_ex (T : Int → Int) (mono : ∀ i j, 0 ≤ i → i ≤ j → j < 1201 → T i ≤ T j) (x : Int) : (∃ res, PlaceL T x res) ∧ ∃ res, PlaceR T x res := by
  have key : ∀ (p : Int → Prop) (dec : ∀ j, p j ∨ ¬ p j) (down : ∀ i j, 0 ≤ i → i ≤ j → j < 1201 → p j → p i) (n : Nat), n ≤ 1201 → ∃ res : Int, 0 ≤ res ∧ res ≤ n ∧ (∀ j, 0 ≤ j → j < res → p j) ∧ ∀ j, res ≤ j → j < n → ¬ p j := by
    intro p dec down n
    induction n with
    | zero => intro _; exact ⟨0, by omega, by omega, fun j a b => by omega, fun j a b => by omega⟩
    | succ n ih =>
      intro hn
      obtain ⟨res, a, b, c, d⟩ := ih (by omega)
      rcases dec n with h | h
      · exact ⟨n + 1, by omega, by omega, fun j e f => down j n e (by omega) (by omega) h, fun j e f => by omega⟩
      · refine ⟨res, a, by omega, c, fun j e f => ?_⟩
        by_cases q : j = n
        · rw [q]; exact h
        · exact d j e (by omega)
  constructor
  · obtain ⟨res, a, b, c, d⟩ := key (fun j => T j < x) (fun j => Decidable.em _) (fun i j a b c h => Int.lt_of_le_of_lt (mono i j a b c) h) 1201 (Nat.le_refl _)
    exact ⟨res, a, b, c, fun j e f => Int.not_lt.mp (d j e f)⟩
  · obtain ⟨res, a, b, c, d⟩ := key (fun j => T j ≤ x) (fun j => Decidable.em _) (fun i j a b c h => Int.le_trans (mono i j a b c) h) 1201 (Nat.le_refl _)
    exact ⟨res, a, b, c, fun j e f => Int.not_le.mp (d j e f)⟩

def c10 (n : Int) : Int := max 0 (min n 10)
theorem cl_seg (a k t : Int) (h0 : 0 ≤ t) (h1 : t ≤ 60) : cl (60 * a + (60 * k + t)) = 60 * c10 (a + k) + t * (c10 (a + (k + 1)) - c10 (a + k)) := by
  have e : c10 (a + (k + 1)) - c10 (a + k) = 0 ∨ c10 (a + (k + 1)) - c10 (a + k) = 1 := by unfold c10; omega
  rcases e with e | e
  · rw [e]; unfold cl c10 at *; omega
  · rw [e]; unfold cl c10 at *; omega
def gc (w1 w2 w3 a b c k : Int) : Int := w1 * c10 (a + k) + w2 * c10 (b + k) + w3 * c10 (c + k)
theorem gw_seg (w1 w2 w3 a b c k t : Int) (h0 : 0 ≤ t) (h1 : t ≤ 60) : gw w1 w2 w3 (60 * a) (60 * b) (60 * c) (60 * k + t) = 60 * gc w1 w2 w3 a b c k + t * (gc w1 w2 w3 a b c (k + 1) - gc w1 w2 w3 a b c k) := by
  unfold gw gc
  rw [cl_seg a k t h0 h1, cl_seg b k t h0 h1, cl_seg c k t h0 h1]
  simp only [Int.mul_add, Int.mul_sub, Int.mul_left_comm w1, Int.mul_left_comm w2, Int.mul_left_comm w3]
  omega
theorem c10_step (n : Int) : 0 ≤ c10 (n + 1) - c10 n ∧ c10 (n + 1) - c10 n ≤ 1 := by unfold c10; omega
theorem gc_step {w1 w2 w3 : Int} (a b c k : Int) (p1 : 0 ≤ w1 ∧ w1 ≤ 2) (p2 : 0 ≤ w2 ∧ w2 ≤ 2) (p3 : 0 ≤ w3 ∧ w3 ≤ 2) : 0 ≤ gc w1 w2 w3 a b c (k + 1) - gc w1 w2 w3 a b c k ∧ gc w1 w2 w3 a b c (k + 1) - gc w1 w2 w3 a b c k ≤ 6 := by
  have e : ∀ {w : Int} (n : Int), 0 ≤ w ∧ w ≤ 2 → 0 ≤ w * c10 (n + (k + 1)) - w * c10 (n + k) ∧ w * c10 (n + (k + 1)) - w * c10 (n + k) ≤ 2 := by
    intro w n hw
    rw [← Int.mul_sub]
    have := c10_step (n + k)
    rw [show n + k + 1 = n + (k + 1) by omega] at this
    have d : c10 (n + (k + 1)) - c10 (n + k) = 0 ∨ c10 (n + (k + 1)) - c10 (n + k) = 1 := by omega
    rcases d with d | d <;> rw [d] <;> omega
  have e1 := e a p1
  have e2 := e b p2
  have e3 := e c p3
  unfold gc
  omega
theorem gc_hit {w1 w2 w3 a b c D : Int} (p1 : 0 ≤ w1 ∧ w1 ≤ 2) (p2 : 0 ≤ w2 ∧ w2 ≤ 2) (p3 : 0 ≤ w3 ∧ w3 ≤ 2) (h0 : gc w1 w2 w3 a b c (-10) ≤ D) (h1 : D ≤ gc w1 w2 w3 a b c 10) : ∃ k, -10 ≤ k ∧ k ≤ 9 ∧ gc w1 w2 w3 a b c k ≤ D ∧ D ≤ gc w1 w2 w3 a b c (k + 1) := by
  have key : ∀ n : Nat, n ≤ 20 → (∃ k, -10 ≤ k ∧ k ≤ 9 ∧ gc w1 w2 w3 a b c k ≤ D ∧ D ≤ gc w1 w2 w3 a b c (k + 1)) ∨ gc w1 w2 w3 a b c (-10 + n) ≤ D := by
    intro n
    induction n with
    | zero => intro _; exact .inr h0
    | succ n ih =>
      intro hn
      rcases ih (by omega) with h | h
      · exact .inl h
      · by_cases q : D ≤ gc w1 w2 w3 a b c (-10 + n + 1)
        · exact .inl ⟨-10 + n, by omega, by omega, h, q⟩
        · refine .inr ?_
          rw [show (-10 + ((n + 1 : Nat) : Int)) = -10 + n + 1 by omega]
          omega
  rcases key 20 (by decide) with h | h
  · exact h
  · have := gc_step a b c 9 p1 p2 p3
    exact ⟨9, by decide, by decide, by
      have e : gc w1 w2 w3 a b c (9 + 1) = gc w1 w2 w3 a b c 10 := rfl
      have e2 : gc w1 w2 w3 a b c (-10 + ((20 : Nat) : Int)) = gc w1 w2 w3 a b c 10 := rfl
      omega, h1⟩
theorem gw_hit {w1 w2 w3 a b c D : Int} (p1 : 0 ≤ w1 ∧ w1 ≤ 2) (p2 : 0 ≤ w2 ∧ w2 ≤ 2) (p3 : 0 ≤ w3 ∧ w3 ≤ 2) (h0 : gc w1 w2 w3 a b c (-10) ≤ D) (h1 : D ≤ gc w1 w2 w3 a b c 10) : ∃ s, -600 ≤ s ∧ s ≤ 600 ∧ gw w1 w2 w3 (60 * a) (60 * b) (60 * c) s = 60 * D := by
  obtain ⟨k, k0, k1, l0, l1⟩ := gc_hit p1 p2 p3 h0 h1
  obtain ⟨s0, s1⟩ := gc_step a b c k p1 p2 p3
  have key : ∃ t, 0 ≤ t ∧ t ≤ 60 ∧ t * (gc w1 w2 w3 a b c (k + 1) - gc w1 w2 w3 a b c k) = 60 * (D - gc w1 w2 w3 a b c k) := by
    generalize hσ : gc w1 w2 w3 a b c (k + 1) - gc w1 w2 w3 a b c k = σ at *
    generalize hm : D - gc w1 w2 w3 a b c k = m
    have hm0 : 0 ≤ m ∧ m ≤ σ := by omega
    have hc : σ = 0 ∨ σ = 1 ∨ σ = 2 ∨ σ = 3 ∨ σ = 4 ∨ σ = 5 ∨ σ = 6 := by omega
    rcases hc with h | h | h | h | h | h | h
    · exact ⟨0, by decide, by decide, by omega⟩
    · exact ⟨60 * m, by omega, by omega, by rw [h]; omega⟩
    · exact ⟨30 * m, by omega, by omega, by rw [h]; omega⟩
    · exact ⟨20 * m, by omega, by omega, by rw [h]; omega⟩
    · exact ⟨15 * m, by omega, by omega, by rw [h]; omega⟩
    · exact ⟨12 * m, by omega, by omega, by rw [h]; omega⟩
    · exact ⟨10 * m, by omega, by omega, by rw [h]; omega⟩
  obtain ⟨t, t0, t1, ht⟩ := key
  refine ⟨60 * k + t, by omega, by omega, ?_⟩
  rw [gw_seg _ _ _ _ _ _ _ _ t0 t1, ht]; omega
theorem gc_ends {w1 w2 w3 a b c x y z : Int} (p1 : 0 ≤ w1) (p2 : 0 ≤ w2) (p3 : 0 ≤ w3) (ha : 0 ≤ a ∧ a ≤ 10) (hb : 0 ≤ b ∧ b ≤ 10) (hc : 0 ≤ c ∧ c ≤ 10) (hx : 0 ≤ x ∧ x ≤ 10) (hy : 0 ≤ y ∧ y ≤ 10) (hz : 0 ≤ z ∧ z ≤ 10) :
    gc w1 w2 w3 a b c (-10) ≤ w1 * x + w2 * y + w3 * z ∧ w1 * x + w2 * y + w3 * z ≤ gc w1 w2 w3 a b c 10 := by
  have e : ∀ {n : Int}, 0 ≤ n ∧ n ≤ 10 → c10 (n + -10) = 0 ∧ c10 (n + 10) = 10 := by intro n h; unfold c10; omega
  unfold gc
  rw [(e ha).1, (e hb).1, (e hc).1, (e ha).2, (e hb).2, (e hc).2]
  have m1 := Int.mul_le_mul_of_nonneg_left hx.1 p1
  have m2 := Int.mul_le_mul_of_nonneg_left hy.1 p2
  have m3 := Int.mul_le_mul_of_nonneg_left hz.1 p3
  have n1 := Int.mul_le_mul_of_nonneg_left hx.2 p1
  have n2 := Int.mul_le_mul_of_nonneg_left hy.2 p2
  have n3 := Int.mul_le_mul_of_nonneg_left hz.2 p3
  omega

def Tj (w1 w2 w3 R G B j : Int) : Int := gw w1 w2 w3 R G B (-600 + j) * 1073741824
theorem eq3 {w1 w2 w3 A1 A2 B1 B2 C1 C2 : Int} (p1 : 1 ≤ w1) (p2 : 1 ≤ w2) (p3 : 1 ≤ w3) (m1 : A1 ≤ A2) (m2 : B1 ≤ B2) (m3 : C1 ≤ C2) (h : w1 * A1 + w2 * B1 + w3 * C1 = w1 * A2 + w2 * B2 + w3 * C2) : A1 = A2 ∧ B1 = B2 ∧ C1 = C2 := by
  have k1 := Int.mul_le_mul_of_nonneg_left m1 (show 0 ≤ w1 by omega)
  have k2 := Int.mul_le_mul_of_nonneg_left m2 (show 0 ≤ w2 by omega)
  have k3 := Int.mul_le_mul_of_nonneg_left m3 (show 0 ≤ w3 by omega)
  have z1 : w1 * A1 = w1 * A2 := by omega
  have z2 : w2 * B1 = w2 * B2 := by omega
  have z3 : w3 * C1 = w3 * C2 := by omega
  exact ⟨Int.eq_of_mul_eq_mul_left (by omega) z1, Int.eq_of_mul_eq_mul_left (by omega) z2, Int.eq_of_mul_eq_mul_left (by omega) z3⟩
/-- what the searches tell -/
theorem search_ok {w1 w2 w3 a b c x y z : Int} (p1 : 1 ≤ w1 ∧ w1 ≤ 2) (p2 : 1 ≤ w2 ∧ w2 ≤ 2) (p3 : 1 ≤ w3 ∧ w3 ≤ 2) (ha : 0 ≤ a ∧ a ≤ 10) (hb : 0 ≤ b ∧ b ≤ 10) (hc : 0 ≤ c ∧ c ≤ 10) (hx : 0 ≤ x ∧ x ≤ 10) (hy : 0 ≤ y ∧ y ≤ 10) (hz : 0 ≤ z ∧ z ≤ 10) :
    ∃ due first behind : Int, due = w1 * (60 * x) + w2 * (60 * y) + w3 * (60 * z) ∧ PlaceL (Tj w1 w2 w3 (60 * a) (60 * b) (60 * c)) (due * 1073741824) first ∧ PlaceR (Tj w1 w2 w3 (60 * a) (60 * b) (60 * c)) (due * 1073741824) behind ∧
      0 ≤ first ∧ first ≤ 1200 ∧ 1 ≤ behind ∧ behind ≤ 1201 ∧
      (0 < first → Tj w1 w2 w3 (60 * a) (60 * b) (60 * c) (first - 1) < due * 1073741824) ∧ (behind < 1201 → due * 1073741824 < Tj w1 w2 w3 (60 * a) (60 * b) (60 * c) behind) ∧
      gw w1 w2 w3 (60 * a) (60 * b) (60 * c) (-600 + first) = due ∧
      cl (60 * a + (-600 + first)) = cl (60 * a + (-600 + (behind - 1))) ∧ cl (60 * b + (-600 + first)) = cl (60 * b + (-600 + (behind - 1))) ∧ cl (60 * c + (-600 + first)) = cl (60 * c + (-600 + (behind - 1))) := by
  obtain ⟨g1, g2⟩ := gc_ends (w1 := w1) (w2 := w2) (w3 := w3) (by omega) (by omega) (by omega) ha hb hc hx hy hz
  obtain ⟨s, s0, s1, hs⟩ := gw_hit ⟨by omega, p1.2⟩ ⟨by omega, p2.2⟩ ⟨by omega, p3.2⟩ g1 g2
  have mono : ∀ s t, s ≤ t → gw w1 w2 w3 (60 * a) (60 * b) (60 * c) s ≤ gw w1 w2 w3 (60 * a) (60 * b) (60 * c) t := fun s t h => gw_mono (by omega) (by omega) (by omega) h
  have hd : ∃ due : Int, due = w1 * (60 * x) + w2 * (60 * y) + w3 * (60 * z) ∧ due = 60 * (w1 * x + w2 * y + w3 * z) := ⟨_, rfl, by simp only [Int.mul_add, Int.mul_left_comm w1, Int.mul_left_comm w2, Int.mul_left_comm w3]⟩
  obtain ⟨due, hd1, hd2⟩ := hd
  rw [← hd2] at hs
  obtain ⟨⟨first, f0, f1, f2, f3⟩, ⟨behind, b0, b1, b2, b3⟩⟩ := place_ex (Tj w1 w2 w3 (60 * a) (60 * b) (60 * c)) (fun i j h0 h1 h2 => by
    have := mono (-600 + i) (-600 + j) (by omega)
    unfold Tj; omega) (due * 1073741824)
  -- the step that hits
  have hj : Tj w1 w2 w3 (60 * a) (60 * b) (60 * c) (s + 600) = due * 1073741824 := by
    unfold Tj; rw [show -600 + (s + 600) = s by omega, hs]
  have hf1 : first ≤ s + 600 := by
    by_cases q : first ≤ s + 600
    · exact q
    · have := f2 (s + 600) (by omega) (by omega); omega
  have hb1 : s + 600 < behind := by
    by_cases q : s + 600 < behind
    · exact q
    · have := b3 (s + 600) (by omega) (by omega); omega
  have hgf : gw w1 w2 w3 (60 * a) (60 * b) (60 * c) (-600 + first) = due := by
    have u := mono (-600 + first) s (by omega)
    have v := f3 first (by omega) (by omega)
    unfold Tj at v
    omega
  have hgb : gw w1 w2 w3 (60 * a) (60 * b) (60 * c) (-600 + (behind - 1)) = due := by
    have u := mono s (-600 + (behind - 1)) (by omega)
    have v := b2 (behind - 1) (by omega) (by omega)
    unfold Tj at v
    omega
  have hle : -600 + first ≤ -600 + (behind - 1) := by omega
  have m1 := cl_mono (show 60 * a + (-600 + first) ≤ 60 * a + (-600 + (behind - 1)) by omega)
  have m2 := cl_mono (show 60 * b + (-600 + first) ≤ 60 * b + (-600 + (behind - 1)) by omega)
  have m3 := cl_mono (show 60 * c + (-600 + first) ≤ 60 * c + (-600 + (behind - 1)) by omega)
  have hgg := hgf.trans hgb.symm
  obtain ⟨z1, z2, z3⟩ := eq3 p1.1 p2.1 p3.1 m1 m2 m3 hgg
  refine ⟨due, first, behind, hd1, ⟨f0, f1, f2, f3⟩, ⟨b0, b1, b2, b3⟩, f0, by omega, by omega, b1, fun h => f2 _ (by omega) (by omega), fun h => b3 _ (by omega) h, hgf,
    z1, z2, z3⟩
end Mine
end

/-! part PL11 -/
section
set_option maxRecDepth 100000
set_option linter.unusedVariables false
set_option exponentiation.threshold 3000
namespace Mine
open PySem PySem.Float64 PySem.Builtin.Math

def pR (R G B s : Int) : UInt64 := clampF (yiqR (Float64.add (wayY R G B) (divII s 600)) (wayI R G B) (wayQ R G B))
def pG (R G B s : Int) : UInt64 := clampF (yiqG (Float64.add (wayY R G B) (divII s 600)) (wayI R G B) (wayQ R G B))
def pB (R G B s : Int) : UInt64 := clampF (yiqB (Float64.add (wayY R G B) (divII s 600)) (wayI R G B) (wayQ R G B))
structure In600 (R : Int) : Prop where
  lo : 0 ≤ R
  hi : R ≤ 600
theorem near_parts {R G B s : Int} (hR : In600 R) (hG : In600 G) (hB : In600 B) (hs : -600 ≤ s ∧ s ≤ 600) : Nq (pR R G B s) (cl (R + s) * 255470000) 70000 ∧ Nq (pG R G B s) (cl (G + s) * 255470000) 70000 ∧ Nq (pB R G B s) (cl (B + s) * 255470000) 70000 :=
  ⟨(paintedR ⟨hR.1, hR.2⟩ ⟨hG.1, hG.2⟩ ⟨hB.1, hB.2⟩ hs).weak (by decide), (paintedG ⟨hR.1, hR.2⟩ ⟨hG.1, hG.2⟩ ⟨hB.1, hB.2⟩ hs).weak (by decide), paintedB ⟨hR.1, hR.2⟩ ⟨hG.1, hG.2⟩ ⟨hB.1, hB.2⟩ hs⟩

/-- what the weights are -/
structure WF (a b c : Int) (n1 n2 n3 : Nat) : Prop where
  e1 : (n1 : Int) = a
  e2 : (n2 : Int) = b
  e3 : (n3 : Int) = c
  w1 : Wgt (ofInt a) n1
  w2 : Wgt (ofInt b) n2
  w3 : Wgt (ofInt c) n3
  ws : IntF (ofInt ([a, b, c].sum)) (n1 + n2 + n3)
  den : denF (ofInt a) (ofInt b) (ofInt c) = ofInt ([a, b, c].sum)
  nz : isZero (denF (ofInt a) (ofInt b) (ofInt c)) = false
  fin : fsumFin [] [ofInt a, ofInt b, ofInt c]
theorem wf_of {a b c : Int} (ha : a = 1 ∨ a = 2) (hb : b = 1 ∨ b = 2) (hc : c = 1 ∨ c = 2) : ∃ n1 n2 n3, WF a b c n1 n2 n3 := by
  have w1 : Wgt (ofInt 1) 1 := ⟨int1, .inl rfl⟩
  have w2 : Wgt (ofInt 2) 2 := ⟨int2, .inr rfl⟩
  rcases ha with rfl | rfl <;> rcases hb with rfl | rfl <;> rcases hc with rfl | rfl
  · exact ⟨1, 1, 1, rfl, rfl, rfl, w1, w1, w1, int3, by decide +kernel, by decide +kernel, ⟨by decide +kernel, by decide +kernel, by decide +kernel, trivial⟩⟩
  · exact ⟨1, 1, 2, rfl, rfl, rfl, w1, w1, w2, int4, by decide +kernel, by decide +kernel, ⟨by decide +kernel, by decide +kernel, by decide +kernel, trivial⟩⟩
  · exact ⟨1, 2, 1, rfl, rfl, rfl, w1, w2, w1, int4, by decide +kernel, by decide +kernel, ⟨by decide +kernel, by decide +kernel, by decide +kernel, trivial⟩⟩
  · exact ⟨1, 2, 2, rfl, rfl, rfl, w1, w2, w2, int5, by decide +kernel, by decide +kernel, ⟨by decide +kernel, by decide +kernel, by decide +kernel, trivial⟩⟩
  · exact ⟨2, 1, 1, rfl, rfl, rfl, w2, w1, w1, int4, by decide +kernel, by decide +kernel, ⟨by decide +kernel, by decide +kernel, by decide +kernel, trivial⟩⟩
  · exact ⟨2, 1, 2, rfl, rfl, rfl, w2, w1, w2, int5, by decide +kernel, by decide +kernel, ⟨by decide +kernel, by decide +kernel, by decide +kernel, trivial⟩⟩
  · exact ⟨2, 2, 1, rfl, rfl, rfl, w2, w2, w1, int5, by decide +kernel, by decide +kernel, ⟨by decide +kernel, by decide +kernel, by decide +kernel, trivial⟩⟩
  · exact ⟨2, 2, 2, rfl, rfl, rfl, w2, w2, w2, int6, by decide +kernel, by decide +kernel, ⟨by decide +kernel, by decide +kernel, by decide +kernel, trivial⟩⟩

/-- all that fmean by weights needs, and tells -/
structure TF (a b c : Int) (X Y Z : UInt64) (V : Int) : Prop where
  ia : isInf (ofInt a) = false
  ib : isInf (ofInt b) = false
  ic : isInf (ofInt c) = false
  f1 : isFinite (tlFma X (ofInt a) (0, 0, 0)).1 = true
  f2 : isFinite (tlFma Y (ofInt b) (tlFma X (ofInt a) (0, 0, 0))).1 = true
  f3 : isFinite (tl3 X (ofInt a) Y (ofInt b) Z (ofInt c)).1 = true
  nz : isZero (denF (ofInt a) (ofInt b) (ofInt c)) = false
  fin : fsumFin [] [ofInt a, ofInt b, ofInt c]
  fm : Fin1 (wmeanF X Y Z (ofInt a) (ofInt b) (ofInt c))
  ft : Fin1 (toldF X Y Z (ofInt a) (ofInt b) (ofInt c) (ofInt ([a, b, c].sum)))
  val : PySem.Flt.toInt nearestOf (toldF X Y Z (ofInt a) (ofInt b) (ofInt c) (ofInt ([a, b, c].sum))) = V * 1073741824
theorem tf_of {a b c R G B s : Int} (ha : a = 1 ∨ a = 2) (hb : b = 1 ∨ b = 2) (hc : c = 1 ∨ c = 2) (hR : In600 R) (hG : In600 G) (hB : In600 B) (hs : -600 ≤ s ∧ s ≤ 600) : TF a b c (pR R G B s) (pG R G B s) (pB R G B s) (gw a b c R G B s) := by
  obtain ⟨n1, n2, n3, W⟩ := wf_of ha hb hc
  obtain ⟨h1, h2, h3⟩ := near_parts hR hG hB hs
  have r1 := cl_range (R + s)
  have r2 := cl_range (G + s)
  have r3 := cl_range (B + s)
  have c1 := (h1.colour (by decide) r1.1 r1.2).1
  have c2 := (h2.colour (by decide) r2.1 r2.2).1
  have c3 := (h3.colour (by decide) r3.1 r3.2).1
  obtain ⟨t1, t2, t3⟩ := tl_chain W.w1 W.w2 W.w3 c1 c2 c3
  obtain ⟨k1, k2, k3⟩ := told_is h1 h2 h3 (by decide) r1 r2 r3 W.w1 W.w2 W.w3 W.ws W.den
  rw [W.e1, W.e2, W.e3] at k3
  exact ⟨ofInt_fin W.w1, ofInt_fin W.w2, ofInt_fin W.w3, fin_of t1.f1, fin_of t2.f1, fin_of t3.f1, W.nz, W.fin, k1, k2, k3⟩
theorem fine_of {R G B s : Int} (hR : In600 R) (hG : In600 G) (hB : In600 B) (hs : -600 ≤ s ∧ s ≤ 600) :
    (Fin1 (fineF (pR R G B s)) ∧ Fin1 (fineF (pG R G B s)) ∧ Fin1 (fineF (pB R G B s))) ∧
    [fineSV (.flt (pR R G B s)), fineSV (.flt (pG R G B s)), fineSV (.flt (pB R G B s))] = [cl (R + s) * 1073741824, cl (G + s) * 1073741824, cl (B + s) * 1073741824].map SV.int ∧
    fsumFin [] [pR R G B s, pG R G B s, pB R G B s] ∧ Fin1 (meanBig (pR R G B s) (pG R G B s) (pB R G B s)) ∧
    PySem.Flt.toInt nearestOf (meanBig (pR R G B s) (pG R G B s) (pB R G B s)) = (cl (R + s) + cl (G + s) + cl (B + s)) * 1073741824 := by
  obtain ⟨h1, h2, h3⟩ := near_parts hR hG hB hs
  have r1 := cl_range (R + s)
  have r2 := cl_range (G + s)
  have r3 := cl_range (B + s)
  have f1 := fine_is h1 (by decide) r1.1 r1.2
  have f2 := fine_is h2 (by decide) r2.1 r2.2
  have f3 := fine_is h3 (by decide) r3.1 r3.2
  obtain ⟨m1, m2, m3, m4⟩ := mean_is h1 h2 h3 (by decide) r1 r2 r3
  refine ⟨⟨f1.1, f2.1, f3.1⟩, ?_, m1, m3, m4⟩
  show [SV.int _, SV.int _, SV.int _] = [SV.int _, SV.int _, SV.int _]
  rw [f1.2, f2.2, f3.2]
end Mine
end

/-! part H6 -/
section
set_option maxRecDepth 100000
set_option linter.unusedVariables false
namespace Mine
open PySem PySem.Calls PySem.W PyProof.Rows
local macro_rules | `(tactic| walk_at "op") => `(tactic| with_reducible first
  | exact OP.addF | exact OP.mulF | exact OP.subF | exact OP.addI | exact OP.subI | exact OP.ltF | exact OP.gtF | exact OP.ltI | exact OP.gtI | exact OP.geI | exact OP.leI | exact OP.eqI | exact OP.neI
  | exact OP.modI (by decide) | exact OP.fdivI (by decide) (by decide) | exact OP.mulI (.of_right (intBits_le_64 (by decide) (by decide))) | exact OP.mulI (.of_left (intBits_le_64 (by decide) (by decide)))
  | exact OP.mulI (.of_left (intBits_le_64 (by omega) (by omega))) | exact OP.mulI (.of_right (intBits_le_64 (by omega) (by omega)))
  | exact OP.divI (by assumption) (by omega) (by decide) | exact OP.mulFI (fit1023 (by decide)) | exact OP.pow30)
local macro_rules | `(tactic| walk_at "sub") => `(tactic| first
  | ((with_reducible refine' SUB.tup ?s1 ?s2 ?s3 ?s4); (case s1 => decide); (case s2 => decide); (case s3 => exact rfl); (case s4 => exact fun _ _ => rfl))
  | ((with_reducible refine' SUB.lst ?s1 ?s2 ?s3 ?s4); (case s1 => decide); (case s2 => decide); (case s3 => exact rfl); (case s4 => exact fun _ _ => rfl)))
local macro_rules | `(tactic| walk_at "ev") => `(tactic| first
  | (with_reducible exact EV.flt)
  | (with_reducible exact EV.int)
  | ((with_reducible refine' EV.name ?n1 ?n2 ?n3 ?n4); (case n1 => exact rfl); (case n2 => exact rfl); (case n3 => exact rfl); (case n4 => exact rfl))
  | ((with_reducible refine' EV.bin ?ea ?eb ?ec); (case ea => walk_at "ev"); (case eb => walk_at "ev"); (case ec => walk_at "op"))
  | ((with_reducible refine' EV.sub ?ea ?eb ?ec); (case ea => walk_at "ev"); (case eb => walk_at "ev"); (case ec => walk_at "sub"))
  | (with_reducible exact EV.bool)
  | (with_reducible exact EV.nonec))
local macro_rules | `(tactic| walk_at "tv") => `(tactic| first
  | ((with_reducible refine' TV.cmp ?ea ?eb ?ec ?ed); (case ea => walk_at "ev"); (case eb => walk_at "ev"); (case ec => walk_at "op"); (case ed => with_unfolding_all rfl)))
local macro_rules | `(tactic| walk_at "asg") => `(tactic| (refine' EX.cons (EX1.assign ?k1 ?k2 ?k3 ?k4) ?_; (case k1 => exact rfl); (case k2 => exact rfl); (case k3 => walk_at "ev"); (case k4 => exact rfl)))
local macro_rules | `(tactic| walk_at "evs") => `(tactic| first
  | (with_reducible exact EVs.nil)
  | ((with_reducible refine' EVs.cons ?ca ?cb ?cc); (case ca => walk_at "ev"); (case cb => walk_at "evs"); (case cc => exact fun _ => rfl)))


def lamSt : Stmt := ((fnBody (stmtAt 16))[0]?).getD (.Pass default)
def lamP : Stmt → Arguments
  | .Assign _ (.Lambda a _ _ _) _ => a
  | _ => ⟨[], [], none, [], [], none, []⟩
def lamB : Stmt → Expr
  | .Assign _ (.Lambda _ b _ _) _ => b
  | _ => .Name "" default
def lamS : Stmt → Scope
  | .Assign _ (.Lambda _ _ s _) _ => s
  | _ => default
theorem lookup_cons'' {α : Type} {x y : Str} {p : α} {r : List (Str × α)} : ((y, p) :: r).lookup x = if x = y then some p else r.lookup x := by
  rw [List.lookup_cons]
  by_cases q : x = y
  · subst q; simp
  · rw [if_neg q]; have : (x == y) = false := beq_eq_false_iff_ne.mpr q
    rw [this]
def wayPV (R0 G0 B0 : Int) : PV := .tup [.flt (wayY R0 G0 B0), .flt (wayI R0 G0 B0), .flt (wayQ R0 G0 B0)]
def wPV (a b c : Int) : PV := .tup [.int a, .int b, .int c]
/-- the cells that the lambda reads -/
def Pt (g0 : Heap) (cY cW : Addr) (p q : PV) (h : Heap) : Prop := Base g0 h ∧ (∃ v, h.IsCell cY (some v) ∧ Is h v p) ∧ (∃ v, h.IsCell cW (some v) ∧ Is h v q)
theorem Pt.stays {g0 : Heap} {cY cW : Addr} {p q : PV} {h h' : Heap} (x : Pt g0 cY cW p q h) (k : h.StaysIn h') : Pt g0 cY cW p q h' := by
  obtain ⟨b, ⟨v, c1, i1⟩, ⟨u, c2, i2⟩⟩ := x
  exact ⟨b.stays k, ⟨v, c1.keeps k, i1.stays k⟩, ⟨u, c2.keeps k, i2.stays k⟩⟩
theorem sum3 {a b c : Int} : [a, b, c].sum = a + b + c := by simp; omega
section
variable {prog : Program} {w : World} {A : Around} {g g0 : Heap} {env : Env} {r : Vars} {mg mb : Str → Option Value} {P : Heap → Prop}
theorem FN.sum3 {P : Heap → Prop} (hA : A.handled = none) {a b c : Int} : FN prog w A P (.builtin "sum") [.tup [.int a, .int b, .int c]] [] (.int ([a, b, c].sum)) :=
  FN.sum (ns := [a, b, c]) (ITER.tup (A := A.in1) (l := [.int a, .int b, .int c]) hA)
theorem fn_told (G : GL mg mb g0) {n : Nat} (R : Room A (n + 4)) {a b c R0 G0 B0 s : Int} (ha : a = 1 ∨ a = 2) (hb : b = 1 ∨ b = 2) (hc : c = 1 ∨ c = 2) (hR : In600 R0) (hG : In600 G0) (hB : In600 B0) (hs : -600 ≤ s ∧ s ≤ 600)
    {cY cW : Addr} (hne : cY ≠ cW) :
    FNV prog w A (Pt g0 cY cW (wayPV R0 G0 B0) (wPV a b c)) (.lam (lamP lamSt) (lamB lamSt) (lamS lamSt) [("weights", cW), ("way", cY)]) [.int s] [] (.int (gw a b c R0 G0 B0 s * 1073741824)) := by
  have tf := tf_of ha hb hc hR hG hB hs
  refine FNV.lam (x := "step") (rf := [("way", wayPV R0 G0 B0), ("weights", wPV a b c)]) R (fun h p => G.lim.keeps p.1.1) (fun h p => p.1.tab) (fun _ _ _ _ => rfl) (by decide) rfl rfl rfl rfl
    ?ap ?cl ?fr rfl ?body
  case ap =>
    intro x y z e1 e2
    simp only [lookup_cons'', List.lookup_nil] at e1 e2
    split at e1 <;> split at e2 <;> simp_all
  case cl =>
    intro h p n z e
    simp only [lookup_cons'', List.lookup_nil] at e
    split at e
    · cases e; obtain ⟨v, q, _⟩ := p.2.2; exact ⟨_, q⟩
    · split at e
      · cases e; obtain ⟨v, q, _⟩ := p.2.1; exact ⟨_, q⟩
      · cases e
  case fr =>
    intro h p n q e
    rw [lookup_cons'] at e
    split at e
    · rename_i hn; subst hn; cases e
      obtain ⟨v, q1, q2⟩ := p.2.1
      exact ⟨rfl, cY, v, rfl, q1, q2⟩
    · rw [lookup_cons'] at e
      split at e
      · rename_i hn; subst hn; cases e
        obtain ⟨v, q1, q2⟩ := p.2.2
        exact ⟨rfl, cW, v, rfl, q1, q2⟩
      · cases e
  case body =>
    intro g L f cdv p
    have R' := R.deeper (envX lamQual (lamS lamSt) L f cdv [("weights", cW), ("way", cY)])
    have hb : ([a, b, c].sum).natAbs < 2 ^ 64 := by rw [Mine.sum3]; omega
    refine' EV.app (P := Base g0) (EV.bl G p.1.1 G.m1 (by decide) rfl rfl rfl rfl rfl rfl) (EVs.cons ?i1 EVs.nil (fun _ => rfl)) CAN.blt (FN.round (x := toldF (pR R0 G0 B0 s) (pG R0 G0 B0 s) (pB R0 G0 B0 s) (Float64.ofInt a) (Float64.ofInt b) (Float64.ofInt c) (Float64.ofInt ([a, b, c].sum))) R'.hh (fin_of tf.ft) tf.val) (fun h F => p.1.fr h F) (fun _ => rfl) (fun _ => rfl)
    case i1 =>
      refine' EV.bin (EV.bin (EV.bin ?m ?s (OP.mulFI (fit1023 hb))) ?e1 (OP.mulFI (n := 600) (fit1023 (by decide)))) ?e2 (OP.mulFI (n := 1073741824) (fit1023 (by decide)))
      case e1 => walk_at "ev"
      case e2 => walk_at "ev"
      case s =>
        refine' EV.app (P := Base g0) (EV.bl G p.1.1 G.m4 (by decide) rfl rfl rfl rfl rfl rfl) (EVs.cons ?i1 EVs.nil (fun _ => rfl)) CAN.blt (FN.sum3 R'.hh) (fun h F => p.1.fr h F) (fun _ => rfl) (fun _ => rfl)
        case i1 => walk_at "ev"
      case m =>
        refine' EV.app (P := Base g0) (EV.gl G p.1.1 G.n3 rfl rfl rfl rfl) (EVs.cons ?c1 (EVs.cons ?c2 EVs.nil (fun _ => rfl)) (fun _ => rfl)) (CAN.def fun h q => G.f77.keeps q.1)
          (fn_wmean (x := pR R0 G0 B0 s) (y := pG R0 G0 B0 s) (z := pB R0 G0 B0 s) (a := a) (b := b) (c := c) G (R'.less (show 1 ≤ n + 3 by omega)) (by omega) (by omega) (by omega) tf.nz tf.fin tf.ia tf.ib tf.ic tf.f1 tf.f2 tf.f3) (fun h F => p.1.fr h F) (fun _ => rfl) (fun _ => rfl)
        case c2 => walk_at "ev"
        case c1 =>
          refine' EV.app (P := Base g0) (EV.gl G p.1.1 G.n9 rfl rfl rfl rfl) (EVs.cons ?d1 (EVs.cons ?d2 EVs.nil (fun _ => rfl)) (fun _ => rfl)) (CAN.def fun h q => G.f123.keeps q.1)
            (fn_painted (y := wayY R0 G0 B0) (i := wayI R0 G0 B0) (q := wayQ R0 G0 B0) (s := s) G (R'.less (show 1 ≤ n + 3 by omega)) hs) (fun h F => p.1.fr h F) (fun _ => rfl) (fun _ => rfl)
          case d1 => walk_at "ev"
          case d2 => walk_at "ev"
end
end Mine
end

/-! part H7 -/
section
set_option maxRecDepth 100000
set_option linter.unusedVariables false
namespace Mine
open PySem PySem.Calls PySem.W PyProof.Rows
theorem OP.fdiv30 {prog : Program} {w : World} {A : Around} {a : Int} : OP prog w A (binaryOp .FloorDiv) (.int a) (.int 1073741824) (.int (a.fdiv 1073741824)) := fun s Q E va vb ia ib h => by
  cases ia; cases ib; exact PyProof.Rows.floordiv_int (by decide) (h _ s.heap _ (stays_refl _) (IsS.int _ _)) (.inl (PyProof.noPylong_of_log2 (by decide +kernel)))
local macro_rules | `(tactic| walk_at "op") => `(tactic| with_reducible first
  | exact OP.addF | exact OP.mulF | exact OP.subF | exact OP.addI | exact OP.subI | exact OP.ltF | exact OP.gtF | exact OP.ltI | exact OP.gtI | exact OP.geI | exact OP.leI | exact OP.eqI | exact OP.neI
  | exact OP.modI (by decide) | exact OP.fdivI (by decide) (by decide) | exact OP.mulI (.of_right (intBits_le_64 (by decide) (by decide))) | exact OP.mulI (.of_left (intBits_le_64 (by decide) (by decide)))
  | exact OP.mulI (.of_left (intBits_le_64 (by omega) (by omega))) | exact OP.mulI (.of_right (intBits_le_64 (by omega) (by omega)))
  | exact OP.divI (by assumption) (by omega) (by decide) | exact OP.mulFI (fit1023 (by decide)) | exact OP.pow30 | exact OP.fdiv30)
local macro_rules | `(tactic| walk_at "sub") => `(tactic| first
  | ((with_reducible refine' SUB.tup ?s1 ?s2 ?s3 ?s4); (case s1 => decide); (case s2 => decide); (case s3 => exact rfl); (case s4 => exact fun _ _ => rfl))
  | ((with_reducible refine' SUB.lst ?s1 ?s2 ?s3 ?s4); (case s1 => decide); (case s2 => decide); (case s3 => exact rfl); (case s4 => exact fun _ _ => rfl)))
local macro_rules | `(tactic| walk_at "ev") => `(tactic| first
  | (with_reducible exact EV.flt)
  | (with_reducible exact EV.int)
  | ((with_reducible refine' EV.name ?n1 ?n2 ?n3 ?n4); (case n1 => exact rfl); (case n2 => exact rfl); (case n3 => exact rfl); (case n4 => exact rfl))
  | ((with_reducible refine' EV.bin ?ea ?eb ?ec); (case ea => walk_at "ev"); (case eb => walk_at "ev"); (case ec => walk_at "op"))
  | ((with_reducible refine' EV.sub ?ea ?eb ?ec); (case ea => walk_at "ev"); (case eb => walk_at "ev"); (case ec => walk_at "sub"))
  | (with_reducible exact EV.bool)
  | (with_reducible exact EV.nonec))
local macro_rules | `(tactic| walk_at "tv") => `(tactic| first
  | ((with_reducible refine' TV.cmp ?ea ?eb ?ec ?ed); (case ea => walk_at "ev"); (case eb => walk_at "ev"); (case ec => walk_at "op"); (case ed => with_unfolding_all rfl)))
local macro_rules | `(tactic| walk_at "asg") => `(tactic| (refine' EX.cons (EX1.assign ?k1 ?k2 ?k3 ?k4) ?_; (case k1 => exact rfl); (case k2 => exact rfl); (case k3 => walk_at "ev"); (case k4 => exact rfl)))
local macro_rules | `(tactic| walk_at "evs") => `(tactic| first
  | (with_reducible exact EVs.nil)
  | ((with_reducible refine' EVs.cons ?ca ?cb ?cc); (case ca => walk_at "ev"); (case cb => walk_at "evs"); (case cc => exact fun _ => rfl)))


section
variable {prog : Program} {w : World} {A : Around} {g g0 : Heap} {env : Env} {r : Vars} {mg mb : Str → Option Value} {P : Heap → Prop}
theorem pt_of {h : Heap} {cY cW : Addr} {p q : PV} (b : Base g0 h) (F : FR g env r h) (hY : env.kindOf "way" = some .cell) (hW : env.kindOf "weights" = some .cell) (lY : env.cells.lookup (Str.ofString "way") = some cY) (lW : env.cells.lookup (Str.ofString "weights") = some cW)
    (rY : r.lookup (Str.ofString "way") = some p) (rW : r.lookup (Str.ofString "weights") = some q) : Pt g0 cY cW p q h := by
  obtain ⟨m, n, k⟩ := F.vars
  refine ⟨b, ?_, ?_⟩
  · rcases k _ _ rY with ⟨l, _⟩ | ⟨_, c, v, e1, e2, e3⟩
    · rw [hY] at l; cases l
    · rw [lY] at e1; cases e1; exact ⟨v, e2, e3⟩
  · rcases k _ _ rW with ⟨l, _⟩ | ⟨_, c, v, e1, e2, e3⟩
    · rw [hW] at l; cases l
    · rw [lW] at e1; cases e1; exact ⟨v, e2, e3⟩
theorem bat_keeps {h h' : Heap} {Pl : Addr} (x : h.BuiltinsAt mg Pl) (k : h.StaysIn h') : h'.BuiltinsAt mg Pl := by
  obtain ⟨bm, ob, b1, b2, b3, b4, b5, b6⟩ := x
  exact ⟨bm, ob, b1, b2, b3, b4, k _ _ b5, b6⟩
theorem EX1.getIt {st : Stmt} {r1 r2 : Vars} (h : EX1 prog w A g env r st (.nxt r1)) (e : r1 = r2) : EX1 prog w A g env r st (.nxt r2) := e ▸ h
theorem EV.getIt {e : Expr} {p q : PV} (h : EV prog w A g env r e p) (z : p = q) : EV prog w A g env r e q := z ▸ h
theorem FN.getIt {f : Value} {as : List PV} {ks : List (Str × PV)} {p q : PV} (h : FN prog w A P f as ks p) (z : p = q) : FN prog w A P f as ks q := z ▸ h

abbrev fScope : Scope := fnScope (stmtAt 16)
abbrev fEnv (L : Addr) : Env := envX "_law_found" fScope L 133 (.ref 132) (cellsFrom (L + 1) fScope.names [])
def isF : SV → SV := fun _ => .bool true
def div30 : SV → SV
  | .int n => .int (n.fdiv 1073741824)
  | x => x
def mul30 : SV → SV
  | .int n => .int (n * 1073741824)
  | x => x
/-- what the searches tell of own parts, weights and due -/
structure Hit (a b c R0 G0 B0 due first behind : Int) : Prop where
  pl : PlaceL (Tj a b c R0 G0 B0) (due * 1073741824) first
  pr : PlaceR (Tj a b c R0 G0 B0) (due * 1073741824) behind
  f0 : 0 ≤ first
  f1 : first ≤ 1200
  b0 : 1 ≤ behind
  b1 : behind ≤ 1201
  below : 0 < first → Tj a b c R0 G0 B0 (first - 1) < due * 1073741824
  above : behind < 1201 → due * 1073741824 < Tj a b c R0 G0 B0 behind
  e1 : cl (R0 + (-600 + first)) = cl (R0 + (-600 + (behind - 1)))
  e2 : cl (G0 + (-600 + first)) = cl (G0 + (-600 + (behind - 1)))
  e3 : cl (B0 + (-600 + first)) = cl (B0 + (-600 + (behind - 1)))
def fineL (R0 G0 B0 s : Int) : List Int := [cl (R0 + s) * 1073741824, cl (G0 + s) * 1073741824, cl (B0 + s) * 1073741824]
def foundL (R0 G0 B0 s : Int) : List Int := [cl (R0 + s), cl (G0 + s), cl (B0 + s)]
abbrev colL (R0 G0 B0 s : Int) : List SV := [.flt (pR R0 G0 B0 s), .flt (pG R0 G0 B0 s), .flt (pB R0 G0 B0 s)]
theorem found_of_fine {R0 G0 B0 s : Int} : ((fineL R0 G0 B0 s).map SV.int).map div30 = (foundL R0 G0 B0 s).map SV.int := by
  have e : ∀ n : Int, (n * 1073741824).fdiv 1073741824 = n := fun n => Int.mul_fdiv_cancel _ (by decide)
  simp [fineL, foundL, div30, e]
theorem fine_of_found {R0 G0 B0 s : Int} : ((foundL R0 G0 B0 s).map SV.int).map mul30 = (fineL R0 G0 B0 s).map SV.int := by
  simp [fineL, foundL, mul30]

theorem fn_painted' (G : GL mg mb g0) {n : Nat} (R : Room A (n + 1)) {R0 G0 B0 s : Int} (hs : -600 ≤ s ∧ s ≤ 600) : FN prog w A (Base g0) (.ref 123) [wayPV R0 G0 B0, .int s] [] (.tup (colL R0 G0 B0 s)) :=
  fn_painted G R hs
theorem fn_fine' (G : GL mg mb g0) {n : Nat} (R : Room A (n + 1)) {R0 G0 B0 s : Int} (hR : In600 R0) (hG : In600 G0) (hB : In600 B0) (hs : -600 ≤ s ∧ s ≤ 600) : FN prog w A (Base g0) (.ref 128) [.tup (colL R0 G0 B0 s)] [] (.lst ((fineL R0 G0 B0 s).map SV.int)) := by
  obtain ⟨⟨f1, f2, f3⟩, e, _⟩ := fine_of hR hG hB hs
  exact (fn_fine G R f1 f2 f3).getIt (congrArg PV.lst e)
theorem fn_mean' (G : GL mg mb g0) {n : Nat} (R : Room A (n + 1)) {R0 G0 B0 s : Int} (hR : In600 R0) (hG : In600 G0) (hB : In600 B0) (hs : -600 ≤ s ∧ s ≤ 600) : FN prog w A (Base g0) (.ref 77) [.tup (colL R0 G0 B0 s)] [] (.flt (meanF (pR R0 G0 B0 s) (pG R0 G0 B0 s) (pB R0 G0 B0 s))) :=
  fn_mean G R (fine_of hR hG hB hs).2.2.1
theorem fn_wmean' (G : GL mg mb g0) {n : Nat} (R : Room A (n + 1)) {a b c R0 G0 B0 s : Int} (ha : a = 1 ∨ a = 2) (hb : b = 1 ∨ b = 2) (hc : c = 1 ∨ c = 2) (hR : In600 R0) (hG : In600 G0) (hB : In600 B0) (hs : -600 ≤ s ∧ s ≤ 600) : FN prog w A (Base g0) (.ref 77) [.tup (colL R0 G0 B0 s), wPV a b c] [] (.flt (wmeanF (pR R0 G0 B0 s) (pG R0 G0 B0 s) (pB R0 G0 B0 s) (Float64.ofInt a) (Float64.ofInt b) (Float64.ofInt c))) := by
  have tf := tf_of ha hb hc hR hG hB hs
  exact fn_wmean G R (by omega) (by omega) (by omega) tf.nz tf.fin tf.ia tf.ib tf.ic tf.f1 tf.f2 tf.f3

theorem fn_found (G : GL mg mb g0) {n : Nat} (R : Room A (n + 8)) {a b c R0 G0 B0 due first behind : Int} (ha : a = 1 ∨ a = 2) (hb : b = 1 ∨ b = 2) (hc : c = 1 ∨ c = 2) (hR : In600 R0) (hG : In600 G0) (hB : In600 B0) (hd : 0 ≤ due ∧ due ≤ 3600)
    (H : Hit a b c R0 G0 B0 due first behind) : FNX prog w A (Base g0) (.ref 133) [.rng (-600) 601, wayPV R0 G0 B0, wPV a b c, .int due] (.lst ((foundL R0 G0 B0 (-600 + first)).map SV.int)) :=
  FNX.defC R (fun h p => G.f133.keeps p.1) (fun h p => G.lim.keeps p.1) (BINDS.of4 fun _ _ _ _ _ _ _ _ _ _ _ => rfl)
    (locsC rfl) rfl rfl rfl fun h0 L pb hL => by
      obtain ⟨g, hg⟩ : ∃ g, g = hideAll h0 [tabAddr] := ⟨_, rfl⟩
      rw [← hg]
      have hid : g.get? tabAddr = none := by rw [hg]; exact hideAll_none _ (.head _)
      have bg : g0.StaysIn g := fun b o e => by
        rw [hg]; exact hideAll_get _ (pb.1 b o e) fun hm => by rw [List.mem_singleton.mp hm, G.tab] at e; cases e
      clear hg
      have R' := R.deeper (fEnv L)
      have hi : (A.deeper (fEnv L)).in1.handled = none := R'.hh
      have u : (A.deeper (fEnv L)).units + 64 < cLine := R'.units
      have bF : ∀ {r : Vars} (h : Heap), FR g (fEnv L) r h → Base g0 h := fun h F => ⟨stays_trans bg F.keep, F.tab hid⟩
      have s1 : -600 ≤ -600 + first ∧ -600 + first ≤ 600 := by have := H.f0; have := H.f1; omega
      have s2 : -600 ≤ -600 + (behind - 1) ∧ -600 + (behind - 1) ≤ 600 := by have := H.b0; have := H.b1; omega
      have hne : L + 1 ≠ L + 2 := Nat.ne_of_lt (Nat.lt_succ_self _)
      have told : ∀ A', Room A' (n + 6) → ∀ j : Int, 0 ≤ j → j < 1201 → FNV prog w A' (Pt g0 (L + 1) (L + 2) (wayPV R0 G0 B0) (wPV a b c)) (.lam (lamP lamSt) (lamB lamSt) (lamS lamSt) [("weights", L + 2), ("way", L + 1)]) [.int (-600 + j)] [] (.int (Tj a b c R0 G0 B0 j)) :=
        fun A' RA j j0 j1 => fn_told (n := n) G (RA.less (by omega)) ha hb hc hR hG hB (by omega) hne
      refine ⟨?_, ?h⟩
      case h =>
        refine' EX.cons (EX1.lam (params := lamP lamSt) (body := lamB lamSt) (lscope := lamS lamSt) (clos := [("weights", L + 2), ("way", L + 1)]) (mg := mg) (c := 132) rfl rfl rfl rfl rfl (G.g.keeps bg) rfl (G.code.keeps bg) (bat_keeps G.bat bg) hid rfl rfl rfl rfl) ?_
        refine' EX.cons (EX1.assign rfl rfl ?e1 rfl) ?_
        case e1 =>
          refine' EV.appK (P := Pt g0 (L + 1) (L + 2) (wayPV R0 G0 B0) (wPV a b c)) (EV.gl G bg G.n4 rfl rfl rfl rfl) (EVs.cons ?i1 (EVs.cons ?i2 EVs.nil (fun _ => rfl)) (fun _ => rfl)) ?i3 (CAN.def fun h q => G.f95.keeps q.1.1)
            (fn_bisL (m := n + 6) (T := Tj a b c R0 G0 B0) (x := due * 1073741824) (res := first) G R' (fun h q => q.1) (fun h h' q k => q.stays k) told H.pl) (fun h F => pt_of (bF h F) F rfl rfl rfl rfl rfl rfl) (fun _ => rfl) (fun _ => rfl)
          case i1 => walk_at "ev"
          case i2 => walk_at "ev"
          case i3 => walk_at "ev"
        refine' EX.cons (EX1.assign rfl rfl ?e1 rfl) ?_
        case e1 =>
          refine' EV.appK (P := Pt g0 (L + 1) (L + 2) (wayPV R0 G0 B0) (wPV a b c)) (EV.gl G bg G.n5 rfl rfl rfl rfl) (EVs.cons ?i1 (EVs.cons ?i2 EVs.nil (fun _ => rfl)) (fun _ => rfl)) ?i3 (CAN.def fun h q => G.f86.keeps q.1.1)
            (fn_bisR (m := n + 6) (T := Tj a b c R0 G0 B0) (x := due * 1073741824) (res := behind) G R' (fun h q => q.1) (fun h h' q k => q.stays k) told H.pr) (fun h F => pt_of (bF h F) F rfl rfl rfl rfl rfl rfl) (fun _ => rfl) (fun _ => rfl)
          case i1 => walk_at "ev"
          case i2 => walk_at "ev"
          case i3 => walk_at "ev"
        refine' EX.cons (EX1.no (TV.and (c := false) ?t1 ?t2) (Bool.and_false _) EX.nil) ?_
        case t1 => walk_at "tv"
        case t2 =>
          intro hpos
          have hpos := of_decide_eq_true hpos
          refine' TV.is (TV.and ?q1 (fun _ => TV.and_nil)) (b := decide (due * 1073741824 ≤ Tj a b c R0 G0 B0 (first - 1)) && true) ?q2
          case q2 => rw [decide_eq_false (Int.not_le.mpr (H.below hpos))]; rfl
          case q1 =>
            refine' TV.cmp (EV.appV (P := Pt g0 (L + 1) (L + 2) (wayPV R0 G0 B0) (wPV a b c)) ?i1 (EVs.cons ?i2 EVs.nil (fun _ => rfl)) CANV.lam (told _ (R'.less (by omega)) (first - 1) (by omega) (by have := H.f1; omega)) (fun h F => pt_of (bF h F) F rfl rfl rfl rfl rfl rfl) (fun _ => rfl) (fun _ => rfl)) ?i3 OP.geI (by with_unfolding_all rfl)
            case i1 => walk_at "ev"
            case i2 =>
              refine' EV.sub ?j1 ?j2 (SUB.rng (a := -600) (b := 601) (i := first - 1) (by omega) (by have := H.f1; omega) (fun _ _ => rfl))
              case j1 => walk_at "ev"
              case j2 => walk_at "ev"
            case i3 => walk_at "ev"
        refine' EX.cons (EX1.no (TV.and (c := false) ?t1 ?t2) (Bool.and_false _) EX.nil) ?_
        case t1 => walk_at "tv"
        case t2 =>
          intro hpos
          have hpos := of_decide_eq_true hpos
          refine' TV.is (TV.and ?q1 (fun _ => TV.and_nil)) (b := decide (Tj a b c R0 G0 B0 behind ≤ due * 1073741824) && true) ?q2
          case q2 => rw [decide_eq_false (Int.not_le.mpr (H.above hpos))]; rfl
          case q1 =>
            refine' TV.cmp (EV.appV (P := Pt g0 (L + 1) (L + 2) (wayPV R0 G0 B0) (wPV a b c)) ?i1 (EVs.cons ?i2 EVs.nil (fun _ => rfl)) CANV.lam (told _ (R'.less (by omega)) behind (by have := H.b0; omega) (by omega)) (fun h F => pt_of (bF h F) F rfl rfl rfl rfl rfl rfl) (fun _ => rfl) (fun _ => rfl)) ?i3 OP.leI (by with_unfolding_all rfl)
            case i1 => walk_at "ev"
            case i2 =>
              refine' EV.sub ?j1 ?j2 (SUB.rng (a := -600) (b := 601) (i := behind) (by have := H.b0; omega) (by omega) (fun _ _ => rfl))
              case j1 => walk_at "ev"
              case j2 => walk_at "ev"
            case i3 => walk_at "ev"
        -- colour
        refine' EX.cons (EX1.assign (p := .tup (colL R0 G0 B0 (-600 + first))) rfl rfl ?e1 rfl) ?_
        case e1 =>
          refine' EV.app (P := Base g0) (EV.gl G bg G.n9 rfl rfl rfl rfl) (EVs.cons ?i1 (EVs.cons ?i2 EVs.nil (fun _ => rfl)) (fun _ => rfl)) (CAN.def fun h q => G.f123.keeps q.1) (fn_painted' G (R'.less (show 1 ≤ n + 7 by omega)) s1) (fun h F => bF h F) (fun _ => rfl) (fun _ => rfl)
          case i1 => walk_at "ev"
          case i2 =>
            refine' EV.sub ?j1 ?j2 (SUB.rng (a := -600) (b := 601) (i := first) H.f0 (by have := H.f1; omega) (fun _ _ => rfl))
            case j1 => walk_at "ev"
            case j2 => walk_at "ev"
        refine' EX.cons (EX1.no (TV.not (TV.plain ?t1 (TRU.bool (b := true)))) rfl EX.nil) ?_
        case t1 =>
          refine' EV.app (P := Base g0) (EV.bl G bg G.m2 (by decide) rfl rfl rfl rfl rfl rfl) (EVs.cons ?i1 (EVs.cons ?i2 EVs.nil (fun _ => rfl)) (fun _ => rfl)) CAN.blt (FN.isiTup (l := colL R0 G0 B0 (-600 + first))) (fun h F => bF h F) (fun _ => rfl) (fun _ => rfl)
          case i1 => walk_at "ev"
          case i2 => exact EV.bl G bg G.m9 (by decide) rfl rfl rfl rfl rfl rfl
        -- kinds
        refine' EX.cons (EX1.assignComp (x := "one") (cl := []) (rf := []) (xs := colL R0 G0 B0 (-600 + first) ++ [.flt (meanF (pR R0 G0 B0 (-600 + first)) (pG R0 G0 B0 (-600 + first)) (pB R0 G0 B0 (-600 + first))), .flt (wmeanF (pR R0 G0 B0 (-600 + first)) (pG R0 G0 B0 (-600 + first)) (pB R0 G0 B0 (-600 + first)) (Float64.ofInt a) (Float64.ofInt b) (Float64.ofInt c))]) isF ?k0 rfl rfl ?k1 (ITER.tup R'.hh) ?k3 ?k4 rfl (fun _ => rfl)) ?_
        case k0 => exact Seen.nil (by decide) (by decide) rfl (by decide) rfl
        case k3 => exact Nat.le_of_ble_eq_true rfl
        case k4 =>
          intro v hv C
          have key : ∃ x, v = .flt x := by
            simp only [List.cons_append, List.nil_append, List.mem_cons, List.not_mem_nil, or_false] at hv
            rcases hv with rfl | rfl | rfl | rfl | rfl <;> exact ⟨_, rfl⟩
          obtain ⟨x, rfl⟩ := key
          refine' EV.app (P := Base g0) (EV.bl G bg G.m2 (by decide) rfl rfl rfl rfl rfl rfl) (EVs.cons ?i1 (EVs.cons ?i2 EVs.nil (fun _ => rfl)) (fun _ => rfl)) CAN.blt (FN.isiFlt (x := x)) (fun h F => ⟨stays_trans bg F.keep, F.tab hid⟩) (fun _ => rfl) (fun _ => rfl)
          case i1 => walk_at "ev"
          case i2 => exact EV.bl G bg G.m10 (by decide) rfl rfl rfl rfl rfl rfl
        case k1 =>
          refine' EV.bin ?l1 (EV.tupD (l := [.flt _, .flt _]) (EVs.cons ?l2 (EVs.cons ?l3 EVs.nil (fun _ => rfl)) (fun _ => rfl)) (Nat.le_of_ble_eq_true rfl)) (OP.addT (l := colL R0 G0 B0 (-600 + first)) (by intro h; cases h) (by intro h; cases h) (Nat.le_of_ble_eq_true rfl))
          case l1 => walk_at "ev"
          case l2 =>
            refine' EV.app (P := Base g0) (EV.gl G bg G.n3 rfl rfl rfl rfl) (EVs.cons ?i1 EVs.nil (fun _ => rfl)) (CAN.def fun h q => G.f77.keeps q.1) (fn_mean' G (R'.less (show 1 ≤ n + 7 by omega)) hR hG hB s1) (fun h F => bF h F) (fun _ => rfl) (fun _ => rfl)
            case i1 => walk_at "ev"
          case l3 =>
            refine' EV.app (P := Base g0) (EV.gl G bg G.n3 rfl rfl rfl rfl) (EVs.cons ?i1 (EVs.cons ?i2 EVs.nil (fun _ => rfl)) (fun _ => rfl)) (CAN.def fun h q => G.f77.keeps q.1) (fn_wmean' G (R'.less (show 1 ≤ n + 7 by omega)) ha hb hc hR hG hB s1) (fun h F => bF h F) (fun _ => rfl) (fun _ => rfl)
            case i1 => walk_at "ev"
            case i2 => walk_at "ev"
        -- fine
        refine' EX.cons (EX1.assign (p := .lst ((fineL R0 G0 B0 (-600 + first)).map SV.int)) rfl rfl ?e1 rfl) ?_
        case e1 =>
          refine' EV.app (P := Base g0) (EV.gl G bg G.n10 rfl rfl rfl rfl) (EVs.cons ?i1 EVs.nil (fun _ => rfl)) (CAN.def fun h q => G.f128.keeps q.1) (fn_fine' G (R'.less (show 1 ≤ n + 7 by omega)) hR hG hB s1) (fun h F => bF h F) (fun _ => rfl) (fun _ => rfl)
          case i1 => walk_at "ev"
        refine' EX.cons (EX1.no (TV.or (b := false) (c := false) ?t1 (fun _ => TV.is (TV.or (b := !decide (fineL R0 G0 B0 (-600 + first) = fineL R0 G0 B0 (-600 + (behind - 1)))) ?t2 (fun _ => TV.or_nil)) ?t3)) rfl EX.nil) ?_
        case t1 =>
          refine' TV.cmp ?i1 (EV.mulL (PLN.lstD (l := [.bool true]) (EVs.cons EV.bool EVs.nil (fun _ => rfl)) (Nat.le_of_ble_eq_true rfl)) (by intro h; cases h) (by decide) (by decide) (Nat.le_of_ble_eq_true rfl)) (OP.neBools5 u) (by with_unfolding_all rfl)
          case i1 => walk_at "ev"
        case t3 =>
          have e : fineL R0 G0 B0 (-600 + first) = fineL R0 G0 B0 (-600 + (behind - 1)) := by unfold fineL; rw [H.e1, H.e2, H.e3]
          rw [decide_eq_true e]; rfl
        case t2 =>
          refine' TV.cmp ?i1 (EV.app (P := Base g0) (EV.gl G bg G.n10 rfl rfl rfl rfl) (EVs.cons ?i2 EVs.nil (fun _ => rfl)) (CAN.def fun h q => G.f128.keeps q.1) (fn_fine' G (R'.less (show 1 ≤ n + 7 by omega)) hR hG hB s2) (fun h F => bF h F) (fun _ => rfl) (fun _ => rfl)) (OP.neInts u) (by with_unfolding_all rfl)
          case i1 => walk_at "ev"
          case i2 =>
            refine' EV.app (P := Base g0) (EV.gl G bg G.n9 rfl rfl rfl rfl) (EVs.cons ?j1 (EVs.cons ?j2 EVs.nil (fun _ => rfl)) (fun _ => rfl)) (CAN.def fun h q => G.f123.keeps q.1) (fn_painted' G (R'.less (show 1 ≤ n + 7 by omega)) s2) (fun h F => bF h F) (fun _ => rfl) (fun _ => rfl)
            case j1 => walk_at "ev"
            case j2 =>
              refine' EV.sub ?j1 ?j2 (SUB.rng (a := -600) (b := 601) (i := behind - 1) (by have := H.b0; omega) (by have := H.b1; omega) (fun _ _ => rfl))
              case j1 => walk_at "ev"
              case j2 => walk_at "ev"
        -- found
        refine' EX.cons (EX1.getIt (EX1.assignComp (x := "part") (cl := []) (rf := []) (xs := (fineL R0 G0 B0 (-600 + first)).map SV.int) div30 ?k0 rfl rfl ?k1 (ITER.lst R'.hh) ?k3 ?k4 rfl (fun _ => rfl)) (congrArg (fun l => (_, PV.lst l) :: _) found_of_fine)) ?_
        case k0 => exact Seen.nil (by decide) (by decide) rfl (by decide) rfl
        case k1 => walk_at "ev"
        case k3 => exact Nat.le_of_ble_eq_true rfl
        case k4 =>
          intro v hv C
          obtain ⟨m, _, rfl⟩ := List.mem_map.mp hv
          show EV _ _ _ _ _ _ _ (PV.int (m.fdiv 1073741824))
          walk_at "ev"
        have hfin := (fine_of hR hG hB s1).2.2.2
        refine' EX.cons (EX1.no (TV.or (b := false) (c := false) (TV.is (b := !decide (fineL R0 G0 B0 (-600 + first) = fineL R0 G0 B0 (-600 + first))) ?t1 ?t4) (fun _ => TV.is (TV.or (b := ((cl (R0 + (-600 + first)) + cl (G0 + (-600 + first)) + cl (B0 + (-600 + first))) * 1073741824 != (fineL R0 G0 B0 (-600 + first)).sum)) ?t2 (fun _ => TV.or_nil)) ?t3)) rfl EX.nil) ?_
        case t4 => rw [decide_eq_true rfl]; rfl
        case t1 =>
          refine' TV.cmp ?i1 (EV.getIt (EV.comp (x := "part") (cl := []) (rf := []) (xs := (foundL R0 G0 B0 (-600 + first)).map SV.int) mul30 ?k0 ?k1 (ITER.lst R'.hh) ?k3 ?k4 (fun _ => rfl)) (congrArg PV.lst fine_of_found)) (OP.neInts u) (by with_unfolding_all rfl)
          case i1 => walk_at "ev"
          case k0 => exact Seen.nil (by decide) (by decide) rfl (by decide) rfl
          case k1 => walk_at "ev"
          case k3 => exact Nat.le_of_ble_eq_true rfl
          case k4 =>
            intro v hv C
            obtain ⟨m, _, rfl⟩ := List.mem_map.mp hv
            show EV _ _ _ _ _ _ _ (PV.int (m * 1073741824))
            refine' EV.bin ?b1 ?b2 (OP.mulI (.of_right (intBits_le_64 (by decide) (by decide))))
            case b1 => walk_at "ev"
            case b2 => walk_at "ev"
        case t3 =>
          have e : (cl (R0 + (-600 + first)) + cl (G0 + (-600 + first)) + cl (B0 + (-600 + first))) * 1073741824 = (fineL R0 G0 B0 (-600 + first)).sum := by
            unfold fineL; rw [Mine.sum3]; omega
          rw [e]; simp
        case t2 =>
          refine' TV.cmp (EV.app (P := Base g0) (EV.bl G bg G.m1 (by decide) rfl rfl rfl rfl rfl rfl) (EVs.cons ?i1 EVs.nil (fun _ => rfl)) CAN.blt (FN.round (x := meanBig (pR R0 G0 B0 (-600 + first)) (pG R0 G0 B0 (-600 + first)) (pB R0 G0 B0 (-600 + first))) R'.hh (fin_of hfin.1) hfin.2) (fun h F => bF h F) (fun _ => rfl) (fun _ => rfl))
            (EV.app (P := Base g0) (EV.bl G bg G.m4 (by decide) rfl rfl rfl rfl rfl rfl) (EVs.cons ?i2 EVs.nil (fun _ => rfl)) CAN.blt (FN.sum (ns := fineL R0 G0 B0 (-600 + first)) (ITER.lst hi)) (fun h F => bF h F) (fun _ => rfl) (fun _ => rfl)) OP.neI (by with_unfolding_all rfl)
          case i2 => walk_at "ev"
          case i1 =>
            refine' EV.bin (EV.bin ?m ?e1 (OP.mulFI (n := 1800) (fit1023 (by decide)))) ?e2 (OP.mulFI (n := 1073741824) (fit1023 (by decide)))
            case e1 => walk_at "ev"
            case e2 => walk_at "ev"
            case m =>
              refine' EV.app (P := Base g0) (EV.gl G bg G.n3 rfl rfl rfl rfl) (EVs.cons ?i1 EVs.nil (fun _ => rfl)) (CAN.def fun h q => G.f77.keeps q.1) (fn_mean' G (R'.less (show 1 ≤ n + 7 by omega)) hR hG hB s1) (fun h F => bF h F) (fun _ => rfl) (fun _ => rfl)
              case i1 => walk_at "ev"
        refine' EX.ret (EX1.ret ?r1)
        case r1 => walk_at "ev"
end
end Mine
end

/-! part H8 -/
section
set_option maxRecDepth 100000
set_option linter.unusedVariables false
namespace Mine
open PySem PySem.Calls PySem.W PyProof.Rows
local macro_rules | `(tactic| walk_at "op") => `(tactic| with_reducible first
  | exact OP.addF | exact OP.mulF | exact OP.subF | exact OP.addI | exact OP.subI | exact OP.ltF | exact OP.gtF | exact OP.ltI | exact OP.gtI | exact OP.geI | exact OP.leI | exact OP.eqI | exact OP.neI
  | exact OP.modI (by decide) | exact OP.fdivI (by decide) (by decide) | exact OP.mulI (.of_right (intBits_le_64 (by decide) (by decide))) | exact OP.mulI (.of_left (intBits_le_64 (by decide) (by decide)))
  | exact OP.mulI (.of_left (intBits_le_64 (by omega) (by omega))) | exact OP.mulI (.of_right (intBits_le_64 (by omega) (by omega)))
  | exact OP.divI (by assumption) (by omega) (by decide) | exact OP.mulFI (fit1023 (by decide)) | exact OP.pow30 | exact OP.fdiv30)
local macro_rules | `(tactic| walk_at "sub") => `(tactic| first
  | ((with_reducible refine' SUB.tup ?s1 ?s2 ?s3 ?s4); (case s1 => decide); (case s2 => decide); (case s3 => exact rfl); (case s4 => exact fun _ _ => rfl))
  | ((with_reducible refine' SUB.lst ?s1 ?s2 ?s3 ?s4); (case s1 => decide); (case s2 => decide); (case s3 => exact rfl); (case s4 => exact fun _ _ => rfl)))
local macro_rules | `(tactic| walk_at "ev") => `(tactic| first
  | (with_reducible exact EV.flt)
  | (with_reducible exact EV.int)
  | ((with_reducible refine' EV.name ?n1 ?n2 ?n3 ?n4); (case n1 => exact rfl); (case n2 => exact rfl); (case n3 => exact rfl); (case n4 => exact rfl))
  | ((with_reducible refine' EV.bin ?ea ?eb ?ec); (case ea => walk_at "ev"); (case eb => walk_at "ev"); (case ec => walk_at "op"))
  | ((with_reducible refine' EV.sub ?ea ?eb ?ec); (case ea => walk_at "ev"); (case eb => walk_at "ev"); (case ec => walk_at "sub"))
  | (with_reducible exact EV.bool)
  | (with_reducible exact EV.nonec))
local macro_rules | `(tactic| walk_at "tv") => `(tactic| first
  | ((with_reducible refine' TV.cmp ?ea ?eb ?ec ?ed); (case ea => walk_at "ev"); (case eb => walk_at "ev"); (case ec => walk_at "op"); (case ed => with_unfolding_all rfl)))
local macro_rules | `(tactic| walk_at "asg") => `(tactic| (refine' EX.cons (EX1.assign ?k1 ?k2 ?k3 ?k4) ?_; (case k1 => exact rfl); (case k2 => exact rfl); (case k3 => walk_at "ev"); (case k4 => exact rfl)))
local macro_rules | `(tactic| walk_at "evs") => `(tactic| first
  | (with_reducible exact EVs.nil)
  | ((with_reducible refine' EVs.cons ?ca ?cb ?cc); (case ca => walk_at "ev"); (case cb => walk_at "evs"); (case cc => exact fun _ => rfl)))


/-! ## cells, own parts, weights -/
def pickI (ns : List Int) (k : Int) : List Int := (pickSV (ns.map SV.int) (some k) none (some 4)).map svInt
theorem svInt_map : ∀ ms : List Int, (ms.map SV.int).map svInt = ms
  | [] => rfl
  | a :: t => congrArg (a :: ·) (svInt_map t)
theorem pickI_eq (ns : List Int) (k : Int) : pickSV (ns.map SV.int) (some k) none (some 4) = (pickI ns k).map SV.int := by
  obtain ⟨ms, e⟩ := pick_ints ns (some k) none (some 4)
  unfold pickI
  rw [e]
  rw [svInt_map]
theorem pick1 (a b c d : SV) : pickSV [a, b, c, d] (some 1) none none = [b, c, d] := by
  have e : sliceRange (sliceBounds (some 1) none none 4).1 (sliceBounds (some 1) none none 4).2.1 (sliceBounds (some 1) none none 4).2.2 = [1, 2, 3] := by decide
  unfold pickSV
  show (sliceRange (sliceBounds (some 1) none none 4).1 (sliceBounds (some 1) none none 4).2.1 (sliceBounds (some 1) none none 4).2.2).filterMap _ = _
  rw [e]; rfl
def startOf (k : Int) : Int := ([42, 9185, 1816, 3593] : List Int).getD k.toNat 0
def cellF (ns : List Int) : SV → SV
  | .int k => .int (startOf k + (pickI ns k).sum)
  | x => x
def cellOf (ns : List Int) (k : Int) : Int := startOf k + (pickI ns k).sum
def p0 (c : Int) : Int := c.fmod 11
def p1 (c : Int) : Int := (c.fdiv 11).fmod 11
def p2 (c : Int) : Int := (c.fdiv 121).fmod 11
theorem fmod11 (n : Int) : 0 ≤ n.fmod 11 ∧ n.fmod 11 ≤ 10 := by
  rw [Int.fmod_eq_emod_of_nonneg _ (by decide)]; omega
theorem fmod2 (n : Int) : 1 + n.fmod 2 = 1 ∨ 1 + n.fmod 2 = 2 := by
  rw [Int.fmod_eq_emod_of_nonneg _ (by decide)]; omega
def q0 (c : Int) : Int := 1 + (c.fdiv 1331).fmod 2
def q1 (c : Int) : Int := 1 + (c.fdiv 2662).fmod 2
def q2 (c : Int) : Int := 1 + (c.fdiv 5324).fmod 2
theorem in600 {x : Int} (h : 0 ≤ x ∧ x ≤ 10) : In600 (x * 60) := ⟨by omega, by omega⟩
theorem hit_of {w1 w2 w3 a b c x y z : Int} (h1 : w1 = 1 ∨ w1 = 2) (h2 : w2 = 1 ∨ w2 = 2) (h3 : w3 = 1 ∨ w3 = 2) (ha : 0 ≤ a ∧ a ≤ 10) (hb : 0 ≤ b ∧ b ≤ 10) (hc : 0 ≤ c ∧ c ≤ 10) (hx : 0 ≤ x ∧ x ≤ 10) (hy : 0 ≤ y ∧ y ≤ 10) (hz : 0 ≤ z ∧ z ≤ 10) :
    ∃ first behind, Hit w1 w2 w3 (a * 60) (b * 60) (c * 60) (w1 * (x * 60) + w2 * (y * 60) + w3 * (z * 60)) first behind ∧
      w1 * cl (a * 60 + (-600 + first)) + w2 * cl (b * 60 + (-600 + first)) + w3 * cl (c * 60 + (-600 + first)) = w1 * (x * 60) + w2 * (y * 60) + w3 * (z * 60) := by
  obtain ⟨due, first, behind, e, k1, k2, k3, k4, k5, k6, k7, k8, k9, k10, k11, k12⟩ := search_ok (w1 := w1) (w2 := w2) (w3 := w3) (by omega) (by omega) (by omega) ha hb hc hx hy hz
  simp only [Int.mul_comm 60] at *
  subst e
  exact ⟨first, behind, ⟨k1, k2, k3, k4, k5, k6, k7, k8, k10, k11, k12⟩, k9⟩
theorem argBest_le (bt : Nat → Nat → Bool) : ∀ k, argBest bt k ≤ k
  | 0 => Nat.le_refl _
  | k + 1 => by
    unfold argBest
    have := argBest_le bt k
    split <;> omega
theorem getD3 {a b c : Int} {i : Nat} (h : i ≤ 2) : [a, b, c].getD i 0 = a ∨ [a, b, c].getD i 0 = b ∨ [a, b, c].getD i 0 = c := by
  match i, h with
  | 0, _ => exact .inl rfl
  | 1, _ => exact .inr (.inl rfl)
  | 2, _ => exact .inr (.inr rfl)
theorem bestMin3 (a b c : Int) : bestMin [a, b, c] = a ∨ bestMin [a, b, c] = b ∨ bestMin [a, b, c] = c := getD3 (argBest_le _ _)
theorem bestMax3 (a b c : Int) : bestMax [a, b, c] = a ∨ bestMax [a, b, c] = b ∨ bestMax [a, b, c] = c := getD3 (argBest_le _ _)
theorem due_le {w x : Int} (hw : w = 1 ∨ w = 2) (hx : 0 ≤ x ∧ x ≤ 10) : 0 ≤ w * (x * 60) ∧ w * (x * 60) ≤ 1200 := by rcases hw with rfl | rfl <;> omega

abbrev lScope : Scope := fnScope (stmtAt 18)
abbrev lEnv (q : Str) (L a : Addr) (cdv : Value) : Env := envX q lScope L a cdv (cellsFrom (L + 1) lScope.names [])
section
variable {prog : Program} {w : World} {A : Around} {g g0 : Heap} {env : Env} {r : Vars} {mg mb : Str → Option Value} {P : Heap → Prop}
def ownPV (c : Int) : PV := .lst [.int (p0 c * 60), .int (p1 c * 60), .int (p2 c * 60)]
theorem law_ex (G : GL mg mb g0) {n : Nat} (R : Room A (n + 12)) {ns : List Int} (hlen : ns.length ≤ 63) {q : Str} {L a : Addr} {cdv : Value} :
    ∃ r', EX prog w A g0 (lEnv q L a cdv) [("script", .lst (ns.map SV.int))] (fnBody (stmtAt 18)) (.ret r' (.bool true)) := by
  have hi : A.in1.handled = none := R.hh
  have u : A.units + 64 < cLine := R.units
  have bF : ∀ {r : Vars} (h : Heap), FR g0 (lEnv q L a cdv) r h → Base g0 h := fun h F => ⟨F.keep, F.tab G.tab⟩
  have cc : ∀ {E : Env} {r : Vars} (h : Heap), FR g0 E r h → Base g0 h := fun h F => ⟨F.keep, F.tab G.tab⟩
  have sf : ∀ x : Heap, x.StaysIn x := fun x => stays_refl x
  refine ⟨?_, ?h⟩
  case h =>
    -- starts
    refine' EX.cons (EX1.assignCell (c := L + 2) (p := .lst [.int 42, .int 9185, .int 1816, .int 3593]) rfl rfl rfl (EV.lstD ?k1 (Nat.le_of_ble_eq_true rfl)) rfl) ?_
    case k1 => show EVs _ _ _ _ _ _ _ _ [PV.sc _, PV.sc _, PV.sc _, PV.sc _]; walk_at "evs"
    -- cells
    refine' EX.cons (EX1.getIt (r2 := ("cells", .lst [.int (cellOf ns 0), .int (cellOf ns 1), .int (cellOf ns 2), .int (cellOf ns 3)]) :: ("starts", .lst [.int 42, .int 9185, .int 1816, .int 3593]) :: [("script", .lst (ns.map SV.int))])
      (EX1.assignComp (x := "k") (a := .rng 0 (0 + ((4 : Nat) : Int))) (cl := [("starts", L + 2), ("script", L + 1)]) (rf := [("starts", .lst [.int 42, .int 9185, .int 1816, .int 3593]), ("script", .lst (ns.map SV.int))]) (cellF ns) ?k0 rfl rfl ?k1 (ITER.rng R.hh (by decide) (by decide)) ?k3 ?k4 rfl (fun _ => rfl)) rfl) ?_
    case k0 =>
      refine ⟨rfl, by decide, rfl, by decide, rfl, ?_, ?_, ?_⟩
      · intro m c e
        rw [lookup_cons''] at e
        split at e
        · rename_i hm; subst hm; cases e; rfl
        · rw [lookup_cons''] at e
          split at e
          · rename_i hm; subst hm; cases e; rfl
          · cases e
      · intro m c e C _
        rw [lookup_cons''] at e
        split at e
        · rename_i hm; subst hm; rfl
        · rw [lookup_cons''] at e
          split at e
          · rename_i hm; subst hm; rfl
          · cases e
      · intro m p e
        rw [lookup_cons''] at e
        split at e
        · rename_i hm; subst hm; cases e
          exact ⟨rfl, ⟨L + 2, rfl⟩, fun C => rfl, fun h => absurd ((rfl : some NameKind.cell = (lEnv q L a cdv).kindOf (Str.ofString "starts")).trans h) (by decide)⟩
        · rw [lookup_cons''] at e
          split at e
          · rename_i hm; subst hm; cases e
            exact ⟨rfl, ⟨L + 1, rfl⟩, fun C => rfl, fun h => absurd ((rfl : some NameKind.cell = (lEnv q L a cdv).kindOf (Str.ofString "script")).trans h) (by decide)⟩
          · cases e
    case k1 =>
      refine' EV.app (P := Base g0) (EV.bl G (stays_refl g0) G.m5 (by decide) rfl rfl rfl rfl rfl rfl) (EVs.cons ?i1 EVs.nil (fun _ => rfl)) CAN.typ (FN.range1 (n := 4)) (fun h F => bF h F) (fun _ => rfl) (fun _ => rfl)
      case i1 => walk_at "ev"
    case k3 => exact Nat.le_of_ble_eq_true rfl
    case k4 =>
      intro v hv C
      have key : ∃ k : Int, v = .int k ∧ 0 ≤ k ∧ k < 4 := by
        obtain ⟨k, hk, rfl⟩ := List.mem_map.mp hv
        have := List.mem_range.mp hk
        exact ⟨_, rfl, by omega, by omega⟩
      obtain ⟨k, rfl, k0, k1⟩ := key
      have hitem : ([SV.int 42, .int 9185, .int 1816, .int 3593] : List SV)[k.toNat]? = some (.int (startOf k)) := by
        have hk : k = 0 ∨ k = 1 ∨ k = 2 ∨ k = 3 := by omega
        rcases hk with rfl | rfl | rfl | rfl <;> rfl
      show EV _ _ _ _ _ _ _ (PV.int (startOf k + (pickI ns k).sum))
      refine' EV.bin (EV.sub ?b1 ?b2 (SUB.lst (x := .int (startOf k)) k0 (by omega) hitem (fun _ _ => rfl))) ?b3 OP.addI
      case b1 => walk_at "ev"
      case b2 => walk_at "ev"
      case b3 =>
        refine' EV.app (P := Base g0) (EV.bl G (stays_refl g0) G.m4 (by decide) rfl rfl rfl rfl rfl rfl) (EVs.cons (EV.getIt (EV.sliceStep (i := k) (k := 4) ?c1 ?c2 ?c3 (by decide) ?c4 (fun _ _ => rfl)) (congrArg PV.lst (pickI_eq ns k))) EVs.nil (fun _ => rfl)) CAN.blt (FN.sum (ns := pickI ns k) (ITER.lst hi)) (fun h F => cc h F) (fun _ => rfl) (fun _ => rfl)
        case c1 => walk_at "ev"
        case c2 => walk_at "ev"
        case c3 => walk_at "ev"
        case c4 => rw [List.length_map, sizeLine_eq]; omega
    -- steps
    refine' EX.cons (EX1.assign rfl rfl ?e1 rfl) ?_
    case e1 =>
      refine' EV.app (P := Base g0) (EV.bl G (stays_refl g0) G.m5 (by decide) rfl rfl rfl rfl rfl rfl) (EVs.cons (EV.una ?i1 OP1.negI) (EVs.cons ?i2 EVs.nil (fun _ => rfl)) (fun _ => rfl)) CAN.typ (FN.range2 (a := -600) (b := 601)) (fun h F => bF h F) (fun _ => rfl) (fun _ => rfl)
      case i1 => walk_at "ev"
      case i2 => walk_at "ev"
    -- the searches without a key
    refine' EX.cons (EX1.no (TV.or (b := false) (c := false) ?t1 (fun _ => TV.is (TV.or (b := (1201 : Int) != 1201) ?t2 (fun _ => TV.or_nil)) rfl)) rfl EX.nil) ?_
    case t1 =>
      refine' TV.is (TV.cmp (EV.app (P := Base g0) (EV.gl G (stays_refl g0) G.n5 rfl rfl rfl rfl) (EVs.cons ?i1 (EVs.cons (EV.una ?i2 OP1.negI) EVs.nil (fun _ => rfl)) (fun _ => rfl)) (CAN.def fun h q => G.f86.keeps q.1)
        (fn_bisR0 (m := n + 11) (x := -601) (res := 0) G R (fun h q => q) (fun h h' q k => q.stays k) ⟨by decide, by decide, fun j e f => by omega, fun j e f => by show -601 < -600 + j; omega⟩) (fun h F => bF h F) (fun _ => rfl) (fun _ => rfl)) ?i3 OP.neI (by with_unfolding_all rfl)) (rfl : ((0 : Int) != 0) = false)
      case i1 => walk_at "ev"
      case i2 => walk_at "ev"
      case i3 => walk_at "ev"
    case t2 =>
      refine' TV.cmp (EV.app (P := Base g0) (EV.gl G (stays_refl g0) G.n4 rfl rfl rfl rfl) (EVs.cons ?i1 (EVs.cons ?i2 EVs.nil (fun _ => rfl)) (fun _ => rfl)) (CAN.def fun h q => G.f95.keeps q.1)
        (fn_bisL0 (m := n + 11) (x := 601) (res := 1201) G R (fun h q => q) (fun h h' q k => q.stays k) ⟨by decide, by decide, fun j e f => by show -600 + j < 601; omega, fun j e f => by omega⟩) (fun h F => bF h F) (fun _ => rfl) (fun _ => rfl)) ?i3 OP.neI (by with_unfolding_all rfl)
      case i1 => walk_at "ev"
      case i2 => walk_at "ev"
      case i3 => walk_at "ev"
    -- own
    refine' EX.cons (EX1.assign (p := ownPV (cellOf ns 0)) rfl rfl ?e1 rfl) ?_
    case e1 =>
      refine' EV.app (P := Base g0) (EV.gl G (stays_refl g0) G.n6 rfl rfl rfl rfl) (EVs.cons ?i1 EVs.nil (fun _ => rfl)) (CAN.def fun h q => G.f102.keeps q.1) (fn_parts (c := cellOf ns 0) G R) (fun h F => bF h F) (fun _ => rfl) (fun _ => rfl)
      case i1 => walk_at "ev"
    generalize hc : cellOf ns 0 = c0
    have a0 : 0 ≤ p0 c0 ∧ p0 c0 ≤ 10 := fmod11 _
    have a1 : 0 ≤ p1 c0 ∧ p1 c0 ≤ 10 := fmod11 _
    have a2 : 0 ≤ p2 c0 ∧ p2 c0 ≤ 10 := fmod11 _
    have big : ∀ {x : Int}, 0 ≤ x ∧ x ≤ 10 → (x * 60).natAbs < 2 ^ 1023 := fun h => fit1023 (by omega)
    unfold ownPV
    generalize p0 c0 = x0 at *
    generalize p1 c0 = x1 at *
    generalize p2 c0 = x2 at *
    have i0 := in600 a0
    have i1' := in600 a1
    have i2' := in600 a2
    -- way
    refine' EX.cons (EX1.assign (p := wayPV (x0 * 60) (x1 * 60) (x2 * 60)) rfl rfl ?e1 rfl) ?_
    case e1 =>
      refine' EV.app (P := Base g0) (EV.gl G (stays_refl g0) G.n1 rfl rfl rfl rfl) (EVs.cons (EV.bin ?i1 ?i2 (OP.divI (b := 600) R.hh (big a0) (by decide))) (EVs.cons (EV.bin ?i3 ?i4 (OP.divI (b := 600) R.hh (big a1) (by decide))) (EVs.cons (EV.bin ?i5 ?i6 (OP.divI (b := 600) R.hh (big a2) (by decide))) EVs.nil (fun _ => rfl)) (fun _ => rfl)) (fun _ => rfl)) (CAN.def fun h q => G.f49.keeps q.1) (fn_rgb G R) (fun h F => bF h F) (fun _ => rfl) (fun _ => rfl)
      case i1 => walk_at "ev"
      case i2 => walk_at "ev"
      case i3 => walk_at "ev"
      case i4 => walk_at "ev"
      case i5 => walk_at "ev"
      case i6 => walk_at "ev"
    -- unmoved
    refine' EX.cons (EX1.no (TV.or (b := false) (c := false) (TV.not (TV.plain ?t1 (TRU.bool (b := true)))) (fun _ => TV.is (TV.or (b := !decide (fineL (x0 * 60) (x1 * 60) (x2 * 60) 0 = [x0 * 60 * 1073741824, x1 * 60 * 1073741824, x2 * 60 * 1073741824])) ?t2 (fun _ => TV.or_nil)) ?t3)) rfl EX.nil) ?_
    case t1 =>
      refine' EV.app (P := Base g0) (EV.bl G (stays_refl g0) G.m2 (by decide) rfl rfl rfl rfl rfl rfl) (EVs.cons ?i1 (EVs.cons ?i2 EVs.nil (fun _ => rfl)) (fun _ => rfl)) CAN.blt (FN.isiTup (l := [.flt (wayY (x0 * 60) (x1 * 60) (x2 * 60)), .flt (wayI (x0 * 60) (x1 * 60) (x2 * 60)), .flt (wayQ (x0 * 60) (x1 * 60) (x2 * 60))])) (fun h F => bF h F) (fun _ => rfl) (fun _ => rfl)
      case i1 => walk_at "ev"
      case i2 => exact EV.bl G (stays_refl g0) G.m9 (by decide) rfl rfl rfl rfl rfl rfl
    case t3 =>
      have e : fineL (x0 * 60) (x1 * 60) (x2 * 60) 0 = [x0 * 60 * 1073741824, x1 * 60 * 1073741824, x2 * 60 * 1073741824] := by
        have z : ∀ {x : Int}, 0 ≤ x ∧ x ≤ 10 → cl (x * 60 + 0) = x * 60 := fun h => by unfold cl; omega
        unfold fineL; rw [z a0, z a1, z a2]
      rw [decide_eq_true e]; rfl
    case t2 =>
      refine' TV.cmp (EV.app (P := Base g0) (EV.gl G (stays_refl g0) G.n10 rfl rfl rfl rfl) (EVs.cons ?i2 EVs.nil (fun _ => rfl)) (CAN.def fun h q => G.f128.keeps q.1) (fn_fine' (s := 0) G (R.less (show 1 ≤ n + 12 by omega)) i0 i1' i2' (by decide)) (fun h F => bF h F) (fun _ => rfl) (fun _ => rfl))
        (EV.getIt (q := .lst ([x0 * 60 * 1073741824, x1 * 60 * 1073741824, x2 * 60 * 1073741824].map SV.int)) (EV.comp (x := "part") (cl := []) (rf := []) (xs := [.int (x0 * 60), .int (x1 * 60), .int (x2 * 60)]) mul30 ?k0 ?k1 (ITER.lst R.hh) ?k3 ?k4 (fun _ => rfl)) rfl) (OP.neInts u) (by with_unfolding_all rfl)
      case i2 =>
        refine' EV.app (P := Base g0) (EV.gl G (stays_refl g0) G.n9 rfl rfl rfl rfl) (EVs.cons ?j1 (EVs.cons ?j2 EVs.nil (fun _ => rfl)) (fun _ => rfl)) (CAN.def fun h q => G.f123.keeps q.1) (fn_painted' (s := 0) G (R.less (show 1 ≤ n + 12 by omega)) (by decide)) (fun h F => bF h F) (fun _ => rfl) (fun _ => rfl)
        case j1 => walk_at "ev"
        case j2 => walk_at "ev"
      case k0 => exact Seen.nil (by decide) (by decide) rfl (by decide) rfl
      case k1 => walk_at "ev"
      case k3 => exact Nat.le_of_ble_eq_true rfl
      case k4 =>
        intro v hv C
        have key : ∃ m, v = .int m := by
          simp only [List.mem_cons, List.not_mem_nil, or_false] at hv
          rcases hv with rfl | rfl | rfl <;> exact ⟨_, rfl⟩
        obtain ⟨m, rfl⟩ := key
        show EV _ _ _ _ _ _ _ (PV.int (m * 1073741824))
        refine' EV.bin ?b1 ?b2 (OP.mulI (.of_right (intBits_le_64 (by decide) (by decide))))
        case b1 => walk_at "ev"
        case b2 => walk_at "ev"
    -- the colours
    refine' EX.cons (EX1.for (a := .lst [.int (cellOf ns 1), .int (cellOf ns 2), .int (cellOf ns 3), .int 0]) (xs := [.int (cellOf ns 1), .int (cellOf ns 2), .int (cellOf ns 3), .int 0]) (r' := []) (fun _ r => Sub [("way", wayPV (x0 * 60) (x1 * 60) (x2 * 60)), ("own", .lst [.int (x0 * 60), .int (x1 * 60), .int (x2 * 60)]), ("steps", .rng (-600) 601)] r) rfl rfl ?it (ITER.lst R.hh) ?z0 ?turn (fun _ _ _ _ e => nomatch e) (fun _ => rfl)) (EX.ret (EX1.ret EV.bool))
    case z0 => exact Sub.cons rfl (Sub.cons rfl (Sub.cons rfl Sub.nil))
    case it =>
      refine' EV.bin (EV.getIt (q := .lst [.int (cellOf ns 1), .int (cellOf ns 2), .int (cellOf ns 3)]) (EV.sliceFrom (l := [.int c0, .int (cellOf ns 1), .int (cellOf ns 2), .int (cellOf ns 3)]) (i := 1) ?b1 ?b2 (Nat.le_of_ble_eq_true rfl) (fun _ _ => rfl)) (congrArg PV.lst (pick1 _ _ _ _))) (EV.lstD (l := [.int 0]) (EVs.cons EV.int EVs.nil (fun _ => rfl)) (Nat.le_of_ble_eq_true rfl)) (OP.addL (Nat.le_of_ble_eq_true rfl))
      case b1 => walk_at "ev"
      case b2 => walk_at "ev"
    case turn =>
      intro i y r hy hr
      have key : ∃ m, y = .int m := by
        have := List.mem_of_getElem? hy
        simp only [List.mem_cons, List.not_mem_nil, or_false] at this
        rcases this with rfl | rfl | rfl | rfl <;> exact ⟨_, rfl⟩
      obtain ⟨m, rfl⟩ := key
      have w0 := fmod2 (m.fdiv 1331)
      have w1 := fmod2 (m.fdiv 2662)
      have w2 := fmod2 (m.fdiv 5324)
      have d0 : 0 ≤ p0 m ∧ p0 m ≤ 10 := fmod11 _
      have d1 : 0 ≤ p1 m ∧ p1 m ≤ 10 := fmod11 _
      have d2 : 0 ≤ p2 m ∧ p2 m ≤ 10 := fmod11 _
      have W := fn_weights (prog := prog) (w := w) (c := m) G R
      have D := fn_parts (prog := prog) (w := w) (c := m) G R
      replace W : FN prog w A (Base g0) (.ref 109) [.int m] [] (wPV (1 + (m.fdiv 1331).fmod 2) (1 + (m.fdiv 2662).fmod 2) (1 + (m.fdiv 5324).fmod 2)) := W
      replace D : FN prog w A (Base g0) (.ref 102) [.int m] [] (.lst [.int (p0 m * 60), .int (p1 m * 60), .int (p2 m * 60)]) := D
      generalize 1 + (m.fdiv 1331).fmod 2 = v0 at *
      generalize 1 + (m.fdiv 2662).fmod 2 = v1 at *
      generalize 1 + (m.fdiv 5324).fmod 2 = v2 at *
      generalize p0 m = y0 at *
      generalize p1 m = y1 at *
      generalize p2 m = y2 at *
      obtain ⟨first, behind, H, hsum⟩ := hit_of w0 w1 w2 a0 a1 a2 d0 d1 d2
      have l0 := due_le w0 d0
      have l1 := due_le w1 d1
      have l2 := due_le w2 d2
      have hv0 : 0 ≤ v0 ∧ v0 ≤ 2 := by omega
      have hv1 : 0 ≤ v1 ∧ v1 ≤ 2 := by omega
      have hv2 : 0 ≤ v2 ∧ v2 ≤ 2 := by omega
      have r0 := cl_range (x0 * 60 + (-600 + first))
      have r1 := cl_range (x1 * 60 + (-600 + first))
      have r2 := cl_range (x2 * 60 + (-600 + first))
      have FD := fn_found (prog := prog) (w := w) (n := n + 4) G R w0 w1 w2 i0 i1' i2' (by omega) H
      have NE := fn_nearest (prog := prog) (w := w) (m := n + 11) G R (o0 := x0 * 60) (o1 := x1 * 60) (o2 := x2 * 60) (w0 := v0) (w1 := v1) (w2 := v2) (s := -600 + first) rfl rfl rfl hv0 hv1 hv2 ⟨i0.1, i0.2⟩ ⟨i1'.1, i1'.2⟩ ⟨i2'.1, i2'.2⟩ hsum.symm
      unfold foundL at FD
      generalize cl (x0 * 60 + (-600 + first)) = f0 at *
      generalize cl (x1 * 60 + (-600 + first)) = f1 at *
      generalize cl (x2 * 60 + (-600 + first)) = f2 at *
      generalize hdue : v0 * (y0 * 60) + v1 * (y1 * 60) + v2 * (y2 * 60) = due at *
      replace FD : FNX prog w A (Base g0) (.ref 133) [.rng (-600) 601, wayPV (x0 * 60) (x1 * 60) (x2 * 60), wPV v0 v1 v2, .int due] (.lst [.int f0, .int f1, .int f2]) := FD
      refine' ⟨_, EX.less (r' := ("cell", .int m) :: [("way", wayPV (x0 * 60) (x1 * 60) (x2 * 60)), ("own", .lst [.int (x0 * 60), .int (x1 * 60), .int (x2 * 60)]), ("steps", .rng (-600) 601)]) ?ex (Sub.over hr rfl), ?sb⟩
      case ex =>
        -- weights
        refine' EX.cons (EX1.assign (p := wPV v0 v1 v2) rfl rfl ?e1 rfl) ?_
        case e1 =>
          refine' EV.app (P := Base g0) (EV.gl G (stays_refl g0) G.n7 rfl rfl rfl rfl) (EVs.cons ?i1 EVs.nil (fun _ => rfl)) (CAN.def fun h q => G.f109.keeps q.1) W (fun h F => bF h F) (fun _ => rfl) (fun _ => rfl)
          case i1 => walk_at "ev"
        -- due
        refine' EX.cons (EX1.assign (p := .int due) rfl rfl ?e1 rfl) ?_
        case e1 =>
          refine' EV.getIt (EV.app (P := Base g0) (EV.gl G (stays_refl g0) G.n8 rfl rfl rfl rfl) (EVs.cons ?i1 (EVs.cons ?i2 EVs.nil (fun _ => rfl)) (fun _ => rfl)) (CAN.def fun h q => G.f116.keeps q.1) (fn_weighed (a := v0) (b := v1) (c := v2) (x := y0 * 60) (y := y1 * 60) (z := y2 * 60) G R hv0 hv1 hv2) (fun h F => bF h F) (fun _ => rfl) (fun _ => rfl)) (congrArg PV.int hdue)
          case i1 => walk_at "ev"
          case i2 =>
            refine' EV.app (P := Base g0) (EV.gl G (stays_refl g0) G.n6 rfl rfl rfl rfl) (EVs.cons ?j1 EVs.nil (fun _ => rfl)) (CAN.def fun h q => G.f102.keeps q.1) D (fun h F => bF h F) (fun _ => rfl) (fun _ => rfl)
            case j1 => walk_at "ev"
        -- found
        refine' EX.cons (EX1.assignX (P := Base g0) rfl rfl G.tab (EV.gl G (stays_refl g0) G.n11 rfl rfl rfl rfl) (EVs.cons ?i1 (EVs.cons ?i2 (EVs.cons ?i3 (EVs.cons ?i4 EVs.nil (fun _ => rfl)) (fun _ => rfl)) (fun _ => rfl)) (fun _ => rfl)) (CAN.fn fun h q => ?i5) FD (fun h F => bF h F) rfl (fun _ => rfl) (fun _ => rfl)) ?_
        case i1 => walk_at "ev"
        case i2 => walk_at "ev"
        case i3 => walk_at "ev"
        case i4 => walk_at "ev"
        case i5 =>
          obtain ⟨o, name, doc, pm, ct, an, ho, hd, _⟩ := G.f133.keeps q.1
          exact ⟨o, _, ho, hd⟩
        refine' EX.cons (EX1.no (TV.cmp ?a1 EV.nonec (OP.isNone (a := .lst [.int f0, .int f1, .int f2]) ?a2) (by with_unfolding_all rfl)) rfl EX.nil) ?_
        case a1 => walk_at "ev"
        case a2 => exact fun v e => by cases e
        have hmin := bestMin3 f0 f1 f2
        have hmax := bestMax3 f0 f1 f2
        refine' EX.cons (EX1.no (TV.or (b := false) (c := false) (TV.is (b := decide (bestMin [f0, f1, f2] < 0)) ?t1 (decide_eq_false (by omega))) (fun _ => TV.or (b := false) (c := false) (TV.is (b := decide (600 < bestMax [f0, f1, f2])) ?t2 (decide_eq_false (by omega))) (fun _ => TV.is (TV.or (b := (due != due)) ?t3 (fun _ => TV.or_nil)) ?t4))) rfl EX.nil) ?_
        case t4 => simp
        case t1 =>
          refine' TV.cmp (EV.app (P := Base g0) (EV.bl G (stays_refl g0) G.m6 (by decide) rfl rfl rfl rfl rfl rfl) (EVs.cons ?i1 EVs.nil (fun _ => rfl)) CAN.blt (FN.min (ns := [f0, f1, f2]) (ITER.lst hi) (by intro h; cases h)) (fun h F => bF h F) (fun _ => rfl) (fun _ => rfl)) ?i2 OP.ltI (by with_unfolding_all rfl)
          case i1 => walk_at "ev"
          case i2 => walk_at "ev"
        case t2 =>
          refine' TV.cmp (EV.app (P := Base g0) (EV.bl G (stays_refl g0) G.m7 (by decide) rfl rfl rfl rfl rfl rfl) (EVs.cons ?i1 EVs.nil (fun _ => rfl)) CAN.blt (FN.max (ns := [f0, f1, f2]) (ITER.lst hi) (by intro h; cases h)) (fun h F => bF h F) (fun _ => rfl) (fun _ => rfl)) ?i2 OP.gtI (by with_unfolding_all rfl)
          case i1 => walk_at "ev"
          case i2 => walk_at "ev"
        case t3 =>
          refine' TV.cmp (EV.getIt (EV.app (P := Base g0) (EV.gl G (stays_refl g0) G.n8 rfl rfl rfl rfl) (EVs.cons ?i1 (EVs.cons ?i2 EVs.nil (fun _ => rfl)) (fun _ => rfl)) (CAN.def fun h q => G.f116.keeps q.1) (fn_weighed (a := v0) (b := v1) (c := v2) (x := f0) (y := f1) (z := f2) G R hv0 hv1 hv2) (fun h F => bF h F) (fun _ => rfl) (fun _ => rfl)) (congrArg PV.int hsum)) ?i3 OP.neI (by with_unfolding_all rfl)
          case i1 => walk_at "ev"
          case i2 => walk_at "ev"
          case i3 => walk_at "ev"
        refine' EX.cons (EX1.no (TV.not (TV.plain ?t1 (TRU.bool (b := true)))) rfl EX.nil) EX.nil
        case t1 =>
          refine' EV.app (P := Base g0) (EV.gl G (stays_refl g0) G.n12 rfl rfl rfl rfl) (EVs.cons ?i1 (EVs.cons ?i2 (EVs.cons ?i3 (EVs.cons ?i4 EVs.nil (fun _ => rfl)) (fun _ => rfl)) (fun _ => rfl)) (fun _ => rfl)) (CAN.def fun h q => G.f140.keeps q.1) NE (fun h F => bF h F) (fun _ => rfl) (fun _ => rfl)
          case i1 => walk_at "ev"
          case i2 => walk_at "ev"
          case i3 => walk_at "ev"
          case i4 => walk_at "ev"
      case sb => exact Sub.cons rfl (Sub.cons rfl (Sub.cons rfl Sub.nil))
end
end Mine
end

/-! part J1 -/
section
set_option maxRecDepth 100000
set_option linter.unusedVariables false
namespace Mine
open PySem PySem.Calls PySem.W PyProof.Rows

theorem GL.stays {mg mb : Str → Option Value} {g0 g1 : Heap} (G : GL mg mb g0) (k : g0.StaysIn g1) (t : g1.get? tabAddr = none) : GL mg mb g1 where
  g := G.g.keeps k
  b := G.b.keeps k
  lim := G.lim.keeps k
  tab := t
  code := G.code.keeps k
  bat := bat_keeps G.bat k
  o70 := k _ _ G.o70
  o78 := k _ _ G.o78
  o79 := let ⟨H, e⟩ := G.o79; ⟨H, k _ _ e⟩
  o87 := k _ _ G.o87
  o88 := let ⟨H, e⟩ := G.o88; ⟨H, k _ _ e⟩
  f49 := G.f49.keeps k
  f56 := G.f56.keeps k
  f77 := G.f77.keeps k
  f86 := G.f86.keeps k
  f95 := G.f95.keeps k
  f102 := G.f102.keeps k
  f109 := G.f109.keeps k
  f116 := G.f116.keeps k
  f123 := G.f123.keeps k
  f128 := G.f128.keeps k
  f133 := G.f133.keeps k
  f140 := G.f140.keeps k
  n1 := G.n1
  n2 := G.n2
  n3 := G.n3
  n4 := G.n4
  n5 := G.n5
  n6 := G.n6
  n7 := G.n7
  n8 := G.n8
  n9 := G.n9
  n10 := G.n10
  n11 := G.n11
  n12 := G.n12
  n13 := G.n13
  n14 := G.n14
  bl := G.bl
  m1 := G.m1
  m2 := G.m2
  m3 := G.m3
  m4 := G.m4
  m5 := G.m5
  m6 := G.m6
  m7 := G.m7
  m8 := G.m8
  m9 := G.m9
  m10 := G.m10

section
variable {mg mb : Str → Option Value} {s₁ h₁ : Heap} {m : Str → Option Value} {ob1 ob2 : Obj}
theorem law_frame (hT : TabsAt [(76, 72), (132, 130)] s₁) (F : Fr (ghostOf s₁ [(76, 72), (132, 130)]) s₁.objs.size h₁ m)
    (N : News (ghostOf s₁ [(76, 72), (132, 130)]) s₁.objs.size h₁ [(s₁.objs.size + 1 + 1, ob1), (s₁.objs.size + 1, ob2), (72, tabObj #[]), (130, tabObj #[])])
    {v : Option Value} {ls : Addr} {vs : List Value} {ns : List Int} (e1 : ob1.data = .cell v) (e2 : ob2.data = .cell (some (.ref ls))) (hl : (ghostOf s₁ [(76, 72), (132, 130)]).IsList ls vs.toArray) (hI : IntsAre vs ns) {q : Str} {a : Addr} {cdv : Value} :
    (ghostOf s₁ [(76, 72), (132, 130)]).StaysIn (hideAll s₁ [tabAddr]) ∧ (hideAll s₁ [tabAddr]).get? 72 = some (tabObj #[]) ∧
    FR (hideAll s₁ [tabAddr]) (lEnv q s₁.objs.size a cdv) [("script", .lst (ns.map SV.int))] h₁ := by
  have n1 := N _ (.head _)
  have n2 := N _ (.tail _ (.head _))
  have n3 := N _ (.tail _ (.tail _ (.head _)))
  have n4 := N _ (.tail _ (.tail _ (.tail _ (.head _))))
  have t72 := (hT _ (.head _)).2
  have hst : (ghostOf s₁ [(76, 72), (132, 130)]).StaysIn (hideAll s₁ [tabAddr]) := fun b o e => by
    refine hideAll_get _ (of_hideAll _ e) fun hm => ?_
    rw [List.mem_singleton.mp hm] at e
    rw [n4.2.2] at e; cases e
  have keep : (hideAll s₁ [tabAddr]).StaysIn h₁ := fun b o e => by
    by_cases q : b ∈ ([(76, 72), (132, 130)] : List (Addr × Addr)).map (·.2)
    · rcases List.mem_cons.mp q with rfl | q
      · have e' := of_hideAll _ e
        rw [t72] at e'; cases e'
        exact n3.1
      · rw [List.mem_singleton.mp q] at e
        rw [hideAll_none [tabAddr] (.head _)] at e; cases e
    · exact F.keep b o (ghost_ne (of_hideAll _ e) q)
  have fr : ∀ {b : Addr}, s₁.objs.size ≤ b → (hideAll s₁ [tabAddr]).get? b = none := fun {b} hb => fresh_at (by rw [hideAll_size]; exact hb)
  have ec : (lEnv q s₁.objs.size a cdv).cells = ([("starts", s₁.objs.size + 1 + 1), ("script", s₁.objs.size + 1)] : List (Str × Addr)) := rfl
  have look : ∀ {x : Str} {c : Addr}, (lEnv q s₁.objs.size a cdv).cells.lookup x = some c → (x = "starts" ∧ c = s₁.objs.size + 1 + 1) ∨ (x = "script" ∧ c = s₁.objs.size + 1) := fun {x c} e => by
    rw [ec, lookup_cons''] at e
    split at e
    · rename_i h; cases e; exact .inl ⟨h, rfl⟩
    · rw [lookup_cons''] at e
      split at e
      · rename_i h; cases e; exact .inr ⟨h, rfl⟩
      · cases e
  refine ⟨hst, hideAll_get _ t72 (by decide), keep, fr (Nat.le_refl _), fun x c _ e => ?_, fun x y c e1 e2 => ?_, fun x c e => ?_, ⟨m, F.ns, fun x p e => ?_⟩, fun _ => ⟨#[], n4.1, .inl rfl⟩⟩
  · rcases look e with ⟨_, rfl⟩ | ⟨_, rfl⟩
    · exact fr (Nat.le_succ_of_le (Nat.le_succ _))
    · exact fr (Nat.le_succ _)
  · rcases look e1 with ⟨rfl, rfl⟩ | ⟨rfl, rfl⟩ <;> rcases look e2 with ⟨rfl, h⟩ | ⟨rfl, h⟩
    · rfl
    · exact absurd h.symm (Nat.ne_of_lt (Nat.lt_succ_self _))
    · exact absurd h (Nat.ne_of_lt (Nat.lt_succ_self _))
    · rfl
  · rcases look e with ⟨_, rfl⟩ | ⟨_, rfl⟩
    · exact ⟨_, _, n1.1, e1⟩
    · exact ⟨_, _, n2.1, e2⟩
  · rw [lookup_cons''] at e
    split at e
    · rename_i hx; subst hx; cases e
      exact .inr ⟨.inl rfl, s₁.objs.size + 1, .ref ls, rfl, ⟨_, n2.1, e2⟩, ls, vs, rfl, isList_step hl (Step.of_stays (stays_trans hst keep)), of_intsAre hI⟩
    · cases e
end
end Mine
end

/-! the join -/
section
open PySem PySem.Calls PySem.W PyProof.Rows
set_option maxRecDepth 100000
set_option maxHeartbeats 8000000
namespace Mine
theorem joined : PySem.Challenge.rw_wn0068_01.Holds := by
  refine hd ?_
  w_strict k_go0
  rename_i W s₀ s₁ mg mb G0 Y fa o pm cd doc ho hcd hg X00 V00 T00 B00 TE00 TW00 ns hs0 hlay0 hL1 hr1 hl2 w6 w5 ls vs w2 hLs ra0 w1W r0R hI hrW hcond hcond2 hD0 h₁ tk₁ ob1 ob2 left right X0 X1 T1 K1 F1 cH0 N1 l0
  have G : GL mg mb (ghostOf s₁.heap [(76, 72), (132, 130)]) := by
    refine
      { g := T1.g, b := T1.b, lim := T1.nolimit, tab := hideAll_none _ (.tail _ (.head _)), code := codeHd, bat := ?bat,
        o70 := X1 70 nnObj (by k_is), o78 := X1 78 (dfObj 441) (by k_is), o79 := ⟨_, X1 79 (kwObj _ 442) (by k_is)⟩, o87 := X1 87 (dfObj 455) (by k_is), o88 := ⟨_, X1 88 (kwObj _ 456) (by k_is)⟩,
        f49 := ⟨_, _, _, _, _, _, _, _, X1 49 _ (by k_is), rfl, ⟨_, _, _, _, rfl, X1 48 _ (by k_is), rfl, rfl⟩⟩,
        f56 := ?f56, f77 := ?f77, f86 := ?f86, f95 := ?f95, f102 := ?f102, f109 := ?f109, f116 := ?f116, f123 := ?f123, f128 := ?f128, f133 := ?f133, f140 := ?f140,
        n1 := mg_of X1 T1.g (by k_is), n2 := mg_of X1 T1.g (by k_is), n3 := mg_of X1 T1.g (by k_is), n4 := mg_of X1 T1.g (by k_is), n5 := mg_of X1 T1.g (by k_is), n6 := mg_of X1 T1.g (by k_is), n7 := mg_of X1 T1.g (by k_is),
        n8 := mg_of X1 T1.g (by k_is), n9 := mg_of X1 T1.g (by k_is), n10 := mg_of X1 T1.g (by k_is), n11 := mg_of X1 T1.g (by k_is), n12 := mg_of X1 T1.g (by k_is), n13 := mg_of X1 T1.g (by k_is), n14 := mg_of X1 T1.g (by k_is),
        bl := fun x _ hn => T1.builtins x hn,
        m1 := mg_none_of X1 T1.g (by k_is), m2 := mg_none_of X1 T1.g (by k_is), m3 := mg_none_of X1 T1.g (by k_is), m4 := mg_none_of X1 T1.g (by k_is), m5 := mg_none_of X1 T1.g (by k_is), m6 := mg_none_of X1 T1.g (by k_is), m7 := mg_none_of X1 T1.g (by k_is),
        m8 := mg_none_of X1 T1.g (by k_is), m9 := mg_none_of X1 T1.g (by k_is), m10 := mg_none_of X1 T1.g (by k_is) }
    case f56 => exact ⟨_, _, _, _, _, _, _, _, X1 56 _ (by k_is), rfl, ⟨_, _, _, _, rfl, X1 55 _ (by k_is), rfl, rfl⟩⟩
    case f77 => exact ⟨_, _, _, _, _, _, _, _, X1 77 _ (by k_is), rfl, ⟨_, _, _, _, rfl, X1 76 _ (by k_is), rfl, rfl⟩⟩
    case f86 => exact ⟨_, _, _, _, _, _, _, _, X1 86 _ (by k_is), rfl, ⟨_, _, _, _, rfl, X1 85 _ (by k_is), rfl, rfl⟩⟩
    case f95 => exact ⟨_, _, _, _, _, _, _, _, X1 95 _ (by k_is), rfl, ⟨_, _, _, _, rfl, X1 94 _ (by k_is), rfl, rfl⟩⟩
    case f102 => exact ⟨_, _, _, _, _, _, _, _, X1 102 _ (by k_is), rfl, ⟨_, _, _, _, rfl, X1 101 _ (by k_is), rfl, rfl⟩⟩
    case f109 => exact ⟨_, _, _, _, _, _, _, _, X1 109 _ (by k_is), rfl, ⟨_, _, _, _, rfl, X1 108 _ (by k_is), rfl, rfl⟩⟩
    case f116 => exact ⟨_, _, _, _, _, _, _, _, X1 116 _ (by k_is), rfl, ⟨_, _, _, _, rfl, X1 115 _ (by k_is), rfl, rfl⟩⟩
    case f123 => exact ⟨_, _, _, _, _, _, _, _, X1 123 _ (by k_is), rfl, ⟨_, _, _, _, rfl, X1 122 _ (by k_is), rfl, rfl⟩⟩
    case f128 => exact ⟨_, _, _, _, _, _, _, _, X1 128 _ (by k_is), rfl, ⟨_, _, _, _, rfl, X1 127 _ (by k_is), rfl, rfl⟩⟩
    case f140 => exact ⟨_, _, _, _, _, _, _, _, X1 140 _ (by k_is), rfl, ⟨_, _, _, _, rfl, X1 139 _ (by k_is), rfl, rfl⟩⟩
    case f133 => exact ⟨_, _, _, _, _, _, X1 133 _ (by k_is), rfl, ⟨_, _, _, _, rfl, X1 132 _ (by k_is), rfl, rfl⟩⟩
    case bat =>
      obtain ⟨bm, ob, b1, b2, b3, b4, b5, b6⟩ := T1.bmain
      refine ⟨bm, ob, b1, b2, fun q => ?_, fun q => ?_, b3, b4, b5, b6⟩
      · obtain ⟨o, es, ep, e, hd, _⟩ := T1.g
        rw [q, e] at b3; cases b3; rw [hd] at b6; cases b6
      · have z : (ghostOf s₁.heap [(76, 72), (132, 130)]).get? tabAddr = none := hideAll_none _ (.tail _ (.head _))
        rw [q, z] at b3; cases b3
  have hlen : ns.length ≤ 63 := by omega
  obtain ⟨st, t72, F⟩ := law_frame (q := "law") (a := fa) (cdv := cd) hT9 F1 N1 (v := none) left right lifted hI
  have G' := G.stays st (hideAll_none [tabAddr] (.head _))
  have R0 : Room callerA (0 + 12 + 1) := ⟨rfl, by decide +kernel, by decide +kernel⟩
  have R : Room (callerA.deeper (lEnv "law" s₁.heap.objs.size fa cd)) (0 + 12) := R0.deeper _
  obtain ⟨r', ex⟩ := law_ex (prog := PySem.Challenge.rw_wn0068_01.row.prog) (w := W) (A := callerA.deeper (lEnv "law" s₁.heap.objs.size fa cd)) (q := "law") (L := s₁.heap.objs.size) (a := fa) (cdv := cd) (n := 0) G' R hlen
  refine ex _ _ _ F fun f h' t' e k => ?_
  obtain ⟨v, rfl, i, F'⟩ := e
  cases i
  obtain ⟨m', n', _⟩ := F'.vars
  refine ⟨?good, ⟨#[], F'.keep _ _ t72⟩, ?_, trivial⟩
  case good =>
    refine goodW_bool (L := s₁.heap.objs.size) (m := m') ⟨n', fun b o e => F'.keep b o (st b o e), F1.above⟩ hg (raisesW_false ?gr) ?gp
    case gr => wrow_none_raised
    case gp => first | kc_post | wrow_post
  obtain ⟨ps, e, _⟩ := F'.tab (hideAll_none [tabAddr] (.head _))
  exact ⟨ps, e⟩
end Mine
end

theorem PySem.Challenge.cw_wn0068_01_holds : PySem.Challenge.rw_wn0068_01.Holds :=
  Mine.joined
