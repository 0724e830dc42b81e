import PyProof.Rows.All
import Wide.All
import OpenK.AllK
import Wide.FinOn
import Lean
import PySem.Challenge.RW_he0001_01
set_option Elab.async false
set_option maxRecDepth 100000
set_option linter.unusedVariables false
namespace Mine
open PySem PySem.W PySem.Calls PyProof.Rows

abbrev Ext (h h' : Heap) : Prop := ∀ b o, h.get? b = some o → h'.get? b = some o
theorem Ext.refl (h : Heap) : Ext h h := fun _ _ e => e
theorem Ext.trans {a b c : Heap} (x : Ext a b) (y : Ext b c) : Ext a c := fun k o e => y k o (x k o e)
theorem Ext.push {a b : Heap} (x : Ext a b) (o : Obj) : Ext a (b.push o) := fun k o' e => Heap.get?_push_of_some _ (x k o' e)

abbrev tupOf (vs : List Value) (n : Nat) : Obj := { cls := .type "tuple", data := .seq vs.toArray n }

mutual
inductive V (X : Addr → Prop) (h : Heap) : Value → Dat → Prop
  | none : V X h Value.none Dat.none
  | bool (b : Bool) : V X h (Value.bool b) (Dat.bool b)
  | int (i : Int) (t : Tok) : V X h (Value.int i t) (Dat.int i)
  | tup {a : Addr} {vs : List Value} {n : Nat} {ds : List Dat} : ¬ X a → h.get? a = some (tupOf vs n) → VA X h vs ds → V X h (Value.ref a) (Dat.tuple ds)
  | lst {a : Addr} {vs : List Value} {n : Nat} {ds : List Dat} : ¬ X a → h.get? a = some (listOf vs.toArray n) → VA X h vs ds → V X h (Value.ref a) (Dat.list ds)
inductive VA (X : Addr → Prop) (h : Heap) : List Value → List Dat → Prop
  | nil : VA X h [] []
  | cons {v : Value} {vs : List Value} {d : Dat} {ds : List Dat} : V X h v d → VA X h vs ds → VA X h (v :: vs) (d :: ds)
end

/-- what is kept: every sequence object -/
abbrev SeqExt (X : Addr → Prop) (h h' : Heap) : Prop := ∀ b o, ¬ X b → h.get? b = some o → (∃ vs n, o.data = .seq vs n) → h'.get? b = some o
theorem Ext.seq {X : Addr → Prop} {h h' : Heap} (x : Ext h h') : SeqExt X h h' := fun b o _ e _ => x b o e

mutual
theorem V.mono {X : Addr → Prop} {h h' : Heap} (hs : SeqExt X h h') : ∀ {v : Value} {d : Dat}, V X h v d → V X h' v d
  | _, _, .none => .none
  | _, _, .bool b => .bool b
  | _, _, .int i t => .int i t
  | _, _, .tup x e r => .tup x (hs _ _ x e ⟨_, _, rfl⟩) (VA.mono hs r)
  | _, _, .lst x e r => .lst x (hs _ _ x e ⟨_, _, rfl⟩) (VA.mono hs r)
theorem VA.mono {X : Addr → Prop} {h h' : Heap} (hs : SeqExt X h h') : ∀ {vs : List Value} {ds : List Dat}, VA X h vs ds → VA X h' vs ds
  | _, _, .nil => .nil
  | _, _, .cons x r => .cons (V.mono hs x) (VA.mono hs r)
end
section
variable {X : Addr → Prop} {h : Heap} {v : Value} {d : Dat} {vs ws : List Value} {ds es : List Dat}
theorem VA.length (x : VA X h vs ds) : vs.length = ds.length := by
  induction vs generalizing ds with
  | nil => cases x; rfl
  | cons v vs ih => cases x with | cons _ r => rw [List.length_cons, List.length_cons, ih r]
theorem VA.append (x : VA X h vs ds) (k : VA X h ws es) : VA X h (vs ++ ws) (ds ++ es) := by
  induction vs generalizing ds with
  | nil => cases x; exact k
  | cons v vs ih => cases x with | cons a r => exact .cons a (ih r)
theorem VA.get (x : VA X h vs ds) {k : Nat} {d : Dat} (hk : ds[k]? = some d) : ∃ v, vs[k]? = some v ∧ V X h v d := by
  induction vs generalizing ds k with
  | nil => cases x; simp at hk
  | cons v vs ih =>
    cases x with
    | cons a r =>
      cases k with
      | zero => simp at hk; subst hk; exact ⟨v, rfl, a⟩
      | succ k => exact ih r (by simpa using hk)
theorem VA.getV (x : VA X h vs ds) {k : Nat} {v : Value} (hk : vs[k]? = some v) : ∃ d, ds[k]? = some d ∧ V X h v d := by
  induction vs generalizing ds k with
  | nil => simp at hk
  | cons v vs ih =>
    cases x with
    | cons a r =>
      cases k with
      | zero => simp at hk; subst hk; exact ⟨_, rfl, a⟩
      | succ k => exact ih r (by simpa using hk)
theorem VA.drop (x : VA X h vs ds) (k : Nat) : VA X h (vs.drop k) (ds.drop k) := by
  induction k generalizing vs ds with
  | zero => exact x
  | succ k ih => cases x with
    | nil => exact .nil
    | cons a r => exact ih r
theorem VA.take (x : VA X h vs ds) (k : Nat) : VA X h (vs.take k) (ds.take k) := by
  induction k generalizing vs ds with
  | zero => simpa using VA.nil
  | succ k ih => cases x with
    | nil => exact .nil
    | cons a r => exact .cons a (ih r)
theorem VA.reverse (x : VA X h vs ds) : VA X h vs.reverse ds.reverse := by
  induction vs generalizing ds with
  | nil => cases x; exact .nil
  | cons v vs ih => cases x with
    | cons a r => rw [List.reverse_cons, List.reverse_cons]; exact (ih r).append (.cons a .nil)
end

/-- the teller: an object made of the class at C, its table, its list, its tuple -/
structure ToldAt (C : Addr) (h : Heap) (a : Addr) (L : Addr → Prop) : Prop where
  told : ∃ dx l t ky kt n k q u u', h.get? a = some (instObj C dx) ∧ h.get? dx = some (dictOf [⟨ky, .str (Str.ofString "comp_select_list") kt, .ref l⟩] n) ∧ h.get? l = some (listOf [Value.ref t].toArray k) ∧ h.get? t = some (tupOf [.int 1 u, .int 1 u'] q) ∧ L a ∧ L dx ∧ L l ∧ L t
inductive Ent where
  | dat (d : Dat)
  | at (a : Addr) (d : Dat)
  | raw (v : Value)
  | told

/-- an address that the frame does not write -/
def Safe (env : Env) (a : Addr) : Prop := a ≠ env.locals ∧ ∀ p ∈ env.cells, a ≠ p.2

def Is (C : Addr) (X : Addr → Prop) (env : Env) (h : Heap) (v : Value) : Ent → Prop
  | .dat d => V X h v d
  | .at a d => v = .ref a ∧ V X h v d
  | .raw u => v = u
  | .told => ∃ a, v = .ref a ∧ ToldAt C h a fun b => Safe env b ∧ ¬ X b

inductive IsAll (C : Addr) (X : Addr → Prop) (env : Env) (h : Heap) : List Value → List Ent → Prop
  | nil : IsAll C X env h [] []
  | cons {v : Value} {vs : List Value} {e : Ent} {es : List Ent} : Is C X env h v e → IsAll C X env h vs es → IsAll C X env h (v :: vs) (e :: es)

structure OK (C : Addr) (X : Addr → Prop) (h₀ : Heap) (env : Env) (ρ : List (Str × Ent)) (h : Heap) : Prop where
  ns : ∃ m, h.Ns env.locals m ∧ ∀ x e, ρ.lookup x = some e → env.kindOf x = some .local → ∃ v, m x = some v ∧ Is C X env h v e
  cl : ∀ x e, ρ.lookup x = some e → (env.kindOf x = some .cell ∨ env.kindOf x = some .free) → ∃ c v, env.cells.lookup x = some c ∧ h.IsCell c (some v) ∧ Is C X env h v e
  cells : ∀ p ∈ env.cells, ∃ v, h.IsCell p.2 v
  apart : ∀ x y c, env.cells.lookup x = some c → env.cells.lookup y = some c → x = y
  low : ∀ b o, h₀.get? b = some o → Safe env b
  off : ∀ b, X b → ∃ o, h.get? b = some o

/-- what a frame's own run keeps -/
def Pres (env : Env) (h h' : Heap) : Prop := ∀ b o, h.get? b = some o → Safe env b → h'.get? b = some o
theorem Pres.refl (env : Env) (h : Heap) : Pres env h h := fun _ _ e _ => e
theorem Pres.trans {env : Env} {a b c : Heap} (x : Pres env a b) (y : Pres env b c) : Pres env a c := fun k o e s => y k o (x k o e s) s
theorem Ext.pres {env : Env} {a b : Heap} (x : Ext a b) : Pres env a b := fun k o e _ => x k o e

section
variable {C : Addr} {X : Addr → Prop} {h₀ : Heap} {env : Env} {ρ : List (Str × Ent)} {h h' : Heap} {v : Value} {e : Ent}
theorem ToldAt.keep {a : Addr} {L L' : Addr → Prop} (x : ToldAt C h a L) (hk : ∀ b o, h.get? b = some o → L b → h'.get? b = some o) (hL : ∀ b, b < h.objs.size → L b → L' b) : ToldAt C h' a L' := by
  obtain ⟨dx, l, t, ky, kt, n, k, q, u, u', e1, e2, e3, e4, e5, e6, e7, e8⟩ := x
  exact ⟨dx, l, t, ky, kt, n, k, q, u, u', hk _ _ e1 e5, hk _ _ e2 e6, hk _ _ e3 e7, hk _ _ e4 e8, hL _ (Heap.lt_size e1) e5, hL _ (Heap.lt_size e2) e6, hL _ (Heap.lt_size e3) e7, hL _ (Heap.lt_size e4) e8⟩
theorem Is.ext (x : Is C X env h v e) (k : Ext h h') : Is C X env h' v e := by
  cases e with
  | dat d => exact V.mono k.seq x
  | «at» a d => exact ⟨x.1, V.mono k.seq x.2⟩
  | raw u => exact x
  | told => obtain ⟨a, rfl, t⟩ := x; exact ⟨a, rfl, t.keep (fun b o e _ => k b o e) fun _ _ y => y⟩
theorem OK.seqSafe (x : OK C X h₀ env ρ h) {b : Addr} {o : Obj} (e : h.get? b = some o) (hs : ∃ vs n, o.data = .seq vs n) : Safe env b := by
  obtain ⟨vs, n, hd⟩ := hs
  refine ⟨fun q => ?_, fun p hp q => ?_⟩
  · obtain ⟨m, ⟨o', es, ep, ho, hd', _⟩, _⟩ := x.ns
    rw [← q, e] at ho; cases ho; rw [hd] at hd'; cases hd'
  · obtain ⟨w, o', ho, hd'⟩ := x.cells p hp
    rw [← q, e] at ho; cases ho; rw [hd] at hd'; cases hd'
theorem Is.pres (ok : OK C X h₀ env ρ h) (x : Is C X env h v e) (k : Pres env h h') : Is C X env h' v e := by
  cases e with
  | dat d => exact V.mono (fun b o _ e hs => k b o e (ok.seqSafe e hs)) x
  | «at» a d => exact ⟨x.1, V.mono (fun b o _ e hs => k b o e (ok.seqSafe e hs)) x.2⟩
  | raw u => exact x
  | told =>
    obtain ⟨a, rfl, t⟩ := x
    exact ⟨a, rfl, t.keep (fun b o e hs => k b o e hs.1) fun _ _ y => y⟩
theorem OK.ext (x : OK C X h₀ env ρ h) (k : Ext h h') : OK C X h₀ env ρ h' := by
  obtain ⟨⟨m, hn, hm⟩, hc, hcs, ha, hl, ho⟩ := x
  refine ⟨⟨m, hn.at' fun o e => k _ _ e, fun y e hy hk => ?_⟩, fun y e hy hk => ?_, fun p hp => ?_, ha, hl, fun b hb => (ho b hb).imp fun o e => k b o e⟩
  · obtain ⟨v, e1, e2⟩ := hm y e hy hk; exact ⟨v, e1, e2.ext k⟩
  · obtain ⟨c, v, e1, e2, e3⟩ := hc y e hy hk; exact ⟨c, v, e1, e2.keeps k, e3.ext k⟩
  · obtain ⟨v, e⟩ := hcs p hp; exact ⟨v, e.keeps k⟩
end

section
variable (prog : Program) (w : World) (C : Addr) (X : Addr → Prop) (h₀ : Heap) (A : Around) (env : Env) (ρ : List (Str × Ent))
def EvT (t : Sem Value) (e : Ent) : Prop := ∀ (s : Shared) (Q : Value → Shared → Prop) (E : Value → Shared → Prop), Ext h₀ s.heap → OK C X h₀ env ρ s.heap →
  (∀ v h' tk', Ext s.heap h' → Is C X env h' v e → Q v { s with heap := h', toks := tk' }) → wpAny (model prog w) A t Q E s
abbrev Ev (x : Expr) (e : Ent) : Prop := EvT prog w C X h₀ A env ρ (eval x env) e
def Tr (x : Expr) (b : Bool) : Prop := ∀ (s : Shared) (Q : Bool → Shared → Prop) (E : Value → Shared → Prop), Ext h₀ s.heap → OK C X h₀ env ρ s.heap →
  (∀ h' tk', Ext s.heap h' → Q b { s with heap := h', toks := tk' }) → wpAny (model prog w) A (isTrue x env (eval x env)) Q E s
def TrA (op : BoolOp) (xs : List Expr) (b : Bool) : Prop := ∀ (s : Shared) (Q : Bool → Shared → Prop) (E : Value → Shared → Prop), Ext h₀ s.heap → OK C X h₀ env ρ s.heap →
  (∀ h' tk', Ext s.heap h' → Q b { s with heap := h', toks := tk' }) → wpAny (model prog w) A (allTrue op xs env) Q E s
def EvL (pos : Pos) (xs : List Expr) (es : List Ent) : Prop := ∀ (s : Shared) (Q : List Value → Shared → Prop) (E : Value → Shared → Prop), Ext h₀ s.heap → OK C X h₀ env ρ s.heap →
  (∀ vs h' tk', Ext s.heap h' → IsAll C X env h' vs es → Q vs { s with heap := h', toks := tk' }) → wpAny (model prog w) A (spliced (backTo pos (starEach xs env))) Q E s
end
def Op2 (prog : Program) (w : World) (X : Addr → Prop) (h₀ : Heap) (A : Around) (f : Value → Value → Sem Value) (a b c : Dat) : Prop := ∀ (s : Shared) (Q : Value → Shared → Prop) (E : Value → Shared → Prop) v u, Ext h₀ s.heap → (∀ b, X b → ∃ o, s.heap.get? b = some o) → V X s.heap v a → V X s.heap u b →
  (∀ r h' tk', Ext s.heap h' → V X h' r c → Q r { s with heap := h', toks := tk' }) → wpAny (model prog w) A (f v u) Q E s

theorem mono_of {α : Type} {prog : Program} {w : World} {A : Around} {t : Sem α} {s : Shared} {Q Q' : α → Shared → Prop} {E : Value → Shared → Prop} (h : wpAny (model prog w) A t Q E s) (hq : ∀ a s', Q a s' → Q' a s') : wpAny (model prog w) A t Q' E s := wpAny_mono h hq fun _ _ e => e

section
variable {prog : Program} {w : World} {C : Addr} {X : Addr → Prop} {h₀ : Heap} {A : Around} {env : Env} {ρ : List (Str × Ent)}

theorem ev_local {x : Str} {pos : Pos} {e : Ent} (hρ : ρ.lookup x = some e) (hk : env.scope.kind = .function) (hl : env.kindOf x = some .local) (hd : (x == ("__debug__" : Str)) = false) : Ev prog w C X h₀ A env ρ (.Name x pos) e := by
  intro s Q E _ ok hQ
  obtain ⟨m, hn, hm⟩ := ok.ns
  obtain ⟨v, hv, hi⟩ := hm x e hρ hl
  exact wpAny_Name (wpAny_loadName_local hk hl hn hv (hQ v s.heap s.toks (Ext.refl _) hi)) hd
theorem ev_localA {x : Str} {pos : Pos} {a : Addr} {d : Dat} (hρ : ρ.lookup x = some (.at a d)) (hk : env.scope.kind = .function) (hl : env.kindOf x = some .local) (hd : (x == ("__debug__" : Str)) = false) : Ev prog w C X h₀ A env ρ (.Name x pos) (.dat d) := fun s Q E g ok hQ =>
  ev_local hρ hk hl hd s Q E g ok fun v h' tk' k i => hQ v h' tk' k i.2
theorem ev_cell {x : Str} {pos : Pos} {e : Ent} (hρ : ρ.lookup x = some e) (hk : env.scope.kind = .function) (hl : env.kindOf x = some .cell) (hd : (x == ("__debug__" : Str)) = false) : Ev prog w C X h₀ A env ρ (.Name x pos) e := by
  intro s Q E _ ok hQ
  obtain ⟨c, v, hc, hv, hi⟩ := ok.cl x e hρ (.inl hl)
  exact wpAny_Name (wpAny_loadName_cell hk hl hc hv (hQ v s.heap s.toks (Ext.refl _) hi)) hd
theorem ev_free {x : Str} {pos : Pos} {e : Ent} (hρ : ρ.lookup x = some e) (hk : env.scope.kind = .function) (hl : env.kindOf x = some .free) (hd : (x == ("__debug__" : Str)) = false) (hn : (x == ("__classdict__" : Str)) = false) : Ev prog w C X h₀ A env ρ (.Name x pos) e := by
  intro s Q E _ ok hQ
  obtain ⟨c, v, hc, hv, hi⟩ := ok.cl x e hρ (.inr hl)
  exact wpAny_Name (wpAny_loadName_free hk hl hc hv (hQ v s.heap s.toks (Ext.refl _) hi) hn) hd
theorem ev_int {i : Int} {k : Nat} {pos : Pos} : Ev prog w C X h₀ A env ρ (.Constant (.int i) k pos) (.dat (.int i)) := fun s _ _ _ _ hQ => wpAny_Constant_int (hQ _ s.heap _ (Ext.refl _) (.int i _))
theorem ev_none {k : Nat} {pos : Pos} : Ev prog w C X h₀ A env ρ (.Constant .none k pos) (.dat .none) := fun s _ _ _ _ hQ => wpAny_Constant_none (hQ _ s.heap s.toks (Ext.refl _) .none)
theorem ev_bool {b : Bool} {k : Nat} {pos : Pos} : Ev prog w C X h₀ A env ρ (.Constant (.bool b) k pos) (.dat (.bool b)) := fun s _ _ _ _ hQ => wpAny_Constant_bool (hQ _ s.heap s.toks (Ext.refl _) (.bool b))

theorem evL_nil {pos : Pos} : EvL prog w C X h₀ A env ρ pos [] [] := fun s _ _ _ _ hQ => args_nil (hQ [] s.heap s.toks (Ext.refl _) .nil)
theorem evL_cons {pos : Pos} {x : Expr} {xs : List Expr} {e : Ent} {es : List Ent} (hx : Ev prog w C X h₀ A env ρ x e) (hxs : EvL prog w C X h₀ A env ρ pos xs es) (he : starEach (x :: xs) env = (false, eval x env) :: starEach xs env) :
    EvL prog w C X h₀ A env ρ pos (x :: xs) (e :: es) := by
  intro s Q E g ok hQ
  refine args_cons (hx s _ E g ok fun v h₁ t₁ k₁ i₁ => hxs _ _ E (g.trans k₁) (ok.ext k₁) fun vs h₂ t₂ k₂ i₂ => hQ _ h₂ t₂ (k₁.trans k₂) (.cons (i₁.ext k₂) i₂)) he

theorem forall_VA {h : Heap} : ∀ {ds : List Dat} {vs : List Value}, IsAll C X env h vs (ds.map .dat) → VA X h vs ds
  | [], _, x => by cases x; exact .nil
  | _ :: _, _, x => by cases x with | cons y r => exact .cons y (forall_VA r)
theorem VA_forall {h : Heap} : ∀ {ds : List Dat} {vs : List Value}, VA X h vs ds → IsAll C X env h vs (ds.map .dat)
  | [], _, x => by cases x; exact .nil
  | _ :: _, _, x => by cases x with | cons y r => exact .cons y (VA_forall r)

theorem new_off {X : Addr → Prop} {h : Heap} (off : ∀ b, X b → ∃ o, h.get? b = some o) : ¬ X h.objs.size := fun q => by
  obtain ⟨o, e⟩ := off _ q
  exact Nat.lt_irrefl _ (Heap.lt_size e)
theorem newTuple_V {s : Shared} {vs : List Value} {ds : List Dat} {Q : Value → Shared → Prop} {E : Value → Shared → Prop} (off : ∀ b, X b → ∃ o, s.heap.get? b = some o) (x : VA X s.heap vs ds) (hz : ds.length ≤ sizeLine) (hQ : ∀ v h' tk', Ext s.heap h' → V X h' v (.tuple ds) → Q v { s with heap := h', toks := tk' }) : wpAny (model prog w) A (newTuple vs) Q E s :=
  wpAny_newObj_type (hQ _ _ s.toks (fun b o e => Heap.get?_push_of_some _ e) (.tup (n := 0) (new_off off) (Heap.get?_push_size _ rfl) (x.mono (Ext.seq fun b o e => Heap.get?_push_of_some _ e)))) (by show vs.toArray.size ≤ sizeLine; rw [List.size_toArray, x.length]; exact hz)
theorem newList_V {s : Shared} {vs : List Value} {ds : List Dat} {Q : Value → Shared → Prop} {E : Value → Shared → Prop} (off : ∀ b, X b → ∃ o, s.heap.get? b = some o) (x : VA X s.heap vs ds) (hz : ds.length ≤ sizeLine) (hQ : ∀ v h' tk', Ext s.heap h' → V X h' v (.list ds) → Q v { s with heap := h', toks := tk' }) : wpAny (model prog w) A (newList vs) Q E s :=
  wpAny_newObj_type (hQ _ _ s.toks (fun b o e => Heap.get?_push_of_some _ e) (.lst (n := 0) (new_off off) (Heap.get?_push_size _ rfl) (x.mono (Ext.seq fun b o e => Heap.get?_push_of_some _ e)))) (by show vs.toArray.size ≤ sizeLine; rw [List.size_toArray, x.length]; exact hz)

theorem ev_tuple {xs : List Expr} {k : Nat} {pos : Pos} {ds : List Dat} (h : EvL prog w C X h₀ A env ρ pos xs (ds.map .dat)) (hz : ds.length ≤ sizeLine) : Ev prog w C X h₀ A env ρ (.Tuple xs k pos) (.dat (.tuple ds)) := by
  intro s Q E g ok hQ
  exact Tuple_ (h s _ E g ok fun vs h₁ t₁ k₁ i₁ => newTuple_V (s := { s with heap := h₁, toks := t₁ }) (ok.ext k₁).off (forall_VA i₁) hz fun v h' tk' k' i' => hQ v h' tk' (k₁.trans k') i')
theorem ev_list {xs : List Expr} {pos : Pos} {ds : List Dat} (h : EvL prog w C X h₀ A env ρ pos xs (ds.map .dat)) (hz : ds.length ≤ sizeLine) : Ev prog w C X h₀ A env ρ (.List xs pos) (.dat (.list ds)) := by
  intro s Q E g ok hQ
  exact List_ (h s _ E g ok fun vs h₁ t₁ k₁ i₁ => newList_V (s := { s with heap := h₁, toks := t₁ }) (ok.ext k₁).off (forall_VA i₁) hz fun v h' tk' k' i' => hQ v h' tk' (k₁.trans k') i')

theorem ev_cmp {l r : Expr} {op : CmpOp} {pos : Pos} {a b c : Dat} (hl : Ev prog w C X h₀ A env ρ l (.dat a)) (hr : Ev prog w C X h₀ A env ρ r (.dat b)) (ho : Op2 prog w X h₀ A (compareOp op) a b c) (hm : behindInMarks op r = false) :
    Ev prog w C X h₀ A env ρ (.Compare l [op] [r] pos) (.dat c) := by
  intro s Q E g ok hQ
  exact wpAny_Compare1 (hl s _ E g ok fun v h₁ t₁ k₁ i₁ => hr _ _ E (g.trans k₁) (ok.ext k₁) fun u h₂ t₂ k₂ i₂ => ho _ Q E v u (g.trans (k₁.trans k₂)) ((ok.ext (k₁.trans k₂)).off) (i₁.ext k₂) i₂ fun x h₃ t₃ k₃ i₃ => hQ x h₃ t₃ (k₁.trans (k₂.trans k₃)) i₃) hm
theorem tr_cmp {l r : Expr} {op : CmpOp} {pos : Pos} {a b : Dat} {c : Bool} (hl : Ev prog w C X h₀ A env ρ l (.dat a)) (hr : Ev prog w C X h₀ A env ρ r (.dat b)) (ho : Op2 prog w X h₀ A (compareOp op) a b (.bool c)) (hm : behindInMarks op r = false) :
    Tr prog w C X h₀ A env ρ (.Compare l [op] [r] pos) c := by
  intro s Q E g ok hQ
  exact wpAny_isTrue_Compare1 (hl s _ E g ok fun v h₁ t₁ k₁ i₁ => hr _ _ E (g.trans k₁) (ok.ext k₁) fun u h₂ t₂ k₂ i₂ => ho _ _ E v u (g.trans (k₁.trans k₂)) ((ok.ext (k₁.trans k₂)).off) (i₁.ext k₂) i₂ fun x h₃ t₃ k₃ i₃ => by
    cases i₃; exact wpAny_truthy_bool (hQ h₃ t₃ (k₁.trans (k₂.trans k₃)))) hm
theorem ev_bin {l r : Expr} {op : Operator} {pos : Pos} {a b c : Dat} (hl : Ev prog w C X h₀ A env ρ l (.dat a)) (hr : Ev prog w C X h₀ A env ρ r (.dat b)) (ho : Op2 prog w X h₀ A (binaryOp op) a b c) :
    Ev prog w C X h₀ A env ρ (.BinOp l op r pos) (.dat c) := by
  intro s Q E g ok hQ
  exact wpAny_BinOp (hl s _ E g ok fun v h₁ t₁ k₁ i₁ => hr _ _ E (g.trans k₁) (ok.ext k₁) fun u h₂ t₂ k₂ i₂ => ho _ Q E v u (g.trans (k₁.trans k₂)) ((ok.ext (k₁.trans k₂)).off) (i₁.ext k₂) i₂ fun x h₃ t₃ k₃ i₃ => hQ x h₃ t₃ (k₁.trans (k₂.trans k₃)) i₃)
theorem tr_and_nil : TrA prog w C X h₀ A env ρ .And [] true := fun s _ _ _ _ hQ => wpAny_allTrue_And_nil (hQ s.heap s.toks (Ext.refl _))
theorem tr_or_nil : TrA prog w C X h₀ A env ρ .Or [] false := fun s _ _ _ _ hQ => wpAny_allTrue_Or_nil (hQ s.heap s.toks (Ext.refl _))
theorem tr_and_cons {x : Expr} {xs : List Expr} {b c : Bool} (hx : Tr prog w C X h₀ A env ρ x b) (hxs : b = true → TrA prog w C X h₀ A env ρ .And xs c) : TrA prog w C X h₀ A env ρ .And (x :: xs) (b && c) := by
  intro s Q E g ok hQ
  refine wpAny_allTrue_And_cons (hx s _ E g ok fun h₁ t₁ k₁ => ?_)
  cases b with
  | false => exact hQ h₁ t₁ k₁
  | true => exact hxs rfl _ Q E (g.trans k₁) (ok.ext k₁) fun h₂ t₂ k₂ => hQ h₂ t₂ (k₁.trans k₂)
theorem tr_or_cons {x : Expr} {xs : List Expr} {b c : Bool} (hx : Tr prog w C X h₀ A env ρ x b) (hxs : b = false → TrA prog w C X h₀ A env ρ .Or xs c) : TrA prog w C X h₀ A env ρ .Or (x :: xs) (b || c) := by
  intro s Q E g ok hQ
  refine wpAny_allTrue_Or_cons (hx s _ E g ok fun h₁ t₁ k₁ => ?_)
  cases b with
  | true => exact hQ h₁ t₁ k₁
  | false => exact hxs rfl _ Q E (g.trans k₁) (ok.ext k₁) fun h₂ t₂ k₂ => hQ h₂ t₂ (k₁.trans k₂)
theorem tr_bool {op : BoolOp} {xs : List Expr} {pos : Pos} {b : Bool} (h : TrA prog w C X h₀ A env ρ op xs b) : Tr prog w C X h₀ A env ρ (.BoolOp op xs pos) b := fun s Q E g ok hQ => wpAny_isTrue_BoolOp (h s Q E g ok hQ)
theorem ev_ifexp {t x y : Expr} {pos : Pos} {b : Bool} {e : Ent} (ht : Tr prog w C X h₀ A env ρ t b) (hx : b = true → Ev prog w C X h₀ A env ρ x e) (hy : b = false → Ev prog w C X h₀ A env ρ y e) : Ev prog w C X h₀ A env ρ (.IfExp t x y pos) e := by
  intro s Q E g ok hQ
  refine IfExp_ (ht s _ E g ok fun h₁ t₁ k₁ => ?_)
  cases b with
  | true => exact hx rfl _ Q E (g.trans k₁) (ok.ext k₁) fun v h₂ t₂ k₂ i₂ => hQ v h₂ t₂ (k₁.trans k₂) i₂
  | false => exact hy rfl _ Q E (g.trans k₁) (ok.ext k₁) fun v h₂ t₂ k₂ i₂ => hQ v h₂ t₂ (k₁.trans k₂) i₂
end

/- operations -/
section
variable {prog : Program} {w : World} {X : Addr → Prop} {h₀ : Heap} {A : Around} {a b : Int}
theorem o_add : Op2 prog w X h₀ A (binaryOp .Add) (.int a) (.int b) (.int (a + b)) := by intro s Q E v u _ _ hv hu hQ; cases hv; cases hu; exact PyProof.Rows.add_int (hQ _ s.heap _ (Ext.refl _) (.int _ _))
theorem o_sub : Op2 prog w X h₀ A (binaryOp .Sub) (.int a) (.int b) (.int (a - b)) := by intro s Q E v u _ _ hv hu hQ; cases hv; cases hu; exact PyProof.Rows.sub_int (hQ _ s.heap _ (Ext.refl _) (.int _ _))
theorem o_lt : Op2 prog w X h₀ A (compareOp .Lt) (.int a) (.int b) (.bool (decide (a < b))) := by intro s Q E v u _ _ hv hu hQ; cases hv; cases hu; exact PyProof.Rows.lt_int (hQ _ s.heap s.toks (Ext.refl _) (.bool _))
theorem o_gt : Op2 prog w X h₀ A (compareOp .Gt) (.int a) (.int b) (.bool (decide (b < a))) := by intro s Q E v u _ _ hv hu hQ; cases hv; cases hu; exact PyProof.Rows.gt_int (hQ _ s.heap s.toks (Ext.refl _) (.bool _))
theorem o_ge : Op2 prog w X h₀ A (compareOp .GtE) (.int a) (.int b) (.bool (decide (b ≤ a))) := by intro s Q E v u _ _ hv hu hQ; cases hv; cases hu; exact PyProof.Rows.ge_int (hQ _ s.heap s.toks (Ext.refl _) (.bool _))
theorem o_eqI : Op2 prog w X h₀ A (compareOp .Eq) (.int a) (.int b) (.bool (a == b)) := by intro s Q E v u _ _ hv hu hQ; cases hv; cases hu; exact PyProof.Rows.eq_int (hQ _ s.heap s.toks (Ext.refl _) (.bool _))
theorem o_neI : Op2 prog w X h₀ A (compareOp .NotEq) (.int a) (.int b) (.bool (a != b)) := by intro s Q E v u _ _ hv hu hQ; cases hv; cases hu; exact PyProof.Rows.ne_int (hQ _ s.heap s.toks (Ext.refl _) (.bool _))
def isNone : Dat → Bool | .none => true | _ => false
theorem o_is {d : Dat} : Op2 prog w X h₀ A (compareOp .Is) d .none (.bool (isNone d)) := by
  intro s Q E v u _ _ hv hu hQ; cases hu
  refine PySem.is_none ?_
  have e : (v == Value.none) = isNone d := by cases hv <;> rfl
  rw [e]; exact hQ _ s.heap s.toks (Ext.refl _) (.bool _)
end
/-- what a run's first step was -/
def After (M : Model) (Γ : Ctx) (F : Frame) (fs : List Frame) (r : Result) (s₁ : Shared) (e : End) (s' : Shared) : Prop :=
  match F with
  | .ret k _ _ _ c p _ => Runs M (Γ.goto c) p (k r) fs s₁ e s'
  | .gen g k _ c p => Runs M (Γ.goto c) p (k (End.ret r).result) fs (s₁.setGen g .finished) e s'
def Inv (M : Model) (Γ : Ctx) (p : Pos) (t : Sem Fin) (fs : List Frame) (s : Shared) (e : End) (s' : Shared) : Prop :=
  match fs with
  | F :: fs => (∃ r s₁, Runs M (Γ.over (F :: fs)) p t [] s (.ret r) s₁ ∧ After M Γ F fs r s₁ e s') ∨
      (∃ v g₀ l₀ k₀ c₀ p₀ fs₀ s₁, Runs M (Γ.over (F :: fs)) p t [] s (.susp v g₀ l₀ k₀ c₀ p₀ fs₀) s₁ ∧
        (match splitAtGen (F :: fs) with
          | none => e = .susp v g₀ l₀ k₀ c₀ p₀ (fs₀ ++ F :: fs) ∧ s' = s₁
          | some (pre, (g, k, c₁, p₁), rest) => Runs M (Γ.goto c₁) p₁ (k (.yielded v)) rest (s₁.setGen g (End.susp v g₀ l₀ k₀ c₀ p₀ (fs₀ ++ pre)).genState) e s'))
  | [] => match t with
    | .pure (.done f) => e = .ret (.ok f) ∧ s' = s
    | .pure (.again c) => Runs M (Γ.goto c) p (M.den c) [] s e s'
    | .raise x => e = .ret (.error x) ∧ s' = s
    | .rule _ k => Runs M Γ p (k ()) [] s e s'
    | .at p' k => Runs M Γ p' (k ()) [] s e s'
    | .load a _ k => ∃ o, s.heap.get? a = some o ∧ Runs M Γ p (k o) [] s e s'
    | .update a _ f k => Runs M Γ p (k ()) [] { s with heap := s.heap.update a f } e s'
    | .loadIfAlive a k => Runs M Γ p (k (s.heap.get? a)) [] s e s'
    | .point _ k => Runs M Γ p (k ()) [] s e s'
    | .alloc o k => Runs M Γ p (k s.heap.objs.size) [] { s with heap := s.heap.push o } e s'
    | .fresh k => Runs M Γ p (k s.toks) [] { s with toks := s.toks + 1 } e s'
    | .ask k => Runs M Γ p (k ⟨M.prog, M.w.params⟩) [] s e s'
    | .choose src n k => Runs M Γ p (k (M.w.draws src (s.drawn.get src) % n)) [] { s with drawn := s.drawn.bump src } e s'
    | .os q _ k => Runs M Γ p (k (Os.step s.os q).2) [] { s with os := (Os.step s.os q).1 } e s'
    | .handled own k => Runs M Γ p (k (if own then Γ.own else Γ.handled)) [] s e s'
    | .genState g k => ∃ st, s.gens[g]? = some st ∧ Runs M Γ p (k st.seen) [] s e s'
    | .stack k => Runs M Γ p (k ((Γ.code, p) :: Γ.below)) [] s e s'
    | .thread k => Runs M Γ p (k 0) [] s e s'
    | .newGen c k => Runs M Γ p (k s.gens.size) [] { s with gens := s.gens.push (.fresh c) } e s'
    | .call c h g l k => (∃ r s₁, Runs M (Γ.enter c h p) p (M.den c) [] s (.ret r) s₁ ∧ Runs M Γ p (k r) [] s₁ e s') ∨
        (∃ v g₀ l₀ k₀ c₀ p₀ fs, Runs M (Γ.enter c h p) p (M.den c) [] s (.susp v g₀ l₀ k₀ c₀ p₀ fs) s' ∧ e = .susp v g₀ l₀ k₀ c₀ p₀ (fs ++ [.ret k h g l Γ.code p []]))
    | .yield v g l k => e = .susp v g l k Γ.code p [] ∧ s' = s
    | .resume g r _ k => ∃ res s₁, Wakes M Γ p g r s res s₁ ∧ Runs M Γ p (k res) [] s₁ e s'
    | _ => True
theorem runs_inv {M : Model} {Γ : Ctx} {p : Pos} {t : Sem Fin} {fs : List Frame} {s : Shared} {e : End} {s' : Shared} (h : Runs M Γ p t fs s e s') : Inv M Γ p t fs s e s' := by
  cases h with
  | done => exact ⟨rfl, rfl⟩
  | raise => exact ⟨rfl, rfl⟩
  | again _ h => exact h
  | rule h => exact h
  | «at» h => exact h
  | load o h => exact ⟨_, o, h⟩
  | update _ h => exact h
  | loadIfAlive h => exact h
  | point h => exact h
  | alloc h => exact h
  | fresh h => exact h
  | ask h => exact h
  | choose _ h => exact h
  | os h => exact h
  | handled h => exact h
  | genState o h => exact ⟨_, o, h⟩
  | stack h => exact h
  | thread h => exact h
  | newGen h => exact h
  | call a b => exact .inl ⟨_, _, a, b⟩
  | callSusp a => exact .inr ⟨_, _, _, _, _, _, _, a, rfl⟩
  | yield => exact ⟨rfl, rfl⟩
  | resumeFresh hg a q b => exact ⟨_, _, by unfold Wakes; rw [hg]; exact ⟨_, _, a, q, rfl, rfl⟩, b⟩
  | resumeSuspended hg a q b => exact ⟨_, _, by unfold Wakes; rw [hg]; exact ⟨_, _, a, q, rfl, rfl⟩, b⟩
  | resumeJustStarted hg hv b =>
    refine ⟨_, _, ?_, b⟩
    unfold Wakes; rw [hg]
    dsimp only
    split
    · rename_i q; injection q with q; exact absurd q hv
    · exact ⟨rfl, rfl⟩
    · rename_i q; cases q
  | resumeThrowFresh hg b => exact ⟨_, _, by unfold Wakes; rw [hg]; exact ⟨rfl, rfl⟩, b⟩
  | resumeRunning hg b => exact ⟨_, _, by unfold Wakes; rw [hg]; exact ⟨rfl, rfl⟩, b⟩
  | resumeFinished hg b => exact ⟨_, _, by unfold Wakes; rw [hg]; exact ⟨rfl, rfl⟩, b⟩
  | segRet a b => exact .inl ⟨_, _, a, b⟩
  | segGen a b => exact .inl ⟨_, _, a, b⟩
  | segSuspOut hs a => exact .inr ⟨_, _, _, _, _, _, _, _, a, by rw [hs]; exact ⟨rfl, rfl⟩⟩
  | segSuspGen hs a q b => exact .inr ⟨_, _, _, _, _, _, _, _, a, by rw [hs]; exact b⟩

theorem runs_det {M : Model} {Γ : Ctx} {p : Pos} {t : Sem Fin} {fs : List Frame} {s : Shared} {e : End} {s' : Shared} (h : Runs M Γ p t fs s e s') :
    ∀ {e₂ : End} {s₂ : Shared}, Runs M Γ p t fs s e₂ s₂ → e = e₂ ∧ s' = s₂ := by
  induction h with
  | done => intro e₂ s₂ h2; have q := runs_inv h2; exact ⟨q.1.symm, q.2.symm⟩
  | raise => intro e₂ s₂ h2; have q := runs_inv h2; exact ⟨q.1.symm, q.2.symm⟩
  | again _ _ ih => intro e₂ s₂ h2; exact ih (runs_inv h2)
  | rule _ ih => intro e₂ s₂ h2; exact ih (runs_inv h2)
  | «at» _ ih => intro e₂ s₂ h2; exact ih (runs_inv h2)
  | load ho _ ih => intro e₂ s₂ h2; obtain ⟨o, h1, h2⟩ := runs_inv h2; rw [ho] at h1; obtain rfl := Option.some.inj h1; exact ih h2
  | update _ _ ih => intro e₂ s₂ h2; exact ih (runs_inv h2)
  | loadIfAlive _ ih => intro e₂ s₂ h2; exact ih (runs_inv h2)
  | point _ ih => intro e₂ s₂ h2; exact ih (runs_inv h2)
  | alloc _ ih => intro e₂ s₂ h2; exact ih (runs_inv h2)
  | fresh _ ih => intro e₂ s₂ h2; exact ih (runs_inv h2)
  | ask _ ih => intro e₂ s₂ h2; exact ih (runs_inv h2)
  | choose _ _ ih => intro e₂ s₂ h2; exact ih (runs_inv h2)
  | os _ ih => intro e₂ s₂ h2; exact ih (runs_inv h2)
  | handled _ ih => intro e₂ s₂ h2; exact ih (runs_inv h2)
  | genState ho _ ih => intro e₂ s₂ h2; obtain ⟨o, h1, h2⟩ := runs_inv h2; rw [ho] at h1; obtain rfl := Option.some.inj h1; exact ih h2
  | stack _ ih => intro e₂ s₂ h2; exact ih (runs_inv h2)
  | thread _ ih => intro e₂ s₂ h2; exact ih (runs_inv h2)
  | newGen _ ih => intro e₂ s₂ h2; exact ih (runs_inv h2)
  | call _ _ ih1 ih2 =>
    intro e₂ s₂ h2
    rcases runs_inv h2 with ⟨r, s₁, a, b⟩ | ⟨_, _, _, _, _, _, _, a, _⟩
    · obtain ⟨q, rfl⟩ := ih1 a
      injection q with q; subst q
      exact ih2 b
    · obtain ⟨q, _⟩ := ih1 a; injection q
  | callSusp _ ih =>
    intro e₂ s₂ h2
    rcases runs_inv h2 with ⟨r, s₁, a, b⟩ | ⟨_, _, _, _, _, _, _, a, b⟩
    · obtain ⟨q, _⟩ := ih a; injection q
    · obtain ⟨q, rfl⟩ := ih a
      injection q with q1 q2 q3 q4 q5 q6 q7
      subst q1 q2 q3 q4 q5 q6 q7
      exact ⟨b.symm, rfl⟩
  | yield => intro e₂ s₂ h2; have q := runs_inv h2; exact ⟨q.1.symm, q.2.symm⟩
  | resumeFresh hg _ _ _ ih1 ih2 =>
    intro e₂ s₂ h2
    obtain ⟨res, s₁, w, b⟩ := runs_inv h2
    unfold Wakes at w; rw [hg] at w
    obtain ⟨e1, s3, a, _, rfl, rfl⟩ := w
    obtain ⟨rfl, rfl⟩ := ih1 a
    exact ih2 b
  | resumeSuspended hg _ _ _ ih1 ih2 =>
    intro e₂ s₂ h2
    obtain ⟨res, s₁, w, b⟩ := runs_inv h2
    unfold Wakes at w; rw [hg] at w
    obtain ⟨e1, s3, a, _, rfl, rfl⟩ := w
    obtain ⟨rfl, rfl⟩ := ih1 a
    exact ih2 b
  | resumeJustStarted hg hv _ ih =>
    intro e₂ s₂ h2
    obtain ⟨res, s₁, w, b⟩ := runs_inv h2
    unfold Wakes at w; rw [hg] at w
    dsimp only at w
    split at w
    · rename_i q; injection q with q; exact absurd q hv
    · obtain ⟨rfl, rfl⟩ := w
      exact ih b
    · rename_i q; cases q
  | resumeThrowFresh hg _ ih =>
    intro e₂ s₂ h2
    obtain ⟨res, s₁, w, b⟩ := runs_inv h2
    unfold Wakes at w; rw [hg] at w
    obtain ⟨rfl, rfl⟩ := w
    exact ih b
  | resumeRunning hg _ ih =>
    intro e₂ s₂ h2
    obtain ⟨res, s₁, w, b⟩ := runs_inv h2
    unfold Wakes at w; rw [hg] at w
    obtain ⟨rfl, rfl⟩ := w
    exact ih b
  | resumeFinished hg _ ih =>
    intro e₂ s₂ h2
    obtain ⟨res, s₁, w, b⟩ := runs_inv h2
    unfold Wakes at w; rw [hg] at w
    obtain ⟨rfl, rfl⟩ := w
    exact ih b
  | segRet a b ih1 ih2 =>
    intro e₂ s₂ h2
    rcases runs_inv h2 with ⟨r, s₁, a, b⟩ | ⟨_, _, _, _, _, _, _, _, a, _⟩
    · obtain ⟨q, rfl⟩ := ih1 a
      injection q with q; subst q
      exact ih2 b
    · obtain ⟨q, _⟩ := ih1 a; injection q
  | segGen a b ih1 ih2 =>
    intro e₂ s₂ h2
    rcases runs_inv h2 with ⟨r, s₁, a, b⟩ | ⟨_, _, _, _, _, _, _, _, a, _⟩
    · obtain ⟨q, rfl⟩ := ih1 a
      injection q with q; subst q
      exact ih2 b
    · obtain ⟨q, _⟩ := ih1 a; injection q
  | segSuspOut hs a ih =>
    intro e₂ s₂ h2
    rcases runs_inv h2 with ⟨r, s₁, a, b⟩ | ⟨_, _, _, _, _, _, _, _, a, b⟩
    · obtain ⟨q, _⟩ := ih a; injection q
    · obtain ⟨q, rfl⟩ := ih a
      injection q with q1 q2 q3 q4 q5 q6 q7
      subst q1 q2 q3 q4 q5 q6 q7
      rw [hs] at b
      exact ⟨b.1.symm, b.2.symm⟩
  | segSuspGen hs a _ b ih1 ih2 =>
    intro e₂ s₂ h2
    rcases runs_inv h2 with ⟨r, s₁, a, b⟩ | ⟨_, _, _, _, _, _, _, _, a, b⟩
    · obtain ⟨q, _⟩ := ih1 a; injection q
    · obtain ⟨q, rfl⟩ := ih1 a
      injection q with q1 q2 q3 q4 q5 q6 q7
      subst q1 q2 q3 q4 q5 q6 q7
      rw [hs] at b
      exact ih2 b

theorem wakes_det {M : Model} {Γ : Ctx} {p : Pos} {g : Nat} {r : Resume} {s : Shared} {res res₂ : GenResult} {s' s₂ : Shared} (h : Wakes M Γ p g r s res s') (h2 : Wakes M Γ p g r s res₂ s₂) : res = res₂ ∧ s' = s₂ := by
  unfold Wakes at h h2
  split at h
  · exact h.elim
  · rename_i c e
    rw [e] at h2
    dsimp only at h2
    split at h
    · dsimp only at h2
      obtain ⟨e1, s1, a, _, rfl, rfl⟩ := h
      obtain ⟨e2, s2, b, _, rfl, rfl⟩ := h2
      obtain ⟨rfl, rfl⟩ := runs_det a b
      exact ⟨rfl, rfl⟩
    · split at h2
      · simp_all
      · exact ⟨h.1.trans h2.1.symm, h.2.trans h2.2.symm⟩
      · rename_i hq; cases hq
    · split at h2
      · rename_i hq; cases hq
      · rename_i hq; cases hq
      · rename_i hq; cases hq; exact ⟨h.1.trans h2.1.symm, h.2.trans h2.2.symm⟩
  · rename_i e
    rw [e] at h2
    obtain ⟨e1, s1, a, _, rfl, rfl⟩ := h
    obtain ⟨e2, s2, b, _, rfl, rfl⟩ := h2
    obtain ⟨rfl, rfl⟩ := runs_det a b
    exact ⟨rfl, rfl⟩
  · rename_i e; rw [e] at h2; exact ⟨h.1.trans h2.1.symm, h.2.trans h2.2.symm⟩
  · rename_i e; rw [e] at h2; exact ⟨h.1.trans h2.1.symm, h.2.trans h2.2.symm⟩

theorem wp_and {α : Type} {M : Model} {Γ : Ctx} {t : Sem α} {Q Q' : α → Pos → Shared → Prop} {E E' : Value → Pos → Shared → Prop} : ∀ {p : Pos} {s : Shared},
    Sem.wp M Γ t Q E p s → Sem.wp M Γ t Q' E' p s → Sem.wp M Γ t (fun a p s => Q a p s ∧ Q' a p s) (fun a p s => E a p s ∧ E' a p s) p s := by
  induction t with
  | pure a => intro p s h h'; rw [Sem.wp] at *; exact ⟨h, h'⟩
  | raise e => intro p s h h'; rw [Sem.wp] at *; exact ⟨h, h'⟩
  | unsupported w => intro p s h h'; rw [Sem.wp] at *; exact h
  | finish w => intro p s h h'; rw [Sem.wp] at *; exact h
  | rule t k ih => intro p s h h'; rw [Sem.wp] at *; exact ih _ h h'
  | «at» t k ih => intro p s h h'; rw [Sem.wp] at *; exact ih _ h h'
  | load a q k ih => intro p s h h'; rw [Sem.wp] at *; obtain ⟨o, e, h⟩ := h; obtain ⟨o', e', h'⟩ := h'; rw [e] at e'; cases e'; exact ⟨o, e, ih _ h h'⟩
  | update a q f k ih => intro p s h h'; rw [Sem.wp] at *; exact ⟨h.1, ih _ h.2 h'.2⟩
  | loadIfAlive a k ih => intro p s h h'; rw [Sem.wp] at *; exact ih _ h h'
  | point l k ih => intro p s h h'; rw [Sem.wp] at *; exact ih _ h h'
  | register a k ih => intro p s h h'; rw [Sem.wp] at *; exact h
  | alloc o k ih => intro p s h h'; rw [Sem.wp] at *; exact ih _ h h'
  | fresh k ih => intro p s h h'; rw [Sem.wp] at *; exact ih _ h h'
  | ask k ih => intro p s h h'; rw [Sem.wp] at *; exact ih _ h h'
  | choose a n k ih => intro p s h h'; rw [Sem.wp] at *; exact ⟨h.1, ih _ h.2 h'.2⟩
  | os q l k ih => intro p s h h'; rw [Sem.wp] at *; exact ih _ h h'
  | call c hd g l k ih =>
    intro p s h h'
    rw [Sem.wp] at *
    obtain ⟨r, s1, a, h⟩ := h
    obtain ⟨r', s1', a', h'⟩ := h'
    obtain ⟨q, rfl⟩ := runs_det a a'
    cases q
    exact ⟨r, s1, a, ih _ h h'⟩
  | handled o k ih => intro p s h h'; rw [Sem.wp] at *; exact ih _ h h'
  | genState g k ih => intro p s h h'; rw [Sem.wp] at *; obtain ⟨o, e, h⟩ := h; obtain ⟨o', e', h'⟩ := h'; rw [e] at e'; cases e'; exact ⟨o, e, ih _ h h'⟩
  | newGen c k ih => intro p s h h'; rw [Sem.wp] at *; exact ih _ h h'
  | resume g r l k ih =>
    intro p s h h'
    rw [Sem.wp] at *
    obtain ⟨r, s1, a, h⟩ := h
    obtain ⟨r', s1', a', h'⟩ := h'
    obtain ⟨rfl, rfl⟩ := wakes_det a a'
    exact ⟨r, s1, a, ih _ h h'⟩
  | yield v g l k ih => intro p s h h'; rw [Sem.wp] at *; exact h
  | stack k ih => intro p s h h'; rw [Sem.wp] at *; exact ih _ h h'
  | fork c k ih => intro p s h h'; rw [Sem.wp] at *; exact h
  | thread k ih => intro p s h h'; rw [Sem.wp] at *; exact ih _ h h'
  | await a f d l k ih => intro p s h h'; rw [Sem.wp] at *; exact h

theorem wpAny_and {α : Type} {M : Model} {A : Around} {t : Sem α} {Q Q' : α → Shared → Prop} {E E' : Value → Shared → Prop} {s : Shared} (h : wpAny M A t Q E s) (h' : wpAny M A t Q' E' s) :
    wpAny M A t (fun a s => Q a s ∧ Q' a s) (fun a s => E a s ∧ E' a s) s := fun Γ p hΓ => wp_and (h Γ p hΓ) (h' Γ p hΓ)
def Gr (h₀ : Heap) : Prop := ∃ mg mb, h₀.Ns mainGlobals mg ∧ h₀.Ns builtinsNs mb

def emptyHeap : Heap := {}
theorem empty_none (a : Addr) : emptyHeap.get? a = none := by
  cases e : emptyHeap.get? a with
  | none => rfl
  | some o => have := Heap.lt_size e; exact absurd this (Nat.not_lt_zero _)

/-- all that the heap holds, but L -/
def others (h : Heap) (L : Addr) : List (Addr × Obj) := (List.range h.objs.size).filterMap fun a => if a = L then none else (h.get? a).map fun o => (a, o)
theorem others_mem {h : Heap} {L a : Addr} {o : Obj} : (a, o) ∈ others h L ↔ a ≠ L ∧ h.get? a = some o := by
  unfold others
  rw [List.mem_filterMap]
  constructor
  · rintro ⟨b, hb, e⟩
    split at e
    · cases e
    · rename_i hne
      cases q : h.get? b with
      | none => rw [q] at e; cases e
      | some o' => rw [q] at e; cases e; exact ⟨hne, q⟩
  · rintro ⟨hne, e⟩
    exact ⟨a, List.mem_range.mpr (Heap.lt_size e), by rw [if_neg hne, e]; rfl⟩
theorem others_fr {h : Heap} {L : Addr} {m : Str → Option Value} (hn : h.Ns L m) : Fr emptyHeap L h m := ⟨hn, fun b o e => (by rw [empty_none] at e; cases e), Nat.zero_le _⟩
theorem others_news (h : Heap) (L : Addr) : News emptyHeap L h (others h L) := fun p hp => by
  obtain ⟨a, o⟩ := p
  have := others_mem.mp hp
  exact ⟨this.2, this.1, empty_none _⟩

theorem by_frames {prog : Program} {w : World} {α : Type} {A : Around} {t : Sem α} {s : Shared} {h₀ : Heap} {R : α → Shared → Prop} {E : Value → Shared → Prop} (g : Ext h₀ s.heap) (gr : Gr h₀)
    (h : ∀ L m news, Fr emptyHeap L s.heap m → News emptyHeap L s.heap news → wpAny (model prog w) A t (fun v s' => R v s' ∧ News emptyHeap L s'.heap news) E s) :
    wpAny (model prog w) A t (fun v s' => R v s' ∧ Ext s.heap s'.heap) E s := by
  obtain ⟨mg, mb, hg, hb⟩ := gr
  have h1 := h mainGlobals mg _ (others_fr (hg.keeps g)) (others_news _ _)
  have h2 := h builtinsNs mb _ (others_fr (hb.keeps g)) (others_news _ _)
  refine wpAny_mono (wpAny_and h1 h2) (fun v s' q => ⟨q.1.1, fun b o e => ?_⟩) fun _ _ q => q.1
  by_cases hb : b = mainGlobals
  · exact (q.2.2 (b, o) (others_mem.mpr ⟨by rw [hb]; decide, e⟩)).1
  · exact (q.1.2 (b, o) (others_mem.mpr ⟨hb, e⟩)).1

theorem tupIs {h : Heap} {a : Addr} {vs : List Value} {n : Nat} (e : h.get? a = some (tupOf vs n)) : IsTup h a vs.toArray := ⟨_, e, rfl, n, rfl⟩
theorem lstIs {h : Heap} {a : Addr} {vs : List Value} {n : Nat} (e : h.get? a = some (listOf vs.toArray n)) : h.IsList a vs.toArray := ⟨_, e, rfl, n, rfl⟩

mutual
theorem V.reads {X : Addr → Prop} {h : Heap} : ∀ {v : Value} {d : Dat}, V X h v d → ∃ as, Reads h v (kqdP d) as
  | _, _, .none => ⟨_, Reads.none⟩
  | _, _, .bool b => ⟨_, Reads.bool b⟩
  | _, _, .int i t => ⟨_, Reads.int i t⟩
  | _, _, .tup _ e r => by
    obtain ⟨as, q⟩ := VA.reads r
    rw [kqdP]
    exact ⟨as, Reads.tuple e rfl rfl (by simpa using q)⟩
  | _, _, .lst _ e r => by
    obtain ⟨as, q⟩ := VA.reads r
    rw [kqdP]
    exact ⟨_, Reads.list e rfl rfl (by simpa using q)⟩
theorem VA.reads {X : Addr → Prop} {h : Heap} : ∀ {vs : List Value} {ds : List Dat}, VA X h vs ds → ∃ as, ReadsAll h vs (kqdPs ds) as
  | _, _, .nil => ⟨_, ReadsAll.nil⟩
  | _, _, .cons hd r => by
    obtain ⟨as, q⟩ := V.reads hd
    obtain ⟨bs, p⟩ := VA.reads r
    rw [kqdPs]
    exact ⟨_, ReadsAll.cons q p⟩
end

section
variable {prog : Program} {w : World} {X : Addr → Prop} {h₀ : Heap} {A : Around} {d e : Dat} {b : Bool}
theorem shaped_of {n : Nat} (hn : n ≤ 64) (h : kqdOk n d = true) : SeqAt.shaped (kqdP d) = true := by
  have l := kqd_lay n d h
  unfold SeqAt.shaped; rw [l.1, Bool.true_and]; exact decide_eq_true (Nat.le_trans l.2 hn)
theorem o_eq (hd : kqdOk 40 d = true) (he : kqdOk 40 e = true) (hu : A.units + 64 < cLine) (hb : b = true ↔ d = e) : Op2 prog w X h₀ A (compareOp .Eq) d e (.bool b) := by
  intro s Q E v u _ _ hv hu' hQ
  obtain ⟨as, ra⟩ := hv.reads
  obtain ⟨bs, rb⟩ := hu'.reads
  have q := kqd_eqv 40 d e 40 hd he
  have e' : PyData.eqv (kqdP d) (kqdP e) = b := Bool.eq_iff_iff.mpr (q.trans hb.symm)
  exact eq_dataH ra rb (shaped_of (by decide) hd) (shaped_of (by decide) he) hu (by rw [e']; exact hQ _ s.heap s.toks (Ext.refl _) (.bool _))
theorem o_ne (hd : kqdOk 40 d = true) (he : kqdOk 40 e = true) (hu : A.units + 64 < cLine) (hb : b = true ↔ d = e) : Op2 prog w X h₀ A (compareOp .NotEq) d e (.bool (!b)) := by
  intro s Q E v u _ _ hv hu' hQ
  obtain ⟨as, ra⟩ := hv.reads
  obtain ⟨bs, rb⟩ := hu'.reads
  have q := kqd_eqv 40 d e 40 hd he
  have e' : PyData.eqv (kqdP d) (kqdP e) = b := Bool.eq_iff_iff.mpr (q.trans hb.symm)
  exact ne_dataH ra rb (shaped_of (by decide) hd) (shaped_of (by decide) he) hu (by rw [e']; exact hQ _ s.heap s.toks (Ext.refl _) (.bool _))
theorem o_neB {x y : Bool} (hu : A.units + 64 < cLine) : Op2 prog w X h₀ A (compareOp .NotEq) (.bool x) (.bool y) (.bool (x != y)) := by
  intro s Q E v u _ _ hv hu' hQ
  cases hv; cases hu'
  refine ne_dataH (Reads.bool x) (Reads.bool y) (by cases x <;> rfl) (by cases y <;> rfl) hu ?_
  have e' : (!PyData.eqv (PyData.bool x) (PyData.bool y)) = (x != y) := by cases x <;> cases y <;> rfl
  rw [e']; exact hQ _ s.heap s.toks (Ext.refl _) (.bool _)
end
section
variable {prog : Program} {w : World} {C : Addr} {X : Addr → Prop} {h₀ : Heap} {A : Around} {env : Env} {ρ : List (Str × Ent)}

/-- an item at a written or reckoned place -/
theorem ev_item_tup {x sl : Expr} {pos : Pos} {ds : List Dat} {d : Dat} {k : Nat} (hx : Ev prog w C X h₀ A env ρ x (.dat (.tuple ds))) (hs : Ev prog w C X h₀ A env ρ sl (.dat (.int k))) (hd : ds[k]? = some d) (hk : k < 2 ^ 62)
    (hsub : ∀ l u, subscripted sl false (.ref l) (.int k u) = operate [.ref l, .int k u] (getItem (.ref l) (.int k u))) : Ev prog w C X h₀ A env ρ (.Subscript x sl pos) (.dat d) := by
  intro s Q E g ok hQ
  refine Subscript_ (hx s _ E g ok fun v h₁ t₁ k₁ i₁ => hs _ _ E (g.trans k₁) (ok.ext k₁) fun u h₂ t₂ k₂ i₂ => ?_)
  have i₁' := i₁.ext k₂
  cases i₁' with
  | tup na e r =>
    cases i₂ with
    | int _ t =>
      obtain ⟨y, hy, hv⟩ := r.get hd
      rename_i vs n
      have hlt : k < vs.length := (List.getElem?_eq_some_iff.mp hy).1
      refine tail_any (IsTup.typeIs (s := { s with heap := h₂, toks := t₂ }) (tupIs e)) slot_tuple_getitem.lookup (getItem_tuple (tupIs e) (by omega) (by omega) (j := k) ?_ (by simpa using hy) (hQ y h₂ t₂ (k₁.trans k₂) hv)) (hsub _ _)
      unfold seqIndex?
      simp only [List.size_toArray]
      (repeat' split) <;> simp_all <;> omega
theorem ev_item_list {x sl : Expr} {pos : Pos} {ds : List Dat} {d : Dat} {k : Nat} (hx : Ev prog w C X h₀ A env ρ x (.dat (.list ds))) (hs : Ev prog w C X h₀ A env ρ sl (.dat (.int k))) (hd : ds[k]? = some d) (hk : k < 2 ^ 62)
    (hsub : ∀ l u, subscripted sl false (.ref l) (.int k u) = operate [.ref l, .int k u] (getItem (.ref l) (.int k u))) : Ev prog w C X h₀ A env ρ (.Subscript x sl pos) (.dat d) := by
  intro s Q E g ok hQ
  refine Subscript_ (hx s _ E g ok fun v h₁ t₁ k₁ i₁ => hs _ _ E (g.trans k₁) (ok.ext k₁) fun u h₂ t₂ k₂ i₂ => ?_)
  have i₁' := i₁.ext k₂
  cases i₁' with
  | lst na e r =>
    cases i₂ with
    | int _ t =>
      obtain ⟨y, hy, hv⟩ := r.get hd
      exact tail_any (Heap.IsList.typeIs (s := { s with heap := h₂, toks := t₂ }) (lstIs e)) slot_list_getitem.lookup (wpAny_getItem_list (lstIs e) (by omega) (by omega) (by simpa using hy) (hQ y h₂ t₂ (k₁.trans k₂) hv)) (hsub _ _)

/-- a slice's part: absent, or an int -/
inductive PartOf (prog : Program) (w : World) (C : Addr) (X : Addr → Prop) (h₀ : Heap) (A : Around) (env : Env) (ρ : List (Str × Ent)) : Option Expr → Option Int → Prop
  | none : PartOf prog w C X h₀ A env ρ none none
  | some {e : Expr} {i : Int} : Ev prog w C X h₀ A env ρ e (.dat (.int i)) → PartOf prog w C X h₀ A env ρ (some e) (some i)
theorem part_ev {o : Option Expr} {i : Option Int} (p : PartOf prog w C X h₀ A env ρ o i) (s : Shared) (Q : Value → Shared → Prop) (E : Value → Shared → Prop) (g : Ext h₀ s.heap) (ok : OK C X h₀ env ρ s.heap)
    (hQ : ∀ v h' tk', Ext s.heap h' → IsPart v i → Q v { s with heap := h', toks := tk' }) : wpAny (model prog w) A (valueOrNone (evalOpt o env)) Q E s := by
  cases p with
  | none => exact wpAny_pure (hQ .none s.heap s.toks (Ext.refl _) .none)
  | some h => exact h s Q E g ok fun v h' tk' k i => by cases i; exact hQ _ h' tk' k (.int _ _)

theorem slice_eval {lo up st : Option Expr} {pos : Pos} {a b c : Option Int} (pa : PartOf prog w C X h₀ A env ρ lo a) (pb : PartOf prog w C X h₀ A env ρ up b) (pc : PartOf prog w C X h₀ A env ρ st c) (s : Shared) (Q : Value → Shared → Prop) (E : Value → Shared → Prop) (g : Ext h₀ s.heap) (ok : OK C X h₀ env ρ s.heap)
    (hQ : ∀ h' tk' vl vu vs, Ext s.heap h' → IsPart vl a → IsPart vu b → IsPart vs c → Q (.ref h'.objs.size) { s with heap := h'.push { cls := .type "slice", data := .fields #[vl, vu, vs] }, toks := tk' }) :
    wpAny (model prog w) A (eval (.Slice lo up st pos) env) Q E s := by
  show wpAny (model prog w) A (do
    let l ← valueOrNone (evalOpt lo env)
    let u ← holding [l] (valueOrNone (evalOpt up env))
    let s ← holding [l, u] (valueOrNone (evalOpt st env))
    newFields "slice" [l, u, s]) Q E s
  refine wpAny_bind (part_ev pa s _ E g ok fun vl h₁ t₁ k₁ i₁ => wpAny_bind (wpAny_holding (part_ev pb _ _ E (g.trans k₁) (ok.ext k₁) fun vu h₂ t₂ k₂ i₂ => wpAny_bind (wpAny_holding (part_ev pc _ _ E (g.trans (k₁.trans k₂)) (ok.ext (k₁.trans k₂)) fun vs h₃ t₃ k₃ i₃ => ?_)))))
  exact wpAny_newObj_type (hQ h₃ t₃ vl vu vs (k₁.trans (k₂.trans k₃)) i₁ i₂ i₃) (by size_fits)

def pickD (ds : List Dat) (lo hi st : Option Int) : List Dat := (sliceRange (sliceBounds lo hi st ds.length).1 (sliceBounds lo hi st ds.length).2.1 (sliceBounds lo hi st ds.length).2.2).filterMap (ds[·]?)
theorem VA.pick {X : Addr → Prop} {h : Heap} {vs : List Value} {ds : List Dat} (x : VA X h vs ds) (lo hi st : Option Int) : VA X h (slicePick vs.toArray lo hi st).toList (pickD ds lo hi st) := by
  unfold slicePick pickD
  rw [List.size_toArray, x.length]
  generalize sliceRange _ _ _ = l
  show VA X h (l.filterMap fun i => vs.toArray[i]?) _
  simp only [List.getElem?_toArray]
  induction l with
  | nil => exact .nil
  | cons i l ih =>
    cases hd : ds[i]? with
    | none =>
      have hv : vs[i]? = none := by rw [List.getElem?_eq_none_iff] at hd ⊢; rw [x.length]; exact hd
      simpa [List.filterMap_cons, hd, hv] using ih
    | some d =>
      obtain ⟨v, hv, hV⟩ := x.get hd
      simpa [List.filterMap_cons, hd, hv] using VA.cons hV ih

theorem ev_slice {x : Expr} {lo up st : Option Expr} {pos spos : Pos} {ds es : List Dat} {a b c : Option Int} {ops : Addr → Addr → List Value} (hx : Ev prog w C X h₀ A env ρ x (.dat (.list ds))) (pa : PartOf prog w C X h₀ A env ρ lo a) (pb : PartOf prog w C X h₀ A env ρ up b) (pc : PartOf prog w C X h₀ A env ρ st c)
    (hc : c ≠ some 0) (he : pickD ds a b c = es) (hz : ds.length ≤ sizeLine)
    (hsub : ∀ l q, subscripted (.Slice lo up st spos) false (.ref l) (.ref q) = operate (ops l q) (getItem (.ref l) (.ref q))) : Ev prog w C X h₀ A env ρ (.Subscript x (.Slice lo up st spos) pos) (.dat (.list es)) := by
  intro s Q E g ok hQ
  refine Subscript_ (hx s _ E g ok fun v h₁ t₁ k₁ i₁ => slice_eval pa pb pc _ _ E (g.trans k₁) (ok.ext k₁) fun h₂ t₂ vl vu vs k₂ i₂ i₃ i₄ => ?_)
  have i₁' := i₁.ext (k₂.trans fun b o e => Heap.get?_push_of_some { cls := .type "slice", data := .fields #[vl, vu, vs] } e)
  cases i₁' with
  | lst na e r =>
    rename_i l ws n
    refine tail_any (Heap.IsList.typeIs (s := { s with heap := h₂.push { cls := .type "slice", data := .fields #[vl, vu, vs] }, toks := t₂ }) (lstIs e)) slot_list_getitem.lookup
      (wpAny_getItem_list_slice (lstIs e) (Heap.IsSliceOf.new ..) i₂ i₃ i₄ hc ?_ (by rw [List.size_toArray, r.length]; exact hz)) (hsub _ _)
    have q := r.pick a b c
    rw [he] at q
    have K : Ext h₂ ((h₂.push { cls := .type "slice", data := .fields #[vl, vu, vs] }).push { cls := .type "list", data := .seq (slicePick ws.toArray a b c) }) := fun b o e => Heap.get?_push_of_some _ (Heap.get?_push_of_some _ e)
    refine hQ _ _ t₂ (k₁.trans (k₂.trans K)) (.lst (vs := (slicePick ws.toArray a b c).toList) (n := 0) (new_off fun b hb => ((ok.ext (k₁.trans k₂)).off b hb).imp fun o e => Heap.get?_push_of_some _ e) ?_ (q.mono (Ext.seq fun b o e => Heap.get?_push_of_some _ e)))
    rw [Array.toArray_toList]
    exact Heap.get?_push_size _ rfl
end

section
variable {prog : Program} {w : World} {X : Addr → Prop} {h₀ : Heap} {A : Around}
theorem o_addL {ds es : List Dat} (gr : Gr h₀) (hz : ds.length + es.length ≤ sizeLine) : Op2 prog w X h₀ A (binaryOp .Add) (.list ds) (.list es) (.list (ds ++ es)) := by
  intro s Q E v u g off hv hu hQ
  cases hv with
  | lst na e r =>
    cases hu with
    | lst na' e' r' =>
      refine mono_of (by_frames (R := fun v s' => ∃ D n h' tk', v = .ref D ∧ D = s.heap.objs.size ∧ s' = { s with heap := h', toks := tk' } ∧ h'.get? D = some (W.listOf (List.toArray _) n)) g gr fun L m news F N => add_lists F N (lstIs e) (lstIs e') (fun h' F' N' => ⟨⟨_, 0, h', s.toks, rfl, rfl, rfl, (N' _ (.head _)).1⟩, fun p hp => N' p (.tail _ hp)⟩) (by rw [r.length, r'.length]; exact hz)) ?_
      rintro v s' ⟨⟨D, n, h', tk', rfl, rfl, rfl, hD⟩, k⟩
      exact hQ _ h' tk' k (.lst (new_off off) hD ((r.append r').mono k.seq))
open Classical in
theorem o_in {d : Dat} {ds : List Dat} (hds : ∀ e ∈ ds, kqdOk 8 e = true) (hd : kqdOk 8 d = true) (hu : A.units + 64 < cLine) : Op2 prog w X h₀ A (compareOp .In) d (.list ds) (.bool (decide (d ∈ ds))) := by
  intro s Q E v u g off hv hu' hQ
  obtain ⟨bs, rx⟩ := hv.reads
  obtain ⟨as, ra⟩ := hu'.reads
  rw [kqdP] at ra
  have l := kqd_layL hds
  have ld := kqd_lay 8 d hd
  have e : ((kqdPs ds).any fun y => PyData.eqv y (kqdP d)) = decide (d ∈ ds) := by
    by_cases hq : d ∈ ds
    · rw [decide_eq_true hq]; exact (kqd_any ds d hds hd).mpr hq
    · rw [decide_eq_false hq]; exact Bool.eq_false_iff.mpr fun z => hq ((kqd_any ds d hds hd).mp z)
  have l2 := ld.2
  cases hu' with
  | lst na' e' r =>
    refine SeqAt.in_list_reads ra rx l.1 ld.1 ?_ (by rw [e]; exact hQ _ s.heap s.toks (Ext.refl _) (.bool _))
    have := Nat.min_le_right (PyData.depthAll (kqdPs ds)) (kqdP d).depth
    omega
theorem VA.ints {X : Addr → Prop} {h : Heap} : ∀ {vs : List Value} {ns : List Int}, VA X h vs (ns.map .int) → IntsAre vs ns
  | _, [], x => by cases x; exact .nil
  | _, n :: ns, x => by
    cases x with
    | cons a r => cases a; exact .cons _ _ (VA.ints r)
theorem VA.of_ints {X : Addr → Prop} {h : Heap} : ∀ {vs : List Value} {ns : List Int}, IntsAre vs ns → VA X h vs (ns.map .int)
  | _, _, .nil => .nil
  | _, _, .cons n t r => .cons (.int n t) (VA.of_ints r)
end
inductive Outc where
  | ret (d : Dat)
  | next (ρ : List (Str × Ent))
def OutIs (C : Addr) (X : Addr → Prop) (h₀ : Heap) (env : Env) (h' : Heap) (f : Flow) : Outc → Prop
  | .ret d => ∃ v, f = Flow.ret v ∧ V X h' v d
  | .next ρ' => f = Flow.next ∧ OK C X h₀ env ρ' h'

section
variable (prog : Program) (w : World) (C : Addr) (X : Addr → Prop) (h₀ : Heap) (A : Around) (env : Env) (ρ : List (Str × Ent))
def Sx (t : Sem Flow) (o : Outc) : Prop := ∀ (s : Shared) (Q : Flow → Shared → Prop) (E : Value → Shared → Prop), Ext h₀ s.heap → OK C X h₀ env ρ s.heap →
  (∀ f h' tk', Pres env s.heap h' → OutIs C X h₀ env h' f o → Q f { s with heap := h', toks := tk' }) → wpAny (model prog w) A t Q E s
abbrev ExS (st : Stmt) (o : Outc) : Prop := Sx prog w C X h₀ A env ρ (exec st env) o
abbrev ExB (st : List Stmt) (o : Outc) : Prop := Sx prog w C X h₀ A env ρ (execs st env) o
/-- a target takes a value -/
def As (t : Expr) (e : Ent) (ρ' : List (Str × Ent)) : Prop := ∀ (s : Shared) (Q : Unit → Shared → Prop) (E : Value → Shared → Prop) (v : Value), Ext h₀ s.heap → OK C X h₀ env ρ s.heap → Is C X env s.heap v e →
  (∀ h' tk', Pres env s.heap h' → OK C X h₀ env ρ' h' → Q () { s with heap := h', toks := tk' }) → wpAny (model prog w) A (assign t env v) Q E s
def AsL (ts : List Expr) (es : List Ent) (ρ' : List (Str × Ent)) : Prop := ∀ (s : Shared) (Q : Unit → Shared → Prop) (E : Value → Shared → Prop) (vs : List Value), Ext h₀ s.heap → OK C X h₀ env ρ s.heap → IsAll C X env s.heap vs es →
  (∀ h' tk', Pres env s.heap h' → OK C X h₀ env ρ' h' → Q () { s with heap := h', toks := tk' }) → wpAny (model prog w) A (assignInOrder ((assignEach ts env).map (·.2)) vs) Q E s
end

theorem Pres.low {C : Addr} {X : Addr → Prop} {h₀ : Heap} {env : Env} {ρ : List (Str × Ent)} {h h' : Heap} (ok : OK C X h₀ env ρ h) (g : Ext h₀ h) (k : Pres env h h') : Ext h₀ h' := fun b o e => k b o (g b o e) (ok.low b o e)
theorem IsAll.ext {C : Addr} {X : Addr → Prop} {env : Env} {h h' : Heap} (k : Ext h h') : ∀ {vs : List Value} {es : List Ent}, IsAll C X env h vs es → IsAll C X env h' vs es
  | _, _, .nil => .nil
  | _, _, .cons x r => .cons (x.ext k) (IsAll.ext k r)
theorem IsAll.pres {C : Addr} {X : Addr → Prop} {h₀ : Heap} {env : Env} {ρ : List (Str × Ent)} {h h' : Heap} (ok : OK C X h₀ env ρ h) (k : Pres env h h') : ∀ {vs : List Value} {es : List Ent}, IsAll C X env h vs es → IsAll C X env h' vs es
  | _, _, .nil => .nil
  | _, _, .cons x r => .cons (x.pres ok k) (IsAll.pres ok k r)

section
variable {prog : Program} {w : World} {C : Addr} {X : Addr → Prop} {h₀ : Heap} {A : Around} {env : Env} {ρ ρ' ρ'' : List (Str × Ent)}

theorem OK.nsNotCell {h : Heap} (ok : OK C X h₀ env ρ h) : ∀ p ∈ env.cells, p.2 ≠ env.locals := fun p hp q => by
  obtain ⟨m, ⟨o', es, ep, ho, hd', _⟩, _⟩ := ok.ns
  obtain ⟨w, o, ho', hd⟩ := ok.cells p hp
  rw [q, ho] at ho'; cases ho'; rw [hd] at hd'; cases hd'
theorem mem_of_look {α : Type} : ∀ {l : List (Str × α)} {x : Str} {c : α}, l.lookup x = some c → (x, c) ∈ l
  | [], _, _, h => by simp at h
  | (y, d) :: r, x, c, h => by
    rw [List.lookup_cons] at h
    cases q : x == y with
    | true => rw [q] at h; simp at h; subst h; rw [beq_iff_eq.mp q]; exact .head _
    | false => rw [q] at h; exact .tail _ (mem_of_look h)

/-- storing at the frame -/
theorem OK.setLocal {h h' : Heap} {x : Str} {v : Value} {e : Ent} {m : Str → Option Value} (ok : OK C X h₀ env ρ h) (hm : ∀ y e, ρ.lookup y = some e → env.kindOf y = some .local → ∃ v, m y = some v ∧ Is C X env h v e)
    (hl : env.kindOf x = some .local) (hn : h'.Ns env.locals (fun y => if y = x then some v else m y)) (hs : Heap.SameBut env.locals h h') (hv : Is C X env h v e) : OK C X h₀ env ((x, e) :: ρ) h' ∧ Pres env h h' := by
  have k : Pres env h h' := fun b o q sf => hs.extBut b o sf.1 q
  refine ⟨⟨⟨_, hn, fun y e' hy hk => ?_⟩, fun y e' hy hk => ?_, fun p hp => ?_, ok.apart, ok.low, fun b hb => ?_⟩, k⟩
  · rw [List.lookup_cons] at hy
    by_cases q : y = x
    · subst q; rw [beq_self_eq_true] at hy; cases hy; exact ⟨v, by rw [if_pos rfl], hv.pres ok k⟩
    · rw [beq_eq_false_iff_ne.mpr q] at hy
      obtain ⟨u, h1, h2⟩ := hm y e' hy hk
      exact ⟨u, by rw [if_neg q]; exact h1, h2.pres ok k⟩
  · have q : y ≠ x := fun q => by subst q; rw [hl] at hk; rcases hk with hk | hk <;> cases hk
    rw [List.lookup_cons, beq_eq_false_iff_ne.mpr q] at hy
    obtain ⟨c, u, h1, h2, h3⟩ := ok.cl y e' hy hk
    exact ⟨c, u, h1, h2.sameBut hs (ok.nsNotCell _ (mem_of_look h1)), h3.pres ok k⟩
  · obtain ⟨u, hu⟩ := ok.cells p hp
    exact ⟨u, hu.sameBut hs (ok.nsNotCell p hp)⟩
  · obtain ⟨o, ho⟩ := ok.off b hb
    by_cases q : b = env.locals
    · obtain ⟨o', _, _, ho', _⟩ := hn; exact ⟨o', q ▸ ho'⟩
    · exact ⟨o, hs.extBut b o q ho⟩
theorem OK.setCell {h h' : Heap} {x : Str} {c : Addr} {v : Value} {e : Ent} (ok : OK C X h₀ env ρ h) (hl : env.kindOf x = some .cell) (hc : env.cells.lookup x = some c) (hcv : h'.IsCell c (some v)) (hs : Heap.SameBut c h h') (hv : Is C X env h v e) : OK C X h₀ env ((x, e) :: ρ) h' ∧ Pres env h h' := by
  have hmc := mem_of_look hc
  have k : Pres env h h' := fun b o q sf => hs.extBut b o (sf.2 _ hmc) q
  obtain ⟨m, hn, hm⟩ := ok.ns
  refine ⟨⟨⟨m, hn.sameBut hs (Ne.symm (ok.nsNotCell _ hmc)), fun y e' hy hk => ?_⟩, fun y e' hy hk => ?_, fun p hp => ?_, ok.apart, ok.low, fun b hb => ?_⟩, k⟩
  · have q : y ≠ x := fun q => by subst q; rw [hl] at hk; cases hk
    rw [List.lookup_cons, beq_eq_false_iff_ne.mpr q] at hy
    obtain ⟨u, h1, h2⟩ := hm y e' hy hk
    exact ⟨u, h1, h2.pres ok k⟩
  · rw [List.lookup_cons] at hy
    by_cases q : y = x
    · subst q; rw [beq_self_eq_true] at hy; cases hy; exact ⟨c, v, hc, hcv, hv.pres ok k⟩
    · rw [beq_eq_false_iff_ne.mpr q] at hy
      obtain ⟨c', u, h1, h2, h3⟩ := ok.cl y e' hy hk
      exact ⟨c', u, h1, h2.sameBut hs (fun z => q (ok.apart _ _ _ h1 (z ▸ hc))), h3.pres ok k⟩
  · by_cases q : p.2 = c
    · exact ⟨some v, q ▸ hcv⟩
    · obtain ⟨u, hu⟩ := ok.cells p hp
      exact ⟨u, hu.sameBut hs q⟩
  · obtain ⟨o, ho⟩ := ok.off b hb
    by_cases q : b = c
    · obtain ⟨o', ho', _⟩ := hcv; exact ⟨o', q ▸ ho'⟩
    · exact ⟨o, hs.extBut b o q ho⟩

theorem as_local {x : Str} {pos : Pos} {e : Ent} (hk : env.scope.kind = .function) (hl : env.kindOf x = some .local) : As prog w C X h₀ A env ρ (.Name x pos) e ((x, e) :: ρ) := by
  intro s Q E v g ok hv hQ
  obtain ⟨m, hn, hm⟩ := ok.ns
  refine wpAny_assign_Name (wpAny_storeName_local hl hn (fun h' hn' hs => ?_) (by rw [hk]; rfl))
  obtain ⟨a, b⟩ := ok.setLocal hm hl hn' hs hv
  exact hQ h' _ b a
theorem as_cell {x : Str} {pos : Pos} {e : Ent} {c : Addr} (hk : env.scope.kind = .function) (hl : env.kindOf x = some .cell) (hc : env.cells.lookup x = some c) : As prog w C X h₀ A env ρ (.Name x pos) e ((x, e) :: ρ) := by
  intro s Q E v g ok hv hQ
  obtain ⟨v₀, hv₀⟩ := ok.cells _ (mem_of_look hc)
  refine wpAny_assign_Name (wpAny_storeName_cell hk hl hc hv₀ fun h' hc' hs => ?_)
  obtain ⟨a, b⟩ := ok.setCell hl hc hc' hs hv
  exact hQ h' s.toks b a
theorem asL_nil : AsL prog w C X h₀ A env ρ [] [] ρ := by
  intro s Q E vs g ok hv hQ
  exact assignInOrder_nil (hQ s.heap s.toks (Pres.refl _ _) ok)
theorem asL_cons {t : Expr} {ts : List Expr} {e : Ent} {es : List Ent} (h1 : As prog w C X h₀ A env ρ t e ρ') (h2 : AsL prog w C X h₀ A env ρ' ts es ρ'') (he : assignEach (t :: ts) env = (false, assign t env) :: assignEach ts env) : AsL prog w C X h₀ A env ρ (t :: ts) (e :: es) ρ'' := by
  intro s Q E vs g ok hv hQ
  cases hv with
  | cons x r =>
    rw [he]
    exact assignInOrder_cons (h1 s _ E _ g ok x fun h' tk' k ok' => h2 _ Q E _ (k.low ok g) ok' (r.pres ok k) fun h'' tk'' k' ok'' => hQ h'' tk'' (k.trans k') ok'')
theorem as_tuple {ts : List Expr} {n : Nat} {pos : Pos} {ds : List Dat} (hh : A.handled = none) (h : AsL prog w C X h₀ A env ρ ts (ds.map .dat) ρ') (hn : (assignEach ts env).length = ds.length) (hstar : (assignEach ts env).findIdx? (·.1) = none) :
    As prog w C X h₀ A env ρ (.Tuple ts n pos) (.dat (.tuple ds)) ρ' := by
  intro s Q E v g ok hv hQ
  cases hv with
  | tup na e r =>
    rename_i a vs k
    refine assign_Tuple_tuple hh (tupIs e) (by rw [hn, List.size_toArray, r.length]) hstar fun h' hx => ?_
    have x : Ext s.heap h' := fun b o q => hx b o (Nat.ne_of_lt (Heap.lt_size q)) q
    exact h { s with heap := h' } Q E _ (g.trans x) (ok.ext x) (VA_forall (r.mono x.seq)) fun h'' tk'' k' ok'' => hQ h'' tk'' (x.pres.trans k') ok''

theorem exb_nil : ExB prog w C X h₀ A env ρ [] (.next ρ) := fun s _ _ _ ok hQ => wpAny_execs_nil (hQ .next s.heap s.toks (Pres.refl _ _) ⟨rfl, ok⟩)
theorem exb_next {st : Stmt} {rest : List Stmt} {o : Outc} (h1 : ExS prog w C X h₀ A env ρ st (.next ρ')) (h2 : ExB prog w C X h₀ A env ρ' rest o) : ExB prog w C X h₀ A env ρ (st :: rest) o := by
  intro s Q E g ok hQ
  refine wpAny_execs_cons (h1 s _ E g ok fun f h' tk' k q => ?_)
  obtain ⟨rfl, ok'⟩ := q
  exact h2 _ Q E (k.low ok g) ok' fun f h'' tk'' k' q' => hQ f h'' tk'' (k.trans k') q'
theorem exb_ret {st : Stmt} {rest : List Stmt} {d : Dat} (h1 : ExS prog w C X h₀ A env ρ st (.ret d)) : ExB prog w C X h₀ A env ρ (st :: rest) (.ret d) := by
  intro s Q E g ok hQ
  refine wpAny_execs_cons (h1 s _ E g ok fun f h' tk' k q => ?_)
  obtain ⟨v, rfl, hv⟩ := q
  exact hQ _ h' tk' k ⟨v, rfl, hv⟩
theorem exs_return {x : Expr} {pos : Pos} {d : Dat} (h : Ev prog w C X h₀ A env ρ x (.dat d)) : ExS prog w C X h₀ A env ρ (.Return (some x) pos) (.ret d) := by
  intro s Q E g ok hQ
  exact wpAny_Return_some (h s _ E g ok fun v h' tk' k i => hQ _ h' tk' k.pres ⟨v, rfl, i⟩)
theorem exs_if {t : Expr} {body orelse : List Stmt} {pos : Pos} {b : Bool} {o : Outc} (ht : Tr prog w C X h₀ A env ρ t b) (h1 : b = true → ExB prog w C X h₀ A env ρ body o) (h2 : b = false → ExB prog w C X h₀ A env ρ orelse o) : ExS prog w C X h₀ A env ρ (.If t body orelse pos) o := by
  intro s Q E g ok hQ
  refine wpAny_If (ht s _ E g ok fun h' tk' k => ?_)
  cases b with
  | true => exact h1 rfl _ Q E (g.trans k) (ok.ext k) fun f h'' tk'' k' q => hQ f h'' tk'' (k.pres.trans k') q
  | false => exact h2 rfl _ Q E (g.trans k) (ok.ext k) fun f h'' tk'' k' q => hQ f h'' tk'' (k.pres.trans k') q
theorem exs_assign {t x : Expr} {pos : Pos} {e : Ent} (hx : Ev prog w C X h₀ A env ρ x e) (ht : As prog w C X h₀ A env ρ t e ρ') (hs : swapsWithSole [t] x pos.line env = pure false) (hw : swappedStores [t] x env = pure none) (he : (assignEach [t] env).map (·.2) = [assign t env]) : ExS prog w C X h₀ A env ρ (.Assign [t] x pos) (.next ρ') := by
  intro s Q E g ok hQ
  rw [exec_Assign]
  refine wpAny_bind (wpAny_standAt ?_)
  rw [hs]
  refine wpAny_bind (wpAny_pure ?_)
  rw [if_neg (by decide)]
  refine wpAny_bind (hx s _ E g ok fun v h₁ t₁ k₁ i₁ => ?_)
  rw [hw]
  refine wpAny_bind (wpAny_pure ?_)
  rw [he]
  show wpAny _ A (do assignAll v [assign t env]; pure .next) Q E _
  exact wpAny_bind (ht _ _ E v (g.trans k₁) (ok.ext k₁) i₁ fun h₂ t₂ k₂ ok₂ => wpAny_pure (hQ .next h₂ t₂ (k₁.pres.trans k₂) ⟨rfl, ok₂⟩))
end
structure Room (A : Around) (n : Nat) : Prop where
  hh : A.handled = none
  depth : A.depth + n < recursionLimit
  units : A.units + 8 * n + 100 < cLine
theorem Room.deeper {A : Around} {n : Nat} (r : Room A (n + 1)) (env : Env) : Room (A.deeper env) n := by
  obtain ⟨a, b, c⟩ := r
  refine ⟨a, ?_, ?_⟩
  · show A.depth + 1 + n < _; omega
  · show A.units + 3 + 8 * n + 100 < _; omega
theorem Room.le {A : Around} {n k : Nat} (r : Room A n) (h : k ≤ n) : Room A k := ⟨r.hh, by have := r.depth; omega, by have := r.units; omega⟩
theorem Room.eq {A : Around} {n : Nat} (r : Room A n) : A.units + 64 < cLine := by have := r.units; omega

theorem Is.shift {C : Addr} {X : Addr → Prop} {env env' : Env} {h h' : Heap} {v : Value} {e : Ent} (x : Is C X env h v e) (k : Ext h h') (hs : ∀ b, b < h.objs.size → Safe env' b) : Is C X env' h' v e := by
  cases e with
  | dat d => exact V.mono k.seq x
  | «at» a d => exact ⟨x.1, V.mono k.seq x.2⟩
  | raw u => exact x
  | told => obtain ⟨a, rfl, t⟩ := x; exact ⟨a, rfl, t.keep (fun b o e _ => k b o e) fun b hb q => ⟨hs b hb, q.2⟩⟩

theorem zip_look {C : Addr} {X : Addr → Prop} {env : Env} {h : Heap} {x : Str} {e : Ent} : ∀ {ns : List Str} {vs : List Value} {es : List Ent}, IsAll C X env h vs es → (ns.zip es).lookup x = some e → ∃ v, (ns.zip vs).lookup x = some v ∧ Is C X env h v e
  | [], _, _, _, hl => by simp at hl
  | n :: ns, _, _, .nil, hl => by simp at hl
  | n :: ns, _, _, .cons a r, hl => by
    rw [List.zip_cons_cons, List.lookup_cons] at hl ⊢
    cases q : x == n with
    | true => rw [q] at hl; cases hl; exact ⟨_, rfl, a⟩
    | false => rw [q] at hl; exact zip_look r hl
theorem bindL_skip {kindOf : Str → Option NameKind} {x : Str} : ∀ (bs : List (Str × Value)) (m : Str → Option Value), x ∉ bs.map (·.1) → bindL kindOf bs m x = m x
  | [], _, _ => rfl
  | (n, v) :: r, m, h => by
    unfold bindL
    rw [bindL_skip r _ fun q => h (.tail _ q)]
    split
    · have : x ≠ n := fun q => h (q ▸ .head _)
      simp [this]
    · rfl
theorem bindC_skip {kindOf : Str → Option NameKind} {x : Str} : ∀ (bs : List (Str × Value)) (m : Str → Option Value), x ∉ bs.map (·.1) → bindC kindOf bs m x = m x
  | [], _, _ => rfl
  | (n, v) :: r, m, h => by
    unfold bindC
    rw [bindC_skip r _ fun q => h (.tail _ q)]
    split
    · rfl
    · have : x ≠ n := fun q => h (q ▸ .head _)
      simp [this]
theorem bindL_look {kindOf : Str → Option NameKind} {x : Str} {v : Value} (hk : kindOf x = some .local) : ∀ (bs : List (Str × Value)) (m : Str → Option Value), (bs.map (·.1)).Nodup → bs.lookup x = some v → bindL kindOf bs m x = some v
  | [], _, _, hl => by simp at hl
  | (n, u) :: r, m, hn, hl => by
    rw [List.map_cons, List.nodup_cons] at hn
    unfold bindL
    rw [List.lookup_cons] at hl
    by_cases q : x = n
    · subst q
      rw [beq_self_eq_true] at hl; cases hl
      rw [bindL_skip r _ hn.1, if_pos hk]; simp
    · rw [beq_eq_false_iff_ne.mpr q] at hl
      exact bindL_look hk r _ hn.2 hl
theorem bindC_look {kindOf : Str → Option NameKind} {x : Str} {v : Value} (hk : kindOf x = some .cell) : ∀ (bs : List (Str × Value)) (m : Str → Option Value), (bs.map (·.1)).Nodup → bs.lookup x = some v → bindC kindOf bs m x = some v
  | [], _, _, hl => by simp at hl
  | (n, u) :: r, m, hn, hl => by
    rw [List.map_cons, List.nodup_cons] at hn
    unfold bindC
    rw [List.lookup_cons] at hl
    by_cases q : x = n
    · subst q
      rw [beq_self_eq_true] at hl; cases hl
      rw [bindC_skip r _ hn.1, if_neg (by rw [hk]; decide)]; simp
    · rw [beq_eq_false_iff_ne.mpr q] at hl
      exact bindC_look hk r _ hn.2 hl
theorem zip_names : ∀ {ns : List Str} {vs : List Value}, ns.length = vs.length → (ns.zip vs).map (·.1) = ns
  | [], [], _ => rfl
  | n :: ns, v :: vs, h => by rw [List.zip_cons_cons, List.map_cons, zip_names (by simpa using h)]
theorem IsAll.length {C : Addr} {X : Addr → Prop} {env : Env} {h : Heap} : ∀ {vs : List Value} {es : List Ent}, IsAll C X env h vs es → vs.length = es.length
  | _, _, .nil => rfl
  | _, _, .cons _ r => by rw [List.length_cons, List.length_cons, r.length]

section
variable {prog : Program} {w : World} {C : Addr} {X : Addr → Prop} {h₀ : Heap} {A : Around} {env : Env} {ρ : List (Str × Ent)}
/-- the frame at its start -/
theorem OK.start {s s₁ : Shared} {env' : Env} {names : List Str} {xs : List Value} {es : List Ent} (g : Ext h₀ s.heap) (off : ∀ b, X b → ∃ o, s.heap.get? b = some o) (hL : env'.locals = s.heap.objs.size)
    (x : InCallC s env'.locals (bindL env'.kindOf (names.zip xs) fun _ => none) env'.cells (bindC env'.kindOf (names.zip xs) fun _ => none) s₁)
    (hx : IsAll C X env s.heap xs es) (hlen : names.length = es.length) (hnd : names.Nodup) (hfree : ∀ p ∈ names, env'.kindOf p ≠ some .free) (hcl : ∀ p ∈ env'.cells, env'.cells.lookup p.1 = some p.2)
    (hcc : ∀ p ∈ names, env'.kindOf p = some .cell → ∃ c, env'.cells.lookup p = some c) : OK C X h₀ env' (names.zip es) s₁.heap := by
  have k : Ext s.heap s₁.heap := x.toInCall.keep
  have sf : ∀ b, b < s.heap.objs.size → Safe env' b := fun b hb => ⟨fun q => by rw [q, hL] at hb; exact Nat.lt_irrefl _ hb, fun p hp q => by
    have := x.above p.1 p.2 hp
    rw [q] at hb
    rw [hL] at this
    exact Nat.lt_irrefl _ (Nat.lt_trans hb this)⟩
  have hz : (names.zip xs).map (·.1) = names := zip_names (by rw [hlen, hx.length])
  have mem : ∀ {y : Str} {e : Ent}, (names.zip es).lookup y = some e → y ∈ names := fun hy => (List.of_mem_zip (mem_of_look hy)).1
  refine ⟨⟨_, x.toInCall.ns, fun y e hy hk => ?_⟩, fun y e hy hk => ?_, fun p hp => ⟨_, x.cell p.1 p.2 (hcl p hp)⟩, fun a b c ha hb => ?_, fun b o e => sf b (Heap.lt_size (g b o e)), fun b hb => (off b hb).imp fun o e => k b o e⟩
  · obtain ⟨v, h1, h2⟩ := zip_look hx hy
    exact ⟨v, bindL_look hk _ _ (by rw [hz]; exact hnd) h1, h2.shift k sf⟩
  · rcases hk with hk | hk
    · obtain ⟨v, h1, h2⟩ := zip_look hx hy
      obtain ⟨c, hc⟩ := hcc y (mem hy) hk
      have := x.cell y c hc
      rw [bindC_look hk _ _ (by rw [hz]; exact hnd) h1] at this
      exact ⟨c, v, hc, this, h2.shift k sf⟩
    · exact absurd hk (hfree y (mem hy))
  · exact name_of_addr x.apart (mem_of_look ha) (mem_of_look hb)

theorem call_fn {a : Addr} {o : Obj} {fd : FuncData} {body : List Stmt} {names : List Str} {xs vals : List Value} {es : List Ent} {d : Dat} {s : Shared} {Q : Value → Shared → Prop} {E : Value → Shared → Prop}
    (hA : A.depth < recursionLimit) (ho : h₀.get? a = some o) (hdata : o.data = .func fd) (hlim : h₀.NoLimit) (hcd : h₀.CodeRec fd.code fd.qualname) (hbody : fd.body = .stmts body) (hclo : fd.closure = [])
    (hbind : BindsTo s fd ⟨vals, []⟩ (names.zip xs)) (hx : IsAll C X env s.heap xs es) (hlen : names.length = es.length) (hnd : names.Nodup)
    (hnames : (names.all fun x => fd.scope.names.lookup x == some .local || (fd.scope.names.lookup x == some .cell && ((cellsFrom 0 fd.scope.names []).lookup x).isSome)) = true)
    (hndc : ((cellsFrom 0 fd.scope.names []).map (·.1)).Nodup)
    (hb : ∀ L, ExB prog w C X h₀ (A.deeper (callEnvC fd L a)) (callEnvC fd L a) (names.zip es) body (.ret d)) (g : Ext h₀ s.heap) (off : ∀ b, X b → ∃ o, s.heap.get? b = some o)
    (hQ : ∀ v h' tk', Ext s.heap h' → V X h' v d → Q v { s with heap := h', toks := tk' })
    (hco : fd.scope.isCoroutine = false := by rfl) (hgen : fd.scope.isGenerator = false := by rfl) (hk : fd.scope.kind = .function := by rfl) : wpAny (model prog w) A (call (.ref a) vals) Q E s := by
  have cf : ∀ n x, ((cellsFrom 0 fd.scope.names []).lookup x).isSome = true → ((cellsFrom n fd.scope.names []).lookup x).isSome = true := by
    intro n x hx
    have e1 : (cellsFrom n fd.scope.names []).map (·.1) = (cellsFrom 0 fd.scope.names []).map (·.1) := cellsFrom_names fd.scope.names n 0 [] [] rfl
    obtain ⟨c, hc⟩ := Option.isSome_iff_exists.mp hx
    have hm : x ∈ (cellsFrom n fd.scope.names []).map (·.1) := e1 ▸ List.mem_map.mpr ⟨_, mem_of_look hc, rfl⟩
    obtain ⟨p, hp, rfl⟩ := List.mem_map.mp hm
    exact Option.isSome_iff_exists.mpr ⟨p.2, lookup_of_mem_nodup (e1 ▸ hndc) hp⟩
  have hk' : ∀ x ∈ names, fd.scope.names.lookup x = some .local ∨ (fd.scope.names.lookup x = some .cell ∧ ∀ n, ((cellsFrom n fd.scope.names []).lookup x).isSome = true) := by
    intro x hx'
    have := List.all_eq_true.mp hnames x hx'
    rcases Bool.or_eq_true_iff.mp this with q | q
    · exact .inl (by simpa using q)
    · rw [Bool.and_eq_true] at q
      exact .inr ⟨by simpa using q.1, fun n => cf n x q.2⟩
  have hz : (names.zip xs).map (·.1) = names := zip_names (by rw [hlen, hx.length])
  refine wpAny_call (codeAny_call_function hA (g a o ho) hdata hco hgen hbody (hcd.keeps g) (hbind _ _ _ _ ?_))
  rw [hclo]
  refine wpAny_newFunctionEnv_cells hk (fun y hy => ?_) fun env' he s' x => ?_
  · have hy' : y.1 ∈ names := hz ▸ List.mem_map_of_mem hy
    exact (hk' y.1 hy').imp id fun q => ⟨q.1, q.2 _⟩
  subst he
  refine ⟨(hlim.keeps g).keeps x.toInCall.keep, codeAny_func ?_⟩
  have hcl : ∀ p ∈ (callEnvC fd s.heap.objs.size a).cells, (callEnvC fd s.heap.objs.size a).cells.lookup p.1 = some p.2 := fun p hp =>
    lookup_of_mem_nodup (cellsFrom_names fd.scope.names 0 (s.heap.objs.size + 1) [] [] rfl ▸ hndc) hp
  have ok : OK C X h₀ (callEnvC fd s.heap.objs.size a) (names.zip es) s'.heap := by
    refine OK.start (env := env) g off rfl x hx hlen hnd (fun y hy q => ?_) hcl fun y hy q => ?_
    · rcases hk' y hy with z | z
      · have : (callEnvC fd s.heap.objs.size a).kindOf y = some .local := z
        rw [q] at this; cases this
      · have : (callEnvC fd s.heap.objs.size a).kindOf y = some .cell := z.1
        rw [q] at this; cases this
    · rcases hk' y hy with z | z
      · have : (callEnvC fd s.heap.objs.size a).kindOf y = some .local := z
        rw [q] at this; cases this
      · exact Option.isSome_iff_exists.mp (z.2 _)
  obtain ⟨h₁, tk₁, rfl, hk₁⟩ := x.done
  refine hb s.heap.objs.size _ _ _ (g.trans hk₁) ok fun f h' tk' k q => ?_
  obtain ⟨v, rfl, hv⟩ := q
  refine hQ v h' tk' (fun b o' e => k b o' (hk₁ b o' e) ?_) hv
  have hlt := Heap.lt_size e
  exact ⟨fun q => by rw [q] at hlt; exact Nat.lt_irrefl _ hlt, fun p hp q => by
    have := x.above p.1 p.2 hp
    rw [q] at hlt
    exact Nat.lt_irrefl _ (Nat.lt_trans hlt this)⟩
end
/-- all but the iterator's own cells is kept -/
abbrev But (wr : List Addr) (h h' : Heap) : Prop := ∀ b o, b ∉ wr → h.get? b = some o → h'.get? b = some o
def Flds (wr : List Addr) (h : Heap) : Prop := ∀ b ∈ wr, ∃ o fs, h.get? b = some o ∧ o.data = .fields fs

section
variable {C : Addr} {X : Addr → Prop} {h₀ : Heap} {env : Env} {ρ ρ' : List (Str × Ent)} {h h' : Heap} {v : Value} {e : Ent} {wr : List Addr}
theorem But.seq (k : But wr h h') (f : Flds wr h) : SeqExt X h h' := fun b o _ e hs => k b o (fun hb => by
  obtain ⟨o', fs, h1, h2⟩ := f b hb
  obtain ⟨vs, n, hd⟩ := hs
  rw [e] at h1; cases h1; rw [hd] at h2; cases h2) e
theorem Is.but (x : Is C X env h v e) (k : But wr h h') (f : Flds wr h) : Is C X env h' v e := by
  cases e with
  | dat d => exact V.mono (k.seq f) x
  | «at» a d => exact ⟨x.1, V.mono (k.seq f) x.2⟩
  | raw u => exact x
  | told =>
    obtain ⟨a, rfl, dx, l, t, ky, kt, n, k', q, u, u', e1, e2, e3, e4, r⟩ := x
    have no : ∀ {b : Addr} {o : Obj}, h.get? b = some o → (∀ fs, o.data ≠ .fields fs) → h'.get? b = some o := fun {b o} e hd => k b o (fun hb => by
      obtain ⟨o', fs, h1, h2⟩ := f b hb
      rw [e] at h1; cases h1; exact hd fs h2) e
    exact ⟨a, rfl, dx, l, t, ky, kt, n, k', q, u, u', no e1 (fun _ z => by cases z), no e2 (fun _ z => by cases z), no e3 (fun _ z => by cases z), no e4 (fun _ z => by cases z), r⟩
theorem OK.but (x : OK C X h₀ env ρ h) (k : But wr h h') (f : Flds wr h) (hX : ∀ b ∈ wr, ¬ X b) : OK C X h₀ env ρ h' := by
  obtain ⟨⟨m, hn, hm⟩, hc, hcs, ha, hl, ho⟩ := x
  have no : ∀ {b : Addr} {o : Obj}, h.get? b = some o → (∀ fs, o.data ≠ .fields fs) → h'.get? b = some o := fun {b o} e hd => k b o (fun hb => by
    obtain ⟨o', fs, h1, h2⟩ := f b hb
    rw [e] at h1; cases h1; exact hd fs h2) e
  refine ⟨⟨m, ?_, fun y e hy hk => ?_⟩, fun y e hy hk => ?_, fun p hp => ?_, ha, hl, fun b hb => ?_⟩
  · obtain ⟨o, es, ep, q1, q2, q3⟩ := hn
    exact ⟨o, es, ep, no q1 (fun fs z => by rw [q2] at z; cases z), q2, q3⟩
  · obtain ⟨v, e1, e2⟩ := hm y e hy hk; exact ⟨v, e1, e2.but k f⟩
  · obtain ⟨c, v, e1, ⟨o, q1, q2⟩, e3⟩ := hc y e hy hk; exact ⟨c, v, e1, ⟨o, no q1 (fun fs z => by rw [q2] at z; cases z), q2⟩, e3.but k f⟩
  · obtain ⟨v, o, q1, q2⟩ := hcs p hp; exact ⟨v, o, no q1 (fun fs z => by rw [q2] at z; cases z), q2⟩
  · obtain ⟨o, q1⟩ := ho b hb; exact ⟨o, k b o (fun q => hX b q hb) q1⟩
theorem OK.sub (x : OK C X h₀ env ρ h) (hs : ∀ y e, ρ'.lookup y = some e → ρ.lookup y = some e) : OK C X h₀ env ρ' h := by
  obtain ⟨⟨m, hn, hm⟩, hc, hcs, ha, hl, ho⟩ := x
  exact ⟨⟨m, hn, fun y e hy => hm y e (hs y e hy)⟩, fun y e hy => hc y e (hs y e hy), hcs, ha, hl, ho⟩
end

/-- what an iterator gives, item by item -/
structure It (prog : Program) (w : World) (A : Around) (X : Addr → Prop) (t : Expr) (I : Addr) (wr : List Addr) (n : Nat) (St : Nat → Heap → Prop) (D : Nat → Dat) : Prop where
  flds : ∀ i h, St i h → Flds wr h
  frame : ∀ i h h', St i h → SeqExt X h h' → (∀ b ∈ wr, ∀ o, h.get? b = some o → h'.get? b = some o) → St i h'
  item : ∀ i (s : Shared) (Q : Value → Shared → Prop) (E : Value → Shared → Prop), i < n → St i s.heap → (∀ b, X b → ∃ o, s.heap.get? b = some o) →
    (∀ v h' tk, But wr s.heap h' → St (i + 1) h' → V X h' v (D i) → Q v { s with heap := h', toks := tk }) →
    wpAny (model prog w) A (pyNext (.ref I)) (fun r s₁ => ∃ v, r = some v ∧ wpAny (model prog w) A (letOwnedTupleGo t (.ref I) v) (fun _ s₂ => Q v s₂) E s₁) E s
  done : ∀ (s : Shared) (Q : Option Value → Shared → Prop) (E : Value → Shared → Prop), St n s.heap → (∀ h' tk, But wr s.heap h' → Q none { s with heap := h', toks := tk }) → wpAny (model prog w) A (pyNext (.ref I)) Q E s
  self : ∀ i (s : Shared) (Q : Value → Shared → Prop) (E : Value → Shared → Prop), St i s.heap → Q (.ref I) s → wpAny (model prog w) A (pyIter (.ref I)) Q E s

section
variable {prog : Program} {w : World} {C : Addr} {X : Addr → Prop} {h₀ : Heap} {A : Around} {env : Env} {ρ ρ' : List (Str × Ent)}

def plainTarget : Expr → Bool
  | .Name .. => true
  | .Tuple .. => true
  | _ => false
theorem letOwned_list {t : Expr} (ht : plainTarget t = true) {I l : Addr} {i : Nat} {v : Value} {s : Shared} {Q : Unit → Shared → Prop} {E : Value → Shared → Prop} (hit : s.heap.IsListIter I l i) (hQ : Q () s) :
    wpAny (model prog w) A (letOwnedTupleGo t (.ref I) v) Q E s := by
  cases t <;> first | (simp [plainTarget] at ht; done) | (exact wpAny_pure hQ) | skip
  cases v <;> first | exact wpAny_letOwnedTupleGo_listiter hit hQ | exact wpAny_pure hQ

theorem It.list (hh : A.handled = none) {t : Expr} (ht : plainTarget t = true) {I l : Addr} {ws : List Value} {n : Nat} {ds : List Dat} (hne : l ≠ I) (hX : ¬ X l) :
    It prog w A X t I [I] ds.length (fun i h => h.IsListIter I l i ∧ h.get? l = some (W.listOf ws.toArray n) ∧ VA X h ws ds) (fun i => ds.getD i Dat.none) where
  flds := fun i h st b hb => by
    rw [List.mem_singleton.mp hb]
    obtain ⟨⟨o, q1, q2, q3⟩, _⟩ := st
    exact ⟨o, _, q1, q3⟩
  frame := fun i h h' st k k' => by
    obtain ⟨⟨o, q1, q2, q3⟩, hl, va⟩ := st
    exact ⟨⟨o, k' I (List.mem_singleton.mpr rfl) o q1, q2, q3⟩, k l _ hX hl ⟨_, _, rfl⟩, va.mono k⟩
  item := fun i s Q E hi st off hQ => by
    obtain ⟨hit, hl, va⟩ := st
    have hd : ds[i]? = some (ds.getD i Dat.none) := by rw [List.getD_eq_getElem?_getD, List.getElem?_eq_getElem hi]; rfl
    obtain ⟨v, hv, hV⟩ := va.get hd
    refine wpAny_pyNext_list_item hit (lstIs hl) (by simpa using hv) fun h' hit' hs' => ⟨v, rfl, ?_⟩
    have k : But [I] s.heap h' := fun b o hb e => hs'.extBut b o (fun q => hb (List.mem_singleton.mpr q)) e
    have f : Flds [I] s.heap := fun b hb => by
      rw [List.mem_singleton.mp hb]
      obtain ⟨o, q1, q2, q3⟩ := hit
      exact ⟨o, _, q1, q3⟩
    have kk : SeqExt X s.heap h' := k.seq f
    exact letOwned_list ht hit' (hQ v h' s.toks k ⟨hit', kk l _ hX hl ⟨_, _, rfl⟩, va.mono kk⟩ (hV.mono kk))
  done := fun s Q E st hQ => by
    obtain ⟨hit, hl, va⟩ := st
    have hx : ws.toArray[ds.length]? = none := by rw [List.getElem?_toArray, List.getElem?_eq_none_iff, va.length]; exact Nat.le_refl _
    exact wpAny_pyNext_list_end hh hit (lstIs hl) hx fun h' k => hQ h' s.toks fun b o hb e => k b o (fun q => hb (List.mem_singleton.mpr q)) e
  self := fun i s Q E st hQ => wpAny_pyIter_listiter st.1 hQ
end
section
variable {prog : Program} {w : World} {C : Addr} {X : Addr → Prop} {h₀ : Heap} {A : Around} {env : Env} {ρ ρ' : List (Str × Ent)}

def forK (prog : Program) (w : World) (A : Around) (R : Result → Shared → Prop) (target : Expr) (body : List Stmt) (env : Env) (Inv : Nat → Shared → Prop) (n : Nat) (E' : Value → Shared → Prop) (v : Value) (s : Shared) : Prop :=
  wpAny (model prog w) A (assign target env v) (fun _ s₂ => wpAny (model prog w) A (execs body env) (fun f s₃ => match f with
          | .next | .cont => ∃ m, m < n ∧ Inv m s₃
          | .brk => R (.ok .next) s₃
          | .ret v => R (.ok (.ret v)) s₃) E' s₂) E' s
theorem my_forLoop {s : Shared} {R : Result → Shared → Prop} {target : Expr} {it : Value} {body : List Stmt} {env : Env} (Inv : Nat → Shared → Prop)
    (turn : ∀ n s, Inv n s → ∀ E' : Value → Shared → Prop, wpAny (model prog w) A (pyNext it) (fun r s₁ => match r with
      | none => R (.ok .next) s₁
      | some v => wpAny (model prog w) A (letOwnedTupleGo target it v) (fun _ s₁' => forK prog w A R target body env Inv n E' v s₁') E' s₁) E' s)
    (n : Nat) (h : Inv n s) : codeAny (model prog w) A (.forLoop target it body [] env) R s := by
  refine codeAny_loop' rfl Inv (fun n s hI => ?_) n h
  show wpAny _ _ ((forTurn target it body [] env).onRaise (fun x => do noteFrame x env; theTreesLotGoes x)) _ _ s
  refine wpAny_noted ?_
  simp only [forTurn]
  refine wpAny_bind (wpAny_standAt (wpAny_bind (wpAny_onRaise (wpAny_mono (turn n s hI _) (fun r s₁ h₁ => ?_) fun _ _ h' => wpAny_standAt h'))))
  cases r with
  | none => exact wpAny_pure (.inr ⟨rfl, codeAny_block (wpAny_execs_nil h₁)⟩)
  | some v =>
    refine wpAny_bind (wpAny_mono h₁ (fun _ s₁' h₁' => ?_) fun _ _ h' => h')
    refine wpAny_bind (wpAny_mono h₁' (fun _ s₂ h₂ => wpAny_bind (wpAny_mono h₂ (fun f s₃ h₃ => ?_) fun _ _ h' => h')) fun _ _ h' => h')
    cases f with
    | next => exact wpAny_pure (.inl ⟨rfl, h₃⟩)
    | cont => exact wpAny_pure (.inl ⟨rfl, h₃⟩)
    | brk => exact wpAny_pure h₃
    | ret v => exact wpAny_pure h₃

def ForInv (C : Addr) (X : Addr → Prop) (h₀ : Heap) (env : Env) (n : Nat) (St : Nat → Heap → Prop) (ρs : Nat → List (Str × Ent)) (hb : Heap) (s : Shared) (k : Nat) (s' : Shared) : Prop :=
  ∃ i h' tk, s' = { s with heap := h', toks := tk } ∧ i ≤ n ∧ k = n + 1 - i ∧ St i h' ∧ OK C X h₀ env (ρs i) h' ∧ Pres env hb h'
theorem for_it {t : Expr} {I : Addr} {wr : List Addr} {n : Nat} {St : Nat → Heap → Prop} {D : Nat → Dat} {ρs : Nat → List (Str × Ent)} {body : List Stmt} {hb : Heap} (W : It prog w A X t I wr n St D)
    (hX : ∀ b ∈ wr, ¬ X b) (hwr : ∀ b ∈ wr, Safe env b) (hnew : ∀ b ∈ wr, hb.get? b = none)
    (turn : ∀ i, i < n → ∃ ρ1, As prog w C X h₀ A env (ρs i) t (.dat (D i)) ρ1 ∧ ExB prog w C X h₀ A env ρ1 body (.next (ρs (i + 1))))
    {s : Shared} {R : Result → Shared → Prop} (hbs : Pres env hb s.heap) (g0 : Ext h₀ hb) (ok : OK C X h₀ env (ρs 0) s.heap) (hst : St 0 s.heap)
    (hR : ∀ h' tk', Pres env hb h' → OK C X h₀ env (ρs n) h' → R (.ok .next) { s with heap := h', toks := tk' }) : codeAny (model prog w) A (.forLoop t (.ref I) body [] env) R s := by
  refine my_forLoop (ForInv C X h₀ env n St ρs hb s) ?_ (n + 1) ⟨0, s.heap, s.toks, rfl, Nat.zero_le _, rfl, hst, ok, hbs⟩
  rintro k s' ⟨i, h', tk, rfl, hi, rfl, hst', ok', hp⟩ E'
  have low : ∀ {h₁ : Heap}, Pres env hb h₁ → Ext h₀ h₁ := fun q b o e => q b o (g0 b o e) (ok.low b o e)
  have but : ∀ {h₁ : Heap}, But wr h' h₁ → Pres env hb h₁ := fun k b o e sf => k b o (fun hb' => by have := hnew b hb'; rw [e] at this; cases this) (hp b o e sf)
  by_cases hlt : i < n
  · obtain ⟨ρ1, h1, h2⟩ := turn i hlt
    refine wpAny_mono (W.item i _ (forK prog w A R t body env (ForInv C X h₀ env n St ρs hb s) (n + 1 - i) E') E' hlt hst' ok'.off fun v h₁ tk₁ kb st₁ hv => ?_) (fun r s₁ q => ?_) fun _ _ e => e
    · have ok₁ := ok'.but kb (W.flds i _ hst') hX
      unfold forK
      refine h1 _ _ E' v (low (but kb)) ok₁ hv fun h₂ tk₂ k₂ ok₂ => ?_
      refine h2 _ _ E' (k₂.low ok₁ (low (but kb))) ok₂ fun f h₃ tk₃ k₃ q => ?_
      obtain ⟨rfl, ok₃⟩ := q
      have k₁₃ : Pres env h₁ h₃ := k₂.trans k₃
      refine ⟨n + 1 - (i + 1), by omega, i + 1, h₃, tk₃, rfl, hlt, rfl, W.frame _ _ _ st₁ (fun b o _ e hs => k₁₃ b o e (ok₁.seqSafe e hs)) (fun b hb' o e => k₁₃ b o e (hwr b hb')), ok₃, (but kb).trans k₁₃⟩
    · obtain ⟨v, rfl, q⟩ := q
      exact q
  · obtain rfl : i = n := by omega
    refine W.done _ _ E' hst' fun h₁ tk₁ kb => ?_
    exact hR h₁ tk₁ (but kb) (ok'.but kb (W.flds _ _ hst') hX)

theorem fresh_safe {h : Heap} (ok : OK C X h₀ env ρ h) {a : Addr} (ha : h.objs.size ≤ a) : Safe env a ∧ ¬ X a ∧ h.get? a = none := by
  have none : h.get? a = none := by
    cases e : h.get? a with
    | none => rfl
    | some o => exact absurd (Heap.lt_size e) (Nat.not_lt.mpr ha)
  refine ⟨⟨fun q => ?_, fun p hp q => ?_⟩, fun q => ?_, none⟩
  · obtain ⟨m, ⟨o, _, _, e, _⟩, _⟩ := ok.ns
    rw [← q, none] at e; cases e
  · obtain ⟨v, o, e, _⟩ := ok.cells p hp
    rw [← q, none] at e; cases e
  · obtain ⟨o, e⟩ := ok.off _ q
    rw [none] at e; cases e

theorem exs_for {t x : Expr} {body : List Stmt} {pos : Pos} {ds : List Dat} {ρs : Nat → List (Str × Ent)} (hh : A.handled = none) (ht : plainTarget t = true) (hx : Ev prog w C X h₀ A env (ρs 0) x (.dat (.list ds)))
    (turn : ∀ i d, ds[i]? = some d → ∃ ρ1, As prog w C X h₀ A env (ρs i) t (.dat d) ρ1 ∧ ExB prog w C X h₀ A env ρ1 body (.next (ρs (i + 1))))
    (hs : ∀ y, foldedSetIterable x env y = pure y) : ExS prog w C X h₀ A env (ρs 0) (.For t x body [] pos) (.next (ρs ds.length)) := by
  intro s Q E g ok hQ
  refine wpAny_For (hx s _ E g ok fun v h₁ t₁ k₁ i₁ => ?_) hs
  cases i₁ with
  | lst na e r =>
    rename_i l ws n
    have ok₁ := ok.ext k₁
    refine wpAny_pyIter_list (lstIs e) ?_
    have fs := fresh_safe ok₁ (Nat.le_refl h₁.objs.size)
    have kk : Ext h₁ (h₁.push { cls := .type "list_iterator", data := .fields #[.ref l, .int 0 0] }) := fun b o e => Heap.get?_push_of_some _ e
    have hne : l ≠ h₁.objs.size := Nat.ne_of_lt (Heap.lt_size e)
    refine for_it (hb := h₁) (It.list hh ht hne na) (fun b hb => by rw [List.mem_singleton.mp hb]; exact fs.2.1) (fun b hb => by rw [List.mem_singleton.mp hb]; exact fs.1) (fun b hb => by rw [List.mem_singleton.mp hb]; exact fs.2.2) (fun i hi => ?_)
      kk.pres (g.trans k₁) (ok₁.ext kk) ⟨⟨_, Heap.get?_push_size _ rfl, rfl, rfl⟩, kk _ _ e, r.mono kk.seq⟩ fun h' tk' k' ok' => hQ .next h' tk' (k₁.pres.trans k') ⟨rfl, ok'⟩
    refine turn i _ ?_
    rw [List.getD_eq_getElem?_getD, List.getElem?_eq_getElem hi]; rfl
end
abbrev Also (X : Addr → Prop) (D : Addr) : Addr → Prop := fun b => X b ∨ b = D
mutual
theorem V.avoid {X : Addr → Prop} {h : Heap} {D : Addr} (hD : h.get? D = none) : ∀ {v : Value} {d : Dat}, V X h v d → V (Also X D) h v d
  | _, _, .none => .none
  | _, _, .bool b => .bool b
  | _, _, .int i t => .int i t
  | _, _, .tup x e r => .tup (fun q => q.elim x fun q => by rw [q, hD] at e; cases e) e (VA.avoid hD r)
  | _, _, .lst x e r => .lst (fun q => q.elim x fun q => by rw [q, hD] at e; cases e) e (VA.avoid hD r)
theorem VA.avoid {X : Addr → Prop} {h : Heap} {D : Addr} (hD : h.get? D = none) : ∀ {vs : List Value} {ds : List Dat}, VA X h vs ds → VA (Also X D) h vs ds
  | _, _, .nil => .nil
  | _, _, .cons x r => .cons (V.avoid hD x) (VA.avoid hD r)
end
mutual
theorem V.less {X : Addr → Prop} {h : Heap} {D : Addr} : ∀ {v : Value} {d : Dat}, V (Also X D) h v d → V X h v d
  | _, _, .none => .none
  | _, _, .bool b => .bool b
  | _, _, .int i t => .int i t
  | _, _, .tup x e r => .tup (fun q => x (.inl q)) e (VA.less r)
  | _, _, .lst x e r => .lst (fun q => x (.inl q)) e (VA.less r)
theorem VA.less {X : Addr → Prop} {h : Heap} {D : Addr} : ∀ {vs : List Value} {ds : List Dat}, VA (Also X D) h vs ds → VA X h vs ds
  | _, _, .nil => .nil
  | _, _, .cons x r => .cons (V.less x) (VA.less r)
end

def compK (prog : Program) (w : World) (A : Around) (elt target : Expr) (ifs : List Expr) (env : Env) (acc : Value) (Inv : Nat → Shared → Prop) (n : Nat) (E' : Value → Shared → Prop) (v : Value) (s : Shared) : Prop :=
  wpAny (model prog w) A (assign target env v) (fun _ s₂ =>
    wpAny (model prog w) A (forIn ifs true fun c r => if r = true then do let ok ← isTrue c env (eval c env); pure (ForInStep.yield ok) else pure (ForInStep.yield r)) (fun ok s₃ =>
      if ok = true then wpAny (model prog w) A (eval elt env) (fun x s₄ =>
        wpAny (model prog w) A (call (.builtin "list.append") [acc, x]) (fun _ s₅ => ∃ m, m < n ∧ Inv m s₅) E' s₄) E' s₃
      else ∃ m, m < n ∧ Inv m s₃) E' s₂) E' s

section
variable {prog : Program} {w : World} {C : Addr} {X : Addr → Prop} {h₀ : Heap} {A : Around} {env : Env} {ρ ρ' : List (Str × Ent)}
theorem my_compLoop {s : Shared} {R : Result → Shared → Prop} {elt target iter : Expr} {ifs : List Expr} {scope : Scope} {pos : Pos} {it acc : Value} {env : Env} (Inv : Nat → Shared → Prop)
    (turn : ∀ n s, Inv n s → ∀ E' : Value → Shared → Prop, wpAny (model prog w) A (pyNext it) (fun r s₁ => match r with
      | none => R (.ok .next) s₁
      | some v => wpAny (model prog w) A (letOwnedTupleGo target it v) (fun _ s₁' => compK prog w A elt target ifs env acc Inv n E' v s₁') E' s₁) E' s)
    (n : Nat) (h : Inv n s) : codeAny (model prog w) A (.compLoop (.ListComp elt [⟨target, iter, ifs, 0⟩] scope pos) 0 it acc env) R s := by
  refine codeAny_loop rfl Inv (fun n s hI => ?_) n h
  show wpAny _ A ((compTurn (.ListComp elt [⟨target, iter, ifs, 0⟩] scope pos) 0 it acc env).onRaise (fun x => do noteFrame x env; theTreesLotGoes x)) _ _ s
  refine wpAny_noted ?_
  rw [compTurn_list]
  refine wpAny_bind (wpAny_standAt (wpAny_bind (wpAny_mono (turn n s hI _) (fun r s₁ h₁ => ?_) fun _ _ h' => h')))
  cases r with
  | none => exact wpAny_pure h₁
  | some v =>
    refine wpAny_bind (wpAny_mono h₁ (fun _ s₁' h₁' => ?_) fun _ _ h' => h')
    refine wpAny_bind (wpAny_mono h₁' (fun _ s₂ h₂ => wpAny_bind (wpAny_mono h₂ (fun ok s₃ h₃ => ?_) fun _ _ h' => h')) fun _ _ h' => h')
    cases ok with
    | false => exact wpAny_pure ⟨rfl, h₃⟩
    | true =>
      exact wpAny_bind (wpAny_bind (wpAny_mono h₃ (fun x s₄ h₄ => wpAny_bind (wpAny_mono h₄ (fun _ s₅ h₅ => wpAny_pure (wpAny_pure ⟨rfl, h₅⟩)) fun _ _ h' => h')) fun _ _ h' => h'))

/-- a target of locals alone takes a value -/
abbrev ButL (env : Env) (h h' : Heap) : Prop := ∀ b o, b ≠ env.locals → h.get? b = some o → h'.get? b = some o
theorem ButL.pres {env : Env} {h h' : Heap} (k : ButL env h h') : Pres env h h' := fun b o e s => k b o s.1 e
theorem ButL.trans {env : Env} {a b c : Heap} (x : ButL env a b) (y : ButL env b c) : ButL env a c := fun k o s e => y k o s (x k o s e)
def As1 (prog : Program) (w : World) (C : Addr) (X : Addr → Prop) (h₀ : Heap) (A : Around) (env : Env) (ρ : List (Str × Ent)) (t : Expr) (d : Dat) (ρ' : List (Str × Ent)) : Prop := ∀ (s : Shared) (Q : Unit → Shared → Prop) (E : Value → Shared → Prop) (v : Value), Ext h₀ s.heap → OK C X h₀ env ρ s.heap → V X s.heap v d →
  (∀ h' tk', ButL env s.heap h' → OK C X h₀ env ρ' h' → Q () { s with heap := h', toks := tk' }) → wpAny (model prog w) A (assign t env v) Q E s
def As1L (prog : Program) (w : World) (C : Addr) (X : Addr → Prop) (h₀ : Heap) (A : Around) (env : Env) (ρ : List (Str × Ent)) (ts : List Expr) (ds : List Dat) (ρ' : List (Str × Ent)) : Prop := ∀ (s : Shared) (Q : Unit → Shared → Prop) (E : Value → Shared → Prop) (vs : List Value), Ext h₀ s.heap → OK C X h₀ env ρ s.heap → VA X s.heap vs ds →
  (∀ h' tk', ButL env s.heap h' → OK C X h₀ env ρ' h' → Q () { s with heap := h', toks := tk' }) → wpAny (model prog w) A (assignInOrder ((assignEach ts env).map (·.2)) vs) Q E s
theorem as1_local {x : Str} {pos : Pos} {d : Dat} (hk : env.scope.kind = .function) (hl : env.kindOf x = some .local) : As1 prog w C X h₀ A env ρ (.Name x pos) d ((x, .dat d) :: ρ) := by
  intro s Q E v g ok hv hQ
  obtain ⟨m, hn, hm⟩ := ok.ns
  refine wpAny_assign_Name (wpAny_storeName_local hl hn (fun h' hn' hs => ?_) (by rw [hk]; rfl))
  obtain ⟨a, b⟩ := ok.setLocal (e := .dat d) hm hl hn' hs hv
  exact hQ h' _ (fun b o q e => hs.extBut b o q e) a
theorem as1L_nil : As1L prog w C X h₀ A env ρ [] [] ρ := by
  intro s Q E vs g ok hv hQ
  exact assignInOrder_nil (hQ s.heap s.toks (fun _ _ _ e => e) ok)
theorem as1L_cons {ρ'' : List (Str × Ent)} {t : Expr} {ts : List Expr} {d : Dat} {ds : List Dat} (h1 : As1 prog w C X h₀ A env ρ t d ρ') (h2 : As1L prog w C X h₀ A env ρ' ts ds ρ'') (he : assignEach (t :: ts) env = (false, assign t env) :: assignEach ts env) : As1L prog w C X h₀ A env ρ (t :: ts) (d :: ds) ρ'' := by
  intro s Q E vs g ok hv hQ
  cases hv with
  | cons x r =>
    rw [he]
    exact assignInOrder_cons (h1 s _ E _ g ok x fun h' tk' k ok' => h2 _ Q E _ (k.pres.low ok g) ok' (r.mono fun b o _ e hs => k.pres b o e (ok.seqSafe e hs)) fun h'' tk'' k' ok'' => hQ h'' tk'' (k.trans k') ok'')
theorem as1_tuple {ts : List Expr} {n : Nat} {pos : Pos} {ds : List Dat} (hh : A.handled = none) (h : As1L prog w C X h₀ A env ρ ts ds ρ') (hn : (assignEach ts env).length = ds.length) (hstar : (assignEach ts env).findIdx? (·.1) = none) :
    As1 prog w C X h₀ A env ρ (.Tuple ts n pos) (.tuple ds) ρ' := by
  intro s Q E v g ok hv hQ
  cases hv with
  | tup na e r =>
    rename_i a vs k
    refine assign_Tuple_tuple hh (tupIs e) (by rw [hn, List.size_toArray, r.length]) hstar fun h' hx => ?_
    have x : Ext s.heap h' := fun b o q => hx b o (Nat.ne_of_lt (Heap.lt_size q)) q
    exact h { s with heap := h' } Q E _ (g.trans x) (ok.ext x) (r.mono x.seq) fun h'' tk'' k' ok'' => hQ h'' tk'' (fun b o q e => k' b o q (x b o e)) ok''
theorem As1.as {t : Expr} {d : Dat} (h : As1 prog w C X h₀ A env ρ t d ρ') : As prog w C X h₀ A env ρ t (.dat d) ρ' := fun s Q E v g ok hv hQ => h s Q E v g ok hv fun h' tk' k ok' => hQ h' tk' k.pres ok'

/-- one turn of a block, in data -/
def CTurn (prog : Program) (w : World) (C : Addr) (X : Addr → Prop) (h₀ : Heap) (A : Around) (env : Env) (ρc : List (Str × Ent)) (t : Expr) (ifs : List Expr) (elt : Expr) (d : Dat) (p : Bool) (f : Dat) : Prop :=
  ∃ ρ1, As1 prog w C X h₀ A env ρc t d ρ1 ∧ (∀ y e, ρc.lookup y = some e → ρ1.lookup y = some e) ∧
    (match ifs with
      | [] => p = true
      | [c] => Tr prog w C X h₀ A env ρ1 c p
      | _ => False) ∧ (p = true → Ev prog w C X h₀ A env ρ1 elt (.dat f))

def compRes (p : Nat → Bool) (f : Nat → Dat) (n : Nat) : List Dat := ((List.range n).filter p).map f
theorem compRes_succ (p : Nat → Bool) (f : Nat → Dat) (n : Nat) : compRes p f (n + 1) = compRes p f n ++ if p n then [f n] else [] := by
  unfold compRes
  rw [List.range_succ, List.filter_append, List.map_append]
  congr 1
  cases h : p n <;> simp [h]
theorem compRes_le (p : Nat → Bool) (f : Nat → Dat) (n : Nat) : (compRes p f n).length ≤ n := by
  unfold compRes
  rw [List.length_map]
  exact Nat.le_trans (List.length_filter_le _ _) (Nat.le_of_eq (List.length_range))
theorem compRes_list (ds : List Dat) (p : Dat → Bool) (f : Dat → Dat) : compRes (fun i => p (ds.getD i .none)) (fun i => f (ds.getD i .none)) ds.length = (ds.filter p).map f := by
  have key : ∀ n, n ≤ ds.length → compRes (fun i => p (ds.getD i .none)) (fun i => f (ds.getD i .none)) n = ((ds.take n).filter p).map f := by
    intro n
    induction n with
    | zero => intro _; simp [compRes]
    | succ n ih =>
      intro h
      rw [compRes_succ, ih (by omega), List.take_add_one, List.getElem?_eq_getElem (by omega)]
      rw [List.filter_append, List.map_append]
      congr 1
      have e : ds.getD n .none = ds[n] := by rw [List.getD_eq_getElem?_getD, List.getElem?_eq_getElem (by omega)]; rfl
      rw [e]
      cases h : p ds[n] <;> simp [h]
  rw [key _ (Nat.le_refl _), List.take_length]

def CompInv (C : Addr) (X : Addr → Prop) (h₀ : Heap) (env : Env) (ρc : List (Str × Ent)) (D : Addr) (n : Nat) (St : Nat → Heap → Prop) (p : Nat → Bool) (f : Nat → Dat) (hb : Heap) (s : Shared) (k : Nat) (s' : Shared) : Prop :=
  ∃ i h' tk ys, s' = { s with heap := h', toks := tk } ∧ i ≤ n ∧ k = n + 1 - i ∧ St i h' ∧ OK C X h₀ env ρc h' ∧ h'.PlainList D ys ∧ VA X h' ys.toList (compRes p f i) ∧ Ext hb h'

theorem comp_it {t elt iter : Expr} {ifs : List Expr} {scope : Scope} {pos : Pos} {I D : Addr} {wr : List Addr} {n : Nat} {St : Nat → Heap → Prop} {Dt : Nat → Dat} {p : Nat → Bool} {f : Nat → Dat} {ρc : List (Str × Ent)} {hb : Heap}
    (W : It prog w A X t I wr n St Dt) (hn : n ≤ sizeLine) (hX : ∀ b ∈ wr, ¬ X b) (hwr : ∀ b ∈ wr, Safe env b) (hDw : D ∉ wr) (hXD : X D) (hDs : Safe env D) (hDb : hb.get? D = none) (hLb : ∀ b o, hb.get? b = some o → b ≠ env.locals) (hnew : ∀ b ∈ wr, hb.get? b = none)
    (turn : ∀ i, i < n → CTurn prog w C X h₀ A env ρc t ifs elt (Dt i) (p i) (f i))
    {s : Shared} {R : Result → Shared → Prop} (g0 : Ext h₀ hb) (hbs : Ext hb s.heap) (ok : OK C X h₀ env ρc s.heap) (hst : St 0 s.heap) (hDl : s.heap.PlainList D #[])
    (hR : ∀ h' tk' ys, Ext hb h' → OK C X h₀ env ρc h' → h'.PlainList D ys → VA X h' ys.toList (compRes p f n) → R (.ok .next) { s with heap := h', toks := tk' }) :
    codeAny (model prog w) A (.compLoop (.ListComp elt [⟨t, iter, ifs, 0⟩] scope pos) 0 (.ref I) (.ref D) env) R s := by
  refine my_compLoop (CompInv C X h₀ env ρc D n St p f hb s) ?_ (n + 1) ⟨0, s.heap, s.toks, #[], rfl, Nat.zero_le _, rfl, hst, ok, hDl, .nil, hbs⟩
  rintro k s' ⟨i, h', tk, ys, rfl, hi, rfl, hst', ok', hl, hv, hp⟩ E'
  have but : ∀ {h₁ : Heap}, But wr h' h₁ → Ext hb h₁ := fun k b o e => k b o (fun hb' => by have := hnew b hb'; rw [e] at this; cases this) (hp b o e)
  by_cases hlt : i < n
  · obtain ⟨ρ1, h1, hsub, h2, h3⟩ := turn i hlt
    refine wpAny_mono (W.item i _ (compK prog w A elt t ifs env (.ref D) (CompInv C X h₀ env ρc D n St p f hb s) (n + 1 - i) E') E' hlt hst' ok'.off fun v h₁ tk₁ kb st₁ hV => ?_) (fun r s₁ q => ?_) fun _ _ e => e
    · have ok₁ := ok'.but kb (W.flds i _ hst') hX
      have hv₁ := hv.mono (kb.seq (W.flds i _ hst'))
      have hl₁ : h₁.PlainList D ys := by obtain ⟨m, e⟩ := hl; exact ⟨m, kb _ _ hDw e⟩
      have hb₁ := but kb
      unfold compK
      refine h1 _ _ E' v (g0.trans hb₁) ok₁ hV fun h₂ tk₂ k₂ ok₂ => ?_
      have g₂ : Ext hb h₂ := fun b o e => k₂ b o (hLb b o e) (hb₁ b o e)
      replace k₂ := k₂.pres
      have hv₂ := hv₁.mono (fun b o _ e hs => k₂ b o e (ok₁.seqSafe e hs))
      have hl₂ : h₂.PlainList D ys := by obtain ⟨m, e⟩ := hl₁; exact ⟨m, k₂ _ _ e hDs⟩
      have st₂ : St (i + 1) h₂ := W.frame _ _ _ st₁ (fun b o _ e hs => k₂ b o e (ok₁.seqSafe e hs)) (fun b hb' o e => k₂ b o e (hwr b hb'))
      have rest : ∀ h₃ tk₃, Ext h₂ h₃ → (if p i = true then wpAny (model prog w) A (eval elt env) (fun x s₄ =>
          wpAny (model prog w) A (call (.builtin "list.append") [.ref D, x]) (fun _ s₅ => ∃ m, m < n + 1 - i ∧ CompInv C X h₀ env ρc D n St p f hb s m s₅) E' s₄) E' { s with heap := h₃, toks := tk₃ }
        else ∃ m, m < n + 1 - i ∧ CompInv C X h₀ env ρc D n St p f hb s m { s with heap := h₃, toks := tk₃ }) := by
        intro h₃ tk₃ k₃
        have ok₃ := ok₂.ext k₃
        have hv₃ := hv₂.mono k₃.seq
        have hl₃ : h₃.PlainList D ys := by obtain ⟨m, e⟩ := hl₂; exact ⟨m, k₃ _ _ e⟩
        have st₃ : St (i + 1) h₃ := W.frame _ _ _ st₂ k₃.seq fun b _ o e => k₃ b o e
        cases hpi : p i with
        | false =>
          simp only [Bool.false_eq_true, if_false]
          exact ⟨n + 1 - (i + 1), by omega, i + 1, h₃, tk₃, ys, rfl, hlt, rfl, st₃, ok₃.sub hsub, hl₃, by rw [compRes_succ, hpi]; simpa using hv₃, g₂.trans k₃⟩
        | true =>
          simp only [if_true]
          refine h3 hpi _ _ E' (g0.trans (g₂.trans k₃)) ok₃ fun y h₄ tk₄ k₄ hy => ?_
          have ok₄ := ok₃.ext k₄
          have hv₄ := hv₃.mono k₄.seq
          have hl₄ : h₄.PlainList D ys := by obtain ⟨m, e⟩ := hl₃; exact ⟨m, k₄ _ _ e⟩
          have hys : ys.size ≤ sizeLine := by
            have e1 := hv₄.length
            have e2 := compRes_le p f i
            rw [Array.length_toList] at e1
            omega
          refine wpAny_list_append_plain (hsz := hys) hl₄ fun h₅ hl₅ hs₅ => ?_
          have k₅ : SeqExt X h₄ h₅ := fun b o nx e _ => hs₅.extBut b o (fun q => nx (q ▸ hXD)) e
          have e₅ : Ext hb h₅ := fun b o e => hs₅.extBut b o (fun q => by rw [q, hDb] at e; cases e) (k₄ _ _ (k₃ _ _ (g₂ b o e)))
          have p₅ : ∀ b o, b ≠ D → h₄.get? b = some o → h₅.get? b = some o := fun b o hb' e => hs₅.extBut b o hb' e
          have ok₅ : OK C X h₀ env ρc h₅ := by
            obtain ⟨⟨m, hn, hm⟩, hc, hcs, ha, hlow, ho⟩ := ok₄.sub hsub
            have nL : env.locals ≠ D := fun q => hDs.1 q.symm
            have isx : ∀ {v e}, Is C X env h₄ v e → Is C X env h₅ v e := by
              intro v e x
              cases e with
              | dat d => exact V.mono k₅ x
              | «at» a d => exact ⟨x.1, V.mono k₅ x.2⟩
              | raw u => exact x
              | told => obtain ⟨a, rfl, t⟩ := x; exact ⟨a, rfl, t.keep (fun b o e hs => p₅ b o (fun q => hs.2 (q ▸ hXD)) e) fun _ _ y => y⟩
            refine ⟨⟨m, hn.at' fun o e => p₅ _ o nL e, fun y e hy hk => ?_⟩, fun y e hy hk => ?_, fun q hq => ?_, ha, hlow, fun b hb' => ?_⟩
            · obtain ⟨v, e1, e2⟩ := hm y e hy hk; exact ⟨v, e1, isx e2⟩
            · obtain ⟨c, v, e1, ⟨o, q1, q2⟩, e3⟩ := hc y e hy hk
              exact ⟨c, v, e1, ⟨o, p₅ c o (fun q => hDs.2 _ (mem_of_look e1) q.symm) q1, q2⟩, isx e3⟩
            · obtain ⟨v, o, q1, q2⟩ := hcs q hq
              exact ⟨v, o, p₅ _ o (fun z => hDs.2 _ hq z.symm) q1, q2⟩
            · by_cases q : b = D
              · obtain ⟨m', e⟩ := hl₅; exact ⟨_, q ▸ e⟩
              · obtain ⟨o, e⟩ := ho b hb'; exact ⟨o, p₅ b o q e⟩
          refine ⟨n + 1 - (i + 1), by omega, i + 1, h₅, tk₄, ys.push y, rfl, hlt, rfl, W.frame _ _ _ (W.frame _ _ _ st₃ k₄.seq fun b _ o e => k₄ b o e) k₅ (fun b hb' o e => p₅ b o (fun q => hDw (q ▸ hb')) e), ok₅, hl₅, ?_, e₅⟩
          rw [compRes_succ, hpi, Array.toList_push]
          exact (hv₄.append (.cons hy .nil)).mono k₅
      match ifs, h2 with
      | [], h2 =>
        refine wpAny_tests_nil ?_
        have := rest h₂ tk₂ (Ext.refl _)
        rw [h2] at this
        exact this
      | [c], h2 =>
        refine wpAny_tests_one (h2 _ _ E' (g0.trans g₂) ok₂ fun h₃ tk₃ k₃ => ?_)
        exact rest h₃ tk₃ k₃
    · obtain ⟨v, rfl, q⟩ := q
      exact q
  · obtain rfl : i = n := by omega
    refine W.done _ _ E' hst' fun h₁ tk₁ kb => ?_
    exact hR h₁ tk₁ ys (but kb) (ok'.but kb (W.flds _ _ hst') hX) (by obtain ⟨m, e⟩ := hl; exact ⟨m, kb _ _ hDw e⟩) (hv.mono (kb.seq (W.flds _ _ hst')))
end
section
variable {prog : Program} {w : World} {C : Addr} {X : Addr → Prop} {h₀ : Heap} {A : Around} {env : Env} {ρ ρ' ρc : List (Str × Ent)}

/-- how a block's frame stands to the frame around it -/
structure BlockOf (env : Env) (ρ ρc : List (Str × Ent)) (scope : Scope) (cl : List (Str × Addr)) : Prop where
  clos : closureFor scope env = pure cl
  cell : ∀ y ∈ scope.names, y.2 ≠ .cell
  kind : scope.kind = .function
  names : ∀ y ∈ scope.names, y.2 = .local → scope.names.lookup y.1 = some .local
  cls : ∀ q ∈ cl, q ∈ env.cells
  look : ∀ x c, cl.lookup x = some c → env.cells.lookup x = some c
  free : ∀ y e, ρc.lookup y = some e → ρ.lookup y = some e ∧ (env.kindOf y = some .cell ∨ env.kindOf y = some .free) ∧ cl.lookup y = env.cells.lookup y ∧ (relabel scope env).names.lookup y ≠ some .local

theorem comp_block {t elt iter : Expr} {ifs : List Expr} {scope : Scope} {cl : List (Str × Addr)} {pos : Pos} {I : Addr} {wr : List Addr} {n : Nat} {St : Nat → Heap → Prop} {Dt : Nat → Dat} {p : Nat → Bool} {f : Nat → Dat} {hb : Heap}
    (B : BlockOf env ρ ρc scope cl) (hn : n ≤ sizeLine) {s₂ : Shared} {E : Value → Shared → Prop} {RR : Value → Addr → Result → Shared → Prop}
    (W : It prog w A (Also X s₂.heap.objs.size) t I wr n St Dt) (g0 : Ext h₀ hb) (hok : OK C X h₀ env ρ hb) (hbs : Ext hb s₂.heap) (hsz : hb.objs.size ≤ s₂.heap.objs.size) (hwr : ∀ b ∈ wr, hb.objs.size ≤ b) (hwr2 : ∀ b ∈ wr, b < s₂.heap.objs.size) (hst : St 0 s₂.heap)
    (turn : ∀ Cc i, i < n → CTurn prog w C (Also X s₂.heap.objs.size) h₀ A (compEnvC scope cl Cc env) ρc t ifs elt (Dt i) (p i) (f i))
    (hRR : ∀ Cc h' tk' ys m, hb.objs.size ≤ Cc → s₂.heap.objs.size ≠ Cc → Ext hb h' → h'.Ns Cc m → h'.PlainList s₂.heap.objs.size ys → VA (Also X s₂.heap.objs.size) h' ys.toList (compRes p f n) → RR (.ref s₂.heap.objs.size) Cc (.ok .next) { s₂ with heap := h', toks := tk' }) :
    wpAny (model prog w) A (newList []) (fun acc s₃ => wpAny (model prog w) A (newFunctionEnv scope env.globals cl [] env.qual none .none (some env)) (fun cenv s₄ =>
      codeAny (model prog w) A (.compStart (.ListComp elt [⟨t, iter, ifs, 0⟩] scope pos) 0 (.ref I) acc { cenv with scope := relabel scope env }) (RR acc cenv.locals) s₄) E s₃) E s₂ := by
  refine wpAny_newObj_type (wpAny_newFunctionEnv B.cell (by intro y hy; simp at hy) (fun h₁ hns₁ hsb₁ => ?_) B.kind)
  dsimp only at hns₁ hsb₁ ⊢
  generalize hH2 : s₂.heap.push { cls := .type "list", dict := none, data := .seq ([] : List Value).toArray } = H2 at hns₁ hsb₁ ⊢
  have hC : H2.objs.size = s₂.heap.objs.size + 1 := by rw [← hH2, Heap.size_push]
  have hDC : s₂.heap.objs.size ≠ H2.objs.size := by rw [hC]; exact Nat.ne_of_lt (Nat.lt_succ_self _)
  have below : ∀ b, b < s₂.heap.objs.size → b ≠ H2.objs.size ∧ b ≠ s₂.heap.objs.size := fun b hb => ⟨by rw [hC]; exact Nat.ne_of_lt (Nat.lt_succ_of_lt hb), Nat.ne_of_lt hb⟩
  have old : Ext s₂.heap h₁ := fun b o e => hsb₁.extBut b o (below b (Heap.lt_size e)).1 (Heap.get?_push_of_some _ (hH2 ▸ Heap.get?_push_of_some _ e))
  have hacc : h₁.PlainList s₂.heap.objs.size #[] := ⟨_, hsb₁.extBut _ _ hDC (Heap.get?_push_of_some _ (hH2 ▸ Heap.get?_push_size _ rfl))⟩
  have hst₁ : St 0 h₁ := W.frame _ _ _ hst old.seq fun b _ o e => old b o e
  have fresh : ∀ a, s₂.heap.objs.size ≤ a → hb.get? a = none := fun a ha => by
    cases e : hb.get? a with
    | none => rfl
    | some o' => exact absurd (Heap.lt_size (hbs a o' e)) (Nat.not_lt.mpr ha)
  have okc : OK C (Also X s₂.heap.objs.size) h₀ (compEnvC scope cl H2.objs.size env) ρc h₁ := by
    have ok₁ : OK C X h₀ env ρ h₁ := hok.ext (hbs.trans old)
    have cells_lt : ∀ q ∈ env.cells, q.2 < s₂.heap.objs.size := fun q hq => by
      obtain ⟨v, o, e, _⟩ := hok.cells q hq
      exact Heap.lt_size (hbs _ _ e)
    have sf : ∀ b, b < s₂.heap.objs.size → Safe env b → Safe (compEnvC scope cl H2.objs.size env) b := fun b hb sb => ⟨(below b hb).1, fun q hq => sb.2 q (B.cls q hq)⟩
    refine ⟨⟨_, hns₁, fun y e hy hk => ?_⟩, fun y e hy hk => ?_, fun q hq => ok₁.cells q (B.cls q hq), fun x y c hx hy => ok₁.apart x y c (B.look _ _ hx) (B.look _ _ hy), fun b o e => sf b (Heap.lt_size (hbs _ _ (g0 b o e))) (ok₁.low b o e), fun b hb' => ?_⟩
    · exact absurd hk (B.free y e hy).2.2.2
    · obtain ⟨h1, h2, h3, _⟩ := B.free y e hy
      obtain ⟨c, v, e1, e2, e3⟩ := hok.cl y e h1 h2
      refine ⟨c, v, h3.trans e1, e2.keeps (hbs.trans old), ?_⟩
      cases e with
      | dat d => exact ((show V X hb v d from e3).avoid (fresh _ (Nat.le_refl _))).mono (Ext.seq (hbs.trans old))
      | «at» a d => exact ⟨e3.1, ((show V X hb v d from e3.2).avoid (fresh _ (Nat.le_refl _))).mono (Ext.seq (hbs.trans old))⟩
      | raw u => exact e3
      | told =>
        obtain ⟨a, rfl, t⟩ := e3
        exact ⟨a, rfl, t.keep (fun b o e _ => (hbs.trans old) b o e) fun b hb q => ⟨sf b (Nat.lt_of_lt_of_le hb hsz) q.1, fun z => z.elim q.2 fun z => Nat.lt_irrefl _ (Nat.lt_of_lt_of_le (z ▸ hb) hsz)⟩⟩
    · rcases hb' with q | q
      · exact ok₁.off b q
      · obtain ⟨m, e⟩ := hacc; exact ⟨_, q ▸ e⟩
  have loop : ∀ s₃ : Shared, s₃ = { s₂ with heap := h₁, toks := s₂.toks + ([] : List (Str × Value)).length } →
      codeAny (model prog w) A (.compLoop (.ListComp elt [⟨t, iter, ifs, 0⟩] scope pos) 0 (.ref I) (.ref s₂.heap.objs.size) (compEnvC scope cl H2.objs.size env))
        (RR (.ref s₂.heap.objs.size) H2.objs.size) s₃ := by
    rintro s₃ rfl
    have nb : ∀ b ∈ wr, hb.get? b = none := fun b hb' => by
      cases e : hb.get? b with
      | none => rfl
      | some o => exact absurd (Heap.lt_size e) (Nat.not_lt.mpr (hwr b hb'))
    have cells_in : ∀ q ∈ cl, ∃ o, hb.get? q.2 = some o := fun q hq => by
      obtain ⟨v, o, e, _⟩ := hok.cells q (B.cls q hq); exact ⟨o, e⟩
    refine comp_it (hb := hb) W hn (fun b hb' q => ?_) (fun b hb' => ⟨(below b (hwr2 b hb')).1, fun q hq z => ?_⟩) (fun q => Nat.lt_irrefl _ (hwr2 _ q)) (.inr rfl) ⟨hDC, fun q hq z => ?_⟩ (fresh _ (Nat.le_refl _)) (fun b o e => ?_) nb (turn H2.objs.size) g0 (hbs.trans old) okc hst₁ hacc fun h' tk' ys k' ok' hl hv => ?_
    · rcases q with q | q
      · obtain ⟨o, e⟩ := hok.off b q
        rw [nb b hb'] at e; cases e
      · exact Nat.lt_irrefl _ (q ▸ hwr2 b hb')
    · obtain ⟨o, e⟩ := cells_in q hq
      rw [← z, nb b hb'] at e; cases e
    · obtain ⟨o, e⟩ := cells_in q hq
      rw [← z, fresh _ (Nat.le_refl _)] at e; cases e
    · exact (below b (Heap.lt_size (hbs b o e))).1
    · obtain ⟨m, hnm, _⟩ := ok'.ns
      exact hRR H2.objs.size h' tk' ys m (by rw [hC]; exact Nat.le_succ_of_le hsz) hDC k' hnm hl hv
  exact codeAny_compStart_list (loop _ rfl) (W.self 0 _ _ _ hst₁ (loop _ rfl))
end
section
variable {prog : Program} {w : World} {C : Addr} {X : Addr → Prop} {h₀ : Heap} {A : Around} {env : Env} {ρ ρ' ρc : List (Str × Ent)}

theorem OK.setLocal' {h h' : Heap} {x : Str} {v : Value} {e : Ent} {m : Str → Option Value} (ok : OK C X h₀ env ρ h) (hm : ∀ y e, ρ.lookup y = some e → env.kindOf y = some .local → ∃ v, m y = some v ∧ Is C X env h v e)
    (hl : env.kindOf x = some .local) (hn : h'.Ns env.locals (fun y => if y = x then some v else m y)) (k : ButL env h h') (hv : Is C X env h' v e) : OK C X h₀ env ((x, e) :: ρ) h' := by
  refine ⟨⟨_, hn, fun y e' hy hk => ?_⟩, fun y e' hy hk => ?_, fun p hp => ?_, ok.apart, ok.low, fun b hb => ?_⟩
  · rw [List.lookup_cons] at hy
    by_cases q : y = x
    · subst q; rw [beq_self_eq_true] at hy; cases hy; exact ⟨v, by rw [if_pos rfl], hv⟩
    · rw [beq_eq_false_iff_ne.mpr q] at hy
      obtain ⟨u, h1, h2⟩ := hm y e' hy hk
      exact ⟨u, by rw [if_neg q]; exact h1, h2.pres ok k.pres⟩
  · have q : y ≠ x := fun q => by subst q; rw [hl] at hk; rcases hk with hk | hk <;> cases hk
    rw [List.lookup_cons, beq_eq_false_iff_ne.mpr q] at hy
    obtain ⟨c, u, h1, ⟨o, h2, h4⟩, h3⟩ := ok.cl y e' hy hk
    exact ⟨c, u, h1, ⟨o, k _ _ (ok.nsNotCell _ (mem_of_look h1)) h2, h4⟩, h3.pres ok k.pres⟩
  · obtain ⟨u, o, h1, h2⟩ := ok.cells p hp
    exact ⟨u, o, k _ _ (ok.nsNotCell p hp) h1, h2⟩
  · obtain ⟨o, ho⟩ := ok.off b hb
    by_cases q : b = env.locals
    · obtain ⟨o', _, _, ho', _⟩ := hn; exact ⟨o', q ▸ ho'⟩
    · exact ⟨o, k b o q ho⟩

theorem lst_of {h : Heap} {D : Addr} {ys : Array Value} {ds : List Dat} (hl : h.PlainList D ys) (hX : ¬ X D) (hv : VA X h ys.toList ds) : V X h (.ref D) (.list ds) := by
  obtain ⟨n, e⟩ := hl
  exact .lst (vs := ys.toList) (n := n) hX (by rw [Array.toArray_toList]; exact e) hv

theorem ev_comp {t elt iter : Expr} {ifs : List Expr} {scope : Scope} {cl : List (Str × Addr)} {pos : Pos} {ds es : List Dat} {p : Dat → Bool} {f : Dat → Dat} (hh : A.handled = none) (ht : plainTarget t = true) (B : BlockOf env ρ ρc scope cl) (hn : ds.length ≤ sizeLine)
    (hi : Ev prog w C X h₀ A env ρ iter (.dat (.list ds)))
    (turn : ∀ X' Cc d, d ∈ ds → CTurn prog w C X' h₀ A (compEnvC scope cl Cc env) ρc t ifs elt d (p d) (f d)) (he : (ds.filter p).map f = es)
    (hs : ∀ y, foldedSetIterable iter env y = pure y) : Ev prog w C X h₀ A env ρ (.ListComp elt [⟨t, iter, ifs, 0⟩] scope pos) (.dat (.list es)) := by
  intro s Q E g ok hQ
  rw [eval_ListComp]
  refine wpAny_comprehension_free (use := none) rfl hs B.clos B.kind B.names (hi s _ E g ok fun v h₁ t₁ k₁ i₁ => ?_)
  cases i₁ with
  | lst na e r =>
    rename_i l ws n
    have ok₁ := ok.ext k₁
    refine wpAny_pyIter_list (lstIs e) ?_
    have kk : Ext h₁ (h₁.push { cls := .type "list_iterator", data := .fields #[.ref l, .int 0 0] }) := fun b o e => Heap.get?_push_of_some _ e
    have hz : (h₁.push { cls := .type "list_iterator", data := .fields #[.ref l, .int 0 0] }).objs.size = h₁.objs.size + 1 := Heap.size_push ..
    have hlt := Heap.lt_size e
    have nD : (h₁.push { cls := .type "list_iterator", data := .fields #[.ref l, .int 0 0] }).get? (h₁.push { cls := .type "list_iterator", data := .fields #[.ref l, .int 0 0] }).objs.size = none := by
      cases e : (h₁.push { cls := .type "list_iterator", data := .fields #[.ref l, .int 0 0] }).get? (h₁.push { cls := .type "list_iterator", data := .fields #[.ref l, .int 0 0] }).objs.size with
      | none => rfl
      | some o => exact absurd (Heap.lt_size e) (Nat.lt_irrefl _)
    refine comp_block (hb := h₁) (p := fun i => p (ds.getD i .none)) (f := fun i => f (ds.getD i .none)) B hn (RR := fun acc Cc => compPost (model prog w) A E none Q acc Cc)
      (It.list (n := n) hh ht (Nat.ne_of_lt hlt) (fun q => q.elim na fun q => by
        have this : l < h₁.objs.size + 1 := Nat.lt_succ_of_lt hlt
        have q' : l = h₁.objs.size + 1 := q.trans hz
        exact Nat.lt_irrefl _ (q' ▸ this))) (g.trans k₁) ok₁ kk (Nat.le_trans (Nat.le_succ _) (Nat.le_of_eq hz.symm))
      (fun b hb => by rw [List.mem_singleton.mp hb]; exact Nat.le_refl _) (fun b hb => by rw [List.mem_singleton.mp hb]; exact hz ▸ Nat.lt_succ_self _)
      ⟨⟨_, Heap.get?_push_size _ rfl, rfl, rfl⟩, kk _ _ e, (r.mono kk.seq).avoid nD⟩ (fun Cc i hi => ?_) (fun Cc h' tk' ys m hC hne k' hn' hl hv => ?_)
    · exact turn _ Cc _ (by rw [List.getD_eq_getElem?_getD, List.getElem?_eq_getElem hi]; exact List.getElem_mem hi)
    · rw [compRes_list, he] at hv
      refine ⟨m, hn', fun h'' hs'' => ?_⟩
      have e1 : Ext h₁ h'' := fun b o e => hs''.extBut b o (fun q => Nat.lt_irrefl _ (Nat.lt_of_lt_of_le (q ▸ Heap.lt_size e) hC)) (k' b o e)
      refine hQ _ h'' tk' (k₁.trans e1) ?_
      have hX : ¬ X (h₁.push { cls := .type "list_iterator", data := .fields #[.ref l, .int 0 0] }).objs.size := new_off fun b hb => ((ok₁.ext kk).off b hb)
      refine lst_of (ys := ys) ?_ hX ?_
      · obtain ⟨j, q⟩ := hl; exact ⟨j, hs''.extBut _ _ hne q⟩
      · refine hv.less.mono fun b o nx e hsq => hs''.extBut b o (fun q => ?_) e
        obtain ⟨o', es', ep, q1, q2, _⟩ := hn'
        obtain ⟨vs, j, hd⟩ := hsq
        rw [q, q1] at e; cases e; rw [hd] at q2; cases q2

theorem exs_assign_comp {t elt iter : Expr} {ifs : List Expr} {scope : Scope} {cl : List (Str × Addr)} {x : Str} {px pos spos : Pos} {ds es : List Dat} {p : Dat → Bool} {f : Dat → Dat} (hh : A.handled = none) (ht : plainTarget t = true) (B : BlockOf env ρ ρc scope cl) (hn : ds.length ≤ sizeLine)
    (hi : Ev prog w C X h₀ A env ρ iter (.dat (.list ds)))
    (turn : ∀ X' Cc d, d ∈ ds → CTurn prog w C X' h₀ A (compEnvC scope cl Cc env) ρc t ifs elt d (p d) (f d)) (he : (ds.filter p).map f = es)
    (hs : ∀ y, foldedSetIterable iter env y = pure y) (hk : env.scope.kind = .function) (hl : env.kindOf x = some .local)
    (hsw : swapsWith (.ListComp elt [⟨t, iter, ifs, 0⟩] scope pos) (some (.Name x px)) spos.line env = pure true) :
    ExS prog w C X h₀ A env ρ (.Assign [.Name x px] (.ListComp elt [⟨t, iter, ifs, 0⟩] scope pos) spos) (.next ((x, .dat (.list es)) :: ρ)) := by
  intro s Q E g ok hQ
  rw [exec_Assign_Name_used _ _ _ _ hsw]
  refine wpAny_bind (wpAny_standAt (wpAny_bind ?_))
  show wpAny _ A (do let _ ← comprehension (.ListComp elt [⟨t, iter, ifs, 0⟩] scope pos) scope env _ (newList []) false (eval iter env) (some (assign (.Name x px) env))) _ _ s
  refine wpAny_bind (wpAny_mono (wpAny_comprehension_free (use := some (assign (.Name x px) env)) (Q := fun _ s' => Q .next s') rfl hs B.clos B.kind B.names
    (hi s _ E g ok fun v h₁ t₁ k₁ i₁ => ?_)) (fun _ s' hq => wpAny_pure (wpAny_pure hq)) fun _ _ e => e)
  cases i₁ with
  | lst na e r =>
    rename_i l ws n
    have ok₁ := ok.ext k₁
    refine wpAny_pyIter_list (lstIs e) ?_
    have kk : Ext h₁ (h₁.push { cls := .type "list_iterator", data := .fields #[.ref l, .int 0 0] }) := fun b o e => Heap.get?_push_of_some _ e
    have hz : (h₁.push { cls := .type "list_iterator", data := .fields #[.ref l, .int 0 0] }).objs.size = h₁.objs.size + 1 := Heap.size_push ..
    have hlt := Heap.lt_size e
    have nD : (h₁.push { cls := .type "list_iterator", data := .fields #[.ref l, .int 0 0] }).get? (h₁.push { cls := .type "list_iterator", data := .fields #[.ref l, .int 0 0] }).objs.size = none := by
      cases e : (h₁.push { cls := .type "list_iterator", data := .fields #[.ref l, .int 0 0] }).get? (h₁.push { cls := .type "list_iterator", data := .fields #[.ref l, .int 0 0] }).objs.size with
      | none => rfl
      | some o => exact absurd (Heap.lt_size e) (Nat.lt_irrefl _)
    refine comp_block (hb := h₁) (p := fun i => p (ds.getD i .none)) (f := fun i => f (ds.getD i .none)) B hn (RR := fun acc Cc => compPost (model prog w) A E (some (assign (.Name x px) env)) (fun _ s' => Q .next s') acc Cc)
      (It.list (n := n) hh ht (Nat.ne_of_lt hlt) (fun q => q.elim na fun q => by
        have this : l < h₁.objs.size + 1 := Nat.lt_succ_of_lt hlt
        have q' : l = h₁.objs.size + 1 := q.trans hz
        exact Nat.lt_irrefl _ (q' ▸ this))) (g.trans k₁) ok₁ kk (Nat.le_trans (Nat.le_succ _) (Nat.le_of_eq hz.symm))
      (fun b hb => by rw [List.mem_singleton.mp hb]; exact Nat.le_refl _) (fun b hb => by rw [List.mem_singleton.mp hb]; exact hz ▸ Nat.lt_succ_self _)
      ⟨⟨_, Heap.get?_push_size _ rfl, rfl, rfl⟩, kk _ _ e, (r.mono kk.seq).avoid nD⟩ (fun Cc i hi => ?_) (fun Cc h' tk' ys m hC hne k' hn' hl' hv => ?_)
    · exact turn _ Cc _ (by rw [List.getD_eq_getElem?_getD, List.getElem?_eq_getElem hi]; exact List.getElem_mem hi)
    · rw [compRes_list, he] at hv
      have hX : ¬ X (h₁.push { cls := .type "list_iterator", data := .fields #[.ref l, .int 0 0] }).objs.size := new_off fun b hb => ((ok₁.ext kk).off b hb)
      obtain ⟨m', hn₁, hm₁⟩ := ok₁.ns
      have sC : Safe env Cc := (fresh_safe ok₁ hC).1
      refine wpAny_assign_Name (wpAny_storeName_local hl (hn₁.at' fun o e => k' _ o e) (fun h'' hn'' hs'' => ?_) (by rw [hk]; rfl))
      have hnC : h''.Ns Cc m := hn'.sameBut hs'' sC.1
      refine ⟨m, hnC, fun h₃ hs₃ => ?_⟩
      have b₃ : ButL env h₁ h₃ := fun b o hb e => hs₃.extBut b o (fun q => Nat.lt_irrefl _ (Nat.lt_of_lt_of_le (q ▸ Heap.lt_size e) hC)) (hs''.extBut b o hb (k' b o e))
      have vD : V X h₃ (.ref (h₁.push { cls := .type "list_iterator", data := .fields #[.ref l, .int 0 0] }).objs.size) (.list es) := by
        refine V.mono (h := h') (fun b o nx e hsq => hs₃.extBut b o (fun q => ?_) (hs''.extBut b o (fun q => ?_) e)) (lst_of hl' hX hv.less)
        · obtain ⟨o', es', ep, q1, q2, _⟩ := hn'
          obtain ⟨vs, j, hd⟩ := hsq
          rw [q, q1] at e; cases e; rw [hd] at q2; cases q2
        · obtain ⟨o', es', ep, q1, q2, _⟩ := hn₁
          obtain ⟨vs, j, hd⟩ := hsq
          rw [q, k' _ _ q1] at e; cases e; rw [hd] at q2; cases q2
      exact hQ .next h₃ _ (fun b o e sf => b₃ b o sf.1 (k₁ b o e)) ⟨rfl, ok₁.setLocal' hm₁ hl (hn''.sameBut hs₃ (fun q => sC.1 q.symm)) b₃ vD⟩
end
/-- what a name of the text's top means -/
def NameIs (h₀ : Heap) (x : Str) (v : Value) : Prop := ∃ mg mb, h₀.Ns mainGlobals mg ∧ h₀.Ns builtinsNs mb ∧ (mg x = some v ∨ (mg x = none ∧ mb x = some v))

def CallOk (prog : Program) (w : World) (C : Addr) (h₀ : Heap) (n : Nat) (a : Addr) (es : List Ent) (d : Dat) : Prop :=
  ∀ (X : Addr → Prop) (A : Around) (env : Env) (s : Shared) (Q E : Value → Shared → Prop) (vs : List Value), Room A n → Ext h₀ s.heap → (∀ b, X b → ∃ o, s.heap.get? b = some o) → IsAll C X env s.heap vs es →
    (∀ v h' tk', Ext s.heap h' → V X h' v d → Q v { s with heap := h', toks := tk' }) → wpAny (model prog w) A (call (.ref a) vs) Q E s
def CallB (prog : Program) (w : World) (h₀ : Heap) (f : Value) (ds : List Dat) (d : Dat) : Prop :=
  ∀ (X : Addr → Prop) (A : Around) (s : Shared) (Q E : Value → Shared → Prop) (vs : List Value), Room A 0 → Ext h₀ s.heap → (∀ b, X b → ∃ o, s.heap.get? b = some o) → VA X s.heap vs ds →
    (∀ v h' tk', Ext s.heap h' → V X h' v d → Q v { s with heap := h', toks := tk' }) → wpAny (model prog w) A (call f vs) Q E s

section
variable {prog : Program} {w : World} {C : Addr} {X : Addr → Prop} {h₀ : Heap} {A : Around} {env : Env} {ρ ρ' ρc : List (Str × Ent)}

theorem name_top {x : Str} {pos : Pos} {v : Value} {s : Shared} {Q : Value → Shared → Prop} {E : Value → Shared → Prop} (n : NameIs h₀ x v) (hk : env.scope.kind = .function) (hx : env.kindOf x = some .globalImplicit) (hg : env.globals = mainGlobals) (hb : env.builtins = builtinsNs)
    (hd : (x == ("__debug__" : Str)) = false) (g : Ext h₀ s.heap) (h : Q v s) : wpAny (model prog w) A (eval (.Name x pos) env) Q E s := by
  obtain ⟨mg, mb, h1, h2, h3⟩ := n
  refine Name_function_global hk hx ?_ hd
  rcases h3 with h3 | ⟨h3, h4⟩
  · exact loadGlobal_global (env := env) (by rw [hg]; exact h1.keeps g) h3 h
  · exact loadGlobal_builtin (env := env) (by rw [hg]; exact h1.keeps g) h3 (by rw [hb]; exact h2.keeps g) h4 h

theorem ev_call {f : Str} {fp pos : Pos} {x : Expr} {xs : List Expr} {a : Addr} {o : Obj} {fd : FuncData} {es : List Ent} {d : Dat} {n : Nat} (nm : NameIs h₀ f (.ref a)) (ho : h₀.get? a = some o) (hdata : o.data = .func fd)
    (hk : env.scope.kind = .function) (hx : env.kindOf f = some .globalImplicit) (hg : env.globals = mainGlobals) (hb : env.builtins = builtinsNs) (hd : (f == ("__debug__" : Str)) = false)
    (hargs : EvL prog w C X h₀ A env ρ pos (x :: xs) es) (hc : CallOk prog w C h₀ n a es d) (r : Room A n)
    (he : starEach (x :: xs) env = (false, eval x env) :: starEach xs env)
    (hcl : eval (.Call (.Name f fp) (x :: xs) [] pos) env = (do callWith pos (← eval (.Name f fp) env) [] (backTo pos (starEach (x :: xs) env)) (backToKw pos (keywordEach [] env)))) : Ev prog w C X h₀ A env ρ (.Call (.Name f fp) (x :: xs) [] pos) (.dat d) := by
  intro s Q E g ok hQ
  refine Call_ (name_top nm hk hx hg hb hd g ?_) hcl
  refine callWith_def hdata (hargs s _ E g ok fun vs h' tk' k i => ⟨(k _ _ (g a o ho)), ?_⟩) he
  exact hc X A env _ Q E vs r (g.trans k) (ok.ext k).off i fun v h'' tk'' k' hv => hQ v h'' tk'' (k.trans k') hv
theorem ev_callB {f : Str} {fp pos : Pos} {x : Expr} {xs : List Expr} {id : String} {ds : List Dat} {d : Dat} (nm : NameIs h₀ f (.builtin id))
    (hk : env.scope.kind = .function) (hx : env.kindOf f = some .globalImplicit) (hg : env.globals = mainGlobals) (hb : env.builtins = builtinsNs) (hd : (f == ("__debug__" : Str)) = false)
    (hargs : EvL prog w C X h₀ A env ρ pos (x :: xs) (ds.map .dat)) (hc : CallB prog w h₀ (.builtin id) ds d) (r : Room A 0)
    (he : starEach (x :: xs) env = (false, eval x env) :: starEach xs env) (hplain : (backTo pos (starEach xs env)).any (·.1) = false)
    (hcl : eval (.Call (.Name f fp) (x :: xs) [] pos) env = (do callWith pos (← eval (.Name f fp) env) [] (backTo pos (starEach (x :: xs) env)) (backToKw pos (keywordEach [] env)))) : Ev prog w C X h₀ A env ρ (.Call (.Name f fp) (x :: xs) [] pos) (.dat d) := by
  intro s Q E g ok hQ
  refine Call_ (name_top nm hk hx hg hb hd g ?_) hcl
  refine callWith_builtin1 (hargs s _ E g ok fun vs h' tk' k i => ?_) he hplain
  exact hc X A _ Q E vs r (g.trans k) (ok.ext k).off (forall_VA i) fun v h'' tk'' k' hv => hQ v h'' tk'' (k.trans k') hv

/-- a def's contract, from its body's -/
theorem callOk_of {a : Addr} {o : Obj} {fd : FuncData} {body : List Stmt} {names : List Str} {es : List Ent} {d : Dat} {n : Nat} (ho : h₀.get? a = some o) (hdata : o.data = .func fd) (hlim : h₀.NoLimit) (hcd : h₀.CodeRec fd.code fd.qualname) (hbody : fd.body = .stmts body) (hclo : fd.closure = [])
    (hbind : ∀ vals : List Value, vals.length = es.length → bindArgs fd ⟨vals, []⟩ = pure (names.zip vals)) (hlen : names.length = es.length) (hnd : names.Nodup)
    (hnames : (names.all fun x => fd.scope.names.lookup x == some .local || (fd.scope.names.lookup x == some .cell && ((cellsFrom 0 fd.scope.names []).lookup x).isSome)) = true)
    (hndc : ((cellsFrom 0 fd.scope.names []).map (·.1)).Nodup)
    (hb : ∀ X A L, Room A n → ExB prog w C X h₀ A (callEnvC fd L a) (names.zip es) body (.ret d))
    (hco : fd.scope.isCoroutine = false := by rfl) (hgen : fd.scope.isGenerator = false := by rfl) (hk : fd.scope.kind = .function := by rfl) : CallOk prog w C h₀ (n + 1) a es d := by
  intro X A env s Q E vs r g off i hQ
  exact call_fn (env := env) (by have := r.depth; omega) ho hdata hlim hcd hbody hclo (BindsTo.of_eq (hbind vs i.length)) i hlen hnd hnames hndc (fun L => hb X _ L (r.deeper _)) g off hQ hco hgen hk

theorem exs_while {t : Expr} {body : List Stmt} {pos : Pos} {n : Nat} {ρs : Nat → List (Str × Ent)} (turn : ∀ i, i < n → Tr prog w C X h₀ A env (ρs i) t true ∧ ExB prog w C X h₀ A env (ρs i) body (.next (ρs (i + 1)))) (last : Tr prog w C X h₀ A env (ρs n) t false) (hA : A.mark none = A) :
    ExS prog w C X h₀ A env (ρs 0) (.While t body [] pos) (.next (ρs n)) := by
  intro s Q E g ok hQ
  refine wpAny_While (codeAny_whileLoop (fun k s' => ∃ i h' tk, s' = { s with heap := h', toks := tk } ∧ i ≤ n ∧ k = n + 1 - i ∧ OK C X h₀ env (ρs i) h' ∧ Pres env s.heap h') ?_ (n + 1) ⟨0, s.heap, s.toks, rfl, Nat.zero_le _, rfl, ok, Pres.refl _ _⟩)
  rintro k s' ⟨i, h', tk, rfl, hi, rfl, ok', hp⟩
  have g' : Ext h₀ h' := hp.low ok g
  by_cases hlt : i < n
  · obtain ⟨h1, h2⟩ := turn i hlt
    refine h1 _ _ _ g' ok' fun h₁ t₁ k₁ => ?_
    simp only [if_true]
    refine h2 _ _ _ (g'.trans k₁) (ok'.ext k₁) fun f h₂ t₂ k₂ q => ?_
    obtain ⟨rfl, ok₂⟩ := q
    exact ⟨n + 1 - (i + 1), by omega, i + 1, h₂, t₂, rfl, hlt, rfl, ok₂, hp.trans (k₁.pres.trans k₂)⟩
  · obtain rfl : i = n := by omega
    refine last _ _ _ g' ok' fun h₁ t₁ k₁ => ?_
    simp only [Bool.false_eq_true, if_false]
    exact wpAny_execs_nil (hQ .next h₁ t₁ (hp.trans k₁.pres) ⟨rfl, ok'.ext k₁⟩)

theorem exb_sub {st : List Stmt} {ρ₂ : List (Str × Ent)} (h : ExB prog w C X h₀ A env ρ st (.next ρ')) (hs : ∀ y e, ρ₂.lookup y = some e → ρ'.lookup y = some e) : ExB prog w C X h₀ A env ρ st (.next ρ₂) := by
  intro s Q E g ok hQ
  exact h s Q E g ok fun f h' tk' k q => by
    obtain ⟨rfl, ok'⟩ := q
    exact hQ .next h' tk' k ⟨rfl, ok'.sub hs⟩
theorem ev_sub {t : Sem Value} {e : Ent} {ρ₂ : List (Str × Ent)} (h : EvT prog w C X h₀ A env ρ₂ t e) (hs : ∀ y e, ρ₂.lookup y = some e → ρ.lookup y = some e) : EvT prog w C X h₀ A env ρ t e := fun s Q E g ok hQ => h s Q E g (ok.sub hs) hQ
end
theorem small {l : List Dat} {n : Nat} (h : l.length = n) (hn : n ≤ 64) : l.length ≤ sizeLine := by rw [sizeLine_eq]; omega

theorem small1 {a : Dat} : [a].length ≤ sizeLine := small (n := 1) rfl (by decide)
theorem small2 {a b : Dat} : [a, b].length ≤ sizeLine := small (n := 2) rfl (by decide)
theorem small3 {a b c : Dat} : [a, b, c].length ≤ sizeLine := small (n := 3) rfl (by decide)
section
variable {prog : Program} {w : World} {C : Addr} {X : Addr → Prop} {h₀ : Heap} {A : Around} {env : Env} {ρ ρ' ρc : List (Str × Ent)}

theorem evD_nil {pos : Pos} : EvL prog w C X h₀ A env ρ pos [] (([] : List Dat).map .dat) := evL_nil
theorem evD_cons {pos : Pos} {x : Expr} {xs : List Expr} {d : Dat} {ds : List Dat} (hx : Ev prog w C X h₀ A env ρ x (.dat d)) (hxs : EvL prog w C X h₀ A env ρ pos xs (ds.map .dat)) (he : starEach (x :: xs) env = (false, eval x env) :: starEach xs env) :
    EvL prog w C X h₀ A env ρ pos (x :: xs) ((d :: ds).map .dat) := evL_cons hx hxs he
theorem ev_item0 {x : Expr} {p2 p3 : Pos} {j : Nat} {d : Dat} {ds : List Dat} (hx : Ev prog w C X h₀ A env ρ x (.dat (.tuple (d :: ds)))) : Ev prog w C X h₀ A env ρ (.Subscript x (.Constant (.int 0) j p2) p3) (.dat d) :=
  ev_item_tup (k := 0) hx ev_int rfl (by decide) (fun _ _ => by rfl)
theorem ev_item1 {x : Expr} {p2 p3 : Pos} {j : Nat} {d0 d : Dat} {ds : List Dat} (hx : Ev prog w C X h₀ A env ρ x (.dat (.tuple (d0 :: d :: ds)))) : Ev prog w C X h₀ A env ρ (.Subscript x (.Constant (.int 1) j p2) p3) (.dat d) :=
  ev_item_tup (k := 1) hx ev_int rfl (by decide) (fun _ _ => by rfl)
theorem ev_item2 {x : Expr} {p2 p3 : Pos} {j : Nat} {d0 d1 d : Dat} {ds : List Dat} (hx : Ev prog w C X h₀ A env ρ x (.dat (.tuple (d0 :: d1 :: d :: ds)))) : Ev prog w C X h₀ A env ρ (.Subscript x (.Constant (.int 2) j p2) p3) (.dat d) :=
  ev_item_tup (k := 2) hx ev_int rfl (by decide) (fun _ _ => by rfl)
theorem ev_head {x : Expr} {p2 p3 : Pos} {j : Nat} {d : Dat} {ds : List Dat} (hx : Ev prog w C X h₀ A env ρ x (.dat (.list (d :: ds)))) : Ev prog w C X h₀ A env ρ (.Subscript x (.Constant (.int 0) j p2) p3) (.dat d) :=
  ev_item_list (k := 0) hx ev_int rfl (by decide) (fun _ _ => by rfl)
theorem ev_second {x : Expr} {p2 p3 : Pos} {j : Nat} {d0 d : Dat} {ds : List Dat} (hx : Ev prog w C X h₀ A env ρ x (.dat (.list (d0 :: d :: ds)))) : Ev prog w C X h₀ A env ρ (.Subscript x (.Constant (.int 1) j p2) p3) (.dat d) :=
  ev_item_list (k := 1) hx ev_int rfl (by decide) (fun _ _ => by rfl)
end

section
variable {prog : Program} {w : World} {h₀ : Heap}
theorem cb_len {ds : List Dat} (hz : ds.length < 2 ^ 62) : CallB prog w h₀ (.builtin "len") [.list ds] (.int ds.length) := by
  intro X A s Q E vs r g off hv hQ
  cases hv with
  | cons a t =>
    cases t
    cases a with
    | lst na e va =>
      refine PyProof.Rows.len_list (lstIs e) (by rw [List.size_toArray, va.length]; omega) ?_
      rw [List.size_toArray, va.length]
      exact hQ _ s.heap _ (Ext.refl _) (.int _ _)
theorem cb_min {ns : List Int} {M : Int} (gr : Gr h₀) (h1 : M ∈ ns) (h2 : ∀ a ∈ ns, M ≤ a) : CallB prog w h₀ (.builtin "min") [.list (ns.map .int)] (.int M) := by
  intro X A s Q E vs r g off hv hQ
  cases hv with
  | cons a t =>
    cases t
    cases a with
    | lst na e va =>
      refine mono_of (by_frames (R := fun v s' => ∃ M' t h' tk', v = .int M' t ∧ s' = { s with heap := h', toks := tk' } ∧ M' ∈ ns ∧ ∀ a ∈ ns, M' ≤ a) g gr fun L m news F N => min_list_N r.hh F N (lstIs e) (VA.ints va) (List.length_pos_of_mem h1) fun h' M' t tk F' N' a1 a2 => ⟨⟨M', t, h', tk, rfl, rfl, a1, a2⟩, N'⟩) ?_
      rintro v s' ⟨⟨M', t, h', tk', rfl, rfl, a1, a2⟩, k⟩
      have : M' = M := Int.le_antisymm (a2 M h1) (h2 M' a1)
      subst this
      exact hQ _ h' tk' k (.int _ _)
theorem cb_max {a b : Int} : CallB prog w h₀ (.builtin "max") [.int a, .int b] (.int (if b > a then b else a)) := by
  intro X A s Q E vs r g off hv hQ
  cases hv with
  | cons x t =>
    cases t with
    | cons y t =>
      cases t
      cases x; cases y
      refine max_two_ints r.hh fun h' tk k => ?_
      by_cases c : b > a
      · rw [if_pos c] at hQ ⊢; exact hQ _ h' tk k (.int _ _)
      · rw [if_neg c] at hQ ⊢; exact hQ _ h' tk k (.int _ _)
theorem cb_sum {ns : List Int} : CallB prog w h₀ (.builtin "sum") [.list (ns.map .int)] (.int ns.sum) := by
  intro X A s Q E vs r g off hv hQ
  cases hv with
  | cons a t =>
    cases t
    cases a with
    | lst na e va =>
      have hi := VA.ints va
      obtain ⟨xs, q⟩ := hi.allInts.items
      have hns : ns = xs.toList.map (·.1) := by
        rw [← hi.numsOf, ← nums_intItems, ← q]
      refine sum_intListG r.hh (by rw [← q]; exact lstIs e) fun h' tk t' k => ?_
      rw [preSum_eq, List.take_of_length_le (by simp), ← hns]
      exact hQ _ h' tk k (.int _ _)
theorem o_mod {X : Addr → Prop} {A : Around} {a b : Int} (hb : b ≠ 0) : Op2 prog w X h₀ A (binaryOp .Mod) (.int a) (.int b) (.int (a.fmod b)) := by intro s Q E v u _ _ hv hu hQ; cases hv; cases hu; exact mod_int' hb (hQ _ s.heap _ (Ext.refl _) (.int _ _))
theorem o_div {X : Addr → Prop} {A : Around} {a b : Int} (hb : b ≠ 0) (hp : Builtin.divisionGoesByPylong a b = false) : Op2 prog w X h₀ A (binaryOp .FloorDiv) (.int a) (.int b) (.int (a.fdiv b)) := by intro s Q E v u _ _ hv hu hQ; cases hv; cases hu; exact floordiv_int hb (hQ _ s.heap _ (Ext.refl _) (.int _ _)) (.inl hp)
theorem o_mul {X : Addr → Prop} {A : Around} {a b : Int} (hm : PySem.IntMulOk a b) : Op2 prog w X h₀ A (binaryOp .Mult) (.int a) (.int b) (.int (a * b)) := by intro s Q E v u _ _ hv hu hQ; cases hv; cases hu; exact PyProof.Rows.mul_int (hQ _ s.heap _ (Ext.refl _) (.int _ _)) hm
end
/-- what the class at C is -/
structure ClsC (K : Frag) (h₀ : Heap) (C fC : Addr) : Prop where
  here : K.In h₀
  plain : plainGet K C (Str.ofString "compare") = true
  has : hasDictIn K C = true
  meth : findIn K (.ref C) (Str.ofString "compare") = some (some (.ref fC))
  fn : isFn K (.ref fC) = true
  noAttr : findIn K (.ref C) (Str.ofString "comp_select_list") = some none
  obj : ∃ o fd, h₀.get? fC = some o ∧ o.data = .func fd

section
variable {prog : Program} {w : World} {C : Addr} {X : Addr → Prop} {h₀ : Heap} {A : Around} {env : Env} {ρ ρ' ρc : List (Str × Ent)} {K : Frag} {fC : Addr}

theorem told_inst {h : Heap} {a : Addr} {Z : Addr → Prop} (t : ToldAt C h a Z) : ∃ ky kt l n, InstAt h a (instObj C (t.told.choose)) C (some (dictOf [⟨ky, .str (Str.ofString "comp_select_list") kt, .ref l⟩] n)) := by
  obtain ⟨l, tt, ky, kt, n, k, q, u, u', e1, e2, _⟩ := t.told.choose_spec
  exact ⟨ky, kt, l, n, e1, rfl, rfl, e2⟩
theorem ev_told {x : Str} {xp apos pos : Pos} {y z : Expr} {d1 d2 d : Dat} {n : Nat} (cc : ClsC K h₀ C fC) (hρ : ρ.lookup x = some .told) (hk : env.scope.kind = .function) (hl : env.kindOf x = some .local) (hd : (x == ("__debug__" : Str)) = false)
    (hy : Ev prog w C X h₀ A env ρ y (.dat d1)) (hz : Ev prog w C X h₀ A env ρ z (.dat d2)) (hc : CallOk prog w C h₀ n fC [.told, .dat d1, .dat d2] d) (r : Room A n)
    (he1 : starEach [y, z] env = (false, eval y env) :: starEach [z] env) (he2 : starEach [z] env = (false, eval z env) :: starEach [] env) (pl : Sem Bool)
    (he : eval (.Call (.Attribute (.Name x xp) (Str.ofString "compare") apos) [y, z] [] pos) env = (do
      let ov ← eval (.Name x xp) env
      standAt apos.atName
      let (f, first) ← holding [ov] (getMethod ov (Str.ofString "compare") pl)
      callWith pos f first (backTo pos (starEach [y, z] env)) [])) : Ev prog w C X h₀ A env ρ (.Call (.Attribute (.Name x xp) (Str.ofString "compare") apos) [y, z] [] pos) (.dat d) := by
  intro s Q E g ok hQ
  obtain ⟨o, fd, ho, hdat⟩ := cc.obj
  refine MethodCall_ (pl := pl) (ev_local (e := .told) hρ hk hl hd s _ E g ok fun v h₁ t₁ k₁ i₁ => ?_) he
  obtain ⟨a, rfl, ta⟩ := i₁
  obtain ⟨ky, kt, l, nn, I⟩ := told_inst ta
  refine method_fn (cc.here.keeps (g.trans k₁)) I (plainGet_of cc.plain).1 (plainGet_of cc.plain).2 cc.meth (beq_iff_eq.mp cc.fn) ?_ ?_
  · have q : getL (Str.ofString "compare") [⟨ky, .str (Str.ofString "comp_select_list") kt, .ref l⟩] = some none := by rfl
    unfold shadowIn
    dsimp only
    rw [lookIn_dict, q]; rfl
  · refine callWith_meth hdat ho ((evL_cons (es := [.dat d2]) hy (evL_cons hz evL_nil he2) he1) _ _ E (g.trans k₁) (ok.ext k₁) fun vs h₂ t₂ k₂ i₂ => ⟨fun b o e => k₂ b o (k₁ b o (g b o e)), ?_⟩) he1
    refine hc X A env _ Q E _ r (g.trans (k₁.trans k₂)) ((ok.ext (k₁.trans k₂)).off) (.cons ⟨a, rfl, ?_⟩ i₂) fun v h₃ t₃ k₃ hv => hQ v h₃ t₃ (k₁.trans (k₂.trans k₃)) hv
    exact ta.keep (fun b o e _ => k₂ b o e) fun _ _ y => y
theorem ev_list_attr {x : Str} {xp pos : Pos} (cc : ClsC K h₀ C fC) (hρ : ρ.lookup x = some .told) (hk : env.scope.kind = .function) (hl : env.kindOf x = some .local) (hd : (x == ("__debug__" : Str)) = false)
    (he : eval (.Attribute (.Name x xp) (Str.ofString "comp_select_list") pos) env = (do
      let o ← eval (.Name x xp) env
      standAt pos.atName
      let r ← holding [o] (getAttr o (Str.ofString "comp_select_list") true)
      letTemporaryGo (.Name x xp) o r
      pure r)) : Ev prog w C X h₀ A env ρ (.Attribute (.Name x xp) (Str.ofString "comp_select_list") pos) (.dat (.list [.tuple [.int 1, .int 1]])) := by
  intro s Q E g ok hQ
  refine Attribute_Name_ (ev_local (e := .told) hρ hk hl hd s _ E g ok fun v h₁ t₁ k₁ i₁ => ?_) he
  obtain ⟨a, rfl, dx, l, t, ky, kt, n, k, q, u, u', e1, e2, e3, e4, n1, n2, n3, n4⟩ := i₁
  have I : InstAt h₁ a (instObj C dx) C (some (dictOf [⟨ky, .str (Str.ofString "comp_select_list") kt, .ref l⟩] n)) := ⟨e1, rfl, rfl, e2⟩
  refine get_value (cc.here.keeps (g.trans k₁)) I (plainGet_of cc.plain).1 (findObj_own cc.has cc.noAttr (by rfl) (v := .ref l) (by rw [lookIn_dict]; rfl)) (by rfl) ?_
  exact hQ _ h₁ _ k₁ (.lst n3.2 e3 (.cons (.tup n4.2 e4 (.cons (.int _ _) (.cons (.int _ _) .nil))) .nil))

theorem exs_for_ret {t x : Expr} {body : List Stmt} {pos : Pos} {d r : Dat} {ds : List Dat} {ρ1 : List (Str × Ent)} (ht : plainTarget t = true) (hx : Ev prog w C X h₀ A env ρ x (.dat (.list (d :: ds))))
    (h1 : As prog w C X h₀ A env ρ t (.dat d) ρ1) (h2 : ExB prog w C X h₀ A env ρ1 body (.ret r)) (hh : A.handled = none)
    (hs : ∀ y, foldedSetIterable x env y = pure y) : ExS prog w C X h₀ A env ρ (.For t x body [] pos) (.ret r) := by
  intro s Q E g ok hQ
  refine wpAny_For (hx s _ E g ok fun v h₁ t₁ k₁ i₁ => ?_) hs
  cases i₁ with
  | lst na e va =>
    rename_i l ws n
    have ok₁ := ok.ext k₁
    refine wpAny_pyIter_list (lstIs e) ?_
    have fs := fresh_safe ok₁ (Nat.le_refl h₁.objs.size)
    have kk : Ext h₁ (h₁.push { cls := .type "list_iterator", data := .fields #[.ref l, .int 0 0] }) := fun b o e => Heap.get?_push_of_some _ e
    have hne : l ≠ h₁.objs.size := Nat.ne_of_lt (Heap.lt_size e)
    have Wi : It prog w A X t h₁.objs.size [h₁.objs.size] (d :: ds).length (fun i h => h.IsListIter h₁.objs.size l i ∧ h.get? l = some (W.listOf ws.toArray n) ∧ VA X h ws (d :: ds)) (fun i => (d :: ds).getD i Dat.none) := It.list hh ht hne na
    have st0 : (h₁.push { cls := .type "list_iterator", data := .fields #[.ref l, .int 0 0] }).IsListIter h₁.objs.size l 0 ∧ (h₁.push { cls := .type "list_iterator", data := .fields #[.ref l, .int 0 0] }).get? l = some (W.listOf ws.toArray n) ∧ VA X (h₁.push { cls := .type "list_iterator", data := .fields #[.ref l, .int 0 0] }) ws (d :: ds) :=
      ⟨⟨_, Heap.get?_push_size _ rfl, rfl, rfl⟩, kk _ _ e, va.mono kk.seq⟩
    refine my_forLoop (fun k s' => s' = { s with heap := h₁.push { cls := .type "list_iterator", data := .fields #[.ref l, .int 0 0] }, toks := t₁ }) ?_ 1 rfl
    rintro k s' rfl E'
    refine wpAny_mono (Wi.item 0 _ (forK prog w A (fun r s' => match r with | .ok f => Q f s' | .error e => cameBackBy (model prog w) A env E e s') t body env (fun k s' => s' = { s with heap := h₁.push { cls := .type "list_iterator", data := .fields #[.ref l, .int 0 0] }, toks := t₁ }) k E') E' (Nat.succ_pos _) st0 (ok₁.ext kk).off fun v h₂ t₂ kb st₂ hv => ?_) (fun r s₁ q => ?_) fun _ _ e => e
    · have f0 := Wi.flds 0 _ st0
      have ok₂ : OK C X h₀ env ρ h₂ := (ok₁.ext kk).but kb f0 (fun b hb => by rw [List.mem_singleton.mp hb]; exact fs.2.1)
      have b₂ : Ext h₁ h₂ := fun b o e => kb b o (fun hb => by have := Heap.lt_size e; rw [List.mem_singleton.mp hb] at this; exact Nat.lt_irrefl _ this) (kk b o e)
      unfold forK
      refine h1 _ _ E' v (g.trans (k₁.trans b₂)) ok₂ hv fun h₃ t₃ k₃ ok₃ => ?_
      refine h2 _ _ E' (k₃.low ok₂ (g.trans (k₁.trans b₂))) ok₃ fun f h₄ t₄ k₄ q => ?_
      obtain ⟨u, rfl, hu⟩ := q
      exact hQ _ h₄ t₄ ((k₁.trans b₂).pres.trans (k₃.trans k₄)) ⟨u, rfl, hu⟩
    · obtain ⟨v, rfl, q⟩ := q
      exact q
end
local macro_rules | `(tactic| kd_in) => `(tactic| first
  | ((with_reducible refine' ev_local ?h1 ?h2 ?h3 ?h4); (case h1 => exact rfl); (case h2 => exact rfl); (case h3 => exact rfl); (case h4 => exact rfl))
  | with_reducible exact ev_int
  | ((with_reducible refine' ev_localA ?h1 ?h2 ?h3 ?h4); (case h1 => exact rfl); (case h2 => exact rfl); (case h3 => exact rfl); (case h4 => exact rfl))
  | with_reducible exact ev_none
  | with_reducible exact ev_bool
  | ((with_reducible refine' ev_item0 ?hx); (case hx => kd_in))
  | ((with_reducible refine' ev_item1 ?hx); (case hx => kd_in))
  | ((with_reducible refine' ev_item2 ?hx); (case hx => kd_in))
  | ((with_reducible refine' ev_cell ?h1 ?h2 ?h3 ?h4); (case h1 => exact rfl); (case h2 => exact rfl); (case h3 => exact rfl); (case h4 => exact rfl))
  | ((with_reducible refine' ev_free ?h1 ?h2 ?h3 ?h4 ?h5); (case h1 => exact rfl); (case h2 => exact rfl); (case h3 => exact rfl); (case h4 => exact rfl); (case h5 => exact rfl))
  | fail "kd_in: no way")
local macro_rules | `(tactic| kd_all) => `(tactic| first
  | with_reducible exact evL_nil
  | with_reducible exact evD_nil
  | ((with_reducible refine' evD_cons ?h1 ?h2 ?h3); (case h1 => kd_in); (case h2 => kd_all); (case h3 => exact rfl))
  | ((with_reducible refine' evL_cons ?h1 ?h2 ?h3); (case h1 => kd_in); (case h2 => kd_all); (case h3 => exact rfl))
  | fail "kd_all: no way")
def stmtOf (i : Nat) : Stmt := (PySem.Challenge.pw_he0001_01.main.body[i]?).getD (.Pass default)
def memOf (j : Nat) : Stmt → Stmt
  | .ClassDef _ _ _ body _ _ _ _ _ _ _ => (body[j]?).getD (.Pass default)
  | s => s
def bodyS : Stmt → List Stmt
  | .FunctionDef _ _ body _ _ _ _ _ _ _ => body
  | _ => []
def scopeS : Stmt → Scope
  | .FunctionDef _ _ _ _ _ _ scope _ _ _ => scope
  | _ => default
abbrev fnBody (i : Nat) : List Stmt := bodyS (stmtOf i)
abbrev scOf (i : Nat) : Scope := scopeS (stmtOf i)

inductive T where
  | nil
  | node (k r : Int) (l m : T)
def T.size : T → Nat
  | .nil => 0
  | .node _ _ l m => l.size + m.size + 1
def pr (k r : Int) : Dat := .tuple [.int k, .int r]
def enc : T → Dat
  | .nil => .none
  | .node k r l m => .tuple [pr k r, enc l, enc m]
def rowsD : T → List Dat → List Dat
  | .nil, _ => []
  | .node k r l m, ab => rowsD l (ab ++ [pr k r]) ++ [.tuple [pr k r, .list ab]] ++ rowsD m (ab ++ [pr k r])
theorem rowsD_len : ∀ (t : T) (ab : List Dat), (rowsD t ab).length = t.size
  | .nil, _ => rfl
  | .node k r l m, ab => by simp only [rowsD, List.length_append, rowsD_len l, rowsD_len m, List.length_cons, List.length_nil, T.size]; omega
theorem isNone_enc : ∀ t : T, isNone (enc t) = (match t with | .nil => true | _ => false)
  | .nil => rfl
  | .node .. => rfl

/-- a def of the top stands -/
structure Stands (h₀ : Heap) (i : Nat) (f : Str) (names : List Str) (a : Addr) : Prop where
  name : NameIs h₀ f (.ref a)
  here : ∃ o fd, h₀.get? a = some o ∧ o.data = .func fd ∧ h₀.CodeRec fd.code fd.qualname ∧ fd.body = .stmts (fnBody i) ∧ fd.closure = [] ∧ fd.scope = scOf i ∧ fd.globals = mainGlobals ∧ fd.builtins = builtinsNs ∧
    ∀ vals : List Value, vals.length = names.length → bindArgs fd ⟨vals, []⟩ = pure (names.zip vals)
  nolimit : h₀.NoLimit

section
variable {prog : Program} {w : World} {C : Addr} {h₀ : Heap} {f : Str} {names : List Str} {a : Addr} {i : Nat}

theorem Stands.ok (S : Stands h₀ i f names a) {es : List Ent} {d : Dat} {n : Nat} (hlen : names.length = es.length) (hnd : names.Nodup)
    (hnames : (names.all fun x => (scOf i).names.lookup x == some .local || ((scOf i).names.lookup x == some .cell && ((cellsFrom 0 (scOf i).names []).lookup x).isSome)) = true)
    (hndc : ((cellsFrom 0 (scOf i).names []).map (·.1)).Nodup) (hco : (scOf i).isCoroutine = false) (hgen : (scOf i).isGenerator = false) (hk : (scOf i).kind = .function)
    (hb : ∀ X A L q cd, Room A n → ExB prog w C X h₀ A (envOfC q (scOf i) L a cd) (names.zip es) (fnBody i) (.ret d)) : CallOk prog w C h₀ (n + 1) a es d := by
  obtain ⟨o, fd, ho, hd, hcd, hbd, hcl, hsc, hgl, hbi, hbind⟩ := S.here
  refine callOk_of ho hd S.nolimit hcd hbd hcl (fun vals h => hbind vals (h.trans hlen.symm)) hlen hnd (by rw [hsc]; exact hnames) (by rw [hsc]; exact hndc) (fun X A L r => ?_) (by rw [hsc]; exact hco) (by rw [hsc]; exact hgen) (by rw [hsc]; exact hk)
  have e : callEnvC fd L a = envOfC fd.qualname (scOf i) L a fd.code := by
    unfold callEnvC newEnv envOfC
    rw [hsc, hgl, hbi]
  rw [e]
  exact hb X A L _ _ r
theorem Stands.at (S : Stands h₀ i f names a) : ∃ o fd, h₀.get? a = some o ∧ o.data = .func fd := let ⟨o, fd, ho, hd, _⟩ := S.here; ⟨o, fd, ho, hd⟩
end

section
variable {prog : Program} {w : World} {C : Addr} {X : Addr → Prop} {h₀ : Heap} {A : Around} {q : Str} {cd : Value} {L a : Addr}

abbrev rowsNames : List Str := [Str.ofString "tree", Str.ofString "above"]
theorem rows_ok {aR : Addr} (gr : Gr h₀) (S : Stands h₀ 10 (Str.ofString "_law_rows") rowsNames aR) : ∀ (t : T) (ab : List Dat) (n : Nat), t.size < n → ab.length + t.size + 4 ≤ sizeLine →
    CallOk prog w C h₀ n aR [.dat (enc t), .dat (.list ab)] (.list (rowsD t ab))
  | t, ab, 0, h, _ => absurd h (Nat.not_lt_zero _)
  | .nil, ab, n + 1, h, hz => by
    refine S.ok rfl (by decide) (by decide) (by decide) rfl rfl rfl fun X A L q cd r => ?_
    exact exb_ret (exs_if (b := true) (tr_cmp (a := .none) (b := .none) (by kd_in) (by kd_in) o_is (by rfl)) (fun _ => exb_ret (exs_return (ev_list (ds := []) evL_nil (Nat.zero_le _)))) (fun h => by cases h))
  | .node k r l m, ab, n + 1, h, hz => by
    have hl := rows_ok gr S l (ab ++ [pr k r]) n (by simp only [T.size] at h; omega) (by simp only [T.size, List.length_append, List.length_cons, List.length_nil] at hz ⊢; omega)
    have hm := rows_ok gr S m (ab ++ [pr k r]) n (by simp only [T.size] at h; omega) (by simp only [T.size, List.length_append, List.length_cons, List.length_nil] at hz ⊢; omega)
    have zl := rowsD_len l (ab ++ [pr k r])
    have zm := rowsD_len m (ab ++ [pr k r])
    simp only [T.size] at hz
    refine S.ok rfl (by decide) (by decide) (by decide) rfl rfl rfl fun X A L q cd room => ?_
    obtain ⟨o, fd, ho, hdat⟩ := S.at
    refine exb_next (exs_if (b := false) (tr_cmp (a := enc (.node k r l m)) (b := .none) (by kd_in) (by kd_in) o_is (by rfl)) (fun h => by cases h) (fun _ => exb_nil)) ?_
    refine exb_ret (exs_return (ev_bin (a := .list (rowsD l (ab ++ [pr k r]) ++ [.tuple [pr k r, .list ab]])) (b := .list (rowsD m (ab ++ [pr k r]))) (ev_bin (a := .list (rowsD l (ab ++ [pr k r]))) (b := .list [.tuple [pr k r, .list ab]])
      ?_ ?_ (o_addL gr ?_)) ?_ (o_addL gr ?_)))
    · exact ev_call S.name ho hdat (by rfl) (by rfl) (by rfl) (by rfl) (by rfl) (evL_cons (by kd_in) (evL_cons (ev_bin (a := .list ab) (b := .list [pr k r]) (by kd_in) (ev_list (ds := [_]) (by kd_all) small1) (o_addL gr (by simp only [List.length_cons, List.length_nil]; omega))) evL_nil (by rfl)) (by rfl)) hl room (by rfl) (by rfl)
    · exact ev_list (ds := [_]) (evL_cons (ev_tuple (ds := [_, _]) (by kd_all) small2) evL_nil (by rfl)) small1
    · simp only [List.length_cons, List.length_nil]; omega
    · exact ev_call S.name ho hdat (by rfl) (by rfl) (by rfl) (by rfl) (by rfl) (evL_cons (by kd_in) (evL_cons (ev_bin (a := .list ab) (b := .list [pr k r]) (by kd_in) (ev_list (ds := [_]) (by kd_all) small1) (o_addL gr (by simp only [List.length_cons, List.length_nil]; omega))) evL_nil (by rfl)) (by rfl)) hm room (by rfl) (by rfl)
    · simp only [List.length_append, List.length_cons, List.length_nil]; omega
end
def cmpI (x y : Int) : Int := if x < y then -1 else if y < x then 1 else 0
theorem cmpI_neg (x y : Int) : decide (cmpI x y < 0) = decide (x < y) := by
  unfold cmpI
  by_cases h : x < y
  · simp [h]
  · rw [if_neg h]
    by_cases h' : y < x
    · simp [h, h']
    · simp [h, h']

section
variable {prog : Program} {w : World} {C : Addr} {X : Addr → Prop} {h₀ : Heap} {A : Around} {env : Env} {ρ : List (Str × Ent)}
theorem ev_neg {x : Expr} {pos : Pos} {i : Int} (hx : Ev prog w C X h₀ A env ρ x (.dat (.int i))) : Ev prog w C X h₀ A env ρ (.UnaryOp .USub x pos) (.dat (.int (-i))) := by
  intro s Q E g ok hQ
  refine UnaryOp_ (hx s _ E g ok fun v h₁ t₁ k₁ i₁ => ?_)
  cases i₁
  exact PyProof.Rows.neg_int (hQ _ h₁ _ k₁ (.int _ _))
end

abbrev cmpNames : List Str := [Str.ofString "self", Str.ofString "left", Str.ofString "right"]
abbrev cmpStmt : Stmt := memOf 1 (stmtOf 4)

/-- a method stands -/
structure StandsM (h₀ : Heap) (names : List Str) (a : Addr) (st : Stmt) : Prop where
  here : ∃ o fd, h₀.get? a = some o ∧ o.data = .func fd ∧ h₀.CodeRec fd.code fd.qualname ∧ fd.body = .stmts (bodyS st) ∧ fd.closure = [] ∧ fd.scope = scopeS st ∧ fd.globals = mainGlobals ∧ fd.builtins = builtinsNs ∧
    ∀ vals : List Value, vals.length = names.length → bindArgs fd ⟨vals, []⟩ = pure (names.zip vals)
  nolimit : h₀.NoLimit
section
variable {prog : Program} {w : World} {C : Addr} {h₀ : Heap} {names : List Str} {a : Addr} {st : Stmt}
theorem StandsM.ok (S : StandsM h₀ names a st) {es : List Ent} {d : Dat} {n : Nat} (hlen : names.length = es.length) (hnd : names.Nodup)
    (hnames : (names.all fun x => (scopeS st).names.lookup x == some .local || ((scopeS st).names.lookup x == some .cell && ((cellsFrom 0 (scopeS st).names []).lookup x).isSome)) = true)
    (hndc : ((cellsFrom 0 (scopeS st).names []).map (·.1)).Nodup) (hco : (scopeS st).isCoroutine = false) (hgen : (scopeS st).isGenerator = false) (hk : (scopeS st).kind = .function)
    (hb : ∀ X A L q cd, Room A n → ExB prog w C X h₀ A (envOfC q (scopeS st) L a cd) (names.zip es) (bodyS st) (.ret d)) : CallOk prog w C h₀ (n + 1) a es d := by
  obtain ⟨o, fd, ho, hd, hcd, hbd, hcl, hsc, hgl, hbi, hbind⟩ := S.here
  refine callOk_of ho hd S.nolimit hcd hbd hcl (fun vals h => hbind vals (h.trans hlen.symm)) hlen hnd (by rw [hsc]; exact hnames) (by rw [hsc]; exact hndc) (fun X A L r => ?_) (by rw [hsc]; exact hco) (by rw [hsc]; exact hgen) (by rw [hsc]; exact hk)
  have e : callEnvC fd L a = envOfC fd.qualname (scopeS st) L a fd.code := by
    unfold callEnvC newEnv envOfC
    rw [hsc, hgl, hbi]
  rw [e]
  exact hb X A L _ _ r
end

section
variable {prog : Program} {w : World} {C : Addr} {h₀ : Heap} {K : Frag} {fC : Addr}
theorem cmp_ok (cc : ClsC K h₀ C fC) (S : StandsM h₀ cmpNames fC cmpStmt) (n : Nat) (k x k' y : Int) : CallOk prog w C h₀ (n + 1) fC [.told, .dat (pr k x), .dat (pr k' y)] (.int (cmpI x y)) := by
  refine S.ok rfl (by decide) (by decide) (by decide) rfl rfl rfl fun X A L q cd r => ?_
  have src : ∀ {p1 p2}, Ev prog w C X h₀ A (envOfC q (scopeS cmpStmt) L fC cd) (cmpNames.zip [.told, .dat (pr k x), .dat (pr k' y)]) (.Attribute (.Name (Str.ofString "self") p1) (Str.ofString "comp_select_list") p2) (.dat (.list [.tuple [.int 1, .int 1]])) := fun {p1 p2} =>
    ev_list_attr cc (by rfl) (by rfl) (by rfl) (by rfl) (by rfl)
  have one : (1 : Int) = ((1 : Nat) : Int) := rfl
  by_cases h1 : x < y
  · refine exb_ret (exs_for_ret (d := .tuple [.int 1, .int 1]) rfl src (as_tuple r.hh (asL_cons (as_local rfl rfl) (asL_cons (as_local rfl rfl) asL_nil rfl) rfl) rfl rfl) ?_ r.hh (fun _ => rfl))
    refine exb_next (exs_assign (e := .dat (.int x)) (ev_item_tup (k := 1) (ds := [.int k, .int x]) (by kd_in) (by kd_in) rfl (by decide) (fun _ _ => rfl)) (as_local rfl rfl) rfl rfl rfl) ?_
    refine exb_next (exs_assign (e := .dat (.int y)) (ev_item_tup (k := 1) (ds := [.int k', .int y]) (by kd_in) (by kd_in) rfl (by decide) (fun _ _ => rfl)) (as_local rfl rfl) rfl rfl rfl) ?_
    refine exb_ret (exs_if (b := true) (tr_cmp (by kd_in) (by kd_in) (by have := o_lt (prog := prog) (w := w) (X := X) (h₀ := h₀) (A := A) (a := x) (b := y); rw [decide_eq_true h1] at this; exact this) rfl) (fun _ => exb_ret (exs_return ?_)) (fun h => by cases h))
    unfold cmpI
    rw [if_pos h1]
    exact ev_neg (by kd_in)
  · by_cases h2 : y < x
    · refine exb_ret (exs_for_ret (d := .tuple [.int 1, .int 1]) rfl src (as_tuple r.hh (asL_cons (as_local rfl rfl) (asL_cons (as_local rfl rfl) asL_nil rfl) rfl) rfl rfl) ?_ r.hh (fun _ => rfl))
      refine exb_next (exs_assign (e := .dat (.int x)) (ev_item_tup (k := 1) (ds := [.int k, .int x]) (by kd_in) (by kd_in) rfl (by decide) (fun _ _ => rfl)) (as_local rfl rfl) rfl rfl rfl) ?_
      refine exb_next (exs_assign (e := .dat (.int y)) (ev_item_tup (k := 1) (ds := [.int k', .int y]) (by kd_in) (by kd_in) rfl (by decide) (fun _ _ => rfl)) (as_local rfl rfl) rfl rfl rfl) ?_
      refine exb_next (exs_if (b := false) (tr_cmp (by kd_in) (by kd_in) (by have := o_lt (prog := prog) (w := w) (X := X) (h₀ := h₀) (A := A) (a := x) (b := y); rw [decide_eq_false h1] at this; exact this) rfl) (fun h => by cases h) (fun _ => exb_nil)) ?_
      refine exb_ret (exs_if (b := true) (tr_cmp (by kd_in) (by kd_in) (by have := o_gt (prog := prog) (w := w) (X := X) (h₀ := h₀) (A := A) (a := x) (b := y); rw [decide_eq_true h2] at this; exact this) rfl) (fun _ => exb_ret (exs_return ?_)) (fun h => by cases h))
      unfold cmpI
      rw [if_neg h1, if_pos h2]
      kd_in
    · refine exb_next (exs_for (ds := [.tuple [.int 1, .int 1]]) (ρs := fun _ => cmpNames.zip [.told, .dat (pr k x), .dat (pr k' y)]) r.hh rfl src (fun i d hd => ?_) (fun _ => rfl)) ?_
      · have hd' : d = .tuple [.int 1, .int 1] := by
          cases i with
          | zero => simpa using hd.symm
          | succ i => simp at hd
        subst hd'
        refine ⟨_, as_tuple r.hh (asL_cons (as_local rfl rfl) (asL_cons (as_local rfl rfl) asL_nil rfl) rfl) rfl rfl, exb_sub (ρ' := (Str.ofString "r", .dat (.int y)) :: (Str.ofString "l", .dat (.int x)) :: (Str.ofString "direction", .dat (.int 1)) :: (Str.ofString "index", .dat (.int 1)) :: cmpNames.zip [.told, .dat (pr k x), .dat (pr k' y)]) ?_ ?_⟩
        · refine exb_next (exs_assign (e := .dat (.int x)) (ev_item_tup (k := 1) (ds := [.int k, .int x]) (by kd_in) (by kd_in) rfl (by decide) (fun _ _ => rfl)) (as_local rfl rfl) rfl rfl rfl) ?_
          refine exb_next (exs_assign (e := .dat (.int y)) (ev_item_tup (k := 1) (ds := [.int k', .int y]) (by kd_in) (by kd_in) rfl (by decide) (fun _ _ => rfl)) (as_local rfl rfl) rfl rfl rfl) ?_
          refine exb_next (exs_if (b := false) (tr_cmp (by kd_in) (by kd_in) (by have := o_lt (prog := prog) (w := w) (X := X) (h₀ := h₀) (A := A) (a := x) (b := y); rw [decide_eq_false h1] at this; exact this) rfl) (fun h => by cases h) (fun _ => exb_nil)) ?_
          refine exb_next (exs_if (b := false) (tr_cmp (by kd_in) (by kd_in) (by have := o_gt (prog := prog) (w := w) (X := X) (h₀ := h₀) (A := A) (a := x) (b := y); rw [decide_eq_false h2] at this; exact this) rfl) (fun h => by cases h) (fun _ => exb_nil)) ?_
          exact exb_nil
        · intro z e hz
          have no : z ∈ cmpNames := (List.of_mem_zip (mem_of_look hz)).1
          have q : z ≠ Str.ofString "r" ∧ z ≠ Str.ofString "l" ∧ z ≠ Str.ofString "direction" ∧ z ≠ Str.ofString "index" := by
            rcases List.mem_cons.mp no with rfl | no
            · decide
            · rcases List.mem_cons.mp no with rfl | no
              · decide
              · rcases List.mem_cons.mp no with rfl | no
                · decide
                · cases no
          rw [List.lookup_cons, beq_eq_false_iff_ne.mpr q.1, List.lookup_cons, beq_eq_false_iff_ne.mpr q.2.1, List.lookup_cons, beq_eq_false_iff_ne.mpr q.2.2.1, List.lookup_cons, beq_eq_false_iff_ne.mpr q.2.2.2]
          exact hz
      · refine exb_ret (exs_return ?_)
        unfold cmpI
        rw [if_neg h1, if_neg h2]
        kd_in
end
def bothT : T → T → T
  | .nil, m => m
  | .node k r l m', .nil => .node k r l m'
  | .node k r a b, .node k' r' c d => if r < r' then .node k r a (bothT b (.node k' r' c d)) else .node k' r' (bothT (.node k r a b) c) d
termination_by a b => a.size + b.size
decreasing_by all_goals (simp only [T.size]; omega)

def outT : T → Int → T
  | .nil, _ => .nil
  | .node k r l m, x => if k = x then bothT l m else if x < k then .node k r (outT l x) m else .node k r l (outT m x)
def Found : T → Int → Prop
  | .nil, _ => False
  | .node k r l m, x => k = x ∨ (x < k ∧ Found l x) ∨ (k < x ∧ Found m x)

section
variable {prog : Program} {w : World} {C : Addr} {h₀ : Heap}
abbrev bothNames : List Str := [Str.ofString "less", Str.ofString "more"]
theorem both_ok {aB : Addr} (S : Stands h₀ 8 (Str.ofString "_law_both") bothNames aB) : ∀ (n : Nat) (l m : T), l.size + m.size < n → CallOk prog w C h₀ n aB [.dat (enc l), .dat (enc m)] (enc (bothT l m))
  | 0, _, _, h => absurd h (Nat.not_lt_zero _)
  | n + 1, .nil, m, h => by
    refine S.ok rfl (by decide) (by decide) (by decide) rfl rfl rfl fun X A L q cd r => ?_
    have e : bothT .nil m = m := by rw [bothT]
    rw [e]
    refine exb_ret (exs_if (b := true) (tr_bool (tr_or_cons (b := true) (c := false) (tr_cmp (a := .none) (b := .none) (by kd_in) (by kd_in) o_is rfl) (fun h => by cases h))) (fun _ => exb_ret (exs_return ?_)) (fun h => by cases h))
    refine ev_ifexp (b := isNone (enc m)) (tr_cmp (by kd_in) (by kd_in) o_is rfl) (fun hm => ?_) (fun _ => by kd_in)
    cases m with
    | nil => kd_in
    | node => cases hm
  | n + 1, .node k r0 a b, .nil, h => by
    refine S.ok rfl (by decide) (by decide) (by decide) rfl rfl rfl fun X A L q cd r => ?_
    have e : bothT (.node k r0 a b) .nil = .node k r0 a b := by rw [bothT]
    rw [e]
    refine exb_ret (exs_if (b := true) (tr_bool (tr_or_cons (b := false) (c := true) (tr_cmp (a := enc (.node k r0 a b)) (b := .none) (by kd_in) (by kd_in) o_is rfl) (fun _ => tr_or_cons (b := true) (c := false) (tr_cmp (a := .none) (b := .none) (by kd_in) (by kd_in) o_is rfl) (fun h => by cases h)))) (fun _ => exb_ret (exs_return ?_)) (fun h => by cases h))
    exact ev_ifexp (b := true) (tr_cmp (a := .none) (b := .none) (by kd_in) (by kd_in) o_is rfl) (fun _ => by kd_in) (fun h => by cases h)
  | n + 1, .node k r0 a b, .node k' r1 c d, h => by
    simp only [T.size] at h
    have h1 := both_ok S n b (.node k' r1 c d) (by simp only [T.size]; omega)
    have h2 := both_ok S n (.node k r0 a b) c (by simp only [T.size]; omega)
    obtain ⟨o, fd, ho, hdat⟩ := S.at
    refine S.ok rfl (by decide) (by decide) (by decide) rfl rfl rfl fun X A L q cd r => ?_
    refine exb_next (exs_if (b := false) (tr_bool (tr_or_cons (b := false) (c := false) (tr_cmp (a := enc (.node k r0 a b)) (b := .none) (by kd_in) (by kd_in) o_is rfl) (fun _ => tr_or_cons (b := false) (c := false) (tr_cmp (a := enc (.node k' r1 c d)) (b := .none) (by kd_in) (by kd_in) o_is rfl) (fun _ => tr_or_nil)))) (fun h => by cases h) (fun _ => exb_nil)) ?_
    rw [bothT]
    by_cases hr : r0 < r1
    · rw [if_pos hr]
      refine exb_ret (exs_if (b := true) (tr_cmp (by kd_in) (by kd_in) (by have := o_lt (prog := prog) (w := w) (X := X) (h₀ := h₀) (A := A) (a := r0) (b := r1); rw [decide_eq_true hr] at this; exact this) rfl) (fun _ => exb_ret (exs_return ?_)) (fun h => by cases h))
      exact ev_tuple (ds := [pr k r0, enc a, enc (bothT b (.node k' r1 c d))]) (evD_cons (by kd_in) (evD_cons (by kd_in) (evD_cons (ev_call S.name ho hdat rfl rfl rfl rfl rfl (evL_cons (by kd_in) (evL_cons (by kd_in) evL_nil rfl) rfl) h1 r rfl rfl) evD_nil rfl) rfl) rfl) small3
    · rw [if_neg hr]
      refine exb_next (exs_if (b := false) (tr_cmp (by kd_in) (by kd_in) (by have := o_lt (prog := prog) (w := w) (X := X) (h₀ := h₀) (A := A) (a := r0) (b := r1); rw [decide_eq_false hr] at this; exact this) rfl) (fun h => by cases h) (fun _ => exb_nil)) ?_
      refine exb_ret (exs_return ?_)
      exact ev_tuple (ds := [pr k' r1, enc (bothT (.node k r0 a b) c), enc d]) (evD_cons (by kd_in) (evD_cons (ev_call S.name ho hdat rfl rfl rfl rfl rfl (evL_cons (by kd_in) (evL_cons (by kd_in) evL_nil rfl) rfl) h2 r rfl rfl) (evD_cons (by kd_in) evD_nil rfl) rfl) rfl) small3

abbrev outNames : List Str := [Str.ofString "tree", Str.ofString "key"]
theorem out_ok {aB aO : Addr} (SB : Stands h₀ 8 (Str.ofString "_law_both") bothNames aB) (S : Stands h₀ 9 (Str.ofString "_law_out") outNames aO) : ∀ (t : T) (x : Int) (n : Nat), t.size < n → Found t x → CallOk prog w C h₀ n aO [.dat (enc t), .dat (.int x)] (enc (outT t x))
  | .nil, _, _, _, hf => hf.elim
  | .node k r0 l m, x, 0, h, _ => absurd h (Nat.not_lt_zero _)
  | .node k r0 l m, x, n + 1, h, hf => by
    simp only [T.size] at h
    obtain ⟨o, fd, ho, hdat⟩ := S.at
    obtain ⟨oB, fdB, hoB, hdatB⟩ := SB.at
    refine S.ok rfl (by decide) (by decide) (by decide) rfl rfl rfl fun X A L q cd r => ?_
    refine exb_next (exs_assign (e := .dat (enc (.node k r0 l m))) (by kd_in) (as_tuple (ds := [pr k r0, enc l, enc m]) r.hh (asL_cons (as_local rfl rfl) (asL_cons (as_local rfl rfl) (asL_cons (as_local rfl rfl) asL_nil rfl) rfl) rfl) rfl rfl) rfl rfl rfl) ?_
    rw [outT]
    by_cases hk : k = x
    · rw [if_pos hk]
      refine exb_ret (exs_if (b := true) (tr_cmp (by kd_in) (by kd_in) (by have := o_eqI (prog := prog) (w := w) (X := X) (h₀ := h₀) (A := A) (a := k) (b := x); rw [beq_iff_eq.mpr hk] at this; exact this) rfl) (fun _ => exb_ret (exs_return ?_)) (fun h => by cases h))
      exact ev_call SB.name hoB hdatB rfl rfl rfl rfl rfl (evL_cons (by kd_in) (evL_cons (by kd_in) evL_nil rfl) rfl) (both_ok SB n l m (by omega)) r rfl rfl
    · rw [if_neg hk]
      refine exb_next (exs_if (b := false) (tr_cmp (by kd_in) (by kd_in) (by have := o_eqI (prog := prog) (w := w) (X := X) (h₀ := h₀) (A := A) (a := k) (b := x); rw [beq_eq_false_iff_ne.mpr hk] at this; exact this) rfl) (fun h => by cases h) (fun _ => exb_nil)) ?_
      by_cases hx : x < k
      · rw [if_pos hx]
        have hf' : Found l x := by
          rcases hf with q | ⟨_, q⟩ | ⟨q, _⟩
          · exact absurd q hk
          · exact q
          · omega
        refine exb_ret (exs_if (b := true) (tr_cmp (by kd_in) (by kd_in) (by have := o_lt (prog := prog) (w := w) (X := X) (h₀ := h₀) (A := A) (a := x) (b := k); rw [decide_eq_true hx] at this; exact this) rfl) (fun _ => exb_ret (exs_return ?_)) (fun h => by cases h))
        exact ev_tuple (ds := [pr k r0, enc (outT l x), enc m]) (evD_cons (by kd_in) (evD_cons (ev_call S.name ho hdat rfl rfl rfl rfl rfl (evL_cons (by kd_in) (evL_cons (by kd_in) evL_nil rfl) rfl) (out_ok SB S l x n (by omega) hf') r rfl rfl) (evD_cons (by kd_in) evD_nil rfl) rfl) rfl) small3
      · rw [if_neg hx]
        have hf' : Found m x := by
          rcases hf with q | ⟨q, _⟩ | ⟨_, q⟩
          · exact absurd q hk
          · exact absurd q hx
          · exact q
        refine exb_next (exs_if (b := false) (tr_cmp (by kd_in) (by kd_in) (by have := o_lt (prog := prog) (w := w) (X := X) (h₀ := h₀) (A := A) (a := x) (b := k); rw [decide_eq_false hx] at this; exact this) rfl) (fun h => by cases h) (fun _ => exb_nil)) ?_
        refine exb_ret (exs_return ?_)
        exact ev_tuple (ds := [pr k r0, enc l, enc (outT m x)]) (evD_cons (by kd_in) (evD_cons (by kd_in) (evD_cons (ev_call S.name ho hdat rfl rfl rfl rfl rfl (evL_cons (by kd_in) (evL_cons (by kd_in) evL_nil rfl) rfl) (out_ok SB S m x n (by omega) hf') r rfl rfl) evD_nil rfl) rfl) rfl) small3
end
def rotR (k0 r0 : Int) (l m : T) : T := match l with
  | .nil => .node k0 r0 .nil m
  | .node kl rl a b => if rl < r0 then .node kl rl a (.node k0 r0 b m) else .node k0 r0 (.node kl rl a b) m
def rotL (k0 r0 : Int) (l m : T) : T := match m with
  | .nil => .node k0 r0 l .nil
  | .node km rm a b => if rm < r0 then .node km rm (.node k0 r0 l a) b else .node k0 r0 l (.node km rm a b)
def putT : T → Int → Int → T
  | .nil, k, r => .node k r .nil .nil
  | .node k0 r0 l m, k, r => if k < k0 then rotR k0 r0 (putT l k r) m else rotL k0 r0 l (putT m k r)
theorem putT_node : ∀ (t : T) (k r : Int), ∃ k' r' l m, putT t k r = .node k' r' l m
  | .nil, k, r => ⟨_, _, _, _, rfl⟩
  | .node k0 r0 l m, k, r => by
    rw [putT]
    split
    · obtain ⟨k', r', a, b, e⟩ := putT_node l k r
      rw [e]
      unfold rotR
      dsimp only
      split <;> exact ⟨_, _, _, _, rfl⟩
    · obtain ⟨k', r', a, b, e⟩ := putT_node m k r
      rw [e]
      unfold rotL
      dsimp only
      split <;> exact ⟨_, _, _, _, rfl⟩

section
variable {prog : Program} {w : World} {C : Addr} {h₀ : Heap} {K : Frag} {fC : Addr}
abbrev putNames : List Str := [Str.ofString "tree", Str.ofString "pair", Str.ofString "told"]
theorem put_ok {aP : Addr} (cc : ClsC K h₀ C fC) (SM : StandsM h₀ cmpNames fC cmpStmt) (S : Stands h₀ 6 (Str.ofString "_law_put") putNames aP) : ∀ (t : T) (k r : Int) (n : Nat), t.size + 2 < n → CallOk prog w C h₀ n aP [.dat (enc t), .dat (pr k r), .told] (enc (putT t k r))
  | .nil, k, r, 0, h => absurd h (Nat.not_lt_zero _)
  | .nil, k, r, n + 1, h => by
    refine S.ok rfl (by decide) (by decide) (by decide) rfl rfl rfl fun X A L q cd room => ?_
    refine exb_ret (exs_if (b := true) (tr_cmp (a := .none) (b := .none) (by kd_in) (by kd_in) o_is rfl) (fun _ => exb_ret (exs_return ?_)) (fun h => by cases h))
    exact ev_tuple (ds := [pr k r, .none, .none]) (by kd_all) small3
  | .node k0 r0 l m, k, r, 0, h => absurd h (Nat.not_lt_zero _)
  | .node k0 r0 l m, k, r, n + 1, h => by
    simp only [T.size] at h
    obtain ⟨n, rfl⟩ : ∃ n', n = n' + 1 := ⟨n - 1, by omega⟩
    obtain ⟨o, fd, ho, hdat⟩ := S.at
    refine S.ok rfl (by decide) (by decide) (by decide) rfl rfl rfl fun X A L q cd room => ?_
    refine exb_next (exs_if (b := false) (tr_cmp (a := enc (.node k0 r0 l m)) (b := .none) (by kd_in) (by kd_in) o_is rfl) (fun h => by cases h) (fun _ => exb_nil)) ?_
    refine exb_next (exs_assign (e := .dat (enc (.node k0 r0 l m))) (by kd_in) (as_tuple (ds := [pr k0 r0, enc l, enc m]) room.hh (asL_cons (as_local rfl rfl) (asL_cons (as_local rfl rfl) (asL_cons (as_local rfl rfl) asL_nil rfl) rfl) rfl) rfl rfl) rfl rfl rfl) ?_
    rw [putT]
    by_cases hk : k < k0
    · rw [if_pos hk]
      obtain ⟨k', r', a, b, e⟩ := putT_node l k r
      have hl := put_ok cc SM S l k r (n + 1) (by omega)
      rw [e] at hl ⊢
      by_cases hr : r' < r0
      · refine exb_ret (exs_if (b := true) (tr_cmp (by kd_in) (by kd_in) (by have := o_lt (prog := prog) (w := w) (X := X) (h₀ := h₀) (A := A) (a := k) (b := k0); rw [decide_eq_true hk] at this; exact this) rfl) (fun _ => ?_) (fun h => by cases h))
        refine exb_next (exs_assign (e := .dat (enc (.node k' r' a b))) (ev_call S.name ho hdat rfl rfl rfl rfl rfl (evL_cons (by kd_in) (evL_cons (by kd_in) (evL_cons (by kd_in) evL_nil rfl) rfl) rfl) hl room rfl rfl) (as_local rfl rfl) rfl rfl rfl) ?_
        refine exb_ret (exs_if (b := true) (tr_cmp (ev_told cc rfl rfl rfl rfl (by kd_in) (by kd_in) (cmp_ok cc SM n k' r' k0 r0) room rfl rfl _ rfl) (by kd_in) (by have := o_lt (prog := prog) (w := w) (X := X) (h₀ := h₀) (A := A) (a := cmpI r' r0) (b := 0); rw [cmpI_neg, decide_eq_true hr] at this; exact this) rfl) (fun _ => exb_ret (exs_return ?_)) (fun h => by cases h))
        have e2 : rotR k0 r0 (.node k' r' a b) m = .node k' r' a (.node k0 r0 b m) := by unfold rotR; dsimp only; rw [if_pos hr]
        rw [e2]
        exact ev_tuple (ds := [pr k' r', enc a, enc (.node k0 r0 b m)]) (evD_cons (by kd_in) (evD_cons (by kd_in) (evD_cons (ev_tuple (ds := [pr k0 r0, enc b, enc m]) (by kd_all) small3) evD_nil rfl) rfl) rfl) small3
      · refine exb_next (ρ' := (Str.ofString "less", .dat (enc (.node k' r' a b))) :: (Str.ofString "more", .dat (enc m)) :: (Str.ofString "less", .dat (enc l)) :: (Str.ofString "top", .dat (pr k0 r0)) :: putNames.zip [.dat (enc (.node k0 r0 l m)), .dat (pr k r), .told]) (exs_if (b := true) (tr_cmp (by kd_in) (by kd_in) (by have := o_lt (prog := prog) (w := w) (X := X) (h₀ := h₀) (A := A) (a := k) (b := k0); rw [decide_eq_true hk] at this; exact this) rfl) (fun _ => ?_) (fun h => by cases h)) ?_
        · refine exb_next (exs_assign (e := .dat (enc (.node k' r' a b))) (ev_call S.name ho hdat rfl rfl rfl rfl rfl (evL_cons (by kd_in) (evL_cons (by kd_in) (evL_cons (by kd_in) evL_nil rfl) rfl) rfl) hl room rfl rfl) (as_local rfl rfl) rfl rfl rfl) ?_
          refine exb_next (exs_if (b := false) (tr_cmp (ev_told cc rfl rfl rfl rfl (by kd_in) (by kd_in) (cmp_ok cc SM n k' r' k0 r0) room rfl rfl _ rfl) (by kd_in) (by have := o_lt (prog := prog) (w := w) (X := X) (h₀ := h₀) (A := A) (a := cmpI r' r0) (b := 0); rw [cmpI_neg, decide_eq_false hr] at this; exact this) rfl) (fun h => by cases h) (fun _ => exb_nil)) ?_
          exact exb_nil
        · have e2 : rotR k0 r0 (.node k' r' a b) m = .node k0 r0 (.node k' r' a b) m := by unfold rotR; dsimp only; rw [if_neg hr]
          rw [e2]
          refine exb_ret (exs_return ?_)
          exact ev_tuple (ds := [pr k0 r0, enc (.node k' r' a b), enc m]) (by kd_all) small3
    · rw [if_neg hk]
      obtain ⟨k', r', a, b, e⟩ := putT_node m k r
      have hl := put_ok cc SM S m k r (n + 1) (by omega)
      rw [e] at hl ⊢
      by_cases hr : r' < r0
      · refine exb_ret (exs_if (b := false) (tr_cmp (by kd_in) (by kd_in) (by have := o_lt (prog := prog) (w := w) (X := X) (h₀ := h₀) (A := A) (a := k) (b := k0); rw [decide_eq_false hk] at this; exact this) rfl) (fun h => by cases h) (fun _ => ?_))
        refine exb_next (exs_assign (e := .dat (enc (.node k' r' a b))) (ev_call S.name ho hdat rfl rfl rfl rfl rfl (evL_cons (by kd_in) (evL_cons (by kd_in) (evL_cons (by kd_in) evL_nil rfl) rfl) rfl) hl room rfl rfl) (as_local rfl rfl) rfl rfl rfl) ?_
        refine exb_ret (exs_if (b := true) (tr_cmp (ev_told cc rfl rfl rfl rfl (by kd_in) (by kd_in) (cmp_ok cc SM n k' r' k0 r0) room rfl rfl _ rfl) (by kd_in) (by have := o_lt (prog := prog) (w := w) (X := X) (h₀ := h₀) (A := A) (a := cmpI r' r0) (b := 0); rw [cmpI_neg, decide_eq_true hr] at this; exact this) rfl) (fun _ => exb_ret (exs_return ?_)) (fun h => by cases h))
        have e2 : rotL k0 r0 l (.node k' r' a b) = .node k' r' (.node k0 r0 l a) b := by unfold rotL; dsimp only; rw [if_pos hr]
        rw [e2]
        exact ev_tuple (ds := [pr k' r', enc (.node k0 r0 l a), enc b]) (evD_cons (by kd_in) (evD_cons (ev_tuple (ds := [pr k0 r0, enc l, enc a]) (by kd_all) small3) (evD_cons (by kd_in) evD_nil rfl) rfl) rfl) small3
      · refine exb_next (ρ' := (Str.ofString "more", .dat (enc (.node k' r' a b))) :: (Str.ofString "more", .dat (enc m)) :: (Str.ofString "less", .dat (enc l)) :: (Str.ofString "top", .dat (pr k0 r0)) :: putNames.zip [.dat (enc (.node k0 r0 l m)), .dat (pr k r), .told]) (exs_if (b := false) (tr_cmp (by kd_in) (by kd_in) (by have := o_lt (prog := prog) (w := w) (X := X) (h₀ := h₀) (A := A) (a := k) (b := k0); rw [decide_eq_false hk] at this; exact this) rfl) (fun h => by cases h) (fun _ => ?_)) ?_
        · refine exb_next (exs_assign (e := .dat (enc (.node k' r' a b))) (ev_call S.name ho hdat rfl rfl rfl rfl rfl (evL_cons (by kd_in) (evL_cons (by kd_in) (evL_cons (by kd_in) evL_nil rfl) rfl) rfl) hl room rfl rfl) (as_local rfl rfl) rfl rfl rfl) ?_
          refine exb_next (exs_if (b := false) (tr_cmp (ev_told cc rfl rfl rfl rfl (by kd_in) (by kd_in) (cmp_ok cc SM n k' r' k0 r0) room rfl rfl _ rfl) (by kd_in) (by have := o_lt (prog := prog) (w := w) (X := X) (h₀ := h₀) (A := A) (a := cmpI r' r0) (b := 0); rw [cmpI_neg, decide_eq_false hr] at this; exact this) rfl) (fun h => by cases h) (fun _ => exb_nil)) ?_
          exact exb_nil
        · have e2 : rotL k0 r0 l (.node k' r' a b) = .node k0 r0 l (.node k' r' a b) := by unfold rotL; dsimp only; rw [if_neg hr]
          rw [e2]
          refine exb_ret (exs_return ?_)
          exact ev_tuple (ds := [pr k0 r0, enc l, enc (.node k' r' a b)]) (by kd_all) small3
end
abbrev P2 := Int × Int
def prD (p : P2) : Dat := pr p.1 p.2
abbrev encP (ps : List P2) : List Dat := ps.map prD
def minI : List Int → Int
  | [] => 0
  | [a] => a
  | a :: b :: l => min a (minI (b :: l))
theorem minI_mem : ∀ (l : List Int), l ≠ [] → minI l ∈ l
  | [], h => absurd rfl h
  | [a], _ => .head _
  | a :: b :: l, _ => by
    have ih := minI_mem (b :: l) (by simp)
    simp only [minI]
    rcases Int.le_total a (minI (b :: l)) with h | h
    · rw [Int.min_eq_left h]; exact .head _
    · rw [Int.min_eq_right h]; exact .tail _ ih
theorem minI_le : ∀ (l : List Int), ∀ a ∈ l, minI l ≤ a
  | [], a, h => by cases h
  | [a], b, h => by rw [List.mem_singleton.mp h]; exact Int.le_refl _
  | a :: b :: l, c, h => by
    have ih := minI_le (b :: l)
    simp only [minI]
    rcases List.mem_cons.mp h with rfl | h
    · exact Int.min_le_left _ _
    · exact Int.le_trans (Int.min_le_right _ _) (ih c h)
def minR (ps : List P2) : Int := minI (ps.map (·.2))
def topL (ps : List P2) : P2 := (ps.filter fun p => p.2 == minR ps).headD (0, 0)
def dueF : Nat → List P2 → T
  | 0, _ => .nil
  | _ + 1, [] => .nil
  | n + 1, p :: ps => .node (topL (p :: ps)).1 (topL (p :: ps)).2 (dueF n ((p :: ps).filter fun q => decide (q.1 < (topL (p :: ps)).1))) (dueF n ((p :: ps).filter fun q => decide ((topL (p :: ps)).1 < q.1)))
theorem top_filter (p : P2) (ps : List P2) : ∃ r, (p :: ps).filter (fun q => q.2 == minR (p :: ps)) = topL (p :: ps) :: r := by
  have h1 : minR (p :: ps) ∈ (p :: ps).map (·.2) := minI_mem _ (by simp)
  obtain ⟨q, hq, e⟩ := List.mem_map.mp h1
  have hm : q ∈ (p :: ps).filter (fun q => q.2 == minR (p :: ps)) := List.mem_filter.mpr ⟨hq, by rw [e]; exact beq_self_eq_true _⟩
  unfold topL
  cases e2 : (p :: ps).filter (fun q => q.2 == minR (p :: ps)) with
  | nil => rw [e2] at hm; cases hm
  | cons a r => exact ⟨r, rfl⟩
theorem topL_mem (p : P2) (ps : List P2) : topL (p :: ps) ∈ p :: ps := by
  obtain ⟨r, e⟩ := top_filter p ps
  have : topL (p :: ps) ∈ (p :: ps).filter (fun q => q.2 == minR (p :: ps)) := by rw [e]; exact .head _
  exact (List.mem_filter.mp this).1
theorem topL_min (p : P2) (ps : List P2) : (topL (p :: ps)).2 = minR (p :: ps) := by
  obtain ⟨r, e⟩ := top_filter p ps
  have : topL (p :: ps) ∈ (p :: ps).filter (fun q => q.2 == minR (p :: ps)) := by rw [e]; exact .head _
  exact beq_iff_eq.mp (List.mem_filter.mp this).2
theorem filter_lt {f : P2 → Bool} {q : P2} : ∀ {l : List P2}, q ∈ l → f q = false → (l.filter f).length < l.length
  | [], h, _ => by cases h
  | a :: l, h, hf => by
    rcases List.mem_cons.mp h with rfl | h
    · rw [List.filter_cons_of_neg (by simp [hf])]
      exact Nat.lt_succ_of_le (List.length_filter_le _ _)
    · have ih := filter_lt h hf
      cases e : f a with
      | true => rw [List.filter_cons_of_pos e]; simp only [List.length_cons]; omega
      | false => rw [List.filter_cons_of_neg (by simp [e])]; simp only [List.length_cons]; omega
theorem kq_pair (n : Nat) (p : P2) : kqdOk (n + 1) (prD p) = true := by cases n <;> rfl
theorem kq_pairs (n : Nat) (ps : List P2) : kqdOk (n + 2) (.list (encP ps)) = true := by
  rw [kqdOk]
  refine List.all_eq_true.mpr fun d hd => ?_
  obtain ⟨p, _, rfl⟩ := List.mem_map.mp hd
  exact kq_pair n p
theorem filter_encP (f : P2 → Bool) (g : Dat → Bool) (h : ∀ p, g (prD p) = f p) : ∀ ps : List P2, (encP ps).filter g = encP (ps.filter f)
  | [] => rfl
  | p :: ps => by
    have ih := filter_encP f g h ps
    rw [show encP (p :: ps) = prD p :: encP ps from rfl, List.filter_cons, List.filter_cons, h p, ih]
    split <;> rfl
def d0 : Dat → Int | .tuple [.int a, .int _] => a | _ => 0
def d1 : Dat → Int | .tuple [.int _, .int b] => b | _ => 0
theorem d0_pr (p : P2) : d0 (prD p) = p.1 := rfl
theorem d1_pr (p : P2) : d1 (prD p) = p.2 := rfl

section
variable {prog : Program} {w : World} {C : Addr} {X : Addr → Prop} {h₀ : Heap} {A : Around} {env : Env} {ρ ρ' ρc : List (Str × Ent)}
theorem blk0 {scope : Scope} (clos : closureFor scope env = pure []) (cell : (scope.names.all fun y => y.2 != .cell) = true) (kind : scope.kind = .function) (names : (scope.names.all fun y => y.2 != .local || scope.names.lookup y.1 == some .local) = true) : BlockOf env ρ [] scope [] where
  clos := clos
  cell := fun y hy => by simpa using List.all_eq_true.mp cell y hy
  kind := kind
  names := fun y hy h => by have := List.all_eq_true.mp names y hy; rw [h] at this; simpa using this
  cls := fun q hq => by cases hq
  look := fun x c h => by simp at h
  free := fun y e h => by simp at h
theorem blk1 {scope : Scope} {x : Str} {c : Addr} {e : Ent} (hc : env.cells.lookup x = some c) (clos : closureFor scope env = pure [(x, c)]) (cell : (scope.names.all fun y => y.2 != .cell) = true) (kind : scope.kind = .function) (names : (scope.names.all fun y => y.2 != .local || scope.names.lookup y.1 == some .local) = true)
    (hρ : ρ.lookup x = some e) (hk : env.kindOf x = some .cell ∨ env.kindOf x = some .free) (hr : ((relabel scope env).names.lookup x == some .local) = false) : BlockOf env ρ [(x, e)] scope [(x, c)] where
  clos := clos
  cell := fun y hy => by simpa using List.all_eq_true.mp cell y hy
  kind := kind
  names := fun y hy h => by have := List.all_eq_true.mp names y hy; rw [h] at this; simpa using this
  cls := fun q hq => by rw [List.mem_singleton.mp hq]; exact mem_of_look hc
  look := fun y d h => by
    rw [List.lookup_cons] at h
    by_cases q : y = x
    · subst q; rw [beq_self_eq_true] at h; cases h; exact hc
    · rw [beq_eq_false_iff_ne.mpr q] at h; simp at h
  free := fun y d h => by
    rw [List.lookup_cons] at h
    by_cases q : y = x
    · subst q; rw [beq_self_eq_true] at h; cases h
      exact ⟨hρ, hk, by rw [List.lookup_cons, beq_self_eq_true, hc], by simpa using hr⟩
    · rw [beq_eq_false_iff_ne.mpr q] at h; simp at h
/-- a block over pairs, one test -/
theorem turn_ifs {X : Addr → Prop} {A : Around} {env : Env} {ρc : List (Str × Ent)} {t elt c : Expr} {d f : Dat} {p : Bool} {ρ1 : List (Str × Ent)} (h1 : As1 prog w C X h₀ A env ρc t d ρ1) (h2 : ∀ y e, ρc.lookup y = some e → ρ1.lookup y = some e) (h3 : Tr prog w C X h₀ A env ρ1 c p) (h4 : p = true → Ev prog w C X h₀ A env ρ1 elt (.dat f)) : CTurn prog w C X h₀ A env ρc t [c] elt d p f := ⟨ρ1, h1, h2, h3, h4⟩
theorem turn_all {X : Addr → Prop} {A : Around} {env : Env} {ρc : List (Str × Ent)} {t elt : Expr} {d f : Dat} {ρ1 : List (Str × Ent)} (h1 : As1 prog w C X h₀ A env ρc t d ρ1) (h2 : ∀ y e, ρc.lookup y = some e → ρ1.lookup y = some e) (h4 : Ev prog w C X h₀ A env ρ1 elt (.dat f)) : CTurn prog w C X h₀ A env ρc t [] elt d true f := ⟨ρ1, h1, h2, rfl, fun _ => h4⟩
theorem look_more {x y : Str} {e e' : Ent} {ρ : List (Str × Ent)} (h : ρ.lookup y = some e) (hx : ρ.lookup x = none) : ((x, e') :: ρ).lookup y = some e := by
  rw [List.lookup_cons]
  by_cases q : y = x
  · subst q; rw [hx] at h; cases h
  · rw [beq_eq_false_iff_ne.mpr q]; exact h
end

section
variable {prog : Program} {w : World} {C : Addr} {h₀ : Heap}
abbrev dueNames : List Str := [Str.ofString "pairs"]
theorem due_ok {aD : Addr} (gr : Gr h₀) (hmin : NameIs h₀ (Str.ofString "min") (.builtin "min")) (S : Stands h₀ 7 (Str.ofString "_law_due") dueNames aD) : ∀ (m : Nat) (ps : List P2), ps.length ≤ m → m ≤ 64 → CallOk prog w C h₀ (m + 1) aD [.dat (.list (encP ps))] (enc (dueF m ps))
  | m, [], h, hm => by
    refine S.ok rfl (by decide) (by decide) (by decide) rfl rfl rfl fun X A L q cd r => ?_
    have e : dueF m [] = .nil := by cases m <;> rfl
    rw [e]
    refine exb_ret (exs_if (b := true) (tr_cmp (a := .list []) (b := .list []) (by kd_in) (ev_list (ds := []) evL_nil (Nat.zero_le _)) (o_eq (b := true) rfl rfl r.eq (by simp)) rfl) (fun _ => exb_ret (exs_return ?_)) (fun h => by cases h))
    exact ev_none
  | 0, p :: ps, h, _ => absurd h (Nat.not_succ_le_zero _)
  | m + 1, p :: ps, h, hm => by
    have hl := due_ok gr hmin S m ((p :: ps).filter fun q => decide (q.1 < (topL (p :: ps)).1)) (by have := filter_lt (f := fun q => decide (q.1 < (topL (p :: ps)).1)) (topL_mem p ps) (by simp); omega) (by omega)
    have hg := due_ok gr hmin S m ((p :: ps).filter fun q => decide ((topL (p :: ps)).1 < q.1)) (by have := filter_lt (f := fun q => decide ((topL (p :: ps)).1 < q.1)) (topL_mem p ps) (by simp); omega) (by omega)
    obtain ⟨rest, hrest⟩ := top_filter p ps
    obtain ⟨o, fd, ho, hdat⟩ := S.at
    have hz : (encP (p :: ps)).length ≤ sizeLine := by rw [sizeLine_eq, List.length_map]; omega
    refine S.ok rfl (by decide) (by decide) (by decide) rfl rfl rfl fun X A L q cd r => ?_
    refine exb_next (exs_if (b := false) (tr_cmp (a := .list (encP (p :: ps))) (b := .list []) (by kd_in) (ev_list (ds := []) evL_nil (Nat.zero_le _)) (o_eq (b := false) (kq_pairs 38 _) rfl r.eq (by simp)) rfl) (fun h => by cases h) (fun _ => exb_nil)) ?_
    refine exb_next (exs_assign (e := .dat (prD (topL (p :: ps)))) (ev_head (ds := encP rest) ?_) (as_cell rfl rfl rfl) rfl rfl rfl) ?_
    · refine ev_comp (ds := encP (p :: ps)) (p := fun d => d1 d == minR (p :: ps)) (f := fun d => d) (ρc := [(Str.ofString "pairs", .dat (.list (encP (p :: ps))))]) r.hh rfl (blk1 rfl rfl rfl rfl rfl rfl (.inl rfl) rfl) hz (by kd_in) (fun X' Cc d hd => ?_) ?_ (fun _ => rfl)
      · obtain ⟨p', hp', rfl⟩ := List.mem_map.mp hd
        refine turn_ifs (as1_local rfl rfl) (fun y e hy => look_more hy rfl) (tr_cmp (b := .int (minR (p :: ps))) (by kd_in) ?_ o_eqI rfl) (fun _ => by kd_in)
        refine ev_callB (ds := [.list ((((p :: ps)).map (·.2)).map .int)]) hmin rfl rfl rfl rfl rfl (evD_cons ?_ evD_nil rfl) (cb_min gr (minI_mem _ (by simp)) (minI_le _)) (r.le (Nat.zero_le _)) rfl rfl rfl
        refine ev_comp (ds := encP (p :: ps)) (p := fun _ => true) (f := fun d => .int (d1 d)) (ρc := []) r.hh rfl (blk0 rfl rfl rfl rfl) hz (by kd_in) (fun X'' Cc' d hd => ?_) ?_ (fun _ => rfl)
        · obtain ⟨q', _, rfl⟩ := List.mem_map.mp hd
          exact turn_all (as1_tuple (ds := [.int q'.1, .int q'.2]) r.hh (as1L_cons (as1_local rfl rfl) (as1L_cons (as1_local rfl rfl) as1L_nil rfl) rfl) rfl rfl) (fun y e hy => by simp at hy) (by kd_in)
        · rw [List.filter_eq_self.mpr (fun _ _ => rfl), List.map_map, List.map_map]; rfl
      · rw [filter_encP (fun p' => p'.2 == minR (p :: ps)) _ (fun p' => rfl), hrest, List.map_id']; rfl
    · refine exb_ret (exs_return (ev_tuple (ds := [prD (topL (p :: ps)), _, _]) (evD_cons (by kd_in) (evD_cons ?_ (evD_cons ?_ evD_nil rfl) rfl) rfl) small3))
      · refine ev_call S.name ho hdat rfl rfl rfl rfl rfl (evL_cons (e := .dat (.list (encP ((p :: ps).filter fun q => decide (q.1 < (topL (p :: ps)).1))))) ?_ evL_nil rfl) hl r rfl rfl
        refine ev_comp (ds := encP (p :: ps)) (p := fun d => decide (d0 d < (topL (p :: ps)).1)) (f := fun d => d) (ρc := [(Str.ofString "top", .dat (prD (topL (p :: ps))))]) r.hh rfl (blk1 rfl rfl rfl rfl rfl rfl (.inl rfl) rfl) hz (by kd_in) (fun X' Cc d hd => ?_) ?_ (fun _ => rfl)
        · obtain ⟨p', hp', rfl⟩ := List.mem_map.mp hd
          exact turn_ifs (as1_local rfl rfl) (fun y e hy => look_more hy rfl) (tr_cmp (by kd_in) (by kd_in) o_lt rfl) (fun _ => by kd_in)
        · rw [filter_encP (fun p' => decide (p'.1 < (topL (p :: ps)).1)) _ (fun p' => rfl), List.map_id']
      · refine ev_call S.name ho hdat rfl rfl rfl rfl rfl (evL_cons (e := .dat (.list (encP ((p :: ps).filter fun q => decide ((topL (p :: ps)).1 < q.1))))) ?_ evL_nil rfl) hg r rfl rfl
        refine ev_comp (ds := encP (p :: ps)) (p := fun d => decide ((topL (p :: ps)).1 < d0 d)) (f := fun d => d) (ρc := [(Str.ofString "top", .dat (prD (topL (p :: ps))))]) r.hh rfl (blk1 rfl rfl rfl rfl rfl rfl (.inl rfl) rfl) hz (by kd_in) (fun X' Cc d hd => ?_) ?_ (fun _ => rfl)
        · obtain ⟨p', hp', rfl⟩ := List.mem_map.mp hd
          exact turn_ifs (as1_local rfl rfl) (fun y e hy => look_more hy rfl) (tr_cmp (by kd_in) (by kd_in) o_gt rfl) (fun _ => by kd_in)
        · rw [filter_encP (fun p' => decide ((topL (p :: ps)).1 < p'.1)) _ (fun p' => rfl), List.map_id']
end
theorem bd_entry_loop : entryFor table "dict.update.loop" = some Builtin.«dict.update.loop» := entryFor_of_tree (by kernel_rfl)
theorem bd_plain_loop : plainId "dict.update.loop" = true := by decide +kernel
theorem bd_list_keys : typeLookup (.type "list") (Str.ofString "keys") = pure none := by rw [typeLookup_type, builtinLookup_eq_fast]; kernel_rfl

def addK (ks : List Int) (r : Int) : List Int := if r ∈ ks then ks else ks ++ [r]
theorem stored_keys (kvs : List (Int × Value)) (k : Int) (v : Value) : (stored kvs k v).map (·.1) = addK (kvs.map (·.1)) k := by
  unfold stored addK
  by_cases h : kvs.any (fun kv => decide (kv.1 = k)) = true
  · rw [if_pos h, if_pos ?_]
    · rw [List.map_map]
      refine List.map_congr_left fun kv _ => ?_
      show (if kv.1 = k then (kv.1, v) else kv).1 = kv.1
      split <;> rfl
    · obtain ⟨kv, hm, e⟩ := List.any_eq_true.mp h
      exact List.mem_map.mpr ⟨kv, hm, of_decide_eq_true e⟩
  · rw [if_neg h, if_neg ?_]
    · rw [List.map_append]; rfl
    · intro q
      obtain ⟨kv, hm, e⟩ := List.mem_map.mp q
      exact h (List.any_eq_true.mpr ⟨kv, hm, decide_eq_true e⟩)
theorem foldl_addK_len : ∀ (rs ks : List Int), (rs.foldl addK ks).length ≤ ks.length + rs.length
  | [], ks => Nat.le_refl _
  | r :: rs, ks => by
    rw [List.foldl_cons]
    refine Nat.le_trans (foldl_addK_len rs _) ?_
    unfold addK
    split <;> simp only [List.length_append, List.length_cons, List.length_nil] <;> omega
theorem foldl_addK_eq : ∀ (rs ks : List Int), ks.Nodup → ((rs.foldl addK ks).length = ks.length + rs.length ↔ (ks ++ rs).Nodup)
  | [], ks, h => by simp [h]
  | r :: rs, ks, h => by
    rw [List.foldl_cons]
    by_cases q : r ∈ ks
    · have e : addK ks r = ks := if_pos q
      rw [e]
      have := foldl_addK_len rs ks
      constructor
      · intro z; simp only [List.length_cons] at z; omega
      · intro z
        rw [List.nodup_append] at z
        exact absurd rfl (z.2.2 r q r (.head _))
    · have e : addK ks r = ks ++ [r] := if_neg q
      rw [e]
      have hn : (ks ++ [r]).Nodup := by
        rw [List.nodup_append]
        exact ⟨h, by simp, fun a ha b hb => by rw [List.mem_singleton.mp hb]; exact fun z => q (z ▸ ha)⟩
      have ih := foldl_addK_eq rs (ks ++ [r]) hn
      rw [List.append_assoc] at ih
      simp only [List.length_append, List.length_cons, List.length_nil] at ih ⊢
      rw [show ks.length + (rs.length + 1) = ks.length + (0 + 1) + rs.length by omega]
      exact ih

section
variable {prog : Program} {w : World} {X : Addr → Prop} {A : Around}
def onePair (r : Int) : Dat := .tuple [.int r, .int 1]
theorem bd_loop {I D l : Addr} {ws : List Value} {n : Nat} {hb : Heap} {rs₀ : List Int} (hh : A.handled = none) (hID : I ≠ D) (hlD : l ≠ D) (hlI : l ≠ I) (hIb : hb.get? I = none) (hDb : hb.get? D = none) (hbl : hb.get? l = some (W.listOf ws.toArray n)) (hva : VA X hb ws (rs₀.map onePair)) (hz : rs₀.length ≤ 64)
    {R : Result → Shared → Prop} {s₀ : Shared} (hR : ∀ h' tk' kvs, Ext hb h' → h'.DictOf (intKind prog w) D kvs → kvs.map (·.1) = rs₀.foldl addK [] → R (.ok (.ret .none)) { s₀ with heap := h', toks := tk' }) :
    ∀ (rs : List Int) (i : Nat) (j : Int) (t : Tok) (kvs : List (Int × Value)) (h : Heap) (tk : Nat), rs = rs₀.drop i → i ≤ rs₀.length → h.IsListIter I l i → Ext hb h → h.DictOf (intKind prog w) D kvs → kvs.map (·.1) = (rs₀.take i).foldl addK [] →
      codeAny (model prog w) A (.builtin "dict.update.loop" ⟨[.ref D, .ref I, .int j t, .none], []⟩) R { s₀ with heap := h, toks := tk }
  | [], i, j, t, kvs, h, tk, hrs, hi, hit, k, hd, hk => by
    refine codeAny_builtin bd_entry_loop ?_
    have hl : h.IsList l ws.toArray := lstIs (k _ _ hbl)
    have hlen : rs₀.length ≤ i := by
      have : (rs₀.drop i).length = 0 := by rw [← hrs]; rfl
      rw [List.length_drop] at this; omega
    have hx : ws.toArray[i]? = none := by rw [List.getElem?_toArray, List.getElem?_eq_none_iff, hva.length, List.length_map]; omega
    unfold Builtin.«dict.update.loop»
    refine wpAny_bind (wpAny_pyNext_list_end (s := { s₀ with heap := h, toks := tk }) hh hit hl hx fun h' k' => ?_)
    show wpAny _ _ (Builtin.Dict.addKeywords D [] >>= _) _ _ _
    refine wpAny_bind (wpAny_pure (wpAny_pure (hR h' tk kvs (fun b o e => k' b o (fun q => by rw [q, hIb] at e; cases e) (k b o e)) (hd.extBut k' (Ne.symm hID)) ?_)))
    rw [hk, List.take_of_length_le hlen]
  | r :: rs, i, j, t, kvs, h, tk, hrs, hi, hit, k, hd, hk => by
    refine codeAny_builtin bd_entry_loop ?_
    have hl : h.IsList l ws.toArray := lstIs (k _ _ hbl)
    have hlt : i < rs₀.length := by
      have : (rs₀.drop i).length = rs.length + 1 := by rw [← hrs]; rfl
      rw [List.length_drop] at this; omega
    have hri : rs₀[i]? = some r := by
      have : (rs₀.drop i)[0]? = some r := by rw [← hrs]; rfl
      rw [List.getElem?_drop] at this; simpa using this
    obtain ⟨v, hv, hV⟩ := hva.get (k := i) (d := onePair r) (by rw [List.getElem?_map, hri]; rfl)
    unfold Builtin.«dict.update.loop»
    refine wpAny_bind (wpAny_pyNext_list_item (s := { s₀ with heap := h, toks := tk }) hit hl (by simpa using hv) fun h₁ hit₁ hs₁ => ?_)
    have k₁ : Ext hb h₁ := fun b o e => hs₁.extBut b o (fun q => by rw [q, hIb] at e; cases e) (k b o e)
    have hV₁ := hV.mono (Ext.seq k₁)
    cases hV₁ with
    | tup nx e va =>
      rename_i a vs m
      cases va with
      | cons x1 rest =>
        cases rest with
        | cons x2 rest =>
          cases rest
          cases x1 with
          | int _ t1 =>
            cases x2 with
            | int _ t2 =>
              refine wpAny_bind (wpAny_holding ?_)
              have hT : ({ s₀ with heap := h₁, toks := tk } : Shared).TypeIs (.ref a) "tuple" := ⟨_, e, rfl⟩
              refine wpAny_bind (wpAny_tryCatch ?_)
              unfold Builtin.Dict.pairItems
              refine wpAny_bind (wpAny_typeOf hT ?_)
              simp only [beq_self_eq_true, Bool.or_true, if_true]
              refine wpAny_bind (wpAny_seqItems (s := { s₀ with heap := h₁, toks := tk }) e rfl (wpAny_pure ?_))
              show wpAny _ _ (holding [Value.int r t1, Value.int 1 t2] (dictSet D (Value.int r t1) (Value.int 1 t2))) _ _ _
              have hd₁ : h₁.DictOf (intKind prog w) D kvs := hd.sameBut hs₁ (Ne.symm hID)
              have hkl : kvs.length ≤ sizeLine := by
                have e1 : kvs.length = ((rs₀.take i).foldl addK []).length := by rw [← hk, List.length_map]
                have e2 := foldl_addK_len (rs₀.take i) []
                rw [List.length_take] at e2
                rw [sizeLine_eq]
                simp only [List.length_nil] at e2
                omega
              refine wpAny_holding (wpAny_dictSet_pairs (knd := intKind prog w) (k := r) (s := { s₀ with heap := h₁, toks := tk }) (beq_self_eq_true r) hd₁ (fun h₂ hd₂ hs₂ => ?_) hkl)
              refine wpAny_pure ⟨Code.quiet_builtin _ (by decide +kernel), ?_⟩
              refine bd_loop hh hID hlD hlI hIb hDb hbl hva hz hR rs (i + 1) _ _ _ h₂ _ ?_ hlt ?_ (fun b o e => hs₂.extBut b o (fun q => by rw [q, hDb] at e; cases e) (k₁ b o e)) hd₂ ?_
              · rw [← List.tail_drop, ← hrs]; rfl
              · obtain ⟨o', q1, q2, q3⟩ := hit₁
                exact ⟨o', hs₂.extBut I o' hID q1, q2, q3⟩
              · rw [stored_keys, hk, List.take_add_one, hri, List.foldl_append]; rfl

theorem bd_getAttr {a : Addr} {vs : List Value} {n : Nat} {s : Shared} {Q : Option Value → Shared → Prop} {E : Value → Shared → Prop} (hA : A.handled = none) (hx : s.heap.get? a = some (W.listOf vs.toArray n))
    (h : ∀ h' tk, Ext s.heap h' → Q none { s with heap := h', toks := tk }) : wpAny (model prog w) A (getAttr? (.ref a) (Str.ofString "keys")) Q E s := by
  obtain ⟨hp, g, d, tk, os⟩ := s
  have hT : ∀ tk', (⟨hp, g, d, tk', os⟩ : Shared).TypeIs (.ref a) "list" := fun _ => ⟨_, hx, rfl⟩
  have f1 := sub_AttributeError
  have f3 := F.slot_list_getattribute.lookup
  have f4 := F.slot_list_getattribute.bind (.ref a)
  have f5 := am_list_getattr_none
  unfold getAttr? getAttrBy? getAttrBy
  repeat (any_goals (first | assumption | exact hT _ | ((with_reducible show wpAny _ _ (call (Value.builtin "list.__getattribute__") _ _) _ _ _); refine call_meets F.slot_list_getattribute (hT _) am_entry_list_getattribute (F.args_list_getattribute_2 _ _) (meets_getattribute_miss_list a vs.toArray n #[] (Str.ofString "keys") _ bd_list_keys (by decide)) ⟨hx, hA, fun h' tk' e hx' => ?_⟩) | wp_step))
  obtain ⟨t', u', he⟩ := hx'.there
  have hTe : ∀ tk', (⟨h', g, d, tk', os⟩ : Shared).TypeIs (.ref e) "AttributeError" := fun _ => ⟨_, he, rfl⟩
  show wpAny _ _ (getattributeRaised _ _ _ _ _ _ _) _ _ _
  unfold getattributeRaised
  repeat (any_goals (first | assumption | exact hTe _ | wp_step))
  exact h _ _ hx'.keeps

theorem bd_dict {l : Addr} {ws : List Value} {n : Nat} {rs : List Int} {s : Shared} {Q : Value → Shared → Prop} {E : Value → Shared → Prop} (hA : A.handled = none) (hl : s.heap.get? l = some (W.listOf ws.toArray n)) (hX : ¬ X l) (hva : VA X s.heap ws (rs.map onePair)) (hz : rs.length ≤ 64) (off : ∀ b, X b → ∃ o, s.heap.get? b = some o)
    (hQ : ∀ D h' tk kvs, Ext s.heap h' → D = s.heap.objs.size → h'.DictOf (intKind prog w) D kvs → kvs.map (·.1) = rs.foldl addK [] → Q (.ref D) { s with heap := h', toks := tk }) :
    wpAny (model prog w) A (call (.type "dict") [.ref l]) Q E s := by
  refine callType_codes (Q₁ := fun obj s₁ => obj = .ref s.heap.objs.size ∧ s₁ = { s with heap := s.heap.push { cls := .type "dict", data := .dict #[] } }) F.kt_called_dict (F.kt_typeCall_dict_1 _) F.entry_dict_init (kt_code_dict_new _ ⟨rfl, rfl⟩) ?_
  rintro obj s₁ ⟨rfl, rfl⟩
  have hnew : (s.heap.push { cls := .type "dict", data := .dict #[] }).DictOf (intKind prog w) s.heap.objs.size [] := Heap.DictOf.new s.heap
  have k : Ext s.heap (s.heap.push { cls := .type "dict", data := .dict #[] }) := fun b o e => Heap.get?_push_of_some _ e
  have hlt := Heap.lt_size hl
  have hT : ({ s with heap := s.heap.push { cls := .type "dict", data := .dict #[] } } : Shared).TypeIs (.ref l) "list" := ⟨_, k _ _ hl, rfl⟩
  refine ⟨hnew.typeIs, F.args_dict_init_2 _ _, ?_⟩
  unfold Builtin.«dict.__init__»
  refine wpAny_bind ?_
  unfold Builtin.Dict.selfAndRest
  refine wpAny_bind (wpAny_notOrdered_dict hnew.typeIs ?_)
  show wpAny _ _ (pure (s.heap.objs.size, [Value.ref l])) _ _ _
  refine wpAny_pure ?_
  show wpAny _ _ (Builtin.Dict.updateFrom "dict.__init__" s.heap.objs.size (.ref l) [] .none) _ _ _
  unfold Builtin.Dict.updateFrom
  refine wpAny_bind (wpAny_typeOf hT ?_)
  rw [if_pos (by decide)]
  refine wpAny_bind (bd_getAttr (s := { s with heap := s.heap.push { cls := .type "dict", data := .dict #[] } }) hA (k _ _ hl) fun h₂ tk₂ k₂ => ?_)
  simp only [Option.isNone_none, if_true]
  refine wpAny_bind (wpAny_rule ?_)
  have e₂ : h₂.get? l = some (W.listOf ws.toArray n) := k₂ _ _ (k _ _ hl)
  refine wpAny_bind (wpAny_pyIter_list (lstIs e₂) ?_)
  have hI : s.heap.objs.size < h₂.objs.size := Heap.lt_size (k₂ _ _ (Heap.get?_push_size s.heap (o := { cls := .type "dict", data := .dict #[] }) rfl))
  have k₃ : Ext h₂ (h₂.push { cls := .type "list_iterator", data := .fields #[.ref l, .int 0 0] }) := fun b o e => Heap.get?_push_of_some _ e
  have none_of : ∀ a, s.heap.objs.size ≤ a → s.heap.get? a = none := fun a ha => by
    cases e : s.heap.get? a with
    | none => rfl
    | some o => exact absurd (Heap.lt_size e) (Nat.not_lt.mpr ha)
  refine wpAny_bind (wpAny_pure (wpAny_pure ⟨Code.quiet_builtin _ (by decide +kernel), ?_⟩))
  refine bd_loop (prog := prog) (A := A.in1) (hb := s.heap) (s₀ := s) (rs₀ := rs) hA (Nat.ne_of_gt hI) (Nat.ne_of_lt hlt) (Nat.ne_of_lt (Nat.lt_trans hlt hI)) (none_of _ (Nat.le_of_lt hI)) (none_of _ (Nat.le_refl _)) hl hva hz (fun h' tk' kvs k' hd hk => ⟨rfl, hQ _ h' tk' kvs k' rfl hd hk⟩) rs 0 _ _ [] _ _ rfl (Nat.zero_le _) ⟨_, Heap.get?_push_size _ rfl, rfl, rfl⟩ (k.trans (k₂.trans k₃)) ?_ rfl
  obtain ⟨o, es, ep, ho, r⟩ := hnew
  exact ⟨o, es, ep, k₃ _ _ (k₂ _ _ ho), r⟩
end

section
variable {prog : Program} {w : World} {C : Addr} {X : Addr → Prop} {h₀ : Heap} {A : Around} {env : Env} {ρ ρ' ρc : List (Str × Ent)}
theorem low_mod (hN : h₀.NoLimit) {s : Shared} (g : Ext h₀ s.heap) {D : Addr} (hD : s.heap.objs.size ≤ D) : (D == sysModules) = false := by
  have := modules_low (hN.keeps g)
  refine beq_eq_false_iff_ne.mpr fun q => ?_
  rw [q] at hD
  exact Nat.lt_irrefl _ (Nat.lt_of_lt_of_le this hD)
theorem ev_lendict {x : Expr} {p1 p2 pos1 pos2 : Pos} {rs : List Int} (hN : h₀.NoLimit) (nl : NameIs h₀ (Str.ofString "len") (.builtin "len")) (nd : NameIs h₀ (Str.ofString "dict") (.type "dict")) (r : Room A 0)
    (hk : env.scope.kind = .function) (hx1 : env.kindOf (Str.ofString "len") = some .globalImplicit) (hx2 : env.kindOf (Str.ofString "dict") = some .globalImplicit) (hg : env.globals = mainGlobals) (hb : env.builtins = builtinsNs)
    (hx : Ev prog w C X h₀ A env ρ x (.dat (.list (rs.map onePair)))) (hz : rs.length ≤ 64)
    (he : starEach [x] env = (false, eval x env) :: starEach [] env) (hplain : (backTo pos1 (starEach [] env)).any (·.1) = false)
    (hcl1 : eval (.Call (.Name (Str.ofString "dict") p2) [x] [] pos1) env = (do callWith pos1 (← eval (.Name (Str.ofString "dict") p2) env) [] (backTo pos1 (starEach [x] env)) (backToKw pos1 (keywordEach [] env))))
    (he2 : starEach [.Call (.Name (Str.ofString "dict") p2) [x] [] pos1] env = (false, eval (.Call (.Name (Str.ofString "dict") p2) [x] [] pos1) env) :: starEach [] env) (hplain2 : (backTo pos2 (starEach [] env)).any (·.1) = false)
    (hcl2 : eval (.Call (.Name (Str.ofString "len") p1) [.Call (.Name (Str.ofString "dict") p2) [x] [] pos1] [] pos2) env = (do callWith pos2 (← eval (.Name (Str.ofString "len") p1) env) [] (backTo pos2 (starEach [.Call (.Name (Str.ofString "dict") p2) [x] [] pos1] env)) (backToKw pos2 (keywordEach [] env)))) :
    Ev prog w C X h₀ A env ρ (.Call (.Name (Str.ofString "len") p1) [.Call (.Name (Str.ofString "dict") p2) [x] [] pos1] [] pos2) (.dat (.int (rs.foldl addK []).length)) := by
  intro s Q E g ok hQ
  refine Call_ (name_top nl hk hx1 hg hb (by rfl) g ?_) hcl2
  refine callWith_builtin1 ?_ he2 hplain2
  refine args_cons (Call_ (name_top nd hk hx2 hg hb (by rfl) g ?_) hcl1) he2
  refine PySem.Pv.callWith_type1 (args_cons (hx s _ E g ok fun v h₁ t₁ k₁ i₁ => args_nil ?_) he) he hplain
  cases i₁ with
  | lst na e va =>
    refine bd_dict (s := { s with heap := h₁, toks := t₁ }) (rs := rs) r.hh e na va hz ((ok.ext k₁).off) fun D h₂ t₂ kvs k₂ hD hd hkv => args_nil ?_
    have hl : kvs.length = (rs.foldl addK []).length := by rw [← hkv, List.length_map]
    have hle := foldl_addK_len rs []
    refine call_len_dict (low_mod hN (g.trans k₁) (Nat.le_of_eq hD.symm)) hd (by simp only [List.length_nil] at hle; omega) ?_
    rw [hl]
    exact hQ _ h₂ _ (k₁.trans k₂) (.int _ _)
end
theorem enum_flds {h : Heap} {e it l : Addr} {i : Int} {j : Nat} {old : Value} (he : IsEnum h e it i old) (hit : h.IsListIter it l j) : Flds [e, it] h := fun b hb => by
  rcases List.mem_cons.mp hb with rfl | hb
  · exact ⟨_, _, he, rfl⟩
  · rw [List.mem_singleton.mp hb]
    obtain ⟨o, q1, q2, q3⟩ := hit
    exact ⟨o, _, q1, q3⟩

section
variable {prog : Program} {w : World} {C : Addr} {X : Addr → Prop} {h₀ : Heap} {A : Around} {env : Env} {ρ ρ' ρc : List (Str × Ent)}

theorem It.enum (hh : A.handled = none) {elts : List Expr} {x1 : Nat} {pos : Pos} {e it l : Addr} {ws : List Value} {n : Nat} {ds : List Dat} (hei : e ≠ it) (hle : l ≠ e) (hli : l ≠ it) (hX : ¬ X l) (hXe : ¬ X e) (hXi : ¬ X it) :
    It prog w A X (.Tuple elts x1 pos) e [e, it] ds.length (fun i h => (∃ old, IsEnum h e it i old) ∧ h.IsListIter it l i ∧ h.get? l = some (W.listOf ws.toArray n) ∧ VA X h ws ds) (fun i => .tuple [.int i, ds.getD i Dat.none]) where
  flds := fun i h st => by
    obtain ⟨⟨old, he⟩, hit, _⟩ := st
    exact enum_flds he hit
  frame := fun i h h' st k k' => by
    obtain ⟨⟨old, he⟩, ⟨o, q1, q2, q3⟩, hl, va⟩ := st
    exact ⟨⟨old, k' e (by simp) _ he⟩, ⟨o, k' it (by simp) o q1, q2, q3⟩, k l _ hX hl ⟨_, _, rfl⟩, va.mono k⟩
  item := fun i s Q E hi st off hQ => by
    obtain ⟨⟨old, he⟩, hit, hl, va⟩ := st
    have hd : ds[i]? = some (ds.getD i Dat.none) := by rw [List.getD_eq_getElem?_getD, List.getElem?_eq_getElem hi]; rfl
    obtain ⟨v, hv, hV⟩ := va.get hd
    refine wpAny_pyNext_enum_item he hit (lstIs hl) (by simpa using hv) hei fun h₁ ho hit₁ hT hsz hk => ⟨_, rfl, ?_⟩
    refine wpAny_letOwnedTupleGo_enum (s := { s with heap := h₁, toks := s.toks + 1 }) ho fun h₂ he₂ hs₂ => ?_
    have helt : e < s.heap.objs.size := Heap.lt_size he
    have hilt : it < s.heap.objs.size := by obtain ⟨_, y, _⟩ := hit; exact Heap.lt_size y
    have k : But [e, it] s.heap h₂ := fun b o hb q => hs₂.extBut b o (fun z => hb (by simp [z])) (hk b o (fun z => hb (by simp [z])) (fun z => hb (by simp [z])) q)
    have kk : SeqExt X s.heap h₂ := k.seq (enum_flds he hit)
    have hT₂ : h₂.get? s.heap.objs.size = some { cls := .type "tuple", data := .seq #[.int i s.toks, v] } := hs₂.extBut _ _ (Nat.ne_of_gt helt) hT
    have hit₂ : h₂.IsListIter it l (i + 1) := by obtain ⟨o, q1, q2, q3⟩ := hit₁; exact ⟨o, hs₂.extBut it o (Ne.symm hei) q1, q2, q3⟩
    have nX : ¬ X s.heap.objs.size := new_off off
    refine hQ _ h₂ (s.toks + 1) k ⟨⟨v, by simpa using he₂⟩, hit₂, kk l _ hX hl ⟨_, _, rfl⟩, va.mono kk⟩ (.tup (vs := [.int i s.toks, v]) (n := 0) nX hT₂ (.cons (.int _ _) (.cons (hV.mono kk) .nil)))
  done := fun s Q E st hQ => by
    obtain ⟨⟨old, he⟩, hit, hl, va⟩ := st
    have hx : ws.toArray[ds.length]? = none := by rw [List.getElem?_toArray, List.getElem?_eq_none_iff, va.length]; exact Nat.le_refl _
    exact wpAny_pyNext_enum_end hh he hit (lstIs hl) hx fun h' k => hQ h' s.toks fun b o hb e => k b o (fun q => hb (by simp [q])) e
  self := fun i s Q E st hQ => by
    obtain ⟨⟨old, he⟩, _⟩ := st
    exact wpAny_pyIter_enum he hQ

theorem It.range (hh : A.handled = none) {x : Str} {xp : Pos} {I : Addr} {a : Int} {n : Nat} :
    It prog w A X (.Name x xp) I [I] n (fun i h => IsRangeIter h I (a + i) (n - i) 1) (fun i => .int (a + i)) where
  flds := fun i h st b hb => by rw [List.mem_singleton.mp hb]; exact ⟨_, _, st, rfl⟩
  frame := fun i h h' st k k' => k' I (by simp) _ st
  item := fun i s Q E hi st off hQ => by
    refine wpAny_pyNext_range_item st (by omega) fun h' hit' hs' => ⟨_, rfl, ?_⟩
    refine wpAny_pure (hQ _ h' (s.toks + 1) (fun b o hb e => hs'.extBut b o (fun q => hb (by simp [q])) e) ?_ (.int _ _))
    have e1 : a + ((i + 1 : Nat) : Int) = a + i + 1 := by omega
    have e2 : (n : Int) - ((i + 1 : Nat) : Int) = n - i - 1 := by omega
    show IsRangeIter h' I (a + ((i + 1 : Nat) : Int)) (n - ((i + 1 : Nat) : Int)) 1
    rw [e1, e2]; exact hit'
  done := fun s Q E st hQ => wpAny_pyNext_range_end hh st (by omega) fun h' k => hQ h' s.toks fun b o hb e => k b o (fun q => hb (by simp [q])) e
  self := fun i s Q E st hQ => wpAny_pyIter_rangeiter st hQ

/-- an iterable, walked -/
def Src (prog : Program) (w : World) (C : Addr) (X : Addr → Prop) (h₀ : Heap) (A : Around) (env : Env) (ρ : List (Str × Ent)) (t iter : Expr) (n : Nat) (D : Nat → Dat) : Prop :=
  ∀ (s : Shared) (Q : Value → Shared → Prop) (E : Value → Shared → Prop), Ext h₀ s.heap → OK C X h₀ env ρ s.heap →
    (∀ I wr St hb h' tk', Ext s.heap hb → Ext hb h' → hb.objs.size ≤ h'.objs.size → (∀ b ∈ wr, hb.objs.size ≤ b ∧ b < h'.objs.size) → St 0 h' → It prog w A (Also X h'.objs.size) t I wr n St D → Q (.ref I) { s with heap := h', toks := tk' }) →
    wpAny (model prog w) A (eval iter env) (fun v s₁ => wpAny (model prog w) A (pyIter v) Q E s₁) E s

theorem none_ge {h : Heap} {a : Addr} (ha : h.objs.size ≤ a) : h.get? a = none := by
  cases e : h.get? a with
  | none => rfl
  | some o => exact absurd (Heap.lt_size e) (Nat.not_lt.mpr ha)
theorem src_enum {elts : List Expr} {x1 : Nat} {pos p1 p2 : Pos} {x : Expr} {ds : List Dat} (hh : A.handled = none) (hx : Ev prog w C X h₀ A env ρ x (.dat (.list ds))) (nm : NameIs h₀ (Str.ofString "enumerate") (.type "enumerate"))
    (hk : env.scope.kind = .function) (hx1 : env.kindOf (Str.ofString "enumerate") = some .globalImplicit) (hg : env.globals = mainGlobals) (hb : env.builtins = builtinsNs)
    (he : starEach [x] env = (false, eval x env) :: starEach [] env) (hplain : (backTo p2 (starEach [] env)).any (·.1) = false)
    (hcl : eval (.Call (.Name (Str.ofString "enumerate") p1) [x] [] p2) env = (do callWith p2 (← eval (.Name (Str.ofString "enumerate") p1) env) [] (backTo p2 (starEach [x] env)) (backToKw p2 (keywordEach [] env)))) :
    Src prog w C X h₀ A env ρ (.Tuple elts x1 pos) (.Call (.Name (Str.ofString "enumerate") p1) [x] [] p2) ds.length (fun i => .tuple [.int i, ds.getD i Dat.none]) := by
  intro s Q E g ok hQ
  refine Call_ (name_top nm hk hx1 hg hb (by rfl) g ?_) hcl
  refine PySem.Pv.callWith_type1 (args_cons (hx s _ E g ok fun v h₁ t₁ k₁ i₁ => args_nil ?_) he) he hplain
  cases i₁ with
  | lst na e va =>
    rename_i l ws n
    refine call_enumerate_list (s := { s with heap := h₁, toks := t₁ }) (lstIs e) fun h₂ he₂ hit₂ hz k₂ => ?_
    have hlt := Heap.lt_size e
    refine wpAny_pyIter_enum (s := { s with heap := h₂, toks := t₁ }) he₂ ?_
    dsimp only at hz k₂ he₂ hit₂ ⊢
    have nD : ∀ b, b < h₂.objs.size → b ≠ h₂.objs.size := fun b hb => Nat.ne_of_lt hb
    have off₁ := (ok.ext k₁).off
    have nX : ∀ b, h₁.objs.size ≤ b → b < h₂.objs.size → ¬ Also X h₂.objs.size b := fun b h1 h2 q => q.elim (fun q => by obtain ⟨o, z⟩ := off₁ b q; exact Nat.lt_irrefl _ (Nat.lt_of_lt_of_le (Heap.lt_size z) h1)) fun q => nD b h2 q
    have lt0 : h₁.objs.size < h₂.objs.size := by rw [hz]; omega
    have lt1 : h₁.objs.size + 1 < h₂.objs.size := by rw [hz]; omega
    refine hQ _ [h₁.objs.size + 1, h₁.objs.size] _ h₁ h₂ t₁ k₁ k₂ (Nat.le_of_lt lt0) (fun b hb => ?_) ?_ (It.enum hh (l := l) (ws := ws) (n := n) (Nat.succ_ne_self _) (Nat.ne_of_lt (Nat.lt_succ_of_lt hlt)) (Nat.ne_of_lt hlt) (fun q => q.elim na (nD l (Nat.lt_trans hlt lt0))) (nX _ (Nat.le_succ _) lt1) (nX _ (Nat.le_refl _) lt0))
    · rcases List.mem_cons.mp hb with rfl | hb
      · exact ⟨Nat.le_succ _, lt1⟩
      · rw [List.mem_singleton.mp hb]; exact ⟨Nat.le_refl _, lt0⟩
    · exact ⟨⟨_, he₂⟩, hit₂, k₂ _ _ e, (va.mono (Ext.seq k₂)).avoid (none_ge (Nat.le_refl _))⟩

theorem src_range {y : Str} {yp p1 p2 : Pos} {x1 x2 : Expr} {a b : Int} (hh : A.handled = none) (hx1 : Ev prog w C X h₀ A env ρ x1 (.dat (.int a))) (hx2 : Ev prog w C X h₀ A env ρ x2 (.dat (.int b))) (nm : NameIs h₀ (Str.ofString "range") (.type "range"))
    (ha : -(2 ^ 62) ≤ a) (ha' : a < 2 ^ 62) (hb : -(2 ^ 62) ≤ b) (hb' : b < 2 ^ 62)
    (hk : env.scope.kind = .function) (hx : env.kindOf (Str.ofString "range") = some .globalImplicit) (hg : env.globals = mainGlobals) (hbl : env.builtins = builtinsNs)
    (he : starEach [x1, x2] env = (false, eval x1 env) :: starEach [x2] env) (he2 : starEach [x2] env = (false, eval x2 env) :: starEach [] env) (hplain : (backTo p2 (starEach [x2] env)).any (·.1) = false)
    (hcl : eval (.Call (.Name (Str.ofString "range") p1) [x1, x2] [] p2) env = (do callWith p2 (← eval (.Name (Str.ofString "range") p1) env) [] (backTo p2 (starEach [x1, x2] env)) (backToKw p2 (keywordEach [] env)))) :
    Src prog w C X h₀ A env ρ (.Name y yp) (.Call (.Name (Str.ofString "range") p1) [x1, x2] [] p2) (b - a).toNat (fun i => .int (a + i)) := by
  intro s Q E g ok hQ
  refine Call_ (name_top nm hk hx hg hbl (by rfl) g ?_) hcl
  refine PySem.Pv.callWith_type1 (args_cons (hx1 s _ E g ok fun v h₁ t₁ k₁ i₁ => args_cons (hx2 _ _ E (g.trans k₁) (ok.ext k₁) fun u h₂ t₂ k₂ i₂ => args_nil ?_) he2) he) he hplain
  cases i₁; cases i₂
  rename_i ta tb
  refine call_range_2 (s := { s with heap := h₂, toks := t₂ }) ?_
  refine wpAny_pyIter_range (IsRange.new h₂ a b 1 ta tb t₂) (small_one ha ha' hb hb') ?_
  dsimp only
  have e1 : (h₂.push { cls := .type "range", data := .fields #[.int a ta, .int b tb, .int 1 t₂] }).objs.size = h₂.objs.size + 1 := Heap.size_push ..
  have e2 : ((h₂.push { cls := .type "range", data := .fields #[.int a ta, .int b tb, .int 1 t₂] }).push { cls := .type "range_iterator", data := .fields #[rawInt a, rawInt (Builtin.Range.rangeSize a b 1), rawInt 1] }).objs.size = h₂.objs.size + 1 + 1 := by rw [Heap.size_push, e1]
  refine hQ _ [_] _ h₂ _ _ (k₁.trans k₂) (fun b o e => Heap.get?_push_of_some _ (Heap.get?_push_of_some _ e)) (by rw [e2]; omega) (fun b hb => by rw [List.mem_singleton.mp hb, e1, e2]; omega) ?_ (It.range hh)
  show IsRangeIter _ _ (a + ((0 : Nat) : Int)) (((b - a).toNat : Int) - ((0 : Nat) : Int)) 1
  have e3 : (((b - a).toNat : Int) - ((0 : Nat) : Int)) = Builtin.Range.rangeSize a b 1 := by rw [rangeSize_one]; split <;> omega
  rw [e3, show a + ((0 : Nat) : Int) = a by omega]
  exact Heap.get?_push_size _ rfl

theorem ev_compS {t elt iter : Expr} {ifs : List Expr} {scope : Scope} {cl : List (Str × Addr)} {pos : Pos} {n : Nat} {D : Nat → Dat} {es : List Dat} {p : Nat → Bool} {f : Nat → Dat} (B : BlockOf env ρ ρc scope cl) (hn : n ≤ sizeLine)
    (hi : Src prog w C X h₀ A env ρ t iter n D)
    (turn : ∀ X' Cc i, i < n → CTurn prog w C X' h₀ A (compEnvC scope cl Cc env) ρc t ifs elt (D i) (p i) (f i)) (he : compRes p f n = es)
    (hs : ∀ y, foldedSetIterable iter env y = pure y) : Ev prog w C X h₀ A env ρ (.ListComp elt [⟨t, iter, ifs, 0⟩] scope pos) (.dat (.list es)) := by
  intro s Q E g ok hQ
  rw [eval_ListComp]
  refine wpAny_comprehension_free (use := none) rfl hs B.clos B.kind B.names (hi s _ E g ok fun I wr St hb h₁ t₁ k₁ k₂ hz hwr hst W => ?_)
  have okb := ok.ext k₁
  refine comp_block (s₂ := { s with heap := h₁, toks := t₁ }) (hb := hb) (p := p) (f := f) B hn (RR := fun acc Cc => compPost (model prog w) A E none Q acc Cc) W (g.trans k₁) okb k₂ hz
    (fun b hb => (hwr b hb).1) (fun b hb => (hwr b hb).2) hst (fun Cc i hi => turn _ Cc i hi) (fun Cc h' tk' ys m hC hne k' hn' hl hv => ?_)
  rw [he] at hv
  refine ⟨m, hn', fun h'' hs'' => ?_⟩
  have e1 : Ext hb h'' := fun b o e => hs''.extBut b o (fun q => Nat.lt_irrefl _ (Nat.lt_of_lt_of_le (q ▸ Heap.lt_size e) hC)) (k' b o e)
  refine hQ _ h'' tk' (k₁.trans e1) ?_
  have hX : ¬ X h₁.objs.size := new_off fun b hb' => (okb.off b hb').imp fun o e => k₂ b o e
  refine lst_of (ys := ys) ?_ hX ?_
  · obtain ⟨j, q⟩ := hl; exact ⟨j, hs''.extBut _ _ hne q⟩
  · refine hv.less.mono fun b o nx e hsq => hs''.extBut b o (fun q => ?_) e
    obtain ⟨o', es', ep, q1, q2, _⟩ := hn'
    obtain ⟨vs, j, hd⟩ := hsq
    rw [q, q1] at e; cases e; rw [hd] at q2; cases q2

theorem exs_assign_compS {t elt iter : Expr} {ifs : List Expr} {scope : Scope} {cl : List (Str × Addr)} {x : Str} {px pos spos : Pos} {n : Nat} {D : Nat → Dat} {es : List Dat} {p : Nat → Bool} {f : Nat → Dat} (B : BlockOf env ρ ρc scope cl) (hn : n ≤ sizeLine)
    (hi : Src prog w C X h₀ A env ρ t iter n D)
    (turn : ∀ X' Cc i, i < n → CTurn prog w C X' h₀ A (compEnvC scope cl Cc env) ρc t ifs elt (D i) (p i) (f i)) (he : compRes p f n = es)
    (hs : ∀ y, foldedSetIterable iter env y = pure y) (hk : env.scope.kind = .function) (hl : env.kindOf x = some .local)
    (hsw : swapsWith (.ListComp elt [⟨t, iter, ifs, 0⟩] scope pos) (some (.Name x px)) spos.line env = pure true) :
    ExS prog w C X h₀ A env ρ (.Assign [.Name x px] (.ListComp elt [⟨t, iter, ifs, 0⟩] scope pos) spos) (.next ((x, .dat (.list es)) :: ρ)) := by
  intro s Q E g ok hQ
  rw [exec_Assign_Name_used _ _ _ _ hsw]
  refine wpAny_bind (wpAny_standAt (wpAny_bind ?_))
  show wpAny _ A (do let _ ← comprehension (.ListComp elt [⟨t, iter, ifs, 0⟩] scope pos) scope env _ (newList []) false (eval iter env) (some (assign (.Name x px) env))) _ _ s
  refine wpAny_bind (wpAny_mono (wpAny_comprehension_free (use := some (assign (.Name x px) env)) (Q := fun _ s' => Q .next s') rfl hs B.clos B.kind B.names
    (hi s _ E g ok fun I wr St hb h₁ t₁ k₁ k₂ hz hwr hst W => ?_)) (fun _ s' hq => wpAny_pure (wpAny_pure hq)) fun _ _ e => e)
  have okb := ok.ext k₁
  refine comp_block (s₂ := { s with heap := h₁, toks := t₁ }) (hb := hb) (p := p) (f := f) B hn (RR := fun acc Cc => compPost (model prog w) A E (some (assign (.Name x px) env)) (fun _ s' => Q .next s') acc Cc) W (g.trans k₁) okb k₂ hz
    (fun b hb => (hwr b hb).1) (fun b hb => (hwr b hb).2) hst (fun Cc i hi => turn _ Cc i hi) (fun Cc h' tk' ys m hC hne k' hn' hl' hv => ?_)
  rw [he] at hv
  have hX : ¬ X h₁.objs.size := new_off fun b hb' => (okb.off b hb').imp fun o e => k₂ b o e
  obtain ⟨m', hn₁, hm₁⟩ := okb.ns
  have sC : Safe env Cc := (fresh_safe okb hC).1
  refine wpAny_assign_Name (wpAny_storeName_local hl (hn₁.at' fun o e => k' _ o e) (fun h'' hn'' hs'' => ?_) (by rw [hk]; rfl))
  have hnC : h''.Ns Cc m := hn'.sameBut hs'' sC.1
  refine ⟨m, hnC, fun h₃ hs₃ => ?_⟩
  have b₃ : ButL env hb h₃ := fun b o hb' e => hs₃.extBut b o (fun q => Nat.lt_irrefl _ (Nat.lt_of_lt_of_le (q ▸ Heap.lt_size e) hC)) (hs''.extBut b o hb' (k' b o e))
  have vD : V X h₃ (.ref h₁.objs.size) (.list es) := by
    refine V.mono (h := h') (fun b o nx e hsq => hs₃.extBut b o (fun q => ?_) (hs''.extBut b o (fun q => ?_) e)) (lst_of hl' hX hv.less)
    · obtain ⟨o', es', ep, q1, q2, _⟩ := hn'
      obtain ⟨vs, j, hd⟩ := hsq
      rw [q, q1] at e; cases e; rw [hd] at q2; cases q2
    · obtain ⟨o', es', ep, q1, q2, _⟩ := hn₁
      obtain ⟨vs, j, hd⟩ := hsq
      rw [q, k' _ _ q1] at e; cases e; rw [hd] at q2; cases q2
  exact hQ .next h₃ _ (fun b o e sf => b₃ b o sf.1 (k₁ b o e)) ⟨rfl, okb.setLocal' hm₁ hl (hn''.sameBut hs₃ (fun q => sC.1 q.symm)) b₃ vD⟩
end
def runT {α : Type} (c : Nat → Nat → Bool) : KasT α → α
  | .ret a => a
  | .ask i j k => runT c (k (c i j))
def Good {α : Type} (n : Nat) (P : α → Prop) : KasT α → Prop
  | .ret a => P a
  | .ask i j k => i < n ∧ j < n ∧ ∀ b, Good n P (k b)
theorem Good.bind {α β : Type} {n : Nat} {P : α → Prop} {Q : β → Prop} {f : α → KasT β} : ∀ {t : KasT α}, Good n P t → (∀ a, P a → Good n Q (f a)) → Good n Q (t.bind f)
  | .ret a, h, hf => hf a h
  | .ask i j k, h, hf => ⟨h.1, h.2.1, fun b => Good.bind (h.2.2 b) hf⟩
theorem Good.run {α : Type} {n : Nat} {P : α → Prop} (c : Nat → Nat → Bool) : ∀ {t : KasT α}, Good n P t → P (runT c t)
  | .ret a, h => h
  | .ask i j k, h => Good.run (t := k (c i j)) c (h.2.2 _)
abbrev IsP (n : Nat) (p : Array Nat) : Prop := p.Perm (List.range n).toArray
theorem IsP.getD {n : Nat} {p : Array Nat} (h : IsP n p) (hn : 0 < n) (i : Nat) : p.getD i 0 < n := by
  by_cases hi : i < p.size
  · have e : p.getD i 0 = p[i] := by simp [Array.getD, hi]
    rw [e]
    have : p[i] ∈ (List.range n).toArray := (h.mem_iff).mp (Array.getElem_mem hi)
    simpa using this
  · have e : p.getD i 0 = 0 := by simp [Array.getD, hi]
    rw [e]; exact hn
theorem IsP.rev {n : Nat} {p : Array Nat} (h : IsP n p) (i j : Nat) : IsP n (kas_rev p i j) := (mirror_perm _ _ _ _).trans h
theorem asc_good {n : Nat} {p : Array Nat} (h : IsP n p) (hn : 0 < n) : ∀ f m, Good n (fun _ => True) (kas_asc p f m)
  | 0, _ => trivial
  | f + 1, m => ⟨h.getD hn _, h.getD hn _, fun b => by
    cases b with
    | true => exact trivial
    | false => exact asc_good h hn f (m + 1)⟩
theorem desc_good {n : Nat} (hn : 0 < n) : ∀ (f : Nat) (p : Array Nat) (m q : Nat), IsP n p → Good n (fun r => IsP n r.1) (kas_desc f p m q)
  | 0, p, m, q, h => h
  | f + 1, p, m, q, h => ⟨h.getD hn _, h.getD hn _, fun b => by
    cases b with
    | true =>
      show Good n _ (if q > 0 then _ else _)
      split
      · exact desc_good hn f _ _ _ (h.rev _ _)
      · exact desc_good hn f _ _ _ h
    | false =>
      refine ⟨h.getD hn _, h.getD hn _, fun d => ?_⟩
      cases d with
      | true => exact h
      | false => exact desc_good hn f _ _ _ h⟩
theorem tail3_good {n : Nat} (hn : 0 < n) {p : Array Nat} (h : IsP n p) (a b : Nat) : Good n (fun r => IsP n r.2) (kas_tail3 a b p) :=
  Good.bind (asc_good (h.rev _ _) hn _ _) fun m _ => h.rev _ _
theorem descPart_good {n : Nat} (hn : 0 < n) {p : Array Nat} (h : IsP n p) (a b : Nat) : Good n (fun r => IsP n r.2) (kas_descPart a b p) := by
  refine Good.bind (desc_good hn _ _ _ _ h) fun r hr => ?_
  split
  · exact tail3_good hn (hr.rev _ _) _ _
  · exact tail3_good hn hr _ _
theorem count_good {n : Nat} (hn : 0 < n) {p : Array Nat} (h : IsP n p) (a : Nat) : Good n (fun r => IsP n r.2) (kas_count a p) := by
  refine Good.bind (asc_good h hn _ _) fun m _ => ?_
  split
  · exact h
  · split
    · refine ⟨h.getD hn _, h.getD hn _, fun b => ?_⟩
      cases b with
      | true => exact h
      | false => exact descPart_good hn (h.rev _ _) _ _
    · exact descPart_good hn h _ _
theorem place_good {n : Nat} (hn : 0 < n) {p : Array Nat} (h : IsP n p) (k : Nat) : ∀ f l r, Good n (fun _ => True) (kas_place p k f l r)
  | 0, l, r => trivial
  | f + 1, l, r => by
    rw [kas_place]
    split
    · exact trivial
    · refine ⟨h.getD hn _, h.getD hn _, fun b => ?_⟩
      cases b with
      | true => exact place_good hn h k f _ _
      | false => exact place_good hn h k f _ _
theorem bin_good {n : Nat} (hn : 0 < n) : ∀ (f : Nat) (p : Array Nat) (k : Nat), IsP n p → Good n (IsP n) (kas_bin f p k)
  | 0, p, k, h => h
  | f + 1, p, k, h => Good.bind (place_good hn h k _ _ _) fun l _ => bin_good hn f _ _ ((bubble_perm _ _ _).trans h)
theorem sort_good {n : Nat} (hn : 0 < n) : Good n (IsP n) (kas_sort n) := by
  refine Good.bind (count_good hn (Array.Perm.refl _) n) fun r hr => ?_
  split
  · exact bin_good hn _ _ _ hr
  · exact hr
theorem wp_run {α : Type} {n : Nat} {P : α → Prop} {cmp : Nat → Nat → (Bool → Shared → Prop) → Shared → Prop} {c : Nat → Nat → Bool} {I : Shared → Prop}
    (hask : ∀ i j C s, I s → i < n → j < n → (∀ s', I s' → C (c i j) s') → cmp i j C s) : ∀ {t : KasT α}, Good n P t → ∀ {Q : α → Shared → Prop} {s : Shared}, I s → (∀ s', I s' → Q (runT c t) s') → t.kasWp cmp Q s
  | .ret a, h, Q, s, hI, hQ => hQ s hI
  | .ask i j k, h, Q, s, hI, hQ => hask i j _ s hI h.1 h.2.1 fun s' hI' => wp_run hask (h.2.2 _) hI' hQ

def lexB (p q : P2) : Bool := if p.1 = q.1 then (if p.2 = q.2 then false else decide (p.2 < q.2)) else decide (p.1 < q.1)
def sortP (ps : List P2) : List P2 := if ps.length < 2 then ps else (runT (fun i j => lexB (ps.getD i (0, 0)) (ps.getD j (0, 0))) (kas_sort ps.length)).toList.map fun i => ps.getD i (0, 0)
theorem range_getD (ps : List P2) : (List.range ps.length).map (fun i => ps.getD i (0, 0)) = ps := by
  refine List.ext_getElem (by simp) fun i h1 h2 => ?_
  simp [h2]
theorem sortP_perm (ps : List P2) : (sortP ps).Perm ps := by
  unfold sortP
  split
  · exact List.Perm.refl _
  · have h := Good.run (fun i j => lexB (ps.getD i (0, 0)) (ps.getD j (0, 0))) (sort_good (n := ps.length) (by omega))
    have := (Array.perm_iff_toList_perm.mp h).map fun i => ps.getD i (0, 0)
    refine this.trans (List.Perm.of_eq ?_)
    exact range_getD ps

section
variable {prog : Program} {w : World} {A : Around} {E : Value → Shared → Prop} {s : Shared} {X : Addr → Prop}
theorem srt_ask {X : Addr → Prop} {v u : Value} {p q : P2} {C : Bool → Shared → Prop} (hv : V X s.heap v (prD p)) (hu : V X s.heap u (prD q)) (h : ∀ tk, C (lexB p q) { s with toks := tk }) : wpAny (model prog w) A (keyLt' (tuples' true) v u) C E s := by
  cases hv with
  | tup n1 e1 va1 =>
    cases hu with
    | tup n2 e2 va2 =>
      cases va1 with | cons x1 r1 => cases r1 with | cons y1 r1 => cases r1; cases x1; cases y1; cases va2 with | cons x2 r2 => cases r2 with | cons y2 r2 =>
        cases r2; cases x2; cases y2
        refine kat_lt e1 rfl e2 rfl ?_
        show KatLex prog w A true (decide (2 < 2)) C [(_, _), (_, _)] 0 s
        have h1 := h s.toks
        unfold lexB at h1
        refine kat_cons (wpAny_eqBool_int (kat_go (fun e => kat_yes ?_) fun e => kat_no ?_))
        · rw [if_pos (by simpa using e)] at h1
          refine kat_cons (wpAny_eqBool_int (kat_go (fun e' => kat_yes (kat_nil ?_)) fun e' => kat_no ?_))
          · rw [if_pos (by simpa using e')] at h1
            exact h1
          · rw [if_neg (by simpa using e')] at h1
            exact kat_one _ _ (PyProof.Rows.lt_int h1)
        · rw [if_neg (by simpa using e)] at h1
          exact oneLt_int h1

theorem V.tups {h : Heap} : ∀ {vs : List Value} {ps : List P2}, VA X h vs (encP ps) → ∃ fs : List Value, KatTups h vs fs ∧ fs.length = ps.length ∧ ∀ f ∈ fs, ∃ i t, f = .int i t
  | _, [], x => by cases x; exact ⟨[], KatTups.nil, rfl, fun _ h => by cases h⟩
  | _, p :: ps, x => by
    cases x with
    | cons a r =>
      obtain ⟨fs, t, e, hi⟩ := V.tups r
      cases a with
      | tup n1 e1 va =>
        cases va with | cons x1 r1 => cases x1 with | int i t1 => exact ⟨.int _ t1 :: fs, KatTups.cons e1 rfl rfl rfl t, by simp [e], fun f hf => by
          rcases List.mem_cons.mp hf with rfl | hf
          · exact ⟨_, _, rfl⟩
          · exact hi f hf⟩

theorem by_framesO {α : Type} {t : Sem α} {s : Shared} {h₀ : Heap} {R : α → Shared → Prop} {E : Value → Shared → Prop} (g : Ext h₀ s.heap) (gr : Gr h₀)
    (h : ∀ L m, Fr emptyHeap L s.heap m → News emptyHeap L s.heap (others s.heap L) → wpAny (model prog w) A t (fun v s' => R v s' ∧ News emptyHeap L s'.heap (others s.heap L)) E s) :
    wpAny (model prog w) A t (fun v s' => R v s' ∧ Ext s.heap s'.heap) E s := by
  obtain ⟨mg, mb, hg, hb⟩ := gr
  have h1 := h mainGlobals mg (others_fr (hg.keeps g)) (others_news _ _)
  have h2 := h builtinsNs mb (others_fr (hb.keeps g)) (others_news _ _)
  refine wpAny_mono (wpAny_and h1 h2) (fun v s' q => ⟨q.1.1, fun b o e => ?_⟩) fun _ _ q => q.1
  by_cases hb : b = mainGlobals
  · exact (q.2.2 (b, o) (others_mem.mpr ⟨by rw [hb]; decide, e⟩)).1
  · exact (q.1.2 (b, o) (others_mem.mpr ⟨hb, e⟩)).1
theorem others_seq {h h' : Heap} {L : Addr} {m : Str → Option Value} {r : List (Addr × Obj)} (F : Fr emptyHeap L h m) (N : News emptyHeap L h' r) (hr : ∀ p ∈ others h L, p ∈ r) : SeqExt X h h' := fun b o _ e hs => by
  have hb : b ≠ L := fun q => by
    obtain ⟨o', es, ep, ho, hd', _⟩ := F.ns
    obtain ⟨vs, n, hd⟩ := hs
    rw [← q, e] at ho; cases ho; rw [hd] at hd'; cases hd'
  exact (N (b, o) (hr _ (others_mem.mpr ⟨hb, e⟩))).1
theorem getD_V {h : Heap} {vs : List Value} {ps : List P2} (va : VA X h vs (encP ps)) {i : Nat} (hi : i < ps.length) : V X h (vs.getD i Value.none) (prD (ps.getD i (0, 0))) := by
  have e : ps[i]? = some (ps.getD i (0, 0)) := by rw [List.getD_eq_getElem?_getD, List.getElem?_eq_getElem hi]; rfl
  obtain ⟨v, h1, h2⟩ := va.get (k := i) (d := prD (ps.getD i (0, 0))) (by rw [List.getElem?_map, e]; rfl)
  rw [List.getD_eq_getElem?_getD, h1]; exact h2
theorem VA_map {h : Heap} {vs : List Value} {ps : List P2} (va : VA X h vs (encP ps)) : ∀ (l : List Nat), (∀ i ∈ l, i < ps.length) → VA X h (l.map fun i => vs.getD i Value.none) (encP (l.map fun i => ps.getD i (0, 0)))
  | [], _ => .nil
  | i :: l, hl => .cons (getD_V va (hl i (.head _))) (VA_map va l fun j hj => hl j (.tail _ hj))

theorem srt_long {h₀ : Heap} {ps : List P2} (gr : Gr h₀) (h2 : 2 ≤ ps.length) (h64 : ps.length < 64) {l : Addr} {vs : List Value} {n : Nat} {Q : Value → Shared → Prop} (g : Ext h₀ s.heap) (off : ∀ b, X b → ∃ o, s.heap.get? b = some o) (hl : s.heap.get? l = some (W.listOf vs.toArray n)) (va : VA X s.heap vs (encP ps))
    (hQ : ∀ v h' tk', Ext s.heap h' → V X h' v (.list (encP (sortP ps))) → Q v { s with heap := h', toks := tk' }) : wpAny (model prog w) A (call (.builtin "sorted") [.ref l]) Q E s := by
  have hlen : vs.length = ps.length := by rw [va.length, List.length_map]
  have hgood := Good.run (fun i j => lexB (ps.getD i (0, 0)) (ps.getD j (0, 0))) (sort_good (n := ps.length) (by omega))
  have hsort : sortP ps = (runT (fun i j => lexB (ps.getD i (0, 0)) (ps.getD j (0, 0))) (kas_sort ps.length)).toList.map fun i => ps.getD i (0, 0) := by unfold sortP; rw [if_neg (by omega)]
  refine mono_of (by_framesO (R := fun v s' => ∃ D c tk h', v = .ref D ∧ s' = { s with heap := h', toks := tk } ∧ s.heap.get? D = none ∧ h'.get? D = some (W.listOf (List.toArray ((runT (fun i j => lexB (ps.getD i (0, 0)) (ps.getD j (0, 0))) (kas_sort ps.length)).toList.map fun i => vs.getD i Value.none)) c)) g gr fun L m F N => ?_) ?_
  · refine kat_sorted F N (lstIs hl) (by omega) (by omega) fun D e1 h' F' N' hD => ?_
    obtain ⟨fs, ht, hfl, hfi⟩ := V.tups (va.mono (others_seq F N' fun p hp => .tail _ hp))
    have va' : VA X h' vs (encP ps) := va.mono (others_seq F N' fun p hp => .tail _ hp)
    refine kat_kind (s := { s with heap := h' }) (T := .type "int") ht (by omega) (fun v hv => ?_) rfl ?_
    · obtain ⟨i, t, rfl⟩ := hfi v hv
      exact Looks.of_pure rfl
    · rw [hlen]
      refine wp_run (n := ps.length) (P := IsP ps.length) (c := fun i j => lexB (ps.getD i (0, 0)) (ps.getD j (0, 0))) (I := fun s' => ∃ tk, s' = { s with heap := h', toks := tk }) ?_ (sort_good (by omega)) ⟨_, rfl⟩ ?_
      · rintro i j C s' ⟨tk, rfl⟩ hi hj hC
        exact srt_ask (s := { s with heap := h', toks := tk }) (getD_V va' hi) (getD_V va' hj) fun tk' => hC _ ⟨tk', rfl⟩
      · rintro s' ⟨tk, rfl⟩
        refine KasFin.intro F' N' (.head fun p hp => Nat.ne_of_lt (hD p hp)) fun h'' c F'' N'' => ⟨⟨D, c, tk, h'', rfl, rfl, ?_, (N'' _ (.head _)).1⟩, fun p hp => N'' p (.tail _ hp)⟩
        cases e : s.heap.get? D with
        | none => rfl
        | some o =>
          by_cases q : D = L
          · exact absurd q (N' _ (.head _)).2.1
          · exact absurd (hD (D, o) (others_mem.mpr ⟨q, e⟩)) (Nat.lt_irrefl _)
  · rintro v s' ⟨⟨D, c, tk, h', rfl, rfl, hD, ho⟩, k⟩
    refine hQ _ h' tk k (.lst (fun q => ?_) ho ?_)
    · obtain ⟨o, e⟩ := off D q; rw [hD] at e; cases e
    · rw [hsort]
      refine VA_map (va.mono (Ext.seq k)) _ fun i hi => ?_
      have := (Array.perm_iff_toList_perm.mp hgood).mem_iff.mp hi
      simpa using this

theorem srt_short_body {a : Addr} {vs : List Value} {n : Nat} {P : PySem.Fin → Shared → Prop} (ho : s.heap.get? a = some (seqObj "list" vs.toArray n)) (h1 : vs.length < 2)
    (h : ∀ h' e, (∀ b o, b ≠ a → s.heap.get? b = some o → h'.get? b = some o) → h'.get? a = some (seqObj "list" vs.toArray e) → P (.done (.ret .none)) { s with heap := h' }) :
    wpAny (model prog w) A (Builtin.«list.sort» ⟨[.ref a], []⟩) P E s := by
  rw [list_sort_plain]
  have ha : a < s.heap.objs.size := Heap.lt_size ho
  refine wpAny_bind (listItems_at ho rfl ?_)
  refine wpAny_bind (listUpdate_at ho rfl ?_)
  obtain ⟨e1, ho1⟩ : ∃ e1, (s.heap.update a (Obj.mapSeq fun _ => #[])).get? a = some (seqObj "list" #[] e1) := ⟨_, get?_update_seq ho (fun _ => #[])⟩
  refine wpAny_bind (seqEpoch_at ho1 rfl ?_)
  refine wpAny_bind (wpAny_newTuple ?_)
  refine wpAny_bind (wpAny_newList ?_)
  refine wpAny_holding ?_
  have hz1 : (s.heap.update a (Obj.mapSeq fun _ => (#[] : Array Value))).objs.size = s.heap.objs.size := Heap.size_update ..
  have oth : ∀ b o, b ≠ a → s.heap.get? b = some o → (((s.heap.update a (Obj.mapSeq fun _ => (#[] : Array Value))).push (seqObj "tuple" vs.toArray 0)).push (seqObj "list" #[] 0)).get? b = some o := fun b o hb e =>
    Heap.get?_push_of_some _ (Heap.get?_push_of_some _ ((Heap.get?_update_other _ _ (Ne.symm hb)).trans e))
  have ho6 : (((s.heap.update a (Obj.mapSeq fun _ => (#[] : Array Value))).push (seqObj "tuple" vs.toArray 0)).push (seqObj "list" #[] 0)).get? a = some (seqObj "list" #[] e1) := Heap.get?_push_of_some _ (Heap.get?_push_of_some _ ho1)
  show wpAny (model prog w) A _ P E { s with heap := ((s.heap.update a (Obj.mapSeq fun _ => #[])).push (seqObj "tuple" vs.toArray 0)).push (seqObj "list" #[] 0) }
  dsimp only
  have hsz : vs.toArray.size < 2 := by rw [List.size_toArray]; exact h1
  rw [if_pos hsz, if_pos hsz]
  refine wpAny_bind (wpAny_pure ?_)
  rw [StateT.run_pure]
  refine wpAny_bind (wpAny_pure ?_)
  dsimp only
  refine wpAny_bind (seqEpoch_at ho6 rfl ?_)
  have hm : Array.map (fun x => x.snd) (arrOf (SortSt.mk' general' (vs.toArray.zip vs.toArray) #[] 7 none)) = vs.toArray := by
    show (vs.toArray.zip vs.toArray).map (fun x => x.2) = vs.toArray
    refine Array.ext (by simp) fun i h1 h2 => by simp
  rw [hm]
  refine wpAny_bind (listUpdate_at ho6 rfl ?_ (Nat.zero_le _) (by rw [sizeLine_eq]; omega))
  simp only [bne_self_eq_false, Bool.false_eq_true, if_false]
  exact wpAny_pure (h _ _ (fun b o hb e => (Heap.get?_update_other _ _ (Ne.symm hb)).trans (oth b o hb e)) (get?_update_seq ho6 fun _ => vs.toArray))

theorem srt_short {l : Addr} {vs : List Value} {n : Nat} {Q : Value → Shared → Prop} (h1 : vs.length < 2) (hl : s.heap.get? l = some (W.listOf vs.toArray n))
    (hQ : ∀ D h' e, Ext s.heap h' → s.heap.get? D = none → h'.get? D = some (W.listOf vs.toArray e) → Q (.ref D) { s with heap := h' }) : wpAny (model prog w) A (call (.builtin "sorted") [.ref l]) Q E s := by
  refine Calls.call_function_entry kind_sorted plain_sorted entry_sorted (args_sorted1 _) ?_
  unfold Builtin.«sorted»
  refine wpAny_bind (m := checkCount "sorted" 1 1 _) (wpAny_pure ?_)
  refine wpAny_bind (collect_list (lstIs hl) ?_ (by rw [sizeLine_eq]; omega))
  refine wpAny_bind (wpAny_newList ?_ (by rw [sizeLine_eq]; omega))
  have hz : ((s.heap.push (seqObj "list" #[] 0)).update s.heap.objs.size (Obj.mapSeq (· ++ vs.toArray))).objs.size = s.heap.objs.size + 1 := by
    rw [Heap.size_update, Heap.size_push]
  have k : Ext s.heap (((s.heap.push (seqObj "list" #[] 0)).update s.heap.objs.size (Obj.mapSeq (· ++ vs.toArray))).push (seqObj "list" vs.toArray 0)) := fun b o e => by
    have hb := Nat.ne_of_lt (Heap.lt_size e)
    exact Heap.get?_push_of_some _ ((Heap.get?_update_other _ _ (Ne.symm hb)).trans (Heap.get?_push_of_some _ e))
  have hoL : (((s.heap.push (seqObj "list" #[] 0)).update s.heap.objs.size (Obj.mapSeq (· ++ vs.toArray))).push (seqObj "list" vs.toArray 0)).get? (s.heap.objs.size + 1) = some (seqObj "list" vs.toArray 0) := by
    rw [← hz]; exact Heap.get?_push_size _ rfl
  show wpAny _ _ _ _ _ { s with heap := ((s.heap.push (seqObj "list" #[] 0)).update s.heap.objs.size (Obj.mapSeq (· ++ vs.toArray))).push (seqObj "list" vs.toArray 0) }
  rw [hz]
  refine wpAny_bind (wpAny_holding (wpAny_call_entry slot_list_sort ⟨_, hoL, rfl⟩ entry_list_sort (srt_short_body hoL h1 fun h' e k' ho => ⟨_, rfl, wpAny_pure ⟨_, rfl, ?_⟩⟩) (args_list_sort _)))
  exact hQ _ h' e (fun b o q => k' b o (Nat.ne_of_lt (Nat.lt_succ_of_lt (Heap.lt_size q))) (k b o q)) (none_ge (Nat.le_succ _)) ho
end

section
variable {prog : Program} {w : World} {h₀ : Heap}
theorem cb_sortedP {ps : List P2} (gr : Gr h₀) (h64 : ps.length < 64) : CallB prog w h₀ (.builtin "sorted") [.list (encP ps)] (.list (encP (sortP ps))) := by
  intro X A s Q E vs r g off hv hQ
  cases hv with
  | cons a t =>
    cases t
    cases a with
    | lst na e va =>
      by_cases h2 : 2 ≤ ps.length
      · exact srt_long gr h2 h64 g off e va hQ
      · have hlen := va.length
        rw [List.length_map] at hlen
        refine srt_short (by omega) e fun D h' c k hD ho => hQ _ h' s.toks k (.lst (fun q => ?_) ho ?_)
        · obtain ⟨o, e'⟩ := off D q; rw [hD] at e'; cases e'
        · have : sortP ps = ps := by unfold sortP; rw [if_pos (by omega)]
          rw [this]; exact va.mono (Ext.seq k)
theorem cb_sorted2 {a b lo hi : Int} (gr : Gr h₀) (hs : (a ≤ b ∧ lo = a ∧ hi = b) ∨ (b ≤ a ∧ lo = b ∧ hi = a)) : CallB prog w h₀ (.builtin "sorted") [.list [.int a, .int b]] (.list [.int lo, .int hi]) := by
  intro X A s Q E vs r g off hv hQ
  cases hv with
  | cons x t =>
    cases t
    cases x with
    | lst na e va =>
      have hi' : IntsAre _ [a, b] := VA.ints va
      refine mono_of (by_framesO (R := fun v s' => ∃ D vs' c h', v = .ref D ∧ s' = { s with heap := h' } ∧ s.heap.get? D = none ∧ h'.get? D = some (W.listOf (List.toArray vs') c) ∧ IntsAre vs' [lo, hi]) g gr fun L m F N => ?_) ?_
      · refine sorted_N F N (lstIs e) hi' (by have := hi'.length; simp at this; omega) fun h' vs' ns' c F' N' hI hp hpw => ⟨⟨_, vs', c, h', rfl, rfl, none_ge (Nat.le_succ _), (N' _ (.head _)).1, ?_⟩, fun p hp => N' p (.tail _ hp)⟩
        have : ns' = [lo, hi] := by
          have hl := hp.length_eq
          match ns', hl with
          | [x, y], _ =>
            simp only [List.pairwise_cons, List.mem_singleton, forall_eq] at hpw
            have hxy := hpw.1
            have m1 : x ∈ [a, b] := hp.mem_iff.mp (by simp)
            have m2 : y ∈ [a, b] := hp.mem_iff.mp (by simp)
            have m3 : a ∈ [x, y] := hp.mem_iff.mpr (by simp)
            have m4 : b ∈ [x, y] := hp.mem_iff.mpr (by simp)
            simp only [List.mem_cons, List.not_mem_nil, or_false] at m1 m2 m3 m4
            have : x = lo ∧ y = hi := by omega
            rw [this.1, this.2]
        rw [← this]; exact hI
      · rintro v s' ⟨⟨D, vs', c, h', rfl, rfl, hD, ho, hI⟩, k⟩
        refine hQ _ h' s.toks k (.lst (fun q => ?_) ho (VA.of_ints hI))
        obtain ⟨o, e'⟩ := off D q; rw [hD] at e'; cases e'
end
/-- where x goes -/
def posI (ns : List Int) (x : Int) : Nat := (ns.filter fun a => decide (a < x)).length
theorem posI_of {ns : List Int} {x : Int} {k : Nat} (hk : k ≤ ns.length) (h1 : ∀ i, i < k → ∀ a, ns[i]? = some a → a < x) (h2 : ∀ i, k ≤ i → ∀ a, ns[i]? = some a → x ≤ a) : posI ns x = k := by
  unfold posI
  rw [← List.take_append_drop k ns, List.filter_append]
  have e1 : (ns.take k).filter (fun a => decide (a < x)) = ns.take k := List.filter_eq_self.mpr fun a ha => by
    obtain ⟨i, hi, e⟩ := List.mem_iff_getElem.mp ha
    have hi' : i < k := by rw [List.length_take] at hi; omega
    refine decide_eq_true (h1 i hi' a ?_)
    rw [List.getElem_take] at e
    rw [← e]; exact List.getElem?_eq_getElem _
  have e2 : (ns.drop k).filter (fun a => decide (a < x)) = [] := List.filter_eq_nil_iff.mpr fun a ha => by
    obtain ⟨i, hi, e⟩ := List.mem_iff_getElem.mp ha
    rw [List.getElem_drop] at e
    have := h2 (k + i) (by omega) a (by rw [← e]; exact List.getElem?_eq_getElem _)
    simp only [decide_eq_true_eq]; omega
  rw [e1, e2, List.append_nil, List.length_take]; omega

def bstep (ns : List Int) (x : Int) (s : Nat × Nat) : Nat × Nat := if ns.getD ((s.1 + s.2) / 2) 0 < x then ((s.1 + s.2) / 2 + 1, s.2) else (s.1, (s.1 + s.2) / 2)
def bst (ns : List Int) (x : Int) : Nat → Nat × Nat
  | 0 => (0, ns.length)
  | i + 1 => bstep ns x (bst ns x i)
structure BInv (ns : List Int) (x : Int) (s : Nat × Nat) : Prop where
  le : s.1 ≤ s.2
  len : s.2 ≤ ns.length
  low : ∀ i, i < s.1 → ∀ a, ns[i]? = some a → a < x
  high : ∀ i, s.2 ≤ i → ∀ a, ns[i]? = some a → x ≤ a
theorem BInv.step {ns : List Int} {x : Int} {s : Nat × Nat} (hs : ns.Pairwise (· < ·)) (h : BInv ns x s) (hlt : s.1 < s.2) : BInv ns x (bstep ns x s) ∧ (bstep ns x s).2 - (bstep ns x s).1 < s.2 - s.1 := by
  obtain ⟨a, b⟩ := s
  obtain ⟨h1, h2, h3, h4⟩ := h
  dsimp only at *
  have hm : (a + b) / 2 < ns.length := by omega
  have eg : ns[(a + b) / 2]? = some (ns.getD ((a + b) / 2) 0) := by rw [List.getD_eq_getElem?_getD, List.getElem?_eq_getElem hm]; rfl
  have hp : ∀ i j u v, i ≤ j → ns[i]? = some u → ns[j]? = some v → u ≤ v := fun i j u v hij hu hv => by
    rcases Nat.lt_or_eq_of_le hij with hij | rfl
    · obtain ⟨hi, e1⟩ := List.getElem?_eq_some_iff.mp hu
      obtain ⟨hj, e2⟩ := List.getElem?_eq_some_iff.mp hv
      have := List.pairwise_iff_getElem.mp hs i j hi hj hij
      rw [e1, e2] at this; omega
    · rw [hu] at hv; cases hv; exact Int.le_refl _
  unfold bstep
  dsimp only
  split
  · rename_i hc
    refine ⟨⟨by dsimp only; omega, h2, fun i hi u hu => ?_, h4⟩, by dsimp only; omega⟩
    dsimp only at hi
    have := hp i _ u _ (by omega) hu eg
    omega
  · rename_i hc
    refine ⟨⟨by dsimp only; omega, by dsimp only; omega, h3, fun i hi u hu => ?_⟩, by dsimp only; omega⟩
    dsimp only at hi
    have := hp _ i _ u hi eg hu
    omega
theorem bst_ends {ns : List Int} {x : Int} (hs : ns.Pairwise (· < ·)) : ∃ N, (∀ i, i < N → (bst ns x i).1 < (bst ns x i).2) ∧ ¬ (bst ns x N).1 < (bst ns x N).2 ∧ (∀ i, i ≤ N → BInv ns x (bst ns x i)) := by
  have base : BInv ns x (bst ns x 0) := ⟨Nat.zero_le _, Nat.le_refl _, fun i h => absurd h (Nat.not_lt_zero _), fun i h a e => by
    have : ns.length ≤ i := h
    rw [List.getElem?_eq_none this] at e; cases e⟩
  have key : ∀ m i, (bst ns x i).2 - (bst ns x i).1 ≤ m → (∀ j, j < i → (bst ns x j).1 < (bst ns x j).2) → (∀ j, j ≤ i → BInv ns x (bst ns x j)) → ∃ N, (∀ i, i < N → (bst ns x i).1 < (bst ns x i).2) ∧ ¬ (bst ns x N).1 < (bst ns x N).2 ∧ (∀ i, i ≤ N → BInv ns x (bst ns x i)) := by
    intro m
    induction m with
    | zero => intro i hm h1 h2; exact ⟨i, h1, by omega, h2⟩
    | succ m ih =>
      intro i hm h1 h2
      by_cases hlt : (bst ns x i).1 < (bst ns x i).2
      · obtain ⟨h3, h4⟩ := (h2 i (Nat.le_refl _)).step hs hlt
        refine ih (i + 1) (by show (bstep ns x (bst ns x i)).2 - _ ≤ m; have : (bst ns x (i + 1)) = bstep ns x (bst ns x i) := rfl; rw [this]; omega) (fun j hj => ?_) (fun j hj => ?_)
        · rcases Nat.lt_or_eq_of_le (Nat.le_of_lt_succ hj) with hj | rfl
          · exact h1 j hj
          · exact hlt
        · rcases Nat.lt_or_eq_of_le hj with hj | rfl
          · exact h2 j (Nat.le_of_lt_succ hj)
          · exact h3
      · exact ⟨i, h1, hlt, h2⟩
  exact key _ 0 (Nat.le_refl _) (fun j h => absurd h (Nat.not_lt_zero _)) (fun j h => by rw [Nat.le_zero.mp h]; exact base)

/-- what is known less -/
abbrev Sub (ρ₂ ρ' : List (Str × Ent)) : Prop := ∀ y e, ρ₂.lookup y = some e → ρ'.lookup y = some e
theorem sub_nil {ρ' : List (Str × Ent)} : Sub [] ρ' := fun y e h => by simp at h
theorem sub_cons {x : Str} {e : Ent} {ρ₂ ρ' : List (Str × Ent)} (h : ρ'.lookup x = some e) (t : Sub ρ₂ ρ') : Sub ((x, e) :: ρ₂) ρ' := fun y d hy => by
  rw [List.lookup_cons] at hy
  by_cases q : y = x
  · subst q; rw [beq_self_eq_true] at hy; cases hy; exact h
  · rw [beq_eq_false_iff_ne.mpr q] at hy; exact t y d hy

theorem fdiv_half (a b : Nat) : ((a : Int) + (b : Int)).fdiv 2 = (((a + b) / 2 : Nat) : Int) := by
  rw [Int.fdiv_eq_ediv_of_nonneg _ (by decide)]
  omega

section
variable {prog : Program} {w : World} {C : Addr} {h₀ : Heap}
/-- a def of the top with defaults stands -/
structure StandsD (h₀ : Heap) (i : Nat) (f : Str) (names : List Str) (dd : List Dat) (a : Addr) (ks : List Nat) : Prop where
  name : NameIs h₀ f (.ref a)
  here : ∃ o fd, h₀.get? a = some o ∧ o.data = .func fd ∧ h₀.CodeRec fd.code fd.qualname ∧ fd.body = .stmts (fnBody i) ∧ fd.closure = [] ∧ fd.scope = scOf i ∧ fd.globals = mainGlobals ∧ fd.builtins = builtinsNs ∧
    ∀ k ∈ ks, ∃ dv : List Value, k + dv.length = names.length ∧ (∀ X h, VA X h dv (dd.drop (k + dd.length - names.length))) ∧ ∀ (s : Shared) (vals : List Value), Ext h₀ s.heap → vals.length = k → BindsTo s fd ⟨vals, []⟩ (names.zip (vals ++ dv))
  nolimit : h₀.NoLimit

theorem IsAll.append {X : Addr → Prop} {env : Env} {h : Heap} {es es' : List Ent} : ∀ {vs vs' : List Value}, IsAll C X env h vs es → IsAll C X env h vs' es' → IsAll C X env h (vs ++ vs') (es ++ es') := by
  intro vs vs' x y
  induction vs generalizing es with
  | nil => cases x; exact y
  | cons v vs ih => cases x with | cons a r => exact .cons a (ih r)
theorem StandsD.ok {i : Nat} {f : Str} {names : List Str} {dd : List Dat} {a : Addr} {ks : List Nat} (S : StandsD h₀ i f names dd a ks) {es : List Ent} {d : Dat} {n : Nat} (hk : es.length ∈ ks) (hlen : names.length = (es ++ (dd.drop (es.length + dd.length - names.length)).map Ent.dat).length) (hnd : names.Nodup)
    (hnames : (names.all fun x => (scOf i).names.lookup x == some .local || ((scOf i).names.lookup x == some .cell && ((cellsFrom 0 (scOf i).names []).lookup x).isSome)) = true)
    (hndc : ((cellsFrom 0 (scOf i).names []).map (·.1)).Nodup) (hco : (scOf i).isCoroutine = false) (hgen : (scOf i).isGenerator = false) (hkf : (scOf i).kind = .function)
    (hb : ∀ X A L q cd, Room A n → ExB prog w C X h₀ A (envOfC q (scOf i) L a cd) (names.zip (es ++ (dd.drop (es.length + dd.length - names.length)).map Ent.dat)) (fnBody i) (.ret d)) : CallOk prog w C h₀ (n + 1) a es d := by
  intro X A env s Q E vs r g off hi hQ
  obtain ⟨o, fd, ho, hd, hcd, hbd, hcl, hsc, hgl, hbi, hbind⟩ := S.here
  obtain ⟨dv, hdl, hdv, hbd'⟩ := hbind _ hk
  refine call_fn (env := env) (es := es ++ (dd.drop (es.length + dd.length - names.length)).map Ent.dat) (by have := r.depth; omega) ho hd S.nolimit hcd hbd hcl (hbd' s vs g hi.length) (hi.append (VA_forall (hdv X s.heap))) hlen hnd (by rw [hsc]; exact hnames) (by rw [hsc]; exact hndc) (fun L => ?_) g off hQ (by rw [hsc]; exact hco) (by rw [hsc]; exact hgen) (by rw [hsc]; exact hkf)
  have e : callEnvC fd L a = envOfC fd.qualname (scOf i) L a fd.code := by
    unfold callEnvC newEnv envOfC
    rw [hsc, hgl, hbi]
  rw [e]
  exact hb X _ L _ _ (r.deeper _)
theorem StandsD.at {i : Nat} {f : Str} {names : List Str} {dd : List Dat} {a : Addr} {ks : List Nat} (S : StandsD h₀ i f names dd a ks) : ∃ o fd, h₀.get? a = some o ∧ o.data = .func fd := let ⟨o, fd, ho, hd, _⟩ := S.here; ⟨o, fd, ho, hd⟩

theorem exs_pre {X : Addr → Prop} {A : Around} {env : Env} {ρ ρ₂ : List (Str × Ent)} {st : Stmt} {o : Outc} (h : ExS prog w C X h₀ A env ρ₂ st o) (hs : Sub ρ₂ ρ) : ExS prog w C X h₀ A env ρ st o := fun s Q E g ok hQ => h s Q E g (ok.sub hs) hQ
abbrev bisNames : List Str := [Str.ofString "a", Str.ofString "x", Str.ofString "lo", Str.ofString "hi", Str.ofString "key"]
abbrev bisDd : List Dat := [.int 0, .none, .none]
def intsD (ns : List Int) : Dat := .list (ns.map .int)
abbrev bisEnts (ns : List Int) (x : Int) : List Ent := [.dat (intsD ns), .dat (.int x), .dat (.int 0), .dat .none, .dat .none]
abbrev bisρ (ns : List Int) (x : Int) (p : Nat × Nat) : List (Str × Ent) := [(Str.ofString "lo", .dat (.int p.1)), (Str.ofString "hi", .dat (.int p.2)), (Str.ofString "a", .dat (intsD ns)), (Str.ofString "x", .dat (.int x))]
theorem bis_body {X : Addr → Prop} {A : Around} {L aB : Addr} {q : Str} {cd : Value} {n : Nat} (nl : NameIs h₀ (Str.ofString "len") (.builtin "len")) (r : Room A n) {ns : List Int} {x : Int} (hs : ns.Pairwise (· < ·)) (hz : ns.length ≤ 64) :
    ExB prog w C X h₀ A (envOfC q (scOf 2) L aB cd) (bisNames.zip (bisEnts ns x)) (fnBody 2) (.ret (.int (posI ns x))) := by
  obtain ⟨N, h1, h2, h3⟩ := bst_ends (x := x) hs
  have fin := h3 N (Nat.le_refl _)
  have e : posI ns x = (bst ns x N).1 := posI_of (by have := fin.le; have := fin.len; omega) fin.low (fun i hi => fin.high i (by have := fin.le; omega))
  rw [e]
  refine exb_next (exs_if (b := false) (tr_cmp (by kd_in) (by kd_in) (o_lt (a := 0) (b := 0)) rfl) (fun h => by cases h) (fun _ => exb_nil)) ?_
  refine exb_next (ρ' := (Str.ofString "hi", .dat (.int (ns.map Dat.int).length)) :: bisNames.zip (bisEnts ns x)) (exs_if (b := true) (tr_cmp (by kd_in) (by kd_in) (o_is (d := .none)) rfl) (fun _ => exb_next (exs_assign (e := .dat (.int (ns.map Dat.int).length)) ?_ (as_local rfl rfl) rfl rfl rfl) exb_nil) (fun h => by cases h)) ?_
  · exact ev_callB (ds := [intsD ns]) nl rfl rfl rfl rfl rfl (evD_cons (by kd_in) evD_nil rfl) (cb_len (by rw [List.length_map]; omega)) (r.le (Nat.zero_le _)) rfl rfl rfl
  refine exb_next (ρ' := bisρ ns x (bst ns x N)) (exs_if (b := true) (tr_cmp (by kd_in) (by kd_in) (o_is (d := .none)) rfl) (fun _ => ?_) (fun h => by cases h)) (exb_ret (exs_return (by kd_in)))
  refine exb_next (ρ' := bisρ ns x (bst ns x N)) ?_ exb_nil
  refine exs_pre (ρ₂ := bisρ ns x (bst ns x 0)) (exs_while (n := N) (ρs := fun i => bisρ ns x (bst ns x i)) (fun i hi => ⟨?_, ?_⟩) ?_ rfl) (sub_cons rfl (sub_cons (by show some (Ent.dat (Dat.int _)) = some (Ent.dat (Dat.int _)); rw [List.length_map]; rfl) (sub_cons rfl (sub_cons rfl sub_nil))))
  · exact tr_cmp (by kd_in) (by kd_in) (by have := o_lt (prog := prog) (w := w) (X := X) (h₀ := h₀) (A := A) (a := (bst ns x i).1) (b := (bst ns x i).2); rw [decide_eq_true (by have := h1 i hi; omega)] at this; exact this) rfl
  · have inv := h3 i (Nat.le_of_lt hi)
    have hlt := h1 i hi
    have hm : ((bst ns x i).1 + (bst ns x i).2) / 2 < ns.length := by have := inv.len; omega
    have eg : ns[((bst ns x i).1 + (bst ns x i).2) / 2]? = some (ns.getD (((bst ns x i).1 + (bst ns x i).2) / 2) 0) := by rw [List.getD_eq_getElem?_getD, List.getElem?_eq_getElem hm]; rfl
    have hdiv := o_div (prog := prog) (w := w) (h₀ := h₀) (X := X) (A := A) (a := ((bst ns x i).1 : Int) + ((bst ns x i).2 : Int)) (b := 2) (by decide) (by
      unfold Builtin.divisionGoesByPylong
      have h2 : Nat.log2 2 = 1 := by decide
      simp [h2])
    rw [fdiv_half] at hdiv
    refine exb_next (exs_assign (e := .dat (.int ((((bst ns x i).1 + (bst ns x i).2) / 2 : Nat) : Int))) (ev_bin (ev_bin (by kd_in) (by kd_in) o_add) (by kd_in) hdiv) (as_local rfl rfl) rfl rfl rfl) ?_
    have item : ∀ {X A} {p1 p2 p3}, Ev prog w C X h₀ A (envOfC q (scOf 2) L aB cd) ((Str.ofString "mid", .dat (.int ((((bst ns x i).1 + (bst ns x i).2) / 2 : Nat) : Int))) :: bisρ ns x (bst ns x i)) (.Subscript (.Name (Str.ofString "a") p1) (.Name (Str.ofString "mid") p2) p3) (.dat (.int (ns.getD (((bst ns x i).1 + (bst ns x i).2) / 2) 0))) := fun {X A p1 p2 p3} =>
      ev_item_list (ds := ns.map .int) (k := ((bst ns x i).1 + (bst ns x i).2) / 2) (by kd_in) (by kd_in) (by rw [List.getElem?_map, eg]; rfl) (by omega) (fun _ _ => rfl)
    by_cases hc : ns.getD (((bst ns x i).1 + (bst ns x i).2) / 2) 0 < x
    · have est : bst ns x (i + 1) = (((bst ns x i).1 + (bst ns x i).2) / 2 + 1, (bst ns x i).2) := if_pos hc
      refine exb_next (ρ' := (Str.ofString "lo", .dat (.int ((((bst ns x i).1 + (bst ns x i).2) / 2 : Nat) + 1 : Int))) :: (Str.ofString "mid", .dat (.int ((((bst ns x i).1 + (bst ns x i).2) / 2 : Nat) : Int))) :: bisρ ns x (bst ns x i)) (exs_if (b := true) (tr_cmp item (by kd_in) (by have := o_lt (prog := prog) (w := w) (X := X) (h₀ := h₀) (A := A) (a := ns.getD (((bst ns x i).1 + (bst ns x i).2) / 2) 0) (b := x); rw [decide_eq_true hc] at this; exact this) rfl) (fun _ => exb_next (exs_assign (ev_bin (by kd_in) (by kd_in) o_add) (as_local rfl rfl) rfl rfl rfl) exb_nil) (fun h => by cases h)) (exb_sub exb_nil ?_)
      rw [est]
      exact sub_cons rfl (sub_cons rfl (sub_cons rfl (sub_cons rfl sub_nil)))
    · have est : bst ns x (i + 1) = ((bst ns x i).1, ((bst ns x i).1 + (bst ns x i).2) / 2) := if_neg hc
      refine exb_next (ρ' := (Str.ofString "hi", .dat (.int ((((bst ns x i).1 + (bst ns x i).2) / 2 : Nat) : Int))) :: (Str.ofString "mid", .dat (.int ((((bst ns x i).1 + (bst ns x i).2) / 2 : Nat) : Int))) :: bisρ ns x (bst ns x i)) (exs_if (b := false) (tr_cmp item (by kd_in) (by have := o_lt (prog := prog) (w := w) (X := X) (h₀ := h₀) (A := A) (a := ns.getD (((bst ns x i).1 + (bst ns x i).2) / 2) 0) (b := x); rw [decide_eq_false hc] at this; exact this) rfl) (fun h => by cases h) (fun _ => exb_next (exs_assign (by kd_in) (as_local rfl rfl) rfl rfl rfl) exb_nil)) (exb_sub exb_nil ?_)
      rw [est]
      exact sub_cons rfl (sub_cons rfl (sub_cons rfl (sub_cons rfl sub_nil)))
  · exact tr_cmp (by kd_in) (by kd_in) (by have := o_lt (prog := prog) (w := w) (X := X) (h₀ := h₀) (A := A) (a := (bst ns x N).1) (b := (bst ns x N).2); rw [decide_eq_false (by omega)] at this; exact this) rfl

theorem bis2_ok {aB : Addr} (nl : NameIs h₀ (Str.ofString "len") (.builtin "len")) (S : StandsD h₀ 2 (Str.ofString "bisect_left") bisNames bisDd aB [2, 4]) {ns : List Int} {x : Int} (hs : ns.Pairwise (· < ·)) (hz : ns.length ≤ 64) (n : Nat) : CallOk prog w C h₀ (n + 1) aB [.dat (intsD ns), .dat (.int x)] (.int (posI ns x)) :=
  S.ok (by simp) rfl (by decide) (by decide) (by decide) rfl rfl rfl fun X A L q cd r => bis_body nl r hs hz
theorem bis4_ok {aB : Addr} (nl : NameIs h₀ (Str.ofString "len") (.builtin "len")) (S : StandsD h₀ 2 (Str.ofString "bisect_left") bisNames bisDd aB [2, 4]) {ns : List Int} {x : Int} (hs : ns.Pairwise (· < ·)) (hz : ns.length ≤ 64) (n : Nat) : CallOk prog w C h₀ (n + 1) aB [.dat (intsD ns), .dat (.int x), .dat (.int 0), .dat .none] (.int (posI ns x)) :=
  S.ok (by simp) rfl (by decide) (by decide) (by decide) rfl rfl rfl fun X A L q cd r => bis_body nl r hs hz
end
abbrev No : Addr → Prop := fun _ => False
section
variable {prog : Program} {w : World} {C : Addr} {X : Addr → Prop} {h₀ : Heap} {A : Around} {env : Env} {ρ : List (Str × Ent)}
theorem call_gen {P : Shared → Prop} {a : Addr} {o : Obj} {fd : FuncData} {body : List Stmt} {names : List Str} {xs vals : List Value} {es : List Ent} {s : Shared} {Q : Value → Shared → Prop} {E : Value → Shared → Prop}
    (hA : A.depth < recursionLimit) (ho : h₀.get? a = some o) (hdata : o.data = .func fd) (hlim : h₀.NoLimit) (hcd : h₀.CodeRec fd.code fd.qualname) (hbody : fd.body = .stmts body) (hclo : fd.closure = [])
    (hbind : BindsTo s fd ⟨vals, []⟩ (names.zip xs)) (hx : IsAll C X env s.heap xs es) (hlen : names.length = es.length) (hnd : names.Nodup)
    (hnames : (names.all fun x => fd.scope.names.lookup x == some .local) = true) (hnoc : cellsFrom (s.heap.objs.size + 1) fd.scope.names [] = [])
    (hb : ∀ (h₁ : Heap) (tk₁ : Nat) (Q' : Flow → Shared → Prop) (E' : Value → Shared → Prop), Ext s.heap h₁ → OK C X h₀ (callEnvC fd s.heap.objs.size a) (names.zip es) h₁ → (∀ s'', P s'' → Q' .next s'') → wpAny (model prog w) (A.deeper (callEnvC fd s.heap.objs.size a)) (execs body (callEnvC fd s.heap.objs.size a)) Q' E' { s with heap := h₁, toks := tk₁ })
    (g : Ext h₀ s.heap) (off : ∀ b, X b → ∃ o, s.heap.get? b = some o)
    (hQ : ∀ s'', P s'' → Q .none s'')
    (hco : fd.scope.isCoroutine = false := by rfl) (hgen : fd.scope.isGenerator = false := by rfl) (hk : fd.scope.kind = .function := by rfl) : wpAny (model prog w) A (call (.ref a) vals) Q E s := by
  have hk' : ∀ x ∈ names, fd.scope.names.lookup x = some .local := fun x hx' => by simpa using List.all_eq_true.mp hnames x hx'
  have hz : (names.zip xs).map (·.1) = names := zip_names (by rw [hlen, hx.length])
  refine wpAny_call (codeAny_call_function hA (g a o ho) hdata hco hgen hbody (hcd.keeps g) (hbind _ _ _ _ ?_))
  rw [hclo]
  refine wpAny_newFunctionEnv_cells hk (fun y hy => .inl (hk' y.1 (hz ▸ List.mem_map_of_mem hy))) fun env' he s' x => ?_
  subst he
  refine ⟨(hlim.keeps g).keeps x.toInCall.keep, codeAny_func ?_⟩
  have hc0 : (callEnvC fd s.heap.objs.size a).cells = [] := hnoc
  have ok : OK C X h₀ (callEnvC fd s.heap.objs.size a) (names.zip es) s'.heap := by
    refine OK.start (env := env) g off rfl x hx hlen hnd (fun y hy q => ?_) (fun p hp => by rw [hc0] at hp; cases hp) fun y hy q => ?_
    · have : (callEnvC fd s.heap.objs.size a).kindOf y = some .local := hk' y hy
      rw [q] at this; cases this
    · have : (callEnvC fd s.heap.objs.size a).kindOf y = some .local := hk' y hy
      rw [q] at this; cases this
  obtain ⟨h₁, tk₁, rfl, hk₁⟩ := x.done
  exact hb h₁ tk₁ _ _ hk₁ ok fun s'' hP => hQ s'' hP
end

/-- sorted in -/
def insI (ns : List Int) (x : Int) : List Int := ns.take (posI ns x) ++ x :: ns.drop (posI ns x)
theorem intsAre_of {vs : List Value} {ns : List Int} {h : Heap} : IntsAre vs ns → VA No h vs (ns.map .int) := VA.of_ints
theorem IntsAre.take' {vs : List Value} {ns : List Int} (h : IntsAre vs ns) (k : Nat) : IntsAre (vs.take k) (ns.take k) := by
  have := (VA.of_ints (X := No) (h := {}) h).take k
  rw [← List.map_take] at this
  exact VA.ints this
theorem IntsAre.drop' {vs : List Value} {ns : List Int} (h : IntsAre vs ns) (k : Nat) : IntsAre (vs.drop k) (ns.drop k) := by
  have := (VA.of_ints (X := No) (h := {}) h).drop k
  rw [← List.map_drop] at this
  exact VA.ints this
theorem IntsAre.append' {vs ws : List Value} {ns ms : List Int} (h : IntsAre vs ns) (k : IntsAre ws ms) : IntsAre (vs ++ ws) (ns ++ ms) := by
  have := (VA.of_ints (X := No) (h := {}) h).append (VA.of_ints k)
  rw [← List.map_append] at this
  exact VA.ints this

section
variable {prog : Program} {w : World} {C : Addr} {h₀ : Heap} {A : Around}
theorem ins_list {Lo : Addr} {vs : List Value} {n : Nat} {k : Nat} {x : Int} {t : Tok} {y : Value} {s : Shared} {Q E : Value → Shared → Prop} (hx : x = k) (hk : k ≤ vs.length) (hz : vs.length ≤ 64) (ho : s.heap.get? Lo = some (W.listOf vs.toArray n))
    (h : ∀ h' n', (∀ b o, b ≠ Lo → s.heap.get? b = some o → h'.get? b = some o) → h'.get? Lo = some (W.listOf (vs.take k ++ y :: vs.drop k).toArray n') → Q .none { s with heap := h' }) :
    wpAny (model prog w) A (call (.builtin "list.insert") [.ref Lo, .int x t, y]) Q E s := by
  have hf : Builtin.List.listFitsIndex x = true := by
    unfold Builtin.List.listFitsIndex
    rw [Bool.and_eq_true]
    exact ⟨decide_eq_true (by omega), decide_eq_true (by omega)⟩
  have hj : (if x < 0 then (x + ((vs.toArray.size : Nat) : Int)).toNat else min x.toNat vs.toArray.size) = k := by
    rw [if_neg (by omega), List.size_toArray]; omega
  have hz' : vs.toArray.size ≤ sizeLine := by rw [List.size_toArray, sizeLine_eq]; omega
  have hf' : ¬(!Builtin.List.listFitsIndex x) = true := fun q => by rw [hf] at q; cases q
  refine call_meets PySem.F.slot_list_insert ⟨_, ho, rfl⟩ PySem.F.entry_list_insert (PySem.F.args_list_insert_3 _ _ _) (PySem.AutoSeq1.list_insert_list_int_val_1 Lo vs.toArray n x t y hf' hz') ⟨ho, ?_⟩
  have q := PySem.IsL.update ho (fun xs : Array Value => have j := if x < 0 then (x + ((xs.size : Nat) : Int)).toNat else min x.toNat xs.size; (xs.extract 0 j).push y ++ xs.extract j)
  have e : (fun xs : Array Value => have j := if x < 0 then (x + ((xs.size : Nat) : Int)).toNat else min x.toNat xs.size; (xs.extract 0 j).push y ++ xs.extract j) vs.toArray = (vs.take k ++ y :: vs.drop k).toArray := by
    dsimp only
    rw [hj]; exact kl_ins_eq vs k y
  exact h _ _ (fun b o hb e => (Heap.get?_update_other _ _ (Ne.symm hb)).trans e) (Eq.trans q (congrArg (fun z => some (W.listOf z _)) e))

abbrev insEnts (Lo : Addr) (ns : List Int) (x : Int) : List Ent := [.at Lo (intsD ns), .dat (.int x), .dat (.int 0), .dat .none, .dat .none]
/-- what a turned list leaves -/
structure Ins (s : Shared) (Lo : Addr) (ms : List Int) (s' : Shared) : Prop where
  is : ∃ h' tk' vs' n', s' = { s with heap := h', toks := tk' } ∧ (∀ b o, b ≠ Lo → s.heap.get? b = some o → h'.get? b = some o) ∧ h'.get? Lo = some (W.listOf vs'.toArray n') ∧ IntsAre vs' ms
theorem ins_ok {aI aB Lo : Addr} (nl : NameIs h₀ (Str.ofString "len") (.builtin "len")) (SB : StandsD h₀ 2 (Str.ofString "bisect_left") bisNames bisDd aB [2, 4]) (S : StandsD h₀ 1 (Str.ofString "insort_left") bisNames bisDd aI [2, 4])
    {n : Nat} (room : Room A (n + 2)) {ns : List Int} {x : Int} {t : Tok} (hs : ns.Pairwise (· < ·)) (hz : ns.length ≤ 60) {vs : List Value} {c : Nat} {s : Shared} {Q E : Value → Shared → Prop} (g : Ext h₀ s.heap) (ho : s.heap.get? Lo = some (W.listOf vs.toArray c)) (hi : IntsAre vs ns)
    (hQ : ∀ s', Ins s Lo (insI ns x) s' → Q .none s') : wpAny (model prog w) A (call (.ref aI) [.ref Lo, .int x t]) Q E s := by
  obtain ⟨o, fd, ho', hd, hcd, hbd, hcl, hsc, hgl, hbi, hbind⟩ := S.here
  obtain ⟨oB, fdB, hoB, hdatB⟩ := SB.at
  obtain ⟨dv, hdl, hdv, hbd'⟩ := hbind 2 (by simp)
  have hia : IsAll (0 : Addr) No (default : Env) s.heap ([.ref Lo, .int x t] ++ dv) ([.at Lo (intsD ns), .dat (.int x)] ++ [Dat.int 0, .none, .none].map Ent.dat) :=
    IsAll.append (.cons ⟨rfl, .lst (fun h => h) ho (VA.of_ints hi)⟩ (.cons (.int _ _) .nil)) (VA_forall (hdv No s.heap))
  have he : ∀ L, callEnvC fd L aI = envOfC fd.qualname (scOf 1) L aI fd.code := fun L => by
    unfold callEnvC newEnv envOfC
    rw [hsc, hgl, hbi]
  refine call_gen (C := (0 : Addr)) (X := No) (h₀ := h₀) (env := default) (P := Ins s Lo (insI ns x)) (by have := room.depth; omega) ho' hd S.nolimit hcd hbd hcl (hbd' s _ g rfl) hia (by rfl) (by decide) (by rw [hsc]; decide) (by rw [hsc]; rfl)
    (fun h₁ tk₁ Q' E' k₁ ok hQ' => ?_) g (fun b h => h.elim) hQ (by rw [hsc]; rfl) (by rw [hsc]; rfl) (by rw [hsc]; rfl)
  rw [he] at ok ⊢
  have r2 : Room (A.deeper (envOfC fd.qualname (scOf 1) s.heap.objs.size aI fd.code)) (n + 1) := room.deeper _
  have first : ExS prog w (0 : Addr) No h₀ (A.deeper (envOfC fd.qualname (scOf 1) s.heap.objs.size aI fd.code)) (envOfC fd.qualname (scOf 1) s.heap.objs.size aI fd.code) (bisNames.zip ([.at Lo (intsD ns), .dat (.int x)] ++ [Dat.int 0, .none, .none].map Ent.dat)) ((fnBody 1)[0]?.getD (.Pass default)) (.next ((Str.ofString "lo", .dat (.int (posI ns x))) :: bisNames.zip (insEnts Lo ns x))) := by
    refine exs_if (b := true) (tr_cmp (by kd_in) (by kd_in) (o_is (d := .none)) rfl) (fun _ => exb_next (exs_assign (e := .dat (.int (posI ns x))) ?_ (as_local rfl rfl) rfl rfl rfl) exb_nil) (fun h => by cases h)
    exact ev_call SB.name hoB hdatB rfl rfl rfl rfl rfl (evL_cons (by kd_in) (evL_cons (by kd_in) (evL_cons (by kd_in) (evL_cons (by kd_in) evL_nil rfl) rfl) rfl) rfl) (bis4_ok nl SB hs (by omega) n) r2 rfl rfl
  refine wpAny_execs_cons (first _ _ _ (g.trans k₁) ok fun f h₂ t₂ k₂ q => ?_)
  obtain ⟨rfl, ok₂⟩ := q
  have sf : Safe (envOfC fd.qualname (scOf 1) s.heap.objs.size aI fd.code) Lo := ⟨Nat.ne_of_lt (Heap.lt_size ho), fun p hp => by
    have : (envOfC fd.qualname (scOf 1) s.heap.objs.size aI fd.code).cells = [] := rfl
    rw [this] at hp; cases hp⟩
  have ho₂ : h₂.get? Lo = some (W.listOf vs.toArray c) := k₂ _ _ (k₁ _ _ ho) sf
  have hp : posI ns x ≤ ns.length := List.length_filter_le _ _
  have hl := hi.length
  refine wpAny_execs_cons (wpAny_Expr ?_)
  refine MethodCall_ (pl := _) (ev_local (e := .at Lo (intsD ns)) rfl rfl rfl rfl _ _ _ (Pres.low ok (g.trans k₁) k₂) ok₂ fun v h₃ t₃ k₃ i₃ => ?_) rfl
  · obtain ⟨rfl, _⟩ := i₃
    have ho₃ := k₃ _ _ ho₂
    refine getMethod_list_of PySem.F.slot_list_insert PySem.F.type_list_insert (lstIs ho₃) ⟨_, ho₃, rfl⟩ ?_
    have ok₃ := ok₂.ext k₃
    have g₃ : Ext h₀ h₃ := (Pres.low ok (g.trans k₁) k₂).trans k₃
    refine callWith_method1 (args_cons (ev_local (e := .dat (.int (posI ns x))) rfl rfl rfl rfl _ _ _ g₃ ok₃ fun v h₄ t₄ k₄ i₄ => args_cons (ev_local (e := .dat (.int x)) rfl rfl rfl rfl _ _ _ (g₃.trans k₄) (ok₃.ext k₄) fun u h₅ t₅ k₅ i₅ => args_nil ?_) rfl) rfl) rfl rfl
    have ho₅ := k₅ _ _ (k₄ _ _ ho₃)
    cases i₄; cases i₅
    refine ins_list (k := posI ns x) rfl (by omega) (by omega) ho₅ fun h₆ n₆ k₆ ho₆ => wpAny_execs_nil (hQ' _ ⟨h₆, t₅, _, n₆, rfl, fun b o hb e => k₆ b o hb (k₅ _ _ (k₄ _ _ (k₃ _ _ (k₂ _ _ (k₁ _ _ e) ⟨Nat.ne_of_lt (Heap.lt_size e), fun p hp => ?_⟩)))), ho₆, ?_⟩)
    · have : (envOfC fd.qualname (scOf 1) s.heap.objs.size aI fd.code).cells = [] := rfl
      rw [this] at hp; cases hp
    · exact IntsAre.append' (IntsAre.take' hi _) (.cons _ _ (IntsAre.drop' hi _))
end
theorem fm_map {α β : Type} (f : α → Option β) (g : α → β) : ∀ l : List α, (∀ a ∈ l, f a = some (g a)) → l.filterMap f = l.map g
  | [], _ => rfl
  | a :: l, h => by rw [List.filterMap_cons, h a (.head _), List.map_cons, fm_map f g l fun b hb => h b (.tail _ hb)]
theorem pick_run (ds : List Dat) (lo hi st : Option Int) (a b : Nat) (hb : b ≤ ds.length) (e : sliceBounds lo hi st ds.length = ((a : Int), (b : Int), 1)) : pickD ds lo hi st = (ds.drop a).take (b - a) := by
  unfold pickD
  rw [e]
  dsimp only
  have hr : sliceRange (a : Int) (b : Int) 1 = (List.range (b - a)).map fun k => a + k := by
    unfold sliceRange
    simp only [show (1 : Int) > 0 by decide, if_true, Int.ediv_one]
    have hc : (if (a : Int) < b then (b : Int) - a + 1 - 1 else 0).toNat = b - a := by split <;> omega
    rw [hc]
    refine List.map_congr_left fun k _ => ?_
    omega
  rw [hr, List.filterMap_map]
  refine List.ext_getElem? fun i => ?_
  have h1 : (List.range (b - a)).filterMap ((fun x => ds[x]?) ∘ fun k => a + k) = (List.range (b - a)).map fun k => ds.getD (a + k) .none := fm_map _ _ _ fun k hk => by
    have hk' := List.mem_range.mp hk
    show ds[a + k]? = some (ds.getD (a + k) .none)
    rw [List.getD_eq_getElem?_getD, List.getElem?_eq_getElem (by omega)]; rfl
  rw [h1, List.getElem?_map, List.getElem?_take]
  by_cases hi' : i < b - a
  · rw [if_pos hi', List.getElem?_drop, List.getElem?_range hi']
    show some (ds.getD (a + i) .none) = _
    rw [List.getD_eq_getElem?_getD, List.getElem?_eq_getElem (show a + i < ds.length by omega)]; rfl
  · rw [if_neg hi', List.getElem?_eq_none (by rw [List.length_range]; omega)]; rfl
theorem pick_upto (ds : List Dat) (b : Nat) : pickD ds none (some (b : Int)) none = ds.take b := by
  rw [pick_run ds none (some (b : Int)) none 0 (min b ds.length) (Nat.min_le_right _ _) (by
    unfold sliceBounds
    simp only [Option.getD_none, show (1 : Int) > 0 by decide, if_true, Prod.mk.injEq, and_true]
    first
      | (rw [if_neg (by omega)]; omega)
      | (refine ⟨by omega, ?_⟩; rw [if_neg (by omega)]; omega))]
  rw [List.drop_zero, Nat.sub_zero]
  by_cases h : b ≤ ds.length
  · rw [Nat.min_eq_left h]
  · rw [Nat.min_eq_right (by omega), List.take_of_length_le (Nat.le_refl _), List.take_of_length_le (by omega)]
theorem pick_from (ds : List Dat) (a : Nat) : pickD ds (some (a : Int)) none none = ds.drop a := by
  rw [pick_run ds (some (a : Int)) none none (min a ds.length) ds.length (Nat.le_refl _) (by
    unfold sliceBounds
    simp only [Option.getD_none, show (1 : Int) > 0 by decide, if_true, Prod.mk.injEq, and_true]
    rw [if_neg (by omega)]; omega)]
  rw [List.take_of_length_le (by rw [List.length_drop]; omega)]
  by_cases h : a ≤ ds.length
  · rw [Nat.min_eq_left h]
  · rw [Nat.min_eq_right (by omega), List.drop_eq_nil_of_le (Nat.le_refl _), List.drop_eq_nil_of_le (by omega)]
theorem pick_mid (ds : List Dat) (a b : Nat) (hb : b ≤ ds.length) : pickD ds (some (a : Int)) (some (b : Int)) none = (ds.drop a).take (b - a) := by
  by_cases h : a ≤ ds.length
  · exact pick_run ds _ _ _ a b hb (by
      unfold sliceBounds
      simp only [Option.getD_none, show (1 : Int) > 0 by decide, if_true, Prod.mk.injEq, and_true]
      refine ⟨?_, ?_⟩ <;> (rw [if_neg (by omega)]; omega))
  · rw [pick_run ds _ _ _ ds.length b hb (by
      unfold sliceBounds
      simp only [Option.getD_none, show (1 : Int) > 0 by decide, if_true, Prod.mk.injEq, and_true]
      refine ⟨?_, ?_⟩ <;> (rw [if_neg (by omega)]; omega))]
    rw [List.drop_eq_nil_of_le (Nat.le_refl _), List.drop_eq_nil_of_le (by omega), List.take_nil, List.take_nil]
theorem pick_rev (ds : List Dat) : pickD ds none none (some (-1)) = ds.reverse := by
  unfold pickD
  have e : sliceBounds none none (some (-1)) ds.length = ((ds.length : Int) - 1, -1, -1) := rfl
  rw [e]
  dsimp only
  have hr : sliceRange ((ds.length : Int) - 1) (-1) (-1) = (List.range ds.length).map fun k => ds.length - 1 - k := by
    unfold sliceRange
    simp only [show ¬ ((-1 : Int) > 0) by decide, if_false]
    have hc : (if (ds.length : Int) - 1 > -1 then ((ds.length : Int) - 1 - -1 - -1 - 1) / (- -1) else 0).toNat = ds.length := by
      rw [show (- -1 : Int) = 1 by decide, Int.ediv_one]
      split <;> omega
    rw [hc]
    refine List.map_congr_left fun k _ => ?_
    omega
  rw [hr, List.filterMap_map]
  have h1 : (List.range ds.length).filterMap ((fun x => ds[x]?) ∘ fun k => ds.length - 1 - k) = (List.range ds.length).map fun k => ds.getD (ds.length - 1 - k) .none := fm_map _ _ _ fun k hk => by
    have hk' := List.mem_range.mp hk
    show ds[ds.length - 1 - k]? = some (ds.getD (ds.length - 1 - k) .none)
    rw [List.getD_eq_getElem?_getD, List.getElem?_eq_getElem (by omega)]; rfl
  rw [h1]
  refine List.ext_getElem (by simp) fun i h1 h2 => ?_
  have hi : i < ds.length := by simpa using h1
  rw [List.getElem_map, List.getElem_range, List.getElem_reverse, List.getD_eq_getElem?_getD, List.getElem?_eq_getElem (by omega)]; rfl

section
variable {prog : Program} {w : World} {C : Addr} {X : Addr → Prop} {h₀ : Heap} {A : Around} {env : Env} {ρ ρ' : List (Str × Ent)}
theorem o_notin {ds : List Dat} {d : Dat} {b : Bool} (hds : ∀ e ∈ ds, kqdOk 8 e = true) (hd : kqdOk 8 d = true) (hu : A.units + 64 < cLine) (hb : b = true ↔ d ∈ ds) : Op2 prog w X h₀ A (compareOp .NotIn) d (.list ds) (.bool (!b)) := by
  intro s Q E v u g off hv hu' hQ
  obtain ⟨bs, rx⟩ := hv.reads
  obtain ⟨as, ra⟩ := hu'.reads
  rw [kqdP] at ra
  have l := kqd_layL hds
  have ld := kqd_lay 8 d hd
  have e : ((kqdPs ds).any fun y => PyData.eqv y (kqdP d)) = b := Bool.eq_iff_iff.mpr ((kqd_any ds d hds hd).trans hb.symm)
  have l2 := ld.2
  cases hu' with
  | lst na' e' r =>
    refine SeqAt.notIn_list_reads ra rx l.1 ld.1 ?_ (by rw [e]; exact hQ _ s.heap s.toks (Ext.refl _) (.bool _))
    have := Nat.min_le_right (PyData.depthAll (kqdPs ds)) (kqdP d).depth
    omega
/-- the frame told anew -/
theorem OK.remake {h h' : Heap} {m' : Str → Option Value} (ok : OK C X h₀ env ρ h) (kc : ∀ p ∈ env.cells, ∀ o, h.get? p.2 = some o → h'.get? p.2 = some o) (koff : ∀ b, X b → ∃ o, h'.get? b = some o) (hn : h'.Ns env.locals m')
    (hm : ∀ y e, ρ'.lookup y = some e → env.kindOf y = some .local → ∃ v, m' y = some v ∧ Is C X env h' v e) (hc : ∀ y e, ρ'.lookup y = some e → ¬ (env.kindOf y = some .cell ∨ env.kindOf y = some .free)) : OK C X h₀ env ρ' h' :=
  ⟨⟨m', hn, hm⟩, fun y e hy hk => absurd hk (hc y e hy), fun p hp => by obtain ⟨v, o, h1, h2⟩ := ok.cells p hp; exact ⟨v, o, kc p hp o h1, h2⟩, ok.apart, ok.low, koff⟩
end
section
variable {prog : Program} {w : World} {C : Addr} {X : Addr → Prop} {h₀ : Heap} {A : Around} {env : Env} {ρ ρ' : List (Str × Ent)}
/-- two names take two values, the second first -/
theorem wp_pairAssign {x y : Str} {px py tp vp pos : Pos} {a b : Expr} {n1 n2 : Nat} {s : Shared} {Q : Flow → Shared → Prop} {E : Value → Shared → Prop} (hh : A.handled = none)
    (hk : env.scope.kind = .function) (hx : env.kindOf x = some .local) (hy : env.kindOf y = some .local) (hxy : x ≠ y)
    (h : wpAny (model prog w) A (spliced (backTo vp (starEach [a, b] env))) (fun vs s₁ => ∃ v1 v2 m, vs = [v1, v2] ∧ s₁.heap.Ns env.locals m ∧
      (∀ h' tk, ButL env s₁.heap h' → h'.Ns env.locals (fun z => if z = x then some v1 else if z = y then some v2 else m z) → Q .next { s₁ with heap := h', toks := tk })) E s)
    (hs : swapsWithSole [.Tuple [.Name x px, .Name y py] n1 tp] (.Tuple [a, b] n2 vp) pos.line env = pure false)
    (hw : swappedStores [.Tuple [.Name x px, .Name y py] n1 tp] (.Tuple [a, b] n2 vp) env = pure (some [x, y])) :
    wpAny (model prog w) A (exec (.Assign [.Tuple [.Name x px, .Name y py] n1 tp] (.Tuple [a, b] n2 vp) pos) env) Q E s := by
  refine Assign_Tuple_swapped (names := [x, y]) (Tuple_ (wpAny_mono h (fun vs s₁ q => ?_) fun _ _ e => e)) hs hw
  obtain ⟨v1, v2, m, rfl, hn, k⟩ := q
  refine wpAny_newObj_type ?_ (by size_fits)
  have hT : (s₁.heap.push { cls := .type "tuple", data := .seq ([v1, v2] : List Value).toArray }).get? s₁.heap.objs.size = some (tupOf [v1, v2] 0) := Heap.get?_push_size _ rfl
  refine unpackItems_tuple (s := { s₁ with heap := s₁.heap.push { cls := .type "tuple", data := .seq ([v1, v2] : List Value).toArray } }) (items := ([v1, v2] : List Value).toArray) hh (tupIs hT) fun h₂ hx₂ => ?_
  have e₂ : Ext s₁.heap h₂ := fun b o e => hx₂ b o (Nat.ne_of_lt (Nat.lt_trans (Heap.lt_size e) (by rw [Heap.size_push]; exact Nat.lt_succ_self _))) (Heap.get?_push_of_some _ e)
  show wpAny _ _ (assignInOrder [bindName env y, bindName env x] [v2, v1]) _ _ _
  refine assignInOrder_cons (bindName_ (wpAny_storeName_local hy (hn.at' fun o e => e₂ _ o e) (fun h₃ hn₃ hs₃ => ?_) (by rw [hk]; rfl)))
  refine assignInOrder_cons (bindName_ (wpAny_storeName_local hx hn₃ (fun h₄ hn₄ hs₄ => ?_) (by rw [hk]; rfl)))
  exact assignInOrder_nil (k h₄ _ (fun b o hb e => hs₄.extBut b o hb (hs₃.extBut b o hb (e₂ b o e))) hn₄)
end
theorem posI_cons (a : Int) (ns : List Int) (x : Int) : posI (a :: ns) x = if a < x then posI ns x + 1 else posI ns x := by
  unfold posI
  rw [List.filter_cons]
  by_cases h : a < x
  · rw [if_pos (decide_eq_true h), if_pos h, List.length_cons]
  · rw [if_neg (by simpa using h), if_neg h]
theorem posI_zero {ns : List Int} {x : Int} (h : ∀ a ∈ ns, x ≤ a) : posI ns x = 0 := by
  unfold posI
  rw [List.filter_eq_nil_iff.mpr fun a ha => by have := h a ha; simp only [decide_eq_true_eq]; omega]; rfl
theorem insI_cons_lt {a : Int} {ns : List Int} {x : Int} (h : a < x) : insI (a :: ns) x = a :: insI ns x := by
  unfold insI; rw [posI_cons, if_pos h]; rfl
theorem insI_cons_ge {a : Int} {ns : List Int} {x : Int} (hs : (a :: ns).Pairwise (· < ·)) (h : x ≤ a) : insI (a :: ns) x = x :: a :: ns := by
  have : posI (a :: ns) x = 0 := posI_zero fun b hb => by
    rcases List.mem_cons.mp hb with rfl | hb
    · exact h
    · have := List.rel_of_pairwise_cons hs hb; omega
  unfold insI; rw [this]; rfl
theorem insI_perm (ns : List Int) (x : Int) : (insI ns x).Perm (x :: ns) := by
  unfold insI
  refine List.perm_middle.trans (List.Perm.cons _ ?_)
  rw [List.take_append_drop]
theorem insI_sorted : ∀ {ns : List Int} {x : Int}, ns.Pairwise (· < ·) → x ∉ ns → (insI ns x).Pairwise (· < ·)
  | [], x, _, _ => by simp [insI]
  | a :: ns, x, hs, hx => by
    rcases Int.lt_or_le a x with h | h
    · rw [insI_cons_lt h]
      refine List.pairwise_cons.mpr ⟨fun b hb => ?_, insI_sorted (List.pairwise_cons.mp hs).2 fun q => hx (.tail _ q)⟩
      rcases List.mem_cons.mp ((insI_perm ns x).mem_iff.mp hb) with rfl | hb
      · exact h
      · exact List.rel_of_pairwise_cons hs hb
    · rw [insI_cons_ge hs h]
      have hne : x ≠ a := fun q => hx (q ▸ .head _)
      refine List.pairwise_cons.mpr ⟨fun b hb => ?_, hs⟩
      rcases List.mem_cons.mp hb with rfl | hb
      · omega
      · have := List.rel_of_pairwise_cons hs hb; omega

def stepL (st : List Int × List P2) (x : Int) : List Int × List P2 := if x.fmod 12 ∈ st.1 then st else (insI st.1 (x.fmod 12), st.2 ++ [(x.fmod 12, (st.2.length : Int))])
def afterL (ns : List Int) : List Int × List P2 := ns.foldl stepL ([], [])
structure AInv (k : Nat) (st : List Int × List P2) : Prop where
  sorted : st.1.Pairwise (· < ·)
  perm : st.1.Perm (st.2.map (·.1))
  len : st.2.length ≤ k
  ranks : ∀ (i : Nat) (p : P2), st.2[i]? = some p → p.2 = (i : Int)
theorem AInv.step {k : Nat} {st : List Int × List P2} (h : AInv k st) (x : Int) : AInv (k + 1) (stepL st x) := by
  obtain ⟨h1, h2, h3, h4⟩ := h
  unfold stepL
  split
  · exact ⟨h1, h2, by omega, h4⟩
  · rename_i hx
    refine ⟨insI_sorted h1 hx, ?_, by simp only [List.length_append, List.length_cons, List.length_nil]; omega, fun i p hp => ?_⟩
    · rw [List.map_append]
      exact (insI_perm _ _).trans ((List.Perm.cons _ h2).trans (List.perm_append_singleton _ _).symm)
    · rw [List.getElem?_append] at hp
      split at hp
      · exact h4 i p hp
      · rename_i hi
        have : i - st.2.length = 0 := by
          cases e : i - st.2.length with
          | zero => rfl
          | succ j => rw [e] at hp; simp at hp
        rw [this] at hp
        simp at hp
        rw [← hp]; show (st.2.length : Int) = i; omega
theorem afterL_inv : ∀ (ns : List Int) (k : Nat) (st : List Int × List P2), AInv k st → AInv (k + ns.length) (ns.foldl stepL st)
  | [], k, st, h => h
  | x :: ns, k, st, h => by
    have := afterL_inv ns (k + 1) _ (h.step x)
    rw [List.foldl_cons, List.length_cons]
    rw [show k + (ns.length + 1) = k + 1 + ns.length by omega]; exact this
theorem afterL_ok (ns : List Int) : AInv ns.length (afterL ns) := by
  have := afterL_inv ns 0 ([], []) ⟨List.Pairwise.nil, List.Perm.nil, Nat.le_refl _, fun i p h => by simp at h⟩
  rwa [Nat.zero_add] at this

section
variable {prog : Program} {w : World} {C : Addr} {h₀ : Heap} {A : Around} {env : Env} {ρ ρ' : List (Str × Ent)}
theorem VA.pairs_keep {h h' : Heap} {Lm : Addr} {lv : List Value} {n : Nat} (hl : h.get? Lm = some (W.listOf lv.toArray n)) (hk : ∀ b o, b ≠ Lm → h.get? b = some o → h'.get? b = some o) : ∀ {vs : List Value} {ps : List P2}, VA No h vs (encP ps) → VA No h' vs (encP ps)
  | _, [], x => by cases x; exact .nil
  | _, p :: ps, x => by
    cases x with
    | cons a r =>
      refine .cons ?_ (VA.pairs_keep hl hk r)
      cases a with
      | tup n1 e1 va =>
        refine .tup n1 (hk _ _ (fun q => by
          rw [q, hl] at e1
          have h1 := congrArg Obj.cls (Option.some.inj e1)
          have h2 : Value.type "list" = Value.type "tuple" := h1
          injection h2 with h3
          exact absurd h3 (by decide)) e1) ?_
        cases va with | cons x1 r1 => cases r1 with | cons y1 r1 => cases r1; cases x1; cases y1; exact .cons (.int _ _) (.cons (.int _ _) .nil)
theorem V.ints_keep {h h' : Heap} {Lm a : Addr} {ns : List Int} (hne : a ≠ Lm) (hk : ∀ b o, b ≠ Lm → h.get? b = some o → h'.get? b = some o) (x : V No h (.ref a) (intsD ns)) : V No h' (.ref a) (intsD ns) := by
  cases x with
  | lst n1 e va => exact .lst n1 (hk _ _ hne e) (VA.of_ints (VA.ints va))
theorem V.listp_keep {h h' : Heap} {Lm a : Addr} {ps : List P2} {lv : List Value} {n : Nat} (hne : a ≠ Lm) (hl : h.get? Lm = some (W.listOf lv.toArray n)) (hk : ∀ b o, b ≠ Lm → h.get? b = some o → h'.get? b = some o) (x : V No h (.ref a) (.list (encP ps))) : V No h' (.ref a) (.list (encP ps)) := by
  cases x with
  | lst n1 e va => exact .lst n1 (hk _ _ hne e) (VA.pairs_keep hl hk va)
theorem OK.mut {h h' : Heap} {Lm : Addr} {lv : List Value} {n : Nat} (ok : OK C No h₀ env ρ h) (hl : h.get? Lm = some (W.listOf lv.toArray n)) (hk : ∀ b o, b ≠ Lm → h.get? b = some o → h'.get? b = some o)
    (hρ : ∀ p ∈ ρ', ¬ (env.kindOf p.1 = some .cell ∨ env.kindOf p.1 = some .free) ∧ ∃ e0, ρ.lookup p.1 = some e0 ∧ ∀ v, Is C No env h v e0 → Is C No env h' v p.2) : OK C No h₀ env ρ' h' := by
  obtain ⟨m, hn, hm⟩ := ok.ns
  refine ok.remake (m' := m) (fun p hp o e => hk _ _ (fun q => ?_) e) (fun b hb => hb.elim) (hn.at' fun o e => hk _ _ (fun q => ?_) e) (fun y e hy hl' => ?_) fun y e hy => (hρ _ (mem_of_look hy)).1
  · obtain ⟨v, o', h1, h2⟩ := ok.cells p hp
    rw [q, hl] at h1; cases h1; cases h2
  · obtain ⟨o', es, ep, h1, h2, _⟩ := hn
    rw [q, hl] at h1; cases h1; cases h2
  · obtain ⟨_, e0, h1, h2⟩ := hρ _ (mem_of_look hy)
    obtain ⟨v, h3, h4⟩ := hm y e0 h1 hl'
    exact ⟨v, h3, h2 v h4⟩
end
abbrev lawS (i : Nat) : Stmt := (fnBody 11)[i]?.getD (.Pass default)
abbrev lawEnv (q : Str) (L a : Addr) (cd : Value) : Env := envOfC q (scOf 11) L a cd
abbrev ρ1 (Lo Lp As : Addr) (ns : List Int) (st : List Int × List P2) : List (Str × Ent) := [(Str.ofString "order", .at Lo (intsD st.1)), (Str.ofString "pairs", .at Lp (.list (encP st.2))), (Str.ofString "script", .at As (intsD ns))]

theorem loc_not {env : Env} {y : Str} (h : env.kindOf y = some .local) : ¬ (env.kindOf y = some .cell ∨ env.kindOf y = some .free) := fun q => by
  rw [h] at q
  rcases q with q | q <;> cases q
section
variable {prog : Program} {w : World} {C : Addr} {h₀ : Heap} {A : Around} {q : Str} {cd : Value} {L a : Addr}
theorem law_cells : ∀ p ∈ (lawEnv q L a cd).cells, L < p.2 := fun p hp => by
  have e : (lawEnv q L a cd).cells = [(Str.ofString "above", L + 3), (Str.ofString "pair", L + 2), (Str.ofString "step", L + 1)] := rfl
  rw [e] at hp
  simp only [List.mem_cons, List.not_mem_nil, or_false] at hp
  rcases hp with rfl | rfl | rfl
  · exact Nat.lt_add_of_pos_right (by decide)
  · exact Nat.lt_add_of_pos_right (by decide)
  · exact Nat.lt_add_of_pos_right (by decide)

/-- a turn of the first loop -/
theorem turn1 {aI aB Lo Lp As : Addr} {n : Nat} (nl : NameIs h₀ (Str.ofString "len") (.builtin "len")) (SB : StandsD h₀ 2 (Str.ofString "bisect_left") bisNames bisDd aB [2, 4]) (SI : StandsD h₀ 1 (Str.ofString "insort_left") bisNames bisDd aI [2, 4])
    (room : Room A (n + 2)) {ns : List Int} {st : List Int × List P2} {k : Nat} (hst : AInv k st) (hk : k ≤ 50) {x : Int} (hLoLp : Lo ≠ Lp) (hAsLo : As ≠ Lo) (hAsLp : As ≠ Lp) (hLo0 : h₀.get? Lo = none) (hLp0 : h₀.get? Lp = none)
    {s : Shared} {Q : Flow → Shared → Prop} {E : Value → Shared → Prop} (g : Ext h₀ s.heap) (ok : OK C No h₀ (lawEnv q L a cd) ((Str.ofString "number", .dat (.int x)) :: ρ1 Lo Lp As ns st) s.heap) {body : List Stmt} (hbody : ∃ t e p o, lawS 1 = .For t e body o p)
    (hQ : ∀ h' tk', (∀ b o, b ≠ Lo → b ≠ Lp → s.heap.get? b = some o → h'.get? b = some o) → OK C No h₀ (lawEnv q L a cd) (ρ1 Lo Lp As ns (stepL st x)) h' → Q .next { s with heap := h', toks := tk' }) :
    wpAny (model prog w) A (execs body (lawEnv q L a cd)) Q E s := by
  obtain ⟨t, e, p, o, hb⟩ := hbody
  cases hb
  obtain ⟨oI, fdI, hoI, hdatI⟩ := SI.at
  have hmod : ∀ {X}, Op2 prog w X h₀ A (binaryOp .Mod) (.int x) (.int 12) (.int (x.fmod 12)) := o_mod (by decide)
  have hkq : ∀ d ∈ st.1.map Dat.int, kqdOk 8 d = true := fun d hd => by obtain ⟨i, _, rfl⟩ := List.mem_map.mp hd; rfl
  have hlen : st.1.length = st.2.length := by rw [hst.perm.length_eq, List.length_map]
  have hl2 := hst.len
  by_cases hx : x.fmod 12 ∈ st.1
  · have hs : stepL st x = st := if_pos hx
    rw [hs] at hQ
    refine wpAny_execs_cons (wpAny_If (tr_cmp (C := C) (ρ := (Str.ofString "number", .dat (.int x)) :: ρ1 Lo Lp As ns st) (a := .int (x.fmod 12)) (b := intsD st.1) (c := false) (ev_bin (by kd_in) (by kd_in) hmod) (by kd_in) (o_notin (b := true) hkq rfl room.eq (by simpa using hx)) rfl s _ E g ok fun h₁ t₁ k₁ => ?_))
    simp only [Bool.false_eq_true, if_false]
    exact wpAny_execs_nil (wpAny_execs_nil (hQ h₁ t₁ (fun b o _ _ e => k₁ b o e) ((ok.ext k₁).sub (sub_cons rfl (sub_cons rfl (sub_cons rfl sub_nil))))))
  · have hs : stepL st x = (insI st.1 (x.fmod 12), st.2 ++ [(x.fmod 12, (st.2.length : Int))]) := if_neg hx
    rw [hs] at hQ
    refine wpAny_execs_cons (wpAny_If (tr_cmp (C := C) (ρ := (Str.ofString "number", .dat (.int x)) :: ρ1 Lo Lp As ns st) (a := .int (x.fmod 12)) (b := intsD st.1) (c := true) (ev_bin (by kd_in) (by kd_in) hmod) (by kd_in) (o_notin (b := false) hkq rfl room.eq (by simpa using hx)) rfl s _ E g ok fun h₁ t₁ k₁ => ?_))
    simp only [if_true]
    have ok₁ := ok.ext k₁
    have g₁ := g.trans k₁
    refine wpAny_execs_cons (wpAny_Expr (Call_ (name_top SI.name rfl rfl rfl rfl rfl g₁ ?_) rfl))
    refine callWith_def hdatI (args_cons (ev_local (e := .at Lo (intsD st.1)) rfl rfl rfl rfl _ _ _ g₁ ok₁ fun v₂ h₂ t₂ k₂ i₂ => args_cons (ev_bin (a := .int x) (b := .int 12) (by kd_in) (by kd_in) hmod _ _ _ (g₁.trans k₂) (ok₁.ext k₂) fun v₃ h₃ t₃ k₃ i₃ => args_nil ⟨(g₁.trans (k₂.trans k₃)) _ _ hoI, ?_⟩) rfl) rfl) rfl
    obtain ⟨rfl, i₂⟩ := i₂
    have g₃ := g₁.trans (k₂.trans k₃)
    have ok₃ := ok₁.ext (k₂.trans k₃)
    have i₂' := i₂.mono (Ext.seq (X := No) k₃)
    cases i₃
    rename_i tx
    generalize hd : intsD st.1 = dd at i₂'
    cases i₂' with
    | tup _ _ _ => cases hd
    | lst nx eo va =>
      rename_i vs c ds
      obtain rfl : st.1.map Dat.int = ds := by injection hd
      refine ins_ok nl SB SI (s := { s with heap := h₃, toks := t₃ }) room hst.sorted (by omega) g₃ eo (VA.ints va) fun s₄ hI => ?_
      obtain ⟨h₄, t₄, vs₄, n₄, rfl, k₄, eo₄, va₄⟩ := hI.is
      have g₄ : Ext h₀ h₄ := fun b o e => k₄ b o (fun q => by rw [q, hLo0] at e; cases e) (g₃ b o e)
      have ok₄ : OK C No h₀ (lawEnv q L a cd) ((Str.ofString "number", .dat (.int x)) :: ρ1 Lo Lp As ns (insI st.1 (x.fmod 12), st.2)) h₄ := by
        refine ok₃.mut eo k₄ fun p hp => ?_
        simp only [List.mem_cons, List.not_mem_nil, or_false] at hp
        rcases hp with rfl | rfl | rfl | rfl
        · exact ⟨loc_not rfl, _, rfl, fun v hv => by cases hv; exact .int _ _⟩
        · exact ⟨loc_not rfl, _, rfl, fun v hv => ⟨hv.1, by rw [hv.1]; exact .lst (fun q => q) eo₄ (VA.of_ints va₄)⟩⟩
        · refine ⟨loc_not rfl, _, rfl, fun v hv => ⟨hv.1, ?_⟩⟩
          have := hv.2; rw [hv.1] at this ⊢
          exact V.listp_keep (Ne.symm hLoLp) eo k₄ this
        · refine ⟨loc_not rfl, _, rfl, fun v hv => ⟨hv.1, ?_⟩⟩
          have := hv.2; rw [hv.1] at this ⊢
          exact V.ints_keep hAsLo k₄ this
      refine wpAny_execs_cons (wpAny_Expr ?_)
      refine MethodCall_ (pl := _) (ev_local (e := .at Lp (.list (encP st.2))) rfl rfl rfl rfl _ _ _ g₄ ok₄ fun v₅ h₅ t₅ k₅ i₅ => ?_) rfl
      obtain ⟨rfl, i₅⟩ := i₅
      have g₅ := g₄.trans k₅
      have ok₅ := ok₄.ext k₅
      generalize hd2 : Dat.list (encP st.2) = dd2 at i₅
      cases i₅ with
      | tup _ _ _ => cases hd2
      | lst nx2 eo2 va2 =>
        rename_i vs2 c2 ds2
        obtain rfl : encP st.2 = ds2 := by injection hd2
        refine getMethod_list_of slot_list_append PySem.F.type_list_append (lstIs eo2) ⟨_, eo2, rfl⟩ ?_
        have hcall : Ev prog w C No h₀ A (lawEnv q L a cd) ((Str.ofString "number", .dat (.int x)) :: ρ1 Lo Lp As ns (insI st.1 (x.fmod 12), st.2)) _ (.dat (.int ((encP st.2).length : Int))) :=
          ev_callB (f := Str.ofString "len") (fp := ⟨84, 39, 84, 42⟩) (pos := ⟨84, 39, 84, 49⟩) (x := .Name (Str.ofString "pairs") ⟨84, 43, 84, 48⟩) (xs := []) (ds := [.list (encP st.2)]) nl rfl rfl rfl rfl rfl (evD_cons (by kd_in) evD_nil rfl) (cb_len (by rw [List.length_map]; omega)) (room.le (Nat.zero_le _)) rfl rfl rfl
        refine callWith_method1 (args_cons (ev_tuple (C := C) (ρ := (Str.ofString "number", .dat (.int x)) :: ρ1 Lo Lp As ns (insI st.1 (x.fmod 12), st.2)) (ds := [.int (x.fmod 12), .int ((encP st.2).length : Int)]) (evD_cons (ev_bin (a := .int x) (b := .int 12) (by kd_in) (by kd_in) hmod) (evD_cons hcall evD_nil rfl) rfl) small2 _ _ _ g₅ ok₅ fun v₆ h₆ t₆ k₆ i₆ => args_nil ?_) rfl) rfl rfl
        have eo6 := k₆ _ _ eo2
        have va6 := va2.mono (Ext.seq (X := No) k₆)
        refine wpAny_list_append_plain (s := { s with heap := h₆, toks := t₆ }) (items := vs2.toArray) (hsz := by rw [List.size_toArray, va2.length, List.length_map, sizeLine_eq]; omega) ⟨_, eo6⟩ fun h₇ hl7 hs7 => ?_
        obtain ⟨n7, eo7⟩ := hl7
        have k₇ : ∀ b o, b ≠ Lp → h₆.get? b = some o → h₇.get? b = some o := fun b o hb e => hs7.extBut b o hb e
        have eo7' : h₇.get? Lp = some (W.listOf (vs2 ++ [v₆]).toArray n7) := by
          rw [eo7]; simp [W.listOf]
        have va7 : VA No h₇ (vs2 ++ [v₆]) (encP (st.2 ++ [(x.fmod 12, (st.2.length : Int))])) := by
          have e7 : encP (st.2 ++ [(x.fmod 12, (st.2.length : Int))]) = encP st.2 ++ encP [(x.fmod 12, (st.2.length : Int))] := List.map_append
          rw [e7]
          refine (VA.pairs_keep eo6 k₇ va6).append (VA.pairs_keep eo6 k₇ (.cons ?_ .nil))
          have e8 : ((encP st.2).length : Int) = st.2.length := by rw [List.length_map]
          rw [e8] at i₆
          exact i₆
        refine wpAny_execs_nil (wpAny_execs_nil (hQ h₇ t₆ (fun b o h1 h2 e => k₇ b o h2 (k₆ _ _ (k₅ _ _ (k₄ _ _ h1 (k₃ _ _ (k₂ _ _ (k₁ _ _ e))))))) ((ok₅.ext k₆).mut eo6 k₇ fun p hp => ?_)))
        simp only [List.mem_cons, List.not_mem_nil, or_false] at hp
        rcases hp with rfl | rfl | rfl
        · refine ⟨loc_not rfl, _, rfl, fun v hv => ⟨hv.1, ?_⟩⟩
          have := hv.2; rw [hv.1] at this ⊢
          exact V.ints_keep hLoLp k₇ this
        · exact ⟨loc_not rfl, _, rfl, fun v hv => ⟨hv.1, by rw [hv.1]; exact .lst (fun q => q) eo7' va7⟩⟩
        · refine ⟨loc_not rfl, _, rfl, fun v hv => ⟨hv.1, ?_⟩⟩
          have := hv.2; rw [hv.1] at this ⊢
          exact V.ints_keep hAsLp k₇ this
end
section
variable {prog : Program} {w : World} {C : Addr} {h₀ : Heap} {A : Around} {q : Str} {cd : Value} {L a : Addr}
theorem ok_two {As Lo Lp : Addr} {ns : List Int} {h : Heap} {ρ : List (Str × Ent)} (ok : OK C No h₀ (lawEnv q L a cd) ρ h) (hρ : ρ.lookup (Str.ofString "script") = some (.at As (intsD ns))) (h1 : As ≠ Lo) (h2 : As ≠ Lp) (hLo : ∃ o, h.get? Lo = some o) (hLp : ∃ o, h.get? Lp = some o) :
    OK C (fun b => b = Lo ∨ b = Lp) h₀ (lawEnv q L a cd) [(Str.ofString "script", .at As (intsD ns))] h := by
  obtain ⟨m, hn, hm⟩ := ok.ns
  refine ⟨⟨m, hn, fun y e hy hl => ?_⟩, fun y e hy hk => ?_, ok.cells, ok.apart, ok.low, fun b hb => ?_⟩
  · rw [List.lookup_cons] at hy
    by_cases e1 : y = Str.ofString "script"
    · subst e1; rw [beq_self_eq_true] at hy; cases hy
      obtain ⟨v, e2, e3, e4⟩ := hm _ _ hρ hl
      refine ⟨v, e2, e3, ?_⟩
      rw [e3] at e4 ⊢
      cases e4 with
      | lst nx eo va => exact .lst (fun z => z.elim h1 h2) eo (VA.of_ints (VA.ints va))
    · rw [beq_eq_false_iff_ne.mpr e1] at hy; simp at hy
  · rw [List.lookup_cons] at hy
    by_cases e1 : y = Str.ofString "script"
    · subst e1; rcases hk with hk | hk <;> cases hk
    · rw [beq_eq_false_iff_ne.mpr e1] at hy; simp at hy
  · rcases hb with rfl | rfl
    · exact hLo
    · exact hLp

theorem take_map_int (ns : List Int) (k : Nat) : (ns.map Dat.int).take k = (ns.take k).map Dat.int := List.map_take.symm
theorem stmt1 {aI aB Lo Lp As : Addr} {n : Nat} (nl : NameIs h₀ (Str.ofString "len") (.builtin "len")) (SB : StandsD h₀ 2 (Str.ofString "bisect_left") bisNames bisDd aB [2, 4]) (SI : StandsD h₀ 1 (Str.ofString "insort_left") bisNames bisDd aI [2, 4])
    (room : Room A (n + 2)) {ns : List Int} (hns : ns.length ≤ 63) (hLoLp : Lo ≠ Lp) (hAsLo : As ≠ Lo) (hAsLp : As ≠ Lp) (hLo0 : h₀.get? Lo = none) (hLp0 : h₀.get? Lp = none)
    {s : Shared} {Q : Flow → Shared → Prop} {E : Value → Shared → Prop} (g : Ext h₀ s.heap) (hLo : ∃ o, s.heap.get? Lo = some o) (hLp : ∃ o, s.heap.get? Lp = some o) (ok : OK C No h₀ (lawEnv q L a cd) (ρ1 Lo Lp As ns ([], [])) s.heap)
    (hQ : ∀ h' tk', Ext h₀ h' → OK C No h₀ (lawEnv q L a cd) (ρ1 Lo Lp As ns (afterL (ns.take 7))) h' → Q .next { s with heap := h', toks := tk' }) :
    wpAny (model prog w) A (exec (lawS 1) (lawEnv q L a cd)) Q E s := by
  have hslice : Ev prog w C (fun b => b = Lo ∨ b = Lp) h₀ A (lawEnv q L a cd) [(Str.ofString "script", .at As (intsD ns))] _ (.dat (intsD (ns.take 7))) :=
    ev_slice (x := .Name (Str.ofString "script") ⟨81, 18, 81, 24⟩) (lo := none) (up := some (.Constant (.int 7) 0 ⟨81, 26, 81, 27⟩)) (st := none) (pos := ⟨81, 18, 81, 28⟩) (spos := ⟨81, 25, 81, 27⟩) (ds := ns.map .int) (by kd_in) .none (.some ev_int) .none (by simp) ((pick_upto _ 7).trans (take_map_int ns 7)) (by rw [List.length_map, sizeLine_eq]; omega) (fun _ _ => rfl)
  refine wpAny_For (hslice s _ E g (ok_two ok rfl hAsLo hAsLp hLo hLp) fun v h₁ t₁ k₁ i₁ => ?_) (fun _ => rfl)
  have ok₁ := ok.ext k₁
  cases i₁ with
  | lst nx e va =>
    rename_i l ws c
    have hi := VA.ints va
    have hlen := hi.length
    refine wpAny_pyIter_list (lstIs e) ?_
    have kk : Ext h₁ (h₁.push { cls := .type "list_iterator", data := .fields #[.ref l, .int 0 0] }) := fun b o e => Heap.get?_push_of_some _ e
    have fs := fresh_safe ok₁ (Nat.le_refl h₁.objs.size)
    have hIlt : ∀ b, (∃ o, s.heap.get? b = some o) → b ≠ h₁.objs.size := fun b hb => by obtain ⟨o, e⟩ := hb; exact Nat.ne_of_lt (Heap.lt_size (k₁ _ _ e))
    have hlI : l ≠ h₁.objs.size := Nat.ne_of_lt (Heap.lt_size e)
    refine my_forLoop (fun k s' => ∃ i h' tk, s' = { s with heap := h', toks := tk } ∧ i ≤ (ns.take 7).length ∧ k = (ns.take 7).length + 1 - i ∧ h'.IsListIter h₁.objs.size l i ∧ h'.get? l = some (W.listOf ws.toArray c) ∧ OK C No h₀ (lawEnv q L a cd) (ρ1 Lo Lp As ns (afterL ((ns.take 7).take i))) h' ∧ Ext h₀ h') ?_ ((ns.take 7).length + 1) ⟨0, _, _, rfl, Nat.zero_le _, rfl, ⟨_, Heap.get?_push_size _ rfl, rfl, rfl⟩, kk _ _ e, ok₁.ext kk, g.trans (k₁.trans kk)⟩
    rintro k s' ⟨i, h', tk, rfl, hi', rfl, hit, el, ok', g'⟩ E'
    have f' : Flds [h₁.objs.size] h' := fun b hb => by
      rw [List.mem_singleton.mp hb]
      obtain ⟨o, q1, q2, q3⟩ := hit
      exact ⟨o, _, q1, q3⟩
    have hl7 : (ns.take 7).length ≤ 7 := by rw [List.length_take]; omega
    by_cases hlt : i < (ns.take 7).length
    · have hx : (ns.take 7)[i]? = some (ns.take 7)[i] := List.getElem?_eq_getElem hlt
      obtain ⟨v, hv, hV⟩ := va.get (k := i) (d := .int (ns.take 7)[i]) (by rw [List.getElem?_map, hx]; rfl)
      refine wpAny_pyNext_list_item (s := { s with heap := h', toks := tk }) hit (lstIs el) (x := v) (by simpa using hv) fun h₂ hit₂ hs₂ => ?_
      have kb : But [h₁.objs.size] h' h₂ := fun b o hb e => hs₂.extBut b o (fun z => hb (List.mem_singleton.mpr z)) e
      have ok₂ := ok'.but kb f' (fun b hb z => z)
      have g₂ : Ext h₀ h₂ := fun b o e => hs₂.extBut b o (fun z => by have := Heap.lt_size ((g.trans k₁) b o e); rw [z] at this; exact Nat.lt_irrefl _ this) (g' b o e)
      have el₂ : h₂.get? l = some (W.listOf ws.toArray c) := hs₂.extBut _ _ hlI el
      refine letOwned_list rfl hit₂ ?_
      unfold forK
      cases hV
      refine as_local (x := Str.ofString "number") (e := .dat (.int (ns.take 7)[i])) rfl rfl _ _ E' _ g₂ ok₂ (.int _ _) fun h₃ t₃ k₃ ok₃ => ?_
      have g₃ := k₃.low ok₂ g₂
      have hst := afterL_ok ((ns.take 7).take i)
      refine turn1 (C := C) nl SB SI room (ns := ns) (Lo := Lo) (Lp := Lp) (As := As) hst (by rw [List.length_take]; omega) hLoLp hAsLo hAsLp hLo0 hLp0 g₃ ok₃ ⟨_, _, _, _, rfl⟩ fun h₄ t₄ k₄ ok₄ => ?_
      obtain ⟨oI, q1, q2, q3⟩ := hit₂
      refine ⟨_, ?_, i + 1, h₄, t₄, rfl, hlt, rfl, ⟨oI, k₄ _ _ (Ne.symm (hIlt _ hLo)) (Ne.symm (hIlt _ hLp)) (k₃ _ _ q1 fs.1), q2, q3⟩, k₄ _ _ (fun z => nx (.inl z)) (fun z => nx (.inr z)) (k₃ _ _ el₂ (ok₂.seqSafe el₂ ⟨_, _, rfl⟩)), ?_, fun b o e => k₄ b o (fun z => by rw [z, hLo0] at e; cases e) (fun z => by rw [z, hLp0] at e; cases e) (g₃ b o e)⟩
      · omega
      · have e1 : afterL ((ns.take 7).take (i + 1)) = stepL (afterL ((ns.take 7).take i)) (ns.take 7)[i] := by
          unfold afterL
          rw [List.take_add_one, hx, List.foldl_append]; rfl
        rw [e1]; exact ok₄
    · obtain rfl : i = (ns.take 7).length := by omega
      have hx : ws.toArray[(ns.take 7).length]? = none := by rw [List.getElem?_toArray, List.getElem?_eq_none_iff, hlen]; exact Nat.le_refl _
      refine wpAny_pyNext_list_end (s := { s with heap := h', toks := tk }) room.hh hit (lstIs el) hx fun h₂ k₂ => ?_
      have kb : But [h₁.objs.size] h' h₂ := fun b o hb e => k₂ b o (fun z => hb (List.mem_singleton.mpr z)) e
      have ok₂ := ok'.but kb f' (fun b hb z => z)
      rw [List.take_of_length_le (Nat.le_refl _)] at ok₂
      exact hQ h₂ tk (fun b o e => k₂ b o (fun z => by have := Heap.lt_size ((g.trans k₁) b o e); rw [z] at this; exact Nat.lt_irrefl _ this) (g' b o e)) ok₂
end
section
variable {prog : Program} {w : World} {C : Addr} {h₀ : Heap} {A : Around} {q : Str} {cd : Value} {L a : Addr}
theorem new_list {A : Around} {s : Shared} {Q : Value → Shared → Prop} {E : Value → Shared → Prop} (h : Q (.ref s.heap.objs.size) { s with heap := s.heap.push (W.listOf ([] : List Value).toArray 0) }) : wpAny (model prog w) A (newList []) Q E s :=
  wpAny_newObj_type h (Nat.zero_le _)
theorem stmt0 {As : Addr} {ns : List Int} (hh : A.handled = none) {s : Shared} {Q : Flow → Shared → Prop} {E : Value → Shared → Prop} (g : Ext h₀ s.heap) (ok : OK C No h₀ (lawEnv q L a cd) [(Str.ofString "script", .at As (intsD ns))] s.heap)
    (hQ : ∀ h' tk' Lo Lp, Lo ≠ Lp → As ≠ Lo → As ≠ Lp → h₀.get? Lo = none → h₀.get? Lp = none → (∃ o, h'.get? Lo = some o) → (∃ o, h'.get? Lp = some o) → Ext h₀ h' → OK C No h₀ (lawEnv q L a cd) (ρ1 Lo Lp As ns ([], [])) h' → Q .next { s with heap := h', toks := tk' }) :
    wpAny (model prog w) A (exec (lawS 0) (lawEnv q L a cd)) Q E s := by
  obtain ⟨m, hn, hm⟩ := ok.ns
  obtain ⟨v, hv, rfl, hV⟩ := hm (Str.ofString "script") (.at As (intsD ns)) rfl rfl
  generalize hd : intsD ns = dd at hV
  cases hV with
  | tup _ _ _ => cases hd
  | lst nx eA va =>
    rename_i vs c ds
    obtain rfl : ns.map Dat.int = ds := by injection hd
    have hAlt := Heap.lt_size eA
    refine wp_pairAssign (x := Str.ofString "pairs") (y := Str.ofString "order") hh rfl rfl rfl (by decide) ?_ rfl rfl
    refine args_cons (List_ (args_nil (new_list ?_))) rfl
    refine args_cons (List_ (args_nil (new_list ?_))) rfl
    refine args_nil ⟨_, _, m, rfl, hn.at' fun o e => Heap.get?_push_of_some _ (Heap.get?_push_of_some _ e), fun h' tk' k' hn' => ?_⟩
    have z1 : (s.heap.push (W.listOf ([] : List Value).toArray 0)).objs.size = s.heap.objs.size + 1 := Heap.size_push ..
    have kk : Ext s.heap ((s.heap.push (W.listOf ([] : List Value).toArray 0)).push (W.listOf ([] : List Value).toArray 0)) := fun b o e => Heap.get?_push_of_some _ (Heap.get?_push_of_some _ e)
    have hLlt : (lawEnv q L a cd).locals < s.heap.objs.size := hn.lt
    have eLp : h'.get? s.heap.objs.size = some (W.listOf ([] : List Value).toArray 0) := k' _ _ (Nat.ne_of_gt hLlt) (Heap.get?_push_of_some _ (Heap.get?_push_size _ rfl))
    have eLo : h'.get? (s.heap.push (W.listOf ([] : List Value).toArray 0)).objs.size = some (W.listOf ([] : List Value).toArray 0) := k' _ _ (by rw [z1]; exact Nat.ne_of_gt (Nat.lt_succ_of_lt hLlt)) (Heap.get?_push_size _ rfl)
    have eA' : h'.get? _ = some _ := k' _ _ (fun z => by
      obtain ⟨o', es, ep, q1, q2, _⟩ := hn
      rw [← z, eA] at q1; cases q1; cases q2) (kk _ _ eA)
    have none₀ : ∀ b, s.heap.objs.size ≤ b → h₀.get? b = none := fun b hb => by
      cases e : h₀.get? b with
      | none => rfl
      | some o => exact absurd (Heap.lt_size (g b o e)) (Nat.not_lt.mpr hb)
    refine hQ h' tk' (s.heap.push (W.listOf ([] : List Value).toArray 0)).objs.size s.heap.objs.size (by rw [z1]; exact Nat.succ_ne_self _) (by rw [z1]; exact Nat.ne_of_lt (Nat.lt_succ_of_lt hAlt)) (Nat.ne_of_lt hAlt) (none₀ _ (by rw [z1]; exact Nat.le_succ _)) (none₀ _ (Nat.le_refl _)) ⟨_, eLo⟩ ⟨_, eLp⟩ (fun b o e => k' b o ((ok.low b o e).1) (kk _ _ (g b o e))) ?_
    refine ok.remake (m' := _) (fun p hp o e => k' _ _ (ok.nsNotCell p hp) (kk _ _ e)) (fun b hb => hb.elim) hn' (fun y e hy hl => ?_) fun y e hy => ?_
    · have := mem_of_look hy
      simp only [List.mem_cons, List.not_mem_nil, or_false, Prod.mk.injEq] at this
      rcases this with ⟨rfl, rfl⟩ | ⟨rfl, rfl⟩ | ⟨rfl, rfl⟩
      · exact ⟨_, rfl, rfl, .lst (vs := []) (fun z => z) eLo .nil⟩
      · exact ⟨_, rfl, rfl, .lst (vs := []) (fun z => z) eLp .nil⟩
      · refine ⟨_, ?_, rfl, .lst (fun z => z) eA' (VA.of_ints (VA.ints va))⟩
        show m (Str.ofString "script") = _
        exact hv
    · have := mem_of_look hy
      simp only [List.mem_cons, List.not_mem_nil, or_false, Prod.mk.injEq] at this
      rcases this with ⟨rfl, rfl⟩ | ⟨rfl, rfl⟩ | ⟨rfl, rfl⟩ <;> exact loc_not rfl
end
section
variable {prog : Program} {w : World} {C : Addr} {X : Addr → Prop} {h₀ : Heap} {A : Around} {env : Env} {ρ : List (Str × Ent)}
theorem code_gen {P : Shared → Prop} {a : Addr} {o : Obj} {fd : FuncData} {body : List Stmt} {names : List Str} {xs vals : List Value} {es : List Ent} {s : Shared} {R : Result → Shared → Prop}
    (hA : A.depth < recursionLimit) (ho : h₀.get? a = some o) (hdata : o.data = .func fd) (hlim : h₀.NoLimit) (hcd : h₀.CodeRec fd.code fd.qualname) (hbody : fd.body = .stmts body) (hclo : fd.closure = [])
    (hbind : BindsTo s fd ⟨vals, []⟩ (names.zip xs)) (hx : IsAll C X env s.heap xs es) (hlen : names.length = es.length) (hnd : names.Nodup)
    (hnames : (names.all fun x => fd.scope.names.lookup x == some .local) = true) (hnoc : cellsFrom (s.heap.objs.size + 1) fd.scope.names [] = [])
    (hb : ∀ (h₁ : Heap) (tk₁ : Nat) (Q' : Flow → Shared → Prop) (E' : Value → Shared → Prop), Ext s.heap h₁ → OK C X h₀ (callEnvC fd s.heap.objs.size a) (names.zip es) h₁ → (∀ s'', P s'' → Q' .next s'') → wpAny (model prog w) (A.deeper (callEnvC fd s.heap.objs.size a)) (execs body (callEnvC fd s.heap.objs.size a)) Q' E' { s with heap := h₁, toks := tk₁ })
    (g : Ext h₀ s.heap) (off : ∀ b, X b → ∃ o, s.heap.get? b = some o)
    (hQ : ∀ s'', P s'' → R (.ok (.ret .none)) s'')
    (hco : fd.scope.isCoroutine = false := by rfl) (hgen : fd.scope.isGenerator = false := by rfl) (hk : fd.scope.kind = .function := by rfl) : codeAny (model prog w) A (.call (.ref a) ⟨vals, []⟩) R s := by
  have hk' : ∀ x ∈ names, fd.scope.names.lookup x = some .local := fun x hx' => by simpa using List.all_eq_true.mp hnames x hx'
  have hz : (names.zip xs).map (·.1) = names := zip_names (by rw [hlen, hx.length])
  refine codeAny_call_function hA (g a o ho) hdata hco hgen hbody (hcd.keeps g) (hbind _ _ _ _ ?_)
  rw [hclo]
  refine wpAny_newFunctionEnv_cells hk (fun y hy => .inl (hk' y.1 (hz ▸ List.mem_map_of_mem hy))) fun env' he s' x => ?_
  subst he
  refine ⟨(hlim.keeps g).keeps x.toInCall.keep, codeAny_func ?_⟩
  have hc0 : (callEnvC fd s.heap.objs.size a).cells = [] := hnoc
  have ok : OK C X h₀ (callEnvC fd s.heap.objs.size a) (names.zip es) s'.heap := by
    refine OK.start (env := env) g off rfl x hx hlen hnd (fun y hy q => ?_) (fun p hp => by rw [hc0] at hp; cases hp) fun y hy q => ?_
    · have : (callEnvC fd s.heap.objs.size a).kindOf y = some .local := hk' y hy
      rw [q] at this; cases this
    · have : (callEnvC fd s.heap.objs.size a).kindOf y = some .local := hk' y hy
      rw [q] at this; cases this
  obtain ⟨h₁, tk₁, rfl, hk₁⟩ := x.done
  exact hb h₁ tk₁ _ _ hk₁ ok fun s'' hP => hQ s'' hP
end

abbrev initStmt : Stmt := memOf 0 (stmtOf 4)
abbrev initNames : List Str := [Str.ofString "self", Str.ofString "comp_select_list"]
structure MakesC (K : Frag) (h₀ : Heap) (C fI : Addr) : Prop where
  here : K.In h₀
  makes : makesIn K C = true
  init : findIn K (.ref C) (Str.ofString "__init__") = some (some (.ref fI))
  fn : isFn K (.ref fI) = true
  set : findIn K (.ref C) (Str.ofString "__setattr__") = some (some (.builtin "object.__setattr__"))
  over : plainOver K C = true
  keep : keepIn K (.ref C) = true
  taker : takerIn K C (Str.ofString "comp_select_list") = some none
  has : hasDictIn K C = true
  meth : StandsM h₀ initNames fI initStmt

/-- all that the heap holds beyond h₀, but L -/
def beyond (h₀ h : Heap) (L : Addr) : List (Addr × Obj) := (others h L).filter fun p => (h₀.get? p.1).isNone
theorem beyond_mem {h₀ h : Heap} {L a : Addr} {o : Obj} : (a, o) ∈ beyond h₀ h L ↔ a ≠ L ∧ h.get? a = some o ∧ h₀.get? a = none := by
  unfold beyond
  rw [List.mem_filter, others_mem]
  simp [and_assoc]
theorem beyond_news (h₀ h : Heap) (L : Addr) : News h₀ L h (beyond h₀ h L) := fun p hp => by
  obtain ⟨a, o⟩ := p
  have := beyond_mem.mp hp
  exact ⟨this.2.1, this.1, this.2.2⟩
theorem News.butL {h₀ h h' : Heap} {L : Addr} {m : Str → Option Value} {r : List (Addr × Obj)} (F : Fr h₀ L h' m) (N : News h₀ L h' r) (g : Ext h₀ h) (hr : ∀ p ∈ beyond h₀ h L, p ∈ r) : ∀ b o, b ≠ L → h.get? b = some o → h'.get? b = some o := fun b o hb e => by
  cases q : h₀.get? b with
  | some o' =>
    have := g b o' q
    rw [e] at this; cases this
    exact F.keep b o q
  | none => exact (N (b, o) (hr _ (beyond_mem.mpr ⟨hb, e, q⟩))).1

section
variable {prog : Program} {w : World} {C fI : Addr} {h₀ : Heap} {A : Around} {K : Frag}
theorem make_told (mc : MakesC K h₀ C fI) {n : Nat} (room : Room A (n + 4)) {L : Addr} {m : Str → Option Value} {s : Shared} {Q E : Value → Shared → Prop} (g : Ext h₀ s.heap) (hL : h₀.objs.size ≤ L) (hn : s.heap.Ns L m) {l : Addr}
    (hQ : ∀ a dx ky kt n' h' tk, s.heap.get? a = none → s.heap.get? dx = none → h'.Ns L m → (∀ b o, b ≠ L → s.heap.get? b = some o → h'.get? b = some o) → h'.get? a = some (instObj C dx) → h'.get? dx = some (dictOf [⟨ky, .str (Str.ofString "comp_select_list") kt, .ref l⟩] n') → Q (.ref a) { s with heap := h', toks := tk }) :
    wpAny (model prog w) A (call (.ref C) [.ref l]) Q E s := by
  have F : Fr h₀ L s.heap m := ⟨hn, g, hL⟩
  obtain ⟨o, fd, ho', hd, hcd, hbd, hcl, hsc, hgl, hbi, hbind⟩ := mc.meth.here
  have he : ∀ L, callEnvC fd L fI = envOfC fd.qualname (scopeS initStmt) L fI fd.code := fun L => by
    unfold callEnvC newEnv envOfC
    rw [hsc, hgl, hbi]
  refine wpAny_call (make_K F (beyond_news h₀ s.heap L) (mc.here.keeps g) mc.makes mc.init (beq_iff_eq.mp mc.fn) fun x dx h' F' N' hlt hxd => ?_)
  have hia : IsAll C No (default : Env) h' [.ref x, .ref l] [.raw (.ref x), .raw (.ref l)] := .cons rfl (.cons rfl .nil)
  have hx := N' (x, instObj C dx) (.head _)
  have hdx := N' (dx, emptyDict) (.tail _ (.head _))
  have fresh : ∀ b, b ≠ L → h₀.get? b = none → dx ≤ b → s.heap.get? b = none := fun b h1 h2 h3 => by
    cases e : s.heap.get? b with
    | none => rfl
    | some o' => exact absurd (hlt (b, o') (beyond_mem.mpr ⟨h1, e, h2⟩)) (Nat.not_lt.mpr h3)
  have fx := fresh x hx.2.1 hx.2.2 (Nat.le_of_lt hxd)
  have fdx := fresh dx hdx.2.1 hdx.2.2 (Nat.le_refl _)
  refine code_gen (C := C) (X := No) (h₀ := h₀) (env := default) (P := fun s'' => ∃ h₃ tk ky kt, s'' = { s with heap := h₃, toks := tk } ∧ Fr h₀ L h₃ m ∧ News h₀ L h₃ ((x, instObj C dx) :: (dx, dictOf [⟨ky, .str (Str.ofString "comp_select_list") kt, .ref l⟩] 1) :: beyond h₀ s.heap L))
    (by have := room.depth; show A.depth + 1 < _; omega) ho' hd mc.meth.nolimit hcd hbd hcl (BindsTo.of_eq (hbind _ rfl)) hia rfl (by decide) (by rw [hsc]; decide) (by rw [hsc]; rfl)
    (fun h₁ tk₁ Q' E' k₁ ok hQ' => ?_) F'.keep (fun b hb => hb.elim) ?_ (by rw [hsc]; rfl) (by rw [hsc]; rfl) (by rw [hsc]; rfl)
  · rw [he] at ok ⊢
    have g₁ : Ext h₀ h₁ := fun b o e => k₁ b o (F'.keep b o e)
    refine wpAny_execs_cons (plainObj_wpAny_Assign_Attribute (ev_local (e := .raw (.ref l)) rfl rfl rfl rfl _ _ _ g₁ ok fun v₂ h₂ t₂ k₂ i₂ => ev_local (e := .raw (.ref x)) rfl rfl rfl rfl _ _ _ (g₁.trans k₂) (ok.ext k₂) fun v₃ h₃ t₃ k₃ i₃ => ?_) rfl)
    obtain rfl : v₂ = .ref l := i₂
    obtain rfl : v₃ = .ref x := i₃
    have kk : Ext h' h₃ := k₁.trans (k₂.trans k₃)
    have F₃ : Fr h₀ L h₃ m := ⟨F'.ns.at' fun o e => kk _ _ e, fun b o e => kk _ _ (F'.keep b o e), hL⟩
    have N₃ : News h₀ L h₃ ([(x, instObj C dx)] ++ (dx, emptyDict) :: beyond h₀ s.heap L) := fun p hp => ⟨kk _ _ (N' p hp).1, (N' p hp).2⟩
    have I : InstAt h₃ x (instObj C dx) C (some emptyDict) := ⟨(N₃ _ (.head _)).1, rfl, rfl, (N₃ (dx, emptyDict) (.tail _ (.head _))).1⟩
    have X₃ : K.In h₃ := mc.here.keeps F₃.keep
    refine set_plain X₃ I mc.set (osa_dict (s := { s with heap := h₃, toks := t₃ + 1 }) F₃ N₃ X₃ I rfl mc.over mc.taker mc.has rfl (fun p hp => by rw [List.mem_singleton.mp hp]; exact Nat.ne_of_gt hxd) (fun p hp => Nat.ne_of_lt (hlt p hp)) (od' := dictOf (putL (Str.ofString "comp_select_list") _ _ (.ref l) []) 1) (putName_dict _ _ _ _ [] 0) rfl (by show 1 ≤ 1000; omega) fun h₄ F₄ N₄ => ?_)
    exact wpAny_execs_nil (hQ' _ ⟨h₄, _, _, _, rfl, F₄, N₄⟩)
  · rintro s'' ⟨h₃, tk, ky, kt, rfl, F₃, N₃⟩
    refine ⟨rfl, hQ x dx ky kt 1 h₃ tk fx fdx F₃.ns (News.butL F₃ N₃ g fun p hp => .tail _ (.tail _ hp)) (N₃ _ (.head _)).1 (N₃ _ (.tail _ (.head _))).1⟩
end
theorem map_prD {α : Type} (l : List α) (g : α → P2) (f : α → Dat) (h : ∀ a, f a = prD (g a)) : l.map f = encP (l.map g) := by
  show l.map f = (l.map g).map prD
  rw [List.map_map]; exact List.map_congr_left fun a _ => h a
def maxI (a b : Int) : Int := if b > a then b else a
def stepV (ns : List Int) (ps : List P2) : Int := ns.sum.fmod (maxI 1 ps.length)
def ranks1 (st : Int) (ps : List P2) : List P2 := ps.map fun p => (p.1, (p.2 * (2 * st + 1) + st).fmod 13)
def byPlace (ps : List P2) : List P2 := (List.range ps.length).map fun i => ((ps.getD i (0, 0)).1, (i : Int))
def finP (ps : List P2) : List P2 := if ((ps.map (·.2)).foldl addK []).length = ps.length then ps else byPlace ps
theorem byPlace_len (ps : List P2) : (byPlace ps).length = ps.length := by unfold byPlace; rw [List.length_map, List.length_range]
theorem finP_len (ps : List P2) : (finP ps).length = ps.length := by unfold finP; split; rfl; exact byPlace_len ps
theorem mul_small {a b : Int} (h0 : 0 ≤ a) (h1 : a < 64) : PySem.IntMulOk a b := by
  refine PySem.IntMulOk.of_left ?_
  have : ∀ n : Nat, n < 64 → Builtin.Int.intBits (n : Int) ≤ 64 := by decide
  have e : a = ((a.toNat : Nat) : Int) := by omega
  rw [e]; exact this _ (by omega)

abbrev ρA (ns os : List Int) (ps : List P2) : List (Str × Ent) := [(Str.ofString "order", .dat (intsD os)), (Str.ofString "pairs", .dat (.list (encP ps))), (Str.ofString "script", .dat (intsD ns))]
abbrev ρB (st : Int) (os : List Int) (ps : List P2) : List (Str × Ent) := [(Str.ofString "order", .dat (intsD os)), (Str.ofString "pairs", .dat (.list (encP ps))), (Str.ofString "step", .dat (.int st))]

section
variable {prog : Program} {w : World} {C : Addr} {X : Addr → Prop} {h₀ : Heap} {A : Around} {q : Str} {cd : Value} {L a : Addr}
theorem OK.map {env : Env} {ρ ρ' : List (Str × Ent)} {h : Heap} (ok : OK C X h₀ env ρ h) (hs : ∀ y e', ρ'.lookup y = some e' → ∃ e, ρ.lookup y = some e ∧ ∀ v, Is C X env h v e → Is C X env h v e') : OK C X h₀ env ρ' h := by
  obtain ⟨⟨m, hn, hm⟩, hc, hcs, ha, hl, ho⟩ := ok
  refine ⟨⟨m, hn, fun y e hy hk => ?_⟩, fun y e hy hk => ?_, hcs, ha, hl, ho⟩
  · obtain ⟨e0, h1, h2⟩ := hs y e hy
    obtain ⟨v, h3, h4⟩ := hm y e0 h1 hk
    exact ⟨v, h3, h2 v h4⟩
  · obtain ⟨e0, h1, h2⟩ := hs y e hy
    obtain ⟨c, v, h3, h4, h5⟩ := hc y e0 h1 hk
    exact ⟨c, v, h3, h4, h2 v h5⟩
theorem OK.dats {Lo Lp As : Addr} {ns : List Int} {st : List Int × List P2} {h : Heap} (ok : OK C X h₀ (lawEnv q L a cd) (ρ1 Lo Lp As ns st) h) : OK C X h₀ (lawEnv q L a cd) (ρA ns st.1 st.2) h := by
  refine ok.map fun y e' hy => ?_
  have := mem_of_look hy
  simp only [List.mem_cons, List.not_mem_nil, or_false, Prod.mk.injEq] at this
  rcases this with ⟨rfl, rfl⟩ | ⟨rfl, rfl⟩ | ⟨rfl, rfl⟩
  · exact ⟨_, rfl, fun v hv => hv.2⟩
  · exact ⟨_, rfl, fun v hv => hv.2⟩
  · exact ⟨_, rfl, fun v hv => hv.2⟩

structure Names (h₀ : Heap) : Prop where
  gr : Gr h₀
  len : NameIs h₀ (Str.ofString "len") (.builtin "len")
  sum : NameIs h₀ (Str.ofString "sum") (.builtin "sum")
  max : NameIs h₀ (Str.ofString "max") (.builtin "max")
  min : NameIs h₀ (Str.ofString "min") (.builtin "min")
  dict : NameIs h₀ (Str.ofString "dict") (.type "dict")
  enum : NameIs h₀ (Str.ofString "enumerate") (.type "enumerate")
  sorted : NameIs h₀ (Str.ofString "sorted") (.builtin "sorted")
  range : NameIs h₀ (Str.ofString "range") (.type "range")
  nolimit : h₀.NoLimit

theorem stmt2 (N : Names h₀) {n : Nat} (room : Room A n) {ns os : List Int} {ps : List P2} (hps : ps.length ≤ 7) : ExS prog w C X h₀ A (lawEnv q L a cd) (ρA ns os ps) (lawS 2) (.next ((Str.ofString "step", .dat (.int (stepV ns ps))) :: ρA ns os ps)) := by
  refine exs_assign (ev_bin (a := .int ns.sum) (b := .int (maxI 1 ps.length)) ?_ ?_ (o_mod ?_)) (as_cell rfl rfl rfl) rfl rfl rfl
  · exact ev_callB (ds := [intsD ns]) N.sum rfl rfl rfl rfl rfl (evD_cons (by kd_in) evD_nil rfl) cb_sum (room.le (Nat.zero_le _)) rfl rfl rfl
  · refine ev_callB (ds := [.int 1, .int (ps.length : Int)]) N.max rfl rfl rfl rfl rfl (evD_cons (by kd_in) (evD_cons ?_ evD_nil rfl) rfl) cb_max (room.le (Nat.zero_le _)) rfl rfl rfl
    have := cb_len (prog := prog) (w := w) (h₀ := h₀) (ds := encP ps) (by rw [List.length_map]; omega)
    rw [List.length_map] at this
    exact ev_callB (ds := [.list (encP ps)]) N.len rfl rfl rfl rfl rfl (evD_cons (by kd_in) evD_nil rfl) this (room.le (Nat.zero_le _)) rfl rfl rfl
  · unfold maxI; split <;> omega

theorem stepV_bound (ns : List Int) {ps : List P2} (hps : ps.length ≤ 7) : 0 ≤ stepV ns ps ∧ stepV ns ps < 7 := by
  unfold stepV
  have h : 0 < maxI 1 ps.length ∧ maxI 1 ps.length ≤ 7 := by unfold maxI; split <;> omega
  have h1 := Int.fmod_nonneg_of_pos ns.sum h.1
  have h2 := Int.fmod_lt_of_pos ns.sum h.1
  omega

theorem stmt3 (N : Names h₀) {n : Nat} (room : Room A n) {ns os : List Int} {ps : List P2} {st : Int} (h0 : 0 ≤ st) (h7 : st < 7) (hps : ps.length ≤ 7) (hr : ∀ p ∈ ps, 0 ≤ p.2 ∧ p.2 < 7) :
    ExS prog w C X h₀ A (lawEnv q L a cd) ((Str.ofString "step", .dat (.int st)) :: ρA ns os ps) (lawS 3) (.next ((Str.ofString "pairs", .dat (.list (encP (ranks1 st ps)))) :: (Str.ofString "step", .dat (.int st)) :: ρA ns os ps)) := by
  refine exs_assign_comp (ds := encP ps) (p := fun _ => true) (f := fun d => prD (d0 d, (d1 d * (2 * st + 1) + st).fmod 13)) (ρc := [(Str.ofString "step", .dat (.int st))]) room.hh rfl (blk1 rfl rfl rfl rfl rfl rfl (.inl rfl) rfl) (by rw [List.length_map, sizeLine_eq]; omega) (by kd_in) (fun X' Cc d hd => ?_) ?_ (fun _ => rfl) rfl rfl rfl
  · obtain ⟨p, hp, rfl⟩ := List.mem_map.mp hd
    have hp' := hr p hp
    refine turn_all (as1_tuple (ds := [.int p.1, .int p.2]) room.hh (as1L_cons (as1_local rfl rfl) (as1L_cons (as1_local rfl rfl) as1L_nil rfl) rfl) rfl rfl) (fun y e hy => look_more (look_more hy rfl) rfl) ?_
    refine ev_tuple (ds := [.int p.1, .int ((p.2 * (2 * st + 1) + st).fmod 13)]) (evD_cons (by kd_in) (evD_cons ?_ evD_nil rfl) rfl) small2
    refine ev_bin (a := .int (p.2 * (2 * st + 1) + st)) (b := .int 13) ?_ (by kd_in) (o_mod (by decide))
    refine ev_bin (a := .int (p.2 * (2 * st + 1))) (b := .int st) ?_ (by kd_in) o_add
    refine ev_bin (a := .int p.2) (b := .int (2 * st + 1)) (by kd_in) ?_ (o_mul (mul_small hp'.1 (by omega)))
    refine ev_bin (a := .int (2 * st)) (b := .int 1) ?_ (by kd_in) o_add
    exact ev_bin (a := .int 2) (b := .int st) (by kd_in) (by kd_in) (o_mul (mul_small (by decide) (by decide)))
  · rw [List.filter_eq_self.mpr (fun _ _ => rfl), List.map_map]; exact map_prD ps _ _ fun p => rfl

theorem exb_pre {env : Env} {ρ ρ₂ : List (Str × Ent)} {st : List Stmt} {o : Outc} (h : ExB prog w C X h₀ A env ρ₂ st o) (hs : Sub ρ₂ ρ) : ExB prog w C X h₀ A env ρ st o := fun s Q E g ok hQ => h s Q E g (ok.sub hs) hQ
theorem exs_sub {env : Env} {ρ ρ' ρ₂ : List (Str × Ent)} {st : Stmt} (h : ExS prog w C X h₀ A env ρ st (.next ρ')) (hs : Sub ρ₂ ρ') : ExS prog w C X h₀ A env ρ st (.next ρ₂) := fun s Q E g ok hQ => h s Q E g ok fun f h' tk' k q => by
  obtain ⟨rfl, ok'⟩ := q
  exact hQ .next h' tk' k ⟨rfl, ok'.sub hs⟩
theorem addK_decide (ps : List P2) : ((((ps.map (·.2)).foldl addK []).length : Int) != (ps.length : Int)) = !decide (((ps.map (·.2)).foldl addK []).length = ps.length) := by
  by_cases h : ((ps.map (·.2)).foldl addK []).length = ps.length
  · simp [h]
  · have : ¬ ((((ps.map (·.2)).foldl addK []).length : Int) = (ps.length : Int)) := by omega
    simp [h, this]
theorem stmt4 (N : Names h₀) {n : Nat} (room : Room A n) {ns os : List Int} {ps ps0 : List P2} {st : Int} (hps : ps.length ≤ 7) :
    ExS prog w C X h₀ A (lawEnv q L a cd) ((Str.ofString "pairs", .dat (.list (encP ps))) :: (Str.ofString "step", .dat (.int st)) :: ρA ns os ps0) (lawS 4) (.next (ρB st os (finP ps))) := by
  have hz : (encP ps).length ≤ sizeLine := by rw [List.length_map, sizeLine_eq]; omega
  have hlen : ∀ {X A} {p1 p2 p3}, Room A 0 → Ev prog w C X h₀ A (lawEnv q L a cd) ((Str.ofString "pairs", .dat (.list (encP ps))) :: (Str.ofString "step", .dat (.int st)) :: ρA ns os ps0) (.Call (.Name (Str.ofString "len") p1) [.Name (Str.ofString "pairs") p2] [] p3) (.dat (.int ps.length)) := fun {X A p1 p2 p3} r => by
    have := cb_len (prog := prog) (w := w) (h₀ := h₀) (ds := encP ps) (by rw [List.length_map]; omega)
    rw [List.length_map] at this
    exact ev_callB (ds := [.list (encP ps)]) N.len rfl rfl rfl rfl rfl (evD_cons (by kd_in) evD_nil rfl) this r rfl rfl rfl
  have htest : Tr prog w C X h₀ A (lawEnv q L a cd) ((Str.ofString "pairs", .dat (.list (encP ps))) :: (Str.ofString "step", .dat (.int st)) :: ρA ns os ps0) (match lawS 4 with | .If t _ _ _ => t | _ => default) (!decide (((ps.map (·.2)).foldl addK []).length = ps.length)) := by
    rw [← addK_decide]
    refine tr_cmp (a := .int ((ps.map (·.2)).foldl addK []).length) (b := .int ps.length) (ev_lendict N.nolimit N.len N.dict (room.le (Nat.zero_le _)) rfl rfl rfl rfl rfl ?_ (by rw [List.length_map]; omega) rfl rfl rfl rfl rfl rfl) (hlen (room.le (Nat.zero_le _))) o_neI rfl
    refine ev_comp (ds := encP ps) (p := fun _ => true) (f := fun d => onePair (d1 d)) (ρc := []) room.hh rfl (blk0 rfl rfl rfl rfl) hz (by kd_in) (fun X' Cc d hd => ?_) ?_ (fun _ => rfl)
    · obtain ⟨p, hp, rfl⟩ := List.mem_map.mp hd
      refine turn_all (as1_tuple (ds := [.int p.1, .int p.2]) room.hh (as1L_cons (as1_local rfl rfl) (as1L_cons (as1_local rfl rfl) as1L_nil rfl) rfl) rfl rfl) (fun y e hy => by simp at hy) ?_
      exact ev_tuple (ds := [.int p.2, .int 1]) (by kd_all) small2
    · rw [List.filter_eq_self.mpr (fun _ _ => rfl), List.map_map, List.map_map]; rfl
  by_cases hd : ((ps.map (·.2)).foldl addK []).length = ps.length
  · rw [decide_eq_true hd] at htest
    have e : finP ps = ps := if_pos hd
    rw [e]
    refine exs_sub (exs_if (b := false) htest (fun h => by cases h) (fun _ => exb_nil)) (sub_cons rfl (sub_cons rfl (sub_cons rfl sub_nil)))
  · rw [decide_eq_false hd] at htest
    have e : finP ps = byPlace ps := if_neg hd
    rw [e]
    refine exs_if (b := true) htest (fun _ => exb_next (exs_sub (ρ' := (Str.ofString "pairs", .dat (.list (encP (byPlace ps)))) :: (Str.ofString "pairs", .dat (.list (encP ps))) :: (Str.ofString "step", .dat (.int st)) :: ρA ns os ps0) ?_ (sub_cons rfl (sub_cons rfl (sub_cons rfl sub_nil)))) exb_nil) (fun h => by cases h)
    refine exs_assign_compS (n := (encP ps).length) (D := fun i => .tuple [.int i, (encP ps).getD i .none]) (p := fun _ => true) (f := fun i => prD ((ps.getD i (0, 0)).1, (i : Int))) (ρc := []) (blk0 rfl rfl rfl rfl) hz (src_enum room.hh (by kd_in) N.enum rfl rfl rfl rfl rfl rfl rfl) (fun X' Cc i hi => ?_) ?_ (fun _ => rfl) rfl rfl rfl
    · have hi' : i < ps.length := by rw [List.length_map] at hi; exact hi
      have e1 : (encP ps).getD i .none = prD (ps.getD i (0, 0)) := by
        rw [List.getD_eq_getElem?_getD, List.getD_eq_getElem?_getD, List.getElem?_map, List.getElem?_eq_getElem hi']; rfl
      rw [e1]
      refine turn_all (as1_tuple (ds := [.int i, prD (ps.getD i (0, 0))]) room.hh (as1L_cons (as1_local rfl rfl) (as1L_cons (as1_tuple (ds := [.int (ps.getD i (0, 0)).1, .int (ps.getD i (0, 0)).2]) room.hh (as1L_cons (as1_local rfl rfl) (as1L_cons (as1_local rfl rfl) as1L_nil rfl) rfl) rfl rfl) as1L_nil rfl) rfl) rfl rfl) (fun y e hy => by simp at hy) ?_
      exact ev_tuple (ds := [.int (ps.getD i (0, 0)).1, .int i]) (by kd_all) small2
    · unfold compRes
      rw [List.filter_eq_self.mpr (fun _ _ => rfl), List.length_map]
      exact map_prD _ _ _ fun i => rfl
end
abbrev ρC (st : Int) (os : List Int) (ps : List P2) (t : T) : List (Str × Ent) := (Str.ofString "told", .told) :: (Str.ofString "due", .dat (enc t)) :: ρB st os ps
section
variable {prog : Program} {w : World} {C fI : Addr} {h₀ : Heap} {A : Around} {K : Frag} {q : Str} {cd : Value} {L a : Addr}
theorem OK.renew {env : Env} {ρ ρ' : List (Str × Ent)} {h h' : Heap} {m' : Str → Option Value} (ok : OK C No h₀ env ρ h) (kb : ButL env h h') (hn : h'.Ns env.locals m')
    (hm : ∀ y e, ρ'.lookup y = some e → env.kindOf y = some .local → ∃ v, m' y = some v ∧ Is C No env h' v e) (hc : ∀ y e, ρ'.lookup y = some e → (env.kindOf y = some .cell ∨ env.kindOf y = some .free) → ρ.lookup y = some e) : OK C No h₀ env ρ' h' := by
  refine ⟨⟨m', hn, hm⟩, fun y e hy hk => ?_, fun p hp => ?_, ok.apart, ok.low, fun b hb => hb.elim⟩
  · obtain ⟨c, v, h1, ⟨o, h2, h3⟩, h4⟩ := ok.cl y e (hc y e hy hk) hk
    exact ⟨c, v, h1, ⟨o, kb _ _ (ok.nsNotCell _ (mem_of_look h1)) h2, h3⟩, h4.pres ok kb.pres⟩
  · obtain ⟨v, o, h1, h2⟩ := ok.cells p hp
    exact ⟨v, o, kb _ _ (ok.nsNotCell p hp) h1, h2⟩

theorem stmt5 (N : Names h₀) (mc : MakesC K h₀ C fI) (nC : NameIs h₀ (Str.ofString "TupleComp") (.ref C)) {aD : Addr} (SD : Stands h₀ 7 (Str.ofString "_law_due") dueNames aD) (room : Room A 12) (hL : h₀.objs.size ≤ L) {st : Int} {os : List Int} {ps : List P2} (hps : ps.length ≤ 7) :
    ExS prog w C No h₀ A (lawEnv q L a cd) (ρB st os ps) (lawS 5) (.next (ρC st os ps (dueF 7 ps))) := by
  intro s Q E g ok hQ
  obtain ⟨m, hn, hm⟩ := ok.ns
  obtain ⟨oD, fdD, hoD, hdatD⟩ := SD.at
  refine wp_pairAssign (x := Str.ofString "told") (y := Str.ofString "due") room.hh rfl rfl rfl (by decide) ?_ rfl rfl
  refine args_cons (Call_ (name_top nC rfl rfl rfl rfl rfl g ?_) rfl) rfl
  refine callWith_K mc.here mc.keep (args_cons (ev_list (C := C) (ρ := ρB st os ps) (ds := [.tuple [.int 1, .int 1]]) (evL_cons (ev_tuple (ds := [.int 1, .int 1]) (by kd_all) small2) evL_nil rfl) small1 s _ E g ok fun v h₁ t₁ k₁ i₁ => args_nil ⟨mc.here.keeps (g.trans k₁), ?_⟩) rfl) rfl
  have g₁ := g.trans k₁
  have ok₁ := ok.ext k₁
  cases i₁ with
  | lst nx el va =>
    rename_i l vl cl
    cases va with
    | cons vt vr =>
      cases vr
      cases vt with
      | tup nx2 et va2 =>
        rename_i t vs ct
        cases va2 with | cons x1 r1 => cases r1 with | cons x2 r2 => cases r2; cases x1; cases x2; rename_i u1 u2; exact (
          make_told mc (n := 8) room g₁ hL (hn.at' fun o e => k₁ _ _ e) fun x dx ky kt n' h₂ tk fx fdx hn₂ kb ex edx => by
            have kb' : ButL (lawEnv q L a cd) h₁ h₂ := kb
            have g₂ : Ext h₀ h₂ := fun b o e => kb' b o (ok.low b o e).1 (g₁ b o e)
            have ok₂ : OK C No h₀ (lawEnv q L a cd) (ρB st os ps) h₂ := by
              refine ok₁.renew kb' hn₂ (fun y e hy hl => ?_) fun y e hy _ => hy
              obtain ⟨v, h1, h2⟩ := hm y e hy hl
              exact ⟨v, h1, (h2.ext k₁).pres ok₁ kb'.pres⟩
            refine args_cons (ev_call (C := C) (ρ := ρB st os ps) SD.name hoD hdatD rfl rfl rfl rfl rfl (evL_cons (by kd_in) evL_nil rfl) (due_ok N.gr N.min SD 7 ps hps (by decide)) (room.le (by decide)) rfl rfl _ _ _ g₂ ok₂ fun v₃ h₃ t₃ k₃ i₃ => ?_) rfl
            refine args_nil ⟨_, _, m, rfl, hn₂.at' fun o e => k₃ _ _ e, fun h' tk' k' hn' => ?_⟩
            have k'' : ButL (lawEnv q L a cd) h₃ h' := k'
            have all : ButL (lawEnv q L a cd) s.heap h' := fun b o hb e => k'' b o hb (k₃ _ _ (kb' b o hb (k₁ _ _ e)))
            have ne : ∀ b, h₁.get? b = none → Safe (lawEnv q L a cd) b := fun b hb => by
              refine ⟨fun z => ?_, fun p hp z => ?_⟩
              · obtain ⟨o', _, _, q1, _⟩ := hn
                rw [z, k₁ _ _ q1] at hb; cases hb
              · obtain ⟨v, o', q1, _⟩ := ok₁.cells p hp
                rw [z, q1] at hb; cases hb
            have sx := ne x fx
            have sdx := ne dx fdx
            have sl := ok₁.seqSafe el ⟨_, _, rfl⟩
            have stt := ok₁.seqSafe et ⟨_, _, rfl⟩
            have ok₃ := ok₂.ext k₃
            refine hQ .next h' tk' all.pres ⟨rfl, ok₃.renew k'' hn' (fun y e hy hl => ?_) fun y e hy hk => ?_⟩
            · have := mem_of_look hy
              simp only [List.mem_cons, List.not_mem_nil, or_false, Prod.mk.injEq] at this
              rcases this with ⟨rfl, rfl⟩ | ⟨rfl, rfl⟩ | ⟨rfl, rfl⟩ | ⟨rfl, rfl⟩ | ⟨rfl, rfl⟩
              · refine ⟨_, rfl, x, rfl, dx, l, t, ky, kt, n', cl, ct, u1, u2, ?_, ?_, ?_, ?_, ⟨sx, fun z => z⟩, ⟨sdx, fun z => z⟩, ⟨sl, fun z => z⟩, ⟨stt, fun z => z⟩⟩
                · exact k'' _ _ sx.1 (k₃ _ _ ex)
                · exact k'' _ _ sdx.1 (k₃ _ _ edx)
                · exact k'' _ _ sl.1 (k₃ _ _ (kb' _ _ sl.1 el))
                · exact k'' _ _ stt.1 (k₃ _ _ (kb' _ _ stt.1 et))
              · exact ⟨_, rfl, Is.pres (e := .dat (enc (dueF 7 ps))) ok₃ i₃ k''.pres⟩
              · obtain ⟨v, h1, h2⟩ := hm (Str.ofString "order") _ rfl rfl
                exact ⟨v, h1, ((((h2.ext k₁).pres ok₁ kb'.pres).ext k₃).pres ok₃ k''.pres)⟩
              · obtain ⟨v, h1, h2⟩ := hm (Str.ofString "pairs") _ rfl rfl
                exact ⟨v, h1, ((((h2.ext k₁).pres ok₁ kb'.pres).ext k₃).pres ok₃ k''.pres)⟩
              · cases hl
            · have := mem_of_look hy
              simp only [List.mem_cons, List.not_mem_nil, or_false, Prod.mk.injEq] at this
              rcases this with ⟨rfl, rfl⟩ | ⟨rfl, rfl⟩ | ⟨rfl, rfl⟩ | ⟨rfl, rfl⟩ | ⟨rfl, rfl⟩
              · exact absurd hk (loc_not rfl)
              · exact absurd hk (loc_not rfl)
              · exact absurd hk (loc_not rfl)
              · exact absurd hk (loc_not rfl)
              · rfl)
end
def foldT (ps : List P2) : T := ps.foldl (fun t p => putT t p.1 p.2) .nil
def rowsP : T → List P2 → List (P2 × List P2)
  | .nil, _ => []
  | .node k r l m, ab => rowsP l (ab ++ [(k, r)]) ++ [((k, r), ab)] ++ rowsP m (ab ++ [(k, r)])
def rowD (x : P2 × List P2) : Dat := .tuple [prD x.1, .list (encP x.2)]
theorem rowsD_eq : ∀ (t : T) (ab : List P2), rowsD t (encP ab) = (rowsP t ab).map rowD
  | .nil, ab => rfl
  | .node k r l m, ab => by
    have e : encP ab ++ [pr k r] = encP (ab ++ [(k, r)]) := by rw [show encP (ab ++ [(k, r)]) = (ab ++ [(k, r)]).map prD from rfl, List.map_append]; rfl
    rw [rowsD, rowsP, e, rowsD_eq l, rowsD_eq m, List.map_append, List.map_append]; rfl
theorem kq_enc : ∀ (t : T) (n : Nat), t.size + 2 ≤ n → kqdOk n (enc t) = true
  | .nil, n, _ => by cases n <;> rfl
  | .node k r l m, 0, h => by omega
  | .node k r l m, n + 1, h => by
    simp only [T.size] at h
    have h1 := kq_enc l n (by omega)
    have h2 := kq_enc m n (by omega)
    have h3 : kqdOk n (pr k r) = true := by
      cases n with
      | zero => omega
      | succ n => cases n <;> rfl
    rw [enc, kqdOk]
    simp [h1, h2, h3]
theorem rotR_size (k0 r0 : Int) (l m : T) : (rotR k0 r0 l m).size = l.size + m.size + 1 := by
  unfold rotR
  cases l with
  | nil => rfl
  | node => dsimp only; split <;> simp only [T.size] <;> omega
theorem rotL_size (k0 r0 : Int) (l m : T) : (rotL k0 r0 l m).size = l.size + m.size + 1 := by
  unfold rotL
  cases m with
  | nil => rfl
  | node => dsimp only; split <;> simp only [T.size] <;> omega
theorem putT_size : ∀ (t : T) (k r : Int), (putT t k r).size = t.size + 1
  | .nil, k, r => rfl
  | .node k0 r0 l m, k, r => by
    rw [putT]
    split
    · rw [rotR_size, putT_size l]; simp only [T.size]; omega
    · rw [rotL_size, putT_size m]; simp only [T.size]; omega
theorem foldT_snoc (ps : List P2) (p : P2) : foldT (ps ++ [p]) = putT (foldT ps) p.1 p.2 := by unfold foldT; rw [List.foldl_append]; rfl
theorem foldT_size : ∀ (ps : List P2), (foldT ps).size = ps.length := by
  intro ps
  have : ∀ (ps : List P2) (t : T), (ps.foldl (fun t p => putT t p.1 p.2) t).size = t.size + ps.length := by
    intro ps
    induction ps with
    | nil => intro t; rfl
    | cons p ps ih => intro t; rw [List.foldl_cons, ih, putT_size, List.length_cons]; omega
  have := this ps .nil
  simpa [T.size, foldT] using this

section
variable {prog : Program} {w : World} {C fI fC : Addr} {X : Addr → Prop} {h₀ : Heap} {A : Around} {K : Frag} {q : Str} {cd : Value} {L a : Addr}
abbrev waysP (k : Nat) (ps : List P2) : List (List P2) := [ps, ps.reverse, sortP ps, ps.drop k ++ ps.take k]
theorem stmt6 (N : Names h₀) (cc : ClsC K h₀ C fC) (SM : StandsM h₀ cmpNames fC cmpStmt) {aP : Addr} (SP : Stands h₀ 6 (Str.ofString "_law_put") putNames aP) (room : Room A 12) {k : Nat} {os : List Int} {ps : List P2} {t : T} (hps : ps.length ≤ 7) (hk : k ≤ 7) (hw : ∀ wy ∈ waysP k ps, foldT wy = t ∧ wy.length ≤ 7) (ht : t.size ≤ 7) :
    ExS prog w C X h₀ A (lawEnv q L a cd) (ρC k os ps t) (lawS 6) (.next (ρC k os ps t)) := by
  have hz : (encP ps).length ≤ sizeLine := by rw [List.length_map, sizeLine_eq]; omega
  obtain ⟨oP, fdP, hoP, hdatP⟩ := SP.at
  have eT : (encP ps).take k = encP (ps.take k) := List.map_take.symm
  have eD : (encP ps).drop k = encP (ps.drop k) := List.map_drop.symm
  have eR : (encP ps).reverse = encP ps.reverse := List.map_reverse.symm
  have eA : encP (ps.drop k) ++ encP (ps.take k) = encP (ps.drop k ++ ps.take k) := List.map_append.symm
  refine exs_for (ds := (waysP k ps).map fun wy => .list (encP wy)) (ρs := fun _ => ρC k os ps t) room.hh rfl (ev_list (ds := [.list (encP ps), .list (encP ps.reverse), .list (encP (sortP ps)), .list (encP (ps.drop k ++ ps.take k))]) (evD_cons (by kd_in) (evD_cons ?_ (evD_cons ?_ (evD_cons ?_ evD_nil rfl) rfl) rfl) rfl) (small (n := 4) rfl (by decide))) (fun i d hd => ?_) (fun _ => rfl)
  · exact ev_slice (ds := encP ps) (by kd_in) .none .none (.some (ev_neg ev_int)) (by decide) ((pick_rev _).trans eR) hz (fun _ _ => rfl)
  · exact ev_callB (ds := [.list (encP ps)]) N.sorted rfl rfl rfl rfl rfl (evD_cons (by kd_in) evD_nil rfl) (cb_sortedP N.gr (by omega)) (room.le (Nat.zero_le _)) rfl rfl rfl
  · rw [← eA]
    refine ev_bin (ev_slice (ds := encP ps) (by kd_in) (.some (by kd_in)) .none .none (by simp) ((pick_from _ k).trans eD) hz (fun _ _ => rfl)) (ev_slice (ds := encP ps) (by kd_in) .none (.some (by kd_in)) .none (by simp) ((pick_upto _ k).trans eT) hz (fun _ _ => rfl)) (o_addL N.gr (by rw [List.length_map, List.length_map, List.length_drop, List.length_take, sizeLine_eq]; omega))
  · obtain ⟨wy, hwy, rfl⟩ := List.mem_map.mp (List.mem_of_getElem? hd)
    obtain ⟨hT, hlw⟩ := hw wy hwy
    refine ⟨_, as_local rfl rfl, exb_sub (ρ' := (Str.ofString "tree", .dat (enc t)) :: (Str.ofString "way", .dat (.list (encP wy))) :: ρC k os ps t) ?_ (sub_cons rfl (sub_cons rfl (sub_cons rfl (sub_cons rfl (sub_cons rfl sub_nil)))))⟩
    refine exb_next (exs_assign ev_none (as_local rfl rfl) rfl rfl rfl) ?_
    have hfor := exs_for (prog := prog) (w := w) (C := C) (X := X) (h₀ := h₀) (A := A) (env := lawEnv q L a cd) (t := .Name (Str.ofString "pair") ⟨92, 12, 92, 16⟩) (x := .Name (Str.ofString "way") ⟨92, 20, 92, 23⟩) (pos := ⟨92, 8, 93, 45⟩) (ds := encP wy) (ρs := fun i => (Str.ofString "tree", .dat (enc (foldT (wy.take i)))) :: (Str.ofString "way", .dat (.list (encP wy))) :: ρC k os ps t)
      (body := match lawS 6 with | .For _ _ b _ _ => (match b[1]?.getD (.Pass default) with | .For _ _ b2 _ _ => b2 | _ => []) | _ => []) room.hh rfl (by kd_in) (fun i d hd => ?_) (fun _ => rfl)
    · rw [List.length_map, List.take_of_length_le (Nat.le_refl _), hT] at hfor
      refine exb_next hfor ?_
      refine exb_next (exs_if (b := false) (tr_cmp (a := enc t) (b := enc t) (by kd_in) (by kd_in) (o_ne (b := true) (kq_enc t 40 (by omega)) (kq_enc t 40 (by omega)) room.eq (by simp)) rfl) (fun h => by cases h) (fun _ => exb_nil)) exb_nil
    · rw [List.getElem?_map] at hd
      obtain ⟨p, hp, rfl⟩ := Option.map_eq_some_iff.mp hd
      have hlt : i < wy.length := (List.getElem?_eq_some_iff.mp hp).1
      have e1 : foldT (wy.take (i + 1)) = putT (foldT (wy.take i)) p.1 p.2 := by rw [List.take_add_one, hp]; exact foldT_snoc _ _
      refine ⟨_, as_cell rfl rfl rfl, ?_⟩
      rw [e1]
      refine exb_sub (ρ' := (Str.ofString "tree", .dat (enc (putT (foldT (wy.take i)) p.1 p.2))) :: (Str.ofString "pair", .dat (prD p)) :: (Str.ofString "tree", .dat (enc (foldT (wy.take i)))) :: (Str.ofString "way", .dat (.list (encP wy))) :: ρC k os ps t) (exb_next (exs_assign (ev_call SP.name hoP hdatP rfl rfl rfl rfl rfl (evL_cons (by kd_in) (evL_cons (by kd_in) (evL_cons (by kd_in) evL_nil rfl) rfl) rfl) (put_ok cc SM SP (foldT (wy.take i)) p.1 p.2 12 (by rw [foldT_size, List.length_take]; omega)) room rfl rfl) (as_local rfl rfl) rfl rfl rfl) exb_nil) (sub_cons rfl (sub_cons rfl (sub_cons rfl (sub_cons rfl (sub_cons rfl (sub_cons rfl (sub_cons rfl sub_nil)))))))
end
/-- what the plain law gives -/
structure PF (k : Nat) (os : List Int) (ps : List P2) (t : T) : Prop where
  len : ps.length ≤ 7
  klen : k ≤ 7
  size : t.size ≤ 7
  due : dueF 7 ps = t
  ways : ∀ wy ∈ waysP k ps, foldT wy = t ∧ wy.length ≤ 7
  keys : (rowsP t []).map (·.1.1) = os
  sorted : os.Pairwise (· < ·)
  cond : ∀ x ∈ rowsP t [], ∀ y ∈ rowsP t [], x.1 ≠ y.1 → (y.1 ∈ x.2 ↔ y.1.2 = minI ((((rowsP t []).drop (min (posI os x.1.1) (posI os y.1.1))).take (max (posI os x.1.1) (posI os y.1.1) + 1 - min (posI os x.1.1) (posI os y.1.1))).map (·.1.2)))
  idx : ∀ x ∈ rowsP t [], posI os x.1.1 < (rowsP t []).length
  incr : ∀ x ∈ rowsP t [], ∀ i, i + 1 < x.2.length → (x.2.getD i (0, 0)).2 < (x.2.getD (i + 1) (0, 0)).2
  found : ∀ x ∈ rowsP t [], Found t x.1.1
  out : ∀ x ∈ rowsP t [], outT t x.1.1 = dueF 7 (ps.filter fun p => !decide (p = x.1))
  above : ∀ x ∈ rowsP t [], x.2.length ≤ 7
  outsize : ∀ x ∈ rowsP t [], (outT t x.1.1).size ≤ 7
theorem rowsP_len : ∀ (t : T) (ab : List P2), (rowsP t ab).length = t.size
  | .nil, _ => rfl
  | .node k r l m, ab => by simp only [rowsP, List.length_append, rowsP_len l, rowsP_len m, List.length_cons, List.length_nil, T.size]; omega
theorem prD_inj {p o : P2} (h : prD p = prD o) : p = o := by
  obtain ⟨a, b⟩ := p; obtain ⟨c, d⟩ := o
  have h' : Dat.tuple [.int a, .int b] = Dat.tuple [.int c, .int d] := h
  simp only [Dat.tuple.injEq, List.cons.injEq, Dat.int.injEq, and_true] at h'
  rw [h'.1, h'.2]
theorem prD_mem {p : P2} {l : List P2} : prD p ∈ encP l ↔ p ∈ l := by
  constructor
  · intro h
    obtain ⟨o, h1, h2⟩ := List.mem_map.mp h
    rw [← prD_inj h2]; exact h1
  · exact fun h => List.mem_map_of_mem h

open Classical in
theorem o_inB {prog : Program} {w : World} {X : Addr → Prop} {h₀ : Heap} {A : Around} {d : Dat} {ds : List Dat} {b : Bool} (hds : ∀ e ∈ ds, kqdOk 8 e = true) (hd : kqdOk 8 d = true) (hu : A.units + 64 < cLine) (hb : b = true ↔ d ∈ ds) : Op2 prog w X h₀ A (compareOp .In) d (.list ds) (.bool b) := by
  have := o_in (prog := prog) (w := w) (X := X) (h₀ := h₀) (A := A) hds hd hu
  have e : decide (d ∈ ds) = b := Bool.eq_iff_iff.mpr (by rw [decide_eq_true_iff]; exact hb.symm)
  rw [e] at this; exact this
section
variable {prog : Program} {w : World} {C fI fC : Addr} {X : Addr → Prop} {h₀ : Heap} {A : Around} {K : Frag} {q : Str} {cd : Value} {L a : Addr}
abbrev rowsT (t : T) : Dat := .list ((rowsP t []).map rowD)
abbrev ρR (k : Nat) (os : List Int) (ps : List P2) (t : T) : List (Str × Ent) := (Str.ofString "rows", .dat (rowsT t)) :: ρC k os ps t
theorem stmt7 (N : Names h₀) {aR : Addr} (SR : Stands h₀ 10 (Str.ofString "_law_rows") rowsNames aR) (room : Room A 12) {k : Nat} {os : List Int} {ps : List P2} {t : T} (P : PF k os ps t) : ExS prog w C X h₀ A (lawEnv q L a cd) (ρC k os ps t) (lawS 7) (.next (ρR k os ps t)) := by
  obtain ⟨oR, fdR, hoR, hdatR⟩ := SR.at
  have h := P.size
  have hr := rows_ok (prog := prog) (w := w) (C := C) N.gr SR t (encP []) 12 (by omega) (by rw [sizeLine_eq]; simp; omega)
  rw [rowsD_eq] at hr
  refine exs_assign (ev_call SR.name hoR hdatR rfl rfl rfl rfl rfl (evL_cons (by kd_in) (evL_cons (ev_list (ds := []) evL_nil (Nat.zero_le _)) evL_nil rfl) rfl) hr room rfl rfl) (as_local rfl rfl) rfl rfl rfl
theorem kq_ints (n : Nat) (ns : List Int) : kqdOk (n + 1) (intsD ns) = true := by
  rw [intsD, kqdOk]
  refine List.all_eq_true.mpr fun d hd => ?_
  obtain ⟨i, _, rfl⟩ := List.mem_map.mp hd
  cases n <;> rfl
theorem stmt8 (N : Names h₀) (room : Room A 12) {k : Nat} {os : List Int} {ps : List P2} {t : T} (P : PF k os ps t) : ExS prog w C X h₀ A (lawEnv q L a cd) (ρR k os ps t) (lawS 8) (.next (ρR k os ps t)) := by
  have hs := P.size
  have hz : ((rowsP t []).map rowD).length ≤ sizeLine := by rw [List.length_map, rowsP_len, sizeLine_eq]; omega
  refine exs_if (b := false) (tr_cmp (a := intsD os) (b := intsD os) ?_ (by kd_in) (o_ne (b := true) (kq_ints 39 os) (kq_ints 39 os) room.eq (by simp)) rfl) (fun h => by cases h) (fun _ => exb_nil)
  refine ev_comp (ds := (rowsP t []).map rowD) (p := fun _ => true) (f := fun d => match d with | .tuple (.tuple (a :: _) :: _) => a | _ => .none) (ρc := []) room.hh rfl (blk0 rfl rfl rfl rfl) hz (by kd_in) (fun X' Cc d hd => ?_) ?_ (fun _ => rfl)
  · obtain ⟨x, hx, rfl⟩ := List.mem_map.mp hd
    exact turn_all (as1_tuple (ds := [prD x.1, .list (encP x.2)]) room.hh (as1L_cons (as1_local rfl rfl) (as1L_cons (as1_local rfl rfl) as1L_nil rfl) rfl) rfl rfl) (fun y e hy => by simp at hy) (by kd_in)
  · rw [List.filter_eq_self.mpr (fun _ _ => rfl), List.map_map, ← P.keys, List.map_map]; rfl

abbrev ρE (k : Nat) (os : List Int) (ps : List P2) (t : T) (x : P2 × List P2) : List (Str × Ent) := (Str.ofString "above", .dat (.list (encP x.2))) :: (Str.ofString "pair", .dat (prD x.1)) :: ρR k os ps t
/-- the places of two keys, least first -/
theorem inner {aB : Addr} (N : Names h₀) (SB : StandsD h₀ 2 (Str.ofString "bisect_left") bisNames bisDd aB [2, 4]) (room : Room A 12) {k : Nat} {os : List Int} {ps : List P2} {t : T} (P : PF k os ps t) {x y : P2 × List P2} (hx : x ∈ rowsP t []) (hy : y ∈ rowsP t []) {body : List Stmt} (hbody : ∃ t1 e1 p1 o1 b1 t2 e2 p2 o2, lawS 9 = .For t1 e1 b1 o1 p1 ∧ b1[0]?.getD (.Pass default) = .For t2 e2 body o2 p2) :
    ExB prog w C X h₀ A (lawEnv q L a cd) ((Str.ofString "rest", .dat (.list (encP y.2))) :: (Str.ofString "other", .dat (prD y.1)) :: ρE k os ps t x) body (.next (ρE k os ps t x)) := by
  obtain ⟨t1, e1, p1, o1, b1, t2, e2, p2, o2, hb1, hb2⟩ := hbody
  cases hb1
  cases hb2
  obtain ⟨oB, fdB, hoB, hdatB⟩ := SB.at
  have hs := P.size
  have hlr := rowsP_len t []
  have hol : os.length = t.size := by rw [← P.keys, List.length_map, hlr]
  have hix := P.idx x hx
  have hiy := P.idx y hy
  have bis : ∀ {X : Addr → Prop} {A : Around} {ρ : List (Str × Ent)} {nm : Str} {z : P2} {p1 p2 p3 p4 p5 p6 : Pos} {j : Nat}, Room A 12 → ρ.lookup (Str.ofString "order") = some (.dat (intsD os)) → Ev prog w C X h₀ A (lawEnv q L a cd) ρ (.Name nm p3) (.dat (prD z)) → Ev prog w C X h₀ A (lawEnv q L a cd) ρ (.Call (.Name (Str.ofString "bisect_left") p1) [.Name (Str.ofString "order") p2, .Subscript (.Name nm p3) (.Constant (.int 0) j p4) p5] [] p6) (.dat (.int (posI os z.1))) := fun {X A ρ nm z p1 p2 p3 p4 p5 p6 j} r ho hz =>
    ev_call SB.name hoB hdatB rfl rfl rfl rfl rfl (evL_cons (ev_local ho rfl rfl rfl) (evL_cons (ev_item0 (d := .int z.1) (ds := [.int z.2]) hz) evL_nil rfl) rfl) (bis2_ok N.len SB P.sorted (by omega) 11) r rfl rfl
  have hcond := P.cond x hx y hy
  generalize hpi : posI os x.1.1 = i at hcond hix
  generalize hpj : posI os y.1.1 = j at hcond hiy
  generalize hlo : min i j = lo at hcond
  generalize hhi : max i j = hi at hcond
  have hlohi : lo ≤ hi ∧ hi < (rowsP t []).length := by omega
  have hsort : CallB prog w h₀ (.builtin "sorted") [.list [.int (i : Int), .int (j : Int)]] (.list [.int (lo : Int), .int (hi : Int)]) := cb_sorted2 N.gr (by omega)
  generalize hsl : (((rowsP t []).drop lo).take (hi + 1 - lo)) = sl at hcond
  have hslne : sl.map (fun z => z.1.2) ≠ [] := by
    intro z
    have := congrArg List.length z
    rw [← hsl, List.length_map, List.length_take, List.length_drop] at this
    simp only [List.length_nil] at this
    omega
  have hsllen : sl.length ≤ 7 := by rw [← hsl, List.length_take, List.length_drop]; omega
  refine exb_next (exs_assign (e := .dat (.list [.int (lo : Int), .int (hi : Int)])) (ev_callB (ds := [.list [.int (i : Int), .int (j : Int)]]) N.sorted rfl rfl rfl rfl rfl (evD_cons (ev_list (ds := [.int (i : Int), .int (j : Int)]) (evD_cons ?_ (evD_cons ?_ evD_nil rfl) rfl) small2) evD_nil rfl) hsort (room.le (Nat.zero_le _)) rfl rfl rfl) (as_local rfl rfl) rfl rfl rfl) ?_
  · rw [← hpi]; exact bis room rfl (by kd_in)
  · rw [← hpj]; exact bis room rfl (by kd_in)
  refine exb_next (exs_assign (e := .dat (.int (minI (sl.map fun z => z.1.2)))) (ev_callB (ds := [.list ((sl.map fun z => z.1.2).map .int)]) N.min rfl rfl rfl rfl rfl (evD_cons ?_ evD_nil rfl) (cb_min N.gr (minI_mem _ hslne) (minI_le _)) (room.le (Nat.zero_le _)) rfl rfl rfl) (as_local rfl rfl) rfl rfl rfl) ?_
  · refine ev_comp (ds := sl.map rowD) (p := fun _ => true) (f := fun d => match d with | .tuple (.tuple (_ :: a :: _) :: _) => a | _ => .none) (ρc := []) room.hh rfl (blk0 rfl rfl rfl rfl) (by rw [List.length_map, sizeLine_eq]; omega) ?_ (fun X' Cc d hd => ?_) ?_ (fun _ => rfl)
    · have hpick : pickD ((rowsP t []).map rowD) (some (lo : Int)) (some ((hi : Int) + 1)) none = sl.map rowD := by
        rw [show ((hi : Int) + 1) = ((hi + 1 : Nat) : Int) by omega, pick_mid _ _ _ (by rw [List.length_map]; omega), ← hsl, List.map_take, List.map_drop]
      exact ev_slice (ds := (rowsP t []).map rowD) (by kd_in) (.some (ev_head (d := .int (lo : Int)) (ds := [.int (hi : Int)]) (by kd_in))) (.some (ev_bin (ev_second (d0 := .int (lo : Int)) (d := .int (hi : Int)) (ds := []) (by kd_in)) ev_int o_add)) .none (by simp) hpick (by rw [List.length_map, hlr, sizeLine_eq]; omega) (fun _ _ => rfl)
    · obtain ⟨z, hz, rfl⟩ := List.mem_map.mp hd
      exact turn_all (as1_tuple (ds := [prD z.1, .list (encP z.2)]) room.hh (as1L_cons (as1_local rfl rfl) (as1L_cons (as1_local rfl rfl) as1L_nil rfl) rfl) rfl rfl) (fun y e hy => by simp at hy) (by kd_in)
    · rw [List.filter_eq_self.mpr (fun _ _ => rfl), List.map_map, List.map_map]; rfl
  refine exb_next (ρ' := ρE k os ps t x) (exs_sub (ρ' := (Str.ofString "least", .dat (.int (minI (sl.map fun z => z.1.2)))) :: (Str.ofString "places", .dat (.list [.int (lo : Int), .int (hi : Int)])) :: (Str.ofString "rest", .dat (.list (encP y.2))) :: (Str.ofString "other", .dat (prD y.1)) :: ρE k os ps t x) (exs_if (b := false) (tr_bool ?_) (fun h => by cases h) (fun _ => exb_nil)) (sub_cons rfl (sub_cons rfl (sub_cons rfl (sub_cons rfl (sub_cons rfl (sub_cons rfl (sub_cons rfl (sub_cons rfl sub_nil))))))))) exb_nil
  by_cases hxy : x.1 = y.1
  · exact tr_and_cons (b := false) (c := false) (tr_cmp (a := prD x.1) (b := prD y.1) (by kd_in) (by kd_in) (o_ne (b := true) (kq_pair 39 _) (kq_pair 39 _) room.eq (by rw [hxy]; simp)) rfl) (fun h => by cases h)
  · have hc := hcond hxy
    have hb : (decide (y.1 ∈ x.2) != (y.1.2 == minI (sl.map fun z => z.1.2))) = false := by
      by_cases hin : y.1 ∈ x.2
      · rw [decide_eq_true hin, beq_iff_eq.mpr (hc.mp hin)]; rfl
      · rw [decide_eq_false hin, beq_eq_false_iff_ne.mpr fun z => hin (hc.mpr z)]; rfl
    refine tr_and_cons (b := true) (c := false) (tr_cmp (a := prD x.1) (b := prD y.1) (by kd_in) (by kd_in) (o_ne (b := false) (kq_pair 39 _) (kq_pair 39 _) room.eq (by constructor; (intro z; cases z); (intro z; exact absurd (prD_inj z) hxy))) rfl) (fun _ => ?_)
    refine tr_and_cons (b := false) (c := false) ?_ (fun h => by cases h)
    rw [← hb]
    refine tr_cmp (a := .bool (decide (y.1 ∈ x.2))) (b := .bool (y.1.2 == minI (sl.map fun z => z.1.2))) (ev_cmp (a := prD y.1) (b := .list (encP x.2)) (by kd_in) (by kd_in) ?_ rfl) (ev_cmp (a := .int y.1.2) (b := .int (minI (sl.map fun z => z.1.2))) (by kd_in) (by kd_in) o_eqI rfl) (o_neB room.eq) rfl
    exact o_inB (fun e he => by obtain ⟨z, _, rfl⟩ := List.mem_map.mp he; exact kq_pair 7 z) (kq_pair 7 _) room.eq (by rw [decide_eq_true_iff]; exact prD_mem.symm)
end
section
variable {prog : Program} {w : World} {C fI fC : Addr} {X : Addr → Prop} {h₀ : Heap} {A : Around} {K : Frag} {q : Str} {cd : Value} {L a : Addr}
theorem o_sub' {x y z : Int} (h : x - y = z) : Op2 prog w X h₀ A (binaryOp .Sub) (.int x) (.int y) (.int z) := h ▸ o_sub
theorem if1 (N : Names h₀) (room : Room A 12) {k : Nat} {os : List Int} {ps : List P2} {t : T} (P : PF k os ps t) {x : P2 × List P2} (hx : x ∈ rowsP t []) {st : Stmt} (hst : ∃ t1 e1 p1 o1 b1, lawS 9 = .For t1 e1 b1 o1 p1 ∧ b1[1]?.getD (.Pass default) = st) :
    ExS prog w C X h₀ A (lawEnv q L a cd) (ρE k os ps t x) st (.next (ρE k os ps t x)) := by
  obtain ⟨t1, e1, p1, o1, b1, hb1, hb2⟩ := hst
  cases hb1
  cases hb2
  have hl := P.above x hx
  have hinc := P.incr x hx
  refine exs_if (b := false) (tr_cmp (a := .list []) (b := .list []) ?_ (ev_list (ds := []) evL_nil (Nat.zero_le _)) (o_ne (b := true) rfl rfl room.eq (by simp)) rfl) (fun h => by cases h) (fun _ => exb_nil)
  have hlen := cb_len (prog := prog) (w := w) (h₀ := h₀) (ds := encP x.2) (by rw [List.length_map]; omega)
  rw [List.length_map] at hlen
  refine ev_compS (n := ((x.2.length : Int) - 1).toNat) (D := fun i => .int (1 + (i : Int))) (p := fun i => decide ((x.2.getD (i + 1) (0, 0)).2 ≤ (x.2.getD i (0, 0)).2)) (f := fun i => .int (1 + (i : Int))) (ρc := [(Str.ofString "above", .dat (.list (encP x.2)))]) (blk1 rfl rfl rfl rfl rfl rfl (.inl rfl) rfl) (by rw [sizeLine_eq]; omega)
    (src_range room.hh ev_int (ev_callB (ds := [.list (encP x.2)]) N.len rfl rfl rfl rfl rfl (evD_cons (by kd_in) evD_nil rfl) hlen (room.le (Nat.zero_le _)) rfl rfl rfl) N.range (by decide) (by decide) (by omega) (by omega) rfl rfl rfl rfl rfl rfl rfl rfl) (fun X' Cc i hi => ?_) ?_ (fun _ => rfl)
  · have e2 : (1 + (i : Int)) = ((i + 1 : Nat) : Int) := by omega
    show CTurn _ _ _ _ _ _ _ _ _ _ _ (.int (1 + (i : Int))) _ (.int (1 + (i : Int)))
    rw [e2]
    have i1 : (encP x.2)[i]? = some (prD (x.2.getD i (0, 0))) := by rw [List.getElem?_map, List.getD_eq_getElem?_getD, List.getElem?_eq_getElem (show i < x.2.length by omega)]; rfl
    have i2 : (encP x.2)[i + 1]? = some (prD (x.2.getD (i + 1) (0, 0))) := by rw [List.getElem?_map, List.getD_eq_getElem?_getD, List.getElem?_eq_getElem (show i + 1 < x.2.length by omega)]; rfl
    refine turn_ifs (as1_local rfl rfl) (fun y e hy => look_more hy rfl) (tr_cmp (a := .int (x.2.getD i (0, 0)).2) (b := .int (x.2.getD (i + 1) (0, 0)).2) (ev_item1 (d0 := .int (x.2.getD i (0, 0)).1) (ds := []) (ev_item_list (ds := encP x.2) (k := i) (by kd_in) (ev_bin (a := .int ((i + 1 : Nat) : Int)) (b := .int 1) (by kd_in) (by kd_in) (o_sub' (by omega))) i1 (by omega) (fun _ _ => rfl))) (ev_item1 (d0 := .int (x.2.getD (i + 1) (0, 0)).1) (ds := []) (ev_item_list (ds := encP x.2) (k := i + 1) (by kd_in) (by kd_in) i2 (by omega) (fun _ _ => rfl))) o_ge rfl) (fun _ => by kd_in)
  · unfold compRes
    rw [List.filter_eq_nil_iff.mpr fun i hi => ?_]
    · rfl
    · have hi' := List.mem_range.mp hi
      have := hinc i (by omega)
      simp only [decide_eq_true_eq]; omega

theorem if2 (N : Names h₀) {aB aO aD : Addr} (SB : Stands h₀ 8 (Str.ofString "_law_both") bothNames aB) (SO : Stands h₀ 9 (Str.ofString "_law_out") outNames aO) (SD : Stands h₀ 7 (Str.ofString "_law_due") dueNames aD) (room : Room A 12) {k : Nat} {os : List Int} {ps : List P2} {t : T} (P : PF k os ps t) {x : P2 × List P2} (hx : x ∈ rowsP t []) {st : Stmt} (hst : ∃ t1 e1 p1 o1 b1, lawS 9 = .For t1 e1 b1 o1 p1 ∧ b1[2]?.getD (.Pass default) = st) :
    ExS prog w C X h₀ A (lawEnv q L a cd) (ρE k os ps t x) st (.next (ρE k os ps t x)) := by
  obtain ⟨t1, e1, p1, o1, b1, hb1, hb2⟩ := hst
  cases hb1
  cases hb2
  obtain ⟨oO, fdO, hoO, hdatO⟩ := SO.at
  obtain ⟨oD, fdD, hoD, hdatD⟩ := SD.at
  have hsz := P.outsize x hx
  have hs := P.size
  have hl := P.len
  have hout := P.out x hx
  refine exs_if (b := false) (tr_cmp (a := enc (outT t x.1.1)) (b := enc (dueF 7 (ps.filter fun p => !decide (p = x.1)))) (ev_call SO.name hoO hdatO rfl rfl rfl rfl rfl (evL_cons (by kd_in) (evL_cons (by kd_in) evL_nil rfl) rfl) (out_ok SB SO t x.1.1 12 (by omega) (P.found x hx)) room rfl rfl)
    (ev_call SD.name hoD hdatD rfl rfl rfl rfl rfl (evL_cons (e := .dat (.list (encP (ps.filter fun p => !decide (p = x.1))))) ?_ evL_nil rfl) (due_ok N.gr N.min SD 7 _ (Nat.le_trans (List.length_filter_le _ _) hl) (by decide)) (room.le (by decide)) rfl rfl) (o_ne (b := true) (kq_enc _ 40 (by omega)) (kq_enc _ 40 (by rw [← hout]; omega)) room.eq (by rw [hout]; simp)) rfl) (fun h => by cases h) (fun _ => exb_nil)
  refine ev_comp (ds := encP ps) (p := fun d => !(d0 d == x.1.1 && d1 d == x.1.2)) (f := fun d => d) (ρc := [(Str.ofString "pair", .dat (prD x.1))]) room.hh rfl (blk1 rfl rfl rfl rfl rfl rfl (.inl rfl) rfl) (by rw [List.length_map, sizeLine_eq]; omega) (by kd_in) (fun X' Cc d hd => ?_) ?_ (fun _ => rfl)
  · obtain ⟨p, _, rfl⟩ := List.mem_map.mp hd
    refine turn_ifs (as1_local rfl rfl) (fun y e hy => look_more hy rfl) (tr_cmp (a := prD p) (b := prD x.1) (by kd_in) (by kd_in) (o_ne (b := (p.1 == x.1.1 && p.2 == x.1.2)) (kq_pair 39 _) (kq_pair 39 _) room.eq ?_) rfl) (fun _ => by kd_in)
    rw [Bool.and_eq_true, beq_iff_eq, beq_iff_eq]
    constructor
    · rintro ⟨h1, h2⟩
      show pr p.1 p.2 = pr x.1.1 x.1.2
      rw [h1, h2]
    · intro h
      have := prD_inj h
      rw [this]; exact ⟨rfl, rfl⟩
  · rw [filter_encP (fun p => !decide (p = x.1)) _ (fun p => ?_), List.map_id']
    show (!(p.1 == x.1.1 && p.2 == x.1.2)) = _
    congr 1
    by_cases h : p = x.1
    · rw [decide_eq_true h, h]; simp
    · rw [decide_eq_false h]
      cases h1 : p.1 == x.1.1 with
      | false => rfl
      | true =>
        cases h2 : p.2 == x.1.2 with
        | false => rfl
        | true => exact absurd (Prod.ext (beq_iff_eq.mp h1) (beq_iff_eq.mp h2)) h

theorem stmt9 (N : Names h₀) {aB aL aO aD : Addr} (SBi : StandsD h₀ 2 (Str.ofString "bisect_left") bisNames bisDd aB [2, 4]) (SB : Stands h₀ 8 (Str.ofString "_law_both") bothNames aL) (SO : Stands h₀ 9 (Str.ofString "_law_out") outNames aO) (SD : Stands h₀ 7 (Str.ofString "_law_due") dueNames aD) (room : Room A 12) {k : Nat} {os : List Int} {ps : List P2} {t : T} (P : PF k os ps t) :
    ExS prog w C X h₀ A (lawEnv q L a cd) (ρR k os ps t) (lawS 9) (.next (ρR k os ps t)) := by
  refine exs_for (ds := (rowsP t []).map rowD) (ρs := fun _ => ρR k os ps t) room.hh rfl (by kd_in) (fun i d hd => ?_) (fun _ => rfl)
  obtain ⟨x, hx, rfl⟩ := List.mem_map.mp (List.mem_of_getElem? hd)
  refine ⟨ρE k os ps t x, as_tuple (ds := [prD x.1, .list (encP x.2)]) room.hh (asL_cons (as_cell rfl rfl rfl) (asL_cons (as_cell rfl rfl rfl) asL_nil rfl) rfl) rfl rfl, exb_sub (ρ' := ρE k os ps t x) ?_ (sub_cons rfl (sub_cons rfl (sub_cons rfl (sub_cons rfl (sub_cons rfl (sub_cons rfl sub_nil))))))⟩
  refine exb_next (exs_for (ds := (rowsP t []).map rowD) (ρs := fun _ => ρE k os ps t x) room.hh rfl (by kd_in) (fun j d hd => ?_) (fun _ => rfl)) (exb_next (if1 N room P hx ⟨_, _, _, _, _, rfl, rfl⟩) (exb_next (if2 N SB SO SD room P hx ⟨_, _, _, _, _, rfl, rfl⟩) exb_nil))
  obtain ⟨y, hy, rfl⟩ := List.mem_map.mp (List.mem_of_getElem? hd)
  exact ⟨_, as_tuple (ds := [prD y.1, .list (encP y.2)]) room.hh (asL_cons (as_local rfl rfl) (asL_cons (as_local rfl rfl) asL_nil rfl) rfl) rfl rfl, inner N SBi room P hx hy ⟨_, _, _, _, _, _, _, _, _, rfl, rfl⟩⟩
end
def inord : T → List P2
  | .nil => []
  | .node k r l m => inord l ++ (k, r) :: inord m
theorem mem_node {k r : Int} {l m : T} {x : P2} : x ∈ inord (.node k r l m) ↔ x ∈ inord l ∨ x = (k, r) ∨ x ∈ inord m := by
  rw [inord, List.mem_append, List.mem_cons]
def Bst : T → Prop
  | .nil => True
  | .node k _ l m => (∀ x ∈ inord l, x.1 < k) ∧ (∀ x ∈ inord m, k < x.1) ∧ Bst l ∧ Bst m
def Hp : T → Prop
  | .nil => True
  | .node _ r l m => (∀ x ∈ inord l, r < x.2) ∧ (∀ x ∈ inord m, r < x.2) ∧ Hp l ∧ Hp m

theorem rowsP_fst : ∀ (t : T) (ab : List P2), (rowsP t ab).map (·.1) = inord t
  | .nil, _ => rfl
  | .node k r l m, ab => by rw [rowsP, List.map_append, List.map_append, rowsP_fst l, rowsP_fst m, inord, List.append_assoc]; rfl
theorem inord_sorted : ∀ {t : T}, Bst t → (inord t).Pairwise fun a b => a.1 < b.1
  | .nil, _ => List.Pairwise.nil
  | .node k r l m, h => by
    obtain ⟨h1, h2, h3, h4⟩ := h
    rw [inord, List.pairwise_append]
    refine ⟨inord_sorted h3, List.pairwise_cons.mpr ⟨fun x hx => h2 x hx, inord_sorted h4⟩, fun a ha b hb => ?_⟩
    have := h1 a ha
    rcases List.mem_cons.mp hb with rfl | hb
    · exact this
    · have := h2 b hb; omega

/-- one tree -/
theorem one_tree : ∀ {t u : T}, Bst t → Hp t → Bst u → Hp u → (∀ x, x ∈ inord t ↔ x ∈ inord u) → t = u
  | .nil, .nil, _, _, _, _, _ => rfl
  | .nil, .node k r l m, _, _, _, _, h => by have := (h (k, r)).mpr (mem_node.mpr (.inr (.inl rfl))); cases this
  | .node k r l m, .nil, _, _, _, _, h => by have := (h (k, r)).mp (mem_node.mpr (.inr (.inl rfl))); cases this
  | .node k r l m, .node k' r' l' m', ⟨b1, b2, b3, b4⟩, ⟨p1, p2, p3, p4⟩, ⟨c1, c2, c3, c4⟩, ⟨q1, q2, q3, q4⟩, h => by
    have e : (k, r) = (k', r') := by
      rcases mem_node.mp ((h (k, r)).mp (mem_node.mpr (.inr (.inl rfl)))) with h1 | h1 | h1
      · have a1 := q1 _ h1
        rcases mem_node.mp ((h (k', r')).mpr (mem_node.mpr (.inr (.inl rfl)))) with h2 | h2 | h2
        · have a2 := p1 _ h2; dsimp only at a1 a2; omega
        · exact h2.symm
        · have a2 := p2 _ h2; dsimp only at a1 a2; omega
      · exact h1
      · have a1 := q2 _ h1
        rcases mem_node.mp ((h (k', r')).mpr (mem_node.mpr (.inr (.inl rfl)))) with h2 | h2 | h2
        · have a2 := p1 _ h2; dsimp only at a1 a2; omega
        · exact h2.symm
        · have a2 := p2 _ h2; dsimp only at a1 a2; omega
    injection e with e1 e2
    subst e1 e2
    have hl : l = l' := one_tree b3 p3 c3 q3 fun x => by
      constructor
      · intro hx
        rcases mem_node.mp ((h x).mp (mem_node.mpr (.inl hx))) with h1 | h1 | h1
        · exact h1
        · have := b1 x hx; rw [h1] at this; exact absurd this (Int.lt_irrefl _)
        · have := b1 x hx; have := c2 x h1; omega
      · intro hx
        rcases mem_node.mp ((h x).mpr (mem_node.mpr (.inl hx))) with h1 | h1 | h1
        · exact h1
        · have := c1 x hx; rw [h1] at this; exact absurd this (Int.lt_irrefl _)
        · have := c1 x hx; have := b2 x h1; omega
    have hm : m = m' := one_tree b4 p4 c4 q4 fun x => by
      constructor
      · intro hx
        rcases mem_node.mp ((h x).mp (mem_node.mpr (.inr (.inr hx)))) with h1 | h1 | h1
        · have := b2 x hx; have := c1 x h1; omega
        · have := b2 x hx; rw [h1] at this; exact absurd this (Int.lt_irrefl _)
        · exact h1
      · intro hx
        rcases mem_node.mp ((h x).mpr (mem_node.mpr (.inr (.inr hx)))) with h1 | h1 | h1
        · have := c2 x hx; have := b1 x h1; omega
        · have := c2 x hx; rw [h1] at this; exact absurd this (Int.lt_irrefl _)
        · exact h1
    rw [hl, hm]

theorem inord_rotR (k r : Int) (l m : T) : inord (rotR k r l m) = inord l ++ (k, r) :: inord m := by
  unfold rotR
  cases l with
  | nil => rfl
  | node kl rl a b => dsimp only; split <;> simp only [inord, List.append_assoc, List.cons_append]
theorem inord_rotL (k r : Int) (l m : T) : inord (rotL k r l m) = inord l ++ (k, r) :: inord m := by
  unfold rotL
  cases m with
  | nil => rfl
  | node km rm a b => dsimp only; split <;> simp only [inord, List.append_assoc, List.cons_append]
theorem bst_rotR {k r : Int} {l m : T} (h : Bst (.node k r l m)) : Bst (rotR k r l m) := by
  unfold rotR
  cases l with
  | nil => exact h
  | node kl rl a b =>
    dsimp only
    split
    · obtain ⟨h1, h2, ⟨h5, h6, h7, h8⟩, h4⟩ := h
      have hk : kl < k := h1 (kl, rl) (mem_node.mpr (.inr (.inl rfl)))
      refine ⟨h5, fun x hx => ?_, h7, fun x hx => h1 x (mem_node.mpr (.inr (.inr hx))), h2, h8, h4⟩
      rcases mem_node.mp hx with hx | rfl | hx
      · exact h6 x hx
      · exact hk
      · have := h2 x hx; omega
    · exact h
theorem bst_rotL {k r : Int} {l m : T} (h : Bst (.node k r l m)) : Bst (rotL k r l m) := by
  unfold rotL
  cases m with
  | nil => exact h
  | node km rm a b =>
    dsimp only
    split
    · obtain ⟨h1, h2, h3, ⟨h5, h6, h7, h8⟩⟩ := h
      have hk : k < km := h2 (km, rm) (mem_node.mpr (.inr (.inl rfl)))
      refine ⟨fun x hx => ?_, h6, ⟨h1, fun x hx => h2 x (mem_node.mpr (.inl hx)), h3, h7⟩, h8⟩
      rcases mem_node.mp hx with hx | rfl | hx
      · have := h1 x hx; omega
      · exact hk
      · exact h5 x hx
    · exact h
theorem mem_put : ∀ (t : T) (k r : Int) (x : P2), x ∈ inord (putT t k r) ↔ x = (k, r) ∨ x ∈ inord t
  | .nil, k, r, x => by rw [putT]; simp [inord]
  | .node k0 r0 l m, k, r, x => by
    rw [putT]
    split
    · rw [inord_rotR, List.mem_append, mem_put l, List.mem_cons, mem_node, or_assoc]
    · rw [inord_rotL, List.mem_append, List.mem_cons, mem_put m, mem_node]
      constructor
      · rintro (h | h | h | h)
        · exact .inr (.inl h)
        · exact .inr (.inr (.inl h))
        · exact .inl h
        · exact .inr (.inr (.inr h))
      · rintro (h | h | h | h)
        · exact .inr (.inr (.inl h))
        · exact .inl h
        · exact .inr (.inl h)
        · exact .inr (.inr (.inr h))
theorem bst_put : ∀ {t : T} {k r : Int}, Bst t → (∀ x ∈ inord t, x.1 ≠ k) → Bst (putT t k r)
  | .nil, k, r, _, _ => ⟨(fun x h => by cases h), (fun x h => by cases h), trivial, trivial⟩
  | .node k0 r0 l m, k, r, ⟨h1, h2, h3, h4⟩, hk => by
    rw [putT]
    have hk0 : k0 ≠ k := hk (k0, r0) (mem_node.mpr (.inr (.inl rfl)))
    split
    · rename_i hlt
      refine bst_rotR ⟨fun x hx => ?_, h2, bst_put h3 fun x hx => hk x (mem_node.mpr (.inl hx)), h4⟩
      rcases (mem_put l k r x).mp hx with rfl | hx
      · exact hlt
      · exact h1 x hx
    · rename_i hlt
      refine bst_rotL ⟨h1, fun x hx => ?_, h3, bst_put h4 fun x hx => hk x (mem_node.mpr (.inr (.inr hx)))⟩
      rcases (mem_put m k r x).mp hx with rfl | hx
      · dsimp only; omega
      · exact h2 x hx
theorem hp_put : ∀ {t : T} {k r : Int}, Hp t → (∀ x ∈ inord t, x.2 ≠ r) → Hp (putT t k r)
  | .nil, k, r, _, _ => ⟨(fun x h => by cases h), (fun x h => by cases h), trivial, trivial⟩
  | .node k0 r0 l m, k, r, ⟨h1, h2, h3, h4⟩, hr => by
    rw [putT]
    have hr0 : r0 ≠ r := hr (k0, r0) (mem_node.mpr (.inr (.inl rfl)))
    split
    · have ih := hp_put (k := k) h3 fun x hx => hr x (mem_node.mpr (.inl hx))
      have hm := mem_put l k r
      cases e : putT l k r with
      | nil => obtain ⟨_, _, _, _, e'⟩ := putT_node l k r; rw [e'] at e; cases e
      | node kl rl a b =>
        rw [e] at ih hm
        obtain ⟨i1, i2, i3, i4⟩ := ih
        unfold rotR
        dsimp only
        have root := (hm (kl, rl)).mp (mem_node.mpr (.inr (.inl rfl)))
        split
        · rename_i hlt
          have er : rl = r := by
            rcases root with h | h
            · injection h
            · have := h1 _ h; dsimp only at this; omega
          refine ⟨i1, fun x hx => ?_, i3, fun x hx => ?_, h2, i4, h4⟩
          · rcases mem_node.mp hx with hx | rfl | hx
            · exact i2 x hx
            · exact hlt
            · have := h2 x hx; omega
          · rcases (hm x).mp (mem_node.mpr (.inr (.inr hx))) with rfl | hx'
            · have := i2 _ hx; dsimp only at this; omega
            · exact h1 x hx'
        · rename_i hlt
          refine ⟨fun x hx => ?_, h2, ⟨i1, i2, i3, i4⟩, h4⟩
          rcases (hm x).mp hx with rfl | hx'
          · rcases mem_node.mp hx with hx | hx | hx
            · have := i1 _ hx; dsimp only at this ⊢; omega
            · injection hx with _ h; dsimp only; omega
            · have := i2 _ hx; dsimp only at this ⊢; omega
          · exact h1 x hx'
    · have ih := hp_put (k := k) h4 fun x hx => hr x (mem_node.mpr (.inr (.inr hx)))
      have hm := mem_put m k r
      cases e : putT m k r with
      | nil => obtain ⟨_, _, _, _, e'⟩ := putT_node m k r; rw [e'] at e; cases e
      | node km rm a b =>
        rw [e] at ih hm
        obtain ⟨i1, i2, i3, i4⟩ := ih
        unfold rotL
        dsimp only
        have root := (hm (km, rm)).mp (mem_node.mpr (.inr (.inl rfl)))
        split
        · rename_i hlt
          have er : rm = r := by
            rcases root with h | h
            · injection h
            · have := h2 _ h; dsimp only at this; omega
          refine ⟨fun x hx => ?_, i2, ⟨h1, fun x hx => ?_, h3, i3⟩, i4⟩
          · rcases mem_node.mp hx with hx | rfl | hx
            · have := h1 x hx; omega
            · exact hlt
            · exact i1 x hx
          · rcases (hm x).mp (mem_node.mpr (.inl hx)) with rfl | hx'
            · have := i1 _ hx; dsimp only at this; omega
            · exact h2 x hx'
        · rename_i hlt
          refine ⟨h1, fun x hx => ?_, h3, ⟨i1, i2, i3, i4⟩⟩
          rcases (hm x).mp hx with rfl | hx'
          · rcases mem_node.mp hx with hx | hx | hx
            · have := i1 _ hx; dsimp only at this ⊢; omega
            · injection hx with _ h; dsimp only; omega
            · have := i2 _ hx; dsimp only at this ⊢; omega
          · exact h2 x hx'

structure Apart (ps : List P2) : Prop where
  keys : (ps.map (·.1)).Nodup
  ranks : (ps.map (·.2)).Nodup
structure Good3 (t : T) (ps : List P2) : Prop where
  bst : Bst t
  hp : Hp t
  mem : ∀ x, x ∈ inord t ↔ x ∈ ps
theorem nodup_snoc {α : Type} {l : List α} {a : α} : (l ++ [a]).Nodup ↔ l.Nodup ∧ a ∉ l := by
  rw [List.nodup_append]
  constructor
  · rintro ⟨h1, _, h3⟩; exact ⟨h1, fun h => h3 a h a (.head _) rfl⟩
  · rintro ⟨h1, h2⟩; exact ⟨h1, by simp, fun x hx y hy => by rw [List.mem_singleton.mp hy]; exact fun z => h2 (z ▸ hx)⟩
theorem foldT_good : ∀ (n : Nat) (ps : List P2), ps.length = n → Apart ps → Good3 (foldT ps) ps
  | 0, ps, h, _ => by rw [List.length_eq_zero_iff.mp h]; exact ⟨trivial, trivial, fun x => Iff.rfl⟩
  | n + 1, ps, h, ha => by
    obtain ⟨qs, p, rfl⟩ : ∃ qs p, ps = qs ++ [p] := by
      have hne : ps ≠ [] := fun e => by rw [e] at h; cases h
      exact ⟨ps.dropLast, ps.getLast hne, (List.dropLast_concat_getLast hne).symm⟩
    obtain ⟨hk, hr⟩ := ha
    rw [List.map_append] at hk hr
    have hk' := nodup_snoc.mp hk
    have hr' := nodup_snoc.mp hr
    obtain ⟨b, hp, hm⟩ := foldT_good n qs (by simpa using h) ⟨hk'.1, hr'.1⟩
    rw [foldT_snoc]
    refine ⟨bst_put b fun x hx e => hk'.2 ?_, hp_put hp fun x hx e => hr'.2 ?_, fun x => ?_⟩
    · show p.1 ∈ _
      rw [← e]; exact List.mem_map_of_mem (f := fun x : P2 => x.1) ((hm x).mp hx)
    · show p.2 ∈ _
      rw [← e]; exact List.mem_map_of_mem (f := fun x : P2 => x.2) ((hm x).mp hx)
    · rw [mem_put, hm x, List.mem_append, List.mem_singleton, or_comm]
theorem Apart.filter {ps : List P2} (h : Apart ps) (f : P2 → Bool) : Apart (ps.filter f) :=
  ⟨h.keys.sublist (List.Sublist.map _ List.filter_sublist), h.ranks.sublist (List.Sublist.map _ List.filter_sublist)⟩
theorem nodup_map_inj {α β : Type} {f : α → β} : ∀ {l : List α}, (l.map f).Nodup → ∀ {a b : α}, a ∈ l → b ∈ l → f a = f b → a = b
  | [], _, a, b, ha, _, _ => by cases ha
  | c :: l, h, a, b, ha, hb, e => by
    rw [List.map_cons, List.nodup_cons] at h
    rcases List.mem_cons.mp ha with e1 | ha'
    · rcases List.mem_cons.mp hb with e2 | hb'
      · rw [e1, e2]
      · refine absurd ?_ h.1
        rw [← e1, e]; exact List.mem_map_of_mem hb'
    · rcases List.mem_cons.mp hb with e2 | hb'
      · refine absurd ?_ h.1
        rw [← e2, ← e]; exact List.mem_map_of_mem ha'
      · exact nodup_map_inj h.2 ha' hb' e
theorem dueF_good : ∀ (m : Nat) (ps : List P2), ps.length ≤ m → Apart ps → Good3 (dueF m ps) ps
  | m, [], _, _ => by
    have e : dueF m [] = .nil := by cases m <;> rfl
    rw [e]; exact ⟨trivial, trivial, fun x => Iff.rfl⟩
  | 0, p :: ps, h, _ => absurd h (Nat.not_succ_le_zero _)
  | m + 1, p :: ps, h, ha => by
    have ht := topL_mem p ps
    have hmin : ∀ x ∈ p :: ps, (topL (p :: ps)).2 ≤ x.2 := fun x hx => by rw [topL_min]; exact minI_le _ _ (List.mem_map_of_mem hx)
    have g1 := dueF_good m _ (show ((p :: ps).filter fun q => decide (q.1 < (topL (p :: ps)).1)).length ≤ m by have := filter_lt (f := fun q => decide (q.1 < (topL (p :: ps)).1)) ht (by simp); omega) (ha.filter _)
    have g2 := dueF_good m _ (show ((p :: ps).filter fun q => decide ((topL (p :: ps)).1 < q.1)).length ≤ m by have := filter_lt (f := fun q => decide ((topL (p :: ps)).1 < q.1)) ht (by simp); omega) (ha.filter _)
    rw [dueF]
    have m1 : ∀ x, x ∈ inord (dueF m ((p :: ps).filter fun q => decide (q.1 < (topL (p :: ps)).1))) ↔ x ∈ p :: ps ∧ x.1 < (topL (p :: ps)).1 := fun x => by rw [g1.mem, List.mem_filter, decide_eq_true_iff]
    have m2 : ∀ x, x ∈ inord (dueF m ((p :: ps).filter fun q => decide ((topL (p :: ps)).1 < q.1))) ↔ x ∈ p :: ps ∧ (topL (p :: ps)).1 < x.1 := fun x => by rw [g2.mem, List.mem_filter, decide_eq_true_iff]
    have hlt : ∀ x ∈ p :: ps, x.1 ≠ (topL (p :: ps)).1 → (topL (p :: ps)).2 < x.2 := fun x hx hne => by
      have := hmin x hx
      rcases Int.lt_or_eq_of_le this with h | h
      · exact h
      · exact absurd (congrArg Prod.fst (nodup_map_inj ha.ranks ht hx h)).symm hne
    refine ⟨⟨fun x hx => ((m1 x).mp hx).2, fun x hx => ((m2 x).mp hx).2, g1.bst, g2.bst⟩, ⟨fun x hx => hlt x ((m1 x).mp hx).1 (Int.ne_of_lt ((m1 x).mp hx).2), fun x hx => hlt x ((m2 x).mp hx).1 (Int.ne_of_gt ((m2 x).mp hx).2), g1.hp, g2.hp⟩, fun x => ?_⟩
    rw [mem_node, m1, m2]
    constructor
    · rintro (h | h | h)
      · exact h.1
      · rw [h]; exact ht
      · exact h.1
    · intro hx
      rcases Int.lt_trichotomy x.1 (topL (p :: ps)).1 with h | h | h
      · exact .inl ⟨hx, h⟩
      · exact .inr (.inl (nodup_map_inj ha.keys hx ht h))
      · exact .inr (.inr ⟨hx, h⟩)
theorem Good3.eq {t u : T} {ps qs : List P2} (h : Good3 t ps) (k : Good3 u qs) (hm : ∀ x, x ∈ ps ↔ x ∈ qs) : t = u := one_tree h.bst h.hp k.bst k.hp fun x => (h.mem x).trans ((hm x).trans (k.mem x).symm)
theorem both_good : ∀ {l m : T}, Bst l → Hp l → Bst m → Hp m → (∀ x ∈ inord l, ∀ y ∈ inord m, x.1 < y.1 ∧ x.2 ≠ y.2) → Bst (bothT l m) ∧ Hp (bothT l m) ∧ ∀ x, x ∈ inord (bothT l m) ↔ x ∈ inord l ∨ x ∈ inord m
  | .nil, m, _, _, hb, hh, _ => by rw [bothT]; exact ⟨hb, hh, fun x => by simp [inord]⟩
  | .node k r a b, .nil, hb, hh, _, _, _ => by rw [bothT]; exact ⟨hb, hh, fun x => by simp [inord]⟩
  | .node k r a b, .node k' r' c d, hb, hh, hb', hh', hlt => by
    obtain ⟨b1, b2, b3, b4⟩ := hb
    obtain ⟨p1, p2, p3, p4⟩ := hh
    obtain ⟨c1, c2, c3, c4⟩ := hb'
    obtain ⟨q1, q2, q3, q4⟩ := hh'
    have hkk := hlt (k, r) (mem_node.mpr (.inr (.inl rfl))) (k', r') (mem_node.mpr (.inr (.inl rfl)))
    dsimp only at hkk
    rw [bothT]
    split
    · rename_i hr
      obtain ⟨i1, i2, i3⟩ := both_good (l := b) (m := .node k' r' c d) b4 p4 ⟨c1, c2, c3, c4⟩ ⟨q1, q2, q3, q4⟩ fun x hx y hy => hlt x (mem_node.mpr (.inr (.inr hx))) y hy
      refine ⟨⟨b1, fun x hx => ?_, b3, i1⟩, ⟨p1, fun x hx => ?_, p3, i2⟩, fun x => ?_⟩
      · rcases (i3 x).mp hx with h | h
        · exact b2 x h
        · exact (hlt (k, r) (mem_node.mpr (.inr (.inl rfl))) x h).1
      · rcases (i3 x).mp hx with h | h
        · exact p2 x h
        · rcases mem_node.mp h with h | rfl | h
          · have := q1 x h; omega
          · exact hr
          · have := q2 x h; omega
      · rw [mem_node, i3, mem_node (l := a), or_assoc, or_assoc]
    · rename_i hr
      obtain ⟨i1, i2, i3⟩ := both_good (l := .node k r a b) (m := c) ⟨b1, b2, b3, b4⟩ ⟨p1, p2, p3, p4⟩ c3 q3 fun x hx y hy => hlt x hx y (mem_node.mpr (.inl hy))
      have hr' : r' < r := by omega
      refine ⟨⟨fun x hx => ?_, c2, i1, c4⟩, ⟨fun x hx => ?_, q2, i2, q4⟩, fun x => ?_⟩
      · rcases (i3 x).mp hx with h | h
        · exact (hlt x h (k', r') (mem_node.mpr (.inr (.inl rfl)))).1
        · exact c1 x h
      · rcases (i3 x).mp hx with h | h
        · rcases mem_node.mp h with h | rfl | h
          · have := p1 x h; omega
          · exact hr'
          · have := p2 x h; omega
        · exact q1 x h
      · rw [mem_node, i3, mem_node (l := c), or_assoc]
termination_by l m => l.size + m.size
decreasing_by all_goals (simp only [T.size]; omega)

/-- no two of one rank -/
def Lone (t : T) : Prop := ∀ x ∈ inord t, ∀ y ∈ inord t, x.2 = y.2 → x = y
theorem out_good : ∀ {t : T} {k : Int}, Bst t → Hp t → Lone t → Bst (outT t k) ∧ Hp (outT t k) ∧ ∀ x, x ∈ inord (outT t k) ↔ x ∈ inord t ∧ x.1 ≠ k
  | .nil, k, _, _, _ => ⟨trivial, trivial, fun x => by rw [outT]; simp [inord]⟩
  | .node k0 r0 l m, k, ⟨b1, b2, b3, b4⟩, ⟨p1, p2, p3, p4⟩, hL => by
    have hLl : Lone l := fun x hx y hy => hL x (mem_node.mpr (.inl hx)) y (mem_node.mpr (.inl hy))
    have hLm : Lone m := fun x hx y hy => hL x (mem_node.mpr (.inr (.inr hx))) y (mem_node.mpr (.inr (.inr hy)))
    rw [outT]
    split
    · rename_i hk
      subst hk
      obtain ⟨i1, i2, i3⟩ := both_good b3 p3 b4 p4 fun x hx y hy => ⟨by have := b1 x hx; have := b2 y hy; omega, fun e => by
        have := hL x (mem_node.mpr (.inl hx)) y (mem_node.mpr (.inr (.inr hy))) e
        have h1 := b1 x hx; have h2 := b2 y hy
        rw [this] at h1; omega⟩
      refine ⟨i1, i2, fun x => ?_⟩
      rw [i3, mem_node]
      constructor
      · rintro (h | h)
        · exact ⟨.inl h, by have := b1 x h; omega⟩
        · exact ⟨.inr (.inr h), by have := b2 x h; omega⟩
      · rintro ⟨h | h | h, hne⟩
        · exact .inl h
        · rw [h] at hne; exact absurd rfl hne
        · exact .inr h
    · rename_i hk
      split
      · rename_i hlt
        obtain ⟨i1, i2, i3⟩ := out_good (k := k) b3 p3 hLl
        refine ⟨⟨fun x hx => b1 x ((i3 x).mp hx).1, b2, i1, b4⟩, ⟨fun x hx => p1 x ((i3 x).mp hx).1, p2, i2, p4⟩, fun x => ?_⟩
        rw [mem_node, i3, mem_node]
        constructor
        · rintro (h | h | h)
          · exact ⟨.inl h.1, h.2⟩
          · exact ⟨.inr (.inl h), by rw [h]; exact hk⟩
          · exact ⟨.inr (.inr h), by have := b2 x h; omega⟩
        · rintro ⟨h | h | h, hne⟩
          · exact .inl ⟨h, hne⟩
          · exact .inr (.inl h)
          · exact .inr (.inr h)
      · rename_i hlt
        obtain ⟨i1, i2, i3⟩ := out_good (k := k) b4 p4 hLm
        refine ⟨⟨b1, fun x hx => b2 x ((i3 x).mp hx).1, b3, i1⟩, ⟨p1, fun x hx => p2 x ((i3 x).mp hx).1, p3, i2⟩, fun x => ?_⟩
        rw [mem_node, i3, mem_node]
        constructor
        · rintro (h | h | h)
          · exact ⟨.inl h, by have := b1 x h; omega⟩
          · exact ⟨.inr (.inl h), by rw [h]; exact hk⟩
          · exact ⟨.inr (.inr h.1), h.2⟩
        · rintro ⟨h | h | h, hne⟩
          · exact .inl h
          · exact .inr (.inl h)
          · exact .inr (.inr ⟨h, hne⟩)

theorem found_of : ∀ {t : T} {x : P2}, Bst t → x ∈ inord t → Found t x.1
  | .nil, x, _, h => by cases h
  | .node k r l m, x, ⟨b1, b2, b3, b4⟩, h => by
    rcases mem_node.mp h with h | h | h
    · exact .inr (.inl ⟨b1 x h, found_of b3 h⟩)
    · exact .inl (by rw [h])
    · exact .inr (.inr ⟨b2 x h, found_of b4 h⟩)

theorem rows_mem {t : T} {ab : List P2} {x : P2 × List P2} (h : x ∈ rowsP t ab) : x.1 ∈ inord t := by
  rw [← rowsP_fst t ab]; exact List.mem_map_of_mem h
theorem mem_rows {k r : Int} {l m : T} {ab : List P2} {x : P2 × List P2} : x ∈ rowsP (.node k r l m) ab ↔ x ∈ rowsP l (ab ++ [(k, r)]) ∨ x = ((k, r), ab) ∨ x ∈ rowsP m (ab ++ [(k, r)]) := by
  rw [rowsP, List.mem_append, List.mem_append, List.mem_singleton, or_assoc]
theorem rows_len : ∀ {t : T} {ab : List P2} {x : P2 × List P2}, x ∈ rowsP t ab → x.2.length + 1 ≤ ab.length + t.size
  | .nil, ab, x, h => by cases h
  | .node k r l m, ab, x, h => by
    rcases mem_rows.mp h with h | h | h
    · have := rows_len h; simp only [List.length_append, List.length_cons, List.length_nil, T.size] at *; omega
    · rw [h]; simp only [T.size]; omega
    · have := rows_len h; simp only [List.length_append, List.length_cons, List.length_nil, T.size] at *; omega
theorem rows_incr : ∀ {t : T} {ab : List P2} {x : P2 × List P2}, Hp t → ab.Pairwise (fun a b => a.2 < b.2) → (∀ a ∈ ab, ∀ y ∈ inord t, a.2 < y.2) → x ∈ rowsP t ab → x.2.Pairwise fun a b => a.2 < b.2
  | .nil, ab, x, _, _, _, h => by cases h
  | .node k r l m, ab, x, ⟨p1, p2, p3, p4⟩, hab, hlt, h => by
    have hab' : (ab ++ [(k, r)]).Pairwise fun a b => a.2 < b.2 := by
      rw [List.pairwise_append]
      exact ⟨hab, List.pairwise_singleton _ _, fun a ha b hb => by rw [List.mem_singleton.mp hb]; exact hlt a ha (k, r) (mem_node.mpr (.inr (.inl rfl)))⟩
    rcases mem_rows.mp h with h | h | h
    · refine rows_incr p3 hab' (fun a ha y hy => ?_) h
      rcases List.mem_append.mp ha with ha | ha
      · exact hlt a ha y (mem_node.mpr (.inl hy))
      · rw [List.mem_singleton.mp ha]; exact p1 y hy
    · rw [h]; exact hab
    · refine rows_incr p4 hab' (fun a ha y hy => ?_) h
      rcases List.mem_append.mp ha with ha | ha
      · exact hlt a ha y (mem_node.mpr (.inr (.inr hy)))
      · rw [List.mem_singleton.mp ha]; exact p2 y hy
theorem rows_pre : ∀ {t : T} {ab : List P2} {x : P2 × List P2}, x ∈ rowsP t ab → ∀ y ∈ x.2, y ∈ ab ∨ y ∈ inord t
  | .nil, ab, x, h, _, _ => by cases h
  | .node k r l m, ab, x, h, y, hy => by
    rcases mem_rows.mp h with h | h | h
    · rcases rows_pre h y hy with h1 | h1
      · rcases List.mem_append.mp h1 with h1 | h1
        · exact .inl h1
        · exact .inr (mem_node.mpr (.inr (.inl (List.mem_singleton.mp h1))))
      · exact .inr (mem_node.mpr (.inl h1))
    · rw [h] at hy; exact .inl hy
    · rcases rows_pre h y hy with h1 | h1
      · rcases List.mem_append.mp h1 with h1 | h1
        · exact .inl h1
        · exact .inr (mem_node.mpr (.inr (.inl (List.mem_singleton.mp h1))))
      · exact .inr (mem_node.mpr (.inr (.inr h1)))
theorem rows_has : ∀ {t : T} {ab : List P2} {x : P2 × List P2}, x ∈ rowsP t ab → ∀ y ∈ ab, y ∈ x.2
  | .nil, ab, x, h, _, _ => by cases h
  | .node k r l m, ab, x, h, y, hy => by
    rcases mem_rows.mp h with h | h | h
    · exact rows_has h y (List.mem_append_left _ hy)
    · rw [h]; exact hy
    · exact rows_has h y (List.mem_append_left _ hy)
/-- who is above whom -/
theorem rows_above : ∀ {t : T} {ab : List P2} {x : P2 × List P2} {y : P2}, Bst t → Hp t → (∀ a ∈ ab, a ∉ inord t) → x ∈ rowsP t ab → y ∈ inord t → x.1 ≠ y →
    (y ∈ x.2 ↔ ∀ z ∈ inord t, min x.1.1 y.1 ≤ z.1 → z.1 ≤ max x.1.1 y.1 → y.2 ≤ z.2)
  | .nil, ab, x, y, _, _, _, h, _, _ => by cases h
  | .node k r l m, ab, x, y, ⟨b1, b2, b3, b4⟩, ⟨p1, p2, p3, p4⟩, hab, h, hy, hne => by
    have hroot : (k, r) ∈ inord (.node k r l m) := mem_node.mpr (.inr (.inl rfl))
    have hl : ∀ a ∈ ab ++ [(k, r)], a ∉ inord l := fun a ha => by
      rcases List.mem_append.mp ha with ha | ha
      · exact fun z => hab a ha (mem_node.mpr (.inl z))
      · rw [List.mem_singleton.mp ha]; exact fun z => Int.lt_irrefl _ (b1 _ z)
    have hm : ∀ a ∈ ab ++ [(k, r)], a ∉ inord m := fun a ha => by
      rcases List.mem_append.mp ha with ha | ha
      · exact fun z => hab a ha (mem_node.mpr (.inr (.inr z)))
      · rw [List.mem_singleton.mp ha]; exact fun z => Int.lt_irrefl _ (b2 _ z)
    rcases mem_rows.mp h with hx | hx | hx
    · have hxl := rows_mem hx
      have hxk := b1 _ hxl
      rcases mem_node.mp hy with hy' | hy' | hy'
      · have hyk := b1 _ hy'
        rw [rows_above b3 p3 hl hx hy' hne]
        constructor
        · intro h z hz h1 h2
          rcases mem_node.mp hz with hz | rfl | hz
          · exact h z hz h1 h2
          · dsimp only at h2; omega
          · have := b2 z hz; omega
        · exact fun h z hz => h z (mem_node.mpr (.inl hz))
      · rw [hy']
        refine ⟨fun _ z hz _ _ => ?_, fun _ => rows_has hx _ (by simp)⟩
        rcases mem_node.mp hz with hz | rfl | hz
        · exact Int.le_of_lt (p1 z hz)
        · exact Int.le_refl _
        · exact Int.le_of_lt (p2 z hz)
      · have hyk := b2 _ hy'
        have hyr := p2 _ hy'
        constructor
        · intro hin
          rcases rows_pre hx y hin with h1 | h1
          · exact absurd hy' (hm y h1)
          · have := b1 _ h1; omega
        · intro h
          have := h (k, r) hroot (by dsimp only; omega) (by dsimp only; omega)
          dsimp only at this; omega
    · have hx1 : x.1 = (k, r) := by rw [hx]
      have hx2 : x.2 = ab := by rw [hx]
      have hyr : r < y.2 := by
        rcases mem_node.mp hy with hy' | hy' | hy'
        · exact p1 _ hy'
        · exact absurd (hx1.trans hy'.symm) hne
        · exact p2 _ hy'
      rw [hx1, hx2]
      constructor
      · intro hin; exact absurd hy (hab y hin)
      · intro h
        have := h (k, r) hroot (by dsimp only; omega) (by dsimp only; omega)
        dsimp only at this; omega
    · have hxl := rows_mem hx
      have hxk := b2 _ hxl
      rcases mem_node.mp hy with hy' | hy' | hy'
      · have hyk := b1 _ hy'
        have hyr := p1 _ hy'
        constructor
        · intro hin
          rcases rows_pre hx y hin with h1 | h1
          · exact absurd hy' (hl y h1)
          · have := b2 _ h1; omega
        · intro h
          have := h (k, r) hroot (by dsimp only; omega) (by dsimp only; omega)
          dsimp only at this; omega
      · rw [hy']
        refine ⟨fun _ z hz _ _ => ?_, fun _ => rows_has hx _ (by simp)⟩
        rcases mem_node.mp hz with hz | rfl | hz
        · exact Int.le_of_lt (p1 z hz)
        · exact Int.le_refl _
        · exact Int.le_of_lt (p2 z hz)
      · have hyk := b2 _ hy'
        rw [rows_above b4 p4 hm hx hy' hne]
        constructor
        · intro h z hz h1 h2
          rcases mem_node.mp hz with hz | rfl | hz
          · have := b1 z hz; omega
          · dsimp only at h1; omega
          · exact h z hz h1 h2
        · exact fun h z hz => h z (mem_node.mpr (.inr (.inr hz)))
theorem sorted_eq : ∀ {l m : List Int}, l.Pairwise (· < ·) → m.Pairwise (· < ·) → (∀ x, x ∈ l ↔ x ∈ m) → l = m
  | [], [], _, _, _ => rfl
  | [], b :: m, _, _, h => by have := (h b).mpr (.head _); cases this
  | a :: l, [], _, _, h => by have := (h a).mp (.head _); cases this
  | a :: l, b :: m, hl, hm, h => by
    obtain ⟨l1, l2⟩ := List.pairwise_cons.mp hl
    obtain ⟨m1, m2⟩ := List.pairwise_cons.mp hm
    have e : a = b := by
      rcases List.mem_cons.mp ((h a).mp (.head _)) with h1 | h1
      · exact h1
      · rcases List.mem_cons.mp ((h b).mpr (.head _)) with h2 | h2
        · exact h2.symm
        · have := m1 a h1; have := l1 b h2; omega
    subst e
    rw [sorted_eq l2 m2 fun x => ?_]
    constructor
    · intro hx
      rcases List.mem_cons.mp ((h x).mp (.tail _ hx)) with h1 | h1
      · have := l1 x hx; omega
      · exact h1
    · intro hx
      rcases List.mem_cons.mp ((h x).mpr (.tail _ hx)) with h1 | h1
      · have := m1 x hx; omega
      · exact h1
theorem posI_mono : ∀ (ns : List Int) {a b : Int}, a ≤ b → posI ns a ≤ posI ns b
  | [], a, b, h => Nat.le_refl _
  | c :: ns, a, b, h => by
    have ih := posI_mono ns h
    rw [posI_cons, posI_cons]
    split <;> split <;> omega
theorem posI_strict : ∀ (ns : List Int) {a b : Int}, a ∈ ns → a < b → posI ns a < posI ns b
  | [], a, b, h, _ => by cases h
  | c :: ns, a, b, h, hlt => by
    rw [posI_cons, posI_cons]
    rcases List.mem_cons.mp h with rfl | h
    · rw [if_neg (Int.lt_irrefl _), if_pos hlt]
      have := posI_mono ns (Int.le_of_lt hlt); omega
    · have ih := posI_strict ns h hlt
      split <;> split <;> omega
theorem posI_len {ns : List Int} {a : Int} (h : a ∈ ns) : posI ns a < ns.length := by
  have h1 := posI_strict ns h (Int.lt_succ a)
  have h2 : posI ns (a + 1) ≤ ns.length := List.length_filter_le _ _
  exact Nat.lt_of_lt_of_le h1 h2
theorem posI_idx {ns : List Int} (hs : ns.Pairwise (· < ·)) {c : Nat} {a : Int} (h : ns[c]? = some a) : posI ns a = c := by
  obtain ⟨hc, e⟩ := List.getElem?_eq_some_iff.mp h
  refine posI_of (Nat.le_of_lt hc) (fun i hi b hb => ?_) (fun i hi b hb => ?_)
  · obtain ⟨hi', e'⟩ := List.getElem?_eq_some_iff.mp hb
    have := List.pairwise_iff_getElem.mp hs i c hi' hc hi
    rw [e, e'] at this; exact this
  · obtain ⟨hi', e'⟩ := List.getElem?_eq_some_iff.mp hb
    rcases Nat.lt_or_eq_of_le hi with hi | rfl
    · have := List.pairwise_iff_getElem.mp hs c i hc hi' hi
      rw [e, e'] at this; omega
    · rw [← e, ← e']; exact Int.le_refl _

theorem slice_mem {R : List (P2 × List P2)} {os : List Int} (hs : os.Pairwise (· < ·)) (hk : R.map (·.1.1) = os) {lo hi : Nat} {z : P2 × List P2} :
    z ∈ (R.drop lo).take (hi + 1 - lo) ↔ z ∈ R ∧ lo ≤ posI os z.1.1 ∧ posI os z.1.1 ≤ hi := by
  have hat : ∀ (c : Nat) z, R[c]? = some z → posI os z.1.1 = c := fun c z h => posI_idx hs (by rw [← hk, List.getElem?_map, h]; rfl)
  constructor
  · intro h
    obtain ⟨d, hd, e⟩ := List.mem_iff_getElem.mp h
    have hd' := hd
    rw [List.length_take, List.length_drop] at hd'
    rw [List.getElem_take, List.getElem_drop] at e
    have e' : R[lo + d]? = some z := by rw [← e]; exact List.getElem?_eq_getElem _
    have := hat _ _ e'
    exact ⟨List.mem_of_getElem? e', by omega, by omega⟩
  · rintro ⟨h, h1, h2⟩
    obtain ⟨c, hc, e⟩ := List.mem_iff_getElem.mp h
    have e' : R[c]? = some z := by rw [← e]; exact List.getElem?_eq_getElem _
    have := hat _ _ e'
    refine List.mem_iff_getElem.mpr ⟨c - lo, ?_, ?_⟩
    · rw [List.length_take, List.length_drop]; omega
    · rw [List.getElem_take, List.getElem_drop]
      have : lo + (c - lo) = c := by omega
      simp only [this]; exact e

theorem Apart.perm {ps qs : List P2} (h : Apart ps) (p : qs.Perm ps) : Apart qs := ⟨(p.map _).nodup_iff.mpr h.keys, (p.map _).nodup_iff.mpr h.ranks⟩
theorem pf_of {k : Nat} {os : List Int} {ps : List P2} (hk : k ≤ 7) (hlen : ps.length ≤ 7) (hA : Apart ps) (hs : os.Pairwise (· < ·)) (hp : os.Perm (ps.map (·.1))) : PF k os ps (dueF 7 ps) := by
  have G := dueF_good 7 ps hlen hA
  have fold : ∀ wy : List P2, wy.Perm ps → foldT wy = dueF 7 ps := fun wy hw => (foldT_good _ wy rfl (hA.perm hw)).eq G fun x => hw.mem_iff
  have hsz : (dueF 7 ps).size = ps.length := by rw [← fold ps (List.Perm.refl _), foldT_size]
  have hkeys : (rowsP (dueF 7 ps) []).map (·.1.1) = os := by
    have e : (rowsP (dueF 7 ps) []).map (·.1.1) = (inord (dueF 7 ps)).map (·.1) := by rw [← rowsP_fst _ [], List.map_map]; rfl
    rw [e]
    refine sorted_eq (List.pairwise_map.mpr (inord_sorted G.bst)) hs fun x => ?_
    rw [hp.mem_iff, List.mem_map, List.mem_map]
    constructor
    · rintro ⟨y, h1, h2⟩; exact ⟨y, (G.mem y).mp h1, h2⟩
    · rintro ⟨y, h1, h2⟩; exact ⟨y, (G.mem y).mpr h1, h2⟩
  have hin : ∀ x ∈ rowsP (dueF 7 ps) [], x.1.1 ∈ os := fun x hx => by rw [← hkeys]; exact List.mem_map_of_mem (f := fun z : P2 × List P2 => z.1.1) hx
  have hlone : Lone (dueF 7 ps) := fun x hx y hy e => nodup_map_inj hA.ranks ((G.mem x).mp hx) ((G.mem y).mp hy) e
  have hout : ∀ x ∈ rowsP (dueF 7 ps) [], outT (dueF 7 ps) x.1.1 = dueF 7 (ps.filter fun p => !decide (p = x.1)) := fun x hx => by
    obtain ⟨o1, o2, o3⟩ := out_good (k := x.1.1) G.bst G.hp hlone
    have G2 := dueF_good 7 (ps.filter fun p => !decide (p = x.1)) (Nat.le_trans (List.length_filter_le _ _) hlen) (hA.filter _)
    refine one_tree o1 o2 G2.bst G2.hp fun z => ?_
    rw [o3, G2.mem, G.mem, List.mem_filter]
    have hx1 := (G.mem _).mp (rows_mem hx)
    constructor
    · rintro ⟨h1, h2⟩; exact ⟨h1, by simp only [Bool.not_eq_true', decide_eq_false_iff_not]; exact fun e => h2 (by rw [e])⟩
    · rintro ⟨h1, h2⟩
      simp only [Bool.not_eq_true', decide_eq_false_iff_not] at h2
      exact ⟨h1, fun e => h2 (nodup_map_inj hA.keys h1 hx1 e)⟩
  refine { len := hlen, klen := hk, size := by omega, due := rfl, ways := fun wy hwy => ?_, keys := hkeys, sorted := hs, cond := fun x hx y hy hne => ?_, idx := fun x hx => ?_, incr := fun x hx i hi => ?_, found := fun x hx => found_of G.bst (rows_mem hx), out := hout, above := fun x hx => ?_, outsize := fun x hx => ?_ }
  · have hperm : wy.Perm ps := by
      simp only [waysP, List.mem_cons, List.not_mem_nil, or_false] at hwy
      rcases hwy with rfl | rfl | rfl | rfl
      · exact List.Perm.refl _
      · exact List.reverse_perm _
      · exact sortP_perm _
      · exact List.perm_append_comm.trans (List.Perm.of_eq (List.take_append_drop _ _))
    exact ⟨fold wy hperm, by rw [hperm.length_eq]; exact hlen⟩
  · have habove := rows_above G.bst G.hp (fun a ha => by cases ha) hx (rows_mem hy) hne
    rw [habove]
    have hiff : ∀ z ∈ rowsP (dueF 7 ps) [], (min x.1.1 y.1.1 ≤ z.1.1 ∧ z.1.1 ≤ max x.1.1 y.1.1) ↔ (min (posI os x.1.1) (posI os y.1.1) ≤ posI os z.1.1 ∧ posI os z.1.1 ≤ max (posI os x.1.1) (posI os y.1.1)) := fun z hz => by
      have hle : ∀ a b, a ∈ os → b ∈ os → (a ≤ b ↔ posI os a ≤ posI os b) := fun a b ha hb => by
        constructor
        · exact posI_mono os
        · intro h
          rcases Int.lt_or_le b a with h1 | h1
          · have := posI_strict os hb h1; omega
          · exact h1
      have e1 := hle _ _ (hin x hx) (hin z hz)
      have e2 := hle _ _ (hin y hy) (hin z hz)
      have e3 := hle _ _ (hin z hz) (hin x hx)
      have e4 := hle _ _ (hin z hz) (hin y hy)
      omega
    have hmem : ∀ z : P2 × List P2, z ∈ (((rowsP (dueF 7 ps) []).drop (min (posI os x.1.1) (posI os y.1.1))).take (max (posI os x.1.1) (posI os y.1.1) + 1 - min (posI os x.1.1) (posI os y.1.1))) ↔ z ∈ rowsP (dueF 7 ps) [] ∧ _ := fun z => slice_mem hs hkeys
    have hyin : y.1.2 ∈ ((((rowsP (dueF 7 ps) []).drop (min (posI os x.1.1) (posI os y.1.1))).take (max (posI os x.1.1) (posI os y.1.1) + 1 - min (posI os x.1.1) (posI os y.1.1))).map (·.1.2)) :=
      List.mem_map_of_mem (f := fun z : P2 × List P2 => z.1.2) ((hmem y).mpr ⟨hy, by omega, by omega⟩)
    constructor
    · intro h
      refine Int.le_antisymm ?_ (minI_le _ _ hyin)
      obtain ⟨z, hz, e⟩ := List.mem_map.mp (minI_mem _ (List.ne_nil_of_mem hyin))
      rw [← e]
      have hz' := (hmem z).mp hz
      have := (hiff z hz'.1).mpr hz'.2
      exact h z.1 (rows_mem hz'.1) this.1 this.2
    · intro h z hz h1 h2
      obtain ⟨w, hw, e⟩ : ∃ w ∈ rowsP (dueF 7 ps) [], w.1 = z := by
        rw [← rowsP_fst _ []] at hz
        obtain ⟨w, hw, e⟩ := List.mem_map.mp hz
        exact ⟨w, hw, e⟩
      subst e
      rw [h]
      exact minI_le _ _ (List.mem_map_of_mem (f := fun z : P2 × List P2 => z.1.2) ((hmem w).mpr ⟨hw, (hiff w hw).mp ⟨h1, h2⟩⟩))
  · rw [← List.length_map (f := fun z : P2 × List P2 => z.1.1), hkeys]; exact posI_len (hin x hx)
  · have hpw := rows_incr G.hp List.Pairwise.nil (fun a ha => by cases ha) hx
    have := List.pairwise_iff_getElem.mp hpw i (i + 1) (by omega) hi (Nat.lt_succ_self _)
    rw [List.getD_eq_getElem?_getD, List.getD_eq_getElem?_getD, List.getElem?_eq_getElem (by omega), List.getElem?_eq_getElem hi]
    exact this
  · have := rows_len hx; simp only [List.length_nil] at this; omega
  · rw [hout x hx]
    have G2 := dueF_good 7 (ps.filter fun p => !decide (p = x.1)) (Nat.le_trans (List.length_filter_le _ _) hlen) (hA.filter _)
    have e : foldT (ps.filter fun p => !decide (p = x.1)) = dueF 7 (ps.filter fun p => !decide (p = x.1)) := (foldT_good _ _ rfl (hA.filter _)).eq G2 fun x => Iff.rfl
    rw [← e, foldT_size]; exact Nat.le_trans (List.length_filter_le _ _) hlen

theorem ranks1_keys (st : Int) (ps : List P2) : (ranks1 st ps).map (·.1) = ps.map (·.1) := by unfold ranks1; rw [List.map_map]; rfl
theorem byPlace_keys (ps : List P2) : (byPlace ps).map (·.1) = ps.map (·.1) := by
  unfold byPlace
  rw [List.map_map]
  conv => rhs; rw [← range_getD ps]
  rw [List.map_map]; rfl
theorem finP_keys (ps : List P2) : (finP ps).map (·.1) = ps.map (·.1) := by unfold finP; split; rfl; exact byPlace_keys ps
theorem finP_ranks (ps : List P2) : ((finP ps).map (·.2)).Nodup := by
  unfold finP
  split
  · rename_i h
    have := (foldl_addK_eq (ps.map (·.2)) [] List.nodup_nil).mp (by rw [h, List.length_map]; simp)
    simpa using this
  · unfold byPlace
    rw [List.map_map]
    have e : ((fun x : P2 => x.2) ∘ fun i : Nat => ((ps.getD i (0, 0)).1, (i : Int))) = fun i : Nat => (i : Int) := rfl
    rw [e]
    exact List.Pairwise.map (R := (· ≠ ·)) _ (fun a b h e => h (by omega)) List.nodup_range
theorem nodup_of_lt {l : List Int} (h : l.Pairwise (· < ·)) : l.Nodup := h.imp fun h => Int.ne_of_lt h

theorem law_pf (ns : List Int) : PF (stepV ns (afterL (ns.take 7)).2).toNat (afterL (ns.take 7)).1 (finP (ranks1 (stepV ns (afterL (ns.take 7)).2) (afterL (ns.take 7)).2)) (dueF 7 (finP (ranks1 (stepV ns (afterL (ns.take 7)).2) (afterL (ns.take 7)).2))) := by
  have I := afterL_ok (ns.take 7)
  have hl : (afterL (ns.take 7)).2.length ≤ 7 := by have := I.len; rw [List.length_take] at this; omega
  have hb := stepV_bound ns hl
  refine pf_of (by omega) ?_ ⟨?_, finP_ranks _⟩ I.sorted ?_
  · rw [finP_len]; unfold ranks1; rw [List.length_map]; exact hl
  · rw [finP_keys, ranks1_keys]
    exact I.perm.nodup_iff.mp (nodup_of_lt I.sorted)
  · rw [finP_keys, ranks1_keys]; exact I.perm
structure All (K : Frag) (h₀ : Heap) (C fI fC aIns aBis aPut aDue aBoth aOut aRows : Addr) : Prop where
  names : Names h₀
  cls : ClsC K h₀ C fC
  cmp : StandsM h₀ cmpNames fC cmpStmt
  mk' : MakesC K h₀ C fI
  tc : NameIs h₀ (Str.ofString "TupleComp") (.ref C)
  ins : StandsD h₀ 1 (Str.ofString "insort_left") bisNames bisDd aIns [2, 4]
  bis : StandsD h₀ 2 (Str.ofString "bisect_left") bisNames bisDd aBis [2, 4]
  put : Stands h₀ 6 (Str.ofString "_law_put") putNames aPut
  due : Stands h₀ 7 (Str.ofString "_law_due") dueNames aDue
  both : Stands h₀ 8 (Str.ofString "_law_both") bothNames aBoth
  out : Stands h₀ 9 (Str.ofString "_law_out") outNames aOut
  rows : Stands h₀ 10 (Str.ofString "_law_rows") rowsNames aRows

section
variable {prog : Program} {w : World} {K : Frag} {h₀ : Heap} {C fI fC aIns aBis aPut aDue aBoth aOut aRows : Addr} {A : Around} {q : Str} {cd : Value} {L a : Addr}
theorem law_body (Z : All K h₀ C fI fC aIns aBis aPut aDue aBoth aOut aRows) (room : Room A 14) (hL : h₀.objs.size ≤ L) {ns : List Int} (hns : ns.length ≤ 63) {As : Addr} {s : Shared} {Q : Flow → Shared → Prop} {E : Value → Shared → Prop} (g : Ext h₀ s.heap) (ok : OK C No h₀ (lawEnv q L a cd) [(Str.ofString "script", .at As (intsD ns))] s.heap)
    (hQ : ∀ h' tk', Ext h₀ h' → Q (.ret (.bool true)) { s with heap := h', toks := tk' }) :
    wpAny (model prog w) A (execs (fnBody 11) (lawEnv q L a cd)) Q E s := by
  have r12 : Room A 12 := room.le (by decide)
  have I := afterL_ok (ns.take 7)
  have hl : (afterL (ns.take 7)).2.length ≤ 7 := by have := I.len; rw [List.length_take] at this; omega
  have hb := stepV_bound ns hl
  have P := law_pf ns
  obtain ⟨k, hk⟩ : ∃ k : Nat, stepV ns (afterL (ns.take 7)).2 = (k : Int) := ⟨(stepV ns (afterL (ns.take 7)).2).toNat, by omega⟩
  have hk' : (stepV ns (afterL (ns.take 7)).2).toNat = k := by omega
  have s2 := stmt2 (prog := prog) (w := w) (C := C) (X := No) (q := q) (cd := cd) (L := L) (a := a) Z.names room (ns := ns) (os := (afterL (ns.take 7)).1) hl
  rw [hk'] at P
  rw [hk] at P s2 hb
  generalize hps : finP (ranks1 (k : Int) (afterL (ns.take 7)).2) = ps at P
  have hlr : (ranks1 (k : Int) (afterL (ns.take 7)).2).length ≤ 7 := by unfold ranks1; rw [List.length_map]; exact hl
  have s4 := stmt4 (prog := prog) (w := w) (C := C) (X := No) (q := q) (cd := cd) (L := L) (a := a) Z.names room (ns := ns) (os := (afterL (ns.take 7)).1) (ps := ranks1 (k : Int) (afterL (ns.take 7)).2) (ps0 := (afterL (ns.take 7)).2) (st := (k : Int)) hlr
  rw [hps] at s4
  have rest : ExB prog w C No h₀ A (lawEnv q L a cd) (ρA ns (afterL (ns.take 7)).1 (afterL (ns.take 7)).2) ((fnBody 11).drop 2) (.ret (.bool true)) := by
    refine exb_next s2 (exb_next (stmt3 Z.names room hb.1 hb.2 hl fun p hp => ?_) (exb_next s4 (exb_next (stmt5 Z.names Z.mk' Z.tc Z.due r12 hL P.len) (exb_next (stmt6 Z.names Z.cls Z.cmp Z.put r12 P.len P.klen P.ways P.size) (exb_next (stmt7 Z.names Z.rows r12 P) (exb_next (stmt8 Z.names r12 P) (exb_next (stmt9 Z.names Z.bis Z.both Z.out Z.due r12 P) (exb_ret (exs_return ev_bool)))))))))
    obtain ⟨i, hi, e⟩ := List.mem_iff_getElem.mp hp
    have := I.ranks i p (by rw [← e]; exact List.getElem?_eq_getElem _)
    omega
  refine wpAny_execs_cons (stmt0 room.hh g ok fun h₁ t₁ Lo Lp h1 h2 h3 h4 h5 h6 h7 g₁ ok₁ => ?_)
  refine wpAny_execs_cons (stmt1 (n := 12) Z.names.len Z.bis Z.ins room hns h1 h2 h3 h4 h5 g₁ h6 h7 ok₁ fun h₂ t₂ g₂ ok₂ => ?_)
  refine rest _ _ _ g₂ ok₂.dats fun f h₃ t₃ k₃ o₃ => ?_
  obtain ⟨v, rfl, hv⟩ := o₃
  cases hv
  exact hQ h₃ t₃ (k₃.low ok₂ g₂)
end
section
variable {K : Frag} {h : Heap} {mg mb : Str → Option Value}
theorem nm_def {x : Str} {v : Value} (X : K.In h) (G : h.Ns mainGlobals mg) (B : h.Ns builtinsNs mb) (e : nsIn K mainGlobals x = some (some v)) : NameIs h x v := ⟨mg, mb, G, B, .inl (mg_of X G e)⟩
theorem nm_blt {x : Str} {v : Value} (X : K.In h) (G : h.Ns mainGlobals mg) (B : h.Ns builtinsNs mb) (hb : ∀ x : Str, x ≠ "__name__" → mb x = bootBuiltins x) (e : nsIn K mainGlobals x = some none) (hv : bootBuiltins x = some v) (hn : x ≠ "__name__") : NameIs h x v := ⟨mg, mb, G, B, .inr ⟨mg_none_of X G e, (hb x hn).trans hv⟩⟩
theorem names_of (X : K.In h) (G : h.Ns mainGlobals mg) (B : h.Ns builtinsNs mb) (hb : ∀ x : Str, x ≠ "__name__" → mb x = bootBuiltins x) (nl : h.NoLimit)
    (e : ([Str.ofString "len", Str.ofString "sum", Str.ofString "max", Str.ofString "min", Str.ofString "dict", Str.ofString "enumerate", Str.ofString "sorted", Str.ofString "range"].all fun x => nsIn K mainGlobals x == some none) = true) : Names h := by
  have e' : ∀ x ∈ [Str.ofString "len", Str.ofString "sum", Str.ofString "max", Str.ofString "min", Str.ofString "dict", Str.ofString "enumerate", Str.ofString "sorted", Str.ofString "range"], nsIn K mainGlobals x = some none := fun x hx => by simpa using List.all_eq_true.mp e x hx
  exact {
    gr := ⟨mg, mb, G, B⟩
    len := nm_blt X G B hb (e' _ (by simp)) (by decide +kernel) (by decide)
    sum := nm_blt X G B hb (e' _ (by simp)) (by decide +kernel) (by decide)
    max := nm_blt X G B hb (e' _ (by simp)) (by decide +kernel) (by decide)
    min := nm_blt X G B hb (e' _ (by simp)) (by decide +kernel) (by decide)
    dict := nm_blt X G B hb (e' _ (by simp)) (by decide +kernel) (by decide)
    enum := nm_blt X G B hb (e' _ (by simp)) (by decide +kernel) (by decide)
    sorted := nm_blt X G B hb (e' _ (by simp)) (by decide +kernel) (by decide)
    range := nm_blt X G B hb (e' _ (by simp)) (by decide +kernel) (by decide)
    nolimit := nl }

/-- a def in the written part -/
structure FnIn (K : Frag) (a : Addr) (fd : FuncData) (names : List Str) (body : List Stmt) (scope : Scope) : Prop where
  at' : ∃ c d sl, K.lookup a = some ⟨c, d, .func fd, sl⟩
  code : codeIn K fd.code fd.qualname = true
  body : fd.body = .stmts body
  clo : fd.closure = []
  sc : fd.scope = scope
  gl : fd.globals = mainGlobals
  bl : fd.builtins = builtinsNs
theorem stands_of {i : Nat} {f : Str} {names : List Str} {a : Addr} {fd : FuncData} (X : K.In h) (nm : NameIs h f (.ref a)) (nl : h.NoLimit) (F : FnIn K a fd names (fnBody i) (scOf i)) (hb : ∀ vals : List Value, vals.length = names.length → bindArgs fd ⟨vals, []⟩ = pure (names.zip vals)) : Stands h i f names a := by
  obtain ⟨⟨c, d, sl, e⟩, h1, h2, h3, h4, h5, h6⟩ := F
  exact ⟨nm, ⟨_, fd, X _ _ e, rfl, codeRec_of X h1, h2, h3, h4, h5, h6, hb⟩, nl⟩
theorem standsM_of {names : List Str} {a : Addr} {fd : FuncData} {st : Stmt} (X : K.In h) (nl : h.NoLimit) (F : FnIn K a fd names (bodyS st) (scopeS st)) (hb : ∀ vals : List Value, vals.length = names.length → bindArgs fd ⟨vals, []⟩ = pure (names.zip vals)) : StandsM h names a st := by
  obtain ⟨⟨c, d, sl, e⟩, h1, h2, h3, h4, h5, h6⟩ := F
  exact ⟨⟨_, fd, X _ _ e, rfl, codeRec_of X h1, h2, h3, h4, h5, h6, hb⟩, nl⟩
theorem two_of {a b : Str} {fd : FuncData} (e : ∀ x y, bindArgs fd ⟨[x, y], []⟩ = pure [(a, x), (b, y)]) : ∀ vals : List Value, vals.length = [a, b].length → bindArgs fd ⟨vals, []⟩ = pure ([a, b].zip vals)
  | [x, y], _ => e x y
theorem one_of {a : Str} {fd : FuncData} (e : ∀ x, bindArgs fd ⟨[x], []⟩ = pure [(a, x)]) : ∀ vals : List Value, vals.length = [a].length → bindArgs fd ⟨vals, []⟩ = pure ([a].zip vals)
  | [x], _ => e x
theorem three_of {a b c : Str} {fd : FuncData} (e : ∀ x y z, bindArgs fd ⟨[x, y, z], []⟩ = pure [(a, x), (b, y), (c, z)]) : ∀ vals : List Value, vals.length = [a, b, c].length → bindArgs fd ⟨vals, []⟩ = pure ([a, b, c].zip vals)
  | [x, y, z], _ => e x y z
theorem standsD_of {i : Nat} {f : Str} {a : Addr} {fd : FuncData} {tk : Tok} (X : K.In h) (nm : NameIs h f (.ref a)) (nl : h.NoLimit) (F : FnIn K a fd bisNames (fnBody i) (scOf i))
    (b2 : ∀ S x y, peek K S (bindArgs fd ⟨[x, y], []⟩) = some (bisNames.zip [x, y, .int 0 tk, .none, .none])) (b4 : ∀ S x y z u, peek K S (bindArgs fd ⟨[x, y, z, u], []⟩) = some (bisNames.zip [x, y, z, u, .none])) : StandsD h i f bisNames bisDd a [2, 4] := by
  obtain ⟨⟨c, d, sl, e⟩, h1, h2, h3, h4, h5, h6⟩ := F
  refine ⟨nm, ⟨_, fd, X _ _ e, rfl, codeRec_of X h1, h2, h3, h4, h5, h6, fun k hk => ?_⟩, nl⟩
  simp only [List.mem_cons, List.not_mem_nil, or_false] at hk
  rcases hk with rfl | rfl
  · refine ⟨[.int 0 tk, .none, .none], rfl, fun X h => .cons (.int _ _) (.cons .none (.cons .none .nil)), fun s vals g hl => ?_⟩
    match vals, hl with
    | [x, y], _ => exact kp_binds (X.keeps g) fun S => b2 S x y
  · refine ⟨[.none], rfl, fun X h => .cons .none .nil, fun s vals g hl => ?_⟩
    match vals, hl with
    | [x, y, z, u], _ => exact kp_binds (X.keeps g) fun S => b4 S x y z u
end

theorem room_caller (env : Env) : Room (callerA.deeper env) 14 := ⟨rfl, by show callerA.depth + 1 + 14 < recursionLimit; decide, by show callerA.units + 3 + 8 * 14 + 100 < cLine; decide⟩
theorem cells_mem {cm : Str → Option Value} : ∀ {cs : List (Str × Addr)} {own : List (Addr × Obj)}, CellsAre cm cs own → ∀ p ∈ cs, ∃ o, (p.2, o) ∈ own ∧ o.data = .cell (cm p.1)
  | _, _, .nil, p, hp => by cases hp
  | _, _, .cons hd r, p, hp => by
    rcases List.mem_cons.mp hp with rfl | hp
    · exact ⟨_, .head _, hd⟩
    · obtain ⟨o, h1, h2⟩ := cells_mem r p hp
      exact ⟨o, .tail _ h1, h2⟩
theorem well_ints {P : Params} {h : Heap} : ∀ {ns : List Int} {vs : List Value}, WellAll P h vs (ofPys (ns.map .int)) → VA No h vs (ns.map .int)
  | [], _, x => by cases x; exact .nil
  | n :: ns, _, x => by
    cases x with
    | cons a r => cases a; exact .cons (.int _ _) (well_ints r)
theorem well_list {P : Params} {h : Heap} {a : Addr} {ns : List Int} (W : Well P h (.ref a) (ofPy (.list (ns.map .int)))) : V No h (.ref a) (intsD ns) := by
  rw [ofPy] at W
  cases W with
  | list e r => exact .lst (fun z => z) e (well_ints r)
theorem head_ok {C : Addr} {h₀ h₁ : Heap} {L a : Addr} {q : Str} {cd : Value} {m cm : Str → Option Value} {own : List (Addr × Obj)} {As : Addr} {ns : List Int} (F : Fr h₀ L h₁ m) (hL : L = h₀.objs.size) (N : News h₀ L h₁ own) (Y : CellsAre cm (lawEnv q L a cd).cells own)
    (hm : m (Str.ofString "script") = some (.ref As)) (hV : V No h₀ (.ref As) (intsD ns)) : OK C No h₀ (lawEnv q L a cd) [(Str.ofString "script", .at As (intsD ns))] h₁ := by
  refine ⟨⟨m, F.ns, fun y e hy hl => ?_⟩, fun y e hy hk => ?_, fun p hp => ?_, fun x y c hx hy => ?_, fun b o e => ?_, fun b hb => hb.elim⟩
  · have := mem_of_look hy
    simp only [List.mem_cons, List.not_mem_nil, or_false, Prod.mk.injEq] at this
    obtain ⟨rfl, rfl⟩ := this
    exact ⟨_, hm, rfl, hV.mono (Ext.seq F.keep)⟩
  · have := mem_of_look hy
    simp only [List.mem_cons, List.not_mem_nil, or_false, Prod.mk.injEq] at this
    obtain ⟨rfl, rfl⟩ := this
    exact absurd hk (loc_not rfl)
  · obtain ⟨o, h1, h2⟩ := cells_mem Y p hp
    exact ⟨_, o, (N _ h1).1, h2⟩
  · have e : (lawEnv q L a cd).cells = [(Str.ofString "above", L + 3), (Str.ofString "pair", L + 2), (Str.ofString "step", L + 1)] := rfl
    rw [e] at hx hy
    have h1 := mem_of_look hx
    have h2 := mem_of_look hy
    simp only [List.mem_cons, List.not_mem_nil, or_false, Prod.mk.injEq] at h1 h2
    rcases h1 with ⟨rfl, rfl⟩ | ⟨rfl, rfl⟩ | ⟨rfl, rfl⟩ <;> rcases h2 with ⟨rfl, h2⟩ | ⟨rfl, h2⟩ | ⟨rfl, h2⟩ <;> first | rfl | (exact absurd (Nat.add_left_cancel h2) (by decide))
  · have := Heap.lt_size e
    refine ⟨fun z => ?_, fun p hp z => ?_⟩
    · have z' : b = L := z
      rw [z', hL] at this; exact Nat.lt_irrefl _ this
    · have h1 := law_cells p hp
      rw [z] at this; rw [hL] at h1; exact Nat.lt_irrefl _ (Nat.lt_trans h1 this)
end Mine

open PySem PySem.W PySem.Calls PyProof.Rows Mine
set_option maxRecDepth 100000 in
set_option maxHeartbeats 8000000 in
theorem PySem.Challenge.cw_he0001_01_holds : PySem.Challenge.rw_he0001_01.Holds := by
  w_on; o_law; k_head; (case hw => w_witness2)
  w_strict (k_go0; (
    rename Frag.In _ _ => X'
    rename PyProof.Rows.Top _ _ _ _ _ _ => T'
    rename Fr _ _ _ _ => F'
    rename News _ _ _ _ => N'
    rename CellsAre _ _ _ => Y'
    rename Well _ _ _ _ => W'
    rename List Int => ns'
    have hlen' : ns'.length ≤ 63 := by omega
    rename Shared.gens _ = #[] => hg'
    have nl' := T'.nolimit
    refine law_body (K := _) (C := 56) (fI := 46) (fC := 53) (aIns := 23) (aBis := 32) (aPut := 67) (aDue := 72) (aBoth := 79) (aOut := 86) (aRows := 93) {
      names := names_of X' T'.g T'.b T'.builtins nl' (by rfl)
      tc := nm_def X' T'.g T'.b (by rfl)
      put := stands_of X' (nm_def X' T'.g T'.b (by rfl)) nl' ⟨⟨_, _, _, rfl⟩, rfl, rfl, rfl, rfl, rfl, rfl⟩ (three_of fun x y z => rfl)
      due := stands_of X' (nm_def X' T'.g T'.b (by rfl)) nl' ⟨⟨_, _, _, rfl⟩, rfl, rfl, rfl, rfl, rfl, rfl⟩ (one_of fun x => rfl)
      both := stands_of X' (nm_def X' T'.g T'.b (by rfl)) nl' ⟨⟨_, _, _, rfl⟩, rfl, rfl, rfl, rfl, rfl, rfl⟩ (two_of fun x y => rfl)
      out := stands_of X' (nm_def X' T'.g T'.b (by rfl)) nl' ⟨⟨_, _, _, rfl⟩, rfl, rfl, rfl, rfl, rfl, rfl⟩ (two_of fun x y => rfl)
      rows := stands_of X' (nm_def X' T'.g T'.b (by rfl)) nl' ⟨⟨_, _, _, rfl⟩, rfl, rfl, rfl, rfl, rfl, rfl⟩ (two_of fun x y => rfl)
      cmp := standsM_of X' nl' ⟨⟨_, _, _, rfl⟩, rfl, rfl, rfl, rfl, rfl, rfl⟩ (three_of fun x y z => rfl)
      ins := standsD_of (tk := 189) X' (nm_def X' T'.g T'.b (by rfl)) nl' ⟨⟨_, _, _, rfl⟩, rfl, rfl, rfl, rfl, rfl, rfl⟩ (fun S x y => rfl) (fun S x y z u => rfl)
      bis := standsD_of (tk := 202) X' (nm_def X' T'.g T'.b (by rfl)) nl' ⟨⟨_, _, _, rfl⟩, rfl, rfl, rfl, rfl, rfl, rfl⟩ (fun S x y => rfl) (fun S x y z u => rfl)
      cls := ⟨X', by rfl, by rfl, by rfl, by rfl, by rfl, ⟨_, _, X' _ _ rfl, rfl⟩⟩
      mk' := ⟨X', by rfl, by rfl, by rfl, by rfl, by rfl, by rfl, by rfl, by rfl, standsM_of X' nl' ⟨⟨_, _, _, rfl⟩, rfl, rfl, rfl, rfl, rfl, rfl⟩ (two_of fun x y => rfl)⟩ }
      (room_caller _) (Nat.le_refl _) hlen' F'.keep (head_ok F' rfl N' Y' rfl (well_list W')) fun h' tk' k' => ?_
    exact ⟨.inl ⟨.bool true, .bool true, [], rfl, fun _ => rfl, .bool true, postW_of (by wrow_shape) (w_eq_bool (w_res rfl) w_lit) rfl, unshared_nil⟩, k', rfl, hg'⟩))
