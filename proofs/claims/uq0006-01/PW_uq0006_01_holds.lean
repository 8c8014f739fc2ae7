import PyProof.Rows.All
import PyProof.GenObj
import PyProof.GenQ
import Wide.All
import OpenK.AllK
import Wide.FinOn
import PySem.Challenge.RW_uq0006_01
open PySem PySem.W PyProof.Rows PySem.Spec PySem.Calls
set_option Elab.async false
set_option linter.unusedVariables false
set_option genInjectivity false
set_option genSizeOf false
set_option maxRecDepth 100000
set_option maxHeartbeats 8000000
namespace Mine

inductive AV where
  | none
  | bool (b : Bool)
  | int (i : Int)
  | str (s : List Nat)
  | tup (l : List AV)
  | lst (l : List AV)
  | range (a b c : Int)
  | fn (f : Addr)

mutual
inductive VR (h : Heap) (B : Addr → Prop) : AV → Value → Prop
  | none : VR h B .none .none
  | bool {b : Bool} : VR h B (.bool b) (.bool b)
  | int {i : Int} {t : Tok} : VR h B (.int i) (.int i t)
  | str {x : List Nat} {t : Tok} : VR h B (.str x) (.str ⟨x.toArray⟩ t)
  | tup {a : Addr} {l : List AV} {vs : List Value} : h.get? a = some { cls := .type "tuple", data := .seq vs.toArray } → ¬ B a → VRs h B l vs → VR h B (.tup l) (.ref a)
  | lst {a : Addr} {l : List AV} {vs : List Value} : h.PlainList a vs.toArray → ¬ B a → VRs h B l vs → VR h B (.lst l) (.ref a)
  | range {r : Addr} {a b c : Int} {t u v : Tok} : IsRange h r a b c t u v → ¬ B r → VR h B (.range a b c) (.ref r)
  | fn {f : Addr} : VR h B (.fn f) (.ref f)
inductive VRs (h : Heap) (B : Addr → Prop) : List AV → List Value → Prop
  | nil : VRs h B [] []
  | cons {a : AV} {v : Value} {l : List AV} {vs : List Value} : VR h B a v → VRs h B l vs → VRs h B (a :: l) (v :: vs)
end

theorem no {α : Type} {c : α} {P : Prop} (h : (none : Option α) = some c) : P := nomatch h

section
variable {h h' : Heap} {B B' : Addr → Prop}
theorem plain_at {c : Addr} {v : Array Value} (H : h.PlainList c v) (e : ∀ o, h.get? c = some o → h'.get? c = some o) : h'.PlainList c v := by
  obtain ⟨o, ho⟩ := H; exact ⟨o, e _ ho⟩
theorem plain_live {a : Addr} {vs : Array Value} (H : h.PlainList a vs) : ∃ o, h.get? a = some o := by
  obtain ⟨o, ho⟩ := H; exact ⟨_, ho⟩
theorem plain_isList {a : Addr} {vs : Array Value} (H : h.PlainList a vs) : h.IsList a vs := by
  obtain ⟨n, ho⟩ := H; exact ⟨_, ho, rfl, n, rfl⟩

theorem VR.mono2 (hk : ∀ b o, h.get? b = some o → ¬ B b → h'.get? b = some o) (hB : ∀ b o, h.get? b = some o → B' b → B b) : (∀ {a : AV} {v : Value}, VR h B a v → VR h' B' a v) ∧ ∀ {l : List AV} {vs : List Value}, VRs h B l vs → VRs h' B' l vs := by
  have tp : ∀ {a : Addr} {l : List AV} {vs : List Value}, h.get? a = some { cls := .type "tuple", data := .seq vs.toArray } → ¬ B a → VRs h B l vs → VRs h' B' l vs → VR h' B' (.tup l) (.ref a) := fun H n _ r => .tup (hk _ _ H n) (fun b => n (hB _ _ H b)) r
  have ls : ∀ {a : Addr} {l : List AV} {vs : List Value}, h.PlainList a vs.toArray → ¬ B a → VRs h B l vs → VRs h' B' l vs → VR h' B' (.lst l) (.ref a) := fun H n _ r => .lst (plain_at H fun o e => hk _ o e n) (fun b => let ⟨o, ho⟩ := plain_live H; n (hB _ o ho b)) r
  have rg : ∀ {r : Addr} {a b c : Int} {t u v : Tok}, IsRange h r a b c t u v → ¬ B r → VR h' B' (.range a b c) (.ref r) := fun H n => .range (hk _ _ H n) (fun b => n (hB _ _ H b))
  exact ⟨fun r => VR.rec (motive_1 := fun a v _ => VR h' B' a v) (motive_2 := fun l vs _ => VRs h' B' l vs) .none .bool .int .str tp ls rg .fn .nil (fun _ _ x r => .cons x r) r,
    fun r => VRs.rec (motive_1 := fun a v _ => VR h' B' a v) (motive_2 := fun l vs _ => VRs h' B' l vs) .none .bool .int .str tp ls rg .fn .nil (fun _ _ x r => .cons x r) r⟩
theorem VR.mono (hk : ∀ b o, h.get? b = some o → ¬ B b → h'.get? b = some o) (hB : ∀ b o, h.get? b = some o → B' b → B b) {a : AV} {v : Value} (r : VR h B a v) : VR h' B' a v := (VR.mono2 hk hB).1 r
theorem VRs.mono (hk : ∀ b o, h.get? b = some o → ¬ B b → h'.get? b = some o) (hB : ∀ b o, h.get? b = some o → B' b → B b) {l : List AV} {vs : List Value} (r : VRs h B l vs) : VRs h' B' l vs := (VR.mono2 hk hB).2 r
theorem VR.none_inv {v : Value} (r : VR h B .none v) : v = .none := by cases r; rfl
theorem VR.bool_inv {b : Bool} {v : Value} (r : VR h B (.bool b) v) : v = .bool b := by cases r; rfl
theorem VR.int_inv {i : Int} {v : Value} (r : VR h B (.int i) v) : ∃ t, v = .int i t := by cases r; exact ⟨_, rfl⟩
theorem VR.str_inv {x : List Nat} {v : Value} (r : VR h B (.str x) v) : ∃ t, v = .str ⟨x.toArray⟩ t := by cases r; exact ⟨_, rfl⟩
theorem VR.fn_inv {f : Addr} {v : Value} (r : VR h B (.fn f) v) : v = .ref f := by cases r; rfl
theorem VR.tup_inv {l : List AV} {v : Value} (r : VR h B (.tup l) v) : ∃ a vs, v = .ref a ∧ h.get? a = some { cls := .type "tuple", data := .seq (List.toArray vs) } ∧ ¬ B a ∧ VRs h B l vs := by
  cases r; exact ⟨_, _, rfl, by assumption, by assumption, by assumption⟩
theorem VR.lst_inv {l : List AV} {v : Value} (r : VR h B (.lst l) v) : ∃ a vs, v = .ref a ∧ h.PlainList a (List.toArray vs) ∧ ¬ B a ∧ VRs h B l vs := by
  cases r; exact ⟨_, _, rfl, by assumption, by assumption, by assumption⟩
theorem VR.range_inv {a b c : Int} {v : Value} (r : VR h B (.range a b c) v) : ∃ x t u w, v = .ref x ∧ IsRange h x a b c t u w ∧ ¬ B x := by
  cases r; exact ⟨_, _, _, _, rfl, by assumption, by assumption⟩
theorem VRs.nil_inv {vs : List Value} (r : VRs h B [] vs) : vs = [] := by cases r; rfl
theorem VRs.cons_inv {a : AV} {l : List AV} {vs : List Value} (r : VRs h B (a :: l) vs) : ∃ v ws, vs = v :: ws ∧ VR h B a v ∧ VRs h B l ws := by
  cases r; exact ⟨_, _, rfl, by assumption, by assumption⟩
theorem VRs.one_inv {a : AV} {vs : List Value} (r : VRs h B [a] vs) : ∃ v, vs = [v] ∧ VR h B a v := by
  obtain ⟨v, ws, rfl, h1, h2⟩ := r.cons_inv
  cases h2.nil_inv
  exact ⟨v, rfl, h1⟩
theorem VRs.ind {P : List AV → List Value → Prop} (n : P [] []) (c : ∀ {a v l vs}, VR h B a v → VRs h B l vs → P l vs → P (a :: l) (v :: vs)) {l : List AV} {vs : List Value} (r : VRs h B l vs) : P l vs :=
  VRs.rec (motive_1 := fun _ _ _ => True) (motive_2 := fun l vs _ => P l vs) trivial trivial trivial trivial (fun _ _ _ _ => trivial) (fun _ _ _ _ => trivial) (fun _ _ => trivial) trivial n (fun h1 h2 _ ih => c h1 h2 ih) r
theorem VRs.length {l : List AV} {vs : List Value} (r : VRs h B l vs) : l.length = vs.length :=
  r.ind (P := fun l vs => l.length = vs.length) rfl fun _ _ ih => congrArg (· + 1) ih
theorem VRs.get {l : List AV} {vs : List Value} (r : VRs h B l vs) : ∀ {i : Nat} {a : AV}, l[i]? = some a → ∃ v, vs[i]? = some v ∧ VR h B a v :=
  r.ind (P := fun l vs => ∀ {i : Nat} {a : AV}, l[i]? = some a → ∃ v, vs[i]? = some v ∧ VR h B a v) (fun e => no e) fun {_ v _ _} x _ ih {i a} e => by
    cases i with
    | zero => cases e; exact ⟨v, rfl, x⟩
    | succ i => exact ih e
theorem VRs.get' {l : List AV} {vs : List Value} (r : VRs h B l vs) : ∀ {i : Nat} {v : Value}, vs[i]? = some v → ∃ a, l[i]? = some a ∧ VR h B a v :=
  r.ind (P := fun l vs => ∀ {i : Nat} {v : Value}, vs[i]? = some v → ∃ a, l[i]? = some a ∧ VR h B a v) (fun e => no e) fun {a _ _ _} x _ ih {i _} e => by
    cases i with
    | zero => cases e; exact ⟨a, rfl, x⟩
    | succ i => exact ih e
theorem VRs.append {l l' : List AV} {vs vs' : List Value} (r : VRs h B l vs) (r' : VRs h B l' vs') : VRs h B (l ++ l') (vs ++ vs') :=
  r.ind (P := fun l vs => VRs h B (l ++ l') (vs ++ vs')) r' fun x _ ih => .cons x ih
end

structure GC where
  prog : Program
  w : World
  K : Frag
  g : Heap
  p : Program
  loose : List PySem.Str
  mg : PySem.Str → Option Value
  mb : PySem.Str → Option Value
  Tab : Addr → Prop
  pl : Addr → Pos
  pq : Addr → PySem.Str
  st : Addr → Obj → Prop
structure GC.Ok (G : GC) : Prop where
  inK : G.K.In G.g
  top : TopRead G.p G.loose G.mg G.mb G.g
  sub : ∀ b o, G.g.get? b = some o → G.st b o
abbrev GC.M (G : GC) : Model := model G.prog G.w

structure FD where
  names : List PySem.Str
  scope : Scope
  clo : List (PySem.Str × Addr) := []
  code : Option Addr := none
  qual : Option PySem.Str := none

structure AS where
  loc : List (Option AV)
  own : Option (Nat × List AV)

structure EnvOk (fd : FD) (env : Env) : Prop where
  scope : env.scope = fd.scope
  globals : env.globals = mainGlobals
  builtins : env.builtins = builtinsNs
  kind : fd.scope.kind = .function
  cl : ∀ x, fd.scope.names.lookup x = some .cell → ∃ c, env.cells.lookup x = some c
  clo : ∀ x c, fd.clo.lookup x = some c → env.cells.lookup x = some c
  code : ∀ c, fd.code = some c → env.code = .ref c
  qual : ∀ q, fd.qual = some q → env.qual = q

structure Room (n : Nat) (A : Around) : Prop where
  handled : A.handled = none
  depth : A.depth + n < recursionLimit
  units : A.units + 8 * n < cLine

theorem Room.lt {n : Nat} {A : Around} (R : Room n A) : A.depth < recursionLimit := Nat.lt_of_le_of_lt (Nat.le_add_right _ _) R.depth
noncomputable def Bset (env : Env) (oa : Option Addr) (X : Addr → Prop) (b : Addr) : Prop :=
  b = env.locals ∨ (∃ c ∈ env.cells, c.2 = b) ∨ oa = some b ∨ X b

noncomputable def VarIs (env : Env) (m : PySem.Str → Option Value) (h : Heap) (x : PySem.Str) (v : Value) : Prop :=
  (env.kindOf x = some .local ∧ m x = some v) ∨
  ((env.kindOf x = some .cell ∨ env.kindOf x = some .free) ∧ ∃ c, env.cells.lookup x = some c ∧ h.IsCell c (some v))

abbrev tabO (vs : Array Value) : Obj := PySem.W.X.tableObj vs
noncomputable def GC.grown (G : GC) (P c : Addr) : Obj := tabO #[rawInt (G.pl P).line, rawInt (G.pl P).col, .ref c]
structure TabInv (G : GC) (h : Heap) (B : Addr → Prop) (P : Addr) : Prop where
  v : h.get? P = some (tabO #[]) ∨ ∃ c, h.get? P = some (G.grown P c) ∧ h.CodeRec (.ref c) (G.pq P) ∧ ¬ B c ∧ ¬ G.Tab c
theorem codeRec_at {h h' : Heap} {c : Addr} {q : PySem.Str} (H : h.CodeRec (.ref c) q) (e : ∀ o, h.get? c = some o → h'.get? c = some o) : h'.CodeRec (.ref c) q := by
  obtain ⟨c', o, vs, t, e1, e2, r⟩ := H
  cases e1
  exact ⟨_, o, vs, t, rfl, e o e2, r⟩
theorem codeRec_live {h : Heap} {c : Addr} {q : PySem.Str} (H : h.CodeRec (.ref c) q) : ∃ o, h.get? c = some o := by
  obtain ⟨c', o, vs, t, e1, e2, r⟩ := H
  cases e1
  exact ⟨o, e2⟩
theorem ns_not_code {h : Heap} {L c : Addr} {m : PySem.Str → Option Value} {q : PySem.Str} (n : h.Ns L m) (H : h.CodeRec (.ref c) q) : c ≠ L := by
  rintro rfl
  obtain ⟨o, es, ep, ho, hd, _⟩ := n
  obtain ⟨c', o', vs, t, e1, e2, e3, _⟩ := H
  cases e1
  rw [ho] at e2
  cases e2
  rw [hd] at e3
  cases e3
theorem list_not_code {h : Heap} {L c : Addr} {v : Array Value} {q : PySem.Str} (n : h.PlainList L v) (H : h.CodeRec (.ref c) q) : c ≠ L := by
  rintro rfl
  obtain ⟨k, ho⟩ := n
  obtain ⟨c', o', vs, t, e1, e2, e3, _⟩ := H
  cases e1
  rw [ho] at e2
  cases e2
  cases e3
theorem TabInv.live {G : GC} {h : Heap} {B : Addr → Prop} {P : Addr} (T : TabInv G h B P) : ∃ o, h.get? P = some o := by
  rcases T.v with e | ⟨c, e, _⟩
  · exact ⟨_, e⟩
  · exact ⟨_, e⟩
theorem TabInv.mono {G : GC} {h h' : Heap} {B B' : Addr → Prop} {P : Addr} (T : TabInv G h B P) (hP : ∀ o, h.get? P = some o → h'.get? P = some o) (hk : ∀ b o, h.get? b = some o → ¬ B b → ¬ G.Tab b → h'.get? b = some o)
    (hB : ∀ b o, h.get? b = some o → B' b → B b) : TabInv G h' B' P := by
  rcases T.v with e | ⟨c, e, r, n, t⟩
  · exact ⟨.inl (hP _ e)⟩
  · obtain ⟨o, ho⟩ := codeRec_live r
    exact ⟨.inr ⟨c, hP _ e, codeRec_at r fun o e => hk c o e n t, fun q => n (hB c o ho q), t⟩⟩
noncomputable def TabStep (G : GC) (s s' : Shared) : Prop := ∀ P o, G.Tab P → s.heap.get? P = some o → s'.heap.get? P = some o ∨ (o = tabO #[] ∧ ∃ c, s'.heap.get? P = some (G.grown P c) ∧ s'.heap.CodeRec (.ref c) (G.pq P) ∧ s.heap.get? c = none ∧ ¬ G.Tab c)
theorem TabStep.keep {G : GC} {s s' : Shared} (h : ∀ P o, G.Tab P → s.heap.get? P = some o → s'.heap.get? P = some o) : TabStep G s s' := fun P o t e => .inl (h P o t e)
theorem grown_ne {G : GC} {P c : Addr} : G.grown P c ≠ tabO #[] := by
  unfold GC.grown tabO PySem.W.X.tableObj
  intro h
  injection h with _ _ h _
  injection h with h
  have := congrArg Array.size h
  simp at this
theorem grown_inj {G : GC} {P c c' : Addr} (h : G.grown P c = G.grown P c') : c = c' := by
  unfold GC.grown tabO PySem.W.X.tableObj at h
  injection h with _ _ h _
  injection h with h
  injection h with h
  injection h with _ h
  injection h with _ h
  injection h with h _
  injection h

structure Kp (G : GC) (p : Bool) (s s' : Shared) : Prop where
  ex : s'.drawn = s.drawn ∧ s'.os = s.os
  heap : ∀ b o, s.heap.get? b = some o → (p = true ∨ ¬ G.Tab b) → s'.heap.get? b = some o
  gens : p = true → s'.gens = s.gens
  bare : AllBare s.gens → AllBare s'.gens
  tabs : TabStep G s s'

section
variable {G : GC} {p : Bool} {s s' s'' : Shared}
theorem Kp.refl : Kp G p s s := ⟨⟨rfl, rfl⟩, fun _ _ e _ => e, fun _ => rfl, fun e => e, .keep fun _ _ _ e => e⟩
theorem Kp.trans (ka : Kp G p s s') (kb : Kp G p s' s'') : Kp G p s s'' where
  ex := ⟨kb.ex.1.trans ka.ex.1, kb.ex.2.trans ka.ex.2⟩
  heap := fun c o e t => kb.heap c o (ka.heap c o e t) t
  gens := fun e => (kb.gens e).trans (ka.gens e)
  bare := fun e => kb.bare (ka.bare e)
  tabs := fun P o t e => by
    rcases ka.tabs P o t e with h | ⟨h1, c, h2, h3, h4, h5⟩
    · rcases kb.tabs P o t h with h' | ⟨h1, c, h2, h3, h4, h5⟩
      · exact .inl h'
      · refine .inr ⟨h1, c, h2, h3, ?_, h5⟩
        cases q : s.heap.get? c with
        | none => rfl
        | some o' => rw [ka.heap c o' q (.inr h5)] at h4; cases h4
    · rcases kb.tabs P _ t h2 with h' | ⟨h', _⟩
      · exact .inr ⟨h1, c, h', codeRec_at h3 fun o e => kb.heap c o e (.inr h5), h4, h5⟩
      · exact absurd h' grown_ne
theorem Kp.lift (a : Kp G true s s') : Kp G p s s' :=
  ⟨a.ex, fun c o e _ => a.heap c o e (.inl rfl), fun _ => a.gens rfl, a.bare, a.tabs⟩
theorem Kp.of_keep {h' : Heap} {tk : Nat} (hk : ∀ b o, s.heap.get? b = some o → h'.get? b = some o) : Kp G p s { s with heap := h', toks := tk } :=
  ⟨⟨rfl, rfl⟩, fun b o e _ => hk b o e, fun _ => rfl, fun e => e, .keep fun P o _ e => hk _ _ e⟩
theorem Kp.tok {tk : Nat} : Kp G p s { s with toks := tk } := .of_keep (h' := s.heap) fun _ _ e => e
theorem Kp.push {o : Obj} {tk : Nat} : Kp G p s { s with heap := s.heap.push o, toks := tk } := .of_keep fun _ _ e => Heap.get?_push_of_some _ e
end

structure St (G : GC) (fd : FD) (env : Env) (oa : Option Addr) (X : Addr → Prop) (σ : AS) (h : Heap) : Prop where
  eo : EnvOk fd env
  tabOk : ∀ b, G.Tab b → TabInv G h (Bset env oa X) b
  base : ∀ b o, G.st b o → h.get? b = some o ∧ ¬ Bset env oa X b
  tab : ∀ b, G.Tab b → X b
  live : ∀ b, Bset env oa X b → ∃ o, h.get? b = some o
  locX : ¬ X env.locals
  cellX : ∀ c ∈ env.cells, ¬ X c.2
  oaX : ∀ a, oa = some a → ¬ X a
  cells : ∀ c ∈ env.cells, ∃ v, h.IsCell c.2 v
  cellsN : ∀ x y c, env.cells.lookup x = some c → env.cells.lookup y = some c → x = y
  ns : ∃ m, h.Ns env.locals m ∧
    (∀ (i : Nat) (x : PySem.Str) (a : AV), fd.names[i]? = some x → σ.loc[i]? = some (some a) → ∃ v, VarIs env m h x v ∧ VR h (Bset env oa X) a v) ∧
    (∀ (i : Nat) (l : List AV), σ.own = some (i, l) → ∃ (a : Addr) (x : PySem.Str) (vs : List Value), oa = some a ∧ fd.names[i]? = some x ∧ VarIs env m h x (.ref a) ∧ h.PlainList a vs.toArray ∧ VRs h (Bset env oa X) l vs)

theorem mem_of_lookup {x : PySem.Str} {c : Addr} : ∀ {l : List (PySem.Str × Addr)}, l.lookup x = some c → (x, c) ∈ l
  | [], h => by simp at h
  | (y, d) :: r, h => by
    rw [List.lookup_cons] at h
    by_cases e : x = y
    · subst e; simp at h; subst h; exact .head _
    · have : (x == y) = false := by simpa using e
      rw [this] at h
      exact .tail _ (mem_of_lookup h)
theorem ns_not_cell {h : Heap} {L : Addr} {m : PySem.Str → Option Value} {v : Option Value} (n : h.Ns L m) (c : h.IsCell L v) : False := by
  obtain ⟨o, es, ep, ho, hd, _⟩ := n
  obtain ⟨o', ho', hd'⟩ := c
  rw [ho] at ho'
  cases ho'
  rw [hd] at hd'
  cases hd'
theorem ns_not_list {h : Heap} {L : Addr} {m : PySem.Str → Option Value} {v : Array Value} (n : h.Ns L m) (c : h.PlainList L v) : False := by
  obtain ⟨o, es, ep, ho, hd, _⟩ := n
  obtain ⟨k, ho'⟩ := c
  rw [ho] at ho'
  cases ho'
  cases hd
theorem cell_not_list {h : Heap} {L : Addr} {m : Option Value} {v : Array Value} (n : h.IsCell L m) (c : h.PlainList L v) : False := by
  obtain ⟨o, ho, hd⟩ := n
  obtain ⟨k, ho'⟩ := c
  rw [ho] at ho'
  cases ho'
  cases hd

section
variable {G : GC} {fd : FD} {env : Env} {oa : Option Addr} {X : Addr → Prop} {σ : AS} {h h' : Heap}
theorem isCell_at {c : Addr} {v : Option Value} (H : h.IsCell c v) (e : ∀ o, h.get? c = some o → h'.get? c = some o) : h'.IsCell c v := by
  obtain ⟨o, ho, r⟩ := H; exact ⟨o, e o ho, r⟩
theorem VarIs.keep {m : PySem.Str → Option Value} {x : PySem.Str} {v : Value} (V : VarIs env m h x v) (e : ∀ c ∈ env.cells, ∀ o, h.get? c.2 = some o → h'.get? c.2 = some o) : VarIs env m h' x v := by
  rcases V with ⟨a, b⟩ | ⟨a, c, hc, hi⟩
  · exact .inl ⟨a, b⟩
  · refine .inr ⟨a, c, hc, isCell_at hi fun o ho => e (x, c) ?_ o ho⟩
    exact mem_of_lookup hc
theorem St.keep (S : St G fd env oa X σ h) (hk : ∀ b o, h.get? b = some o → ¬ G.Tab b → h'.get? b = some o) (T : ∀ b, G.Tab b → TabInv G h' (Bset env oa X) b) : St G fd env oa X σ h' := by
  have hl : ∀ b o, h.get? b = some o → ∃ o', h'.get? b = some o' := by
    intro b o e
    by_cases t : G.Tab b
    · exact (T b t).live
    · exact ⟨o, hk b o e t⟩
  have nL : ¬ G.Tab env.locals := fun t => S.locX (S.tab _ t)
  have nC : ∀ c ∈ env.cells, ¬ G.Tab c.2 := fun c hc t => S.cellX c hc (S.tab _ t)
  have nO : ∀ a, oa = some a → ¬ G.Tab a := fun a ha t => S.oaX a ha (S.tab _ t)
  have nB : ∀ b, ¬ Bset env oa X b → ¬ G.Tab b := fun b n t => n (.inr (.inr (.inr (S.tab b t))))
  refine ⟨S.eo, T, fun b o e => ⟨hk b o (S.base b o e).1 (nB b (S.base b o e).2), (S.base b o e).2⟩, S.tab, fun b e => let ⟨o, ho⟩ := S.live b e; hl b o ho, S.locX, S.cellX, S.oaX,
    fun c hc => let ⟨v, hv⟩ := S.cells c hc; ⟨v, isCell_at hv fun o e => hk _ o e (nC c hc)⟩, S.cellsN, ?_⟩
  obtain ⟨m, hn, h1, h2⟩ := S.ns
  refine ⟨m, Heap.Ns.at' hn fun o e => hk _ o e nL, fun i x a hx ha => ?_, fun i l hi => ?_⟩
  · obtain ⟨v, hv, hr⟩ := h1 i x a hx ha
    exact ⟨v, hv.keep fun c hc o e => hk _ o e (nC c hc), hr.mono (fun b o e n => hk b o e (nB b n)) fun _ _ _ e => e⟩
  · obtain ⟨a, x, vs, e1, e2, eV, e5, e6⟩ := h2 i l hi
    exact ⟨a, x, vs, e1, e2, eV.keep fun c hc o e => hk _ o e (nC c hc), plain_at e5 fun o e => hk _ o e (nO a e1), e6.mono (fun b o e n => hk b o e (nB b n)) fun _ _ _ e => e⟩
theorem St.fresh (S : St G fd env oa X σ h) {b : Addr} (e : h.get? b = none) : ¬ Bset env oa X b := fun q => by
  obtain ⟨o, ho⟩ := S.live b q
  rw [e] at ho
  cases ho
theorem St.kp {p : Bool} {s s' : Shared} (S : St G fd env oa X σ s.heap) (k : Kp G p s s') : St G fd env oa X σ s'.heap :=
  S.keep (fun b o e t => k.heap b o e (.inr t)) fun b t => by
    obtain ⟨o, ho⟩ := (S.tabOk b t).live
    rcases k.tabs b o t ho with h | ⟨_, c, h2, h3, h4, h5⟩
    · exact (S.tabOk b t).mono (fun o' e => by rw [ho] at e; cases e; exact h) (fun c o e _ t => k.heap c o e (.inr t)) fun _ _ _ q => q
    · exact ⟨.inr ⟨c, h2, h3, S.fresh h4, h5⟩⟩
theorem VR.kp {p : Bool} {s s' : Shared} {a : AV} {v : Value} (S : St G fd env oa X σ s.heap) (r : VR s.heap (Bset env oa X) a v) (k : Kp G p s s') : VR s'.heap (Bset env oa X) a v :=
  r.mono (fun b o e n => k.heap b o e (.inr fun t => n (.inr (.inr (.inr (S.tab b t)))))) fun _ _ _ e => e
theorem VRs.kp {p : Bool} {s s' : Shared} {a : List AV} {v : List Value} (S : St G fd env oa X σ s.heap) (r : VRs s.heap (Bset env oa X) a v) (k : Kp G p s s') : VRs s'.heap (Bset env oa X) a v :=
  r.mono (fun b o e n => k.heap b o e (.inr fun t => n (.inr (.inr (.inr (S.tab b t)))))) fun _ _ _ e => e
theorem get_size (h : Heap) : h.get? h.objs.size = none := by
  cases q : h.get? h.objs.size with
  | none => rfl
  | some o => exact absurd (Heap.lt_size q) (Nat.lt_irrefl _)
end
end Mine
namespace Mine
abbrev Nay : Value → Shared → Prop := fun _ _ => False
noncomputable def EOk (G : GC) (p : Bool) (A : Around) (t : Sem Value) (s : Shared) (B : Addr → Prop) (a : AV) : Prop := wpAny (model G.prog G.w) A t (fun v s' => Kp G p s s' ∧ VR s'.heap B a v) Nay s
noncomputable def TOk (G : GC) (p : Bool) (A : Around) (t : Sem Bool) (s : Shared) (b : Bool) : Prop := wpAny (model G.prog G.w) A t (fun v s' => Kp G p s s' ∧ v = b) Nay s
noncomputable def EsOk (G : GC) (p : Bool) (A : Around) (t : Sem (List Value)) (s : Shared) (B : Addr → Prop) (a : List AV) : Prop := wpAny (model G.prog G.w) A t (fun v s' => Kp G p s s' ∧ VRs s'.heap B a v) Nay s

structure SE (G : GC) (fd : FD) (p : Bool) (n : Nat) (e : Expr) (f : AS → Option AV) : Prop where
  run : ∀ (env : Env) (A : Around) (s : Shared) (oa : Option Addr) (X : Addr → Prop) (σ : AS) (a : AV), Room n A → St G fd env oa X σ s.heap → f σ = some a →
    EOk G p A (eval e env) s (Bset env oa X) a

noncomputable def Op2 (G : GC) (n : Nat) (t : Value → Value → Sem Value) (k : AV → AV → Option AV) : Prop :=
  ∀ (A : Around) (s : Shared) (B : Addr → Prop) (a b c : AV) (va vb : Value), Room n A → (∀ x, s.heap.get? x = none → ¬ B x) → VR s.heap B a va → VR s.heap B b vb → k a b = some c →
    EOk G true A (t va vb) s B c
noncomputable def Op1 (G : GC) (n : Nat) (t : Value → Sem Value) (k : AV → Option AV) : Prop :=
  ∀ (A : Around) (s : Shared) (B : Addr → Prop) (a c : AV) (va : Value), Room n A → (∀ x, s.heap.get? x = none → ¬ B x) → VR s.heap B a va → k a = some c →
    EOk G true A (t va) s B c

theorem wpN {α : Type} {M : Model} {A : Around} {t : Sem α} {Q Q' : α → Shared → Prop} {E : Value → Shared → Prop} {s : Shared} (h : wpAny M A t Q Nay s) (hQ : ∀ a s, Q a s → Q' a s) : wpAny M A t Q' E s :=
  wpAny_mono h hQ fun _ _ x => x.elim

theorem bind_some {α β : Type} {x : Option α} {f : α → Option β} {c : β} (h : x.bind f = some c) : ∃ a, x = some a ∧ f a = some c := by
  cases x with
  | none => cases h
  | some a => exact ⟨a, rfl, h⟩

section
variable {G : GC} {fd : FD} {p : Bool} {n : Nat}
theorem SE.int {i : Int} {k : Nat} {pos : Pos} : SE G fd p n (.Constant (.int i) k pos) (fun _ => some (.int i)) := by
  refine ⟨?_⟩
  intro env A s oa X σ a R S hf
  cases hf
  exact wpAny_Constant_int ⟨Kp.tok, .int⟩
theorem SE.str {x : PySem.Str} {l : List Nat} {k : Nat} {pos : Pos} (hx : x = ⟨l.toArray⟩) : SE G fd p n (.Constant (.str x) k pos) (fun _ => some (.str l)) := by
  refine ⟨?_⟩
  intro env A s oa X σ a R S hf
  cases hf
  subst hx
  exact wpAny_Constant_str ⟨Kp.tok, .str⟩
theorem SE.bool {b : Bool} {k : Nat} {pos : Pos} : SE G fd p n (.Constant (.bool b) k pos) (fun _ => some (.bool b)) := by
  refine ⟨?_⟩
  intro env A s oa X σ a R S hf
  cases hf
  exact wpAny_Constant_bool ⟨Kp.refl, .bool⟩
theorem SE.none {k : Nat} {pos : Pos} : SE G fd p n (.Constant .none k pos) (fun _ => some .none) := by
  refine ⟨?_⟩
  intro env A s oa X σ a R S hf
  cases hf
  exact wpAny_Constant_none ⟨Kp.refl, .none⟩

noncomputable def gv (i : Nat) (σ : AS) : Option AV := (σ.loc[i]?).bind id
theorem gv_some {i : Nat} {σ : AS} {a : AV} (h : gv i σ = some a) : σ.loc[i]? = some (some a) := by
  obtain ⟨x, hx, rfl⟩ := bind_some h
  exact hx

theorem wp_var {x : PySem.Str} {pos : Pos} {env : Env} {A : Around} {s : Shared} {m : PySem.Str → Option Value} {v : Value} {Q : Value → Shared → Prop} {E : Value → Shared → Prop} (eo : EnvOk fd env) (hn : s.heap.Ns env.locals m) (hv : VarIs env m s.heap x v) (hd : (x == ("__debug__" : PySem.Str)) = false) (hc : (x == ("__classdict__" : PySem.Str)) = false) (h : Q v s) :
    wpAny G.M A (eval (.Name x pos) env) Q E s := by
  have hk : env.scope.kind = .function := by rw [eo.scope]; exact eo.kind
  refine wpAny_Name ?_ hd
  rcases hv with ⟨hk', hm⟩ | ⟨hk' | hk', c, hc', hcell⟩
  · exact wpAny_loadName_local hk hk' hn hm h
  · exact wpAny_loadName_cell hk hk' hc' hcell h
  · exact wpAny_loadName_free hk hk' hc' hcell h hc
theorem SE.name {i : Nat} {x : PySem.Str} {pos : Pos} (hi : fd.names[i]? = some x) (hd : (x == ("__debug__" : PySem.Str)) = false) (hc : (x == ("__classdict__" : PySem.Str)) = false) :
    SE G fd p n (.Name x pos) (gv i) := by
  refine ⟨?_⟩
  intro env A s oa X σ a R S hf
  obtain ⟨m, hn, h1, -⟩ := S.ns
  obtain ⟨v, hv, hr⟩ := h1 i x a hi (gv_some hf)
  have hk : env.scope.kind = .function := by rw [S.eo.scope]; exact S.eo.kind
  refine wpAny_Name ?_ hd
  rcases hv with ⟨hk', hm⟩ | ⟨hk' | hk', c, hc', hcell⟩
  · exact wpAny_loadName_local hk hk' hn hm ⟨Kp.refl, hr⟩
  · exact wpAny_loadName_cell hk hk' hc' hcell ⟨Kp.refl, hr⟩
  · exact wpAny_loadName_free hk hk' hc' hcell ⟨Kp.refl, hr⟩ hc

theorem SE.bin {l r : Expr} {op : Operator} {pos : Pos} {f g : AS → Option AV} {k : AV → AV → Option AV} (hl : SE G fd p n l f) (hr : SE G fd p n r g) (ho : Op2 G n (binaryOp op) k) :
    SE G fd p n (.BinOp l op r pos) (fun σ => (f σ).bind fun a => (g σ).bind fun b => k a b) := by
  refine ⟨?_⟩
  intro env A s oa X σ c R S hf
  obtain ⟨a, ha, hf⟩ := bind_some hf
  obtain ⟨b, hb, hk⟩ := bind_some hf
  refine wpAny_BinOp (wpN (hl.run env A s oa X σ a R S ha) fun va s₁ q₁ => ?_)
  have S₁ := S.kp q₁.1
  refine wpN (hr.run env A s₁ oa X σ b R S₁ hb) fun vb s₂ q₂ => ?_
  have S₂ := S₁.kp q₂.1
  refine wpN (ho A s₂ (Bset env oa X) a b c va vb R (fun x e => S₂.fresh e) (q₁.2.kp S₁ q₂.1) q₂.2 hk) fun v s₃ q₃ => ?_
  exact ⟨(q₁.1.trans q₂.1).trans q₃.1.lift, q₃.2⟩

theorem SE.un {x : Expr} {op : UnaryOp} {pos : Pos} {f : AS → Option AV} {k : AV → Option AV} (hl : SE G fd p n x f) (ho : Op1 G n (unaryOp op) k) :
    SE G fd p n (.UnaryOp op x pos) (fun σ => (f σ).bind k) := by
  refine ⟨?_⟩
  intro env A s oa X σ c R S hf
  obtain ⟨a, ha, hk⟩ := bind_some hf
  refine wpAny_UnaryOp (wpN (hl.run env A s oa X σ a R S ha) fun va s₁ q₁ => ?_)
  have S₁ := S.kp q₁.1
  refine wpN (ho A s₁ (Bset env oa X) a c va R (fun x e => S₁.fresh e) q₁.2 hk) fun v s₃ q₃ => ?_
  exact ⟨q₁.1.trans q₃.1.lift, q₃.2⟩

theorem SE.cmp {l r : Expr} {op : CmpOp} {pos : Pos} {f g : AS → Option AV} {k : AV → AV → Option AV} (hl : SE G fd p n l f) (hr : SE G fd p n r g) (ho : Op2 G n (compareOp op) k) (hm : behindInMarks op r = false := by rfl) :
    SE G fd p n (.Compare l [op] [r] pos) (fun σ => (f σ).bind fun a => (g σ).bind fun b => k a b) := by
  refine ⟨?_⟩
  intro env A s oa X σ c R S hf
  obtain ⟨a, ha, hf⟩ := bind_some hf
  obtain ⟨b, hb, hk⟩ := bind_some hf
  refine wpAny_Compare1 (wpN (hl.run env A s oa X σ a R S ha) fun va s₁ q₁ => ?_) hm
  have S₁ := S.kp q₁.1
  refine wpN (hr.run env A s₁ oa X σ b R S₁ hb) fun vb s₂ q₂ => ?_
  have S₂ := S₁.kp q₂.1
  refine wpN (ho A s₂ (Bset env oa X) a b c va vb R (fun x e => S₂.fresh e) (q₁.2.kp S₁ q₂.1) q₂.2 hk) fun v s₃ q₃ => ?_
  exact ⟨(q₁.1.trans q₂.1).trans q₃.1.lift, q₃.2⟩

structure ST (G : GC) (fd : FD) (p : Bool) (n : Nat) (e : Expr) (f : AS → Option Bool) : Prop where
  run : ∀ (env : Env) (A : Around) (s : Shared) (oa : Option Addr) (X : Addr → Prop) (σ : AS) (b : Bool), Room n A → St G fd env oa X σ s.heap → f σ = some b →
    TOk G p A (isTrue e env (eval e env)) s b

noncomputable def truth : AV → Option Bool
  | .none => some false
  | .bool b => some b
  | .int i => some (i != 0)
  | .lst l => if l.length ≤ 100000 then some (!l.isEmpty) else none
  | _ => none
theorem truth_ok {A : Around} {s : Shared} {B : Addr → Prop} {a : AV} {v : Value} {b : Bool} (hr : VR s.heap B a v) (hb : truth a = some b) :
    wpAny (model G.prog G.w) A (truthy v) (fun c s' => Kp G p s s' ∧ c = b) Nay s := by
  cases a <;> first | exact no hb | skip
  · cases hr.none_inv; cases hb; exact wpAny_pure ⟨Kp.refl, rfl⟩
  · cases hr.bool_inv; cases hb; exact wpAny_truthy_bool ⟨Kp.refl, rfl⟩
  · obtain ⟨t, rfl⟩ := hr.int_inv; cases hb; exact truthy_int ⟨Kp.refl, rfl⟩
  · rename_i l
    obtain ⟨ad, vs, rfl, hl, hn, hr⟩ := hr.lst_inv
    have hlen := hr.length
    have h : l.length ≤ 100000 ∧ (!l.isEmpty) = b := by
      have hb' : (if l.length ≤ 100000 then some (!l.isEmpty) else (none : Option Bool)) = some b := hb
      by_cases h : l.length ≤ 100000
      · rw [if_pos h] at hb'; exact ⟨h, Option.some.inj hb'⟩
      · rw [if_neg h] at hb'; exact no hb'
    refine wpAny_truthy_list (plain_isList hl) (by simp; omega) ⟨Kp.tok, ?_⟩
    rw [← h.2]
    cases l with
    | nil => cases hr.nil_inv; rfl
    | cons a l => obtain ⟨v, ws, rfl, -⟩ := hr.cons_inv; simp

theorem ST.val {e : Expr} {f : AS → Option AV} (h : SE G fd p n e f) (hw : ∀ env, isTrue e env (eval e env) = (do let v ← eval e env; standAt e.pos; holding [v] (truthy v)) := by intro _; rfl) :
    ST G fd p n e (fun σ => (f σ).bind truth) := by
  refine ⟨?_⟩
  intro env A s oa X σ b R S hf
  obtain ⟨a, ha, hk⟩ := bind_some hf
  refine wpAny_isTrue_value (wpN (h.run env A s oa X σ a R S ha) fun va s₁ q₁ => ?_) (hw env)
  exact wpN (truth_ok (p := p) q₁.2 hk) fun c s₂ q₂ => ⟨q₁.1.trans q₂.1, q₂.2⟩
theorem ST.cmp {l r : Expr} {op : CmpOp} {pos : Pos} {f g : AS → Option AV} {k : AV → AV → Option AV} (hl : SE G fd p n l f) (hr : SE G fd p n r g) (ho : Op2 G n (compareOp op) k) (hm : behindInMarks op r = false := by rfl) :
    ST G fd p n (.Compare l [op] [r] pos) (fun σ => (f σ).bind fun a => (g σ).bind fun b => (k a b).bind truth) := by
  refine ⟨?_⟩
  intro env A s oa X σ c R S hf
  obtain ⟨a, ha, hf⟩ := bind_some hf
  obtain ⟨b, hb, hf⟩ := bind_some hf
  obtain ⟨d, hk, ht⟩ := bind_some hf
  refine wpAny_isTrue_Compare1 (wpN (hl.run env A s oa X σ a R S ha) fun va s₁ q₁ => ?_) hm
  have S₁ := S.kp q₁.1
  refine wpN (hr.run env A s₁ oa X σ b R S₁ hb) fun vb s₂ q₂ => ?_
  have S₂ := S₁.kp q₂.1
  refine wpN (ho A s₂ (Bset env oa X) a b d va vb R (fun x e => S₂.fresh e) (q₁.2.kp S₁ q₂.1) q₂.2 hk) fun v s₃ q₃ => ?_
  exact wpN (truth_ok (p := p) q₃.2 ht) fun c s₂ q₄ => ⟨((q₁.1.trans q₂.1).trans q₃.1.lift).trans q₄.1, q₄.2⟩
theorem ST.not {x : Expr} {pos : Pos} {f : AS → Option Bool} (h : ST G fd p n x f) : ST G fd p n (.UnaryOp .Not x pos) (fun σ => (f σ).bind fun b => some (!b)) := by
  refine ⟨?_⟩
  intro env A s oa X σ c R S hf
  obtain ⟨b, hb, hf⟩ := bind_some hf
  cases hf
  exact wpAny_isTrue_Not (wpN (h.run env A s oa X σ b R S hb) fun c s' q => ⟨q.1, by rw [q.2]⟩)
theorem ST.or2 {x y : Expr} {pos : Pos} {f g : AS → Option Bool} (hx : ST G fd p n x f) (hy : ST G fd p n y g) : ST G fd p n (.BoolOp .Or [x, y] pos) (fun σ => (f σ).bind fun a => if a then some true else g σ) := by
  refine ⟨?_⟩
  intro env A s oa X σ c R S hf
  obtain ⟨a, ha, hf⟩ := bind_some hf
  refine wpAny_isTrue_BoolOp (wpAny_allTrue_Or_cons (wpN (hx.run env A s oa X σ a R S ha) fun va s₁ q₁ => ?_))
  obtain ⟨k₁, rfl⟩ := q₁
  cases va with
  | true => simp only [if_true] at hf ⊢; cases hf; exact ⟨k₁, rfl⟩
  | false =>
    simp only [Bool.false_eq_true, if_false] at hf ⊢
    refine wpAny_allTrue_Or_cons (wpN (hy.run env A s₁ oa X σ c R (S.kp k₁) hf) fun vb s₂ q₂ => ?_)
    obtain ⟨k₂, rfl⟩ := q₂
    cases vb with
    | true => simp only [if_true]; exact ⟨k₁.trans k₂, trivial⟩
    | false => simp only [Bool.false_eq_true, if_false]; exact wpAny_allTrue_Or_nil ⟨k₁.trans k₂, rfl⟩
theorem SE.ite {t x y : Expr} {pos : Pos} {c : AS → Option Bool} {f g : AS → Option AV} (ht : ST G fd p n t c) (hx : SE G fd p n x f) (hy : SE G fd p n y g) :
    SE G fd p n (.IfExp t x y pos) (fun σ => (c σ).bind fun b => if b then f σ else g σ) := by
  refine ⟨?_⟩
  intro env A s oa X σ a R S hf
  obtain ⟨b, hb, hf⟩ := bind_some hf
  refine wpAny_IfExp (wpN (ht.run env A s oa X σ b R S hb) fun vb s₁ q₁ => ?_)
  obtain ⟨k₁, rfl⟩ := q₁
  cases vb with
  | true => simp only [if_true] at hf ⊢; exact wpN (hx.run env A s₁ oa X σ a R (S.kp k₁) hf) fun v s₂ q₂ => ⟨k₁.trans q₂.1, q₂.2⟩
  | false => simp only [Bool.false_eq_true, if_false] at hf ⊢; exact wpN (hy.run env A s₁ oa X σ a R (S.kp k₁) hf) fun v s₂ q₂ => ⟨k₁.trans q₂.1, q₂.2⟩

structure SEs (G : GC) (fd : FD) (p : Bool) (n : Nat) (es : List Expr) (f : AS → Option (List AV)) : Prop where
  run : ∀ (env : Env) (A : Around) (s : Shared) (oa : Option Addr) (X : Addr → Prop) (σ : AS) (a : List AV) (pos : Pos), Room n A → St G fd env oa X σ s.heap → f σ = some a →
    EsOk G p A (spliced (backTo pos (starEach es env))) s (Bset env oa X) a
theorem SEs.nil : SEs G fd p n [] (fun _ => some []) := by
  refine ⟨?_⟩
  intro env A s oa X σ a pos R S hf
  cases hf
  exact spliced_nil ⟨Kp.refl, .nil⟩
theorem SEs.cons {e : Expr} {es : List Expr} {f : AS → Option AV} {g : AS → Option (List AV)} (h : SE G fd p n e f) (hs : SEs G fd p n es g) (he : ∀ env, starEach (e :: es) env = (false, eval e env) :: starEach es env := by intro _; rfl) :
    SEs G fd p n (e :: es) (fun σ => (f σ).bind fun a => (g σ).bind fun l => some (a :: l)) := by
  refine ⟨?_⟩
  intro env A s oa X σ a pos R S hf
  obtain ⟨a, ha, hf⟩ := bind_some hf
  obtain ⟨l, hl, hf⟩ := bind_some hf
  cases hf
  refine wpAny_items_cons (wpN (h.run env A s oa X σ a R S ha) fun va s₁ q₁ => ?_) (he env)
  have S₁ := S.kp q₁.1
  exact wpN (hs.run env A s₁ oa X σ l pos R S₁ hl) fun vs s₂ q₂ => ⟨q₁.1.trans q₂.1, .cons (q₁.2.kp S₁ q₂.1) q₂.2⟩

noncomputable def lid (l : List AV) : Option (List AV) := if l.length ≤ 100000 then some l else none
theorem lid_some {l l' : List AV} (h : lid l = some l') : l' = l ∧ l.length ≤ 100000 := by
  unfold lid at h
  split at h
  · cases h; exact ⟨rfl, by assumption⟩
  · cases h
theorem VRs.push {h : Heap} {B : Addr → Prop} {l : List AV} {vs : List Value} (r : VRs h B l vs) (o : Obj) : VRs (h.push o) B l vs := r.mono (fun _ _ e _ => Heap.get?_push_of_some _ e) fun _ _ _ e => e
theorem SE.tup {es : List Expr} {k : Nat} {pos : Pos} {f : AS → Option (List AV)} (h : SEs G fd p n es f) : SE G fd p n (.Tuple es k pos) (fun σ => (f σ).bind fun l => (lid l).bind fun l => some (.tup l)) := by
  refine ⟨?_⟩
  intro env A s oa X σ a R S hf
  obtain ⟨l, hl, hf⟩ := bind_some hf
  refine wpAny_Tuple (wpN (h.run env A s oa X σ l pos R S hl) fun vs s₁ q₁ => ?_)
  have hf : (lid l).bind (fun l => some (AV.tup l)) = some a := hf
  obtain ⟨l', hq, hg⟩ := bind_some hf
  obtain ⟨rfl, hlen⟩ := lid_some hq
  have hg := Option.some.inj hg
  subst hg
  have e := q₁.2.length
  exact ⟨by rw [sizeLine_eq]; omega, q₁.1.trans Kp.push, .tup (Heap.get?_push_size _ rfl) ((S.kp q₁.1).fresh (get_size _)) (q₁.2.push _)⟩
theorem SE.lst {es : List Expr} {pos : Pos} {f : AS → Option (List AV)} (h : SEs G fd p n es f) : SE G fd p n (.List es pos) (fun σ => (f σ).bind fun l => (lid l).bind fun l => some (.lst l)) := by
  refine ⟨?_⟩
  intro env A s oa X σ a R S hf
  obtain ⟨l, hl, hf⟩ := bind_some hf
  refine wpAny_List (wpN (h.run env A s oa X σ l pos R S hl) fun vs s₁ q₁ => ?_)
  have hf : (lid l).bind (fun l => some (AV.lst l)) = some a := hf
  obtain ⟨l', hq, hg⟩ := bind_some hf
  obtain ⟨rfl, hlen⟩ := lid_some hq
  have hg := Option.some.inj hg
  subst hg
  have e := q₁.2.length
  exact ⟨by rw [sizeLine_eq]; omega, q₁.1.trans Kp.push, .lst ⟨0, Heap.get?_push_size _ rfl⟩ ((S.kp q₁.1).fresh (get_size _)) (q₁.2.push _)⟩
end
end Mine
namespace Mine
noncomputable def lim : Nat := 2 ^ 200
noncomputable def okI (i : Int) : Bool := decide (i.natAbs < lim)
theorem okI_bits {i : Int} (h : okI i = true) : Builtin.Int.intBits i ≤ 200 := intBits_le (of_decide_eq_true h)
theorem okI_log2 {i : Int} (h : okI i = true) : i.natAbs.log2 < 9000 := by
  have h : i.natAbs < 2 ^ 200 := of_decide_eq_true h
  by_cases z : i.natAbs = 0
  · rw [z]; decide
  · exact Nat.lt_of_lt_of_le ((Nat.log2_lt z).mpr h) (by decide)

noncomputable def guardO {α : Type} (b : Bool) (x : Option α) : Option α := match b with | true => x | false => none
theorem guardO_some {α : Type} {b : Bool} {x : Option α} {y : α} (h : guardO b x = some y) : b = true ∧ x = some y := by
  cases b with
  | true => exact ⟨rfl, h⟩
  | false => cases h

noncomputable def addV : AV → AV → Option AV
  | .int a, .int b => some (.int (a + b))
  | .str a, .str b => guardO (decide (a.length + b.length ≤ 100000)) (some (.str (a ++ b)))
  | .lst a, .lst b => guardO (decide (a.length + b.length ≤ 100000)) (some (.lst (a ++ b)))
  | _, _ => none
noncomputable def subV : AV → AV → Option AV
  | .int a, .int b => some (.int (a - b))
  | .bool a, .bool b => some (.int (b2i a - b2i b))
  | _, _ => none
noncomputable def repL {α : Type} (l : List α) : Nat → List α
  | 0 => []
  | n + 1 => l ++ repL l n
noncomputable def mulV : AV → AV → Option AV
  | .int a, .int b => guardO (okI a && okI b) (some (.int (a * b)))
  | .str a, .int n => guardO (decide (n < 1000) && decide (-1000 < n) && decide (a.length ≤ 1000)) (some (.str (repL a n.toNat)))
  | .lst a, .int n => guardO (decide (n < 1000) && decide (-1000 < n) && decide (a.length ≤ 1000)) (some (.lst (repL a n.toNat)))
  | _, _ => none
noncomputable def ii (f : Int → Int → Option AV) : AV → AV → Option AV
  | .int a, .int b => f a b
  | _, _ => none
noncomputable def fdivV : AV → AV → Option AV := ii fun a b => guardO (b != 0 && okI b) (some (.int (a.fdiv b)))
noncomputable def fmodV : AV → AV → Option AV := ii fun a b => guardO (b != 0) (some (.int (a.fmod b)))
noncomputable def lshV : AV → AV → Option AV := ii fun a b => guardO (okI a && decide (0 ≤ b) && decide (b ≤ 100000)) (some (.int (a * 2 ^ b.toNat)))
noncomputable def rshV : AV → AV → Option AV := ii fun a b => guardO (decide (0 ≤ b)) (some (.int (a.fdiv (2 ^ b.toNat))))
noncomputable def andV : AV → AV → Option AV := ii fun a b => some (.int (Builtin.bitAnd a b))
noncomputable def xorV : AV → AV → Option AV := ii fun a b => some (.int (Builtin.bitXor a b))
theorem int_inj {a b : Int} (h : AV.int a = AV.int b) : a = b := by injection h
noncomputable def on2 (f : AV → AV → Option AV) : List AV → Option AV
  | [a, b] => f a b
  | _ => none
theorem on2_inv {f : AV → AV → Option AV} {l : List AV} {c : AV} (h : on2 f l = some c) : ∃ a b, l = [a, b] ∧ f a b = some c := by
  cases l with
  | nil => exact no h
  | cons a l => cases l with
    | nil => exact no h
    | cons b l => cases l with
      | nil => exact ⟨a, b, rfl, h⟩
      | cons _ _ => exact no h
theorem ii_inv {f : Int → Int → Option AV} {a b c : AV} (h : ii f a b = some c) : ∃ i j, a = .int i ∧ b = .int j ∧ f i j = some c := by
  cases a <;> first | exact no h | (cases b <;> first | exact no h | exact ⟨_, _, rfl, rfl, h⟩)
theorem addV_inv {a b c : AV} (h : addV a b = some c) : (∃ i j, a = .int i ∧ b = .int j ∧ c = .int (i + j)) ∨ (∃ x y, a = .str x ∧ b = .str y ∧ x.length + y.length ≤ 100000 ∧ c = .str (x ++ y)) ∨ ∃ x y, a = .lst x ∧ b = .lst y ∧ x.length + y.length ≤ 100000 ∧ c = .lst (x ++ y) := by
  cases a <;> first | exact no h | (cases b <;> first | exact no h | skip)
  · exact .inl ⟨_, _, rfl, rfl, (Option.some.inj h).symm⟩
  · obtain ⟨h1, h2⟩ := guardO_some h; exact .inr (.inl ⟨_, _, rfl, rfl, of_decide_eq_true h1, (Option.some.inj h2).symm⟩)
  · obtain ⟨h1, h2⟩ := guardO_some h; exact .inr (.inr ⟨_, _, rfl, rfl, of_decide_eq_true h1, (Option.some.inj h2).symm⟩)
theorem subV_inv {a b c : AV} (h : subV a b = some c) : (∃ i j, a = .int i ∧ b = .int j ∧ c = .int (i - j)) ∨ ∃ i j, a = .bool i ∧ b = .bool j ∧ c = .int (b2i i - b2i j) := by
  cases a <;> first | exact no h | (cases b <;> first | exact no h | skip)
  · exact .inr ⟨_, _, rfl, rfl, (Option.some.inj h).symm⟩
  · exact .inl ⟨_, _, rfl, rfl, (Option.some.inj h).symm⟩
theorem mulV_inv {a b c : AV} (h : mulV a b = some c) : ∃ j, b = .int j ∧ ((∃ i, a = .int i ∧ okI i = true ∧ okI j = true ∧ c = .int (i * j)) ∨ (j < 1000 ∧ -1000 < j ∧ ((∃ x, a = .str x ∧ x.length ≤ 1000 ∧ c = .str (repL x j.toNat)) ∨ ∃ x, a = .lst x ∧ x.length ≤ 1000 ∧ c = .lst (repL x j.toNat)))) := by
  cases a <;> first | exact no h | (cases b <;> first | exact no h | skip)
  · obtain ⟨h1, h2⟩ := guardO_some h; rw [Bool.and_eq_true] at h1; exact ⟨_, rfl, .inl ⟨_, rfl, h1.1, h1.2, (Option.some.inj h2).symm⟩⟩
  · obtain ⟨h1, h2⟩ := guardO_some h
    rw [Bool.and_eq_true, Bool.and_eq_true] at h1
    exact ⟨_, rfl, .inr ⟨of_decide_eq_true h1.1.1, of_decide_eq_true h1.1.2, .inl ⟨_, rfl, of_decide_eq_true h1.2, (Option.some.inj h2).symm⟩⟩⟩
  · obtain ⟨h1, h2⟩ := guardO_some h
    rw [Bool.and_eq_true, Bool.and_eq_true] at h1
    exact ⟨_, rfl, .inr ⟨of_decide_eq_true h1.1.1, of_decide_eq_true h1.1.2, .inr ⟨_, rfl, of_decide_eq_true h1.2, (Option.some.inj h2).symm⟩⟩⟩
noncomputable def negV : AV → Option AV
  | .int a => some (.int (-a))
  | _ => none
noncomputable def invV : AV → Option AV
  | .int a => some (.int (Builtin.bitNot a))
  | _ => none

theorem repL_foldl {α : Type} (l : List α) : ∀ (n : Nat) (acc : Array α), (List.foldl (fun x1 x2 => x1 ++ x2) acc (List.replicate n l.toArray)) = acc ++ (repL l n).toArray
  | 0, acc => by simp [repL]
  | n + 1, acc => by
    rw [List.replicate_succ, List.foldl_cons, repL_foldl l n, repL]
    apply Array.ext'
    simp
theorem repL_nil {α : Type} : ∀ n : Nat, repL ([] : List α) n = []
  | 0 => rfl
  | n + 1 => by rw [repL, repL_nil n]; rfl
theorem VRs.rep {h : Heap} {B : Addr → Prop} {l : List AV} {vs : List Value} (r : VRs h B l vs) : ∀ n, VRs h B (repL l n) (repL vs n)
  | 0 => .nil
  | n + 1 => r.append (VRs.rep r n)

section
variable {G : GC} {n : Nat}

theorem mulOk_of {a b : Int} (h1 : okI a = true) (h2 : okI b = true) : IntMulOk a b := by
  have a1 := okI_bits h1
  have a2 := okI_bits h2
  unfold IntMulOk
  have : Builtin.Int.intTooBig (↑(Builtin.Int.intBits a) + ↑(Builtin.Int.intBits b)) = false := by
    unfold Builtin.Int.intTooBig bitsLine
    exact decide_eq_false (by rw [show ((2 ^ 27 : Nat) : Int) = 134217728 by decide]; omega)
  rw [this]; simp
theorem op_add : Op2 G n (binaryOp .Add) addV := by
  intro A s B a b c va vb R hB ra rb hk
  rcases addV_inv hk with ⟨i, j, rfl, rfl, rfl⟩ | ⟨x, y, rfl, rfl, h1, rfl⟩ | ⟨l, l', rfl, rfl, h1, rfl⟩
  · obtain ⟨t, rfl⟩ := ra.int_inv
    obtain ⟨u, rfl⟩ := rb.int_inv
    exact PyProof.Rows.add_int ⟨Kp.tok, .int⟩
  · obtain ⟨t, rfl⟩ := ra.str_inv
    obtain ⟨u, rfl⟩ := rb.str_inv
    refine add_str (fun t' tk => ⟨Kp.tok, ?_⟩) (by simp [PySem.Str.length, sizeLine_eq]; omega)
    have : (⟨x.toArray⟩ : PySem.Str) ++ ⟨y.toArray⟩ = ⟨(x ++ y).toArray⟩ := by
      show PySem.Str.mk _ = _
      congr 1
      simp [PySem.Str.cps_append]
    rw [this]; exact .str
  · obtain ⟨ad, vs, rfl, hl, hn, rl⟩ := ra.lst_inv
    obtain ⟨ad', vs', rfl, hl', hn', rl'⟩ := rb.lst_inv
    have e1 := rl.length
    have e2 := rl'.length
    obtain ⟨k1, ho⟩ := hl
    obtain ⟨k2, ho2⟩ := hl'
    have e : vs.toArray ++ vs'.toArray = (vs ++ vs').toArray := by simp
    refine concat_meets ⟨_, ho, rfl⟩ ⟨_, ho2, rfl⟩ noFill_list_add seq_list_add PySem.F.slot_list_add PySem.F.entry_list_add (PySem.F.args_list_add_2 _ _) (list_addW _ _ vs.toArray vs'.toArray k1 k2 Option.none Option.none #[] #[] (by simp [sizeLine_eq]; omega)) ⟨ho, ho2, ?_⟩
    rw [e]
    exact ⟨Kp.push, .lst ⟨0, Heap.get?_push_size _ rfl⟩ (hB _ (get_size _)) ((rl.append rl').push _)⟩

theorem op_sub : Op2 G n (binaryOp .Sub) subV := by
  intro A s B a b c va vb R hB ra rb hk
  rcases subV_inv hk with ⟨i, j, rfl, rfl, rfl⟩ | ⟨i, j, rfl, rfl, rfl⟩
  · obtain ⟨t, rfl⟩ := ra.int_inv
    obtain ⟨u, rfl⟩ := rb.int_inv
    exact PyProof.Rows.sub_int ⟨Kp.tok, .int⟩
  · cases ra.bool_inv
    cases rb.bool_inv
    exact sub_bool ⟨Kp.tok, .int⟩

theorem op_mul : Op2 G n (binaryOp .Mult) mulV := by
  intro A s B a b c va vb R hB ra rb hk
  obtain ⟨i, rfl, ho⟩ := mulV_inv hk
  obtain ⟨u, rfl⟩ := rb.int_inv
  clear hk rb
  rcases ho with ⟨j, rfl, h1, h2, rfl⟩ | ⟨h1, h2, ⟨x, rfl, h3, rfl⟩ | ⟨l, rfl, h3, rfl⟩⟩
  · obtain ⟨t, rfl⟩ := ra.int_inv
    exact mul_int ⟨Kp.tok, .int⟩ (mulOk_of h1 h2)
  · obtain ⟨t, rfl⟩ := ra.str_inv
    refine SB.mul ⟨?_, ?_, ?_⟩ (fun t' k => ⟨Kp.tok, ?_⟩)
    · rw [Bool.or_eq_false_iff]; exact ⟨decide_eq_false (by omega), decide_eq_false (by omega)⟩
    · intro h4 _
      have : (2 ^ 63 - 1 : Int) / i ≥ (2 ^ 63 - 1) / 1000 := by
        apply Int.le_ediv_of_mul_le (by omega)
        have h6 : (2 ^ 63 - 1 : Int) / 1000 * i ≤ (2 ^ 63 - 1 : Int) / 1000 * 1000 := Int.mul_le_mul_of_nonneg_left (by omega) (by decide)
        exact Int.le_trans h6 (by decide)
      have h7 : ((2 ^ 63 - 1 : Int) / 1000) = 9223372036854775 := by decide
      show ¬ ((x.toArray.size : Nat) : Int) > (2 ^ 63 - 1) / i
      rw [List.size_toArray]
      omega
    · intro h4 _
      unfold Builtin.Str.tooLong
      have : (PySem.Str.mk x.toArray).length * i.toNat ≤ 1000 * 1000 := Nat.mul_le_mul (by simpa [PySem.Str.length] using h3) (by omega)
      exact decide_eq_false (by rw [sizeLine_eq]; omega)
    · have : Txt.mul ⟨x.toArray⟩ i = ⟨(repL x i.toNat).toArray⟩ := by
        unfold Txt.mul
        split
        · have : i.toNat = 0 := by omega
          rw [this]; rfl
        · split
          · rename_i h4 h5
            rcases Bool.or_eq_true_iff.mp h5 with e | e
            · have : i = 1 := by simpa using e
              subst this
              show _ = PySem.Str.mk (x ++ []).toArray
              rw [List.append_nil]
            · have : x = [] := by simpa [PySem.Str.length] using e
              subst this
              rw [repL_nil]
          · show PySem.Str.mk (List.foldl (fun x1 x2 => x1 ++ x2) #[] (List.replicate i.toNat x.toArray)) = _
            rw [repL_foldl]; simp
      rw [this]; exact .str
  · obtain ⟨ad, vs, rfl, hl, hn, rl⟩ := ra.lst_inv
    have e1 := rl.length
    obtain ⟨k, hl⟩ := hl
    have e : (List.foldl (fun x1 x2 => x1 ++ x2) #[] (List.replicate (if vs.toArray.isEmpty = true then 0 else i.toNat) vs.toArray)) = (repL vs i.toNat).toArray := by
      cases vs with
      | nil => rw [repL_nil]; simp
      | cons v vs => rw [repL_foldl]; simp
    refine wpAny_binaryOp_repeat_ref (T := "list") (U := "int") (by decide) ⟨_, hl, rfl⟩ (fun s' => typeIs_int s' i u) noFill_list_mul F.fills_int_mul F.slot_int_rmul repeat_list F.slot_int_index.lookup
      (call_meets F.slot_int_rmul (typeIs_int s i u) F.entry_int_rmul (F.args_int_rmul_2 _ _) (int___rmul___int_list i u ad vs.toArray k)
      ⟨hl, rfl, ⟨_, hl, rfl⟩, call_meets F.slot_list_mul ⟨_, hl, rfl⟩ F.entry_list_mul (F.args_list_mul_2 _ _)
        (AutoListH.list___mul___list_int_3 ad vs.toArray k i u (by unfold Builtin.List.listFitsIndex; rw [decide_eq_true (by omega : -2 ^ 63 ≤ i), decide_eq_true (by omega : i < 2 ^ 63)]; decide) ?_ ?_)
        ⟨hl, ?_⟩⟩)
    · have : vs.toArray.size * i.toNat ≤ 1000 * 1000 := Nat.mul_le_mul (by simp; omega) (by omega)
      omega
    · have : vs.toArray.size * i.toNat ≤ 1000 * 1000 := Nat.mul_le_mul (by simp; omega) (by omega)
      unfold Builtin.List.listTooLong
      rw [decide_eq_false (by rw [sizeLine_eq]; omega)]; decide
    · rw [e]
      exact ⟨Kp.push, .lst ⟨0, Heap.get?_push_size _ rfl⟩ (hB _ (get_size _)) ((rl.rep _).push _)⟩

theorem op_ii {t : Value → Value → Sem Value} {f : Int → Int → Option AV} (h : ∀ (A : Around) (s : Shared) (B : Addr → Prop) (i j : Int) (u w : Tok) (c : AV), Room n A → f i j = some c → EOk G true A (t (.int i u) (.int j w)) s B c) : Op2 G n t (ii f) := by
  intro A s B a b c va vb R hB ra rb hk
  obtain ⟨i, j, rfl, rfl, hk⟩ := ii_inv hk
  obtain ⟨t, rfl⟩ := ra.int_inv
  obtain ⟨u, rfl⟩ := rb.int_inv
  exact h A s B i j t u c R hk
theorem op_fdiv : Op2 G n (binaryOp .FloorDiv) fdivV := op_ii fun A s B i j u w c R hk => by
  obtain ⟨h1, h2⟩ := guardO_some hk
  cases h2
  rw [Bool.and_eq_true] at h1
  exact floordiv_int (by simpa using h1.1) ⟨Kp.tok, .int⟩ (.inl (PyProof.noPylong_of_log2 (okI_log2 h1.2)))
theorem op_fmod : Op2 G n (binaryOp .Mod) fmodV := op_ii fun A s B i j u w c R hk => by
  obtain ⟨h1, h2⟩ := guardO_some hk
  cases h2
  exact PyProof.Rows.mod_int (by simpa using h1) ⟨Kp.tok, .int⟩
theorem op_lsh : Op2 G n (binaryOp .LShift) lshV := op_ii fun A s B i j u w c R hk => by
  obtain ⟨h1, h2⟩ := guardO_some hk
  cases h2
  rw [Bool.and_eq_true, Bool.and_eq_true] at h1
  have h3 := of_decide_eq_true h1.1.2
  have h4 := of_decide_eq_true h1.2
  have := okI_bits h1.1.1
  exact lshift_int_or R.handled (fun h => by omega) (fun _ => by omega) fun _ => ⟨Kp.tok, .int⟩
theorem op_rsh : Op2 G n (binaryOp .RShift) rshV := op_ii fun A s B i j u w c R hk => by
  obtain ⟨h1, h2⟩ := guardO_some hk
  cases h2
  exact rshift_int (of_decide_eq_true h1) ⟨Kp.tok, .int⟩
theorem op_and : Op2 G n (binaryOp .BitAnd) andV := op_ii fun A s B i j u w c R hk => by cases hk; exact and_int ⟨Kp.tok, .int⟩
theorem op_xor : Op2 G n (binaryOp .BitXor) xorV := op_ii fun A s B i j u w c R hk => by cases hk; exact xor_int ⟨Kp.tok, .int⟩
theorem negV_inv {a c : AV} (h : negV a = some c) : ∃ i, a = .int i ∧ c = .int (-i) := by
  cases a <;> first | exact no h | exact ⟨_, rfl, (Option.some.inj h).symm⟩
theorem invV_inv {a c : AV} (h : invV a = some c) : ∃ i, a = .int i ∧ c = .int (Builtin.bitNot i) := by
  cases a <;> first | exact no h | exact ⟨_, rfl, (Option.some.inj h).symm⟩
theorem op_neg : Op1 G n (unaryOp .USub) negV := by
  intro A s B a c va R hB ra hk
  obtain ⟨i, rfl, rfl⟩ := negV_inv hk
  obtain ⟨t, rfl⟩ := ra.int_inv
  exact neg_int ⟨Kp.tok, .int⟩
theorem op_inv : Op1 G n (unaryOp .Invert) invV := by
  intro A s B a c va R hB ra hk
  obtain ⟨i, rfl, rfl⟩ := invV_inv hk
  obtain ⟨t, rfl⟩ := ra.int_inv
  exact invert_int ⟨Kp.tok, .int⟩
end
end Mine
namespace Mine
noncomputable def intsOf : List AV → Option (List Int)
  | [] => some []
  | .int i :: r => (intsOf r).bind fun l => some (i :: l)
  | _ :: _ => none
noncomputable def strsOf : List AV → Option (List (List Nat))
  | [] => some []
  | .str i :: r => guardO (i.all fun c => decide (c < 1114112)) ((strsOf r).bind fun l => some (i :: l))
  | _ :: _ => none
theorem intsOf_cons {a : AV} {l : List AV} {ns : List Int} (h : intsOf (a :: l) = some ns) : ∃ i m, a = .int i ∧ intsOf l = some m ∧ ns = i :: m := by
  cases a <;> first | exact no h | skip
  obtain ⟨m, hm, hq⟩ := bind_some h
  exact ⟨_, m, rfl, hm, (Option.some.inj hq).symm⟩
theorem strsOf_cons {a : AV} {l : List AV} {ns : List (List Nat)} (h : strsOf (a :: l) = some ns) : ∃ x m, a = .str x ∧ (x.all fun c => decide (c < 1114112)) = true ∧ strsOf l = some m ∧ ns = x :: m := by
  cases a <;> first | exact no h | skip
  obtain ⟨h0, e⟩ := guardO_some h
  obtain ⟨m, hm, hq⟩ := bind_some e
  exact ⟨_, m, rfl, h0, hm, (Option.some.inj hq).symm⟩
theorem VRs.ints {h : Heap} {B : Addr → Prop} {l : List AV} {vs : List Value} (r : VRs h B l vs) : ∀ {ns : List Int}, intsOf l = some ns → IntsAre vs ns :=
  r.ind (P := fun l vs => ∀ {ns : List Int}, intsOf l = some ns → IntsAre vs ns) (fun e => Option.some.inj e ▸ .nil) fun x _ ih ns e => by
    obtain ⟨i, m, rfl, hm, rfl⟩ := intsOf_cons e
    obtain ⟨t, rfl⟩ := x.int_inv
    exact .cons _ _ (ih hm)
theorem VRs.strs {h : Heap} {B : Addr → Prop} {l : List AV} {vs : List Value} (r : VRs h B l vs) : ∀ {ns : List (List Nat)}, strsOf l = some ns → StrsAre vs (ns.map fun x => ⟨x.toArray⟩) ∧ ∀ x ∈ ns, (x.all fun c => decide (c < 1114112)) = true :=
  r.ind (P := fun l vs => ∀ {ns : List (List Nat)}, strsOf l = some ns → StrsAre vs (ns.map fun x => ⟨x.toArray⟩) ∧ ∀ x ∈ ns, (x.all fun c => decide (c < 1114112)) = true) (fun e => Option.some.inj e ▸ ⟨.nil, fun _ h => nomatch h⟩) fun x _ ih ns e => by
    obtain ⟨i, m, rfl, h0, hm, rfl⟩ := strsOf_cons e
    obtain ⟨t, rfl⟩ := x.str_inv
    obtain ⟨h1, h2⟩ := ih hm
    exact ⟨.cons _ _ h1, fun x hx => (List.mem_cons.mp hx).elim (fun q => q ▸ h0) (h2 x)⟩

noncomputable def strLt : List Nat → List Nat → Bool
  | _, [] => false
  | [], _ :: _ => true
  | a :: x, b :: y => if a < b then true else if a = b then strLt x y else false
theorem strLt_eq : ∀ x y : List Nat, decide (x < y) = strLt x y
  | [], [] => by simp [strLt]
  | _ :: _, [] => by simp [strLt]
  | [], _ :: _ => by simp [strLt]
  | a :: x, b :: y => by
    have ih := strLt_eq x y
    unfold strLt
    by_cases h1 : a < b
    · simp [List.cons_lt_cons_iff, h1]
    · by_cases h2 : a = b
      · subst h2
        simp only [Nat.lt_irrefl, if_false, if_true]
        rw [← ih]
        simp [List.cons_lt_cons_iff]
      · simp [List.cons_lt_cons_iff, h1, h2]

noncomputable def eqV : AV → AV → Option AV
  | .int a, .int b => some (.bool (decide (a = b)))
  | .str a, .str b => some (.bool (decide (a = b)))
  | .lst a, .lst b => match intsOf a, intsOf b with
    | some x, some y => some (.bool (decide (x = y)))
    | none, some [] => (strsOf a).bind fun _ => some (.bool false)
    | _, _ => none
  | _, _ => none
noncomputable def neV (a b : AV) : Option AV := match eqV a b with
  | some (.bool c) => some (.bool (!c))
  | _ => none
noncomputable def ltV : AV → AV → Option AV
  | .int a, .int b => some (.bool (decide (a < b)))
  | .str a, .str b => some (.bool (strLt a b))
  | _, _ => none
noncomputable def gtV : AV → AV → Option AV
  | .int a, .int b => some (.bool (decide (b < a)))
  | .str a, .str b => some (.bool (strLt b a))
  | _, _ => none
noncomputable def leV : AV → AV → Option AV := ii fun a b => some (.bool (decide (a ≤ b)))
noncomputable def eqL (a b : List AV) : Option AV := match intsOf a, intsOf b with
    | some x, some y => some (.bool (decide (x = y)))
    | none, some [] => (strsOf a).bind fun _ => some (.bool false)
    | _, _ => none
theorem eqV_inv {a b c : AV} (h : eqV a b = some c) : (∃ i j, a = .int i ∧ b = .int j ∧ c = .bool (decide (i = j))) ∨ (∃ x y, a = .str x ∧ b = .str y ∧ c = .bool (decide (x = y))) ∨ ∃ x y, a = .lst x ∧ b = .lst y ∧ eqL x y = some c := by
  cases a <;> first | exact no h | (cases b <;> first | exact no h | skip)
  · exact .inl ⟨_, _, rfl, rfl, (Option.some.inj h).symm⟩
  · exact .inr (.inl ⟨_, _, rfl, rfl, (Option.some.inj h).symm⟩)
  · exact .inr (.inr ⟨_, _, rfl, rfl, h⟩)
theorem neV_inv {a b c : AV} (h : neV a b = some c) : ∃ r, eqV a b = some (.bool r) ∧ c = .bool (!r) := by
  unfold neV at h
  cases e : eqV a b with
  | none => rw [e] at h; cases h
  | some d =>
    rw [e] at h
    cases d <;> first | exact no h | exact ⟨_, rfl, (Option.some.inj h).symm⟩
theorem ltV_inv {a b c : AV} (h : ltV a b = some c) : (∃ i j, a = .int i ∧ b = .int j ∧ c = .bool (decide (i < j))) ∨ ∃ x y, a = .str x ∧ b = .str y ∧ c = .bool (strLt x y) := by
  cases a <;> first | exact no h | (cases b <;> first | exact no h | skip)
  · exact .inl ⟨_, _, rfl, rfl, (Option.some.inj h).symm⟩
  · exact .inr ⟨_, _, rfl, rfl, (Option.some.inj h).symm⟩
theorem gtV_inv {a b c : AV} (h : gtV a b = some c) : (∃ i j, a = .int i ∧ b = .int j ∧ c = .bool (decide (j < i))) ∨ ∃ x y, a = .str x ∧ b = .str y ∧ c = .bool (strLt y x) := by
  cases a <;> first | exact no h | (cases b <;> first | exact no h | skip)
  · exact .inl ⟨_, _, rfl, rfl, (Option.some.inj h).symm⟩
  · exact .inr ⟨_, _, rfl, rfl, (Option.some.inj h).symm⟩
theorem eqL_inv {a b : List AV} {c : AV} (h : eqL a b = some c) : (∃ x y, intsOf a = some x ∧ intsOf b = some y ∧ c = .bool (decide (x = y))) ∨ ∃ s ss, strsOf a = some (s :: ss) ∧ intsOf b = some [] ∧ c = .bool false := by
  unfold eqL at h
  cases q1 : intsOf a with
  | some x =>
    cases q2 : intsOf b with
    | some y => rw [q1, q2] at h; exact .inl ⟨_, _, rfl, rfl, (Option.some.inj h).symm⟩
    | none => rw [q1, q2] at h; cases h
  | none =>
    cases q2 : intsOf b with
    | none => rw [q1, q2] at h; cases h
    | some y =>
      cases y with
      | cons _ _ => rw [q1, q2] at h; cases h
      | nil =>
        rw [q1, q2] at h
        obtain ⟨ss, hss, hc⟩ := bind_some h
        cases ss with
        | cons t ss => exact .inr ⟨t, ss, hss, rfl, (Option.some.inj hc).symm⟩
        | nil =>
          exfalso
          cases a with
          | nil => cases q1
          | cons d r =>
            cases d <;> first | (cases hss; done) | skip
            obtain ⟨_, e⟩ := guardO_some hss
            obtain ⟨_, _, e⟩ := bind_some e
            cases e

theorem reads_strs {h : Heap} : ∀ {vs : List Value} {ns : List PySem.Str}, StrsAre vs ns → ReadsAll h vs (ns.map PyData.str) []
  | _, _, .nil => .nil
  | _, _, .cons k t r => by
    have := ReadsAll.cons (Reads.str (h := h) k t) (reads_strs (h := h) r)
    simpa using this
theorem canLayAll0_strs : ∀ ns : List (List Nat), (∀ x ∈ ns, (x.all fun c => decide (c < 1114112)) = true) → PyData.canLayAll0 ((ns.map fun x => (⟨x.toArray⟩ : PySem.Str)).map PyData.str) = true
  | [], _ => by simp [PyData.canLayAll0]
  | n :: r, h => by
    have h1 := h n (.head _)
    have h2 := canLayAll0_strs r fun x hx => h x (.tail _ hx)
    simp only [List.map_cons, PyData.canLayAll0, PyData.canLay0, h2, PyData.strOk, Bool.and_true]
    simpa using h1
theorem depthAll_strs : ∀ ns : List PySem.Str, PyData.depthAll (ns.map PyData.str) ≤ 1
  | [] => by simp [PyData.depthAll]
  | n :: r => by
    have := depthAll_strs r
    simp only [List.map_cons, PyData.depthAll, PyData.depth]
    omega
theorem shaped_strs (ns : List (List Nat)) (h : ∀ x ∈ ns, (x.all fun c => decide (c < 1114112)) = true) : PySem.SeqAt.shaped (.list ((ns.map fun x => (⟨x.toArray⟩ : PySem.Str)).map PyData.str)) = true := by
  have h1 := depthAll_strs (ns.map fun x => (⟨x.toArray⟩ : PySem.Str))
  have h2 : PyData.depth (.list ((ns.map fun x => (⟨x.toArray⟩ : PySem.Str)).map PyData.str)) ≤ 64 := by simp only [PyData.depth]; omega
  show (PyData.canLay0 (.list ((ns.map fun x => (⟨x.toArray⟩ : PySem.Str)).map PyData.str)) && decide (PyData.depth (.list ((ns.map fun x => (⟨x.toArray⟩ : PySem.Str)).map PyData.str)) ≤ 64)) = true
  rw [Bool.and_eq_true]
  exact ⟨by simp only [PyData.canLay0]; exact canLayAll0_strs ns h, decide_eq_true h2⟩
theorem beq_str (x y : List Nat) : ((⟨x.toArray⟩ : PySem.Str) == ⟨y.toArray⟩) = decide (x = y) := by
  by_cases h : x = y
  · subst h; simp
  · have : (⟨x.toArray⟩ : PySem.Str) ≠ ⟨y.toArray⟩ := fun e => h (by have := congrArg PySem.Str.cps e; simpa using this)
    rw [decide_eq_false h]
    exact beq_eq_false_iff_ne.mpr this

section
variable {G : GC} {n : Nat}
theorem eq_lists {s : Shared} {B : Addr → Prop} {ad ad' : Addr} {l l' : List AV} {vs vs' : List Value} {c : AV} (hl : s.heap.PlainList ad vs.toArray) (rl : VRs s.heap B l vs) (hl' : s.heap.PlainList ad' vs'.toArray) (rl' : VRs s.heap B l' vs') (hk : eqL l l' = some c) :
    (∃ x y, s.heap.IsList ad vs.toArray ∧ IntsAre vs x ∧ s.heap.IsList ad' vs'.toArray ∧ IntsAre vs' y ∧ c = .bool (decide (x = y))) ∨ ∃ t ss, Reads s.heap (.ref ad) (.list (((t :: ss).map fun x : List Nat => (⟨x.toArray⟩ : PySem.Str)).map PyData.str)) [ad] ∧ (∀ x ∈ t :: ss, (x.all fun c => decide (c < 1114112)) = true) ∧ s.heap.IsList ad' vs'.toArray ∧ IntsAre vs' [] ∧ c = .bool false := by
  rcases eqL_inv hk with ⟨x, y, h1, h2, h3⟩ | ⟨t, ss, h1, h2, h3⟩
  · exact .inl ⟨x, y, plain_isList hl, rl.ints h1, plain_isList hl', rl'.ints h2, h3⟩
  · obtain ⟨r1, hok⟩ := rl.strs h1
    obtain ⟨o, ho, hc, k, hd⟩ := plain_isList hl
    exact .inr ⟨t, ss, Reads.list ho hc hd (by simpa using reads_strs r1), hok, plain_isList hl', rl'.ints h2, h3⟩
theorem op_eq (h8 : 8 < n) : Op2 G n (compareOp .Eq) eqV := by
  intro A s B a b c va vb R hB ra rb hk
  have hu : A.units + 64 < cLine := by have := R.units; omega
  rcases eqV_inv hk with ⟨i, j, rfl, rfl, rfl⟩ | ⟨x, y, rfl, rfl, rfl⟩ | ⟨l, l', rfl, rfl, hk⟩
  · obtain ⟨t, rfl⟩ := ra.int_inv
    obtain ⟨u, rfl⟩ := rb.int_inv
    exact PyProof.Rows.eq_int ⟨Kp.refl, by rw [show (_ == _) = decide (_ = _) from rfl]; exact .bool⟩
  · obtain ⟨t, rfl⟩ := ra.str_inv
    obtain ⟨u, rfl⟩ := rb.str_inv
    exact eq_str ⟨Kp.refl, by rw [beq_str]; exact .bool⟩
  · obtain ⟨ad, vs, rfl, hl, hn, rl⟩ := ra.lst_inv
    obtain ⟨ad', vs', rfl, hl', hn', rl'⟩ := rb.lst_inv
    rcases eq_lists hl rl hl' rl' hk with ⟨x, y, h1, h2, h3, h4, rfl⟩ | ⟨t, ss, R1, hok, h3, h4, rfl⟩
    · exact eq_intsK h1 h2 h3 h4 hu ⟨Kp.refl, .bool⟩
    · exact eq_dataH_same R1 (reads_of_ints h3 h4) (shaped_strs _ hok) (shaped_ints _) hu (by simp [PySem.SeqAt.noMix, PySem.SeqAt.noMixAll]) ⟨Kp.refl, .bool⟩
theorem op_ne (h8 : 8 < n) : Op2 G n (compareOp .NotEq) neV := by
  intro A s B a b c va vb R hB ra rb hk
  have hu : A.units + 64 < cLine := by have := R.units; omega
  obtain ⟨r, hk1, rfl⟩ := neV_inv hk
  clear hk
  rcases eqV_inv hk1 with ⟨i, j, rfl, rfl, e⟩ | ⟨x, y, rfl, rfl, e⟩ | ⟨l, l', rfl, rfl, hk⟩
  · obtain ⟨t, rfl⟩ := ra.int_inv
    obtain ⟨u, rfl⟩ := rb.int_inv
    cases e
    exact PyProof.Rows.ne_int ⟨Kp.refl, by rw [show (_ != _) = !decide (_ = _) from rfl]; exact .bool⟩
  · obtain ⟨t, rfl⟩ := ra.str_inv
    obtain ⟨u, rfl⟩ := rb.str_inv
    cases e
    exact ne_str ⟨Kp.refl, by rw [show ∀ x y : PySem.Str, (x != y) = !(x == y) from fun _ _ => rfl, beq_str]; exact .bool⟩
  · obtain ⟨ad, vs, rfl, hl, hn, rl⟩ := ra.lst_inv
    obtain ⟨ad', vs', rfl, hl', hn', rl'⟩ := rb.lst_inv
    rcases eq_lists hl rl hl' rl' hk with ⟨x, y, h1, h2, h3, h4, e⟩ | ⟨t, ss, R1, hok, h3, h4, e⟩
    · cases e; exact ne_intsK h1 h2 h3 h4 hu ⟨Kp.refl, .bool⟩
    · cases e; exact ne_dataH_same R1 (reads_of_ints h3 h4) (shaped_strs _ hok) (shaped_ints _) hu (by simp [PySem.SeqAt.noMix, PySem.SeqAt.noMixAll]) ⟨Kp.refl, .bool⟩
theorem op_lt : Op2 G n (compareOp .Lt) ltV := by
  intro A s B a b c va vb R hB ra rb hk
  rcases ltV_inv hk with ⟨i, j, rfl, rfl, rfl⟩ | ⟨x, y, rfl, rfl, rfl⟩
  · obtain ⟨t, rfl⟩ := ra.int_inv
    obtain ⟨u, rfl⟩ := rb.int_inv
    exact PyProof.Rows.lt_int ⟨Kp.refl, .bool⟩
  · obtain ⟨t, rfl⟩ := ra.str_inv
    obtain ⟨u, rfl⟩ := rb.str_inv
    exact lt_str ⟨Kp.refl, by rw [strLt_eq]; exact .bool⟩
theorem op_gt : Op2 G n (compareOp .Gt) gtV := by
  intro A s B a b c va vb R hB ra rb hk
  rcases gtV_inv hk with ⟨i, j, rfl, rfl, rfl⟩ | ⟨x, y, rfl, rfl, rfl⟩
  · obtain ⟨t, rfl⟩ := ra.int_inv
    obtain ⟨u, rfl⟩ := rb.int_inv
    exact PyProof.Rows.gt_int ⟨Kp.refl, .bool⟩
  · obtain ⟨t, rfl⟩ := ra.str_inv
    obtain ⟨u, rfl⟩ := rb.str_inv
    exact PySem.P.gt_str ⟨Kp.refl, by rw [strLt_eq]; exact .bool⟩
theorem op_le : Op2 G n (compareOp .LtE) leV := op_ii fun A s B i j u w c R hk => by cases hk; exact le_int ⟨Kp.refl, .bool⟩
end

noncomputable def idx {α : Type} (l : List α) (i : Int) : Option α := if 0 ≤ i then l[i.toNat]? else if 0 ≤ i + l.length then l[(i + l.length).toNat]? else none
noncomputable def idxV : AV → AV → Option AV
  | .lst l, .int i => guardO (decide (-1000000 < i) && decide (i < 1000000)) (idx l i)
  | .tup l, .int i => guardO (decide (-1000000 < i) && decide (i < 1000000)) (idx l i)
  | .str l, .int i => guardO (decide (-1000000 < i) && decide (i < 1000000)) ((idx l i).bind fun c => some (.str [c]))
  | _, _ => none
theorem idxV_inv {a b c : AV} (h : idxV a b = some c) : ∃ i, b = .int i ∧ -1000000 < i ∧ i < 1000000 ∧ ((∃ l, a = .lst l ∧ idx l i = some c) ∨ (∃ l, a = .tup l ∧ idx l i = some c) ∨ ∃ l d, a = .str l ∧ idx l i = some d ∧ c = .str [d]) := by
  cases a <;> first | exact no h | (cases b <;> first | exact no h | skip)
  · obtain ⟨h1, h2⟩ := guardO_some h
    rw [Bool.and_eq_true] at h1
    obtain ⟨d, h3, h4⟩ := bind_some h2
    exact ⟨_, rfl, of_decide_eq_true h1.1, of_decide_eq_true h1.2, .inr (.inr ⟨_, d, rfl, h3, (Option.some.inj h4).symm⟩)⟩
  · obtain ⟨h1, h2⟩ := guardO_some h
    rw [Bool.and_eq_true] at h1
    exact ⟨_, rfl, of_decide_eq_true h1.1, of_decide_eq_true h1.2, .inr (.inl ⟨_, rfl, h2⟩)⟩
  · obtain ⟨h1, h2⟩ := guardO_some h
    rw [Bool.and_eq_true] at h1
    exact ⟨_, rfl, of_decide_eq_true h1.1, of_decide_eq_true h1.2, .inl ⟨_, rfl, h2⟩⟩
theorem seqIndex_of {α : Type} {l : List α} {i : Int} {x : α} (h : idx l i = some x) : ∃ j, seqIndex? i l.length = some j ∧ l[j]? = some x := by
  unfold idx at h
  unfold seqIndex?
  split at h
  · rename_i h0
    have hlt : i.toNat < l.length := (List.getElem?_eq_some_iff.mp h).1
    refine ⟨i.toNat, ?_, h⟩
    have e : ¬ i < 0 := by omega
    simp only [e, if_false]
    rw [if_pos (by rw [Bool.and_eq_true]; exact ⟨decide_eq_true h0, decide_eq_true (by omega)⟩)]
  · split at h
    · rename_i h0 h1
      have hlt : (i + l.length).toNat < l.length := (List.getElem?_eq_some_iff.mp h).1
      refine ⟨(i + l.length).toNat, ?_, h⟩
      have e : i < 0 := by omega
      simp only [e, if_true]
      rw [if_pos (by rw [Bool.and_eq_true]; exact ⟨decide_eq_true h1, decide_eq_true (by omega)⟩)]
    · cases h
section
variable {G : GC} {fd : FD} {p : Bool} {n : Nat}
theorem op_idx {value slice : Expr} (hs : ∀ o i, subscripted slice false o i = operate [o, i] (getItem o i)) : Op2 G n (subscriptTail value slice) idxV := by
  intro A s B a b c va vb R hB ra rb hk
  obtain ⟨i, rfl, h1, h2, ho⟩ := idxV_inv hk
  obtain ⟨t, rfl⟩ := rb.int_inv
  clear hk rb
  rcases ho with ⟨l, rfl, h3⟩ | ⟨l, rfl, h3⟩ | ⟨l, cc, rfl, h3, rfl⟩
  · obtain ⟨ad, vs, rfl, hl, hn, rl⟩ := ra.lst_inv
    have e1 := rl.length
    have hl' := plain_isList hl
    refine tail_any hl'.typeIs slot_list_getitem.lookup ?_ (hs _ _)
    unfold idx at h3
    split at h3
    · rename_i h0
      obtain ⟨v, hv, hr⟩ := rl.get h3
      exact wpAny_getItem_list hl' h0 (by omega) (x := v) (by simpa using hv) ⟨Kp.refl, hr⟩
    · split at h3
      · rename_i h0 h4
        obtain ⟨v, hv, hr⟩ := rl.get h3
        refine wpAny_getItem_list_neg hl' (by omega) (by simp; omega) (by omega) (x := v) ?_ ⟨Kp.refl, hr⟩
        rw [List.size_toArray, ← e1]
        simpa using hv
      · cases h3
  · obtain ⟨ad, vs, rfl, hl, hn, rl⟩ := ra.tup_inv
    obtain ⟨j, hj, hx⟩ := seqIndex_of h3
    obtain ⟨v, hv, hr⟩ := rl.get hx
    have e1 := rl.length
    refine tail_any (T := "tuple") ⟨_, hl, rfl⟩ F.slot_tuple_getitem.lookup (PyProof.Rows.getItem_tuple (items := vs.toArray) (j := j) ⟨_, hl, rfl, _, rfl⟩ (by omega) (by omega) ?_ ?_ ⟨Kp.refl, hr⟩) (hs _ _)
    · rw [List.size_toArray, ← e1]; exact hj
    · simpa using hv
  · obtain ⟨t', rfl⟩ := ra.str_inv
    obtain ⟨j, hj, hx⟩ := seqIndex_of h3
    refine tail_any (typeIs_str _ _ _) F.slot_str_getitem.lookup (getItem_str (c := cc) ?_ ?_ ⟨Kp.tok, ?_⟩) (hs _ _)
    · rw [Bool.or_eq_false_iff]; exact ⟨decide_eq_false (by omega), decide_eq_false (by omega)⟩
    · rw [show ∀ x : List Nat, (PySem.Str.mk x.toArray).length = x.length from fun x => by simp [PySem.Str.length], hj]
      simpa using hx
    · exact (.str : VR _ _ (.str [cc]) _)
theorem SE.sub {v i : Expr} {pos : Pos} {f g : AS → Option AV} (hl : SE G fd p n v f) (hr : SE G fd p n i g) (hs : ∀ a b, subscripted i false a b = operate [a, b] (getItem a b) := by intro _ _; rfl) :
    SE G fd p n (.Subscript v i pos) (fun σ => (f σ).bind fun a => (g σ).bind fun b => idxV a b) := by
  refine ⟨?_⟩
  intro env A s oa X σ c R S hf
  obtain ⟨a, ha, hf⟩ := bind_some hf
  obtain ⟨b, hb, hk⟩ := bind_some hf
  refine PyProof.Rows.Subscript_ (wpN (hl.run env A s oa X σ a R S ha) fun va s₁ q₁ => ?_)
  have S₁ := S.kp q₁.1
  refine wpN (hr.run env A s₁ oa X σ b R S₁ hb) fun vb s₂ q₂ => ?_
  have S₂ := S₁.kp q₂.1
  refine wpN (op_idx hs A s₂ (Bset env oa X) a b c va vb R (fun x e => S₂.fresh e) (q₁.2.kp S₁ q₂.1) q₂.2 hk) fun v s₃ q₃ => ?_
  exact ⟨(q₁.1.trans q₂.1).trans q₃.1.lift, q₃.2⟩

noncomputable def pickIs (lo hi : Option Int) (n : Nat) : List Nat := sliceRange (sliceBounds lo hi Option.none n).1 (sliceBounds lo hi Option.none n).2.1 (sliceBounds lo hi Option.none n).2.2
noncomputable def pick {α : Type} (l : List α) (lo hi : Option Int) : List α := (pickIs lo hi l.length).filterMap fun i => l[i]?
structure SP (G : GC) (fd : FD) (p : Bool) (n : Nat) (e : Option Expr) (f : AS → Option (Option Int)) : Prop where
  run : ∀ (env : Env) (A : Around) (s : Shared) (oa : Option Addr) (X : Addr → Prop) (σ : AS) (a : Option Int), Room n A → St G fd env oa X σ s.heap → f σ = some a →
    wpAny (model G.prog G.w) A (evalPart e env) (fun v s' => Kp G p s s' ∧ (a = none ∧ v = .none ∨ ∃ i t, a = some i ∧ v = .int i t)) Nay s
noncomputable def partOf : AV → Option (Option Int)
  | .int i => some (some i)
  | _ => none
theorem partOf_inv {a : AV} {c : Option Int} (h : partOf a = some c) : ∃ i, a = .int i ∧ c = some i := by
  cases a <;> first | exact no h | exact ⟨_, rfl, (Option.some.inj h).symm⟩
theorem SP.none : SP G fd p n none (fun _ => some none) := by
  refine ⟨?_⟩
  intro env A s oa X σ a R S hf
  cases hf
  exact wpAny_evalPart_none ⟨Kp.refl, .inl ⟨rfl, rfl⟩⟩
theorem SP.some {e : Expr} {f : AS → Option AV} (h : SE G fd p n e f) : SP G fd p n (some e) (fun σ => (f σ).bind partOf) := by
  refine ⟨?_⟩
  intro env A s oa X σ a R S hf
  obtain ⟨b, hb, hk⟩ := bind_some hf
  refine wpAny_evalPart_some (wpN (h.run env A s oa X σ b R S hb) fun v s₁ q => ⟨q.1, .inr ?_⟩)
  obtain ⟨i, rfl, rfl⟩ := partOf_inv hk
  obtain ⟨t, rfl⟩ := q.2.int_inv
  exact ⟨_, _, rfl, rfl⟩
noncomputable def pickS (l : List Nat) (lo hi : Option Int) : List Nat := if ((Builtin.Str.strSliceIndices lo hi 1 l.length).length == l.length) = true then l else (Builtin.Str.strSliceIndices lo hi 1 l.length).filterMap fun i => l[i]?
noncomputable def pickV (v : AV) (lo hi : Option Int) : Option AV := match v with
  | .lst l => guardO (decide (l.length ≤ 100000)) (some (.lst (pick l lo hi)))
  | .str l => guardO (decide (l.length ≤ 100000)) (some (.str (pickS l lo hi)))
  | _ => none
theorem pickV_inv {a c : AV} {lo hi : Option Int} (h : pickV a lo hi = some c) : (∃ l, a = .lst l ∧ l.length ≤ 100000 ∧ c = .lst (pick l lo hi)) ∨ ∃ l, a = .str l ∧ l.length ≤ 100000 ∧ c = .str (pickS l lo hi) := by
  cases a <;> first | exact no h | (obtain ⟨h1, h2⟩ := guardO_some h; have h1 := of_decide_eq_true h1; have h2 := (Option.some.inj h2).symm)
  · exact .inr ⟨_, rfl, h1, h2⟩
  · exact .inl ⟨_, rfl, h1, h2⟩
theorem VRs.pick {h : Heap} {B : Addr → Prop} {l : List AV} {vs : List Value} (r : VRs h B l vs) (lo hi : Option Int) : VRs h B (Mine.pick l lo hi) (Mine.pick vs lo hi) := by
  unfold Mine.pick
  rw [r.length]
  generalize pickIs lo hi vs.length = is
  induction is with
  | nil => exact .nil
  | cons i is ih =>
    rw [List.filterMap_cons, List.filterMap_cons]
    cases e : l[i]? with
    | none =>
      have : vs[i]? = Option.none := by
        rw [List.getElem?_eq_none_iff] at e ⊢
        rw [← r.length]; exact e
      rw [this]; exact ih
    | some a =>
      obtain ⟨v, hv, hr⟩ := r.get e
      rw [hv]; exact .cons hr ih
theorem part_of {vl : Value} {b : Option Int} (h : b = Option.none ∧ vl = .none ∨ ∃ i t, b = some i ∧ vl = .int i t) : IsPart vl b ∧ ∃ l : Option (Int × Tok), vl = partValue l ∧ l.map (·.1) = b := by
  rcases h with ⟨rfl, rfl⟩ | ⟨i, t, rfl, rfl⟩
  · exact ⟨.none, Option.none, rfl, rfl⟩
  · exact ⟨.int i t, Option.some (i, t), rfl, rfl⟩
theorem lits_of {x : List Nat} {is : List Nat} : (List.filterMap (fun i => (PySem.Str.mk x.toArray).cps[i]?) is).toArray = (is.filterMap fun i => x[i]?).toArray := by simp

theorem op_slice {value : Expr} {lo hi : Option Expr} {p' : Pos} {A : Around} {s : Shared} {B : Addr → Prop} {a c : AV} {va vl vu : Value} {b d : Option Int} (hB : ∀ x, s.heap.get? x = Option.none → ¬ B x) (ra : VR s.heap B a va)
    (h1 : b = Option.none ∧ vl = .none ∨ ∃ i t, b = some i ∧ vl = .int i t) (h2 : d = Option.none ∧ vu = .none ∨ ∃ i t, d = some i ∧ vu = .int i t) (hk : pickV a b d = some c) :
    wpAny (model G.prog G.w) A (subscriptTail value (.Slice lo hi Option.none p') va (.ref s.heap.objs.size)) (fun v s' => Kp G p s s' ∧ VR s'.heap B c v) Nay { s with heap := s.heap.push { cls := .type "slice", data := .fields #[vl, vu, Value.none] } } := by
  obtain ⟨pl, l, el, e3⟩ := part_of h1
  obtain ⟨pu, u, eu, e4⟩ := part_of h2
  have hs : (s.heap.push { cls := .type "slice", data := .fields #[vl, vu, Value.none] }).IsSliceOf s.heap.objs.size vl vu .none := ⟨_, Heap.get?_push_size _ rfl, rfl, rfl⟩
  rcases pickV_inv hk with ⟨l', rfl, h3, rfl⟩ | ⟨x, rfl, h3, rfl⟩
  rotate_left
  · obtain ⟨t, rfl⟩ := ra.str_inv
    have ep : slicePicked ⟨x.toArray⟩ l u Option.none = Builtin.Str.strSliceIndices b d 1 x.length := by
      unfold slicePicked
      rw [e3, e4]
      show Builtin.Str.strSliceIndices b d 1 (PySem.Str.length ⟨x.toArray⟩) = _
      rw [show PySem.Str.length ⟨x.toArray⟩ = x.length by simp [PySem.Str.length]]
    refine tail_any (typeIs_str _ _ _) F.slot_str_getitem.lookup (wpAny_getItem_str_slice (l := l) (u := u) (st := Option.none) ?_ rfl ?_) (by rfl)
    · refine ⟨_, Heap.get?_push_size _ rfl, rfl, ?_⟩
      rw [← el, ← eu]; rfl
    · unfold sliceMade
      rw [ep]
      split
      · rename_i hc
        have hc' : ((Builtin.Str.strSliceIndices b d 1 x.length).length == x.length) = true := by
          have := (Bool.and_eq_true_iff.mp hc).2
          rwa [show PySem.Str.length ⟨x.toArray⟩ = x.length by simp [PySem.Str.length]] at this
        have : pickS x b d = x := if_pos hc'
        rw [this]
        exact ⟨Kp.push, .str⟩
      · rename_i hc
        rw [lits_of]
        have hc' : ¬ ((Builtin.Str.strSliceIndices b d 1 x.length).length == x.length) = true := fun q => hc (by
          rw [show PySem.Str.length ⟨x.toArray⟩ = x.length by simp [PySem.Str.length]]
          rw [q]; rfl)
        have : pickS x b d = (Builtin.Str.strSliceIndices b d 1 x.length).filterMap fun i => x[i]? := if_neg hc'
        rw [this]
        refine ⟨?_, (Kp.push : Kp G p s _).trans Kp.tok, .str⟩
        have := List.length_filterMap_le (fun i => x[i]?) (Builtin.Str.strSliceIndices b d 1 x.length)
        have h9 := indices_len_le b d x.length
        simp only [PySem.Str.length, List.size_toArray, sizeLine_eq]
        omega
  · obtain ⟨ad, vs, rfl, hl', hn, rl⟩ := ra.lst_inv
    have e1 := rl.length
    have hl'' : (s.heap.push { cls := .type "slice", data := .fields #[vl, vu, Value.none] }).PlainList ad vs.toArray := plain_at hl' fun o e => Heap.get?_push_of_some _ e
    refine tail_any (plain_isList hl'').typeIs slot_list_getitem.lookup (wpAny_getItem_list_slice (plain_isList hl'') hs pl pu .none (by simp) ?_ (by simp [sizeLine_eq]; omega)) (by rfl)
    have : slicePick vs.toArray b d Option.none = (pick vs b d).toArray := by
      unfold slicePick pick pickIs
      simp
    rw [this]
    refine ⟨Kp.push.trans Kp.push, .lst ⟨0, Heap.get?_push_size _ rfl⟩ (hB _ ?_) (((rl.pick b d).push _).push _)⟩
    cases q : s.heap.get? (s.heap.push { cls := .type "slice", data := .fields #[vl, vu, Value.none] }).objs.size with
    | none => rfl
    | some o =>
      have h1 := Heap.lt_size q
      rw [Heap.size_push] at h1
      exact absurd (Nat.lt_of_succ_lt h1) (Nat.lt_irrefl _)
theorem SE.slice {v : Expr} {lo hi : Option Expr} {pos p' : Pos} {f : AS → Option AV} {g k : AS → Option (Option Int)} (hl : SE G fd p n v f) (hlo : SP G fd p n lo g) (hhi : SP G fd p n hi k) :
    SE G fd p n (.Subscript v (.Slice lo hi Option.none p') pos) (fun σ => (f σ).bind fun a => (g σ).bind fun b => (k σ).bind fun c => pickV a b c) := by
  refine ⟨?_⟩
  intro env A s oa X σ c R S hf
  obtain ⟨a, ha, hf⟩ := bind_some hf
  obtain ⟨b, hb, hf⟩ := bind_some hf
  obtain ⟨d, hd, hk⟩ := bind_some hf
  refine PyProof.Rows.Subscript_ (wpN (hl.run env A s oa X σ a R S ha) fun va s₁ q₁ => ?_)
  have S₁ := S.kp q₁.1
  refine wpAny_Slice (wpN (hlo.run env A s₁ oa X σ b R S₁ hb) fun vl s₂ q₂ => ?_)
  have S₂ := S₁.kp q₂.1
  refine wpN (hhi.run env A s₂ oa X σ d R S₂ hd) fun vu s₃ q₃ => ?_
  have S₃ := S₂.kp q₃.1
  refine wpAny_evalPart_none ?_
  have r₃ := (q₁.2.kp S₁ q₂.1).kp S₂ q₃.1
  have k₃ := (q₁.1.trans q₂.1).trans q₃.1
  exact wpN (op_slice (fun x e => S₃.fresh e) r₃ q₂.2 q₃.2 hk) fun v s₄ q₄ => ⟨k₃.trans q₄.1, q₄.2⟩
end
end Mine
namespace Mine

structure GSt (G : GC) (B : Addr → Prop) (h : Heap) : Prop where
  base : ∀ b o, G.st b o → h.get? b = some o ∧ ¬ B b
  tab : ∀ b, G.Tab b → B b
  live : ∀ b, B b → ∃ o, h.get? b = some o
  tabOk : ∀ b, G.Tab b → TabInv G h B b
theorem St.g {G : GC} {fd : FD} {env : Env} {oa : Option Addr} {X : Addr → Prop} {σ : AS} {h : Heap} (S : St G fd env oa X σ h) : GSt G (Bset env oa X) h :=
  ⟨S.base, fun b t => .inr (.inr (.inr (S.tab b t))), S.live, S.tabOk⟩
theorem GSt.fresh {G : GC} {B : Addr → Prop} {h : Heap} (S : GSt G B h) {b : Addr} (e : h.get? b = none) : ¬ B b := fun q => by
  obtain ⟨o, ho⟩ := S.live b q
  rw [e] at ho
  cases ho

noncomputable def CallOk (G : GC) (p : Bool) (n : Nat) (fv : Value) (k : List AV → Option AV) : Prop :=
  ∀ (A : Around) (s : Shared) (B : Addr → Prop) (as : List AV) (vs : List Value) (c : AV), Room n A → GSt G B s.heap → VRs s.heap B as vs → k as = some c →
    EOk G p A (call fv vs) s B c

inductive KeepOk (G : GC) : Value → Prop
  | builtin {id : String} : KeepOk G (.builtin id)
  | type {T : String} : KeepOk G (.type T)
  | fn {a : Addr} {o : Obj} {fd : FuncData} : G.st a o → o.data = .func fd → KeepOk G (.ref a)

inductive GName (G : GC) (x : PySem.Str) : Value → Prop
  | glob {v : Value} : G.mg x = some v → GName G x v
  | boot {v : Value} : G.mg x = none → bootBuiltins x = some v → x ≠ "__name__" → GName G x v

section
variable {G : GC} {fd : FD} {p : Bool} {n : Nat}
theorem wp_glob (hG : G.Ok) {x : PySem.Str} {fv : Value} {pos : Pos} {env : Env} {A : Around} {s : Shared} {oa : Option Addr} {X : Addr → Prop} {σ : AS} {Q : Value → Shared → Prop} {E : Value → Shared → Prop}
    (hx : fd.scope.names.lookup x = some .globalImplicit) (hd : (x == ("__debug__" : PySem.Str)) = false) (hn : GName G x fv) (S : St G fd env oa X σ s.heap) (h : Q fv s) : wpAny G.M A (eval (.Name x pos) env) Q E s := by
  have hk : env.scope.kind = .function := by rw [S.eo.scope]; exact S.eo.kind
  have hx' : env.kindOf x = some .globalImplicit := by unfold Env.kindOf; rw [S.eo.scope]; exact hx
  have hg : s.heap.Ns env.globals G.mg := by rw [S.eo.globals]; exact Heap.Ns.at' hG.top.g fun o e => (S.base _ o (hG.sub _ _ e)).1
  have hb : s.heap.Ns env.builtins G.mb := by rw [S.eo.builtins]; exact Heap.Ns.at' hG.top.b fun o e => (S.base _ o (hG.sub _ _ e)).1
  refine Name_function_global hk hx' ?_ hd
  cases hn with
  | glob e => exact loadGlobal_global hg e h
  | boot e e' e'' => exact loadGlobal_builtin hg e hb ((hG.top.builtins x e'').trans e') h
theorem SE.globint (hG : G.Ok) {x : PySem.Str} {i : Int} {t : Tok} {pos : Pos} (hx : fd.scope.names.lookup x = some .globalImplicit) (hd : (x == ("__debug__" : PySem.Str)) = false) (hn : GName G x (.int i t)) : SE G fd p n (.Name x pos) (fun _ => some (.int i)) := by
  refine ⟨?_⟩
  intro env A s oa X σ a R S hf
  cases hf
  exact wp_glob hG hx hd hn S ⟨Kp.refl, .int⟩

theorem callWith_ok {fv : Value} {pos : Pos} {A : Around} {s : Shared} {args : List (Bool × Sem Value)} {Q : Value → Shared → Prop} (hk : KeepOk G fv) (hp : args.any (·.1) = false)
    (h : wpAny G.M A (evalArgs fv true args []) (fun a s₁ => (∀ b o, G.st b o → s₁.heap.get? b = some o) ∧ wpAny G.M A (call fv ([] ++ a.pos) a.kw) Q Nay s₁) Nay s) : wpAny G.M A (callWith pos fv [] args []) Q Nay s := by
  cases hk with
  | builtin => exact callWith_builtin hp (wpN h fun a s₁ q => q.2)
  | type => exact PyProof.Rows.callWith_type hp (wpN h fun a s₁ q => q.2)
  | fn ho hd => exact callWith_function_kw (wpN h fun a s₁ q => ⟨⟨q.1 _ _ ho, hd⟩, q.2⟩)

theorem SE.call (hG : G.Ok) {x : PySem.Str} {fv : Value} {np pos : Pos} {e : Expr} {rest : List Expr} {g : AS → Option (List AV)} {k : List AV → Option AV}
    (hx : fd.scope.names.lookup x = some .globalImplicit) (hd : (x == ("__debug__" : PySem.Str)) = false) (hn : GName G x fv) (hk : KeepOk G fv) (ha : SEs G fd p n (e :: rest) g) (hc : CallOk G p n fv k)
    (he : ∀ env, starEach (e :: rest) env = (false, eval e env) :: starEach rest env := by intro _; rfl) (hplain : ∀ env, (backTo pos (starEach rest env)).any (·.1) = false := by intro _; rfl) :
    SE G fd p n (.Call (.Name x np) (e :: rest) [] pos) (fun σ => (g σ).bind k) := by
  refine ⟨?_⟩
  intro env A s oa X σ c R S hf
  obtain ⟨as, has, hk'⟩ := bind_some hf
  refine wpAny_Call_NameR (wp_glob hG hx hd hn S ?_)
  refine callWith_ok hk ?_ ?_
  · rw [he]
    show (false || (backTo pos (starEach rest env)).any (·.1)) = false
    rw [hplain]; rfl
  · have h1 := ha.run env A s oa X σ as pos R S has
    rw [he] at h1 ⊢
    refine evalArgs_plain (wpN h1 fun vs s₁ q₁ => ?_)
    have S₁ := S.kp q₁.1
    exact ⟨fun b o e => (S₁.base b o e).1, wpN (hc A s₁ _ as vs c R S₁.g q₁.2 hk') fun v s₂ q₂ => ⟨q₁.1.trans q₂.1, q₂.2⟩⟩

noncomputable def SMeth (G : GC) (n : Nat) (id : String) (k : List Nat → List AV → Option AV) : Prop :=
  ∀ (A : Around) (s : Shared) (B : Addr → Prop) (l : List Nat) (t : Tok) (as : List AV) (vs : List Value) (c : AV), Room n A → GSt G B s.heap → VRs s.heap B as vs → k l as = some c →
    EOk G true A (call (.builtin id) (.str ⟨l.toArray⟩ t :: vs)) s B c
noncomputable def onStr (f : List Nat → Option AV) : AV → Option AV
  | .str l => f l
  | _ => none
theorem onStr_inv {f : List Nat → Option AV} {a c : AV} (h : onStr f a = some c) : ∃ l, a = .str l ∧ f l = some c := by
  cases a <;> first | exact no h | exact ⟨_, rfl, h⟩
theorem SE.smeth {o : Expr} {name : PySem.Str} {id : String} {apos pos : Pos} {e : Expr} {rest : List Expr} {f : AS → Option AV} {g : AS → Option (List AV)} {k : List Nat → List AV → Option AV}
    (ho : SE G fd p n o f) (ha : SEs G fd p n (e :: rest) g) (hc : SMeth G n id k) (hslot : Slot "str" name id) (hty : typeOf (.builtin id) = pure (.type "method_descriptor"))
    (hb : ∀ env, attributeBase o name env (eval o env) = eval o env := by intro _; rfl) (hl : (apos.endLine == pos.line) = true := by rfl)
    (h30 : ∀ env, (((backTo pos (starEach (e :: rest) env)).all fun x => !x.1) && (backToKw pos (keywordEach [] env)).all (·.1.isSome) && decide ((e :: rest).length + ([] : List Keyword).length + (if ([] : List Keyword).isEmpty then 0 else 1) < 30)) = true := by intro _; rfl)
    (he : ∀ env, starEach (e :: rest) env = (false, eval e env) :: starEach rest env := by intro _; rfl) (hplain : ∀ env, (backTo pos (starEach rest env)).any (·.1) = false := by intro _; rfl) :
    SE G fd p n (.Call (.Attribute o name apos) (e :: rest) [] pos) (fun σ => (f σ).bind fun a => (g σ).bind fun as => onStr (fun l => k l as) a) := by
  refine ⟨?_⟩
  intro env A s oa X σ c R S hf
  obtain ⟨a, ha', hf⟩ := bind_some hf
  obtain ⟨as, has, hk'⟩ := bind_some hf
  refine wpAny_Call_method (hb env) (h30 env) hl F.plainAttrs_str hslot hty (wpN (ho.run env A s oa X σ a R S ha') fun va s₁ q₁ => ?_)
  have S₁ := S.kp q₁.1
  obtain ⟨k₁, r₁⟩ := q₁
  obtain ⟨l, rfl, hk'⟩ := onStr_inv hk'
  obtain ⟨t, rfl⟩ := r₁.str_inv
  refine ⟨typeIs_str _ _ _, (fun _ e => nomatch e), callWith_builtin ?_ ?_⟩
  · rw [he]
    show (false || (backTo pos (starEach rest env)).any (·.1)) = false
    rw [hplain]; rfl
  · have h1 := ha.run env A s₁ oa X σ as pos R S₁ has
    rw [he] at h1 ⊢
    refine evalArgs_plain (wpN h1 fun vs s₂ q₂ => ?_)
    have S₂ := S₁.kp q₂.1
    exact wpN (hc A s₂ _ _ _ as vs c R S₂.g q₂.2 hk') fun v s₃ q₃ => ⟨(k₁.trans q₂.1).trans q₃.1.lift, q₃.2⟩

-- the built-ins
noncomputable def lenK : List AV → Option AV
  | [.lst l] => guardO (decide (l.length ≤ 100000)) (some (.int l.length))
  | [.str l] => guardO (decide (l.length ≤ 100000)) (some (.int l.length))
  | _ => none
theorem one_of {k : List AV → Option AV} {f : AV → Option AV} {as : List AV} {c : AV} (h : k as = some c) (h0 : k [] = none) (h1 : ∀ a, k [a] = f a) (h2 : ∀ a b l, k (a :: b :: l) = none) : ∃ a, as = [a] ∧ f a = some c := by
  cases as with
  | nil => exact no (h0.symm.trans h)
  | cons a l =>
    cases l with
    | nil => exact ⟨a, rfl, (h1 a).symm.trans h⟩
    | cons b l => exact no ((h2 a b l).symm.trans h)
theorem lenK_inv {as : List AV} {c : AV} (h : lenK as = some c) : (∃ l, as = [.lst l] ∧ l.length ≤ 100000 ∧ c = .int l.length) ∨ ∃ l, as = [.str l] ∧ l.length ≤ 100000 ∧ c = .int l.length := by
  obtain ⟨a, rfl, h⟩ := one_of (f := fun a => lenK [a]) h rfl (fun _ => rfl) (fun a b l => by cases a <;> rfl)
  cases a <;> first | exact no h | (obtain ⟨h1, h2⟩ := guardO_some h; have h1 := of_decide_eq_true h1; have h2 := (Option.some.inj h2).symm)
  · exact .inr ⟨_, rfl, h1, h2⟩
  · exact .inl ⟨_, rfl, h1, h2⟩
theorem len_ok : CallOk G p n (.builtin "len") lenK := by
  intro A s B as vs c R S hv hk
  rcases lenK_inv hk with ⟨l, rfl, h3, rfl⟩ | ⟨x, rfl, h3, rfl⟩
  · obtain ⟨v, rfl, r⟩ := hv.one_inv
    obtain ⟨ad, vs, rfl, hl, hn, rl⟩ := r.lst_inv
    have e := rl.length
    refine call_len_list (plain_isList hl) (by simp; omega) ⟨Kp.tok, ?_⟩
    rw [List.size_toArray, ← e]
    exact .int
  · obtain ⟨v, rfl, r⟩ := hv.one_inv
    obtain ⟨t, rfl⟩ := r.str_inv
    refine PySem.P.len_str (by simp [PySem.Str.length]; omega) ⟨Kp.tok, ?_⟩
    rw [show (PySem.Str.mk x.toArray).length = x.length by simp [PySem.Str.length]]
    exact .int
noncomputable def rangeK : List AV → Option AV
  | [.int a] => some (.range 0 a 1)
  | [.int a, .int b] => some (.range a b 1)
  | [.int a, .int b, .int c] => guardO (c != 0 && okI c) (some (.range a b c))
  | _ => none
theorem rangeK_inv {as : List AV} {c : AV} (h : rangeK as = some c) : (∃ a, as = [.int a] ∧ c = .range 0 a 1) ∨ (∃ a b, as = [.int a, .int b] ∧ c = .range a b 1) ∨ ∃ a b d, as = [.int a, .int b, .int d] ∧ d ≠ 0 ∧ okI d = true ∧ c = .range a b d := by
  cases as with
  | nil => exact no h
  | cons x l =>
    cases x <;> first | exact no h | skip
    cases l with
    | nil => exact .inl ⟨_, rfl, (Option.some.inj h).symm⟩
    | cons y l =>
      cases y <;> first | exact no h | skip
      cases l with
      | nil => exact .inr (.inl ⟨_, _, rfl, (Option.some.inj h).symm⟩)
      | cons z l =>
        cases z <;> first | exact no h | skip
        cases l with
        | cons _ _ => exact no h
        | nil =>
          obtain ⟨h7, h8⟩ := guardO_some h
          rw [Bool.and_eq_true] at h7
          exact .inr (.inr ⟨_, _, _, rfl, by simpa using h7.1, h7.2, (Option.some.inj h8).symm⟩)
theorem VRs.two_inv {h : Heap} {B : Addr → Prop} {a b : AV} {vs : List Value} (r : VRs h B [a, b] vs) : ∃ v w, vs = [v, w] ∧ VR h B a v ∧ VR h B b w := by
  obtain ⟨v, ws, rfl, h1, h2⟩ := r.cons_inv
  obtain ⟨w, rfl, h3⟩ := h2.one_inv
  exact ⟨v, w, rfl, h1, h3⟩
theorem range_ok : CallOk G p n (.type "range") rangeK := by
  intro A s B as vs c R S hv hk
  rcases rangeK_inv hk with ⟨a, rfl, rfl⟩ | ⟨a, b, rfl, rfl⟩ | ⟨a, b, d, rfl, h1, h2, rfl⟩
  · obtain ⟨v, rfl, r⟩ := hv.one_inv
    obtain ⟨t, rfl⟩ := r.int_inv
    exact call_range_1 ⟨Kp.push, .range (Heap.get?_push_size _ rfl) (S.fresh (get_size _))⟩
  · obtain ⟨v, w, rfl, r, q⟩ := hv.two_inv
    obtain ⟨t, rfl⟩ := r.int_inv
    obtain ⟨u, rfl⟩ := q.int_inv
    exact call_range_2 ⟨Kp.push, .range (Heap.get?_push_size _ rfl) (S.fresh (get_size _))⟩
  · obtain ⟨v, ws, rfl, r, hv⟩ := hv.cons_inv
    obtain ⟨w, x, rfl, q, z⟩ := hv.two_inv
    obtain ⟨t, rfl⟩ := r.int_inv
    obtain ⟨u, rfl⟩ := q.int_inv
    obtain ⟨u', rfl⟩ := z.int_inv
    exact call_range_3 h1 ⟨Kp.push, .range (Heap.get?_push_size _ rfl) (S.fresh (get_size _))⟩ (.inl (PyProof.noPylong_of_log2 (okI_log2 h2)))
noncomputable def hexDigits (i : Nat) : List Nat := (Nat.toDigits 16 i).map Char.toNat
noncomputable def hexK : List AV → Option AV
  | [.int a] => guardO (decide (0 ≤ a) && decide ((hexDigits a.toNat).length ≤ 1000)) (some (.str (48 :: 120 :: hexDigits a.toNat)))
  | _ => none
theorem hex_ok : CallOk G p n (.builtin "hex") hexK := by
  intro A s B as vs c R S hv hk
  obtain ⟨a, rfl, h⟩ := one_of (f := fun a => hexK [a]) hk rfl (fun _ => rfl) (fun a b l => by cases a <;> rfl)
  obtain ⟨v, rfl, r⟩ := hv.one_inv
  obtain ⟨i, rfl, h7, rfl⟩ : ∃ i, a = .int i ∧ (decide (0 ≤ i) && decide ((hexDigits i.toNat).length ≤ 1000)) = true ∧ c = .str (48 :: 120 :: hexDigits i.toNat) := by
    cases a <;> first | exact no h | exact ⟨_, rfl, (guardO_some h).1, (Option.some.inj (guardO_some h).2).symm⟩
  obtain ⟨t, rfl⟩ := r.int_inv
  · · simp only [Bool.and_eq_true, decide_eq_true_eq] at h7
      have e : baseText "0x" 16 i = ⟨(48 :: 120 :: hexDigits i.toNat).toArray⟩ := by
        unfold baseText hexDigits
        rw [if_neg (by omega)]
        have : i.natAbs = i.toNat := by omega
        rw [this]
        have e1 : PySem.Str.ofString "" = ⟨#[]⟩ := by decide +kernel
        have e2 : PySem.Str.ofString "0x" = ⟨#[48, 120]⟩ := by decide +kernel
        rw [e1, e2, PySem.W.Fast.ofString_ofList]
        show PySem.Str.mk _ = _
        congr 1
        apply Array.ext'
        show ((#[] ++ #[48, 120] : Array Nat) ++ (List.map Char.toNat (Nat.toDigits 16 i.toNat)).toArray).toList = _
        simp
      refine P.hex_of_int ?_ ?_
      · rw [e]; exact ⟨Kp.tok, .str⟩
      · rw [e]; simp [PySem.Str.length, sizeLine_eq]; omega
noncomputable def sumL : List Int → Int
  | [] => 0
  | a :: r => a + sumL r
theorem sumL_eq : ∀ l : List Int, sumL l = l.sum
  | [] => rfl
  | a :: r => by rw [sumL, sumL_eq r, List.sum_cons]
noncomputable def sumK : List AV → Option AV
  | [.lst l] => (intsOf l).bind fun x => some (.int (sumL x))
  | _ => none
theorem sum_ok : CallOk G p n (.builtin "sum") sumK := by
  intro A s B as vs c R S hv hk
  obtain ⟨a, rfl, h⟩ := one_of (f := fun a => sumK [a]) hk rfl (fun _ => rfl) (fun a b l => by cases a <;> rfl)
  obtain ⟨v, rfl, r⟩ := hv.one_inv
  obtain ⟨l, x, rfl, hx, rfl⟩ : ∃ l x, a = .lst l ∧ intsOf l = some x ∧ c = .int (sumL x) := by
    cases a <;> first | exact no h | (obtain ⟨x, hx, h8⟩ := bind_some h; exact ⟨_, x, rfl, hx, (Option.some.inj h8).symm⟩)
  obtain ⟨ad, vs, rfl, hl, hn, rl⟩ := r.lst_inv
  · · have hI := rl.ints hx
      obtain ⟨xs, he⟩ := hI.allInts.items
      have hl' : s.heap.IsList ad (intItems xs) := by rw [← he]; exact plain_isList hl
      refine sum_intListG R.handled hl' fun h' tk t' hk => ⟨Kp.of_keep hk, ?_⟩
      have : preSum (numAt xs) xs.size = sumL x := by
        rw [preSum_eq, List.take_of_length_le (by simp), ← nums_intItems, ← he, sumL_eq]
        rw [show vs.toArray.toList = vs from rfl, hI.numsOf]
      rw [this]; exact .int

noncomputable def rangeL (a c : Int) : Nat → List Int
  | 0 => []
  | n + 1 => a :: rangeL (a + c) c n
noncomputable def rangeN (a b c : Int) : Nat := (Builtin.Range.rangeSize a b c).toNat
theorem rangeSize_nonneg (a b c : Int) (hc : c ≠ 0) : 0 ≤ Builtin.Range.rangeSize a b c := by
  unfold Builtin.Range.rangeSize
  split
  · split
    · apply Int.add_nonneg <;> first | decide | (apply Int.ediv_nonneg <;> omega)
    · exact Int.le_refl _
  · split
    · apply Int.add_nonneg <;> first | decide | (apply Int.ediv_nonneg <;> omega)
    · exact Int.le_refl _
noncomputable def rangeOk (a b c : Int) : Bool := c != 0 && Builtin.Range.small a b c && decide (rangeN a b c ≤ 100000)
theorem rangeL_get (c : Int) : ∀ (n : Nat) (a : Int) (i : Nat), i < n → (rangeL a c n)[i]? = some (a + i * c)
  | 0, _, _, h => absurd h (Nat.not_lt_zero _)
  | n + 1, a, 0, _ => by simp [rangeL]
  | n + 1, a, i + 1, h => by
    rw [rangeL, List.getElem?_cons_succ, rangeL_get c n _ i (Nat.lt_of_succ_lt_succ h)]
    have : ((i + 1 : Nat) : Int) = (i : Int) + 1 := by omega
    rw [this, Int.add_mul, Int.one_mul]
    congr 1; omega
theorem rangeL_length (c : Int) : ∀ (n : Nat) (a : Int), (rangeL a c n).length = n
  | 0, _ => rfl
  | n + 1, a => by rw [rangeL, List.length_cons, rangeL_length c n]
theorem range_small {a b c : Int} (h : rangeOk a b c = true) : Builtin.Range.small a b c = true ∧ Builtin.Range.rangeSize a b c = (rangeN a b c : Nat) ∧ rangeN a b c ≤ 100000 := by
  unfold rangeOk at h
  simp only [Bool.and_eq_true, decide_eq_true_eq] at h
  refine ⟨h.1.2, ?_, h.2⟩
  unfold rangeN
  have := rangeSize_nonneg a b c (by simpa using h.1.1)
  omega
noncomputable def divmodK : List AV → Option AV
  | [.int a, .int b] => guardO (b != 0 && okI b) (some (.tup [.int (a.fdiv b), .int (a.fmod b)]))
  | _ => none
theorem divmod_ok : CallOk G p n (.builtin "divmod") divmodK := by
  intro A s B as vs c R S hv hk
  obtain ⟨a, b, rfl, h7, rfl⟩ : ∃ a b, as = [.int a, .int b] ∧ (b != 0 && okI b) = true ∧ c = .tup [.int (a.fdiv b), .int (a.fmod b)] := by
    cases as with
    | nil => exact no hk
    | cons x l =>
      cases x <;> first | exact no hk | skip
      cases l with
      | nil => exact no hk
      | cons y l =>
        cases y <;> first | exact no hk | skip
        cases l with
        | cons _ _ => exact no hk
        | nil => exact ⟨_, _, rfl, (guardO_some hk).1, (Option.some.inj (guardO_some hk).2).symm⟩
  obtain ⟨v, w, rfl, r, q⟩ := hv.two_inv
  obtain ⟨t, rfl⟩ := r.int_inv
  obtain ⟨u, rfl⟩ := q.int_inv
  · · · rw [Bool.and_eq_true] at h7
        exact divmod_int (by simpa using h7.1) ⟨Kp.push, .tup (vs := [_, _]) (Heap.get?_push_size _ rfl) (S.fresh (get_size _)) (.cons .int (.cons .int .nil))⟩ (.inl (PyProof.noPylong_of_log2 (okI_log2 h7.2)))

-- methods of str
noncomputable def cntL (c : Nat) : List Nat → Int
  | [] => 0
  | d :: r => if d = c then 1 + cntL c r else cntL c r
theorem cntL_eq (c : Nat) : ∀ l : List Nat, PyProof.Rows.cnt c l = cntL c l
  | [] => cnt_nil c
  | d :: r => by
    rw [cnt_cons, cntL_eq c r, cntL]
    by_cases h : d = c <;> simp [h]
noncomputable def countK (l : List Nat) : List AV → Option AV
  | [.str [c]] => some (.int (cntL c l))
  | _ => none
noncomputable def joinL (sep : List Nat) : List (List Nat) → List Nat
  | [] => []
  | [x] => x
  | x :: y :: r => x ++ (sep ++ joinL sep (y :: r))
noncomputable def lenSum : List (List Nat) → Nat
  | [] => 0
  | x :: r => x.length + lenSum r
noncomputable def joinK (l : List Nat) : List AV → Option AV
  | [.lst xs] => (strsOf xs).bind fun ss => guardO (decide (lenSum ss + ss.length * l.length ≤ 100000)) (some (.str (joinL l ss)))
  | _ => none
theorem lenSum_eq : ∀ ss : List (List Nat), lenSum ss = ((ss.map fun x => (⟨x.toArray⟩ : PySem.Str)).map (·.length)).sum
  | [] => rfl
  | x :: r => by
    rw [lenSum, lenSum_eq r]
    simp [PySem.Str.length]
theorem mk_append (x y : List Nat) : (⟨x.toArray⟩ : PySem.Str) ++ ⟨y.toArray⟩ = ⟨(x ++ y).toArray⟩ := by
  show PySem.Str.mk _ = _
  congr 1
  simp
theorem join_eq (l : List Nat) : ∀ ss : List (List Nat), Txt.join ⟨l.toArray⟩ (ss.map fun x => ⟨x.toArray⟩) = ⟨(joinL l ss).toArray⟩ := by
  intro ss
  show Builtin.Str.glued _ _ = _
  rw [StrLaws.glued_eq_join]
  induction ss with
  | nil => rfl
  | cons x r ih =>
    cases r with
    | nil => rfl
    | cons y r =>
      have e : PySem.Str.join ⟨l.toArray⟩ (((x :: y :: r).map fun x => (⟨x.toArray⟩ : PySem.Str))) = ⟨x.toArray⟩ ++ ⟨l.toArray⟩ ++ PySem.Str.join ⟨l.toArray⟩ ((y :: r).map fun x => (⟨x.toArray⟩ : PySem.Str)) := by rfl
      rw [e, ih, mk_append, mk_append, joinL, List.append_assoc]
theorem join_ok : SMeth G n "str.join" joinK := by
  intro A s B l t as vs c R S hv hk
  obtain ⟨a, rfl, h⟩ := one_of (f := fun a => joinK l [a]) hk rfl (fun _ => rfl) (fun a b l => by cases a <;> rfl)
  obtain ⟨v, rfl, r⟩ := hv.one_inv
  obtain ⟨xs, ss, rfl, hss, h9, rfl⟩ : ∃ xs ss, a = .lst xs ∧ strsOf xs = some ss ∧ lenSum ss + ss.length * l.length ≤ 100000 ∧ c = .str (joinL l ss) := by
    cases a <;> first | exact no h | (obtain ⟨x, hx, h8⟩ := bind_some h; obtain ⟨h9, h8⟩ := guardO_some h8; exact ⟨_, x, rfl, hx, of_decide_eq_true h9, (Option.some.inj h8).symm⟩)
  obtain ⟨ad, vs, rfl, hl, hn, rl⟩ := r.lst_inv
  · · skip
      obtain ⟨r1, -⟩ := rl.strs hss
      refine join_list (plain_isList hl) r1 ?_ fun t' k => ?_
      · rw [← lenSum_eq, List.length_map, show (PySem.Str.mk l.toArray).length = l.length by simp [PySem.Str.length]]; omega
      · rw [join_eq]; exact ⟨Kp.tok, .str⟩
theorem count_ok : SMeth G n "str.count" countK := by
  intro A s B l t as vs c R S hv hk
  obtain ⟨d, rfl, rfl⟩ : ∃ d, as = [.str [d]] ∧ c = .int (cntL d l) := by
    cases as with
    | nil => exact no hk
    | cons x r =>
      cases x <;> first | exact no hk | skip
      rename_i x
      cases x with
      | nil => exact no hk
      | cons d y =>
        cases y with
        | cons _ _ => exact no hk
        | nil =>
          cases r with
          | cons _ _ => exact no hk
          | nil => exact ⟨_, rfl, (Option.some.inj hk).symm⟩
  obtain ⟨v, rfl, r⟩ := hv.one_inv
  obtain ⟨u, rfl⟩ := r.str_inv
  refine SC.count ?_
  have : Txt.count ⟨l.toArray⟩ ⟨[d].toArray⟩ = cntL d l := by
    rw [← cntL_eq]
    exact count_cnt ⟨l.toArray⟩ d
  rw [this]
  exact ⟨Kp.tok, .int⟩
end
end Mine
namespace Mine
inductive Fl where
  | next | brk | cont
  | ret (a : AV)
inductive FlR (h : Heap) (B : Addr → Prop) : Fl → Flow → Prop
  | next : FlR h B .next .next
  | brk : FlR h B .brk .brk
  | cont : FlR h B .cont .cont
  | ret {a : AV} {v : Value} : VR h B a v → FlR h B (.ret a) (.ret v)

noncomputable def OffC (env : Env) (b : Addr) : Prop := (∀ c ∈ env.cells, c.2 ≠ b) ∨ ∀ x, env.kindOf x ≠ some .cell
noncomputable def TabStepK (G : GC) (env : Env) (oa' : Option Addr) (s s' : Shared) : Prop := ∀ P o, G.Tab P → s.heap.get? P = some o → s'.heap.get? P = some o ∨ (o = tabO #[] ∧ ∃ c, s'.heap.get? P = some (G.grown P c) ∧ s'.heap.CodeRec (.ref c) (G.pq P) ∧ s.heap.get? c = none ∧ ¬ G.Tab c ∧ c ≠ env.locals ∧ (∀ q ∈ env.cells, q.2 ≠ c) ∧ oa' ≠ some c)
theorem TabStepK.keep {G : GC} {env : Env} {oa' : Option Addr} {s s' : Shared} (h : ∀ P o, G.Tab P → s.heap.get? P = some o → s'.heap.get? P = some o) : TabStepK G env oa' s s' := fun P o t e => .inl (h P o t e)
theorem TabStepK.weak {G : GC} {env : Env} {oa' : Option Addr} {s s' : Shared} (h : TabStepK G env oa' s s') : TabStep G s s' := fun P o t e => (h P o t e).imp id fun ⟨h1, c, h2, h3, h4, h5, _⟩ => ⟨h1, c, h2, h3, h4, h5⟩
structure Ks (G : GC) (p : Bool) (env : Env) (oa oa' : Option Addr) (s s' : Shared) : Prop where
  ex : s'.drawn = s.drawn ∧ s'.os = s.os
  heap : ∀ b o, s.heap.get? b = some o → b ≠ env.locals → OffC env b → oa ≠ some b → (p = true ∨ ¬ G.Tab b) → s'.heap.get? b = some o
  there : ∀ b o, s.heap.get? b = some o → ∃ o', s'.heap.get? b = some o'
  gens : p = true → s'.gens = s.gens
  bare : AllBare s.gens → AllBare s'.gens
  tabs : TabStepK G env oa' s s'
  own : ∀ a, oa' = some a → oa = some a ∨ s.heap.get? a = none

section
variable {G : GC} {p : Bool} {env : Env} {oa oa' oa'' : Option Addr} {s s' s'' : Shared}
theorem Ks.refl : Ks G p env oa oa s s := ⟨⟨rfl, rfl⟩, fun _ _ e _ _ _ _ => e, fun _ o e => ⟨o, e⟩, fun _ => rfl, fun e => e, .keep fun _ _ _ e => e, fun _ e => .inl e⟩
theorem Ks.trans (ka : Ks G p env oa oa' s s') (kb : Ks G p env oa' oa'' s' s'') : Ks G p env oa oa'' s s'' where
  ex := ⟨kb.ex.1.trans ka.ex.1, kb.ex.2.trans ka.ex.2⟩
  heap := fun b o e h1 h2 h3 h4 => by
    refine kb.heap b o (ka.heap b o e h1 h2 h3 h4) h1 h2 (fun q => ?_) h4
    rcases ka.own b q with q | q
    · exact h3 q
    · rw [e] at q; cases q
  there := fun b o e => let ⟨o', e'⟩ := ka.there b o e; kb.there b o' e'
  gens := fun e => (kb.gens e).trans (ka.gens e)
  bare := fun e => kb.bare (ka.bare e)
  tabs := fun P o t e => by
    rcases ka.tabs P o t e with h | ⟨h1, c, h2, h3, h4, h5, h6, h7, h8⟩
    · rcases kb.tabs P o t h with h' | ⟨h1, c, h2, h3, h4, h5, h6⟩
      · exact .inl h'
      · refine .inr ⟨h1, c, h2, h3, ?_, h5, h6⟩
        cases q : s.heap.get? c with
        | none => rfl
        | some o' =>
          obtain ⟨o'', q'⟩ := ka.there c o' q
          rw [q'] at h4; cases h4
    · rcases kb.tabs P _ t h2 with h' | ⟨h', _⟩
      · refine .inr ⟨h1, c, h', codeRec_at h3 fun o e => kb.heap c o e h6 (.inl h7) h8 (.inr h5), h4, h5, h6, h7, fun q => ?_⟩
        rcases kb.own c q with q | q
        · exact h8 q
        · obtain ⟨o', ho'⟩ := codeRec_live h3
          rw [q] at ho'; cases ho'
      · exact absurd h' grown_ne
  own := fun a e => by
    rcases kb.own a e with q | q
    · exact ka.own a q
    · right
      cases q' : s.heap.get? a with
      | none => rfl
      | some o =>
        obtain ⟨o', e'⟩ := ka.there a o q'
        rw [q] at e'; cases e'
theorem new_not_live {h : Heap} {b : Addr} (e : h.get? b = none) (q : ∃ o, h.get? b = some o) : False := by obtain ⟨o, ho⟩ := q; rw [e] at ho; cases ho
theorem Ks.of_kp' (k : Kp G p s s') (T : ∀ b, G.Tab b → ∃ o, s.heap.get? b = some o) (L : ∀ b, (b = env.locals ∨ (∃ c ∈ env.cells, c.2 = b) ∨ oa = some b) → ∃ o, s.heap.get? b = some o) : Ks G p env oa oa s s' :=
  ⟨k.ex, fun b o e _ _ _ t => k.heap b o e t, fun b o e => by
    by_cases t : G.Tab b
    · rcases k.tabs b o t e with h | ⟨_, c, h2, _⟩
      · exact ⟨_, h⟩
      · exact ⟨_, h2⟩
    · exact ⟨o, k.heap b o e (.inr t)⟩, k.gens, k.bare, fun P o t e => (k.tabs P o t e).imp id fun ⟨h1, c, h2, h3, h4, h5⟩ => ⟨h1, c, h2, h3, h4, h5,
      fun q => new_not_live h4 (L c (.inl q)), fun d hd q => new_not_live h4 (L c (.inr (.inl ⟨d, hd, q⟩))), fun q => new_not_live h4 (L c (.inr (.inr q)))⟩, fun _ e => .inl e⟩
theorem Ks.of_pure (k : Kp G true s s') : Ks G p env oa oa s s' :=
  ⟨k.ex, fun b o e _ _ _ _ => k.heap b o e (.inl rfl), fun b o e => ⟨o, k.heap b o e (.inl rfl)⟩, fun _ => k.gens rfl, k.bare, .keep fun P o _ e => k.heap P o e (.inl rfl), fun _ e => .inl e⟩
theorem Ks.of_kp {fd : FD} {X : Addr → Prop} {σ : AS} (k : Kp G p s s') (S : St G fd env oa X σ s.heap) : Ks G p env oa oa s s' :=
  Ks.of_kp' k (fun b t => (S.tabOk b t).live) fun b q => S.live b (q.imp id fun q => q.imp id .inl)
theorem Ks.lift (k : Ks G true env oa oa' s s') : Ks G p env oa oa' s s' :=
  ⟨k.ex, fun b o e h1 h2 h3 _ => k.heap b o e h1 h2 h3 (.inl rfl), k.there, fun _ => k.gens rfl, k.bare, k.tabs, k.own⟩
end

noncomputable def SOk (G : GC) (fd : FD) (p : Bool) (env : Env) (A : Around) (oa : Option Addr) (X : Addr → Prop) (t : Sem Flow) (s : Shared) (fl : Fl) (σ' : AS) : Prop := wpAny (model G.prog G.w) A t (fun w s' => ∃ oa', Ks G p env oa oa' s s' ∧ St G fd env oa' X σ' s'.heap ∧ FlR s'.heap (Bset env oa' X) fl w) Nay s
structure SS (G : GC) (fd : FD) (p : Bool) (n : Nat) (ss : List Stmt) (F : AS → Option (Fl × AS)) : Prop where
  run : ∀ (env : Env) (A : Around) (s : Shared) (oa : Option Addr) (X : Addr → Prop) (σ : AS) (fl : Fl) (σ' : AS), Room n A → St G fd env oa X σ s.heap → F σ = some (fl, σ') →
    SOk G fd p env A oa X (execs ss env) s fl σ'
structure S1 (G : GC) (fd : FD) (p : Bool) (n : Nat) (st : Stmt) (F : AS → Option (Fl × AS)) : Prop where
  run : ∀ (env : Env) (A : Around) (s : Shared) (oa : Option Addr) (X : Addr → Prop) (σ : AS) (fl : Fl) (σ' : AS), Room n A → St G fd env oa X σ s.heap → F σ = some (fl, σ') →
    SOk G fd p env A oa X (exec st env) s fl σ'

noncomputable def seqF (F H : AS → Option (Fl × AS)) (σ : AS) : Option (Fl × AS) := (F σ).bind fun x => match x with
  | (.next, σ') => H σ'
  | y => some y

section
variable {G : GC} {fd : FD} {p : Bool} {n : Nat}
theorem SS.nil : SS G fd p n [] (fun σ => some (.next, σ)) := by
  refine ⟨?_⟩
  intro env A s oa X σ fl σ' R S hf
  cases hf
  exact wpAny_execs_nil ⟨oa, Ks.refl, S, .next⟩
theorem SS.cons {st : Stmt} {rest : List Stmt} {F H : AS → Option (Fl × AS)} (h : S1 G fd p n st F) (hs : SS G fd p n rest H) : SS G fd p n (st :: rest) (seqF F H) := by
  refine ⟨?_⟩
  intro env A s oa X σ fl σ' R S hf
  obtain ⟨⟨fl₁, σ₁⟩, h1, h2⟩ := bind_some hf
  refine wpAny_execs_cons (wpN (h.run env A s oa X σ fl₁ σ₁ R S h1) fun w s₁ q => ?_)
  obtain ⟨oa₁, k₁, S₁, f₁⟩ := q
  cases f₁ with
  | next =>
    refine wpN (hs.run env A s₁ oa₁ X σ₁ fl σ' R S₁ h2) fun w s₂ q => ?_
    obtain ⟨oa₂, k₂, S₂, f₂⟩ := q
    exact ⟨oa₂, k₁.trans k₂, S₂, f₂⟩
  | brk => cases h2; exact ⟨oa₁, k₁, S₁, .brk⟩
  | cont => cases h2; exact ⟨oa₁, k₁, S₁, .cont⟩
  | ret r => cases h2; exact ⟨oa₁, k₁, S₁, .ret r⟩

noncomputable def setL (i : Nat) (a : AV) (σ : AS) : AS := ⟨σ.loc.set i (some a), match σ.own with
  | some (j, l) => if j = i then none else some (j, l)
  | none => none⟩
noncomputable def NameAt (fd : FD) (i : Nat) (x : PySem.Str) : Prop :=
  fd.names[i]? = some x ∧ (∀ j, fd.names[j]? = some x → j = i)

theorem store_local {env : Env} {A : Around} {s : Shared} {oa : Option Addr} {X : Addr → Prop} {σ : AS} {i : Nat} {x : PySem.Str} {a : AV} {v : Value} (hi : NameAt fd i x) (hk : fd.scope.names.lookup x = some .local)
    (S : St G fd env oa X σ s.heap) (r : VR s.heap (Bset env oa X) a v) :
    wpAny G.M A (storeName env x v) (fun _ s' => Ks G p env oa oa s s' ∧ St G fd env oa X (setL i a σ) s'.heap ∧ ∀ b o, b ≠ env.locals → s.heap.get? b = some o → s'.heap.get? b = some o) Nay s := by
  have hk' : env.kindOf x = some .local := by unfold Env.kindOf; rw [S.eo.scope]; exact hk
  have hkf : env.scope.kind = .function := by rw [S.eo.scope]; exact S.eo.kind
  obtain ⟨m, hn, h1, h2⟩ := S.ns
  refine wpAny_storeName_local hk' hn (fun h' hn' hs => ?_) (by rw [hkf]; rfl)
  have keep : ∀ b o, b ≠ env.locals → s.heap.get? b = some o → h'.get? b = some o := fun b o ne e => (hs.2 b ne).trans e
  have there : ∀ b o, s.heap.get? b = some o → ∃ o', h'.get? b = some o' := fun b o e => by
    by_cases ne : b = env.locals
    · subst ne
      obtain ⟨o', _, _, ho, _⟩ := hn'
      exact ⟨o', ho⟩
    · exact ⟨o, keep b o ne e⟩
  have nb : ∀ b, ¬ Bset env oa X b → b ≠ env.locals := fun b n e => n (.inl e)
  have nt : ∀ b, G.Tab b → b ≠ env.locals := fun b t e => S.locX (e ▸ S.tab b t)
  have ncell : ∀ c ∈ env.cells, c.2 ≠ env.locals := fun c hc e => by
    obtain ⟨v, hv⟩ := S.cells c hc
    rw [e] at hv
    exact ns_not_cell hn hv
  refine ⟨⟨⟨rfl, rfl⟩, fun b o e ne _ _ _ => keep b o ne e, there, fun _ => rfl, fun e => e, .keep fun P o t e => keep _ _ (nt _ t) e, fun _ e => .inl e⟩, ?_, keep⟩
  refine ⟨S.eo, fun b t => (S.tabOk b t).mono (fun o e => keep _ _ (nt b t) e) (fun c o e n _ => keep c o (nb c n) e) (fun _ _ _ q => q), fun b o e => ⟨keep b o (nb b (S.base b o e).2) (S.base b o e).1, (S.base b o e).2⟩, S.tab, fun b e => let ⟨o, ho⟩ := S.live b e; there b o ho, S.locX, S.cellX, S.oaX,
    fun c hc => let ⟨v, hv⟩ := S.cells c hc; ⟨v, isCell_at hv fun o e => keep _ o (ncell c hc) e⟩, S.cellsN, _, hn', fun j y b hy hb => ?_, fun j l hl => ?_⟩
  · have hb' : (σ.loc.set i (some a))[j]? = some (some b) := hb
    by_cases e : j = i
    · subst e
      have exy : y = x := Option.some.inj (hy.symm.trans hi.1)
      subst exy
      have : (σ.loc.set j (some a))[j]? = some (some a) := by
        rw [List.getElem?_set_self]
        by_cases hlt : j < σ.loc.length
        · exact hlt
        · rw [List.getElem?_eq_none (by rw [List.length_set]; omega)] at hb'; cases hb'
      rw [this] at hb'
      cases hb'
      exact ⟨v, .inl ⟨hk', if_pos rfl⟩, r.mono (fun b o e n => keep b o (nb b n) e) fun _ _ _ e => e⟩
    · rw [List.getElem?_set_ne (by omega)] at hb'
      obtain ⟨w, hw, hr⟩ := h1 j y b hy hb'
      refine ⟨w, ?_, hr.mono (fun b o e n => keep b o (nb b n) e) fun _ _ _ e => e⟩
      have nexy : y ≠ x := fun q => e (hi.2 j (q ▸ hy))
      rcases hw with ⟨q1, q2⟩ | q
      · exact .inl ⟨q1, (if_neg nexy).trans q2⟩
      · exact (VarIs.keep (m := fun z => if z = x then some v else m z) (.inr q) fun c hc o e => keep _ o (ncell c hc) e)
  · have hl' : (match σ.own with | some (j, l) => if j = i then Option.none else some (j, l) | Option.none => Option.none) = some (j, l) := hl
    cases ho : σ.own with
    | none => rw [ho] at hl'; cases hl'
    | some q =>
      obtain ⟨j', l'⟩ := q
      rw [ho] at hl'
      have hl'' : (if j' = i then Option.none else some (j', l')) = some (j, l) := hl'
      split at hl''
      · cases hl''
      · rename_i ne
        cases hl''
        obtain ⟨ad, y, vs, e1, e2, eV, e5, e6⟩ := h2 _ _ ho
        have neL : ad ≠ env.locals := fun e => ns_not_list hn (e ▸ e5)
        refine ⟨ad, y, vs, e1, e2, ?_, plain_at e5 fun o e => keep _ o neL e, e6.mono (fun b o e n => keep b o (nb b n) e) fun _ _ _ e => e⟩
        have nexy : y ≠ x := fun q => ne (hi.2 _ (q ▸ e2))
        rcases eV with ⟨q1, q2⟩ | q
        · exact .inl ⟨q1, (if_neg nexy).trans q2⟩
        · exact (VarIs.keep (m := fun z => if z = x then some v else m z) (.inr q) fun c hc o e => keep _ o (ncell c hc) e)
theorem store_cell {env : Env} {A : Around} {s : Shared} {oa : Option Addr} {X : Addr → Prop} {σ : AS} {i : Nat} {x : PySem.Str} {a : AV} {v : Value} (hi : NameAt fd i x) (hk : fd.scope.names.lookup x = some .cell)
    (S : St G fd env oa X σ s.heap) (r : VR s.heap (Bset env oa X) a v) :
    wpAny G.M A (storeName env x v) (fun _ s' => Ks G p env oa oa s s' ∧ St G fd env oa X (setL i a σ) s'.heap) Nay s := by
  have hk' : env.kindOf x = some .cell := by unfold Env.kindOf; rw [S.eo.scope]; exact hk
  have hkf : env.scope.kind = .function := by rw [S.eo.scope]; exact S.eo.kind
  obtain ⟨m, hn, h1, h2⟩ := S.ns
  obtain ⟨c, hc⟩ := S.eo.cl x hk
  have hcm := mem_of_lookup hc
  obtain ⟨v₀, hv₀⟩ := S.cells _ hcm
  refine wpAny_storeName_cell hkf hk' hc hv₀ fun h' hc' hs => ?_
  have keep : ∀ b o, b ≠ c → s.heap.get? b = some o → h'.get? b = some o := fun b o ne e => (hs.2 b ne).trans e
  have there : ∀ b o, s.heap.get? b = some o → ∃ o', h'.get? b = some o' := fun b o e => by
    by_cases ne : b = c
    · subst ne
      obtain ⟨o', ho, _⟩ := hc'
      exact ⟨o', ho⟩
    · exact ⟨o, keep b o ne e⟩
  have nb : ∀ b, ¬ Bset env oa X b → b ≠ c := fun b n e => n (.inr (.inl ⟨_, hcm, e.symm⟩))
  have nt : ∀ b, G.Tab b → b ≠ c := fun b t e => S.cellX _ hcm (e ▸ S.tab b t)
  have nL : env.locals ≠ c := fun e => by
    have : s.heap.IsCell env.locals v₀ := by rw [e]; exact hv₀
    exact ns_not_cell hn this
  refine ⟨⟨⟨rfl, rfl⟩, fun b o e _ ne _ _ => keep b o (fun q => ne.elim (fun ne => ne _ hcm q.symm) fun ne => ne x hk') e, there, fun _ => rfl, fun e => e, .keep fun P o t e => keep _ _ (nt _ t) e, fun _ e => .inl e⟩, ?_⟩
  refine ⟨S.eo, fun b t => (S.tabOk b t).mono (fun o e => keep _ _ (nt b t) e) (fun c o e n _ => keep c o (nb c n) e) (fun _ _ _ q => q), fun b o e => ⟨keep b o (nb b (S.base b o e).2) (S.base b o e).1, (S.base b o e).2⟩, S.tab, fun b e => let ⟨o, ho⟩ := S.live b e; there b o ho, S.locX, S.cellX, S.oaX,
    fun d hd => ?_, S.cellsN, m, Heap.Ns.at' hn fun o e => keep _ o nL e, fun j y b hy hb => ?_, fun j l hl => ?_⟩
  · by_cases e : d.2 = c
    · exact ⟨some v, e ▸ hc'⟩
    · obtain ⟨w, hw⟩ := S.cells d hd
      exact ⟨w, isCell_at hw fun o q => keep _ o e q⟩
  · have hb' : (σ.loc.set i (some a))[j]? = some (some b) := hb
    by_cases e : j = i
    · subst e
      have exy : y = x := Option.some.inj (hy.symm.trans hi.1)
      subst exy
      have : (σ.loc.set j (some a))[j]? = some (some a) := by
        rw [List.getElem?_set_self]
        by_cases hlt : j < σ.loc.length
        · exact hlt
        · rw [List.getElem?_eq_none (by rw [List.length_set]; omega)] at hb'; cases hb'
      rw [this] at hb'
      cases hb'
      exact ⟨v, .inr ⟨.inl hk', c, hc, hc'⟩, r.mono (fun b o e n => keep b o (nb b n) e) fun _ _ _ e => e⟩
    · rw [List.getElem?_set_ne (by omega)] at hb'
      obtain ⟨w, hw, hr⟩ := h1 j y b hy hb'
      refine ⟨w, ?_, hr.mono (fun b o e n => keep b o (nb b n) e) fun _ _ _ e => e⟩
      have nexy : y ≠ x := fun q => e (hi.2 j (q ▸ hy))
      rcases hw with q | ⟨q1, d, hd, hq⟩
      · exact .inl q
      · refine .inr ⟨q1, d, hd, isCell_at hq fun o q => keep _ o (fun q' => nexy ?_) q⟩
        subst q'
        exact S.cellsN _ _ _ hd hc
  · have hl' : (match σ.own with | some (j, l) => if j = i then Option.none else some (j, l) | Option.none => Option.none) = some (j, l) := hl
    cases ho : σ.own with
    | none => rw [ho] at hl'; cases hl'
    | some q =>
      obtain ⟨j', l'⟩ := q
      rw [ho] at hl'
      have hl'' : (if j' = i then Option.none else some (j', l')) = some (j, l) := hl'
      split at hl''
      · cases hl''
      · rename_i ne
        cases hl''
        obtain ⟨ad, y, vs, e1, e2, eV, e5, e6⟩ := h2 _ _ ho
        have neL : ad ≠ c := fun e => cell_not_list hv₀ (e ▸ e5)
        have nexy : y ≠ x := fun q => ne (hi.2 _ (q ▸ e2))
        have eV' : VarIs env m h' y (.ref ad) := by
          rcases eV with q | ⟨q1, d, hd, hq⟩
          · exact .inl q
          · refine .inr ⟨q1, d, hd, isCell_at hq fun o q => keep _ o (fun q' => nexy ?_) q⟩
            subst q'
            exact S.cellsN _ _ _ hd hc
        exact ⟨ad, y, vs, e1, e2, eV', plain_at e5 fun o e => keep _ o neL e, e6.mono (fun b o e n => keep b o (nb b n) e) fun _ _ _ e => e⟩
noncomputable def Stores (fd : FD) (i : Nat) (x : PySem.Str) : Prop := NameAt fd i x ∧ (fd.scope.names.lookup x = some .local ∨ fd.scope.names.lookup x = some .cell)
theorem store_ok {env : Env} {A : Around} {s : Shared} {oa : Option Addr} {X : Addr → Prop} {σ : AS} {i : Nat} {x : PySem.Str} {a : AV} {v : Value} (hi : Stores fd i x)
    (S : St G fd env oa X σ s.heap) (r : VR s.heap (Bset env oa X) a v) :
    wpAny G.M A (storeName env x v) (fun _ s' => Ks G p env oa oa s s' ∧ St G fd env oa X (setL i a σ) s'.heap) Nay s :=
  hi.2.elim (fun h => wpN (store_local hi.1 h S r) fun _ _ q => ⟨q.1, q.2.1⟩) fun h => store_cell hi.1 h S r

theorem S1.assign {x : PySem.Str} {i : Nat} {px pos : Pos} {e : Expr} {f : AS → Option AV} (hi : Stores fd i x) (h : SE G fd p n e f) (hs : ∀ env, swapsWith e (some (.Name x px)) pos.line env = pure false := by intro _; rfl) :
    S1 G fd p n (.Assign [.Name x px] e pos) (fun σ => (f σ).bind fun a => some (.next, setL i a σ)) := by
  refine ⟨?_⟩
  intro env A s oa X σ fl σ' R S hf
  obtain ⟨a, ha, hf⟩ := bind_some hf
  cases hf
  refine wpAny_Assign_Name (wpN (h.run env A s oa X σ a R S ha) fun v s₁ q => ?_) (hs env)
  refine wpN (store_ok (p := p) hi (S.kp q.1) q.2) fun _ s₂ q₂ => ⟨oa, (Ks.of_kp q.1 S).trans q₂.1, q₂.2, .next⟩
theorem S1.ite {t : Expr} {body els : List Stmt} {pos : Pos} {c : AS → Option Bool} {F H : AS → Option (Fl × AS)} (ht : ST G fd p n t c) (hb : SS G fd p n body F) (he : SS G fd p n els H) :
    S1 G fd p n (.If t body els pos) (fun σ => (c σ).bind fun b => if b then F σ else H σ) := by
  refine ⟨?_⟩
  intro env A s oa X σ fl σ' R S hf
  obtain ⟨b, hb', hf⟩ := bind_some hf
  refine wpAny_If (wpN (ht.run env A s oa X σ b R S hb') fun w s₁ q => ?_)
  obtain ⟨k₁, rfl⟩ := q
  have K₁ : Ks G p env oa oa s s₁ := Ks.of_kp k₁ S
  cases w with
  | true =>
    simp only [if_true] at hf ⊢
    exact wpN (hb.run env A s₁ oa X σ fl σ' R (S.kp k₁) hf) fun w s₂ ⟨oa₂, k₂, S₂, f₂⟩ => ⟨oa₂, K₁.trans k₂, S₂, f₂⟩
  | false =>
    simp only [Bool.false_eq_true, if_false] at hf ⊢
    exact wpN (he.run env A s₁ oa X σ fl σ' R (S.kp k₁) hf) fun w s₂ ⟨oa₂, k₂, S₂, f₂⟩ => ⟨oa₂, K₁.trans k₂, S₂, f₂⟩
theorem S1.ret {e : Expr} {pos : Pos} {f : AS → Option AV} (h : SE G fd p n e f) : S1 G fd p n (.Return (some e) pos) (fun σ => (f σ).bind fun a => some (.ret a, σ)) := by
  refine ⟨?_⟩
  intro env A s oa X σ fl σ' R S hf
  obtain ⟨a, ha, hf⟩ := bind_some hf
  cases hf
  exact wpAny_Return_some (wpN (h.run env A s oa X σ a R S ha) fun v s₁ q => ⟨oa, Ks.of_kp q.1 S, S.kp q.1, .ret q.2⟩)
theorem S1.brk {pos : Pos} : S1 G fd p n (.Break pos) (fun σ => some (.brk, σ)) := by
  refine ⟨?_⟩
  intro env A s oa X σ fl σ' R S hf
  cases hf
  exact wpAny_Break ⟨oa, Ks.refl, S, .brk⟩
end
section
variable {G : GC} {fd : FD}
theorem St.moveT {env : Env} {oa : Option Addr} {X X₂ W : Addr → Prop} {σ : AS} {h h' : Heap} (S : St G fd env oa X σ h) (hW : ∀ b, W b → X b ∨ h.get? b = none) (hk : ∀ b o, ¬ W b → ¬ G.Tab b → h.get? b = some o → h'.get? b = some o)
    (hT : ∀ b, G.Tab b → X₂ b) (T : ∀ b, G.Tab b → TabInv G h' (Bset env oa X₂) b) (hX : ∀ b, X₂ b → X b ∨ h.get? b = none) (hl : ∀ b, X₂ b → ∃ o, h'.get? b = some o) : St G fd env oa X₂ σ h' := by
  have nX : ∀ b o, h.get? b = some o → ¬ X b → ¬ X₂ b := fun b o e nx x => (hX b x).elim nx fun q => by rw [e] at q; cases q
  have kp : ∀ b o, ¬ X b → h.get? b = some o → h'.get? b = some o := fun b o nx e => hk b o (fun w => (hW b w).elim nx fun q => by rw [e] at q; cases q) (fun t => nx (S.tab b t)) e
  have kB : ∀ b o, h.get? b = some o → ¬ Bset env oa X b → h'.get? b = some o := fun b o e nb => kp b o (fun x => nb (.inr (.inr (.inr x)))) e
  have down : ∀ b o, h.get? b = some o → Bset env oa X₂ b → Bset env oa X b := fun b o e q =>
    q.imp id fun q => q.imp id fun q => q.imp id fun q => (hX b q).elim id fun q => by rw [e] at q; cases q
  have kC : ∀ c ∈ env.cells, ∀ o, h.get? c.2 = some o → h'.get? c.2 = some o := fun c hc o e => kp _ o (S.cellX c hc) e
  have lv : ∀ b, Bset env oa X b → ¬ X b → (∃ o, h'.get? b = some o) ∧ ¬ X₂ b := fun b q nx => let ⟨o, ho⟩ := S.live b q; ⟨⟨o, kp b o nx ho⟩, nX b o ho nx⟩
  have l1 := lv _ (.inl rfl) S.locX
  have l2 := fun c hc => lv c.2 (.inr (.inl ⟨c, hc, rfl⟩)) (S.cellX c hc)
  have l3 := fun a ha => lv a (.inr (.inr (.inl ha))) (S.oaX a ha)
  refine ⟨S.eo, T, fun b o e => ⟨kB b o (S.base b o e).1 (S.base b o e).2, fun q => (S.base b o e).2 (down b o (S.base b o e).1 q)⟩, hT, fun b q => ?_, l1.2, fun c hc => (l2 c hc).2, fun a ha => (l3 a ha).2,
    fun c hc => let ⟨v, hv⟩ := S.cells c hc; ⟨v, isCell_at hv (kC c hc)⟩, S.cellsN, ?_⟩
  · exact q.elim (fun q => q ▸ l1.1) fun q => q.elim (fun ⟨c, hc, q⟩ => q ▸ (l2 c hc).1) fun q => q.elim (fun q => (l3 b q).1) (hl b)
  · obtain ⟨m, hn, h1, h2⟩ := S.ns
    refine ⟨m, Heap.Ns.at' hn fun o e => kp _ o S.locX e, fun i x a hx ha => ?_, fun i l hi => ?_⟩
    · obtain ⟨v, hv, hr⟩ := h1 i x a hx ha
      exact ⟨v, hv.keep fun c hc o e => kC c hc o e, hr.mono (fun b o e nb => kB b o e nb) fun b o e q => down b o e q⟩
    · obtain ⟨a, x, vs, e1, e2, eV, e5, e6⟩ := h2 i l hi
      exact ⟨a, x, vs, e1, e2, eV.keep fun c hc o e => kC c hc o e, plain_at e5 fun o e => kp _ o (S.oaX a e1) e, e6.mono (fun b o e nb => kB b o e nb) fun b o e q => down b o e q⟩
theorem St.move {env : Env} {oa : Option Addr} {X X₂ W : Addr → Prop} {σ : AS} {h h' : Heap} (S : St G fd env oa X σ h) (hW : ∀ b, W b → X b ∨ h.get? b = none) (hWT : ∀ b, W b → ¬ G.Tab b) (hk : ∀ b o, ¬ W b → h.get? b = some o → h'.get? b = some o)
    (hT : ∀ b, G.Tab b → X₂ b) (hX : ∀ b, X₂ b → X b ∨ h.get? b = none) (hl : ∀ b, X₂ b → ∃ o, h'.get? b = some o) : St G fd env oa X₂ σ h' :=
  S.moveT hW (fun b o w _ e => hk b o w e) hT (fun b t => (S.tabOk b t).mono (fun o e => hk _ o (fun w => hWT b w t) e) (fun c o e nb _ => hk c o (fun w => (hW c w).elim (fun x => nb (.inr (.inr (.inr x)))) fun q => by rw [e] at q; cases q) e)
    fun b o e q => q.imp id fun q => q.imp id fun q => q.imp id fun q => (hX b q).elim id fun q => by rw [e] at q; cases q) hX hl
end
end Mine
namespace Mine
section
variable {G : GC} {fd : FD} {p : Bool} {n : Nat}

-- targets
noncomputable def AOk (G : GC) (fd : FD) (p : Bool) (env : Env) (A : Around) (oa : Option Addr) (X : Addr → Prop) (t : Sem Unit) (s : Shared) (σ' : AS) : Prop := wpAny (model G.prog G.w) A t (fun _ s' => Ks G p env oa oa s s' ∧ St G fd env oa X σ' s'.heap) Nay s
structure Asg (G : GC) (fd : FD) (p : Bool) (n : Nat) (target : Expr) (set : AV → AS → Option AS) : Prop where
  run : ∀ (env : Env) (A : Around) (s : Shared) (oa : Option Addr) (X : Addr → Prop) (σ : AS) (a : AV) (v : Value) (σ' : AS), Room n A → St G fd env oa X σ s.heap → VR s.heap (Bset env oa X) a v → set a σ = some σ' →
    AOk G fd p env A oa X (assign target env v) s σ'
theorem Ks.vrs {env : Env} {oa : Option Addr} {X : Addr → Prop} {σ : AS} {s s' : Shared} {a : List AV} {v : List Value} {oa' : Option Addr} (S : St G fd env oa X σ s.heap) (k : Ks G p env oa oa' s s') (r : VRs s.heap (Bset env oa X) a v) : VRs s'.heap (Bset env oa X) a v :=
  r.mono (fun b o e nb => k.heap b o e (fun q => nb (.inl q)) (.inl fun c hc q => nb (.inr (.inl ⟨c, hc, q⟩))) (fun q => nb (.inr (.inr (.inl q)))) (.inr fun t => nb (.inr (.inr (.inr (S.tab b t)))))) fun _ _ _ e => e
theorem Asg.name {x : PySem.Str} {i : Nat} {px : Pos} (hi : Stores fd i x) : Asg G fd p n (.Name x px) (fun a σ => some (setL i a σ)) := by
  refine ⟨?_⟩
  intro env A s oa X σ a v σ' R S r hf
  cases hf
  exact wpAny_assign_Name (store_ok hi S r)
inductive NamesT (fd : FD) : List Expr → List Nat → Prop
  | nil : NamesT fd [] []
  | cons {x : PySem.Str} {i : Nat} {px : Pos} {es : List Expr} {is : List Nat} : Stores fd i x → NamesT fd es is → NamesT fd (.Name x px :: es) (i :: is)
noncomputable def setAll : List Nat → List AV → AS → Option AS
  | [], [], σ => some σ
  | i :: is, a :: l, σ => setAll is l (setL i a σ)
  | _, _, _ => none
noncomputable def setT (is : List Nat) : AV → AS → Option AS
  | .tup l, σ => setAll is l σ
  | _, _ => none
theorem setAll_len : ∀ {is : List Nat} {l : List AV} {σ σ' : AS}, setAll is l σ = some σ' → is.length = l.length
  | [], [], _, _, _ => rfl
  | i :: is, a :: l, σ, σ', h => by
    have := setAll_len (is := is) (l := l) h
    simp [this]
  | [], _ :: _, _, _, h => by cases h
  | _ :: _, [], _, _, h => by cases h
theorem NamesT.each {env : Env} {es : List Expr} {is : List Nat} (h : NamesT fd es is) : (assignEach es env).length = is.length ∧ (assignEach es env).findIdx? (fun x => x.1) = none := by
  induction h with
  | nil => exact ⟨rfl, rfl⟩
  | @cons x i px es is h r ih =>
    have e : assignEach (.Name x px :: es) env = (false, assign (.Name x px) env) :: assignEach es env := by first | rfl | simp [assignEach]
    obtain ⟨h1, h2⟩ := ih
    rw [e]
    refine ⟨by simp [h1], ?_⟩
    rw [List.findIdx?_cons, h2]
    rfl
theorem NamesT.store {env : Env} {A : Around} {oa : Option Addr} {X : Addr → Prop} {es : List Expr} {is : List Nat} (h : NamesT fd es is) : ∀ {s : Shared} {σ σ' : AS} {l : List AV} {vs : List Value}, St G fd env oa X σ s.heap → VRs s.heap (Bset env oa X) l vs → setAll is l σ = some σ' →
    AOk G fd p env A oa X (assignInOrder ((assignEach es env).map (·.2)) vs) s σ' := by
  induction h with
  | nil =>
    intro s σ σ' l vs S r h
    cases l with
    | cons _ _ => exact no h
    | nil =>
      cases r.nil_inv
      cases h
      exact wpAny_assignInOrder_none ⟨Ks.refl, S⟩
  | @cons x i px es is hx _ ih =>
    intro s σ σ' l vs S r h
    cases l with
    | nil => exact no h
    | cons a l =>
      obtain ⟨v, ws, rfl, ra, rl⟩ := r.cons_inv
      have e : assignEach (.Name x px :: es) env = (false, assign (.Name x px) env) :: assignEach es env := by first | rfl | simp [assignEach]
      rw [e]
      refine wpAny_assignInOrder_more (wpAny_assign_Name (wpN (store_ok (p := p) hx S ra) fun _ s₁ q => ?_))
      exact wpN (ih q.2 (q.1.vrs S rl) h) fun _ s₂ q₂ => ⟨q.1.trans q₂.1, q₂.2⟩
theorem Asg.tup {es : List Expr} {is : List Nat} {k : Nat} {pos : Pos} (h : NamesT fd es is) : Asg G fd p n (.Tuple es k pos) (setT is) := by
  refine ⟨?_⟩
  intro env A s oa X σ a v σ' R S r hf
  obtain ⟨l, rfl, hf'⟩ : ∃ l, a = .tup l ∧ setAll is l σ = some σ' := by cases a <;> first | exact no hf | exact ⟨_, rfl, hf⟩
  obtain ⟨ad, vs, rfl, ht, hn, rl⟩ := r.tup_inv
  obtain ⟨e1, e2⟩ := h.each (env := env)
  refine wpAny_assign_Tuple (items := vs.toArray) R.handled ⟨_, ht, rfl, _, rfl⟩ (by rw [e1, setAll_len hf', rl.length]; simp) e2 fun h' hx => ?_
  have hk : ∀ b o, s.heap.get? b = some o → h'.get? b = some o := fun b o e => hx b o (fun q => by rw [q, get_size] at e; cases e) e
  have K : Kp G p s { s with heap := h' } := Kp.of_keep (tk := s.toks) hk
  have S' : St G fd env oa X σ ({ s with heap := h' } : Shared).heap := S.kp K
  refine wpN (NamesT.store (p := p) h S' (rl.kp S K) hf') fun _ s₁ q => ⟨(Ks.of_kp K S).trans q.1, q.2⟩
theorem S1.assignT {t : Expr} {pos : Pos} {e : Expr} {f : AS → Option AV} {set : AV → AS → Option AS} (ht : Asg G fd p n t set) (h : SE G fd p n e f) (hs : ∀ env, swapsWithSole [t] e pos.line env = pure false := by intro _; rfl)
    (hw : ∀ env, swappedStores [t] e env = pure none := by intro _; rfl) (he : ∀ env, (assignEach [t] env).map (·.2) = [PySem.assign t env] := by intro _; rfl) : S1 G fd p n (.Assign [t] e pos) (fun σ => (f σ).bind fun a => (set a σ).bind fun σ' => some (.next, σ')) := by
  refine ⟨?_⟩
  intro env A s oa X σ fl σ' R S hf
  obtain ⟨a, ha, hf⟩ := bind_some hf
  obtain ⟨σ₁, h1, hf⟩ := bind_some hf
  cases hf
  refine wpAny_Assign_stores (wpN (h.run env A s oa X σ a R S ha) fun v s₁ q => ?_) (hs env) (hw env)
  rw [he]
  show wpAny G.M A (PySem.assign t env v) _ _ s₁
  exact wpN (ht.run env A s₁ oa X σ a v σ' R (S.kp q.1) q.2 h1) fun _ s₂ q₂ => ⟨oa, (Ks.of_kp q.1 S).trans q₂.1, q₂.2, .next⟩

-- iteration
noncomputable def iterItems : AV → Option (List AV)
  | .lst l => guardO (decide (l.length ≤ 100000)) (some l)
  | .str l => some (l.map fun c => .str [c])
  | .range a b c => guardO (rangeOk a b c) (some ((rangeL a c (rangeN a b c)).map .int))
  | _ => none
noncomputable def iterL : AV → Option (List AV)
  | .lst l => guardO (decide (l.length ≤ 100000)) (some l)
  | _ => none
theorem iterL_inv {a : AV} {l : List AV} (h : iterL a = some l) : a = .lst l ∧ l.length ≤ 100000 := by
  cases a <;> first | exact no h | skip
  obtain ⟨h1, h2⟩ := guardO_some h
  cases h2
  exact ⟨rfl, of_decide_eq_true h1⟩
theorem iterItems_inv {a : AV} {l : List AV} (h : iterItems a = some l) : (∃ x, a = .str x ∧ l = x.map fun c => .str [c]) ∨ a = .lst l ∨ ∃ i j k, a = .range i j k ∧ rangeOk i j k = true ∧ l = (rangeL i k (rangeN i j k)).map .int := by
  cases a <;> first | exact no h | skip
  · exact .inl ⟨_, rfl, (Option.some.inj h).symm⟩
  · exact .inr (.inl (congrArg AV.lst (Option.some.inj (guardO_some h).2)))
  · exact .inr (.inr ⟨_, _, _, rfl, (guardO_some h).1, (Option.some.inj (guardO_some h).2).symm⟩)

structure IterAt (G : GC) (A : Around) (B : Addr → Prop) (target : Expr) (items : List AV) (I : Addr) (fp : List Addr) (P : Nat → Value → Prop) (St₀ : Nat → Heap → Prop) (s s' : Shared) : Prop where
  W : Walks G.prog G.w A I fp [I] items.length P St₀
  st : St₀ 0 s'.heap
  new : s.heap.get? I = none
  kp : Kp G true s s'
  live : ∀ i h, St₀ i h → ∃ o, h.get? I = some o
  foot : ∀ b ∈ fp, b = I ∨ (¬ B b ∧ ∃ o, s.heap.get? b = some o)
  item : ∀ i v, i < items.length → P i v → ∃ a, items[i]? = some a ∧ ∀ h' B', (∀ b o, s.heap.get? b = some o → ¬ B b → h'.get? b = some o) → (∀ b o, s.heap.get? b = some o → B' b → B b) → VR h' B' a v
  goes : ∀ i (s₁ : Shared) v (Q : Unit → Shared → Prop), St₀ i s₁.heap → Q () s₁ → wpAny G.M A (letOwnedTupleGo target (.ref I) v) Q Nay s₁
noncomputable def IterOk (G : GC) (n : Nat) (target : Expr) (it : AV → Option (List AV)) : Prop :=
  ∀ (A : Around) (s : Shared) (B : Addr → Prop) (a : AV) (v : Value) (items : List AV), Room n A → VR s.heap B a v → it a = some items →
    wpAny G.M A (pyIter v) (fun iv s' => ∃ I fp P St₀, iv = .ref I ∧ IterAt G A B target items I fp P St₀ s s') Nay s

theorem iter_list {A : Around} {s : Shared} {B : Addr → Prop} {target : Expr} {ad : Addr} {l : List AV} {vs : List Value} (R : Room n A) (hl : s.heap.PlainList ad vs.toArray) (hn : ¬ B ad) (rl : VRs s.heap B l vs) :
    wpAny G.M A (pyIter (.ref ad)) (fun iv s' => ∃ I fp P St₀, iv = .ref I ∧ IterAt G A B target l I fp P St₀ s s') Nay s := by
  have hne : ad ≠ s.heap.objs.size := fun e => by obtain ⟨o, ho⟩ := plain_live hl; rw [e, get_size] at ho; cases ho
  have W := Walks.list (prog := G.prog) (w := G.w) R.handled s.heap.objs.size ad hne vs.toArray
  have e : vs.toArray.size = l.length := by simp [rl.length]
  rw [e] at W
  refine wpAny_pyIter_list (plain_isList hl) ⟨_, _, _, _, rfl, W, ⟨⟨_, Heap.get?_push_size _ rfl, rfl, rfl⟩, (plain_isList (plain_at hl fun o e => Heap.get?_push_of_some _ e))⟩, get_size _, Kp.push, ?_, ?_, ?_, ?_⟩
  · rintro i h ⟨⟨o, ho, _⟩, _⟩
    exact ⟨o, ho⟩
  · intro b hb
    rcases List.mem_cons.mp hb with rfl | hb
    · exact .inl rfl
    · rcases List.mem_singleton.mp hb with rfl
      exact .inr ⟨hn, plain_live hl⟩
  · intro i v hi hp
    have hp' : vs[i]? = some v := by simpa using hp
    obtain ⟨a, ha, hr⟩ := rl.get' hp'
    exact ⟨a, ha, fun h' B' h1 h2 => hr.mono (fun b o e nb => h1 b o e nb) fun b o e hb => h2 b o e hb⟩
  · intro i s₁ v Q hst hQ
    exact letGo_listiter hst.1 hQ
theorem iter_str {A : Around} {s : Shared} {B : Addr → Prop} {x : PySem.Str} {px : Pos} {l : List Nat} {t : Tok} (R : Room n A) :
    wpAny G.M A (pyIter (.str ⟨l.toArray⟩ t)) (fun iv s' => ∃ I fp P St₀, iv = .ref I ∧ IterAt G A B (.Name x px) (l.map fun c => .str [c]) I fp P St₀ s s') Nay s := by
  have e : (PySem.Str.mk l.toArray).cps.size = (l.map fun c => AV.str [c]).length := by simp
  have item : ∀ i v, i < (l.map fun c => AV.str [c]).length → SignAt ⟨l.toArray⟩ i v → ∃ a, (l.map fun c => AV.str [c])[i]? = some a ∧ ∀ (h' : Heap) (B' : Addr → Prop), (∀ b o, s.heap.get? b = some o → ¬ B b → h'.get? b = some o) → (∀ b o, s.heap.get? b = some o → B' b → B b) → VR h' B' a v := by
    intro i v hi hp
    obtain ⟨c, u, hc, rfl⟩ := hp
    refine ⟨.str [c], ?_, fun h' B' _ _ => (.str : VR _ _ (.str [c]) _)⟩
    have hc' : l[i]? = some c := by simpa using hc
    rw [List.getElem?_map, hc']; rfl
  cases ha : (PySem.Str.mk l.toArray).cps.all (· < 128)
  · have W := Walks.strWide (prog := G.prog) (w := G.w) R.handled s.heap.objs.size ⟨l.toArray⟩ t
    rw [e] at W
    refine wpAny_pyIter_wide ha ⟨_, _, _, _, rfl, W, ⟨_, Heap.get?_push_size _ rfl, rfl, rfl⟩, get_size _, Kp.push, ?_, ?_, item, ?_⟩
    · rintro i h ⟨o, ho, _⟩; exact ⟨o, ho⟩
    · intro b hb; exact .inl (List.mem_singleton.mp hb)
    · intro i s₁ v Q hst hQ; exact wpAny_pure hQ
  · have W := Walks.strAscii (prog := G.prog) (w := G.w) R.handled s.heap.objs.size ⟨l.toArray⟩ t
    rw [e] at W
    refine wpAny_pyIter_ascii ha ⟨_, _, _, _, rfl, W, ⟨_, Heap.get?_push_size _ rfl, rfl, rfl⟩, get_size _, Kp.push, ?_, ?_, item, ?_⟩
    · rintro i h ⟨o, ho, _⟩; exact ⟨o, ho⟩
    · intro b hb; exact .inl (List.mem_singleton.mp hb)
    · intro i s₁ v Q hst hQ; exact wpAny_pure hQ
theorem iterL_ok {target : Expr} : IterOk G n target iterL := by
  intro A s B a v items R r hi
  obtain ⟨rfl, h2⟩ := iterL_inv hi
  obtain ⟨ad, vs, rfl, hl, hn, rl⟩ := r.lst_inv
  exact iter_list R hl hn rl
theorem iter_ok {x : PySem.Str} {px : Pos} : IterOk G n (.Name x px) iterItems := by
  intro A s B a v items R r hi
  rcases iterItems_inv hi with ⟨l, rfl, rfl⟩ | rfl | ⟨a, b, c, rfl, h1, rfl⟩
  · obtain ⟨t, rfl⟩ := r.str_inv; exact iter_str R
  · obtain ⟨ad, vs, rfl, hl, hn, rl⟩ := r.lst_inv
    exact iter_list R hl hn rl
  · obtain ⟨r, t, u, w, rfl, hr, hn⟩ := r.range_inv
    obtain ⟨e1, e2, e3⟩ := range_small h1
    have W := Walks.range (prog := G.prog) (w := G.w) R.handled s.heap.objs.size a c (rangeN a b c)
    have e : (rangeN a b c) = ((rangeL a c (rangeN a b c)).map AV.int).length := by rw [List.length_map, rangeL_length]
    refine wpAny_pyIter_range hr e1 ⟨_, _, _, _, rfl, by rw [← e]; exact W, ?_, get_size _, Kp.push, ?_, ?_, ?_, ?_⟩
    · show IsRangeIter _ _ _ _ _
      rw [e2]
      simpa using Heap.get?_push_size _ rfl
    · intro i h hst; exact ⟨_, hst⟩
    · intro b hb; exact .inl (List.mem_singleton.mp hb)
    · intro i v hi hp
      obtain ⟨t, rfl⟩ := hp
      rw [← e] at hi
      refine ⟨.int (a + i * c), ?_, fun h' B' _ _ => .int⟩
      rw [List.getElem?_map, rangeL_get _ _ _ _ hi]; rfl
    · intro i s₁ v Q hst hQ
      exact wpAny_pure hQ

noncomputable def forL (set : AV → AS → Option AS) (F H : AS → Option (Fl × AS)) : List AV → AS → Option (Fl × AS)
  | [], σ => H σ
  | a :: r, σ => (set a σ).bind fun σ₁ => (F σ₁).bind fun x => match x with
    | (.next, σ₂) => forL set F H r σ₂
    | (.cont, σ₂) => forL set F H r σ₂
    | (.brk, σ₂) => some (.next, σ₂)
    | (.ret a, σ₂) => some (.ret a, σ₂)


noncomputable def withI (X : Addr → Prop) (I : Addr) (b : Addr) : Prop := X b ∨ b = I
theorem Bset_withI {env : Env} {oa : Option Addr} {X : Addr → Prop} {I b : Addr} : Bset env oa (withI X I) b ↔ Bset env oa X b ∨ b = I := by
  unfold Bset withI
  constructor
  · rintro (h | h | h | h | h)
    · exact .inl (.inl h)
    · exact .inl (.inr (.inl h))
    · exact .inl (.inr (.inr (.inl h)))
    · exact .inl (.inr (.inr (.inr h)))
    · exact .inr h
  · rintro ((h | h | h | h) | h)
    · exact .inl h
    · exact .inr (.inl h)
    · exact .inr (.inr (.inl h))
    · exact .inr (.inr (.inr (.inl h)))
    · exact .inr (.inr (.inr (.inr h)))
theorem St.addX {env : Env} {X : Addr → Prop} {oa : Option Addr} {σ : AS} {I : Addr} {s₀ s₁ : Shared} (S : St G fd env oa X σ s₀.heap) (k : Kp G true s₀ s₁) (hI : s₀.heap.get? I = none) (hl : ∃ o, s₁.heap.get? I = some o) : St G fd env oa (withI X I) σ s₁.heap :=
  S.move (W := fun _ => False) (fun _ w => w.elim) (fun _ w => w.elim) (fun b o _ e => k.heap b o e (.inl rfl)) (fun b t => .inl (S.tab b t)) (fun b x => x.imp id fun (q : b = I) => by rw [q]; exact hI) fun b x => x.elim (fun x => let ⟨o, ho⟩ := S.live b (.inr (.inr (.inr x))); ⟨o, k.heap b o ho (.inl rfl)⟩) fun q => q ▸ hl
theorem St.dropX {env : Env} {X : Addr → Prop} {oa : Option Addr} {σ : AS} {I : Addr} {h : Heap} (hT : ∀ b, G.Tab b → X b) (S : St G fd env oa (withI X I) σ h) : St G fd env oa X σ h :=
  S.move (W := fun _ => False) (fun _ w => w.elim) (fun _ w => w.elim) (fun _ _ _ e => e) hT (fun b x => .inl (.inl x)) fun b x => S.live b (.inr (.inr (.inr (.inl x))))
theorem St.next {env : Env} {X : Addr → Prop} {oa : Option Addr} {σ : AS} {I : Addr} {h h₁ : Heap} (hX : X I) (hT : ¬ G.Tab I) (S : St G fd env oa X σ h) (hk : ∀ b o, b ≠ I → h.get? b = some o → h₁.get? b = some o) (hl : ∃ o, h₁.get? I = some o) : St G fd env oa X σ h₁ :=
  S.move (W := fun b => b = I) (fun b w => .inl (w ▸ hX)) (fun b w => w ▸ hT) hk S.tab (fun b x => .inl x) fun b x => by
    by_cases e : b = I
    · exact e ▸ hl
    · obtain ⟨o, ho⟩ := S.live b (.inr (.inr (.inr x))); exact ⟨o, hk b o e ho⟩
theorem St.last {env : Env} {X : Addr → Prop} {oa : Option Addr} {σ : AS} {I : Addr} {h h₁ : Heap} (hX : ¬ X I) (hT : ∀ b, G.Tab b → X b) (S : St G fd env oa (withI X I) σ h) (hk : ∀ b o, b ≠ I → h.get? b = some o → h₁.get? b = some o) : St G fd env oa X σ h₁ :=
  S.move (W := fun b => b = I) (fun b w => .inl (.inr w)) (fun b w t => hX (w ▸ hT b t)) hk hT (fun b x => .inl (.inl x)) fun b x => let ⟨o, ho⟩ := S.live b (.inr (.inr (.inr (.inl x)))); ⟨o, hk b o (fun e => hX (e ▸ x)) ho⟩
theorem St.addX' {env : Env} {X : Addr → Prop} {oa : Option Addr} {σ : AS} {I : Addr} {s₀ s₁ : Shared} (S : St G fd env oa X σ s₀.heap) (k : Kp G p s₀ s₁) (hI : s₀.heap.get? I = none) (hl : ∃ o, s₁.heap.get? I = some o) (hc : ∀ q, ¬ s₁.heap.CodeRec (.ref I) q) : St G fd env oa (withI X I) σ s₁.heap := by
  have S₁ := S.kp k
  refine S.moveT (W := fun _ => False) (fun _ w => w.elim) (fun b o _ t e => k.heap b o e (.inr t)) (fun b t => .inl (S.tab b t)) (fun b t => ?_) (fun b x => x.imp id fun (q : b = I) => by rw [q]; exact hI) fun b x => x.elim (fun x => S₁.live b (.inr (.inr (.inr x)))) fun q => q ▸ hl
  rcases (S₁.tabOk b t).v with e | ⟨c, e, r, nn, tt⟩
  · exact ⟨.inl e⟩
  · exact ⟨.inr ⟨c, e, r, fun q => (Bset_withI.mp q).elim nn (fun q => hc _ (q ▸ r)), tt⟩⟩

theorem forL_ok {env : Env} {A : Around} {X : Addr → Prop} {target : Expr} {body els : List Stmt} {set : AV → AS → Option AS} {F H : AS → Option (Fl × AS)} (ht : Asg G fd p n target set) (hb : SS G fd p n body F) (he : SS G fd p n els H)
    {s₀ s₁ : Shared} {items : List AV} {I : Addr} {fp : List Addr} {P : Nat → Value → Prop} {St₀ : Nat → Heap → Prop} {oa : Option Addr} {σ : AS} {fl : Fl} {σ' : AS} (R : Room n A) (S : St G fd env oa X σ s₀.heap)
    (T : IterAt G A (Bset env oa X) target items I fp P St₀ s₀ s₁) (hf : forL set F H items σ = some (fl, σ')) :
    codeAny G.M A (.forLoop target (.ref I) body els env) (fun r s' => ∃ w, r = .ok w ∧ ∃ oa', Ks G p env oa oa' s₀ s' ∧ St G fd env oa' X σ' s'.heap ∧ FlR s'.heap (Bset env oa' X) fl w) s₁ := by
  have IT : ¬ G.Tab I := fun e => by obtain ⟨o, ho⟩ := S.live I (.inr (.inr (.inr (S.tab I e)))); rw [T.new] at ho; cases ho
  have IL : I ≠ env.locals := fun e => by obtain ⟨o, ho⟩ := S.live env.locals (.inl rfl); rw [← e, T.new] at ho; cases ho
  have IC : ∀ c ∈ env.cells, c.2 ≠ I := fun c hc e => by obtain ⟨o, ho⟩ := S.live c.2 (.inr (.inl ⟨c, hc, rfl⟩)); rw [e, T.new] at ho; cases ho
  have n0 : ∀ b o, s₀.heap.get? b = some o → b ≠ I := fun b o e q => by rw [q, T.new] at e; cases e
  have fin : ∀ {oai : Option Addr} {σi : AS} {h : Heap} {fl : Fl} {w : Flow}, St G fd env oai (withI X I) σi h → FlR h (Bset env oai (withI X I)) fl w → FlR h (Bset env oai X) fl w := fun _ f => by
    cases f with
    | next => exact .next
    | brk => exact .brk
    | cont => exact .cont
    | ret r => exact .ret (r.mono (fun b o e _ => e) fun b o e q => Bset_withI.mpr (.inl q))
  -- what pyNext keeps
  have nextK : ∀ (oai : Option Addr) (s : Shared) (h₁ : Heap) (tk : Nat) (σi : AS), Ks G p env oa oai s₀ s → St G fd env oai (withI X I) σi s.heap → (∀ b o, b ∉ [I] → s.heap.get? b = some o → h₁.get? b = some o) → Ks G p env oa oai s₀ { s with heap := h₁, toks := tk } := by
    intro oai s h₁ tk σi K Si hk
    have hk' : ∀ b o, b ≠ I → s.heap.get? b = some o → h₁.get? b = some o := fun b o ne e => hk b o (by simpa using ne) e
    refine ⟨K.ex, fun b o e h1 h2 h3 h4 => hk' b o (n0 b o e) (K.heap b o e h1 h2 h3 h4), fun b o e => ?_, K.gens, K.bare, fun P o t e => ?_, K.own⟩
    · obtain ⟨o', e'⟩ := K.there b o e
      exact ⟨o', hk' b o' (n0 b o e) e'⟩
    · rcases K.tabs P o t e with h | ⟨h1, c, h2, h3, h4⟩
      · exact .inl (hk' P _ (n0 P _ e) h)
      · refine .inr ⟨h1, c, hk' P _ (n0 P _ e) h2, codeRec_at h3 fun o e => hk' c o (fun q => ?_) e, h4⟩
        rcases (Si.tabOk P t).v with e' | ⟨c', e', _, n, _⟩
        · exact grown_ne (Option.some.inj (h2.symm.trans e'))
        · have := grown_inj (Option.some.inj (h2.symm.trans e'))
          subst this
          exact n (.inr (.inr (.inr (.inr q))))
  refine codeAny_forLoop_any
    (fun k s => ∃ i σi oai, k = items.length - i ∧ i ≤ items.length ∧ forL set F H (items.drop i) σi = some (fl, σ') ∧ St₀ i s.heap ∧ Ks G p env oa oai s₀ s ∧ St G fd env oai (withI X I) σi s.heap) ?_ items.length
    ⟨0, σ, oa, by omega, Nat.zero_le _, hf, T.st, Ks.of_pure T.kp, S.addX T.kp T.new (T.live 0 _ T.st)⟩
  rintro k s ⟨i, σi, oai, rfl, hi, hfi, hst, K, Si⟩
  by_cases hlt : i < items.length
  · refine T.W.item i s _ _ hlt hst fun v h₁ tk hP hst₁ hk => ?_
    have hk' : ∀ b o, b ≠ I → s.heap.get? b = some o → h₁.get? b = some o := fun b o ne e => hk b o (by simpa using ne) e
    have K₁ := nextK oai s h₁ tk σi K Si hk
    have S₁ : St G fd env oai (withI X I) σi h₁ := Si.next (.inr rfl) IT hk' (T.live _ _ hst₁)
    obtain ⟨a, ha, hr⟩ := T.item i v hlt hP
    have hd : items.drop i = a :: items.drop (i + 1) := by
      rw [List.drop_eq_getElem_cons hlt]
      congr 1
      exact (List.getElem_eq_iff hlt).mpr ha
    rw [hd] at hfi
    obtain ⟨σ₁, e1, hfi⟩ := bind_some hfi
    obtain ⟨⟨fl₁, σ₂⟩, e2, hfi⟩ := bind_some hfi
    have r₁ : VR h₁ (Bset env oai (withI X I)) a v := hr h₁ _ (fun b o e nb => hk' b o (n0 b o e) (K.heap b o e (fun q => nb (.inl q)) (.inl fun c hc q => nb (.inr (.inl ⟨c, hc, q⟩))) (fun q => nb (.inr (.inr (.inl q)))) (.inr fun t => nb (.inr (.inr (.inr (S.tab b t))))))) fun b o e q => by
      rcases Bset_withI.mp q with q | q
      · rcases q with q | q | q | q
        · exact .inl q
        · exact .inr (.inl q)
        · rcases K.own b q with q' | q'
          · exact .inr (.inr (.inl q'))
          · rw [e] at q'; cases q'
        · exact .inr (.inr (.inr q))
      · exact absurd q (n0 b o e)
    refine wpN (T.goes (i + 1) { s with heap := h₁, toks := tk } v (fun _ s' => s' = { s with heap := h₁, toks := tk }) hst₁ rfl) fun _ s₁' q => ?_
    subst q
    refine wpN (ht.run env A _ oai (withI X I) σi a v σ₁ R S₁ r₁ e1) fun _ s₂ q₂ => ?_
    refine wpN (hb.run env A s₂ oai (withI X I) σ₁ fl₁ σ₂ R q₂.2 e2) fun w s₃ q₃ => ?_
    obtain ⟨oa₃, k₃, S₃, f₃⟩ := q₃
    have K₃ := (K₁.trans q₂.1).trans k₃
    have hst₃ : St₀ (i + 1) s₃.heap := by
      refine T.W.frame _ _ _ hst₁ fun b hb o e => ?_
      have Kb := q₂.1.trans k₃
      refine Kb.heap b o e ?_ ?_ ?_ ?_
      · rcases T.foot b hb with q | ⟨q, -⟩
        · exact q ▸ IL
        · exact fun e => q (.inl e)
      · rcases T.foot b hb with q | ⟨q, -⟩
        · exact .inl (q ▸ IC)
        · exact .inl fun c hc e => q (.inr (.inl ⟨c, hc, e⟩))
      · rcases T.foot b hb with q | ⟨q, o₀, ho₀⟩
        · intro e; exact Si.oaX b e (.inr q)
        · intro e
          rcases K.own b e with q' | q'
          · exact q (.inr (.inr (.inl q')))
          · rw [ho₀] at q'; cases q'
      · rcases T.foot b hb with q | ⟨q, -⟩
        · exact .inr (q ▸ IT)
        · exact .inr fun t => q (.inr (.inr (.inr (S.tab b t))))
    cases f₃ with
    | next => exact ⟨items.length - (i + 1), by omega, i + 1, σ₂, oa₃, rfl, hlt, hfi, hst₃, K₃, S₃⟩
    | cont => exact ⟨items.length - (i + 1), by omega, i + 1, σ₂, oa₃, rfl, hlt, hfi, hst₃, K₃, S₃⟩
    | brk => cases hfi; exact ⟨_, rfl, oa₃, K₃, S₃.dropX S.tab, .next⟩
    | ret r => cases hfi; exact ⟨_, rfl, oa₃, K₃, S₃.dropX S.tab, fin S₃ (.ret r)⟩
  · have hin : i = items.length := by omega
    subst hin
    rw [List.drop_length] at hfi
    refine T.W.done s _ _ hst fun h₁ tk hk => ?_
    have hk' : ∀ b o, b ≠ I → s.heap.get? b = some o → h₁.get? b = some o := fun b o ne e => hk b o (by simpa using ne) e
    have IX : ¬ X I := fun e => by obtain ⟨o, ho⟩ := S.live I (.inr (.inr (.inr e))); rw [T.new] at ho; cases ho
    refine wpN (he.run env A { s with heap := h₁, toks := tk } oai X σi fl σ' R (Si.last IX S.tab hk') hfi) fun w s₂ q => ?_
    obtain ⟨oa₂, k₂, S₂, f₂⟩ := q
    exact ⟨w, rfl, oa₂, (nextK oai s h₁ tk σi K Si hk).trans k₂, S₂, f₂⟩

theorem S1.for {target iter : Expr} {body els : List Stmt} {pos : Pos} {f : AS → Option AV} {it : AV → Option (List AV)} {set : AV → AS → Option AS} {F H : AS → Option (Fl × AS)} (hi : SE G fd p n iter f) (hit : IterOk G n target it) (ht : Asg G fd p n target set)
    (hb : SS G fd p n body F) (he : SS G fd p n els H) (hs : ∀ env x, foldedSetIterable iter env x = pure x := by intro _ _; rfl) :
    S1 G fd p n (.For target iter body els pos) (fun σ => (f σ).bind fun a => (it a).bind fun items => forL set F H items σ) := by
  refine ⟨?_⟩
  intro env A s oa X σ fl σ' R S hf
  obtain ⟨a, ha, hf⟩ := bind_some hf
  obtain ⟨items, h1, hf⟩ := bind_some hf
  refine wpAny_For (wpN (hi.run env A s oa X σ a R S ha) fun v s₁ q₁ => ?_) (hs env)
  have S₁ := S.kp q₁.1
  refine wpN (hit A s₁ (Bset env oa X) a v items R q₁.2 h1) fun iv s₂ q₂ => ?_
  obtain ⟨I, fp, P, St₀, rfl, T⟩ := q₂
  refine codeAny_mono (forL_ok ht hb he R S₁ T hf) fun r s₃ q₃ => ?_
  obtain ⟨w, rfl, oa', K, S₃, f₃⟩ := q₃
  exact ⟨oa', (Ks.of_kp q₁.1 S).trans K, S₃, f₃⟩
end
end Mine
namespace Mine
section
variable {G : GC} {fd : FD} {p : Bool} {n : Nat}

noncomputable def ownFree (i : Nat) : Option (Nat × List AV) → Bool
  | none => true
  | some (j, _) => decide (j = i)
noncomputable def setOwn (i : Nat) (l : List AV) (σ : AS) : Option AS :=
  if i < σ.loc.length then (if ownFree i σ.own = true then some ⟨σ.loc.set i none, some (i, l)⟩ else none) else none
structure SEF (G : GC) (fd : FD) (p : Bool) (n : Nat) (e : Expr) (f : AS → Option (List AV)) : Prop where
  run : ∀ (env : Env) (A : Around) (s : Shared) (oa : Option Addr) (X : Addr → Prop) (σ : AS) (l : List AV), Room n A → St G fd env oa X σ s.heap → f σ = some l →
    wpAny G.M A (eval e env) (fun v s' => Kp G p s s' ∧ ∃ D vs, v = .ref D ∧ s.heap.get? D = none ∧ s'.heap.PlainList D vs.toArray ∧ VRs s'.heap (fun b => Bset env oa X b ∨ b = D) l vs) Nay s
theorem SEF.lst {es : List Expr} {pos : Pos} {f : AS → Option (List AV)} (h : SEs G fd p n es f) : SEF G fd p n (.List es pos) (fun σ => (f σ).bind lid) := by
  refine ⟨?_⟩
  intro env A s oa X σ l R S hf
  obtain ⟨l₀, hl, hq⟩ := bind_some hf
  obtain ⟨rfl, hlen⟩ := lid_some hq
  refine wpAny_List (wpN (h.run env A s oa X σ _ pos R S hl) fun vs s₁ q₁ => ?_)
  have e := q₁.2.length
  refine ⟨by rw [sizeLine_eq]; omega, q₁.1.trans Kp.push, _, vs, rfl, ?_, ⟨0, Heap.get?_push_size _ rfl⟩, q₁.2.mono (fun b o e _ => Heap.get?_push_of_some _ e) fun b o e q => q.elim id fun q => by rw [q, get_size] at e; cases e⟩
  cases q : s.heap.get? s₁.heap.objs.size with
  | none => rfl
  | some o =>
    obtain ⟨o', e'⟩ := (Ks.of_kp (env := env) (oa := oa) q₁.1 S).there _ o q
    rw [get_size] at e'; cases e'
theorem S1.own {x : PySem.Str} {i : Nat} {px pos : Pos} {e : Expr} {f : AS → Option (List AV)} (hi : Stores fd i x) (h : SEF G fd p n e f) (hs : ∀ env, swapsWith e (some (.Name x px)) pos.line env = pure false := by intro _; rfl) :
    S1 G fd p n (.Assign [.Name x px] e pos) (fun σ => (f σ).bind fun l => (setOwn i l σ).bind fun σ' => some (.next, σ')) := by
  refine ⟨?_⟩
  intro env A s oa X σ fl σ' R S hf
  obtain ⟨l, hl, hf1⟩ := bind_some hf
  obtain ⟨σ₁, h1, hg⟩ := bind_some hf1
  cases hg
  refine wpAny_Assign_Name (wpN (h.run env A s oa X σ _ R S hl) fun v s₁ q₁ => ?_) (hs env)
  obtain ⟨k₁, D, vs, rfl, hnew, hD, rl⟩ := q₁
  have S₁ := S.addX' k₁ hnew (plain_live hD) fun q r => list_not_code hD r rfl
  have rl' : VRs s₁.heap (Bset env oa (withI X D)) l vs := rl.mono (fun b o e _ => e) fun b o e q => Bset_withI.mp q
  have DX : ¬ X D := fun q => new_not_live hnew (S.live D (.inr (.inr (.inr q))))
  refine wpN (store_ok (p := p) (a := .fn D) hi S₁ .fn) fun _ s₂ q₂ => ?_
  obtain ⟨k₂, S₂⟩ := q₂
  have DL : D ≠ env.locals := fun q => S₁.locX (q ▸ .inr rfl)
  have DC : ∀ c ∈ env.cells, c.2 ≠ D := fun c hc q => S₁.cellX c hc (q ▸ .inr rfl)
  have DO : oa ≠ some D := fun q => S₁.oaX D q (.inr rfl)
  have DT : ¬ G.Tab D := fun t => DX (S.tab D t)
  have keep : ∀ b o, ¬ Bset env oa (withI X D) b → s₁.heap.get? b = some o → s₂.heap.get? b = some o := fun b o nb e =>
    k₂.heap b o e (fun q => nb (.inl q)) (.inl fun c hc q => nb (.inr (.inl ⟨c, hc, q⟩))) (fun q => nb (.inr (.inr (.inl q)))) (.inr fun t => nb (.inr (.inr (.inr (.inl (S.tab b t))))))
  have hD₂ : s₂.heap.PlainList D vs.toArray := plain_at hD fun o e => k₂.heap D o e DL (.inl DC) DO (.inr DT)
  have rl₂ : VRs s₂.heap (Bset env oa (withI X D)) l vs := rl'.mono (fun b o e nb => keep b o nb e) fun _ _ _ q => q
  have K : Ks G p env oa oa s s₂ := (Ks.of_kp k₁ S).trans k₂
  have up : ∀ b, Bset env (some D) X b → Bset env oa (withI X D) b := fun b q => by
    rcases q with q | q | q | q
    · exact .inl q
    · exact .inr (.inl q)
    · exact .inr (.inr (.inr (.inr (Option.some.inj q).symm)))
    · exact .inr (.inr (.inr (.inl q)))
  have hσ : i < σ.loc.length ∧ σ' = ⟨σ.loc.set i Option.none, some (i, l)⟩ := by
    unfold setOwn at h1
    split at h1
    · rename_i hlt
      split at h1
      · exact ⟨hlt, (Option.some.inj h1).symm⟩
      · cases h1
    · cases h1
  obtain ⟨hlt, rfl⟩ := hσ
  refine ⟨some D, ⟨K.ex, fun b o e h1 h2 h3 h4 => K.heap b o e h1 h2 h3 h4, K.there, K.gens, K.bare, fun P o t e => (K.tabs P o t e).imp id fun ⟨h1, c, h2, h3, h4, h5, h6, h7, h8⟩ => ⟨h1, c, h2, h3, h4, h5, h6, h7, fun q => list_not_code hD₂ h3 (Option.some.inj q).symm⟩,
    fun a e => .inr (Option.some.inj e ▸ hnew)⟩, ?_, .next⟩
  obtain ⟨m, hn, g1, -⟩ := S₂.ns
  refine ⟨S.eo, fun b t => (S₂.tabOk b t).mono (fun _ e => e) (fun _ _ e _ _ => e) (fun b _ _ q => up b q), fun b o e => ⟨(S₂.base b o e).1, fun q => (S₂.base b o e).2 (up b q)⟩, S.tab, fun b q => S₂.live b (up b q), S.locX, S.cellX, (fun a ha => by cases ha; exact DX), S₂.cells, S.cellsN, m, hn, fun j y b hy hb => ?_, fun j l hl => ?_⟩
  · have hb' : (σ.loc.set i Option.none)[j]? = some (some b) := hb
    have ne : j ≠ i := fun q => by
      subst q
      rw [List.getElem?_set_self'] at hb'
      cases q' : σ.loc[j]? <;> rw [q'] at hb' <;> cases hb'
    rw [List.getElem?_set_ne (by omega)] at hb'
    obtain ⟨w, hw, hr⟩ := g1 j y b hy (by show (σ.loc.set i (some (.fn D)))[j]? = _; rw [List.getElem?_set_ne (by omega)]; exact hb')
    exact ⟨w, hw, hr.mono (fun _ _ e _ => e) fun b _ _ q => up b q⟩
  · cases hl
    obtain ⟨w, hw, hr⟩ := g1 i x (.fn D) hi.1.1 (by show (σ.loc.set i (some (.fn D)))[i]? = _; rw [List.getElem?_set_self hlt])
    cases hr
    exact ⟨D, x, vs, rfl, hi.1.1, hw, hD₂, rl₂.mono (fun _ _ e _ => e) fun b _ _ q => up b q⟩
theorem SS.dead {ss : List Stmt} : SS G fd p n ss (fun _ => Option.none) := by
  refine ⟨?_⟩
  intro env A s oa X σ fl σ' R S hf; cases hf
theorem S1.dead {ss : Stmt} : S1 G fd p n ss (fun _ => Option.none) := by
  refine ⟨?_⟩
  intro env A s oa X σ fl σ' R S hf; cases hf
theorem not_interactive {env : Env} (h : EnvOk fd env) : interactive env = false := by
  unfold interactive
  rw [h.scope, h.kind]; rfl
structure KpO (G : GC) (p : Bool) (oa : Option Addr) (s s' : Shared) : Prop where
  ex : s'.drawn = s.drawn ∧ s'.os = s.os
  heap : ∀ b o, s.heap.get? b = some o → oa ≠ some b → (p = true ∨ ¬ G.Tab b) → s'.heap.get? b = some o
  gens : p = true → s'.gens = s.gens
  bare : AllBare s.gens → AllBare s'.gens
  tabs : TabStep G s s'
  there : ∀ b o, s.heap.get? b = some o → ∃ o', s'.heap.get? b = some o'

theorem St.chOwn {env : Env} {D : Addr} {X : Addr → Prop} {σ : AS} {s s' : Shared} {j : Nat} {l l' : List AV} {vs' : List Value} (S : St G fd env (some D) X σ s.heap) (ho : σ.own = some (j, l)) (k : KpO G p (some D) s s') (hD : s'.heap.PlainList D vs'.toArray) (hl : VRs s'.heap (Bset env (some D) X) l' vs') :
    Ks G p env (some D) (some D) s s' ∧ St G fd env (some D) X ⟨σ.loc, some (j, l')⟩ s'.heap := by
  have keep : ∀ b o, b ≠ D → ¬ G.Tab b → s.heap.get? b = some o → s'.heap.get? b = some o := fun b o ne t e => k.heap b o e (fun q => ne (Option.some.inj q).symm) (.inr t)
  have nb : ∀ b, ¬ Bset env (some D) X b → b ≠ D := fun b n e => n (.inr (.inr (.inl (e ▸ rfl))))
  have nt : ∀ b, ¬ Bset env (some D) X b → ¬ G.Tab b := fun b n t => n (.inr (.inr (.inr (S.tab b t))))
  obtain ⟨m, hn, h1, h2⟩ := S.ns
  obtain ⟨ad, x, vs, e1, e2, eV, e5, e6⟩ := h2 _ _ ho
  cases e1
  have nL : env.locals ≠ D := fun e => ns_not_list hn (by rw [e]; exact e5)
  have tL : ¬ G.Tab env.locals := fun t => S.locX (S.tab _ t)
  have ncell : ∀ c ∈ env.cells, c.2 ≠ D := fun c hc e => by
    obtain ⟨v, hv⟩ := S.cells c hc
    rw [e] at hv
    exact cell_not_list hv e5
  have tcell : ∀ c ∈ env.cells, ¬ G.Tab c.2 := fun c hc t => S.cellX c hc (S.tab _ t)
  refine ⟨⟨k.ex, fun b o e _ _ h t => k.heap b o e h t, k.there, k.gens, k.bare, fun P o t e => (k.tabs P o t e).imp id fun ⟨h1, c, h2, h3, h4, h5⟩ => ⟨h1, c, h2, h3, h4, h5,
      fun q => new_not_live h4 (S.live c (.inl q)), fun d hd q => new_not_live h4 (S.live c (.inr (.inl ⟨d, hd, q⟩))), fun q => new_not_live h4 (S.live c (.inr (.inr (.inl q))))⟩, fun _ e => .inl e⟩, ?_⟩
  refine ⟨S.eo, fun b t => ?_, fun b o e => ⟨keep b o (nb b (S.base b o e).2) (nt b (S.base b o e).2) (S.base b o e).1, (S.base b o e).2⟩, S.tab, fun b e => let ⟨o, ho⟩ := S.live b e; k.there b o ho, S.locX, S.cellX, S.oaX,
    fun c hc => let ⟨v, hv⟩ := S.cells c hc; ⟨v, isCell_at hv fun o e => keep _ o (ncell c hc) (tcell c hc) e⟩, S.cellsN, m, Heap.Ns.at' hn fun o e => keep _ o nL tL e, fun i y b hy hb => ?_, fun i l hl' => ?_⟩
  · obtain ⟨o, ho⟩ := (S.tabOk b t).live
    rcases k.tabs b o t ho with h | ⟨_, c, h2, h3, h4, h5⟩
    · exact (S.tabOk b t).mono (fun o' e => by rw [ho] at e; cases e; exact h) (fun c o e n t => keep c o (nb c n) t e) fun _ _ _ q => q
    · exact ⟨.inr ⟨c, h2, h3, S.fresh h4, h5⟩⟩
  · obtain ⟨w, hw, hr⟩ := h1 i y b hy hb
    exact ⟨w, hw.keep fun c hc o e => keep _ o (ncell c hc) (tcell c hc) e, hr.mono (fun b o e n => keep b o (nb b n) (nt b n) e) fun _ _ _ e => e⟩
  · cases hl'
    exact ⟨D, x, vs', rfl, e2, eV.keep fun c hc o e => keep _ o (ncell c hc) (tcell c hc) e, hD, hl⟩

theorem St.chSame {env : Env} {ad : Addr} {X : Addr → Prop} {σ : AS} {s : Shared} {h' : Heap} {j : Nat} {l l' : List AV} {vs' : List Value} (S : St G fd env (some ad) X σ s.heap) (ho : σ.own = some (j, l)) (hsb : Heap.SameBut ad s.heap h') (hp : h'.PlainList ad vs'.toArray) (hl : VRs s.heap (Bset env (some ad) X) l' vs') :
    Ks G p env (some ad) (some ad) s { s with heap := h' } ∧ St G fd env (some ad) X ⟨σ.loc, some (j, l')⟩ h' := by
  have keep : ∀ b o, b ≠ ad → s.heap.get? b = some o → h'.get? b = some o := fun b o ne e => (hsb.2 b ne).trans e
  refine S.chOwn (s' := { s with heap := h' }) (p := p) ho ⟨⟨rfl, rfl⟩, fun b o e h _ => keep b o (fun q => h (q ▸ rfl)) e, fun _ => rfl, fun e => e, .keep fun P o t e => keep _ _ (fun q => S.oaX ad rfl (q ▸ S.tab P t)) e, fun b o e => ?_⟩ hp (hl.mono (fun b o e n => keep b o (fun q => n (.inr (.inr (.inl (q ▸ rfl))))) e) fun _ _ _ e => e)
  by_cases ne : b = ad
  · subst ne; exact plain_live hp
  · exact ⟨o, keep b o ne e⟩
theorem own_at {env : Env} {oa : Option Addr} {X : Addr → Prop} {σ : AS} {h : Heap} {i : Nat} {x : PySem.Str} {l : List AV} (hi : NameAt fd i x) (S : St G fd env oa X σ h) (ho : σ.own = some (i, l)) : ∃ ad vs m, oa = some ad ∧ h.Ns env.locals m ∧ VarIs env m h x (.ref ad) ∧ h.PlainList ad vs.toArray ∧ VRs h (Bset env oa X) l vs := by
  obtain ⟨m, hn, -, h2⟩ := S.ns
  obtain ⟨ad, x', vs, e1, e2, eV, e5, e6⟩ := h2 _ _ ho
  have ex : x' = x := Option.some.inj (e2.symm.trans hi.1)
  subst ex
  exact ⟨ad, vs, m, e1, hn, eV, e5, e6⟩
noncomputable def appF (i : Nat) (f : AS → Option AV) (σ : AS) : Option (Fl × AS) := match σ.own with
  | some (j, l) => if j = i then (f σ).bind fun a => (lid l).bind fun l => some (.next, ⟨σ.loc, some (i, l ++ [a])⟩) else none
  | none => none
theorem plainL_of {h : Heap} {a : Addr} {vs : Array Value} (H : h.PlainList a vs) : PlainL h a vs := by
  obtain ⟨n, ho⟩ := H; exact ⟨_, n, ho, rfl, rfl, rfl⟩
theorem appF_inv {i : Nat} {f : AS → Option AV} {σ σ' : AS} {fl : Fl} (h : appF i f σ = some (fl, σ')) : ∃ l a, σ.own = some (i, l) ∧ f σ = some a ∧ l.length ≤ 100000 ∧ fl = .next ∧ σ' = ⟨σ.loc, some (i, l ++ [a])⟩ := by
  unfold appF at h
  cases ho : σ.own with
  | none => rw [ho] at h; exact no h
  | some jl =>
    obtain ⟨j, l⟩ := jl
    rw [ho] at h
    replace h : (if j = i then (f σ).bind fun a => (lid l).bind fun l => some (Fl.next, (⟨σ.loc, some (i, l ++ [a])⟩ : AS)) else Option.none) = some (fl, σ') := h
    by_cases e : j = i
    · subst e
      rw [if_pos rfl] at h
      obtain ⟨a, ha, h⟩ := bind_some h
      obtain ⟨l', hq, hg⟩ := bind_some h
      obtain ⟨rfl, hlen⟩ := lid_some hq
      cases hg
      exact ⟨l', a, rfl, ha, hlen, rfl, rfl⟩
    · rw [if_neg e] at h; exact no h
theorem S1.append {x : PySem.Str} {i : Nat} {px apos cpos pos : Pos} {e : Expr} {f : AS → Option AV} (hi : NameAt fd i x) (hd : (x == ("__debug__" : PySem.Str)) = false) (hcd : (x == ("__classdict__" : PySem.Str)) = false) (h : SE G fd p n e f)
    (hline : (apos.endLine == cpos.line) = true := by rfl)
    (hbase : ∀ env, attributeBase (.Name x px) "append" env (eval (.Name x px) env) = eval (.Name x px) env := by intro _; rfl)
    (hfew : ∀ env, ((backTo cpos (starEach [e] env)).all (fun x => !x.1) && (backToKw cpos (keywordEach [] env)).all (fun x => x.1.isSome) && decide (([e] : List Expr).length + ([] : List Keyword).length + (if ([] : List Keyword).isEmpty then 0 else 1) < 30)) = true := by intro _; rfl)
    (htrees : ∀ env, backTo cpos (starEach [e] env) = [(false, eval e env)] := by intro _; rfl)
    (hs : ∀ env, swapsWith (.Call (.Attribute (.Name x px) "append" apos) [e] [] cpos) Option.none pos.line env = pure false := by intro _; rfl) :
    S1 G fd p n (.Expr (.Call (.Attribute (.Name x px) "append" apos) [e] [] cpos) pos) (appF i f) := by
  refine ⟨?_⟩
  intro env A s oa X σ fl σ' R S hf
  obtain ⟨l, a, ho, ha, hlen, rfl, rfl⟩ := appF_inv hf
  obtain ⟨ad, vs, m, rfl, hn, eV, e5, e6⟩ := own_at hi S ho
  refine wpAny_Expr (wpAny_Call_append (hbase env) (hfew env) hline (htrees env) (wp_var S.eo hn eV hd hcd ⟨ad, vs.toArray, rfl, plainL_of e5, ?_⟩)) (not_interactive S.eo) (hs env)
  refine wpN (h.run env A s (some ad) X σ a R S ha) fun y s₁ q₁ => ?_
  have S₁ := S.kp q₁.1
  clear hn eV e5 e6
  obtain ⟨ad', vs, m, ea, hn, eV, e5, e6⟩ := own_at hi S₁ ho
  cases ea
  have hl := e6.length
  refine wpAny_list_append_plain e5 (fun h' hp hsb => ?_) (by rw [sizeLine_eq]; simp; omega)
  have hp' : h'.PlainList ad (vs ++ [y]).toArray := by
    have : (vs ++ [y]).toArray = vs.toArray.push y := by simp
    rw [this]; exact hp
  obtain ⟨K₂, S₂⟩ := S₁.chSame (p := p) ho hsb hp' (e6.append (.cons q₁.2 .nil))
  exact ⟨some ad, (Ks.of_kp q₁.1 S).trans K₂, S₂, .next⟩

noncomputable def frz (i : Nat) (σ : AS) : AS := match σ.own with
  | some (j, l) => if j = i then ⟨σ.loc.set i (some (.lst l)), none⟩ else σ
  | none => σ
theorem St.frz {env : Env} {oa : Option Addr} {X : Addr → Prop} {σ : AS} {h : Heap} {i : Nat} {x : PySem.Str} (hi : NameAt fd i x) (S : St G fd env oa X σ h) : ∃ oa', (oa' = oa ∨ oa' = none) ∧ St G fd env oa' X (frz i σ) h := by
  unfold Mine.frz
  cases ho : σ.own with
  | none => exact ⟨oa, .inl rfl, S⟩
  | some jl =>
    obtain ⟨j, l⟩ := jl
    show ∃ oa', (oa' = oa ∨ oa' = none) ∧ St G fd env oa' X (if j = i then (⟨σ.loc.set i (some (.lst l)), Option.none⟩ : AS) else σ) h
    by_cases e : j = i
    · rw [if_pos e]
      subst e
      obtain ⟨m, hn, h1, h2⟩ := S.ns
      obtain ⟨ad, y, vs, e1, e2, eV, e5, e6⟩ := h2 _ _ ho
      have exy : y = x := Option.some.inj (e2.symm.trans hi.1)
      subst exy
      have up : ∀ b, Bset env Option.none X b → Bset env oa X b := fun b q => by
        rcases q with q | q | q | q
        · exact .inl q
        · exact .inr (.inl q)
        · cases q
        · exact .inr (.inr (.inr q))
      have nad : ¬ Bset env Option.none X ad := fun q => by
        rcases q with q | ⟨c, hc, q⟩ | q | q
        · exact ns_not_list hn (q ▸ e5)
        · obtain ⟨v, hv⟩ := S.cells c hc
          rw [q] at hv
          exact cell_not_list hv e5
        · cases q
        · exact S.oaX ad e1 q
      refine ⟨none, .inr rfl, S.eo, fun b t => (S.tabOk b t).mono (fun _ e => e) (fun _ _ e _ _ => e) (fun b _ _ q => up b q), fun b o e => ⟨(S.base b o e).1, fun q => (S.base b o e).2 (up b q)⟩, S.tab, fun b q => S.live b (up b q), S.locX, S.cellX, (fun a ha => nomatch ha), S.cells, S.cellsN, m, hn, fun k z b hz hb => ?_, (fun k l hl => nomatch hl)⟩
      have hb' : (σ.loc.set j (some (AV.lst l)))[k]? = some (some b) := hb
      by_cases e : k = j
      · subst e
        have : (σ.loc.set k (some (AV.lst l)))[k]? = some (some (AV.lst l)) := by
          rw [List.getElem?_set_self]
          by_cases hlt : k < σ.loc.length
          · exact hlt
          · rw [List.getElem?_eq_none (by rw [List.length_set]; omega)] at hb'; cases hb'
        rw [this] at hb'
        cases hb'
        have exy : z = y := Option.some.inj (hz.symm.trans hi.1)
        subst exy
        exact ⟨.ref ad, eV, .lst e5 nad (e6.mono (fun b o e _ => e) fun b o _ q => up b q)⟩
      · rw [List.getElem?_set_ne (by omega)] at hb'
        obtain ⟨w, hw, hr⟩ := h1 k z b hz hb'
        exact ⟨w, hw, hr.mono (fun b o e _ => e) fun b o _ q => up b q⟩
    · rw [if_neg e]; exact ⟨oa, .inl rfl, S⟩
theorem SS.frz {ss : List Stmt} {i : Nat} {x : PySem.Str} {F : AS → Option (Fl × AS)} (hi : NameAt fd i x) (h : SS G fd p n ss F) : SS G fd p n ss (fun σ => F (Mine.frz i σ)) := by
  refine ⟨?_⟩
  intro env A s oa X σ fl σ' R S hf
  obtain ⟨oa₁, ho, S₁⟩ := S.frz hi
  refine wpN (h.run env A s oa₁ X _ fl σ' R S₁ hf) fun w s₁ q => ?_
  obtain ⟨oa₂, k, S₂, f⟩ := q
  refine ⟨oa₂, ⟨k.ex, fun b o e h1 h2 h3 h4 => k.heap b o e h1 h2 (by rcases ho with rfl | rfl; exact h3; exact fun q => nomatch q) h4, k.there, k.gens, k.bare, k.tabs, fun a e => ?_⟩, S₂, f⟩
  rcases ho with rfl | rfl
  · exact k.own a e
  · exact (k.own a e).elim (fun q => nomatch q) .inr
theorem S1.aug {x : PySem.Str} {i : Nat} {px pos : Pos} {op : Operator} {e : Expr} {f : AS → Option AV} {k : AV → AV → Option AV} (hi : Stores fd i x) (hc : (x == ("__classdict__" : PySem.Str)) = false) (h : SE G fd p n e f) (ho : Op2 G n (inplaceOp op) k) :
    S1 G fd p n (.AugAssign (.Name x px) op e pos) (fun σ => (gv i σ).bind fun a => (f σ).bind fun b => (k a b).bind fun c => some (.next, setL i c σ)) := by
  refine ⟨?_⟩
  intro env A s oa X σ fl σ' R S hf
  obtain ⟨a, ha, hf⟩ := bind_some hf
  obtain ⟨b, hb, hf⟩ := bind_some hf
  obtain ⟨c, hk, hf⟩ := bind_some hf
  cases hf
  obtain ⟨m, hn, h1, -⟩ := S.ns
  obtain ⟨v, hv, hr⟩ := h1 i x a hi.1.1 (gv_some ha)
  have hkf : env.scope.kind = .function := by rw [S.eo.scope]; exact S.eo.kind
  have rest : wpAny G.M A (eval e env) (fun v' s₂ => wpAny G.M A (inplaceOp op v v') (fun r s₃ => wpAny G.M A (storeName env x r) (fun _ s' => ∃ oa', Ks G p env oa oa' s s' ∧ St G fd env oa' X (setL i c σ) s'.heap ∧ FlR s'.heap (Bset env oa' X) .next .next) Nay s₃) Nay s₂) Nay s := by
    refine wpN (h.run env A s oa X σ b R S hb) fun vb s₂ q₂ => ?_
    have S₂ := S.kp q₂.1
    refine wpN (ho A s₂ (Bset env oa X) a b c v vb R (fun x e => S₂.fresh e) (hr.kp S q₂.1) q₂.2 hk) fun w s₃ q₃ => ?_
    have k₃ : Kp G p s₂ s₃ := q₃.1.lift
    refine wpN (store_ok (p := p) hi (S₂.kp k₃) q₃.2) fun _ s₄ q₄ => ⟨oa, (Ks.of_kp (q₂.1.trans k₃) S).trans q₄.1, q₄.2, .next⟩
  refine wpAny_AugAssign_Name ?_
  rcases hv with ⟨hk', hm⟩ | ⟨hk' | hk', c, hc', hcell⟩
  · exact wpAny_loadName_local hkf hk' hn hm rest
  · exact wpAny_loadName_cell hkf hk' hc' hcell rest
  · exact wpAny_loadName_free hkf hk' hc' hcell rest hc
theorem op_xorI : Op2 G n (inplaceOp .BitXor) xorV := op_ii fun A s B i j u w c R hk => by cases hk; exact ixor_int ⟨Kp.tok, .int⟩
end
end Mine
namespace Mine
section
variable {G : GC} {fd : FD} {p : Bool} {n : Nat}

noncomputable def compLB (i : Nat) (F : AS → Option (List AV × AS)) : List AV → AS → Option (List AV × AS)
  | [], σ => some ([], σ)
  | a :: r, σ => (F (setL i a σ)).bind fun x => (compLB i F r x.2).bind fun y => some (x.1 ++ y.1, y.2)

structure CBody (G : GC) (fd : FD) (p : Bool) (n : Nat) (t : Env → Value → Sem Fin → Sem Fin) (F : AS → Option (List AV × AS)) : Prop where
  run : ∀ (env : Env) (A : Around) (s : Shared) (X : Addr → Prop) (σ : AS) (D : Addr) (l : List AV) (vs : List Value) (out : List AV) (σ' : AS) (k : Sem Fin) (Q : Fin → Shared → Prop) (E : Value → Shared → Prop),
    Room n A → St G fd env none X σ s.heap → X D → ¬ G.Tab D → s.heap.PlainList D vs.toArray → VRs s.heap (Bset env none X) l vs → F σ = some (out, σ') → l.length + out.length ≤ 100000 →
    (∀ s', Ks G p { env with cells := [] } (some D) (some D) s s' → St G fd env none X σ' s'.heap → (∃ vs', s'.heap.PlainList D vs'.toArray ∧ VRs s'.heap (Bset env none X) (l ++ out) vs') → wpAny G.M A k Q E s') →
    wpAny G.M A (t env (.ref D) k) Q E s

theorem compLoop_ok {elt : Expr} {gens : List Comprehension} {scope : Scope} {pos p0 : Pos} {d : Nat} {x : PySem.Str} {px : Pos} {i : Nat} {t : Env → Value → Sem Fin → Sem Fin} {F : AS → Option (List AV × AS)}
    (hx : NameAt fd i x) (hk : fd.scope.names.lookup x = some .local) (hb : CBody G fd p n t F)
    (hturn : ∀ env it acc, compTurn (.ListComp elt gens scope pos) d it acc env = (standAt p0 >>= fun _ => pyNext it >>= fun r => match r with
      | none => pure (.done .next)
      | some v => letOwnedTupleGo (.Name x px) it v >>= fun _ => PySem.assign (.Name x px) env v >>= fun _ => t env acc (again (.compLoop (.ListComp elt gens scope pos) d it acc env))))
    {env : Env} {A : Around} {X : Addr → Prop} {s₀ s : Shared} {items : List AV} {I D : Addr} {fp : List Addr} {P : Nat → Value → Prop} {St₀ : Nat → Heap → Prop} {σ σ' : AS} {l out : List AV} {vs : List Value} {R : Result → Shared → Prop}
    (Rm : Room n A) (hI0 : s₀.heap.get? I = none) (K₀ : Ks G p { env with cells := [] } (some D) (some D) s₀ s) (S : St G fd env none (withI X I) σ s.heap) (hXI : ¬ X I) (hXD : X D) (hID : I ≠ D) (hXT : ∀ b, G.Tab b → X b) (tD : ¬ G.Tab D)
    (hD : s.heap.PlainList D vs.toArray) (hl : VRs s.heap (Bset env none (withI X I)) l vs)
    (W : Walks G.prog G.w A I fp [I] items.length P St₀) (hst : St₀ 0 s.heap) (live : ∀ i h, St₀ i h → ∃ o, h.get? I = some o)
    (foot : ∀ b ∈ fp, b = I ∨ (b ≠ D ∧ b ≠ env.locals ∧ ¬ G.Tab b))
    (item : ∀ i v, i < items.length → P i v → ∃ a, items[i]? = some a ∧ ∀ h', (∀ b o, s₀.heap.get? b = some o → b ≠ D → b ≠ env.locals → ¬ G.Tab b → h'.get? b = some o) → VR h' (Bset env none (withI X I)) a v)
    (hf : compLB i F items σ = some (out, σ')) (hlen : l.length + out.length ≤ 100000)
    (hR : ∀ s' vs', Ks G p { env with cells := [] } (some D) (some D) s₀ s' → St G fd env none X σ' s'.heap → s'.heap.PlainList D vs'.toArray → VRs s'.heap (Bset env none X) (l ++ out) vs' → R (.ok .next) s') :
    codeAny G.M A (.compLoop (.ListComp elt gens scope pos) d (.ref I) (.ref D) env) R s := by
  have IL : I ≠ env.locals := fun e => S.locX (e ▸ .inr rfl)
  have DL : D ≠ env.locals := fun e => S.locX (e ▸ .inl hXD)
  have tI : ¬ G.Tab I := fun t => hXI (hXT I t)
  have n0 : ∀ b o, s₀.heap.get? b = some o → b ≠ I := fun b o e q => by rw [q, hI0] at e; cases e
  have nextK : ∀ (s₁ : Shared) (h₁ : Heap) (tk : Nat) (σi : AS), Ks G p { env with cells := [] } (some D) (some D) s₀ s₁ → St G fd env none (withI X I) σi s₁.heap → (∀ b o, b ≠ I → s₁.heap.get? b = some o → h₁.get? b = some o) → Ks G p { env with cells := [] } (some D) (some D) s₀ { s₁ with heap := h₁, toks := tk } := by
    intro s₁ h₁ tk σi K Si hk'
    refine ⟨K.ex, fun b o e h1 h2 h3 h4 => hk' b o (n0 b o e) (K.heap b o e h1 h2 h3 h4), fun b o e => ?_, K.gens, K.bare, fun P o t e => ?_, K.own⟩
    · obtain ⟨o', e'⟩ := K.there b o e
      exact ⟨o', hk' b o' (n0 b o e) e'⟩
    · rcases K.tabs P o t e with h | ⟨h1, c, h2, h3, h4⟩
      · exact .inl (hk' P _ (n0 P _ e) h)
      · refine .inr ⟨h1, c, hk' P _ (n0 P _ e) h2, codeRec_at h3 fun o e => hk' c o (fun q => ?_) e, h4⟩
        rcases (Si.tabOk P t).v with e' | ⟨c', e', _, n, _⟩
        · exact grown_ne (Option.some.inj (h2.symm.trans e'))
        · have := grown_inj (Option.some.inj (h2.symm.trans e'))
          subst this
          exact n (.inr (.inr (.inr (.inr q))))
  refine codeAny_loop rfl (fun k s₁ => ∃ i' σ₁ out₁ out₂ vs₁, k = items.length - i' ∧ i' ≤ items.length ∧ compLB i F (items.drop i') σ₁ = some (out₂, σ') ∧ out = out₁ ++ out₂ ∧ St₀ i' s₁.heap ∧
      Ks G p { env with cells := [] } (some D) (some D) s₀ s₁ ∧ St G fd env none (withI X I) σ₁ s₁.heap ∧ s₁.heap.PlainList D vs₁.toArray ∧ VRs s₁.heap (Bset env none (withI X I)) (l ++ out₁) vs₁) ?_ items.length
    ⟨0, σ, [], out, vs, by omega, Nat.zero_le _, hf, rfl, hst, K₀, S, hD, by rw [List.append_nil]; exact hl⟩
  rintro k s₁ ⟨i', σ₁, out₁, out₂, vs₁, rfl, hi, hfi, hout, hst₁, K₁, S₁, hD₁, hl₁⟩
  show wpAny _ A ((compTurn (.ListComp elt gens scope pos) d (.ref I) (.ref D) env).onRaise (fun x => do noteFrame x env; theTreesLotGoes x)) _ _ s₁
  refine wpAny_noted ?_
  rw [hturn]
  by_cases hlt : i' < items.length
  · refine wpAny_bind (wpAny_standAt (wpAny_bind (W.item i' s₁ _ _ hlt hst₁ fun v h₁ tk hP hst₂ hk₁ => ?_)))
    have hk' : ∀ b o, b ≠ I → s₁.heap.get? b = some o → h₁.get? b = some o := fun b o ne e => hk₁ b o (by simpa using ne) e
    have K₂ := nextK s₁ h₁ tk σ₁ K₁ S₁ hk'
    have S₂ : St G fd env none (withI X I) σ₁ h₁ := S₁.next (.inr rfl) tI hk' (live _ _ hst₂)
    obtain ⟨a, ha, hr⟩ := item i' v hlt hP
    have hd : items.drop i' = a :: items.drop (i' + 1) := by
      rw [List.drop_eq_getElem_cons hlt]
      congr 1
      exact (List.getElem_eq_iff hlt).mpr ha
    rw [hd] at hfi
    obtain ⟨⟨o₁, σ₂⟩, e1, hfi⟩ := bind_some hfi
    obtain ⟨⟨o₂, σ₃⟩, e2, hfi⟩ := bind_some hfi
    cases hfi
    have r₁ : VR h₁ (Bset env none (withI X I)) a v := hr h₁ fun b o e n2 n3 n4 => K₂.heap b o e n3 (.inl fun c hc => nomatch hc) (fun q => n2 (Option.some.inj q).symm) (.inr n4)
    refine wpAny_bind (wpAny_pure (wpAny_bind (wpAny_assign_Name (wpN (store_local (p := p) (s := { s₁ with heap := h₁, toks := tk }) hx hk S₂ r₁) fun _ s₃ q₃ => ?_))))
    obtain ⟨k₃, S₃, kk₃⟩ := q₃
    have k₃' : Ks G p { env with cells := [] } (some D) (some D) { s₁ with heap := h₁, toks := tk } s₃ :=
      ⟨k₃.ex, fun b o e h1 _ _ _ => kk₃ b o h1 e, k₃.there, k₃.gens, k₃.bare, .keep fun P o t e => kk₃ P o (fun q => S₂.locX (q ▸ S₂.tab P t)) e, fun a e => .inl e⟩
    have K₃ := K₂.trans k₃'
    have hD₃ : s₃.heap.PlainList D vs₁.toArray := plain_at hD₁ fun o e => kk₃ _ o DL (hk' _ o hID.symm e)
    have hl₃ : VRs s₃.heap (Bset env none (withI X I)) (l ++ out₁) vs₁ := hl₁.mono (fun b o e nb => kk₃ b o (fun q => nb (.inl q)) (hk' b o (fun q => nb (.inr (.inr (.inr (.inr q))))) e)) fun _ _ _ e => e
    have hlen' : (l ++ out₁).length + o₁.length ≤ 100000 := by rw [hout] at hlen; simp only [List.length_append] at hlen ⊢; omega
    refine hb.run env A s₃ (withI X I) _ D (l ++ out₁) vs₁ o₁ σ₂ _ _ _ Rm S₃ (.inl hXD) tD hD₃ hl₃ e1 hlen' fun s₄ k₄ S₄ ⟨vs₄, hD₄, hl₄⟩ => ?_
    have hst₄ : St₀ (i' + 1) s₄.heap := by
      refine W.frame _ _ _ hst₂ fun b hb' o e => ?_
      have hbL : b ≠ env.locals := by
        rcases foot b hb' with q | q
        · exact q ▸ IL
        · exact q.2.1
      have hbD : b ≠ D := by
        rcases foot b hb' with q | q
        · exact q ▸ hID
        · exact q.1
      have hbT : ¬ G.Tab b := by
        rcases foot b hb' with q | q
        · exact q ▸ tI
        · exact q.2.2
      exact k₄.heap b o (kk₃ b o hbL e) hbL (.inl fun c hc => nomatch hc) (fun q => hbD (Option.some.inj q).symm) (.inr hbT)
    refine wpAny_pure ⟨rfl, items.length - (i' + 1), by omega, i' + 1, σ₂, out₁ ++ o₁, o₂, vs₄, rfl, hlt, e2, by rw [hout, List.append_assoc], hst₄, K₃.trans k₄, S₄, hD₄, by rw [← List.append_assoc]; exact hl₄⟩
  · have hin : i' = items.length := by omega
    subst hin
    rw [List.drop_length] at hfi
    cases hfi
    refine wpAny_bind (wpAny_standAt (wpAny_bind (W.done s₁ _ _ hst₁ fun h₁ tk hk => ?_)))
    have hk' : ∀ b o, b ≠ I → s₁.heap.get? b = some o → h₁.get? b = some o := fun b o ne e => hk b o (by simpa using ne) e
    rw [List.append_nil] at hout
    subst hout
    refine wpAny_pure (hR { s₁ with heap := h₁, toks := tk } vs₁ (nextK s₁ h₁ tk _ K₁ S₁ hk') (S₁.last hXI hXT hk') (plain_at hD₁ fun o e => hk' _ o hID.symm e) (hl₁.mono (fun b o e nb => hk' b o (fun q => nb (.inr (.inr (.inr (.inr q))))) e) fun b o _ q => Bset_withI.mpr (.inl q)))

noncomputable def emitT (elt : Expr) (ifs : List Expr) (env : Env) (acc : Value) (k : Sem Fin) : Sem Fin :=
  (forIn ifs true fun c r => if r = true then do let ok ← isTrue c env (eval c env); pure (ForInStep.yield ok) else pure (ForInStep.yield r)) >>= fun ok =>
    if ok = true then ((eval elt env >>= fun x => call (.builtin "list.append") [acc, x] >>= fun _ => pure ()) >>= fun _ => k) else k
structure CTest (G : GC) (fd : FD) (p : Bool) (n : Nat) (ifs : List Expr) (c : AS → Option Bool) : Prop where
  run : ∀ (env : Env) (A : Around) (s : Shared) (X : Addr → Prop) (σ : AS) (b : Bool), Room n A → St G fd env none X σ s.heap → c σ = some b →
    wpAny G.M A (forIn ifs true fun c r => if r = true then do let ok ← isTrue c env (eval c env); pure (ForInStep.yield ok) else pure (ForInStep.yield r)) (fun v s' => Kp G p s s' ∧ v = b) Nay s
theorem CTest.nil : CTest G fd p n [] (fun _ => some true) := by
  refine ⟨?_⟩
  intro env A s X σ b R S h; cases h
  exact wpAny_tests_nil ⟨Kp.refl, rfl⟩
theorem CTest.one {e : Expr} {c : AS → Option Bool} (h : ST G fd p n e c) : CTest G fd p n [e] c := by
  refine ⟨?_⟩
  intro env A s X σ b R S hc
  exact wpAny_tests_one (h.run env A s none X σ b R S hc)
noncomputable def emitF (c : AS → Option Bool) (f : AS → Option AV) (σ : AS) : Option (List AV × AS) := (c σ).bind fun b => if b then (f σ).bind fun v => some ([v], σ) else some ([], σ)
theorem Ks.ofD {env : Env} {X : Addr → Prop} {D : Addr} {σ : AS} {s s' : Shared} (k : Kp G p s s') (S : St G fd env none X σ s.heap) (hX : X D) : Ks G p { env with cells := [] } (some D) (some D) s s' :=
  Ks.of_kp' k (fun b t => (S.tabOk b t).live) fun b q => by
    rcases q with q | ⟨c, hc, _⟩ | q
    · exact S.live b (.inl q)
    · cases hc
    · exact S.live b (.inr (.inr (.inr (Option.some.inj q ▸ hX))))
theorem CBody.emit {elt : Expr} {ifs : List Expr} {c : AS → Option Bool} {f : AS → Option AV} (hc : CTest G fd p n ifs c) (he : SE G fd p n elt f) : CBody G fd p n (emitT elt ifs) (emitF c f) := by
  refine ⟨?_⟩
  intro env A s X σ D l vs out σ' k Q E R S hXD tD hD hl hf hlen hk
  obtain ⟨b, hb, hf⟩ := bind_some hf
  refine wpAny_bind (wpN (hc.run env A s X σ b R S hb) fun v s₁ q => ?_)
  obtain ⟨k₁, rfl⟩ := q
  have S₁ := S.kp k₁
  have DL : D ≠ env.locals := fun e => S.locX (e ▸ hXD)
  have hD₁ : s₁.heap.PlainList D vs.toArray := plain_at hD fun o e => k₁.heap _ o e (.inr tD)
  have hl₁ := hl.kp S k₁
  cases v with
  | false =>
    rw [if_neg (by decide)]
    have hf : some (([] : List AV), σ) = some (out, σ') := hf
    cases hf
    exact hk s₁ (Ks.ofD k₁ S hXD) S₁ ⟨vs, hD₁, by rw [List.append_nil]; exact hl₁⟩
  | true =>
    rw [if_pos rfl]
    have hf : ((f σ).bind fun v => some ([v], σ)) = some (out, σ') := hf
    obtain ⟨a, ha, hf⟩ := bind_some hf
    cases hf
    refine wpAny_bind (wpAny_bind (wpN (he.run env A s₁ none X σ a R S₁ ha) fun y s₂ q₂ => ?_))
    obtain ⟨k₂, r₂⟩ := q₂
    have S₂ := S₁.kp k₂
    have hD₂ : s₂.heap.PlainList D vs.toArray := plain_at hD₁ fun o e => k₂.heap _ o e (.inr tD)
    have hl₂ := hl₁.kp S₁ k₂
    have e := hl.length
    refine wpAny_bind (wpAny_list_append_plain hD₂ (fun h' hp hsb => ?_) (by rw [sizeLine_eq]; simp; simp at hlen; omega))
    refine wpAny_pure ?_
    have keep : ∀ b o, b ≠ D → s₂.heap.get? b = some o → h'.get? b = some o := fun b o ne e => (hsb.2 b ne).trans e
    have K₃ : Ks G p { env with cells := [] } (some D) (some D) s₂ { s₂ with heap := h' } := ⟨⟨rfl, rfl⟩, fun b o e _ _ n3 _ => keep b o (fun q => n3 (q ▸ rfl)) e, fun b o e => by
      by_cases ne : b = D
      · subst ne; exact plain_live hp
      · exact ⟨o, keep b o ne e⟩, fun _ => rfl, fun e => e, .keep fun P o t e => keep _ _ (fun q => tD (q ▸ t)) e, fun _ e => .inl e⟩
    have kk : ∀ {a : AV} {v : Value}, VR s₂.heap (Bset env none X) a v → VR h' (Bset env none X) a v := fun r => r.mono (fun b o e nb => keep b o (fun q => nb (.inr (.inr (.inr (q ▸ hXD))))) e) fun _ _ _ e => e
    refine hk _ ((Ks.ofD (k₁.trans k₂) S hXD).trans K₃) (S₂.next hXD tD keep (plain_live hp)) ⟨vs ++ [y], ?_, ?_⟩
    · have : (vs ++ [y]).toArray = vs.toArray.push y := by simp
      rw [this]; exact hp
    · exact VRs.append (hl₂.mono (fun b o e nb => keep b o (fun q => nb (.inr (.inr (.inr (q ▸ hXD))))) e) fun _ _ _ e => e) (.cons (kk r₂) .nil)
end
end Mine
namespace Mine
theorem compStart1 {prog : Program} {w : World} {A : Around} {R : Result → Shared → Prop} {s : Shared} {elt target iter : Expr} {g0 : Comprehension} {ifs : List Expr} {rest : List Comprehension} {scope : Scope} {pos : Pos} {it acc : Value} {env : Env}
    (h0 : codeAny (model prog w) A (.compLoop (.ListComp elt (g0 :: ⟨target, iter, ifs, 0⟩ :: rest) scope pos) 1 it acc env) R s)
    (h : wpAny (model prog w) A (pyIter it) (fun it' s' => codeAny (model prog w) A (.compLoop (.ListComp elt (g0 :: ⟨target, iter, ifs, 0⟩ :: rest) scope pos) 1 it' acc env) R s')
      (notedBy (model prog w) A env fun x s' => R (.error x) s') s) :
    codeAny (model prog w) A (.compStart (.ListComp elt (g0 :: ⟨target, iter, ifs, 0⟩ :: rest) scope pos) 1 it acc env) R s := by
  refine codeAny_of_tree ?_
  show wpAny _ _ ((compStart (.ListComp elt (g0 :: ⟨target, iter, ifs, 0⟩ :: rest) scope pos) 1 it acc env).onRaise (fun x => do noteFrame x env; standAt theWindowsPlace)) _ _ s
  refine wpAny_notedAt ?_
  unfold compStart
  show wpAny _ _ (ask >>= _) _ _ s
  refine wpAny_bind (wpAny_askSetting (wpAny_ite ?_))
  split
  · first
      | exact wpAny_bind (wpAny_pure (wpAny_pure (And.intro rfl h0)))
      | exact wpAny_pure (And.intro rfl h0)
  · first
      | exact wpAny_bind (wpAny_rule (wpAny_bind (wpAny_standAt (wpAny_bind (wpAny_mono h (fun it' s' h' => wpAny_pure (And.intro rfl h')) fun _ _ x => x)))))
      | (refine wpAny_bind (wpAny_rule ?_); show wpAny _ _ (standAt iter.pos >>= _) _ _ s; exact wpAny_bind (wpAny_standAt (wpAny_bind (wpAny_mono h (fun it' s' h' => wpAny_pure (And.intro rfl h')) fun _ _ x => x))))

section
variable {G : GC} {fd fd' : FD} {p : Bool} {n : Nat}

noncomputable def nestT (elt : Expr) (gens : List Comprehension) (scope : Scope) (pos : Pos) (iter2 : Expr) (env : Env) (acc : Value) (k : Sem Fin) : Sem Fin :=
  eval iter2 env >>= fun x => standAt iter2.pos >>= fun _ => foldedSetIterable iter2 env x >>= fun x => holding [x] (pyIter x) >>= fun it => runOwn (.compStart (.ListComp elt gens scope pos) 1 it acc env) env >>= fun _ => k

theorem CBody.nest {elt iter2 : Expr} {g0 : Comprehension} {ifs : List Expr} {scope : Scope} {pos p0 : Pos} {x : PySem.Str} {px : Pos} {i : Nat} {t : Env → Value → Sem Fin → Sem Fin} {F : AS → Option (List AV × AS)} {f2 : AS → Option AV} {it2 : AV → Option (List AV)}
    (hi2 : SE G fd p n iter2 f2) (hit : IterOk G n (.Name x px) it2) (hx : NameAt fd i x) (hk : fd.scope.names.lookup x = some .local) (hb : CBody G fd p n t F)
    (hturn : ∀ env it acc, compTurn (.ListComp elt [g0, ⟨.Name x px, iter2, ifs, 0⟩] scope pos) 1 it acc env = (standAt p0 >>= fun _ => pyNext it >>= fun r => match r with
      | none => pure (.done .next)
      | some v => letOwnedTupleGo (.Name x px) it v >>= fun _ => PySem.assign (.Name x px) env v >>= fun _ => t env acc (again (.compLoop (.ListComp elt [g0, ⟨.Name x px, iter2, ifs, 0⟩] scope pos) 1 it acc env))))
    (hs : ∀ env x, foldedSetIterable iter2 env x = pure x := by intro _ _; rfl) :
    CBody G fd p n (nestT elt [g0, ⟨.Name x px, iter2, ifs, 0⟩] scope pos iter2) (fun σ => (f2 σ).bind fun a => (it2 a).bind fun items => compLB i F items σ) := by
  refine ⟨?_⟩
  intro env A s X σ D l vs out σ' k Q E R S hXD tD hD hl hf hlen hk'
  obtain ⟨a, ha, hf⟩ := bind_some hf
  obtain ⟨items, hi, hf⟩ := bind_some hf
  refine wpAny_bind (wpN (hi2.run env A s none X σ a R S ha) fun v s₁ q₁ => wpAny_bind (wpAny_standAt ?_))
  have S₁ := S.kp q₁.1
  refine wpAny_bind (wpAny_of_eq (hs env v) (wpAny_bind (wpAny_holding (wpN (hit A s₁ (Bset env none X) a v items R q₁.2 hi) fun iv s₂ q₂ => ?_))))
  obtain ⟨I, fp, P, St₀, rfl, T⟩ := q₂
  have kp2 : Kp G p s₁ s₂ := T.kp.lift
  have hXI : ¬ X I := fun e => by obtain ⟨o, ho⟩ := S₁.live I (.inr (.inr (.inr e))); rw [T.new] at ho; cases ho
  have hID : I ≠ D := fun e => hXI (e ▸ hXD)
  have hD₁ : s₁.heap.PlainList D vs.toArray := plain_at hD fun o e => q₁.1.heap _ o e (.inr tD)
  have hl₁ := hl.kp S q₁.1
  have hD₂ : s₂.heap.PlainList D vs.toArray := plain_at hD₁ fun o e => T.kp.heap _ o e (.inl rfl)
  have hB : ∀ b o, s₁.heap.get? b = some o → Bset env none (withI X I) b → Bset env none X b := fun b o e q => (Bset_withI.mp q).elim id fun q => by rw [q, T.new] at e; cases e
  have hl₂ : VRs s₂.heap (Bset env none (withI X I)) l vs := hl₁.mono (fun b o e _ => T.kp.heap b o e (.inl rfl)) hB
  have key : ∀ {R : Result → Shared → Prop}, (∀ s' vs', Ks G p { env with cells := [] } (some D) (some D) s₁ s' → St G fd env none X σ' s'.heap → s'.heap.PlainList D vs'.toArray → VRs s'.heap (Bset env none X) (l ++ out) vs' → R (.ok .next) s') →
      codeAny G.M A (.compLoop (.ListComp elt [g0, ⟨.Name x px, iter2, ifs, 0⟩] scope pos) 1 (.ref I) (.ref D) env) R s₂ := fun hR =>
    compLoop_ok hx hk hb hturn R T.new (Ks.of_pure T.kp) (S₁.addX T.kp T.new (T.live 0 _ T.st)) hXI hXD hID S.tab tD hD₂ hl₂ T.W T.st T.live
      (fun b hb => (T.foot b hb).imp id fun q => ⟨fun e => q.1 (.inr (.inr (.inr (e ▸ hXD)))), fun e => q.1 (.inl e), fun t => q.1 (.inr (.inr (.inr (S.tab b t))))⟩)
      (fun i v hlt hP => by
        obtain ⟨a, ha, hr⟩ := T.item i v hlt hP
        exact ⟨a, ha, fun h' hk => hr h' _ (fun b o e nb => hk b o e (fun q => nb (.inr (.inr (.inr (q ▸ hXD))))) (fun q => nb (.inl q)) fun t => nb (.inr (.inr (.inr (S.tab b t))))) hB⟩)
      hf hlen hR
  refine wpAny_bind (wpAny_onRaise (wpAny_run (compStart1 (key fun s' vs' k₁ S' hD' hl' => ?_) (T.W.self 0 _ _ _ T.st (key fun s' vs' k₁ S' hD' hl' => ?_)))))
  all_goals exact hk' s' ((Ks.ofD q₁.1 S hXD).trans k₁) S' ⟨vs', hD', hl'⟩
end
end Mine
namespace Mine

noncomputable def relabelS (scope outer : Scope) : Scope :=
  { scope with names := scope.names.map fun (n, k) => if (k == .free && outer.kind == .function && outer.names.lookup n == some .cell) then (n, .cell) else (n, k) }

structure ClOk (scope : Scope) (env : Env) (cl : List (PySem.Str × Addr)) : Prop where
  eq : closureFor scope env = pure cl
  sub : ∀ y c, cl.lookup y = some c → env.cells.lookup y = some c
  mem : ∀ q ∈ cl, ∃ y, env.cells.lookup y = some q.2
  mem' : ∀ q ∈ cl, cl.lookup q.1 = some q.2
  all : ∀ y, (y, NameKind.free) ∈ scope.names → ∃ c, cl.lookup y = some c
  conv : ∀ y c, cl.lookup y = some c → (y, NameKind.free) ∈ scope.names
noncomputable def clF (env : Env) (x : PySem.Str × NameKind) (r : List (PySem.Str × Addr)) : Sem (ForInStep (List (PySem.Str × Addr))) :=
  match x with
  | (name, kind) => if (kind == NameKind.free) = true then (do let a ← cellOf env name; pure (ForInStep.yield ((name, a) :: r))) else pure (ForInStep.yield r)
theorem closure_loop {env : Env} : ∀ (names : List (PySem.Str × NameKind)), (∀ y, (y, NameKind.free) ∈ names → ∃ c, env.cells.lookup y = some c) → ∀ (cs : List (PySem.Str × Addr)), (∀ q ∈ cs, env.cells.lookup q.1 = some q.2) →
    ∃ cl, (forIn names cs (clF env)) = (pure cl : Sem _) ∧ (∀ q ∈ cl, env.cells.lookup q.1 = some q.2) ∧ (∀ y, (y, NameKind.free) ∈ names → ∃ c, (y, c) ∈ cl) ∧ (∀ q ∈ cs, q ∈ cl) ∧ (∀ q ∈ cl, q ∈ cs ∨ (q.1, NameKind.free) ∈ names)
  | [], _, cs, h => ⟨cs, rfl, h, (fun _ q => nomatch q), fun _ q => q, fun _ q => .inl q⟩
  | (y, k) :: r, hy, cs, h => by
    have hr : ∀ z, (z, NameKind.free) ∈ r → ∃ c, env.cells.lookup z = some c := fun z q => hy z (.tail _ q)
    by_cases hk : k = .free
    · subst hk
      obtain ⟨c, hc⟩ := hy y (.head _)
      obtain ⟨cl, e1, e2, e3, e4, e5⟩ := closure_loop (env := env) r hr ((y, c) :: cs) (fun q hq => by
        rcases List.mem_cons.mp hq with rfl | hq
        · exact hc
        · exact h q hq)
      refine ⟨cl, ?_, e2, fun z hz => ?_, fun q hq => e4 q (.tail _ hq), fun q hq => ?_⟩
      · have ec : cellOf env y = pure c := by unfold cellOf; rw [hc]
        rw [List.forIn_cons]
        simp only [clF, beq_self_eq_true, if_true, ec]
        exact e1
      · rcases List.mem_cons.mp hz with e | hz
        · cases e; exact ⟨c, e4 _ (.head _)⟩
        · exact e3 z hz
      · rcases e5 q hq with h | h
        · rcases List.mem_cons.mp h with rfl | h
          · exact .inr (.head _)
          · exact .inl h
        · exact .inr (.tail _ h)
    · obtain ⟨cl, e1, e2, e3, e4, e5⟩ := closure_loop (env := env) r hr cs h
      refine ⟨cl, ?_, e2, fun z hz => ?_, e4, fun q hq => (e5 q hq).imp id fun h => .tail _ h⟩
      · have : (k == NameKind.free) = false := by simpa using hk
        rw [List.forIn_cons]
        simp only [clF, this, Bool.false_eq_true, if_false]
        exact e1
      · rcases List.mem_cons.mp hz with e | hz
        · cases e; exact absurd rfl hk
        · exact e3 z hz
theorem lookup_of_mem {y : PySem.Str} {c : Addr} : ∀ {l : List (PySem.Str × Addr)}, (y, c) ∈ l → ∃ d, l.lookup y = some d
  | (z, d) :: r, h => by
    rw [List.lookup_cons]
    cases e : y == z with
    | true => exact ⟨d, rfl⟩
    | false =>
      rcases List.mem_cons.mp h with q | q
      · cases q; simp at e
      · exact lookup_of_mem q
theorem closure_ok {scope : Scope} {env : Env} (h : ∀ y, (y, NameKind.free) ∈ scope.names → ∃ c, env.cells.lookup y = some c) : ∃ cl, ClOk scope env cl := by
  obtain ⟨cl, e1, e2, e3, -, e5⟩ := closure_loop (env := env) scope.names h [] (fun _ q => nomatch q)
  refine ⟨cl, ?_, fun y c e => e2 _ (mem_of_lookup e), fun q hq => ⟨q.1, e2 q hq⟩, fun q hq => by
    obtain ⟨d, hd⟩ := lookup_of_mem hq
    rw [hd, ← (e2 _ (mem_of_lookup hd))]
    exact e2 q hq, fun y hy => let ⟨c, hc⟩ := e3 y hy; lookup_of_mem hc, fun y c h => (e5 _ (mem_of_lookup h)).elim (fun q => nomatch q) id⟩
  show (forIn scope.names [] (clF env) >>= fun cs => pure cs) = _
  rw [e1]
  rfl

noncomputable def capt (caps : List (Option Nat)) (σ : AS) : AS := ⟨caps.map fun o => o.bind fun j => gv j σ, none⟩
noncomputable def capChk (fd fd' : FD) (scope : Scope) (caps : List (Option Nat)) : Bool :=
  (List.range caps.length).all fun i => match caps[i]? with
    | some (some j) => match fd.names[j]? with
      | some x => decide (fd'.names[i]? = some x) && decide (fd.scope.names.lookup x = some .cell) && decide (fd'.scope.names.lookup x = some .cell) && decide ((x, NameKind.free) ∈ scope.names)
      | none => false
    | _ => true
structure CompOk (fd fd' : FD) (scope : Scope) (caps : List (Option Nat)) : Prop where
  sc : fd'.scope = relabelS scope fd.scope
  kind : scope.kind = .function
  free : ∀ y ∈ scope.names, y.2 = .free → fd.scope.names.lookup y.1 = some .cell
  lcell : ∀ y ∈ scope.names, y.2 ≠ .cell
  loc : ∀ y ∈ scope.names, y.2 = .local → scope.names.lookup y.1 = some .local
  cells : ∀ y, fd'.scope.names.lookup y = some .cell → (y, NameKind.free) ∈ scope.names
  cap : capChk fd fd' scope caps = true
  pl : fd'.clo = [] ∧ fd'.code = none ∧ fd'.qual = none
theorem capOk {fd fd' : FD} {scope : Scope} {caps : List (Option Nat)} (h : capChk fd fd' scope caps = true) {i j : Nat} (hi : caps[i]? = some (some j)) : ∃ x, fd.names[j]? = some x ∧ fd'.names[i]? = some x ∧ fd.scope.names.lookup x = some .cell ∧ fd'.scope.names.lookup x = some .cell ∧ (x, NameKind.free) ∈ scope.names := by
  have hlt : i < caps.length := (List.getElem?_eq_some_iff.mp hi).1
  have := (List.all_eq_true.mp h) i (List.mem_range.mpr hlt)
  rw [hi] at this
  cases hx : fd.names[j]? with
  | none => simp [hx] at this
  | some x =>
    simp only [hx, Bool.and_eq_true, decide_eq_true_eq] at this
    exact ⟨x, rfl, this.1.1.1, this.1.1.2, this.1.2, this.2⟩

section
variable {G : GC} {fd fd' : FD} {p : Bool} {n : Nat}

theorem comp_block {elt iter : Expr} {ifs : List Expr} {rest : List Comprehension} {scope : Scope} {pos p0 : Pos} {x : PySem.Str} {px : Pos} {i : Nat} {caps : List (Option Nat)} {t : Env → Value → Sem Fin → Sem Fin} {F : AS → Option (List AV × AS)}
    (co : CompOk fd fd' scope caps) (hx : NameAt fd' i x) (hk : fd'.scope.names.lookup x = some .local) (hb : CBody G fd' p n t F)
    (hturn : ∀ env it acc, compTurn (.ListComp elt (⟨.Name x px, iter, ifs, 0⟩ :: rest) scope pos) 0 it acc env = (standAt p0 >>= fun _ => pyNext it >>= fun r => match r with
      | none => pure (.done .next)
      | some v => letOwnedTupleGo (.Name x px) it v >>= fun _ => PySem.assign (.Name x px) env v >>= fun _ => t env acc (again (.compLoop (.ListComp elt (⟨.Name x px, iter, ifs, 0⟩ :: rest) scope pos) 0 it acc env))))
    {env : Env} {A : Around} {X : Addr → Prop} {oa : Option Addr} {s₁ s₂ : Shared} {items : List AV} {I : Addr} {fp : List Addr} {P : Nat → Value → Prop} {St₀ : Nat → Heap → Prop} {σ : AS} {σ' : AS} {out : List AV} {cl : List (PySem.Str × Addr)} {E : Value → Shared → Prop} {RR : Value → Addr → Result → Shared → Prop}
    (Rm : Room n A) (S₁ : St G fd env oa X σ s₁.heap) (hcl : ClOk scope env cl) (T : IterAt G A (Bset env oa X) (.Name x px) items I fp P St₀ s₁ s₂)
    (hf : compLB i F items (capt caps σ) = some (out, σ')) (hlen : out.length ≤ 100000)
    (hRR : ∀ D C s', s₁.heap.get? D = none → s₁.heap.get? C = none → D ≠ C → (∃ m, s'.heap.Ns C m) → Kp G p s₁ s' → VR s'.heap (fun b => Bset env oa X b ∨ b = C) (.lst out) (.ref D) → RR (.ref D) C (.ok .next) s') :
    wpAny G.M A (newList []) (fun acc s₃ => wpAny G.M A (newFunctionEnv scope env.globals cl [] env.qual none .none (some env)) (fun cenv s₄ =>
      codeAny G.M A (.compStart (.ListComp elt (⟨.Name x px, iter, ifs, 0⟩ :: rest) scope pos) 0 (.ref I) acc { cenv with scope := relabel scope env }) (RR acc cenv.locals) s₄) E s₃) E s₂ := by
  have S₂ := S₁.kp T.kp
  refine wpAny_newObj_type (wpAny_newFunctionEnv co.lcell (by intro y hy; simp at hy) (fun h₁ hns₁ hsb₁ => ?_) co.kind)
  dsimp only at hns₁ hsb₁ ⊢
  generalize hH2 : s₂.heap.push { cls := .type "list", dict := none, data := .seq ([] : List Value).toArray } = H2 at hns₁ hsb₁ ⊢
  have hC : H2.objs.size = s₂.heap.objs.size + 1 := by rw [← hH2, Heap.size_push]
  generalize hDe : s₂.heap.objs.size = D at *
  generalize hCe : H2.objs.size = C at *
  have hDC : D ≠ C := by omega
  have lt2 : ∀ b o, s₂.heap.get? b = some o → b ≠ D ∧ b ≠ C := fun b o e => by
    have := Heap.lt_size e
    rw [hDe] at this
    exact ⟨Nat.ne_of_lt this, Nat.ne_of_lt (by rw [hC]; exact Nat.lt_succ_of_lt this)⟩
  have old : ∀ b o, s₂.heap.get? b = some o → h₁.get? b = some o := fun b o e => hsb₁.extBut b o (lt2 b o e).2 (Heap.get?_push_of_some _ (hH2 ▸ Heap.get?_push_of_some _ e))
  have hacc : h₁.PlainList D ([] : List Value).toArray := ⟨0, hsb₁.extBut _ _ hDC (Heap.get?_push_of_some _ (by rw [← hH2, ← hDe]; exact Heap.get?_push_size _ rfl))⟩
  have old1 : ∀ b o, s₁.heap.get? b = some o → h₁.get? b = some o := fun b o e => old b o (T.kp.heap b o e (.inl rfl))
  have lt1 : ∀ b o, s₁.heap.get? b = some o → b ≠ D ∧ b ≠ C := fun b o e => lt2 b o (T.kp.heap b o e (.inl rfl))
  have nI : ∀ b o, s₁.heap.get? b = some o → b ≠ I := fun b o e q => by rw [q, T.new] at e; cases e
  obtain ⟨oI, hI⟩ := T.live 0 _ T.st
  have hID := (lt2 I oI hI).1
  have hIC := (lt2 I oI hI).2
  have D1 : s₁.heap.get? D = none := by
    cases e : s₁.heap.get? D with
    | none => rfl
    | some o => exact absurd rfl (lt1 _ _ e).1
  have C1 : s₁.heap.get? C = none := by
    cases e : s₁.heap.get? C with
    | none => rfl
    | some o => exact absurd rfl (lt1 _ _ e).2
  have clm : ∀ q ∈ cl, ∃ y, (y, q.2) ∈ env.cells := fun q hq => by
    obtain ⟨y, hy⟩ := hcl.mem q hq
    exact ⟨y, mem_of_lookup hy⟩
  have clL : ∀ q ∈ cl, ∃ o, s₁.heap.get? q.2 = some o := fun q hq => by
    obtain ⟨y, hy⟩ := clm q hq
    exact S₁.live q.2 (.inr (.inl ⟨_, hy, rfl⟩))
  -- the inner state
  let X' : Addr → Prop := fun b => (Bset env oa X b ∧ ∀ c ∈ cl, c.2 ≠ b) ∨ b = D
  have T1 : ∀ b, G.Tab b → X' b := fun b t => .inl ⟨.inr (.inr (.inr (S₁.tab b t))), fun c hc q => by
    obtain ⟨y, hy⟩ := clm c hc
    exact S₁.cellX _ hy (q ▸ S₁.tab b t)⟩
  have XI : ¬ X' I := by
    rintro (⟨q, -⟩ | q)
    · obtain ⟨o, ho⟩ := S₁.live I q; exact nI _ _ ho rfl
    · exact hID q
  have XC : ¬ X' C := by
    rintro (⟨q, -⟩ | q)
    · obtain ⟨o, ho⟩ := S₁.live C q; exact (lt1 _ _ ho).2 rfl
    · exact hDC q.symm
  have TD : ¬ G.Tab D := fun t => by obtain ⟨o, hv⟩ := (S₁.tabOk D t).live; exact (lt1 _ _ hv).1 rfl
  generalize hcenv : compEnvC scope cl C env = cenv
  have cL : cenv.locals = C := by rw [← hcenv]; rfl
  have cC : cenv.cells = cl := by rw [← hcenv]; rfl
  have cS : cenv.scope = fd'.scope := by rw [← hcenv, co.sc, ← S₁.eo.scope]; rfl
  have bUp : ∀ b, (Bset env oa X b ∨ b = C) → Bset cenv none X' b := fun b q => by
    rcases q with q | q
    · by_cases h : ∃ c ∈ cl, c.2 = b
      · exact .inr (.inl (by rw [cC]; exact h))
      · exact .inr (.inr (.inr (.inl ⟨q, fun c hc e => h ⟨c, hc, e⟩⟩)))
    · exact .inl (by rw [cL]; exact q)
  have bDn : ∀ b, Bset cenv none (withI X' I) b → Bset env oa X b ∨ b = C ∨ b = D ∨ b = I := fun b q => by
    rcases q with q | ⟨c, hc, q⟩ | q | q | q
    · exact .inr (.inl (by rw [← cL]; exact q))
    · rw [cC] at hc
      obtain ⟨y, hy⟩ := clm c hc
      exact .inl (.inr (.inl ⟨_, hy, q⟩))
    · cases q
    · rcases q with q | q
      · exact .inl q.1
      · exact .inr (.inr (.inl q))
    · exact .inr (.inr (.inr q))
  have bOld : ∀ b o, s₁.heap.get? b = some o → Bset cenv none (withI X' I) b → Bset env oa X b := fun b o e q => by
    rcases bDn b q with q | q | q | q
    · exact q
    · exact absurd q (lt1 b o e).2
    · exact absurd q (lt1 b o e).1
    · exact absurd q (nI b o e)
  have Sc : St G fd' cenv none (withI X' I) (capt caps σ) h₁ := by
    refine ⟨⟨cS, by rw [← S₁.eo.globals, ← hcenv]; rfl, by rw [← S₁.eo.builtins, ← hcenv]; rfl, by rw [co.sc]; exact co.kind, fun y hy => by rw [cC]; exact hcl.all y (co.cells y hy), (fun y c h => by rw [co.pl.1] at h; cases h), (fun c h => by rw [co.pl.2.1] at h; cases h), (fun c h => by rw [co.pl.2.2] at h; cases h)⟩,
      fun b t => (S₁.tabOk b t).mono (fun o e => old1 _ _ e) (fun c o e _ _ => old1 _ _ e) bOld, fun b o e => ⟨old1 _ _ (S₁.base b o e).1, fun q => (S₁.base b o e).2 (bOld b o (S₁.base b o e).1 q)⟩, fun b t => .inl (T1 b t), fun b q => ?_, ?_, ?_, (fun a ha => nomatch ha), ?_, ?_, _, by rw [cL]; exact hns₁, fun j y a hy ha => ?_, (fun j l hl => nomatch hl)⟩
    · rcases bDn b q with q | q | q | q
      · obtain ⟨o, ho⟩ := S₁.live b q; exact ⟨o, old1 _ _ ho⟩
      · obtain ⟨o, _, _, ho, _⟩ := hns₁; exact ⟨o, q ▸ ho⟩
      · exact q ▸ plain_live hacc
      · exact ⟨oI, q ▸ old _ _ hI⟩
    · rw [cL]; rintro (q | q)
      · exact XC q
      · exact hIC q.symm
    · rw [cC]; rintro c hc (q | q)
      · rcases q with ⟨-, q⟩ | q
        · exact q c hc rfl
        · obtain ⟨o, ho⟩ := clL c hc; exact (lt1 _ _ ho).1 q
      · obtain ⟨o, ho⟩ := clL c hc; exact nI _ _ ho q
    · rw [cC]; intro c hc
      obtain ⟨y, hy⟩ := clm c hc
      obtain ⟨v, hv⟩ := S₁.cells _ hy
      exact ⟨v, isCell_at hv fun o e => old1 _ _ e⟩
    · rw [cC]; intro y z c hy hz
      exact S₁.cellsN y z c (hcl.sub _ _ hy) (hcl.sub _ _ hz)
    · have ha' : (caps.map fun o => o.bind fun j => gv j σ)[j]? = some (some a) := ha
      rw [List.getElem?_map] at ha'
      cases hc : caps[j]? with
      | none => rw [hc] at ha'; cases ha'
      | some o =>
        rw [hc] at ha'
        cases o with
        | none => cases ha'
        | some k =>
          have ha' : some (gv k σ) = some (some a) := ha'
          have ha' := Option.some.inj ha'
          obtain ⟨z, e1, e2, e3, e4, e5⟩ := capOk co.cap hc
          have ezy : z = y := Option.some.inj (e2.symm.trans hy)
          subst ezy
          obtain ⟨m, hn, g1, -⟩ := S₁.ns
          obtain ⟨v, hv, hr⟩ := g1 k z a e1 (gv_some ha')
          have kz : env.kindOf z = some .cell := by unfold Env.kindOf; rw [S₁.eo.scope]; exact e3
          rcases hv with ⟨q, -⟩ | ⟨-, c, hc', hi'⟩
          · rw [kz] at q; cases q
          · obtain ⟨c', hc''⟩ := hcl.all z e5
            have := (hcl.sub _ _ hc'').symm.trans hc'
            have this := Option.some.inj this
            subst this
            refine ⟨v, .inr ⟨.inl (by unfold Env.kindOf; rw [cS]; exact e4), _, by rw [cC]; exact hc'', isCell_at hi' fun o e => old1 _ _ e⟩, ?_⟩
            exact hr.mono (fun b o e _ => old1 b o e) bOld
  have kp4 : Kp G true s₁ { s₂ with heap := h₁, toks := s₂.toks + ([] : List (PySem.Str × Value)).length } := (T.kp.trans (Kp.of_keep old))
  have key : codeAny G.M A (.compLoop (.ListComp elt (⟨.Name x px, iter, ifs, 0⟩ :: rest) scope pos) 0 (.ref I) (.ref D) cenv) (RR (.ref D) C) { s₂ with heap := h₁, toks := s₂.toks + ([] : List (PySem.Str × Value)).length } := by
    refine compLoop_ok (s₀ := s₁) (vs := []) (l := []) hx hk hb hturn Rm T.new (Ks.of_pure kp4) Sc XI (.inr rfl) hID T1 TD hacc .nil T.W (T.W.frame _ _ _ T.st fun b _ o e => old b o e) T.live
      (fun b hb => (T.foot b hb).imp id fun q => ?_) (fun j v hlt hP => ?_) hf (by simpa using hlen) fun s' vs' k' S' hD' hl' => ?_
    · obtain ⟨q1, o, ho⟩ := q
      exact ⟨(lt1 _ _ ho).1, by rw [cL]; exact (lt1 _ _ ho).2, fun t => q1 (.inr (.inr (.inr (S₁.tab b t))))⟩
    · obtain ⟨a, ha, hr⟩ := T.item j v hlt hP
      exact ⟨a, ha, fun h' hk => hr h' _ (fun b o e nb => hk b o e (lt1 b o e).1 (by rw [cL]; exact (lt1 b o e).2) fun t => nb (.inr (.inr (.inr (S₁.tab b t))))) bOld⟩
    · refine hRR D C s' D1 C1 hDC ?_ ?_ ?_
      · obtain ⟨m, hm, -⟩ := S'.ns
        exact ⟨m, cL ▸ hm⟩
      · exact ⟨k'.ex, fun b o e t => k'.heap b o e (by rw [cL]; exact (lt1 b o e).2) (.inl fun c hc => nomatch hc) (fun q => (lt1 b o e).1 (Option.some.inj q).symm) t, k'.gens, k'.bare, k'.tabs.weak⟩
      · refine .lst hD' ?_ (by simpa using hl'.mono (fun b o e _ => e) fun b o _ q => bUp b q)
        rintro (q | q)
        · obtain ⟨o, ho⟩ := S₁.live D q; exact (lt1 _ _ ho).1 rfl
        · exact hDC q
  have e : ({ newEnv scope C env.globals cl env.qual none .none (some env) 0 with scope := relabel scope env } : Env) = cenv := by rw [← hcenv]; rfl
  rw [← e] at key
  exact codeAny_compStart_list key (T.W.self 0 _ _ _ (T.W.frame _ _ _ T.st fun b _ o e => old b o e) key)
end
end Mine
namespace Mine
section
variable {G : GC} {fd fd' : FD} {p : Bool} {n : Nat}
theorem St.clOk {env : Env} {oa : Option Addr} {X : Addr → Prop} {σ : AS} {h : Heap} {scope : Scope} {caps : List (Option Nat)} (S : St G fd env oa X σ h) (co : CompOk fd fd' scope caps) : ∃ cl, ClOk scope env cl :=
  closure_ok fun y hy => S.eo.cl y (co.free (y, .free) hy rfl)
noncomputable def compF (f : AS → Option AV) (it : AV → Option (List AV)) (i : Nat) (F : AS → Option (List AV × AS)) (caps : List (Option Nat)) (σ : AS) : Option AV :=
  (f σ).bind fun a => (it a).bind fun items => (compLB i F items (capt caps σ)).bind fun y => (lid y.1).bind fun l => some (.lst l)
theorem SE.comp {elt iter : Expr} {ifs : List Expr} {rest : List Comprehension} {scope : Scope} {pos p0 : Pos} {x : PySem.Str} {px : Pos} {i : Nat} {caps : List (Option Nat)} {t : Env → Value → Sem Fin → Sem Fin} {F : AS → Option (List AV × AS)} {f : AS → Option AV} {it : AV → Option (List AV)}
    (hi : SE G fd p n iter f) (hit : IterOk G n (.Name x px) it) (co : CompOk fd fd' scope caps) (hx : NameAt fd' i x) (hk : fd'.scope.names.lookup x = some .local) (hb : CBody G fd' p n t F)
    (hturn : ∀ env it acc, compTurn (.ListComp elt (⟨.Name x px, iter, ifs, 0⟩ :: rest) scope pos) 0 it acc env = (standAt p0 >>= fun _ => pyNext it >>= fun r => match r with
      | Option.none => pure (.done .next)
      | some v => letOwnedTupleGo (.Name x px) it v >>= fun _ => PySem.assign (.Name x px) env v >>= fun _ => t env acc (again (.compLoop (.ListComp elt (⟨.Name x px, iter, ifs, 0⟩ :: rest) scope pos) 0 it acc env))))
    (hs : ∀ env x, foldedSetIterable iter env x = pure x := by intro _ _; rfl) :
    SE G fd p n (.ListComp elt (⟨.Name x px, iter, ifs, 0⟩ :: rest) scope pos) (compF f it i F caps) := by
  refine ⟨?_⟩
  intro env A s oa X σ c R S hf
  obtain ⟨a, ha, hf⟩ := bind_some hf
  obtain ⟨items, h1, hf⟩ := bind_some hf
  obtain ⟨⟨out, σ'⟩, h2, hf⟩ := bind_some hf
  obtain ⟨l, hq, hg⟩ := bind_some hf
  obtain ⟨rfl, hlen⟩ := lid_some hq
  cases hg
  obtain ⟨cl, hcl⟩ := S.clOk co
  rw [eval_ListComp]
  refine wpAny_comprehension_free (use := Option.none) (scope := scope) rfl (hs env) hcl.eq co.kind co.loc (wpN (hi.run env A s oa X σ a R S ha) fun v s₁ q₁ => ?_)
  have S₁ := S.kp q₁.1
  refine wpN (hit A s₁ (Bset env oa X) a v items R q₁.2 h1) fun iv s₂ q₂ => ?_
  obtain ⟨I, fp, P, St₀, rfl, T⟩ := q₂
  refine comp_block (RR := fun acc C => compPost G.M A _ Option.none _ acc C) co hx hk hb hturn R S₁ hcl T h2 hlen fun D C s' hD hC hDC hm k r => ?_
  obtain ⟨m, hm⟩ := hm
  refine ⟨m, hm, fun h' hsb => ?_⟩
  have keep : ∀ b o, b ≠ C → s'.heap.get? b = some o → h'.get? b = some o := fun b o ne e => (hsb.2 b ne).trans e
  have nC : ∀ b o, s₁.heap.get? b = some o → b ≠ C := fun b o e q => by rw [q, hC] at e; cases e
  refine ⟨q₁.1.trans ⟨k.ex, fun b o e t => keep b o (nC b o e) (k.heap b o e t), k.gens, k.bare, fun P o t e => ?_⟩, r.mono (fun b o e nb => keep b o (fun q => nb (.inr q)) e) fun b o _ q => .inl q⟩
  exact (k.tabs P o t e).imp (fun h => keep _ _ (nC P _ e) h) fun ⟨h1, c, h2, h3, h4⟩ => ⟨h1, c, keep _ _ (nC P _ e) h2, codeRec_at h3 fun o e => keep c o (ns_not_code hm h3) e, h4⟩

theorem S1.assignComp {y : PySem.Str} {j : Nat} {py spos : Pos} {elt iter : Expr} {ifs : List Expr} {rest : List Comprehension} {scope : Scope} {pos p0 : Pos} {x : PySem.Str} {px : Pos} {i : Nat} {caps : List (Option Nat)} {t : Env → Value → Sem Fin → Sem Fin} {F : AS → Option (List AV × AS)} {f : AS → Option AV} {it : AV → Option (List AV)}
    (hy : NameAt fd j y) (hyl : fd.scope.names.lookup y = some .local)
    (hi : SE G fd p n iter f) (hit : IterOk G n (.Name x px) it) (co : CompOk fd fd' scope caps) (hx : NameAt fd' i x) (hk : fd'.scope.names.lookup x = some .local) (hb : CBody G fd' p n t F)
    (hturn : ∀ env it acc, compTurn (.ListComp elt (⟨.Name x px, iter, ifs, 0⟩ :: rest) scope pos) 0 it acc env = (standAt p0 >>= fun _ => pyNext it >>= fun r => match r with
      | Option.none => pure (.done .next)
      | some v => letOwnedTupleGo (.Name x px) it v >>= fun _ => PySem.assign (.Name x px) env v >>= fun _ => t env acc (again (.compLoop (.ListComp elt (⟨.Name x px, iter, ifs, 0⟩ :: rest) scope pos) 0 it acc env))))
    (hsw : (py.line == pos.line && !(scope.names.any fun (n, k) => n == y && (k == .local || k == .cell))) = true)
    (hs : ∀ env x, foldedSetIterable iter env x = pure x := by intro _ _; rfl) :
    S1 G fd p n (.Assign [.Name y py] (.ListComp elt (⟨.Name x px, iter, ifs, 0⟩ :: rest) scope pos) spos) (fun σ => (compF f it i F caps σ).bind fun a => some (.next, setL j a σ)) := by
  refine ⟨?_⟩
  intro env A s oa X σ fl σ' R S hf
  obtain ⟨c, hc0, hg⟩ := bind_some hf
  cases hg
  obtain ⟨a, ha, hf⟩ := bind_some hc0
  obtain ⟨items, h1, hf⟩ := bind_some hf
  obtain ⟨⟨out, σ'⟩, h2, hf⟩ := bind_some hf
  obtain ⟨l, hq, hg⟩ := bind_some hf
  obtain ⟨rfl, hlen⟩ := lid_some hq
  cases hg
  obtain ⟨cl, hcl⟩ := S.clOk co
  have hky : env.kindOf y = some .local := by unfold Env.kindOf; rw [S.eo.scope]; exact hyl
  have hkf : env.scope.kind = .function := by rw [S.eo.scope]; exact S.eo.kind
  have hsw' : swapsWith (.ListComp elt (⟨.Name x px, iter, ifs, 0⟩ :: rest) scope pos) (some (.Name y py)) spos.line env = pure true := by
    show (pure (env.blockKind == .function && env.kindOf y == some .local && py.line == pos.line && !(scope.names.any fun (n, k) => n == y && (k == .local || k == .cell))) : Sem Bool) = pure true
    have : env.blockKind = .function := by unfold Env.blockKind; rw [hkf]; rfl
    rw [this, hky, Bool.and_assoc, hsw]; rfl
  rw [exec_Assign_Name_used _ _ _ _ hsw']
  refine wpAny_bind (wpAny_standAt (wpAny_bind ?_))
  show wpAny _ A (do let _ ← comprehension (.ListComp elt (⟨.Name x px, iter, ifs, 0⟩ :: rest) scope pos) scope env _ (newList []) false (eval iter env) (some (PySem.assign (.Name y py) env))) _ _ s
  refine wpAny_bind (wpAny_mono (Q := fun _ s' => ∃ oa', Ks G p env oa oa' s s' ∧ St G fd env oa' X (setL j (.lst l) σ) s'.heap ∧ FlR s'.heap (Bset env oa' X) .next .next) (E := Nay) (wpAny_comprehension_free (use := some (PySem.assign (.Name y py) env)) (scope := scope) rfl (hs env) hcl.eq co.kind co.loc
    (wpN (hi.run env A s oa X σ a R S ha) fun v s₁ q₁ => ?_)) (fun _ s' hq => wpAny_pure (wpAny_pure hq)) fun _ _ e => e.elim)
  have S₁ := S.kp q₁.1
  refine wpN (hit A s₁ (Bset env oa X) a v items R q₁.2 h1) fun iv s₂ q₂ => ?_
  obtain ⟨I, fp, P, St₀, rfl, T⟩ := q₂
  refine comp_block (RR := fun acc C => compPost G.M A _ (some (PySem.assign (.Name y py) env)) _ acc C) co hx hk hb hturn R S₁ hcl T h2 hlen fun D C s' hD hC hDC hm k r => ?_
  obtain ⟨m, hm⟩ := hm
  have hCl : ∃ o, s'.heap.get? C = some o := by obtain ⟨o, _, _, ho, _⟩ := hm; exact ⟨o, ho⟩
  have S' := S₁.addX' k hC hCl fun q r => ns_not_code hm r rfl
  have r' : VR s'.heap (Bset env oa (withI X C)) (.lst l) (.ref D) := r.mono (fun b o e _ => e) fun b o _ q => Bset_withI.mp q
  have K' : Ks G p env oa oa s s' := Ks.of_kp (q₁.1.trans k) S
  show wpAny _ A (PySem.assign (.Name y py) env (.ref D)) _ _ _
  refine wpAny_assign_Name (wpN (store_local (p := p) hy hyl S' r') fun _ s'' q => ?_)
  obtain ⟨k₂, S₂, kk₂⟩ := q
  have CL : C ≠ env.locals := fun e => by obtain ⟨o, ho⟩ := S₁.live env.locals (.inl rfl); rw [← e, hC] at ho; cases ho
  refine ⟨m, Heap.Ns.at' hm fun o e => kk₂ _ o CL e, fun h' hsb => ?_⟩
  have keep : ∀ b o, b ≠ C → s''.heap.get? b = some o → h'.get? b = some o := fun b o ne e => (hsb.2 b ne).trans e
  have nC : ∀ b o, s.heap.get? b = some o → b ≠ C := fun b o e q => by
    obtain ⟨o', e'⟩ := (Ks.of_kp (env := env) (oa := oa) q₁.1 S).there b o e
    rw [q, hC] at e'; cases e'
  have XC : ¬ X C := fun e => by obtain ⟨o, ho⟩ := S₁.live C (.inr (.inr (.inr e))); rw [hC] at ho; cases ho
  have K'' := K'.trans k₂
  refine ⟨oa, ⟨K''.ex, fun b o e h1 h2 h3 h4 => keep b o (nC b o e) (K''.heap b o e h1 h2 h3 h4), fun b o e => ?_, K''.gens, K''.bare, fun P o t e => ?_, K''.own⟩, S₂.last XC S.tab keep, .next⟩
  · obtain ⟨o', e'⟩ := K''.there b o e
    exact ⟨o', keep b o' (nC b o e) e'⟩
  · exact (K''.tabs P o t e).imp (fun h => keep _ _ (nC P _ e) h) fun ⟨h1, c, h2, h3, h4⟩ => ⟨h1, c, keep _ _ (nC P _ e) h2, codeRec_at h3 fun o e => keep c o (ns_not_code (Heap.Ns.at' hm fun o e => kk₂ _ o CL e) h3) e, h4⟩
end
end Mine
namespace Mine

theorem cellsFrom_keys : ∀ (names : List (PySem.Str × NameKind)) (n : Nat) (acc : List (PySem.Str × Addr)),
    (cellsFrom n names acc).map Prod.fst = ((names.filter fun x => x.2 == .cell).map Prod.fst).reverse ++ acc.map Prod.fst
  | [], n, acc => rfl
  | (x, k) :: r, n, acc => by
    unfold cellsFrom
    by_cases h : (k == NameKind.cell) = true
    · rw [if_pos h, cellsFrom_keys r, List.filter_cons_of_pos (by simpa using h)]
      simp
    · rw [if_neg h, cellsFrom_keys r, List.filter_cons_of_neg (by simpa using h)]
theorem lookup_of_key {x : PySem.Str} : ∀ {l : List (PySem.Str × Addr)}, x ∈ l.map Prod.fst → ∃ c, l.lookup x = some c
  | (y, c) :: r, h => by
    rw [List.lookup_cons]
    cases e : x == y with
    | true => exact ⟨c, rfl⟩
    | false =>
      rcases List.mem_cons.mp h with q | q
      · simp [q] at e
      · exact lookup_of_key q
theorem lookup_nodup {x : PySem.Str} {c : Addr} : ∀ {l : List (PySem.Str × Addr)}, (l.map Prod.fst).Nodup → (x, c) ∈ l → l.lookup x = some c
  | (y, d) :: r, hn, h => by
    rw [List.map_cons, List.nodup_cons] at hn
    rw [List.lookup_cons]
    rcases List.mem_cons.mp h with q | q
    · cases q; simp
    · have : (x == y) = false := by
        cases e : x == y with
        | false => rfl
        | true => exact absurd (List.mem_map.mpr ⟨_, q, rfl⟩) (beq_iff_eq.mp e ▸ hn.1)
      rw [this]
      exact lookup_nodup hn.2 q
theorem kind_mem {x : PySem.Str} {k : NameKind} : ∀ {l : List (PySem.Str × NameKind)}, l.lookup x = some k → (x, k) ∈ l
  | (y, d) :: r, h => by
    rw [List.lookup_cons] at h
    cases e : x == y with
    | true => rw [e] at h; cases h; rw [beq_iff_eq.mp e]; exact .head _
    | false => rw [e] at h; exact .tail _ (kind_mem h)

theorem bindL_other {kindOf : PySem.Str → Option NameKind} {x : PySem.Str} : ∀ (bs : List (PySem.Str × Value)) (m : PySem.Str → Option Value), x ∉ bs.map Prod.fst → bindL kindOf bs m x = m x
  | [], m, _ => rfl
  | (y, v) :: r, m, h => by
    rw [List.map_cons, List.mem_cons, not_or] at h
    rw [bindL, bindL_other r _ h.2]
    split
    · exact if_neg h.1
    · rfl
theorem bindL_get {kindOf : PySem.Str → Option NameKind} {x : PySem.Str} {v : Value} (hk : kindOf x = some .local) : ∀ (bs : List (PySem.Str × Value)) (m : PySem.Str → Option Value), (bs.map Prod.fst).Nodup → (x, v) ∈ bs → bindL kindOf bs m x = some v
  | (y, u) :: r, m, hn, h => by
    rw [List.map_cons, List.nodup_cons] at hn
    rw [bindL]
    rcases List.mem_cons.mp h with q | q
    · cases q
      rw [bindL_other _ _ hn.1, if_pos hk]
      exact if_pos rfl
    · exact bindL_get hk r _ hn.2 q
theorem bindC_other {kindOf : PySem.Str → Option NameKind} {x : PySem.Str} : ∀ (bs : List (PySem.Str × Value)) (m : PySem.Str → Option Value), x ∉ bs.map Prod.fst → bindC kindOf bs m x = m x
  | [], m, _ => rfl
  | (y, v) :: r, m, h => by
    rw [List.map_cons, List.mem_cons, not_or] at h
    rw [bindC, bindC_other r _ h.2]
    split
    · rfl
    · exact if_neg h.1
theorem bindC_get {kindOf : PySem.Str → Option NameKind} {x : PySem.Str} {v : Value} (hk : kindOf x = some .cell) : ∀ (bs : List (PySem.Str × Value)) (m : PySem.Str → Option Value), (bs.map Prod.fst).Nodup → (x, v) ∈ bs → bindC kindOf bs m x = some v
  | (y, u) :: r, m, hn, h => by
    rw [List.map_cons, List.nodup_cons] at hn
    rw [bindC]
    rcases List.mem_cons.mp h with q | q
    · cases q
      rw [bindC_other _ _ hn.1, if_neg (by rw [hk]; decide)]
      exact if_pos rfl
    · exact bindC_get hk r _ hn.2 q

structure FnChk (fd : FD) (ps : List PySem.Str) : Prop where
  pre : fd.names.take ps.length = ps
  nodup : ps.Nodup
  keys : (fd.scope.names.map Prod.fst).Nodup
  kinds : ∀ x ∈ ps, fd.scope.names.lookup x = some .local ∨ fd.scope.names.lookup x = some .cell
  kind : fd.scope.kind = .function
  co : fd.scope.isCoroutine = false
  gen : fd.scope.isGenerator = false
  clo : fd.clo = []
structure FnAt (G : GC) (a : Addr) (fdat : FuncData) : Prop where
  at' : ∃ o, G.st a o ∧ o.data = .func fdat
  code : ∃ c o vs t, fdat.code = .ref c ∧ G.st c o ∧ o.data = .fields vs ∧ vs[1]? = some (.str fdat.qualname t)
  globals : fdat.globals = mainGlobals
  builtins : fdat.builtins = builtinsNs
  closure : fdat.closure = []

theorem start_get {l : List AV} {k i : Nat} {a : AV} (h : (l.map some ++ List.replicate k none)[i]? = some (some a)) : l[i]? = some a := by
  rw [List.getElem?_append] at h
  split at h
  · rw [List.getElem?_map] at h
    cases q : l[i]? with
    | none => rw [q] at h; cases h
    | some b => rw [q] at h; exact congrArg some (Option.some.inj (Option.some.inj h))
  · rw [List.getElem?_replicate] at h
    split at h
    · exact no (Option.some.inj h)
    · exact no h
theorem take_at {α : Type} {l ps : List α} (h : l.take ps.length = ps) {i : Nat} {x : α} (hi : i < ps.length) (hx : l[i]? = some x) : ps[i]? = some x := by
  rw [← h, List.getElem?_take_of_lt hi]
  exact hx
theorem zip_at {ps : List PySem.Str} {vs : List Value} {i : Nat} {x : PySem.Str} {v : Value} (hn : ps.Nodup) (hl : ps.length ≤ vs.length) (h1 : ps[i]? = some x) (h2 : vs[i]? = some v) : ((ps.zip vs).map Prod.fst).Nodup ∧ (x, v) ∈ ps.zip vs :=
  ⟨by rw [List.map_fst_zip hl]; exact hn, List.mem_iff_getElem?.mpr ⟨i, List.getElem?_zip_eq_some.mpr ⟨h1, h2⟩⟩⟩
noncomputable def start (fd : FD) (as : List AV) : AS := ⟨as.map some ++ List.replicate (fd.names.length - as.length) none, none⟩
section
variable {G : GC} {fd : FD} {p : Bool} {n : Nat}
theorem Room.deeper {A : Around} {env : Env} (R : Room (n + 1) A) : Room n (A.deeper env) := by
  refine ⟨R.handled, ?_, ?_⟩
  · exact Nat.succ_add_eq_add_succ A.depth n ▸ R.depth
  · exact Nat.lt_of_le_of_lt (by rw [show (A.deeper env).units = A.units + 3 from rfl, Nat.add_assoc, Nat.add_comm 3]; exact Nat.add_le_add_left (Nat.add_le_add_left (by decide : 3 ≤ 8) _) _) R.units

theorem St.entry {ps : List PySem.Str} {env : Env} {s s₁ : Shared} {B : Addr → Prop} {as : List AV} {vs : List Value} (chk : FnChk fd ps) (S : GSt G B s.heap)
    (hv : VRs s.heap B as vs) (hlen : as.length = ps.length) (hL : env.locals = s.heap.objs.size) (hcs : env.cells = cellsFrom (s.heap.objs.size + 1) fd.scope.names [])
    (e1 : env.scope = fd.scope) (e2 : env.globals = mainGlobals) (e3 : env.builtins = builtinsNs) (e4 : ∀ c, fd.code = some c → env.code = .ref c) (e5 : ∀ q, fd.qual = some q → env.qual = q)
    (I : InCallC s env.locals (bindL env.kindOf (ps.zip vs) fun _ => none) env.cells (bindC env.kindOf (ps.zip vs) fun _ => none) s₁) :
    St G fd env none B (start fd as) s₁.heap ∧ Kp G true s s₁ := by
  obtain ⟨⟨⟨h', tk, rfl⟩, hns, hkeep, hfresh⟩, hcell, hapart, habove⟩ := I
  have hkeep : ∀ b o, s.heap.get? b = some o → h'.get? b = some o := hkeep
  have hvl := hv.length
  have keysN : (env.cells.map Prod.fst).Nodup := by
    rw [hcs, cellsFrom_keys]
    simp only [List.map_nil, List.append_nil]
    exact (List.reverse_perm _).symm.nodup ((List.Sublist.map _ List.filter_sublist).nodup chk.keys)
  have hsize : ∀ b o, s.heap.get? b = some o → b < s.heap.objs.size := fun b o e => Heap.lt_size e
  have nL : ∀ b o, s.heap.get? b = some o → b ≠ env.locals := fun b o e q => by rw [hL] at q; exact Nat.lt_irrefl _ (q ▸ hsize b o e)
  have nC : ∀ b o, s.heap.get? b = some o → ∀ c ∈ env.cells, c.2 ≠ b := fun b o e c hc q => by
    have := habove c.1 c.2 hc
    rw [hL] at this
    exact absurd (hsize b o e) (by rw [← q]; exact Nat.not_lt.mpr (Nat.le_of_lt this))
  have bOld : ∀ b o, s.heap.get? b = some o → Bset env none B b → B b := fun b o e q => by
    rcases q with q | ⟨c, hc, q⟩ | q | q
    · exact absurd q (nL b o e)
    · exact absurd q (nC b o e c hc)
    · cases q
    · exact q
  have cIs : ∀ c ∈ env.cells, h'.IsCell c.2 (bindC env.kindOf (ps.zip vs) (fun _ => none) c.1) := fun c hc => hcell c.1 c.2 (lookup_nodup keysN hc)
  refine ⟨⟨⟨e1, e2, e3, chk.kind, fun x hx => ?_, (fun x c h => by rw [chk.clo] at h; cases h), e4, e5⟩, fun b t => (S.tabOk b t).mono (fun o e => hkeep _ _ e) (fun c o e _ _ => hkeep _ _ e) bOld, fun b o e => ⟨hkeep _ _ (S.base b o e).1, fun q => (S.base b o e).2 (bOld b o (S.base b o e).1 q)⟩, S.tab, fun b q => ?_, fun q => ?_, fun c hc q => ?_, (fun a ha => nomatch ha),
    fun c hc => ⟨_, cIs c hc⟩, fun x y c hx hy => name_of_addr hapart (mem_of_lookup hx) (mem_of_lookup hy), _, hns, fun i x a hx ha => ?_, (fun i l hl => nomatch hl)⟩, Kp.of_keep (tk := tk) hkeep⟩
  · refine lookup_of_key ?_
    rw [hcs, cellsFrom_keys]
    simp only [List.map_nil, List.append_nil, List.mem_reverse]
    exact List.mem_map.mpr ⟨(x, .cell), List.mem_filter.mpr ⟨kind_mem hx, rfl⟩, rfl⟩
  · rcases q with q | ⟨c, hc, q⟩ | q | q
    · obtain ⟨o, _, _, ho, _⟩ := hns; exact ⟨o, q ▸ ho⟩
    · obtain ⟨o, ho, _⟩ := cIs c hc; exact ⟨o, q ▸ ho⟩
    · cases q
    · obtain ⟨o, ho⟩ := S.live b q; exact ⟨o, hkeep _ _ ho⟩
  · obtain ⟨o, ho⟩ := S.live _ q; exact nL _ _ ho rfl
  · obtain ⟨o, ho⟩ := S.live _ q; exact nC _ _ ho c hc rfl
  · have hai := start_get ha
    obtain ⟨v, hvi, hr⟩ := hv.get hai
    have hpi : ps[i]? = some x := take_at chk.pre (hlen ▸ (List.getElem?_eq_some_iff.mp hai).1) hx
    obtain ⟨hnd, hmem⟩ := zip_at chk.nodup (Nat.le_of_eq (hlen.symm.trans hvl)) hpi hvi
    refine ⟨v, ?_, hr.mono (fun b o e _ => hkeep b o e) bOld⟩
    have hko : env.kindOf x = fd.scope.names.lookup x := by unfold Env.kindOf; rw [e1]
    rcases chk.kinds x (List.mem_of_getElem? hpi) with hk | hk
    · exact .inl ⟨hko.trans hk, bindL_get (hko.trans hk) _ _ hnd hmem⟩
    · obtain ⟨c, hc⟩ : ∃ c, env.cells.lookup x = some c := by
        refine lookup_of_key ?_
        rw [hcs, cellsFrom_keys]
        simp only [List.map_nil, List.append_nil, List.mem_reverse]
        exact List.mem_map.mpr ⟨(x, .cell), List.mem_filter.mpr ⟨kind_mem hk, rfl⟩, rfl⟩
      have := hcell x c hc
      rw [bindC_get (hko.trans hk) _ _ hnd hmem] at this
      exact .inr ⟨.inl (hko.trans hk), c, hc, this⟩

theorem new_back {s s' : Shared} {c : Addr} (k : Kp G true s s') (h : s'.heap.get? c = none) : s.heap.get? c = none := by
  cases q : s.heap.get? c with
  | none => rfl
  | some o' => rw [k.heap c o' q (.inl rfl)] at h; cases h
structure SR (G : GC) (fd : FD) (p : Bool) (n : Nat) (ss : List Stmt) (F : AS → Option Fl) : Prop where
  run : ∀ (env : Env) (A : Around) (s : Shared) (oa : Option Addr) (X : Addr → Prop) (σ : AS) (fl : Fl), Room n A → St G fd env oa X σ s.heap → F σ = some fl →
    wpAny (model G.prog G.w) A (execs ss env) (fun w s' => ∃ oa' σ', Ks G p env oa oa' s s' ∧ St G fd env oa' X σ' s'.heap ∧ FlR s'.heap (Bset env oa' X) fl w) Nay s
theorem SR.of {ss : List Stmt} {F : AS → Option (Fl × AS)} (h : SS G fd p n ss F) : SR G fd p n ss (fun σ => (F σ).bind fun x => some x.1) := by
  refine ⟨?_⟩
  intro env A s oa X σ fl R S hf
  obtain ⟨⟨fl', σ'⟩, h1, h2⟩ := bind_some hf
  cases h2
  exact wpN (h.run env A s oa X σ _ σ' R S h1) fun w s' ⟨oa', k, S', f⟩ => ⟨oa', σ', k, S', f⟩
noncomputable def seqR (F : AS → Option (Fl × AS)) (H : AS → Option Fl) (σ : AS) : Option Fl := (F σ).bind fun x => match x.1 with
  | .next => H x.2
  | y => some y
theorem SR.cons {st : Stmt} {rest : List Stmt} {F : AS → Option (Fl × AS)} {H : AS → Option Fl} (h : S1 G fd p n st F) (hs : SR G fd p n rest H) : SR G fd p n (st :: rest) (seqR F H) := by
  refine ⟨?_⟩
  intro env A s oa X σ fl R S hf
  obtain ⟨⟨fl₁, σ₁⟩, h1, h2⟩ := bind_some hf
  refine wpAny_execs_cons (wpN (h.run env A s oa X σ fl₁ σ₁ R S h1) fun w s₁ q => ?_)
  obtain ⟨oa₁, k₁, S₁, f₁⟩ := q
  cases f₁ with
  | next =>
    refine wpN (hs.run env A s₁ oa₁ X σ₁ fl R S₁ h2) fun w s₂ q => ?_
    obtain ⟨oa₂, σ₂, k₂, S₂, f₂⟩ := q
    exact ⟨oa₂, σ₂, k₁.trans k₂, S₂, f₂⟩
  | brk => cases h2; exact ⟨oa₁, σ₁, k₁, S₁, .brk⟩
  | cont => cases h2; exact ⟨oa₁, σ₁, k₁, S₁, .cont⟩
  | ret r => cases h2; exact ⟨oa₁, σ₁, k₁, S₁, .ret r⟩
noncomputable def flValR : Fl → Option AV
  | .ret a => some a
  | .next => some .none
  | _ => none
noncomputable def fnKR (fd : FD) (ps : List PySem.Str) (F : AS → Option Fl) (as : List AV) : Option AV :=
  if as.length = ps.length then (F (start fd as)).bind flValR else none
theorem fn_okR {a : Addr} {fdat : FuncData} {body : List Stmt} {ps : List PySem.Str} {F : AS → Option Fl} (hG : G.Ok) (hat : FnAt G a fdat) (hbody : fdat.body = .stmts body) (hsc : fdat.scope = fd.scope) (chk : FnChk fd ps)
    (hbind : ∀ vs : List Value, vs.length = ps.length → bindArgs fdat ⟨vs, []⟩ = pure (ps.zip vs)) (hb : SR G fd p n body F) (hcode : ∀ c, fd.code = some c → fdat.code = .ref c := by intro _ h; cases h) (hqual : ∀ q, fd.qual = some q → fdat.qualname ++ ".<locals>." = q := by intro _ h; cases h) : CallOk G p (n + 1) (.ref a) (fnKR fd ps F) := by
  intro A s B as vs c R S hv hk
  unfold fnKR at hk
  split at hk
  case isFalse => cases hk
  case isTrue hlen =>
  have hvl := hv.length
  obtain ⟨o, ho, hd⟩ := hat.at'
  have up : ∀ b o, G.st b o → s.heap.get? b = some o := fun b o e => (S.base b o e).1
  have hroom : A.depth < recursionLimit := R.lt
  refine wpAny_call (codeAny_call_cells (body := body) (binds := ps.zip vs) hroom (up _ _ ho) hd (hG.top.nolimit.keeps fun b o e => up b o (hG.sub b o e)) (let ⟨c, o, vs, t, a1, a2, a3, a4⟩ := hat.code; ⟨c, o, vs, t, a1, up _ _ a2, a3, a4⟩) hbody (hbind vs (by omega)) hat.closure (fun x hx => ?_) (fun s₁ I => ?_) (by rw [hsc]; exact chk.co) (by rw [hsc]; exact chk.gen) (by rw [hsc]; exact chk.kind))
  · have hxp : x.1 ∈ ps := (List.of_mem_zip hx).1
    rw [hsc]
    rcases chk.kinds x.1 hxp with hk | hk
    · exact .inl hk
    · refine .inr ⟨hk, ?_⟩
      obtain ⟨c, hc⟩ := lookup_of_key (x := x.1) (l := cellsFrom (s.heap.objs.size + 1) fd.scope.names []) (by
        rw [cellsFrom_keys]
        simp only [List.map_nil, List.append_nil, List.mem_reverse]
        exact List.mem_map.mpr ⟨(x.1, .cell), List.mem_filter.mpr ⟨kind_mem hk, rfl⟩, rfl⟩)
      rw [hc]; rfl
  · generalize hE : callEnvC fdat s.heap.objs.size a = env at I ⊢
    have e1 : env.scope = fd.scope := by rw [← hE]; exact hsc
    have e2 : env.globals = mainGlobals := by rw [← hE]; exact hat.globals
    have e3 : env.builtins = builtinsNs := by rw [← hE]; exact hat.builtins
    have eL : env.locals = s.heap.objs.size := by rw [← hE]; rfl
    have eC : env.cells = cellsFrom (s.heap.objs.size + 1) fd.scope.names [] := by rw [← hE, ← hsc]; rfl
    obtain ⟨S₁, k₁⟩ := St.entry chk S hv hlen eL eC e1 e2 e3 (fun c h => by rw [← hE]; exact hcode c h) (fun q h => by rw [← hE]; exact hqual q h) I
    obtain ⟨fl, hF, hk⟩ := bind_some hk
    · skip
      have nL : ∀ b o, s.heap.get? b = some o → b ≠ env.locals := fun b o e q => by rw [eL] at q; exact Nat.lt_irrefl _ (q ▸ Heap.lt_size e)
      have nC : ∀ b o, s.heap.get? b = some o → ∀ c ∈ env.cells, c.2 ≠ b := fun b o e c hc q => by
        have := I.above c.1 c.2 hc
        rw [eL] at this
        exact absurd (Heap.lt_size e) (by rw [← q]; exact Nat.not_lt.mpr (Nat.le_of_lt this))
      refine wpN (hb.run env (A.deeper env) s₁ Option.none B (start fd as) fl R.deeper S₁ hF) fun w s₂ q => ?_
      obtain ⟨oa', σ', k₂, S₂, f₂⟩ := q
      have K : Kp G p s s₂ := ⟨⟨k₂.ex.1.trans k₁.ex.1, k₂.ex.2.trans k₁.ex.2⟩, fun b o e t => k₂.heap b o (k₁.heap b o e (.inl rfl)) (nL b o e) (.inl (nC b o e)) (fun q => nomatch q) t, fun e => (k₂.gens e).trans (k₁.gens rfl), fun e => k₂.bare (k₁.bare e), fun P o t e => (k₂.tabs P o t (k₁.heap _ _ e (.inl rfl))).imp id fun ⟨h1, c, h2, h3, h4, h5, _⟩ => ⟨h1, c, h2, h3, new_back k₁ h4, h5⟩⟩
      have up : ∀ {a : AV} {v : Value}, VR s₂.heap (Bset env oa' B) a v → VR s₂.heap B a v := fun r => r.mono (fun b o e _ => e) fun b o _ q => .inr (.inr (.inr q))
      cases f₂ with
      | next => cases hk; exact ⟨K, .none⟩
      | brk => cases hk
      | cont => cases hk
      | ret r => cases hk; exact ⟨K, up r⟩
theorem fn_ok {a : Addr} {fdat : FuncData} {body : List Stmt} {ps : List PySem.Str} {F : AS → Option (Fl × AS)} (hG : G.Ok) (hat : FnAt G a fdat) (hbody : fdat.body = .stmts body) (hsc : fdat.scope = fd.scope) (chk : FnChk fd ps)
    (hbind : ∀ vs : List Value, vs.length = ps.length → bindArgs fdat ⟨vs, []⟩ = pure (ps.zip vs)) (hb : SS G fd p n body F) : (hcode : ∀ c, fd.code = some c → fdat.code = .ref c := by intro _ h; cases h) → (hqual : ∀ q, fd.qual = some q → fdat.qualname ++ ".<locals>." = q := by intro _ h; cases h) → CallOk G p (n + 1) (.ref a) (fnKR fd ps (fun σ => (F σ).bind fun x => some x.1)) := fun h1 h2 =>
  fn_okR hG hat hbody hsc chk hbind (SR.of hb) h1 h2
end
end Mine
namespace Mine
section
variable {G : GC} {fd : FD} {p : Bool} {n : Nat}

noncomputable def bitlenK : AV → Option AV
  | .int a => some (.int (Builtin.Int.intBits a : Nat))
  | _ => none
theorem bitlenK_inv {a c : AV} (h : bitlenK a = some c) : ∃ i, a = .int i ∧ c = .int (Builtin.Int.intBits i : Nat) := by
  cases a <;> first | exact no h | exact ⟨_, rfl, (Option.some.inj h).symm⟩
theorem SE.bitlen {o : Expr} {apos pos : Pos} {f : AS → Option AV} (ho : SE G fd p n o f)
    (hb : ∀ env, attributeBase o "bit_length" env (eval o env) = eval o env := by intro _; rfl) (hl : (apos.endLine == pos.line) = true := by rfl) :
    SE G fd p n (.Call (.Attribute o "bit_length" apos) [] [] pos) (fun σ => (f σ).bind bitlenK) := by
  refine ⟨?_⟩
  intro env A s oa X σ c R S hf
  obtain ⟨a, ha, hk⟩ := bind_some hf
  refine wpAny_Call_method (hb env) (by rfl) hl F.plainAttrs_int F.slot_int_bit_length F.type_int_bit_length (wpN (ho.run env A s oa X σ a R S ha) fun va s₁ q₁ => ?_)
  obtain ⟨k₁, r₁⟩ := q₁
  obtain ⟨i, rfl, rfl⟩ := bitlenK_inv hk
  obtain ⟨t, rfl⟩ := r₁.int_inv
  refine ⟨typeIs_int _ _ _, (fun _ e => nomatch e), callWith_builtin rfl (evalArgs_nil3 ?_)⟩
  exact call_int_bit_length ⟨k₁.trans Kp.tok, .int⟩

structure IntStrs (G : GC) (d : Addr) (T : List (Int × List Nat)) : Prop where
  tab : TabAt (intKind G.prog G.w) PyData.int G.g d (T.map fun x => (.int x.1, .str ⟨x.2.toArray⟩))
noncomputable def tabGet (i : Int) (l : List Nat) : List (Int × List Nat) → List Nat
  | [] => l
  | (a, b) :: r => if a = i then b else tabGet i l r
noncomputable def tabK (T : List (Int × List Nat)) : List AV → Option AV
  | [.int i, .str l] => some (.str (tabGet i l T))
  | _ => none
theorem tabK_inv {T : List (Int × List Nat)} {as : List AV} {c : AV} (h : tabK T as = some c) : ∃ i l, as = [.int i, .str l] ∧ c = .str (tabGet i l T) := by
  cases as with
  | nil => exact no h
  | cons x r =>
    cases x <;> first | exact no h | skip
    cases r with
    | nil => exact no h
    | cons y r =>
      cases y <;> first | exact no h | skip
      cases r with
      | cons _ _ => exact no h
      | nil => exact ⟨_, _, rfl, (Option.some.inj h).symm⟩
theorem lookup_tab (i : Int) (l : List Nat) : ∀ T : List (Int × List Nat), (lookup (.int i) (T.map fun x => (PyData.int x.1, PyData.str ⟨x.2.toArray⟩))).getD (.str ⟨l.toArray⟩) = .str ⟨(tabGet i l T).toArray⟩
  | [] => rfl
  | (a, b) :: r => by
    rw [List.map_cons]
    show (if Spec.same (.int a) (.int i) then some (PyData.str ⟨b.toArray⟩) else lookup (.int i) _).getD _ = _
    rw [PyProof.V.same_int, tabGet]
    by_cases h : a = i
    · rw [if_pos (by simpa using h), if_pos h]; rfl
    · rw [if_neg (by simpa using h), if_neg h]; exact lookup_tab i l r
theorem SE.dictget (hG : G.Ok) {x : PySem.Str} {d : Addr} {T : List (Int × List Nat)} {np apos pos : Pos} {e : Expr} {rest : List Expr} {g : AS → Option (List AV)}
    (hx : fd.scope.names.lookup x = some .globalImplicit) (hd : (x == ("__debug__" : PySem.Str)) = false) (hn : GName G x (.ref d)) (hT : IntStrs G d T) (ha : SEs G fd p n (e :: rest) g)
    (hb : ∀ env, attributeBase (.Name x np) "get" env (eval (.Name x np) env) = eval (.Name x np) env := by intro _; rfl) (hl : (apos.endLine == pos.line) = true := by rfl)
    (h30 : ∀ env, (((backTo pos (starEach (e :: rest) env)).all fun x => !x.1) && (backToKw pos (keywordEach [] env)).all (·.1.isSome) && decide ((e :: rest).length + ([] : List Keyword).length + (if ([] : List Keyword).isEmpty then 0 else 1) < 30)) = true := by intro _; rfl)
    (he : ∀ env, starEach (e :: rest) env = (false, eval e env) :: starEach rest env := by intro _; rfl) (hplain : ∀ env, (backTo pos (starEach rest env)).any (·.1) = false := by intro _; rfl) :
    SE G fd p n (.Call (.Attribute (.Name x np) "get" apos) (e :: rest) [] pos) (fun σ => (g σ).bind (tabK T)) := by
  refine ⟨?_⟩
  intro env A s oa X σ c R S hf
  obtain ⟨as, has, hk'⟩ := bind_some hf
  have Tb : TabAt (intKind G.prog G.w) PyData.int s.heap d (T.map fun x => (.int x.1, .str ⟨x.2.toArray⟩)) := hT.tab.keep fun b o e => (S.base b o (hG.sub b o e)).1
  obtain ⟨lo, kvs, hdo, hfl⟩ := Tb
  refine wpAny_Call_method (hb env) (h30 env) hl F.plainAttrs_dict F.slot_dict_get F.type_dict_get (wp_glob hG hx hd hn S ⟨hdo.typeIs, hdo.mapOf.noDict, ?_⟩)
  refine callWith_builtin ?_ ?_
  · rw [he]
    show (false || (backTo pos (starEach rest env)).any (·.1)) = false
    rw [hplain]; rfl
  · have h1 := ha.run env A s oa X σ as pos R S has
    rw [he] at h1 ⊢
    refine evalArgs_plain (wpN h1 fun vs s₂ q₂ => ?_)
    obtain ⟨k₂, r₂⟩ := q₂
    have S₂ := S.kp k₂
    obtain ⟨i, l, rfl, rfl⟩ := tabK_inv hk'
    obtain ⟨v, w, rfl, w1, w2⟩ := r₂.two_inv
    obtain ⟨ti, rfl⟩ := w1.int_inv
    obtain ⟨tl, rfl⟩ := w2.str_inv
    · · · skip
          refine call_get2_intTab (D := T.map fun x => (.int x.1, .str ⟨x.2.toArray⟩)) (dd := .str ⟨l.toArray⟩) (hT.tab.keep fun b o e => (S₂.base b o (hG.sub b o e)).1) (.str _ _) fun v hv => ?_
          rw [lookup_tab] at hv
          obtain ⟨t, rfl⟩ := hv.str_inv
          exact ⟨k₂.trans Kp.tok, .str⟩

theorem S1.forRev (hG : G.Ok) {target iter : Expr} {fx : PySem.Str} {np cpos : Pos} {body els : List Stmt} {pos : Pos} {f : AS → Option AV} {set : AV → AS → Option AS} {F H : AS → Option (Fl × AS)}
    (hx : fd.scope.names.lookup fx = some .globalImplicit) (hd : (fx == ("__debug__" : PySem.Str)) = false) (hn : GName G fx (.type "reversed")) (hi : SE G fd p n iter f) (ht : Asg G fd p n target set)
    (hb : SS G fd p n body F) (he : SS G fd p n els H) (hs : ∀ env x, foldedSetIterable (.Call (.Name fx np) [iter] [] cpos) env x = pure x := by intro _ _; rfl)
    (hst : ∀ env, starEach [iter] env = [(false, eval iter env)] := by intro _; rfl)
    (hgo : ∀ (I : Addr) (v : Value), letOwnedTupleGo target (.ref I) v = pure ()) :
    S1 G fd p n (.For target (.Call (.Name fx np) [iter] [] cpos) body els pos) (fun σ => (f σ).bind fun a => (iterL a).bind fun items => forL set F H items.reverse σ) := by
  refine ⟨?_⟩
  intro env A s oa X σ fl σ' R S hf
  obtain ⟨a, ha, hf1⟩ := bind_some hf
  obtain ⟨items, h1, hf2⟩ := bind_some hf1
  clear hf hf1
  refine wpAny_For (wpAny_Call_NameR (wp_glob hG hx hd hn S ?_)) (hs env)
  refine callWith_ok .type (by rw [hst]; rfl) ?_
  rw [hst]
  refine evalArgs_plain (spliced_cons (wpN (hi.run env A s oa X σ a R S ha) fun v s₁ q₁ => spliced_nil ?_))
  have S₁ := S.kp q₁.1
  refine ⟨fun b o e => (S₁.base b o e).1, ?_⟩
  obtain ⟨k₁, r₁⟩ := q₁
  obtain ⟨rfl, h2⟩ := iterL_inv h1
  obtain ⟨ad, vs, rfl, hl, hnb, rl⟩ := r₁.lst_inv
  have hne : ad ≠ s₁.heap.objs.size := fun e => by obtain ⟨o, ho⟩ := plain_live hl; rw [e, get_size] at ho; cases ho
  refine call_reversed_list (plain_isList hl) ?_
  have kp : Kp G true s₁ { s₁ with heap := s₁.heap.push (revObj ad ((vs.toArray.size : Int) - 1)) } := Kp.push
  have hat : ({ s₁ with heap := s₁.heap.push (revObj ad ((vs.toArray.size : Int) - 1)) } : Shared).heap.IsRevIter s₁.heap.objs.size ad ((vs.toArray.size : Int) - 1) := ⟨_, Heap.get?_push_size _ rfl, rfl, rfl⟩
  refine wpAny_pyIter_revIter hat ?_
  have W := Walks.listRev (prog := G.prog) (w := G.w) R.handled s₁.heap.objs.size ad hne vs.toArray
  have e : vs.toArray.size = items.reverse.length := by simp [rl.length]
  have T : IterAt G A (Bset env oa X) target items.reverse s₁.heap.objs.size [s₁.heap.objs.size, ad] (fun i v => vs.toArray[vs.toArray.size - 1 - i]? = some v) (fun i h => i ≤ vs.toArray.size ∧ h.IsRevIter s₁.heap.objs.size ad ((vs.toArray.size : Int) - 1 - (i : Int)) ∧ h.IsList ad vs.toArray) s₁ { s₁ with heap := s₁.heap.push (revObj ad ((vs.toArray.size : Int) - 1)) } := by
    refine ⟨by rw [← e]; exact W, ⟨Nat.zero_le _, by simpa using hat, plain_isList (plain_at hl fun o e => Heap.get?_push_of_some _ e)⟩, get_size _, kp, ?_, ?_, ?_, ?_⟩
    · rintro i h ⟨-, ⟨o, ho, _⟩, _⟩; exact ⟨o, ho⟩
    · intro b hb
      rcases List.mem_cons.mp hb with rfl | hb
      · exact .inl rfl
      · rcases List.mem_singleton.mp hb with rfl
        exact .inr ⟨hnb, plain_live hl⟩
    · intro i v hi hp
      have hp' : vs[vs.length - 1 - i]? = some v := by simpa using hp
      obtain ⟨a, ha, hr⟩ := rl.get' hp'
      refine ⟨a, ?_, fun h' B' h1 h2 => hr.mono (fun b o e nb => h1 b o e nb) fun b o e hb => h2 b o e hb⟩
      rw [List.length_reverse] at hi
      rw [List.getElem?_reverse hi, rl.length]
      exact ha
    · intro i s₂ v Q _ hQ
      rw [hgo]
      exact wpAny_pure hQ
  refine codeAny_mono (forL_ok ht hb he R S₁ T hf2) fun r s₃ q₃ => ?_
  obtain ⟨w, rfl, oa', K, S₃, f₃⟩ := q₃
  exact ⟨oa', (Ks.of_kp k₁ S).trans K, S₃, f₃⟩

noncomputable def revF (i : Nat) (σ : AS) : Option (Fl × AS) := match σ.own with
  | some (j, l) => if j = i then (lid l).bind fun l => some (.next, ⟨σ.loc, some (i, l.reverse)⟩) else none
  | none => none
theorem revF_inv {i : Nat} {σ σ' : AS} {fl : Fl} (h : revF i σ = some (fl, σ')) : ∃ l, σ.own = some (i, l) ∧ l.length ≤ 100000 ∧ fl = .next ∧ σ' = ⟨σ.loc, some (i, l.reverse)⟩ := by
  unfold revF at h
  cases ho : σ.own with
  | none => rw [ho] at h; exact no h
  | some jl =>
    obtain ⟨j, l⟩ := jl
    rw [ho] at h
    replace h : (if j = i then (lid l).bind fun l => some (Fl.next, (⟨σ.loc, some (i, l.reverse)⟩ : AS)) else Option.none) = some (fl, σ') := h
    by_cases e : j = i
    · subst e
      rw [if_pos rfl] at h
      obtain ⟨l', hq, hg⟩ := bind_some h
      obtain ⟨rfl, hlen⟩ := lid_some hq
      cases hg
      exact ⟨l', rfl, hlen, rfl, rfl⟩
    · rw [if_neg e] at h; exact no h
theorem VRs.reverse {h : Heap} {B : Addr → Prop} {l : List AV} {vs : List Value} (r : VRs h B l vs) : VRs h B l.reverse vs.reverse :=
  r.ind (P := fun l vs => VRs h B l.reverse vs.reverse) .nil fun x _ ih => by rw [List.reverse_cons, List.reverse_cons]; exact ih.append (.cons x .nil)
theorem S1.reverse {x : PySem.Str} {i : Nat} {px apos cpos pos : Pos} (hi : NameAt fd i x) (hd : (x == ("__debug__" : PySem.Str)) = false) (hcd : (x == ("__classdict__" : PySem.Str)) = false)
    (hline : (apos.endLine == cpos.line) = true := by rfl)
    (hbase : ∀ env, attributeBase (.Name x px) "reverse" env (eval (.Name x px) env) = eval (.Name x px) env := by intro _; rfl)
    (hs : ∀ env, swapsWith (.Call (.Attribute (.Name x px) "reverse" apos) [] [] cpos) Option.none pos.line env = pure false := by intro _; rfl) :
    S1 G fd p n (.Expr (.Call (.Attribute (.Name x px) "reverse" apos) [] [] cpos) pos) (revF i) := by
  refine ⟨?_⟩
  intro env A s oa X σ fl σ' R S hf
  obtain ⟨l, ho, hlen, rfl, rfl⟩ := revF_inv hf
  obtain ⟨ad, vs, m, rfl, hn, eV, e5, e6⟩ := own_at hi S ho
  obtain ⟨cnt, hobj⟩ := id e5
  have hl := e6.length
  refine wpAny_Expr (wpAny_Call_method (hbase env) (by rfl) hline F.plainAttrs_list F.slot_list_reverse F.type_list_reverse (wp_var S.eo hn eV hd hcd ⟨(plain_isList e5).typeIs, (fun a ha => by cases ha; exact ⟨_, hobj, rfl⟩), ?_⟩)) (not_interactive S.eo) (hs env)
  refine PySem.P.reverse_list (n := cnt) hobj ?_ (by rw [sizeLine_eq]; simp; omega)
  have hp : (s.heap.update ad (Obj.mapSeq fun x => x.reverse)).PlainList ad vs.reverse.toArray := by
    have : (Obj.mapSeq (fun x => x.reverse) { cls := Value.type "list", data := Data.seq vs.toArray cnt }) = { cls := Value.type "list", data := Data.seq vs.toArray.toList.reverse.toArray cnt } := mapSeq_reverse _ _
    refine ⟨cnt, ?_⟩
    rw [Heap.get?_update_self _ hobj (by rw [this]; rfl), this]
  obtain ⟨K₂, S₂⟩ := S.chSame (p := p) ho (Heap.SameBut.update ..) hp e6.reverse
  exact ⟨some ad, K₂, S₂, .next⟩
end
end Mine
namespace Mine

inductive CellsHold (h : Heap) (B : Addr → Prop) (cl : List (PySem.Str × Addr)) : List PySem.Str → List AV → Prop
  | nil : CellsHold h B cl [] []
  | cons {x : PySem.Str} {c : Addr} {v : Value} {a : AV} {cs : List PySem.Str} {cv : List AV} : cl.lookup x = some c → h.IsCell c (some v) → VR h B a v → CellsHold h B cl cs cv → CellsHold h B cl (x :: cs) (a :: cv)
theorem CellsHold.get {h : Heap} {B : Addr → Prop} {cl : List (PySem.Str × Addr)} {cs : List PySem.Str} {cv : List AV} (H : CellsHold h B cl cs cv) : ∀ {i : Nat} {a : AV}, cv[i]? = some a → ∃ x c v, cs[i]? = some x ∧ cl.lookup x = some c ∧ h.IsCell c (some v) ∧ VR h B a v := by
  induction H with
  | nil => exact fun e => no e
  | cons h1 h2 h3 _ ih =>
    intro i a e
    cases i with
    | zero => obtain rfl := Option.some.inj e; exact ⟨_, _, _, rfl, h1, h2, h3⟩
    | succ i => exact ih e
noncomputable def OwnOk (h : Heap) (B : Addr → Prop) (cl : List (PySem.Str × Addr)) (fd : FD) : Option (Nat × List AV) → Option Addr → Prop
  | none, none => True
  | some (j, l), some D => ∃ x c vs, fd.names[j]? = some x ∧ cl.lookup x = some c ∧ h.IsCell c (some (.ref D)) ∧ h.PlainList D vs.toArray ∧ VRs h B l vs ∧ B D
  | _, _ => False

theorem OwnOk.of_none {h : Heap} {B : Addr → Prop} {cl : List (PySem.Str × Addr)} {fd : FD} {oa : Option Addr} (H : OwnOk h B cl fd none oa) : oa = none := by
  cases oa with
  | none => rfl
  | some _ => exact H.elim
theorem OwnOk.inv {h : Heap} {B : Addr → Prop} {cl : List (PySem.Str × Addr)} {fd : FD} {j : Nat} {l : List AV} {oa : Option Addr} (H : OwnOk h B cl fd (some (j, l)) oa) :
    ∃ D, oa = some D ∧ ∃ x c vs, fd.names[j]? = some x ∧ cl.lookup x = some c ∧ h.IsCell c (some (.ref D)) ∧ h.PlainList D vs.toArray ∧ VRs h B l vs ∧ B D := by
  cases oa with
  | none => exact H.elim
  | some D => exact ⟨D, rfl, H⟩
theorem OwnOk.live {h : Heap} {B : Addr → Prop} {cl : List (PySem.Str × Addr)} {fd : FD} {own : Option (Nat × List AV)} {D : Addr} (H : OwnOk h B cl fd own (some D)) : B D ∧ ∃ o, h.get? D = some o := by
  cases own with
  | none => exact H.elim
  | some q =>
    obtain ⟨_, _, _, _, _, _, h1, _, h2⟩ := H
    exact ⟨h2, plain_live h1⟩
noncomputable def ownBack (a b : Option (Nat × List AV)) : Option (Option (Nat × List AV)) := if a.map Prod.fst = b.map Prod.fst then some b else none
theorem ownBack_inv {a b c : Option (Nat × List AV)} (h : ownBack a b = some c) : a.map Prod.fst = b.map Prod.fst ∧ c = b := by
  unfold ownBack at h
  split at h
  · exact ⟨‹_›, (Option.some.inj h).symm⟩
  · exact no h
noncomputable def flVal : Fl → Option AV
  | .ret a => some a
  | .next => some .none
  | _ => none
noncomputable def KX (fd : FD) (ps cs : List PySem.Str) (F : AS → Option (Fl × AS)) (cv : List AV) (own : Option (Nat × List AV)) (as : List AV) : Option (AV × Option (Nat × List AV)) :=
  if as.length = ps.length ∧ cv.length = cs.length then
    (F ⟨(as ++ cv).map some ++ List.replicate (fd.names.length - (as.length + cv.length)) none, own⟩).bind fun x =>
      (flVal x.1).bind fun a => (ownBack own x.2.own).bind fun o => some (a, o)
  else none

noncomputable def CallX (G : GC) (p : Bool) (n : Nat) (fd : FD) (f : Addr) (cl : List (PySem.Str × Addr)) (cs : List PySem.Str) (cv : List AV) (K : Option (Nat × List AV) → List AV → Option (AV × Option (Nat × List AV))) : Prop :=
  ∀ (A : Around) (s : Shared) (B : Addr → Prop) (as : List AV) (vs : List Value) (own : Option (Nat × List AV)) (oa : Option Addr) (c : AV) (own' : Option (Nat × List AV)), Room n A → GSt G B s.heap → (∀ q ∈ cl, B q.2 ∧ ¬ G.Tab q.2 ∧ ∃ v, s.heap.IsCell q.2 v) → CellsHold s.heap B cl cs cv → OwnOk s.heap B cl fd own oa → (∀ D, oa = some D → ¬ G.Tab D) → VRs s.heap B as vs → K own as = some (c, own') →
    wpAny G.M A (call (.ref f) vs) (fun v s' => KpO G p oa s s' ∧ VR s'.heap B c v ∧ OwnOk s'.heap B cl fd own' oa) Nay s

structure FnChkX (fd : FD) (ps cs : List PySem.Str) (cl : List (PySem.Str × Addr)) : Prop where
  pre : fd.names.take (ps.length + cs.length) = ps ++ cs
  nodup : ps.Nodup
  kinds : ∀ x ∈ ps, fd.scope.names.lookup x = some .local
  free : ∀ x ∈ cs, fd.scope.names.lookup x = some .free
  lcell : ∀ x ∈ fd.scope.names, x.2 ≠ .cell
  kind : fd.scope.kind = .function
  co : fd.scope.isCoroutine = false
  gen : fd.scope.isGenerator = false
  clo : fd.clo = cl
  code : fd.code = none
  qual : fd.qual = none
structure ClosOk (cl : List (PySem.Str × Addr)) : Prop where
  inj : ∀ x y c, cl.lookup x = some c → cl.lookup y = some c → x = y
  mem : ∀ q ∈ cl, cl.lookup q.1 = some q.2

theorem lookup_nodupV {x : PySem.Str} {v : Value} : ∀ {l : List (PySem.Str × Value)}, (l.map Prod.fst).Nodup → (x, v) ∈ l → l.lookup x = some v
  | (y, d) :: r, hn, h => by
    rw [List.map_cons, List.nodup_cons] at hn
    rw [List.lookup_cons]
    rcases List.mem_cons.mp h with q | q
    · cases q; simp
    · have : (x == y) = false := by
        cases e : x == y with
        | false => rfl
        | true => exact absurd (List.mem_map.mpr ⟨_, q, rfl⟩) (beq_iff_eq.mp e ▸ hn.1)
      rw [this]
      exact lookup_nodupV hn.2 q
section
variable {G : GC} {fd : FD} {p : Bool} {n : Nat}

noncomputable def XX (B : Addr → Prop) (cl : List (PySem.Str × Addr)) (oa : Option Addr) (b : Addr) : Prop := B b ∧ (∀ q ∈ cl, q.2 ≠ b) ∧ oa ≠ some b
variable {s : Shared} {B : Addr → Prop} {env : Env} {cl : List (PySem.Str × Addr)} {own : Option (Nat × List AV)} {oa : Option Addr} {as cv : List AV} {ps cs : List PySem.Str} {vs : List Value}
theorem XX.up {b : Addr} (q : B b) (eC : env.cells = cl) {oa' : Option Addr} (ho : oa = some b → oa' = some b) : Bset env oa' (XX B cl oa) b := by
  refine (Classical.em (∃ q ∈ cl, q.2 = b)).elim (fun ⟨c, hc, e⟩ => .inr (.inl ⟨c, eC ▸ hc, e⟩)) fun h1 => ?_
  exact (Classical.em (oa = some b)).elim (fun h2 => .inr (.inr (.inl (ho h2)))) fun h2 => .inr (.inr (.inr ⟨q, fun c hc e => h1 ⟨c, hc, e⟩, h2⟩))
theorem XX.old {b : Addr} {o : Obj} (hB : ∀ q ∈ cl, B q.2 ∧ ¬ G.Tab q.2 ∧ ∃ v, s.heap.IsCell q.2 v) (hO : OwnOk s.heap B cl fd own oa) (eL : env.locals = s.heap.objs.size) (eC : env.cells = cl) (e : s.heap.get? b = some o) (q : Bset env oa (XX B cl oa) b) : B b := by
  rcases q with q | ⟨c, hc, q⟩ | q | q
  · exact absurd (q.trans eL) fun q => Nat.lt_irrefl _ (q ▸ Heap.lt_size e)
  · exact q ▸ (hB c (eC ▸ hc)).1
  · subst q; exact hO.live.1
  · exact q.1
theorem St.entryX {h' : Heap} (S : GSt G B s.heap) (hB : ∀ q ∈ cl, B q.2 ∧ ¬ G.Tab q.2 ∧ ∃ v, s.heap.IsCell q.2 v) (hC : CellsHold s.heap B cl cs cv) (hO : OwnOk s.heap B cl fd own oa) (hoT : ∀ D, oa = some D → ¬ G.Tab D) (hv : VRs s.heap B as vs)
    (chk : FnChkX fd ps cs cl) (hcl : ClosOk cl) (hown : ∀ x c, cl.lookup x = some c → fd.scope.names.lookup x = some .free) (hlen : as.length = ps.length) (hlenc : cv.length = cs.length) (e1 : env.scope = fd.scope) (e2 : env.globals = mainGlobals) (e3 : env.builtins = builtinsNs) (eL : env.locals = s.heap.objs.size) (eC : env.cells = cl)
    (noC : ∀ x, env.kindOf x ≠ some .cell) (hns : h'.Ns env.locals fun x => (ps.zip vs).reverse.lookup x) (hkeep : ∀ b o, s.heap.get? b = some o → h'.get? b = some o) (k : Nat) : St G fd env oa (XX B cl oa) ⟨(as ++ cv).map some ++ List.replicate k none, own⟩ h' := by
  have hko : ∀ x, env.kindOf x = fd.scope.names.lookup x := fun x => by unfold Env.kindOf; rw [e1]
  have bOld : ∀ b o, s.heap.get? b = some o → Bset env oa (XX B cl oa) b → B b := fun b o e q => XX.old hB hO eL eC e q
  have free : ∀ {x : PySem.Str} {c : Addr} {v : Value}, env.kindOf x = some .free → cl.lookup x = some c → s.heap.IsCell c (some v) → VarIs env (fun x => (ps.zip vs).reverse.lookup x) h' x v := fun hk h2 h3 =>
    .inr ⟨.inr hk, _, by rw [eC]; exact h2, isCell_at h3 fun o e => hkeep _ _ e⟩
  refine ⟨⟨e1, e2, e3, chk.kind, fun x hx => absurd (by rw [hko]; exact hx) (noC x), fun x c h => by rw [eC, ← chk.clo]; exact h, (fun c h => by rw [chk.code] at h; cases h), (fun c h => by rw [chk.qual] at h; cases h)⟩,
    fun b t => (S.tabOk b t).mono (fun o e => hkeep _ _ e) (fun c o e _ _ => hkeep _ _ e) bOld, fun b o e => ⟨hkeep _ _ (S.base b o e).1, fun q => (S.base b o e).2 (bOld b o (S.base b o e).1 q)⟩,
    fun b t => ⟨S.tab b t, fun c hc q => (hB c hc).2.1 (q ▸ t), fun q => hoT b q t⟩, fun b q => ?_, fun q => (S.live _ q.1).elim fun o e => Nat.lt_irrefl _ (eL ▸ Heap.lt_size e), fun c hc q => q.2.1 c (eC ▸ hc) rfl, fun a ha q => q.2.2 ha, fun c hc => ?_, fun x y c hx hy => hcl.inj x y c (eC ▸ hx) (eC ▸ hy), _, hns, fun i x a hx ha => ?_, fun i l hl => ?_⟩
  · rcases q with q | ⟨c, hc, q⟩ | q | q
    · obtain ⟨o, _, _, ho, _⟩ := hns; exact ⟨o, q ▸ ho⟩
    · obtain ⟨v, o, ho, _⟩ := (hB c (eC ▸ hc)).2.2
      exact ⟨o, q ▸ hkeep _ _ ho⟩
    · subst q
      exact hO.live.2.elim fun o ho => ⟨o, hkeep _ _ ho⟩
    · exact (S.live b q.1).elim fun o ho => ⟨o, hkeep _ _ ho⟩
  · obtain ⟨v, hv⟩ := (hB c (eC ▸ hc)).2.2
    exact ⟨v, isCell_at hv fun o e => hkeep _ _ e⟩
  · have hai : (as ++ cv)[i]? = some a := start_get ha
    have hpre : (ps ++ cs)[i]? = some x := take_at (by rw [List.length_append]; exact chk.pre) (by
      have := (List.getElem?_eq_some_iff.mp hai).1
      rwa [List.length_append, hlen, hlenc, ← List.length_append] at this) hx
    refine (Nat.lt_or_ge i as.length).elim (fun hlt => ?_) fun hge => ?_
    · rw [List.getElem?_append_left hlt] at hai
      rw [List.getElem?_append_left (hlen ▸ hlt)] at hpre
      obtain ⟨v, hvi, hr⟩ := hv.get hai
      obtain ⟨hnd, hmem⟩ := zip_at chk.nodup (Nat.le_of_eq (hlen.symm.trans hv.length)) hpre hvi
      exact ⟨v, .inl ⟨(hko x).trans (chk.kinds x (List.mem_of_getElem? hpre)), lookup_nodupV (by rw [List.map_reverse]; exact (List.reverse_perm _).symm.nodup hnd) (List.mem_reverse.mpr hmem)⟩, hr.mono (fun b o e _ => hkeep b o e) bOld⟩
    · rw [List.getElem?_append_right hge] at hai
      rw [List.getElem?_append_right (hlen ▸ hge), ← hlen] at hpre
      obtain ⟨x', c, v, h1, h2, h3, h4⟩ := hC.get hai
      obtain rfl := Option.some.inj (hpre.symm.trans h1)
      exact ⟨v, free ((hko x).trans (chk.free x (List.mem_of_getElem? hpre))) h2 h3, h4.mono (fun b o e _ => hkeep b o e) bOld⟩
  · obtain rfl : own = some (i, l) := hl
    obtain ⟨D, hD, x, c, ws, h1, h2, h3, h4, h5, _⟩ := hO.inv
    exact ⟨D, x, ws, hD, h1, free ((hko x).trans (hown x c h2)) h2 h3, plain_at h4 fun o e => hkeep _ _ e, h5.mono (fun b o e _ => hkeep b o e) bOld⟩
theorem cell_one {h : Heap} {c D a : Addr} (h1 : h.IsCell c (some (.ref D))) (h2 : h.IsCell c (some (.ref a))) : a = D := by
  obtain ⟨o1, p1, p2⟩ := h1
  obtain ⟨o2, q1, q2⟩ := h2
  obtain rfl := Option.some.inj (p1.symm.trans q1)
  rw [p2] at q2
  injection q2 with q2
  injection q2 with q2
  injection q2 with q2
  exact q2.symm
theorem own_back {s₂ : Shared} {X : Addr → Prop} {σ' : AS} {oa' : Option Addr} {own' : Option (Nat × List AV)} (S₂ : St G fd env oa' X σ' s₂.heap) (hB : ∀ q ∈ cl, B q.2 ∧ ¬ G.Tab q.2 ∧ ∃ v, s.heap.IsCell q.2 v) (hO : OwnOk s.heap B cl fd own oa)
    (hown : ∀ x c, cl.lookup x = some c → env.kindOf x = some .free) (eC : env.cells = cl) (K : KpO G p oa s s₂) (bUp : (∀ D, oa = some D → oa' = some D) → ∀ b, B b → Bset env oa' X b) (how : ownBack own σ'.own = some own') : (∀ D, oa = some D → oa' = some D) ∧ OwnOk s₂.heap B cl fd own' oa := by
  obtain ⟨e, rfl⟩ := ownBack_inv how
  cases own with
  | none =>
    obtain rfl := hO.of_none
    cases ho : σ'.own with
    | none => exact ⟨fun D h => no h, trivial⟩
    | some q => rw [ho] at e; exact no e
  | some jl =>
    obtain ⟨D, rfl, x, c, ws, h1, h2, h3, h4, h5, h6⟩ := hO.inv
    cases ho : σ'.own with
    | none => rw [ho] at e; exact no e.symm
    | some q =>
      rw [ho] at e
      obtain ⟨m, hn, -, g2⟩ := S₂.ns
      obtain ⟨a', x', ws', a1, a2, a3, a4, a5⟩ := g2 q.1 q.2 ho
      rw [← Option.some.inj e] at a2
      obtain rfl := Option.some.inj (a2.symm.trans h1)
      have hcD : some D ≠ some c := fun q => cell_not_list h3 (Option.some.inj q ▸ h4)
      have h3' : s₂.heap.IsCell c (some (.ref D)) := isCell_at h3 fun o e => K.heap c o e hcD (.inr (hB (x', c) (mem_of_lookup h2)).2.1)
      rcases a3 with ⟨q, -⟩ | ⟨-, c', hc', hi'⟩
      · exact NameKind.noConfusion (Option.some.inj ((hown x' c h2).symm.trans q))
      · obtain rfl := Option.some.inj ((eC ▸ hc').symm.trans h2)
        obtain rfl := cell_one h3' hi'
        have up : ∀ D, some a' = some D → oa' = some D := fun D h => h ▸ a1
        exact ⟨up, x', c', ws', Option.some.inj e ▸ h1, h2, h3', a4, a5.mono (fun _ _ e _ => e) fun b _ _ q => bUp up b q, h6⟩
theorem fn_okX {f : Addr} {fdat : FuncData} {body : List Stmt} {ps cs : List PySem.Str} {cl : List (PySem.Str × Addr)} {F : AS → Option (Fl × AS)} {cv : List AV} (hG : G.Ok)
    (hat : ∃ o, G.st f o ∧ o.data = .func fdat) (hcode : ∃ c o vs t, fdat.code = .ref c ∧ G.st c o ∧ o.data = .fields vs ∧ vs[1]? = some (.str fdat.qualname t)) (hgl : fdat.globals = mainGlobals) (hbl : fdat.builtins = builtinsNs) (hclo : fdat.closure = cl)
    (hbody : fdat.body = .stmts body) (hsc : fdat.scope = fd.scope) (chk : FnChkX fd ps cs cl) (hcl : ClosOk cl) (hown : ∀ x c, cl.lookup x = some c → fd.scope.names.lookup x = some .free)
    (hbind : ∀ vs : List Value, vs.length = ps.length → bindArgs fdat ⟨vs, []⟩ = pure (ps.zip vs)) (hb : SS G fd p n body F) : CallX G p (n + 1) fd f cl cs cv (KX fd ps cs F cv) := by
  intro A s B as vs own oa c own' R S hB hC hO hoT hv hk
  unfold KX at hk
  split at hk
  case isFalse => cases hk
  case isTrue hlen =>
  obtain ⟨hlen, hlenc⟩ := hlen
  obtain ⟨⟨fl, σ'⟩, hF, hk⟩ := bind_some hk
  have hvl := hv.length
  obtain ⟨o, ho, hd⟩ := hat
  have up : ∀ b o, G.st b o → s.heap.get? b = some o := fun b o e => (S.base b o e).1
  have hbs : ∀ x ∈ ps.zip vs, fdat.scope.names.lookup x.1 = some .local := fun x hx => by
    rw [hsc]; exact chk.kinds x.1 (List.of_mem_zip hx).1
  refine wpAny_call (codeAny_call_def (body := body) (binds := ps.zip vs) R.lt (up _ _ ho) hd (hG.top.nolimit.keeps fun b o e => up b o (hG.sub b o e)) (let ⟨c, o, vs, t, a1, a2, a3, a4⟩ := hcode; ⟨c, o, vs, t, a1, up _ _ a2, a3, a4⟩) hbody (.of_eq (hbind vs (hvl.symm.trans hlen)))
    (by rw [hsc]; exact chk.lcell) hbs (fun h' hns hkeep => ?_) (by rw [hsc]; exact chk.co) (by rw [hsc]; exact chk.gen) (by rw [hsc]; exact chk.kind))
  generalize hE : callEnv fdat s.heap.objs.size f = env
  have e1 : env.scope = fd.scope := by rw [← hE]; exact hsc
  have e2 : env.globals = mainGlobals := by rw [← hE]; exact hgl
  have e3 : env.builtins = builtinsNs := by rw [← hE]; exact hbl
  have eL : env.locals = s.heap.objs.size := by rw [← hE]; rfl
  have eC : env.cells = cl := by rw [← hE, ← hclo]; rfl
  have hko : ∀ x, env.kindOf x = fd.scope.names.lookup x := fun x => by unfold Env.kindOf; rw [e1]
  have nL : ∀ b o, s.heap.get? b = some o → b ≠ env.locals := fun b o e q => Nat.lt_irrefl _ (q.trans eL ▸ Heap.lt_size e)
  have noC : ∀ x, env.kindOf x ≠ some .cell := fun x q => chk.lcell _ (kind_mem ((hko x).symm.trans q)) rfl
  have hkeep' : ∀ b o, s.heap.get? b = some o → h'.get? b = some o := hkeep
  have St₁ := St.entryX S hB hC hO hoT hv chk hcl hown hlen hlenc e1 e2 e3 eL eC noC (by rw [eL]; exact hns) hkeep' (fd.names.length - (as.length + cv.length))
  refine wpN (hb.run env (A.deeper env) { s with heap := h', toks := s.toks + (ps.zip vs).length } oa _ _ fl σ' R.deeper St₁ hF) fun w s₂ q => ?_
  obtain ⟨oa', k₂, S₂, f₂⟩ := q
  have K : KpO G p oa s s₂ := by
    refine ⟨k₂.ex, fun b o e h t => k₂.heap b o (hkeep' _ _ e) (nL b o e) (.inr noC) h t, k₂.gens, k₂.bare, fun P o t e => ?_, fun b o e => k₂.there b o (hkeep' _ _ e)⟩
    exact (k₂.tabs P o t (hkeep' _ _ e)).imp id fun ⟨h1, c, h2, h3, h4, h5, _⟩ => ⟨h1, c, h2, h3, new_back (G := G) (s := s) (Kp.of_keep (p := true) (tk := 0) hkeep') h4, h5⟩
  obtain ⟨a, ha, hk⟩ := bind_some hk
  obtain ⟨ow, how, hk⟩ := bind_some hk
  cases hk
  have key := own_back S₂ hB hO (fun x c h => (hko x).trans (hown x c h)) eC K (fun ho b q => XX.up q eC (ho b)) how
  refine ⟨K, ?_, key.2⟩
  cases f₂ with
  | next => cases ha; exact .none
  | brk => cases ha
  | cont => cases ha
  | ret r => cases ha; exact r.mono (fun b o e _ => e) fun b o _ q => XX.up q eC (key.1 b)
end
end Mine
namespace Mine
noncomputable def isFn (f : Addr) : AV → Option Unit
  | .fn g => if g = f then some () else none
  | _ => none
theorem isFn_inv {f : Addr} {a : AV} {u : Unit} (h : isFn f a = some u) : a = .fn f := by
  cases a <;> first | exact no h | skip
  rename_i g
  have h : (if g = f then some () else Option.none) = some u := h
  by_cases e : g = f
  · rw [e]
  · rw [if_neg e] at h; exact no h
noncomputable def isNone : AV → Option Unit
  | .none => some ()
  | _ => none
noncomputable def capVals : List Nat → AS → Option (List AV)
  | [], _ => some []
  | j :: js, σ => (gv j σ).bind fun a => (capVals js σ).bind fun l => some (a :: l)
inductive CapAt (fd : FD) (cl : List (PySem.Str × Addr)) : List Nat → List PySem.Str → Prop
  | nil : CapAt fd cl [] []
  | cons {j : Nat} {y : PySem.Str} {c : Addr} {js : List Nat} {cs : List PySem.Str} : fd.names[j]? = some y → (fd.scope.names.lookup y = some .cell ∨ fd.scope.names.lookup y = some .free) → cl.lookup y = some c → CapAt fd cl js cs → CapAt fd cl (j :: js) (y :: cs)
section
variable {G : GC} {fd : FD} {p : Bool} {n : Nat}
theorem CapAt.hold {env : Env} {oa : Option Addr} {X : Addr → Prop} {σ : AS} {h : Heap} {cl : List (PySem.Str × Addr)} (hsub : ∀ y c, cl.lookup y = some c → fd.clo.lookup y = some c) (S : St G fd env oa X σ h) :
    ∀ {js : List Nat} {cs : List PySem.Str} {cv : List AV}, CapAt fd cl js cs → capVals js σ = some cv → CellsHold h (Bset env oa X) cl cs cv
  | _, _, _, .nil, e => by cases e; exact .nil
  | _, _, _, .cons (j := j) (y := y) (c := c) h1 h2 h3 r, e => by
    obtain ⟨a, ha, e⟩ := bind_some e
    obtain ⟨l, hl, e⟩ := bind_some e
    cases e
    obtain ⟨m, hn, g1, -⟩ := S.ns
    obtain ⟨v, hv, hr⟩ := g1 j y a h1 (gv_some ha)
    have hk : env.kindOf y = fd.scope.names.lookup y := by unfold Env.kindOf; rw [S.eo.scope]
    rcases hv with ⟨q, -⟩ | ⟨-, c', hc', hi'⟩
    · rw [hk] at q
      rcases h2 with h2 | h2 <;> rw [h2] at q <;> cases q
    · have := S.eo.clo y c (hsub y c h3)
      rw [this] at hc'
      cases hc'
      exact .cons h3 hi' hr (CapAt.hold hsub S r hl)
theorem clos_at {env : Env} {oa : Option Addr} {X : Addr → Prop} {σ : AS} {h : Heap} {cl : List (PySem.Str × Addr)} (hcl : ClosOk cl) (hsub : ∀ y c, cl.lookup y = some c → fd.clo.lookup y = some c) (S : St G fd env oa X σ h) :
    ∀ q ∈ cl, Bset env oa X q.2 ∧ ¬ G.Tab q.2 ∧ ∃ v, h.IsCell q.2 v := fun q hq => by
  have := mem_of_lookup (S.eo.clo _ _ (hsub _ _ (hcl.mem q hq)))
  exact ⟨.inr (.inl ⟨_, this, rfl⟩), fun t => S.cellX _ this (S.tab _ t), S.cells _ this⟩

theorem SE.callv {x : PySem.Str} {i : Nat} {f : Addr} {fdc : FD} {np pos : Pos} {e : Expr} {rest : List Expr} {g : AS → Option (List AV)} {cl : List (PySem.Str × Addr)} {cs : List PySem.Str} {js : List Nat} {K : List AV → Option (Nat × List AV) → List AV → Option (AV × Option (Nat × List AV))}
    (hi : fd.names[i]? = some x) (hd : (x == ("__debug__" : PySem.Str)) = false) (hc : (x == ("__classdict__" : PySem.Str)) = false) (hk : KeepOk G (.ref f)) (ha : SEs G fd p n (e :: rest) g)
    (hcl : ClosOk cl) (hsub : ∀ y c, cl.lookup y = some c → fd.clo.lookup y = some c) (hcap : CapAt fd cl js cs) (hcall : ∀ cv, CallX G p n fdc f cl cs cv (K cv))
    (he : ∀ env, starEach (e :: rest) env = (false, eval e env) :: starEach rest env := by intro _; rfl) (hplain : ∀ env, (backTo pos (starEach rest env)).any (·.1) = false := by intro _; rfl) :
    SE G fd p n (.Call (.Name x np) (e :: rest) [] pos) (fun σ => (gv i σ).bind fun a => (isFn f a).bind fun _ => (capVals js σ).bind fun cv => (g σ).bind fun as => (K cv Option.none as).bind fun r => some r.1) := by
  refine ⟨?_⟩
  intro env A s oa X σ c R S hf
  obtain ⟨a, ha', hf⟩ := bind_some hf
  obtain ⟨u, hu, hf⟩ := bind_some hf
  obtain ⟨cv, hcv, hf⟩ := bind_some hf
  obtain ⟨as, has, hf⟩ := bind_some hf
  obtain ⟨r, hr, hf⟩ := bind_some hf
  cases hf
  obtain ⟨m, hn, g1, -⟩ := S.ns
  obtain ⟨v, hv, hvr⟩ := g1 i x a hi (gv_some ha')
  cases isFn_inv hu
  cases hvr.fn_inv
  refine wpAny_Call_NameR (wp_var S.eo hn hv hd hc ?_)
  refine callWith_ok hk ?_ ?_
  · rw [he]
    show (false || (backTo pos (starEach rest env)).any (·.1)) = false
    rw [hplain]; rfl
  · have h1 := ha.run env A s oa X σ as pos R S has
    rw [he] at h1 ⊢
    refine evalArgs_plain (wpN h1 fun vs s₁ q₁ => ?_)
    have S₁ := S.kp q₁.1
    refine ⟨fun b o e => (S₁.base b o e).1, wpN (hcall cv A s₁ (Bset env oa X) as vs Option.none Option.none r.1 r.2 R S₁.g (clos_at hcl hsub S₁) (hcap.hold hsub S₁ hcv) trivial (fun D h => nomatch h) q₁.2 hr) fun v s₂ q₂ => ?_⟩
    exact ⟨q₁.1.trans ⟨q₂.1.ex, fun b o e t => q₂.1.heap b o e (fun h => nomatch h) t, q₂.1.gens, q₂.1.bare, q₂.1.tabs⟩, q₂.2.1⟩

noncomputable def callMF (i : Nat) (f : Addr) (js : List Nat) (jA jc : Nat) (g : AS → Option (List AV)) (K : List AV → Option (Nat × List AV) → List AV → Option (AV × Option (Nat × List AV))) (σ : AS) : Option (Fl × AS) :=
  (gv i σ).bind fun a => (isFn f a).bind fun _ => (capVals js σ).bind fun cv => (g σ).bind fun as => match σ.own with
    | some (j, l) => if j = jA then (K cv (some (jc, l)) as).bind fun r => (isNone r.1).bind fun _ => match r.2 with
      | some (j', l') => if j' = jc then some (.next, ⟨σ.loc, some (j, l')⟩) else none
      | none => none
      else none
    | none => none
theorem callMF_inv {i : Nat} {f : Addr} {js : List Nat} {jA jc : Nat} {g : AS → Option (List AV)} {K : List AV → Option (Nat × List AV) → List AV → Option (AV × Option (Nat × List AV))} {σ σ' : AS} {fl : Fl} (h : callMF i f js jA jc g K σ = some (fl, σ')) :
    ∃ cv as l l', σ.loc[i]? = some (some (.fn f)) ∧ capVals js σ = some cv ∧ g σ = some as ∧ σ.own = some (jA, l) ∧ K cv (some (jc, l)) as = some (.none, some (jc, l')) ∧ fl = .next ∧ σ' = ⟨σ.loc, some (jA, l')⟩ := by
  obtain ⟨a, ha', f1⟩ := bind_some h
  obtain ⟨u, hu, f2⟩ := bind_some f1
  obtain ⟨cv, hcv, f3⟩ := bind_some f2
  obtain ⟨as, has, f4⟩ := bind_some f3
  clear h f1 f2 f3
  cases isFn_inv hu
  cases ho : σ.own with
  | none => rw [ho] at f4; exact no f4
  | some jl =>
    obtain ⟨j, l⟩ := jl
    rw [ho] at f4
    replace f4 : (if j = jA then (K cv (some (jc, l)) as).bind fun r => (isNone r.1).bind fun _ => (match r.2 with
      | some (j', l') => if j' = jc then some (Fl.next, (⟨σ.loc, some (j, l')⟩ : AS)) else Option.none
      | Option.none => Option.none) else Option.none) = some (fl, σ') := f4
    by_cases ej : j = jA
    · subst ej
      rw [if_pos rfl] at f4
      obtain ⟨⟨r, ow⟩, hr, f5⟩ := bind_some f4
      obtain ⟨u2, hu2, f6⟩ := bind_some f5
      cases ow with
      | none => exact no f6
      | some q =>
        obtain ⟨j', l'⟩ := q
        replace f6 : (if j' = jc then some (Fl.next, (⟨σ.loc, some (j, l')⟩ : AS)) else Option.none) = some (fl, σ') := f6
        by_cases ej' : j' = jc
        · subst ej'
          rw [if_pos rfl] at f6
          cases f6
          have hrn : r = .none := by cases r <;> first | rfl | exact no hu2
          subst hrn
          exact ⟨cv, as, l, l', gv_some ha', hcv, has, rfl, hr, rfl, rfl⟩
        · rw [if_neg ej'] at f6; exact no f6
    · rw [if_neg ej] at f4; exact no f4
theorem own_cell {fdc : FD} {env : Env} {D : Addr} {X : Addr → Prop} {σ : AS} {h : Heap} {cl : List (PySem.Str × Addr)} {jA jc : Nat} {l : List AV} {xA : PySem.Str} (hsub : ∀ y c, cl.lookup y = some c → fd.clo.lookup y = some c) (S : St G fd env (some D) X σ h) (ho : σ.own = some (jA, l)) (hA : CapAt fd cl [jA] [xA]) (hAc : fdc.names[jc]? = some xA) : OwnOk h (Bset env (some D) X) cl fdc (some (jc, l)) (some D) := by
  obtain ⟨m, hn, -, g2⟩ := S.ns
  obtain ⟨D', xo, vs, eD, e2, eV, e5, e6⟩ := g2 _ _ ho
  cases eD
  cases hA with
  | cons h1 h2 h3 _ =>
    rename_i c
    have exo : xo = xA := Option.some.inj (e2.symm.trans h1)
    subst exo
    have hkk : env.kindOf xo = fd.scope.names.lookup xo := by unfold Env.kindOf; rw [S.eo.scope]
    rcases eV with ⟨q, -⟩ | ⟨-, c', hc', hi'⟩
    · rw [hkk] at q
      rcases h2 with h2 | h2 <;> rw [h2] at q <;> cases q
    · have := S.eo.clo xo _ (hsub xo _ h3)
      rw [this] at hc'
      cases hc'
      exact ⟨xo, _, vs, hAc, h3, hi', e5, e6, .inr (.inr (.inl rfl))⟩
theorem S1.callM {x xA : PySem.Str} {i jA jc : Nat} {f : Addr} {fdc : FD} {np cpos pos : Pos} {e : Expr} {rest : List Expr} {g : AS → Option (List AV)} {cl : List (PySem.Str × Addr)} {cs : List PySem.Str} {js : List Nat} {K : List AV → Option (Nat × List AV) → List AV → Option (AV × Option (Nat × List AV))}
    (hi : fd.names[i]? = some x) (hd : (x == ("__debug__" : PySem.Str)) = false) (hc : (x == ("__classdict__" : PySem.Str)) = false) (hk : KeepOk G (.ref f)) (ha : SEs G fd true n (e :: rest) g)
    (hcl : ClosOk cl) (hsub : ∀ y c, cl.lookup y = some c → fd.clo.lookup y = some c) (hcap : CapAt fd cl js cs) (hcall : ∀ cv, CallX G p n fdc f cl cs cv (K cv))
    (hA : CapAt fd cl [jA] [xA]) (hAc : fdc.names[jc]? = some xA)
    (he : ∀ env, starEach (e :: rest) env = (false, eval e env) :: starEach rest env := by intro _; rfl) (hplain : ∀ env, (backTo cpos (starEach rest env)).any (·.1) = false := by intro _; rfl)
    (hs : ∀ env, swapsWith (.Call (.Name x np) (e :: rest) [] cpos) Option.none pos.line env = pure false := by intro _; rfl) :
    S1 G fd p n (.Expr (.Call (.Name x np) (e :: rest) [] cpos) pos) (callMF i f js jA jc g K) := by
  refine ⟨?_⟩
  intro env A s oa X σ fl σ' R S hf
  obtain ⟨cv, as, l, l', hv0, hcv, has, ho, hr, rfl, rfl⟩ := callMF_inv hf
  obtain ⟨m, hn, g1, g2⟩ := S.ns
  obtain ⟨v, hv, hvr⟩ := g1 i x _ hi hv0
  cases hvr.fn_inv
  obtain ⟨D, xo, vs0, rfl, e2, -⟩ := g2 _ _ ho
  refine wpAny_Expr (wpAny_Call_NameR (wp_var S.eo hn hv hd hc ?_)) (not_interactive S.eo) (hs env)
  refine callWith_ok hk ?_ ?_
  · rw [he]
    show (false || (backTo cpos (starEach rest env)).any (·.1)) = false
    rw [hplain]; rfl
  · have h1 := ha.run env A s (some D) X σ as cpos R S has
    rw [he] at h1 ⊢
    refine evalArgs_plain (wpN h1 fun vs s₁ q₁ => ?_)
    have S₁ := S.kp q₁.1
    refine ⟨fun b o e => (S₁.base b o e).1, ?_⟩
    have hown : OwnOk s₁.heap (Bset env (some D) X) cl fdc (some (jc, l)) (some D) := own_cell hsub S₁ ho hA hAc
    refine wpN (hcall cv A s₁ (Bset env (some D) X) as vs (some (jc, l)) (some D) .none (some (jc, l')) R S₁.g (clos_at hcl hsub S₁) (hcap.hold hsub S₁ hcv) hown (fun D' h t => S.oaX D' h (S.tab _ t)) q₁.2 hr) fun v s₂ q₂ => ?_
    obtain ⟨k₂, r₂, x3, c3, vs3, -, -, -, p4, p5, -⟩ := q₂
    cases r₂.none_inv
    obtain ⟨K₂, S₂⟩ := S₁.chOwn ho k₂ p4 p5
    exact ⟨some D, (Ks.of_pure q₁.1).trans K₂, S₂, .next⟩
end
end Mine
namespace Mine
theorem mapSeq_setAt (items : Array Value) (cnt j : Nat) (v : Value) :
    Obj.mapSeq (·.setIfInBounds j v) { cls := .type "list", data := .seq items cnt } = { cls := .type "list", data := .seq (items.setIfInBounds j v) cnt } := by
  simp [Obj.mapSeq]
theorem setItem_plain {prog : Program} {w : World} {A : Around} {E : Value → Shared → Prop} {s : Shared} {l : Addr} {items : Array Value} {k : Int} {t : Tok} {v : Value} {Q : Unit → Shared → Prop} (hl : s.heap.PlainList l items)
    (h0 : 0 ≤ k) (hfit : k < 2 ^ 63) (hn : k < items.size)
    (hQ : ∀ h', h'.PlainList l (items.setIfInBounds k.toNat v) → Heap.SameBut l s.heap h' → Q () { s with heap := h' }) :
    wpAny (model prog w) A (setItem (.ref l) (.int k t) v) Q E s := by
  obtain ⟨cnt, ho⟩ := hl
  have hl : s.heap.IsList l items := ⟨_, ho, rfl, cnt, rfl⟩
  have hd : ({ cls := .type "list", data := .seq items cnt } : Obj).data = .seq items cnt := rfl
  unfold setItem
  try with_reducible refine wpAny_holding ?_
  first | refine wpAny_bind (wpAny_pure ?_) | skip
  refine wpAny_bind (wpAny_sequenceKey hl.typeIs (by decide) ?_)
  refine wpAny_bind (wpAny_callSpecial?_slot (name := Str.ofString "__setitem__") hl.typeIs slot_list_setitem
    (wpAny_call_entry slot_list_setitem hl.typeIs entry_list_setitem ?_ (args_list_setitem _ _ _)))
  show wpAny _ _ (Builtin.List.listSubscript? (.int k t) >>= _) _ _ s
  refine wpAny_bind (wpAny_listSubscript_int (fitsIndex_of h0 hfit) ?_)
  clear hfit
  obtain ⟨j, rfl⟩ := Int.eq_ofNat_of_zero_le h0
  have hj : j < items.size := by omega
  have hx' : items[j]? = some items[j] := Array.getElem?_eq_getElem hj
  show wpAny _ _ ((seqItemAt l j >>= fun r => pure (r.map (j, ·))) >>= _) _ _ s
  refine wpAny_bind (wpAny_bind (wpAny_seqItemAt ho hd (wpAny_pure ?_)))
  rw [hx']
  show wpAny _ _ (setSeqItemAt l j v >>= _) _ _ s
  have hfin : (s.heap.update l (Obj.mapSeq (·.setIfInBounds j v))).PlainList l (items.setIfInBounds j v) :=
    ⟨cnt, by rw [Heap.get?_update_self _ ho (by rw [mapSeq_setAt]; rfl), mapSeq_setAt]⟩
  refine wpAny_bind (wpAny_setSeqItemAt ho hd ?_)
  first
    | exact wpAny_bind (wpAny_pure (wpAny_pure ⟨.none, rfl, wpAny_pure (hQ _ hfin (Heap.SameBut.update ..))⟩))
    | exact wpAny_pure ⟨.none, rfl, wpAny_pure (hQ _ hfin (Heap.SameBut.update ..))⟩
theorem wpAny_Assign_Sub {M : Model} {A : Around} {E : Value → Shared → Prop} {s : Shared} {env : Env} {o i value : Expr} {pos' pos : Pos} {Q : Flow → Shared → Prop} (hs : swapsWith value (some (.Subscript o i pos')) pos.line env = pure false)
    (h : wpAny M A (eval value env) (fun v s₁ => wpAny M A (eval o env) (fun ov s₂ => wpAny M A (eval i env) (fun iv s₃ => wpAny M A (setItem ov iv v) (fun _ s₄ => Q .next s₄) E s₃) E s₂) E s₁) E s) :
    wpAny M A (exec (.Assign [.Subscript o i pos'] value pos) env) Q E s := by
  rw [exec_Assign_Subscript o i pos' value pos hs]
  refine wpAny_bind (wpAny_standAt (wpAny_bind (wpAny_mono h (fun v s₁ h₁ => ?_) fun _ _ e => e)))
  rw [assign_Subscript]
  refine wpAny_bind (wpAny_bind (wpAny_holding (wpAny_mono h₁ (fun ov s₂ h₂ => wpAny_bind (wpAny_holding (wpAny_mono h₂ (fun iv s₃ h₃ => wpAny_bind (wpAny_standAt (wpAny_bind (wpAny_holding (wpAny_mono h₃ (fun _ s₄ h₄ => ?_) fun _ _ e => e))))) fun _ _ e => e))) fun _ _ e => e)))
  exact wpAny_release (wpAny_pure h₄)

section
variable {G : GC} {fd : FD} {p : Bool} {n : Nat}
noncomputable def setF (j : Nat) (fi f : AS → Option AV) (σ : AS) : Option (Fl × AS) := (f σ).bind fun a => (fi σ).bind fun k => match σ.own, k with
  | some (j', l), .int k => if j' = j ∧ 0 ≤ k ∧ k < l.length ∧ l.length ≤ 100000 then some (.next, ⟨σ.loc, some (j, l.set k.toNat a)⟩) else none
  | _, _ => none
theorem setF_inv {j : Nat} {fi f : AS → Option AV} {σ σ' : AS} {fl : Fl} (h : setF j fi f σ = some (fl, σ')) : ∃ l a k, σ.own = some (j, l) ∧ f σ = some a ∧ fi σ = some (.int k) ∧ 0 ≤ k ∧ k < l.length ∧ l.length ≤ 100000 ∧ fl = .next ∧ σ' = ⟨σ.loc, some (j, l.set k.toNat a)⟩ := by
  obtain ⟨a, ha, f1⟩ := bind_some h
  obtain ⟨k, hk, f2⟩ := bind_some f1
  cases ho : σ.own with
  | none => rw [ho] at f2; exact no f2
  | some jl =>
    obtain ⟨j', l⟩ := jl
    rw [ho] at f2
    cases k <;> first | exact no f2 | skip
    rename_i k
    replace f2 : (if j' = j ∧ 0 ≤ k ∧ k < l.length ∧ l.length ≤ 100000 then some (Fl.next, (⟨σ.loc, some (j, l.set k.toNat a)⟩ : AS)) else Option.none) = some (fl, σ') := f2
    by_cases e : j' = j ∧ 0 ≤ k ∧ k < l.length ∧ l.length ≤ 100000
    · rw [if_pos e] at f2
      obtain ⟨rfl, h0, h1, h2⟩ := e
      cases f2
      exact ⟨l, a, k, rfl, ha, hk, h0, h1, h2, rfl, rfl⟩
    · rw [if_neg e] at f2; exact no f2
theorem VRs.set {h : Heap} {B : Addr → Prop} {l : List AV} {vs : List Value} {a : AV} {v : Value} (r : VRs h B l vs) (x : VR h B a v) : ∀ i, VRs h B (l.set i a) (vs.set i v) :=
  r.ind (P := fun l vs => ∀ i, VRs h B (l.set i a) (vs.set i v)) (fun _ => .nil) fun y r ih i => by
    cases i with
    | zero => exact .cons x r
    | succ i => exact .cons y (ih i)
theorem S1.setitem {x : PySem.Str} {j : Nat} {px spos pos : Pos} {ei e : Expr} {fi f : AS → Option AV} (hd : (x == ("__debug__" : PySem.Str)) = false) (hc : (x == ("__classdict__" : PySem.Str)) = false) (hx : fd.names[j]? = some x) (hi : SE G fd true n ei fi) (h : SE G fd p n e f)
    (hs : ∀ env, swapsWith e (some (.Subscript (.Name x px) ei spos)) pos.line env = pure false := by intro _; rfl) :
    S1 G fd p n (.Assign [.Subscript (.Name x px) ei spos] e pos) (setF j fi f) := by
  refine ⟨?_⟩
  intro env A s oa X σ fl σ' R S hf
  obtain ⟨l, a, k, ho, ha, hk, h0, h1, h2, rfl, rfl⟩ := setF_inv hf
  refine wpAny_Assign_Sub (hs env) (wpN (h.run env A s oa X σ a R S ha) fun v s₁ q₁ => ?_)
  have S₁ := S.kp q₁.1
  obtain ⟨m, hn, -, g2⟩ := S₁.ns
  obtain ⟨D, xo, vs, rfl, e2, eV, e5, e6⟩ := g2 _ _ ho
  have exo : xo = x := Option.some.inj (e2.symm.trans hx)
  subst exo
  refine wp_var S.eo hn eV hd hc (wpN (hi.run env A s₁ (some D) X σ (.int k) R S₁ hk) fun iv s₂ q₂ => ?_)
  obtain ⟨k₂, r₂⟩ := q₂
  obtain ⟨t, rfl⟩ := r₂.int_inv
  have S₂ := S₁.kp k₂
  have hl := e6.length
  have t63 : (100000 : Int) < 2 ^ 63 := by decide
  refine setItem_plain (plain_at e5 fun o e => k₂.heap _ o e (.inl rfl)) h0 (by omega) (by simp; omega) fun h' hp hsb => ?_
  have hvs : (vs.toArray.setIfInBounds k.toNat v) = (vs.set k.toNat v).toArray := by simp
  rw [hvs] at hp
  obtain ⟨K₂, S₃⟩ := S₂.chSame (p := p) ho hsb hp ((e6.kp S₁ k₂).set (q₁.2.kp S₁ k₂) _)
  exact ⟨some D, ((Ks.of_kp q₁.1 S).trans (Ks.of_pure k₂)).trans K₂, S₃, .next⟩
end
end Mine
namespace Mine
noncomputable def BM (G : GC) : Prop := ∃ bm ob, G.mg "__builtins__" = some (.ref bm) ∧ bm ≠ builtinsNs ∧ bm ≠ mainGlobals ∧ G.g.get? bm = some ob ∧ ob.cls = .type "module" ∧ ob.dict = some builtinsNs ∧ ob.data = .plain

structure GExt (G G' : GC) (f : Addr) (fdat : FuncData) (scope : Scope) (cl : List (PySem.Str × Addr)) : Prop where
  eq : ∃ st', G' = { G with st := st' }
  sub : ∀ b o, G.st b o → G'.st b o
  fn : ∃ o, G'.st f o ∧ o.data = .func fdat
  code : ∃ c o vs t, fdat.code = .ref c ∧ G'.st c o ∧ o.data = .fields vs ∧ vs[1]? = some (.str fdat.qualname t)
  clos : ClosOk cl
  all : ∀ y, (y, NameKind.free) ∈ scope.names → ∃ c, cl.lookup y = some c
  conv : ∀ y c, cl.lookup y = some c → (y, NameKind.free) ∈ scope.names
theorem GExt.ok {G G' : GC} {f : Addr} {fdat : FuncData} {scope : Scope} {cl : List (PySem.Str × Addr)} (x : GExt G G' f fdat scope cl) (h : G.Ok) : G'.Ok := by
  obtain ⟨st', e⟩ := x.eq
  have hs := x.sub
  subst e
  exact ⟨h.inK, h.top, fun b o q => hs b o (h.sub b o q)⟩

section
variable {G : GC} {fd : FD} {n : Nat}
theorem SR.def {name qn q : PySem.Str} {params : Arguments} {body rest : List Stmt} {scope : Scope} {pos : Pos} {iI : Nat} {P c₀ : Addr} (hG : G.Ok) (hbm : BM G) (hP : G.Tab P) (hpl : G.pl P = pos) (hpq : G.pq P = qn) (hcode : fd.code = some c₀) (hq : fd.qual = some q)
    (hqn : (if fd.scope.names.lookup name == some .globalExplicit then name else q ++ name) = qn) (hCH : CodeHd G.g c₀ P) (hd0 : params.defaults = []) (hk0 : params.kw_defaults = []) (hann : ∀ env, annTrees params none env = [])
    (hfree : ∀ y ∈ scope.names, y.2 = .free → fd.scope.names.lookup y.1 = some .cell) (hI : Stores fd iI name) (hclo0 : fd.clo = []) {F : AS → Option Fl} {F' : Addr → AS → Option Fl}
    (hF : ∀ σ fl f, F σ = some fl → F' f (setL iI (.fn f) σ) = some fl)
    (hrest : ∀ (G' : GC) (f : Addr) (cl : List (PySem.Str × Addr)) (doc pm cdv ctv : Value), GExt G G' f (fnX name qn params body scope cl .none .none doc pm none cdv ctv) scope cl → SR G' { fd with clo := cl } false n rest (F' f)) :
    SR G fd false n (.FunctionDef name params body [] none [] scope none name pos :: rest) F := by
  refine ⟨?_⟩
  intro env A s oa X σ fl R S hf
  have hgk : ∀ b o, G.g.get? b = some o → s.heap.get? b = some o := fun b o e => (S.base b o (hG.sub b o e)).1
  obtain ⟨cl, hcl⟩ := closure_ok (scope := scope) (env := env) fun y hy => S.eo.cl y (hfree (y, .free) hy rfl)
  have hclos : ClosOk cl := ⟨fun x y c hx hy => S.cellsN x y c (hcl.sub x c hx) (hcl.sub y c hy), hcl.mem'⟩
  have hqual : qualnameIn env name name = qn := by
    unfold qualnameIn Env.kindOf
    rw [S.eo.scope, S.eo.qual q hq]
    exact hqn
  have hg : s.heap.Ns mainGlobals G.mg := Heap.Ns.at' hG.top.g fun o e => hgk _ _ e
  obtain ⟨oP, hoP⟩ := (S.tabOk P hP).live
  have hPf : ∃ vs, s.heap.get? P = some (tabO vs) := by
    rcases (S.tabOk P hP).v with e | ⟨c, e, _⟩
    · exact ⟨_, e⟩
    · exact ⟨_, e⟩
  have hgP : mainGlobals ≠ P := fun e => by
    obtain ⟨vs, hv⟩ := hPf
    obtain ⟨o, es, ep, ho, hd, _⟩ := hg
    rw [e, hv] at ho; cases ho; cases hd
  have hbs : s.heap.BuiltinsAt G.mg P := by
    obtain ⟨bm, ob, b1, b2, b3, b4, b5, b6, b7⟩ := hbm
    refine ⟨bm, ob, b1, b2, b3, fun e => ?_, hgk _ _ b4, b5, b6, b7⟩
    obtain ⟨vs, hv⟩ := hPf
    have := hgk _ _ b4
    rw [e, hv] at this
    cases this
    cases b5
  -- the function is made
  have made : wpAny G.M A (makeFunction name qn params (.stmts body) scope env [] [] [] pos pos.line) (fun v s₁ => ∃ f c' ctv doc fo co, v = .ref f ∧ fo = fnMade name qn params body scope cl doc ((G.mg "__name__").getD .none) c' ctv ∧ s.heap.get? f = none ∧ s₁.heap.get? f = some fo ∧
      s₁.heap.CodeRec (.ref c') qn ∧ s₁.heap.get? c' = some co ∧ ¬ Bset env oa X c' ∧ Kp G false s s₁) Nay s := by
    rcases (S.tabOk P hP).v with e | ⟨c, e, hr, hn, ht⟩
    · refine makeFunction_K (ps := #[]) hcl.eq S.eo.globals hg (S.eo.code c₀ hcode) (hCH.keeps hgk) e trivial rfl hgP hbs fun c' ctv doc h' tk hx hge hlt hrec htb => ?_
      have fresh : ∀ b, s.heap.objs.size ≤ b → s.heap.get? b = none := fun b hb => Heap.get?_none_of_le hb
      obtain ⟨co, hco⟩ := codeRec_live hrec
      refine ⟨_, c', ctv, doc, _, co, rfl, rfl, fresh _ (Nat.le_trans hge (Nat.le_of_lt hlt)), Heap.get?_push_size _ rfl, codeRec_at hrec fun o e => Heap.get?_push_of_some _ e, Heap.get?_push_of_some _ hco, S.fresh (fresh _ hge), ?_⟩
      have nP : ∀ b, ¬ G.Tab b → b ≠ P := fun b t e => t (e ▸ hP)
      refine ⟨⟨rfl, rfl⟩, fun b o e t => Heap.get?_push_of_some _ (hx b o (nP b (t.elim (fun h => Bool.noConfusion h) id)) e), fun h => Bool.noConfusion h, fun e => e, fun P' o t e' => ?_⟩
      by_cases hPP : P' = P
      · subst hPP
        rw [e] at e'
        have eo := Option.some.inj e'
        refine .inr ⟨eo.symm, c', ?_, ?_, fresh _ hge, fun t => ?_⟩
        · refine Heap.get?_push_of_some _ ?_
          rw [Array.empty_append] at htb
          rw [htb]
          unfold GC.grown
          rw [hpl]
          rfl
        · rw [hpq]; exact codeRec_at hrec fun o e => Heap.get?_push_of_some _ e
        · exact new_not_live (fresh _ hge) (S.tabOk c' t).live
      · exact .inl (Heap.get?_push_of_some _ (hx _ _ hPP e'))
    · have hf : codeAmong pos [rawInt (G.pl P).line, rawInt (G.pl P).col, .ref c] = some (.ref c) := by
        rw [hpl]
        simp [codeAmong, rawInt]
      refine makeFunction_hit (ps := #[rawInt (G.pl P).line, rawInt (G.pl P).col, .ref c]) hcl.eq S.eo.globals hg (S.eo.code c₀ hcode) (hCH.keeps hgk) e trivial hf hbs fun ctv doc h' tk hk hsz => ?_
      obtain ⟨co, hco⟩ := codeRec_live hr
      rw [hpq] at hr
      refine ⟨_, c, ctv, doc, _, co, rfl, rfl, Heap.get?_none_of_le hsz, Heap.get?_push_size _ rfl, codeRec_at hr fun o e => Heap.get?_push_of_some _ (hk _ _ e), Heap.get?_push_of_some _ (hk _ _ hco), hn, ?_⟩
      exact Kp.of_keep fun b o e => Heap.get?_push_of_some _ (hk b o e)
  refine wpAny_execs_cons (nestDef_K hd0 hk0 (hann env) ?_)
  rw [hqual]
  refine wpN made fun v s₁ q => ?_
  obtain ⟨f, c', ctv, doc, fo, co, rfl, hfo, hfn, hf1, hr1, hc1, hcB, k₁⟩ := q
  have S₁ := S.kp k₁
  refine wpN (store_ok (p := false) (a := .fn f) hI S₁ .fn) fun _ s₂ q₂ => ?_
  obtain ⟨k₂, S₂⟩ := q₂
  have hfB : ¬ Bset env oa X f := S.fresh hfn
  have keep2 : ∀ b o, ¬ Bset env oa X b → s₁.heap.get? b = some o → s₂.heap.get? b = some o := fun b o nb e =>
    k₂.heap b o e (fun q => nb (.inl q)) (.inl fun c hc q => nb (.inr (.inl ⟨c, hc, q⟩))) (fun q => nb (.inr (.inr (.inl q)))) (.inr fun t => nb (.inr (.inr (.inr (S.tab b t)))))
  have hf2 := keep2 f fo hfB hf1
  have hc2 := keep2 c' co hcB hc1
  let st' : Addr → Obj → Prop := fun b o => G.st b o ∨ (b = f ∧ o = fo) ∨ (b = c' ∧ o = co)
  obtain ⟨cc, oc, vsc, tc, ec, hoc, hdc, hvc⟩ := hr1
  cases ec
  have hoc' : oc = co := Option.some.inj (hoc.symm.trans hc1)
  subst hoc'
  have ext : GExt G { G with st := st' } f (fnX name qn params body scope cl .none .none doc ((G.mg "__name__").getD .none) none (.ref c') ctv) scope cl :=
    ⟨⟨st', rfl⟩, fun b o h => .inl h, ⟨fo, .inr (.inl ⟨rfl, rfl⟩), by rw [hfo]⟩, ⟨c', oc, vsc, tc, rfl, .inr (.inr ⟨rfl, rfl⟩), hdc, hvc⟩, hclos, hcl.all, hcl.conv⟩
  have S₃ : St { G with st := st' } { fd with clo := cl } env oa X (setL iI (.fn f) σ) s₂.heap := by
    refine ⟨⟨S₂.eo.scope, S₂.eo.globals, S₂.eo.builtins, S₂.eo.kind, S₂.eo.cl, hcl.sub, S₂.eo.code, S₂.eo.qual⟩, fun b t => ⟨(S₂.tabOk b t).v⟩, fun b o e => ?_, S₂.tab, S₂.live, S₂.locX, S₂.cellX, S₂.oaX, S₂.cells, S₂.cellsN, S₂.ns⟩
    rcases e with e | ⟨rfl, rfl⟩ | ⟨rfl, rfl⟩
    · exact S₂.base b o e
    · exact ⟨hf2, hfB⟩
    · exact ⟨hc2, hcB⟩
  refine wpN ((hrest _ f cl doc _ _ ctv ext).run env A s₂ oa X (setL iI (.fn f) σ) fl R S₃ (hF σ fl f hf)) fun w s₃ q₃ => ?_
  obtain ⟨oa', σ', k₃, S₄, f₄⟩ := q₃
  refine ⟨oa', σ', ((Ks.of_kp k₁ S).trans k₂).trans ⟨k₃.ex, k₃.heap, k₃.there, k₃.gens, k₃.bare, k₃.tabs, k₃.own⟩, ?_, f₄⟩
  exact ⟨⟨S₄.eo.scope, S₄.eo.globals, S₄.eo.builtins, S₄.eo.kind, S₄.eo.cl, (fun y c h => by rw [hclo0] at h; cases h), S₄.eo.code, S₄.eo.qual⟩, fun b t => ⟨(S₄.tabOk b t).v⟩, fun b o e => S₄.base b o (.inl e), S₄.tab, S₄.live, S₄.locX, S₄.cellX, S₄.oaX, S₄.cells, S₄.cellsN, S₄.ns⟩
end
end Mine
namespace Mine
theorem mg_none {K : Frag} {h : Heap} {mg : PySem.Str → Option Value} {n : PySem.Str} (X : K.In h) (G : h.Ns mainGlobals mg) (e : nsIn K mainGlobals n = some none) : mg n = none := by
  obtain ⟨o, es, ep, ho, hd, _, hf⟩ := G
  unfold nsIn at e
  split at e
  · rename_i c d es' n' sl q
    have := X _ _ q
    rw [ho] at this
    cases this
    cases hd
    split at e
    · cases e
    · rename_i he
      rw [← hf]
      unfold nsFind findBy
      rw [← Array.find?_toList, he]
      rfl
  · cases e
theorem len1 {α : Type} {l : List α} (h : l.length = 1) : ∃ a, l = [a] := List.length_eq_one_iff.mp h
theorem len2 {α : Type} {l : List α} (h : l.length = 2) : ∃ a b, l = [a, b] := by
  cases l with
  | nil => cases h
  | cons a l => obtain ⟨b, rfl⟩ := len1 (Nat.succ.inj h); exact ⟨a, b, rfl⟩
theorem len3 {α : Type} {l : List α} (h : l.length = 3) : ∃ a b c, l = [a, b, c] := by
  cases l with
  | nil => cases h
  | cons a l => obtain ⟨b, c, rfl⟩ := len2 (Nat.succ.inj h); exact ⟨a, b, c, rfl⟩
noncomputable def fdOf (o : Option Obj) : FuncData := match o with
  | some ⟨_, _, .func fd, _⟩ => fd
  | _ => default
noncomputable def bodyOf (fd : FuncData) : List Stmt := match fd.body with
  | .stmts b => b
  | _ => []
section
variable {G : GC} {fd fd' : FD} {p : Bool} {n : Nat}
theorem gn_glob (hG : G.Ok) {x : PySem.Str} {v : Value} (e : nsIn G.K mainGlobals x = some (some v)) : GName G x v := .glob (mg_of hG.inK hG.top.g e)
theorem gn_boot (hG : G.Ok) {x : PySem.Str} {v : Value} (e : nsIn G.K mainGlobals x = some none) (e' : bootBuiltins x = some v) (ne : x ≠ "__name__") : GName G x v := .boot (mg_none hG.inK hG.top.g e) e' ne
theorem CallOk.lift {fv : Value} {k : List AV → Option AV} (h : CallOk G true n fv k) : CallOk G p n fv k :=
  fun A s B as vs c R S hv hk => wpN (h A s B as vs c R S hv hk) fun _ _ q => ⟨q.1.lift, q.2⟩
theorem Room.mono {m : Nat} {A : Around} (h : n ≤ m) (R : Room m A) : Room n A := ⟨R.handled, Nat.lt_of_le_of_lt (Nat.add_le_add_left h _) R.depth, Nat.lt_of_le_of_lt (Nat.add_le_add_left (Nat.mul_le_mul_left 8 h) _) R.units⟩
theorem CallOk.mono {m : Nat} {fv : Value} {k : List AV → Option AV} (hm : n ≤ m) (h : CallOk G p n fv k) : CallOk G p m fv k :=
  fun A s B as vs c R S hv hk => h A s B as vs c (R.mono hm) S hv hk
theorem CallX.mono {m : Nat} {f : Addr} {cl : List (PySem.Str × Addr)} {cs : List PySem.Str} {cv : List AV} {K : Option (Nat × List AV) → List AV → Option (AV × Option (Nat × List AV))} (hm : n ≤ m) (h : CallX G p n fd f cl cs cv K) : CallX G p m fd f cl cs cv K :=
  fun A s B as vs own oa c own' R S h1 h2 h3 h4 hv hk => h A s B as vs own oa c own' (R.mono hm) S h1 h2 h3 h4 hv hk

noncomputable def nameChk (fd : FD) (i : Nat) (x : PySem.Str) : Bool := decide (fd.names[i]? = some x) && !(x == ("__debug__" : PySem.Str)) && !(x == ("__classdict__" : PySem.Str))
noncomputable def atChk (fd : FD) (i : Nat) (x : PySem.Str) : Bool := nameChk fd i x && (List.range fd.names.length).all fun j => !(decide (fd.names[j]? = some x)) || decide (j = i)
noncomputable def locChk (fd : FD) (i : Nat) (x : PySem.Str) : Bool := atChk fd i x && decide (fd.scope.names.lookup x = some .local)
noncomputable def stoChk (fd : FD) (i : Nat) (x : PySem.Str) : Bool := atChk fd i x && (decide (fd.scope.names.lookup x = some .local) || decide (fd.scope.names.lookup x = some .cell))
noncomputable def gloChk (fd : FD) (x : PySem.Str) : Bool := decide (fd.scope.names.lookup x = some .globalImplicit) && !(x == ("__debug__" : PySem.Str))
theorem nameChk_ok {i : Nat} {x : PySem.Str} (h : nameChk fd i x = true) : fd.names[i]? = some x ∧ (x == ("__debug__" : PySem.Str)) = false ∧ (x == ("__classdict__" : PySem.Str)) = false := by
  unfold nameChk at h
  simp only [Bool.and_eq_true, decide_eq_true_eq, Bool.not_eq_true'] at h
  exact ⟨h.1.1, h.1.2, h.2⟩
theorem atChk_ok {i : Nat} {x : PySem.Str} (h : atChk fd i x = true) : NameAt fd i x := by
  unfold atChk at h
  rw [Bool.and_eq_true, List.all_eq_true] at h
  refine ⟨(nameChk_ok h.1).1, fun j hj => ?_⟩
  have := h.2 j (List.mem_range.mpr (List.getElem?_eq_some_iff.mp hj).1)
  simpa [hj] using this
theorem locChk_ok {i : Nat} {x : PySem.Str} (h : locChk fd i x = true) : NameAt fd i x ∧ fd.scope.names.lookup x = some .local := by
  unfold locChk at h
  rw [Bool.and_eq_true] at h
  exact ⟨atChk_ok h.1, of_decide_eq_true h.2⟩
theorem stoChk_ok {i : Nat} {x : PySem.Str} (h : stoChk fd i x = true) : Stores fd i x := by
  unfold stoChk at h
  rw [Bool.and_eq_true, Bool.or_eq_true] at h
  exact ⟨atChk_ok h.1, h.2.imp of_decide_eq_true of_decide_eq_true⟩
theorem gloChk_ok {x : PySem.Str} (h : gloChk fd x = true) : fd.scope.names.lookup x = some .globalImplicit ∧ (x == ("__debug__" : PySem.Str)) = false := by
  unfold gloChk at h
  rw [Bool.and_eq_true] at h
  exact ⟨of_decide_eq_true h.1, by simpa using h.2⟩
theorem SE.nm (i : Nat) {x : PySem.Str} {pos : Pos} (h : nameChk fd i x = true) : SE G fd p n (.Name x pos) (gv i) := SE.name (nameChk_ok h).1 (nameChk_ok h).2.1 (nameChk_ok h).2.2
theorem SE.cl (hG : G.Ok) {x : PySem.Str} {fv : Value} {np pos : Pos} {e : Expr} {rest : List Expr} {g : AS → Option (List AV)} {k : List AV → Option AV}
    (hx : gloChk fd x = true) (hn : GName G x fv) (hk : KeepOk G fv) (hc : CallOk G p n fv k) (ha : SEs G fd p n (e :: rest) g)
    (he : ∀ env, starEach (e :: rest) env = (false, eval e env) :: starEach rest env := by intro _; rfl) (hplain : ∀ env, (backTo pos (starEach rest env)).any (·.1) = false := by intro _; rfl) :
    SE G fd p n (.Call (.Name x np) (e :: rest) [] pos) (fun σ => (g σ).bind k) := SE.call hG (gloChk_ok hx).1 (gloChk_ok hx).2 hn hk ha hc he hplain
theorem SE.gi (hG : G.Ok) {x : PySem.Str} {i : Int} {t : Tok} {pos : Pos} (hx : gloChk fd x = true) (hn : GName G x (.int i t)) : SE G fd p n (.Name x pos) (fun _ => Option.some (.int i)) := SE.globint hG (gloChk_ok hx).1 (gloChk_ok hx).2 hn
theorem SE.dg (hG : G.Ok) {x : PySem.Str} {d : Addr} {T : List (Int × List Nat)} {np apos pos : Pos} {e : Expr} {rest : List Expr} {g : AS → Option (List AV)}
    (hx : gloChk fd x = true) (hn : GName G x (.ref d)) (hT : IntStrs G d T) (ha : SEs G fd p n (e :: rest) g)
    (hb : ∀ env, attributeBase (.Name x np) "get" env (eval (.Name x np) env) = eval (.Name x np) env := by intro _; rfl) (hl : (apos.endLine == pos.line) = true := by rfl)
    (h30 : ∀ env, (((backTo pos (starEach (e :: rest) env)).all fun x => !x.1) && (backToKw pos (keywordEach [] env)).all (·.1.isSome) && decide ((e :: rest).length + ([] : List Keyword).length + (if ([] : List Keyword).isEmpty then 0 else 1) < 30)) = true := by intro _; rfl)
    (he : ∀ env, starEach (e :: rest) env = (false, eval e env) :: starEach rest env := by intro _; rfl) (hplain : ∀ env, (backTo pos (starEach rest env)).any (·.1) = false := by intro _; rfl) :
    SE G fd p n (.Call (.Attribute (.Name x np) "get" apos) (e :: rest) [] pos) (fun σ => (g σ).bind (tabK T)) := SE.dictget hG (gloChk_ok hx).1 (gloChk_ok hx).2 hn hT ha hb hl h30 he hplain
theorem S1.fr (hG : G.Ok) {target iter : Expr} {fx : PySem.Str} {np cpos : Pos} {body els : List Stmt} {pos : Pos} {f : AS → Option AV} {set : AV → AS → Option AS} {F H : AS → Option (Fl × AS)}
    (hx : gloChk fd fx = true) (hn : GName G fx (.type "reversed")) (hi : SE G fd p n iter f) (ht : Asg G fd p n target set)
    (hb : SS G fd p n body F) (he : SS G fd p n els H) (hs : ∀ env x, foldedSetIterable (.Call (.Name fx np) [iter] [] cpos) env x = pure x := by intro _ _; rfl)
    (hst : ∀ env, starEach [iter] env = [(false, eval iter env)] := by intro _; rfl)
    (hgo : ∀ (I : Addr) (v : Value), letOwnedTupleGo target (.ref I) v = pure () := by intro _ _; rfl) :
    S1 G fd p n (.For target (.Call (.Name fx np) [iter] [] cpos) body els pos) (fun σ => (f σ).bind fun a => (iterL a).bind fun items => forL set F H items.reverse σ) := S1.forRev hG (gloChk_ok hx).1 (gloChk_ok hx).2 hn hi ht hb he hs hst hgo
theorem S1.rv (i : Nat) {x : PySem.Str} {px apos cpos pos : Pos} (hi : atChk fd i x = true)
    (hline : (apos.endLine == cpos.line) = true := by rfl)
    (hbase : ∀ env, attributeBase (.Name x px) "reverse" env (eval (.Name x px) env) = eval (.Name x px) env := by intro _; rfl)
    (hs : ∀ env, swapsWith (.Call (.Attribute (.Name x px) "reverse" apos) [] [] cpos) Option.none pos.line env = pure false := by intro _; rfl) :
    S1 G fd p n (.Expr (.Call (.Attribute (.Name x px) "reverse" apos) [] [] cpos) pos) (revF i) :=
  have h' : nameChk fd i x = true := by unfold atChk at hi; rw [Bool.and_eq_true] at hi; exact hi.1
  S1.reverse (atChk_ok hi) (nameChk_ok h').2.1 (nameChk_ok h').2.2 hline hbase hs
theorem S1.asg (i : Nat) {x : PySem.Str} {px pos : Pos} {e : Expr} {f : AS → Option AV} (hi : stoChk fd i x = true) (h : SE G fd p n e f) (hs : ∀ env, swapsWith e (some (.Name x px)) pos.line env = pure false := by intro _; rfl) :
    S1 G fd p n (.Assign [.Name x px] e pos) (fun σ => (f σ).bind fun a => Option.some (.next, setL i a σ)) := S1.assign (stoChk_ok hi) h hs
theorem NamesT.cs (i : Nat) {x : PySem.Str} {px : Pos} {es : List Expr} {is : List Nat} (h : stoChk fd i x = true) (r : NamesT fd es is) : NamesT fd (.Name x px :: es) (i :: is) := .cons (stoChk_ok h) r
theorem Asg.nm (i : Nat) {x : PySem.Str} {px : Pos} (h : stoChk fd i x = true) : Asg G fd p n (.Name x px) (fun a σ => Option.some (setL i a σ)) := Asg.name (stoChk_ok h)
theorem S1.ow (i : Nat) {x : PySem.Str} {px pos : Pos} {e : Expr} {f : AS → Option (List AV)} (hi : stoChk fd i x = true) (h : SEF G fd p n e f) (hs : ∀ env, swapsWith e (some (.Name x px)) pos.line env = pure false := by intro _; rfl) :
    S1 G fd p n (.Assign [.Name x px] e pos) (fun σ => (f σ).bind fun l => (setOwn i l σ).bind fun σ' => Option.some (.next, σ')) := S1.own (stoChk_ok hi) h hs
theorem S1.app (i : Nat) {x : PySem.Str} {px apos cpos pos : Pos} {e : Expr} {f : AS → Option AV} (hi : atChk fd i x = true) (h : SE G fd p n e f)
    (hline : (apos.endLine == cpos.line) = true := by rfl)
    (hbase : ∀ env, attributeBase (.Name x px) "append" env (eval (.Name x px) env) = eval (.Name x px) env := by intro _; rfl)
    (hfew : ∀ env, ((backTo cpos (starEach [e] env)).all (fun x => !x.1) && (backToKw cpos (keywordEach [] env)).all (fun x => x.1.isSome) && decide (([e] : List Expr).length + ([] : List Keyword).length + (if ([] : List Keyword).isEmpty then 0 else 1) < 30)) = true := by intro _; rfl)
    (htrees : ∀ env, backTo cpos (starEach [e] env) = [(false, eval e env)] := by intro _; rfl)
    (hs : ∀ env, swapsWith (.Call (.Attribute (.Name x px) "append" apos) [e] [] cpos) Option.none pos.line env = pure false := by intro _; rfl) :
    S1 G fd p n (.Expr (.Call (.Attribute (.Name x px) "append" apos) [e] [] cpos) pos) (appF i f) :=
  have h' : nameChk fd i x = true := by unfold atChk at hi; rw [Bool.and_eq_true] at hi; exact hi.1
  S1.append (atChk_ok hi) (nameChk_ok h').2.1 (nameChk_ok h').2.2 h hline hbase hfew htrees hs
theorem SS.fz (i : Nat) (x : PySem.Str) {ss : List Stmt} {F : AS → Option (Fl × AS)} (hi : atChk fd i x = true) (h : SS G fd p n ss F) : SS G fd p n ss (fun σ => F (Mine.frz i σ)) := SS.frz (atChk_ok hi) h
theorem S1.agx (i : Nat) {x : PySem.Str} {px pos : Pos} {e : Expr} {f : AS → Option AV} (hi : stoChk fd i x = true) (h : SE G fd p n e f) :
    S1 G fd p n (.AugAssign (.Name x px) .BitXor e pos) (fun σ => (gv i σ).bind fun a => (f σ).bind fun b => (xorV a b).bind fun c => Option.some (.next, setL i c σ)) := by
  have h' : nameChk fd i x = true := by unfold stoChk atChk at hi; simp only [Bool.and_eq_true] at hi; exact hi.1.1
  exact S1.aug (stoChk_ok hi) (nameChk_ok h').2.2 h op_xorI
end
noncomputable def fnChkB (fd : FD) (ps : List PySem.Str) : Bool :=
  decide (fd.names.take ps.length = ps) && decide ps.Nodup && decide (fd.scope.names.map Prod.fst).Nodup && ps.all (fun x => decide (fd.scope.names.lookup x = some .local) || decide (fd.scope.names.lookup x = some .cell)) &&
  decide (fd.scope.kind = .function) && !fd.scope.isCoroutine && !fd.scope.isGenerator && fd.clo.isEmpty
theorem fnChkB_ok {fd : FD} {ps : List PySem.Str} (h : fnChkB fd ps = true) : FnChk fd ps := by
  unfold fnChkB at h
  simp only [Bool.and_eq_true, decide_eq_true_eq, List.all_eq_true, Bool.or_eq_true, Bool.not_eq_true', List.isEmpty_iff] at h
  obtain ⟨⟨⟨⟨⟨⟨⟨h1, h2⟩, h3⟩, h4⟩, h5⟩, h6⟩, h7⟩, h8⟩ := h
  exact ⟨h1, h2, h3, h4, h5, h6, h7, h8⟩
theorem fnAt_of {G : GC} (hG : G.Ok) {a : Addr} {o : Obj} {fdat : FuncData} (e : G.K.lookup a = some o) (hd : o.data = .func fdat) {c : Addr} {oc : Obj} {vs : Array Value} {t : Tok} (hc : fdat.code = .ref c) (ec : G.K.lookup c = some oc) (hv : oc.data = .fields vs) (hq : vs[1]? = some (.str fdat.qualname t))
    (hgl : fdat.globals = mainGlobals) (hbl : fdat.builtins = builtinsNs) (hcl : fdat.closure = []) : FnAt G a fdat :=
  ⟨⟨o, hG.sub _ _ (hG.inK _ _ e), hd⟩, ⟨c, oc, vs, t, hc, hG.sub _ _ (hG.inK _ _ ec), hv, hq⟩, hgl, hbl, hcl⟩
noncomputable def compChkB (fd fd' : FD) (scope : Scope) (caps : List (Option Nat)) : Bool :=
  decide (scope.kind = .function) && scope.names.all (fun y => !decide (y.2 = .free) || decide (fd.scope.names.lookup y.1 = some .cell)) && scope.names.all (fun y => !decide (y.2 = .cell)) &&
  scope.names.all (fun y => !decide (y.2 = .local) || decide (scope.names.lookup y.1 = some .local)) && fd'.scope.names.all (fun y => !decide (y.2 = .cell) || decide ((y.1, NameKind.free) ∈ scope.names)) && capChk fd fd' scope caps && fd'.clo.isEmpty && fd'.code.isNone && fd'.qual.isNone
theorem compChkB_ok {fd fd' : FD} {scope : Scope} {caps : List (Option Nat)} (hs : fd'.scope = relabelS scope fd.scope) (h : compChkB fd fd' scope caps = true) : CompOk fd fd' scope caps := by
  unfold compChkB at h
  simp only [Bool.and_eq_true, decide_eq_true_eq, List.all_eq_true, Bool.or_eq_true, Bool.not_eq_true', decide_eq_false_iff_not, List.isEmpty_iff, Option.isNone_iff_eq_none] at h
  obtain ⟨⟨⟨⟨⟨⟨⟨⟨h1, h2⟩, h3⟩, h4⟩, h5⟩, h6⟩, h7⟩, h8⟩, h9⟩ := h
  exact ⟨hs, h1, fun y hy e => (h2 y hy).resolve_left fun n => n e, h3, fun y hy e => (h4 y hy).resolve_left fun n => n e, fun y hy => (h5 _ (kind_mem hy)).resolve_left fun n => n rfl, h6, h7, h8, h9⟩
section
variable {G : GC} {fd fd' : FD} {p : Bool} {n : Nat}
theorem SE.comp1 {elt iter : Expr} {ifs : List Expr} {scope : Scope} {pos : Pos} {x : PySem.Str} {px : Pos} {caps : List (Option Nat)} {c : AS → Option Bool} {g : AS → Option AV} {f : AS → Option AV} {it : AV → Option (List AV)}
    (hs' : fd'.scope = relabelS scope fd.scope) (hi : SE G fd p n iter f) (hit : IterOk G n (.Name x px) it) (co : compChkB fd fd' scope caps = true) (hx : locChk fd' 0 x = true) (hc : CTest G fd' p n ifs c) (he : SE G fd' p n elt g)
    (hs : ∀ env x, foldedSetIterable iter env x = pure x := by intro _ _; rfl) :
    SE G fd p n (.ListComp elt [⟨.Name x px, iter, ifs, 0⟩] scope pos) (compF f it 0 (emitF c g) caps) :=
  SE.comp (p0 := iter.pos) hi hit (compChkB_ok hs' co) (locChk_ok hx).1 (locChk_ok hx).2 (CBody.emit hc he) (fun _ _ _ => rfl) hs
theorem SE.comp2 {elt iter iter2 : Expr} {ifs : List Expr} {scope : Scope} {pos : Pos} {x x2 : PySem.Str} {px px2 : Pos} {caps : List (Option Nat)} {c : AS → Option Bool} {g : AS → Option AV} {f f2 : AS → Option AV} {it it2 : AV → Option (List AV)}
    (hs' : fd'.scope = relabelS scope fd.scope) (hi : SE G fd p n iter f) (hit : IterOk G n (.Name x px) it) (co : compChkB fd fd' scope caps = true) (hx : locChk fd' 0 x = true) (hi2 : SE G fd' p n iter2 f2) (hit2 : IterOk G n (.Name x2 px2) it2) (hx2 : locChk fd' 1 x2 = true) (hc : CTest G fd' p n ifs c) (he : SE G fd' p n elt g)
    (hs : ∀ env x, foldedSetIterable iter env x = pure x := by intro _ _; rfl) (hs2 : ∀ env x, foldedSetIterable iter2 env x = pure x := by intro _ _; rfl) :
    SE G fd p n (.ListComp elt [⟨.Name x px, iter, [], 0⟩, ⟨.Name x2 px2, iter2, ifs, 0⟩] scope pos) (compF f it 0 (fun σ => (f2 σ).bind fun a => (it2 a).bind fun items => compLB 1 (emitF c g) items σ) caps) :=
  SE.comp (p0 := iter.pos) hi hit (compChkB_ok hs' co) (locChk_ok hx).1 (locChk_ok hx).2 (CBody.nest (p0 := iter2.pos) hi2 hit2 (locChk_ok hx2).1 (locChk_ok hx2).2 (CBody.emit hc he) (fun _ _ _ => rfl) hs2) (fun _ _ _ => rfl) hs
theorem S1.asgC (j : Nat) {y : PySem.Str} {py spos : Pos} {elt iter : Expr} {ifs : List Expr} {scope : Scope} {pos : Pos} {x : PySem.Str} {px : Pos} {caps : List (Option Nat)} {c : AS → Option Bool} {g : AS → Option AV} {f : AS → Option AV} {it : AV → Option (List AV)}
    (hy : locChk fd j y = true) (hs' : fd'.scope = relabelS scope fd.scope) (hi : SE G fd p n iter f) (hit : IterOk G n (.Name x px) it) (co : compChkB fd fd' scope caps = true) (hx : locChk fd' 0 x = true) (hc : CTest G fd' p n ifs c) (he : SE G fd' p n elt g)
    (hsw : (py.line == pos.line && !(scope.names.any fun (n, k) => n == y && (k == .local || k == .cell))) = true)
    (hs : ∀ env x, foldedSetIterable iter env x = pure x := by intro _ _; rfl) :
    S1 G fd p n (.Assign [.Name y py] (.ListComp elt [⟨.Name x px, iter, ifs, 0⟩] scope pos) spos) (fun σ => (compF f it 0 (emitF c g) caps σ).bind fun a => Option.some (.next, setL j a σ)) :=
  S1.assignComp (p0 := iter.pos) (locChk_ok hy).1 (locChk_ok hy).2 hi hit (compChkB_ok hs' co) (locChk_ok hx).1 (locChk_ok hx).2 (CBody.emit hc he) (fun _ _ _ => rfl) hsw hs
end
end Mine
namespace Mine
open_top hd for PySem.Challenge.rw_uq0006_01
end Mine
namespace Mine
noncomputable def K1 (P : Params) : Frag := hd.heap_39 P
noncomputable def P0 : Params := { strHash := fun _ => 0, shareClass := fun a => a, mergeTok := fun t => t, idOf := fun _ => 0, idOfShared := fun _ _ => 0, followText := fun _ => false, idOfImm := fun _ => 0 }
noncomputable def f1 (a : Addr) : FuncData := fdOf ((K1 P0).lookup a)
noncomputable def o1 (a : Addr) : Obj := ((K1 P0).lookup a).getD default
noncomputable def codeOf (fd : FuncData) : Addr := match fd.code with
  | .ref c => c
  | _ => 0
noncomputable def fieldsOf (o : Obj) : Array Value := match o.data with
  | .fields vs => vs
  | _ => #[]
noncomputable def tokOf (v : Option Value) : Tok := match v with
  | some (.str _ t) => t
  | _ => 0
structure L1 (G : GC) : Prop where
  ok : G.Ok
  K : ∃ P, G.K = K1 P
  bm : BM G
noncomputable def Kint_divmod : List AV → Option AV := on2 (ii fun a b => guardO (decide (b ≠ 0) && decide (a.natAbs < lim) && decide (b.natAbs < lim)) (some (.tup [.int (a.fdiv b), .int (a.fmod b)])))
noncomputable def T57 : List (Int × List Nat) := [(1, [79, 80, 84, 73, 77, 73, 90, 69, 68]), (2, [78, 69, 87, 76, 79, 67, 65, 76, 83]), (4, [86, 65, 82, 65, 82, 71, 83]), (8, [86, 65, 82, 75, 69, 89, 87, 79, 82, 68, 83]), (16, [78, 69, 83, 84, 69, 68]), (32, [71, 69, 78, 69, 82, 65, 84, 79, 82]), (64, [78, 79, 70, 82, 69, 69]), (128, [67, 79, 82, 79, 85, 84, 73, 78, 69]), (256, [73, 84, 69, 82, 65, 66, 76, 69, 95, 67, 79, 82, 79, 85, 84, 73, 78, 69]), (512, [65, 83, 89, 78, 67, 95, 71, 69, 78, 69, 82, 65, 84, 79, 82])]
noncomputable def entsOf (t : Tok) : List (Int × List Nat) → List DictEntry
  | [] => []
  | (k, l) :: r => ⟨k, .int k t, .str ⟨l.toArray⟩ (t + 1)⟩ :: entsOf (t + 2) r
noncomputable def valsOf (t : Tok) : List (Int × List Nat) → List (Int × Value)
  | [] => []
  | (k, l) :: r => (k, .str ⟨l.toArray⟩ (t + 1)) :: valsOf (t + 2) r
theorem valsOf_fst : ∀ (T : List (Int × List Nat)) (t : Tok), (valsOf t T).map (·.1) = T.map (·.1)
  | [], _ => rfl
  | (k, l) :: r, t => by rw [valsOf, List.map_cons, List.map_cons, valsOf_fst r]
theorem pairsOf {prog : Program} {w : World} : ∀ (T : List (Int × List Nat)) (t : Tok), Pairs (intKind prog w) (entsOf t T) (valsOf t T)
  | [], _ => .nil
  | (k, l) :: r, t => .cons (intKind_is prog w k t) rfl (pairsOf r _)
theorem keysOf {prog : Program} {w : World} : ∀ (T : List (Int × List Nat)) (t : Tok), (∀ x ∈ T, hashInt x.1 = x.1) → ∀ e ∈ entsOf t T, ∃ k, (intKind prog w).is k e.key = true ∧ e.hash = (intKind prog w).hash k
  | [], _, _, e, he => nomatch he
  | (k, l) :: r, t, h, e, he => by
    rcases List.mem_cons.mp he with rfl | he
    · exact ⟨k, intKind_is prog w k t, (h _ (.head _)).symm⟩
    · exact keysOf r _ (fun x hx => h x (.tail _ hx)) e he
theorem flatsOf : ∀ (T : List (Int × List Nat)) (t : Tok), PyProof.V.FlatPairs PyData.int (valsOf t T) (T.map fun x => (.int x.1, .str ⟨x.2.toArray⟩))
  | [], _ => .nil
  | (k, l) :: r, t => .cons (PyProof.V.Flat.str _ _) (flatsOf r _)
theorem o57_eq (P : Params) : (K1 P).lookup 57 = some { cls := .type "dict", data := .dict (entsOf 271 T57).toArray 10 } := by
  with_unfolding_all rfl
theorem tab57 {G : GC} (hG : G.Ok) (hK : ∃ P, G.K = K1 P) : IntStrs G 57 T57 := by
  obtain ⟨P, hK⟩ := hK
  refine ⟨TabAt.ofObj (o := { cls := .type "dict", data := .dict (entsOf 271 T57).toArray 10 }) (kvs := valsOf 271 T57) (by decide +kernel) (hG.inK _ _ (by rw [hK]; exact o57_eq P)) ⟨_, _, ⟨rfl, rfl, rfl⟩, rfl, fun e he => keysOf T57 271 (by decide +kernel) e (by simpa using he), pairsOf T57 271, by rw [valsOf_fst]; decide +kernel⟩ (flatsOf T57 271)⟩
section
variable {G : GC} (L : L1 G)
include L
theorem L1.glob {x : PySem.Str} {v : Value} (e : ∀ P, nsIn (K1 P) mainGlobals x = some (some v)) : GName G x v := by
  obtain ⟨P, h⟩ := L.K
  exact gn_glob L.ok (by rw [h]; exact e P)
theorem L1.boot {x : PySem.Str} {v : Value} (e : ∀ P, nsIn (K1 P) mainGlobals x = some none) (e' : bootBuiltins x = some v) (ne : x ≠ "__name__") : GName G x v := by
  obtain ⟨P, h⟩ := L.K
  exact gn_boot L.ok (by rw [h]; exact e P) e' ne
theorem L1.gn_len : GName G "len" (.builtin "len") := L.boot (by intro P; with_unfolding_all rfl) (by decide +kernel) (by decide +kernel)
theorem L1.gn_range : GName G "range" (.type "range") := L.boot (by intro P; with_unfolding_all rfl) (by decide +kernel) (by decide +kernel)
theorem L1.gn_sum : GName G "sum" (.builtin "sum") := L.boot (by intro P; with_unfolding_all rfl) (by decide +kernel) (by decide +kernel)
theorem L1.gn_hex : GName G "hex" (.builtin "hex") := L.boot (by intro P; with_unfolding_all rfl) (by decide +kernel) (by decide +kernel)
theorem L1.gn_divmod : GName G "divmod" (.builtin "divmod") := L.boot (by intro P; with_unfolding_all rfl) (by decide +kernel) (by decide +kernel)
theorem L1.gn_reversed : GName G "reversed" (.type "reversed") := L.boot (by intro P; with_unfolding_all rfl) (by decide +kernel) (by decide +kernel)
theorem L1.gn_int_divmod : GName G "int_divmod" (.ref 56) := L.glob (by intro P; with_unfolding_all rfl)
theorem L1.gn_COMPILER_FLAG_NAMES : GName G "COMPILER_FLAG_NAMES" (.ref 57) := L.glob (by intro P; with_unfolding_all rfl)
theorem L1.at (a : Addr) {o : Obj} (e : ∀ P, (K1 P).lookup a = some o) : G.st a o := by
  obtain ⟨P, h⟩ := L.K
  exact L.ok.sub _ _ (L.ok.inK _ _ (by rw [h]; exact e P))
theorem L1.kp {a : Addr} {o : Obj} {fd : FuncData} (e : ∀ P, (K1 P).lookup a = some o) (hd : o.data = .func fd) : KeepOk G (.ref a) := .fn (L.at a e) hd
theorem L1.kp2 (a : Addr) (e : ∀ P, (K1 P).lookup a = some (o1 a) := by intro P; with_unfolding_all rfl) (hd : (o1 a).data = .func (f1 a) := by with_unfolding_all rfl) : KeepOk G (.ref a) := L.kp e hd
theorem L1.kp_int_divmod : KeepOk G (.ref 56) := L.kp2 56
theorem L1.fnAt {a : Addr} {o : Obj} {fdat : FuncData} (e : ∀ P, (K1 P).lookup a = some o) (hd : o.data = .func fdat) {c : Addr} {oc : Obj} {vs : Array Value} {t : Tok} (hc : fdat.code = .ref c) (ec : ∀ P, (K1 P).lookup c = some oc) (hv : oc.data = .fields vs) (hq : vs[1]? = some (.str fdat.qualname t))
    (hgl : fdat.globals = mainGlobals) (hbl : fdat.builtins = builtinsNs) (hcl : fdat.closure = []) : FnAt G a fdat := by
  obtain ⟨P, h⟩ := L.K
  exact fnAt_of L.ok (by rw [h]; exact e P) hd hc (by rw [h]; exact ec P) hv hq hgl hbl hcl
theorem L1.fnAt2 (a : Addr) (e : ∀ P, (K1 P).lookup a = some (o1 a) := by intro P; with_unfolding_all rfl) (hd : (o1 a).data = .func (f1 a) := by with_unfolding_all rfl) (hc : (f1 a).code = .ref (codeOf (f1 a)) := by with_unfolding_all rfl) (ec : ∀ P, (K1 P).lookup (codeOf (f1 a)) = some (o1 (codeOf (f1 a))) := by intro P; with_unfolding_all rfl)
    (hv : (o1 (codeOf (f1 a))).data = .fields (fieldsOf (o1 (codeOf (f1 a)))) := by with_unfolding_all rfl) (hq : (fieldsOf (o1 (codeOf (f1 a))))[1]? = some (.str (f1 a).qualname (tokOf ((fieldsOf (o1 (codeOf (f1 a))))[1]?))) := by with_unfolding_all rfl) (hgl : (f1 a).globals = mainGlobals := by with_unfolding_all rfl) (hbl : (f1 a).builtins = builtinsNs := by with_unfolding_all rfl) (hcl : (f1 a).closure = [] := by with_unfolding_all rfl) : FnAt G a (f1 a) :=
  L.fnAt e hd hc ec hv hq hgl hbl hcl
theorem L1.gn__DIV_LIMIT : GName G "_DIV_LIMIT" (.int 4000 189) := L.glob (by intro P; with_unfolding_all rfl)
theorem L1.gn__strcoll : GName G "_strcoll" (.ref 71) := L.glob (by intro P; with_unfolding_all rfl)
theorem L1.kp__strcoll : KeepOk G (.ref 71) := L.kp2 71
theorem L1.gn__law_run : GName G "_law_run" (.ref 99) := L.glob (by intro P; with_unfolding_all rfl)
theorem L1.kp__law_run : KeepOk G (.ref 99) := L.kp2 99
theorem L1.gn_pretty_flags : GName G "pretty_flags" (.ref 64) := L.glob (by intro P; with_unfolding_all rfl)
theorem L1.kp_pretty_flags : KeepOk G (.ref 64) := L.kp2 64
theorem L1.gn__law_names : GName G "_law_names" (.ref 106) := L.glob (by intro P; with_unfolding_all rfl)
theorem L1.kp__law_names : KeepOk G (.ref 106) := L.kp2 106
theorem L1.gn__law_walk : GName G "_law_walk" (.ref 92) := L.glob (by intro P; with_unfolding_all rfl)
theorem L1.kp__law_walk : KeepOk G (.ref 92) := L.kp2 92
theorem L1.gn__law_turns : GName G "_law_turns" (.ref 85) := L.glob (by intro P; with_unfolding_all rfl)
theorem L1.kp__law_turns : KeepOk G (.ref 85) := L.kp2 85
theorem L1.gn__div2n1n : GName G "_div2n1n" (.ref 21) := L.glob (by intro P; with_unfolding_all rfl)
theorem L1.kp__div2n1n : KeepOk G (.ref 21) := L.kp2 21
theorem L1.gn__divmod_pos : GName G "_divmod_pos" (.ref 49) := L.glob (by intro P; with_unfolding_all rfl)
theorem L1.kp__divmod_pos : KeepOk G (.ref 49) := L.kp2 49
theorem L1.gn__int2digits : GName G "_int2digits" (.ref 35) := L.glob (by intro P; with_unfolding_all rfl)
theorem L1.kp__int2digits : KeepOk G (.ref 35) := L.kp2 35
theorem L1.gn__digits2int : GName G "_digits2int" (.ref 42) := L.glob (by intro P; with_unfolding_all rfl)
theorem L1.kp__digits2int : KeepOk G (.ref 42) := L.kp2 42
theorem L1.tab_COMPILER_FLAG_NAMES : IntStrs G 57 T57 := tab57 L.ok L.K
end
noncomputable def D_strcoll : FD := { names := ["a", "b"], scope := (f1 71).scope }
noncomputable def F_strcoll : { F : AS → Option (Fl × AS) // ∀ (G : GC) (n : Nat), L1 G → 8 < n → SS G D_strcoll true n (bodyOf (f1 71)) F } :=
  ⟨_, fun G n L h8  =>
   (SS.cons (S1.ret (SE.bin (SE.cmp (SE.nm 0 (by decide +kernel)) (SE.nm 1 (by decide +kernel)) op_gt) (SE.cmp (SE.nm 0 (by decide +kernel)) (SE.nm 1 (by decide +kernel)) op_lt) op_sub)) SS.nil)⟩
noncomputable def K_strcoll : List AV → Option AV := fnKR D_strcoll ["a", "b"] (fun σ => (F_strcoll.1 σ).bind fun x => some x.1)
theorem ok_strcoll {G : GC} {n : Nat} (L : L1 G) (h8 : 8 < n)  : CallOk G true (n + 1) (.ref 71) K_strcoll :=
  fn_ok L.ok (L.fnAt2 71) rfl rfl (fnChkB_ok (by decide +kernel)) (by intro vs h; obtain ⟨v0, v1, rfl⟩ := len2 h; rfl) (F_strcoll.2 G n L h8 )
noncomputable def Dpretty_flags : FD := { names := ["flags", "names", "i", "flag"], scope := (f1 64).scope }
noncomputable def Fpretty_flags : { F : AS → Option (Fl × AS) // ∀ (G : GC) (n : Nat), L1 G → 8 < n → SS G Dpretty_flags true n (bodyOf (f1 64)) F } :=
  ⟨_, fun G n L h8  =>
   (SS.cons (S1.ow 1 (by decide +kernel) (SEF.lst SEs.nil)) (SS.cons (S1.for (SE.cl L.ok (by decide +kernel) L.gn_range .type range_ok (SEs.cons SE.int SEs.nil)) iter_ok (Asg.nm 2 (by decide +kernel)) (SS.cons (S1.asg 3 (by decide +kernel) (SE.bin SE.int (SE.nm 2 (by decide +kernel)) op_lsh)) (SS.cons (S1.ite (ST.val (SE.bin (SE.nm 0 (by decide +kernel)) (SE.nm 3 (by decide +kernel)) op_and)) (SS.cons (S1.app 1 (by decide +kernel) (SE.dg L.ok (by decide +kernel) L.gn_COMPILER_FLAG_NAMES L.tab_COMPILER_FLAG_NAMES (SEs.cons (SE.nm 3 (by decide +kernel)) (SEs.cons (SE.cl L.ok (by decide +kernel) L.gn_hex .builtin hex_ok (SEs.cons (SE.nm 3 (by decide +kernel)) SEs.nil)) SEs.nil)))) (SS.cons (S1.agx 0 (by decide +kernel) (SE.nm 3 (by decide +kernel))) (SS.cons (S1.ite (ST.not (ST.val (SE.nm 0 (by decide +kernel)))) (SS.cons S1.brk SS.nil) SS.nil) SS.nil))) SS.nil) SS.nil)) (SS.cons (S1.app 1 (by decide +kernel) (SE.cl L.ok (by decide +kernel) L.gn_hex .builtin hex_ok (SEs.cons (SE.nm 0 (by decide +kernel)) SEs.nil))) SS.nil)) (SS.fz 1 "names" (by decide +kernel) (SS.cons (S1.ret (SE.smeth (SE.str (l := [44, 32]) (by decide +kernel)) (SEs.cons (SE.nm 1 (by decide +kernel)) SEs.nil) join_ok F.slot_str_join F.type_str_join)) SS.nil))))⟩
noncomputable def Kpretty_flags : List AV → Option AV := fnKR Dpretty_flags ["flags"] (fun σ => (Fpretty_flags.1 σ).bind fun x => some x.1)
theorem okpretty_flags {G : GC} {n : Nat} (L : L1 G) (h8 : 8 < n)  : CallOk G true (n + 1) (.ref 64) Kpretty_flags :=
  fn_ok L.ok (L.fnAt2 64) rfl rfl (fnChkB_ok (by decide +kernel)) (by intro vs h; obtain ⟨v0, rfl⟩ := len1 h; rfl) (Fpretty_flags.2 G n L h8 )
noncomputable def D_law_run : FD := { names := ["above", "below", "told", "step", "quotient", "rest"], scope := (f1 99).scope }
noncomputable def F_law_run : { F : AS → Option (Fl × AS) // ∀ (G : GC) (n : Nat), L1 G → 8 < n → CallOk G false n (.ref 56) Kint_divmod → SS G D_law_run false n (bodyOf (f1 99)) F } :=
  ⟨_, fun G n L h8 hint_divmod =>
   (SS.cons (S1.ow 2 (by decide +kernel) (SEF.lst SEs.nil)) (SS.cons (S1.for (SE.cl L.ok (by decide +kernel) L.gn_range .type range_ok (SEs.cons SE.int SEs.nil)) iter_ok (Asg.nm 3 (by decide +kernel)) (SS.cons (S1.ite (ST.cmp (SE.nm 1 (by decide +kernel)) SE.int (op_eq h8)) (SS.cons S1.brk SS.nil) SS.nil) (SS.cons (S1.assignT (Asg.tup (NamesT.cs 4 (by decide +kernel) (NamesT.cs 5 (by decide +kernel) NamesT.nil))) (SE.cl L.ok (by decide +kernel) L.gn_int_divmod L.kp_int_divmod hint_divmod (SEs.cons (SE.nm 0 (by decide +kernel)) (SEs.cons (SE.nm 1 (by decide +kernel)) SEs.nil)))) (SS.cons (S1.app 2 (by decide +kernel) (SE.nm 4 (by decide +kernel))) (SS.cons (S1.asg 0 (by decide +kernel) (SE.nm 1 (by decide +kernel))) (SS.cons (S1.asg 1 (by decide +kernel) (SE.nm 5 (by decide +kernel))) SS.nil))))) SS.nil) (SS.fz 2 "told" (by decide +kernel) (SS.cons (S1.ret (SE.nm 2 (by decide +kernel))) SS.nil))))⟩
noncomputable def K_law_run : List AV → Option AV := fnKR D_law_run ["above", "below"] (fun σ => (F_law_run.1 σ).bind fun x => some x.1)
theorem ok_law_run {G : GC} {n : Nat} (L : L1 G) (h8 : 8 < n) (hint_divmod : CallOk G false n (.ref 56) Kint_divmod) : CallOk G false (n + 1) (.ref 99) K_law_run :=
  fn_ok L.ok (L.fnAt2 99) rfl rfl (fnChkB_ok (by decide +kernel)) (by intro vs h; obtain ⟨v0, v1, rfl⟩ := len2 h; rfl) (F_law_run.2 G n L h8 hint_divmod)
noncomputable def D_law_names : FD := { names := ["places", "first", "told", "place"], scope := (f1 106).scope }
noncomputable def F_law_names : { F : AS → Option (Fl × AS) // ∀ (G : GC) (n : Nat), L1 G → 8 < n → SS G D_law_names true n (bodyOf (f1 106)) F } :=
  ⟨_, fun G n L h8  =>
   (SS.cons (S1.asg 1 (by decide +kernel) (SE.lst (SEs.cons (SE.str (l := [79, 80, 84, 73, 77, 73, 90, 69, 68]) (by decide +kernel)) (SEs.cons (SE.str (l := [78, 69, 87, 76, 79, 67, 65, 76, 83]) (by decide +kernel)) (SEs.cons (SE.str (l := [86, 65, 82, 65, 82, 71, 83]) (by decide +kernel)) (SEs.cons (SE.str (l := [86, 65, 82, 75, 69, 89, 87, 79, 82, 68, 83]) (by decide +kernel)) (SEs.cons (SE.str (l := [78, 69, 83, 84, 69, 68]) (by decide +kernel)) (SEs.cons (SE.str (l := [71, 69, 78, 69, 82, 65, 84, 79, 82]) (by decide +kernel)) (SEs.cons (SE.str (l := [78, 79, 70, 82, 69, 69]) (by decide +kernel)) (SEs.cons (SE.str (l := [67, 79, 82, 79, 85, 84, 73, 78, 69]) (by decide +kernel)) (SEs.cons (SE.str (l := [73, 84, 69, 82, 65, 66, 76, 69, 95, 67, 79, 82, 79, 85, 84, 73, 78, 69]) (by decide +kernel)) (SEs.cons (SE.str (l := [65, 83, 89, 78, 67, 95, 71, 69, 78, 69, 82, 65, 84, 79, 82]) (by decide +kernel)) SEs.nil)))))))))))) (SS.cons (S1.ow 2 (by decide +kernel) (SEF.lst SEs.nil)) (SS.cons (S1.for (SE.nm 0 (by decide +kernel)) iter_ok (Asg.nm 3 (by decide +kernel)) (SS.cons (S1.ite (ST.cmp (SE.nm 3 (by decide +kernel)) SE.int op_lt) (SS.cons (S1.app 2 (by decide +kernel) (SE.sub (SE.nm 1 (by decide +kernel)) (SE.nm 3 (by decide +kernel)))) SS.nil) (SS.cons (S1.app 2 (by decide +kernel) (SE.bin (SE.bin (SE.str (l := [48, 120]) (by decide +kernel)) (SE.sub (SE.str (l := [49, 50, 52, 56]) (by decide +kernel)) (SE.bin (SE.nm 3 (by decide +kernel)) SE.int op_fmod)) op_add) (SE.bin (SE.str (l := [48]) (by decide +kernel)) (SE.bin (SE.nm 3 (by decide +kernel)) SE.int op_fdiv) op_mul) op_add)) SS.nil)) SS.nil) SS.nil) (SS.fz 2 "told" (by decide +kernel) (SS.cons (S1.ret (SE.ite (ST.cmp (SE.nm 2 (by decide +kernel)) (SE.lst SEs.nil) (op_ne h8)) (SE.smeth (SE.str (l := [44, 32]) (by decide +kernel)) (SEs.cons (SE.nm 2 (by decide +kernel)) SEs.nil) join_ok F.slot_str_join F.type_str_join) (SE.str (l := [48, 120, 48]) (by decide +kernel)))) SS.nil)))))⟩
noncomputable def K_law_names : List AV → Option AV := fnKR D_law_names ["places"] (fun σ => (F_law_names.1 σ).bind fun x => some x.1)
theorem ok_law_names {G : GC} {n : Nat} (L : L1 G) (h8 : 8 < n)  : CallOk G true (n + 1) (.ref 106) K_law_names :=
  fn_ok L.ok (L.fnAt2 106) rfl rfl (fnChkB_ok (by decide +kernel)) (by intro vs h; obtain ⟨v0, rfl⟩ := len1 h; rfl) (F_law_names.2 G n L h8 )
noncomputable def D_law_walk : FD := { names := ["turns", "left", "right", "worth", "met", "turn", "here", "root", "rest", "due", "fresh"], scope := (f1 92).scope }
noncomputable def F_law_walk : { F : AS → Option (Fl × AS) // ∀ (G : GC) (n : Nat), L1 G → 8 < n → CallOk G false n (.ref 56) Kint_divmod → SS G D_law_walk false n (bodyOf (f1 92)) F } :=
  ⟨_, fun G n L h8 hint_divmod =>
   (SS.cons (S1.asg 1 (by decide +kernel) (SE.tup (SEs.cons (SE.str (l := [97]) (by decide +kernel)) (SEs.cons SE.int (SEs.cons SE.int SEs.nil))))) (SS.cons (S1.asg 2 (by decide +kernel) (SE.tup (SEs.cons (SE.str (l := [98]) (by decide +kernel)) (SEs.cons SE.int (SEs.cons SE.int SEs.nil))))) (SS.cons (S1.asg 3 (by decide +kernel) SE.int) (SS.cons (S1.ow 4 (by decide +kernel) (SEF.lst (SEs.cons (SE.nm 1 (by decide +kernel)) (SEs.cons (SE.nm 2 (by decide +kernel)) SEs.nil)))) (SS.cons (S1.for (SE.bin (SE.nm 0 (by decide +kernel)) (SE.str (l := [101]) (by decide +kernel)) op_add) iter_ok (Asg.nm 5 (by decide +kernel)) (SS.cons (S1.assignT (Asg.tup (NamesT.cs 7 (by decide +kernel) (NamesT.cs 8 (by decide +kernel) NamesT.nil))) (SE.cl L.ok (by decide +kernel) L.gn_int_divmod L.kp_int_divmod hint_divmod (SEs.cons (SE.bin (SE.sub (SE.nm 2 (by decide +kernel)) SE.int) (SE.bin (SE.sub (SE.nm 1 (by decide +kernel)) SE.int) (SE.nm 3 (by decide +kernel)) op_mul) op_add) (SEs.cons (SE.sub (SE.nm 1 (by decide +kernel)) SE.int) SEs.nil)))) (SS.cons (S1.ite (ST.cmp (SE.nm 8 (by decide +kernel)) SE.int (op_ne h8)) (SS.cons (S1.ret (SE.lst SEs.nil)) SS.nil) SS.nil) (SS.cons (S1.asg 6 (by decide +kernel) (SE.tup (SEs.cons (SE.bin (SE.sub (SE.nm 1 (by decide +kernel)) SE.int) (SE.sub (SE.nm 2 (by decide +kernel)) SE.int) op_add) (SEs.cons (SE.nm 3 (by decide +kernel)) (SEs.cons (SE.nm 7 (by decide +kernel)) SEs.nil))))) (SS.cons (S1.app 4 (by decide +kernel) (SE.nm 6 (by decide +kernel))) (SS.cons (S1.ite (ST.cmp (SE.nm 5 (by decide +kernel)) (SE.str (l := [108]) (by decide +kernel)) (op_eq h8)) (SS.cons (S1.assignT (Asg.tup (NamesT.cs 10 (by decide +kernel) (NamesT.cs 8 (by decide +kernel) NamesT.nil))) (SE.cl L.ok (by decide +kernel) L.gn_int_divmod L.kp_int_divmod hint_divmod (SEs.cons (SE.bin (SE.bin (SE.sub (SE.nm 1 (by decide +kernel)) SE.int) (SE.sub (SE.nm 1 (by decide +kernel)) SE.int) op_mul) (SE.bin (SE.nm 3 (by decide +kernel)) (SE.nm 3 (by decide +kernel)) op_mul) op_add) (SEs.cons (SE.sub (SE.nm 2 (by decide +kernel)) SE.int) SEs.nil)))) (SS.cons (S1.asg 9 (by decide +kernel) (SE.bin (SE.bin (SE.bin SE.int (SE.sub (SE.nm 1 (by decide +kernel)) SE.int) op_mul) (SE.nm 3 (by decide +kernel)) op_mul) (SE.sub (SE.nm 2 (by decide +kernel)) SE.int) op_sub)) (SS.cons (S1.asg 2 (by decide +kernel) (SE.nm 6 (by decide +kernel))) SS.nil))) (SS.cons (S1.ite (ST.cmp (SE.nm 5 (by decide +kernel)) (SE.str (l := [114]) (by decide +kernel)) (op_eq h8)) (SS.cons (S1.assignT (Asg.tup (NamesT.cs 10 (by decide +kernel) (NamesT.cs 8 (by decide +kernel) NamesT.nil))) (SE.cl L.ok (by decide +kernel) L.gn_int_divmod L.kp_int_divmod hint_divmod (SEs.cons (SE.bin (SE.bin (SE.nm 3 (by decide +kernel)) (SE.nm 3 (by decide +kernel)) op_mul) (SE.bin (SE.sub (SE.nm 2 (by decide +kernel)) SE.int) (SE.sub (SE.nm 2 (by decide +kernel)) SE.int) op_mul) op_add) (SEs.cons (SE.sub (SE.nm 1 (by decide +kernel)) SE.int) SEs.nil)))) (SS.cons (S1.asg 9 (by decide +kernel) (SE.bin (SE.bin (SE.bin SE.int (SE.nm 3 (by decide +kernel)) op_mul) (SE.sub (SE.nm 2 (by decide +kernel)) SE.int) op_mul) (SE.sub (SE.nm 1 (by decide +kernel)) SE.int) op_sub)) (SS.cons (S1.asg 1 (by decide +kernel) (SE.nm 6 (by decide +kernel))) SS.nil))) (SS.fz 4 "met" (by decide +kernel) (SS.cons (S1.ret (SE.nm 4 (by decide +kernel))) SS.nil))) SS.nil)) (SS.cons (S1.ite (ST.or2 (ST.cmp (SE.nm 8 (by decide +kernel)) SE.int (op_ne h8)) (ST.cmp (SE.nm 10 (by decide +kernel)) (SE.nm 9 (by decide +kernel)) (op_ne h8))) (SS.cons (S1.ret (SE.lst SEs.nil)) SS.nil) SS.nil) (SS.cons (S1.asg 3 (by decide +kernel) (SE.nm 10 (by decide +kernel))) SS.nil))))))) SS.nil) (SS.cons (S1.ret (SE.lst SEs.nil)) SS.nil))))))⟩
noncomputable def K_law_walk : List AV → Option AV := fnKR D_law_walk ["turns"] (fun σ => (F_law_walk.1 σ).bind fun x => some x.1)
theorem ok_law_walk {G : GC} {n : Nat} (L : L1 G) (h8 : 8 < n) (hint_divmod : CallOk G false n (.ref 56) Kint_divmod) : CallOk G false (n + 1) (.ref 92) K_law_walk :=
  fn_ok L.ok (L.fnAt2 92) rfl rfl (fnChkB_ok (by decide +kernel)) (by intro vs h; obtain ⟨v0, rfl⟩ := len1 h; rfl) (F_law_walk.2 G n L h8 hint_divmod)
noncomputable def D_div2n1n : FD := { names := ["a", "b", "n", "pad", "half_n", "mask", "b1", "b2", "q1", "r", "q2"], scope := (f1 21).scope }
noncomputable def F_div2n1n : { F : AS → Option (Fl × AS) // ∀ (G : GC) (n : Nat), L1 G → 8 < n → SS G D_div2n1n false n (bodyOf (f1 21)) F } :=
  ⟨_, fun G n L h8  =>
   (SS.cons (S1.ite (ST.cmp (SE.bin (SE.bitlen (SE.nm 0 (by decide +kernel))) (SE.nm 2 (by decide +kernel)) op_sub) (SE.gi L.ok (by decide +kernel) (L.gn__DIV_LIMIT)) op_le) (SS.cons (S1.ret (SE.cl L.ok (by decide +kernel) L.gn_divmod .builtin divmod_ok (SEs.cons (SE.nm 0 (by decide +kernel)) (SEs.cons (SE.nm 1 (by decide +kernel)) SEs.nil)))) SS.nil) SS.nil) SS.dead)⟩
noncomputable def K_div2n1n : List AV → Option AV := fnKR D_div2n1n ["a", "b", "n"] (fun σ => (F_div2n1n.1 σ).bind fun x => some x.1)
theorem ok_div2n1n {G : GC} {n : Nat} (L : L1 G) (h8 : 8 < n)  : CallOk G false (n + 1) (.ref 21) K_div2n1n :=
  fn_ok L.ok (L.fnAt2 21) rfl rfl (fnChkB_ok (by decide +kernel)) (by intro vs h; obtain ⟨v0, v1, v2, rfl⟩ := len3 h; rfl) (F_div2n1n.2 G n L h8 )
end Mine
namespace Mine
noncomputable def defOf : List Stmt → Stmt
  | st :: _ => st
  | _ => .Pass default
noncomputable def defBody : Stmt → List Stmt
  | .FunctionDef _ _ b _ _ _ _ _ _ _ => b
  | _ => []
noncomputable def defScope : Stmt → Scope
  | .FunctionDef _ _ _ _ _ _ sc _ _ _ => sc
  | _ => default
noncomputable def defPos : Stmt → Pos
  | .FunctionDef _ _ _ _ _ _ _ _ _ p => p
  | _ => default
noncomputable def dD : Stmt := defOf (bodyOf (f1 42))
noncomputable def dI : Stmt := defOf ((bodyOf (f1 35)).drop 1)
noncomputable def fdD (cl : List (PySem.Str × Addr)) : FD := { names := ["L", "R", "inner", "digits", "n", "mid", "shift"], scope := defScope dD, clo := cl }
abbrev KT := List AV → Option (Nat × List AV) → List AV → Option (AV × Option (Nat × List AV))
structure ClFacts (scope : Scope) (cl : List (PySem.Str × Addr)) : Prop where
  clos : ClosOk cl
  all : ∀ y, (y, NameKind.free) ∈ scope.names → ∃ c, cl.lookup y = some c
  conv : ∀ y c, cl.lookup y = some c → (y, NameKind.free) ∈ scope.names
theorem capD {cl : List (PySem.Str × Addr)} (h : ClFacts (defScope dD) cl) : CapAt (fdD cl) cl [2, 3, 4] ["inner", "digits", "n"] := by
  obtain ⟨c1, h1⟩ := h.all "inner" (by decide +kernel)
  obtain ⟨c2, h2⟩ := h.all "digits" (by decide +kernel)
  obtain ⟨c3, h3⟩ := h.all "n" (by decide +kernel)
  exact .cons rfl (.inr (by show (defScope dD).names.lookup _ = _; decide +kernel)) h1 (.cons rfl (.inr (by show (defScope dD).names.lookup _ = _; decide +kernel)) h2 (.cons rfl (.inr (by show (defScope dD).names.lookup _ = _; decide +kernel)) h3 .nil))
noncomputable def FinD (f : Addr) (K : KT) : { F : AS → Option (Fl × AS) // ∀ (G : GC) (n : Nat) (cl : List (PySem.Str × Addr)), 8 < n → KeepOk G (.ref f) → ClFacts (defScope dD) cl → (∀ cv, CallX G true n (fdD cl) f cl ["inner", "digits", "n"] cv (K cv)) → SS G (fdD cl) true n (defBody dD) F } :=
  ⟨_, fun G n cl h8 hk hc hcall =>
    (SS.cons (S1.ite (ST.cmp (SE.bin (SE.nm 0 (by change nameChk (fdD []) _ _ = true; decide +kernel)) SE.int op_add) (SE.nm 1 (by change nameChk (fdD []) _ _ = true; decide +kernel)) (op_eq h8))
        (SS.cons (S1.ret (SE.sub (SE.nm 3 (by change nameChk (fdD []) _ _ = true; decide +kernel)) (SE.nm 0 (by change nameChk (fdD []) _ _ = true; decide +kernel)))) SS.nil) SS.nil)
    (SS.cons (S1.asg 5 (by change stoChk (fdD []) _ _ = true; decide +kernel) (SE.bin (SE.bin (SE.nm 0 (by change nameChk (fdD []) _ _ = true; decide +kernel)) (SE.nm 1 (by change nameChk (fdD []) _ _ = true; decide +kernel)) op_add) SE.int op_rsh))
    (SS.cons (S1.asg 6 (by change stoChk (fdD []) _ _ = true; decide +kernel) (SE.bin (SE.bin (SE.nm 5 (by change nameChk (fdD []) _ _ = true; decide +kernel)) (SE.nm 0 (by change nameChk (fdD []) _ _ = true; decide +kernel)) op_sub) (SE.nm 4 (by change nameChk (fdD []) _ _ = true; decide +kernel)) op_mul))
    (SS.cons (S1.ret (SE.bin (SE.bin
        (SE.callv (i := 2) rfl (by decide +kernel) (by decide +kernel) hk (SEs.cons (SE.nm 5 (by change nameChk (fdD []) _ _ = true; decide +kernel)) (SEs.cons (SE.nm 1 (by change nameChk (fdD []) _ _ = true; decide +kernel)) SEs.nil)) hc.clos (fun _ _ h => h) (capD hc) hcall)
        (SE.nm 6 (by change nameChk (fdD []) _ _ = true; decide +kernel)) op_lsh)
        (SE.callv (i := 2) rfl (by decide +kernel) (by decide +kernel) hk (SEs.cons (SE.nm 0 (by change nameChk (fdD []) _ _ = true; decide +kernel)) (SEs.cons (SE.nm 5 (by change nameChk (fdD []) _ _ = true; decide +kernel)) SEs.nil)) hc.clos (fun _ _ h => h) (capD hc) hcall) op_add)) SS.nil))))⟩
end Mine
namespace Mine
noncomputable def dsum (n : Nat) : List Int → Int
  | [] => 0
  | d :: r => d + dsum n r * 2 ^ n
theorem dsum_append (n : Nat) : ∀ a b : List Int, dsum n (a ++ b) = dsum n a + dsum n b * 2 ^ (n * a.length)
  | [], b => by simp [dsum]
  | d :: a, b => by
    rw [List.cons_append, dsum, dsum_append n a b, dsum, List.length_cons, Nat.mul_add, Nat.mul_one, Int.pow_add]
    rw [Int.add_mul, Int.mul_assoc, Int.add_assoc]
theorem dsum_bound (n : Nat) : ∀ a : List Int, (∀ d ∈ a, 0 ≤ d ∧ d < 2 ^ n) → 0 ≤ dsum n a ∧ dsum n a < 2 ^ (n * a.length)
  | [], _ => by simp [dsum]
  | d :: a, h => by
    obtain ⟨h1, h2⟩ := h d (.head _)
    obtain ⟨h3, h4⟩ := dsum_bound n a fun e he => h e (.tail _ he)
    rw [dsum, List.length_cons, Nat.mul_add, Nat.mul_one, Int.pow_add]
    have h5 : (0 : Int) < 2 ^ n := Int.pow_pos (by decide)
    refine ⟨Int.add_nonneg h1 (Int.mul_nonneg h3 (Int.le_of_lt h5)), ?_⟩
    have : (dsum n a + 1) * 2 ^ n ≤ 2 ^ (n * a.length) * 2 ^ n := Int.mul_le_mul_of_nonneg_right (by omega) (Int.le_of_lt h5)
    rw [Int.add_mul, Int.one_mul] at this
    omega
theorem natAbs_lt_lim {i : Int} {m : Nat} (h0 : 0 ≤ i) (h : i < 2 ^ m) (hm : m ≤ 200) : i.natAbs < lim := by
  have h3 : i.natAbs < 2 ^ m := by
    have : ((i.natAbs : Nat) : Int) = i := Int.natAbs_of_nonneg h0
    have h2 : (((2 : Nat) ^ m : Nat) : Int) = (2 : Int) ^ m := by simp
    rw [← h2, ← this] at h
    exact Int.ofNat_lt.mp h
  exact Nat.lt_of_lt_of_le h3 (Nat.le_trans (Nat.pow_le_pow_right (by decide) hm) (by unfold lim; exact Nat.le_refl _))
theorem okI_of_lt {i : Int} {m : Nat} (h0 : 0 ≤ i) (h : i < 2 ^ m) (hm : m ≤ 200) : okI i = true := by
  unfold okI
  exact decide_eq_true (natAbs_lt_lim h0 h hm)
noncomputable def asgS (i : Nat) (f : AS → Option AV) (σ : AS) : Option (Fl × AS) := (f σ).bind fun a => some (.next, setL i a σ)
noncomputable def retS (f : AS → Option AV) (σ : AS) : Option (Fl × AS) := (f σ).bind fun a => some (.ret a, σ)
noncomputable def nxS (σ : AS) : Option (Fl × AS) := some (.next, σ)
noncomputable def iteS (c : AS → Option Bool) (F H : AS → Option (Fl × AS)) (σ : AS) : Option (Fl × AS) := (c σ).bind fun b => if b then F σ else H σ
noncomputable def binE (f g : AS → Option AV) (k : AV → AV → Option AV) (σ : AS) : Option AV := (f σ).bind fun a => (g σ).bind fun b => k a b
noncomputable def cE (i : Int) (_ : AS) : Option AV := some (.int i)
noncomputable def cmpT (f g : AS → Option AV) (k : AV → AV → Option AV) (σ : AS) : Option Bool := (f σ).bind fun a => (g σ).bind fun b => (k a b).bind truth
noncomputable def consE (f : AS → Option AV) (g : AS → Option (List AV)) (σ : AS) : Option (List AV) := (f σ).bind fun a => (g σ).bind fun l => some (a :: l)
noncomputable def nilE (_ : AS) : Option (List AV) := some []
noncomputable def callE (i : Nat) (f : Addr) (js : List Nat) (g : AS → Option (List AV)) (K : KT) (σ : AS) : Option AV := (gv i σ).bind fun a => (isFn f a).bind fun _ => (capVals js σ).bind fun cv => (g σ).bind fun as => (K cv none as).bind fun r => some r.1
noncomputable def finD (f : Addr) (K : KT) : AS → Option (Fl × AS) :=
  seqF (iteS (cmpT (binE (gv 0) (cE 1) addV) (gv 1) eqV) (seqF (retS (binE (gv 3) (gv 0) fun a b => idxV a b)) nxS) nxS)
  (seqF (asgS 5 (binE (binE (gv 0) (gv 1) addV) (cE 1) rshV))
  (seqF (asgS 6 (binE (binE (gv 5) (gv 0) subV) (gv 4) mulV))
  (seqF (retS (binE (binE (callE 2 f [2, 3, 4] (consE (gv 5) (consE (gv 1) nilE)) K) (gv 6) lshV) (callE 2 f [2, 3, 4] (consE (gv 0) (consE (gv 5) nilE)) K) addV)) nxS)))
theorem FinD_eq (f : Addr) (K : KT) : (FinD f K).1 = finD f K := rfl
noncomputable def KD (f : Addr) : Nat → KT
  | 0 => fun _ _ _ => none
  | k + 1 => fun cv own as => KX (fdD []) ["L", "R"] ["inner", "digits", "n"] (finD f (KD f k)) cv own as
theorem KD_succ (f : Addr) (k : Nat) : KD f (k + 1) = fun cv own as => KX (fdD []) ["L", "R"] ["inner", "digits", "n"] (finD f (KD f k)) cv own as := rfl
theorem KX_D {f : Addr} {K : KT} {a b c d e : AV} {r : AV} {σ' : AS} (h : (finD f K) ⟨[some a, some b, some c, some d, some e, none, none], none⟩ = some (.ret r, σ')) (ho : σ'.own = none) :
    KX (fdD []) ["L", "R"] ["inner", "digits", "n"] (finD f K) [c, d, e] none [a, b] = some (r, none) := by
  unfold KX
  rw [if_pos ⟨rfl, rfl⟩]
  show (((finD f K) ⟨[some a, some b, some c, some d, some e, none, none], none⟩).bind _) = _
  rw [h]
  show ((flVal (.ret r)).bind fun a => (ownBack none σ'.own).bind fun o => some (a, o)) = _
  rw [ho]
  rfl
theorem take_split {α : Type} (l : List α) (L M R : Nat) (h1 : L ≤ M) (h2 : M ≤ R) : (l.drop L).take (R - L) = (l.drop L).take (M - L) ++ (l.drop M).take (R - M) := by
  have e : R - L = (M - L) + (R - M) := by rw [← Nat.sub_add_comm h1, Nat.add_sub_cancel' h2]
  rw [e, List.take_add, List.drop_drop, Nat.add_sub_cancel' h1]
theorem neg_lt_nat (i : Nat) : (-1000000 : Int) < (i : Int) := Int.lt_of_lt_of_le (by decide) (Int.natCast_nonneg i)
theorem nat_lt_m {i : Nat} (h : i ≤ 100000) : (i : Int) < 1000000 := Int.ofNat_lt.mpr (Nat.lt_of_le_of_lt h (by decide))
theorem okI_small {m : Nat} (h : m ≤ 100000) : okI (m : Int) = true := decide_eq_true (Nat.lt_of_le_of_lt h (Nat.lt_of_lt_of_le (by decide : 100000 < 2 ^ 20) (Nat.pow_le_pow_right (by decide) (by decide))))
theorem le_m {s : Nat} (h : s < 200) : (s : Int) ≤ 100000 := Int.ofNat_le.mpr (Nat.le_trans (Nat.le_of_lt h) (by decide))
theorem mid_le {L M R : Nat} (h : M < R) : M - L ≤ R - L - 1 := Nat.le_trans (Nat.sub_le_sub_right (Nat.le_sub_one_of_lt h) L) (Nat.le_of_eq (Nat.sub_right_comm R 1 L))
theorem idxV_lst {l : List AV} {i : Nat} (h : i < l.length) (hl : l.length ≤ 100000) : idxV (.lst l) (.int (i : Int)) = l[i]? := by
  have h1 : (decide (-1000000 < (i : Int)) && decide ((i : Int) < 1000000)) = true := by
    rw [decide_eq_true (neg_lt_nat i), decide_eq_true (nat_lt_m (Nat.le_trans (Nat.le_of_lt h) hl))]; rfl
  have h2 : idxV (.lst l) (.int (i : Int)) = guardO (decide (-1000000 < (i : Int)) && decide ((i : Int) < 1000000)) (idx l i) := rfl
  rw [h2, h1]
  show idx l (i : Int) = _
  unfold idx
  rw [if_pos (Int.natCast_nonneg i), Int.toNat_natCast]


theorem seqF_ret {F H : AS → Option (Fl × AS)} {σ σ' : AS} {a : AV} (h : F σ = some (.ret a, σ')) : seqF F H σ = some (.ret a, σ') := by unfold seqF; rw [h]; rfl
theorem seqF_nx {F H : AS → Option (Fl × AS)} {σ σ' : AS} {r : Option (Fl × AS)} (h : F σ = some (.next, σ')) (h' : H σ' = r) : seqF F H σ = r := by unfold seqF; rw [h]; exact h'
theorem iteS_t {c : AS → Option Bool} {F H : AS → Option (Fl × AS)} {σ : AS} {r : Option (Fl × AS)} (h : c σ = some true) (h' : F σ = r) : iteS c F H σ = r := by unfold iteS; rw [h]; exact h'
theorem iteS_f {c : AS → Option Bool} {F H : AS → Option (Fl × AS)} {σ : AS} {r : Option (Fl × AS)} (h : c σ = some false) (h' : H σ = r) : iteS c F H σ = r := by unfold iteS; rw [h]; exact h'
theorem cmpT_eq {f g : AS → Option AV} {k : AV → AV → Option AV} {σ : AS} {a b d : AV} {r : Option Bool} (h1 : f σ = some a) (h2 : g σ = some b) (h3 : k a b = some d) (h4 : truth d = r) : cmpT f g k σ = r := by unfold cmpT; rw [h1]; show ((g σ).bind _) = _; rw [h2]; show ((k a b).bind _) = _; rw [h3]; exact h4
theorem binE_eq {f g : AS → Option AV} {k : AV → AV → Option AV} {σ : AS} {a b : AV} {r : Option AV} (h1 : f σ = some a) (h2 : g σ = some b) (h3 : k a b = r) : binE f g k σ = r := by unfold binE; rw [h1]; show ((g σ).bind _) = _; rw [h2]; exact h3
theorem retS_eq {f : AS → Option AV} {σ : AS} {a : AV} (h : f σ = some a) : retS f σ = some (.ret a, σ) := by unfold retS; rw [h]; rfl
theorem asgS_eq {i : Nat} {f : AS → Option AV} {σ : AS} {a : AV} (h : f σ = some a) : asgS i f σ = some (.next, setL i a σ) := by unfold asgS; rw [h]; rfl
theorem L1a (f : Addr) (K : KT) (ds : List Int) (n : Nat) (L : Nat) (d : Int) (hi : idxV (.lst (ds.map .int)) (.int (L : Int)) = some (.int d)) (e2 : ((L : Int) + 1 = ((L + 1 : Nat) : Int))) :
    finD f K ⟨[some (.int L), some (.int ((L + 1 : Nat) : Int)), some (.fn f), some (.lst (ds.map .int)), some (.int n), none, none], none⟩ = some (.ret (.int d), ⟨[some (.int L), some (.int ((L + 1 : Nat) : Int)), some (.fn f), some (.lst (ds.map .int)), some (.int n), none, none], none⟩) := by
  have he : eqV (.int ((L : Int) + 1)) (.int ((L + 1 : Nat) : Int)) = some (.bool true) := by
    have : eqV (.int ((L : Int) + 1)) (.int ((L + 1 : Nat) : Int)) = some (.bool (decide ((L : Int) + 1 = ((L + 1 : Nat) : Int)))) := rfl
    rw [this, decide_eq_true e2]
  unfold finD
  exact seqF_ret (iteS_t (cmpT_eq (a := .int ((L : Int) + 1)) (binE_eq (a := .int L) (b := .int 1) rfl rfl rfl) rfl he rfl) (seqF_ret (retS_eq (binE_eq rfl rfl hi))))

theorem callE_eq {i : Nat} {f : Addr} {js : List Nat} {g : AS → Option (List AV)} {K : KT} {σ : AS} {cv as : List AV} {r : AV} (h1 : gv i σ = some (.fn f)) (h2 : capVals js σ = some cv) (h3 : g σ = some as) (h4 : K cv none as = some (r, none)) : callE i f js g K σ = some r := by
  unfold callE
  rw [h1]
  show ((isFn f (.fn f)).bind _) = _
  have : isFn f (.fn f) = some () := if_pos rfl
  rw [this]
  show ((capVals js σ).bind _) = _
  rw [h2]
  show ((g σ).bind _) = _
  rw [h3]
  show ((K cv none as).bind _) = _
  rw [h4]
  rfl
theorem KD_leaf (f : Addr) (ds : List Int) (n : Nat) (hlen : ds.length ≤ 100000) (k L : Nat) (hL : L < ds.length) :
    KD f (k + 1) [.fn f, .lst (ds.map .int), .int n] none [.int L, .int ((L + 1 : Nat) : Int)] = some (.int (dsum n ((ds.drop L).take 1)), none) := by
  have hi : idxV (.lst (ds.map .int)) (.int (L : Int)) = some (.int ds[L]) := by
    rw [idxV_lst (by rw [List.length_map]; exact hL) (by rw [List.length_map]; exact hlen), List.getElem?_map, List.getElem?_eq_getElem hL]
    rfl
  have hr : dsum n ((ds.drop L).take 1) = ds[L] := by
    rw [List.drop_eq_getElem_cons hL, List.take_succ_cons, List.take_zero]
    unfold dsum dsum
    rw [Int.zero_mul, Int.add_zero]
  rw [hr, KD_succ]
  exact KX_D (K := KD f k) (L1a f (KD f k) ds n L _ hi rfl) rfl
theorem KD_node (f : Addr) (ds : List Int) (n : Nat) (k L M R : Nat) (hM : M = (L + R) / 2) (h1 : L + 1 < R) (hLM : L < M) (hMR : M < R) (hn : n ≤ 200) (hRR : R ≤ 100000) (h4 : n * (R - L - 1) < 200) {hi lo : Int}
    (e1 : KD f k [.fn f, .lst (ds.map .int), .int n] none [.int M, .int R] = some (.int hi, none)) (e2 : KD f k [.fn f, .lst (ds.map .int), .int n] none [.int L, .int M] = some (.int lo, none)) (hh : okI hi = true) :
    KD f (k + 1) [.fn f, .lst (ds.map .int), .int n] none [.int L, .int R] = some (.int (hi * 2 ^ (n * (M - L)) + lo), none) := by
  have e3 : ¬ ((L : Int) + 1 = (R : Int)) := fun h => Nat.ne_of_lt h1 (Int.ofNat.inj h)
  have e4 : ((L : Int) + (R : Int)).fdiv (2 ^ (1 : Int).toNat) = (M : Int) := by
    rw [hM]
    show Int.fdiv _ 2 = _
    rw [← Int.natCast_add]
    exact Int.ofNat_fdiv _ 2 ▸ rfl
  have e5 : (M : Int) - (L : Int) = ((M - L : Nat) : Int) := (Int.ofNat_sub (Nat.le_of_lt hLM)).symm
  have e6 : okI (((M - L : Nat) : Int)) = true := okI_small (Nat.le_trans (Nat.sub_le M L) (Nat.le_trans (Nat.le_of_lt hMR) hRR))
  have e7 : okI (n : Int) = true := okI_small (Nat.le_trans hn (by decide))
  have e8 : ((M - L : Nat) : Int) * (n : Int) = ((n * (M - L) : Nat) : Int) := by rw [Int.natCast_mul, Int.mul_comm]
  have e9 : n * (M - L) < 200 := Nat.lt_of_le_of_lt (Nat.mul_le_mul_left n (mid_le hMR)) h4
  have g1 : mulV (.int ((M - L : Nat) : Int)) (.int n) = some (.int ((n * (M - L) : Nat) : Int)) := by
    show guardO (okI _ && okI _) _ = _
    rw [e6, e7, e8]; rfl
  have g2 : lshV (.int hi) (.int ((n * (M - L) : Nat) : Int)) = some (.int (hi * 2 ^ (n * (M - L)))) := by
    show guardO (okI hi && decide _ && decide _) _ = _
    rw [hh, decide_eq_true (Int.natCast_nonneg _), decide_eq_true (le_m e9), Int.toNat_natCast]; rfl
  have g3 : rshV (.int ((L : Int) + (R : Int))) (.int 1) = some (.int M) := by
    show guardO (decide ((0 : Int) ≤ 1)) (some (AV.int (((L : Int) + (R : Int)).fdiv (2 ^ (1 : Int).toNat)))) = _
    rw [e4]; rfl
  have he : eqV (.int ((L : Int) + 1)) (.int (R : Int)) = some (.bool false) := by
    have : eqV (.int ((L : Int) + 1)) (.int (R : Int)) = some (.bool (decide ((L : Int) + 1 = (R : Int)))) := rfl
    rw [this, decide_eq_false e3]
  have hs : subV (.int (M : Int)) (.int (L : Int)) = some (.int ((M - L : Nat) : Int)) := by
    show some (AV.int ((M : Int) - (L : Int))) = _
    rw [e5]
  rw [KD_succ]
  refine KX_D (K := KD f k) (σ' := ⟨[some (.int L), some (.int R), some (.fn f), some (.lst (ds.map .int)), some (.int n), some (.int M), some (.int ((n * (M - L) : Nat) : Int))], none⟩) ?_ rfl
  unfold finD
  refine seqF_nx (iteS_f (cmpT_eq (a := .int ((L : Int) + 1)) (binE_eq (a := .int L) (b := .int 1) rfl rfl rfl) rfl he rfl) rfl) ?_
  refine seqF_nx (asgS_eq (binE_eq (a := .int ((L : Int) + (R : Int))) (b := .int 1) (binE_eq (a := .int L) (b := .int R) rfl rfl rfl) rfl g3)) ?_
  refine seqF_nx (asgS_eq (binE_eq (b := .int n) (binE_eq (a := .int M) (b := .int L) rfl rfl hs) rfl g1)) ?_
  refine seqF_ret (retS_eq (binE_eq (binE_eq (b := .int ((n * (M - L) : Nat) : Int)) (callE_eq rfl rfl rfl e1) rfl g2) (callE_eq rfl rfl rfl e2) rfl))
theorem mid {L R k : Nat} (h1 : L < R) (h2 : ¬ R = L + 1) (h : R - L ≤ 2 ^ (k + 1)) : ∃ M, M = (L + R) / 2 ∧ L + 1 < R ∧ L < M ∧ M < R ∧ M - L ≤ 2 ^ k ∧ R - M ≤ 2 ^ k := by
  rw [Nat.pow_succ] at h
  have h3 : L + 1 < R := Nat.lt_of_le_of_ne h1 fun e => h2 e.symm
  have h4 : R ≤ L + 2 ^ k * 2 := Nat.sub_le_iff_le_add'.mp h
  refine ⟨_, rfl, h3, (Nat.le_div_iff_mul_le (by decide)).mpr ?_, Nat.div_lt_of_lt_mul ?_, Nat.sub_le_iff_le_add'.mpr (Nat.div_le_of_le_mul ?_), ?_⟩
  · rw [Nat.succ_mul, Nat.mul_two, Nat.add_assoc]
    exact Nat.add_le_add_left h3 L
  · rw [Nat.two_mul]
    exact Nat.add_lt_add_right h1 R
  · rw [Nat.two_mul, Nat.add_assoc]
    refine Nat.add_le_add_left (Nat.le_trans h4 (Nat.le_of_eq ?_)) L
    rw [Nat.mul_two, Nat.add_left_comm]
  · rw [Nat.sub_le_iff_le_add, ← Nat.sub_le_iff_le_add', Nat.le_div_iff_mul_le (by decide), Nat.sub_mul, Nat.sub_le_iff_le_add, Nat.mul_two, Nat.add_right_comm]
    exact Nat.add_le_add_right h4 R
theorem KD_val (f : Addr) (ds : List Int) (n : Nat) (hd : ∀ d ∈ ds, 0 ≤ d ∧ d < 2 ^ n) (hlen : ds.length ≤ 100000) (hn : n ≤ 200) : ∀ (k L R : Nat), L < R → R ≤ ds.length → R - L ≤ 2 ^ k → n * (R - L - 1) < 200 →
    KD f (k + 1) [.fn f, .lst (ds.map .int), .int n] none [.int L, .int R] = some (.int (dsum n ((ds.drop L).take (R - L))), none) := by
  intro k
  induction k with
  | zero =>
    intro L R h1 h2 h3 h4
    have : R = L + 1 := Nat.le_antisymm (Nat.sub_le_iff_le_add'.mp h3) h1
    subst this
    rw [Nat.add_sub_cancel_left]
    exact KD_leaf f ds n hlen 0 L h2
  | succ k ih =>
    intro L R h1 h2 h3 h4
    by_cases hLR : R = L + 1
    · subst hLR
      rw [Nat.add_sub_cancel_left]
      exact KD_leaf f ds n hlen (k + 1) L h2
    · obtain ⟨M, eM, h5, hM1, hM2, p1, p2⟩ := mid h1 hLR h3
      have q1 : R - M ≤ R - L - 1 := Nat.sub_le_sub_left hM1 R
      have q2 : M - L ≤ R - L - 1 := mid_le hM2
      have i1 := ih M R hM2 h2 p2 (Nat.lt_of_le_of_lt (Nat.mul_le_mul_left n (Nat.le_trans (Nat.sub_le _ _) q1)) h4)
      have i2 := ih L M hM1 (Nat.le_trans (Nat.le_of_lt hM2) h2) p1 (Nat.lt_of_le_of_lt (Nat.mul_le_mul_left n (Nat.le_trans (Nat.sub_le _ _) q2)) h4)
      have hb := dsum_bound n ((ds.drop M).take (R - M)) fun d h => hd d (List.mem_of_mem_drop (List.mem_of_mem_take h))
      have hl : ((ds.drop M).take (R - M)).length = R - M := by rw [List.length_take, List.length_drop]; exact Nat.min_eq_left (Nat.sub_le_sub_right h2 M)
      rw [hl] at hb
      have hk : okI (dsum n ((ds.drop M).take (R - M))) = true := okI_of_lt hb.1 hb.2 (Nat.le_of_lt (Nat.lt_of_le_of_lt (Nat.mul_le_mul_left n q1) h4))
      rw [KD_node f ds n (k + 1) L M R eM h5 hM1 hM2 hn (Nat.le_trans h2 hlen) h4 i1 i2 hk]
      rw [take_split ds L M R (Nat.le_of_lt hM1) (Nat.le_of_lt hM2), dsum_append]
      have hl2 : ((ds.drop L).take (M - L)).length = M - L := by rw [List.length_take, List.length_drop]; exact Nat.min_eq_left (Nat.sub_le_sub_right (Nat.le_trans (Nat.le_of_lt hM2) h2) L)
      rw [hl2, Int.add_comm]
end Mine
namespace Mine
theorem CallX.lift {G : GC} {p : Bool} {n : Nat} {fd : FD} {f : Addr} {cl : List (PySem.Str × Addr)} {cs : List PySem.Str} {cv : List AV} {K : Option (Nat × List AV) → List AV → Option (AV × Option (Nat × List AV))} (h : CallX G true n fd f cl cs cv K) : CallX G p n fd f cl cs cv K :=
  fun A s B as vs own oa c own' R S h1 h2 h3 h4 hv hk => wpN (h A s B as vs own oa c own' R S h1 h2 h3 h4 hv hk) fun _ _ q => ⟨⟨q.1.ex, fun b o e n _ => q.1.heap b o e n (.inl rfl), fun _ => q.1.gens rfl, q.1.bare, q.1.tabs, q.1.there⟩, q.2⟩
noncomputable def defParams : Stmt → Arguments
  | .FunctionDef _ a _ _ _ _ _ _ _ _ => a
  | _ => default
noncomputable def fnD (qn : PySem.Str) (cl : List (PySem.Str × Addr)) (doc pm cdv ctv : Value) : FuncData := fnX "inner" qn (defParams dD) (defBody dD) (defScope dD) cl .none .none doc pm none cdv ctv
theorem callD {G : GC} (hG : G.Ok) {f : Addr} {qn : PySem.Str} {cl : List (PySem.Str × Addr)} {doc pm cdv ctv : Value} (hat : ∃ o, G.st f o ∧ o.data = .func (fnD qn cl doc pm cdv ctv)) (hcode : ∃ c o vs t, cdv = .ref c ∧ G.st c o ∧ o.data = .fields vs ∧ vs[1]? = some (.str qn t)) (hc : ClFacts (defScope dD) cl) :
    ∀ (k : Nat) (cv : List AV), CallX G true (k + 10) (fdD cl) f cl ["inner", "digits", "n"] cv (KD f k cv)
  | 0, cv => fun A s B as vs own oa c own' R S h1 h2 h3 h4 hv hk => nomatch hk
  | k + 1, cv => by
    have hk : KeepOk G (.ref f) := by obtain ⟨o, h1, h2⟩ := hat; exact .fn h1 h2
    have hS := (FinD f (KD f k)).2 G (k + 10) cl (by omega) hk hc (callD hG hat hcode hc k)
    rw [FinD_eq] at hS
    have hfree : ∀ y ∈ (defScope dD).names, y.2 = .free → (defScope dD).names.lookup y.1 = some .free := by decide +kernel
    refine fn_okX (fdat := fnD qn cl doc pm cdv ctv) (fd := fdD cl) (ps := ["L", "R"]) hG hat hcode rfl rfl rfl rfl rfl ⟨by rfl, by decide +kernel, ?_, ?_, ?_, ?_, ?_, ?_, rfl, rfl, rfl⟩ hc.clos (fun x c h => hfree _ (hc.conv x c h) rfl) ?_ hS
    · show ∀ x ∈ (["L", "R"] : List PySem.Str), (defScope dD).names.lookup x = some .local
      decide +kernel
    · show ∀ x ∈ (["inner", "digits", "n"] : List PySem.Str), (defScope dD).names.lookup x = some .free
      decide +kernel
    · show ∀ x ∈ (defScope dD).names, x.2 ≠ .cell
      decide +kernel
    · show (defScope dD).kind = .function
      decide +kernel
    · show (defScope dD).isCoroutine = false
      decide +kernel
    · show (defScope dD).isGenerator = false
      decide +kernel
    · intro vs h
      obtain ⟨v0, v1, rfl⟩ := len2 h; rfl
end Mine
namespace Mine
theorem intsOf_eq : ∀ {l : List AV} {ds : List Int}, intsOf l = some ds → l = ds.map .int
  | [], _, h => by cases h; rfl
  | .int i :: r, _, h => by
    obtain ⟨l, hl, h2⟩ := bind_some h
    cases h2
    rw [List.map_cons, ← intsOf_eq hl]
  | .none :: _, _, h => nomatch h
  | .bool _ :: _, _, h => nomatch h
  | .str _ :: _, _, h => nomatch h
  | .tup _ :: _, _, h => nomatch h
  | .lst _ :: _, _, h => nomatch h
  | .range _ _ _ :: _, _, h => nomatch h
  | .fn _ :: _, _, h => nomatch h
structure L2 (G : GC) : Prop extends L1 G where
  t37 : G.Tab 37
  p37 : G.pl 37 = defPos dD
  q37 : G.pq 37 = "_digits2int.<locals>.inner"
  h37 : CodeHd G.g 41 37
  t30 : G.Tab 30
  p30 : G.pl 30 = defPos dI
  q30 : G.pq 30 = "_int2digits.<locals>.inner"
  h30 : CodeHd G.g 34 30
noncomputable def fd42 (cl : List (PySem.Str × Addr)) : FD := { names := ["digits", "n", "inner"], scope := (f1 42).scope, clo := cl, code := some 41, qual := some "_digits2int.<locals>." }
noncomputable def iteE (c : AS → Option Bool) (f g : AS → Option AV) (σ : AS) : Option AV := (c σ).bind fun b => if b then f σ else g σ
noncomputable def valT (f : AS → Option AV) (σ : AS) : Option Bool := (f σ).bind truth
noncomputable def kE (g : AS → Option (List AV)) (k : List AV → Option AV) (σ : AS) : Option AV := (g σ).bind k
noncomputable def out42 (f : Addr) : AS → Option (Fl × AS) := seqF (retS (iteE (valT (gv 0)) (callE 2 f [2, 0, 1] (consE (cE 0) (consE (kE (consE (gv 0) nilE) lenK) nilE)) (KD f 30)) (cE 0))) nxS
theorem capO {cl : List (PySem.Str × Addr)} (h : ClFacts (defScope dD) cl) : CapAt (fd42 cl) cl [2, 0, 1] ["inner", "digits", "n"] := by
  obtain ⟨c1, h1⟩ := h.all "inner" (by decide +kernel)
  obtain ⟨c2, h2⟩ := h.all "digits" (by decide +kernel)
  obtain ⟨c3, h3⟩ := h.all "n" (by decide +kernel)
  exact .cons rfl (.inl (by show (f1 42).scope.names.lookup _ = _; decide +kernel)) h1 (.cons rfl (.inl (by show (f1 42).scope.names.lookup _ = _; decide +kernel)) h2 (.cons rfl (.inl (by show (f1 42).scope.names.lookup _ = _; decide +kernel)) h3 .nil))
theorem ss42 {G : GC} {n : Nat} {cl : List (PySem.Str × Addr)} {f : Addr} (hG : G.Ok) (hlen : GName G "len" (.builtin "len")) (hk : KeepOk G (.ref f)) (hc : ClFacts (defScope dD) cl) (hn : 40 ≤ n) (hcall : ∀ cv, CallX G true 40 (fdD cl) f cl ["inner", "digits", "n"] cv (KD f 30 cv)) :
    SS G (fd42 cl) false n ((bodyOf (f1 42)).drop 1) (out42 f) :=
  (SS.cons (S1.ret (SE.ite (ST.val (SE.nm 0 (by change nameChk (fd42 []) _ _ = true; decide +kernel)))
    (SE.callv (i := 2) (fdc := fdD cl) rfl (by decide +kernel) (by decide +kernel) hk (SEs.cons SE.int (SEs.cons (SE.cl hG (by change gloChk (fd42 []) _ = true; decide +kernel) hlen .builtin len_ok (SEs.cons (SE.nm 0 (by change nameChk (fd42 []) _ _ = true; decide +kernel)) SEs.nil)) SEs.nil)) hc.clos (fun _ _ h => h) (capO hc) (fun cv => (hcall cv).lift.mono hn))
    SE.int)) SS.nil)

noncomputable def digOk (ds : List Int) (n : Int) : Bool := decide (0 ≤ n) && decide (n ≤ 200) && decide (ds.length ≤ 100000) && decide (ds.length ≤ 2 ^ 29) && decide (n.toNat * (ds.length - 1) < 200) && ds.all fun d => decide (0 ≤ d) && decide (d < 2 ^ n.toNat)
noncomputable def K_digits2int : List AV → Option AV
  | [.lst l, .int n] => (intsOf l).bind fun ds => guardO (digOk ds n) (some (.int (dsum n.toNat ds)))
  | _ => none
noncomputable def F42 (σ : AS) : Option Fl := if σ.loc.length = 3 then (gv 0 σ).bind fun a => (gv 1 σ).bind fun b => (K_digits2int [a, b]).bind fun r => some (.ret r) else none
theorem iteE_t {c : AS → Option Bool} {f g : AS → Option AV} {σ : AS} {r : Option AV} (h : c σ = some true) (h' : f σ = r) : iteE c f g σ = r := by unfold iteE; rw [h]; exact h'
theorem iteE_f {c : AS → Option Bool} {f g : AS → Option AV} {σ : AS} {r : Option AV} (h : c σ = some false) (h' : g σ = r) : iteE c f g σ = r := by unfold iteE; rw [h]; exact h'
theorem consE_eq {f : AS → Option AV} {g : AS → Option (List AV)} {σ : AS} {a : AV} {l : List AV} (h1 : f σ = some a) (h2 : g σ = some l) : consE f g σ = some (a :: l) := by unfold consE; rw [h1]; show ((g σ).bind _) = _; rw [h2]; rfl
theorem valT_eq {f : AS → Option AV} {σ : AS} {a : AV} {r : Option Bool} (h1 : f σ = some a) (h2 : truth a = r) : valT f σ = r := by unfold valT; rw [h1]; exact h2
theorem kE_eq {g : AS → Option (List AV)} {k : List AV → Option AV} {σ : AS} {l : List AV} {r : Option AV} (h1 : g σ = some l) (h2 : k l = r) : kE g k σ = r := by unfold kE; rw [h1]; exact h2
theorem capVals3 {i j k : Nat} {σ : AS} {a b c : AV} (h1 : gv i σ = some a) (h2 : gv j σ = some b) (h3 : gv k σ = some c) : capVals [i, j, k] σ = some [a, b, c] := by
  unfold capVals capVals capVals capVals; rw [h1, h2, h3]; rfl
theorem gv_set_ne {i j : Nat} {a : AV} {σ : AS} (h : i ≠ j) : gv j (setL i a σ) = gv j σ := by
  unfold gv setL
  rw [List.getElem?_set_ne h]
theorem out42_ok (f : Addr) (σ : AS) (l : List AV) (n : Int) (r : AV) (h0 : gv 0 σ = some (.lst l)) (h1 : gv 1 σ = some (.int n)) (h2 : gv 2 σ = some (.fn f)) (hr : K_digits2int [.lst l, .int n] = some r) : out42 f σ = some (.ret r, σ) := by
  obtain ⟨ds, hd, hg⟩ := bind_some hr
  obtain ⟨hok, hg⟩ := guardO_some hg
  cases hg
  have := intsOf_eq hd
  subst this
  unfold digOk at hok
  simp only [Bool.and_eq_true, decide_eq_true_eq, List.all_eq_true] at hok
  obtain ⟨⟨⟨⟨⟨a1, a2⟩, a3⟩, a4⟩, a5⟩, a6⟩ := hok
  obtain ⟨m, rfl⟩ := Int.eq_ofNat_of_zero_le a1
  rw [Int.toNat_natCast] at *
  unfold out42
  refine seqF_ret (retS_eq ?_)
  cases ds with
  | nil =>
    refine iteE_f (valT_eq h0 ?_) rfl
    rfl
  | cons d ds =>
    have hl : ((d :: ds).map AV.int).length = ds.length + 1 := by simp
    have ht : truth (.lst ((d :: ds).map AV.int)) = some true := by
      show (if ((d :: ds).map AV.int).length ≤ 100000 then some (!((d :: ds).map AV.int).isEmpty) else Option.none) = _
      rw [if_pos (by rw [hl]; exact a3)]
      rfl
    refine iteE_t (valT_eq h0 ht) ?_
    have hlen : lenK [.lst ((d :: ds).map AV.int)] = some (.int ((ds.length + 1 : Nat) : Int)) := by
      show guardO (decide (((d :: ds).map AV.int).length ≤ 100000)) (some (AV.int (((d :: ds).map AV.int).length : Nat))) = _
      rw [hl, decide_eq_true (by exact a3)]
      rfl
    have hv := KD_val f (d :: ds) m (fun e he => a6 e he) a3 (by omega) 29 0 (ds.length + 1) (by omega) (Nat.le_refl _) (by exact a4) (by exact a5)
    have e : ((d :: ds).drop 0).take (ds.length + 1 - 0) = d :: ds := by
      rw [List.drop_zero, Nat.sub_zero, List.take_of_length_le (by simp)]
    rw [e] at hv
    exact callE_eq h2 (capVals3 h2 h0 h1) (consE_eq rfl (consE_eq (kE_eq (consE_eq h0 rfl) hlen) rfl)) hv
end Mine
namespace Mine
theorem CallOk.weak {G : GC} {p : Bool} {n : Nat} {fv : Value} {k k' : List AV → Option AV} (h : CallOk G p n fv k) (hk : ∀ as c, k' as = some c → k as = some c) : CallOk G p n fv k' :=
  fun A s B as vs c R S hv e => h A s B as vs c R S hv (hk as c e)
theorem sr42 {G : GC} (L : L2 G) {n : Nat} (hn : 40 ≤ n) : SR G (fd42 []) false n (bodyOf (f1 42)) F42 := by
  have e : bodyOf (f1 42) = .FunctionDef "inner" (defParams dD) (defBody dD) [] none [] (defScope dD) none "inner" (defPos dD) :: (bodyOf (f1 42)).drop 1 := rfl
  rw [e]
  refine SR.def (fd := fd42 []) (iI := 2) (q := "_digits2int.<locals>.") (F' := fun f σ => (out42 f σ).bind fun x => some x.1) L.ok L.bm L.t37 L.p37 L.q37 rfl rfl (by decide +kernel) L.h37 (by rfl) (by rfl) (fun _ => by rfl) (by decide +kernel) (stoChk_ok (by decide +kernel)) rfl ?_ ?_
  · intro σ fl f h
    unfold F42 at h
    split at h
    case isFalse => cases h
    case isTrue hlen =>
    obtain ⟨a, h0, h⟩ := bind_some h
    obtain ⟨b, h1, h⟩ := bind_some h
    obtain ⟨r, hr, h⟩ := bind_some h
    cases h
    have g2 : gv 2 (setL 2 (.fn f) σ) = some (.fn f) := by
      unfold gv setL
      rw [List.getElem?_set_self (by omega)]
      rfl
    cases a <;> try (cases hr; done)
    cases b <;> try (cases hr; done)
    show (out42 f (setL 2 (.fn f) σ)).bind _ = _
    rw [out42_ok f _ _ _ r ((gv_set_ne (by decide)).trans h0) ((gv_set_ne (by decide)).trans h1) g2 hr]
    rfl
  · intro G' f cl doc pm cdv ctv x
    have hG' := x.ok L.ok
    have hk : KeepOk G' (.ref f) := by obtain ⟨o, h1, h2⟩ := x.fn; exact .fn h1 h2
    have hlen : GName G' "len" (.builtin "len") := by
      obtain ⟨st', e⟩ := x.eq
      rw [e]
      have := L.gn_len
      cases this with
      | glob h => exact .glob h
      | boot h1 h2 h3 => exact .boot h1 h2 h3
    exact SR.of (ss42 hG' hlen hk ⟨x.clos, x.all, x.conv⟩ hn fun cv => callD hG' x.fn x.code ⟨x.clos, x.all, x.conv⟩ 30 cv)

theorem ok_digits2int {G : GC} (L : L2 G) {n : Nat} (hn : 40 ≤ n) : CallOk G false (n + 1) (.ref 42) K_digits2int := by
  have h := fn_okR (fd := fd42 []) (ps := ["digits", "n"]) L.ok (L.toL1.fnAt2 42) rfl rfl (fnChkB_ok (by decide +kernel)) (by intro vs h; obtain ⟨v0, v1, rfl⟩ := len2 h; rfl) (sr42 L hn)
    (by intro c h; cases h; rfl) (by intro q h; cases h; decide +kernel)
  refine h.weak fun as c hc => ?_
  have two : ∃ a b, as = [a, b] := by
    cases as with
    | nil => cases hc
    | cons a r =>
      cases r with
      | nil => cases a <;> cases hc
      | cons b r =>
        cases r with
        | nil => exact ⟨a, b, rfl⟩
        | cons d r => cases a <;> first | (cases hc; done) | (cases b <;> cases hc)
  obtain ⟨a, b, rfl⟩ := two
  · show (F42 ⟨[some a, some b, none], none⟩).bind flValR = some c
    have : F42 ⟨[some a, some b, none], none⟩ = (K_digits2int [a, b]).bind fun r => some (.ret r) := rfl
    rw [this, hc]
    rfl
end Mine
namespace Mine
theorem S1.retN {G : GC} {fd : FD} {p : Bool} {n : Nat} {pos : Pos} : S1 G fd p n (.Return Option.none pos) (fun σ => Option.some (.ret .none, σ)) := by
  refine ⟨?_⟩
  intro env A s oa X σ fl σ' R S hf
  cases hf
  exact wpAny_Return_none ⟨oa, Ks.refl, S, .ret .none⟩
noncomputable def fdI (cl : List (PySem.Str × Addr)) : FD := { names := ["x", "L", "R", "inner", "n", "a_digits", "mid", "shift", "upper", "lower"], scope := defScope dI, clo := cl }
theorem capI {cl : List (PySem.Str × Addr)} (h : ClFacts (defScope dI) cl) : CapAt (fdI cl) cl [3, 4] ["inner", "n"] := by
  obtain ⟨c1, h1⟩ := h.all "inner" (by decide +kernel)
  obtain ⟨c3, h3⟩ := h.all "n" (by decide +kernel)
  exact .cons rfl (.inr (by show (defScope dI).names.lookup _ = _; decide +kernel)) h1 (.cons rfl (.inr (by show (defScope dI).names.lookup _ = _; decide +kernel)) h3 .nil)
theorem capA {cl : List (PySem.Str × Addr)} (h : ClFacts (defScope dI) cl) : CapAt (fdI cl) cl [5] ["a_digits"] := by
  obtain ⟨c1, h1⟩ := h.all "a_digits" (by decide +kernel)
  exact .cons rfl (.inr (by show (defScope dI).names.lookup _ = _; decide +kernel)) h1 .nil
noncomputable def FinI (f : Addr) (K : KT) : { F : AS → Option (Fl × AS) // ∀ (G : GC) (n : Nat) (cl : List (PySem.Str × Addr)), 8 < n → KeepOk G (.ref f) → ClFacts (defScope dI) cl → (∀ cv, CallX G true n (fdI cl) f cl ["inner", "n"] cv (K cv)) → SS G (fdI cl) true n (defBody dI) F } :=
  ⟨_, fun G n cl h8 hk hc hcall =>
    (SS.cons (S1.ite (ST.cmp (SE.bin (SE.nm 1 (by change nameChk (fdI []) _ _ = true; decide +kernel)) SE.int op_add) (SE.nm 2 (by change nameChk (fdI []) _ _ = true; decide +kernel)) (op_eq h8))
        (SS.cons (S1.setitem (j := 5) (by decide +kernel) (by decide +kernel) rfl (SE.nm 1 (by change nameChk (fdI []) _ _ = true; decide +kernel)) (SE.nm 0 (by change nameChk (fdI []) _ _ = true; decide +kernel))) (SS.cons S1.retN SS.nil)) SS.nil)
    (SS.cons (S1.asg 6 (by change stoChk (fdI []) _ _ = true; decide +kernel) (SE.bin (SE.bin (SE.nm 1 (by change nameChk (fdI []) _ _ = true; decide +kernel)) (SE.nm 2 (by change nameChk (fdI []) _ _ = true; decide +kernel)) op_add) SE.int op_rsh))
    (SS.cons (S1.asg 7 (by change stoChk (fdI []) _ _ = true; decide +kernel) (SE.bin (SE.bin (SE.nm 6 (by change nameChk (fdI []) _ _ = true; decide +kernel)) (SE.nm 1 (by change nameChk (fdI []) _ _ = true; decide +kernel)) op_sub) (SE.nm 4 (by change nameChk (fdI []) _ _ = true; decide +kernel)) op_mul))
    (SS.cons (S1.asg 8 (by change stoChk (fdI []) _ _ = true; decide +kernel) (SE.bin (SE.nm 0 (by change nameChk (fdI []) _ _ = true; decide +kernel)) (SE.nm 7 (by change nameChk (fdI []) _ _ = true; decide +kernel)) op_rsh))
    (SS.cons (S1.asg 9 (by change stoChk (fdI []) _ _ = true; decide +kernel) (SE.bin (SE.nm 0 (by change nameChk (fdI []) _ _ = true; decide +kernel)) (SE.bin (SE.nm 8 (by change nameChk (fdI []) _ _ = true; decide +kernel)) (SE.nm 7 (by change nameChk (fdI []) _ _ = true; decide +kernel)) op_lsh) op_xor))
    (SS.cons (S1.callM (i := 3) (jA := 5) (jc := 5) rfl (by decide +kernel) (by decide +kernel) hk (SEs.cons (SE.nm 9 (by change nameChk (fdI []) _ _ = true; decide +kernel)) (SEs.cons (SE.nm 1 (by change nameChk (fdI []) _ _ = true; decide +kernel)) (SEs.cons (SE.nm 6 (by change nameChk (fdI []) _ _ = true; decide +kernel)) SEs.nil))) hc.clos (fun _ _ h => h) (capI hc) hcall (capA hc) rfl)
    (SS.cons (S1.callM (i := 3) (jA := 5) (jc := 5) rfl (by decide +kernel) (by decide +kernel) hk (SEs.cons (SE.nm 8 (by change nameChk (fdI []) _ _ = true; decide +kernel)) (SEs.cons (SE.nm 6 (by change nameChk (fdI []) _ _ = true; decide +kernel)) (SEs.cons (SE.nm 2 (by change nameChk (fdI []) _ _ = true; decide +kernel)) SEs.nil))) hc.clos (fun _ _ h => h) (capI hc) hcall (capA hc) rfl)
      SS.nil)))))))⟩
end Mine
namespace Mine
noncomputable def noneS (σ : AS) : Option (Fl × AS) := some (.ret .none, σ)
noncomputable def finI (f : Addr) (K : KT) : AS → Option (Fl × AS) :=
  seqF (iteS (cmpT (binE (gv 1) (cE 1) addV) (gv 2) eqV) (seqF (setF 5 (gv 1) (gv 0)) (seqF noneS nxS)) nxS)
  (seqF (asgS 6 (binE (binE (gv 1) (gv 2) addV) (cE 1) rshV))
  (seqF (asgS 7 (binE (binE (gv 6) (gv 1) subV) (gv 4) mulV))
  (seqF (asgS 8 (binE (gv 0) (gv 7) rshV))
  (seqF (asgS 9 (binE (gv 0) (binE (gv 8) (gv 7) lshV) xorV))
  (seqF (callMF 3 f [3, 4] 5 5 (consE (gv 9) (consE (gv 1) (consE (gv 6) nilE))) K)
  (seqF (callMF 3 f [3, 4] 5 5 (consE (gv 8) (consE (gv 6) (consE (gv 2) nilE))) K) nxS))))))
theorem FinI_eq (f : Addr) (K : KT) : (FinI f K).1 = finI f K := rfl
noncomputable def KI (f : Addr) : Nat → KT
  | 0 => fun _ _ _ => none
  | k + 1 => fun cv own as => KX (fdI []) ["x", "L", "R"] ["inner", "n"] (finI f (KI f k)) cv own as
theorem KI_succ (f : Addr) (k : Nat) : KI f (k + 1) = fun cv own as => KX (fdI []) ["x", "L", "R"] ["inner", "n"] (finI f (KI f k)) cv own as := rfl
noncomputable def fnI (qn : PySem.Str) (cl : List (PySem.Str × Addr)) (doc pm cdv ctv : Value) : FuncData := fnX "inner" qn (defParams dI) (defBody dI) (defScope dI) cl .none .none doc pm none cdv ctv
theorem callI {G : GC} (hG : G.Ok) {f : Addr} {qn : PySem.Str} {cl : List (PySem.Str × Addr)} {doc pm cdv ctv : Value} (hat : ∃ o, G.st f o ∧ o.data = .func (fnI qn cl doc pm cdv ctv)) (hcode : ∃ c o vs t, cdv = .ref c ∧ G.st c o ∧ o.data = .fields vs ∧ vs[1]? = some (.str qn t)) (hc : ClFacts (defScope dI) cl) :
    ∀ (k : Nat) (cv : List AV), CallX G true (k + 10) (fdI cl) f cl ["inner", "n"] cv (KI f k cv)
  | 0, cv => fun A s B as vs own oa c own' R S h1 h2 h3 h4 hv hk => nomatch hk
  | k + 1, cv => by
    have hk : KeepOk G (.ref f) := by obtain ⟨o, h1, h2⟩ := hat; exact .fn h1 h2
    have hS := (FinI f (KI f k)).2 G (k + 10) cl (by omega) hk hc (callI hG hat hcode hc k)
    rw [FinI_eq] at hS
    have hfree : ∀ y ∈ (defScope dI).names, y.2 = .free → (defScope dI).names.lookup y.1 = some .free := by decide +kernel
    refine fn_okX (fdat := fnI qn cl doc pm cdv ctv) (fd := fdI cl) (ps := ["x", "L", "R"]) hG hat hcode rfl rfl rfl rfl rfl ⟨by rfl, by decide +kernel, ?_, ?_, ?_, ?_, ?_, ?_, rfl, rfl, rfl⟩ hc.clos (fun x c h => hfree _ (hc.conv x c h) rfl) ?_ hS
    · show ∀ x ∈ (["x", "L", "R"] : List PySem.Str), (defScope dI).names.lookup x = some .local
      decide +kernel
    · show ∀ x ∈ (["inner", "n"] : List PySem.Str), (defScope dI).names.lookup x = some .free
      decide +kernel
    · show ∀ x ∈ (defScope dI).names, x.2 ≠ .cell
      decide +kernel
    · show (defScope dI).kind = .function
      decide +kernel
    · show (defScope dI).isCoroutine = false
      decide +kernel
    · show (defScope dI).isGenerator = false
      decide +kernel
    · intro vs h
      obtain ⟨v0, v1, v2, rfl⟩ := len3 h; rfl
end Mine
namespace Mine
theorem nat_and_high (x s : Nat) : x &&& (x / 2 ^ s * 2 ^ s) = x / 2 ^ s * 2 ^ s := by
  apply Nat.eq_of_testBit_eq
  intro i
  rw [Nat.testBit_and, ← Nat.shiftLeft_eq, Nat.testBit_shiftLeft, ← Nat.shiftRight_eq_div_pow, Nat.testBit_shiftRight]
  by_cases h : s ≤ i
  · have e : s + (i - s) = i := Nat.add_sub_cancel' h
    rw [e]
    simp [h]
  · simp [h]
theorem xor_low (x s : Nat) : Builtin.bitXor (x : Int) (((x / 2 ^ s : Nat) : Int) * 2 ^ s) = ((x % 2 ^ s : Nat) : Int) := by
  have e : (((x / 2 ^ s : Nat) : Int) * 2 ^ s) = ((x / 2 ^ s * 2 ^ s : Nat) : Int) := by rw [Int.natCast_mul, Int.natCast_pow]; rfl
  have ha : Builtin.bitAnd (x : Int) ((x / 2 ^ s * 2 ^ s : Nat) : Int) = ((x / 2 ^ s * 2 ^ s : Nat) : Int) := by
    rw [bitAnd_pp (Int.natCast_nonneg _) (Int.natCast_nonneg _), Int.toNat_natCast, Int.toNat_natCast, nat_and_high]
  have hm : x % 2 ^ s + x / 2 ^ s * 2 ^ s = x := by rw [Nat.mul_comm]; exact Nat.mod_add_div x (2 ^ s)
  rw [e]
  have hn : ∀ a : Nat, Builtin.bitNot (a : Int) < 0 := fun a => by unfold Builtin.bitNot; omega
  have hnn : ∀ a : Int, Builtin.bitNot (Builtin.bitNot a) = a := fun a => by unfold Builtin.bitNot; omega
  have ho : Builtin.bitOr (x : Int) ((x / 2 ^ s * 2 ^ s : Nat) : Int) = ((x ||| (x / 2 ^ s * 2 ^ s) : Nat) : Int) := by
    have h1 := hn x
    have h2 := hn (x / 2 ^ s * 2 ^ s)
    unfold Builtin.bitOr Builtin.bitAnd
    rw [decide_eq_false (Int.not_le.mpr h1), decide_eq_false (Int.not_le.mpr h2)]
    show Builtin.bitNot (Builtin.bitNot _) = _
    rw [hnn, hnn, hnn, Int.toNat_natCast, Int.toNat_natCast]
  have hx : x ||| (x / 2 ^ s * 2 ^ s) = x := by
    apply Nat.eq_of_testBit_eq
    intro i
    rw [Nat.testBit_or, ← Nat.shiftLeft_eq, Nat.testBit_shiftLeft, ← Nat.shiftRight_eq_div_pow, Nat.testBit_shiftRight]
    by_cases h : s ≤ i
    · have e : s + (i - s) = i := Nat.add_sub_cancel' h
      rw [e]
      simp [h]
    · simp [h]
  show Builtin.bitOr _ _ - Builtin.bitAnd _ _ = _
  rw [ha, ho, hx]
  exact Int.sub_eq_iff_eq_add.mpr (congrArg Int.ofNat hm.symm)
end Mine
namespace Mine
noncomputable def digs (n x : Nat) : Nat → List Nat
  | 0 => []
  | m + 1 => (x % 2 ^ n) :: digs n (x / 2 ^ n) m
theorem digs_length (n : Nat) : ∀ (m x : Nat), (digs n x m).length = m
  | 0, _ => rfl
  | m + 1, x => by rw [digs, List.length_cons, digs_length n m]
theorem digs_mod (n : Nat) : ∀ (m x : Nat), digs n (x % 2 ^ (n * m)) m = digs n x m
  | 0, _ => rfl
  | m + 1, x => by
    rw [digs, digs]
    have e : n * (m + 1) = n + n * m := by rw [Nat.mul_add, Nat.mul_one, Nat.add_comm]
    have h1 : x % 2 ^ (n * (m + 1)) % 2 ^ n = x % 2 ^ n := by
      rw [e, Nat.pow_add]; exact Nat.mod_mul_right_mod x (2 ^ n) (2 ^ (n * m))
    have h2 : x % 2 ^ (n * (m + 1)) / 2 ^ n = (x / 2 ^ n) % 2 ^ (n * m) := by
      rw [e, Nat.pow_add]; exact Nat.mod_mul_right_div_self x (2 ^ n) (2 ^ (n * m))
    rw [h1, h2, digs_mod n m]
theorem digs_split (n : Nat) : ∀ (a b x : Nat), digs n x (a + b) = digs n x a ++ digs n (x / 2 ^ (n * a)) b
  | 0, b, x => by simp [digs]
  | a + 1, b, x => by
    have e : a + 1 + b = (a + b) + 1 := by omega
    rw [e, digs, digs, digs_split n a b, Nat.div_div_eq_div_mul, ← Nat.pow_add, List.cons_append]
    have e2 : n + n * a = n * (a + 1) := by rw [Nat.mul_add, Nat.mul_one, Nat.add_comm]
    rw [e2]
end Mine
namespace Mine
theorem KX_I {f : Addr} {K : KT} {a b c d e : AV} {l l' : List AV} {fl : Fl} {σ' : AS} (h : finI f K ⟨[some a, some b, some c, some d, some e, none, none, none, none, none], some (5, l)⟩ = some (fl, σ')) (hf : flVal fl = some .none) (ho : σ'.own = some (5, l')) :
    KX (fdI []) ["x", "L", "R"] ["inner", "n"] (finI f K) [d, e] (some (5, l)) [a, b, c] = some (.none, some (5, l')) := by
  unfold KX
  rw [if_pos ⟨rfl, rfl⟩]
  show ((finI f K ⟨[some a, some b, some c, some d, some e, none, none, none, none, none], some (5, l)⟩).bind _) = _
  rw [h]
  show ((flVal fl).bind fun a => (ownBack (some (5, l)) σ'.own).bind fun o => some (a, o)) = _
  rw [hf, ho]
  rfl
theorem setF_eq {j : Nat} {fi g : AS → Option AV} {σ : AS} {a : AV} {k : Nat} {l : List AV} (h1 : g σ = some a) (h2 : fi σ = some (.int k)) (h3 : σ.own = some (j, l)) (hk : k < l.length) (hl : l.length ≤ 100000) : setF j fi g σ = some (.next, ⟨σ.loc, some (j, l.set k a)⟩) := by
  unfold setF
  rw [h1]
  show ((fi σ).bind _) = _
  rw [h2]
  show (match σ.own, AV.int (k : Int) with
    | some (j', l), .int k => if j' = j ∧ 0 ≤ k ∧ k < l.length ∧ l.length ≤ 100000 then some (Fl.next, (⟨σ.loc, some (j, l.set k.toNat a)⟩ : AS)) else none
    | _, _ => none) = _
  rw [h3]
  show (if j = j ∧ (0 : Int) ≤ (k : Int) ∧ (k : Int) < l.length ∧ l.length ≤ 100000 then some (Fl.next, (⟨σ.loc, some (j, l.set (k : Int).toNat a)⟩ : AS)) else none) = _
  rw [if_pos ⟨rfl, Int.natCast_nonneg _, by omega, hl⟩, Int.toNat_natCast]
end Mine
namespace Mine
theorem KI_leaf (f : Addr) (n k x L : Nat) (l : List AV) (hl : l.length ≤ 100000) (hL : L < l.length) :
    KI f (k + 1) [.fn f, .int n] (some (5, l)) [.int x, .int L, .int ((L + 1 : Nat) : Int)] = some (.none, some (5, l.set L (.int x))) := by
  have he : eqV (.int ((L : Int) + 1)) (.int ((L + 1 : Nat) : Int)) = some (.bool true) := by
    have : eqV (.int ((L : Int) + 1)) (.int ((L + 1 : Nat) : Int)) = some (.bool (decide ((L : Int) + 1 = ((L + 1 : Nat) : Int)))) := rfl
    rw [this, decide_eq_true (by omega)]
  rw [KI_succ]
  refine KX_I (K := KI f k) (fl := .ret .none) (σ' := ⟨[some (.int x), some (.int L), some (.int ((L + 1 : Nat) : Int)), some (.fn f), some (.int n), none, none, none, none, none], some (5, l.set L (.int x))⟩) ?_ rfl rfl
  unfold finI
  refine seqF_ret (iteS_t (cmpT_eq (a := .int ((L : Int) + 1)) (binE_eq (a := .int L) (b := .int 1) rfl rfl rfl) rfl he rfl) ?_)
  exact seqF_nx (setF_eq rfl rfl rfl hL hl) (seqF_ret rfl)
theorem callMF_eq {i : Nat} {f : Addr} {js : List Nat} {jA jc : Nat} {g : AS → Option (List AV)} {K : KT} {σ : AS} {cv as l l' : List AV} (h1 : gv i σ = some (.fn f)) (h2 : capVals js σ = some cv) (h3 : g σ = some as) (h4 : σ.own = some (jA, l)) (h5 : K cv (some (jc, l)) as = some (.none, some (jc, l'))) :
    callMF i f js jA jc g K σ = some (.next, ⟨σ.loc, some (jA, l')⟩) := by
  unfold callMF
  have hf : isFn f (.fn f) = some () := if_pos rfl
  simp only [h1, h2, h3, h4, h5, hf, Option.bind_some, if_true, isNone]
end Mine
namespace Mine
theorem KI_node (f : Addr) (n k x L M R s : Nat) (l l1 l2 : List AV) (hM : M = (L + R) / 2) (h1 : L + 1 < R) (hLM : L < M) (hMR : M < R) (hn : n ≤ 200) (hRR : R ≤ 100000) (hs : s = n * (M - L)) (hs2 : s < 200) (hx : x / 2 ^ s < 2 ^ 200)
    (e1 : KI f k [.fn f, .int n] (some (5, l)) [.int ((x % 2 ^ s : Nat) : Int), .int L, .int M] = some (.none, some (5, l1))) (e2 : KI f k [.fn f, .int n] (some (5, l1)) [.int ((x / 2 ^ s : Nat) : Int), .int M, .int R] = some (.none, some (5, l2))) :
    KI f (k + 1) [.fn f, .int n] (some (5, l)) [.int x, .int L, .int R] = some (.none, some (5, l2)) := by
  have e3 : ¬ ((L : Int) + 1 = (R : Int)) := fun h => Nat.ne_of_lt h1 (Int.ofNat.inj h)
  have e4 : ((L : Int) + (R : Int)).fdiv (2 ^ (1 : Int).toNat) = (M : Int) := by
    rw [hM]
    show Int.fdiv _ 2 = _
    rw [← Int.natCast_add]
    exact Int.ofNat_fdiv _ 2 ▸ rfl
  have e5 : (M : Int) - (L : Int) = ((M - L : Nat) : Int) := (Int.ofNat_sub (Nat.le_of_lt hLM)).symm
  have e6 : okI (((M - L : Nat) : Int)) = true := okI_small (Nat.le_trans (Nat.sub_le M L) (Nat.le_trans (Nat.le_of_lt hMR) hRR))
  have e7 : okI (n : Int) = true := okI_small (Nat.le_trans hn (by decide))
  have e8 : ((M - L : Nat) : Int) * (n : Int) = (s : Int) := by rw [hs, Int.natCast_mul, Int.mul_comm]
  have e10 : ((2 ^ 200 : Nat) : Int) = (2 : Int) ^ 200 := Int.natCast_pow 2 200
  have e9 : okI ((x / 2 ^ s : Nat) : Int) = true := okI_of_lt (m := 200) (Int.natCast_nonneg _) (e10 ▸ Int.ofNat_lt.mpr hx) (Nat.le_refl _)
  have g1 : mulV (.int ((M - L : Nat) : Int)) (.int n) = some (.int (s : Int)) := by
    show guardO (okI _ && okI _) _ = _
    rw [e6, e7, e8]; rfl
  have g3 : rshV (.int ((L : Int) + (R : Int))) (.int 1) = some (.int M) := by
    show guardO (decide ((0 : Int) ≤ 1)) (some (AV.int (((L : Int) + (R : Int)).fdiv (2 ^ (1 : Int).toNat)))) = _
    rw [e4]; rfl
  have he : eqV (.int ((L : Int) + 1)) (.int (R : Int)) = some (.bool false) := by
    have : eqV (.int ((L : Int) + 1)) (.int (R : Int)) = some (.bool (decide ((L : Int) + 1 = (R : Int)))) := rfl
    rw [this, decide_eq_false e3]
  have hsb : subV (.int (M : Int)) (.int (L : Int)) = some (.int ((M - L : Nat) : Int)) := by
    show some (AV.int ((M : Int) - (L : Int))) = _
    rw [e5]
  have g4 : rshV (.int (x : Int)) (.int (s : Int)) = some (.int ((x / 2 ^ s : Nat) : Int)) := by
    show guardO (decide (0 ≤ (s : Int))) (some (AV.int ((x : Int).fdiv (2 ^ (s : Int).toNat)))) = _
    rw [decide_eq_true (Int.natCast_nonneg _), Int.toNat_natCast]
    have : (2 : Int) ^ s = ((2 ^ s : Nat) : Int) := (Int.natCast_pow 2 s).symm
    rw [this]
    exact Int.ofNat_fdiv x (2 ^ s) ▸ rfl
  have g5 : lshV (.int ((x / 2 ^ s : Nat) : Int)) (.int (s : Int)) = some (.int (((x / 2 ^ s : Nat) : Int) * 2 ^ s)) := by
    show guardO (okI _ && decide _ && decide _) _ = _
    rw [e9, decide_eq_true (Int.natCast_nonneg _), decide_eq_true (le_m hs2), Int.toNat_natCast]; rfl
  have g6 : xorV (.int (x : Int)) (.int (((x / 2 ^ s : Nat) : Int) * 2 ^ s)) = some (.int ((x % 2 ^ s : Nat) : Int)) := by
    show some (AV.int (Builtin.bitXor _ _)) = _
    rw [xor_low]
  rw [KI_succ]
  refine KX_I (K := KI f k) (fl := .next) (σ' := ⟨[some (.int x), some (.int L), some (.int R), some (.fn f), some (.int n), none, some (.int M), some (.int s), some (.int ((x / 2 ^ s : Nat) : Int)), some (.int ((x % 2 ^ s : Nat) : Int))], some (5, l2)⟩) ?_ rfl rfl
  unfold finI
  refine seqF_nx (iteS_f (cmpT_eq (a := .int ((L : Int) + 1)) (binE_eq (a := .int L) (b := .int 1) rfl rfl rfl) rfl he rfl) rfl) ?_
  refine seqF_nx (asgS_eq (binE_eq (a := .int ((L : Int) + (R : Int))) (b := .int 1) (binE_eq (a := .int L) (b := .int R) rfl rfl rfl) rfl g3)) ?_
  refine seqF_nx (asgS_eq (binE_eq (b := .int n) (binE_eq (a := .int M) (b := .int L) rfl rfl hsb) rfl g1)) ?_
  refine seqF_nx (asgS_eq (binE_eq (a := .int x) (b := .int s) rfl rfl g4)) ?_
  refine seqF_nx (asgS_eq (binE_eq (a := .int x) rfl (binE_eq (b := .int s) rfl rfl g5) g6)) ?_
  refine seqF_nx (callMF_eq rfl rfl rfl rfl e1) ?_
  exact seqF_nx (callMF_eq rfl rfl rfl rfl e2) rfl
end Mine
namespace Mine
noncomputable def fillL (l : List AV) (n x L R : Nat) : List AV := l.take L ++ ((digs n x (R - L)).map fun (d : Nat) => AV.int (d : Int)) ++ l.drop R
theorem fillL_length {l : List AV} {n x L R : Nat} (h1 : L ≤ R) (h2 : R ≤ l.length) : (fillL l n x L R).length = l.length := by
  unfold fillL
  rw [List.length_append, List.length_append, List.length_take, List.length_map, digs_length, List.length_drop, Nat.min_eq_left (Nat.le_trans h1 h2), Nat.add_sub_cancel' h1, Nat.add_sub_cancel' h2]
theorem fillL_one {l : List AV} {n x L : Nat} (h : L < l.length) (hx : x < 2 ^ n) : fillL l n x L (L + 1) = l.set L (.int (x : Int)) := by
  unfold fillL
  have e : L + 1 - L = 1 := Nat.add_sub_cancel_left _ _
  rw [e, digs, digs, Nat.mod_eq_of_lt hx, List.set_eq_take_append_cons_drop, if_pos h]
  simp
theorem fillL_two {l : List AV} {n x L M R : Nat} (h1 : L ≤ M) (h2 : M ≤ R) (h3 : R ≤ l.length) : fillL (fillL l n (x % 2 ^ (n * (M - L))) L M) n (x / 2 ^ (n * (M - L))) M R = fillL l n x L R := by
  have e : R - L = (M - L) + (R - M) := by rw [← Nat.sub_add_comm h1, Nat.add_sub_cancel' h2]
  have hlen : (l.take L ++ ((digs n (x % 2 ^ (n * (M - L))) (M - L)).map fun (d : Nat) => AV.int (d : Int))).length = M := by
    rw [List.length_append, List.length_take, List.length_map, digs_length, Nat.min_eq_left (Nat.le_trans h1 (Nat.le_trans h2 h3)), Nat.add_sub_cancel' h1]
  have t : (fillL l n (x % 2 ^ (n * (M - L))) L M).take M = l.take L ++ ((digs n (x % 2 ^ (n * (M - L))) (M - L)).map fun (d : Nat) => AV.int (d : Int)) := by
    unfold fillL
    rw [List.take_append_of_le_length (Nat.le_of_eq hlen.symm), List.take_of_length_le (Nat.le_of_eq hlen)]
  have d : (fillL l n (x % 2 ^ (n * (M - L))) L M).drop R = l.drop R := by
    unfold fillL
    rw [List.drop_append, List.drop_of_length_le (Nat.le_trans (Nat.le_of_eq hlen) h2), List.nil_append, hlen, List.drop_drop, Nat.add_sub_cancel' h2]
  unfold fillL at t d ⊢
  rw [t, d, e, digs_split, digs_mod, List.map_append]
  simp only [List.append_assoc]
end Mine
namespace Mine
theorem KI_val (f : Addr) (n : Nat) (hn : n ≤ 200) : ∀ (k x L R : Nat) (l : List AV), L < R → R ≤ l.length → l.length ≤ 100000 → R - L ≤ 2 ^ k → x < 2 ^ (n * (R - L)) → x < 2 ^ 200 → n * (R - L - 1) < 200 →
    KI f (k + 1) [.fn f, .int n] (some (5, l)) [.int x, .int L, .int R] = some (.none, some (5, fillL l n x L R)) := by
  have leaf : ∀ (k x L : Nat) (l : List AV), L < l.length → l.length ≤ 100000 → x < 2 ^ (n * (L + 1 - L)) → KI f (k + 1) [.fn f, .int n] (some (5, l)) [.int x, .int L, .int ((L + 1 : Nat) : Int)] = some (.none, some (5, fillL l n x L (L + 1))) := by
    intro k x L l h1 h2 h3
    have e : L + 1 - L = 1 := by omega
    rw [e, Nat.mul_one] at h3
    rw [fillL_one h1 h3]
    exact KI_leaf f n k x L l h2 h1
  intro k
  induction k with
  | zero =>
    intro x L R l h1 h2 h3 h4 h5 h6 h7
    have : R = L + 1 := Nat.le_antisymm (Nat.sub_le_iff_le_add'.mp h4) h1
    subst this
    exact leaf 0 x L l h2 h3 h5
  | succ k ih =>
    intro x L R l h1 h2 h3 h4 h5 h6 h7
    by_cases hLR : R = L + 1
    · subst hLR; exact leaf (k + 1) x L l h2 h3 h5
    · obtain ⟨M, eM, h8, hM1, hM2, p1, p2⟩ := mid h1 hLR h4
      have q1 : R - M ≤ R - L - 1 := Nat.sub_le_sub_left hM1 R
      have q2 : M - L ≤ R - L - 1 := mid_le hM2
      have hMl : M ≤ l.length := Nat.le_trans (Nat.le_of_lt hM2) h2
      have hpos : 0 < 2 ^ (n * (M - L)) := Nat.pow_pos (by decide)
      have hdiv : x / 2 ^ (n * (M - L)) < 2 ^ (n * (R - M)) := by
        rw [Nat.div_lt_iff_lt_mul hpos, ← Nat.pow_add, ← Nat.mul_add]
        have : R - M + (M - L) = R - L := Nat.sub_add_sub_cancel (Nat.le_of_lt hM2) (Nat.le_of_lt hM1)
        rw [this]; exact h5
      have s1 : n * (M - L) < 200 := Nat.lt_of_le_of_lt (Nat.mul_le_mul_left n q2) h7
      have i1 := ih (x % 2 ^ (n * (M - L))) L M l hM1 hMl h3 p1 (Nat.mod_lt _ hpos) (Nat.lt_of_le_of_lt (Nat.mod_le _ _) h6) (Nat.lt_of_le_of_lt (Nat.mul_le_mul_left n (Nat.le_trans (Nat.sub_le _ _) q2)) h7)
      have hl1 : (fillL l n (x % 2 ^ (n * (M - L))) L M).length = l.length := fillL_length (Nat.le_of_lt hM1) hMl
      have i2 := ih (x / 2 ^ (n * (M - L))) M R (fillL l n (x % 2 ^ (n * (M - L))) L M) hM2 (hl1 ▸ h2) (hl1 ▸ h3) p2 hdiv (Nat.lt_of_le_of_lt (Nat.div_le_self _ _) h6) (Nat.lt_of_le_of_lt (Nat.mul_le_mul_left n (Nat.le_trans (Nat.sub_le _ _) q1)) h7)
      rw [fillL_two (Nat.le_of_lt hM1) (Nat.le_of_lt hM2) h2] at i2
      exact KI_node f n (k + 1) x L M R _ l _ _ eM h8 hM1 hM2 hn (Nat.le_trans h2 h3) rfl s1 (Nat.lt_of_le_of_lt (Nat.div_le_self _ _) h6) i1 i2
end Mine
namespace Mine
noncomputable def onlyInt : AV → Option AV
  | .int i => some (.int i)
  | _ => none
noncomputable def repK : AV → AV → Option (List AV)
  | .lst a, .int n => guardO (decide (n < 1000) && decide (-1000 < n) && decide (a.length ≤ 1000)) (some (repL a n.toNat))
  | _, _ => none
section
variable {G : GC} {fd : FD} {p : Bool} {n : Nat}
theorem SE.peek (i : Nat) {x : PySem.Str} {e : Expr} {f : AS → Option AV} (hi : atChk fd i x = true) (h : SE G fd p n e f) : SE G fd p n e (fun σ => (f (frz i σ)).bind onlyInt) := by
  refine ⟨?_⟩
  intro env A s oa X σ c R S hf
  obtain ⟨a, ha, hq⟩ := bind_some hf
  obtain ⟨oa', -, S'⟩ := S.frz (atChk_ok hi)
  refine wpN (h.run env A s oa' X _ a R S' ha) fun v s₁ q => ⟨q.1, ?_⟩
  obtain ⟨i, rfl, rfl⟩ : ∃ i, a = .int i ∧ c = .int i := by cases a <;> first | exact no hq | exact ⟨_, rfl, (Option.some.inj hq).symm⟩
  obtain ⟨t, e⟩ := q.2.int_inv
  rw [e]
  exact .int
theorem repK_inv {a b : AV} {c : List AV} (h : repK a b = some c) : ∃ l i, a = .lst l ∧ b = .int i ∧ i < 1000 ∧ -1000 < i ∧ l.length ≤ 1000 ∧ c = repL l i.toNat := by
  cases a <;> first | exact no h | skip
  cases b <;> first | exact no h | skip
  obtain ⟨h1, h2⟩ := guardO_some h
  rw [Bool.and_eq_true, Bool.and_eq_true] at h1
  exact ⟨_, _, rfl, rfl, of_decide_eq_true h1.1.1, of_decide_eq_true h1.1.2, of_decide_eq_true h1.2, (Option.some.inj h2).symm⟩
theorem SEF.rep {l r : Expr} {pos : Pos} {f g : AS → Option AV} (hl : SE G fd p n l f) (hr : SE G fd p n r g) :
    SEF G fd p n (.BinOp l .Mult r pos) (fun σ => (f σ).bind fun a => (g σ).bind fun b => repK a b) := by
  refine ⟨?_⟩
  intro env A s oa X σ c R S hf
  obtain ⟨a, ha, hf⟩ := bind_some hf
  obtain ⟨b, hb, hk⟩ := bind_some hf
  refine wpAny_BinOp (wpN (hl.run env A s oa X σ a R S ha) fun va s₁ q₁ => ?_)
  have S₁ := S.kp q₁.1
  refine wpN (hr.run env A s₁ oa X σ b R S₁ hb) fun vb s₂ q₂ => ?_
  have S₂ := S₁.kp q₂.1
  have ra := q₁.2.kp S₁ q₂.1
  have rb := q₂.2
  have k₂ := q₁.1.trans q₂.1
  obtain ⟨l, i, rfl, rfl, h1, h2, h3, rfl⟩ := repK_inv hk
  obtain ⟨u, rfl⟩ := rb.int_inv
  obtain ⟨ad, vs, rfl, hl, hn, rl⟩ := ra.lst_inv
  clear ra rb
  have e1 := rl.length
  obtain ⟨k, hl⟩ := hl
  have e : (List.foldl (fun x1 x2 => x1 ++ x2) #[] (List.replicate (if vs.toArray.isEmpty = true then 0 else i.toNat) vs.toArray)) = (repL vs i.toNat).toArray := by
    cases vs with
    | nil => rw [repL_nil]; simp
    | cons v vs => rw [repL_foldl]; simp
  refine wpAny_binaryOp_repeat_ref (T := "list") (U := "int") (by decide) ⟨_, hl, rfl⟩ (fun s' => typeIs_int s' i u) noFill_list_mul F.fills_int_mul F.slot_int_rmul repeat_list F.slot_int_index.lookup
    (call_meets F.slot_int_rmul (typeIs_int s₂ i u) F.entry_int_rmul (F.args_int_rmul_2 _ _) (int___rmul___int_list i u ad vs.toArray k)
    ⟨hl, rfl, ⟨_, hl, rfl⟩, call_meets F.slot_list_mul ⟨_, hl, rfl⟩ F.entry_list_mul (F.args_list_mul_2 _ _)
      (AutoListH.list___mul___list_int_3 ad vs.toArray k i u (by unfold Builtin.List.listFitsIndex; rw [decide_eq_true (by omega : -2 ^ 63 ≤ i), decide_eq_true (by omega : i < 2 ^ 63)]; decide) ?_ ?_)
      ⟨hl, ?_⟩⟩)
  · have : vs.toArray.size * i.toNat ≤ 1000 * 1000 := Nat.mul_le_mul (by simp; omega) (by omega)
    omega
  · have : vs.toArray.size * i.toNat ≤ 1000 * 1000 := Nat.mul_le_mul (by simp; omega) (by omega)
    unfold Builtin.List.listTooLong
    rw [decide_eq_false (by rw [sizeLine_eq]; omega)]; decide
  · rw [e]
    refine ⟨k₂.trans Kp.push, _, _, rfl, ?_, ⟨0, Heap.get?_push_size _ rfl⟩, (rl.rep _).mono (fun b o e _ => Heap.get?_push_of_some _ e) fun b o e q => q.elim id fun q => by rw [q, get_size] at e; cases e⟩
    cases q : s.heap.get? s₂.heap.objs.size with
    | none => rfl
    | some o =>
      obtain ⟨o', e'⟩ := (Ks.of_kp (env := env) (oa := oa) k₂ S).there _ o q
      rw [get_size] at e'; cases e'
end
noncomputable def fd35 (cl : List (PySem.Str × Addr)) : FD := { names := ["a", "n", "a_digits", "inner"], scope := (f1 35).scope, clo := cl, code := some 34, qual := some "_int2digits.<locals>." }
theorem capO35 {cl : List (PySem.Str × Addr)} (h : ClFacts (defScope dI) cl) : CapAt (fd35 cl) cl [3, 1] ["inner", "n"] := by
  obtain ⟨c1, h1⟩ := h.all "inner" (by decide +kernel)
  obtain ⟨c3, h3⟩ := h.all "n" (by decide +kernel)
  exact .cons rfl (.inl (by show (f1 35).scope.names.lookup _ = _; decide +kernel)) h1 (.cons rfl (.inl (by show (f1 35).scope.names.lookup _ = _; decide +kernel)) h3 .nil)
theorem capA35 {cl : List (PySem.Str × Addr)} (h : ClFacts (defScope dI) cl) : CapAt (fd35 cl) cl [2] ["a_digits"] := by
  obtain ⟨c1, h1⟩ := h.all "a_digits" (by decide +kernel)
  exact .cons rfl (.inl (by show (f1 35).scope.names.lookup _ = _; decide +kernel)) h1 .nil
noncomputable def lenOwn (i : Nat) (σ : AS) : Option AV := (kE (consE (gv i) nilE) lenK (frz i σ)).bind onlyInt
noncomputable def out35 (f : Addr) : AS → Option (Fl × AS) :=
  seqF (iteS (valT (gv 0)) (seqF (callMF 3 f [3, 1] 2 5 (consE (gv 0) (consE (cE 0) (consE (lenOwn 2) nilE))) (KI f 30)) nxS) nxS)
    (fun σ => seqF (retS (gv 2)) nxS (frz 2 σ))
theorem ss35 {G : GC} {n : Nat} {cl : List (PySem.Str × Addr)} {f : Addr} (hG : G.Ok) (hlen : GName G "len" (.builtin "len")) (hk : KeepOk G (.ref f)) (hc : ClFacts (defScope dI) cl) (hn : 40 ≤ n) (hcall : ∀ cv, CallX G true 40 (fdI cl) f cl ["inner", "n"] cv (KI f 30 cv)) :
    SS G (fd35 cl) false n ((bodyOf (f1 35)).drop 2) (out35 f) :=
  (SS.cons (S1.ite (ST.val (SE.nm 0 (by change nameChk (fd35 []) _ _ = true; decide +kernel)))
    (SS.cons (S1.callM (i := 3) (jA := 2) (jc := 5) (p := false) rfl (by decide +kernel) (by decide +kernel) hk (SEs.cons (SE.nm 0 (by change nameChk (fd35 []) _ _ = true; decide +kernel)) (SEs.cons SE.int (SEs.cons (SE.peek 2 (x := "a_digits") (by change atChk (fd35 []) _ _ = true; decide +kernel) (SE.cl hG (by change gloChk (fd35 []) _ = true; decide +kernel) hlen .builtin len_ok (SEs.cons (SE.nm 2 (by change nameChk (fd35 []) _ _ = true; decide +kernel)) SEs.nil))) SEs.nil))) hc.clos (fun _ _ h => h) (capO35 hc) (fun cv => (hcall cv).lift.mono hn) (capA35 hc) rfl) SS.nil) SS.nil)
    (SS.fz 2 "a_digits" (by change atChk (fd35 []) _ _ = true; decide +kernel) (SS.cons (S1.ret (SE.nm 2 (by change nameChk (fd35 []) _ _ = true; decide +kernel))) SS.nil)))
end Mine
namespace Mine
theorem lt_pow_bits (a : Nat) : a < 2 ^ Builtin.Int.intBits (a : Int) := by
  unfold Builtin.Int.intBits
  rw [Int.natAbs_natCast]
  split
  · rename_i h
    have : a = 0 := by simpa using h
    subst this; decide
  · exact Nat.lt_log2_self
theorem bits_le_of_lt {a m : Nat} (h : a < 2 ^ m) : Builtin.Int.intBits (a : Int) ≤ m := by
  unfold Builtin.Int.intBits
  rw [Int.natAbs_natCast]
  split
  · exact Nat.zero_le _
  · rename_i h0
    exact (Nat.log2_lt (by simpa using h0)).mpr h
noncomputable def ndig (n a : Nat) : Nat := (Builtin.Int.intBits (a : Int) + n - 1) / n
theorem ndig_bits {n a : Nat} (hn : 1 ≤ n) : Builtin.Int.intBits (a : Int) ≤ n * ndig n a := by
  unfold ndig
  generalize Builtin.Int.intBits (a : Int) = m
  have h : m + n - 1 < n * ((m + n - 1) / n) + n := Nat.lt_mul_div_succ (m + n - 1) hn
  rw [Nat.add_sub_assoc hn] at h ⊢
  exact Nat.le_of_lt_succ (Nat.lt_of_add_lt_add_right (n := n - 1) (Nat.lt_of_lt_of_eq h (by rw [Nat.succ_add_eq_add_succ, Nat.succ_eq_add_one, Nat.sub_add_cancel hn])))
theorem ndig_lt {n a : Nat} (hn : 1 ≤ n) : a < 2 ^ (n * ndig n a) := Nat.lt_of_lt_of_le (lt_pow_bits a) (Nat.pow_le_pow_right (by decide) (ndig_bits hn))
theorem ndig_top {n a : Nat} (hn : 1 ≤ n) (ha : a < 2 ^ 200) : n * (ndig n a - 1) < 200 := by
  have hb := bits_le_of_lt ha
  unfold ndig
  generalize Builtin.Int.intBits (a : Int) = m at hb
  have h := Nat.mul_div_le (m + n - 1) n
  rw [Nat.mul_sub, Nat.mul_one]
  refine Nat.lt_of_le_of_lt (Nat.sub_le_sub_right h n) ?_
  rw [Nat.sub_right_comm, Nat.add_sub_cancel]
  exact Nat.lt_of_le_of_lt (Nat.sub_le_sub_right hb 1) (by decide)
theorem ndig_le {n a : Nat} (hn : 1 ≤ n) (ha : a < 2 ^ 200) : ndig n a ≤ 200 := by
  have hb := bits_le_of_lt ha
  unfold ndig
  generalize Builtin.Int.intBits (a : Int) = m at hb
  rw [Nat.div_le_iff_le_mul hn]
  exact Nat.sub_le_sub_right (Nat.add_le_add_right (Nat.le_trans hb (Nat.le_mul_of_pos_right 200 hn)) n) 1
theorem ndig_zero {n : Nat} (hn : 1 ≤ n) : ndig n 0 = 0 := by
  unfold ndig
  have : Builtin.Int.intBits ((0 : Nat) : Int) = 0 := rfl
  rw [this, Nat.zero_add]
  exact Nat.div_eq_of_lt (Nat.sub_lt hn (by decide))
theorem ndig_pos {n a : Nat} (hn : 1 ≤ n) (ha : a ≠ 0) : 0 < ndig n a := by
  cases h : ndig n a with
  | zero =>
    have := ndig_lt (a := a) hn
    rw [h] at this
    simp at this
    exact absurd this ha
  | succ m => exact Nat.succ_pos m
theorem repL_one (n : Nat) : repL [AV.int 0] n = List.replicate n (AV.int 0) := by
  induction n with
  | zero => rfl
  | succ n ih => rw [repL, ih]; rfl
noncomputable def lstE (g : AS → Option (List AV)) (σ : AS) : Option AV := (g σ).bind fun l => (lid l).bind fun l => some (.lst l)
noncomputable def repE (f g : AS → Option AV) (σ : AS) : Option (List AV) := (f σ).bind fun a => (g σ).bind fun b => repK a b
noncomputable def blE (f : AS → Option AV) (σ : AS) : Option AV := (f σ).bind bitlenK
noncomputable def ownS (i : Nat) (f : AS → Option (List AV)) (σ : AS) : Option (Fl × AS) := (f σ).bind fun l => (setOwn i l σ).bind fun σ' => some (.next, σ')
noncomputable def init35 : AS → Option (List AV) := repE (lstE (consE (cE 0) nilE)) (binE (binE (binE (blE (gv 0)) (gv 1) addV) (cE 1) subV) (gv 1) fdivV)
theorem own35 {G : GC} {n : Nat} : ∃ st r, bodyOf (f1 35) = st :: .FunctionDef "inner" (defParams dI) (defBody dI) [] none [] (defScope dI) none "inner" (defPos dI) :: r ∧ r = (bodyOf (f1 35)).drop 2 ∧ S1 G (fd35 []) false n st (ownS 2 init35) :=
  ⟨_, _, rfl, rfl, S1.ow 2 (by change stoChk (fd35 []) _ _ = true; decide +kernel) (SEF.rep (SE.lst (SEs.cons SE.int SEs.nil)) (SE.bin (SE.bin (SE.bin (SE.bitlen (SE.nm 0 (by change nameChk (fd35 []) _ _ = true; decide +kernel))) (SE.nm 1 (by change nameChk (fd35 []) _ _ = true; decide +kernel)) op_add) SE.int op_sub) (SE.nm 1 (by change nameChk (fd35 []) _ _ = true; decide +kernel)) op_fdiv))⟩
noncomputable def res35 (a n : Nat) : List AV := (digs n a (ndig n a)).map fun (d : Nat) => AV.int (d : Int)
noncomputable def relK {α β : Type} (P : α → β → Prop) (x : α) : Option β := @dite _ (∃ c, P x c) (Classical.propDecidable _) (fun h => some h.choose) fun _ => none
theorem relK_some {α β : Type} {P : α → β → Prop} {x : α} {c : β} (h : relK P x = some c) : P x c := by
  unfold relK at h
  split at h
  · rename_i q
    exact Option.some.inj h ▸ q.choose_spec
  · cases h
theorem relK_val {α β : Type} {P : α → β → Prop} {x : α} {c : β} (h : P x c) (hu : ∀ d, P x d → d = c) : relK P x = some c := by
  unfold relK
  rw [dif_pos ⟨c, h⟩, hu _ (Exists.choose_spec (⟨c, h⟩ : ∃ c, P x c))]
noncomputable def P35 (as : List AV) (c : AV) : Prop := ∃ a n : Nat, as = [.int a, .int n] ∧ c = .lst (res35 a n) ∧ a < 2 ^ 200 ∧ 1 ≤ n ∧ n ≤ 200
noncomputable def K_int2digits : List AV → Option AV := relK P35
theorem nat_eq2 {a n a' n' : Nat} {r r' : List (Option AV)} (h : (some (AV.int a) :: some (AV.int n) :: r) = some (.int a') :: some (.int n') :: r') : a = a' ∧ n = n' :=
  ⟨Int.ofNat.inj (int_inj (Option.some.inj (List.cons.inj h).1)), Int.ofNat.inj (int_inj (Option.some.inj (List.cons.inj (List.cons.inj h).2).1))⟩
theorem K35_val {a n : Nat} (h1 : a < 2 ^ 200) (h2 : 1 ≤ n) (h3 : n ≤ 200) : K_int2digits [.int a, .int n] = some (.lst (res35 a n)) :=
  relK_val ⟨a, n, rfl, rfl, h1, h2, h3⟩ fun d ⟨a', n', e, e2, _⟩ => by
    obtain ⟨rfl, rfl⟩ := nat_eq2 (congrArg (List.map some) e)
    exact e2
theorem capVals2 {i j : Nat} {σ : AS} {a b : AV} (h1 : gv i σ = some a) (h2 : gv j σ = some b) : capVals [i, j] σ = some [a, b] := by
  unfold capVals capVals capVals; rw [h1, h2]; rfl
noncomputable def P35r (σ : AS) (fl : Fl) : Prop := ∃ (a n : Nat) (x y : Option AV) (l : List AV), σ = ⟨[some (.int a), some (.int n), x, y], some (2, l)⟩ ∧ fl = .ret (.lst (res35 a n)) ∧ a < 2 ^ 200 ∧ 1 ≤ n ∧ n ≤ 200 ∧ l.length = ndig n a
noncomputable def F35r : AS → Option Fl := relK P35r
theorem F35r_val {a n : Nat} {x y : Option AV} {l : List AV} (h1 : a < 2 ^ 200) (h2 : 1 ≤ n) (h3 : n ≤ 200) (h4 : l.length = ndig n a) : F35r ⟨[some (.int a), some (.int n), x, y], some (2, l)⟩ = some (.ret (.lst (res35 a n))) :=
  relK_val ⟨a, n, x, y, l, rfl, rfl, h1, h2, h3, h4⟩ fun d ⟨a', n', x', y', l', e, e2, _⟩ => by
    obtain ⟨rfl, rfl⟩ := nat_eq2 (congrArg AS.loc e)
    exact e2
end Mine
namespace Mine
theorem truth_int {a : Int} : truth (.int a) = some (decide (a ≠ 0)) := by
  show some (a != 0) = _
  by_cases h : a = 0
  · subst h; rfl
  · rw [decide_eq_true h, bne_iff_ne.mpr h]
theorem out35_ok (f : Addr) (a n : Nat) (x : Option AV) (l : List AV) (h1 : a < 2 ^ 200) (h2 : 1 ≤ n) (h3 : n ≤ 200) (h4 : l.length = ndig n a) :
    ∃ σ', out35 f ⟨[some (.int a), some (.int n), x, some (.fn f)], some (2, l)⟩ = some (.ret (.lst (res35 a n)), σ') := by
  unfold out35
  by_cases h : a = 0
  · subst h
    have hl : l = [] := by rw [ndig_zero h2] at h4; exact List.eq_nil_of_length_eq_zero h4
    subst hl
    have hr : res35 0 n = [] := by unfold res35; rw [ndig_zero h2]; rfl
    rw [hr]
    refine ⟨_, seqF_nx (iteS_f (valT_eq (a := .int 0) rfl rfl) rfl) (seqF_ret (retS_eq rfl))⟩
  · have hp := ndig_pos h2 h
    have hle := ndig_le h2 h1
    have hv := KI_val f n h3 29 a 0 (ndig n a) l hp (Nat.le_of_eq h4.symm) (h4 ▸ Nat.le_trans hle (by decide)) (Nat.le_trans (Nat.sub_le _ _) (Nat.le_trans hle (by decide))) (by rw [Nat.sub_zero]; exact ndig_lt h2) h1 (by rw [Nat.sub_zero]; exact ndig_top h2 h1)
    have hfill : fillL l n a 0 (ndig n a) = res35 a n := by
      unfold fillL res35
      rw [List.take_zero, Nat.sub_zero, List.drop_of_length_le (Nat.le_of_eq h4), List.append_nil, List.nil_append]
    rw [hfill] at hv
    have ht : truth (.int (a : Int)) = some true := by rw [truth_int, decide_eq_true (show (a : Int) ≠ 0 from fun e => h (Int.ofNat.inj e))]
    have hlen : lenK [.lst l] = some (.int ((ndig n a : Nat) : Int)) := by
      show guardO (decide (l.length ≤ 100000)) (some (AV.int (l.length : Nat))) = _
      rw [h4, decide_eq_true (Nat.le_trans hle (by decide))]
      rfl
    have hlo : lenOwn 2 ⟨[some (.int a), some (.int n), x, some (.fn f)], some (2, l)⟩ = some (.int ((ndig n a : Nat) : Int)) := by
      unfold lenOwn
      rw [kE_eq (r := some (.int ((ndig n a : Nat) : Int))) (l := [.lst l]) (consE_eq rfl rfl) hlen]
      rfl
    refine ⟨_, seqF_nx (iteS_t (valT_eq (a := .int a) rfl ht) (seqF_nx (callMF_eq (l := l) (l' := res35 a n) rfl (capVals2 rfl rfl) (consE_eq rfl (consE_eq (a := .int 0) rfl (consE_eq hlo rfl))) rfl hv) rfl)) (seqF_ret (retS_eq rfl))⟩
theorem sr35 {G : GC} (L : L2 G) {n : Nat} (hn : 40 ≤ n) : SR G (fd35 []) false n (bodyOf (f1 35)) (seqR (ownS 2 init35) F35r) := by
  obtain ⟨st, r, e, er, hs⟩ := own35 (G := G) (n := n)
  rw [e]
  refine SR.cons hs (SR.def (fd := fd35 []) (iI := 3) (q := "_int2digits.<locals>.") (F' := fun f σ => (out35 f σ).bind fun x => some x.1) L.ok L.bm L.t30 L.p30 L.q30 rfl rfl (by decide +kernel) L.h30 (by rfl) (by rfl) (fun _ => by rfl) (by decide +kernel) (stoChk_ok (by decide +kernel)) rfl ?_ ?_)
  · intro σ fl f h
    obtain ⟨a, n, x, y, l, rfl, rfl, h1, h2, h3, h4⟩ := relK_some h
    obtain ⟨σ', hσ⟩ := out35_ok f a n x l h1 h2 h3 h4
    show (out35 f ⟨[some (.int a), some (.int n), x, some (.fn f)], some (2, l)⟩).bind _ = _
    rw [hσ]
    rfl
  · intro G' f cl doc pm cdv ctv x
    have hG' := x.ok L.ok
    have hk : KeepOk G' (.ref f) := by obtain ⟨o, h1, h2⟩ := x.fn; exact .fn h1 h2
    have hlen : GName G' "len" (.builtin "len") := by
      obtain ⟨st', e⟩ := x.eq
      rw [e]
      have := L.gn_len
      cases this with
      | glob h => exact .glob h
      | boot h1 h2 h3 => exact .boot h1 h2 h3
    rw [er]
    exact SR.of (ss35 hG' hlen hk ⟨x.clos, x.all, x.conv⟩ hn fun cv => callI hG' x.fn x.code ⟨x.clos, x.all, x.conv⟩ 30 cv)
end Mine
namespace Mine
theorem init35_ok (a n : Nat) (h1 : a < 2 ^ 200) (h2 : 1 ≤ n) (h3 : n ≤ 200) : init35 ⟨[some (.int a), some (.int n), none, none], none⟩ = some (List.replicate (ndig n a) (.int 0)) := by
  have hle := ndig_le h2 h1
  have hb := bits_le_of_lt h1
  have e7 : okI (n : Int) = true := okI_small (Nat.le_trans h3 (by decide))
  have e1 : (((Builtin.Int.intBits (a : Int) : Nat) : Int) + (n : Int) - 1).fdiv (n : Int) = ((ndig n a : Nat) : Int) := by
    unfold ndig
    have : ((Builtin.Int.intBits (a : Int) : Nat) : Int) + (n : Int) - 1 = ((Builtin.Int.intBits (a : Int) + n - 1 : Nat) : Int) := (Int.ofNat_sub (Nat.le_trans h2 (Nat.le_add_left _ _))).symm
    rw [this]
    exact Int.ofNat_fdiv _ n ▸ rfl
  have g1 : fdivV (.int (((Builtin.Int.intBits (a : Int) : Nat) : Int) + (n : Int) - 1)) (.int n) = some (.int ((ndig n a : Nat) : Int)) := by
    show guardO ((n : Int) != 0 && okI n) (some (AV.int _)) = _
    rw [e1, e7]
    have : ((n : Int) != 0) = true := bne_iff_ne.mpr fun e => Nat.ne_of_gt h2 (Int.ofNat.inj e)
    rw [this]; rfl
  have g2 : repK (.lst [.int 0]) (.int ((ndig n a : Nat) : Int)) = some (List.replicate (ndig n a) (.int 0)) := by
    show guardO (decide (((ndig n a : Nat) : Int) < 1000) && decide (-1000 < ((ndig n a : Nat) : Int)) && decide (1 ≤ 1000)) (some (repL [AV.int 0] ((ndig n a : Nat) : Int).toNat)) = _
    rw [decide_eq_true (show ((ndig n a : Nat) : Int) < 1000 from Int.ofNat_lt.mpr (Nat.lt_of_le_of_lt hle (by decide))), decide_eq_true (show (-1000 : Int) < ((ndig n a : Nat) : Int) from Int.lt_of_lt_of_le (by decide) (Int.natCast_nonneg _)), Int.toNat_natCast, repL_one]; rfl
  unfold init35 repE
  have l1 : lstE (consE (cE 0) nilE) ⟨[some (.int a), some (.int n), none, none], none⟩ = some (.lst [.int 0]) := rfl
  rw [l1]
  have l2 : binE (binE (binE (blE (gv 0)) (gv 1) addV) (cE 1) subV) (gv 1) fdivV ⟨[some (.int a), some (.int n), none, none], none⟩ = some (.int ((ndig n a : Nat) : Int)) :=
    binE_eq (b := .int n) (binE_eq (b := .int 1) (binE_eq (a := .int (Builtin.Int.intBits (a : Int) : Nat)) (b := .int n) rfl rfl rfl) rfl rfl) rfl g1
  show (binE (binE (binE (blE (gv 0)) (gv 1) addV) (cE 1) subV) (gv 1) fdivV _).bind _ = _
  rw [l2]
  exact g2
theorem ok_int2digits {G : GC} (L : L2 G) {n : Nat} (hn : 40 ≤ n) : CallOk G false (n + 1) (.ref 35) K_int2digits := by
  have h := fn_okR (fd := fd35 []) (ps := ["a", "n"]) L.ok (L.toL1.fnAt2 35) rfl rfl (fnChkB_ok (by decide +kernel)) (by intro vs h; obtain ⟨v0, v1, rfl⟩ := len2 h; rfl) (sr35 L hn)
    (by intro c h; cases h; rfl) (by intro q h; cases h; decide +kernel)
  refine h.weak fun as c hc => ?_
  obtain ⟨a, n, rfl, rfl, h1, h2, h3⟩ := relK_some hc
  show (seqR (ownS 2 init35) F35r ⟨[some (.int a), some (.int n), none, none], none⟩).bind flValR = _
  have e1 : ownS 2 init35 ⟨[some (.int a), some (.int n), none, none], none⟩ = some (.next, ⟨[some (.int a), some (.int n), none, none], some (2, List.replicate (ndig n a) (.int 0))⟩) := by
    unfold ownS
    rw [init35_ok a n h1 h2 h3]
    rfl
  have e2 : seqR (ownS 2 init35) F35r ⟨[some (.int a), some (.int n), none, none], none⟩ = F35r ⟨[some (.int a), some (.int n), none, none], some (2, List.replicate (ndig n a) (.int 0))⟩ := by
    unfold seqR
    rw [e1]
    rfl
  rw [e2]
  rw [F35r_val h1 h2 h3 List.length_replicate]
  rfl
end Mine
namespace Mine
noncomputable def asgT (is : List Nat) (f : AS → Option AV) (σ : AS) : Option (Fl × AS) := (f σ).bind fun a => (setT is a σ).bind fun σ' => some (.next, σ')
noncomputable def forRv (f : AS → Option AV) (set : AV → AS → Option AS) (F H : AS → Option (Fl × AS)) (σ : AS) : Option (Fl × AS) := (f σ).bind fun a => (iterL a).bind fun items => forL set F H items.reverse σ
noncomputable def tupE (g : AS → Option (List AV)) (σ : AS) : Option AV := (g σ).bind fun l => (lid l).bind fun l => some (.tup l)
noncomputable def frzS (i : Nat) (F : AS → Option (Fl × AS)) (σ : AS) : Option (Fl × AS) := F (frz i σ)
theorem fnKS_eq {fd : FD} {ps : List PySem.Str} {F : AS → Option (Fl × AS)} {as : List AV} {r : AV} {fl : Fl} {σ' : AS} (hl : as.length = ps.length) (e : F (start fd as) = some (fl, σ')) (hv : flValR fl = some r) : fnKR fd ps (fun σ => (F σ).bind fun x => some x.1) as = some r := by
  unfold fnKR
  rw [if_pos hl]
  show ((F (start fd as)).bind _).bind _ = _
  rw [e]
  exact hv
theorem kE_d21 : (fun σ => (F_div2n1n.1 σ)) = seqF (iteS (cmpT (binE (blE (gv 0)) (gv 2) subV) (cE 4000) leV) (seqF (retS (kE (consE (gv 0) (consE (gv 1) nilE)) divmodK)) nxS) nxS) (fun _ => none) := rfl
theorem val21 (a b n : Int) (hb : b ≠ 0) (hb2 : okI b = true) (hd : (Builtin.Int.intBits a : Int) - n ≤ 4000) : K_div2n1n [.int a, .int b, .int n] = some (.tup [.int (a.fdiv b), .int (a.fmod b)]) := by
  have e : F_div2n1n.1 ⟨[some (.int a), some (.int b), some (.int n), none, none, none, none, none, none, none, none], none⟩ = some (.ret (.tup [.int (a.fdiv b), .int (a.fmod b)]), ⟨[some (.int a), some (.int b), some (.int n), none, none, none, none, none, none, none, none], none⟩) := by
    refine (congrFun kE_d21 _).trans ?_
    have g : leV (.int ((Builtin.Int.intBits a : Int) - n)) (.int 4000) = some (.bool true) := by
      have : leV (.int ((Builtin.Int.intBits a : Int) - n)) (.int 4000) = some (.bool (decide ((Builtin.Int.intBits a : Int) - n ≤ 4000))) := rfl
      rw [this, decide_eq_true hd]
    have g2 : divmodK [.int a, .int b] = some (.tup [.int (a.fdiv b), .int (a.fmod b)]) := by
      show guardO (b != 0 && okI b) _ = _
      have : (b != 0) = true := by simpa using hb
      rw [this, hb2]; rfl
    exact seqF_ret (iteS_t (cmpT_eq (b := .int 4000) (binE_eq (a := .int (Builtin.Int.intBits a : Nat)) (b := .int n) rfl rfl rfl) rfl g rfl) (seqF_ret (retS_eq (kE_eq (consE_eq rfl (consE_eq rfl rfl)) g2))))
  exact fnKS_eq rfl e rfl
end Mine
namespace Mine
noncomputable def ldq (b W : Nat) : List Nat → Nat → List Nat
  | [], _ => []
  | d :: ds, r => (r * W + d) / b :: ldq b W ds ((r * W + d) % b)
noncomputable def ldr (b W : Nat) : List Nat → Nat → Nat
  | [], r => r
  | d :: ds, r => ldr b W ds ((r * W + d) % b)
noncomputable def hor (W : Nat) : List Nat → Nat → Nat
  | [], v => v
  | d :: ds, v => hor W ds (v * W + d)
theorem hor_append (W : Nat) : ∀ (a b : List Nat) (v : Nat), hor W (a ++ b) v = hor W b (hor W a v)
  | [], _, _ => rfl
  | d :: ds, b, v => hor_append W ds b _
theorem ld_step (b W V d : Nat) (hb : 0 < b) : (V * W + d) % b = (V % b * W + d) % b ∧ (V * W + d) / b = V / b * W + (V % b * W + d) / b := by
  have e : V * W + d = b * (V / b * W) + (V % b * W + d) := by
    have h := Nat.div_add_mod V b
    calc V * W + d = (b * (V / b) + V % b) * W + d := by rw [h]
      _ = b * (V / b * W) + (V % b * W + d) := by rw [Nat.add_mul, Nat.mul_assoc, Nat.add_assoc]
  rw [e, Nat.mul_add_mod, Nat.mul_add_div hb]
  exact ⟨rfl, rfl⟩
theorem ld_ok (b W : Nat) (hb : 0 < b) : ∀ (ds : List Nat) (V : Nat), ldr b W ds (V % b) = hor W ds V % b ∧ hor W (ldq b W ds (V % b)) (V / b) = hor W ds V / b
  | [], V => ⟨rfl, rfl⟩
  | d :: ds, V => by
    obtain ⟨h1, h2⟩ := ld_step b W V d hb
    obtain ⟨h3, h4⟩ := ld_ok b W hb ds (V * W + d)
    rw [h1] at h3 h4
    rw [h2] at h4
    exact ⟨h3, h4⟩
theorem ldq_length (b W : Nat) : ∀ (ds : List Nat) (r : Nat), (ldq b W ds r).length = ds.length
  | [], _ => rfl
  | d :: ds, r => by rw [ldq, List.length_cons, List.length_cons, ldq_length b W ds]
theorem ldq_lt (b W : Nat) (hb : 0 < b) : ∀ (ds : List Nat) (r : Nat), r < b → (∀ d ∈ ds, d < W) → ∀ q ∈ ldq b W ds r, q < W
  | [], _, _, _, q, h => nomatch h
  | d :: ds, r, hr, hd, q, h => by
    rcases List.mem_cons.mp h with h | h
    · subst h
      rw [Nat.div_lt_iff_lt_mul hb]
      have h1 : d < W := hd d (.head _)
      have h2 : r * W + W ≤ b * W := by rw [← Nat.succ_mul]; exact Nat.mul_le_mul_right W hr
      rw [Nat.mul_comm W b]
      omega
    · exact ldq_lt b W hb ds _ (Nat.mod_lt _ hb) (fun d h => hd d (.tail _ h)) q h
theorem hor_rev (n : Nat) : ∀ ds : List Nat, ((hor (2 ^ n) ds.reverse 0 : Nat) : Int) = dsum n (ds.map fun (d : Nat) => (d : Int))
  | [] => rfl
  | d :: ds => by
    rw [List.reverse_cons, hor_append, List.map_cons, dsum, ← hor_rev n ds]
    show ((hor (2 ^ n) ds.reverse 0 * 2 ^ n + d : Nat) : Int) = _
    rw [Int.natCast_add, Int.natCast_mul, Int.natCast_pow, Int.add_comm]
    rfl
theorem hor_digs (n : Nat) : ∀ (m x : Nat), hor (2 ^ n) (digs n x m).reverse 0 = x % 2 ^ (n * m)
  | 0, x => by rw [Nat.mul_zero, Nat.pow_zero, Nat.mod_one]; rfl
  | m + 1, x => by
    rw [digs, List.reverse_cons, hor_append, hor_digs n m]
    show x / 2 ^ n % 2 ^ (n * m) * 2 ^ n + x % 2 ^ n = _
    have e : n * (m + 1) = n + n * m := by rw [Nat.mul_add, Nat.mul_one, Nat.add_comm]
    rw [e, Nat.pow_add, Nat.mod_mul, Nat.mul_comm (2 ^ n) (x / 2 ^ n % 2 ^ (n * m))]
    omega
theorem digs_lt (n : Nat) : ∀ (m x : Nat), ∀ d ∈ digs n x m, d < 2 ^ n
  | 0, _, d, h => nomatch h
  | m + 1, x, d, h => by
    rcases List.mem_cons.mp h with h | h
    · subst h; exact Nat.mod_lt _ (Nat.pow_pos (by decide))
    · exact digs_lt n m _ d h
end Mine
namespace Mine
noncomputable def D_divmod_pos : FD := { names := ["a", "b", "n", "a_digits", "r", "q_digits", "a_digit", "q_digit", "q"], scope := (f1 49).scope }
noncomputable def F_divmod_pos : { F : AS → Option (Fl × AS) // ∀ (G : GC) (n : Nat), L1 G → 8 < n → CallOk G false n (.ref 35) K_int2digits → CallOk G false n (.ref 21) K_div2n1n → CallOk G false n (.ref 42) K_digits2int → SS G D_divmod_pos false n (bodyOf (f1 49)) F } :=
  ⟨_, fun G n L h8 h_int2digits h_div2n1n h_digits2int =>
   (SS.cons (S1.asg 2 (by decide +kernel) (SE.bitlen (SE.nm 1 (by decide +kernel)))) (SS.cons (S1.asg 3 (by decide +kernel) (SE.cl L.ok (by decide +kernel) L.gn__int2digits L.kp__int2digits h_int2digits (SEs.cons (SE.nm 0 (by decide +kernel)) (SEs.cons (SE.nm 2 (by decide +kernel)) SEs.nil)))) (SS.cons (S1.asg 4 (by decide +kernel) SE.int) (SS.cons (S1.ow 5 (by decide +kernel) (SEF.lst SEs.nil)) (SS.cons (S1.fr L.ok (by decide +kernel) L.gn_reversed (SE.nm 3 (by decide +kernel)) (Asg.nm 6 (by decide +kernel)) (SS.cons (S1.assignT (Asg.tup (NamesT.cs 7 (by decide +kernel) (NamesT.cs 4 (by decide +kernel) NamesT.nil))) (SE.cl L.ok (by decide +kernel) L.gn__div2n1n L.kp__div2n1n h_div2n1n (SEs.cons (SE.bin (SE.bin (SE.nm 4 (by decide +kernel)) (SE.nm 2 (by decide +kernel)) op_lsh) (SE.nm 6 (by decide +kernel)) op_add) (SEs.cons (SE.nm 1 (by decide +kernel)) (SEs.cons (SE.nm 2 (by decide +kernel)) SEs.nil))))) (SS.cons (S1.app 5 (by decide +kernel) (SE.nm 7 (by decide +kernel))) SS.nil)) SS.nil) (SS.cons (S1.rv 5 (by decide +kernel)) (SS.fz 5 "q_digits" (by decide +kernel) (SS.cons (S1.asg 8 (by decide +kernel) (SE.cl L.ok (by decide +kernel) L.gn__digits2int L.kp__digits2int h_digits2int (SEs.cons (SE.nm 5 (by decide +kernel)) (SEs.cons (SE.nm 2 (by decide +kernel)) SEs.nil)))) (SS.cons (S1.ret (SE.tup (SEs.cons (SE.nm 8 (by decide +kernel)) (SEs.cons (SE.nm 4 (by decide +kernel)) SEs.nil)))) SS.nil)))))))))⟩
noncomputable def K_divmod_pos : List AV → Option AV := fnKR D_divmod_pos ["a", "b"] (fun σ => (F_divmod_pos.1 σ).bind fun x => some x.1)
theorem ok_divmod_pos {G : GC} {n : Nat} (L : L1 G) (h8 : 8 < n) (h_int2digits : CallOk G false n (.ref 35) K_int2digits) (h_div2n1n : CallOk G false n (.ref 21) K_div2n1n) (h_digits2int : CallOk G false n (.ref 42) K_digits2int) : CallOk G false (n + 1) (.ref 49) K_divmod_pos :=
  fn_ok L.ok (L.fnAt2 49) rfl rfl (fnChkB_ok (by decide +kernel)) (by intro vs h; obtain ⟨v0, v1, rfl⟩ := len2 h; rfl) (F_divmod_pos.2 G n L h8 h_int2digits h_div2n1n h_digits2int)
noncomputable def stepDP : AS → Option (Fl × AS) :=
  seqF (asgT [7, 4] (kE (consE (binE (binE (gv 4) (gv 2) lshV) (gv 6) addV) (consE (gv 1) (consE (gv 2) nilE))) K_div2n1n)) (seqF (appF 5 (gv 7)) nxS)
noncomputable def setI (i : Nat) (a : AV) (σ : AS) : Option AS := some (setL i a σ)
noncomputable def endDP : AS → Option (Fl × AS) :=
  seqF (asgS 8 (kE (consE (gv 5) (consE (gv 2) nilE)) K_digits2int)) (seqF (retS (tupE (consE (gv 8) (consE (gv 4) nilE)))) nxS)
noncomputable def finDP : AS → Option (Fl × AS) :=
  seqF (asgS 2 (blE (gv 1)))
  (seqF (asgS 3 (kE (consE (gv 0) (consE (gv 2) nilE)) K_int2digits))
  (seqF (asgS 4 (cE 0))
  (seqF (ownS 5 (fun σ => (nilE σ).bind lid))
  (seqF (forRv (gv 3) (setI 6) stepDP nxS)
  (seqF (revF 5) (frzS 5 endDP))))))
theorem finDP_eq : F_divmod_pos.1 = finDP := rfl
end Mine
namespace Mine
theorem okI_nat {a m : Nat} (h : a < 2 ^ m) (hm : m ≤ 200) : okI (a : Int) = true := by
  have e10 : ((2 ^ m : Nat) : Int) = (2 : Int) ^ m := Int.natCast_pow 2 m
  exact okI_of_lt (m := m) (Int.natCast_nonneg _) (e10 ▸ Int.ofNat_lt.mpr h) hm
theorem cast_digit (r n d : Nat) : ((r : Int) * 2 ^ n + (d : Int)) = ((r * 2 ^ n + d : Nat) : Int) := by
  rw [Int.natCast_add, Int.natCast_mul, Int.natCast_pow]; rfl
theorem stepDP_ok (a b n : Nat) (l : AV) (d r : Nat) (x7 : Option AV) (qs : List AV) (hb : 0 < b) (hbn : b < 2 ^ n) (hn : n ≤ 200) (hr : r < b) (hd : d < 2 ^ n) (hq : qs.length ≤ 100000) :
    stepDP ⟨[some (.int a), some (.int b), some (.int n), some l, some (.int r), none, some (.int d), x7, none], some (5, qs)⟩ = some (.next, ⟨[some (.int a), some (.int b), some (.int n), some l, some (.int ((r * 2 ^ n + d) % b : Nat)), none, some (.int d), some (.int ((r * 2 ^ n + d) / b : Nat)), none], some (5, qs ++ [.int ((r * 2 ^ n + d) / b : Nat)])⟩) := by
  have g1 : lshV (.int (r : Int)) (.int (n : Int)) = some (.int ((r : Int) * 2 ^ n)) := by
    show guardO (okI _ && decide _ && decide _) _ = _
    rw [okI_nat (Nat.lt_trans hr hbn) hn, decide_eq_true (Int.natCast_nonneg _), decide_eq_true (show (n : Int) ≤ 100000 from Int.ofNat_le.mpr (Nat.le_trans hn (by decide))), Int.toNat_natCast]; rfl
  have g2 : addV (.int ((r : Int) * 2 ^ n)) (.int (d : Int)) = some (.int ((r * 2 ^ n + d : Nat) : Int)) := by
    show some (AV.int _) = _
    rw [cast_digit]
  have hlt : r * 2 ^ n + d < 2 ^ (n + n) := by
    rw [Nat.pow_add]
    have h1 : r * 2 ^ n + 2 ^ n ≤ 2 ^ n * 2 ^ n := by rw [← Nat.succ_mul]; exact Nat.mul_le_mul_right _ (Nat.lt_trans hr hbn)
    exact Nat.lt_of_lt_of_le (Nat.add_lt_add_left hd _) h1
  have g3 : K_div2n1n [.int ((r * 2 ^ n + d : Nat) : Int), .int b, .int n] = some (.tup [.int ((r * 2 ^ n + d) / b : Nat), .int ((r * 2 ^ n + d) % b : Nat)]) := by
    rw [val21 _ _ _ (show (b : Int) ≠ 0 from fun e => Nat.ne_of_gt hb (Int.ofNat.inj e)) (okI_nat hbn hn) (Int.le_trans (Int.sub_le_self _ (Int.natCast_nonneg n)) (Int.ofNat_le.mpr (Nat.le_trans (bits_le_of_lt hlt) (Nat.le_trans (Nat.add_le_add hn hn) (by decide)))))]
    have f1 : ((r * 2 ^ n + d : Nat) : Int).fdiv (b : Int) = (((r * 2 ^ n + d) / b : Nat) : Int) := Int.ofNat_fdiv _ b ▸ rfl
    have f2 : ((r * 2 ^ n + d : Nat) : Int).fmod (b : Int) = (((r * 2 ^ n + d) % b : Nat) : Int) := by
      rw [Int.fmod_eq_emod_of_nonneg _ (Int.natCast_nonneg b)]; rfl
    rw [f1, f2]
  unfold stepDP
  refine seqF_nx (σ' := ⟨[some (.int a), some (.int b), some (.int n), some l, some (.int ((r * 2 ^ n + d) % b : Nat)), none, some (.int d), some (.int ((r * 2 ^ n + d) / b : Nat)), none], some (5, qs)⟩) ?_ ?_
  · unfold asgT
    have e := kE_eq (k := K_div2n1n) (σ := ⟨[some (.int a), some (.int b), some (.int n), some l, some (.int r), none, some (.int d), x7, none], some (5, qs)⟩) (consE_eq (f := binE (binE (gv 4) (gv 2) lshV) (gv 6) addV) (g := consE (gv 1) (consE (gv 2) nilE)) (binE_eq (b := .int d) (binE_eq (a := .int r) (b := .int n) rfl rfl g1) rfl g2) (consE_eq (a := .int b) rfl (consE_eq (a := .int n) rfl rfl))) g3
    rw [e]
    rfl
  · refine seqF_nx (σ' := ⟨[some (.int a), some (.int b), some (.int n), some l, some (.int ((r * 2 ^ n + d) % b : Nat)), none, some (.int d), some (.int ((r * 2 ^ n + d) / b : Nat)), none], some (5, qs ++ [.int ((r * 2 ^ n + d) / b : Nat)])⟩) ?_ rfl
    show (lid qs).bind _ = _
    unfold lid
    rw [if_pos hq]
    rfl
theorem loopDP (a b n : Nat) (l : AV) (hb : 0 < b) (hbn : b < 2 ^ n) (hn : n ≤ 200) : ∀ (ds : List Nat) (r : Nat) (x6 x7 : Option AV) (qs : List AV), r < b → (∀ d ∈ ds, d < 2 ^ n) → qs.length + ds.length ≤ 100000 →
    ∃ x6' x7', forL (setI 6) stepDP nxS (ds.map fun (d : Nat) => AV.int (d : Int)) ⟨[some (.int a), some (.int b), some (.int n), some l, some (.int r), none, x6, x7, none], some (5, qs)⟩ =
      some (.next, ⟨[some (.int a), some (.int b), some (.int n), some l, some (.int (ldr b (2 ^ n) ds r : Nat)), none, x6', x7', none], some (5, qs ++ (ldq b (2 ^ n) ds r).map fun (d : Nat) => AV.int (d : Int))⟩)
  | [], r, x6, x7, qs, _, _, _ => ⟨x6, x7, by rw [ldq, List.map_nil, List.append_nil]; rfl⟩
  | d :: ds, r, x6, x7, qs, hr, hd, hq => by
    rw [List.length_cons] at hq
    obtain ⟨x6', x7', ih⟩ := loopDP a b n l hb hbn hn ds ((r * 2 ^ n + d) % b) (some (.int d)) (some (.int ((r * 2 ^ n + d) / b : Nat))) (qs ++ [.int ((r * 2 ^ n + d) / b : Nat)]) (Nat.mod_lt _ hb) (fun d h => hd d (.tail _ h)) (by rw [List.length_append, List.length_singleton, Nat.add_assoc, Nat.add_comm 1]; exact hq)
    refine ⟨x6', x7', ?_⟩
    rw [List.map_cons, forL]
    show (stepDP ⟨[some (.int a), some (.int b), some (.int n), some l, some (.int r), none, some (.int d), x7, none], some (5, qs)⟩).bind _ = _
    rw [stepDP_ok a b n l d r x7 qs hb hbn hn hr (hd d (.head _)) (Nat.le_trans (Nat.le_add_right _ _) hq)]
    show forL (setI 6) stepDP nxS _ _ = _
    rw [ih, ldq, ldr, List.map_cons, List.append_assoc]
    rfl
end Mine
namespace Mine
theorem intsOf_map : ∀ ds : List Int, intsOf (ds.map .int) = some ds
  | [] => rfl
  | d :: ds => by
    rw [List.map_cons]
    show (intsOf (ds.map .int)).bind _ = _
    rw [intsOf_map ds]; rfl
theorem val42 (n : Nat) (qs : List Nat) (hn : n ≤ 200) (hl : qs.length ≤ 1000) (ht : n * (qs.length - 1) < 200) (hq : ∀ q ∈ qs, q < 2 ^ n) :
    K_digits2int [.lst (qs.map fun (d : Nat) => AV.int (d : Int)), .int n] = some (.int (hor (2 ^ n) qs.reverse 0 : Nat)) := by
  have e : (qs.map fun (d : Nat) => AV.int (d : Int)) = (qs.map fun (d : Nat) => (d : Int)).map .int := by rw [List.map_map]; rfl
  rw [e]
  show (intsOf _).bind _ = _
  rw [intsOf_map, hor_rev]
  show guardO (digOk (qs.map fun (d : Nat) => (d : Int)) n) (some (AV.int (dsum (n : Int).toNat (qs.map fun (d : Nat) => (d : Int))))) = _
  rw [Int.toNat_natCast]
  have hok : digOk (qs.map fun (d : Nat) => (d : Int)) n = true := by
    unfold digOk
    simp only [Bool.and_eq_true, decide_eq_true_eq, List.all_eq_true, List.length_map, Int.toNat_natCast]
    refine ⟨⟨⟨⟨⟨Int.natCast_nonneg _, by omega⟩, by omega⟩, by omega⟩, ht⟩, fun d hd => ?_⟩
    obtain ⟨q, h1, rfl⟩ := List.mem_map.mp hd
    have e10 : ((2 ^ n : Nat) : Int) = (2 : Int) ^ n := Int.natCast_pow 2 n
    exact ⟨Int.natCast_nonneg _, e10 ▸ Int.ofNat_lt.mpr (hq q h1)⟩
  rw [hok]
  rfl
theorem val49 (a b : Nat) (ha : a < 2 ^ 200) (hb : b < 2 ^ 200) (h0 : 0 < b) : K_divmod_pos [.int a, .int b] = some (.tup [.int ((a / b : Nat) : Int), .int ((a % b : Nat) : Int)]) := by
  obtain ⟨n, hn⟩ : ∃ n, n = Builtin.Int.intBits (b : Int) := ⟨_, rfl⟩
  have hbn : b < 2 ^ n := by rw [hn]; exact lt_pow_bits b
  have hn2 : n ≤ 200 := by rw [hn]; exact bits_le_of_lt hb
  have hn1 : 1 ≤ n := by
    cases n with
    | zero => exact absurd hbn (Nat.not_lt.mpr h0)
    | succ n => exact Nat.succ_pos n
  have hm := ndig_le hn1 ha
  obtain ⟨hs, hhs⟩ : ∃ hs, hs = (digs n a (ndig n a)).reverse := ⟨_, rfl⟩
  have hsl : hs.length = ndig n a := by rw [hhs, List.length_reverse, digs_length]
  have hsd : ∀ d ∈ hs, d < 2 ^ n := fun d h => digs_lt n _ _ d (by rw [hhs] at h; exact List.mem_reverse.mp h)
  obtain ⟨v1, v2⟩ := ld_ok b (2 ^ n) h0 hs 0
  rw [Nat.zero_mod, Nat.zero_div] at v2
  rw [Nat.zero_mod] at v1
  have hv : hor (2 ^ n) hs 0 = a := by rw [hhs, hor_digs, Nat.mod_eq_of_lt (ndig_lt hn1)]
  rw [hv] at v1 v2
  obtain ⟨x6, x7, hloop⟩ := loopDP a b n (.lst (res35 a n)) h0 hbn hn2 hs 0 none none [] h0 hsd (by rw [hsl, List.length_nil, Nat.zero_add]; exact Nat.le_trans hm (by decide))
  have g1 : K_int2digits [.int (a : Int), .int (n : Int)] = some (.lst (res35 a n)) := by
    exact K35_val ha hn1 hn2
  have hrl : (res35 a n).length = ndig n a := by unfold res35; rw [List.length_map, digs_length]
  have hrr : (res35 a n).reverse = hs.map fun (d : Nat) => AV.int (d : Int) := by rw [hhs]; unfold res35; rw [List.map_reverse]
  have g2 : K_digits2int [.lst (((ldq b (2 ^ n) hs 0).map fun (d : Nat) => AV.int (d : Int)).reverse), .int (n : Int)] = some (.int ((a / b : Nat) : Int)) := by
    rw [← List.map_reverse, val42 n _ hn2 (by rw [List.length_reverse, ldq_length, hsl]; omega) (by rw [List.length_reverse, ldq_length, hsl]; exact ndig_top hn1 ha) (fun q h => ldq_lt b _ h0 hs 0 h0 hsd q (List.mem_reverse.mp h)), List.reverse_reverse, v2]
  have e : F_divmod_pos.1 ⟨[some (.int a), some (.int b), none, none, none, none, none, none, none], none⟩ = some (.ret (.tup [.int ((a / b : Nat) : Int), .int ((a % b : Nat) : Int)]), ⟨[some (.int a), some (.int b), some (.int n), some (.lst (res35 a n)), some (.int ((a % b : Nat) : Int)), some (.lst (((ldq b (2 ^ n) hs 0).map fun (d : Nat) => AV.int (d : Int)).reverse)), x6, x7, some (.int ((a / b : Nat) : Int))], none⟩) := by
    rw [finDP_eq]
    unfold finDP
    have hbl : blE (gv 1) ⟨[some (.int a), some (.int b), none, none, none, none, none, none, none], none⟩ = some (.int n) := by rw [hn]; rfl
    refine seqF_nx (asgS_eq hbl) (seqF_nx (asgS_eq (kE_eq (consE_eq (a := .int a) rfl (consE_eq (a := .int n) rfl rfl)) g1)) (seqF_nx (asgS_eq (a := .int 0) rfl) (seqF_nx (σ' := ⟨[some (.int a), some (.int b), some (.int n), some (.lst (res35 a n)), some (.int 0), none, none, none, none], some (5, [])⟩) rfl ?_)))
    refine seqF_nx (σ' := ⟨[some (.int a), some (.int b), some (.int n), some (.lst (res35 a n)), some (.int ((a % b : Nat) : Int)), none, x6, x7, none], some (5, (ldq b (2 ^ n) hs 0).map fun (d : Nat) => AV.int (d : Int))⟩) ?_ ?_
    · have : iterL (.lst (res35 a n)) = some (res35 a n) := by
        show guardO (decide _) _ = _
        rw [decide_eq_true (hrl ▸ Nat.le_trans hm (by decide))]; rfl
      show (iterL (.lst (res35 a n))).bind _ = _
      rw [this]
      show forL _ _ _ (res35 a n).reverse _ = _
      rw [hrr]
      rw [v1, List.nil_append] at hloop
      exact hloop
    · refine seqF_nx (σ' := ⟨[some (.int a), some (.int b), some (.int n), some (.lst (res35 a n)), some (.int ((a % b : Nat) : Int)), none, x6, x7, none], some (5, ((ldq b (2 ^ n) hs 0).map fun (d : Nat) => AV.int (d : Int)).reverse)⟩) ?_ ?_
      · show (lid _).bind _ = _
        unfold lid
        rw [if_pos (by rw [List.length_map, ldq_length, hsl]; exact Nat.le_trans hm (by decide))]
        rfl
      · show endDP ⟨[some (.int a), some (.int b), some (.int n), some (.lst (res35 a n)), some (.int ((a % b : Nat) : Int)), some (.lst (((ldq b (2 ^ n) hs 0).map fun (d : Nat) => AV.int (d : Int)).reverse)), x6, x7, none], none⟩ = _
        unfold endDP
        refine seqF_nx (asgS_eq (kE_eq (consE_eq rfl (consE_eq (a := .int n) rfl rfl)) g2)) ?_
        exact seqF_ret rfl
  exact fnKS_eq rfl e rfl
end Mine
namespace Mine
noncomputable def Dint_divmod : FD := { names := ["a", "b", "q", "r"], scope := (f1 56).scope }
noncomputable def Fint_divmod (K0 K1 : List AV → Option AV) : { F : AS → Option (Fl × AS) // ∀ (G : GC) (n : Nat), L1 G → 8 < n → CallOk G false n (.ref 56) K0 → CallOk G false n (.ref 49) K1 → SS G Dint_divmod false n (bodyOf (f1 56)) F } :=
  ⟨_, fun G n L h8 hint_divmod h_divmod_pos =>
   (SS.cons (S1.ite (ST.cmp (SE.nm 1 (by decide +kernel)) SE.int (op_eq h8)) (SS.cons S1.dead SS.nil) (SS.cons (S1.ite (ST.cmp (SE.nm 1 (by decide +kernel)) SE.int op_lt) (SS.cons (S1.assignT (Asg.tup (NamesT.cs 2 (by decide +kernel) (NamesT.cs 3 (by decide +kernel) NamesT.nil))) (SE.cl L.ok (by decide +kernel) L.gn_int_divmod L.kp_int_divmod hint_divmod (SEs.cons (SE.un (SE.nm 0 (by decide +kernel)) op_neg) (SEs.cons (SE.un (SE.nm 1 (by decide +kernel)) op_neg) SEs.nil)))) (SS.cons (S1.ret (SE.tup (SEs.cons (SE.nm 2 (by decide +kernel)) (SEs.cons (SE.un (SE.nm 3 (by decide +kernel)) op_neg) SEs.nil)))) SS.nil)) (SS.cons (S1.ite (ST.cmp (SE.nm 0 (by decide +kernel)) SE.int op_lt) (SS.cons (S1.assignT (Asg.tup (NamesT.cs 2 (by decide +kernel) (NamesT.cs 3 (by decide +kernel) NamesT.nil))) (SE.cl L.ok (by decide +kernel) L.gn_int_divmod L.kp_int_divmod hint_divmod (SEs.cons (SE.un (SE.nm 0 (by decide +kernel)) op_inv) (SEs.cons (SE.nm 1 (by decide +kernel)) SEs.nil)))) (SS.cons (S1.ret (SE.tup (SEs.cons (SE.un (SE.nm 2 (by decide +kernel)) op_inv) (SEs.cons (SE.bin (SE.nm 1 (by decide +kernel)) (SE.un (SE.nm 3 (by decide +kernel)) op_inv) op_add) SEs.nil)))) SS.nil)) (SS.cons (S1.ret (SE.cl L.ok (by decide +kernel) L.gn__divmod_pos L.kp__divmod_pos h_divmod_pos (SEs.cons (SE.nm 0 (by decide +kernel)) (SEs.cons (SE.nm 1 (by decide +kernel)) SEs.nil)))) SS.nil)) SS.nil)) SS.nil)) SS.nil)⟩
noncomputable def Kdm (K0 K1 : List AV → Option AV) : List AV → Option AV := fnKR Dint_divmod ["a", "b"] (fun σ => ((Fint_divmod K0 K1).1 σ).bind fun x => some x.1)
theorem okdm {G : GC} {n : Nat} (L : L1 G) (h8 : 8 < n) {K0 K1 : List AV → Option AV} (hint_divmod : CallOk G false n (.ref 56) K0) (h_divmod_pos : CallOk G false n (.ref 49) K1) : CallOk G false (n + 1) (.ref 56) (Kdm K0 K1) :=
  fn_ok L.ok (L.fnAt2 56) rfl rfl (fnChkB_ok (by decide +kernel)) (by intro vs h; obtain ⟨v0, v1, rfl⟩ := len2 h; rfl) ((Fint_divmod K0 K1).2 G n L h8 hint_divmod h_divmod_pos)
noncomputable def unE (f : AS → Option AV) (k : AV → Option AV) (σ : AS) : Option AV := (f σ).bind k
noncomputable def deadS (_ : AS) : Option (Fl × AS) := none
noncomputable def finM (K0 K1 : List AV → Option AV) : AS → Option (Fl × AS) :=
  seqF (iteS (cmpT (gv 1) (cE 0) eqV) (seqF deadS nxS)
    (seqF (iteS (cmpT (gv 1) (cE 0) ltV)
      (seqF (asgT [2, 3] (kE (consE (unE (gv 0) negV) (consE (unE (gv 1) negV) nilE)) K0)) (seqF (retS (tupE (consE (gv 2) (consE (unE (gv 3) negV) nilE)))) nxS))
      (seqF (iteS (cmpT (gv 0) (cE 0) ltV)
        (seqF (asgT [2, 3] (kE (consE (unE (gv 0) invV) (consE (gv 1) nilE)) K0)) (seqF (retS (tupE (consE (unE (gv 2) invV) (consE (binE (gv 1) (unE (gv 3) invV) addV) nilE)))) nxS))
        (seqF (retS (kE (consE (gv 0) (consE (gv 1) nilE)) K1)) nxS)) nxS)) nxS)) nxS
theorem finM_eq (K0 K1 : List AV → Option AV) : (Fint_divmod K0 K1).1 = finM K0 K1 := rfl
noncomputable def st2 (a b : Int) : AS := ⟨[some (.int a), some (.int b), none, none], none⟩
theorem eqV_int {a b : Int} (h : a ≠ b) : eqV (.int a) (.int b) = some (.bool false) := by
  have : eqV (.int a) (.int b) = some (.bool (decide (a = b))) := rfl
  rw [this, decide_eq_false h]
theorem ltV_t {a b : Int} (h : a < b) : ltV (.int a) (.int b) = some (.bool true) := by
  have : ltV (.int a) (.int b) = some (.bool (decide (a < b))) := rfl
  rw [this, decide_eq_true h]
theorem ltV_f {a b : Int} (h : ¬ a < b) : ltV (.int a) (.int b) = some (.bool false) := by
  have : ltV (.int a) (.int b) = some (.bool (decide (a < b))) := rfl
  rw [this, decide_eq_false h]
theorem finM_pos {K0 K1 : List AV → Option AV} {a b : Int} {r : AV} (ha : 0 ≤ a) (hb : 0 < b) (h : K1 [.int a, .int b] = some r) : finM K0 K1 (st2 a b) = some (.ret r, st2 a b) := by
  unfold finM
  refine seqF_ret (iteS_f (cmpT_eq (a := .int b) (b := .int 0) rfl rfl (eqV_int (Int.ne_of_gt hb)) rfl) (seqF_ret (iteS_f (cmpT_eq (a := .int b) (b := .int 0) rfl rfl (ltV_f (Int.not_lt.mpr (Int.le_of_lt hb))) rfl) (seqF_ret (iteS_f (cmpT_eq (a := .int a) (b := .int 0) rfl rfl (ltV_f (Int.not_lt.mpr ha)) rfl) (seqF_ret (retS_eq (kE_eq (consE_eq (a := .int a) rfl (consE_eq (a := .int b) rfl rfl)) h))))))))
theorem finM_neg {K0 K1 : List AV → Option AV} {a b q r : Int} (ha : a < 0) (hb : 0 < b) (h : K0 [.int (Builtin.bitNot a), .int b] = some (.tup [.int q, .int r])) : ∃ σ', finM K0 K1 (st2 a b) = some (.ret (.tup [.int (Builtin.bitNot q), .int (b + Builtin.bitNot r)]), σ') := by
  unfold finM
  refine ⟨⟨[some (.int a), some (.int b), some (.int q), some (.int r)], none⟩, seqF_ret (iteS_f (cmpT_eq (a := .int b) (b := .int 0) rfl rfl (eqV_int (Int.ne_of_gt hb)) rfl) (seqF_ret (iteS_f (cmpT_eq (a := .int b) (b := .int 0) rfl rfl (ltV_f (Int.not_lt.mpr (Int.le_of_lt hb))) rfl) (seqF_ret (iteS_t (cmpT_eq (a := .int a) (b := .int 0) rfl rfl (ltV_t ha) rfl) (seqF_nx (σ' := ⟨[some (.int a), some (.int b), some (.int q), some (.int r)], none⟩) ?_ (seqF_ret (retS_eq rfl))))))))⟩
  unfold asgT
  rw [kE_eq (k := K0) (consE_eq (a := .int (Builtin.bitNot a)) rfl (consE_eq (a := .int b) rfl rfl)) h]
  rfl
theorem finM_nb {K0 K1 : List AV → Option AV} {a b q r : Int} (hb : b < 0) (h : K0 [.int (-a), .int (-b)] = some (.tup [.int q, .int r])) : ∃ σ', finM K0 K1 (st2 a b) = some (.ret (.tup [.int q, .int (-r)]), σ') := by
  unfold finM
  refine ⟨⟨[some (.int a), some (.int b), some (.int q), some (.int r)], none⟩, seqF_ret (iteS_f (cmpT_eq (a := .int b) (b := .int 0) rfl rfl (eqV_int (Int.ne_of_lt hb)) rfl) (seqF_ret (iteS_t (cmpT_eq (a := .int b) (b := .int 0) rfl rfl (ltV_t hb) rfl) (seqF_nx (σ' := ⟨[some (.int a), some (.int b), some (.int q), some (.int r)], none⟩) ?_ (seqF_ret (retS_eq rfl))))))⟩
  unfold asgT
  rw [kE_eq (k := K0) (consE_eq (a := .int (-a)) rfl (consE_eq (a := .int (-b)) rfl rfl)) h]
  rfl
noncomputable def PF (p : Int → Int → Bool) (as : List AV) (c : AV) : Prop := ∃ a b, as = [.int a, .int b] ∧ p a b = true ∧ a.natAbs < lim ∧ b.natAbs < lim ∧ c = .tup [.int (a.fdiv b), .int (a.fmod b)]
noncomputable def KF (p : Int → Int → Bool) : List AV → Option AV := relK (PF p)
theorem Kdm_eq {K0 K1 : List AV → Option AV} {a b : Int} {r : AV} {σ' : AS} (e : finM K0 K1 (st2 a b) = some (.ret r, σ')) : Kdm K0 K1 [.int a, .int b] = some r := fnKS_eq rfl ((congrFun (finM_eq K0 K1) _).trans e) rfl
theorem KF_val {p : Int → Int → Bool} {a b : Int} (h1 : p a b = true) (h2 : a.natAbs < lim) (h3 : b.natAbs < lim) : KF p [.int a, .int b] = some (.tup [.int (a.fdiv b), .int (a.fmod b)]) :=
  relK_val ⟨a, b, rfl, h1, h2, h3, rfl⟩ fun d ⟨a', b', e, _, _, _, e2⟩ => by
    obtain rfl := int_inj (List.cons.inj e).1
    obtain rfl := int_inj (List.cons.inj (List.cons.inj e).2).1
    exact e2
noncomputable def pA (a b : Int) : Bool := decide (0 ≤ a) && decide (0 < b)
noncomputable def pB (_ b : Int) : Bool := decide (0 < b)
noncomputable def pC (_ b : Int) : Bool := decide (b ≠ 0)
theorem dm_eq {b q r : Int} (hb : 0 < b) {a : Int} (e : b * q + r = -a - 1) (h2 : 0 ≤ r) (h3 : r < b) : (b + (-r - 1)) + b * (-q - 1) = a ∧ 0 ≤ b + (-r - 1) ∧ b + (-r - 1) < b := by
  rw [Int.mul_sub, Int.mul_neg]
  generalize b * q = w at *
  omega
theorem dm_not {a b : Int} (hb : 0 < b) : Builtin.bitNot ((Builtin.bitNot a).fdiv b) = a.fdiv b ∧ b + Builtin.bitNot ((Builtin.bitNot a).fmod b) = a.fmod b := by
  have h0 : 0 ≤ b := Int.le_of_lt hb
  rw [Int.fdiv_eq_ediv_of_nonneg _ h0, Int.fmod_eq_emod_of_nonneg _ h0, Int.fdiv_eq_ediv_of_nonneg _ h0, Int.fmod_eq_emod_of_nonneg _ h0]
  have := (Int.ediv_emod_unique (a := a) (b := b) (r := b + (-(Builtin.bitNot a % b) - 1)) (q := -(Builtin.bitNot a / b) - 1) hb).mpr (dm_eq hb (Int.mul_ediv_add_emod (Builtin.bitNot a) b) (Int.emod_nonneg (Builtin.bitNot a) (Int.ne_of_gt hb)) (Int.emod_lt_of_pos (Builtin.bitNot a) hb))
  exact ⟨this.1.symm, this.2.symm⟩
theorem not_abs {a : Int} (h : a < 0) : 0 ≤ Builtin.bitNot a ∧ ∀ m, a.natAbs < m → (Builtin.bitNot a).natAbs < m := by
  unfold Builtin.bitNot
  exact ⟨by omega, fun m h => by omega⟩
theorem st_pos {K0 : List AV → Option AV} {a b : Int} (ha : 0 ≤ a) (hb : 0 < b) (h2 : a.natAbs < lim) (h3 : b.natAbs < lim) : Kdm K0 K_divmod_pos [.int a, .int b] = some (.tup [.int (a.fdiv b), .int (a.fmod b)]) := by
  obtain ⟨m, rfl⟩ := Int.eq_ofNat_of_zero_le ha
  obtain ⟨k, rfl⟩ := Int.eq_ofNat_of_zero_le (Int.le_of_lt hb)
  rw [Int.natAbs_natCast] at h2 h3
  have f1 : (m : Int).fdiv (k : Int) = ((m / k : Nat) : Int) := Int.ofNat_fdiv m k ▸ rfl
  have f2 : (m : Int).fmod (k : Int) = ((m % k : Nat) : Int) := by
    rw [Int.fmod_eq_emod_of_nonneg _ (Int.natCast_nonneg k)]; rfl
  rw [f1, f2]
  exact Kdm_eq (finM_pos (Int.natCast_nonneg _) hb (val49 m k h2 h3 (Int.ofNat_lt.mp hb)))
theorem st_neg {p : Int → Int → Bool} {a b : Int} (ha : a < 0) (hb : 0 < b) (hp : ∀ a, 0 ≤ a → p a b = true) (h2 : a.natAbs < lim) (h3 : b.natAbs < lim) : Kdm (KF p) K_divmod_pos [.int a, .int b] = some (.tup [.int (a.fdiv b), .int (a.fmod b)]) := by
  obtain ⟨σ', e⟩ := finM_neg (K0 := KF p) (K1 := K_divmod_pos) ha hb (KF_val (hp _ (not_abs ha).1) ((not_abs ha).2 _ h2) h3)
  rw [(dm_not hb).1, (dm_not hb).2] at e
  exact Kdm_eq e
theorem stA {as : List AV} {c : AV} (h : KF pA as = some c) : Kdm (fun _ => none) K_divmod_pos as = some c := by
  obtain ⟨a, b, rfl, hp, h2, h3, rfl⟩ := relK_some h
  unfold pA at hp
  rw [Bool.and_eq_true, decide_eq_true_eq, decide_eq_true_eq] at hp
  exact st_pos hp.1 hp.2 h2 h3
theorem stB {as : List AV} {c : AV} (h : KF pB as = some c) : Kdm (KF pA) K_divmod_pos as = some c := by
  obtain ⟨a, b, rfl, hp, h2, h3, rfl⟩ := relK_some h
  replace hp : 0 < b := of_decide_eq_true hp
  exact (Classical.em (a < 0)).elim (fun ha => st_neg ha hp (fun a h => by unfold pA; rw [decide_eq_true h, decide_eq_true hp]; rfl) h2 h3) fun ha => st_pos (Int.not_lt.mp ha) hp h2 h3
theorem Kint_inv {as : List AV} {c : AV} (h : Kint_divmod as = some c) : PF pC as c := by
  obtain ⟨x, y, rfl, h⟩ := on2_inv h
  obtain ⟨a, b, rfl, rfl, h⟩ := ii_inv h
  obtain ⟨hok, h⟩ := guardO_some h
  rw [Bool.and_eq_true, Bool.and_eq_true] at hok
  exact ⟨a, b, rfl, hok.1.1, of_decide_eq_true hok.1.2, of_decide_eq_true hok.2, (Option.some.inj h).symm⟩
theorem stC {as : List AV} {c : AV} (h : Kint_divmod as = some c) : Kdm (KF pB) K_divmod_pos as = some c := by
  obtain ⟨a, b, rfl, hp, h2, h3, rfl⟩ := Kint_inv h
  replace hp : b ≠ 0 := of_decide_eq_true hp
  refine (Classical.em (0 < b)).elim (fun hb => (Classical.em (a < 0)).elim (fun ha => st_neg ha hb (fun _ _ => decide_eq_true hb) h2 h3) fun ha => st_pos (Int.not_lt.mp ha) hb h2 h3) fun hb => ?_
  replace hb : b < 0 := Int.lt_iff_le_and_ne.mpr ⟨Int.not_lt.mp hb, hp⟩
  obtain ⟨σ', e⟩ := finM_nb (K0 := KF pB) (K1 := K_divmod_pos) (a := a) (b := b) hb (KF_val (p := pB) (decide_eq_true (Int.neg_pos_of_neg hb)) (by rw [Int.natAbs_neg]; exact h2) (by rw [Int.natAbs_neg]; exact h3))
  rw [Int.neg_fdiv_neg, Int.neg_fmod_neg, Int.neg_neg] at e
  exact Kdm_eq e
theorem okint_divmod {G : GC} (L : L2 G) {n : Nat} (hn : 44 ≤ n) : CallOk G false (n + 4) (.ref 56) Kint_divmod := by
  have hl : 9 ≤ n := Nat.le_trans (by decide) hn
  have h1 : CallOk G false (n + 1) (.ref 49) K_divmod_pos :=
    ok_divmod_pos L.toL1 (Nat.lt_of_lt_of_le (by decide) hn) ((ok_int2digits L (n := 40) (Nat.le_refl _)).mono (Nat.le_trans (by decide) hn)) ((ok_div2n1n L.toL1 (n := 9) (by decide)).mono (Nat.le_trans (by decide) hn)) ((ok_digits2int L (n := 40) (Nat.le_refl _)).mono (Nat.le_trans (by decide) hn))
  have hA : CallOk G false (n + 2) (.ref 56) (KF pA) := (okdm L.toL1 (Nat.le_succ_of_le hl) (K0 := fun _ => none) (fun A s B as vs c R S hv hk => nomatch hk) h1).weak fun as c h => stA h
  have hB : CallOk G false (n + 3) (.ref 56) (KF pB) := (okdm L.toL1 (Nat.le_succ_of_le (Nat.le_succ_of_le hl)) hA (h1.mono (Nat.le_succ _))).weak fun as c h => stB h
  exact (okdm L.toL1 (Nat.le_succ_of_le (Nat.le_succ_of_le (Nat.le_succ_of_le hl))) hB (h1.mono (Nat.le_add_right (n + 1) 2))).weak fun as c h => stC h
end Mine
namespace Mine
open Sem (wp)
section
variable {prog : Program} {w : World} {A : Around} {R : GenEnd} {Y : Protocol} {n : Nat} {s₀ : Shared} {c : Code} {fs : List Frame} {s : Shared} {env : Env}
  {K : Flow → Sem Fin} {H : Value → Sem Fin} {gd : Bool → Bool} {lv : List Value → List Value}
noncomputable def loopFrame (env : Env) (K : Flow → Sem Fin) (H : Value → Sem Fin) (gd : Bool → Bool) (lv : List Value → List Value) (c : Code) (p : Pos) : Frame :=
  .ret (fun r => ((match r with | .ok f => (.pure f : Sem Flow) | .error e => .raise e).onRaise fun (x : Value) => do
        if (← field x 1) == Value.none then unsupported "frame.own-activation:exception-without-traceback"
        setFlight x env.frame).wrap K H gd lv) none (gd false) (lv []) c p []
theorem seg_stmt {st : Stmt} (h : wpAny (model prog w) (A.over c fs) (exec st env) (fun f s' => Seg (model prog w) A R Y n s₀ c (K f) fs s') Nay s) :
    Seg (model prog w) A R Y n s₀ c ((exec st env).wrap K H gd lv) fs s :=
  seg_wrap (wpAny_mono h (fun _ _ q => q) fun _ _ q => q.elim)
theorem seg_If {test : Expr} {body orelse : List Stmt} {pos : Pos}
    (h : wpAny (model prog w) (A.over c fs) (isTrue test env (eval test env)) (fun b s' => if b = true then Seg (model prog w) A R Y n s₀ c ((execs body env).wrap K H gd lv) fs s' else Seg (model prog w) A R Y n s₀ c ((execs orelse env).wrap K H gd lv) fs s') Nay s) :
    Seg (model prog w) A R Y n s₀ c ((exec (.If test body orelse pos) env).wrap K H gd lv) fs s := by
  rw [exec_If]
  refine seg_bind_wrap (wpAny_standAt (seg_bind_wrap (wpAny_mono h (fun b s' q => ?_) fun _ _ q => q.elim)))
  cases b with
  | true => exact q
  | false => exact q
theorem seg_For {target iter : Expr} {body orelse : List Stmt} {pos : Pos} (hs : ∀ x, foldedSetIterable iter env x = pure x)
    (h : wpAny (model prog w) (A.over c fs) (eval iter env) (fun x s₁ => wpAny (model prog w) (A.over c fs) (pyIter x) (fun it s₂ => ∀ p, Seg (model prog w) A R Y n s₀ (.forLoop target it body orelse env) ((model prog w).den (.forLoop target it body orelse env)) (loopFrame env K H gd lv c p :: fs) s₂) Nay s₁) Nay s) :
    Seg (model prog w) A R Y n s₀ c ((exec (.For target iter body orelse pos) env).wrap K H gd lv) fs s := by
  rw [exec_For]
  refine seg_bind_wrap (wpAny_standAt (seg_bind_wrap (wpAny_mono h (fun x s₁ q => seg_bind_wrap (wpAny_of_eq (hs x) (seg_bind_wrap (wpAny_standAt (seg_bind_wrap (wpAny_holding (wpAny_mono q (fun it s₂ q₂ => ?_) fun _ _ q => q.elim))))))) fun _ _ q => q.elim)))
  exact seg_call q₂
end
end Mine
namespace Mine
open Sem (wp)
section
variable {prog : Program} {w : World} {A : Around} {R : GenEnd} {Y : Protocol} {n : Nat} {s₀ : Shared} {c : Code} {fs : List Frame} {s : Shared} {env : Env}
  {K : Flow → Sem Fin} {H : Value → Sem Fin} {gd : Bool → Bool} {lv : List Value → List Value}
noncomputable def turnH (env : Env) (e : Value) : Sem Fin := (do noteFrame e env; theTreesLotGoes e : Sem Unit).bind fun _ => .raise e
noncomputable def turnK (c : Code) : Flow → Sem Fin
  | .next => .pure (.again c)
  | .cont => .pure (.again c)
  | .brk => .pure (.done .next)
  | .ret v => .pure (.done (.ret v))
theorem seg_forTurn {target : Expr} {it : Value} {body orelse : List Stmt}
    (h : wpAny (model prog w) (A.over (.forLoop target it body orelse env) fs) (pyNext it) (fun r s₁ => match r with
      | none => Seg (model prog w) A R Y n s₀ (.block orelse env) ((model prog w).den (.block orelse env)) fs s₁
      | some v => wpAny (model prog w) (A.over (.forLoop target it body orelse env) fs) (letOwnedTupleGo target it v) (fun _ s₁' => wpAny (model prog w) (A.over (.forLoop target it body orelse env) fs) (assign target env v) (fun _ s₂ =>
          Seg (model prog w) A R Y n s₀ (.forLoop target it body orelse env) ((execs body env).wrap (turnK (.forLoop target it body orelse env)) (turnH env) id id) fs s₂) Nay s₁') Nay s₁) Nay s) :
    Seg (model prog w) A R Y n s₀ (.forLoop target it body orelse env) ((model prog w).den (.forLoop target it body orelse env)) fs s := by
  show Seg _ A R Y n s₀ _ ((forTurn target it body orelse env).onRaise (fun x => do noteFrame x env; theTreesLotGoes x)) fs s
  unfold forTurn
  rw [Sem.onRaise_eq_wrap]
  refine seg_bind_wrap (wpAny_standAt (seg_bind_wrap (wpAny_onRaise (wpAny_mono h (fun r s₁ q => ?_) fun _ _ q => q.elim))))
  cases r with
  | none => exact seg_again rfl q
  | some v =>
    refine seg_bind_wrap (wpAny_mono q (fun _ s₁' q => seg_bind_wrap (wpAny_mono q (fun _ s₂ q => ?_) fun _ _ q => q.elim)) fun _ _ q => q.elim)
    rw [Sem.bind_eq_wrap', Sem.wrap_wrap]
    have e : ∀ f : Flow, (Sem.wrap Sem.pure (fun e => (do noteFrame e env; theTreesLotGoes e : Sem Unit).bind fun _ => .raise e) id id (match f with
        | .next | .cont => again (.forLoop target it body orelse env)
        | .brk => pure (.done .next)
        | .ret v => pure (.done (.ret v)) : Sem Fin)) = turnK (.forLoop target it body orelse env) f := fun f => by cases f <;> rfl
    exact Eq.mpr (congrArg (fun t => Seg (model prog w) A R Y n s₀ (.forLoop target it body orelse env) t fs s₂) (Sem.wrap_congr (execs body env) id id e (H' := turnH env) fun _ => rfl)) q
theorem seg_blockNil {p : Pos} (h : Seg (model prog w) A R Y n s₀ c (K .next) fs s) :
    Seg (model prog w) A R Y n s₀ (.block [] env) ((model prog w).den (.block [] env)) (loopFrame env K H gd lv c p :: fs) s := by
  show Seg _ A R Y n s₀ _ (leafOf (.ok .next)) _ s
  exact seg_leaf (.ok .next) h
theorem seg_doneRet {c' : Code} {p : Pos} {v : Value} (h : Seg (model prog w) A R Y n s₀ c (K (.ret v)) fs s) :
    Seg (model prog w) A R Y n s₀ c' (.pure (.done (.ret v))) (loopFrame env K H gd lv c p :: fs) s := by
  show Seg _ A R Y n s₀ _ (leafOf (.ok (.ret v))) _ s
  exact seg_leaf (.ok (.ret v)) h
theorem seg_While' {test : Expr} {body orelse : List Stmt} {pos : Pos}
    (h : ∀ p, Seg (model prog w) A R Y n s₀ (.whileLoop test body orelse env) ((model prog w).den (.whileLoop test body orelse env)) (loopFrame env K H gd lv c p :: fs) s) :
    Seg (model prog w) A R Y n s₀ c ((exec (.While test body orelse pos) env).wrap K H gd lv) fs s := seg_While h
theorem seg_whileTurn {test : Expr} {body orelse : List Stmt}
    (h : wpAny (model prog w) (A.over (.whileLoop test body orelse env) fs) (isTrue test env (eval test env)) (fun b s' => b = true ∧
        Seg (model prog w) A R Y n s₀ (.whileLoop test body orelse env) ((execs body env).wrap (turnK (.whileLoop test body orelse env)) (fun e => (do noteFrame e env; theTreesLotGoes e : Sem Unit).wrap (fun _ => .raise e) .raise id id) id id) fs s') Nay s) :
    Seg (model prog w) A R Y n s₀ (.whileLoop test body orelse env) ((model prog w).den (.whileLoop test body orelse env)) fs s := by
  refine seg_whileLoop (wpAny_mono h (fun b s' q => ?_) fun _ _ q => q.elim)
  rw [if_pos q.1]
  have e : ∀ f : Flow, (match f with
            | .next | .cont => (.pure (.again (.whileLoop test body orelse env)) : Sem Fin)
            | .brk => .pure (.done .next)
            | .ret v => .pure (.done (.ret v))) = turnK (.whileLoop test body orelse env) f := fun f => by cases f <;> rfl
  exact Eq.mpr (congrArg (fun t => Seg (model prog w) A R Y n s₀ (.whileLoop test body orelse env) t fs s') (Sem.wrap_congr (execs body env) id id e fun _ => rfl)) q.2
end
end Mine
namespace Mine
inductive GState where
  | at (r : List Int) (last : Option Int)
  | ever (v : Int)
noncomputable def gStep : GState → Option (Option (Int × GState))
  | .at [] _ => some none
  | .at (x :: r) last => if x = 127 then some none else if x = 0 then (match last with
    | none => none
    | some v => some (some (v, .ever v))) else some (some (x, .at r (some x)))
  | .ever v => some (some (v, .ever v))
noncomputable def gN : Nat → GState → Option GState
  | 0, st => some st
  | j + 1, st => match gN j st with
    | some st => match gStep st with
      | some (some (_, st')) => some st'
      | _ => none
    | none => none
theorem gN_next {j : Nat} {st0 st st' : GState} {x : Int} (h : gN j st0 = some st) (hs : gStep st = some (some (x, st'))) : gN (j + 1) st0 = some st' := by
  rw [gN, h]
  show (match gStep st with
      | some (some (_, st')) => some st'
      | _ => none) = _
  rw [hs]

noncomputable def isV : AV → AV → Option AV
  | .int _, .none => some (.bool false)
  | .none, .none => some (.bool true)
  | _, _ => none
section
variable {G : GC} {fd : FD} {p : Bool} {n : Nat}
theorem op_is : Op2 G n (compareOp .Is) isV := by
  intro A s B a b c va vb R hB ra rb hk
  cases a <;> first | exact no hk | skip
  · cases b <;> first | exact no hk | skip
    cases ra.none_inv; cases rb.none_inv; cases hk
    exact is_none_gen ⟨Kp.refl, .bool⟩
  · cases b <;> first | exact no hk | skip
    obtain ⟨t, rfl⟩ := ra.int_inv
    cases rb.none_inv; cases hk
    exact is_none_gen ⟨Kp.refl, .bool⟩

noncomputable def isAtom : AV → Prop
  | .none => True
  | .int _ => True
  | _ => False
theorem VR.atom {h h' : Heap} {B B' : Addr → Prop} {a : AV} {v : Value} (ha : isAtom a) (r : VR h B a v) : VR h' B' a v := by
  cases a <;> first | exact ha.elim | skip
  · cases r.none_inv; exact .none
  · obtain ⟨t, rfl⟩ := r.int_inv; exact .int
theorem St.noOwn {env : Env} {oa : Option Addr} {X : Addr → Prop} {σ : AS} {h : Heap} (ho : σ.own = none) (S : St G fd env oa X σ h) : St G fd env none X σ h := by
  have up : ∀ b, Bset env none X b → Bset env oa X b := fun b q => by
    rcases q with q | q | q | q
    · exact .inl q
    · exact .inr (.inl q)
    · cases q
    · exact .inr (.inr (.inr q))
  refine ⟨S.eo, fun b t => (S.tabOk b t).mono (fun _ e => e) (fun _ _ e _ _ => e) (fun b _ _ q => up b q), fun b o e => ⟨(S.base b o e).1, fun q => (S.base b o e).2 (up b q)⟩, S.tab, fun b q => S.live b (up b q), S.locX, S.cellX, (fun a ha => nomatch ha), S.cells, S.cellsN, ?_⟩
  obtain ⟨m, hn, g1, -⟩ := S.ns
  refine ⟨m, hn, fun i x a hx ha => ?_, fun i l hl => by rw [ho] at hl; cases hl⟩
  obtain ⟨v, hv, hr⟩ := g1 i x a hx ha
  exact ⟨v, hv, hr.mono (fun b o e _ => e) fun b _ _ q => up b q⟩
theorem St.carry {env : Env} {X B : Addr → Prop} {σ : AS} {h h' : Heap} (hc : env.cells = []) (ha : ∀ (i : Nat) (a : AV), σ.loc[i]? = some (some a) → isAtom a) (ho : σ.own = none) (S : St G fd env none X σ h)
    (hC : ∀ o, h.get? env.locals = some o → h'.get? env.locals = some o) (g : GSt G B h') (hB : ∀ b, Bset env none X b → B b) : St G fd env none X σ h' := by
  refine ⟨S.eo, fun b t => (g.tabOk b t).mono (fun _ e => e) (fun _ _ e _ _ => e) (fun b _ _ q => hB b q), fun b o e => ⟨(g.base b o e).1, fun q => (g.base b o e).2 (hB b q)⟩, S.tab, fun b q => g.live b (hB b q), S.locX, S.cellX, S.oaX, (fun c hc' => by rw [hc] at hc'; cases hc'), S.cellsN, ?_⟩
  obtain ⟨m, hn, g1, -⟩ := S.ns
  refine ⟨m, Heap.Ns.at' hn hC, fun i x a hx hv => ?_, fun i l e => by rw [ho] at e; cases e⟩
  obtain ⟨v, hv', hr⟩ := g1 i x a hx hv
  exact ⟨v, hv'.keep (fun c hc' => by rw [hc] at hc'; cases hc'), hr.atom (ha i a hv)⟩
end
structure GKeep (C I : Addr) (s₀ s : Shared) : Prop where
  ex : s.drawn = s₀.drawn ∧ s.os = s₀.os
  gens : s.gens = s₀.gens
  heap : ∀ b o, b ≠ C → b ≠ I → s₀.heap.get? b = some o → s.heap.get? b = some o
theorem GKeep.refl {C I : Addr} {s : Shared} : GKeep C I s s := ⟨⟨rfl, rfl⟩, rfl, fun _ _ _ _ e => e⟩
theorem GKeep.trans {C I : Addr} {s s' s'' : Shared} (a : GKeep C I s s') (b : GKeep C I s' s'') : GKeep C I s s'' :=
  ⟨⟨b.ex.1.trans a.ex.1, b.ex.2.trans a.ex.2⟩, b.gens.trans a.gens, fun c o h1 h2 e => b.heap c o h1 h2 (a.heap c o h1 h2 e)⟩
theorem GKeep.of_Ks {G : GC} {env : Env} {oa' : Option Addr} {I : Addr} {s s' : Shared} (hc : env.cells = []) (k : Ks G true env none oa' s s') : GKeep env.locals I s s' :=
  ⟨k.ex, k.gens rfl, fun b o h1 _ e => k.heap b o e h1 (.inl fun c h => by rw [hc] at h; cases h) (fun h => nomatch h) (.inl rfl)⟩
theorem GKeep.of_Kp {G : GC} {C I : Addr} {s s' : Shared} (k : Kp G true s s') : GKeep C I s s' :=
  ⟨k.ex, k.gens rfl, fun b o _ _ e => k.heap b o e (.inl rfl)⟩
theorem GKeep.of_same {C I : Addr} {s : Shared} {h' : Heap} {tk : Nat} (hk : ∀ b o, b ≠ I → s.heap.get? b = some o → h'.get? b = some o) : GKeep C I s { s with heap := h', toks := tk } :=
  ⟨⟨rfl, rfl⟩, rfl, fun b o _ h2 e => hk b o h2 e⟩
end Mine
namespace Mine
noncomputable def D78 : FD := { names := ["grouping", "last_interval", "interval"], scope := (f1 78).scope }
theorem L1.gn_CHAR_MAX {G : GC} (L : L1 G) : ∃ t, GName G "CHAR_MAX" (.int 127 t) := ⟨_, L.glob (by intro P; with_unfolding_all rfl)⟩
structure Gi (st1 : Stmt) (If1 : Stmt) (T2 T3 : Expr) (st4 : Stmt) : Prop where
  s1 : ∃ p1 k p2 p3, st1 = .Assign [.Name "last_interval" p1] (.Constant .none k p2) p3 ∧ ∀ env, swapsWith (.Constant .none k p2) (some (.Name "last_interval" p1)) p3.line env = pure false
  i1 : ∀ (G : GC) (n : Nat), L1 G → 8 < n → S1 G D78 true n If1 (iteS (cmpT (gv 2) (cE 127) eqV) (seqF noneS nxS) nxS)
  t2 : ∀ (G : GC) (n : Nat), 8 < n → ST G D78 true n T2 (cmpT (gv 2) (cE 0) eqV)
  t3 : ∀ (G : GC) (n : Nat), ST G D78 true n T3 (cmpT (gv 1) (fun _ => some .none) isV)
  s4 : ∀ (G : GC) (n : Nat), S1 G D78 true n st4 (asgS 1 (gv 2))
theorem body78 : ∃ st1 If1 T2 T3 R pI If3 k pw1 pw2 pw3 pw4 pw5 pi2 py1 py2 py3 st4 pf1 pf2 pf3, bodyOf (f1 78) = [st1, .For (.Name "interval" pf1) (.Name "grouping" pf2) [If1, .If T2 [.If T3 R [] pI, .While (.Constant (.bool true) k pw1) [.Expr (.Yield (some (.Name "last_interval" pw2)) pw3) pw4] [] pw5] [] pi2, .Expr (.Yield (some (.Name "interval" py1)) py2) py3, st4] [] pf3] ∧ If3 = If1 ∧ Gi st1 If1 T2 T3 st4 :=
  ⟨_, _, _, _, _, _, _, _, _, _, _, _, _, _, _, _, _, _, _, _, _, rfl, rfl, ⟨_, _, _, _, rfl, fun _ => rfl⟩,
   fun G n L h8 => (let ⟨_, hn⟩ := L.gn_CHAR_MAX; S1.ite (ST.cmp (SE.nm 2 (by decide +kernel)) (SE.gi L.ok (by decide +kernel) hn) (op_eq h8)) (SS.cons S1.retN SS.nil) SS.nil),
   fun G n h8 => ST.cmp (SE.nm 2 (by decide +kernel)) SE.int (op_eq h8),
   fun G n => ST.cmp (SE.nm 1 (by decide +kernel)) SE.none op_is,
   fun G n => S1.asg 1 (by decide +kernel) (SE.nm 2 (by decide +kernel))⟩
end Mine
namespace Mine
theorem room_gen {A : Around} {n : Nat} (R : Room n A) {c : Code} {fs : List Frame} (h1 : (marksOver fs (A.handled, A.handled)).1 = A.handled) (h2 : frameCount (fs.map Frame.where_) + c.weight ≤ 1) (h3 : unitsOf (fs.map Frame.where_) + c.cUnits ≤ 6) {m : Nat} (hm : m + 1 ≤ n) : Room m (A.in1.over c fs) := by
  refine ⟨?_, ?_, ?_⟩
  · show (marksOver fs (A.handled, A.handled)).1 = none
    rw [h1]; exact R.handled
  · refine Nat.lt_of_le_of_lt ?_ R.depth
    rw [show (A.in1.over c fs).depth = A.depth + frameCount (fs.map Frame.where_) + c.weight from rfl, Nat.add_assoc, Nat.add_assoc]
    refine Nat.add_le_add_left ?_ _
    rw [← Nat.add_assoc]
    exact Nat.le_trans (Nat.add_le_add_right h2 m) (Nat.add_comm m 1 ▸ hm)
  · refine Nat.lt_of_le_of_lt ?_ R.units
    rw [show (A.in1.over c fs).units = A.units + 1 + unitsOf (fs.map Frame.where_) + c.cUnits from rfl, Nat.add_assoc, Nat.add_assoc, Nat.add_assoc]
    refine Nat.add_le_add_left ?_ _
    rw [← Nat.add_assoc (unitsOf _), ← Nat.add_assoc]
    refine Nat.le_trans (Nat.add_le_add_right (Nat.add_le_add_left h3 1) (8 * m)) (Nat.le_trans ?_ (Nat.mul_le_mul_left 8 hm))
    rw [Nat.mul_succ, Nat.add_comm]
    exact Nat.add_le_add_left (by decide) _
theorem sub_turn {n m : Nat} (h : m + 1 + 1 ≤ n) : n - (m + 1 + 1) + 1 = n - (m + 1) := by rw [← Nat.sub_add_comm h, Nat.succ_sub_succ]
noncomputable def lastAV : Option Int → AV
  | none => .none
  | some v => .int v
structure GHolds (G : GC) (C I L : Addr) (s s'' : Shared) : Prop where
  keep : ∀ b o, (b = C ∨ b = I ∨ b = L) → s.heap.get? b = some o → s''.heap.get? b = some o
  g : ∃ B, GSt G B s''.heap ∧ B C ∧ B I
noncomputable def gY (G : GC) (st0 : GState) (n₀ : Nat) (C I L : Addr) : Protocol := fun m s₀ v s kap => ∃ st x st' t, gN (n₀ - 1 - m) st0 = some st ∧ gStep st = some (some (x, st')) ∧ v = .int x t ∧ GKeep C I s₀ s ∧ ((∃ o, s.heap.get? C = some o) ∧ ∃ o, s.heap.get? I = some o) ∧ (0 < m → ∀ s'', GHolds G C I L s s'' → kap (.send .none) s'')
noncomputable def gR (st0 : GState) (n₀ : Nat) (C I : Addr) : GenEnd := fun n s₀ r s => r = .ok (.ret .none) ∧ ∃ st, gN (n₀ - n) st0 = some st ∧ gStep st = some none ∧ GKeep C I s₀ s
structure GS (G : GC) (env : Env) (I L : Addr) (vs : List Value) (i : Nat) (last : Option Int) (iv : Option AV) (h : Heap) : Prop where
  S : St G D78 env none (withI G.Tab I) ⟨[none, some (lastAV last), iv], none⟩ h
  it : h.IsListIter I L i
  ls : h.IsList L vs.toArray
  nI : L ≠ I
section
variable {G : GC} {env : Env} {I L : Addr} {vs : List Value} {i : Nat} {last : Option Int} {iv : Option AV} {s s' s₀ : Shared}
theorem GS.live (g : GS G env I L vs i last iv s.heap) : (∃ o, s.heap.get? env.locals = some o) ∧ ∃ o, s.heap.get? I = some o := by
  obtain ⟨o, ho, _⟩ := g.it; exact ⟨g.S.live _ (.inl rfl), o, ho⟩
theorem GS.nC (g : GS G env I L vs i last iv s.heap) : I ≠ env.locals ∧ L ≠ env.locals := by
  refine ⟨fun e => g.S.locX (.inr e.symm), fun e => ?_⟩
  obtain ⟨m, hn, -⟩ := g.S.ns
  obtain ⟨o, ho, _, k, hd⟩ := g.ls
  rw [e] at ho
  obtain ⟨o', es, ep, ho', hd', _⟩ := hn
  rw [ho] at ho'
  cases ho'
  rw [hd] at hd'
  cases hd'
theorem isListIter_at {h h' : Heap} (x : h.IsListIter I L i) (e : ∀ o, h.get? I = some o → h'.get? I = some o) : h'.IsListIter I L i := by
  obtain ⟨o, ho, r⟩ := x; exact ⟨o, e _ ho, r⟩
theorem isList_at {h h' : Heap} {v : Array Value} (x : h.IsList L v) (e : ∀ o, h.get? L = some o → h'.get? L = some o) : h'.IsList L v := by
  obtain ⟨o, ho, r⟩ := x; exact ⟨o, e _ ho, r⟩
theorem GS.carry (hc : env.cells = []) (hi : ∀ a, iv = some a → isAtom a) (g : GS G env I L vs i last iv s.heap) (x : GHolds G env.locals I L s s') : GS G env I L vs i last iv s'.heap := by
  obtain ⟨B, hB, b1, b2⟩ := x.g
  refine ⟨g.S.carry hc (fun j a h => ?_) rfl (fun o e => x.keep _ o (.inl rfl) e) hB fun b q => ?_, isListIter_at g.it fun o e => x.keep _ o (.inr (.inl rfl)) e, isList_at g.ls fun o e => x.keep _ o (.inr (.inr rfl)) e, g.nI⟩
  · match j, h with
    | 0, h => cases h
    | 1, h => cases h; cases last <;> exact True.intro
    | 2, h => exact hi a (Option.some.inj h)
  · rcases q with q | ⟨c, h, _⟩ | q | q
    · exact q ▸ b1
    · rw [hc] at h; cases h
    · cases q
    · rcases q with q | q
      · exact hB.tab b q
      · exact q ▸ b2
theorem GS.step {oa' : Option Addr} {last' : Option Int} {iv' : Option AV} (hc : env.cells = []) (g : GS G env I L vs i last iv s.heap) (k : Ks G true env none oa' s s') (S' : St G D78 env oa' (withI G.Tab I) ⟨[none, some (lastAV last'), iv'], none⟩ s'.heap) :
    GS G env I L vs i last' iv' s'.heap ∧ GKeep env.locals I s s' := by
  have kk : ∀ b o, b ≠ env.locals → s.heap.get? b = some o → s'.heap.get? b = some o := fun b o h1 e => k.heap b o e h1 (.inl fun c h => by rw [hc] at h; cases h) (fun h => nomatch h) (.inl rfl)
  exact ⟨⟨S'.noOwn rfl, isListIter_at g.it fun o e => kk _ o g.nC.1 e, isList_at g.ls fun o e => kk _ o g.nC.2 e, g.nI⟩, .of_Ks hc k⟩
theorem GS.pure (g : GS G env I L vs i last iv s.heap) (k : Kp G true s s') : GS G env I L vs i last iv s'.heap ∧ GKeep env.locals I s s' :=
  ⟨⟨g.S.kp k, isListIter_at g.it fun o e => k.heap _ o e (.inl rfl), isList_at g.ls fun o e => k.heap _ o e (.inl rfl), g.nI⟩, .of_Kp k⟩
end
section
variable {G : GC} {env : Env} {I L : Addr} {vs : List Value} {st0 : GState} {n₀ nR : Nat} {A : Around} {fs : List Frame}
theorem seg_ever (R : ∀ c, c.weight = 0 → c.cUnits = 0 → Room nR (A.in1.over c fs)) (hc : env.cells = []) (hco : env.scope.isCoroutine = false) {k : Nat} {pw1 pw2 pw3 pw4 : Pos} (hfs : splitAtGen fs = none) (hfg : fs.any Frame.guarded = false) {i : Nat} {iv : Option AV} (hi : ∀ a, iv = some a → isAtom a) {v : Int} :
    ∀ (m : Nat) (s₀ s : Shared) (st : GState), m + 1 ≤ n₀ → gN (n₀ - (m + 1)) st0 = some st → gStep st = some (some (v, .ever v)) → GS G env I L vs i (some v) iv s.heap → GKeep env.locals I s₀ s →
      Seg G.M A.in1 (gR st0 n₀ env.locals I) (gY G st0 n₀ env.locals I L) (m + 1) s₀ (.whileLoop (.Constant (.bool true) k pw1) [.Expr (.Yield (some (.Name "last_interval" pw2)) pw3) pw4] [] env)
        (G.M.den (.whileLoop (.Constant (.bool true) k pw1) [.Expr (.Yield (some (.Name "last_interval" pw2)) pw3) pw4] [] env)) fs s := by
  intro m
  induction m with
  | zero =>
    intro s₀ s st hm hg hst gs hk
    exact seg_everTurn 0 s₀ s st hm hg hst gs hk (fun h => absurd h (Nat.lt_irrefl _))
  | succ m ih =>
    intro s₀ s st hm hg hst gs hk
    refine seg_everTurn (m + 1) s₀ s st hm hg hst gs hk (fun _ s'' hs => ?_)
    exact ih s'' s'' (.ever v) (Nat.le_of_succ_le hm) (sub_turn hm ▸ gN_next hg hst) rfl hs .refl
where
  seg_everTurn (m : Nat) (s₀ s : Shared) (st : GState) (hm : m + 1 ≤ n₀) (hg : gN (n₀ - (m + 1)) st0 = some st) (hst : gStep st = some (some (v, .ever v))) (gs : GS G env I L vs i (some v) iv s.heap) (hk : GKeep env.locals I s₀ s)
    (next : 0 < m → ∀ s'', GS G env I L vs i (some v) iv s''.heap → Seg G.M A.in1 (gR st0 n₀ env.locals I) (gY G st0 n₀ env.locals I L) m s'' (.whileLoop (.Constant (.bool true) k pw1) [.Expr (.Yield (some (.Name "last_interval" pw2)) pw3) pw4] [] env)
        (G.M.den (.whileLoop (.Constant (.bool true) k pw1) [.Expr (.Yield (some (.Name "last_interval" pw2)) pw3) pw4] [] env)) fs s'') :
      Seg G.M A.in1 (gR st0 n₀ env.locals I) (gY G st0 n₀ env.locals I L) (m + 1) s₀ (.whileLoop (.Constant (.bool true) k pw1) [.Expr (.Yield (some (.Name "last_interval" pw2)) pw3) pw4] [] env)
        (G.M.den (.whileLoop (.Constant (.bool true) k pw1) [.Expr (.Yield (some (.Name "last_interval" pw2)) pw3) pw4] [] env)) fs s := by
    refine seg_whileTurn (wpN ((ST.val (fd := D78) (p := true) SE.bool).run env _ s none _ _ true (R _ rfl rfl) gs.S rfl) fun b s₁ q => ⟨q.2, ?_⟩)
    obtain ⟨gs, k₁⟩ := gs.pure q.1
    replace hk := hk.trans k₁
    clear q k₁
    obtain ⟨mm, hn, g1, -⟩ := gs.S.ns
    obtain ⟨w, hw, hr⟩ := g1 1 "last_interval" (.int v) rfl rfl
    refine seg_execs_cons (seg_Expr_Yield hfs rfl hfg ?_ hco (not_interactive gs.S.eo))
    refine wp_var gs.S.eo hn hw (by decide +kernel) (by decide +kernel) fun kap hkap => ?_
    cases hr with
    | int =>
      refine ⟨st, v, .ever v, _, ?_, hst, rfl, hk, gs.live, fun h0 s'' hs => hkap .none s'' ?_⟩
      · rw [Nat.sub_sub, Nat.add_comm]; exact hg
      · exact seg_again rfl (next h0 s'' (gs.carry hc hi hs))
end
end Mine
namespace Mine
inductive IV : List Int → List Value → Prop
  | nil : IV [] []
  | cons {x : Int} {t : Tok} {r : List Int} {vs : List Value} : IV r vs → IV (x :: r) (.int x t :: vs)
theorem drop_cons {α : Type} {l : List α} {i : Nat} {a : α} {r : List α} (h : l.drop i = a :: r) : l[i]? = some a ∧ l.drop (i + 1) = r := by
  constructor
  · have := List.getElem?_drop (xs := l) (i := i) (j := 0)
    rw [h] at this
    simpa using this.symm
  · have : l.drop (i + 1) = (l.drop i).drop 1 := by rw [List.drop_drop]
    rw [this, h]; rfl
theorem gStep_cons {x : Int} {r : List Int} {last : Option Int} : gStep (.at (x :: r) last) = if x = 127 then some none else if x = 0 then (match last with
    | none => none
    | some v => some (some (v, .ever v))) else some (some (x, .at r (some x))) := rfl
section
variable {G : GC} {env : Env} {I L : Addr} {vs : List Value} {st0 : GState} {n₀ nR : Nat} {A : Around} {fs : List Frame} {c0 : Code} {K : Flow → Sem Fin} {H : Value → Sem Fin} {pK : Pos}
theorem gs_next {i : Nat} {last : Option Int} {iv : Option AV} {s : Shared} {h' : Heap} (gs : GS G env I L vs i last iv s.heap) (hit : h'.IsListIter I L (i + 1)) (hsb : Heap.SameBut I s.heap h') : GS G env I L vs (i + 1) last iv h' := by
  have hk : ∀ b o, b ≠ I → s.heap.get? b = some o → h'.get? b = some o := fun b o ne e => (hsb.2 b ne).trans e
  have IT : ¬ G.Tab I := fun t => by
    obtain ⟨o, ho, hcl, hd⟩ := gs.it
    rcases (gs.S.tabOk I t).v with e | ⟨c, e, _⟩
    · rw [ho] at e; cases e; cases hcl
    · rw [ho] at e; cases e; cases hcl
  exact ⟨gs.S.next (.inr rfl) IT hk (by obtain ⟨o, ho, _⟩ := hit; exact ⟨o, ho⟩), hit, isList_at gs.ls fun o e => hk _ o gs.nI e, gs.nI⟩
theorem seg_loop (Rm : ∀ c, c.weight = 0 → c.cUnits = 0 → Room nR (A.in1.over c (loopFrame env K H id id c0 pK :: fs)))
    (Rm2 : ∀ c c' K' H' p', c.weight = 0 → c.cUnits = 0 → c'.weight = 0 → c'.cUnits = 0 → Room nR (A.in1.over c (loopFrame env K' H' id id c' p' :: loopFrame env K H id id c0 pK :: fs)))
    (LL : L1 G) (h8 : 8 < nR) (hc : env.cells = []) (hco : env.scope.isCoroutine = false) (hfs : splitAtGen fs = none) (hfg : fs.any Frame.guarded = false)
    (hK : ∀ n s₀ s, gR st0 n₀ env.locals I n s₀ (.ok (.ret .none)) s → Seg G.M A.in1 (gR st0 n₀ env.locals I) (gY G st0 n₀ env.locals I L) n s₀ c0 (K .next) fs s ∧ Seg G.M A.in1 (gR st0 n₀ env.locals I) (gY G st0 n₀ env.locals I L) n s₀ c0 (K (.ret .none)) fs s)
    (hnr : ∀ j st, gN j st0 = some st → gStep st ≠ none)
    {st1 If1 : Stmt} {T2 T3 : Expr} {R : List Stmt} {st4 : Stmt} (gi : Gi st1 If1 T2 T3 st4) {pI : Pos} {k : Nat} {pw1 pw2 pw3 pw4 pw5 pi2 py1 py2 py3 pf1 : Pos} :
    ∀ (r : List Int) (i m : Nat) (s₀ s : Shared) (last : Option Int) (iv : Option AV), IV r (vs.drop i) → (∀ a, iv = some a → isAtom a) → m + 1 ≤ n₀ → gN (n₀ - (m + 1)) st0 = some (.at r last) → GS G env I L vs i last iv s.heap → GKeep env.locals I s₀ s →
      Seg G.M A.in1 (gR st0 n₀ env.locals I) (gY G st0 n₀ env.locals I L) (m + 1) s₀
        (.forLoop (.Name "interval" pf1) (.ref I) [If1, .If T2 [.If T3 R [] pI, .While (.Constant (.bool true) k pw1) [.Expr (.Yield (some (.Name "last_interval" pw2)) pw3) pw4] [] pw5] [] pi2, .Expr (.Yield (some (.Name "interval" py1)) py2) py3, st4] [] env)
        (G.M.den (.forLoop (.Name "interval" pf1) (.ref I) [If1, .If T2 [.If T3 R [] pI, .While (.Constant (.bool true) k pw1) [.Expr (.Yield (some (.Name "last_interval" pw2)) pw3) pw4] [] pw5] [] pi2, .Expr (.Yield (some (.Name "interval" py1)) py2) py3, st4] [] env)) (loopFrame env K H id id c0 pK :: fs) s := by
  intro r
  induction r with
  | nil =>
    intro i m s₀ s last iv hIV hi hm hg gs hk
    have hx : vs.toArray[i]? = none := by
      cases e : vs.drop i with
      | cons a l => rw [e] at hIV; cases hIV
      | nil =>
        rw [List.getElem?_toArray]
        exact List.getElem?_eq_none (List.drop_eq_nil_iff.mp e)
    refine seg_forTurn (wpAny_pyNext_list_end (Rm _ rfl rfl).handled gs.it gs.ls hx fun h' hex => ?_)
    refine seg_blockNil (hK _ _ _ ⟨rfl, _, hg, rfl, hk.trans (.of_same (tk := s.toks) fun b o ne e => hex b o ne e)⟩).1
  | cons x r ih =>
    intro i m s₀ s last iv hIV hi hm hg gs hk
    obtain ⟨t, rest, ed, hIV'⟩ : ∃ t rest, vs.drop i = .int x t :: rest ∧ IV r rest := by
      cases e : vs.drop i with
      | nil => rw [e] at hIV; cases hIV
      | cons a l => rw [e] at hIV; cases hIV with | cons h => exact ⟨_, _, rfl, h⟩
    obtain ⟨e1, e2⟩ := drop_cons ed
    have hx : vs.toArray[i]? = some (.int x t) := by rw [List.getElem?_toArray]; exact e1
    rw [← e2] at hIV'
    refine seg_forTurn (wpAny_pyNext_list_item gs.it gs.ls hx fun h' hit hsb => ?_)
    have gs1 : GS G env I L vs (i + 1) last iv h' := gs_next gs hit hsb
    replace hk := hk.trans (.of_same (C := env.locals) (tk := s.toks) fun b o ne e => (hsb.2 b ne).trans e)
    refine wpAny_pure (wpN ((Asg.nm (fd := D78) (G := G) (p := true) (n := nR) 2 (by decide +kernel)).run env _ { s with heap := h' } none _ _ (.int x) (.int x t) _ (Rm _ rfl rfl) gs1.S .int rfl) fun _ s₂ q₂ => ?_)
    obtain ⟨gs2, k2⟩ := gs1.step (s := { s with heap := h' }) (last' := last) (iv' := some (.int x)) hc q₂.1 q₂.2
    replace hk := hk.trans k2
    clear q₂ k2 gs1 gs hsb hit
    -- if interval == CHAR_MAX
    by_cases h127 : x = 127
    · have hF : iteS (cmpT (gv 2) (cE 127) eqV) (seqF noneS nxS) nxS ⟨[none, some (lastAV last), some (.int x)], none⟩ = some (.ret .none, ⟨[none, some (lastAV last), some (.int x)], none⟩) := by
        subst h127
        exact iteS_t (cmpT_eq (a := .int 127) (b := .int 127) rfl rfl rfl rfl) (seqF_ret rfl)
      refine seg_execs_cons (seg_stmt (wpN ((gi.i1 G nR LL h8).run env _ s₂ none _ _ _ _ (Rm _ rfl rfl) gs2.S hF) fun w s₃ q₃ => ?_))
      obtain ⟨oa', k3, S3, f3⟩ := q₃
      cases f3 with
      | ret r =>
        cases r
        obtain ⟨gs3, kk⟩ := gs2.step hc k3 S3
        refine seg_doneRet (hK _ _ _ ⟨rfl, _, hg, ?_, hk.trans kk⟩).2
        rw [gStep_cons, if_pos h127]
    have hF : iteS (cmpT (gv 2) (cE 127) eqV) (seqF noneS nxS) nxS ⟨[none, some (lastAV last), some (.int x)], none⟩ = some (.next, ⟨[none, some (lastAV last), some (.int x)], none⟩) :=
      iteS_f (cmpT_eq (a := .int x) (b := .int 127) rfl rfl (eqV_int h127) rfl) rfl
    refine seg_execs_cons (seg_stmt (wpN ((gi.i1 G nR LL h8).run env _ s₂ none _ _ _ _ (Rm _ rfl rfl) gs2.S hF) fun w s₃ q₃ => ?_))
    obtain ⟨oa', k3, S3, f3⟩ := q₃
    cases f3
    obtain ⟨gs3, kk⟩ := gs2.step hc k3 S3
    replace hk := hk.trans kk
    clear k3 S3 kk gs2
    -- if interval == 0
    by_cases h0 : x = 0
    · cases last with
      | none =>
        refine absurd ?_ (hnr _ _ hg)
        rw [gStep_cons, if_neg h127, if_pos h0]
      | some v =>
        have hT : cmpT (gv 2) (cE 0) eqV ⟨[none, some (lastAV (some v)), some (.int x)], none⟩ = some true := by
          subst h0
          exact cmpT_eq (a := .int 0) (b := .int 0) rfl rfl rfl rfl
        refine seg_execs_cons (seg_If (wpN ((gi.t2 G nR h8).run env _ s₃ none _ _ _ (Rm _ rfl rfl) gs3.S hT) fun b s₄ q₄ => ?_))
        obtain ⟨k4, rfl⟩ := q₄
        rw [if_pos rfl]
        obtain ⟨gs4, kk⟩ := gs3.pure k4
        replace hk := hk.trans kk
        clear k4 kk gs3
        have hT3 : cmpT (gv 1) (fun _ => some .none) isV ⟨[none, some (lastAV (some v)), some (.int x)], none⟩ = some false :=
          cmpT_eq (a := .int v) (b := .none) rfl rfl rfl rfl
        refine seg_execs_cons (seg_If (wpN ((gi.t3 G nR).run env _ s₄ none _ _ _ (Rm _ rfl rfl) gs4.S hT3) fun b s₅ q₅ => ?_))
        obtain ⟨k5, rfl⟩ := q₅
        rw [if_neg (by decide)]
        obtain ⟨gs5, kk⟩ := gs4.pure k5
        replace hk := hk.trans kk
        clear k5 kk gs4
        refine seg_execs_nil (seg_execs_cons (seg_While' fun p' => ?_))
        refine seg_ever (fun c w1 w2 => Rm2 c _ _ _ _ w1 w2 rfl rfl) hc hco ?_ ?_ (fun a h => by cases h; exact True.intro) m s₀ s₅ _ hm hg ?_ gs5 hk
        · exact splitNone hfs
        · exact anyFalse hfg
        · rw [gStep_cons, if_neg h127, if_pos h0]
    have hT : cmpT (gv 2) (cE 0) eqV ⟨[none, some (lastAV last), some (.int x)], none⟩ = some false :=
      cmpT_eq (a := .int x) (b := .int 0) rfl rfl (eqV_int h0) rfl
    refine seg_execs_cons (seg_If (wpN ((gi.t2 G nR h8).run env _ s₃ none _ _ _ (Rm _ rfl rfl) gs3.S hT) fun b s₄ q₄ => ?_))
    obtain ⟨k4, rfl⟩ := q₄
    rw [if_neg (by decide)]
    obtain ⟨gs4, kk⟩ := gs3.pure k4
    replace hk := hk.trans kk
    clear k4 kk gs3
    refine seg_execs_nil (seg_execs_cons (seg_Expr_Yield (splitNone1 hfs) rfl (anyFalse1 hfg) ?_ hco (not_interactive gs4.S.eo)))
    obtain ⟨mm, hn, g1, -⟩ := gs4.S.ns
    obtain ⟨w, hw, hr⟩ := g1 2 "interval" (.int x) rfl rfl
    refine wp_var gs4.S.eo hn hw (by decide +kernel) (by decide +kernel) fun kap hkap => ?_
    cases hr with
    | int =>
      have hst : gStep (.at (x :: r) last) = some (some (x, .at r (some x))) := by
        rw [gStep_cons, if_neg h127, if_neg h0]
      refine ⟨_, x, .at r (some x), _, ?_, hst, rfl, hk, gs4.live, fun hm0 s'' hs => hkap .none s'' ?_⟩
      · rw [Nat.sub_sub, Nat.add_comm]; exact hg
      · have gs5 := gs4.carry hc (fun a h => by cases h; exact True.intro) hs
        refine seg_execs_cons (seg_stmt (wpN ((gi.s4 G nR).run env _ s'' none _ _ _ _ (Rm _ rfl rfl) gs5.S (asgS_eq (a := .int x) rfl)) fun w s₆ q₆ => ?_))
        obtain ⟨oa', k6, S6, f6⟩ := q₆
        cases f6
        obtain ⟨gs6, kk⟩ := gs5.step (last' := some x) (iv' := some (.int x)) hc k6 S6
        refine seg_execs_nil (seg_again rfl ?_)
        obtain ⟨m', rfl⟩ := Nat.exists_eq_succ_of_ne_zero (Nat.ne_of_gt hm0)
        refine ih (i + 1) m' s'' s₆ (some x) _ hIV' (fun a h => by cases h; exact True.intro) (Nat.le_of_succ_le hm) (sub_turn hm ▸ gN_next hg hst) gs6 kk
where
  splitNone {c' : Code} {K' : Flow → Sem Fin} {H' : Value → Sem Fin} {p' : Pos} (h : splitAtGen fs = none) : splitAtGen (loopFrame env K' H' id id c' p' :: loopFrame env K H id id c0 pK :: fs) = none := by
    show (splitAtGen (loopFrame env K H id id c0 pK :: fs)).map _ = none
    rw [splitNone1 h]; rfl
  splitNone1 (h : splitAtGen fs = none) : splitAtGen (loopFrame env K H id id c0 pK :: fs) = none := by
    show (splitAtGen fs).map _ = none
    rw [h]; rfl
  anyFalse {c' : Code} {K' : Flow → Sem Fin} {H' : Value → Sem Fin} {p' : Pos} (h : fs.any Frame.guarded = false) : (loopFrame env K' H' id id c' p' :: loopFrame env K H id id c0 pK :: fs).any Frame.guarded = false := by
    show (false || (false || fs.any Frame.guarded)) = false
    rw [h]; rfl
  anyFalse1 (h : fs.any Frame.guarded = false) : (loopFrame env K H id id c0 pK :: fs).any Frame.guarded = false := by
    show (false || fs.any Frame.guarded) = false
    rw [h]; rfl
end
end Mine
namespace Mine
theorem next_gen {prog : Program} {w : World} {A : Around} {E : Value → Shared → Prop} {s : Shared} {a : Addr} {g n : Nat} {gs : GenState} {P : Nat → Shared → Shared → Prop} {Y : Protocol} {Q : Option Value → Shared → Prop} (hh : A.handled = none)
    (hl : s.heap.NoLimit) (hroom : A.depth < recursionLimit) (hg : s.heap.IsGen a g) (hgs : s.gens[g]? = some gs)
    (hgo : gs.Goes (model prog w) A.in1 (fun n s₀ r s₁ => r = .ok (.ret .none) ∧ P n s₀ s₁) Y n (.send .none) (s.setGen g .running))
    (hY : ∀ v s₁ gs', gs'.bare = true → Y (n - 1) (s.setGen g .running) v s₁ (fun r' s'' => match n with
        | 0 => False
        | m + 1 => gs'.Goes (model prog w) A.in1 (fun n s₀ r s₁ => r = .ok (.ret .none) ∧ P n s₀ s₁) Y m r' s'') → Q (some v) (s₁.setGen g gs'))
    (hP : ∀ s₁, P n (s.setGen g .running) s₁ → ∀ h', (∀ b o, s₁.heap.get? b = some o → h'.get? b = some o) → Q none { s₁.setGen g .finished with heap := h' }) :
    wpAny (model prog w) A (pyNext (.ref a)) Q E s := by
  unfold pyNext
  refine wpAny_bind (wpAny_attempt (wpAny_callSpecial?_slot (name := Str.ofString "__next__") hg.typeIs slot_gen_next (wpAny_call_entry slot_gen_next hg.typeIs entry_gen_next ?_ (args_gen_next _))))
  show wpAny _ A.in1 (Builtin.Generator.genWake (.ref a) (.send .none)) _ _ s
  unfold Builtin.Generator.genWake
  refine wpAny_bind (wpAny_holding (wpAny_genNumber hg (wpAny_bind (wpAny_genState hgs ?_))))
  have stop : ∀ (s₁ : Shared) (k : PUnit → Sem Fin), P n (s.setGen g .running) s₁ → wpAny (model prog w) A.in1 (newExc (.type "StopIteration") [] >>= fun e => raiseNew e >>= k) (fun (_ : Fin) _ => False) (fun e s' => wpAny (model prog w) A (isInstance e (.type "StopIteration")) (fun b s₂ => b = true ∧ Q none s₂) E s') (s₁.setGen g .finished) := by
    intro s₁ k hp
    refine wpAny_bind ?_
    simp only [newExc, newTuple]
    refine wpAny_bind (wpAny_newObj_type ?_ (by size_fits))
    refine wpAny_bind (m := firstArgMember _ _) (wpAny_of_eq (a := Value.none) (by simp only [firstArgMember]; rfl) ?_)
    refine wpAny_newObj_type ?_ (by size_fits)
    simp only [raiseNew]
    refine wpAny_bind (wpAny_bind (wpAny_handled ?_))
    rw [show A.in1.handled = none from hh]
    refine wpAny_throw ?_
    exact wpAny_isInstance (T := "StopIteration") (b := true) ⟨_, Heap.get?_push_size _ rfl, rfl⟩ isSubtype_stop ⟨rfl, hP s₁ hp _ fun b o hb => Heap.get?_push_of_some _ (Heap.get?_push_of_some _ hb)⟩
  have notOff : gs = .running ∨ gs = .finished → False := by rintro (rfl | rfl) <;> exact hgo.elim
  cases gs with
  | running => exact (notOff (.inl rfl)).elim
  | finished => exact (notOff (.inr rfl)).elim
  | _ =>
    refine wpAny_bind (wpAny_roomToWake hl hroom ?_)
    show wpAny _ A.in1 (.resume g (.send .none) [] _) _ _ s
    refine wpAny_resumeQ hgs hgo (fun x s₁ hx => ?_) fun v s₁ gs' hb hv => wpAny_pure ⟨v, rfl, wpAny_pure (hY v s₁ gs' hb hv)⟩
    obtain ⟨rfl, hp⟩ := hx
    refine wpAny_mono (stop s₁ _ hp) (fun _ _ q => q.elim) fun e s' q => ?_
    exact wpAny_bind (wpAny_mono q (fun b s₂ q => by obtain ⟨rfl, q⟩ := q; exact wpAny_pure q) fun _ _ q => q)
end Mine
namespace Mine
section
variable {G : GC} {env : Env} {I Lr : Addr} {vs : List Value} {row : List Int} {n₀ n : Nat} {A : Around}
theorem gs_first {B : Addr → Prop} {h h' : Heap} {m : PySem.Str → Option Value} (eo : EnvOk D78 env) (hc : env.cells = []) (g : GSt G B h) (hB : B env.locals) (nT : ¬ G.Tab env.locals) (hI : h.get? I = none) (hI' : h'.IsListIter I Lr 0) (hl : h.IsList Lr vs.toArray) (nL : Lr ≠ env.locals)
    (hk : ∀ b o, b ≠ env.locals → h.get? b = some o → h'.get? b = some o) (hn : h'.Ns env.locals m) (hm : m "last_interval" = some .none) (hCl : ∃ o, h.get? env.locals = some o) : GS G env I Lr vs 0 none none h' := by
  have lv : ∀ b o, h.get? b = some o → b ≠ I := fun b o e q => by rw [q, hI] at e; cases e
  obtain ⟨oC, hoC⟩ := hCl
  have down : ∀ b o, h.get? b = some o → Bset env none (withI G.Tab I) b → B b := fun b o e q => by
    rcases q with q | ⟨c, q, _⟩ | q | q
    · exact q ▸ hB
    · rw [hc] at q; cases q
    · cases q
    · rcases q with q | q
      · exact g.tab b q
      · exact absurd q (lv b o e)
  have nB : ∀ b, ¬ B b → b ≠ env.locals := fun b nb q => nb (q ▸ hB)
  obtain ⟨oL, hoL, hLr⟩ := hl
  refine ⟨⟨eo, fun b t => (g.tabOk b t).mono (fun o e => hk _ o (fun q => nT (q ▸ t)) e) (fun c o e nb _ => hk c o (nB c nb) e) (fun b o e q => down b o e q), fun b o e => ⟨hk b o (nB b (g.base b o e).2) (g.base b o e).1, fun q => (g.base b o e).2 (down b o (g.base b o e).1 q)⟩, fun b t => .inl t, fun b q => ?_, fun q => ?_, (fun c q => by rw [hc] at q; cases q), (fun a q => nomatch q), (fun c q => by rw [hc] at q; cases q), (fun x y c q _ => by rw [hc] at q; cases q), m, hn, fun i x a hx ha => ?_, (fun i l q => nomatch q)⟩, hI', ⟨oL, hk _ oL nL hoL, hLr⟩, lv _ _ hoL⟩
  · rcases q with q | ⟨c, q, _⟩ | q | q
    · obtain ⟨o, _, _, ho, _⟩ := hn; exact ⟨o, q ▸ ho⟩
    · rw [hc] at q; cases q
    · cases q
    · rcases q with q | q
      · obtain ⟨o, ho⟩ := (g.tabOk b q).live
        exact ⟨o, hk b o (fun e => nT (e ▸ q)) ho⟩
      · obtain ⟨o, ho, _⟩ := hI'; exact ⟨o, q ▸ ho⟩
  · rcases q with q | q
    · exact nT q
    · exact lv _ _ hoC q
  · match i, hx, ha with
    | 0, _, ha => cases ha
    | 1, hx, ha =>
      cases hx; cases ha
      exact ⟨.none, .inl ⟨by unfold Env.kindOf; rw [eo.scope]; show (f1 78).scope.names.lookup _ = _; decide +kernel, hm⟩, .none⟩
    | 2, _, ha => cases ha
theorem seg_start (L : L1 G) (R : Room n A) (hnn : 10 ≤ n) (eo : EnvOk D78 env) (hc : env.cells = []) (hIV : IV row vs) {B : Addr → Prop} {s : Shared} (g : GSt G B s.heap) (hB : B env.locals) (nT : ¬ G.Tab env.locals) {m : PySem.Str → Option Value} (hn : s.heap.Ns env.locals m) (hm : m "grouping" = some (.ref Lr)) (hl : s.heap.IsList Lr vs.toArray) (hI : s.heap.objs.size = I)
    (hnr : ∀ j st, gN j (.at row none) = some st → gStep st ≠ none) :
    Seg G.M A.in1 (gR (.at row none) (n₀ + 1) env.locals I) (gY G (.at row none) (n₀ + 1) env.locals I Lr) (n₀ + 1) s (.func (bodyOf (f1 78)) env) (G.M.den (.func (bodyOf (f1 78)) env)) [] s := by
  have hkf : env.scope.kind = .function := by rw [eo.scope]; exact eo.kind
  have hko : ∀ x, env.kindOf x = D78.scope.names.lookup x := fun x => by unfold Env.kindOf; rw [eo.scope]
  have nL : Lr ≠ env.locals := fun e => by
    obtain ⟨o, ho, _, k, hd⟩ := hl
    rw [e] at ho
    obtain ⟨o', es, ep, ho', hd', _⟩ := hn
    rw [ho] at ho'
    cases ho'
    rw [hd] at hd'
    cases hd'
  have Rm0 : Room 9 (A.in1.over (.func (bodyOf (f1 78)) env) []) := room_gen R rfl (Nat.le_of_eq rfl) (by show 3 ≤ 6; decide) (by omega)
  obtain ⟨st1, If1, T2, T3, Rr, pI, If3, k, pw1, pw2, pw3, pw4, pw5, pi2, py1, py2, py3, st4, pf1, pf2, pf3, e, e3, gi⟩ := body78
  obtain ⟨p1, k1, p2, p3, es1, hsw⟩ := gi.s1
  refine seg_func ?_
  rw [e]
  refine seg_execs_cons (seg_stmt ?_)
  rw [es1]
  refine wpAny_Assign_Name (wpAny_Constant_none ?_) (hsw env)
  refine wpAny_storeName_local (by rw [hko]; show (f1 78).scope.names.lookup _ = _; decide +kernel) hn (fun h' hn' hs => ?_) (by rw [hkf]; rfl)
  refine seg_execs_cons (seg_For (fun _ => rfl) ?_)
  refine wp_var (G := G) eo hn' (.inl ⟨by rw [hko]; show (f1 78).scope.names.lookup _ = _; decide +kernel, (if_neg (by decide +kernel)).trans hm⟩) (by decide +kernel) (by decide +kernel) ?_
  have hl' : h'.IsList Lr vs.toArray := isList_at hl fun o e => (hs.2 Lr nL).trans e
  refine wpAny_pyIter_list hl' fun p => ?_
  have hsz : h'.objs.size = I := hs.1.trans hI
  have hkk : ∀ b o, b ≠ env.locals → s.heap.get? b = some o → (h'.push { cls := .type "list_iterator", data := .fields #[.ref Lr, .int 0 0] }).get? b = some o := fun b o ne q => Heap.get?_push_of_some _ ((hs.2 b ne).trans q)
  have gs : GS G env I Lr vs 0 none none (h'.push { cls := .type "list_iterator", data := .fields #[.ref Lr, .int 0 0] }) := by
    refine gs_first eo hc g hB nT (by rw [← hI]; exact get_size _) ⟨_, by rw [← hsz]; exact Heap.get?_push_size _ rfl, rfl, rfl⟩ hl nL hkk (hn'.push _) (if_pos rfl) ?_
    obtain ⟨o, _, _, ho, _⟩ := hn; exact ⟨o, ho⟩
  show Seg _ _ _ _ _ _ (.forLoop _ (.ref h'.objs.size) _ _ _) _ _ _
  rw [hsz]
  refine seg_loop (nR := 9) (fun c w1 w2 => room_gen R rfl (by rw [w1]; exact Nat.le_of_eq rfl) (by rw [w2]; show 3 ≤ 6; decide) (by omega)) (fun c c' K' H' p' w1 w2 w3 w4 => room_gen R rfl ?_ ?_ (by omega)) L (by decide) hc (by rw [eo.scope]; show (f1 78).scope.isCoroutine = false; decide +kernel) rfl rfl ?_ hnr gi row 0 n₀ s _ none none hIV (fun a h => nomatch h) (Nat.le_refl _) (by rw [Nat.sub_self]; rfl) gs ⟨⟨rfl, rfl⟩, rfl, fun b o h1 _ q => hkk b o h1 q⟩
  · show frameCount ((c', p') :: ((.func (bodyOf (f1 78)) env, p) :: [])) + c.weight ≤ 1
    rw [frameCount_cons, w1, w3]; exact Nat.le_of_eq rfl
  · show unitsOf ((c', p') :: ((.func (bodyOf (f1 78)) env, p) :: [])) + c.cUnits ≤ 6
    rw [unitsOf_cons, w2, w4]; show 3 ≤ 6; decide
  · intro nn s₀ s₁ hr
    exact ⟨seg_execs_nil (seg_end (.ok (.ret .none)) hr), seg_end (.ok (.ret .none)) hr⟩
end
end Mine
namespace Mine
structure GAt (G : GC) (A : Around) (st0 : GState) (n₀ : Nat) (a C I Lr : Addr) (g j : Nat) (s : Shared) : Prop where
  isg : s.heap.IsGen a g
  go : ∃ gs, s.gens[g]? = some gs ∧ gs.Goes G.M A.in1 (gR st0 n₀ C I) (gY G st0 n₀ C I Lr) (n₀ - j) (.send .none) (s.setGen g .running)
theorem ivOf {h : Heap} {B : Addr → Prop} : ∀ {row : List Int} {vs : List Value}, VRs h B (row.map .int) vs → IV row vs
  | [], _, r => by cases r; exact .nil
  | x :: row, _, r => by
    rw [List.map_cons] at r
    cases r with
    | cons h r => cases h; exact .cons (ivOf r)
theorem gen_call {G : GC} (L : L1 G) {A : Around} {n : Nat} (R : Room n A) (hnn : 12 ≤ n) {row : List Int} {s : Shared} {B : Addr → Prop} {v : Value} (S : GSt G B s.heap) (hv : VR s.heap B (.lst (row.map .int)) v) (n₀ : Nat)
    (hnr : ∀ j st, gN j (.at row none) = some st → gStep st ≠ none) :
    wpAny G.M A (call (.ref 78) [v]) (fun r s₁ => ∃ Lr g, v = .ref Lr ∧ ¬ B Lr ∧ (∃ o, s.heap.get? Lr = some o) ∧ r = .ref (s.heap.objs.size + 1) ∧ GAt G A (.at row none) (n₀ + 1) (s.heap.objs.size + 1) s.heap.objs.size (s.heap.objs.size + 2) Lr g 0 s₁ ∧ Kp G false s s₁ ∧ (∀ b o, s.heap.get? b = some o → s₁.heap.get? b = some o) ∧ s₁.heap.get? (s.heap.objs.size + 2) = none ∧
      (∃ o, s₁.heap.get? s.heap.objs.size = some o) ∧ (∃ o, s₁.heap.get? (s.heap.objs.size + 1) = some o) ∧ s.heap.objs.size + 1 ≠ s.heap.objs.size) Nay s := by
  have fa : FnAt G 78 (f1 78) := L.fnAt2 78
  obtain ⟨o, ho, hd⟩ := fa.at'
  obtain ⟨c, oc, vc, tc, a1, a2, a3, a4⟩ := fa.code
  have up : ∀ b o, G.st b o → s.heap.get? b = some o := fun b o e => (S.base b o e).1
  have hroom : A.depth < recursionLimit := R.lt
  cases hv with
  | lst hl nB rl =>
    rename_i Lr vs
    refine wpAny_call (codeAny_call_generator (fd := f1 78) (body := bodyOf (f1 78)) hroom (up _ _ ho) hd (by decide +kernel) (by decide +kernel) rfl ⟨c, oc, vc, tc, a1, up _ _ a2, a3, a4⟩ ?_)
    have eb : bindArgs (f1 78) ⟨[Value.ref Lr], []⟩ = pure [(("grouping" : PySem.Str), Value.ref Lr)] := by rfl
    refine wpAny_of_eq eb ?_
    refine wpAny_newFunctionEnv (by decide +kernel) (fun x hx => ?_) (fun h' hn hs => ?_) (by decide +kernel)
    · rw [List.mem_singleton.mp hx]; show (f1 78).scope.names.lookup ("grouping" : PySem.Str) = _; decide +kernel
    generalize hE : newEnv (f1 78).scope s.heap.objs.size (f1 78).globals (f1 78).closure ((f1 78).qualname ++ ".<locals>.") (some 78) (f1 78).code none (f1 78).builtins = env
    have e1 : env.scope = D78.scope := by rw [← hE]; rfl
    have e2 : env.globals = mainGlobals := by rw [← hE]; exact fa.globals
    have e3 : env.builtins = builtinsNs := by rw [← hE]; exact fa.builtins
    have e4 : env.locals = s.heap.objs.size := by rw [← hE]; rfl
    have e5 : env.cells = [] := by rw [← hE]; exact fa.closure
    have eo : EnvOk D78 env := ⟨e1, e2, e3, by show (f1 78).scope.kind = _; decide +kernel, (fun x hx => absurd rfl ((by decide +kernel : ∀ y ∈ (f1 78).scope.names, y.2 ≠ .cell) _ (kind_mem hx))), (fun x c h => nomatch h), (fun c h => nomatch h), (fun c h => nomatch h)⟩
    have hsz : h'.objs.size = s.heap.objs.size + 1 := by rw [hs.1, Heap.size_push]
    have nl : ∀ b o, s.heap.get? b = some o → b ≠ s.heap.objs.size := fun b o e q => by rw [q, get_size] at e; cases e
    have k' : ∀ b o, s.heap.get? b = some o → h'.get? b = some o := fun b o e => (hs.2 b (nl b o e)).trans (Heap.get?_push_of_some _ e)
    refine ⟨L.ok.top.nolimit.keeps fun b o e => k' b o (up b o (L.ok.sub b o e)), ?_⟩
    have lC : ∃ o, h'.get? s.heap.objs.size = some o := by obtain ⟨o, _, _, h, _⟩ := hn; exact ⟨o, h⟩
    have IG : (h'.push { cls := .type "generator", data := .fields #[.int s.gens.size 0, .str (f1 78).name (s.toks + 1), .str (f1 78).qualname (s.toks + 1 + 1)] }).IsGen (s.heap.objs.size + 1) s.gens.size := ⟨_, _, _, by rw [← hsz]; exact Heap.get?_push_size _ rfl, rfl, rfl, rfl⟩
    have kk : ∀ b o, s.heap.get? b = some o → (h'.push { cls := .type "generator", data := .fields #[.int s.gens.size 0, .str (f1 78).name (s.toks + 1), .str (f1 78).qualname (s.toks + 1 + 1)] }).get? b = some o := fun b o e => Heap.get?_push_of_some _ (k' b o e)
    refine ⟨Lr, s.gens.size, rfl, nB, plain_live hl, by rw [hsz], ⟨IG, .fresh (.func (bodyOf (f1 78)) env), by rw [Array.getElem?_push_size], rfl, ?_⟩, ⟨⟨rfl, rfl⟩, fun b o e _ => kk b o e, fun h => Bool.noConfusion h, fun h => h.push rfl, .keep fun P o _ e => kk P o e⟩, kk, ?_, ?_, ?_, ?_⟩
    · have hS : GSt G (fun b => B b ∨ b = s.heap.objs.size) (h'.push { cls := .type "generator", data := .fields #[.int s.gens.size 0, .str (f1 78).name (s.toks + 1), .str (f1 78).qualname (s.toks + 1 + 1)] }) := by
        refine ⟨fun b o e => ⟨kk b o (S.base b o e).1, fun q => q.elim (S.base b o e).2 (nl b o (S.base b o e).1)⟩, fun b t => .inl (S.tab b t), fun b q => ?_, fun b t => (S.tabOk b t).mono (fun o e => kk b o e) (fun c o e _ _ => kk c o e) fun b o e q => q.elim id fun q => absurd q (nl b o e)⟩
        rcases q with q | q
        · obtain ⟨o, ho⟩ := S.live b q; exact ⟨o, kk b o ho⟩
        · subst q; obtain ⟨o, ho⟩ := lC; exact ⟨o, Heap.get?_push_of_some _ ho⟩
      have := seg_start (I := s.heap.objs.size + 2) (n₀ := n₀) L R (by omega) eo e5 (ivOf rl) (s := ({ s with gens := s.gens.push (.fresh (.func (bodyOf (f1 78)) env)), toks := s.toks + 1 + 1 + 1, heap := (h'.push { cls := .type "generator", data := .fields #[.int s.gens.size 0, .str (f1 78).name (s.toks + 1), .str (f1 78).qualname (s.toks + 1 + 1)] }) } : Shared).setGen s.gens.size .running) hS (.inr e4)
        (fun t => by rw [e4] at t; obtain ⟨o, ho⟩ := (S.tabOk _ t).live; exact nl _ o ho rfl) (m := fun x => [(("grouping" : PySem.Str), Value.ref Lr)].reverse.lookup x) (by rw [e4]; exact hn.push _) rfl (plain_isList (plain_at hl fun o e => kk _ o e)) (by show (h'.push _).objs.size = _; rw [Heap.size_push, hsz]) hnr
      rw [e4] at this
      exact this
    · exact Heap.get?_none_of_le (by rw [Heap.size_push, hsz]; exact Nat.le_refl _)
    · obtain ⟨o, ho⟩ := lC; exact ⟨o, Heap.get?_push_of_some _ ho⟩
    · obtain ⟨o, _, _, h, _⟩ := IG; exact ⟨o, h⟩
    · exact Nat.succ_ne_self _
end Mine
namespace Mine
noncomputable def forG (set : AV → AS → Option AS) (F H : AS → Option (Fl × AS)) : Nat → GState → AS → Option (Fl × AS)
  | 0, _, _ => none
  | k + 1, st, σ => match gStep st with
    | none => none
    | some none => H σ
    | some (some (x, st')) => (set (.int x) σ).bind fun σ₁ => (F σ₁).bind fun y => match y with
      | (.next, σ₂) => forG set F H k st' σ₂
      | (.cont, σ₂) => forG set F H k st' σ₂
      | (.brk, σ₂) => some (.next, σ₂)
      | (.ret a, σ₂) => some (.ret a, σ₂)
theorem bare_set {gens : Array GenState} {g : Nat} {x : GenState} (h : AllBare gens) (hx : x.bare = true) : AllBare (gens.setIfInBounds g x) := fun y hy => by
  obtain ⟨i, hi, e⟩ := Array.mem_iff_getElem.mp hy
  rw [Array.getElem_setIfInBounds (by simpa using hi)] at e
  split at e
  · exact e ▸ hx
  · exact e ▸ h _ (Array.getElem_mem _)
section
variable {G : GC} {fd : FD} {n : Nat}
theorem Ks.turn {env : Env} {oa oai : Option Addr} {X : Addr → Prop} {σ : AS} {s₀ s s' : Shared} {W : Addr → Prop} (K : Ks G false env oa oai s₀ s) (S : St G fd env oai X σ s.heap) (hW : ∀ b, W b → s₀.heap.get? b = none) (hWX : ∀ b, W b → X b ∨ s.heap.get? b = none) (ex : s'.drawn = s.drawn ∧ s'.os = s.os)
    (hk : ∀ b o, ¬ W b → s.heap.get? b = some o → s'.heap.get? b = some o) (hb : AllBare s.gens → AllBare s'.gens) : Ks G false env oa oai s₀ s' := by
  have n0 : ∀ b o, s₀.heap.get? b = some o → ¬ W b := fun b o e w => by rw [hW b w] at e; cases e
  refine ⟨⟨ex.1.trans K.ex.1, ex.2.trans K.ex.2⟩, fun b o e h1 h2 h3 h4 => hk b o (n0 b o e) (K.heap b o e h1 h2 h3 h4), fun b o e => ?_, fun h => Bool.noConfusion h, fun h => hb (K.bare h), fun P o t e => ?_, K.own⟩
  · obtain ⟨o', e'⟩ := K.there b o e
    exact ⟨o', hk b o' (n0 b o e) e'⟩
  · rcases K.tabs P o t e with h | ⟨h1, c, h2, h3, h4⟩
    · exact .inl (hk P _ (n0 P _ e) h)
    · refine .inr ⟨h1, c, hk P _ (n0 P _ e) h2, codeRec_at h3 fun o e => hk c o (fun q => ?_) e, h4⟩
      rcases (S.tabOk P t).v with e' | ⟨c', e', _, nn, _⟩
      · exact grown_ne (Option.some.inj (h2.symm.trans e'))
      · have := grown_inj (Option.some.inj (h2.symm.trans e'))
        subst this
        rcases hWX c q with x | x
        · exact nn (.inr (.inr (.inr x)))
        · rw [x] at e; cases e
noncomputable def Xg (X : Addr → Prop) (a C I : Addr) (j : Nat) (b : Addr) : Prop := X b ∨ b = a ∨ b = C ∨ (b = I ∧ 0 < j)
noncomputable def Wg (C I : Addr) (b : Addr) : Prop := b = C ∨ b = I
structure GF (G : GC) (env : Env) (oa : Option Addr) (X : Addr → Prop) (s₀ : Shared) (a C I Lr : Addr) : Prop where
  TX : ∀ b, G.Tab b → X b
  lX : ∀ b, X b → ∃ o, s₀.heap.get? b = some o
  nW : ∀ b, Wg C I b → s₀.heap.get? b = none
  aC : a ≠ C
  aI : a ≠ I
  hLr : ¬ Bset env oa X Lr
  lLr : ∃ o, s₀.heap.get? Lr = some o
theorem dead_live {h : Heap} {b : Addr} {P : Prop} (e : h.get? b = none) (l : ∃ o, h.get? b = some o) : P := by
  obtain ⟨o, ho⟩ := l
  rw [e] at ho
  cases ho
variable {env : Env} {oa oai : Option Addr} {X : Addr → Prop} {s₀ s s' : Shared} {a C I Lr : Addr} {j : Nat} {σ : AS}
theorem GF.hWX (F : GF G env oa X s₀ a C I Lr) (hI : 0 < j ∨ s.heap.get? I = none) (b : Addr) (w : Wg C I b) : Xg X a C I j b ∨ s.heap.get? b = none := by
  rcases w with w | w
  · exact .inl (.inr (.inr (.inl w)))
  · exact hI.imp (fun h => .inr (.inr (.inr ⟨w, h⟩))) fun h => w ▸ h
theorem GF.nT (F : GF G env oa X s₀ a C I Lr) (b : Addr) (w : Wg C I b) (t : G.Tab b) : False := dead_live (F.nW b w) (F.lX b (F.TX b t))
theorem GF.turn (F : GF G env oa X s₀ a C I Lr) {h' : Heap} (S : St G fd env oai (Xg X a C I j) σ s.heap) (hI : 0 < j ∨ s.heap.get? I = none) (hk : ∀ b o, ¬ Wg C I b → s.heap.get? b = some o → h'.get? b = some o)
    (lC : ∃ o, h'.get? C = some o) (lI : ∃ o, h'.get? I = some o) : St G fd env oai (Xg X a C I (j + 1)) σ h' := by
  refine S.move (F.hWX hI) (F.nT) hk (fun b t => .inl (F.TX b t)) (fun b x => ?_) fun b x => ?_
  · rcases x with x | x | x | x
    · exact .inl (.inl x)
    · exact .inl (.inr (.inl x))
    · exact F.hWX hI b (.inl x)
    · exact F.hWX hI b (.inr x.1)
  · refine (Classical.em (Wg C I b)).elim (fun w => ?_) fun w => ?_
    · rcases w with rfl | rfl
      · exact lC
      · exact lI
    · have : Xg X a C I j b := x.imp id fun x => x.imp id fun x => x.elim (fun x => (w (.inl x)).elim) fun x => (w (.inr x.1)).elim
      obtain ⟨o, ho⟩ := S.live b (.inr (.inr (.inr this)))
      exact ⟨o, hk b o w ho⟩
theorem GF.first (F : GF G env oa X s₀ a C I Lr) {h' : Heap} (S : St G fd env oa X σ s₀.heap) (hk : ∀ b o, s₀.heap.get? b = some o → h'.get? b = some o) (na : s₀.heap.get? a = none) (la : ∃ o, h'.get? a = some o) (lC : ∃ o, h'.get? C = some o) : St G fd env oa (Xg X a C I 0) σ h' := by
  refine S.move (W := fun _ => False) (fun _ w => w.elim) (fun _ w => w.elim) (fun b o _ e => hk b o e) (fun b t => .inl (F.TX b t)) (fun b x => ?_) fun b x => ?_
  · exact x.imp id fun x => x.elim (fun x => x ▸ na) fun x => x.elim (fun x => F.nW b (.inl x)) fun x => absurd x.2 (Nat.lt_irrefl 0)
  · exact x.elim (fun x => (F.lX b x).elim fun o e => ⟨o, hk b o e⟩) fun x => x.elim (fun x => x ▸ la) fun x => x.elim (fun x => x ▸ lC) fun x => absurd x.2 (Nat.lt_irrefl 0)
theorem GF.drop (F : GF G env oa X s₀ a C I Lr) {h : Heap} (S : St G fd env oai (Xg X a C I j) σ h) : St G fd env oai X σ h :=
  S.move (W := fun _ => False) (fun _ w => w.elim) (fun _ w => w.elim) (fun _ _ _ e => e) F.TX (fun b x => .inl (.inl x)) fun b x => S.live b (.inr (.inr (.inr (.inl x))))
theorem FlR.drop {h : Heap} {fl : Fl} {w : Flow} (f : FlR h (Bset env oa (Xg X a C I j)) fl w) : FlR h (Bset env oa X) fl w := by
  cases f with
  | next => exact .next
  | brk => exact .brk
  | cont => exact .cont
  | ret r => exact .ret (r.mono (fun b o e _ => e) fun b o e q => q.imp id fun q => q.imp id fun q => q.imp id .inl)
noncomputable def GI (G : GC) (fd : FD) (env : Env) (A : Around) (X : Addr → Prop) (set : AV → AS → Option AS) (F H : AS → Option (Fl × AS)) (fl : Fl) (σ' : AS) (s₀ : Shared) (oa : Option Addr) (a C I Lr : Addr) (g n₀ : Nat) (st0 : GState) (k : Nat) (s : Shared) : Prop :=
  ∃ j st σ oai gs, j + k = n₀ ∧ forG set F H k st σ = some (fl, σ') ∧ gN j st0 = some st ∧ Ks G false env oa oai s₀ s ∧ St G fd env oai (Xg X a C I j) σ s.heap ∧ (0 < j ∨ s.heap.get? I = none) ∧ s.heap.IsGen a g ∧ s.gens[g]? = some gs ∧
    gs.Goes G.M A.in1 (gR st0 (n₀ + 1) C I) (gY G st0 (n₀ + 1) C I Lr) (k + 1) (.send .none) (s.setGen g .running)
variable {A : Around} {set : AV → AS → Option AS} {F H : AS → Option (Fl × AS)} {fl : Fl} {σ' : AS} {g n₀ k : Nat} {st0 : GState}
theorem GI.elim {P : Prop} (h : GI G fd env A X set F H fl σ' s₀ oa a C I Lr g n₀ st0 k s)
    (f : ∀ k' j st σ oai gs, k = k' + 1 → j + k = n₀ → forG set F H (k' + 1) st σ = some (fl, σ') → gN j st0 = some st → Ks G false env oa oai s₀ s → St G fd env oai (Xg X a C I j) σ s.heap → (0 < j ∨ s.heap.get? I = none) → s.heap.IsGen a g → s.gens[g]? = some gs →
      gs.Goes G.M A.in1 (gR st0 (n₀ + 1) C I) (gY G st0 (n₀ + 1) C I Lr) (k + 1) (.send .none) (s.setGen g .running) → P) : P := by
  obtain ⟨j, st, σ, oai, gs, e, h1, h2, h3, h4, h5, h6, h7, h8⟩ := h
  cases k with
  | zero => cases h1
  | succ k => exact f k j st σ oai gs rfl e h1 h2 h3 h4 h5 h6 h7 h8
theorem gN_same {j k : Nat} {st st2 : GState} (hj : j + k = n₀) (h : gN j st0 = some st) (h2 : gN (n₀ - k) st0 = some st2) : st2 = st := by
  rw [← hj, Nat.add_sub_cancel, h] at h2
  exact (Option.some.inj h2).symm
theorem GF.keep (F : GF G env oa X s₀ a C I Lr) (K : Ks G false env oa oai s₀ s) {oa₄ : Option Addr} {s₂ s₄ : Shared} {σ : AS} (S2 : St G fd env oai (Xg X a C I (j + 1)) σ s₂.heap) (k34 : Ks G true env oai oa₄ s₂ s₄) (b : Addr) (o : Obj) (hb : b = a ∨ b = C ∨ b = I ∨ b = Lr) (e : s₂.heap.get? b = some o) : s₄.heap.get? b = some o := by
  have inX : ∀ b o, Xg X a C I (j + 1) b → s₂.heap.get? b = some o → s₄.heap.get? b = some o := fun b o x e =>
    k34.heap b o e (fun q => S2.locX (q ▸ x)) (.inl fun c hc q => S2.cellX c hc (q ▸ x)) (fun q => S2.oaX b q x) (.inl rfl)
  rcases hb with h | h | h | h
  · exact inX b o (.inr (.inl h)) e
  · exact inX b o (.inr (.inr (.inl h))) e
  · exact inX b o (.inr (.inr (.inr ⟨h, Nat.succ_pos j⟩))) e
  · subst h
    exact k34.heap _ o e (fun q => F.hLr (.inl q)) (.inl fun c hc q => F.hLr (.inr (.inl ⟨c, hc, q⟩))) (fun q => (K.own _ q).elim (fun q' => F.hLr (.inr (.inr (.inl q')))) fun q' => dead_live q' F.lLr) (.inl rfl)
theorem GF.next (Fx : GF G env oa X s₀ a C I Lr) {oa₄ : Option Addr} {s₂ s₄ : Shared} {σ₂ : AS} {st st' : GState} {x : Int} {gs' : GenState} (e2 : gStep st = some (some (x, st'))) (hj : j + (k + 1) = n₀) (hN : gN j st0 = some st) (isg : s₂.heap.IsGen a g) (hgs : s₂.gens[g]? = some gs')
    (hkap : 0 < k + 1 → ∀ s'', GHolds G C I Lr s₂ s'' → gs'.Goes G.M A.in1 (gR st0 (n₀ + 1) C I) (gY G st0 (n₀ + 1) C I Lr) (k + 1) (.send .none) s'') (K : Ks G false env oa oai s₀ s₂) (S2 : St G fd env oai (Xg X a C I (j + 1)) σ s₂.heap) (k34 : Ks G true env oai oa₄ s₂ s₄)
    (S₄ : St G fd env oa₄ (Xg X a C I (j + 1)) σ₂ s₄.heap) (hf : forG set F H k st' σ₂ = some (fl, σ')) : ∃ m, m < k + 1 ∧ GI G fd env A X set F H fl σ' s₀ oa a C I Lr g n₀ st0 m s₄ := by
  have kp := Fx.keep K S2 k34
  refine ⟨k, Nat.lt_succ_self k, j + 1, st', σ₂, oa₄, gs', (Nat.succ_add_eq_add_succ j k).trans hj, hf, gN_next hN e2, K.trans k34.lift, S₄, .inl (Nat.succ_pos j), ?_, (by rw [k34.gens rfl]; exact hgs), hkap (Nat.succ_pos k) _ ⟨fun b o hb e => kp b o (.inr hb) e, Bset env oa₄ _, S₄.g, .inr (.inr (.inr (.inr (.inr (.inl rfl))))), .inr (.inr (.inr (.inr (.inr (.inr ⟨rfl, Nat.succ_pos j⟩)))))⟩⟩
  obtain ⟨o, nm, qn, ho, r⟩ := isg
  exact ⟨o, nm, qn, kp a o (.inl rfl) ho, r⟩
theorem forG_succ {st : GState} {x : Int} {st' : GState} (h : forG set F H (k + 1) st σ = some (fl, σ')) (e2 : gStep st = some (some (x, st'))) : ∃ σ₁ fl₁ σ₂, set (.int x) σ = some σ₁ ∧ F σ₁ = some (fl₁, σ₂) ∧ ((fl₁ = .next ∨ fl₁ = .cont) ∧ forG set F H k st' σ₂ = some (fl, σ') ∨ fl₁ = .brk ∧ fl = .next ∧ σ' = σ₂ ∨ ∃ a, fl₁ = .ret a ∧ fl = .ret a ∧ σ' = σ₂) := by
  unfold forG at h
  rw [e2] at h
  obtain ⟨σ₁, f1, h⟩ := bind_some h
  obtain ⟨⟨fl₁, σ₂⟩, f2, h⟩ := bind_some h
  refine ⟨σ₁, fl₁, σ₂, f1, f2, ?_⟩
  cases fl₁ with
  | next => exact .inl ⟨.inl rfl, h⟩
  | cont => exact .inl ⟨.inr rfl, h⟩
  | brk => cases h; exact .inr (.inl ⟨rfl, rfl, rfl⟩)
  | ret a => cases h; exact .inr (.inr ⟨a, rfl, rfl, rfl⟩)
theorem forG_stop {st : GState} (h : forG set F H (k + 1) st σ = some (fl, σ')) (e2 : gStep st = some none) : H σ = some (fl, σ') := by
  unfold forG at h
  rw [e2] at h
  exact h
noncomputable def GQ (G : GC) (fd : FD) (env : Env) (oa : Option Addr) (X : Addr → Prop) (fl : Fl) (σ' : AS) (s₀ : Shared) (r : Result) (s' : Shared) : Prop := ∃ w, r = .ok w ∧ ∃ oa', Ks G false env oa oa' s₀ s' ∧ St G fd env oa' X σ' s'.heap ∧ FlR s'.heap (Bset env oa' X) fl w
theorem Ks.gen {gs' : GenState} {h' : Heap} {s₂ : Shared} (K : Ks G false env oa oai s₀ s) (F : GF G env oa X s₀ a C I Lr) (S : St G fd env oai (Xg X a C I j) σ s.heap) (hI : 0 < j ∨ s.heap.get? I = none) (kp : GKeep C I (s.setGen g .running) s₂) (hb : gs'.bare = true)
    (hk : ∀ b o, ¬ Wg C I b → s.heap.get? b = some o → h'.get? b = some o) : Ks G false env oa oai s₀ { s₂.setGen g gs' with heap := h' } :=
  K.turn S (W := Wg C I) F.nW (F.hWX hI) ⟨kp.ex.1, kp.ex.2⟩ hk fun h => by
    show AllBare (s₂.gens.setIfInBounds g gs')
    rw [kp.gens]
    exact bare_set (bare_set h rfl) hb
theorem gens_at {gs gs' : GenState} {s₂ : Shared} (kp : GKeep C I (s.setGen g .running) s₂) (hgs : s.gens[g]? = some gs) : (s₂.setGen g gs').gens[g]? = some gs' := by
  show (s₂.gens.setIfInBounds g gs')[g]? = _
  rw [kp.gens]
  exact Array.getElem?_setIfInBounds_self_of_lt (by rw [show (s.setGen g .running).gens = s.gens.setIfInBounds g .running from rfl, Array.size_setIfInBounds]; exact (Array.getElem?_eq_some_iff.mp hgs).1)
theorem forG_ok (hG : G.Ok) {target : Expr} {body els : List Stmt} (ht : Asg G fd true n target set) (hb : SS G fd true n body F) (he : SS G fd true n els H)
    {s₁ : Shared} (R : Room n A) (S : St G fd env oa X σ s₀.heap) (K1 : Kp G false s₀ s₁) (hkp : ∀ b o, s₀.heap.get? b = some o → s₁.heap.get? b = some o)
    (na : s₀.heap.get? a = none) (nC : s₀.heap.get? C = none) (nI : s₀.heap.get? I = none) (nI1 : s₁.heap.get? I = none) (aC : a ≠ C) (aI : a ≠ I) (CI : C ≠ I) (la : ∃ o, s₁.heap.get? a = some o) (lC : ∃ o, s₁.heap.get? C = some o)
    (hLr : ¬ Bset env oa X Lr) (lLr : ∃ o, s₀.heap.get? Lr = some o) (ga : GAt G A st0 (n₀ + 1) a C I Lr g 0 s₁) (hgo : ∀ v, letOwnedTupleGo target (.ref a) v = pure ()) (hf : forG set F H n₀ st0 σ = some (fl, σ')) :
    codeAny G.M A (.forLoop target (.ref a) body els env) (GQ G fd env oa X fl σ' s₀) s₁ := by
  have Fx : GF G env oa X s₀ a C I Lr := ⟨S.tab, fun b x => S.live b (.inr (.inr (.inr x))), fun b w => w.elim (fun e => e ▸ nC) fun e => e ▸ nI, aC, aI, hLr, lLr⟩
  refine codeAny_forLoop_any (GI G fd env A X set F H fl σ' s₀ oa a C I Lr g n₀ st0) (fun k s hI => ?_) n₀
    (ga.go.elim fun gs h => ⟨0, st0, σ, oa, gs, Nat.zero_add n₀, hf, rfl, Ks.of_kp K1 S, Fx.first S hkp na la lC, .inr nI1, ga.isg, h.1, h.2⟩)
  refine hI.elim fun k' j st σi oai gs hk hj hfi hN K Si hIj isg hgs hgo' => ?_
  have hk2 : ∀ {s₂}, GKeep C I (s.setGen g .running) s₂ → ∀ b o, ¬ Wg C I b → s.heap.get? b = some o → s₂.heap.get? b = some o := fun kp b o w e => kp.heap b o (fun q => w (.inl q)) (fun q => w (.inr q)) e
  refine next_gen (P := fun n s₀ s => ∃ st, gN (n₀ + 1 - n) st0 = some st ∧ gStep st = some none ∧ GKeep C I s₀ s) R.handled (hG.top.nolimit.keeps fun b o e => (Si.base b o (hG.sub b o e)).1) (Nat.lt_of_le_of_lt (Nat.le_add_right _ _) R.depth) isg hgs hgo' (fun v s₂ gs' hbare hv => ?_) (fun s₂ hp h' hk' => ?_)
  · obtain ⟨st2, x, st', t, e1, e2, rfl, kp, hl, hkap⟩ := hv
    obtain rfl := gN_same (j := j) (k := k) hj hN e1
    show wpAny G.M A (letOwnedTupleGo target (.ref a) (.int x t)) _ _ _
    obtain ⟨σ₁, fl₁, σ₂, f1, f2, f3⟩ := forG_succ hfi e2
    have S2 := Fx.turn Si hIj (hk2 kp) hl.1 hl.2
    refine wpAny_of_eq (hgo _) (wpN (ht.run env A (s₂.setGen g gs') oai _ σi (.int x) (.int x t) σ₁ R S2 .int f1) fun _ s₃ q₃ => ?_)
    refine wpN (hb.run env A s₃ oai _ σ₁ fl₁ σ₂ R q₃.2 f2) fun w s₄ q₄ => ?_
    obtain ⟨oa₄, k₄, S₄, f₄⟩ := q₄
    have k34 := q₃.1.trans k₄
    have K2 := K.gen Fx Si hIj kp hbare (hk2 kp)
    rcases f3 with ⟨h, f3⟩ | ⟨rfl, rfl, rfl⟩ | ⟨y, rfl, rfl, rfl⟩
    · have isg₂ : s₂.heap.IsGen a g := by
        obtain ⟨o, nm, qn, ho, r⟩ := isg
        exact ⟨o, nm, qn, kp.heap a o aC aI ho, r⟩
      have fin := Fx.next (A := A) (F := F) (H := H) (set := set) (fl := fl) (σ' := σ') (s₂ := s₂.setGen g gs') e2 (hk ▸ hj) hN isg₂ (gens_at kp hgs) (fun p s'' h => by rw [hk] at hkap; exact hkap p s'' ⟨h.1, h.2⟩) K2 S2 k34 S₄ f3
      rw [← hk] at fin
      rcases h with rfl | rfl
      · cases f₄; exact fin
      · cases f₄; exact fin
    · cases f₄; exact ⟨_, rfl, oa₄, K2.trans k34.lift, Fx.drop S₄, .next⟩
    · cases f₄ with
      | ret r => exact ⟨_, rfl, oa₄, K2.trans k34.lift, Fx.drop S₄, (FlR.ret r).drop⟩
  · obtain ⟨st2, e1, e2, kp⟩ := hp
    obtain rfl := gN_same (j := j) (k := k) hj hN (by rw [Nat.succ_sub_succ] at e1; exact e1)
    have hk3 : ∀ b o, ¬ Wg C I b → s.heap.get? b = some o → h'.get? b = some o := fun b o w e => hk' b o (hk2 kp b o w e)
    have S2 : St G fd env oai X σi h' := Si.move (W := Wg C I) (Fx.hWX hIj) (Fx.nT) hk3 Fx.TX (fun b x => .inl (.inl x)) fun b x => by
      obtain ⟨o, ho⟩ := Si.live b (.inr (.inr (.inr (.inl x))))
      exact ⟨o, hk3 b o (fun w => dead_live (Fx.nW b w) (Fx.lX b x)) ho⟩
    refine wpN (he.run env A { s₂.setGen g .finished with heap := h' } oai X σi fl σ' R S2 (forG_stop hfi e2)) fun w s₃ q₃ => ?_
    obtain ⟨oa₃, k₃, S₃, f₃⟩ := q₃
    exact ⟨w, rfl, oa₃, (K.gen Fx Si hIj kp rfl hk3).trans k₃.lift, S₃, f₃⟩
end
end Mine
namespace Mine
noncomputable def noZero : List Int → Bool
  | [] => true
  | x :: _ => decide (x ≠ 0)
theorem noRaise {row : List Int} (h : noZero row = true) : ∀ j st, gN j (.at row none) = some st → gStep st ≠ none := by
  have inv : ∀ j st, gN j (.at row none) = some st → (∃ v, st = .ever v) ∨ (∃ r v, st = .at r (some v)) ∨ st = .at row none := by
    intro j
    induction j with
    | zero => intro st h; cases h; exact .inr (.inr rfl)
    | succ j ih =>
      intro st h
      unfold gN at h
      cases e : gN j (.at row none) with
      | none => rw [e] at h; cases h
      | some st' =>
        rw [e] at h
        replace h : (match gStep st' with
          | some (some (_, st')) => some st'
          | _ => none) = some st := h
        cases e2 : gStep st' with
        | none => rw [e2] at h; cases h
        | some q =>
          cases q with
          | none => rw [e2] at h; cases h
          | some q =>
            obtain ⟨x, st2⟩ := q
            rw [e2] at h
            cases h
            cases st' with
            | ever v => cases e2; exact .inl ⟨_, rfl⟩
            | «at» r last =>
              cases r with
              | nil => cases e2
              | cons y r =>
                rw [gStep_cons] at e2
                split at e2
                · cases e2
                · split at e2
                  · cases last with
                    | none => cases e2
                    | some v => cases e2; exact .inl ⟨_, rfl⟩
                  · cases e2; exact .inr (.inl ⟨_, _, rfl⟩)
  intro j st hj
  rcases inv j st hj with ⟨v, rfl⟩ | ⟨r, v, rfl⟩ | rfl
  · exact fun h => nomatch h
  · cases r with
    | nil => exact fun h => nomatch h
    | cons y r =>
      rw [gStep_cons]
      split
      · exact fun h => nomatch h
      · split <;> exact fun h => nomatch h
  · cases row with
    | nil => exact fun h => nomatch h
    | cons y r =>
      have hy : y ≠ 0 := of_decide_eq_true h
      rw [gStep_cons, if_neg hy]
      split <;> exact fun h => nomatch h
noncomputable def rowOf : AV → Option (List Int)
  | .lst l => intsOf l
  | _ => none
section
variable {G : GC} {fd : FD} {n : Nat}
theorem S1.forGen (L : L1 G) (hnn : 12 ≤ n) (n₀ : Nat) {target : Expr} {fx : PySem.Str} {np cpos : Pos} {e : Expr} {body els : List Stmt} {pos : Pos} {f : AS → Option AV} {set : AV → AS → Option AS} {F H : AS → Option (Fl × AS)}
    (hx : gloChk fd fx = true) (hn : GName G fx (.ref 78)) (hk : KeepOk G (.ref 78)) (hi : SE G fd false n e f) (ht : Asg G fd true n target set) (hb : SS G fd true n body F) (he : SS G fd true n els H)
    (hs : ∀ env x, foldedSetIterable (.Call (.Name fx np) [e] [] cpos) env x = pure x := by intro _ _; rfl)
    (hst : ∀ env, starEach [e] env = [(false, eval e env)] := by intro _; rfl)
    (hgo : ∀ (a : Addr) (v : Value), letOwnedTupleGo target (.ref a) v = pure () := by intro _ _; rfl) :
    S1 G fd false n (.For target (.Call (.Name fx np) [e] [] cpos) body els pos) (fun σ => (f σ).bind fun a => (rowOf a).bind fun row => guardO (noZero row) (forG set F H n₀ (.at row none) σ)) := by
  refine ⟨?_⟩
  intro env A s oa X σ fl σ' R S hf0
  obtain ⟨a, ha, hf1⟩ := bind_some hf0
  obtain ⟨row, hrow, hf2⟩ := bind_some hf1
  obtain ⟨hz, hf⟩ := guardO_some hf2
  clear hf0 hf1 hf2
  have ea : a = .lst (row.map .int) := by
    cases a <;> try (cases hrow; done)
    rename_i l
    have : l = row.map .int := intsOf_eq hrow
    rw [this]
  subst ea
  refine wpAny_For (wpAny_Call_NameR (wp_glob L.ok (gloChk_ok hx).1 (gloChk_ok hx).2 hn S ?_)) (hs env)
  refine callWith_ok hk ?_ ?_
  · rw [hst]; rfl
  · have h1 := (SEs.cons hi SEs.nil hst).run env A s oa X σ [.lst (row.map .int)] cpos R S (by rw [ha]; rfl)
    rw [hst] at h1 ⊢
    refine evalArgs_plain (wpN h1 fun vs s₁ q₁ => ?_)
    have S₁ := S.kp q₁.1
    refine ⟨fun b o e => (S₁.base b o e).1, ?_⟩
    obtain ⟨k₁, r₁⟩ := q₁
    cases r₁ with
    | cons hv hr =>
      cases hr
      refine wpN (gen_call L R hnn S₁.g hv n₀ (noRaise hz)) fun v s₂ q₂ => ?_
      obtain ⟨Lr, g, e1, nLr, lLr, rfl, ga, K1, hkp, nI1, lC, la, ne⟩ := q₂
      refine wpAny_pyIter_gen ga.isg ?_
      have k : S₁ = S₁ := rfl
      refine codeAny_mono (forG_ok (a := s₁.heap.objs.size + 1) (C := s₁.heap.objs.size) (I := s₁.heap.objs.size + 2) L.ok ht hb he R S₁ K1 hkp (Heap.get?_none_of_le (by omega)) (Heap.get?_none_of_le (by omega)) (Heap.get?_none_of_le (by omega)) nI1 (Nat.succ_ne_self _) (fun q => Nat.succ_ne_self _ q.symm) (fun q => absurd q (by show ¬ (_ : Nat) = _; omega)) la lC nLr lLr ga (hgo _) hf) fun r s₃ q₃ => ?_
      obtain ⟨w, rfl, oa', K, S₃, f₃⟩ := q₃
      exact ⟨oa', (Ks.of_kp k₁ S).trans K, S₃, f₃⟩
end
end Mine
namespace Mine
theorem L1.gn__grouping_intervals {G : GC} (L : L1 G) : GName G "_grouping_intervals" (.ref 78) := L.glob (by intro P; with_unfolding_all rfl)
theorem L1.kp__grouping_intervals {G : GC} (L : L1 G) : KeepOk G (.ref 78) := L.kp2 78
noncomputable def D_law_turns : FD := { names := ["row", "first", "told", "turn", "size"], scope := (f1 85).scope }
noncomputable def F_law_turns : { F : AS → Option (Fl × AS) // ∀ (G : GC) (n : Nat), L1 G → 12 ≤ n → SS G D_law_turns false n (bodyOf (f1 85)) F } :=
  ⟨_, fun G n L hn =>
   (SS.cons (S1.asg 2 (by decide +kernel) (SE.str (l := []) (by decide +kernel)))
   (SS.cons (S1.asg 3 (by decide +kernel) (SE.nm 1 (by decide +kernel)))
   (SS.cons (S1.forGen L hn 40 (by decide +kernel) L.gn__grouping_intervals L.kp__grouping_intervals (SE.nm 0 (by decide +kernel)) (Asg.nm 4 (by decide +kernel))
     (SS.cons (S1.asg 2 (by decide +kernel) (SE.bin (SE.nm 2 (by decide +kernel)) (SE.bin (SE.sub (SE.str (l := [108, 114]) (by decide +kernel)) (SE.nm 3 (by decide +kernel))) (SE.nm 4 (by decide +kernel)) op_mul) op_add))
     (SS.cons (S1.asg 3 (by decide +kernel) (SE.bin SE.int (SE.nm 3 (by decide +kernel)) op_sub))
     (SS.cons (S1.ite (ST.cmp (SE.cl L.ok (by decide +kernel) L.gn_len .builtin len_ok (SEs.cons (SE.nm 2 (by decide +kernel)) SEs.nil)) SE.int op_gt) (SS.cons S1.brk SS.nil) SS.nil) SS.nil))) SS.nil)
   (SS.cons (S1.ret (SE.slice (SE.nm 2 (by decide +kernel)) SP.none (SP.some SE.int))) SS.nil))))⟩
noncomputable def K_law_turns : List AV → Option AV := fnKR D_law_turns ["row", "first"] (fun σ => (F_law_turns.1 σ).bind fun x => some x.1)
theorem ok_law_turns {G : GC} {n : Nat} (L : L1 G) (hn : 12 ≤ n) : CallOk G false (n + 1) (.ref 85) K_law_turns :=
  fn_ok L.ok (L.fnAt2 85) rfl rfl (fnChkB_ok (by decide +kernel)) (by intro vs h; obtain ⟨v0, v1, rfl⟩ := len2 h; rfl) (F_law_turns.2 G n L hn)
end Mine
namespace Mine
noncomputable def Dlaw : FD := { names := ["script", "numbers", "sizes", "kind", "first", "lengths", "due", "turns", "met", "lines", "word", "rises", "signs", "other", "here", "there", "worth", "root", "told", "inner", "flags", "high"], scope := (f1 111).scope }
noncomputable def Dlaw_c1 (scope : Scope) : FD := { names := ["x"], scope := relabelS scope Dlaw.scope }
noncomputable def Dlaw_c2 (scope : Scope) : FD := { names := ["k", "lengths", "first"], scope := relabelS scope Dlaw.scope }
noncomputable def Dlaw_c3 (scope : Scope) : FD := { names := ["one"], scope := relabelS scope Dlaw.scope }
noncomputable def Dlaw_c4 (scope : Scope) : FD := { names := ["sign", "again"], scope := relabelS scope Dlaw.scope }
noncomputable def Dlaw_c5 (scope : Scope) : FD := { names := ["k", "told"], scope := relabelS scope Dlaw.scope }
noncomputable def Dlaw_c6 (scope : Scope) : FD := { names := ["k", "high", "word"], scope := relabelS scope Dlaw.scope }
noncomputable def forget (is : List Nat) (σ : AS) : AS := ⟨is.foldl (fun l i => l.set i none) σ.loc, σ.own⟩
theorem forget_get (is : List Nat) : ∀ (l : List (Option AV)) (i : Nat) (a : AV), (is.foldl (fun l i => l.set i none) l)[i]? = some (some a) → l[i]? = some (some a) := by
  induction is with
  | nil => intro l i a h; exact h
  | cons j is ih =>
    intro l i a h
    have := ih (l.set j none) i a h
    by_cases e : j = i
    · subst e
      rw [List.getElem?_set_self'] at this
      cases q : l[j]? <;> rw [q] at this <;> cases this
    · rwa [List.getElem?_set_ne e] at this
theorem St.lessO {G : GC} {fd : FD} {env : Env} {oa : Option Addr} {X : Addr → Prop} {σ σ' : AS} {h : Heap} (hl : ∀ (i : Nat) (a : AV), σ'.loc[i]? = some (some a) → σ.loc[i]? = some (some a)) (ho : σ'.own = σ.own) (S : St G fd env oa X σ h) : St G fd env oa X σ' h := by
  refine ⟨S.eo, S.tabOk, S.base, S.tab, S.live, S.locX, S.cellX, S.oaX, S.cells, S.cellsN, ?_⟩
  obtain ⟨m, hn, g1, g2⟩ := S.ns
  exact ⟨m, hn, fun i x a hx ha => g1 i x a hx (hl i a ha), fun i l e => g2 i l (by rw [← ho]; exact e)⟩
theorem SS.forget {G : GC} {fd : FD} {p : Bool} {n : Nat} (is : List Nat) {ss : List Stmt} {F : AS → Option (Fl × AS)} (h : SS G fd p n ss F) : SS G fd p n ss (fun σ => F (Mine.forget is σ)) := by
  refine ⟨?_⟩
  intro env A s oa X σ fl σ' R S hf
  exact h.run env A s oa X (Mine.forget is σ) fl σ' R (S.lessO (σ' := Mine.forget is σ) (fun i a e => forget_get is σ.loc i a e) rfl) hf
noncomputable def FlawC : { F : AS → Option (Fl × AS) // ∀ (G : GC) (n : Nat), L1 G → 8 < n → CallOk G false n (.ref 92) K_law_walk → CallOk G false n (.ref 71) K_strcoll → CallOk G false n (.ref 56) Kint_divmod → CallOk G false n (.ref 99) K_law_run → CallOk G false n (.ref 64) Kpretty_flags → CallOk G false n (.ref 106) K_law_names → SS G Dlaw false n ((bodyOf (f1 111)).drop 8) F } :=
  ⟨_, fun G n L h8 h_law_walk h_strcoll hint_divmod h_law_run hpretty_flags h_law_names =>
   (SS.cons (S1.asg 8 (by decide +kernel) (SE.cl L.ok (by decide +kernel) L.gn__law_walk L.kp__law_walk h_law_walk (SEs.cons (SE.nm 7 (by decide +kernel)) SEs.nil))) (SS.cons (S1.ite (ST.cmp (SE.cl L.ok (by decide +kernel) L.gn_len .builtin len_ok (SEs.cons (SE.nm 8 (by decide +kernel)) SEs.nil)) (SE.bin SE.int (SE.cl L.ok (by decide +kernel) L.gn_len .builtin len_ok (SEs.cons (SE.nm 7 (by decide +kernel)) SEs.nil)) op_add) (op_ne h8)) (SS.cons (S1.ret SE.bool) SS.nil) SS.nil) (SS.cons (S1.asgC 9 (fd' := Dlaw_c3 _) (caps := [none]) (by decide +kernel) rfl (SE.nm 8 (by decide +kernel)) iter_ok (by decide +kernel) (by decide +kernel) CTest.nil (SE.tup (SEs.cons (SE.sub (SE.nm 0 (by decide +kernel)) SE.int) (SEs.cons (SE.smeth (SE.sub (SE.nm 0 (by decide +kernel)) SE.int) (SEs.cons (SE.str (l := [98]) (by decide +kernel)) SEs.nil) count_ok F.slot_str_count F.type_str_count) (SEs.cons (SE.cl L.ok (by decide +kernel) L.gn_len .builtin len_ok (SEs.cons (SE.sub (SE.nm 0 (by decide +kernel)) SE.int) SEs.nil)) SEs.nil)))) rfl) (SS.cons (S1.for (SE.nm 9 (by decide +kernel)) iterL_ok (Asg.tup (NamesT.cs 10 (by decide +kernel) (NamesT.cs 11 (by decide +kernel) (NamesT.cs 12 (by decide +kernel) NamesT.nil)))) (SS.cons (S1.for (SE.nm 9 (by decide +kernel)) iter_ok (Asg.nm 13 (by decide +kernel)) (SS.cons (S1.asg 14 (by decide +kernel) (SE.bin (SE.nm 11 (by decide +kernel)) (SE.sub (SE.nm 13 (by decide +kernel)) SE.int) op_mul)) (SS.cons (S1.asg 15 (by decide +kernel) (SE.bin (SE.sub (SE.nm 13 (by decide +kernel)) SE.int) (SE.nm 12 (by decide +kernel)) op_mul)) (SS.cons (S1.ite (ST.cmp (SE.cl L.ok (by decide +kernel) L.gn__strcoll L.kp__strcoll h_strcoll (SEs.cons (SE.nm 10 (by decide +kernel)) (SEs.cons (SE.sub (SE.nm 13 (by decide +kernel)) SE.int) SEs.nil))) (SE.bin (SE.cmp (SE.nm 14 (by decide +kernel)) (SE.nm 15 (by decide +kernel)) op_gt) (SE.cmp (SE.nm 14 (by decide +kernel)) (SE.nm 15 (by decide +kernel)) op_lt) op_sub) (op_ne h8)) (SS.cons (S1.ret SE.bool) SS.nil) SS.nil) SS.nil))) SS.nil) SS.nil) SS.nil) (SS.cons (S1.for (SE.slice (SE.nm 8 (by decide +kernel)) (SP.some SE.int) SP.none) iterL_ok (Asg.tup (NamesT.cs 10 (by decide +kernel) (NamesT.cs 16 (by decide +kernel) (NamesT.cs 17 (by decide +kernel) NamesT.nil)))) (SS.cons (S1.ite (ST.cmp (SE.sub (SE.cl L.ok (by decide +kernel) L.gn_int_divmod L.kp_int_divmod hint_divmod (SEs.cons (SE.bin (SE.bin (SE.nm 17 (by decide +kernel)) (SE.nm 17 (by decide +kernel)) op_mul) SE.int op_add) (SEs.cons (SE.nm 16 (by decide +kernel)) SEs.nil))) SE.int) SE.int (op_ne h8)) (SS.cons (S1.ret SE.bool) SS.nil) SS.nil) (SS.cons (S1.asg 18 (by decide +kernel) (SE.cl L.ok (by decide +kernel) L.gn__law_run L.kp__law_run h_law_run (SEs.cons (SE.nm 16 (by decide +kernel)) (SEs.cons (SE.nm 17 (by decide +kernel)) SEs.nil)))) (SS.cons (S1.asg 19 (by decide +kernel) (SE.slice (SE.nm 10 (by decide +kernel)) (SP.some SE.int) (SP.some (SE.un SE.int op_neg)))) (SS.cons (S1.ite (ST.cmp (SE.nm 18 (by decide +kernel)) (SE.bin (SE.bin (SE.lst (SEs.cons SE.int SEs.nil)) (SE.comp2 (fd' := Dlaw_c4 _) (caps := [none, none]) rfl (SE.nm 19 (by decide +kernel)) iter_ok (by decide +kernel) (by decide +kernel) (SE.cl L.ok (by decide +kernel) L.gn_range .type range_ok (SEs.cons SE.int SEs.nil)) iter_ok (by decide +kernel) CTest.nil (SE.ite (ST.cmp (SE.nm 0 (by decide +kernel)) (SE.str (l := [98]) (by decide +kernel)) (op_eq h8)) SE.int SE.int)) op_add) (SE.lst (SEs.cons SE.int SEs.nil)) op_add) (op_ne h8)) (SS.cons (S1.ret SE.bool) SS.nil) SS.nil) SS.nil)))) SS.nil) (SS.cons (S1.asg 20 (by decide +kernel) (SE.cl L.ok (by decide +kernel) L.gn_sum .builtin sum_ok (SEs.cons (SE.comp1 (fd' := Dlaw_c5 _) (caps := [none, some 18]) rfl (SE.cl L.ok (by decide +kernel) L.gn_range .type range_ok (SEs.cons (SE.cl L.ok (by decide +kernel) L.gn_len .builtin len_ok (SEs.cons (SE.nm 19 (by decide +kernel)) SEs.nil)) SEs.nil)) iter_ok (by decide +kernel) (by decide +kernel) (CTest.one (ST.cmp (SE.sub (SE.nm 1 (by decide +kernel)) (SE.bin (SE.bin SE.int (SE.nm 0 (by decide +kernel)) op_mul) SE.int op_add)) SE.int (op_eq h8))) (SE.bin SE.int (SE.nm 0 (by decide +kernel)) op_lsh)) SEs.nil))) (SS.cons (S1.asg 21 (by decide +kernel) (SE.smeth (SE.nm 10 (by decide +kernel)) (SEs.cons (SE.str (l := [98]) (by decide +kernel)) SEs.nil) count_ok F.slot_str_count F.type_str_count)) (SS.cons (S1.ret (SE.cmp (SE.cl L.ok (by decide +kernel) L.gn_pretty_flags L.kp_pretty_flags hpretty_flags (SEs.cons (SE.nm 20 (by decide +kernel)) SEs.nil)) (SE.cl L.ok (by decide +kernel) L.gn__law_names L.kp__law_names h_law_names (SEs.cons (SE.comp1 (fd' := Dlaw_c6 _) (caps := [none, some 21, some 10]) rfl (SE.cl L.ok (by decide +kernel) L.gn_range .type range_ok (SEs.cons (SE.cl L.ok (by decide +kernel) L.gn_len .builtin len_ok (SEs.cons (SE.nm 19 (by decide +kernel)) SEs.nil)) SEs.nil)) iter_ok (by decide +kernel) (by decide +kernel) (CTest.one (ST.cmp (SE.bin (SE.bin (SE.bin (SE.nm 0 (by decide +kernel)) SE.int op_add) (SE.nm 1 (by decide +kernel)) op_mul) (SE.cl L.ok (by decide +kernel) L.gn_len .builtin len_ok (SEs.cons (SE.nm 2 (by decide +kernel)) SEs.nil)) op_fmod) (SE.nm 1 (by decide +kernel)) op_lt)) (SE.nm 0 (by decide +kernel))) SEs.nil)) (op_eq h8))) SS.nil))))))))⟩
noncomputable def FlawB (F8 : AS → Option (Fl × AS)) : { F : AS → Option (Fl × AS) // ∀ (G : GC) (n : Nat), L1 G → 8 < n → CallOk G false n (.ref 85) K_law_turns → SS G Dlaw false n ((bodyOf (f1 111)).drop 8) F8 → SS G Dlaw false n ((bodyOf (f1 111)).drop 4) F } :=
  ⟨_, fun G n L h8 h_law_turns hF8 =>
   (SS.cons (S1.asg 5 (by decide +kernel) (SE.ite (ST.cmp (SE.nm 3 (by decide +kernel)) SE.int (op_eq h8)) (SE.bin (SE.nm 2 (by decide +kernel)) (SE.bin (SE.slice (SE.nm 2 (by decide +kernel)) (SP.some (SE.un SE.int op_neg)) SP.none) SE.int op_mul) op_add) (SE.nm 2 (by decide +kernel)))) (SS.cons (S1.asg 6 (by decide +kernel) (SE.slice (SE.smeth (SE.str (l := []) (by decide +kernel)) (SEs.cons (SE.comp1 (fd' := Dlaw_c2 _) (caps := [none, some 5, some 4]) rfl (SE.cl L.ok (by decide +kernel) L.gn_range .type range_ok (SEs.cons (SE.cl L.ok (by decide +kernel) L.gn_len .builtin len_ok (SEs.cons (SE.nm 5 (by decide +kernel)) SEs.nil)) SEs.nil)) iter_ok (by decide +kernel) (by decide +kernel) CTest.nil (SE.bin (SE.sub (SE.str (l := [108, 114]) (by decide +kernel)) (SE.bin (SE.bin (SE.nm 2 (by decide +kernel)) (SE.nm 0 (by decide +kernel)) op_add) SE.int op_fmod)) (SE.sub (SE.nm 1 (by decide +kernel)) (SE.nm 0 (by decide +kernel))) op_mul)) SEs.nil) join_ok F.slot_str_join F.type_str_join) SP.none (SP.some SE.int))) (SS.cons (S1.asg 7 (by decide +kernel) (SE.cl L.ok (by decide +kernel) L.gn__law_turns L.kp__law_turns h_law_turns (SEs.cons (SE.bin (SE.nm 2 (by decide +kernel)) (SE.sub (SE.lst (SEs.cons (SE.lst SEs.nil) (SEs.cons (SE.lst (SEs.cons SE.int (SEs.cons SE.int SEs.nil))) (SEs.cons (SE.lst (SEs.cons SE.int (SEs.cons SE.int SEs.nil))) SEs.nil)))) (SE.nm 3 (by decide +kernel))) op_add) (SEs.cons (SE.nm 4 (by decide +kernel)) SEs.nil)))) (SS.cons (S1.ite (ST.cmp (SE.nm 7 (by decide +kernel)) (SE.nm 6 (by decide +kernel)) (op_ne h8)) (SS.cons (S1.ret SE.bool) SS.nil) SS.nil) (SS.forget [2, 3, 4, 5, 6] hF8)))))⟩
noncomputable def FlawA (F4 : AS → Option (Fl × AS)) : { F : AS → Option (Fl × AS) // ∀ (G : GC) (n : Nat), L1 G → 8 < n → SS G Dlaw false n ((bodyOf (f1 111)).drop 4) F4 → SS G Dlaw false n (bodyOf (f1 111)) F } :=
  ⟨_, fun G n L h8 hF4 =>
   (SS.cons (S1.asg 1 (by decide +kernel) (SE.bin (SE.slice (SE.nm 0 (by decide +kernel)) SP.none (SP.some SE.int)) (SE.slice (SE.lst (SEs.cons SE.int (SEs.cons SE.int (SEs.cons SE.int (SEs.cons SE.int (SEs.cons SE.int SEs.nil)))))) (SP.some (SE.cl L.ok (by decide +kernel) L.gn_len .builtin len_ok (SEs.cons (SE.nm 0 (by decide +kernel)) SEs.nil))) SP.none) op_add)) (SS.cons (S1.asgC 2 (fd' := Dlaw_c1 _) (caps := [none]) (by decide +kernel) rfl (SE.slice (SE.nm 1 (by decide +kernel)) SP.none (SP.some (SE.bin SE.int (SE.bin (SE.sub (SE.nm 1 (by decide +kernel)) SE.int) SE.int op_fmod) op_add))) iter_ok (by decide +kernel) (by decide +kernel) CTest.nil (SE.bin SE.int (SE.bin (SE.nm 0 (by decide +kernel)) SE.int op_fmod) op_add) rfl) (SS.cons (S1.asg 3 (by decide +kernel) (SE.bin (SE.sub (SE.nm 1 (by decide +kernel)) SE.int) SE.int op_fmod)) (SS.cons (S1.asg 4 (by decide +kernel) (SE.bin (SE.bin (SE.sub (SE.nm 1 (by decide +kernel)) SE.int) SE.int op_fdiv) SE.int op_fmod)) (SS.forget [0, 1] hF4)))))⟩
end Mine
namespace Mine
noncomputable def retTrue : Option (Fl × AS) → Bool
  | some (.ret (.bool true), _) => true
  | _ => false
noncomputable def lawSt (t : List Nat) : AS := ⟨none :: none :: none :: none :: none :: none :: none :: some (.str t) :: List.replicate 14 none, none⟩
noncomputable def words : Nat → List (List Nat)
  | 0 => [[]]
  | n + 1 => (words n).flatMap fun w => [108 :: w, 114 :: w]
noncomputable def dr : Nat → List (List Nat) → List (List Nat)
  | 0, l => l
  | n + 1, l => dr n (l.drop 4)
theorem all_dr {p : List Nat → Bool} : ∀ (n : Nat) (l : List (List Nat)), (∀ i, i < n → ((dr i l).take 4).all p = true) → dr n l = [] → l.all p = true
  | 0, l, _, e => by rw [show l = [] from e]; rfl
  | n + 1, l, h, e => by
    have h0 : (l.take 4).all p = true := h 0 (Nat.zero_lt_succ n)
    have h1 : (l.drop 4).all p = true := all_dr n (l.drop 4) (fun i hi => h (i + 1) (Nat.succ_lt_succ hi)) e
    rw [← List.take_append_drop 4 l, List.all_append, h0, h1]; rfl
theorem finC1 : (words 1).all (fun t => retTrue (FlawC.1 (lawSt t))) = true := by decide +kernel
theorem finC2 : (words 2).all (fun t => retTrue (FlawC.1 (lawSt t))) = true := by decide +kernel
theorem finC3p0 : ((dr 0 (words 3)).take 4).all (fun t => retTrue (FlawC.1 (lawSt t))) = true := by decide +kernel
theorem finC3p1 : ((dr 1 (words 3)).take 4).all (fun t => retTrue (FlawC.1 (lawSt t))) = true := by decide +kernel
theorem finC3 : (words 3).all (fun t => retTrue (FlawC.1 (lawSt t))) = true := all_dr 2 _ (fun i hi => match i, hi with
  | 0, _ => finC3p0
  | 1, _ => finC3p1
  | i + 2, hi => absurd hi (Nat.not_lt.mpr (Nat.le_add_left 2 i))) (by decide +kernel)
theorem finC4p0 : ((dr 0 (words 4)).take 4).all (fun t => retTrue (FlawC.1 (lawSt t))) = true := by decide +kernel
theorem finC4p1 : ((dr 1 (words 4)).take 4).all (fun t => retTrue (FlawC.1 (lawSt t))) = true := by decide +kernel
theorem finC4p2 : ((dr 2 (words 4)).take 4).all (fun t => retTrue (FlawC.1 (lawSt t))) = true := by decide +kernel
theorem finC4p3 : ((dr 3 (words 4)).take 4).all (fun t => retTrue (FlawC.1 (lawSt t))) = true := by decide +kernel
theorem finC4 : (words 4).all (fun t => retTrue (FlawC.1 (lawSt t))) = true := all_dr 4 _ (fun i hi => match i, hi with
  | 0, _ => finC4p0
  | 1, _ => finC4p1
  | 2, _ => finC4p2
  | 3, _ => finC4p3
  | i + 4, hi => absurd hi (Nat.not_lt.mpr (Nat.le_add_left 4 i))) (by decide +kernel)
theorem finC5p0 : ((dr 0 (words 5)).take 4).all (fun t => retTrue (FlawC.1 (lawSt t))) = true := by decide +kernel
theorem finC5p1 : ((dr 1 (words 5)).take 4).all (fun t => retTrue (FlawC.1 (lawSt t))) = true := by decide +kernel
theorem finC5p2 : ((dr 2 (words 5)).take 4).all (fun t => retTrue (FlawC.1 (lawSt t))) = true := by decide +kernel
theorem finC5p3 : ((dr 3 (words 5)).take 4).all (fun t => retTrue (FlawC.1 (lawSt t))) = true := by decide +kernel
theorem finC5p4 : ((dr 4 (words 5)).take 4).all (fun t => retTrue (FlawC.1 (lawSt t))) = true := by decide +kernel
theorem finC5p5 : ((dr 5 (words 5)).take 4).all (fun t => retTrue (FlawC.1 (lawSt t))) = true := by decide +kernel
theorem finC5p6 : ((dr 6 (words 5)).take 4).all (fun t => retTrue (FlawC.1 (lawSt t))) = true := by decide +kernel
theorem finC5p7 : ((dr 7 (words 5)).take 4).all (fun t => retTrue (FlawC.1 (lawSt t))) = true := by decide +kernel
theorem finC5 : (words 5).all (fun t => retTrue (FlawC.1 (lawSt t))) = true := all_dr 8 _ (fun i hi => match i, hi with
  | 0, _ => finC5p0
  | 1, _ => finC5p1
  | 2, _ => finC5p2
  | 3, _ => finC5p3
  | 4, _ => finC5p4
  | 5, _ => finC5p5
  | 6, _ => finC5p6
  | 7, _ => finC5p7
  | i + 8, hi => absurd hi (Nat.not_lt.mpr (Nat.le_add_left 8 i))) (by decide +kernel)
end Mine
namespace Mine
noncomputable def thenF (r : Option (Fl × AS)) (F : AS → Option (Fl × AS)) : Option (Fl × AS) := r.bind fun x => match x with
  | (.next, σ') => F σ'
  | y => some y
theorem seqF_then (A B : AS → Option (Fl × AS)) (F : AS → Option (Fl × AS)) (H : AS → Option (Fl × AS)) (hB : ∀ σ, B σ = thenF (H σ) F) (σ : AS) : seqF A B σ = thenF (seqF A H σ) F := by
  unfold seqF thenF
  cases A σ with
  | none => rfl
  | some x =>
    obtain ⟨fl, σ'⟩ := x
    cases fl with
    | next => exact hB σ'
    | brk => rfl
    | cont => rfl
    | ret a => rfl
theorem chain4 (A B C D : AS → Option (Fl × AS)) (is : List Nat) (F : AS → Option (Fl × AS)) (σ : AS) : seqF A (seqF B (seqF C (seqF D fun σ => F (forget is σ)))) σ = thenF (seqF A (seqF B (seqF C (seqF D fun σ => nxS (forget is σ)))) σ) F :=
  seqF_then A _ F _ (seqF_then B _ F _ (seqF_then C _ F _ (seqF_then D _ F (fun σ => nxS (forget is σ)) fun _ => rfl))) σ
theorem FlawB_then (F8 : AS → Option (Fl × AS)) (σ : AS) : (FlawB F8).1 σ = thenF ((FlawB nxS).1 σ) F8 :=
  by
  unfold FlawB
  dsimp only
  exact chain4 _ _ _ _ [2, 3, 4, 5, 6] F8 σ
noncomputable def lawStB (s : List Nat) (k f : Nat) : AS := ⟨[none, none, some (.lst (s.map fun (i : Nat) => .int (i : Int))), some (.int k), some (.int f), none, none, none, none, none, none, none, none, none, none, none, none, none, none, none, none, none], none⟩
noncomputable def noneB : Option AV → Bool
  | none => true
  | some _ => false
noncomputable def strAt : Option AV → Option (List Nat)
  | some (.str t) => some t
  | _ => none
noncomputable def okW (t : List Nat) : Bool := decide (1 ≤ t.length) && decide (t.length ≤ 5) && t.all fun c => decide (c = 108) || decide (c = 114)
noncomputable def okL : Nat → List (Option AV) → Bool
  | 0, x :: l => (match strAt x with
    | some t => okW t
    | none => false) && decide (l.length = 14) && l.all noneB
  | k + 1, x :: l => noneB x && okL k l
  | _, [] => false
noncomputable def okB : Option (Fl × AS) → Bool
  | some (.next, σ) => (match σ.own with
    | none => true
    | some _ => false) && okL 7 σ.loc
  | _ => false
noncomputable def rows : Nat → List (List Nat)
  | 0 => [[]]
  | n + 1 => (rows n).flatMap fun w => [1 :: w, 2 :: w, 3 :: w]
noncomputable def allB (n k f : Nat) : Bool := (rows n).all fun s => okB ((FlawB nxS).1 (lawStB s k f))
theorem finB1 : ([0, 1, 2].all fun k => [0, 1].all fun f => allB 1 k f) = true := by decide +kernel
theorem finB2 : ([0, 1, 2].all fun k => [0, 1].all fun f => allB 2 k f) = true := by decide +kernel
theorem finB3a : ([0, 1, 2].all fun k => [0].all fun f => allB 3 k f) = true := by decide +kernel
theorem finB3b : ([0, 1, 2].all fun k => [1].all fun f => allB 3 k f) = true := by decide +kernel
end Mine
namespace Mine
noncomputable def sliceE (f : AS → Option AV) (g k : AS → Option (Option Int)) (σ : AS) : Option AV := (f σ).bind fun a => (g σ).bind fun b => (k σ).bind fun c => pickV a b c
noncomputable def partE (f : AS → Option AV) (σ : AS) : Option (Option Int) := (f σ).bind partOf
noncomputable def noPart (_ : AS) : Option (Option Int) := some none
noncomputable def sA1 : AS → Option AV := binE (sliceE (gv 0) noPart (partE (cE 5))) (sliceE (lstE (consE (cE 1) (consE (cE 0) (consE (cE 1) (consE (cE 1) (consE (cE 3) nilE)))))) (partE (kE (consE (gv 0) nilE) lenK)) noPart) addV
noncomputable def tA2 : AS → Option AV := binE (cE 1) (binE (binE (gv 1) (cE 3) fun a b => idxV a b) (cE 3) fmodV) addV
noncomputable def eA2 : AS → Option (List AV × AS) := emitF (fun _ => some true) (binE (cE 1) (binE (gv 0) (cE 3) fmodV) addV)
noncomputable def sA2 : AS → Option AV := compF (sliceE (gv 1) noPart (partE tA2)) iterItems 0 eA2 [none]
noncomputable def sA3 : AS → Option AV := binE (binE (gv 1) (cE 4) fun a b => idxV a b) (cE 3) fmodV
noncomputable def sA4 : AS → Option AV := binE (binE (binE (gv 1) (cE 4) fun a b => idxV a b) (cE 3) fdivV) (cE 2) fmodV
noncomputable def finA (F4 : AS → Option (Fl × AS)) : AS → Option (Fl × AS) := seqF (asgS 1 sA1) (seqF (asgS 2 sA2) (seqF (asgS 3 sA3) (seqF (asgS 4 sA4) fun σ => F4 (forget [0, 1] σ))))
theorem finA_eq (F4 : AS → Option (Fl × AS)) : (FlawA F4).1 = finA F4 := rfl
noncomputable def scrSt (script : List Int) : AS := ⟨[some (.lst (script.map .int)), none, none, none, none, none, none, none, none, none, none, none, none, none, none, none, none, none, none, none, none, none], none⟩
theorem picks1 : ∀ n ∈ List.range 59, pickIs none (some 5) (n + 5) = [0, 1, 2, 3, 4] := by decide +kernel
theorem picks2 : ∀ n ∈ List.range 59, pickIs (some ((n + 5 : Nat) : Int)) none 5 = [] := by decide +kernel
theorem sA1_ok (script : List Int) (h : script.length ≤ 63) : ∃ a b c d e : Int, sA1 (scrSt script) = some (.lst [.int a, .int b, .int c, .int d, .int e]) := by
  match script, h with
  | [], _ => exact ⟨_, _, _, _, _, rfl⟩
  | [a], _ =>
    have f1 : sliceE (gv 0) noPart (partE (cE 5)) (scrSt [a]) = some (.lst [.int a]) := by
      show some (AV.lst ((pickIs none (some 5) 1).filterMap fun i => ([.int a] : List AV)[i]?)) = _
      rw [show pickIs none (some 5) 1 = [0] by decide +kernel]; rfl
    have f3 : sliceE (lstE (consE (cE 1) (consE (cE 0) (consE (cE 1) (consE (cE 1) (consE (cE 3) nilE)))))) (partE (kE (consE (gv 0) nilE) lenK)) noPart (scrSt [a]) = some (.lst [.int 0, .int 1, .int 1, .int 3]) := by
      show some (AV.lst ((pickIs (some 1) none 5).filterMap fun i => ([.int 1, .int 0, .int 1, .int 1, .int 3] : List AV)[i]?)) = _
      rw [show pickIs (some 1) none 5 = [1, 2, 3, 4] by decide +kernel]; rfl
    exact ⟨_, _, _, _, _, binE_eq f1 f3 rfl⟩
  | [a, b], _ =>
    have f1 : sliceE (gv 0) noPart (partE (cE 5)) (scrSt [a, b]) = some (.lst [.int a, .int b]) := by
      show some (AV.lst ((pickIs none (some 5) 2).filterMap fun i => ([.int a, .int b] : List AV)[i]?)) = _
      rw [show pickIs none (some 5) 2 = [0, 1] by decide +kernel]; rfl
    have f3 : sliceE (lstE (consE (cE 1) (consE (cE 0) (consE (cE 1) (consE (cE 1) (consE (cE 3) nilE)))))) (partE (kE (consE (gv 0) nilE) lenK)) noPart (scrSt [a, b]) = some (.lst [.int 1, .int 1, .int 3]) := by
      show some (AV.lst ((pickIs (some 2) none 5).filterMap fun i => ([.int 1, .int 0, .int 1, .int 1, .int 3] : List AV)[i]?)) = _
      rw [show pickIs (some 2) none 5 = [2, 3, 4] by decide +kernel]; rfl
    exact ⟨_, _, _, _, _, binE_eq f1 f3 rfl⟩
  | [a, b, c], _ =>
    have f1 : sliceE (gv 0) noPart (partE (cE 5)) (scrSt [a, b, c]) = some (.lst [.int a, .int b, .int c]) := by
      show some (AV.lst ((pickIs none (some 5) 3).filterMap fun i => ([.int a, .int b, .int c] : List AV)[i]?)) = _
      rw [show pickIs none (some 5) 3 = [0, 1, 2] by decide +kernel]; rfl
    have f3 : sliceE (lstE (consE (cE 1) (consE (cE 0) (consE (cE 1) (consE (cE 1) (consE (cE 3) nilE)))))) (partE (kE (consE (gv 0) nilE) lenK)) noPart (scrSt [a, b, c]) = some (.lst [.int 1, .int 3]) := by
      show some (AV.lst ((pickIs (some 3) none 5).filterMap fun i => ([.int 1, .int 0, .int 1, .int 1, .int 3] : List AV)[i]?)) = _
      rw [show pickIs (some 3) none 5 = [3, 4] by decide +kernel]; rfl
    exact ⟨_, _, _, _, _, binE_eq f1 f3 rfl⟩
  | [a, b, c, d], _ =>
    have f1 : sliceE (gv 0) noPart (partE (cE 5)) (scrSt [a, b, c, d]) = some (.lst [.int a, .int b, .int c, .int d]) := by
      show some (AV.lst ((pickIs none (some 5) 4).filterMap fun i => ([.int a, .int b, .int c, .int d] : List AV)[i]?)) = _
      rw [show pickIs none (some 5) 4 = [0, 1, 2, 3] by decide +kernel]; rfl
    have f3 : sliceE (lstE (consE (cE 1) (consE (cE 0) (consE (cE 1) (consE (cE 1) (consE (cE 3) nilE)))))) (partE (kE (consE (gv 0) nilE) lenK)) noPart (scrSt [a, b, c, d]) = some (.lst [.int 3]) := by
      show some (AV.lst ((pickIs (some 4) none 5).filterMap fun i => ([.int 1, .int 0, .int 1, .int 1, .int 3] : List AV)[i]?)) = _
      rw [show pickIs (some 4) none 5 = [4] by decide +kernel]; rfl
    exact ⟨_, _, _, _, _, binE_eq f1 f3 rfl⟩
  | a :: b :: c :: d :: e :: r, h =>
    have hr : r.length ∈ List.range 59 := List.mem_range.mpr (by simp only [List.length_cons] at h; omega)
    have hl : ((a :: b :: c :: d :: e :: r).map AV.int).length = r.length + 5 := by simp
    have e1 : pickV (.lst ((a :: b :: c :: d :: e :: r).map AV.int)) none (some 5) = some (.lst [.int a, .int b, .int c, .int d, .int e]) := by
      show guardO (decide (((a :: b :: c :: d :: e :: r).map AV.int).length ≤ 100000)) (some (AV.lst ((pickIs none (some 5) ((a :: b :: c :: d :: e :: r).map AV.int).length).filterMap fun i => ((a :: b :: c :: d :: e :: r).map AV.int)[i]?))) = _
      have := List.mem_range.mp hr
      rw [hl, picks1 _ hr, decide_eq_true (by omega)]
      rfl
    have e2 : lenK [.lst ((a :: b :: c :: d :: e :: r).map AV.int)] = some (.int ((r.length + 5 : Nat) : Int)) := by
      show guardO (decide (((a :: b :: c :: d :: e :: r).map AV.int).length ≤ 100000)) (some (AV.int (((a :: b :: c :: d :: e :: r).map AV.int).length : Nat))) = _
      have := List.mem_range.mp hr
      rw [hl, decide_eq_true (by omega)]
      rfl
    have e3 : pickV (.lst [.int 1, .int 0, .int 1, .int 1, .int 3]) (some ((r.length + 5 : Nat) : Int)) none = some (.lst []) := by
      show some (AV.lst ((pickIs (some ((r.length + 5 : Nat) : Int)) none 5).filterMap fun i => ([.int 1, .int 0, .int 1, .int 1, .int 3] : List AV)[i]?)) = _
      rw [picks2 _ hr]
      rfl
    refine ⟨a, b, c, d, e, ?_⟩
    have f1 : sliceE (gv 0) noPart (partE (cE 5)) (scrSt (a :: b :: c :: d :: e :: r)) = some (.lst [.int a, .int b, .int c, .int d, .int e]) := e1
    have f2 : partE (kE (consE (gv 0) nilE) lenK) (scrSt (a :: b :: c :: d :: e :: r)) = some (some ((r.length + 5 : Nat) : Int)) := by
      unfold partE
      rw [kE_eq (consE_eq rfl rfl) e2]
      rfl
    have f3 : sliceE (lstE (consE (cE 1) (consE (cE 0) (consE (cE 1) (consE (cE 1) (consE (cE 3) nilE)))))) (partE (kE (consE (gv 0) nilE) lenK)) noPart (scrSt (a :: b :: c :: d :: e :: r)) = some (.lst []) := by
      unfold sliceE
      rw [f2]
      exact e3
    exact binE_eq f1 f3 rfl
noncomputable def numSt (sc : AV) (a b c d e : Int) (x2 x3 x4 : Option AV) : AS := ⟨[some sc, some (.lst [.int a, .int b, .int c, .int d, .int e]), x2, x3, x4, none, none, none, none, none, none, none, none, none, none, none, none, none, none, none, none, none], none⟩
theorem fm3 (x : Int) : ∃ m : Nat, m < 3 ∧ x.fmod 3 = (m : Int) := by
  have h1 := Int.fmod_nonneg_of_pos x (by decide : (0 : Int) < 3)
  have h2 := Int.fmod_lt_of_pos x (by decide : (0 : Int) < 3)
  exact ⟨(x.fmod 3).toNat, by omega, by omega⟩
theorem fm2 (x : Int) : ∃ m : Nat, m < 2 ∧ x.fmod 2 = (m : Int) := by
  have h1 := Int.fmod_nonneg_of_pos x (by decide : (0 : Int) < 2)
  have h2 := Int.fmod_lt_of_pos x (by decide : (0 : Int) < 2)
  exact ⟨(x.fmod 2).toNat, by omega, by omega⟩
theorem mem1 : ∀ m, m < 3 → [1 + m] ∈ rows 1 := by decide
theorem mem2 : ∀ m, m < 3 → ∀ k, k < 3 → [1 + m, 1 + k] ∈ rows 2 := by decide
theorem mem3 : ∀ m, m < 3 → ∀ k, k < 3 → ∀ j, j < 3 → [1 + m, 1 + k, 1 + j] ∈ rows 3 := by decide
theorem sA2_ok (sc : AV) (a b c d e : Int) : ∃ n s, (n = 1 ∨ n = 2 ∨ n = 3) ∧ s ∈ rows n ∧ sA2 (numSt sc a b c d e none none none) = some (.lst (s.map fun (i : Nat) => .int (i : Int))) := by
  obtain ⟨m3, h3, e3⟩ := fm3 d
  obtain ⟨m0, h0, e0⟩ := fm3 a
  obtain ⟨m1, h1, e1⟩ := fm3 b
  obtain ⟨m2, h2, e2⟩ := fm3 c
  have t : tA2 (numSt sc a b c d e none none none) = some (.int (1 + d.fmod 3)) := rfl
  have p : partE tA2 (numSt sc a b c d e none none none) = some (some (1 + d.fmod 3)) := by unfold partE; rw [t]; rfl
  rw [e3] at p
  have step : ∀ l, sliceE (gv 1) noPart (partE tA2) (numSt sc a b c d e none none none) = some (.lst l) → sA2 (numSt sc a b c d e none none none) = (iterItems (.lst l)).bind fun items => (compLB 0 eA2 items (capt [none] (numSt sc a b c d e none none none))).bind fun y => (lid y.1).bind fun l => some (.lst l) := by
    intro l h
    unfold sA2 compF
    rw [h]
    rfl
  match m3, h3, p with
  | 0, _, p =>
    refine ⟨1, _, .inl rfl, mem1 m0 h0, ?_⟩
    have f : sliceE (gv 1) noPart (partE tA2) (numSt sc a b c d e none none none) = some (.lst [.int a]) := by unfold sliceE; rw [p]; rfl
    refine (step _ f).trans ?_
    show some (AV.lst [.int (1 + a.fmod 3)]) = _
    rw [e0]; rfl
  | 1, _, p =>
    refine ⟨2, _, .inr (.inl rfl), mem2 m0 h0 m1 h1, ?_⟩
    have f : sliceE (gv 1) noPart (partE tA2) (numSt sc a b c d e none none none) = some (.lst [.int a, .int b]) := by unfold sliceE; rw [p]; rfl
    refine (step _ f).trans ?_
    show some (AV.lst [.int (1 + a.fmod 3), .int (1 + b.fmod 3)]) = _
    rw [e0, e1]; rfl
  | 2, _, p =>
    refine ⟨3, _, .inr (.inr rfl), mem3 m0 h0 m1 h1 m2 h2, ?_⟩
    have f : sliceE (gv 1) noPart (partE tA2) (numSt sc a b c d e none none none) = some (.lst [.int a, .int b, .int c]) := by unfold sliceE; rw [p]; rfl
    refine (step _ f).trans ?_
    show some (AV.lst [.int (1 + a.fmod 3), .int (1 + b.fmod 3), .int (1 + c.fmod 3)]) = _
    rw [e0, e1, e2]; rfl
theorem finA_ok (script : List Int) (h : script.length ≤ 63) (F4 : AS → Option (Fl × AS)) : ∃ n s k f, (n = 1 ∨ n = 2 ∨ n = 3) ∧ s ∈ rows n ∧ k < 3 ∧ f < 2 ∧ finA F4 (scrSt script) = F4 (lawStB s k f) := by
  obtain ⟨a, b, c, d, e, h1⟩ := sA1_ok script h
  obtain ⟨n, s, hn, hs, h2⟩ := sA2_ok (.lst (script.map .int)) a b c d e
  obtain ⟨k, hk, ek⟩ := fm3 e
  obtain ⟨f, hf, ef⟩ := fm2 (e.fdiv 3)
  refine ⟨n, s, k, f, hn, hs, hk, hf, ?_⟩
  unfold finA
  refine seqF_nx (asgS_eq h1) (seqF_nx (σ' := numSt (.lst (script.map .int)) a b c d e (some (.lst (s.map fun (i : Nat) => .int (i : Int)))) none none) (asgS_eq h2) ?_)
  have h3 : sA3 (numSt (.lst (script.map .int)) a b c d e (some (.lst (s.map fun (i : Nat) => .int (i : Int)))) none none) = some (.int (e.fmod 3)) := rfl
  rw [ek] at h3
  refine seqF_nx (σ' := numSt (.lst (script.map .int)) a b c d e (some (.lst (s.map fun (i : Nat) => .int (i : Int)))) (some (.int k)) none) (asgS_eq h3) ?_
  have h4 : sA4 (numSt (.lst (script.map .int)) a b c d e (some (.lst (s.map fun (i : Nat) => .int (i : Int)))) (some (.int k)) none) = some (.int ((e.fdiv 3).fmod 2)) := by
    refine binE_eq (a := .int (e.fdiv 3)) (b := .int 2) (binE_eq (a := .int e) (b := .int 3) rfl rfl ?_) rfl rfl
    show guardO (((3 : Int) != 0) && okI 3) (some (AV.int (e.fdiv 3))) = _
    have : okI 3 = true := by decide +kernel
    rw [this]; rfl
  rw [ef] at h4
  exact seqF_nx (asgS_eq h4) rfl
end Mine
namespace Mine
theorem retTrue_some {r : Option (Fl × AS)} (h : retTrue r = true) : ∃ σ', r = some (.ret (.bool true), σ') := by
  unfold retTrue at h
  split at h
  · exact ⟨_, rfl⟩
  · cases h
theorem words_mem : ∀ (t : List Nat), (∀ c ∈ t, c = 108 ∨ c = 114) → t ∈ words t.length
  | [], _ => .head _
  | c :: t, h => by
    have ih := words_mem t fun d hd => h d (.tail _ hd)
    rw [List.length_cons, words, List.mem_flatMap]
    refine ⟨t, ih, ?_⟩
    rcases h c (.head _) with rfl | rfl
    · exact .head _
    · exact .tail _ (.head _)
theorem noneB_all : ∀ {l : List (Option AV)}, l.all noneB = true → l = List.replicate l.length none
  | [], _ => rfl
  | x :: l, h => by
    rw [List.all_cons, Bool.and_eq_true] at h
    rw [List.length_cons, List.replicate_succ, ← noneB_all h.2]
    cases x with
    | none => rfl
    | some a => exact absurd h.1 Bool.false_ne_true
theorem okL_cons {k : Nat} {l : List (Option AV)} (h : okL (k + 1) l = true) : ∃ r, l = none :: r ∧ okL k r = true := by
  cases l with
  | nil => exact absurd h Bool.false_ne_true
  | cons x l =>
    have h' : (noneB x && okL k l) = true := h
    rw [Bool.and_eq_true] at h'
    cases x with
    | none => exact ⟨l, rfl, h'.2⟩
    | some a => exact absurd h'.1 Bool.false_ne_true
theorem strAt_some {x : Option AV} {t : List Nat} (h : strAt x = some t) : x = some (.str t) := by
  cases x with
  | none => exact no h
  | some a => cases a <;> first | exact no h | exact congrArg (fun t => some (AV.str t)) (Option.some.inj h)
theorem okL_zero {l : List (Option AV)} (h : okL 0 l = true) : ∃ t, l = some (.str t) :: List.replicate 14 none ∧ okW t = true := by
  cases l with
  | nil => exact absurd h (by decide)
  | cons x l =>
    have h' : ((match strAt x with
      | some t => okW t
      | none => false) && decide (l.length = 14) && l.all noneB) = true := h
    rw [Bool.and_eq_true, Bool.and_eq_true] at h'
    obtain ⟨⟨h1, h2⟩, h3⟩ := h'
    have e := noneB_all h3
    rw [of_decide_eq_true h2] at e
    cases q : strAt x with
    | none => rw [q] at h1; exact absurd h1 (by decide)
    | some t => rw [q] at h1; exact ⟨t, by rw [strAt_some q, e], h1⟩
theorem okB_some {r : Option (Fl × AS)} (h : okB r = true) : ∃ t, r = some (.next, lawSt t) ∧ 1 ≤ t.length ∧ t.length ≤ 5 ∧ ∀ c ∈ t, c = 108 ∨ c = 114 := by
  cases r with
  | none => exact absurd h (by decide)
  | some x =>
    obtain ⟨fl, loc, own⟩ := x
    cases fl with
    | brk => exact absurd h (by show ¬ false = true; decide)
    | cont => exact absurd h (by show ¬ false = true; decide)
    | ret a => exact absurd h (by show ¬ false = true; decide)
    | next =>
      cases own with
      | some q => exact absurd (Bool.and_eq_true_iff.mp (show (false && okL 7 loc) = true from h)).1 Bool.false_ne_true
      | none =>
        obtain ⟨l1, rfl, h1⟩ := okL_cons (k := 6) (Bool.and_eq_true_iff.mp (show (true && okL 7 loc) = true from h)).2
        obtain ⟨l2, rfl, h2⟩ := okL_cons h1
        obtain ⟨l3, rfl, h3⟩ := okL_cons h2
        obtain ⟨l4, rfl, h4⟩ := okL_cons h3
        obtain ⟨l5, rfl, h5⟩ := okL_cons h4
        obtain ⟨l6, rfl, h6⟩ := okL_cons h5
        obtain ⟨l7, rfl, h7⟩ := okL_cons h6
        obtain ⟨t, rfl, ht⟩ := okL_zero h7
        unfold okW at ht
        rw [Bool.and_eq_true, Bool.and_eq_true, List.all_eq_true] at ht
        exact ⟨t, rfl, of_decide_eq_true ht.1.1, of_decide_eq_true ht.1.2, fun c hc => (Bool.or_eq_true_iff.mp (ht.2 c hc)).imp of_decide_eq_true of_decide_eq_true⟩
theorem okC (t : List Nat) (h1 : 1 ≤ t.length) (h5 : t.length ≤ 5) (h : ∀ c ∈ t, c = 108 ∨ c = 114) : ∃ σ', FlawC.1 (lawSt t) = some (.ret (.bool true), σ') := by
  have hm := words_mem t h
  refine retTrue_some ?_
  have go : ∀ k, t.length = k → (words k).all (fun t => retTrue (FlawC.1 (lawSt t))) = true → retTrue (FlawC.1 (lawSt t)) = true := fun k e hk => by
    rw [e] at hm
    exact List.all_eq_true.mp hk t hm
  obtain h | h | h | h | h : t.length = 1 ∨ t.length = 2 ∨ t.length = 3 ∨ t.length = 4 ∨ t.length = 5 := by omega
  · exact go 1 h finC1
  · exact go 2 h finC2
  · exact go 3 h finC3
  · exact go 4 h finC4
  · exact go 5 h finC5
theorem okBall (n : Nat) (s : List Nat) (k f : Nat) (hn : n = 1 ∨ n = 2 ∨ n = 3) (hs : s ∈ rows n) (hk : k < 3) (hf : f < 2) : okB ((FlawB nxS).1 (lawStB s k f)) = true := by
  have mk : k ∈ [0, 1, 2] := by
    obtain rfl | rfl | rfl : k = 0 ∨ k = 1 ∨ k = 2 := by omega
    · decide
    · decide
    · decide
  have go : ∀ (n : Nat) (fs : List Nat), f ∈ fs → s ∈ rows n → ([0, 1, 2].all fun k => fs.all fun f => allB n k f) = true → okB ((FlawB nxS).1 (lawStB s k f)) = true := fun n fs hf hs h =>
    List.all_eq_true.mp (List.all_eq_true.mp (List.all_eq_true.mp h k mk) f hf) s hs
  obtain rfl | rfl : f = 0 ∨ f = 1 := by omega
  · rcases hn with rfl | rfl | rfl
    · exact go 1 [0, 1] (by decide) hs finB1
    · exact go 2 [0, 1] (by decide) hs finB2
    · exact go 3 [0] (by decide) hs finB3a
  · rcases hn with rfl | rfl | rfl
    · exact go 1 [0, 1] (by decide) hs finB1
    · exact go 2 [0, 1] (by decide) hs finB2
    · exact go 3 [1] (by decide) hs finB3b
theorem law_true (script : List Int) (h : script.length ≤ 63) : ∃ σ', (FlawA (FlawB FlawC.1).1).1 (scrSt script) = some (.ret (.bool true), σ') := by
  obtain ⟨n, s, k, f, hn, hs, hk, hf, e⟩ := finA_ok script h (FlawB FlawC.1).1
  rw [finA_eq, e, FlawB_then]
  obtain ⟨t, e2, h1, h5, hc⟩ := okB_some (okBall n s k f hn hs hk hf)
  rw [e2]
  exact okC t h1 h5 hc
theorem sslaw {G : GC} (L : L2 G) {n : Nat} (hn : 60 ≤ n) : SS G Dlaw false n (bodyOf (f1 111)) (FlawA (FlawB FlawC.1).1).1 := by
  have dm : CallOk G false n (.ref 56) Kint_divmod := (okint_divmod L (n := 44) (Nat.le_refl _)).mono (by omega)
  have dm' : CallOk G false 50 (.ref 56) Kint_divmod := (okint_divmod L (n := 44) (Nat.le_refl _)).mono (by omega)
  refine (FlawA _).2 G n L.toL1 (by omega) ((FlawB _).2 G n L.toL1 (by omega) ((ok_law_turns L.toL1 (n := 12) (Nat.le_refl _)).mono (by omega)) (FlawC.2 G n L.toL1 (by omega) ?_ ?_ dm ?_ ?_ ?_))
  · exact (ok_law_walk L.toL1 (n := 50) (by omega) dm').mono (by omega)
  · exact (ok_strcoll L.toL1 (n := 50) (by omega)).lift.mono (by omega)
  · exact (ok_law_run L.toL1 (n := 50) (by omega) dm').mono (by omega)
  · exact (okpretty_flags L.toL1 (n := 50) (by omega)).lift.mono (by omega)
  · exact (ok_law_names L.toL1 (n := 50) (by omega)).lift.mono (by omega)
end Mine
namespace Mine
theorem post_true {M : Model} {A : Around} {cd : Code} {s s₁ : Shared} {cw : ClaimW} {cl : PySem.Str → Option Addr} {mean : ExcName → Option Value} {args : List WData} {tabs : List (Addr × Addr)} (hT : TabsAt tabs s₁.heap) (hr : ∀ a x, cw.raises a x = false) (hp : cw.post args (.bool true) args = true)
    (h : codeAny M A cd (fun r s' => r = .ok (.ret (.bool true)) ∧ (∀ b o, (ghostOf s₁.heap tabs).get? b = some o → s'.heap.get? b = some o) ∧ s'.os = s₁.os ∧ AllBare s'.gens ∧ GrownAll tabs s'.heap) s) : codeAny M A cd (GoodWG cw cl mean args s₁) s :=
  codeAny_mono h fun r s' ⟨e, hk, hos, hg, hgr⟩ => by
    have keep : ∀ b o, b ∉ tabs.map (·.2) → s₁.heap.get? b = some o → s'.heap.get? b = some o := fun b o hb e => hk b o (ghost_ne e hb)
    have grown : ∀ b o, b ∈ tabs.map (·.2) → s₁.heap.get? b = some o → isCodeTable s₁.heap b ∧ o = tabObj #[] ∧ ∃ ps, s'.heap.get? b = some (tabObj ps) := fun b o hb e => by
      obtain ⟨q, hq, rfl⟩ := List.mem_map.mp hb
      have e2 := (hT q hq).2
      rw [e] at e2
      exact ⟨((hT q hq).1.tab (hT q hq).2).isCodeTable, Option.some.inj e2, hgr.get q hq⟩
    refine ⟨.inl ⟨_, _, _, e, hr args, .bool true, hp, fun _ => ⟨.nil, fun a ha => nomatch ha⟩⟩, ⟨fun b o e => ?_, fun b o e => ?_⟩, hos, hg⟩
    · by_cases hb : b ∈ tabs.map (·.2)
      · obtain ⟨ht, rfl, ps, hP⟩ := grown b o hb e
        exact .inr (.inl ⟨ht, rfl, #[], ps, rfl, by rw [Array.empty_append]; exact hP⟩)
      · exact .inl (keep b o hb e)
    · by_cases hb : b ∈ tabs.map (·.2)
      · obtain ⟨_, _, ps, hP⟩ := grown b o hb e
        exact ⟨_, hP⟩
      · exact ⟨o, keep b o hb e⟩
theorem vrs_ints {h : Heap} {B : Addr → Prop} : ∀ {vs : List Value} {ns : List Int}, IntsAre vs ns → VRs h B (ns.map .int) vs
  | _, _, .nil => .nil
  | _, _, .cons n t r => .cons .int (vrs_ints r)
theorem bm_of {p : Program} {loose : List PySem.Str} {mean : ExcName → Option Value} {mg mb : PySem.Str → Option Value} {g : Heap} (T : Top p loose mean mg mb g) : ∃ bm ob, mg "__builtins__" = some (.ref bm) ∧ bm ≠ builtinsNs ∧ bm ≠ mainGlobals ∧ g.get? bm = some ob ∧ ob.cls = .type "module" ∧ ob.dict = some builtinsNs ∧ ob.data = .plain := by
  obtain ⟨bm, ob, h1, h2, h3, h4, h5, h6⟩ := T.bmain
  refine ⟨bm, ob, h1, h2, fun e => ?_, h3, h4, h5, h6⟩
  obtain ⟨o, es, ep, ho, hd, _⟩ := T.g
  rw [← e, h3] at ho
  cases ho
  rw [h6] at hd
  cases hd
theorem law_walk {prog : Program} {w : World} {g h₁ : Heap} {p : Program} {loose : List PySem.Str} {mean : ExcName → Option Value} {mg mb : PySem.Str → Option Value} {L fa : Addr} {cd : Value} {nm : PySem.Str} {m cm : PySem.Str → Option Value} {s : Shared} {ad : Addr} {vs : List Value} {script : List Int}
    (hX : (hd.heap_39 w.params).In g) (hT : Top p loose mean mg mb g) (c1 : CodeHd g 41 37) (c2 : CodeHd g 34 30) (g37 : g.get? 37 = none) (g30 : g.get? 30 = none) (F' : Fr g L h₁ m) (n37 : h₁.get? 37 = some (tabObj #[])) (n30 : h₁.get? 30 = some (tabObj #[])) (l37 : 37 < L) (l30 : 30 < L)
    (hcell : Cl L (cellsFrom (L + 1) (f1 111).scope.names []) h₁ cm) (hl : g.PlainList ad vs.toArray) (hi : IntsAre vs script) (hlen : script.length ≤ 63) (hm : m "script" = some (.ref ad)) (hs : s.heap = h₁) (hg : s.gens = #[]) :
    wpAny (model prog w) (callerA.deeper (envOfC nm (f1 111).scope L fa cd)) (execs (bodyOf (f1 111)) (envOfC nm (f1 111).scope L fa cd)) (fun f s' => f = .ret (.bool true) ∧ (∀ b o, g.get? b = some o → s'.heap.get? b = some o) ∧ s'.os = s.os ∧ AllBare s'.gens ∧ GrownAll [(41, 37), (34, 30)] s'.heap) Nay s := by
  subst hs
  generalize hE : envOfC nm (f1 111).scope L fa cd = env
  have e1 : env.scope = Dlaw.scope := by rw [← hE]; rfl
  have e2 : env.globals = mainGlobals := by rw [← hE]; rfl
  have e3 : env.builtins = builtinsNs := by rw [← hE]; rfl
  have e4 : env.locals = L := by rw [← hE]; rfl
  have e5 : env.cells = cellsFrom (L + 1) (f1 111).scope.names [] := by rw [← hE]; rfl
  let G : GC := { prog := prog, w := w, K := K1 w.params, g := g, p := p, loose := loose, mg := mg, mb := mb, Tab := fun b => b = 37 ∨ b = 30, pl := fun b => if b = 37 then defPos dD else defPos dI, pq := fun b => if b = 37 then "_digits2int.<locals>.inner" else "_int2digits.<locals>.inner", st := fun b o => g.get? b = some o }
  have hG : G.Ok := ⟨hX, topRead_of hT, fun _ _ e => e⟩
  have L2G : L2 G := { ok := hG, K := ⟨w.params, rfl⟩, bm := bm_of hT, t37 := .inl rfl, p37 := by show (if (37 : Addr) = 37 then defPos dD else defPos dI) = _; rw [if_pos rfl], q37 := by show (if (37 : Addr) = 37 then ("_digits2int.<locals>.inner" : PySem.Str) else "_int2digits.<locals>.inner") = _; rw [if_pos rfl], h37 := c1, t30 := .inr rfl, p30 := by show (if (30 : Addr) = 37 then defPos dD else defPos dI) = _; rw [if_neg (by decide)], q30 := by show (if (30 : Addr) = 37 then ("_digits2int.<locals>.inner" : PySem.Str) else "_int2digits.<locals>.inner") = _; rw [if_neg (by decide)], h30 := c2 }
  have keysN : (env.cells.map Prod.fst).Nodup := by
    rw [e5, cellsFrom_keys]
    simp only [List.map_nil, List.append_nil]
    exact (List.reverse_perm _).symm.nodup ((List.Sublist.map _ List.filter_sublist).nodup (by decide +kernel : ((f1 111).scope.names.map Prod.fst).Nodup))
  have lg : ∀ b o, g.get? b = some o → b < L := fun b o e => Nat.lt_of_lt_of_le (Heap.lt_size e) F'.above
  have cabove : ∀ c ∈ env.cells, L < c.2 := fun c hc => hcell.above c.1 c.2 (by rw [e5] at hc; exact hc)
  have cis : ∀ c ∈ env.cells, s.heap.IsCell c.2 (cm c.1) := fun c hc => hcell.cell c.1 c.2 (by rw [← e5]; exact lookup_nodup keysN hc)
  have tlive : ∀ b, (b = 37 ∨ b = 30) → s.heap.get? b = some (tabObj #[]) ∧ b < L ∧ g.get? b = none := fun b t => by
    rcases t with rfl | rfl
    · exact ⟨n37, l37, g37⟩
    · exact ⟨n30, l30, g30⟩
  have nB : ∀ b o, g.get? b = some o → ¬ Bset env none G.Tab b := fun b o e q => by
    rcases q with q | ⟨c, hc, q⟩ | q | q
    · have := lg b o e; rw [q, e4] at this; exact Nat.lt_irrefl _ this
    · have h1 := lg b o e
      have h2 := cabove c hc
      rw [q] at h2
      exact Nat.lt_irrefl _ (Nat.lt_trans h1 h2)
    · cases q
    · rw [(tlive b q).2.2] at e; cases e
  have S : St G Dlaw env none G.Tab (scrSt script) s.heap := by
    refine ⟨⟨e1, e2, e3, by show (f1 111).scope.kind = _; decide +kernel, fun x hx => ?_, (fun x c h => nomatch h), (fun c h => nomatch h), (fun c h => nomatch h)⟩, fun b t => ⟨.inl (tlive b t).1⟩, fun b o e => ⟨F'.keep b o e, nB b o e⟩, fun b t => t, fun b q => ?_, fun t => ?_, fun c hc t => ?_, (fun a h => nomatch h), fun c hc => ⟨_, cis c hc⟩, fun x y c hx hy => ?_, m, by rw [e4]; exact F'.ns, fun i x a hx ha => ?_, (fun i l h => nomatch h)⟩
    · refine lookup_of_key ?_
      rw [e5, cellsFrom_keys]
      simp only [List.map_nil, List.append_nil, List.mem_reverse]
      exact List.mem_map.mpr ⟨(x, .cell), List.mem_filter.mpr ⟨kind_mem hx, rfl⟩, rfl⟩
    · rcases q with q | ⟨c, hc, q⟩ | q | q
      · obtain ⟨o, _, _, ho, _⟩ := F'.ns
        exact ⟨o, by rw [q, e4]; exact ho⟩
      · obtain ⟨o, ho, _⟩ := cis c hc; exact ⟨o, q ▸ ho⟩
      · cases q
      · exact ⟨_, (tlive b q).1⟩
    · have := (tlive _ t).2.1
      rw [e4] at this
      exact Nat.lt_irrefl _ this
    · exact Nat.lt_irrefl _ (Nat.lt_trans (cabove c hc) (tlive _ t).2.1)
    · refine name_of_addr (cs := env.cells) (by rw [e5]; exact hcell.apart) (mem_of_lookup hx) (mem_of_lookup hy)
    · match i, hx, ha with
      | 0, hx, ha =>
        cases hx; cases ha
        obtain ⟨o, ho⟩ := plain_live hl
        exact ⟨.ref ad, .inl ⟨by unfold Env.kindOf; rw [e1]; show (f1 111).scope.names.lookup ("script" : PySem.Str) = _; decide +kernel, hm⟩, .lst (plain_at hl fun o e => F'.keep _ o e) (nB ad o ho) (vrs_ints hi)⟩
      | i + 1, hx, ha =>
        have : (List.replicate 21 (none : Option AV))[i]? = some (some a) := ha
        rw [List.getElem?_replicate] at this
        split at this <;> cases this
  have R : Room 60 (callerA.deeper env) := ⟨rfl, by show 1 + claimMargin + 1 + 60 < recursionLimit; decide, by show 4 + 3 + 8 * 60 < cLine; decide⟩
  obtain ⟨σ', hF⟩ := law_true script hlen
  refine wpN ((sslaw L2G (Nat.le_refl 60)).run env (callerA.deeper env) s none G.Tab (scrSt script) _ _ R S hF) fun f s' q => ?_
  obtain ⟨oa', K, S', fr⟩ := q
  cases fr with
  | ret r =>
    cases r
    refine ⟨rfl, fun b o e => (S'.base b o e).1, K.ex.2, K.bare (by rw [hg]; exact .empty), ?_⟩
    have gr : ∀ b, G.Tab b → GrownAt b s'.heap := fun b t => by
      rcases (S'.tabOk b t).v with e | ⟨c, e, _⟩
      · exact ⟨_, e⟩
      · exact ⟨_, e⟩
    exact ⟨gr 37 (.inl rfl), gr 30 (.inr rfl), trivial⟩
end Mine
namespace Mine
theorem plain_of_well {P : Params} {h : Heap} {a : Addr} {xs : List PyData} {vs : Array Value} (W : Well P h (.ref a) (ofPy (.list xs))) (hl : h.IsList a vs) : h.PlainList a vs := by
  generalize hd : ofPy (PyData.list xs) = d at W
  cases W with
  | list h1 _ =>
    obtain ⟨o, ho, _, n, hd⟩ := hl
    rw [h1] at ho; cases ho; cases hd; exact ⟨_, h1⟩
  | _ => exact absurd hd (by unfold ofPy; exact fun h => nomatch h)
theorem ghost_plain {h : Heap} {tabs : List (Addr × Addr)} {a : Addr} {vs : Array Value} (hT : TabsAt tabs h) (x : h.PlainList a vs) : (ghostOf h tabs).PlainList a vs := by
  obtain ⟨n, ho⟩ := x
  exact ⟨n, ghost_get hT ho fun q => by cases q⟩
theorem cells_pair (L : Nat) : (cellsFrom (L + 1) (f1 111).scope.names []).Pairwise (fun x y => x.2 ≠ y.2) ∧ ∀ n c, (n, c) ∈ cellsFrom (L + 1) (f1 111).scope.names [] → L < c := by
  have x := cellsFrom_ok (f1 111).scope.names { objs := (List.replicate (L + 1) default).toArray } (L + 1) [] ⟨fun _ _ hm => (nomatch hm), List.Pairwise.nil⟩ (by simp)
  have e : ({ objs := (List.replicate (L + 1) default).toArray } : Heap).objs.size = L + 1 := by simp
  rw [e] at x
  exact ⟨x.apart, fun n c hm => (x.empty n c hm).2⟩
theorem law_holds : PySem.Challenge.rw_uq0006_01.Holds := hd (by
  k_fill
  intro w s₀ s₁ mg mb G Y fa o pm cd doc dV kV ho hd hcd hD hmg hg args vals as hpre hlay hrd hwl hlo
  have KX := km_in_of Y
  km_tabs Y
  have X := (Ground.X G).1
  have V := (Ground.X G).2
  refine Ground.open G ?_
  intro T B D TE TW
  try (refine guard_noD D (by decide +kernel) ?_; clear D)
  km_lay T hmg ho hd cd
  clear hmg
  wrow_args hpre hlay hrd hwl hlo
  all_goals (
    refine enter_call ?_
    w_top on
    refine post_true hT9 (fun _ _ => rfl) (by with_unfolding_all rfl) ?_
    w_call any ho hd hcd hD T F
    clear hd
    kn_ghosts F T
    k_drop
    rename Well _ _ _ _ => W9
    rename IntsAre _ _ => I9
    rename Heap.IsList s₁.heap _ _ => L9
    rename Frag.In _ _ => X9
    rename Top _ _ _ _ _ _ => T9
    rename Fr _ _ _ _ => F9
    rename News _ _ _ _ => N9
    rename CellsAre _ _ _ => C9
    rename CodeHd _ (41, 37).1 (41, 37).2 => c41
    rename CodeHd _ (34, 30).1 (34, 30).2 => c34
    rename _ < _ ∧ _ < _ => lt9
    rename ¬ (_ < _) => len9
    have pl := ghost_plain hT9 (plain_of_well W9 L9)
    have m37 := N9 (37, tabObj #[]) (by simp)
    have m30 := N9 (30, tabObj #[]) (by simp)
    have hcl := Cl.of_news (own := []) (fun p hp => N9 p (List.mem_append_left [(37, tabObj #[]), (30, tabObj #[])] hp)) C9 (cells_pair _).1 (cells_pair _).2
    refine wpAny_mono (law_walk X9 T9 c41 c34 m37.2.2 m30.2.2 F9 m37.1 m30.1 lt9.1 lt9.2 hcl pl I9 (by omega) rfl rfl hg) (fun f s' q => ?_) (fun _ _ q => q.elim)
    obtain ⟨rfl, q1, q2, q3, q4⟩ := q
    exact ⟨rfl, q1, q2, q3, q4⟩))
end Mine
theorem PySem.Challenge.cw_uq0006_01_holds : PySem.Challenge.rw_uq0006_01.Holds := by
  exact Mine.law_holds
