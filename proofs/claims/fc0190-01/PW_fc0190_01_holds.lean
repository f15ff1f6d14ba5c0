import PyProof.Rows.All
import Wide.All
import OpenK.AllK
import Wide.FinOn
import KE.KIntText
import KE.RegLcTurns
import PySem.Challenge.RW_fc0190_01
set_option Elab.async false
set_option autoImplicit false
section
open PySem PySem.W PySem.Calls PyProof.Rows
set_option autoImplicit false
set_option maxRecDepth 100000
namespace Mine

/-- what a value is, its token left out; texts as lists of signs; lists and tuples that nothing stores into, by their items -/
inductive V where
  | none
  | bool (b : Bool)
  | int (i : Int)
  | str (xs : List Nat)
  | ref (a : Addr)
  | oth (v : Value)
  | lst (xs : List V)
  | tup (xs : List V)
  | rcd (cls : String) (xs : List V)

abbrev Rd := Addr → Obj → Prop

mutual
inductive Is (rd : Rd) : Value → V → Prop
  | none : Is rd .none .none
  | bool (b : Bool) : Is rd (.bool b) (.bool b)
  | int (i : Int) (t : Tok) : Is rd (.int i t) (.int i)
  | str (x : Str) (t : Tok) : Is rd (.str x t) (.str x.cps.toList)
  | ref (a : Addr) : Is rd (.ref a) (.ref a)
  | oth (v : Value) : Is rd v (.oth v)
  | lst {a : Addr} {vs : List Value} {n : Nat} {xs : List V} : rd a { cls := .type "list", data := .seq vs.toArray n } → Are rd vs xs → Is rd (.ref a) (.lst xs)
  | tup {a : Addr} {vs : List Value} {n : Nat} {xs : List V} : rd a { cls := .type "tuple", data := .seq vs.toArray n } → Are rd vs xs → Is rd (.ref a) (.tup xs)
  | rcd {a : Addr} {cls : String} {vs : List Value} {xs : List V} : rd a { cls := .type cls, data := .fields vs.toArray } → Are rd vs xs → Is rd (.ref a) (.rcd cls xs)
inductive Are (rd : Rd) : List Value → List V → Prop
  | nil : Are rd [] []
  | cons {v : Value} {vs : List Value} {x : V} {xs : List V} : Is rd v x → Are rd vs xs → Are rd (v :: vs) (x :: xs)
end

mutual
theorem Is.mono {rd rd' : Rd} (h : ∀ a o, rd a o → rd' a o) : ∀ {v : Value} {x : V}, Is rd v x → Is rd' v x
  | _, _, .none => .none
  | _, _, .bool b => .bool b
  | _, _, .int i t => .int i t
  | _, _, .str x t => .str x t
  | _, _, .ref a => .ref a
  | _, _, .oth v => .oth v
  | _, _, .lst r e => .lst (h _ _ r) (Are.mono h e)
  | _, _, .tup r e => .tup (h _ _ r) (Are.mono h e)
  | _, _, .rcd r e => .rcd (h _ _ r) (Are.mono h e)
theorem Are.mono {rd rd' : Rd} (h : ∀ a o, rd a o → rd' a o) : ∀ {v : List Value} {x : List V}, Are rd v x → Are rd' v x
  | _, _, .nil => .nil
  | _, _, .cons a b => .cons (Is.mono h a) (Are.mono h b)
end

theorem is_none {rd : Rd} {v : Value} (h : Is rd v .none) : v = .none := by cases h; rfl
theorem is_bool {rd : Rd} {v : Value} {b : Bool} (h : Is rd v (.bool b)) : v = .bool b := by cases h; rfl
theorem is_int {rd : Rd} {v : Value} {i : Int} (h : Is rd v (.int i)) : ∃ t, v = .int i t := by cases h; exact ⟨_, rfl⟩
theorem is_str {rd : Rd} {v : Value} {xs : List Nat} (h : Is rd v (.str xs)) : ∃ t, v = .str ⟨xs.toArray⟩ t := by cases h; exact ⟨_, rfl⟩
theorem is_ref {rd : Rd} {v : Value} {a : Addr} (h : Is rd v (.ref a)) : v = .ref a := by cases h; rfl
theorem is_oth {rd : Rd} {v u : Value} (h : Is rd v (.oth u)) : v = u := by cases h; rfl
theorem is_lst {rd : Rd} {v : Value} {xs : List V} (h : Is rd v (.lst xs)) : ∃ a vs n, v = .ref a ∧ rd a { cls := .type "list", data := .seq vs.toArray n } ∧ Are rd vs xs := by
  cases h with | lst r e => exact ⟨_, _, _, rfl, r, e⟩
theorem is_tup {rd : Rd} {v : Value} {xs : List V} (h : Is rd v (.tup xs)) : ∃ a vs n, v = .ref a ∧ rd a { cls := .type "tuple", data := .seq vs.toArray n } ∧ Are rd vs xs := by
  cases h with | tup r e => exact ⟨_, _, _, rfl, r, e⟩
theorem is_rcd {rd : Rd} {v : Value} {c : String} {xs : List V} (h : Is rd v (.rcd c xs)) : ∃ a vs, v = .ref a ∧ rd a { cls := .type c, data := .fields vs.toArray } ∧ Are rd vs xs := by
  cases h with | rcd r e => exact ⟨_, _, rfl, r, e⟩
theorem mk_str {rd : Rd} (xs : List Nat) (t : Tok) : Is rd (.str ⟨xs.toArray⟩ t) (.str xs) := by
  have := Is.str (rd := rd) ⟨xs.toArray⟩ t
  simpa using this
theorem are_len {rd : Rd} : ∀ {vs : List Value} {xs : List V}, Are rd vs xs → vs.length = xs.length
  | _, _, .nil => rfl
  | _, _, .cons _ b => congrArg (· + 1) (are_len b)
theorem are_at {rd : Rd} : ∀ {vs : List Value} {xs : List V}, Are rd vs xs → ∀ {i : Nat} {x : V}, xs[i]? = some x → ∃ v, vs[i]? = some v ∧ Is rd v x
  | _, _, .nil, i, x, h => by simp at h
  | _, _, .cons a b, 0, x, h => by simp at h; subst h; exact ⟨_, rfl, a⟩
  | _, _, .cons a b, i + 1, x, h => by
    obtain ⟨v, h1, h2⟩ := are_at b (i := i) (x := x) (by simpa using h)
    exact ⟨v, by simpa using h1, h2⟩
theorem are_app {rd : Rd} : ∀ {vs us : List Value} {xs ys : List V}, Are rd vs xs → Are rd us ys → Are rd (vs ++ us) (xs ++ ys)
  | _, _, _, _, .nil, h => h
  | _, _, _, _, .cons a b, h => .cons a (are_app b h)
theorem are_set {rd : Rd} : ∀ {vs : List Value} {xs : List V}, Are rd vs xs → ∀ (i : Nat) {v : Value} {x : V}, Is rd v x → Are rd (vs.set i v) (xs.set i x)
  | _, _, .nil, i, _, _, _ => by simpa using Are.nil
  | _, _, .cons a b, 0, _, _, h => .cons h b
  | _, _, .cons a b, i + 1, _, _, h => .cons a (are_set b i h)

/-- an object that is stored into: a list, or an object of the program's own class with its attributes -/
inductive AO where
  | list (xs : List V)
  | inst (C d : Addr) (at_ : List (String × V))
  | raw (o : Obj)

abbrev Led := List (Addr × Obj)
abbrev Loc := List (String × V)

def rdOf (h0 : Heap) (fz : Led) : Rd := fun a o => (a, o) ∈ fz ∨ h0.get? a = some o
theorem rdOf_mono {h0 : Heap} {fz fz' : Led} (h : ∀ p ∈ fz, p ∈ fz') : ∀ a o, rdOf h0 fz a o → rdOf h0 fz' a o := fun _ _ e => e.imp (h _) id

inductive EsAre (rd : Rd) : List DictEntry → Loc → Prop
  | nil : EsAre rd [] []
  | cons {hs : Int} {x : String} {t : Tok} {v : Value} {u : V} {es : List DictEntry} {l : Loc} : Is rd v u → EsAre rd es l → EsAre rd ({ hash := hs, key := .str (Str.ofString x) t, val := v } :: es) ((x, u) :: l)
theorem EsAre.mono {rd rd' : Rd} (h : ∀ a o, rd a o → rd' a o) {es : List DictEntry} {l : Loc} (e : EsAre rd es l) : EsAre rd' es l := by
  induction e with
  | nil => exact .nil
  | cons a _ ih => exact .cons (a.mono h) ih

inductive Tr (rd : Rd) : Addr × AO → Addr × Obj → Prop
  | list {a : Addr} {vs : List Value} {n : Nat} {xs : List V} : Are rd vs xs → Tr rd (a, .list xs) (a, { cls := .type "list", data := .seq vs.toArray n })
  | inst {x C d : Addr} {es : List DictEntry} {n : Nat} {l : Loc} : rd x (instObj C d) → EsAre rd es l → Tr rd (x, .inst C d l) (d, dictOf es n)
  | raw {a : Addr} {o : Obj} : Tr rd (a, .raw o) (a, o)
theorem Tr.mono {rd rd' : Rd} (h : ∀ a o, rd a o → rd' a o) {p : Addr × AO} {q : Addr × Obj} (e : Tr rd p q) : Tr rd' p q := by
  cases e with
  | list a => exact .list (a.mono h)
  | inst a b => exact .inst (h _ _ a) (b.mono h)
  | raw => exact .raw

inductive All2 {α β : Type} (r : α → β → Prop) : List α → List β → Prop
  | nil : All2 r [] []
  | cons {a : α} {b : β} {l : List α} {l' : List β} : r a b → All2 r l l' → All2 r (a :: l) (b :: l')
theorem All2.mono {α β : Type} {r r' : α → β → Prop} (h : ∀ a b, r a b → r' a b) {l : List α} {l' : List β} (e : All2 r l l') : All2 r' l l' := by
  induction e with
  | nil => exact .nil
  | cons a _ ih => exact .cons (h _ _ a) ih

/-- what is known: locals by name, objects that are stored into -/
structure St where
  loc : Loc
  hp : List (Addr × AO)

/-- a frame: its around, the heap below it, its locals' place, its code; the frames below; what was made before it -/
structure Cx where
  prog : Program
  w : World
  h0 : Heap
  A : Around
  g : Heap
  L : Addr
  cn : Str
  cs : Scope
  a : Addr
  cd : Value
  outer : List Env
  frs : Led
  fz : Led
  e : Shared

abbrev Cx.env (c : Cx) : Env := envOf c.cn c.cs c.L c.a c.cd
def likeSlots (p q : Addr × Obj) : Prop := p.1 = q.1 ∧ ∃ sl, p.2 = { q.2 with slots := sl }
def LocIs (rd : Rd) (l : Loc) (m : Str → Option Value) : Prop := ∀ p ∈ l, ∃ v, m (Str.ofString p.1) = some v ∧ Is rd v p.2

structure RelW (c : Cx) (σ : St) (tm : List (Value × V)) (s : Shared) (m : Str → Option Value) (muts froz frs : Led) : Prop where
  gens : s.gens = c.e.gens
  drawn : s.drawn = c.e.drawn
  os : s.os = c.e.os
  fr : Fr c.g c.L s.heap m
  nw : News c.g c.L s.heap (muts ++ froz ++ frs)
  nd : ((muts ++ froz ++ frs).map (·.1)).Nodup
  fz : ∀ p ∈ c.fz, p ∈ froz
  frs : All2 likeSlots frs c.frs
  loc : LocIs (rdOf c.h0 froz) σ.loc m
  ln : (σ.loc.map (·.1)).Nodup
  hp : All2 (Tr (rdOf c.h0 froz)) σ.hp muts
  tm : ∀ p ∈ tm, Is (rdOf c.h0 froz) p.1 p.2
def Rel (c : Cx) (σ : St) (tm : List (Value × V)) (s : Shared) : Prop := ∃ m muts froz frs, RelW c σ tm s m muts froz frs

/-- an exception on its way -/
def ExcKind (o : Obj) (k : Value × Value) : Prop := o.cls = k.1 ∧ ∀ vs, o.data = .fields vs → vs[2]? = some k.2
def Exc (g : Heap) (L : Addr) (news : Led) (e : Addr) (cls : Value × Value) (h : Heap) : Prop :=
  ∃ oe vs, h.get? e = some oe ∧ ExcKind oe cls ∧ oe.data = .fields vs ∧ 5 < vs.size ∧ g.get? e = none ∧ e ≠ L ∧ e ∉ news.map (·.1) ∧
    (vs[1]? = some .none ∨ ∃ T oT ts fl, vs[1]? = some (.ref T) ∧ T ≠ e ∧ h.get? T = some oT ∧ oT.data = .fields ts ∧ ts[3]? = some fl ∧ g.get? T = none ∧ T ≠ L ∧ T ∉ news.map (·.1))
def RelX (c : Cx) (σ : St) (e : Addr) (cls : Value × Value) (s : Shared) : Prop :=
  ∃ m muts froz frs, RelW c σ [] s m muts froz frs ∧ Exc c.g c.L (muts ++ froz ++ frs) e cls s.heap

/-- what holds of the whole text: its written part, its globals, its built-in names -/
structure Gl (prog : Program) (K : Frag) (mg mb : Str → Option Value) (h0 : Heap) : Prop where
  K : K.In h0
  g : h0.Ns mainGlobals mg
  b : h0.Ns builtinsNs mb
  nolimit : h0.NoLimit
  boot : ∀ x : Str, x ≠ "__name__" → mb x = bootBuiltins x

structure Cx.Ok (c : Cx) : Prop where
  fn : c.cs.kind = .function
  stays : ∀ b o, c.h0.get? b = some o → c.g.get? b = some o
  frames : c.A.frames = some (c.env :: c.outer)
  below : All2 (fun (env : Env) (q : Addr × Obj) => env.scope.kind ≠ .module ∧ env.frame = some q.1 ∧ ∀ vs, q.2.data ≠ .fields vs) c.outer c.frs
  code : ∃ a o vs, c.cd = .ref a ∧ c.h0.get? a = some o ∧ o.data = .fields vs

section
variable {c : Cx} {σ : St} {tm : List (Value × V)} {s : Shared} {m : Str → Option Value} {muts froz frs : Led}

theorem RelW.rel (w : RelW c σ tm s m muts froz frs) : Rel c σ tm s := ⟨m, muts, froz, frs, w⟩

theorem RelW.step (w : RelW c σ tm s m muts froz frs) {h' : Heap} {k : Nat} (F : Fr c.g c.L h' m) (N : News c.g c.L h' (muts ++ froz ++ frs)) : RelW c σ tm { s with heap := h', toks := k } m muts froz frs :=
  ⟨w.gens, w.drawn, w.os, F, N, w.nd, w.fz, w.frs, w.loc, w.ln, w.hp, w.tm⟩
theorem RelW.tok (w : RelW c σ tm s m muts froz frs) {k : Nat} : RelW c σ tm { s with toks := k } m muts froz frs := w.step w.fr w.nw
theorem RelW.push (w : RelW c σ tm s m muts froz frs) {v : Value} {x : V} (h : Is (rdOf c.h0 froz) v x) : RelW c σ ((v, x) :: tm) s m muts froz frs :=
  { w with tm := List.forall_mem_cons.mpr ⟨h, w.tm⟩ }
theorem RelW.pop (w : RelW c σ tm s m muts froz frs) {tm' : List (Value × V)} (h : ∀ p ∈ tm', p ∈ tm) : RelW c σ tm' s m muts froz frs :=
  { w with tm := fun p hp => w.tm p (h p hp) }
theorem RelW.stays (_w : RelW c σ tm s m muts froz frs) (ok : c.Ok) : ∀ b o, c.h0.get? b = some o → s.heap.get? b = some o := fun b o e => _w.fr.keep b o (ok.stays b o e)

/-- a new object that nothing stores into -/
theorem RelW.froze (w : RelW c σ tm s m muts froz frs) {h' : Heap} {k : Nat} {D : Addr} {o : Obj} (F : Fr c.g c.L h' m) (N : News c.g c.L h' ((D, o) :: (muts ++ froz ++ frs))) (hn : ∀ q ∈ muts ++ froz ++ frs, q.1 ≠ D) :
    RelW c σ tm { s with heap := h', toks := k } m muts ((D, o) :: froz) frs := by
  have sub : ∀ p ∈ froz, p ∈ (D, o) :: froz := fun p hp => .tail _ hp
  have mm := rdOf_mono (h0 := c.h0) sub
  refine ⟨w.gens, w.drawn, w.os, F, fun p hp => N p ?_, ?_, fun p hp => .tail _ (w.fz p hp), w.frs, fun p hp => ?_, w.ln, w.hp.mono fun _ _ e => e.mono mm, fun p hp => (w.tm p hp).mono mm⟩
  · simp only [List.mem_append, List.mem_cons] at hp ⊢
    rcases hp with (h | rfl | h) | h
    · exact .inr (.inl (.inl h))
    · exact .inl rfl
    · exact .inr (.inl (.inr h))
    · exact .inr (.inr h)
  · have := w.nd
    have hD : D ∉ (muts ++ froz ++ frs).map (·.1) := fun q => by
      obtain ⟨p, hp, e⟩ := List.mem_map.mp q
      exact hn p hp e
    simp only [List.map_append, List.map_cons, List.append_assoc, List.cons_append] at this hD ⊢
    refine (List.perm_middle (l₁ := muts.map (·.1))).nodup_iff.mpr (List.nodup_cons.mpr ⟨?_, this⟩)
    simpa using hD
  · obtain ⟨v, a, b⟩ := w.loc p hp
    exact ⟨v, a, b.mono mm⟩

theorem RelW.froze' (w : RelW c σ tm s m muts froz frs) {h' : Heap} {k : Nat} {o : Obj} (F : Fr c.g c.L h' m) (N : News c.g c.L h' ((s.heap.objs.size, o) :: (muts ++ froz ++ frs))) :
    RelW c σ tm { s with heap := h', toks := k } m muts ((s.heap.objs.size, o) :: froz) frs :=
  w.froze F N fun q hq => Nat.ne_of_lt (Heap.lt_size (w.nw q hq).1)

theorem RelW.track (w : RelW c σ tm s m muts froz frs) {h' : Heap} {k : Nat} {D : Addr} {o : Obj} {p : Addr × AO} (F : Fr c.g c.L h' m) (N : News c.g c.L h' ((D, o) :: (muts ++ froz ++ frs))) (hn : ∀ q ∈ muts ++ froz ++ frs, q.1 ≠ D)
    (ht : Tr (rdOf c.h0 froz) p (D, o)) : RelW c { σ with hp := p :: σ.hp } tm { s with heap := h', toks := k } m ((D, o) :: muts) froz frs := by
  refine ⟨w.gens, w.drawn, w.os, F, N, ?_, w.fz, w.frs, w.loc, w.ln, .cons ht w.hp, w.tm⟩
  have hD : D ∉ (muts ++ froz ++ frs).map (·.1) := fun q => by
    obtain ⟨p, hp, e⟩ := List.mem_map.mp q
    exact hn p hp e
  exact List.nodup_cons.mpr ⟨hD, w.nd⟩
end

end Mine
end
section
open PySem PySem.W PySem.Calls PyProof.Rows
set_option autoImplicit false
set_option maxRecDepth 100000
namespace Mine

abbrev Post := V → St → Prop
abbrev RPost := (Value × Value) → St → Prop
def ExcE (c : Cx) (R : RPost) : Value → Shared → Prop := fun v s' => ∃ e cls σ', v = .ref e ∧ RelX c σ' e cls s' ∧ R cls σ'
def HE (c : Cx) (σ : St) (e : Expr) (Q : Post) (R : RPost) : Prop :=
  ∀ tm s, Rel c σ tm s → wpAny (model c.prog c.w) c.A (eval e c.env) (fun v s' => ∃ x σ', Rel c σ' ((v, x) :: tm) s' ∧ Q x σ') (ExcE c R) s
def HO1 (c : Cx) (σ : St) (f : Value → Sem Value) (x : V) (Q : Post) (R : RPost) : Prop :=
  ∀ u tm s, Rel c σ ((u, x) :: tm) s → wpAny (model c.prog c.w) c.A (f u) (fun v s' => ∃ x σ', Rel c σ' ((v, x) :: tm) s' ∧ Q x σ') (ExcE c R) s
def HO2 (c : Cx) (σ : St) (f : Value → Value → Sem Value) (x y : V) (Q : Post) (R : RPost) : Prop :=
  ∀ u₁ u₂ tm s, Rel c σ ((u₂, y) :: (u₁, x) :: tm) s → wpAny (model c.prog c.w) c.A (f u₁ u₂) (fun v s' => ∃ x σ', Rel c σ' ((v, x) :: tm) s' ∧ Q x σ') (ExcE c R) s
def HOs (c : Cx) (σ : St) (f : List Value → Sem Value) (xs : List V) (Q : Post) (R : RPost) : Prop :=
  ∀ us tm s, Rel c σ (us.zip xs ++ tm) s → us.length = xs.length → wpAny (model c.prog c.w) c.A (f us) (fun v s' => ∃ x σ', Rel c σ' ((v, x) :: tm) s' ∧ Q x σ') (ExcE c R) s
def HB (c : Cx) (σ : St) (f : Value → Sem Bool) (x : V) (Q : Bool → St → Prop) (R : RPost) : Prop :=
  ∀ u tm s, Rel c σ ((u, x) :: tm) s → wpAny (model c.prog c.w) c.A (f u) (fun b s' => ∃ σ', Rel c σ' tm s' ∧ Q b σ') (ExcE c R) s
def HT (c : Cx) (σ : St) (e : Expr) (Q : Bool → St → Prop) (R : RPost) : Prop :=
  ∀ tm s, Rel c σ tm s → wpAny (model c.prog c.w) c.A (isTrue e c.env (eval e c.env)) (fun b s' => ∃ σ', Rel c σ' tm s' ∧ Q b σ') (ExcE c R) s
def HAll (c : Cx) (σ : St) (op : BoolOp) (es : List Expr) (Q : Bool → St → Prop) (R : RPost) : Prop :=
  ∀ tm s, Rel c σ tm s → wpAny (model c.prog c.w) c.A (allTrue op es c.env) (fun b s' => ∃ σ', Rel c σ' tm s' ∧ Q b σ') (ExcE c R) s
/-- several in a row, as a display or a call has them -/
def HEs (c : Cx) (σ : St) (pos : Pos) (es : List Expr) (Q : List V → St → Prop) (R : RPost) : Prop :=
  ∀ tm s, Rel c σ tm s → wpAny (model c.prog c.w) c.A (spliced (backTo pos (starEach es c.env))) (fun vs s' => ∃ xs σ', Rel c σ' (vs.zip xs ++ tm) s' ∧ vs.length = xs.length ∧ Q xs σ') (ExcE c R) s

inductive Fl where
  | next | brk | cont
  | ret (x : V)
def FlRel (c : Cx) (σ : St) : Flow → Fl → Shared → Prop
  | .next, .next, s => Rel c σ [] s
  | .brk, .brk, s => Rel c σ [] s
  | .cont, .cont, s => Rel c σ [] s
  | .ret v, .ret x, s => Rel c σ [(v, x)] s
  | _, _, _ => False
def HS1 (c : Cx) (σ : St) (st : Stmt) (Q : Fl → St → Prop) (R : RPost) : Prop :=
  ∀ s, Rel c σ [] s → wpAny (model c.prog c.w) c.A (exec st c.env) (fun f s' => ∃ F σ', FlRel c σ' f F s' ∧ Q F σ') (ExcE c R) s
def HS (c : Cx) (σ : St) (ss : List Stmt) (Q : Fl → St → Prop) (R : RPost) : Prop :=
  ∀ s, Rel c σ [] s → wpAny (model c.prog c.w) c.A (execs ss c.env) (fun f s' => ∃ F σ', FlRel c σ' f F s' ∧ Q F σ') (ExcE c R) s

def Gb (h0 : Heap) (x : String) (v : Value) : Prop := ∃ mg, h0.Ns mainGlobals mg ∧ mg (Str.ofString x) = some v
def Bt (h0 : Heap) (x : String) (v : Value) : Prop := ∃ mg mb, h0.Ns mainGlobals mg ∧ mg (Str.ofString x) = none ∧ h0.Ns builtinsNs mb ∧ mb (Str.ofString x) = some v

/-- a local turns, or is new -/
inductive SetL (x : String) (v : V) : Loc → Loc → Prop
  | head {u : V} {r : Loc} : SetL x v ((x, u) :: r) ((x, v) :: r)
  | tail {p : String × V} {r r' : Loc} : SetL x v r r' → SetL x v (p :: r) (p :: r')
def SetN (x : String) (v : V) (l l' : Loc) : Prop := SetL x v l l' ∨ (l' = (x, v) :: l ∧ x ∉ l.map (·.1))
theorem SetL.keys {x : String} {v : V} {l l' : Loc} (h : SetL x v l l') : l'.map (·.1) = l.map (·.1) := by
  induction h with
  | head => rfl
  | tail _ ih => rw [List.map_cons, List.map_cons, ih]
theorem SetL.mem {x : String} {v : V} {l l' : Loc} (h : SetL x v l l') : (l.map (·.1)).Nodup → ∀ p ∈ l', p = (x, v) ∨ (p ∈ l ∧ p.1 ≠ x) := by
  induction h with
  | head =>
    intro nd p hp
    rw [List.map_cons, List.nodup_cons] at nd
    rcases List.mem_cons.mp hp with rfl | hp
    · exact .inl rfl
    · exact .inr ⟨.tail _ hp, fun e => nd.1 (by have h9 := List.mem_map_of_mem (f := fun q : String × V => q.1) hp; simp only [e] at h9; exact h9)⟩
  | @tail q r r' h ih =>
    intro nd p hp
    rw [List.map_cons, List.nodup_cons] at nd
    rcases List.mem_cons.mp hp with rfl | hp
    · refine .inr ⟨.head _, fun e => nd.1 ?_⟩
      have : x ∈ r'.map (·.1) := by
        clear ih nd
        induction h with
        | head => simp
        | tail _ ih => simp [ih]
      rw [h.keys] at this
      exact e ▸ this
    · exact (ih nd.2 p hp).imp id fun z => ⟨.tail _ z.1, z.2⟩
theorem SetN.mem {x : String} {v : V} {l l' : Loc} (h : SetN x v l l') (nd : (l.map (·.1)).Nodup) : (∀ p ∈ l', p = (x, v) ∨ (p ∈ l ∧ p.1 ≠ x)) ∧ (l'.map (·.1)).Nodup := by
  rcases h with h | ⟨rfl, hn⟩
  · exact ⟨h.mem nd, h.keys ▸ nd⟩
  · refine ⟨fun p hp => (List.mem_cons.mp hp).imp id fun q => ⟨q, fun e => hn (e ▸ List.mem_map_of_mem q)⟩, ?_⟩
    rw [List.map_cons]
    exact List.nodup_cons.mpr ⟨hn, nd⟩

theorem ofString_inj {a b : String} (h : Str.ofString a = Str.ofString b) : a = b := by
  rw [Str.ofString_eq_toList, Str.ofString_eq_toList] at h
  have h1 : a.toList.map Char.toNat = b.toList.map Char.toNat := by simpa using h
  have h2 : a.toList = b.toList := List.map_inj_right (fun x y e => by
    have : x.val = y.val := UInt32.toNat_inj.mp e
    exact Char.ext this) |>.mp h1
  exact String.toList_inj.mp h2

section
variable {c : Cx} {σ : St} {Q : Post} {R : RPost}

theorem HE.mono {e : Expr} {Q' : Post} {R' : RPost} (h : HE c σ e Q R) (hQ : ∀ x σ', Q x σ' → Q' x σ') (hR : ∀ v σ', R v σ' → R' v σ') : HE c σ e Q' R' :=
  fun tm s r => wpAny_mono (h tm s r) (fun _ _ ⟨x, σ', a, b⟩ => ⟨x, σ', a, hQ _ _ b⟩) fun _ _ ⟨e, k, σ', a, b, d⟩ => ⟨e, k, σ', a, b, hR _ _ d⟩

/-- a step that makes a value alone -/
theorem val_step {v : Value} {x : V} {tm : List (Value × V)} {s : Shared} {k : Nat} (r : Rel c σ tm s) (h : ∀ rd, Is rd v x) (q : Q x σ) : ∃ x σ', Rel c σ' ((v, x) :: tm) { s with toks := k } ∧ Q x σ' := by
  obtain ⟨m, mu, fz, fr, w⟩ := r
  exact ⟨x, σ, (w.tok.push (h _)).rel, q⟩
theorem val_step0 {v : Value} {x : V} {tm : List (Value × V)} {s : Shared} (r : Rel c σ tm s) (h : ∀ rd, Is rd v x) (q : Q x σ) : ∃ x σ', Rel c σ' ((v, x) :: tm) s ∧ Q x σ' := by
  obtain ⟨m, mu, fz, fr, w⟩ := r
  exact ⟨x, σ, (w.push (h _)).rel, q⟩
theorem Rel.drop1 {p : Value × V} {tm : List (Value × V)} {s : Shared} (r : Rel c σ (p :: tm) s) : Rel c σ tm s := by
  obtain ⟨m, mu, fz, fr, w⟩ := r
  exact (w.pop fun _ h => .tail _ h).rel
theorem Rel.drop2 {p q : Value × V} {tm : List (Value × V)} {s : Shared} (r : Rel c σ (p :: q :: tm) s) : Rel c σ tm s := r.drop1.drop1
theorem Rel.at0 {p : Value × V} {tm : List (Value × V)} {s : Shared} (r : Rel c σ (p :: tm) s) : ∃ rd, Is rd p.1 p.2 := by
  obtain ⟨m, mu, fz, fr, w⟩ := r
  exact ⟨_, w.tm _ (.head _)⟩
theorem Rel.at1 {p q : Value × V} {tm : List (Value × V)} {s : Shared} (r : Rel c σ (q :: p :: tm) s) : ∃ rd, Is rd p.1 p.2 := r.drop1.at0

theorem HE_int {i : Int} {k : Nat} {pos : Pos} (q : Q (.int i) σ) : HE c σ (.Constant (.int i) k pos) Q R :=
  fun _ _ r => wpAny_Constant_int (val_step r (fun _ => .int _ _) q)
theorem HE_str {x : Str} {k : Nat} {pos : Pos} (q : Q (.str x.cps.toList) σ) : HE c σ (.Constant (.str x) k pos) Q R :=
  fun _ _ r => wpAny_mkText (val_step r (fun _ => .str _ _) q)
theorem HE_bool {b : Bool} {k : Nat} {pos : Pos} (q : Q (.bool b) σ) : HE c σ (.Constant (.bool b) k pos) Q R :=
  fun _ _ r => wpAny_pure (val_step0 r (fun _ => .bool _) q)
theorem HE_none {k : Nat} {pos : Pos} (q : Q .none σ) : HE c σ (.Constant .none k pos) Q R :=
  fun _ _ r => wpAny_pure (val_step0 r (fun _ => .none) q)

theorem HE_local {x : String} {pos : Pos} {v : V} (hl : (x, v) ∈ σ.loc) (q : Q v σ) (hk : c.cs.kind = .function) (hx : c.env.kindOf (Str.ofString x) = some .local)
    (hd : (Str.ofString x == ("__debug__" : Str)) = false) : HE c σ (.Name (Str.ofString x) pos) Q R := by
  intro tm s r
  obtain ⟨m, mu, fz, fr, w⟩ := r
  obtain ⟨u, hu, hi⟩ := w.loc _ hl
  exact ld w.fr hu ⟨v, σ, (w.push hi).rel, q⟩ hk hx hd
theorem HE_global {x : String} {pos : Pos} {v : Value} {y : V} (ok : c.Ok) (hg : Gb c.h0 x v) (hi : Is (rdOf c.h0 []) v y) (q : Q y σ) (hx : c.env.kindOf (Str.ofString x) = some .globalImplicit)
    (hd : (Str.ofString x == ("__debug__" : Str)) = false) : HE c σ (.Name (Str.ofString x) pos) Q R := by
  intro tm s r
  obtain ⟨m, mu, fz, fr, w⟩ := r
  obtain ⟨mg, hg, e⟩ := hg
  exact ld_global_at w.fr (hg.keeps ok.stays) e ⟨y, σ, (w.push (hi.mono fun a o h => h.elim (fun q => nomatch q) .inr)).rel, q⟩ ok.fn hx hd
theorem HE_builtin {x : String} {pos : Pos} {v : Value} (ok : c.Ok) (hg : Bt c.h0 x v) (q : Q (.oth v) σ) (hx : c.env.kindOf (Str.ofString x) = some .globalImplicit)
    (hd : (Str.ofString x == ("__debug__" : Str)) = false) : HE c σ (.Name (Str.ofString x) pos) Q R := by
  intro tm s r
  obtain ⟨m, mu, fz, fr, w⟩ := r
  obtain ⟨mg, mb, hg, e, hb, e'⟩ := hg
  exact ld_builtin_at w.fr (hg.keeps ok.stays) e (hb.keeps ok.stays) e' ⟨.oth v, σ, (w.push (.oth _)).rel, q⟩ ok.fn hx hd

theorem HE_bin {l r : Expr} {op : Operator} {pos : Pos} (h : HE c σ l (fun x σ₁ => HE c σ₁ r (fun y σ₂ => HO2 c σ₂ (binaryOp op) x y Q R) R) R) : HE c σ (.BinOp l op r pos) Q R :=
  fun tm s hr => wpAny_BinOp (wpAny_mono (h tm s hr) (fun _ _ ⟨_, _, hr₁, h₁⟩ => wpAny_mono (h₁ _ _ hr₁) (fun _ _ ⟨_, _, hr₂, h₂⟩ => h₂ _ _ _ _ hr₂) fun _ _ x => x) fun _ _ x => x)
theorem HE_cmp {l r : Expr} {op : CmpOp} {pos : Pos} (h : HE c σ l (fun x σ₁ => HE c σ₁ r (fun y σ₂ => HO2 c σ₂ (compareOp op) x y Q R) R) R) (hm : behindInMarks op r = false) : HE c σ (.Compare l [op] [r] pos) Q R :=
  fun tm s hr => wpAny_Compare1 (wpAny_mono (h tm s hr) (fun _ _ ⟨_, _, hr₁, h₁⟩ => wpAny_mono (h₁ _ _ hr₁) (fun _ _ ⟨_, _, hr₂, h₂⟩ => h₂ _ _ _ _ hr₂) fun _ _ x => x) fun _ _ x => x) hm
theorem HT_cmp {l r : Expr} {op : CmpOp} {pos : Pos} {Q : Bool → St → Prop} (h : HE c σ l (fun x σ₁ => HE c σ₁ r (fun y σ₂ => HO2 c σ₂ (compareOp op) x y (fun z σ₃ => HB c σ₃ truthy z Q R) R) R) R) (hm : behindInMarks op r = false) :
    HT c σ (.Compare l [op] [r] pos) Q R :=
  fun tm s hr => wpAny_isTrue_Compare1 (wpAny_mono (h tm s hr) (fun _ _ ⟨_, _, hr₁, h₁⟩ => wpAny_mono (h₁ _ _ hr₁) (fun _ _ ⟨_, _, hr₂, h₂⟩ => wpAny_mono (h₂ _ _ _ _ hr₂) (fun _ _ ⟨_, _, hr₃, h₃⟩ => h₃ _ _ _ hr₃) fun _ _ x => x) fun _ _ x => x) fun _ _ x => x) hm

theorem HB_bool {b : Bool} {Q : Bool → St → Prop} (q : Q b σ) : HB c σ truthy (.bool b) Q R := by
  intro u tm s r
  obtain ⟨rd, h⟩ := r.at0
  cases is_bool h
  exact wpAny_truthy_bool ⟨σ, r.drop1, q⟩

end
end Mine
end
section
open PySem PySem.W PySem.Calls PyProof.Rows
set_option autoImplicit false
set_option maxRecDepth 100000
namespace Mine
section
variable {c : Cx} {σ : St} {Q : Post} {R : RPost} {a b : Int} {xs ys : List Nat}

theorem two_ints {a b : Int} {u₁ u₂ : Value} {tm : List (Value × V)} {s : Shared} (r : Rel c σ ((u₂, .int b) :: (u₁, .int a) :: tm) s) : ∃ t₁ t₂, u₁ = .int a t₁ ∧ u₂ = .int b t₂ := by
  obtain ⟨_, h2⟩ := r.at0
  obtain ⟨_, h1⟩ := r.at1
  obtain ⟨t2, e2⟩ := is_int h2
  obtain ⟨t1, e1⟩ := is_int h1
  exact ⟨t1, t2, e1, e2⟩
theorem two_strs {xs ys : List Nat} {u₁ u₂ : Value} {tm : List (Value × V)} {s : Shared} (r : Rel c σ ((u₂, .str ys) :: (u₁, .str xs) :: tm) s) : ∃ t₁ t₂, u₁ = .str ⟨xs.toArray⟩ t₁ ∧ u₂ = .str ⟨ys.toArray⟩ t₂ := by
  obtain ⟨_, h2⟩ := r.at0
  obtain ⟨_, h1⟩ := r.at1
  obtain ⟨t2, e2⟩ := is_str h2
  obtain ⟨t1, e1⟩ := is_str h1
  exact ⟨t1, t2, e1, e2⟩

theorem HO_add_int (q : Q (.int (a + b)) σ) : HO2 c σ (binaryOp .Add) (.int a) (.int b) Q R := by
  intro _ _ tm s r; obtain ⟨_, _, rfl, rfl⟩ := two_ints r; exact P.add_int (val_step r.drop2 (fun _ => .int _ _) q)
theorem HO_iadd_int (q : Q (.int (a + b)) σ) : HO2 c σ (inplaceOp .Add) (.int a) (.int b) Q R := by
  intro _ _ tm s r; obtain ⟨_, _, rfl, rfl⟩ := two_ints r; exact P.iadd_int (val_step r.drop2 (fun _ => .int _ _) q)
theorem HO_sub_int (q : Q (.int (a - b)) σ) : HO2 c σ (binaryOp .Sub) (.int a) (.int b) Q R := by
  intro _ _ tm s r; obtain ⟨_, _, rfl, rfl⟩ := two_ints r; exact P.sub_int (val_step r.drop2 (fun _ => .int _ _) q)
theorem HO_isub_int (q : Q (.int (a - b)) σ) : HO2 c σ (inplaceOp .Sub) (.int a) (.int b) Q R := by
  intro _ _ tm s r; obtain ⟨_, _, rfl, rfl⟩ := two_ints r; exact P.isub_int (val_step r.drop2 (fun _ => .int _ _) q)
theorem HO_eq_int (q : Q (.bool (decide (a = b))) σ) : HO2 c σ (compareOp .Eq) (.int a) (.int b) Q R := by
  intro _ _ tm s r; obtain ⟨_, _, rfl, rfl⟩ := two_ints r; exact P.eq_int (val_step0 r.drop2 (fun _ => .bool _) q)
theorem HO_ne_int (q : Q (.bool (decide (a ≠ b))) σ) : HO2 c σ (compareOp .NotEq) (.int a) (.int b) Q R := by
  intro _ _ tm s r; obtain ⟨_, _, rfl, rfl⟩ := two_ints r
  refine P.ne_int ?_
  have : (a != b) = decide (a ≠ b) := by by_cases h : a = b <;> simp [h]
  rw [this]
  exact val_step0 r.drop2 (fun _ => .bool _) q
theorem HO_lt_int (q : Q (.bool (decide (a < b))) σ) : HO2 c σ (compareOp .Lt) (.int a) (.int b) Q R := by
  intro _ _ tm s r; obtain ⟨_, _, rfl, rfl⟩ := two_ints r; exact P.lt_int (val_step0 r.drop2 (fun _ => .bool _) q)
theorem HO_le_int (q : Q (.bool (decide (a ≤ b))) σ) : HO2 c σ (compareOp .LtE) (.int a) (.int b) Q R := by
  intro _ _ tm s r; obtain ⟨_, _, rfl, rfl⟩ := two_ints r; exact P.le_int (val_step0 r.drop2 (fun _ => .bool _) q)
theorem HO_gt_int (q : Q (.bool (decide (a > b))) σ) : HO2 c σ (compareOp .Gt) (.int a) (.int b) Q R := by
  intro _ _ tm s r; obtain ⟨_, _, rfl, rfl⟩ := two_ints r; exact P.gt_int (val_step0 r.drop2 (fun _ => .bool _) q)
theorem HO_ge_int (q : Q (.bool (decide (a ≥ b))) σ) : HO2 c σ (compareOp .GtE) (.int a) (.int b) Q R := by
  intro _ _ tm s r; obtain ⟨_, _, rfl, rfl⟩ := two_ints r; exact P.ge_int (val_step0 r.drop2 (fun _ => .bool _) q)
theorem HO_eq_str (q : Q (.bool (decide (xs = ys))) σ) : HO2 c σ (compareOp .Eq) (.str xs) (.str ys) Q R := by
  intro _ _ tm s r; obtain ⟨_, _, rfl, rfl⟩ := two_strs r
  refine P.eq_str ?_
  have : (xs.toArray.toList == ys.toArray.toList) = decide (xs = ys) := by by_cases h : xs = ys <;> simp [h]
  rw [this]
  exact val_step0 r.drop2 (fun _ => .bool _) q
theorem HO_ne_str (q : Q (.bool (decide (xs ≠ ys))) σ) : HO2 c σ (compareOp .NotEq) (.str xs) (.str ys) Q R := by
  intro _ _ tm s r; obtain ⟨_, _, rfl, rfl⟩ := two_strs r
  refine P.ne_str ?_
  have : (xs.toArray.toList != ys.toArray.toList) = decide (xs ≠ ys) := by by_cases h : xs = ys <;> simp [h]
  rw [this]
  exact val_step0 r.drop2 (fun _ => .bool _) q
theorem HO_in_one {k : Nat} (q : Q (.bool (decide (k ∈ xs))) σ) : HO2 c σ (compareOp .In) (.str [k]) (.str xs) Q R := by
  intro _ _ tm s r; obtain ⟨_, _, rfl, rfl⟩ := two_strs r
  refine P.in_str ?_
  rw [show (⟨[k].toArray⟩ : Str) = ⟨#[k]⟩ from rfl, StrLaws.found_one]
  exact val_step0 r.drop2 (fun _ => .bool _) (by simpa using q)
theorem HO_notin_one {k : Nat} (q : Q (.bool (decide (k ∉ xs))) σ) : HO2 c σ (compareOp .NotIn) (.str [k]) (.str xs) Q R := by
  intro _ _ tm s r; obtain ⟨_, _, rfl, rfl⟩ := two_strs r
  refine P.notIn_str ?_
  rw [show (⟨[k].toArray⟩ : Str) = ⟨#[k]⟩ from rfl, StrLaws.found_one]
  have : (!decide (k ∈ ((⟨xs.toArray⟩ : Str)).cps.toList)) = decide (k ∉ xs) := by by_cases h : k ∈ xs <;> simp [h]
  rw [this]
  exact val_step0 r.drop2 (fun _ => .bool _) q

theorem str_len (xs : List Nat) : (⟨xs.toArray⟩ : Str).length = xs.length := by simp [Str.length]
theorem add_post {Q' : Value → Shared → Prop} {t u : Tok} {s : Shared} (hl : xs.length + ys.length ≤ 2 ^ 24) (h : ∀ t k, Q' (.str ⟨(xs ++ ys).toArray⟩ t) { s with toks := k }) :
    (if (⟨xs.toArray⟩ : Str).length == 0 then Made.val (.str ⟨ys.toArray⟩ u) else if (⟨ys.toArray⟩ : Str).length == 0 then Made.val (.str ⟨xs.toArray⟩ t) else Made.str ((⟨xs.toArray⟩ : Str) ++ ⟨ys.toArray⟩)).post Q' s := by
  rw [str_len, str_len]
  cases xs with
  | nil => exact h u s.toks
  | cons x xs =>
    cases ys with
    | nil => have := h t s.toks; rw [List.append_nil] at this; exact this
    | cons y ys =>
      rw [if_neg (by simp), if_neg (by simp)]
      have e : ((⟨(x :: xs).toArray⟩ : Str) ++ ⟨(y :: ys).toArray⟩) = ⟨(x :: xs ++ y :: ys).toArray⟩ := by
        show Str.mk (_ ++ _) = _
        simp
      rw [e]
      refine ⟨?_, h _ _⟩
      rw [str_len, List.length_append, show sizeLine = 2 ^ 24 from rfl]; exact hl
theorem HO_add_str (hl : xs.length + ys.length ≤ 2 ^ 24) (q : Q (.str (xs ++ ys)) σ) : HO2 c σ (binaryOp .Add) (.str xs) (.str ys) Q R := by
  intro _ _ tm s r; obtain ⟨_, _, rfl, rfl⟩ := two_strs r
  exact P.add_str (add_post hl fun t k => val_step r.drop2 (fun _ => mk_str _ _) q)
theorem HO_iadd_str (hl : xs.length + ys.length ≤ 2 ^ 24) (q : Q (.str (xs ++ ys)) σ) : HO2 c σ (inplaceOp .Add) (.str xs) (.str ys) Q R := by
  intro _ _ tm s r; obtain ⟨_, _, rfl, rfl⟩ := two_strs r
  exact P.iadd_str (add_post hl fun t k => val_step r.drop2 (fun _ => mk_str _ _) q)
end
end Mine
end
section
open PySem PySem.W PySem.Calls PyProof.Rows
set_option autoImplicit false
set_option maxRecDepth 100000
namespace Mine

/-- xs[a:b] for a, b not below nought -/
def cut (xs : List Nat) (a b : Nat) : List Nat := (xs.drop a).take (b - a)

theorem picked (n a b : Nat) : Builtin.Str.strSliceIndices (some (a : Int)) (some (b : Int)) 1 n = (List.range (min b n - min a n)).map (fun k => min a n + k) := by
  have clip : Builtin.Str.strSliceIndices (some (a : Int)) (some (b : Int)) 1 n = Builtin.Str.strSliceIndices (some ((min a n : Nat) : Int)) (some ((min b n : Nat) : Int)) 1 n := by
    have h1 : ¬ ((a : Int) < 0) := by omega
    have h2 : ¬ ((b : Int) < 0) := by omega
    have h3 : ¬ (((min a n : Nat) : Int) < 0) := by omega
    have h4 : ¬ (((min b n : Nat) : Int) < 0) := by omega
    have e1 : max (0 : Int) (min (a : Int) (n : Int)) = (min a n : Nat) := by omega
    have e2 : max (0 : Int) (min (b : Int) (n : Int)) = (min b n : Nat) := by omega
    have e3 : max (0 : Int) (min ((min a n : Nat) : Int) (n : Int)) = (min a n : Nat) := by omega
    have e4 : max (0 : Int) (min ((min b n : Nat) : Int) (n : Int)) = (min b n : Nat) := by omega
    simp only [Builtin.Str.strSliceIndices, h1, h2, h3, h4, if_false, e1, e2, e3, e4, show ((1 : Int) > 0) = True from by simp, if_true]
  by_cases hab : min a n ≤ min b n
  · rw [clip, StrLaws.strSliceIndices_plain hab (by omega)]
  · have h1 : ¬ ((a : Int) < 0) := by omega
    have h2 : ¬ ((b : Int) < 0) := by omega
    have e1 : max (0 : Int) (min (a : Int) (n : Int)) = (min a n : Nat) := by omega
    have e2 : max (0 : Int) (min (b : Int) (n : Int)) = (min b n : Nat) := by omega
    have h5 : ¬ (((min a n : Nat) : Int) < ((min b n : Nat) : Int)) := by omega
    simp only [Builtin.Str.strSliceIndices, sliceRange, h1, h2, if_false, e1, e2, show ((1 : Int) > 0) = True from by simp, if_true, h5]
    rw [show min b n - min a n = 0 from by omega]
    simp
theorem cut_all (xs : List Nat) (a b : Nat) : cut xs a b = (xs.drop (min a xs.length)).take (min b xs.length - min a xs.length) := by
  unfold cut
  rcases Nat.le_total a xs.length with h | h
  · rw [Nat.min_eq_left h]
    rcases Nat.le_total b xs.length with h' | h'
    · rw [Nat.min_eq_left h']
    · rw [Nat.min_eq_right h', List.take_of_length_le (by simp; omega), List.take_of_length_le (by simp)]
  · rw [Nat.min_eq_right h, List.drop_of_length_le h, List.drop_of_length_le (Nat.le_refl _)]; simp
theorem cut_slice (xs : List Nat) (a b : Nat) : Txt.slice (⟨xs.toArray⟩ : Str) (some a) (some b) = ⟨(cut xs a b).toArray⟩ := by
  have key : ((List.range (min b xs.length - min a xs.length)).map (fun k => min a xs.length + k)).filterMap (xs.toArray[·]?) = cut xs a b := by
    rw [cut_all]
    by_cases hab : min a xs.length ≤ min b xs.length
    · have := StrLaws.picks xs (min b xs.length - min a xs.length) (min a xs.length) (by omega)
      simpa using this
    · rw [show min b xs.length - min a xs.length = 0 from by omega]; simp
  unfold Txt.slice
  rw [str_len, picked]
  split
  · rename_i h
    have h : min b xs.length - min a xs.length = xs.length := by simpa using h
    rw [cut_all, h]
    by_cases h0 : xs.length = 0
    · have : xs = [] := List.eq_nil_of_length_eq_zero h0
      subst this; simp
    · rw [show min a xs.length = 0 from by omega]; simp
  · rw [← key]
section
variable {c : Cx} {σ : St} {Q : Post} {R : RPost} {a b : Int} {xs ys : List Nat}

theorem HE_sub {value slice : Expr} {pos : Pos} (h : HE c σ value (fun x σ₁ => HE c σ₁ slice (fun y σ₂ => HO2 c σ₂ (subscriptTail value slice) x y Q R) R) R) : HE c σ (.Subscript value slice pos) Q R :=
  fun tm s hr => Subscript_ (wpAny_mono (h tm s hr) (fun _ _ ⟨_, _, hr₁, h₁⟩ => wpAny_mono (h₁ _ _ hr₁) (fun _ _ ⟨_, _, hr₂, h₂⟩ => h₂ _ _ _ _ hr₂) fun _ _ x => x) fun _ _ x => x)

theorem HO_item_str {value slice : Expr} {i : Int} {k : Nat} (hs : ∀ o i, subscripted slice false o i = operate [o, i] (getItem o i)) (h0 : 0 ≤ i) (hl : xs.length < 2 ^ 24) (hk : xs[i.toNat]? = some k) (q : Q (.str [k]) σ) :
    HO2 c σ (subscriptTail value slice) (.str xs) (.int i) Q R := by
  intro _ _ tm s r
  obtain ⟨_, h2⟩ := r.at0
  obtain ⟨_, h1⟩ := r.at1
  obtain ⟨t2, rfl⟩ := is_int h2
  obtain ⟨t1, rfl⟩ := is_str h1
  have hlt : i.toNat < xs.length := (List.getElem?_eq_some_iff.mp hk).1
  refine tail_any (typeIs_str s _ _) F.slot_str_getitem.lookup (P.getItem_str (c := k) ?_ ?_ ?_) (hs _ _)
  · simp only [Bool.or_eq_false_iff, decide_eq_false_iff_not]; omega
  · unfold seqIndex?
    rw [str_len]
    have : ¬ i < 0 := by omega
    simp only [this, if_false]
    rw [if_pos (by simp; omega)]
    simpa using hk
  · exact val_step r.drop2 (fun _ => mk_str [k] _) q

theorem HE_slice {value lo hi : Expr} {p pos : Pos} (h : HE c σ value (fun x σ₁ => HE c σ₁ lo (fun y σ₂ => HE c σ₂ hi (fun z σ₃ => ∃ xs a b, x = .str xs ∧ y = .int a ∧ z = .int b ∧ 0 ≤ a ∧ 0 ≤ b ∧ xs.length < 2 ^ 24 ∧ Q (.str (cut xs a.toNat b.toNat)) σ₃) R) R) R) :
    HE c σ (.Subscript value (.Slice (some lo) (some hi) none p) pos) Q R := by
  intro tm s hr
  rw [show eval (.Subscript value (.Slice (some lo) (some hi) none p) pos) c.env = eval (.Subscript value (.Slice (some lo) (some hi) none p) pos) c.env from rfl]
  refine Subscript_ (wpAny_mono (h tm s hr) (fun vo s₁ ⟨x, σ₁, hr₁, h₁⟩ => wpAny_Slice (wpAny_mono (h₁ _ _ hr₁) (fun vl s₂ ⟨y, σ₂, hr₂, h₂⟩ => wpAny_mono (h₂ _ _ hr₂) (fun vu s₃ ⟨z, σ₃, hr₃, h₃⟩ => ?_) fun _ _ x => x) fun _ _ x => x)) fun _ _ x => x)
  obtain ⟨xs, a, b, rfl, rfl, rfl, h0, h0', hl, q⟩ := h₃
  rw [evalPart_none]
  refine wpAny_pure ?_
  obtain ⟨m, mu, fz, fr, w⟩ := hr₃
  obtain ⟨t3, rfl⟩ := is_int (w.tm _ (.head _))
  obtain ⟨t2, rfl⟩ := is_int (w.tm _ (.tail _ (.head _)))
  obtain ⟨t1, rfl⟩ := is_str (w.tm _ (.tail _ (.tail _ (.head _))))
  have w' := (w.pop (tm' := tm) fun p hp => .tail _ (.tail _ (.tail _ hp)))
  obtain ⟨na, rfl⟩ := Int.eq_ofNat_of_zero_le h0
  obtain ⟨nb, rfl⟩ := Int.eq_ofNat_of_zero_le h0'
  refine tail_any (ops := [.ref s₃.heap.objs.size, .str ⟨xs.toArray⟩ t1]) (typeIs_str _ _ _) F.slot_str_getitem.lookup (wpAny_getItem_str_slice (l := some (_, t2)) (u := some (_, t3)) (st := none) ⟨_, Heap.get?_push_size _ rfl, rfl, rfl⟩ rfl (post_val_or_str ?_)) rfl
  have e := cut_slice xs na nb
  unfold Txt.slice at e
  have hz : (⟨(cut xs na nb).toArray⟩ : Str).length ≤ sizeLine := by
    rw [str_len, show sizeLine = 2 ^ 24 from rfl, cut_all]; simp; omega
  refine ⟨?_, fun t' k => ?_⟩
  · exact e ▸ hz
  · have wp := w'.step (k := k) (w'.fr.push _) (fun p hp => (w'.nw.push w'.fr { cls := .type "slice", data := .fields #[.int na t2, .int nb t3, .none] }) p (.tail _ hp))
    exact e ▸ ⟨_, _, (wp.push (mk_str _ _)).rel, q⟩
end
end Mine
end
section
open PySem PySem.W PySem.Calls PyProof.Rows
set_option autoImplicit false
set_option maxRecDepth 100000
namespace Mine
section
variable {c : Cx} {σ : St} {tm : List (Value × V)} {s : Shared} {m : Str → Option Value} {muts froz frs : Led}

/-- all stays but what is none of ours -/
theorem RelW.but (w : RelW c σ tm s m muts froz frs) {h' : Heap} {k : Nat} {D : List Addr} (hk : ∀ b o, s.heap.get? b = some o → b ∉ D → h'.get? b = some o)
    (hD : ∀ d ∈ D, c.g.get? d = none ∧ d ≠ c.L ∧ d ∉ (muts ++ froz ++ frs).map (·.1)) : RelW c σ tm { s with heap := h', toks := k } m muts froz frs := by
  obtain ⟨o, es, ep, ho, r⟩ := w.fr.ns
  refine w.step ⟨⟨o, es, ep, hk _ _ ho fun q => (hD _ q).2.1 rfl, r⟩, fun b x e => hk _ _ (w.fr.keep b x e) fun q => ?_, w.fr.above⟩ fun p hp => ⟨hk _ _ (w.nw p hp).1 fun q => (hD _ q).2.2 (List.mem_map_of_mem hp), (w.nw p hp).2⟩
  have := (hD _ q).1; rw [e] at this; cases this
theorem RelW.keeps (w : RelW c σ tm s m muts froz frs) {h' : Heap} {k : Nat} (hk : ∀ b o, s.heap.get? b = some o → h'.get? b = some o) : RelW c σ tm { s with heap := h', toks := k } m muts froz frs :=
  w.but (D := []) (fun b o e _ => hk b o e) fun _ h => nomatch h

theorem all2_mem {α β : Type} {r : α → β → Prop} {l : List α} {l' : List β} (h : All2 r l l') : ∀ a ∈ l, ∃ b ∈ l', r a b := by
  induction h with
  | nil => intro a h; cases h
  | cons h1 _ ih =>
    intro a ha
    rcases List.mem_cons.mp ha with rfl | ha
    · exact ⟨_, .head _, h1⟩
    · obtain ⟨b, hb, hr⟩ := ih a ha
      exact ⟨b, .tail _ hb, hr⟩
theorem frs_map {frs frs' : Led} (h : All2 likeSlots frs frs') : frs.map (·.1) = frs'.map (·.1) := by
  induction h with
  | nil => rfl
  | cons h1 _ ih => rw [List.map_cons, List.map_cons, ih, h1.1]
theorem frames_map {outer : List Env} {frs : Led} (h : All2 (fun (env : Env) (q : Addr × Obj) => env.scope.kind ≠ .module ∧ env.frame = some q.1 ∧ ∀ vs, q.2.data ≠ .fields vs) outer frs) : outer.filterMap (·.frame) = frs.map (·.1) := by
  induction h with
  | nil => rfl
  | cons h1 _ ih => rw [List.filterMap_cons, h1.2.1, List.map_cons, ih]

theorem funFrames_list {h g : Heap} {outer : List Env} {fr0 : Led} (hb : All2 (fun (env : Env) (q : Addr × Obj) => env.scope.kind ≠ .module ∧ env.frame = some q.1 ∧ ∀ vs, q.2.data ≠ .fields vs) outer fr0) :
    ∀ {frs : Led}, All2 likeSlots frs fr0 → (∀ p ∈ frs, h.get? p.1 = some p.2 ∧ g.get? p.1 = none) → h.FunFrames g outer := by
  induction hb with
  | nil => intro _ _ _; trivial
  | cons h1 _ ih =>
    intro frs hf nw
    cases hf with
    | cons q hf =>
      have n := nw _ (.head _)
      refine ⟨h1.1, ⟨_, _, q.1 ▸ h1.2.1, n.2, n.1, ?_⟩, ih hf fun p hp => nw p (.tail _ hp)⟩
      obtain ⟨sl, e⟩ := q.2
      intro vs e2
      rw [e] at e2
      exact h1.2.2 vs e2
theorem g_none (w : RelW c σ tm s m muts froz frs) : c.g.get? c.L = none := by
  cases q : c.g.get? c.L with
  | none => rfl
  | some o => exact absurd (Nat.lt_of_lt_of_le (Heap.lt_size q) w.fr.above) (Nat.lt_irrefl _)
theorem funFrames_of (ok : c.Ok) (w : RelW c σ tm s m muts froz frs) : s.heap.FunFrames c.g (c.env :: c.outer) := by
  obtain ⟨o, es, ep, ho, hd, _⟩ := w.fr.ns
  exact ⟨by show c.cs.kind ≠ .module; rw [ok.fn]; decide, ⟨c.L, o, rfl, g_none w, ho, fun vs q => by rw [hd] at q; cases q⟩,
    funFrames_list ok.below w.frs fun p hp => ⟨(w.nw p (List.mem_append_right _ hp)).1, (w.nw p (List.mem_append_right _ hp)).2.2⟩⟩

/-- the frames' slots turn, nothing else -/
theorem slots_frs {h h' : Heap} : ∀ {frs fr0 : Led}, All2 likeSlots frs fr0 → (∀ p ∈ frs, h.get? p.1 = some p.2) → (∀ b o, h.get? b = some o → ∃ sl, h'.get? b = some { o with slots := sl }) →
    ∃ frs', All2 likeSlots frs' fr0 ∧ frs'.map (·.1) = frs.map (·.1) ∧ ∀ p ∈ frs', h'.get? p.1 = some p.2 := by
  intro frs fr0 h1
  induction h1 with
  | nil => intro _ _; exact ⟨[], .nil, rfl, fun _ h => nomatch h⟩
  | @cons a b l l' q _ ih =>
    intro nw sl
    obtain ⟨frs', e1, e2, e3⟩ := ih (fun p hp => nw p (.tail _ hp)) sl
    obtain ⟨sl1, e4⟩ := sl _ _ (nw a (.head _))
    refine ⟨(a.1, { a.2 with slots := sl1 }) :: frs', .cons ⟨q.1, sl1, ?_⟩ e1, by rw [List.map_cons, e2]; rfl, fun p hp => ?_⟩
    · obtain ⟨sl0, e5⟩ := q.2; rw [e5]
    · rcases List.mem_cons.mp hp with rfl | hp
      · exact e4
      · exact e3 p hp
theorem RelW.slots (ok : c.Ok) (w : RelW c σ tm s m muts froz frs) {h' : Heap} (x : Heap.SlotsOnly ((c.env :: c.outer).filterMap (·.frame)) s.heap h') :
    ∃ frs', RelW c σ tm { s with heap := h' } m muts froz frs' ∧ frs'.map (·.1) = frs.map (·.1) := by
  obtain ⟨x1, x2, x3⟩ := x
  obtain ⟨frs', e1, e2, e3⟩ := slots_frs (h' := h') w.frs (fun p hp => (w.nw p (List.mem_append_right _ hp)).1) x3
  have hS : ∀ b, b ∈ (c.env :: c.outer).filterMap (·.frame) → b = c.L ∨ b ∈ frs.map (·.1) := fun b hb => by
    rw [List.filterMap_cons] at hb
    rcases List.mem_cons.mp hb with rfl | hb
    · exact .inl rfl
    · rw [frames_map ok.below, ← frs_map w.frs] at hb; exact .inr hb
  have nd := w.nd
  have keep : ∀ p ∈ muts ++ froz, h'.get? p.1 = some p.2 := fun p hp => by
    rw [x2 p.1 fun hb => ?_]
    · exact (w.nw p (List.mem_append_left _ hp)).1
    · rcases hS _ hb with q | q
      · exact (w.nw p (List.mem_append_left _ hp)).2.1 q
      · rw [List.map_append, List.nodup_append] at nd
        exact nd.2.2 _ (List.mem_map_of_mem hp) _ q rfl
  obtain ⟨oL, es, ep, hL, hd, r⟩ := w.fr.ns
  obtain ⟨sl, hL'⟩ := x3 _ _ hL
  refine ⟨frs', ⟨w.gens, w.drawn, w.os, ⟨⟨_, es, ep, hL', hd, r⟩, fun b o e => ?_, w.fr.above⟩, fun p hp => ?_, ?_, w.fz, e1, w.loc, w.ln, w.hp, w.tm⟩, e2⟩
  · rw [x2 b fun hb => ?_]
    · exact w.fr.keep b o e
    · rcases hS _ hb with q | q
      · subst q; rw [g_none w] at e; cases e
      · obtain ⟨p, hp, rfl⟩ := List.mem_map.mp q
        rw [(w.nw p (List.mem_append_right _ hp)).2.2] at e; cases e
  · rcases List.mem_append.mp hp with q | q
    · exact ⟨keep p q, (w.nw p (List.mem_append_left _ q)).2⟩
    · have : p.1 ∈ frs.map (·.1) := e2 ▸ List.mem_map_of_mem q
      obtain ⟨p', hp', e⟩ := List.mem_map.mp this
      have n := (w.nw p' (List.mem_append_right _ hp')).2
      rw [e] at n
      exact ⟨e3 p q, n⟩
  · rw [List.map_append, e2, ← List.map_append]; exact nd
end

/-- an exception that has been noted once at least -/
def ExcT (g : Heap) (L : Addr) (news : Led) (e : Addr) (cls : Value × Value) (h : Heap) : Prop :=
  ∃ oe vs T oT ts fl, h.get? e = some oe ∧ ExcKind oe cls ∧ oe.data = .fields vs ∧ 5 < vs.size ∧ g.get? e = none ∧ e ≠ L ∧ e ∉ news.map (·.1) ∧
    vs[1]? = some (.ref T) ∧ T ≠ e ∧ h.get? T = some oT ∧ oT.data = .fields ts ∧ ts[3]? = some fl ∧ g.get? T = none ∧ T ≠ L ∧ T ∉ news.map (·.1)
theorem ExcT.exc {g : Heap} {L : Addr} {news : Led} {e : Addr} {cls : Value × Value} {h : Heap} (x : ExcT g L news e cls h) : Exc g L news e cls h := by
  obtain ⟨oe, vs, T, oT, ts, fl, a1, a2, a3, a4, a5, a6, a7, r⟩ := x
  exact ⟨oe, vs, a1, a2, a3, a4, a5, a6, a7, .inr ⟨T, oT, ts, fl, r⟩⟩
def RelT (c : Cx) (σ : St) (e : Addr) (cls : Value × Value) (s : Shared) : Prop :=
  ∃ m muts froz frs, RelW c σ [] s m muts froz frs ∧ ExcT c.g c.L (muts ++ froz ++ frs) e cls s.heap
theorem RelT.x {c : Cx} {σ : St} {e : Addr} {cls : Value × Value} {s : Shared} (r : RelT c σ e cls s) : RelX c σ e cls s := by
  obtain ⟨m, mu, fz, fr, w, x⟩ := r
  exact ⟨m, mu, fz, fr, w, x.exc⟩

section
variable {c : Cx} {σ : St} {s : Shared} {e : Addr} {cls : Value × Value} {M : Model} {A : Around} {E : Value → Shared → Prop}

theorem setFlight_T {f : Option Addr} {Q : Unit → Shared → Prop} (r : RelT c σ e cls s) (h : ∀ s', RelT c σ e cls s' → Q () s') : wpAny M A (setFlight (.ref e) f) Q E s := by
  obtain ⟨m, mu, fz, fr, w, oe, vs, T, oT, ts, fl, a1, a2, a3, a4, a5, a6, a7, b1, b2, b3, b4, b5, b6, b7, b8⟩ := r
  unfold setFlight
  refine wpAny_bind (wpAny_field a1 a3 b1 ?_)
  rw [if_pos (show (Value.ref T != Value.none) = true from by simp)]
  have hsz : 3 < ts.size := (Array.getElem?_eq_some_iff.mp b5).1
  refine wpAny_setField b3 b4 hsz (h _ ⟨m, mu, fz, fr, w.but (D := [T]) (fun b o q hb => ?_) (fun d hd => ?_), oe, vs, T, _, _, (f.elim Value.none fun f => rawInt f), ?_, a2, a3, a4, a5, a6, a7, b1, b2, Heap.get?_update_self _ b3 (Obj.isFreed_of_fields (Obj.data_mapFields b4 _)), Obj.data_mapFields b4 _, ?_, b6, b7, b8⟩)
  · rw [Heap.get?_update_other _ _ (fun z => hb (by simp [z]))]; exact q
  · rw [List.mem_singleton] at hd; subst hd; exact ⟨b6, b7, b8⟩
  · show (Heap.update _ _ _).get? _ = _
    rw [Heap.get?_update_other _ _ b2]; exact a1
  · exact Array.getElem?_setIfInBounds_self_of_lt hsz

theorem newEntry_X (ok : c.Ok) (hA : A.frames = some (c.env :: c.outer)) {head : Value} {hadNext : Bool} {Q : Unit → Shared → Prop} {m : Str → Option Value} {mu fz fr : Led} (w : RelW c σ [] s m mu fz fr) {oe : Obj} {vs : Array Value}
    (a1 : s.heap.get? e = some oe) (a2 : ExcKind oe cls) (a3 : oe.data = .fields vs) (a4 : 5 < vs.size) (a5 : c.g.get? e = none) (a6 : e ≠ c.L) (a7 : e ∉ (mu ++ fz ++ fr).map (·.1))
    (h : ∀ s', RelT c σ e cls s' → Q () s') :
    wpAny M A (do let a ← frameOf c.env; let pl ← entryPlaceOf c.L hadNext; let b ← EntryCells.newEntry head a .none (rawInt c.L) .none pl; setField (.ref e) 1 b) Q E s := by
  refine wpAny_bind (wpAny_frameOf_fun hA (funFrames_of ok w) rfl fun h₁ hs₁ => ?_)
  have hene : e ∉ (c.env :: c.outer).filterMap (·.frame) := fun hm => by
    rw [List.filterMap_cons] at hm
    rcases List.mem_cons.mp hm with rfl | hm
    · exact a6 rfl
    · rw [frames_map ok.below, ← frs_map w.frs] at hm
      exact a7 (by rw [List.map_append]; exact List.mem_append_right _ hm)
  obtain ⟨fr', w₁, efr⟩ := w.slots ok hs₁
  have he₁ : h₁.get? e = some oe := (hs₁.2.1 e hene).trans a1
  have a7' : e ∉ (mu ++ fz ++ fr').map (·.1) := by rw [List.map_append, efr, ← List.map_append]; exact a7
  refine wpAny_bind (wpAny_entryPlaceOf fun pl hpl => ?_)
  unfold EntryCells.newEntry newFields
  refine wpAny_bind (wpAny_newObj_type ?_ (hpl.sizeOk5 _ _ _ _ _))
  have he₂ := Heap.get?_push_of_some (h := h₁) { cls := .type "traceback", dict := none, data := .fields ([head, .ref c.L, .none, rawInt c.L, .none] ++ (if pl.isEmpty then List.replicate 6 Value.none else pl)).toArray } he₁
  refine wpAny_setField he₂ a3 (by omega) (h _ ?_)
  have hTe : h₁.objs.size ≠ e := Nat.ne_of_gt (Heap.lt_size he₁)
  have hd₃ := Obj.data_mapFields a3 (·.setIfInBounds 1 (Value.ref h₁.objs.size))
  have he₃ := Heap.get?_update_self (Obj.mapFields (·.setIfInBounds 1 (Value.ref h₁.objs.size))) he₂ (Obj.isFreed_of_fields hd₃)
  have hT₃ := (Heap.get?_update_other (h₁.push { cls := .type "traceback", dict := none, data := .fields ([head, .ref c.L, .none, rawInt c.L, .none] ++ (if pl.isEmpty then List.replicate 6 Value.none else pl)).toArray })
    (Obj.mapFields (·.setIfInBounds 1 (Value.ref h₁.objs.size))) (Ne.symm hTe)).trans (Heap.get?_push_size h₁ rfl)
  have fresh : ∀ b o, h₁.get? b = some o → b ≠ h₁.objs.size := fun b o q => Nat.ne_of_lt (Heap.lt_size q)
  refine ⟨m, mu, fz, fr', w₁.but (D := [e]) (fun b o q hb => ?_) (fun d hd => ?_), _, _, h₁.objs.size, _, _, rawInt c.L, he₃, ?_, hd₃, ?_, a5, a6, a7', ?_, hTe, hT₃, rfl, ?_, ?_, ?_, ?_⟩
  · rw [Heap.get?_update_other _ _ (fun z => hb (by simp [z]))]; exact Heap.get?_push_of_some _ q
  · rw [List.mem_singleton] at hd; subst hd; exact ⟨a5, a6, a7'⟩
  · refine ⟨(Obj.cls_mapFields ..).trans a2.1, fun us hu => ?_⟩
    rw [hd₃] at hu
    injection hu with hu
    rw [← hu]
    rw [Array.getElem?_setIfInBounds_ne (by decide)]
    exact a2.2 _ a3
  · simpa using a4
  · exact Array.getElem?_setIfInBounds_self_of_lt (by omega)
  · first | (simp; done) | (rcases hpl with rfl | ⟨_, _, _, _, _, _, _, rfl⟩ <;> simp)
  · cases q : c.g.get? h₁.objs.size with
    | none => rfl
    | some o => exact absurd rfl (fresh _ _ (w₁.fr.keep _ _ q))
  · obtain ⟨o, es, ep, ho, _⟩ := w₁.fr.ns
    exact Ne.symm (fresh _ _ ho)
  · intro q
    obtain ⟨p, hp, ep⟩ := List.mem_map.mp q
    exact fresh _ _ (w₁.nw p hp).1 ep

theorem noteFrame_X (ok : c.Ok) (hA : A.frames = some (c.env :: c.outer)) {Q : Unit → Shared → Prop} (r : RelX c σ e cls s) (h : ∀ s', RelT c σ e cls s' → Q () s') : wpAny M A (noteFrame (.ref e) c.env) Q E s := by
  obtain ⟨m, mu, fz, fr, w, oe, vs, a1, a2, a3, a4, a5, a6, a7, st⟩ := r
  unfold noteFrame
  show wpAny M A (do
    let head ← field (.ref e) 1
    if head != .none then
      if (← field head 3) == rawInt c.L then return
      setField head 3 .none
    setField (.ref e) 1 (← EntryCells.newEntry head (← frameOf c.env) .none (rawInt c.L) .none (← entryPlaceOf c.L (head != .none)))) Q E s
  rcases st with b1 | ⟨T, oT, ts, fl, b1, b2, b3, b4, b5, b6, b7, b8⟩
  · refine wpAny_bind (wpAny_field a1 a3 b1 ?_)
    rw [if_neg (by decide)]
    exact newEntry_X ok hA w a1 a2 a3 a4 a5 a6 a7 h
  · refine wpAny_bind (wpAny_field a1 a3 b1 ?_)
    rw [if_pos (show (Value.ref T != Value.none) = true from by simp)]
    refine wpAny_bind (wpAny_field b3 b4 b5 ?_)
    by_cases hfl : (fl == rawInt c.L) = true
    · rw [if_pos hfl]
      exact wpAny_pure (h _ ⟨m, mu, fz, fr, w, oe, vs, T, oT, ts, fl, a1, a2, a3, a4, a5, a6, a7, b1, b2, b3, b4, b5, b6, b7, b8⟩)
    · rw [if_neg hfl]
      have hsz : 3 < ts.size := (Array.getElem?_eq_some_iff.mp b5).1
      refine wpAny_bind (wpAny_setField b3 b4 hsz ?_)
      have w' := w.but (k := s.toks) (h' := s.heap.update T (Obj.mapFields (·.setIfInBounds 3 Value.none))) (D := [T]) (fun b o q hb => by rw [Heap.get?_update_other _ _ (fun z => hb (by simp [z]))]; exact q) (fun d hd => by rw [List.mem_singleton] at hd; subst hd; exact ⟨b6, b7, b8⟩)
      exact newEntry_X ok hA w' (by show (Heap.update _ _ _).get? _ = _; rw [Heap.get?_update_other _ _ b2]; exact a1) a2 a3 a4 a5 a6 a7 h

theorem leaving_X (ok : c.Ok) (hA : A.frames = some (c.env :: c.outer)) {Q : Unit → Shared → Prop} (r : RelX c σ e cls s) (h : ∀ s', RelT c σ e cls s' → Q () s') : wpAny M A (leaving c.env (.ref e)) Q E s := by
  unfold leaving
  exact wpAny_bind (noteFrame_X ok hA r fun s' r' => setFlight_T r' h)
theorem cameBack_X {R : RPost} (r : RelT c σ e cls s) (q : R cls σ) : cameBackBy M A c.env (ExcE c R) (.ref e) s := by
  unfold cameBackBy
  have r0 := r
  obtain ⟨m, mu, fz, fr, w, oe, vs, T, oT, ts, fl, a1, a2, a3, a4, a5, a6, a7, b1, r'⟩ := r
  refine wpAny_bind (wpAny_field a1 a3 b1 ?_)
  rw [if_neg (by simp)]
  exact setFlight_T r0 fun s' r'' => ⟨e, cls, σ, rfl, r''.x, q⟩
end
end Mine
end
section
open PySem PySem.W PySem.Calls PyProof.Rows
set_option autoImplicit false
set_option maxRecDepth 100000
namespace Mine

/-- what may be forgotten -/
inductive SubL {α : Type} : List α → List α → Prop
  | nil : SubL [] []
  | keep {a : α} {l l' : List α} : SubL l l' → SubL (a :: l) (a :: l')
  | drop {a : α} {l l' : List α} : SubL l l' → SubL l (a :: l')
theorem SubL.refl {α : Type} : ∀ l : List α, SubL l l
  | [] => .nil
  | _ :: l => .keep (SubL.refl l)
theorem SubL.mem {α : Type} {l l' : List α} (h : SubL l l') : ∀ a ∈ l, a ∈ l' := by
  induction h with
  | nil => exact fun _ h => h
  | keep _ ih => exact fun a ha => (List.mem_cons.mp ha).elim (fun e => e ▸ .head _) fun q => .tail _ (ih a q)
  | drop _ ih => exact fun a ha => .tail _ (ih a ha)
structure Weak (σ' σ : St) : Prop where
  loc : ∀ p ∈ σ'.loc, p ∈ σ.loc
  ln : (σ'.loc.map (·.1)).Nodup
  hp : SubL σ'.hp σ.hp

def HA (c : Cx) (σ : St) (t : Expr) (x : V) (Q : St → Prop) (R : RPost) : Prop :=
  ∀ v tm s, Rel c σ ((v, x) :: tm) s → wpAny (model c.prog c.w) c.A (assign t c.env v) (fun _ s' => ∃ σ', Rel c σ' ((v, x) :: tm) s' ∧ Q σ') (ExcE c R) s
def HAs (c : Cx) (σ : St) (ts : List (Value → Sem Unit)) (x : V) (Q : St → Prop) (R : RPost) : Prop :=
  ∀ v tm s, Rel c σ ((v, x) :: tm) s → wpAny (model c.prog c.w) c.A (assignAll v ts) (fun _ s' => ∃ σ', Rel c σ' ((v, x) :: tm) s' ∧ Q σ') (ExcE c R) s

section
variable {c : Cx} {σ : St} {tm : List (Value × V)} {s : Shared} {m : Str → Option Value} {muts froz frs : Led} {R : RPost}

theorem all2_sub {α β : Type} {r : α → β → Prop} {l l' : List α} (h : SubL l l') : ∀ {k' : List β}, All2 r l' k' → ∃ k, All2 r l k ∧ SubL k k' := by
  induction h with
  | nil => intro k' h; cases h; exact ⟨[], .nil, .nil⟩
  | keep _ ih =>
    intro k' h
    cases h with
    | cons a b => obtain ⟨k, e1, e2⟩ := ih b; exact ⟨_ :: k, .cons a e1, .keep e2⟩
  | drop _ ih =>
    intro k' h
    cases h with
    | cons a b => obtain ⟨k, e1, e2⟩ := ih b; exact ⟨k, e1, .drop e2⟩
theorem SubL.map {α β : Type} {l l' : List α} (f : α → β) (h : SubL l l') : SubL (l.map f) (l'.map f) := by
  induction h with
  | nil => exact .nil
  | keep _ ih => exact .keep ih
  | drop _ ih => exact .drop ih
theorem SubL.app {α : Type} {l l' k k' : List α} (h : SubL l l') (h2 : SubL k k') : SubL (l ++ k) (l' ++ k') := by
  induction h with
  | nil => exact h2
  | keep _ ih => exact .keep ih
  | drop _ ih => exact .drop ih
theorem SubL.nodup {α : Type} {l l' : List α} (h : SubL l l') : l'.Nodup → l.Nodup := by
  induction h with
  | nil => exact id
  | keep h1 ih => exact fun h => List.nodup_cons.mpr ⟨fun q => (List.nodup_cons.mp h).1 (h1.mem _ q), ih (List.nodup_cons.mp h).2⟩
  | drop h1 ih => exact fun h => ih (List.nodup_cons.mp h).2

theorem Rel.weak {σ' : St} (h : Weak σ' σ) (r : Rel c σ tm s) : Rel c σ' tm s := by
  obtain ⟨m, mu, fz, fr, w⟩ := r
  obtain ⟨mu', e1, e2⟩ := all2_sub h.hp w.hp
  have sub : SubL (mu' ++ fz ++ fr) (mu ++ fz ++ fr) := (e2.app (.refl _)).app (.refl _)
  exact ⟨m, mu', fz, fr, w.gens, w.drawn, w.os, w.fr, fun p hp => w.nw p (sub.mem p hp), (sub.map (·.1)).nodup w.nd, w.fz, w.frs, fun p hp => w.loc p (h.loc p hp), h.ln, e1, w.tm⟩

theorem RelW.store (_w : RelW c σ tm s m muts froz frs) {x : String} {v : Value} {y : V} {h' : Heap} {k : Nat} {l : Loc} (hn : SetN x y σ.loc l) (F : Fr c.g c.L h' (fun z => if z = Str.ofString x then some v else m z)) (N : News c.g c.L h' (muts ++ froz ++ frs)) (hi : Is (rdOf c.h0 froz) v y) :
    RelW c ⟨l, σ.hp⟩ tm { s with heap := h', toks := k } (fun z => if z = Str.ofString x then some v else m z) muts froz frs := by
  obtain ⟨h1, h2⟩ := hn.mem _w.ln
  refine ⟨_w.gens, _w.drawn, _w.os, F, N, _w.nd, _w.fz, _w.frs, fun p hp => ?_, h2, _w.hp, _w.tm⟩
  rcases h1 p hp with rfl | ⟨hp, hne⟩
  · exact ⟨v, by simp, hi⟩
  · obtain ⟨u, hu, hi'⟩ := _w.loc p hp
    refine ⟨u, ?_, hi'⟩
    rw [if_neg fun e => hne (ofString_inj e)]; exact hu

theorem store_X {x : String} {v : Value} {y : V} {l : Loc} {Q : Unit → Shared → Prop} {E : Value → Shared → Prop} (r : Rel c σ tm s) (hn : SetN x y σ.loc l) (hi : (v, y) ∈ tm) (hk : c.cs.kind = .function) (hx : c.env.kindOf (Str.ofString x) = some .local)
    (h : ∀ s', Rel c ⟨l, σ.hp⟩ tm s' → Q () s') : wpAny (model c.prog c.w) c.A (storeName c.env (Str.ofString x) v) Q E s := by
  obtain ⟨m, mu, fz, fr, w⟩ := r
  exact stN w.fr w.nw (fun h' F N => h _ (w.store hn F N (w.tm _ hi)).rel) hk hx

theorem HA_name {x : String} {pos : Pos} {y : V} {l : Loc} {Q : St → Prop} (hn : SetN x y σ.loc l) (hk : c.cs.kind = .function) (hx : c.env.kindOf (Str.ofString x) = some .local) (q : Q ⟨l, σ.hp⟩) : HA c σ (.Name (Str.ofString x) pos) y Q R :=
  fun _ _ _ r => assign_Name (store_X r hn (.head _) hk hx fun _ r' => ⟨_, r', q⟩)

theorem HAs_one {t : Expr} {y : V} {Q : St → Prop} (h : HA c σ t y Q R) : HAs c σ [assign t c.env] y Q R := fun v tm s r => h v tm s r
theorem HAs_cons {t : Expr} {u : Value → Sem Unit} {ts : List (Value → Sem Unit)} {y : V} {Q : St → Prop} (h : HA c σ t y (fun σ₁ => HAs c σ₁ (u :: ts) y Q R) R) : HAs c σ (assign t c.env :: u :: ts) y Q R := fun v tm s r => by
  show wpAny _ _ (do holding [v] (assign t c.env v); assignAll v (u :: ts)) _ _ _
  exact wpAny_bind (wpAny_holding (wpAny_mono (h v tm s r) (fun _ _ ⟨σ', r', q⟩ => q v tm _ r') fun _ _ x => x))

theorem HS1_assign {ts : List Expr} {value : Expr} {pos : Pos} {Q : Fl → St → Prop} (h : HE c σ value (fun x σ₁ => HAs c σ₁ ((assignEach ts c.env).map (·.2)) x (Q .next) R) R)
    (hs : swapsWithSole ts value pos.line c.env = pure false) (hw : swappedStores ts value c.env = pure none) : HS1 c σ (.Assign ts value pos) Q R :=
  fun s r => wpAny_Assign_stores (wpAny_mono (h [] s r) (fun v s₁ ⟨x, σ₁, r₁, h₁⟩ => wpAny_mono (h₁ v [] s₁ r₁) (fun _ s₂ ⟨σ₂, r₂, q⟩ => ⟨.next, σ₂, r₂.drop1, q⟩) fun _ _ x => x) fun _ _ x => x) hs hw

theorem HS1_aug {x : String} {npos : Pos} {op : Operator} {value : Expr} {pos : Pos} {u : V} {Q : Fl → St → Prop} (hl : (x, u) ∈ σ.loc) (h : HE c σ value (fun y σ₁ => HO2 c σ₁ (inplaceOp op) u y (fun z σ₂ => ∃ l, SetN x z σ₂.loc l ∧ Q .next ⟨l, σ₂.hp⟩) R) R)
    (hk : c.cs.kind = .function) (hx : c.env.kindOf (Str.ofString x) = some .local) : HS1 c σ (.AugAssign (.Name (Str.ofString x) npos) op value pos) Q R := by
  intro s r
  obtain ⟨m, mu, fz, fr, w⟩ := r
  obtain ⟨vu, hu, hi⟩ := w.loc _ hl
  refine wpAny_AugAssign_Name (ldn w.fr hu ?_ hk hx)
  refine wpAny_mono (h [(vu, u)] s (w.push hi).rel) (fun v s₁ ⟨y, σ₁, r₁, h₁⟩ => wpAny_mono (h₁ _ _ [] s₁ r₁) (fun z s₂ ⟨zz, σ₂, r₂, l, hn, q⟩ => ?_) fun _ _ x => x) fun _ _ x => x
  exact store_X r₂ hn (.head _) hk hx fun s₃ r₃ => ⟨.next, _, r₃.drop1, q⟩

theorem HS1_ret {e : Expr} {pos : Pos} {Q : Fl → St → Prop} (h : HE c σ e (fun x σ' => Q (.ret x) σ') R) : HS1 c σ (.Return (some e) pos) Q R :=
  fun s r => wpAny_Return_some (wpAny_mono (h [] s r) (fun v _ ⟨x, σ', r', q⟩ => ⟨.ret x, σ', r', q⟩) fun _ _ x => x)
theorem HS1_retNone {pos : Pos} {Q : Fl → St → Prop} (h : Q (.ret .none) σ) : HS1 c σ (.Return none pos) Q R := by
  intro s r
  obtain ⟨m, mu, fz, fr, w⟩ := r
  exact wpAny_Return_none ⟨.ret .none, σ, (w.push .none).rel, h⟩
theorem HS1_pass {pos : Pos} {Q : Fl → St → Prop} (h : Q .next σ) : HS1 c σ (.Pass pos) Q R := fun _ r => wpAny_Pass ⟨.next, σ, r, h⟩
theorem HS1_break {pos : Pos} {Q : Fl → St → Prop} (h : Q .brk σ) : HS1 c σ (.Break pos) Q R := fun _ r => wpAny_Break ⟨.brk, σ, r, h⟩
theorem HS1_continue {pos : Pos} {Q : Fl → St → Prop} (h : Q .cont σ) : HS1 c σ (.Continue pos) Q R := fun _ r => wpAny_Continue ⟨.cont, σ, r, h⟩
theorem HS1_if {test : Expr} {body orelse : List Stmt} {pos : Pos} {Q : Fl → St → Prop} (h : HT c σ test (fun b σ₁ => (b = true → HS c σ₁ body Q R) ∧ (b = false → HS c σ₁ orelse Q R)) R) : HS1 c σ (.If test body orelse pos) Q R := by
  intro s r
  refine wpAny_If (wpAny_mono (h [] s r) (fun b s₁ ⟨σ₁, r₁, h₁⟩ => ?_) fun _ _ x => x)
  cases b with
  | true => exact h₁.1 rfl s₁ r₁
  | false => exact h₁.2 rfl s₁ r₁
theorem HS1_expr {e : Expr} {pos : Pos} {Q : Fl → St → Prop} (h : HE c σ e (fun x σ' => x = .none ∧ Q .next σ') R) (hk : interactive c.env = false) (hs : swapsWith e none pos.line c.env = pure false) : HS1 c σ (.Expr e pos) Q R := by
  intro s r
  refine wpAny_Expr (wpAny_mono (h [] s r) (fun v s₁ ⟨x, σ₁, r₁, ex, q⟩ => ?_) fun _ _ x => x) hk hs
  subst ex
  obtain ⟨_, hi⟩ := r₁.at0
  cases is_none hi
  exact ⟨.next, σ₁, r₁.drop1, q⟩
theorem HS1_assert {test : Expr} {msg : Option Expr} {pos : Pos} {Q : Fl → St → Prop} (h : HT c σ test (fun b σ₁ => b = true ∧ Q .next σ₁) R) : HS1 c σ (.Assert test msg pos) Q R := by
  intro s r
  show wpAny _ _ (do standAt pos; if ← isTrue test c.env (eval test c.env) then pure Flow.next else assertFails test.pos (evalOpt msg c.env)) _ _ s
  refine wpAny_bind (wpAny_standAt (wpAny_bind (wpAny_mono (h [] s r) (fun b s₁ ⟨σ₁, r₁, eb, q⟩ => ?_) fun _ _ x => x)))
  subst eb
  exact wpAny_pure ⟨.next, σ₁, r₁, q⟩

theorem HS_nil {Q : Fl → St → Prop} (h : Q .next σ) : HS c σ [] Q R := fun _ r => wpAny_execs_nil ⟨.next, σ, r, h⟩
theorem HS_cons {st : Stmt} {rest : List Stmt} {Q : Fl → St → Prop} (h : HS1 c σ st (fun F σ₁ => match F with | .next => HS c σ₁ rest Q R | F => Q F σ₁) R) : HS c σ (st :: rest) Q R := by
  intro s r
  refine wpAny_execs_cons (wpAny_mono (h s r) (fun f s₁ ⟨F, σ₁, r₁, h₁⟩ => ?_) fun _ _ x => x)
  cases f <;> cases F <;> first | exact r₁.elim | exact h₁ s₁ r₁ | exact ⟨_, σ₁, r₁, h₁⟩
theorem HS.mono {ss : List Stmt} {Q Q' : Fl → St → Prop} {R' : RPost} (h : HS c σ ss Q R) (hQ : ∀ F σ', Q F σ' → Q' F σ') (hR : ∀ v σ', R v σ' → R' v σ') : HS c σ ss Q' R' :=
  fun s r => wpAny_mono (h s r) (fun _ _ ⟨F, σ', a, b⟩ => ⟨F, σ', a, hQ _ _ b⟩) fun _ _ ⟨e, k, σ', a, b, d⟩ => ⟨e, k, σ', a, b, hR _ _ d⟩
theorem HS1.mono {ss : Stmt} {Q Q' : Fl → St → Prop} {R' : RPost} (h : HS1 c σ ss Q R) (hQ : ∀ F σ', Q F σ' → Q' F σ') (hR : ∀ v σ', R v σ' → R' v σ') : HS1 c σ ss Q' R' :=
  fun s r => wpAny_mono (h s r) (fun _ _ ⟨F, σ', a, b⟩ => ⟨F, σ', a, hQ _ _ b⟩) fun _ _ ⟨e, k, σ', a, b, d⟩ => ⟨e, k, σ', a, b, hR _ _ d⟩
theorem HS.weak {σ' : St} {ss : List Stmt} {Q : Fl → St → Prop} (h : Weak σ' σ) (hs : HS c σ' ss Q R) : HS c σ ss Q R := fun s r => hs s (r.weak h)

/-- a while by what holds and a number that falls -/
theorem HS1_while {test : Expr} {body orelse : List Stmt} {pos : Pos} {Q : Fl → St → Prop} (ok : c.Ok) (I : Nat → St → Prop) (n : Nat)
    (turn : ∀ n σ, I n σ → HT c σ test (fun b σ₁ => (b = true → HS c σ₁ body (fun F σ₂ => match F with
        | .next | .cont => ∃ k σ₃, k < n ∧ Weak σ₃ σ₂ ∧ I k σ₃
        | .brk => Q .next σ₂
        | .ret x => Q (.ret x) σ₂) R) ∧ (b = false → HS c σ₁ orelse Q R)) R)
    {σ₀ : St} (hw : Weak σ₀ σ) (h : I n σ₀) : HS1 c σ (.While test body orelse pos) Q R := by
  intro s r
  have noted : ∀ {e : Value} {s' : Shared}, ExcE c R e s' → notedBy (model c.prog c.w) c.A c.env (fun e s' => cameBackBy (model c.prog c.w) c.A c.env (ExcE c R) e s') e s' := by
    rintro _ s' ⟨e, k, σ', rfl, a, b⟩
    exact noteFrame_X ok ok.frames a fun s'' r'' => cameBack_X r'' b
  refine wpAny_While (codeAny_whileLoop (fun n s => ∃ σ', I n σ' ∧ Rel c σ' [] s) ?_ n ⟨σ₀, h, r.weak hw⟩)
  rintro n s ⟨σ', hI, r'⟩
  refine wpAny_mono (turn n σ' hI [] s r') (fun b s₁ ⟨σ₁, r₁, h₁⟩ => ?_) fun _ _ q => noted q
  cases b with
  | true =>
    rw [if_pos rfl]
    refine wpAny_mono (h₁.1 rfl s₁ r₁) (fun f s₂ ⟨F, σ₂, r₂, q⟩ => ?_) fun _ _ q => noted q
    cases f <;> cases F <;> first
      | exact r₂.elim
      | (obtain ⟨k, σ₃, hk, hw', hI'⟩ := q; exact ⟨k, hk, σ₃, hI', Rel.weak hw' r₂⟩)
      | exact ⟨.next, σ₂, r₂, q⟩
      | exact ⟨_, σ₂, r₂, q⟩
  | false =>
    rw [if_neg (by decide)]
    exact wpAny_mono (h₁.2 rfl s₁ r₁) (fun f s₂ q => q) fun _ _ q => noted q

theorem HT_not {x : Expr} {pos : Pos} {Q : Bool → St → Prop} (h : HT c σ x (fun b σ' => Q (!b) σ') R) : HT c σ (.UnaryOp .Not x pos) Q R :=
  fun tm s r => isTrue_not (wpAny_mono (h tm s r) (fun _ _ q => q) fun _ _ q => q)
theorem HT_bool {op : BoolOp} {es : List Expr} {pos : Pos} {Q : Bool → St → Prop} (h : HAll c σ op es Q R) : HT c σ (.BoolOp op es pos) Q R :=
  fun tm s r => wpAny_isTrue_BoolOp (h tm s r)
theorem HAll_and_nil {Q : Bool → St → Prop} (h : Q true σ) : HAll c σ .And [] Q R := fun _ _ r => wpAny_allTrue_And_nil ⟨σ, r, h⟩
theorem HAll_or_nil {Q : Bool → St → Prop} (h : Q false σ) : HAll c σ .Or [] Q R := fun _ _ r => wpAny_allTrue_Or_nil ⟨σ, r, h⟩
theorem HAll_and {x : Expr} {rest : List Expr} {Q : Bool → St → Prop} (h : HT c σ x (fun b σ₁ => (b = true → HAll c σ₁ .And rest Q R) ∧ (b = false → Q false σ₁)) R) : HAll c σ .And (x :: rest) Q R := by
  intro tm s r
  refine wpAny_allTrue_And_cons (wpAny_mono (h tm s r) (fun b s₁ ⟨σ₁, r₁, h₁⟩ => ?_) fun _ _ q => q)
  cases b with
  | true => exact h₁.1 rfl tm s₁ r₁
  | false => exact ⟨σ₁, r₁, h₁.2 rfl⟩
theorem HAll_or {x : Expr} {rest : List Expr} {Q : Bool → St → Prop} (h : HT c σ x (fun b σ₁ => (b = true → Q true σ₁) ∧ (b = false → HAll c σ₁ .Or rest Q R)) R) : HAll c σ .Or (x :: rest) Q R := by
  intro tm s r
  refine wpAny_allTrue_Or_cons (wpAny_mono (h tm s r) (fun b s₁ ⟨σ₁, r₁, h₁⟩ => ?_) fun _ _ q => q)
  cases b with
  | true => exact ⟨σ₁, r₁, h₁.1 rfl⟩
  | false => exact h₁.2 rfl tm s₁ r₁
theorem HT_val {e : Expr} {Q : Bool → St → Prop} (h : HE c σ e (fun z σ₁ => HB c σ₁ truthy z Q R) R) (he : ∀ whole, isTrue e c.env whole = (do let v ← whole; standAt e.pos; holding [v] (truthy v))) : HT c σ e Q R :=
  fun tm s r => wpAny_isTrue_value (wpAny_mono (h tm s r) (fun v s₁ ⟨z, σ₁, r₁, h₁⟩ => h₁ v tm s₁ r₁) fun _ _ q => q) (he _)
theorem HE_ifexp {test body orelse : Expr} {pos : Pos} {Q : Post} (h : HT c σ test (fun b σ₁ => (b = true → HE c σ₁ body Q R) ∧ (b = false → HE c σ₁ orelse Q R)) R) : HE c σ (.IfExp test body orelse pos) Q R := by
  intro tm s r
  show wpAny _ _ (do if ← isTrue test c.env (eval test c.env) then eval body c.env else eval orelse c.env) _ _ s
  refine wpAny_bind (wpAny_mono (h tm s r) (fun b s₁ ⟨σ₁, r₁, h₁⟩ => ?_) fun _ _ q => q)
  cases b with
  | true => exact h₁.1 rfl tm s₁ r₁
  | false => exact h₁.2 rfl tm s₁ r₁
theorem HE_not {x : Expr} {pos : Pos} {Q : Post} (h : HE c σ x (fun z σ₁ => HB c σ₁ truthy z (fun b σ₂ => Q (.bool (!b)) σ₂) R) R) : HE c σ (.UnaryOp .Not x pos) Q R := by
  intro tm s r
  show wpAny _ _ (do let v ← eval x c.env; standAt pos; holding [v] (unaryOp .Not v)) _ _ s
  refine wpAny_bind (wpAny_mono (h tm s r) (fun v s₁ ⟨z, σ₁, r₁, h₁⟩ => wpAny_bind (wpAny_standAt (wpAny_holding (not_value (wpAny_mono (h₁ v tm s₁ r₁) (fun b s₂ ⟨σ₂, r₂, q⟩ => ?_) fun _ _ q => q))))) fun _ _ q => q)
  obtain ⟨m, mu, fz, fr, w⟩ := r₂
  exact ⟨_, σ₂, (w.push (.bool _)).rel, q⟩
end

section
variable {c : Cx} {σ : St} {R : RPost} {Q : Bool → St → Prop}
theorem HB_str {xs : List Nat} (hl : xs.length < 2 ^ 24) (q : Q (decide (xs ≠ [])) σ) : HB c σ truthy (.str xs) Q R := by
  intro u tm s r
  obtain ⟨_, h⟩ := r.at0
  obtain ⟨t, rfl⟩ := is_str h
  refine P.truthy_str (by rw [str_len]; omega) ?_
  obtain ⟨m, mu, fz, fr, w⟩ := r.drop1
  have e : (((⟨xs.toArray⟩ : Str).length : Int) != 0) = decide (xs ≠ []) := by rw [str_len]; cases xs <;> simp <;> omega
  rw [e]
  exact ⟨σ, w.tok.rel, q⟩
theorem HB_none (q : Q false σ) : HB c σ truthy .none Q R := by
  intro u tm s r
  obtain ⟨_, h⟩ := r.at0
  cases is_none h
  exact truthy_none ⟨σ, r.drop1, q⟩
theorem HB_int {a : Int} (q : Q (decide (a ≠ 0)) σ) : HB c σ truthy (.int a) Q R := by
  intro u tm s r
  obtain ⟨_, h⟩ := r.at0
  obtain ⟨t, rfl⟩ := is_int h
  refine P.truthy_int ?_
  have e : (a != 0) = decide (a ≠ 0) := by by_cases h : a = 0 <;> simp [h]
  rw [e]
  exact ⟨σ, r.drop1, q⟩
end
end Mine
end
section
open PySem PySem.W PySem.Calls PyProof.Rows
set_option autoImplicit false
set_option maxRecDepth 100000
namespace Mine

/-- room for k frames more -/
def Room (c : Cx) (k : Nat) : Prop := c.A.depth + k < 900 ∧ c.A.units + 20 * k < 9000

section
variable {c : Cx} {σ : St} {tm : List (Value × V)} {s : Shared} {m : Str → Option Value} {muts froz frs : Led}

def inner (c : Cx) (s : Shared) (froz frs : Led) (as : List Addr) (oL : Obj) (A' : Around) (qual : Str) (scope : Scope) (f : Addr) (cdv : Value) : Cx :=
  { prog := c.prog, w := c.w, h0 := c.h0, A := A', g := hideAll s.heap as, L := s.heap.objs.size, cn := qual, cs := scope, a := f, cd := cdv, outer := c.env :: c.outer, frs := (c.L, oL) :: frs, fz := froz, e := s }

theorem likeSlots_trans {p q r : Addr × Obj} (h : likeSlots p q) (h' : likeSlots q r) : likeSlots p r := by
  obtain ⟨a, sl, b⟩ := h
  obtain ⟨a', sl', b'⟩ := h'
  exact ⟨a.trans a', sl, by rw [b, b']⟩
theorem likeSlots_refl (p : Addr × Obj) : likeSlots p p := ⟨rfl, p.2.slots, rfl⟩
theorem all2_trans {frs frs' frs'' : Led} (h : All2 likeSlots frs frs') : All2 likeSlots frs' frs'' → All2 likeSlots frs frs'' := by
  induction h generalizing frs'' with
  | nil => exact id
  | cons a _ ih =>
    intro h
    cases h with
    | cons a' b' => exact .cons (likeSlots_trans a a') (ih b')
theorem all2_refl : ∀ l : Led, All2 likeSlots l l
  | [] => .nil
  | p :: l => .cons (likeSlots_refl p) (all2_refl l)

theorem zip_sub : ∀ (xs : List String) (ys : List V), SubL ((xs.zip ys).map (·.1)) xs
  | [], ys => by simpa using SubL.nil
  | x :: xs, [] => by
    rw [List.zip_nil_right, List.map_nil]
    exact .drop (by simpa using zip_sub xs [])
  | x :: xs, y :: ys => by
    rw [List.zip_cons_cons, List.map_cons]
    exact .keep (zip_sub xs ys)
theorem zip_lookup : ∀ (xs : List String) (us : List Value) (x : String) (v : Value), xs.Nodup → (x, v) ∈ xs.zip us → ((xs.map Str.ofString).zip us).reverse.lookup (Str.ofString x) = some v
  | [], _, _, _, _, h => by simp at h
  | _ :: _, [], _, _, _, h => by simp at h
  | y :: xs, u :: us, x, v, nd, h => by
    rw [List.map_cons, List.zip_cons_cons, List.reverse_cons, List.lookup_append]
    rw [List.zip_cons_cons] at h
    rcases List.mem_cons.mp h with h | h
    · cases h
      have : ((xs.map Str.ofString).zip us).reverse.lookup (Str.ofString y) = none := by
        rw [List.lookup_eq_none_iff]
        intro p hp
        rw [List.mem_reverse] at hp
        obtain ⟨k, hk1, hk2⟩ := List.mem_map.mp (List.of_mem_zip hp).1
        have ne : Str.ofString y ≠ p.1 := fun e => by
          rw [← hk2] at e
          exact (List.nodup_cons.mp nd).1 (ofString_inj e ▸ hk1)
        simpa using ne
      rw [this]; simp
    · rw [zip_lookup xs us x v (List.nodup_cons.mp nd).2 h]; rfl

theorem enter_W (w : RelW c σ tm s m muts froz frs) {A' : Around} {qual : Str} {scope : Scope} {f : Addr} {cdv : Value} {oL : Obj} (hL : s.heap.get? c.L = some oL)
    {h₁ : Heap} {k : Nat} {xs : List String} {us : List Value} {ys : List V} (hns : h₁.Ns s.heap.objs.size (fun x => ((xs.map Str.ofString).zip us).reverse.lookup x)) (hk : ∀ b o, s.heap.get? b = some o → h₁.get? b = some o)
    (nd : xs.Nodup) (hi : Are (rdOf c.h0 froz) us ys) :
    RelW (inner c s froz frs ((muts ++ froz ++ (c.L, oL) :: frs).map (·.1)) oL A' qual scope f cdv) ⟨xs.zip ys, σ.hp⟩ [] { s with heap := h₁, toks := k } (fun x => ((xs.map Str.ofString).zip us).reverse.lookup x) muts froz ((c.L, oL) :: frs) := by
  have nw : ∀ p ∈ muts ++ froz ++ (c.L, oL) :: frs, s.heap.get? p.1 = some p.2 := fun p hp => by
    rcases List.mem_append.mp hp with q | q
    · exact (w.nw p (List.mem_append_left _ q)).1
    · rcases List.mem_cons.mp q with rfl | q
      · exact hL
      · exact (w.nw p (List.mem_append_right _ q)).1
  refine ⟨rfl, rfl, rfl, ⟨hns, fun b o e => hk b o (of_hideAll _ e), Nat.le_of_eq (hideAll_size _ _)⟩, fun p hp => ⟨hk _ _ (nw p hp), Nat.ne_of_lt (Heap.lt_size (nw p hp)), hideAll_none _ (List.mem_map_of_mem hp)⟩, ?_, fun _ h => h, all2_refl _, ?_, ?_, w.hp, fun _ h => nomatch h⟩
  · have nd := w.nd
    have hn : c.L ∉ (muts ++ froz ++ frs).map (·.1) := fun q => by
      obtain ⟨p, hp, e⟩ := List.mem_map.mp q
      exact (w.nw p hp).2.1 e
    simp only [List.map_append, List.map_cons, List.append_assoc] at nd hn ⊢
    have P : (muts.map (·.1) ++ (froz.map (·.1) ++ c.L :: frs.map (·.1))).Perm (c.L :: (muts.map (·.1) ++ (froz.map (·.1) ++ frs.map (·.1)))) := by
      rw [← List.append_assoc, ← List.append_assoc]
      exact List.perm_middle
    exact P.nodup_iff.mpr (List.nodup_cons.mpr ⟨hn, nd⟩)
  · intro p hp
    have key : ∀ (xs : List String) (us : List Value) (ys : List V), Are (rdOf c.h0 froz) us ys → ∀ p ∈ xs.zip ys, ∃ v, (p.1, v) ∈ xs.zip us ∧ Is (rdOf c.h0 froz) v p.2 := by
      intro xs
      induction xs with
      | nil => intro us ys _ p hp; simp at hp
      | cons x xs ih =>
        intro us ys h p hp
        cases h with
        | nil => simp at hp
        | cons a b =>
          rw [List.zip_cons_cons] at hp
          rcases List.mem_cons.mp hp with rfl | hp
          · exact ⟨_, by rw [List.zip_cons_cons]; exact .head _, a⟩
          · obtain ⟨v, h1, h2⟩ := ih _ _ b p hp
            exact ⟨v, by rw [List.zip_cons_cons]; exact .tail _ h1, h2⟩
    obtain ⟨v, h1, h2⟩ := key xs us ys hi p hp
    exact ⟨v, zip_lookup xs us _ _ nd h1, h2⟩
  · exact (zip_sub xs ys).nodup nd

theorem return_W (w : RelW c σ tm s m muts froz frs) {A' : Around} {qual : Str} {scope : Scope} {f : Addr} {cdv : Value} {oL : Obj} (hL : s.heap.get? c.L = some oL) {σ' : St} {tm' : List (Value × V)} {s' : Shared}
    {m' : Str → Option Value} {muts' froz' frs' : Led} (w' : RelW (inner c s froz frs ((muts ++ froz ++ (c.L, oL) :: frs).map (·.1)) oL A' qual scope f cdv) σ' tm' s' m' muts' froz' frs') :
    ∃ oL' frs'', frs' = (c.L, oL') :: frs'' ∧ RelW c ⟨σ.loc, σ'.hp⟩ (tm' ++ tm) s' m muts' froz' frs'' := by
  have hfrs : All2 likeSlots frs' ((c.L, oL) :: frs) := w'.frs
  cases hfrs with
  | @cons p _ frs'' _ q hf =>
  obtain ⟨pL, oL'⟩ := p
  obtain ⟨q1, sl, q2⟩ := q
  have q3 : pL = c.L := q1
  have q4 : oL' = { oL with slots := sl } := q2
  clear q1 q2
  subst q3
  refine ⟨oL', frs'', rfl, ?_⟩
  have sub : ∀ b o, c.g.get? b = some o → (hideAll s.heap ((muts ++ froz ++ (c.L, oL) :: frs).map (·.1))).get? b = some o := fun b o e => by
    refine hideAll_get _ (w.fr.keep b o e) fun hb => ?_
    obtain ⟨p, hp, rfl⟩ := List.mem_map.mp hb
    rcases List.mem_append.mp hp with z | z
    · rw [(w.nw p (List.mem_append_left _ z)).2.2] at e; cases e
    · rcases List.mem_cons.mp z with rfl | z
      · rw [g_none w] at e; cases e
      · rw [(w.nw p (List.mem_append_right _ z)).2.2] at e; cases e
  have none_of : ∀ b, (hideAll s.heap ((muts ++ froz ++ (c.L, oL) :: frs).map (·.1))).get? b = none → c.g.get? b = none := fun b hb => by
    cases z : c.g.get? b with
    | none => rfl
    | some o => rw [sub b o z] at hb; cases hb
  have hL' : s'.heap.get? c.L = some oL' := (w'.nw (c.L, oL') (List.mem_append_right _ (.head _))).1
  obtain ⟨o, es, ep, ho, hd, r⟩ := w.fr.ns
  rw [hL] at ho
  cases ho
  have nd := w'.nd
  have P : (muts'.map (·.1) ++ (froz'.map (·.1) ++ c.L :: frs''.map (·.1))).Perm (c.L :: (muts'.map (·.1) ++ (froz'.map (·.1) ++ frs''.map (·.1)))) := by
    rw [← List.append_assoc, ← List.append_assoc]
    exact List.perm_middle
  simp only [List.map_append, List.map_cons, List.append_assoc] at nd
  have nd2 := List.nodup_cons.mp (P.nodup_iff.mp nd)
  have mm := rdOf_mono (h0 := c.h0) w'.fz
  have mem : ∀ p ∈ muts' ++ froz' ++ frs'', p ∈ muts' ++ froz' ++ (c.L, oL') :: frs'' := fun p hp => by
    rcases List.mem_append.mp hp with z | z
    · exact List.mem_append_left _ z
    · exact List.mem_append_right _ (.tail _ z)
  refine ⟨w'.gens.trans w.gens, w'.drawn.trans w.drawn, w'.os.trans w.os, ⟨⟨oL', es, ep, hL', by rw [q4]; exact hd, r⟩, fun b o e => w'.fr.keep b o (sub b o e), w.fr.above⟩,
    fun p hp => ⟨(w'.nw p (mem p hp)).1, fun e => ?_, none_of _ (w'.nw p (mem p hp)).2.2⟩, ?_, fun p hp => w'.fz p (w.fz p hp), all2_trans hf w.frs, ?_, w.ln, w'.hp, ?_⟩
  · refine nd2.1 ?_
    have : p.1 ∈ (muts' ++ froz' ++ frs'').map (·.1) := List.mem_map_of_mem hp
    rw [e] at this
    simpa only [List.map_append, List.append_assoc] using this
  · simpa only [List.map_append, List.append_assoc] using nd2.2
  · intro p hp
    obtain ⟨v, a, b⟩ := w.loc p hp
    exact ⟨v, a, b.mono mm⟩
  · intro p hp
    rcases List.mem_append.mp hp with z | z
    · exact w'.tm p z
    · exact (w.tm p z).mono mm

theorem zip_are {rd : Rd} : ∀ {us : List Value} {ys : List V}, us.length = ys.length → (∀ p ∈ us.zip ys, Is rd p.1 p.2) → Are rd us ys
  | [], [], _, _ => .nil
  | u :: us, y :: ys, e, h => .cons (h (u, y) (by rw [List.zip_cons_cons]; exact .head _)) (zip_are (Nat.succ.inj e) fun p hp => h p (by rw [List.zip_cons_cons]; exact .tail _ hp))

theorem below_like {outer : List Env} {fr0 : Led} (hb : All2 (fun (env : Env) (q : Addr × Obj) => env.scope.kind ≠ .module ∧ env.frame = some q.1 ∧ ∀ vs, q.2.data ≠ .fields vs) outer fr0) :
    ∀ {frs : Led}, All2 likeSlots frs fr0 → All2 (fun (env : Env) (q : Addr × Obj) => env.scope.kind ≠ .module ∧ env.frame = some q.1 ∧ ∀ vs, q.2.data ≠ .fields vs) outer frs := by
  induction hb with
  | nil => intro _ h; cases h; exact .nil
  | cons a _ ih =>
    intro frs h
    cases h with
    | cons q hf =>
      refine .cons ⟨a.1, q.1 ▸ a.2.1, fun vs e2 => ?_⟩ (ih hf)
      obtain ⟨sl, e⟩ := q.2
      rw [e] at e2
      exact a.2.2 vs e2

/-- a call of a def of the text: what its body does, wherever it stands -/
theorem call_X {R : RPost} {Q : Post} (ok : c.Ok) {k : Nat} (room : Room c (k + 1)) {name qual : Str} {params : Arguments} {body : List Stmt} {scope : Scope} {dV kV doc pm cdv ct oc : Value} {an od : Option Addr} {osl : Array (Option Value)} {f : Addr} {xs : List String} {ys : List V}
    (ho : c.h0.get? f = some ⟨oc, od, .func (fnOf name qual params body scope dV kV doc pm an cdv ct), osl⟩) (hcd : c.h0.CodeRec cdv qual) (hlim : c.h0.NoLimit)
    {us : List Value} (hbind : ∀ s : Shared, (∀ b o, c.h0.get? b = some o → s.heap.get? b = some o) → BindsTo s (fnOf name qual params body scope dV kV doc pm an cdv ct) ⟨us, []⟩ ((xs.map Str.ofString).zip us))
    (nd : xs.Nodup) (hloc : ∀ x ∈ xs, scope.names.lookup (Str.ofString x) = some .local)
    (r : Rel c σ (us.zip ys ++ tm) s) (hys : us.length = ys.length)
    (h : ∀ c' : Cx, c'.Ok → Room c' k → c'.prog = c.prog → c'.w = c.w → c'.h0 = c.h0 → c'.cs = scope → c'.A.handled = c.A.handled →
      HS c' ⟨xs.zip ys, σ.hp⟩ body (fun F σ' => match F with | .ret x => Q x ⟨σ.loc, σ'.hp⟩ | _ => Q .none ⟨σ.loc, σ'.hp⟩) (fun k σ' => R k ⟨σ.loc, σ'.hp⟩))
    (hco : scope.isCoroutine = false := by rfl) (hgen : scope.isGenerator = false := by rfl) (hk : scope.kind = .function := by rfl)
    (hcell : ∀ x ∈ scope.names, x.2 ≠ .cell := by decide) :
    wpAny (model c.prog c.w) c.A (call (.ref f) us) (fun v s' => ∃ x σ', Rel c σ' ((v, x) :: tm) s' ∧ Q x σ') (ExcE c R) s := by
  obtain ⟨m, mu, fz, fr, w⟩ := r
  have st := w.stays ok
  have hi : Are (rdOf c.h0 fz) us ys := zip_are hys fun p hp => w.tm p (List.mem_append_left _ hp)
  have w0 := w.pop (tm' := tm) fun p hp => List.mem_append_right _ hp
  obtain ⟨oL, es, ep, hL, hLd, hLr⟩ := w.fr.ns
  refine wpAny_call (codeAny_call_def (fd := fnOf name qual params body scope dV kV doc pm an cdv ct) (body := body) (binds := (xs.map Str.ofString).zip us) ?_ (st _ _ ho) rfl (hlim.keeps st) (hcd.keeps st) rfl (hbind s st) hcell ?_ (fun h₁ hns hk₁ => ?_) hco hgen hk)
  · have := room.1; show _ < 1000; omega
  · intro y hy
    obtain ⟨x, hx, e⟩ := List.mem_map.mp (List.of_mem_zip hy).1
    rw [← e]; exact hloc x hx
  have wi := enter_W w (A' := c.A.deeper (envOf qual scope s.heap.objs.size f cdv)) (qual := qual) (scope := scope) (f := f) (cdv := cdv) hL (k := s.toks + ((xs.map Str.ofString).zip us).length) hns hk₁ nd hi
  have ok' : (inner c s fz fr ((mu ++ fz ++ (c.L, oL) :: fr).map (·.1)) oL (c.A.deeper (envOf qual scope s.heap.objs.size f cdv)) qual scope f cdv).Ok := by
    refine ⟨hk, fun b o e => ?_, ?_, ?_, (by obtain ⟨a, o, vs, t, e1, e2, e3, _⟩ := hcd; exact ⟨a, o, vs, e1, e2, e3⟩)⟩
    · refine hideAll_get _ (st b o e) fun hb => ?_
      have eg := ok.stays b o e
      obtain ⟨p, hp, rfl⟩ := List.mem_map.mp hb
      rcases List.mem_append.mp hp with z | z
      · rw [(w.nw p (List.mem_append_left _ z)).2.2] at eg; cases eg
      · rcases List.mem_cons.mp z with rfl | z
        · rw [g_none w] at eg; cases eg
        · rw [(w.nw p (List.mem_append_right _ z)).2.2] at eg; cases eg
    · exact Around.frames_deeper ok.frames
    · refine .cons ⟨by show c.cs.kind ≠ .module; rw [ok.fn]; decide, rfl, fun vs q => by rw [hLd] at q; cases q⟩ ?_
      exact below_like ok.below w.frs
  have room' : Room (inner c s fz fr ((mu ++ fz ++ (c.L, oL) :: fr).map (·.1)) oL (c.A.deeper (envOf qual scope s.heap.objs.size f cdv)) qual scope f cdv) k := by
    refine ⟨?_, ?_⟩
    · have := room.1; show c.A.depth + 1 + k < 900; omega
    · have := room.2; show c.A.units + 3 + 20 * k < 9000; omega
  refine wpAny_mono (h _ ok' room' rfl rfl rfl rfl rfl _ wi.rel) (fun fl s' ⟨F, σ', r', q⟩ => ?_) fun e s' ⟨e', cls, σ', e1, r', q⟩ => ?_
  · have fin : ∀ {v : Value} {x : V} {tm' : List (Value × V)}, Rel (inner c s fz fr ((mu ++ fz ++ (c.L, oL) :: fr).map (·.1)) oL (c.A.deeper (envOf qual scope s.heap.objs.size f cdv)) qual scope f cdv) σ' tm' s' → (∀ rd, (∀ p ∈ tm', Is rd p.1 p.2) → Is rd v x) → Q x ⟨σ.loc, σ'.hp⟩ →
        ∃ x σ', Rel c σ' ((v, x) :: tm) s' ∧ Q x σ' := by
      rintro v x tm' ⟨m', mu', fz', fr', w'⟩ hv q
      obtain ⟨oL', fr'', -, w2⟩ := return_W w0 hL w'
      refine ⟨x, _, ((w2.push (hv _ fun p hp => w2.tm p (List.mem_append_left _ hp))).pop fun p hp => ?_).rel, q⟩
      rcases List.mem_cons.mp hp with rfl | hp
      · exact .head _
      · exact .tail _ (List.mem_append_right _ hp)
    cases fl <;> cases F <;> first
      | exact r'.elim
      | exact fin (tm' := []) r' (fun _ _ => .none) q
      | exact fin (tm' := [_]) r' (fun _ h => h _ (.head _)) q
  · subst e1
    refine leaving_X ok' (Around.frames_deeper ok.frames) r' fun s'' r'' => ?_
    obtain ⟨m', mu', fz', fr', w', x⟩ := r''
    obtain ⟨oL', fr'', rfl, w2⟩ := return_W w0 hL w'
    refine ⟨e', cls, ⟨σ.loc, σ'.hp⟩, rfl, ⟨m, mu', fz', fr'', w2.pop (tm' := []) (fun _ h => nomatch h), ?_⟩, q⟩
    obtain ⟨oe, vs, T, oT, ts, fl, a1, a2, a3, a4, a5, a6, a7, b1, b2, b3, b4, b5, b6, b7, b8⟩ := x
    have none_of : ∀ b, (hideAll s.heap ((mu ++ fz ++ (c.L, oL) :: fr).map (·.1))).get? b = none → c.g.get? b = none := fun b hb => by
      cases z : c.g.get? b with
      | none => rfl
      | some o =>
        have : (hideAll s.heap ((mu ++ fz ++ (c.L, oL) :: fr).map (·.1))).get? b = some o := by
          refine hideAll_get _ (w.fr.keep b o z) fun hb => ?_
          obtain ⟨p, hp, rfl⟩ := List.mem_map.mp hb
          rcases List.mem_append.mp hp with y | y
          · rw [(w.nw p (List.mem_append_left _ y)).2.2] at z; cases z
          · rcases List.mem_cons.mp y with rfl | y
            · rw [g_none w] at z; cases z
            · rw [(w.nw p (List.mem_append_right _ y)).2.2] at z; cases z
        rw [this] at hb; cases hb
    have mem : ∀ b, b ∉ (mu' ++ fz' ++ (c.L, oL') :: fr'').map (·.1) → b ≠ c.L ∧ b ∉ (mu' ++ fz' ++ fr'').map (·.1) := fun b hb => by
      simp only [List.map_append, List.map_cons, List.mem_append, List.mem_cons, not_or] at hb ⊢
      exact ⟨hb.2.1, hb.1, hb.2.2⟩
    exact ⟨oe, vs, a1, a2, a3, a4, none_of _ a5, (mem _ a7).1, (mem _ a7).2, .inr ⟨T, oT, ts, fl, b1, b2, b3, b4, b5, none_of _ b6, (mem _ b8).1, (mem _ b8).2⟩⟩
end
end Mine
end
section
open PySem PySem.W PySem.Calls PyProof.Rows
set_option autoImplicit false
set_option maxRecDepth 100000
namespace Mine

def HX (c : Cx) (σ : St) (es : List Expr) (Q : List V → St → Prop) (R : RPost) : Prop :=
  ∀ tm s, Rel c σ tm s → wpAny (model c.prog c.w) c.A (spliced (es.map fun e => (false, eval e c.env))) (fun vs s' => ∃ xs σ', Rel c σ' (vs.zip xs ++ tm) s' ∧ vs.length = xs.length ∧ Q xs σ') (ExcE c R) s

section
variable {c : Cx} {σ : St} {tm : List (Value × V)} {s : Shared} {R : RPost}

theorem Rel.pop {tm' : List (Value × V)} (r : Rel c σ tm s) (h : ∀ p ∈ tm', p ∈ tm) : Rel c σ tm' s := by
  obtain ⟨m, mu, fz, fr, w⟩ := r
  exact (w.pop h).rel

theorem HX_nil {Q : List V → St → Prop} (q : Q [] σ) : HX c σ [] Q R := fun _ _ r => spliced_nil ⟨[], σ, r, rfl, q⟩
theorem HX_cons {e : Expr} {rest : List Expr} {Q : List V → St → Prop} (h : HE c σ e (fun x σ₁ => HX c σ₁ rest (fun xs σ₂ => Q (x :: xs) σ₂) R) R) : HX c σ (e :: rest) Q R := by
  intro tm s r
  refine spliced_cons (wpAny_mono (h tm s r) (fun v s₁ ⟨x, σ₁, r₁, h₁⟩ => wpAny_mono (h₁ _ _ r₁) (fun vs s₂ ⟨xs, σ₂, r₂, hl, q⟩ => ?_) fun _ _ q => q) fun _ _ q => q)
  refine ⟨x :: xs, σ₂, r₂.pop fun p hp => ?_, congrArg (· + 1) hl, q⟩
  rw [List.zip_cons_cons, List.cons_append] at hp
  rcases List.mem_cons.mp hp with rfl | hp
  · exact List.mem_append_right _ (.head _)
  · rcases List.mem_append.mp hp with z | z
    · exact List.mem_append_left _ z
    · exact List.mem_append_right _ (.tail _ z)

theorem backTo_plain (pos : Pos) (es : List Expr) (env : Env) : backTo pos (es.map fun e => (false, eval e env)) = es.map fun e => (false, eval e env) := by
  unfold backTo
  rw [List.map_map]
  rfl
theorem plain_any (es : List Expr) (env : Env) : (es.map fun e => (false, eval e env)).any (·.1) = false := by
  induction es with
  | nil => rfl
  | cons e es ih => rw [List.map_cons, List.any_cons, ih]; rfl

/-- who keeps the arguments while it runs -/
def Keeps (c : Cx) (f : Value) : Prop := ∀ (M : Model) (h : Heap), (∀ b o, c.h0.get? b = some o → h.get? b = some o) → ∃ k, (k = Keeper.frame ∨ k = Keeper.machine ∨ k = Keeper.boundFrame) ∧ Looks M h (keeperOf f) k
theorem keeps_fn {f : Addr} {o : Obj} {fd : FuncData} (ho : c.h0.get? f = some o) (hd : o.data = .func fd) : Keeps c (.ref f) := by
  intro M h st
  refine ⟨.frame, .inl rfl, (Looks.ld (part := none) (st _ _ ho)).andThen ?_⟩
  rw [hd]
  exact .now
theorem keeps_builtin (id : String) : Keeps c (.builtin id) := fun _ _ _ => ⟨.machine, .inr (.inl rfl), .now⟩
theorem keeps_type (id : String) : Keeps c (.type id) := fun _ _ _ => ⟨.machine, .inr (.inl rfl), .now⟩

theorem callWith_X (ok : c.Ok) {pos : Pos} {f : Value} {first : List Value} {ys : List V} {args : List Expr} {Q : Post} (hk : Keeps c f) (hy : first.length = ys.length)
    (h : HX c σ args (fun xs σ₂ => HOs c σ₂ (fun us => call f us) (ys ++ xs) Q R) R) (r : Rel c σ (first.zip ys ++ tm) s) :
    wpAny (model c.prog c.w) c.A (callWith pos f first (args.map fun e => (false, eval e c.env)) []) (fun v s' => ∃ x σ', Rel c σ' ((v, x) :: tm) s' ∧ Q x σ') (ExcE c R) s := by
  have key : wpAny (model c.prog c.w) c.A (spliced (args.map fun e => (false, eval e c.env))) (fun vs s' => (∀ b o, c.h0.get? b = some o → s'.heap.get? b = some o) ∧ wpAny (model c.prog c.w) c.A (call f (first ++ vs)) (fun v s' => ∃ x σ', Rel c σ' ((v, x) :: tm) s' ∧ Q x σ') (ExcE c R) s') (ExcE c R) s := by
    refine wpAny_mono (h _ s r) (fun vs s' ⟨xs, σ₂, r₂, hl, h₂⟩ => ⟨?_, ?_⟩) fun _ _ q => q
    · obtain ⟨m, mu, fz, fr, w⟩ := r₂
      exact w.stays ok
    · refine h₂ (first ++ vs) tm s' ?_ (by simp [hy, hl])
      rw [List.zip_append hy, List.append_assoc]
      refine r₂.pop fun p hp => ?_
      simp only [List.mem_append] at hp ⊢
      rcases hp with z | z | z
      · exact .inr (.inl z)
      · exact .inl z
      · exact .inr (.inr z)
  refine callWith_of (P := fun h => ∀ b o, c.h0.get? b = some o → h.get? b = some o) (by rw [plain_any]; rfl) (fun h st => hk _ h st) ?_
  cases args with
  | nil =>
    unfold evalArgs
    show wpAny _ _ (spliced [] >>= _) _ _ _
    refine wpAny_bind (wpAny_mono key (fun vs s' h' => wpAny_bind (wpAny_pure ?_)) fun _ _ q => q)
    refine wpAny_holding ?_
    exact wpAny_bind (wpAny_pure (wpAny_bind (wpAny_pure (wpAny_pure h'))))
  | cons e args => exact evalArgs_plain key
end
end Mine
end
section
open PySem PySem.W PySem.Calls PyProof.Rows
set_option autoImplicit false
set_option maxRecDepth 100000
namespace Mine

/-- one of the objects that are stored into turns -/
inductive UpH : List (Addr × AO) → Addr × AO → AO → List (Addr × AO) → Prop
  | head {a : Addr} {o o' : AO} {t : List (Addr × AO)} : UpH ((a, o) :: t) (a, o) o' ((a, o') :: t)
  | tail {p q : Addr × AO} {o' : AO} {t t' : List (Addr × AO)} : UpH t p o' t' → UpH (q :: t) p o' (q :: t')
theorem UpH.mem {l l' : List (Addr × AO)} {p : Addr × AO} {o : AO} (h : UpH l p o l') : p ∈ l := by
  induction h with
  | head => exact .head _
  | tail _ ih => exact .tail _ ih

section
variable {c : Cx} {σ : St} {tm : List (Value × V)} {s : Shared} {m : Str → Option Value} {muts froz frs : Led} {R : RPost}

theorem all2_split {rd : Rd} {l l' : List (Addr × AO)} {p : Addr × AO} {o' : AO} (h : UpH l p o' l') : ∀ {mu : Led}, All2 (Tr rd) l mu →
    ∃ pre b o post, mu = pre ++ (b, o) :: post ∧ Tr rd p (b, o) ∧ ∀ o1, Tr rd (p.1, o') (b, o1) → All2 (Tr rd) l' (pre ++ (b, o1) :: post) := by
  induction h with
  | head =>
    intro mu h
    cases h with
    | @cons _ q _ l' a b => exact ⟨[], q.1, q.2, l', rfl, a, fun o1 t => .cons t b⟩
  | tail _ ih =>
    intro mu h
    cases h with
    | @cons _ q _ l' a b =>
      obtain ⟨pre, b', o, post, e, t, k⟩ := ih b
      exact ⟨q :: pre, b', o, post, by rw [e]; rfl, t, fun o1 t1 => .cons a (k o1 t1)⟩

theorem RelW.turn (w : RelW c σ tm s m muts froz frs) {p : Addr × AO} {o' : AO} {l' : List (Addr × AO)} (h : UpH σ.hp p o' l') :
    ∃ pre b o post, muts = pre ++ (b, o) :: post ∧ Tr (rdOf c.h0 froz) p (b, o) ∧ s.heap.get? b = some o ∧
      ∀ o1 h' k, Tr (rdOf c.h0 froz) (p.1, o') (b, o1) → Heap.SameBut b s.heap h' → h'.get? b = some o1 → RelW c ⟨σ.loc, l'⟩ tm { s with heap := h', toks := k } m (pre ++ (b, o1) :: post) froz frs := by
  obtain ⟨pre, b, o, post, e, t, k⟩ := all2_split h w.hp
  subst e
  have hb := w.nw (b, o) (by simp)
  refine ⟨pre, b, o, post, rfl, t, hb.1, fun o1 h' kk t1 hs hg => ?_⟩
  have nd := w.nd
  obtain ⟨oL, es, ep, hL, r⟩ := w.fr.ns
  refine ⟨w.gens, w.drawn, w.os, ⟨⟨oL, es, ep, (hs.2 _ (Ne.symm hb.2.1)).trans hL, r⟩, fun x y q => (hs.2 x fun z => ?_).trans (w.fr.keep x y q), w.fr.above⟩, fun p hp => ?_, ?_, w.fz, w.frs, w.loc, w.ln, k o1 t1, w.tm⟩
  · have q' : c.g.get? b = some y := by rw [← z]; exact q
    rw [hb.2.2] at q'; cases q'
  · have other : ∀ p ∈ (pre ++ (b, o) :: post) ++ froz ++ frs, p ≠ (b, o) → p.1 ≠ b → h'.get? p.1 = some p.2 ∧ p.1 ≠ c.L ∧ c.g.get? p.1 = none := fun p hp _ hne => ⟨(hs.2 _ hne).trans (w.nw p hp).1, (w.nw p hp).2⟩
    simp only [List.map_append, List.map_cons, List.append_assoc, List.cons_append] at nd
    have P : (pre.map (·.1) ++ b :: (post.map (·.1) ++ (froz.map (·.1) ++ frs.map (·.1)))).Perm (b :: (pre.map (·.1) ++ (post.map (·.1) ++ (froz.map (·.1) ++ frs.map (·.1))))) := List.perm_middle
    have nb := (List.nodup_cons.mp (P.nodup_iff.mp nd)).1
    have hne : p ∈ pre ∨ p ∈ post ∨ p ∈ froz ∨ p ∈ frs → p.1 ≠ b := fun q e => by
      refine nb ?_
      rw [← e]
      simp only [List.mem_append]
      rcases q with q | q | q | q
      · exact .inl (List.mem_map_of_mem q)
      · exact .inr (.inl (List.mem_map_of_mem q))
      · exact .inr (.inr (.inl (List.mem_map_of_mem q)))
      · exact .inr (.inr (.inr (List.mem_map_of_mem q)))
    simp only [List.mem_append, List.mem_cons] at hp
    rcases hp with ((q | rfl | q) | q) | q
    · have n := hne (.inl q)
      exact ⟨(hs.2 _ n).trans (w.nw p (by simp [q])).1, (w.nw p (by simp [q])).2⟩
    · exact ⟨hg, hb.2⟩
    · have n := hne (.inr (.inl q))
      exact ⟨(hs.2 _ n).trans (w.nw p (by simp [q])).1, (w.nw p (by simp [q])).2⟩
    · have n := hne (.inr (.inr (.inl q)))
      exact ⟨(hs.2 _ n).trans (w.nw p (by simp [q])).1, (w.nw p (by simp [q])).2⟩
    · have n := hne (.inr (.inr (.inr q)))
      exact ⟨(hs.2 _ n).trans (w.nw p (by simp [q])).1, (w.nw p (by simp [q])).2⟩
  · simpa only [List.map_append, List.map_cons] using nd

theorem tr_list {rd : Rd} {a : Addr} {xs : List V} {b : Addr} {o : Obj} (t : Tr rd (a, .list xs) (b, o)) : b = a ∧ ∃ vs n, o = { cls := .type "list", data := .seq vs.toArray n } ∧ Are rd vs xs := by
  cases t with
  | list h => exact ⟨rfl, _, _, rfl, h⟩

theorem setItem_plain {prog : Program} {wd : World} {A : Around} {E : Value → Shared → Prop} {l : Addr} {items : Array Value} {n : Nat} {k : Int} {t : Tok} {v : Value} {Q : Unit → Shared → Prop} (ho : s.heap.get? l = some { cls := .type "list", data := .seq items n })
    (h0 : 0 ≤ k) (hfit : k < 2 ^ 63) (hn : k < items.size)
    (hQ : ∀ h', h'.get? l = some { cls := .type "list", data := .seq (items.setIfInBounds k.toNat v) n } → Heap.SameBut l s.heap h' → Q () { s with heap := h' }) :
    wpAny (model prog wd) A (setItem (.ref l) (.int k t) v) Q E s := by
  have hl : s.heap.IsList l items := ⟨_, ho, rfl, n, rfl⟩
  unfold setItem
  try with_reducible refine wpAny_holding ?_
  first | refine wpAny_bind (wpAny_pure ?_) | skip
  refine wpAny_bind (wpAny_sequenceKey hl.typeIs (by decide) ?_)
  refine wpAny_bind (wpAny_callSpecial?_slot (name := Str.ofString "__setitem__") hl.typeIs slot_list_setitem
    (wpAny_call_entry slot_list_setitem hl.typeIs entry_list_setitem ?_ (args_list_setitem _ _ _)))
  show wpAny _ _ (Builtin.List.listSubscript? (.int k t) >>= _) _ _ s
  refine wpAny_bind (wpAny_listSubscript_int (fitsIndex_of h0 hfit) ?_)
  clear hfit
  obtain ⟨j, rfl⟩ := Int.eq_ofNat_of_zero_le h0
  have hj : j < items.size := by omega
  have hx' : items[j]? = some items[j] := Array.getElem?_eq_getElem hj
  show wpAny _ _ ((seqItemAt l j >>= fun r => pure (r.map (j, ·))) >>= _) _ _ s
  refine wpAny_bind (wpAny_bind (wpAny_seqItemAt ho rfl (wpAny_pure ?_)))
  rw [hx']
  show wpAny _ _ (setSeqItemAt l j v >>= _) _ _ s
  have e : Obj.mapSeq (·.setIfInBounds j v) { cls := .type "list", data := .seq items n } = { cls := .type "list", data := .seq (items.setIfInBounds j v) n } := by
    simp [Obj.mapSeq]
  have hfin : (s.heap.update l (Obj.mapSeq (·.setIfInBounds j v))).get? l = some { cls := .type "list", data := .seq (items.setIfInBounds j v) n } := by
    rw [Heap.get?_update_self _ ho (by rw [e]; rfl), e]
  refine wpAny_bind (wpAny_setSeqItemAt ho rfl ?_)
  first
    | exact wpAny_bind (wpAny_pure (wpAny_pure ⟨.none, rfl, wpAny_pure (hQ _ hfin (Heap.SameBut.update ..))⟩))
    | exact wpAny_pure ⟨.none, rfl, wpAny_pure (hQ _ hfin (Heap.SameBut.update ..))⟩

theorem RelW.is {y : V} {v : Value} (w : RelW c σ ((v, y) :: tm) s m muts froz frs) : Is (rdOf c.h0 froz) v y := w.tm _ (.head _)

/-- l.append(x), l a list that is stored into -/
theorem HO_append {a : Addr} {xs : List V} {y : V} {l' : List (Addr × AO)} {Q : Post} (hu : UpH σ.hp (a, .list xs) (.list (xs ++ [y])) l') (hl : xs.length < 2 ^ 20) (q : Q .none ⟨σ.loc, l'⟩) :
    HOs c σ (fun us => call (.builtin "list.append") us) [.ref a, y] Q R := by
  intro us tm s r hlen
  obtain ⟨u1, u2, rfl⟩ : ∃ u1 u2, us = [u1, u2] := by
    match us, hlen with
    | [a, b], _ => exact ⟨a, b, rfl⟩
  obtain ⟨m, mu, fz, fr, w⟩ := r
  have i1 := w.tm (u1, .ref a) (.head _)
  have i2 := w.tm (u2, y) (.tail _ (.head _))
  cases is_ref i1
  have w0 := w.pop (tm' := tm) fun p hp => .tail _ (.tail _ hp)
  obtain ⟨pre, b, o, post, e, t, hg, k⟩ := w0.turn hu
  obtain ⟨rfl, vs, n, rfl, hr⟩ := tr_list t
  refine wpAny_list_append_plain (items := vs.toArray) ⟨n, hg⟩ (fun h' hp hs => ?_) (by rw [List.size_toArray, are_len hr, show sizeLine = 2 ^ 24 from rfl]; omega)
  obtain ⟨n', hp⟩ := hp
  have ea : vs.toArray.push u2 = (vs ++ [u2]).toArray := by simp
  rw [ea] at hp
  have w1 := k _ h' s.toks (.list (are_app hr (.cons i2 .nil))) hs hp
  exact ⟨.none, _, (w1.push .none).rel, q⟩

/-- l[k] = v, l a list that is stored into -/
theorem setItem_X {a : Addr} {xs : List V} {y : V} {l' : List (Addr × AO)} {k : Int} {v u1 u2 : Value} {Q : St → Prop} {tm' : List (Value × V)} (hu : UpH σ.hp (a, .list xs) (.list (xs.set k.toNat y)) l') (h0 : 0 ≤ k) (hk : k < xs.length) (hl : xs.length < 2 ^ 20)
    (r : Rel c σ tm s) (i1 : (u1, V.ref a) ∈ tm) (i2 : (u2, V.int k) ∈ tm) (i3 : (v, y) ∈ tm) (hsub : ∀ p ∈ tm', p ∈ tm) (q : Q ⟨σ.loc, l'⟩) :
    wpAny (model c.prog c.w) c.A (setItem u1 u2 v) (fun _ s' => ∃ σ', Rel c σ' tm' s' ∧ Q σ') (ExcE c R) s := by
  obtain ⟨m, mu, fz, fr, w⟩ := r
  have j1 := w.tm _ i1
  have j2 := w.tm _ i2
  have j3 := w.tm _ i3
  cases is_ref j1
  obtain ⟨t2, rfl⟩ := is_int j2
  obtain ⟨pre, b, o, post, e, t, hg, kk⟩ := w.turn hu
  obtain ⟨rfl, vs, n, rfl, hr⟩ := tr_list t
  refine setItem_plain hg h0 (by omega) (by rw [List.size_toArray, are_len hr]; exact hk) fun h' hp hs => ?_
  have ea : vs.toArray.setIfInBounds k.toNat v = (vs.set k.toNat v).toArray := by simp
  rw [ea] at hp
  have w1 := kk _ h' s.toks (.list (are_set hr _ j3)) hs hp
  exact ⟨_, (w1.pop hsub).rel, q⟩

theorem mem_get (w : RelW c σ tm s m muts froz frs) {p : Addr × AO} (h : p ∈ σ.hp) : ∃ q ∈ muts, Tr (rdOf c.h0 froz) p q ∧ s.heap.get? q.1 = some q.2 := by
  obtain ⟨q, hq, t⟩ := all2_mem w.hp p h
  exact ⟨q, hq, t, (w.nw q (by simp [hq])).1⟩

/-- l[k], l a list that is stored into -/
theorem HO_item_list {value slice : Expr} {a : Addr} {xs : List V} {i : Int} {y : V} {Q : Post} (hs : ∀ o i, subscripted slice false o i = operate [o, i] (getItem o i)) (hm : (a, AO.list xs) ∈ σ.hp) (h0 : 0 ≤ i) (hf : i < 2 ^ 20) (hk : xs[i.toNat]? = some y) (q : Q y σ) :
    HO2 c σ (subscriptTail value slice) (.ref a) (.int i) Q R := by
  intro u1 u2 tm s r
  obtain ⟨m, mu, fz, fr, w⟩ := r
  obtain ⟨t2, rfl⟩ := is_int w.is
  cases is_ref (w.tm (u1, .ref a) (.tail _ (.head _)))
  obtain ⟨⟨b, o⟩, hq, t, hg⟩ := mem_get w hm
  obtain ⟨rfl, vs, n, rfl, hr⟩ := tr_list t
  obtain ⟨v, hv, hi⟩ := are_at hr hk
  have hl : s.heap.IsList b vs.toArray := ⟨_, hg, rfl, n, rfl⟩
  refine tail_any hl.typeIs slot_list_getitem.lookup (wpAny_getItem_list hl h0 (by omega) (by simpa using hv) ?_) (hs _ _)
  exact ⟨y, σ, ((w.pop (tm' := tm) fun p hp => .tail _ (.tail _ hp)).push hi).rel, q⟩
theorem getItem_X {a : Addr} {xs : List V} {i : Int} {y : V} {u1 u2 : Value} (r : Rel c σ tm s) (i1 : (u1, V.ref a) ∈ tm) (i2 : (u2, V.int i) ∈ tm) (hm : (a, AO.list xs) ∈ σ.hp) (h0 : 0 ≤ i) (hf : i < 2 ^ 20) (hk : xs[i.toNat]? = some y) {Q : Value → Shared → Prop} {E : Value → Shared → Prop}
    (q : ∀ v, Rel c σ ((v, y) :: tm) s → Q v s) : wpAny (model c.prog c.w) c.A (getItem u1 u2) Q E s := by
  obtain ⟨m, mu, fz, fr, w⟩ := r
  obtain ⟨t2, rfl⟩ := is_int (w.tm _ i2)
  cases is_ref (w.tm _ i1)
  obtain ⟨⟨b, o⟩, hq, t, hg⟩ := mem_get w hm
  obtain ⟨rfl, vs, n, rfl, hr⟩ := tr_list t
  obtain ⟨v, hv, hi⟩ := are_at hr hk
  have hl : s.heap.IsList b vs.toArray := ⟨_, hg, rfl, n, rfl⟩
  exact wpAny_getItem_list hl h0 (by omega) (by simpa using hv) (q v (w.push hi).rel)

theorem HA_item {o i : Expr} {pos : Pos} {y : V} {Q : St → Prop}
    (h : HE c σ o (fun ov σ₁ => HE c σ₁ i (fun iv σ₂ => ∃ a xs k l', ov = .ref a ∧ iv = .int k ∧ UpH σ₂.hp (a, .list xs) (.list (xs.set k.toNat y)) l' ∧ 0 ≤ k ∧ k < xs.length ∧ xs.length < 2 ^ 20 ∧ Q ⟨σ₂.loc, l'⟩) R) R) : HA c σ (.Subscript o i pos) y Q R := by
  intro v tm s r
  rw [arm_assign_Subscript]
  refine wpAny_bind (wpAny_holding (wpAny_mono (h _ s r) (fun ov s₁ ⟨xo, σ₁, r₁, h₁⟩ => wpAny_bind (wpAny_holding (wpAny_mono (h₁ _ s₁ r₁) (fun iv s₂ ⟨xi, σ₂, r₂, h₂⟩ => ?_) fun _ _ q => q))) fun _ _ q => q))
  obtain ⟨a, xs, k, l', rfl, rfl, hu, h0, hk, hl, q⟩ := h₂
  refine wpAny_bind (wpAny_standAt (wpAny_bind (wpAny_holding (wpAny_mono (setItem_X (Q := Q) (tm' := (v, y) :: tm) (R := R) hu h0 hk hl r₂ (.tail _ (.head _)) (.head _) (.tail _ (.tail _ (.head _))) (fun p hp => .tail _ (.tail _ hp)) q) (fun _ s₃ z => ?_) fun _ _ q => q))))
  exact wpAny_release z

theorem HS1_augItem {o i value : Expr} {tpos pos : Pos} {op : Operator} {Q : Fl → St → Prop}
    (h : HE c σ o (fun ov σ₁ => HE c σ₁ i (fun iv σ₂ => ∃ a xs k u, ov = .ref a ∧ iv = .int k ∧ (a, AO.list xs) ∈ σ₂.hp ∧ 0 ≤ k ∧ k < xs.length ∧ xs.length < 2 ^ 20 ∧ xs[k.toNat]? = some u ∧
      HE c σ₂ value (fun y σ₃ => HO2 c σ₃ (inplaceOp op) u y (fun z σ₄ => ∃ xs' l', xs'.length = xs.length ∧ UpH σ₄.hp (a, .list xs') (.list (xs'.set k.toNat z)) l' ∧ Q .next ⟨σ₄.loc, l'⟩) R) R) R) R)
    (ha : ∀ ov iv new, augStore i ov iv new = (do holding [new, ov, iv] (setItem ov iv new); release [new, ov, iv] []; pure .next)) :
    HS1 c σ (.AugAssign (.Subscript o i tpos) op value pos) Q R := by
  intro s r
  refine wpAny_AugAssign_SubscriptAny (wpAny_mono (h [] s r) (fun ov s₁ ⟨xo, σ₁, r₁, h₁⟩ => wpAny_mono (h₁ _ s₁ r₁) (fun iv s₂ ⟨xi, σ₂, r₂, h₂⟩ => ?_) fun _ _ q => q) fun _ _ q => q) ha
  obtain ⟨a, xs, k, u, rfl, rfl, hm, h0, hk, hl, hx, h₃⟩ := h₂
  refine getItem_X r₂ (.tail _ (.head _)) (.head _) hm h0 (by omega) hx fun old r₃ => ?_
  refine wpAny_mono (h₃ _ s₂ r₃) (fun v s₃ ⟨y, σ₃, r₄, h₄⟩ => wpAny_mono (h₄ _ _ _ s₃ r₄) (fun new s₄ ⟨z, σ₄, r₅, h₅⟩ => ?_) fun _ _ q => q) fun _ _ q => q
  obtain ⟨xs', l', hl', hu, q⟩ := h₅
  refine wpAny_mono (setItem_X (Q := Q .next) (tm' := []) (R := R) hu h0 (by rw [hl']; exact hk) (by rw [hl']; exact hl) r₅ (.tail _ (.tail _ (.head _))) (.tail _ (.head _)) (.head _) (fun _ h => nomatch h) q) (fun _ s₅ ⟨σ₅, r₆, q⟩ => ⟨.next, σ₅, r₆, q⟩) fun _ _ q => q
end
end Mine
end
section
open PySem PySem.W PySem.Calls PyProof.Rows
set_option autoImplicit false
set_option maxRecDepth 100000
namespace Mine

section
variable {c : Cx} {σ : St} {tm : List (Value × V)} {s : Shared} {m : Str → Option Value} {muts froz frs : Led} {R : RPost}

theorem zip_all {rd : Rd} {vs : List Value} {xs : List V} (e : vs.length = xs.length) (w : ∀ p ∈ vs.zip xs ++ tm, Is rd p.1 p.2) : Are rd vs xs :=
  zip_are e fun p hp => w p (List.mem_append_left _ hp)

theorem display_sz {vs : List Value} {xs : List V} (e : vs.length = xs.length) (h : xs.length ≤ 1000) : vs.length ≤ sizeLine := by
  rw [e, show sizeLine = 2 ^ 24 from rfl]; omega

/-- [..], stored into by nothing -/
theorem HE_lst {elts : List Expr} {pos : Pos} {Q : Post} (hs : starEach elts c.env = elts.map fun e => (false, eval e c.env)) (h : HX c σ elts (fun xs σ₁ => xs.length ≤ 1000 ∧ Q (.lst xs) σ₁) R) : HE c σ (.List elts pos) Q R := by
  intro tm s r
  refine List_ ?_
  rw [hs, backTo_plain]
  refine wpAny_mono (h tm s r) (fun vs s₁ ⟨xs, σ₁, ⟨m, mu, fz, fr, w⟩, hl, hz, q⟩ => ?_) fun _ _ q => q
  have ar := zip_all hl w.tm
  have w0 := w.pop (tm' := tm) fun p hp => List.mem_append_right _ hp
  refine newList_N w0.fr w0.nw (fun h' F N => ?_) (display_sz hl hz)
  have w1 := w0.froze' (k := s₁.toks) F N
  exact ⟨_, σ₁, (w1.push (.lst (.inl (.head _)) (ar.mono (rdOf_mono fun p hp => .tail _ hp)))).rel, q⟩
/-- (..,) -/
theorem HE_tup {elts : List Expr} {k : Nat} {pos : Pos} {Q : Post} (hs : starEach elts c.env = elts.map fun e => (false, eval e c.env)) (h : HX c σ elts (fun xs σ₁ => xs.length ≤ 1000 ∧ Q (.tup xs) σ₁) R) : HE c σ (.Tuple elts k pos) Q R := by
  intro tm s r
  refine Tuple_ ?_
  rw [hs, backTo_plain]
  refine wpAny_mono (h tm s r) (fun vs s₁ ⟨xs, σ₁, ⟨m, mu, fz, fr, w⟩, hl, hz, q⟩ => ?_) fun _ _ q => q
  have ar := zip_all hl w.tm
  have w0 := w.pop (tm' := tm) fun p hp => List.mem_append_right _ hp
  refine newTuple_N w0.fr w0.nw (fun h' F N => ?_) (display_sz hl hz)
  have w1 := w0.froze' (k := s₁.toks) F N
  exact ⟨_, σ₁, (w1.push (.tup (.inl (.head _)) (ar.mono (rdOf_mono fun p hp => .tail _ hp)))).rel, q⟩
/-- [..], to be stored into -/
theorem HE_list {elts : List Expr} {pos : Pos} {Q : Post} (hs : starEach elts c.env = elts.map fun e => (false, eval e c.env)) (h : HX c σ elts (fun xs σ₁ => xs.length ≤ 1000 ∧ ∀ a, Q (.ref a) ⟨σ₁.loc, (a, .list xs) :: σ₁.hp⟩) R) : HE c σ (.List elts pos) Q R := by
  intro tm s r
  refine List_ ?_
  rw [hs, backTo_plain]
  refine wpAny_mono (h tm s r) (fun vs s₁ ⟨xs, σ₁, ⟨m, mu, fz, fr, w⟩, hl, hz, q⟩ => ?_) fun _ _ q => q
  have ar := zip_all hl w.tm
  have w0 := w.pop (tm' := tm) fun p hp => List.mem_append_right _ hp
  refine newList_N w0.fr w0.nw (fun h' F N => ?_) (display_sz hl hz)
  have w1 := w0.track (k := s₁.toks) F N (fun q hq => Nat.ne_of_lt (Heap.lt_size (w0.nw q hq).1)) (.list ar)
  exact ⟨_, _, (w1.push (.ref _)).rel, q _⟩

/-- what is a list, stored into or not -/
def LstOf (σ : St) (y : V) (xs : List V) : Prop := y = .lst xs ∨ ∃ a, y = .ref a ∧ (a, AO.list xs) ∈ σ.hp
theorem lst_at (ok : c.Ok) (w : RelW c σ tm s m muts froz frs) {v : Value} {y : V} {xs : List V} (hi : (v, y) ∈ tm) (h : LstOf σ y xs) : ∃ a vs n, v = .ref a ∧ s.heap.get? a = some { cls := .type "list", data := .seq vs.toArray n } ∧ Are (rdOf c.h0 froz) vs xs := by
  rcases h with rfl | ⟨a, rfl, hm⟩
  · obtain ⟨a, vs, n, rfl, hr, e⟩ := is_lst (w.tm _ hi)
    refine ⟨a, vs, n, rfl, ?_, e⟩
    rcases hr with hr | hr
    · exact (w.nw (a, _) (by simp [hr])).1
    · exact w.stays ok _ _ hr
  · cases is_ref (w.tm _ hi)
    obtain ⟨⟨b, o⟩, hq, t, hg⟩ := mem_get w hm
    obtain ⟨rfl, vs, n, rfl, hr⟩ := tr_list t
    exact ⟨_, vs, n, rfl, hg, hr⟩
theorem HO_add_lst (ok : c.Ok) {y z : V} {xs ys : List V} {Q : Post} (h1 : LstOf σ y xs) (h2 : LstOf σ z ys) (hl : xs.length + ys.length ≤ 2 ^ 24) (q : Q (.lst (xs ++ ys)) σ) : HO2 c σ (binaryOp .Add) y z Q R := by
  intro u1 u2 tm s r
  obtain ⟨m, mu, fz, fr, w⟩ := r
  obtain ⟨a, vs, n, rfl, g1, e1⟩ := lst_at ok w (.tail _ (.head _)) h1
  obtain ⟨b, us, k, rfl, g2, e2⟩ := lst_at ok w (.head _) h2
  have w0 := w.pop (tm' := tm) fun p hp => .tail _ (.tail _ hp)
  refine P.add_list g1 g2 ?_ (by rw [List.size_toArray, List.size_toArray, are_len e1, are_len e2, show sizeLine = 2 ^ 24 from rfl]; exact hl)
  have ea : vs.toArray ++ us.toArray = (vs ++ us).toArray := by simp
  rw [ea]
  have w1 := w0.froze' (k := s.toks) (w0.fr.push _) (w0.nw.push w0.fr { cls := .type "list", data := .seq (vs ++ us).toArray })
  exact ⟨_, σ, (w1.push (.lst (.inl (.head _)) ((are_app e1 e2).mono (rdOf_mono fun p hp => .tail _ hp)))).rel, q⟩
theorem HO_len_lst (ok : c.Ok) {y : V} {xs : List V} {Q : Post} (h1 : LstOf σ y xs) (hl : xs.length < 2 ^ 24) (q : Q (.int xs.length) σ) : HOs c σ (fun us => call (.builtin "len") us) [y] Q R := by
  intro us tm s r hlen
  obtain ⟨u1, rfl⟩ : ∃ u1, us = [u1] := by
    match us, hlen with
    | [a], _ => exact ⟨a, rfl⟩
  obtain ⟨m, mu, fz, fr, w⟩ := r
  obtain ⟨a, vs, n, rfl, g1, e1⟩ := lst_at ok w (.head _) h1
  have w0 := w.pop (tm' := tm) fun p hp => .tail _ hp
  refine call_len_list ⟨_, g1, rfl, n, rfl⟩ (by rw [List.size_toArray, are_len e1]; omega) ?_
  rw [List.size_toArray, are_len e1]
  exact val_step w0.rel (fun _ => .int _ _) q
theorem HO_len_str {xs : List Nat} {Q : Post} (hl : xs.length < 2 ^ 24) (q : Q (.int xs.length) σ) : HOs c σ (fun us => call (.builtin "len") us) [.str xs] Q R := by
  intro us tm s r hlen
  obtain ⟨u1, rfl⟩ : ∃ u1, us = [u1] := by
    match us, hlen with
    | [a], _ => exact ⟨a, rfl⟩
  obtain ⟨rd, hi⟩ := Rel.at0 (tm := tm) (p := (u1, .str xs)) r
  obtain ⟨t, rfl⟩ := is_str hi
  refine P.len_str (by rw [str_len]; omega) ?_
  rw [str_len]
  exact val_step (Rel.drop1 (p := (Value.str ⟨xs.toArray⟩ t, V.str xs)) r) (fun _ => .int _ _) q

/-- k in [..] of texts -/
def strsV (yss : List (List Nat)) : List V := yss.map .str
theorem strs_are {rd : Rd} : ∀ {vs : List Value} {yss : List (List Nat)}, Are rd vs (strsV yss) → StrsAre vs (yss.map fun y => ⟨y.toArray⟩)
  | [], [], _ => .nil
  | v :: vs, y :: yss, h => by
    cases h with
    | cons a b =>
      obtain ⟨t, rfl⟩ := is_str a
      exact .cons _ _ (strs_are b)
theorem any_str (xs : List Nat) : ∀ yss : List (List Nat), ((yss.map fun y => (⟨y.toArray⟩ : Str)).any (· == ⟨xs.toArray⟩)) = decide (xs ∈ yss)
  | [] => by simp
  | y :: yss => by
    rw [List.map_cons, List.any_cons, any_str xs yss]
    by_cases h : y = xs
    · subst h; simp
    · have : ((⟨y.toArray⟩ : Str) == ⟨xs.toArray⟩) = false := by
        rw [beq_eq_false_iff_ne]
        intro e
        apply h
        have := congrArg (fun z : Str => z.cps.toList) e
        simpa using this
      rw [this]
      simp [Ne.symm h]
theorem HO_in_lst (ok : c.Ok) {y : V} {xs : List Nat} {yss : List (List Nat)} {Q : Post} (h : LstOf σ y (strsV yss)) (q : Q (.bool (decide (xs ∈ yss))) σ) : HO2 c σ (compareOp .In) (.str xs) y Q R := by
  intro u1 u2 tm s r
  obtain ⟨m, mu, fz, fr, w⟩ := r
  obtain ⟨a, vs, n, rfl, g1, e1⟩ := lst_at ok w (.head _) h
  obtain ⟨t, rfl⟩ := is_str (w.tm (u1, _) (.tail _ (.head _)))
  have w0 := w.pop (tm' := tm) fun p hp => .tail _ (.tail _ hp)
  refine in_list_strs ⟨_, g1, rfl, n, rfl⟩ (strs_are e1) ?_
  rw [any_str]
  exact val_step0 w0.rel (fun _ => .bool _) q
theorem HO_notin_lst (ok : c.Ok) {y : V} {xs : List Nat} {yss : List (List Nat)} {Q : Post} (h : LstOf σ y (strsV yss)) (q : Q (.bool (decide (xs ∉ yss))) σ) : HO2 c σ (compareOp .NotIn) (.str xs) y Q R := by
  intro u1 u2 tm s r
  obtain ⟨m, mu, fz, fr, w⟩ := r
  obtain ⟨a, vs, n, rfl, g1, e1⟩ := lst_at ok w (.head _) h
  obtain ⟨t, rfl⟩ := is_str (w.tm (u1, _) (.tail _ (.head _)))
  have w0 := w.pop (tm' := tm) fun p hp => .tail _ (.tail _ hp)
  refine notin_list_strs ⟨_, g1, rfl, n, rfl⟩ (strs_are e1) ?_
  rw [any_str, show (!decide (xs ∈ yss)) = decide (xs ∉ yss) from by simp]
  exact val_step0 w0.rel (fun _ => .bool _) q

/-- what is called, of a value's kind -/
def fnV : V → Option Value
  | .ref a => some (.ref a)
  | .oth v => some v
  | _ => none
theorem fnV_is {rd : Rd} {v u : Value} {y : V} (h : Is rd v y) (e : fnV y = some u) : v = u := by
  cases h <;> simp [fnV] at e <;> exact e
theorem HE_call (ok : c.Ok) {func : Expr} {args : List Expr} {pos : Pos} {Q : Post} (hs : starEach args c.env = args.map fun e => (false, eval e c.env))
    (he : eval (.Call func args [] pos) c.env = (do callWith pos (← eval func c.env) [] (backTo pos (starEach args c.env)) (backToKw pos (keywordEach [] c.env))))
    (h : HE c σ func (fun y σ₁ => ∃ f, fnV y = some f ∧ Keeps c f ∧ HX c σ₁ args (fun xs σ₂ => HOs c σ₂ (fun us => call f us) xs Q R) R) R) : HE c σ (.Call func args [] pos) Q R := by
  intro tm s r
  rw [he, hs, backTo_plain]
  refine wpAny_bind (wpAny_mono (h tm s r) (fun v s₁ ⟨y, σ₁, r₁, f, ef, hk, h₁⟩ => ?_) fun _ _ q => q)
  obtain ⟨rd, hi⟩ := r₁.at0
  have := fnV_is hi ef
  subst this
  exact callWith_X (first := []) (ys := []) ok hk rfl h₁ r₁.drop1

/-- of a built-in type, whatever the state -/
def HasT (c : Cx) (σ : St) (y : V) (T : String) : Prop := ∀ tm s v, Rel c σ ((v, y) :: tm) s → s.TypeIs v T ∧ ∀ a, v = .ref a → ∃ ob, s.heap.get? a = some ob ∧ ob.dict = none
theorem hasT_str {xs : List Nat} : HasT c σ (.str xs) "str" := by
  intro tm s v r
  obtain ⟨_, h⟩ := r.at0
  obtain ⟨t, rfl⟩ := is_str h
  exact ⟨typeIs_str _ _ _, fun _ e => nomatch e⟩
theorem hasT_lst (ok : c.Ok) {y : V} {xs : List V} (h : LstOf σ y xs) : HasT c σ y "list" := by
  intro tm s v r
  obtain ⟨m, mu, fz, fr, w⟩ := r
  obtain ⟨a, vs, n, rfl, g1, _⟩ := lst_at ok w (.head _) h
  exact ⟨⟨_, g1, rfl⟩, fun b e => by cases e; exact ⟨_, g1, rfl⟩⟩
theorem HE_methB (ok : c.Ok) {o : Expr} {name : Str} {apos pos : Pos} {args : List Expr} {T id : String} {Q : Post} (pa : PlainAttrs T) (slot : Slot T name id) (hty : typeOf (.builtin id) = pure (.type "method_descriptor"))
    (hbase : attributeBase o name c.env (eval o c.env) = eval o c.env) (hs : starEach args c.env = args.map fun e => (false, eval e c.env)) (hn : args.length < 20) (hline : (apos.endLine == pos.line) = true)
    (h : HE c σ o (fun y σ₁ => HasT c σ₁ y T ∧ HX c σ₁ args (fun xs σ₂ => HOs c σ₂ (fun us => call (.builtin id) us) (y :: xs) Q R) R) R) : HE c σ (.Call (.Attribute o name apos) args [] pos) Q R := by
  intro tm s r
  refine wpAny_Call_method_lateS hbase ?_ hline (wpAny_mono (h tm s r) (fun v s₁ ⟨y, σ₁, r₁, hT, h₁⟩ => ?_) fun _ _ q => q)
  · rw [hs, backTo_plain]
    have e1 : (args.map fun e => (false, eval e c.env)).all (fun x => !x.1) = true := by
      rw [List.all_map]; exact List.all_eq_true.mpr fun _ _ => rfl
    rw [e1]
    simp [backToKw, keywordEach]; omega
  · obtain ⟨t1, t2⟩ := hT _ _ _ r₁
    refine ⟨T, id, pa, slot, hty, t1, t2, ?_⟩
    rw [hs, backTo_plain]
    exact callWith_X (first := [v]) (ys := [y]) ok (keeps_builtin id) rfl h₁ r₁
end
end Mine
end
section
open PySem PySem.W PySem.Calls PyProof.Rows
set_option autoImplicit false
set_option maxRecDepth 100000
namespace Mine

/-- the first place of a sign, from a place on -/
def findC (k : Nat) : List Nat → Nat → Option Nat
  | [], _ => none
  | x :: xs, i => if x = k then some i else findC k xs (i + 1)
def findI (k : Nat) (xs : List Nat) (lo : Nat) : Int := match findC k (xs.drop lo) lo with | some i => i | none => -1

theorem findC_some {k : Nat} : ∀ {xs : List Nat} {o i : Nat}, findC k xs o = some i → o ≤ i ∧ xs[i - o]? = some k ∧ ∀ j, o ≤ j → j < i → xs[j - o]? ≠ some k
  | [], _, _, h => by cases h
  | x :: xs, o, i, h => by
    unfold findC at h
    split at h
    · rename_i e
      cases h
      subst e
      exact ⟨Nat.le_refl _, by simp, fun j h1 h2 => absurd h1 (by omega)⟩
    · rename_i e
      obtain ⟨h1, h2, h3⟩ := findC_some h
      refine ⟨by omega, ?_, fun j g1 g2 => ?_⟩
      · rw [show i - o = (i - (o + 1)) + 1 from by omega]; simpa using h2
      · rcases Nat.eq_or_lt_of_le g1 with rfl | g1
        · simp [e]
        · rw [show j - o = (j - (o + 1)) + 1 from by omega]; simpa using h3 j g1 g2
theorem findC_none {k : Nat} : ∀ {xs : List Nat} {o : Nat}, findC k xs o = none → ∀ j : Nat, xs[j]? ≠ some k
  | [], _, _, j => by simp
  | x :: xs, o, h, j => by
    unfold findC at h
    split at h
    · cases h
    · rename_i e
      cases j with
      | zero => simp [e]
      | succ j => simpa using findC_none h j

theorem occ_findC (xs : List Nat) (k lo : Nat) : (match Builtin.Str.occurrences (⟨xs.toArray⟩ : Str) ⟨#[k]⟩ lo (⟨xs.toArray⟩ : Str).length 1 with | i :: _ => (i : Int) | [] => -1) = findI k xs lo := by
  have at_iff : ∀ i, StrLaws.At (⟨xs.toArray⟩ : Str) ⟨#[k]⟩ (⟨xs.toArray⟩ : Str).length i ↔ xs[i]? = some k := fun i => by
    unfold StrLaws.At
    rw [StrLaws.subAt_one]
  unfold findI
  rcases StrLaws.occ_head_from (⟨xs.toArray⟩ : Str) ⟨#[k]⟩ lo 1 (by decide) with ⟨h0, hn⟩ | ⟨i, r, h0, hlo, hat, hf⟩
  · rw [h0]
    cases e : findC k (xs.drop lo) lo with
    | none => rfl
    | some i =>
      obtain ⟨h1, h2, _⟩ := findC_some e
      refine absurd ?_ (hn i h1)
      rw [at_iff]
      rw [List.getElem?_drop, show lo + (i - lo) = i from by omega] at h2
      exact h2
  · rw [h0]
    rw [at_iff] at hat
    cases e : findC k (xs.drop lo) lo with
    | none =>
      have := findC_none e (i - lo)
      rw [List.getElem?_drop, show lo + (i - lo) = i from by omega] at this
      exact absurd hat this
    | some j =>
      obtain ⟨h1, h2, h3⟩ := findC_some e
      rw [List.getElem?_drop, show lo + (j - lo) = j from by omega] at h2
      have : i = j := by
        rcases Nat.lt_trichotomy i j with h | h | h
        · have := h3 i hlo h
          rw [List.getElem?_drop, show lo + (i - lo) = i from by omega] at this
          exact absurd hat this
        · exact h
        · exact absurd ((at_iff j).mpr h2) (hf j h1 h)
      rw [this]

section
variable {c : Cx} {σ : St} {R : RPost} {Q : Post} {xs : List Nat}
theorem HO_find1 {k : Nat} (q : Q (.int (findI k xs 0)) σ) : HOs c σ (fun us => call (.builtin "str.find") us) [.str xs, .str [k]] Q R := by
  intro us tm s r hlen
  obtain ⟨u1, u2, rfl⟩ : ∃ u1 u2, us = [u1, u2] := by
    match us, hlen with
    | [a, b], _ => exact ⟨a, b, rfl⟩
  obtain ⟨m, mu, fz, fr, w⟩ := r
  obtain ⟨t1, rfl⟩ := is_str (w.tm (u1, _) (.head _))
  obtain ⟨t2, rfl⟩ := is_str (w.tm (u2, _) (.tail _ (.head _)))
  have w0 := w.pop (tm' := tm) fun p hp => .tail _ (.tail _ hp)
  refine call_gives F.slot_str_find (typeIs_str _ _ _) F.entry_str_find (F.args_str_find_2 _ _) (gives_str_find _ _ _ _) ?_
  refine Eq.mp (congrArg (fun z => (Made.int z).post _ s) (occ_findC xs k 0).symm) ?_
  exact val_step w0.rel (fun _ => .int _ _) q
theorem HO_find2 {k : Nat} {i : Int} (h0 : 0 ≤ i) (q : Q (.int (findI k xs i.toNat)) σ) : HOs c σ (fun us => call (.builtin "str.find") us) [.str xs, .str [k], .int i] Q R := by
  intro us tm s r hlen
  obtain ⟨u1, u2, u3, rfl⟩ : ∃ u1 u2 u3, us = [u1, u2, u3] := by
    match us, hlen with
    | [a, b, d], _ => exact ⟨a, b, d, rfl⟩
  obtain ⟨m, mu, fz, fr, w⟩ := r
  obtain ⟨t1, rfl⟩ := is_str (w.tm (u1, _) (.head _))
  obtain ⟨t2, rfl⟩ := is_str (w.tm (u2, _) (.tail _ (.head _)))
  obtain ⟨t3, rfl⟩ := is_int (w.tm (u3, _) (.tail _ (.tail _ (.head _))))
  have w0 := w.pop (tm' := tm) fun p hp => .tail _ (.tail _ (.tail _ hp))
  refine call_gives F.slot_str_find (typeIs_str _ _ _) F.entry_str_find (F.args_str_find_3 _ _ _) (gives_str_find_from _ _ _ _ _ _) ?_
  have e : fromIndex (⟨xs.toArray⟩ : Str).length i = i.toNat := by
    unfold fromIndex
    rw [if_neg (by omega)]
    omega
  rw [e, show (⟨[k].toArray⟩ : Str) = ⟨#[k]⟩ from rfl]
  refine Eq.mp (congrArg (fun z => (Made.int z).post _ s) (occ_findC xs k i.toNat).symm) ?_
  exact val_step w0.rel (fun _ => .int _ _) q
end
end Mine
end
section
open PySem PySem.W PySem.Calls PyProof.Rows
set_option autoImplicit false
set_option maxRecDepth 100000
namespace Mine

section
variable {c : Cx} {σ : St} {tm : List (Value × V)} {s : Shared} {m : Str → Option Value} {muts froz frs : Led} {R : RPost} {Q : Post}

theorem HO_mul_int {a b : Int} (hm : IntMulOk a b) (q : Q (.int (a * b)) σ) : HO2 c σ (binaryOp .Mult) (.int a) (.int b) Q R := by
  intro _ _ tm s r; obtain ⟨_, _, rfl, rfl⟩ := two_ints r; exact P.mul_int (val_step r.drop2 (fun _ => .int _ _) q) hm
theorem HO_mod_int {a b : Int} (hb : b ≠ 0) (q : Q (.int (a.fmod b)) σ) : HO2 c σ (binaryOp .Mod) (.int a) (.int b) Q R := by
  intro _ _ tm s r; obtain ⟨_, _, rfl, rfl⟩ := two_ints r; exact mod_int' hb (val_step r.drop2 (fun _ => .int _ _) q)
theorem HO_fdiv_int {a b : Int} (hb : b ≠ 0) (hp : Builtin.divisionGoesByPylong a b = false) (q : Q (.int (a.fdiv b)) σ) : HO2 c σ (binaryOp .FloorDiv) (.int a) (.int b) Q R := by
  intro _ _ tm s r; obtain ⟨_, _, rfl, rfl⟩ := two_ints r; exact floordiv_int hb (val_step r.drop2 (fun _ => .int _ _) q) (.inl hp)
/-- one sign, n times over -/
theorem HO_mul_str {k : Nat} {n : Nat} (hn : n < 1000) (q : Q (.str (List.replicate n k)) σ) : HO2 c σ (binaryOp .Mult) (.str [k]) (.int n) Q R := by
  intro u1 u2 tm s r
  obtain ⟨_, h2⟩ := r.at0
  obtain ⟨_, h1⟩ := r.at1
  obtain ⟨t2, rfl⟩ := is_int h2
  obtain ⟨t1, rfl⟩ := is_str h1
  have hl : (⟨[k].toArray⟩ : Str).length = 1 := rfl
  refine P.mul_str ?_ ?_ ?_ ?_
  · simp only [Bool.or_eq_false_iff, decide_eq_false_iff_not]; omega
  · intro h1 _
    rw [hl]
    have : (1 : Int) ≤ (2 ^ 63 - 1) / (n : Int) := Int.le_ediv_of_mul_le (by omega) (by omega)
    omega
  · intro _ _
    rw [hl]
    show decide _ = false
    simp only [Nat.one_mul, Int.toNat_natCast, decide_eq_false_iff_not, show sizeLine = 2 ^ 24 from rfl]; omega
  · have rep : ∀ (m : Nat) (acc : Array Nat), (List.replicate m #[k]).foldl (· ++ ·) acc = acc ++ (List.replicate m k).toArray := by
      intro m
      induction m with
      | zero => intro acc; simp
      | succ m ih => intro acc; rw [List.replicate_succ, List.foldl_cons, ih, List.replicate_succ]; apply Array.toList_inj.mp; simp
    split
    · rename_i h
      have : n = 0 := by omega
      subst this
      refine ⟨by decide, val_step r.drop2 (fun _ => ?_) q⟩
      exact mk_str [] _
    · split
      · rename_i h h'
        have : n = 1 := by
          have : ((n : Int) == 1 || (1 : Nat) == 0) = true := h'
          simp at this; omega
        subst this
        exact val_step0 r.drop2 (fun _ => mk_str [k] _) q
      · rw [Int.toNat_natCast, rep]
        refine ⟨?_, val_step r.drop2 (fun _ => ?_) q⟩
        · show Str.length _ ≤ _
          simp [Str.length, show sizeLine = 2 ^ 24 from rfl]; omega
        · have : (⟨#[] ++ (List.replicate n k).toArray⟩ : Str) = ⟨(List.replicate n k).toArray⟩ := by simp
          rw [this]
          exact mk_str _ _
theorem HO_chr {i : Int} (h0 : 0 ≤ i) (h1 : i ≤ 0x10FFFF) (q : Q (.str [i.toNat]) σ) : HOs c σ (fun us => call (.builtin "chr") us) [.int i] Q R := by
  intro us tm s r hlen
  obtain ⟨u1, rfl⟩ : ∃ u1, us = [u1] := by
    match us, hlen with
    | [a], _ => exact ⟨a, rfl⟩
  obtain ⟨rd, hi⟩ := Rel.at0 (tm := tm) (p := (u1, .int i)) r
  obtain ⟨t, rfl⟩ := is_int hi
  refine P.chr_of_int (by simp only [Bool.or_eq_false_iff, decide_eq_false_iff_not]; omega) ?_
  exact val_step (Rel.drop1 (p := (Value.int i t, V.int i)) r) (fun _ => mk_str [i.toNat] _) q

/-- a fixed dict from signs to signs -/
def SignDict (c : Cx) (d : Addr) (g : Nat → Option Nat) : Prop :=
  (d == sysModules) = false ∧ ∃ f, c.h0.MapOf (PySem.strKind c.prog c.w) d f ∧ ∀ k, match g k with | some v => ∃ t, f ⟨#[k]⟩ = some (.str ⟨#[v]⟩ t) | none => f ⟨#[k]⟩ = none
theorem mapOf_keep (ok : c.Ok) (w : RelW c σ tm s m muts froz frs) {d : Addr} {f : Str → Option Value} (h : c.h0.MapOf (PySem.strKind c.prog c.w) d f) : s.heap.MapOf (PySem.strKind c.prog c.w) d f := by
  obtain ⟨o, es, ep, a, b⟩ := h
  exact ⟨o, es, ep, w.stays ok _ _ a, b⟩
theorem HO_in_dict (ok : c.Ok) {d : Addr} {g : Nat → Option Nat} {k : Nat} (hd : SignDict c d g) (q : Q (.bool (g k).isSome) σ) : HO2 c σ (compareOp .In) (.str [k]) (.ref d) Q R := by
  intro u1 u2 tm s r
  obtain ⟨m, mu, fz, fr, w⟩ := r
  cases is_ref (w.tm (u2, .ref d) (.head _))
  obtain ⟨t, rfl⟩ := is_str (w.tm (u1, _) (.tail _ (.head _)))
  have w0 := w.pop (tm' := tm) fun p hp => .tail _ (.tail _ hp)
  obtain ⟨h1, f, hf, hg⟩ := hd
  refine wpAny_in_of (k := ⟨[k].toArray⟩) (strKind_is _ _ _ _) h1 (mapOf_keep ok w hf) ?_
  have e : (f ⟨[k].toArray⟩).isSome = (g k).isSome := by
    have := hg k
    split at this
    · rename_i v e; obtain ⟨t, h⟩ := this; rw [e]; rw [show (⟨[k].toArray⟩ : Str) = ⟨#[k]⟩ from rfl, h]; rfl
    · rename_i e; rw [e]; rw [show (⟨[k].toArray⟩ : Str) = ⟨#[k]⟩ from rfl, this]; rfl
  rw [e]
  exact val_step w0.rel (fun _ => .bool _) q
theorem HO_item_dict (ok : c.Ok) {value slice : Expr} {d : Addr} {g : Nat → Option Nat} {k v : Nat} (hd : SignDict c d g) (hk : g k = some v) (hs : ∀ o i, subscripted slice false o i = operate [o, i] (getItem o i)) (q : Q (.str [v]) σ) :
    HO2 c σ (subscriptTail value slice) (.ref d) (.str [k]) Q R := by
  intro u1 u2 tm s r
  obtain ⟨m, mu, fz, fr, w⟩ := r
  obtain ⟨t, rfl⟩ := is_str (w.tm (u2, _) (.head _))
  cases is_ref (w.tm (u1, .ref d) (.tail _ (.head _)))
  have w0 := w.pop (tm' := tm) fun p hp => .tail _ (.tail _ hp)
  obtain ⟨h1, f, hf, hg⟩ := hd
  have := hg k
  rw [hk] at this
  obtain ⟨tv, hv⟩ := this
  have hm := mapOf_keep ok w hf
  refine tail_any hm.typeIs slot_dict_getitem.lookup (wpAny_getItem_of (k := ⟨[k].toArray⟩) (strKind_is _ _ _ _) hm hv ?_) (hs _ _)
  exact val_step w0.rel (fun _ => mk_str [v] _) q

/-- one of the objects that are stored into is forgotten -/
theorem RelW.drop {p : Addr × AO} {hp : List (Addr × AO)} {l : Loc} (w : RelW c ⟨l, p :: hp⟩ tm s m muts froz frs) : ∃ q mu', muts = q :: mu' ∧ Tr (rdOf c.h0 froz) p q ∧ RelW c ⟨l, hp⟩ tm s m mu' froz frs ∧ c.g.get? q.1 = none ∧ q.1 ≠ c.L ∧ q.1 ∉ (mu' ++ froz ++ frs).map (·.1) := by
  obtain ⟨a1, a2, a3, a4, a5, a6, a7, a8, a9, a10, a11, a12⟩ := w
  cases a11 with
  | @cons _ q _ mu' t r =>
    refine ⟨q, mu', rfl, t, ⟨a1, a2, a3, a4, fun p hp => a5 p (.tail _ hp), (List.nodup_cons.mp a6).2, a7, a8, a9, a10, r, a12⟩, (a5 q (.head _)).2.2, (a5 q (.head _)).2.1, (List.nodup_cons.mp a6).1⟩

def strIt (ty : String) (x : Str) (t : Tok) (i : Nat) : Obj := { cls := .type ty, data := .fields #[.str x t, .int i 0] }
/-- for k in a text -/
theorem HS1_for_str (ok : c.Ok) (hh : c.A.handled = none) {target iter : Expr} {body : List Stmt} {pos : Pos} {Q : Fl → St → Prop} (Inv : Nat → St → Prop)
    (hs : ∀ x, foldedSetIterable iter c.env x = pure x) (ht : ∀ it v, letOwnedTupleGo target it v = pure ())
    (h : HE c σ iter (fun y σ₁ => ∃ xs σ₀, y = .str xs ∧ Weak σ₀ σ₁ ∧ Inv 0 σ₀ ∧
      (∀ i k σ', xs[i]? = some k → Inv i σ' → ∀ a o, HA c ⟨σ'.loc, (a, .raw o) :: σ'.hp⟩ target (.str [k]) (fun σ'' => HS c σ'' body (fun F σ₂ => match F with
        | .next | .cont => ∃ σ₃ : St, Weak ⟨σ₃.loc, (a, .raw o) :: σ₃.hp⟩ σ₂ ∧ Inv (i + 1) σ₃
        | .brk => Q .next σ₂
        | .ret x => Q (.ret x) σ₂) R) R) ∧
      (∀ σ', Inv xs.length σ' → Q .next σ')) R) : HS1 c σ (.For target iter body [] pos) Q R := by
  intro s r
  have noted : ∀ {e : Value} {s' : Shared}, ExcE c R e s' → notedBy (model c.prog c.w) c.A c.env (fun e s' => cameBackBy (model c.prog c.w) c.A c.env (ExcE c R) e s') e s' := by
    rintro _ s' ⟨e, k, σ', rfl, a, b⟩
    exact noteFrame_X ok ok.frames a fun s'' r'' => cameBack_X r'' b
  refine wpAny_For (wpAny_mono (h [] s r) (fun xv s₁ ⟨y, σ₁, r₁, xs, σ₀, ey, hw, h0, turn, fin⟩ => ?_) fun _ _ q => q) hs
  subst ey
  obtain ⟨m, mu, fz, fr, w⟩ := r₁
  obtain ⟨t, rfl⟩ := is_str w.is
  have w0 := w.pop (tm' := []) fun _ h => nomatch h
  have key : ∀ ty, (∀ (s : Shared) (it : Addr) (x : Str) (t : Tok) (i c' : Nat) (Q : Option Value → Shared → Prop) (E : Value → Shared → Prop), s.heap.IsStrIter it ty x t i → x.cps[i]? = some c' →
      (∀ h', h'.IsStrIter it ty x t (i + 1) → Heap.SameBut it s.heap h' → Q (some (.str ⟨#[c']⟩ s.toks)) { s with heap := h', toks := s.toks + 1 }) → wpAny (model c.prog c.w) c.A (pyNext (.ref it)) Q E s) →
      (∀ (s : Shared) (it : Addr) (x : Str) (t : Tok) (i : Nat) (Q : Option Value → Shared → Prop) (E : Value → Shared → Prop), s.heap.IsStrIter it ty x t i → x.cps[i]? = none →
      (∀ h', Heap.ExtBut it s.heap h' → Q none { s with heap := h' }) → wpAny (model c.prog c.w) c.A (pyNext (.ref it)) Q E s) →
      codeAny (model c.prog c.w) c.A (.forLoop target (.ref s₁.heap.objs.size) body [] c.env) (fun r s' => match r with | .ok f => ∃ F σ', FlRel c σ' f F s' ∧ Q F σ' | .error e => cameBackBy (model c.prog c.w) c.A c.env (ExcE c R) e s') { s₁ with heap := s₁.heap.push { cls := .type ty, data := .fields #[.str ⟨xs.toArray⟩ t, .int 0 0] } } := by
    intro ty hitem hend
    refine codeAny_forLoop (fun n s => ∃ i o σ', n = xs.length + 1 - i ∧ i ≤ xs.length ∧ Inv i σ' ∧ Rel c ⟨σ'.loc, (s₁.heap.objs.size, .raw o) :: σ'.hp⟩ [] s ∧ o.cls = .type ty ∧ o.data = .fields #[.str ⟨xs.toArray⟩ t, .int i 0]) ?_ (xs.length + 1) ?_ (ht _)
    · rintro n s ⟨i, o, σ', rfl, hi, hI, ⟨m, mu, fz, fr, w⟩, ho1, ho2⟩
      have hm : (s₁.heap.objs.size, AO.raw o) ∈ (⟨σ'.loc, (s₁.heap.objs.size, .raw o) :: σ'.hp⟩ : St).hp := .head _
      cases hx : xs[i]? with
      | none =>
        have hie : i = xs.length := by
          have := List.getElem?_eq_none_iff.mp hx; omega
        subst hie
        obtain ⟨q, mu', rfl, tq, w', g1, g2, g3⟩ := w.drop
        cases tq
        have hg := (w.nw (s₁.heap.objs.size, o) (by simp)).1
        refine hend s _ ⟨xs.toArray⟩ t _ _ _ ⟨o, hg, ho1, ho2⟩ (by simp) fun h' he => wpAny_execs_nil ?_
        refine ⟨.next, σ', (w'.but (k := s.toks) (D := [s₁.heap.objs.size]) (fun b o q hb => he b o (by simpa using hb) q) (fun d hd => ?_)).rel, fin _ hI⟩
        rw [List.mem_singleton] at hd; subst hd; exact ⟨g1, g2, g3⟩
      | some k =>
        have hlt : i < xs.length := (List.getElem?_eq_some_iff.mp hx).1
        have hx' : (⟨xs.toArray⟩ : Str).cps[i]? = some k := by simpa using hx
        have hg : s.heap.get? s₁.heap.objs.size = some o := by
          obtain ⟨q, hq, t, hg⟩ := mem_get w hm
          cases t; exact hg
        refine hitem s _ ⟨xs.toArray⟩ t _ _ _ _ ⟨o, hg, ho1, ho2⟩ hx' fun h' hit hs' => ?_
        obtain ⟨o1, hg1, hc1, hd1⟩ := hit
        obtain ⟨pre, b, o', post, e, tq, hg', kk⟩ := w.turn (o' := .raw o1) UpH.head
        cases tq
        have w1 := kk o1 h' (s.toks + 1) .raw hs' hg1
        refine wpAny_mono (turn i k σ' hx hI _ o1 _ _ _ (w1.push (mk_str [k] s.toks)).rel) (fun _ s₂ ⟨σ₂, r₂, h₂⟩ => ?_) fun _ _ q => noted q
        refine wpAny_mono (h₂ _ r₂.drop1) (fun f s₃ ⟨F, σ₃, r₃, q⟩ => ?_) fun _ _ q => noted q
        cases f <;> cases F <;> first
          | exact r₃.elim
          | (obtain ⟨σ₄, hw', hI'⟩ := q; exact ⟨xs.length + 1 - (i + 1), by omega, i + 1, o1, σ₄, rfl, by omega, hI', Rel.weak hw' r₃, hc1, hd1⟩)
          | exact ⟨.next, σ₃, r₃, q⟩
          | exact ⟨_, σ₃, r₃, q⟩
    · have w1 := (w0.rel.weak hw)
      obtain ⟨m, mu, fz, fr, w1⟩ := w1
      have w2 := w1.track (k := s₁.toks) (w1.fr.push { cls := .type ty, data := .fields #[.str ⟨xs.toArray⟩ t, .int 0 0] }) (w1.nw.push w1.fr _) (fun q hq => Nat.ne_of_lt (Heap.lt_size (w1.nw q hq).1)) .raw
      exact ⟨0, _, σ₀, rfl, Nat.zero_le _, h0, w2.rel, rfl, rfl⟩
  cases ha : (⟨xs.toArray⟩ : Str).cps.all (· < 128) with
  | true => exact wpAny_pyIter_ascii ha (key _ (fun _ _ _ _ _ _ _ _ a b d => wpAny_pyNext_ascii_item a b d) (fun _ _ _ _ _ _ _ a b d => wpAny_pyNext_ascii_end hh a b d))
  | false => exact wpAny_pyIter_wide ha (key _ (fun _ _ _ _ _ _ _ _ a b d => wpAny_pyNext_wide_item a b d) (fun _ _ _ _ _ _ _ a b d => wpAny_pyNext_wide_end hh a b d))
end
end Mine
end
section
open PySem PySem.W PySem.Calls PyProof.Rows PySem.SeqAt
set_option autoImplicit false
set_option maxRecDepth 100000
namespace Mine

section
variable {c : Cx} {σ : St} {tm : List (Value × V)} {s : Shared} {m : Str → Option Value} {muts froz frs : Led} {R : RPost}

/-- a store of one value -/
def HF (c : Cx) (σ : St) (f : Value → Sem Unit) (x : V) (Q : St → Prop) (R : RPost) : Prop :=
  ∀ v tm s, Rel c σ ((v, x) :: tm) s → wpAny (model c.prog c.w) c.A (f v) (fun _ s' => ∃ σ', Rel c σ' ((v, x) :: tm) s' ∧ Q σ') (ExcE c R) s
/-- stores in order -/
def HAO (c : Cx) (σ : St) (fs : List (Value → Sem Unit)) (xs : List V) (Q : St → Prop) (R : RPost) : Prop :=
  ∀ vs tm s, Rel c σ (vs.zip xs ++ tm) s → vs.length = xs.length → wpAny (model c.prog c.w) c.A (assignInOrder fs vs) (fun _ s' => ∃ σ', Rel c σ' tm s' ∧ Q σ') (ExcE c R) s
theorem HAO_nil {Q : St → Prop} (q : Q σ) : HAO c σ [] [] Q R := by
  intro vs tm s r hl
  have : vs = [] := List.eq_nil_of_length_eq_zero hl
  subst this
  exact wpAny_pure ⟨σ, r, q⟩
theorem HAO_cons {f : Value → Sem Unit} {fs : List (Value → Sem Unit)} {x : V} {xs : List V} {Q : St → Prop} (h : HF c σ f x (fun σ₁ => HAO c σ₁ fs xs Q R) R) : HAO c σ (f :: fs) (x :: xs) Q R := by
  intro vs tm s r hl
  obtain ⟨v, vs, rfl⟩ : ∃ v us, vs = v :: us := by
    cases vs with
    | nil => cases hl
    | cons v us => exact ⟨v, us, rfl⟩
  show wpAny _ _ (do holding vs (f v); assignInOrder fs vs) _ _ s
  refine wpAny_bind (wpAny_holding (wpAny_mono (h v _ s r) (fun _ s₁ ⟨σ₁, r₁, q⟩ => ?_) fun _ _ q => q))
  exact q vs tm s₁ (r₁.drop1) (by simpa using hl)
theorem HF_of {t : Expr} {x : V} {Q : St → Prop} (h : HA c σ t x Q R) : HF c σ (assign t c.env) x Q R := h
theorem HF_bind {x : String} {y : V} {l : Loc} {Q : St → Prop} (hn : SetN x y σ.loc l) (hk : c.cs.kind = .function) (hx : c.env.kindOf (Str.ofString x) = some .local) (q : Q ⟨l, σ.hp⟩) : HF c σ (bindName c.env (Str.ofString x)) y Q R :=
  fun _ _ _ r => bindName_ (store_X r hn (.head _) hk hx fun _ r' => ⟨_, r', q⟩)

theorem tup_at (ok : c.Ok) (w : RelW c σ tm s m muts froz frs) {v : Value} {xs : List V} (hi : (v, V.tup xs) ∈ tm) : ∃ a vs n, v = .ref a ∧ s.heap.get? a = some { cls := .type "tuple", data := .seq vs.toArray n } ∧ Are (rdOf c.h0 froz) vs xs := by
  obtain ⟨a, vs, n, rfl, hr, e⟩ := is_tup (w.tm _ hi)
  refine ⟨a, vs, n, rfl, ?_, e⟩
  rcases hr with hr | hr
  · exact (w.nw (a, _) (by simp [hr])).1
  · exact w.stays ok _ _ hr
theorem are_zip {rd : Rd} : ∀ {vs : List Value} {xs : List V}, Are rd vs xs → ∀ p ∈ vs.zip xs, Is rd p.1 p.2
  | _, _, .nil, p, h => by cases h
  | _, _, .cons a b, p, h => by
    rw [List.zip_cons_cons] at h
    rcases List.mem_cons.mp h with rfl | h
    · exact a
    · exact are_zip b p h
/-- a, b = t -/
theorem HA_tup (ok : c.Ok) (hh : c.A.handled = none) {elts : List Expr} {k : Nat} {pos : Pos} {xs : List V} {Q : St → Prop} (hn : (assignEach elts c.env).length = xs.length) (hs : (assignEach elts c.env).findIdx? (·.1) = none)
    (h : HAO c σ ((assignEach elts c.env).map (·.2)) xs Q R) : HA c σ (.Tuple elts k pos) (.tup xs) Q R := by
  intro v tm s r
  obtain ⟨m, mu, fz, fr, w⟩ := r
  obtain ⟨a, vs, n, rfl, hg, e⟩ := tup_at ok w (.head _)
  refine assign_Tuple_tuple (items := vs.toArray) hh ⟨_, hg, rfl, n, rfl⟩ (by rw [hn, List.size_toArray, are_len e]) hs fun h' he => ?_
  have w1 := w.keeps (k := s.toks) (h' := h') fun b o q => he b o (Nat.ne_of_lt (Heap.lt_size q)) q
  refine wpAny_mono (h vs ((.ref a, .tup xs) :: tm) _ ⟨m, mu, fz, fr, { w1 with tm := fun p hp => ?_ }⟩ (are_len e)) (fun _ _ q => q) fun _ _ q => q
  rcases List.mem_append.mp hp with hp | hp
  · exact are_zip e p hp
  · exact w1.tm p hp
/-- a, b = x, y where the stores go the other way -/
theorem HS1_swap (ok : c.Ok) (hh : c.A.handled = none) {elts : List Expr} {k : Nat} {tpos : Pos} {value : Expr} {pos : Pos} {names : List Str} {Q : Fl → St → Prop}
    (hs : swapsWithSole [.Tuple elts k tpos] value pos.line c.env = pure false) (hw : swappedStores [.Tuple elts k tpos] value c.env = pure (some names))
    (h : HE c σ value (fun x σ₁ => ∃ xs, x = .tup xs ∧ names.length = xs.length ∧ HAO c σ₁ (names.reverse.map fun n => bindName c.env n) xs.reverse (Q .next) R) R) : HS1 c σ (.Assign [.Tuple elts k tpos] value pos) Q R := by
  intro s r
  refine Assign_Tuple_swapped (wpAny_mono (h [] s r) (fun v s₁ ⟨x, σ₁, r₁, xs, ex, hl, h₁⟩ => ?_) fun _ _ q => q) hs hw
  subst ex
  obtain ⟨m, mu, fz, fr, w⟩ := r₁
  obtain ⟨a, vs, n, rfl, hg, e⟩ := tup_at ok w (.head _)
  have hsz : names.length = vs.toArray.size := by rw [List.size_toArray, are_len e, hl]
  rw [hsz]
  refine unpackItems_tuple hh ⟨_, hg, rfl, n, rfl⟩ fun h' he => ?_
  have w1 := w.keeps (k := s₁.toks) (h' := h') fun b o q => he b o (Nat.ne_of_lt (Heap.lt_size q)) q
  refine wpAny_mono (h₁ vs.reverse [] _ ⟨m, mu, fz, fr, { w1 with tm := fun p hp => ?_ }⟩ (by simp [are_len e])) (fun _ _ ⟨σ', r', q⟩ => ⟨.next, σ', r', q⟩) fun _ _ q => q
  rw [List.append_nil] at hp
  refine are_zip ?_ p hp
  have rev : ∀ {vs : List Value} {xs : List V}, Are (rdOf c.h0 fz) vs xs → Are (rdOf c.h0 fz) vs.reverse xs.reverse := by
    intro vs xs h
    induction vs generalizing xs with
    | nil => cases h; exact .nil
    | cons v vs ih =>
      cases h with
      | cons a b => rw [List.reverse_cons, List.reverse_cons]; exact are_app (ih b) (.cons a .nil)
  exact rev e

/-- x is None -/
def isNoneV : V → Option Bool
  | .none => some true
  | .int _ | .str _ | .bool _ | .ref _ | .lst _ | .tup _ | .rcd _ _ => some false
  | .oth _ => none
theorem isNoneV_is {rd : Rd} {v : Value} {x : V} {b : Bool} (h : Is rd v x) (e : isNoneV x = some b) : (v == .none) = b := by
  cases h <;> cases e <;> rfl
theorem HO_is_none {x : V} {b : Bool} {Q : Post} (e : isNoneV x = some b) (q : Q (.bool b) σ) : HO2 c σ (compareOp .Is) x .none Q R := by
  intro u1 u2 tm s r
  obtain ⟨_, h2⟩ := r.at0
  obtain ⟨_, h1⟩ := r.at1
  cases is_none h2
  refine is_none_gen ?_
  rw [isNoneV_is h1 e]
  exact val_step0 r.drop2 (fun _ => .bool _) q
theorem HO_isnot_none {x : V} {b : Bool} {Q : Post} (e : isNoneV x = some b) (q : Q (.bool (!b)) σ) : HO2 c σ (compareOp .IsNot) x .none Q R := by
  intro u1 u2 tm s r
  obtain ⟨_, h2⟩ := r.at0
  obtain ⟨_, h1⟩ := r.at1
  cases is_none h2
  refine isnot_none_gen ?_
  rw [isNoneV_is h1 e]
  exact val_step0 r.drop2 (fun _ => .bool _) q

theorem HO_eq_none_nil (ok : c.Ok) (hu : c.A.units < cLine) {z : V} {ys : List V} {Q : Post} (hz : LstOf σ z ys) (q : Q (.bool false) σ) : HO2 c σ (compareOp .Eq) .none z Q R := by
  intro u1 u2 tm s r
  obtain ⟨m, mu, fz, fr, w⟩ := r
  obtain ⟨b, us, k, rfl, g2, e2⟩ := lst_at ok w (.head _) hz
  cases is_none (w.tm (u1, .none) (.tail _ (.head _)))
  exact RcAt.none_list ⟨_, g2, rfl, k, rfl⟩ hu _ _ _ _ (val_step0 (w.pop (tm' := tm) fun p hp => .tail _ (.tail _ hp)).rel (fun _ => .bool _) q)
/-- xs == [] -/
theorem HO_eq_lst_nil (ok : c.Ok) (hu : c.A.units < cLine) {y z : V} {xs : List V} {Q : Post} (hy : LstOf σ y xs) (hz : LstOf σ z []) (q : Q (.bool xs.isEmpty) σ) : HO2 c σ (compareOp .Eq) y z Q R := by
  intro u1 u2 tm s r
  obtain ⟨m, mu, fz, fr, w⟩ := r
  obtain ⟨b, us, k, rfl, g2, e2⟩ := lst_at ok w (.head _) hz
  obtain ⟨a, vs, n, rfl, g1, e1⟩ := lst_at ok w (.tail _ (.head _)) hy
  cases e2
  have w0 := w.pop (tm' := tm) fun p hp => .tail _ (.tail _ hp)
  cases e1 with
  | nil =>
    have h := RcAt.lists (A := c.A) (e := fun _ => true) (show s.heap.IsList a #[] from ⟨_, g1, rfl, n, rfl⟩) (show s.heap.IsList b #[] from ⟨_, g2, rfl, k, rfl⟩) rfl hu fun j h1 h2 => absurd h1 (by simp)
    exact h _ _ _ _ (val_step0 w0.rel (fun _ => .bool _) q)
  | @cons v vs x xs a1 a2 =>
    have h := RcAt.lists_lengths (A := c.A) (show s.heap.IsList a (v :: vs).toArray from ⟨_, g1, rfl, n, rfl⟩) (show s.heap.IsList b #[] from ⟨_, g2, rfl, k, rfl⟩) (by simp) hu
    exact h _ _ _ _ (val_step0 w0.rel (fun _ => .bool _) q)

theorem allTrue_range (n : Nat) : ((List.range n).all fun _ => true) = true := List.all_eq_true.mpr fun _ _ => rfl
inductive Deep : Nat → V → Prop
  | int {n : Nat} (i : Int) : Deep n (.int i)
  | str {n : Nat} (xs : List Nat) : Deep n (.str xs)
  | lst {n : Nat} {xs : List V} : (∀ x ∈ xs, Deep n x) → Deep (n + 1) (.lst xs)
  | tup {n : Nat} {xs : List V} : (∀ x ∈ xs, Deep n x) → Deep (n + 1) (.tup xs)
theorem eq_deep : ∀ (n : Nat) {x : V}, Deep n x → ∀ {rd : Rd} {A : Around} {s : Shared} {v u : Value}, (∀ a o, rd a o → s.heap.get? a = some o) → Is rd v x → Is rd u x → A.units + n < cLine → EqAt A s v u true := by
  have str_ : ∀ {x : List Nat} {rd : Rd} {A : Around} {s : Shared} {v u : Value}, Is rd v (.str x) → Is rd u (.str x) → EqAt A s v u true := by
    intro x rd A s v u h1 h2
    obtain ⟨t, rfl⟩ := is_str h1
    obtain ⟨t', rfl⟩ := is_str h2
    have := EqAt.str_str (A := A) (s := s) ⟨x.toArray⟩ t ⟨x.toArray⟩ t'
    simpa using this
  have int_ : ∀ {x : Int} {rd : Rd} {A : Around} {s : Shared} {v u : Value}, Is rd v (.int x) → Is rd u (.int x) → EqAt A s v u true := by
    intro x rd A s v u h1 h2
    obtain ⟨t, rfl⟩ := is_int h1
    obtain ⟨t', rfl⟩ := is_int h2
    have := EqAt.int_int (A := A) (s := s) x t x t'
    simpa using this
  intro n
  induction n with
  | zero =>
    intro x hd rd A s v u hr h1 h2 hu
    cases hd with
    | int i => exact int_ h1 h2
    | str i => exact str_ h1 h2
  | succ n ih =>
    intro x hd rd A s v u hr h1 h2 hu
    cases hd with
    | int i => exact int_ h1 h2
    | str i => exact str_ h1 h2
    | @lst _ xs hx =>
      obtain ⟨a, vs, k, rfl, g1, e1⟩ := is_lst h1
      obtain ⟨b, us, k', rfl, g2, e2⟩ := is_lst h2
      by_cases hab : a = b
      · subst hab; exact EqAt.same _
      · have l1 : s.heap.IsList a vs.toArray := ⟨_, hr _ _ g1, rfl, k, rfl⟩
        have l2 : s.heap.IsList b us.toArray := ⟨_, hr _ _ g2, rfl, k', rfl⟩
        have := RcAt.lists (A := A) (e := fun _ => true) l1 l2 (by simp [are_len e1, are_len e2]) (by omega) fun j h1 h2 => by
          have hj : j < xs.length := by rw [← are_len e1]; simpa using h1
          obtain ⟨v', hv, i1⟩ := are_at e1 (List.getElem?_eq_getElem hj)
          obtain ⟨u', hu', i2⟩ := are_at e2 (List.getElem?_eq_getElem hj)
          have q := ih (hx _ (List.getElem_mem hj)) (A := A.in1) (s := s) hr i1 i2 (by rw [PyProof.Rows.units_in1]; omega)
          rw [List.getElem_toArray, List.getElem_toArray]
          rw [(List.getElem?_eq_some_iff.mp hv).2, (List.getElem?_eq_some_iff.mp hu').2]
          exact q
        exact EqAt.of_refs hab (by rw [allTrue_range] at this; exact this)
    | @tup _ xs hx =>
      obtain ⟨a, vs, k, rfl, g1, e1⟩ := is_tup h1
      obtain ⟨b, us, k', rfl, g2, e2⟩ := is_tup h2
      by_cases hab : a = b
      · subst hab; exact EqAt.same _
      · have l1 : s.heap.IsTuple a vs.toArray := ⟨_, hr _ _ g1, rfl, k, rfl⟩
        have l2 : s.heap.IsTuple b us.toArray := ⟨_, hr _ _ g2, rfl, k', rfl⟩
        have := RcAt.tuples (A := A) (e := fun _ => true) l1 l2 (by omega) fun j h1 h2 => by
          have hj : j < xs.length := by rw [← are_len e1]; simpa using h1
          obtain ⟨v', hv, i1⟩ := are_at e1 (List.getElem?_eq_getElem hj)
          obtain ⟨u', hu', i2⟩ := are_at e2 (List.getElem?_eq_getElem hj)
          have q := ih (hx _ (List.getElem_mem hj)) (A := A.in1) (s := s) hr i1 i2 (by rw [PyProof.Rows.units_in1]; omega)
          rw [List.getElem_toArray, List.getElem_toArray]
          rw [(List.getElem?_eq_some_iff.mp hv).2, (List.getElem?_eq_some_iff.mp hu').2]
          exact q
        exact EqAt.of_refs hab (by rw [allTrue_range] at this; simpa [are_len e1, are_len e2] using this)

/-- xs[:-1] -/
theorem cut_last {xs : List Nat} (h : xs ≠ []) : Txt.slice (⟨xs.toArray⟩ : Str) none (some (-1)) = ⟨xs.dropLast.toArray⟩ := by
  have hn : 0 < xs.length := List.length_pos_iff.mpr h
  have e : Builtin.Str.strSliceIndices none (some (-1)) 1 xs.length = Builtin.Str.strSliceIndices (some ((0 : Nat) : Int)) (some ((xs.length - 1 : Nat) : Int)) 1 xs.length := by
    have h1 : ¬ (((0 : Nat) : Int) < 0) := by omega
    have h2 : ¬ (((xs.length - 1 : Nat) : Int) < 0) := by omega
    have h3 : ((-1 : Int) < 0) := by omega
    have e1 : max (0 : Int) (min (((0 : Nat) : Int)) (xs.length : Int)) = 0 := by omega
    have e2 : max (0 : Int) (min (((xs.length - 1 : Nat) : Int)) (xs.length : Int)) = ((xs.length - 1 : Nat) : Int) := by omega
    have e3 : max (0 : Int) (min (-1 + (xs.length : Int)) (xs.length : Int)) = ((xs.length - 1 : Nat) : Int) := by omega
    have e4 : min ((xs.length - 1 : Nat) : Int) (xs.length : Int) = ((xs.length - 1 : Nat) : Int) := by omega
    have e5 : max (0 : Int) ((xs.length - 1 : Nat) : Int) = ((xs.length - 1 : Nat) : Int) := by omega
    simp only [Builtin.Str.strSliceIndices, h1, h2, h3, if_false, if_true, e1, e3, e4, e5, show ((1 : Int) > 0) = True from by simp]
  have := cut_slice xs 0 (xs.length - 1)
  unfold Txt.slice at this ⊢
  rw [str_len] at this ⊢
  rw [e, this]
  unfold cut
  rw [List.drop_zero, List.dropLast_eq_take]
  rfl
theorem HE_slice_last {value hi : Expr} {p pos : Pos} {Q : Post} (h : HE c σ value (fun x σ₁ => HE c σ₁ hi (fun z σ₃ => ∃ xs, x = .str xs ∧ z = .int (-1) ∧ xs ≠ [] ∧ xs.length < 2 ^ 24 ∧ Q (.str xs.dropLast) σ₃) R) R) :
    HE c σ (.Subscript value (.Slice none (some hi) none p) pos) Q R := by
  intro tm s hr
  refine Subscript_ (wpAny_mono (h tm s hr) (fun vo s₁ ⟨x, σ₁, hr₁, h₁⟩ => wpAny_Slice ?_) fun _ _ x => x)
  rw [evalPart_none]
  refine wpAny_pure (wpAny_mono (h₁ _ _ hr₁) (fun vu s₃ ⟨z, σ₃, hr₃, h₃⟩ => ?_) fun _ _ x => x)
  obtain ⟨xs, rfl, rfl, hne, hl, q⟩ := h₃
  refine wpAny_pure ?_
  obtain ⟨m, mu, fz, fr, w⟩ := hr₃
  obtain ⟨t3, rfl⟩ := is_int (w.tm _ (.head _))
  obtain ⟨t1, rfl⟩ := is_str (w.tm _ (.tail _ (.head _)))
  have w' := (w.pop (tm' := tm) fun p hp => .tail _ (.tail _ hp))
  refine tail_any (ops := [.ref s₃.heap.objs.size, .str ⟨xs.toArray⟩ t1]) (typeIs_str _ _ _) F.slot_str_getitem.lookup (wpAny_getItem_str_slice (l := none) (u := some (_, t3)) (st := none) ⟨_, Heap.get?_push_size _ rfl, rfl, rfl⟩ rfl (post_val_or_str ?_)) rfl
  have e := cut_last hne
  unfold Txt.slice at e
  have hz : (⟨xs.dropLast.toArray⟩ : Str).length ≤ sizeLine := by
    rw [str_len, show sizeLine = 2 ^ 24 from rfl]; simp; omega
  refine ⟨?_, fun t' k => ?_⟩
  · exact e ▸ hz
  · have wp := w'.step (k := k) (w'.fr.push _) (fun p hp => (w'.nw.push w'.fr { cls := .type "slice", data := .fields #[.none, .int (-1) t3, .none] }) p (.tail _ hp))
    exact e ▸ ⟨_, _, (wp.push (mk_str _ _)).rel, q⟩
end
end Mine
end
section
open PySem PySem.W PySem.Calls PyProof.Rows
set_option autoImplicit false
set_option maxRecDepth 100000
namespace Mine

/-- an attribute turns, or is new -/
def putA (x : String) (y : V) : Loc → Loc
  | [] => [(x, y)]
  | p :: r => if p.1 = x then (x, y) :: r else p :: putA x y r
def getA (x : String) : Loc → Option V
  | [] => none
  | p :: r => if p.1 = x then some p.2 else getA x r
theorem key_is {x name : String} {t : Tok} : (Value.str (Str.ofString x) t).isStr (Str.ofString name) = decide (x = name) := by
  by_cases h : x = name
  · subst h; simp [Value.isStr]
  · have : Str.ofString x ≠ Str.ofString name := fun e => h (ofString_inj e)
    simp [Value.isStr, h, this]
theorem es_get {rd : Rd} {es : List DictEntry} {l : Loc} (e : EsAre rd es l) (name : String) : match getA name l with | some y => ∃ v, getL (Str.ofString name) es = some (some v) ∧ Is rd v y | none => getL (Str.ofString name) es = some none := by
  have any : es.any (·.refKey) = false := by
    induction e with
    | nil => rfl
    | cons a _ ih => rw [List.any_cons, ih]; rfl
  unfold getL
  rw [any]
  clear any
  induction e with
  | nil => rfl
  | @cons hs x t v u es l a _ ih =>
    unfold getA
    rw [List.find?_cons]
    show match (if x = name then some u else getA name l) with | some y => _ | none => _
    rw [key_is]
    by_cases h : x = name
    · rw [if_pos h, decide_eq_true h]; exact ⟨v, rfl, a⟩
    · rw [if_neg h, decide_eq_false h]; exact ih
theorem es_put {rd : Rd} {es : List DictEntry} {l : Loc} (e : EsAre rd es l) {name : String} {hs : Int} {t : Tok} {v : Value} {y : V} (i : Is rd v y) : EsAre rd (putL (Str.ofString name) hs (.str (Str.ofString name) t) v es) (putA name y l) := by
  induction e with
  | nil => exact .cons i .nil
  | @cons hs' x t' v' u es l a b ih =>
    unfold putA putL
    show EsAre rd (if (Value.str (Str.ofString x) t').isStr (Str.ofString name) then _ else _) (if x = name then _ else _)
    rw [key_is]
    by_cases h : x = name
    · rw [if_pos h, decide_eq_true h, if_pos rfl]
      subst h
      exact .cons i b
    · rw [if_neg h, decide_eq_false h, if_neg (by decide)]
      exact .cons a ih
theorem es_len {rd : Rd} {es : List DictEntry} {l : Loc} (e : EsAre rd es l) : es.length = l.length := by
  induction e with
  | nil => rfl
  | cons _ _ ih => rw [List.length_cons, List.length_cons, ih]
theorem putA_len (x : String) (y : V) : ∀ l : Loc, (putA x y l).length ≤ l.length + 1
  | [] => Nat.le_refl _
  | p :: r => by
    unfold putA
    have := putA_len x y r
    split <;> simp; omega
theorem tr_inst {rd : Rd} {x C d : Addr} {l : Loc} {b : Addr} {o : Obj} (t : Tr rd (x, .inst C d l) (b, o)) : b = d ∧ ∃ es n, o = dictOf es n ∧ EsAre rd es l ∧ rd x (instObj C d) := by
  cases t with
  | inst h e => exact ⟨rfl, _, _, rfl, e, h⟩
/-- what getAttr hands out as it is -/
def handV : V → Bool
  | .oth _ => false
  | _ => true
theorem handV_is {rd : Rd} {v : Value} {y : V} (h : Is rd v y) (e : handV y = true) : handedIn v = true := by
  cases h <;> first | rfl | cases e

/-- a class with plain attributes, in the fixed text -/
structure KC (K : Frag) (C : Addr) : Prop where
  get : findIn K (.ref C) "__getattribute__" = some (some (.builtin "object.__getattribute__"))
  geta : findIn K (.ref C) "__getattr__" = some none
  set : findIn K (.ref C) "__setattr__" = some (some (.builtin "object.__setattr__"))
  dict : hasDictIn K C = true
  over : plainOver K C = true
theorem KC.plain {K : Frag} {C : Addr} (k : KC K C) (name : Str) : plainGet K C name = true := by
  unfold plainGet
  rw [k.get, k.geta]; decide

section
variable {c : Cx} {σ : St} {tm : List (Value × V)} {s : Shared} {m : Str → Option Value} {muts froz frs : Led} {R : RPost} {K : Frag}

theorem inst_at (ok : c.Ok) (w : RelW c σ tm s m muts froz frs) {x C d : Addr} {l : Loc} (hm : (x, AO.inst C d l) ∈ σ.hp) : ∃ es n, EsAre (rdOf c.h0 froz) es l ∧ InstAt s.heap x (instObj C d) C (some (dictOf es n)) := by
  obtain ⟨⟨b, o⟩, hq, t, hg⟩ := mem_get w hm
  obtain ⟨rfl, es, n, rfl, e, hr⟩ := tr_inst t
  refine ⟨es, n, e, ?_, rfl, rfl, hg⟩
  rcases hr with hr | hr
  · exact (w.nw (x, _) (by simp [hr])).1
  · exact w.stays ok _ _ hr
theorem K_in (ok : c.Ok) (w : RelW c σ tm s m muts froz frs) (hK : K.In c.h0) : K.In s.heap := fun a o e => w.stays ok _ _ (hK a o e)

theorem getAttr_X (ok : c.Ok) (hK : K.In c.h0) {C d x : Addr} {l : Loc} {name : String} {y : V} {attr : Option Value} {expr : Bool} {u : Value} (kc : KC K C) (r : Rel c σ tm s) (iu : (u, V.ref x) ∈ tm) (hm : (x, AO.inst C d l) ∈ σ.hp) (hl : getA name l = some y)
    (ha : findIn K (.ref C) (Str.ofString name) = some attr) (hn : noGet K attr = true) (hv : handV y = true) {Q : Value → Shared → Prop} {E : Value → Shared → Prop} (q : ∀ v k, Rel c σ ((v, y) :: tm) { s with toks := k } → Q v { s with toks := k }) :
    wpAny (model c.prog c.w) c.A (getAttr u (Str.ofString name) expr) Q E s := by
  obtain ⟨m, mu, fz, fr, w⟩ := r
  cases is_ref (w.tm _ iu)
  obtain ⟨es, n, e, I⟩ := inst_at ok w hm
  have g := es_get e name
  rw [hl] at g
  obtain ⟨v, g1, g2⟩ := g
  refine get_value (K_in ok w hK) I kc.get (findObj_own kc.dict ha hn g1) (handV_is g2 hv) (q v _ ?_)
  exact (w.tok.push g2).rel

/-- o.name -/
theorem HE_attr (ok : c.Ok) (hK : K.In c.h0) {value : Expr} {name : String} {pos : Pos} {Q : Post}
    (h : HE c σ value (fun ov σ₁ => ∃ x C d l y attr, ov = .ref x ∧ (x, AO.inst C d l) ∈ σ₁.hp ∧ KC K C ∧ getA name l = some y ∧ findIn K (.ref C) (Str.ofString name) = some attr ∧ noGet K attr = true ∧ handV y = true ∧ Q y σ₁) R)
    (he : eval (.Attribute value (Str.ofString name) pos) c.env = (do
      let o ← eval value c.env
      standAt pos.atName
      let r ← holding [o] (getAttr o (Str.ofString name) true)
      letTemporaryGo value o r
      pure r)) : HE c σ (.Attribute value (Str.ofString name) pos) Q R := by
  intro tm s r
  refine Attribute_any_ (wpAny_mono (h tm s r) (fun v s₁ ⟨ov, σ₁, r₁, x, C, d, l, y, attr, e, hm, kc, hl, ha, hn, hv, q⟩ => ?_) fun _ _ q => q) he
  subst e
  exact getAttr_X ok hK kc r₁ (.head _) hm hl ha hn hv fun v k r₂ => ⟨y, σ₁, r₂.pop (fun p hp => by
    rcases List.mem_cons.mp hp with rfl | hp
    · exact .head _
    · exact .tail _ (.tail _ hp)), q⟩

theorem setAttr_X (ok : c.Ok) (hK : K.In c.h0) {C d x : Addr} {l : Loc} {name : String} {y : V} {u v : Value} {l' : List (Addr × AO)} {Q : St → Prop} {tm' : List (Value × V)} (kc : KC K C) (hu : UpH σ.hp (x, .inst C d l) (.inst C d (putA name y l)) l') (hlen : l.length < 900)
    (ht : takerIn K C (Str.ofString name) = some none) (r : Rel c σ tm s) (i1 : (u, V.ref x) ∈ tm) (i2 : (v, y) ∈ tm) (hsub : ∀ p ∈ tm', p ∈ tm) (q : Q ⟨σ.loc, l'⟩) :
    wpAny (model c.prog c.w) c.A (setAttr u (Str.ofString name) v) (fun _ s' => ∃ σ', Rel c σ' tm' s' ∧ Q σ') (ExcE c R) s := by
  obtain ⟨m, mu, fz, fr, w⟩ := r
  cases is_ref (w.tm _ i1)
  have j2 := w.tm _ i2
  obtain ⟨es, n, e, I⟩ := inst_at ok w hu.mem
  obtain ⟨pre, b, o, post, em, t, k⟩ := all2_split hu w.hp
  subst em
  obtain ⟨hb, es0, n0, eo, e0, hr0⟩ := tr_inst t
  subst hb eo
  have nd := w.nd
  have hN : News c.g c.L s.heap (pre ++ (b, dictOf es0 n0) :: (post ++ fz ++ fr)) := fun p hp => w.nw p (by simpa using hp)
  have Ieq : InstAt s.heap x (instObj C b) C (some (dictOf es0 n0)) := by
    refine ⟨I.at_, rfl, rfl, ?_⟩
    exact (w.nw (b, dictOf es0 n0) (by simp)).1
  have hnb : ∀ p ∈ pre ++ (post ++ fz ++ fr), p.1 ≠ b := by
    simp only [List.map_append, List.map_cons, List.append_assoc, List.cons_append] at nd
    have P : (pre.map (·.1) ++ b :: (post.map (·.1) ++ (fz.map (·.1) ++ fr.map (·.1)))).Perm (b :: (pre.map (·.1) ++ (post.map (·.1) ++ (fz.map (·.1) ++ fr.map (·.1))))) := List.perm_middle
    have nb := (List.nodup_cons.mp (P.nodup_iff.mp nd)).1
    intro p hp e
    refine nb ?_
    rw [← e]
    simp only [List.mem_append] at hp ⊢
    rcases hp with q | (q | q) | q
    · exact .inl (List.mem_map_of_mem q)
    · exact .inr (.inl (List.mem_map_of_mem q))
    · exact .inr (.inr (.inl (List.mem_map_of_mem q)))
    · exact .inr (.inr (.inr (List.mem_map_of_mem q)))
  refine set_plain (K_in ok w hK) Ieq kc.set ?_
  have hKs : K.In s.heap := K_in ok w hK
  refine osa_dict (s := { s with toks := s.toks + 1 }) (F := w.fr) (N := hN) hKs Ieq rfl kc.over ht kc.dict ?_ (fun p hp => hnb p (List.mem_append_left _ hp)) (fun p hp => hnb p (List.mem_append_right _ hp)) (putName_dict _ _ _ _ _ _) rfl ?_ fun h' F' N' => ?_
  · rw [lookIn_dict]
    have g := es_get e0 name
    split at g
    · obtain ⟨v', g1, _⟩ := g; rw [g1]; rfl
    · rw [g]; rfl
  · rw [es_len (es_put e0 (t := s.toks + 1) j2)]
    have := putA_len name y l
    show (putA name y l).length ≤ 1000
    omega
  · refine ⟨⟨σ.loc, l'⟩, ⟨m, pre ++ (b, dictOf (putL (Str.ofString name) (PyData.keyHash c.w.params (Str.ofString name)) (.str (Str.ofString name) (s.toks + 1)) v es0) (putN (Str.ofString name) es0 n0)) :: post, fz, fr, ⟨w.gens, w.drawn, w.os, F', fun p hp => N' p (by simpa using hp), ?_, w.fz, w.frs, w.loc, w.ln, k _ (.inst hr0 (es_put e0 j2)), fun p hp => w.tm p (hsub p hp)⟩⟩, q⟩
    simpa using nd
/-- o.name = y -/
theorem HA_attr (ok : c.Ok) (hK : K.In c.h0) {o : Expr} {name : String} {pos : Pos} {y : V} {Q : St → Prop}
    (h : HE c σ o (fun ov σ₁ => ∃ x C d l l', ov = .ref x ∧ UpH σ₁.hp (x, .inst C d l) (.inst C d (putA name y l)) l' ∧ KC K C ∧ l.length < 900 ∧ takerIn K C (Str.ofString name) = some none ∧ Q ⟨σ₁.loc, l'⟩) R) : HA c σ (.Attribute o (Str.ofString name) pos) y Q R := by
  intro v tm s r
  rw [arm_assign_Attribute]
  refine wpAny_bind (wpAny_holding (wpAny_mono (h _ s r) (fun ov s₁ ⟨xo, σ₁, r₁, h₁⟩ => wpAny_bind (wpAny_standAt (wpAny_bind (wpAny_holding ?_)))) fun _ _ q => q))
  obtain ⟨x, C, d, l, l', rfl, hu, kc, hlen, ht, q⟩ := h₁
  refine wpAny_mono (setAttr_X (Q := Q) (tm' := (v, y) :: tm) (R := R) ok hK kc hu hlen ht r₁ (.head _) (.tail _ (.head _)) (fun p hp => .tail _ hp) q) (fun _ s₃ z => ?_) fun _ _ q => q
  exact wpAny_release z
/-- o.name op= y -/
theorem HS1_augAttr (ok : c.Ok) (hK : K.In c.h0) {o value : Expr} {name : String} {tpos pos : Pos} {op : Operator} {Q : Fl → St → Prop}
    (h : HE c σ o (fun ov σ₁ => ∃ x C d l u attr, ov = .ref x ∧ (x, AO.inst C d l) ∈ σ₁.hp ∧ KC K C ∧ getA name l = some u ∧ findIn K (.ref C) (Str.ofString name) = some attr ∧ noGet K attr = true ∧ handV u = true ∧ l.length < 900 ∧ takerIn K C (Str.ofString name) = some none ∧
      HE c σ₁ value (fun y σ₃ => HO2 c σ₃ (inplaceOp op) u y (fun z σ₄ => ∃ l2 l', l2.length < 900 ∧ UpH σ₄.hp (x, .inst C d l2) (.inst C d (putA name z l2)) l' ∧ Q .next ⟨σ₄.loc, l'⟩) R) R) R) :
    HS1 c σ (.AugAssign (.Attribute o (Str.ofString name) tpos) op value pos) Q R := by
  intro s r
  refine wpAny_AugAssign_AttributeAny (wpAny_mono (h [] s r) (fun ov s₁ ⟨xo, σ₁, r₁, h₁⟩ => ?_) fun _ _ q => q)
  obtain ⟨x, C, d, l, u, attr, rfl, hm, kc, hl, ha, hn, hv, hlen, ht, h₂⟩ := h₁
  refine getAttr_X ok hK kc r₁ (.head _) hm hl ha hn hv fun old k r₂ => ?_
  refine wpAny_mono (h₂ _ _ r₂) (fun v s₃ ⟨y, σ₃, r₄, h₄⟩ => wpAny_mono (h₄ _ _ _ s₃ r₄) (fun new s₄ ⟨z, σ₄, r₅, h₅⟩ => ?_) fun _ _ q => q) fun _ _ q => q
  obtain ⟨l2, l', hlen2, hu, q⟩ := h₅
  exact wpAny_mono (setAttr_X (Q := Q .next) (tm' := []) (R := R) ok hK kc hu hlen2 ht r₅ (.tail _ (.head _)) (.head _) (fun _ h => nomatch h) q) (fun _ s₅ ⟨σ₅, r₆, q⟩ => ⟨.next, σ₅, r₆, q⟩) fun _ _ q => q
end
end Mine
end
section
open PySem PySem.W PySem.Calls PyProof.Rows
set_option autoImplicit false
set_option maxRecDepth 100000
namespace Mine

/-- a frame while it handles e -/
def markC (c : Cx) (e : Addr) : Cx := { c with A := c.A.mark (some (.ref e)) }
section
variable {c : Cx} {σ : St} {tm : List (Value × V)} {s : Shared} {m : Str → Option Value} {muts froz frs : Led} {R : RPost} {K : Frag}

theorem RelW.mark (w : RelW c σ tm s m muts froz frs) (e : Addr) : RelW (markC c e) σ tm s m muts froz frs := ⟨w.gens, w.drawn, w.os, w.fr, w.nw, w.nd, w.fz, w.frs, w.loc, w.ln, w.hp, w.tm⟩
theorem RelW.unmark {e : Addr} (w : RelW (markC c e) σ tm s m muts froz frs) : RelW c σ tm s m muts froz frs := ⟨w.gens, w.drawn, w.os, w.fr, w.nw, w.nd, w.fz, w.frs, w.loc, w.ln, w.hp, w.tm⟩
theorem Ok.mark (ok : c.Ok) (e : Addr) : (markC c e).Ok := ⟨ok.fn, ok.stays, ok.frames, ok.below, ok.code⟩
theorem Rel.unmark {e : Addr} (r : Rel (markC c e) σ tm s) : Rel c σ tm s := by
  obtain ⟨m, mu, fz, fr, w⟩ := r
  exact ⟨m, mu, fz, fr, w.unmark⟩
theorem FlRel.unmark {e : Addr} {f : Flow} {F : Fl} (r : FlRel (markC c e) σ f F s) : FlRel c σ f F s := by
  cases f <;> cases F <;> first | exact r.elim | exact Rel.unmark r
theorem RelX.unmark {e x : Addr} {kd : Value × Value} (r : RelX (markC c e) σ x kd s) : RelX c σ x kd s := by
  obtain ⟨m, mu, fz, fr, w, q⟩ := r
  exact ⟨m, mu, fz, fr, w.unmark, q⟩
theorem looks_exc {M : Model} {h : Heap} {e : Addr} {o : Obj} {vs : Array Value} {cls : Value} (he : h.get? e = some o) (hd : o.data = .fields vs) (hc : o.cls = cls) : Looks M h (typeOf (.ref e)) cls := by
  subst hc
  exact (Looks.ld he).andThen .now

theorem HS1_try (ok : c.Ok) (hK : K.In c.h0) {body orelse : List Stmt} {x : String} {np hpos pos : Pos} {b₀ : Stmt} {suite : List Stmt} {spec : Value} {Q : Fl → St → Prop} {Rb : RPost}
    (hn : Gb c.h0 x spec ∨ Bt c.h0 x spec) (hx : c.env.kindOf (Str.ofString x) = some .globalImplicit) (hd : (Str.ofString x == ("__debug__" : Str)) = false)
    (h : HS c σ body (fun F σ₁ => match F with | .next => HS c σ₁ orelse Q R | F => Q F σ₁) Rb)
    (hc : ∀ kd σ₁, Rb kd σ₁ → exmOne K kd.1 spec = some true ∧ ∀ e oe, ExcKind oe kd → (∃ vs, oe.data = .fields vs ∧ 5 < vs.size) → HS (markC c e) ⟨σ₁.loc, (e, .raw oe) :: σ₁.hp⟩ (b₀ :: suite) Q R) :
    HS1 c σ (.Try body [.ExceptHandler (some (.Name (Str.ofString x) np)) none (b₀ :: suite) hpos] orelse [] pos) Q R := by
  intro s r
  have back : ∀ {e : Addr} {x : Value} {s' : Shared}, ExcE (markC c e) R x s' → notedBy (model c.prog c.w) (c.A.mark (some (.ref e))) c.env (fun x s' => cameBackBy (model c.prog c.w) c.A c.env (ExcE c R) x s') x s' := by
    rintro e _ s' ⟨x, k, σ', rfl, a, b⟩
    refine noteFrame_X (A := c.A.mark (some (.ref e))) (Q := fun _ s'' => cameBackBy (model c.prog c.w) c.A c.env (ExcE c R) (.ref x) s'') ok ok.frames a.unmark fun s'' r'' => ?_
    exact cameBack_X r'' b
  refine wpAny_Try_except (wpAny_mono (h s r) (fun f s₁ ⟨F, σ₁, r₁, q⟩ => ?_) fun x s₁ ⟨e, kd, σ₁, ex, rx, hb⟩ => ?_)
  · cases f <;> cases F <;> first | exact r₁.elim | exact q s₁ r₁ | exact ⟨_, σ₁, r₁, q⟩
  · subst ex
    obtain ⟨hm, hs⟩ := hc _ _ hb
    refine noteFrame_X ok ok.frames rx fun s₂ rt => setFlight_T rt fun s₃ rt => ?_
    have rt0 := rt
    obtain ⟨m, mu, fz, fr, w, oe, vs, T, oT, ts, fl, a1, a2, a3, a4, a5, a6, a7, b1, b2, b3, b4, b5, b6, b7, b8⟩ := rt
    have LT : Looks (model c.prog c.w) s₃.heap (typeOf (.ref e)) kd.1 := looks_exc a1 a3 a2.1
    have hKs : K.In s₃.heap := K_in ok w hK
    have name : ∀ {Q' : Value → Shared → Prop} {E' : Value → Shared → Prop}, Q' spec s₃ → wpAny (model c.prog c.w) (c.A.mark (some (.ref e))) (eval (.Name (Str.ofString x) np) c.env) Q' E' s₃ := by
      intro Q' E' q
      rcases hn with ⟨mg, g1, g2⟩ | ⟨mg, mb, g1, g2, g3, g4⟩
      · exact ld_global_at w.fr (g1.keeps ok.stays) g2 q ok.fn hx hd
      · exact ld_builtin_at w.fr (g1.keeps ok.stays) g2 (g3.keeps ok.stays) g4 q ok.fn hx hd
    refine wpAny_handleBy_cons (codeAny_handlers_test (name ((exm_one hKs LT hm).here ?_))) (by intro q; cases q)
    dsimp only [if_true]
    refine codeAny_handlers_suite (setFlight_T rt0 fun s₄ rt => ?_)
    obtain ⟨m, mu, fz, fr, w, oe, vs, T, oT, ts, fl, a1, a2, a3, a4, a5, a6, a7, b1, b2, b3, b4, b5, b6, b7, b8⟩ := rt
    have w1 : RelW c ⟨σ₁.loc, (e, .raw oe) :: σ₁.hp⟩ [] s₄ m ((e, oe) :: mu) fz fr := by
      refine ⟨w.gens, w.drawn, w.os, w.fr, fun p hp => ?_, ?_, w.fz, w.frs, w.loc, w.ln, .cons .raw w.hp, w.tm⟩
      · rw [List.cons_append, List.cons_append] at hp
        rcases List.mem_cons.mp hp with rfl | hp
        · exact ⟨a1, a6, a5⟩
        · exact w.nw p hp
      · exact List.nodup_cons.mpr ⟨a7, w.nd⟩
    refine wpAny_mono (hs e oe a2 ⟨vs, a3, a4⟩ s₄ (w1.mark e).rel) (fun f s₅ ⟨F, σ₅, r₅, q⟩ => ?_) fun _ _ q => back q
    exact ⟨F, σ₅, FlRel.unmark r₅, q⟩
end
end Mine
end
section
open PySem PySem.W PySem.Calls PyProof.Rows
set_option autoImplicit false
set_option maxRecDepth 100000
namespace Mine
section
variable {c : Cx} {σ : St} {tm : List (Value × V)} {s : Shared} {m : Str → Option Value} {muts froz frs : Led} {R : RPost} {K : Frag}

/-- o.name(..), o an object of the program's own class -/
theorem HE_meth (ok : c.Ok) (hK : K.In c.h0) {o : Expr} {name : String} {apos pos : Pos} {args : List Expr} {Q : Post}
    (hbase : attributeBase o (Str.ofString name) c.env (eval o c.env) = eval o c.env) (hs : starEach args c.env = args.map fun e => (false, eval e c.env)) (hn : args.length < 20) (hline : (apos.endLine == pos.line) = true)
    (h : HE c σ o (fun ov σ₁ => ∃ x C d l f, ov = .ref x ∧ (x, AO.inst C d l) ∈ σ₁.hp ∧ KC K C ∧ findIn K (.ref C) (Str.ofString name) = some (some (.ref f)) ∧ typeIn K (.ref f) = some (.type "function") ∧ getA name l = none ∧ Keeps c (.ref f) ∧
      HX c σ₁ args (fun xs σ₂ => HOs c σ₂ (fun us => call (.ref f) us) (.ref x :: xs) Q R) R) R) : HE c σ (.Call (.Attribute o (Str.ofString name) apos) args [] pos) Q R := by
  intro tm s r
  have hfew : ((backTo pos (starEach args c.env)).all (fun x => !x.1) && (backToKw pos (keywordEach [] c.env)).all (fun x => x.1.isSome)
      && decide (args.length + ([] : List Keyword).length + (if ([] : List Keyword).isEmpty then 0 else 1) < 30)) = true := by
    rw [hs, backTo_plain]
    have e1 : (args.map fun e => (false, eval e c.env)).all (fun x => !x.1) = true := by
      rw [List.all_map]; exact List.all_eq_true.mpr fun _ _ => rfl
    rw [e1]
    simp [backToKw, keywordEach]; omega
  rw [PySem.arm_eval_Call, hbase]
  refine wpAny_bind (wpAny_mono (h tm s r) (fun v s₁ ⟨ov, σ₁, r₁, x, C, d, l, f, e, hm, kc, hf, ht, hl, hk, h₁⟩ => ?_) fun _ _ e => e)
  subst e
  have r₁' := r₁
  obtain ⟨m, mu, fz, fr, w⟩ := r₁
  cases is_ref w.is
  obtain ⟨es, n, ee, I⟩ := inst_at ok w hm
  have g := es_get ee name
  rw [hl] at g
  have hsh : shadowIn (some (dictOf es n)) (Str.ofString name) = some false := by
    show (lookIn (Str.ofString name) (dictOf es n)).map _ = _
    rw [lookIn_dict, g]; rfl
  refine wpAny_bind (wpAny_standAt ?_)
  have fin : wpAny (model c.prog c.w) c.A (callWith pos (.ref f) [.ref x] (backTo pos (starEach args c.env)) []) (fun v s' => ∃ x σ', Rel c σ' ((v, x) :: tm) s' ∧ Q x σ') (ExcE c R) s₁ := by
    rw [hs, backTo_plain]
    exact callWith_X (first := [.ref x]) (ys := [.ref x]) ok hk rfl h₁ r₁'
  have hform : methodCallForm (args.length + ([] : List Keyword).length) (backTo pos (starEach args c.env)) (backToKw pos (keywordEach [] c.env)) = true := hfew
  have hpos : methodCallPos true o c.env apos pos = pure pos := by unfold methodCallPos; simp [hline]
  unfold methodCall
  rw [hform]
  refine wpAny_bind (wpAny_holding (method_fn (K_in ok w hK) I kc.get kc.geta hf ht hsh ?_))
  exact wpAny_bind (wpAny_of_eq hpos fin)
end
end Mine
end
section
open PySem PySem.Sre
set_option autoImplicit false
set_option maxRecDepth 100000
namespace Mine
def eolC : Array Nat := #[14, 4, 0, 1, 4294967295, 24, 11, 0, 4294967295, 13, 6, 16, 32, 16, 9, 0, 1, 23, 16, 0, 1, 17, 0, 16, 35, 24, 6, 0, 4294967295, 20, 10, 1, 17, 1, 18, 24, 6, 0, 1, 16, 13, 1, 16, 10, 1]
def eofC : Array Nat := #[14, 4, 0, 0, 4294967295, 24, 11, 0, 4294967295, 13, 6, 16, 32, 16, 9, 0, 1, 23, 16, 0, 1, 17, 0, 16, 35, 24, 6, 0, 4294967295, 20, 10, 1, 17, 1, 18, 6, 5, 1]
def wsC : Array Nat := #[14, 4, 0, 0, 4294967295, 24, 11, 0, 4294967295, 13, 6, 16, 32, 16, 9, 0, 1, 1]
def intC : Array Nat := #[14, 14, 4, 1, 1, 9, 9216, 132, 268435456, 0, 0, 0, 0, 0, 0, 13, 11, 9, 9216, 132, 268435456, 0, 0, 0, 0, 0, 0, 1]

/-- a state of the machine -/
structure Q where
  pc : Nat
  pos : Nat
  hd : Nat
  marks : Array (Option Nat)
  lm : Int
  li : Int
  loops : Array Loop
  inner : Option Nat
  frames : List Sre.Frame
  weight : Nat
  ans : Option Bool
  out : Option Sre.Outcome
def Q.m (q : Q) (C T : Array Nat) (L st : Nat) (sn : Seen) : M :=
  { code := C, text := T, lim := L, start := st, pc := q.pc, pos := q.pos, handed := q.hd, marks := q.marks, lastmark := q.lm, lastindex := q.li, loops := q.loops, inner := q.inner, frames := q.frames, weight := q.weight, answer := q.ans, seen := sn, outcome := q.out }
def Go (C T : Array Nat) (L st : Nat) (n : Nat) (q q' : Q) : Prop := ∀ sn, ∃ sn' k, k ≤ n ∧ (q.m C T L st sn).runFor k = q'.m C T L st sn'
def One (C T : Array Nat) (L st : Nat) (q q' : Q) : Prop := ∀ sn, ∃ sn', (q.m C T L st sn).step = q'.m C T L st sn'
theorem runFor_step (m : M) : ∀ k, m.outcome.isSome = false → m.runFor (k + 1) = m.step.runFor k := fun k h => by
  show (if m.outcome.isSome then m else _) = _
  rw [h]; rfl
theorem runFor_out (m : M) (h : m.outcome.isSome = true) : ∀ k, m.runFor k = m
  | 0 => rfl
  | k + 1 => by show (if m.outcome.isSome then m else _) = _; rw [if_pos h]
theorem runFor_add (m : M) : ∀ a b, m.runFor (a + b) = (m.runFor a).runFor b := by
  intro a
  induction a generalizing m with
  | zero => intro b; rw [Nat.zero_add]; rfl
  | succ a ih =>
    intro b
    cases h : m.outcome.isSome with
    | true => rw [runFor_out m h, runFor_out m h, runFor_out m h]
    | false => rw [show a + 1 + b = (a + b) + 1 by omega, runFor_step m _ h, runFor_step m _ h, ih]
theorem Go.refl {C T : Array Nat} {L st : Nat} (q : Q) : Go C T L st 0 q q := fun sn => ⟨sn, 0, Nat.le_refl _, rfl⟩
theorem Go.trans {C T : Array Nat} {L st n n' : Nat} {q q' q'' : Q} (a : Go C T L st n q q') (b : Go C T L st n' q' q'') : Go C T L st (n + n') q q'' := fun sn => by
  obtain ⟨s1, k1, h1, e1⟩ := a sn
  obtain ⟨s2, k2, h2, e2⟩ := b s1
  exact ⟨s2, k1 + k2, by omega, by rw [runFor_add, e1, e2]⟩
theorem Go.one {C T : Array Nat} {L st : Nat} {q q' : Q} (h : q.out = none) (a : One C T L st q q') : Go C T L st 1 q q' := fun sn => by
  obtain ⟨s1, e1⟩ := a sn
  refine ⟨s1, 1, Nat.le_refl _, ?_⟩
  rw [runFor_step _ 0 (by show q.out.isSome = false; rw [h]; rfl), e1]; rfl
theorem Go.mono {C T : Array Nat} {L st n n' : Nat} {q q' : Q} (a : Go C T L st n q q') (h : n ≤ n') : Go C T L st n' q q' := fun sn => by
  obtain ⟨s1, k1, h1, e1⟩ := a sn
  exact ⟨s1, k1, by omega, e1⟩

def cntN (f : Nat → Bool) (T : Array Nat) : Nat → Nat → Nat
  | 0, _ => 0
  | k + 1, p => if f (T.getD p 0) then cntN f T k (p + 1) + 1 else 0
theorem run_cnt {C T : Array Nat} {i : Nat} {f : Nat → Bool} (h : ∀ c sn, ∃ sn', accepts C i c sn = .ok (f c, sn')) : ∀ (k p found : Nat) (sn : Seen), ∃ sn', run C T i k p found sn = .ok (found + cntN f T k p, sn')
  | 0, p, found, sn => ⟨sn, rfl⟩
  | k + 1, p, found, sn => by
    obtain ⟨s1, e1⟩ := h (T.getD p 0) sn
    unfold Sre.run cntN
    rw [e1]
    cases hf : f (T.getD p 0) with
    | true =>
      obtain ⟨s2, e2⟩ := run_cnt h k (p + 1) (found + 1) s1
      refine ⟨s2, ?_⟩
      show Sre.run C T i k (p + 1) (found + 1) s1 = _
      rw [e2, if_pos rfl, show found + 1 + cntN f T k (p + 1) = found + (cntN f T k (p + 1) + 1) by omega]
    | false => exact ⟨s1, rfl⟩
def isBl (c : Nat) : Bool := c == 32 || c == 9
def Cs (C : Array Nat) : Prop := C = eolC ∨ C = eofC ∨ C = wsC
theorem acc_bl {C : Array Nat} (h : Cs C) (c : Nat) (sn : Seen) : ∃ sn', accepts C 9 c sn = .ok (isBl c, sn') := by
  have key : ∃ a b d, accepts C 9 c sn = if (c == 32) = true then .ok (true, a) else if (c == 9) = true then .ok (true, b) else .ok (false, d) := by
    rcases h with rfl | rfl | rfl <;> exact ⟨_, _, _, rfl⟩
  obtain ⟨a, b, d, e⟩ := key
  rw [e]
  unfold isBl
  cases c == 32 <;> cases c == 9 <;> exact ⟨_, rfl⟩
theorem acc_nl {C : Array Nat} (h : C = eolC ∨ C = eofC) (c : Nat) (sn : Seen) : ∃ sn', accepts C 29 c sn = .ok (c != 10, sn') := by
  rcases h with rfl | rfl <;> exact ⟨_, rfl⟩
theorem acc_cr (c : Nat) (sn : Seen) : ∃ sn', accepts eolC 39 c sn = .ok (c == 13, sn') := ⟨_, rfl⟩

section
variable {C T : Array Nat} {L st pos hd : Nat} {marks : Array (Option Nat)} {lm li : Int} {fr : List Sre.Frame} {w : Nat}
/-- what a giving back keeps -/
def kp (lm li : Int) : Sre.Kept := { lastmark := lm, lastindex := li, whole := false, marks := #[] }
def fBl (pos : Nat) (n : Int) : Sre.Frame := { wait := .giveBack, pc := 5, pos := pos, outermost := true, count := n, kept := kp (-1) (-1) }
/-- blanks, as many as there are -/
theorem s5 (h : Cs C) (hL : L < 4294967295) (hp : pos ≤ L) (hw : w < 100) :
    One C T L st ⟨5, pos, hd, marks, -1, -1, #[], none, fr, w, none, none⟩ ⟨17, pos + cntN isBl T (L - pos) pos, pos + cntN isBl T (L - pos) pos, marks, -1, -1, #[], none, fBl (pos + cntN isBl T (L - pos) pos) (cntN isBl T (L - pos) pos) :: fr, w + 1, none, none⟩ := by
  intro sn
  obtain ⟨s1, e1⟩ := run_cnt (T := T) (acc_bl h) (L - pos) pos 0 ((sn.add 24).add 13)
  refine ⟨s1, ?_⟩
  have hr : min 4294967295 ((L : Int) - (pos : Int)).toNat = L - pos := by omega
  have key : ∀ r, r = Except.ok (0 + cntN isBl T (L - pos) pos, s1) → (if ((0 : Nat) : Int) > ((L : Int) - (pos : Int)) then ((⟨5, pos, hd, marks, -1, -1, #[], none, fr, w, none, none⟩ : Q).m C T L st (sn.add 24)).say false else
      match (r : Except String (Nat × Seen)) with
      | .error why => ((⟨5, pos, hd, marks, -1, -1, #[], none, fr, w, none, none⟩ : Q).m C T L st (sn.add 24)).stick why
      | .ok (n, seen) =>
        if n < 0 then ((⟨5, pos, hd, marks, -1, -1, #[], none, fr, w, none, none⟩ : Q).m C T L st seen).say false else
        ((⟨5, pos + n, hd, marks, -1, -1, #[], none, fr, w, none, none⟩ : Q).m C T L st seen).attempt (fBl (pos + n) n) 17 (pos + n) true) = (⟨17, pos + cntN isBl T (L - pos) pos, pos + cntN isBl T (L - pos) pos, marks, -1, -1, #[], none, fBl (pos + cntN isBl T (L - pos) pos) (cntN isBl T (L - pos) pos) :: fr, w + 1, none, none⟩ : Q).m C T L st s1 := by
    rintro r rfl
    rw [if_neg (by omega)]
    dsimp only
    rw [if_neg (by omega), Nat.zero_add]
    unfold M.attempt
    rw [if_neg (by show ¬ (w + 1 + 0 > 16777216); omega)]
    rfl
  rw [← key (Sre.run C T 9 (min 4294967295 ((L : Int) - (pos : Int)).toNat) pos 0 ((sn.add 24).add 13)) (by rw [hr, e1])]
  rcases h with rfl | rfl | rfl <;> rfl
variable {a b : Option Nat}
def Cg (C : Array Nat) : Prop := C = eolC ∨ C = eofC
def fCl (pos : Nat) : Sre.Frame := { wait := .closeLoop, pc := 17, pos := pos, outermost := true, loop := 0 }
def lp0 : Array Loop := #[{ pc := 17, outer := none }]
def lp1 (pos : Nat) : Array Loop := #[{ pc := 17, count := 0, began := some pos, outer := none }]
def fMm (pos : Nat) : Sre.Frame := { wait := .maxMore, pc := 35, pos := pos, outermost := true, count := 0, kept := { lastmark := -1, lastindex := -1, whole := true, marks := #[] }, loop := 0, began := none }
theorem s17 (h : Cg C) (hw : w < 100) : One C T L st ⟨17, pos, hd, #[a, b], -1, -1, #[], none, fr, w, none, none⟩ ⟨34, pos, pos, #[a, b], -1, -1, lp0, some 0, fCl pos :: fr, w + 1, none, none⟩ := by
  intro sn
  refine ⟨sn.add 23, ?_⟩
  rcases h with rfl | rfl <;>
  · show M.attempt _ _ _ _ _ = _
    unfold M.attempt
    rw [if_neg (by show ¬ (w + 1 + 0 > 16777216); omega)]
    rfl
theorem s34a (h : Cg C) (hw : w < 100) : One C T L st ⟨34, pos, hd, #[a, b], -1, -1, lp0, some 0, fr, w, none, none⟩ ⟨21, pos, pos, #[a, b], -1, -1, lp1 pos, some 0, fMm pos :: fr, w + 1, none, none⟩ := by
  intro sn
  refine ⟨sn.add 18, ?_⟩
  rcases h with rfl | rfl <;>
  · show M.attempt _ _ _ _ _ = _
    unfold M.attempt
    rw [if_neg (by show ¬ (w + 1 + 0 > 16777216); omega)]
    rfl
theorem s21 (h : Cg C) {lps : Array Loop} {inn : Option Nat} : One C T L st ⟨21, pos, hd, #[a, b], -1, -1, lps, inn, fr, w, none, none⟩ ⟨23, pos, hd, #[some pos, b], 0, -1, lps, inn, fr, w, none, none⟩ := by
  intro sn
  refine ⟨sn.add 17, ?_⟩
  rcases h with rfl | rfl <;> rfl
theorem s32 (h : Cg C) {lps : Array Loop} {inn : Option Nat} : One C T L st ⟨32, pos, hd, #[a, b], 0, -1, lps, inn, fr, w, none, none⟩ ⟨34, pos, hd, #[a, some pos], 1, 1, lps, inn, fr, w, none, none⟩ := by
  intro sn
  refine ⟨sn.add 17, ?_⟩
  have key : M.mark ((⟨32, pos, hd, #[a, b], 0, -1, lps, inn, fr, w, none, none⟩ : Q).m C T L st (sn.add 17)) 1 = (⟨34, pos, hd, #[a, some pos], 1, 1, lps, inn, fr, w, none, none⟩ : Q).m C T L st (sn.add 17) := by
    unfold M.mark Q.m
    dsimp only
    rw [if_pos (by decide)]
    rfl
  rw [← key]
  rcases h with rfl | rfl <;> rfl
/-- one sign that must stand there -/
theorem s23y (h : Cg C) {lps : Array Loop} {inn : Option Nat} (hp : pos < L) (hk : T.getD pos 0 = 35) : One C T L st ⟨23, pos, hd, #[a, b], lm, li, lps, inn, fr, w, none, none⟩ ⟨25, pos + 1, hd, #[a, b], lm, li, lps, inn, fr, w, none, none⟩ := by
  intro sn
  refine ⟨sn.add 16, ?_⟩
  rcases h with rfl | rfl <;>
  · refine (if_neg (show ¬ pos ≥ L by omega)).trans ?_
    show (match (Except.ok (T.getD pos 0 == 35, sn.add 16) : Except String (Bool × Seen)) with | .error why => _ | .ok (false, seen) => _ | .ok (true, seen) => _) = _
    rw [hk]; rfl
theorem s23n (h : Cg C) {lps : Array Loop} {inn : Option Nat} (hk : L ≤ pos ∨ T.getD pos 0 ≠ 35) : One C T L st ⟨23, pos, hd, #[a, b], lm, li, lps, inn, fr, w, none, none⟩ ⟨23, pos, hd, #[a, b], lm, li, lps, inn, fr, w, some false, none⟩ := by
  intro sn
  refine ⟨sn.add 16, ?_⟩
  by_cases hp : L ≤ pos
  · rcases h with rfl | rfl <;> exact (if_pos (show pos ≥ L by omega)).trans rfl
  · have hk : (T.getD pos 0 == 35) = false := by simpa using hk.resolve_left hp
    rcases h with rfl | rfl <;>
    · refine (if_neg (show ¬ pos ≥ L by omega)).trans ?_
      show (match (Except.ok (T.getD pos 0 == 35, sn.add 16) : Except String (Bool × Seen)) with | .error why => _ | .ok (false, seen) => _ | .ok (true, seen) => _) = _
      rw [hk]; rfl
theorem s42y {lps : Array Loop} {inn : Option Nat} (hp : pos < L) (hk : T.getD pos 0 = 10) : One eolC T L st ⟨42, pos, hd, #[a, b], lm, li, lps, inn, fr, w, none, none⟩ ⟨44, pos + 1, hd, #[a, b], lm, li, lps, inn, fr, w, none, none⟩ := by
  intro sn
  refine ⟨sn.add 16, ?_⟩
  refine (if_neg (show ¬ pos ≥ L by omega)).trans ?_
  show (match (Except.ok (T.getD pos 0 == 10, sn.add 16) : Except String (Bool × Seen)) with | .error why => _ | .ok (false, seen) => _ | .ok (true, seen) => _) = _
  rw [hk]; rfl
theorem s42n {lps : Array Loop} {inn : Option Nat} (hk : L ≤ pos ∨ T.getD pos 0 ≠ 10) : One eolC T L st ⟨42, pos, hd, #[a, b], lm, li, lps, inn, fr, w, none, none⟩ ⟨42, pos, hd, #[a, b], lm, li, lps, inn, fr, w, some false, none⟩ := by
  intro sn
  refine ⟨sn.add 16, ?_⟩
  by_cases hp : L ≤ pos
  · exact (if_pos (show pos ≥ L by omega)).trans rfl
  · have hk : (T.getD pos 0 == 10) = false := by simpa using hk.resolve_left hp
    refine (if_neg (show ¬ pos ≥ L by omega)).trans ?_
    show (match (Except.ok (T.getD pos 0 == 10, sn.add 16) : Except String (Bool × Seen)) with | .error why => _ | .ok (false, seen) => _ | .ok (true, seen) => _) = _
    rw [hk]; rfl
theorem s44 {lps : Array Loop} {inn : Option Nat} : One eolC T L st ⟨44, pos, hd, #[a, b], lm, li, lps, inn, fr, w, none, none⟩ ⟨44, pos, pos, #[a, b], lm, li, lps, inn, fr, w, some true, none⟩ := fun sn => ⟨sn.add 1, rfl⟩
theorem s37 {lps : Array Loop} {inn : Option Nat} : One eofC T L st ⟨37, pos, hd, #[a, b], lm, li, lps, inn, fr, w, none, none⟩ ⟨37, pos, pos, #[a, b], lm, li, lps, inn, fr, w, some true, none⟩ := fun sn => ⟨sn.add 1, rfl⟩
theorem s17w {lps : Array Loop} {inn : Option Nat} : One wsC T L st ⟨17, pos, hd, marks, lm, li, lps, inn, fr, w, none, none⟩ ⟨17, pos, pos, marks, lm, li, lps, inn, fr, w, some true, none⟩ := fun sn => ⟨sn.add 1, rfl⟩
/-- the text's end -/
theorem s35y {lps : Array Loop} {inn : Option Nat} (h : pos = L) : One eofC T L st ⟨35, pos, hd, #[a, b], lm, li, lps, inn, fr, w, none, none⟩ ⟨37, pos, hd, #[a, b], lm, li, lps, inn, fr, w, none, none⟩ := by
  intro sn
  refine ⟨(sn.add 6).add 48, ?_⟩
  subst h
  have e : ∀ x : Bool, (pos == pos || x) = true := fun x => by simp
  show (if (pos == pos || (pos + 1 == pos && T.getD pos 0 == 10)) = true then _ else _) = _
  rw [if_pos (e _)]; rfl
theorem s35n {lps : Array Loop} {inn : Option Nat} (h1 : pos < L) (h2 : T.getD pos 0 ≠ 10) : One eofC T L st ⟨35, pos, hd, #[a, b], lm, li, lps, inn, fr, w, none, none⟩ ⟨35, pos, hd, #[a, b], lm, li, lps, inn, fr, w, some false, none⟩ := by
  intro sn
  refine ⟨(sn.add 6).add 48, ?_⟩
  show (if (pos == L || (pos + 1 == L && T.getD pos 0 == 10)) = true then _ else _) = _
  have h2 : (T.getD pos 0 == 10) = false := by simpa using h2
  have h1 : (pos == L) = false := by simp; omega
  rw [h1, h2, if_neg (by simp)]; rfl

def fTl (pos : Nat) (n lm li : Int) : Sre.Frame := { wait := .maxTail, pc := 35, pos := pos, outermost := true, count := n, kept := kp lm li, loop := 0 }
/-- the group was taken once -/
theorem s34b (h : Cg C) {p0 : Nat} (hw : w < 100) : One C T L st ⟨34, pos, hd, #[a, b], lm, li, lp1 p0, some 0, fr, w, none, none⟩
    ⟨35, pos, pos, #[a, b], lm, li, #[{ pc := 17, count := 0, began := some p0, outer := none }], none, fTl pos 1 lm li :: fr, w + 1, none, none⟩ := by
  intro sn
  refine ⟨sn.add 18, ?_⟩
  rcases h with rfl | rfl <;>
  · show M.attempt _ _ _ _ _ = _
    unfold M.attempt
    rw [if_neg (by show ¬ (w + 1 + 0 > 16777216); omega)]
    rfl
/-- the group was not there -/
theorem nMm (h : Cg C) {pc p' : Nat} (hw : w < 100) : One C T L st ⟨pc, p', hd, #[a, b], lm, li, lp1 pos, some 0, fMm pos :: fr, w + 1, some false, none⟩
    ⟨35, pos, pos, #[a, b], -1, -1, lp0, none, fTl pos 0 (-1) (-1) :: fr, w + 1, none, none⟩ := by
  intro sn
  refine ⟨sn, ?_⟩
  rcases h with rfl | rfl <;>
  · show M.attempt _ _ _ _ _ = _
    unfold M.attempt
    rw [if_neg (by show ¬ (w + 1 - 1 + 1 + 0 > 16777216); omega)]
    rfl
end
end Mine
end
section
open PySem PySem.Sre
set_option autoImplicit false
set_option maxRecDepth 100000
namespace Mine
section
variable {C T : Array Nat} {L st pos hd : Nat} {marks : Array (Option Nat)} {lm li : Int} {fr : List Sre.Frame} {w : Nat} {a b : Option Nat}
def notNl (c : Nat) : Bool := c != 10
def isCr (c : Nat) : Bool := c == 13
def fNl (pos : Nat) (n : Int) (p : Option Nat) : Sre.Frame := { wait := .giveBack, pc := 25, pos := pos, outermost := true, count := n, kept := { lastmark := 0, lastindex := -1, whole := true, marks := #[p] } }
def fCr (pos : Nat) (n lm li : Int) : Sre.Frame := { wait := .giveBack, pc := 35, pos := pos, outermost := true, count := n, kept := kp lm li }
theorem s25 (h : Cg C) (hL : L < 4294967295) (hp : pos ≤ L) (hw : w < 100) {lps : Array Loop} :
    One C T L st ⟨25, pos, hd, #[a, b], 0, -1, lps, some 0, fr, w, none, none⟩ ⟨32, pos + cntN notNl T (L - pos) pos, pos + cntN notNl T (L - pos) pos, #[a, b], 0, -1, lps, some 0, fNl (pos + cntN notNl T (L - pos) pos) (cntN notNl T (L - pos) pos) a :: fr, w + 1 + 1, none, none⟩ := by
  intro sn
  obtain ⟨s1, e1⟩ := run_cnt (T := T) (acc_nl h) (L - pos) pos 0 ((sn.add 24).add 20)
  refine ⟨s1, ?_⟩
  have hr : min 4294967295 ((L : Int) - (pos : Int)).toNat = L - pos := by omega
  have key : ∀ r, r = Except.ok (0 + cntN notNl T (L - pos) pos, s1) → (if ((0 : Nat) : Int) > ((L : Int) - (pos : Int)) then ((⟨25, pos, hd, #[a, b], 0, -1, lps, some 0, fr, w, none, none⟩ : Q).m C T L st (sn.add 24)).say false else
      match (r : Except String (Nat × Seen)) with
      | .error why => ((⟨25, pos, hd, #[a, b], 0, -1, lps, some 0, fr, w, none, none⟩ : Q).m C T L st (sn.add 24)).stick why
      | .ok (n, seen) =>
        if n < 0 then ((⟨25, pos, hd, #[a, b], 0, -1, lps, some 0, fr, w, none, none⟩ : Q).m C T L st seen).say false else
        ((⟨25, pos + n, hd, #[a, b], 0, -1, lps, some 0, fr, w, none, none⟩ : Q).m C T L st seen).attempt (fNl (pos + n) n a) 32 (pos + n) true) = (⟨32, pos + cntN notNl T (L - pos) pos, pos + cntN notNl T (L - pos) pos, #[a, b], 0, -1, lps, some 0, fNl (pos + cntN notNl T (L - pos) pos) (cntN notNl T (L - pos) pos) a :: fr, w + 1 + 1, none, none⟩ : Q).m C T L st s1 := by
    rintro r rfl
    rw [if_neg (by omega)]
    dsimp only
    rw [if_neg (by omega), Nat.zero_add]
    unfold M.attempt
    rw [if_neg (by show ¬ (w + 1 + 1 > 16777216); omega)]
    rfl
  rw [← key (Sre.run C T 29 (min 4294967295 ((L : Int) - (pos : Int)).toNat) pos 0 ((sn.add 24).add 20)) (by rw [hr]; exact e1)]
  rcases h with rfl | rfl <;> rfl
theorem s35c (hp : pos ≤ L) (hw : w < 100) {lps : Array Loop} :
    One eolC T L st ⟨35, pos, hd, #[a, b], lm, li, lps, none, fr, w, none, none⟩ ⟨42, pos + cntN isCr T (min 1 (L - pos)) pos, pos + cntN isCr T (min 1 (L - pos)) pos, #[a, b], lm, li, lps, none, fCr (pos + cntN isCr T (min 1 (L - pos)) pos) (cntN isCr T (min 1 (L - pos)) pos) lm li :: fr, w + 1, none, none⟩ := by
  intro sn
  obtain ⟨s1, e1⟩ := run_cnt (T := T) acc_cr (min 1 (L - pos)) pos 0 ((sn.add 24).add 16)
  refine ⟨s1, ?_⟩
  have hr : min 1 ((L : Int) - (pos : Int)).toNat = min 1 (L - pos) := by omega
  have key : ∀ r, r = Except.ok (0 + cntN isCr T (min 1 (L - pos)) pos, s1) → (if ((0 : Nat) : Int) > ((L : Int) - (pos : Int)) then ((⟨35, pos, hd, #[a, b], lm, li, lps, none, fr, w, none, none⟩ : Q).m eolC T L st (sn.add 24)).say false else
      match (r : Except String (Nat × Seen)) with
      | .error why => ((⟨35, pos, hd, #[a, b], lm, li, lps, none, fr, w, none, none⟩ : Q).m eolC T L st (sn.add 24)).stick why
      | .ok (n, seen) =>
        if n < 0 then ((⟨35, pos, hd, #[a, b], lm, li, lps, none, fr, w, none, none⟩ : Q).m eolC T L st seen).say false else
        ((⟨35, pos + n, hd, #[a, b], lm, li, lps, none, fr, w, none, none⟩ : Q).m eolC T L st seen).attempt (fCr (pos + n) n lm li) 42 (pos + n) true) = (⟨42, pos + cntN isCr T (min 1 (L - pos)) pos, pos + cntN isCr T (min 1 (L - pos)) pos, #[a, b], lm, li, lps, none, fCr (pos + cntN isCr T (min 1 (L - pos)) pos) (cntN isCr T (min 1 (L - pos)) pos) lm li :: fr, w + 1, none, none⟩ : Q).m eolC T L st s1 := by
    rintro r rfl
    rw [if_neg (by omega)]
    dsimp only
    rw [if_neg (by omega), Nat.zero_add]
    unfold M.attempt
    rw [if_neg (by show ¬ (w + 1 + 0 > 16777216); omega)]
    rfl
  rw [← key (Sre.run eolC T 39 (min 1 ((L : Int) - (pos : Int)).toNat) pos 0 ((sn.add 24).add 16)) (by rw [hr]; exact e1)]
  rfl

-- frames that come back
variable {pc p' pos1 : Nat} {n : Int} {lps : Array Loop} {inn : Option Nat}
theorem yBl : One C T L st ⟨pc, p', hd, marks, lm, li, lps, inn, fBl pos n :: fr, w, some true, none⟩ ⟨5, pos, hd, marks, lm, li, lps, inn, fr, w - 1, some true, none⟩ := fun sn => ⟨sn, rfl⟩
theorem yCr {lm' li' : Int} : One C T L st ⟨pc, p', hd, marks, lm, li, lps, inn, fCr pos n lm' li' :: fr, w, some true, none⟩ ⟨35, pos, hd, marks, lm, li, lps, inn, fr, w - 1, some true, none⟩ := fun sn => ⟨sn, rfl⟩
theorem yNl : One C T L st ⟨pc, p', hd, marks, lm, li, lps, inn, fNl pos n a :: fr, w, some true, none⟩ ⟨25, pos, hd, marks, lm, li, lps, inn, fr, w - 2, some true, none⟩ := fun sn => ⟨sn, rfl⟩
theorem yTl {lm' li' : Int} : One C T L st ⟨pc, p', hd, marks, lm, li, lps, inn, fTl pos n lm' li' :: fr, w, some true, none⟩ ⟨35, pos, hd, marks, lm, li, lps, some 0, fr, w - 1, some true, none⟩ := fun sn => ⟨sn, rfl⟩
theorem yMm {l : Loop} : One C T L st ⟨pc, p', hd, marks, lm, li, #[l], inn, fMm pos :: fr, w, some true, none⟩ ⟨35, pos, hd, marks, lm, li, #[{ l with began := none }], inn, fr, w - 1, some true, none⟩ := fun sn => ⟨sn, rfl⟩
theorem yCl {l : Loop} {y : Bool} : One C T L st ⟨pc, p', hd, marks, lm, li, #[l], inn, fCl pos :: fr, w, some y, none⟩ ⟨17, pos, hd, marks, lm, li, #[], l.outer, fr, w - 1, some y, none⟩ := fun sn => ⟨sn, by cases y <;> rfl⟩
theorem yEnd {y : Bool} : One C T L st ⟨pc, p', hd, marks, lm, li, lps, inn, [], w, some y, none⟩ ⟨pc, p', hd, marks, lm, li, lps, inn, [], w, some y, some (if y then .matched else .failed)⟩ := fun sn => ⟨sn, rfl⟩
theorem nTl {lm' li' : Int} : One C T L st ⟨pc, p', hd, marks, lm, li, lps, inn, fTl pos n lm' li' :: fr, w, some false, none⟩ ⟨35, pos, hd, marks, lm, li, lps, some 0, fr, w - 1, some false, none⟩ := fun sn => ⟨sn, rfl⟩
/-- nothing more to give back -/
theorem nCr0 {lm' li' : Int} : One eolC T L st ⟨pc, p', hd, #[a, b], lm, li, lps, inn, fCr pos 0 lm' li' :: fr, w, some false, none⟩ ⟨35, pos, hd, #[a, b], lm', li', lps, inn, fr, w - 1, some false, none⟩ := fun sn => ⟨sn, rfl⟩
theorem nCr1 {lm' li' : Int} (hw : w < 100) : One eolC T L st ⟨pc, p', hd, #[a, b], lm, li, lps, inn, fCr pos 1 lm' li' :: fr, w + 1, some false, none⟩ ⟨42, pos - 1, pos - 1, #[a, b], lm', li', lps, inn, fCr (pos - 1) 0 lm' li' :: fr, w + 1, none, none⟩ := by
  intro sn
  refine ⟨sn, ?_⟩
  show M.attempt _ _ _ _ _ = _
  unfold M.attempt
  rw [if_neg (by show ¬ (w + 1 - 1 + 1 + 0 > 16777216); omega)]
  rfl
theorem nBl0 (h : Cg C) : One C T L st ⟨pc, p', hd, #[a, b], lm, li, #[], inn, fBl pos 0 :: fr, w, some false, none⟩ ⟨5, pos, hd, #[a, b], -1, -1, #[], inn, fr, w - 1, some false, none⟩ := fun sn => ⟨sn, by rcases h with rfl | rfl <;> rfl⟩
theorem nBl {n : Nat} (h : Cg C) (hw : w < 100) : One C T L st ⟨pc, p', hd, #[a, b], lm, li, #[], inn, fBl pos ((n + 1 : Nat) : Int) :: fr, w + 1, some false, none⟩ ⟨17, pos - 1, pos - 1, #[a, b], -1, -1, #[], inn, fBl (pos - 1) (n : Int) :: fr, w + 1, none, none⟩ := by
  intro sn
  refine ⟨sn, ?_⟩
  have hn : ((n + 1 : Nat) : Int) - 1 = (n : Int) := by omega
  have key : (if ((n + 1 : Nat) : Int) - 1 < ((0 : Nat) : Int) then ((⟨5, pos, hd, #[a, b], -1, -1, #[], inn, fr, w + 1 - 1, none, none⟩ : Q).m C T L st sn).say false else
      ((⟨5, pos - 1, hd, #[a, b], -1, -1, #[], inn, fr, w + 1 - 1, none, none⟩ : Q).m C T L st sn).attempt (fBl (pos - 1) (((n + 1 : Nat) : Int) - 1)) 17 (pos - 1) true) = (⟨17, pos - 1, pos - 1, #[a, b], -1, -1, #[], inn, fBl (pos - 1) (n : Int) :: fr, w + 1, none, none⟩ : Q).m C T L st sn := by
    rw [if_neg (by omega), hn]
    unfold M.attempt
    rw [if_neg (by show ¬ (w + 1 - 1 + 1 + 0 > 16777216); omega)]
    rfl
  rw [← key]
  rcases h with rfl | rfl <;> rfl
end
end Mine
end
section
open PySem PySem.Sre
set_option autoImplicit false
set_option maxRecDepth 100000
namespace Mine
section
variable {C T : Array Nat} {L st pos hd : Nat} {marks : Array (Option Nat)} {lm li : Int} {fr : List Sre.Frame} {w : Nat} {a b : Option Nat}
theorem Go.snoc {n : Nat} {q q' q'' : Q} (x : Go C T L st n q q') (h : q'.out = none) (y : One C T L st q' q'') : Go C T L st (n + 1) q q'' := x.trans (Go.one h y)
theorem Go.cons {n : Nat} {q q' q'' : Q} (h : q.out = none) (y : One C T L st q q') (x : Go C T L st n q' q'') : Go C T L st (n + 1) q q'' := by
  have := (Go.one h y).trans x
  rwa [Nat.add_comm] at this
/-- past the group, which is not there -/
theorem tail0 (h : Cg C) {q : Nat} (hw : w < 90) (hq : L ≤ q ∨ T.getD q 0 ≠ 35) : Go C T L st 5 ⟨17, q, hd, #[a, b], -1, -1, #[], none, fr, w, none, none⟩ ⟨35, q, q, #[some q, b], -1, -1, lp0, none, fTl q 0 (-1) (-1) :: fCl q :: fr, w + 1 + 1, none, none⟩ :=
  .cons rfl (s17 h (by omega)) (.cons rfl (s34a h (by omega)) (.cons rfl (s21 h) (.cons rfl (s23n h hq) (.cons rfl (nMm h (w := w + 1) (by omega)) (.refl _)))))
theorem cr_one {q : Nat} (hq : q < L) : cntN isCr T (min 1 (L - q)) q = if T.getD q 0 = 13 then 1 else 0 := by
  rw [show min 1 (L - q) = 1 by omega]
  unfold cntN isCr
  by_cases h : T.getD q 0 = 13
  · rw [if_pos h, h]; rfl
  · rw [if_neg h, if_neg (by simpa using h)]
theorem cr_end {q : Nat} (hq : L ≤ q) : cntN isCr T (min 1 (L - q)) q = 0 := by
  rw [show min 1 (L - q) = 0 by omega]; rfl
/-- no line end here -/
theorem tailFail {q : Nat} (hw : w < 90) (hqL : q ≤ L) (h35 : q = L ∨ T.getD q 0 ≠ 35) (h10 : q = L ∨ T.getD q 0 ≠ 10) (hcr : q = L ∨ T.getD q 0 ≠ 13 ∨ q + 1 = L ∨ T.getD (q + 1) 0 ≠ 10) :
    ∃ pc' p' hd' a' b', Go eolC T L st 20 ⟨17, q, hd, #[a, b], -1, -1, #[], none, fr, w, none, none⟩ ⟨pc', p', hd', #[a', b'], -1, -1, #[], none, fr, w, some false, none⟩ := by
  have h0 := tail0 (C := eolC) (T := T) (L := L) (st := st) (hd := hd) (a := a) (b := b) (fr := fr) (.inl rfl) (q := q) hw (h35.imp (fun e => by omega) id)
  have h1 := h0.snoc rfl (s35c (lps := lp0) hqL (by omega))
  by_cases hn : cntN isCr T (min 1 (L - q)) q = 0
  · rw [hn] at h1
    simp only [Nat.add_zero] at h1
    have h2 := h1.snoc rfl (s42n (h10.imp (fun e => by omega) id))
    have h3 := h2.snoc rfl nCr0
    have h4 := h3.snoc rfl nTl
    have h5 := h4.snoc rfl (yCl (y := false))
    exact ⟨_, _, _, _, _, h5.mono (by omega)⟩
  · have hqL' : q < L := by
      rcases Nat.lt_or_ge q L with h | h
      · exact h
      · exact absurd (cr_end h) hn
    have h13 : T.getD q 0 = 13 := by
      rw [cr_one hqL'] at hn
      by_cases h : T.getD q 0 = 13
      · exact h
      · rw [if_neg h] at hn; exact absurd rfl hn
    rw [cr_one hqL', if_pos h13] at h1
    have h2 := h1.snoc rfl (s42n (pos := q + 1) (by
      rcases hcr with h | h | h | h
      · omega
      · exact absurd h13 h
      · left; omega
      · right; exact h))
    have h3 := h2.snoc rfl (nCr1 (w := w + 1 + 1) (by omega))
    simp only [Nat.add_sub_cancel] at h3
    have h4 := h3.snoc rfl (s42n (pos := q) (by right; rw [h13]; decide))
    have h5 := h4.snoc rfl nCr0
    have h6 := h5.snoc rfl nTl
    have h7 := h6.snoc rfl (yCl (y := false))
    exact ⟨_, _, _, _, _, h7.mono (by omega)⟩
/-- a line end without a remark -/
theorem tailEol {q e : Nat} (hw : w < 90) (hqL : q < L) (h35 : T.getD q 0 ≠ 35) (he : (T.getD q 0 = 13 ∧ e = q + 1 ∧ e < L ∧ T.getD e 0 = 10) ∨ (T.getD q 0 = 10 ∧ e = q)) :
    ∃ pc' p' a' b', Go eolC T L st 20 ⟨17, q, hd, #[a, b], -1, -1, #[], none, fr, w, none, none⟩ ⟨pc', p', e + 1, #[a', b'], -1, -1, #[], none, fr, w, some true, none⟩ := by
  have h0 := tail0 (C := eolC) (T := T) (L := L) (st := st) (hd := hd) (a := a) (b := b) (fr := fr) (.inl rfl) (q := q) hw (.inr h35)
  have h1 := h0.snoc rfl (s35c (lps := lp0) (Nat.le_of_lt hqL) (by omega))
  have hn : q + cntN isCr T (min 1 (L - q)) q = e := by
    rw [cr_one hqL]
    rcases he with ⟨h, e1, _⟩ | ⟨h, e1⟩
    · rw [if_pos h, e1]
    · rw [if_neg (by rw [h]; decide), e1]; rfl
  rw [hn] at h1
  have h2 := h1.snoc rfl (s42y (pos := e) (by rcases he with ⟨_, _, h, _⟩ | ⟨_, h⟩ <;> omega) (by rcases he with ⟨_, _, _, h⟩ | ⟨h, e1⟩; exact h; rw [e1]; exact h))
  have h3 := h2.snoc rfl s44
  have h4 := h3.snoc rfl yCr
  have h5 := h4.snoc rfl yTl
  have h6 := h5.snoc rfl (yCl (y := true))
  exact ⟨_, _, _, _, h6.mono (by omega)⟩
/-- a remark, and the line end behind it -/
theorem tailRem {q e : Nat} (hL : L < 4294967295) (hw : w < 90) (hqL : q < L) (h35 : T.getD q 0 = 35) (he : e = q + 1 + cntN notNl T (L - (q + 1)) (q + 1)) (heL : e < L) (h10 : T.getD e 0 = 10) :
    ∃ pc' p', Go eolC T L st 20 ⟨17, q, hd, #[a, b], -1, -1, #[], none, fr, w, none, none⟩ ⟨pc', p', e + 1, #[some q, some e], 1, 1, #[], none, fr, w, some true, none⟩ := by
  have h0 : Go eolC T L st 0 _ _ := Go.refl ⟨17, q, hd, #[a, b], -1, -1, #[], none, fr, w, none, none⟩
  have h1 := h0.snoc rfl (s17 (.inl rfl) (by omega))
  have h2 := h1.snoc rfl (s34a (.inl rfl) (by omega))
  have h3 := h2.snoc rfl (s21 (.inl rfl))
  have h4 := h3.snoc rfl (s23y (.inl rfl) hqL h35)
  have h5 := h4.snoc rfl (s25 (.inl rfl) hL (by omega) (by omega))
  rw [← he] at h5
  have h6 := h5.snoc rfl (s32 (.inl rfl))
  have h7 := h6.snoc rfl (s34b (.inl rfl) (by omega))
  have h8 := h7.snoc rfl (s35c (Nat.le_of_lt heL) (by omega))
  rw [cr_one heL, if_neg (by rw [h10]; decide)] at h8
  simp only [Nat.add_zero] at h8
  have h9 := h8.snoc rfl (s42y heL h10)
  have h10' := h9.snoc rfl s44
  have h11 := h10'.snoc rfl yCr
  have h12 := h11.snoc rfl yTl
  have h13 := h12.snoc rfl yNl
  have h14 := h13.snoc rfl yMm
  have h15 := h14.snoc rfl (yCl (y := true))
  exact ⟨_, _, h15.mono (by omega)⟩

theorem bl_at : ∀ (k p j : Nat), j < cntN isBl T k p → isBl (T.getD (p + j) 0) = true
  | 0, _, _, h => by simp [cntN] at h
  | k + 1, p, j, h => by
    unfold cntN at h
    cases hf : isBl (T.getD p 0) with
    | true =>
      rw [hf, if_pos rfl] at h
      cases j with
      | zero => exact hf
      | succ j =>
        have := bl_at k (p + 1) j (by omega)
        rw [show p + (j + 1) = p + 1 + j by omega]; exact this
    | false => rw [hf] at h; simp at h
theorem bl_le : ∀ (f : Nat → Bool) (k p : Nat), cntN f T k p ≤ k
  | _, 0, _ => Nat.le_refl _
  | f, k + 1, p => by
    unfold cntN
    have := bl_le f k (p + 1)
    split <;> omega
/-- every way is tried, and none leads on -/
theorem giveAll {i : Nat} (hw : w < 80) (hbl : ∀ j, i ≤ j → j < pos → isBl (T.getD j 0) = true) (hp : pos ≤ L) : ∀ (n : Nat) (a b : Option Nat) (hd pc p' : Nat), i + n ≤ pos → n + i = pos ∨ True →
    ∀ (posn : Nat), posn = i + n → ∃ hd' a' b', Go eolC T L st (30 * (n + 1)) ⟨pc, p', hd, #[a, b], -1, -1, #[], none, fBl posn n :: fr, w + 1, some false, none⟩ ⟨5, i, hd', #[a', b'], -1, -1, #[], none, fr, w, some false, none⟩ := by
  intro n
  induction n with
  | zero =>
    intro a b hd pc p' _ _ posn e
    subst e
    exact ⟨_, _, _, (Go.one rfl (nBl0 (w := w + 1) (.inl rfl))).mono (by omega)⟩
  | succ n ih =>
    intro a b hd pc p' hn _ posn e
    subst e
    have h1 : Go eolC T L st 1 ⟨pc, p', hd, #[a, b], -1, -1, #[], none, fBl (i + (n + 1)) ((n + 1 : Nat) : Int) :: fr, w + 1, some false, none⟩ _ := Go.one rfl (nBl (.inl rfl) (by omega))
    rw [show i + (n + 1) - 1 = i + n by omega] at h1
    have hb := hbl (i + n) (by omega) (by omega)
    have hb' : T.getD (i + n) 0 = 32 ∨ T.getD (i + n) 0 = 9 := by simpa [isBl] using hb
    obtain ⟨pc1, p1, hd1, a1, b1, h2⟩ := tailFail (T := T) (L := L) (st := st) (hd := i + n) (a := a) (b := b) (fr := fBl (i + n) (n : Int) :: fr) (w := w + 1) (q := i + n) (by omega) (by omega)
      (.inr (by rcases hb' with h | h <;> rw [h] <;> decide)) (.inr (by rcases hb' with h | h <;> rw [h] <;> decide)) (.inr (.inl (by rcases hb' with h | h <;> rw [h] <;> decide)))
    obtain ⟨hd2, a2, b2, h3⟩ := ih a1 b1 hd1 pc1 p1 (by omega) (.inr trivial) (i + n) rfl
    exact ⟨_, _, _, ((h1.trans h2).trans h3).mono (by omega)⟩
end

/-- the machine's end -/
def Ends (m : M) (o : M → Prop) : Prop := ∃ k, k ≤ 100000 ∧ ∃ r, m.runFor k = r ∧ r.outcome.isSome = true ∧ o r
def q0 (i : Nat) : Q := ⟨5, i, i, #[none, none], -1, -1, #[], none, [], 0, none, none⟩
theorem ends_of {C T : Array Nat} {L st n : Nat} {q q' : Q} {sn : Seen} {o : M → Prop} (g : Go C T L st n q q') (hn : n ≤ 100000) (h : q'.out.isSome = true) (ho : ∀ sn', o (q'.m C T L st sn')) : Ends (q.m C T L st sn) o := by
  obtain ⟨s1, k, hk, e⟩ := g sn
  exact ⟨k, by omega, _, e, h, ho s1⟩
/-- what a match of eol gives at a place -/
theorem eol_ends {T : Array Nat} {L i : Nat} (hL : L < 2000) (hi : i < L) {p : Nat} (hp : p = i + cntN isBl T (L - i) i) :
    (∀ e, p < L → T.getD p 0 = 35 → e = p + 1 + cntN notNl T (L - (p + 1)) (p + 1) → e < L → T.getD e 0 = 10 → Ends (forMatch eolC T 1 i L false false) fun r => r.outcome = some .matched ∧ r.start = i ∧ r.handed = e + 1 ∧ r.marks = #[some p, some e] ∧ r.lastmark = 1 ∧ p ≤ e) ∧
    (∀ e, p < L → T.getD p 0 ≠ 35 → ((T.getD p 0 = 13 ∧ e = p + 1 ∧ e < L ∧ T.getD e 0 = 10) ∨ (T.getD p 0 = 10 ∧ e = p)) → Ends (forMatch eolC T 1 i L false false) fun r => r.outcome = some .matched ∧ r.start = i ∧ r.handed = e + 1 ∧ r.lastmark = -1 ∧ r.marks.size = 2) ∧
    ((p = L ∨ T.getD p 0 ≠ 35) → (p = L ∨ T.getD p 0 ≠ 10) → (p = L ∨ T.getD p 0 ≠ 13 ∨ p + 1 = L ∨ T.getD (p + 1) 0 ≠ 10) → Ends (forMatch eolC T 1 i L false false) fun r => r.outcome = some .failed) := by
  have hm : ∃ sn, forMatch eolC T 1 i L false false = (q0 i).m eolC T L i sn := by
    refine ⟨({} : Seen).add 14, ?_⟩
    have key : ∀ c : Bool, c = false → (if c = true then ((q0 i).m eolC T L i (({} : Seen).add 14)).say false else (q0 i).m eolC T L i (({} : Seen).add 14)) = (q0 i).m eolC T L i (({} : Seen).add 14) := by
      rintro c rfl; rfl
    exact key (1 != 0 && decide (i ≤ L) && decide (L - i < 1)) (by simp; omega)
  obtain ⟨sn, hm⟩ := hm
  rw [hm]
  have hpL : p ≤ L := by have := bl_le (T := T) isBl (L - i) i; omega
  have h5 : Go eolC T L i 1 (q0 i) _ := Go.one rfl (s5 (fr := []) (w := 0) (.inl rfl) (by omega) (Nat.le_of_lt hi) (by omega))
  rw [← hp] at h5
  refine ⟨fun e h1 h2 h3 h4 h6 => ?_, fun e h1 h2 h3 => ?_, fun h1 h2 h3 => ?_⟩
  · obtain ⟨pc', p', g⟩ := tailRem (st := i) (hd := p) (a := none) (b := none) (fr := [fBl p (cntN isBl T (L - i) i)]) (w := 0 + 1) (by omega) (by omega) h1 h2 h3 h4 h6
    refine ends_of ((((h5.trans g).snoc rfl yBl).snoc rfl yEnd)) (by omega) rfl fun sn' => ⟨rfl, rfl, rfl, rfl, rfl, by omega⟩
  · obtain ⟨pc', p', a', b', g⟩ := tailEol (st := i) (hd := p) (a := none) (b := none) (fr := [fBl p (cntN isBl T (L - i) i)]) (w := 0 + 1) (by omega) h1 h2 h3
    refine ends_of ((((h5.trans g).snoc rfl yBl).snoc rfl yEnd)) (by omega) rfl fun sn' => ⟨rfl, rfl, rfl, rfl, rfl⟩
  · obtain ⟨pc', p', hd', a', b', g⟩ := tailFail (T := T) (L := L) (st := i) (hd := p) (a := none) (b := none) (fr := [fBl p (cntN isBl T (L - i) i)]) (w := 0 + 1) (by omega) hpL h1 h2 h3
    obtain ⟨hd2, a2, b2, g2⟩ := giveAll (T := T) (L := L) (st := i) (fr := []) (w := 0) (i := i) (pos := p) (by omega) (fun j h1 h2 => by
      have := bl_at (T := T) (L - i) i (j - i) (by omega)
      rw [show i + (j - i) = j by omega] at this; exact this) hpL (cntN isBl T (L - i) i) a' b' hd' pc' p' (by omega) (.inr trivial) p hp
    refine ends_of (((h5.trans g).trans g2).snoc rfl yEnd) (by have := bl_le (T := T) isBl (L - i) i; omega) rfl fun sn' => rfl
end Mine
end
section
open PySem PySem.Sre
set_option autoImplicit false
set_option maxRecDepth 100000
namespace Mine
theorem eof_ends {T : Array Nat} {L i : Nat} (hL : L < 2000) (hi : i ≤ L) :
    (i = L → Ends (forMatch eofC T 1 i L false false) fun r => r.outcome = some .matched ∧ r.start = i ∧ r.handed = i ∧ r.lastmark = -1 ∧ r.marks.size = 2) ∧
    (i < L → isBl (T.getD i 0) = false → T.getD i 0 ≠ 35 → T.getD i 0 ≠ 10 → Ends (forMatch eofC T 1 i L false false) fun r => r.outcome = some .failed) := by
  have hm : ∃ sn, forMatch eofC T 1 i L false false = (q0 i).m eofC T L i sn := ⟨({} : Seen).add 14, rfl⟩
  obtain ⟨sn, hm⟩ := hm
  rw [hm]
  have h5 : Go eofC T L i 1 (q0 i) _ := Go.one rfl (s5 (fr := []) (w := 0) (.inr (.inl rfl)) (by omega) hi (by omega))
  refine ⟨fun h => ?_, fun h1 h2 h3 h4 => ?_⟩
  · subst h
    have hn : cntN isBl T (i - i) i = 0 := by rw [Nat.sub_self]; rfl
    rw [hn] at h5
    simp only [Nat.add_zero] at h5
    have h6 := h5.trans (tail0 (.inr rfl) (w := 0 + 1) (by omega) (.inl (Nat.le_refl _)))
    have h7 := h6.snoc rfl (s35y rfl)
    have h8 := h7.snoc rfl s37
    have h9 := h8.snoc rfl yTl
    have h10 := h9.snoc rfl (yCl (y := true))
    have h11 := h10.snoc rfl yBl
    exact ends_of (h11.snoc rfl yEnd) (by omega) rfl fun sn' => ⟨rfl, rfl, rfl, rfl, rfl⟩
  · have hn : cntN isBl T (L - i) i = 0 := by
      obtain ⟨k, e⟩ : ∃ k, L - i = k + 1 := ⟨L - i - 1, by omega⟩
      rw [e]; unfold cntN; rw [h2]; rfl
    rw [hn] at h5
    simp only [Nat.add_zero] at h5
    have h6 := h5.trans (tail0 (.inr rfl) (w := 0 + 1) (by omega) (.inr h3))
    have h7 := h6.snoc rfl (s35n h1 h4)
    have h9 := h7.snoc rfl nTl
    have h10 := h9.snoc rfl (yCl (y := false))
    have h11 := h10.snoc rfl (nBl0 (.inr rfl))
    exact ends_of (h11.snoc rfl yEnd) (by omega) rfl fun sn' => rfl
theorem ws_ends {T : Array Nat} {L i : Nat} (hL : L < 2000) (hi : i ≤ L) : Ends (forMatch wsC T 0 i L false false) fun r => r.outcome = some .matched ∧ r.start = i ∧ r.handed = i + cntN isBl T (L - i) i ∧ r.lastmark = -1 := by
  have hm : ∃ sn, forMatch wsC T 0 i L false false = (⟨5, i, i, #[], -1, -1, #[], none, [], 0, none, none⟩ : Q).m wsC T L i sn := ⟨({} : Seen).add 14, rfl⟩
  obtain ⟨sn, hm⟩ := hm
  rw [hm]
  have h5 : Go wsC T L i 1 ⟨5, i, i, #[], -1, -1, #[], none, [], 0, none, none⟩ _ := Go.one rfl (s5 (fr := []) (w := 0) (.inr (.inr rfl)) (by omega) hi (by omega))
  have h6 := h5.snoc rfl s17w
  have h7 := h6.snoc rfl yBl
  exact ends_of (h7.snoc rfl yEnd) (by omega) rfl fun sn' => ⟨rfl, rfl, rfl, rfl⟩

def isInt (c : Nat) : Bool := c == 92 || c == 13 || c == 10 || c == 34 || c == 39
theorem int_bit (c : Nat) (i : Nat) (h : i = 5 ∨ i = 17) : (decide (c < 256) && (intC.getD (i + (1 + c / 32)) 0).testBit (c % 32)) = isInt c := by
  by_cases hc : c < 256
  · have key : ∀ k : Fin 256, (decide (k.1 < 256) && (intC.getD (5 + (1 + k.1 / 32)) 0).testBit (k.1 % 32)) = isInt k.1 ∧ (decide (k.1 < 256) && (intC.getD (17 + (1 + k.1 / 32)) 0).testBit (k.1 % 32)) = isInt k.1 := by decide +kernel
    rcases h with rfl | rfl
    · exact (key ⟨c, hc⟩).1
    · exact (key ⟨c, hc⟩).2
  · rw [decide_eq_false hc, Bool.false_and]
    unfold isInt
    simp
    omega
theorem int_set (c : Nat) (sn : Seen) : (∃ sn', inSet intC c intC.size 5 true sn = .ok (isInt c, sn')) ∧ ∃ sn', accepts intC 15 c sn = .ok (isInt c, sn') := by
  have k1 : ∃ a b, inSet intC c intC.size 5 true sn = if (decide (c < 256) && (intC.getD (5 + (1 + c / 32)) 0).testBit (c % 32)) = true then .ok (true, a) else .ok (false, b) := ⟨_, _, rfl⟩
  have k2 : ∃ a b, accepts intC 15 c sn = if (decide (c < 256) && (intC.getD (17 + (1 + c / 32)) 0).testBit (c % 32)) = true then .ok (true, a) else .ok (false, b) := ⟨_, _, rfl⟩
  obtain ⟨a, b, e1⟩ := k1
  obtain ⟨a', b', e2⟩ := k2
  rw [int_bit c 5 (.inl rfl)] at e1
  rw [int_bit c 17 (.inr rfl)] at e2
  rw [e1, e2]
  cases isInt c <;> exact ⟨⟨_, rfl⟩, ⟨_, rfl⟩⟩
theorem admit {m : M} (hc : m.code = intC) : ∀ (fuel s d : Nat) (sn : Seen), d < fuel → s + d < m.lim → isInt (m.text.getD (s + d) 0) = true → (∀ j, j < d → isInt (m.text.getD (s + j) 0) = false) → ∃ sn', m.admitted fuel s sn = .ok (some (s + d), sn')
  | 0, _, _, _, h, _, _, _ => by omega
  | fuel + 1, s, d, sn, h, h1, h2, h3 => by
    unfold M.admitted
    rw [if_neg (by omega), hc]
    obtain ⟨s1, e1⟩ := (int_set (m.text.getD s 0) sn).1
    rw [e1]
    cases d with
    | zero =>
      rw [Nat.add_zero] at h2
      rw [h2]; exact ⟨s1, rfl⟩
    | succ d =>
      have := h3 0 (by omega)
      rw [Nat.add_zero] at this
      rw [this]
      obtain ⟨s2, e2⟩ := admit hc fuel (s + 1) d s1 (by omega) (by omega) (by rw [show s + 1 + d = s + (d + 1) by omega]; exact h2) (fun j hj => by have := h3 (j + 1) (by omega); rw [show s + 1 + j = s + (j + 1) by omega]; exact this)
      refine ⟨s2, ?_⟩
      rw [show s + (d + 1) = s + 1 + d by omega]
      exact e2
def mInt (T : Array Nat) (L i : Nat) (sn : Seen) : M := { code := intC, text := T, lim := L, start := i, lastStart := L, pc := 15, pos := i, handed := i, marks := #[], mustAdvance := false, seen := sn }
/-- the first sign that strconst looks for -/
theorem int_ends {T : Array Nat} {L i s : Nat} (hs : i ≤ s) (hsL : s < L) (hk : isInt (T.getD s 0) = true) (hno : ∀ j, i ≤ j → j < s → isInt (T.getD j 0) = false) :
    Ends (forSearch intC T 0 i L false) fun r => r.outcome = some .matched ∧ r.start = s ∧ r.handed = s + 1 ∧ r.lastmark = -1 := by
  have hm : forSearch intC T 0 i L false = (mInt T L i (({} : Seen).add 14)).attemptFrom i true := by
    have key : ∀ c : Bool, c = false → (if c = true then ({ mInt T L i (({} : Seen).add 14) with lastStart := 0 } : M).say false else (mInt T L i (({} : Seen).add 14)).attemptFrom i true) = (mInt T L i (({} : Seen).add 14)).attemptFrom i true := by
      rintro c rfl; rfl
    rw [← key (decide (i > L) || decide (L - i < 1)) (by simp; omega)]
    rfl
  rw [hm]
  obtain ⟨s1, e1⟩ := admit (m := mInt T L i (({} : Seen).add 14)) rfl (L + 1 - i) i (s - i) (({} : Seen).add 14) (by omega) (by show i + (s - i) < L; omega) (by show isInt (T.getD _ 0) = true; rw [show i + (s - i) = s by omega]; exact hk)
    (fun j hj => by show isInt (T.getD _ 0) = false; exact hno _ (by omega) (by omega))
  rw [show i + (s - i) = s by omega] at e1
  have hat : (mInt T L i (({} : Seen).add 14)).attemptFrom i true = { mInt T L s s1 with frames := [{ wait := .nextStart, pc := 15, pos := s, outermost := true }], weight := 1 } := by
    show (match (mInt T L i (({} : Seen).add 14)).admitted (L + 1 - i) i (({} : Seen).add 14) with | .ok (some s, seen) => _ | .ok (none, seen) => _ | .error why => _) = _
    rw [e1]
    rfl
  rw [hat]
  obtain ⟨s2, e2⟩ := (int_set (T.getD s 0) (s1.add 13)).2
  rw [hk] at e2
  have st1 : ({ mInt T L s s1 with frames := [{ wait := .nextStart, pc := 15, pos := s, outermost := true }], weight := 1 } : M).step = { mInt T L s s2 with frames := [{ wait := .nextStart, pc := 15, pos := s, outermost := true }], weight := 1, pc := 27, pos := s + 1 } := by
    refine (if_neg (show ¬ s ≥ L by omega)).trans ?_
    show (match accepts intC 15 (T.getD s 0) (s1.add 13) with | .error why => _ | .ok (false, seen) => _ | .ok (true, seen) => _) = _
    rw [e2]
    rfl
  refine ⟨4, by omega, _, rfl, ?_, ?_⟩
  all_goals
    rw [runFor_step _ 3 rfl, st1]
  · rfl
  · exact ⟨rfl, rfl, rfl, rfl⟩
end Mine
end
section
open PySem PySem.W PySem.Calls PyProof.Rows
set_option autoImplicit false
set_option maxRecDepth 100000
namespace Mine
theorem pa_pat : PlainAttrs "re.Pattern" :=
  ⟨⟨"object.__getattribute__", by rw [typeLookup_type, builtinLookup_eq_fast]; kernel_rfl, by decide +kernel⟩, by rw [typeLookup_type, builtinLookup_eq_fast]; kernel_rfl⟩
theorem pa_mat : PlainAttrs "re.Match" :=
  ⟨⟨"object.__getattribute__", by rw [typeLookup_type, builtinLookup_eq_fast]; kernel_rfl, by decide +kernel⟩, by rw [typeLookup_type, builtinLookup_eq_fast]; kernel_rfl⟩
theorem ow_pat : Manifest.owners.lookup (String.ofList ['n', 'r', 'e', 't', 't', 'a', 'P', '.', 'e', 'r'].reverse) = some Manifest.sig_re_Pattern := by kernel_rfl
theorem ow_mat : Manifest.owners.lookup (String.ofList ['h', 'c', 't', 'a', 'M', '.', 'e', 'r'].reverse) = some Manifest.sig_re_Match := by kernel_rfl
theorem sl_match : Slot "re.Pattern" "match" "re.Pattern.match" :=
  .of (owner := "re.Pattern") (n := "match") (by rw [typeLookup_type, builtinLookup_eq_fast]; kernel_rfl) (by decide +kernel) (by decide +kernel) (by decide +kernel) (by first | exact .inl (by decide +kernel) | exact .inr (by decide +kernel)) (by rw [isSubtype_type]; kernel_rfl)
theorem sl_search : Slot "re.Pattern" "search" "re.Pattern.search" :=
  .of (owner := "re.Pattern") (n := "search") (by rw [typeLookup_type, builtinLookup_eq_fast]; kernel_rfl) (by decide +kernel) (by decide +kernel) (by decide +kernel) (by first | exact .inl (by decide +kernel) | exact .inr (by decide +kernel)) (by rw [isSubtype_type]; kernel_rfl)
theorem sl_sub : Slot "re.Pattern" "sub" "re.Pattern.sub" :=
  .of (owner := "re.Pattern") (n := "sub") (by rw [typeLookup_type, builtinLookup_eq_fast]; kernel_rfl) (by decide +kernel) (by decide +kernel) (by decide +kernel) (by first | exact .inl (by decide +kernel) | exact .inr (by decide +kernel)) (by rw [isSubtype_type]; kernel_rfl)
theorem sl_start : Slot "re.Match" "start" "re.Match.start" :=
  .of (owner := "re.Match") (n := "start") (by rw [typeLookup_type, builtinLookup_eq_fast]; kernel_rfl) (by decide +kernel) (by decide +kernel) (by decide +kernel) (by first | exact .inl (by decide +kernel) | exact .inr (by decide +kernel)) (by rw [isSubtype_type]; kernel_rfl)
theorem sl_end : Slot "re.Match" "end" "re.Match.end" :=
  .of (owner := "re.Match") (n := "end") (by rw [typeLookup_type, builtinLookup_eq_fast]; kernel_rfl) (by decide +kernel) (by decide +kernel) (by decide +kernel) (by first | exact .inl (by decide +kernel) | exact .inr (by decide +kernel)) (by rw [isSubtype_type]; kernel_rfl)
theorem sl_group : Slot "re.Match" "group" "re.Match.group" :=
  .of (owner := "re.Match") (n := "group") (by rw [typeLookup_type, builtinLookup_eq_fast]; kernel_rfl) (by decide +kernel) (by decide +kernel) (by decide +kernel) (by first | exact .inl (by decide +kernel) | exact .inr (by decide +kernel)) (by rw [isSubtype_type]; kernel_rfl)
theorem ty_match : typeOf (.builtin "re.Pattern.match") = pure (.type "method_descriptor") := by show builtinType _ = _; rw [builtinType_eq_fast]; kernel_rfl
theorem ty_search : typeOf (.builtin "re.Pattern.search") = pure (.type "method_descriptor") := by show builtinType _ = _; rw [builtinType_eq_fast]; kernel_rfl
theorem ty_sub : typeOf (.builtin "re.Pattern.sub") = pure (.type "method_descriptor") := by show builtinType _ = _; rw [builtinType_eq_fast]; kernel_rfl
theorem ty_start : typeOf (.builtin "re.Match.start") = pure (.type "method_descriptor") := by show builtinType _ = _; rw [builtinType_eq_fast]; kernel_rfl
theorem ty_end : typeOf (.builtin "re.Match.end") = pure (.type "method_descriptor") := by show builtinType _ = _; rw [builtinType_eq_fast]; kernel_rfl
theorem ty_group : typeOf (.builtin "re.Match.group") = pure (.type "method_descriptor") := by show builtinType _ = _; rw [builtinType_eq_fast]; kernel_rfl
theorem en_match : entryFor table "re.Pattern.match" = some Builtin.«re.Pattern.match» := entryFor_of_tree (by kernel_rfl)
theorem en_search : entryFor table "re.Pattern.search" = some Builtin.«re.Pattern.search» := entryFor_of_tree (by kernel_rfl)
theorem en_sub : entryFor table "re.Pattern.sub" = some Builtin.«re.Pattern.sub» := entryFor_of_tree (by kernel_rfl)
theorem en_loop : entryFor table "re.Pattern.sub.loop" = some Builtin.«re.Pattern.sub.loop» := entryFor_of_tree (by kernel_rfl)
theorem en_start : entryFor table "re.Match.start" = some Builtin.«re.Match.start» := entryFor_of_tree (by kernel_rfl)
theorem en_end : entryFor table "re.Match.end" = some Builtin.«re.Match.end» := entryFor_of_tree (by kernel_rfl)
theorem en_group : entryFor table "re.Match.group" = some Builtin.«re.Match.group» := entryFor_of_tree (by kernel_rfl)
theorem ar_match (a b d : Value) : argsOk "re.Pattern.match" ⟨[a, b, d], []⟩ := by
  unfold argsOk; rw [signature?_of (id := "re.Pattern.match") (n := ['h', 'c', 't', 'a', 'm']) (o := ['n', 'r', 'e', 't', 't', 'a', 'P', '.', 'e', 'r']) (by kernel_rfl) ow_pat]; kernel_rfl
theorem ar_search (a b d : Value) : argsOk "re.Pattern.search" ⟨[a, b, d], []⟩ := by
  unfold argsOk; rw [signature?_of (id := "re.Pattern.search") (n := ['h', 'c', 'r', 'a', 'e', 's']) (o := ['n', 'r', 'e', 't', 't', 'a', 'P', '.', 'e', 'r']) (by kernel_rfl) ow_pat]; kernel_rfl
theorem ar_sub (a b d : Value) : argsOk "re.Pattern.sub" ⟨[a, b, d], []⟩ := by
  unfold argsOk; rw [signature?_of (id := "re.Pattern.sub") (n := ['b', 'u', 's']) (o := ['n', 'r', 'e', 't', 't', 'a', 'P', '.', 'e', 'r']) (by kernel_rfl) ow_pat]; kernel_rfl
theorem ar_start (a : Value) : argsOk "re.Match.start" ⟨[a], []⟩ := by
  unfold argsOk; rw [signature?_of (id := "re.Match.start") (n := ['t', 'r', 'a', 't', 's']) (o := ['h', 'c', 't', 'a', 'M', '.', 'e', 'r']) (by kernel_rfl) ow_mat]; kernel_rfl
theorem ar_end (a : Value) : argsOk "re.Match.end" ⟨[a], []⟩ := by
  unfold argsOk; rw [signature?_of (id := "re.Match.end") (n := ['d', 'n', 'e']) (o := ['h', 'c', 't', 'a', 'M', '.', 'e', 'r']) (by kernel_rfl) ow_mat]; kernel_rfl
theorem ar_group (a b : Value) : argsOk "re.Match.group" ⟨[a, b], []⟩ := by
  unfold argsOk; rw [signature?_of (id := "re.Match.group") (n := ['p', 'u', 'o', 'r', 'g']) (o := ['h', 'c', 't', 'a', 'M', '.', 'e', 'r']) (by kernel_rfl) ow_mat]; kernel_rfl
end Mine
end
section
open PySem PySem.W PySem.Calls PyProof.Rows PySem.Builtin.Re
set_option autoImplicit false
set_option maxRecDepth 100000
namespace Mine
section
variable {M : Model} {A : Around} {E : Value → Shared → Prop} {s : Shared}
theorem drive {Q : Sre.M → Shared → Prop} {r : Sre.M} (ho : r.outcome.isSome = true) (q : Q r s) : ∀ (turns k : Nat) (m : Sre.M), m.runFor k = r → k ≤ 4 * turns → 0 < turns → wpAny M A (reDrive turns m) Q E s := by
  intro turns
  induction turns with
  | zero => intro k m _ _ h; omega
  | succ n ih =>
    intro k m hk hle _
    unfold reDrive
    show wpAny M A (if (m.runFor 4).outcome.isSome = true then pure (m.runFor 4) else do rule "sre.turn"; reDrive n (m.runFor 4)) Q E s
    by_cases h4 : k ≤ 4
    · have e : m.runFor 4 = r := by rw [show 4 = k + (4 - k) by omega, runFor_add, hk, runFor_out r ho]
      rw [e, if_pos ho]
      exact wpAny_pure q
    · have e : (m.runFor 4).runFor (k - 4) = r := by rw [← runFor_add, show 4 + (k - 4) = k by omega, hk]
      by_cases hs : (m.runFor 4).outcome.isSome = true
      · rw [runFor_out _ hs] at e
        rw [if_pos hs, e]
        exact wpAny_pure q
      · rw [if_neg hs]
        exact wpAny_bind (wpAny_rule (ih (k - 4) _ e (by omega) (by omega)))
theorem tell_ops {Q : PUnit → Shared → Prop} (c : Nat → Bool) (n : Nat → String) (q : Q () s) : ∀ l : List Nat, wpAny M A (forIn l PUnit.unit fun i _ => do
    if c i = true then rule (n i)
    pure (ForInStep.yield PUnit.unit)) Q E s
  | [] => wpAny_pure q
  | i :: l => by
    rw [List.forIn_cons]
    refine wpAny_bind ?_
    by_cases h : c i = true
    · rw [if_pos h]
      exact wpAny_bind (wpAny_rule (wpAny_pure (tell_ops c n q l)))
    · rw [if_neg h]
      exact wpAny_pure (tell_ops c n q l)
theorem run_end {m : Sre.M} {o : Sre.M → Prop} {Q : Option Sre.M → Shared → Prop} (h : Ends m o) (hq : ∀ r, o r → (r.outcome = some .matched ∧ Q (some r) s) ∨ (r.outcome = some .failed ∧ Q none s)) : wpAny M A (reRunToEnd m) Q E s := by
  obtain ⟨k, hk, r, e, ho, hr⟩ := h
  unfold reRunToEnd
  refine wpAny_bind (drive ho ?_ (2 ^ 64) k m e (by omega) (by omega))
  refine wpAny_bind (tell_ops (fun i => r.seen.has i) (fun i => Sre.names.getD i "") ?_ _)
  rcases hq r hr with ⟨h1, q⟩ | ⟨h1, q⟩ <;> rw [h1] <;> exact wpAny_pure q
end
section
variable {prog : Program} {w : World} {A : Around} {E : Value → Shared → Prop} {s : Shared}
/-- a pattern object -/
structure PatAt (h : Heap) (p : Addr) (code : List Nat) (groups : Nat) : Prop where
  obj : ∃ src fl tk tup vs n, h.get? p = some { cls := .type "re.Pattern", data := .fields #[src, fl, .int groups tk, .none, .none, .ref tup, .int 0 0] } ∧ h.get? tup = some { cls := .type "tuple", data := .seq vs n } ∧ vs.toList = code.map fun c : Nat => Value.int (c : Int) 0
theorem target_at {id f : String} {p : Addr} {code : List Nat} {groups : Nat} {t : Str} {tk : Tok} {i : Nat} {tk' : Tok} {Q : ReTarget → Shared → Prop} (hp : PatAt s.heap p code groups) (hi : i < 2 ^ 20) (hl : t.length < 2 ^ 20)
    (q : Q { pattern := .ref p, string := .str t tk, code := code.toArray, text := t.cps, kind := 0, groups := groups, pos := min i t.cps.size, lim := t.cps.size } s) :
    wpAny (model prog w) A (reTarget id f ⟨[.ref p, .str t tk, .int i tk'], []⟩) Q E s := by
  obtain ⟨src, fl, tk1, tup, vs, n, h1, h2, h3⟩ := hp
  unfold reTarget
  obtain ⟨hh, g, d, tk2, os⟩ := s
  wp_walk
  rw [if_neg (by simp only [Bool.or_eq_true, decide_eq_true_eq]; omega)]
  repeat (first | refine wpAny_loadPart h1 ?_ | refine wpAny_loadPart h2 ?_ | wp_step)
  have e1 : Array.map (fun x : Int => x.toNat) (Array.map reRawOf ((some vs).getD #[])) = code.toArray := by
    apply Array.toList_inj.mp
    simp only [Option.getD_some, Array.toList_map, h3, List.map_map]
    exact (List.map_congr_left (g := fun x => x) (fun a _ => rfl)).trans (List.map_id' _)
  have e2 : min ((2 : Int) ^ 63 - 1).toNat t.cps.size = t.cps.size := by
    have : t.cps.size < 2 ^ 20 := hl
    omega
  rw [e1]
  show Q { pattern := _, string := _, code := _, text := _, kind := 0, groups := _, pos := min ((i : Int)).toNat t.cps.size, lim := min ((2 : Int) ^ 63 - 1).toNat t.cps.size } _
  rw [e2, Int.toNat_natCast]
  exact q

/-- what a match bears: where it begins, where it ends, its groups -/
def matV (t : List Nat) (p : Addr) (i lim li : Int) (sp : List V) : V := .rcd "re.Match" [.str t, .ref p, .int i, .int lim, .int li, .tup sp]
end
section
variable {c : Cx} {σ : St} {Q : Post} {R : RPost}
/-- the match object's groups -/
def MadeM (groups : Nat) (m : Sre.M) (spans : List Int) : Prop := spans.length < 1000 ∧ ∀ P S i lim, reNewMatch P S groups i lim m = (do
    let tp ← newTuple (rawInt m.start :: rawInt m.handed :: spans.map rawInt)
    newFields "re.Match" [S, P, rawInt i, rawInt lim, rawInt m.lastindex, tp])
theorem madeM0 (m : Sre.M) : MadeM 0 m [] := ⟨by decide, fun _ _ _ _ => rfl⟩
theorem madeM1y {m : Sre.M} {p e : Nat} (h1 : m.lastmark = 1) (h2 : m.marks = #[some p, some e]) (h3 : p ≤ e) : MadeM 1 m [p, e] := by
  refine ⟨by simp, fun P S i lim => ?_⟩
  unfold reNewMatch
  simp [h1, h2, List.range_succ]
  intro h; omega
theorem madeM1n {m : Sre.M} (h1 : m.lastmark = -1) (h2 : m.marks.size = 2) : MadeM 1 m [-1, -1] := by
  refine ⟨by decide, fun P S i lim => ?_⟩
  unfold reNewMatch
  simp [h1, List.range_succ]
  intro h; split at h <;> cases h
theorem newMatch_X {A : Around} {E : Value → Shared → Prop} {t : List Nat} {tk : Tok} {p : Addr} {groups i lim : Nat} {m : Sre.M} {spans : List Int} {tm : List (Value × V)} {s : Shared} {Q' : Value → Shared → Prop} (r : Rel c σ tm s)
    (hs : MadeM groups m spans) (q : ∀ v s', Rel c σ ((v, matV t p i lim m.lastindex (.int m.start :: .int m.handed :: spans.map .int)) :: tm) s' → Q' v s') :
    wpAny (model c.prog c.w) A (reNewMatch (.ref p) (.str ⟨t.toArray⟩ tk) groups i lim m) Q' E s := by
  obtain ⟨hz, hs⟩ := hs
  rw [hs]
  obtain ⟨m', mu, fz, fr, w⟩ := r
  have are : ∀ {rd : Rd} (l : List Int), Are rd (l.map rawInt) (l.map .int) := by
    intro rd l
    induction l with
    | nil => exact .nil
    | cons x l ih => exact .cons (.int _ _) ih
  refine wpAny_bind (newTuple_N w.fr w.nw (fun h' F N => ?_) (by simp only [List.length_cons, List.length_map, show sizeLine = 2 ^ 24 from rfl]; omega))
  have w1 := w.froze' (k := s.toks) F N
  unfold newFields
  refine wpAny_newObj_type ?_ (by size_fits)
  have w2 := w1.froze' (k := s.toks) (w1.fr.push { cls := .type "re.Match", data := .fields #[.str ⟨t.toArray⟩ tk, .ref p, rawInt i, rawInt lim, rawInt m.lastindex, .ref s.heap.objs.size] }) (w1.nw.push w1.fr _)
  refine q _ _ (w2.push ?_).rel
  refine .rcd (vs := [.str ⟨t.toArray⟩ tk, .ref p, rawInt i, rawInt lim, rawInt m.lastindex, .ref s.heap.objs.size]) (.inl (.head _)) ?_
  refine .cons (mk_str _ _) (.cons (.ref _) (.cons (.int _ _) (.cons (.int _ _) (.cons (.int _ _) (.cons ?_ .nil)))))
  exact .tup (vs := rawInt m.start :: rawInt m.handed :: spans.map rawInt) (.inl (.tail _ (.head _))) (.cons (.int _ _) (.cons (.int _ _) (are spans)))

theorem pat_keep (ok : c.Ok) {tm : List (Value × V)} {s : Shared} {m : Str → Option Value} {muts froz frs : Led} (w : RelW c σ tm s m muts froz frs) {p : Addr} {code : List Nat} {groups : Nat} (h : PatAt c.h0 p code groups) : PatAt s.heap p code groups := by
  obtain ⟨src, fl, tk, tup, vs, n, h1, h2, h3⟩ := h
  exact ⟨src, fl, tk, tup, vs, n, w.stays ok _ _ h1, w.stays ok _ _ h2, h3⟩
/-- a match or none, of a pattern's method -/
theorem HO_pat {id f : String} {B : Builtin} {p : Addr} {code : List Nat} {groups : Nat} {t : List Nat} {i : Nat} (ok : c.Ok) (mk : Array Nat → Array Nat → Nat → Nat → Nat → Sre.M) {name : Str} (sl : Slot "re.Pattern" name id) (en : entryFor table id = some B) (ar : ∀ a b d, argsOk id ⟨[a, b, d], []⟩)
    (hB : ∀ args, B args = (do let t ← reTarget id f args; reAnswer t (mk t.code t.text t.groups t.pos t.lim)))
    (hp : PatAt c.h0 p code groups) (hi : i ≤ t.length) (hl : t.length < 2 ^ 19)
    {o : Sre.M → Prop} (he : Ends (mk code.toArray t.toArray groups i t.length) o)
    (h : ∀ m, o m → (m.outcome = some .failed ∧ Q .none σ) ∨ (m.outcome = some .matched ∧ ∃ spans : List Int, MadeM groups m spans ∧ Q (matV t p i t.length m.lastindex (.int m.start :: .int m.handed :: spans.map .int)) σ)) :
    HOs c σ (fun us => call (.builtin id) us) [.ref p, .str t, .int i] Q R := by
  intro us tm s r hlen
  obtain ⟨u1, u2, u3, rfl⟩ : ∃ u1 u2 u3, us = [u1, u2, u3] := by
    match us, hlen with
    | [a, b, d], _ => exact ⟨a, b, d, rfl⟩
  obtain ⟨m', mu, fz, fr, w⟩ := r
  cases is_ref (w.tm (u1, .ref p) (.head _))
  obtain ⟨t2, rfl⟩ := is_str (w.tm (u2, .str t) (.tail _ (.head _)))
  obtain ⟨t3, rfl⟩ := is_int (w.tm (u3, .int i) (.tail _ (.tail _ (.head _))))
  have w0 := w.pop (tm' := tm) fun p hp => .tail _ (.tail _ (.tail _ hp))
  have hp' := pat_keep ok w hp
  have hT : s.TypeIs (.ref p) "re.Pattern" := by
    obtain ⟨src, fl, tk, tup, vs, n, h1, h2, h3⟩ := hp'
    exact ⟨_, h1, rfl⟩
  refine wpAny_call_entry sl hT en ?_ (ar _ _ _)
  rw [hB]
  refine wpAny_bind (target_at hp' (by omega) (by rw [str_len]; omega) ?_)
  unfold reAnswer
  have e1 : min i (⟨t.toArray⟩ : Str).cps.size = i := by show min i t.toArray.size = i; rw [List.size_toArray]; omega
  have e2 : (⟨t.toArray⟩ : Str).cps.size = t.length := List.size_toArray
  rw [e1, e2]
  refine wpAny_bind (run_end he fun m hm => ?_)
  rcases h m hm with ⟨h1, q⟩ | ⟨h1, spans, h2, q⟩
  · exact .inr ⟨h1, wpAny_pure ⟨_, rfl, _, σ, (w0.push .none).rel, q⟩⟩
  · refine .inl ⟨h1, wpAny_bind (newMatch_X w0.rel h2 fun v s' r' => wpAny_pure ⟨v, rfl, _, σ, r', q⟩)⟩

theorem rcd_at (ok : c.Ok) {tm : List (Value × V)} {s : Shared} {m : Str → Option Value} {muts froz frs : Led} (w : RelW c σ tm s m muts froz frs) {v : Value} {cls : String} {xs : List V} (hi : (v, V.rcd cls xs) ∈ tm) :
    ∃ a vs, v = .ref a ∧ s.heap.get? a = some { cls := .type cls, data := .fields vs.toArray } ∧ Are (rdOf c.h0 froz) vs xs := by
  obtain ⟨a, vs, rfl, hr, e⟩ := is_rcd (w.tm _ hi)
  refine ⟨a, vs, rfl, ?_, e⟩
  rcases hr with hr | hr
  · exact (w.nw (a, _) (by simp [hr])).1
  · exact w.stays ok _ _ hr
theorem got_at (ok : c.Ok) {tm : List (Value × V)} {s : Shared} {m : Str → Option Value} {muts froz frs : Led} (w : RelW c σ tm s m muts froz frs) {v : Value} {xs : List V} {a : Addr} (hi : Is (rdOf c.h0 froz) v (.tup xs)) :
    ∃ a vs n, v = .ref a ∧ s.heap.get? a = some { cls := .type "tuple", data := .seq vs.toArray n } ∧ Are (rdOf c.h0 froz) vs xs := by
  obtain ⟨a, vs, n, rfl, hr, e⟩ := is_tup hi
  refine ⟨a, vs, n, rfl, ?_, e⟩
  rcases hr with hr | hr
  · exact (w.nw (a, _) (by simp [hr])).1
  · exact w.stays ok _ _ hr
/-- the parts of a match object -/
theorem mat_at (ok : c.Ok) {tm : List (Value × V)} {s : Shared} {m : Str → Option Value} {muts froz frs : Led} (w : RelW c σ tm s m muts froz frs) {v : Value} {t : List Nat} {p : Addr} {i lim li a b : Int} {sp : List V} (hi : (v, matV t p i lim li (.int a :: .int b :: sp)) ∈ tm) :
    ∃ x t1 t2 t3 t4 tp t5 t6 vs n, v = .ref x ∧ s.heap.get? x = some { cls := .type "re.Match", data := .fields #[.str ⟨t.toArray⟩ t1, .ref p, .int i t2, .int lim t3, .int li t4, .ref tp] } ∧ s.heap.get? tp = some { cls := .type "tuple", data := .seq (.int a t5 :: .int b t6 :: vs).toArray n } ∧ Are (rdOf c.h0 froz) vs sp := by
  obtain ⟨x, vs, rfl, hg, e⟩ := rcd_at ok w hi
  cases e with
  | cons e1 e =>
    cases e with
    | cons e2 e =>
      cases e with
      | cons e3 e =>
        cases e with
        | cons e4 e =>
          cases e with
          | cons e5 e =>
            cases e with
            | cons e6 e =>
              cases e
              obtain ⟨t1, rfl⟩ := is_str e1
              cases is_ref e2
              obtain ⟨t2, rfl⟩ := is_int e3
              obtain ⟨t3, rfl⟩ := is_int e4
              obtain ⟨t4, rfl⟩ := is_int e5
              obtain ⟨tp, us, n, rfl, hg2, e7⟩ := got_at (a := x) ok w e6
              cases e7 with
              | cons f1 e7 =>
                cases e7 with
                | cons f2 e7 =>
                  obtain ⟨t5, rfl⟩ := is_int f1
                  obtain ⟨t6, rfl⟩ := is_int f2
                  exact ⟨x, t1, t2, t3, t4, tp, t5, t6, _, n, rfl, hg, hg2, e7⟩
/-- m.start(), m.end() -/
theorem HO_mstart {t : List Nat} {p : Addr} {i lim li a b : Int} {sp : List V} (ok : c.Ok) (q : Q (.int a) σ) : HOs c σ (fun us => call (.builtin "re.Match.start") us) [matV t p i lim li (.int a :: .int b :: sp)] Q R := by
  intro us tm s r hlen
  obtain ⟨u1, rfl⟩ : ∃ u1, us = [u1] := by
    match us, hlen with
    | [a], _ => exact ⟨a, rfl⟩
  obtain ⟨m', mu, fz, fr, w⟩ := r
  obtain ⟨x, t1, t2, t3, t4, tp, t5, t6, vs, n, rfl, h1, h2, _⟩ := mat_at ok w (.head _)
  have w0 := w.pop (tm' := tm) fun p hp => .tail _ hp
  refine wpAny_call_entry sl_start ⟨_, h1, rfl⟩ en_start ?_ (ar_start _)
  unfold Builtin.«re.Match.start» reOneGroup reFound
  obtain ⟨hh, g, d, tk2, os⟩ := s
  repeat (first | refine wpAny_loadPart h1 ?_ | refine wpAny_loadPart h2 ?_ | wp_step)
  refine ⟨_, rfl, ?_⟩
  exact val_step w0.rel (fun _ => .int _ _) (by simpa [reRawOf] using q)
theorem HO_mend {t : List Nat} {p : Addr} {i lim li a b : Int} {sp : List V} (ok : c.Ok) (q : Q (.int b) σ) : HOs c σ (fun us => call (.builtin "re.Match.end") us) [matV t p i lim li (.int a :: .int b :: sp)] Q R := by
  intro us tm s r hlen
  obtain ⟨u1, rfl⟩ : ∃ u1, us = [u1] := by
    match us, hlen with
    | [a], _ => exact ⟨a, rfl⟩
  obtain ⟨m', mu, fz, fr, w⟩ := r
  obtain ⟨x, t1, t2, t3, t4, tp, t5, t6, vs, n, rfl, h1, h2, _⟩ := mat_at ok w (.head _)
  have w0 := w.pop (tm' := tm) fun p hp => .tail _ hp
  refine wpAny_call_entry sl_end ⟨_, h1, rfl⟩ en_end ?_ (ar_end _)
  unfold Builtin.«re.Match.end» reOneGroup reFound
  obtain ⟨hh, g, d, tk2, os⟩ := s
  repeat (first | refine wpAny_loadPart h1 ?_ | refine wpAny_loadPart h2 ?_ | wp_step)
  refine ⟨_, rfl, ?_⟩
  exact val_step w0.rel (fun _ => .int _ _) (by simpa [reRawOf] using q)
end
end Mine
end
section
open PySem PySem.W PySem.Calls PyProof.Rows
set_option autoImplicit false
set_option maxRecDepth 100000
namespace Mine
/-- a display's items, one sign each -/
inductive Ones : List Expr → List Nat → Prop
  | nil : Ones [] []
  | cons {x : Str} {j k : Nat} {pos : Pos} {es : List Expr} {ks : List Nat} : x = ⟨#[j]⟩ → Ones es ks → Ones (.Constant (.str x) k pos :: es) (j :: ks)
theorem Ones.plain {es : List Expr} {ks : List Nat} (h : Ones es ks) : es.all kdsPlain = true ∧ es.length = ks.length := by
  induction h with
  | nil => exact ⟨rfl, rfl⟩
  | cons e _ ih => exact ⟨by rw [List.all_cons, ih.1]; rfl, by rw [List.length_cons, List.length_cons, ih.2]⟩
section
variable {c : Cx} {σ : St} {tm : List (Value × V)} {s : Shared} {m : Str → Option Value} {muts froz frs : Led} {R : RPost}
theorem main_of {prog : Program} {w : World} {A : Around} {E : Value → Shared → Prop} {s : Shared} {env : Env} {Q : Bool → Shared → Prop} (hc : ∃ a o vs, env.code = .ref a ∧ s.heap.get? a = some o ∧ o.data = .fields vs) (h : ∀ b, Q b s) : wpAny (model prog w) A (inMainModule env) Q E s := by
  obtain ⟨c, o, vs, e, ho, hd⟩ := hc
  unfold inMainModule
  try dsimp only
  rw [e]
  split
  · exact wpAny_pure (h _)
  · refine wpAny_bind (wpAny_fieldsOf ho hd ?_)
    split
    · exact wpAny_bind (wpAny_askSetting (wpAny_pure (h _)))
    · exact wpAny_pure (h _)
/-- the texts of the items -/
inductive Sgs : List Value → List Nat → Prop
  | nil : Sgs [] []
  | cons {j : Nat} {t : Tok} {vs : List Value} {ks : List Nat} : Sgs vs ks → Sgs (.str ⟨#[j]⟩ t :: vs) (j :: ks)
/-- constants, evaluated -/
theorem ones_all {M : Model} {A : Around} {E : Value → Shared → Prop} {env : Env} {es : List Expr} {ks : List Nat} (h : Ones es ks) : ∀ {s : Shared} {Q : List Value → Shared → Prop}, (∀ vs, Sgs vs ks → ∀ k, Q vs { s with toks := k }) → KdsAll M A E env es Q s := by
  induction h with
  | nil => intro s Q q; exact q [] .nil s.toks
  | @cons x j k pos es ks e _ ih =>
    intro s Q q
    subst e
    show wpAny M A (eval _ env) _ E s
    refine wpAny_mkText ?_
    exact ih fun vs hv k => q _ (.cons hv) k
variable {prog : Program} {w : World} {A : Around} {E : Value → Shared → Prop} {h₀ : Heap} {L D : Addr} {news : Led}
theorem ones_fill {u : Bool} {Q : Value → Shared → Prop} (hne : ∀ p ∈ news, p.1 ≠ D) {vs : List Value} {ks : List Nat} (hv : Sgs vs ks) : ∀ {s : Shared} {S : Str → Bool} {n : Nat} {so : Obj}, Fr h₀ L s.heap m → News h₀ L s.heap ((D, so) :: news) → so.SetObjOf (PySem.strKind prog w) S n → n + ks.length < 100 →
    (∀ h' so' k n' S', Fr h₀ L h' m → News h₀ L h' ((D, so') :: news) → so'.SetObjOf (PySem.strKind prog w) S' n' → (∀ x : Nat, S' ⟨#[x]⟩ = (S ⟨#[x]⟩ || decide (x ∈ ks))) → n' < 100 → Q (.ref D) { s with heap := h', toks := k }) →
    KdsFill (model prog w) A E u D Q vs s := by
  induction hv with
  | nil =>
    intro s S n so F N hso hn q
    have hb : n < scanBound := by show n < 4096; simp at hn; omega
    cases u with
    | false => exact kds_fill_nil rfl (q _ _ _ n S F N hso (fun x => by simp) (by simpa using hn))
    | true =>
      refine kds_fill_unled rfl (kds_unled F N (.head hne) hso hb fun h' so' F' N' hso' => ?_)
      exact q _ _ _ n S F' N' hso' (fun x => by simp) (by simpa using hn)
  | @cons j t vs ks hv ih =>
    intro s S n so F N hso hn q
    have hn' : n + ks.length + 1 < 100 := by simp at hn; omega
    refine kds_fill_cons (kds_add (k := ⟨#[j]⟩) F N (.head hne) hso (by show n + 1 < 4096; omega) (strKind_is _ _ _ _) rfl fun h' so' F' N' hso' => ?_)
    refine ih F' N' hso' (by split <;> omega) fun h2 so2 k2 n2 S2 F2 N2 hso2 hS2 hn2 => ?_
    refine q _ _ _ n2 S2 F2 N2 hso2 (fun x => ?_) hn2
    rw [hS2]
    by_cases hx : x = j
    · subst hx; simp
    · have : (⟨#[x]⟩ : Str) ≠ ⟨#[j]⟩ := fun e => hx (by have := congrArg (fun z : Str => z.cps.toList) e; simpa using this)
      simp [hx, this]
end
section
variable {c : Cx} {σ : St} {R : RPost}
/-- l in {..}, l not in {..}: a sign among signs -/
theorem HT_inset (ok : c.Ok) {l : Expr} {elts : List Expr} {k : Nat} {p pos : Pos} {op : CmpOp} {ks : List Nat} {Q : Bool → St → Prop} (hop : op = .In ∨ op = .NotIn) (ho : Ones elts ks) (hlen : ks.length ≤ 20) (hm : behindInMarks op (.Set elts k p) = true) (hroad : (displayRoad k elts == .constants) = false)
    (h : HE c σ l (fun y σ₁ => ∃ x, y = .str [x] ∧ Q (match op with | .In => decide (x ∈ ks) | _ => decide (x ∉ ks)) σ₁) R) : HT c σ (.Compare l [op] [.Set elts k p] pos) Q R := by
  intro tm s r
  refine kdi_test hm (wpAny_mono (h tm s r) (fun v s₁ ⟨y, σ₁, r₁, x, e, q⟩ => ?_) fun _ _ q => q)
  subst e
  obtain ⟨m, mu, fz, fr, w⟩ := r₁
  obtain ⟨t, rfl⟩ := is_str w.is
  have w0 := w.pop (tm' := tm) fun p hp => .tail _ hp
  rw [arm_eval_Set]
  refine wpAny_bind (wpAny_standAt ?_)
  refine wpAny_bind (main_of (by obtain ⟨a, o, vs, e1, e2, e3⟩ := ok.code; exact ⟨a, o, vs, e1, w.stays ok _ _ e2, e3⟩) fun b => ?_)
  rw [kds_star elts ho.plain.1, List.map_map]
  refine kds_core (ts := (evalEach elts c.env).map fun t => do let v ← t; standAt p; pure v) hroad ?_ ?_ ?_ fun led => ?_
  · refine List.findIdx?_eq_none_iff.mpr fun x hx => ?_
    obtain ⟨t, _, rfl⟩ := List.mem_map.mp hx
    rfl
  · rw [List.length_map, kds_len, ho.plain.2]; omega
  · rw [List.map_map]; try rfl
  · refine kds_all p elts _ _ (ones_all ho fun vs hv k1 => ?_)
    have F1 : Fr c.g c.L (s₁.heap.push { cls := .type "set", dict := none, data := .set #[] 0 (.fresh 0 0 led) }) m := w0.fr.push _
    have N1 := News.push w0.fr w0.nw { cls := .type "set", dict := none, data := .set #[] 0 (.fresh 0 0 led) } rfl
    have hne : ∀ p ∈ mu ++ fz ++ fr, p.1 ≠ s₁.heap.objs.size := fun p hp => Nat.ne_of_lt (Heap.lt_size (w0.nw p hp).1)
    refine ones_fill hne hv F1 N1 (setObjOf_fresh (knd := PySem.strKind c.prog c.w) led) (by omega) fun h2 so2 k2 n2 S2 F2 N2 hso2 hS2 hn2 => ?_
    have hb : n2 < scanBound := by show n2 < 4096; omega
    refine kdi_mark (kds_unled F2 N2 (.head hne) hso2 hb fun h3 so3 F3 N3 hso3 => ?_)
    have fin : ∀ (b : Bool) (k3 : Nat), Q b σ₁ → wpAny (model c.prog c.w) c.A (truthy (.bool b)) (fun b s' => ∃ σ', Rel c σ' tm s' ∧ Q b σ') (ExcE c R) { s₁ with heap := h3, toks := k3 } := fun b k3 qq =>
      wpAny_truthy_bool ⟨σ₁, (w0.step F3 fun p hp => N3 p (.tail _ hp)).rel, qq⟩
    have hS : S2 ⟨#[x]⟩ = decide (x ∈ ks) := by rw [hS2]; simp
    rcases hop with rfl | rfl
    · refine kse_in (k := (⟨#[x]⟩ : Str)) N3 (.head hne) hso3 hb (strKind_is _ _ _ _) rfl ?_
      rw [hS]; exact fin _ _ q
    · refine kse_notin (k := (⟨#[x]⟩ : Str)) N3 (.head hne) hso3 hb (strKind_is _ _ _ _) rfl ?_
      rw [hS, show (!decide (x ∈ ks)) = decide (x ∉ ks) from by simp]; exact fin _ _ q
end
end Mine
end
section
open PySem PySem.W PySem.Calls PyProof.Rows
set_option autoImplicit false
set_option maxRecDepth 100000
namespace Mine
section
variable {c : Cx} {σ : St} {tm : List (Value × V)} {s : Shared} {m : Str → Option Value} {muts froz frs : Led}
/-- a def called from within a built-in one, its arguments bound anyhow -/
theorem call_XC {R : RPost} {Q : Post} (ok : c.Ok) {A' : Around} (hA : A'.frames = some (c.env :: c.outer)) {k : Nat} (room : A'.depth + (k + 1) < 900 ∧ A'.units + 20 * (k + 1) < 9000) {name qual : Str} {params : Arguments} {body : List Stmt} {scope : Scope} {dV kV doc pm cdv ct oc : Value} {an od : Option Addr} {osl : Array (Option Value)} {f : Addr} {xs : List String} {ys : List V}
    (ho : c.h0.get? f = some ⟨oc, od, .func (fnOf name qual params body scope dV kV doc pm an cdv ct), osl⟩) (hcd : c.h0.CodeRec cdv qual) (hlim : c.h0.NoLimit)
    {us0 us : List Value} {kw : List (Str × Value)} (hbind : ∀ s : Shared, (∀ b o, c.h0.get? b = some o → s.heap.get? b = some o) → BindsTo s (fnOf name qual params body scope dV kV doc pm an cdv ct) ⟨us0, kw⟩ ((xs.map Str.ofString).zip us))
    (nd : xs.Nodup) (hloc : ∀ x ∈ xs, scope.names.lookup (Str.ofString x) = some .local)
    (r : Rel c σ (us.zip ys ++ tm) s) (hys : us.length = ys.length)
    (h : ∀ c' : Cx, c'.Ok → Room c' k → c'.prog = c.prog → c'.w = c.w → c'.h0 = c.h0 → c'.cs = scope → c'.A.handled = A'.handled →
      HS c' ⟨xs.zip ys, σ.hp⟩ body (fun F σ' => match F with | .ret x => Q x ⟨σ.loc, σ'.hp⟩ | _ => Q .none ⟨σ.loc, σ'.hp⟩) (fun k σ' => R k ⟨σ.loc, σ'.hp⟩))
    (hco : scope.isCoroutine = false := by rfl) (hgen : scope.isGenerator = false := by rfl) (hk : scope.kind = .function := by rfl)
    (hcell : ∀ x ∈ scope.names, x.2 ≠ .cell := by decide) :
    codeAny (model c.prog c.w) A' (.call (.ref f) ⟨us0, kw⟩) (fun r s' => match r with | .ok (.ret v) => ∃ x σ', Rel c σ' ((v, x) :: tm) s' ∧ Q x σ' | .ok _ => False | .error e => ExcE c R e s') s := by
  obtain ⟨m, mu, fz, fr, w⟩ := r
  have st := w.stays ok
  have hi : Are (rdOf c.h0 fz) us ys := zip_are hys fun p hp => w.tm p (List.mem_append_left _ hp)
  have w0 := w.pop (tm' := tm) fun p hp => List.mem_append_right _ hp
  obtain ⟨oL, es, ep, hL, hLd, hLr⟩ := w.fr.ns
  refine (codeAny_call_def (fd := fnOf name qual params body scope dV kV doc pm an cdv ct) (body := body) (binds := (xs.map Str.ofString).zip us) ?_ (st _ _ ho) rfl (hlim.keeps st) (hcd.keeps st) rfl (hbind s st) hcell ?_ (fun h₁ hns hk₁ => ?_) hco hgen hk)
  · have := room.1; show _ < 1000; omega
  · intro y hy
    obtain ⟨x, hx, e⟩ := List.mem_map.mp (List.of_mem_zip hy).1
    rw [← e]; exact hloc x hx
  have wi := enter_W w (A' := A'.deeper (envOf qual scope s.heap.objs.size f cdv)) (qual := qual) (scope := scope) (f := f) (cdv := cdv) hL (k := s.toks + ((xs.map Str.ofString).zip us).length) hns hk₁ nd hi
  have ok' : (inner c s fz fr ((mu ++ fz ++ (c.L, oL) :: fr).map (·.1)) oL (A'.deeper (envOf qual scope s.heap.objs.size f cdv)) qual scope f cdv).Ok := by
    refine ⟨hk, fun b o e => ?_, ?_, ?_, (by obtain ⟨a, o, vs, t, e1, e2, e3, _⟩ := hcd; exact ⟨a, o, vs, e1, e2, e3⟩)⟩
    · refine hideAll_get _ (st b o e) fun hb => ?_
      have eg := ok.stays b o e
      obtain ⟨p, hp, rfl⟩ := List.mem_map.mp hb
      rcases List.mem_append.mp hp with z | z
      · rw [(w.nw p (List.mem_append_left _ z)).2.2] at eg; cases eg
      · rcases List.mem_cons.mp z with rfl | z
        · rw [g_none w] at eg; cases eg
        · rw [(w.nw p (List.mem_append_right _ z)).2.2] at eg; cases eg
    · exact Around.frames_deeper hA
    · refine .cons ⟨by show c.cs.kind ≠ .module; rw [ok.fn]; decide, rfl, fun vs q => by rw [hLd] at q; cases q⟩ ?_
      exact below_like ok.below w.frs
  have room' : Room (inner c s fz fr ((mu ++ fz ++ (c.L, oL) :: fr).map (·.1)) oL (A'.deeper (envOf qual scope s.heap.objs.size f cdv)) qual scope f cdv) k := by
    refine ⟨?_, ?_⟩
    · have := room.1; show A'.depth + 1 + k < 900; omega
    · have := room.2; show A'.units + 3 + 20 * k < 9000; omega
  refine wpAny_mono (h _ ok' room' rfl rfl rfl rfl rfl _ wi.rel) (fun fl s' ⟨F, σ', r', q⟩ => ?_) fun e s' ⟨e', cls, σ', e1, r', q⟩ => ?_
  · have fin : ∀ {v : Value} {x : V} {tm' : List (Value × V)}, Rel (inner c s fz fr ((mu ++ fz ++ (c.L, oL) :: fr).map (·.1)) oL (A'.deeper (envOf qual scope s.heap.objs.size f cdv)) qual scope f cdv) σ' tm' s' → (∀ rd, (∀ p ∈ tm', Is rd p.1 p.2) → Is rd v x) → Q x ⟨σ.loc, σ'.hp⟩ →
        ∃ x σ', Rel c σ' ((v, x) :: tm) s' ∧ Q x σ' := by
      rintro v x tm' ⟨m', mu', fz', fr', w'⟩ hv q
      obtain ⟨oL', fr'', -, w2⟩ := return_W w0 hL w'
      refine ⟨x, _, ((w2.push (hv _ fun p hp => w2.tm p (List.mem_append_left _ hp))).pop fun p hp => ?_).rel, q⟩
      rcases List.mem_cons.mp hp with rfl | hp
      · exact .head _
      · exact .tail _ (List.mem_append_right _ hp)
    cases fl <;> cases F <;> first
      | exact r'.elim
      | exact fin (tm' := []) r' (fun _ _ => .none) q
      | exact fin (tm' := [_]) r' (fun _ h => h _ (.head _)) q
  · subst e1
    refine leaving_X ok' (Around.frames_deeper hA) r' fun s'' r'' => ?_
    obtain ⟨m', mu', fz', fr', w', x⟩ := r''
    obtain ⟨oL', fr'', rfl, w2⟩ := return_W w0 hL w'
    refine ⟨e', cls, ⟨σ.loc, σ'.hp⟩, rfl, ⟨m, mu', fz', fr'', w2.pop (tm' := []) (fun _ h => nomatch h), ?_⟩, q⟩
    obtain ⟨oe, vs, T, oT, ts, fl, a1, a2, a3, a4, a5, a6, a7, b1, b2, b3, b4, b5, b6, b7, b8⟩ := x
    have none_of : ∀ b, (hideAll s.heap ((mu ++ fz ++ (c.L, oL) :: fr).map (·.1))).get? b = none → c.g.get? b = none := fun b hb => by
      cases z : c.g.get? b with
      | none => rfl
      | some o =>
        have : (hideAll s.heap ((mu ++ fz ++ (c.L, oL) :: fr).map (·.1))).get? b = some o := by
          refine hideAll_get _ (w.fr.keep b o z) fun hb => ?_
          obtain ⟨p, hp, rfl⟩ := List.mem_map.mp hb
          rcases List.mem_append.mp hp with y | y
          · rw [(w.nw p (List.mem_append_left _ y)).2.2] at z; cases z
          · rcases List.mem_cons.mp y with rfl | y
            · rw [g_none w] at z; cases z
            · rw [(w.nw p (List.mem_append_right _ y)).2.2] at z; cases z
        rw [this] at hb; cases hb
    have mem : ∀ b, b ∉ (mu' ++ fz' ++ (c.L, oL') :: fr'').map (·.1) → b ≠ c.L ∧ b ∉ (mu' ++ fz' ++ fr'').map (·.1) := fun b hb => by
      simp only [List.map_append, List.map_cons, List.mem_append, List.mem_cons, not_or] at hb ⊢
      exact ⟨hb.2.1, hb.1, hb.2.2⟩
    exact ⟨oe, vs, a1, a2, a3, a4, none_of _ a5, (mem _ a7).1, (mem _ a7).2, .inr ⟨T, oT, ts, fl, b1, b2, b3, b4, b5, none_of _ b6, (mem _ b8).1, (mem _ b8).2⟩⟩
end
end Mine
end
section
open PySem PySem.W PySem.Calls PyProof.Rows
set_option autoImplicit false
set_option maxRecDepth 100000
namespace Mine
section
variable {prog : Program} {w : World} {A : Around} {E : Value → Shared → Prop} {R : Result → Shared → Prop} {h : Heap} {g : Array GenState} {d : Drawn} {t : Nat} {os : OsState}
variable {nm q : Str} {C N : Addr} {bs bm : List Value} {hdct : Bool} {sn : List Str} {sub : List Value} {ab : Bool} {col : Option Bool} {dd : Option Addr} {k0 k1 k2 k3 k5 : Option Value}
theorem own_check_new {M : Model} {rest : List Value} {Q : Unit → Shared → Prop} (hcE : (Value.ref C :: bm).contains (.type "Exception") = true) (hC : h.get? C = some (excClassObj nm q C N bs bm hdct sn sub ab col dd k0 k1 k2 k3 k5 "Exception.__new__"))
    (hq : Q () ⟨h, g, d, t, os⟩) : wpAny M A (checkBuiltinCall "Exception.__new__" ⟨.ref C :: rest, []⟩) Q E ⟨h, g, d, t, os⟩ := by
  have F := PySem.F.excBase_Exception
  have hstar := F.noStar
  simp only [checkBuiltinCall, F.newKind, F.newSplit, F.newRow]
  repeat (first | refine wpAny_loadPart_at hC ?_ | (refine wpAny_isSubtype_exc hC ?_; rw [hcE]) | refine wpAny_staticBase_exc hC ?_ | refine wpAny_madeBy_exc hC ?_ | simp only [bne_self_eq_false, Bool.false_eq_true, if_false] | wp_step)
  exact hq
theorem own_exc_new {rest : List Value} (hcE : (Value.ref C :: bm).contains (.type "Exception") = true) (hcA : (Value.ref C :: bm).contains (.type "AttributeError") = false) (hcN : (Value.ref C :: bm).contains (.type "NameError") = false)
    (hC : h.get? C = some (excClassObj nm q C N bs bm hdct sn sub ab col dd k0 k1 k2 k3 k5 "Exception.__new__"))
    (hq : R (.ok (.ret (.ref (h.objs.size + 1)))) ⟨(h.push { cls := .type "tuple", data := .seq rest.toArray }).push
      { cls := .ref C, data := .fields #[.ref h.objs.size, .none, .none, .none, .bool false, .none] }, g, d, t, os⟩) (hrest : rest.length ≤ sizeLine := by size_fits) :
    codeAny (model prog w) A (.builtin "Exception.__new__" ⟨.ref C :: rest, []⟩) R ⟨h, g, d, t, os⟩ := by
  have F := PySem.F.excBase_Exception
  have hends := F.ends
  refine codeAny_builtinAt F.entry ?_
  unfold Builtin.«BaseException.__new__»
  refine PySem.wpAt_bind ?_
  show PySem.wpAt _ _ _ (stack >>= _) _ _ _
  refine PySem.wpAt_bind (PySem.wpAt_stack fun p below => PySem.wpAt_of_wpAny ?_)
  wp_walk
  refine PySem.wpAt_of_wpAny ?_
  rw [F.owner]
  repeat (first | with_reducible refine wpAny_madeHere_exc F.canon hC ?_ | with_reducible refine wpAny_loadPart_at hC ?_ | (with_reducible refine wpAny_isSubtype_exc hC ?_; first | rw [hcE] | rw [hcA] | rw [hcN]) | wp_step)
  show R _ _
  rw [Heap.size_push]
  exact hq
variable {K : Frag}
theorem own_make {rest : List Value} {fI : Addr} (X : K.In h) (hcE : (Value.ref C :: bm).contains (.type "Exception") = true) (hcA : (Value.ref C :: bm).contains (.type "AttributeError") = false) (hcN : (Value.ref C :: bm).contains (.type "NameError") = false)
    (hC : h.get? C = some (excClassObj nm q C N bs bm hdct sn sub ab col dd k0 k1 k2 k3 k5 "Exception.__new__")) (hcall : specialIn K (.ref C) "__call__" = some (some (.builtin "type.__call__"))) (hinst : instIn K (.ref C) (.type "type") = some true)
    (hi : findIn K (.ref C) "__init__" = some (some (.ref fI))) (hf : typeIn K (.ref fI) = some (.type "function")) (hab : ab = false) (hrest : rest.length ≤ sizeLine)
    (hq : codeAny (model prog w) (A.under (.builtin "type.__call__" ⟨.ref C :: rest, []⟩)) (.call (.ref fI) ⟨.ref (h.objs.size + 1) :: rest, []⟩) (InitBack (h.objs.size + 1) R)
      ⟨(h.push { cls := .type "tuple", data := .seq rest.toArray }).push { cls := .ref C, data := .fields #[.ref h.objs.size, .none, .none, .none, .bool false, .none] }, g, d, t, os⟩) :
    codeAny (model prog w) A (.call (.ref C) ⟨rest, []⟩) R ⟨h, g, d, t, os⟩ := by
  have call : Looks (model prog w) h (specialOf (.ref C) "__call__") (some (.builtin "type.__call__")) := looks_specialIn X hcall
  have typ : Looks (model prog w) h (isInstance (.ref C) (.type "type")) true := looks_instIn X hinst
  refine codeAny_of_tree ?_
  show wpAny _ _ (callAny (.ref C) _) _ _ _
  refine nd_load hC ?_
  show wpAny _ _ (callAny.viaDunder (.ref C) _) _ _ _
  unfold callAny.viaDunder
  refine wpAny_bind (call.at ?_)
  dsimp only
  rw [tc_bind]
  refine wpAny_bind (wpAny_pure (wpAny_bind (wpAny_pure ?_)))
  refine wpAny_pure (a := Fin.again (.call (.builtin "type.__call__") ⟨.ref C :: rest, []⟩)) (And.intro rfl ?_)
  refine codeAny_call_builtin_at (Code.quiet_builtin _ (by decide +kernel)) entry_typeCall (check_slot tc_kind tc_split typ (tc_args _ _ _) ?_)
  unfold Builtin.«type.__call__»
  repeat (first | with_reducible refine wpAny_loadPart_at hC ?_ | with_reducible refine wpAny_madeBy_exc hC ?_ | wp_step)
  have F := PySem.F.excBase_Exception
  refine codeAny_call_builtin_code (Code.quiet_builtin _ F.quiet) (own_check_new hcE hC ?_)
  refine own_exc_new hcE hcA hcN hC ?_ hrest
  have k : ∀ b o, h.get? b = some o → ((h.push { cls := .type "tuple", data := .seq rest.toArray }).push { cls := .ref C, data := .fields #[.ref h.objs.size, .none, .none, .none, .bool false, .none] }).get? b = some o := fun b o e => Heap.get?_push_of_some _ (Heap.get?_push_of_some _ e)
  have hx : ((h.push { cls := .type "tuple", data := .seq rest.toArray }).push { cls := .ref C, data := .fields #[.ref h.objs.size, .none, .none, .none, .bool false, .none] }).get? (h.objs.size + 1) = some
      { cls := .ref C, data := .fields #[.ref h.objs.size, .none, .none, .none, .bool false, .none] } := by heap_get
  have t1 : Looks (model prog w) ((h.push { cls := .type "tuple", data := .seq rest.toArray }).push { cls := .ref C, data := .fields #[.ref h.objs.size, .none, .none, .none, .bool false, .none] }) (typeOf (.ref (h.objs.size + 1))) (.ref C) := (Looks.ld hx).andThen .now
  have s1 : Looks (model prog w) ((h.push { cls := .type "tuple", data := .seq rest.toArray }).push { cls := .ref C, data := .fields #[.ref h.objs.size, .none, .none, .none, .bool false, .none] }) (isSubtype (.ref C) (.ref C)) true := by
    intro A' Q' E' s' k' q'
    obtain ⟨hh, g', d', t', os'⟩ := s'
    refine wpAny_isSubtype_exc (k' _ _ (k _ _ hC)) ?_
    rw [show (Value.ref C :: bm).contains (.ref C) = true from by simp]
    exact q'
  have X' : K.In ((h.push { cls := .type "tuple", data := .seq rest.toArray }).push { cls := .ref C, data := .fields #[.ref h.objs.size, .none, .none, .none, .bool false, .none] }) := fun a o e => k _ _ (X a o e)
  have i1 : Looks (model prog w) _ (typeLookup (.ref C) "__init__") (some (.ref fI)) := looks_findIn X' hi
  have b1 := bind_fn (M := model prog w) X' (.ref (h.objs.size + 1)) hf
  show wpAny _ _ _ _ _ _
  unfold isInstance callSpecial? specialOf
  repeat (first | with_reducible refine wpAny_call ?_ | lk)
  refine codeAny_mono hq fun r s' z => ?_
  rcases r with e | (v | _ | _ | _) <;> first | exact z | exact z.elim | skip
  obtain ⟨rfl, z⟩ := z
  exact wpAny_pure (wpAny_pure z)
end
end Mine
end
section
open PySem PySem.W PySem.Calls PyProof.Rows Builtin Builtin.ObjectAttr
set_option autoImplicit false
set_option maxRecDepth 100000
namespace Mine
def excMro (C : Addr) : List Value := [.ref C, .type "SyntaxError", .type "Exception", .type "BaseException", .type "object"]
theorem exc_refuse (self : Value) (C : Addr) : refuseLoop self "__setattr__" (excMro C) = pure () := by
  unfold excMro
  rw [refuseLoop_ref]
  kernel_rfl
section
variable {prog : Program} {w : World} {A : Around} {s : Shared} {K : Frag} {C x : Addr} {R : Result → Shared → Prop}
/-- a store into an exception of an own class -/
theorem exc_open {ox : Obj} {od : Option Obj} {name : Str} {tk : Tok} {v : Value} {cd : ClassData} (X : K.In s.heap) (I : InstAt s.heap x ox C od) (hc : clsIn K C = some cd) (hmro : cd.mro = excMro C) (ht : takerIn K C name = some none)
    (h : ∀ b, wpAny (model prog w) A.in1 (storeInOwnDict (.ref x) (.ref C) (.str name tk) name v b)
      (fun fin s' => match fin with | .done f => R (.ok f) s' | .again c' => c'.quiet = true ∧ codeAny (model prog w) A c' R s') (fun e s' => R (.error e) s') s) :
    codeAny (model prog w) A (.call (.builtin "object.__setattr__") ⟨[.ref x, .str name tk, v], []⟩) R s := by
  have SF := PySem.F.store_object
  have ne : cd.mro.isEmpty = false := by rw [hmro]; rfl
  have sub : Looks (model prog w) s.heap (isInstance (.ref x) (.type "object")) true := I.type.andThen (looks_mroIn X (by unfold mroIn; rw [hc, Option.bind_some, if_neg (by rw [ne]; decide), hmro]; simp [excMro]))
  refine codeAny_call_builtin SF.slot.plain SF.entry (@check_slot (model prog w) _ _ s "object.__setattr__" "object" "__setattr__" (.ref x) [.str name tk, v] [] _ SF.kind SF.split sub (SF.args (.ref x) (.str name tk) v) ?_)
  obtain ⟨attr, ha, hr⟩ := Option.bind_eq_some_iff.mp ht
  have hm : Looks (model prog w) s.heap (mroOf (.ref C)) cd.mro := (looks_clsIn X hc).andThen .now
  have L3 : Looks (model prog w) s.heap (storeTaker? attr) none := by
    cases attr with
    | none => exact .now
    | some a =>
      obtain ⟨b, hb, hbn⟩ := Option.map_eq_some_iff.mp hr
      refine (looks_takesIn X hb).andThen ?_
      cases b with
      | true => cases hbn
      | false => exact .now
  rw [osa_eq, refuse_eq]
  refine wpAny_bind (wpAny_bind (I.type.here (wpAny_bind (hm.here ?_))))
  rw [hmro, exc_refuse]
  refine wpAny_pure (wpAny_bind (I.type.here (wpAny_bind ((looks_findIn X ha).here (wpAny_bind (L3.here ?_))))))
  exact h _
variable {h₀ : Heap} {L : Addr} {m : Str → Option Value}
/-- a name put into a dict of names -/
theorem exc_put {dx : Addr} {name : Str} {tk : Tok} {v : Value} {pre post : List (Addr × Obj)} {es : List DictEntry} {n : Nat} {P : PySem.Fin → Shared → Prop} {E : Value → Shared → Prop} (F : Fr h₀ L s.heap m) (N : News h₀ L s.heap (pre ++ (dx, dictOf es n) :: post))
    (hl : (getL name es).isSome = true) (h1 : ∀ p ∈ pre, p.1 ≠ dx) (h2 : ∀ p ∈ post, p.1 ≠ dx) (hz : (putL name (PyData.keyHash w.params name) (.str name s.toks) v es).length ≤ 1000)
    (h : ∀ h', Fr h₀ L h' m → News h₀ L h' (pre ++ (dx, dictOf (putL name (PyData.keyHash w.params name) (.str name s.toks) v es) (putN name es n)) :: post) → P (.done (.ret .none)) { s with heap := h', toks := s.toks + 1 }) :
    wpAny (model prog w) A (storeInDict dx (.str name tk) name v) P E s := by
  obtain ⟨U1, U2⟩ := news_upd (f := Obj.putName name (PyData.keyHash w.params name) (.str name s.toks) v) F N h1 h2 (putName_dict _ _ _ _ _ _) rfl
  have D := (N (dx, dictOf es n) (by simp)).1
  have D' := (U2 (dx, dictOf (putL name (PyData.keyHash w.params name) (.str name s.toks) v es) (putN name es n)) (by simp)).1
  unfold storeInDict
  refine wpAny_bind (wpAny_pure (wpAny_bind ?_))
  unfold nsSet
  refine wpAny_bind (wpAny_bind (wpAny_askSetting (wpAny_pure (wpAny_bind (wpAny_mkText (wpAny_bind (wpAny_loadPart D ?_)))))))
  dsimp only
  have c : (!es.toArray.any (·.key.isStr name) && es.toArray.any (·.refKey)) = false := by
    rw [← Array.any_toList, ← Array.any_toList]
    unfold getL at hl
    split at hl
    · rename_i en he
      rw [List.any_eq_true.mpr ⟨en, List.mem_of_find?_eq_some he, List.find?_some he⟩]; rfl
    · split at hl
      · cases hl
      · rename_i z; rw [Bool.not_eq_true] at z; rw [z, Bool.and_false]
  rw [aRefKeyMayBeTheName_at, c]
  refine wpAny_updatePart D ?_
  refine wpAny_bind (wpAny_lookBehind D' (pastItsLine_dict (by rw [List.size_toArray, sizeLine_eq]; omega)) ?_)
  exact wpAny_pure (h _ U1 U2)
end
end Mine
end
section
open PySem PySem.W PySem.Calls PyProof.Rows Builtin Builtin.ObjectAttr
set_option autoImplicit false
set_option maxRecDepth 100000
namespace Mine
/-- keys that are names alone -/
def NK (es : List DictEntry) : Prop := es.any (·.refKey) = false
theorem NK.get {es : List DictEntry} (h : NK es) (name : Str) : (getL name es).isSome = true := by
  unfold getL
  split
  · rfl
  · rw [show es.any (·.refKey) = false from h]; rfl
theorem NK.put {es : List DictEntry} (h : NK es) (name : Str) (hs : Int) (t : Tok) (v : Value) : NK (putL name hs (.str name t) v es) ∧ (putL name hs (.str name t) v es).length ≤ es.length + 1 := by
  induction es with
  | nil => exact ⟨rfl, Nat.le_refl _⟩
  | cons e es ih =>
    unfold NK at h ih ⊢
    rw [List.any_cons, Bool.or_eq_false_iff] at h
    obtain ⟨i1, i2⟩ := ih h.2
    unfold putL
    split
    · refine ⟨?_, by simp⟩
      rw [List.any_cons, Bool.or_eq_false_iff]
      exact ⟨h.1, h.2⟩
    · refine ⟨?_, by simp; omega⟩
      rw [List.any_cons, i1, h.1]; rfl
/-- an own class of exceptions -/
structure KE (K : Frag) (C : Addr) : Prop where
  cd : ∃ cd, clsIn K C = some cd ∧ cd.mro = excMro C ∧ cd.hasDict = true
  set : findIn K (.ref C) "__setattr__" = some (some (.builtin "object.__setattr__"))
section
variable {c : Cx} {l : Loc} {tm : List (Value × V)} {s : Shared} {R : RPost} {K : Frag}
theorem setExc2 (ok : c.Ok) (hK : K.In c.h0) {C e d : Addr} {oe : Obj} {es : List DictEntry} {n : Nat} {hp0 : List (Addr × AO)} {name : String} {y : V} {u v : Value} {tm' : List (Value × V)} (ke : KE K C) (r : Rel c ⟨l, (d, .raw (dictOf es n)) :: (e, .raw oe) :: hp0⟩ tm s)
    (i1 : (u, V.ref e) ∈ tm) (i2 : (v, y) ∈ tm) (hsub : ∀ p ∈ tm', p ∈ tm) (hcls : oe.cls = .ref C) (hdict : oe.dict = some d) (hno : notCls oe = true) (ht : takerIn K C (Str.ofString name) = some none) (nk : NK es) (hlen : es.length < 900) :
    wpAny (model c.prog c.w) c.A (setAttr u (Str.ofString name) v) (fun _ s' => ∃ es' n', NK es' ∧ es'.length ≤ es.length + 1 ∧ Rel c ⟨l, (d, .raw (dictOf es' n')) :: (e, .raw oe) :: hp0⟩ tm' s') (ExcE c R) s := by
  obtain ⟨m, mu, fz, fr, w⟩ := r
  cases is_ref (w.tm _ i1)
  obtain ⟨a1, a2, a3, a4, a5, a6, a7, a8, a9, a10, a11, a12⟩ := w
  cases a11 with
  | @cons _ q1 _ mu1 t1 a11 =>
  cases t1
  cases a11 with
  | @cons _ q2 _ mu2 t2 a11 =>
  cases t2
  have w : RelW c ⟨l, (d, .raw (dictOf es n)) :: (e, .raw oe) :: hp0⟩ tm s m ((d, dictOf es n) :: (e, oe) :: mu2) fz fr := ⟨a1, a2, a3, a4, a5, a6, a7, a8, a9, a10, .cons .raw (.cons .raw a11), a12⟩
  have hd := (a5 (d, dictOf es n) (by simp)).1
  have he := (a5 (e, oe) (by simp)).1
  have I : InstAt s.heap e oe C (some (dictOf es n)) := ⟨he, hcls, hno, by rw [hdict]; exact hd⟩
  obtain ⟨⟨cd, hc, hmro, hhd⟩, hset⟩ := ke
  have hKs : K.In s.heap := K_in ok w hK
  have h2 : ∀ p ∈ ((e, oe) :: mu2) ++ fz ++ fr, p.1 ≠ d := by
    intro p hp e'
    have := (List.nodup_cons.mp a6).1
    refine this ?_
    show d ∈ _
    rw [← e']
    exact List.mem_map_of_mem hp
  refine set_plain hKs I hset ?_
  refine exc_open (s := { s with toks := s.toks + 1 }) hKs I hc hmro ht fun b => ?_
  obtain ⟨oc, odi, oda, osl⟩ := oe
  dsimp only at hcls hdict
  subst hcls hdict
  refine wpAny_bind (wpAny_pure (wpAny_bind (wpAny_bind (wpAny_loadPart (s := { s with toks := s.toks + 1 }) he (wpAny_bind (Looks.here (s := { s with toks := s.toks + 1 }) (looks_clsIn hKs hc) ?_))))))
  rw [hhd]
  refine wpAny_pure (a := some d) ?_
  obtain ⟨n1, n2⟩ := nk.put (Str.ofString name) (PyData.keyHash c.w.params (Str.ofString name)) (s.toks + 1) v
  refine exc_put (pre := []) (s := { s with toks := s.toks + 1 }) a4 a5 (nk.get _) (fun _ h => nomatch h) h2 (Nat.le_trans n2 (by omega)) fun h' F' N' => ?_
  refine ⟨_, putN (Str.ofString name) es n, n1, n2, ⟨m, (d, dictOf (putL (Str.ofString name) (PyData.keyHash c.w.params (Str.ofString name)) (.str (Str.ofString name) (s.toks + 1)) v es) (putN (Str.ofString name) es n)) :: (e, _) :: mu2, fz, fr, ⟨a1, a2, a3, F', N', a6, a7, a8, a9, a10, .cons .raw (.cons .raw a11), fun p hp => a12 p (hsub p hp)⟩⟩⟩
theorem setExc1 (ok : c.Ok) (hK : K.In c.h0) {C e : Addr} {oe : Obj} {vs : Array Value} {hp0 : List (Addr × AO)} {name : String} {y : V} {u v : Value} {tm' : List (Value × V)} (ke : KE K C) (r : Rel c ⟨l, (e, .raw oe) :: hp0⟩ tm s)
    (i1 : (u, V.ref e) ∈ tm) (_i2 : (v, y) ∈ tm) (hsub : ∀ p ∈ tm', p ∈ tm) (hcls : oe.cls = .ref C) (hdict : oe.dict = none) (hdat : oe.data = .fields vs) (ht : takerIn K C (Str.ofString name) = some none) :
    wpAny (model c.prog c.w) c.A (setAttr u (Str.ofString name) v) (fun _ s' => ∃ d es n, NK es ∧ es.length ≤ 1 ∧ Rel c ⟨l, (d, .raw (dictOf es n)) :: (e, .raw { oe with dict := some d }) :: hp0⟩ tm' s') (ExcE c R) s := by
  obtain ⟨m, mu, fz, fr, w⟩ := r
  cases is_ref (w.tm _ i1)
  obtain ⟨a1, a2, a3, a4, a5, a6, a7, a8, a9, a10, a11, a12⟩ := w
  cases a11 with
  | @cons _ q2 _ mu2 t2 a11 =>
  cases t2
  have w : RelW c ⟨l, (e, .raw oe) :: hp0⟩ tm s m ((e, oe) :: mu2) fz fr := ⟨a1, a2, a3, a4, a5, a6, a7, a8, a9, a10, .cons .raw a11, a12⟩
  have he := (a5 (e, oe) (by simp)).1
  have hno : notCls oe = true := by unfold notCls; rw [hdat]
  have I : InstAt s.heap e oe C none := ⟨he, hcls, hno, by rw [hdict]; trivial⟩
  obtain ⟨⟨cd, hc, hmro, hhd⟩, hset⟩ := ke
  have hKs : K.In s.heap := K_in ok w hK
  obtain ⟨oc, odi, oda, osl⟩ := oe
  dsimp only at hcls hdict hdat
  subst hcls hdict hdat
  have F1 : Fr c.g c.L (s.heap.push emptyDict) m := a4.push _
  have N1 := a5.push a4 emptyDict
  have hde : s.heap.objs.size ≠ e := Ne.symm (Nat.ne_of_lt (Heap.lt_size he))
  have hne : ∀ p ∈ mu2 ++ fz ++ fr, p.1 ≠ e := by
    intro p hp e'
    have := (List.nodup_cons.mp a6).1
    refine this ?_
    show e ∈ _
    rw [← e']
    exact List.mem_map_of_mem hp
  obtain ⟨U1, U2⟩ := news_upd (pre := [(s.heap.objs.size, emptyDict)]) (post := mu2 ++ fz ++ fr) (d := e) (o := ⟨.ref C, none, .fields vs, osl⟩) (f := fun o => { o with dict := some s.heap.objs.size }) F1 N1 (by intro p hp; rw [List.mem_singleton] at hp; subst hp; exact hde) hne rfl rfl
  have h2 : ∀ p ∈ (e, (⟨.ref C, some s.heap.objs.size, .fields vs, osl⟩ : Obj)) :: (mu2 ++ fz ++ fr), p.1 ≠ s.heap.objs.size := by
    intro p hp
    rcases List.mem_cons.mp hp with rfl | hp
    · exact Ne.symm hde
    · exact Nat.ne_of_lt (Heap.lt_size (a5 p (by simp only [List.cons_append, List.mem_cons]; exact .inr hp)).1)
  refine set_plain hKs I hset ?_
  refine exc_open (s := { s with toks := s.toks + 1 }) hKs I hc hmro ht fun b => ?_
  refine wpAny_bind (wpAny_pure (wpAny_bind (wpAny_bind (wpAny_loadPart (s := { s with toks := s.toks + 1 }) he (wpAny_bind (Looks.here (s := { s with toks := s.toks + 1 }) (looks_clsIn hKs hc) ?_))))))
  rw [hhd]
  have step : ∀ (A' : Around) (Q' : Option Addr → Shared → Prop) (E' : Value → Shared → Prop), Q' (some s.heap.objs.size) { s with heap := (s.heap.push emptyDict).update e (fun o => { o with dict := some s.heap.objs.size }), toks := s.toks + 1 } →
      wpAny (model c.prog c.w) A' (do
        let d ← alloc emptyDict
        update e fun o => { o with dict := some d }
        dictMade (.ref C) e d) Q' E' { s with toks := s.toks + 1 } := by
    intro A' Q' E' q'
    refine wpAny_bind (wpAny_alloc (wpAny_bind (wpAny_update (Heap.get?_push_of_some emptyDict he) ?_)))
    exact wpAny_pure q'
  refine step _ _ _ ?_
  obtain ⟨n1, n2⟩ := NK.put (es := []) rfl (Str.ofString name) (PyData.keyHash c.w.params (Str.ofString name)) (s.toks + 1) v
  refine exc_put (pre := []) (es := []) (n := 0) (s := { s with heap := (s.heap.push emptyDict).update e (fun o => { o with dict := some s.heap.objs.size }), toks := s.toks + 1 }) U1 U2 rfl (fun _ h => nomatch h) h2 (Nat.le_trans n2 (by simp)) fun h' F' N' => ?_
  refine ⟨s.heap.objs.size, _, putN (Str.ofString name) [] 0, n1, n2, ⟨m, (s.heap.objs.size, dictOf (putL (Str.ofString name) (PyData.keyHash c.w.params (Str.ofString name)) (.str (Str.ofString name) (s.toks + 1)) v []) (putN (Str.ofString name) [] 0)) :: (e, ⟨.ref C, some s.heap.objs.size, .fields vs, osl⟩) :: mu2, fz, fr, ⟨a1, a2, a3, F', N', ?_, a7, a8, a9, a10, .cons .raw (.cons .raw a11), fun p hp => a12 p (hsub p hp)⟩⟩⟩
  refine List.nodup_cons.mpr ⟨fun hm => ?_, a6⟩
  obtain ⟨p, hp, e'⟩ := List.mem_map.mp hm
  exact h2 p hp e'
end
end Mine
end
section
open PySem PySem.W PySem.Calls PyProof.Rows PySem.Builtin._codecs
set_option autoImplicit false
set_option maxRecDepth 100000
namespace Mine
section
variable {M : Model} {A : Around} {E : Value → Shared → Prop} {s : Shared}
theorem twice {σ : Type} {f : Nat → σ → Sem (ForInStep σ)} {a b : σ} {Q : σ → Shared → Prop} (h1 : ∀ n, f n a = pure (.yield b)) (h2 : ∀ n, f n b = pure (.done b)) (qa : Q a s ∨ True) (q : Q b s) : ∀ l : List Nat, l ≠ [] → wpAny M A (forIn l a f) Q E s
  | [], h => absurd rfl h
  | n :: l, _ => by
    rw [List.forIn_cons, h1]
    refine wpAny_bind (wpAny_pure ?_)
    show wpAny M A (forIn l b f) Q E s
    cases l with
    | nil => rw [List.forIn_nil]; exact wpAny_pure q
    | cons m l =>
      rw [List.forIn_cons, h2]
      exact wpAny_bind (wpAny_pure (wpAny_pure q))
theorem enc_ok {id : String} {self : Value} {x : Str} {errors : Option Str} {Q : Array UInt8 → Shared → Prop} (hx : ∀ c ∈ x.cps, Str.isSurrogate c = false) (hl : 0 < x.cps.size) (q : Q (Array.foldl (fun acc y => acc ++ (utf8Codec.bytesOf y).toArray) #[] x.cps) s)
    (hz : (Array.foldl (fun acc y => acc ++ (utf8Codec.bytesOf y).toArray) #[] x.cps).size ≤ sizeLine) : wpAny M A (encodeNarrow id utf8Codec errors self x) Q E s := by
  unfold encodeNarrow
  dsimp only
  rw [Std.Legacy.Range.forIn_eq_forIn_range']
  refine wpAny_bind (twice (b := (x.cps.size, Array.foldl (fun acc y => acc ++ (utf8Codec.bytesOf y).toArray) #[] x.cps, {})) (fun n => ?_) (fun n => ?_) (.inr trivial) ?_ _ ?_)
  · dsimp only
    rw [if_neg (by simp [show sizeLine = 2 ^ 24 from rfl])]
    have h0 : x.cps[0]? = some x.cps[0] := Array.getElem?_eq_getElem hl
    rw [h0]
    dsimp only
    have hb : utf8Codec.bad x.cps[0] = false := hx _ (Array.getElem_mem hl)
    rw [hb]
    have e1 : x.cps.extract 0 x.cps.size = x.cps := by simp
    have e2 : x.cps.findIdx? utf8Codec.bad = none := Array.findIdx?_eq_none_iff.mpr fun c hc => hx c hc
    rw [e1, e2]
    simp
  · dsimp only
    rw [if_neg (by omega)]
    have h0 : x.cps[x.cps.size]? = none := by simp
    rw [h0]
  · exact wpAny_pure q
  · simp [Std.Legacy.Range.size]
    have : 0 < x.length := hl
    omega
theorem fold_sz : ∀ (l : List Nat) (acc : Array UInt8), (l.foldl (fun acc y => acc ++ (utf8Codec.bytesOf y).toArray) acc).size ≤ acc.size + 4 * l.length
  | [], acc => by simp
  | y :: l, acc => by
    rw [List.foldl_cons]
    have h1 := fold_sz l (acc ++ (utf8Codec.bytesOf y).toArray)
    have h2 : (utf8Codec.bytesOf y).length ≤ 4 := by
      show (Str.utf8Of y).length ≤ 4
      unfold Str.utf8Of
      repeat (first | split | simp)
    simp at h1 ⊢
    omega
end
section
variable {c : Cx} {σ : St} {Q : Post} {R : RPost}
theorem HO_encode {t : List Nat} (hx : ∀ k ∈ t, k < 128 ∨ k = 233) (hp : 0 < t.length) (hl : t.length < 2000) (q : ∀ v, Q (.oth v) σ) : HOs c σ (fun us => call (.builtin "str.encode") us) [.str t, .str [117, 116, 102, 45, 56]] Q R := by
  intro us tm s r hlen
  obtain ⟨u1, u2, rfl⟩ : ∃ u1 u2, us = [u1, u2] := by
    match us, hlen with
    | [a, b], _ => exact ⟨a, b, rfl⟩
  obtain ⟨m, mu, fz, fr, w⟩ := r
  obtain ⟨t1, rfl⟩ := is_str (w.tm (u1, _) (.head _))
  obtain ⟨t2, rfl⟩ := is_str (w.tm (u2, _) (.tail _ (.head _)))
  have w0 := w.pop (tm' := tm) fun p hp => .tail _ (.tail _ hp)
  refine wpAny_call_entry PySem.F.slot_str_encode (typeIs_str _ _ _) PySem.F.entry_str_encode ?_ (PySem.F.args_str_encode_2 _ _)
  have e : Builtin.«str.encode» ⟨[.str ⟨t.toArray⟩ t1, .str ⟨[117, 116, 102, 45, 56].toArray⟩ t2], []⟩ = (do ret (← encodeRoad "str.encode" (.str ⟨t.toArray⟩ t1) ⟨t.toArray⟩ (Str.ofString "utf-8") none)) := by kernel_rfl
  rw [e, encodeRoad_utf8]
  have hsz : (Array.foldl (fun acc y => acc ++ (utf8Codec.bytesOf y).toArray) #[] t.toArray).size ≤ sizeLine := by
    have := fold_sz t #[]
    simp at this ⊢
    show _ ≤ 2 ^ 24
    omega
  refine wpAny_bind (wpAny_bind (enc_ok (fun k hk => ?_) (by simpa using hp) ?_ hsz))
  · have : k ∈ t := by simpa using hk
    rcases hx k this with h | h
    · show (0xD800 ≤ k && k ≤ 0xDFFF) = false; simp; omega
    · subst h; rfl
  · refine wpAny_mkBytes (wpAny_pure ⟨_, rfl, ?_⟩) hsz
    exact val_step w0.rel (fun _ => .oth _) (q _)
end
end Mine
end
section
open PySem PySem.W PySem.Calls PyProof.Rows
set_option autoImplicit false
set_option maxRecDepth 100000
namespace Mine
section
variable {c : Cx} {σ : St} {R : RPost} {K : Frag}
/-- the first store into a new exception -/
theorem HA_exc1 (ok : c.Ok) (hK : K.In c.h0) {o : Expr} {name : String} {pos : Pos} {y : V} {Q : St → Prop}
    (h : HE c σ o (fun ov σ₁ => ∃ C e oe vs hp0, ov = .ref e ∧ σ₁.hp = (e, .raw oe) :: hp0 ∧ KE K C ∧ oe.cls = .ref C ∧ oe.dict = none ∧ oe.data = .fields vs ∧ takerIn K C (Str.ofString name) = some none ∧
      ∀ d es n, NK es → es.length ≤ 1 → Q ⟨σ₁.loc, (d, .raw (dictOf es n)) :: (e, .raw { oe with dict := some d }) :: hp0⟩) R) : HA c σ (.Attribute o (Str.ofString name) pos) y Q R := by
  intro v tm s r
  rw [arm_assign_Attribute]
  refine wpAny_bind (wpAny_holding (wpAny_mono (h _ s r) (fun ov s₁ ⟨xo, ⟨l1, hp1⟩, r₁, h₁⟩ => wpAny_bind (wpAny_standAt (wpAny_bind (wpAny_holding ?_)))) fun _ _ q => q))
  obtain ⟨C, e, oe, vs, hp0, rfl, hh, ke, h1, h2, h3, ht, q⟩ := h₁
  dsimp only at hh
  subst hh
  refine wpAny_mono (setExc1 (tm' := (v, y) :: tm) (R := R) ok hK ke r₁ (.head _) (.tail _ (.head _)) (fun p hp => .tail _ hp) h1 h2 h3 ht) (fun _ s₃ ⟨d, es, n, nk, hl, r₃⟩ => ?_) fun _ _ q => q
  exact wpAny_release ⟨_, r₃, q d es n nk hl⟩
theorem HA_exc2 (ok : c.Ok) (hK : K.In c.h0) {o : Expr} {name : String} {pos : Pos} {y : V} {Q : St → Prop}
    (h : HE c σ o (fun ov σ₁ => ∃ C e d oe es n hp0, ov = .ref e ∧ σ₁.hp = (d, .raw (dictOf es n)) :: (e, .raw oe) :: hp0 ∧ KE K C ∧ oe.cls = .ref C ∧ oe.dict = some d ∧ notCls oe = true ∧ takerIn K C (Str.ofString name) = some none ∧ NK es ∧ es.length < 900 ∧
      ∀ es' n', NK es' → es'.length ≤ es.length + 1 → Q ⟨σ₁.loc, (d, .raw (dictOf es' n')) :: (e, .raw oe) :: hp0⟩) R) : HA c σ (.Attribute o (Str.ofString name) pos) y Q R := by
  intro v tm s r
  rw [arm_assign_Attribute]
  refine wpAny_bind (wpAny_holding (wpAny_mono (h _ s r) (fun ov s₁ ⟨xo, ⟨l1, hp1⟩, r₁, h₁⟩ => wpAny_bind (wpAny_standAt (wpAny_bind (wpAny_holding ?_)))) fun _ _ q => q))
  obtain ⟨C, e, d, oe, es, n, hp0, rfl, hh, ke, h1, h2, h3, ht, nk, hlen, q⟩ := h₁
  dsimp only at hh
  subst hh
  refine wpAny_mono (setExc2 (tm' := (v, y) :: tm) (R := R) ok hK ke r₁ (.head _) (.tail _ (.head _)) (fun p hp => .tail _ hp) h1 h2 h3 ht nk hlen) (fun _ s₃ ⟨es', n', nk', hl, r₃⟩ => ?_) fun _ _ q => q
  exact wpAny_release ⟨_, r₃, q es' n' nk' hl⟩
end
end Mine
end
section
open PySem PySem.W PySem.Calls PyProof.Rows
set_option autoImplicit false
set_option maxRecDepth 100000
namespace Mine
theorem en_unchain : entryFor table "proto.unchain" = some Builtin.«proto.unchain» := entryFor_of_tree (by kernel_rfl)
/-- a class of exceptions, as a raise sees it -/
structure EK (K : Frag) (cls : Value) : Prop where
  sub : subIn K cls (.type "BaseException") = some true
  meta_ : ∀ (M : Model) (h : Heap), K.In h → Looks M h (typeOf cls) (.type "type")
/-- the exception that is being handled, with what it knows of others -/
def Unch (hp : List (Addr × AO)) : Option Value → Prop
  | none => True
  | some h => ∃ a oh hs, h = .ref a ∧ (a, AO.raw oh) ∈ hp ∧ oh.data = .fields hs ∧ (hs[2]? = some .none ∨ ∃ b ob bs, hs[2]? = some (.ref b) ∧ (b, AO.raw ob) ∈ hp ∧ ob.data = .fields bs ∧ bs[2]? = some .none)
section
variable {prog : Program} {w : World} {A : Around} {s : Shared} {Rr : Result → Shared → Prop}
theorem unchain_stop {o : Addr} {oo : Obj} {vs : Array Value} {v slow : Value} {tg : Bool} (ho : s.heap.get? o = some oo) (hd : oo.data = .fields vs) (h2 : vs[2]? = some .none) (hR : Rr (.ok (.ret .none)) s) :
    codeAny (model prog w) A (.builtin "proto.unchain" ⟨[v, .ref o, slow, .bool tg], []⟩) Rr s := by
  refine codeAny_builtinAt en_unchain (PySem.wpAt_of_wpAny ?_)
  unfold Builtin.«proto.unchain»
  dsimp only
  refine wpAny_bind (wpAny_field ho hd h2 ?_)
  rw [if_pos (by decide)]
  refine wpAny_bind (wpAny_pure ?_)
  refine wpAny_pure ?_
  exact hR
theorem unchain_step {o b : Addr} {oo ob : Obj} {vs bs : Array Value} {v slow : Value} (ho : s.heap.get? o = some oo) (hd : oo.data = .fields vs) (h2 : vs[2]? = some (.ref b)) (hv : Value.ref b ≠ v) (hs : Value.ref b ≠ slow)
    (hb : s.heap.get? b = some ob) (hbd : ob.data = .fields bs) (hb2 : bs[2]? = some .none) (hR : Rr (.ok (.ret .none)) s) :
    codeAny (model prog w) A (.builtin "proto.unchain" ⟨[v, .ref o, slow, .bool false], []⟩) Rr s := by
  refine codeAny_builtinAt en_unchain (PySem.wpAt_of_wpAny ?_)
  unfold Builtin.«proto.unchain»
  dsimp only
  refine wpAny_bind (wpAny_field ho hd h2 ?_)
  have e1 : ¬ ((Value.ref b == Value.none) = true) := by simp
  have e2 : ¬ ((Value.ref b == v) = true) := by simpa using hv
  have e3 : ¬ ((Value.ref b == slow) = true) := by simpa using hs
  rw [if_neg e1]
  try with_reducible refine wpAny_bind (wpAny_pure ?_)
  rw [if_neg e2]
  try with_reducible refine wpAny_bind (wpAny_pure ?_)
  rw [if_neg e3]
  rw [if_neg (by decide)]
  refine wpAny_bind (wpAny_pure ?_)
  refine wpAny_pure ?_
  exact And.intro (Code.quiet_builtin _ (by decide +kernel)) (unchain_stop hb hbd hb2 hR)
end
theorem raw_get {c : Cx} {σ : St} {tm : List (Value × V)} {s : Shared} {m : Str → Option Value} {mu fz fr : Led} (w : RelW c σ tm s m mu fz fr) {a : Addr} {o : Obj} (h : (a, AO.raw o) ∈ σ.hp) : s.heap.get? a = some o ∧ (a, o) ∈ mu := by
  obtain ⟨b, hb, t⟩ := all2_mem w.hp _ h
  cases t
  exact ⟨(w.nw _ (List.mem_append_left _ (List.mem_append_left _ hb))).1, hb⟩
theorem raiseNew_X {α : Type} {c : Cx} {l : Loc} {R : RPost} {s : Shared} {e : Addr} {oe : Obj} {vs : Array Value} {hp0 : List (Addr × AO)} {cls : Value} {Q : α → Shared → Prop} (r : Rel c ⟨l, (e, .raw oe) :: hp0⟩ [] s) (h1 : oe.cls = cls) (h2 : oe.data = .fields vs) (h3 : 5 < vs.size) (h4 : vs[1]? = some .none) (h5 : vs[2]? = some .none)
    (hu : Unch hp0 c.A.handled) (q : R (cls, c.A.handled.getD .none) ⟨l, hp0⟩) : wpAny (model c.prog c.w) c.A (raiseNew (.ref e) : Sem α) Q (ExcE c R) s := by
  obtain ⟨m, mu, fz, fr, w⟩ := r
  have he := raw_get w (a := e) (o := oe) (.head _)
  have w' := w
  obtain ⟨a1, a2, a3, a4, a5, a6, a7, a8, a9, a10, a11, a12⟩ := w
  cases a11 with
  | @cons _ q1 _ mu1 t1 a11 =>
  cases t1
  have nd := List.nodup_cons.mp a6
  have e5 := a5 (e, oe) (by simp)
  unfold raiseNew
  refine wpAny_bind (wpAny_handled ?_)
  have fin0 : R (cls, .none) ⟨l, hp0⟩ → ExcE c R (.ref e) s := fun q =>
    ⟨e, _, ⟨l, hp0⟩, rfl, ⟨m, mu1, fz, fr, ⟨a1, a2, a3, a4, fun p hp => a5 p (.tail _ hp), nd.2, a7, a8, a9, a10, a11, a12⟩, oe, vs, he.1, ⟨h1, fun us hus => by rw [h2] at hus; cases hus; exact h5⟩, h2, h3, e5.2.2, e5.2.1, nd.1, .inl h4⟩, q⟩
  cases hh : c.A.handled with
  | none =>
    rw [hh] at q
    exact wpAny_throw (fin0 q)
  | some hv =>
    rw [hh] at hu q
    obtain ⟨a, oh, hs, rfl, hm, hd, hx⟩ := hu
    have ga := raw_get w' (a := a) (o := oh) (.tail _ hm)
    have ne : ∀ {b : Addr} {ob : Obj}, (b, AO.raw ob) ∈ hp0 → b ≠ e := by
      rintro b ob hb rfl
      obtain ⟨p, hp, t⟩ := all2_mem a11 _ hb
      cases t
      exact nd.1 (List.mem_map.mpr ⟨(b, ob), List.mem_append_left _ (List.mem_append_left _ hp), rfl⟩)
    dsimp only
    rw [if_pos (by simpa using (ne hm))]
    have k : codeAny (model c.prog c.w) c.A (.builtin "proto.unchain" ⟨[.ref e, .ref a, .ref a, .bool false], []⟩) (fun r s' => match r with | .ok (.ret v) => s' = s | _ => False) s := by
      rcases hx with hx | ⟨b, ob, bs, hx, hb, hbd, hb2⟩
      · exact unchain_stop ga.1 hd hx rfl
      · have gb := raw_get w' (a := b) (o := ob) (.tail _ hb)
        refine unchain_step ga.1 hd hx (fun q => ne hb (by injection q)) (fun q => ?_) gb.1 hbd hb2 rfl
        injection q with q
        subst q
        rw [ga.1] at gb
        have := Option.some.inj gb.1
        subst this
        rw [hd] at hbd
        cases hbd
        rw [hx] at hb2
        cases hb2
    refine wpAny_bind (wpAny_holding (wpAny_runValue (codeAny_mono k fun r s' z => ?_)))
    rcases r with x | (v | _ | _ | _) <;> first | exact z.elim | skip
    subst z
    refine wpAny_bind (m := updateField e 2 (.ref a)) ?_
    unfold updateField
    refine wpAny_bind (wpAny_load he.1 ?_)
    rw [h2]
    dsimp only
    rw [if_pos (by omega)]
    refine wpAny_update he.1 (wpAny_throw ?_)
    have hd' := Obj.data_mapFields h2 (·.setIfInBounds 2 (Value.ref a))
    have hk : ∀ b o, s'.heap.get? b = some o → b ≠ e → (s'.heap.update e (Obj.mapFields (·.setIfInBounds 2 (Value.ref a)))).get? b = some o := fun b o q hb => by
      rw [Heap.get?_update_other _ _ (Ne.symm hb)]; exact q
    have w1 : RelW c ⟨l, hp0⟩ [] s' m mu1 fz fr := ⟨a1, a2, a3, a4, fun p hp => a5 p (.tail _ hp), nd.2, a7, a8, a9, a10, a11, a12⟩
    have w2 := w1.but (k := s'.toks) (h' := s'.heap.update e (Obj.mapFields (·.setIfInBounds 2 (Value.ref a)))) (D := [e]) (fun b o q hb => hk b o q (fun z => hb (by simp [z]))) (fun d hd => by rw [List.mem_singleton] at hd; subst hd; exact ⟨e5.2.2, e5.2.1, nd.1⟩)
    refine ⟨e, _, ⟨l, hp0⟩, rfl, ⟨m, mu1, fz, fr, w2, _, _, Heap.get?_update_self _ he.1 (Obj.isFreed_of_fields hd'), ⟨(Obj.cls_mapFields ..).trans h1, fun us hus => ?_⟩, hd', by simpa using h3, e5.2.2, e5.2.1, nd.1, .inl ?_⟩, q⟩
    · rw [hd'] at hus
      injection hus with hus
      rw [← hus]
      exact Array.getElem?_setIfInBounds_self_of_lt (by omega)
    · rw [Array.getElem?_setIfInBounds_ne (by decide)]; exact h4
section
variable {c : Cx} {σ : St} {R : RPost} {K : Frag}
theorem HS1_raise (ok : c.Ok) (hK : K.In c.h0) {x : Expr} {pos : Pos} {Q : Fl → St → Prop}
    (h : HE c σ x (fun v σ₁ => ∃ e oe vs hp0 cls, v = .ref e ∧ σ₁.hp = (e, .raw oe) :: hp0 ∧ oe.cls = cls ∧ oe.data = .fields vs ∧ 5 < vs.size ∧ vs[1]? = some .none ∧ vs[2]? = some .none ∧ EK K cls ∧ Unch hp0 c.A.handled ∧ R (cls, c.A.handled.getD .none) ⟨σ₁.loc, hp0⟩) R) : HS1 c σ (.Raise (some x) none pos) Q R := by
  intro s r
  rw [arm_exec_Raise]
  show wpAny _ _ (do standAt pos; raiseStmt c.env (some (do let v ← eval x c.env; standAt pos; pure v)) none) _ _ s
  refine wpAny_bind (wpAny_standAt ?_)
  unfold raiseStmt
  refine wpAny_bind (wpAny_bind (wpAny_mono (h [] s r) (fun v s₁ ⟨xv, σ₁, r₁, e, oe, vs, hp0, cls, ex, hh, h1, h2, h3, h4, h5, ek, hu, q⟩ => wpAny_bind (wpAny_standAt (wpAny_pure ?_))) fun _ _ q => q))
  subst ex
  obtain ⟨_, hi⟩ := r₁.at0
  cases is_ref hi
  obtain ⟨l1, hp1⟩ := σ₁
  dsimp only at hh q
  subst hh
  have r₂ := r₁.drop1
  obtain ⟨m, mu, fz, fr, w⟩ := r₁
  have he := (raw_get w (a := e) (o := oe) (.head _)).1
  have hKs : K.In s₁.heap := K_in ok w hK
  have LT : Looks (model c.prog c.w) s₁.heap (typeOf (.ref e)) cls := looks_exc he h2 h1
  have L1 : Looks (model c.prog c.w) s₁.heap (isType (.ref e)) false := (Looks.ld (part := some headPart) he).andThen (by rw [h2]; exact .now)
  have L2 : Looks (model c.prog c.w) s₁.heap (isInstance (.ref e) (.type "BaseException")) true := LT.andThen (looks_subIn hKs ek.sub)
  have L3 := ek.meta_ (model c.prog c.w) s₁.heap hKs
  refine wpAny_bind (wpAny_pure ?_)
  refine wpAny_bind (wpAny_holding ?_)
  unfold excFromValue
  refine wpAny_bind (wpAny_bind (L1.here ?_))
  rw [if_neg (by decide)]
  refine wpAny_pure ?_
  rw [if_neg (by decide)]
  refine wpAny_bind (L2.here ?_)
  rw [if_pos rfl]
  refine wpAny_pure ?_
  dsimp only
  refine wpAny_bind (L1.here ?_)
  rw [if_neg (by decide)]
  unfold raisedInstance
  refine wpAny_bind (wpAny_bind (LT.here (wpAny_bind (L3.here ?_))))
  rw [if_pos (by decide)]
  refine wpAny_pure ?_
  unfold setFlight
  refine wpAny_bind (wpAny_bind (wpAny_field he h2 h4 ?_))
  rw [if_neg (by decide)]
  refine wpAny_pure ?_
  exact raiseNew_X r₂ h1 h2 h3 h4 h5 hu q
end
end Mine
end
section
open PySem PySem.W PySem.Calls PyProof.Rows
set_option autoImplicit false
set_option maxRecDepth 100000
namespace Mine
theorem typeCall_int_2 (a b : Value) : checkTypeCall "int" ⟨[a, b], []⟩ = pure () := by kernel_rfl
theorem newCall_int_2 (a b : Value) : checkBuiltinCall "int.__new__" ⟨[.type "int", a, b], []⟩ = pure () := by kernel_rfl
set_option maxHeartbeats 1000000
/-- the texts that stand behind a \u or a \U here, with their numbers -/
inductive Fig16 : List Nat → Int → Prop
  | a : Fig16 [48, 48, 69, 57] 233
  | b : Fig16 [48, 48, 52, 49] 65
  | d : Fig16 [48, 48, 48, 49, 70, 54, 48, 48] 128512
  | e : Fig16 [48, 48, 49, 49, 48, 48, 48, 48] 1114112
theorem Fig16.read {xs : List Nat} {n : Int} (h : Fig16 xs n) : (xs.takeWhile (· != 0)).length ≤ 640 ∧ (int_private% "readNumeral") 0 16 (xs.takeWhile (· != 0)) = (int_private% "Numeral.value") n ∧ ((xs.takeWhile (· != 0)).length == xs.length) = true ∧ xs.all (· < 128) = true := by
  cases h <;> exact ⟨by decide, by kernel_rfl, by decide, by decide⟩
theorem gives_text16 {xs : List Nat} {u t : Tok} {n : Int} (h : Fig16 xs n) : Gives (Builtin.«int.__new__» ⟨[.type "int", .str ⟨xs.toArray⟩ u, .int 16 t], []⟩) (.int n) :=
  .of_wp fun M A E s Q q => by
    obtain ⟨hp, g, d, tk, os⟩ := s
    have f1 := F.conv_sub_int
    have f2 := F.madeHere_int
    have f6 : typeOf (.str ⟨xs.toArray⟩ u) = pure (.type "str") := rfl
    obtain ⟨k1, k2, k3, k4⟩ := h.read
    repeat (any_goals (first
      | assumption
      | ((with_reducible show wpAny _ _ ((int_private% "intFromText") _ _ _) _ _ _); fail)
      | wp_step))
    have e1 : (if ((⟨xs.toArray⟩ : Str).cps.all fun x => decide (x < 128)) = true then (⟨xs.toArray⟩ : Str).cps.toList else Unicode.numberText (⟨xs.toArray⟩ : Str).cps.toList) = xs := by
      rw [if_pos (by simpa using k4)]
    rw [e1, show Int.toNat 16 = 16 from rfl, k2]
    dsimp only
    rw [if_pos k3]
    refine wpAny_mkInt ?_
    rw [if_pos (by decide)]
    exact wpAny_pure ⟨_, rfl, q⟩
section
variable {c : Cx} {σ : St} {Q : Post} {R : RPost}
/-- int(.., 16) -/
theorem HO_int16 {xs : List Nat} {n : Int} (h : Fig16 xs n) (q : Q (.int n) σ) : HOs c σ (fun us => call (.type "int") us) [.str xs, .int 16] Q R := by
  intro us tm s r hlen
  obtain ⟨u1, u2, rfl⟩ : ∃ u1 u2, us = [u1, u2] := by
    match us, hlen with
    | [a, b], _ => exact ⟨a, b, rfl⟩
  obtain ⟨m', mu, fz, fr, w⟩ := r
  obtain ⟨t1, rfl⟩ := is_str (w.tm (u1, .str xs) (.head _))
  obtain ⟨t2, rfl⟩ := is_int (w.tm (u2, .int 16) (.tail _ (.head _)))
  have w0 := w.pop (tm' := tm) fun p hp => .tail _ (.tail _ hp)
  refine callType_new F.called_int F.newNe_int (typeCall_int_2 _ _) (newCall_int_2 _ _) (fun obj => F.args_object_init_3 obj _ _) F.entry_int_new (gives_text16 h).meets ?_
  exact (show (Made.int n).post _ s from ⟨rfl, val_step w0.rel (fun _ => .int _ _) q⟩)
end
end Mine
end
section
open PySem PySem.W PySem.Calls PyProof.Rows PySem.Builtin PySem.Builtin.Re
set_option autoImplicit false
set_option maxRecDepth 100000
namespace Mine
section
variable {c : Cx} {σ : St} {tm : List (Value × V)} {s : Shared} {m : Str → Option Value} {mu fz fr : Led} {Q : Post} {R : RPost}
theorem fresh_at (w : RelW c σ tm s m mu fz fr) {e : Addr} (h : s.heap.get? e = none) : c.g.get? e = none ∧ e ≠ c.L ∧ e ∉ (mu ++ fz ++ fr).map (·.1) := by
  refine ⟨?_, ?_, ?_⟩
  · cases z : c.g.get? e with
    | none => rfl
    | some o => rw [w.fr.keep _ _ z] at h; cases h
  · rintro rfl
    obtain ⟨o, es, ep, ho, _⟩ := w.fr.ns
    rw [ho] at h; cases h
  · intro q
    obtain ⟨p, hp, rfl⟩ := List.mem_map.mp q
    rw [(w.nw p hp).1] at h; cases h
/-- a new exception of a built-in class, on its way -/
theorem RelW.freshX (w : RelW c σ tm s m mu fz fr) {h' : Heap} {k : Nat} {e : Addr} {cls : String} (x : Heap.NewExc s.heap h' e cls) : RelX c σ e (.type cls, .none) { s with heap := h', toks := k } := by
  obtain ⟨f1, f2, f3⟩ := fresh_at w x.new
  obtain ⟨ob, t, h1, h2, h3⟩ := x.there
  exact ⟨m, mu, fz, fr, (w.keeps x.keeps).pop (fun _ h => nomatch h), ob, _, h1, ⟨h2, fun vs hv => by rw [h3] at hv; cases hv; rfl⟩, h3, by simp, f1, f2, f3, .inl rfl⟩
/-- a new object, stored into -/
theorem RelW.fresh (w : RelW c σ tm s m mu fz fr) {h' : Heap} {k : Nat} {e : Addr} {o : Obj} (hk : ∀ b o, s.heap.get? b = some o → h'.get? b = some o) (hn : s.heap.get? e = none) (he : h'.get? e = some o) :
    RelW c ⟨σ.loc, (e, .raw o) :: σ.hp⟩ tm { s with heap := h', toks := k } m ((e, o) :: mu) fz fr := by
  obtain ⟨f1, f2, f3⟩ := fresh_at w hn
  have w1 := w.keeps (k := k) hk
  refine ⟨w1.gens, w1.drawn, w1.os, w1.fr, fun p hp => ?_, List.nodup_cons.mpr ⟨f3, w1.nd⟩, w1.fz, w1.frs, w1.loc, w1.ln, .cons .raw w1.hp, w1.tm⟩
  rcases List.mem_cons.mp hp with rfl | hp
  · exact ⟨he, f2, f1⟩
  · exact w1.nw p hp
/-- chr of what is no sign -/
theorem HO_chr_bad (hh : c.A.handled = none) {i : Int} (h1 : i > 0x10FFFF) (q : R (.type "ValueError", .none) σ) : HOs c σ (fun us => call (.builtin "chr") us) [.int i] Q R := by
  intro us tm s r hlen
  obtain ⟨u1, rfl⟩ : ∃ u1, us = [u1] := by
    match us, hlen with
    | [a], _ => exact ⟨a, rfl⟩
  obtain ⟨m, mu, fz, fr, w⟩ := r
  obtain ⟨t, rfl⟩ := is_int (w.tm (u1, .int i) (.head _))
  refine call_function_tree F.kind_chr F.plain_chr F.entry_chr (F.args_chr1 _) ?_
  show wpAny _ _ (if (decide (i < 0) || decide (i > 0x10FFFF)) = true then _ else retStr ⟨#[i.toNat]⟩) _ _ _
  rw [if_pos (by simp only [Bool.or_eq_true, decide_eq_true_eq]; omega)]
  refine wpAny_bind (wpAny_rule ?_)
  refine wpAny_bind (wpAny_raiseErrorWords plainExc_ValueError hh fun h' tk e x => ?_)
  exact ⟨e, _, σ, rfl, w.freshX x, q⟩
/-- Exception('..') -/
theorem HO_exc {y : V} (q : ∀ e oe vs, oe.cls = .type "Exception" → oe.data = .fields vs → 5 < vs.size → vs[1]? = some .none → vs[2]? = some .none → Q (.ref e) ⟨σ.loc, (e, .raw oe) :: σ.hp⟩) : HOs c σ (fun us => call (.type "Exception") us) [y] Q R := by
  intro us tm s r hlen
  obtain ⟨u1, rfl⟩ : ∃ u1, us = [u1] := by
    match us, hlen with
    | [a], _ => exact ⟨a, rfl⟩
  obtain ⟨m, mu, fz, fr, w⟩ := r
  have w0 := w.pop (tm' := tm) fun p hp => .tail _ hp
  obtain ⟨hh, g, d, tk, os⟩ := s
  refine wpAny_call_exc PySem.F.excCall_Exception fun h' e x => ?_
  obtain ⟨t, h1, _, _⟩ := x.there
  exact ⟨_, _, ((w0.fresh (k := tk) x.keeps x.new h1).push (.ref _)).rel, q _ _ _ rfl rfl (by simp) rfl rfl⟩
theorem cut_extract (t : List Nat) (a b : Nat) : (⟨t.toArray.extract a b⟩ : Str) = ⟨(cut t a b).toArray⟩ := by
  unfold cut
  rw [List.extract_toArray]
/-- m.group(1) -/
theorem HO_mgroup {t : List Nat} {p : Addr} {i lim li a b : Int} {x y : Nat} (ok : c.Ok) (hl : t.length < 1000) (q : Q (.str (cut t x y)) σ) : HOs c σ (fun us => call (.builtin "re.Match.group") us) [matV t p i lim li [.int a, .int b, .int (x : Int), .int (y : Int)], .int 1] Q R := by
  intro us tm s r hlen
  obtain ⟨u1, u2, rfl⟩ : ∃ u1 u2, us = [u1, u2] := by
    match us, hlen with
    | [a, b], _ => exact ⟨a, b, rfl⟩
  obtain ⟨m', mu, fz, fr, w⟩ := r
  obtain ⟨x1, t1, t2, t3, t4, tp, t5, t6, vs, n, rfl, h1, h2, hv⟩ := mat_at ok w (.head _)
  obtain ⟨t7, rfl⟩ := is_int (w.tm (u2, .int 1) (.tail _ (.head _)))
  cases hv with
  | cons e1 hv =>
  cases hv with
  | cons e2 hv =>
  cases hv
  obtain ⟨t8, rfl⟩ := is_int e1
  obtain ⟨t9, rfl⟩ := is_int e2
  have w0 := w.pop (tm' := tm) fun p hp => .tail _ (.tail _ hp)
  refine wpAny_call_entry sl_group ⟨_, h1, rfl⟩ en_group ?_ (ar_group _ _)
  unfold Builtin.«re.Match.group» reFound reGroupNumber reGroupText
  obtain ⟨hh, g, d, tk2, os⟩ := s
  repeat (first | refine wpAny_loadPart h1 ?_ | refine wpAny_loadPart h2 ?_ | wp_step)
  dsimp only
  rw [show (Array.map reRawOf ((some #[Value.int a t5, Value.int b t6, Value.int (x : Int) t8, Value.int (y : Int) t9]).getD #[])).getD (2 * Int.toNat 1) (-1) = (x : Int) from by simp [reRawOf],
    show (Array.map reRawOf ((some #[Value.int a t5, Value.int b t6, Value.int (x : Int) t8, Value.int (y : Int) t9]).getD #[])).getD (2 * Int.toNat 1 + 1) (-1) = (y : Int) from by simp [reRawOf]]
  rw [if_neg (by simp only [Bool.or_eq_true, decide_eq_true_eq]; omega)]
  unfold reTextOf reSlice
  repeat (first | wp_step)
  have hc : (cut t x y).length ≤ t.length := by unfold cut; simp; omega
  rw [show (⟨t.toArray.extract ((x : Int)).toNat ((y : Int)).toNat⟩ : Str) = ⟨(cut t x y).toArray⟩ from by rw [Int.toNat_natCast, Int.toNat_natCast, cut_extract]]
  rw [if_neg (by rw [str_len, show sizeLine = 2 ^ 24 from rfl]; omega)]
  refine wpAny_bind (wpAny_fresh ?_)
  refine wpAny_pure (wpAny_pure ⟨_, rfl, ?_⟩)
  exact val_step w0.rel (fun _ => mk_str _ _) q
end
end Mine
end
section
open PySem PySem.W PySem.Calls PyProof.Rows PySem.Builtin PySem.Builtin.Re
set_option autoImplicit false
set_option maxRecDepth 100000
namespace Mine
theorem call_entry_tree {prog : Program} {w : World} {A : Around} {E : Value → Shared → Prop} {s : Shared} {T : String} {name : Str}
    {id : String} {b : Builtin} {self : Value} {rest : List Value} {Q : Value → Shared → Prop} (h : Slot T name id) (hT : s.TypeIs self T)
    (hb : entryFor table id = some b)
    (hc : wpAny (model prog w) A.in1 (b ⟨self :: rest, []⟩) (fun fin s' => match fin with
      | .done f => (match (Except.ok f : Result) with | .ok (.ret v) => Q v s' | .ok _ => False | .error e => E e s')
      | .again c' => c'.quiet = true ∧ codeAny (model prog w) A c' (fun r s' => match r with | .ok (.ret v) => Q v s' | .ok _ => False | .error e => E e s') s') E s)
    (ha : argsOk id ⟨self :: rest, []⟩ := by rfl) :
    wpAny (model prog w) A (call (.builtin id) (self :: rest)) Q E s :=
  wpAny_call (codeAny_call_builtin h.plain hb (h.check _ _ _ _ _ _ _ _ hT ha hc))
theorem whole_at {prog : Program} {w : World} {A : Around} {E : Value → Shared → Prop} {s : Shared} {p : Addr} {code : List Nat} {groups : Nat} {t : Str} {tk : Tok} {Q : ReTarget → Shared → Prop} (hp : PatAt s.heap p code groups)
    (q : Q { pattern := .ref p, string := .str t tk, code := code.toArray, text := t.cps, kind := 0, groups := groups, pos := 0, lim := t.cps.size } s) :
    wpAny (model prog w) A (reWholeTarget (.ref p) (.str t tk)) Q E s := by
  obtain ⟨src, fl, tk1, tup, vs, n, h1, h2, h3⟩ := hp
  unfold reWholeTarget
  obtain ⟨hh, g, d, tk2, os⟩ := s
  have e1 : Array.map (fun x : Int => x.toNat) (Array.map reRawOf ((some vs).getD #[])) = code.toArray := by
    apply Array.toList_inj.mp
    simp only [Option.getD_some, Array.toList_map, h3, List.map_map]
    exact (List.map_congr_left (g := fun x => x) (fun a _ => rfl)).trans (List.map_id' _)
  repeat (first | refine wpAny_loadPart h1 ?_ | refine wpAny_loadPart h2 ?_ | wp_step)
  rw [e1]
  exact q
theorem fn_call : typeLookup (.type "function") "__call__" = pure (some (.builtin "function.__call__")) := by rw [typeLookup_type, builtinLookup_eq_fast]; kernel_rfl
theorem str_bytearray : isSubtype (.type "str") (.type "bytearray") = pure false := by rw [isSubtype_type]; kernel_rfl
section
variable {c : Cx} {σ : St} {Q : Post} {R : RPost} {K : Frag}
theorem weak_tl {l : Loc} {p : Addr × AO} {hp : List (Addr × AO)} (hn : (l.map (·.1)).Nodup) : Weak ⟨l, hp⟩ ⟨l, p :: hp⟩ := ⟨fun _ h => h, hn, .drop (.refl _)⟩
theorem next_at {M : Model} {A : Around} {E : Value → Shared → Prop} {s : Shared} {t : ReTarget} {st : Nat} {b : Bool} {o : Sre.M → Prop} {P : Option Sre.M → Shared → Prop} (h : Ends (Sre.forSearch t.code t.text t.groups st t.lim b) o) (hq : ∀ r, o r → (r.outcome = some .matched ∧ P (some r) s) ∨ (r.outcome = some .failed ∧ P none s)) : wpAny M A (reNextFound t st b) P E s := run_end h hq
theorem sjoin_nil : ∀ yss : List (List Nat), Str.join (⟨#[]⟩ : Str) (yss.map fun y => ⟨y.toArray⟩) = ⟨yss.flatten.toArray⟩
  | [] => rfl
  | [y] => by
    show (⟨y.toArray⟩ : Str) = _
    simp
  | x :: y :: r => by
    have ih := sjoin_nil (y :: r)
    show (⟨x.toArray⟩ : Str) ++ ⟨#[]⟩ ++ Str.join ⟨#[]⟩ ((y :: r).map fun y => ⟨y.toArray⟩) = _
    rw [ih]
    show (⟨x.toArray ++ #[] ++ (y :: r).flatten.toArray⟩ : Str) = _
    simp
theorem join_nil (yss : List (List Nat)) : Txt.join (⟨#[]⟩ : Str) (yss.map fun y => ⟨y.toArray⟩) = ⟨yss.flatten.toArray⟩ := by
  show Builtin.Str.glued _ _ = _
  rw [StrLaws.glued_eq_join]
  exact sjoin_nil yss
/-- ''.join(..), wherever it stands -/
theorem join_X {A : Around} {E : Value → Shared → Prop} (ok : c.Ok) {t : Tok} {y : V} {u : Value} {yss : List (List Nat)} {tm : List (Value × V)} {s : Shared} {P : Value → Shared → Prop} (h : LstOf σ y (strsV yss)) (hl : (yss.map (·.length)).sum ≤ 100000) (r : Rel c σ ((u, y) :: tm) s)
    (q : ∀ v s', Rel c σ ((v, .str yss.flatten) :: tm) s' → P v s') : wpAny (model c.prog c.w) A (call (.builtin "str.join") [.str ⟨#[]⟩ t, u]) P E s := by
  obtain ⟨m, mu, fz, fr, w⟩ := r
  obtain ⟨a, vs, n, rfl, g1, e1⟩ := lst_at ok w (.head _) h
  have w0 := w.pop (tm' := tm) fun p hp => .tail _ hp
  refine join_list (items := vs.toArray) ⟨_, g1, rfl, n, rfl⟩ (strs_are e1) ?_ fun t' k => ?_
  · have e : ((yss.map fun y => (⟨y.toArray⟩ : Str)).map (·.length)).sum = (yss.map (·.length)).sum := by
      rw [List.map_map]; exact congrArg List.sum (List.map_congr_left fun y _ => str_len y)
    rw [e, show (⟨#[]⟩ : Str).length = 0 from rfl]; omega
  · rw [join_nil]
    exact q _ _ (w0.tok.push (mk_str _ _)).rel
theorem sub_loop2 {p f a : Addr} {code : List Nat} {T xs : List Nat} {t3 : Tok} {n : Int} {b : Bool} {tm : List (Value × V)} {s : Shared} (ok : c.Ok) (hp : PatAt c.h0 p code 1) (hl : T.length < 1000) (hx : xs.length < 1000)
    (h2 : Ends (Sre.forSearch code.toArray T.toArray 1 T.length T.length b) fun r => r.outcome = some .failed)
    (r : Rel c ⟨σ.loc, (a, .list [.str xs]) :: σ.hp⟩ tm s) (q : Q (.str xs) σ) :
    codeAny (model c.prog c.w) c.A (.builtin "re.Pattern.sub.loop" ⟨[.ref p, .str ⟨T.toArray⟩ t3, .ref f, rawInt 1, rawInt 0, rawInt n, rawInt T.length, rawInt T.length, .bool b, .ref a, .bool false], []⟩)
      (fun r s' => match r with | .ok (.ret v) => ∃ x σ', Rel c σ' ((v, x) :: tm) s' ∧ Q x σ' | .ok _ => False | .error e => ExcE c R e s') s := by
  refine codeAny_builtinAt en_loop (PySem.wpAt_of_wpAny ?_)
  unfold Builtin.«re.Pattern.sub.loop»
  obtain ⟨m', mu, fz, fr, w⟩ := r
  have hp' := pat_keep ok w hp
  have w1 := w.push (v := .ref a) (.ref a)
  obtain ⟨a1, vs, n1, e1, g1, e2⟩ := lst_at ok w1 (.head _) (.inr ⟨a, rfl, .head _⟩)
  cases e1
  cases e2 with
  | cons e2 e3 =>
  cases e3
  obtain ⟨t4, rfl⟩ := is_str e2
  have hln := w.ln
  have r1 := w1.rel
  obtain ⟨hh, g, d, tk2, os⟩ := s
  dsimp only
  refine wpAny_bind (whole_at hp' ?_)
  repeat (first | with_reducible refine next_at (o := fun r => r.outcome = some .failed) ?h fun r hr => .inr ⟨hr, ?_⟩ | wp_step)
  case h => simpa using h2
  dsimp only
  rw [if_neg (by simp)]
  unfold reSlice
  rw [show T.toArray.extract 0 0 = #[] from by simp]
  repeat rw [if_pos (show ((0 : Nat) == 0) = true from rfl)]
  have hL : LstOf ⟨σ.loc, (a, .list [.str xs]) :: σ.hp⟩ (.ref a) (strsV [xs]) := .inr ⟨a, rfl, .head _⟩
  have hk : ∀ k, Rel c ⟨σ.loc, (a, .list [.str xs]) :: σ.hp⟩ ((Value.ref a, .ref a) :: tm) ⟨hh, g, d, k, os⟩ := fun k => w1.tok.rel
  repeat (first | with_reducible refine wpAny_loadPart g1 ?_ | with_reducible refine join_X (σ := ⟨σ.loc, (a, .list [.str xs]) :: σ.hp⟩) (yss := [xs]) ok hL ?h1 (hk _) (fun v s' r' => ?_) | wp_step)
  case h1 => simp; omega
  have r2 := Rel.weak (weak_tl hln) r'
  rw [if_neg (by decide)]
  exact wpAny_pure ⟨_, σ, r2, by simpa using q⟩
theorem sub_loop1 {P : Prop} {p f a : Addr} {code : List Nat} {T xs : List Nat} {t3 : Tok} {tm : List (Value × V)} {s : Shared} (ok : c.Ok) (hp : PatAt c.h0 p code 1) (hl : T.length < 1000) (hl2 : 2 < T.length) (hx : xs.length < 1000)
    (h1 : Ends (Sre.forSearch code.toArray T.toArray 1 0 T.length false) fun r => r.outcome = some .matched ∧ r.start = 0 ∧ r.handed = T.length ∧ r.lastmark = 1 ∧ r.marks = #[some 2, some T.length])
    (h2 : Ends (Sre.forSearch code.toArray T.toArray 1 T.length T.length false) fun r => r.outcome = some .failed)
    (hc : ∀ A' u tm s, A'.frames = c.A.frames → A'.depth = c.A.depth → A'.units = c.A.units + 1 → A'.handled = c.A.handled → ∀ li, Rel c ⟨σ.loc, (a, .list []) :: σ.hp⟩ ((u, matV T p 0 T.length li [.int 0, .int T.length, .int ((2 : Nat) : Int), .int T.length]) :: tm) s →
      codeAny (model c.prog c.w) A' (.call (.ref f) ⟨[u], []⟩) (fun r s' => match r with | .ok (.ret v) => ∃ x σ', Rel c σ' ((v, x) :: tm) s' ∧ (x = .str xs ∧ σ' = ⟨σ.loc, (a, .list []) :: σ.hp⟩ ∧ P) | .ok _ => False | .error e => ExcE c R e s') s)
    (r : Rel c ⟨σ.loc, (a, .list []) :: σ.hp⟩ tm s) (q : P → Q (.str xs) σ) :
    codeAny (model c.prog c.w) c.A (.builtin "re.Pattern.sub.loop" ⟨[.ref p, .str ⟨T.toArray⟩ t3, .ref f, rawInt 1, rawInt 0, rawInt 0, rawInt 0, rawInt 0, .bool false, .ref a, .bool false], []⟩)
      (fun r s' => match r with | .ok (.ret v) => ∃ x σ', Rel c σ' ((v, x) :: tm) s' ∧ Q x σ' | .ok _ => False | .error e => ExcE c R e s') s := by
  refine codeAny_builtinAt en_loop (PySem.wpAt_of_wpAny ?_)
  rw [Around.under_plainId (by decide +kernel)]
  unfold Builtin.«re.Pattern.sub.loop»
  have r0 := r
  obtain ⟨m', mu, fz, fr, w⟩ := r
  have hp' := pat_keep ok w hp
  dsimp only
  refine wpAny_bind (whole_at hp' ?_)
  repeat (first | with_reducible refine next_at (o := fun r => r.outcome = some .matched ∧ r.start = 0 ∧ r.handed = T.length ∧ r.lastmark = 1 ∧ r.marks = #[some 2, some T.length]) ?h fun r hr => .inl ⟨hr.1, ?_⟩ | wp_step)
  case h => simpa using h1
  obtain ⟨o1, o2, o3, o4, o5⟩ := hr
  dsimp only
  rw [if_neg (by rw [o2]; simp), if_neg (by decide)]
  have hm := madeM1y o4 o5 (by omega)
  refine wpAny_bind (newMatch_X (i := 0) r0 hm fun v s1 r1 => ?_)
  rw [if_pos (by decide)]
  refine wpAny_bind (wpAny_holding (wpAny_call (codeAny_mono (hc c.A.in1 v tm s1 rfl rfl rfl rfl r.lastindex ?_) fun rr s2 z => ?_)))
  · rw [o2, o3, List.size_toArray] at r1
    exact r1
  · rcases rr with x | (v2 | _ | _ | _) <;> first | exact z.elim | exact z | skip
    obtain ⟨x, σ', r2, rfl, rfl, hP⟩ := z
    obtain ⟨_, hi⟩ := r2.at0
    obtain ⟨t5, e5⟩ := is_str hi
    dsimp only at e5
    subst e5
    dsimp only
    rw [if_pos (by simp)]
    obtain ⟨m2, mu2, fz2, fr2, w2⟩ := r2
    obtain ⟨pre, b, o, post, e, t, hg, k⟩ := (w2.pop (tm' := tm) fun p hp => .tail _ hp).turn (p := (a, .list [])) (o' := .list [.str xs]) .head
    obtain ⟨rfl, vs, n, rfl, hr⟩ := tr_list t
    cases hr
    refine wpAny_bind (wpAny_updateSeq hg rfl (wpAny_pure ?_))
    rw [o3, o2, show (T.length == 0) = false from beq_eq_false_iff_ne.mpr (by omega)]
    refine ⟨Code.quiet_builtin _ (by decide +kernel), sub_loop2 ok hp hl hx h2 ?_ (q hP)⟩
    have w3 := k { cls := .type "list", data := .seq [Value.str ⟨xs.toArray⟩ t5].toArray (n + 1) } (s2.heap.update b (Obj.mapSeq (·.push (Value.str ⟨xs.toArray⟩ t5)))) s2.toks (.list (.cons (mk_str _ _) .nil)) (Heap.SameBut.update ..) (by rw [Heap.get?_update_self _ hg (by rw [Obj.mapSeq_push_plain]; rfl), Obj.mapSeq_push_plain]; rfl)
    exact w3.rel
theorem HO_sub {P : Prop} {p f : Addr} {code : List Nat} {T xs : List Nat} (ok : c.Ok) (hK : K.In c.h0) (hp : PatAt c.h0 p code 1) {oF : Obj} (hf : c.h0.get? f = some oF) (hfc : oF.cls = .type "function") (hl : T.length < 1000) (hl2 : 2 < T.length) (hx : xs.length < 1000)
    (h1 : Ends (Sre.forSearch code.toArray T.toArray 1 0 T.length false) fun r => r.outcome = some .matched ∧ r.start = 0 ∧ r.handed = T.length ∧ r.lastmark = 1 ∧ r.marks = #[some 2, some T.length])
    (h2 : Ends (Sre.forSearch code.toArray T.toArray 1 T.length T.length false) fun r => r.outcome = some .failed)
    (hc : ∀ a A' u tm s, A'.frames = c.A.frames → A'.depth = c.A.depth → A'.units = c.A.units + 1 → A'.handled = c.A.handled → ∀ li, Rel c ⟨σ.loc, (a, .list []) :: σ.hp⟩ ((u, matV T p 0 T.length li [.int 0, .int T.length, .int ((2 : Nat) : Int), .int T.length]) :: tm) s →
      codeAny (model c.prog c.w) A' (.call (.ref f) ⟨[u], []⟩) (fun r s' => match r with | .ok (.ret v) => ∃ x σ', Rel c σ' ((v, x) :: tm) s' ∧ (x = .str xs ∧ σ' = ⟨σ.loc, (a, .list []) :: σ.hp⟩ ∧ P) | .ok _ => False | .error e => ExcE c R e s') s)
    (q : P → Q (.str xs) σ) :
    HOs c σ (fun us => call (.builtin "re.Pattern.sub") us) [.ref p, .ref f, .str T] Q R := by
  intro us tm s r hlen
  obtain ⟨u1, u2, u3, rfl⟩ : ∃ u1 u2 u3, us = [u1, u2, u3] := by
    match us, hlen with
    | [a, b, d], _ => exact ⟨a, b, d, rfl⟩
  obtain ⟨m', mu, fz, fr, w⟩ := r
  cases is_ref (w.tm (u1, .ref p) (.head _))
  cases is_ref (w.tm (u2, .ref f) (.tail _ (.head _)))
  obtain ⟨t3, rfl⟩ := is_str (w.tm (u3, .str T) (.tail _ (.tail _ (.head _))))
  have w0 := w.pop (tm' := tm) fun p hp => .tail _ (.tail _ (.tail _ hp))
  have hp' := pat_keep ok w hp
  have hKs := K_in ok w hK
  have hT : s.TypeIs (.ref p) "re.Pattern" := by
    obtain ⟨src, fl, tk, tup, vs, n, h1, h2, h3⟩ := hp'
    exact ⟨_, h1, rfl⟩
  refine call_entry_tree sl_sub hT en_sub ?_ (ar_sub _ _ _)
  show wpAny _ _ (reSubstitute "re.Pattern.sub" "sub" false ⟨[.ref p, .ref f, .str ⟨T.toArray⟩ t3], []⟩) _ _ _
  unfold reSubstitute reNamed
  dsimp only
  have hf' := w.stays ok _ _ hf
  have f1 := fn_call
  have f2 := str_bytearray
  obtain ⟨hh, g, d, tk2, os⟩ := s
  obtain ⟨c1, d1, dat1, sl1⟩ := oF
  dsimp only at hfc
  subst hfc
  repeat (first | with_reducible refine whole_at hp' ?_ | with_reducible refine wpAny_loadPart hf' ?_ | with_reducible refine newList_N w0.fr w0.nw (fun h' F N => ?_) ?hz | wp_step)
  case hz => decide
  have w2 := w0.track (k := tk2) F N (fun q hq => Nat.ne_of_lt (Heap.lt_size (w0.nw q hq).1)) (.list .nil)
  exact ⟨Code.quiet_builtin _ (by decide +kernel), sub_loop1 ok hp hl hl2 hx h1 h2 (hc _) w2.rel q⟩
end
end Mine
end
section
open PySem PySem.W PySem.Calls PyProof.Rows
set_option autoImplicit false
set_option maxRecDepth 100000
namespace Mine
def u4C : List Nat := [14, 10, 1, 6, 6, 2, 2, 92, 117, 0, 0, 16, 92, 16, 117, 17, 0, 24, 16, 4, 4, 13, 11, 9, 0, 67043328, 126, 126, 0, 0, 0, 0, 0, 1, 17, 1, 1]
def u8C : List Nat := [14, 10, 1, 10, 10, 2, 2, 92, 85, 0, 0, 16, 92, 16, 85, 17, 0, 24, 16, 8, 8, 13, 11, 9, 0, 67043328, 126, 126, 0, 0, 0, 0, 0, 1, 17, 1, 1]
/-- an escape with its figures, and the machine's two turns over it -/
structure EscRun (code : List Nat) (T : List Nat) : Prop where
  one : Ends (Sre.forSearch code.toArray T.toArray 1 0 T.length false) fun r => r.outcome = some .matched ∧ r.start = 0 ∧ r.handed = T.length ∧ r.lastmark = 1 ∧ r.marks = #[some 2, some T.length]
  two : Ends (Sre.forSearch code.toArray T.toArray 1 T.length T.length false) fun r => r.outcome = some .failed
theorem run4a : EscRun u4C [92, 117, 48, 48, 69, 57] := ⟨⟨10, by decide, _, rfl, by kernel_rfl, by kernel_rfl, by kernel_rfl, by kernel_rfl, by kernel_rfl, by kernel_rfl⟩, ⟨2, by decide, _, rfl, by kernel_rfl, by kernel_rfl⟩⟩
theorem run4b : EscRun u4C [92, 117, 48, 48, 52, 49] := ⟨⟨10, by decide, _, rfl, by kernel_rfl, by kernel_rfl, by kernel_rfl, by kernel_rfl, by kernel_rfl, by kernel_rfl⟩, ⟨2, by decide, _, rfl, by kernel_rfl, by kernel_rfl⟩⟩
theorem run8a : EscRun u8C [92, 85, 48, 48, 48, 49, 70, 54, 48, 48] := ⟨⟨10, by decide, _, rfl, by kernel_rfl, by kernel_rfl, by kernel_rfl, by kernel_rfl, by kernel_rfl, by kernel_rfl⟩, ⟨2, by decide, _, rfl, by kernel_rfl, by kernel_rfl⟩⟩
theorem run8b : EscRun u8C [92, 85, 48, 48, 49, 49, 48, 48, 48, 48] := ⟨⟨10, by decide, _, rfl, by kernel_rfl, by kernel_rfl, by kernel_rfl, by kernel_rfl, by kernel_rfl, by kernel_rfl⟩, ⟨2, by decide, _, rfl, by kernel_rfl, by kernel_rfl⟩⟩
/-- what stands ahead of the figures -/
structure EscOf (pre : Nat) (figs : List Nat) (p : Addr) (code : List Nat) (n : Int) : Prop where
  run : EscRun code (92 :: pre :: figs)
  fig : Fig16 figs n
  at_ : (p = 43 ∧ code = u4C ∧ pre = 117 ∧ figs.length = 4) ∨ (p = 48 ∧ code = u8C ∧ pre = 85 ∧ figs.length = 8)
theorem esc4a : EscOf 117 [48, 48, 69, 57] 43 u4C 233 := ⟨run4a, .a, .inl ⟨rfl, rfl, rfl, rfl⟩⟩
theorem esc4b : EscOf 117 [48, 48, 52, 49] 43 u4C 65 := ⟨run4b, .b, .inl ⟨rfl, rfl, rfl, rfl⟩⟩
theorem esc8a : EscOf 85 [48, 48, 48, 49, 70, 54, 48, 48] 48 u8C 128512 := ⟨run8a, .d, .inr ⟨rfl, rfl, rfl, rfl⟩⟩
theorem esc8b : EscOf 85 [48, 48, 49, 49, 48, 48, 48, 48] 48 u8C 1114112 := ⟨run8b, .e, .inr ⟨rfl, rfl, rfl, rfl⟩⟩
end Mine
end
section
open PySem PySem.W PySem.Calls PyProof.Rows
set_option autoImplicit false
set_option maxRecDepth 100000
namespace Mine
section
variable {c : Cx} {σ : St} {s : Shared} {R R' : RPost} {Q : Post}
theorem Exc.sub {g : Heap} {L : Addr} {news news' : Led} {e : Addr} {k : Value × Value} {h : Heap} (hs : ∀ a ∈ news'.map (·.1), a ∈ news.map (·.1)) (x : Exc g L news e k h) : Exc g L news' e k h := by
  obtain ⟨oe, vs, a1, a2, a3, a4, a5, a6, a7, st⟩ := x
  refine ⟨oe, vs, a1, a2, a3, a4, a5, a6, fun q => a7 (hs _ q), ?_⟩
  rcases st with b1 | ⟨T, oT, ts, fl, b1, b2, b3, b4, b5, b6, b7, b8⟩
  · exact .inl b1
  · exact .inr ⟨T, oT, ts, fl, b1, b2, b3, b4, b5, b6, b7, fun q => b8 (hs _ q)⟩
theorem RelX.weak {σ' : St} {e : Addr} {k : Value × Value} (h : Weak σ' σ) (r : RelX c σ e k s) : RelX c σ' e k s := by
  obtain ⟨m, mu, fz, fr, w, x⟩ := r
  obtain ⟨mu', e1, e2⟩ := all2_sub h.hp w.hp
  have sub : SubL (mu' ++ fz ++ fr) (mu ++ fz ++ fr) := (e2.app (.refl _)).app (.refl _)
  exact ⟨m, mu', fz, fr, ⟨w.gens, w.drawn, w.os, w.fr, fun p hp => w.nw p (sub.mem p hp), (sub.map (·.1)).nodup w.nd, w.fz, w.frs, fun p hp => w.loc p (h.loc p hp), h.ln, e1, w.tm⟩, x.sub fun a ha => (sub.map (·.1)).mem a ha⟩
theorem ExcE.weak (h : ∀ k σ', R' k σ' → ∃ σ'', (∀ (n : (σ'.loc.map (·.1)).Nodup), Weak σ'' σ') ∧ R k σ'') {v : Value} (x : ExcE c R' v s) : ExcE c R v s := by
  obtain ⟨e, k, σ', ev, rx, q⟩ := x
  obtain ⟨σ'', hw, q'⟩ := h k σ' q
  have hn : (σ'.loc.map (·.1)).Nodup := by
    obtain ⟨m, mu, fz, fr, w, _⟩ := rx
    exact w.ln
  exact ⟨e, k, σ'', ev, rx.weak (hw hn), q'⟩
theorem HOs.weakX {f : List Value → Sem Value} {xs : List V} (h : HOs c σ f xs Q R') (hR : ∀ k σ', R' k σ' → ∃ σ'', (∀ (n : (σ'.loc.map (·.1)).Nodup), Weak σ'' σ') ∧ R k σ'') : HOs c σ f xs Q R :=
  fun us tm s r hl => wpAny_mono (h us tm s r hl) (fun _ _ q => q) fun _ _ x => ExcE.weak hR x
theorem HS1.weakX {st : Stmt} {P : Fl → St → Prop} (h : HS1 c σ st P R') (hR : ∀ k σ', R' k σ' → ∃ σ'', (∀ (n : (σ'.loc.map (·.1)).Nodup), Weak σ'' σ') ∧ R k σ'') : HS1 c σ st P R :=
  fun s r => wpAny_mono (h s r) (fun _ _ q => q) fun _ _ x => ExcE.weak hR x
end
end Mine
end
section
open PySem PySem.W PySem.Calls PyProof.Rows
set_option autoImplicit false
set_option maxRecDepth 100000
namespace Mine
theorem mt_bool : typeLookup (.type "re.Match") "__bool__" = pure none := by rw [typeLookup_type, builtinLookup_eq_fast]; kernel_rfl
theorem mt_len : typeLookup (.type "re.Match") "__len__" = pure none := by rw [typeLookup_type, builtinLookup_eq_fast]; kernel_rfl
/-- a match is true -/
theorem HB_mat {c : Cx} {σ : St} {R : RPost} {Q : Bool → St → Prop} {t : List Nat} {p : Addr} {i lim li a b : Int} {sp : List V} (ok : c.Ok) (q : Q true σ) : HB c σ truthy (matV t p i lim li (.int a :: .int b :: sp)) Q R := by
  intro u tm s r
  obtain ⟨m', mu, fz, fr, w⟩ := r
  obtain ⟨x, t1, t2, t3, t4, tp, t5, t6, vs, n, rfl, h1, h2, _⟩ := mat_at ok w (.head _)
  have w0 := w.pop (tm' := tm) fun p hp => .tail _ hp
  have f1 := mt_bool
  have f2 := mt_len
  obtain ⟨hh, g, d, tk2, os⟩ := s
  unfold truthy
  repeat (first | with_reducible refine wpAny_loadPart h1 ?_ | wp_step)
  exact ⟨σ, w0.rel, q⟩
end Mine
end
section
open PySem PySem.W PySem.Calls PyProof.Rows
set_option autoImplicit false
set_option maxRecDepth 100000
namespace Mine
/-- a call with one keyword -/
def HOK (c : Cx) (σ : St) (f : List Value → Value → Sem Value) (xs : List V) (y : V) (Q : Post) (R : RPost) : Prop :=
  ∀ us u tm s, Rel c σ ((u, y) :: (us.zip xs ++ tm)) s → us.length = xs.length → wpAny (model c.prog c.w) c.A (f us u) (fun v s' => ∃ x σ', Rel c σ' ((v, x) :: tm) s' ∧ Q x σ') (ExcE c R) s
section
variable {c : Cx} {σ : St} {R : RPost} {K : Frag}
theorem HE_callK (ok : c.Ok) {func : Expr} {a : Expr} {rest : List Expr} {nm : Str} {value : Expr} {p pos : Pos} {Q : Post} (hs : starEach (a :: rest) c.env = (a :: rest).map fun e => (false, eval e c.env))
    (he : eval (.Call func (a :: rest) [⟨some nm, value, p⟩] pos) c.env = (do callWith pos (← eval func c.env) [] (backTo pos (starEach (a :: rest) c.env)) (backToKw pos (keywordEach [⟨some nm, value, p⟩] c.env))))
    (h : HE c σ func (fun y σ₁ => ∃ f, fnV y = some f ∧ Keeps c f ∧ HX c σ₁ (a :: rest) (fun xs σ₂ => HE c σ₂ value (fun y σ₃ => HOK c σ₃ (fun us u => call f us [(nm, u)]) xs y Q R) R) R) R) : HE c σ (.Call func (a :: rest) [⟨some nm, value, p⟩] pos) Q R := by
  intro tm s r
  rw [he, hs, backTo_plain]
  refine wpAny_bind (wpAny_mono (h tm s r) (fun v s₁ ⟨y, σ₁, r₁, f, ef, hk, h₁⟩ => ?_) fun _ _ q => q)
  obtain ⟨rd, hi⟩ := r₁.at0
  have := fnV_is hi ef
  subst this
  refine callWith_of (P := fun h => ∀ b o, c.h0.get? b = some o → h.get? b = some o) (by rw [plain_any]; rfl) (fun h st => hk _ h st) ?_
  refine evalArgs_kw rfl ?_
  refine wpAny_mono (h₁ tm s₁ r₁.drop1) (fun vs s₂ ⟨xs, σ₂, r₂, hl, h₂⟩ => ?_) fun _ _ q => q
  refine kwAll_cons ?_
  refine wpAny_mono (h₂ _ s₂ r₂) (fun v s₃ ⟨y, σ₃, r₃, h₃⟩ => kwAll_nil ⟨?_, ?_⟩) fun _ _ q => q
  · obtain ⟨m, mu, fz, fr, w⟩ := r₃
    exact w.stays ok
  · exact h₃ _ _ tm s₃ r₃ hl
/-- an object of the text's own class is made -/
theorem make_X {C fI : Addr} {us : List Value} {kw : List (Str × Value)} {tm : List (Value × V)} {s : Shared} {Q : Value → Shared → Prop} {E : Value → Shared → Prop} (ok : c.Ok) (hK : K.In c.h0) (hm : makesIn K C = true) (hi : findIn K (.ref C) "__init__" = some (some (.ref fI))) (hf : typeIn K (.ref fI) = some (.type "function"))
    (r : Rel c σ tm s)
    (h : ∀ x d s', Rel c ⟨σ.loc, (x, .inst C d []) :: σ.hp⟩ tm s' → codeAny (model c.prog c.w) (c.A.under (.builtin "type.__call__" ⟨.ref C :: us, kw⟩)) (.call (.ref fI) ⟨.ref x :: us, kw⟩) (InitBack x fun r s' => match r with | .ok (.ret v) => Q v s' | .ok _ => False | .error e => E e s') s') :
    wpAny (model c.prog c.w) c.A (call (.ref C) us kw) Q E s := by
  refine wpAny_call ?_
  obtain ⟨m, mu, fz, fr, w⟩ := r
  have hKs := K_in ok w hK
  obtain ⟨hh, g, d, tk, os⟩ := s
  refine make_core (makes_of hKs hm) (looks_findIn hKs hi) (fun self => bind_fn hKs self hf) (.inl rfl) ?_
  have w1 := w.track (k := tk) (D := hh.objs.size) (o := emptyDict) (p := (hh.objs.size, .raw emptyDict)) (w.fr.push _) (w.nw.push w.fr _) (fun q hq => Nat.ne_of_lt (Heap.lt_size (w.nw q hq).1)) .raw
  have w2 := w1.froze' (k := tk) (o := instObj C hh.objs.size) (w1.fr.push _) (w1.nw.push w1.fr _)
  have e : ({ heap := hh.push emptyDict, gens := g, drawn := d, toks := tk, os := os } : Shared).heap.objs.size = hh.objs.size + 1 := Heap.size_push _ _
  rw [e] at w2
  refine h _ hh.objs.size _ ⟨m, _, _, fr, ⟨w2.gens, w2.drawn, w2.os, w2.fr, w2.nw, w2.nd, w2.fz, w2.frs, w2.loc, w2.ln, ?_, w2.tm⟩⟩
  have h2 := w2.hp
  cases h2 with
  | cons a b => exact .cons (.inst (es := []) (n := 0) (.inl (.head _)) .nil) b
end
end Mine
end
section
open PySem PySem.W PySem.Calls PyProof.Rows
set_option autoImplicit false
set_option maxRecDepth 100000
namespace Mine
/-- {} -/
theorem HE_dict0 {c : Cx} {σ : St} {R : RPost} {pos : Pos} {Q : Post} (q : ∀ a, Q (.ref a) σ) : HE c σ (.Dict [] [] pos) Q R := by
  intro tm s r
  obtain ⟨m, mu, fz, fr, w⟩ := r
  rw [eval_Dict_empty]
  refine wpAny_bind (wpAny_standAt ?_)
  unfold newDict
  refine wpAny_newObj_type ?_ (by first | size_fits | decide)
  have w1 := w.keeps (k := s.toks) (h' := s.heap.push { cls := .type "dict", data := .dict #[] }) (fun b o e => Heap.get?_push_of_some _ e)
  exact ⟨_, σ, (w1.push (.ref _)).rel, q _⟩
end Mine
end
section
open PySem PySem.W PySem.Calls PyProof.Rows
set_option autoImplicit false
set_option maxRecDepth 100000
namespace Mine
section
variable {c : Cx} {σ : St} {R : RPost} {Q : Post}
/-- k in (..) of texts -/
theorem HO_in_tup (ok : c.Ok) {xs : List Nat} {yss : List (List Nat)} (q : Q (.bool (decide (xs ∈ yss))) σ) : HO2 c σ (compareOp .In) (.str xs) (.tup (strsV yss)) Q R := by
  intro u1 u2 tm s r
  obtain ⟨m, mu, fz, fr, w⟩ := r
  obtain ⟨a, vs, n, rfl, g1, e1⟩ := tup_at ok w (.head _)
  obtain ⟨t, rfl⟩ := is_str (w.tm (u1, _) (.tail _ (.head _)))
  have w0 := w.pop (tm' := tm) fun p hp => .tail _ (.tail _ hp)
  refine in_tuple_strs ⟨_, g1, rfl, n, rfl⟩ (strs_are e1) ?_
  rw [any_str]
  exact val_step0 w0.rel (fun _ => .bool _) q
end
theorem weak_locd {l : Loc} {hp : List (Addr × AO)} {σ : St} (k : List (Addr × AO)) (h : ∀ p ∈ l, p ∈ σ.loc) (nd : (l.map (·.1)).Nodup) (e : σ.hp = k ++ hp) : Weak ⟨l, hp⟩ σ :=
  ⟨h, nd, by
    rw [e]
    clear e
    induction k with
    | nil => exact .refl _
    | cons _ _ ih => exact .drop ih⟩
end Mine
end
section
open PySem PySem.W PySem.Calls PyProof.Rows PySem.SeqAt
set_option autoImplicit false
set_option maxRecDepth 100000
namespace Mine
section
variable {c : Cx} {σ : St} {R : RPost} {Q : Post}
theorem list_keep {h h' : Heap} {l : Addr} {its : Array Value} (hl : h.IsList l its) (k : ∀ b o, h.get? b = some o → h'.get? b = some o) : h'.IsList l its := by
  obtain ⟨o, ho, r⟩ := hl
  exact ⟨o, k _ _ ho, r⟩
/-- the truth of a list that was there -/
theorem HB_list0 (ok : c.Ok) {l : Addr} {vs : List Value} {Q : Bool → St → Prop} (hl : c.h0.IsList l vs.toArray) (hz : vs.length < 1000) (q : Q (decide (vs ≠ [])) σ) : HB c σ truthy (.ref l) Q R := by
  intro u tm s r
  obtain ⟨m, mu, fz, fr, w⟩ := r
  cases is_ref w.is
  have w0 := w.pop (tm' := tm) fun p hp => .tail _ hp
  refine wpAny_truthy_list (list_keep hl (w.stays ok)) (by rw [List.size_toArray]; omega) ?_
  have e : (!vs.toArray.isEmpty) = decide (vs ≠ []) := by cases vs <;> simp
  rw [e]
  exact ⟨σ, w0.tok.rel, q⟩
theorem ints_at {vs : List Value} {ns : List Int} (h : IntsAre vs ns) : ∀ {i : Nat} {k : Int}, ns[i]? = some k → ∃ t, vs[i]? = some (.int k t) := by
  induction h with
  | nil => intro i k h; simp at h
  | cons n t _ ih =>
    intro i k h
    cases i with
    | zero => simp at h; subst h; exact ⟨t, rfl⟩
    | succ i => exact ih (by simpa using h)
theorem HO_item0 (ok : c.Ok) {value slice : Expr} {l : Addr} {vs : List Value} {ns : List Int} {i k : Int} (hs : ∀ o i, subscripted slice false o i = operate [o, i] (getItem o i)) (hl : c.h0.IsList l vs.toArray) (hi : IntsAre vs ns) (h0 : 0 ≤ i) (hf : i < 2 ^ 20) (hk : ns[i.toNat]? = some k) (q : Q (.int k) σ) :
    HO2 c σ (subscriptTail value slice) (.ref l) (.int i) Q R := by
  intro u1 u2 tm s r
  obtain ⟨m, mu, fz, fr, w⟩ := r
  obtain ⟨t2, rfl⟩ := is_int w.is
  cases is_ref (w.tm (u1, .ref l) (.tail _ (.head _)))
  have hl' := list_keep hl (w.stays ok)
  obtain ⟨t, hv⟩ := ints_at hi hk
  refine tail_any hl'.typeIs slot_list_getitem.lookup (wpAny_getItem_list hl' h0 (by omega) (by simpa using hv) ?_) (hs _ _)
  exact ⟨_, σ, ((w.pop (tm' := tm) fun p hp => .tail _ (.tail _ hp)).push (.int _ _)).rel, q⟩
theorem HO_item_lst (ok : c.Ok) {value slice : Expr} {y z : V} {xs : List V} {i : Int} (hs : ∀ o i, subscripted slice false o i = operate [o, i] (getItem o i)) (hy : LstOf σ y xs) (h0 : 0 ≤ i) (hf : i < 2 ^ 20) (hk : xs[i.toNat]? = some z) (q : Q z σ) :
    HO2 c σ (subscriptTail value slice) y (.int i) Q R := by
  intro u1 u2 tm s r
  obtain ⟨m, mu, fz, fr, w⟩ := r
  obtain ⟨t2, rfl⟩ := is_int w.is
  obtain ⟨a, vs, n, rfl, g1, e1⟩ := lst_at ok w (.tail _ (.head _)) hy
  obtain ⟨v, hv, hi⟩ := are_at e1 hk
  have hl : s.heap.IsList a vs.toArray := ⟨_, g1, rfl, n, rfl⟩
  refine tail_any hl.typeIs slot_list_getitem.lookup (wpAny_getItem_list hl h0 (by omega) (by simpa using hv) ?_) (hs _ _)
  exact ⟨_, σ, ((w.pop (tm' := tm) fun p hp => .tail _ (.tail _ hp)).push hi).rel, q⟩
/-- two lists of the same data are equal -/
theorem HO_eq_deep (ok : c.Ok) {n : Nat} (hu : c.A.units + 1 + n < cLine) {y z : V} {xs : List V} (hd : ∀ x ∈ xs, Deep n x) (hy : LstOf σ y xs) (hz : LstOf σ z xs) (q : Q (.bool true) σ) : HO2 c σ (compareOp .Eq) y z Q R := by
  intro u1 u2 tm s r
  obtain ⟨m, mu, fz, fr, w⟩ := r
  obtain ⟨b, us, k, rfl, g2, e2⟩ := lst_at ok w (.head _) hz
  obtain ⟨a, vs, n1, rfl, g1, e1⟩ := lst_at ok w (.tail _ (.head _)) hy
  have w0 := w.pop (tm' := tm) fun p hp => .tail _ (.tail _ hp)
  have hr : ∀ a o, rdOf c.h0 fz a o → s.heap.get? a = some o := fun a o h => by
    rcases h with h | h
    · exact (w.nw (a, o) (by simp [h])).1
    · exact w.stays ok _ _ h
  have h := RcAt.lists (A := c.A) (e := fun _ => true) (show s.heap.IsList a vs.toArray from ⟨_, g1, rfl, n1, rfl⟩) (show s.heap.IsList b us.toArray from ⟨_, g2, rfl, k, rfl⟩) (by simp [are_len e1, are_len e2]) (by omega) fun j h1 h2 => by
    have hj : j < xs.length := by rw [← are_len e1]; simpa using h1
    obtain ⟨v', hv, i1⟩ := are_at e1 (List.getElem?_eq_getElem hj)
    obtain ⟨u', hu', i2⟩ := are_at e2 (List.getElem?_eq_getElem hj)
    rw [List.getElem_toArray, List.getElem_toArray, (List.getElem?_eq_some_iff.mp hv).2, (List.getElem?_eq_some_iff.mp hu').2]
    exact eq_deep n (hd _ (List.getElem_mem hj)) hr i1 i2 (by rw [PyProof.Rows.units_in1]; omega)
  rw [allTrue_range] at h
  exact h _ _ _ _ (val_step0 w0.rel (fun _ => .bool _) q)
/-- ''.join(..) -/
theorem HO_join (ok : c.Ok) {y : V} {yss : List (List Nat)} (h : LstOf σ y (strsV yss)) (hl : (yss.map (·.length)).sum ≤ 100000) (q : Q (.str yss.flatten) σ) : HOs c σ (fun us => call (.builtin "str.join") us) [.str [], y] Q R := by
  intro us tm s r hlen
  obtain ⟨u1, u2, rfl⟩ : ∃ u1 u2, us = [u1, u2] := by
    match us, hlen with
    | [a, b], _ => exact ⟨a, b, rfl⟩
  obtain ⟨m, mu, fz, fr, w⟩ := r
  obtain ⟨t, rfl⟩ := is_str (w.tm (u1, .str []) (.head _))
  have w0 := w.pop (tm' := (u2, y) :: tm) fun p hp => .tail _ hp
  exact join_X ok h hl w0.rel fun v s' r' => ⟨_, σ, r', q⟩
end
end Mine
end
section
open PySem PySem.W PySem.Calls PyProof.Rows PyProof.Rows.LCg
set_option autoImplicit false
set_option maxRecDepth 100000
namespace Mine
theorem off1_mem {D : Addr} : ∀ {l : List (Addr × Obj)}, Off1 D l → ∀ p ∈ l, p.1 ≠ D
  | [], _, _, h => nomatch h
  | _ :: _, x, p, h => by
    rcases List.mem_cons.mp h with rfl | h
    · exact x.1
    · exact off1_mem x.2 p h
theorem ints_get {vs : List Value} {ns : List Int} (h : IntsAre vs ns) : ∀ {i : Nat} {v : Value}, vs[i]? = some v → ∃ k t, v = .int k t := by
  induction h with
  | nil => intro i k h; simp at h
  | cons n t _ ih =>
    intro i v h
    cases i with
    | zero => simp at h; exact ⟨n, t, h.symm⟩
    | succ i => exact ih (by simpa using h)
/-- what an element of the comprehension gives -/
def EltOk (c : Cx) (scope : Scope) (x : Str) (elt : Expr) (parts : List (List Nat)) : Prop :=
  ∀ k t C m₂ s' (E' : Value → Shared → Prop) (Q' : Value → Shared → Prop), s'.heap.Ns C m₂ → m₂ x = some (.int k t) → (∀ b o, c.h0.get? b = some o → s'.heap.get? b = some o) → (∀ p u tk, p ∈ parts → Q' (.str ⟨p.toArray⟩ u) { s' with toks := tk }) →
    wpAny (model c.prog c.w) c.A (eval elt (compEnvC scope [] C c.env)) Q' E' s'
theorem comp_rest {c : Cx} {scope : Scope} {x : Str} {elt : Expr} {parts : List (List Nat)} (ok : c.Ok) (he : EltOk c scope x elt parts) {m : Str → Option Value} {s₂ : Shared} {ax : Addr} {its : Array Value} {n : Nat} {ks : List Int} (hi : IntsAre its.toList ks) {news : List (Addr × Obj)}
    (hm : (ax, ({ cls := .type "list", data := .seq its n } : Obj)) ∈ news) {Fin : List Value → List (Addr × Obj) → Prop} (hF : ∀ ys pss, (∀ rd, Are rd ys (strsV pss)) → (∀ p ∈ pss, p ∈ parts) → pss.length = its.size → Fin ys news) :
    ∀ k i ys pss, i + k = its.size → (∀ rd, Are rd ys (strsV pss)) → (∀ p ∈ pss, p ∈ parts) → pss.length = i →
      CompRest c.prog c.w c.A c.g c.L m c.env elt x scope [] s₂ (SrcAt c.g ax its) (fun i v => its[i]? = some v) Fin k i ys news
  | 0, i, ys, pss, h1, h2, h3, h4 => CompRest.zero (hF ys pss h2 h3 (by omega))
  | k + 1, i, ys, pss, h1, h2, h3, h4 => CompRest.succ fun v I oI C oC D m₂ h tk E' hP hO hx F N off ne => by
    obtain ⟨kk, t, rfl⟩ := ints_get hi (i := i) (v := v) (by simpa using hP)
    refine he kk t C m₂ _ _ _ (hO.ns (N (C, oC) (by simp)).1) hx (fun b o e => F.keep _ _ (ok.stays b o e)) fun p u tk' hp => ?_
    refine CompEnd.intro F N news (fun p hp => hp) off (.inr ⟨_, hm, rfl, _, rfl⟩) ?_
    refine comp_rest ok he hi hm hF k (i + 1) _ (pss ++ [p]) (by omega) (fun rd => ?_) (fun p' hp' => ?_) (by simp [h4])
    · show Are rd _ ((pss ++ [p]).map .str)
      rw [List.map_append]
      exact are_app (h2 rd) (.cons (mk_str _ _) .nil)
    · rcases List.mem_append.mp hp' with h | h
      · exact h3 _ h
      · rw [List.mem_singleton.mp h]; exact hp
theorem HE_scomp {c : Cx} {σ : St} {Q : Post} {R : RPost} (ok : c.Ok) (hn : c.A.handled = none) {sn : String} {l : Addr} {vs : List Value} {ns : List Int} (hl : c.h0.IsList l vs.toArray) (hi : IntsAre vs ns) (hz : vs.length < 100) (hloc : (sn, V.ref l) ∈ σ.loc)
    (hk : c.cs.kind = .function) (hsx : c.env.kindOf (Str.ofString sn) = some .local) (hsd : (Str.ofString sn == ("__debug__" : Str)) = false)
    {lo up : Int} {k1 k2 : Nat} {q1 q2 p1 p2 p3 px pos : Pos} {elt : Expr} {x : Str} {scope : Scope} {parts : List (List Nat)}
    (hclos : closureFor scope c.env = pure []) (hcell : ∀ y ∈ scope.names, y.2 ≠ .cell) (hkind : scope.kind = .function)
    (hnames : ∀ y ∈ scope.names, y.2 = .local → scope.names.lookup y.1 = some .local) (hx : scope.names.lookup x = some .local)
    (hs : ∀ z, foldedSetIterable (.Subscript (.Name (Str.ofString sn) p1) (.Slice (some (.Constant (.int lo) k1 q1)) (some (.Constant (.int up) k2 q2)) none p2) p3) c.env z = pure z)
    (he : EltOk c scope x elt parts) (q : ∀ pss, (∀ p ∈ pss, p ∈ parts) → pss.length ≤ vs.length → Q (.lst (strsV pss)) σ) :
    HE c σ (.ListComp elt [⟨.Name x px, .Subscript (.Name (Str.ofString sn) p1) (.Slice (some (.Constant (.int lo) k1 q1)) (some (.Constant (.int up) k2 q2)) none p2) p3, [], 0⟩] scope pos) Q R := by
  intro tm s r
  obtain ⟨m, mu, fz, fr, w⟩ := r
  obtain ⟨u, hu, hiu⟩ := w.loc _ hloc
  cases is_ref hiu
  have hl' := list_keep hl (w.stays ok)
  refine ListComp_U w.fr hclos hcell hkind hnames hx ?_ hs
  refine Subscript_ (ld w.fr hu (wpAny_Slice ?_) hk hsx hsd)
  rw [evalPart_some, evalPart_some]
  refine wpAny_Constant_int (k := k1) (pos := q1) (wpAny_Constant_int (k := k2) (pos := q2) ?_)
  rw [evalPart_none]
  refine wpAny_pure ?_
  refine slice_list (s := { s with toks := s.toks + 1 + 1 }) (lo := some lo) (hi := some up) w.fr w.nw hl' ?_ ?_ (fun h' F' N' => ?_) (by rfl) (fun _ => rfl) (by rw [List.size_toArray, show sizeLine = 2 ^ 24 from rfl]; omega)
  · exact .int _ _
  · exact .int _ _
  have hpk := hi.pick (some lo) (some up) none
  have hsz := slicePick_size_le vs.toArray (some lo) (some up) none
  have hsz : (slicePick vs.toArray (some lo) (some up) none).size ≤ vs.length := by simpa using hsz
  refine .inl ⟨_, _, _, rfl, hn, F', N', .inr ⟨_, .head _, rfl, _, rfl⟩, by rw [show sizeLine = 2 ^ 24 from rfl]; omega, fun s₂ ⟨g, e⟩ => ?_⟩
  subst e
  refine comp_rest ok he hpk (.head _) (fun ys pss h1 h2 h3 => ?_) _ 0 [] [] (by simp) (fun _ => .nil) (fun _ h => nomatch h) rfl
  intro D h tk F N o1
  have hoff := off1_mem o1
  have w2 := w.froze (h' := h) (k := tk) (D := D) (o := lst ys) F (fun p hp => N p (by
    rcases List.mem_cons.mp hp with rfl | hp
    · exact .head _
    · exact .tail _ (.tail _ hp))) fun q hq => hoff q (.tail _ hq)
  exact ⟨_, σ, (w2.push (.lst (.inl (.head _)) (h1 _))).rel, q pss h2 (by omega)⟩
end Mine
end
section
open PySem PySem.W PyProof.Rows
set_option maxRecDepth 100000 in
set_option maxHeartbeats 8000000 in
open_top hd for PySem.Challenge.rw_fc0190_01
end
section
open PySem PySem.W PySem.Calls PyProof.Rows
set_option maxRecDepth 100000
set_option maxHeartbeats 1000000
namespace Mine

noncomputable abbrev KK (c : Cx) : Frag := hd.heap_39 c.w.params
/-- all that is fixed in a frame -/
structure Fx (c : Cx) (k : Nat) : Prop where
  ok : c.Ok
  room : Room c k
  K : (KK c).In c.h0
  g : ∃ mg mb, c.h0.Ns mainGlobals mg ∧ c.h0.Ns builtinsNs mb ∧ ∀ x : Str, x ≠ "__name__" → mb x = bootBuiltins x
  lim : c.h0.NoLimit

theorem Fx.glob {c : Cx} {k : Nat} (F : Fx c k) {x : String} {v : Value} (e : nsIn (KK c) mainGlobals (Str.ofString x) = some (some v)) : Gb c.h0 x v := by
  obtain ⟨mg, mb, hg, hb, hx⟩ := F.g
  exact ⟨mg, hg, mg_of F.K hg e⟩

theorem mg_none {K : Frag} {h : Heap} {mg : Str → Option Value} {n : Str} (X : K.In h) (G : h.Ns mainGlobals mg) (e : nsIn K mainGlobals n = some none) : mg n = none := by
  obtain ⟨o, es, ep, ho, hd, _, hf⟩ := G
  unfold nsIn at e
  split at e
  · rename_i c d es' n' sl q
    have := X _ _ q
    rw [ho] at this
    cases this
    cases hd
    split at e
    · cases e
    · rename_i en
      rw [← hf]
      unfold nsFind findBy
      rw [← Array.find?_toList, en]
      rfl
  · cases e
theorem Fx.blt {c : Cx} {k : Nat} (F : Fx c k) {x : String} {v : Value} (e : nsIn (KK c) mainGlobals (Str.ofString x) = some none) (hv : bootBuiltins (Str.ofString x) = some v) (hn : Str.ofString x ≠ "__name__") : Bt c.h0 x v := by
  obtain ⟨mg, mb, hg, hb, hx⟩ := F.g
  exact ⟨mg, mb, hg, mg_none F.K hg e, hb, (hx _ hn).trans hv⟩
/-- the facts of a frame that is entered -/
theorem Fx.inner {c c' : Cx} {k : Nat} (F : Fx c (k + 1)) (ok : c'.Ok) (room : Room c' k) (e1 : c'.w = c.w) (e2 : c'.h0 = c.h0) {h1 h2 : Option Value} (_e3 : h1 = h2) : Fx c' k := by
  refine ⟨ok, room, ?_, ?_, ?_⟩
  · rw [e2]; show (hd.heap_39 c'.w.params).In _; rw [e1]; exact F.K
  · rw [e2]; exact F.g
  · rw [e2]; exact F.lim

section
variable {c : Cx} {k : Nat} {σ : St} {R : RPost} {S : Scope}
theorem E_loc {x : String} {pos : Pos} {v : V} {Q : Post} (F : Fx c k) (hS : c.cs = S) (hl : (x, v) ∈ σ.loc) (q : Q v σ) (hx : S.names.lookup (Str.ofString x) = some .local) (hd : (Str.ofString x == ("__debug__" : Str)) = false) : HE c σ (.Name (Str.ofString x) pos) Q R :=
  HE_local hl q F.ok.fn (by show c.cs.names.lookup _ = _; rw [hS]; exact hx) hd
theorem E_glob {x : String} {pos : Pos} {v : Value} {y : V} {Q : Post} (F : Fx c k) (hS : c.cs = S) (hg : nsIn (KK c) mainGlobals (Str.ofString x) = some (some v)) (hi : Is (rdOf c.h0 []) v y) (q : Q y σ) (hx : S.names.lookup (Str.ofString x) = some .globalImplicit) (hd : (Str.ofString x == ("__debug__" : Str)) = false) : HE c σ (.Name (Str.ofString x) pos) Q R :=
  HE_global F.ok (F.glob hg) hi q (by show c.cs.names.lookup _ = _; rw [hS]; exact hx) hd
theorem E_blt {x : String} {pos : Pos} {v : Value} {Q : Post} (F : Fx c k) (hS : c.cs = S) (e : nsIn (KK c) mainGlobals (Str.ofString x) = some none) (hv : bootBuiltins (Str.ofString x) = some v) (hn : Str.ofString x ≠ "__name__") (q : Q (.oth v) σ) (hx : S.names.lookup (Str.ofString x) = some .globalImplicit)
    (hd : (Str.ofString x == ("__debug__" : Str)) = false) : HE c σ (.Name (Str.ofString x) pos) Q R :=
  HE_builtin F.ok (F.blt e hv hn) q (by show c.cs.names.lookup _ = _; rw [hS]; exact hx) hd
theorem A_name {x : String} {pos : Pos} {y : V} {l : Loc} {Q : St → Prop} (F : Fx c k) (hS : c.cs = S) (hn : SetN x y σ.loc l) (q : Q ⟨l, σ.hp⟩) (hx : S.names.lookup (Str.ofString x) = some .local) : HA c σ (.Name (Str.ofString x) pos) y Q R :=
  HA_name hn F.ok.fn (by show c.cs.names.lookup _ = _; rw [hS]; exact hx) q
theorem S_aug {x : String} {npos : Pos} {op : Operator} {value : Expr} {pos : Pos} {u : V} {Q : Fl → St → Prop} (F : Fx c k) (hS : c.cs = S) (hl : (x, u) ∈ σ.loc) (h : HE c σ value (fun y σ₁ => HO2 c σ₁ (inplaceOp op) u y (fun z σ₂ => ∃ l, SetN x z σ₂.loc l ∧ Q .next ⟨l, σ₂.hp⟩) R) R)
    (hx : S.names.lookup (Str.ofString x) = some .local) : HS1 c σ (.AugAssign (.Name (Str.ofString x) npos) op value pos) Q R :=
  HS1_aug hl h F.ok.fn (by show c.cs.names.lookup _ = _; rw [hS]; exact hx)
theorem n_len {P : Params} : nsIn (hd.heap_39 P) mainGlobals (Str.ofString "len") = some none := by kernel_rfl
theorem bb_len : bootBuiltins (Str.ofString "len") = some (.builtin "len") := by kernel_rfl
theorem E_len {args : List Expr} {p pos : Pos} {Q : Post} (F : Fx c k) (hS : c.cs = S) (hx : S.names.lookup (Str.ofString "len") = some .globalImplicit) (hs : starEach args c.env = args.map fun e => (false, eval e c.env))
    (h : HX c σ args (fun xs σ₂ => HOs c σ₂ (fun us => call (.builtin "len") us) xs Q R) R) : HE c σ (.Call (.Name (Str.ofString "len") p) args [] pos) Q R :=
  HE_call F.ok hs rfl (E_blt F hS n_len bb_len (by decide) ⟨_, rfl, keeps_builtin _, h⟩ hx (by decide))
theorem HS1_assign1 {t value : Expr} {pos : Pos} {Q : Fl → St → Prop} (h : HE c σ value (fun x σ₁ => HA c σ₁ t x (Q .next) R) R)
    (hs : swapsWithSole [t] value pos.line c.env = pure false) (hw : swappedStores [t] value c.env = pure none) (he : (assignEach [t] c.env).map (·.2) = [assign t c.env]) : HS1 c σ (.Assign [t] value pos) Q R :=
  HS1_assign (h.mono (fun _ _ q => he ▸ HAs_one q) fun _ _ q => q) hs hw
/-- what holds behind a statement, whatever way it went -/
theorem HS_cut {st : Stmt} {rest : List Stmt} {Q : Fl → St → Prop} (P : St → Prop) (h1 : HS1 c σ st (fun F σ' => F = .next ∧ P σ') R) (h2 : ∀ σ', P σ' → HS c σ' rest Q R) : HS c σ (st :: rest) Q R :=
  HS_cons (h1.mono (fun F σ' ⟨e, p⟩ => by subst e; exact h2 σ' p) fun _ _ q => q)
theorem E_find {o : Expr} {args : List Expr} {apos pos : Pos} {Q : Post} (F : Fx c k) (hbase : attributeBase o (Str.ofString "find") c.env (eval o c.env) = eval o c.env) (hs : starEach args c.env = args.map fun e => (false, eval e c.env)) (hn : args.length < 20) (hline : (apos.endLine == pos.line) = true)
    (h : HE c σ o (fun y σ₁ => ∃ xs, y = .str xs ∧ HX c σ₁ args (fun zs σ₂ => HOs c σ₂ (fun us => call (.builtin "str.find") us) (.str xs :: zs) Q R) R) R) : HE c σ (.Call (.Attribute o (Str.ofString "find") apos) args [] pos) Q R :=
  HE_methB F.ok PySem.F.plainAttrs_str PySem.F.slot_str_find PySem.F.type_str_find hbase hs hn hline (h.mono (fun y σ' ⟨xs, e, q⟩ => by subst e; exact ⟨hasT_str, q⟩) fun _ _ q => q)
theorem S_expr {e : Expr} {pos : Pos} {Q : Fl → St → Prop} (_F : Fx c k) (hS : c.cs = S) (h : HE c σ e (fun x σ' => x = .none ∧ Q .next σ') R) (hk : ∀ cn L a cd, interactive (envOf cn S L a cd) = false) (hs : swapsWith e none pos.line c.env = pure false) : HS1 c σ (.Expr e pos) Q R :=
  HS1_expr h (by show interactive (envOf c.cn c.cs c.L c.a c.cd) = false; rw [hS]; exact hk _ _ _ _) hs
theorem HE_neg {x : Expr} {pos : Pos} {Q : Post} (h : HE c σ x (fun z σ₁ => ∃ a, z = .int a ∧ Q (.int (-a)) σ₁) R) : HE c σ (.UnaryOp .USub x pos) Q R := by
  intro tm s r
  show wpAny _ _ (do let v ← eval x c.env; standAt pos; holding [v] (unaryOp .USub v)) _ _ s
  refine wpAny_bind (wpAny_mono (h tm s r) (fun v s₁ ⟨z, σ₁, r₁, a, e, q⟩ => wpAny_bind (wpAny_standAt (wpAny_holding ?_))) fun _ _ q => q)
  subst e
  obtain ⟨_, hi⟩ := r₁.at0
  obtain ⟨t, rfl⟩ := is_int hi
  exact P.neg_int (val_step r₁.drop1 (fun _ => .int _ _) q)
end

theorem HE_strc {c : Cx} {σ : St} {Q : Post} {R : RPost} {x : Str} {l : List Nat} {k : Nat} {pos : Pos} (h : x.cps.toList = l) (q : Q (.str l) σ) : HE c σ (.Constant (.str x) k pos) Q R := HE_str (h ▸ q)
theorem cs0 : (Str.ofString " ").cps.toList = [32] := rfl
theorem cs1 : (Str.ofString "\t").cps.toList = [9] := rfl
theorem cs2 : (Str.ofString "#").cps.toList = [35] := rfl
theorem cs3 : (Str.ofString "\n").cps.toList = [10] := rfl
theorem cs4 : (Str.ofString "\r\n").cps.toList = [13, 10] := rfl
theorem cs5 : (Str.ofString "").cps.toList = [] := rfl
theorem cs6 : (Str.ofString "\\").cps.toList = [92] := rfl
theorem cs7 : (Str.ofString "u").cps.toList = [117] := rfl
theorem cs8 : (Str.ofString "U").cps.toList = [85] := rfl
theorem cs9 : (Str.ofString ".").cps.toList = [46] := rfl
theorem cs10 : (Str.ofString ":").cps.toList = [58] := rfl
theorem cs11 : (Str.ofString "_").cps.toList = [95] := rfl
theorem cs12 : (Str.ofString "%").cps.toList = [37] := rfl
def nums : List Nat := [48, 49, 50, 51, 52, 53, 54, 55, 56, 57, 45, 43, 46]
def sName : List Nat := [110, 97, 109, 101]
def sText : List Nat := [116, 101, 120, 116]
def sSign : List Nat := [115, 105, 103, 110]
def sRefused : List Nat := [114, 101, 102, 117, 115, 101, 100]
def sEnd : List Nat := [101, 110, 100]
theorem cs13 : (Str.ofString "0123456789-+.").cps.toList = nums := rfl
theorem cs14 : (Str.ofString "name").cps.toList = sName := rfl
theorem cs15 : (Str.ofString "text").cps.toList = sText := rfl
theorem cs16 : (Str.ofString "sign").cps.toList = sSign := rfl
theorem cs17 : (Str.ofString "refused").cps.toList = sRefused := rfl
theorem cs18 : (Str.ofString "end").cps.toList = sEnd := rfl
theorem cs19 : (Str.ofString "a").cps.toList = [97] := rfl
theorem cs20 : (Str.ofString "this").cps.toList = [116, 104, 105, 115] := rfl
theorem cs21 : (Str.ofString "bind").cps.toList = [98, 105, 110, 100] := rfl
theorem cs22 : (Str.ofString "has").cps.toList = [104, 97, 115] := rfl
theorem cs23 : (Str.ofString "is").cps.toList = [105, 115] := rfl
theorem cs24 : (Str.ofString "of").cps.toList = [111, 102] := rfl
theorem cs25 : (Str.ofString "true").cps.toList = [116, 114, 117, 101] := rfl
theorem cs26 : (Str.ofString "false").cps.toList = [102, 97, 108, 115, 101] := rfl
theorem cs27 : (Str.ofString "\"").cps.toList = [34] := rfl
theorem cs28 : (Str.ofString "'").cps.toList = [39] := rfl
theorem cs29 : (Str.ofString "\"'").cps.toList = [34, 39] := rfl

theorem weak_loc {l : Loc} {hp : List (Addr × AO)} {σ : St} (h : ∀ p ∈ l, p ∈ σ.loc) (nd : (l.map (·.1)).Nodup) (e : σ.hp = hp) : Weak ⟨l, hp⟩ σ := ⟨h, nd, e ▸ .refl _⟩
theorem memL_nil {σ : Loc} : ∀ p ∈ ([] : Loc), p ∈ σ := fun _ h => nomatch h
theorem memL_cons {a : String × V} {l σ : Loc} (h : a ∈ σ) (h' : ∀ p ∈ l, p ∈ σ) : ∀ p ∈ a :: l, p ∈ σ := fun _ hp => (List.mem_cons.mp hp).elim (fun e => e ▸ h) (h' _)

theorem ex_l {P : Loc → Prop} {x : String} {z : V} {l0 l : Loc} (h : SetN x z l0 l) (q : P l) : ∃ l, SetN x z l0 l ∧ P l := ⟨l, h, q⟩
-- words of the walk
local macro_rules | `(tactic| walk_at "cs") => `(tactic| with_reducible first | exact cs0 | exact cs1 | exact cs2 | exact cs3 | exact cs4 | exact cs5 | exact cs6 | exact cs7 | exact cs8 | exact cs9 | exact cs10 | exact cs11 | exact cs12 | exact cs13 | exact cs14 | exact cs15 | exact cs16 | exact cs17 | exact cs18 | exact cs19 | exact cs20 | exact cs21 | exact cs22 | exact cs23 | exact cs24 | exact cs25 | exact cs26 | exact cs27 | exact cs28 | exact cs29)
local macro_rules | `(tactic| walk_at "mem") => `(tactic| first | exact List.Mem.head _ | (apply List.Mem.tail; walk_at "mem"))
local macro_rules | `(tactic| walk_at "sub") => `(tactic| first | exact memL_nil | (refine memL_cons (by walk_at "mem") ?_; walk_at "sub"))
local macro_rules | `(tactic| walk_at "setl") => `(tactic| first | exact SetL.head | (apply SetL.tail; walk_at "setl"))
local macro_rules | `(tactic| walk_at "nd") => `(tactic| (simp only [List.map_cons, List.map_nil]; decide))
local macro_rules | `(tactic| walk_at "setn") => `(tactic| first | (refine Or.inl ?_; walk_at "setl"; done) | exact Or.inr ⟨rfl, by walk_at "nd"⟩)
local macro_rules | `(tactic| walk_at "ex") => `(tactic| (refine' ex_l ?n ?_; (case n => walk_at "setn")))
local macro_rules | `(tactic| walk_at "uph") => `(tactic| first | assumption | exact UpH.head | (apply UpH.tail; walk_at "uph"))
local macro_rules | `(tactic| walk_at "sz") => `(tactic| first | omega | (simp only [List.length_append, List.length_cons, List.length_nil]; omega) | decide)
local macro_rules | `(tactic| walk_at "weak") => `(tactic| exact weak_loc (by walk_at "sub") (by walk_at "nd") rfl)
local macro_rules | `(tactic| walk_at "E") => `(tactic| first
  | with_reducible refine' HE_int ?_
  | ((with_reducible refine' HE_strc ?h ?_); (case h => walk_at "cs"))
  | with_reducible refine' HE_bool ?_
  | with_reducible refine' HE_none ?_
  | ((with_reducible refine' E_loc ?f ?s ?m ?_ ?x ?d); (case f => assumption); (case s => assumption); (case m => walk_at "mem"); (case x => rfl); (case d => rfl))
  | with_reducible refine' HE_bin ?_
  | ((with_reducible refine' HE_cmp ?_ ?h); (case h => rfl))
  | with_reducible refine' HE_slice ?_
  | with_reducible refine' HE_sub ?_
  | with_reducible refine' HE_ifexp ?_
  | with_reducible refine' HE_not ?_
  | with_reducible refine' HE_neg ?_)
local macro_rules | `(tactic| walk_at "len") => `(tactic| (
  (with_reducible refine' E_len ?f ?s ?x ?a ?_); (case f => assumption); (case s => assumption); (case x => rfl); (case a => rfl)))
local macro_rules | `(tactic| walk_at "O") => `(tactic| with_reducible first
  | refine' HO_add_int ?_ | refine' HO_sub_int ?_ | refine' HO_iadd_int ?_
  | refine' HO_eq_int ?_ | refine' HO_ne_int ?_ | refine' HO_lt_int ?_ | refine' HO_le_int ?_ | refine' HO_gt_int ?_ | refine' HO_ge_int ?_
  | refine' HO_eq_str ?_ | refine' HO_ne_str ?_ | refine' HO_in_one ?_ | refine' HO_notin_one ?_
  | (refine' HO_add_str ?h ?_; (case h => walk_at "sz")) | (refine' HO_iadd_str ?h ?_; (case h => walk_at "sz")))
local macro_rules | `(tactic| walk_at "W1") => `(tactic| first
  | walk_at "E" | walk_at "O" | with_reducible refine' HX_nil ?_ | with_reducible refine' HX_cons ?_ | with_reducible refine' HB_bool ?_
  | ((with_reducible refine' HT_cmp ?_ ?h); (case h => rfl)) | with_reducible refine' HT_not ?_ | with_reducible refine' HT_bool ?_
  | ((with_reducible refine' A_name ?f ?s ?n ?_ ?x); (case f => assumption); (case s => assumption); (case n => walk_at "setn"); (case x => rfl))
  | ((with_reducible refine' HO_len_str ?h ?_); (case h => walk_at "sz")))
local macro_rules | `(tactic| walk_at "W") => `(tactic| repeat walk_at "W1")
local macro_rules | `(tactic| walk_at "S") => `(tactic| ((refine' HS_cons ?_); first
  | ((with_reducible refine' HS1_assign1 ?_ ?a ?b ?d); (case a => rfl); (case b => rfl); (case d => rfl))
  | with_reducible refine' HS1_ret ?_
  | with_reducible refine' HS1_if ?_
  | ((with_reducible refine' S_aug ?f ?s ?m ?_ ?x); (case f => assumption); (case s => assumption); (case m => walk_at "mem"); (case x => rfl))
  | ((with_reducible refine' HS1_augItem ?_ ?a); (case a => (intro _ _ _; rfl)))
  | with_reducible refine' HS1_break ?_
  | with_reducible refine' HS1_continue ?_
  | ((with_reducible refine' S_expr ?f ?s ?_ ?a ?b); (case f => assumption); (case s => assumption); (case a => (intro _ _ _ _; rfl)); (case b => rfl))))
-- end of words

def blanks : List Nat → Nat
  | [] => 0
  | x :: xs => if x = 32 ∨ x = 9 then blanks xs + 1 else 0
/-- the place of the line end that may stand behind the blanks -/
def eolAt (t : List Nat) (p : Nat) : Nat :=
  if t[p]? = some 35 then (findI 10 t p).toNat else if cut t p (p + 2) = [13, 10] then p + 1 else p
def skipF (t : List Nat) : Nat → Nat → Nat → Nat → Int × Nat × Nat
  | 0, _, n, o => (-1, n, o)
  | f + 1, i, n, o =>
    if i < t.length then
      if i + blanks (t.drop i) = t.length then (-1, n, o) else
      if t[eolAt t (i + blanks (t.drop i))]? ≠ some 10 then ((i + blanks (t.drop i) : Nat), n, o)
      else skipF t f (eolAt t (i + blanks (t.drop i)) + 1) (n + 1) (eolAt t (i + blanks (t.drop i)) + 1)
    else (-1, n, o)
def skipR (t : List Nat) (i n o : Nat) : Int × Nat × Nat := skipF t (t.length + 1 - i) i n o

/-- a text as the law has it: not long, a line end last -/
structure Txt0 (t : List Nat) : Prop where
  small : t.length < 2000
  last : t[t.length - 1]? = some 10
  pos : 0 < t.length

theorem blanks_le : ∀ t : List Nat, blanks t ≤ t.length
  | [] => Nat.le_refl _
  | x :: xs => by
    unfold blanks
    split
    · have := blanks_le xs; simp; omega
    · omega
theorem blanks_step {t : List Nat} {i k : Nat} (h : t[i]? = some k) : blanks (t.drop i) = if k = 32 ∨ k = 9 then blanks (t.drop (i + 1)) + 1 else 0 := by
  obtain ⟨hi, e⟩ := List.getElem?_eq_some_iff.mp h
  rw [List.drop_eq_getElem_cons hi, e]
  rfl

theorem cut_one {t : List Nat} {j k : Nat} (h : t[j]? = some k) : cut t j (j + 1) = [k] := by
  obtain ⟨hj, e⟩ := List.getElem?_eq_some_iff.mp h
  unfold cut
  rw [List.drop_eq_getElem_cons hj, e, show j + 1 - j = 1 from by omega]
  rfl
theorem cut_end {t : List Nat} {j n : Nat} (h : t.length ≤ j) : cut t j n = [] := by
  unfold cut
  rw [List.drop_of_length_le h]; simp
theorem cut_two {t : List Nat} {j k : Nat} (h : t[j]? = some k) : cut t j (j + 2) = k :: cut t (j + 1) (j + 2) := by
  obtain ⟨hj, e⟩ := List.getElem?_eq_some_iff.mp h
  unfold cut
  rw [List.drop_eq_getElem_cons hj, e, show j + 2 - j = 2 from by omega, show j + 2 - (j + 1) = 1 from by omega]
  rfl
theorem get_of_lt {t : List Nat} {j : Nat} (h : j < t.length) : ∃ k, t[j]? = some k := ⟨t[j], List.getElem?_eq_getElem h⟩
theorem nat1 (j : Nat) : ((j : Int) + 1).toNat = j + 1 := by omega
theorem nat2 (j : Nat) : ((j : Int) + 2).toNat = j + 2 := by omega
theorem nat0 (j : Nat) : ((j : Int)).toNat = j := by omega
theorem findI_found {t : List Nat} (ht : Txt0 t) {p : Nat} (hp : p < t.length) : ∃ e, findI 10 t p = (e : Nat) ∧ p ≤ e ∧ t[e]? = some 10 := by
  unfold findI
  cases h : findC 10 (t.drop p) p with
  | none =>
    have := findC_none h (t.length - 1 - p)
    rw [List.getElem?_drop, show p + (t.length - 1 - p) = t.length - 1 from by omega] at this
    exact absurd ht.last this
  | some e =>
    obtain ⟨h1, h2, _⟩ := findC_some h
    rw [List.getElem?_drop, show p + (e - p) = e from by omega] at h2
    exact ⟨e, rfl, h1, h2⟩

theorem eolAt_ge {t : List Nat} (ht : Txt0 t) {p : Nat} (hp : p < t.length) : p ≤ eolAt t p ∧ (t[eolAt t p]? = some 10 ∨ eolAt t p = p) := by
  obtain ⟨e, he, h1, h2⟩ := findI_found ht hp
  unfold eolAt
  split
  · rw [he, nat0]; exact ⟨h1, .inl h2⟩
  · split
    · rename_i h
      refine ⟨by omega, .inl ?_⟩
      have hp1 : p + 1 < t.length := by
        obtain ⟨k, hk⟩ := get_of_lt hp
        rcases Nat.lt_or_ge (p + 1) t.length with h3 | h3
        · exact h3
        · rw [cut_two hk, cut_end h3] at h; simp at h
      obtain ⟨k, hk⟩ := get_of_lt hp
      obtain ⟨k', hk'⟩ := get_of_lt hp1
      rw [cut_two hk, cut_one hk'] at h
      rw [hk']; simp at h; rw [h.2]
    · exact ⟨Nat.le_refl _, .inr rfl⟩
theorem skipF_fuel {t : List Nat} (ht : Txt0 t) : ∀ (f f' i n o : Nat), t.length < f + i → t.length < f' + i → skipF t f i n o = skipF t f' i n o
  | 0, 0, _, _, _, _, _ => rfl
  | 0, f' + 1, i, n, o, h, _ => by
    unfold skipF
    rw [if_neg (by omega)]
  | f + 1, 0, i, n, o, _, h => by
    unfold skipF
    rw [if_neg (by omega)]
  | f + 1, f' + 1, i, n, o, h, h' => by
    unfold skipF
    split
    · rename_i hi
      split
      · rfl
      · rename_i hne
        split
        · rfl
        · have hle := blanks_le (t.drop i)
          have hl : i + blanks (t.drop i) < t.length := by simp at hle; omega
          have := (eolAt_ge ht hl).1
          exact skipF_fuel ht f f' _ _ _ (by omega) (by omega)
    · rfl

theorem call_skip {c : Cx} (F : Fx c 1) {σ : St} {t : List Nat} {Q : Post} {R : RPost} {a : Addr} {i n o : Nat} (ht : Txt0 t) (hi : i ≤ t.length) (H : AO → List (Addr × AO)) (hH : ∀ x y, UpH (H x) (a, x) y (H y)) (hσ : σ.hp = H (.list [.int n, .int o]))
    (q : Q (.int (skipR t i n o).1) ⟨σ.loc, H (.list [.int (skipR t i n o).2.1, .int (skipR t i n o).2.2])⟩) : HOs c σ (fun us => call (.ref 182) us) [.str t, .int i, .ref a] Q R := by
  intro us tm s r hlen
  refine call_X F.ok (k := 0) F.room (xs := ["text", "at", "seen"]) (F.K _ _ rfl) (codeRec_of F.K (by rfl)) F.lim ?_ (by decide) ?_ r hlen ?_ (by rfl) (by rfl) (by rfl) (by decide)
  · intro s _
    obtain ⟨u1, u2, u3, rfl⟩ : ∃ u1 u2 u3, us = [u1, u2, u3] := by
      match us, hlen with
      | [a, b, d], _ => exact ⟨a, b, d, rfl⟩
    exact BindsTo.of_eq rfl
  · decide
  · intro c' ok' room' e1 e2 e3 hS e5
    have F' := F.inner ok' room' e2 e3 e5
    simp only [List.zip_cons_cons, List.zip_nil_right]
    have hz := ht.small
    refine HS_cons ?_
    refine HS1_while ok' (fun m σ' => ∃ i' n' o' : Nat, i' ≤ t.length ∧ m = t.length + 1 - i' ∧ skipF t (t.length + 1 - i') i' n' o' = skipR t i n o ∧ σ' = ⟨[("text", .str t), ("at", .int i'), ("seen", .ref a)], H (.list [.int n', .int o'])⟩) _ ?_
      (σ₀ := ⟨[("text", .str t), ("at", .int i), ("seen", .ref a)], H (.list [.int n, .int o])⟩) (weak_loc (fun _ h => h) (by walk_at "nd") hσ) ⟨i, n, o, hi, rfl, rfl, rfl⟩
    rintro m _ ⟨i', n', o', hi', rfl, hR, rfl⟩
    walk_at "W"
    walk_at "len"
    walk_at "W"
    refine ⟨fun hb => ?_, fun hb => ?_⟩
    · have hlt : i' < t.length := by simpa using hb
      walk_at "S"
      walk_at "W"
      refine HS_cons ?_
      refine HS1_while ok' (fun m σ' => ∃ j : Nat, m = t.length - j ∧ i' ≤ j ∧ j ≤ t.length ∧ j + blanks (t.drop j) = i' + blanks (t.drop i') ∧ σ' = ⟨[("text", .str t), ("at", .int i'), ("stop", .int j), ("seen", .ref a)], H (.list [.int n', .int o'])⟩) _ ?_ (by walk_at "weak") ⟨i', rfl, Nat.le_refl _, hi', rfl, rfl⟩
      · rintro m _ ⟨j, rfl, hij, hj, hbl, rfl⟩
        walk_at "W"
        refine ⟨_, _, _, rfl, rfl, rfl, by omega, by omega, by walk_at "sz", ?_⟩
        rw [nat0, nat1]
        refine HE_lst rfl ?_
        walk_at "W"
        refine ⟨by decide, ?_⟩
        refine HO_in_lst ok' (yss := [[32], [9]]) (.inl rfl) ?_
        walk_at "W"
        refine ⟨fun hb => ?_, fun hb => ?_⟩
        · have hm : cut t j (j + 1) ∈ [[32], [9]] := by simpa using hb
          have hlt2 : j < t.length := by
            rcases Nat.lt_or_ge j t.length with h | h
            · exact h
            · rw [cut_end h] at hm; simp at hm
          obtain ⟨k, hk⟩ := get_of_lt hlt2
          rw [cut_one hk] at hm
          have hk' : k = 32 ∨ k = 9 := by simpa using hm
          walk_at "S"
          walk_at "W"
          walk_at "ex"
          refine HS_nil ?_
          refine ⟨_, _, ?_, ?_, j + 1, rfl, by omega, by omega, ?_, rfl⟩
          · omega
          · walk_at "weak"
          · rw [blanks_step hk, if_pos hk'] at hbl; omega
        · have hm : cut t j (j + 1) ∉ [[32], [9]] := by simpa using hb
          have hp : j = i' + blanks (t.drop i') := by
            rcases Nat.lt_or_ge j t.length with h | h
            · obtain ⟨k, hk⟩ := get_of_lt h
              rw [cut_one hk] at hm
              have hk' : ¬ (k = 32 ∨ k = 9) := by simpa using hm
              rw [blanks_step hk, if_neg hk'] at hbl; omega
            · rw [List.drop_of_length_le h] at hbl; simp only [blanks] at hbl; omega
          refine HS_nil ?_
          subst hp
          generalize hpp : i' + blanks (t.drop i') = p at *
          have hsk : skipF t (t.length + 1 - i') i' n' o' = if p = t.length then ((-1 : Int), n', o') else if t[eolAt t p]? ≠ some 10 then (((p : Nat) : Int), n', o') else skipF t (t.length - i') (eolAt t p + 1) (n' + 1) (eolAt t p + 1) := by
            obtain ⟨f, e⟩ : ∃ f, t.length + 1 - i' = f + 1 := ⟨t.length - i', by omega⟩
            rw [e, show t.length - i' = f from by omega]
            conv => lhs; unfold skipF
            rw [if_pos hlt, hpp]
          walk_at "S"
          walk_at "W"
          walk_at "len"
          walk_at "W"
          refine ⟨fun hb => ?_, fun hb => ?_⟩
          · have hpe : p = t.length := by have := of_decide_eq_true hb; omega
            walk_at "S"
            walk_at "W"
            refine ⟨_, rfl, ?_⟩
            rw [hsk, if_pos hpe] at hR
            rw [← hR] at q
            exact q
          · have hpe : p ≠ t.length := by have := of_decide_eq_false hb; omega
            have hpl : p < t.length := by omega
            obtain ⟨k, hk⟩ := get_of_lt hpl
            rw [if_neg hpe] at hsk
            refine HS_nil ?_
            refine HS_cut (fun σ' => ∃ e : Nat, e = eolAt t p ∧ e < t.length ∧ σ' = ⟨[("text", .str t), ("at", .int i'), ("stop", .int e), ("seen", .ref a)], H (.list [.int n', .int o'])⟩) ?_ ?_
            · refine HS1_if ?_
              walk_at "W"
              refine HO_item_str (fun _ _ => rfl) (by omega) (by omega) (by rw [nat0]; exact hk) ?_
              walk_at "W"
              refine ⟨fun hb => ?_, fun hb => ?_⟩
              · have hk5 : k = 35 := by simpa using hb
                obtain ⟨e, he, hpe2, he10⟩ := findI_found ht hpl
                walk_at "S"
                refine E_find F' (by rfl) (by rfl) (by decide) (by decide) ?_
                walk_at "W"
                refine ⟨_, rfl, ?_⟩
                walk_at "W"
                refine HO_find2 (by omega) ?_
                rw [nat0, he]
                walk_at "W"
                refine HS_nil ?_
                refine ⟨rfl, e, ?_, (List.getElem?_eq_some_iff.mp he10).1, rfl⟩
                unfold eolAt
                rw [if_pos (by rw [hk, hk5]), he, nat0]
              · have hk5 : k ≠ 35 := by simpa using hb
                walk_at "S"
                walk_at "W"
                refine ⟨_, _, _, rfl, rfl, rfl, by omega, by omega, by walk_at "sz", ?_⟩
                rw [nat0, nat2]
                walk_at "W"
                refine ⟨fun hb => ?_, fun hb => ?_⟩
                · have hcr : cut t p (p + 2) = [13, 10] := of_decide_eq_true hb
                  have hp1 : p + 1 < t.length := by
                    rcases Nat.lt_or_ge (p + 1) t.length with h | h
                    · exact h
                    · rw [cut_two hk, cut_end h] at hcr; simp at hcr
                  walk_at "S"
                  walk_at "W"
                  walk_at "ex"
                  refine HS_nil ?_
                  refine HS_nil ?_
                  refine ⟨rfl, p + 1, ?_, hp1, rfl⟩
                  unfold eolAt
                  rw [if_neg (by rw [hk]; simpa using hk5), if_pos hcr]
                · have hcr : cut t p (p + 2) ≠ [13, 10] := of_decide_eq_false hb
                  refine HS_nil ?_
                  refine HS_nil ?_
                  refine ⟨rfl, p, ?_, hpl, rfl⟩
                  unfold eolAt
                  rw [if_neg (by rw [hk]; simpa using hk5), if_neg hcr]
            · rintro _ ⟨e, he, hel, rfl⟩
              obtain ⟨hpe2, hor⟩ := eolAt_ge ht hpl
              rw [← he] at hpe2 hor
              obtain ⟨k2, hk2⟩ := get_of_lt hel
              rw [← he, hk2] at hsk
              walk_at "S"
              walk_at "W"
              refine HO_item_str (fun _ _ => rfl) (by omega) (by omega) (by rw [nat0]; exact hk2) ?_
              walk_at "W"
              refine ⟨fun hb => ?_, fun hb => ?_⟩
              · have h10 : k2 ≠ 10 := by simpa using hb
                rw [if_pos (by simpa using h10)] at hsk
                walk_at "S"
                walk_at "W"
                have hep : e = p := hor.resolve_left (by rw [hk2]; simpa using h10)
                rw [hsk, ← hep] at hR
                rw [← hR] at q
                exact q
              · have h10 : k2 = 10 := by simpa using hb
                rw [if_neg (by simpa using h10)] at hsk
                refine HS_nil ?_
                walk_at "S"
                walk_at "W"
                walk_at "S"
                walk_at "W"
                refine ⟨a, _, 0, _, rfl, rfl, (hH _ (.list [])).mem, by omega, by simp, by simp, rfl, ?_⟩
                walk_at "W"
                refine ⟨_, _, rfl, hH _ _, ?_⟩
                walk_at "S"
                walk_at "W"
                refine HA_item ?_
                walk_at "W"
                refine ⟨a, _, 1, _, rfl, rfl, hH _ _, by omega, by simp, by simp, ?_⟩
                refine HS_nil ?_
                refine ⟨t.length + 1 - (e + 1), ⟨[("text", .str t), ("at", .int ((e + 1 : Nat) : Int)), ("seen", .ref a)], H (.list [.int ((n' + 1 : Nat) : Int), .int ((e + 1 : Nat) : Int)])⟩, by omega, by walk_at "weak", e + 1, n' + 1, e + 1, by omega, rfl, ?_, rfl⟩
                rw [hsk] at hR
                rw [← hR]
                exact skipF_fuel ht _ _ _ _ _ (by omega) (by omega)
    · have hge : ¬ i' < t.length := by simpa using hb
      refine HS_nil ?_
      walk_at "S"
      walk_at "W"
      refine ⟨_, rfl, ?_⟩
      have : skipR t i n o = (-1, n', o') := by
        rw [← hR]
        obtain ⟨f, e⟩ : ∃ f, t.length + 1 - i' = f + 1 := ⟨t.length - i', by omega⟩
        rw [e]; unfold skipF; rw [if_neg hge]
      rw [this] at q
      exact q
def shortF (k : Nat) : Option Nat :=
  if k = 97 then some 7 else if k = 98 then some 8 else if k = 102 then some 12 else if k = 114 then some 13 else if k = 116 then some 9 else if k = 118 then some 11 else if k = 110 then some 10 else if k = 92 then some 92 else if k = 34 then some 34 else if k = 39 then some 39 else none
def figs : List Nat := [48, 49, 50, 51, 52, 53, 54, 55, 56, 57, 97, 98, 99, 100, 101, 102, 65, 66, 67, 68, 69, 70]
def figV (k : Nat) : Int := if findI k figs 0 < 16 then findI k figs 0 else findI k figs 0 - 6
def hexV (xs : List Nat) : Int := xs.foldl (fun v k => 16 * v + figV k) 0
def runL (q : Nat) : Nat → List Nat → Nat
  | n + 1, x :: xs => if x = q then runL q n xs + 1 else 0
  | _, _ => 0
abbrev SR := Option (List Nat) × Nat × Nat × Nat
def escF (t : List Nat) (sz at_ : Nat) (told : List Nat) (n o : Nat) (go : Nat → List Nat → SR) : SR :=
  if t.length < at_ + 2 + sz then (none, at_, n, o) else
  if hexV (cut t (at_ + 2) (at_ + 2 + sz)) > 1114111 then (none, at_, n, o) else go (at_ + 2 + sz) (told ++ [(hexV (cut t (at_ + 2) (at_ + 2 + sz))).toNat])
def escS (k : Nat) : Nat := if k = 117 then 4 else if k = 85 then 8 else 0
def strStep (t : List Nat) (q : Nat) (long : Bool) (go : Nat → List Nat → Nat → Nat → SR) (at_ k : Nat) (told : List Nat) (n o : Nat) : SR :=
  if k = q then
    if long = false then (some told, at_ + 1, n, o)
    else if 2 < runL q 5 (t.drop at_) then (some (told ++ List.replicate (runL q 5 (t.drop at_) - 3) q), at_ + runL q 5 (t.drop at_), n, o)
    else go (at_ + 1) (told ++ [k]) n o
  else if k = 92 then
    match shortF (t[at_ + 1]?.getD 0) with
    | some v => go (at_ + 2 + escS (t[at_ + 1]?.getD 0)) (told ++ [v]) n o
    | none =>
      if escS (t[at_ + 1]?.getD 0) = 0 then (none, at_, n, o) else
      escF t (escS (t[at_ + 1]?.getD 0)) at_ told n o fun a b => go a b n o
  else if k = 13 ∨ k = 10 then
    if long = false then (none, at_, n, o) else go (at_ + 1) (told ++ [k]) (n + 1) (at_ + 1)
  else go (at_ + 1) (told ++ [k]) n o
def strF (t : List Nat) (q : Nat) (long : Bool) : Nat → Nat → List Nat → Nat → Nat → SR
  | 0, at_, _, n, o => (none, at_, n, o)
  | f + 1, at_, told, n, o =>
    match t[at_]? with
    | none => (none, at_, n, o)
    | some k => strStep t q long (strF t q long f) at_ k told n o
def strG (t : List Nat) (q : Nat) (long : Bool) (i : Nat) (told : List Nat) (n o : Nat) : SR := strF t q long (t.length + 1 - i) i told n o
theorem strStep_congr {t : List Nat} {q : Nat} {long : Bool} {go go' : Nat → List Nat → Nat → Nat → SR} {i : Nat} (h : ∀ a, i < a → go a = go' a) (k : Nat) (told : List Nat) (n o : Nat) : strStep t q long go i k told n o = strStep t q long go' i k told n o := by
  unfold strStep escF
  simp only [h (i + 1) (by omega), h (i + 2 + escS (t[i + 1]?.getD 0)) (by omega)]
theorem strF_fuel {t : List Nat} {q : Nat} {long : Bool} : ∀ (f f' i : Nat) (told : List Nat) (n o : Nat), t.length < f + i → t.length < f' + i → strF t q long f i told n o = strF t q long f' i told n o
  | 0, 0, _, _, _, _, _, _ => rfl
  | 0, f' + 1, i, _, _, _, h, _ => by unfold strF; rw [List.getElem?_eq_none (show t.length ≤ i by omega)]
  | f + 1, 0, i, _, _, _, _, h => by unfold strF; rw [List.getElem?_eq_none (show t.length ≤ i by omega)]
  | f + 1, f' + 1, i, told, n, o, h, h' => by
    have key : ∀ a, i < a → strF t q long f a = strF t q long f' a := fun a ha => by
      funext x y z; exact strF_fuel f f' a x y z (by omega) (by omega)
    unfold strF
    cases t[i]? with
    | none => rfl
    | some k => exact strStep_congr key _ _ _ _
theorem strG_step {t : List Nat} {q : Nat} {long : Bool} {i k : Nat} {told : List Nat} {n o : Nat} (h : t[i]? = some k) : strG t q long i told n o = strStep t q long (strG t q long) i k told n o := by
  have hi := (List.getElem?_eq_some_iff.mp h).1
  obtain ⟨f, e⟩ : ∃ f, t.length + 1 - i = f + 1 := ⟨t.length - i, by omega⟩
  have key : ∀ a, i < a → strF t q long f a = strG t q long a := fun a ha => by
    funext x y z; exact strF_fuel f (t.length + 1 - a) a x y z (by omega) (by omega)
  show strF t q long (t.length + 1 - i) i told n o = _
  rw [e]
  unfold strF
  rw [h]
  exact strStep_congr key _ _ _ _
theorem strG_end {t : List Nat} {q : Nat} {long : Bool} {i : Nat} {told : List Nat} {n o : Nat} (h : t.length ≤ i) : strG t q long i told n o = (none, i, n, o) := by
  unfold strG
  cases t.length + 1 - i with
  | zero => rfl
  | succ f => unfold strF; rw [List.getElem?_eq_none h]
def optV : Option (List Nat) → V
  | none => .none
  | some xs => .str xs

structure Txt1 (t : List Nat) : Prop extends Txt0 t where
  u4 : ∀ p : Nat, t[p]? = some 92 → t[p + 1]? = some 117 → t.length < p + 6 ∨ cut t (p + 2) (p + 6) = [48, 48, 69, 57] ∨ cut t (p + 2) (p + 6) = [48, 48, 52, 49]
  u8 : ∀ p : Nat, t[p]? = some 92 → t[p + 1]? = some 85 → t.length < p + 10 ∨ cut t (p + 2) (p + 10) = [48, 48, 48, 49, 70, 54, 48, 48] ∨ cut t (p + 2) (p + 10) = [48, 48, 49, 49, 48, 48, 48, 48]
  dot : ∀ p : Nat, t[p]? = some 92 → t[p + 1]? ≠ some 46
  fit : ∀ k ∈ t, k < 128 ∨ k = 233

theorem Txt0.next {t : List Nat} (h : Txt0 t) {i k : Nat} (e : t[i]? = some k) (hk : k ≠ 10) : ∃ k', t[i + 1]? = some k' := by
  have hi := (List.getElem?_eq_some_iff.mp e).1
  refine get_of_lt ?_
  rcases Nat.lt_or_ge (i + 1) t.length with h1 | h1
  · exact h1
  · have : i = t.length - 1 := by omega
    subst this
    rw [h.last] at e
    cases e
    exact absurd rfl hk

def tabF : List (Nat × Nat) → Nat → Option Nat
  | [], _ => none
  | p :: r, k => if k = p.1 then some p.2 else tabF r k
inductive DE (w : World) : List DictEntry → List (Nat × Nat) → Prop
  | nil : DE w [] []
  | cons {j v : Nat} {x y : Str} {t u : Tok} {h : Int} {es : List DictEntry} {l : List (Nat × Nat)} : x = ⟨#[j]⟩ → y = ⟨#[v]⟩ → h = hashStr w x → DE w es l → DE w ({ hash := h, key := .str x t, val := .str y u } :: es) ((j, v) :: l)
theorem isOf_one {k j : Nat} {t : Tok} : Value.isStrOf ⟨#[k]⟩ (.str ⟨#[j]⟩ t) = decide (k = j) := by
  unfold Value.isStrOf
  by_cases h : k = j
  · subst h; simp
  · have : ((⟨#[j]⟩ : Str) == ⟨#[k]⟩) = false := by
      rw [beq_eq_false_iff_ne]; intro e; apply h; have := congrArg (fun z : Str => z.cps.toList) e; simp at this; exact this.symm
    first | (simp [h]; done) | (simp [h, this]; done) | (rw [decide_eq_false h]; exact this) | (simp [h]; intro e; apply h; exact e.symm)
theorem DE.find {w : World} {es : List DictEntry} {l : List (Nat × Nat)} (h : DE w es l) (k : Nat) : match tabF l k with | some v => ∃ t, (es.find? fun e => Value.isStrOf ⟨#[k]⟩ e.key).map (·.val) = some (.str ⟨#[v]⟩ t) | none => (es.find? fun e => Value.isStrOf ⟨#[k]⟩ e.key).map (·.val) = none := by
  induction h with
  | nil => rfl
  | @cons j v x y t u hh es l e1 e2 e3 _ ih =>
    subst e1; subst e2
    unfold tabF
    rw [List.find?_cons, isOf_one]
    by_cases h : k = j
    · rw [if_pos h, decide_eq_true h]; exact ⟨u, rfl⟩
    · rw [if_neg h, decide_eq_false h]; exact ih
theorem DE.keys {prog : Program} {w : World} {es : List DictEntry} {l : List (Nat × Nat)} (h : DE w es l) : ∀ e ∈ es, ∃ k, (PySem.strKind prog w).is k e.key = true ∧ e.hash = (PySem.strKind prog w).hash k := by
  induction h with
  | nil => intro e h; cases h
  | cons e1 e2 e3 _ ih =>
    intro e h
    rcases List.mem_cons.mp h with rfl | h
    · exact ⟨_, strKind_is _ _ _ _, e3⟩
    · exact ih e h
theorem short_tab (k : Nat) : shortF k = tabF [(97, 7), (98, 8), (102, 12), (114, 13), (116, 9), (118, 11), (110, 10), (92, 92), (34, 34), (39, 39)] k := rfl

theorem short_dict {c : Cx} {k : Nat} (F : Fx c k) : SignDict c 168 shortF := by
  refine ⟨by decide, ?_⟩
  obtain ⟨o, es, ep, ho, he, hd, hde⟩ : ∃ o es ep, (KK c).lookup 168 = some o ∧ o.ExactDict ∧ o.data = .dict es ep ∧ DE c.w es.toList [(97, 7), (98, 8), (102, 12), (114, 13), (116, 9), (118, 11), (110, 10), (92, 92), (34, 34), (39, 39)] :=
    ⟨_, _, _, rfl, ⟨rfl, rfl, rfl⟩, rfl, .cons rfl rfl rfl (.cons rfl rfl rfl (.cons rfl rfl rfl (.cons rfl rfl rfl (.cons rfl rfl rfl (.cons rfl rfl rfl (.cons rfl rfl rfl (.cons rfl rfl rfl (.cons rfl rfl rfl (.cons rfl rfl rfl .nil)))))))))⟩
  refine ⟨findBy (PySem.strKind c.prog c.w).is es, ⟨o, es, ep, F.K _ _ ho, he, hd, fun e h => hde.keys e (Array.mem_toList_iff.mpr h), fun _ => rfl⟩, fun k => ?_⟩
  rw [short_tab]
  have := hde.find k
  unfold findBy
  rw [← Array.find?_toList]
  exact this

theorem runL_le (q : Nat) : ∀ (n : Nat) (xs : List Nat), runL q n xs ≤ n ∧ runL q n xs ≤ xs.length
  | 0, _ => by simp [runL]
  | n + 1, [] => by simp [runL]
  | n + 1, x :: xs => by
    unfold runL
    have := runL_le q n xs
    split <;> simp <;> omega
/-- where the run of signs ends: below its lid the next is none -/
theorem runL_at {q : Nat} : ∀ (n : Nat) (xs : List Nat) (r : Nat), r ≤ n → (∀ j, j < r → xs[j]? = some q) → (r < n → xs[r]? ≠ some q) → runL q n xs = r
  | 0, _, r, h, _, _ => by simp [runL]; omega
  | n + 1, [], r, _, h2, _ => by
    cases r with
    | zero => rfl
    | succ r => have := h2 0 (by omega); simp at this
  | n + 1, x :: xs, r, h1, h2, h3 => by
    unfold runL
    cases r with
    | zero =>
      have : x ≠ q := by simpa using h3 (by omega)
      rw [if_neg this]
    | succ r =>
      have : x = q := by simpa using h2 0 (by omega)
      rw [if_pos this, runL_at n xs r (by omega) (fun j hj => by simpa using h2 (j + 1) (by omega)) (fun hr => by simpa using h3 (by omega))]

section
variable {c : Cx} {k : Nat} {σ : St} {R : RPost} {S : Scope}
theorem n_chr {P : Params} : nsIn (hd.heap_39 P) mainGlobals (Str.ofString "chr") = some none := by kernel_rfl
theorem bb_chr : bootBuiltins (Str.ofString "chr") = some (.builtin "chr") := by kernel_rfl
theorem E_chr {args : List Expr} {p pos : Pos} {Q : Post} (F : Fx c k) (hS : c.cs = S) (hx : S.names.lookup (Str.ofString "chr") = some .globalImplicit) (hs : starEach args c.env = args.map fun e => (false, eval e c.env))
    (h : HX c σ args (fun xs σ₂ => HOs c σ₂ (fun us => call (.builtin "chr") us) xs Q R) R) : HE c σ (.Call (.Name (Str.ofString "chr") p) args [] pos) Q R :=
  HE_call F.ok hs rfl (E_blt F hS n_chr bb_chr (by decide) ⟨_, rfl, keeps_builtin _, h⟩ hx (by decide))
theorem n_short {P : Params} : nsIn (hd.heap_39 P) mainGlobals (Str.ofString "_law_short") = some (some (.ref 168)) := by kernel_rfl
theorem n_figs {P : Params} : nsIn (hd.heap_39 P) mainGlobals (Str.ofString "_law_figures") = some (some (.str (Str.ofString "0123456789abcdefABCDEF") 769)) := by kernel_rfl
theorem E_short {pos : Pos} {Q : Post} (F : Fx c k) (hS : c.cs = S) (hx : S.names.lookup (Str.ofString "_law_short") = some .globalImplicit) (q : Q (.ref 168) σ) : HE c σ (.Name (Str.ofString "_law_short") pos) Q R :=
  E_glob F hS n_short (.ref _) q hx (by decide)
theorem E_figs {pos : Pos} {Q : Post} (F : Fx c k) (hS : c.cs = S) (hx : S.names.lookup (Str.ofString "_law_figures") = some .globalImplicit) (q : Q (.str figs) σ) : HE c σ (.Name (Str.ofString "_law_figures") pos) Q R := by
  exact E_glob F hS n_figs (.str (Str.ofString "0123456789abcdefABCDEF") 769) q hx (by decide)
end
theorem mul16 (a : Int) : IntMulOk 16 a := .of_left (by decide)
/-- what holds behind a statement, the rest forgotten -/
theorem HS_cutw {c : Cx} {σ : St} {R : RPost} {st : Stmt} {rest : List Stmt} {Q : Fl → St → Prop} (P : St → Prop) (h1 : HS1 c σ st (fun F σ' => match F with | .next => ∃ σ₁, Weak σ₁ σ' ∧ P σ₁ | F => Q F σ') R) (h2 : ∀ σ', P σ' → HS c σ' rest Q R) : HS c σ (st :: rest) Q R :=
  HS_cons (h1.mono (fun F σ' q => match F, q with
    | .next, ⟨σ₁, hw, p⟩ => HS.weak hw (h2 σ₁ p)
    | .brk, q => q
    | .cont, q => q
    | .ret _, q => q) fun _ _ q => q)
theorem short_esc {e v : Nat} (h : shortF e = some v) : escS e = 0 := by
  unfold escS
  split
  · rename_i e1; subst e1; cases h
  · split
    · rename_i e1; subst e1; cases h
    · rfl
theorem runL_pos {q : Nat} {xs : List Nat} (h : xs[0]? = some q) (n : Nat) : 1 ≤ runL q (n + 1) xs := by
  cases xs with
  | nil => simp at h
  | cons x xs =>
    have : x = q := by simpa using h
    unfold runL; rw [if_pos this]; omega
theorem esc_cut {t : List Nat} (ht : Txt1 t) {i e : Nat} (hk : t[i]? = some 92) (he : t[i + 1]? = some e) (h0 : ¬ escS e = 0) (hl : ¬ t.length < i + 2 + escS e) :
    (e = 117 ∧ escS e = 4 ∧ (cut t (i + 2) (i + 2 + 4) = [48, 48, 69, 57] ∨ cut t (i + 2) (i + 2 + 4) = [48, 48, 52, 49])) ∨
    (e = 85 ∧ escS e = 8 ∧ (cut t (i + 2) (i + 2 + 8) = [48, 48, 48, 49, 70, 54, 48, 48] ∨ cut t (i + 2) (i + 2 + 8) = [48, 48, 49, 49, 48, 48, 48, 48])) := by
  by_cases h1 : e = 117
  · have h4 : escS e = 4 := by unfold escS; rw [if_pos h1]
    rw [h4] at hl
    subst h1
    exact .inl ⟨rfl, h4, (ht.u4 i hk he).resolve_left hl⟩
  · by_cases h2 : e = 85
    · have h4 : escS e = 8 := by unfold escS; rw [if_neg h1, if_pos h2]
      rw [h4] at hl
      subst h2
      exact .inr ⟨rfl, h4, (ht.u8 i hk he).resolve_left hl⟩
    · exact absurd (by unfold escS; rw [if_neg h1, if_neg h2]) h0
theorem call_string {c : Cx} (F : Fx c 1) (hn : c.A.handled = none) {σ : St} {t : List Nat} {Q : Post} {R : RPost} {a : Addr} {i n o q : Nat} {long : Bool} (ht : Txt1 t) (hi : i ≤ t.length) (H : AO → List (Addr × AO)) (hH : ∀ x y, UpH (H x) (a, x) y (H y)) (hσ : σ.hp = H (.list [.int n, .int o]))
    (hq : Q (.tup [optV (strG t q long i [] n o).1, .int (strG t q long i [] n o).2.1]) ⟨σ.loc, H (.list [.int (strG t q long i [] n o).2.2.1, .int (strG t q long i [] n o).2.2.2])⟩) : HOs c σ (fun us => call (.ref 189) us) [.str t, .int i, .str [q], .bool long, .ref a] Q R := by
  intro us tm s r hlen
  refine call_X F.ok (k := 0) F.room (xs := ["text", "at", "quote", "long", "seen"]) (F.K _ _ rfl) (codeRec_of F.K (by rfl)) F.lim ?_ (by decide) ?_ r hlen ?_ (by rfl) (by rfl) (by rfl) (by decide)
  · intro s _
    obtain ⟨u1, u2, u3, u4, u5, rfl⟩ : ∃ u1 u2 u3 u4 u5, us = [u1, u2, u3, u4, u5] := by
      match us, hlen with
      | [a, b, d, e, f], _ => exact ⟨a, b, d, e, f, rfl⟩
    exact BindsTo.of_eq rfl
  · decide
  · intro c' ok' room' e1 e2 e3 hS e5
    have F' := F.inner ok' room' e2 e3 e5
    simp only [List.zip_cons_cons, List.zip_nil_right]
    have hz := ht.small
    walk_at "S"
    walk_at "W"
    refine HS_cons ?_
    refine HS1_while ok' (fun m σ' => ∃ (i' n' o' : Nat) (told : List Nat), i' ≤ t.length ∧ m = t.length + 1 - i' ∧ told.length ≤ i' ∧ strG t q long i' told n' o' = strG t q long i [] n o ∧ σ' = ⟨[("text", .str t), ("at", .int i'), ("quote", .str [q]), ("long", .bool long), ("seen", .ref a), ("told", .str told)], H (.list [.int n', .int o'])⟩) _ ?_
      (σ₀ := ⟨[("text", .str t), ("at", .int i), ("quote", .str [q]), ("long", .bool long), ("seen", .ref a), ("told", .str [])], H (.list [.int n, .int o])⟩) (weak_loc (by walk_at "sub") (by walk_at "nd") hσ) ⟨i, n, o, [], hi, rfl, Nat.zero_le _, rfl, rfl⟩
    rintro m _ ⟨i', n', o', told, hi', rfl, htl, hR, rfl⟩
    walk_at "W"
    walk_at "len"
    walk_at "W"
    refine ⟨fun hb => ?_, fun hb => ?_⟩
    · have hlt : i' < t.length := by simpa using hb
      obtain ⟨k, hk⟩ := get_of_lt hlt
      rw [strG_step hk] at hR
      unfold strStep at hR
      walk_at "S"
      walk_at "W"
      refine HO_item_str (fun _ _ => rfl) (by omega) (by omega) (by rw [nat0]; exact hk) ?_
      walk_at "W"
      refine HS_cons (HS1_if ?_)
      walk_at "W"
      refine ⟨fun hb => ?_, fun hb => ?_⟩
      · have hkq : k = q := by simpa using hb
        subst hkq
        rw [if_pos rfl] at hR
        walk_at "S"
        walk_at "W"
        have hd0 : (t.drop i')[0]? = some k := by rw [List.getElem?_drop]; exact hk
        have hr1 := runL_pos hd0 4
        have hr5 := (runL_le k 5 (t.drop i')).1
        have hrl := (runL_le k 5 (t.drop i')).2
        refine HS_cut (fun σ' => σ' = ⟨[("text", .str t), ("at", .int i'), ("quote", .str [k]), ("long", .bool long), ("seen", .ref a), ("told", .str told), ("sign", .str [k]), ("run", .int (runL k 5 (t.drop i')))], H (.list [.int n', .int o'])⟩) ?_ ?_
        · refine HS1_while ok' (fun m σ' => ∃ r : Nat, m = 5 - r ∧ 1 ≤ r ∧ r ≤ 5 ∧ (∀ j, j < r → (t.drop i')[j]? = some k) ∧ σ' = ⟨[("text", .str t), ("at", .int i'), ("quote", .str [k]), ("long", .bool long), ("seen", .ref a), ("told", .str told), ("sign", .str [k]), ("run", .int r)], H (.list [.int n', .int o'])⟩) _ ?_ (by walk_at "weak") ⟨1, rfl, Nat.le_refl _, by omega, fun j hj => by rw [show j = 0 by omega]; exact hd0, rfl⟩
          rintro m _ ⟨r, rfl, hr1, hr5, hrq, rfl⟩
          walk_at "W"
          refine HAll_and ?_
          walk_at "W"
          refine ⟨fun hb => ?_, fun hb => ?_⟩
          · have hr : r < 5 := by have := of_decide_eq_true hb; omega
            refine HAll_and ?_
            walk_at "W"
            refine ⟨_, _, _, rfl, rfl, rfl, by omega, by omega, by walk_at "sz", ?_⟩
            walk_at "W"
            have e2 : ((i' : Int) + r).toNat = i' + r := by omega
            have e3 : ((i' : Int) + r + 1).toNat = i' + r + 1 := by omega
            rw [e2, e3]
            refine ⟨fun hb => ?_, fun hb => ?_⟩
            · have hm : cut t (i' + r) (i' + r + 1) = [k] := of_decide_eq_true hb
              refine HAll_and_nil ?_
              refine ⟨fun _ => ?_, fun h => nomatch h⟩
              walk_at "S"
              walk_at "W"
              walk_at "ex"
              refine HS_nil ?_
              refine ⟨_, _, ?_, ?_, r + 1, rfl, by omega, by omega, fun j hj => ?_, rfl⟩
              · omega
              · walk_at "weak"
              · rcases Nat.lt_or_ge j r with h | h
                · exact hrq j h
                · rw [show j = r by omega, List.getElem?_drop]
                  rcases Nat.lt_or_ge (i' + r) t.length with h2 | h2
                  · obtain ⟨k2, hk2⟩ := get_of_lt h2
                    rw [cut_one hk2] at hm
                    rw [hk2]; simpa using hm
                  · rw [cut_end h2] at hm; cases hm
            · have hm : cut t (i' + r) (i' + r + 1) ≠ [k] := of_decide_eq_false hb
              refine ⟨fun h => (nomatch h), fun _ => HS_nil ⟨rfl, ?_⟩⟩
              rw [runL_at 5 (t.drop i') r hr5 hrq fun _ h => ?_]
              rw [List.getElem?_drop] at h
              exact hm (cut_one h)
          · have hr : r = 5 := by have : ¬ (r : Int) < 5 := of_decide_eq_false hb; omega
            refine ⟨fun h => (nomatch h), fun _ => HS_nil ⟨rfl, ?_⟩⟩
            rw [runL_at 5 (t.drop i') r hr5 hrq fun h => by omega]
        · rintro _ rfl
          generalize runL k 5 (t.drop i') = r at *
          refine HS_cons (HS1_if ?_)
          walk_at "W"
          refine HT_val ?_ (fun _ => rfl)
          walk_at "W"
          refine ⟨fun hb => ?_, fun hb => ?_⟩
          · have hlg : long = false := by simpa using hb
            rw [if_pos hlg] at hR
            walk_at "S"
            refine HE_tup rfl ?_
            walk_at "W"
            refine ⟨by simp, ?_⟩
            rw [← hR] at hq
            exact hq
          · have hlg : ¬ long = false := by simpa using hb
            rw [if_neg hlg] at hR
            refine HS_nil ?_
            refine HS_cons (HS1_if ?_)
            walk_at "W"
            refine ⟨fun hb => ?_, fun hb => ?_⟩
            · have hr2 : 2 < r := by have := of_decide_eq_true hb; omega
              rw [if_pos hr2] at hR
              walk_at "S"
              refine HE_tup rfl ?_
              walk_at "W"
              have e4 : (r : Int) - 3 = ((r - 3 : Nat) : Int) := by omega
              rw [e4]
              refine HO_mul_str (by omega) ?_
              refine HO_add_str (by simp; omega) ?_
              walk_at "W"
              refine ⟨by simp, ?_⟩
              rw [← hR] at hq
              exact hq
            · have hr2 : ¬ 2 < r := by have := of_decide_eq_false hb; omega
              rw [if_neg hr2] at hR
              refine HS_nil ?_
              walk_at "S"
              walk_at "W"
              walk_at "ex"
              walk_at "S"
              walk_at "W"
              walk_at "ex"
              refine HS_nil ?_
              refine HS_nil ?_
              refine ⟨_, _, ?_, ?_, i' + 1, n', o', told ++ [k], by omega, rfl, by simp; omega, hR, rfl⟩
              · omega
              · walk_at "weak"
      · have hkq : k ≠ q := by simpa using hb
        rw [if_neg hkq] at hR
        walk_at "S"
        walk_at "W"
        refine ⟨fun hb => ?_, fun hb => ?_⟩
        · have hk92 : k = 92 := by simpa using hb
          subst hk92
          rw [if_pos rfl] at hR
          obtain ⟨e, he⟩ := ht.next hk (by decide)
          rw [he] at hR
          simp only [Option.getD_some] at hR
          refine HS_cutw (fun σ' => σ' = ⟨[("text", .str t), ("at", .int i'), ("quote", .str [q]), ("long", .bool long), ("seen", .ref a), ("told", .str told), ("sign", .str [92]), ("size", .int (escS e))], H (.list [.int n', .int o'])⟩) ?_ ?_
          · refine HS1_assign1 ?_ rfl rfl rfl
            walk_at "W"
            refine HO_item_str (fun _ _ => rfl) (by omega) (by omega) (by rw [nat1]; exact he) ?_
            walk_at "W"
            refine ⟨fun hb => ?_, fun hb => ?_⟩
            · have h1 : e = 117 := by simpa using hb
              walk_at "W"
              refine ⟨_, ?_, rfl⟩
              rw [show escS e = 4 by unfold escS; rw [if_pos h1]]
              walk_at "weak"
            · have h1 : e ≠ 117 := by simpa using hb
              walk_at "W"
              refine HO_item_str (fun _ _ => rfl) (by omega) (by omega) (by rw [nat1]; exact he) ?_
              walk_at "W"
              refine ⟨fun hb => ?_, fun hb => ?_⟩
              · have h2 : e = 85 := by simpa using hb
                walk_at "W"
                refine ⟨_, ?_, rfl⟩
                rw [show escS e = 8 by unfold escS; rw [if_neg h1, if_pos h2]]
                walk_at "weak"
              · have h2 : e ≠ 85 := by simpa using hb
                walk_at "W"
                refine ⟨_, ?_, rfl⟩
                rw [show escS e = 0 by unfold escS; rw [if_neg h1, if_neg h2]]
                walk_at "weak"
          · rintro _ rfl
            refine HS_cutw (fun σ' => ∃ told', told'.length ≤ told.length + 1 ∧ i' + 2 + escS e ≤ t.length ∧ strG t q long (i' + 2 + escS e) told' n' o' = strG t q long i [] n o ∧ σ' = ⟨[("text", .str t), ("at", .int i'), ("quote", .str [q]), ("long", .bool long), ("seen", .ref a), ("told", .str told'), ("sign", .str [92]), ("size", .int (escS e))], H (.list [.int n', .int o'])⟩) ?_ ?_
            · refine HS1_if ?_
              refine HT_cmp ?_ rfl
              walk_at "W"
              refine HO_item_str (fun _ _ => rfl) (by omega) (by omega) (by rw [nat1]; exact he) ?_
              refine E_short F' hS rfl ?_
              refine HO_in_dict ok' (short_dict F') ?_
              walk_at "W"
              cases hsh : shortF e with
              | some v =>
                rw [hsh] at hR; dsimp only at hR
                refine ⟨fun _ => ?_, fun h => (nomatch h)⟩
                walk_at "S"
                refine HE_sub ?_
                refine E_short F' hS rfl ?_
                walk_at "W"
                refine HO_item_str (fun _ _ => rfl) (by omega) (by omega) (by rw [nat1]; exact he) ?_
                refine HO_item_dict ok' (short_dict F') hsh (fun _ _ => rfl) ?_
                walk_at "W"
                walk_at "ex"
                refine HS_nil ?_
                refine ⟨_, ?_, told ++ [v], by simp, ?_, hR, rfl⟩
                · walk_at "weak"
                · have := (List.getElem?_eq_some_iff.mp he).1
                  rw [short_esc hsh]; omega
              | none =>
                rw [hsh] at hR; dsimp only at hR
                refine ⟨fun h => (nomatch h), fun _ => ?_⟩
                refine HS_cons (HS1_if ?_)
                refine HT_bool ?_
                refine HAll_or ?_
                walk_at "W"
                refine ⟨fun hb => ?_, fun hb => ?_⟩
                · have h0 : escS e = 0 := by have := of_decide_eq_true hb; omega
                  rw [if_pos h0] at hR
                  refine ⟨fun _ => ?_, fun h => (nomatch h)⟩
                  walk_at "S"
                  refine HE_tup rfl ?_
                  walk_at "W"
                  refine ⟨by simp, ?_⟩
                  rw [← hR] at hq
                  exact hq
                · have h0 : ¬ escS e = 0 := by have := of_decide_eq_false hb; omega
                  rw [if_neg h0] at hR
                  unfold escF at hR
                  refine HAll_or ?_
                  walk_at "W"
                  walk_at "len"
                  walk_at "W"
                  refine ⟨fun hb => ?_, fun hb => ?_⟩
                  · have hl : t.length < i' + 2 + escS e := by have := of_decide_eq_true hb; omega
                    rw [if_pos hl] at hR
                    refine ⟨fun _ => ?_, fun h => (nomatch h)⟩
                    walk_at "S"
                    refine HE_tup rfl ?_
                    walk_at "W"
                    refine ⟨by simp, ?_⟩
                    rw [← hR] at hq
                    exact hq
                  · have hl : ¬ t.length < i' + 2 + escS e := by have := of_decide_eq_false hb; omega
                    rw [if_neg hl] at hR
                    refine HAll_or_nil ?_
                    refine ⟨fun h => (nomatch h), fun _ => ?_⟩
                    walk_at "S"
                    walk_at "W"
                    refine HS_cutw (fun σ' => σ' = ⟨[("text", .str t), ("at", .int i'), ("quote", .str [q]), ("long", .bool long), ("seen", .ref a), ("told", .str told), ("sign", .str [92]), ("size", .int (escS e)), ("value", .int (hexV (cut t (i' + 2) (i' + 2 + escS e))))], H (.list [.int n', .int o'])⟩) ?_ ?_
                    · refine HS1_for_str ok' (e5.trans hn) (fun i σ' => σ' = ⟨[("text", .str t), ("at", .int i'), ("quote", .str [q]), ("long", .bool long), ("seen", .ref a), ("told", .str told), ("sign", .str [92]), ("size", .int (escS e)), ("value", .int (hexV ((cut t (i' + 2) (i' + 2 + escS e)).take i)))], H (.list [.int n', .int o'])⟩) (fun _ => rfl) (fun _ _ => rfl) ?_
                      walk_at "W"
                      refine ⟨_, _, _, rfl, rfl, rfl, by omega, by omega, by walk_at "sz", ?_⟩
                      rw [show ((i' : Int) + 2).toNat = i' + 2 by omega, show ((i' : Int) + 2 + (escS e : Int)).toNat = i' + 2 + escS e by omega]
                      generalize cut t (i' + 2) (i' + 2 + escS e) = xs at *
                      refine' ⟨xs, _, rfl, ?_, rfl, ?_, ?_⟩
                      · walk_at "weak"
                      · rintro i1 k1 _ hx rfl a1 o1
                        walk_at "W"
                        walk_at "S"
                        refine E_find F' rfl rfl (by decide) (by decide) ?_
                        refine E_figs F' hS rfl ?_
                        refine ⟨_, rfl, ?_⟩
                        walk_at "W"
                        refine HO_find1 ?_
                        walk_at "W"
                        walk_at "S"
                        walk_at "W"
                        refine HO_mul_int (mul16 _) ?_
                        walk_at "W"
                        have hstep : ∀ z, z = figV k1 → 16 * hexV (xs.take i1) + z = hexV (xs.take (i1 + 1)) := fun z hz => by
                          rw [List.take_add_one, hx, hz]; simp [hexV]
                        refine ⟨fun hb => ?_, fun hb => ?_⟩
                        · have hf : findI k1 figs 0 < 16 := of_decide_eq_true hb
                          walk_at "W"
                          rw [hstep _ (by unfold figV; rw [if_pos hf])]
                          refine HS_nil ?_
                          refine' ⟨_, ?_, rfl⟩
                          walk_at "weak"
                        · have hf : ¬ findI k1 figs 0 < 16 := of_decide_eq_false hb
                          walk_at "W"
                          rw [hstep _ (by unfold figV; rw [if_neg hf])]
                          refine HS_nil ?_
                          refine' ⟨_, ?_, rfl⟩
                          walk_at "weak"
                      · rintro _ rfl
                        rw [List.take_of_length_le (Nat.le_refl _)]
                        exact ⟨_, by walk_at "weak", rfl⟩
                    · rintro _ rfl
                      walk_at "S"
                      walk_at "W"
                      refine ⟨fun hb => ?_, fun hb => ?_⟩
                      · have hv : hexV (cut t (i' + 2) (i' + 2 + escS e)) > 1114111 := of_decide_eq_true hb
                        rw [if_pos hv] at hR
                        walk_at "S"
                        refine HE_tup rfl ?_
                        walk_at "W"
                        refine ⟨by simp, ?_⟩
                        rw [← hR] at hq
                        exact hq
                      · have hv : ¬ hexV (cut t (i' + 2) (i' + 2 + escS e)) > 1114111 := of_decide_eq_false hb
                        rw [if_neg hv] at hR
                        repeat refine HS_nil ?_
                        walk_at "S"
                        refine E_chr F' hS rfl rfl ?_
                        walk_at "W"
                        refine HO_chr ?_ (by omega) ?_
                        · rcases esc_cut ht hk he h0 hl with ⟨_, h4, hc⟩ | ⟨_, h4, hc⟩
                          · rw [h4]; rcases hc with hc | hc <;> (rw [hc]; decide)
                          · rw [h4]; rcases hc with hc | hc <;> (rw [hc]; decide)
                        walk_at "W"
                        walk_at "ex"
                        repeat refine HS_nil ?_
                        refine ⟨_, ?_, told ++ [(hexV (cut t (i' + 2) (i' + 2 + escS e))).toNat], by simp, ?_, hR, rfl⟩
                        · walk_at "weak"
                        · omega
            · rintro _ ⟨told', htl', hle', hR', rfl⟩
              walk_at "S"
              walk_at "W"
              rw [show (i' : Int) + (2 + (escS e : Int)) = ((i' + 2 + escS e : Nat) : Int) by omega]
              walk_at "ex"
              repeat refine HS_nil ?_
              refine ⟨t.length + 1 - (i' + 2 + escS e), ⟨[("text", .str t), ("at", .int ((i' + 2 + escS e : Nat) : Int)), ("quote", .str [q]), ("long", .bool long), ("seen", .ref a), ("told", .str told')], H (.list [.int n', .int o'])⟩, ?_, ?_, i' + 2 + escS e, n', o', told', ?_, rfl, ?_, hR', rfl⟩
              · omega
              · walk_at "weak"
              · exact hle'
              · omega
        · have hk92 : k ≠ 92 := by simpa using hb
          rw [if_neg hk92] at hR
          refine HS_cons ?_
          refine HS1_if ?_
          refine HT_cmp ?_ rfl
          walk_at "W"
          refine ⟨fun hb => ?_, fun hb => ?_⟩
          · have hnl : k = 13 ∨ k = 10 := by simpa using hb
            rw [if_pos hnl] at hR
            walk_at "S"
            walk_at "W"
            refine HT_val ?_ (fun _ => rfl)
            walk_at "W"
            refine ⟨fun hb => ?_, fun hb => ?_⟩
            · have hlg : long = false := by simpa using hb
              rw [if_pos hlg] at hR
              walk_at "S"
              refine HE_tup rfl ?_
              walk_at "W"
              refine ⟨by simp, ?_⟩
              rw [← hR] at hq
              exact hq
            · have hlg : ¬ long = false := by simpa using hb
              rw [if_neg hlg] at hR
              repeat refine HS_nil ?_
              walk_at "S"
              walk_at "W"
              refine ⟨a, _, 0, _, rfl, rfl, (hH _ (.list [])).mem, by omega, by simp, by simp, rfl, ?_⟩
              walk_at "W"
              refine ⟨_, _, rfl, hH _ _, ?_⟩
              walk_at "S"
              walk_at "W"
              refine HA_item ?_
              walk_at "W"
              refine ⟨a, _, 1, _, rfl, rfl, hH _ _, by omega, by simp, by simp, ?_⟩
              repeat refine HS_nil ?_
              walk_at "S"
              walk_at "W"
              walk_at "ex"
              walk_at "S"
              walk_at "W"
              walk_at "ex"
              repeat refine HS_nil ?_
              refine ⟨t.length + 1 - (i' + 1), ⟨[("text", .str t), ("at", .int ((i' + 1 : Nat) : Int)), ("quote", .str [q]), ("long", .bool long), ("seen", .ref a), ("told", .str (told ++ [k]))], H (.list [.int ((n' + 1 : Nat) : Int), .int ((i' + 1 : Nat) : Int)])⟩, by omega, by walk_at "weak", i' + 1, n' + 1, i' + 1, told ++ [k], by omega, rfl, by simp; omega, hR, rfl⟩
          · have hnl : ¬ (k = 13 ∨ k = 10) := by simpa using hb
            rw [if_neg hnl] at hR
            repeat refine HS_nil ?_
            walk_at "S"
            walk_at "W"
            walk_at "ex"
            walk_at "S"
            walk_at "W"
            walk_at "ex"
            repeat refine HS_nil ?_
            refine ⟨t.length + 1 - (i' + 1), ⟨[("text", .str t), ("at", .int ((i' + 1 : Nat) : Int)), ("quote", .str [q]), ("long", .bool long), ("seen", .ref a), ("told", .str (told ++ [k]))], H (.list [.int n', .int o'])⟩, by omega, by walk_at "weak", i' + 1, n', o', told ++ [k], by omega, rfl, by simp; omega, hR, rfl⟩
    · have hge : t.length ≤ i' := by have := of_decide_eq_false hb; omega
      refine HS_nil ?_
      walk_at "S"
      refine HE_tup rfl ?_
      walk_at "W"
      refine ⟨by simp, ?_⟩
      rw [strG_end hge] at hR
      rw [← hR] at hq
      exact hq
def marks : List Nat := [9, 13, 10, 32, 33, 34, 35, 36, 38, 39, 40, 41, 42, 43, 44, 47, 59, 60, 61, 62, 63, 64, 91, 92, 93, 94, 96, 123, 124, 125, 126]
def marksC : List Nat := [9, 13, 10, 32, 33, 34, 35, 36, 38, 39, 40, 41, 42, 43, 44, 47, 59, 60, 61, 62, 63, 64, 91, 92, 93, 94, 96, 123, 124, 125, 126, 58]
def freed : List Nat := [40, 95, 126, 46, 45, 33, 36, 38, 39, 40, 41, 42, 43, 44, 59, 61, 47, 63, 35, 64, 37, 41]
def kwds : List (List Nat) := [[97], [116, 104, 105, 115], [98, 105, 110, 100], [104, 97, 115], [105, 115], [111, 102], [116, 114, 117, 101], [102, 97, 108, 115, 101]]
abbrev NR := Option (List Nat × Nat)
def nlStep (t word : List Nat) (go : Nat → List Nat → NR) (stop k : Nat) (told : List Nat) : NR :=
  if k ∉ marksC ∨ k = 92 ∨ (k = 58 ∧ word ≠ [95]) then
    if k = 92 then (if (t[stop + 1]?.getD 0) ∉ freed then none else go (stop + 2) (told ++ [t[stop + 1]?.getD 0]))
    else if k = 37 ∧ (t[stop + 1]?.getD 0 ∉ figs ∨ t[stop + 2]?.getD 0 ∉ figs) then none
    else go (stop + 1) (told ++ [k])
  else some (told, stop)
def nlF (t word : List Nat) : Nat → Nat → List Nat → NR
  | 0, _, _ => none
  | f + 1, stop, told => match t[stop]? with
    | none => none
    | some k => nlStep t word (nlF t word f) stop k told
def nlG (t word : List Nat) (stop : Nat) (told : List Nat) : NR := nlF t word (t.length + 1 - stop) stop told
theorem nlStep_congr {t word : List Nat} {go go' : Nat → List Nat → NR} {i : Nat} (h : ∀ a, i < a → go a = go' a) (k : Nat) (told : List Nat) : nlStep t word go i k told = nlStep t word go' i k told := by
  unfold nlStep
  simp only [h (i + 1) (by omega), h (i + 2) (by omega)]
theorem nlF_fuel {t word : List Nat} : ∀ (f f' i : Nat) (told : List Nat), t.length < f + i → t.length < f' + i → nlF t word f i told = nlF t word f' i told
  | 0, 0, _, _, _, _ => rfl
  | 0, f' + 1, i, _, h, _ => by unfold nlF; rw [List.getElem?_eq_none (show t.length ≤ i by omega)]
  | f + 1, 0, i, _, _, h => by unfold nlF; rw [List.getElem?_eq_none (show t.length ≤ i by omega)]
  | f + 1, f' + 1, i, told, h, h' => by
    have key : ∀ a, i < a → nlF t word f a = nlF t word f' a := fun a ha => by
      funext x; exact nlF_fuel f f' a x (by omega) (by omega)
    unfold nlF
    cases t[i]? with
    | none => rfl
    | some k => exact nlStep_congr key _ _
theorem nlG_step {t word : List Nat} {i k : Nat} {told : List Nat} (h : t[i]? = some k) : nlG t word i told = nlStep t word (nlG t word) i k told := by
  have hi := (List.getElem?_eq_some_iff.mp h).1
  obtain ⟨f, e⟩ : ∃ f, t.length + 1 - i = f + 1 := ⟨t.length - i, by omega⟩
  have key : ∀ a, i < a → nlF t word f a = nlG t word a := fun a ha => by
    funext x; exact nlF_fuel f (t.length + 1 - a) a x (by omega) (by omega)
  show nlF t word (t.length + 1 - i) i told = _
  rw [e]
  unfold nlF
  rw [h]
  exact nlStep_congr key _ _
def span (bad : List Nat) : List Nat → Nat
  | [] => 0
  | x :: xs => if x ∈ bad then 0 else span bad xs + 1
theorem span_le (bad : List Nat) : ∀ t : List Nat, span bad t ≤ t.length
  | [] => Nat.le_refl _
  | x :: xs => by
    unfold span
    have := span_le bad xs
    split <;> simp; omega
theorem span_step {bad t : List Nat} {i k : Nat} (h : t[i]? = some k) : span bad (t.drop i) = if k ∈ bad then 0 else span bad (t.drop (i + 1)) + 1 := by
  obtain ⟨hi, e⟩ := List.getElem?_eq_some_iff.mp h
  rw [List.drop_eq_getElem_cons hi, e]
  rfl
def wordEnd (t : List Nat) (i : Nat) : Nat :=
  if i < i + span marksC (t.drop i) ∧ t[i + span marksC (t.drop i) - 1]? = some 46 then i + span marksC (t.drop i) - 1 else i + span marksC (t.drop i)
def nameR (t : List Nat) (i words : Nat) : Option (Option ((List Nat × List Nat) × Nat)) :=
  if t[i]?.getD 0 ∈ nums then some none else
  if t[wordEnd t i]? ≠ some 58 then
    if words = 1 ∧ cut t i (wordEnd t i) ≠ [] ∧ cut t i (wordEnd t i) ∉ kwds then some (some (([], cut t i (wordEnd t i)), wordEnd t i)) else some none
  else match nlG t (cut t i (wordEnd t i)) (wordEnd t i + 1) [] with
    | none => none
    | some (told, stop) => if t[stop - 1]? = some 46 then some (some ((cut t i (wordEnd t i), told.dropLast), stop - 1)) else some (some ((cut t i (wordEnd t i), told), stop))

theorem Txt0.mark {t : List Nat} (h : Txt0 t) {i k : Nat} (e : t[i]? = some k) (hk : k ∉ marksC) : ∃ k', t[i + 1]? = some k' :=
  h.next e fun q => hk (by rw [q]; decide)
/-- a word ends ahead of the text's last sign -/
theorem span_end {t : List Nat} (ht : Txt0 t) : ∀ (n i : Nat), t.length - i = n → i < t.length → ∃ k, t[i + span marksC (t.drop i)]? = some k ∧ k ∈ marksC
  | 0, i, h, hi => by omega
  | n + 1, i, h, hi => by
    obtain ⟨k, hk⟩ := get_of_lt hi
    rw [span_step hk]
    by_cases hm : k ∈ marksC
    · rw [if_pos hm]; exact ⟨k, hk, hm⟩
    · rw [if_neg hm]
      obtain ⟨k', hk'⟩ := ht.mark hk hm
      have := span_end ht n (i + 1) (by omega) (List.getElem?_eq_some_iff.mp hk').1
      rw [show i + (span marksC (t.drop (i + 1)) + 1) = i + 1 + span marksC (t.drop (i + 1)) by omega]
      exact this

theorem HT.mono {c : Cx} {σ : St} {e : Expr} {Q Q' : Bool → St → Prop} {R : RPost} (h : HT c σ e Q R) (hQ : ∀ b σ', Q b σ' → Q' b σ') : HT c σ e Q' R :=
  fun tm s r => wpAny_mono (h tm s r) (fun _ _ ⟨σ', a, b⟩ => ⟨σ', a, hQ _ _ b⟩) fun _ _ q => q

section
variable {c : Cx} {k : Nat} {σ : St} {R : RPost} {S : Scope}
theorem n_marks {P : Params} : nsIn (hd.heap_39 P) mainGlobals (Str.ofString "_law_marks") = some (some (.str (Str.ofString "\t\x0d\n !\"#$&'()*+,/;<=>?@\x5b\\]^`{|}~:") 765)) := by kernel_rfl
theorem n_freed {P : Params} : nsIn (hd.heap_39 P) mainGlobals (Str.ofString "_law_freed") = some (some (.str (Str.ofString "(_~.-!$&'()*+,;=/?#@%)") 767)) := by kernel_rfl
theorem n_kw {P : Params} : nsIn (hd.heap_39 P) mainGlobals (Str.ofString "_law_keywords") = some (some (.ref 175)) := by kernel_rfl
theorem E_marks {pos : Pos} {Q : Post} (F : Fx c k) (hS : c.cs = S) (hx : S.names.lookup (Str.ofString "_law_marks") = some .globalImplicit) (q : Q (.str marksC) σ) : HE c σ (.Name (Str.ofString "_law_marks") pos) Q R :=
  E_glob F hS n_marks (.str (Str.ofString "\t\x0d\n !\"#$&'()*+,/;<=>?@\x5b\\]^`{|}~:") 765) q hx (by decide)
theorem E_freed {pos : Pos} {Q : Post} (F : Fx c k) (hS : c.cs = S) (hx : S.names.lookup (Str.ofString "_law_freed") = some .globalImplicit) (q : Q (.str freed) σ) : HE c σ (.Name (Str.ofString "_law_freed") pos) Q R :=
  E_glob F hS n_freed (.str (Str.ofString "(_~.-!$&'()*+,;=/?#@%)") 767) q hx (by decide)
theorem E_def {x : String} {f : Addr} {args : List Expr} {p pos : Pos} {Q : Post} (F : Fx c k) (hS : c.cs = S) (hg : nsIn (KK c) mainGlobals (Str.ofString x) = some (some (.ref f))) (hk : Keeps c (.ref f)) (hx : S.names.lookup (Str.ofString x) = some .globalImplicit) (hd : (Str.ofString x == ("__debug__" : Str)) = false)
    (hs : starEach args c.env = args.map fun e => (false, eval e c.env))
    (he : eval (.Call (.Name (Str.ofString x) p) args [] pos) c.env = (do callWith pos (← eval (.Name (Str.ofString x) p) c.env) [] (backTo pos (starEach args c.env)) (backToKw pos (keywordEach [] c.env))))
    (h : HX c σ args (fun xs σ₂ => HOs c σ₂ (fun us => call (.ref f) us) xs Q R) R) : HE c σ (.Call (.Name (Str.ofString x) p) args [] pos) Q R :=
  HE_call F.ok hs he (E_glob F hS hg (.ref _) ⟨_, rfl, hk, h⟩ hx hd)
end

theorem call_keywords {c : Cx} (F : Fx c 1) {σ : St} {Q : Post} {R : RPost} (q : Q (.lst (strsV kwds)) σ) : HOs c σ (fun us => call (.ref 175) us) [] Q R := by
  intro us tm s r hlen
  refine call_X F.ok (k := 0) F.room (xs := []) (F.K _ _ rfl) (codeRec_of F.K (by rfl)) F.lim ?_ (by decide) ?_ r hlen ?_ (by rfl) (by rfl) (by rfl) (by decide)
  · intro s _
    have : us = [] := List.eq_nil_of_length_eq_zero hlen
    subst this
    exact BindsTo.of_eq rfl
  · decide
  · intro c' ok' room' e1 e2 e3 hS e5
    have F' := F.inner ok' room' e2 e3 e5
    simp only [List.zip_nil_right]
    walk_at "S"
    refine HE_lst rfl ?_
    walk_at "W"
    refine ⟨by decide, ?_⟩
    exact q
section
variable {c : Cx} {k : Nat} {σ : St} {R : RPost} {S : Scope}
theorem F_bind {x : String} {y : V} {l : Loc} {Q : St → Prop} (F : Fx c k) (hS : c.cs = S) (hn : SetN x y σ.loc l) (q : Q ⟨l, σ.hp⟩) (hx : S.names.lookup (Str.ofString x) = some .local) : HF c σ (bindName c.env (Str.ofString x)) y Q R :=
  HF_bind hn F.ok.fn (by show c.cs.names.lookup _ = _; rw [hS]; exact hx) q
end
theorem call_name {c : Cx} (F : Fx c 2) (hnd : c.A.handled = none) {σ : St} {t : List Nat} {Q : Post} {R : RPost} {i words : Nat} (ht : Txt1 t) (hi : i < t.length)
    (q1 : nameR t i words = none → ∀ j : Int, Q (.tup [.none, .int j]) σ) (q2 : nameR t i words = some none → Q (.tup [.lst [], .int i]) σ)
    (q3 : ∀ a b e, nameR t i words = some (some ((a, b), e)) → Q (.tup [.lst [.str sName, .tup [.str a, .str b]], .int (e : Nat)]) σ) : HOs c σ (fun us => call (.ref 196) us) [.str t, .int i, .int words] Q R := by
  intro us tm s r hlen
  refine call_X F.ok (k := 1) F.room (xs := ["text", "at", "words"]) (F.K _ _ rfl) (codeRec_of F.K (by rfl)) F.lim ?_ (by decide) ?_ r hlen ?_ (by rfl) (by rfl) (by rfl) (by decide)
  · intro s _
    obtain ⟨u1, u2, u3, rfl⟩ : ∃ u1 u2 u3, us = [u1, u2, u3] := by
      match us, hlen with
      | [a, b, d], _ => exact ⟨a, b, d, rfl⟩
    exact BindsTo.of_eq rfl
  · decide
  · intro c' ok' room' e1 e2 e3 hS e5
    have F' := F.inner ok' room' e2 e3 e5
    simp only [List.zip_cons_cons, List.zip_nil_right]
    have hz := ht.small
    obtain ⟨k0, hk0⟩ := get_of_lt hi
    walk_at "S"
    walk_at "W"
    refine HO_item_str (fun _ _ => rfl) (by omega) (by omega) (by rw [nat0]; exact hk0) ?_
    walk_at "W"
    refine ⟨fun hb => ?_, fun hb => ?_⟩
    · have hn : k0 ∈ nums := of_decide_eq_true hb
      walk_at "S"
      refine HE_tup rfl ?_
      refine HX_cons ?_
      refine HE_lst rfl ?_
      walk_at "W"
      refine ⟨by decide, ?_⟩
      walk_at "W"
      refine ⟨by simp, ?_⟩
      refine q2 ?_
      unfold nameR
      rw [hk0, Option.getD_some, if_pos hn]
    · have hn : k0 ∉ nums := of_decide_eq_false hb
      have hR : nameR t i words = if t[wordEnd t i]? ≠ some 58 then
            if words = 1 ∧ cut t i (wordEnd t i) ≠ [] ∧ cut t i (wordEnd t i) ∉ kwds then some (some (([], cut t i (wordEnd t i)), wordEnd t i)) else some none
          else match nlG t (cut t i (wordEnd t i)) (wordEnd t i + 1) [] with
            | none => none
            | some (told, stop) => if t[stop - 1]? = some 46 then some (some ((cut t i (wordEnd t i), told.dropLast), stop - 1)) else some (some ((cut t i (wordEnd t i), told), stop)) := by
        conv => lhs; unfold nameR
        rw [hk0, Option.getD_some, if_neg hn]
        all_goals rfl
      refine HS_nil ?_
      walk_at "S"
      walk_at "W"
      obtain ⟨ke, hke, hkm⟩ := span_end ht.toTxt0 _ i rfl hi
      generalize hE : i + span marksC (t.drop i) = e at *
      have hel := (List.getElem?_eq_some_iff.mp hke).1
      have hie : i ≤ e := by omega
      refine HS_cutw (fun σ' => σ' = ⟨[("text", .str t), ("at", .int i), ("words", .int words), ("stop", .int e)], σ.hp⟩) ?_ ?_
      · refine HS1_while ok' (fun m σ' => ∃ j : Nat, m = t.length - j ∧ i ≤ j ∧ j + span marksC (t.drop j) = e ∧ σ' = ⟨[("text", .str t), ("at", .int i), ("words", .int words), ("stop", .int j)], σ.hp⟩) _ ?_ (by walk_at "weak") ⟨i, rfl, Nat.le_refl _, hE, rfl⟩
        rintro m _ ⟨j, rfl, hij, hbl, rfl⟩
        have hjl : j < t.length := by omega
        obtain ⟨k, hk⟩ := get_of_lt hjl
        refine HT_cmp ?_ rfl
        walk_at "W"
        refine HO_item_str (fun _ _ => rfl) (by omega) (by omega) (by rw [nat0]; exact hk) ?_
        refine E_marks F' hS rfl ?_
        walk_at "W"
        rw [span_step hk] at hbl
        refine ⟨fun hb => ?_, fun hb => ?_⟩
        · have hm : k ∉ marksC := of_decide_eq_true hb
          rw [if_neg hm] at hbl
          walk_at "S"
          walk_at "W"
          walk_at "ex"
          refine HS_nil ?_
          refine ⟨_, _, ?_, ?_, j + 1, rfl, by omega, by omega, rfl⟩
          · omega
          · walk_at "weak"
        · have hm : k ∈ marksC := Classical.not_not.mp (of_decide_eq_false hb)
          rw [if_pos hm] at hbl
          have : j = e := by omega
          subst this
          refine HS_nil ?_
          exact ⟨_, by walk_at "weak", rfl⟩
      · rintro _ rfl
        have hwE : wordEnd t i = if i < e ∧ t[e - 1]? = some 46 then e - 1 else e := by
          unfold wordEnd; rw [hE]
        refine HS_cutw (fun σ' => σ' = ⟨[("text", .str t), ("at", .int i), ("words", .int words), ("stop", .int (wordEnd t i))], σ.hp⟩) ?_ ?_
        · refine HS1_if ?_
          refine HT_bool ?_
          refine HAll_and ?_
          walk_at "W"
          refine ⟨fun hb => ?_, fun hb => ?_⟩
          · have h1 : i < e := by have := of_decide_eq_true hb; omega
            refine HAll_and ?_
            obtain ⟨k, hk⟩ := get_of_lt (show e - 1 < t.length by omega)
            walk_at "W"
            refine HO_item_str (fun _ _ => rfl) (by omega) (by omega) (by rw [show ((e : Int) - 1).toNat = e - 1 by omega]; exact hk) ?_
            walk_at "W"
            refine ⟨fun hb => ?_, fun hb => ?_⟩
            · have h2 : k = 46 := by simpa using hb
              refine HAll_and_nil ?_
              refine ⟨fun _ => ?_, fun h => (nomatch h)⟩
              walk_at "S"
              refine HE_int ?_
              refine HO_isub_int ?_
              rw [show (e : Int) - 1 = ((wordEnd t i : Nat) : Int) by rw [hwE, if_pos ⟨h1, by rw [hk, h2]⟩]; omega]
              walk_at "ex"
              repeat refine HS_nil ?_
              exact ⟨_, by walk_at "weak", rfl⟩
            · have h2 : k ≠ 46 := by simpa using hb
              refine ⟨fun h => (nomatch h), fun _ => ?_⟩
              repeat refine HS_nil ?_
              rw [hwE, if_neg (by rw [hk]; simp [h2])]
              exact ⟨_, by walk_at "weak", rfl⟩
          · have h1 : ¬ i < e := by have := of_decide_eq_false hb; omega
            refine ⟨fun h => (nomatch h), fun _ => ?_⟩
            repeat refine HS_nil ?_
            rw [hwE, if_neg (fun h => h1 h.1)]
            exact ⟨_, by walk_at "weak", rfl⟩
        · rintro _ rfl
          have hwi : i ≤ wordEnd t i := by rw [hwE]; split <;> omega
          have hwl : wordEnd t i < t.length := by rw [hwE]; split <;> omega
          generalize wordEnd t i = w at *
          walk_at "S"
          walk_at "W"
          refine ⟨_, _, _, rfl, rfl, rfl, by omega, by omega, by walk_at "sz", ?_⟩
          rw [nat0, nat0]
          obtain ⟨kw, hkw⟩ := get_of_lt hwl
          generalize hwd : cut t i w = word at *
          walk_at "W"
          walk_at "S"
          walk_at "W"
          refine HO_item_str (fun _ _ => rfl) (by omega) (by omega) (by rw [nat0]; exact hkw) ?_
          walk_at "W"
          refine ⟨fun hb => ?_, fun hb => ?_⟩
          · have hc : kw ≠ 58 := by simpa using hb
            rw [hkw, if_pos (by simpa using hc)] at hR
            refine HS_cutw (fun σ' => ¬ (words = 1 ∧ word ≠ [] ∧ word ∉ kwds) ∧ σ' = ⟨[("text", .str t), ("at", .int i), ("words", .int words)], σ.hp⟩) ?_ ?_
            · refine HS1_if ?_
              refine HT_bool ?_
              refine HAll_and ?_
              walk_at "W"
              refine ⟨fun hb => ?_, fun hb => ?_⟩
              · have h1 : words = 1 := by have := of_decide_eq_true hb; omega
                refine HAll_and ?_
                walk_at "W"
                refine ⟨fun hb => ?_, fun hb => ?_⟩
                · have h2 : word ≠ [] := of_decide_eq_true hb
                  refine HAll_and ?_
                  refine HT_cmp ?_ rfl
                  walk_at "W"
                  refine E_def F' hS n_kw (keeps_fn (F'.K _ _ rfl) rfl) rfl (by decide) rfl rfl ?_
                  walk_at "W"
                  refine call_keywords F' ?_
                  refine HO_notin_lst ok' (.inl rfl) ?_
                  walk_at "W"
                  refine ⟨fun hb => ?_, fun hb => ?_⟩
                  · have h3 : word ∉ kwds := of_decide_eq_true hb
                    rw [if_pos ⟨h1, h2, h3⟩] at hR
                    refine HAll_and_nil ?_
                    refine ⟨fun _ => ?_, fun h => (nomatch h)⟩
                    walk_at "S"
                    refine HE_tup rfl ?_
                    refine HX_cons ?_
                    refine HE_lst rfl ?_
                    walk_at "W"
                    refine HE_tup rfl ?_
                    walk_at "W"
                    refine ⟨by simp, ?_⟩
                    walk_at "W"
                    refine ⟨by simp, ?_⟩
                    walk_at "W"
                    refine ⟨by simp, ?_⟩
                    exact q3 _ _ _ hR
                  · refine ⟨fun h => (nomatch h), fun _ => ?_⟩
                    repeat refine HS_nil ?_
                    exact ⟨_, by walk_at "weak", fun h => of_decide_eq_false hb h.2.2, rfl⟩
                · refine ⟨fun h => (nomatch h), fun _ => ?_⟩
                  repeat refine HS_nil ?_
                  exact ⟨_, by walk_at "weak", fun h => of_decide_eq_false hb h.2.1, rfl⟩
              · refine ⟨fun h => (nomatch h), fun _ => ?_⟩
                repeat refine HS_nil ?_
                exact ⟨_, by walk_at "weak", fun h => by have := of_decide_eq_false hb; omega, rfl⟩
            · rintro _ ⟨hno, rfl⟩
              rw [if_neg hno] at hR
              walk_at "S"
              refine HE_tup rfl ?_
              refine HX_cons ?_
              refine HE_lst rfl ?_
              walk_at "W"
              refine ⟨by decide, ?_⟩
              walk_at "W"
              refine ⟨by simp, ?_⟩
              exact q2 hR
          · have hc : kw = 58 := by simpa using hb
            rw [hkw, if_neg (by simpa using hc)] at hR
            refine HS_nil ?_
            walk_at "S"
            walk_at "W"
            walk_at "ex"
            walk_at "S"
            walk_at "W"
            walk_at "S"
            walk_at "W"
            refine HS_cutw (fun σ' => ∃ (j : Nat) (told last : List Nat), nlG t word (w + 1) [] = some (told, j) ∧ w < j ∧ j < t.length ∧ told.length ≤ j ∧ (last = [46] ↔ t[j - 1]? = some 46) ∧ (last = [46] → told ≠ []) ∧ σ' = ⟨[("text", .str t), ("at", .int i), ("words", .int words), ("word", .str word), ("stop", .int j), ("told", .str told), ("last", .str last)], σ.hp⟩) ?_ ?_
            · refine HS1_while ok' (fun m σ' => ∃ (j : Nat) (told last : List Nat), m = t.length - j ∧ nlG t word j told = nlG t word (w + 1) [] ∧ w < j ∧ j < t.length ∧ told.length ≤ j ∧ (last = [46] ↔ t[j - 1]? = some 46) ∧ (last = [46] → told ≠ []) ∧ σ' = ⟨[("text", .str t), ("at", .int i), ("words", .int words), ("word", .str word), ("stop", .int j), ("told", .str told), ("last", .str last)], σ.hp⟩) _ ?_ (by walk_at "weak") ⟨w + 1, [], [], rfl, rfl, by omega, ?_, by simp, ?_, by simp, rfl⟩
              · rintro m _ ⟨j, told, last, rfl, hnl, hwj, hjl, htl, hl1, hl2, rfl⟩
                obtain ⟨k, hk⟩ := get_of_lt hjl
                rw [nlG_step hk] at hnl
                unfold nlStep at hnl
                refine HT.mono (Q := fun b σ' => σ' = ⟨[("text", .str t), ("at", .int i), ("words", .int words), ("word", .str word), ("stop", .int j), ("told", .str told), ("last", .str last)], σ.hp⟩ ∧ (b = true ↔ (k ∉ marksC ∨ k = 92 ∨ (k = 58 ∧ word ≠ [95])))) ?_ ?_
                · refine HT_bool ?_
                  refine HAll_or ?_
                  refine HT_cmp ?_ rfl
                  walk_at "W"
                  refine HO_item_str (fun _ _ => rfl) (by omega) (by omega) (by rw [nat0]; exact hk) ?_
                  refine E_marks F' hS rfl ?_
                  walk_at "W"
                  refine ⟨fun hb => ?_, fun hb => ?_⟩
                  · exact ⟨rfl, by have := of_decide_eq_true hb; simp [this]⟩
                  · have hm : k ∈ marksC := Classical.not_not.mp (of_decide_eq_false hb)
                    refine HAll_or ?_
                    walk_at "W"
                    refine HO_item_str (fun _ _ => rfl) (by omega) (by omega) (by rw [nat0]; exact hk) ?_
                    walk_at "W"
                    refine ⟨fun hb => ?_, fun hb => ?_⟩
                    · have h92 : k = 92 := by simpa using hb
                      exact ⟨rfl, by simp [h92]⟩
                    · have h92 : k ≠ 92 := by simpa using hb
                      refine HAll_or ?_
                      refine HT_bool ?_
                      refine HAll_and ?_
                      walk_at "W"
                      refine HO_item_str (fun _ _ => rfl) (by omega) (by omega) (by rw [nat0]; exact hk) ?_
                      walk_at "W"
                      refine ⟨fun hb => ?_, fun hb => ?_⟩
                      · have h58 : k = 58 := by simpa using hb
                        refine HAll_and ?_
                        walk_at "W"
                        refine ⟨fun hb => ?_, fun hb => ?_⟩
                        · have h95 : word ≠ [95] := of_decide_eq_true hb
                          refine HAll_and_nil ?_
                          exact ⟨fun _ => ⟨rfl, by simp [h58, h95]⟩, fun h => (nomatch h)⟩
                        · have h95 : ¬ word ≠ [95] := of_decide_eq_false hb
                          refine ⟨fun h => (nomatch h), fun _ => ?_⟩
                          refine HAll_or_nil ?_
                          exact ⟨rfl, ⟨fun h => (nomatch h), fun h => by rcases h with h | h | h; exact absurd hm h; exact absurd h h92; exact absurd h.2 h95⟩⟩
                      · have h58 : k ≠ 58 := by simpa using hb
                        refine ⟨fun h => (nomatch h), fun _ => ?_⟩
                        refine HAll_or_nil ?_
                        exact ⟨rfl, ⟨fun h => (nomatch h), fun h => by rcases h with h | h | h; exact absurd hm h; exact absurd h h92; exact absurd h.1 h58⟩⟩
                · rintro b _ ⟨rfl, hbk⟩
                  refine ⟨fun hb => ?_, fun hb => ?_⟩
                  · have hin := hbk.mp hb
                    rw [if_pos hin] at hnl
                    have hk10 : k ≠ 10 := by
                      rintro rfl
                      rcases hin with h | h | h
                      · exact h (by decide)
                      · cases h
                      · cases h.1
                    obtain ⟨e1', he1⟩ := ht.next hk hk10
                    rw [he1, Option.getD_some] at hnl
                    walk_at "S"
                    walk_at "W"
                    refine HO_item_str (fun _ _ => rfl) (by omega) (by omega) (by rw [nat0]; exact hk) ?_
                    walk_at "W"
                    refine HS_cons (HS1_if ?_)
                    walk_at "W"
                    refine ⟨fun hb => ?_, fun hb => ?_⟩
                    · have h92 : k = 92 := by simpa using hb
                      subst h92
                      rw [if_pos rfl] at hnl
                      walk_at "S"
                      refine HT_cmp ?_ rfl
                      walk_at "W"
                      refine HO_item_str (fun _ _ => rfl) (by omega) (by omega) (by rw [nat1]; exact he1) ?_
                      refine E_freed F' hS rfl ?_
                      walk_at "W"
                      refine ⟨fun hb => ?_, fun hb => ?_⟩
                      · have hf : e1' ∉ freed := of_decide_eq_true hb
                        rw [if_pos hf] at hnl
                        rw [← hnl] at hR
                        walk_at "S"
                        refine HE_tup rfl ?_
                        walk_at "W"
                        refine ⟨by simp, ?_⟩
                        exact q1 hR _
                      · have hf : ¬ e1' ∉ freed := of_decide_eq_false hb
                        rw [if_neg hf] at hnl
                        have hne10 : e1' ≠ 10 := by rintro rfl; exact hf (by decide)
                        obtain ⟨e2', he2⟩ := ht.next he1 hne10
                        repeat refine HS_nil ?_
                        walk_at "S"
                        walk_at "W"
                        refine HO_item_str (fun _ _ => rfl) (by omega) (by omega) (by rw [nat1]; exact he1) ?_
                        walk_at "W"
                        walk_at "ex"
                        walk_at "S"
                        walk_at "W"
                        walk_at "ex"
                        repeat refine HS_nil ?_
                        refine ⟨t.length - (j + 2), ⟨[("text", .str t), ("at", .int i), ("words", .int words), ("word", .str word), ("stop", .int ((j + 2 : Nat) : Int)), ("told", .str (told ++ [e1'])), ("last", .str [92])], σ.hp⟩, by omega, by walk_at "weak", j + 2, told ++ [e1'], [92], rfl, hnl, by omega, (List.getElem?_eq_some_iff.mp he2).1, by simp; omega, ?_, by simp, rfl⟩
                        have := ht.dot j hk
                        exact ⟨fun h => by simp at h, fun h => absurd h this⟩
                    · have h92 : k ≠ 92 := by simpa using hb
                      rw [if_neg h92] at hnl
                      walk_at "S"
                      refine HT.mono (Q := fun b σ' => σ' = ⟨[("text", .str t), ("at", .int i), ("words", .int words), ("word", .str word), ("stop", .int j), ("told", .str told), ("last", .str [k])], σ.hp⟩ ∧ (b = true ↔ (k = 37 ∧ (e1' ∉ figs ∨ t[j + 2]?.getD 0 ∉ figs)))) ?_ ?_
                      · refine HT_bool ?_
                        refine HAll_and ?_
                        walk_at "W"
                        refine ⟨fun hb => ?_, fun hb => ?_⟩
                        · have h37 : k = 37 := by simpa using hb
                          refine HAll_and ?_
                          refine HT_bool ?_
                          refine HAll_or ?_
                          refine HT_cmp ?_ rfl
                          walk_at "W"
                          refine HO_item_str (fun _ _ => rfl) (by omega) (by omega) (by rw [nat1]; exact he1) ?_
                          refine E_figs F' hS rfl ?_
                          walk_at "W"
                          refine ⟨fun hb => ?_, fun hb => ?_⟩
                          · have hf : e1' ∉ figs := of_decide_eq_true hb
                            refine ⟨fun _ => ?_, fun h => (nomatch h)⟩
                            refine HAll_and_nil ?_
                            exact ⟨rfl, by simp [h37, hf]⟩
                          · have hf : e1' ∈ figs := Classical.not_not.mp (of_decide_eq_false hb)
                            obtain ⟨e2', he2⟩ := ht.next he1 (by rintro rfl; exact absurd hf (by decide))
                            rw [he2, Option.getD_some]
                            refine HAll_or ?_
                            refine HT_cmp ?_ rfl
                            walk_at "W"
                            refine HO_item_str (fun _ _ => rfl) (by omega) (by omega) (by rw [nat2]; exact he2) ?_
                            refine E_figs F' hS rfl ?_
                            walk_at "W"
                            refine ⟨fun hb => ?_, fun hb => ?_⟩
                            · have hf2 : e2' ∉ figs := of_decide_eq_true hb
                              refine ⟨fun _ => ?_, fun h => (nomatch h)⟩
                              refine HAll_and_nil ?_
                              exact ⟨rfl, by simp [h37, hf2]⟩
                            · have hf2 : e2' ∈ figs := Classical.not_not.mp (of_decide_eq_false hb)
                              refine HAll_or_nil ?_
                              refine ⟨fun h => (nomatch h), fun _ => ?_⟩
                              exact ⟨rfl, ⟨fun h => (nomatch h), fun h => by rcases h.2 with h | h; exact absurd hf h; exact absurd hf2 h⟩⟩
                        · have h37 : k ≠ 37 := by simpa using hb
                          exact ⟨rfl, ⟨fun h => (nomatch h), fun h => absurd h.1 h37⟩⟩
                      · rintro b _ ⟨rfl, hbk⟩
                        refine ⟨fun hb => ?_, fun hb => ?_⟩
                        · rw [if_pos (hbk.mp hb)] at hnl
                          rw [← hnl] at hR
                          walk_at "S"
                          refine HE_tup rfl ?_
                          walk_at "W"
                          refine ⟨by simp, ?_⟩
                          exact q1 hR _
                        · have hno : ¬ (k = 37 ∧ (e1' ∉ figs ∨ t[j + 2]?.getD 0 ∉ figs)) := fun h => by rw [hbk.mpr h] at hb; cases hb
                          rw [if_neg hno] at hnl
                          repeat refine HS_nil ?_
                          walk_at "S"
                          walk_at "W"
                          walk_at "ex"
                          walk_at "S"
                          walk_at "W"
                          walk_at "ex"
                          repeat refine HS_nil ?_
                          refine ⟨t.length - (j + 1), ⟨[("text", .str t), ("at", .int i), ("words", .int words), ("word", .str word), ("stop", .int ((j + 1 : Nat) : Int)), ("told", .str (told ++ [k])), ("last", .str [k])], σ.hp⟩, by omega, by walk_at "weak", j + 1, told ++ [k], [k], rfl, hnl, by omega, (List.getElem?_eq_some_iff.mp he1).1, by simp; omega, ?_, by simp, rfl⟩
                          rw [show j + 1 - 1 = j by omega, hk]; simp
                  · have hin : ¬ (k ∉ marksC ∨ k = 92 ∨ (k = 58 ∧ word ≠ [95])) := fun h => by rw [hbk.mpr h] at hb; cases hb
                    rw [if_neg hin] at hnl
                    repeat refine HS_nil ?_
                    exact ⟨_, by walk_at "weak", j, told, last, hnl.symm, hwj, hjl, htl, hl1, hl2, rfl⟩
              · subst hc
                obtain ⟨k', hk'⟩ := ht.next hkw (by decide)
                exact (List.getElem?_eq_some_iff.mp hk').1
              · subst hc
                rw [show w + 1 - 1 = w by omega, hkw]; simp
            · rintro _ ⟨j, told, last, hnl, hwj, hjl, htl, hl1, hl2, rfl⟩
              rw [hnl] at hR
              dsimp only at hR
              refine HS_cutw (fun σ' => ∃ (j' : Nat) (told' : List Nat), nameR t i words = some (some ((word, told'), j')) ∧ σ' = ⟨[("text", .str t), ("at", .int i), ("words", .int words), ("word", .str word), ("stop", .int j'), ("told", .str told')], σ.hp⟩) ?_ ?_
              · refine HS1_if ?_
                walk_at "W"
                refine ⟨fun hb => ?_, fun hb => ?_⟩
                · have h46 : last = [46] := of_decide_eq_true hb
                  rw [if_pos (hl1.mp h46)] at hR
                  refine HS_cons ?_
                  refine HS1_swap ok' (e5.trans hnd) (names := [Str.ofString "told", Str.ofString "stop"]) (by rfl) (by show swappedStores _ _ (envOf c'.cn c'.cs c'.L c'.a c'.cd) = _; rw [hS]; rfl) ?_
                  refine HE_tup rfl ?_
                  refine HX_cons ?_
                  refine HE_slice_last ?_
                  walk_at "W"
                  refine ⟨1, rfl, ?_⟩
                  refine ⟨told, rfl, rfl, hl2 h46, by omega, ?_⟩
                  walk_at "W"
                  refine ⟨by simp, ?_⟩
                  refine ⟨_, rfl, rfl, ?_⟩
                  rw [show (j : Int) - 1 = ((j - 1 : Nat) : Int) by omega]
                  refine HAO_cons ?_
                  (refine' F_bind F' hS ?n ?_ rfl); (case n => walk_at "setn")
                  refine HAO_cons ?_
                  (refine' F_bind F' hS ?n ?_ rfl); (case n => walk_at "setn")
                  refine HAO_nil ?_
                  repeat refine HS_nil ?_
                  exact ⟨_, by walk_at "weak", j - 1, told.dropLast, hR, rfl⟩
                · have h46 : ¬ last = [46] := of_decide_eq_false hb
                  rw [if_neg (fun h => h46 (hl1.mpr h))] at hR
                  repeat refine HS_nil ?_
                  exact ⟨_, by walk_at "weak", j, told, hR, rfl⟩
              · rintro _ ⟨j', told', hR', rfl⟩
                walk_at "S"
                refine HE_tup rfl ?_
                refine HX_cons ?_
                refine HE_lst rfl ?_
                walk_at "W"
                refine HE_tup rfl ?_
                walk_at "W"
                refine ⟨by simp, ?_⟩
                walk_at "W"
                refine ⟨by simp, ?_⟩
                walk_at "W"
                refine ⟨by simp, ?_⟩
                exact q3 _ _ _ hR'
def refuseV (n o : Nat) : V := .lst [.str sRefused, .int n, .int o]
def endV (n o : Nat) : V := .lst [.str sEnd, .int n, .int o]
/-- what stands at a place: its token and where it ends; none: refused; and the counters -/
def tokR (t qs : List Nat) (words i n o : Nat) : Option (List V × Nat) × Nat × Nat :=
  if t[i]?.getD 0 ∈ qs then
    match strG t (t[i]?.getD 0) (decide (cut t i (i + 3) = List.replicate 3 (t[i]?.getD 0))) (i + if cut t i (i + 3) = List.replicate 3 (t[i]?.getD 0) then 3 else 1) [] n o with
    | (none, _, n', o') => (none, n', o')
    | (some v, e, n', o') => (some ([.str sText, .str v], e), n', o')
  else match nameR t i words with
    | none => (none, n, o)
    | some none => (some ([.str sSign, .str [t[i]?.getD 0]], i + 1), n, o)
    | some (some ((a, b), e)) => (some ([.str sName, .tup [.str a, .str b]], e), n, o)
def lexT (t qs : List Nat) (words : Nat) : Nat → Int → Nat → Nat → List V
  | 0, _, _, _ => []
  | f + 1, a, n, o =>
    if a < 0 then [endV n o] else
    match tokR t qs words a.toNat n o with
    | (none, n', o') => [refuseV n' o']
    | (some (xs, e), n', o') => .lst (xs ++ [.int e, .int n', .int o']) :: lexT t qs words f (skipR t e n' o').1 (skipR t e n' o').2.1 (skipR t e n' o').2.2
def lexR (t qs : List Nat) (words : Nat) : List V := lexT t qs words (t.length + 2) (skipR t 0 0 0).1 (skipR t 0 0 0).2.1 (skipR t 0 0 0).2.2

theorem skipF_at {t : List Nat} (ht : Txt0 t) : ∀ (f i n o : Nat), 0 ≤ (skipF t f i n o).1 → ∃ j : Nat, (skipF t f i n o).1 = j ∧ i ≤ j ∧ j < t.length ∧ t[j]? ≠ some 32 ∧ t[j]? ≠ some 9 ∧ t[eolAt t j]? ≠ some 10
  | 0, i, n, o, h => by simp [skipF] at h
  | f + 1, i, n, o, h => by
    unfold skipF at h ⊢
    split
    · rename_i hi
      rw [if_pos hi] at h
      split
      · rename_i h1; rw [if_pos h1] at h; simp at h
      · rename_i h1
        rw [if_neg h1] at h
        have hle := blanks_le (t.drop i)
        have hl : i + blanks (t.drop i) < t.length := by simp at hle; omega
        split
        · rename_i h2
          refine ⟨i + blanks (t.drop i), rfl, by omega, hl, ?_, ?_, h2⟩
          all_goals
            obtain ⟨k, hk⟩ := get_of_lt hl
            have key : ∀ (m j : Nat), t.length - j = m → j ≤ t.length → t[j + blanks (t.drop j)]? ≠ some 32 ∧ t[j + blanks (t.drop j)]? ≠ some 9 := by
              intro m
              induction m with
              | zero =>
                intro j hm hj
                rw [List.getElem?_eq_none (show t.length ≤ j + blanks (t.drop j) by omega)]; simp
              | succ m ih =>
                intro j hm hj
                obtain ⟨k, hk⟩ := get_of_lt (show j < t.length by omega)
                rw [blanks_step hk]
                by_cases hb : k = 32 ∨ k = 9
                · rw [if_pos hb]
                  have := ih (j + 1) (by omega) (by omega)
                  rw [show j + (blanks (t.drop (j + 1)) + 1) = j + 1 + blanks (t.drop (j + 1)) by omega]
                  exact this
                · rw [if_neg hb, Nat.add_zero, hk]
                  simp only [not_or] at hb
                  simp [hb.1, hb.2]
          · exact (key _ i rfl (by omega)).1
          · exact (key _ i rfl (by omega)).2
        · rename_i h2
          rw [if_neg h2] at h
          obtain ⟨j, e1, e2, e3⟩ := skipF_at ht f _ _ _ h
          have := (eolAt_ge ht hl).1
          exact ⟨j, e1, by omega, e3⟩
    · rename_i hi
      rw [if_neg hi] at h
      simp at h
theorem skipR_at {t : List Nat} (ht : Txt0 t) {i n o : Nat} (h : 0 ≤ (skipR t i n o).1) : ∃ j : Nat, (skipR t i n o).1 = j ∧ i ≤ j ∧ j < t.length ∧ t[j]? ≠ some 32 ∧ t[j]? ≠ some 9 ∧ t[eolAt t j]? ≠ some 10 := skipF_at ht _ _ _ _ h
theorem eolAt_ne {t : List Nat} {j : Nat} (h : t[eolAt t j]? ≠ some 10) : t[j]? ≠ some 10 := by
  intro e
  apply h
  unfold eolAt
  rw [if_neg (by rw [e]; simp), if_neg]
  · exact e
  · rw [cut_two e]; simp
theorem runL_mem (q : Nat) : ∀ (n : Nat) (xs : List Nat) (j : Nat), j < runL q n xs → xs[j]? = some q
  | 0, _, j, h => by simp [runL] at h
  | n + 1, [], j, h => by simp [runL] at h
  | n + 1, x :: xs, j, h => by
    unfold runL at h
    split at h
    · rename_i e
      cases j with
      | zero => simp [e]
      | succ j => simpa using runL_mem q n xs j (by omega)
    · omega
theorem nlF_at {t word : List Nat} : ∀ (f i : Nat) (told told' : List Nat) (e : Nat), nlF t word f i told = some (told', e) → i ≤ e ∧ e < t.length
  | 0, i, told, told', e, h => by simp [nlF] at h
  | f + 1, i, told, told', e, h => by
    have ih : ∀ i told, nlF t word f i told = some (told', e) → i ≤ e ∧ e < t.length := fun i told h => nlF_at f i told told' e h
    unfold nlF at h
    cases hk : t[i]? with
    | none => rw [hk] at h; simp at h
    | some k =>
      have hil := (List.getElem?_eq_some_iff.mp hk).1
      rw [hk] at h
      dsimp only at h
      unfold nlStep at h
      split at h
      · split at h
        · split at h
          · simp at h
          · have := ih _ _ h; omega
        · split at h
          · simp at h
          · have := ih _ _ h; omega
      · simp only [Option.some.injEq, Prod.mk.injEq] at h
        omega
theorem wordEnd_at {t : List Nat} (ht : Txt0 t) {i : Nat} (hi : i < t.length) : i ≤ wordEnd t i ∧ wordEnd t i < t.length := by
  obtain ⟨k, hk, _⟩ := span_end ht _ i rfl hi
  have := (List.getElem?_eq_some_iff.mp hk).1
  unfold wordEnd
  split <;> omega
theorem nameR_at {t : List Nat} (ht : Txt0 t) {i words : Nat} (hi : i < t.length) {a b : List Nat} {e : Nat} (h : nameR t i words = some (some ((a, b), e))) : i < e ∧ e < t.length := by
  have hw := wordEnd_at ht hi
  unfold nameR at h
  split at h
  · simp at h
  · split at h
    · split at h
      · rename_i h1
        simp only [Option.some.injEq, Prod.mk.injEq] at h
        obtain ⟨_, rfl⟩ := h
        refine ⟨?_, hw.2⟩
        rcases Nat.lt_or_ge i (wordEnd t i) with h2 | h2
        · exact h2
        · have e : wordEnd t i = i := by omega
          rw [e] at h1
          exact absurd (by unfold cut; simp) h1.2.1
      · simp at h
    · rename_i h1
      have h58 : t[wordEnd t i]? = some 58 := Classical.not_not.mp h1
      split at h
      · simp at h
      · rename_i told stop hn
        have := nlF_at _ _ _ _ _ hn
        split at h
        · rename_i h46
          simp only [Option.some.injEq, Prod.mk.injEq] at h
          obtain ⟨_, rfl⟩ := h
          have : stop - 1 ≠ wordEnd t i := fun q => by rw [q, h58] at h46; cases h46
          omega
        · simp only [Option.some.injEq, Prod.mk.injEq] at h
          obtain ⟨_, rfl⟩ := h
          omega
theorem strF_at {t : List Nat} {q : Nat} {long : Bool} : ∀ (f i : Nat) (told : List Nat) (n o : Nat) (v : List Nat) (e n' o' : Nat), strF t q long f i told n o = (some v, e, n', o') → i < e ∧ e ≤ t.length ∧ t[e - 1]? = some q
  | 0, i, told, n, o, v, e, n', o', h => by simp [strF] at h
  | f + 1, i, told, n, o, v, e, n', o', h => by
    have ih : ∀ i told n o, strF t q long f i told n o = (some v, e, n', o') → i < e ∧ e ≤ t.length ∧ t[e - 1]? = some q := fun i told n o h => strF_at f i told n o v e n' o' h
    unfold strF at h
    cases hk : t[i]? with
    | none => rw [hk] at h; simp at h
    | some k =>
      have hil := (List.getElem?_eq_some_iff.mp hk).1
      rw [hk] at h
      dsimp only at h
      unfold strStep escF at h
      split at h
      · rename_i hkq
        subst hkq
        split at h
        · simp only [Prod.mk.injEq] at h
          obtain ⟨_, rfl, _⟩ := h
          exact ⟨by omega, by omega, by simpa using hk⟩
        · split at h
          · rename_i hr
            simp only [Prod.mk.injEq] at h
            obtain ⟨_, rfl, _⟩ := h
            have h1 := runL_le k 5 (t.drop i)
            refine ⟨by omega, by have := h1.2; simp at this; omega, ?_⟩
            have := runL_mem k 5 (t.drop i) (runL k 5 (t.drop i) - 1) (by omega)
            rw [List.getElem?_drop] at this
            rw [show i + runL k 5 (t.drop i) - 1 = i + (runL k 5 (t.drop i) - 1) by omega]
            exact this
          · have := ih _ _ _ _ h; exact ⟨by omega, this.2⟩
      · split at h
        · split at h
          · have := ih _ _ _ _ h; exact ⟨by omega, this.2⟩
          · split at h
            · simp at h
            · split at h
              · simp at h
              · split at h
                · simp at h
                · have := ih _ _ _ _ h; exact ⟨by omega, this.2⟩
        · split at h
          · split at h
            · simp at h
            · have := ih _ _ _ _ h; exact ⟨by omega, this.2⟩
          · have := ih _ _ _ _ h; exact ⟨by omega, this.2⟩

/-- a token ends behind its place and ahead of the text's end -/
theorem tokR_at {t qs : List Nat} (ht : Txt0 t) (hq : 10 ∉ qs) {words i n o : Nat} (hi : i < t.length) (h10 : t[i]? ≠ some 10) {xs : List V} {e n' o' : Nat} (h : tokR t qs words i n o = (some (xs, e), n', o')) : i < e ∧ e < t.length := by
  obtain ⟨k, hk⟩ := get_of_lt hi
  have lt_of : ∀ {e q : Nat}, i < e → e ≤ t.length → t[e - 1]? = some q → q ≠ 10 → e < t.length := fun {e q} h1 h2 h3 h4 => by
    rcases Nat.lt_or_ge e t.length with h | h
    · exact h
    · have : e - 1 = t.length - 1 := by omega
      rw [this, ht.last] at h3
      cases h3; exact absurd rfl h4
  unfold tokR at h
  rw [hk] at h
  simp only [Option.getD_some] at h
  split at h
  · rename_i hkq
    split at h
    · simp at h
    · rename_i v e1 n1 o1 hs
      simp only [Prod.mk.injEq, Option.some.injEq] at h
      obtain ⟨⟨_, rfl⟩, _⟩ := h
      obtain ⟨h1, h2, h3⟩ := strF_at _ _ _ _ _ _ _ _ _ hs
      have hie : i < e1 := by split at h1 <;> omega
      exact ⟨hie, lt_of hie h2 h3 fun e => hq (e ▸ hkq)⟩
  · split at h
    · simp at h
    · simp only [Prod.mk.injEq, Option.some.injEq] at h
      obtain ⟨⟨_, rfl⟩, _⟩ := h
      exact ⟨by omega, lt_of (by omega) (by omega) (by simpa using hk) fun e => h10 (by rw [hk, e])⟩
    · rename_i a b e1 hs
      simp only [Prod.mk.injEq, Option.some.injEq] at h
      obtain ⟨⟨_, rfl⟩, _⟩ := h
      exact nameR_at ht hi hs
theorem Rel.hp {c : Cx} {l : Loc} {hp hp' : List (Addr × AO)} {tm : List (Value × V)} {s : Shared} (h : SubL hp hp') (r : Rel c ⟨l, hp'⟩ tm s) : Rel c ⟨l, hp⟩ tm s := by
  obtain ⟨m, mu, fz, fr, w⟩ := r
  exact Rel.weak (σ := ⟨l, hp'⟩) ⟨fun _ h => h, w.ln, h⟩ w.rel
/-- objects that the call made are forgotten -/
theorem HOs_sub {c : Cx} {σ : St} {f : List Value → Sem Value} {xs : List V} {Q : Post} {R : RPost} (h : HOs c σ f xs (fun x σ' => ∃ hp, SubL hp σ'.hp ∧ Q x ⟨σ'.loc, hp⟩) R) : HOs c σ f xs Q R :=
  fun us tm s r hl => wpAny_mono (h us tm s r hl) (fun _ _ ⟨x, ⟨l, hp'⟩, r', hp, hs, q⟩ => ⟨x, ⟨l, hp⟩, Rel.hp hs r', q⟩) fun _ _ q => q
theorem n_skip {P : Params} : nsIn (hd.heap_39 P) mainGlobals (Str.ofString "_law_skip") = some (some (.ref 182)) := by kernel_rfl
theorem n_string {P : Params} : nsIn (hd.heap_39 P) mainGlobals (Str.ofString "_law_string") = some (some (.ref 189)) := by kernel_rfl
theorem n_name {P : Params} : nsIn (hd.heap_39 P) mainGlobals (Str.ofString "_law_name") = some (some (.ref 196)) := by kernel_rfl
theorem Fx.mono {c : Cx} {k k' : Nat} (F : Fx c k) (h : k' ≤ k) : Fx c k' := ⟨F.ok, ⟨by have := F.room.1; omega, by have := F.room.2; omega⟩, F.K, F.g, F.lim⟩
theorem Fx.units {c : Cx} {k : Nat} (F : Fx c k) : c.A.units + 10 < cLine := by
  have := F.room.2
  show _ < 9900
  omega

def tkV : Option (List V) → V
  | none => .none
  | some xs => .lst xs
theorem tokR_len {t qs : List Nat} {words i n o : Nat} {xs : List V} {e n' o' : Nat} (h : tokR t qs words i n o = (some (xs, e), n', o')) : xs.length = 2 := by
  unfold tokR at h
  split at h
  · split at h
    · simp at h
    · simp only [Prod.mk.injEq, Option.some.injEq] at h; rw [← h.1.1]; rfl
  · split at h
    · simp at h
    · simp only [Prod.mk.injEq, Option.some.injEq] at h; rw [← h.1.1]; rfl
    · simp only [Prod.mk.injEq, Option.some.injEq] at h; rw [← h.1.1]; rfl
theorem call_due {c : Cx} (F : Fx c 3) (hnd : c.A.handled = none) {σ : St} {t qs : List Nat} {Q : Post} {R : RPost} {words : Nat} (ht : Txt1 t) (hq : 10 ∉ qs) (q : Q (.lst (lexR t qs words)) σ) : HOs c σ (fun us => call (.ref 203) us) [.str t, .str qs, .int words] Q R := by
  refine HOs_sub ?_
  intro us tm s r hlen
  refine call_X F.ok (k := 2) F.room (xs := ["text", "quotes", "words"]) (F.K _ _ rfl) (codeRec_of F.K (by rfl)) F.lim ?_ (by decide) ?_ r hlen ?_ (by rfl) (by rfl) (by rfl) (by decide)
  · intro s _
    obtain ⟨u1, u2, u3, rfl⟩ : ∃ u1 u2 u3, us = [u1, u2, u3] := by
      match us, hlen with
      | [a, b, d], _ => exact ⟨a, b, d, rfl⟩
    exact BindsTo.of_eq rfl
  · decide
  · intro c' ok' room' e1 e2 e3 hS e5
    have F' := F.inner ok' room' e2 e3 e5
    simp only [List.zip_cons_cons, List.zip_nil_right]
    have hz := ht.small
    walk_at "S"
    refine HE_list rfl ?_
    walk_at "W"
    refine ⟨by decide, fun a => ?_⟩
    walk_at "W"
    walk_at "S"
    refine HE_list rfl ?_
    walk_at "W"
    refine ⟨by decide, fun b => ?_⟩
    walk_at "W"
    walk_at "S"
    refine E_def F' hS n_skip (keeps_fn (F'.K _ _ rfl) rfl) rfl (by decide) rfl rfl ?_
    walk_at "W"
    refine call_skip (i := 0) (n := 0) (o := 0) (F'.mono (by omega)) ht.toTxt0 (by omega) (fun x => (b, .list []) :: (a, x) :: σ.hp) (fun x y => .tail .head) rfl ?_
    dsimp only
    walk_at "W"
    have hstart : ∀ (i n o f : Nat), t.length < f + i → 1 ≤ f → ((skipR t i n o).1 < 0 → 1 ≤ f) ∧ (∀ j : Nat, (skipR t i n o).1 = j → j < t.length ∧ t[j]? ≠ some 10 ∧ t.length < f + j) := fun i n o f h1 h2 => ⟨fun _ => h2, fun j hj => by
      obtain ⟨j', e1, e2, e3, _, _, e4⟩ := skipR_at ht.toTxt0 (i := i) (n := n) (o := o) (by omega)
      have : j' = j := by omega
      subst this
      exact ⟨e3, eolAt_ne e4, by omega⟩⟩
    refine HS_cons ?_
    refine HS1_while ok' (fun f σ' => ∃ (A : Int) (n o : Nat) (due : List V), (A < 0 → 1 ≤ f) ∧ (∀ j : Nat, A = j → j < t.length ∧ t[j]? ≠ some 10 ∧ t.length < f + j) ∧ due ++ lexT t qs words f A n o = lexR t qs words ∧ due.length + f ≤ t.length + 2 ∧
      σ' = ⟨[("text", .str t), ("quotes", .str qs), ("words", .int words), ("seen", .ref a), ("due", .ref b), ("at", .int A)], (b, .list due) :: (a, .list [.int n, .int o]) :: σ.hp⟩) _ ?_
      (σ₀ := ⟨[("text", .str t), ("quotes", .str qs), ("words", .int words), ("seen", .ref a), ("due", .ref b), ("at", .int (skipR t 0 0 0).1)], (b, .list []) :: (a, .list [.int (skipR t 0 0 0).2.1, .int (skipR t 0 0 0).2.2]) :: σ.hp⟩) (by walk_at "weak")
      ⟨_, _, _, [], (hstart 0 0 0 (t.length + 2) (by omega) (by omega)).1, (hstart 0 0 0 (t.length + 2) (by omega) (by omega)).2, rfl, by simp, rfl⟩
    rintro f _ ⟨A, n, o, due, hA1, hA2, hR, hlen, rfl⟩
    walk_at "W"
    refine ⟨fun hb => ?_, fun hb => ?_⟩
    · have hA : 0 ≤ A := of_decide_eq_true hb
      obtain ⟨i, rfl⟩ := Int.eq_ofNat_of_zero_le hA
      obtain ⟨hi, h10, hfi⟩ := hA2 i rfl
      obtain ⟨k, hk⟩ := get_of_lt hi
      obtain ⟨f', rfl⟩ : ∃ f', f = f' + 1 := ⟨f - 1, by omega⟩
      have hstep : lexT t qs words (f' + 1) i n o = match tokR t qs words i n o with
          | (none, n', o') => [refuseV n' o']
          | (some (xs, e), n', o') => .lst (xs ++ [.int e, .int n', .int o']) :: lexT t qs words f' (skipR t e n' o').1 (skipR t e n' o').2.1 (skipR t e n' o').2.2 := by
        conv => lhs; unfold lexT
        rw [if_neg (by omega), Int.toNat_natCast]
        all_goals rfl
      walk_at "S"
      walk_at "W"
      refine HO_item_str (fun _ _ => rfl) (by omega) (by omega) (by rw [nat0]; exact hk) ?_
      walk_at "W"
      refine HS_cutw (fun σ' => ∃ (tk : Option (List V)) (e : Int) (n' o' : Nat), ((tk = none ∧ tokR t qs words i n o = (none, n', o')) ∨ ∃ xs en, tk = some xs ∧ e = (en : Nat) ∧ tokR t qs words i n o = (some (xs, en), n', o')) ∧
        σ' = ⟨[("text", .str t), ("quotes", .str qs), ("words", .int words), ("seen", .ref a), ("due", .ref b), ("at", .int e), ("token", tkV tk)], (b, .list due) :: (a, .list [.int n', .int o']) :: σ.hp⟩) ?_ ?_
      · have htok : tokR t qs words i n o = tokR t qs words i n o := rfl
        conv at htok => rhs; unfold tokR
        rw [hk] at htok
        simp only [Option.getD_some] at htok
        refine HS1_if ?_
        walk_at "W"
        refine ⟨fun hb => ?_, fun hb => ?_⟩
        · have hkq : k ∈ qs := of_decide_eq_true hb
          rw [if_pos hkq] at htok
          refine HS_cutw (fun σ' => σ' = ⟨[("text", .str t), ("quotes", .str qs), ("words", .int words), ("seen", .ref a), ("due", .ref b), ("at", .int i), ("sign", .str [k]), ("size", .int ((if cut t i (i + 3) = List.replicate 3 k then 3 else 1 : Nat) : Int))], (b, .list due) :: (a, .list [.int n, .int o]) :: σ.hp⟩) ?_ ?_
          · refine HS1_assign1 ?_ rfl rfl rfl
            walk_at "W"
            refine ⟨_, _, _, rfl, rfl, rfl, by omega, by omega, by walk_at "sz", ?_⟩
            rw [nat0, show ((i : Int) + 3).toNat = i + 3 by omega]
            walk_at "W"
            refine HO_mul_str (n := 3) (by omega) ?_
            walk_at "W"
            refine ⟨fun hb => ?_, fun hb => ?_⟩
            · have h3 : cut t i (i + 3) = List.replicate 3 k := of_decide_eq_true hb
              rw [if_pos h3]
              walk_at "W"
              exact ⟨_, by walk_at "weak", rfl⟩
            · have h3 : ¬ cut t i (i + 3) = List.replicate 3 k := of_decide_eq_false hb
              rw [if_neg h3]
              walk_at "W"
              exact ⟨_, by walk_at "weak", rfl⟩
          · rintro _ rfl
            have hsz : i + (if cut t i (i + 3) = List.replicate 3 k then 3 else 1) ≤ t.length := by
              split
              · rename_i h3
                have := congrArg List.length h3
                unfold cut at this
                simp at this
                omega
              · omega
            have hlg : decide (((if cut t i (i + 3) = List.replicate 3 k then 3 else 1 : Nat) : Int) = 3) = decide (cut t i (i + 3) = List.replicate 3 k) := by
              split <;> simp_all
            generalize hS1 : (if cut t i (i + 3) = List.replicate 3 k then 3 else 1 : Nat) = sz at *
            refine HS_cons ?_
            refine HS1_assign1 ?_ rfl rfl rfl
            refine E_def F' hS n_string (keeps_fn (F'.K _ _ rfl) rfl) rfl (by decide) rfl rfl ?_
            walk_at "W"
            rw [hlg, show (i : Int) + (sz : Int) = ((i + sz : Nat) : Int) by omega]
            refine call_string (n := n) (o := o) (F'.mono (by omega)) (e5.trans hnd) ht hsz (fun x => (b, .list due) :: (a, x) :: σ.hp) (fun x y => .tail .head) rfl ?_
            rcases hsr : strG t k (decide (cut t i (i + 3) = List.replicate 3 k)) (i + sz) [] n o with ⟨v, e, n', o'⟩
            rw [hsr] at htok
            dsimp only
            refine HA_tup ok' (e5.trans hnd) rfl rfl ?_
            refine HAO_cons (HF_of ?_)
            walk_at "W"
            refine HAO_cons (HF_of ?_)
            walk_at "W"
            refine HAO_nil ?_
            walk_at "S"
            walk_at "W"
            cases v with
            | none =>
              refine HO_is_none rfl ?_
              walk_at "W"
              refine ⟨fun _ => ?_, fun h => (nomatch h)⟩
              walk_at "W"
              refine HS_nil ?_
              exact ⟨_, by walk_at "weak", none, e, n', o', .inl ⟨rfl, htok⟩, rfl⟩
            | some v =>
              refine HO_is_none rfl ?_
              walk_at "W"
              refine ⟨fun h => (nomatch h), fun _ => ?_⟩
              refine HE_lst rfl ?_
              walk_at "W"
              refine ⟨by simp, ?_⟩
              walk_at "W"
              refine HS_nil ?_
              exact ⟨_, by walk_at "weak", some [.str sText, .str v], e, n', o', .inr ⟨_, e, rfl, rfl, htok⟩, rfl⟩
        · have hkq : k ∉ qs := of_decide_eq_false hb
          rw [if_neg hkq] at htok
          refine HS_cons ?_
          refine HS1_assign1 ?_ rfl rfl rfl
          refine E_def F' hS n_name (keeps_fn (F'.K _ _ rfl) rfl) rfl (by decide) rfl rfl ?_
          walk_at "W"
          refine call_name F' (e5.trans hnd) ht hi (fun hn j => ?_) (fun hn => ?_) (fun w1 w2 e hn => ?_)
          · rw [hn] at htok
            dsimp only at htok
            refine HA_tup ok' (e5.trans hnd) rfl rfl ?_
            refine HAO_cons (HF_of ?_)
            walk_at "W"
            refine HAO_cons (HF_of ?_)
            walk_at "W"
            refine HAO_nil ?_
            walk_at "S"
            walk_at "W"
            refine HE_lst rfl ?_
            walk_at "W"
            refine ⟨by decide, ?_⟩
            refine HO_eq_none_nil ok' (by have := F'.units; omega) (.inl rfl) ?_
            walk_at "W"
            refine ⟨fun h => (nomatch h), fun _ => ?_⟩
            walk_at "W"
            walk_at "S"
            walk_at "W"
            refine HE_lst rfl ?_
            walk_at "W"
            refine ⟨by decide, ?_⟩
            refine HO_eq_none_nil ok' (by have := F'.units; omega) (.inl rfl) ?_
            walk_at "W"
            refine ⟨fun h => (nomatch h), fun _ => ?_⟩
            repeat refine HS_nil ?_
            exact ⟨_, by walk_at "weak", none, j, n, o, .inl ⟨rfl, htok⟩, rfl⟩
          · rw [hn] at htok
            dsimp only at htok
            refine HA_tup ok' (e5.trans hnd) rfl rfl ?_
            refine HAO_cons (HF_of ?_)
            walk_at "W"
            refine HAO_cons (HF_of ?_)
            walk_at "W"
            refine HAO_nil ?_
            walk_at "S"
            walk_at "W"
            refine HE_lst rfl ?_
            walk_at "W"
            refine ⟨by decide, ?_⟩
            refine HO_eq_lst_nil ok' (by have := F'.units; omega) (.inl rfl) (.inl rfl) ?_
            walk_at "W"
            refine ⟨fun _ => ?_, fun h => (nomatch h)⟩
            walk_at "W"
            walk_at "S"
            walk_at "W"
            refine HE_lst rfl ?_
            walk_at "W"
            refine ⟨by decide, ?_⟩
            refine HO_eq_lst_nil ok' (by have := F'.units; omega) (.inl rfl) (.inl rfl) ?_
            walk_at "W"
            refine ⟨fun _ => ?_, fun h => (nomatch h)⟩
            walk_at "S"
            refine HE_lst rfl ?_
            walk_at "W"
            refine ⟨by simp, ?_⟩
            walk_at "W"
            repeat refine HS_nil ?_
            exact ⟨_, by walk_at "weak", some [.str sSign, .str [k]], (i : Int) + 1, n, o, .inr ⟨_, i + 1, rfl, rfl, htok⟩, rfl⟩
          · rw [hn] at htok
            dsimp only at htok
            refine HA_tup ok' (e5.trans hnd) rfl rfl ?_
            refine HAO_cons (HF_of ?_)
            walk_at "W"
            refine HAO_cons (HF_of ?_)
            walk_at "W"
            refine HAO_nil ?_
            walk_at "S"
            walk_at "W"
            refine HE_lst rfl ?_
            walk_at "W"
            refine ⟨by decide, ?_⟩
            refine HO_eq_lst_nil ok' (by have := F'.units; omega) (.inl rfl) (.inl rfl) ?_
            walk_at "W"
            refine ⟨fun h => (nomatch h), fun _ => ?_⟩
            walk_at "W"
            walk_at "S"
            walk_at "W"
            refine HE_lst rfl ?_
            walk_at "W"
            refine ⟨by decide, ?_⟩
            refine HO_eq_lst_nil ok' (by have := F'.units; omega) (.inl rfl) (.inl rfl) ?_
            walk_at "W"
            refine ⟨fun h => (nomatch h), fun _ => ?_⟩
            repeat refine HS_nil ?_
            exact ⟨_, by walk_at "weak", some [.str sName, .tup [.str w1, .str w2]], e, n, o, .inr ⟨_, e, rfl, rfl, htok⟩, rfl⟩
      · rintro _ ⟨tk, e, n', o', hor, rfl⟩
        rw [hstep] at hR
        walk_at "S"
        walk_at "W"
        rcases hor with ⟨rfl, htok⟩ | ⟨xs, en, rfl, rfl, htok⟩
        · rw [htok] at hR
          dsimp only at hR
          refine HO_is_none rfl ?_
          walk_at "W"
          refine ⟨fun _ => ?_, fun h => (nomatch h)⟩
          walk_at "S"
          walk_at "W"
          refine HE_lst rfl ?_
          walk_at "W"
          refine HE_lst rfl ?_
          walk_at "W"
          refine ⟨by decide, ?_⟩
          walk_at "W"
          refine HO_add_lst ok' (.inl rfl) (.inr ⟨a, rfl, by walk_at "mem"⟩) (by simp) ?_
          walk_at "W"
          refine ⟨by simp, ?_⟩
          refine HO_add_lst ok' (.inr ⟨b, rfl, by walk_at "mem"⟩) (.inl rfl) (by simp; omega) ?_
          rw [← hR] at q
          exact ⟨σ.hp, .drop (.drop (.refl _)), q⟩
        · rw [htok] at hR
          dsimp only at hR
          refine HO_is_none rfl ?_
          walk_at "W"
          refine ⟨fun h => (nomatch h), fun _ => ?_⟩
          repeat refine HS_nil ?_
          obtain ⟨g1, g2⟩ := tokR_at ht.toTxt0 hq hi h10 htok
          have hxl := tokR_len htok
          walk_at "S"
          refine HE_methB ok' PySem.F.plainAttrs_list PySem.F.slot_list_append PySem.F.type_list_append (by rfl) (by rfl) (by decide) (by decide) ?_
          walk_at "W"
          refine ⟨hasT_lst ok' (.inr ⟨b, rfl, by walk_at "mem"⟩), ?_⟩
          walk_at "W"
          refine HE_lst rfl ?_
          walk_at "W"
          refine ⟨by simp, ?_⟩
          refine HO_add_lst (xs := xs) (ys := [.int en]) ok' (.inl rfl) (.inl rfl) (by simp; omega) ?_
          walk_at "W"
          refine HO_add_lst (ys := [.int n', .int o']) ok' (.inl rfl) (.inr ⟨a, rfl, by walk_at "mem"⟩) (by simp; omega) ?_
          walk_at "W"
          refine HO_append .head (by omega) ?_
          refine ⟨rfl, ?_⟩
          walk_at "S"
          refine E_def F' hS n_skip (keeps_fn (F'.K _ _ rfl) rfl) rfl (by decide) rfl rfl ?_
          walk_at "W"
          refine call_skip (i := en) (n := n') (o := o') (F'.mono (by omega)) ht.toTxt0 (by omega) (fun x => (b, .list (due ++ [.lst (xs ++ [.int en] ++ [.int n', .int o'])])) :: (a, x) :: σ.hp) (fun x y => .tail .head) rfl ?_
          dsimp only
          walk_at "W"
          repeat refine HS_nil ?_
          refine ⟨f', ⟨[("text", .str t), ("quotes", .str qs), ("words", .int words), ("seen", .ref a), ("due", .ref b), ("at", .int (skipR t en n' o').1)], (b, .list (due ++ [.lst (xs ++ [.int en] ++ [.int n', .int o'])])) :: (a, .list [.int (skipR t en n' o').2.1, .int (skipR t en n' o').2.2]) :: σ.hp⟩, by omega, by walk_at "weak", _, _, _, _, (hstart en n' o' f' (by omega) (by omega)).1, (hstart en n' o' f' (by omega) (by omega)).2, ?_, ?_, rfl⟩
          · rw [← hR]; simp
          · simp; omega
    · have hA : ¬ 0 ≤ A := of_decide_eq_false hb
      refine HS_nil ?_
      walk_at "S"
      walk_at "W"
      refine HE_lst rfl ?_
      walk_at "W"
      refine HE_lst rfl ?_
      walk_at "W"
      refine ⟨by decide, ?_⟩
      walk_at "W"
      refine HO_add_lst ok' (.inl rfl) (.inr ⟨a, rfl, by walk_at "mem"⟩) (by simp) ?_
      walk_at "W"
      refine ⟨by simp, ?_⟩
      refine HO_add_lst ok' (.inr ⟨b, rfl, by walk_at "mem"⟩) (.inl rfl) (by simp; omega) ?_
      obtain ⟨f', rfl⟩ : ∃ f', f = f' + 1 := ⟨f - 1, by have := hA1 (by omega); omega⟩
      unfold lexT at hR
      rw [if_pos (by omega)] at hR
      rw [← hR] at q
      exact ⟨σ.hp, .drop (.drop (.refl _)), q⟩
theorem getD_arr (t : List Nat) (p : Nat) : t.toArray.getD p 0 = t[p]?.getD 0 := by simp [Array.getD_eq_getD_getElem?]
theorem cnt_eq {f : Nat → Bool} {T : Array Nat} : ∀ (k p d : Nat), (∀ j, j < d → f (T.getD (p + j) 0) = true) → (d = k ∨ f (T.getD (p + d) 0) = false) → d ≤ k → cntN f T k p = d
  | 0, p, d, _, _, h => by
    have : d = 0 := by omega
    subst this; rfl
  | k + 1, p, 0, _, h2, _ => by
    unfold cntN
    have := h2.resolve_left (by omega)
    rw [Nat.add_zero] at this
    rw [this]; rfl
  | k + 1, p, d + 1, h1, h2, h3 => by
    unfold cntN
    have h0 := h1 0 (by omega)
    rw [Nat.add_zero] at h0
    rw [h0, if_pos rfl, cnt_eq k (p + 1) d (fun j hj => by have := h1 (j + 1) (by omega); rwa [show p + (j + 1) = p + 1 + j by omega] at this)
      (h2.imp (fun e => by omega) (fun e => by rwa [show p + (d + 1) = p + 1 + d by omega] at e)) (by omega)]
theorem isBl_of {t : List Nat} {j k : Nat} (h : t[j]? = some k) : isBl (t.toArray.getD j 0) = decide (k = 32 ∨ k = 9) := by
  rw [getD_arr, h, Option.getD_some]
  unfold isBl
  by_cases h1 : k = 32 <;> by_cases h2 : k = 9 <;> simp [h1, h2]
theorem blanks_at {t : List Nat} : ∀ (m i : Nat), t.length - i = m → i ≤ t.length → (∀ j, j < blanks (t.drop i) → ∃ k, t[i + j]? = some k ∧ (k = 32 ∨ k = 9)) ∧ (i + blanks (t.drop i) = t.length ∨ ∃ k, t[i + blanks (t.drop i)]? = some k ∧ ¬ (k = 32 ∨ k = 9))
  | 0, i, h, hi => by
    have : i = t.length := by omega
    subst this
    have e : blanks (t.drop t.length) = 0 := by rw [List.drop_length]; rfl
    rw [e]
    exact ⟨fun j hj => by omega, .inl rfl⟩
  | m + 1, i, h, hi => by
    obtain ⟨k, hk⟩ := get_of_lt (show i < t.length by omega)
    rw [blanks_step hk]
    by_cases hb : k = 32 ∨ k = 9
    · rw [if_pos hb]
      obtain ⟨h1, h2⟩ := blanks_at (t := t) m (i + 1) (by omega) (by omega)
      refine ⟨fun j hj => ?_, ?_⟩
      · cases j with
        | zero => exact ⟨k, hk, hb⟩
        | succ j => rw [show i + (j + 1) = i + 1 + j by omega]; exact h1 j (by omega)
      · rw [show i + (blanks (t.drop (i + 1)) + 1) = i + 1 + blanks (t.drop (i + 1)) by omega]; exact h2
    · rw [if_neg hb]
      exact ⟨fun j hj => by omega, .inr ⟨k, hk, hb⟩⟩
theorem cnt_blanks {t : List Nat} {i : Nat} (hi : i ≤ t.length) : cntN isBl t.toArray (t.length - i) i = blanks (t.drop i) := by
  obtain ⟨h1, h2⟩ := blanks_at (t := t) _ i rfl hi
  have hle := blanks_le (t.drop i)
  simp at hle
  refine cnt_eq _ _ _ (fun j hj => ?_) ?_ hle
  · obtain ⟨k, hk, hb⟩ := h1 j hj
    rw [isBl_of hk]; simpa using hb
  · rcases h2 with h | ⟨k, hk, hb⟩
    · left; omega
    · right; rw [isBl_of hk]; simpa using hb
theorem eol_end (T : Array Nat) (L : Nat) : Ends (Sre.forMatch eolC T 1 L L false false) fun r => r.outcome = some .failed := by
  have hm : ∃ sn, Sre.forMatch eolC T 1 L L false false = ((q0 L).m eolC T L L sn).say false := by
    refine ⟨({} : Sre.Seen).add 14, ?_⟩
    have key : ∀ c : Bool, c = true → (if c = true then ((q0 L).m eolC T L L (({} : Sre.Seen).add 14)).say false else (q0 L).m eolC T L L (({} : Sre.Seen).add 14)) = ((q0 L).m eolC T L L (({} : Sre.Seen).add 14)).say false := by
      rintro c rfl; rfl
    exact key (1 != 0 && decide (L ≤ L) && decide (L - L < 1)) (by simp)
  obtain ⟨sn, hm⟩ := hm
  rw [hm]
  exact ⟨1, by omega, _, rfl, rfl, rfl⟩
/-- a line end found at a place, or none -/
theorem eol_at {t : List Nat} (ht : Txt0 t) {i : Nat} (hi : i ≤ t.length) :
    (i + blanks (t.drop i) < t.length ∧ t[eolAt t (i + blanks (t.drop i))]? = some 10 ∧ Ends (Sre.forMatch eolC t.toArray 1 i t.length false false) fun r => r.outcome = some .matched ∧ r.handed = eolAt t (i + blanks (t.drop i)) + 1 ∧ ∃ sp, MadeM 1 r sp) ∨
    ((i + blanks (t.drop i) = t.length ∨ t[eolAt t (i + blanks (t.drop i))]? ≠ some 10) ∧ Ends (Sre.forMatch eolC t.toArray 1 i t.length false false) fun r => r.outcome = some .failed) := by
  have hz := ht.small
  rcases Nat.lt_or_ge i t.length with hil | hil
  · obtain ⟨e1, e2, e3⟩ := eol_ends (T := t.toArray) (L := t.length) (i := i) hz hil (p := i + blanks (t.drop i)) (by rw [cnt_blanks hi])
    have hle := blanks_le (t.drop i)
    simp at hle
    have hpl : i + blanks (t.drop i) ≤ t.length := by omega
    generalize i + blanks (t.drop i) = p at *
    rcases Nat.lt_or_ge p t.length with hp | hp
    · obtain ⟨k, hk⟩ := get_of_lt hp
      have hT : t.toArray.getD p 0 = k := by rw [getD_arr, hk]; rfl
      by_cases h35 : k = 35
      · left
        obtain ⟨e, he, hpe, he10⟩ := findI_found ht hp
        have hE : eolAt t p = e := by unfold eolAt; rw [if_pos (by rw [hk, h35]), he, nat0]
        have hel := (List.getElem?_eq_some_iff.mp he10).1
        have hne : p ≠ e := fun q => by rw [← q, hk, h35] at he10; cases he10
        have hcnt : cntN notNl t.toArray (t.length - (p + 1)) (p + 1) = e - (p + 1) := by
          unfold findI at he
          cases hf : findC 10 (t.drop p) p with
          | none => rw [hf] at he; have h : (-1 : Int) = (e : Int) := he; omega
          | some e' =>
            rw [hf] at he
            have : e' = e := by have h : (e' : Int) = (e : Int) := he; omega
            subst this
            obtain ⟨_, _, h3⟩ := findC_some hf
            refine cnt_eq _ _ _ (fun j hj => ?_) (.inr ?_) (by omega)
            · have := h3 (p + 1 + j) (by omega) (by omega)
              rw [List.getElem?_drop, show p + (p + 1 + j - p) = p + 1 + j by omega] at this
              obtain ⟨k', hk'⟩ := get_of_lt (show p + 1 + j < t.length by omega)
              rw [getD_arr, hk', Option.getD_some]
              rw [hk'] at this
              unfold notNl
              simpa using this
            · rw [show p + 1 + (e' - (p + 1)) = e' by omega, getD_arr, he10]; rfl
        rw [hE]
        refine ⟨hp, he10, ?_⟩
        obtain ⟨k, hk, r, h1, h2, h3⟩ := e1 e hp (hT.trans h35) (by rw [hcnt]; omega) hel (by rw [getD_arr, he10]; rfl)
        exact ⟨k, hk, r, h1, h2, h3.1, h3.2.2.1, _, madeM1y h3.2.2.2.2.1 h3.2.2.2.1 h3.2.2.2.2.2⟩
      · by_cases hcr : cut t p (p + 2) = [13, 10]
        · left
          have hE : eolAt t p = p + 1 := by unfold eolAt; rw [if_neg (by rw [hk]; simpa using h35), if_pos hcr]
          have hp1 : p + 1 < t.length := by
            rcases Nat.lt_or_ge (p + 1) t.length with h3 | h3
            · exact h3
            · rw [cut_two hk, cut_end h3] at hcr; simp at hcr
          obtain ⟨k', hk'⟩ := get_of_lt hp1
          rw [cut_two hk, cut_one hk'] at hcr
          simp only [List.cons.injEq, and_true] at hcr
          rw [hE]
          refine ⟨hp, by rw [hk', hcr.2], ?_⟩
          obtain ⟨k2, hk2, r, h1, h2, h3⟩ := e2 (p + 1) hp (by rw [hT]; exact h35) (.inl ⟨hT.trans hcr.1, rfl, hp1, by rw [getD_arr, hk', hcr.2]; rfl⟩)
          exact ⟨k2, hk2, r, h1, h2, h3.1, h3.2.2.1, _, madeM1n h3.2.2.2.1 h3.2.2.2.2⟩
        · have hE : eolAt t p = p := by unfold eolAt; rw [if_neg (by rw [hk]; simpa using h35), if_neg hcr]
          rw [hE, hk]
          by_cases h10 : k = 10
          · left
            refine ⟨hp, by rw [h10], ?_⟩
            obtain ⟨k2, hk2, r, h1, h2, h3⟩ := e2 p hp (by rw [hT]; exact h35) (.inr ⟨hT.trans h10, rfl⟩)
            exact ⟨k2, hk2, r, h1, h2, h3.1, h3.2.2.1, _, madeM1n h3.2.2.2.1 h3.2.2.2.2⟩
          · right
            refine ⟨.inr (by simpa using h10), ?_⟩
            refine e3 (.inr (by rw [hT]; exact h35)) (.inr (by rw [hT]; exact h10)) ?_
            by_cases h13 : k = 13
            · rcases Nat.lt_or_ge (p + 1) t.length with hp1 | hp1
              · obtain ⟨k', hk'⟩ := get_of_lt hp1
                right; right; right
                rw [getD_arr, hk', Option.getD_some]
                intro e; apply hcr
                rw [cut_two hk, cut_one hk', h13, e]
              · right; right; left; omega
            · right; left; rw [hT]; exact h13
    · right
      have : p = t.length := by omega
      exact ⟨.inl this, e3 (.inl this) (.inl this) (.inl this)⟩
  · right
    have : i = t.length := by omega
    subst this
    refine ⟨.inl ?_, eol_end _ _⟩
    rw [List.drop_length]; rfl
/-- what a parser bears -/
structure PX where
  b1 : Addr
  b2 : Addr
  b3 : Addr
  b4 : Addr
  turtle : Bool
def PX.delims (p : PX) : List V := if p.turtle then [.str [34], .str [39]] else [.str [34]]
def attrsP (p : PX) (words n o : Nat) : Loc :=
  [("_bindings", .ref p.b1), ("_store", .none), ("_thisDoc", .str []), ("lines", .int n), ("startOfLine", .int o), ("_genPrefix", .str []), ("keywords", .lst (strsV kwds)), ("keywordsSet", .int words),
   ("_anonymousNodes", .ref p.b2), ("_variables", .ref p.b3), ("_parentVariables", .ref p.b4), ("_reason", .none), ("turtle", .bool p.turtle), ("string_delimiters", .tup p.delims), ("_baseURI", .none)]
theorem kc135 {P : Params} : KC (hd.heap_39 P) 135 := ⟨by kernel_rfl, by kernel_rfl, by kernel_rfl, by kernel_rfl, by kernel_rfl⟩
theorem tk_lines {P : Params} : takerIn (hd.heap_39 P) 135 (Str.ofString "lines") = some none := by kernel_rfl
theorem tk_start {P : Params} : takerIn (hd.heap_39 P) 135 (Str.ofString "startOfLine") = some none := by kernel_rfl
theorem fi_lines {P : Params} : findIn (hd.heap_39 P) (.ref 135) (Str.ofString "lines") = some none := by kernel_rfl
theorem fi_start {P : Params} : findIn (hd.heap_39 P) (.ref 135) (Str.ofString "startOfLine") = some none := by kernel_rfl
theorem put_lines (p : PX) (words n o n' : Nat) : putA "lines" (.int n') (attrsP p words n o) = attrsP p words n' o := by simp [putA, attrsP]
theorem put_start (p : PX) (words n o o' : Nat) : putA "startOfLine" (.int o') (attrsP p words n o) = attrsP p words n o' := by simp [putA, attrsP]
theorem get_lines (p : PX) (words n o : Nat) : getA "lines" (attrsP p words n o) = some (.int n) := by simp [getA, attrsP]
theorem n_eol {P : Params} : nsIn (hd.heap_39 P) mainGlobals (Str.ofString "eol") = some (some (.ref 53)) := by kernel_rfl
theorem n_eof {P : Params} : nsIn (hd.heap_39 P) mainGlobals (Str.ofString "eof") = some (some (.ref 58)) := by kernel_rfl
theorem n_ws {P : Params} : nsIn (hd.heap_39 P) mainGlobals (Str.ofString "ws") = some (some (.ref 63)) := by kernel_rfl
theorem n_IndexError {P : Params} : nsIn (hd.heap_39 P) mainGlobals (Str.ofString "IndexError") = some none := by kernel_rfl
theorem bb_IndexError : bootBuiltins (Str.ofString "IndexError") = some (.type "IndexError") := by kernel_rfl
section
variable {c : Cx} {k : Nat} {σ : St} {R : RPost} {S : Scope}
theorem pat53 (F : Fx c k) : PatAt c.h0 53 eolC.toList 1 := ⟨_, _, _, _, _, _, F.K _ _ rfl, F.K _ _ rfl, rfl⟩
theorem pat58 (F : Fx c k) : PatAt c.h0 58 eofC.toList 1 := ⟨_, _, _, _, _, _, F.K _ _ rfl, F.K _ _ rfl, rfl⟩
theorem pat63 (F : Fx c k) : PatAt c.h0 63 wsC.toList 0 := ⟨_, _, _, _, _, _, F.K _ _ rfl, F.K _ _ rfl, rfl⟩
theorem pat68 (F : Fx c k) : PatAt c.h0 68 intC.toList 0 := ⟨_, _, _, _, _, _, F.K _ _ rfl, F.K _ _ rfl, rfl⟩
theorem hasT_pat {p : Addr} {code : List Nat} {g : Nat} (F : Fx c k) (h : PatAt c.h0 p code g) : HasT c σ (.ref p) "re.Pattern" := by
  intro tm s v r
  obtain ⟨m, mu, fz, fr, w⟩ := r
  cases is_ref w.is
  obtain ⟨src, fl, tk, tup, vs, n, h1, h2, h3⟩ := pat_keep F.ok w h
  exact ⟨⟨_, h1, rfl⟩, fun a e => by cases e; exact ⟨_, h1, rfl⟩⟩
theorem hasT_mat {t : List Nat} {p : Addr} {i lim li a b : Int} {sp : List V} (F : Fx c k) : HasT c σ (matV t p i lim li (.int a :: .int b :: sp)) "re.Match" := by
  intro tm s v r
  obtain ⟨m, mu, fz, fr, w⟩ := r
  obtain ⟨x, t1, t2, t3, t4, tp, t5, t6, vs, n, rfl, h1, h2, _⟩ := mat_at F.ok w (.head _)
  exact ⟨⟨_, h1, rfl⟩, fun a e => by cases e; exact ⟨_, h1, rfl⟩⟩
/-- pat.match(t, i) and the like -/
theorem E_pat {x f id : String} {p : Addr} {code : List Nat} {groups : Nat} {args : List Expr} {apos pos xp : Pos} {Q : Post} (F : Fx c k) (hS : c.cs = S) (hp : PatAt c.h0 p code groups) (hg : nsIn (KK c) mainGlobals (Str.ofString x) = some (some (.ref p)))
    (hx : S.names.lookup (Str.ofString x) = some .globalImplicit) (hd : (Str.ofString x == ("__debug__" : Str)) = false)
    (sl : Slot "re.Pattern" (Str.ofString f) id) (ty : typeOf (.builtin id) = pure (.type "method_descriptor"))
    (hbase : attributeBase (.Name (Str.ofString x) xp) (Str.ofString f) c.env (eval (.Name (Str.ofString x) xp) c.env) = eval (.Name (Str.ofString x) xp) c.env) (hs : starEach args c.env = args.map fun e => (false, eval e c.env)) (hn : args.length < 20) (hline : (apos.endLine == pos.line) = true)
    (h : HX c σ args (fun zs σ₂ => HOs c σ₂ (fun us => call (.builtin id) us) (.ref p :: zs) Q R) R) : HE c σ (.Call (.Attribute (.Name (Str.ofString x) xp) (Str.ofString f) apos) args [] pos) Q R :=
  HE_methB F.ok pa_pat sl ty hbase hs hn hline (E_glob F hS hg (.ref _) ⟨hasT_pat F hp, h⟩ hx hd)
theorem E_mmeth {o : Expr} {f id : String} {apos pos : Pos} {Q : Post} (F : Fx c k) (sl : Slot "re.Match" (Str.ofString f) id) (ty : typeOf (.builtin id) = pure (.type "method_descriptor"))
    (hbase : attributeBase o (Str.ofString f) c.env (eval o c.env) = eval o c.env) (hline : (apos.endLine == pos.line) = true)
    (h : HE c σ o (fun y σ₁ => ∃ t p i lim li a b sp, y = matV t p i lim li (.int a :: .int b :: sp) ∧ HOs c σ₁ (fun us => call (.builtin id) us) [y] Q R) R) : HE c σ (.Call (.Attribute o (Str.ofString f) apos) [] [] pos) Q R :=
  HE_methB F.ok pa_mat sl ty hbase rfl (by decide) hline (h.mono (fun y σ' ⟨t, p, i, lim, li, a, b, sp, e, q⟩ => ⟨by rw [e]; exact hasT_mat F, HX_nil q⟩) fun _ _ q => q)
end

theorem skipR_step {t : List Nat} (ht : Txt0 t) {i n o : Nat} (hi : i ≤ t.length) : skipR t i n o = if i + blanks (t.drop i) < t.length ∧ t[eolAt t (i + blanks (t.drop i))]? = some 10 then skipR t (eolAt t (i + blanks (t.drop i)) + 1) (n + 1) (eolAt t (i + blanks (t.drop i)) + 1)
    else if i + blanks (t.drop i) = t.length then (-1, n, o) else (((i + blanks (t.drop i) : Nat) : Int), n, o) := by
  have hle := blanks_le (t.drop i)
  simp at hle
  rcases Nat.lt_or_ge i t.length with hl | hl
  · unfold skipR
    obtain ⟨f, e⟩ : ∃ f, t.length + 1 - i = f + 1 := ⟨t.length - i, by omega⟩
    rw [e]
    conv => lhs; unfold skipF
    rw [if_pos hl]
    by_cases h1 : i + blanks (t.drop i) = t.length
    · rw [if_pos h1, if_neg (by omega), if_pos h1]
    · rw [if_neg h1]
      by_cases h2 : t[eolAt t (i + blanks (t.drop i))]? = some 10
      · rw [if_neg (by simpa using h2), if_pos ⟨by omega, h2⟩]
        have := (eolAt_ge ht (show i + blanks (t.drop i) < t.length by omega)).1
        exact skipF_fuel ht _ _ _ _ _ (by omega) (by omega)
      · rw [if_pos (by simpa using h2), if_neg (fun h => h2 h.2), if_neg h1]
  · have : i = t.length := by omega
    subst this
    have e0 : blanks (t.drop t.length) = 0 := by rw [List.drop_length]; rfl
    rw [e0, if_neg (by omega), if_pos (by omega)]
    unfold skipR
    rw [show t.length + 1 - t.length = 1 by omega]
    unfold skipF
    rw [if_neg (by omega)]
/-- blanks ahead count for nothing -/
theorem skipR_bl {t : List Nat} (ht : Txt0 t) {i j n o : Nat} (hij : i ≤ j) (hj : j ≤ t.length) (h : j + blanks (t.drop j) = i + blanks (t.drop i)) : skipR t j n o = skipR t i n o := by
  rw [skipR_step ht hj, skipR_step ht (Nat.le_trans hij hj), h]
theorem HS1_assign2 {c : Cx} {σ : St} {R : RPost} {t u value : Expr} {pos : Pos} {Q : Fl → St → Prop} (h : HE c σ value (fun x σ₁ => HA c σ₁ t x (fun σ₂ => HA c σ₂ u x (Q .next) R) R) R)
    (hs : swapsWithSole [t, u] value pos.line c.env = pure false) (hw : swappedStores [t, u] value c.env = pure none) (he : (assignEach [t, u] c.env).map (·.2) = [assign t c.env, assign u c.env]) : HS1 c σ (.Assign [t, u] value pos) Q R :=
  HS1_assign (h.mono (fun _ _ q => he ▸ HAs_cons (fun v tm s r => wpAny_mono (q v tm s r) (fun _ _ ⟨σ', r', q'⟩ => ⟨σ', r', HAs_one q'⟩) fun _ _ q => q)) fun _ _ q => q) hs hw
theorem call_skipSpace {c : Cx} (F : Fx c 1) {σ : St} {t : List Nat} {Q : Post} {R : RPost} {x d : Addr} {px : PX} {words i n o : Nat} (ht : Txt1 t) (hi : i < t.length) (H : AO → List (Addr × AO)) (hH : ∀ y z, UpH (H y) (x, y) z (H z)) (hσ : σ.hp = H (.inst 135 d (attrsP px words n o)))
    (q : Q (.int (skipR t i n o).1) ⟨σ.loc, H (.inst 135 d (attrsP px words (skipR t i n o).2.1 (skipR t i n o).2.2))⟩) : HOs c σ (fun us => call (.ref 90) us) [.ref x, .str t, .int i] Q R := by
  intro us tm s r hlen
  refine call_X F.ok (k := 0) F.room (xs := ["self", "argstr", "i"]) (F.K _ _ rfl) (codeRec_of F.K (by rfl)) F.lim ?_ (by decide) ?_ r hlen ?_ (by rfl) (by rfl) (by rfl) (by decide)
  · intro s _
    obtain ⟨u1, u2, u3, rfl⟩ : ∃ u1 u2 u3, us = [u1, u2, u3] := by
      match us, hlen with
      | [a, b, d], _ => exact ⟨a, b, d, rfl⟩
    exact BindsTo.of_eq rfl
  · decide
  · intro c' ok' room' e1 e2 e3 hS e5
    have F' := F.inner ok' room' e2 e3 e5
    simp only [List.zip_cons_cons, List.zip_nil_right]
    have hz := ht.small
    rw [hσ]
    obtain ⟨b1, b2⟩ := blanks_at (t := t) _ i rfl (Nat.le_of_lt hi)
    have hble := blanks_le (t.drop i)
    simp at hble
    have hpl : i + blanks (t.drop i) < t.length := by
      rcases b2 with h | ⟨k, hk, _⟩
      · exfalso
        obtain ⟨k, hk, hb⟩ := b1 (t.length - 1 - i) (by omega)
        rw [show i + (t.length - 1 - i) = t.length - 1 by omega, ht.last] at hk
        cases hk
        omega
      · exact (List.getElem?_eq_some_iff.mp hk).1
    refine HS_cutw (fun σ' => σ' = ⟨[("self", .ref x), ("argstr", .str t), ("i", .int ((i + blanks (t.drop i) : Nat) : Int))], H (.inst 135 d (attrsP px words n o))⟩) ?_ ?_
    · refine HS1_try (Rb := fun _ _ => False) ok' F'.K (.inr (F'.blt n_IndexError bb_IndexError (by decide))) (by show c'.cs.names.lookup _ = _; rw [hS]; rfl) (by decide) ?_ (fun _ _ h => h.elim)
      refine HS_cutw (fun σ' => σ' = ⟨[("self", .ref x), ("argstr", .str t), ("i", .int ((i + blanks (t.drop i) : Nat) : Int))], H (.inst 135 d (attrsP px words n o))⟩) ?_ ?_
      · refine HS1_while ok' (fun m σ' => ∃ j : Nat, m = t.length - j ∧ i ≤ j ∧ j < t.length ∧ j + blanks (t.drop j) = i + blanks (t.drop i) ∧ σ' = ⟨[("self", .ref x), ("argstr", .str t), ("i", .int j)], H (.inst 135 d (attrsP px words n o))⟩) _ ?_ (by walk_at "weak") ⟨i, rfl, Nat.le_refl _, hi, rfl, rfl⟩
        rintro m _ ⟨j, rfl, hij, hj, hbl, rfl⟩
        obtain ⟨k, hk⟩ := get_of_lt hj
        refine HT_val ?_ (fun _ => rfl)
        walk_at "W"
        refine ⟨fun _ => ?_, fun h => (nomatch h)⟩
        walk_at "S"
        walk_at "W"
        refine HO_item_str (fun _ _ => rfl) (by omega) (by omega) (by rw [nat0]; exact hk) ?_
        walk_at "W"
        refine HS_cutw (fun σ' => σ' = ⟨[("self", .ref x), ("argstr", .str t), ("i", .int j)], H (.inst 135 d (attrsP px words n o))⟩ ∧ j = i + blanks (t.drop i)) ?_ ?_
        · refine HS1_if (HT_inset ok' (ks := [32, 9]) (.inl rfl) (.cons rfl (.cons rfl .nil)) (by decide) rfl rfl ?_)
          walk_at "W"
          refine ⟨k, rfl, ?_⟩
          dsimp only
          refine ⟨fun hb => ?_, fun hb => ?_⟩
          · have hb' : k = 32 ∨ k = 9 := by simpa using hb
            walk_at "S"
            walk_at "W"
            walk_at "ex"
            walk_at "S"
            dsimp only
            rw [blanks_step hk, if_pos hb'] at hbl
            refine ⟨_, _, ?_, ?_, j + 1, rfl, by omega, by omega, by omega, rfl⟩
            · omega
            · walk_at "weak"
          · have hb' : ¬ (k = 32 ∨ k = 9) := by simpa using hb
            rw [blanks_step hk, if_neg hb'] at hbl
            refine HS_cons (HS1_if (HT_inset ok' (ks := [35, 13, 10]) (.inr rfl) (.cons rfl (.cons rfl (.cons rfl .nil))) (by decide) rfl rfl ?_))
            walk_at "W"
            refine ⟨k, rfl, ?_⟩
            dsimp only
            refine ⟨fun hb => ?_, fun hb => ?_⟩
            · have hb2 : ¬ (k = 35 ∨ k = 13 ∨ k = 10) := by simpa using hb
              walk_at "S"
              walk_at "W"
              have hst := skipR_step ht.toTxt0 (i := i) (n := n) (o := o) (Nat.le_of_lt hi)
              have hjp : i + blanks (t.drop i) = j := by omega
              rw [hjp] at hst
              have hE : eolAt t j = j := by
                unfold eolAt
                rw [if_neg (by rw [hk]; simp; omega), if_neg]
                rw [cut_two hk]; simp; omega
              rw [hE, hk, if_neg (by simp; omega), if_neg (by omega)] at hst
              rw [hst] at q
              exact q
            · repeat refine HS_nil ?_
              exact ⟨_, by walk_at "weak", rfl, by omega⟩
        · rintro _ ⟨rfl, rfl⟩
          walk_at "S"
          dsimp only
          exact ⟨_, by walk_at "weak", rfl⟩
      · rintro _ rfl
        repeat refine HS_nil ?_
        exact ⟨_, by walk_at "weak", rfl⟩
    · rintro _ rfl
      refine HS_cutw (fun σ' => ∃ i' n' o' : Nat, i' ≤ t.length ∧ skipR t i' n' o' = skipR t i n o ∧ ¬ (i' + blanks (t.drop i') < t.length ∧ t[eolAt t (i' + blanks (t.drop i'))]? = some 10) ∧ σ' = ⟨[("self", .ref x), ("argstr", .str t), ("i", .int i')], H (.inst 135 d (attrsP px words n' o'))⟩) ?_ ?_
      · refine HS1_while ok' (fun m σ' => ∃ i' n' o' : Nat, m = t.length + 1 - i' ∧ i' ≤ t.length ∧ skipR t i' n' o' = skipR t i n o ∧ σ' = ⟨[("self", .ref x), ("argstr", .str t), ("i", .int i')], H (.inst 135 d (attrsP px words n' o'))⟩) _ ?_ (by walk_at "weak") ⟨i + blanks (t.drop i), n, o, rfl, Nat.le_of_lt hpl, ?_, rfl⟩
        · rintro m _ ⟨i', n', o', rfl, hi', hR, rfl⟩
          refine HT_val ?_ (fun _ => rfl)
          walk_at "W"
          refine HB_int ?_
          refine ⟨fun _ => ?_, fun h => (nomatch h)⟩
          walk_at "S"
          refine E_pat F' hS (pat53 F') n_eol rfl (by decide) sl_match ty_match (by rfl) (by rfl) (by decide) (by decide) ?_
          walk_at "W"
          have hstep := skipR_step ht.toTxt0 (i := i') (n := n') (o := o') hi'
          rcases eol_at ht.toTxt0 hi' with ⟨g1, g2, g3⟩ | ⟨g1, g3⟩
          · refine HO_pat ok' (fun C T g i L => Sre.forMatch C T g i L false false) sl_match en_match ar_match (fun _ => rfl) (pat53 F') hi' (by omega) g3 (fun r hr => .inr ⟨hr.1, ?_⟩)
            obtain ⟨_, hh, sp, hsp⟩ := hr
            refine ⟨sp, hsp, ?_⟩
            rw [hh]
            walk_at "W"
            walk_at "S"
            walk_at "W"
            refine HO_is_none rfl ?_
            walk_at "W"
            refine ⟨fun h => (nomatch h), fun _ => ?_⟩
            repeat refine HS_nil ?_
            refine HS_cons ?_
            refine HS1_augAttr ok' F'.K ?_
            walk_at "W"
            refine ⟨x, 135, d, _, _, _, rfl, (hH _ (.list [])).mem, kc135, get_lines _ _ _ _, fi_lines, rfl, rfl, by simp [attrsP], tk_lines, ?_⟩
            walk_at "W"
            refine ⟨_, _, ?_, hH _ _, ?_⟩
            · simp [attrsP]
            rw [show ((n' : Int) + 1) = ((n' + 1 : Nat) : Int) by omega, put_lines]
            refine HS_cons ?_
            refine HS1_assign2 ?_ (by rfl) (by rfl) (by rfl)
            refine E_mmeth F' sl_end ty_end (by rfl) (by decide) ?_
            walk_at "W"
            refine ⟨_, _, _, _, _, _, _, _, rfl, HO_mend ok' ?_⟩
            refine HA_attr ok' F'.K ?_
            walk_at "W"
            refine ⟨x, 135, d, _, _, rfl, hH _ _, kc135, by simp [attrsP], tk_start, ?_⟩
            rw [put_start]
            walk_at "W"
            repeat refine HS_nil ?_
            rw [if_pos ⟨g1, g2⟩] at hstep
            have hge := (eolAt_ge ht.toTxt0 g1).1
            have hel := (List.getElem?_eq_some_iff.mp g2).1
            refine ⟨_, ⟨[("self", .ref x), ("argstr", .str t), ("i", .int ((eolAt t (i' + blanks (t.drop i')) + 1 : Nat) : Int))], H (.inst 135 d (attrsP px words (n' + 1) (eolAt t (i' + blanks (t.drop i')) + 1)))⟩, ?_, ?_, eolAt t (i' + blanks (t.drop i')) + 1, n' + 1, eolAt t (i' + blanks (t.drop i')) + 1, rfl, hel, by rw [← hstep]; exact hR, rfl⟩
            · omega
            · walk_at "weak"
          · refine HO_pat ok' (fun C T g i L => Sre.forMatch C T g i L false false) sl_match en_match ar_match (fun _ => rfl) (pat53 F') hi' (by omega) g3 (fun r hr => .inl ⟨hr, ?_⟩)
            walk_at "W"
            walk_at "S"
            walk_at "W"
            refine HO_is_none rfl ?_
            walk_at "W"
            refine ⟨fun _ => ?_, fun h => (nomatch h)⟩
            walk_at "S"
            dsimp only
            refine ⟨_, ?_, i', n', o', hi', hR, ?_, rfl⟩
            · walk_at "weak"
            · rcases g1 with h | h
              · omega
              · exact fun h' => h h'.2
        · exact skipR_bl ht.toTxt0 (by omega) (Nat.le_of_lt hpl) (by
            have := blanks_at (t := t) _ (i + blanks (t.drop i)) rfl (Nat.le_of_lt hpl)
            rcases b2 with h | ⟨k, hk, hb⟩
            · omega
            · rw [blanks_step hk, if_neg hb, Nat.add_zero])
      · rintro _ ⟨i', n', o', hi', hR, hno, rfl⟩
        have hstep := skipR_step ht.toTxt0 (i := i') (n := n') (o := o') hi'
        rw [if_neg hno] at hstep
        rw [hstep] at hR
        have hble' := blanks_le (t.drop i')
        simp at hble'
        obtain ⟨_, c2⟩ := blanks_at (t := t) _ i' rfl hi'
        have hpl' : i' + blanks (t.drop i') ≤ t.length := by omega
        have hcb := cnt_blanks (t := t) hi'
        have hwse := ws_ends (T := t.toArray) (L := t.length) hz hi'
        rw [hcb] at hwse
        generalize hpd : i' + blanks (t.drop i') = p at *
        walk_at "S"
        refine E_pat F' hS (pat63 F') n_ws rfl (by decide) sl_match ty_match (by rfl) (by rfl) (by decide) (by decide) ?_
        walk_at "W"
        refine HO_pat ok' (fun C T g i L => Sre.forMatch C T g i L false false) sl_match en_match ar_match (fun _ => rfl) (pat63 F') hi' (by omega) hwse (fun r hr => .inr ⟨hr.1, ?_⟩)
        refine ⟨[], madeM0 r, ?_⟩
        rw [hr.2.2.1]
        walk_at "W"
        refine HS_cutw (fun σ' => σ' = ⟨[("self", .ref x), ("argstr", .str t), ("i", .int (p : Nat))], H (.inst 135 d (attrsP px words n' o'))⟩) ?_ ?_
        · refine HS1_if ?_
          walk_at "W"
          refine HO_isnot_none rfl ?_
          walk_at "W"
          refine ⟨fun _ => ?_, fun h => (nomatch h)⟩
          walk_at "S"
          refine E_mmeth F' sl_end ty_end (by rfl) (by decide) ?_
          walk_at "W"
          refine ⟨_, _, _, _, _, _, _, _, rfl, HO_mend ok' ?_⟩
          walk_at "W"
          repeat refine HS_nil ?_
          exact ⟨_, by walk_at "weak", rfl⟩
        · rintro _ rfl
          obtain ⟨f1, f2⟩ := eof_ends (T := t.toArray) (L := t.length) hz hpl'
          walk_at "S"
          refine E_pat F' hS (pat58 F') n_eof rfl (by decide) sl_match ty_match (by rfl) (by rfl) (by decide) (by decide) ?_
          walk_at "W"
          rcases Nat.lt_or_ge p t.length with hlt | hge
          · have hne : p ≠ t.length := by omega
            rw [if_neg hne] at hR
            obtain ⟨k, hk, hb⟩ := c2.resolve_left hne
            have hT : t.toArray.getD p 0 = k := by rw [getD_arr, hk]; rfl
            have h10 : t[eolAt t p]? ≠ some 10 := fun h => hno ⟨hlt, h⟩
            have hk35 : k ≠ 35 := by
              rintro rfl
              obtain ⟨e, he, _, he10⟩ := findI_found ht.toTxt0 hlt
              apply h10
              unfold eolAt
              rw [if_pos hk, he, nat0]; exact he10
            have hk10 : k ≠ 10 := by
              rintro rfl
              exact absurd hk (eolAt_ne h10)
            refine HO_pat ok' (fun C T g i L => Sre.forMatch C T g i L false false) sl_match en_match ar_match (fun _ => rfl) (pat58 F') hpl' (by omega) (f2 hlt (by rw [isBl_of hk]; simpa using hb) (by rw [hT]; exact hk35) (by rw [hT]; exact hk10)) (fun r hr => .inl ⟨hr, ?_⟩)
            walk_at "W"
            walk_at "S"
            walk_at "W"
            refine HO_is_none rfl ?_
            walk_at "W"
            refine ⟨fun _ => ?_, fun h => (nomatch h)⟩
            walk_at "W"
            rw [← hR] at q
            exact q
          · have he : p = t.length := by omega
            rw [if_pos he] at hR
            refine HO_pat ok' (fun C T g i L => Sre.forMatch C T g i L false false) sl_match en_match ar_match (fun _ => rfl) (pat58 F') hpl' (by omega) (f1 he) (fun r hr => .inr ⟨hr.1, _, madeM1n hr.2.2.2.1 hr.2.2.2.2, ?_⟩)
            walk_at "W"
            walk_at "S"
            walk_at "W"
            refine HO_is_none rfl ?_
            walk_at "W"
            refine ⟨fun h => (nomatch h), fun _ => ?_⟩
            walk_at "W"
            refine ⟨1, rfl, ?_⟩
            rw [← hR] at q
            exact q
theorem ke156 {P : Params} : KE (hd.heap_39 P) 156 := ⟨⟨_, rfl, rfl, rfl⟩, by kernel_rfl⟩
theorem tk_a {P : Params} : takerIn (hd.heap_39 P) 156 (Str.ofString "_str") = some none := by kernel_rfl
theorem tk_b {P : Params} : takerIn (hd.heap_39 P) 156 (Str.ofString "_i") = some none := by kernel_rfl
theorem tk_c {P : Params} : takerIn (hd.heap_39 P) 156 (Str.ofString "_why") = some none := by kernel_rfl
theorem tk_d {P : Params} : takerIn (hd.heap_39 P) 156 (Str.ofString "lines") = some none := by kernel_rfl
theorem tk_e {P : Params} : takerIn (hd.heap_39 P) 156 (Str.ofString "_uri") = some none := by kernel_rfl
theorem csU8 : (Str.ofString "utf-8").cps.toList = [117, 116, 102, 45, 56] := rfl

/-- BadSyntax.__init__, called from within type.__call__ -/
theorem code_binit {c : Cx} (F : Fx c 1) {A' : Around} (hA : A'.frames = some (c.env :: c.outer)) (room : A'.depth + 1 < 900 ∧ A'.units + 20 < 9000) (hh : A'.handled = c.A.handled) {σ : St} {t : List Nat} {Q : Post} {R : RPost} {e : Addr} {oe : Obj} {vs : Array Value} {hp0 : List (Addr × AO)} {uri lines i why : V} {us : List Value} {tm : List (Value × V)} {s : Shared}
    (hx : ∀ k ∈ t, k < 128 ∨ k = 233) (hp : 0 < t.length) (hl : t.length < 2000) (hσ : σ.hp = (e, .raw oe) :: hp0) (h1 : oe.cls = .ref 156) (h2 : oe.dict = none) (h3 : oe.data = .fields vs)
    (r : Rel c σ (us.zip [.ref e, uri, lines, .str t, i, why] ++ tm) s) (hlen : us.length = 6)
    (q : ∀ d es n, Q .none ⟨σ.loc, (d, .raw (dictOf es n)) :: (e, .raw { oe with dict := some d }) :: hp0⟩) :
    codeAny (model c.prog c.w) A' (.call (.ref 153) ⟨us, []⟩) (fun r s' => match r with | .ok (.ret v) => ∃ x σ', Rel c σ' ((v, x) :: tm) s' ∧ Q x σ' | .ok _ => False | .error e => ExcE c R e s') s := by
  refine call_XC F.ok hA (k := 0) room (xs := ["self", "uri", "lines", "argstr", "i", "why"]) (us := us) (F.K _ _ rfl) (codeRec_of F.K (by rfl)) F.lim ?_ (by decide) ?_ r hlen ?_ (by rfl) (by rfl) (by rfl) (by decide)
  · intro s _
    obtain ⟨u1, u2, u3, u4, u5, u6, rfl⟩ : ∃ u1 u2 u3 u4 u5 u6, us = [u1, u2, u3, u4, u5, u6] := by
      match us, hlen with
      | [a, b, d, e, f, g], _ => exact ⟨a, b, d, e, f, g, rfl⟩
    exact BindsTo.of_eq rfl
  · decide
  · intro c' ok' room' e1 e2 e3 hS e5
    have F' := F.inner ok' room' e2 e3 (e5.trans hh)
    simp only [List.zip_cons_cons, List.zip_nil_right]
    rw [hσ]
    refine HS_cons ?_
    refine HS1_assign1 ?_ (by rfl) (by rfl) (by rfl)
    refine HE_methB ok' PySem.F.plainAttrs_str PySem.F.slot_str_encode PySem.F.type_str_encode (by rfl) (by rfl) (by decide) (by decide) ?_
    walk_at "W"
    refine ⟨hasT_str, ?_⟩
    refine HX_cons (HE_strc csU8 ?_)
    walk_at "W"
    refine HO_encode hx hp hl fun v => ?_
    refine HA_exc1 ok' F'.K ?_
    walk_at "W"
    refine ⟨156, e, oe, vs, hp0, rfl, rfl, ke156, h1, h2, h3, tk_a, fun d es n nk hl1 => ?_⟩
    have hno : notCls { oe with dict := some d } = true := by unfold notCls; rw [h3]
    walk_at "S"
    walk_at "W"
    refine HA_exc2 ok' F'.K ?_
    walk_at "W"
    refine ⟨156, e, d, _, es, n, hp0, rfl, rfl, ke156, h1, rfl, hno, tk_b, nk, by omega, fun es2 n2 nk2 hl2 => ?_⟩
    walk_at "S"
    walk_at "W"
    refine HA_exc2 ok' F'.K ?_
    walk_at "W"
    refine ⟨156, e, d, _, es2, n2, hp0, rfl, rfl, ke156, h1, rfl, hno, tk_c, nk2, by omega, fun es3 n3 nk3 hl3 => ?_⟩
    walk_at "S"
    walk_at "W"
    refine HA_exc2 ok' F'.K ?_
    walk_at "W"
    refine ⟨156, e, d, _, es3, n3, hp0, rfl, rfl, ke156, h1, rfl, hno, tk_d, nk3, by omega, fun es4 n4 nk4 hl4 => ?_⟩
    walk_at "S"
    walk_at "W"
    refine HA_exc2 ok' F'.K ?_
    walk_at "W"
    refine ⟨156, e, d, _, es4, n4, hp0, rfl, rfl, ke156, h1, rfl, hno, tk_e, nk4, by omega, fun es5 n5 nk5 hl5 => ?_⟩
    refine HS_nil ?_
    exact q d es5 n5
theorem ck_call {P : Params} : specialIn (hd.heap_39 P) (.ref 156) "__call__" = some (some (.builtin "type.__call__")) := by kernel_rfl
theorem ck_inst {P : Params} : instIn (hd.heap_39 P) (.ref 156) (.type "type") = some true := by kernel_rfl
theorem ck_init {P : Params} : findIn (hd.heap_39 P) (.ref 156) "__init__" = some (some (.ref 153)) := by kernel_rfl
theorem ck_fn {P : Params} : typeIn (hd.heap_39 P) (.ref 153) = some (.type "function") := by kernel_rfl
theorem ek156 {P : Params} : EK (hd.heap_39 P) (.ref 156) := ⟨by kernel_rfl, fun _ _ X => looks_typeIn X (by kernel_rfl)⟩
theorem ekExc {K : Frag} : EK K (.type "Exception") := ⟨by unfold subIn; kernel_rfl, fun _ _ _ => .now⟩
theorem n_bad {P : Params} : nsIn (hd.heap_39 P) mainGlobals (Str.ofString "BadSyntax_notation3") = some (some (.ref 156)) := by kernel_rfl
theorem keeps156 {c : Cx} {k : Nat} (F : Fx c k) : Keeps c (.ref 156) := by
  intro M h st
  refine ⟨.machine, .inr (.inl rfl), (Looks.ld (part := none) (st _ _ (F.K _ _ rfl))).andThen ?_⟩
  dsimp only
  refine (looks_specialIn (fun _ _ e => st _ _ (F.K _ _ e)) ck_call).andThen ?_
  rw [if_pos (by decide)]
  exact .now
theorem weight_call {C : Addr} {us : List Value} {kw : List (Str × Value)} : (Code.builtin "type.__call__" ⟨.ref C :: us, kw⟩).weight = 1 := by rfl
theorem units_call {C : Addr} {us : List Value} {kw : List (Str × Value)} : (Code.builtin "type.__call__" ⟨.ref C :: us, kw⟩).cUnits = 1 := by rfl
/-- BadSyntax_notation3(..) -/
theorem HO_bad {c : Cx} (F : Fx c 2) {σ : St} {t : List Nat} {Q : Post} {R : RPost} {uri lines i why : V} (hx : ∀ k ∈ t, k < 128 ∨ k = 233) (hp : 0 < t.length) (hl : t.length < 2000)
    (q : ∀ e oe vs, oe.cls = .ref 156 → oe.data = .fields vs → 5 < vs.size → vs[1]? = some .none → vs[2]? = some .none → Q (.ref e) ⟨σ.loc, (e, .raw oe) :: σ.hp⟩) :
    HOs c σ (fun us => call (.ref 156) us) [uri, lines, .str t, i, why] Q R := by
  intro us tm s r hlen
  refine wpAny_call ?_
  obtain ⟨m, mu, fz, fr, w⟩ := r
  have hK := K_in F.ok w F.K
  obtain ⟨h, g, d, tk, os⟩ := s
  refine own_make hK (by decide) (by decide) (by decide) (hK _ _ rfl) ck_call ck_inst ck_init ck_fn rfl (by rw [hlen]; simp only [List.length_cons, List.length_nil]; decide) ?_
  have e0 : ∀ q ∈ mu ++ fz ++ fr, q.1 ≠ h.objs.size := fun q hq => Nat.ne_of_lt (Heap.lt_size (w.nw q hq).1)
  have w1 := w.froze' (k := tk) (o := { cls := .type "tuple", data := .seq us.toArray }) (w.fr.push _) (News.push w.fr w.nw _)
  have w2 := w1.track (k := tk) (D := h.objs.size + 1) (o := { cls := .ref 156, data := .fields #[.ref h.objs.size, .none, .none, .none, .bool false, .none] }) (w1.fr.push _) (by
    have := News.push w1.fr w1.nw { cls := .ref 156, data := .fields #[.ref h.objs.size, .none, .none, .none, .bool false, .none] }
    rw [show ({ heap := h.push { cls := .type "tuple", data := .seq us.toArray }, gens := g, drawn := d, toks := tk, os := os } : Shared).heap.objs.size = h.objs.size + 1 from Heap.size_push _ _] at this
    exact this) (fun q hq => by
    have := Nat.ne_of_lt (Heap.lt_size (w1.nw q hq).1)
    rw [show ({ heap := h.push { cls := .type "tuple", data := .seq us.toArray }, gens := g, drawn := d, toks := tk, os := os } : Shared).heap.objs.size = h.objs.size + 1 from Heap.size_push _ _] at this
    exact this) (p := (h.objs.size + 1, .raw { cls := .ref 156, data := .fields #[.ref h.objs.size, .none, .none, .none, .bool false, .none] })) .raw
  have w3 := w2.push (v := .ref (h.objs.size + 1)) (.ref _)
  have hroom := F.room
  refine codeAny_mono (code_binit (F.mono (by omega)) (A' := c.A.under (.builtin "type.__call__" ⟨.ref 156 :: us, []⟩)) ?_ ⟨?_, ?_⟩ rfl (us := .ref (h.objs.size + 1) :: us) (tm := tm) (Q := fun x σ' => x = .none ∧ ∃ d es n, σ' = ⟨σ.loc, (d, .raw (dictOf es n)) :: (h.objs.size + 1, .raw { cls := .ref 156, dict := some d, data := .fields #[.ref h.objs.size, .none, .none, .none, .bool false, .none] }) :: σ.hp⟩) (R := R)
    hx hp hl rfl rfl rfl rfl w3.rel (congrArg (· + 1) hlen) fun d es n => ⟨rfl, d, es, n, rfl⟩) fun r s' z => ?_
  · exact F.ok.frames
  · show c.A.depth + _ + 1 < 900
    rw [weight_call]; have := hroom.1; omega
  · show c.A.units + _ + 20 < 9000
    rw [units_call]; have := hroom.2; omega
  · rcases r with e | (v | _ | _ | _) <;> first | exact z.elim | exact z | skip
    obtain ⟨x, σ', r', rfl, d, es, n, rfl⟩ := z
    obtain ⟨_, hi⟩ := r'.at0
    cases is_none hi
    refine ⟨rfl, ?_⟩
    have hw : ∀ (l : Loc) (p : Addr × AO) (hp : List (Addr × AO)), (l.map (·.1)).Nodup → Weak ⟨l, hp⟩ ⟨l, p :: hp⟩ := fun l p hp hn => ⟨fun _ h => h, hn, .drop (.refl _)⟩
    obtain ⟨m', mu', fz', fr', w'⟩ := Rel.weak (hw _ _ _ w.ln) r'.drop1
    exact ⟨_, _, (w'.push (.ref _)).rel, q _ _ _ rfl rfl (by simp) rfl rfl⟩
/-- a raise of BadSyntax_notation3, with what is handled -/
theorem S_bad {c : Cx} (F : Fx c 2) {S : Scope} (hS : c.cs = S) {σ : St} {R : RPost} {args : List Expr} {np cpos pos : Pos} {Q : Fl → St → Prop} (hs : starEach args c.env = args.map fun e => (false, eval e c.env)) (hx : S.names.lookup (Str.ofString "BadSyntax_notation3") = some .globalImplicit)
    (h : HX c σ args (fun xs σ₂ => ∃ uri lines t i why, xs = [uri, lines, .str t, i, why] ∧ (∀ k ∈ t, k < 128 ∨ k = 233) ∧ 0 < t.length ∧ t.length < 2000 ∧ Unch σ₂.hp c.A.handled ∧ R (.ref 156, c.A.handled.getD .none) σ₂) R) :
    HS1 c σ (.Raise (some (.Call (.Name (Str.ofString "BadSyntax_notation3") np) args [] cpos)) none pos) Q R := by
  refine HS1_raise (K := KK c) F.ok F.K ?_
  refine HE_call F.ok hs rfl ?_
  refine E_glob F hS n_bad (.ref _) ⟨.ref 156, rfl, keeps156 F, ?_⟩ hx (by decide)
  intro tm s r
  refine wpAny_mono (h tm s r) (fun vs s' ⟨xs, σ₂, r₂, hl, uri, lines, t, i, why, ex, h1, h2, h3, h4, h5⟩ => ⟨xs, σ₂, r₂, hl, ?_⟩) fun _ _ q => q
  subst ex
  refine HO_bad F h1 h2 h3 fun e oe vs g1 g2 g3 g4 g5 => ?_
  exact ⟨e, oe, vs, σ₂.hp, .ref 156, rfl, rfl, g1, g2, g3, g4, g5, ek156, h4, h5⟩
theorem Fx.mark {c : Cx} {k : Nat} (F : Fx c k) (e : Addr) : Fx (markC c e) k := ⟨Ok.mark F.ok e, F.room, F.K, F.g, F.lim⟩
theorem n_Exception {P : Params} : nsIn (hd.heap_39 P) mainGlobals (Str.ofString "Exception") = some none := by kernel_rfl
theorem bb_Exception : bootBuiltins (Str.ofString "Exception") = some (.type "Exception") := by kernel_rfl
theorem n_int {P : Params} : nsIn (hd.heap_39 P) mainGlobals (Str.ofString "int") = some none := by kernel_rfl
theorem bb_int : bootBuiltins (Str.ofString "int") = some (.type "int") := by kernel_rfl
theorem ex_vE {P : Params} : exmOne (hd.heap_39 P) (.type "ValueError") (.type "Exception") = some true := by kernel_rfl
theorem csInv : (Str.ofString "Invalid unicode code point: ").cps.toList = [73, 110, 118, 97, 108, 105, 100, 32, 117, 110, 105, 99, 111, 100, 101, 32, 99, 111, 100, 101, 32, 112, 111, 105, 110, 116, 58, 32] := rfl
theorem weak_drop {l : Loc} {p : Addr × AO} {hp : List (Addr × AO)} (hn : (l.map (·.1)).Nodup) : Weak ⟨l, hp⟩ ⟨l, p :: hp⟩ := ⟨fun _ h => h, hn, .drop (.refl _)⟩
theorem fig_len {xs : List Nat} {n : Int} (h : Fig16 xs n) : xs.length < 10 ∧ 0 ≤ n := by cases h <;> exact ⟨by decide, by decide⟩
/-- m.group(1) as a step -/
theorem E_group1 {c : Cx} {k : Nat} {σ : St} {Q : Post} {R : RPost} {o : Expr} {apos pos p1 : Pos} {j : Nat} (F : Fx c k) (hbase : attributeBase o (Str.ofString "group") c.env (eval o c.env) = eval o c.env) (hs : starEach [.Constant (.int 1) j p1] c.env = [.Constant (.int 1) j p1].map fun e => (false, eval e c.env)) (hline : (apos.endLine == pos.line) = true)
    (h : HE c σ o (fun y σ₁ => ∃ t p i lim li a b x z, y = matV t p i lim li [.int a, .int b, .int ((x : Nat) : Int), .int ((z : Nat) : Int)] ∧ t.length < 1000 ∧ Q (.str (cut t x z)) σ₁) R) : HE c σ (.Call (.Attribute o (Str.ofString "group") apos) [.Constant (.int 1) j p1] [] pos) Q R :=
  HE_methB F.ok pa_mat sl_group ty_group hbase hs (by simp) hline (h.mono (fun y σ' ⟨t, p, i, lim, li, a, b, x, z, e, hl, q⟩ => ⟨by rw [e]; exact hasT_mat F, by
    subst e
    refine HX_cons (HE_int (HX_nil ?_))
    exact HO_mgroup F.ok hl q⟩) fun _ _ q => q)
/-- unicodeExpand, called by the loop of sub -/
theorem code_uexp {c : Cx} (F : Fx c 1) {A' : Around} (hA : A'.frames = some (c.env :: c.outer)) (room : A'.depth + 1 < 900 ∧ A'.units + 20 < 9000) (hn : A'.handled = none) {σ : St} {t : List Nat} {Q : Post} {R : RPost} {p : Addr} {i lim li a b : Int} {x y : Nat} {n : Int} {u : Value} {tm : List (Value × V)} {s : Shared}
    (hl : t.length < 1000) (hf : Fig16 (cut t x y) n) (r : Rel c σ ((u, matV t p i lim li [.int a, .int b, .int (x : Int), .int (y : Int)]) :: tm) s)
    (q : n ≤ 0x10FFFF → Q (.str [n.toNat]) σ) (qe : n > 0x10FFFF → ∀ e oe vs, oe.data = .fields vs → vs[2]? = some .none → R (.type "Exception", .ref e) ⟨σ.loc, (e, .raw oe) :: σ.hp⟩) :
    codeAny (model c.prog c.w) A' (.call (.ref 38) ⟨[u], []⟩) (fun r s' => match r with | .ok (.ret v) => ∃ x σ', Rel c σ' ((v, x) :: tm) s' ∧ Q x σ' | .ok _ => False | .error e => ExcE c R e s') s := by
  refine call_XC F.ok hA (k := 0) room (xs := ["m"]) (us := [u]) (ys := [matV t p i lim li [.int a, .int b, .int (x : Int), .int (y : Int)]]) (F.K _ _ rfl) (codeRec_of F.K (by rfl)) F.lim ?_ (by decide) ?_ r rfl ?_ (by rfl) (by rfl) (by rfl) (by decide)
  · intro s _
    exact BindsTo.of_eq rfl
  · decide
  · intro c' ok' room' e1 e2 e3 hS e5
    have F' := F.inner ok' room' e2 e3 e5
    simp only [List.zip_cons_cons, List.zip_nil_right]
    have hz := fig_len hf
    refine HS_cons ?_
    refine HS1_try (Rb := fun kd σ' => kd = (.type "ValueError", .none) ∧ n > 0x10FFFF ∧ σ' = ⟨[("m", matV t p i lim li [.int a, .int b, .int (x : Int), .int (y : Int)])], σ.hp⟩) ok' F'.K (.inr (F'.blt n_Exception bb_Exception (by decide))) (by show c'.cs.names.lookup _ = _; rw [hS]; rfl) (by decide) ?_ ?_
    · walk_at "S"
      refine E_chr F' hS (by rfl) (by rfl) ?_
      refine HX_cons ?_
      refine HE_call ok' (by rfl) rfl (E_blt F' hS n_int bb_int (by decide) ⟨_, rfl, keeps_type _, ?_⟩ (by rfl) (by decide))
      refine HX_cons ?_
      refine E_group1 F' (by rfl) (by rfl) (by decide) ?_
      walk_at "W"
      refine ⟨_, _, _, _, _, _, _, _, _, rfl, hl, ?_⟩
      walk_at "W"
      refine HO_int16 hf ?_
      walk_at "W"
      by_cases hn1 : n ≤ 0x10FFFF
      · exact HO_chr hz.2 hn1 (q hn1)
      · exact HO_chr_bad (e5.trans hn) (by omega) ⟨rfl, by omega, rfl⟩
    · rintro kd σ1 ⟨rfl, hn1, rfl⟩
      refine ⟨ex_vE, fun e oe hk hd => ?_⟩
      obtain ⟨vs, hd, hvs⟩ := hd
      have F'' := F'.mark e
      have hS'' : (markC c' e).cs = _ := hS
      refine HS_cons ?_
      refine HS1_raise (K := KK (markC c' e)) F''.ok F''.K ?_
      refine HE_call F''.ok (by rfl) rfl (E_blt F'' hS'' n_Exception bb_Exception (by decide) ⟨_, rfl, keeps_type _, ?_⟩ (by rfl) (by decide))
      refine HX_cons ?_
      refine HE_bin (HE_strc csInv ?_)
      refine E_group1 F'' (by rfl) (by rfl) (by decide) ?_
      walk_at "W"
      refine ⟨_, _, _, _, _, _, _, _, _, rfl, hl, ?_⟩
      walk_at "W"
      refine HO_exc fun e2 oe2 vs2 g1 g2 g3 g4 g5 => ?_
      refine ⟨e2, oe2, vs2, _, _, rfl, rfl, g1, g2, g3, g4, g5, ekExc, ⟨e, oe, vs, rfl, .head _, hd, .inl (hk.2 _ hd)⟩, ?_⟩
      exact qe hn1 e oe vs hd (hk.2 _ hd)
theorem fi_doc {P : Params} : findIn (hd.heap_39 P) (.ref 135) (Str.ofString "_thisDoc") = some none := by kernel_rfl
theorem get_doc (p : PX) (words n o : Nat) : getA "_thisDoc" (attrsP p words n o) = some (.str []) := by simp [getA, attrsP]
theorem n_uexp {P : Params} : nsIn (hd.heap_39 P) mainGlobals (Str.ofString "unicodeExpand") = some (some (.ref 38)) := by kernel_rfl
theorem ex_EE {P : Params} : exmOne (hd.heap_39 P) (.type "Exception") (.type "Exception") = some true := by kernel_rfl
theorem csHex : (Str.ofString "bad string literal hex escape: ").cps.toList.length = 31 := rfl
/-- self.name -/
theorem E_self {c : Cx} {k : Nat} {σ : St} {Q : Post} {R : RPost} {S : Scope} {x d : Addr} {px : PX} {words n o : Nat} {name : String} {y : V} {p pos : Pos} (F : Fx c k) (hS : c.cs = S) (hl : ("self", V.ref x) ∈ σ.loc) (hm : (x, AO.inst 135 d (attrsP px words n o)) ∈ σ.hp) (hg : getA name (attrsP px words n o) = some y)
    (hfi : findIn (KK c) (.ref 135) (Str.ofString name) = some none) (hv : handV y = true) (q : Q y σ) (hx : S.names.lookup (Str.ofString "self") = some .local)
    (he : eval (.Attribute (.Name (Str.ofString "self") p) (Str.ofString name) pos) c.env = (do
      let o ← eval (.Name (Str.ofString "self") p) c.env
      standAt pos.atName
      let r ← holding [o] (getAttr o (Str.ofString name) true)
      letTemporaryGo (.Name (Str.ofString "self") p) o r
      pure r)) : HE c σ (.Attribute (.Name (Str.ofString "self") p) (Str.ofString name) pos) Q R := by
  refine HE_attr F.ok F.K ?_ he
  exact E_loc F hS hl ⟨x, 135, d, _, y, none, rfl, hm, kc135, hg, hfi, rfl, hv, q⟩ hx (by decide)
theorem pat43 {c : Cx} {k : Nat} (F : Fx c k) : PatAt c.h0 43 u4C 1 := ⟨_, _, _, _, _, _, F.K _ _ rfl, F.K _ _ rfl, rfl⟩
theorem pat48 {c : Cx} {k : Nat} (F : Fx c k) : PatAt c.h0 48 u8C 1 := ⟨_, _, _, _, _, _, F.K _ _ rfl, F.K _ _ rfl, rfl⟩
theorem cut_len {t : List Nat} {a n : Nat} (h : a + n ≤ t.length) : (cut t a (a + n)).length = n := by
  unfold cut; simp; omega
theorem sub_app {α : Type} : ∀ (l k : List α), SubL k (l ++ k)
  | [], k => .refl k
  | _ :: l, k => .drop (sub_app l k)
/-- the escape by figures -/
theorem call_unicodeEscape {c : Cx} (F : Fx c 3) (hn : c.A.handled = none) {σ : St} {t : List Nat} {Q : Post} {R : RPost} {x d p : Addr} {px : PX} {words n o i m pre : Nat} {code : List Nat} {sl : V} (ht : Txt1 t) (hi : i ≤ t.length) (H : AO → List (Addr × AO)) (hH : ∀ y z, UpH (H y) (x, y) z (H z)) (hσ : σ.hp = H (.inst 135 d (attrsP px words n o)))
    (hm : m = 4 ∨ m = 8) (hp : PatAt c.h0 p code 1) (he : i + m ≤ t.length → ∃ v, EscOf pre (cut t i (i + m)) p code v)
    (q : ∀ v, i + m ≤ t.length → EscOf pre (cut t i (i + m)) p code v → v ≤ 0x10FFFF → Q (.tup [.int ((i + m : Nat) : Int), .str [v.toNat]]) σ)
    (qe : (t.length < i + m ∨ ∃ v, i + m ≤ t.length ∧ EscOf pre (cut t i (i + m)) p code v ∧ v > 0x10FFFF) → ∀ ctx, R (.ref 156, ctx) σ) :
    HOs c σ (fun us => call (.ref 111) us) [.ref x, .str t, .int i, sl, .ref p, .int m, .str [pre]] Q R := by
  refine HOs.weakX (R' := fun k σ' => σ'.loc = σ.loc ∧ (∃ l, σ'.hp = l ++ σ.hp) ∧ R k σ) ?_ (fun k σ' ⟨e1, ⟨l, e2⟩, q⟩ => ⟨σ, fun nd => ⟨fun p hp => by rw [e1]; exact hp, by rw [← e1]; exact nd, by
    rw [e2]; exact sub_app l _⟩, q⟩)
  obtain ⟨l0, h0⟩ := σ
  dsimp only at hσ
  subst hσ
  intro us tm s r hlen
  refine call_X F.ok (k := 2) F.room (xs := ["self", "argstr", "i", "startline", "reg", "n", "prefix"]) (F.K _ _ rfl) (codeRec_of F.K (by rfl)) F.lim ?_ (by decide) ?_ r hlen ?_ (by rfl) (by rfl) (by rfl) (by decide)
  · intro s _
    obtain ⟨u1, u2, u3, u4, u5, u6, u7, rfl⟩ : ∃ u1 u2 u3 u4 u5 u6 u7, us = [u1, u2, u3, u4, u5, u6, u7] := by
      match us, hlen with
      | [a, b, d, e, f, g, h], _ => exact ⟨a, b, d, e, f, g, h, rfl⟩
    exact BindsTo.of_eq rfl
  · decide
  · intro c' ok' room' e1 e2 e3 hS e5
    have F' := F.inner ok' room' e2 e3 e5
    simp only [List.zip_cons_cons, List.zip_nil_right]
    have hz := ht.small
    have hpos := ht.pos
    have hfit := ht.fit
    have hmem := (hH (.inst 135 d (attrsP px words n o)) (.list [])).mem
    have hp' : PatAt c'.h0 p code 1 := by rw [e3]; exact hp
    walk_at "S"
    walk_at "W"
    walk_at "len"
    walk_at "W"
    refine ⟨fun hb => ?_, fun hb => ?_⟩
    · have hlt : t.length < i + m := by simp at hb; omega
      refine HS_cons ?_
      refine S_bad F' hS (by rfl) (by rfl) ?_
      refine HX_cons (E_self F' hS (.head _) hmem (get_doc _ _ _ _) fi_doc rfl ?_ (by rfl) (by rfl))
      walk_at "W"
      refine HE_str ?_
      walk_at "W"
      refine ⟨_, _, _, _, _, rfl, hfit, hpos, hz, ?_, by trivial, ⟨[], rfl⟩, qe (.inl hlt) _⟩
      rw [e5, hn]; trivial
    · have hge : i + m ≤ t.length := by simp at hb; omega
      obtain ⟨v, hv⟩ := he hge
      have hcl := cut_len hge
      refine HS_nil ?_
      refine HS_cons ?_
      refine HS1_try (Rb := fun kd σ' => ∃ e1 oe1 vs1 a, kd = (.type "Exception", .ref e1) ∧ oe1.data = .fields vs1 ∧ vs1[2]? = some .none ∧ v > 0x10FFFF ∧
          σ' = ⟨[("self", .ref x), ("argstr", .str t), ("i", .int i), ("startline", sl), ("reg", .ref p), ("n", .int m), ("prefix", .str [pre])], (e1, .raw oe1) :: (a, .list []) :: H (.inst 135 d (attrsP px words n o))⟩)
        ok' F'.K (.inr (F'.blt n_Exception bb_Exception (by decide))) (by show c'.cs.names.lookup _ = _; rw [hS]; rfl) (by decide) ?_ ?_
      · walk_at "S"
        refine HE_tup (by rfl) ?_
        walk_at "W"
        refine HE_methB ok' pa_pat sl_sub ty_sub (by rfl) (by rfl) (by decide) (by decide) ?_
        walk_at "W"
        refine ⟨hasT_pat F' hp', ?_⟩
        refine HX_cons (E_glob F' hS n_uexp (.ref _) ?_ (by rfl) (by decide))
        walk_at "W"
        refine ⟨t, i, i + m, rfl, rfl, rfl, by omega, by omega, by omega, ?_⟩
        rw [nat0, show ((i : Int) + (m : Int)).toNat = i + m from by omega]
        walk_at "W"
        obtain ⟨ob38, g38, c38⟩ : ∃ ob, c'.h0.get? 38 = some ob ∧ ob.cls = .type "function" := ⟨_, F'.K 38 _ rfl, rfl⟩
        refine HO_sub (P := v ≤ 0x10FFFF) (K := KK c') ok' F'.K hp' g38 c38 (T := 92 :: pre :: cut t i (i + m)) (xs := [v.toNat]) (by simp; omega) (by simp; omega) (by simp) hv.run.one hv.run.two ?_ ?_
        · intro a A' u tm s h1 h2 h3 h4 li r
          have hroom := room'
          have hcut : cut (92 :: pre :: cut t i (i + m)) 2 (92 :: pre :: cut t i (i + m)).length = cut t i (i + m) := by
            show (cut t i (i + m)).take ((cut t i (i + m)).length + 1 + 1 - 2) = _
            rw [show (cut t i (i + m)).length + 1 + 1 - 2 = (cut t i (i + m)).length from by omega, List.take_length]
          refine codeAny_mono (code_uexp (F'.mono (by omega)) (A' := A') (h1.trans ok'.frames) ⟨by have := hroom.1; omega, by have := hroom.2; omega⟩ (h4.trans (e5.trans hn)) (t := 92 :: pre :: cut t i (i + m)) (i := 0) (a := 0) (by simp; omega) (by rw [hcut]; exact hv.fig) r ?_ ?_) fun _ _ z => z
          · intro hv1
            exact ⟨rfl, rfl, hv1⟩
          · intro hv1 e1 oe1 vs1 g1 g2
            exact ⟨e1, oe1, vs1, a, rfl, g1, g2, hv1, rfl⟩
        · intro hv1
          walk_at "W"
          exact ⟨by simp, q v hge hv hv1⟩
      · rintro kd σ1 ⟨e1, oe1, vs1, a, rfl, g1, g2, hv1, rfl⟩
        refine ⟨ex_EE, fun e oe hk hd => ?_⟩
        obtain ⟨vs, hd, hvs⟩ := hd
        have F'' := F'.mark e
        have hS'' : (markC c' e).cs = _ := hS
        refine HS_cons ?_
        refine S_bad F'' hS'' (by rfl) (by rfl) ?_
        refine HX_cons (E_self F'' hS'' (.head _) (.tail _ (.tail _ (.tail _ hmem))) (get_doc _ _ _ _) fi_doc rfl ?_ (by rfl) (by rfl))
        walk_at "W"
        refine HE_str ?_
        walk_at "W"
        refine ⟨t, i, i + m, rfl, rfl, rfl, by omega, by omega, by omega, ?_⟩
        rw [nat0, show ((i : Int) + (m : Int)).toNat = i + m from by omega]
        refine HO_add_str (by rw [csHex]; omega) ?_
        walk_at "W"
        refine ⟨_, _, _, _, _, rfl, hfit, hpos, hz, ⟨e, oe, vs, rfl, .head _, hd, .inr ⟨e1, oe1, vs1, hk.2 _ hd, .tail _ (.head _), g1, g2⟩⟩, by trivial, ⟨[(e, .raw oe), (e1, .raw oe1), (a, .list [])], rfl⟩, qe (.inr ⟨v, hge, hv, hv1⟩) _⟩
theorem n_u4 {P : Params} : nsIn (hd.heap_39 P) mainGlobals (Str.ofString "unicodeEscape4") = some (some (.ref 43)) := by kernel_rfl
theorem n_u8 {P : Params} : nsIn (hd.heap_39 P) mainGlobals (Str.ofString "unicodeEscape8") = some (some (.ref 48)) := by kernel_rfl
theorem me_ue {P : Params} : findIn (hd.heap_39 P) (.ref 135) (Str.ofString "_unicodeEscape") = some (some (.ref 111)) := by kernel_rfl
theorem ty_ue {P : Params} : typeIn (hd.heap_39 P) (.ref 111) = some (.type "function") := by kernel_rfl
theorem ge_ue (p : PX) (words n o : Nat) : getA "_unicodeEscape" (attrsP p words n o) = none := by simp [getA, attrsP]
/-- self.name(..) -/
theorem E_meth {c : Cx} {k : Nat} {σ : St} {Q : Post} {R : RPost} {S : Scope} {x d f : Addr} {px : PX} {words n o : Nat} {name : String} {args : List Expr} {p apos pos : Pos} (F : Fx c k) (hS : c.cs = S) (hl : ("self", V.ref x) ∈ σ.loc) (hm : (x, AO.inst 135 d (attrsP px words n o)) ∈ σ.hp)
    (hfi : findIn (KK c) (.ref 135) (Str.ofString name) = some (some (.ref f))) (hty : typeIn (KK c) (.ref f) = some (.type "function")) (hg : getA name (attrsP px words n o) = none) (hk : Keeps c (.ref f)) (hx : S.names.lookup (Str.ofString "self") = some .local)
    (hbase : attributeBase (.Name (Str.ofString "self") p) (Str.ofString name) c.env (eval (.Name (Str.ofString "self") p) c.env) = eval (.Name (Str.ofString "self") p) c.env) (hs : starEach args c.env = args.map fun e => (false, eval e c.env)) (hn : args.length < 20) (hline : (apos.endLine == pos.line) = true)
    (h : HX c σ args (fun xs σ₂ => HOs c σ₂ (fun us => call (.ref f) us) (.ref x :: xs) Q R) R) : HE c σ (.Call (.Attribute (.Name (Str.ofString "self") p) (Str.ofString name) apos) args [] pos) Q R := by
  refine HE_meth F.ok F.K hbase hs hn hline ?_
  exact E_loc F hS hl ⟨x, 135, d, _, f, rfl, hm, kc135, hfi, hty, hg, hk, h⟩ hx (by decide)
theorem call_uEscape {c : Cx} (F : Fx c 4) (hn : c.A.handled = none) {σ : St} {t : List Nat} {Q : Post} {R : RPost} {x d : Addr} {px : PX} {words n o i : Nat} {sl : V} (ht : Txt1 t) (hi : i ≤ t.length) (H : AO → List (Addr × AO)) (hH : ∀ y z, UpH (H y) (x, y) z (H z)) (hσ : σ.hp = H (.inst 135 d (attrsP px words n o)))
    (he : i + 4 ≤ t.length → ∃ v, EscOf 117 (cut t i (i + 4)) 43 u4C v)
    (q : ∀ v, i + 4 ≤ t.length → EscOf 117 (cut t i (i + 4)) 43 u4C v → v ≤ 0x10FFFF → Q (.tup [.int ((i + 4 : Nat) : Int), .str [v.toNat]]) σ)
    (qe : (t.length < i + 4 ∨ ∃ v, i + 4 ≤ t.length ∧ EscOf 117 (cut t i (i + 4)) 43 u4C v ∧ v > 0x10FFFF) → ∀ ctx, R (.ref 156, ctx) σ) :
    HOs c σ (fun us => call (.ref 118) us) [.ref x, .str t, .int i, sl] Q R := by
  obtain ⟨l0, h0⟩ := σ
  dsimp only at hσ
  subst hσ
  intro us tm s r hlen
  refine call_X F.ok (k := 3) F.room (xs := ["self", "argstr", "i", "startline"]) (F.K _ _ rfl) (codeRec_of F.K (by rfl)) F.lim ?_ (by decide) ?_ r hlen ?_ (by rfl) (by rfl) (by rfl) (by decide)
  · intro s _
    obtain ⟨u1, u2, u3, u4, rfl⟩ : ∃ u1 u2 u3 u4, us = [u1, u2, u3, u4] := by
      match us, hlen with
      | [a, b, d, e], _ => exact ⟨a, b, d, e, rfl⟩
    exact BindsTo.of_eq rfl
  · decide
  · intro c' ok' room' e1 e2 e3 hS e5
    have F' := F.inner ok' room' e2 e3 e5
    simp only [List.zip_cons_cons, List.zip_nil_right]
    have hmem := (hH (.inst 135 d (attrsP px words n o)) (.list [])).mem
    walk_at "S"
    refine E_meth F' hS (.head _) hmem me_ue ty_ue (ge_ue _ _ _ _) (keeps_fn (F'.K _ _ rfl) rfl) (by rfl) (by rfl) (by rfl) (by decide) (by decide) ?_
    walk_at "W"
    refine E_glob F' hS n_u4 (.ref _) ?_ (by rfl) (by decide)
    walk_at "W"
    exact call_unicodeEscape F' (e5.trans hn) (n := n) (o := o) (words := words) (px := px) (d := d) ht hi H hH rfl (.inl rfl) (pat43 F') he (fun v h1 h2 h3 => q v h1 h2 h3) (fun h ctx => qe h ctx)
theorem call_UEscape {c : Cx} (F : Fx c 4) (hn : c.A.handled = none) {σ : St} {t : List Nat} {Q : Post} {R : RPost} {x d : Addr} {px : PX} {words n o i : Nat} {sl : V} (ht : Txt1 t) (hi : i ≤ t.length) (H : AO → List (Addr × AO)) (hH : ∀ y z, UpH (H y) (x, y) z (H z)) (hσ : σ.hp = H (.inst 135 d (attrsP px words n o)))
    (he : i + 8 ≤ t.length → ∃ v, EscOf 85 (cut t i (i + 8)) 48 u8C v)
    (q : ∀ v, i + 8 ≤ t.length → EscOf 85 (cut t i (i + 8)) 48 u8C v → v ≤ 0x10FFFF → Q (.tup [.int ((i + 8 : Nat) : Int), .str [v.toNat]]) σ)
    (qe : (t.length < i + 8 ∨ ∃ v, i + 8 ≤ t.length ∧ EscOf 85 (cut t i (i + 8)) 48 u8C v ∧ v > 0x10FFFF) → ∀ ctx, R (.ref 156, ctx) σ) :
    HOs c σ (fun us => call (.ref 125) us) [.ref x, .str t, .int i, sl] Q R := by
  obtain ⟨l0, h0⟩ := σ
  dsimp only at hσ
  subst hσ
  intro us tm s r hlen
  refine call_X F.ok (k := 3) F.room (xs := ["self", "argstr", "i", "startline"]) (F.K _ _ rfl) (codeRec_of F.K (by rfl)) F.lim ?_ (by decide) ?_ r hlen ?_ (by rfl) (by rfl) (by rfl) (by decide)
  · intro s _
    obtain ⟨u1, u2, u3, u4, rfl⟩ : ∃ u1 u2 u3 u4, us = [u1, u2, u3, u4] := by
      match us, hlen with
      | [a, b, d, e], _ => exact ⟨a, b, d, e, rfl⟩
    exact BindsTo.of_eq rfl
  · decide
  · intro c' ok' room' e1 e2 e3 hS e5
    have F' := F.inner ok' room' e2 e3 e5
    simp only [List.zip_cons_cons, List.zip_nil_right]
    have hmem := (hH (.inst 135 d (attrsP px words n o)) (.list [])).mem
    walk_at "S"
    refine E_meth F' hS (.head _) hmem me_ue ty_ue (ge_ue _ _ _ _) (keeps_fn (F'.K _ _ rfl) rfl) (by rfl) (by rfl) (by rfl) (by decide) (by decide) ?_
    walk_at "W"
    refine E_glob F' hS n_u8 (.ref _) ?_ (by rfl) (by decide)
    walk_at "W"
    exact call_unicodeEscape F' (e5.trans hn) (n := n) (o := o) (words := words) (px := px) (d := d) ht hi H hH rfl (.inr rfl) (pat48 F') he (fun v h1 h2 h3 => q v h1 h2 h3) (fun h ctx => qe h ctx)
/-- the parser's own way to refuse -/
theorem call_BadSyntax {c : Cx} (F : Fx c 3) {σ : St} {t : List Nat} {Q : Post} {R : RPost} {x d : Addr} {px : PX} {words n o : Nat} {i why : V} (ht : Txt1 t) (hu : c.A.handled = none) (H : AO → List (Addr × AO)) (hH : ∀ y z, UpH (H y) (x, y) z (H z)) (hσ : σ.hp = H (.inst 135 d (attrsP px words n o)))
    (qe : ∀ ctx, R (.ref 156, ctx) σ) : HOs c σ (fun us => call (.ref 132) us) [.ref x, .str t, i, why] Q R := by
  obtain ⟨l0, h0⟩ := σ
  dsimp only at hσ
  subst hσ
  intro us tm s r hlen
  refine call_X F.ok (k := 2) F.room (xs := ["self", "argstr", "i", "msg"]) (F.K _ _ rfl) (codeRec_of F.K (by rfl)) F.lim ?_ (by decide) ?_ r hlen ?_ (by rfl) (by rfl) (by rfl) (by decide)
  · intro s _
    obtain ⟨u1, u2, u3, u4, rfl⟩ : ∃ u1 u2 u3 u4, us = [u1, u2, u3, u4] := by
      match us, hlen with
      | [a, b, d, e], _ => exact ⟨a, b, d, e, rfl⟩
    exact BindsTo.of_eq rfl
  · decide
  · intro c' ok' room' e1 e2 e3 hS e5
    have F' := F.inner ok' room' e2 e3 e5
    simp only [List.zip_cons_cons, List.zip_nil_right]
    have hmem := (hH (.inst 135 d (attrsP px words n o)) (.list [])).mem
    refine HS_cons ?_
    refine S_bad F' hS (by rfl) (by rfl) ?_
    refine HX_cons (E_self F' hS (.head _) hmem (get_doc _ _ _ _) fi_doc rfl ?_ (by rfl) (by rfl))
    refine HX_cons (E_self F' hS (.head _) hmem (get_lines _ _ _ _) fi_lines rfl ?_ (by rfl) (by rfl))
    walk_at "W"
    exact ⟨_, _, _, _, _, rfl, ht.fit, ht.pos, ht.small, by rw [e5, hu]; trivial, qe _⟩
/-- the first sign from i that strconst looks at -/
theorem first_int {t : List Nat} (ht : Txt0 t) : ∀ (m i : Nat), t.length - i = m → i < t.length → ∃ s k, i ≤ s ∧ t[s]? = some k ∧ isInt k = true ∧ ∀ j, i ≤ j → j < s → ∃ k, t[j]? = some k ∧ isInt k = false
  | 0, i, h, hi => by omega
  | m + 1, i, h, hi => by
    obtain ⟨k, hk⟩ := get_of_lt hi
    by_cases hb : isInt k = true
    · exact ⟨i, k, Nat.le_refl _, hk, hb, fun j h1 h2 => by omega⟩
    · have hne : i ≠ t.length - 1 := by
        rintro rfl
        rw [ht.last] at hk
        cases hk
        exact hb rfl
      obtain ⟨s, k', h1, h2, h3, h4⟩ := first_int ht m (i + 1) (by omega) (by omega)
      refine ⟨s, k', by omega, h2, h3, fun j h5 h6 => ?_⟩
      rcases Nat.lt_or_ge i j with h7 | h7
      · exact h4 j h7 h6
      · have : j = i := by omega
        subst this
        exact ⟨k, hk, by simpa using hb⟩
theorem cut_snoc {t : List Nat} {a b k : Nat} (h : a ≤ b) (hk : t[b]? = some k) : cut t a (b + 1) = cut t a b ++ [k] := by
  unfold cut
  have h1 : (t.drop a)[b - a]? = some k := by rw [List.getElem?_drop, show a + (b - a) = b from by omega]; exact hk
  obtain ⟨hl, e⟩ := List.getElem?_eq_some_iff.mp h1
  rw [show b + 1 - a = (b - a) + 1 from by omega, List.take_add_one, h1]
  rfl
theorem cut_none {t : List Nat} {a : Nat} : cut t a a = [] := by unfold cut; simp
/-- signs that mean nothing are passed -/
theorem strG_run {t : List Nat} {q : Nat} {long : Bool} (hq : q = 34 ∨ q = 39) {i n o : Nat} {told : List Nat} : ∀ d : Nat, (∀ j, i ≤ j → j < i + d → ∃ k, t[j]? = some k ∧ isInt k = false) → strG t q long i told n o = strG t q long (i + d) (told ++ cut t i (i + d)) n o
  | 0, _ => by rw [Nat.add_zero, cut_none, List.append_nil]
  | d + 1, h => by
    rw [strG_run hq d fun j h1 h2 => h j h1 (by omega)]
    obtain ⟨k, hk, hb⟩ := h (i + d) (by omega) (by omega)
    simp only [isInt, Bool.or_eq_false_iff, beq_eq_false_iff_ne] at hb
    rw [strG_step hk]
    unfold strStep
    rw [if_neg (by omega), if_neg (by omega), if_neg (by omega), List.append_assoc, ← cut_snoc (by omega) hk]
    rfl
def keysS : List Nat := [97, 98, 102, 114, 116, 118, 110, 92, 34, 39]
def valsS : List Nat := [7, 8, 12, 13, 9, 11, 10, 92, 34, 39]
theorem short_find (k : Nat) : match shortF k with | some v => ∃ i : Nat, findI k keysS 0 = (i : Int) ∧ valsS[i]? = some v | none => findI k keysS 0 = -1 := by
  unfold shortF
  by_cases h1 : k = 97
  · subst h1; exact ⟨0, rfl, rfl⟩
  by_cases h2 : k = 98
  · subst h2; exact ⟨1, rfl, rfl⟩
  by_cases h3 : k = 102
  · subst h3; exact ⟨2, rfl, rfl⟩
  by_cases h4 : k = 114
  · subst h4; exact ⟨3, rfl, rfl⟩
  by_cases h5 : k = 116
  · subst h5; exact ⟨4, rfl, rfl⟩
  by_cases h6 : k = 118
  · subst h6; exact ⟨5, rfl, rfl⟩
  by_cases h7 : k = 110
  · subst h7; exact ⟨6, rfl, rfl⟩
  by_cases h8 : k = 92
  · subst h8; exact ⟨7, rfl, rfl⟩
  by_cases h9 : k = 34
  · subst h9; exact ⟨8, rfl, rfl⟩
  by_cases h10 : k = 39
  · subst h10; exact ⟨9, rfl, rfl⟩
  rw [if_neg h1, if_neg h2, if_neg h3, if_neg h4, if_neg h5, if_neg h6, if_neg h7, if_neg h8, if_neg h9, if_neg h10]
  simp [findI, findC, keysS, Ne.symm h1, Ne.symm h2, Ne.symm h3, Ne.symm h4, Ne.symm h5, Ne.symm h6, Ne.symm h7, Ne.symm h8, Ne.symm h9, Ne.symm h10]
theorem runL_take {q : Nat} : ∀ (n m : Nat) (l : List Nat), m ≤ n → (l.take m = List.replicate m q ↔ m ≤ runL q n l)
  | _, 0, _, _ => by simp
  | 0, m + 1, _, h => by omega
  | n + 1, m + 1, [], _ => by simp [runL, List.replicate_succ]
  | n + 1, m + 1, x :: l, h => by
    rw [List.take_succ_cons, List.replicate_succ, List.cons.injEq, runL_take n m l (by omega)]
    rw [show runL q (n + 1) (x :: l) = if x = q then runL q n l + 1 else 0 from rfl]
    by_cases hx : x = q
    · simp [hx]
    · simp [hx]
theorem cut_run {t : List Nat} {q j m : Nat} (h : m ≤ 5) : (cut t j (j + m) = List.replicate m q) ↔ m ≤ runL q 5 (t.drop j) := by
  unfold cut
  rw [show j + m - j = m from by omega]
  exact runL_take 5 m _ h
theorem figs_val {pre : Nat} {figs : List Nat} {p : Addr} {code : List Nat} {v : Int} (h : EscOf pre figs p code v) : hexV figs = v := by
  obtain ⟨_, f, _⟩ := h
  cases f <;> rfl
theorem u4_esc {t : List Nat} (ht : Txt1 t) {s : Nat} (h1 : t[s]? = some 92) (h2 : t[s + 1]? = some 117) (h3 : s + 2 + 4 ≤ t.length) : ∃ v, EscOf 117 (cut t (s + 2) (s + 2 + 4)) 43 u4C v := by
  rcases ht.u4 s h1 h2 with h | h | h
  · omega
  · exact ⟨_, by rw [show s + 2 + 4 = s + 6 from rfl, h]; exact esc4a⟩
  · exact ⟨_, by rw [show s + 2 + 4 = s + 6 from rfl, h]; exact esc4b⟩
theorem u8_esc {t : List Nat} (ht : Txt1 t) {s : Nat} (h1 : t[s]? = some 92) (h2 : t[s + 1]? = some 85) (h3 : s + 2 + 8 ≤ t.length) : ∃ v, EscOf 85 (cut t (s + 2) (s + 2 + 8)) 48 u8C v := by
  rcases ht.u8 s h1 h2 with h | h | h
  · omega
  · exact ⟨_, by rw [show s + 2 + 8 = s + 10 from rfl, h]; exact esc8a⟩
  · exact ⟨_, by rw [show s + 2 + 8 = s + 10 from rfl, h]; exact esc8b⟩
theorem n_int_pat {P : Params} : nsIn (hd.heap_39 P) mainGlobals (Str.ofString "interesting") = some (some (.ref 68)) := by kernel_rfl
theorem me_u4 {P : Params} : findIn (hd.heap_39 P) (.ref 135) (Str.ofString "uEscape") = some (some (.ref 118)) := by kernel_rfl
theorem me_u8 {P : Params} : findIn (hd.heap_39 P) (.ref 135) (Str.ofString "UEscape") = some (some (.ref 125)) := by kernel_rfl
theorem me_bs {P : Params} : findIn (hd.heap_39 P) (.ref 135) (Str.ofString "BadSyntax") = some (some (.ref 132)) := by kernel_rfl
theorem ty_u4 {P : Params} : typeIn (hd.heap_39 P) (.ref 118) = some (.type "function") := by kernel_rfl
theorem ty_u8 {P : Params} : typeIn (hd.heap_39 P) (.ref 125) = some (.type "function") := by kernel_rfl
theorem ty_bs {P : Params} : typeIn (hd.heap_39 P) (.ref 132) = some (.type "function") := by kernel_rfl
theorem ge_u4 (p : PX) (words n o : Nat) : getA "uEscape" (attrsP p words n o) = none := by simp [getA, attrsP]
theorem ge_u8 (p : PX) (words n o : Nat) : getA "UEscape" (attrsP p words n o) = none := by simp [getA, attrsP]
theorem ge_bs (p : PX) (words n o : Nat) : getA "BadSyntax" (attrsP p words n o) = none := by simp [getA, attrsP]
theorem csKeys : (Str.ofString "abfrtvn\\\"'").cps.toList = keysS := rfl
theorem csVals : (Str.ofString "\x07\x08\x0c\r\t\x0b\n\\\"'").cps.toList = valsS := rfl
def locS (x : Addr) (t dl : List Nat) (q n : Nat) (i' : Int) (j : Nat) (told : List Nat) : Loc :=
  [("self", .ref x), ("argstr", .str t), ("i", .int i'), ("delim", .str dl), ("delim1", .str [q]), ("delim2", .str (List.replicate 2 q)), ("delim3", .str (List.replicate 3 q)), ("delim4", .str (List.replicate 4 q)), ("delim5", .str (List.replicate 5 q)),
   ("j", .int j), ("ustr", .str told), ("startline", .int n), ("len_argstr", .int t.length)]
theorem call_strconst {c : Cx} (F : Fx c 5) (hn : c.A.handled = none) {σ : St} {t dl : List Nat} {Q : Post} {R : RPost} {x d : Addr} {px : PX} {words n o i qu : Nat} {long : Bool} (ht : Txt1 t) (hi : i ≤ t.length) (hq : qu = 34 ∨ qu = 39) (hdl : dl = if long = true then [qu, qu, qu] else [qu]) (H : AO → List (Addr × AO)) (hH : ∀ y z, UpH (H y) (x, y) z (H z)) (hσ : σ.hp = H (.inst 135 d (attrsP px words n o)))
    (q : ∀ told at_ n' o', strG t qu long i [] n o = (some told, at_, n', o') → Q (.tup [.int (at_ : Nat), .str told]) ⟨σ.loc, H (.inst 135 d (attrsP px words n' o'))⟩)
    (qe : ∀ at_ n' o', strG t qu long i [] n o = (none, at_, n', o') → ∀ ctx, R (.ref 156, ctx) ⟨σ.loc, H (.inst 135 d (attrsP px words n' o'))⟩) :
    HOs c σ (fun us => call (.ref 104) us) [.ref x, .str t, .int i, .str dl] Q R := by
  obtain ⟨l0, h0⟩ := σ
  dsimp only at hσ q qe
  subst hσ
  intro us tm s r hlen
  refine call_X F.ok (k := 4) F.room (xs := ["self", "argstr", "i", "delim"]) (F.K _ _ rfl) (codeRec_of F.K (by rfl)) F.lim ?_ (by decide) ?_ r hlen ?_ (by rfl) (by rfl) (by rfl) (by decide)
  · intro s _
    obtain ⟨u1, u2, u3, u4, rfl⟩ : ∃ u1 u2 u3 u4, us = [u1, u2, u3, u4] := by
      match us, hlen with
      | [a, b, d, e], _ => exact ⟨a, b, d, e, rfl⟩
    exact BindsTo.of_eq rfl
  · decide
  · intro c' ok' room' e1 e2 e3 hS e5
    have F' := F.inner ok' room' e2 e3 e5
    have hn' := e5.trans hn
    simp only [List.zip_cons_cons, List.zip_nil_right]
    have hz := ht.small
    have hd0 : dl[0]? = some qu := by rw [hdl]; split <;> rfl
    have hd1 : dl = [qu] ↔ long = false := by rw [hdl]; cases long <;> simp
    have hd3 : long = true → dl = List.replicate 3 qu := by rw [hdl]; rintro rfl; rfl
    have hdz : dl.length < 10 := by rw [hdl]; split <;> simp
    have hmem := fun n' o' => (hH (.inst 135 d (attrsP px words n' o')) (.list [])).mem
    walk_at "S"
    walk_at "W"
    refine HO_item_str (fun _ _ => rfl) (by omega) (by omega) hd0 ?_
    walk_at "W"
    walk_at "S"
    refine HE_tup (by rfl) ?_
    walk_at "W"
    refine HO_mul_str (n := 2) (by omega) ?_
    walk_at "W"
    refine HO_mul_str (n := 3) (by omega) ?_
    walk_at "W"
    refine HO_mul_str (n := 4) (by omega) ?_
    walk_at "W"
    refine HO_mul_str (n := 5) (by omega) ?_
    walk_at "W"
    refine ⟨by simp, ?_⟩
    refine HA_tup ok' hn' rfl rfl ?_
    refine HAO_cons (HF_of ?_)
    walk_at "W"
    refine HAO_cons (HF_of ?_)
    walk_at "W"
    refine HAO_cons (HF_of ?_)
    walk_at "W"
    refine HAO_cons (HF_of ?_)
    walk_at "W"
    refine HAO_nil ?_
    walk_at "S"
    walk_at "W"
    walk_at "S"
    walk_at "W"
    walk_at "S"
    refine E_self F' hS (by walk_at "mem") (hmem _ _) (get_lines _ _ _ _) fi_lines rfl ?_ (by rfl) (by rfl)
    walk_at "W"
    walk_at "S"
    walk_at "len"
    walk_at "W"
    refine HS_cutw (fun σ' => ∃ (j : Nat) (told : List Nat) (i' : Int) (n' o' : Nat), t.length ≤ j ∧ strG t qu long j told n' o' = strG t qu long i [] n o ∧ σ' = ⟨locS x t dl qu n i' j told, H (.inst 135 d (attrsP px words n' o'))⟩) ?_ ?_
    · refine HS1_while ok' (fun m σ' => ∃ (j : Nat) (told : List Nat) (i' : Int) (n' o' : Nat), m = t.length - j ∧ j ≤ t.length ∧ told.length ≤ j ∧ strG t qu long j told n' o' = strG t qu long i [] n o ∧ σ' = ⟨locS x t dl qu n i' j told, H (.inst 135 d (attrsP px words n' o'))⟩) _ ?_ (by unfold locS; walk_at "weak") ⟨i, [], i, n, o, rfl, hi, by simp, rfl, rfl⟩
      rintro m _ ⟨j, told, i', n', o', rfl, hj, htl, hR, rfl⟩
      unfold locS
      walk_at "W"
      refine ⟨fun hb => ?_, fun hb => ?_⟩
      · have hjl : j < t.length := by simpa using hb
        obtain ⟨k, hk⟩ := get_of_lt hjl
        refine HS_cutw (fun σ' => k ≠ qu ∧ σ' = ⟨locS x t dl qu n i' j told, H (.inst 135 d (attrsP px words n' o'))⟩) ?_ ?_
        · refine HS1_if ?_
          walk_at "W"
          refine HO_item_str (fun _ _ => rfl) (by omega) (by omega) (by rw [nat0]; exact hk) ?_
          walk_at "W"
          refine ⟨fun hb => ?_, fun hb => ?_⟩
          · have hkq : k = qu := by simpa using hb
            subst hkq
            rw [strG_step hk] at hR
            unfold strStep at hR
            rw [if_pos rfl] at hR
            walk_at "S"
            walk_at "W"
            refine ⟨fun hb => ?_, fun hb => ?_⟩
            · have hl : long = false := hd1.mp (of_decide_eq_true hb)
              rw [if_pos hl] at hR
              walk_at "S"
              walk_at "W"
              walk_at "S"
              refine HE_tup (by rfl) ?_
              walk_at "W"
              refine ⟨by simp, ?_⟩
              dsimp only
              have := q _ _ _ _ hR.symm
              rwa [show ((j : Int) + 1) = ((j + 1 : Nat) : Int) from by omega]
            · have hl : long = true := by
                have h1 := of_decide_eq_false hb
                cases long with
                | true => rfl
                | false => exact absurd (hd1.mpr rfl) h1
              rw [if_neg (by rw [hl]; decide)] at hR
              repeat refine HS_nil ?_
              walk_at "S"
              walk_at "W"
              refine ⟨fun hb => ?_, fun hb => absurd (hd3 hl) (of_decide_eq_false hb)⟩
              have hrl := (runL_le k 5 (t.drop j)).1
              have ct : ∀ m : Nat, m ≤ 5 → ((cut t ((j : Int)).toNat (((j : Int) + (m : Int))).toNat = List.replicate m k) ↔ m ≤ runL k 5 (t.drop j)) := fun m hm => by
                rw [nat0, show ((j : Int) + (m : Int)).toNat = j + m from by omega]; exact cut_run hm
              have c5 : (cut t ((j : Int)).toNat ((j : Int) + 5).toNat = List.replicate 5 k) ↔ 5 ≤ runL k 5 (t.drop j) := ct 5 (by omega)
              have c4 : (cut t ((j : Int)).toNat ((j : Int) + 4).toNat = List.replicate 4 k) ↔ 4 ≤ runL k 5 (t.drop j) := ct 4 (by omega)
              have c3 : (cut t ((j : Int)).toNat ((j : Int) + 3).toNat = List.replicate 3 k) ↔ 3 ≤ runL k 5 (t.drop j) := ct 3 (by omega)
              clear ct
              walk_at "S"
              walk_at "W"
              refine ⟨t, j, _, rfl, rfl, rfl, by omega, by omega, by omega, ?_⟩
              walk_at "W"
              refine ⟨fun hb => ?_, fun hb => ?_⟩
              · have h5 : runL k 5 (t.drop j) = 5 := by have := c5.mp (of_decide_eq_true hb); omega
                rw [h5, if_pos (by decide)] at hR
                walk_at "S"
                walk_at "W"
                walk_at "S"
                walk_at "W"
                refine' HO_iadd_str ?h ?_
                case h => simp; omega
                walk_at "ex"
                walk_at "S"
                refine HE_tup (by rfl) ?_
                walk_at "W"
                refine ⟨by simp, ?_⟩
                dsimp only
                have := q _ _ _ _ hR.symm
                rwa [show ((j : Int) + 5) = ((j + 5 : Nat) : Int) from by omega]
              · have n5 : ¬ 5 ≤ runL k 5 (t.drop j) := fun h => of_decide_eq_false hb (c5.mpr h)
                repeat refine HS_nil ?_
                walk_at "S"
                walk_at "W"
                refine ⟨t, j, _, rfl, rfl, rfl, by omega, by omega, by omega, ?_⟩
                walk_at "W"
                refine ⟨fun hb => ?_, fun hb => ?_⟩
                · have h4 : runL k 5 (t.drop j) = 4 := by have := c4.mp (of_decide_eq_true hb); omega
                  rw [h4, if_pos (by decide)] at hR
                  walk_at "S"
                  walk_at "W"
                  walk_at "S"
                  walk_at "W"
                  walk_at "ex"
                  walk_at "S"
                  refine HE_tup (by rfl) ?_
                  walk_at "W"
                  refine ⟨by simp, ?_⟩
                  dsimp only
                  have := q _ _ _ _ hR.symm
                  rwa [show ((j : Int) + 4) = ((j + 4 : Nat) : Int) from by omega]
                · have n4 : ¬ 4 ≤ runL k 5 (t.drop j) := fun h => of_decide_eq_false hb (c4.mpr h)
                  repeat refine HS_nil ?_
                  walk_at "S"
                  walk_at "W"
                  refine ⟨t, j, _, rfl, rfl, rfl, by omega, by omega, by omega, ?_⟩
                  walk_at "W"
                  refine ⟨fun hb => ?_, fun hb => ?_⟩
                  · have h3 : runL k 5 (t.drop j) = 3 := by have := c3.mp (of_decide_eq_true hb); omega
                    rw [h3, if_pos (by decide)] at hR
                    walk_at "S"
                    walk_at "W"
                    walk_at "S"
                    refine HE_tup (by rfl) ?_
                    walk_at "W"
                    refine ⟨by simp, ?_⟩
                    dsimp only
                    have := q _ _ _ _ hR.symm
                    rw [show told ++ List.replicate (3 - 3) k = told from by simp] at this
                    rwa [show ((j : Int) + 3) = ((j + 3 : Nat) : Int) from by omega]
                  · have n3 : ¬ 3 ≤ runL k 5 (t.drop j) := fun h => of_decide_eq_false hb (c3.mpr h)
                    rw [if_neg (by omega)] at hR
                    repeat refine HS_nil ?_
                    walk_at "S"
                    walk_at "W"
                    walk_at "ex"
                    walk_at "S"
                    walk_at "W"
                    walk_at "ex"
                    walk_at "S"
                    refine ⟨t.length - (j + 1), _, by omega, ?_, j + 1, told ++ [k], i', n', o', rfl, by omega, by simp; omega, hR, rfl⟩
                    walk_at "weak"
          · have hkq : ¬ k = qu := by simpa using hb
            repeat refine HS_nil ?_
            exact ⟨_, by first | (unfold locS; walk_at "weak") | walk_at "weak", hkq, rfl⟩
        · rintro _ ⟨hkq, rfl⟩
          obtain ⟨s, ks, hs1, hs2, hs3, hs4⟩ := first_int ht.toTxt0 _ j rfl hjl
          have hsl := (List.getElem?_eq_some_iff.mp hs2).1
          have hrun := strG_run (long := long) hq (n := n') (o := o') (told := told) (t := t) (i := j) (s - j) (fun a h1 h2 => hs4 a h1 (by omega))
          rw [show j + (s - j) = s from by omega] at hrun
          rw [hrun] at hR
          have hcl : (cut t j s).length ≤ s - j := by unfold cut; simp; omega
          have hsj : ks = qu → j < s := fun h => by
            rcases Nat.lt_or_ge j s with h1 | h1
            · exact h1
            · have : j = s := by omega
              subst this
              rw [hk] at hs2
              cases hs2
              exact absurd h hkq
          have htl' : (told ++ cut t j s).length ≤ s := by simp; omega
          generalize htold : told ++ cut t j s = told' at hR htl'
          unfold locS
          walk_at "S"
          refine E_pat F' hS (pat68 F') n_int_pat rfl (by decide) sl_search ty_search (by rfl) (by rfl) (by decide) (by decide) ?_
          walk_at "W"
          refine HO_pat ok' (fun C T g i L => Sre.forSearch C T g i L false) sl_search en_search ar_search (fun _ => rfl) (pat68 F') hj (by omega) (int_ends (T := t.toArray) (L := t.length) hs1 hsl (by rw [getD_arr, hs2]; exact hs3) (fun a h1 h2 => by
            obtain ⟨ka, g1, g2⟩ := hs4 a h1 h2
            rw [getD_arr, g1]; exact g2)) (fun r hr => .inr ⟨hr.1, [], madeM0 r, ?_⟩)
          rw [hr.2.1]
          walk_at "W"
          refine HS_cons (HS1_assert (HT_val ?_ (fun _ => rfl)))
          walk_at "W"
          refine HB_mat ok' ⟨rfl, ?_⟩
          walk_at "S"
          refine E_mmeth F' sl_start ty_start (by rfl) (by decide) ?_
          walk_at "W"
          refine ⟨_, _, _, _, _, _, _, _, rfl, HO_mstart ok' ?_⟩
          walk_at "W"
          walk_at "S"
          walk_at "W"
          refine ⟨t, j, s, rfl, rfl, rfl, by omega, by omega, by omega, ?_⟩
          rw [nat0, nat0]
          refine' HO_iadd_str ?h ?_
          case h => omega
          rw [htold]
          walk_at "ex"
          walk_at "S"
          walk_at "W"
          refine HO_item_str (fun _ _ => rfl) (by omega) (by omega) (by rw [nat0]; exact hs2) ?_
          walk_at "W"
          walk_at "S"
          walk_at "W"
          refine ⟨fun hb => ?_, fun hb => ?_⟩
          · have hq1 : ks = qu := by simpa using hb
            have := hsj hq1
            walk_at "S"
            walk_at "W"
            walk_at "S"
            refine ⟨t.length - s, _, by omega, ?_, s, told', s, n', o', rfl, by omega, htl', hR, rfl⟩
            walk_at "weak"
          · have hq1 : ¬ ks = qu := by simpa using hb
            rw [strG_step hs2] at hR
            unfold strStep at hR
            rw [if_neg hq1] at hR
            refine HS_cons (HS1_if (HT_bool (HAll_and (HT_inset ok' (ks := [34, 39]) (.inl rfl) (.cons rfl (.cons rfl .nil)) (by decide) rfl rfl ?_))))
            walk_at "W"
            refine ⟨ks, rfl, ?_⟩
            dsimp only
            refine ⟨fun hb => HAll_and ?_, fun hb => ⟨fun h => (nomatch h), fun _ => ?_⟩⟩
            · have hb1 : ks = 34 ∨ ks = 39 := by simpa using hb
              walk_at "W"
              refine ⟨fun hb2 => HAll_and_nil ⟨fun _ => ?_, fun h => (nomatch h)⟩, fun hb2 => absurd hb2 (by simpa using hq1)⟩
              rw [if_neg (by omega), if_neg (by omega)] at hR
              walk_at "S"
              walk_at "W"
              walk_at "ex"
              walk_at "S"
              walk_at "W"
              walk_at "S"
              refine ⟨t.length - (s + 1), _, by omega, ?_, s + 1, told' ++ [ks], s, n', o', rfl, by omega, by simp; omega, hR, rfl⟩
              walk_at "weak"
            · have hb1 : ¬ (ks = 34 ∨ ks = 39) := by simpa using hb
              refine HS_cons (HS1_if (HT_inset ok' (ks := [13, 10]) (.inl rfl) (.cons rfl (.cons rfl .nil)) (by decide) rfl rfl ?_))
              walk_at "W"
              refine ⟨ks, rfl, ?_⟩
              dsimp only
              refine ⟨fun hb => ?_, fun hb => ?_⟩
              · have hb2 : ks = 13 ∨ ks = 10 := by simpa using hb
                rw [if_neg (by omega), if_pos hb2] at hR
                refine HS_cutw (fun σ' => long = true ∧ σ' = ⟨("ch", .str [ks]) :: locS x t dl qu n s j told', H (.inst 135 d (attrsP px words n' o'))⟩) ?_ ?_
                · refine HS1_if ?_
                  walk_at "W"
                  refine ⟨fun hb => ?_, fun hb => ?_⟩
                  · have hl : long = false := hd1.mp (of_decide_eq_true hb)
                    rw [if_pos hl] at hR
                    refine HS_cons ?_
                    refine S_bad (F'.mono (by omega)) hS (by rfl) (by rfl) ?_
                    refine HX_cons (E_self F' hS (by walk_at "mem") (hmem _ _) (get_doc _ _ _ _) fi_doc rfl ?_ (by rfl) (by rfl))
                    walk_at "W"
                    refine HE_str ?_
                    walk_at "W"
                    exact ⟨_, _, _, _, _, rfl, ht.fit, ht.pos, ht.small, by rw [hn']; trivial, qe _ _ _ hR.symm _⟩
                  · have hl : long = true := by
                      have h1 := of_decide_eq_false hb
                      cases long with
                      | true => rfl
                      | false => exact absurd (hd1.mpr rfl) h1
                    repeat refine HS_nil ?_
                    exact ⟨_, by unfold locS; walk_at "weak", hl, rfl⟩
                · rintro _ ⟨hl, rfl⟩
                  rw [if_neg (by rw [hl]; decide)] at hR
                  unfold locS
                  refine HS_cons ?_
                  refine HS1_augAttr ok' F'.K ?_
                  walk_at "W"
                  refine ⟨x, 135, d, _, _, _, rfl, hmem _ _, kc135, get_lines _ _ _ _, fi_lines, rfl, rfl, by simp [attrsP], tk_lines, ?_⟩
                  walk_at "W"
                  refine ⟨_, _, ?_, hH _ _, ?_⟩
                  · simp [attrsP]
                  rw [show ((n' : Int) + 1) = ((n' + 1 : Nat) : Int) by omega, put_lines]
                  walk_at "S"
                  walk_at "W"
                  walk_at "ex"
                  walk_at "S"
                  walk_at "W"
                  refine HS_cons (HS1_assign1 ?_ (by rfl) (by rfl) (by rfl))
                  walk_at "W"
                  refine HA_attr ok' F'.K ?_
                  walk_at "W"
                  refine ⟨x, 135, d, _, _, rfl, hH _ _, kc135, by simp [attrsP], tk_start, ?_⟩
                  rw [show ((s : Int) + 1) = ((s + 1 : Nat) : Int) by omega, put_start]
                  repeat refine HS_nil ?_
                  refine ⟨t.length - (s + 1), _, by omega, ?_, s + 1, told' ++ [ks], s, n' + 1, s + 1, rfl, by omega, by simp; omega, hR, rfl⟩
                  walk_at "weak"
              · have hb2 : ¬ (ks = 13 ∨ ks = 10) := by simpa using hb
                have h92 : ks = 92 := by
                  simp only [isInt, Bool.or_eq_true, beq_iff_eq] at hs3
                  omega
                subst h92
                rw [if_pos rfl] at hR
                walk_at "S"
                walk_at "W"
                refine ⟨fun _ => ?_, fun hb => absurd hb (by decide)⟩
                obtain ⟨e, he⟩ := ht.toTxt0.next hs2 (by decide)
                have hel := (List.getElem?_eq_some_iff.mp he).1
                rw [he] at hR
                simp only [Option.getD_some] at hR
                walk_at "S"
                walk_at "W"
                walk_at "S"
                walk_at "W"
                refine HO_item_str (fun _ _ => rfl) (by omega) (by omega) (by rw [show ((s : Int) + 1).toNat = s + 1 from by omega]; exact he) ?_
                walk_at "W"
                walk_at "S"
                walk_at "W"
                refine HT_val ?_ (fun _ => rfl)
                walk_at "W"
                refine HB_str (by simp) ?_
                refine ⟨fun h => absurd h (by simp), fun _ => ?_⟩
                repeat refine HS_nil ?_
                walk_at "S"
                refine E_find F' (by rfl) (by rfl) (by decide) (by decide) ?_
                refine HE_strc csKeys ⟨_, rfl, ?_⟩
                walk_at "W"
                refine HO_find1 ?_
                have hsf := short_find e
                rcases hse : shortF e with _ | v
                · rw [hse] at hsf hR
                  dsimp only at hsf hR
                  rw [hsf]
                  walk_at "W"
                  walk_at "S"
                  walk_at "W"
                  refine ⟨fun hb => absurd hb (by decide), fun _ => ?_⟩
                  walk_at "S"
                  walk_at "W"
                  refine ⟨fun hb => ?_, fun hb => ?_⟩
                  · have h117 : e = 117 := by simpa using hb
                    subst h117
                    rw [if_neg (show ¬ escS 117 = 0 from by decide), show escS 117 = 4 from rfl] at hR
                    unfold escF at hR
                    walk_at "S"
                    refine E_meth F' hS (by walk_at "mem") (hmem _ _) me_u4 ty_u4 (ge_u4 _ _ _ _) (keeps_fn (F'.K _ _ rfl) rfl) (by rfl) (by rfl) (by rfl) (by decide) (by decide) ?_
                    walk_at "W"
                    rw [show ((s : Int) + 1 + 1) = ((s + 2 : Nat) : Int) from by omega]
                    refine call_uEscape F' hn' ht (by omega) H hH rfl (fun h => u4_esc ht hs2 he h) (fun v h1 h2 h3 => ?_) (fun h ctx => ?_)
                    · rw [if_neg (by omega), figs_val h2, if_neg (by omega)] at hR
                      refine HA_tup ok' hn' rfl rfl ?_
                      refine HAO_cons (HF_of ?_)
                      walk_at "W"
                      refine HAO_cons (HF_of ?_)
                      walk_at "W"
                      refine HAO_nil ?_
                      walk_at "S"
                      walk_at "W"
                      walk_at "ex"
                      repeat refine HS_nil ?_
                      refine ⟨t.length - (s + 2 + 4), _, by omega, ?_, s + 2 + 4, told' ++ [v.toNat], s, n', o', rfl, by omega, by simp; omega, hR, rfl⟩
                      walk_at "weak"
                    · refine qe s n' o' ?_ ctx
                      rcases h with h | ⟨v, h1, h2, h3⟩
                      · rw [if_pos h] at hR
                        exact hR.symm
                      · rw [if_neg (by omega), figs_val h2, if_pos h3] at hR
                        exact hR.symm
                  · have h117 : ¬ e = 117 := by simpa using hb
                    walk_at "S"
                    walk_at "W"
                    refine ⟨fun hb => ?_, fun hb => ?_⟩
                    · have h85 : e = 85 := by simpa using hb
                      subst h85
                      rw [if_neg (show ¬ escS 85 = 0 from by decide), show escS 85 = 8 from rfl] at hR
                      unfold escF at hR
                      walk_at "S"
                      refine E_meth F' hS (by walk_at "mem") (hmem _ _) me_u8 ty_u8 (ge_u8 _ _ _ _) (keeps_fn (F'.K _ _ rfl) rfl) (by rfl) (by rfl) (by rfl) (by decide) (by decide) ?_
                      walk_at "W"
                      rw [show ((s : Int) + 1 + 1) = ((s + 2 : Nat) : Int) from by omega]
                      refine call_UEscape F' hn' ht (by omega) H hH rfl (fun h => u8_esc ht hs2 he h) (fun v h1 h2 h3 => ?_) (fun h ctx => ?_)
                      · rw [if_neg (by omega), figs_val h2, if_neg (by omega)] at hR
                        refine HA_tup ok' hn' rfl rfl ?_
                        refine HAO_cons (HF_of ?_)
                        walk_at "W"
                        refine HAO_cons (HF_of ?_)
                        walk_at "W"
                        refine HAO_nil ?_
                        walk_at "S"
                        walk_at "W"
                        walk_at "ex"
                        repeat refine HS_nil ?_
                        refine ⟨t.length - (s + 2 + 8), _, by omega, ?_, s + 2 + 8, told' ++ [v.toNat], s, n', o', rfl, by omega, by simp; omega, hR, rfl⟩
                        walk_at "weak"
                      · refine qe s n' o' ?_ ctx
                        rcases h with h | ⟨v, h1, h2, h3⟩
                        · rw [if_pos h] at hR
                          exact hR.symm
                        · rw [if_neg (by omega), figs_val h2, if_pos h3] at hR
                          exact hR.symm
                    · have h85 : ¬ e = 85 := by simpa using hb
                      rw [if_pos (by unfold escS; rw [if_neg h117, if_neg h85])] at hR
                      walk_at "S"
                      refine E_meth F' hS (by walk_at "mem") (hmem _ _) me_bs ty_bs (ge_bs _ _ _ _) (keeps_fn (F'.K _ _ rfl) rfl) (by rfl) (by rfl) (by rfl) (by decide) (by decide) ?_
                      walk_at "W"
                      refine HE_str ?_
                      walk_at "W"
                      exact call_BadSyntax (F'.mono (by omega)) ht hn' H hH rfl fun ctx => qe _ _ _ hR.symm ctx
                · rw [hse] at hsf hR
                  dsimp only at hsf hR
                  obtain ⟨iv, hf1, hf2⟩ := hsf
                  rw [short_esc hse, Nat.add_zero] at hR
                  rw [hf1]
                  walk_at "W"
                  walk_at "S"
                  walk_at "W"
                  refine ⟨fun _ => ?_, fun hb => absurd hb (by simp)⟩
                  walk_at "S"
                  walk_at "W"
                  refine HE_strc csVals ?_
                  walk_at "W"
                  refine HO_item_str (fun _ _ => rfl) (by omega) (by decide) (by rw [nat0]; exact hf2) ?_
                  walk_at "W"
                  walk_at "S"
                  walk_at "W"
                  walk_at "ex"
                  walk_at "S"
                  walk_at "W"
                  walk_at "ex"
                  repeat refine HS_nil ?_
                  rw [show ((s : Int) + 1 + 1) = ((s + 2 : Nat) : Int) from by omega]
                  refine ⟨t.length - (s + 2), _, by omega, ?_, s + 2, told' ++ [v], s, n', o', rfl, by omega, by simp; omega, hR, rfl⟩
                  walk_at "weak"
      · repeat refine HS_nil ?_
        exact ⟨_, by first | (unfold locS; walk_at "weak") | walk_at "weak", j, told, i', n', o', by simp at hb; omega, hR, rfl⟩
    · rintro _ ⟨j, told, i', n', o', hj, hR, rfl⟩
      rw [strG_end hj] at hR
      unfold locS
      walk_at "S"
      refine E_meth F' hS (by walk_at "mem") (hmem _ _) me_bs ty_bs (ge_bs _ _ _ _) (keeps_fn (F'.K _ _ rfl) rfl) (by rfl) (by rfl) (by rfl) (by decide) (by decide) ?_
      walk_at "W"
      refine HE_str ?_
      walk_at "W"
      exact call_BadSyntax (F'.mono (by omega)) ht hn' H hH rfl fun ctx => qe _ _ _ hR.symm ctx
def hexC : List Nat := [65, 66, 67, 68, 69, 70, 97, 98, 99, 100, 101, 102, 48, 49, 50, 51, 52, 53, 54, 55, 56, 57]
theorem hex_iff (k : Nat) : k ∈ hexC ↔ k ∈ figs := by
  simp only [hexC, figs, List.mem_cons, List.not_mem_nil, or_false]
  omega
def allow (word : List Nat) : List Nat := if word = [95] then marksC else marks
theorem allow_iff (word : List Nat) (k : Nat) : k ∉ allow word ↔ (k ∉ marksC ∨ (k = 58 ∧ word ≠ [95])) := by
  unfold allow
  have h : k ∈ marksC ↔ (k ∈ marks ∨ k = 58) := by
    show k ∈ marks ++ [58] ↔ _
    rw [List.mem_append, List.mem_singleton]
  have h58 : 58 ∉ marks := by decide
  by_cases hw : word = [95]
  · rw [if_pos hw]
    exact ⟨.inl, fun z => z.elim id fun z => absurd hw z.2⟩
  · rw [if_neg hw, h]
    constructor
    · intro z
      by_cases hk : k = 58
      · exact .inr ⟨hk, hw⟩
      · exact .inl fun q => q.elim z hk
    · rintro (z | ⟨rfl, _⟩)
      · exact fun q => z (.inl q)
      · exact h58
section
variable {c : Cx} {k : Nat} {σ : St} {R : RPost} {S : Scope}
theorem n_nn {P : Params} : nsIn (hd.heap_39 P) mainGlobals (Str.ofString "_notNameChars") = some (some (.str (Str.ofString "\t\x0d\n !\"#$&'()*+,/;<=>?@\x5b\\]^`{|}~:") 286)) := by kernel_rfl
theorem n_nq {P : Params} : nsIn (hd.heap_39 P) mainGlobals (Str.ofString "_notQNameChars") = some (some (.str (Str.ofString "\t\x0d\n !\"#$&'()*+,/;<=>?@\x5b\\]^`{|}~") 284)) := by kernel_rfl
theorem n_hex {P : Params} : nsIn (hd.heap_39 P) mainGlobals (Str.ofString "hexChars") = some (some (.str (Str.ofString "ABCDEFabcdef0123456789") 288)) := by kernel_rfl
theorem n_esc {P : Params} : nsIn (hd.heap_39 P) mainGlobals (Str.ofString "escapeChars") = some (some (.str (Str.ofString "(_~.-!$&'()*+,;=/?#@%)") 290)) := by kernel_rfl
theorem n_num {P : Params} : nsIn (hd.heap_39 P) mainGlobals (Str.ofString "numberCharsPlus") = some (some (.str (Str.ofString "0123456789-+.") 292)) := by kernel_rfl
theorem E_nn {pos : Pos} {Q : Post} (F : Fx c k) (hS : c.cs = S) (hx : S.names.lookup (Str.ofString "_notNameChars") = some .globalImplicit) (q : Q (.str marksC) σ) : HE c σ (.Name (Str.ofString "_notNameChars") pos) Q R :=
  E_glob F hS n_nn (.str (Str.ofString "\t\x0d\n !\"#$&'()*+,/;<=>?@\x5b\\]^`{|}~:") 286) q hx (by decide)
theorem E_nq {pos : Pos} {Q : Post} (F : Fx c k) (hS : c.cs = S) (hx : S.names.lookup (Str.ofString "_notQNameChars") = some .globalImplicit) (q : Q (.str marks) σ) : HE c σ (.Name (Str.ofString "_notQNameChars") pos) Q R :=
  E_glob F hS n_nq (.str (Str.ofString "\t\x0d\n !\"#$&'()*+,/;<=>?@\x5b\\]^`{|}~") 284) q hx (by decide)
theorem E_hex {pos : Pos} {Q : Post} (F : Fx c k) (hS : c.cs = S) (hx : S.names.lookup (Str.ofString "hexChars") = some .globalImplicit) (q : Q (.str hexC) σ) : HE c σ (.Name (Str.ofString "hexChars") pos) Q R :=
  E_glob F hS n_hex (.str (Str.ofString "ABCDEFabcdef0123456789") 288) q hx (by decide)
theorem E_esc {pos : Pos} {Q : Post} (F : Fx c k) (hS : c.cs = S) (hx : S.names.lookup (Str.ofString "escapeChars") = some .globalImplicit) (q : Q (.str freed) σ) : HE c σ (.Name (Str.ofString "escapeChars") pos) Q R :=
  E_glob F hS n_esc (.str (Str.ofString "(_~.-!$&'()*+,;=/?#@%)") 290) q hx (by decide)
theorem E_num {pos : Pos} {Q : Post} (F : Fx c k) (hS : c.cs = S) (hx : S.names.lookup (Str.ofString "numberCharsPlus") = some .globalImplicit) (q : Q (.str nums) σ) : HE c σ (.Name (Str.ofString "numberCharsPlus") pos) Q R :=
  E_glob F hS n_num (.str (Str.ofString "0123456789-+.") 292) q hx (by decide)
end
theorem me_sk {P : Params} : findIn (hd.heap_39 P) (.ref 135) (Str.ofString "skipSpace") = some (some (.ref 90)) := by kernel_rfl
theorem ty_sk {P : Params} : typeIn (hd.heap_39 P) (.ref 90) = some (.type "function") := by kernel_rfl
theorem ge_sk (p : PX) (words n o : Nat) : getA "skipSpace" (attrsP p words n o) = none := by simp [getA, attrsP]
theorem fi_kw {P : Params} : findIn (hd.heap_39 P) (.ref 135) (Str.ofString "keywords") = some none := by kernel_rfl
theorem get_kw (p : PX) (words n o : Nat) : getA "keywords" (attrsP p words n o) = some (.lst (strsV kwds)) := by simp [getA, attrsP]
theorem fi_ks {P : Params} : findIn (hd.heap_39 P) (.ref 135) (Str.ofString "keywordsSet") = some none := by kernel_rfl
theorem get_ks (p : PX) (words n o : Nat) : getA "keywordsSet" (attrsP p words n o) = some (.int words) := by simp [getA, attrsP]
theorem csIll : (Str.ofString "illegal escape ").cps.toList = [105, 108, 108, 101, 103, 97, 108, 32, 101, 115, 99, 97, 112, 101, 32] := rfl
theorem csIllh : (Str.ofString "illegal hex escape ").cps.toList = [105, 108, 108, 101, 103, 97, 108, 32, 104, 101, 120, 32, 101, 115, 99, 97, 112, 101, 32] := rfl
theorem allow10 (word : List Nat) : 10 ∈ allow word := by unfold allow; split <;> decide
def locQ (x rs : Addr) (t word ln : List Nat) (st p : Nat) (ls : Bool) (ch : Nat) : Loc :=
  [("self", .ref x), ("argstr", .str t), ("i", .int p), ("res", .ref rs), ("c", .str [ch]), ("len_argstr", .int t.length), ("ln", .str ln), ("pfx", .str word), ("allowedChars", .str (allow word)), ("lastslash", .bool ls), ("start", .int st)]
theorem span_pos {bad t : List Nat} {i k : Nat} (h : t[i]? = some k) (hk : k ∉ bad) : span bad (t.drop i) = span bad (t.drop (i + 1)) + 1 := by rw [span_step h, if_neg hk]
theorem skip_still {t : List Nat} (ht : Txt0 t) {i n o k : Nat} (hk : t[i]? = some k) (h1 : k ≠ 32) (h2 : k ≠ 9) (h3 : t[eolAt t i]? ≠ some 10) : skipR t i n o = ((i : Int), n, o) := by
  have hi := (List.getElem?_eq_some_iff.mp hk).1
  have hb : blanks (t.drop i) = 0 := by rw [blanks_step hk, if_neg (by omega)]
  rw [skipR_step ht (Nat.le_of_lt hi), hb, Nat.add_zero, if_neg (fun z => h3 z.2), if_neg (by omega)]
def nameB (t word : List Nat) (W words : Nat) : Option (Option ((List Nat × List Nat) × Nat)) :=
  if t[W]? ≠ some 58 then
    if words = 1 ∧ word ≠ [] ∧ word ∉ kwds then some (some (([], word), W)) else some none
  else match nlG t word (W + 1) [] with
    | none => none
    | some (told, stop) => if t[stop - 1]? = some 46 then some (some ((word, told.dropLast), stop - 1)) else some (some ((word, told), stop))
theorem nameR_B {t : List Nat} {i k words : Nat} (hk : t[i]? = some k) (h : k ∉ nums) : nameR t i words = nameB t (cut t i (wordEnd t i)) (wordEnd t i) words := by
  unfold nameR nameB
  rw [show t[i]?.getD 0 = k from by rw [hk]; rfl, if_neg h]
  all_goals rfl
theorem call_qname {c : Cx} (F : Fx c 3) (hn : c.A.handled = none) {σ : St} {t : List Nat} {Q : Post} {R : RPost} {x d rs : Addr} {px : PX} {words n o i k : Nat} (ht : Txt1 t) (hk : t[i]? = some k) (hk1 : k ≠ 32) (hk2 : k ≠ 9) (hk3 : t[eolAt t i]? ≠ some 10) (hw01 : words < 2)
    (H : AO → AO → List (Addr × AO)) (hH : ∀ y z w, UpH (H y w) (x, y) z (H z w)) (hG : ∀ y z w, UpH (H w y) (rs, y) z (H w z)) (hσ : σ.hp = H (.inst 135 d (attrsP px words n o)) (.list []))
    (q1 : nameR t i words = some none → Q (.int (-1)) ⟨σ.loc, H (.inst 135 d (attrsP px words n o)) (.list [])⟩)
    (q2 : ∀ a b e, nameR t i words = some (some ((a, b), e)) → Q (.int (e : Nat)) ⟨σ.loc, H (.inst 135 d (attrsP px words n o)) (.list [.tup [.str a, .str b]])⟩)
    (qe : nameR t i words = none → ∀ ctx, R (.ref 156, ctx) ⟨σ.loc, H (.inst 135 d (attrsP px words n o)) (.list [])⟩) :
    HOs c σ (fun us => call (.ref 97) us) [.ref x, .str t, .int i, .ref rs] Q R := by
  obtain ⟨l0, h0⟩ := σ
  dsimp only at hσ q1 q2 qe
  subst hσ
  intro us tm s r hlen
  refine call_X F.ok (k := 2) F.room (xs := ["self", "argstr", "i", "res"]) (F.K _ _ rfl) (codeRec_of F.K (by rfl)) F.lim ?_ (by decide) ?_ r hlen ?_ (by rfl) (by rfl) (by rfl) (by decide)
  · intro s _
    obtain ⟨u1, u2, u3, u4, rfl⟩ : ∃ u1 u2 u3 u4, us = [u1, u2, u3, u4] := by
      match us, hlen with
      | [a, b, d, e], _ => exact ⟨a, b, d, e, rfl⟩
    exact BindsTo.of_eq rfl
  · decide
  · intro c' ok' room' e1 e2 e3 hS e5
    have F' := F.inner ok' room' e2 e3 e5
    have hn' := e5.trans hn
    simp only [List.zip_cons_cons, List.zip_nil_right]
    have hz := ht.small
    have hi := (List.getElem?_eq_some_iff.mp hk).1
    have hmem := (hH (.inst 135 d (attrsP px words n o)) (.list []) (.list [])).mem
    have hgmem := (hG (.list []) (.list []) (.inst 135 d (attrsP px words n o))).mem
    walk_at "S"
    refine E_meth F' hS (by walk_at "mem") hmem me_sk ty_sk (ge_sk _ _ _ _) (keeps_fn (F'.K _ _ rfl) rfl) (by rfl) (by rfl) (by rfl) (by decide) (by decide) ?_
    walk_at "W"
    refine call_skipSpace (F'.mono (by omega)) ht hi (fun y => H y (.list [])) (fun y z => hH y z _) rfl ?_
    rw [skip_still ht.toTxt0 hk hk1 hk2 hk3]
    dsimp only
    walk_at "W"
    walk_at "S"
    walk_at "W"
    refine ⟨fun hb => absurd (of_decide_eq_true hb) (by omega), fun _ => ?_⟩
    refine HS_nil ?_
    walk_at "S"
    walk_at "W"
    refine HO_item_str (fun _ _ => rfl) (by omega) (by omega) (by rw [nat0]; exact hk) ?_
    walk_at "W"
    have hkd : t[i]?.getD 0 = k := by rw [hk]; rfl
    walk_at "S"
    walk_at "W"
    refine E_num F' hS (by rfl) ?_
    walk_at "W"
    refine ⟨fun hb => ?_, fun hb => ?_⟩
    · have hm : k ∈ nums := of_decide_eq_true hb
      walk_at "S"
      walk_at "W"
      exact ⟨1, rfl, q1 (by unfold nameR; rw [hkd, if_pos hm])⟩
    have hnum : k ∉ nums := of_decide_eq_false hb
    refine HS_nil ?_
    walk_at "S"
    walk_at "len"
    walk_at "W"
    have hname := nameR_B (words := words) hk hnum
    generalize hwe : wordEnd t i = W at hname
    generalize hwd : cut t i W = word at hname
    refine HS_cutw (fun σ' => i ≤ W ∧ W < t.length ∧ word.length ≤ W ∧ σ' = ⟨[("self", .ref x), ("argstr", .str t), ("i", .int W), ("res", .ref rs), ("c", .str [k]), ("len_argstr", .int t.length), ("ln", .str word)], H (.inst 135 d (attrsP px words n o)) (.list [])⟩) ?_ ?_
    · refine HS1_if ?_
      walk_at "W"
      refine E_nn F' hS (by rfl) ?_
      walk_at "W"
      obtain ⟨kE, hkE, hmE⟩ := span_end ht.toTxt0 _ i rfl hi
      refine ⟨fun hb => ?_, fun hb => ?_⟩
      · have hm : k ∉ marksC := of_decide_eq_true hb
        have hsp := span_pos hk hm
        obtain ⟨k1, hk1'⟩ := ht.toTxt0.mark hk hm
        have hi1 := (List.getElem?_eq_some_iff.mp hk1').1
        have hEl := (List.getElem?_eq_some_iff.mp hkE).1
        walk_at "S"
        walk_at "W"
        walk_at "S"
        walk_at "W"
        walk_at "ex"
        refine HS_cutw (fun σ' => σ' = ⟨[("self", .ref x), ("argstr", .str t), ("i", .int ((i + span marksC (t.drop i) : Nat) : Int)), ("res", .ref rs), ("c", .str [k]), ("len_argstr", .int t.length), ("j", .int i)], H (.inst 135 d (attrsP px words n o)) (.list [])⟩) ?_ ?_
        · refine HS1_try (Rb := fun _ _ => False) ok' F'.K (.inr (F'.blt n_IndexError bb_IndexError (by decide))) (by show c'.cs.names.lookup _ = _; rw [hS]; rfl) (by decide) ?_ (fun _ _ h => h.elim)
          refine HS_cutw (fun σ' => σ' = ⟨[("self", .ref x), ("argstr", .str t), ("i", .int ((i + span marksC (t.drop i) : Nat) : Int)), ("res", .ref rs), ("c", .str [k]), ("len_argstr", .int t.length), ("j", .int i)], H (.inst 135 d (attrsP px words n o)) (.list [])⟩) ?_ ?_
          · refine HS1_while ok' (fun m σ' => ∃ p : Nat, m = t.length - p ∧ i + 1 ≤ p ∧ p < t.length ∧ p + span marksC (t.drop p) = i + span marksC (t.drop i) ∧ σ' = ⟨[("self", .ref x), ("argstr", .str t), ("i", .int p), ("res", .ref rs), ("c", .str [k]), ("len_argstr", .int t.length), ("j", .int i)], H (.inst 135 d (attrsP px words n o)) (.list [])⟩) _ ?_ (by walk_at "weak") ⟨i + 1, rfl, Nat.le_refl _, hi1, by omega, rfl⟩
            rintro m _ ⟨p, rfl, hp1, hp2, hp3, rfl⟩
            obtain ⟨kp, hkp⟩ := get_of_lt hp2
            walk_at "W"
            refine HO_item_str (fun _ _ => rfl) (by omega) (by omega) (by rw [nat0]; exact hkp) ?_
            refine E_nn F' hS (by rfl) ?_
            walk_at "W"
            refine ⟨fun hb => ?_, fun hb => ?_⟩
            · have hmp : kp ∉ marksC := of_decide_eq_true hb
              have hsp2 := span_pos hkp hmp
              obtain ⟨k2, hk2'⟩ := ht.toTxt0.mark hkp hmp
              have hi2 := (List.getElem?_eq_some_iff.mp hk2').1
              walk_at "S"
              walk_at "W"
              walk_at "ex"
              repeat refine HS_nil ?_
              refine ⟨t.length - (p + 1), _, by omega, ?_, p + 1, rfl, by omega, hi2, by omega, rfl⟩
              walk_at "weak"
            · have hmp : kp ∈ marksC := by simpa using hb
              have h0 : span marksC (t.drop p) = 0 := by rw [span_step hkp, if_pos hmp]
              repeat refine HS_nil ?_
              have hpe : p = i + span marksC (t.drop i) := by omega
              rw [← hpe]
              exact ⟨_, by walk_at "weak", rfl⟩
          · rintro _ rfl
            repeat refine HS_nil ?_
            exact ⟨_, by walk_at "weak", rfl⟩
        · rintro _ rfl
          obtain ⟨kl, hkl⟩ := get_of_lt (t := t) (j := i + span marksC (t.drop i) - 1) (by omega)
          refine HS_cutw (fun σ' => σ' = ⟨[("self", .ref x), ("argstr", .str t), ("i", .int W), ("res", .ref rs), ("c", .str [k]), ("len_argstr", .int t.length), ("j", .int i)], H (.inst 135 d (attrsP px words n o)) (.list [])⟩ ∧ i ≤ W ∧ W < t.length) ?_ ?_
          · refine HS1_if ?_
            walk_at "W"
            refine HO_item_str (fun _ _ => rfl) (by omega) (by omega) (by rw [show (((i + span marksC (t.drop i) : Nat) : Int) - 1).toNat = i + span marksC (t.drop i) - 1 from by omega]; exact hkl) ?_
            walk_at "W"
            refine ⟨fun hb => ?_, fun hb => ?_⟩
            · have h46 : kl = 46 := by simpa using hb
              subst h46
              have hW : W = i + span marksC (t.drop i) - 1 := by
                rw [← hwe]; unfold wordEnd
                rw [if_pos ⟨by omega, hkl⟩]
              have hne : W ≠ i := by
                intro h
                rw [← hW, h, hk] at hkl
                cases hkl
                exact hnum (by decide)
              walk_at "S"
              walk_at "W"
              refine HO_isub_int ?_
              walk_at "ex"
              walk_at "S"
              walk_at "W"
              refine ⟨fun hb => absurd (of_decide_eq_true hb) (by omega), fun _ => ?_⟩
              repeat refine HS_nil ?_
              rw [show (((i + span marksC (t.drop i) : Nat) : Int) - 1) = ((W : Nat) : Int) from by omega]
              exact ⟨_, by walk_at "weak", rfl, by omega, by omega⟩
            · have h46 : ¬ kl = 46 := by simpa using hb
              have hW : W = i + span marksC (t.drop i) := by
                rw [← hwe]; unfold wordEnd
                rw [if_neg (fun z => h46 (by have := z.2; rw [hkl] at this; exact Option.some.inj this))]
              repeat refine HS_nil ?_
              exact ⟨_, by rw [hW]; walk_at "weak", rfl, by omega, by omega⟩
          · rintro _ ⟨rfl, hW1, hW2⟩
            walk_at "S"
            walk_at "W"
            refine ⟨t, i, W, rfl, rfl, rfl, by omega, by omega, by omega, ?_⟩
            rw [nat0, nat0, hwd]
            walk_at "W"
            repeat refine HS_nil ?_
            refine ⟨_, by walk_at "weak", hW1, hW2, ?_, rfl⟩
            rw [← hwd]; unfold cut; simp; omega
      · have hm : k ∈ marksC := by simpa using hb
        have h0 : span marksC (t.drop i) = 0 := by rw [span_step hk, if_pos hm]
        have hW : W = i := by
          rw [← hwe]; unfold wordEnd
          rw [h0, if_neg (by omega), Nat.add_zero]
        have hw0 : word = [] := by rw [← hwd, hW]; exact cut_none
        walk_at "S"
        walk_at "W"
        repeat refine HS_nil ?_
        refine ⟨_, by rw [hW, hw0]; walk_at "weak", by omega, by omega, by rw [hw0]; simp, rfl⟩
    · rintro _ ⟨hW1, hW2, hW3, rfl⟩
      obtain ⟨kW, hkW⟩ := get_of_lt hW2
      unfold nameB at hname
      refine HS_cons (HS1_if (HT.mono (Q := fun b σ' => b = decide (kW = 58) ∧ σ' = ⟨[("self", .ref x), ("argstr", .str t), ("i", .int W), ("res", .ref rs), ("c", .str [k]), ("len_argstr", .int t.length), ("ln", .str word)], H (.inst 135 d (attrsP px words n o)) (.list [])⟩) ?t1 ?_))
      case t1 =>
        refine HT_bool (HAll_and ?_)
        walk_at "W"
        refine ⟨fun _ => HAll_and ?_, fun hb => absurd hb (by simp; omega)⟩
        walk_at "W"
        refine HO_item_str (fun _ _ => rfl) (by omega) (by omega) (by rw [nat0]; exact hkW) ?_
        walk_at "W"
        refine ⟨fun hb => HAll_and_nil ⟨?_, rfl⟩, fun hb => ⟨?_, rfl⟩⟩
        · have h : kW = 58 := by simpa using hb
          simp [h]
        · have h : ¬ kW = 58 := by simpa using hb
          simp [h]
      rintro b _ ⟨rfl, rfl⟩
      refine ⟨fun hb => ?_, fun hb => ?_⟩
      · have h58 : kW = 58 := of_decide_eq_true hb
        subst h58
        rw [if_neg (by rw [hkW]; simp)] at hname
        obtain ⟨k1, hk1'⟩ := ht.toTxt0.next hkW (by decide)
        have hi1 := (List.getElem?_eq_some_iff.mp hk1').1
        walk_at "S"
        walk_at "W"
        refine HS_cutw (fun σ' => σ' = ⟨[("self", .ref x), ("argstr", .str t), ("i", .int W), ("res", .ref rs), ("c", .str [k]), ("len_argstr", .int t.length), ("ln", .str word), ("pfx", .str word), ("allowedChars", .str (allow word))], H (.inst 135 d (attrsP px words n o)) (.list [])⟩) ?_ ?_
        · refine HS1_if ?_
          walk_at "W"
          refine ⟨fun hb => ?_, fun hb => ?_⟩
          · have hw : word = [95] := of_decide_eq_true hb
            have ha : allow word = marksC := if_pos hw
            walk_at "S"
            refine E_nn F' hS (by rfl) ?_
            walk_at "W"
            repeat refine HS_nil ?_
            rw [ha]
            exact ⟨_, by walk_at "weak", rfl⟩
          · have hw : ¬ word = [95] := of_decide_eq_false hb
            have ha : allow word = marks := if_neg hw
            walk_at "S"
            refine E_nq F' hS (by rfl) ?_
            walk_at "W"
            repeat refine HS_nil ?_
            rw [ha]
            exact ⟨_, by walk_at "weak", rfl⟩
        · rintro _ rfl
          walk_at "S"
          walk_at "W"
          walk_at "ex"
          walk_at "S"
          walk_at "W"
          walk_at "S"
          walk_at "W"
          walk_at "S"
          walk_at "W"
          generalize hRES : nlG t word (W + 1) [] = RES at hname
          refine HS_cutw (fun σ' => ∃ (p st : Nat) (ln : List Nat) (ch : Nat), p < t.length ∧ st ≤ p ∧ 1 ≤ p ∧ (st = p → t[p - 1]? = some 58) ∧ (ln ++ cut t st p).length ≤ p ∧ RES = some (ln ++ cut t st p, p) ∧ σ' = ⟨locQ x rs t word ln st p false ch, H (.inst 135 d (attrsP px words n o)) (.list [])⟩) ?_ ?_
          · refine HS1_while ok' (fun m σ' => ∃ (p st : Nat) (ln : List Nat) (ls : Bool) (ch : Nat), m = t.length - p ∧ p < t.length ∧ st ≤ p ∧ 1 ≤ p ∧ (ln ++ cut t st p).length ≤ p ∧
                (ls = false → nlG t word p (ln ++ cut t st p) = RES ∧ (st = p → t[p - 1]? = some 58)) ∧ (ls = true → st = p ∧ (if t[p]?.getD 0 ∉ freed then none else nlG t word (p + 1) (ln ++ [t[p]?.getD 0])) = RES) ∧
                σ' = ⟨locQ x rs t word ln st p ls ch, H (.inst 135 d (attrsP px words n o)) (.list [])⟩) _ ?_ (by unfold locQ; walk_at "weak") ⟨W + 1, W + 1, [], false, k, rfl, hi1, Nat.le_refl _, by omega, by rw [cut_none]; simp, fun _ => ⟨by rw [cut_none]; exact hRES, fun _ => hkW⟩, fun h => (nomatch h), rfl⟩
            rintro m _ ⟨p, st, ln, ls, ch, rfl, hp1, hp2, hp3, hp4, hN, hSl, rfl⟩
            obtain ⟨kp, hkp⟩ := get_of_lt hp1
            have hcl : (cut t st p).length ≤ p - st := by unfold cut; simp; omega
            have hll : ln.length ≤ p := by simp at hp4; omega
            have hsn : cut t st (p + 1) = cut t st p ++ [kp] := cut_snoc hp2 hkp
            unfold locQ
            walk_at "W"
            refine ⟨fun _ => ?_, fun hb => absurd hb (by simp; omega)⟩
            walk_at "S"
            walk_at "W"
            refine HO_item_str (fun _ _ => rfl) (by omega) (by omega) (by rw [nat0]; exact hkp) ?_
            walk_at "W"
            refine HS_cutw (fun σ' => ∃ (st2 : Nat) (ln2 : List Nat) (ls2 : Bool), p + 1 < t.length ∧ st2 ≤ p + 1 ∧ (ln2 ++ cut t st2 (p + 1)).length ≤ p + 1 ∧
                (ls2 = false → nlG t word (p + 1) (ln2 ++ cut t st2 (p + 1)) = RES ∧ (st2 = p + 1 → t[p]? = some 58)) ∧ (ls2 = true → st2 = p + 1 ∧ (if t[p + 1]?.getD 0 ∉ freed then none else nlG t word (p + 1 + 1) (ln2 ++ [t[p + 1]?.getD 0])) = RES) ∧
                σ' = ⟨locQ x rs t word ln2 st2 p ls2 kp, H (.inst 135 d (attrsP px words n o)) (.list [])⟩) ?_ ?_
            · refine HS1_if (HT.mono (Q := fun b σ' => b = (decide (kp = 92) && !ls) ∧ σ' = ⟨locQ x rs t word ln st p ls kp, H (.inst 135 d (attrsP px words n o)) (.list [])⟩) ?t2 ?_)
              case t2 =>
                refine HT_bool (HAll_and ?_)
                walk_at "W"
                refine ⟨fun hb => HAll_and (HT_not (HT_val ?_ (fun _ => rfl))), fun hb => ⟨?_, rfl⟩⟩
                · have h : kp = 92 := by simpa using hb
                  walk_at "W"
                  refine ⟨fun hb => HAll_and_nil ⟨?_, rfl⟩, fun hb => ⟨?_, rfl⟩⟩
                  · revert hb; cases ls <;> simp [h]
                  · revert hb; cases ls <;> simp [h]
                · have h : ¬ kp = 92 := by simpa using hb
                  simp [h]
              rintro b _ ⟨rfl, rfl⟩
              refine ⟨fun hb => ?_, fun hb => ?_⟩
              · obtain ⟨h92, hls⟩ : kp = 92 ∧ ls = false := by simpa using hb
                subst h92 hls
                obtain ⟨hNs, _⟩ := hN rfl
                obtain ⟨e, he⟩ := ht.toTxt0.next hkp (by decide)
                have hel := (List.getElem?_eq_some_iff.mp he).1
                rw [nlG_step hkp] at hNs
                unfold nlStep at hNs
                rw [if_pos (.inr (.inl rfl)), if_pos rfl] at hNs
                unfold locQ
                walk_at "S"
                walk_at "W"
                refine HS_cutw (fun σ' => σ' = ⟨locQ x rs t word (ln ++ cut t st p) st p true 92, H (.inst 135 d (attrsP px words n o)) (.list [])⟩) ?_ ?_
                · refine HS1_if ?_
                  walk_at "W"
                  refine ⟨fun hb => ?_, fun hb => ?_⟩
                  · walk_at "S"
                    walk_at "W"
                    refine ⟨t, st, p, rfl, rfl, rfl, by omega, by omega, by omega, ?_⟩
                    rw [nat0, nat0]
                    refine' HO_iadd_str ?h ?_
                    case h => omega
                    walk_at "ex"
                    repeat refine HS_nil ?_
                    exact ⟨_, by unfold locQ; walk_at "weak", rfl⟩
                  · have hse : st = p := by have := of_decide_eq_false hb; omega
                    have hc0 : cut t st p = [] := by rw [hse]; exact cut_none
                    repeat refine HS_nil ?_
                    rw [hc0, List.append_nil]
                    exact ⟨_, by unfold locQ; walk_at "weak", rfl⟩
                · rintro _ rfl
                  unfold locQ
                  walk_at "S"
                  walk_at "W"
                  repeat refine HS_nil ?_
                  refine ⟨_, ?_, p + 1, ln ++ cut t st p, true, hel, Nat.le_refl _, by rw [cut_none, List.append_nil]; omega, fun h => (nomatch h), fun _ => ⟨rfl, hNs⟩, rfl⟩
                  walk_at "weak"
              · unfold locQ
                refine HS_cons (HS1_if (HT.mono (Q := fun b σ' => b = (decide (kp ∉ allow word) || ls) ∧ σ' = ⟨locQ x rs t word ln st p ls kp, H (.inst 135 d (attrsP px words n o)) (.list [])⟩) ?t3 ?_))
                case t3 =>
                  refine HT_bool (HAll_or ?_)
                  walk_at "W"
                  refine ⟨fun hb => ⟨?_, rfl⟩, fun hb => HAll_or (HT_val ?_ (fun _ => rfl))⟩
                  · rw [hb]; rfl
                  · rw [hb]
                    walk_at "W"
                    refine ⟨fun hb => ⟨?_, rfl⟩, fun hb => HAll_or_nil ⟨?_, rfl⟩⟩
                    · rw [hb]; rfl
                    · rw [hb]; rfl
                rintro b _ ⟨rfl, rfl⟩
                refine ⟨fun hb3 => ?_, fun hb3 => ?_⟩
                · unfold locQ
                  refine HS_cutw (fun σ' => (ls = true → kp ∈ freed) ∧ (ls = false → ¬ (kp = 37 ∧ (t[p + 1]?.getD 0 ∉ figs ∨ t[p + 2]?.getD 0 ∉ figs))) ∧ σ' = ⟨locQ x rs t word ln st p ls kp, H (.inst 135 d (attrsP px words n o)) (.list [])⟩) ?_ ?_
                  · refine HS1_if (HT_val ?_ (fun _ => rfl))
                    walk_at "W"
                    refine ⟨fun hl => ?_, fun hl => ?_⟩
                    · subst hl
                      obtain ⟨hst, hS2⟩ := hSl rfl
                      rw [hkp, Option.getD_some] at hS2
                      walk_at "S"
                      walk_at "W"
                      refine E_esc F' hS (by rfl) ?_
                      walk_at "W"
                      refine ⟨fun hb4 => ?_, fun hb4 => ?_⟩
                      · have hf : kp ∉ freed := of_decide_eq_true hb4
                        rw [if_pos hf] at hS2
                        subst hS2
                        refine HS_cons ?_
                        refine S_bad F' hS (by rfl) (by rfl) ?_
                        refine HX_cons (E_self F' hS (by walk_at "mem") hmem (get_doc _ _ _ _) fi_doc rfl ?_ (by rfl) (by rfl))
                        refine HX_cons (E_self F' hS (by walk_at "mem") hmem (get_lines _ _ _ _) fi_lines rfl ?_ (by rfl) (by rfl))
                        walk_at "W"
                        refine HE_strc csIll ?_
                        walk_at "W"
                        refine ⟨_, _, _, _, _, rfl, ht.fit, ht.pos, hz, by rw [hn']; trivial, qe hname _⟩
                      · have hf : kp ∈ freed := by simpa using hb4
                        repeat refine HS_nil ?_
                        refine ⟨_, ?_, fun _ => hf, fun h => (nomatch h), rfl⟩
                        unfold locQ; walk_at "weak"
                    · subst hl
                      obtain ⟨hNs, _⟩ := hN rfl
                      have h92 : kp ≠ 92 := by
                        intro h
                        rw [h] at hb; simp at hb
                      have hal : kp ∉ allow word := by simpa using hb3
                      rw [nlG_step hkp] at hNs
                      unfold nlStep at hNs
                      rw [if_pos ((allow_iff word kp).mp hal |>.elim .inl fun z => .inr (.inr z)), if_neg h92] at hNs
                      walk_at "S"
                      walk_at "W"
                      refine ⟨fun hb4 => ?_, fun hb4 => ?_⟩
                      · have h37 : kp = 37 := by simpa using hb4
                        subst h37
                        obtain ⟨e1', he1⟩ := ht.toTxt0.next hkp (by decide)
                        rw [he1, Option.getD_some] at hNs ⊢
                        refine HS_cons (HS1_if (HT.mono (Q := fun b σ' => b = decide (e1' ∉ figs ∨ t[p + 2]?.getD 0 ∉ figs) ∧ σ' = ⟨locQ x rs t word ln st p false 37, H (.inst 135 d (attrsP px words n o)) (.list [])⟩) ?t4 ?_))
                        case t4 =>
                          refine HT_bool (HAll_or ?_)
                          walk_at "W"
                          refine HO_item_str (fun _ _ => rfl) (by omega) (by omega) (by rw [nat1]; exact he1) ?_
                          refine E_hex F' hS (by rfl) ?_
                          walk_at "W"
                          refine ⟨fun hb5 => ⟨?_, rfl⟩, fun hb5 => HAll_or ?_⟩
                          · have hf : e1' ∉ figs := fun h => (of_decide_eq_true hb5) ((hex_iff _).mpr h)
                            simp [hf]
                          · have hf : e1' ∈ figs := (hex_iff _).mp (Classical.not_not.mp (of_decide_eq_false hb5))
                            obtain ⟨e2', he2⟩ := ht.toTxt0.next he1 (by rintro rfl; exact absurd hf (by decide))
                            rw [he2, Option.getD_some]
                            walk_at "W"
                            refine HO_item_str (fun _ _ => rfl) (by omega) (by omega) (by rw [nat2]; exact he2) ?_
                            refine E_hex F' hS (by rfl) ?_
                            walk_at "W"
                            refine ⟨fun hb6 => ⟨?_, rfl⟩, fun hb6 => HAll_or_nil ⟨?_, rfl⟩⟩
                            · have hf2 : e2' ∉ figs := fun h => (of_decide_eq_true hb6) ((hex_iff _).mpr h)
                              simp [hf2]
                            · have hf2 : e2' ∈ figs := (hex_iff _).mp (Classical.not_not.mp (of_decide_eq_false hb6))
                              simp [hf, hf2]
                        rintro b _ ⟨rfl, rfl⟩
                        refine ⟨fun hb5 => ?_, fun hb5 => ?_⟩
                        · rw [if_pos ⟨rfl, of_decide_eq_true hb5⟩] at hNs
                          subst hNs
                          unfold locQ
                          refine HS_cons ?_
                          refine S_bad F' hS (by rfl) (by rfl) ?_
                          refine HX_cons (E_self F' hS (by walk_at "mem") hmem (get_doc _ _ _ _) fi_doc rfl ?_ (by rfl) (by rfl))
                          refine HX_cons (E_self F' hS (by walk_at "mem") hmem (get_lines _ _ _ _) fi_lines rfl ?_ (by rfl) (by rfl))
                          walk_at "W"
                          refine HE_strc csIllh ?_
                          walk_at "W"
                          refine ⟨_, _, _, _, _, rfl, ht.fit, ht.pos, hz, by rw [hn']; trivial, qe hname _⟩
                        · repeat refine HS_nil ?_
                          refine ⟨_, ?_, fun h => (nomatch h), fun _ h => (of_decide_eq_false hb5) h.2, rfl⟩
                          unfold locQ; walk_at "weak"
                      · have h37 : ¬ kp = 37 := by simpa using hb4
                        repeat refine HS_nil ?_
                        refine ⟨_, ?_, fun h => (nomatch h), fun _ h => h37 h.1, rfl⟩
                        unfold locQ; walk_at "weak"
                  · rintro _ ⟨p1, p2, rfl⟩
                    unfold locQ
                    walk_at "S"
                    walk_at "W"
                    repeat refine HS_nil ?_
                    have h10 : kp ≠ 10 := by
                      rintro rfl
                      cases ls with
                      | true => exact absurd (p1 rfl) (by decide)
                      | false => exact absurd (allow10 word) (by simpa using hb3)
                    obtain ⟨e, he⟩ := ht.toTxt0.next hkp h10
                    have hel := (List.getElem?_eq_some_iff.mp he).1
                    refine ⟨_, ?_, st, ln, false, hel, by omega, ?_, fun _ => ⟨?_, fun h => by omega⟩, fun h => (nomatch h), rfl⟩
                    · walk_at "weak"
                    · rw [hsn]; simp at hp4 ⊢; omega
                    · rw [hsn, ← List.append_assoc]
                      cases ls with
                      | true =>
                        obtain ⟨hst, hS2⟩ := hSl rfl
                        rw [hkp, Option.getD_some, if_neg (fun h => h (p1 rfl))] at hS2
                        rw [show cut t st p = [] from by rw [hst]; exact cut_none, List.append_nil]
                        exact hS2
                      | false =>
                        obtain ⟨hNs, _⟩ := hN rfl
                        have h92 : kp ≠ 92 := by
                          intro h
                          rw [h] at hb; simp at hb
                        have hal : kp ∉ allow word := by simpa using hb3
                        rw [nlG_step hkp] at hNs
                        unfold nlStep at hNs
                        rw [if_pos ((allow_iff word kp).mp hal |>.elim .inl fun z => .inr (.inr z)), if_neg h92, if_neg (p2 rfl)] at hNs
                        exact hNs
                · unfold locQ
                  obtain ⟨hal, hls⟩ : kp ∈ allow word ∧ ls = false := by simpa using hb3
                  subst hls
                  obtain ⟨hNs, hN2⟩ := hN rfl
                  have h92 : kp ≠ 92 := by
                    intro h
                    rw [h] at hb; simp at hb
                  rw [nlG_step hkp] at hNs
                  unfold nlStep at hNs
                  rw [if_neg (fun z => by
                    rcases z with z | z | z
                    · exact ((allow_iff word kp).mpr (.inl z)) hal
                    · exact h92 z
                    · exact ((allow_iff word kp).mpr (.inr z)) hal)] at hNs
                  walk_at "S"
                  refine ⟨_, ?_, p, st, ln, kp, hp1, hp2, hp3, hN2, hp4, hNs.symm, rfl⟩
                  walk_at "weak"
            · rintro _ ⟨st2, ln2, ls2, g1, g2, g3, g4, g5, rfl⟩
              unfold locQ
              walk_at "S"
              walk_at "W"
              walk_at "ex"
              repeat refine HS_nil ?_
              refine ⟨t.length - (p + 1), _, by omega, ?_, p + 1, st2, ln2, ls2, kp, rfl, g1, g2, by omega, g3, g4, g5, rfl⟩
              walk_at "weak"
          · rintro _ ⟨p, st, ln, ch, hp1, hp2, hp3, hp4, hp5, hRp, rfl⟩
            rw [hRp] at hname
            dsimp only at hname
            have hcl : (cut t st p).length ≤ p - st := by unfold cut; simp; omega
            have hll : ln.length ≤ p := by simp at hp5; omega
            obtain ⟨kl, hkl⟩ := get_of_lt (t := t) (j := p - 1) (by omega)
            rw [hkl] at hname
            unfold locQ
            walk_at "S"
            refine HT_val ?_ (fun _ => rfl)
            walk_at "W"
            refine ⟨fun h => (nomatch h), fun _ => ?_⟩
            refine HS_nil ?_
            refine HS_cutw (fun σ' => ∃ p2 : Nat, st ≤ p2 ∧ p2 ≤ p ∧ nameR t i words = some (some ((word, ln ++ cut t st p2), p2)) ∧ σ' = ⟨locQ x rs t word ln st p2 false ch, H (.inst 135 d (attrsP px words n o)) (.list [])⟩) ?_ ?_
            · refine HS1_if ?_
              walk_at "W"
              refine HO_item_str (fun _ _ => rfl) (by omega) (by omega) (by rw [show ((p : Int) - 1).toNat = p - 1 from by omega]; exact hkl) ?_
              walk_at "W"
              refine ⟨fun hb => ?_, fun hb => ?_⟩
              · have h46 : kl = 46 := by simpa using hb
                subst h46
                rw [if_pos rfl] at hname
                have hlt : st < p := by
                  rcases Nat.lt_or_ge st p with h | h
                  · exact h
                  · have := hp4 (by omega)
                    rw [hkl] at this
                    cases this
                have hsn : cut t st p = cut t st (p - 1) ++ [46] := by
                  have := cut_snoc (t := t) (a := st) (b := p - 1) (k := 46) (by omega) hkl
                  rwa [show p - 1 + 1 = p from by omega] at this
                rw [hsn, ← List.append_assoc, List.dropLast_concat] at hname
                refine HS_cons (HS1_if (HT.mono (Q := fun b σ' => b = false ∧ σ' = ⟨locQ x rs t word ln st p false ch, H (.inst 135 d (attrsP px words n o)) (.list [])⟩) ?t5 ?_))
                case t5 =>
                  refine HT_bool (HAll_and ?_)
                  walk_at "W"
                  walk_at "len"
                  walk_at "W"
                  refine ⟨fun hb => HAll_and ?_, fun hb => ⟨rfl, rfl⟩⟩
                  walk_at "W"
                  refine ⟨fun hb => absurd (of_decide_eq_true hb) (by omega), fun hb => ⟨rfl, rfl⟩⟩
                rintro b _ ⟨rfl, rfl⟩
                refine ⟨fun h => (nomatch h), fun _ => ?_⟩
                unfold locQ
                refine HS_nil ?_
                walk_at "S"
                walk_at "W"
                refine HO_isub_int ?_
                walk_at "ex"
                repeat refine HS_nil ?_
                rw [show ((p : Int) - 1) = ((p - 1 : Nat) : Int) from by omega]
                refine ⟨_, ?_, p - 1, by omega, by omega, hname, rfl⟩
                walk_at "weak"
              · have h46 : ¬ kl = 46 := by simpa using hb
                rw [if_neg (by simpa using h46)] at hname
                repeat refine HS_nil ?_
                refine ⟨_, ?_, p, hp2, Nat.le_refl _, hname, rfl⟩
                unfold locQ; walk_at "weak"
            · rintro _ ⟨p2, hs2, hs3, hname, rfl⟩
              unfold locQ
              have hcl2 : (cut t st p2).length ≤ p2 - st := by unfold cut; simp; omega
              refine HS_cutw (fun σ' => σ' = ⟨locQ x rs t word (ln ++ cut t st p2) st p2 false ch, H (.inst 135 d (attrsP px words n o)) (.list [])⟩) ?_ ?_
              · refine HS1_if ?_
                walk_at "W"
                refine ⟨fun hb => ?_, fun hb => ?_⟩
                · walk_at "S"
                  walk_at "W"
                  refine ⟨t, st, p2, rfl, rfl, rfl, by omega, by omega, by omega, ?_⟩
                  rw [nat0, nat0]
                  refine' HO_iadd_str ?h ?_
                  case h => omega
                  walk_at "ex"
                  repeat refine HS_nil ?_
                  exact ⟨_, by unfold locQ; walk_at "weak", rfl⟩
                · have hse : st = p2 := by have := of_decide_eq_false hb; omega
                  have hc0 : cut t st p2 = [] := by rw [hse]; exact cut_none
                  repeat refine HS_nil ?_
                  rw [hc0, List.append_nil]
                  exact ⟨_, by unfold locQ; walk_at "weak", rfl⟩
              · rintro _ rfl
                unfold locQ
                walk_at "S"
                refine HE_methB ok' PySem.F.plainAttrs_list PySem.F.slot_list_append PySem.F.type_list_append (by rfl) (by rfl) (by decide) (by decide) ?_
                walk_at "W"
                refine ⟨hasT_lst ok' (.inr ⟨rs, rfl, hgmem⟩), ?_⟩
                refine HX_cons (HE_tup (by rfl) ?_)
                walk_at "W"
                refine ⟨by simp, ?_⟩
                walk_at "W"
                refine HO_append (hG _ _ _) (by simp) ?_
                refine ⟨rfl, ?_⟩
                walk_at "S"
                walk_at "W"
                exact q2 _ _ _ hname
      · have h58 : ¬ kW = 58 := of_decide_eq_false hb
        rw [if_pos (by rw [hkW]; simpa using h58)] at hname
        refine HS_cons (HS1_if (HT.mono (Q := fun b σ' => b = decide (words = 1 ∧ word ≠ [] ∧ word ∉ kwds) ∧ σ' = ⟨[("self", .ref x), ("argstr", .str t), ("i", .int W), ("res", .ref rs), ("c", .str [k]), ("len_argstr", .int t.length), ("ln", .str word)], H (.inst 135 d (attrsP px words n o)) (.list [])⟩) ?t6 ?_))
        case t6 =>
          refine HT_bool (HAll_and (HT_val ?_ (fun _ => rfl)))
          walk_at "W"
          refine HB_str (by omega) ?_
          refine ⟨fun hb1 => HAll_and (HT_val ?_ (fun _ => rfl)), fun hb1 => ⟨?_, rfl⟩⟩
          · have h1 : word ≠ [] := of_decide_eq_true hb1
            refine E_self F' hS (by walk_at "mem") hmem (get_ks _ _ _ _) fi_ks rfl ?_ (by rfl) (by rfl)
            refine HB_int ?_
            refine ⟨fun hb2 => HAll_and ?_, fun hb2 => ⟨?_, rfl⟩⟩
            · have h2 : words = 1 := by have := of_decide_eq_true hb2; omega
              walk_at "W"
              refine E_self F' hS (by walk_at "mem") hmem (get_kw _ _ _ _) fi_kw rfl ?_ (by rfl) (by rfl)
              refine HO_notin_lst ok' (.inl rfl) ?_
              walk_at "W"
              refine ⟨fun hb3 => HAll_and_nil ⟨?_, rfl⟩, fun hb3 => ⟨?_, rfl⟩⟩
              · have h3 : word ∉ kwds := of_decide_eq_true hb3
                rw [decide_eq_true (show words = 1 ∧ word ≠ [] ∧ word ∉ kwds from ⟨h2, h1, h3⟩)]
              · have h3 : ¬ word ∉ kwds := of_decide_eq_false hb3
                rw [decide_eq_false (fun h : words = 1 ∧ word ≠ [] ∧ word ∉ kwds => h3 h.2.2)]
            · have h2 : ¬ words = 1 := by have := of_decide_eq_false hb2; omega
              rw [decide_eq_false (fun h : words = 1 ∧ word ≠ [] ∧ word ∉ kwds => h2 h.1)]
          · have h1 : ¬ word ≠ [] := of_decide_eq_false hb1
            rw [decide_eq_false (fun h : words = 1 ∧ word ≠ [] ∧ word ∉ kwds => h1 h.2.1)]
        rintro b _ ⟨rfl, rfl⟩
        refine ⟨fun hb => ?_, fun hb => ?_⟩
        · rw [if_pos (of_decide_eq_true hb)] at hname
          walk_at "S"
          refine HE_methB ok' PySem.F.plainAttrs_list PySem.F.slot_list_append PySem.F.type_list_append (by rfl) (by rfl) (by decide) (by decide) ?_
          walk_at "W"
          refine ⟨hasT_lst ok' (.inr ⟨rs, rfl, hgmem⟩), ?_⟩
          refine HX_cons (HE_tup (by rfl) ?_)
          walk_at "W"
          refine ⟨by simp, ?_⟩
          walk_at "W"
          refine HO_append (hG _ _ _) (by simp) ?_
          refine ⟨rfl, ?_⟩
          walk_at "S"
          walk_at "W"
          exact q2 _ _ _ hname
        · rw [if_neg (of_decide_eq_false hb)] at hname
          refine HS_nil ?_
          walk_at "S"
          walk_at "W"
          exact ⟨1, rfl, q1 hname⟩
theorem mk135 {P : Params} : makesIn (hd.heap_39 P) 135 = true := by kernel_rfl
theorem in135 {P : Params} : findIn (hd.heap_39 P) (.ref 135) "__init__" = some (some (.ref 83)) := by kernel_rfl
theorem ty83 {P : Params} : typeIn (hd.heap_39 P) (.ref 83) = some (.type "function") := by kernel_rfl
theorem ck135 {P : Params} : specialIn (hd.heap_39 P) (.ref 135) "__call__" = some (some (.builtin "type.__call__")) := by kernel_rfl
theorem keeps135 {c : Cx} {k : Nat} (F : Fx c k) : Keeps c (.ref 135) := by
  intro M h st
  refine ⟨.machine, .inr (.inl rfl), (Looks.ld (part := none) (st _ _ (F.K _ _ rfl))).andThen ?_⟩
  dsimp only
  refine (looks_specialIn (fun _ _ e => st _ _ (F.K _ _ e)) ck135).andThen ?_
  rw [if_pos (by decide)]
  exact .now
theorem tA1 {P : Params} : takerIn (hd.heap_39 P) 135 (Str.ofString "_bindings") = some none := by kernel_rfl
theorem tA2 {P : Params} : takerIn (hd.heap_39 P) 135 (Str.ofString "_store") = some none := by kernel_rfl
theorem tA3 {P : Params} : takerIn (hd.heap_39 P) 135 (Str.ofString "_thisDoc") = some none := by kernel_rfl
theorem tA4 {P : Params} : takerIn (hd.heap_39 P) 135 (Str.ofString "_genPrefix") = some none := by kernel_rfl
theorem tA5 {P : Params} : takerIn (hd.heap_39 P) 135 (Str.ofString "keywords") = some none := by kernel_rfl
theorem tA6 {P : Params} : takerIn (hd.heap_39 P) 135 (Str.ofString "keywordsSet") = some none := by kernel_rfl
theorem tA7 {P : Params} : takerIn (hd.heap_39 P) 135 (Str.ofString "_anonymousNodes") = some none := by kernel_rfl
theorem tA8 {P : Params} : takerIn (hd.heap_39 P) 135 (Str.ofString "_variables") = some none := by kernel_rfl
theorem tA9 {P : Params} : takerIn (hd.heap_39 P) 135 (Str.ofString "_parentVariables") = some none := by kernel_rfl
theorem tA10 {P : Params} : takerIn (hd.heap_39 P) 135 (Str.ofString "_reason") = some none := by kernel_rfl
theorem tA11 {P : Params} : takerIn (hd.heap_39 P) 135 (Str.ofString "turtle") = some none := by kernel_rfl
theorem tA12 {P : Params} : takerIn (hd.heap_39 P) 135 (Str.ofString "string_delimiters") = some none := by kernel_rfl
theorem tA13 {P : Params} : takerIn (hd.heap_39 P) 135 (Str.ofString "_baseURI") = some none := by kernel_rfl
theorem fi_base {P : Params} : findIn (hd.heap_39 P) (.ref 135) (Str.ofString "_baseURI") = some none := by kernel_rfl
theorem putA_lt {n : String} {y : V} {l : Loc} {m : Nat} (h : l.length < m) : (putA n y l).length < m + 1 := Nat.lt_of_le_of_lt (putA_len n y l) (by omega)
theorem getA_self (n : String) (y : V) : ∀ l : Loc, getA n (putA n y l) = some y
  | [] => by simp [putA, getA]
  | p :: l => by
    unfold putA
    split
    · simp [getA]
    · rename_i h
      unfold getA
      rw [if_neg h]
      exact getA_self n y l
theorem HO_parser {c : Cx} (F : Fx c 2) {σ : St} {Q : Post} {R : RPost} {tb : Bool}
    (q : ∀ x d b1 b2 b3 b4, Q (.ref x) ⟨σ.loc, (x, .inst 135 d (attrsP ⟨b1, b2, b3, b4, tb⟩ 0 0 0)) :: σ.hp⟩) :
    HOK c σ (fun us u => call (.ref 135) us [(Str.ofString "turtle", u)]) [.none] (.bool tb) Q R := by
  intro us u tm s r hlen
  obtain ⟨u1, rfl⟩ : ∃ u1, us = [u1] := by
    match us, hlen with
    | [a], _ => exact ⟨a, rfl⟩
  refine make_X F.ok F.K mk135 in135 ty83 r fun x d s1 r1 => ?_
  have hroom := F.room
  obtain ⟨m, mu, fz, fr, w⟩ := r1
  have w1 := w.push (v := .bool false) (x := .bool false) (.bool _)
  have w2 : RelW c ⟨σ.loc, (x, .inst 135 d []) :: σ.hp⟩ ([Value.ref x, u1, .none, .str (Str.ofString "") 552, .none, .str (Str.ofString "") 553, .none, u].zip [V.ref x, .none, .none, .str [], .none, .str [], .none, .bool tb] ++ tm) s1 m mu fz fr := by
    have h1 : Is (rdOf c.h0 fz) u (.bool tb) := w.tm (u, .bool tb) (.head _)
    have h2 : Is (rdOf c.h0 fz) u1 .none := w.tm (u1, .none) (.tail _ (.head _))
    have w0 := w.pop (tm' := tm) fun p hp => .tail _ (.tail _ hp)
    have k := (((((((w0.push h1).push (v := .none) .none).push (v := .str (Str.ofString "") 553) (x := .str []) (.str _ _)).push (v := .none) .none).push (v := .str (Str.ofString "") 552) (x := .str []) (.str _ _)).push (v := .none) .none).push h2).push (v := .ref x) (.ref x)
    exact k
  refine codeAny_mono (call_XC F.ok (A' := c.A.under (.builtin "type.__call__" ⟨[.ref 135, u1], [(Str.ofString "turtle", u)]⟩)) F.ok.frames (k := 0) ⟨?_, ?_⟩ (xs := ["self", "store", "openFormula", "thisDoc", "baseURI", "genPrefix", "why", "turtle"]) (us := [.ref x, u1, .none, .str (Str.ofString "") 552, .none, .str (Str.ofString "") 553, .none, u]) (Q := fun y σ' => y = .none ∧ ∃ b1 b2 b3 b4, σ' = ⟨σ.loc, (x, .inst 135 d (attrsP ⟨b1, b2, b3, b4, tb⟩ 0 0 0)) :: σ.hp⟩) (R := R)
    (F.K _ _ rfl) (codeRec_of F.K (by rfl)) F.lim ?_ (by decide) ?_ w2.rel rfl ?_ (by rfl) (by rfl) (by rfl) (by decide)) fun r s' z => ?_
  · show c.A.depth + _ + (0 + 1) < 900
    rw [weight_call]; have := hroom.1; omega
  · show c.A.units + _ + 20 * (0 + 1) < 9000
    rw [units_call]; have := hroom.2; omega
  · intro s st
    exact BindsTo.of_defaults rfl (st _ _ (F.K _ _ rfl)) rfl rfl rfl
  · decide
  · intro c' ok' room' e1 e2 e3 hS e5
    have F' := Fx.inner (k := 0) (F.mono (by omega)) ok' room' e2 e3 e5
    simp only [List.zip_cons_cons, List.zip_nil_right]
    walk_at "S"
    refine HE_dict0 fun b1 => ?_
    refine HA_attr ok' F'.K ?_
    walk_at "W"
    refine ⟨x, 135, d, _, _, rfl, .head, kc135, by decide, tA1, ?_⟩
    walk_at "S"
    walk_at "W"
    refine ⟨fun hb => absurd hb (by decide), fun _ => ?_⟩
    refine HS_nil ?_
    walk_at "S"
    walk_at "W"
    refine HA_attr ok' F'.K ?_
    walk_at "W"
    refine ⟨x, 135, d, _, _, rfl, .head, kc135, by repeat (first | decide | apply putA_lt), tA2, ?_⟩
    walk_at "S"
    walk_at "W"
    refine HA_attr ok' F'.K ?_
    walk_at "W"
    refine ⟨x, 135, d, _, _, rfl, .head, kc135, by repeat (first | decide | apply putA_lt), tA3, ?_⟩
    walk_at "S"
    walk_at "W"
    refine HA_attr ok' F'.K ?_
    walk_at "W"
    refine ⟨x, 135, d, _, _, rfl, .head, kc135, by repeat (first | decide | apply putA_lt), tk_lines, ?_⟩
    walk_at "S"
    walk_at "W"
    refine HA_attr ok' F'.K ?_
    walk_at "W"
    refine ⟨x, 135, d, _, _, rfl, .head, kc135, by repeat (first | decide | apply putA_lt), tk_start, ?_⟩
    walk_at "S"
    walk_at "W"
    refine HA_attr ok' F'.K ?_
    walk_at "W"
    refine ⟨x, 135, d, _, _, rfl, .head, kc135, by repeat (first | decide | apply putA_lt), tA4, ?_⟩
    walk_at "S"
    refine HE_lst rfl ?_
    walk_at "W"
    refine ⟨by simp, ?_⟩
    refine HA_attr ok' F'.K ?_
    walk_at "W"
    refine ⟨x, 135, d, _, _, rfl, .head, kc135, by repeat (first | decide | apply putA_lt), tA5, ?_⟩
    walk_at "S"
    walk_at "W"
    refine HA_attr ok' F'.K ?_
    walk_at "W"
    refine ⟨x, 135, d, _, _, rfl, .head, kc135, by repeat (first | decide | apply putA_lt), tA6, ?_⟩
    walk_at "S"
    refine HE_dict0 fun b2 => ?_
    refine HA_attr ok' F'.K ?_
    walk_at "W"
    refine ⟨x, 135, d, _, _, rfl, .head, kc135, by repeat (first | decide | apply putA_lt), tA7, ?_⟩
    walk_at "S"
    refine HE_dict0 fun b3 => ?_
    refine HA_attr ok' F'.K ?_
    walk_at "W"
    refine ⟨x, 135, d, _, _, rfl, .head, kc135, by repeat (first | decide | apply putA_lt), tA8, ?_⟩
    walk_at "S"
    refine HE_dict0 fun b4 => ?_
    refine HA_attr ok' F'.K ?_
    walk_at "W"
    refine ⟨x, 135, d, _, _, rfl, .head, kc135, by repeat (first | decide | apply putA_lt), tA9, ?_⟩
    walk_at "S"
    walk_at "W"
    refine HA_attr ok' F'.K ?_
    walk_at "W"
    refine ⟨x, 135, d, _, _, rfl, .head, kc135, by repeat (first | decide | apply putA_lt), tA10, ?_⟩
    walk_at "S"
    walk_at "W"
    refine HA_attr ok' F'.K ?_
    walk_at "W"
    refine ⟨x, 135, d, _, _, rfl, .head, kc135, by repeat (first | decide | apply putA_lt), tA11, ?_⟩
    generalize hl11 : putA "turtle" _ _ = l11
    have hz11 : l11.length < 800 := by
      rw [← hl11]; repeat (first | decide | apply putA_lt)
    walk_at "S"
    refine HE.mono (Q := fun y σ' => y = .tup (if tb = true then [.str [34], .str [39]] else [.str [34]]) ∧ σ' = ⟨[("self", .ref x), ("store", .none), ("openFormula", .none), ("thisDoc", .str []), ("baseURI", .none), ("genPrefix", .str []), ("why", .none), ("turtle", .bool tb)], (x, .inst 135 d l11) :: σ.hp⟩) ?_ ?_ (fun _ _ q => q)
    · refine HE_ifexp (HT_val ?_ (fun _ => rfl))
      walk_at "W"
      refine ⟨fun h => ?_, fun h => ?_⟩
      · refine HE_tup rfl ?_
        walk_at "W"
        exact ⟨by simp, by rw [h]; rfl, rfl⟩
      · refine HE_tup rfl ?_
        walk_at "W"
        exact ⟨by simp, by rw [h]; rfl, rfl⟩
    rintro _ _ ⟨rfl, rfl⟩
    refine HA_attr ok' F'.K ?_
    walk_at "W"
    refine ⟨x, 135, d, _, _, rfl, .head, kc135, by omega, tA12, ?_⟩
    refine HS_cutw (fun σ' => σ' = ⟨[("self", .ref x), ("store", .none), ("openFormula", .none), ("thisDoc", .str []), ("baseURI", .none), ("genPrefix", .str []), ("why", .none), ("turtle", .bool tb)], (x, .inst 135 d (putA "_baseURI" .none (putA "string_delimiters" (.tup (if tb = true then [.str [34], .str [39]] else [.str [34]])) l11))) :: σ.hp⟩) ?_ ?_
    · refine HS1_if (HT_val ?_ (fun _ => rfl))
      walk_at "W"
      refine HB_none ⟨fun h => (nomatch h), fun _ => ?_⟩
      walk_at "S"
      refine HT_val ?_ (fun _ => rfl)
      walk_at "W"
      refine HB_str (by simp) ⟨fun h => absurd h (by decide), fun _ => ?_⟩
      walk_at "S"
      walk_at "W"
      refine HA_attr ok' F'.K ?_
      walk_at "W"
      refine ⟨x, 135, d, _, _, rfl, .head, kc135, Nat.lt_of_lt_of_le (putA_lt hz11) (by decide), tA13, ?_⟩
      repeat refine HS_nil ?_
      exact ⟨_, by walk_at "weak", rfl⟩
    · rintro _ rfl
      refine HS_cons (HS1_assert (HT_bool (HAll_or (HT_not (HT_val ?_ (fun _ => rfl))))))
      refine HE_attr ok' F'.K ?_ (by rfl)
      walk_at "W"
      refine ⟨x, 135, d, _, .none, none, rfl, .head _, kc135, getA_self _ _ _, fi_base, rfl, rfl, ?_⟩
      refine HB_none ⟨fun _ => ⟨rfl, ?_⟩, fun h => (nomatch h)⟩
      refine HS_nil ?_
      refine ⟨by trivial, b1, b2, b3, b4, ?_⟩
      rw [← hl11]
      have e : putA "_baseURI" V.none (putA "string_delimiters" (.tup (if tb = true then [.str [34], .str [39]] else [.str [34]])) (putA "turtle" (.bool tb) (putA "_reason" .none (putA "_parentVariables" (.ref b4) (putA "_variables" (.ref b3) (putA "_anonymousNodes" (.ref b2) (putA "keywordsSet" (.int 0) (putA "keywords" (.lst (strsV kwds)) (putA "_genPrefix" (.str []) (putA "startOfLine" (.int 0) (putA "lines" (.int 0) (putA "_thisDoc" (.str []) (putA "_store" .none (putA "_bindings" (.ref b1) [])))))))))))))) = attrsP ⟨b1, b2, b3, b4, tb⟩ 0 0 0 := by
        simp [putA, attrsP, PX.delims]
      rw [← e]
      rfl
  · rcases r with e | (v | _ | _ | _) <;> first | exact z.elim | exact z | skip
    obtain ⟨y, σ', r', rfl, b1, b2, b3, b4, rfl⟩ := z
    obtain ⟨_, hi⟩ := r'.at0
    cases is_none hi
    obtain ⟨m', mu', fz', fr', w'⟩ := r'.drop1
    exact ⟨rfl, _, _, (w'.push (.ref _)).rel, q _ _ b1 b2 b3 b4⟩
/-- v.name, v a local that is a parser -/
theorem E_par {c : Cx} {k : Nat} {σ : St} {Q : Post} {R : RPost} {S : Scope} {v : String} {x d : Addr} {px : PX} {words n o : Nat} {name : String} {y : V} {p pos : Pos} (F : Fx c k) (hS : c.cs = S) (hl : (v, V.ref x) ∈ σ.loc) (hm : (x, AO.inst 135 d (attrsP px words n o)) ∈ σ.hp) (hg : getA name (attrsP px words n o) = some y)
    (hfi : findIn (KK c) (.ref 135) (Str.ofString name) = some none) (hv : handV y = true) (q : Q y σ) (hx : S.names.lookup (Str.ofString v) = some .local) (hd : (Str.ofString v == ("__debug__" : Str)) = false)
    (he : eval (.Attribute (.Name (Str.ofString v) p) (Str.ofString name) pos) c.env = (do
      let o ← eval (.Name (Str.ofString v) p) c.env
      standAt pos.atName
      let r ← holding [o] (getAttr o (Str.ofString name) true)
      letTemporaryGo (.Name (Str.ofString v) p) o r
      pure r)) : HE c σ (.Attribute (.Name (Str.ofString v) p) (Str.ofString name) pos) Q R := by
  refine HE_attr F.ok F.K ?_ he
  exact E_loc F hS hl ⟨x, 135, d, _, y, none, rfl, hm, kc135, hg, hfi, rfl, hv, q⟩ hx hd
/-- v.name(..) -/
theorem E_parM {c : Cx} {k : Nat} {σ : St} {Q : Post} {R : RPost} {S : Scope} {v : String} {x d f : Addr} {px : PX} {words n o : Nat} {name : String} {args : List Expr} {p apos pos : Pos} (F : Fx c k) (hS : c.cs = S) (hl : (v, V.ref x) ∈ σ.loc) (hm : (x, AO.inst 135 d (attrsP px words n o)) ∈ σ.hp)
    (hfi : findIn (KK c) (.ref 135) (Str.ofString name) = some (some (.ref f))) (hty : typeIn (KK c) (.ref f) = some (.type "function")) (hg : getA name (attrsP px words n o) = none) (hk : Keeps c (.ref f)) (hx : S.names.lookup (Str.ofString v) = some .local) (hd : (Str.ofString v == ("__debug__" : Str)) = false)
    (hbase : attributeBase (.Name (Str.ofString v) p) (Str.ofString name) c.env (eval (.Name (Str.ofString v) p) c.env) = eval (.Name (Str.ofString v) p) c.env) (hs : starEach args c.env = args.map fun e => (false, eval e c.env)) (hn : args.length < 20) (hline : (apos.endLine == pos.line) = true)
    (h : HX c σ args (fun xs σ₂ => HOs c σ₂ (fun us => call (.ref f) us) (.ref x :: xs) Q R) R) : HE c σ (.Call (.Attribute (.Name (Str.ofString v) p) (Str.ofString name) apos) args [] pos) Q R := by
  refine HE_meth F.ok F.K hbase hs hn hline ?_
  exact E_loc F hS hl ⟨x, 135, d, _, f, rfl, hm, kc135, hfi, hty, hg, hk, h⟩ hx hd
theorem n_par {P : Params} : nsIn (hd.heap_39 P) mainGlobals (Str.ofString "SinkParser") = some (some (.ref 135)) := by kernel_rfl
theorem ex_bad {P : Params} : exmOne (hd.heap_39 P) (.ref 156) (.ref 156) = some true := by kernel_rfl
theorem me_st {P : Params} : findIn (hd.heap_39 P) (.ref 135) (Str.ofString "strconst") = some (some (.ref 104)) := by kernel_rfl
theorem ty_st {P : Params} : typeIn (hd.heap_39 P) (.ref 104) = some (.type "function") := by kernel_rfl
theorem me_qn {P : Params} : findIn (hd.heap_39 P) (.ref 135) (Str.ofString "qname") = some (some (.ref 97)) := by kernel_rfl
theorem ty_qn {P : Params} : typeIn (hd.heap_39 P) (.ref 97) = some (.type "function") := by kernel_rfl
theorem ge_st (p : PX) (words n o : Nat) : getA "strconst" (attrsP p words n o) = none := by simp [getA, attrsP]
theorem ge_qn (p : PX) (words n o : Nat) : getA "qname" (attrsP p words n o) = none := by simp [getA, attrsP]
theorem fi_sd {P : Params} : findIn (hd.heap_39 P) (.ref 135) (Str.ofString "string_delimiters") = some none := by kernel_rfl
theorem get_sd (p : PX) (words n o : Nat) : getA "string_delimiters" (attrsP p words n o) = some (.tup p.delims) := by simp [getA, attrsP]
theorem get_start (p : PX) (words n o : Nat) : getA "startOfLine" (attrsP p words n o) = some (.int o) := by simp [getA, attrsP]
theorem put_ks (p : PX) (words w n o : Nat) : putA "keywordsSet" (.int w) (attrsP p words n o) = attrsP p w n o := by simp [putA, attrsP]
def qsOf (tb : Bool) : List Nat := if tb = true then [34, 39] else [34]
theorem delims_of (p : PX) : p.delims = strsV ((qsOf p.turtle).map fun k => [k]) := by
  unfold PX.delims qsOf
  cases p.turtle <;> rfl
theorem mem_ones (k : Nat) (l : List Nat) : ([k] ∈ l.map fun k => [k]) ↔ k ∈ l := by simp
/-- where the loop stands -/
def locF (t : List Nat) (tb : Bool) (words : Nat) (x f : Addr) (A : Int) : Loc :=
  [("text", .str t), ("turtle", .bool tb), ("words", .int words), ("parser", .ref x), ("found", .ref f), ("at", .int A)]
def RbF (t qs : List Nat) (tb : Bool) (words : Nat) (x f d : Addr) (px : PX) (hp0 : List (Addr × AO)) : RPost := fun kd σ' =>
  ∃ ctx n' o' due, kd = (.ref 156, ctx) ∧ due ++ [refuseV n' o'] = lexR t qs words ∧ (due.length ≤ t.length) ∧ (∀ p ∈ [("text", V.str t), ("turtle", .bool tb), ("words", .int words), ("parser", .ref x), ("found", .ref f)], p ∈ σ'.loc) ∧
    ∃ l, σ'.hp = l ++ (f, AO.list due) :: (x, AO.inst 135 d (attrsP px words n' o')) :: hp0
theorem call_found {c : Cx} (F : Fx c 6) (hnd : c.A.handled = none) {σ : St} {t : List Nat} {Q : Post} {R : RPost} {words : Nat} {tb : Bool} (ht : Txt1 t) (hw : words < 2) (q : Q (.lst (lexR t (qsOf tb) words)) σ) : HOs c σ (fun us => call (.ref 210) us) [.str t, .bool tb, .int words] Q R := by
  refine HOs_sub ?_
  intro us tm s r hlen
  refine call_X F.ok (k := 5) F.room (xs := ["text", "turtle", "words"]) (F.K _ _ rfl) (codeRec_of F.K (by rfl)) F.lim ?_ (by decide) ?_ r hlen ?_ (by rfl) (by rfl) (by rfl) (by decide)
  · intro s _
    obtain ⟨u1, u2, u3, rfl⟩ : ∃ u1 u2 u3, us = [u1, u2, u3] := by
      match us, hlen with
      | [a, b, d], _ => exact ⟨a, b, d, rfl⟩
    exact BindsTo.of_eq rfl
  · decide
  · intro c' ok' room' e1 e2 e3 hS e5
    have F' := F.inner ok' room' e2 e3 e5
    have hn' := e5.trans hnd
    simp only [List.zip_cons_cons, List.zip_nil_right]
    have hz := ht.small
    have hpos := ht.pos
    have hq10 : 10 ∉ qsOf tb := by unfold qsOf; split <;> decide
    generalize hqs : qsOf tb = qs at q hq10
    walk_at "S"
    refine HE_callK ok' (by rfl) (by rfl) ?_
    refine E_glob F' hS n_par (.ref _) ⟨.ref 135, rfl, keeps135 F', ?_⟩ (by rfl) (by decide)
    walk_at "W"
    refine HO_parser (F'.mono (by omega)) fun x d b1 b2 b3 b4 => ?_
    generalize hpx : (⟨b1, b2, b3, b4, tb⟩ : PX) = px
    have hpt : px.turtle = tb := by rw [← hpx]
    walk_at "W"
    walk_at "S"
    walk_at "W"
    refine HA_attr ok' F'.K ?_
    walk_at "W"
    refine ⟨x, 135, d, _, _, rfl, .head, kc135, by simp [attrsP], tA6, ?_⟩
    rw [put_ks]
    walk_at "S"
    refine HE_list rfl ?_
    walk_at "W"
    refine ⟨by decide, fun f => ?_⟩
    walk_at "W"
    have hstart : ∀ (i n o f : Nat), t.length < f + i → 1 ≤ f → ((skipR t i n o).1 < 0 → 1 ≤ f) ∧ (∀ j : Nat, (skipR t i n o).1 = j → j < t.length ∧ t[j]? ≠ some 32 ∧ t[j]? ≠ some 9 ∧ t[eolAt t j]? ≠ some 10 ∧ t.length < f + j) := fun i n o f h1 h2 => ⟨fun _ => h2, fun j hj => by
      obtain ⟨j', e1, e2, e3, e4, e5, e6⟩ := skipR_at ht.toTxt0 (i := i) (n := n) (o := o) (by omega)
      have : j' = j := by omega
      subst this
      exact ⟨e3, e4, e5, e6, by omega⟩⟩
    refine HS_cutw (fun σ' => ∃ (n' o' : Nat) (due : List V), due ++ [endV n' o'] = lexR t qs words ∧ due.length ≤ t.length + 1 ∧ σ' = ⟨[("text", .str t), ("turtle", .bool tb), ("words", .int words), ("parser", .ref x), ("found", .ref f)], (f, .list due) :: (x, .inst 135 d (attrsP px words n' o')) :: σ.hp⟩) ?_ ?_
    · refine HS1_try (Rb := RbF t qs tb words x f d px σ.hp) ok' F'.K (.inl (F'.glob n_bad)) (by show c'.cs.names.lookup _ = _; rw [hS]; rfl) (by decide) ?_ ?_
      · walk_at "S"
        refine E_parM F' hS (by walk_at "mem") (.tail _ (.head _)) me_sk ty_sk (ge_sk _ _ _ _) (keeps_fn (F'.K _ _ rfl) rfl) (by rfl) (by decide) (by rfl) (by rfl) (by decide) (by decide) ?_
        walk_at "W"
        refine call_skipSpace (i := 0) (n := 0) (o := 0) (F'.mono (by omega)) ht hpos (fun y => (f, .list []) :: (x, y) :: σ.hp) (fun y z => .tail .head) rfl ?_
        walk_at "W"
        refine HS_cutw (fun σ' => ∃ (n' o' : Nat) (due : List V), due ++ [endV n' o'] = lexR t qs words ∧ due.length ≤ t.length + 1 ∧ σ' = ⟨[("text", .str t), ("turtle", .bool tb), ("words", .int words), ("parser", .ref x), ("found", .ref f)], (f, .list due) :: (x, .inst 135 d (attrsP px words n' o')) :: σ.hp⟩) ?_ ?_
        · refine HS1_while ok' (fun fu σ' => ∃ (A : Int) (n o : Nat) (due : List V), (A < 0 → 1 ≤ fu) ∧ (∀ j : Nat, A = j → j < t.length ∧ t[j]? ≠ some 32 ∧ t[j]? ≠ some 9 ∧ t[eolAt t j]? ≠ some 10 ∧ t.length < fu + j) ∧ due ++ lexT t qs words fu A n o = lexR t qs words ∧ due.length + fu ≤ t.length + 2 ∧
            σ' = ⟨locF t tb words x f A, (f, .list due) :: (x, .inst 135 d (attrsP px words n o)) :: σ.hp⟩) _ ?_
            (σ₀ := ⟨locF t tb words x f (skipR t 0 0 0).1, (f, .list []) :: (x, .inst 135 d (attrsP px words (skipR t 0 0 0).2.1 (skipR t 0 0 0).2.2)) :: σ.hp⟩) (by first | (unfold locF; walk_at "weak") | walk_at "weak")
            ⟨_, _, _, [], (hstart 0 0 0 (t.length + 2) (by omega) (by omega)).1, (hstart 0 0 0 (t.length + 2) (by omega) (by omega)).2, rfl, by simp, rfl⟩
          rintro fu _ ⟨A, n, o, due, hA1, hA2, hR, hlen, rfl⟩
          unfold locF
          refine HT.mono (Q := fun b σ' => b = decide (0 ≤ A) ∧ σ' = ⟨locF t tb words x f A, (f, .list due) :: (x, .inst 135 d (attrsP px words n o)) :: σ.hp⟩) ?t1 ?_
          case t1 =>
            refine HT_bool (HAll_and ?_)
            walk_at "W"
            refine ⟨fun hb => HAll_and ?_, fun hb => ⟨by simpa using hb, rfl⟩⟩
            have hA : 0 ≤ A := of_decide_eq_true hb
            obtain ⟨i, rfl⟩ := Int.eq_ofNat_of_zero_le hA
            obtain ⟨hi, _, _, _, hfi⟩ := hA2 i rfl
            walk_at "W"
            walk_at "len"
            walk_at "W"
            refine HO_len_lst ok' (.inr ⟨f, rfl, .head _⟩) (by omega) ?_
            walk_at "len"
            walk_at "W"
            refine ⟨fun _ => HAll_and_nil ⟨by simp, rfl⟩, fun hb => absurd (of_decide_eq_false hb) (by omega)⟩
          rintro b _ ⟨rfl, rfl⟩
          refine ⟨fun hb => ?_, fun hb => ?_⟩
          · have hA : 0 ≤ A := of_decide_eq_true hb
            obtain ⟨i, rfl⟩ := Int.eq_ofNat_of_zero_le hA
            obtain ⟨hi, h32, h9, he10, hfi⟩ := hA2 i rfl
            have h10 := eolAt_ne he10
            obtain ⟨k, hk⟩ := get_of_lt hi
            rw [hk] at h32 h9
            obtain ⟨f', rfl⟩ : ∃ f', fu = f' + 1 := ⟨fu - 1, by omega⟩
            have hstep : lexT t qs words (f' + 1) i n o = match tokR t qs words i n o with
                | (none, n', o') => [refuseV n' o']
                | (some (xs, e), n', o') => .lst (xs ++ [.int e, .int n', .int o']) :: lexT t qs words f' (skipR t e n' o').1 (skipR t e n' o').2.1 (skipR t e n' o').2.2 := by
              conv => lhs; unfold lexT
              rw [if_neg (by omega), Int.toNat_natCast]
              all_goals rfl
            rw [hstep] at hR
            unfold locF
            walk_at "S"
            walk_at "W"
            refine HO_item_str (fun _ _ => rfl) (by omega) (by omega) (by rw [nat0]; exact hk) ?_
            walk_at "W"
            refine HS_cutw (fun σ' => ∃ (xs : List V) (en n' o' : Nat), tokR t qs words i n o = (some (xs, en), n', o') ∧
              σ' = ⟨("token", .lst xs) :: locF t tb words x f en, (f, .list due) :: (x, .inst 135 d (attrsP px words n' o')) :: σ.hp⟩) ?_ ?_
            · have htok : tokR t qs words i n o = tokR t qs words i n o := rfl
              conv at htok => rhs; unfold tokR
              rw [hk] at htok
              simp only [Option.getD_some] at htok
              refine HS1_if ?_
              walk_at "W"
              refine E_par F' hS (by walk_at "mem") (.tail _ (.head _)) (get_sd _ _ _ _) fi_sd rfl ?_ (by rfl) (by decide) (by rfl)
              rw [delims_of, hpt, hqs]
              refine HO_in_tup ok' ?_
              walk_at "W"
              refine ⟨fun hb => ?_, fun hb => ?_⟩
              · have hkq : k ∈ qs := (mem_ones k qs).mp (of_decide_eq_true hb)
                have hk34 : k = 34 ∨ k = 39 := by
                  rw [← hqs] at hkq
                  unfold qsOf at hkq
                  split at hkq <;> simp at hkq <;> omega
                rw [if_pos hkq] at htok
                refine HS_cutw (fun σ' => σ' = ⟨("sign", .str [k]) :: ("mark", .str (if cut t i (i + 3) = List.replicate 3 k then List.replicate 3 k else [k])) :: locF t tb words x f i, (f, .list due) :: (x, .inst 135 d (attrsP px words n o)) :: σ.hp⟩) ?_ ?_
                · refine HS1_assign1 ?_ rfl rfl rfl
                  walk_at "W"
                  refine ⟨_, _, _, rfl, rfl, rfl, by omega, by omega, by walk_at "sz", ?_⟩
                  rw [nat0, show ((i : Int) + 3).toNat = i + 3 by omega]
                  walk_at "W"
                  refine HO_mul_str (n := 3) (by omega) ?_
                  walk_at "W"
                  refine ⟨fun hb => ?_, fun hb => ?_⟩
                  · have h3 : cut t i (i + 3) = List.replicate 3 k := of_decide_eq_true hb
                    rw [if_pos h3]
                    walk_at "W"
                    refine HO_mul_str (n := 3) (by omega) ?_
                    walk_at "W"
                    exact ⟨_, by first | (unfold locF; walk_at "weak") | walk_at "weak", rfl⟩
                  · have h3 : ¬ cut t i (i + 3) = List.replicate 3 k := of_decide_eq_false hb
                    rw [if_neg h3]
                    walk_at "W"
                    exact ⟨_, by first | (unfold locF; walk_at "weak") | walk_at "weak", rfl⟩
                · rintro _ rfl
                  have hsz : i + (if cut t i (i + 3) = List.replicate 3 k then 3 else 1) ≤ t.length := by
                    split
                    · rename_i h3
                      have := congrArg List.length h3
                      unfold cut at this
                      simp at this
                      omega
                    · omega
                  have hml : (if cut t i (i + 3) = List.replicate 3 k then List.replicate 3 k else [k]).length = if cut t i (i + 3) = List.replicate 3 k then 3 else 1 := by
                    split <;> simp
                  have hmd : (if cut t i (i + 3) = List.replicate 3 k then List.replicate 3 k else [k]) = if decide (cut t i (i + 3) = List.replicate 3 k) = true then [k, k, k] else [k] := by
                    by_cases h : cut t i (i + 3) = List.replicate 3 k
                    · rw [if_pos h, if_pos (decide_eq_true h)]; rfl
                    · rw [if_neg h, if_neg (by rw [decide_eq_false h]; decide)]
                  generalize hmk : (if cut t i (i + 3) = List.replicate 3 k then List.replicate 3 k else [k]) = mk at *
                  generalize hS1 : (if cut t i (i + 3) = List.replicate 3 k then 3 else 1 : Nat) = sz at *
                  unfold locF
                  refine HS_cons (HS1_assign1 ?_ rfl rfl rfl)
                  refine E_parM F' hS (by walk_at "mem") (.tail _ (.head _)) me_st ty_st (ge_st _ _ _ _) (keeps_fn (F'.K _ _ rfl) rfl) (by rfl) (by decide) (by rfl) (by rfl) (by decide) (by decide) ?_
                  walk_at "W"
                  walk_at "len"
                  walk_at "W"
                  rw [hml, show (i : Int) + (sz : Int) = ((i + sz : Nat) : Int) by omega]
                  refine call_strconst (n := n) (o := o) F' hn' ht hsz hk34 hmd (fun y => (f, .list due) :: (x, y) :: σ.hp) (fun y z => .tail .head) rfl (fun told e n' o' hs => ?_) (fun e n' o' hs ctx => ?_)
                  · rw [hs] at htok
                    dsimp only at htok
                    refine HA_tup ok' hn' rfl rfl ?_
                    refine HAO_cons (HF_of ?_)
                    walk_at "W"
                    refine HAO_cons (HF_of ?_)
                    walk_at "W"
                    refine HAO_nil ?_
                    walk_at "S"
                    refine HE_lst rfl ?_
                    walk_at "W"
                    refine ⟨by simp, ?_⟩
                    walk_at "W"
                    repeat refine HS_nil ?_
                    refine ⟨_, ?_, _, e, n', o', htok, rfl⟩
                    first | (unfold locF; walk_at "weak") | walk_at "weak"
                  · rw [hs] at htok
                    dsimp only at htok
                    rw [htok] at hR
                    exact ⟨ctx, n', o', due, rfl, hR, by omega, by walk_at "sub", [], rfl⟩
              · have hkq : k ∉ qs := fun h => (of_decide_eq_false hb) ((mem_ones k qs).mpr h)
                rw [if_neg hkq] at htok
                walk_at "S"
                refine HE_list rfl ?_
                walk_at "W"
                refine ⟨by decide, fun rs => ?_⟩
                walk_at "W"
                walk_at "S"
                refine E_parM F' hS (by walk_at "mem") (.tail _ (.tail _ (.head _))) me_qn ty_qn (ge_qn _ _ _ _) (keeps_fn (F'.K _ _ rfl) rfl) (by rfl) (by decide) (by rfl) (by rfl) (by decide) (by decide) ?_
                walk_at "W"
                refine call_qname (n := n) (o := o) (F'.mono (by omega)) hn' ht hk (fun h => h32 (by rw [h])) (fun h => h9 (by rw [h])) he10 hw (fun y w => (rs, w) :: (f, .list due) :: (x, y) :: σ.hp) (fun y z w => .tail (.tail .head)) (fun y z w => .head) rfl (fun hnm => ?_) (fun a b e hnm => ?_) (fun hnm ctx => ?_)
                · rw [hnm] at htok
                  dsimp only at htok
                  walk_at "W"
                  walk_at "S"
                  walk_at "W"
                  refine ⟨fun hb => absurd (of_decide_eq_true hb) (by omega), fun _ => ?_⟩
                  walk_at "W"
                  refine HE_lst rfl ?_
                  walk_at "W"
                  refine ⟨by simp, ?_⟩
                  walk_at "W"
                  refine HO_add_lst (ys := []) ok' (.inl rfl) (.inr ⟨rs, rfl, .head _⟩) (by simp) ?_
                  walk_at "W"
                  walk_at "S"
                  walk_at "W"
                  refine ⟨fun hb => absurd (of_decide_eq_true hb) (by omega), fun _ => ?_⟩
                  walk_at "W"
                  repeat refine HS_nil ?_
                  rw [show ((i : Int) + 1) = ((i + 1 : Nat) : Int) by omega]
                  refine ⟨_, ?_, _, i + 1, n, o, htok, rfl⟩
                  try unfold locF
                  exact weak_locd [(rs, .list [])] (by walk_at "sub") (by walk_at "nd") rfl
                · have hlt := (nameR_at ht.toTxt0 hi hnm).1
                  rw [hnm] at htok
                  dsimp only at htok
                  walk_at "W"
                  walk_at "S"
                  walk_at "W"
                  refine ⟨fun _ => ?_, fun hb => absurd (of_decide_eq_false hb) (by omega)⟩
                  walk_at "W"
                  refine HE_lst rfl ?_
                  walk_at "W"
                  refine ⟨by simp, ?_⟩
                  walk_at "W"
                  refine HO_add_lst (ys := [.tup [.str a, .str b]]) ok' (.inl rfl) (.inr ⟨rs, rfl, .head _⟩) (by simp) ?_
                  walk_at "W"
                  walk_at "S"
                  walk_at "W"
                  refine ⟨fun _ => ?_, fun hb => absurd (of_decide_eq_false hb) (by omega)⟩
                  walk_at "W"
                  repeat refine HS_nil ?_
                  refine ⟨_, ?_, _, e, n, o, htok, rfl⟩
                  try unfold locF
                  exact weak_locd [(rs, .list [.tup [.str a, .str b]])] (by walk_at "sub") (by walk_at "nd") rfl
                · rw [hnm] at htok
                  dsimp only at htok
                  rw [htok] at hR
                  exact ⟨ctx, n, o, due, rfl, hR, by omega, by walk_at "sub", [(rs, .list [])], rfl⟩
            · rintro _ ⟨xs, en, n', o', htok, rfl⟩
              rw [htok] at hR
              dsimp only at hR
              obtain ⟨g1, g2⟩ := tokR_at ht.toTxt0 hq10 hi h10 htok
              have hxl := tokR_len htok
              unfold locF
              walk_at "S"
              refine HE_methB ok' PySem.F.plainAttrs_list PySem.F.slot_list_append PySem.F.type_list_append (by rfl) (by rfl) (by decide) (by decide) ?_
              walk_at "W"
              refine ⟨hasT_lst ok' (.inr ⟨f, rfl, .head _⟩), ?_⟩
              walk_at "W"
              refine HE_lst rfl ?_
              walk_at "W"
              refine E_par F' hS (by walk_at "mem") (.tail _ (.head _)) (get_lines _ _ _ _) fi_lines rfl ?_ (by rfl) (by decide) (by rfl)
              walk_at "W"
              refine E_par F' hS (by walk_at "mem") (.tail _ (.head _)) (get_start _ _ _ _) fi_start rfl ?_ (by rfl) (by decide) (by rfl)
              walk_at "W"
              refine ⟨by simp, ?_⟩
              refine HO_add_lst (xs := xs) (ys := [.int en, .int n', .int o']) ok' (.inl rfl) (.inl rfl) (by simp; omega) ?_
              walk_at "W"
              refine HO_append .head (by omega) ?_
              refine ⟨rfl, ?_⟩
              walk_at "S"
              refine E_parM F' hS (by walk_at "mem") (.tail _ (.head _)) me_sk ty_sk (ge_sk _ _ _ _) (keeps_fn (F'.K _ _ rfl) rfl) (by rfl) (by decide) (by rfl) (by rfl) (by decide) (by decide) ?_
              walk_at "W"
              refine call_skipSpace (i := en) (n := n') (o := o') (F'.mono (by omega)) ht g2 (fun y => (f, .list (due ++ [.lst (xs ++ [.int en, .int n', .int o'])])) :: (x, y) :: σ.hp) (fun y z => .tail .head) rfl ?_
              walk_at "W"
              repeat refine HS_nil ?_
              refine ⟨f', ⟨locF t tb words x f (skipR t en n' o').1, (f, .list (due ++ [.lst (xs ++ [.int en, .int n', .int o'])])) :: (x, .inst 135 d (attrsP px words (skipR t en n' o').2.1 (skipR t en n' o').2.2)) :: σ.hp⟩, by omega, by first | (unfold locF; walk_at "weak") | walk_at "weak", _, _, _, _, (hstart en n' o' f' (by omega) (by omega)).1, (hstart en n' o' f' (by omega) (by omega)).2, ?_, ?_, rfl⟩
              · rw [← hR]; simp
              · simp; omega
          · have hA : ¬ 0 ≤ A := of_decide_eq_false hb
            obtain ⟨f', rfl⟩ : ∃ f', fu = f' + 1 := ⟨fu - 1, by have := hA1 (by omega); omega⟩
            unfold lexT at hR
            rw [if_pos (by omega)] at hR
            repeat refine HS_nil ?_
            refine ⟨_, ?_, n, o, due, hR, by omega, rfl⟩
            first | (unfold locF; walk_at "weak") | walk_at "weak"
        · rintro _ ⟨n', o', due, hR, hl, rfl⟩
          repeat refine HS_nil ?_
          refine ⟨_, ?_, n', o', due, hR, hl, rfl⟩
          walk_at "weak"
      · rintro kd σ1 ⟨ctx, n', o', due, rfl, hR, hl, hsub, l, hhp⟩
        refine ⟨ex_bad, fun e oe hk hd => ?_⟩
        have F'' := F'.mark e
        have hS'' : (markC c' e).cs = _ := hS
        refine HS.weak (σ' := ⟨[("text", .str t), ("turtle", .bool tb), ("words", .int words), ("parser", .ref x), ("found", .ref f)], (f, .list due) :: (x, .inst 135 d (attrsP px words n' o')) :: σ.hp⟩) (weak_locd ((e, .raw oe) :: l) hsub (by walk_at "nd") (by show (e, AO.raw oe) :: σ1.hp = _; rw [hhp]; rfl)) ?_
        walk_at "S"
        walk_at "W"
        refine HE_lst rfl ?_
        walk_at "W"
        refine HE_lst rfl ?_
        walk_at "W"
        refine E_par F'' hS'' (by walk_at "mem") (.tail _ (.head _)) (get_lines _ _ _ _) fi_lines rfl ?_ (by rfl) (by decide) (by rfl)
        walk_at "W"
        refine E_par F'' hS'' (by walk_at "mem") (.tail _ (.head _)) (get_start _ _ _ _) fi_start rfl ?_ (by rfl) (by decide) (by rfl)
        walk_at "W"
        refine ⟨by simp, ?_⟩
        walk_at "W"
        refine ⟨by simp, ?_⟩
        refine HO_add_lst F''.ok (.inr ⟨f, rfl, .head _⟩) (.inl rfl) (by simp; omega) ?_
        rw [← hR] at q
        exact ⟨σ.hp, .drop (.drop (.refl _)), q⟩
    · rintro _ ⟨n', o', due, hR, hl, rfl⟩
      walk_at "S"
      walk_at "W"
      refine HE_lst rfl ?_
      walk_at "W"
      refine HE_lst rfl ?_
      walk_at "W"
      refine E_par F' hS (by walk_at "mem") (.tail _ (.head _)) (get_lines _ _ _ _) fi_lines rfl ?_ (by rfl) (by decide) (by rfl)
      walk_at "W"
      refine E_par F' hS (by walk_at "mem") (.tail _ (.head _)) (get_start _ _ _ _) fi_start rfl ?_ (by rfl) (by decide) (by rfl)
      walk_at "W"
      refine ⟨by simp, ?_⟩
      walk_at "W"
      refine ⟨by simp, ?_⟩
      refine HO_add_lst ok' (.inr ⟨f, rfl, .head _⟩) (.inl rfl) (by simp; omega) ?_
      rw [← hR] at q
      exact ⟨σ.hp, .drop (.drop (.refl _)), q⟩
def partsL : List (List Nat) := [[32], [97], [34], [98, 49, 58], [34, 34, 34], [92], [233, 95, 45, 97, 46], [10], [39], [112, 58, 120], [39, 39, 39], [92, 34], [35, 32, 114], [92, 117, 48, 48, 69, 57], [32, 46], [58], [13, 10, 9], [92, 110], [37, 52, 97], [95, 58], [92, 40], [32, 105, 115, 32], [34, 34], [92, 85, 48, 48, 48, 49, 70, 54, 48, 48], [37, 103], [57], [92, 120], [64, 101, 110], [32, 112, 58, 37], [92, 85, 48, 48, 49, 49, 48, 48, 48, 48], [92, 39], [60]]
def midL : List Nat := [32, 34, 120, 92, 117, 48, 48, 52, 49, 34, 32, 95, 58, 98, 46, 99, 32, 112, 58, 92, 40, 100, 46, 32]
def endsL : List (List Nat) := [[10], [34, 92, 117, 48, 48, 10], [34, 92, 85, 48, 48, 48, 48, 48, 48, 10], [34, 34, 34, 10, 34, 120, 10], [34, 120, 10]]
/-- each sign fits, and what stands behind a backslash is as the law's parts have it -/
def goodB : List Nat → Bool
  | [] => true
  | x :: xs => (decide (x < 128) || x == 233) && (x != 92 || ((xs.head? != some 46) && (xs.head? != some 117 || decide (xs.length < 5) || (xs.drop 1).take 4 == [48, 48, 69, 57] || (xs.drop 1).take 4 == [48, 48, 52, 49]) &&
      (xs.head? != some 85 || decide (xs.length < 9) || (xs.drop 1).take 8 == [48, 48, 48, 49, 70, 54, 48, 48] || (xs.drop 1).take 8 == [48, 48, 49, 49, 48, 48, 48, 48]))) && goodB xs
def headB (xs : List Nat) : Bool := xs.head? != some 46 && xs.head? != some 117 && xs.head? != some 85
theorem good_at : ∀ (t : List Nat) (p : Nat), goodB t = true → goodB (t.drop p) = true
  | [], p, _ => by simp [goodB]
  | x :: xs, 0, h => h
  | x :: xs, p + 1, h => by
    have h' : goodB xs = true := by
      unfold goodB at h
      simp only [Bool.and_eq_true] at h
      exact h.2
    exact good_at xs p h'
theorem good_step {t : List Nat} {p k : Nat} (h : goodB t = true) (hk : t[p]? = some k) : goodB (k :: t.drop (p + 1)) = true := by
  have := good_at t p h
  obtain ⟨hp, e⟩ := List.getElem?_eq_some_iff.mp hk
  rw [List.drop_eq_getElem_cons hp, e] at this
  exact this
theorem good_fit : ∀ (t : List Nat), goodB t = true → ∀ k ∈ t, k < 128 ∨ k = 233
  | [], _, k, h => nomatch h
  | x :: xs, h, k, hk => by
    unfold goodB at h
    simp only [Bool.and_eq_true] at h
    rcases List.mem_cons.mp hk with rfl | hk
    · simpa using h.1.1
    · exact good_fit xs h.2 k hk
theorem head_drop {t : List Nat} {p : Nat} : (t.drop p).head? = t[p]? := by rw [List.head?_drop]
theorem txt_of {t : List Nat} (h0 : Txt0 t) (h : goodB t = true) : Txt1 t := by
  refine ⟨h0, fun p h1 h2 => ?_, fun p h1 h2 => ?_, fun p h1 => ?_, good_fit t h⟩
  · have g := good_step h h1
    unfold goodB at g
    rw [head_drop, h2] at g
    simp only [Bool.and_eq_true, Bool.or_eq_true, decide_eq_true_eq, beq_iff_eq] at g
    have g3 := g.1.2
    simp only [bne_self_eq_false, Bool.false_eq_true, false_or, List.length_drop, List.drop_drop] at g3
    rcases g3.1.2 with (h3 | h3) | h3
    · exact .inl (by omega)
    · exact .inr (.inl (by unfold cut; rw [show p + 6 - (p + 2) = 4 from by omega]; exact h3))
    · exact .inr (.inr (by unfold cut; rw [show p + 6 - (p + 2) = 4 from by omega]; exact h3))
  · have g := good_step h h1
    unfold goodB at g
    rw [head_drop, h2] at g
    simp only [Bool.and_eq_true, Bool.or_eq_true, decide_eq_true_eq, beq_iff_eq] at g
    have g3 := g.1.2
    simp only [bne_self_eq_false, Bool.false_eq_true, false_or, List.length_drop, List.drop_drop] at g3
    rcases g3.2 with (h3 | h3) | h3
    · exact .inl (by omega)
    · exact .inr (.inl (by unfold cut; rw [show p + 10 - (p + 2) = 8 from by omega]; exact h3))
    · exact .inr (.inr (by unfold cut; rw [show p + 10 - (p + 2) = 8 from by omega]; exact h3))
  · have g := good_step h h1
    unfold goodB at g
    rw [head_drop] at g
    simp only [Bool.and_eq_true, Bool.or_eq_true, bne_self_eq_false, Bool.false_eq_true, false_or, bne_iff_ne, ne_eq] at g
    exact g.1.2.1.1
theorem part_put {p t : List Nat} (hp : p ∈ partsL) (h1 : goodB t = true) (h2 : headB t = true) : goodB (p ++ t) = true ∧ headB (p ++ t) = true := by
  have h2' : t.head? ≠ some 46 ∧ t.head? ≠ some 117 ∧ t.head? ≠ some 85 := by
    unfold headB at h2
    simp only [Bool.and_eq_true, bne_iff_ne, ne_eq] at h2
    exact ⟨h2.1.1, h2.1.2, h2.2⟩
  simp only [partsL, List.mem_cons, List.not_mem_nil, or_false] at hp
  rcases hp with rfl | rfl | rfl | rfl | rfl | rfl | rfl | rfl | rfl | rfl | rfl | rfl | rfl | rfl | rfl | rfl | rfl | rfl | rfl | rfl | rfl | rfl | rfl | rfl | rfl | rfl | rfl | rfl | rfl | rfl | rfl | rfl <;> exact ⟨by simp [goodB, h1, h2'], by simp [headB]⟩
theorem parts_put {t : List Nat} (h1 : goodB t = true) (h2 : headB t = true) : ∀ pss : List (List Nat), (∀ p ∈ pss, p ∈ partsL) → goodB (pss.flatten ++ t) = true ∧ headB (pss.flatten ++ t) = true
  | [], _ => ⟨h1, h2⟩
  | p :: pss, h => by
    obtain ⟨a, b⟩ := parts_put h1 h2 pss fun q hq => h q (.tail _ hq)
    rw [List.flatten_cons, List.append_assoc]
    exact part_put (h p (.head _)) a b
theorem part_len {p : List Nat} (hp : p ∈ partsL) : p.length ≤ 10 := by
  simp only [partsL, List.mem_cons, List.not_mem_nil, or_false] at hp
  rcases hp with rfl | rfl | rfl | rfl | rfl | rfl | rfl | rfl | rfl | rfl | rfl | rfl | rfl | rfl | rfl | rfl | rfl | rfl | rfl | rfl | rfl | rfl | rfl | rfl | rfl | rfl | rfl | rfl | rfl | rfl | rfl | rfl <;> decide
theorem parts_len : ∀ pss : List (List Nat), (∀ p ∈ pss, p ∈ partsL) → (pss.map (·.length)).sum ≤ 10 * pss.length ∧ pss.flatten.length = (pss.map (·.length)).sum
  | [], _ => by simp
  | p :: pss, h => by
    obtain ⟨a, b⟩ := parts_len pss fun q hq => h q (.tail _ hq)
    have := part_len (h p (.head _))
    simp only [List.map_cons, List.sum_cons, List.length_cons, List.flatten_cons, List.length_append]
    omega
/-- the text that the law builds -/
theorem law_text {pss : List (List Nat)} {e : List Nat} (h : ∀ p ∈ pss, p ∈ partsL) (hl : pss.length < 100) (he : e ∈ endsL) : Txt1 (pss.flatten ++ midL ++ e) := by
  obtain ⟨g1, g2⟩ := parts_len pss h
  have he' : e.length < 20 ∧ e[e.length - 1]? = some 10 ∧ 0 < e.length ∧ goodB (midL ++ e) = true ∧ headB (midL ++ e) = true := by
    simp only [endsL, List.mem_cons, List.not_mem_nil, or_false] at he
    rcases he with rfl | rfl | rfl | rfl | rfl <;> exact ⟨by decide, by decide, by decide, by decide, by decide⟩
  obtain ⟨e1, e2, e3, e4, e5⟩ := he'
  have hm : midL.length = 24 := rfl
  refine txt_of ⟨?_, ?_, ?_⟩ ?_
  · simp only [List.length_append, hm]; omega
  · rw [List.getElem?_append_right (by simp only [List.length_append]; omega)]
    rw [show (pss.flatten ++ midL ++ e).length - 1 - (pss.flatten ++ midL).length = e.length - 1 from by simp only [List.length_append]; omega]
    exact e2
  · simp only [List.length_append]; omega
  · rw [List.append_assoc]
    exact (parts_put e4 e5 pss h).1
theorem csMid : (Str.ofString " \"x\\u0041\" _:b.c p:\\(d. ").cps.toList = midL := rfl
theorem csE0 : (Str.ofString "\"\\u00\n").cps.toList = [34, 92, 117, 48, 48, 10] := rfl
theorem csE1 : (Str.ofString "\"\\U000000\n").cps.toList = [34, 92, 85, 48, 48, 48, 48, 48, 48, 10] := rfl
theorem csE2 : (Str.ofString "\"\"\"\n\"x\n").cps.toList = [34, 34, 34, 10, 34, 120, 10] := rfl
theorem csE3 : (Str.ofString "\"x\n").cps.toList = [34, 120, 10] := rfl
theorem n_parts {P : Params} : nsIn (hd.heap_39 P) mainGlobals (Str.ofString "_law_parts") = some (some (.ref 160)) := by kernel_rfl
theorem n_ends {P : Params} : nsIn (hd.heap_39 P) mainGlobals (Str.ofString "_law_ends") = some (some (.ref 167)) := by kernel_rfl
theorem n_found {P : Params} : nsIn (hd.heap_39 P) mainGlobals (Str.ofString "_law_found") = some (some (.ref 210)) := by kernel_rfl
theorem n_due {P : Params} : nsIn (hd.heap_39 P) mainGlobals (Str.ofString "_law_due") = some (some (.ref 203)) := by kernel_rfl
def partsOk : List Value → List (List Nat) → Bool
  | [], [] => true
  | .str x _ :: vs, p :: ps => (x.cps.toList == p) && partsOk vs ps
  | _, _ => false
theorem parts_get : ∀ {vs : List Value} {ps : List (List Nat)}, partsOk vs ps = true → ∀ {i : Nat}, i < ps.length → ∃ p u, p ∈ ps ∧ vs[i]? = some (.str ⟨p.toArray⟩ u)
  | [], [], _, i, h => by simp at h
  | [], p :: ps, h, _, _ => by simp [partsOk] at h
  | v :: vs, [], h, _, _ => by cases v <;> simp [partsOk] at h
  | v :: vs, p :: ps, h, i, hi => by
    cases v with
    | str x t =>
      simp only [partsOk, Bool.and_eq_true, beq_iff_eq] at h
      cases i with
      | zero => exact ⟨p, t, .head _, by rw [← h.1]; simp⟩
      | succ i =>
        obtain ⟨q, u, hq, hv⟩ := parts_get h.2 (i := i) (by simpa using hi)
        exact ⟨q, u, .tail _ hq, by simpa using hv⟩
    | _ => simp [partsOk] at h
theorem parts_obj {P : Params} : ∃ vs n, (hd.heap_39 P).lookup 160 = some { cls := .type "list", data := .seq vs n } ∧ partsOk vs.toList partsL = true := ⟨_, _, rfl, by kernel_rfl⟩
theorem parts32 : partsL.length = 32 := rfl
/-- _law_parts[number % 32] -/
theorem elt_ok {c : Cx} {k : Nat} (F : Fx c k) {scope : Scope} {p1 p2 p3 p4 p5 : Pos} {j : Nat} (hk1 : (compEnvC scope [] 0 c.env).scope.kind = .function) (hk2 : ∀ C, (compEnvC scope [] C c.env).kindOf (Str.ofString "_law_parts") = some .globalImplicit) (hk3 : ∀ C, (compEnvC scope [] C c.env).kindOf (Str.ofString "number") = some .local) :
    EltOk c scope (Str.ofString "number") (.Subscript (.Name (Str.ofString "_law_parts") p1) (.BinOp (.Name (Str.ofString "number") p2) .Mod (.Constant (.int 32) j p3) p4) p5) partsL := by
  intro kk t C m₂ s' E' Q' hN hx hst q
  obtain ⟨mg, mb, hg, hb, hbx⟩ := F.g
  obtain ⟨vs, n, hobj, hok⟩ := parts_obj (P := c.w.params)
  have hl : s'.heap.IsList 160 vs := ⟨_, hst _ _ (F.K _ _ hobj), rfl, n, rfl⟩
  refine Subscript_ ?_
  refine Name_function_global hk1 (hk2 C) (loadGlobal_global (env := compEnvC scope [] C c.env) (hg.keeps hst) (mg_of F.K hg n_parts) ?_) (by decide)
  refine wpAny_BinOp (ldVarK hN hx ?_ hk1 (hk3 C) (by decide))
  refine wpAny_Constant_int ?_
  refine mod_int' (by decide) ?_
  have h0 : 0 ≤ kk.fmod 32 := Int.fmod_nonneg_of_pos _ (by decide)
  have h1 : kk.fmod 32 < 32 := Int.fmod_lt_of_pos _ (by decide)
  obtain ⟨p, u, hp, hv⟩ := parts_get hok (i := (kk.fmod 32).toNat) (by rw [parts32]; omega)
  have hl2 : ({ s' with toks := s'.toks + 1 + 1 } : Shared).heap.IsList 160 vs := hl
  refine tail_any hl2.typeIs slot_list_getitem.lookup (wpAny_getItem_list hl2 h0 (by omega) (by simpa using hv) ?_) rfl
  exact q p u _ hp
theorem call_ends {c : Cx} (F : Fx c 1) {σ : St} {Q : Post} {R : RPost} (q : Q (.lst (strsV endsL)) σ) : HOs c σ (fun us => call (.ref 167) us) [] Q R := by
  intro us tm s r hlen
  refine call_X F.ok (k := 0) F.room (xs := []) (F.K _ _ rfl) (codeRec_of F.K (by rfl)) F.lim ?_ (by decide) ?_ r hlen ?_ (by rfl) (by rfl) (by rfl) (by decide)
  · intro s _
    obtain rfl : us = [] := List.length_eq_zero_iff.mp hlen
    exact BindsTo.of_eq rfl
  · decide
  · intro c' ok' room' e1 e2 e3 hS e5
    have F' := F.inner ok' room' e2 e3 e5
    walk_at "S"
    refine HE_lst rfl ?_
    walk_at "W"
    refine HE_strc csE0 ?_
    walk_at "W"
    refine HE_strc csE1 ?_
    walk_at "W"
    refine HE_strc csE2 ?_
    walk_at "W"
    refine HE_strc csE3 ?_
    walk_at "W"
    exact ⟨by simp, q⟩
theorem tokR_deep {t qs : List Nat} {words i n o : Nat} {xs : List V} {e n' o' : Nat} (h : tokR t qs words i n o = (some (xs, e), n', o')) : ∀ x ∈ xs, Deep 2 x := by
  unfold tokR at h
  split at h
  · split at h
    · simp at h
    · simp only [Prod.mk.injEq, Option.some.injEq] at h
      rw [← h.1.1]
      intro x hx
      simp only [List.mem_cons, List.not_mem_nil, or_false] at hx
      rcases hx with rfl | rfl <;> exact .str _
  · split at h
    · simp at h
    · simp only [Prod.mk.injEq, Option.some.injEq] at h
      rw [← h.1.1]
      intro x hx
      simp only [List.mem_cons, List.not_mem_nil, or_false] at hx
      rcases hx with rfl | rfl <;> exact .str _
    · simp only [Prod.mk.injEq, Option.some.injEq] at h
      rw [← h.1.1]
      intro x hx
      simp only [List.mem_cons, List.not_mem_nil, or_false] at hx
      rcases hx with rfl | rfl
      · exact .str _
      · refine .tup fun x hx => ?_
        simp only [List.mem_cons, List.not_mem_nil, or_false] at hx
        rcases hx with rfl | rfl <;> exact .str _
theorem lex_deep {t qs : List Nat} {words : Nat} : ∀ (f : Nat) (a : Int) (n o : Nat), ∀ x ∈ lexT t qs words f a n o, Deep 3 x
  | 0, _, _, _, x, h => nomatch h
  | f + 1, a, n, o, x, h => by
    unfold lexT at h
    split at h
    · rw [List.mem_singleton.mp h]
      refine .lst fun y hy => ?_
      simp only [List.mem_cons, List.not_mem_nil, or_false] at hy
      rcases hy with rfl | rfl | rfl
      · exact .str _
      · exact .int _
      · exact .int _
    · split at h
      · rw [List.mem_singleton.mp h]
        refine .lst fun y hy => ?_
        simp only [List.mem_cons, List.not_mem_nil, or_false] at hy
        rcases hy with rfl | rfl | rfl
        · exact .str _
        · exact .int _
        · exact .int _
      · rename_i xs e n' o' htok
        rcases List.mem_cons.mp h with rfl | h
        · refine .lst fun y hy => ?_
          rcases List.mem_append.mp hy with hy | hy
          · exact tokR_deep htok y hy
          · simp only [List.mem_cons, List.not_mem_nil, or_false] at hy
            rcases hy with rfl | rfl | rfl <;> exact .int _
        · exact lex_deep f _ _ _ x h
def bodyOf (o : Obj) : Option (List Stmt × Scope) := match o.data with
  | .func fd => (match fd.body with | .stmts b => some (b, fd.scope) | _ => none)
  | _ => none
theorem law_walk {c : Cx} (F : Fx c 7) (hn : c.A.handled = none) {l : Addr} {vs : List Value} {ns : List Int} (hl : c.h0.IsList l vs.toArray) (hi : IntsAre vs ns) (hz : vs.length < 100) {body : List Stmt} {scope : Scope} (hb : ((KK c).lookup 215).bind bodyOf = some (body, scope)) (hS : c.cs = scope) :
    HS c ⟨[("script", .ref l)], []⟩ body (fun Fl _ => Fl = .ret (.bool true)) (fun _ _ => False) := by
  have e : ((KK c).lookup 215).bind bodyOf = some _ := rfl
  cases e.symm.trans hb
  clear e hb
  have ok := F.ok
  refine HS_cutw (fun σ' => ∃ f : Int, σ' = ⟨[("script", .ref l), ("first", .int f)], []⟩) ?_ ?_
  · refine HS1_assign1 ?_ rfl rfl rfl
    refine HE_ifexp (HT_val ?_ (fun _ => rfl))
    walk_at "W"
    refine HB_list0 ok hl (by omega) ⟨fun h => ?_, fun h => ?_⟩
    · have hne : vs ≠ [] := of_decide_eq_true h
      obtain ⟨n0, hn0⟩ : ∃ n0, ns[0]? = some n0 := by
        cases hi with
        | nil => exact absurd rfl hne
        | cons n t _ => exact ⟨n, rfl⟩
      walk_at "W"
      refine HO_item0 ok (fun _ _ => rfl) hl hi (by decide) (by decide) hn0 ?_
      walk_at "W"
      exact ⟨_, by walk_at "weak", n0, rfl⟩
    · walk_at "W"
      exact ⟨_, by walk_at "weak", 0, rfl⟩
  · rintro _ ⟨f, rfl⟩
    walk_at "S"
    refine HE_methB ok PySem.F.plainAttrs_str PySem.F.slot_str_join PySem.F.type_str_join (by rfl) (by rfl) (by decide) (by decide) ?_
    walk_at "W"
    refine ⟨hasT_str, ?_⟩
    refine HX_cons ?_
    refine HE_scomp ok hn hl hi hz (.head _) (by rw [hS]) (by show c.cs.names.lookup _ = _; rw [hS]; rfl) (by decide) (by rfl) (by decide) (by rfl) (by decide) (by rfl) (fun _ => rfl) (elt_ok F (by rfl) (fun _ => rfl) (fun _ => rfl)) fun pss h1 h2 => ?_
    walk_at "W"
    obtain ⟨g1, g2⟩ := parts_len pss h1
    refine HO_join ok (.inl rfl) (by omega) ?_
    walk_at "W"
    have hfl : pss.flatten.length ≤ 1000 := by omega
    have hml : midL.length = 24 := rfl
    walk_at "S"
    walk_at "W"
    refine HE_strc csMid ?_
    walk_at "W"
    refine E_def F hS n_ends (keeps_fn (F.K _ _ rfl) rfl) rfl (by decide) rfl rfl ?_
    walk_at "W"
    refine call_ends (F.mono (by omega)) ?_
    walk_at "W"
    refine HO_fdiv_int (by decide) (PyProof.noPylong_of_log2 (by decide +kernel)) ?_
    walk_at "W"
    refine HO_mod_int (by decide) ?_
    walk_at "W"
    have i0 : 0 ≤ (f.fdiv 4).fmod 5 := Int.fmod_nonneg_of_pos _ (by decide)
    have i1 : (f.fdiv 4).fmod 5 < 5 := Int.fmod_lt_of_pos _ (by decide)
    have hel : endsL.length = 5 := rfl
    obtain ⟨e, he⟩ : ∃ e, endsL[((f.fdiv 4).fmod 5).toNat]? = some e := ⟨_, List.getElem?_eq_getElem (by omega)⟩
    have heL : e ∈ endsL := List.mem_of_getElem? he
    have hez : e.length < 20 := by
      simp only [endsL, List.mem_cons, List.not_mem_nil, or_false] at heL
      rcases heL with rfl | rfl | rfl | rfl | rfl <;> decide
    refine HO_item_lst ok (fun _ _ => rfl) (.inl rfl) i0 (by omega) (z := .str e) (by unfold strsV; rw [List.getElem?_map, he]; rfl) ?_
    walk_at "W"
    have ht := law_text h1 (by omega) heL
    generalize pss.flatten ++ midL ++ e = t at ht
    walk_at "S"
    walk_at "W"
    refine HO_mod_int (by decide) ?_
    walk_at "W"
    generalize decide (f.fmod 2 = 1) = tb
    walk_at "S"
    walk_at "W"
    refine HO_fdiv_int (by decide) (PyProof.noPylong_of_log2 (by decide +kernel)) ?_
    walk_at "W"
    refine HO_mod_int (by decide) ?_
    have w0 : 0 ≤ (f.fdiv 2).fmod 2 := Int.fmod_nonneg_of_pos _ (by decide)
    have w1 : (f.fdiv 2).fmod 2 < 2 := Int.fmod_lt_of_pos _ (by decide)
    obtain ⟨words, hw⟩ := Int.eq_ofNat_of_zero_le w0
    rw [hw]
    have hw2 : words < 2 := by omega
    walk_at "W"
    walk_at "S"
    walk_at "W"
    refine E_def F hS n_found (keeps_fn (F.K _ _ rfl) rfl) rfl (by decide) rfl rfl ?_
    walk_at "W"
    refine call_found (F.mono (by omega)) hn ht hw2 ?_
    walk_at "W"
    refine E_def F hS n_due (keeps_fn (F.K _ _ rfl) rfl) rfl (by decide) rfl rfl ?_
    walk_at "W"
    refine HT_val ?_ (fun _ => rfl)
    walk_at "W"
    refine ⟨fun h => ?_, fun h => ?_⟩
    · subst h
      walk_at "W"
      refine call_due (qs := [34, 39]) (F.mono (by omega)) hn ht (by decide) ?_
      refine HO_eq_deep (n := 3) (xs := lexR t [34, 39] words) ok (by have := F.units; omega) (lex_deep _ _ _ _) (.inl rfl) (.inl rfl) ?_
      rfl
    · subst h
      walk_at "W"
      refine call_due (qs := [34]) (F.mono (by omega)) hn ht (by decide) ?_
      refine HO_eq_deep (n := 3) (xs := lexR t [34] words) ok (by have := F.units; omega) (lex_deep _ _ _ _) (.inl rfl) (.inl rfl) ?_
      rfl
/-- the frame of the law, behind the head -/
def cx0 (prog : Program) (w : World) (s₁ : Shared) (scope : Scope) (fa : Addr) (cd : Addr) (s : Shared) : Cx :=
  { prog, w, h0 := s₁.heap, A := callerA.deeper (envOf (Str.ofString "law") scope s₁.heap.objs.size fa (.ref cd)), g := s₁.heap, L := s₁.heap.objs.size, cn := Str.ofString "law", cs := scope, a := fa, cd := .ref cd, outer := [], frs := [], fz := [], e := s }
theorem law_end {prog : Program} {w : World} {s₁ : Shared} {h₁ : Heap} {fa cd l : Addr} {k : Nat} {mg mb : Str → Option Value} {vs : List Value} {ns : List Int} {body : List Stmt} {scope : Scope} {m : Str → Option Value}
    (KX : (hd.heap_39 w.params).In s₁.heap) (hg : s₁.heap.Ns mainGlobals mg) (hb : s₁.heap.Ns builtinsNs mb) (hbx : ∀ x : Str, x ≠ "__name__" → mb x = bootBuiltins x) (hlim : s₁.heap.NoLimit) (hcd : s₁.heap.CodeRec (.ref cd) (Str.ofString "law"))
    (hL : s₁.heap.IsList l vs.toArray) (hI : IntsAre vs ns) (hz : vs.length < 100) (Fr0 : Fr s₁.heap s₁.heap.objs.size h₁ m) (hm : m (Str.ofString "script") = some (.ref l))
    (hbody : ((hd.heap_39 w.params).lookup 215).bind bodyOf = some (body, scope)) (hkind : scope.kind = .function) {E : Value → Shared → Prop} {Q : Flow → Shared → Prop}
    (q : ∀ s' m', Fr s₁.heap s₁.heap.objs.size s'.heap m' → s'.gens = s₁.gens → s'.os = s₁.os → Q (.ret (.bool true)) s') :
    wpAny (model prog w) (callerA.deeper (envOf (Str.ofString "law") scope s₁.heap.objs.size fa (.ref cd))) (execs body (envOf (Str.ofString "law") scope s₁.heap.objs.size fa (.ref cd))) Q E { s₁ with heap := h₁, toks := k } := by
  have ok : (cx0 prog w s₁ scope fa cd { s₁ with heap := h₁, toks := k }).Ok := by
    refine ⟨hkind, fun b o e => e, rfl, .nil, ?_⟩
    obtain ⟨a, o, vs, t, e1, e2, e3, _⟩ := hcd
    exact ⟨a, o, vs, e1, e2, e3⟩
  have F : Fx (cx0 prog w s₁ scope fa cd { s₁ with heap := h₁, toks := k }) 7 := ⟨ok, ⟨by show callerA.depth + 1 + 7 < 900; decide, by show callerA.units + 3 + 20 * 7 < 9000; decide⟩, KX, ⟨mg, mb, hg, hb, hbx⟩, hlim⟩
  have w0 : RelW (cx0 prog w s₁ scope fa cd { s₁ with heap := h₁, toks := k }) ⟨[("script", .ref l)], []⟩ [] { s₁ with heap := h₁, toks := k } m [] [] [] := by
    refine ⟨rfl, rfl, rfl, Fr0, fun p h => (nomatch h), .nil, fun p h => h, .nil, fun p hp => ?_, by simp, .nil, fun p h => (nomatch h)⟩
    rw [List.mem_singleton.mp hp]
    exact ⟨_, hm, .ref _⟩
  refine wpAny_mono (law_walk F rfl hL hI hz hbody rfl _ w0.rel) (fun f s' ⟨Fl, σ', r', e⟩ => ?_) fun v s' ⟨e, k, σ', _, _, h⟩ => h.elim
  subst e
  cases f <;> first | exact r'.elim | skip
  obtain ⟨_, hi⟩ := Rel.at0 r'
  cases is_bool hi
  obtain ⟨m', mu, fz, fr, w'⟩ := r'
  exact q s' m' w'.fr w'.gens w'.os
end Mine
end
open PySem PySem.W PyProof.Rows
set_option maxRecDepth 100000 in
set_option maxHeartbeats 8000000 in
theorem PySem.Challenge.cw_fc0190_01_holds : PySem.Challenge.rw_fc0190_01.Holds := by
  refine hd ?_
  k_go0
  rename Frag.In _ _ => KX
  rename Top _ _ _ _ _ _ => T
  rename Heap.CodeRec _ _ _ => hcd
  rename Heap.IsList _ _ _ => hL
  rename IntsAre _ _ => hI
  rename Fr _ _ _ _ => F0
  rename ¬ ((63 : Nat) : Int) < _ => hlen
  rename Shared.gens _ = #[] => hgens
  have hz := hI.length
  refine Mine.law_end KX T.g T.b T.builtins (Top.nolimit T) hcd hL hI (by omega) F0 rfl rfl rfl fun s' m' F' hg' ho' => ?_
  refine goodW_bool F' (hg'.trans hgens) (fun _ => rfl) ?_ ho'
  wrow_post
