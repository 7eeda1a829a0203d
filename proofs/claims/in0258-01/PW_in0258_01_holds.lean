import PyProof.Rows.All
import Wide.All
import OpenK.AllK
import Wide.FinOn
import PySem.Challenge.RW_in0258_01
set_option Elab.async false
set_option linter.all false
section
open PySem PySem.Calls PySem.W PyProof.Rows
namespace Mine
/-- a datum -/
inductive D where
  | none
  | bool (b : Bool)
  | int (i : Int)
  | str (l : List Nat)
  | tup (l : List D)
  | lst (l : List D)
  | mut (a : Addr)
  | adr (a : Addr)
  | val (v : Value)
  | dct (n : Nat)
  | bnd (a : Addr)
deriving Inhabited
abbrev mkS (l : List Nat) : Str := ⟨l.toArray⟩
abbrev Av := Addr → Prop
def IsTup (h : Heap) (a : Addr) (items : Array Value) : Prop := ∃ n, h.get? a = some { cls := .type "tuple", data := .seq items n }
def IsDct (h : Heap) (a : Addr) (n : Nat) : Prop := ∃ es ep, h.get? a = some { cls := .type "dict", data := .dict es ep } ∧ (es.size = n ∧ (a == sysModules) = false)
/-- a list's append, as a value -/
abbrev bnd (a : Addr) : Obj := { cls := .type "builtin_function_or_method", data := .fields #[.builtin "list.append", .ref a] }
mutual
/-- the value v stands for the datum, in the heap h, off the addresses av -/
def Rep (h : Heap) (av : Av) : D → Value → Prop
  | .none, v => v = .none
  | .bool b, v => v = .bool b
  | .int i, v => ∃ t, v = .int i t
  | .str l, v => l.length ≤ 1000000 ∧ ∃ t, v = .str (mkS l) t
  | .tup l, v => l.length ≤ 1000000 ∧ ∃ a vs, v = .ref a ∧ ¬ av a ∧ IsTup h a vs ∧ RepL h av l vs.toList
  | .lst l, v => l.length ≤ 1000000 ∧ ∃ a vs, v = .ref a ∧ ¬ av a ∧ h.PlainList a vs ∧ RepL h av l vs.toList
  | .mut a, v => v = .ref a
  | .adr a, v => v = .ref a
  | .val x, v => v = x
  | .dct n, v => ∃ a, v = .ref a ∧ ¬ av a ∧ IsDct h a n
  | .bnd a, v => ∃ b, v = .ref b ∧ ¬ av b ∧ h.get? b = some (Mine.bnd a)
def RepL (h : Heap) (av : Av) : List D → List Value → Prop
  | [], vs => vs = []
  | d :: ds, vs => ∃ v vs', vs = v :: vs' ∧ Rep h av d v ∧ RepL h av ds vs'
end
def isF (o : Obj) : Prop := (∃ fs, o.data = .fields fs) ∧ o.cls ≠ .type "builtin_function_or_method"
mutual
theorem Rep.monoF {h h' : Heap} {av av' : Av} (hk : ∀ b o, ¬ av b → ¬ isF o → h.get? b = some o → h'.get? b = some o) (ha : ∀ b, av' b → av b ∨ h.get? b = none) :
    ∀ {d : D} {v : Value}, Rep h av d v → Rep h' av' d v
  | .none, _, x => by simpa [Rep] using x
  | .bool _, _, x => by simpa [Rep] using x
  | .int _, _, x => by simpa [Rep] using x
  | .str _, _, x => by simpa [Rep] using x
  | .mut _, _, x => by simpa [Rep] using x
  | .adr _, _, x => by simpa [Rep] using x
  | .val _, _, x => by simpa [Rep] using x
  | .tup l, v, x => by
    rw [Rep] at x ⊢
    obtain ⟨z, a, vs, e, n, ⟨k, hg⟩, r⟩ := x
    refine ⟨z, a, vs, e, fun hav => ?_, ⟨k, hk _ _ n (by rintro ⟨⟨_, q⟩, _⟩; cases q) hg⟩, RepL.monoF hk ha r⟩
    rcases ha a hav with y | y
    · exact n y
    · rw [hg] at y; cases y
  | .lst l, v, x => by
    rw [Rep] at x ⊢
    obtain ⟨z, a, vs, e, n, ⟨k, hg⟩, r⟩ := x
    refine ⟨z, a, vs, e, fun hav => ?_, ⟨k, hk _ _ n (by rintro ⟨⟨_, q⟩, _⟩; cases q) hg⟩, RepL.monoF hk ha r⟩
    rcases ha a hav with y | y
    · exact n y
    · rw [hg] at y; cases y
  | .dct n, v, x => by
    rw [Rep] at x ⊢
    obtain ⟨a, e, n', ⟨es, ep, hg, z⟩⟩ := x
    refine ⟨a, e, fun hav => ?_, ⟨es, ep, hk _ _ n' (by rintro ⟨⟨_, q⟩, _⟩; cases q) hg, z⟩⟩
    rcases ha a hav with y | y
    · exact n' y
    · rw [hg] at y; cases y
  | .bnd a, v, x => by
    rw [Rep] at x ⊢
    obtain ⟨b, e, n', hg⟩ := x
    refine ⟨b, e, fun hav => ?_, hk _ _ n' (by rintro ⟨_, q⟩; exact q rfl) hg⟩
    rcases ha b hav with y | y
    · exact n' y
    · rw [hg] at y; cases y
theorem RepL.monoF {h h' : Heap} {av av' : Av} (hk : ∀ b o, ¬ av b → ¬ isF o → h.get? b = some o → h'.get? b = some o) (ha : ∀ b, av' b → av b ∨ h.get? b = none) :
    ∀ {ds : List D} {vs : List Value}, RepL h av ds vs → RepL h' av' ds vs
  | [], _, x => by simpa [RepL] using x
  | d :: ds, vs, x => by
    rw [RepL] at x ⊢
    obtain ⟨v, vs', e, a, b⟩ := x
    exact ⟨v, vs', e, Rep.monoF hk ha a, RepL.monoF hk ha b⟩
end
theorem Rep.mono {h h' : Heap} {av av' : Av} (hk : ∀ b o, ¬ av b → h.get? b = some o → h'.get? b = some o) (ha : ∀ b, av' b → av b ∨ h.get? b = none) {d : D} {v : Value} (r : Rep h av d v) : Rep h' av' d v :=
  r.monoF (fun b o n _ e => hk b o n e) ha
theorem RepL.mono {h h' : Heap} {av av' : Av} (hk : ∀ b o, ¬ av b → h.get? b = some o → h'.get? b = some o) (ha : ∀ b, av' b → av b ∨ h.get? b = none) {d : List D} {v : List Value} (r : RepL h av d v) : RepL h' av' d v :=
  r.monoF (fun b o n _ e => hk b o n e) ha
theorem Rep.keeps {h h' : Heap} {av : Av} {d : D} {v : Value} (x : Rep h av d v) (hk : ∀ b o, h.get? b = some o → h'.get? b = some o) : Rep h' av d v :=
  x.mono (fun b o _ e => hk b o e) fun _ y => .inl y
theorem RepL.keeps {h h' : Heap} {av : Av} {d : List D} {v : List Value} (x : RepL h av d v) (hk : ∀ b o, h.get? b = some o → h'.get? b = some o) : RepL h' av d v :=
  x.mono (fun b o _ e => hk b o e) fun _ y => .inl y
theorem RepL.length {h : Heap} {av : Av} : ∀ {ds : List D} {vs : List Value}, RepL h av ds vs → ds.length = vs.length
  | [], _, x => by rw [RepL] at x; rw [x]; rfl
  | d :: ds, _, x => by
    rw [RepL] at x
    obtain ⟨v, vs', rfl, _, b⟩ := x
    rw [List.length_cons, List.length_cons, RepL.length b]
theorem RepL.get {h : Heap} {av : Av} : ∀ {ds : List D} {vs : List Value} {i : Nat} {d : D}, RepL h av ds vs → ds[i]? = some d → ∃ v, vs[i]? = some v ∧ Rep h av d v
  | [], _, i, _, _, e => by simp at e
  | d :: ds, _, i, d', x, e => by
    rw [RepL] at x
    obtain ⟨v, vs', rfl, a, b⟩ := x
    cases i with
    | zero => simp at e; subst e; exact ⟨v, rfl, a⟩
    | succ i => simp at e; simpa using RepL.get b e
theorem RepL.getV {h : Heap} {av : Av} : ∀ {ds : List D} {vs : List Value} {i : Nat} {v : Value}, RepL h av ds vs → vs[i]? = some v → ∃ d, ds[i]? = some d ∧ Rep h av d v
  | [], _, i, _, x, e => by rw [RepL] at x; subst x; simp at e
  | d :: ds, _, i, v', x, e => by
    rw [RepL] at x
    obtain ⟨v, vs', rfl, a, b⟩ := x
    cases i with
    | zero => simp at e; subst e; exact ⟨d, rfl, a⟩
    | succ i => simp at e; simpa using RepL.getV b e
theorem RepL.append {h : Heap} {av : Av} : ∀ {ds ds' : List D} {vs vs' : List Value}, RepL h av ds vs → RepL h av ds' vs' → RepL h av (ds ++ ds') (vs ++ vs')
  | [], _, _, _, x, y => by rw [RepL] at x; subst x; simpa using y
  | d :: ds, _, _, _, x, y => by
    rw [RepL] at x
    obtain ⟨v, vs', rfl, a, b⟩ := x
    rw [List.cons_append, List.cons_append, RepL]
    exact ⟨v, _, rfl, a, RepL.append b y⟩
theorem RepL.one {h : Heap} {av : Av} {d : D} {v : Value} (x : Rep h av d v) : RepL h av [d] [v] := by
  rw [RepL]; exact ⟨v, [], rfl, x, by rw [RepL]⟩
theorem RepL.nil {h : Heap} {av : Av} : RepL h av [] [] := by rw [RepL]
theorem RepL.cons {h : Heap} {av : Av} {d : D} {v : Value} {ds vs} (x : Rep h av d v) (y : RepL h av ds vs) : RepL h av (d :: ds) (v :: vs) := by
  rw [RepL]; exact ⟨v, vs, rfl, x, y⟩
theorem RepL.of_get {h : Heap} {av : Av} : ∀ {ds : List D} {vs : List Value}, ds.length = vs.length → (∀ (i : Nat) (d : D) (v : Value), ds[i]? = some d → vs[i]? = some v → Rep h av d v) → RepL h av ds vs
  | [], [], _, _ => RepL.nil
  | d :: ds, v :: vs, e, k => RepL.cons (k 0 d v rfl rfl) (RepL.of_get (by simpa using e) fun i d' v' a b => k (i + 1) d' v' (by simpa using a) (by simpa using b))
theorem RepL.take {h : Heap} {av : Av} {ds : List D} {vs : List Value} (x : RepL h av ds vs) (n : Nat) : RepL h av (ds.take n) (vs.take n) :=
  RepL.of_get (by simp [x.length]) fun i d v a b => by
    rw [List.getElem?_take] at a b
    split at a
    · rename_i hlt
      rw [if_pos hlt] at b
      obtain ⟨v', e, r⟩ := x.get a
      rw [e] at b; cases b; exact r
    · cases a
theorem RepL.drop {h : Heap} {av : Av} {ds : List D} {vs : List Value} (x : RepL h av ds vs) (n : Nat) : RepL h av (ds.drop n) (vs.drop n) :=
  RepL.of_get (by simp [x.length]) fun i d v a b => by
    rw [List.getElem?_drop] at a b
    obtain ⟨v', e, r⟩ := x.get a
    rw [e] at b; cases b; exact r
/-- what a text's name holds -/
def Bnd (env : Env) (h : Heap) (x : Str) (v : Value) : Prop :=
  (env.kindOf x = some .local ∧ ∃ m, h.Ns env.locals m ∧ m x = some v) ∨ (env.kindOf x = some .cell ∧ ∃ c, env.cells.lookup x = some c ∧ h.IsCell c (some v))
theorem Bnd.keeps {env : Env} {h h' : Heap} {x : Str} {v : Value} (b : Bnd env h x v) (hk : ∀ b o, h.get? b = some o → h'.get? b = some o) : Bnd env h' x v := by
  rcases b with ⟨a, m, n, e⟩ | ⟨a, c, n, e⟩
  · exact .inl ⟨a, m, n.keeps hk, e⟩
  · exact .inr ⟨a, c, n, e.keeps hk⟩
/-- the world at hand: what stands at the law's call -/
structure Gd (prog : Program) (w : World) (h0 : Heap) (mg mb : Str → Option Value) : Prop where
  g : h0.Ns mainGlobals mg
  b : h0.Ns builtinsNs mb
  nolimit : h0.NoLimit
/-- the table of `_translate`'s code: the lambda's code comes to stand in it -/
abbrev P0 : Addr := 172
def TabOk (h : Heap) : Prop := ∃ ps : Array Value, h.get? P0 = some { cls := .none, data := .fields ps } ∧ TriplesOk ps.toList
theorem TabOk.keeps {h h' : Heap} (x : TabOk h) (k : ∀ b o, h.get? b = some o → h'.get? b = some o) : TabOk h' := let ⟨ps, e, t⟩ := x; ⟨ps, k _ _ e, t⟩
theorem TabOk.but {h h' : Heap} {a : Addr} (x : TabOk h) (hs : Heap.SameBut a h h') (n : a ≠ P0) : TabOk h' := let ⟨ps, e, t⟩ := x; ⟨ps, by rw [hs.2 _ (Ne.symm n)]; exact e, t⟩
theorem TabOk.wr {h h' : Heap} {wr : List Addr} (x : TabOk h) (hk : ∀ b o, b ∉ wr → h.get? b = some o → h'.get? b = some o) (n : P0 ∉ wr) : TabOk h' := let ⟨ps, e, t⟩ := x; ⟨ps, hk _ _ n e, t⟩
theorem TabOk.neNs {h : Heap} {a : Addr} {m : Str → Option Value} (x : TabOk h) (y : h.Ns a m) : a ≠ P0 := fun q => by
  obtain ⟨ps, e, _⟩ := x; obtain ⟨o, es, ep, e2, d, _⟩ := y
  rw [q, e] at e2; cases e2; cases d
theorem TabOk.neCell {h : Heap} {a : Addr} {v : Option Value} (x : TabOk h) (y : h.IsCell a v) : a ≠ P0 := fun q => by
  obtain ⟨ps, e, _⟩ := x; obtain ⟨o, e2, d⟩ := y
  rw [q, e] at e2; cases e2; cases d
theorem TabOk.neL {h : Heap} {a : Addr} {its : Array Value} (x : TabOk h) (y : h.PlainList a its) : a ≠ P0 := fun q => by
  obtain ⟨ps, e, _⟩ := x; obtain ⟨n, e2⟩ := y
  rw [q, e] at e2; cases e2
structure Cx where
  A : Around
  k : Nat
  env : Env
  av : Av
  s₀ : Shared
structure Cx.Ok (c : Cx) : Prop where
  handled : c.A.handled = none
  depth : c.A.depth + c.k ≤ recursionLimit
  units : c.A.units + 40 * c.k ≤ cLine
  kind : c.env.scope.kind = .function
  globals : c.env.globals = mainGlobals
  builtins : c.env.builtins = builtinsNs
  avP : c.av P0
abbrev St := List (String × D)
abbrev Mu := List (Addr × List D)
def avs (av : Av) (μ : Mu) : Av := fun a => av a ∨ ∃ p ∈ μ, p.1 = a
structure PSt (h0 : Heap) (c : Cx) (σ : St) (μ : Mu) (s : Shared) : Prop where
  ok : c.Ok
  base : ∀ b o, h0.get? b = some o → s.heap.get? b = some o
  vars : ∀ x d, σ.lookup x = some d → (Str.ofString x == ("__debug__" : Str)) = false ∧ ∃ v, Bnd c.env s.heap (Str.ofString x) v ∧ Rep s.heap (avs c.av μ) d v
  own : ∀ p ∈ μ, p.2.length ≤ 1000000 ∧ ∃ vs, s.heap.PlainList p.1 vs ∧ RepL s.heap (avs c.av μ) p.2 vs.toList
  live : ∀ b, avs c.av μ b → ∃ o, s.heap.get? b = some o
  tab : TabOk s.heap
theorem kp {s s' : Shared} (k : Keeps s s') : ∀ b o, s.heap.get? b = some o → s'.heap.get? b = some o := by
  obtain ⟨h, tk, rfl, x⟩ := k; exact x
theorem kp_rfl {s : Shared} : Keeps s s := ⟨s.heap, s.toks, rfl, fun _ _ e => e⟩
theorem kp_trans {s s' s'' : Shared} (a : Keeps s s') (b : Keeps s' s'') : Keeps s s'' := by
  obtain ⟨h, tk, rfl, x⟩ := a
  obtain ⟨h', tk', rfl, y⟩ := b
  exact ⟨h', tk', rfl, fun b o e => y b o (x b o e)⟩
theorem kp_toks {s : Shared} {n : Nat} : Keeps s { s with toks := n } := ⟨s.heap, n, rfl, fun _ _ e => e⟩
theorem kp_push {s : Shared} {o : Obj} {n : Nat} : Keeps s { s with heap := s.heap.push o, toks := n } := ⟨_, n, rfl, fun _ _ e => Heap.get?_push_of_some o e⟩
theorem kp_push' {s : Shared} {o : Obj} : Keeps s { s with heap := s.heap.push o } := ⟨_, s.toks, rfl, fun _ _ e => Heap.get?_push_of_some o e⟩
theorem fresh_size (h : Heap) : h.get? h.objs.size = none := by
  cases e : h.get? h.objs.size with
  | none => rfl
  | some o => exact absurd (Heap.lt_size e) (Nat.lt_irrefl _)
theorem PSt.keeps {h0 : Heap} {c : Cx} {σ : St} {μ : Mu} {s s' : Shared} (P : PSt h0 c σ μ s) (k : Keeps s s') : PSt h0 c σ μ s' where
  ok := P.ok
  base := fun b o e => kp k b o (P.base b o e)
  vars := fun x d e => let ⟨z, v, a, b⟩ := P.vars x d e; ⟨z, v, a.keeps (kp k), b.keeps (kp k)⟩
  own := fun p hp => let ⟨z, vs, ⟨n, a⟩, b⟩ := P.own p hp; ⟨z, vs, ⟨n, kp k _ _ a⟩, b.keeps (kp k)⟩
  live := fun b hb => let ⟨o, e⟩ := P.live b hb; ⟨o, kp k _ _ e⟩
  tab := P.tab.keeps (kp k)
theorem PSt.off {h0 : Heap} {c : Cx} {σ : St} {μ : Mu} {s : Shared} (P : PSt h0 c σ μ s) {a : Addr} (e : s.heap.get? a = none) : ¬ avs c.av μ a := fun h => by
  obtain ⟨o, e'⟩ := P.live a h
  rw [e] at e'; cases e'
theorem PSt.offSize {h0 : Heap} {c : Cx} {σ : St} {μ : Mu} {s : Shared} (P : PSt h0 c σ μ s) : ¬ avs c.av μ s.heap.objs.size := P.off (fresh_size _)
abbrev NoE : Value → Shared → Prop := fun _ _ => False
section
variable (prog : Program) (w : World) (h0 : Heap)
/-- the expression, from the state, comes to the datum; it changes nothing -/
def EvJ (c : Cx) (σ : St) (μ : Mu) (e : Expr) (d : D) : Prop :=
  ∀ s, PSt h0 c σ μ s → wpAny (model prog w) c.A (eval e c.env) (fun v s' => Keeps s s' ∧ Rep s'.heap (avs c.av μ) d v) NoE s
/-- as a test -/
def TsJ (c : Cx) (σ : St) (μ : Mu) (e : Expr) (b : Bool) : Prop :=
  ∀ s, PSt h0 c σ μ s → wpAny (model prog w) c.A (isTrue e c.env (eval e c.env)) (fun r s' => Keeps s s' ∧ r = b) NoE s
/-- a tree over values -/
def OpJ (c : Cx) (σ : St) (μ : Mu) (t : Sem Value) (d : D) : Prop :=
  ∀ s, PSt h0 c σ μ s → wpAny (model prog w) c.A t (fun v s' => Keeps s s' ∧ Rep s'.heap (avs c.av μ) d v) NoE s
end
end Mine
end
section
open PySem PySem.Calls PySem.W PyProof.Rows
namespace Mine
section
variable {prog : Program} {w : World} {h0 : Heap} {c : Cx} {σ : St} {μ : Mu}
theorem wm {α : Type} {M : Model} {A : Around} {t : Sem α} {Q Q' : α → Shared → Prop} {s : Shared} (h : wpAny M A t Q NoE s) (hQ : ∀ a s', Q a s' → Q' a s') : wpAny M A t Q' NoE s :=
  wpAny_mono h hQ fun _ _ x => x
theorem Ev.name {x : String} {pos : Pos} {d : D} (hd : σ.lookup x = some d) : EvJ prog w h0 c σ μ (.Name (Str.ofString x) pos) d := fun s P => by
  obtain ⟨hb, v, b, r⟩ := P.vars x d hd
  rcases b with ⟨a, m, n, e⟩ | ⟨a, cc, n, e⟩
  · exact wpAny_Name (wpAny_loadName_local P.ok.kind a n e ⟨kp_rfl, r⟩) hb
  · exact wpAny_Name (wpAny_loadName_cell P.ok.kind a n e ⟨kp_rfl, r⟩) hb
theorem Ev.cint {i : Int} {k : Nat} {pos : Pos} : EvJ prog w h0 c σ μ (.Constant (.int i) k pos) (.int i) := fun s _ => wpAny_Constant_int ⟨kp_toks, by rw [Rep]; exact ⟨_, rfl⟩⟩
theorem Ev.cnone {k : Nat} {pos : Pos} : EvJ prog w h0 c σ μ (.Constant .none k pos) .none := fun s _ => by
  rw [eval_Constant]; exact wpAny_pure ⟨kp_rfl, by rw [Rep]⟩
theorem Ev.cbool {b : Bool} {k : Nat} {pos : Pos} : EvJ prog w h0 c σ μ (.Constant (.bool b) k pos) (.bool b) := fun s _ => by
  rw [eval_Constant]; exact wpAny_pure ⟨kp_rfl, by rw [Rep]⟩
def lit (s : String) : List Nat := (Str.ofString s).cps.toList
theorem mkS_lit (x : String) : mkS (lit x) = Str.ofString x := by
  show (⟨(lit x).toArray⟩ : Str) = _
  unfold lit; simp
theorem Ev.cstr {x : String} {k : Nat} {pos : Pos} (hz : (lit x).length ≤ 1000000) : EvJ prog w h0 c σ μ (.Constant (.str (Str.ofString x)) k pos) (.str (lit x)) := fun s _ =>
  Constant_str ⟨kp_toks, by rw [Rep]; exact ⟨hz, _, by rw [mkS_lit]⟩⟩
/-- an operation on values -/
def BinJ (prog : Program) (w : World) (h0 : Heap) (c : Cx) (σ : St) (μ : Mu) (op : Operator) (x y d : D) : Prop :=
  ∀ s a b, PSt h0 c σ μ s → Rep s.heap (avs c.av μ) x a → Rep s.heap (avs c.av μ) y b →
    wpAny (model prog w) c.A (binaryOp op a b) (fun v s' => Keeps s s' ∧ Rep s'.heap (avs c.av μ) d v) NoE s
def CmpJ (prog : Program) (w : World) (h0 : Heap) (c : Cx) (σ : St) (μ : Mu) (op : CmpOp) (x y : D) (r : Bool) : Prop :=
  ∀ s a b, PSt h0 c σ μ s → Rep s.heap (avs c.av μ) x a → Rep s.heap (avs c.av μ) y b →
    wpAny (model prog w) c.A (compareOp op a b) (fun v s' => Keeps s s' ∧ v = .bool r) NoE s
def TruJ (prog : Program) (w : World) (h0 : Heap) (c : Cx) (σ : St) (μ : Mu) (x : D) (r : Bool) : Prop :=
  ∀ s a, PSt h0 c σ μ s → Rep s.heap (avs c.av μ) x a → wpAny (model prog w) c.A (truthy a) (fun v s' => Keeps s s' ∧ v = r) NoE s
/-- a callable called with positional arguments -/
def CaJ (prog : Program) (w : World) (h0 : Heap) (c : Cx) (σ : St) (μ : Mu) (f : Value) (ds : List D) (d : D) : Prop :=
  ∀ s vs, PSt h0 c σ μ s → RepL s.heap (avs c.av μ) ds vs → wpAny (model prog w) c.A (call f vs) (fun v s' => Keeps s s' ∧ Rep s'.heap (avs c.av μ) d v) NoE s
/-- the arguments -/
def AJ (prog : Program) (w : World) (h0 : Heap) (c : Cx) (σ : St) (μ : Mu) (args : List Expr) (ds : List D) : Prop :=
  ∀ pos s, PSt h0 c σ μ s → wpAny (model prog w) c.A (spliced (backTo pos (starEach args c.env))) (fun vs s' => Keeps s s' ∧ RepL s'.heap (avs c.av μ) ds vs) NoE s
theorem EvJ.run {e : Expr} {d : D} (h : EvJ prog w h0 c σ μ e d) {s : Shared} (P : PSt h0 c σ μ s) {Q : Value → Shared → Prop}
    (k : ∀ v s', Keeps s s' → PSt h0 c σ μ s' → Rep s'.heap (avs c.av μ) d v → Q v s') : wpAny (model prog w) c.A (eval e c.env) Q NoE s :=
  wm (h s P) fun v s' x => k v s' x.1 (P.keeps x.1) x.2
theorem TsJ.run {e : Expr} {b : Bool} (h : TsJ prog w h0 c σ μ e b) {s : Shared} (P : PSt h0 c σ μ s) {Q : Bool → Shared → Prop}
    (k : ∀ s', Keeps s s' → PSt h0 c σ μ s' → Q b s') : wpAny (model prog w) c.A (isTrue e c.env (eval e c.env)) Q NoE s :=
  wm (h s P) fun v s' x => by obtain ⟨x, rfl⟩ := x; exact k s' x (P.keeps x)
theorem Ev.bin {l r : Expr} {op : Operator} {pos : Pos} {x y d : D} (hl : EvJ prog w h0 c σ μ l x) (hr : EvJ prog w h0 c σ μ r y) (ho : BinJ prog w h0 c σ μ op x y d) :
    EvJ prog w h0 c σ μ (.BinOp l op r pos) d := fun s P =>
  wpAny_BinOp (hl.run P fun a s₁ k₁ P₁ ra => hr.run P₁ fun b s₂ k₂ P₂ rb => wm (ho s₂ a b P₂ (ra.keeps (kp k₂)) rb) fun v s₃ y => ⟨kp_trans k₁ (kp_trans k₂ y.1), y.2⟩)
theorem Ev.cmp {l r : Expr} {op : CmpOp} {pos : Pos} {x y : D} {b : Bool} (hl : EvJ prog w h0 c σ μ l x) (hr : EvJ prog w h0 c σ μ r y) (ho : CmpJ prog w h0 c σ μ op x y b)
    (hm : behindInMarks op r = false := by rfl) : EvJ prog w h0 c σ μ (.Compare l [op] [r] pos) (.bool b) := fun s P =>
  wpAny_Compare1 (hl.run P fun a s₁ k₁ P₁ ra => hr.run P₁ fun b s₂ k₂ P₂ rb => wm (ho s₂ a b P₂ (ra.keeps (kp k₂)) rb) fun v s₃ y => ⟨kp_trans k₁ (kp_trans k₂ y.1), by rw [Rep]; exact y.2⟩) hm
theorem Ts.cmp {l r : Expr} {op : CmpOp} {pos : Pos} {x y : D} {b : Bool} (hl : EvJ prog w h0 c σ μ l x) (hr : EvJ prog w h0 c σ μ r y) (ho : CmpJ prog w h0 c σ μ op x y b)
    (hm : behindInMarks op r = false := by rfl) : TsJ prog w h0 c σ μ (.Compare l [op] [r] pos) b := fun s P =>
  wpAny_isTrue_Compare1 (hl.run P fun a s₁ k₁ P₁ ra => hr.run P₁ fun b s₂ k₂ P₂ rb => wm (ho s₂ a b P₂ (ra.keeps (kp k₂)) rb) fun v s₃ y => by
    obtain ⟨y, rfl⟩ := y; exact wpAny_truthy_bool ⟨kp_trans k₁ (kp_trans k₂ y), rfl⟩) hm
theorem Ts.plain {e : Expr} {d : D} {b : Bool} (h : EvJ prog w h0 c σ μ e d) (ht : TruJ prog w h0 c σ μ d b)
    (he : isTrue e c.env (eval e c.env) = (do let v ← eval e c.env; standAt e.pos; holding [v] (truthy v)) := by rfl) : TsJ prog w h0 c σ μ e b := fun s P =>
  isTrue_plain (h.run P fun v s₁ k₁ P₁ r => wm (ht s₁ v P₁ r) fun v s₂ y => ⟨kp_trans k₁ y.1, y.2⟩) he
theorem Ts.not {x : Expr} {pos : Pos} {b : Bool} (h : TsJ prog w h0 c σ μ x b) : TsJ prog w h0 c σ μ (.UnaryOp .Not x pos) (!b) := fun s P =>
  wpAny_isTrue_Not (h.run P fun s' k _ => ⟨k, rfl⟩)
theorem Ev.not {x : Expr} {pos : Pos} {d : D} {b : Bool} (h : EvJ prog w h0 c σ μ x d) (ht : TruJ prog w h0 c σ μ d b) : EvJ prog w h0 c σ μ (.UnaryOp .Not x pos) (.bool !b) := fun s P =>
  wpAny_UnaryOp (h.run P fun v s₁ k₁ P₁ r => not_of (wm (ht s₁ v P₁ r) fun v s₂ y => ⟨kp_trans k₁ y.1, by rw [Rep, y.2]⟩))
theorem Ev.ife {t a b : Expr} {pos : Pos} {d : D} {q : Bool} (h : TsJ prog w h0 c σ μ t q) (ha : q = true → EvJ prog w h0 c σ μ a d) (hb : q = false → EvJ prog w h0 c σ μ b d) :
    EvJ prog w h0 c σ μ (.IfExp t a b pos) d := fun s P =>
  wpAny_IfExp (h.run P fun s₁ k₁ P₁ => by
    cases q with
    | true => exact wm (ha rfl s₁ P₁) fun v s₂ y => ⟨kp_trans k₁ y.1, y.2⟩
    | false => exact wm (hb rfl s₁ P₁) fun v s₂ y => ⟨kp_trans k₁ y.1, y.2⟩)
theorem Ev.or {x y : Expr} {pos : Pos} {dx d : D} {q : Bool} (h : EvJ prog w h0 c σ μ x dx) (ht : TruJ prog w h0 c σ μ dx q) (hy : q = false → EvJ prog w h0 c σ μ y d) (hx : q = true → d = dx) :
    EvJ prog w h0 c σ μ (.BoolOp .Or [x, y] pos) d := fun s P =>
  wpAny_Or2 (h.run P fun v s₁ k₁ P₁ r => wm (ht s₁ v P₁ r) fun b s₂ z => by
    obtain ⟨k₂, rfl⟩ := z
    cases b with
    | true => rw [if_pos rfl, hx rfl]; exact ⟨kp_trans k₁ k₂, r.keeps (kp k₂)⟩
    | false => exact wm (hy rfl s₂ (P₁.keeps k₂)) fun v s₂ y => ⟨kp_trans k₁ (kp_trans k₂ y.1), y.2⟩)
theorem Ts.andN {pos : Pos} : TsJ prog w h0 c σ μ (.BoolOp .And [] pos) true := fun s P => isTrue_and_nil ⟨kp_rfl, rfl⟩
theorem Ts.orN {pos : Pos} : TsJ prog w h0 c σ μ (.BoolOp .Or [] pos) false := fun s P => isTrue_or_nil ⟨kp_rfl, rfl⟩
theorem Ts.and {x : Expr} {rest : List Expr} {pos : Pos} {a b : Bool} (h : TsJ prog w h0 c σ μ x a) (hy : a = true → TsJ prog w h0 c σ μ (.BoolOp .And rest pos) b) :
    TsJ prog w h0 c σ μ (.BoolOp .And (x :: rest) pos) (a && b) := fun s P =>
  isTrue_and (h.run P fun s₁ k₁ P₁ => by
    cases a with
    | true => exact wm (hy rfl s₁ P₁) fun v s₂ y => ⟨kp_trans k₁ y.1, y.2⟩
    | false => exact ⟨k₁, rfl⟩)
theorem Ts.or {x : Expr} {rest : List Expr} {pos : Pos} {a b : Bool} (h : TsJ prog w h0 c σ μ x a) (hy : a = false → TsJ prog w h0 c σ μ (.BoolOp .Or rest pos) b) :
    TsJ prog w h0 c σ μ (.BoolOp .Or (x :: rest) pos) (a || b) := fun s P =>
  isTrue_or (h.run P fun s₁ k₁ P₁ => by
    cases a with
    | false => exact wm (hy rfl s₁ P₁) fun v s₂ y => ⟨kp_trans k₁ y.1, y.2⟩
    | true => exact ⟨k₁, rfl⟩)
theorem AJ.nil : AJ prog w h0 c σ μ [] [] := fun pos s P => spliced_nil ⟨kp_rfl, RepL.nil⟩
theorem AJ.cons {e : Expr} {rest : List Expr} {d : D} {ds : List D} (h : EvJ prog w h0 c σ μ e d) (hr : AJ prog w h0 c σ μ rest ds)
    (he : starEach (e :: rest) c.env = (false, eval e c.env) :: starEach rest c.env := by rfl) : AJ prog w h0 c σ μ (e :: rest) (d :: ds) := fun pos s P => by
  rw [he]
  exact spliced_cons (h.run P fun v s₁ k₁ P₁ r => wm (hr pos s₁ P₁) fun vs s₂ y => ⟨kp_trans k₁ y.1, RepL.cons (r.keeps (kp y.1)) y.2⟩)
theorem star_lst {s : Shared} {A : Around} {av : Av} {ds : List D} {v : Value} (r : Rep s.heap av (.lst ds) v) {Q : List Value → Shared → Prop}
    (h : ∀ s' vs, Keeps s s' → RepL s'.heap av ds vs → Q vs s') : StarOf (model prog w) A NoE v Q s := by
  rw [Rep] at r
  obtain ⟨z, a, vs, rfl, na, ⟨n, hg⟩, rr⟩ := r
  have hT' : s.TypeIs (.ref a) "list" := ⟨_, hg, rfl⟩
  have sz : vs.size ≤ sizeLine := by
    have e1 : ds.length = vs.toList.length := rr.length
    have e2 : vs.toList.length = vs.size := by simp
    rw [sizeLine_eq]; omega
  unfold StarOf notIterableAtAll
  refine wpAny_bind (wpAny_specialOf hT' PySem.F.slot_list_iter.lookup (wpAny_pure ⟨rfl, ?_⟩))
  exact wpAny_collect_seq a (.inl rfl) hg rfl rfl (fun h' hk => h _ _ ⟨h', s.toks, rfl, hk⟩ (rr.keeps hk)) sz
theorem AJ.star {e : Expr} {rest : List Expr} {p : Pos} {ds ds' : List D} (h : EvJ prog w h0 c σ μ e (.lst ds)) (hr : AJ prog w h0 c σ μ rest ds') :
    AJ prog w h0 c σ μ (.Starred e p :: rest) (ds ++ ds') := fun pos s P =>
  items_star (h.run P fun v s₁ k₁ P₁ r => star_lst r fun s₂ vs k₂ rr => wm (hr pos s₂ (P₁.keeps k₂)) fun vs' s₃ y => ⟨kp_trans k₁ (kp_trans k₂ y.1), (rr.keeps (kp y.1)).append y.2⟩)
theorem rep_new_list {s : Shared} {av : Av} {ds : List D} {vs : List Value} (hz : ds.length ≤ 1000000) (hn : ¬ av s.heap.objs.size) (r : RepL s.heap av ds vs) :
    Rep (s.heap.push { cls := .type "list", data := .seq vs.toArray }) av (.lst ds) (.ref s.heap.objs.size) := by
  rw [Rep]
  exact ⟨hz, _, vs.toArray, rfl, hn, ⟨0, Heap.get?_push_size _ rfl⟩, by simpa using r.keeps fun b o e => Heap.get?_push_of_some _ e⟩
theorem rep_new_tuple {s : Shared} {av : Av} {ds : List D} {vs : List Value} (hz : ds.length ≤ 1000000) (hn : ¬ av s.heap.objs.size) (r : RepL s.heap av ds vs) :
    Rep (s.heap.push { cls := .type "tuple", data := .seq vs.toArray }) av (.tup ds) (.ref s.heap.objs.size) := by
  rw [Rep]
  exact ⟨hz, _, vs.toArray, rfl, hn, ⟨0, Heap.get?_push_size _ rfl⟩, by simpa using r.keeps fun b o e => Heap.get?_push_of_some _ e⟩
theorem len_line {ds : List D} {h : Heap} {av : Av} {vs : List Value} (hz : ds.length ≤ 1000000) (r : RepL h av ds vs) : vs.length ≤ sizeLine := by
  rw [← r.length, sizeLine_eq]; omega
theorem Ev.dlist {elts : List Expr} {pos : Pos} {ds : List D} (h : AJ prog w h0 c σ μ elts ds) (hz : ds.length ≤ 1000000) : EvJ prog w h0 c σ μ (.List elts pos) (.lst ds) := fun s P =>
  wpAny_List_spliced (wm (h pos s P) fun vs s₁ y => ⟨len_line hz y.2, kp_trans y.1 kp_push', rep_new_list hz (P.keeps y.1).offSize y.2⟩)
theorem Ev.dtuple {elts : List Expr} {k : Nat} {pos : Pos} {ds : List D} (h : AJ prog w h0 c σ μ elts ds) (hz : ds.length ≤ 1000000) : EvJ prog w h0 c σ μ (.Tuple elts k pos) (.tup ds) := fun s P =>
  wpAny_Tuple_spliced (wm (h pos s P) fun vs s₁ y => ⟨len_line hz y.2, kp_trans y.1 kp_push', rep_new_tuple hz (P.keeps y.1).offSize y.2⟩)
/-- a name of the top -/
def GlJ (prog : Program) (w : World) (h0 : Heap) (c : Cx) (σ : St) (μ : Mu) (x : Str) (v : Value) : Prop :=
  ∀ pos s, PSt h0 c σ μ s → ∀ Q : Value → Shared → Prop, Q v s → wpAny (model prog w) c.A (eval (.Name x pos) c.env) Q NoE s
theorem Gl.glob {mg mb} (G : Gd prog w h0 mg mb) {x : Str} {v : Value} (hk : c.env.kindOf x = some .globalImplicit) (hm : mg x = some v) (hd : (x == ("__debug__" : Str)) = false) :
    GlJ prog w h0 c σ μ x v := fun pos s P Q q =>
  Name_function_global P.ok.kind hk (loadGlobal_global (by rw [P.ok.globals]; exact G.g.keeps P.base) hm q) hd
theorem Gl.buil {mg mb} (G : Gd prog w h0 mg mb) {x : Str} {v : Value} (hk : c.env.kindOf x = some .globalImplicit) (hm : mg x = none) (hb : mb x = some v) (hd : (x == ("__debug__" : Str)) = false) :
    GlJ prog w h0 c σ μ x v := fun pos s P Q q =>
  Name_function_global P.ok.kind hk (loadGlobal_builtin (by rw [P.ok.globals]; exact G.g.keeps P.base) hm (by rw [P.ok.builtins]; exact G.b.keeps P.base) hb q) hd
theorem callWith_val {M : Model} {A : Around} {E : Value → Shared → Prop} {s : Shared} {pos : Pos} {f : Value} {first : List Value} {args : List (Bool × Sem Value)} {Q : Value → Shared → Prop}
    (hf : (∃ id, f = .builtin id) ∨ ∃ T, f = .type T) (hplain : args.any (·.1) = false)
    (h : wpAny M A (evalArgs f true args []) (fun a s₁ => wpAny M A (call f (first ++ a.pos) a.kw) Q E s₁) E s) :
    wpAny M A (callWith pos f first args []) Q E s := by
  rcases hf with ⟨id, rfl⟩ | ⟨T, rfl⟩
  · exact callWith_builtin hplain h
  · exact PyProof.Rows.callWith_type hplain h
theorem evalArgs_gen {M : Model} {A : Around} {E : Value → Shared → Prop} {s : Shared} {f : Value} {args : List (Bool × Sem Value)} {Q : Args → Shared → Prop} (hl : args.any (·.1) = false)
    (h : wpAny M A (spliced args) (fun vs s' => Q ⟨vs, []⟩ s') E s) : wpAny M A (evalArgs f true args []) Q E s := by
  match args, hl with
  | [], _ =>
    unfold evalArgs
    show wpAny M A (spliced [] >>= _) Q E s
    refine wpAny_bind (wpAny_mono h (fun vs s' h' => wpAny_bind (wpAny_pure ?_)) fun _ _ x => x)
    exact wpAny_holding (wpAny_bind (wpAny_pure (wpAny_bind (wpAny_pure (wpAny_pure h')))))
  | (false, x) :: rest, _ => exact evalArgs_plain h
theorem Ev.callB {x : Str} {args : List Expr} {p pos : Pos} {f : Value} {ds : List D} {d : D} (hg : GlJ prog w h0 c σ μ x f) (hf : (∃ id, f = .builtin id) ∨ ∃ T, f = .type T)
    (ha : AJ prog w h0 c σ μ args ds) (hc : CaJ prog w h0 c σ μ f ds d) (hl : (backTo pos (starEach args c.env)).any (·.1) = false := by rfl) :
    EvJ prog w h0 c σ μ (.Call (.Name x p) args [] pos) d := fun s P =>
  wpAny_Call_NameR (hg p s P _ (callWith_val hf hl (evalArgs_gen hl (wm (ha pos s P) fun vs s₁ y => wm (hc s₁ vs (P.keeps y.1) y.2) fun v s₂ z => ⟨kp_trans y.1 z.1, z.2⟩))))
/-- a def of the top; its first argument is plain -/
theorem Ev.callF {x : Str} {e : Expr} {rest : List Expr} {p pos : Pos} {a : Addr} {o : Obj} {fd : FuncData} {ds : List D} {d : D} (hg : GlJ prog w h0 c σ μ x (.ref a)) (ho : h0.get? a = some o) (hd : o.data = .func fd)
    (ha : AJ prog w h0 c σ μ (e :: rest) ds) (hc : CaJ prog w h0 c σ μ (.ref a) ds d) (he : starEach (e :: rest) c.env = (false, eval e c.env) :: starEach rest c.env := by rfl) :
    EvJ prog w h0 c σ μ (.Call (.Name x p) (e :: rest) [] pos) d := fun s P => by
  refine wpAny_Call_NameR (hg p s P _ (callWith_function (o := o) (fd := fd) ?_))
  have h := ha pos s P
  rw [he] at h ⊢
  exact evalArgs_plain (wm h fun vs s₁ y => ⟨⟨(P.keeps y.1).base _ _ ho, hd⟩, wm (hc s₁ vs (P.keeps y.1) y.2) fun v s₂ z => ⟨kp_trans y.1 z.1, z.2⟩⟩)
theorem Ev.callS {x : Str} {e : Expr} {p p' pos : Pos} {a : Addr} {o : Obj} {fd : FuncData} {ds : List D} {d : D} (hg : GlJ prog w h0 c σ μ x (.ref a)) (ho : h0.get? a = some o) (hd : o.data = .func fd)
    (ha : EvJ prog w h0 c σ μ e (.lst ds)) (hc : CaJ prog w h0 c σ μ (.ref a) ds d) :
    EvJ prog w h0 c σ μ (.Call (.Name x p) [.Starred e p'] [] pos) d := fun s P => by
  refine wpAny_Call_NameR (hg p s P _ (callWith_function (o := o) (fd := fd) ?_))
  show wpAny _ _ (evalArgs _ true [(true, (do let v ← eval e c.env; standAt pos; pure v))] []) _ _ _
  exact ks_lone (ha.run P fun v s₁ k₁ P₁ r => star_lst r fun s₂ vs k₂ rr => ⟨⟨(P₁.keeps k₂).base _ _ ho, hd⟩, wm (hc s₂ vs (P₁.keeps k₂) rr) fun v s₂ z => ⟨kp_trans k₁ (kp_trans k₂ z.1), z.2⟩⟩)
end
end Mine
end
section
open PySem PySem.Calls PySem.W PyProof.Rows
namespace Mine
theorem ofString_inj {a b : String} (h : Str.ofString a = Str.ofString b) : a = b := by
  rw [Str.ofString_eq_toList, Str.ofString_eq_toList] at h
  have h1 : a.toList.map Char.toNat = b.toList.map Char.toNat := by
    have := congrArg (fun s : Str => s.cps.toList) h
    simpa using this
  have h2 : a.toList = b.toList := by
    have inj : ∀ {l l' : List Char}, l.map Char.toNat = l'.map Char.toNat → l = l' := by
      intro l
      induction l with
      | nil => intro l' e; cases l' with | nil => rfl | cons => simp at e
      | cons x l ih =>
        intro l' e
        cases l' with
        | nil => simp at e
        | cons y l' =>
          simp only [List.map_cons, List.cons.injEq] at e
          rw [ih e.2, Char.toNat_inj.mp e.1]
    exact inj h1
  exact String.toList_inj.mp h2
def upd : St → String → D → St
  | [], x, d => [(x, d)]
  | (y, e) :: r, x, d => if x == y then (y, d) :: r else (y, e) :: upd r x d
theorem lookup_upd : ∀ (σ : St) (x : String) (d : D) (y : String), (upd σ x d).lookup y = if y = x then some d else σ.lookup y
  | [], x, d, y => by
    unfold upd
    by_cases h : y = x
    · subst h; simp
    · simp [h, List.lookup, beq_false_of_ne h]
  | (z, e) :: r, x, d, y => by
    unfold upd
    by_cases hz : x = z
    · subst hz
      simp only [beq_self_eq_true, if_true]
      by_cases h : y = x
      · subst h; simp
      · simp [h, List.lookup_cons, beq_false_of_ne h]
    · rw [if_neg (by simp [hz])]
      rw [List.lookup_cons, List.lookup_cons, lookup_upd r x d y]
      by_cases h : y = x
      · subst h
        simp [beq_false_of_ne hz]
      · simp only [if_neg h]
theorem ns_fun {h : Heap} {a : Addr} {m m' : Str → Option Value} (x : h.Ns a m) (y : h.Ns a m') : m = m' := by
  obtain ⟨o, es, ep, h1, h2, _, h3⟩ := x
  obtain ⟨o', es', ep', h1', h2', _, h3'⟩ := y
  rw [h1] at h1'; cases h1'
  rw [h2] at h2'; cases h2'
  funext n; rw [← h3, ← h3']
structure SSt (h0 : Heap) (c : Cx) (σ : St) (μ : Mu) (s : Shared) : Prop where
  p : PSt h0 c σ μ s
  base0 : ∀ b o, h0.get? b = some o → c.s₀.heap.get? b = some o
  frame : ∃ m cm, InCallC c.s₀ c.env.locals m c.env.cells cm s
  avL : c.av c.env.locals
  avC : ∀ x cc, c.env.cells.lookup x = some cc → c.av cc
  cells : ∀ x, c.env.kindOf x = some .cell → ∃ cc, c.env.cells.lookup x = some cc
  fresh : ∀ p ∈ μ, c.s₀.heap.get? p.1 = none
  nodup : (μ.map Prod.fst).Nodup
  notin : ∀ p ∈ μ, ¬ c.av p.1
theorem inCallC_keeps {s₀ s s' : Shared} {L : Addr} {m : Str → Option Value} {cs : List (Str × Addr)} {cm : Str → Option Value} (X : InCallC s₀ L m cs cm s) (k : Keeps s s') : InCallC s₀ L m cs cm s' := by
  obtain ⟨h, tk, rfl, hk⟩ := k
  refine ⟨⟨?_, X.toInCall.ns.keeps hk, fun b o e => hk b o (X.toInCall.keep b o e), X.toInCall.fresh⟩, fun n cc hc => (X.cell n cc hc).keeps hk, X.apart, X.above⟩
  obtain ⟨h₁, tk₁, rfl⟩ := X.toInCall.same
  exact ⟨h, tk, rfl⟩
theorem SSt.keeps {h0 : Heap} {c : Cx} {σ : St} {μ : Mu} {s s' : Shared} (S : SSt h0 c σ μ s) (k : Keeps s s') : SSt h0 c σ μ s' :=
  ⟨S.p.keeps k, S.base0, let ⟨m, cm, X⟩ := S.frame; ⟨m, cm, inCallC_keeps X k⟩, S.avL, S.avC, S.cells, S.fresh, S.nodup, S.notin⟩
/-- the frame's own objects stand at av's addresses: what stands for data is not touched -/
theorem rep_same {h h' : Heap} {av : Av} {a : Addr} (hs : Heap.SameBut a h h') (ha : av a) : (∀ {d v}, Rep h av d v → Rep h' av d v) ∧ (∀ {d v}, RepL h av d v → RepL h' av d v) :=
  ⟨fun r => r.mono (fun b o n e => by rw [hs.2 b (fun q => n (q ▸ ha)), e]) fun _ y => .inl y, fun r => r.mono (fun b o n e => by rw [hs.2 b (fun q => n (q ▸ ha)), e]) fun _ y => .inl y⟩
theorem same_shared {s₀ s : Shared} {h' : Heap} {tk : Nat} (e : ∃ h t, s = { s₀ with heap := h, toks := t }) : ∃ h t, ({ s with heap := h', toks := tk } : Shared) = { s₀ with heap := h, toks := t } := by
  obtain ⟨h, t, rfl⟩ := e; exact ⟨h', tk, rfl⟩
/-- what is not the frame's own is kept -/
structure Pres (c : Cx) (μ : Mu) (s : Shared) (μ' : Mu) (s' : Shared) : Prop where
  keep : ∀ b o, ¬ avs c.av μ b → s.heap.get? b = some o → s'.heap.get? b = some o
  new : ∀ p ∈ μ', (∃ q ∈ μ, q.1 = p.1) ∨ s.heap.get? p.1 = none
  ex : ∀ b o, s.heap.get? b = some o → ∃ o', s'.heap.get? b = some o'
theorem Pres.keeps {c : Cx} {μ : Mu} {s s' : Shared} (k : Keeps s s') : Pres c μ s μ s' := ⟨fun b o _ e => kp k b o e, fun p hp => .inl ⟨p, hp, rfl⟩, fun b o e => ⟨o, kp k b o e⟩⟩
theorem Pres.trans {c : Cx} {μ μ' μ'' : Mu} {s s' s'' : Shared} (a : Pres c μ s μ' s') (b : Pres c μ' s' μ'' s'') : Pres c μ s μ'' s'' := by
  refine ⟨fun x o n e => b.keep x o (fun q => ?_) (a.keep x o n e), fun p hp => ?_, fun x o e => let ⟨o', e'⟩ := a.ex x o e; b.ex x o' e'⟩
  · rcases q with q | ⟨p, hp, rfl⟩
    · exact n (.inl q)
    · rcases a.new p hp with ⟨q, hq, e'⟩ | e'
      · exact n (.inr ⟨q, hq, e'⟩)
      · rw [e'] at e; cases e
  · rcases b.new p hp with ⟨q, hq, e⟩ | e
    · rcases a.new q hq with ⟨r, hr, e'⟩ | e'
      · exact .inl ⟨r, hr, e'.trans e⟩
      · exact .inr (e ▸ e')
    · cases z : s.heap.get? p.1 with
      | none => exact .inr rfl
      | some o => obtain ⟨o', z'⟩ := a.ex _ o z; rw [e] at z'; cases z'
theorem Pres.same {c : Cx} {μ : Mu} {s : Shared} {h' : Heap} {tk : Nat} {a : Addr} (hs : Heap.SameBut a s.heap h') (ha : avs c.av μ a) (ex : ∃ o, h'.get? a = some o) : Pres c μ s μ { s with heap := h', toks := tk } :=
  ⟨fun b o n e => by show h'.get? b = _; rw [hs.2 b (fun q => n (q ▸ ha)), e], fun p hp => .inl ⟨p, hp, rfl⟩, fun b o e => by
    by_cases q : b = a
    · subst q; exact ex
    · exact ⟨o, by show h'.get? b = _; rw [hs.2 b q, e]⟩⟩
section
variable {prog : Program} {w : World} {h0 : Heap} {c : Cx} {σ : St} {μ : Mu}
theorem store_ {x : String} {d : D} {v : Value} {s : Shared} {Q : Unit → Shared → Prop} (S : SSt h0 c σ μ s) (r : Rep s.heap (avs c.av μ) d v)
    (hk : c.env.kindOf (Str.ofString x) = some .local ∨ c.env.kindOf (Str.ofString x) = some .cell) (hx : (Str.ofString x == ("__debug__" : Str)) = false)
    (h : ∀ s', SSt h0 c (upd σ x d) μ s' → Pres c μ s μ s' → Q () s') : wpAny (model prog w) c.A (storeName c.env (Str.ofString x) v) Q NoE s := by
  obtain ⟨m, cm, X⟩ := S.frame
  have avs_of : ∀ a, c.av a → avs c.av μ a := fun a h => .inl h
  rcases hk with hl | hl
  · refine wpAny_storeName_local hl X.toInCall.ns (fun h' hn' hs' => h _ ?_ (Pres.same hs' (avs_of _ S.avL) (let ⟨o, _, _, e, _⟩ := hn'; ⟨o, e⟩))) (by rw [S.p.ok.kind]; rfl)
    have R := rep_same hs' (avs_of _ S.avL)
    have hIC : InCallC c.s₀ c.env.locals (fun y => if y = Str.ofString x then some v else m y) c.env.cells cm { s with heap := h', toks := s.toks + 1 } :=
      ⟨⟨same_shared X.toInCall.same, hn', fun b o e => hs'.extBut b o (Nat.ne_of_lt (Nat.lt_of_lt_of_le (Heap.lt_size e) X.toInCall.fresh)) (X.toInCall.keep b o e), X.toInCall.fresh⟩,
        fun k cc hc => (X.cell k cc hc).sameBut hs' (Nat.ne_of_gt (X.above k cc (mem_of_lookup hc))), X.apart, X.above⟩
    refine ⟨⟨S.p.ok, fun b o e => hIC.toInCall.keep b o (S.base0 b o e), fun y e hy => ?_, fun p hp => ?_, fun b hb => ?_, S.p.tab.but hs' (S.p.tab.neNs X.toInCall.ns)⟩, S.base0, ⟨_, cm, hIC⟩, S.avL, S.avC, S.cells, S.fresh, S.nodup, S.notin⟩
    · rw [lookup_upd] at hy
      by_cases hyx : y = x
      · subst hyx
        rw [if_pos rfl] at hy; cases hy
        exact ⟨hx, v, .inl ⟨hl, _, hn', by simp⟩, R.1 r⟩
      · rw [if_neg hyx] at hy
        obtain ⟨hd, v', b, r'⟩ := S.p.vars y e hy
        refine ⟨hd, v', ?_, R.1 r'⟩
        rcases b with ⟨kl, m', hn, hm⟩ | ⟨kc, cc, hc, hcell⟩
        · rw [ns_fun hn X.toInCall.ns] at hm
          exact .inl ⟨kl, _, hn', by show (if Str.ofString y = Str.ofString x then some v else m (Str.ofString y)) = _; rw [if_neg (fun q => hyx (ofString_inj q))]; exact hm⟩
        · exact .inr ⟨kc, cc, hc, hcell.sameBut hs' (Nat.ne_of_gt (X.above _ cc (mem_of_lookup hc)))⟩
    · obtain ⟨z, vs, ⟨n, hp'⟩, rr⟩ := S.p.own p hp
      exact ⟨z, vs, ⟨n, by show h'.get? p.1 = _; rw [hs'.2 p.1 (fun q => S.notin p hp (q ▸ S.avL))]; exact hp'⟩, R.2 rr⟩
    · obtain ⟨o, e⟩ := S.p.live b hb
      by_cases hbL : b = c.env.locals
      · subst hbL
        obtain ⟨o', es, ep, e', _⟩ := hn'
        exact ⟨o', e'⟩
      · exact ⟨o, by show h'.get? b = _; rw [hs'.2 b hbL]; exact e⟩
  · obtain ⟨cc, hc⟩ := S.cells _ hl
    have hLc := X.above _ cc (mem_of_lookup hc)
    refine wpAny_storeName_cell S.p.ok.kind hl hc (X.cell _ cc hc) fun h' hc' hs' => h _ ?_ (Pres.same hs' (avs_of _ (S.avC _ cc hc)) (let ⟨o, e, _⟩ := hc'; ⟨o, e⟩))
    have hac : c.av cc := S.avC _ cc hc
    have R := rep_same hs' (avs_of _ hac)
    have hIC : InCallC c.s₀ c.env.locals m c.env.cells (fun y => if y = Str.ofString x then some v else cm y) { s with heap := h' } := by
      refine ⟨⟨?_, X.toInCall.ns.sameBut hs' (Nat.ne_of_lt hLc), fun b o e => hs'.extBut b o (Nat.ne_of_lt (Nat.lt_trans (Nat.lt_of_lt_of_le (Heap.lt_size e) X.toInCall.fresh) hLc)) (X.toInCall.keep b o e), X.toInCall.fresh⟩, fun k c' hk' => ?_, X.apart, X.above⟩
      · obtain ⟨h₁, tk, rfl⟩ := X.toInCall.same
        exact ⟨h', _, rfl⟩
      · by_cases hkn : k = Str.ofString x
        · subst hkn
          rw [hc] at hk'; cases hk'
          simpa using hc'
        · rw [if_neg hkn]
          exact (X.cell k c' hk').sameBut hs' fun e => hkn (name_of_addr X.apart (mem_of_lookup hk') (e ▸ mem_of_lookup hc))
    refine ⟨⟨S.p.ok, fun b o e => hIC.toInCall.keep b o (S.base0 b o e), fun y e hy => ?_, fun p hp => ?_, fun b hb => ?_, S.p.tab.but hs' (S.p.tab.neCell (X.cell _ cc hc))⟩, S.base0, ⟨_, _, hIC⟩, S.avL, S.avC, S.cells, S.fresh, S.nodup, S.notin⟩
    · rw [lookup_upd] at hy
      by_cases hyx : y = x
      · subst hyx
        rw [if_pos rfl] at hy; cases hy
        exact ⟨hx, v, .inr ⟨hl, cc, hc, hc'⟩, R.1 r⟩
      · rw [if_neg hyx] at hy
        obtain ⟨hd, v', b, r'⟩ := S.p.vars y e hy
        refine ⟨hd, v', ?_, R.1 r'⟩
        rcases b with ⟨kl, m', hn, hm⟩ | ⟨kc, c₂, hc₂, hcell⟩
        · exact .inl ⟨kl, m', hn.sameBut hs' (Nat.ne_of_lt hLc), hm⟩
        · exact .inr ⟨kc, c₂, hc₂, hcell.sameBut hs' fun q => hyx (ofString_inj (name_of_addr X.apart (mem_of_lookup hc₂) (q ▸ mem_of_lookup hc)))⟩
    · obtain ⟨z, vs, ⟨n, hp'⟩, rr⟩ := S.p.own p hp
      exact ⟨z, vs, ⟨n, by show h'.get? p.1 = _; rw [hs'.2 p.1 (fun q => S.notin p hp (q ▸ hac))]; exact hp'⟩, R.2 rr⟩
    · obtain ⟨o, e⟩ := S.p.live b hb
      by_cases hbL : b = cc
      · subst hbL
        obtain ⟨o', e', _⟩ := hc'
        exact ⟨o', e'⟩
      · exact ⟨o, by show h'.get? b = _; rw [hs'.2 b hbL]; exact e⟩
end
inductive AF where
  | next (σ : St) (μ : Mu)
  | brk (σ : St) (μ : Mu)
  | cont (σ : St) (μ : Mu)
  | ret (d : D) (μ : Mu)
def Fl (h0 : Heap) (c : Cx) : AF → Flow → Shared → Prop
  | .next σ μ, fl, s => fl = .next ∧ SSt h0 c σ μ s
  | .brk σ μ, fl, s => fl = .brk ∧ SSt h0 c σ μ s
  | .cont σ μ, fl, s => fl = .cont ∧ SSt h0 c σ μ s
  | .ret d μ, fl, s => ∃ v, fl = .ret v ∧ SSt h0 c [] μ s ∧ Rep s.heap (avs c.av μ) d v
def AF.mu : AF → Mu
  | .next _ μ => μ
  | .brk _ μ => μ
  | .cont _ μ => μ
  | .ret _ μ => μ
def Post (h0 : Heap) (c : Cx) (μ : Mu) (s : Shared) (Φ : AF → Prop) (fl : Flow) (s' : Shared) : Prop := ∃ af, Φ af ∧ Fl h0 c af fl s' ∧ Pres c μ s af.mu s'
def XJ (prog : Program) (w : World) (h0 : Heap) (c : Cx) (σ : St) (μ : Mu) (ss : List Stmt) (Φ : AF → Prop) : Prop :=
  ∀ s, SSt h0 c σ μ s → wpAny (model prog w) c.A (execs ss c.env) (Post h0 c μ s Φ) NoE s
def X1 (prog : Program) (w : World) (h0 : Heap) (c : Cx) (σ : St) (μ : Mu) (st : Stmt) (Φ : AF → Prop) : Prop :=
  ∀ s, SSt h0 c σ μ s → wpAny (model prog w) c.A (exec st c.env) (Post h0 c μ s Φ) NoE s
/-- fewer names -/
def Sub (σ σ' : St) : Prop := ∀ x d, σ'.lookup x = some d → σ.lookup x = some d
theorem SSt.sub {h0 : Heap} {c : Cx} {σ σ' : St} {μ : Mu} {s : Shared} (S : SSt h0 c σ μ s) (h : Sub σ σ') : SSt h0 c σ' μ s :=
  ⟨⟨S.p.ok, S.p.base, fun x d e => S.p.vars x d (h x d e), S.p.own, S.p.live, S.p.tab⟩, S.base0, S.frame, S.avL, S.avC, S.cells, S.fresh, S.nodup, S.notin⟩
section
variable {prog : Program} {w : World} {h0 : Heap} {c : Cx} {σ : St} {μ : Mu} {Φ : AF → Prop}
def Then (prog : Program) (w : World) (h0 : Heap) (c : Cx) (rest : List Stmt) (Φ : AF → Prop) : AF → Prop
  | .next σ μ => XJ prog w h0 c σ μ rest Φ
  | a => Φ a
theorem Post.mono {s s' : Shared} {fl : Flow} {Φ' : AF → Prop} (k : ∀ a, Φ a → Φ' a) (x : Post h0 c μ s Φ fl s') : Post h0 c μ s Φ' fl s' := let ⟨af, a, b⟩ := x; ⟨af, k _ a, b⟩
theorem Post.after {s s₁ s' : Shared} {fl : Flow} {μ₁ : Mu} (a : Pres c μ s μ₁ s₁) (x : Post h0 c μ₁ s₁ Φ fl s') : Post h0 c μ s Φ fl s' := let ⟨af, p, f, b⟩ := x; ⟨af, p, f, a.trans b⟩
theorem XJ.mono {ss : List Stmt} {Φ' : AF → Prop} (h : XJ prog w h0 c σ μ ss Φ) (k : ∀ a, Φ a → Φ' a) : XJ prog w h0 c σ μ ss Φ' := fun s S => wm (h s S) fun fl s' x => x.mono k
theorem X1.mono {st : Stmt} {Φ' : AF → Prop} (h : X1 prog w h0 c σ μ st Φ) (k : ∀ a, Φ a → Φ' a) : X1 prog w h0 c σ μ st Φ' := fun s S => wm (h s S) fun fl s' x => x.mono k
theorem X.sub {ss : List Stmt} {σ' : St} (h : XJ prog w h0 c σ' μ ss Φ) (k : Sub σ σ') : XJ prog w h0 c σ μ ss Φ := fun s S => h s (S.sub k)
theorem X.nil (h : Φ (.next σ μ)) : XJ prog w h0 c σ μ [] Φ := fun s S => wpAny_execs_nil ⟨_, h, ⟨rfl, S⟩, Pres.keeps kp_rfl⟩
theorem X.cons {st : Stmt} {rest : List Stmt} (h : X1 prog w h0 c σ μ st (Then prog w h0 c rest Φ)) : XJ prog w h0 c σ μ (st :: rest) Φ := fun s S => by
  refine wpAny_execs_cons (wm (h s S) fun fl s' x => ?_)
  obtain ⟨af, a, b, pr⟩ := x
  cases af with
  | next σ' μ' => obtain ⟨rfl, S'⟩ := b; exact wm (a s' S') fun fl s'' x => x.after pr
  | brk σ' μ' => obtain ⟨rfl, S'⟩ := b; exact ⟨_, a, ⟨rfl, S'⟩, pr⟩
  | cont σ' μ' => obtain ⟨rfl, S'⟩ := b; exact ⟨_, a, ⟨rfl, S'⟩, pr⟩
  | ret d μ' => obtain ⟨v, rfl, S'⟩ := b; exact ⟨_, a, ⟨v, rfl, S'⟩, pr⟩
theorem X1.ret {e : Expr} {pos : Pos} {d : D} (h : EvJ prog w h0 c σ μ e d) (k : Φ (.ret d μ)) : X1 prog w h0 c σ μ (.Return (some e) pos) Φ := fun s S =>
  wpAny_Return_some (wm (h s S.p) fun v s' x => ⟨_, k, ⟨v, rfl, (S.keeps x.1).sub (fun _ _ e => by simp at e), x.2⟩, Pres.keeps x.1⟩)
theorem X1.assign {x : String} {e : Expr} {pos' pos : Pos} {d : D} (h : EvJ prog w h0 c σ μ e d) (hk : c.env.kindOf (Str.ofString x) = some .local ∨ c.env.kindOf (Str.ofString x) = some .cell)
    (k : Φ (.next (upd σ x d) μ)) (hx : (Str.ofString x == ("__debug__" : Str)) = false := by decide) (hs : swapsWith e (some (.Name (Str.ofString x) pos')) pos.line c.env = pure false := by rfl) :
    X1 prog w h0 c σ μ (.Assign [.Name (Str.ofString x) pos'] e pos) Φ := fun s S =>
  wpAny_Assign_Name (wm (h s S.p) fun v s' y => store_ (S.keeps y.1) y.2 hk hx fun s'' S' pr => ⟨_, k, ⟨rfl, S'⟩, (Pres.keeps y.1).trans pr⟩) hs
theorem X1.if {t : Expr} {a b : List Stmt} {pos : Pos} {q : Bool} (h : TsJ prog w h0 c σ μ t q) (ha : q = true → XJ prog w h0 c σ μ a Φ) (hb : q = false → XJ prog w h0 c σ μ b Φ) :
    X1 prog w h0 c σ μ (.If t a b pos) Φ := fun s S =>
  wpAny_If (h.run S.p fun s' k _ => by
    cases q with
    | true => exact wm (ha rfl s' (S.keeps k)) fun fl s'' x => x.after (Pres.keeps k)
    | false => exact wm (hb rfl s' (S.keeps k)) fun fl s'' x => x.after (Pres.keeps k))
theorem X1.assert {t : Expr} {m : Option Expr} {pos : Pos} (h : TsJ prog w h0 c σ μ t true) (k : Φ (.next σ μ)) : X1 prog w h0 c σ μ (.Assert t m pos) Φ := fun s S =>
  wpAny_Assert_holds (h.run S.p fun s' kk _ => ⟨rfl, _, k, ⟨rfl, S.keeps kk⟩, Pres.keeps kk⟩)
theorem X1.cont {pos : Pos} (k : Φ (.cont σ μ)) : X1 prog w h0 c σ μ (.Continue pos) Φ := fun s S => wpAny_Continue ⟨_, k, ⟨rfl, S⟩, Pres.keeps kp_rfl⟩
theorem X1.brk {pos : Pos} (k : Φ (.brk σ μ)) : X1 prog w h0 c σ μ (.Break pos) Φ := fun s S => wpAny_Break ⟨_, k, ⟨rfl, S⟩, Pres.keeps kp_rfl⟩
def InpJ (prog : Program) (w : World) (h0 : Heap) (c : Cx) (σ : St) (μ : Mu) (op : Operator) (x y d : D) : Prop :=
  ∀ s a b, PSt h0 c σ μ s → Rep s.heap (avs c.av μ) x a → Rep s.heap (avs c.av μ) y b →
    wpAny (model prog w) c.A (inplaceOp op a b) (fun v s' => Keeps s s' ∧ Rep s'.heap (avs c.av μ) d v) NoE s
theorem loadName_ {x : String} {d : D} {s : Shared} (P : PSt h0 c σ μ s) (hd : σ.lookup x = some d) {Q : Value → Shared → Prop} (h : ∀ v, Rep s.heap (avs c.av μ) d v → Q v s) :
    wpAny (model prog w) c.A (loadName c.env (Str.ofString x)) Q NoE s := by
  obtain ⟨hb, v, b, r⟩ := P.vars x d hd
  rcases b with ⟨a, m, n, e⟩ | ⟨a, cc, n, e⟩
  · exact wpAny_loadName_local P.ok.kind a n e (h v r)
  · exact wpAny_loadName_cell P.ok.kind a n e (h v r)
theorem X1.aug {x : String} {e : Expr} {op : Operator} {pos' pos : Pos} {d₀ d₁ d : D} (hd : σ.lookup x = some d₀) (h : EvJ prog w h0 c σ μ e d₁) (ho : InpJ prog w h0 c σ μ op d₀ d₁ d)
    (hk : c.env.kindOf (Str.ofString x) = some .local ∨ c.env.kindOf (Str.ofString x) = some .cell) (k : Φ (.next (upd σ x d) μ)) : X1 prog w h0 c σ μ (.AugAssign (.Name (Str.ofString x) pos') op e pos) Φ := fun s S =>
  wpAny_AugAssign_Name (loadName_ S.p hd fun v r => h.run S.p fun v' s₁ k₁ P₁ r₁ => wm (ho s₁ v v' P₁ (r.keeps (kp k₁)) r₁) fun v'' s₂ y =>
    store_ (S.keeps (kp_trans k₁ y.1)) y.2 hk (S.p.vars x d₀ hd).1 fun s'' S' pr => ⟨_, k, ⟨rfl, S'⟩, (Pres.keeps (kp_trans k₁ y.1)).trans pr⟩)
theorem X1.try {body : List Stmt} {hd : ExceptHandler} {hs : List ExceptHandler} {pos : Pos} (h : XJ prog w h0 c σ μ body Φ) : X1 prog w h0 c σ μ (.Try body (hd :: hs) [] [] pos) Φ := fun s S =>
  wpAny_Try_except (wpAny_mono (h s S) (fun fl s' x => by
    cases fl with
    | next => exact wpAny_execs_nil x
    | _ => exact x) fun _ _ x => x.elim)
end
end Mine
end
section
open PySem PySem.Calls PySem.W PyProof.Rows
namespace Mine
structure OkA (A : Around) (k : Nat) : Prop where
  handled : A.handled = none
  depth : A.depth + k ≤ recursionLimit
  units : A.units + 40 * k ≤ cLine
/-- a def's contract: called in any state with values for the data, it comes to a value for the datum; the heap only grows -/
def FnJ (prog : Program) (w : World) (h0 : Heap) (k : Nat) (a : Addr) (ds : List D) (d : D) : Prop :=
  ∀ (A : Around) (av : Av) (s : Shared) (vs : List Value), OkA A k → (∀ b o, h0.get? b = some o → s.heap.get? b = some o) → (∀ b, av b → ∃ o, s.heap.get? b = some o) → av P0 → TabOk s.heap → RepL s.heap av ds vs →
    wpAny (model prog w) A (call (.ref a) vs) (fun v s' => Keeps s s' ∧ Rep s'.heap av d v) NoE s
theorem FnJ.ca {prog : Program} {w : World} {h0 : Heap} {c : Cx} {σ : St} {μ : Mu} {k : Nat} {a : Addr} {ds : List D} {d : D} (h : FnJ prog w h0 k a ds d) (hk : k ≤ c.k) : CaJ prog w h0 c σ μ (.ref a) ds d :=
  fun s vs P r => h c.A _ s vs ⟨P.ok.handled, by have := P.ok.depth; omega, by have := P.ok.units; omega⟩ P.base P.live (.inl P.ok.avP) P.tab r
mutual
inductive Fz (μ : Mu) : D → D → Prop
  | refl (d : D) : Fz μ d d
  | mut {a : Addr} {ds ds' : List D} : (a, ds) ∈ μ → FzL μ ds ds' → Fz μ (.mut a) (.lst ds')
inductive FzL (μ : Mu) : List D → List D → Prop
  | nil : FzL μ [] []
  | cons {d d' : D} {l l' : List D} : Fz μ d d' → FzL μ l l' → FzL μ (d :: l) (d' :: l')
end
theorem FzL.refl (μ : Mu) : ∀ l, FzL μ l l
  | [] => .nil
  | d :: l => .cons (.refl d) (FzL.refl μ l)
theorem FzL.len {μ : Mu} : ∀ {l l'}, FzL μ l l' → l.length = l'.length
  | _, _, .nil => rfl
  | _, _, .cons _ t => by simp [FzL.len t]
mutual
theorem Fz.rep {h : Heap} {av cav : Av} {μ : Mu} (own : ∀ p ∈ μ, p.2.length ≤ 1000000 ∧ ∃ vs, h.PlainList p.1 vs ∧ RepL h cav p.2 vs.toList) (sub : ∀ b, av b → cav b) (off : ∀ p ∈ μ, ¬ av p.1) :
    ∀ {d d' : D} {v : Value}, Fz μ d d' → Rep h cav d v → Rep h av d' v
  | d, _, v, .refl _, r => r.mono (fun _ _ _ e => e) fun b y => .inl (sub b y)
  | _, _, v, .mut hm hl, r => by
    rw [Rep] at r
    subst r
    obtain ⟨z, vs, hp, rr⟩ := own _ hm
    rw [Rep]
    exact ⟨hl.len ▸ z, _, vs, rfl, off _ hm, hp, FzL.rep own sub off hl rr⟩
theorem FzL.rep {h : Heap} {av cav : Av} {μ : Mu} (own : ∀ p ∈ μ, p.2.length ≤ 1000000 ∧ ∃ vs, h.PlainList p.1 vs ∧ RepL h cav p.2 vs.toList) (sub : ∀ b, av b → cav b) (off : ∀ p ∈ μ, ¬ av p.1) :
    ∀ {d d' : List D} {v : List Value}, FzL μ d d' → RepL h cav d v → RepL h av d' v
  | _, _, v, .nil, r => by rw [RepL] at r ⊢; exact r
  | _, _, v, .cons a b, r => by
    rw [RepL] at r ⊢
    obtain ⟨x, xs, e, p, q⟩ := r
    exact ⟨x, xs, e, Fz.rep own sub off a p, FzL.rep own sub off b q⟩
end
theorem bindL_not {kO : Str → Option NameKind} : ∀ {binds : List (Str × Value)} {m : Str → Option Value} {n : Str}, n ∉ binds.map (·.1) → bindL kO binds m n = m n
  | [], _, _, _ => rfl
  | (x, v) :: r, m, n, h => by
    simp only [List.map_cons, List.mem_cons, not_or] at h
    unfold bindL
    rw [bindL_not h.2]
    split
    · exact if_neg h.1
    · rfl
theorem bindC_not {kO : Str → Option NameKind} : ∀ {binds : List (Str × Value)} {m : Str → Option Value} {n : Str}, n ∉ binds.map (·.1) → bindC kO binds m n = m n
  | [], _, _, _ => rfl
  | (x, v) :: r, m, n, h => by
    simp only [List.map_cons, List.mem_cons, not_or] at h
    unfold bindC
    rw [bindC_not h.2]
    split
    · rfl
    · exact if_neg h.1
theorem bindL_get {kO : Str → Option NameKind} : ∀ {binds : List (Str × Value)} {m : Str → Option Value} {n : Str} {v : Value}, (n, v) ∈ binds → (binds.map (·.1)).Nodup → kO n = some .local → bindL kO binds m n = some v
  | (x, u) :: r, m, n, v, hm, hn, hk => by
    simp only [List.map_cons, List.nodup_cons] at hn
    unfold bindL
    rcases List.mem_cons.mp hm with e | e
    · cases e
      rw [bindL_not hn.1, if_pos hk, if_pos rfl]
    · exact bindL_get e hn.2 hk
theorem bindC_get {kO : Str → Option NameKind} : ∀ {binds : List (Str × Value)} {m : Str → Option Value} {n : Str} {v : Value}, (n, v) ∈ binds → (binds.map (·.1)).Nodup → kO n ≠ some .local → bindC kO binds m n = some v
  | (x, u) :: r, m, n, v, hm, hn, hk => by
    simp only [List.map_cons, List.nodup_cons] at hn
    unfold bindC
    rcases List.mem_cons.mp hm with e | e
    · cases e
      rw [bindC_not hn.1, if_neg hk, if_pos rfl]
    · exact bindC_get e hn.2 hk
theorem cellsFrom_has : ∀ (names : List (Str × NameKind)) (n : Nat) (acc : List (Str × Addr)) (x : Str), ((x, NameKind.cell) ∈ names ∨ (acc.lookup x).isSome = true) → ((cellsFrom n names acc).lookup x).isSome = true
  | [], _, _, _, h => by
    rcases h with h | h
    · cases h
    · exact h
  | (y, k) :: r, n, acc, x, h => by
    unfold cellsFrom
    split
    · rename_i hk
      refine cellsFrom_has r _ _ x ?_
      rcases h with h | h
      · rcases List.mem_cons.mp h with e | e
        · cases e; right; simp [List.lookup_cons]
        · exact .inl e
      · right
        rw [List.lookup_cons]
        split
        · rfl
        · exact h
    · rename_i hk
      refine cellsFrom_has r _ _ x ?_
      rcases h with h | h
      · rcases List.mem_cons.mp h with e | e
        · cases e; exact absurd rfl hk
        · exact .inl e
      · exact .inr h
theorem mem_of_lookup' {α β : Type} [BEq α] [LawfulBEq α] {x : α} {v : β} : ∀ {l : List (α × β)}, l.lookup x = some v → (x, v) ∈ l
  | [], h => by simp at h
  | (y, u) :: r, h => by
    rw [List.lookup_cons] at h
    split at h
    · rename_i e
      cases h
      rw [eq_of_beq e]; exact List.mem_cons_self
    · exact List.mem_cons_of_mem _ (mem_of_lookup' h)
/-- how the arguments come to the def's names -/
def BindJ (prog : Program) (w : World) (fd : FuncData) (ds : List D) (names : List String) (ds' : List D) : Prop :=
  ∀ (A : Around) (av : Av) (s : Shared) (vs : List Value), RepL s.heap av ds vs → (∀ b, av b → ∃ o, s.heap.get? b = some o) →
    wpAny (model prog w) A (bindArgs fd ⟨vs, []⟩) (fun binds s' => Keeps s s' ∧ binds.map (·.1) = names.map Str.ofString ∧ RepL s'.heap av ds' (binds.map (·.2))) NoE s
theorem zip_of {names : List String} {ds : List D} {x : String} {d : D} : (names.zip ds).lookup x = some d → ∃ i : Nat, names[i]? = some x ∧ ds[i]? = some d := by
  intro h
  have := mem_of_lookup' h
  obtain ⟨i, hi⟩ := List.mem_iff_getElem?.mp this
  rw [List.getElem?_zip_eq_some] at hi
  exact ⟨i, hi.1, hi.2⟩
theorem fn_call {prog : Program} {w : World} {h0 : Heap} {k : Nat} {a : Addr} {o : Obj} {fd : FuncData} {body : List Stmt} {ds ds' : List D} {names : List String} {d : D}
    (hlim : h0.NoLimit) (ho : h0.get? a = some o) (hd : o.data = .func fd) (hcd : h0.CodeRec fd.code fd.qualname) (hbody : fd.body = .stmts body) (hclo : fd.closure = [])
    (hg : fd.globals = mainGlobals) (hb : fd.builtins = builtinsNs) (hco : fd.scope.isCoroutine = false) (hgen : fd.scope.isGenerator = false) (hkd : fd.scope.kind = .function)
    (hbind : BindJ prog w fd ds names ds')
    (hnames : ∀ x ∈ names, fd.scope.names.lookup (Str.ofString x) = some .local ∨ fd.scope.names.lookup (Str.ofString x) = some .cell)
    (hdeb : ∀ x ∈ names, (Str.ofString x == ("__debug__" : Str)) = false) (hnod : (names.map Str.ofString).Nodup)
    (h : ∀ c : Cx, c.env.scope = fd.scope → c.k = k → (∀ x, c.env.kindOf x = some .cell → ∃ cc, c.env.cells.lookup x = some cc) → XJ prog w h0 c (names.zip ds') [] body (fun af => ∃ d' μ', af = .ret d' μ' ∧ Fz μ' d' d)) :
    FnJ prog w h0 (k + 1) a ds d := by
  intro A av s vs ok base live avP tab r
  refine wpAny_call (codeAny_call_function (o := o) (fd := fd) (body := body) (by have := ok.depth; omega) (base _ _ ho) hd hco hgen hbody (hcd.keeps base) ?_)
  refine wpAny_mono (hbind A.in1 av s vs r live) (fun binds s₁ x => ?_) fun _ _ x => x.elim
  obtain ⟨k₁, hbn, rb⟩ := x
  rw [hclo]
  have hmem : ∀ y ∈ binds, ∃ x ∈ names, y.1 = Str.ofString x := fun y hy => by
    have : y.1 ∈ binds.map (·.1) := List.mem_map_of_mem hy
    rw [hbn] at this
    obtain ⟨x, hx, e⟩ := List.mem_map.mp this
    exact ⟨x, hx, e.symm⟩
  refine wpAny_newFunctionEnv_cells hkd (fun y hy => ?_) fun env he s₂ X => ?_
  · obtain ⟨x, hx, e⟩ := hmem y hy
    rw [e]
    rcases hnames x hx with q | q
    · exact .inl q
    · exact .inr ⟨q, cellsFrom_has _ _ _ _ (.inl (mem_of_lookup' q))⟩
  have hIC := X.toInCall
  refine ⟨(hlim.keeps base).keeps fun b o e => hIC.keep b o (kp k₁ b o e), codeAny_func ?_⟩
  have hsc : env.scope = fd.scope := by rw [he]; rfl
  have hL : env.locals = s₁.heap.objs.size := by rw [he]; rfl
  have hcl : env.cells = cellsFrom (s₁.heap.objs.size + 1) fd.scope.names [] := by rw [he]; rfl
  let c : Cx := { A := A.deeper env, k := k, env := env, av := fun b => av b ∨ b = env.locals ∨ ∃ x, env.cells.lookup x = some b, s₀ := s₁ }
  have live₁ : ∀ b, av b → ∃ o, s₁.heap.get? b = some o := fun b hb => let ⟨o, e⟩ := live b hb; ⟨o, kp k₁ _ _ e⟩
  have newC : ∀ x b, env.cells.lookup x = some b → s₁.heap.get? b = none := fun x b hm => by
    have h1 := X.above x b (mem_of_lookup hm)
    rw [hL] at h1
    cases q : s₁.heap.get? b with
    | none => rfl
    | some o => exact absurd (Heap.lt_size q) (Nat.not_lt.mpr (Nat.le_of_lt h1))
  have newAv : ∀ b, (av b ∨ b = env.locals ∨ ∃ x, env.cells.lookup x = some b) → av b ∨ s₁.heap.get? b = none := fun b hb => by
    rcases hb with y | y | ⟨x, y⟩
    · exact .inl y
    · subst y; rw [hL]; exact .inr (fresh_size _)
    · exact .inr (newC x b y)
  have rb₂ : RepL s₂.heap c.av ds' (binds.map (·.2)) := rb.mono (fun b o _ e => hIC.keep b o e) newAv
  have avsE : ∀ b, avs c.av [] b → c.av b := fun b hb => by
    rcases hb with y | ⟨p, hp, _⟩
    · exact y
    · cases hp
  have ok' : c.Ok := by
    refine ⟨ok.handled, ?_, ?_, by show env.scope.kind = _; rw [hsc]; exact hkd, by show env.globals = _; rw [he]; exact hg, by show env.builtins = _; rw [he]; exact hb, .inl avP⟩
    · show A.depth + 1 + k ≤ _; have := ok.depth; omega
    · show A.units + 3 + 40 * k ≤ _; have := ok.units; omega
  have base₂ : ∀ b o, h0.get? b = some o → s₂.heap.get? b = some o := fun b o e => hIC.keep b o (kp k₁ _ _ (base b o e))
  have hce : ∀ x, c.env.kindOf x = some .cell → ∃ cc, c.env.cells.lookup x = some cc := fun x hx => by
    show ∃ cc, env.cells.lookup x = some cc
    have hx' : fd.scope.names.lookup x = some .cell := by
      have : env.kindOf x = some .cell := hx
      unfold Env.kindOf at this; rwa [hsc] at this
    have hsome := cellsFrom_has fd.scope.names (s₁.heap.objs.size + 1) [] x (.inl (mem_of_lookup' hx'))
    rw [← hcl] at hsome
    exact Option.isSome_iff_exists.mp hsome
  have SS : SSt h0 c (names.zip ds') [] s₂ := by
    refine ⟨⟨ok', base₂, fun x d hx => ?_, fun p hp => (nomatch hp), fun b hb => ?_, (tab.keeps (kp k₁)).keeps hIC.keep⟩, fun b o e => kp k₁ _ _ (base b o e), ⟨_, _, X⟩, .inr (.inl rfl), fun x cc hm => .inr (.inr ⟨x, hm⟩), fun x hx => ?_, fun p hp => (nomatch hp), List.nodup_nil, fun p hp => (nomatch hp)⟩
    · obtain ⟨i, hi, hdi⟩ := zip_of hx
      obtain ⟨v, hv, rv⟩ := rb₂.get hdi
      have hxn : x ∈ names := List.mem_of_getElem? hi
      have hbi : (Str.ofString x, v) ∈ binds := by
        have h1 : (binds.map (·.1))[i]? = some (Str.ofString x) := by rw [hbn]; simp [hi]
        rw [List.getElem?_map] at h1 hv
        cases hq : binds[i]? with
        | none => rw [hq] at h1; cases h1
        | some y =>
          rw [hq] at h1 hv
          obtain ⟨y1, y2⟩ := y
          simp only [Option.map_some, Option.some.injEq] at h1 hv
          subst h1; subst hv
          exact List.mem_of_getElem? hq
      refine ⟨hdeb x hxn, v, ?_, rv.mono (fun _ _ _ e => e) fun b hb => .inl (avsE b hb)⟩
      have hnd : (binds.map (·.1)).Nodup := by rw [hbn]; exact hnod
      have hko : env.kindOf (Str.ofString x) = fd.scope.names.lookup (Str.ofString x) := by unfold Env.kindOf; rw [hsc]
      rcases hnames x hxn with q | q
      · exact .inl ⟨hko.trans q, _, hIC.ns, bindL_get hbi hnd (hko.trans q)⟩
      · have hsome := cellsFrom_has fd.scope.names (s₁.heap.objs.size + 1) [] _ (.inl (mem_of_lookup' q))
        rw [← hcl] at hsome
        obtain ⟨cc, hcc⟩ := Option.isSome_iff_exists.mp hsome
        refine .inr ⟨hko.trans q, cc, hcc, ?_⟩
        have := X.cell _ cc hcc
        rwa [bindC_get hbi hnd (by rw [hko, q]; decide)] at this
    · rcases avsE b hb with y | y | ⟨x, y⟩
      · obtain ⟨o, e⟩ := live₁ b y; exact ⟨o, hIC.keep _ _ e⟩
      · subst y; obtain ⟨o, es, ep, e, _⟩ := hIC.ns; exact ⟨o, e⟩
      · obtain ⟨o, e, _⟩ := X.cell x b y; exact ⟨o, e⟩
    · exact hce x hx
  refine wpAny_mono (h c hsc rfl hce s₂ SS) (fun fl s₃ y => ?_) fun _ _ y => y.elim
  obtain ⟨af, ⟨d', μ', rfl, fz⟩, hf⟩ := y
  obtain ⟨⟨v, rfl, S₃, rv⟩, _⟩ := hf
  obtain ⟨m₃, cm₃, X₃⟩ := S₃.frame
  refine ⟨kp_trans k₁ ?_, ?_⟩
  · obtain ⟨h₃, tk₃, e⟩ := X₃.toInCall.same
    refine ⟨h₃, tk₃, e, fun b o eb => ?_⟩
    have := X₃.toInCall.keep b o eb
    rw [e] at this
    exact this
  · refine Fz.rep (cav := avs c.av μ') S₃.p.own (fun b hb => .inl (.inl hb)) (fun p hp hav => ?_) fz rv
    exact S₃.notin p hp (.inl hav)
end Mine
end
section
open PySem PySem.Calls PySem.W PyProof.Rows
namespace Mine
/-- a step that touches but new iterators -/
theorem SSt.step {h0 : Heap} {c : Cx} {σ : St} {μ : Mu} {s : Shared} {h' : Heap} {tk : Nat} {wr : List Addr} (S : SSt h0 c σ μ s)
    (hk : ∀ b o, b ∉ wr → s.heap.get? b = some o → h'.get? b = some o) (hf : ∀ b ∈ wr, ∃ o, s.heap.get? b = some o ∧ isF o) (hs0 : ∀ b ∈ wr, c.s₀.heap.get? b = none) (hav : ∀ b ∈ wr, ¬ c.av b) :
    SSt h0 c σ μ { s with heap := h', toks := tk } := by
  have notF : ∀ b o, ¬ isF o → s.heap.get? b = some o → b ∉ wr := fun b o n e hb => by
    obtain ⟨o', e', f⟩ := hf b hb
    rw [e] at e'; cases e'; exact n f
  have ns0 : ∀ b o, c.s₀.heap.get? b = some o → b ∉ wr := fun b o e hb => by rw [hs0 b hb] at e; cases e
  have muW : ∀ p ∈ μ, p.1 ∉ wr := fun p hp => by
    obtain ⟨_, vs, ⟨n, e⟩, _⟩ := S.p.own p hp
    exact notF _ _ (by rintro ⟨⟨_, q⟩, _⟩; cases q) e
  have avW : ∀ b, avs c.av μ b → b ∉ wr := fun b hb => by
    rcases hb with q | ⟨p, hp, rfl⟩
    · exact fun hw => hav b hw q
    · exact muW p hp
  obtain ⟨m, cm, X⟩ := S.frame
  have Lw : c.env.locals ∉ wr := fun h => hav _ h S.avL
  have R1 : ∀ {d v}, Rep s.heap (avs c.av μ) d v → Rep h' (avs c.av μ) d v := fun r => r.monoF (fun b o _ nf e => hk b o (notF b o nf e) e) fun _ y => .inl y
  have R2 : ∀ {d v}, RepL s.heap (avs c.av μ) d v → RepL h' (avs c.av μ) d v := fun r => r.monoF (fun b o _ nf e => hk b o (notF b o nf e) e) fun _ y => .inl y
  have cellK : ∀ cc v, s.heap.IsCell cc v → h'.IsCell cc v := fun cc v ⟨o, e, d⟩ => ⟨o, hk _ _ (notF _ _ (by rintro ⟨⟨_, q⟩, _⟩; rw [d] at q; cases q) e) e, d⟩
  have nsK : ∀ m', s.heap.Ns c.env.locals m' → h'.Ns c.env.locals m' := fun m' hn => hn.at' fun o e => hk _ o Lw e
  refine ⟨⟨S.p.ok, fun b o e => hk b o (ns0 b o (S.base0 b o e)) (S.p.base b o e), fun x d e => ?_, fun p hp => ?_, fun b hb => ?_, S.p.tab.wr hk fun h => hav _ h S.p.ok.avP⟩, S.base0,
    ⟨m, cm, ⟨⟨same_shared X.toInCall.same, nsK m X.toInCall.ns, fun b o e => hk b o (ns0 b o e) (X.toInCall.keep b o e), X.toInCall.fresh⟩, fun n cc hc => cellK _ _ (X.cell n cc hc), X.apart, X.above⟩⟩, S.avL, S.avC, S.cells, S.fresh, S.nodup, S.notin⟩
  · obtain ⟨z, v, b, r⟩ := S.p.vars x d e
    refine ⟨z, v, ?_, R1 r⟩
    rcases b with ⟨a, m', n, e⟩ | ⟨a, cc, n, e⟩
    · exact .inl ⟨a, m', nsK m' n, e⟩
    · exact .inr ⟨a, cc, n, cellK _ _ e⟩
  · obtain ⟨z, vs, ⟨n, e⟩, r⟩ := S.p.own p hp
    exact ⟨z, vs, ⟨n, hk _ _ (muW p hp) e⟩, R2 r⟩
  · obtain ⟨o, e⟩ := S.p.live b hb
    exact ⟨o, hk _ _ (avW b hb) e⟩
section
variable {prog : Program} {w : World} {h0 : Heap} {c : Cx} {σ : St} {μ : Mu} {Φ : AF → Prop}
/-- an iterator over data, made at s₁ -/
def ItP (prog : Program) (w : World) (c : Cx) (μ : Mu) (items : List D) (s : Shared) (it : Value) (s' : Shared) : Prop :=
  Keeps s s' ∧ ∃ I fp wr P, ∃ Q : Nat → Heap → Prop, it = .ref I ∧ Walks prog w c.A I fp wr items.length P Q ∧ Q 0 s'.heap ∧
    (∀ b ∈ wr, s.heap.get? b = none) ∧ (∀ b ∈ fp, b ∈ wr ∨ (¬ avs c.av μ b ∧ ∃ o, s.heap.get? b = some o)) ∧ (∀ i h, Q i h → ∀ b ∈ wr, ∃ o, h.get? b = some o ∧ isF o) ∧
    (∀ i v, i < items.length → P i v → ∃ d, items[i]? = some d ∧ Rep s.heap (avs c.av μ) d v)
def ItJ (prog : Program) (w : World) (h0 : Heap) (c : Cx) (σ : St) (μ : Mu) (d : D) (items : List D) : Prop :=
  ∀ s v, PSt h0 c σ μ s → Rep s.heap (avs c.av μ) d v → wpAny (model prog w) c.A (pyIter v) (ItP prog w c μ items s) NoE s
/-- an expression that is gone over -/
def IteJ (prog : Program) (w : World) (h0 : Heap) (c : Cx) (σ : St) (μ : Mu) (e : Expr) (items : List D) : Prop :=
  ∀ s, PSt h0 c σ μ s → wpAny (model prog w) c.A (eval e c.env) (fun v s₁ => wpAny (model prog w) c.A (pyIter v) (fun it s₂ => Keeps s s₁ ∧ ItP prog w c μ items s₁ it s₂) NoE s₁) NoE s
theorem Ite.of {e : Expr} {d : D} {items : List D} (he : EvJ prog w h0 c σ μ e d) (hi : ItJ prog w h0 c σ μ d items) : IteJ prog w h0 c σ μ e items := fun s P =>
  he.run P fun v s₁ k₁ P₁ r₁ => wm (hi s₁ v P₁ r₁) fun it s₂ y => ⟨k₁, y⟩
def LoopΦ (Inv : Nat → St → Mu → Prop) (i : Nat) (Φ : AF → Prop) : AF → Prop
  | .next σ μ => Inv (i + 1) σ μ
  | .cont σ μ => Inv (i + 1) σ μ
  | .brk σ μ => Φ (.next σ μ)
  | .ret d μ => Φ (.ret d μ)
theorem pres_rep {c : Cx} {μ μ' : Mu} {s s' : Shared} (p : Pres c μ s μ' s') {d : D} {v : Value} (r : Rep s.heap (avs c.av μ) d v) : Rep s'.heap (avs c.av μ') d v :=
  r.mono (fun b o n e => p.keep b o n e) fun b y => by
    rcases y with y | ⟨q, hq, rfl⟩
    · exact .inl (.inl y)
    · rcases p.new q hq with ⟨r, hr, e⟩ | e
      · exact .inl (.inr ⟨r, hr, e⟩)
      · exact .inr e
theorem X1.for {x : String} {iter : Expr} {body : List Stmt} {px pos : Pos} {items : List D} (Inv : Nat → St → Mu → Prop) (he : IteJ prog w h0 c σ μ iter items)
    (hk : c.env.kindOf (Str.ofString x) = some .local ∨ c.env.kindOf (Str.ofString x) = some .cell) (h00 : Inv 0 σ μ)
    (turn : ∀ i σ' μ' dx, items[i]? = some dx → Inv i σ' μ' → XJ prog w h0 c (upd σ' x dx) μ' body (LoopΦ Inv i Φ))
    (fin : ∀ σ' μ', Inv items.length σ' μ' → Φ (.next σ' μ')) (hx : (Str.ofString x == ("__debug__" : Str)) = false := by decide)
    (hs : ∀ x, foldedSetIterable iter c.env x = pure x := by intro _; rfl) : X1 prog w h0 c σ μ (.For (.Name (Str.ofString x) px) iter body [] pos) Φ := by
  intro s S
  refine wpAny_For (wm (he s S.p) fun v s₁ h₁ => wm h₁ fun it s₂ y => ?_) hs
  obtain ⟨k₁, k₂, I, fp, wr, P, Q, rfl, W, q0, hnew, hfp, hF, hP⟩ := y
  have S₁ := S.keeps k₁
  have S₂ := S₁.keeps k₂
  have wr0 : ∀ b ∈ wr, c.s₀.heap.get? b = none := fun b hb => by
    obtain ⟨m, cm, X⟩ := S₁.frame
    cases e : c.s₀.heap.get? b with
    | none => rfl
    | some o => have := X.toInCall.keep b o e; rw [hnew b hb] at this; cases this
  have wrA : ∀ b ∈ wr, ¬ c.av b := fun b hb ha => by
    obtain ⟨o, e⟩ := S₁.p.live b (.inl ha)
    rw [hnew b hb] at e; cases e
  have wrD : ∀ b o, s₁.heap.get? b = some o → b ∉ wr := fun b o e hb => by rw [hnew b hb] at e; cases e
  refine codeAny_forLoop (fun n s' => ∃ i σ' μ', n = items.length + 1 - i ∧ i ≤ items.length ∧ Inv i σ' μ' ∧ SSt h0 c σ' μ' s' ∧ Q i s'.heap ∧ Pres c μ s₁ μ' s') ?_ (items.length + 1)
    ⟨0, σ, μ, rfl, Nat.zero_le _, h00, S₂, q0, Pres.keeps k₂⟩
  rintro n s' ⟨i, σ', μ', rfl, hle, hinv, S', q, pr⟩
  have wrF := hF i s'.heap q
  have stepPres : ∀ h' tk, (∀ b o, b ∉ wr → s'.heap.get? b = some o → h'.get? b = some o) → Pres c μ s₁ μ' { s' with heap := h', toks := tk } := fun h' tk hk' =>
    ⟨fun b o n e => hk' b o (wrD b o e) (pr.keep b o n e), pr.new, fun b o e => let ⟨o', e'⟩ := pr.ex b o e; ⟨o', hk' b o' (wrD b o e) e'⟩⟩
  by_cases hlt : i < items.length
  · refine W.item i s' _ _ hlt q fun v h' tk hPv q' hk' => ?_
    obtain ⟨dx, hdx, rx⟩ := hP i v hlt hPv
    have S'' : SSt h0 c σ' μ' { s' with heap := h', toks := tk } := S'.step hk' wrF wr0 wrA
    have pr' := stepPres h' tk hk'
    have rx' : Rep h' (avs c.av μ') dx v := pres_rep pr' rx
    refine wpAny_mono (wpAny_assign_Name (store_ S'' rx' hk hx (Q := fun _ s₃ => SSt h0 c (upd σ' x dx) μ' s₃ ∧ Pres c μ' { s' with heap := h', toks := tk } μ' s₃) fun s₃ S₃ p₃ => ⟨S₃, p₃⟩)) (fun _ s₃ z => ?_) fun _ _ z => z.elim
    obtain ⟨S₃, p₃⟩ := z
    refine wpAny_mono (turn i σ' μ' dx hdx hinv s₃ S₃) (fun fl s₄ z => ?_) fun _ _ z => z.elim
    obtain ⟨af, ha, hf, p₄⟩ := z
    have p34 := p₃.trans p₄
    have keepQ : ∀ μ'' s₅, Pres c μ' { s' with heap := h', toks := tk } μ'' s₅ → Q (i + 1) s₅.heap := fun μ'' s₅ p₅ => W.frame _ _ _ q' fun b hb o e => p₅.keep b o (fun hav => by
      rcases hfp b hb with hw | ⟨hn, o1, e1⟩
      · rcases hav with z | ⟨p, hp, rfl⟩
        · exact wrA b hw z
        · obtain ⟨_, vs, ⟨n, e2⟩, _⟩ := S''.p.own p hp
          obtain ⟨o3, e3, f3⟩ := hF _ _ q' p.1 hw
          have e3' : ({ s' with heap := h', toks := tk } : Shared).heap.get? p.1 = some o3 := e3
          rw [e2] at e3'; cases e3'
          obtain ⟨⟨_, z⟩, _⟩ := f3; cases z
      · rcases hav with z | ⟨p, hp, rfl⟩
        · exact hn (.inl z)
        · rcases pr.new p hp with ⟨q, hq, e2⟩ | e2
          · exact hn (.inr ⟨q, hq, e2⟩)
          · rw [e2] at e1; cases e1) e
    cases af with
    | next σ'' μ'' => obtain ⟨rfl, S₄⟩ := hf; exact ⟨items.length + 1 - (i + 1), by omega, i + 1, σ'', μ'', rfl, hlt, ha, S₄, keepQ _ _ p34, pr'.trans p34⟩
    | cont σ'' μ'' => obtain ⟨rfl, S₄⟩ := hf; exact ⟨items.length + 1 - (i + 1), by omega, i + 1, σ'', μ'', rfl, hlt, ha, S₄, keepQ _ _ p34, pr'.trans p34⟩
    | brk σ'' μ'' => obtain ⟨rfl, S₄⟩ := hf; exact ⟨_, ha, ⟨rfl, S₄⟩, (Pres.keeps k₁).trans (pr'.trans p34)⟩
    | ret d μ'' => obtain ⟨v, rfl, S₄⟩ := hf; exact ⟨_, ha, ⟨v, rfl, S₄⟩, (Pres.keeps k₁).trans (pr'.trans p34)⟩
  · have hi : i = items.length := by omega
    subst hi
    refine W.done s' _ _ q fun h' tk hk' => wpAny_execs_nil ?_
    exact ⟨_, fin _ _ hinv, ⟨rfl, S'.step hk' wrF wr0 wrA⟩, (Pres.keeps k₁).trans (stepPres h' tk hk')⟩
theorem It.lst {ds : List D} : ItJ prog w h0 c σ μ (.lst ds) ds := by
  intro s v P r
  rw [Rep] at r
  obtain ⟨z, a, vs, rfl, na, ⟨n, hg⟩, rr⟩ := r
  have hl : s.heap.IsList a vs := ⟨_, hg, rfl, n, rfl⟩
  have hne : a ≠ s.heap.objs.size := fun q => by rw [q, fresh_size] at hg; cases hg
  have sz : vs.size = ds.length := by have := rr.length; simpa using this.symm
  refine wpAny_pyIter_list hl ⟨kp_push', _, _, _, _, _, rfl, sz ▸ Walks.list P.ok.handled _ a hne vs, ⟨⟨_, Heap.get?_push_size _ rfl, rfl, rfl⟩, hl.push _⟩, ?_, ?_, ?_, ?_⟩
  · intro b hb; simp at hb; subst hb; exact fresh_size _
  · intro b hb
    simp at hb
    rcases hb with rfl | rfl
    · left; simp
    · exact .inr ⟨na, _, hg⟩
  · intro i h q b hb
    simp at hb; subst hb
    obtain ⟨⟨o, e, cc, d⟩, _⟩ := q
    exact ⟨o, e, ⟨_, d⟩, by rw [cc]; decide⟩
  · intro i v _ hv
    exact rr.getV (by simpa using hv)
end
end Mine
end
section
open PySem PySem.Calls PySem.W PyProof.Rows
namespace Mine
theorem inter {env : Env} (h : env.scope.kind = .function) : interactive env = false := by unfold interactive; rw [h]; rfl
def setM : Mu → Addr → List D → Mu
  | [], _, _ => []
  | (b, e) :: r, a, ds => if b = a then (b, ds) :: r else (b, e) :: setM r a ds
theorem setM_keys : ∀ (μ : Mu) (a : Addr) (ds : List D), (setM μ a ds).map Prod.fst = μ.map Prod.fst
  | [], _, _ => rfl
  | (b, e) :: r, a, ds => by
    unfold setM
    split
    · rfl
    · simp [setM_keys r a ds]
theorem setM_mem {a : Addr} {ds : List D} : ∀ {μ : Mu} {p : Addr × List D}, p ∈ setM μ a ds → p = (a, ds) ∨ (p ∈ μ ∧ p.1 ≠ a) ∨ (p ∈ μ ∧ ∃ e, (a, e) ∈ μ ∧ p.1 = a ∧ (μ.map Prod.fst).Nodup = False)
  | (b, e) :: r, p, h => by
    unfold setM at h
    by_cases hb : b = a
    · rw [if_pos hb] at h
      rcases List.mem_cons.mp h with rfl | h
      · left; rw [hb]
      · by_cases hp : p.1 = a
        · right; right
          refine ⟨.tail _ h, e, ?_, hp, ?_⟩
          · rw [← hb]; exact .head _
          · simp only [eq_iff_iff, iff_false]
            intro nd
            simp only [List.map_cons, List.nodup_cons] at nd
            exact nd.1 (by rw [hb, ← hp]; exact List.mem_map_of_mem h)
        · exact .inr (.inl ⟨.tail _ h, hp⟩)
    · rw [if_neg hb] at h
      rcases List.mem_cons.mp h with rfl | h
      · exact .inr (.inl ⟨.head _, hb⟩)
      · rcases setM_mem h with q | ⟨q, n⟩ | ⟨q, e', q', n, z⟩
        · exact .inl q
        · exact .inr (.inl ⟨.tail _ q, n⟩)
        · right; right
          refine ⟨.tail _ q, e', .tail _ q', n, ?_⟩
          simp only [eq_iff_iff, iff_false] at z ⊢
          intro nd
          simp only [List.map_cons, List.nodup_cons] at nd
          exact z nd.2
theorem avs_keys {av : Av} {μ μ' : Mu} (h : μ'.map Prod.fst = μ.map Prod.fst) (b : Addr) : avs av μ' b ↔ avs av μ b := by
  have k : ∀ {μ : Mu}, (∃ p ∈ μ, p.1 = b) ↔ b ∈ μ.map Prod.fst := by intro μ; simp
  unfold avs
  rw [k, k, h]
theorem lookM {μ : Mu} {a : Addr} {ds : List D} (h : μ.lookup a = some ds) : (a, ds) ∈ μ := mem_of_lookup' h
section
variable {h0 : Heap} {c : Cx} {σ : St} {μ : Mu}
theorem SSt.mut {s : Shared} {a : Addr} {ds ds' : List D} {h' : Heap} {tk : Nat} {its' : Array Value} (S : SSt h0 c σ μ s) (ha : (a, ds) ∈ μ) (hs : Heap.SameBut a s.heap h') (hp : h'.PlainList a its')
    (hz : ds'.length ≤ 1000000) (r : RepL s.heap (avs c.av μ) ds' its'.toList) : SSt h0 c σ (setM μ a ds') { s with heap := h', toks := tk } ∧ Pres c μ s (setM μ a ds') { s with heap := h', toks := tk } := by
  have haav : avs c.av μ a := .inr ⟨_, ha, rfl⟩
  have R := rep_same hs haav
  have K := setM_keys μ a ds'
  have A := fun b => avs_keys (av := c.av) K b
  have R1 : ∀ {d v}, Rep s.heap (avs c.av μ) d v → Rep h' (avs c.av (setM μ a ds')) d v := fun r => (R.1 r).mono (fun _ _ _ e => e) fun b y => .inl ((A b).mp y)
  have R2 : ∀ {d v}, RepL s.heap (avs c.av μ) d v → RepL h' (avs c.av (setM μ a ds')) d v := fun r => (R.2 r).mono (fun _ _ _ e => e) fun b y => .inl ((A b).mp y)
  obtain ⟨m, cm, X⟩ := S.frame
  obtain ⟨_, vs0, ⟨n0, e0⟩, _⟩ := S.p.own _ ha
  have notin : c.s₀.heap.get? a = none := S.fresh _ ha
  have Lne : c.env.locals ≠ a := fun q => S.notin _ ha (q ▸ S.avL)
  have cne : ∀ n cc, c.env.cells.lookup n = some cc → cc ≠ a := fun n cc hc q => S.notin _ ha (q ▸ S.avC n cc hc)
  have keep : ∀ b o, b ≠ a → s.heap.get? b = some o → h'.get? b = some o := fun b o n e => by rw [hs.2 b n, e]
  have s0k : ∀ b o, c.s₀.heap.get? b = some o → h'.get? b = some o := fun b o e => keep b o (fun q => by rw [q, notin] at e; cases e) (X.toInCall.keep b o e)
  obtain ⟨n1, e1⟩ := id hp
  have exK : ∀ b o, s.heap.get? b = some o → ∃ o', h'.get? b = some o' := fun b o e => by
    by_cases q : b = a
    · exact ⟨_, q ▸ e1⟩
    · exact ⟨o, keep b o q e⟩
  have keyIn : ∀ p ∈ setM μ a ds', ∃ q ∈ μ, q.1 = p.1 := fun p hp => by
    have : p.1 ∈ μ.map Prod.fst := K ▸ List.mem_map_of_mem hp
    obtain ⟨q, hq, e⟩ := List.mem_map.mp this
    exact ⟨q, hq, e⟩
  refine ⟨⟨⟨S.p.ok, fun b o e => s0k b o (S.base0 b o e), fun x d e => ?_, fun p hp' => ?_, fun b hb => ?_, S.p.tab.but hs (S.p.tab.neL ⟨n0, e0⟩)⟩, S.base0, ⟨m, cm, ⟨⟨same_shared X.toInCall.same, X.toInCall.ns.sameBut hs Lne, s0k, X.toInCall.fresh⟩, fun n cc hc => (X.cell n cc hc).sameBut hs (cne n cc hc), X.apart, X.above⟩⟩,
    S.avL, S.avC, S.cells, fun p hp' => ?_, ?_, fun p hp' => ?_⟩, ⟨fun b o n e => keep b o (fun q => n (q ▸ haav)) e, fun p hp' => ?_, exK⟩⟩
  · obtain ⟨z, v, b, r⟩ := S.p.vars x d e
    refine ⟨z, v, ?_, R1 r⟩
    rcases b with ⟨k, m', n, e⟩ | ⟨k, cc, n, e⟩
    · exact .inl ⟨k, m', n.sameBut hs Lne, e⟩
    · exact .inr ⟨k, cc, n, e.sameBut hs (cne _ _ n)⟩
  · rcases setM_mem hp' with rfl | ⟨q, ne⟩ | ⟨_, _, _, _, z⟩
    · exact ⟨hz, its', hp, R2 r⟩
    · obtain ⟨z, vs, ⟨n, e⟩, rr⟩ := S.p.own p q
      exact ⟨z, vs, ⟨n, keep _ _ ne e⟩, R2 rr⟩
    · exact absurd S.nodup (by rw [z]; exact id)
  · obtain ⟨o, e⟩ := S.p.live b ((A b).mp hb)
    exact exK b o e
  · obtain ⟨q, hq, e⟩ := keyIn p hp'; rw [← e]; exact S.fresh q hq
  · rw [K]; exact S.nodup
  · obtain ⟨q, hq, e⟩ := keyIn p hp'; rw [← e]; exact S.notin q hq
  · exact .inl (keyIn p hp')
theorem SSt.alloc {s s' : Shared} {a : Addr} {ds : List D} {its : Array Value} (S : SSt h0 c σ μ s) (k : Keeps s s') (hn : s.heap.get? a = none) (hp : s'.heap.PlainList a its) (hz : ds.length ≤ 1000000)
    (r : RepL s'.heap (fun b => avs c.av μ b ∨ b = a) ds its.toList) : SSt h0 c σ ((a, ds) :: μ) s' ∧ Pres c μ s ((a, ds) :: μ) s' := by
  have S' := S.keeps k
  have A : ∀ b, avs c.av ((a, ds) :: μ) b → avs c.av μ b ∨ b = a := fun b hb => by
    rcases hb with q | ⟨p, hp, e⟩
    · exact .inl (.inl q)
    · rcases List.mem_cons.mp hp with rfl | hp
      · exact .inr e.symm
      · exact .inl (.inr ⟨p, hp, e⟩)
  have R1 : ∀ {d v}, Rep s.heap (avs c.av μ) d v → Rep s'.heap (avs c.av ((a, ds) :: μ)) d v := fun r => r.mono (fun b o _ e => kp k b o e) fun b y => (A b y).imp id fun (q : b = a) => q ▸ hn
  have R2 : ∀ {d v}, RepL s.heap (avs c.av μ) d v → RepL s'.heap (avs c.av ((a, ds) :: μ)) d v := fun r => r.mono (fun b o _ e => kp k b o e) fun b y => (A b y).imp id fun (q : b = a) => q ▸ hn
  have off : ¬ avs c.av μ a := S.p.off hn
  have s0n : c.s₀.heap.get? a = none := by
    obtain ⟨m, cm, X⟩ := S.frame
    cases e : c.s₀.heap.get? a with
    | none => rfl
    | some o => have := X.toInCall.keep a o e; rw [hn] at this; cases this
  refine ⟨⟨⟨S.p.ok, S'.p.base, fun x d e => ?_, fun p hp' => ?_, fun b hb => ?_, S'.p.tab⟩, S.base0, S'.frame, S.avL, S.avC, S.cells, fun p hp' => ?_, ?_, fun p hp' => ?_⟩, ⟨fun b o n e => kp k b o e, fun p hp' => ?_, fun b o e => ⟨o, kp k b o e⟩⟩⟩
  · obtain ⟨z, v, b, r⟩ := S.p.vars x d e
    exact ⟨z, v, b.keeps (kp k), R1 r⟩
  · rcases List.mem_cons.mp hp' with rfl | hp'
    · exact ⟨hz, its, hp, r.mono (fun _ _ _ e => e) fun b y => .inl (A b y)⟩
    · obtain ⟨z, vs, ⟨n, e⟩, rr⟩ := S.p.own p hp'
      exact ⟨z, vs, ⟨n, kp k _ _ e⟩, R2 rr⟩
  · rcases A b hb with q | rfl
    · obtain ⟨o, e⟩ := S.p.live b q; exact ⟨o, kp k _ _ e⟩
    · obtain ⟨n, e⟩ := hp; exact ⟨_, e⟩
  · rcases List.mem_cons.mp hp' with rfl | hp'
    · exact s0n
    · exact S.fresh p hp'
  · rw [List.map_cons, List.nodup_cons]
    refine ⟨fun hm => ?_, S.nodup⟩
    obtain ⟨p, hp, e⟩ := List.mem_map.mp hm
    exact off (.inr ⟨p, hp, e⟩)
  · rcases List.mem_cons.mp hp' with rfl | hp'
    · exact fun q => off (.inl q)
    · exact S.notin p hp'
  · rcases List.mem_cons.mp hp' with rfl | hp'
    · exact .inr hn
    · exact .inl ⟨p, hp', rfl⟩
end
section
variable {prog : Program} {w : World} {h0 : Heap} {c : Cx} {σ : St} {μ : Mu} {Φ : AF → Prop}
/-- an expression that makes a list of its own -/
def FrJ (prog : Program) (w : World) (h0 : Heap) (c : Cx) (σ : St) (μ : Mu) (e : Expr) (ds : List D) : Prop :=
  ∀ s, PSt h0 c σ μ s → wpAny (model prog w) c.A (eval e c.env) (fun v s' => Keeps s s' ∧ ∃ a its, v = .ref a ∧ s.heap.get? a = none ∧ s'.heap.PlainList a its ∧ ds.length ≤ 1000000 ∧ RepL s'.heap (fun b => avs c.av μ b ∨ b = a) ds its.toList) NoE s
theorem FrJ.ev {e : Expr} {ds : List D} (h : FrJ prog w h0 c σ μ e ds) : EvJ prog w h0 c σ μ e (.lst ds) := fun s P => wm (h s P) fun v s' y => by
  obtain ⟨k, a, its, rfl, hn, hp, hz, r⟩ := y
  refine ⟨k, ?_⟩
  rw [Rep]
  exact ⟨hz, a, its, rfl, P.off hn, hp, r.mono (fun _ _ _ e => e) fun b y => .inl (.inl y)⟩
theorem old_none {s s₁ : Shared} (k : Keeps s s₁) {a : Addr} (hn : s₁.heap.get? a = none) : s.heap.get? a = none := by
  cases e : s.heap.get? a with
  | none => rfl
  | some o => have := kp k _ _ e; rw [hn] at this; cases this
theorem Fr.list {elts : List Expr} {pos : Pos} {ds : List D} (h : AJ prog w h0 c σ μ elts ds) (hz : ds.length ≤ 1000000) : FrJ prog w h0 c σ μ (.List elts pos) ds := fun s P => by
  refine wpAny_List_spliced (wm (h pos s P) fun vs s₁ y => ⟨len_line hz y.2, kp_trans y.1 kp_push', _, vs.toArray, rfl, old_none y.1 (fresh_size _), ⟨0, Heap.get?_push_size _ rfl⟩, hz, ?_⟩)
  refine RepL.mono (h := s₁.heap) (av := avs c.av μ) (fun b o _ e => Heap.get?_push_of_some _ e) (fun b y => ?_) (by simpa using y.2)
  rcases y with y | rfl
  · exact .inl y
  · exact .inr (fresh_size _)
theorem Fr.ife {t a b : Expr} {pos : Pos} {ds : List D} {q : Bool} (h : TsJ prog w h0 c σ μ t q) (ha : q = true → FrJ prog w h0 c σ μ a ds) (hb : q = false → FrJ prog w h0 c σ μ b ds) :
    FrJ prog w h0 c σ μ (.IfExp t a b pos) ds := fun s P =>
  wpAny_IfExp (h.run P fun s₁ k₁ P₁ => by
    have old : ∀ a, s₁.heap.get? a = none → s.heap.get? a = none := fun a hn => old_none k₁ hn
    cases q with
    | true => exact wm (ha rfl s₁ P₁) fun v s₂ y => ⟨kp_trans k₁ y.1, let ⟨a, its, e, hn, z⟩ := y.2; ⟨a, its, e, old a hn, z⟩⟩
    | false => exact wm (hb rfl s₁ P₁) fun v s₂ y => ⟨kp_trans k₁ y.1, let ⟨a, its, e, hn, z⟩ := y.2; ⟨a, its, e, old a hn, z⟩⟩)
theorem X1.own {x : String} {e : Expr} {pos' pos : Pos} {ds : List D} (h : FrJ prog w h0 c σ μ e ds) (hk : c.env.kindOf (Str.ofString x) = some .local ∨ c.env.kindOf (Str.ofString x) = some .cell)
    (k : ∀ a, a ∉ μ.map Prod.fst → Φ (.next (upd σ x (.mut a)) ((a, ds) :: μ))) (hx : (Str.ofString x == ("__debug__" : Str)) = false := by decide)
    (hs : swapsWith e (some (.Name (Str.ofString x) pos')) pos.line c.env = pure false := by rfl) :
    X1 prog w h0 c σ μ (.Assign [.Name (Str.ofString x) pos'] e pos) Φ := fun s S =>
  wpAny_Assign_Name (wm (h s S.p) fun v s' y => by
    obtain ⟨kk, a, its, rfl, hn, hp, hz, r⟩ := y
    obtain ⟨S', p'⟩ := S.alloc kk hn hp hz r
    refine store_ S' (d := .mut a) (by rw [Rep]) hk hx fun s'' S'' pr => ⟨_, k a (fun hm => ?_), ⟨rfl, S''⟩, p'.trans pr⟩
    have := S'.nodup
    rw [List.map_cons, List.nodup_cons] at this
    exact this.1 hm) hs
/-- a datum's type -/
def TyJ (h0 : Heap) (c : Cx) (σ : St) (μ : Mu) (d : D) (T : String) : Prop :=
  ∀ s v, PSt h0 c σ μ s → Rep s.heap (avs c.av μ) d v → s.TypeIs v T ∧ ∀ a, v = .ref a → ∃ ob, s.heap.get? a = some ob ∧ ob.dict = none
theorem Ty.str {l : List Nat} : TyJ h0 c σ μ (.str l) "str" := fun s v P r => by
  rw [Rep] at r; obtain ⟨_, t, rfl⟩ := r
  exact ⟨typeIs_str _ _ _, fun a e => by cases e⟩
theorem Ty.lst {l : List D} : TyJ h0 c σ μ (.lst l) "list" := fun s v P r => by
  rw [Rep] at r; obtain ⟨_, a, vs, rfl, _, ⟨n, e⟩, _⟩ := r
  exact ⟨⟨_, e, rfl⟩, fun a' q => by cases q; exact ⟨_, e, rfl⟩⟩
theorem Ty.mut {a : Addr} {ds : List D} (h : μ.lookup a = some ds) : TyJ h0 c σ μ (.mut a) "list" := fun s v P r => by
  rw [Rep] at r; subst r
  obtain ⟨_, vs, ⟨n, e⟩, _⟩ := P.own _ (lookM h)
  exact ⟨⟨_, e, rfl⟩, fun a' q => by cases q; exact ⟨_, e, rfl⟩⟩
theorem Ev.meth {o : Expr} {name : String} {id T : String} {args : List Expr} {apos pos : Pos} {d₀ d : D} {ds : List D} (ho : EvJ prog w h0 c σ μ o d₀) (ht : TyJ h0 c σ μ d₀ T) (pa : PlainAttrs T)
    (slot : Slot T (Str.ofString name) id) (hty : typeOf (.builtin id) = pure (.type "method_descriptor")) (ha : AJ prog w h0 c σ μ args ds) (hc : CaJ prog w h0 c σ μ (.builtin id) (d₀ :: ds) d)
    (hline : (apos.endLine == pos.line) = true := by rfl) (hbase : attributeBase o (Str.ofString name) c.env (eval o c.env) = eval o c.env := by rfl)
    (hfew : ((backTo pos (starEach args c.env)).all (fun x => !x.1) && (backToKw pos (keywordEach [] c.env)).all (fun x => x.1.isSome)
      && decide (args.length + ([] : List Keyword).length + (if ([] : List Keyword).isEmpty then 0 else 1) < 30)) = true := by rfl)
    (hl : (backTo pos (starEach args c.env)).any (·.1) = false := by rfl) :
    EvJ prog w h0 c σ μ (.Call (.Attribute o (Str.ofString name) apos) args [] pos) d := fun s P =>
  wpAny_Call_method (T := T) (id := id) hbase hfew hline pa slot hty (ho.run P fun v s₁ k₁ P₁ r => by
    obtain ⟨t1, t2⟩ := ht s₁ v P₁ r
    exact ⟨t1, t2, callWith_builtin hl (evalArgs_gen hl (wm (ha pos s₁ P₁) fun vs s₂ y => wm (hc s₂ (v :: vs) (P₁.keeps y.1) (RepL.cons (r.keeps (kp y.1)) y.2)) fun v' s₃ z => ⟨kp_trans k₁ (kp_trans y.1 z.1), z.2⟩))⟩)
/-- a method that turns the list a, from items to items' -/
def MuJ (prog : Program) (w : World) (h0 : Heap) (c : Cx) (σ : St) (μ : Mu) (id : String) (a : Addr) (items : List D) (ds : List D) (items' : List D) : Prop :=
  ∀ s vs its, PSt h0 c σ μ s → items.length ≤ 1000000 → s.heap.PlainList a its → RepL s.heap (avs c.av μ) items its.toList → RepL s.heap (avs c.av μ) ds vs →
    wpAny (model prog w) c.A (call (.builtin id) (.ref a :: vs)) (fun v s' => ∃ s₁ h' tk its', Keeps s s₁ ∧ s' = { s₁ with heap := h', toks := tk } ∧ Heap.SameBut a s₁.heap h' ∧ h'.PlainList a its' ∧ items'.length ≤ 1000000 ∧ RepL s₁.heap (avs c.av μ) items' its'.toList) NoE s
theorem X1.meth {x name : String} {id : String} {args : List Expr} {px apos pos pos' : Pos} {a : Addr} {items items' ds : List D} (hx : σ.lookup x = some (.mut a)) (hm : μ.lookup a = some items)
    (slot : Slot "list" (Str.ofString name) id) (hty : typeOf (.builtin id) = pure (.type "method_descriptor")) (ha : AJ prog w h0 c σ μ args ds) (hc : MuJ prog w h0 c σ μ id a items ds items')
    (k : Φ (.next σ (setM μ a items')))
    (hline : (apos.endLine == pos.line) = true := by rfl)
    (hs : swapsWith (.Call (.Attribute (.Name (Str.ofString x) px) (Str.ofString name) apos) args [] pos) none pos'.line c.env = pure false := by rfl)
    (hfew : ((backTo pos (starEach args c.env)).all (fun x => !x.1) && (backToKw pos (keywordEach [] c.env)).all (fun x => x.1.isSome)
      && decide (args.length + ([] : List Keyword).length + (if ([] : List Keyword).isEmpty then 0 else 1) < 30)) = true := by rfl)
    (hl : (backTo pos (starEach args c.env)).any (·.1) = false := by rfl) :
    X1 prog w h0 c σ μ (.Expr (.Call (.Attribute (.Name (Str.ofString x) px) (Str.ofString name) apos) args [] pos) pos') Φ := fun s S => by
  refine wpAny_Expr_any (wpAny_Call_method (T := "list") (id := id) rfl hfew hline PySem.F.plainAttrs_list slot hty ((Ev.name hx).run S.p fun v s₁ k₁ P₁ r => ?_)) (inter S.p.ok.kind) hs
  obtain ⟨t1, t2⟩ := Ty.mut hm s₁ v P₁ r
  rw [Rep] at r; subst r
  refine ⟨t1, t2, callWith_builtin hl (evalArgs_gen hl (wm (ha pos s₁ P₁) fun vs s₂ y => ?_))⟩
  have P₂ := P₁.keeps y.1
  obtain ⟨z, its, hp, rr⟩ := P₂.own _ (lookM hm)
  refine wm (hc s₂ vs its P₂ z hp rr y.2) fun v' s₃ q => ?_
  obtain ⟨s₄, h', tk, its', k₄, rfl, hsb, hp', hz', r'⟩ := q
  have kk := kp_trans k₁ (kp_trans y.1 k₄)
  obtain ⟨S', p'⟩ := (S.keeps kk).mut (lookM hm) hsb hp' hz' r'
  exact ⟨_, k, ⟨rfl, S'⟩, (Pres.keeps kk).trans p'⟩
theorem Mu.append {a : Addr} {items : List D} {d : D} (hz : items.length < 1000000) : MuJ prog w h0 c σ μ "list.append" a items [d] (items ++ [d]) := fun s vs its P z hp rr rd => by
  rw [RepL] at rd
  obtain ⟨v, vs', rfl, rv, rn⟩ := rd
  rw [RepL] at rn
  subst rn
  have e1 := rr.length
  refine wpAny_list_append_plain hp (fun h' hp' hs' => ⟨s, h', s.toks, _, kp_rfl, rfl, hs', hp', by simp; omega, ?_⟩) (by rw [sizeLine_eq]; simp at e1; omega)
  simpa using rr.append (RepL.one rv)
end
end Mine
end
section
open PySem PySem.Calls PySem.W PyProof.Rows
open PySem.Builtin PySem.Builtin.Str
namespace Mine
def clipI (v : Option Int) (dflt n : Nat) : Nat := match v with
  | none => dflt
  | some i => (max 0 (min (if i < 0 then i + n else i) n)).toNat
/-- a slice by ones -/
def slc {α : Type} (lo hi : Option Int) (l : List α) : List α := (l.drop (clipI lo 0 l.length)).take (clipI hi l.length l.length - clipI lo 0 l.length)
theorem clip_le {v : Option Int} {d n : Nat} (h : d ≤ n) : clipI v d n ≤ n := by
  unfold clipI
  split
  · exact h
  · rename_i i
    split <;> omega
theorem clip_eq (v : Option Int) (d n : Nat) : (match v with | none => (d : Int) | some i => (let i := if i < 0 then i + (n : Int) else i; if (1 : Int) > 0 then max 0 (min i n) else max (-1) (min i ((n : Int) - 1)))) = (clipI v d n : Int) := by
  unfold clipI
  cases v with
  | none => rfl
  | some i =>
    dsimp only
    rw [if_pos (by decide)]
    omega
theorem pick_slc {α : Type} (lo hi : Option Int) (l : List α) : (sliceRange (clipI lo 0 l.length) (clipI hi l.length l.length) 1).filterMap (l[·]?) = slc lo hi l := by
  rw [sliceRange_one]
  unfold slc
  have h1 := clip_le (v := lo) (d := 0) (n := l.length) (Nat.zero_le _)
  have h2 := clip_le (v := hi) (d := l.length) (n := l.length) (Nat.le_refl _)
  generalize clipI lo 0 l.length = a at *
  generalize clipI hi l.length l.length = b at *
  by_cases hab : a ≤ b
  · exact StrLaws.picks l (b - a) a (by omega)
  · rw [show b - a = 0 by omega]; simp
theorem str_slc (lo hi : Option Int) (x : Str) : (strSliceIndices lo hi 1 x.length).filterMap (x.cps[·]?) = slc lo hi x.cps.toList := by
  have e : strSliceIndices lo hi 1 x.length = sliceRange (clipI lo 0 x.cps.toList.length) (clipI hi x.cps.toList.length x.cps.toList.length) 1 := by
    unfold strSliceIndices
    simp only [show ((1 : Int) > 0) = True by simp, if_true]
    have hn : x.length = x.cps.toList.length := by simp [Str.length]
    rw [hn]
    have c1 := clip_eq lo 0 x.cps.toList.length
    have c2 := clip_eq hi x.cps.toList.length x.cps.toList.length
    simp only [show ((1 : Int) > 0) = True by simp, if_true] at c1 c2
    rw [← c1, ← c2]
    rfl
  rw [e, ← pick_slc]
  simp
theorem lst_slc {α : Type} (lo hi : Option Int) (l : Array α) : (sliceRange (sliceBounds lo hi none l.size).1 (sliceBounds lo hi none l.size).2.1 (sliceBounds lo hi none l.size).2.2).filterMap (l[·]?) = slc lo hi l.toList := by
  rw [← pick_slc]
  have c1 := clip_eq lo 0 l.toList.length
  have c2 := clip_eq hi l.toList.length l.toList.length
  simp only [show ((1 : Int) > 0) = True by simp, if_true] at c1 c2
  rw [← c1, ← c2]
  simp only [sliceBounds, Option.getD_none, show ((1 : Int) > 0) = True by simp, if_true]
  simp
  rfl
theorem slc_len {α : Type} (lo hi : Option Int) (l : List α) : (slc lo hi l).length ≤ l.length := by
  unfold slc; rw [List.length_take, List.length_drop]; omega
theorem repL_slc {h : Heap} {av : Av} {ds : List D} {vs : List Value} (r : RepL h av ds vs) (lo hi : Option Int) : RepL h av (slc lo hi ds) (slc lo hi vs) := by
  unfold slc
  rw [r.length]
  exact (r.drop _).take _
section
variable {prog : Program} {w : World} {h0 : Heap} {c : Cx} {σ : St} {μ : Mu}
def PaJ (prog : Program) (w : World) (h0 : Heap) (c : Cx) (σ : St) (μ : Mu) (x : Option Expr) (lo : Option Int) : Prop :=
  ∀ s, PSt h0 c σ μ s → wpAny (model prog w) c.A (evalPart x c.env) (fun v s' => Keeps s s' ∧ ∃ p : Option (Int × Tok), v = partValue p ∧ p.map (·.1) = lo) NoE s
theorem Pa.no : PaJ prog w h0 c σ μ none none := fun s P => wpAny_pure ⟨kp_rfl, none, rfl, rfl⟩
theorem Pa.so {e : Expr} {i : Int} (h : EvJ prog w h0 c σ μ e (.int i)) : PaJ prog w h0 c σ μ (some e) (some i) := fun s P => wm (h s P) fun v s' x => by
  obtain ⟨k, r⟩ := x
  rw [Rep] at r
  obtain ⟨t, rfl⟩ := r
  exact ⟨k, some (i, t), rfl, rfl⟩
theorem isPart_of {p : Option (Int × Tok)} : IsPart (partValue p) (p.map (·.1)) := by cases p with | none => exact .none | some q => exact .int _ _
/-- a list's items, the list frozen or own -/
def LiJ (h0 : Heap) (c : Cx) (σ : St) (μ : Mu) (d : D) (ds : List D) : Prop :=
  ∀ s v, PSt h0 c σ μ s → Rep s.heap (avs c.av μ) d v → ds.length ≤ 1000000 ∧ ∃ a its, v = .ref a ∧ s.heap.PlainList a its ∧ RepL s.heap (avs c.av μ) ds its.toList
theorem Li.lst {ds : List D} : LiJ h0 c σ μ (.lst ds) ds := fun s v P r => by
  rw [Rep] at r
  obtain ⟨z, a, vs, rfl, _, hp, rr⟩ := r
  exact ⟨z, a, vs, rfl, hp, rr⟩
theorem Li.mut {a : Addr} {ds : List D} (h : μ.lookup a = some ds) : LiJ h0 c σ μ (.mut a) ds := fun s v P r => by
  rw [Rep] at r; subst r
  obtain ⟨z, vs, hp, rr⟩ := P.own _ (lookM h)
  exact ⟨z, a, vs, rfl, hp, rr⟩
theorem eval_slice {lower upper : Option Expr} {p : Pos} {lo hi : Option Int} (hl : PaJ prog w h0 c σ μ lower lo) (hu : PaJ prog w h0 c σ μ upper hi) {s : Shared} (P : PSt h0 c σ μ s) {Q : Value → Shared → Prop}
    (k : ∀ (pl pu : Option (Int × Tok)) s' sl, Keeps s s' → pl.map (·.1) = lo → pu.map (·.1) = hi → s'.heap.get? sl = some { cls := .type "slice", data := .fields #[partValue pl, partValue pu, .none] } → Q (.ref sl) s') :
    wpAny (model prog w) c.A (eval (.Slice lower upper none p) c.env) Q NoE s :=
  wpAny_Slice (wm (hl s P) fun v s₁ x => wm (hu s₁ (P.keeps x.1)) fun v' s₂ y => by
    obtain ⟨k₁, pl, rfl, e₁⟩ := x
    obtain ⟨k₂, pu, rfl, e₂⟩ := y
    rw [evalPart_none]
    exact wpAny_pure (k pl pu _ _ (kp_trans k₁ (kp_trans k₂ kp_push')) e₁ e₂ (Heap.get?_push_size _ rfl)))
theorem Ev.sliceL {value : Expr} {lower upper : Option Expr} {p pos : Pos} {lo hi : Option Int} {d : D} {ds : List D} (hv : EvJ prog w h0 c σ μ value d) (hd : LiJ h0 c σ μ d ds) (hl : PaJ prog w h0 c σ μ lower lo) (hu : PaJ prog w h0 c σ μ upper hi) :
    EvJ prog w h0 c σ μ (.Subscript value (.Slice lower upper none p) pos) (.lst (slc lo hi ds)) := fun s P =>
  Subscript_ (hv.run P fun v s₁ k₁ P₁ r => eval_slice hl hu P₁ fun pl pu s₂ sl k₂ e₁ e₂ hsl => by
    have P₂ := P₁.keeps k₂
    obtain ⟨z, a, its, rfl, ⟨n, hp⟩, rr⟩ := hd s₂ v P₂ (r.keeps (kp k₂))
    have hil : s₂.heap.IsList a its := ⟨_, hp, rfl, n, rfl⟩
    have sz : its.size ≤ sizeLine := by
      have e1 : ds.length = its.toList.length := rr.length
      have e2 : its.toList.length = its.size := by simp
      rw [sizeLine_eq]; omega
    refine tail_any hil.typeIs list_getitem_lookup (wpAny_getItem_list_slice hil ⟨_, hsl, rfl, rfl⟩ isPart_of isPart_of .none (by simp) ?_ sz) (ops := [.ref sl, .ref a]) rfl
    refine ⟨kp_trans k₁ (kp_trans k₂ kp_push'), ?_⟩
    rw [Rep]
    refine ⟨Nat.le_trans (slc_len _ _ _) z, _, _, rfl, P₂.offSize, ⟨0, Heap.get?_push_size _ rfl⟩, ?_⟩
    rw [e₁, e₂]
    have e5 : (slicePick its lo hi none).toList = slc lo hi its.toList := by
      have := lst_slc lo hi its
      unfold slicePick; rw [this]
    rw [e5]
    exact (repL_slc rr lo hi).keeps fun b o e => Heap.get?_push_of_some _ e)
theorem Ev.sliceS {value : Expr} {lower upper : Option Expr} {p pos : Pos} {lo hi : Option Int} {l : List Nat} (hv : EvJ prog w h0 c σ μ value (.str l)) (hl : PaJ prog w h0 c σ μ lower lo) (hu : PaJ prog w h0 c σ μ upper hi) :
    EvJ prog w h0 c σ μ (.Subscript value (.Slice lower upper none p) pos) (.str (slc lo hi l)) := fun s P =>
  Subscript_ (hv.run P fun v s₁ k₁ P₁ r => eval_slice hl hu P₁ fun pl pu s₂ sl k₂ e₁ e₂ hsl => by
    rw [Rep] at r
    obtain ⟨z, t, rfl⟩ := r
    refine tail_any (typeIs_str _ _ _) PySem.F.slot_str_getitem.lookup (wpAny_getItem_str_slice (l := pl) (u := pu) (st := none) ⟨_, hsl, rfl, rfl⟩ rfl ?_) rfl
    have hk := kp_trans k₁ k₂
    have e : (slicePicked (mkS l) pl pu none).filterMap ((mkS l).cps[·]?) = slc lo hi l := by
      unfold slicePicked
      rw [e₁, e₂]
      have := str_slc lo hi (mkS l)
      simpa using this
    have zz := slc_len lo hi l
    unfold sliceMade
    split
    · rename_i hc
      refine ⟨hk, ?_⟩
      rw [Rep]
      refine ⟨by omega, t, ?_⟩
      congr 1
      have hlen : (slicePicked (mkS l) pl pu none).length = l.length := by simpa [Str.length] using hc
      have hl' : slc lo hi l = l := by
        have hn : (slc lo hi l).length = l.length := by
          unfold slicePicked at hlen
          rw [e₁, e₂] at hlen
          have e3 : strSliceIndices lo hi 1 (mkS l).length = sliceRange (clipI lo 0 l.length) (clipI hi l.length l.length) 1 := by
            unfold strSliceIndices
            have c1 := clip_eq lo 0 l.length
            have c2 := clip_eq hi l.length l.length
            simp only [show ((1 : Int) > 0) = True by simp, if_true] at c1 c2 ⊢
            have hn : (mkS l).length = l.length := by simp [Str.length]
            rw [hn, ← c1, ← c2]; rfl
          have e4 : (sliceRange (clipI lo 0 l.length) (clipI hi l.length l.length) 1).length = l.length := by
            rw [← e3]; simpa using hlen
          rw [sliceRange_one] at e4
          simp at e4
          unfold slc
          have h1 := clip_le (v := lo) (d := 0) (n := l.length) (Nat.zero_le _)
          have h2 := clip_le (v := hi) (d := l.length) (n := l.length) (Nat.le_refl _)
          rw [List.length_take, List.length_drop]; omega
        unfold slc at hn ⊢
        rw [List.length_take, List.length_drop] at hn
        by_cases h0' : l.length = 0
        · have : l = [] := List.length_eq_zero_iff.mp h0'
          subst this; simp
        · have ha : clipI lo 0 l.length = 0 := by omega
          rw [ha, List.drop_zero] at *
          exact List.take_of_length_le (by omega)
      rw [hl']
    · refine ⟨?_, kp_trans hk kp_toks, ?_⟩
      · show Array.size _ ≤ _
        rw [e, List.size_toArray, sizeLine_eq]; omega
      · rw [e, Rep]; exact ⟨by omega, _, rfl⟩)
end
end Mine
end
section
open PySem PySem.Calls PySem.W PyProof.Rows
open PySem.Builtin PySem.Builtin.Str
namespace Mine
theorem repS {h : Heap} {av : Av} {l : List Nat} {t : Tok} (hz : l.length ≤ 1000000) : Rep h av (.str l) (.str (mkS l) t) := by rw [Rep]; exact ⟨hz, t, rfl⟩
theorem repSX {h : Heap} {av : Av} {l : List Nat} {x : Str} {t : Tok} (hz : l.length ≤ 1000000) (e : x.cps.toList = l) : Rep h av (.str l) (.str x t) := by
  rw [Rep]; refine ⟨hz, t, ?_⟩; congr 1; subst e; obtain ⟨⟨_⟩⟩ := x; rfl
theorem repI {h : Heap} {av : Av} {i : Int} {t : Tok} : Rep h av (.int i) (.int i t) := by rw [Rep]; exact ⟨t, rfl⟩
theorem repB {h : Heap} {av : Av} {b : Bool} : Rep h av (.bool b) (.bool b) := by rw [Rep]
theorem unS {h : Heap} {av : Av} {l : List Nat} {v : Value} (r : Rep h av (.str l) v) : l.length ≤ 1000000 ∧ ∃ t, v = .str (mkS l) t := by rw [Rep] at r; exact r
theorem unI {h : Heap} {av : Av} {i : Int} {v : Value} (r : Rep h av (.int i) v) : ∃ t, v = .int i t := by rw [Rep] at r; exact r
theorem unB {h : Heap} {av : Av} {i : Bool} {v : Value} (r : Rep h av (.bool i) v) : v = .bool i := by rw [Rep] at r; exact r
theorem unL1 {h : Heap} {av : Av} {a : D} {vs : List Value} (r : RepL h av [a] vs) : ∃ v, vs = [v] ∧ Rep h av a v := by
  rw [RepL] at r; obtain ⟨v, vs', rfl, p, q⟩ := r; rw [RepL] at q; subst q; exact ⟨v, rfl, p⟩
theorem unL2 {h : Heap} {av : Av} {a b : D} {vs : List Value} (r : RepL h av [a, b] vs) : ∃ v u, vs = [v, u] ∧ Rep h av a v ∧ Rep h av b u := by
  rw [RepL] at r; obtain ⟨v, vs', rfl, p, q⟩ := r; obtain ⟨u, rfl, q'⟩ := unL1 q; exact ⟨v, u, rfl, p, q'⟩
theorem unL3 {h : Heap} {av : Av} {a b d : D} {vs : List Value} (r : RepL h av [a, b, d] vs) : ∃ v u x, vs = [v, u, x] ∧ Rep h av a v ∧ Rep h av b u ∧ Rep h av d x := by
  rw [RepL] at r; obtain ⟨v, vs', rfl, p, q⟩ := r; obtain ⟨u, x, rfl, q'⟩ := unL2 q; exact ⟨v, u, x, rfl, p, q'⟩
@[simp] theorem mkS_len (l : List Nat) : (mkS l).length = l.length := by simp [Str.length]
@[simp] theorem mkS_list (l : List Nat) : (mkS l).cps.toList = l := by simp
theorem li_size {ds : List D} {h : Heap} {av : Av} {its : Array Value} (r : RepL h av ds its.toList) : its.size = ds.length := by
  have e1 : ds.length = its.toList.length := r.length
  have e2 : its.toList.length = its.size := by simp
  omega
theorem pl_list {h : Heap} {a : Addr} {its : Array Value} (p : h.PlainList a its) : h.IsList a its := p.isList
section
variable {prog : Program} {w : World} {h0 : Heap} {c : Cx} {σ : St} {μ : Mu}
theorem Bi.add {a b : Int} : BinJ prog w h0 c σ μ .Add (.int a) (.int b) (.int (a + b)) := fun s x y P rx ry => by
  obtain ⟨t, rfl⟩ := unI rx; obtain ⟨u, rfl⟩ := unI ry; exact PySem.P.add_int ⟨kp_toks, repI⟩
theorem Bi.sub {a b : Int} : BinJ prog w h0 c σ μ .Sub (.int a) (.int b) (.int (a - b)) := fun s x y P rx ry => by
  obtain ⟨t, rfl⟩ := unI rx; obtain ⟨u, rfl⟩ := unI ry; exact PySem.P.sub_int ⟨kp_toks, repI⟩
theorem Bi.fdiv {a b : Int} (hb : b ≠ 0) (hp : divisionGoesByPylong a b = false) : BinJ prog w h0 c σ μ .FloorDiv (.int a) (.int b) (.int (a.fdiv b)) := fun s x y P rx ry => by
  obtain ⟨t, rfl⟩ := unI rx; obtain ⟨u, rfl⟩ := unI ry; exact floordiv_int hb ⟨kp_toks, repI⟩ (.inl hp)
theorem Bi.fmod {a b : Int} (hb : b ≠ 0) : BinJ prog w h0 c σ μ .Mod (.int a) (.int b) (.int (a.fmod b)) := fun s x y P rx ry => by
  obtain ⟨t, rfl⟩ := unI rx; obtain ⟨u, rfl⟩ := unI ry
  exact mod_int_or P.ok.handled (fun e => absurd e hb) fun _ => ⟨kp_toks, repI⟩
theorem Bi.pow {a n : Int} (hn : 0 ≤ n) (hsz : (Builtin.Int.intBits a : Int) * n ≤ 2 ^ 27) : BinJ prog w h0 c σ μ .Pow (.int a) (.int n) (.int (a ^ n.toNat)) := fun s x y P rx ry => by
  obtain ⟨t, rfl⟩ := unI rx; obtain ⟨u, rfl⟩ := unI ry; exact pow_int hn hsz ⟨kp_toks, repI⟩
theorem In.add {a b : Int} : InpJ prog w h0 c σ μ .Add (.int a) (.int b) (.int (a + b)) := fun s x y P rx ry => by
  obtain ⟨t, rfl⟩ := unI rx; obtain ⟨u, rfl⟩ := unI ry; exact PySem.P.iadd_int ⟨kp_toks, repI⟩
theorem Cm.lt {a b : Int} : CmpJ prog w h0 c σ μ .Lt (.int a) (.int b) (decide (a < b)) := fun s x y P rx ry => by
  obtain ⟨t, rfl⟩ := unI rx; obtain ⟨u, rfl⟩ := unI ry; exact PySem.P.lt_int ⟨kp_rfl, rfl⟩
theorem Cm.gt {a b : Int} : CmpJ prog w h0 c σ μ .Gt (.int a) (.int b) (decide (a > b)) := fun s x y P rx ry => by
  obtain ⟨t, rfl⟩ := unI rx; obtain ⟨u, rfl⟩ := unI ry; exact PySem.P.gt_int ⟨kp_rfl, rfl⟩
theorem Cm.ge {a b : Int} : CmpJ prog w h0 c σ μ .GtE (.int a) (.int b) (decide (a ≥ b)) := fun s x y P rx ry => by
  obtain ⟨t, rfl⟩ := unI rx; obtain ⟨u, rfl⟩ := unI ry; exact PySem.P.ge_int ⟨kp_rfl, rfl⟩
theorem Cm.eqI {a b : Int} : CmpJ prog w h0 c σ μ .Eq (.int a) (.int b) (a == b) := fun s x y P rx ry => by
  obtain ⟨t, rfl⟩ := unI rx; obtain ⟨u, rfl⟩ := unI ry; exact PySem.P.eq_int ⟨kp_rfl, rfl⟩
theorem Tr.bool {b : Bool} : TruJ prog w h0 c σ μ (.bool b) b := fun s x P r => by
  rw [unB r]; exact wpAny_truthy_bool ⟨kp_rfl, rfl⟩
theorem Tr.str {l : List Nat} : TruJ prog w h0 c σ μ (.str l) (!l.isEmpty) := fun s x P r => by
  obtain ⟨z, t, rfl⟩ := unS r
  refine PySem.P.truthy_str (by rw [mkS_len]; omega) ⟨kp_toks, ?_⟩
  rw [mkS_len]
  cases l with
  | nil => rfl
  | cons a r => simp [List.isEmpty]; omega
theorem Tr.li {d : D} {ds : List D} (hd : LiJ h0 c σ μ d ds) : TruJ prog w h0 c σ μ d (!ds.isEmpty) := fun s x P r => by
  obtain ⟨z, a, its, rfl, hp, rr⟩ := hd s x P r
  have e := li_size rr
  refine wpAny_truthy_list (pl_list hp) (by rw [e]; omega) ⟨kp_toks, ?_⟩
  have : its.isEmpty = ds.isEmpty := by
    obtain ⟨l⟩ := its
    simp at e
    cases l <;> cases ds <;> simp_all
  rw [this]
theorem Bi.addS {a b : List Nat} (hz : a.length + b.length ≤ 1000000) : BinJ prog w h0 c σ μ .Add (.str a) (.str b) (.str (a ++ b)) := fun s x y P rx ry => by
  obtain ⟨z, t, rfl⟩ := unS rx; obtain ⟨z', u, rfl⟩ := unS ry
  refine SB.add (fun t' k => ⟨kp_toks, repSX (by simpa using hz) (by simp [Str.cps_append])⟩) (by rw [mkS_len, mkS_len, sizeLine_eq]; omega)
theorem In.addS {a b : List Nat} (hz : a.length + b.length ≤ 1000000) : InpJ prog w h0 c σ μ .Add (.str a) (.str b) (.str (a ++ b)) := fun s x y P rx ry => by
  obtain ⟨z, t, rfl⟩ := unS rx; obtain ⟨z', u, rfl⟩ := unS ry
  refine SB.iadd (fun t' k => ⟨kp_toks, repSX (by simpa using hz) (by simp [Str.cps_append])⟩) (by rw [mkS_len, mkS_len, sizeLine_eq]; omega)
theorem Cm.eqS {a b : List Nat} : CmpJ prog w h0 c σ μ .Eq (.str a) (.str b) (a == b) := fun s x y P rx ry => by
  obtain ⟨z, t, rfl⟩ := unS rx; obtain ⟨z', u, rfl⟩ := unS ry
  exact PySem.P.eq_str ⟨kp_rfl, by simp⟩
theorem Cm.neS {a b : List Nat} : CmpJ prog w h0 c σ μ .NotEq (.str a) (.str b) (a != b) := fun s x y P rx ry => by
  obtain ⟨z, t, rfl⟩ := unS rx; obtain ⟨z', u, rfl⟩ := unS ry
  exact PySem.P.ne_str ⟨kp_rfl, by simp⟩
/-- is the text within -/
def inS (a b : List Nat) : Bool := Txt.contains (mkS b) (mkS a)
theorem inS_one (x : Nat) (b : List Nat) : inS [x] b = decide (x ∈ b) := by
  unfold inS Txt.contains
  have := StrLaws.found_one (mkS b) x
  simpa using this
theorem Cm.inS {a b : List Nat} : CmpJ prog w h0 c σ μ .In (.str a) (.str b) (Mine.inS a b) := fun s x y P rx ry => by
  obtain ⟨z, t, rfl⟩ := unS rx; obtain ⟨z', u, rfl⟩ := unS ry
  exact SB.contains ⟨kp_rfl, rfl⟩
theorem Cm.ninS {a b : List Nat} : CmpJ prog w h0 c σ μ .NotIn (.str a) (.str b) (!Mine.inS a b) := fun s x y P rx ry => by
  obtain ⟨z, t, rfl⟩ := unS rx; obtain ⟨z', u, rfl⟩ := unS ry
  exact SB.notContains ⟨kp_rfl, rfl⟩
/-- texts repeated -/
def repS' (l : List Nat) (n : Int) : List Nat := (List.replicate n.toNat l).flatten
theorem fold_cat (l : List (Array Nat)) (acc : Array Nat) : (l.foldl (· ++ ·) acc).toList = acc.toList ++ (l.map Array.toList).flatten := by
  induction l generalizing acc with
  | nil => simp
  | cons a r ih => rw [List.foldl_cons, ih]; simp
theorem Bi.mulS {l : List Nat} {n : Int} (hn : n ≤ 1000) (hl : l.length ≤ 1000) (h0' : 0 ≤ n) : BinJ prog w h0 c σ μ .Mult (.str l) (.int n) (.str (repS' l n)) := fun s x y P rx ry => by
  obtain ⟨z, t, rfl⟩ := unS rx; obtain ⟨u, rfl⟩ := unI ry
  have hmul : l.length * n.toNat ≤ 1000 * 1000 := Nat.mul_le_mul hl (by omega)
  have e : (Txt.mul (mkS l) n).cps.toList = repS' l n := by
    unfold Txt.mul repS'
    by_cases h1 : n < 1
    · have : n = 0 := by omega
      subst this; simp [Str.empty]
    · rw [if_neg h1]
      split
      · rename_i hc
        rw [mkS_list]
        simp only [mkS_len, Bool.or_eq_true, beq_iff_eq] at hc
        rcases hc with rfl | hc
        · simp
        · have : l = [] := List.length_eq_zero_iff.mp hc
          subst this; simp
      · rw [fold_cat]; simp
  refine SB.mul ⟨by rw [decide_eq_false (by omega), decide_eq_false (by omega)]; rfl, fun h1 _ => ?_, fun _ _ => ?_⟩ fun t' k => ⟨kp_toks, repSX ?_ e⟩
  · rw [mkS_len]
    have h2 : ((2 ^ 63 - 1) / n : Int) ≥ 1000 := by
      have : (1000 : Int) * n ≤ 2 ^ 63 - 1 := by omega
      exact Int.le_ediv_of_mul_le (by omega) this
    omega
  · rw [mkS_len]; unfold tooLong; rw [sizeLine_eq]; simp; omega
  · unfold repS'
    simp only [List.length_flatten, List.map_replicate, List.sum_replicate_nat]
    rw [Nat.mul_comm]; omega
theorem Bi.addL {a b : D} {xs ys : List D} (ha : LiJ h0 c σ μ a xs) (hb : LiJ h0 c σ μ b ys) (hz : xs.length + ys.length ≤ 1000000) : BinJ prog w h0 c σ μ .Add a b (.lst (xs ++ ys)) := fun s x y P rx ry => by
  obtain ⟨z, l, its, rfl, ⟨n, hp⟩, r⟩ := ha s x P rx
  obtain ⟨z', l', its', rfl, ⟨n', hp'⟩, r'⟩ := hb s y P ry
  have e := li_size r; have e' := li_size r'
  refine concat_meets ⟨_, hp, rfl⟩ ⟨_, hp', rfl⟩ noFill_list_add seq_list_add PySem.F.slot_list_add PySem.F.entry_list_add (PySem.F.args_list_add_2 _ _)
    (AutoSeq1.list___add___list_list_0 l its n l' its' n' (by rw [sizeLine_eq]; omega)) ⟨hp, hp', ?_⟩
  refine ⟨kp_push, ?_⟩
  rw [Rep]
  exact ⟨by simpa using hz, _, _, rfl, P.offSize, ⟨0, Heap.get?_push_size _ rfl⟩, by simpa using (r.append r').keeps fun b o e => Heap.get?_push_of_some _ e⟩
theorem Bi.mulL {a : D} {xs : List D} {n : Int} (ha : LiJ h0 c σ μ a xs) (hn : n ≤ 1000) (h0' : 0 ≤ n) (hx : xs.length ≤ 1000) : BinJ prog w h0 c σ μ .Mult a (.int n) (.lst (List.replicate n.toNat xs).flatten) := fun s x y P rx ry => by
  obtain ⟨z, l, its, rfl, ⟨k, hp⟩, r⟩ := ha s x P rx
  obtain ⟨u, rfl⟩ := unI ry
  have e := li_size r
  have hmul : xs.length * n.toNat ≤ 1000 * 1000 := Nat.mul_le_mul hx (by omega)
  have hmul' : its.size * n.toNat ≤ 1000000 := by rw [e]; omega
  have key : (List.foldl (fun x1 x2 => x1 ++ x2) #[] (List.replicate (if its.isEmpty = true then 0 else n.toNat) its)).toList = (List.replicate n.toNat its.toList).flatten := by
    have fc : ∀ (l : List (Array Value)) (acc : Array Value), (l.foldl (· ++ ·) acc).toList = acc.toList ++ (l.map Array.toList).flatten := by
      intro l
      induction l with
      | nil => simp
      | cons a r ih => intro acc; rw [List.foldl_cons, ih]; simp
    rw [fc]
    split
    · rename_i he
      have : its = #[] := by simpa using he
      subst this; simp
    · simp
  have rr : ∀ m : Nat, RepL s.heap (avs c.av μ) (List.replicate m xs).flatten (List.replicate m its.toList).flatten := by
    intro m
    induction m with
    | zero => simpa using RepL.nil
    | succ m ih => rw [List.replicate_succ, List.replicate_succ, List.flatten_cons, List.flatten_cons]; exact r.append ih
  refine wpAny_binaryOp_repeat_ref (T := "list") (U := "int") (by decide) ⟨_, hp, rfl⟩ (fun s' => typeIs_int s' n u) noFill_list_mul PySem.F.fills_int_mul PySem.F.slot_int_rmul repeat_list PySem.F.slot_int_index.lookup
    (call_meets PySem.F.slot_int_rmul (typeIs_int s n u) PySem.F.entry_int_rmul (PySem.F.args_int_rmul_2 _ _) (int___rmul___int_list n u l its k)
      ⟨hp, rfl, ⟨_, hp, rfl⟩, call_meets PySem.F.slot_list_mul ⟨_, hp, rfl⟩ PySem.F.entry_list_mul (PySem.F.args_list_mul_2 _ _)
        (AutoListH.list___mul___list_int_3 l its k n u (by simp [Builtin.List.listFitsIndex]; omega) (by omega) (by simp [Builtin.List.listTooLong, sizeLine]; omega)) ⟨hp, ?_⟩⟩)
  refine ⟨kp_push, ?_⟩
  rw [Rep]
  refine ⟨?_, _, _, rfl, P.offSize, ⟨0, Heap.get?_push_size _ rfl⟩, ?_⟩
  · simp only [List.length_flatten, List.map_replicate, List.sum_replicate_nat]; rw [Nat.mul_comm]; omega
  · rw [key]; exact (rr _).keeps fun b o e => Heap.get?_push_of_some _ e
theorem Ca.lenL {a : D} {xs : List D} (ha : LiJ h0 c σ μ a xs) : CaJ prog w h0 c σ μ (.builtin "len") [a] (.int xs.length) := fun s vs P r => by
  obtain ⟨v, rfl, rv⟩ := unL1 r
  obtain ⟨z, l, its, rfl, hp, rr⟩ := ha s v P rv
  have e := li_size rr
  exact Calls.call_len_list (pl_list hp) (by rw [e]; omega) ⟨kp_toks, by rw [e]; exact repI⟩
theorem Ca.lenS {l : List Nat} : CaJ prog w h0 c σ μ (.builtin "len") [.str l] (.int l.length) := fun s vs P r => by
  obtain ⟨v, rfl, rv⟩ := unL1 r
  obtain ⟨z, t, rfl⟩ := unS rv
  exact PySem.P.len_str (by rw [mkS_len]; omega) ⟨kp_toks, by rw [mkS_len]; exact repI⟩
theorem Ca.max {a b : Int} : CaJ prog w h0 c σ μ (.builtin "max") [.int a, .int b] (.int (Max.max a b)) := fun s vs P r => by
  obtain ⟨v, u, rfl, rv, ru⟩ := unL2 r
  obtain ⟨t, rfl⟩ := unI rv; obtain ⟨t', rfl⟩ := unI ru
  refine max_two_ints P.ok.handled fun h' tk hk => ⟨⟨h', tk, rfl, hk⟩, ?_⟩
  split
  · rw [show Max.max a b = b by omega]; exact repI
  · rw [show Max.max a b = a by omega]; exact repI
theorem Ca.startswith {l p : List Nat} : CaJ prog w h0 c σ μ (.builtin "str.startswith") [.str l, .str p] (.bool (Txt.startswith (mkS l) (mkS p))) := fun s vs P r => by
  obtain ⟨v, u, rfl, rv, ru⟩ := unL2 r
  obtain ⟨_, t, rfl⟩ := unS rv; obtain ⟨_, t', rfl⟩ := unS ru
  exact SC.startswith ⟨kp_rfl, repB⟩
theorem Ca.endswith {l p : List Nat} : CaJ prog w h0 c σ μ (.builtin "str.endswith") [.str l, .str p] (.bool (Txt.endswith (mkS l) (mkS p))) := fun s vs P r => by
  obtain ⟨v, u, rfl, rv, ru⟩ := unL2 r
  obtain ⟨_, t, rfl⟩ := unS rv; obtain ⟨_, t', rfl⟩ := unS ru
  exact SC.endswith ⟨kp_rfl, repB⟩
theorem Ca.strip {l p : List Nat} : CaJ prog w h0 c σ μ (.builtin "str.strip") [.str l, .str p] (.str (Txt.stripChars (mkS l) (mkS p)).cps.toList) := fun s vs P r => by
  obtain ⟨v, u, rfl, rv, ru⟩ := unL2 r
  obtain ⟨z, t, rfl⟩ := unS rv; obtain ⟨_, t', rfl⟩ := unS ru
  refine SC.stripChars (fun t' k => ⟨kp_toks, repSX ?_ rfl⟩) (by rw [mkS_len, sizeLine_eq]; omega)
  have := len_stripChars (mkS l) (mkS p)
  simp [Str.length] at this
  simpa using Nat.le_trans this z
end
end Mine
end
section
open PySem PySem.Calls PySem.W PyProof.Rows
open PySem.Builtin PySem.Builtin.Str
namespace Mine
abbrev dS (l : List (List Nat)) : List D := l.map D.str
theorem dS_inj : ∀ {a b : List (List Nat)}, dS a = dS b → a = b
  | [], [], _ => rfl
  | x :: a, y :: b, h => by
    simp only [dS, List.map_cons, List.cons.injEq, D.str.injEq] at h
    rw [h.1, dS_inj (a := a) (b := b) h.2]
theorem not_before {x : List Nat} : ∀ (l : List (List Nat)) (m : Nat), m < l.idxOf x → l[m]? ≠ some x
  | [], m, h => by simp at h
  | y :: l, m, h => by
    rw [List.idxOf_cons] at h
    cases hy : y == x with
    | true => simp [hy] at h
    | false =>
      simp only [hy, cond_false] at h
      cases m with
      | zero => simp; intro e; rw [e] at hy; simp at hy
      | succ m => simpa using not_before l m (by omega)
/-- the texts of a list of values -/
theorem unSs {h : Heap} {av : Av} : ∀ {l : List (List Nat)} {vs : List Value}, RepL h av (dS l) vs → (∀ x ∈ l, x.length ≤ 1000000) ∧ ∃ ts : List (Str × Tok), vs = strValues ts ∧ ts.map (·.1) = l.map mkS
  | [], vs, r => by simp only [dS, List.map_nil] at r; rw [RepL] at r; subst r; exact ⟨by simp, [], rfl, rfl⟩
  | x :: l, vs, r => by
    simp only [dS, List.map_cons] at r
    rw [RepL] at r
    obtain ⟨v, vs', rfl, p, q⟩ := r
    obtain ⟨z, t, rfl⟩ := unS p
    obtain ⟨zs, ts, rfl, e⟩ := unSs (l := l) q
    refine ⟨by simpa using ⟨z, zs⟩, (mkS x, t) :: ts, rfl, by simp [e]⟩
theorem mkSs {h : Heap} {av : Av} : ∀ {l : List (List Nat)} {ts : List (Str × Tok)}, (∀ x ∈ l, x.length ≤ 1000000) → ts.map (·.1) = l.map mkS → RepL h av (dS l) (strValues ts)
  | [], ts, _, e => by
    have : ts = [] := by simpa using e
    subst this; exact RepL.nil
  | x :: l, [], _, e => by simp at e
  | x :: l, (y, t) :: ts, z, e => by
    simp only [List.map_cons, List.cons.injEq] at e
    obtain ⟨rfl, e⟩ := e
    exact RepL.cons (repS (z x (by simp))) (mkSs (fun w hw => z w (by simp [hw])) e)
def eS (x : Str) : Value → Bool
  | .str y _ => y == x
  | _ => false
theorem eqG {x y : Str} {t u : Tok} : MeetsSeq.EqGives (.str y u) (.str x t) (eS x (.str y u)) := fun prog w A E s Q h => wpAny_eqBool_str h
section
variable {prog : Program} {w : World} {h0 : Heap} {c : Cx} {σ : St} {μ : Mu}
theorem any_eS {l : List (List Nat)} {ts : List (Str × Tok)} (e : ts.map (·.1) = l.map mkS) (x : List Nat) : (strValues ts).any (eS (mkS x)) = l.contains x := by
  induction l generalizing ts with
  | nil => have : ts = [] := by simpa using e
           subst this; rfl
  | cons y l ih =>
    cases ts with
    | nil => simp at e
    | cons p ts =>
      obtain ⟨z, t⟩ := p
      simp only [List.map_cons, List.cons.injEq] at e
      obtain ⟨rfl, e⟩ := e
      have := ih e
      simp only [strValues, List.map_cons, List.any_cons, List.contains_cons]
      rw [show (List.map (fun p => Value.str p.1 p.2) ts).any (eS (mkS x)) = l.contains x from this]
      congr 1
      simp only [eS]
      rw [Bool.eq_iff_iff]
      simp only [beq_iff_eq, Str.mk.injEq]
      constructor
      · intro h; exact (List.toArray_inj h).symm
      · rintro rfl; rfl
theorem Cm.inL {a : D} {x : List Nat} {l : List (List Nat)} (ha : LiJ h0 c σ μ a (dS l)) : CmpJ prog w h0 c σ μ .In (.str x) a (l.contains x) := fun s v u P rv ru => by
  obtain ⟨_, t, rfl⟩ := unS rv
  obtain ⟨z, b, its, rfl, hp, rr⟩ := ha s u P ru
  obtain ⟨zs, ts, e1, e2⟩ := unSs rr
  refine PySem.SeqAt.in_listAt (eS (mkS x)) (pl_list hp) (fun y hy => ?_) ⟨kp_rfl, ?_⟩
  · have : y ∈ strValues ts := by rw [← e1]; simpa using hy
    simp only [strValues, List.mem_map] at this
    obtain ⟨p, _, rfl⟩ := this
    exact MeetsSeq.EqGives.at eqG _ _
  · congr 1
    rw [← any_eS e2 x, ← e1]; simp
theorem Cm.ninL {a : D} {x : List Nat} {l : List (List Nat)} (ha : LiJ h0 c σ μ a (dS l)) : CmpJ prog w h0 c σ μ .NotIn (.str x) a (!l.contains x) := fun s v u P rv ru => by
  obtain ⟨_, t, rfl⟩ := unS rv
  obtain ⟨z, b, its, rfl, hp, rr⟩ := ha s u P ru
  obtain ⟨zs, ts, e1, e2⟩ := unSs rr
  refine PySem.SeqAt.notIn_listAt (eS (mkS x)) (pl_list hp) (fun y hy => ?_) ⟨kp_rfl, ?_⟩
  · have : y ∈ strValues ts := by rw [← e1]; simpa using hy
    simp only [strValues, List.mem_map] at this
    obtain ⟨p, _, rfl⟩ := this
    exact MeetsSeq.EqGives.at eqG _ _
  · congr 2
    rw [← any_eS e2 x, ← e1]; simp
theorem tup_is {h : Heap} {a : Addr} {its : Array Value} (p : IsTup h a its) : h.IsTuple a its := let ⟨n, e⟩ := p; ⟨_, e, rfl, n, rfl⟩
theorem Cm.inT {x : List Nat} {l : List (List Nat)} : CmpJ prog w h0 c σ μ .In (.str x) (.tup (dS l)) (l.contains x) := fun s v u P rv ru => by
  obtain ⟨_, t, rfl⟩ := unS rv
  rw [Rep] at ru
  obtain ⟨z, b, its, rfl, _, hp, rr⟩ := ru
  obtain ⟨zs, ts, e1, e2⟩ := unSs rr
  refine PySem.SeqAt.in_tupleAt (eS (mkS x)) (tup_is hp) (fun y hy => ?_) ⟨kp_rfl, ?_⟩
  · have : y ∈ strValues ts := by rw [← e1]; simpa using hy
    simp only [strValues, List.mem_map] at this
    obtain ⟨p, _, rfl⟩ := this
    exact MeetsSeq.EqGives.at eqG _ _
  · congr 1
    rw [← any_eS e2 x, ← e1]; simp
theorem Cm.ninT {x : List Nat} {l : List (List Nat)} : CmpJ prog w h0 c σ μ .NotIn (.str x) (.tup (dS l)) (!l.contains x) := fun s v u P rv ru => by
  obtain ⟨_, t, rfl⟩ := unS rv
  rw [Rep] at ru
  obtain ⟨z, b, its, rfl, _, hp, rr⟩ := ru
  obtain ⟨zs, ts, e1, e2⟩ := unSs rr
  refine PySem.SeqAt.notIn_tupleAt (eS (mkS x)) (tup_is hp) (fun y hy => ?_) ⟨kp_rfl, ?_⟩
  · have : y ∈ strValues ts := by rw [← e1]; simpa using hy
    simp only [strValues, List.mem_map] at this
    obtain ⟨p, _, rfl⟩ := this
    exact MeetsSeq.EqGives.at eqG _ _
  · congr 2
    rw [← any_eS e2 x, ← e1]; simp
theorem Mu.remove {a : Addr} {l : List (List Nat)} {x : List Nat} (hx : x ∈ l) : MuJ prog w h0 c σ μ "list.remove" a (dS l) [.str x] (dS (l.erase x)) := fun s vs its P hown hp rr rd => by
  obtain ⟨v, rfl, rv⟩ := unL1 rd
  obtain ⟨_, t, rfl⟩ := unS rv
  obtain ⟨zs, ts, e1, e2⟩ := unSs rr
  obtain ⟨n, hg⟩ := id hp
  have e := li_size rr
  have hj : l.idxOf x < l.length := List.idxOf_lt_length_of_mem hx
  have hlen : its.size = l.length := by rw [e]; simp
  have hts : ts.length = l.length := by have := congrArg List.length e2; simpa using this
  have itm : ∀ i (hi : i < its.size), eS (mkS x) its[i] = (l[i]'(by omega) == x) := fun i hi => by
    have h1 : its.toList[i]? = some its[i] := by simp [hi]
    rw [e1] at h1
    simp only [strValues, List.getElem?_map] at h1
    have h2 : (ts.map (·.1))[i]? = (l.map mkS)[i]? := by rw [e2]
    simp only [List.getElem?_map] at h2
    rw [List.getElem?_eq_getElem (by omega : i < l.length)] at h2
    cases hq : ts[i]? with
    | none => rw [hq] at h1; simp at h1
    | some p =>
      rw [hq] at h1 h2
      simp only [Option.map_some, Option.some.injEq] at h1 h2
      rw [← h1]
      simp only [eS]
      rw [h2, Bool.eq_iff_iff]
      simp only [beq_iff_eq, Str.mk.injEq]
      constructor
      · intro h; exact List.toArray_inj h
      · intro h; rw [h]
  by_cases hsz : its.size ≤ sizeLine
  · refine call_meets PySem.F.slot_list_remove ⟨_, hg, rfl⟩ PySem.F.entry_list_remove (PySem.F.args_list_remove_2 _ _)
      (MeetsSeq.list_remove a its n _ (eS (mkS x)) (fun y hy => ?_) (l.idxOf x) (by omega) ?_ (fun m hm hlt => ?_) hsz) ⟨hg, ?_⟩
    · have : y ∈ strValues ts := by rw [← e1]; simpa using hy
      simp only [strValues, List.mem_map] at this
      obtain ⟨p, _, rfl⟩ := this
      exact eqG
    · rw [itm _ (by omega)]; simp
    · rw [itm _ hm]
      have hne : l[m]'(by omega) ≠ x := fun q => by
        exact not_before l m hlt (by rw [List.getElem?_eq_getElem (by omega), q])
      simpa using hne
    · have hup := Heap.get?_update_self (Obj.mapSeq fun xs => xs.eraseIdxIfInBounds (l.idxOf x)) hg rfl
      refine ⟨s, _, s.toks, its.eraseIdxIfInBounds (l.idxOf x), kp_rfl, rfl, Heap.SameBut.update .., ⟨_, hup⟩, ?_, ?_⟩
      · have h3 : (l.erase x).length ≤ l.length := List.length_erase_le
        have h4 : (dS l).length = its.toList.length := rr.length
        simp only [dS, List.length_map] at hown ⊢; omega
      · have h6 : (its.eraseIdxIfInBounds (l.idxOf x)).toList = its.toList.eraseIdx (l.idxOf x) := by
          unfold Array.eraseIdxIfInBounds
          rw [dif_pos (by omega)]; simp
        have h7 : dS (l.erase x) = (dS l).eraseIdx (l.idxOf x) := by
          rw [List.erase_eq_eraseIdx_of_idxOf (i := l.idxOf x) (by rfl)]
          have em : ∀ (l : List (List Nat)) (i : Nat), (l.eraseIdx i).map D.str = (l.map D.str).eraseIdx i := by
            intro l
            induction l with
            | nil => intro i; rfl
            | cons a r ih => intro i; cases i with
              | zero => rfl
              | succ i => simp [ih]
          exact em _ _
        rw [h6, h7, List.eraseIdx_eq_take_drop_succ, List.eraseIdx_eq_take_drop_succ]
        exact (rr.take _).append (rr.drop _)
  · exact absurd (show its.size ≤ sizeLine by
      have e9 := li_size rr
      rw [sizeLine_eq]; omega) hsz
end
end Mine
end
section
open PySem PySem.Calls PySem.W PyProof.Rows
open PySem.Builtin PySem.Builtin.Str
namespace Mine
theorem mem_le_sum : ∀ {l : List Nat} {x : Nat}, x ∈ l → x ≤ l.sum
  | y :: l, x, h => by
    rw [List.sum_cons]
    rcases List.mem_cons.mp h with rfl | h
    · omega
    · have := mem_le_sum h; omega
section
variable {prog : Program} {w : World} {h0 : Heap} {c : Cx} {σ : St} {μ : Mu}
theorem Ev.neg {e : Expr} {pos : Pos} {i : Int} (h : EvJ prog w h0 c σ μ e (.int i)) : EvJ prog w h0 c σ μ (.UnaryOp .USub e pos) (.int (-i)) := fun s P =>
  wpAny_UnaryOp (h.run P fun v s₁ k₁ P₁ r => by
    obtain ⟨t, rfl⟩ := unI r
    exact PySem.P.neg_int ⟨kp_trans k₁ kp_toks, repI⟩)
theorem pl_tail {value slice : Expr} {o i : Value} {T id : String} {A : Around} {E : Value → Shared → Prop} {s : Shared} {Q : Value → Shared → Prop} (hT : s.TypeIs o T)
    (hl : typeLookup (.type T) "__getitem__" = pure (some (.builtin id))) (hg : wpAny (model prog w) A (getItem o i) Q E s) (hs : subscripted slice false o i = operate [o, i] (getItem o i)) :
    wpAny (model prog w) A (subscriptTail value slice o i) Q E s := tail_any hT hl hg hs
def at_ (k : Int) (n : Nat) : Nat := (if k < 0 then k + n else k).toNat
theorem Ev.itemL {value slice : Expr} {pos : Pos} {d x : D} {ds : List D} {k : Int} (hv : EvJ prog w h0 c σ μ value d) (hs : EvJ prog w h0 c σ μ slice (.int k)) (hd : LiJ h0 c σ μ d ds)
    (hx : ds[at_ k ds.length]? = some x) (hlo : -(ds.length : Int) ≤ k) (hsl : ∀ o i, subscripted slice false o i = operate [o, i] (getItem o i) := by intro _ _; rfl) : EvJ prog w h0 c σ μ (.Subscript value slice pos) x := fun s P =>
  Subscript_ (hv.run P fun v s₁ k₁ P₁ r => hs.run P₁ fun vi s₂ k₂ P₂ ri => by
    obtain ⟨t, rfl⟩ := unI ri
    obtain ⟨z, a, its, rfl, hp, rr⟩ := hd s₂ v P₂ (r.keeps (kp k₂))
    have e := li_size rr
    obtain ⟨xv, hxv, rx⟩ := rr.get hx
    have hb : at_ k ds.length < ds.length := (List.getElem?_eq_some_iff.mp hx).1
    have hil := pl_list hp
    have fin : Keeps s s₂ ∧ Rep s₂.heap (avs c.av μ) x xv := ⟨kp_trans k₁ k₂, rx⟩
    unfold at_ at hxv hb
    refine tail_any hil.typeIs list_getitem_lookup (ops := [.ref a, .int k t]) ?_ (hsl _ _)
    by_cases h0' : k < 0
    · rw [if_pos h0'] at hxv hb
      exact wpAny_getItem_list_neg hil h0' (by rw [e]; exact hlo) (by omega) (by rw [e]; simpa using hxv) fin
    · rw [if_neg h0'] at hxv hb
      exact wpAny_getItem_list hil (by omega) (by omega) (by simpa using hxv) fin)
theorem Ev.itemS {value slice : Expr} {pos : Pos} {l : List Nat} {k : Int} {x : Nat} (hv : EvJ prog w h0 c σ μ value (.str l)) (hs : EvJ prog w h0 c σ μ slice (.int k))
    (hx : l[at_ k l.length]? = some x) (hlo : -(l.length : Int) ≤ k) (hhi : k < 1000000) (hsl : ∀ o i, subscripted slice false o i = operate [o, i] (getItem o i) := by intro _ _; rfl) : EvJ prog w h0 c σ μ (.Subscript value slice pos) (.str [x]) := fun s P =>
  Subscript_ (hv.run P fun v s₁ k₁ P₁ r => hs.run P₁ fun vi s₂ k₂ P₂ ri => by
    obtain ⟨t, rfl⟩ := unI ri
    obtain ⟨z, u, rfl⟩ := unS r
    have hb : at_ k l.length < l.length := (List.getElem?_eq_some_iff.mp hx).1
    refine tail_any (typeIs_str _ _ _) PySem.F.slot_str_getitem.lookup (ops := [.str (mkS l) u, .int k t]) (PySem.P.getItem_str (c := x) (by rw [decide_eq_false (by omega), decide_eq_false (by omega)]; rfl) ?_ ⟨kp_trans k₁ (kp_trans k₂ kp_toks), repSX (by simp) (by simp)⟩) (hsl _ _)
    unfold at_ at hx hb
    by_cases h0' : k < 0
    · rw [if_pos h0'] at hx hb
      rw [StrLaws.seqIndex_neg h0' (by rw [mkS_len]; exact hlo)]
      simpa [mkS_len] using hx
    · rw [if_neg h0'] at hx hb
      rw [StrLaws.seqIndex_nonneg (by omega) (by rw [mkS_len]; omega)]
      simpa [mkS_len] using hx)
theorem Ca.split {l y : List Nat} (hy : y ≠ []) (hz : l.length ≤ 999990) : CaJ prog w h0 c σ μ (.builtin "str.split") [.str l, .str y] (.lst (dS ((Txt.split (mkS l) (mkS y)).map fun p => p.cps.toList))) := fun s vs P r => by
  obtain ⟨v, u, rfl, rv, ru⟩ := unL2 r
  obtain ⟨z, t, rfl⟩ := unS rv; obtain ⟨_, t', rfl⟩ := unS ru
  have hy' : ((mkS y).length == 0) = false := by rw [mkS_len]; simpa using hy
  have h1y : 1 ≤ (mkS y).length := by rw [mkS_len]; cases y with | nil => exact absurd rfl hy | cons => simp
  have wt := split_weight (mkS l) (mkS y) h1y
  have hsz : (mkS l).length ≤ sizeLine := by rw [mkS_len, sizeLine_eq]; omega
  have mem_len : ∀ p ∈ Txt.split (mkS l) (mkS y), p.length ≤ 1000000 := fun p hp => by
    have : p.length ≤ ((Txt.split (mkS l) (mkS y)).map (·.length)).sum := mem_le_sum (List.mem_map_of_mem hp)
    rw [mkS_len] at wt; omega
  have done : ∀ (ts : List (Str × Tok)) (s' : Shared), ts.map (·.1) = Txt.split (mkS l) (mkS y) → s'.heap = s.heap.push { cls := .type "list", data := .seq (strValues ts).toArray } → Keeps s s' →
      Keeps s s' ∧ Rep s'.heap (avs c.av μ) (.lst (dS ((Txt.split (mkS l) (mkS y)).map fun p => p.cps.toList))) (.ref s.heap.objs.size) := fun ts s' e1 e2 k => by
    refine ⟨k, ?_⟩
    rw [Rep]
    refine ⟨by rw [mkS_len] at wt; simp only [dS, List.length_map]; omega, _, (strValues ts).toArray, rfl, P.offSize, ⟨0, by rw [e2]; exact Heap.get?_push_size _ rfl⟩, ?_⟩
    refine mkSs (fun x hx => ?_) (by rw [e1, List.map_map]; exact (List.map_id' _).symm.trans (List.map_congr_left fun p _ => by simp [Function.comp]))
    obtain ⟨p, hp, rfl⟩ := List.mem_map.mp hx
    have := mem_len p hp
    simpa [Str.length] using this
  cases h1 : (decide ((mkS l).length < (mkS y).length) || decide (Str.strKind (mkS l) < Str.strKind (mkS y)))
  · cases hf : (occurrences (mkS l) (mkS y) 0 (mkS l).length ((mkS l).length + 1)).isEmpty
    · have es : Txt.split (mkS l) (mkS y) = partsBetween (mkS l) (occurrences (mkS l) (mkS y) 0 (mkS l).length ((mkS l).length + 1)) (mkS y).length := (if_neg (ne_true_of_eq_false h1)).trans (if_neg (ne_true_of_eq_false hf))
      refine call_meets PySem.F.slot_str_split (typeIs_str _ _ _) PySem.F.entry_str_split (PySem.F.args_str_split_2 _ _) (meets_str_split_sep _ _ t t' h1 hy' hf hsz (by rw [← es, sizeLine_eq]; rw [mkS_len] at wt; omega)) ?_
      show wants _ _ _ { s with toks := _, heap := s.heap.push { cls := .type "list", data := .seq (strsFrom s.toks (partsBetween (mkS l) (occurrences (mkS l) (mkS y) 0 (mkS l).length ((mkS l).length + 1)) (mkS y).length)).toArray } }
      rw [strsFrom_eq]
      exact done (numbered s.toks _) _ ((numbered_texts _ _).trans es.symm) rfl kp_push
    · have es : Txt.split (mkS l) (mkS y) = [mkS l] := (if_neg (ne_true_of_eq_false h1)).trans (if_pos hf)
      exact call_meets PySem.F.slot_str_split (typeIs_str _ _ _) PySem.F.entry_str_split (PySem.F.args_str_split_2 _ _) (meets_str_split_not_found _ _ t t' h1 hy' hf) (done [(mkS l, t)] _ (by rw [es]; rfl) rfl kp_push')
  · have es : Txt.split (mkS l) (mkS y) = [mkS l] := if_pos h1
    exact call_meets PySem.F.slot_str_split (typeIs_str _ _ _) PySem.F.entry_str_split (PySem.F.args_str_split_2 _ _) (meets_str_split_cannot_occur _ _ t t' h1) (done [(mkS l, t)] _ (by rw [es]; rfl) rfl kp_push')
/-- texts joined -/
def joinS (sep : List Nat) : List (List Nat) → List Nat
  | [] => []
  | [x] => x
  | x :: rest => x ++ sep ++ joinS sep rest
theorem joinS_eq (sep : List Nat) : ∀ l : List (List Nat), (Str.join (mkS sep) (l.map mkS)).cps.toList = joinS sep l
  | [] => rfl
  | [x] => by simp [Str.join, joinS]
  | x :: y :: r => by
    have := joinS_eq sep (y :: r)
    simp only [List.map_cons] at this ⊢
    rw [Str.join, joinS]
    · simp only [Str.cps_append, Array.toList_append, this]
    · simp
    · simp
theorem joinS_len (sep : List Nat) : ∀ l : List (List Nat), (joinS sep l).length ≤ (l.map List.length).sum + l.length * sep.length
  | [] => by simp [joinS]
  | [x] => by simp [joinS]
  | x :: y :: r => by
    have := joinS_len sep (y :: r)
    rw [joinS]
    · simp only [List.length_append, List.map_cons, List.sum_cons, List.length_cons] at this ⊢
      have e : (r.length + 1 + 1) * sep.length = sep.length + (r.length + 1) * sep.length := by rw [Nat.add_mul (r.length + 1)]; omega
      omega
    · simp
theorem Ca.join {sep : List Nat} {a : D} {l : List (List Nat)} (ha : LiJ h0 c σ μ a (dS l)) (hz : (l.map List.length).sum + l.length * sep.length ≤ 1000000) : CaJ prog w h0 c σ μ (.builtin "str.join") [.str sep, a] (.str (joinS sep l)) := fun s vs P r => by
  obtain ⟨v, u, rfl, rv, ru⟩ := unL2 r
  obtain ⟨z, t, rfl⟩ := unS rv
  obtain ⟨z, b, its, rfl, hp, rr⟩ := ha s u P ru
  obtain ⟨zs, ts, e1, e2⟩ := unSs rr
  have hi : its = (strValues ts).toArray := by rw [← e1]
  have hl := pl_list hp
  rw [hi] at hl
  refine SC.join hl e2 (joinOk_of (by
    have e3 : ((l.map mkS).map (·.length)) = l.map List.length := by rw [List.map_map]; exact List.map_congr_left fun x _ => by simp [Function.comp, Str.length]
    rw [e3, List.length_map, mkS_len]; omega)) fun t' k => ⟨kp_toks, repSX (Nat.le_trans (joinS_len sep l) hz) ?_⟩
  unfold Txt.join
  rw [StrLaws.glued_eq_join]
  exact joinS_eq sep l
theorem Ca.find {l y : List Nat} {i : Int} : CaJ prog w h0 c σ μ (.builtin "str.find") [.str l, .str y, .int i] (.int (Txt.find3 (mkS l) (mkS y) i)) := fun s vs P r => by
  obtain ⟨v, u, x, rfl, rv, ru, rx⟩ := unL3 r
  obtain ⟨_, t, rfl⟩ := unS rv; obtain ⟨_, t', rfl⟩ := unS ru; obtain ⟨t'', rfl⟩ := unI rx
  exact SC.find3 ⟨kp_toks, repI⟩
theorem Ca.int {i : Int} : CaJ prog w h0 c σ μ (.type "int") [.int i] (.int i) := fun s vs P r => by
  obtain ⟨v, rfl, rv⟩ := unL1 r
  obtain ⟨t, rfl⟩ := unI rv
  exact call_int_int ⟨kp_rfl, repI⟩
theorem Ca.typeS {l : List Nat} : CaJ prog w h0 c σ μ (.type "type") [.str l] (.val (.type "str")) := fun s vs P r => by
  obtain ⟨v, rfl, rv⟩ := unL1 r
  obtain ⟨_, t, rfl⟩ := unS rv
  exact call_type_of (typeIs_str _ _ _) (by decide) ⟨kp_rfl, by rw [Rep]⟩
theorem Ca.sum {a : D} {xs : List Int} (ha : LiJ h0 c σ μ a (xs.map D.int)) : CaJ prog w h0 c σ μ (.builtin "sum") [a] (.int xs.sum) := fun s vs P r => by
  obtain ⟨v, rfl, rv⟩ := unL1 r
  obtain ⟨z, b, its, rfl, hp, rr⟩ := ha s v P rv
  have un : ∀ {l : List Int} {vs : List Value}, RepL s.heap (avs c.av μ) (l.map D.int) vs → ∃ ps : List (Int × Tok), vs = ps.map (fun p => Value.int p.1 p.2) ∧ ps.map (·.1) = l := by
    intro l
    induction l with
    | nil => intro vs r; simp only [List.map_nil] at r; rw [RepL] at r; subst r; exact ⟨[], rfl, rfl⟩
    | cons x l ih =>
      intro vs r
      simp only [List.map_cons] at r
      rw [RepL] at r
      obtain ⟨v, vs', rfl, p, q⟩ := r
      obtain ⟨t, rfl⟩ := unI p
      obtain ⟨ps, rfl, e⟩ := ih q
      exact ⟨(x, t) :: ps, rfl, by simp [e]⟩
  obtain ⟨ps, e1, e2⟩ := un rr
  have hi : its = intItems ps.toArray := by
    unfold intItems
    apply Array.toList_inj.mp
    rw [e1]; simp
  have hl := pl_list hp
  rw [hi] at hl
  refine sum_intListG P.ok.handled hl fun h' tk t' hk => ⟨⟨h', tk, rfl, hk⟩, ?_⟩
  have : preSum (numAt ps.toArray) ps.toArray.size = xs.sum := by
    rw [preSum_eq, List.take_of_length_le (by simp)]
    simp [← e2]
  rw [this]; exact repI
theorem Ca.listL {a : D} {ds : List D} (ha : LiJ h0 c σ μ a ds) : CaJ prog w h0 c σ μ (.type "list") [a] (.lst ds) := fun s vs P r => by
  obtain ⟨v, rfl, rv⟩ := unL1 r
  obtain ⟨z, b, its, rfl, ⟨n, hp⟩, rr⟩ := ha s v P rv
  have e := li_size rr
  refine call_list_seq b (.inl rfl) hp rfl rfl (fun h' c' hk hg => ⟨⟨h', s.toks, rfl, hk⟩, ?_⟩) (by rw [sizeLine_eq]; omega)
  rw [Rep]
  exact ⟨z, _, its, rfl, P.offSize, ⟨c', hg⟩, rr.keeps hk⟩
theorem Ca.listS {l : List Nat} : CaJ prog w h0 c σ μ (.type "list") [.str l] (.lst (dS (l.map fun x => [x]))) := fun s vs P r => by
  obtain ⟨v, rfl, rv⟩ := unL1 r
  obtain ⟨z, t, rfl⟩ := unS rv
  refine call_list_str P.ok.handled (mkS l) t (fun h' tk acc' c' hk hg hi => ⟨⟨h', tk, rfl, hk⟩, ?_⟩) (by simp [sizeLine_eq]; omega)
  rw [Rep]
  refine ⟨by simpa [dS] using z, _, acc', rfl, P.offSize, ⟨c', hg⟩, RepL.of_get ?_ fun i d v a b => ?_⟩
  · have := hi.1
    simp [dS]; simpa using this.symm
  · obtain ⟨ch, u, e1, rfl⟩ := hi.2 i v (by simpa using b)
    simp only [dS, List.map_map, List.getElem?_map] at a
    have e1' : l[i]? = some ch := by simpa using e1
    rw [e1'] at a
    simp at a
    subst a
    exact repSX (by simp) (by simp)
theorem Ite.range {e : Expr} {x : Str} {rp rpos : Pos} {n : Int} (hg : GlJ prog w h0 c σ μ x (.type "range")) (he : EvJ prog w h0 c σ μ e (.int n)) (hlo : -1000000 ≤ n) (hhi : n ≤ 1000000)
    (hse : starEach [e] c.env = [(false, eval e c.env)] := by rfl) : IteJ prog w h0 c σ μ (.Call (.Name x rp) [e] [] rpos) ((List.range n.toNat).map fun i : Nat => D.int i) := fun s P => by
  refine wpAny_Call_NameR (hg rp s P _ ?_)
  show wpAny _ _ (callWith rpos (.type "range") [] (backTo rpos (starEach [e] c.env)) []) _ _ _
  rw [hse]
  refine callWith_val (.inr ⟨_, rfl⟩) rfl (Calls.evalArgs_plain (Calls.spliced_cons (he.run P fun nv s₁ k₁ P₁ r₁ => Calls.spliced_nil ?_)))
  obtain ⟨t, rfl⟩ := unI r₁
  refine call_range_1 ?_
  have hsz : Builtin.Range.rangeSize 0 n 1 = (n.toNat : Int) := by rw [rangeSize_one]; split <;> omega
  refine wpAny_pyIter_range (IsRange.new ..) (small_one (by decide) (by decide) (by omega) (by omega)) ?_
  rw [hsz]
  have k₂ : Keeps s₁ { s₁ with heap := s₁.heap.push { cls := .type "range", data := .fields #[.int 0 s₁.toks, .int n t, .int 1 (s₁.toks + 1)] }, toks := s₁.toks + 1 + 1 } := kp_push
  have el : ((List.range n.toNat).map fun i : Nat => D.int i).length = n.toNat := by simp
  refine ⟨kp_trans k₁ k₂, kp_push', _, _, _, _, _, rfl, el ▸ Walks.range P.ok.handled _ 0 1 n.toNat, ?_, ?_, ?_, ?_, ?_⟩
  · show IsRangeIter _ _ _ _ _
    have := Heap.get?_push_size (s₁.heap.push { cls := .type "range", data := .fields #[.int 0 s₁.toks, .int n t, .int 1 (s₁.toks + 1)] }) (o := { cls := .type "range_iterator", data := .fields #[rawInt 0, rawInt (n.toNat : Int), rawInt 1] }) rfl
    unfold IsRangeIter
    simpa using this
  · intro b hb; rw [List.mem_singleton] at hb; subst hb; exact fresh_size _
  · intro b hb; left; exact hb
  · intro i h q b hb
    rw [List.mem_singleton] at hb; subst hb
    exact ⟨_, q, ⟨_, rfl⟩, fun q => absurd (Value.type.inj q) (by decide)⟩
  · rintro i v hi ⟨u, rfl⟩
    rw [el] at hi
    exact ⟨.int i, by simp [hi], by rw [Rep]; exact ⟨u, by congr 1; omega⟩⟩
theorem It.tup {ds : List D} : ItJ prog w h0 c σ μ (.tup ds) ds := by
  intro s v P r
  rw [Rep] at r
  obtain ⟨z, a, vs, rfl, na, ⟨n, hg⟩, rr⟩ := r
  have hl : s.heap.IsTuple a vs := ⟨_, hg, rfl, n, rfl⟩
  have hne : a ≠ s.heap.objs.size := fun q => by rw [q, fresh_size] at hg; cases hg
  have sz : vs.size = ds.length := by have := rr.length; simpa using this.symm
  refine wpAny_pyIter_tuple hl ⟨kp_push', _, _, _, _, _, rfl, sz ▸ Walks.tuple P.ok.handled _ a hne vs, ⟨⟨_, Heap.get?_push_size _ rfl, rfl, rfl⟩, hl.push _⟩, ?_, ?_, ?_, ?_⟩
  · intro b hb; simp at hb; subst hb; exact fresh_size _
  · intro b hb
    simp at hb
    rcases hb with rfl | rfl
    · left; simp
    · exact .inr ⟨na, _, hg⟩
  · intro i h q b hb
    simp at hb; subst hb
    obtain ⟨⟨o, e, cc, d⟩, _⟩ := q
    exact ⟨o, e, ⟨_, d⟩, by rw [cc]; decide⟩
  · intro i v _ hv
    exact rr.getV (by simpa using hv)
end
end Mine
end
section
open PySem PySem.Calls PySem.W PyProof.Rows
namespace Mine
/-- a comprehension's block -/
def compCx (c : Cx) (μ : Mu) (scope : Scope) (cl : List (Str × Addr)) (C D : Addr) : Cx :=
  { A := c.A, k := c.k, env := compEnvC scope cl C c.env, av := fun b => avs c.av μ b ∨ b = C ∨ b = D, s₀ := c.s₀ }
theorem lookup_relabel_free {env : Env} (hk : env.scope.kind = .function) : ∀ {names : List (Str × NameKind)} {x : Str}, names.lookup x = some .free → env.kindOf x = some .cell →
    (names.map fun (n, k) => if (k == NameKind.free && env.scope.kind == .function && env.kindOf n == some .cell) then (n, NameKind.cell) else (n, k)).lookup x = some .cell
  | [], _, h, _ => by simp at h
  | (n, k) :: r, x, h, hc => by
    have ih := @lookup_relabel_free env hk r x
    show List.lookup x ((if (k == NameKind.free && env.scope.kind == .function && env.kindOf n == some .cell) = true then (n, NameKind.cell) else (n, k)) :: _) = _
    cases hx : x == n with
    | true =>
      simp only [List.lookup_cons, hx] at h
      cases h
      rw [← eq_of_beq hx] at *
      simp [List.lookup_cons, hc, hk]
    | false =>
      simp only [List.lookup_cons, hx] at h
      have := ih h hc
      split
      · simp only [List.lookup_cons, hx]; exact this
      · simp only [List.lookup_cons, hx]; exact this
/-- what a comprehension keeps of the names around it -/
theorem closure_some (env : Env) : ∀ (names : List (Str × NameKind)) (acc : List (Str × Addr)), (∀ x ∈ names, x.2 = .free → ∃ cc, env.cells.lookup x.1 = some cc) →
    ∃ cl, (forIn names acc fun (p : Str × NameKind) (r : List (Str × Addr)) => (if (p.2 == NameKind.free) = true then (do let a ← cellOf env p.1; pure (ForInStep.yield ((p.1, a) :: r))) else pure (ForInStep.yield r) : Sem (ForInStep (List (Str × Addr))))) = pure cl ∧
      (∀ y, (acc.lookup y = env.cells.lookup y) → cl.lookup y = env.cells.lookup y) ∧ (∀ y, (y, NameKind.free) ∈ names → cl.lookup y = env.cells.lookup y) ∧
      (∀ y cc, cl.lookup y = some cc → acc.lookup y = some cc ∨ env.cells.lookup y = some cc)
  | [], acc, _ => ⟨acc, rfl, fun _ h => h, fun _ h => (nomatch h), fun _ _ h => .inl h⟩
  | (n, k) :: r, acc, h => by
    rw [List.forIn_cons]
    cases hk : k == NameKind.free with
    | false =>
      obtain ⟨cl, e, h1, h2, h3⟩ := closure_some env r acc fun x hx => h x (.tail _ hx)
      refine ⟨cl, ?_, h1, fun y hy => ?_, h3⟩
      · simp only [hk, Bool.false_eq_true, if_false, pure_bind]; exact e
      · rcases List.mem_cons.mp hy with q | q
        · cases q; simp at hk
        · exact h2 y q
    | true =>
      have hk' : k = .free := eq_of_beq hk
      subst hk'
      obtain ⟨cc, hcc⟩ := h (n, .free) (.head _) rfl
      have hcell : cellOf env n = pure cc := by
        have hcc' : env.cells.lookup n = some cc := hcc
        unfold cellOf; rw [hcc']
      obtain ⟨cl, e, h1, h2, h3⟩ := closure_some env r ((n, cc) :: acc) fun x hx => h x (.tail _ hx)
      have hn : ((n, cc) :: acc).lookup n = env.cells.lookup n := by
        have hcc' : env.cells.lookup n = some cc := hcc
        rw [hcc']; simp [List.lookup_cons]
      refine ⟨cl, ?_, fun y hy => ?_, fun y hy => ?_, fun y c' hy => ?_⟩
      · simp only [beq_self_eq_true, if_true, hcell, pure_bind]; exact e
      · refine h1 y ?_
        rw [List.lookup_cons]
        cases hyn : y == n with
        | true => rw [eq_of_beq hyn]; exact hcc.symm
        | false => exact hy
      · rcases List.mem_cons.mp hy with q | q
        · cases q; exact h1 n hn
        · exact h2 y q
      · rcases h3 y c' hy with q | q
        · rw [List.lookup_cons] at q
          cases hyn : y == n with
          | true => rw [hyn] at q; right; rw [eq_of_beq hyn]; rw [← hcc] at q; rw [hcc] at q; cases q; exact hcc
          | false => rw [hyn] at q; exact .inl q
        · exact .inr q
theorem closureFor_some {scope : Scope} {env : Env} (h : ∀ x ∈ scope.names, x.2 = .free → ∃ cc, env.cells.lookup x.1 = some cc) :
    ∃ cl, closureFor scope env = pure cl ∧ (∀ y, (y, NameKind.free) ∈ scope.names → cl.lookup y = env.cells.lookup y) := by
  obtain ⟨cl, e, _, h2, _⟩ := closure_some env scope.names [] h
  refine ⟨cl, ?_, h2⟩
  simp only [closureFor]
  have e2 : (forIn scope.names ([] : List (Str × Addr)) fun (x : Str × NameKind) (r : List (Str × Addr)) => (if (x.2 == NameKind.free) = true then (fun a => ForInStep.yield ((x.1, a) :: r)) <$> cellOf env x.1 else pure (ForInStep.yield r) : Sem _)) = pure cl := by
    rw [← e]
    rfl
  simp only [bind_pure_comp, map_pure]
  rw [e2]
  rfl
/-- a comprehension's turn -/
def TurnIs (e : Expr) (d : Nat) (it acc : Value) (env : Env) (p : Pos) (tgt : Expr) (ifs : List Expr) (inner : Sem PUnit) : Prop :=
  compTurn e d it acc env = (do
      standAt p
      match ← pyNext it with
      | none => pure (.done .next)
      | some v =>
        letOwnedTupleGo tgt it v
        assign tgt env v
        let mut ok := true
        for c in ifs do
          if ok then ok ← isTrue c env (eval c env)
        if ok then inner
        again (.compLoop e d it acc env))
abbrev testsT (ifs : List Expr) (env : Env) : Sem Bool := forIn ifs true fun c r => if r = true then do let ok ← isTrue c env (eval c env); pure (ForInStep.yield ok) else pure (ForInStep.yield r)
theorem comp_loop {prog : Program} {w : World} {A : Around} {R : Result → Shared → Prop} {s : Shared} {elt : Expr} {gens : List Comprehension} {sc : Scope} {ps : Pos} {d : Nat} {it acc : Value} {env : Env} {p : Pos} {tgt : Expr} {ifs : List Expr} {inner : Sem PUnit}
    (heq : TurnIs (.ListComp elt gens sc ps) d it acc env p tgt ifs inner) (I : Nat → Shared → Prop)
    (turn : ∀ n s, I n s → wpAny (model prog w) A (pyNext it) (fun r s₁ => match r with
      | none => R (.ok .next) s₁
      | some v => wpAny (model prog w) A (letOwnedTupleGo tgt it v) (fun _ s₁ => wpAny (model prog w) A (assign tgt env v) (fun _ s₂ =>
          wpAny (model prog w) A (testsT ifs env) (fun ok s₃ =>
            if ok = true then wpAny (model prog w) A inner (fun _ s₄ => ∃ m, m < n ∧ I m s₄) NoE s₃ else ∃ m, m < n ∧ I m s₃) NoE s₂) NoE s₁) NoE s₁) NoE s)
    (n : Nat) (h : I n s) : codeAny (model prog w) A (.compLoop (.ListComp elt gens sc ps) d it acc env) R s := by
  refine codeAny_loop rfl I (fun n s hI => ?_) n h
  show wpAny _ A ((compTurn (.ListComp elt gens sc ps) d it acc env).onRaise (fun x => do noteFrame x env; theTreesLotGoes x)) _ _ s
  refine wpAny_noted ?_
  rw [heq]
  refine wpAny_mono (Q := fun fin s' => match fin with | .done f => R (.ok f) s' | .again c' => c' = .compLoop (.ListComp elt gens sc ps) d it acc env ∧ ∃ m, m < n ∧ I m s') (E := NoE) ?_ (fun _ _ h => h) fun _ _ h => h.elim
  refine wpAny_bind (wpAny_standAt (wpAny_bind (wm (turn n s hI) fun r s₁ h₁ => ?_)))
  cases r with
  | none => exact wpAny_pure h₁
  | some v =>
    refine wpAny_bind (wm h₁ fun _ s₁ h₁ => wpAny_bind (wm h₁ fun _ s₂ h₂ => wpAny_bind (wm h₂ fun ok s₃ h₃ => ?_)))
    cases ok with
    | false => exact wpAny_pure ⟨rfl, h₃⟩
    | true => exact wpAny_bind (wm h₃ fun _ s₄ h₄ => wpAny_pure ⟨rfl, h₄⟩)
end Mine
end
section
open PySem PySem.Calls PySem.W PyProof.Rows
namespace Mine
structure CI (h0 : Heap) (c' : Cx) (C D : Addr) (σ : St) (ds : List Mine.D) (s : Shared) : Prop where
  p : PSt h0 c' σ [] s
  ns : ∃ m, s.heap.Ns C m
  acc : ∃ its, s.heap.PlainList D its ∧ RepL s.heap (avs c'.av []) ds its.toList
  avC : c'.av C
  avD : c'.av D
  loc : c'.env.locals = C
  nh0 : h0.get? C = none ∧ h0.get? D = none
structure PC (C D : Addr) (wr : List Addr) (s s' : Shared) : Prop where
  same : ∃ h t, s' = { s with heap := h, toks := t }
  keep : ∀ b o, b ≠ C → b ≠ D → b ∉ wr → s.heap.get? b = some o → s'.heap.get? b = some o
theorem PC.keeps {C D : Addr} {wr : List Addr} {s s' : Shared} (k : Keeps s s') : PC C D wr s s' := let ⟨h, t, e, x⟩ := k; ⟨⟨h, t, e⟩, fun b o _ _ _ q => kp k b o q⟩
theorem PC.trans {C D : Addr} {wr : List Addr} {s s' s'' : Shared} (a : PC C D wr s s') (b : PC C D wr s' s'') : PC C D wr s s'' :=
  ⟨let ⟨h, t, e⟩ := a.same; let ⟨h', t', e'⟩ := b.same; ⟨h', t', by rw [e', e]⟩, fun x o n1 n2 n3 e => b.keep x o n1 n2 n3 (a.keep x o n1 n2 n3 e)⟩
theorem PC.more {C D : Addr} {wr wr' : List Addr} {s s' : Shared} (a : PC C D wr s s') (h : ∀ b ∈ wr, b ∈ wr') : PC C D wr' s s' := ⟨a.same, fun x o n1 n2 n3 e => a.keep x o n1 n2 (fun q => n3 (h x q)) e⟩
theorem avs_nil {av : Av} {b : Addr} : avs av [] b ↔ av b := ⟨fun h => (by rcases h with h | ⟨p, hp, _⟩; exact h; cases hp), .inl⟩
theorem CI.keeps {h0 : Heap} {c' : Cx} {C D : Addr} {σ : St} {ds : List Mine.D} {s s' : Shared} (x : CI h0 c' C D σ ds s) (k : Keeps s s') : CI h0 c' C D σ ds s' :=
  ⟨x.p.keeps k, let ⟨m, n⟩ := x.ns; ⟨m, n.keeps (kp k)⟩, let ⟨its, ⟨n, e⟩, r⟩ := x.acc; ⟨its, ⟨n, kp k _ _ e⟩, r.keeps (kp k)⟩, x.avC, x.avD, x.loc, x.nh0⟩
theorem CI.sub {h0 : Heap} {c' : Cx} {C D : Addr} {σ σ' : St} {ds : List Mine.D} {s : Shared} (x : CI h0 c' C D σ ds s) (h : Sub σ σ') : CI h0 c' C D σ' ds s :=
  ⟨⟨x.p.ok, x.p.base, fun y d e => x.p.vars y d (h y d e), x.p.own, x.p.live, x.p.tab⟩, x.ns, x.acc, x.avC, x.avD, x.loc, x.nh0⟩
section
variable {prog : Program} {w : World} {h0 : Heap} {c' : Cx} {C D : Addr} {σ : St} {ds : List Mine.D}
theorem ci_ne {s : Shared} (x : CI h0 c' C D σ ds s) : C ≠ D := fun q => by
  obtain ⟨m, o, es, ep, e, d, _⟩ := x.ns
  obtain ⟨its, ⟨n, e'⟩, _⟩ := x.acc
  rw [q, e'] at e; cases e; cases d
theorem CI.store {s : Shared} {x : String} {px : Pos} {d : Mine.D} {v : Value} (X : CI h0 c' C D σ ds s) (r : Rep s.heap (avs c'.av []) d v) (hk : c'.env.kindOf (Str.ofString x) = some .local) (hx : (Str.ofString x == ("__debug__" : Str)) = false) :
    wpAny (model prog w) c'.A (assign (.Name (Str.ofString x) px) c'.env v) (fun _ s' => CI h0 c' C D (upd σ x d) ds s' ∧ PC C D [] s s') NoE s := by
  obtain ⟨m, hn⟩ := X.ns
  have hne := ci_ne X
  refine wpAny_assign_Name (wpAny_storeName_local hk (by rw [X.loc]; exact hn) (fun h' hn' hs' => ?_) (by rw [X.p.ok.kind]; rfl))
  rw [X.loc] at hn' hs'
  have R := rep_same hs' (avs_nil.mpr X.avC)
  refine ⟨⟨⟨X.p.ok, fun b o e => ?_, fun y e hy => ?_, fun p hp => (nomatch hp), fun b hb => ?_, X.p.tab.but hs' (X.p.tab.neNs hn)⟩, ⟨_, hn'⟩, ?_, X.avC, X.avD, X.loc, X.nh0⟩, ⟨⟨h', _, rfl⟩, fun b o n1 _ _ e => by show h'.get? b = _; rw [hs'.2 b n1, e]⟩⟩
  · show h'.get? b = _
    rw [hs'.2 b (fun q => by rw [q, X.nh0.1] at e; cases e)]; exact X.p.base b o e
  · rw [lookup_upd] at hy
    by_cases hyx : y = x
    · subst hyx
      rw [if_pos rfl] at hy; cases hy
      exact ⟨hx, v, .inl ⟨hk, _, by rw [X.loc]; exact hn', by simp⟩, R.1 r⟩
    · rw [if_neg hyx] at hy
      obtain ⟨hd, v', b, r'⟩ := X.p.vars y e hy
      refine ⟨hd, v', ?_, R.1 r'⟩
      rcases b with ⟨kl, m', hn1, hm⟩ | ⟨kc, cc, hc, hcell⟩
      · rw [X.loc] at hn1
        rw [ns_fun hn1 hn] at hm
        exact .inl ⟨kl, _, by rw [X.loc]; exact hn', by show (if Str.ofString y = Str.ofString x then some v else m (Str.ofString y)) = _; rw [if_neg (fun q => hyx (ofString_inj q))]; exact hm⟩
      · refine .inr ⟨kc, cc, hc, hcell.sameBut hs' fun q => ?_⟩
        obtain ⟨o, e1, e2⟩ := hcell
        obtain ⟨o', es, ep, e3, e4, _⟩ := hn
        rw [q, e3] at e1; cases e1; rw [e4] at e2; cases e2
  · obtain ⟨o, e⟩ := X.p.live b hb
    by_cases q : b = C
    · subst q; obtain ⟨o', es, ep, e', _⟩ := hn'; exact ⟨o', e'⟩
    · exact ⟨o, by show h'.get? b = _; rw [hs'.2 b q, e]⟩
  · obtain ⟨its, ⟨n, e⟩, rr⟩ := X.acc
    exact ⟨its, ⟨n, by show h'.get? D = _; rw [hs'.2 D (Ne.symm hne), e]⟩, R.2 rr⟩
theorem CI.append {s : Shared} {d : Mine.D} {v : Value} (X : CI h0 c' C D σ ds s) (r : Rep s.heap (avs c'.av []) d v) (hz : ds.length < 1000000) :
    wpAny (model prog w) c'.A (call (.builtin "list.append") [.ref D, v]) (fun _ s' => CI h0 c' C D σ (ds ++ [d]) s' ∧ PC C D [] s s') NoE s := by
  obtain ⟨its, hp, rr⟩ := X.acc
  obtain ⟨m, hn⟩ := id X.ns
  have hne := ci_ne X
  have e1 : its.size = ds.length := by
    have e1 : ds.length = its.toList.length := rr.length
    have e2 : its.toList.length = its.size := by simp
    omega
  refine wpAny_list_append_plain hp (fun h' hp' hs' => ?_) (by rw [sizeLine_eq]; omega)
  have R := rep_same hs' (avs_nil.mpr X.avD)
  refine ⟨⟨⟨X.p.ok, fun b o e => ?_, fun y e hy => ?_, fun p hp => (nomatch hp), fun b hb => ?_, X.p.tab.but hs' (X.p.tab.neL hp)⟩, ⟨m, hn.sameBut hs' hne⟩, ?_, X.avC, X.avD, X.loc, X.nh0⟩, ⟨⟨h', _, rfl⟩, fun b o _ n2 _ e => by show h'.get? b = _; rw [hs'.2 b n2, e]⟩⟩
  · show h'.get? b = _
    rw [hs'.2 b (fun q => by rw [q, X.nh0.2] at e; cases e)]; exact X.p.base b o e
  · obtain ⟨hd, v', b, r'⟩ := X.p.vars y e hy
    refine ⟨hd, v', ?_, R.1 r'⟩
    rcases b with ⟨kl, m', hn1, hm⟩ | ⟨kc, cc, hc, hcell⟩
    · exact .inl ⟨kl, m', hn1.sameBut hs' (by rw [X.loc]; exact hne), hm⟩
    · refine .inr ⟨kc, cc, hc, hcell.sameBut hs' fun q => ?_⟩
      obtain ⟨o, e1, e2⟩ := hcell
      obtain ⟨n, e3⟩ := hp
      rw [q, e3] at e1; cases e1; cases e2
  · obtain ⟨o, e⟩ := X.p.live b hb
    by_cases q : b = D
    · subst q; obtain ⟨n, e'⟩ := hp'; exact ⟨_, e'⟩
    · exact ⟨o, by show h'.get? b = _; rw [hs'.2 b q, e]⟩
  · exact ⟨_, hp', by simpa using (R.2 rr).append (RepL.one (R.1 r))⟩
/-- a step of an iterator -/
theorem CI.step {s : Shared} {h' : Heap} {tk : Nat} {wr : List Addr} (X : CI h0 c' C D σ ds s) (hk : ∀ b o, b ∉ wr → s.heap.get? b = some o → h'.get? b = some o)
    (hf : ∀ b ∈ wr, ∃ o, s.heap.get? b = some o ∧ isF o) (hw0 : ∀ b ∈ wr, h0.get? b = none) (hav : ∀ b ∈ wr, ¬ c'.av b) : CI h0 c' C D σ ds { s with heap := h', toks := tk } := by
  have notF : ∀ b o, ¬ isF o → s.heap.get? b = some o → b ∉ wr := fun b o n e hb => by
    obtain ⟨o', e', f⟩ := hf b hb
    rw [e] at e'; cases e'; exact n f
  have R1 : ∀ {d v}, Rep s.heap (avs c'.av []) d v → Rep h' (avs c'.av []) d v := fun r => r.monoF (fun b o _ nf e => hk b o (notF b o nf e) e) fun _ y => .inl y
  have R2 : ∀ {d v}, RepL s.heap (avs c'.av []) d v → RepL h' (avs c'.av []) d v := fun r => r.monoF (fun b o _ nf e => hk b o (notF b o nf e) e) fun _ y => .inl y
  have Cw : C ∉ wr := fun h => hav _ h X.avC
  have Dw : D ∉ wr := fun h => hav _ h X.avD
  refine ⟨⟨X.p.ok, fun b o e => hk b o (fun q => by rw [hw0 b q] at e; cases e) (X.p.base b o e), fun x d e => ?_, fun p hp => (nomatch hp), fun b hb => ?_, X.p.tab.wr hk fun h => hav _ h X.p.ok.avP⟩, let ⟨m, hn⟩ := X.ns; ⟨m, hn.at' fun o e => hk _ o Cw e⟩,
    let ⟨its, ⟨n, e⟩, r⟩ := X.acc; ⟨its, ⟨n, hk _ _ Dw e⟩, R2 r⟩, X.avC, X.avD, X.loc, X.nh0⟩
  · obtain ⟨z, v, b, r⟩ := X.p.vars x d e
    refine ⟨z, v, ?_, R1 r⟩
    rcases b with ⟨a, m', n, e⟩ | ⟨a, cc, n, e⟩
    · exact .inl ⟨a, m', n.at' fun o e => hk _ o (by rw [X.loc]; exact Cw) e, e⟩
    · obtain ⟨o, e1, e2⟩ := e
      exact .inr ⟨a, cc, n, o, hk _ _ (notF _ _ (by rintro ⟨⟨_, q⟩, _⟩; rw [e2] at q; cases q) e1) e1, e2⟩
  · obtain ⟨o, e⟩ := X.p.live b hb
    exact ⟨o, hk _ _ (fun q => hav b q (avs_nil.mp hb)) e⟩
theorem comp_run {α : Type} {R : Result → Shared → Prop} {r : Shared} {elt : Expr} {gens : List Comprehension} {sc : Scope} {ps : Pos} {dep : Nat} {acc : Value} {p px : Pos} {x : String} {ifs : List Expr} {inner : Sem PUnit}
    {I : Addr} {fp wr : List Addr} {P : Nat → Value → Prop} {Q : Nat → Heap → Prop} {xs : List α} (inj : α → Mine.D) (keep : α → Bool) (out : α → List Mine.D)
    (heq : TurnIs (.ListComp elt gens sc ps) dep (.ref I) acc c'.env p (.Name (Str.ofString x) px) ifs inner)
    (W : Walks prog w c'.A I fp wr xs.length P Q) (q0 : Q 0 r.heap) (hF : ∀ i h, Q i h → ∀ b ∈ wr, ∃ o, h.get? b = some o ∧ isF o)
    (hfp : ∀ b ∈ fp, b ∈ wr ∨ (b ≠ C ∧ b ≠ D ∧ ∃ o, r.heap.get? b = some o)) (hw0 : ∀ b ∈ wr, h0.get? b = none) (hav : ∀ b ∈ wr, ¬ c'.av b)
    (hP : ∀ i v, i < xs.length → P i v → ∃ a, xs[i]? = some a ∧ Rep r.heap (avs c'.av []) (inj a) v)
    (hk : c'.env.kindOf (Str.ofString x) = some .local) (hx : (Str.ofString x == ("__debug__" : Str)) = false) (hσ : σ.lookup x = none)
    (hlen : (ds ++ xs.flatMap fun a => if keep a = true then out a else []).length ≤ 1000000)
    (tests : ∀ a ds s, a ∈ xs → CI h0 c' C D (upd σ x (inj a)) ds s → wpAny (model prog w) c'.A (testsT ifs c'.env) (fun ok s' => ok = keep a ∧ Keeps s s') NoE s)
    (hin : ∀ a ds s, a ∈ xs → keep a = true → CI h0 c' C D (upd σ x (inj a)) ds s → (ds ++ out a).length ≤ 1000000 → wpAny (model prog w) c'.A inner (fun _ s' => CI h0 c' C D (upd σ x (inj a)) (ds ++ out a) s' ∧ PC C D [] s s') NoE s)
    (X : CI h0 c' C D σ ds r)
    (hR : ∀ s, CI h0 c' C D σ (ds ++ xs.flatMap fun a => if keep a = true then out a else []) s → PC C D wr r s → R (.ok .next) s) :
    codeAny (model prog w) c'.A (.compLoop (.ListComp elt gens sc ps) dep (.ref I) acc c'.env) R r := by
  have subU : ∀ d, Sub (upd σ x d) σ := fun d y e h => by
    rw [lookup_upd]
    by_cases q : y = x
    · subst q; rw [hσ] at h; cases h
    · rw [if_neg q]; exact h
  refine comp_loop heq (fun n s => ∃ i, n = xs.length + 1 - i ∧ i ≤ xs.length ∧ CI h0 c' C D σ (ds ++ (xs.take i).flatMap fun a => if keep a = true then out a else []) s ∧ Q i s.heap ∧ PC C D wr r s) ?_ (xs.length + 1)
    ⟨0, rfl, Nat.zero_le _, by simpa using X, q0, PC.keeps kp_rfl⟩
  rintro n s ⟨i, rfl, hle, Y, q, pc⟩
  have wrF := hF i s.heap q
  have stepPC : ∀ h' tk, (∀ b o, b ∉ wr → s.heap.get? b = some o → h'.get? b = some o) → PC C D wr r { s with heap := h', toks := tk } := fun h' tk hk' =>
    pc.trans ⟨⟨h', tk, rfl⟩, fun b o _ _ n3 e => hk' b o n3 e⟩
  by_cases hlt : i < xs.length
  · refine W.item i s _ _ hlt q fun v h' tk hPv q' hk' => ?_
    obtain ⟨a, ha, ra⟩ := hP i v hlt hPv
    have ham : a ∈ xs := List.mem_of_getElem? ha
    have Y' : CI h0 c' C D σ _ { s with heap := h', toks := tk } := Y.step hk' wrF hw0 hav
    have pc' := stepPC h' tk hk'
    have ra' : Rep h' (avs c'.av []) (inj a) v := ra.monoF (fun b o nav nf e => pc'.keep b o (fun z => nav (z ▸ avs_nil.mpr X.avC)) (fun z => nav (z ▸ avs_nil.mpr X.avD)) (fun hb => by
      obtain ⟨o', e', f⟩ := hF 0 r.heap q0 b hb
      rw [e] at e'; cases e'; exact nf f) e) fun _ y => .inl y
    have keepQ : ∀ s₅, PC C D [] { s with heap := h', toks := tk } s₅ → Q (i + 1) s₅.heap := fun s₅ p₅ => W.frame _ _ _ q' fun b hb o e => by
      have hbC : b ≠ C ∧ b ≠ D := by
        rcases hfp b hb with hw | ⟨n1, n2, _⟩
        · exact ⟨fun z => hav b hw (z ▸ X.avC), fun z => hav b hw (z ▸ X.avD)⟩
        · exact ⟨n1, n2⟩
      exact p₅.keep b o hbC.1 hbC.2 (by simp) e
    have htake : (xs.take (i + 1)).flatMap (fun a => if keep a = true then out a else []) = (xs.take i).flatMap (fun a => if keep a = true then out a else []) ++ (if keep a = true then out a else []) := by
      rw [List.take_add_one, ha, List.flatMap_append]; simp
    have hsplit : xs.flatMap (fun a => if keep a = true then out a else []) = (xs.take (i + 1)).flatMap (fun a => if keep a = true then out a else []) ++ (xs.drop (i + 1)).flatMap (fun a => if keep a = true then out a else []) := by
      rw [← List.flatMap_append, List.take_append_drop]
    have hlen' : (ds ++ ((xs.take i).flatMap (fun a => if keep a = true then out a else []) ++ (if keep a = true then out a else []))).length ≤ 1000000 := by
      rw [← htake]
      rw [hsplit] at hlen
      simp only [List.length_append] at hlen ⊢
      omega
    refine wpAny_of_eq (a := ()) rfl (wm (Y'.store ra' hk hx) fun _ s₃ z => ?_)
    obtain ⟨Y₃, p₃⟩ := z
    refine wm (tests a _ s₃ ham Y₃) fun ok s₄ z => ?_
    obtain ⟨rfl, k₄⟩ := z
    have Y₄ := Y₃.keeps k₄
    have p34 := p₃.trans (PC.keeps k₄)
    cases hkp : keep a with
    | false =>
      simp only [Bool.false_eq_true, if_false]
      refine ⟨xs.length + 1 - (i + 1), by omega, i + 1, rfl, hlt, ?_, keepQ _ p34, pc'.trans (p34.more (by simp))⟩
      rw [htake, hkp]
      simpa using Y₄.sub (subU _)
    | true =>
      simp only [if_true]
      rw [hkp] at hlen' htake
      simp only [if_true] at hlen' htake
      refine wm (hin a _ s₄ ham hkp Y₄ (by rw [List.append_assoc]; exact hlen')) fun _ s₅ z => ?_
      obtain ⟨Y₅, p₅⟩ := z
      have p35 := p34.trans p₅
      refine ⟨xs.length + 1 - (i + 1), by omega, i + 1, rfl, hlt, ?_, keepQ _ p35, pc'.trans (p35.more (by simp))⟩
      rw [htake, ← List.append_assoc]
      exact Y₅.sub (subU _)
  · have hi : i = xs.length := by omega
    subst hi
    refine W.done s _ _ q fun h' tk hk' => ?_
    rw [List.take_length] at Y
    exact hR _ (Y.step hk' wrF hw0 hav) (stepPC h' tk hk')
end
end Mine
end
section
open PySem PySem.Calls PySem.W PyProof.Rows
namespace Mine
section
variable {prog : Program} {w : World} {h0 : Heap} {c : Cx} {σ : St} {μ : Mu} {Φ : AF → Prop}
/-- the block's loop runs, to outs -/
def RunJ (prog : Program) (w : World) (h0 : Heap) (c : Cx) (μ : Mu) (scope : Scope) (e : Expr) (σ₀ : St) (items outs : List D) : Prop :=
  ∀ (cl : List (Str × Addr)) (C D I : Addr) (fp wr : List Addr) (P : Nat → Value → Prop) (Q : Nat → Heap → Prop) (r : Shared) (R : Result → Shared → Prop),
    Walks prog w c.A I fp wr items.length P Q → Q 0 r.heap → (∀ i h, Q i h → ∀ b ∈ wr, ∃ o, h.get? b = some o ∧ isF o) → (∀ b ∈ fp, b ∈ wr ∨ (b ≠ C ∧ b ≠ D ∧ ∃ o, r.heap.get? b = some o)) →
    (∀ b ∈ wr, h0.get? b = none) → (∀ b ∈ wr, ¬ (compCx c μ scope cl C D).av b) → (∀ i v, i < items.length → P i v → ∃ a, items[i]? = some a ∧ Rep r.heap (avs (compCx c μ scope cl C D).av []) a v) →
    CI h0 (compCx c μ scope cl C D) C D σ₀ [] r → (∀ s, CI h0 (compCx c μ scope cl C D) C D σ₀ outs s → PC C D wr r s → R (.ok .next) s) →
    codeAny (model prog w) c.A (.compLoop e 0 (.ref I) (.ref D) (compEnvC scope cl C c.env)) R r
structure CapOk (c : Cx) (σ : St) (scope : Scope) (σ₀ : St) : Prop where
  cap : ∀ y d, σ₀.lookup y = some d → σ.lookup y = some d ∧ scope.names.lookup (Str.ofString y) = some .free ∧ c.env.kindOf (Str.ofString y) = some .cell
  free : ∀ x ∈ scope.names, x.2 = .free → c.env.kindOf x.1 = some .cell
  cell : ∀ x ∈ scope.names, x.2 ≠ .cell
  kind : scope.kind = .function
  names : ∀ x ∈ scope.names, x.2 = .local → scope.names.lookup x.1 = some .local
theorem PSt.cellAt {s : Shared} (hc : ∀ x, c.env.kindOf x = some .cell → ∃ cc, c.env.cells.lookup x = some cc) {scope : Scope} (K : CapOk c σ scope σ₀) : ∀ x ∈ scope.names, x.2 = .free → ∃ cc, c.env.cells.lookup x.1 = some cc :=
  fun x hx hf => hc _ (K.free x hx hf)
theorem comp_core {e : Expr} {scope : Scope} {pos : Pos} {g : Comprehension} {gs : List Comprehension} {use : Option (Value → Sem Unit)} {Q : Value → Shared → Prop} {items outs : List D} {σ₀ : St} {elt : Expr} {ps : Pos} {first : Expr}
    (hcl : clausesOf e = g :: gs) (hs : ∀ x, foldedSetIterable g.iter c.env x = pure x) (hst : ∀ (it acc : Value) (env : Env) (R : Result → Shared → Prop) (s : Shared), codeAny (model prog w) c.A (.compLoop e 0 it acc env) R s → (∀ Q' : Value → Shared → Prop, Q' it s → wpAny (model prog w) c.A (pyIter it) Q' NoE s) → codeAny (model prog w) c.A (.compStart e 0 it acc env) R s)
    (hcells : ∀ x, c.env.kindOf x = some .cell → ∃ cc, c.env.cells.lookup x = some cc) (K : CapOk c σ scope σ₀)
    (he : IteJ prog w h0 c σ μ first items) (hrun : RunJ prog w h0 c μ scope e σ₀ items outs) {s : Shared} (P : PSt h0 c σ μ s)
    (hz : outs.length ≤ 1000000)
    (hQ : ∀ (C D : Addr) (its : Array Value) (s' : Shared), Keeps s s' → s.heap.get? C = none → s.heap.get? D = none → C ≠ D → s'.heap.PlainList D its → RepL s'.heap (fun b => avs c.av μ b ∨ b = C ∨ b = D) outs its.toList →
      (∃ m, s'.heap.Ns C m) → compPost (model prog w) c.A NoE use Q (.ref D) C (.ok .next) s') :
    wpAny (model prog w) c.A (comprehension e scope c.env pos (newList []) false (eval first c.env) use) Q NoE s := by
  obtain ⟨cl, hclos, hcl2⟩ := closureFor_some (scope := scope) (env := c.env) (fun x hx hf => hcells _ (K.free x hx hf))
  refine wpAny_comprehension_free hcl hs hclos K.kind K.names (wm (he s P) fun v s₁ h₁ => wm h₁ fun it s₂ y => ?_)
  obtain ⟨k₁, k₂, I, fp, wr, PP, QQ, rfl, W, q0, hnew, hfp, hF, hP⟩ := y
  have P₁ := P.keeps k₁
  have P₂ := P₁.keeps k₂
  refine wpAny_newObj_type (wpAny_newFunctionEnv (fun x hx => K.cell x hx) (by intro y hy; simp at hy) (fun h₁ hns₁ hsb₁ => ?_) K.kind)
  dsimp only at hns₁ hsb₁ ⊢
  generalize hH2 : s₂.heap.push { cls := .type "list", dict := none, data := .seq ([] : List Value).toArray } = H2 at hns₁ hsb₁ ⊢
  have hC : H2.objs.size = s₂.heap.objs.size + 1 := by rw [← hH2, Heap.size_push]
  have hDC : s₂.heap.objs.size ≠ H2.objs.size := by rw [hC]; exact Nat.ne_of_lt (Nat.lt_succ_self _)
  have below : ∀ b, b < s₂.heap.objs.size → b ≠ H2.objs.size ∧ b ≠ s₂.heap.objs.size := fun b hb => ⟨by rw [hC]; exact Nat.ne_of_lt (Nat.lt_succ_of_lt hb), Nat.ne_of_lt hb⟩
  have old : ∀ b o, s₂.heap.get? b = some o → h₁.get? b = some o := fun b o e => hsb₁.extBut b o (below b (Heap.lt_size e)).1 (Heap.get?_push_of_some _ (hH2 ▸ Heap.get?_push_of_some _ e))
  have hacc : h₁.PlainList s₂.heap.objs.size #[] := ⟨_, hsb₁.extBut _ _ hDC (Heap.get?_push_of_some _ (hH2 ▸ Heap.get?_push_size _ rfl))⟩
  have freshN : ∀ a, s₂.heap.objs.size ≤ a → s₂.heap.get? a = none := fun a ha => by
    cases e : s₂.heap.get? a with
    | none => rfl
    | some o' => exact absurd (Heap.lt_size e) (Nat.not_lt.mpr ha)
  have nC : s₂.heap.get? H2.objs.size = none := freshN _ (by rw [hC]; exact Nat.le_succ _)
  have nD : s₂.heap.get? s₂.heap.objs.size = none := freshN _ (Nat.le_refl _)
  have k12 := kp_trans k₁ k₂
  generalize H2.objs.size = C at *
  generalize hDD : s₂.heap.objs.size = D at *
  have k₃ : Keeps s₂ { s₂ with heap := h₁, toks := s₂.toks + ([] : List (Str × Value)).length } := ⟨h₁, _, rfl, old⟩
  generalize hr : ({ s₂ with heap := h₁, toks := s₂.toks + ([] : List (Str × Value)).length } : Shared) = r at *
  have hrh : r.heap = h₁ := by rw [← hr]
  have P₃ := P₂.keeps k₃
  have avW : ∀ b ∈ wr, ¬ avs c.av μ b := fun b hb ha => by
    obtain ⟨o, e⟩ := P₁.live b ha
    rw [hnew b hb] at e; cases e
  have wrF := hF 0 s₂.heap q0
  have wrC : ∀ b ∈ wr, b ≠ C ∧ b ≠ D := fun b hb => by
    obtain ⟨o, e, _⟩ := wrF b hb
    exact ⟨(fun q => by rw [q, nC] at e; cases e), (fun q => by rw [q, nD] at e; cases e)⟩
  have lift : ∀ {d v} {s₀ : Shared}, Keeps s₀ s₂ → Rep s₀.heap (avs c.av μ) d v → Rep r.heap (avs (compCx c μ scope cl C D).av []) d v := fun {d v s₀} k rr => by
    refine (rr.keeps (kp k)).mono (h := s₂.heap) (fun b o _ e => hrh ▸ old b o e) fun b y => ?_
    rcases avs_nil.mp y with y | y | y
    · exact .inl y
    · exact .inr (y ▸ nC)
    · exact .inr (y ▸ nD)
  have CI0 : CI h0 (compCx c μ scope cl C D) C D σ₀ [] r := by
    refine ⟨⟨⟨P.ok.handled, P.ok.depth, P.ok.units, K.kind, P.ok.globals, P.ok.builtins, .inl (.inl P.ok.avP)⟩, P₃.base, fun y d hy => ?_, fun p hp => (nomatch hp), fun b hb => ?_, P₃.tab⟩, ⟨_, hrh ▸ hns₁⟩, ⟨#[], hrh ▸ hacc, RepL.nil⟩, .inr (.inl rfl), .inr (.inr rfl), rfl, ?_⟩
    · obtain ⟨c1, c2, c3⟩ := K.cap y d hy
      obtain ⟨hd, v, b, rv⟩ := P₂.vars y d c1
      refine ⟨hd, v, .inr ?_, lift kp_rfl rv⟩
      rcases b with ⟨kl, _⟩ | ⟨kc, cc, hcc, hcell⟩
      · rw [kl] at c3; cases c3
      · refine ⟨lookup_relabel_free P.ok.kind c2 c3, cc, ?_, hcell.keeps fun b o e => hrh ▸ old b o e⟩
        show cl.lookup _ = _
        rw [hcl2 _ (mem_of_lookup' c2)]; exact hcc
    · rcases avs_nil.mp hb with y | y | y
      · exact P₃.live b y
      · rw [y, hrh]; obtain ⟨o, es, ep, e, _⟩ := hns₁; exact ⟨o, e⟩
      · rw [y, hrh]; obtain ⟨n, e⟩ := hacc; exact ⟨_, e⟩
    · constructor
      · cases e : h0.get? C with
        | none => rfl
        | some o => have := P₂.base C o e; rw [nC] at this; cases this
      · cases e : h0.get? D with
        | none => rfl
        | some o => have := P₂.base D o e; rw [nD] at this; cases this
  refine hst _ _ _ _ _ (hrun cl C D I fp wr PP QQ r _ W ?_ hF ?_ ?_ ?_ ?_ CI0 fun s' X pc => ?_) fun Q' hq => W.self 0 _ _ _ ?_ hq
  · exact hrh ▸ W.frame _ _ _ q0 fun b _ o e => old b o e
  · intro b hb
    rcases hfp b hb with h | ⟨h1, o, h2⟩
    · exact .inl h
    · have e2 := kp k₂ _ _ h2
      exact .inr ⟨(fun q => by rw [q, nC] at e2; cases e2), (fun q => by rw [q, nD] at e2; cases e2), o, hrh ▸ old _ _ e2⟩
  · intro b hb
    cases e : h0.get? b with
    | none => rfl
    | some o => have := P₁.base b o e; rw [hnew b hb] at this; cases this
  · rintro b hb (h | h | h)
    · exact avW b hb h
    · exact (wrC b hb).1 h
    · exact (wrC b hb).2 h
  · intro i v hi hp
    obtain ⟨d, h1, h2⟩ := hP i v hi hp
    exact ⟨d, h1, lift k₂ h2⟩
  · have kk : Keeps s s' := by
      obtain ⟨h', tk', e'⟩ := pc.same
      obtain ⟨h2, t2, e2, _⟩ := kp_trans k12 k₃
      refine ⟨h', tk', by rw [e', e2], fun b o e => ?_⟩
      have e3 := kp k12 b o e
      have := pc.keep b o (fun q => by rw [q, nC] at e3; cases e3) (fun q => by rw [q, nD] at e3; cases e3) (fun hb => by
        have := kp k₁ b o e
        rw [hnew b hb] at this; cases this) (hrh ▸ old b o e3)
      rw [e'] at this; exact this
    obtain ⟨its, hp, rr⟩ := X.acc
    exact hQ C D its s' kk (old_none k12 nC) (old_none k12 nD) (Ne.symm hDC) hp (rr.mono (fun _ _ _ e => e) fun b y => .inl (avs_nil.mpr y)) X.ns
  · exact hrh ▸ W.frame _ _ _ q0 fun b _ o e => old b o e
end
end Mine
end
section
open PySem PySem.Calls PySem.W PyProof.Rows
namespace Mine
section
variable {prog : Program} {w : World} {h0 : Heap} {c : Cx} {σ : St} {μ : Mu} {Φ : AF → Prop}
/-- the tests of a clause -/
def IfJ (prog : Program) (w : World) (h0 : Heap) (c : Cx) (σ : St) (μ : Mu) (ifs : List Expr) (b : Bool) : Prop :=
  ∀ s, PSt h0 c σ μ s → wpAny (model prog w) c.A (testsT ifs c.env) (fun ok s' => ok = b ∧ Keeps s s') NoE s
theorem If.no : IfJ prog w h0 c σ μ [] true := fun s P => wpAny_tests_nil ⟨rfl, kp_rfl⟩
theorem If.one {t : Expr} {b : Bool} (h : TsJ prog w h0 c σ μ t b) : IfJ prog w h0 c σ μ [t] b := fun s P => wpAny_tests_one (h.run P fun s' k _ => ⟨rfl, k⟩)
theorem start_any {A : Around} {elt : Expr} {gens : List Comprehension} {sc : Scope} {ps : Pos} {d : Nat} {it acc : Value} {env : Env} {g : Comprehension} (hg : gens[d]? = some g) (ha : g.is_async = 0) (R : Result → Shared → Prop) (s : Shared)
    (h0' : codeAny (model prog w) A (.compLoop (.ListComp elt gens sc ps) d it acc env) R s) (h : ∀ Q' : Value → Shared → Prop, Q' it s → wpAny (model prog w) A (pyIter it) Q' NoE s) :
    codeAny (model prog w) A (.compStart (.ListComp elt gens sc ps) d it acc env) R s := by
  refine codeAny_of_tree ?_
  show wpAny _ _ ((compStart (.ListComp elt gens sc ps) d it acc env).onRaise (fun x => do noteFrame x env; standAt theWindowsPlace)) _ _ s
  refine wpAny_notedAt ?_
  unfold compStart
  have e1 : (clausesOf (.ListComp elt gens sc ps))[d]? = some g := hg
  rw [e1]
  have e2 : ((some g).elim false fun x => x.is_async != 0) = false := by show (g.is_async != 0) = false; rw [ha]; rfl
  rw [e2]
  simp only [Bool.false_eq_true, if_false]
  show wpAny _ _ (ask >>= _) _ _ s
  refine wpAny_bind (wpAny_askSetting (wpAny_ite ?_))
  have fin : wpAny (model prog w) A (pyIter it) (fun it' s' => codeAny (model prog w) A (.compLoop (.ListComp elt gens sc ps) d it' acc env) R s') (notedBy (model prog w) A env fun x s' => R (.error x) s') s :=
    wpAny_mono (h (fun it' s' => codeAny (model prog w) A (.compLoop (.ListComp elt gens sc ps) d it' acc env) R s') h0') (fun _ _ x => x) fun _ _ x => x.elim
  split
  · first
      | exact wpAny_bind (wpAny_pure (wpAny_pure (And.intro rfl h0')))
      | exact wpAny_pure (And.intro rfl h0')
  · first
      | exact wpAny_bind (wpAny_rule (wpAny_bind (wpAny_standAt (wpAny_bind (wpAny_mono fin (fun it' s' h' => wpAny_pure (And.intro rfl h')) fun _ _ x => x)))))
      | (refine wpAny_bind (wpAny_rule ?_); show wpAny _ _ (standAt g.iter.pos >>= _) _ _ s; exact wpAny_bind (wpAny_standAt (wpAny_bind (wpAny_mono fin (fun it' s' h' => wpAny_pure (And.intro rfl h')) fun _ _ x => x))))
theorem turn_one {elt : Expr} {sc : Scope} {ps : Pos} {it acc : Value} {env : Env} {tgt iter : Expr} {ifs : List Expr} :
    TurnIs (.ListComp elt [⟨tgt, iter, ifs, 0⟩] sc ps) 0 it acc env iter.pos tgt ifs (do let _ ← call (.builtin "list.append") [acc, ← eval elt env]) := by rfl
theorem turn_two {elt : Expr} {sc : Scope} {ps : Pos} {it acc : Value} {env : Env} {tgt iter : Expr} {ifs : List Expr} {g : Comprehension} :
    TurnIs (.ListComp elt [g, ⟨tgt, iter, ifs, 0⟩] sc ps) 1 it acc env iter.pos tgt ifs (do let _ ← call (.builtin "list.append") [acc, ← eval elt env]) := by rfl
theorem turn_first {elt : Expr} {sc : Scope} {ps : Pos} {it acc : Value} {env : Env} {tgt iter : Expr} {ifs : List Expr} {tgt' iter' : Expr} {ifs' : List Expr} :
    TurnIs (.ListComp elt [⟨tgt, iter, ifs, 0⟩, ⟨tgt', iter', ifs', 0⟩] sc ps) 0 it acc env iter.pos tgt ifs (do
      let x ← eval iter' env
      standAt iter'.pos
      let x ← foldedSetIterable iter' env x
      let _ ← runOwn (.compStart (.ListComp elt [⟨tgt, iter, ifs, 0⟩, ⟨tgt', iter', ifs', 0⟩] sc ps) 1 (← holding [x] (pyIter x)) acc env) env) := by
  unfold TurnIs
  refine Eq.trans (b := (do
      standAt iter.pos
      match ← pyNext it with
      | none => pure (.done .next)
      | some v =>
        letOwnedTupleGo tgt it v
        assign tgt env v
        let mut ok := true
        for c in ifs do
          if ok then ok ← isTrue c env (eval c env)
        if ok then
          let x ← eval iter' env
          standAt iter'.pos
          let x ← foldedSetIterable iter' env x
          let _ ← runOwn (.compStart (.ListComp elt [⟨tgt, iter, ifs, 0⟩, ⟨tgt', iter', ifs', 0⟩] sc ps) 1 (← holding [x] (pyIter x)) acc env) env
        again (.compLoop (.ListComp elt [⟨tgt, iter, ifs, 0⟩, ⟨tgt', iter', ifs', 0⟩] sc ps) 0 it acc env))) rfl ?_
  refine bind_congr fun _ => bind_congr fun r => ?_
  cases r with
  | none => rfl
  | some v =>
    refine bind_congr fun _ => bind_congr fun _ => bind_congr fun ok => ?_
    cases ok with
    | false => rfl
    | true => simp only [if_true, bind_assoc, pure_bind]
end
end Mine
end
section
open PySem PySem.Calls PySem.W PyProof.Rows
namespace Mine
section
variable {prog : Program} {w : World} {h0 : Heap} {c : Cx} {σ : St} {μ : Mu} {Φ : AF → Prop}
/-- a list comprehension comes to outs -/
def CompR (prog : Program) (w : World) (h0 : Heap) (c : Cx) (σ : St) (μ : Mu) (e : Expr) (scope : Scope) (pos : Pos) (first : Expr) (outs : List D) : Prop :=
  ∀ s use (Q : Value → Shared → Prop), PSt h0 c σ μ s →
    (∀ (C D : Addr) (its : Array Value) (s' : Shared), Keeps s s' → s.heap.get? C = none → s.heap.get? D = none → C ≠ D → s'.heap.PlainList D its → RepL s'.heap (fun b => avs c.av μ b ∨ b = C ∨ b = D) outs its.toList →
      (∃ m, s'.heap.Ns C m) → compPost (model prog w) c.A NoE use Q (.ref D) C (.ok .next) s') →
    wpAny (model prog w) c.A (comprehension e scope c.env pos (newList []) false (eval first c.env) use) Q NoE s
theorem relabel_ne' {env : Env} : ∀ {names : List (Str × NameKind)} {x : Str} {k : NameKind}, names.lookup x = some k → k ≠ .free →
    (names.map fun (n, k) => if (k == NameKind.free && env.scope.kind == .function && env.kindOf n == some .cell) then (n, NameKind.cell) else (n, k)).lookup x = some k
  | [], _, _, h, _ => by simp at h
  | (n, j) :: r, x, k, h, hk => by
    have ih := @relabel_ne' env r x k
    show List.lookup x ((if (j == NameKind.free && env.scope.kind == .function && env.kindOf n == some .cell) = true then (n, NameKind.cell) else (n, j)) :: _) = _
    cases hx : x == n with
    | true =>
      simp only [List.lookup_cons, hx] at h
      cases h
      simp [List.lookup_cons, hx, hk]
    | false =>
      simp only [List.lookup_cons, hx] at h
      by_cases hc : (j == NameKind.free && env.scope.kind == .function && env.kindOf n == some .cell) = true
      · rw [if_pos hc]; simp only [List.lookup_cons, hx]; exact ih h hk
      · rw [if_neg hc]; simp only [List.lookup_cons, hx]; exact ih h hk
theorem relabel_ne {scope : Scope} {env : Env} {x : Str} {k : NameKind} (h : scope.names.lookup x = some k) (hk : k ≠ .free) : (relabel scope env).names.lookup x = some k := relabel_ne' h hk
theorem CI.elt {c' : Cx} {C D : Addr} {ds : List Mine.D} {elt : Expr} {d : Mine.D} {s : Shared} (h : EvJ prog w h0 c' σ [] elt d) (X : CI h0 c' C D σ ds s) (hz : (ds ++ [d]).length ≤ 1000000) :
    wpAny (model prog w) c'.A (do let _ ← call (.builtin "list.append") [.ref D, ← eval elt c'.env]) (fun _ s' => CI h0 c' C D σ (ds ++ [d]) s' ∧ PC C D [] s s') NoE s := by
  refine wpAny_bind (h.run X.p fun v s₁ k₁ P₁ r => wpAny_bind (wm (CI.append (X.keeps k₁) r (by simp at hz; omega)) fun _ s₂ y => wpAny_pure ⟨y.1, (PC.keeps k₁).trans y.2⟩))
/-- the block's own state of names -/
def InCx (c : Cx) (scope : Scope) (c' : Cx) : Prop := c'.env.scope = relabel scope c.env ∧ c'.k = c.k
theorem Comp.one {α : Type} {xs : List α} {elt iter : Expr} {ifs : List Expr} {scope : Scope} {ps pos px : Pos} {x : String} {σ₀ : St} (inj : α → Mine.D) (keep : α → Bool) (f : α → Mine.D)
    (he : IteJ prog w h0 c σ μ iter (xs.map inj)) (hcells : ∀ x, c.env.kindOf x = some .cell → ∃ cc, c.env.cells.lookup x = some cc) (K : CapOk c σ scope σ₀)
    (hx : scope.names.lookup (Str.ofString x) = some .local) (hxd : (Str.ofString x == ("__debug__" : Str)) = false) (hσ : σ₀.lookup x = none)
    (hlen : (xs.flatMap fun a => if keep a = true then [f a] else []).length ≤ 1000000)
    (tests : ∀ c' a, InCx c scope c' → a ∈ xs → IfJ prog w h0 c' (upd σ₀ x (inj a)) [] ifs (keep a))
    (helt : ∀ c' a, InCx c scope c' → a ∈ xs → keep a = true → EvJ prog w h0 c' (upd σ₀ x (inj a)) [] elt (f a))
    (hs : ∀ x, foldedSetIterable iter c.env x = pure x) :
    CompR prog w h0 c σ μ (.ListComp elt [⟨.Name (Str.ofString x) px, iter, ifs, 0⟩] scope ps) scope pos iter (xs.flatMap fun a => if keep a = true then [f a] else []) := by
  intro s use Q P hQ
  refine comp_core (g := ⟨.Name (Str.ofString x) px, iter, ifs, 0⟩) (gs := []) (elt := elt) (ps := ps) (σ₀ := σ₀) rfl hs (fun it acc env R s h1 h2 => start_any (g := ⟨.Name (Str.ofString x) px, iter, ifs, 0⟩) rfl rfl R s h1 h2) hcells K he ?_ P hlen hQ
  intro cl C D I fp wr PP QQ r R W q0 hF hfp hw0 hav hP X hR
  have hin : InCx c scope (compCx c μ scope cl C D) := ⟨rfl, rfl⟩
  exact comp_run (c' := compCx c μ scope cl C D) (ds := []) inj keep (fun a => [f a]) turn_one (by rw [List.length_map] at W; exact W) q0 hF hfp hw0 hav (fun i v hi hp => by
      obtain ⟨a, h1, h2⟩ := hP i v (by simpa using hi) hp
      rw [List.getElem?_map] at h1
      cases e : xs[i]? with
      | none => rw [e] at h1; cases h1
      | some a' => rw [e] at h1; cases h1; exact ⟨a', rfl, h2⟩)
    (relabel_ne hx (by decide)) hxd hσ (by simpa using hlen)
    (fun a ds s ha X => tests _ a hin ha s X.p)
    (fun a ds s ha hk X hz => CI.elt (helt _ a hin ha hk) X hz) X hR
theorem Comp.two {α β : Type} {xs : List α} {elt iter iter2 : Expr} {ifs ifs2 : List Expr} {scope : Scope} {ps pos px px2 : Pos} {x x2 : String} {σ₀ : St} (inj : α → Mine.D) (keep : α → Bool) (ys : α → List β) (inj2 : β → Mine.D) (keep2 : α → β → Bool) (f : α → β → Mine.D)
    (he : IteJ prog w h0 c σ μ iter (xs.map inj)) (hcells : ∀ x, c.env.kindOf x = some .cell → ∃ cc, c.env.cells.lookup x = some cc) (K : CapOk c σ scope σ₀)
    (hx : scope.names.lookup (Str.ofString x) = some .local) (hxd : (Str.ofString x == ("__debug__" : Str)) = false) (hσ : σ₀.lookup x = none)
    (hx2 : scope.names.lookup (Str.ofString x2) = some .local) (hxd2 : (Str.ofString x2 == ("__debug__" : Str)) = false) (hσ2 : σ₀.lookup x2 = none) (hne : x2 ≠ x)
    (hlen : (xs.flatMap fun a => if keep a = true then (ys a).flatMap (fun b => if keep2 a b = true then [f a b] else []) else []).length ≤ 1000000)
    (tests : ∀ c' a, InCx c scope c' → a ∈ xs → IfJ prog w h0 c' (upd σ₀ x (inj a)) [] ifs (keep a))
    (he2 : ∀ c' a, InCx c scope c' → a ∈ xs → keep a = true → IteJ prog w h0 c' (upd σ₀ x (inj a)) [] iter2 ((ys a).map inj2))
    (tests2 : ∀ c' a b, InCx c scope c' → a ∈ xs → b ∈ ys a → IfJ prog w h0 c' (upd (upd σ₀ x (inj a)) x2 (inj2 b)) [] ifs2 (keep2 a b))
    (helt : ∀ c' a b, InCx c scope c' → a ∈ xs → b ∈ ys a → keep2 a b = true → EvJ prog w h0 c' (upd (upd σ₀ x (inj a)) x2 (inj2 b)) [] elt (f a b))
    (hs : ∀ x, foldedSetIterable iter c.env x = pure x) (hs2 : ∀ env x, foldedSetIterable iter2 env x = pure x) :
    CompR prog w h0 c σ μ (.ListComp elt [⟨.Name (Str.ofString x) px, iter, ifs, 0⟩, ⟨.Name (Str.ofString x2) px2, iter2, ifs2, 0⟩] scope ps) scope pos iter
      (xs.flatMap fun a => if keep a = true then (ys a).flatMap (fun b => if keep2 a b = true then [f a b] else []) else []) := by
  intro s use Q P hQ
  refine comp_core (g := ⟨.Name (Str.ofString x) px, iter, ifs, 0⟩) (gs := [⟨.Name (Str.ofString x2) px2, iter2, ifs2, 0⟩]) (elt := elt) (ps := ps) (σ₀ := σ₀) rfl hs (fun it acc env R s h1 h2 => start_any (g := ⟨.Name (Str.ofString x) px, iter, ifs, 0⟩) rfl rfl R s h1 h2) hcells K he ?_ P hlen hQ
  intro cl C D I fp wr PP QQ r R W q0 hF hfp hw0 hav hP X hR
  have hin : InCx c scope (compCx c μ scope cl C D) := ⟨rfl, rfl⟩
  refine comp_run (c' := compCx c μ scope cl C D) (ds := []) inj keep (fun a => (ys a).flatMap (fun b => if keep2 a b = true then [f a b] else [])) turn_first (by rw [List.length_map] at W; exact W) q0 hF hfp hw0 hav (fun i v hi hp => by
      obtain ⟨a, h1, h2⟩ := hP i v (by simpa using hi) hp
      rw [List.getElem?_map] at h1
      cases e : xs[i]? with
      | none => rw [e] at h1; cases h1
      | some a' => rw [e] at h1; cases h1; exact ⟨a', rfl, h2⟩)
    (relabel_ne hx (by decide)) hxd hσ (by simpa using hlen)
    (fun a ds s ha X => tests _ a hin ha s X.p) ?_ X hR
  intro a ds s ha hk X hz
  refine wpAny_bind (wm (he2 _ a hin ha hk s X.p) fun v s₁ h₁ => wpAny_bind (wpAny_standAt (wpAny_bind (wpAny_of_eq (hs2 _ v) (wpAny_bind (wpAny_holding (wm h₁ fun it s₂ y => ?_)))))))
  obtain ⟨k₁, k₂, I2, fp2, wr2, PP2, QQ2, rfl, W2, q02, hnew2, hfp2, hF2, hP2⟩ := y
  have k12 := kp_trans k₁ k₂
  have X₂ := X.keeps k12
  have wr2F := hF2 0 _ q02
  have fresh1 : ∀ b ∈ wr2, s.heap.get? b = none := fun b hb => old_none k₁ (hnew2 b hb)
  have loop : ∀ R' : Result → Shared → Prop, (∀ s', CI h0 (compCx c μ scope cl C D) C D (upd σ₀ x (inj a)) (ds ++ (ys a).flatMap (fun b => if keep2 a b = true then [f a b] else [])) s' → PC C D wr2 s₂ s' → R' (.ok .next) s') →
      codeAny (model prog w) (compCx c μ scope cl C D).A (.compLoop (.ListComp elt [⟨.Name (Str.ofString x) px, iter, ifs, 0⟩, ⟨.Name (Str.ofString x2) px2, iter2, ifs2, 0⟩] scope ps) 1 (.ref I2) (.ref D) (compCx c μ scope cl C D).env) R' s₂ := fun R' hR' => by
    refine comp_run (c' := compCx c μ scope cl C D) (ds := ds) inj2 (keep2 a) (fun b => [f a b]) turn_two (by rw [List.length_map] at W2; exact W2) q02 hF2 (fun b hb => ?_) (fun b hb => ?_) (fun b hb hh => ?_) (fun i v hi hp => ?_)
      (relabel_ne hx2 (by decide)) hxd2 (by rw [lookup_upd, if_neg hne]; exact hσ2) hz (fun b ds s hb X => tests2 _ a b hin ha hb s X.p) (fun b ds s hb hk X hz => CI.elt (helt _ a b hin ha hb hk) X hz) X₂ hR'
    · rcases hfp2 b hb with q | ⟨n, o, e⟩
      · exact .inl q
      · exact .inr ⟨(fun q => n (avs_nil.mpr (q ▸ X.avC))), (fun q => n (avs_nil.mpr (q ▸ X.avD))), o, kp k₂ _ _ e⟩
    · cases e : h0.get? b with
      | none => rfl
      | some o => have := X.p.base b o e; rw [fresh1 b hb] at this; cases this
    · obtain ⟨o, e⟩ := X.p.live b (avs_nil.mpr hh)
      rw [fresh1 b hb] at e; cases e
    · obtain ⟨d, h1, h2⟩ := hP2 i v (by simpa using hi) hp
      rw [List.getElem?_map] at h1
      cases e : (ys a)[i]? with
      | none => rw [e] at h1; cases h1
      | some a' => rw [e] at h1; cases h1; exact ⟨a', rfl, h2.keeps (kp k₂)⟩
  have wf : ∀ s', PC C D wr2 s₂ s' → PC C D [] s s' := fun s' p => by
    obtain ⟨h', t', e⟩ := ((PC.keeps k12 : PC C D wr2 s s₂).trans p).same
    exact ⟨⟨h', t', e⟩, fun b o n1 n2 _ e2 => p.keep b o n1 n2 (fun hb => by rw [fresh1 b hb] at e2; cases e2) (kp k12 b o e2)⟩
  refine wpAny_bind (wpAny_runOwn (start_any (g := ⟨.Name (Str.ofString x2) px2, iter2, ifs2, 0⟩) rfl rfl _ _ (loop _ fun s' X' p => wpAny_pure ⟨X', wf s' p⟩) fun Q' hq => W2.self 0 _ _ _ q02 hq))
end
end Mine
end
section
open PySem PySem.Calls PySem.W PyProof.Rows
namespace Mine
section
variable {prog : Program} {w : World} {h0 : Heap} {c : Cx} {σ : St} {μ : Mu} {Φ : AF → Prop}
def withAv (c : Cx) (C : Addr) : Cx := { c with av := fun b => c.av b ∨ b = C }
theorem avs_with {av : Av} {C : Addr} {b : Addr} : avs (fun b => av b ∨ b = C) μ b ↔ (avs av μ b ∨ b = C) := by
  unfold avs
  constructor
  · rintro ((h | h) | h)
    · exact .inl (.inl h)
    · exact .inr h
    · exact .inl (.inr h)
  · rintro ((h | h) | h)
    · exact .inl (.inl h)
    · exact .inr h
    · exact .inl (.inr h)
theorem SSt.withC {s s' : Shared} {C : Addr} (S : SSt h0 c σ μ s) (k : Keeps s s') (hn : s.heap.get? C = none) (hl : ∃ o, s'.heap.get? C = some o) : SSt h0 (withAv c C) σ μ s' := by
  have S' := S.keeps k
  have ha : ∀ b, avs (withAv c C).av μ b → avs c.av μ b ∨ s.heap.get? b = none := fun b h => by
    rcases avs_with.mp h with y | y
    · exact .inl y
    · exact .inr (y ▸ hn)
  refine ⟨⟨⟨S'.p.ok.handled, S'.p.ok.depth, S'.p.ok.units, S'.p.ok.kind, S'.p.ok.globals, S'.p.ok.builtins, .inl S'.p.ok.avP⟩, S'.p.base, fun x d e => ?_, fun p hp => ?_, fun b hb => ?_, S'.p.tab⟩, S'.base0, S'.frame, .inl S'.avL, fun x cc h => .inl (S'.avC x cc h), S'.cells, S'.fresh, S'.nodup, fun p hp h => ?_⟩
  · obtain ⟨z, v, b, r⟩ := S.p.vars x d e
    exact ⟨z, v, b.keeps (kp k), r.mono (fun b o _ e => kp k b o e) ha⟩
  · obtain ⟨z, vs, ⟨n, e⟩, r⟩ := S.p.own p hp
    exact ⟨z, vs, ⟨n, kp k _ _ e⟩, r.mono (fun b o _ e => kp k b o e) ha⟩
  · rcases avs_with.mp hb with y | y
    · exact S'.p.live b y
    · exact y ▸ hl
  · rcases h with y | y
    · exact S.notin p hp y
    · obtain ⟨_, vs, ⟨n, e⟩, _⟩ := S.p.own p hp
      rw [y, hn] at e; cases e
theorem SSt.drop {s : Shared} {h' : Heap} {C : Addr} (S : SSt h0 (withAv c C) σ μ s) (hs : Heap.SameBut C s.heap h') (avL : c.av c.env.locals) (avC : ∀ x cc, c.env.cells.lookup x = some cc → c.av cc) (hC : ∀ b, avs c.av μ b → b ≠ C) (h0C : c.s₀.heap.get? C = none) (avP : c.av P0) : SSt h0 c σ μ { s with heap := h' } := by
  have R := rep_same (av := avs (withAv c C).av μ) hs (avs_with.mpr (.inr rfl))
  have wk : ∀ b, avs c.av μ b → avs (withAv c C).av μ b ∨ h'.get? b = none := fun b y => .inl (avs_with.mpr (.inl y))
  have Lne : c.env.locals ≠ C := hC _ (.inl avL)
  have Cne : ∀ x cc, c.env.cells.lookup x = some cc → cc ≠ C := fun x cc h => hC _ (.inl (avC x cc h))
  have s0k : ∀ b o, c.s₀.heap.get? b = some o → s.heap.get? b = some o → h'.get? b = some o := fun b o e e2 => by rw [hs.2 b (fun q => by rw [q, h0C] at e; cases e), e2]
  obtain ⟨m, cm, X⟩ := S.frame
  refine ⟨⟨⟨S.p.ok.handled, S.p.ok.depth, S.p.ok.units, S.p.ok.kind, S.p.ok.globals, S.p.ok.builtins, avP⟩, fun b o e => s0k b o (S.base0 b o e) (S.p.base b o e), fun x d e => ?_, fun p hp => ?_, fun b hb => ?_, S.p.tab.but hs (Ne.symm (hC _ (.inl avP)))⟩, S.base0,
    ⟨m, cm, ⟨⟨same_shared X.toInCall.same, X.toInCall.ns.sameBut hs Lne, fun b o e => s0k b o e (X.toInCall.keep b o e), X.toInCall.fresh⟩, fun n cc hc => (X.cell n cc hc).sameBut hs (Cne n cc hc), X.apart, X.above⟩⟩,
    avL, avC, S.cells, S.fresh, S.nodup, fun p hp h => S.notin p hp (.inl h)⟩
  · obtain ⟨z, v, b, r⟩ := S.p.vars x d e
    refine ⟨z, v, ?_, (R.1 r).mono (fun _ _ _ e => e) wk⟩
    rcases b with ⟨k, m', n, e⟩ | ⟨k, cc, n, e⟩
    · exact .inl ⟨k, m', n.sameBut hs Lne, e⟩
    · exact .inr ⟨k, cc, n, e.sameBut hs (Cne _ _ n)⟩
  · obtain ⟨z, vs, ⟨n, e⟩, r⟩ := S.p.own p hp
    exact ⟨z, vs, ⟨n, by show h'.get? p.1 = _; rw [hs.2 p.1 (hC _ (.inr ⟨p, hp, rfl⟩)), e]⟩, (R.2 r).mono (fun _ _ _ e => e) wk⟩
  · obtain ⟨o, e⟩ := S.p.live b (avs_with.mpr (.inl hb))
    exact ⟨o, by show h'.get? b = _; rw [hs.2 b (hC b hb), e]⟩
theorem store_L {x : String} {d : D} {v : Value} {s : Shared} {Q : Unit → Shared → Prop} (S : SSt h0 c σ μ s) (r : Rep s.heap (avs c.av μ) d v)
    (hl : c.env.kindOf (Str.ofString x) = some .local) (hx : (Str.ofString x == ("__debug__" : Str)) = false)
    (h : ∀ h' n, SSt h0 c (upd σ x d) μ { s with heap := h', toks := n } → Heap.SameBut c.env.locals s.heap h' → (∃ o, h'.get? c.env.locals = some o) → Q () { s with heap := h', toks := n }) : wpAny (model prog w) c.A (storeName c.env (Str.ofString x) v) Q NoE s := by
  obtain ⟨m, cm, X⟩ := S.frame
  have avs_of : ∀ a, c.av a → avs c.av μ a := fun a h => .inl h
  refine wpAny_storeName_local hl X.toInCall.ns (fun h' hn' hs' => h h' _ ?_ hs' (let ⟨o, _, _, e, _⟩ := hn'; ⟨o, e⟩)) (by rw [S.p.ok.kind]; rfl)
  have R := rep_same hs' (avs_of _ S.avL)
  have hIC : InCallC c.s₀ c.env.locals (fun y => if y = Str.ofString x then some v else m y) c.env.cells cm { s with heap := h', toks := s.toks + 1 } :=
    ⟨⟨same_shared X.toInCall.same, hn', fun b o e => hs'.extBut b o (Nat.ne_of_lt (Nat.lt_of_lt_of_le (Heap.lt_size e) X.toInCall.fresh)) (X.toInCall.keep b o e), X.toInCall.fresh⟩,
      fun k cc hc => (X.cell k cc hc).sameBut hs' (Nat.ne_of_gt (X.above k cc (mem_of_lookup hc))), X.apart, X.above⟩
  refine ⟨⟨S.p.ok, fun b o e => hIC.toInCall.keep b o (S.base0 b o e), fun y e hy => ?_, fun p hp => ?_, fun b hb => ?_, S.p.tab.but hs' (S.p.tab.neNs X.toInCall.ns)⟩, S.base0, ⟨_, cm, hIC⟩, S.avL, S.avC, S.cells, S.fresh, S.nodup, S.notin⟩
  · rw [lookup_upd] at hy
    by_cases hyx : y = x
    · subst hyx
      rw [if_pos rfl] at hy; cases hy
      exact ⟨hx, v, .inl ⟨hl, _, hn', by simp⟩, R.1 r⟩
    · rw [if_neg hyx] at hy
      obtain ⟨hd, v', b, r'⟩ := S.p.vars y e hy
      refine ⟨hd, v', ?_, R.1 r'⟩
      rcases b with ⟨kl, m', hn, hm⟩ | ⟨kc, cc, hc, hcell⟩
      · rw [ns_fun hn X.toInCall.ns] at hm
        exact .inl ⟨kl, _, hn', by show (if Str.ofString y = Str.ofString x then some v else m (Str.ofString y)) = _; rw [if_neg (fun q => hyx (ofString_inj q))]; exact hm⟩
      · exact .inr ⟨kc, cc, hc, hcell.sameBut hs' (Nat.ne_of_gt (X.above _ cc (mem_of_lookup hc)))⟩
  · obtain ⟨z, vs, ⟨n, hp'⟩, rr⟩ := S.p.own p hp
    exact ⟨z, vs, ⟨n, by show h'.get? p.1 = _; rw [hs'.2 p.1 (fun q => S.notin p hp (q ▸ S.avL))]; exact hp'⟩, R.2 rr⟩
  · obtain ⟨o, e⟩ := S.p.live b hb
    by_cases hbL : b = c.env.locals
    · subst hbL
      obtain ⟨o', es, ep, e', _⟩ := hn'
      exact ⟨o', e'⟩
    · exact ⟨o, by show h'.get? b = _; rw [hs'.2 b hbL]; exact e⟩
theorem Ev.comp {elt : Expr} {gt gi : Expr} {gf : List Expr} {gs : List Comprehension} {scope : Scope} {ps : Pos} {outs : List D} (h : CompR prog w h0 c σ μ (.ListComp elt (⟨gt, gi, gf, 0⟩ :: gs) scope ps) scope (firstIterPos (⟨gt, gi, gf, 0⟩ :: gs) ps) gi outs) (hz : outs.length ≤ 1000000) : EvJ prog w h0 c σ μ (.ListComp elt (⟨gt, gi, gf, 0⟩ :: gs) scope ps) (.lst outs) := fun s P => by
  rw [eval_ListComp]
  have e1 : firstAsync (⟨gt, gi, gf, 0⟩ :: gs) = false := by rfl
  have e2 : firstIter (⟨gt, gi, gf, 0⟩ :: gs) c.env = eval gi c.env := rfl
  rw [e1, e2]
  refine h s none _ P fun C D its s' k nC nD ne hp rr hm => ?_
  obtain ⟨m, hm⟩ := hm
  refine ⟨m, hm, fun h' hs => ?_⟩
  have kk : Keeps s { s' with heap := h' } := by
    obtain ⟨h1, t1, e, x⟩ := k
    exact ⟨h', s'.toks, by rw [e], fun b o eb => by rw [hs.2 b (fun q => by rw [q, nC] at eb; cases eb), e]; exact x b o eb⟩
  refine ⟨kk, ?_⟩
  rw [Rep]
  obtain ⟨n, e⟩ := hp
  refine ⟨hz, D, its, rfl, P.off nD, ⟨n, by show h'.get? D = _; rw [hs.2 D (Ne.symm ne), e]⟩, rr.mono (fun b o nb e => by show h'.get? b = _; rw [hs.2 b (fun q => nb (.inr (.inl q))), e]) fun b y => .inl (.inl y)⟩
theorem X1.comp {elt : Expr} {gt gi : Expr} {gf : List Expr} {gs : List Comprehension} {scope : Scope} {ps : Pos} {outs : List D} {x : String} {px pos : Pos} (h : CompR prog w h0 c σ μ (.ListComp elt (⟨gt, gi, gf, 0⟩ :: gs) scope ps) scope (firstIterPos (⟨gt, gi, gf, 0⟩ :: gs) ps) gi outs) (hz : outs.length ≤ 1000000)
    (hk : c.env.kindOf (Str.ofString x) = some .local) (k : Φ (.next (upd σ x (.lst outs)) μ)) (hx : (Str.ofString x == ("__debug__" : Str)) = false)
    (hs : swapsWith (.ListComp elt (⟨gt, gi, gf, 0⟩ :: gs) scope ps) (some (.Name (Str.ofString x) px)) pos.line c.env = pure true) :
    X1 prog w h0 c σ μ (.Assign [.Name (Str.ofString x) px] (.ListComp elt (⟨gt, gi, gf, 0⟩ :: gs) scope ps) pos) Φ := fun s S => by
  rw [exec_Assign_Name_used _ _ _ _ hs]
  refine wpAny_bind (wpAny_standAt (wpAny_bind ?_))
  rw [arm_evalThenUse_ListComp]
  have e1 : firstAsync (⟨gt, gi, gf, 0⟩ :: gs) = false := by rfl
  have e2 : firstIter (⟨gt, gi, gf, 0⟩ :: gs) c.env = eval gi c.env := rfl
  rw [e1, e2]
  dsimp only
  refine wpAny_bind (h s _ _ S.p fun C D its s' kk nC nD ne hp rr hm => ?_)
  obtain ⟨m, hm⟩ := hm
  have lC : ∃ o, s'.heap.get? C = some o := let ⟨o, _, _, e, _⟩ := hm; ⟨o, e⟩
  have SC := S.withC kk nC lC
  have rD : Rep s'.heap (avs (withAv c C).av μ) (.lst outs) (.ref D) := by
    rw [Rep]
    refine ⟨hz, D, its, rfl, fun y => ?_, hp, rr.mono (fun _ _ _ e => e) fun b y => ?_⟩
    · rcases avs_with.mp y with y | y
      · exact S.p.off nD y
      · exact ne y.symm
    · rcases avs_with.mp y with y | y
      · exact .inl (.inl y)
      · exact .inl (.inr (.inl y))
  have nL : c.env.locals ≠ C := fun q => by
    obtain ⟨o, e⟩ := S.p.live _ (.inl S.avL)
    rw [q, nC] at e; cases e
  refine wpAny_assign_Name ?_
  refine store_L (c := withAv c C) SC rD hk hx fun h' n S' hsb lL => ⟨m, hm.sameBut hsb (Ne.symm nL), fun h'' hs'' => wpAny_pure (wpAny_pure ?_)⟩
  have h0C : c.s₀.heap.get? C = none := by
    obtain ⟨m, cm, X⟩ := S.frame
    cases e : c.s₀.heap.get? C with
    | none => rfl
    | some o => have := X.toInCall.keep C o e; rw [nC] at this; cases this
  refine ⟨_, k, ⟨rfl, S'.drop hs'' S.avL S.avC (fun b hb q => by
    obtain ⟨o, e⟩ := S.p.live b hb
    rw [q, nC] at e; cases e) h0C S.p.ok.avP⟩, ⟨fun b o n e => ?_, fun p hp => .inl ⟨p, hp, rfl⟩, fun b o e => ?_⟩⟩
  · show h''.get? b = _
    rw [hs''.2 b (fun q => by rw [q, nC] at e; cases e), hsb.2 b (fun q => n (q ▸ .inl S.avL))]
    exact kp kk b o e
  · by_cases q : b = c.env.locals
    · obtain ⟨o', e'⟩ := lL
      exact ⟨o', by show h''.get? b = _; rw [hs''.2 b (fun q => by rw [q, nC] at e; cases e), q]; exact e'⟩
    · exact ⟨o, by show h''.get? b = _; rw [hs''.2 b (fun q => by rw [q, nC] at e; cases e), hsb.2 b q]; exact kp kk b o e⟩
end
end Mine
end
section
open PySem PySem.Calls PySem.W PyProof.Rows
namespace Mine
section
variable {prog : Program} {w : World} {h0 : Heap} {c : Cx} {σ : St} {μ : Mu} {Φ : AF → Prop}
def WhΦ (Inv : Nat → St → Mu → Prop) (n : Nat) (Φ : AF → Prop) : AF → Prop
  | .next σ μ => ∃ m, m < n ∧ Inv m σ μ
  | .cont σ μ => ∃ m, m < n ∧ Inv m σ μ
  | .brk σ μ => Φ (.next σ μ)
  | .ret d μ => Φ (.ret d μ)
theorem X1.while {test : Expr} {body : List Stmt} {pos : Pos} (Inv : Nat → St → Mu → Prop) (n : Nat) (h00 : Inv n σ μ)
    (turn : ∀ n σ' μ', Inv n σ' μ' → ∃ b, TsJ prog w h0 c σ' μ' test b ∧ (b = true → XJ prog w h0 c σ' μ' body (WhΦ Inv n Φ)) ∧ (b = false → Φ (.next σ' μ'))) :
    X1 prog w h0 c σ μ (.While test body [] pos) Φ := by
  intro s S
  refine wpAny_While (codeAny_whileLoop (fun n s' => ∃ σ' μ', Inv n σ' μ' ∧ SSt h0 c σ' μ' s' ∧ Pres c μ s μ' s') ?_ n ⟨σ, μ, h00, S, Pres.keeps kp_rfl⟩)
  rintro n s' ⟨σ', μ', hi, S', pr⟩
  obtain ⟨b, ht, hT, hF⟩ := turn n σ' μ' hi
  refine wpAny_mono (ht.run S'.p (Q := fun b' s₂ => b' = b ∧ Keeps s' s₂) fun s₂ k P₂ => ⟨rfl, k⟩) (fun b' s₂ z => ?_) fun _ _ z => z.elim
  obtain ⟨rfl, k⟩ := z
  cases b' with
  | true =>
    simp only [if_true]
    refine wpAny_mono (hT rfl s₂ (S'.keeps k)) (fun fl s₃ z => ?_) fun _ _ z => z.elim
    obtain ⟨af, ha, hf, p⟩ := z
    have pp := pr.trans ((Pres.keeps k).trans p)
    cases af with
    | next σ'' μ'' => obtain ⟨rfl, S₄⟩ := hf; obtain ⟨m, hm, hi'⟩ := ha; exact ⟨m, hm, σ'', μ'', hi', S₄, pp⟩
    | cont σ'' μ'' => obtain ⟨rfl, S₄⟩ := hf; obtain ⟨m, hm, hi'⟩ := ha; exact ⟨m, hm, σ'', μ'', hi', S₄, pp⟩
    | brk σ'' μ'' => obtain ⟨rfl, S₄⟩ := hf; exact ⟨_, ha, ⟨rfl, S₄⟩, pp⟩
    | ret d μ'' => obtain ⟨v, rfl, S₄⟩ := hf; exact ⟨_, ha, ⟨v, rfl, S₄⟩, pp⟩
  | false =>
    simp only [Bool.false_eq_true, if_false]
    exact wpAny_execs_nil ⟨_, hF rfl, ⟨rfl, S'.keeps k⟩, pr.trans (Pres.keeps k)⟩
/-- an expression that may make own lists -/
def PrJ (prog : Program) (w : World) (h0 : Heap) (c : Cx) (σ : St) (μ : Mu) (e : Expr) (K : D → Mu → Prop) : Prop :=
  ∀ s, SSt h0 c σ μ s → wpAny (model prog w) c.A (eval e c.env) (fun v s' => ∃ d μ', K d μ' ∧ SSt h0 c σ μ' s' ∧ Pres c μ s μ' s' ∧ Rep s'.heap (avs c.av μ') d v) NoE s
theorem Pr.ev {e : Expr} {d : D} (h : EvJ prog w h0 c σ μ e d) : PrJ prog w h0 c σ μ e (fun d' μ' => d' = d ∧ μ' = μ) := fun s S =>
  wm (h s S.p) fun v s' y => ⟨d, μ, ⟨rfl, rfl⟩, S.keeps y.1, Pres.keeps y.1, y.2⟩
theorem Pr.fr {e : Expr} {ds : List D} (h : FrJ prog w h0 c σ μ e ds) : PrJ prog w h0 c σ μ e (fun d' μ' => ∃ a, a ∉ μ.map Prod.fst ∧ d' = .mut a ∧ μ' = (a, ds) :: μ) := fun s S =>
  wm (h s S.p) fun v s' y => by
    obtain ⟨kk, a, its, rfl, hn, hp, hz, r⟩ := y
    obtain ⟨S', p'⟩ := S.alloc kk hn hp hz r
    refine ⟨.mut a, _, ⟨a, fun hm => ?_, rfl, rfl⟩, S', p', by rw [Rep]⟩
    have := S'.nodup
    rw [List.map_cons, List.nodup_cons] at this
    exact this.1 hm
theorem pres_repL {c : Cx} {μ μ' : Mu} {s s' : Shared} (p : Pres c μ s μ' s') {d : List D} {v : List Value} (r : RepL s.heap (avs c.av μ) d v) : RepL s'.heap (avs c.av μ') d v :=
  r.mono (fun b o n e => p.keep b o n e) fun b y => by
    rcases y with y | ⟨q, hq, rfl⟩
    · exact .inl (.inl y)
    · rcases p.new q hq with ⟨r, hr, e⟩ | e
      · exact .inl (.inr ⟨r, hr, e⟩)
      · exact .inr e
theorem keeps_fresh {s : Shared} {h' : Heap} (he : Heap.ExtBut s.heap.objs.size s.heap h') : Keeps s { s with heap := h' } :=
  ⟨h', s.toks, rfl, fun b o e => he b o (Nat.ne_of_lt (Heap.lt_size e)) e⟩
/-- `x, y = (e, e')` -/
theorem X1.swap2 {x y : String} {e e' : Expr} {px py : Pos} {tk tk' : Nat} {tp vp pos : Pos} {K1 : D → Mu → Prop} {K2 : D → Mu → D → Mu → Prop} (h1 : PrJ prog w h0 c σ μ e K1) (h2 : ∀ d1 μ1, K1 d1 μ1 → PrJ prog w h0 c σ μ1 e' (K2 d1 μ1))
    (hkx : c.env.kindOf (Str.ofString x) = some .local) (hky : c.env.kindOf (Str.ofString y) = some .local) (hx : (Str.ofString x == ("__debug__" : Str)) = false) (hy : (Str.ofString y == ("__debug__" : Str)) = false)
    (hw : swappedStores [.Tuple [.Name (Str.ofString x) px, .Name (Str.ofString y) py] tk tp] (.Tuple [e, e'] tk' vp) c.env = pure (some [Str.ofString x, Str.ofString y]))
    (k : ∀ d1 μ1 d2 μ2, K1 d1 μ1 → K2 d1 μ1 d2 μ2 → Φ (.next (upd (upd σ y d2) x d1) μ2))
    (hse : starEach [e, e'] c.env = [(false, eval e c.env), (false, eval e' c.env)] := by rfl) :
    X1 prog w h0 c σ μ (.Assign [.Tuple [.Name (Str.ofString x) px, .Name (Str.ofString y) py] tk tp] (.Tuple [e, e'] tk' vp) pos) Φ := fun s S => by
  refine Assign_Tuple_swapped (names := [Str.ofString x, Str.ofString y]) ?_ rfl hw
  refine wpAny_Tuple_spliced ?_
  rw [hse]
  refine spliced_cons (wm (h1 s S) fun v s₁ z => spliced_cons ?_)
  obtain ⟨d1, μ1, hk1, S₁, p₁, r₁⟩ := z
  refine wm (h2 d1 μ1 hk1 s₁ S₁) fun v' s₂ z => spliced_nil ?_
  obtain ⟨d2, μ2, hk2, S₂, p₂, r₂⟩ := z
  refine ⟨by rw [sizeLine_eq]; simp, ?_⟩
  have r₁' := pres_rep p₂ r₁
  have hT : PyProof.Rows.IsTup (s₂.heap.push { cls := .type "tuple", data := .seq [v, v'].toArray }) s₂.heap.objs.size [v, v'].toArray := ⟨_, Heap.get?_push_size _ rfl, rfl, _, rfl⟩
  refine PyProof.Rows.unpackItems_tuple (items := [v, v'].toArray) S.p.ok.handled hT fun h' he => ?_
  have kk : Keeps s₂ { s₂ with heap := h' } := kp_trans (kp_push' (s := s₂) (o := { cls := .type "tuple", data := .seq [v, v'].toArray })) (keeps_fresh (s := { s₂ with heap := s₂.heap.push { cls := .type "tuple", data := .seq [v, v'].toArray } }) he)
  have S₃ := S₂.keeps kk
  show wpAny _ _ (assignInOrder [fun v => bindName c.env (Str.ofString y) v, fun v => bindName c.env (Str.ofString x) v] [v', v]) _ _ _
  unfold assignInOrder
  refine wpAny_bind (wpAny_holding (wpAny_bindName (store_ S₃ (r₂.keeps (kp kk)) (.inl hky) hy fun s₄ S₄ p₄ => ?_)))
  unfold assignInOrder
  refine wpAny_bind (wpAny_holding (wpAny_bindName (store_ S₄ (pres_rep p₄ (r₁'.keeps (kp kk))) (.inl hkx) hx fun s₅ S₅ p₅ => ?_)))
  exact wpAny_pure ⟨_, k _ _ _ _ hk1 hk2, ⟨rfl, S₅⟩, p₁.trans (p₂.trans ((Pres.keeps kk).trans (p₄.trans p₅)))⟩
def KindV (c : Cx) (x : String) : Prop := (c.env.kindOf (Str.ofString x) = some .local ∨ c.env.kindOf (Str.ofString x) = some .cell) ∧ (Str.ofString x == ("__debug__" : Str)) = false
/-- what unpacks to data -/
def UnJ (d : D) (ds : List D) : Prop := d = .tup ds ∨ d = .lst ds
theorem X1.tup3 {x y z : String} {e : Expr} {px py pz : Pos} {tk : Nat} {tp pos : Pos} {d d1 d2 d3 : D} (h : EvJ prog w h0 c σ μ e d) (hu : UnJ d [d1, d2, d3])
    (hx : KindV c x) (hy : KindV c y) (hz : KindV c z) (k : Φ (.next (upd (upd (upd σ x d1) y d2) z d3) μ))
    (hs : swapsWithSole [.Tuple [.Name (Str.ofString x) px, .Name (Str.ofString y) py, .Name (Str.ofString z) pz] tk tp] e pos.line c.env = pure false := by rfl)
    (hw : swappedStores [.Tuple [.Name (Str.ofString x) px, .Name (Str.ofString y) py, .Name (Str.ofString z) pz] tk tp] e c.env = pure none := by rfl) :
    X1 prog w h0 c σ μ (.Assign [.Tuple [.Name (Str.ofString x) px, .Name (Str.ofString y) py, .Name (Str.ofString z) pz] tk tp] e pos) Φ := fun s S => by
  refine Assign_Tuple (h.run S.p fun v s₁ k₁ P₁ r => ?_) hs hw
  have fin : ∀ (a : Addr) (its : Array Value), v = .ref a → RepL s₁.heap (avs c.av μ) [d1, d2, d3] its.toList → ∀ h', Heap.ExtBut s₁.heap.objs.size s₁.heap h' →
      wpAny (model prog w) c.A (assignInOrder [PySem.assign (.Name (Str.ofString x) px) c.env, PySem.assign (.Name (Str.ofString y) py) c.env, PySem.assign (.Name (Str.ofString z) pz) c.env] its.toList) (fun _ s' => Post h0 c μ s Φ .next s') NoE { s₁ with heap := h' } := fun a its _ rr h' he => by
    have kk := keeps_fresh he
    have S₂ := (S.keeps k₁).keeps kk
    rw [RepL] at rr; obtain ⟨v1, vs1, e1, r1, rr⟩ := rr
    rw [RepL] at rr; obtain ⟨v2, vs2, e2, r2, rr⟩ := rr
    rw [RepL] at rr; obtain ⟨v3, vs3, e3, r3, rr⟩ := rr
    rw [RepL] at rr; subst rr; subst e3; subst e2
    rw [e1]
    unfold assignInOrder
    refine wpAny_bind (wpAny_holding (wpAny_assign_Name (store_ S₂ (r1.keeps (kp kk)) hx.1 hx.2 fun s₄ S₄ p₄ => ?_)))
    unfold assignInOrder
    refine wpAny_bind (wpAny_holding (wpAny_assign_Name (store_ S₄ (pres_rep p₄ (r2.keeps (kp kk))) hy.1 hy.2 fun s₅ S₅ p₅ => ?_)))
    unfold assignInOrder
    refine wpAny_bind (wpAny_holding (wpAny_assign_Name (store_ S₅ (pres_rep p₅ (pres_rep p₄ (r3.keeps (kp kk)))) hz.1 hz.2 fun s₆ S₆ p₆ => ?_)))
    exact wpAny_pure ⟨_, k, ⟨rfl, S₆⟩, (Pres.keeps (kp_trans k₁ kk)).trans (p₄.trans (p₅.trans p₆))⟩
  rcases hu with rfl | rfl
  · rw [Rep] at r
    obtain ⟨zz, a, its, rfl, na, ⟨n, hg⟩, rr⟩ := r
    exact assign_Tuple_tuple S.p.ok.handled ⟨_, hg, rfl, n, rfl⟩ (by have := li_size rr; rw [this]; rfl) rfl (fin a its rfl rr)
  · rw [Rep] at r
    obtain ⟨zz, a, its, rfl, na, ⟨n, hg⟩, rr⟩ := r
    rw [assign_Tuple]
    refine wpAny_bind (wpAny_standAt ?_)
    unfold unpack
    have e3 : (assignEach [.Name (Str.ofString x) px, .Name (Str.ofString y) py, .Name (Str.ofString z) pz] c.env).length = its.size := by have := li_size rr; rw [this]; rfl
    rw [e3]
    exact wpAny_bind (wpAny_holding (kun_itemsOf S.p.ok.handled ⟨_, hg, rfl, n, rfl⟩ (fin a its rfl rr)))
end
end Mine
end
section
open PySem PySem.Calls PySem.W PyProof.Rows
namespace Mine
section
variable {prog : Program} {w : World} {A : Around} {s : Shared}
theorem slot_mget : Slot "method_descriptor" "__get__" "method_descriptor.__get__" :=
  .of (owner := "method_descriptor") (n := "__get__") (by rw [typeLookup_type, builtinLookup_eq_fast]; kernel_rfl) (by decide +kernel) (by decide +kernel) (by decide +kernel)
    (by first | exact .inl (by decide +kernel) | exact .inr (by decide +kernel)) (by rw [isSubtype_type]; kernel_rfl)
theorem entry_mget : entryFor table "method_descriptor.__get__" = some Builtin.«method_descriptor.__get__» := entryFor_of_tree (by kernel_rfl)
theorem args_mget (a b c : Value) : argsOk "method_descriptor.__get__" ⟨[a, b, c], []⟩ := by unfold argsOk; kernel_rfl
theorem type_lapp : typeOf (.builtin "list.append") = pure (.type "method_descriptor") := by show builtinType _ = _; rw [builtinType_eq_fast]; kernel_rfl
theorem wp_eq {α : Type} {M : Model} {A : Around} {t u : Sem α} {Q : α → Shared → Prop} {E : Value → Shared → Prop} {s : Shared} (e : t = u) (h : wpAny M A u Q E s) : wpAny M A t Q E s := e ▸ h
theorem run_mget {M : Model} {E : Value → Shared → Prop} {a : Addr} {P : Fin → Shared → Prop} (hT : s.TypeIs (.ref a) "list") (h : P (.done (.ret (.ref s.heap.objs.size))) { s with heap := s.heap.push (bnd a) }) :
    wpAny M A (Builtin.«method_descriptor.__get__» ⟨[.builtin "list.append", .ref a, .type "list"], []⟩) P E s := by
  unfold Builtin.«method_descriptor.__get__»
  refine wpAny_bind (wpAny_of_eq (a := (.builtin "list.append", some (.ref a), some (.type "list"))) (by first | rfl | kernel_rfl) ?_)
  dsimp only
  rw [if_neg (by decide +kernel)]
  refine wp_eq (u := ((do
    if !(← isInstance (.ref a) (.type "list")) then
      rule "descr.get.wrong-instance"
      raiseError "TypeError" s!"descriptor '{(Str.ofString "append").toString}' for '{← typeName (.type "list")}' objects doesn't apply to a '{← typeNameOf (.ref a)}' object" : Sem Unit) >>= fun _ => (do ret (← newFields "builtin_function_or_method" [.builtin "list.append", .ref a])))) ?_ ?_
  · kernel_rfl
  · refine wpAny_bind (wpAny_bind (wpAny_isInstance (T := "list") (b := true) hT (by first | decide +kernel | kernel_rfl | (rw [isSubtype_type]; kernel_rfl)) ?_))
    exact wpAny_pure (wpAny_bind (wpAny_newObj_type (wpAny_pure h)))
theorem md_no_set : typeLookup (.type "method_descriptor") "__set__" = pure none := by rw [typeLookup_type, builtinLookup_eq_fast]; kernel_rfl
theorem md_no_del : typeLookup (.type "method_descriptor") "__delete__" = pure none := by rw [typeLookup_type, builtinLookup_eq_fast]; kernel_rfl
theorem lapp_T (s : Shared) : s.TypeIs (.builtin "list.append") "method_descriptor" := type_lapp
theorem meets_getattribute_append (a : Addr) (xs : Array Value) (k : Nat) (u : Tok) :
    Meets (Builtin.«object.__getattribute__» ⟨[.ref a, .str (Str.ofString "append") u], []⟩) (fun A R s => s.heap.get? a = some { cls := .type "list", dict := none, data := .seq xs k, slots := #[] } ∧ R (.ok (.ret (.ref s.heap.objs.size))) { s with heap := s.heap.push (bnd a) }) :=
  Meets.of_wp fun prog w A R s hs => by
    obtain ⟨hp, g, d, tk, os⟩ := s
    obtain ⟨hx, hs⟩ := hs
    have hT : (⟨hp, g, d, tk, os⟩ : Shared).TypeIs (.ref a) "list" := ⟨_, hx, rfl⟩
    have hT2 : (⟨hp, g, d, tk, os⟩ : Shared).TypeIs (.builtin "list.append") "method_descriptor" := type_lapp
    have f1 := PySem.F.slot_list_append.lookup
    have f2 := slot_mget.lookup
    have f3 := md_no_set
    have f4 := md_no_del
    unfold Builtin.«object.__getattribute__»
    repeat (any_goals (first | assumption | ((with_reducible show wpAny _ _ (call (Value.builtin "method_descriptor.__get__") _ _) _ _ _); refine wpAny_call_entry slot_mget hT2 entry_mget (run_mget hT ?_) (args_mget _ _ _)) | wp_step))
    exact ⟨_, rfl, wpAny_pure ⟨_, rfl, hs⟩⟩
theorem getAttr_append {a : Addr} {its : Array Value} {Q : Value → Shared → Prop} {E : Value → Shared → Prop} (hp : s.heap.PlainList a its)
    (h : ∀ h' tk b, Keeps s { s with heap := h', toks := tk } → s.heap.get? b = none → h'.get? b = some (bnd a) → Q (.ref b) { s with heap := h', toks := tk }) : wpAny (model prog w) A (getAttr (.ref a) (Str.ofString "append") true) Q E s := by
  obtain ⟨n, hx⟩ := hp
  obtain ⟨hp, g, d, tk, os⟩ := s
  have hT : ∀ tk', (⟨hp, g, d, tk', os⟩ : Shared).TypeIs (.ref a) "list" := fun _ => ⟨_, hx, rfl⟩
  have f3 := PySem.F.slot_list_getattribute.lookup
  have f4 := PySem.F.slot_list_getattribute.bind (.ref a)
  have f5 := am_list_getattr_none
  unfold getAttr getAttrBy
  repeat (any_goals (first | assumption | exact hT _ | ((with_reducible show wpAny _ _ (call (Value.builtin "list.__getattribute__") _ _) _ _ _); refine call_meets PySem.F.slot_list_getattribute (hT _) am_entry_list_getattribute (PySem.F.args_list_getattribute_2 _ _) (meets_getattribute_append a its n _) ⟨hx, ?_⟩) | wp_step))
  exact wpAny_pure (h _ _ _ kp_push (fresh_size hp) (Heap.get?_push_size _ rfl))
theorem type_bfm {b : Addr} {a : Addr} (hb : s.heap.get? b = some (bnd a)) : s.TypeIs (.ref b) "builtin_function_or_method" := ⟨_, hb, rfl⟩
theorem sig_app : (Manifest.signature? "list.append").isSome = true := by decide +kernel
theorem args_app {a : Addr} {v : Value} : Bind.checkArgs "list.append" { (Manifest.signature? "list.append").get sig_app with full := s!"{Bind.lastOf "list"}.{Bind.lastOf "list.append"}" } ⟨[.ref a, v], []⟩ = pure () := by kernel_rfl
theorem kind_app : builtinKind "list.append" = some .method := by kernel_rfl
theorem sub_list_module : isSubtype (.type "list") (.type "module") = pure false := by rw [isSubtype_type]; kernel_rfl
theorem sub_list_type : isSubtype (.type "list") (.type "type") = pure false := by rw [isSubtype_type]; kernel_rfl
theorem check_app {M : Model} {E : Value → Shared → Prop} {a : Addr} {v : Value} {Q : Unit → Shared → Prop} {its : Array Value} {n : Nat} (hx : s.heap.get? a = some { cls := .type "list", data := .seq its n }) (h : Q () s) : wpAny M A (checkBoundCall "list.append" ⟨[.ref a, v], []⟩) Q E s := by
  have hT : s.TypeIs (.ref a) "list" := ⟨_, hx, rfl⟩
  unfold checkBoundCall
  have e : Manifest.signature? "list.append" = some ((Manifest.signature? "list.append").get sig_app) := by simp
  rw [e]
  dsimp only
  rw [kind_app]
  dsimp only
  rw [if_neg (by decide)]
  refine wpAny_bind (wpAny_isInstance (T := "list") (b := false) hT sub_list_module ?_)
  rw [if_neg (by decide +kernel)]
  refine wpAny_bind (m := isType (.ref a)) ?_
  unfold isType
  refine wpAny_bind (wpAny_loadPart hx (wpAny_pure ?_))
  dsimp only
  rw [if_neg (by decide)]
  refine wpAny_bind (wpAny_typeOf hT ?_)
  exact wpAny_of_eq args_app h
theorem callWith_bnd {M : Model} {E : Value → Shared → Prop} {pos : Pos} {u a : Addr} {args : List (Bool × Sem Value)} {Q : Value → Shared → Prop} (hplain : args.any (·.1) = false)
    (h : wpAny M A (evalArgs (.ref u) true args []) (fun x s₁ => s₁.heap.get? u = some (bnd a) ∧ wpAny M A (call (.ref u) x.pos x.kw) Q E s₁) E s) : wpAny M A (callWith pos (.ref u) [] args []) Q E s := by
  unfold callWith
  refine wpAny_bind (wpAny_holding (wpAny_mono h (fun x s₁ h₁ => wpAny_bind (wpAny_standAt ?_)) fun _ _ x => x))
  obtain ⟨ho, hcall⟩ := h₁
  simp only [hplain, List.any_nil, Bool.or_false]
  refine wpAny_bind (m := keeperOf (.ref u)) ?_
  unfold keeperOf
  refine wpAny_bind (wpAny_load ho ?_)
  simp only [show (Value.type "builtin_function_or_method" != Value.type "method") = true by decide, show (Value.type "builtin_function_or_method" == Value.type "builtin_function_or_method" || Value.type "builtin_function_or_method" == Value.type "method-wrapper") = true by decide, if_true]
  refine wpAny_pure ?_
  exact wpAny_bind (wpAny_mono hcall (fun r s₂ hr => wpAny_bind (wpAny_holding (wpAny_point (wpAny_pure hr)))) fun _ _ x => x)
theorem call_bnd {E : Value → Shared → Prop} {u a : Addr} {v : Value} {its : Array Value} {Q : Value → Shared → Prop} (ho : s.heap.get? u = some (bnd a)) (hp : s.heap.PlainList a its)
    (h : ∀ h', h'.PlainList a (its.push v) → Heap.SameBut a s.heap h' → Q .none { s with heap := h' }) (hsz : its.size ≤ sizeLine) : wpAny (model prog w) A (call (.ref u) [v]) Q E s := by
  refine wpAny_call (codeAny_of_tree ?_)
  show wpAny _ A.in1 (callAny (.ref u) ⟨[v], []⟩) _ _ s
  simp only [callAny]
  refine wpAny_bind (wpAny_load ho ?_)
  simp only [show (Value.type "builtin_function_or_method" == Value.type "method" || Value.type "builtin_function_or_method" == Value.type "builtin_function_or_method" || Value.type "builtin_function_or_method" == Value.type "method-wrapper") = true by decide, if_true]
  show wpAny _ _ (if (Value.type "builtin_function_or_method" != Value.type "method") = true then _ else _) _ _ _
  rw [if_pos (by decide)]
  refine wpAny_bind (check_app hp.choose_spec ?_)
  refine wpAny_pure ?_
  obtain ⟨n, hx⟩ := hp
  refine ⟨Code.quiet_builtin _ (by decide +kernel), codeAny_builtin PySem.F.entry_list_append ?_⟩
  show wpAny _ _ (updateSeq a (·.push v) >>= fun _ => ret .none) _ _ s
  refine wpAny_bind (wpAny_updateSeq hx rfl (wpAny_pure (h _ ⟨n + 1, ?_⟩ (Heap.SameBut.update ..))))
  rw [Heap.get?_update_self _ hx (by rw [Obj.mapSeq_push_plain]; rfl), Obj.mapSeq_push_plain]
end
section
variable {prog : Program} {w : World} {h0 : Heap} {c : Cx} {σ : St} {μ : Mu} {Φ : AF → Prop}
/-- `add = res.append` -/
theorem Ev.bapp {o : Expr} {pos : Pos} {a : Addr} {ds : List D} (ho : EvJ prog w h0 c σ μ o (.mut a)) (hm : μ.lookup a = some ds)
    (he : ∀ Q s, wpAny (model prog w) c.A (eval o c.env) (fun v s₁ => wpAny (model prog w) c.A (getAttr v (Str.ofString "append") true) Q NoE s₁) NoE s → wpAny (model prog w) c.A (eval (.Attribute o (Str.ofString "append") pos) c.env) Q NoE s) :
    EvJ prog w h0 c σ μ (.Attribute o (Str.ofString "append") pos) (.bnd a) := fun s P => he _ _ (ho.run P fun v s₁ k₁ P₁ r => by
  rw [Rep] at r; subst r
  obtain ⟨z, its, hp, rr⟩ := P₁.own _ (lookM hm)
  refine getAttr_append hp fun h' tk b k₂ hn hb => ⟨kp_trans k₁ k₂, ?_⟩
  rw [Rep]
  exact ⟨b, rfl, P₁.off hn, hb⟩)
theorem X1.add {x : String} {e : Expr} {px pos pos' : Pos} {a : Addr} {items : List D} {d : D} (hx : σ.lookup x = some (.bnd a)) (hm : μ.lookup a = some items) (he : EvJ prog w h0 c σ μ e d) (hz : items.length < 1000000)
    (k : Φ (.next σ (setM μ a (items ++ [d]))))
    (hs : swapsWith (.Call (.Name (Str.ofString x) px) [e] [] pos) none pos'.line c.env = pure false := by rfl)
    (hse : starEach [e] c.env = [(false, eval e c.env)] := by rfl) :
    X1 prog w h0 c σ μ (.Expr (.Call (.Name (Str.ofString x) px) [e] [] pos) pos') Φ := fun s S => by
  refine wpAny_Expr_any (wpAny_Call_NameR ((Ev.name hx).run S.p fun v s₁ k₁ P₁ r => ?_)) (inter S.p.ok.kind) hs
  rw [Rep] at r
  obtain ⟨b, rfl, nb, hb⟩ := r
  show wpAny _ _ (callWith pos (.ref b) [] (backTo pos (starEach [e] c.env)) []) _ _ _
  rw [hse]
  refine callWith_bnd (a := a) rfl (Calls.evalArgs_plain (Calls.spliced_cons (he.run P₁ fun v s₂ k₂ P₂ r₂ => Calls.spliced_nil ⟨kp k₂ _ _ hb, ?_⟩)))
  obtain ⟨z, its, hp, rr⟩ := P₂.own _ (lookM hm)
  have e1 := li_size rr
  refine call_bnd (kp k₂ _ _ hb) hp (fun h' hp' hs' => ?_) (by rw [sizeLine_eq]; omega)
  have kk := kp_trans k₁ k₂
  obtain ⟨S', p'⟩ := (S.keeps kk).mut (tk := s₂.toks) (lookM hm) hs' hp' (ds' := items ++ [d]) (by simp; omega) (by simpa using rr.append (RepL.one r₂))
  exact ⟨_, k, ⟨rfl, S'⟩, (Pres.keeps kk).trans p'⟩
end
end Mine
end
section
open PySem PySem.Calls PySem.W PyProof.Rows
namespace Mine
theorem mapSeq_plain (f : Array Value → Array Value) (its : Array Value) (n : Nat) : ∃ n', Obj.mapSeq f { cls := .type "list", data := .seq its n } = { cls := .type "list", data := .seq (f its) n' } := by
  exact ⟨_, rfl⟩
theorem update_plain {h : Heap} {a : Addr} {its : Array Value} {n : Nat} (hx : h.get? a = some { cls := .type "list", data := .seq its n }) (f : Array Value → Array Value) : (h.update a (Obj.mapSeq f)).PlainList a (f its) := ⟨_, (IsL.update (n := n) hx f)⟩
section
variable {prog : Program} {w : World} {A : Around} {s : Shared}
theorem fillsI_list : fillsInplaceSlot (.type "list") "add" true = pure false := by
  unfold fillsInplaceSlot
  show (typeLookup (.type "list") (dunderI "add") >>= fun fi => (pure (fi.isSome && !isSeqSlot fi) : Sem Bool)) = pure false
  rw [PySem.F.slot_list_iadd.lookup]
  show (pure (true && !isSeqSlot (some (.builtin "list.__iadd__"))) : Sem Bool) = pure false
  rw [show isSeqSlot (some (.builtin "list.__iadd__")) = true by decide +kernel]; rfl
theorem seqI_list : seqSlot? (.type "list") (dunderI "add") = pure (some (.builtin "list.__iadd__")) := PySem.seqSlot_of PySem.F.slot_list_iadd.lookup (by decide +kernel)
theorem iadd_list {a b : Addr} {its its' : Array Value} {Q : Value → Shared → Prop} {E : Value → Shared → Prop} (ha : s.heap.PlainList a its) (hb : s.heap.PlainList b its') (hz : its.size + its'.size ≤ sizeLine)
    (h : ∀ h', h'.PlainList a (its ++ its') → Heap.SameBut a s.heap h' → Q (.ref a) { s with heap := h' }) : wpAny (model prog w) A (inplaceOp .Add (.ref a) (.ref b)) Q E s := by
  obtain ⟨n, ha⟩ := ha
  obtain ⟨n', hb⟩ := hb
  have hT : s.TypeIs (.ref a) "list" := ⟨_, ha, rfl⟩
  have hT' : s.TypeIs (.ref b) "list" := ⟨_, hb, rfl⟩
  unfold inplaceOp
  refine wpAny_holding ?_
  refine wpAny_bind (wpAny_typeOf hT (wpAny_bind (wpAny_of_eq fillsI_list ?_)))
  show wpAny _ A (if false = true then _ else _) Q E s
  rw [if_neg Bool.false_ne_true]
  refine wpAny_bind (wpAny_binaryOp1_none (nm := "add") hT hT' noFill_list_add ?_)
  refine wpAny_bind (wpAny_of_eq seqI_list ?_)
  refine wpAny_bind (wpAny_rule (call_meets PySem.F.slot_list_iadd hT PySem.F.entry_list_iadd (PySem.F.args_list_iadd_2 _ _) (AutoSeq1.list___iadd___list_list_0 a its n b its' n' (by
    unfold Builtin.List.listTooLong
    simp; intro _; omega) (by omega) (by omega)) ⟨ha, hb, ?_⟩))
  exact h _ (update_plain ha _) (Heap.SameBut.update ..)
theorem setItem_plain {l : Addr} {items : Array Value} {k : Int} {t : Tok} {v : Value} {Q : Unit → Shared → Prop} {E : Value → Shared → Prop} (hl : s.heap.PlainList l items)
    (h0 : 0 ≤ k) (hfit : k < 2 ^ 63) (hn : k < items.size)
    (hQ : ∀ h', h'.PlainList l (items.setIfInBounds k.toNat v) → Heap.SameBut l s.heap h' → Q () { s with heap := h' }) :
    wpAny (model prog w) A (setItem (.ref l) (.int k t) v) Q E s := by
  obtain ⟨n, ho⟩ := hl
  have hT : s.TypeIs (.ref l) "list" := ⟨_, ho, rfl⟩
  have hd : ({ cls := .type "list", data := .seq items n } : Obj).data = .seq items n := rfl
  unfold setItem
  try with_reducible refine wpAny_holding ?_
  first | refine wpAny_bind (wpAny_pure ?_) | skip
  refine wpAny_bind (wpAny_sequenceKey hT (by decide) ?_)
  refine wpAny_bind (wpAny_callSpecial?_slot (name := Str.ofString "__setitem__") hT slot_list_setitem
    (wpAny_call_entry slot_list_setitem hT entry_list_setitem ?_ (args_list_setitem _ _ _)))
  show wpAny _ _ (Builtin.List.listSubscript? (.int k t) >>= _) _ _ s
  refine wpAny_bind (wpAny_listSubscript_int (fitsIndex_of h0 hfit) ?_)
  clear hfit
  obtain ⟨j, rfl⟩ := Int.eq_ofNat_of_zero_le h0
  have hj : j < items.size := by omega
  have hx' : items[j]? = some items[j] := Array.getElem?_eq_getElem hj
  show wpAny _ _ ((seqItemAt l j >>= fun r => pure (r.map (j, ·))) >>= _) _ _ s
  refine wpAny_bind (wpAny_bind (wpAny_seqItemAt ho hd (wpAny_pure ?_)))
  rw [hx']
  show wpAny _ _ (setSeqItemAt l j v >>= _) _ _ s
  have hfin := update_plain ho (·.setIfInBounds j v)
  refine wpAny_bind (wpAny_setSeqItemAt ho hd ?_)
  first
    | exact wpAny_bind (wpAny_pure (wpAny_pure ⟨.none, rfl, wpAny_pure (hQ _ hfin (Heap.SameBut.update ..))⟩))
    | exact wpAny_pure ⟨.none, rfl, wpAny_pure (hQ _ hfin (Heap.SameBut.update ..))⟩
end
section
variable {prog : Program} {w : World} {h0 : Heap} {c : Cx} {σ : St} {μ : Mu} {Φ : AF → Prop}
theorem RepL.set {h : Heap} {av : Av} {ds : List D} {vs : List Value} {d : D} {v : Value} (x : RepL h av ds vs) (r : Rep h av d v) (i : Nat) : RepL h av (ds.set i d) (vs.set i v) :=
  RepL.of_get (by simp [x.length]) fun j e u a b => by
    rw [List.getElem?_set] at a b
    rw [← x.length] at b
    split at a
    · rename_i hij
      rw [if_pos hij] at b
      split at a
      · rename_i hl
        rw [if_pos hl] at b
        cases a; cases b; exact r
      · cases a
    · rename_i hij
      rw [if_neg hij] at b
      obtain ⟨u', e1, r'⟩ := x.get a
      rw [e1] at b; cases b; exact r'
/-- `x += e`, x an own list -/
theorem X1.augOwn {x : String} {e : Expr} {px pos : Pos} {a : Addr} {items ds : List D} {d : D} (hx : σ.lookup x = some (.mut a)) (hm : μ.lookup a = some items) (h : EvJ prog w h0 c σ μ e d) (hd : LiJ h0 c σ μ d ds)
    (hz : items.length + ds.length ≤ 1000000) (hk : c.env.kindOf (Str.ofString x) = some .local ∨ c.env.kindOf (Str.ofString x) = some .cell)
    (k : Φ (.next (upd σ x (.mut a)) (setM μ a (items ++ ds)))) : X1 prog w h0 c σ μ (.AugAssign (.Name (Str.ofString x) px) .Add e pos) Φ := fun s S =>
  wpAny_AugAssign_Name (loadName_ S.p hx fun v r => h.run S.p fun v' s₁ k₁ P₁ r₁ => by
    rw [Rep] at r; subst r
    obtain ⟨z, b, its', rfl, hp', rr'⟩ := hd s₁ v' P₁ r₁
    obtain ⟨z, its, hp, rr⟩ := P₁.own _ (lookM hm)
    have e1 := li_size rr
    have e2 := li_size rr'
    refine iadd_list hp hp' (by rw [sizeLine_eq]; omega) fun h' hpl hsb => ?_
    obtain ⟨S', p'⟩ := (S.keeps k₁).mut (tk := s₁.toks) (lookM hm) hsb hpl (ds' := items ++ ds) (by simp; omega) (by simpa using rr.append rr')
    exact store_ S' (d := .mut a) (by rw [Rep]) hk (S.p.vars x _ hx).1 fun s'' S'' pr => ⟨_, k, ⟨rfl, S''⟩, (Pres.keeps k₁).trans (p'.trans pr)⟩)
/-- `x[i] += e`, x an own list of ints -/
theorem X1.augItem {x : String} {i e : Expr} {px pos' pos : Pos} {a : Addr} {items : List D} {j m : Int} {n : Int} (hx : σ.lookup x = some (.mut a)) (hm : μ.lookup a = some items) (hi : EvJ prog w h0 c σ μ i (.int j)) (h0j : 0 ≤ j) (hj : items[j.toNat]? = some (.int m))
    (h : EvJ prog w h0 c σ μ e (.int n)) (k : Φ (.next σ (setM μ a (items.set j.toNat (.int (m + n))))))
    (ha : ∀ ov iv new, augStore i ov iv new = (do holding [new, ov, iv] (setItem ov iv new); release [new, ov, iv] []; pure .next) := by intro _ _ _; rfl) :
    X1 prog w h0 c σ μ (.AugAssign (.Subscript (.Name (Str.ofString x) px) i pos') .Add e pos) Φ := fun s S =>
  wpAny_AugAssign_Subscript_any ((Ev.name hx).run S.p fun ov s₁ k₁ P₁ r₁ => hi.run P₁ fun iv s₂ k₂ P₂ r₂ => by
    rw [Rep] at r₁; subst r₁
    obtain ⟨t, rfl⟩ := unI r₂
    obtain ⟨z, its, hp, rr⟩ := P₂.own _ (lookM hm)
    have e1 : its.size = items.length := li_size rr
    have z : items.length ≤ 1000000 := z
    obtain ⟨xv, hxv, rx⟩ := rr.get hj
    have hb : j.toNat < items.length := (List.getElem?_eq_some_iff.mp hj).1
    refine wpAny_getItem_list (pl_list hp) h0j (by omega) (by simpa using hxv) (h.run P₂ fun nv s₃ k₃ P₃ r₃ => ?_)
    obtain ⟨t', rfl⟩ := unI rx
    obtain ⟨t'', rfl⟩ := unI r₃
    refine PySem.P.iadd_int ?_
    obtain ⟨z, its₃, hp₃, rr₃⟩ := P₃.own _ (lookM hm)
    have e3 : its₃.size = items.length := li_size rr₃
    have k4 : Keeps s₃ { s₃ with toks := s₃.toks + 1 } := kp_toks
    refine setItem_plain (s := { s₃ with toks := s₃.toks + 1 }) hp₃ h0j (by omega) (by omega) fun h' hpl hsb => ?_
    have kk := kp_trans k₁ (kp_trans k₂ (kp_trans k₃ k4))
    obtain ⟨S', p'⟩ := (S.keeps kk).mut (tk := s₃.toks + 1) (lookM hm) hsb hpl (ds' := items.set j.toNat (.int (m + n))) (by simpa using z) (by simpa using rr₃.set (repI (t := s₃.toks)) j.toNat)
    exact ⟨_, k, ⟨rfl, S'⟩, (Pres.keeps kk).trans p'⟩) ha
theorem Mu.pop {a : Addr} {items : List D} (hne : items ≠ []) : MuJ prog w h0 c σ μ "list.pop" a items [] items.dropLast := fun s vs its P z hp rr rd => by
  rw [RepL] at rd; subst rd
  have e1 := li_size rr
  obtain ⟨n, hx⟩ := hp
  have hpos : 0 < items.length := List.length_pos_iff.mpr hne
  have hlt : its.size - 1 < its.size := by omega
  refine call_meets PySem.F.slot_list_pop ⟨_, hx, rfl⟩ PySem.F.entry_list_pop (PySem.F.args_list_pop_1 _) (PySem.MeetsSeq.list_pop_last a its n its[its.size - 1] (by simp [hlt]) (by rw [sizeLine_eq]; omega)) ⟨hx, ?_⟩
  refine ⟨s, _, s.toks, _, kp_rfl, rfl, Heap.SameBut.update .., update_plain hx _, by simp; omega, ?_⟩
  have e2 : (its.eraseIdxIfInBounds (its.size - 1)).toList = its.toList.dropLast := by
    rw [Array.eraseIdxIfInBounds, dif_pos hlt]
    rw [Array.toList_eraseIdx, List.dropLast_eq_take, List.eraseIdx_eq_take_drop_succ]
    simp
    omega
  rw [e2, List.dropLast_eq_take, List.dropLast_eq_take, ← rr.length]
  exact rr.take _
/-- a method's call upon an own list that an expression gives -/
theorem X1.methO {o : Expr} {name : String} {id : String} {args : List Expr} {apos pos pos' : Pos} {a : Addr} {items items' ds : List D} (ho : EvJ prog w h0 c σ μ o (.mut a)) (hm : μ.lookup a = some items)
    (slot : Slot "list" (Str.ofString name) id) (hty : typeOf (.builtin id) = pure (.type "method_descriptor")) (ha : AJ prog w h0 c σ μ args ds) (hc : MuJ prog w h0 c σ μ id a items ds items')
    (k : Φ (.next σ (setM μ a items')))
    (hline : (apos.endLine == pos.line) = true := by rfl)
    (hbase : attributeBase o (Str.ofString name) c.env (eval o c.env) = eval o c.env := by rfl)
    (hs : swapsWith (.Call (.Attribute o (Str.ofString name) apos) args [] pos) none pos'.line c.env = pure false := by rfl)
    (hfew : ((backTo pos (starEach args c.env)).all (fun x => !x.1) && (backToKw pos (keywordEach [] c.env)).all (fun x => x.1.isSome)
      && decide (args.length + ([] : List Keyword).length + (if ([] : List Keyword).isEmpty then 0 else 1) < 30)) = true := by rfl)
    (hl : (backTo pos (starEach args c.env)).any (·.1) = false := by rfl) :
    X1 prog w h0 c σ μ (.Expr (.Call (.Attribute o (Str.ofString name) apos) args [] pos) pos') Φ := fun s S => by
  refine wpAny_Expr_any (wpAny_Call_method (T := "list") (id := id) hbase hfew hline PySem.F.plainAttrs_list slot hty (ho.run S.p fun v s₁ k₁ P₁ r => ?_)) (inter S.p.ok.kind) hs
  obtain ⟨t1, t2⟩ := Ty.mut hm s₁ v P₁ r
  rw [Rep] at r; subst r
  refine ⟨t1, t2, callWith_builtin hl (evalArgs_gen hl (wm (ha pos s₁ P₁) fun vs s₂ y => ?_))⟩
  have P₂ := P₁.keeps y.1
  obtain ⟨z, its, hp, rr⟩ := P₂.own _ (lookM hm)
  refine wm (hc s₂ vs its P₂ z hp rr y.2) fun v' s₃ q => ?_
  obtain ⟨s₄, h', tk, its', k₄, rfl, hsb, hp', hz', r'⟩ := q
  have kk := kp_trans k₁ (kp_trans y.1 k₄)
  obtain ⟨S', p'⟩ := (S.keeps kk).mut (lookM hm) hsb hp' hz' r'
  exact ⟨_, k, ⟨rfl, S'⟩, (Pres.keeps kk).trans p'⟩
theorem X1.ownP {x : String} {e : Expr} {pos' pos : Pos} {K : D → Mu → Prop} (h : PrJ prog w h0 c σ μ e K) (hk : c.env.kindOf (Str.ofString x) = some .local ∨ c.env.kindOf (Str.ofString x) = some .cell)
    (k : ∀ d μ', K d μ' → Φ (.next (upd σ x d) μ')) (hx : (Str.ofString x == ("__debug__" : Str)) = false)
    (hs : swapsWith e (some (.Name (Str.ofString x) pos')) pos.line c.env = pure false := by rfl) :
    X1 prog w h0 c σ μ (.Assign [.Name (Str.ofString x) pos'] e pos) Φ := fun s S =>
  wpAny_Assign_Name (wm (h s S) fun v s' y => by
    obtain ⟨d, μ', hk', S', p', r⟩ := y
    exact store_ S' r hk hx fun s'' S'' pr => ⟨_, k _ _ hk', ⟨rfl, S''⟩, p'.trans pr⟩) hs
/-- `[[], [], []]` -/
theorem Pr.lists3 {p1 p2 p3 pos : Pos} (hse : starEach [.List [] p1, .List [] p2, .List [] p3] c.env = [(false, eval (.List [] p1) c.env), (false, eval (.List [] p2) c.env), (false, eval (.List [] p3) c.env)] := by rfl) :
    PrJ prog w h0 c σ μ (.List [.List [] p1, .List [] p2, .List [] p3] pos) (fun d μ' => ∃ a0 a1 a2 a3, d = .mut a0 ∧ μ' = (a0, [.mut a1, .mut a2, .mut a3]) :: (a3, []) :: (a2, []) :: (a1, []) :: μ ∧ ([a0, a3, a2, a1] ++ μ.map Prod.fst).Nodup) := fun s S => by
  refine wpAny_List_spliced ?_
  rw [hse]
  refine spliced_cons (wm (Pr.fr (Fr.list AJ.nil (by simp)) s S) fun v1 s₁ z => spliced_cons ?_)
  obtain ⟨d1, μ1, ⟨a1, n1, rfl, rfl⟩, S₁, q₁, r₁⟩ := z
  refine wm (Pr.fr (Fr.list AJ.nil (by simp)) s₁ S₁) fun v2 s₂ z => spliced_cons ?_
  obtain ⟨d2, μ2, ⟨a2, n2, rfl, rfl⟩, S₂, q₂, r₂⟩ := z
  refine wm (Pr.fr (Fr.list AJ.nil (by simp)) s₂ S₂) fun v3 s₃ z => spliced_nil ?_
  obtain ⟨d3, μ3, ⟨a3, n3, rfl, rfl⟩, S₃, q₃, r₃⟩ := z
  refine ⟨by rw [sizeLine_eq]; simp, ?_⟩
  rw [Rep] at r₁ r₂ r₃
  subst r₁; subst r₂; subst r₃
  have rr : RepL s₃.heap (avs c.av ((a3, []) :: (a2, []) :: (a1, []) :: μ)) [.mut a1, .mut a2, .mut a3] [.ref a1, .ref a2, .ref a3] := RepL.cons (by rw [Rep]) (RepL.cons (by rw [Rep]) (RepL.one (by rw [Rep])))
  have kk := kp_push' (s := s₃) (o := { cls := .type "list", data := .seq ([.ref a1, .ref a2, .ref a3] : List Value).toArray })
  obtain ⟨S₄, q₄⟩ := S₃.alloc (ds := [.mut a1, .mut a2, .mut a3]) (its := ([.ref a1, .ref a2, .ref a3] : List Value).toArray) kk (fresh_size _) ⟨0, Heap.get?_push_size _ rfl⟩ (by simp) (RepL.mono (h := s₃.heap) (av := avs c.av ((a3, []) :: (a2, []) :: (a1, []) :: μ)) (fun b o _ e => Heap.get?_push_of_some _ e) (fun b y => by
    rcases y with y | rfl
    · exact .inl y
    · exact .inr (fresh_size _)) (by simpa using rr))
  refine ⟨.mut s₃.heap.objs.size, _, ⟨s₃.heap.objs.size, a1, a2, a3, rfl, rfl, ?_⟩, S₄, q₁.trans (q₂.trans (q₃.trans q₄)), by rw [Rep]⟩
  have := S₄.nodup
  simpa using this
end
end Mine
end
section
open PySem PySem.Calls PySem.W PyProof.Rows
namespace Mine
theorem ob_mro : mroOf (.type "object") = pure [.type "object"] := by kernel_rfl
theorem ob_called : TypeCalled "object" "object.__new__" "object.__init__" where
  notType := by decide
  canCreate := by decide +kernel
  mro := ⟨_, _, ob_mro⟩
  made := madeBy_type ob_mro (by rw [typeLookup_type, builtinLookup_eq_fast]; kernel_rfl) (by decide +kernel)
  plain := by decide +kernel
  sub := by rw [isSubtype_type]; kernel_rfl
  init := .of (owner := "object") (n := "__init__") (by rw [typeLookup_type, builtinLookup_eq_fast]; kernel_rfl) (by decide +kernel) (by decide +kernel) (by decide +kernel)
    (by first | exact .inl (by decide +kernel) | exact .inr (by decide +kernel)) (by rw [isSubtype_type]; kernel_rfl)
abbrev obj0 : Obj := { cls := .type "object", data := .plain }
theorem ob_new : Meets (Builtin.«object.__new__» ⟨[.type "object"], []⟩) (fun _ R s => R (.ok (.ret (.ref s.heap.objs.size))) { s with heap := s.heap.push obj0 }) :=
  Meets.of_wp fun prog w A R s hs => by
    obtain ⟨hp, g, d, tk, os⟩ := s
    have e : Builtin.«object.__new__» ⟨[.type "object"], []⟩ = (newObj (.type "object") .plain none >>= fun v => ret v) := by kernel_rfl
    rw [e]
    exact wpAny_bind (wpAny_newObj_type (wpAny_pure ⟨_, rfl, hs⟩))
theorem ob_init {a : Addr} : Meets (Builtin.«object.__init__» ⟨[.ref a], []⟩) (fun _ R s => R (.ok (.ret .none)) s) :=
  Meets.of_wp fun prog w A R s hs => by
    obtain ⟨hp, g, d, tk, os⟩ := s
    unfold Builtin.«object.__init__»
    exact wpAny_pure ⟨_, rfl, hs⟩
section
variable {prog : Program} {w : World} {A : Around} {E : Value → Shared → Prop} {s : Shared}
theorem call_object {Q : Value → Shared → Prop} (h : Q (.ref s.heap.objs.size) { s with heap := s.heap.push obj0 }) : wpAny (model prog w) A (call (.type "object") []) Q E s :=
  callType_meets (Q₁ := fun v s₁ => v = .ref s.heap.objs.size ∧ s₁ = { s with heap := s.heap.push obj0 }) ob_called (by kernel_rfl) (by kernel_rfl) PySem.F.entry_object_new (entryFor_of_tree (by kernel_rfl)) ob_new ⟨rfl, rfl⟩ fun obj s₁ z => by
    obtain ⟨rfl, rfl⟩ := z
    exact ⟨⟨_, Heap.get?_push_size _ rfl, rfl⟩, by unfold argsOk; kernel_rfl, _, ob_init, rfl, h⟩
theorem sub_str_str : isSubtype (.type "str") (.type "str") = pure true := by rw [isSubtype_type]; kernel_rfl
theorem meta_str : typeOf (.type "str") = pure (.type "type") := by first | rfl | kernel_rfl
theorem nested_self {dep : Int} {tk : Tok} : Meets (Builtin.«issubclass.nested» ⟨[.type "str", .type "str", .int dep tk], []⟩) (fun _ R s => R (.ok (.ret (.bool true))) s) :=
  Meets.of_wp fun prog w A R s hs => by
    have hm := meta_str
    have hself := sub_str_str
    repeat (any_goals (first | assumption | (rw [if_pos hm]) | (rw [hself]) | wp_step))
    exact ⟨_, rfl, hs⟩
theorem kind_subn : builtinKind "issubclass.nested" = none := by decide +kernel
theorem plain_subn : plainId "issubclass.nested" = true := by decide +kernel
theorem args_subn (a b c : Value) : argsOk "issubclass.nested" ⟨[a, b, c], []⟩ := by unfold argsOk; kernel_rfl
theorem code_meets {id : String} {B : Builtin} {args : List Value} {S : PySem.Spec} {R : Result → Shared → Prop} (kind : builtinKind id = none) (plain : plainId id = true)
    (entry : entryFor table id = some B) (ok : argsOk id ⟨args, []⟩) (g : Meets (B ⟨args, []⟩) S) (h : S A R s) : codeAny (model prog w) A (.call (.builtin id) ⟨args, []⟩) R s := by
  refine codeAny_call_builtin plain entry ?_
  have hfin := g prog w A R s h
  simp only [checkBuiltinCall, kind]
  cases hsig : Manifest.signature? id with
  | none => exact wpAny_pure hfin
  | some sig =>
    simp only [argsOk, hsig] at ok
    have h2 : Bind.checkArgs id sig ⟨args, []⟩ = pure () := ok
    show wpAny _ _ (Bind.checkArgs id sig ⟨args, []⟩) _ _ s
    rw [h2]; exact wpAny_pure hfin
theorem sub_str {t : Addr} {n : Nat} {Q : Value → Shared → Prop} (ht : s.heap.get? t = some { cls := .type "tuple", data := .seq ([.type "str", .type "bytes"] : List Value).toArray n }) (h : ∀ tk, Q (.bool true) { s with toks := tk }) : wpAny (model prog w) A (call (.builtin "issubclass") [.type "str", .ref t]) Q E s := by
  refine call_issubclass (S := fun _ R s => s.heap.get? t = some { cls := .type "tuple", data := .seq ([.type "str", .type "bytes"] : List Value).toArray n } ∧ ∀ tk, R (.ok (.ret (.bool true))) { s with toks := tk }) ?_ ⟨ht, fun tk => h tk⟩
  intro prog w A R s hs
  refine issubclass_outer ?_
  obtain ⟨h, g, d, tk, os⟩ := s
  obtain ⟨htp, hs⟩ := hs
  have hT2 : (⟨h, g, d, tk, os⟩ : Shared).TypeIs (.ref t) "tuple" := ⟨_, htp, rfl⟩
  have f1 := PySem.F.isi_sub_tuple
  repeat (any_goals (first | assumption | wp_step))
  show codeAny (model prog w) A.in1 (Code.call (.builtin "issubclass.nested") ⟨[.type "str", .type "str", .int 1 0], []⟩) _ _
  refine code_meets kind_subn plain_subn PySem.F.entry_issubclass_nested (args_subn _ _ _) nested_self ?_
  dsimp only
  refine wpAny_bind (m := truthy (.bool true)) (wpAny_pure ?_)
  rw [if_pos rfl]
  refine wpAny_bind (wpAny_pure (wpAny_pure (wpAny_pure (wpAny_pure ?_))))
  exact hs tk
end
end Mine
end
section
open PySem PySem.Calls PySem.W PyProof.Rows
set_option maxRecDepth 100000
namespace Mine
abbrev stOf (i : Nat) : Stmt := PySem.Challenge.pw_in0258_01.main.body.getD i (.Pass ⟨0, 0, 0, 0⟩)
def nameS : Stmt → Str
  | .FunctionDef n _ _ _ _ _ _ _ _ _ => n
  | _ => Str.empty
def paramsS : Stmt → Arguments
  | .FunctionDef _ a _ _ _ _ _ _ _ _ => a
  | _ => default
def bodyS : Stmt → List Stmt
  | .FunctionDef _ _ b _ _ _ _ _ _ _ => b
  | _ => []
def scopeS : Stmt → Scope
  | .FunctionDef _ _ _ _ _ _ s _ _ _ => s
  | _ => default
/-- the def of the top at the line i stands at a -/
def DefAt (h0 : Heap) (mg : Str → Option Value) (i : Nat) (a : Addr) : Prop :=
  ∃ o pm code doc, mg (nameS (stOf i)) = some (.ref a) ∧ h0.get? a = some o ∧ o.data = .func (docDef (nameS (stOf i)) (paramsS (stOf i)) (bodyS (stOf i)) (scopeS (stOf i)) pm code doc) ∧ h0.CodeRec code (nameS (stOf i))
section
variable {prog : Program} {w : World} {h0 : Heap} {c : Cx} {σ : St} {μ : Mu} {Φ : AF → Prop} {mg mb : Str → Option Value}
theorem Ev.gl {x : Str} {v : Value} {pos : Pos} (g : GlJ prog w h0 c σ μ x v) : EvJ prog w h0 c σ μ (.Name x pos) (.val v) := fun s P => g pos s P _ ⟨kp_rfl, by rw [Rep]⟩
theorem kd {sc : Scope} {x : Str} {k : NameKind} (h : c.env.scope = sc) (e : sc.names.lookup x = some k) : c.env.kindOf x = some k := by unfold Env.kindOf; rw [h]; exact e
theorem kd2 {c' : Cx} {sc : Scope} {x : Str} {k : NameKind} (h : InCx c sc c') (e : sc.names.lookup x = some k) (hk : k ≠ .free := by decide) : c'.env.kindOf x = some k := by unfold Env.kindOf; rw [h.1]; exact relabel_ne e hk
theorem Bind.pos1 {fd : FuncData} {x : String} {d : D} (h : ∀ v, bindArgs fd ⟨[v], []⟩ = pure [(Str.ofString x, v)]) : BindJ prog w fd [d] [x] [d] := fun A av s vs r _ => by
  obtain ⟨v, rfl, rv⟩ := unL1 r
  rw [h]; exact wpAny_pure ⟨kp_rfl, rfl, RepL.one rv⟩
theorem Bind.pos2 {fd : FuncData} {x y : String} {d e : D} (h : ∀ u v, bindArgs fd ⟨[u, v], []⟩ = pure [(Str.ofString x, u), (Str.ofString y, v)]) : BindJ prog w fd [d, e] [x, y] [d, e] := fun A av s vs r _ => by
  obtain ⟨u, v, rfl, ru, rv⟩ := unL2 r
  rw [h]; exact wpAny_pure ⟨kp_rfl, rfl, RepL.cons ru (RepL.one rv)⟩
theorem Bind.pos3 {fd : FuncData} {x y z : String} {d e f : D} (h : ∀ u v w, bindArgs fd ⟨[u, v, w], []⟩ = pure [(Str.ofString x, u), (Str.ofString y, v), (Str.ofString z, w)]) : BindJ prog w fd [d, e, f] [x, y, z] [d, e, f] := fun A av s vs r _ => by
  obtain ⟨u, v, x, rfl, ru, rv, rx⟩ := unL3 r
  rw [h]; exact wpAny_pure ⟨kp_rfl, rfl, RepL.cons ru (RepL.cons rv (RepL.one rx))⟩
theorem Bind.var1 {fd : FuncData} {x y : String} {d : D} {ds : List D} (hz : ds.length ≤ 1000000) (h : ∀ v vs, bindArgs fd ⟨v :: vs, []⟩ = (newTuple vs >>= fun t => pure [(Str.ofString x, v), (Str.ofString y, t)])) : BindJ prog w fd (d :: ds) [x, y] [d, .tup ds] := fun A av s vs r live => by
  rw [RepL] at r
  obtain ⟨v, vs', rfl, rv, rr⟩ := r
  rw [h]
  have hn : ¬ av s.heap.objs.size := fun q => by
    obtain ⟨o, e⟩ := live _ q
    rw [fresh_size] at e; cases e
  have hsz : sizeOk (Data.seq vs'.toArray 0) := by
    have := len_line hz rr
    simpa [sizeOk] using this
  exact wpAny_bind (wpAny_newObj_type (wpAny_pure ⟨kp_push', rfl, RepL.cons (rv.keeps fun b o e => Heap.get?_push_of_some _ e) (RepL.one (rep_new_tuple hz hn rr))⟩) hsz)
theorem fn_of {i : Nat} {k : Nat} {a : Addr} {ds ds' : List D} {names : List String} {d : D} (hlim : h0.NoLimit) (Da : DefAt h0 mg i a)
    (hco : (scopeS (stOf i)).isCoroutine = false) (hgen : (scopeS (stOf i)).isGenerator = false) (hkd : (scopeS (stOf i)).kind = .function)
    (hbind : ∀ pm code doc, BindJ prog w (docDef (nameS (stOf i)) (paramsS (stOf i)) (bodyS (stOf i)) (scopeS (stOf i)) pm code doc) ds names ds')
    (hnames : ∀ x ∈ names, (scopeS (stOf i)).names.lookup (Str.ofString x) = some .local ∨ (scopeS (stOf i)).names.lookup (Str.ofString x) = some .cell)
    (hdeb : ∀ x ∈ names, (Str.ofString x == ("__debug__" : Str)) = false) (hnod : (names.map Str.ofString).Nodup)
    (h : ∀ c : Cx, c.env.scope = scopeS (stOf i) → c.k = k → (∀ x, c.env.kindOf x = some .cell → ∃ cc, c.env.cells.lookup x = some cc) → XJ prog w h0 c (names.zip ds') [] (bodyS (stOf i)) (fun af => ∃ d' μ', af = .ret d' μ' ∧ Fz μ' d' d)) :
    FnJ prog w h0 (k + 1) a ds d := by
  obtain ⟨o, pm, code, doc, h1, h2, h3, h4⟩ := Da
  exact fn_call hlim h2 h3 h4 rfl rfl rfl rfl hco hgen hkd (hbind pm code doc) hnames hdeb hnod h
theorem Ev.fn {i : Nat} {a : Addr} {k : Nat} {e : Expr} {rest : List Expr} {x : Str} {p pos : Pos} {ds : List D} {d : D} (G : Gd prog w h0 mg mb) (Da : DefAt h0 mg i a) (hx : x = nameS (stOf i)) (hkk : c.env.kindOf x = some .globalImplicit) (hd : (x == ("__debug__" : Str)) = false)
    (ha : AJ prog w h0 c σ μ (e :: rest) ds) (hc : FnJ prog w h0 k a ds d) (hk : k ≤ c.k) (he : starEach (e :: rest) c.env = (false, eval e c.env) :: starEach rest c.env := by rfl) :
    EvJ prog w h0 c σ μ (.Call (.Name x p) (e :: rest) [] pos) d := by
  obtain ⟨o, pm, code, doc, h1, h2, h3, h4⟩ := Da
  exact Ev.callF (Gl.glob G hkk (hx ▸ h1) hd) h2 h3 ha (hc.ca hk) he
theorem Ev.fnS {i : Nat} {a : Addr} {k : Nat} {e : Expr} {x : Str} {p p' pos : Pos} {ds : List D} {d : D} (G : Gd prog w h0 mg mb) (Da : DefAt h0 mg i a) (hx : x = nameS (stOf i)) (hkk : c.env.kindOf x = some .globalImplicit) (hd : (x == ("__debug__" : Str)) = false)
    (ha : EvJ prog w h0 c σ μ e (.lst ds)) (hc : FnJ prog w h0 k a ds d) (hk : k ≤ c.k) :
    EvJ prog w h0 c σ μ (.Call (.Name x p) [.Starred e p'] [] pos) d := by
  obtain ⟨o, pm, code, doc, h1, h2, h3, h4⟩ := Da
  exact Ev.callS (Gl.glob G hkk (hx ▸ h1) hd) h2 h3 ha (hc.ca hk)
theorem Ca.sub : CaJ prog w h0 c σ μ (.builtin "issubclass") [.val (.type "str"), .tup [.val (.type "str"), .val (.type "bytes")]] (.bool true) := fun s vs P r => by
  obtain ⟨v, u, rfl, rv, ru⟩ := unL2 r
  rw [Rep] at rv; subst rv
  rw [Rep] at ru
  obtain ⟨z, a, its, rfl, na, ⟨n, hg⟩, rr⟩ := ru
  obtain ⟨x, y, e, rx, ry⟩ := unL2 rr
  rw [Rep] at rx ry; subst rx; subst ry
  have : its = ([.type "str", .type "bytes"] : List Value).toArray := Array.toList_inj.mp (by rw [e])
  subst this
  exact sub_str hg fun tk => ⟨kp_toks, repB⟩
theorem Ca.isiB {l : List Nat} : CaJ prog w h0 c σ μ (.builtin "isinstance") [.str l, .val (.type "bytes")] (.bool false) := fun s vs P r => by
  obtain ⟨v, u, rfl, rv, ru⟩ := unL2 r
  rw [Rep] at ru; subst ru
  obtain ⟨z, t, rfl⟩ := unS rv
  exact IsiPair.str_bytes ⟨kp_toks, repB⟩
theorem Ca.isiS {l : List Nat} : CaJ prog w h0 c σ μ (.builtin "isinstance") [.str l, .val (.type "str")] (.bool true) := fun s vs P r => by
  obtain ⟨v, u, rfl, rv, ru⟩ := unL2 r
  rw [Rep] at ru; subst ru
  obtain ⟨z, t, rfl⟩ := unS rv
  exact IsiPair.str_str ⟨kp_rfl, repB⟩
/-- the names of the built-ins -/
structure Wd (prog : Program) (w : World) (h0 : Heap) (mg mb : Str → Option Value) : Prop extends Gd prog w h0 mg mb where
  fn : ∀ i ∈ [10, 14, 15, 16, 17, 20, 23, 25, 26, 29, 30, 32, 33, 34, 35, 36, 37, 38, 39, 40, 41, 42], ∃ a, DefAt h0 mg i a
  free : ∀ x ∈ ["type", "issubclass", "str", "bytes", "isinstance", "len", "object", "range", "dict", "list", "max", "sum", "zip", "int"], mg (Str.ofString x) = none
  built : ∀ x : Str, x ≠ "__name__" → mb x = bootBuiltins x
theorem Wd.bu (W : Wd prog w h0 mg mb) {x : String} {v : Value} (hx : x ∈ ["type", "issubclass", "str", "bytes", "isinstance", "len", "object", "range", "dict", "list", "max", "sum", "zip", "int"]) (hk : c.env.kindOf (Str.ofString x) = some .globalImplicit)
    (hb : bootBuiltins (Str.ofString x) = some v) (hn : Str.ofString x ≠ "__name__") (hd : (Str.ofString x == ("__debug__" : Str)) = false) : GlJ prog w h0 c σ μ (Str.ofString x) v :=
  Gl.buil W.toGd hk (W.free x hx) (by rw [W.built _ hn]; exact hb) hd
end
end Mine
end
section
open PySem PySem.Calls PySem.W PyProof.Rows
set_option maxRecDepth 100000
namespace Mine
local macro_rules | `(tactic| trivial) => `(tactic| exact kd ‹_› (by decide +kernel))
section
variable {prog : Program} {w : World} {h0 : Heap} {c : Cx} {σ : St} {μ : Mu} {Φ : AF → Prop} {mg mb : Str → Option Value}
theorem fspath_ok (W : Wd prog w h0 mg mb) {a : Addr} (Da : DefAt h0 mg 10 a) {l : List Nat} : FnJ prog w h0 1 a [.str l] (.str l) :=
  fn_of (names := ["path"]) W.nolimit Da (by rfl) (by rfl) (by rfl) (fun pm code doc => Bind.pos1 fun v => rfl) (by decide +kernel) (by decide) (by decide) fun c hc hk hce => by
  refine X.cons (X1.assign (x := "kind") (d := .val (.type "str")) (Ev.callB (f := .type "type") (W.bu (x := "type") (by decide) (by trivial) (by kernel_rfl) (by decide) (by decide)) (.inr ⟨_, rfl⟩) (AJ.cons (Ev.name (x := "path") rfl) AJ.nil) Ca.typeS) (.inl (by trivial)) ?_)
  refine X.cons (X1.if (q := true) (Ts.plain (d := .bool true) ?_ Tr.bool) (fun _ => ?_) (fun h => nomatch h))
  · exact Ev.callB (f := .builtin "issubclass") (W.bu (x := "issubclass") (by decide) (by trivial) (by kernel_rfl) (by decide) (by decide)) (.inl ⟨_, rfl⟩) (AJ.cons (Ev.name (x := "kind") rfl) (AJ.cons (Ev.dtuple (AJ.cons (Ev.gl (W.bu (x := "str") (by decide) (by trivial) (by kernel_rfl) (by decide) (by decide))) (AJ.cons (Ev.gl (W.bu (x := "bytes") (by decide) (by trivial) (by kernel_rfl) (by decide) (by decide))) AJ.nil)) (by decide)) AJ.nil)) Ca.sub
  · exact X.cons (X1.ret (Ev.name (x := "path") rfl) ⟨_, _, rfl, .refl _⟩)
end
end Mine
end
section
open PySem PySem.Calls PySem.W PyProof.Rows
set_option maxRecDepth 100000
namespace Mine
theorem Sub.nil {σ : St} : Sub σ [] := fun _ _ e => by simp at e
theorem Sub.cons {σ r : St} {x : String} {d : D} (h : σ.lookup x = some d) (hr : Sub σ r) : Sub σ ((x, d) :: r) := fun y e he => by
  rw [List.lookup_cons] at he
  split at he
  · rename_i hxy
    cases he
    rw [eq_of_beq hxy]; exact h
  · exact hr y e he
theorem Sub.refl {σ : St} : Sub σ σ := fun _ _ e => e
theorem Sub.trans {a b c : St} (h : Sub a b) (k : Sub b c) : Sub a c := fun x d e => h x d (k x d e)
theorem Sub.upd {σ σ' : St} (h : Sub σ σ') (x : String) (d : D) : Sub (upd σ x d) (upd σ' x d) := fun y e he => by
  rw [lookup_upd] at he ⊢
  split
  · rename_i q; rw [if_pos q] at he; exact he
  · rename_i q; rw [if_neg q] at he; exact h y e he
theorem lk_self {a : Addr} {ds : List D} {μ : Mu} : List.lookup a ((a, ds) :: μ) = some ds := by simp
theorem setM_self {a : Addr} {ds ds' : List D} {μ : Mu} : setM ((a, ds) :: μ) a ds' = (a, ds') :: μ := by simp [setM]
section
variable {prog : Program} {w : World} {h0 : Heap} {c : Cx} {σ : St} {μ : Mu} {Φ : AF → Prop} {mg mb : Str → Option Value}
theorem Wd.nm (W : Wd prog w h0 mg mb) {x : String} {v : Value} (hk : c.env.kindOf (Str.ofString x) = some .globalImplicit := by trivial) (hx : x ∈ ["type", "issubclass", "str", "bytes", "isinstance", "len", "object", "range", "dict", "list", "max", "sum", "zip", "int"] := by decide)
    (hb : bootBuiltins (Str.ofString x) = some v := by kernel_rfl) (hn : Str.ofString x ≠ "__name__" := by decide) (hd : (Str.ofString x == ("__debug__" : Str)) = false := by decide) : GlJ prog w h0 c σ μ (Str.ofString x) v :=
  W.bu hx hk hb hn hd
theorem Ev.vb (W : Wd prog w h0 mg mb) {x : String} {v : Value} {pos : Pos} (hk : c.env.kindOf (Str.ofString x) = some .globalImplicit := by trivial) (hx : x ∈ ["type", "issubclass", "str", "bytes", "isinstance", "len", "object", "range", "dict", "list", "max", "sum", "zip", "int"] := by decide)
    (hb : bootBuiltins (Str.ofString x) = some v := by kernel_rfl) (hn : Str.ofString x ≠ "__name__" := by decide) (hd : (Str.ofString x == ("__debug__" : Str)) = false := by decide) : EvJ prog w h0 c σ μ (.Name (Str.ofString x) pos) (.val v) :=
  Ev.gl (W.bu hx hk hb hn hd)
/-- a call of a built-in -/
theorem Ev.cb (W : Wd prog w h0 mg mb) {x : String} {args : List Expr} {p pos : Pos} {f : Value} {ds : List D} {d : D}
    (hc : CaJ prog w h0 c σ μ f ds d) (ha : AJ prog w h0 c σ μ args ds) (hf : (∃ id, f = .builtin id) ∨ ∃ T, f = .type T := by first | exact .inl ⟨_, rfl⟩ | exact .inr ⟨_, rfl⟩)
    (hk : c.env.kindOf (Str.ofString x) = some .globalImplicit := by trivial) (hx : x ∈ ["type", "issubclass", "str", "bytes", "isinstance", "len", "object", "range", "dict", "list", "max", "sum", "zip", "int"] := by decide)
    (hb : bootBuiltins (Str.ofString x) = some f := by kernel_rfl) (hn : Str.ofString x ≠ "__name__" := by decide) (hd : (Str.ofString x == ("__debug__" : Str)) = false := by decide)
    (hl : (backTo pos (starEach args c.env)).any (·.1) = false := by rfl) :
    EvJ prog w h0 c σ μ (.Call (.Name (Str.ofString x) p) args [] pos) d := Ev.callB (W.bu hx hk hb hn hd) hf ha hc hl
/-- a call of a def -/
theorem Ev.cf (G : Wd prog w h0 mg mb) {i : Nat} {a : Addr} {k : Nat} {e : Expr} {rest : List Expr} {x : Str} {p pos : Pos} {ds : List D} {d : D} (Da : DefAt h0 mg i a)
    (hc : FnJ prog w h0 k a ds d) (ha : AJ prog w h0 c σ μ (e :: rest) ds) (hk : k ≤ c.k := by omega) (hx : x = nameS (stOf i) := by rfl) (hkk : c.env.kindOf x = some .globalImplicit := by trivial) (hd : (x == ("__debug__" : Str)) = false := by decide)
    (he : starEach (e :: rest) c.env = (false, eval e c.env) :: starEach rest c.env := by rfl) :
    EvJ prog w h0 c σ μ (.Call (.Name x p) (e :: rest) [] pos) d := Ev.fn G.toGd Da hx hkk hd ha hc hk he
theorem Ev.cfS (G : Wd prog w h0 mg mb) {i : Nat} {a : Addr} {k : Nat} {e : Expr} {x : Str} {p p' pos : Pos} {ds : List D} {d : D} (Da : DefAt h0 mg i a)
    (hc : FnJ prog w h0 k a ds d) (ha : EvJ prog w h0 c σ μ e (.lst ds)) (hk : k ≤ c.k := by omega) (hx : x = nameS (stOf i) := by rfl) (hkk : c.env.kindOf x = some .globalImplicit := by trivial) (hd : (x == ("__debug__" : Str)) = false := by decide) :
    EvJ prog w h0 c σ μ (.Call (.Name x p) [.Starred e p'] [] pos) d := Ev.fnS G.toGd Da hx hkk hd ha hc hk
theorem A1 {e : Expr} {d : D} (h : EvJ prog w h0 c σ μ e d) (he : starEach [e] c.env = [(false, eval e c.env)] := by rfl) : AJ prog w h0 c σ μ [e] [d] := AJ.cons h AJ.nil he
theorem A2 {e e' : Expr} {d d' : D} (h : EvJ prog w h0 c σ μ e d) (h' : EvJ prog w h0 c σ μ e' d') (he : starEach [e, e'] c.env = (false, eval e c.env) :: starEach [e'] c.env := by rfl) (he' : starEach [e'] c.env = [(false, eval e' c.env)] := by rfl) : AJ prog w h0 c σ μ [e, e'] [d, d'] := AJ.cons h (A1 h' he') he
theorem A3 {e e' e'' : Expr} {d d' d'' : D} (h : EvJ prog w h0 c σ μ e d) (h' : EvJ prog w h0 c σ μ e' d') (h'' : EvJ prog w h0 c σ μ e'' d'') (he : starEach [e, e', e''] c.env = (false, eval e c.env) :: starEach [e', e''] c.env := by rfl)
    (he1 : starEach [e', e''] c.env = (false, eval e' c.env) :: starEach [e''] c.env := by rfl) (he' : starEach [e''] c.env = [(false, eval e'' c.env)] := by rfl) : AJ prog w h0 c σ μ [e, e', e''] [d, d', d''] := AJ.cons h (A2 h' h'' he1 he') he
theorem nm {x : String} {pos : Pos} {d : D} (hd : σ.lookup x = some d := by rfl) : EvJ prog w h0 c σ μ (.Name (Str.ofString x) pos) d := Ev.name hd
theorem cs {x : String} {k : Nat} {pos : Pos} (hz : (lit x).length ≤ 1000000 := by decide) : EvJ prog w h0 c σ μ (.Constant (.str (Str.ofString x)) k pos) (.str (lit x)) := Ev.cstr hz
theorem X1.as {x : String} {e : Expr} {pos' pos : Pos} {d : D} (h : EvJ prog w h0 c σ μ e d) (k : Φ (.next (upd σ x d) μ)) (hk : c.env.kindOf (Str.ofString x) = some .local ∨ c.env.kindOf (Str.ofString x) = some .cell := by first | exact .inl (by trivial) | exact .inr (by trivial))
    (hx : (Str.ofString x == ("__debug__" : Str)) = false := by decide) (hs : swapsWith e (some (.Name (Str.ofString x) pos')) pos.line c.env = pure false := by rfl) :
    X1 prog w h0 c σ μ (.Assign [.Name (Str.ofString x) pos'] e pos) Φ := X1.assign h hk k hx hs
theorem X1.au {x : String} {e : Expr} {op : Operator} {pos' pos : Pos} {d₀ d₁ d : D} (ho : InpJ prog w h0 c σ μ op d₀ d₁ d) (h : EvJ prog w h0 c σ μ e d₁)
    (k : Φ (.next (upd σ x d) μ)) (hd : σ.lookup x = some d₀ := by rfl) (hk : c.env.kindOf (Str.ofString x) = some .local ∨ c.env.kindOf (Str.ofString x) = some .cell := by first | exact .inl (by trivial) | exact .inr (by trivial)) : X1 prog w h0 c σ μ (.AugAssign (.Name (Str.ofString x) pos') op e pos) Φ :=
  X1.aug hd h ho hk k
def ForΦ {α β : Type} (stt : β → St) (mu : β → Mu) (step : β → α → β) (P : Nat → β → Prop) (i : Nat) (b : β) (x : α) (Φ : AF → Prop) : AF → Prop
  | .next σ μ => Sub σ (stt (step b x)) ∧ μ = mu (step b x) ∧ P (i + 1) (step b x)
  | .cont σ μ => Sub σ (stt (step b x)) ∧ μ = mu (step b x) ∧ P (i + 1) (step b x)
  | .brk _ _ => False
  | .ret d μ => Φ (.ret d μ)
theorem X1.forF {α β : Type} {x : String} {iter : Expr} {body : List Stmt} {px pos : Pos} (xs : List α) (inj : α → D) (stt : β → St) (mu : β → Mu) (step : β → α → β) (P : Nat → β → Prop) (b0 : β)
    (he : IteJ prog w h0 c σ μ iter (xs.map inj)) (h00 : Sub σ (stt b0)) (hμ : μ = mu b0) (p0 : P 0 b0)
    (turn : ∀ i b a, xs[i]? = some a → P i b → XJ prog w h0 c (upd (stt b) x (inj a)) (mu b) body (ForΦ stt mu step P i b a Φ))
    (fin : ∀ σ', Sub σ' (stt (xs.foldl step b0)) → P xs.length (xs.foldl step b0) → Φ (.next σ' (mu (xs.foldl step b0))))
    (hk : c.env.kindOf (Str.ofString x) = some .local ∨ c.env.kindOf (Str.ofString x) = some .cell := by first | exact .inl (by trivial) | exact .inr (by trivial)) (hx : (Str.ofString x == ("__debug__" : Str)) = false := by decide)
    (hs : ∀ x, foldedSetIterable iter c.env x = pure x := by intro _; rfl) : X1 prog w h0 c σ μ (.For (.Name (Str.ofString x) px) iter body [] pos) Φ := by
  refine X1.for (items := xs.map inj) (fun i σ μ => Sub σ (stt ((xs.take i).foldl step b0)) ∧ μ = mu ((xs.take i).foldl step b0) ∧ P i ((xs.take i).foldl step b0)) he hk ⟨h00, hμ, p0⟩ ?_ ?_ hx hs
  · intro i σ' μ' dx hdx hI
    obtain ⟨h1, rfl, h3⟩ := hI
    rw [List.getElem?_map] at hdx
    cases ha : xs[i]? with
    | none => rw [ha] at hdx; cases hdx
    | some a =>
      rw [ha] at hdx; cases hdx
      have ht : (xs.take (i + 1)).foldl step b0 = step ((xs.take i).foldl step b0) a := by
        rw [List.take_add_one, ha, List.foldl_append]; rfl
      refine XJ.mono (X.sub (turn i _ a ha h3) (h1.upd x (inj a))) fun af h => ?_
      cases af with
      | next σ μ => show _ ∧ _ ∧ _; rw [ht]; exact h
      | cont σ μ => show _ ∧ _ ∧ _; rw [ht]; exact h
      | brk σ μ => exact h.elim
      | ret d μ => exact h
  · intro σ' μ' hI
    rw [List.length_map, List.take_length] at hI
    obtain ⟨h1, rfl, h3⟩ := hI
    exact fin σ' h1 h3
end
end Mine
end
section
open PySem PySem.Calls PySem.W PyProof.Rows
open PySem.Builtin PySem.Builtin.Str
set_option maxRecDepth 100000
namespace Mine
local macro_rules | `(tactic| trivial) => `(tactic| exact kd ‹_› (by decide +kernel))
abbrev sl : List Nat := [47]
theorem lit_sl : lit "/" = sl := by decide
/-- join's step -/
def jn1 (path b : List Nat) : List Nat :=
  if (Txt.startswith (mkS b) (mkS sl) || path.isEmpty) = true then b else if Txt.endswith (mkS path) (mkS sl) = true then path ++ b else path ++ (sl ++ b)
def jn (a : List Nat) (bs : List (List Nat)) : List Nat := bs.foldl jn1 a
theorem jn1_len (p b : List Nat) : (jn1 p b).length ≤ p.length + b.length + 1 := by
  unfold jn1; split
  · omega
  · split <;> simp <;> omega
section
variable {prog : Program} {w : World} {h0 : Heap} {c : Cx} {σ : St} {μ : Mu} {Φ : AF → Prop} {mg mb : Str → Option Value}
theorem getsep_ok (W : Wd prog w h0 mg mb) {a : Addr} (Da : DefAt h0 mg 14 a) {l : List Nat} : FnJ prog w h0 1 a [.str l] (.str sl) :=
  fn_of (names := ["path"]) W.nolimit Da (by rfl) (by rfl) (by rfl) (fun pm code doc => Bind.pos1 fun v => rfl) (by decide +kernel) (by decide) (by decide) fun c hc hk hce => by
  refine X.cons (X1.if (q := false) (Ts.plain (d := .bool false) (Ev.cb W Ca.isiB (A2 nm (Ev.vb W))) Tr.bool) (fun h => nomatch h) fun _ => ?_)
  exact X.cons (X1.ret (lit_sl ▸ cs) ⟨_, _, rfl, .refl _⟩)
theorem join_ok (W : Wd prog w h0 mg mb) {a : Addr} (Da : DefAt h0 mg 15 a) {l : List Nat} {ls : List (List Nat)} (hz : l.length + (ls.map List.length).sum + ls.length ≤ 1000000) : FnJ prog w h0 2 a (.str l :: dS ls) (.str (jn l ls)) :=
  fn_of (names := ["a", "p"]) (ds' := [.str l, .tup (dS ls)]) W.nolimit Da (by rfl) (by rfl) (by rfl) (fun pm code doc => Bind.var1 (by simp [dS]; omega) fun v vs => by cases vs <;> rfl) (by decide +kernel) (by decide) (by decide) fun c hc hk hce => by
  obtain ⟨af, Daf⟩ := W.fn 10 (by decide)
  obtain ⟨ag, Dag⟩ := W.fn 14 (by decide)
  refine X.cons (X1.as (Ev.cf W Daf (fspath_ok W Daf) (A1 nm)) ?_)
  refine X.cons (X1.as (Ev.cf W Dag (getsep_ok W Dag) (A1 nm)) ?_)
  refine X.cons (X1.as nm ?_)
  refine X.cons (X1.try ?_)
  refine X.cons (X1.forF ls D.str (fun p => [("path", .str p), ("sep", .str sl)]) (fun _ => []) jn1 (fun i p => p.length ≤ l.length + ((ls.take i).map List.length).sum + i) l (Ite.of nm It.tup) (Sub.cons rfl (Sub.cons rfl Sub.nil)) rfl (by simp) ?_ ?_)
  · intro i p b hb hp
    have hi := (List.getElem?_eq_some_iff.mp hb).1
    have e1 : ((ls.take (i + 1)).map List.length).sum = ((ls.take i).map List.length).sum + b.length := by
      rw [List.take_add_one, hb]; simp
    have e2 : ((ls.take (i + 1)).map List.length).sum ≤ (ls.map List.length).sum := by
      conv => rhs; rw [← List.take_append_drop (i + 1) ls]
      rw [List.map_append, List.sum_append]; omega
    have e3 := jn1_len p b
    have fin : ∀ (σ : St) q, σ.lookup "path" = some (.str q) → σ.lookup "sep" = some (.str sl) → q = jn1 p b → Sub σ [("path", .str (jn1 p b)), ("sep", .str sl)] ∧ ([] : Mu) = [] ∧ (jn1 p b).length ≤ l.length + ((ls.take (i + 1)).map List.length).sum + (i + 1) := fun σ q h1 h2 h3 =>
      ⟨Sub.cons (h3 ▸ h1) (Sub.cons h2 Sub.nil), rfl, by omega⟩
    refine X.cons (X1.as (Ev.cf W Daf (fspath_ok W Daf) (A1 nm)) ?_)
    refine X.cons (X1.if (q := Txt.startswith (mkS b) (mkS sl) || ((!!p.isEmpty) || false)) (Ts.or (Ts.plain (Ev.meth nm Ty.str PySem.F.plainAttrs_str PySem.F.slot_str_startswith PySem.F.type_str_startswith (A1 nm) Ca.startswith) Tr.bool) fun _ => Ts.or (Ts.not (Ts.plain nm Tr.str)) fun _ => Ts.orN) (fun h => ?_) fun h => ?_)
    · refine X.cons (X1.as nm ?_)
      refine X.nil (X.nil (fin _ _ rfl rfl ?_))
      unfold jn1; rw [if_pos]; simpa using h
    · have hn : ¬ (Txt.startswith (mkS b) (mkS sl) || p.isEmpty) = true := by simpa using h
      refine X.cons (X1.if (q := Txt.endswith (mkS p) (mkS sl)) (Ts.plain (Ev.meth nm Ty.str PySem.F.plainAttrs_str PySem.F.slot_str_endswith PySem.F.type_str_endswith (A1 nm) Ca.endswith) Tr.bool) (fun h => ?_) fun h => ?_)
      · refine X.cons (X1.au (d₀ := .str p) (d₁ := .str b) (In.addS (by omega)) nm ?_)
        refine X.nil (X.nil (X.nil (fin _ _ rfl rfl ?_)))
        unfold jn1; rw [if_neg hn, if_pos h]
      · refine X.cons (X1.au (d₀ := .str p) (d₁ := .str (sl ++ b)) (In.addS (by simp; omega)) (Ev.bin (x := .str sl) (y := .str b) nm nm (Bi.addS (by simp; omega))) ?_)
        refine X.nil (X.nil (X.nil (fin _ _ rfl rfl ?_)))
        unfold jn1; rw [if_neg hn, if_neg (by simp [h])]
  · intro σ' hs hp
    exact X.nil (X.cons (X1.ret (nm (hs _ _ rfl)) ⟨_, _, rfl, .refl _⟩))
end
end Mine
end
section
open PySem PySem.Calls PySem.W PyProof.Rows
open PySem.Builtin PySem.Builtin.Str
set_option maxRecDepth 100000
namespace Mine
local macro_rules | `(tactic| trivial) => `(tactic| exact kd ‹_› (by decide +kernel))
abbrev dt : List Nat := [46]
abbrev dd : List Nat := [46, 46]
theorem lit_dt : lit "." = dt := by decide
theorem lit_dd : lit ".." = dd := by decide
theorem lit_e : lit "" = [] := by decide
def sroot (p : List Nat) : List Nat × List Nat :=
  if (slc none (some 1) p != sl) = true then ([], p) else if (slc (some 1) (some 2) p != sl || slc (some 2) (some 3) p == sl) = true then (sl, slc (some 1) none p) else (slc none (some 2) p, slc (some 2) none p)
section
variable {prog : Program} {w : World} {h0 : Heap} {c : Cx} {σ : St} {μ : Mu} {Φ : AF → Prop} {mg mb : Str → Option Value}
theorem sroot_ok (W : Wd prog w h0 mg mb) {a : Addr} (Da : DefAt h0 mg 16 a) {l : List Nat} : FnJ prog w h0 2 a [.str l] (.tup [.str [], .str (sroot l).1, .str (sroot l).2]) :=
  fn_of (names := ["p"]) W.nolimit Da (by rfl) (by rfl) (by rfl) (fun pm code doc => Bind.pos1 fun v => rfl) (by decide +kernel) (by decide) (by decide) fun c hc hk hce => by
  obtain ⟨af, Daf⟩ := W.fn 10 (by decide)
  refine X.cons (X1.as (Ev.cf W Daf (fspath_ok W Daf) (A1 nm)) ?_)
  refine X.cons (X1.if (q := false) (Ts.plain (d := .bool false) (Ev.cb W Ca.isiB (A2 nm (Ev.vb W))) Tr.bool) (fun h => nomatch h) fun _ => ?_)
  refine X.cons (X1.as (lit_sl ▸ cs) ?_)
  refine X.cons (X1.as (lit_e ▸ cs) ?_)
  refine X.nil ?_
  refine X.cons (X1.if (q := slc none (some 1) l != sl) (Ts.cmp (Ev.sliceS nm Pa.no (Pa.so Ev.cint)) nm Cm.neS) (fun h => ?_) fun h => ?_)
  · refine X.cons (X1.ret (Ev.dtuple (A3 nm nm nm) (by simp)) ⟨_, _, rfl, ?_⟩)
    unfold sroot; rw [if_pos h]; exact .refl _
  · refine X.cons (X1.if (q := slc (some 1) (some 2) l != sl || (slc (some 2) (some 3) l == sl || false)) (Ts.or (Ts.cmp (Ev.sliceS nm (Pa.so Ev.cint) (Pa.so Ev.cint)) nm Cm.neS) fun _ => Ts.or (Ts.cmp (Ev.sliceS nm (Pa.so Ev.cint) (Pa.so Ev.cint)) nm Cm.eqS) fun _ => Ts.orN) (fun h' => ?_) fun h' => ?_)
    · refine X.cons (X1.ret (Ev.dtuple (A3 nm nm (Ev.sliceS nm (Pa.so Ev.cint) Pa.no)) (by simp)) ⟨_, _, rfl, ?_⟩)
      unfold sroot; rw [if_neg (by rw [h]; decide), if_pos (by simpa using h')]; exact .refl _
    · refine X.cons (X1.ret (Ev.dtuple (A3 nm (Ev.sliceS nm Pa.no (Pa.so Ev.cint)) (Ev.sliceS nm (Pa.so Ev.cint) Pa.no)) (by simp)) ⟨_, _, rfl, ?_⟩)
      unfold sroot; rw [if_neg (by rw [h]; decide), if_neg (by simp at h' ⊢; simpa using h')]; exact .refl _
def np1 (init : List Nat) (ns : List (List Nat)) (comp : List Nat) : List (List Nat) :=
  if (comp.isEmpty || comp == dt) = true then ns
  else if (comp != dd || (init.isEmpty && ns.isEmpty) || (!ns.isEmpty && ns.getLast? == some dd)) = true then ns ++ [comp]
  else ns.dropLast
def comps (l : List Nat) : List (List Nat) := (Txt.split (mkS l) (mkS sl)).map fun p => p.cps.toList
def norm (l : List Nat) : List Nat :=
  if l.isEmpty = true then dt
  else
    let ns := (comps (sroot l).2).foldl (np1 (sroot l).1) []
    let r := (sroot l).1 ++ joinS sl ns
    if r.isEmpty = true then dt else r
def wt (ns : List (List Nat)) : Nat := (ns.map List.length).sum + ns.length
theorem wt_append (a b : List (List Nat)) : wt (a ++ b) = wt a + wt b := by simp [wt]; omega
theorem wt_take_le (l : List (List Nat)) (i : Nat) : wt (l.take i) ≤ wt l := by
  conv => rhs; rw [← List.take_append_drop i l]
  rw [wt_append]; omega
theorem wt_dropLast (ns : List (List Nat)) : wt ns.dropLast ≤ wt ns := by
  rcases List.eq_nil_or_concat ns with rfl | ⟨l, b, rfl⟩
  · simp [wt]
  · simp [wt]; omega
theorem np1_wt (init : List Nat) (ns : List (List Nat)) (comp : List Nat) : wt (np1 init ns comp) ≤ wt ns + comp.length + 1 := by
  unfold np1
  split
  · omega
  · split
    · simp [wt]; omega
    · have := wt_dropLast ns; omega
theorem slc_le {α : Type} (lo hi : Option Int) (l : List α) {n : Nat} (h : l.length ≤ n) : (slc lo hi l).length ≤ n := Nat.le_trans (slc_len lo hi l) h
theorem sroot_len (l : List Nat) : (sroot l).2.length ≤ l.length ∧ (sroot l).1.length ≤ l.length + 1 := by
  unfold sroot
  split
  · simp
  · split
    · exact ⟨slc_len _ _ _, by simp⟩
    · exact ⟨slc_len _ _ _, by have := slc_len none (some 2) l; simp only; omega⟩
theorem comps_wt (l : List Nat) : wt (comps l) ≤ l.length + 1 := by
  have := split_weight (mkS l) (mkS sl) (by simp)
  rw [mkS_len] at this
  unfold wt comps
  rw [List.map_map, List.length_map]
  have e : (List.map (List.length ∘ fun p : Str => p.cps.toList) (Txt.split (mkS l) (mkS sl))) = List.map (·.length) (Txt.split (mkS l) (mkS sl)) := List.map_congr_left fun p _ => by simp [Str.length]
  rw [e]; exact this
theorem at_neg1 {α : Type} {l : List α} {x : α} (h : l.getLast? = some x) : l[at_ (-1) l.length]? = some x ∧ -(l.length : Int) ≤ -1 := by
  have hne : l ≠ [] := by rintro rfl; simp at h
  have hp : 0 < l.length := List.length_pos_iff.mpr hne
  have e : at_ (-1) l.length = l.length - 1 := by unfold at_; rw [if_pos (by omega)]; omega
  rw [e, ← List.getLast?_eq_getElem?]
  exact ⟨h, by omega⟩
theorem norm_ok (W : Wd prog w h0 mg mb) {a : Addr} (Da : DefAt h0 mg 17 a) {l : List Nat} (hz : l.length ≤ 100000) : FnJ prog w h0 3 a [.str l] (.str (norm l)) :=
  fn_of (names := ["path"]) W.nolimit Da (by rfl) (by rfl) (by rfl) (fun pm code doc => Bind.pos1 fun v => rfl) (by decide +kernel) (by decide) (by decide) fun c hc hk hce => by
  obtain ⟨af, Daf⟩ := W.fn 10 (by decide)
  obtain ⟨ar, Dar⟩ := W.fn 16 (by decide)
  have L := sroot_len l
  have Wc := comps_wt (sroot l).2
  refine X.cons (X1.as (Ev.cf W Daf (fspath_ok W Daf) (A1 nm)) ?_)
  refine X.cons (X1.if (q := false) (Ts.plain (d := .bool false) (Ev.cb W Ca.isiB (A2 nm (Ev.vb W))) Tr.bool) (fun h => nomatch h) fun _ => ?_)
  refine X.cons (X1.as (lit_sl ▸ cs) ?_)
  refine X.cons (X1.as (lit_dt ▸ cs) ?_)
  refine X.cons (X1.as (lit_dd ▸ cs) ?_)
  refine X.nil ?_
  refine X.cons (X1.if (q := !!l.isEmpty) (Ts.not (Ts.plain nm Tr.str)) (fun h => ?_) fun h => X.nil ?_)
  · refine X.cons (X1.ret nm ⟨_, _, rfl, ?_⟩)
    unfold norm; rw [if_pos (by simpa using h)]; exact .refl _
  have hne : ¬ l.isEmpty = true := by simpa using h
  refine X.cons (X1.tup3 (Ev.cf W Dar (sroot_ok W Dar) (A1 nm)) (.inl rfl) ⟨.inl (by trivial), by decide⟩ ⟨.inl (by trivial), by decide⟩ ⟨.inl (by trivial), by decide⟩ ?_)
  refine X.cons (X1.as (Ev.meth nm Ty.str PySem.F.plainAttrs_str PySem.F.slot_str_split PySem.F.type_str_split (A1 nm) (Ca.split (by decide) (by omega))) ?_)
  refine X.cons (X1.own (ds := []) (Fr.list AJ.nil (by simp)) (.inl (by trivial)) fun a ha => ?_)
  refine X.cons (X1.forF (comps (sroot l).2) D.str (fun _ => [("new_comps", .mut a), ("dot", .str dt), ("dotdot", .str dd), ("sep", .str sl), ("initial_slashes", .str (sroot l).1)]) (fun ns => [(a, dS ns)]) (np1 (sroot l).1)
    (fun i ns => wt ns ≤ wt ((comps (sroot l).2).take i)) [] (Ite.of nm It.lst) (Sub.cons rfl (Sub.cons rfl (Sub.cons rfl (Sub.cons rfl (Sub.cons rfl Sub.nil))))) rfl (by simp [wt]) ?_ ?_)
  · intro i ns b hb hp
    have e1 : wt ((comps (sroot l).2).take (i + 1)) = wt ((comps (sroot l).2).take i) + b.length + 1 := by
      rw [List.take_add_one, hb]; simp [wt]; omega
    have e2 : wt ((comps (sroot l).2).take (i + 1)) ≤ wt (comps (sroot l).2) := wt_take_le _ _
    have e3 := np1_wt (sroot l).1 ns b
    have e4 : ns.length ≤ wt ns := by simp [wt]
    have fin : ∀ (σ : St) q, Sub σ [("new_comps", .mut a), ("dot", .str dt), ("dotdot", .str dd), ("sep", .str sl), ("initial_slashes", .str (sroot l).1)] → q = np1 (sroot l).1 ns b → Sub σ [("new_comps", .mut a), ("dot", .str dt), ("dotdot", .str dd), ("sep", .str sl), ("initial_slashes", .str (sroot l).1)] ∧ ([(a, dS q)] : Mu) = [(a, dS (np1 (sroot l).1 ns b))] ∧ wt (np1 (sroot l).1 ns b) ≤ wt ((comps (sroot l).2).take (i + 1)) := fun σ q h1 h2 =>
      ⟨h1, by rw [h2], by omega⟩
    have subs : ∀ (d : D), Sub (upd [("new_comps", .mut a), ("dot", .str dt), ("dotdot", .str dd), ("sep", .str sl), ("initial_slashes", .str (sroot l).1)] "comp" d) [("new_comps", .mut a), ("dot", .str dt), ("dotdot", .str dd), ("sep", .str sl), ("initial_slashes", .str (sroot l).1)] := fun d => Sub.cons rfl (Sub.cons rfl (Sub.cons rfl (Sub.cons rfl (Sub.cons rfl Sub.nil))))
    have isE : ∀ {ns : List (List Nat)}, (dS ns).isEmpty = ns.isEmpty := by intro ns; cases ns <;> rfl
    refine X.cons (X1.if (q := (!!b.isEmpty) || (b == dt || false)) (Ts.or (Ts.not (Ts.plain nm Tr.str)) fun _ => Ts.or (Ts.cmp nm nm Cm.eqS) fun _ => Ts.orN) (fun h => ?_) fun h => X.nil ?_)
    · refine X.cons (X1.cont (fin _ _ (subs _) ?_))
      unfold np1; rw [if_pos (by simpa using h)]
    have h1 : ¬ (b.isEmpty || b == dt) = true := by simpa using h
    refine X.cons (X1.if (q := (b != dd) || (((!(!(sroot l).1.isEmpty)) && ((!(!(dS ns).isEmpty)) && true)) || (((!(dS ns).isEmpty) && ((ns.getLast? == some dd) && true)) || false))) (Ts.or (Ts.cmp nm nm Cm.neS) fun _ => Ts.or (Ts.and (Ts.not (Ts.plain nm Tr.str)) fun _ => Ts.and (Ts.not (Ts.plain nm (Tr.li (Li.mut lk_self)))) fun _ => Ts.andN) fun _ => Ts.or (Ts.and (Ts.plain nm (Tr.li (Li.mut lk_self))) fun hx => Ts.and ?_ fun _ => Ts.andN) fun _ => Ts.orN) (fun h => ?_) fun h => ?_)
    · cases hg : ns.getLast? with
      | none => rw [List.getLast?_eq_none_iff] at hg; subst hg; simp at hx
      | some x =>
        have hd : (dS ns).getLast? = some (.str x) := by simp [hg]
        obtain ⟨y1, y2⟩ := at_neg1 hd
        rw [show (some x == some dd) = (x == dd) from rfl]
        exact Ts.cmp (Ev.itemL nm (Ev.neg Ev.cint) (Li.mut lk_self) y1 y2) nm Cm.eqS
    · refine X.cons (X1.meth rfl lk_self PySem.F.slot_list_append PySem.F.type_list_append (A1 nm) (Mu.append (by rw [List.length_map]; omega)) ?_)
      rw [setM_self]
      refine X.nil (X.nil ?_)
      have := fin _ (ns ++ [b]) (subs (.str b)) (by unfold np1; rw [if_neg h1, if_pos (by simpa [isE, or_assoc] using h)])
      show Sub _ _ ∧ _ = _ ∧ _ ≤ _
      simpa [dS] using this
    · have h2 : ¬ (b != dd || ((sroot l).1.isEmpty && ns.isEmpty) || (!ns.isEmpty && ns.getLast? == some dd)) = true := by simpa [isE, or_assoc] using h
      refine X.cons (X1.if (q := !(dS ns).isEmpty) (Ts.plain nm (Tr.li (Li.mut lk_self))) (fun h' => ?_) fun h' => X.nil ?_)
      · refine X.cons (X1.meth rfl lk_self PySem.F.slot_list_pop PySem.F.type_list_pop AJ.nil (Mu.pop (by simpa using h')) ?_)
        rw [setM_self]
        refine X.nil (X.nil (X.nil ?_))
        have := fin _ ns.dropLast (subs (.str b)) (by unfold np1; rw [if_neg h1, if_neg h2])
        show Sub _ _ ∧ _ = _ ∧ _ ≤ _
        simpa [dS, List.map_dropLast] using this
      · refine X.nil (X.nil ?_)
        have hn : ns = [] := by simpa using h'
        refine fin _ ns (subs (.str b)) ?_
        unfold np1; rw [if_neg h1, if_neg h2, hn]; rfl
  · intro σ' hs hp
    rw [List.take_length] at hp
    have hp' : wt ((comps (sroot l).2).foldl (np1 (sroot l).1) []) ≤ 100002 := by omega
    generalize hns : (comps (sroot l).2).foldl (np1 (sroot l).1) [] = ns at *
    refine X.sub (σ' := [("new_comps", .mut a), ("dot", .str dt), ("dotdot", .str dd), ("sep", .str sl), ("initial_slashes", .str (sroot l).1)]) ?_ hs
    refine X.cons (X1.as nm ?_)
    refine X.cons (X1.as (Ev.bin nm (Ev.meth nm Ty.str PySem.F.plainAttrs_str PySem.F.slot_str_join PySem.F.type_str_join (A1 nm) (Ca.join (l := ns) (Li.mut lk_self) ?_)) (Bi.addS ?_)) ?_)
    · unfold wt at hp'; simp; omega
    · have := joinS_len sl ns
      unfold wt at hp'; simp at this ⊢; omega
    refine X.cons (X1.ret (Ev.or nm Tr.str (q := !((sroot l).1 ++ joinS sl ns).isEmpty) (d := .str (if ((sroot l).1 ++ joinS sl ns).isEmpty = true then dt else ((sroot l).1 ++ joinS sl ns))) (fun hq => ?_) fun hq => ?_) ⟨_, _, rfl, ?_⟩)
    · rw [if_pos (by simpa using hq)]; exact nm
    · rw [if_neg (by simpa using hq)]
    · unfold norm; rw [if_neg hne]; simp only [hns]; exact .refl _
end
end Mine
end
section
open PySem PySem.Calls PySem.W PyProof.Rows
open PySem.Builtin PySem.Builtin.Str
set_option maxRecDepth 100000
namespace Mine
local macro_rules | `(tactic| trivial) => `(tactic| exact kd ‹_› (by decide +kernel))
def cntF : Nat → Nat → Nat → Nat
  | 0, _, _ => 0
  | n + 1, one, two => if one = 0 ∨ two = 0 then 1 else cntF n (one - 1) two + cntF n one (two - 1)
def dd1 (acc : List (List Nat)) (t : List Nat) : List (List Nat) := if (!acc.contains t) = true then acc ++ [t] else acc
def dedupL (l : List (List Nat)) : List (List Nat) := l.foldl dd1 []
theorem dd1_len (acc t) : (dd1 acc t).length ≤ acc.length + 1 := by unfold dd1; split <;> simp
section
variable {prog : Program} {w : World} {h0 : Heap} {c : Cx} {σ : St} {μ : Mu} {Φ : AF → Prop} {mg mb : Str → Option Value}
theorem count_ok (W : Wd prog w h0 mg mb) {a : Addr} (Da : DefAt h0 mg 41 a) : ∀ (n one two : Nat), one + two < n → FnJ prog w h0 n a [.int one, .int two] (.int (cntF n one two))
  | 0, _, _, h => by omega
  | n + 1, one, two, h => fn_of (names := ["one", "two"]) W.nolimit Da (by rfl) (by rfl) (by rfl) (fun pm code doc => Bind.pos2 fun u v => rfl) (by decide +kernel) (by decide) (by decide) fun c hc hk hce => by
    refine X.cons (X1.if (q := ((one : Int) == 0) || (((two : Int) == 0) || false)) (Ts.or (Ts.cmp nm Ev.cint Cm.eqI) fun _ => Ts.or (Ts.cmp nm Ev.cint Cm.eqI) fun _ => Ts.orN) (fun h' => ?_) fun h' => X.nil ?_)
    · refine X.cons (X1.ret Ev.cint ⟨_, _, rfl, ?_⟩)
      unfold cntF; rw [if_pos (by simp at h'; omega)]; exact .refl _
    · have h2 : one ≠ 0 ∧ two ≠ 0 := by simp at h'; omega
      have e1 : ((one : Int) - 1) = ((one - 1 : Nat) : Int) := by omega
      have e2 : ((two : Int) - 1) = ((two - 1 : Nat) : Int) := by omega
      refine X.cons (X1.ret (Ev.bin (x := .int (cntF n (one - 1) two)) (y := .int (cntF n one (two - 1))) (Ev.cf W Da (count_ok W Da n (one - 1) two (by omega)) (A2 (e1 ▸ Ev.bin nm Ev.cint Bi.sub) nm)) (Ev.cf W Da (count_ok W Da n one (two - 1) (by omega)) (A2 nm (e2 ▸ Ev.bin nm Ev.cint Bi.sub))) Bi.add) ⟨_, _, rfl, ?_⟩)
      rw [cntF, if_neg (by omega)]
      rw [show ((cntF n (one - 1) two + cntF n one (two - 1) : Nat) : Int) = (cntF n (one - 1) two : Int) + (cntF n one (two - 1) : Int) by omega]
      exact .refl _
theorem dedup_ok (W : Wd prog w h0 mg mb) {a : Addr} (Da : DefAt h0 mg 29 a) {ls : List (List Nat)} (hz : ls.length ≤ 10000) : FnJ prog w h0 1 a [.lst (dS ls)] (.lst (dS (dedupL ls))) :=
  fn_of (names := ["unhashable_params"]) W.nolimit Da (by rfl) (by rfl) (by rfl) (fun pm code doc => Bind.pos1 fun v => rfl) (by decide +kernel) (by decide) (by decide) fun c hc hk hce => by
  refine X.cons (X1.own (ds := []) (Fr.list AJ.nil (by simp)) (.inl (by trivial)) fun a ha => ?_)
  refine X.cons (X1.forF ls D.str (fun _ => [("new_unhashable", .mut a)]) (fun acc => [(a, dS acc)]) dd1 (fun i acc => acc.length ≤ i) [] (Ite.of nm It.lst) (Sub.cons rfl Sub.nil) rfl (by simp) ?_ ?_)
  · intro i acc b hb hp
    have hi := (List.getElem?_eq_some_iff.mp hb).1
    have hl := dd1_len acc b
    refine X.cons (X1.if (q := !acc.contains b) (Ts.cmp nm nm (Cm.ninL (Li.mut lk_self))) (fun h => ?_) fun h => X.nil (X.nil ?_))
    · refine X.cons (X1.meth rfl lk_self PySem.F.slot_list_append PySem.F.type_list_append (A1 nm) (Mu.append (by rw [List.length_map]; omega)) ?_)
      rw [setM_self]
      refine X.nil (X.nil ?_)
      refine ⟨Sub.cons rfl Sub.nil, ?_, by omega⟩
      unfold dd1; rw [if_pos h]; simp [dS]
    · refine ⟨Sub.cons rfl Sub.nil, ?_, by omega⟩
      unfold dd1; rw [if_neg (by rw [h]; decide)]
  · intro σ' hs hp
    exact X.cons (X1.ret (nm (hs _ _ rfl)) ⟨_, _, rfl, .mut (.head _) (.refl _ _)⟩)
theorem dd_mem {l : List (List Nat)} {acc : List (List Nat)} : acc.Nodup → (l.foldl dd1 acc).Nodup ∧ ∀ y, y ∈ l.foldl dd1 acc ↔ y ∈ acc ∨ y ∈ l := by
  induction l generalizing acc with
  | nil => intro h; exact ⟨h, by simp⟩
  | cons t l ih =>
    intro h
    have hn : (dd1 acc t).Nodup := by
      unfold dd1
      split
      · rename_i hc
        rw [List.nodup_append]
        refine ⟨h, by simp, fun x hx y hy => ?_⟩
        rw [List.mem_singleton] at hy; subst hy
        rintro rfl
        simp at hc; exact hc hx
      · exact h
    have hm : ∀ y, y ∈ dd1 acc t ↔ y ∈ acc ∨ y = t := by
      intro y; unfold dd1
      split
      · simp
      · rename_i hc
        simp at hc
        constructor
        · exact .inl
        · rintro (q | rfl)
          · exact q
          · exact hc
    obtain ⟨a1, a2⟩ := ih hn
    refine ⟨a1, fun y => ?_⟩
    rw [List.foldl_cons, a2, hm]; simp [or_assoc]
theorem dedup_nodup (l : List (List Nat)) : (dedupL l).Nodup := (dd_mem (by simp)).1
theorem dedup_mem {l : List (List Nat)} {y : List Nat} : y ∈ dedupL l ↔ y ∈ l := by unfold dedupL; rw [(dd_mem (by simp)).2]; simp
theorem dedup_len (l : List (List Nat)) : (dedupL l).length ≤ l.length := by
  unfold dedupL
  have : ∀ (l acc : List (List Nat)), (l.foldl dd1 acc).length ≤ acc.length + l.length := by
    intro l
    induction l with
    | nil => intro acc; simp
    | cons t l ih => intro acc; rw [List.foldl_cons]; have := ih (dd1 acc t); have := dd1_len acc t; simp; omega
  simpa using this l []
theorem Fr.listL {e : Expr} {p pos : Pos} {d : D} {ds : List D} (W : Wd prog w h0 mg mb) (h : EvJ prog w h0 c σ μ e d) (hd : LiJ h0 c σ μ d ds)
    (hk : c.env.kindOf (Str.ofString "list") = some .globalImplicit) (he : starEach [e] c.env = [(false, eval e c.env)] := by rfl) : FrJ prog w h0 c σ μ (.Call (.Name (Str.ofString "list") p) [e] [] pos) ds := fun s P => by
  refine wpAny_Call_NameR ((W.nm hk : GlJ prog w h0 c σ μ (Str.ofString "list") (.type "list")) p s P _ ?_)
  show wpAny _ _ (callWith pos (.type "list") [] (backTo pos (starEach [e] c.env)) []) _ _ _
  rw [he]
  refine callWith_val (.inr ⟨_, rfl⟩) rfl (Calls.evalArgs_plain (Calls.spliced_cons (h.run P fun v s₁ k₁ P₁ r => Calls.spliced_nil ?_)))
  obtain ⟨z, b, its, rfl, ⟨n, hp⟩, rr⟩ := hd s₁ v P₁ r
  have e := li_size rr
  refine call_list_seq b (.inl rfl) hp rfl rfl (fun h' c' hk hg => ⟨kp_trans k₁ ⟨h', s₁.toks, rfl, hk⟩, s₁.heap.objs.size, its, rfl, old_none k₁ (fresh_size _), ⟨c', hg⟩, z, ?_⟩) (by rw [sizeLine_eq]; omega)
  exact rr.mono (h := s₁.heap) (fun b o _ e => hk b o e) fun b y => by
    rcases y with y | y
    · exact .inl y
    · exact .inr (y ▸ fresh_size _)
theorem cmp_ok (W : Wd prog w h0 mg mb) {a : Addr} (Da : DefAt h0 mg 30 a) {ls ms : List (List Nat)} (hz : ls.length ≤ 10000) (hz' : ms.length ≤ 10000) (hm : ∀ y, y ∈ ls ↔ y ∈ ms) : FnJ prog w h0 2 a [.lst (dS ls), .lst (dS ms)] (.bool true) :=
  fn_of (names := ["first_args", "second_args"]) W.nolimit Da (by rfl) (by rfl) (by rfl) (fun pm code doc => Bind.pos2 fun u v => rfl) (by decide +kernel) (by decide) (by decide) fun c hc hk hce => by
  obtain ⟨ad, Dd⟩ := W.fn 29 (by decide)
  have hl := dedup_len ms
  refine X.cons (X1.as (Ev.cf W Dd (dedup_ok W Dd hz) (A1 nm)) ?_)
  refine X.cons (X1.as (Ev.cf W Dd (dedup_ok W Dd hz') (A1 nm)) ?_)
  refine X.cons (X1.own (Fr.listL W nm Li.lst (by trivial)) (.inl (by trivial)) fun a ha => ?_)
  refine X.cons (X1.try ?_)
  refine X.cons (X1.forF (dedupL ls) D.str (fun _ => [("t", .mut a)]) (fun rem => [(a, dS rem)]) (fun rem x => rem.erase x) (fun i rem => rem.Nodup ∧ ∀ y, y ∈ rem ↔ y ∈ (dedupL ls).drop i) (dedupL ms) (Ite.of nm It.lst) (Sub.cons rfl Sub.nil) rfl ⟨dedup_nodup _, fun y => by rw [List.drop_zero, dedup_mem, dedup_mem, hm]⟩ ?_ ?_)
  · intro i rem b hb hp
    have hd : (dedupL ls).drop i = b :: (dedupL ls).drop (i + 1) := by
      obtain ⟨hi, e⟩ := List.getElem?_eq_some_iff.mp hb
      rw [List.drop_eq_getElem_cons hi, e]
    have hbm : b ∈ rem := by rw [hp.2, hd]; exact .head _
    refine X.cons (X1.meth rfl lk_self PySem.F.slot_list_remove PySem.F.type_list_remove (A1 nm) (Mu.remove hbm) ?_)
    rw [setM_self]
    refine X.nil ⟨Sub.cons rfl Sub.nil, rfl, hp.1.erase b, fun y => ?_⟩
    have nd : (b :: (dedupL ls).drop (i + 1)).Nodup := hd ▸ (dedup_nodup ls).sublist (List.drop_sublist _ _)
    rw [hp.1.mem_erase_iff, hp.2, hd, List.mem_cons]
    rw [List.nodup_cons] at nd
    constructor
    · rintro ⟨q, q' | q'⟩
      · exact absurd q' q
      · exact q'
    · intro q
      exact ⟨fun e => nd.1 (e ▸ q), .inr q⟩
  · intro σ' hs hp
    rw [List.drop_length] at hp
    have hn : (dedupL ls).foldl (fun rem x => rem.erase x) (dedupL ms) = [] := by
      apply List.eq_nil_iff_forall_not_mem.mpr
      intro y hy
      have := (hp.2 y).mp hy
      simp at this
    rw [hn]
    exact X.nil (X.cons (X1.ret (Ev.not (nm (hs _ _ rfl)) (Tr.li (Li.mut lk_self))) ⟨_, _, rfl, .refl _⟩))
end
end Mine
end
section
open PySem PySem.Calls PySem.W PyProof.Rows
set_option maxRecDepth 100000
namespace Mine
section
variable {prog : Program} {w : World} {h0 : Heap} {c : Cx} {σ : St} {μ : Mu} {Φ : AF → Prop} {mg mb : Str → Option Value}
theorem CapOk.of {sc scope : Scope} {σ₀ : St} (ns : List String) (hc : c.env.scope = sc) (h1 : Sub σ σ₀) (hns : σ₀.map Prod.fst = ns := by rfl) (h2 : ∀ p ∈ ns, scope.names.lookup (Str.ofString p) = some .free ∧ sc.names.lookup (Str.ofString p) = some .cell := by decide +kernel)
    (h3 : ∀ x ∈ scope.names, x.2 = .free → sc.names.lookup x.1 = some .cell := by decide +kernel) (h4 : ∀ x ∈ scope.names, x.2 ≠ .cell := by decide +kernel) (h5 : scope.kind = .function := by rfl)
    (h6 : ∀ x ∈ scope.names, x.2 = .local → scope.names.lookup x.1 = some .local := by decide +kernel) : CapOk c σ scope σ₀ where
  cap := fun y d hy => by
    have hm : y ∈ ns := hns ▸ List.mem_map_of_mem (f := Prod.fst) (mem_of_lookup' hy)
    exact ⟨h1 y d hy, (h2 y hm).1, kd hc (h2 y hm).2⟩
  free := fun x hx hf => kd hc (h3 x hx hf)
  cell := h4
  kind := h5
  names := h6
theorem swaps_true {elt : Expr} {gs : List Comprehension} {scope : Scope} {ps px : Pos} {t : Str} {l : Nat} {env : Env} (h1 : env.scope.kind = .function) (h2 : env.kindOf t = some .local) (h3 : (px.line == ps.line && !(scope.names.any fun (n, k) => n == t && (k == .local || k == .cell))) = true) : swapsWith (.ListComp elt gs scope ps) (some (.Name t px)) l env = pure true := by
  show pure (env.blockKind == .function && env.kindOf t == some .local && px.line == (Expr.ListComp elt gs scope ps).pos.line && !(scope.names.any fun (n, k) => n == t && (k == .local || k == .cell))) = _
  have hb : env.blockKind = .function := by unfold Env.blockKind; rw [h1]; rfl
  rw [hb, h2]
  rw [show (ScopeKind.function == ScopeKind.function) = true from rfl, show (some NameKind.local == some NameKind.local) = true from rfl]
  exact congrArg pure h3
theorem swaps_false {elt : Expr} {gs : List Comprehension} {scope : Scope} {ps px : Pos} {t : Str} {l : Nat} {env : Env} (h2 : env.kindOf t = some .cell) : swapsWith (.ListComp elt gs scope ps) (some (.Name t px)) l env = pure false := by
  show pure (env.blockKind == .function && env.kindOf t == some .local && px.line == (Expr.ListComp elt gs scope ps).pos.line && !(scope.names.any fun (n, k) => n == t && (k == .local || k == .cell))) = _
  rw [h2, show (some NameKind.cell == some NameKind.local) = false from rfl]
  simp
theorem swap_names {x y : Str} {e e' : Expr} {px py tp vp : Pos} {tk tk' : Nat} {env : Env} (h1 : env.scope.kind = .function) (hx : env.kindOf x = some .local) (hy : env.kindOf y = some .local) (hl : (py.line == px.line) = true := by rfl) (hd : (x == y) = false := by decide)
    (hst : ([e, e'].any fun | .Starred .. => true | _ => false) = false := by rfl) (hf : [e, e'].all (foldedForSure 8) = false := by rfl) (hca : [e, e'].all (constantsAlone 8) = false := by rfl) :
    swappedStores [.Tuple [.Name x px, .Name y py] tk tp] (.Tuple [e, e'] tk' vp) env = pure (some [x, y]) := by
  have hb : env.blockKind = .function := by unfold Env.blockKind; rw [h1]; rfl
  have hn : ([.Name x px, .Name y py] : List Expr).filterMap (fun
    | .Name id pos => if (env.kindOf id == some .local && pos.line == px.line) = true then some id else none
    | _ => none) = [x, y] := by
    have e1 : (some NameKind.local == some NameKind.local) = true := rfl
    have hl' : py.line = px.line := by simpa using hl
    simp [hx, hy, hl']
  unfold swappedStores
  dsimp only
  rw [hb]
  refine (if_neg (fun q => by cases q)).trans ((if_neg (fun q => absurd (q.symm.trans hst) (by decide))).trans ?_)
  show (if (([.Name x px, .Name y py] : List Expr).filterMap (fun
    | .Name id pos => if (env.kindOf id == some .local && pos.line == px.line) = true then some id else none
    | _ => none)).length != 2 || _ then _ else _) = _
  rw [hn]
  refine (if_neg ?_).trans ((if_neg (fun q => by rw [hf] at q; cases q)).trans ((if_neg (fun q => by rw [hca] at q; cases q)).trans (congrArg (fun z => pure (some z)) hn)))
  have : ([x, y] : List Str).eraseDups = [x, y] := by
    have hd' : (y == x) = false := by rw [Bool.eq_false_iff] at hd ⊢; intro q; exact hd (by rw [eq_of_beq q]; simp)
    simp [List.eraseDups_cons, hd']
  intro q
  have q' : (([x, y] : List Str).length != 2 || ([x, y] : List Str).eraseDups.length != ([x, y] : List Str).length) = true := hn ▸ q
  rw [this] at q'; cases q'
theorem Ite.rng (W : Wd prog w h0 mg mb) {e : Expr} {rp rpos : Pos} {n : Nat} (he : EvJ prog w h0 c σ μ e (.int n)) (hhi : n ≤ 1000000 := by omega)
    (hk : c.env.kindOf (Str.ofString "range") = some .globalImplicit := by trivial) (hse : starEach [e] c.env = [(false, eval e c.env)] := by rfl) : IteJ prog w h0 c σ μ (.Call (.Name (Str.ofString "range") rp) [e] [] rpos) ((List.range n).map fun i : Nat => D.int i) := by
  have := Ite.range (rp := rp) (rpos := rpos) (W.nm hk : GlJ prog w h0 c σ μ (Str.ofString "range") (.type "range")) he (by omega) (by omega) hse
  simpa using this
end
end Mine
end
section
open PySem PySem.Calls PySem.W PyProof.Rows
open PySem.Builtin PySem.Builtin.Str
set_option maxRecDepth 100000
namespace Mine
local macro_rules | `(tactic| trivial) => `(tactic| exact kd ‹_› (by decide +kernel))
def holdsF : List (List Nat) → List Nat → Int → Bool
  | [], _, _ => true
  | s :: r, p, spot => if (Txt.find3 (mkS p) (mkS s) spot + 1 == 0) = true then false else holdsF r p (Txt.find3 (mkS p) (mkS s) spot + 1)
def wordsN (signs : List (List Nat)) (newest : List (List Nat)) : List (List Nat) := newest.flatMap fun a => if true = true then signs.flatMap (fun b => if true = true then [a ++ b] else []) else []
def wordsF (signs : List (List Nat)) (p : List (List Nat) × List (List Nat)) (_ : Nat) : List (List Nat) × List (List Nat) := (p.1 ++ wordsN signs p.2, wordsN signs p.2)
def wordsL (signs : List (List Nat)) (n : Nat) : List (List Nat) := ((List.range n).foldl (wordsF signs) ([[]], [[]])).1
section
variable {prog : Program} {w : World} {h0 : Heap} {c : Cx} {σ : St} {μ : Mu} {Φ : AF → Prop} {mg mb : Str → Option Value}
theorem holds_ok (W : Wd prog w h0 mg mb) {a : Addr} (Da : DefAt h0 mg 39 a) {ws : List (List Nat)} {p : List Nat} : FnJ prog w h0 1 a [.lst (dS ws), .str p] (.bool (holdsF ws p 0)) :=
  fn_of (names := ["wanted", "path"]) W.nolimit Da (by rfl) (by rfl) (by rfl) (fun pm code doc => Bind.pos2 fun u v => rfl) (by decide +kernel) (by decide) (by decide) fun c hc hk hce => by
  refine X.cons (X1.as Ev.cint ?_)
  refine X.cons (X1.forF ws D.str (fun spot => [("path", .str p), ("spot", .int spot)]) (fun _ => []) (fun spot s => Txt.find3 (mkS p) (mkS s) spot + 1) (fun i spot => holdsF (ws.drop i) p spot = holdsF ws p 0) 0 (Ite.of nm It.lst) (Sub.cons rfl (Sub.cons rfl Sub.nil)) rfl rfl ?_ ?_)
  · intro i spot s hb hp
    have hd : ws.drop i = s :: ws.drop (i + 1) := by
      obtain ⟨hi, e⟩ := List.getElem?_eq_some_iff.mp hb
      rw [List.drop_eq_getElem_cons hi, e]
    rw [hd, holdsF] at hp
    refine X.cons (X1.as (Ev.bin (Ev.meth nm Ty.str PySem.F.plainAttrs_str PySem.F.slot_str_find PySem.F.type_str_find (A2 nm nm) Ca.find) Ev.cint Bi.add) ?_)
    refine X.cons (X1.if (q := (Txt.find3 (mkS p) (mkS s) spot + 1 == 0)) (Ts.cmp nm Ev.cint Cm.eqI) (fun h => ?_) fun h => X.nil (X.nil ?_))
    · rw [if_pos h] at hp
      exact X.cons (X1.ret Ev.cbool ⟨_, _, rfl, hp ▸ .refl _⟩)
    · rw [if_neg (by rw [h]; decide)] at hp
      exact ⟨Sub.cons rfl (Sub.cons rfl Sub.nil), rfl, hp⟩
  · intro σ' hs hp
    rw [List.drop_length, holdsF] at hp
    exact X.cons (X1.ret Ev.cbool ⟨_, _, rfl, hp ▸ .refl _⟩)
theorem words_ok (W : Wd prog w h0 mg mb) {a : Addr} (Da : DefAt h0 mg 35 a) {s1 s2 : Nat} {n : Nat} (hn : n ≤ 4) : FnJ prog w h0 1 a [.lst (dS [[s1], [s2]]), .int n] (.lst (dS (wordsL [[s1], [s2]] n))) :=
  fn_of (names := ["signs", "size"]) W.nolimit Da (by rfl) (by rfl) (by rfl) (fun pm code doc => Bind.pos2 fun u v => rfl) (by decide +kernel) (by decide) (by decide) fun c hc hk hce => by
  refine X.cons (X1.swap2 (Pr.fr (Fr.list (ds := [.str []]) (A1 (lit_e ▸ cs)) (by simp))) (fun d1 μ1 hh => Pr.ev (Ev.dlist (ds := [.str []]) (A1 (lit_e ▸ cs)) (by simp))) (by trivial) (by trivial) (by decide) (by decide) (swap_names (by rw [hc]; rfl) (by trivial) (by trivial)) ?_)
  rintro d1 μ1 d2 μ2 ⟨a, ha, rfl, rfl⟩ ⟨rfl, rfl⟩
  have len1 : ∀ (l : List (List Nat)), (wordsN [[s1], [s2]] l).length = 2 * l.length := by
    intro l; unfold wordsN
    induction l with
    | nil => rfl
    | cons x l ih => rw [List.flatMap_cons, List.length_append, ih]; simp; omega
  have len2 : ∀ (l : List (List Nat)) (m : Nat), (∀ x ∈ l, x.length ≤ m) → ∀ x ∈ wordsN [[s1], [s2]] l, x.length ≤ m + 1 := by
    intro l m h x hx
    unfold wordsN at hx
    simp only [if_true, List.mem_flatMap] at hx
    obtain ⟨y, hy, z, hz, hx⟩ := hx
    have := h y hy
    simp at hz hx
    rcases hz with rfl | rfl <;> subst hx <;> simp <;> omega
  refine X.cons (X1.forF (List.range n) (fun i : Nat => D.int i) (fun p => [("words", .mut a), ("newest", .lst (dS p.2)), ("signs", .lst (dS [[s1], [s2]]))]) (fun p => [(a, dS p.1)]) (wordsF [[s1], [s2]])
    (fun i p => p.2.length = 2 ^ i ∧ p.1.length + 1 = 2 ^ (i + 1) ∧ ∀ x ∈ p.2, x.length ≤ i) ([[]], [[]]) (Ite.rng W nm) (Sub.cons rfl (Sub.cons rfl (Sub.cons rfl Sub.nil))) rfl (by simp) ?_ ?_)
  · intro i p b hb hp
    have hi : i < 4 := by
      obtain ⟨h1, _⟩ := List.getElem?_eq_some_iff.mp hb
      simp at h1; omega
    have hp2 : 2 ^ (i + 1) ≤ 16 := Nat.pow_le_pow_right (n := 2) (by decide) (show i + 1 ≤ 4 by omega)
    have e1 := len1 p.2
    have hpow : 2 ^ (i + 1) = 2 * 2 ^ i := by rw [Nat.pow_succ]; omega
    have hpow2 : 2 ^ (i + 1 + 1) = 2 * 2 ^ (i + 1) := by rw [Nat.pow_succ]; omega
    refine X.cons (X1.comp (outs := dS (wordsN [[s1], [s2]] p.2)) ?_ (by simp; omega) (by trivial) ?_ (by decide) (swaps_true (by rw [hc]; rfl) (by trivial) (by decide +kernel)))
    · have hd : dS (wordsN [[s1], [s2]] p.2) = p.2.flatMap fun a => if true = true then ([[s1], [s2]] : List (List Nat)).flatMap (fun b => if true = true then [D.str (a ++ b)] else []) else [] := by
        unfold wordsN dS; rw [List.map_flatMap]; rfl
      rw [hd]
      refine Comp.two (xs := p.2) D.str (fun _ => true) (fun _ => [[s1], [s2]]) D.str (fun _ _ => true) (fun x y => .str (x ++ y)) (σ₀ := [("signs", .lst (dS [[s1], [s2]]))]) (Ite.of nm It.lst) hce (CapOk.of ["signs"] hc (Sub.cons rfl Sub.nil)) (by decide +kernel) (by decide) rfl (by decide +kernel) (by decide) rfl (by decide) ?_
        (fun c' x hin hx => If.no) (fun c' x hin hx _ => Ite.of nm It.lst) (fun c' x y hin hx hy => If.no) (fun c' x y hin hx hy _ => Ev.bin nm nm (Bi.addS ?_)) (by intro _; rfl) (by intro _ _; rfl)
      · rw [← hd]; simp; omega
      · have := hp.2.2 x hx
        simp at hy; rcases hy with rfl | rfl <;> simp <;> omega
    · refine X.cons (X1.augOwn rfl lk_self nm Li.lst (by simp; omega) (.inl (by trivial)) ?_)
      rw [setM_self]
      refine X.nil ⟨Sub.cons rfl (Sub.cons rfl (Sub.cons rfl Sub.nil)), ?_, ?_, ?_, ?_⟩
      · simp [wordsF, dS]
      · simp only [wordsF]; omega
      · simp only [wordsF, List.length_append]; omega
      · exact len2 _ _ hp.2.2
  · intro σ' hs hp
    exact X.cons (X1.ret (nm (hs _ _ rfl)) ⟨_, _, rfl, .mut (.head _) (.refl _ _)⟩)
end
end Mine
end
section
open PySem PySem.Calls PySem.W PyProof.Rows
open PySem.Builtin PySem.Builtin.Str
set_option maxRecDepth 100000
namespace Mine
local macro_rules | `(tactic| trivial) => `(tactic| exact kd ‹_› (by decide +kernel))
theorem lk_2 {a b : Addr} {x y : List D} {μ : Mu} (h : a ≠ b) : List.lookup a ((b, x) :: (a, y) :: μ) = some y := by
  rw [List.lookup_cons, beq_false_of_ne h]; simp
theorem setM_2 {a b : Addr} {x y z : List D} {μ : Mu} (h : a ≠ b) : setM ((b, x) :: (a, y) :: μ) a z = (b, x) :: (a, z) :: μ := by
  unfold setM; rw [if_neg (fun q => h q.symm), setM_self]
theorem at_nat (k n : Nat) : at_ (k : Int) n = k := by unfold at_; rw [if_neg (by omega)]; omega
abbrev dN (l : List Nat) : List D := l.map fun x : Nat => D.int x
def laid1 (st : List (List (List Nat))) (p : List Nat × List (List Nat)) (k : Nat) : List Nat × List (List Nat) :=
  (p.1.set k (p.1.getD k 0 + 1), p.2 ++ [(st.getD k []).getD (p.1.getD k 0) []])
def laidF (order : List Nat) (st : List (List (List Nat))) : List (List Nat) := (order.foldl (laid1 st) ([0, 0, 0], [])).2
section
variable {prog : Program} {w : World} {h0 : Heap} {c : Cx} {σ : St} {μ : Mu} {Φ : AF → Prop} {mg mb : Str → Option Value}
theorem laid_ok (W : Wd prog w h0 mg mb) {a : Addr} (Da : DefAt h0 mg 34 a) {order : List Nat} {st : List (List (List Nat))} (hst : st.length = 3) (hO : ∀ k ∈ order, k < 3) (hC : ∀ k, k < 3 → order.count k ≤ (st.getD k []).length) (hz : order.length ≤ 1000) :
    FnJ prog w h0 1 a [.lst (dN order), .lst (st.map fun s => .lst (dS s))] (.lst (dS (laidF order st))) :=
  fn_of (names := ["order", "steps"]) W.nolimit Da (by rfl) (by rfl) (by rfl) (fun pm code doc => Bind.pos2 fun u v => rfl) (by decide +kernel) (by decide) (by decide) fun c hc hk hce => by
  refine X.cons (X1.swap2 (Pr.fr (Fr.list (ds := dN [0, 0, 0]) (A3 Ev.cint Ev.cint Ev.cint) (by simp))) (fun d1 μ1 hh => Pr.fr (Fr.list (ds := []) AJ.nil (by simp))) (by trivial) (by trivial) (by decide) (by decide) (swap_names (by rw [hc]; rfl) (by trivial) (by trivial)) ?_)
  rintro d1 μ1 d2 μ2 ⟨a, ha, rfl, rfl⟩ ⟨b, hb, rfl, rfl⟩
  have hab : a ≠ b := fun q => hb (by simp [q])
  refine X.cons (X1.forF order (fun k : Nat => D.int k) (fun _ => [("used", .mut a), ("row", .mut b), ("steps", .lst (st.map fun s => .lst (dS s)))]) (fun p => [(b, dS p.2), (a, dN p.1)]) (laid1 st)
    (fun i p => p.1.length = 3 ∧ (∀ k, k < 3 → p.1[k]? = some ((order.take i).count k)) ∧ p.2.length = i) ([0, 0, 0], []) (Ite.of nm It.lst) (Sub.cons rfl (Sub.cons rfl (Sub.cons rfl Sub.nil))) rfl ⟨rfl, fun k hk => ?_, rfl⟩ ?_ ?_)
  · match k, hk with
    | 0, _ => rfl
    | 1, _ => rfl
    | 2, _ => rfl
  · rintro i ⟨u, r⟩ k hik ⟨h1, h2, h3⟩
    dsimp only at h1 h2 h3
    obtain ⟨hi, hke⟩ := List.getElem?_eq_some_iff.mp hik
    have hk3 : k < 3 := hO k (List.mem_of_getElem? hik)
    have hu := h2 k hk3
    have hcount : (order.take (i + 1)).count k = (order.take i).count k + 1 := by
      rw [List.take_add_one, hik]; simp
    have hle : (order.take (i + 1)).count k ≤ order.count k := (List.take_sublist _ _).count_le k
    have hC' := hC k hk3
    have hs : st[k]? = some (st.getD k []) := by
      rw [List.getD_eq_getElem?_getD, List.getElem?_eq_getElem (by omega)]; rfl
    generalize hS : st.getD k [] = S at *
    generalize hn : (order.take i).count k = n at *
    have hx : S[n]? = some (S.getD n []) := by
      rw [List.getD_eq_getElem?_getD, List.getElem?_eq_getElem (by omega)]; rfl
    have hug : u.getD k 0 = n := by rw [List.getD_eq_getElem?_getD, hu]; rfl
    refine X.cons (X1.meth rfl lk_self PySem.F.slot_list_append PySem.F.type_list_append (A1 (d := .str (S.getD n [])) (Ev.itemL (d := .lst (dS S)) (k := n) (Ev.itemL (k := k) nm nm Li.lst ?_ (by omega)) (Ev.itemL (k := k) nm nm (Li.mut (lk_2 hab)) ?_ (by omega)) Li.lst ?_ (by omega))) (Mu.append (by simp; omega)) ?_)
    · rw [at_nat, List.getElem?_map, hs]; rfl
    · rw [at_nat, List.getElem?_map, hu]; rfl
    · rw [at_nat, List.getElem?_map, hx]; rfl
    rw [setM_self]
    refine X.cons (X1.augItem (j := k) (m := n) (n := 1) rfl (lk_2 hab) nm (by omega) ?_ Ev.cint ?_)
    · rw [Int.toNat_natCast, List.getElem?_map, hu]; rfl
    rw [setM_2 hab]
    refine X.nil ⟨Sub.cons rfl (Sub.cons rfl (Sub.cons rfl Sub.nil)), ?_, ?_, ?_, ?_⟩
    · simp only [laid1, hS, hug]
      simp [dS, dN, List.map_set]
    · simp [laid1, h1]
    · intro j hj
      simp only [laid1]
      rw [hug]
      by_cases hjk : j = k
      · subst hjk; rw [List.getElem?_set_self (by omega), hcount]
      · rw [List.getElem?_set_ne (fun q => hjk q.symm), h2 j hj]
        rw [List.take_add_one, hik]; simp [List.count_cons, Ne.symm hjk]
    · simp [laid1, h3]
  · intro σ' hs hp
    exact X.cons (X1.ret (nm (hs _ _ rfl)) ⟨_, _, rfl, .mut (.head _) (.refl _ _)⟩)
end
end Mine
end
section
open PySem PySem.Calls PySem.W PyProof.Rows
open PySem.Builtin PySem.Builtin.Str
set_option maxRecDepth 100000
namespace Mine
local macro_rules | `(tactic| trivial) => `(tactic| exact kd ‹_› (by decide +kernel))
def ordG : Nat → List Nat → List (List Nat)
  | 0, _ => [[]]
  | n + 1, cs => (List.range 3).flatMap fun k => if 0 < cs.getD k 0 then (ordG n (cs.set k (cs.getD k 0 - 1))).map (k :: ·) else []
theorem ordG_len : ∀ (n : Nat) (cs : List Nat), (ordG n cs).length ≤ 3 ^ n
  | 0, _ => by simp [ordG]
  | n + 1, cs => by
    have h : ∀ k, (if 0 < cs.getD k 0 then (ordG n (cs.set k (cs.getD k 0 - 1))).map (k :: ·) else []).length ≤ 3 ^ n := by
      intro k; split
      · rw [List.length_map]; exact ordG_len n _
      · simp
    have h0 := h 0; have h1 := h 1; have h2 := h 2
    rw [ordG, Nat.pow_succ, show List.range 3 = [0, 1, 2] from rfl, List.flatMap_cons, List.flatMap_cons, List.flatMap_cons, List.flatMap_nil]
    rw [List.length_append, List.length_append, List.length_append]
    simp only [List.length_nil]; omega
theorem ordG_mem : ∀ (n : Nat) (cs : List Nat), ∀ o ∈ ordG n cs, o.length = n
  | 0, _, o, h => by simp [ordG] at h; rw [h]; rfl
  | n + 1, cs, o, h => by
    rw [ordG, List.mem_flatMap] at h
    obtain ⟨k, _, h⟩ := h
    split at h
    · obtain ⟨o', h', rfl⟩ := List.mem_map.mp h
      rw [List.length_cons, ordG_mem n _ o' h']
    · cases h
theorem foldl_cat {α β : Type} (f : β → List α) : ∀ (l : List β) (b : List α), l.foldl (fun b k => b ++ f k) b = b ++ l.flatMap f
  | [], b => by simp
  | k :: l, b => by rw [List.foldl_cons, foldl_cat f l, List.flatMap_cons, List.append_assoc]
abbrev dO (o : List Nat) : D := .lst (dN o)
section
variable {prog : Program} {w : World} {h0 : Heap} {c : Cx} {σ : St} {μ : Mu} {Φ : AF → Prop} {mg mb : Str → Option Value}
theorem orders_ok (W : Wd prog w h0 mg mb) {ad : Addr} (Da : DefAt h0 mg 33 ad) : ∀ (n x y z : Nat), n = x + y + z → n ≤ 4 → FnJ prog w h0 (n + 1) ad [.lst (dN [x, y, z])] (.lst ((ordG n [x, y, z]).map dO)) := by
  intro n
  induction n with
  | zero =>
    intro x y z hn _
    obtain ⟨rfl, rfl, rfl⟩ : x = 0 ∧ y = 0 ∧ z = 0 := by omega
    refine fn_of (names := ["counts"]) W.nolimit Da (by rfl) (by rfl) (by rfl) (fun pm code doc => Bind.pos1 fun v => rfl) (by decide +kernel) (by decide) (by decide) fun c hc hk hce => ?_
    refine X.cons (X1.own (ds := [.lst []]) (Fr.ife (q := false) (Ts.cmp (x := .int 0) (y := .int 0) (Ev.cb W (Ca.sum (xs := [0, 0, 0]) Li.lst) (A1 nm)) Ev.cint Cm.gt) (fun h => nomatch h) fun _ => Fr.list (A1 (Ev.dlist AJ.nil (by simp))) (by simp)) (.inl (by trivial)) fun a ha => ?_)
    refine X.cons (X1.forF (List.range 3) (fun k : Nat => D.int k) (fun _ => [("orders", .mut a), ("counts", .lst (dN [0, 0, 0]))]) (fun _ => [(a, [.lst []])]) (fun (b : Unit) k => b) (fun i b => True) () (Ite.rng W (n := 3) Ev.cint) (Sub.cons rfl (Sub.cons rfl Sub.nil)) rfl True.intro ?_ ?_)
    · intro i b k hk' _
      have hk3 : k < 3 := by have := List.mem_of_getElem? hk'; simpa using this
      refine X.cons (X1.if (q := false) (Ts.cmp (x := .int 0) (y := .int 0) (Ev.itemL (k := k) nm nm Li.lst ?_ (by omega)) Ev.cint Cm.gt) (fun h => nomatch h) fun _ => X.nil (X.nil ⟨Sub.cons rfl (Sub.cons rfl Sub.nil), rfl, True.intro⟩))
      rw [at_nat]
      match k, hk3 with
      | 0, _ => rfl
      | 1, _ => rfl
      | 2, _ => rfl
    · intro σ' hs _
      exact X.cons (X1.ret (nm (hs _ _ rfl)) ⟨_, _, rfl, .mut (.head _) (.refl _ _)⟩)
  | succ n ih =>
    intro x y z hn hn4
    refine fn_of (names := ["counts"]) W.nolimit Da (by rfl) (by rfl) (by rfl) (fun pm code doc => Bind.pos1 fun v => rfl) (by decide +kernel) (by decide) (by decide) fun c hc hk hce => ?_
    have hsum : decide (([(x : Int), y, z] : List Int).sum > 0) = true := by simp; omega
    refine X.cons (X1.own (ds := []) (Fr.ife (q := true) (hsum ▸ Ts.cmp (Ev.cb W (Ca.sum (xs := [(x : Int), y, z]) Li.lst) (A1 nm)) Ev.cint Cm.gt) (fun _ => Fr.list AJ.nil (by simp)) (fun h => nomatch h)) (.inl (by trivial)) fun a ha => ?_)
    let cs : List Nat := [x, y, z]
    let more : Nat → List (List Nat) := fun k => if 0 < cs.getD k 0 then (ordG n (cs.set k (cs.getD k 0 - 1))).map (k :: ·) else []
    have hp4 : 3 ^ n ≤ 27 := Nat.pow_le_pow_right (n := 3) (by decide) (show n ≤ 3 by omega)
    have hml : ∀ k, (more k).length ≤ 27 := by
      intro k; show (if _ then _ else _ : List (List Nat)).length ≤ _
      split
      · rw [List.length_map]; exact Nat.le_trans (ordG_len n _) hp4
      · simp
    refine X.cons (X1.forF (List.range 3) (fun k : Nat => D.int k) (fun _ => [("orders", .mut a), ("counts", .lst (dN [x, y, z]))]) (fun b => [(a, b.map dO)]) (fun b k => b ++ more k) (fun i b => b.length ≤ 27 * i) [] (Ite.rng W (n := 3) Ev.cint) (Sub.cons rfl (Sub.cons rfl Sub.nil)) rfl (by simp) ?_ ?_)
    · intro i b k hk' hb
      have hi : i < 3 := by obtain ⟨h1, _⟩ := List.getElem?_eq_some_iff.mp hk'; simpa using h1
      have hk3 : k < 3 := by have := List.mem_of_getElem? hk'; simpa using this
      have hget : (dN [x, y, z])[at_ (k : Int) (dN [x, y, z]).length]? = some (.int (cs.getD k 0 : Nat)) := by
        rw [at_nat]
        match k, hk3 with
        | 0, _ => rfl
        | 1, _ => rfl
        | 2, _ => rfl
      have hl := hml k
      refine X.cons (X1.if (q := decide ((cs.getD k 0 : Int) > 0)) (Ts.cmp (Ev.itemL (k := k) nm nm Li.lst hget (by omega)) Ev.cint Cm.gt) (fun h => ?_) fun h => X.nil (X.nil ?_))
      · have hpos : 0 < cs.getD k 0 := by simpa using h
        have hmk : more k = (ordG n (cs.set k (cs.getD k 0 - 1))).map (k :: ·) := if_pos hpos
        have hfew : slc none (some (k : Int)) (dN [x, y, z]) ++ [D.int ((cs.getD k 0 : Int) - 1)] ++ slc (some ((k : Int) + 1)) none (dN [x, y, z]) = dN (cs.set k (cs.getD k 0 - 1)) := by
          match k, hk3 with
          | 0, _ => show [D.int ((x : Int) - 1), D.int y, D.int z] = [D.int ((x - 1 : Nat) : Int), D.int y, D.int z]; rw [show ((x - 1 : Nat) : Int) = (x : Int) - 1 by simp [cs] at hpos; omega]
          | 1, _ => show [D.int x, D.int ((y : Int) - 1), D.int z] = [D.int x, D.int ((y - 1 : Nat) : Int), D.int z]; rw [show ((y - 1 : Nat) : Int) = (y : Int) - 1 by simp [cs] at hpos; omega]
          | 2, _ => show [D.int x, D.int y, D.int ((z : Int) - 1)] = [D.int x, D.int y, D.int ((z - 1 : Nat) : Int)]; rw [show ((z - 1 : Nat) : Int) = (z : Int) - 1 by simp [cs] at hpos; omega]
        have hrec : FnJ prog w h0 (n + 1) ad [.lst (dN (cs.set k (cs.getD k 0 - 1)))] (.lst ((ordG n (cs.set k (cs.getD k 0 - 1))).map dO)) := by
          match k, hk3 with
          | 0, _ => exact ih (x - 1) y z (by simp [cs] at hpos; omega) (by omega)
          | 1, _ => exact ih x (y - 1) z (by simp [cs] at hpos; omega) (by omega)
          | 2, _ => exact ih x y (z - 1) (by simp [cs] at hpos; omega) (by omega)
        have z1 : (slc none (some (k : Int)) (dN [x, y, z])).length + [D.int ((cs.getD k 0 : Int) - 1)].length ≤ 1000000 := by
          have L1 : (slc none (some (k : Int)) (dN [x, y, z])).length ≤ 3 := slc_len none (some (k : Int)) (dN [x, y, z])
          simp only [List.length_cons, List.length_nil]; omega
        have z2 : (slc none (some (k : Int)) (dN [x, y, z]) ++ [D.int ((cs.getD k 0 : Int) - 1)]).length + (slc (some ((k : Int) + 1)) none (dN [x, y, z])).length ≤ 1000000 := by
          have L2 : (slc (some ((k : Int) + 1)) none (dN [x, y, z])).length ≤ 3 := slc_len (some ((k : Int) + 1)) none (dN [x, y, z])
          have L1 : (slc none (some (k : Int)) (dN [x, y, z])).length ≤ 3 := slc_len none (some (k : Int)) (dN [x, y, z])
          rw [List.length_append, List.length_singleton]; omega
        refine X.cons (X1.as (d := .lst (dN (cs.set k (cs.getD k 0 - 1)))) (hfew ▸ Ev.bin (Ev.bin (Ev.sliceL nm Li.lst Pa.no (Pa.so nm)) (Ev.dlist (A1 (Ev.bin (Ev.itemL (k := k) nm nm Li.lst hget (by omega)) Ev.cint Bi.sub)) (by simp)) (Bi.addL Li.lst Li.lst z1)) (Ev.sliceL nm Li.lst (Pa.so (Ev.bin nm Ev.cint Bi.add)) Pa.no) (Bi.addL Li.lst Li.lst z2)) ?_)
        have hd : (more k).map dO = (ordG n (cs.set k (cs.getD k 0 - 1))).flatMap fun o => if true = true then [dO (k :: o)] else [] := by
          rw [hmk, List.map_map]
          generalize ordG n (cs.set k (cs.getD k 0 - 1)) = l
          induction l with
          | nil => rfl
          | cons o l ih => rw [List.map_cons, List.flatMap_cons, ih]; rfl
        refine X.cons (X1.augOwn (x := "orders") (a := a) (items := b.map dO) (d := .lst ((more k).map dO)) (by rfl) (by exact lk_self) (Ev.comp ?_ (by rw [List.length_map]; omega)) Li.lst (by rw [List.length_map, List.length_map]; omega) (.inl (by trivial)) ?_)
        · rw [hd]
          refine Comp.one (xs := ordG n (cs.set k (cs.getD k 0 - 1))) dO (fun _ => true) (fun o => dO (k :: o)) (σ₀ := [("kind", .int k)]) (Ite.of (Ev.cf W Da hrec (A1 nm)) It.lst) hce (CapOk.of ["kind"] hc (Sub.cons rfl Sub.nil)) (by decide +kernel) (by decide) rfl ?_
            (fun c' o hin ho => If.no) (fun c' o hin ho _ => ?_) (by intro _; rfl)
          · rw [← hd, List.length_map]; omega
          · refine Ev.bin (x := .lst [.int k]) (y := .lst (dN o)) (Ev.dlist (A1 nm) (by simp)) nm (Bi.addL Li.lst Li.lst ?_)
            have := ordG_mem n _ o ho
            simp; omega
        rw [setM_self]
        refine X.nil (X.nil ⟨Sub.cons rfl (Sub.cons rfl Sub.nil), ?_, ?_⟩)
        · show [(a, b.map dO ++ (more k).map dO)] = [(a, (b ++ more k).map dO)]; rw [List.map_append]
        · show (b ++ more k).length ≤ 27 * (i + 1); rw [List.length_append]; omega
      · have hmk : more k = [] := if_neg (by simpa using h)
        refine ⟨Sub.cons rfl (Sub.cons rfl Sub.nil), ?_, ?_⟩
        · show [(a, b.map dO)] = [(a, (b ++ more k).map dO)]; rw [hmk, List.append_nil]
        · show (b ++ more k).length ≤ 27 * (i + 1); rw [List.length_append]; omega
    · intro σ' hs hb
      rw [foldl_cat] at *
      exact X.cons (X1.ret (nm (hs _ _ rfl)) ⟨_, _, rfl, .mut (.head _) (.refl _ _)⟩)
end
end Mine
end
section
open PySem PySem.Calls PySem.W PyProof.Rows
open PySem.Builtin PySem.Builtin.Str
set_option maxRecDepth 100000
namespace Mine
local macro_rules | `(tactic| trivial) => `(tactic| exact kd ‹_› (by decide +kernel))
def signW (piece : List Nat) : List Nat := if decide ((piece.length : Int) > 2) = true then slc (some (-2)) (some (-1)) piece else slc (some (-1)) none piece
def signL (piece : List Nat) : List Nat :=
  if [lit "\\" ++ signW piece, lit "[" ++ signW piece ++ lit "]", lit "[\\" ++ signW piece ++ lit "]"].contains piece = true then signW piece
  else if (piece == signW piece && (!Mine.inS (signW piece) (lit ".^$*+?{}[]\\|()") && true)) = true then signW piece else []
theorem signW_len (p : List Nat) : (signW p).length ≤ p.length := by unfold signW; split <;> exact slc_len _ _ _
section
variable {prog : Program} {w : World} {h0 : Heap} {c : Cx} {σ : St} {μ : Mu} {Φ : AF → Prop} {mg mb : Str → Option Value}
theorem sign_ok (W : Wd prog w h0 mg mb) {a : Addr} (Da : DefAt h0 mg 37 a) {p : List Nat} (hp : p.length ≤ 1000) : FnJ prog w h0 1 a [.str p] (.str (signL p)) :=
  fn_of (names := ["piece"]) W.nolimit Da (by rfl) (by rfl) (by rfl) (fun pm code doc => Bind.pos1 fun v => rfl) (by decide +kernel) (by decide) (by decide) fun c hc hk hce => by
  have L := signW_len p
  refine X.cons (X1.as (d := .str (signW p)) (Ev.ife (q := decide ((p.length : Int) > 2)) (Ts.cmp (Ev.cb W Ca.lenS (A1 nm)) Ev.cint Cm.gt) (fun h => ?_) fun h => ?_) ?_)
  · unfold signW; rw [if_pos h]; exact Ev.sliceS nm (Pa.so (Ev.neg Ev.cint)) (Pa.so (Ev.neg Ev.cint))
  · unfold signW; rw [if_neg (by rw [h]; decide)]; exact Ev.sliceS nm (Pa.so (Ev.neg Ev.cint)) Pa.no
  have zl : ∀ x : String, (lit x).length ≤ 20 → (lit x).length + (signW p).length ≤ 1000000 := fun x h => by omega
  refine X.cons (X1.if (q := [lit "\\" ++ signW p, lit "[" ++ signW p ++ lit "]", lit "[\\" ++ signW p ++ lit "]"].contains p)
    (Ts.cmp nm (Ev.dtuple (ds := dS [lit "\\" ++ signW p, lit "[" ++ signW p ++ lit "]", lit "[\\" ++ signW p ++ lit "]"]) (A3 (Ev.bin cs nm (Bi.addS (zl _ (by decide)))) (Ev.bin (Ev.bin cs nm (Bi.addS (zl _ (by decide)))) cs (Bi.addS ?_)) (Ev.bin (Ev.bin cs nm (Bi.addS (zl _ (by decide)))) cs (Bi.addS ?_))) (by simp)) Cm.inT) (fun h => ?_) fun h => X.nil ?_)
  · rw [List.length_append]; have := zl "[" (by decide); have : (lit "[").length = 1 := by decide
    have : (lit "]").length = 1 := by decide
    omega
  · rw [List.length_append]; have : (lit "[\\").length = 2 := by decide
    have : (lit "]").length = 1 := by decide
    omega
  · refine X.cons (X1.ret nm ⟨_, _, rfl, ?_⟩)
    unfold signL; rw [if_pos h]; exact .refl _
  · refine X.cons (X1.ret (d := .str (signL p)) (Ev.ife (q := (p == signW p && (!Mine.inS (signW p) (lit ".^$*+?{}[]\\|()") && true))) (Ts.and (Ts.cmp nm nm Cm.eqS) fun _ => Ts.and (Ts.cmp nm cs Cm.ninS) fun _ => Ts.andN) (fun h' => ?_) fun h' => ?_) ⟨_, _, rfl, .refl _⟩)
    · unfold signL; rw [if_neg (by rw [h]; decide), if_pos h']; exact nm
    · unfold signL; rw [if_neg (by rw [h]; decide), if_neg (by rw [h']; decide)]; exact lit_e ▸ cs
end
end Mine
end
section
open PySem PySem.Calls PySem.W PyProof.Rows
open PySem.Builtin PySem.Builtin.Str
set_option maxRecDepth 100000
namespace Mine
local macro_rules | `(tactic| trivial) => `(tactic| exact kd ‹_› (by decide +kernel))
abbrev kindI (cell : Int) : Int := Max.max (cell.fmod 4 - 1) 0
def kN (cell : Int) : Nat := (kindI cell).toNat
def jN (cell : Int) : Nat := ((cell.fdiv 4).fmod 5).toNat
def textL (s1 s2 : Nat) (k : Nat) : List Nat := [dd, [s1], [s2]].getD k []
def spellA (s1 : Nat) (t : List Nat) : List (List Nat) := [t, lit "./" ++ t, t ++ lit "/.", t ++ lit "//", [s1] ++ lit "/../" ++ t]
def spellL (s1 s2 : Nat) (cell : Int) : List Nat := (spellA s1 (textL s1 s2 (kN cell))).getD (jN cell) []
abbrev St3 := List (List Nat) × List (List Nat) × List (List Nat)
def put (p : St3) (k : Nat) (x : List Nat) : St3 := match k with
  | 0 => (p.1 ++ [x], p.2.1, p.2.2)
  | 1 => (p.1, p.2.1 ++ [x], p.2.2)
  | _ => (p.1, p.2.1, p.2.2 ++ [x])
def steps1 (s1 s2 : Nat) (p : St3) (cell : Int) : St3 := put p (kN cell) (spellL s1 s2 cell)
def stepsL (cells : List Int) (s1 s2 : Nat) : List (List (List Nat)) := let p := cells.foldl (steps1 s1 s2) ([], [], []); [p.1, p.2.1, p.2.2]
theorem kind_lt (cell : Int) : kindI cell = (kN cell : Int) ∧ kN cell < 3 := by
  have h1 := Int.fmod_nonneg_of_pos cell (b := 4) (by decide)
  have h2 := Int.fmod_lt_of_pos cell (b := 4) (by decide)
  unfold kN kindI; omega
theorem j_lt (cell : Int) : (cell.fdiv 4).fmod 5 = (jN cell : Int) ∧ jN cell < 5 := by
  have h1 := Int.fmod_nonneg_of_pos (cell.fdiv 4) (b := 5) (by decide)
  have h2 := Int.fmod_lt_of_pos (cell.fdiv 4) (b := 5) (by decide)
  unfold jN; omega
theorem textL_len (s1 s2 k : Nat) : (textL s1 s2 k).length ≤ 2 := by
  unfold textL
  match k with
  | 0 => simp
  | 1 => simp
  | 2 => simp
  | k + 3 => simp
theorem lk_at {a : Addr} {ds : List D} {μ : Mu} (h : (a, ds) ∈ μ) (nd : (μ.map Prod.fst).Nodup) : μ.lookup a = some ds := by
  induction μ with
  | nil => cases h
  | cons p r ih =>
    rw [List.map_cons, List.nodup_cons] at nd
    obtain ⟨b, e⟩ := p
    rw [List.lookup_cons]
    rcases List.mem_cons.mp h with q | q
    · cases q; simp
    · have : a ≠ b := fun q' => nd.1 (List.mem_map.mpr ⟨_, q, q'⟩)
      rw [beq_false_of_ne this]; exact ih q nd.2
section
variable {prog : Program} {w : World} {h0 : Heap} {c : Cx} {σ : St} {μ : Mu} {Φ : AF → Prop} {mg mb : Str → Option Value}
theorem steps_ok (W : Wd prog w h0 mg mb) {ad : Addr} (Da : DefAt h0 mg 32 ad) {cells : List Int} {s1 s2 : Nat} (hz : cells.length ≤ 1000) :
    FnJ prog w h0 1 ad [.lst (cells.map D.int), .lst (dS [[s1], [s2]])] (.lst ((stepsL cells s1 s2).map fun s => .lst (dS s))) :=
  fn_of (names := ["cells", "signs"]) W.nolimit Da (by rfl) (by rfl) (by rfl) (fun pm code doc => Bind.pos2 fun u v => rfl) (by decide +kernel) (by decide) (by decide) fun c hc hk hce => by
  refine X.cons (X1.ownP Pr.lists3 (.inl (by trivial)) ?_ (by decide))
  rintro d μ' ⟨a0, a1, a2, a3, rfl, rfl, nd⟩
  rw [List.map_nil, List.append_nil] at nd
  have n01 : a1 ≠ a0 := fun q => by subst q; simp at nd
  have n02 : a2 ≠ a0 := fun q => by subst q; simp at nd
  have n03 : a3 ≠ a0 := fun q => by subst q; simp at nd
  have n13 : a1 ≠ a3 := fun q => by subst q; simp at nd
  have n12 : a1 ≠ a2 := fun q => by subst q; simp at nd
  have n23 : a2 ≠ a3 := fun q => by subst q; simp at nd
  refine X.cons (X1.forF cells D.int (fun _ => [("steps", .mut a0), ("signs", .lst (dS [[s1], [s2]]))]) (fun p : St3 => [(a0, [.mut a1, .mut a2, .mut a3]), (a3, dS p.2.2), (a2, dS p.2.1), (a1, dS p.1)]) (steps1 s1 s2)
    (fun i p => p.1.length ≤ i ∧ p.2.1.length ≤ i ∧ p.2.2.length ≤ i) ([], [], []) (Ite.of nm It.lst) (Sub.cons rfl (Sub.cons rfl Sub.nil)) rfl (by simp) ?_ ?_)
  · rintro i ⟨x, y, z⟩ cell hic ⟨h1, h2, h3⟩
    dsimp only at h1 h2 h3
    have hi := (List.getElem?_eq_some_iff.mp hic).1
    obtain ⟨ek, hk3⟩ := kind_lt cell
    obtain ⟨ej, hj5⟩ := j_lt cell
    refine X.cons (X1.as (d := .int (kindI cell)) (Ev.cb W Ca.max (A2 (Ev.bin (Ev.bin nm Ev.cint (Bi.fmod (by decide))) Ev.cint Bi.sub) Ev.cint)) ?_)
    rw [ek]
    have htx : ([.str dd] ++ dS [[s1], [s2]] : List D)[at_ (kN cell : Int) ([.str dd] ++ dS [[s1], [s2]] : List D).length]? = some (.str (textL s1 s2 (kN cell))) := by
      rw [at_nat]; unfold textL
      generalize kN cell = k at hk3
      match k, hk3 with
      | 0, _ => rfl
      | 1, _ => rfl
      | 2, _ => rfl
    refine X.cons (X1.as (Ev.itemL (k := kN cell) (Ev.bin (x := .lst [.str dd]) (Ev.dlist (A1 (lit_dd ▸ cs)) (by simp)) nm (Bi.addL Li.lst Li.lst (by simp))) nm Li.lst htx (by omega)) ?_)
    have ht := textL_len s1 s2 (kN cell)
    generalize hT : textL s1 s2 (kN cell) = t at *
    have hsp : (dS (spellA s1 t))[at_ (jN cell : Int) (dS (spellA s1 t)).length]? = some (.str (spellL s1 s2 cell)) := by
      rw [at_nat]; unfold spellL; rw [hT]
      generalize jN cell = j at hj5
      match j, hj5 with
      | 0, _ => rfl
      | 1, _ => rfl
      | 2, _ => rfl
      | 3, _ => rfl
      | 4, _ => rfl
    have zt : ∀ s : String, (lit s).length ≤ 20 → (lit s).length + t.length ≤ 1000000 := fun s h => by omega
    have zt' : ∀ s : String, (lit s).length ≤ 20 → t.length + (lit s).length ≤ 1000000 := fun s h => by omega
    have z5 : ([s1] ++ lit "/../").length + t.length ≤ 1000000 := by
      have : (lit "/../").length = 4 := by decide
      simp; omega
    have z6 : [s1].length + (lit "/../").length ≤ 1000000 := by
      have : (lit "/../").length = 4 := by decide
      simp; omega
    have hsg : (dS [[s1], [s2]])[at_ (0 : Int) (dS [[s1], [s2]]).length]? = some (.str [s1]) := rfl
    have hm : ∃ ak sk, ([.mut a1, .mut a2, .mut a3] : List D)[kN cell]? = some (.mut ak) ∧ ([(a0, [.mut a1, .mut a2, .mut a3]), (a3, dS z), (a2, dS y), (a1, dS x)] : Mu).lookup ak = some (dS sk) ∧ sk.length ≤ i ∧
        ∀ v, setM [(a0, [.mut a1, .mut a2, .mut a3]), (a3, dS z), (a2, dS y), (a1, dS x)] ak (dS (sk ++ [v])) = (fun p : St3 => [(a0, [.mut a1, .mut a2, .mut a3]), (a3, dS p.2.2), (a2, dS p.2.1), (a1, dS p.1)]) (put (x, y, z) (kN cell) v) := by
      clear hsp htx hT
      generalize kN cell = k at hk3
      match k, hk3 with
      | 0, _ => exact ⟨a1, x, rfl, lk_at (by simp) (by simpa using nd), h1, fun v => by simp [setM, n01, n13, n12, Ne.symm n01, Ne.symm n13, Ne.symm n12, put]⟩
      | 1, _ => exact ⟨a2, y, rfl, lk_at (by simp) (by simpa using nd), h2, fun v => by simp [setM, n02, n23, n12, Ne.symm n02, Ne.symm n23, Ne.symm n12, put]⟩
      | 2, _ => exact ⟨a3, z, rfl, lk_at (by simp) (by simpa using nd), h3, fun v => by simp [setM, n03, Ne.symm n03, put]⟩
    obtain ⟨ak, sk, m1, m2, m3, m4⟩ := hm
    refine X.cons (X1.methO (a := ak) (items := dS sk) (ds := [.str (spellL s1 s2 cell)]) (Ev.itemL (k := kN cell) nm nm (Li.mut (by exact lk_self)) (by rw [at_nat]; exact m1) (by omega)) m2 PySem.F.slot_list_append PySem.F.type_list_append (A1 ?_) (Mu.append (by rw [List.length_map]; omega)) ?_)
    · exact Ev.itemL (k := jN cell) (Ev.dlist (ds := dS (spellA s1 t)) (AJ.cons nm (AJ.cons (Ev.bin cs nm (Bi.addS (zt _ (by decide)))) (AJ.cons (Ev.bin nm cs (Bi.addS (zt' _ (by decide)))) (AJ.cons (Ev.bin nm cs (Bi.addS (zt' _ (by decide)))) (AJ.cons (Ev.bin (Ev.bin (Ev.itemL (k := 0) nm Ev.cint Li.lst hsg (by simp)) cs (Bi.addS z6)) nm (Bi.addS z5)) AJ.nil))))) (by simp [spellA]))
        (ej ▸ Ev.bin (Ev.bin nm Ev.cint (Bi.fdiv (by decide) (PyProof.noPylong_of_log2 (by decide)))) Ev.cint (Bi.fmod (by decide))) Li.lst hsp (by omega)
    · refine X.nil ⟨Sub.cons rfl (Sub.cons rfl Sub.nil), ?_, ?_⟩
      · show setM [(a0, [.mut a1, .mut a2, .mut a3]), (a3, dS z), (a2, dS y), (a1, dS x)] ak (dS sk ++ [.str (spellL s1 s2 cell)]) = _
        rw [show dS sk ++ [D.str (spellL s1 s2 cell)] = dS (sk ++ [spellL s1 s2 cell]) by simp [dS]]; exact m4 _
      show (put (x, y, z) (kN cell) (spellL s1 s2 cell)).1.length ≤ i + 1 ∧ (put (x, y, z) (kN cell) (spellL s1 s2 cell)).2.1.length ≤ i + 1 ∧ (put (x, y, z) (kN cell) (spellL s1 s2 cell)).2.2.length ≤ i + 1
      generalize kN cell = k
      match k with
      | 0 => simp [put]; omega
      | 1 => simp [put]; omega
      | k + 2 => simp [put]; omega
  · intro σ' hs hp
    refine X.cons (X1.ret (nm (hs _ _ rfl)) ⟨_, _, rfl, .mut (.head _) (.cons (.mut (ds := dS ((cells.foldl (steps1 s1 s2) ([], [], [])).1)) ?_ (.refl _ _)) (.cons (.mut (ds := dS ((cells.foldl (steps1 s1 s2) ([], [], [])).2.1)) ?_ (.refl _ _)) (.cons (.mut (ds := dS ((cells.foldl (steps1 s1 s2) ([], [], [])).2.2)) ?_ (.refl _ _)) .nil)))⟩)
    all_goals simp
end
end Mine
end
section
open PySem PySem.Calls PySem.W PyProof.Rows
open PySem.Builtin PySem.Builtin.Str
set_option maxRecDepth 100000
namespace Mine
section
variable {prog : Program} {w : World} {h0 : Heap} {c : Cx} {σ : St} {μ : Mu} {Φ : AF → Prop} {mg mb : Str → Option Value}
theorem Cm.isnotSA {l : List Nat} {a : Addr} : CmpJ prog w h0 c σ μ .IsNot (.str l) (.adr a) true := fun s x y P rx ry => by
  obtain ⟨z, t, rfl⟩ := unS rx
  rw [Rep] at ry; subst ry
  exact wpAny_isNot_other rfl (by intro q; cases q) ⟨kp_rfl, rfl⟩
theorem Cm.isnotAA {a : Addr} : CmpJ prog w h0 c σ μ .IsNot (.adr a) (.adr a) false := fun s x y P rx ry => by
  rw [Rep] at rx ry; subst rx; subst ry
  exact wpAny_isNot_ref_self ⟨kp_rfl, rfl⟩
theorem Cm.isAA {a : Addr} : CmpJ prog w h0 c σ μ .Is (.adr a) (.adr a) true := fun s x y P rx ry => by
  rw [Rep] at rx ry; subst rx; subst ry
  exact wpAny_is_ref_self ⟨kp_rfl, rfl⟩
theorem Ev.fv {value : Expr} {pos : Pos} {l : List Nat} (h : EvJ prog w h0 c σ μ value (.str l)) : EvJ prog w h0 c σ μ (.FormattedValue value (-1) none pos) (.str l) := fun s P =>
  wpAny_FormattedValue_plain (h.run P fun v s₁ k₁ P₁ r => by
    obtain ⟨z, t, rfl⟩ := unS r
    exact SB.field_str (fun t' k => ⟨kp_trans k₁ kp_toks, repS z⟩) (by rw [mkS_len, sizeLine_eq]; omega))
theorem Ev.f3 {a b d : Expr} {pos : Pos} {x y z : List Nat} (ha : EvJ prog w h0 c σ μ a (.str x)) (hb : EvJ prog w h0 c σ μ b (.str y)) (hd : EvJ prog w h0 c σ μ d (.str z)) (hz : x.length + y.length + z.length ≤ 1000000)
    (he : evalEach [a, b, d] c.env = [eval a c.env, eval b c.env, eval d c.env] := by rfl) : EvJ prog w h0 c σ μ (.JoinedStr [a, b, d] pos) (.str (x ++ y ++ z)) := fun s P => by
  refine wpAny_JoinedStr ?_
  rw [he]
  refine ha.run P fun v s₁ k₁ P₁ r => ?_
  obtain ⟨z1, t, rfl⟩ := unS r
  refine ⟨_, _, rfl, by simp [Str.length, Str.cps_append, Str.empty, sizeLine_eq]; omega, hb.run P₁ fun v s₂ k₂ P₂ r => ?_⟩
  obtain ⟨z2, t, rfl⟩ := unS r
  refine ⟨_, _, rfl, by simp [Str.length, Str.cps_append, Str.empty, sizeLine_eq]; omega, hd.run P₂ fun v s₃ k₃ P₃ r => ?_⟩
  obtain ⟨z3, t, rfl⟩ := unS r
  refine ⟨_, _, rfl, by simp [Str.length, Str.cps_append, Str.empty, sizeLine_eq]; omega, ?_⟩
  exact ⟨by simp [Str.length, Str.cps_append, Str.empty, sizeLine_eq]; omega, kp_trans k₁ (kp_trans k₂ (kp_trans k₃ kp_toks)), repSX (by simp; omega) (by simp [Str.cps_append, Str.empty])⟩
theorem Ca.repl0 {l y z : List Nat} (h : (occurrences (mkS l) (mkS y) 0 (mkS l).length ((mkS l).length + 1)).isEmpty = true) : CaJ prog w h0 c σ μ (.builtin "str.replace") [.str l, .str y, .str z] (.str l) := fun s vs P r => by
  obtain ⟨v, u, x, rfl, rv, ru, rx⟩ := unL3 r
  obtain ⟨zl, t, rfl⟩ := unS rv; obtain ⟨_, t', rfl⟩ := unS ru; obtain ⟨_, t'', rfl⟩ := unS rx
  refine call_gives PySem.F.slot_str_replace (typeIs_str _ _ _) PySem.F.entry_str_replace (PySem.F.args_str_replace_3 _ _ _)
    (gives_str_replace (mkS l) (mkS y) (mkS z) t t' t'' fun q => by rw [h] at q; cases q) ?_
  rw [h]
  simp only [Bool.true_or, if_true]
  exact ⟨kp_rfl, repS zl⟩
/-- `object()` -/
theorem Pr.obj (W : Wd prog w h0 mg mb) {p pos : Pos} (hk : c.env.kindOf (Str.ofString "object") = some .globalImplicit) : PrJ prog w h0 c σ μ (.Call (.Name (Str.ofString "object") p) [] [] pos) (fun d μ' => ∃ a, d = .adr a ∧ μ' = μ) := fun s S => by
  refine wpAny_Call_NameR ((W.nm hk : GlJ prog w h0 c σ μ (Str.ofString "object") (.type "object")) p s S.p _ ?_)
  show wpAny _ _ (callWith pos (.type "object") [] [] []) _ _ _
  refine callWith_val (.inr ⟨_, rfl⟩) rfl (evalArgs_gen rfl (spliced_nil ?_))
  refine call_object ⟨.adr s.heap.objs.size, μ, ⟨_, rfl, rfl⟩, S.keeps kp_push', Pres.keeps kp_push', by rw [Rep]⟩
end
end Mine
end
section
open PySem PySem.Calls PySem.W PyProof.Rows
open PySem.Builtin PySem.Builtin.Str
set_option maxRecDepth 100000
set_option maxHeartbeats 2000000
namespace Mine
local macro_rules | `(tactic| trivial) => `(tactic| exact kd ‹_› (by decide +kernel))
section
variable {prog : Program} {w : World} {h0 : Heap} {c : Cx} {σ : St} {μ : Mu} {Φ : AF → Prop} {mg mb : Str → Option Value}
theorem avs_more {av : Av} {p : Addr × List D} {b : Addr} (h : avs av μ b) : avs av (p :: μ) b := by
  rcases h with h | ⟨q, hq, e⟩
  · exact .inl h
  · exact .inr ⟨q, .tail _ hq, e⟩
theorem SSt.forget {s : Shared} {p : Addr × List D} (S : SSt h0 c σ (p :: μ) s) : SSt h0 c σ μ s := by
  refine ⟨⟨S.p.ok, S.p.base, fun x d e => ?_, fun q hq => ?_, fun b hb => S.p.live b (avs_more hb), S.p.tab⟩, S.base0, S.frame, S.avL, S.avC, S.cells, fun q hq => S.fresh q (.tail _ hq), ?_, fun q hq => S.notin q (.tail _ hq)⟩
  · obtain ⟨z, v, b, r⟩ := S.p.vars x d e
    exact ⟨z, v, b, r.mono (fun _ _ _ e => e) fun b y => .inl (avs_more y)⟩
  · obtain ⟨z, vs, hp, r⟩ := S.p.own q (.tail _ hq)
    exact ⟨z, vs, hp, r.mono (fun _ _ _ e => e) fun b y => .inl (avs_more y)⟩
  · have := S.nodup; rw [List.map_cons, List.nodup_cons] at this; exact this.2
theorem X.forget {p : Addr × List D} {ss : List Stmt} (h : XJ prog w h0 c σ μ ss Φ) : XJ prog w h0 c σ (p :: μ) ss Φ := fun s S => wm (h s S.forget) fun fl s' x => by
  obtain ⟨af, a, f, pr⟩ := x
  exact ⟨af, a, f, ⟨fun b o n e => pr.keep b o (fun q => n (avs_more q)) e, fun q hq => (pr.new q hq).imp (fun ⟨r, hr, e⟩ => ⟨r, .tail _ hr, e⟩) id, pr.ex⟩⟩
end
def prs (sa : Addr) (ns : List (List Nat)) : List D := (ns.flatMap fun n => [D.adr sa, D.str n]) ++ [D.adr sa]
def parts (sa : Addr) (pre ns : List (List Nat)) : List D := dS pre ++ prs sa ns
theorem prs_len (sa : Addr) : ∀ ns, (prs sa ns).length = 2 * ns.length + 1
  | [] => rfl
  | n :: ns => by have := prs_len sa ns; unfold prs at this ⊢; rw [List.flatMap_cons, List.append_assoc, List.length_append, this]; simp; omega
theorem prs_even (sa : Addr) : ∀ (ns : List (List Nat)) (j : Nat), j ≤ ns.length → (prs sa ns)[2 * j]? = some (.adr sa)
  | [], 0, _ => rfl
  | n :: ns, 0, _ => rfl
  | n :: ns, j + 1, h => prs_even sa ns j (by simpa using h)
theorem prs_odd (sa : Addr) : ∀ (ns : List (List Nat)) (j : Nat) (x : List Nat), ns[j]? = some x → (prs sa ns)[2 * j + 1]? = some (.str x)
  | [], _, _, h => by simp at h
  | n :: ns, 0, x, h => by simp at h; subst h; rfl
  | n :: ns, j + 1, x, h => prs_odd sa ns j x (by simpa using h)
theorem parts_len (sa : Addr) (pre ns) : (parts sa pre ns).length = pre.length + 2 * ns.length + 1 := by unfold parts; rw [List.length_append, prs_len]; simp; omega
theorem parts_pre {sa : Addr} {pre ns : List (List Nat)} {i : Nat} {x : List Nat} (h : pre[i]? = some x) : (parts sa pre ns)[i]? = some (.str x) := by
  obtain ⟨hi, e⟩ := List.getElem?_eq_some_iff.mp h
  unfold parts; rw [List.getElem?_append_left (by simpa using hi), List.getElem?_map, h]; rfl
theorem parts_even {sa : Addr} {pre ns : List (List Nat)} {j : Nat} (h : j ≤ ns.length) : (parts sa pre ns)[pre.length + 2 * j]? = some (.adr sa) := by
  unfold parts; rw [List.getElem?_append_right (by simp)]; simpa using prs_even sa ns j h
theorem parts_odd {sa : Addr} {pre ns : List (List Nat)} {j : Nat} {x : List Nat} (h : ns[j]? = some x) : (parts sa pre ns)[pre.length + 2 * j + 1]? = some (.str x) := by
  unfold parts; rw [List.getElem?_append_right (by simp; omega)]
  have := prs_odd sa ns j x h
  rw [show pre.length + 2 * j + 1 - (dS pre).length = 2 * j + 1 by simp; omega]; exact this
def segL (n : List Nat) : List Nat := lit "(?>.*?" ++ n ++ lit ")"
def jparts (pre ns : List (List Nat)) : List (List Nat) := pre ++ ns.map segL ++ [lit ".*"]
def jtp (pre ns : List (List Nat)) : List Nat := lit "(?s:" ++ joinS [] (jparts pre ns) ++ lit ")\\Z"
theorem sum_le {l : List (List Nat)} {B : Nat} (h : ∀ x ∈ l, x.length ≤ B) : (l.map List.length).sum ≤ l.length * B := by
  induction l with
  | nil => simp
  | cons x l ih =>
    have := h x (.head _)
    have := ih fun y hy => h y (.tail _ hy)
    simp only [List.map_cons, List.sum_cons, List.length_cons, Nat.add_mul]; omega
theorem len_seg : (lit "(?>.*?").length = 6 ∧ (lit ")").length = 1 ∧ (lit ".*").length = 2 ∧ (lit "(?s:").length = 4 ∧ (lit ")\\Z").length = 3 := by decide
section
variable {prog : Program} {w : World} {h0 : Heap} {c : Cx} {σ : St} {μ : Mu} {Φ : AF → Prop} {mg mb : Str → Option Value}
theorem TsJ.cast {e : Expr} {b b' : Bool} (h : TsJ prog w h0 c σ μ e b) (q : b = b') : TsJ prog w h0 c σ μ e b' := q ▸ h
theorem eval_attr {x name : Str} {p pos : Pos} {Q : Value → Shared → Prop} {s : Shared} (h : wpAny (model prog w) c.A (eval (.Name x p) c.env) (fun v s₁ => wpAny (model prog w) c.A (getAttr v name true) Q NoE s₁) NoE s) : wpAny (model prog w) c.A (eval (.Attribute (.Name x p) name pos) c.env) Q NoE s := by
  rw [arm_eval_Attribute]
  exact wpAny_bind (wm (show wpAny _ _ (eval (.Name x p) c.env) _ _ _ from h) fun v s₁ h₁ => wpAny_bind (wpAny_standAt (wpAny_bind (wpAny_holding (wm h₁ fun r s₂ h₂ => wpAny_bind (wpAny_pure (wpAny_pure h₂)))))))
theorem jtp_ok (W : Wd prog w h0 mg mb) {ad : Addr} (Da : DefAt h0 mg 26 ad) {sa : Addr} {pre ns : List (List Nat)} (hp : pre.length ≤ 100) (hn : ns.length ≤ 100) (hpl : ∀ x ∈ pre, x.length ≤ 100) (hnl : ∀ x ∈ ns, x.length ≤ 100) :
    FnJ prog w h0 1 ad [.lst (parts sa pre ns), .adr sa] (.str (jtp pre ns)) :=
  fn_of (names := ["inp", "STAR"]) W.nolimit Da (by rfl) (by rfl) (by rfl) (fun pm code doc => Bind.pos2 fun u v => rfl) (by decide +kernel) (by decide) (by decide) fun c hc hk hce => by
  have L := parts_len sa pre ns
  obtain ⟨l1, l2, l3, l4, l5⟩ := len_seg
  refine X.cons (X1.own (ds := []) (Fr.list AJ.nil (by simp)) (.inl (by trivial)) fun a ha => ?_)
  refine X.cons (X1.as (d := .bnd a) (Ev.bapp (a := a) nm lk_self (fun _ _ h => eval_attr h)) ?_)
  refine X.cons (X1.swap2 (Pr.ev (d := .int 0) Ev.cint) (fun d1 μ1 hh => Pr.ev (d := .int (pre.length + 2 * ns.length + 1 : Nat)) (by obtain ⟨rfl, rfl⟩ := hh; exact L ▸ Ev.cb W (Ca.lenL Li.lst) (A1 nm))) (by trivial) (by trivial) (by decide) (by decide) (swap_names (by rw [hc]; rfl) (by trivial) (by trivial)) ?_)
  rintro d1 μ1 d2 μ2 ⟨rfl, rfl⟩ ⟨rfl, rfl⟩
  let N : Nat := pre.length + 2 * ns.length + 1
  let S : Nat → St := fun i => [("i", .int i), ("n", .int N), ("inp", .lst (parts sa pre ns)), ("STAR", .adr sa), ("add", .bnd a), ("res", .mut a)]
  have subS : ∀ {σ : St} {i : Nat}, σ.lookup "i" = some (.int i) → σ.lookup "n" = some (.int N) → σ.lookup "inp" = some (.lst (parts sa pre ns)) → σ.lookup "STAR" = some (.adr sa) → σ.lookup "add" = some (.bnd a) → σ.lookup "res" = some (.mut a) → Sub σ (S i) :=
    fun h1 h2 h3 h4 h5 h6 => Sub.cons h1 (Sub.cons h2 (Sub.cons h3 (Sub.cons h4 (Sub.cons h5 (Sub.cons h6 Sub.nil)))))
  refine X.cons (X1.while (fun m σ μ => ∃ i, m = pre.length - i ∧ i ≤ pre.length ∧ Sub σ (S i) ∧ μ = [(a, dS (pre.take i))]) pre.length ⟨0, rfl, Nat.zero_le _, subS rfl rfl rfl rfl rfl rfl, rfl⟩ ?_)
  rintro m σ' μ' ⟨i, rfl, hi, hs, rfl⟩
  have ilt : ∀ i : Nat, i < N → decide ((i : Int) < (N : Int)) = true := fun i h => by simpa using h
  have leL : (parts sa pre ns).length = N := L
  rcases Nat.lt_or_ge i pre.length with hlt | hge
  · -- a text ahead
    obtain ⟨x, hx⟩ : ∃ x, pre[i]? = some x := ⟨_, List.getElem?_eq_getElem hlt⟩
    have hx' := parts_pre (sa := sa) (ns := ns) hx
    have hat : (parts sa pre ns)[at_ (i : Int) (parts sa pre ns).length]? = some (.str x) := by rw [at_nat]; exact hx'
    refine ⟨decide ((i : Int) < N) && (true && true), ?_, fun _ => ?_, fun h => ?_⟩
    · intro s SS
      exact (Ts.and (Ts.cmp (nm (hs _ _ rfl)) (nm (hs _ _ rfl)) Cm.lt) fun _ => Ts.and (Ts.cmp (Ev.itemL (k := i) (nm (hs _ _ rfl)) (nm (hs _ _ rfl)) Li.lst hat (by omega)) (nm (hs _ _ rfl)) Cm.isnotSA) fun _ => Ts.andN) s SS
    · refine X.sub ?_ hs
      refine X.cons (X1.add (a := a) rfl lk_self (Ev.itemL (k := i) nm nm Li.lst hat (by omega)) (by simp; omega) ?_)
      rw [setM_self]
      refine X.cons (X1.au (d := .int ((i : Int) + 1)) In.add Ev.cint ?_)
      refine X.nil ⟨pre.length - (i + 1), by omega, i + 1, rfl, hlt, subS rfl rfl rfl rfl rfl rfl, ?_⟩
      rw [List.take_add_one, hx]; simp
    · rw [ilt i (by show i < pre.length + 2 * ns.length + 1; omega)] at h; cases h
  · have hip : i = pre.length := by omega
    subst hip
    have e0 := parts_even (sa := sa) (pre := pre) (ns := ns) (j := 0) (Nat.zero_le _)
    have hat : (parts sa pre ns)[at_ (pre.length : Int) (parts sa pre ns).length]? = some (.adr sa) := by rw [at_nat]; simpa using e0
    refine ⟨decide ((pre.length : Int) < N) && (false && true), ?_, fun h => by simp at h, fun _ => ?_⟩
    · intro s SS
      exact (Ts.and (Ts.cmp (nm (hs _ _ rfl)) (nm (hs _ _ rfl)) Cm.lt) fun _ => Ts.and (Ts.cmp (Ev.itemL (k := pre.length) (nm (hs _ _ rfl)) (nm (hs _ _ rfl)) Li.lst hat (by omega)) (nm (hs _ _ rfl)) Cm.isnotAA) fun _ => Ts.andN) s SS
    rw [List.take_length]
    let acc : Nat → List (List Nat) := fun j => pre ++ (ns.take j).map segL
    let tot : List (List Nat) := jparts pre ns
    refine X.cons (X1.while (fun m σ μ => (∃ j, m = ns.length - j + 1 ∧ j ≤ ns.length ∧ Sub σ (S (pre.length + 2 * j)) ∧ μ = [(a, dS (acc j))])) (ns.length + 1) ⟨0, rfl, Nat.zero_le _, hs, by simp [acc]⟩ ?_)
    rintro m σ₂ μ₂ ⟨j, rfl, hj, hs₂, rfl⟩
    have hNj : pre.length + 2 * j < N := by show _ < pre.length + 2 * ns.length + 1; omega
    have ej := parts_even (sa := sa) (pre := pre) (ns := ns) (j := j) hj
    have hatj : (parts sa pre ns)[at_ ((pre.length + 2 * j : Nat) : Int) (parts sa pre ns).length]? = some (.adr sa) := by rw [at_nat]; exact ej
    refine ⟨decide (((pre.length + 2 * j : Nat) : Int) < (N : Int)), ?_, fun _ => ?_, fun h => ?_⟩
    · exact Ts.cmp (nm (hs₂ _ _ rfl)) (nm (hs₂ _ _ rfl)) Cm.lt
    · refine X.sub ?_ hs₂
      refine X.cons (X1.assert (Ts.cmp (Ev.itemL (k := (pre.length + 2 * j : Nat)) nm nm Li.lst hatj (by omega)) nm Cm.isAA) ?_)
      refine X.cons (X1.au (d := .int ((pre.length + 2 * j + 1 : Nat) : Int)) In.add Ev.cint ?_)
      refine X.cons (X1.if (q := ((pre.length + 2 * j + 1 : Nat) : Int) == (N : Int)) (Ts.cmp nm nm Cm.eqI) (fun h => ?_) fun h => X.nil ?_)
      · -- the last star
        have hjm : j = ns.length := by
          have : ((pre.length + 2 * j + 1 : Nat) : Int) = (N : Int) := by simpa using h
          have : pre.length + 2 * j + 1 = pre.length + 2 * ns.length + 1 := by exact_mod_cast this
          omega
        refine X.cons (X1.add (a := a) rfl lk_self cs (by simp [acc]; omega) ?_)
        rw [setM_self]
        refine X.cons (X1.brk ?_)
        have hfin : dS (acc j) ++ [.str (lit ".*")] = dS tot := by
          subst hjm
          show dS (pre ++ (ns.take ns.length).map segL) ++ [.str (lit ".*")] = dS (pre ++ ns.map segL ++ [lit ".*"])
          rw [List.take_length]; simp [dS]
        rw [hfin]
        have hsum : (tot.map List.length).sum ≤ 30000 := by
          have h1 := sum_le hpl
          have h2 := sum_le (l := ns.map segL) (B := 107) (fun x hx => by
            obtain ⟨y, hy, rfl⟩ := List.mem_map.mp hx
            have := hnl y hy
            unfold segL; rw [List.length_append, List.length_append]; omega)
          rw [List.length_map] at h2
          show ((pre ++ ns.map segL ++ [lit ".*"]).map List.length).sum ≤ _
          rw [List.map_append, List.map_append, List.sum_append, List.sum_append]
          simp only [List.map_cons, List.map_nil, List.sum_cons, List.sum_nil]
          have : pre.length * 100 ≤ 100 * 100 := Nat.mul_le_mul_right _ hp
          have : ns.length * 107 ≤ 100 * 107 := Nat.mul_le_mul_right _ hn
          omega
        refine X.cons (X1.assert (TsJ.cast (Ts.cmp nm nm Cm.eqI) h) ?_)
        refine X.cons (X1.as (Ev.meth (lit_e ▸ cs) Ty.str PySem.F.plainAttrs_str PySem.F.slot_str_join PySem.F.type_str_join (A1 nm) (Ca.join (l := tot) (Li.mut lk_self) (by simp only [List.length_nil]; omega))) ?_)
        have hj' := joinS_len [] tot
        simp only [List.length_nil, Nat.mul_zero, Nat.add_zero] at hj'
        have hj'' : (joinS [] (jparts pre ns)).length ≤ 30000 := Nat.le_trans hj' hsum
        exact X.cons (X1.ret (Ev.f3 cs (Ev.fv nm) cs (by omega)) ⟨_, _, rfl, .refl _⟩)
      · have hjl : j < ns.length := by
          have h' : ¬ ((pre.length + 2 * j + 1 : Nat) : Int) = (N : Int) := by simpa using h
          have : ¬ pre.length + 2 * j + 1 = pre.length + 2 * ns.length + 1 := fun q => h' (by show ((pre.length + 2 * j + 1 : Nat) : Int) = ((pre.length + 2 * ns.length + 1 : Nat) : Int); exact_mod_cast q)
          omega
        obtain ⟨x, hx⟩ : ∃ x, ns[j]? = some x := ⟨_, List.getElem?_eq_getElem hjl⟩
        have hxl := hnl x (List.mem_of_getElem? hx)
        have eo := parts_odd (sa := sa) (pre := pre) hx
        have hato : (parts sa pre ns)[at_ ((pre.length + 2 * j + 1 : Nat) : Int) (parts sa pre ns).length]? = some (.str x) := by rw [at_nat]; exact eo
        have ee := parts_even (sa := sa) (pre := pre) (ns := ns) (j := j + 1) hjl
        have hate : (parts sa pre ns)[at_ ((pre.length + 2 * j + 2 : Nat) : Int) (parts sa pre ns).length]? = some (.adr sa) := by rw [at_nat]; exact ee
        refine X.cons (X1.assert (Ts.cmp (Ev.itemL (k := (pre.length + 2 * j + 1 : Nat)) nm nm Li.lst hato (by omega)) nm Cm.isnotSA) ?_)
        refine X.cons (X1.own (ds := []) (Fr.list AJ.nil (by simp)) (.inl (by trivial)) fun f hf => ?_)
        refine X.cons (X1.while (fun m σ μ => (m = 1 ∧ Sub σ (("fixed", .mut f) :: S (pre.length + 2 * j + 1)) ∧ μ = [(f, []), (a, dS (acc j))]) ∨ (m = 0 ∧ Sub σ (("fixed", .mut f) :: S (pre.length + 2 * j + 2)) ∧ μ = [(f, [.str x]), (a, dS (acc j))])) 1
          (.inl ⟨rfl, Sub.cons rfl (subS rfl rfl rfl rfl rfl rfl), rfl⟩) ?_)
        rintro m σ₃ μ₃ (⟨rfl, hs₃, rfl⟩ | ⟨rfl, hs₃, rfl⟩)
        · refine ⟨decide (((pre.length + 2 * j + 1 : Nat) : Int) < (N : Int)) && (true && true), ?_, fun _ => ?_, fun h => ?_⟩
          · intro s SS
            exact (Ts.and (Ts.cmp (nm (hs₃ _ _ rfl)) (nm (hs₃ _ _ rfl)) Cm.lt) fun _ => Ts.and (Ts.cmp (Ev.itemL (k := (pre.length + 2 * j + 1 : Nat)) (nm (hs₃ _ _ rfl)) (nm (hs₃ _ _ rfl)) Li.lst hato (by omega)) (nm (hs₃ _ _ rfl)) Cm.isnotSA) fun _ => Ts.andN) s SS
          · refine X.sub ?_ hs₃
            refine X.cons (X1.meth rfl lk_self PySem.F.slot_list_append PySem.F.type_list_append (A1 (Ev.itemL (k := (pre.length + 2 * j + 1 : Nat)) nm nm Li.lst hato (by omega))) (Mu.append (by simp)) ?_)
            rw [setM_self]
            refine X.cons (X1.au (d := .int ((pre.length + 2 * j + 2 : Nat) : Int)) In.add Ev.cint ?_)
            exact X.nil ⟨0, by omega, .inr ⟨rfl, Sub.cons rfl (subS rfl rfl rfl rfl rfl rfl), rfl⟩⟩
          · rw [ilt _ (by show _ < pre.length + 2 * ns.length + 1; omega)] at h; cases h
        · refine ⟨decide (((pre.length + 2 * j + 2 : Nat) : Int) < (N : Int)) && (false && true), ?_, fun h => by simp at h, fun _ => ?_⟩
          · intro s SS
            exact (Ts.and (Ts.cmp (nm (hs₃ _ _ rfl)) (nm (hs₃ _ _ rfl)) Cm.lt) fun _ => Ts.and (Ts.cmp (Ev.itemL (k := (pre.length + 2 * j + 2 : Nat)) (nm (hs₃ _ _ rfl)) (nm (hs₃ _ _ rfl)) Li.lst hate (by omega)) (nm (hs₃ _ _ rfl)) Cm.isnotAA) fun _ => Ts.andN) s SS
          refine X.sub ?_ hs₃
          refine X.cons (X1.as (d := .str x) (Ev.meth (d := .str (joinS [] [x])) (lit_e ▸ cs) Ty.str PySem.F.plainAttrs_str PySem.F.slot_str_join PySem.F.type_str_join (A1 nm) (Ca.join (l := [x]) (Li.mut lk_self) (by simp; omega))) ?_)
          have hne : (((pre.length + 2 * j + 2 : Nat) : Int) == (N : Int)) = false := by
            rw [Bool.eq_false_iff]; intro q
            have q1 : ((pre.length + 2 * j + 2 : Nat) : Int) = ((pre.length + 2 * ns.length + 1 : Nat) : Int) := eq_of_beq q
            have : pre.length + 2 * j + 2 = pre.length + 2 * ns.length + 1 := by exact_mod_cast q1
            omega
          have haf : a ≠ f := fun q => hf (by simp [q])
          refine X.cons (X1.if (q := false) (TsJ.cast (Ts.cmp nm nm Cm.eqI) hne) (fun h => nomatch h) fun _ => ?_)
          refine X.cons (X1.add (a := a) rfl (lk_2 haf) (Ev.f3 cs (Ev.fv nm) cs (by omega)) (by simp [acc]; omega) ?_)
          rw [setM_2 haf]
          refine X.nil (X.forget (X.nil ⟨ns.length - (j + 1) + 1, by omega, j + 1, rfl, hjl, subS rfl rfl rfl rfl rfl rfl, ?_⟩))
          show [(a, dS (acc j) ++ [.str (lit "(?>.*?" ++ x ++ lit ")")])] = [(a, dS (acc (j + 1)))]
          have : acc (j + 1) = acc j ++ [segL x] := by
            show pre ++ (ns.take (j + 1)).map segL = pre ++ (ns.take j).map segL ++ [segL x]
            rw [List.take_add_one, hx]; simp
          rw [this]; simp [dS, segL]
    · exact absurd (ilt _ hNj) (by rw [h]; decide)
end
end Mine
end
section
open PySem PySem.Calls PySem.W PyProof.Rows
open PySem.Builtin PySem.Builtin.Str
set_option maxRecDepth 100000
set_option maxHeartbeats 2000000
namespace Mine
theorem sub_KeyLookup : isSubtype (.type "KeyError") (.type "LookupError") = pure true := by rw [isSubtype_type]; kernel_rfl
section
variable {prog : Program} {w : World} {A : Around} {E : Value → Shared → Prop} {s : Shared}
theorem getItem_hit {d : Addr} {f : Int → Option Value} {k : Int} {t : Tok} {v : Value} {Q : Value → Shared → Prop} (hm : s.heap.MapOf (intKind prog w) d f) (hf : f k = some v) (h : Q v { s with toks := s.toks + 1 }) :
    wpAny (model prog w) A (getItem (.ref d) (.int k t)) Q E s :=
  wpAny_getItem_slot hm.typeIs (by decide) PySem.F.slot_dict_getitem (call_meetsIn PySem.F.slot_dict_getitem hm.typeIs PySem.F.entry_dict_getitem (PySem.F.args_dict_getitem_2 _ _) (meets_dict_getitem (intKind prog w) d (intKind_is prog w k t)) ⟨f, v, hm, hf, h⟩)
theorem getItem_miss {d : Addr} {f : Int → Option Value} {k : Int} {t : Tok} {Q : Value → Shared → Prop} (hh : A.handled = none) (hd : (d == sysModules) = false) (hm : s.heap.MapOf (intKind prog w) d f) (hf : f k = none)
    (h : ∀ h' e tk, Heap.NewExc s.heap h' e "KeyError" → E (.ref e) { s with heap := h', toks := tk }) :
    wpAny (model prog w) A (getItem (.ref d) (.int k t)) Q E s :=
  wpAny_getItem_slot hm.typeIs (by decide) PySem.F.slot_dict_getitem (call_meetsIn PySem.F.slot_dict_getitem hm.typeIs PySem.F.entry_dict_getitem (PySem.F.args_dict_getitem_2 _ _) (meets_dict_getitem_missing (intKind prog w) d (intKind_is prog w k t) hd) ⟨hh, f, hm, hf, fun h' e hx => h h' e _ hx⟩)
theorem tl_hit {d : Addr} {f : Int → Option Value} {c : Nat} {t : Tok} {x : Str} {Q : Mapped → Shared → Prop} (hm : s.heap.MapOf (intKind prog w) d f) (hf : f c = some (.str x t)) (h : ∀ tk, Q (.text x) { s with toks := tk }) :
    wpAny (model prog w) A (tableLookup (.ref d) c) Q E s := by
  unfold tableLookup
  refine wpAny_bind (wpAny_attempt (wpAny_bind (wpAny_mkInt (getItem_hit (s := { s with toks := s.toks + 1 }) hm hf ?_))))
  dsimp only
  refine wpAny_bind (wpAny_pure ?_)
  dsimp only
  refine wpAny_bind (wpAny_pure ?_)
  exact wpAny_pure (h _)
theorem tl_miss {d : Addr} {f : Int → Option Value} {c : Nat} {Q : Mapped → Shared → Prop} (hh : A.handled = none) (hd : (d == sysModules) = false) (hm : s.heap.MapOf (intKind prog w) d f) (hf : f c = none)
    (h : ∀ h' tk, (∀ b o, s.heap.get? b = some o → h'.get? b = some o) → Q .keep { s with heap := h', toks := tk }) :
    wpAny (model prog w) A (tableLookup (.ref d) c) Q E s := by
  unfold tableLookup
  refine wpAny_bind (wpAny_attempt (wpAny_bind (wpAny_mkInt (getItem_miss (s := { s with toks := s.toks + 1 }) hh hd hm hf fun h' e tk hx => ?_))))
  dsimp only
  refine wpAny_bind (wpAny_isInstance (T := "KeyError") (b := true) ?_ sub_KeyLookup ?_)
  · obtain ⟨ob, t, he, hc, _⟩ := hx.there
    exact ⟨_, he, hc⟩
  · exact wpAny_bind (wpAny_rule (wpAny_pure (h _ _ hx.keeps)))
/-- what a sign becomes -/
def spec1 (c : Nat) : Option (List Nat) → List Nat
  | some x => x
  | none => [c]
def tblOk (f : Int → Option Value) (c : Nat) : Option (List Nat) → Prop
  | some x => x.length = 2 ∧ ∃ t, f c = some (.str (mkS x) t)
  | none => f c = none
theorem tr_one {d : Addr} {f : Int → Option Value} {c : Nat} {t : Tok} {r : Option (List Nat)} {P : Fin → Shared → Prop} (hh : A.handled = none) (hd : (d == sysModules) = false) (hm : s.heap.MapOf (intKind prog w) d f) (hc : c < 128) (hr : tblOk f c r)
    (h : ∀ h' tk t', (∀ b o, s.heap.get? b = some o → h'.get? b = some o) → P (.done (.ret (.str (mkS (spec1 c r)) t'))) { s with heap := h', toks := tk }) :
    wpAny (model prog w) A (Builtin.«str.translate» ⟨[.str (mkS [c]) t, .ref d], []⟩) P E s := by
  unfold Builtin.«str.translate»
  refine wpAny_bind (wpAny_of_eq (a := (.str (mkS [c]) t, mkS [c], .ref d)) (by first | rfl | kernel_rfl) ?_)
  dsimp only
  rw [if_neg (by rw [mkS_len]; simp)]
  have hall : (#[c].all fun x => decide (x < 128)) = true := by simp [hc]
  rw [hall, ← Array.forIn_toList]
  show wpAny _ _ (forIn [c] _ _ >>= _) _ _ _
  rw [List.forIn_cons]
  simp only [List.forIn_nil]
  refine wpAny_bind (wpAny_bind ?_)
  rw [if_neg (by decide)]
  simp only [if_true, List.lookup_nil]
  have finish : ∀ (h' : Heap) (tk : Nat), (∀ b o, s.heap.get? b = some o → h'.get? b = some o) → wpAny (model prog w) A (retStr ⟨([mkS (spec1 c r)] : List Str).reverse.foldl (fun acc p => acc ++ p.cps) #[]⟩) P E { s with heap := h', toks := tk } := fun h' tk hk => by
    have e : (⟨([mkS (spec1 c r)] : List Str).reverse.foldl (fun acc p => acc ++ p.cps) #[]⟩ : Str) = mkS (spec1 c r) := by simp
    rw [e]
    have hz : (mkS (spec1 c r)).length ≤ sizeLine := by
      rw [mkS_len, sizeLine_eq]
      cases r with
      | none => show [c].length ≤ _; simp
      | some x => show x.length ≤ _; rw [hr.1]; decide
    unfold retStr
    exact wpAny_bind (wpAny_mkStr (wpAny_pure (h h' _ _ hk)) hz)
  cases r with
  | none =>
    refine wpAny_bind (tl_miss hh hd hm hr fun h' tk hk => ?_)
    dsimp only
    refine wpAny_bind (wpAny_pure ?_)
    dsimp only
    refine wpAny_pure (wpAny_pure ?_)
    dsimp only
    rw [if_neg (by decide)]
    exact finish h' tk hk
  | some x =>
    obtain ⟨hx, tx, hf⟩ := hr
    have hl : ((mkS x).length == 1) = false := by rw [mkS_len, hx]; rfl
    refine wpAny_bind (tl_hit hm hf fun tk => ?_)
    dsimp only
    rw [hl]
    simp only [Bool.false_and, Bool.false_eq_true, if_false]
    refine wpAny_bind (wpAny_pure ?_)
    dsimp only
    refine wpAny_bind (wpAny_rule ?_)
    refine wpAny_bind (tl_hit (s := { s with toks := tk }) hm hf fun tk => ?_)
    dsimp only
    refine wpAny_pure (wpAny_pure ?_)
    dsimp only
    rw [if_neg (by rw [mkS_len, hx]; decide)]
    exact finish s.heap tk fun _ _ e => e
end
end Mine
end
section
open PySem PySem.Calls PySem.W PyProof.Rows
open PySem.Builtin PySem.Builtin.Str
set_option maxRecDepth 100000
set_option maxHeartbeats 2000000
namespace Mine
local macro_rules | `(tactic| trivial) => `(tactic| exact kd ‹_› (by decide +kernel))
def escL (c : Nat) : List Nat := if c = 93 ∨ c = 45 ∨ c = 94 then [92, c] else [c]
/-- the dict of the special signs -/
def SpecAt (prog : Program) (w : World) (h0 : Heap) (mg : Str → Option Value) : Prop :=
  ∃ d f, mg (Str.ofString "_special_chars_map") = some (.ref d) ∧ (d == sysModules) = false ∧ h0.MapOf (intKind prog w) d f ∧ ∀ c ∈ [47, 93, 45, 33, 94, 97], tblOk f c (if c = 93 ∨ c = 45 ∨ c = 94 then some [92, c] else none)
section
variable {prog : Program} {w : World} {h0 : Heap} {c : Cx} {σ : St} {μ : Mu} {Φ : AF → Prop} {mg mb : Str → Option Value}
theorem mapOf_keep {h h' : Heap} {a : Addr} {f : Int → Option Value} (x : h.MapOf (intKind prog w) a f) (hk : ∀ b o, h.get? b = some o → h'.get? b = some o) : h'.MapOf (intKind prog w) a f := by
  obtain ⟨o, es, ep, h1, h2⟩ := x
  exact ⟨o, es, ep, hk _ _ h1, h2⟩
theorem Ca.transl {d : Addr} {f : Int → Option Value} {x : Nat} {r : Option (List Nat)} (hd : (d == sysModules) = false) (hm : h0.MapOf (intKind prog w) d f) (hc : x < 128) (hr : tblOk f x r) :
    CaJ prog w h0 c σ μ (.builtin "str.translate") [.str [x], .val (.ref d)] (.str (spec1 x r)) := fun s vs P rr => by
  obtain ⟨v, u, rfl, rv, ru⟩ := unL2 rr
  obtain ⟨z, t, rfl⟩ := unS rv
  rw [Rep] at ru; subst ru
  refine wpAny_call_entry PySem.F.slot_str_translate (typeIs_str _ _ _) PySem.F.entry_str_translate (tr_one (s := s) P.ok.handled hd (mapOf_keep hm P.base) hc hr fun h' tk t' hk => ⟨_, rfl, ⟨h', tk, rfl, hk⟩, repS ?_⟩) (PySem.F.args_str_translate_2 _ _)
  cases r with
  | none => show [x].length ≤ _; simp
  | some y => show y.length ≤ _; rw [hr.1]; decide
theorem esc_ok (W : Wd prog w h0 mg mb) (Sp : SpecAt prog w h0 mg) {ad : Addr} (Da : DefAt h0 mg 23 ad) {x : Nat} (hx : x ∈ [47, 93, 45, 33, 94, 97]) : FnJ prog w h0 1 ad [.str [x]] (.str (escL x)) :=
  fn_of (names := ["pattern"]) W.nolimit Da (by rfl) (by rfl) (by rfl) (fun pm code doc => Bind.pos1 fun v => rfl) (by decide +kernel) (by decide) (by decide) fun c hc hk hce => by
  obtain ⟨d, f, m1, m2, m3, m4⟩ := Sp
  have hl : x < 128 := by
    have : ∀ y ∈ [47, 93, 45, 33, 94, 97], y < 128 := by decide
    exact this x hx
  have he : escL x = spec1 x (if x = 93 ∨ x = 45 ∨ x = 94 then some [92, x] else none) := by unfold escL; split <;> rfl
  refine X.cons (X1.if (q := true) (Ts.plain (d := .bool true) (Ev.cb W Ca.isiS (A2 nm (Ev.vb W))) Tr.bool) (fun _ => ?_) fun h => nomatch h)
  rw [he]
  exact X.cons (X1.ret (Ev.meth nm Ty.str PySem.F.plainAttrs_str PySem.F.slot_str_translate PySem.F.type_str_translate (A1 (Ev.gl (Gl.glob W.toGd (by trivial) m1 (by decide)))) (Ca.transl m2 m3 hl (m4 x hx))) ⟨_, _, rfl, .refl _⟩)
end
end Mine
end
section
open PySem PySem.Calls PySem.W PyProof.Rows
set_option maxRecDepth 100000
set_option maxHeartbeats 2000000
namespace Mine
/-- all is kept but the table at P0 -/
def KM (s s' : Shared) : Prop := ∃ h tk, s' = { s with heap := h, toks := tk } ∧ ∀ b o, b ≠ P0 → s.heap.get? b = some o → h.get? b = some o
theorem km {s s' : Shared} (k : KM s s') : ∀ b o, b ≠ P0 → s.heap.get? b = some o → s'.heap.get? b = some o := by obtain ⟨h, tk, rfl, x⟩ := k; exact x
theorem KM.of {s s' : Shared} (k : Keeps s s') : KM s s' := let ⟨h, tk, e, x⟩ := k; ⟨h, tk, e, fun b o _ e => x b o e⟩
theorem KM.trans {s s' s'' : Shared} (a : KM s s') (b : KM s' s'') : KM s s'' := by
  obtain ⟨h, tk, rfl, x⟩ := a; obtain ⟨h', tk', rfl, y⟩ := b
  exact ⟨h', tk', rfl, fun b o n e => y b o n (x b o n e)⟩
theorem rep_km {s s' : Shared} (k : KM s s') {av : Av} (hp : av P0) {d : D} {v : Value} (r : Rep s.heap av d v) : Rep s'.heap av d v := r.mono (fun b o n e => km k b o (fun q => n (q ▸ hp)) e) fun _ y => .inl y
theorem repL_km {s s' : Shared} (k : KM s s') {av : Av} (hp : av P0) {d : List D} {v : List Value} (r : RepL s.heap av d v) : RepL s'.heap av d v := r.mono (fun b o n e => km k b o (fun q => n (q ▸ hp)) e) fun _ y => .inl y
section
variable {prog : Program} {w : World} {h0 : Heap} {c : Cx} {σ : St} {μ : Mu} {Φ : AF → Prop} {mg mb : Str → Option Value}
theorem PSt.chg {s s' : Shared} (P : PSt h0 c σ μ s) (k : KM s s') (t : TabOk s'.heap) (hid : h0.get? P0 = none) : PSt h0 c σ μ s' where
  ok := P.ok
  base := fun b o e => km k b o (fun q => by rw [q, hid] at e; cases e) (P.base b o e)
  vars := fun x d e => by
    obtain ⟨z, v, b, r⟩ := P.vars x d e
    refine ⟨z, v, ?_, rep_km k (.inl P.ok.avP) r⟩
    rcases b with ⟨a, m, n, e⟩ | ⟨a, cc, n, e⟩
    · exact .inl ⟨a, m, n.at' fun o e => km k _ o (P.tab.neNs n) e, e⟩
    · have hne := P.tab.neCell e
      obtain ⟨o, e1, e2⟩ := e
      exact .inr ⟨a, cc, n, o, km k _ o hne e1, e2⟩
  own := fun p hp => by
    obtain ⟨z, vs, hpl, r⟩ := P.own p hp
    have hne := P.tab.neL hpl
    obtain ⟨n, e⟩ := hpl
    exact ⟨z, vs, ⟨n, km k _ _ hne e⟩, repL_km k (.inl P.ok.avP) r⟩
  live := fun b hb => by
    by_cases q : b = P0
    · obtain ⟨ps, e, _⟩ := t; exact ⟨_, q ▸ e⟩
    · obtain ⟨o, e⟩ := P.live b hb; exact ⟨o, km k _ _ q e⟩
  tab := t
theorem SSt.chg {s s' : Shared} (S : SSt h0 c σ μ s) (k : KM s s') (t : TabOk s'.heap) (hM : c.s₀.heap.get? P0 = none) : SSt h0 c σ μ s' ∧ Pres c μ s μ s' := by
  have hid : h0.get? P0 = none := by
    cases e : h0.get? P0 with
    | none => rfl
    | some o => have := S.base0 _ _ e; rw [hM] at this; cases this
  obtain ⟨m, cm, X⟩ := S.frame
  have s0k : ∀ b o, c.s₀.heap.get? b = some o → s'.heap.get? b = some o := fun b o e => km k b o (fun q => by rw [q, hM] at e; cases e) (X.toInCall.keep b o e)
  refine ⟨⟨S.p.chg k t hid, S.base0, ⟨m, cm, ⟨⟨?_, X.toInCall.ns.at' fun o e => km k _ o (S.p.tab.neNs X.toInCall.ns) e, s0k, X.toInCall.fresh⟩, fun n cc hc => ?_, X.apart, X.above⟩⟩, S.avL, S.avC, S.cells, S.fresh, S.nodup, S.notin⟩,
    ⟨fun b o n e => km k b o (fun q => n (q ▸ .inl S.p.ok.avP)) e, fun p hp => .inl ⟨p, hp, rfl⟩, fun b o e => ?_⟩⟩
  · obtain ⟨h, tk, e, _⟩ := k
    obtain ⟨h₁, tk₁, e'⟩ := X.toInCall.same
    exact ⟨h, tk, by rw [e, e']⟩
  · have hcell := X.cell n cc hc
    have hne := S.p.tab.neCell hcell
    obtain ⟨o, e1, e2⟩ := hcell
    exact ⟨o, km k _ o hne e1, e2⟩
  · by_cases q : b = P0
    · obtain ⟨ps, e, _⟩ := t; exact ⟨_, q ▸ e⟩
    · exact ⟨o, km k _ _ q e⟩
/-- a contract that may touch the table -/
def FnM (prog : Program) (w : World) (h0 : Heap) (k : Nat) (a : Addr) (ds : List D) (d : D) : Prop :=
  ∀ (A : Around) (av : Av) (s : Shared) (vs : List Value), OkA A k → (∀ b o, h0.get? b = some o → s.heap.get? b = some o) → (∀ b, av b → ∃ o, s.heap.get? b = some o) → av P0 → TabOk s.heap → RepL s.heap av ds vs →
    wpAny (model prog w) A (call (.ref a) vs) (fun v s' => KM s s' ∧ TabOk s'.heap ∧ Rep s'.heap av d v) NoE s
theorem FnJ.toM {k : Nat} {a : Addr} {ds : List D} {d : D} (h : FnJ prog w h0 k a ds d) : FnM prog w h0 k a ds d := fun A av s vs ok base live avP tab r =>
  wm (h A av s vs ok base live avP tab r) fun v s' y => ⟨KM.of y.1, tab.keeps (kp y.1), y.2⟩
def EvM (prog : Program) (w : World) (h0 : Heap) (c : Cx) (σ : St) (μ : Mu) (e : Expr) (d : D) : Prop :=
  ∀ s, PSt h0 c σ μ s → wpAny (model prog w) c.A (eval e c.env) (fun v s' => KM s s' ∧ TabOk s'.heap ∧ Rep s'.heap (avs c.av μ) d v) NoE s
theorem EvJ.toM {e : Expr} {d : D} (h : EvJ prog w h0 c σ μ e d) : EvM prog w h0 c σ μ e d := fun s P => wm (h s P) fun v s' y => ⟨KM.of y.1, P.tab.keeps (kp y.1), y.2⟩
/-- a call of a def that may touch the table; arguments that do not -/
theorem EvM.cf (G : Wd prog w h0 mg mb) {i : Nat} {a : Addr} {k : Nat} {e : Expr} {rest : List Expr} {x : Str} {p pos : Pos} {ds : List D} {d : D} (Da : DefAt h0 mg i a)
    (hc : FnM prog w h0 k a ds d) (ha : AJ prog w h0 c σ μ (e :: rest) ds) (hk : k ≤ c.k := by omega) (hx : x = nameS (stOf i) := by rfl) (hkk : c.env.kindOf x = some .globalImplicit := by trivial) (hd : (x == ("__debug__" : Str)) = false := by decide)
    (he : starEach (e :: rest) c.env = (false, eval e c.env) :: starEach rest c.env := by rfl) :
    EvM prog w h0 c σ μ (.Call (.Name x p) (e :: rest) [] pos) d := fun s P => by
  obtain ⟨o, pm, code, doc, h1, h2, h3, h4⟩ := Da
  refine wpAny_Call_NameR ((Gl.glob G.toGd hkk (hx ▸ h1) hd : GlJ prog w h0 c σ μ x (.ref a)) p s P _ (callWith_function (o := o) (fd := docDef (nameS (stOf i)) (paramsS (stOf i)) (bodyS (stOf i)) (scopeS (stOf i)) pm code doc) ?_))
  have h := ha pos s P
  rw [he] at h ⊢
  refine Calls.evalArgs_plain (wm h fun vs s₁ y => ?_)
  have P₁ := P.keeps y.1
  exact ⟨⟨P₁.base _ _ h2, h3⟩, wm (hc c.A _ s₁ vs ⟨P.ok.handled, by have := P.ok.depth; omega, by have := P.ok.units; omega⟩ P₁.base P₁.live (.inl P.ok.avP) P₁.tab y.2) fun v s₂ z => ⟨(KM.of y.1).trans z.1, z.2⟩⟩
theorem EvM.meth {o : Expr} {name : String} {id T : String} {args : List Expr} {apos pos : Pos} {d₀ d : D} {ds : List D} (hid : h0.get? P0 = none) (ho : EvM prog w h0 c σ μ o d₀) (ht : TyJ h0 c σ μ d₀ T) (pa : PlainAttrs T)
    (slot : Slot T (Str.ofString name) id) (hty : typeOf (.builtin id) = pure (.type "method_descriptor")) (ha : AJ prog w h0 c σ μ args ds) (hc : CaJ prog w h0 c σ μ (.builtin id) (d₀ :: ds) d)
    (hline : (apos.endLine == pos.line) = true := by rfl) (hbase : attributeBase o (Str.ofString name) c.env (eval o c.env) = eval o c.env := by rfl)
    (hfew : ((backTo pos (starEach args c.env)).all (fun x => !x.1) && (backToKw pos (keywordEach [] c.env)).all (fun x => x.1.isSome)
      && decide (args.length + ([] : List Keyword).length + (if ([] : List Keyword).isEmpty then 0 else 1) < 30)) = true := by rfl)
    (hl : (backTo pos (starEach args c.env)).any (·.1) = false := by rfl) :
    EvM prog w h0 c σ μ (.Call (.Attribute o (Str.ofString name) apos) args [] pos) d := fun s P =>
  wpAny_Call_method (T := T) (id := id) hbase hfew hline pa slot hty (wm (ho s P) fun v s₁ x => by
    obtain ⟨k₁, t₁, r⟩ := x
    have P₁ := P.chg k₁ t₁ hid
    obtain ⟨t1, t2⟩ := ht s₁ v P₁ r
    exact ⟨t1, t2, callWith_builtin hl (evalArgs_gen hl (wm (ha pos s₁ P₁) fun vs s₂ y => wm (hc s₂ (v :: vs) (P₁.keeps y.1) (RepL.cons (r.keeps (kp y.1)) y.2)) fun v' s₃ z => ⟨k₁.trans ((KM.of y.1).trans (KM.of z.1)), (t₁.keeps (kp y.1)).keeps (kp z.1), z.2⟩))⟩)
theorem EvM.list2 {a b : Expr} {pos : Pos} {x y : D} (hid : h0.get? P0 = none) (ha : EvM prog w h0 c σ μ a x) (hb : EvM prog w h0 c σ μ b y) (hse : starEach [a, b] c.env = [(false, eval a c.env), (false, eval b c.env)] := by rfl) :
    EvM prog w h0 c σ μ (.List [a, b] pos) (.lst [x, y]) := fun s P => by
  refine wpAny_List_spliced ?_
  rw [hse]
  refine spliced_cons (wm (ha s P) fun v s₁ z => spliced_cons ?_)
  obtain ⟨k₁, t₁, r₁⟩ := z
  have P₁ := P.chg k₁ t₁ hid
  refine wm (hb s₁ P₁) fun v' s₂ z => spliced_nil ?_
  obtain ⟨k₂, t₂, r₂⟩ := z
  have P₂ := P₁.chg k₂ t₂ hid
  refine ⟨by rw [sizeLine_eq]; simp, k₁.trans (k₂.trans (KM.of kp_push')), t₂.keeps (kp (kp_push' (s := s₂) (o := { cls := .type "list", data := .seq ([v, v'] : List Value).toArray }))), rep_new_list (by simp) P₂.offSize (RepL.cons (rep_km k₂ (.inl P.ok.avP) r₁) (RepL.one r₂))⟩
theorem X1.asM {x : String} {e : Expr} {pos' pos : Pos} {d : D} (hM : c.s₀.heap.get? P0 = none) (h : EvM prog w h0 c σ μ e d) (k : Φ (.next (upd σ x d) μ)) (hk : c.env.kindOf (Str.ofString x) = some .local ∨ c.env.kindOf (Str.ofString x) = some .cell := by first | exact .inl (by trivial) | exact .inr (by trivial))
    (hx : (Str.ofString x == ("__debug__" : Str)) = false := by decide) (hs : swapsWith e (some (.Name (Str.ofString x) pos')) pos.line c.env = pure false := by rfl) :
    X1 prog w h0 c σ μ (.Assign [.Name (Str.ofString x) pos'] e pos) Φ := fun s S =>
  wpAny_Assign_Name (wm (h s S.p) fun v s' y => by
    obtain ⟨S', p'⟩ := S.chg y.1 y.2.1 hM
    exact store_ S' y.2.2 hk hx fun s'' S'' pr => ⟨_, k, ⟨rfl, S''⟩, p'.trans pr⟩) hs
end
theorem fn_callM {prog : Program} {w : World} {h0 : Heap} {k : Nat} {a : Addr} {o : Obj} {fd : FuncData} {body : List Stmt} {ds ds' : List D} {names : List String} {d : D}
    (hid : h0.get? P0 = none) (hlim : h0.NoLimit) (ho : h0.get? a = some o) (hd : o.data = .func fd) (hcd : h0.CodeRec fd.code fd.qualname) (hbody : fd.body = .stmts body) (hclo : fd.closure = [])
    (hg : fd.globals = mainGlobals) (hb : fd.builtins = builtinsNs) (hco : fd.scope.isCoroutine = false) (hgen : fd.scope.isGenerator = false) (hkd : fd.scope.kind = .function)
    (hbind : BindJ prog w fd ds names ds')
    (hnames : ∀ x ∈ names, fd.scope.names.lookup (Str.ofString x) = some .local ∨ fd.scope.names.lookup (Str.ofString x) = some .cell)
    (hdeb : ∀ x ∈ names, (Str.ofString x == ("__debug__" : Str)) = false) (hnod : (names.map Str.ofString).Nodup)
    (h : ∀ c : Cx, c.env.scope = fd.scope → c.k = k → (∀ x, c.env.kindOf x = some .cell → ∃ cc, c.env.cells.lookup x = some cc) → c.s₀.heap.get? P0 = none → c.env.code = fd.code → XJ prog w h0 c (names.zip ds') [] body (fun af => ∃ d' μ', af = .ret d' μ' ∧ Fz μ' d' d)) :
    FnM prog w h0 (k + 1) a ds d := by
  intro A av s vs ok base live avP tab r
  refine wpAny_call (codeAny_call_function (o := o) (fd := fd) (body := body) (by have := ok.depth; omega) (base _ _ ho) hd hco hgen hbody (hcd.keeps base) ?_)
  refine wpAny_mono (hbind A.in1 av s vs r live) (fun binds s₁ x => ?_) fun _ _ x => x.elim
  obtain ⟨k₁, hbn, rb⟩ := x
  rw [hclo]
  have hmem : ∀ y ∈ binds, ∃ x ∈ names, y.1 = Str.ofString x := fun y hy => by
    have : y.1 ∈ binds.map (·.1) := List.mem_map_of_mem hy
    rw [hbn] at this
    obtain ⟨x, hx, e⟩ := List.mem_map.mp this
    exact ⟨x, hx, e.symm⟩
  refine wpAny_newFunctionEnv_cells hkd (fun y hy => ?_) fun env he s₂ X => ?_
  · obtain ⟨x, hx, e⟩ := hmem y hy
    rw [e]
    rcases hnames x hx with q | q
    · exact .inl q
    · exact .inr ⟨q, cellsFrom_has _ _ _ _ (.inl (mem_of_lookup' q))⟩
  have hIC := X.toInCall
  refine ⟨(hlim.keeps base).keeps fun b o e => hIC.keep b o (kp k₁ b o e), codeAny_func ?_⟩
  have hsc : env.scope = fd.scope := by rw [he]; rfl
  have hL : env.locals = s₁.heap.objs.size := by rw [he]; rfl
  have hcl : env.cells = cellsFrom (s₁.heap.objs.size + 1) fd.scope.names [] := by rw [he]; rfl
  let c : Cx := { A := A.deeper env, k := k, env := env, av := fun b => av b ∨ b = env.locals ∨ ∃ x, env.cells.lookup x = some b, s₀ := { s₁ with heap := s₁.heap.hide P0 } }
  have live₁ : ∀ b, av b → ∃ o, s₁.heap.get? b = some o := fun b hb => let ⟨o, e⟩ := live b hb; ⟨o, kp k₁ _ _ e⟩
  have newC : ∀ x b, env.cells.lookup x = some b → s₁.heap.get? b = none := fun x b hm => by
    have h1 := X.above x b (mem_of_lookup hm)
    rw [hL] at h1
    cases q : s₁.heap.get? b with
    | none => rfl
    | some o => exact absurd (Heap.lt_size q) (Nat.not_lt.mpr (Nat.le_of_lt h1))
  have newAv : ∀ b, (av b ∨ b = env.locals ∨ ∃ x, env.cells.lookup x = some b) → av b ∨ s₁.heap.get? b = none := fun b hb => by
    rcases hb with y | y | ⟨x, y⟩
    · exact .inl y
    · subst y; rw [hL]; exact .inr (fresh_size _)
    · exact .inr (newC x b y)
  have rb₂ : RepL s₂.heap c.av ds' (binds.map (·.2)) := rb.mono (fun b o _ e => hIC.keep b o e) newAv
  have avsE : ∀ b, avs c.av [] b → c.av b := fun b hb => by
    rcases hb with y | ⟨p, hp, _⟩
    · exact y
    · cases hp
  have ok' : c.Ok := by
    refine ⟨ok.handled, ?_, ?_, by show env.scope.kind = _; rw [hsc]; exact hkd, by show env.globals = _; rw [he]; exact hg, by show env.builtins = _; rw [he]; exact hb, .inl avP⟩
    · show A.depth + 1 + k ≤ _; have := ok.depth; omega
    · show A.units + 3 + 40 * k ≤ _; have := ok.units; omega
  have base₂ : ∀ b o, h0.get? b = some o → s₂.heap.get? b = some o := fun b o e => hIC.keep b o (kp k₁ _ _ (base b o e))
  have hce : ∀ x, c.env.kindOf x = some .cell → ∃ cc, c.env.cells.lookup x = some cc := fun x hx => by
    show ∃ cc, env.cells.lookup x = some cc
    have hx' : fd.scope.names.lookup x = some .cell := by
      have : env.kindOf x = some .cell := hx
      unfold Env.kindOf at this; rwa [hsc] at this
    have hsome := cellsFrom_has fd.scope.names (s₁.heap.objs.size + 1) [] x (.inl (mem_of_lookup' hx'))
    rw [← hcl] at hsome
    exact Option.isSome_iff_exists.mp hsome
  have XH : InCallC c.s₀ env.locals (bindL env.kindOf binds fun _ => none) env.cells (bindC env.kindOf binds fun _ => none) s₂ :=
    ⟨⟨let ⟨h, t, e⟩ := X.toInCall.same; ⟨h, t, e⟩, X.toInCall.ns, fun b o e => X.toInCall.keep b o (Heap.of_hide e), by show (s₁.heap.hide P0).objs.size ≤ _; rw [Heap.hide_size]; exact X.toInCall.fresh⟩, X.cell, X.apart, X.above⟩
  have SS : SSt h0 c (names.zip ds') [] s₂ := by
    refine ⟨⟨ok', base₂, fun x d hx => ?_, fun p hp => (nomatch hp), fun b hb => ?_, (tab.keeps (kp k₁)).keeps hIC.keep⟩, fun b o e => by
      have hb : b ≠ P0 := fun q => by rw [q, hid] at e; cases e
      exact (Heap.hide_ne s₁.heap hb).trans (kp k₁ _ _ (base b o e)), ⟨_, _, XH⟩, .inr (.inl rfl), fun x cc hm => .inr (.inr ⟨x, hm⟩), fun x hx => ?_, fun p hp => (nomatch hp), List.nodup_nil, fun p hp => (nomatch hp)⟩
    · obtain ⟨i, hi, hdi⟩ := zip_of hx
      obtain ⟨v, hv, rv⟩ := rb₂.get hdi
      have hxn : x ∈ names := List.mem_of_getElem? hi
      have hbi : (Str.ofString x, v) ∈ binds := by
        have h1 : (binds.map (·.1))[i]? = some (Str.ofString x) := by rw [hbn]; simp [hi]
        rw [List.getElem?_map] at h1 hv
        cases hq : binds[i]? with
        | none => rw [hq] at h1; cases h1
        | some y =>
          rw [hq] at h1 hv
          obtain ⟨y1, y2⟩ := y
          simp only [Option.map_some, Option.some.injEq] at h1 hv
          subst h1; subst hv
          exact List.mem_of_getElem? hq
      refine ⟨hdeb x hxn, v, ?_, rv.mono (fun _ _ _ e => e) fun b hb => .inl (avsE b hb)⟩
      have hnd : (binds.map (·.1)).Nodup := by rw [hbn]; exact hnod
      have hko : env.kindOf (Str.ofString x) = fd.scope.names.lookup (Str.ofString x) := by unfold Env.kindOf; rw [hsc]
      rcases hnames x hxn with q | q
      · exact .inl ⟨hko.trans q, _, hIC.ns, bindL_get hbi hnd (hko.trans q)⟩
      · have hsome := cellsFrom_has fd.scope.names (s₁.heap.objs.size + 1) [] _ (.inl (mem_of_lookup' q))
        rw [← hcl] at hsome
        obtain ⟨cc, hcc⟩ := Option.isSome_iff_exists.mp hsome
        refine .inr ⟨hko.trans q, cc, hcc, ?_⟩
        have := X.cell _ cc hcc
        rwa [bindC_get hbi hnd (by rw [hko, q]; decide)] at this
    · rcases avsE b hb with y | y | ⟨x, y⟩
      · obtain ⟨o, e⟩ := live₁ b y; exact ⟨o, hIC.keep _ _ e⟩
      · subst y; obtain ⟨o, es, ep, e, _⟩ := hIC.ns; exact ⟨o, e⟩
      · obtain ⟨o, e, _⟩ := X.cell x b y; exact ⟨o, e⟩
    · exact hce x hx
  refine wpAny_mono (h c hsc rfl hce (Heap.hide_self ..) (by show env.code = _; rw [he]; rfl) s₂ SS) (fun fl s₃ y => ?_) fun _ _ y => y.elim
  obtain ⟨af, ⟨d', μ', rfl, fz⟩, hf⟩ := y
  obtain ⟨⟨v, rfl, S₃, rv⟩, _⟩ := hf
  obtain ⟨m₃, cm₃, X₃⟩ := S₃.frame
  refine ⟨(KM.of k₁).trans ?_, S₃.p.tab, ?_⟩
  · obtain ⟨h₃, tk₃, e⟩ := X₃.toInCall.same
    refine ⟨h₃, tk₃, e, fun b o n eb => ?_⟩
    have := X₃.toInCall.keep b o ((Heap.hide_ne s₁.heap n).trans eb)
    rw [e] at this
    exact this
  · refine Fz.rep (cav := avs c.av μ') S₃.p.own (fun b hb => .inl (.inl hb)) (fun p hp hav => ?_) fz rv
    exact S₃.notin p hp (.inl hav)
section
variable {prog : Program} {w : World} {h0 : Heap} {mg : Str → Option Value}
theorem fn_ofM {i : Nat} {k : Nat} {a : Addr} {ds ds' : List D} {names : List String} {d : D} (hid : h0.get? P0 = none) (hlim : h0.NoLimit) (Da : DefAt h0 mg i a)
    (hco : (scopeS (stOf i)).isCoroutine = false) (hgen : (scopeS (stOf i)).isGenerator = false) (hkd : (scopeS (stOf i)).kind = .function)
    (hbind : ∀ pm code doc, BindJ prog w (docDef (nameS (stOf i)) (paramsS (stOf i)) (bodyS (stOf i)) (scopeS (stOf i)) pm code doc) ds names ds')
    (hnames : ∀ x ∈ names, (scopeS (stOf i)).names.lookup (Str.ofString x) = some .local ∨ (scopeS (stOf i)).names.lookup (Str.ofString x) = some .cell)
    (hdeb : ∀ x ∈ names, (Str.ofString x == ("__debug__" : Str)) = false) (hnod : (names.map Str.ofString).Nodup)
    (h : ∀ c : Cx, c.env.scope = scopeS (stOf i) → c.k = k → (∀ x, c.env.kindOf x = some .cell → ∃ cc, c.env.cells.lookup x = some cc) → c.s₀.heap.get? P0 = none →
      (∃ o pm doc, h0.get? a = some o ∧ o.data = .func (docDef (nameS (stOf i)) (paramsS (stOf i)) (bodyS (stOf i)) (scopeS (stOf i)) pm c.env.code doc)) →
      XJ prog w h0 c (names.zip ds') [] (bodyS (stOf i)) (fun af => ∃ d' μ', af = .ret d' μ' ∧ Fz μ' d' d)) :
    FnM prog w h0 (k + 1) a ds d := by
  obtain ⟨o, pm, code, doc, h1, h2, h3, h4⟩ := Da
  exact fn_callM hid hlim h2 h3 h4 rfl rfl rfl rfl hco hgen hkd (hbind pm code doc) hnames hdeb hnod fun c hc hk hce hM hcode => h c hc hk hce hM ⟨o, pm, doc, h2, by rw [hcode]; exact h3⟩
end
end Mine
end
section
open PySem PySem.Calls PySem.W PyProof.Rows
open PySem.Builtin PySem.Builtin.Re
set_option maxRecDepth 100000
set_option maxHeartbeats 2000000
namespace Mine
def reCodeV : Array Value := (#[14, 14, 4, 1, 1, 9, 0, 64, 0, 1342177280, 0, 0, 0, 0, 0, 17, 0, 13, 11, 9, 0, 64, 0, 1342177280, 0, 0, 0, 0, 0, 17, 1, 1] : Array Int).map fun i => Value.int i 0
def reCode : Array Nat := #[14, 14, 4, 1, 1, 9, 0, 64, 0, 1342177280, 0, 0, 0, 0, 0, 17, 0, 13, 11, 9, 0, 64, 0, 1342177280, 0, 0, 0, 0, 0, 17, 1, 1]
def failed (m : Sre.M) : Bool := match (m.runFor reTurnSteps).outcome with | some .failed => true | _ => false
theorem run_fail {c : Nat} (h : c ∈ [42, 63, 91]) : failed (Sre.forSearch reCode #[c] 1 0 1 false) = true := by
  have : ∀ c ∈ [42, 63, 91], failed (Sre.forSearch reCode #[c] 1 0 1 false) = true := by decide +kernel
  exact this c h
theorem slot_sub : Slot "re.Pattern" "sub" "re.Pattern.sub" :=
  .of (owner := "re.Pattern") (n := "sub") (by rw [typeLookup_type, builtinLookup_eq_fast]; kernel_rfl) (by decide +kernel) (by decide +kernel) (by decide +kernel)
    (by first | exact .inl (by decide +kernel) | exact .inr (by decide +kernel)) (by rw [isSubtype_type]; kernel_rfl)
theorem entry_sub : entryFor table "re.Pattern.sub" = some Builtin.«re.Pattern.sub» := entryFor_of_tree (by kernel_rfl)
theorem entry_subloop : entryFor table "re.Pattern.sub.loop" = some Builtin.«re.Pattern.sub.loop» := entryFor_of_tree (by kernel_rfl)
theorem args_sub (a b c : Value) : argsOk "re.Pattern.sub" ⟨[a, b, c], []⟩ := by unfold argsOk; kernel_rfl
theorem type_sub : typeOf (.builtin "re.Pattern.sub") = pure (.type "method_descriptor") := by show builtinType _ = _; rw [builtinType_eq_fast]; kernel_rfl
theorem pa_pat : PlainAttrs "re.Pattern" :=
  ⟨⟨"object.__getattribute__", by rw [typeLookup_type, builtinLookup_eq_fast]; kernel_rfl, by decide +kernel⟩, by rw [typeLookup_type, builtinLookup_eq_fast]; kernel_rfl⟩
theorem slot_fcall : typeLookup (.type "function") "__call__" = pure (some (.builtin "function.__call__")) := by rw [typeLookup_type, builtinLookup_eq_fast]; kernel_rfl
section
variable {prog : Program} {w : World} {A : Around} {E : Value → Shared → Prop} {s : Shared}
theorem wp_ifn {α : Type} {M : Model} {p : Prop} [Decidable p] {a b : Sem α} {Q : α → Shared → Prop} (hn : ¬ p) (h : wpAny M A b Q E s) : wpAny M A (if p then a else b) Q E s := by rw [if_neg hn]; exact h
theorem wp_ifp {α : Type} {M : Model} {p : Prop} [Decidable p] {a b : Sem α} {Q : α → Shared → Prop} (hn : p) (h : wpAny M A a Q E s) : wpAny M A (if p then a else b) Q E s := by rw [if_pos hn]; exact h
theorem ifs_rule {M : Model} {cnd : Nat → Bool} {nmf : Nat → String} {Q : PUnit → Shared → Prop} : ∀ (l : List Nat), Q ⟨⟩ s →
    wpAny M A (forIn l PUnit.unit fun i _ => if cnd i = true then (do rule (nmf i); pure (ForInStep.yield PUnit.unit)) else (pure (ForInStep.yield PUnit.unit) : Sem (ForInStep PUnit))) Q E s
  | [], h => wpAny_pure h
  | i :: l, h => by
    rw [List.forIn_cons]
    refine wpAny_bind ?_
    cases cnd i with
    | true => exact wpAny_bind (wpAny_rule (wpAny_pure (ifs_rule l h)))
    | false => exact wpAny_pure (ifs_rule l h)
theorem run_end {M : Model} {m : Sre.M} {Q : Option Sre.M → Shared → Prop} (hf : failed m = true) (h : Q none s) : wpAny M A (reRunToEnd m) Q E s := by
  have ho : (m.runFor reTurnSteps).outcome = some .failed := by
    unfold failed at hf
    split at hf
    · assumption
    · cases hf
  unfold reRunToEnd
  rw [show (2 : Nat) ^ 64 = 18446744073709551615 + 1 from rfl]
  refine wpAny_bind ?_
  unfold reDrive
  dsimp only
  rw [ho]
  simp only [Option.isSome_some, if_true]
  refine wpAny_pure (wpAny_bind ?_)
  refine wpAny_mono (ifs_rule (Q := fun _ s' => s' = s) _ rfl) (fun _ s' e => ?_) fun _ _ x => x
  subst e
  rw [ho]
  exact wpAny_pure h
abbrev patO (q : Addr) (t u : Tok) : Obj := { cls := .type "re.Pattern", data := .fields #[.str (Str.ofString "([&~|])") t, .int 32 u, .int 1 0, .none, .none, .ref q, .int 0 0] }
theorem whole_target {p q : Addr} {t u t' : Tok} {c n : Nat} {Q : ReTarget → Shared → Prop} (hp : s.heap.get? p = some (patO q t u)) (hq : s.heap.get? q = some { cls := .type "tuple", data := .seq reCodeV n })
    (h : Q { pattern := .ref p, string := .str (mkS [c]) t', code := reCode, text := #[c], kind := 0, groups := 1, pos := 0, lim := 1 } s) : wpAny (model prog w) A (reWholeTarget (.ref p) (.str (mkS [c]) t')) Q E s := by
  unfold reWholeTarget
  refine wpAny_bind (m := fieldsOf (.ref p)) ?_
  unfold fieldsOf
  refine wpAny_bind (wpAny_load hp (wpAny_pure ?_))
  refine wpAny_bind (wpAny_of_eq (a := (#[c], 0)) (by first | rfl | kernel_rfl) ?_)
  dsimp only
  refine wp_ifn (fun q => absurd (show false = true from q) (by decide)) (wp_ifn (fun q => absurd (show false = true from q) (by decide)) ?_)
  refine wpAny_bind (wpAny_of_eq (a := ()) (by first | rfl | kernel_rfl) ?_)
  unfold reRawItems
  refine wpAny_bind (wpAny_bind (wpAny_seqItems (a := q) hq rfl (wpAny_pure (wpAny_pure ?_))))
  have e : (reCodeV.map reRawOf).map (fun x => x.toNat) = reCode := by decide +kernel
  rw [← e] at h
  exact h
theorem sub_run {p q fn : Addr} {t u t' : Tok} {c n : Nat} {Q : Value → Shared → Prop} (hc : c ∈ [42, 63, 91]) (hp : s.heap.get? p = some (patO q t u)) (hq : s.heap.get? q = some { cls := .type "tuple", data := .seq reCodeV n }) (hfn : s.TypeIs (.ref fn) "function")
    (h : ∀ h' tk t'', (∀ b o, s.heap.get? b = some o → h'.get? b = some o) → Q (.str (mkS [c]) t'') { s with heap := h', toks := tk }) :
    wpAny (model prog w) A (call (.builtin "re.Pattern.sub") [.ref p, .ref fn, .str (mkS [c]) t']) Q E s := by
  have hT : s.TypeIs (.ref p) "re.Pattern" := ⟨_, hp, rfl⟩
  refine wpAny_call (codeAny_call_builtin slot_sub.plain entry_sub (slot_sub.check _ _ _ _ _ _ _ _ hT (args_sub _ _ _) ?_))
  unfold Builtin.«re.Pattern.sub» reSubstitute
  dsimp only
  refine wpAny_bind (wpAny_of_eq (a := [some (.ref fn), some (.str (mkS [c]) t'), none]) (by first | rfl | kernel_rfl) ?_)
  dsimp only
  refine wpAny_bind (wpAny_pure ?_)
  refine wpAny_bind (wpAny_specialOf hfn slot_fcall ?_)
  simp only [Option.isSome_some, if_true]
  refine wpAny_bind (wpAny_pure (wpAny_bind (wpAny_pure ?_)))
  dsimp only
  refine wpAny_bind (wpAny_holding (whole_target hp hq ?_))
  rw [if_pos (by decide)]
  refine wpAny_bind (m := reNotHeld "re.Pattern.sub" (.str (mkS [c]) t')) ?_
  unfold reNotHeld
  refine wpAny_bind (wpAny_isInstance (T := "str") (b := false) rfl PySem.F.sub_str_bytearray ?_)
  rw [if_neg (by decide)]
  refine wpAny_pure (wpAny_bind (wpAny_newObj_type (wpAny_pure ⟨Code.quiet_builtin _ (by decide +kernel), codeAny_builtin entry_subloop ?_⟩)))
  rw [Around.under_plainId (id := "re.Pattern.sub.loop") (by decide +kernel) _]
  have hp1 := Heap.get?_push_of_some { cls := .type "list", data := .seq ([] : List Value).toArray } hp
  have hq1 := Heap.get?_push_of_some { cls := .type "list", data := .seq ([] : List Value).toArray } hq
  have hl1 : (s.heap.push { cls := .type "list", data := .seq ([] : List Value).toArray }).get? s.heap.objs.size = some { cls := .type "list", data := .seq ([] : List Value).toArray } := Heap.get?_push_size _ rfl
  have old : ∀ b o, s.heap.get? b = some o → (s.heap.push { cls := .type "list", data := .seq ([] : List Value).toArray }).get? b = some o := fun b o e => Heap.get?_push_of_some _ e
  have hlt : ∀ b o, s.heap.get? b = some o → b ≠ s.heap.objs.size := fun b o e => Nat.ne_of_lt (Heap.lt_size e)
  generalize s.heap.push { cls := .type "list", data := .seq ([] : List Value).toArray } = H at *
  generalize s.heap.objs.size = l at *
  unfold Builtin.«re.Pattern.sub.loop»
  dsimp only [rawInt]
  refine wpAny_bind (whole_target (s := { s with heap := H }) hp1 hq1 ?_)
  rw [if_neg (by decide)]
  refine wpAny_bind (wp_ifn (by decide) (run_end (run_fail hc) ?_))
  dsimp only
  have hx1 : (mkS [c]).length ≤ sizeLine := by rw [mkS_len, sizeLine_eq]; simp
  have e1 : (⟨#[c].extract (Int.toNat 0) 1⟩ : Str) = mkS [c] := by simp
  have e0 : (⟨#[c].extract 0 0⟩ : Str) = mkS [] := by simp
  refine wp_ifp (by decide) (wpAny_bind (m := reSlice #[c] 0 (Int.toNat 0) 1) ?_)
  show wpAny _ _ (mkStr ⟨#[c].extract (Int.toNat 0) 1⟩) _ _ _
  rw [e1]
  refine wpAny_mkStr ?_ hx1
  refine wpAny_bind (wpAny_updateSeq (s := { s with heap := H, toks := s.toks + 1 }) hl1 rfl ?_)
  obtain ⟨n', hl2⟩ := update_plain (n := 0) hl1 (·.push (.str (mkS [c]) s.toks))
  have old2 : ∀ b o, s.heap.get? b = some o → (H.update l (Obj.mapSeq (·.push (.str (mkS [c]) s.toks)))).get? b = some o := fun b o e => (Heap.get?_update_other _ _ (Ne.symm (hlt b o e))).trans (old b o e)
  generalize H.update l (Obj.mapSeq (·.push (.str (mkS [c]) s.toks))) = H2 at *
  refine wpAny_bind (m := reSlice #[c] 0 0 0) ?_
  show wpAny _ _ (mkStr ⟨#[c].extract 0 0⟩) _ _ _
  rw [e0]
  refine wpAny_mkStr ?_ (by rw [mkS_len]; simp)
  refine wpAny_bind (wpAny_seqItems (a := l) hl2 rfl (wp_ifn (fun q => absurd (show false = true from q) (by decide)) ?_))
  have hIL : H2.IsList l (strValues [(mkS [c], s.toks)]).toArray := ⟨_, hl2, rfl, n', rfl⟩
  refine wpAny_bind (SC.join (s := { s with heap := H2, toks := s.toks + 1 + 1 }) (texts := [mkS [c]]) hIL rfl (joinOk_of (by simp)) fun t'' k => ?_)
  have ej : Txt.join (mkS []) [mkS [c]] = mkS [c] := by
    unfold Txt.join; rw [StrLaws.glued_eq_join]; rfl
  rw [ej]
  refine wp_ifn (by decide) (wpAny_pure ?_)
  exact h _ _ _ old2
end
end Mine
end
section
open PySem PySem.Calls PySem.W PyProof.Rows
set_option maxRecDepth 100000
set_option maxHeartbeats 2000000
namespace Mine
/-- what `_translate`'s lambda and pattern want of the world -/
structure TwinAt (h0 : Heap) (mg : Str → Option Value) : Prop where
  twin : ∃ p q t u n, mg (Str.ofString "_twin_re_1") = some (.ref p) ∧ h0.get? p = some (patO q t u) ∧ h0.get? q = some { cls := .type "tuple", data := .seq reCodeV n }
  bm : h0.BuiltinsAt mg P0
  code : ∀ a o pm code doc, mg (nameS (stOf 25)) = some (.ref a) → h0.get? a = some o → o.data = .func (docDef (nameS (stOf 25)) (paramsS (stOf 25)) (bodyS (stOf 25)) (scopeS (stOf 25)) pm code doc) → ∃ cc, code = .ref cc ∧ CodeHd h0 cc P0
section
variable {prog : Program} {w : World} {h0 : Heap} {c : Cx} {σ : St} {μ : Mu} {Φ : AF → Prop} {mg mb : Str → Option Value}
theorem lam_run {params : Arguments} {body : Expr} {scope : Scope} {lp : Pos} {cc : Addr} (G : Gd prog w h0 mg mb) (hcode : c.env.code = .ref cc) (C : CodeHd h0 cc P0) (bm : h0.BuiltinsAt mg P0)
    (hdef : defaultsOf params c.env = ([], [])) (hcl : closureFor scope c.env = pure []) {s : Shared} (P : PSt h0 c σ μ s) {Q : Value → Shared → Prop}
    (h : ∀ f s', KM s s' → TabOk s'.heap → s'.TypeIs (.ref f) "function" → Q (.ref f) s') : wpAny (model prog w) c.A (eval (.Lambda params body scope lp) c.env) Q NoE s := by
  obtain ⟨ps, e, ht⟩ := P.tab
  have hg := G.g.keeps P.base
  have C' := C.keeps P.base
  have bm' : s.heap.BuiltinsAt mg P0 := let ⟨b, o, h1, h2, h3, h4, h5, r⟩ := bm; ⟨b, o, h1, h2, h3, h4, P.base _ _ h5, r⟩
  refine kla_eval hdef ?_
  cases hca : codeAmong lp ps.toList with
  | none =>
    refine kla_makeFunction hcl P.ok.globals hg hcode C' e ht hca (by decide) bm' fun c' ctv h' tk hx hge hlt hrec htb => ?_
    refine h _ _ ⟨_, tk, rfl, fun b o n e => Heap.get?_push_of_some _ (hx b o n e)⟩ ⟨_, Heap.get?_push_of_some _ htb, ?_⟩ ⟨_, Heap.get?_push_size _ rfl, rfl⟩
    rw [Array.toList_append]
    exact TriplesOk_snoc _ _ _ _ ht
  | some cv =>
    refine kla_makeFunctionHit hcl P.ok.globals hg hcode C' e ht hca bm' fun ctv h' tk hk hsz => ?_
    exact h _ _ ⟨_, tk, rfl, fun b o n e => Heap.get?_push_of_some _ (hk b o e)⟩ ⟨_, Heap.get?_push_of_some _ (hk _ _ e), ht⟩ ⟨_, Heap.get?_push_size _ rfl, rfl⟩
theorem EvM.sub {x : Nat} {params : Arguments} {body : Expr} {scope : Scope} {p1 ap lp p2 pos : Pos} {y : String} {cc p q : Addr} {t u : Tok} {n : Nat} (G : Gd prog w h0 mg mb) (hid : h0.get? P0 = none) (hcode : c.env.code = .ref cc) (C : CodeHd h0 cc P0) (bm : h0.BuiltinsAt mg P0)
    (hp : h0.get? p = some (patO q t u)) (hq : h0.get? q = some { cls := .type "tuple", data := .seq reCodeV n }) (hgl : GlJ prog w h0 c σ μ (Str.ofString "_twin_re_1") (.ref p))
    (hx : x ∈ [42, 63, 91]) (hy : σ.lookup y = some (.str [x])) (hdef : defaultsOf params c.env = ([], [])) (hcl : closureFor scope c.env = pure [])
    (hline : (ap.endLine == pos.line) = true := by rfl)
    (hse : starEach [.Lambda params body scope lp, .Name (Str.ofString y) p2] c.env = [(false, eval (.Lambda params body scope lp) c.env), (false, eval (.Name (Str.ofString y) p2) c.env)] := by rfl) :
    EvM prog w h0 c σ μ (.Call (.Attribute (.Name (Str.ofString "_twin_re_1") p1) (Str.ofString "sub") ap) [.Lambda params body scope lp, .Name (Str.ofString y) p2] [] pos) (.str [x]) := fun s P => by
  refine wpAny_Call_method (T := "re.Pattern") (id := "re.Pattern.sub") rfl (by rw [hse]; rfl) hline pa_pat slot_sub type_sub (hgl p1 s P _ ⟨⟨_, P.base _ _ hp, rfl⟩, fun a e => by cases e; exact ⟨_, P.base _ _ hp, rfl⟩, ?_⟩)
  rw [hse]
  refine callWith_builtin rfl (evalArgs_gen rfl (spliced_cons (lam_run G hcode C bm hdef hcl P fun f s₁ k₁ t₁ hf => ?_)))
  have P₁ := P.chg k₁ t₁ hid
  refine spliced_cons ((Ev.name hy).run P₁ fun v s₂ k₂ P₂ r => spliced_nil ?_)
  obtain ⟨z, t', rfl⟩ := unS r
  have hf₂ : s₂.TypeIs (.ref f) "function" := let ⟨o, e, ec⟩ := hf; ⟨o, kp k₂ _ _ e, ec⟩
  refine sub_run hx (P₂.base _ _ hp) (P₂.base _ _ hq) hf₂ fun h' tk t'' hk => ?_
  have k₃ : Keeps s₂ { s₂ with heap := h', toks := tk } := ⟨h', tk, rfl, hk⟩
  exact ⟨k₁.trans ((KM.of k₂).trans (KM.of k₃)), P₂.tab.keeps hk, repS (by simp)⟩
end
end Mine
end
section
open PySem PySem.Calls PySem.W PyProof.Rows
open PySem.Builtin PySem.Builtin.Str
set_option maxRecDepth 100000
set_option maxHeartbeats 4000000
namespace Mine
local macro_rules | `(tactic| trivial) => `(tactic| exact kd ‹_› (by decide +kernel))
inductive Tk where
  | star | quest | brk (x : Nat) | pl (x : Nat)
def spell : Tk → List Nat
  | .star => [42]
  | .quest => [63]
  | .brk x => [91, x, 93]
  | .pl x => [x]
def okTk : Tk → Prop
  | .brk x => x ∈ [42, 63, 91]
  | .pl x => x ∈ [47, 93, 45, 33, 94, 97]
  | _ => True
def brkL (x : Nat) : List Nat := lit "[" ++ (if x = 91 then lit "\\" ++ [x] else [x]) ++ lit "]"
def outT (sa : Addr) : Tk → D
  | .star => .adr sa
  | .quest => .str [46]
  | .brk x => .str (brkL x)
  | .pl x => .str (escL x)
abbrev patOf (l : List Tk) : List Nat := l.flatMap spell
abbrev posT (l : List Tk) (j : Nat) : Nat := (patOf (l.take j)).length
theorem pos_split {l : List Tk} {j : Nat} {t : Tk} (h : l[j]? = some t) : patOf l = patOf (l.take j) ++ (spell t ++ patOf (l.drop (j + 1))) := by
  obtain ⟨hj, e⟩ := List.getElem?_eq_some_iff.mp h
  conv => lhs; rw [← List.take_append_drop j l, List.drop_eq_getElem_cons hj, e]
  unfold patOf
  rw [List.flatMap_append, List.flatMap_cons]
theorem pos_next {l : List Tk} {j : Nat} {t : Tk} (h : l[j]? = some t) : posT l (j + 1) = posT l j + (spell t).length := by
  unfold posT patOf; rw [List.take_add_one, h, List.flatMap_append, List.length_append]; simp
theorem pos_le {l : List Tk} {j : Nat} {t : Tk} (h : l[j]? = some t) : posT l j + (spell t).length ≤ (patOf l).length := by
  have := congrArg List.length (pos_split h)
  rw [List.length_append, List.length_append] at this; unfold posT; omega
theorem pos_get {l : List Tk} {j r : Nat} {t : Tk} {x : Nat} (h : l[j]? = some t) (hx : (spell t)[r]? = some x) : (patOf l)[posT l j + r]? = some x := by
  have hr := (List.getElem?_eq_some_iff.mp hx).1
  rw [pos_split h, List.getElem?_append_right (by unfold posT; omega), List.getElem?_append_left (by unfold posT; omega)]
  unfold posT; rw [Nat.add_sub_cancel_left]; exact hx
theorem slc_nat {α : Type} {l : List α} {i j : Nat} (hi : i ≤ l.length) (hj : j ≤ l.length) : slc (some (i : Int)) (some (j : Int)) l = (l.drop i).take (j - i) := by
  have e : ∀ (k d : Nat), k ≤ l.length → clipI (some (k : Int)) d l.length = k := fun k d h => by unfold clipI; simp only; rw [if_neg (by omega)]; omega
  unfold slc; rw [e _ _ hi, e _ _ hj]
theorem repl_none {x : Nat} (h : x ∈ [42, 63, 91]) : (occurrences (mkS [x]) (mkS [92]) 0 (mkS [x]).length ((mkS [x]).length + 1)).isEmpty = true := by
  have : ∀ x ∈ [42, 63, 91], (occurrences (mkS [x]) (mkS [92]) 0 (mkS [x]).length ((mkS [x]).length + 1)).isEmpty = true := by decide +kernel
  exact this x h
section
variable {prog : Program} {w : World} {h0 : Heap} {c : Cx} {σ : St} {μ : Mu} {Φ : AF → Prop} {mg mb : Str → Option Value}
theorem tr_ok (W : Wd prog w h0 mg mb) (Sp : SpecAt prog w h0 mg) (Tw : TwinAt h0 mg) (hid : h0.get? P0 = none) {ad : Addr} (Da : DefAt h0 mg 25 ad) {sa : Addr} {l : List Tk} (hl : l.length ≤ 1000) (hok : ∀ t ∈ l, okTk t) (hadj : ∀ j : Nat, l[j + 1]? = some .star → l[j]? ≠ some .star) :
    FnM prog w h0 2 ad [.str (patOf l), .adr sa, .str [46]] (.lst (l.map (outT sa))) := by
  have Da' := Da
  refine fn_ofM (names := ["pat", "STAR", "QUESTION_MARK"]) hid W.nolimit Da (by rfl) (by rfl) (by rfl) (fun pm code doc => Bind.pos3 fun u v w => rfl) (by decide +kernel) (by decide) (by decide) fun c hc hk hce hM hcode => ?_
  obtain ⟨ae, De⟩ := W.fn 23 (by decide)
  have hlen : (patOf l).length ≤ 3 * l.length := by
    unfold patOf
    clear hl hok hadj
    induction l with
    | nil => simp
    | cons t l ih => rw [List.flatMap_cons, List.length_append, List.length_cons]; cases t <;> simp only [spell, List.length_cons, List.length_nil] <;> omega
  refine X.cons (X1.own (ds := []) (Fr.list AJ.nil (by simp)) (.inl (by trivial)) fun a ha => ?_)
  refine X.cons (X1.as (d := .bnd a) (Ev.bapp (a := a) nm lk_self (fun _ _ h => eval_attr h)) ?_)
  refine X.cons (X1.swap2 (Pr.ev (d := .int 0) Ev.cint) (fun d1 μ1 hh => Pr.ev (d := .int (patOf l).length) (by obtain ⟨rfl, rfl⟩ := hh; exact Ev.cb W Ca.lenS (A1 nm))) (by trivial) (by trivial) (by decide) (by decide) (swap_names (by rw [hc]; rfl) (by trivial) (by trivial)) ?_)
  rintro d1 μ1 d2 μ2 ⟨rfl, rfl⟩ ⟨rfl, rfl⟩
  generalize hN : (patOf l).length = N at *
  let S : Nat → St := fun i => [("i", .int i), ("n", .int N), ("pat", .str (patOf l)), ("STAR", .adr sa), ("QUESTION_MARK", .str [46]), ("add", .bnd a), ("res", .mut a)]
  have subS : ∀ {σ : St} {i : Nat}, σ.lookup "i" = some (.int i) → σ.lookup "n" = some (.int N) → σ.lookup "pat" = some (.str (patOf l)) → σ.lookup "STAR" = some (.adr sa) → σ.lookup "QUESTION_MARK" = some (.str [46]) → σ.lookup "add" = some (.bnd a) → σ.lookup "res" = some (.mut a) → Sub σ (S i) :=
    fun h1 h2 h3 h4 h5 h6 h7 => Sub.cons h1 (Sub.cons h2 (Sub.cons h3 (Sub.cons h4 (Sub.cons h5 (Sub.cons h6 (Sub.cons h7 Sub.nil))))))
  refine X.cons (X1.while (fun m σ μ => ∃ j, m = l.length - j ∧ j ≤ l.length ∧ Sub σ (S (posT l j)) ∧ μ = [(a, (l.take j).map (outT sa))]) l.length ⟨0, rfl, Nat.zero_le _, subS rfl rfl rfl rfl rfl rfl rfl, rfl⟩ ?_)
  rintro m σ' μ' ⟨j, rfl, hj, hs, rfl⟩
  refine ⟨decide (((posT l j : Nat) : Int) < (N : Int)), Ts.cmp (nm (hs _ _ rfl)) (nm (hs _ _ rfl)) Cm.lt, fun hlt => ?_, fun hge => ?_⟩
  · have hjl : j < l.length := by
      rcases Nat.lt_or_ge j l.length with h | h
      · exact h
      · have : posT l j = N := by unfold posT; rw [List.take_of_length_le h, hN]
        rw [this] at hlt; simp at hlt
    obtain ⟨t, ht⟩ : ∃ t, l[j]? = some t := ⟨_, List.getElem?_eq_getElem hjl⟩
    have hot := hok t (List.mem_of_getElem? ht)
    have hle := pos_le ht
    have hnx := pos_next ht
    have hout : (l.take (j + 1)).map (outT sa) = (l.take j).map (outT sa) ++ [outT sa t] := by rw [List.take_add_one, ht]; simp
    refine X.sub ?_ hs
    generalize hp : posT l j = i at *
    have hi : i < N := by have h1 : 1 ≤ (spell t).length := by { cases t <;> simp [spell] }
                          omega
    have done : ∀ {σ : St} {ds : List D}, Sub σ (S (posT l (j + 1))) → ds = (l.take (j + 1)).map (outT sa) → ∃ m, m < l.length - j ∧ ∃ j', m = l.length - j' ∧ j' ≤ l.length ∧ Sub σ (S (posT l j')) ∧ [(a, ds)] = [(a, (l.take j').map (outT sa))] :=
      fun h1 h2 => ⟨l.length - (j + 1), by omega, j + 1, rfl, hjl, h1, by rw [h2]⟩
    have acclen : ((l.take j).map (outT sa)).length < 1000000 := by rw [List.length_map, List.length_take]; omega
    have c0 : ∀ {x}, (spell t)[0]? = some x → (patOf l)[at_ (i : Int) (patOf l).length]? = some x := fun h => by rw [at_nat]; have := pos_get ht h; rw [hp] at this; simpa using this
    cases t with
    | star =>
      refine X.cons (X1.as (Ev.itemS (k := i) nm nm (c0 rfl) (by omega) (by omega)) ?_)
      refine X.cons (X1.as (d := .int ((i : Int) + 1)) (Ev.bin nm Ev.cint Bi.add) ?_)
      refine X.cons (X1.if (q := true) (TsJ.cast (Ts.cmp nm cs Cm.eqS) (by decide)) (fun _ => ?_) fun h => nomatch h)
      refine X.cons (X1.if (q := true) ?_ (fun _ => ?_) fun h => nomatch h)
      · cases j with
        | zero => exact Ts.or (a := true) (b := true) (Ts.not (Ts.plain nm (Tr.li (Li.mut lk_self)))) fun h => nomatch h
        | succ j' =>
          obtain ⟨t', ht'⟩ : ∃ t', l[j']? = some t' := ⟨_, List.getElem?_eq_getElem (by omega)⟩
          have hne : t' ≠ .star := fun q => hadj j' ht (q ▸ ht')
          obtain ⟨y, hy⟩ : ∃ y, outT sa t' = .str y := by
            cases t' with
            | star => exact absurd rfl hne
            | quest => exact ⟨_, rfl⟩
            | brk x => exact ⟨_, rfl⟩
            | pl x => exact ⟨_, rfl⟩
          have hd : ((l.take (j' + 1)).map (outT sa)).getLast? = some (.str y) := by
            rw [List.take_add_one, ht']; simp [hy]
          obtain ⟨y1, y2⟩ := at_neg1 hd
          refine TsJ.cast (Ts.or (b := true || false) (Ts.not (Ts.plain nm (Tr.li (Li.mut lk_self)))) fun _ => Ts.or (Ts.cmp (Ev.itemL nm (Ev.neg Ev.cint) (Li.mut lk_self) y1 y2) nm Cm.isnotSA) fun _ => Ts.orN) (by simp)
      refine X.cons (X1.add (a := a) rfl lk_self nm acclen ?_)
      rw [setM_self]
      exact X.nil (X.nil (X.nil (done (by rw [hnx]; exact subS rfl rfl rfl rfl rfl rfl rfl) hout.symm)))
    | quest =>
      refine X.cons (X1.as (Ev.itemS (k := i) nm nm (c0 rfl) (by omega) (by omega)) ?_)
      refine X.cons (X1.as (d := .int ((i : Int) + 1)) (Ev.bin nm Ev.cint Bi.add) ?_)
      refine X.cons (X1.if (q := false) (TsJ.cast (Ts.cmp nm cs Cm.eqS) (by decide)) (fun h => nomatch h) fun _ => ?_)
      refine X.cons (X1.if (q := true) (TsJ.cast (Ts.cmp nm cs Cm.eqS) (by decide)) (fun _ => ?_) fun h => nomatch h)
      refine X.cons (X1.add (a := a) rfl lk_self nm acclen ?_)
      rw [setM_self]
      exact X.nil (X.nil (X.nil (done (by rw [hnx]; exact subS rfl rfl rfl rfl rfl rfl rfl) hout.symm)))
    | pl x =>
      have hx : x ∈ [47, 93, 45, 33, 94, 97] := hot
      have n1 : (([x] : List Nat) == lit "*") = false ∧ (([x] : List Nat) == lit "?") = false ∧ (([x] : List Nat) == lit "[") = false := by
        have : ∀ x ∈ [47, 93, 45, 33, 94, 97], (([x] : List Nat) == lit "*") = false ∧ (([x] : List Nat) == lit "?") = false ∧ (([x] : List Nat) == lit "[") = false := by decide
        exact this x hx
      refine X.cons (X1.as (Ev.itemS (k := i) nm nm (c0 rfl) (by omega) (by omega)) ?_)
      refine X.cons (X1.as (d := .int ((i : Int) + 1)) (Ev.bin nm Ev.cint Bi.add) ?_)
      refine X.cons (X1.if (q := false) (TsJ.cast (Ts.cmp nm cs Cm.eqS) n1.1) (fun h => nomatch h) fun _ => ?_)
      refine X.cons (X1.if (q := false) (TsJ.cast (Ts.cmp nm cs Cm.eqS) n1.2.1) (fun h => nomatch h) fun _ => ?_)
      refine X.cons (X1.if (q := false) (TsJ.cast (Ts.cmp nm cs Cm.eqS) n1.2.2) (fun h => nomatch h) fun _ => ?_)
      refine X.cons (X1.add (a := a) rfl lk_self (Ev.cf W De (esc_ok W Sp De hx) (A1 nm)) acclen ?_)
      rw [setM_self]
      exact X.nil (X.nil (X.nil (X.nil (done (by rw [hnx]; exact subS rfl rfl rfl rfl rfl rfl rfl) hout.symm))))
    | brk x =>
      have hx : x ∈ [42, 63, 91] := hot
      have n2 : (([x] : List Nat) == lit "!") = false ∧ (([x] : List Nat) == lit "]") = false ∧ (([x] : List Nat) != lit "]") = true ∧ Mine.inS (lit "-") [x] = false := by
        have h1 : ∀ x ∈ [42, 63, 91], (([x] : List Nat) == lit "!") = false ∧ (([x] : List Nat) == lit "]") = false ∧ (([x] : List Nat) != lit "]") = true ∧ 45 ∉ ([x] : List Nat) := by decide
        obtain ⟨q1, q2, q3, q4⟩ := h1 x hx
        refine ⟨q1, q2, q3, ?_⟩
        rw [show lit "-" = [45] by decide, inS_one]; simpa using q4
      have hnx' : posT l (j + 1) = i + 3 := hnx
      have hle' : i + 3 ≤ N := by rw [hN] at hle; exact hle
      have c1 : (patOf l)[at_ ((i + 1 : Nat) : Int) (patOf l).length]? = some x := by rw [at_nat]; have := pos_get (r := 1) ht rfl; rwa [hp] at this
      have c2 : (patOf l)[at_ ((i + 2 : Nat) : Int) (patOf l).length]? = some 93 := by rw [at_nat]; have := pos_get (r := 2) ht rfl; rwa [hp] at this
      have hcut : slc (some ((i + 1 : Nat) : Int)) (some ((i + 2 : Nat) : Int)) (patOf l) = [x] := by
        rw [slc_nat (by omega) (by omega)]
        have : (patOf l)[i + 1]? = some x := by rwa [at_nat] at c1
        obtain ⟨h1, h2⟩ := List.getElem?_eq_some_iff.mp this
        rw [List.drop_eq_getElem_cons h1, h2, show i + 2 - (i + 1) = 1 by omega]; rfl
      refine X.cons (X1.as (Ev.itemS (k := i) nm nm (c0 rfl) (by omega) (by omega)) ?_)
      refine X.cons (X1.as (d := .int ((i + 1 : Nat) : Int)) (Ev.bin nm Ev.cint Bi.add) ?_)
      refine X.cons (X1.if (q := false) (TsJ.cast (Ts.cmp nm cs Cm.eqS) (by decide)) (fun h => nomatch h) fun _ => ?_)
      refine X.cons (X1.if (q := false) (TsJ.cast (Ts.cmp nm cs Cm.eqS) (by decide)) (fun h => nomatch h) fun _ => ?_)
      refine X.cons (X1.if (q := true) (TsJ.cast (Ts.cmp nm cs Cm.eqS) (by decide)) (fun _ => ?_) fun h => nomatch h)
      refine X.cons (X1.as nm ?_)
      refine X.cons (X1.if (q := false) (TsJ.cast (Ts.and (Ts.cmp nm nm Cm.lt) fun _ => Ts.and (Ts.cmp (Ev.itemS (k := (i + 1 : Nat)) nm nm c1 (by omega) (by omega)) cs Cm.eqS) fun _ => Ts.andN) (by rw [n2.1]; simp)) (fun h => nomatch h) fun _ => X.nil ?_)
      refine X.cons (X1.if (q := false) (TsJ.cast (Ts.and (Ts.cmp nm nm Cm.lt) fun _ => Ts.and (Ts.cmp (Ev.itemS (k := (i + 1 : Nat)) nm nm c1 (by omega) (by omega)) cs Cm.eqS) fun _ => Ts.andN) (by rw [n2.2.1]; simp)) (fun h => nomatch h) fun _ => X.nil ?_)
      let T : Nat → St := fun jj => ("j", .int jj) :: S (i + 1)
      have lt1 : ∀ k : Nat, k < N → decide ((k : Int) < (N : Int)) = true := fun k h => decide_eq_true (by exact_mod_cast h)
      refine X.cons (X1.while (fun m σ μ => μ = [(a, (l.take j).map (outT sa))] ∧ ((m = 1 ∧ Sub σ (T (i + 1))) ∨ (m = 0 ∧ Sub σ (T (i + 2))))) 1 ⟨rfl, .inl ⟨rfl, Sub.cons rfl (subS rfl rfl rfl rfl rfl rfl rfl)⟩⟩ ?_)
      rintro m σ₃ μ₃ ⟨rfl, ⟨rfl, hs₃⟩ | ⟨rfl, hs₃⟩⟩
      · refine ⟨true, ?_, fun _ => ?_, fun h => nomatch h⟩
        · intro s SS
          exact (TsJ.cast (Ts.and (Ts.cmp (nm (hs₃ _ _ rfl)) (nm (hs₃ _ _ rfl)) Cm.lt) fun _ => Ts.and (Ts.cmp (Ev.itemS (k := (i + 1 : Nat)) (nm (hs₃ _ _ rfl)) (nm (hs₃ _ _ rfl)) c1 (by omega) (by omega)) cs Cm.neS) fun _ => Ts.andN) (by rw [n2.2.2.1, lt1 _ (by omega)]; rfl)) s SS
        · refine X.sub ?_ hs₃
          refine X.cons (X1.as (d := .int ((i + 2 : Nat) : Int)) (Ev.bin nm Ev.cint Bi.add) ?_)
          exact X.nil ⟨0, by omega, rfl, .inr ⟨rfl, Sub.cons rfl (subS rfl rfl rfl rfl rfl rfl rfl)⟩⟩
      · refine ⟨false, ?_, (fun h => nomatch h), fun _ => ?_⟩
        · intro s SS
          exact (TsJ.cast (Ts.and (Ts.cmp (nm (hs₃ _ _ rfl)) (nm (hs₃ _ _ rfl)) Cm.lt) fun _ => Ts.and (Ts.cmp (Ev.itemS (k := (i + 2 : Nat)) (nm (hs₃ _ _ rfl)) (nm (hs₃ _ _ rfl)) c2 (by omega) (by omega)) cs Cm.neS) fun _ => Ts.andN) (by rw [show (([93] : List Nat) != lit "]") = false by decide]; simp)) s SS
        · refine X.sub ?_ hs₃
          refine X.cons (X1.if (q := false) (TsJ.cast (Ts.cmp nm nm Cm.ge) (decide_eq_false (by omega))) (fun h => nomatch h) fun _ => ?_)
          refine X.cons (X1.as (d := .str [x]) (hcut ▸ Ev.sliceS nm (Pa.so nm) (Pa.so nm)) ?_)
          refine X.cons (X1.if (q := true) (TsJ.cast (Ts.cmp cs nm Cm.ninS) (by rw [n2.2.2.2]; rfl)) (fun _ => ?_) fun h => nomatch h)
          refine X.cons (X1.as (Ev.meth nm Ty.str PySem.F.plainAttrs_str PySem.F.slot_str_replace PySem.F.type_str_replace (A2 (d := .str [92]) (cs) cs) (Ca.repl0 (repl_none hx))) (X.nil ?_))
          obtain ⟨o, pm, doc, hc1, hc2⟩ := hcode
          obtain ⟨cc, hcc, Ccd⟩ := Tw.code ad o pm c.env.code doc (by obtain ⟨_, _, _, _, hmg, _⟩ := Da'; exact hmg) hc1 hc2
          obtain ⟨p, q, t1, u1, n1, m1, m2, m3⟩ := Tw.twin
          refine X.cons (X1.asM hM (EvM.sub W.toGd hid hcc Ccd Tw.bm m2 m3 (Gl.glob W.toGd (by trivial) m1 (by decide)) hx rfl (by rfl) (closureFor_none (by decide +kernel))) ?_)
          refine X.cons (X1.as (d := .int ((i + 3 : Nat) : Int)) (Ev.bin nm Ev.cint Bi.add) ?_)
          refine X.cons (X1.if (q := false) (TsJ.cast (Ts.not (Ts.plain nm Tr.str)) rfl) (fun h => nomatch h) fun _ => ?_)
          refine X.cons (X1.if (q := false) (TsJ.cast (Ts.cmp nm cs Cm.eqS) n2.1) (fun h => nomatch h) fun _ => ?_)
          have x0 : ([x] : List Nat)[at_ (0 : Int) ([x] : List Nat).length]? = some x := rfl
          refine X.cons (X1.if (q := false) (TsJ.cast (Ts.cmp (Ev.itemS (k := 0) nm Ev.cint x0 (by simp) (by decide)) cs Cm.eqS) n2.1) (fun h => nomatch h) fun _ => ?_)
          have zb : (lit "[").length = 1 ∧ (lit "]").length = 1 ∧ (lit "\\").length = 1 := by decide
          by_cases h91 : x = 91
          · subst h91
            refine X.cons (X1.if (q := true) (TsJ.cast (Ts.cmp (Ev.itemS (k := 0) nm Ev.cint x0 (by simp) (by decide)) (Ev.dtuple (ds := dS [lit "^", lit "["]) (A2 cs cs) (by simp)) Cm.inT) (by decide)) (fun _ => ?_) fun h => nomatch h)
            refine X.cons (X1.as (d := .str (lit "\\" ++ [91])) (Ev.bin cs nm (Bi.addS (by simp; omega))) ?_)
            refine X.nil (X.nil ?_)
            refine X.cons (X1.add (a := a) (d := .str (brkL 91)) rfl lk_self (Ev.f3 cs (Ev.fv nm) cs (by simp; omega)) acclen ?_)
            rw [setM_self]
            repeat refine X.nil ?_
            exact done (by rw [hnx']; exact subS rfl rfl rfl rfl rfl rfl rfl) hout.symm
          · have hb : brkL x = lit "[" ++ [x] ++ lit "]" := by unfold brkL; rw [if_neg h91]
            have nin : [lit "^", lit "["].contains [x] = false := by
              have : ∀ x ∈ [42, 63, 91], x ≠ 91 → [lit "^", lit "["].contains [x] = false := by decide
              exact this x hx h91
            refine X.cons (X1.if (q := false) (TsJ.cast (Ts.cmp (Ev.itemS (k := 0) nm Ev.cint x0 (by simp) (by decide)) (Ev.dtuple (ds := dS [lit "^", lit "["]) (A2 cs cs) (by simp)) Cm.inT) nin) (fun h => nomatch h) fun _ => ?_)
            refine X.nil (X.nil ?_)
            refine X.cons (X1.add (a := a) (d := .str (brkL x)) rfl lk_self (hb ▸ Ev.f3 cs (Ev.fv nm) cs (by simp; omega)) acclen ?_)
            rw [setM_self]
            repeat refine X.nil ?_
            exact done (by rw [hnx']; exact subS rfl rfl rfl rfl rfl rfl rfl) hout.symm
  · have hje : j = l.length := by
      rcases Nat.lt_or_ge j l.length with h | h
      · obtain ⟨t, ht⟩ : ∃ t, l[j]? = some t := ⟨_, List.getElem?_eq_getElem h⟩
        have := pos_le ht
        have h1 : 1 ≤ (spell t).length := by cases t <;> simp [spell]
        have : ¬ posT l j < N := fun q => by rw [decide_eq_true (by exact_mod_cast q)] at hge; cases hge
        omega
      · omega
    subst hje
    have hpN : posT l l.length = N := by unfold posT; rw [List.take_length, hN]
    rw [hpN] at hs
    rw [List.take_length]
    refine X.sub ?_ hs
    refine X.cons (X1.assert (TsJ.cast (b := ((N : Nat) : Int) == (N : Int)) (Ts.cmp nm nm Cm.eqI) (by simp)) ?_)
    exact X.cons (X1.ret nm ⟨_, _, rfl, .mut (.head _) (.refl _ _)⟩)
end
end Mine
end
section
open PySem PySem.Calls PySem.W PyProof.Rows
open PySem.Builtin PySem.Builtin.Str
set_option maxRecDepth 100000
set_option maxHeartbeats 4000000
namespace Mine
local macro_rules | `(tactic| trivial) => `(tactic| exact kd ‹_› (by decide +kernel))
section
variable {prog : Program} {w : World} {h0 : Heap} {c : Cx} {σ : St} {μ : Mu} {Φ : AF → Prop} {mg mb : Str → Option Value}
theorem cdot {k : Nat} {pos : Pos} : EvJ prog w h0 c σ μ (.Constant (.str (Str.ofString ".")) k pos) (.str [46]) := by
  have := cs (prog := prog) (w := w) (h0 := h0) (c := c) (σ := σ) (μ := μ) (x := ".") (k := k) (pos := pos)
  rwa [lit_dt] at this
theorem transl_ok (W : Wd prog w h0 mg mb) (Sp : SpecAt prog w h0 mg) (Tw : TwinAt h0 mg) (hid : h0.get? P0 = none) {ad : Addr} (Da : DefAt h0 mg 20 ad) {l : List Tk} {pre ns : List (List Nat)} (hl : l.length ≤ 1000) (hok : ∀ t ∈ l, okTk t) (hadj : ∀ j : Nat, l[j + 1]? = some .star → l[j]? ≠ some .star)
    (hparts : ∀ sa, l.map (outT sa) = parts sa pre ns) (hp : pre.length ≤ 100) (hn : ns.length ≤ 100) (hpl : ∀ x ∈ pre, x.length ≤ 100) (hnl : ∀ x ∈ ns, x.length ≤ 100) :
    FnM prog w h0 3 ad [.str (patOf l)] (.str (jtp pre ns)) := by
  refine fn_ofM (names := ["pat"]) hid W.nolimit Da (by rfl) (by rfl) (by rfl) (fun pm code doc => Bind.pos1 fun u => rfl) (by decide +kernel) (by decide) (by decide) fun c hc hk hce hM hcode => ?_
  obtain ⟨at_, Dt⟩ := W.fn 25 (by decide)
  obtain ⟨aj, Dj⟩ := W.fn 26 (by decide)
  refine X.cons (X1.ownP (Pr.obj W (by trivial)) (.inl (by trivial)) ?_ (by decide))
  rintro d μ' ⟨sa, rfl, rfl⟩
  have ht := tr_ok W Sp Tw hid Dt (sa := sa) hl hok hadj
  rw [hparts] at ht
  refine X.cons (X1.asM hM (EvM.cf W Dt ht (A3 nm nm cdot)) ?_)
  exact X.cons (X1.ret (Ev.cf W Dj (jtp_ok W Dj hp hn hpl hnl) (A2 nm nm)) ⟨_, _, rfl, .refl _⟩)
/-- the head's pattern: a slash or a question mark each, a star -/
def headTk (n : Nat) : List Tk := (if n = 0 then [.pl 47] else (List.replicate n [Tk.pl 47, Tk.quest]).flatten) ++ [.star]
def nameTk (x : Nat) : Tk := if x ∈ [42, 63, 91] then .brk x else .pl x
def wantTk (x n : Nat) : List Tk := .star :: (List.replicate n [nameTk x, Tk.star]).flatten
def nameOut (x : Nat) : List Nat := if x ∈ [42, 63, 91] then brkL x else escL x
def headPre (n : Nat) : List (List Nat) := if n = 0 then [[47]] else (List.replicate n [[47], [46]]).flatten
theorem head_ok (W : Wd prog w h0 mg mb) (Sp : SpecAt prog w h0 mg) (Tw : TwinAt h0 mg) (hid : h0.get? P0 = none) {ad : Addr} (Da : DefAt h0 mg 20 ad) {n : Nat} (hn : n ≤ 4) : FnM prog w h0 3 ad [.str (patOf (headTk n))] (.str (jtp (headPre n) [])) := by
  have h : ∀ n ≤ 4, (headTk n).length ≤ 1000 ∧ (∀ t ∈ headTk n, okTk t) ∧ (∀ j : Nat, (headTk n)[j + 1]? = some .star → (headTk n)[j]? ≠ some .star) ∧ (∀ sa, (headTk n).map (outT sa) = parts sa (headPre n) []) ∧ (headPre n).length ≤ 100 ∧ (∀ x ∈ headPre n, x.length ≤ 100) := by
    intro n hn
    have hpre : ∀ t ∈ (if n = 0 then [Tk.pl 47] else (List.replicate n [Tk.pl 47, Tk.quest]).flatten), t = .pl 47 ∨ t = .quest := by
      intro t ht
      split at ht
      · simp at ht; exact .inl ht
      · obtain ⟨q, hq, ht⟩ := List.mem_flatten.mp ht
        rw [List.eq_of_mem_replicate hq] at ht
        simpa using ht
    refine ⟨?_, ?_, ?_, ?_, ?_, ?_⟩
    · unfold headTk; rw [List.length_append]; split <;> simp; omega
    · intro t ht
      unfold headTk at ht
      rcases List.mem_append.mp ht with ht | ht
      · rcases hpre t ht with rfl | rfl
        · show 47 ∈ _; decide
        · trivial
      · simp at ht; subst ht; trivial
    · intro j h1 h2
      unfold headTk at h1 h2
      generalize (if n = 0 then [Tk.pl 47] else (List.replicate n [Tk.pl 47, Tk.quest]).flatten) = pl at *
      have hj : j < pl.length := by
        have := (List.getElem?_eq_some_iff.mp h1).1
        simp at this; omega
      rw [List.getElem?_append_left hj] at h2
      rcases hpre _ (List.mem_of_getElem? h2) with q | q <;> cases q
    · intro sa
      match n, hn with
      | 0, _ => rfl
      | 1, _ => rfl
      | 2, _ => rfl
      | 3, _ => rfl
      | 4, _ => rfl
    · match n, hn with
      | 0, _ => decide
      | 1, _ => decide
      | 2, _ => decide
      | 3, _ => decide
      | 4, _ => decide
    · match n, hn with
      | 0, _ => decide
      | 1, _ => decide
      | 2, _ => decide
      | 3, _ => decide
      | 4, _ => decide
  obtain ⟨h1, h2, h3, h4, h5, h6⟩ := h n hn
  exact transl_ok W Sp Tw hid Da h1 h2 h3 h4 h5 (by simp) h6 (by simp)
theorem want_ok (W : Wd prog w h0 mg mb) (Sp : SpecAt prog w h0 mg) (Tw : TwinAt h0 mg) (hid : h0.get? P0 = none) {ad : Addr} (Da : DefAt h0 mg 20 ad) {x n : Nat} (hx : x ∈ [42, 91, 63, 93, 45, 33, 94, 97]) (hn : n ≤ 5) : FnM prog w h0 3 ad [.str (patOf (wantTk x n))] (.str (jtp [] (List.replicate n (nameOut x)))) := by
  have ho : ∀ sa, outT sa (nameTk x) = .str (nameOut x) := by
    intro sa; unfold nameTk nameOut; split <;> rfl
  have hk : okTk (nameTk x) := by
    have : ∀ x ∈ [42, 91, 63, 93, 45, 33, 94, 97], x ∉ [42, 63, 91] → x ∈ [47, 93, 45, 33, 94, 97] := by decide
    unfold nameTk; split
    · assumption
    · exact this x hx ‹_›
  have hne : nameTk x ≠ .star := by unfold nameTk; split <;> simp
  have hlen : (nameOut x).length ≤ 100 := by
    have : ∀ x ∈ [42, 91, 63, 93, 45, 33, 94, 97], (nameOut x).length ≤ 100 := by decide
    exact this x hx
  refine transl_ok W Sp Tw hid Da (l := wantTk x n) (by unfold wantTk; simp; omega) ?_ ?_ ?_ (by simp) (by simp; omega) (by simp) (fun y hy => (List.eq_of_mem_replicate hy) ▸ hlen)
  · intro t ht
    unfold wantTk at ht
    rcases List.mem_cons.mp ht with rfl | ht
    · trivial
    · obtain ⟨q, hq, ht⟩ := List.mem_flatten.mp ht
      rw [List.eq_of_mem_replicate hq] at ht
      simp at ht; rcases ht with rfl | rfl
      · exact hk
      · trivial
  · unfold wantTk
    generalize nameTk x = t at hne
    have gen : ∀ n, ∀ j : Nat, (Tk.star :: (List.replicate n [t, Tk.star]).flatten)[j + 1]? = some .star → (Tk.star :: (List.replicate n [t, Tk.star]).flatten)[j]? ≠ some .star := by
      intro n
      induction n with
      | zero => intro j h; simp at h
      | succ n ih =>
        intro j h
        rw [List.replicate_succ, List.flatten_cons] at h ⊢
        match j with
        | 0 => simp at h; exact absurd h hne
        | 1 => simpa using hne
        | j + 2 => exact ih j h
    exact gen n
  · intro sa
    unfold wantTk parts prs
    rw [List.map_cons]
    show D.adr sa :: _ = (dS [] ++ _ : List D)
    rw [show dS [] = ([] : List D) from rfl, List.nil_append]
    clear hn
    induction n with
    | zero => rfl
    | succ n ih =>
      rw [List.replicate_succ, List.flatten_cons, List.map_append, List.replicate_succ, List.flatMap_cons, List.append_assoc, ← ih]
      show D.adr sa :: (outT sa (nameTk x) :: D.adr sa :: _) = D.adr sa :: D.str (nameOut x) :: D.adr sa :: _
      rw [ho]; rfl
end
end Mine
end
section
open PySem PySem.Calls PySem.W PyProof.Rows
open PySem.Builtin PySem.Builtin.Str
set_option maxRecDepth 100000
set_option maxHeartbeats 4000000
namespace Mine
local macro_rules | `(tactic| trivial) => `(tactic| exact kd ‹_› (by decide +kernel))
def headL (text : List Nat) : List Nat :=
  let head := slc (some 4) (some (-5)) text
  if ((text == lit "(?s:" ++ head ++ lit ".*)\\Z") && (((Txt.stripChars (mkS head) (mkS (lit "/."))).cps.toList == []) && true)) = true then head else lit "x"
def headV (n : Nat) : List Nat := headL (jtp (headPre n) [])
section
variable {prog : Program} {w : World} {h0 : Heap} {c : Cx} {σ : St} {μ : Mu} {Φ : AF → Prop} {mg mb : Str → Option Value}
theorem cempty {k : Nat} {pos : Pos} : EvJ prog w h0 c σ μ (.Constant (.str (Str.ofString "")) k pos) (.str []) := by
  have := cs (prog := prog) (w := w) (h0 := h0) (c := c) (σ := σ) (μ := μ) (x := "") (k := k) (pos := pos)
  rwa [lit_e] at this
theorem lawhead_ok (W : Wd prog w h0 mg mb) (Sp : SpecAt prog w h0 mg) (Tw : TwinAt h0 mg) (hid : h0.get? P0 = none) {ad : Addr} (Da : DefAt h0 mg 36 ad) {n : Nat} (hn : n ≤ 4) : FnM prog w h0 4 ad [.str (patOf (headTk n))] (.str (headV n)) := by
  refine fn_ofM (names := ["pattern"]) hid W.nolimit Da (by rfl) (by rfl) (by rfl) (fun pm code doc => Bind.pos1 fun u => rfl) (by decide +kernel) (by decide) (by decide) fun c hc hk hce hM hcode => ?_
  obtain ⟨at_, Dt⟩ := W.fn 20 (by decide)
  refine X.cons (X1.asM hM (EvM.cf W Dt (head_ok W Sp Tw hid Dt hn) (A1 nm)) ?_)
  have hz : (jtp (headPre n) []).length ≤ 1000 := by
    have : ∀ n ≤ 4, (jtp (headPre n) []).length ≤ 1000 := by decide +kernel
    exact this n hn
  unfold headV
  generalize jtp (headPre n) [] = text at *
  have hh := slc_len (some 4) (some (-5)) text
  have l1 : (lit "(?s:").length = 4 ∧ (lit ".*)\\Z").length = 5 := by decide
  refine X.cons (X1.as (Ev.sliceS nm (Pa.so Ev.cint) (Pa.so (Ev.neg Ev.cint))) ?_)
  refine X.cons (X1.ret (d := .str (headL text)) (Ev.ife (q := ((text == lit "(?s:" ++ slc (some 4) (some (-5)) text ++ lit ".*)\\Z") && (((Txt.stripChars (mkS (slc (some 4) (some (-5)) text)) (mkS (lit "/."))).cps.toList == []) && true)))
    (Ts.and (Ts.cmp nm (Ev.bin (Ev.bin cs nm (Bi.addS (by omega))) cs (Bi.addS (by rw [List.length_append]; omega))) Cm.eqS) fun _ => Ts.and (Ts.cmp (Ev.meth nm Ty.str PySem.F.plainAttrs_str PySem.F.slot_str_strip PySem.F.type_str_strip (A1 cs) Ca.strip) cempty Cm.eqS) fun _ => Ts.andN) (fun h => ?_) fun h => ?_) ⟨_, _, rfl, .refl _⟩)
  · unfold headL; simp only; rw [if_pos h]; exact nm
  · unfold headL; simp only; rw [if_neg (by rw [h]; decide)]; exact cs
end
end Mine
end
section
open PySem PySem.Calls PySem.W PyProof.Rows
open PySem.Builtin PySem.Builtin.Str
set_option maxRecDepth 100000
namespace Mine
/-- the places of a text within another, none overlapping -/
def scan (y : List Nat) : List Nat → Nat → Nat → List Nat
  | [], _, _ => []
  | x :: r, i, free => if (Nat.ble free i && (x :: r).take y.length == y) = true then i :: scan y r (i + 1) (i + y.length) else scan y r (i + 1) free
theorem scan_short (y : List Nat) : ∀ (r : List Nat) (i free : Nat), r.length < y.length → scan y r i free = []
  | [], _, _, _ => rfl
  | x :: r, i, free, h => by
    rw [scan, if_neg]
    · exact scan_short y r _ _ (by simp at h; omega)
    · simp only [Bool.and_eq_true, beq_iff_eq]
      rintro ⟨_, e⟩
      have := congrArg List.length e
      rw [List.length_take] at this
      omega
theorem scan_loop (l y : List Nat) (hy : y ≠ []) (lim : Nat) : ∀ (r : List Nat) (i free : Nat) (acc : Array Nat), l.drop i = r → acc.size + r.length < lim →
    (forIn (List.range' i (l.length + 1 - i)) (acc, free) (StrLaws.occBody (mkS l) (mkS y) l.length lim)).run.fst.toList = acc.toList ++ scan y r i free
  | [], i, free, acc, hd, hl => by
    have hi : l.length ≤ i := by have := congrArg List.length hd; rw [List.length_drop, List.length_nil] at this; omega
    have hyl : 0 < y.length := List.length_pos_iff.mpr hy
    by_cases h : l.length + 1 - i = 0
    · rw [h]; simp [scan]
    · rw [show l.length + 1 - i = 0 + 1 by omega, List.range'_succ, List.forIn_cons]
      unfold StrLaws.occBody
      rw [if_neg (by rintro ⟨⟨_, q⟩, _⟩; rw [mkS_len] at q; omega)]
      simp [scan]
  | x :: r, i, free, acc, hd, hl => by
    have hlen : (l.drop i).length = r.length + 1 := by rw [hd]; rfl
    rw [List.length_drop] at hlen
    have hd' : l.drop (i + 1) = r := by
      have := congrArg List.tail hd
      rwa [List.tail_drop] at this
    rw [show l.length + 1 - i = (l.length + 1 - (i + 1)) + 1 by omega, List.range'_succ, List.forIn_cons, scan]
    have hsub : StrLaws.occBody (mkS l) (mkS y) l.length lim i (acc, free) = if (Nat.ble free i && (x :: r).take y.length == y) = true then pure (ForInStep.yield (acc.push i, i + y.length)) else pure (ForInStep.yield (acc, free)) := by
      have hlim : acc.size < lim := by simp only [List.length_cons] at hl; omega
      unfold StrLaws.occBody
      rw [StrLaws.subAt_eq]
      simp only [mkS_len, mkS_list, hd]
      by_cases h1 : free ≤ i
      · by_cases h2 : (x :: r).take y.length = y
        · have h3 : y.length ≤ r.length + 1 := by
            have := congrArg List.length h2
            rw [List.length_take, List.length_cons] at this; omega
          rw [if_pos ⟨⟨⟨hlim, h1⟩, by omega⟩, by simp [h2]⟩, if_pos (by simp [h2, Nat.ble_eq, h1])]
        · rw [if_neg (fun q => h2 (by simpa using q.2)), if_neg (fun q => h2 (by simpa using (Bool.and_eq_true_iff.mp q).2))]
      · rw [if_neg (fun q => h1 q.1.1.2), if_neg (fun q => h1 (by simpa [Nat.ble_eq] using (Bool.and_eq_true_iff.mp q).1))]
    rw [hsub]
    split
    · have ih := scan_loop l y hy lim r (i + 1) (i + y.length) (acc.push i) hd' (by simp only [List.length_cons, Array.size_push] at hl ⊢; omega)
      refine Eq.trans ih ?_
      simp
    · exact scan_loop l y hy lim r (i + 1) free acc hd' (by simp only [List.length_cons] at hl; omega)
theorem occ_scan (l y : List Nat) (hy : y ≠ []) : occurrences (mkS l) (mkS y) 0 l.length (l.length + 1) = scan y l 0 0 := by
  rw [StrLaws.occ_eq]
  have := scan_loop l y hy (l.length + 1) l 0 0 #[] rfl (by simp)
  simpa using this
def splF (g y : List Nat) : List (List Nat) := ((0 :: (scan y g 0 0).map (· + y.length)).zip (scan y g 0 0 ++ [g.length])).map fun p => (g.drop p.1).take (p.2 - p.1)
theorem spl_eq (g : List Nat) {y : List Nat} (hy : y ≠ []) (hk : Str.strKind (mkS y) = 1) : (Txt.split (mkS g) (mkS y)).map (fun p => p.cps.toList) = splF g y := by
  have h1 : ¬ (Str.strKind (mkS g) < Str.strKind (mkS y)) := by
    rw [hk]; unfold Str.strKind; split
    · omega
    · split <;> omega
  have one : splF g y = [g] → True := fun _ => trivial
  have nil1 : scan y g 0 0 = [] → splF g y = [g] := fun h => by unfold splF; rw [h]; simp
  unfold Txt.split
  rw [mkS_len, mkS_len]
  by_cases hl : g.length < y.length
  · rw [if_pos (by simp [hl]), nil1 (scan_short y g 0 0 hl)]; simp
  · rw [if_neg (by simp only [Bool.or_eq_true, decide_eq_true_eq]; rintro (h | h); exact hl h; exact h1 h), occ_scan g y hy]
    split
    · rename_i he
      rw [nil1 (by simpa using he)]; simp
    · unfold partsBetween splF
      rw [List.map_map, mkS_len]
      apply List.map_congr_left
      rintro ⟨i, j⟩ _
      show (strSub (mkS g) i j).cps.toList = _
      unfold strSub; simp
end Mine
end
section
open PySem PySem.Calls PySem.W PyProof.Rows
open PySem.Builtin PySem.Builtin.Str
set_option maxRecDepth 100000
set_option maxHeartbeats 4000000
namespace Mine
local macro_rules | `(tactic| trivial) => `(tactic| exact kd ‹_› (by decide +kernel))
def spl (g y : List Nat) : List (List Nat) := (Txt.split (mkS g) (mkS y)).map fun p => p.cps.toList
def grp (x n : Nat) : List (List Nat) := spl (jtp [] (List.replicate n (nameOut x))) (lit "(?>.*?")
def pce (g : List Nat) : List Nat := (spl g (lit ")")).headD []
def pcs (x n : Nat) : List (List Nat) := (slc (some 1) none (grp x n)).map pce
def ends (x n : Nat) : List (List Nat) := (slc none (some (-1)) (pcs x n)).map (· ++ lit ")") ++ (slc (some (-1)) none (pcs x n)).map (· ++ lit ").*)\\Z")
def wantL (x n : Nat) : List (List Nat) := (pcs x n).map signL
def wantOk (x n : Nat) : Bool := grp x n == lit "(?s:" :: ends x n && ((grp x n).all fun g => g.length ≤ 1000 && (spl g (lit ")")).isEmpty == false) && (pcs x n).all (fun p => p.length ≤ 1000) && (grp x n).length ≤ 100 && (jtp [] (List.replicate n (nameOut x))).length ≤ 1000
  && ([42] ++ repS' ((if Mine.inS [x] (lit "*?[") = true then lit "[" ++ [x] ++ lit "]" else [x]) ++ [42]) n == patOf (wantTk x n))
def grpF (x n : Nat) : List (List Nat) := splF (jtp [] (List.replicate n (nameOut x))) (lit "(?>.*?")
def pceF (g : List Nat) : List Nat := (splF g (lit ")")).headD []
def pcsF (x n : Nat) : List (List Nat) := (slc (some 1) none (grpF x n)).map pceF
def endsF (ps : List (List Nat)) : List (List Nat) := (slc none (some (-1)) ps).map (· ++ lit ")") ++ (slc (some (-1)) none ps).map (· ++ lit ").*)\\Z")
def inSF (a b : List Nat) : Bool := match a with
  | [x] => decide (x ∈ b)
  | _ => Mine.inS a b
theorem inS_F (a b : List Nat) : Mine.inS a b = inSF a b := by
  unfold inSF
  split
  · exact inS_one _ _
  · rfl
def signLF (piece : List Nat) : List Nat :=
  if [lit "\\" ++ signW piece, lit "[" ++ signW piece ++ lit "]", lit "[\\" ++ signW piece ++ lit "]"].contains piece = true then signW piece
  else if (piece == signW piece && (!inSF (signW piece) (lit ".^$*+?{}[]\\|()") && true)) = true then signW piece else []
theorem signL_F (p : List Nat) : signL p = signLF p := by unfold signL signLF; rw [inS_F]
theorem grp_F (x n : Nat) : grp x n = grpF x n := spl_eq _ (by decide) (by decide +kernel)
theorem pce_F (g : List Nat) : pce g = pceF g := by
  unfold pce pceF spl
  rw [spl_eq g (y := lit ")") (by decide) (by decide +kernel)]
theorem pcs_F (x n : Nat) : pcs x n = pcsF x n := by
  unfold pcs pcsF
  rw [grp_F, show pce = pceF from funext pce_F]
theorem splF_ne (g y : List Nat) : (splF g y).isEmpty = false := by
  unfold splF
  cases h : scan y g 0 0 <;> simp
/-- what is to be known of the groups and of the pieces, both at hand -/
def wantT (x n : Nat) (text : List Nat) (g ps : List (List Nat)) : Bool := g == lit "(?s:" :: endsF ps && (g.all fun g => g.length ≤ 1000) && ps.all (fun p => p.length ≤ 1000) && g.length ≤ 100 && text.length ≤ 1000
  && ([42] ++ repS' ((if inSF [x] (lit "*?[") = true then lit "[" ++ [x] ++ lit "]" else [x]) ++ [42]) n == patOf (wantTk x n)) && ps.map signLF == List.replicate n [x]
theorem want_all : ∀ x ∈ [42, 91, 63, 93, 45, 33, 94, 97], ∀ n ∈ [1, 2, 3, 4, 5], wantT x n (jtp [] (List.replicate n (nameOut x))) (grpF x n) (pcsF x n) = true := by decide +kernel
theorem wantOk_all : ∀ x ∈ [42, 91, 63, 93, 45, 33, 94, 97], ∀ n ∈ [1, 2, 3, 4, 5], wantOk x n = true := fun x hx n hn => by
  have h := want_all x hx n hn
  unfold wantT at h
  simp only [Bool.and_eq_true] at h
  obtain ⟨⟨⟨⟨⟨⟨h1, h2⟩, h3⟩, h4⟩, h5⟩, h6⟩, h7⟩ := h
  have he : ends x n = endsF (pcsF x n) := by unfold ends endsF; rw [pcs_F]
  unfold wantOk
  rw [he, grp_F, pcs_F, inS_F, h1, h3, h4, h5, h6]
  have h8 : (grpF x n).all (fun g => g.length ≤ 1000 && (spl g (lit ")")).isEmpty == false) = true := by
    rw [List.all_eq_true] at h2 ⊢
    intro g hg
    have e : spl g (lit ")") = splF g (lit ")") := spl_eq g (by decide) (by decide +kernel)
    rw [e, splF_ne, h2 g hg]; rfl
  rw [h8]; rfl
theorem wantL_all : ∀ x ∈ [42, 91, 63, 93, 45, 33, 94, 97], ∀ n ∈ [1, 2, 3, 4, 5], wantL x n = List.replicate n [x] := fun x hx n hn => by
  have h := want_all x hx n hn
  unfold wantT at h
  simp only [Bool.and_eq_true] at h
  have h7 := eq_of_beq h.2
  unfold wantL
  rw [pcs_F, show signL = signLF from funext signL_F]; exact h7
section
variable {prog : Program} {w : World} {h0 : Heap} {c : Cx} {σ : St} {μ : Mu} {Φ : AF → Prop} {mg mb : Str → Option Value}
theorem Cm.eqLL {l : List (List Nat)} (hk0 : 0 < c.k) : CmpJ prog w h0 c σ μ .Eq (.lst (dS l)) (.lst (dS l)) true := fun s x y P rx ry => by
  obtain ⟨z, a, its, rfl, ⟨n, hp⟩, rr⟩ := Li.lst s x P rx
  obtain ⟨z', b, its', rfl, ⟨n', hp'⟩, rr'⟩ := Li.lst s y P ry
  have e := li_size rr
  have e' := li_size rr'
  refine PySem.P.eq_list (e := fun _ => true) hp hp' (by omega) (fun j h1 h2 => ?_) (by have := P.ok.units; omega) ⟨kp_rfl, by simp⟩
  have hj : j < l.length := by rw [e] at h1; simpa [dS] using h1
  have hd : (dS l)[j]? = some (.str l[j]) := by simp [dS, hj]
  obtain ⟨v, hv, rv⟩ := rr.get hd
  obtain ⟨v', hv', rv'⟩ := rr'.get hd
  have q1 : its[j] = v := by have : its.toList[j]? = some v := hv; simpa [h1] using this
  have q2 : its'[j] = v' := by have : its'.toList[j]? = some v' := hv'; simpa [h2] using this
  rw [q1, q2]
  obtain ⟨_, t, rfl⟩ := unS rv
  obtain ⟨_, u, rfl⟩ := unS rv'
  intro prog w A E s Q h
  exact wpAny_eqBool_str (by simpa using h)
end
end Mine
end
section
open PySem PySem.Calls PySem.W PyProof.Rows
open PySem.Builtin PySem.Builtin.Str
set_option maxRecDepth 100000
set_option maxHeartbeats 4000000
namespace Mine
local macro_rules | `(tactic| trivial) => `(tactic| exact kd ‹_› (by decide +kernel))
theorem slc_map {α β : Type} (f : α → β) (lo hi : Option Int) (l : List α) : slc lo hi (l.map f) = (slc lo hi l).map f := by
  unfold slc; rw [List.length_map, List.map_take, List.map_drop]
theorem map_flat {α : Type} (f : α → D) (l : List α) : l.map f = l.flatMap fun a => if true = true then [f a] else [] := by
  induction l with
  | nil => rfl
  | cons a l ih => rw [List.map_cons, List.flatMap_cons, ih]; rfl
section
variable {prog : Program} {w : World} {h0 : Heap} {c : Cx} {σ : St} {μ : Mu} {Φ : AF → Prop} {mg mb : Str → Option Value}
theorem wanted_ok (W : Wd prog w h0 mg mb) (Sp : SpecAt prog w h0 mg) (Tw : TwinAt h0 mg) (hid : h0.get? P0 = none) {ad : Addr} (Da : DefAt h0 mg 38 ad) {x n : Nat} (hx : x ∈ [42, 91, 63, 93, 45, 33, 94, 97]) (hn : n ∈ [1, 2, 3, 4, 5]) :
    FnM prog w h0 4 ad [.str [x], .int n] (.lst (dS (wantL x n))) := by
  have hn5 : n ≤ 5 := by have : ∀ n ∈ [1, 2, 3, 4, 5], n ≤ 5 := by decide
                         exact this n hn
  have hw := wantOk_all x hx n hn
  unfold wantOk at hw
  simp only [Bool.and_eq_true, List.all_eq_true, decide_eq_true_eq, beq_iff_eq] at hw
  obtain ⟨⟨⟨⟨⟨g1, g2⟩, g3⟩, g4⟩, g5⟩, g6⟩ := hw
  refine fn_ofM (names := ["sign", "count"]) hid W.nolimit Da (by rfl) (by rfl) (by rfl) (fun pm code doc => Bind.pos2 fun u v => rfl) (by decide +kernel) (by decide) (by decide) fun c hc hk hce hM hcode => ?_
  obtain ⟨atr, Dt⟩ := W.fn 20 (by decide)
  obtain ⟨as_, Ds⟩ := W.fn 37 (by decide)
  have lz : (lit "[").length = 1 ∧ (lit "]").length = 1 ∧ (lit "*").length = 1 ∧ (lit "*") = [42] := by decide
  obtain ⟨z1, z2, z3, z4⟩ := lz
  refine X.cons (X1.as (d := .str (if Mine.inS [x] (lit "*?[") = true then lit "[" ++ [x] ++ lit "]" else [x])) (Ev.ife (q := Mine.inS [x] (lit "*?[")) (Ts.cmp nm cs Cm.inS) (fun h => ?_) fun h => ?_) ?_)
  · rw [if_pos h]; exact Ev.bin (Ev.bin cs nm (Bi.addS (by simp; omega))) cs (Bi.addS (by simp; omega))
  · rw [if_neg (by rw [h]; decide)]; exact nm
  have hN : ((if Mine.inS [x] (lit "*?[") = true then lit "[" ++ [x] ++ lit "]" else [x]) : List Nat).length ≤ 3 := by
    split
    · simp; omega
    · simp
  generalize (if Mine.inS [x] (lit "*?[") = true then lit "[" ++ [x] ++ lit "]" else [x] : List Nat) = N at *
  have hrep : (repS' (N ++ [42]) (n : Int)).length ≤ 20 := by
    unfold repS'
    simp only [List.length_flatten, List.map_replicate, List.sum_replicate_nat, List.length_append, List.length_singleton, Int.toNat_natCast]
    calc n * (N.length + 1) ≤ 5 * 4 := Nat.mul_le_mul hn5 (by omega)
      _ = 20 := rfl
  have star : ∀ {σ : St} {μ : Mu} {k : Nat} {pos : Pos}, EvJ prog w h0 c σ μ (.Constant (.str (Str.ofString "*")) k pos) (.str [42]) := fun {σ μ k pos} => by
    have := cs (prog := prog) (w := w) (h0 := h0) (c := c) (σ := σ) (μ := μ) (x := "*") (k := k) (pos := pos)
    rwa [z4] at this
  have arg : ∀ {e : Expr} {σ : St} {μ : Mu}, EvJ prog w h0 c σ μ e (.str ([42] ++ repS' (N ++ [42]) n)) → EvJ prog w h0 c σ μ e (.str (patOf (wantTk x n))) := fun h => g6 ▸ h
  refine X.cons (X1.asM (d := .lst (dS (grp x n))) hM (EvM.meth hid (EvM.cf W Dt (want_ok W Sp Tw hid Dt hx hn5) (A1 (arg (Ev.bin star (Ev.bin (Ev.bin nm star (Bi.addS (by simp; omega))) nm (Bi.mulS (by omega) (by simp; omega) (by omega))) (Bi.addS (by simp only [List.length_singleton]; omega)))))) Ty.str PySem.F.plainAttrs_str PySem.F.slot_str_split PySem.F.type_str_split (A1 cs) (Ca.split (by decide) (by omega))) ?_)
  have gl1 : ∀ g ∈ slc (some 1) none (grp x n), g ∈ grp x n := fun g hg => by unfold slc at hg; exact List.mem_of_mem_drop (List.mem_of_mem_take hg)
  refine X.cons (X1.comp (outs := dS (pcs x n)) ?_ ?_ (by trivial) ?_ (by decide) (swaps_true (by rw [hc]; rfl) (by trivial) (by decide +kernel)))
  · have e : dS (pcs x n) = (slc (some 1) none (grp x n)).flatMap fun g => if true = true then [D.str (pce g)] else [] := by
      rw [← map_flat]; unfold pcs dS; rw [List.map_map]; rfl
    rw [e]
    refine Comp.one (xs := slc (some 1) none (grp x n)) D.str (fun _ => true) (fun g => .str (pce g)) (σ₀ := []) (by rw [← slc_map]; exact Ite.of (Ev.sliceL nm Li.lst (Pa.so Ev.cint) Pa.no) It.lst) hce (CapOk.of [] hc Sub.nil) (by decide +kernel) (by decide) rfl ?_ (fun c' g hin hg => If.no) (fun c' g hin hg _ => ?_) (by intro _; rfl)
    · rw [← map_flat, List.length_map]
      have := slc_len (some 1) none (grp x n)
      omega
    · obtain ⟨q1, q2⟩ := g2 g (gl1 g hg)
      have hx0 : (dS (spl g (lit ")")))[at_ (0 : Int) (dS (spl g (lit ")"))).length]? = some (.str (pce g)) := by
        unfold pce
        cases hsp : spl g (lit ")") with
        | nil => rw [hsp] at q2; simp at q2
        | cons y ys => rfl
      exact Ev.itemL (k := 0) (Ev.meth nm Ty.str PySem.F.plainAttrs_str PySem.F.slot_str_split PySem.F.type_str_split (A1 cs) (Ca.split (by decide) (by omega))) Ev.cint Li.lst hx0 (by omega)
  · have := slc_len (some 1) none (grp x n)
    unfold pcs; rw [List.length_map, List.length_map]; omega
  · have hpl : (pcs x n).length ≤ 100 := by
      have := slc_len (some 1) none (grp x n)
      unfold pcs; rw [List.length_map]; omega
    have e1 : (lit ")").length = 1 ∧ (lit ").*)\\Z").length = 6 := by decide
    have lb : ∀ lo hi, (slc lo hi (pcs x n)).length ≤ 100 := fun lo hi => Nat.le_trans (slc_len lo hi (pcs x n)) hpl
    have mem : ∀ lo hi, ∀ p ∈ slc lo hi (pcs x n), p ∈ pcs x n := fun lo hi p hp => by unfold slc at hp; exact List.mem_of_mem_drop (List.mem_of_mem_take hp)
    refine X.cons (X1.as (d := .lst (dS (ends x n))) (by
      have hd : dS (ends x n) = dS ((slc none (some (-1)) (pcs x n)).map (· ++ lit ")")) ++ dS ((slc (some (-1)) none (pcs x n)).map (· ++ lit ").*)\\Z")) := by unfold ends dS; rw [List.map_append]
      rw [hd]
      refine Ev.bin (Ev.comp ?_ ?_) (Ev.comp ?_ ?_) (Bi.addL Li.lst Li.lst ?_)
      · have e : dS ((slc none (some (-1)) (pcs x n)).map (· ++ lit ")")) = (slc none (some (-1)) (pcs x n)).flatMap fun g => if true = true then [D.str (g ++ lit ")")] else [] := by
          rw [← map_flat]; unfold dS; rw [List.map_map]; rfl
        rw [e]
        refine Comp.one (xs := slc none (some (-1)) (pcs x n)) D.str (fun _ => true) (fun g => .str (g ++ lit ")")) (σ₀ := []) (by rw [← slc_map]; exact Ite.of (Ev.sliceL nm Li.lst Pa.no (Pa.so (Ev.neg Ev.cint))) It.lst) hce (CapOk.of [] hc Sub.nil) (by decide +kernel) (by decide) rfl ?_ (fun c' g hin hg => If.no) (fun c' g hin hg _ => ?_) (by intro _; rfl)
        · rw [← map_flat, List.length_map]; have := lb none (some (-1)); omega
        · have := g3 g (mem _ _ g hg)
          exact Ev.bin nm cs (Bi.addS (by omega))
      · rw [List.length_map, List.length_map]; have := lb none (some (-1)); omega
      · have e : dS ((slc (some (-1)) none (pcs x n)).map (· ++ lit ").*)\\Z")) = (slc (some (-1)) none (pcs x n)).flatMap fun g => if true = true then [D.str (g ++ lit ").*)\\Z")] else [] := by
          rw [← map_flat]; unfold dS; rw [List.map_map]; rfl
        rw [e]
        refine Comp.one (xs := slc (some (-1)) none (pcs x n)) D.str (fun _ => true) (fun g => .str (g ++ lit ").*)\\Z")) (σ₀ := []) (by rw [← slc_map]; exact Ite.of (Ev.sliceL nm Li.lst (Pa.so (Ev.neg Ev.cint)) Pa.no) It.lst) hce (CapOk.of [] hc Sub.nil) (by decide +kernel) (by decide) rfl ?_ (fun c' g hin hg => If.no) (fun c' g hin hg _ => ?_) (by intro _; rfl)
        · rw [← map_flat, List.length_map]; have := lb (some (-1)) none; omega
        · have := g3 g (mem _ _ g hg)
          exact Ev.bin nm cs (Bi.addS (by omega))
      · rw [List.length_map, List.length_map]; have := lb (some (-1)) none; omega
      · rw [List.length_map, List.length_map, List.length_map, List.length_map]; have := lb (some (-1)) none; have := lb none (some (-1)); omega) ?_)
    have hend : (dS (ends x n)).length ≤ 200 := by
      unfold ends; rw [List.length_map, List.length_append, List.length_map, List.length_map]
      have := lb (some (-1)) none; have := lb none (some (-1)); omega
    refine X.cons (X1.ret (Ev.ife (q := true) (Ts.cmp (x := .lst (dS (grp x n))) (y := .lst (dS (grp x n))) nm (by
      rw [show dS (grp x n) = [D.str (lit "(?s:")] ++ dS (ends x n) by rw [g1]; rfl]
      exact Ev.bin (Ev.dlist (A1 cs) (by simp)) nm (Bi.addL Li.lst Li.lst (by simp only [List.length_singleton]; omega))) (Cm.eqLL (by omega))) (fun _ => ?_) fun h => nomatch h) ⟨_, _, rfl, .refl _⟩)
    have e : dS (wantL x n) = (pcs x n).flatMap fun p => if true = true then [D.str (signL p)] else [] := by
      rw [← map_flat]; unfold wantL dS; rw [List.map_map]; rfl
    refine Ev.comp ?_ (by unfold wantL; rw [List.length_map, List.length_map]; omega)
    rw [e]
    refine Comp.one (xs := pcs x n) D.str (fun _ => true) (fun p => .str (signL p)) (σ₀ := []) (Ite.of nm It.lst) hce (CapOk.of [] hc Sub.nil) (by decide +kernel) (by decide) rfl ?_ (fun c' p hin hp => If.no) (fun c' p hin hp _ => ?_) (by intro _; rfl)
    · rw [← map_flat, List.length_map]; omega
    · exact Ev.cf W Ds (sign_ok W Ds (g3 p hp)) (A1 nm) (by have := hin.2; omega) rfl (kd2 hin (by decide +kernel))
end
end Mine
end
section
open PySem PySem.Calls PySem.W PyProof.Rows
set_option maxRecDepth 100000
set_option maxHeartbeats 2000000
namespace Mine
structure ZApart (z TI TO i1 i2 : Addr) : Prop where
  TIz : TI ≠ z
  TOz : TO ≠ z
  i1z : i1 ≠ z
  i2z : i2 ≠ z
  TITO : TI ≠ TO
  TIi1 : TI ≠ i1
  TIi2 : TI ≠ i2
  TOi1 : TO ≠ i1
  TOi2 : TO ≠ i2
  i12 : i1 ≠ i2
abbrev SIt (h : Heap) (i : Addr) (X : Str) (t : Tok) (k : Nat) : Prop := h.IsStrIter i "str_ascii_iterator" X t k
section
variable {prog : Program} {w : World} {A : Around} {E : Value → Shared → Prop} {s : Shared}
theorem zipS_item {z TI TO i1 i2 : Addr} {k1 k2 : Nat} {X Y : Str} {tx ty : Tok} {cx cy : Nat} {a b : Value} {Q : Value → Shared → Prop} (D : ZApart z TI TO i1 i2)
    (hz : IsZip s.heap z TI TO .none) (hTI : IsPair s.heap TI (.ref i1) (.ref i2)) (hTO : IsPair s.heap TO a b) (h1 : SIt s.heap i1 X tx k1) (h2 : SIt s.heap i2 Y ty k2) (hx : X.cps[k1]? = some cx) (hy : Y.cps[k2]? = some cy)
    (hQ : ∀ h' tk T t1 t2, s.heap.get? T = none → IsZip h' z TI TO (rawInt T) → (∃ a b, IsPair h' TO a b) → SIt h' i1 X tx (k1 + 1) → SIt h' i2 Y ty (k2 + 1) → IsPair h' T (.str ⟨#[cx]⟩ t1) (.str ⟨#[cy]⟩ t2) →
      (∀ c o, c ≠ z → c ≠ TO → c ≠ i1 → c ≠ i2 → s.heap.get? c = some o → h'.get? c = some o) → Q (.ref T) { s with heap := h', toks := tk }) :
    wpAny (model prog w) A (Builtin.«zip.__next__» ⟨[.ref z], []⟩) (fun fin s' => ∃ v, fin = .done (.ret v) ∧ Q v s') E s := by
  show wpAny _ _ (field (.ref z) 2 >>= _) _ _ _
  refine wpAny_bind (wpAny_field hz rfl (x := .bool false) rfl ?_)
  show wpAny _ _ (field (.ref z) 3 >>= _) _ _ _
  refine wpAny_bind (wpAny_field hz rfl (x := .ref TI) rfl (wpAny_bind (wpAny_seqItems hTI rfl ?_)))
  show wpAny _ _ (Builtin.SmallTypes.ownedTupleIsFree (.ref z) >>= _) _ _ _
  refine wpAny_bind ?_
  unfold Builtin.SmallTypes.ownedTupleIsFree
  refine wpAny_bind (wpAny_field hz rfl (x := .none) rfl (wpAny_pure ?_))
  simp only [if_true]
  refine wpAny_bind (wpAny_rule (wpAny_bind (wpAny_field hz rfl (x := .ref TO) rfl ?_)))
  refine wpAny_bind (wpAny_setField_rec hz (by simp) fun h₁ hz₁ hs₁ => wpAny_bind ?_)
  simp only [List.zipIdx_cons, List.zipIdx_nil, List.forIn_cons, List.forIn_nil]
  refine wpAny_bind (wpAny_bind (wpAny_onRaise ?_))
  show wpAny _ _ (Builtin.SmallTypes.nextOf (.ref i1) >>= _) _ _ _
  refine wpAny_bind (wpAny_nextOf_ascii_item (h1.extBut hs₁.extBut D.i1z) hx fun h₂ h1₂ hs₂ => wpAny_pure ?_)
  have k2' : ∀ c o, c ≠ z → c ≠ i1 → s.heap.get? c = some o → h₂.get? c = some o := fun c o c1 c3 e => hs₂.extBut _ _ c3 (hs₁.extBut _ _ c1 e)
  have hTO₂ : IsPair h₂ TO a b := k2' _ _ D.TOz D.TOi1 hTO
  refine wpAny_bind (wpAny_seqItems (a := TO) hTO₂ rfl ?_)
  refine wpAny_bind (wpAny_updateSeq_pair hTO₂ fun h₃ hTO₃ hs₃ => wpAny_bind (wpAny_letGo (wpAny_pure ?_)))
  refine wpAny_bind (wpAny_bind (wpAny_onRaise ?_))
  show wpAny _ _ (Builtin.SmallTypes.nextOf (.ref i2) >>= _) _ _ _
  have h2₃ : SIt h₃ i2 Y ty k2 := ((h2.extBut hs₁.extBut D.i2z).extBut hs₂.extBut D.i12.symm).extBut hs₃.extBut D.TOi2.symm
  refine wpAny_bind (wpAny_nextOf_ascii_item h2₃ hy fun h₄ h2₄ hs₄ => wpAny_pure ?_)
  have hTO₄ := hs₄.extBut _ _ D.TOi2 hTO₃
  refine wpAny_bind (wpAny_seqItems (a := TO) hTO₄ rfl ?_)
  refine wpAny_bind (wpAny_updateSeq_pair (a := .str ⟨#[cx]⟩ s.toks) (b := b) hTO₄ fun h₅ hTO₅ hs₅ => wpAny_bind (wpAny_letGo (wpAny_pure (wpAny_pure ?_))))
  refine wpAny_bind (wpAny_seqItems (a := TO) hTO₅ rfl ?_)
  have hTO₅' : IsPair h₅ TO (.str ⟨#[cx]⟩ s.toks) (.str ⟨#[cy]⟩ (s.toks + 1)) := hTO₅
  have hz₅ : IsZip h₅ z TI TO .ellipsis := hs₅.extBut _ _ D.TOz.symm (hs₄.extBut _ _ D.i2z.symm (hs₃.extBut _ _ D.TOz.symm (hs₂.extBut _ _ D.i1z.symm hz₁)))
  have k5 : ∀ c o, c ≠ z → c ≠ TO → c ≠ i1 → c ≠ i2 → s.heap.get? c = some o → h₅.get? c = some o := fun c o c1 c2 c3 c4 e => hs₅.extBut _ _ c2 (hs₄.extBut _ _ c4 (hs₃.extBut _ _ c2 (k2' c o c1 c3 e)))
  have h1₅ : SIt h₅ i1 X tx (k1 + 1) := ((h1₂.extBut hs₃.extBut D.TOi1.symm).extBut hs₄.extBut D.i12).extBut hs₅.extBut D.TOi1.symm
  have h2₅ : SIt h₅ i2 Y ty (k2 + 1) := h2₄.extBut hs₅.extBut D.TOi2.symm
  have hsz : h₅.objs.size = s.heap.objs.size := by
    rw [hs₅.1]; show h₄.objs.size = _; rw [hs₄.1]; show h₃.objs.size = _; rw [hs₃.1]; show h₂.objs.size = _; rw [hs₂.1]; exact hs₁.1
  refine wpAny_bind (wpAny_newTuple (items := [.str ⟨#[cx]⟩ s.toks, .str ⟨#[cy]⟩ (s.toks + 1)]) ?_ (by rw [sizeLine_eq]; show 2 ≤ _; decide))
  show wpAny _ _ (Builtin.SmallTypes.ownedTupleHandOut (.ref z) (.ref h₅.objs.size) >>= _) _ _ _
  refine wpAny_bind ?_
  unfold Builtin.SmallTypes.ownedTupleHandOut
  have hz₆ : IsZip (h₅.push { cls := .type "tuple", data := .seq #[.str ⟨#[cx]⟩ s.toks, .str ⟨#[cy]⟩ (s.toks + 1)] }) z TI TO .ellipsis := Heap.get?_push_of_some _ hz₅
  have hT₆ : IsPair (h₅.push { cls := .type "tuple", data := .seq #[.str ⟨#[cx]⟩ s.toks, .str ⟨#[cy]⟩ (s.toks + 1)] }) h₅.objs.size (.str ⟨#[cx]⟩ s.toks) (.str ⟨#[cy]⟩ (s.toks + 1)) := Heap.get?_push_size _ rfl
  have zlt : h₅.objs.size ≠ z := Nat.ne_of_gt (Heap.lt_size hz₅)
  refine wpAny_bind (wpAny_setField_rec hz₆ (by simp) fun h₇ hz₇ hs₇ => ?_)
  refine wpAny_setField_rec hz₇ (by simp) fun h₈ hz₈ hs₈ => ?_
  have up : ∀ c o, c ≠ z → h₅.get? c = some o → h₈.get? c = some o := fun c o c1 e => hs₈.extBut _ _ c1 (hs₇.extBut _ _ c1 (Heap.get?_push_of_some _ e))
  refine wpAny_pure ⟨_, rfl, hQ h₈ _ h₅.objs.size _ _ (by rw [hsz]; exact fresh_size _) hz₈ ⟨_, _, up _ _ D.TOz hTO₅'⟩ (let ⟨o, e, r⟩ := h1₅; ⟨o, up _ o D.i1z e, r⟩) (let ⟨o, e, r⟩ := h2₅; ⟨o, up _ o D.i2z e, r⟩) (hs₈.extBut _ _ zlt (hs₇.extBut _ _ zlt hT₆)) fun c o c1 c2 c3 c4 e => up c o c1 (k5 c o c1 c2 c3 c4 e)⟩
theorem zipS_end {z TI TO i1 i2 : Addr} {k1 k2 : Nat} {X Y : Str} {tx ty : Tok} {a b : Value} {Q : PySem.Fin → Shared → Prop} (hh : A.handled = none) (D : ZApart z TI TO i1 i2)
    (hz : IsZip s.heap z TI TO .none) (hTI : IsPair s.heap TI (.ref i1) (.ref i2)) (hTO : IsPair s.heap TO a b) (h1 : SIt s.heap i1 X tx k1) (h2 : SIt s.heap i2 Y ty k2) (hend : X.cps[k1]? = none ∨ Y.cps[k2]? = none)
    (hE : ∀ h' tk e, (∀ c o, c ≠ z → c ≠ TO → c ≠ i1 → c ≠ i2 → s.heap.get? c = some o → h'.get? c = some o) → (∃ o, h'.get? e = some o ∧ o.cls = .type "StopIteration") → E (.ref e) { s with heap := h', toks := tk }) :
    wpAny (model prog w) A (Builtin.«zip.__next__» ⟨[.ref z], []⟩) Q E s := by
  show wpAny _ _ (field (.ref z) 2 >>= _) _ _ _
  refine wpAny_bind (wpAny_field hz rfl (x := .bool false) rfl ?_)
  show wpAny _ _ (field (.ref z) 3 >>= _) _ _ _
  refine wpAny_bind (wpAny_field hz rfl (x := .ref TI) rfl (wpAny_bind (wpAny_seqItems hTI rfl ?_)))
  show wpAny _ _ (Builtin.SmallTypes.ownedTupleIsFree (.ref z) >>= _) _ _ _
  refine wpAny_bind ?_
  unfold Builtin.SmallTypes.ownedTupleIsFree
  refine wpAny_bind (wpAny_field hz rfl (x := .none) rfl (wpAny_pure ?_))
  simp only [if_true]
  refine wpAny_bind (wpAny_rule (wpAny_bind (wpAny_field hz rfl (x := .ref TO) rfl ?_)))
  refine wpAny_bind (wpAny_setField_rec hz (by simp) fun h₁ hz₁ hs₁ => wpAny_bind ?_)
  simp only [List.zipIdx_cons, List.zipIdx_nil, List.forIn_cons, List.forIn_nil]
  refine wpAny_bind (wpAny_bind (wpAny_onRaise ?_))
  show wpAny _ _ (Builtin.SmallTypes.nextOf (.ref i1) >>= _) _ _ _
  cases hx : X.cps[k1]? with
  | none =>
    refine wpAny_bind (wpAny_nextOf_ascii_end hh (h1.extBut hs₁.extBut D.i1z) hx fun h₂ e hs₂ he => ?_)
    obtain ⟨oe, hoe, hce⟩ := he
    have hz₂ := hs₂ _ _ D.i1z.symm hz₁
    have hez : e ≠ z := fun x => by subst x; rw [hz₂] at hoe; cases hoe; simp at hce
    refine wpAny_setField_rec hz₂ (by simp) fun h₃ _ hs₃ => hE h₃ _ e (fun c o c1 _ c3 _ x => hs₃.extBut _ _ c1 (hs₂ _ _ c3 (hs₁.extBut _ _ c1 x))) ⟨oe, hs₃.extBut _ _ hez hoe, hce⟩
  | some cx =>
    have hy : Y.cps[k2]? = none := by rcases hend with h | h; rw [hx] at h; cases h; exact h
    refine wpAny_bind (wpAny_nextOf_ascii_item (h1.extBut hs₁.extBut D.i1z) hx fun h₂ h1₂ hs₂ => wpAny_pure ?_)
    have k2' : ∀ c o, c ≠ z → c ≠ i1 → s.heap.get? c = some o → h₂.get? c = some o := fun c o c1 c3 e => hs₂.extBut _ _ c3 (hs₁.extBut _ _ c1 e)
    have hTO₂ : IsPair h₂ TO a b := k2' _ _ D.TOz D.TOi1 hTO
    refine wpAny_bind (wpAny_seqItems (a := TO) hTO₂ rfl ?_)
    refine wpAny_bind (wpAny_updateSeq_pair hTO₂ fun h₃ hTO₃ hs₃ => wpAny_bind (wpAny_letGo (wpAny_pure ?_)))
    refine wpAny_bind (wpAny_bind (wpAny_onRaise ?_))
    show wpAny _ _ (Builtin.SmallTypes.nextOf (.ref i2) >>= _) _ _ _
    have h2₃ : SIt h₃ i2 Y ty k2 := ((h2.extBut hs₁.extBut D.i2z).extBut hs₂.extBut D.i12.symm).extBut hs₃.extBut D.TOi2.symm
    refine wpAny_bind (wpAny_nextOf_ascii_end hh h2₃ hy fun h₄ e hs₄ he => ?_)
    obtain ⟨oe, hoe, hce⟩ := he
    have hz₄ := hs₄ _ _ D.i2z.symm (hs₃.extBut _ _ D.TOz.symm (hs₂.extBut _ _ D.i1z.symm hz₁))
    have hez : e ≠ z := fun x => by subst x; rw [hz₄] at hoe; cases hoe; simp at hce
    refine wpAny_setField_rec hz₄ (by simp) fun h₅ _ hs₅ => hE h₅ _ e (fun c o c1 c2 c3 c4 x => hs₅.extBut _ _ c1 (hs₄ _ _ c4 (hs₃.extBut _ _ c2 (k2' c o c1 c3 x)))) ⟨oe, hs₅.extBut _ _ hez hoe, hce⟩
/-- what a zip over two texts is, at the turn i -/
def ZS (z TI TO i1 i2 : Addr) (X Y : Str) (tx ty : Tok) (i : Nat) (f0 : Value) (h : Heap) : Prop :=
  IsZip h z TI TO f0 ∧ IsPair h TI (.ref i1) (.ref i2) ∧ (∃ a b, IsPair h TO a b) ∧ SIt h i1 X tx i ∧ SIt h i2 Y ty i
theorem ZS.keep {z TI TO i1 i2 : Addr} {X Y : Str} {tx ty : Tok} {i : Nat} {f0 : Value} {h h' : Heap} (x : ZS z TI TO i1 i2 X Y tx ty i f0 h) (k : ∀ b ∈ [z, TI, TO, i1, i2], ∀ o, h.get? b = some o → h'.get? b = some o) : ZS z TI TO i1 i2 X Y tx ty i f0 h' := by
  obtain ⟨a, b, ⟨u, v, c⟩, ⟨o, d, dr⟩, o', e, er⟩ := x
  exact ⟨k z (by simp) _ a, k TI (by simp) _ b, ⟨u, v, k TO (by simp) _ c⟩, ⟨o, k i1 (by simp) _ d, dr⟩, o', k i2 (by simp) _ e, er⟩
theorem zipS_next {z TI TO i1 i2 : Addr} {i : Nat} {X Y : Str} {tx ty : Tok} {cx cy : Nat} {Q : Option Value → Shared → Prop} (D : ZApart z TI TO i1 i2) (st : ZS z TI TO i1 i2 X Y tx ty i .none s.heap) (hx : X.cps[i]? = some cx) (hy : Y.cps[i]? = some cy)
    (hQ : ∀ h' tk T t1 t2, s.heap.get? T = none → ZS z TI TO i1 i2 X Y tx ty (i + 1) (rawInt T) h' → IsPair h' T (.str ⟨#[cx]⟩ t1) (.str ⟨#[cy]⟩ t2) → (∀ c o, c ∉ [z, TO, i1, i2] → s.heap.get? c = some o → h'.get? c = some o) → Q (some (.ref T)) { s with heap := h', toks := tk }) :
    wpAny (model prog w) A (pyNext (.ref z)) Q E s := by
  obtain ⟨hz, hTI, ⟨a, b, hTO⟩, h1, h2⟩ := st
  have hT : s.TypeIs (.ref z) "zip" := ⟨_, hz, rfl⟩
  unfold pyNext
  refine wpAny_bind (wpAny_attempt (wpAny_callSpecial?_slot (name := Str.ofString "__next__") hT PySem.F.slot_zip_next (wpAny_call_entry PySem.F.slot_zip_next hT PySem.F.entry_zip_next
    (zipS_item D hz hTI hTO h1 h2 hx hy fun h' tk T t1 t2 hn a1 a2 a3 a4 a5 a6 => wpAny_pure ?_) (PySem.F.args_zip_next_1 _))))
  exact hQ h' tk T t1 t2 hn ⟨a1, a6 _ _ D.TIz D.TITO D.TIi1 D.TIi2 hTI, a2, a3, a4⟩ a5 fun c o hc e => a6 c o (fun q => hc (by simp [q])) (fun q => hc (by simp [q])) (fun q => hc (by simp [q])) (fun q => hc (by simp [q])) e
theorem zipS_stop {z TI TO i1 i2 : Addr} {i : Nat} {X Y : Str} {tx ty : Tok} {Q : Option Value → Shared → Prop} (hh : A.handled = none) (D : ZApart z TI TO i1 i2) (st : ZS z TI TO i1 i2 X Y tx ty i .none s.heap) (hend : X.cps[i]? = none ∨ Y.cps[i]? = none)
    (hQ : ∀ h' tk, (∀ c o, c ∉ [z, TO, i1, i2] → s.heap.get? c = some o → h'.get? c = some o) → Q none { s with heap := h', toks := tk }) : wpAny (model prog w) A (pyNext (.ref z)) Q E s := by
  obtain ⟨hz, hTI, ⟨a, b, hTO⟩, h1, h2⟩ := st
  have hT : s.TypeIs (.ref z) "zip" := ⟨_, hz, rfl⟩
  unfold pyNext
  refine wpAny_bind (wpAny_attempt (wpAny_callSpecial?_slot (name := Str.ofString "__next__") hT PySem.F.slot_zip_next (wpAny_call_entry PySem.F.slot_zip_next hT PySem.F.entry_zip_next
    (zipS_end hh D hz hTI hTO h1 h2 hend fun h' tk e hk he => ?_) (PySem.F.args_zip_next_1 _))))
  obtain ⟨o, ho, hc⟩ := he
  refine wpAny_bind (wpAny_isInstance (T := "StopIteration") (b := true) ⟨o, ho, hc⟩ isSubtype_stop ?_)
  exact wpAny_pure (hQ _ _ fun c o hc e => hk c o (fun q => hc (by simp [q])) (fun q => hc (by simp [q])) (fun q => hc (by simp [q])) (fun q => hc (by simp [q])) e)
end
end Mine
end
section
open PySem PySem.Calls PySem.W PyProof.Rows
set_option maxRecDepth 100000
set_option maxHeartbeats 2000000
namespace Mine
abbrev sitO (X : Str) (t : Tok) : Obj := { cls := .type "str_ascii_iterator", data := .fields #[.str X t, .int 0 0] }
abbrev zh1 (h : Heap) (X : Str) (t : Tok) : Heap := h.push (sitO X t)
abbrev zh2 (h : Heap) (X Y : Str) (t u : Tok) : Heap := (zh1 h X t).push (sitO Y u)
abbrev zh3 (h : Heap) (X Y : Str) (t u : Tok) : Heap := (zh2 h X Y t u).push { cls := .type "tuple", data := .seq #[.ref h.objs.size, .ref (zh1 h X t).objs.size] }
abbrev zh4 (h : Heap) (X Y : Str) (t u : Tok) : Heap := (zh3 h X Y t u).push { cls := .type "tuple", data := .seq #[.none, .none] }
abbrev zh5 (h : Heap) (X Y : Str) (t u : Tok) : Heap := (zh4 h X Y t u).push { cls := .type "zip", data := .fields #[.none, .bool false, .bool false, .ref (zh2 h X Y t u).objs.size, .ref (zh3 h X Y t u).objs.size] }
theorem meets_zipS (X Y : Str) (tx ty : Tok) (hX : X.cps.all (· < 128) = true) (hY : Y.cps.all (· < 128) = true) :
    Meets (Builtin.«zip.__new__» ⟨[.type "zip", .str X tx, .str Y ty], []⟩) (fun _ R s => R (.ok (.ret (.ref (zh4 s.heap X Y tx ty).objs.size))) { s with heap := zh5 s.heap X Y tx ty }) :=
  .of_wp fun prog w A R s h => by
    obtain ⟨hp, g, d, tk, os⟩ := s
    have hsub := sub_zip
    wp_walk using wpAny_pyIter_ascii hX, wpAny_pyIter_ascii hY
    exact ⟨_, rfl, h⟩
end Mine
end
section
open PySem PySem.Calls PySem.W PyProof.Rows
set_option maxRecDepth 100000
set_option maxHeartbeats 2000000
namespace Mine
section
variable {prog : Program} {w : World} {A : Around} {E : Value → Shared → Prop} {s : Shared}
theorem zap {n : Nat} {z TI TO i1 i2 : Addr} (h1 : i1 = n) (h2 : i2 = n + 1) (h3 : TI = n + 2) (h4 : TO = n + 3) (h5 : z = n + 4) : ZApart z TI TO i1 i2 := by
  subst h1 h2 h3 h4 h5
  constructor <;> (change ¬ @Eq Nat _ _; omega)
theorem call_zipS {X Y : Str} {tx ty : Tok} {Q : Value → Shared → Prop} (hX : X.cps.all (· < 128) = true) (hY : Y.cps.all (· < 128) = true)
    (h : ∀ h' z TI TO i1 i2, ZApart z TI TO i1 i2 → ZS z TI TO i1 i2 X Y tx ty 0 .none h' → (∀ c ∈ [z, TI, TO, i1, i2], s.heap.get? c = none) → (∀ c o, s.heap.get? c = some o → h'.get? c = some o) → Q (.ref z) { s with heap := h' }) :
    wpAny (model prog w) A (call (.type "zip") [.str X tx, .str Y ty]) Q E s := by
  refine callType_new PySem.F.called_zip (by decide) (PySem.F.typeCall_zip_2 _ _) (PySem.F.newCall_zip_2 _ _) (fun obj => PySem.F.args_object_init_3 obj _ _) PySem.F.entry_zip_new (meets_zipS X Y tx ty hX hY) ?_
  have z1 : (zh1 s.heap X tx).objs.size = s.heap.objs.size + 1 := Heap.size_push ..
  have z2 : (zh2 s.heap X Y tx ty).objs.size = s.heap.objs.size + 2 := by rw [Heap.size_push, z1]
  have z3 : (zh3 s.heap X Y tx ty).objs.size = s.heap.objs.size + 3 := by rw [Heap.size_push, z2]
  have z4 : (zh4 s.heap X Y tx ty).objs.size = s.heap.objs.size + 4 := by rw [Heap.size_push, z3]
  have up := fun (b : Addr) (o o' : Obj) (h : Heap) (e : h.get? b = some o) => Heap.get?_push_of_some o' e
  have g5 : (zh5 s.heap X Y tx ty).get? (zh4 s.heap X Y tx ty).objs.size = some _ := Heap.get?_push_size _ rfl
  have g4 : (zh5 s.heap X Y tx ty).get? (zh3 s.heap X Y tx ty).objs.size = some _ := Heap.get?_push_of_some _ (Heap.get?_push_size _ rfl)
  have g3 : (zh5 s.heap X Y tx ty).get? (zh2 s.heap X Y tx ty).objs.size = some _ := Heap.get?_push_of_some _ (Heap.get?_push_of_some _ (Heap.get?_push_size _ rfl))
  have g2 : (zh5 s.heap X Y tx ty).get? (zh1 s.heap X tx).objs.size = some _ := Heap.get?_push_of_some _ (Heap.get?_push_of_some _ (Heap.get?_push_of_some _ (Heap.get?_push_size _ rfl)))
  have g1 : (zh5 s.heap X Y tx ty).get? s.heap.objs.size = some _ := Heap.get?_push_of_some _ (Heap.get?_push_of_some _ (Heap.get?_push_of_some _ (Heap.get?_push_of_some _ (Heap.get?_push_size _ rfl))))
  have none_ : ∀ k, s.heap.get? (s.heap.objs.size + k) = none := fun k => Heap.get?_none_of_le (Nat.le_add_right _ _)
  refine ⟨⟨_, g5, rfl⟩, h _ _ (zh2 s.heap X Y tx ty).objs.size (zh3 s.heap X Y tx ty).objs.size s.heap.objs.size (zh1 s.heap X tx).objs.size ?_ ⟨g5, g3, ⟨_, _, g4⟩, ⟨_, g1, rfl, rfl⟩, _, g2, rfl, rfl⟩ ?_ fun c o x =>
    Heap.get?_push_of_some _ (Heap.get?_push_of_some _ (Heap.get?_push_of_some _ (Heap.get?_push_of_some _ (Heap.get?_push_of_some _ x))))⟩
  · exact zap rfl z1 z2 z3 z4
  · intro c hc
    rw [z4, z3, z2, z1] at hc
    simp only [List.mem_cons, List.not_mem_nil, or_false] at hc
    rcases hc with rfl | rfl | rfl | rfl | rfl
    · exact none_ 4
    · exact none_ 2
    · exact none_ 3
    · exact none_ 0
    · exact none_ 1
end
end Mine
end
section
open PySem PySem.Calls PySem.W PyProof.Rows
set_option maxRecDepth 100000
set_option maxHeartbeats 2000000
namespace Mine
section
variable {prog : Program} {w : World} {h0 : Heap} {c c' : Cx} {σ : St} {μ : Mu} {mg mb : Str → Option Value} {C D : Addr}
/-- a zip over two texts -/
def ZitJ (prog : Program) (w : World) (h0 : Heap) (c : Cx) (σ : St) (μ : Mu) (e : Expr) (X Y : List Nat) : Prop :=
  ∀ s, PSt h0 c σ μ s → wpAny (model prog w) c.A (eval e c.env) (fun v s₁ => Keeps s s₁ ∧ ∃ z TI TO i1 i2 tx ty, v = .ref z ∧ ZApart z TI TO i1 i2 ∧ ZS z TI TO i1 i2 (mkS X) (mkS Y) tx ty 0 .none s₁.heap ∧ ∀ b ∈ [z, TI, TO, i1, i2], s.heap.get? b = none) NoE s
theorem Zit.zip (W : Wd prog w h0 mg mb) {a b : Expr} {p pos : Pos} {X Y : List Nat} (ha : EvJ prog w h0 c σ μ a (.str X)) (hb : EvJ prog w h0 c σ μ b (.str Y)) (hX : ∀ x ∈ X, x < 128) (hY : ∀ x ∈ Y, x < 128)
    (hk : c.env.kindOf (Str.ofString "zip") = some .globalImplicit) (he : starEach [a, b] c.env = (false, eval a c.env) :: starEach [b] c.env := by rfl) (he' : starEach [b] c.env = [(false, eval b c.env)] := by rfl) :
    ZitJ prog w h0 c σ μ (.Call (.Name (Str.ofString "zip") p) [a, b] [] pos) X Y := fun s P => by
  refine wpAny_Call_NameR ((W.nm hk : GlJ prog w h0 c σ μ (Str.ofString "zip") (.type "zip")) p s P _ ?_)
  show wpAny _ _ (callWith pos (.type "zip") [] (backTo pos (starEach [a, b] c.env)) []) _ _ _
  rw [he, he']
  refine callWith_val (.inr ⟨_, rfl⟩) rfl (Calls.evalArgs_plain (Calls.spliced_cons (ha.run P fun v s₁ k₁ P₁ r₁ => Calls.spliced_cons (hb.run P₁ fun u s₂ k₂ P₂ r₂ => Calls.spliced_nil ?_))))
  obtain ⟨_, t, rfl⟩ := unS r₁
  obtain ⟨_, t', rfl⟩ := unS r₂
  have all : ∀ {X : List Nat}, (∀ x ∈ X, x < 128) → (mkS X).cps.all (· < 128) = true := fun {X} h => by
    rw [List.all_toArray, List.all_eq_true]
    intro x hx
    exact decide_eq_true (h x hx)
  refine call_zipS (all hX) (all hY) fun h' z TI TO i1 i2 D Z hn hk => ⟨kp_trans k₁ (kp_trans k₂ ⟨h', s₂.toks, rfl, hk⟩), z, TI, TO, i1, i2, t, t', rfl, D, Z, fun b hb => old_none k₁ (old_none k₂ (hn b hb))⟩
/-- a step that touches but iterators, nothing being held -/
theorem CI.stepZ {s : Shared} {h' : Heap} {tk : Nat} {wr : List Addr} (X : CI h0 c' C D [] [] s) (hk : ∀ b o, b ∉ wr → s.heap.get? b = some o → h'.get? b = some o)
    (hw0 : ∀ b ∈ wr, h0.get? b = none) (hav : ∀ b ∈ wr, ¬ c'.av b) : CI h0 c' C D [] [] { s with heap := h', toks := tk } := by
  have Cw : C ∉ wr := fun h => hav _ h X.avC
  have Dw : D ∉ wr := fun h => hav _ h X.avD
  refine ⟨⟨X.p.ok, fun b o e => hk b o (fun q => by rw [hw0 b q] at e; cases e) (X.p.base b o e), fun x d e => by simp at e, fun p hp => (nomatch hp), fun b hb => ?_, X.p.tab.wr hk fun h => hav _ h X.p.ok.avP⟩, let ⟨m, hn⟩ := X.ns; ⟨m, hn.at' fun o e => hk _ o Cw e⟩,
    let ⟨its, ⟨n, e⟩, r⟩ := X.acc; ⟨its, ⟨n, hk _ _ Dw e⟩, by rw [RepL] at r ⊢; exact r⟩, X.avC, X.avD, X.loc, X.nh0⟩
  obtain ⟨o, e⟩ := X.p.live b hb
  exact ⟨o, hk _ _ (fun q => hav b q (avs_nil.mp hb)) e⟩
theorem CI.store2 {s : Shared} {x y : String} {pa pb tp : Pos} {kk : Nat} {T : Addr} {cx cy : Nat} {t1 t2 : Tok} (X : CI h0 c' C D [] [] s) (hT : IsPair s.heap T (.str ⟨#[cx]⟩ t1) (.str ⟨#[cy]⟩ t2)) (hx : c'.env.kindOf (Str.ofString x) = some .local) (hy : c'.env.kindOf (Str.ofString y) = some .local)
    (hxd : (Str.ofString x == ("__debug__" : Str)) = false) (hyd : (Str.ofString y == ("__debug__" : Str)) = false) (hxy : y ≠ x) :
    wpAny (model prog w) c'.A (assign (.Tuple [.Name (Str.ofString x) pa, .Name (Str.ofString y) pb] kk tp) c'.env (.ref T)) (fun _ s' => CI h0 c' C D [(x, .str [cx]), (y, .str [cy])] [] s' ∧ PC C D [] s s') NoE s := by
  obtain ⟨m, hn⟩ := X.ns
  have hne := ci_ne X
  refine kcp_assign X.p.ok.handled (tup_is ⟨_, hT⟩) hx hy (by rw [X.p.ok.kind]; rfl) (by rw [X.loc]; exact hn) fun h' tk hn' hk => ?_
  rw [X.loc] at hn' hk
  refine ⟨⟨⟨X.p.ok, fun b o e => hk b o (fun q => by rw [q, X.nh0.1] at e; cases e) (X.p.base b o e), fun z d e => ?_, fun p hp => (nomatch hp), fun b hb => ?_, ?_⟩, ⟨_, hn'⟩, ?_, X.avC, X.avD, X.loc, X.nh0⟩, ⟨⟨h', tk, rfl⟩, fun b o n1 _ _ e => hk b o n1 e⟩⟩
  · rw [List.lookup_cons] at e
    cases hzx : z == x with
    | true =>
      rw [hzx] at e; cases e
      rw [eq_of_beq hzx]
      exact ⟨hxd, _, .inl ⟨hx, _, by rw [X.loc]; exact hn', by
        show (if Str.ofString x = Str.ofString y then _ else _) = _
        rw [if_neg (fun q => hxy (ofString_inj q).symm), if_pos rfl]⟩, repS (by simp)⟩
    | false =>
      rw [hzx] at e
      rw [List.lookup_cons] at e
      cases hzy : z == y with
      | true =>
        rw [hzy] at e; cases e
        rw [eq_of_beq hzy]
        exact ⟨hyd, _, .inl ⟨hy, _, by rw [X.loc]; exact hn', by
          show (if Str.ofString y = Str.ofString y then _ else _) = _
          rw [if_pos rfl]⟩, repS (by simp)⟩
      | false => rw [hzy] at e; simp at e
  · obtain ⟨o, e⟩ := X.p.live b hb
    by_cases q : b = C
    · subst q; obtain ⟨o', es, ep, e', _⟩ := hn'; exact ⟨o', e'⟩
    · exact ⟨o, hk _ _ q e⟩
  · obtain ⟨ps, e, t⟩ := X.p.tab
    exact ⟨ps, hk _ _ (fun q => X.p.tab.neNs hn q.symm) e, t⟩
  · obtain ⟨its, ⟨n, e⟩, rr⟩ := X.acc
    exact ⟨its, ⟨n, hk _ _ (Ne.symm hne) e⟩, by rw [RepL] at rr ⊢; exact rr⟩
/-- the loop over a zip in which no item passes the test -/
theorem zip_run {R : Result → Shared → Prop} {r : Shared} {elt : Expr} {gens : List Comprehension} {sc : Scope} {ps : Pos} {dep : Nat} {acc : Value} {p pa pb tp : Pos} {kk : Nat} {x y : String} {ifs : List Expr} {inner : Sem PUnit}
    {z TI TO i1 i2 : Addr} {X Y : List Nat} {tx ty : Tok} (Da : ZApart z TI TO i1 i2)
    (heq : TurnIs (.ListComp elt gens sc ps) dep (.ref z) acc c'.env p (.Tuple [.Name (Str.ofString x) pa, .Name (Str.ofString y) pb] kk tp) ifs inner)
    (q0 : ZS z TI TO i1 i2 (mkS X) (mkS Y) tx ty 0 .none r.heap)
    (hw0 : ∀ b ∈ [z, TI, TO, i1, i2], h0.get? b = none) (hav : ∀ b ∈ [z, TI, TO, i1, i2], ¬ c'.av b)
    (hx : c'.env.kindOf (Str.ofString x) = some .local) (hy : c'.env.kindOf (Str.ofString y) = some .local)
    (hxd : (Str.ofString x == ("__debug__" : Str)) = false) (hyd : (Str.ofString y == ("__debug__" : Str)) = false) (hxy : y ≠ x)
    (tests : ∀ a b s, (a, b) ∈ X.zip Y → CI h0 c' C D [(x, .str [a]), (y, .str [b])] [] s → wpAny (model prog w) c'.A (testsT ifs c'.env) (fun ok s' => ok = false ∧ Keeps s s') NoE s)
    (Ci : CI h0 c' C D [] [] r)
    (hR : ∀ s, CI h0 c' C D [] [] s → PC C D [z, TI, TO, i1, i2] r s → R (.ok .next) s) :
    codeAny (model prog w) c'.A (.compLoop (.ListComp elt gens sc ps) dep (.ref z) acc c'.env) R r := by
  have wsub : ∀ b ∈ [z, TO, i1, i2], b ∈ [z, TI, TO, i1, i2] := fun b hb => by
    simp only [List.mem_cons, List.not_mem_nil, or_false] at hb ⊢
    rcases hb with h | h | h | h <;> simp [h]
  refine comp_loop heq (fun n s => ∃ i, n = X.length + Y.length + 1 - i ∧ i ≤ X.length + Y.length ∧ CI h0 c' C D [] [] s ∧ ZS z TI TO i1 i2 (mkS X) (mkS Y) tx ty i .none s.heap ∧ PC C D [z, TI, TO, i1, i2] r s) ?_ (X.length + Y.length + 1)
    ⟨0, rfl, Nat.zero_le _, Ci, q0, PC.keeps kp_rfl⟩
  rintro n s ⟨i, rfl, hle, Ys, q, pc⟩
  have stepPC : ∀ h' tk, (∀ b o, b ∉ [z, TO, i1, i2] → s.heap.get? b = some o → h'.get? b = some o) → PC C D [z, TI, TO, i1, i2] r { s with heap := h', toks := tk } := fun h' tk hk' =>
    pc.trans ⟨⟨h', tk, rfl⟩, fun b o _ _ n3 e => hk' b o (fun h => n3 (wsub b h)) e⟩
  have zlive : s.heap.get? z ≠ none := by rw [q.1]; simp
  by_cases hlt : i < X.length ∧ i < Y.length
  · have ex : (mkS X).cps[i]? = some X[i] := by simp [hlt.1]
    have ey : (mkS Y).cps[i]? = some Y[i] := by simp [hlt.2]
    refine zipS_next Da q ex ey fun h' tk T t1 t2 hTn q' hT hk' => ?_
    have Tz : T ≠ z := fun e => zlive (e ▸ hTn)
    refine wpAny_letOwnedTupleGo_zip q'.1 fun h'' hz'' hs'' => ?_
    have hk2 : ∀ b o, b ∉ [z, TO, i1, i2] → s.heap.get? b = some o → h''.get? b = some o := fun b o hb e => hs''.extBut b o (fun e' => hb (by simp [e'])) (hk' b o hb e)
    have Y2 : CI h0 c' C D [] [] { s with heap := h'', toks := tk } := Ys.stepZ hk2 (fun b hb => hw0 b (wsub b hb)) (fun b hb => hav b (wsub b hb))
    have pc2 := stepPC h'' tk hk2
    have q2 : ZS z TI TO i1 i2 (mkS X) (mkS Y) tx ty (i + 1) .none h'' := by
      obtain ⟨a1, a2, ⟨u, v, a3⟩, ⟨o4, a4, r4⟩, o5, a5, r5⟩ := q'
      exact ⟨hz'', hs''.extBut _ _ Da.TIz a2, ⟨u, v, hs''.extBut _ _ Da.TOz a3⟩, ⟨o4, hs''.extBut _ _ Da.i1z a4, r4⟩, o5, hs''.extBut _ _ Da.i2z a5, r5⟩
    have hT2 : IsPair h'' T _ _ := hs''.extBut _ _ Tz hT
    refine wm (Y2.store2 hT2 hx hy hxd hyd hxy) fun _ s₃ w3 => ?_
    obtain ⟨Y₃, p₃⟩ := w3
    have hm : (X[i], Y[i]) ∈ X.zip Y := List.mem_iff_getElem?.mpr ⟨i, List.getElem?_zip_eq_some.mpr ⟨List.getElem?_eq_getElem hlt.1, List.getElem?_eq_getElem hlt.2⟩⟩
    refine wm (tests _ _ s₃ hm Y₃) fun ok s₄ w4 => ?_
    obtain ⟨rfl, k₄⟩ := w4
    have p34 := p₃.trans (PC.keeps k₄)
    simp only [Bool.false_eq_true, if_false]
    refine ⟨X.length + Y.length + 1 - (i + 1), by omega, i + 1, rfl, by omega, (Y₃.keeps k₄).sub (fun _ _ e => by simp at e), ?_, pc2.trans (p34.more (by simp))⟩
    refine q2.keep fun b hb o e => p34.keep b o (fun e' => hav b hb (e' ▸ Ci.avC)) (fun e' => hav b hb (e' ▸ Ci.avD)) (by simp) e
  · have hend : (mkS X).cps[i]? = none ∨ (mkS Y).cps[i]? = none := by
      by_cases h1 : i < X.length
      · exact .inr (by simp; omega)
      · exact .inl (by simp; omega)
    refine zipS_stop Ys.p.ok.handled Da q hend fun h' tk hk' => ?_
    exact hR _ (Ys.stepZ hk' (fun b hb => hw0 b (wsub b hb)) (fun b hb => hav b (wsub b hb))) (stepPC h' tk hk')
end
end Mine
end
section
open PySem PySem.Calls PySem.W PyProof.Rows
set_option maxRecDepth 100000
set_option maxHeartbeats 2000000
namespace Mine
section
variable {prog : Program} {w : World} {h0 : Heap} {c : Cx} {σ : St} {μ : Mu} {mg mb : Str → Option Value}
/-- a comprehension over a zip of two texts in which no item passes -/
theorem Comp.zip {elt iter : Expr} {ifs : List Expr} {scope : Scope} {ps pos pa pb tp : Pos} {kk : Nat} {x y : String} {X Y : List Nat} (he : ZitJ prog w h0 c σ μ iter X Y)
    (hcells : ∀ x, c.env.kindOf x = some .cell → ∃ cc, c.env.cells.lookup x = some cc) (K : CapOk c σ scope [])
    (hx : scope.names.lookup (Str.ofString x) = some .local) (hy : scope.names.lookup (Str.ofString y) = some .local)
    (hxd : (Str.ofString x == ("__debug__" : Str)) = false) (hyd : (Str.ofString y == ("__debug__" : Str)) = false) (hxy : y ≠ x)
    (tests : ∀ c' a b, InCx c scope c' → (a, b) ∈ X.zip Y → IfJ prog w h0 c' [(x, .str [a]), (y, .str [b])] [] ifs false)
    (hs : ∀ x, foldedSetIterable iter c.env x = pure x) :
    CompR prog w h0 c σ μ (.ListComp elt [⟨.Tuple [.Name (Str.ofString x) pa, .Name (Str.ofString y) pb] kk tp, iter, ifs, 0⟩] scope ps) scope pos iter [] := by
  intro s use Q P hQ
  obtain ⟨cl, hclos, hcl2⟩ := closureFor_some (scope := scope) (env := c.env) (fun x hx hf => hcells _ (K.free x hx hf))
  refine wpAny_comprehension_free (g := ⟨.Tuple [.Name (Str.ofString x) pa, .Name (Str.ofString y) pb] kk tp, iter, ifs, 0⟩) (gs := []) rfl hs hclos K.kind K.names (wm (he s P) fun v s₂ h₁ => ?_)
  obtain ⟨k₁, z, TI, TO, i1, i2, tx, ty, rfl, Da, q0, hnew⟩ := h₁
  refine wpAny_pyIter_zip q0.1 ?_
  have P₂ := P.keeps k₁
  refine wpAny_newObj_type (wpAny_newFunctionEnv (fun x hx => K.cell x hx) (by intro y hy; simp at hy) (fun h₁ hns₁ hsb₁ => ?_) K.kind)
  dsimp only at hns₁ hsb₁ ⊢
  generalize hH2 : s₂.heap.push { cls := .type "list", dict := none, data := .seq ([] : List Value).toArray } = H2 at hns₁ hsb₁ ⊢
  have hC : H2.objs.size = s₂.heap.objs.size + 1 := by rw [← hH2, Heap.size_push]
  have hDC : s₂.heap.objs.size ≠ H2.objs.size := by rw [hC]; exact Nat.ne_of_lt (Nat.lt_succ_self _)
  have below : ∀ b, b < s₂.heap.objs.size → b ≠ H2.objs.size ∧ b ≠ s₂.heap.objs.size := fun b hb => ⟨by rw [hC]; exact Nat.ne_of_lt (Nat.lt_succ_of_lt hb), Nat.ne_of_lt hb⟩
  have old : ∀ b o, s₂.heap.get? b = some o → h₁.get? b = some o := fun b o e => hsb₁.extBut b o (below b (Heap.lt_size e)).1 (Heap.get?_push_of_some _ (hH2 ▸ Heap.get?_push_of_some _ e))
  have hacc : h₁.PlainList s₂.heap.objs.size #[] := ⟨_, hsb₁.extBut _ _ hDC (Heap.get?_push_of_some _ (hH2 ▸ Heap.get?_push_size _ rfl))⟩
  have freshN : ∀ a, s₂.heap.objs.size ≤ a → s₂.heap.get? a = none := fun a ha => by
    cases e : s₂.heap.get? a with
    | none => rfl
    | some o' => exact absurd (Heap.lt_size e) (Nat.not_lt.mpr ha)
  have nC : s₂.heap.get? H2.objs.size = none := freshN _ (by rw [hC]; exact Nat.le_succ _)
  have nD : s₂.heap.get? s₂.heap.objs.size = none := freshN _ (Nat.le_refl _)
  generalize H2.objs.size = C at *
  generalize hDD : s₂.heap.objs.size = D at *
  have k₃ : Keeps s₂ { s₂ with heap := h₁, toks := s₂.toks + ([] : List (Str × Value)).length } := ⟨h₁, _, rfl, old⟩
  generalize hr : ({ s₂ with heap := h₁, toks := s₂.toks + ([] : List (Str × Value)).length } : Shared) = r at *
  have hrh : r.heap = h₁ := by rw [← hr]
  have P₃ := P₂.keeps k₃
  have zlive : ∀ b ∈ [z, TI, TO, i1, i2], ∃ o, s₂.heap.get? b = some o := fun b hb => by
    obtain ⟨a1, a2, ⟨u, v, a3⟩, ⟨o4, a4, r4⟩, o5, a5, r5⟩ := q0
    simp only [List.mem_cons, List.not_mem_nil, or_false] at hb
    rcases hb with rfl | rfl | rfl | rfl | rfl
    · exact ⟨_, a1⟩
    · exact ⟨_, a2⟩
    · exact ⟨_, a3⟩
    · exact ⟨_, a4⟩
    · exact ⟨_, a5⟩
  have avW : ∀ b ∈ [z, TI, TO, i1, i2], ¬ avs c.av μ b := fun b hb ha => by
    obtain ⟨o, e⟩ := P.live b ha
    rw [hnew b hb] at e; cases e
  have wrC : ∀ b ∈ [z, TI, TO, i1, i2], b ≠ C ∧ b ≠ D := fun b hb => by
    obtain ⟨o, e⟩ := zlive b hb
    exact ⟨(fun q => by rw [q, nC] at e; cases e), (fun q => by rw [q, nD] at e; cases e)⟩
  have CI0 : CI h0 (compCx c μ scope cl C D) C D [] [] r := by
    refine ⟨⟨⟨P.ok.handled, P.ok.depth, P.ok.units, K.kind, P.ok.globals, P.ok.builtins, .inl (.inl P.ok.avP)⟩, P₃.base, fun y d hy => by simp at hy, fun p hp => (nomatch hp), fun b hb => ?_, P₃.tab⟩, ⟨_, hrh ▸ hns₁⟩, ⟨#[], hrh ▸ hacc, RepL.nil⟩, .inr (.inl rfl), .inr (.inr rfl), rfl, ?_⟩
    · rcases avs_nil.mp hb with y | y | y
      · exact P₃.live b y
      · rw [y, hrh]; obtain ⟨o, es, ep, e, _⟩ := hns₁; exact ⟨o, e⟩
      · rw [y, hrh]; obtain ⟨n, e⟩ := hacc; exact ⟨_, e⟩
    · constructor
      · cases e : h0.get? C with
        | none => rfl
        | some o => have := P₂.base C o e; rw [nC] at this; cases this
      · cases e : h0.get? D with
        | none => rfl
        | some o => have := P₂.base D o e; rw [nD] at this; cases this
  have hin : InCx c scope (compCx c μ scope cl C D) := ⟨rfl, rfl⟩
  have q1 : ZS z TI TO i1 i2 (mkS X) (mkS Y) tx ty 0 .none r.heap := q0.keep fun b _ o e => hrh ▸ old b o e
  refine start_any (g := ⟨.Tuple [.Name (Str.ofString x) pa, .Name (Str.ofString y) pb] kk tp, iter, ifs, 0⟩) rfl rfl _ _ ?_ fun Q' hq => wpAny_pyIter_zip q1.1 hq
  refine zip_run (c' := compCx c μ scope cl C D) (C := C) (D := D) Da turn_one q1 (fun b hb => ?_) (fun b hb => ?_) (relabel_ne hx (by decide)) (relabel_ne hy (by decide)) hxd hyd hxy (fun a b s hm Ci => tests _ a b hin hm s Ci.p) CI0 fun s' X' pc => ?_
  · cases e : h0.get? b with
    | none => rfl
    | some o => have := P.base b o e; rw [hnew b hb] at this; cases this
  · rintro (h | h | h)
    · exact avW b hb h
    · exact (wrC b hb).1 h
    · exact (wrC b hb).2 h
  · have kk : Keeps s s' := by
      obtain ⟨h', tk', e'⟩ := pc.same
      obtain ⟨h2, t2, e2, _⟩ := kp_trans k₁ k₃
      refine ⟨h', tk', by rw [e', e2], fun b o e => ?_⟩
      have e3 := kp k₁ b o e
      have := pc.keep b o (fun q => by rw [q, nC] at e3; cases e3) (fun q => by rw [q, nD] at e3; cases e3) (fun hb => by
        rw [hnew b hb] at e; cases e) (hrh ▸ old b o e3)
      rw [e'] at this; exact this
    obtain ⟨its, hp, rr⟩ := X'.acc
    exact hQ C D its s' kk (old_none k₁ nC) (old_none k₁ nD) (Ne.symm hDC) hp (rr.mono (fun _ _ _ e => e) fun b y => .inl (avs_nil.mpr y)) X'.ns
end
end Mine
end
section
open PySem PySem.Calls PySem.W PyProof.Rows
open PySem.Builtin PySem.Builtin.Str
set_option maxRecDepth 100000
set_option maxHeartbeats 4000000
namespace Mine
local macro_rules | `(tactic| trivial) => `(tactic| exact kd ‹_› (by decide +kernel))
def leftF (p hd : List Nat) (js : List (List (List Nat))) : Bool := if (decide ((p.length : Int) < (hd.length : Int))) = true then false else (js.flatMap fun w => if holdsF w p 0 = true then [w] else []).isEmpty
section
variable {prog : Program} {w : World} {h0 : Heap} {c : Cx} {σ : St} {μ : Mu} {Φ : AF → Prop} {mg mb : Str → Option Value}
theorem left_ok (W : Wd prog w h0 mg mb) {a : Addr} (Da : DefAt h0 mg 40 a) {p hd : List Nat} {js : List (List (List Nat))} (hp : ∀ x ∈ p, x < 128) (hh : ∀ x ∈ hd, x < 128) (hz : ∀ x ∈ hd.zip p, x.1 = 46 ∨ x.1 = x.2) (hj : js.length ≤ 1000) :
    FnJ prog w h0 2 a [.str p, .str hd, .lst (js.map fun s => .lst (dS s))] (.bool (leftF p hd js)) :=
  fn_of (names := ["path", "head", "judges"]) W.nolimit Da (by rfl) (by rfl) (by rfl) (fun pm code doc => Bind.pos3 fun u v x => rfl) (by decide +kernel) (by decide) (by decide) fun c hc hk hce => by
  obtain ⟨ah, Dh⟩ := W.fn 39 (by decide)
  have ep : ∀ {σ : St} {μ : Mu} {k : Nat} {pos : Pos}, EvJ prog w h0 c σ μ (.Constant (.str (Str.ofString ".")) k pos) (.str dt) := lit_dt ▸ cs
  refine X.cons (X1.if (q := decide ((p.length : Int) < (hd.length : Int)) || (!(([] : List D).isEmpty) || false)) (Ts.or (Ts.cmp (Ev.cb W Ca.lenS (A1 nm)) (Ev.cb W Ca.lenS (A1 nm)) Cm.lt) fun _ => Ts.or (Ts.plain (Ev.comp (outs := []) ?_ (by simp)) (Tr.li Li.lst)) fun _ => Ts.orN) (fun h => ?_) fun h => X.nil ?_)
  · refine Comp.zip (X := hd) (Y := p) (Zit.zip W nm nm hh hp (by trivial)) hce (CapOk.of [] hc Sub.nil) (by decide +kernel) (by decide +kernel) (by decide) (by decide) (by decide) (fun c' x y hin hm => ?_) (by intro _; rfl)
    have hxy := hz _ hm
    refine If.one (b := false) (TsJ.cast (Ts.cmp (x := .str [x]) (y := .tup (dS [dt, [y]])) nm (Ev.dtuple (ds := dS [dt, [y]]) (A2 (lit_dt ▸ cs) nm) (by simp)) Cm.ninT) ?_)
    rcases hxy with h | h
    · have h : x = 46 := h
      subst h; simp
    · have h : x = y := h
      subst h; simp
  · refine X.cons (X1.ret Ev.cbool ⟨_, _, rfl, ?_⟩)
    unfold leftF; rw [if_pos (by simpa using h)]; exact .refl _
  · have hn : ¬ decide ((p.length : Int) < (hd.length : Int)) = true := by simpa using h
    have e : (js.flatMap fun w => if holdsF w p 0 = true then [D.lst (dS w)] else []) = (js.flatMap fun w => if holdsF w p 0 = true then [w] else []).map fun w => .lst (dS w) := by
      rw [List.map_flatMap]
      congr 1; funext w
      split <;> rfl
    have hl : (js.flatMap fun w => if holdsF w p 0 = true then [D.lst (dS w)] else []).length ≤ 1000000 := by
      have : ∀ l : List (List (List Nat)), (l.flatMap fun w => if holdsF w p 0 = true then [D.lst (dS w)] else []).length ≤ l.length := by
        intro l
        induction l with
        | nil => simp
        | cons w l ih =>
          rw [List.flatMap_cons, List.length_append, List.length_cons]
          split
          · rw [List.length_singleton]; omega
          · rw [List.length_nil]; omega
      have := this js; omega
    refine X.cons (X1.ret (Ev.not (d := .lst (js.flatMap fun w => if holdsF w p 0 = true then [D.lst (dS w)] else [])) (Ev.comp ?_ hl) (Tr.li Li.lst)) ⟨_, _, rfl, ?_⟩)
    · refine Comp.one (xs := js) (fun w => .lst (dS w)) (fun w => holdsF w p 0) (fun w => .lst (dS w)) (σ₀ := [("path", .str p)]) (Ite.of nm It.lst) hce (CapOk.of ["path"] hc (Sub.cons rfl Sub.nil)) (by decide +kernel) (by decide) rfl hl
        (fun c' w hin hw => If.one (Ts.plain (Ev.cf W Dh (holds_ok W Dh) (A2 nm nm) (by have := hin.2; omega) rfl (kd2 hin (by decide +kernel))) Tr.bool)) (fun c' w hin hw _ => nm) (by intro _; rfl)
    · unfold leftF; rw [if_neg hn, e]
      have : (List.map (fun w => D.lst (dS w)) (js.flatMap fun w => if holdsF w p 0 = true then [w] else [])).isEmpty = (js.flatMap fun w => if holdsF w p 0 = true then [w] else []).isEmpty := by
        generalize (js.flatMap fun w => if holdsF w p 0 = true then [w] else []) = l
        cases l <;> rfl
      rw [this, Bool.not_not]; exact .refl _
end
end Mine
end
section
open PySem PySem.Calls PySem.W PyProof.Rows
set_option maxRecDepth 100000
set_option maxHeartbeats 2000000
namespace Mine
/-- dict's fromkeys, as a value -/
def bfk : Obj := { cls := .type "builtin_function_or_method", data := .fields #[.builtin "dict.fromkeys", .type "dict"] }
theorem type_dfk : typeOf (.builtin "dict.fromkeys") = pure (.type "classmethod_descriptor") := by show builtinType _ = _; rw [builtinType_eq_fast]; kernel_rfl
theorem entry_dfk : entryFor table "dict.fromkeys" = some Builtin.«dict.fromkeys» := entryFor_of_tree (by kernel_rfl)
theorem entry_dfl : entryFor table "dict.fromkeys.loop" = some Builtin.«dict.fromkeys.loop» := entryFor_of_tree (by kernel_rfl)
theorem quiet_dfk {as : Args} : (Code.builtin "dict.fromkeys" as).quiet = true := Code.quiet_builtin _ (by decide +kernel)
theorem quiet_dfl {as : Args} : (Code.builtin "dict.fromkeys.loop" as).quiet = true := Code.quiet_builtin _ (by decide +kernel)
theorem isType_dict : isType (.type "dict") = pure true := by first | rfl | kernel_rfl | (unfold isType; rw [isSubtype_type]; kernel_rfl)
theorem owner_dfk : (kfb_private% "ownerAndName") "dict.fromkeys" = ("dict", "fromkeys") := by first | decide +kernel | kernel_rfl
theorem find_dfk : findCls [] (.type "dict") (.type "type") (Str.ofString "fromkeys") = some (.get (.builtin "classmethod_descriptor.__get__") (.builtin "dict.fromkeys") .none (.type "dict")) := by first | kernel_rfl | decide +kernel
section
variable {prog : Program} {w : World} {M : Model} {A : Around} {E : Value → Shared → Prop} {s : Shared}
theorem run_getd {P : Fin → Shared → Prop} (h : P (.done (.ret (.ref s.heap.objs.size))) { s with heap := s.heap.push bfk }) :
    wpAny M A (Builtin.«classmethod_descriptor.__get__» ⟨[.builtin "dict.fromkeys", .none, .type "dict"], []⟩) P E s := by
  unfold Builtin.«classmethod_descriptor.__get__»
  refine wpAny_bind (wpAny_of_eq (a := (.builtin "dict.fromkeys", none, some (.type "dict"))) (by first | rfl | kernel_rfl) ?_)
  simp only [owner_dfk]
  refine wpAny_bind (wpAny_of_eq (a := .type "dict") rfl ?_)
  refine wpAny_bind (wpAny_of_eq (a := true) isType_dict ?_)
  refine KFB.if_not rfl ?_
  refine wpAny_bind (wpAny_of_eq (a := true) PySem.F.kt_sub_dict ?_)
  refine KFB.if_not rfl ?_
  exact wpAny_bind (wpAny_newObj_type (wpAny_pure h))
theorem get_dfk {pl : Sem Bool} {Q : Value × List Value → Shared → Prop} (h : Q (.ref s.heap.objs.size, []) { s with heap := s.heap.push bfk, toks := s.toks + 1 }) :
    wpAny (model prog w) A (getMethod (.type "dict") (Str.ofString "fromkeys") pl) Q E s := by
  have X : Frag.In [] s.heap := fun a o e => by simp at e
  have hstub : opaqueClassAbove (.type "dict") = pure none := by unfold opaqueClassAbove; dsimp only; rw [show Manifest.isStub "dict" = false by decide +kernel]; rfl
  have ht : typeOf (.type "dict") = pure (.type "type") := by first | rfl | kernel_rfl
  have L0 : Looks (model prog w) s.heap (typeOf (.type "dict")) (.type "type") := Looks.of_pure ht
  have hg : findIn [] (.type "type") "__getattribute__" = some (some (.builtin "type.__getattribute__")) := type_tga
  unfold getMethod specialOf
  refine wpAny_bind (wpAny_bind (L0.here ((looks_findIn X hg).here ?_)))
  dsimp only
  rw [if_pos canon_tga]
  refine wpAny_bind (wpAny_mono (Q := fun v => Q (v, [])) (E := E) ?_ (fun _ _ z => wpAny_pure z) fun _ _ z => z)
  have LO : Looks (model prog w) s.heap (opaqueClassAbove (.type "dict")) none := Looks.of_pure hstub
  refine cls_open X LO L0 hg (looks_hook X (r := none) (by rfl)) (by show subIn [] _ _ = _; rfl) find_dfk ?_
  show wpAny _ _ (holding [.builtin "dict.fromkeys"] (call (.builtin "classmethod_descriptor.__get__") [.builtin "dict.fromkeys", .none, .type "dict"]) >>= fun v => ret v) _ _ _
  refine wpAny_bind (wpAny_holding (wpAny_call_entry KFB.slot_get type_dfk KFB.entry_get (run_getd ⟨_, rfl, wpAny_pure (wpAny_pure h)⟩) (KFB.args_get _ _ _)))
theorem callWith_dfk {pos : Pos} {u : Addr} {args : List (Bool × Sem Value)} {Q : Value → Shared → Prop} (hplain : args.any (·.1) = false)
    (h : wpAny M A (evalArgs (.ref u) true args []) (fun x s₁ => s₁.heap.get? u = some bfk ∧ wpAny M A (call (.ref u) x.pos x.kw) Q E s₁) E s) : wpAny M A (callWith pos (.ref u) [] args []) Q E s := by
  unfold callWith
  refine wpAny_bind (wpAny_holding (wpAny_mono h (fun x s₁ h₁ => wpAny_bind (wpAny_standAt ?_)) fun _ _ x => x))
  obtain ⟨ho, hcall⟩ := h₁
  simp only [hplain, List.any_nil, Bool.or_false]
  refine wpAny_bind (m := keeperOf (.ref u)) ?_
  unfold keeperOf
  refine wpAny_bind (wpAny_load ho ?_)
  simp only [bfk, show (Value.type "builtin_function_or_method" != Value.type "method") = true by decide, show (Value.type "builtin_function_or_method" == Value.type "builtin_function_or_method" || Value.type "builtin_function_or_method" == Value.type "method-wrapper") = true by decide, if_true]
  refine wpAny_pure ?_
  exact wpAny_bind (wpAny_mono hcall (fun r s₂ hr => wpAny_bind (wpAny_holding (wpAny_point (wpAny_pure hr)))) fun _ _ x => x)
theorem check_dfk {v : Value} : checkBoundCall "dict.fromkeys" ⟨[.type "dict", v], []⟩ = pure () := by first | kernel_rfl | rfl
theorem code_dict_new0 {Q₁ : Value → Shared → Prop} (h : Q₁ (.ref s.heap.objs.size) { s with heap := s.heap.push { cls := .type "dict", data := .dict #[] } }) :
    codeAny (model prog w) A (.call (.builtin "dict.__new__") ⟨[.type "dict"], []⟩) (wants Q₁ E) s := by
  refine codeAny_call_builtin PySem.F.kt_plain_dict_new PySem.F.kt_entry_dict_new (wpAny_of_eq (show checkBuiltinCall "dict.__new__" ⟨[.type "dict"], []⟩ = pure () by kernel_rfl) ?_)
  have hsub := PySem.F.kt_sub_dict
  have hmro := PySem.F.kt_mro_dict
  obtain ⟨hp, g, d, tk, os⟩ := s
  unfold Builtin.«dict.__new__»
  wp_walk
  exact h
theorem call_dict0 {Q : Value → Shared → Prop} (h : Q (.ref s.heap.objs.size) { s with heap := s.heap.push { cls := .type "dict", data := .dict #[] } }) :
    wpAny (model prog w) A (call (.type "dict") []) Q E s := by
  refine callType_codes (Q₁ := fun obj s₁ => obj = .ref s.heap.objs.size ∧ s₁ = { s with heap := s.heap.push { cls := .type "dict", data := .dict #[] } }) PySem.F.kt_called_dict (show checkTypeCall "dict" ⟨[], []⟩ = pure () by kernel_rfl) PySem.F.entry_dict_init (code_dict_new0 ⟨rfl, rfl⟩) ?_
  rintro obj s₁ ⟨rfl, rfl⟩
  have hT : ({ s with heap := s.heap.push { cls := .type "dict", data := .dict #[] } } : Shared).TypeIs (.ref s.heap.objs.size) "dict" := ⟨_, Heap.get?_push_size _ rfl, rfl⟩
  refine ⟨hT, PySem.F.args_dict_init_1 _, ?_⟩
  unfold Builtin.«dict.__init__»
  refine wpAny_bind ?_
  unfold Builtin.Dict.selfAndRest
  refine wpAny_bind (wpAny_notOrdered_dict hT ?_)
  show wpAny _ _ (pure (s.heap.objs.size, ([] : List Value))) _ _ _
  refine wpAny_pure ?_
  show wpAny _ _ (Builtin.Dict.addKeywords s.heap.objs.size [] >>= _) _ _ _
  exact wpAny_bind (wpAny_pure (wpAny_pure ⟨rfl, h⟩))
end
end Mine
end
section
open PySem PySem.Calls PySem.W PyProof.Rows
set_option maxRecDepth 100000
set_option maxHeartbeats 2000000
namespace Mine
def dk1 (acc : List (List Nat)) (t : List Nat) : List (List Nat) := if acc.contains t = true then acc else acc ++ [t]
def dkL (l : List (List Nat)) : List (List Nat) := l.foldl dk1 []
theorem mkS_inj {a b : List Nat} (h : mkS a = mkS b) : a = b := by
  have := congrArg (fun s : Str => s.cps.toList) h
  simpa using this
theorem stored_keys {kvs : List (Str × Value)} {K : List (List Nat)} (h : kvs.map (·.1) = K.map mkS) (x : List Nat) (v : Value) : (stored kvs (mkS x) v).map (·.1) = (dk1 K x).map mkS := by
  have hm : (kvs.any fun kv => decide (kv.1 = mkS x)) = K.contains x := by
    have e1 : (kvs.any fun kv => decide (kv.1 = mkS x)) = (kvs.map (·.1)).any fun k => decide (k = mkS x) := by rw [List.any_map]; rfl
    rw [e1, h, List.any_map]
    rw [Bool.eq_iff_iff]
    simp only [List.any_eq_true, Function.comp, decide_eq_true_eq, List.contains_iff_mem]
    constructor
    · rintro ⟨y, hy, e⟩; rw [← mkS_inj e]; exact hy
    · intro hx; exact ⟨x, hx, rfl⟩
  unfold stored dk1
  rw [hm]
  split
  · rw [List.map_map, ← h]
    refine List.map_congr_left fun kv _ => ?_
    simp only [Function.comp]
    split <;> rfl
  · rw [List.map_append, List.map_append, h]; rfl
theorem plain_dfl : plainId "dict.fromkeys.loop" = true := by decide +kernel
theorem dk_len : ∀ (l acc : List (List Nat)), (l.foldl dk1 acc).length ≤ acc.length + l.length
  | [], acc => by simp
  | t :: l, acc => by
    rw [List.foldl_cons]
    have := dk_len l (dk1 acc t)
    have : (dk1 acc t).length ≤ acc.length + 1 := by unfold dk1; split <;> simp
    simp only [List.length_cons]; omega
section
variable {prog : Program} {w : World} {A : Around} {R : Result → Shared → Prop}
theorem dfl_run {d I l : Addr} (hh : A.handled = none) (hdI : d ≠ I) (hdl : d ≠ l) (hIl : l ≠ I) {ls : List (List Nat)} {its : Array Value} {ts : List (Str × Tok)} (e1 : its.toList = strValues ts) (e2 : ts.map (·.1) = ls.map mkS) (hz : ls.length ≤ 10000) :
    ∀ (k i : Nat) (s : Shared) (kvs : List (Str × Value)), ls.length - i = k → i ≤ ls.length → kvs.map (·.1) = ((ls.take i).foldl dk1 []).map mkS → s.heap.DictOf (strKind prog w) d kvs → s.heap.IsListIter I l i ∧ s.heap.IsList l its →
      (∀ h' tk kvs', h'.DictOf (strKind prog w) d kvs' → kvs'.map (·.1) = (dkL ls).map mkS → (∀ b o, b ≠ d → b ≠ I → s.heap.get? b = some o → h'.get? b = some o) → R (.ok (.ret (.ref d))) { s with heap := h', toks := tk }) →
      codeAny (model prog w) A (.builtin "dict.fromkeys.loop" ⟨[.ref d, .ref I, .none], []⟩) R s := by
  have hts : ts.length = ls.length := by have := congrArg List.length e2; simpa using this
  have hsz : its.size = ls.length := by have := congrArg List.length e1; simpa [strValues, hts] using this
  have W := Walks.list (prog := prog) (w := w) (A := A.in1) (show A.in1.handled = none from hh) I l hIl its
  intro k
  induction k with
  | zero =>
    intro i s kvs hk hi hK hd hst hR
    have hin : i = ls.length := by omega
    subst hin
    refine codeAny_builtin entry_dfl ?_
    rw [Around.under_plainId plain_dfl _]
    show wpAny _ A.in1 (pyNext (.ref I) >>= _) _ _ s
    rw [List.take_length] at hK
    refine wpAny_bind (W.done s _ _ (by rw [hsz]; exact hst) fun h' tk hk' => ?_)
    obtain ⟨o, es, ep, ho, r⟩ := hd
    exact wpAny_pure (hR h' tk kvs ⟨o, es, ep, hk' d o (by simpa using hdI) ho, r⟩ hK fun b o _ n2 e => hk' b o (by simpa using n2) e)
  | succ k ih =>
    intro i s kvs hk hi hK hd hst hR
    have hlt : i < ls.length := by omega
    refine codeAny_builtin entry_dfl ?_
    rw [Around.under_plainId plain_dfl _]
    show wpAny _ A.in1 (pyNext (.ref I) >>= _) _ _ s
    refine wpAny_bind (W.item i s _ _ (by omega) hst fun v h' tk hv hst' hk' => ?_)
    have hv' : its.toList[i]? = some v := by simpa using hv
    rw [e1] at hv'
    simp only [strValues, List.getElem?_map] at hv'
    have h2 : (ts.map (·.1))[i]? = (ls.map mkS)[i]? := by rw [e2]
    simp only [List.getElem?_map] at h2
    rw [List.getElem?_eq_getElem hlt] at h2
    obtain ⟨p, hp, hpv⟩ := Option.map_eq_some_iff.mp hv'
    rw [hp] at h2
    have hx : p.1 = mkS ls[i] := by simpa using h2
    obtain ⟨x, t⟩ := p
    dsimp only at hx hpv
    subst hx hpv
    have hd' : h'.DictOf (strKind prog w) d kvs := let ⟨o, es, ep, ho, r⟩ := hd; ⟨o, es, ep, hk' d o (by simpa using hdI) ho, r⟩
    have hkl : kvs.length ≤ 10000 := by
      have q1 := congrArg List.length hK
      have q2 := dk_len (ls.take i) []
      simp only [List.length_map, List.length_nil, List.length_take] at q1 q2
      omega
    show wpAny _ A.in1 (typeOf (.ref d) >>= _) _ _ _
    refine wpAny_bind (wpAny_typeOf (T := "dict") hd'.typeIs ?_)
    dsimp only
    rw [if_pos (by decide)]
    refine wpAny_bind (wpAny_pure (a := d) ?_)
    refine wpAny_bind (wpAny_holding ?_)
    refine wpAny_dictSet_pairs (k := mkS ls[i]) (knd := strKind prog w) (by unfold PySem.strKind; simp [PySem.Value.isStrOf]) hd' (fun h'' hd'' hs'' => ?_) (by rw [sizeLine_eq]; omega)
    refine wpAny_pure ⟨quiet_dfl, ih (i + 1) _ _ (by omega) (by omega) ?_ hd'' ?_ fun h3 tk3 kvs3 hd3 hK3 hk3 => ?_⟩
    · rw [stored_keys hK, List.take_add_one, List.getElem?_eq_getElem hlt, List.foldl_append]; rfl
    · exact ⟨hst'.1.extBut hs''.extBut (Ne.symm hdI), hst'.2.extBut hs''.extBut (Ne.symm hdl)⟩
    · exact hR h3 tk3 kvs3 hd3 hK3 fun b o n1 n2 e => hk3 b o n1 n2 (hs''.extBut b o n1 (hk' b o (by simpa using n2) e))
end
end Mine
end
section
open PySem PySem.Calls PySem.W PyProof.Rows
namespace Mine
/-- how the arguments come to the def's names, the heap at the law's call being known -/
def BindB (prog : Program) (w : World) (h0 : Heap) (fd : FuncData) (ds : List D) (names : List String) (ds' : List D) : Prop :=
  ∀ (A : Around) (av : Av) (s : Shared) (vs : List Value), (∀ b o, h0.get? b = some o → s.heap.get? b = some o) → RepL s.heap av ds vs → (∀ b, av b → ∃ o, s.heap.get? b = some o) →
    wpAny (model prog w) A (bindArgs fd ⟨vs, []⟩) (fun binds s' => Keeps s s' ∧ binds.map (·.1) = names.map Str.ofString ∧ RepL s'.heap av ds' (binds.map (·.2))) NoE s
theorem fn_callB {prog : Program} {w : World} {h0 : Heap} {k : Nat} {a : Addr} {o : Obj} {fd : FuncData} {body : List Stmt} {ds ds' : List D} {names : List String} {d : D}
    (hlim : h0.NoLimit) (ho : h0.get? a = some o) (hd : o.data = .func fd) (hcd : h0.CodeRec fd.code fd.qualname) (hbody : fd.body = .stmts body) (hclo : fd.closure = [])
    (hg : fd.globals = mainGlobals) (hb : fd.builtins = builtinsNs) (hco : fd.scope.isCoroutine = false) (hgen : fd.scope.isGenerator = false) (hkd : fd.scope.kind = .function)
    (hbind : BindB prog w h0 fd ds names ds')
    (hnames : ∀ x ∈ names, fd.scope.names.lookup (Str.ofString x) = some .local ∨ fd.scope.names.lookup (Str.ofString x) = some .cell)
    (hdeb : ∀ x ∈ names, (Str.ofString x == ("__debug__" : Str)) = false) (hnod : (names.map Str.ofString).Nodup)
    (h : ∀ c : Cx, c.env.scope = fd.scope → c.k = k → (∀ x, c.env.kindOf x = some .cell → ∃ cc, c.env.cells.lookup x = some cc) → XJ prog w h0 c (names.zip ds') [] body (fun af => ∃ d' μ', af = .ret d' μ' ∧ Fz μ' d' d)) :
    FnJ prog w h0 (k + 1) a ds d := by
  intro A av s vs ok base live avP tab r
  refine wpAny_call (codeAny_call_function (o := o) (fd := fd) (body := body) (by have := ok.depth; omega) (base _ _ ho) hd hco hgen hbody (hcd.keeps base) ?_)
  refine wpAny_mono (hbind A.in1 av s vs base r live) (fun binds s₁ x => ?_) fun _ _ x => x.elim
  obtain ⟨k₁, hbn, rb⟩ := x
  rw [hclo]
  have hmem : ∀ y ∈ binds, ∃ x ∈ names, y.1 = Str.ofString x := fun y hy => by
    have : y.1 ∈ binds.map (·.1) := List.mem_map_of_mem hy
    rw [hbn] at this
    obtain ⟨x, hx, e⟩ := List.mem_map.mp this
    exact ⟨x, hx, e.symm⟩
  refine wpAny_newFunctionEnv_cells hkd (fun y hy => ?_) fun env he s₂ X => ?_
  · obtain ⟨x, hx, e⟩ := hmem y hy
    rw [e]
    rcases hnames x hx with q | q
    · exact .inl q
    · exact .inr ⟨q, cellsFrom_has _ _ _ _ (.inl (mem_of_lookup' q))⟩
  have hIC := X.toInCall
  refine ⟨(hlim.keeps base).keeps fun b o e => hIC.keep b o (kp k₁ b o e), codeAny_func ?_⟩
  have hsc : env.scope = fd.scope := by rw [he]; rfl
  have hL : env.locals = s₁.heap.objs.size := by rw [he]; rfl
  have hcl : env.cells = cellsFrom (s₁.heap.objs.size + 1) fd.scope.names [] := by rw [he]; rfl
  let c : Cx := { A := A.deeper env, k := k, env := env, av := fun b => av b ∨ b = env.locals ∨ ∃ x, env.cells.lookup x = some b, s₀ := s₁ }
  have live₁ : ∀ b, av b → ∃ o, s₁.heap.get? b = some o := fun b hb => let ⟨o, e⟩ := live b hb; ⟨o, kp k₁ _ _ e⟩
  have newC : ∀ x b, env.cells.lookup x = some b → s₁.heap.get? b = none := fun x b hm => by
    have h1 := X.above x b (mem_of_lookup hm)
    rw [hL] at h1
    cases q : s₁.heap.get? b with
    | none => rfl
    | some o => exact absurd (Heap.lt_size q) (Nat.not_lt.mpr (Nat.le_of_lt h1))
  have newAv : ∀ b, (av b ∨ b = env.locals ∨ ∃ x, env.cells.lookup x = some b) → av b ∨ s₁.heap.get? b = none := fun b hb => by
    rcases hb with y | y | ⟨x, y⟩
    · exact .inl y
    · subst y; rw [hL]; exact .inr (fresh_size _)
    · exact .inr (newC x b y)
  have rb₂ : RepL s₂.heap c.av ds' (binds.map (·.2)) := rb.mono (fun b o _ e => hIC.keep b o e) newAv
  have avsE : ∀ b, avs c.av [] b → c.av b := fun b hb => by
    rcases hb with y | ⟨p, hp, _⟩
    · exact y
    · cases hp
  have ok' : c.Ok := by
    refine ⟨ok.handled, ?_, ?_, by show env.scope.kind = _; rw [hsc]; exact hkd, by show env.globals = _; rw [he]; exact hg, by show env.builtins = _; rw [he]; exact hb, .inl avP⟩
    · show A.depth + 1 + k ≤ _; have := ok.depth; omega
    · show A.units + 3 + 40 * k ≤ _; have := ok.units; omega
  have base₂ : ∀ b o, h0.get? b = some o → s₂.heap.get? b = some o := fun b o e => hIC.keep b o (kp k₁ _ _ (base b o e))
  have hce : ∀ x, c.env.kindOf x = some .cell → ∃ cc, c.env.cells.lookup x = some cc := fun x hx => by
    show ∃ cc, env.cells.lookup x = some cc
    have hx' : fd.scope.names.lookup x = some .cell := by
      have : env.kindOf x = some .cell := hx
      unfold Env.kindOf at this; rwa [hsc] at this
    have hsome := cellsFrom_has fd.scope.names (s₁.heap.objs.size + 1) [] x (.inl (mem_of_lookup' hx'))
    rw [← hcl] at hsome
    exact Option.isSome_iff_exists.mp hsome
  have SS : SSt h0 c (names.zip ds') [] s₂ := by
    refine ⟨⟨ok', base₂, fun x d hx => ?_, fun p hp => (nomatch hp), fun b hb => ?_, (tab.keeps (kp k₁)).keeps hIC.keep⟩, fun b o e => kp k₁ _ _ (base b o e), ⟨_, _, X⟩, .inr (.inl rfl), fun x cc hm => .inr (.inr ⟨x, hm⟩), fun x hx => ?_, fun p hp => (nomatch hp), List.nodup_nil, fun p hp => (nomatch hp)⟩
    · obtain ⟨i, hi, hdi⟩ := zip_of hx
      obtain ⟨v, hv, rv⟩ := rb₂.get hdi
      have hxn : x ∈ names := List.mem_of_getElem? hi
      have hbi : (Str.ofString x, v) ∈ binds := by
        have h1 : (binds.map (·.1))[i]? = some (Str.ofString x) := by rw [hbn]; simp [hi]
        rw [List.getElem?_map] at h1 hv
        cases hq : binds[i]? with
        | none => rw [hq] at h1; cases h1
        | some y =>
          rw [hq] at h1 hv
          obtain ⟨y1, y2⟩ := y
          simp only [Option.map_some, Option.some.injEq] at h1 hv
          subst h1; subst hv
          exact List.mem_of_getElem? hq
      refine ⟨hdeb x hxn, v, ?_, rv.mono (fun _ _ _ e => e) fun b hb => .inl (avsE b hb)⟩
      have hnd : (binds.map (·.1)).Nodup := by rw [hbn]; exact hnod
      have hko : env.kindOf (Str.ofString x) = fd.scope.names.lookup (Str.ofString x) := by unfold Env.kindOf; rw [hsc]
      rcases hnames x hxn with q | q
      · exact .inl ⟨hko.trans q, _, hIC.ns, bindL_get hbi hnd (hko.trans q)⟩
      · have hsome := cellsFrom_has fd.scope.names (s₁.heap.objs.size + 1) [] _ (.inl (mem_of_lookup' q))
        rw [← hcl] at hsome
        obtain ⟨cc, hcc⟩ := Option.isSome_iff_exists.mp hsome
        refine .inr ⟨hko.trans q, cc, hcc, ?_⟩
        have := X.cell _ cc hcc
        rwa [bindC_get hbi hnd (by rw [hko, q]; decide)] at this
    · rcases avsE b hb with y | y | ⟨x, y⟩
      · obtain ⟨o, e⟩ := live₁ b y; exact ⟨o, hIC.keep _ _ e⟩
      · subst y; obtain ⟨o, es, ep, e, _⟩ := hIC.ns; exact ⟨o, e⟩
      · obtain ⟨o, e, _⟩ := X.cell x b y; exact ⟨o, e⟩
    · exact hce x hx
  refine wpAny_mono (h c hsc rfl hce s₂ SS) (fun fl s₃ y => ?_) fun _ _ y => y.elim
  obtain ⟨af, ⟨d', μ', rfl, fz⟩, hf⟩ := y
  obtain ⟨⟨v, rfl, S₃, rv⟩, _⟩ := hf
  obtain ⟨m₃, cm₃, X₃⟩ := S₃.frame
  refine ⟨kp_trans k₁ ?_, ?_⟩
  · obtain ⟨h₃, tk₃, e⟩ := X₃.toInCall.same
    refine ⟨h₃, tk₃, e, fun b o eb => ?_⟩
    have := X₃.toInCall.keep b o eb
    rw [e] at this
    exact this
  · refine Fz.rep (cav := avs c.av μ') S₃.p.own (fun b hb => .inl (.inl hb)) (fun p hp hav => ?_) fz rv
    exact S₃.notin p hp (.inl hav)
end Mine
end
section
open PySem PySem.Calls PySem.W PyProof.Rows
set_option maxRecDepth 100000
set_option maxHeartbeats 2000000
namespace Mine
section
variable {prog : Program} {w : World} {A : Around} {E : Value → Shared → Prop} {s : Shared}
theorem call_dfk {u l : Addr} {ls : List (List Nat)} {its : Array Value} {ts : List (Str × Tok)} {Q : Value → Shared → Prop} (hh : A.handled = none) (hu : s.heap.get? u = some bfk) (hl : s.heap.PlainList l its) (e1 : its.toList = strValues ts) (e2 : ts.map (·.1) = ls.map mkS) (hz : ls.length ≤ 10000)
    (h : ∀ h' tk d kvs, s.heap.get? d = none → d = s.heap.objs.size → h'.DictOf (strKind prog w) d kvs → kvs.map (·.1) = (dkL ls).map mkS → (∀ b o, s.heap.get? b = some o → h'.get? b = some o) → Q (.ref d) { s with heap := h', toks := tk }) :
    wpAny (model prog w) A (call (.ref u) [.ref l]) Q E s := by
  obtain ⟨nl, hlg⟩ := hl
  refine wpAny_call (codeAny_of_tree ?_)
  show wpAny _ A.in1 (callAny (.ref u) ⟨[.ref l], []⟩) _ _ s
  simp only [callAny]
  refine wpAny_bind (wpAny_load hu ?_)
  simp only [bfk, show (Value.type "builtin_function_or_method" == Value.type "method" || Value.type "builtin_function_or_method" == Value.type "builtin_function_or_method" || Value.type "builtin_function_or_method" == Value.type "method-wrapper") = true by decide, if_true]
  refine KFB.if_so (by decide) ?_
  refine wpAny_bind (wpAny_of_eq (a := ()) check_dfk ?_)
  refine wpAny_bind (wpAny_pure (wpAny_pure ?_))
  refine ⟨quiet_dfk, codeAny_builtin entry_dfk ?_⟩
  generalize hA : A.in1.under (.builtin "dict.fromkeys" ⟨[.type "dict", .ref l], []⟩) = A'
  unfold Builtin.«dict.fromkeys»
  refine wpAny_bind (wpAny_of_eq (a := true) isType_dict ?_)
  refine KFB.if_not rfl ?_
  refine wpAny_bind (wpAny_of_eq (a := true) PySem.F.kt_sub_dict ?_)
  refine KFB.if_not rfl ?_
  refine KFB.if_not rfl ?_
  refine wpAny_bind (wpAny_bind (wpAny_rule (wpAny_pure ?_)))
  refine wpAny_bind (wpAny_pure ?_)
  refine wpAny_bind (call_dict0 ?_)
  refine wpAny_holding ?_
  have nl' : l ≠ s.heap.objs.size := fun q => by rw [q, fresh_size] at hlg; cases hlg
  have hl1 : ({ s with heap := s.heap.push { cls := .type "dict", data := .dict #[] } } : Shared).heap.get? l = some { cls := .type "list", data := .seq its nl } := Heap.get?_push_of_some _ hlg
  have hd0 : ({ s with heap := s.heap.push { cls := .type "dict", data := .dict #[] } } : Shared).heap.DictOf (strKind prog w) s.heap.objs.size [] := Heap.DictOf.new s.heap
  refine wpAny_bind (wpAny_typeOf (T := "list") ⟨_, hl1, rfl⟩ ?_)
  refine wpAny_bind (wpAny_typeOf (T := "dict") hd0.typeIs ?_)
  refine KFB.if_not (by decide) ?_
  refine wpAny_bind (wpAny_typeOf (T := "dict") hd0.typeIs ?_)
  refine KFB.if_not (by decide) ?_
  have hil : ({ s with heap := s.heap.push { cls := .type "dict", data := .dict #[] } } : Shared).heap.IsList l its := ⟨_, hl1, rfl, nl, rfl⟩
  refine wpAny_bind (wpAny_pyIter_list hil (wpAny_pure ⟨quiet_dfl, ?_⟩))
  have hs1 : (s.heap.push { cls := .type "dict", data := .dict #[] }).objs.size = s.heap.objs.size + 1 := Heap.size_push ..
  have n1 : s.heap.objs.size ≠ (s.heap.push { cls := .type "dict", data := .dict #[] }).objs.size := by rw [hs1]; exact Nat.ne_of_lt (Nat.lt_succ_self _)
  have n2 : l ≠ (s.heap.push { cls := .type "dict", data := .dict #[] }).objs.size := fun q => by
    have hl2 := hl1
    rw [q] at hl2
    have : ({ s with heap := s.heap.push { cls := .type "dict", data := .dict #[] } } : Shared).heap.get? (s.heap.push { cls := .type "dict", data := .dict #[] }).objs.size = none := fresh_size _
    rw [this] at hl2; cases hl2
  refine dfl_run (A := A) hh n1 (Ne.symm nl') n2 e1 e2 hz ls.length 0 _ [] (by omega) (Nat.zero_le _) rfl ?_ ?_ fun h' tk kvs hd hk hkeep => ?_
  · exact hd0.push _
  · exact ⟨⟨_, Heap.get?_push_size _ rfl, rfl, rfl⟩, hil.push _⟩
  exact h h' tk _ kvs (fresh_size _) rfl hd hk fun b o e => hkeep b o (fun q => by rw [q, fresh_size] at e; cases e) (fun q => by
    have : s.heap.get? (s.heap.push { cls := .type "dict", data := .dict #[] }).objs.size = none := Heap.get?_none_of_le (by rw [hs1]; exact Nat.le_succ _)
    rw [q, this] at e; cases e) (Heap.get?_push_of_some _ (Heap.get?_push_of_some _ e))
end
section
variable {prog : Program} {w : World} {h0 : Heap} {c : Cx} {σ : St} {μ : Mu} {mg mb : Str → Option Value}
theorem dct_of {h : Heap} {d : Addr} {kvs : List (Str × Value)} (hd : h.DictOf (strKind prog w) d kvs) (hn : (d == sysModules) = false) : IsDct h d kvs.length := by
  obtain ⟨o, es, ep, ho, hc, hdat, hk, hp, hn'⟩ := hd
  refine ⟨es, ep, ?_, ?_, hn⟩
  · obtain ⟨c1, d1, dt, sl⟩ := o
    obtain ⟨q1, q2, q3⟩ := hc
    dsimp only at q1 q2 q3 hdat
    subst q1 q2 q3 hdat
    exact ho
  · have := hp.length; simpa using this
theorem Ev.fromkeys (W : Wd prog w h0 mg mb) {pl : Sem Bool} {e : Expr} {p apos pos : Pos} {ls : List (List Nat)} (h : EvJ prog w h0 c σ μ e (.lst (dS ls))) (hz : ls.length ≤ 10000) (hk : c.env.kindOf (Str.ofString "dict") = some .globalImplicit)
    (he : starEach [e] c.env = [(false, eval e c.env)] := by rfl)
    (hev : eval (.Call (.Attribute (.Name (Str.ofString "dict") p) (Str.ofString "fromkeys") apos) [e] [] pos) c.env = (do
      let ov ← eval (.Name (Str.ofString "dict") p) c.env
      standAt apos.atName
      let (f, first) ← holding [ov] (getMethod ov (Str.ofString "fromkeys") pl)
      callWith pos f first (backTo pos (starEach [e] c.env)) (backToKw pos (keywordEach [] c.env))) := by rfl) :
    EvJ prog w h0 c σ μ (.Call (.Attribute (.Name (Str.ofString "dict") p) (Str.ofString "fromkeys") apos) [e] [] pos) (.dct (dkL ls).length) := fun s P => by
  refine methodCall_KW ((W.nm hk : GlJ prog w h0 c σ μ (Str.ofString "dict") (.type "dict")) p s P _ (get_dfk ?_)) hev
  dsimp only
  rw [he]
  have k0 : Keeps s { s with heap := s.heap.push bfk, toks := s.toks + 1 } := kp_push
  have P0' := P.keeps k0
  have hu0 : ({ s with heap := s.heap.push bfk, toks := s.toks + 1 } : Shared).heap.get? s.heap.objs.size = some bfk := Heap.get?_push_size _ rfl
  generalize hs0 : ({ s with heap := s.heap.push bfk, toks := s.toks + 1 } : Shared) = s0 at *
  refine callWith_dfk rfl (Calls.evalArgs_plain (Calls.spliced_cons (h.run P0' fun v s₁ k₁ P₁ r => Calls.spliced_nil ?_)))
  refine ⟨kp k₁ _ _ hu0, ?_⟩
  obtain ⟨z, b, its, rfl, hp, rr⟩ := Li.lst s₁ v P₁ r
  obtain ⟨zs, ts, e1, e2⟩ := unSs rr
  refine call_dfk P.ok.handled (kp k₁ _ _ hu0) hp e1 e2 hz fun h' tk d kvs hn hde hd hkk hkeep => ?_
  have k2 : Keeps s₁ { s₁ with heap := h', toks := tk } := ⟨h', tk, rfl, hkeep⟩
  refine ⟨kp_trans k0 (kp_trans k₁ k2), ?_⟩
  have hlen : kvs.length = (dkL ls).length := by have := congrArg List.length hkk; simpa using this
  have hns : (d == sysModules) = false := by
    obtain ⟨ps, et, _⟩ := P₁.tab
    have : P0 < s₁.heap.objs.size := Heap.lt_size et
    rw [hde]
    have h1 : (1 : Nat) < s₁.heap.objs.size := Nat.lt_trans (by decide) this
    exact beq_false_of_ne (Nat.ne_of_gt h1)
  rw [Rep, ← hlen]
  exact ⟨d, rfl, P₁.off hn, dct_of hd hns⟩
theorem Ca.lenD {n : Nat} (hfit : (n : Int) < 2 ^ 63) : CaJ prog w h0 c σ μ (.builtin "len") [.dct n] (.int n) := fun s vs P r => by
  obtain ⟨v, rfl, rv⟩ := unL1 r
  rw [Rep] at rv
  obtain ⟨d, rfl, _, es, ep, ho, hsz, hd⟩ := rv
  have hT : s.TypeIs (.ref d) "dict" := ⟨_, ho, rfl⟩
  have g : MeetsIn prog w (Builtin.«dict.__len__» ⟨[.ref d], []⟩) (fun _ R s => s.heap.get? d = some { cls := .type "dict", data := .dict es ep } ∧ R (.ok (.ret (.int es.size s.toks))) { s with toks := s.toks + 1 }) :=
    .of_wp fun A R s ⟨ho, h⟩ => by
      show wpAny _ _ (dictSize d >>= _) _ _ s
      unfold dictSize
      refine wpAny_bind (wpAny_bind (wpAny_dictEntries ho rfl (wpAny_pure ?_)))
      show wpAny _ _ (Builtin.Dict.pendingCount d >>= _) _ _ s
      refine wpAny_bind (wpAny_pendingCount_other hd ?_)
      refine wpAny_ret_mkInt ?_
      rw [Nat.add_zero]; exact h
  refine Calls.call_function_entry kind_len plain_len entry_len (args_len1 _) ?_
  unfold Builtin.«len»
  refine wpAny_bind (m := oneArg "len" _) (wpAny_pure ?_)
  refine wpAny_bind (m := callSpecial? (.ref d) (Str.ofString "__len__")) (wpAny_callSpecial?_slot (name := Str.ofString "__len__") hT PySem.F.slot_dict_len
    (call_meetsIn PySem.F.slot_dict_len hT PySem.F.entry_dict_len (PySem.F.args_dict_len_1 _) g ⟨ho, ?_⟩))
  show wpAny _ _ _ _ _ { s with toks := s.toks + 1 }
  refine wpAny_bind (wpAny_holding (wpAny_pure ?_))
  refine wpAny_bind (wpAny_letGo ?_)
  show wpAny _ _ (if ((es.size : Nat) : Int) < 0 then _ else _) _ _ _
  rw [if_neg (by omega)]
  show wpAny _ _ (if ((es.size : Nat) : Int) ≥ 2 ^ 63 then _ else _) _ _ _
  rw [if_neg (by omega)]
  refine wpAny_bind (wpAny_mkInt (wpAny_pure ⟨_, rfl, ?_⟩))
  exact ⟨kp_trans kp_toks kp_toks, by rw [hsz]; exact repI⟩
end
end Mine
end
section
open PySem PySem.Calls PySem.W PyProof.Rows
open PySem.Builtin PySem.Builtin.Str
set_option maxRecDepth 100000
set_option maxHeartbeats 4000000
namespace Mine
local macro_rules | `(tactic| trivial) => `(tactic| exact kd ‹_› (by decide +kernel))
/-- `_deduplicate` stands at a -/
def DedAt (h0 : Heap) (mg : Str → Option Value) (a : Addr) : Prop :=
  ∃ o fd kd m pm code doc, mg (nameS (stOf 28)) = some (.ref a) ∧ h0.get? a = some o ∧ o.data = .func fd ∧ h0.CodeRec fd.code fd.qualname ∧
    fd = { docDef (nameS (stOf 28)) (paramsS (stOf 28)) (bodyS (stOf 28)) (scopeS (stOf 28)) pm code doc with kwdefaults := .ref kd } ∧ h0.Ns kd m ∧ m (Str.ofString "unhashable_fallback") = some (.bool false)
section
variable {prog : Program} {w : World} {h0 : Heap} {c : Cx} {σ : St} {μ : Mu} {Φ : AF → Prop} {mg mb : Str → Option Value}
theorem ded_ok (W : Wd prog w h0 mg mb) {a : Addr} (Dd : DedAt h0 mg a) {ls : List (List Nat)} (hz : ls.length ≤ 10000) : FnJ prog w h0 1 a [.lst (dS ls)] (.dct (dkL ls).length) := by
  obtain ⟨o, fd, kd, m, pm, code, doc, h1, h2, h3, h4, rfl, h5, h6⟩ := Dd
  refine fn_callB (k := 0) (names := ["params", "unhashable_fallback"]) (ds' := [.lst (dS ls), .bool false]) W.nolimit h2 h3 h4 rfl rfl rfl rfl (by rfl) (by rfl) (by rfl) ?_ (show ∀ x ∈ ["params", "unhashable_fallback"], (scopeS (stOf 28)).names.lookup (Str.ofString x) = some .local ∨ (scopeS (stOf 28)).names.lookup (Str.ofString x) = some .cell by decide +kernel) (by decide) (by decide) fun c hc hk hce => ?_
  · intro A av s vs base r live
    obtain ⟨v, rfl, rv⟩ := unL1 r
    have hn : s.heap.Ns kd m := h5.keeps base
    have fin : Keeps s s ∧ [(Str.ofString "params", v), (Str.ofString "unhashable_fallback", Value.bool false)].map (·.1) = ["params", "unhashable_fallback"].map Str.ofString ∧ RepL s.heap av [.lst (dS ls), .bool false] ([(Str.ofString "params", v), (Str.ofString "unhashable_fallback", Value.bool false)].map (·.2)) := ⟨kp_rfl, rfl, RepL.cons rv (RepL.one repB)⟩
    unfold bindArgs
    dsimp only
    refine wpAny_bind (wpAny_of_eq (a := ([(Str.ofString "params", v)], [])) rfl ?_)
    refine wpAny_bind (wpAny_of_eq (a := none) rfl ?_)
    refine KFB.if_not rfl ?_
    refine KFB.if_not rfl ?_
    refine wpAny_bind (wpAny_of_eq (a := [(Str.ofString "params", v)]) rfl ?_)
    refine wpAny_bind ?_
    show wpAny _ _ ((nsGet kd (Str.ofString "unhashable_fallback") >>= _) >>= _) _ _ _
    refine wpAny_bind ?_
    refine wpAny_bind (wpAny_nsGet hn ?_)
    rw [h6]
    refine wpAny_pure ?_
    refine wpAny_of_eq (a := ([(Str.ofString "params", v), (Str.ofString "unhashable_fallback", Value.bool false)], [])) rfl ?_
    refine KFB.if_not rfl ?_
    exact wpAny_of_eq (a := [(Str.ofString "params", v), (Str.ofString "unhashable_fallback", Value.bool false)]) rfl fin
  · have hc' : c.env.scope = scopeS (stOf 28) := hc
    exact X.cons (X1.try (X.cons (X1.ret (Ev.fromkeys W nm hz (by trivial)) ⟨_, _, rfl, .refl _⟩)))
end
end Mine
end
section
open PySem PySem.Calls PySem.W PyProof.Rows
open PySem.Builtin PySem.Builtin.Str
set_option maxRecDepth 100000
set_option maxHeartbeats 1000000
namespace Mine
/-- the places of a sign, from lo -/
def plc (c : Nat) (l : List Nat) (lo : Nat) : List Nat := (List.range' lo (l.length - lo)).filter fun i => l[i]? == some c
theorem occ_loop (l : List Nat) (c lim : Nat) : ∀ (js : List Nat) (st : Array Nat × Nat), (∀ i ∈ js, st.2 ≤ i) → js.Pairwise (· < ·) →
    (forIn js st (StrLaws.occBody (mkS l) (mkS [c]) l.length lim)).run.fst.toList = st.1.toList ++ (js.filter fun i => l[i]? == some c).take (lim - st.1.size)
  | [], st, _, _ => by simp
  | i :: js, st, hs, hp => by
    rw [List.forIn_cons]
    rw [List.pairwise_cons] at hp
    have hone := StrLaws.subAt_one (mkS l) c i
    rw [mkS_len, mkS_list] at hone
    have h2 : st.2 ≤ i := hs i (.head _)
    unfold StrLaws.occBody
    by_cases hlim : st.1.size < lim
    · by_cases hi : l[i]? = some c
      · obtain ⟨q1, q2⟩ := hone.mpr hi
        rw [if_pos ⟨⟨⟨hlim, h2⟩, q1⟩, q2⟩]
        have ih := occ_loop l c lim js (st.1.push i, i + (mkS [c]).length) (fun j hj => by have := hp.1 j hj; simp [Str.length]; omega) hp.2
        refine Eq.trans ih ?_
        rw [List.filter_cons_of_pos (by simp [hi])]
        have : lim - st.1.size = (lim - (st.1.push i).size) + 1 := by rw [Array.size_push]; omega
        rw [this, List.take_succ_cons]; simp
      · rw [if_neg (fun q => hi (hone.mp ⟨q.1.2, q.2⟩))]
        have ih := occ_loop l c lim js (st.1, st.2) (fun j hj => by have := hs j (.tail _ hj); exact this) hp.2
        refine Eq.trans ih ?_
        rw [List.filter_cons_of_neg (by simp [hi])]
    · rw [if_neg (fun q => hlim q.1.1.1)]
      have ih := occ_loop l c lim js (st.1, st.2) (fun j hj => by have := hs j (.tail _ hj); exact this) hp.2
      refine Eq.trans ih ?_
      rw [show lim - st.1.size = 0 by omega]; simp
theorem occ_one (l : List Nat) (c lo lim : Nat) : occurrences (mkS l) (mkS [c]) lo l.length lim = (plc c l lo).take lim := by
  rw [StrLaws.occ_eq, occ_loop]
  · simp only [Array.toList_empty, List.nil_append, List.size_toArray, List.length_nil, Nat.sub_zero]
    congr 1
    unfold plc
    by_cases h : lo ≤ l.length
    · rw [show l.length + 1 - lo = (l.length - lo) + 1 by omega, List.range'_concat, List.filter_append]
      have : l[lo + (l.length - lo)]? = none := List.getElem?_eq_none (by omega)
      simp [this]
    · rw [show l.length + 1 - lo = 0 by omega, show l.length - lo = 0 by omega]
  · intro i hi; simp [List.mem_range'] at hi; show lo ≤ i; omega
  · exact List.pairwise_lt_range'
/-- a text cut at slashes -/
def cutL : List Nat → List (List Nat)
  | [] => [[]]
  | x :: l => if x = 47 then [] :: cutL l else match cutL l with
    | [] => [[x]]
    | y :: ys => (x :: y) :: ys
end Mine
end
section
open PySem PySem.Calls PySem.W PyProof.Rows
open PySem.Builtin PySem.Builtin.Str
set_option maxRecDepth 100000
set_option maxHeartbeats 1000000
namespace Mine
def cutF (l : List Nat) (p : Nat × Nat) : List Nat := (l.drop p.1).take (p.2 - p.1)
def cutP (l : List Nat) (cs : List Nat) : List (List Nat) := ((0 :: cs.map (· + 1)).zip (cs ++ [l.length])).map (cutF l)
theorem cut_shift (x : Nat) (l : List Nat) : ∀ (A B : List Nat), ((A.map (· + 1)).zip (B.map (· + 1))).map (cutF (x :: l)) = (A.zip B).map (cutF l)
  | [], B => by simp
  | a :: A, [] => by simp
  | a :: A, b :: B => by
    simp only [List.map_cons, List.zip_cons_cons]
    rw [cut_shift x l A B]
    congr 1
    unfold cutF
    simp
theorem plc_cons (c x : Nat) (l : List Nat) : plc c (x :: l) 0 = (if x = c then [0] else []) ++ (plc c l 0).map (· + 1) := by
  unfold plc
  simp only [List.length_cons, Nat.sub_zero]
  rw [List.range'_succ, List.filter_cons]
  have e : (List.range' (0 + 1) l.length).filter (fun i => (x :: l)[i]? == some c) = ((List.range' 0 l.length).filter fun i => l[i]? == some c).map (· + 1) := by
    rw [show (0 + 1 : Nat) = 1 + 0 by rfl, ← List.map_add_range' (a := 1)]
    rw [List.filter_map]
    have hc : ((fun i => (x :: l)[i]? == some c) ∘ fun x => 1 + x) = fun i => l[i]? == some c := by
      funext i; simp [Function.comp, Nat.add_comm 1 i]
    rw [hc]
    apply List.map_congr_left; intro a _; omega
  rw [e]
  simp
  split <;> rfl
theorem cutP_eq : ∀ l : List Nat, cutP l (plc 47 l 0) = cutL l
  | [] => by decide
  | x :: l => by
    have ih := cutP_eq l
    rw [plc_cons, cutL]
    generalize hc : plc 47 l 0 = cs at *
    by_cases hx : x = 47
    · rw [if_pos hx, if_pos hx, ← ih]
      unfold cutP
      simp only [List.singleton_append, List.map_cons, List.cons_append, List.zip_cons_cons, List.length_cons]
      congr 1
      have := cut_shift x l (0 :: cs.map (· + 1)) (cs ++ [l.length])
      simpa using this
    · rw [if_neg hx, if_neg hx, List.nil_append]
      unfold cutP at ih ⊢
      obtain ⟨s0, S, hS⟩ : ∃ s0 S, cs ++ [l.length] = s0 :: S := by
        cases cs with
        | nil => exact ⟨_, _, rfl⟩
        | cons a r => exact ⟨_, _, rfl⟩
      have hS' : cs.map (· + 1) ++ [(x :: l).length] = (s0 + 1) :: S.map (· + 1) := by
        have := congrArg (List.map (· + 1)) hS
        simpa using this
      rw [hS'] 
      rw [hS] at ih
      simp only [List.zip_cons_cons, List.map_cons] at ih ⊢
      rw [← ih]
      have := cut_shift x l (cs.map (· + 1)) S
      rw [this]
      simp [cutF]
theorem comps_eq (l : List Nat) : comps l = cutL l := by
  rw [← cutP_eq]
  unfold comps Txt.split
  have hk : ¬ (Str.strKind (mkS l) < Str.strKind (mkS sl)) := by
    have : Str.strKind (mkS sl) = 1 := by decide +kernel
    rw [this]; unfold Str.strKind; split
    · omega
    · split <;> omega
  rw [mkS_len, mkS_len]
  by_cases hl : l = []
  · subst hl; decide
  · have hlen : ¬ l.length < sl.length := by
      cases l with
      | nil => exact absurd rfl hl
      | cons a r => simp
    rw [if_neg (by simp only [Bool.or_eq_true, decide_eq_true_eq]; rintro (h | h); exact hlen h; exact hk h)]
    have ho : occurrences (mkS l) (mkS sl) 0 l.length (l.length + 1) = plc 47 l 0 := by
      rw [occ_one, List.take_of_length_le]
      unfold plc
      refine Nat.le_trans (List.length_filter_le _ _) ?_
      simp
    rw [ho]
    have strF : ∀ i j, (strSub (mkS l) i j).cps.toList = cutF l (i, j) := by
      intro i j; unfold strSub cutF; simp
    split
    · rename_i he
      have : plc 47 l 0 = [] := by simpa using he
      rw [this]; simp [cutP, cutF]
    · unfold partsBetween cutP
      rw [List.map_map, mkS_len]
      apply List.map_congr_left
      rintro ⟨i, j⟩ _
      exact strF i j
theorem cutL_ne (l : List Nat) : cutL l ≠ [] := by
  cases l with
  | nil => simp [cutL]
  | cons x l => rw [cutL]; split; simp; split <;> simp
theorem cutL_cat : ∀ a b : List Nat, cutL (a ++ 47 :: b) = cutL a ++ cutL b
  | [], b => by simp [cutL]
  | x :: a, b => by
    have ih := cutL_cat a b
    rw [List.cons_append, cutL, cutL]
    by_cases hx : x = 47
    · rw [if_pos hx, if_pos hx, ih]; rfl
    · rw [if_neg hx, if_neg hx, ih]
      cases h : cutL a with
      | nil => exact absurd h (cutL_ne a)
      | cons y ys => rfl
theorem cutL_one : ∀ l : List Nat, 47 ∉ l → cutL l = [l]
  | [], _ => rfl
  | x :: l, h => by
    simp only [List.mem_cons, not_or] at h
    rw [cutL, if_neg (fun q => h.1 q.symm), cutL_one l h.2]
end Mine
end
section
open PySem PySem.Calls PySem.W PyProof.Rows
open PySem.Builtin PySem.Builtin.Str
set_option maxRecDepth 100000
set_option maxHeartbeats 1000000
namespace Mine
def GP (init p : List Nat) : List (List Nat) := (cutL p).foldl (np1 init) []
theorem starts_sl (y : Nat) (b : List Nat) : Txt.startswith (mkS (y :: b)) (mkS sl) = decide (y = 47) := by
  rw [Bool.eq_iff_iff, decide_eq_true_eq]
  unfold Txt.startswith
  rw [Bool.and_eq_true, decide_eq_true_eq]
  have := StrLaws.subAt_one (mkS (y :: b)) 47 0
  rw [mkS_list] at this
  refine Iff.trans this ?_
  simp
theorem ends_sl {p : List Nat} (hp : p ≠ []) : Txt.endswith (mkS p) (mkS sl) = true ↔ ∃ q, p = q ++ [47] := by
  unfold Txt.endswith
  rw [Bool.and_eq_true, decide_eq_true_eq]
  have h1 := StrLaws.subAt_one (mkS p) 47 (p.length - 1)
  rw [mkS_list] at h1
  have hl : 0 < p.length := List.length_pos_iff.mpr hp
  have e1 : (mkS p).length - (mkS sl).length = p.length - 1 := by rw [mkS_len, mkS_len]; rfl
  rw [e1]
  have e2 : (0 + (mkS sl).length ≤ (mkS p).length) ↔ (p.length - 1 + (⟨#[47]⟩ : Str).length ≤ (mkS p).length) := by
    rw [mkS_len, mkS_len]; show (0 + 1 ≤ p.length) ↔ (p.length - 1 + 1 ≤ p.length); omega
  rw [e2]
  refine Iff.trans h1 ?_
  rw [← List.getLast?_eq_getElem?]
  exact List.getLast?_eq_some_iff
theorem np1_nil (init : List Nat) (ns) : np1 init ns [] = ns := by unfold np1; rw [if_pos (by rfl)]
theorem np1_dt (init : List Nat) (ns) : np1 init ns dt = ns := by unfold np1; rw [if_pos (by rfl)]
theorem GP_jn {init p b : List Nat} {y : Nat} (hp : p ≠ []) (hy : y ≠ 47) : GP init (jn1 p (y :: b)) = (cutL (y :: b)).foldl (np1 init) (GP init p) := by
  unfold jn1
  have hs : (Txt.startswith (mkS (y :: b)) (mkS sl) || p.isEmpty) = false := by
    rw [starts_sl, decide_eq_false hy]
    cases p with
    | nil => exact absurd rfl hp
    | cons => rfl
  rw [if_neg (by rw [hs]; decide)]
  by_cases he : Txt.endswith (mkS p) (mkS sl) = true
  · rw [if_pos he]
    obtain ⟨q, rfl⟩ := (ends_sl hp).mp he
    unfold GP
    rw [List.append_assoc, List.singleton_append, cutL_cat, cutL_cat, List.foldl_append, List.foldl_append]
    show _ = List.foldl (np1 init) (List.foldl (np1 init) _ [[]]) _
    rw [List.foldl_cons, List.foldl_nil, np1_nil]
  · rw [if_neg he]
    unfold GP
    rw [List.singleton_append, cutL_cat, List.foldl_append]
theorem jn1_pre {p b : List Nat} {y : Nat} (hp : p ≠ []) (hy : y ≠ 47) : ∃ z, jn1 p (y :: b) = p ++ z := by
  unfold jn1
  have hs : (Txt.startswith (mkS (y :: b)) (mkS sl) || p.isEmpty) = false := by
    rw [starts_sl, decide_eq_false hy]
    cases p with
    | nil => exact absurd rfl hp
    | cons => rfl
  rw [if_neg (by rw [hs]; decide)]
  split
  · exact ⟨_, rfl⟩
  · exact ⟨_, rfl⟩
theorem slc_abs (c : Nat) (r : List Nat) : slc none (some 1) (47 :: c :: r) = [47] ∧ slc (some 1) (some 2) (47 :: c :: r) = [c] ∧ slc (some 1) none (47 :: c :: r) = c :: r := by
  refine ⟨?_, ?_, ?_⟩
  · unfold slc clipI; simp; rw [show (Max.max 0 (Min.min (1 : Int) ((r.length : Int) + 1 + 1))).toNat = 1 by omega]; rfl
  · unfold slc clipI; simp
    rw [show (Max.max 0 (Min.min (1 : Int) ((r.length : Int) + 1 + 1))).toNat = 1 by omega, show (Max.max 0 (Min.min (2 : Int) ((r.length : Int) + 1 + 1))).toNat = 2 by omega]; rfl
  · unfold slc clipI; simp
    rw [show (Max.max 0 (Min.min (1 : Int) ((r.length : Int) + 1 + 1))).toNat = 1 by omega]; simp
theorem slc_rel (c : Nat) (r : List Nat) : slc none (some 1) (c :: r) = [c] := by
  unfold slc clipI; simp; rw [show (Max.max 0 (Min.min (1 : Int) ((r.length : Int) + 1))).toNat = 1 by omega]; rfl
theorem norm_abs {c : Nat} {r : List Nat} (hc : c ≠ 47) : norm (47 :: c :: r) = sl ++ joinS sl (GP sl (47 :: c :: r)) := by
  obtain ⟨h1, h2, h3⟩ := slc_abs c r
  have hs : sroot (47 :: c :: r) = (sl, c :: r) := by
    unfold sroot
    rw [h1, if_neg (by decide), h2, if_pos (by simp [hc]), h3]
  have hG : GP sl (47 :: c :: r) = (cutL (c :: r)).foldl (np1 sl) [] := by
    unfold GP; rw [cutL, if_pos rfl, List.foldl_cons, np1_nil]
  unfold norm
  rw [if_neg (by simp), hs, comps_eq]
  simp only
  rw [if_neg (by simp), hG]
theorem norm_rel {c : Nat} {r : List Nat} (hc : c ≠ 47) : norm (c :: r) = if (joinS sl (GP [] (c :: r))).isEmpty = true then dt else joinS sl (GP [] (c :: r)) := by
  have hs : sroot (c :: r) = ([], c :: r) := by
    unfold sroot
    rw [slc_rel, if_pos (by simp [hc])]
  unfold norm
  rw [if_neg (by simp), hs, comps_eq]
  simp only [List.nil_append]
  rfl
/-- a step, by its kind -/
def kst (b : Bool) (ns : List Nat) (k : Nat) : List Nat := if (k != 0 || (b && ns.isEmpty) || ns.getLast? == some 0) = true then ns ++ [k] else ns.dropLast
def exK (b : Bool) (o : List Nat) : List Nat := o.foldl (kst b) []
theorem kst_lt {b : Bool} {ns : List Nat} {k n : Nat} (h : ∀ j ∈ ns, j < n) (hk : k < n) : ∀ j ∈ kst b ns k, j < n := by
  unfold kst
  split
  · intro j hj
    rcases List.mem_append.mp hj with q | q
    · exact h j q
    · rw [List.mem_singleton] at q; omega
  · intro j hj; exact h j (List.dropLast_subset _ hj)
section
variable {s1 s2 : Nat}
abbrev OkS (s : Nat) : Prop := s ≠ 46 ∧ s ≠ 47
theorem T_dd {k : Nat} (h1 : OkS s1) (h2 : OkS s2) (hk : k < 3) : (textL s1 s2 k == dd) = (k == 0) ∧ (textL s1 s2 k).isEmpty = false ∧ (textL s1 s2 k == dt) = false ∧ 47 ∉ textL s1 s2 k := by
  unfold textL
  match k, hk with
  | 0, _ => simp
  | 1, _ => refine ⟨?_, ?_, ?_, ?_⟩ <;> simp [h1.1, h1.2.symm]
  | 2, _ => refine ⟨?_, ?_, ?_, ?_⟩ <;> simp [h2.1, h2.2.symm]
theorem np1_T {init ns : List Nat} {k : Nat} (h1 : OkS s1) (h2 : OkS s2) (hn : ∀ j ∈ ns, j < 3) (hk : k < 3) : np1 init (ns.map (textL s1 s2)) (textL s1 s2 k) = (kst init.isEmpty ns k).map (textL s1 s2) := by
  obtain ⟨a1, a2, a3, a4⟩ := T_dd h1 h2 hk
  have hl : ((ns.map (textL s1 s2)).getLast? == some dd) = (ns.getLast? == some 0) := by
    rw [List.getLast?_map]
    cases h : ns.getLast? with
    | none => rfl
    | some j =>
      have hj : j < 3 := hn j (List.mem_of_getLast? h)
      have := (T_dd h1 h2 hj).1
      rw [Bool.eq_iff_iff] at this ⊢
      simpa using this
  have hne : ∀ b : Bool, ((!ns.isEmpty) && (ns.getLast? == some 0)) = (ns.getLast? == some 0) := by
    intro _; cases ns with
    | nil => rfl
    | cons => simp
  have hm : (ns.map (textL s1 s2)).isEmpty = ns.isEmpty := by cases ns <;> rfl
  unfold np1 kst
  rw [if_neg (by rw [a2, a3]; decide), hm, hl, hne true]
  have hc : (textL s1 s2 k != dd) = (k != 0) := by unfold bne; rw [a1]
  rw [hc]
  split
  · simp
  · rw [List.map_dropLast]
end
end Mine
end
section
open PySem PySem.Calls PySem.W PyProof.Rows
open PySem.Builtin PySem.Builtin.Str
set_option maxRecDepth 100000
set_option maxHeartbeats 1000000
namespace Mine
inductive All2 {α β : Type} (S : α → β → Prop) : List α → List β → Prop
  | nil : All2 S [] []
  | cons {a b l m} : S a b → All2 S l m → All2 S (a :: l) (b :: m)
theorem All2.length {α β : Type} {S : α → β → Prop} : ∀ {l : List α} {m : List β}, All2 S l m → l.length = m.length
  | _, _, .nil => rfl
  | _, _, .cons _ t => by simp [t.length]
theorem All2.right {α β : Type} {S : α → β → Prop} {P : β → Prop} (h : ∀ a b, S a b → P b) : ∀ {l : List α} {m : List β}, All2 S l m → ∀ b ∈ m, P b
  | _, _, .nil, _, q => nomatch q
  | _, _, .cons p t, b, q => by
    rcases List.mem_cons.mp q with rfl | q
    · exact h _ _ p
    · exact t.right h b q
section
variable {s1 s2 : Nat}
/-- x spells the kind k -/
abbrev Spl (s1 s2 k : Nat) (x : List Nat) : Prop := k < 3 ∧ x ∈ spellA s1 (textL s1 s2 k)
theorem spell_fold {init : List Nat} {ns : List (List Nat)} {t x : List Nat} (h1 : OkS s1) (ht : 47 ∉ t) (hx : x ∈ spellA s1 t) : (cutL x).foldl (np1 init) ns = np1 init ns t := by
  have e1 : lit "./" = [46, 47] := by decide
  have e2 : lit "/." = [47, 46] := by decide
  have e3 : lit "//" = [47, 47] := by decide
  have e4 : lit "/../" = [47, 46, 46, 47] := by decide
  have c46 : cutL [46] = [[46]] := by decide
  have c0 : cutL [47] = [[], []] := by decide
  have cdd : cutL [46, 46] = [[46, 46]] := by decide
  have cs1 : cutL [s1] = [[s1]] := cutL_one _ (by simp [h1.2.symm])
  have d46 : np1 init ns [46] = ns := np1_dt init ns
  have d46' : np1 init (np1 init ns t) [46] = np1 init ns t := np1_dt init _
  unfold spellA at hx
  rw [e1, e2, e3, e4] at hx
  simp only [List.mem_cons, List.not_mem_nil, or_false] at hx
  rcases hx with rfl | rfl | rfl | rfl | rfl
  · rw [cutL_one _ ht]; rfl
  · show (cutL ([46] ++ 47 :: t)).foldl (np1 init) ns = _
    rw [cutL_cat, c46, cutL_one _ ht]
    show np1 init (np1 init ns [46]) t = _
    rw [d46]
  · show (cutL (t ++ 47 :: [46])).foldl (np1 init) ns = _
    rw [cutL_cat, c46, cutL_one _ ht]
    show np1 init (np1 init ns t) [46] = _
    rw [d46']
  · show (cutL (t ++ 47 :: [47])).foldl (np1 init) ns = _
    rw [cutL_cat, c0, cutL_one _ ht]
    show np1 init (np1 init (np1 init ns t) []) [] = _
    rw [np1_nil, np1_nil]
  · show (cutL ([s1] ++ 47 :: ([46, 46] ++ 47 :: t))).foldl (np1 init) ns = _
    rw [cutL_cat, cutL_cat, cs1, cdd, cutL_one _ ht]
    show np1 init (np1 init (np1 init ns [s1]) [46, 46]) t = _
    have f1 : np1 init ns [s1] = ns ++ [[s1]] := by
      unfold np1
      have q1 : (([s1] : List Nat).isEmpty || [s1] == dt) = false := by simp [h1.1]
      have q2 : ([s1] != dd) = true := by simp
      rw [if_neg (by rw [q1]; decide), if_pos (by rw [q2]; rfl)]
    have f2 : np1 init (ns ++ [[s1]]) [46, 46] = ns := by
      unfold np1
      rw [if_neg (by decide), if_neg]
      · simp
      · simp
    rw [f1, f2]
theorem spell_head {t x : List Nat} (h1 : OkS s1) (ht : 47 ∉ t) (hn : t ≠ []) (hx : x ∈ spellA s1 t) : ∃ y b, x = y :: b ∧ y ≠ 47 := by
  obtain ⟨y, b, rfl⟩ := List.exists_cons_of_ne_nil hn
  have hy : y ≠ 47 := fun q => ht (by rw [q]; exact .head _)
  have e1 : lit "./" = [46, 47] := by decide
  unfold spellA at hx
  rw [e1] at hx
  simp only [List.mem_cons, List.not_mem_nil, or_false] at hx
  rcases hx with rfl | rfl | rfl | rfl | rfl
  · exact ⟨y, b, rfl, hy⟩
  · exact ⟨46, _, rfl, by decide⟩
  · exact ⟨y, _, rfl, hy⟩
  · exact ⟨y, _, rfl, hy⟩
  · exact ⟨s1, _, rfl, h1.2⟩
theorem T_ne {k : Nat} (h1 : OkS s1) (h2 : OkS s2) (hk : k < 3) : textL s1 s2 k ≠ [] := fun q => by
  have := (T_dd h1 h2 hk).2.1
  rw [q] at this; cases this
theorem row_fold {init : List Nat} (h1 : OkS s1) (h2 : OkS s2) : ∀ {o : List Nat} {row : List (List Nat)}, All2 (Spl s1 s2) o row → ∀ (p : List Nat) (ns : List Nat), p ≠ [] → (∀ j ∈ ns, j < 3) → GP init p = ns.map (textL s1 s2) →
    GP init (row.foldl jn1 p) = (o.foldl (kst init.isEmpty) ns).map (textL s1 s2) ∧ ∃ z, row.foldl jn1 p = p ++ z
  | _, _, .nil, p, ns, _, _, hG => ⟨hG, [], by simp⟩
  | k :: o, x :: row, .cons ⟨hk, hx⟩ t, p, ns, hp, hn, hG => by
    obtain ⟨a1, a2, a3, a4⟩ := T_dd h1 h2 hk
    have hne := T_ne h1 h2 hk
    obtain ⟨y, b, rfl, hy⟩ := spell_head h1 a4 hne hx
    have e1 : GP init (jn1 p (y :: b)) = (kst init.isEmpty ns k).map (textL s1 s2) := by
      rw [GP_jn hp hy, spell_fold h1 a4 hx, hG, np1_T h1 h2 hn hk]
    obtain ⟨z, hz⟩ := jn1_pre (b := b) hp hy
    have hp' : jn1 p (y :: b) ≠ [] := by rw [hz]; simp [hp]
    obtain ⟨q1, z', q2⟩ := row_fold h1 h2 t (jn1 p (y :: b)) (kst init.isEmpty ns k) hp' (kst_lt hn hk) e1
    refine ⟨q1, z ++ z', ?_⟩
    rw [List.foldl_cons, q2, hz, List.append_assoc]
/-- the place of a row of kinds, behind a slash -/
def RA (s1 s2 : Nat) (ns : List Nat) : List Nat := sl ++ joinS sl (ns.map (textL s1 s2))
/-- and bare -/
def RR (s1 s2 : Nat) (ns : List Nat) : List Nat := if (joinS sl (ns.map (textL s1 s2))).isEmpty = true then dt else joinS sl (ns.map (textL s1 s2))
theorem ends_row (h1 : OkS s1) (h2 : OkS s2) {o : List Nat} {row : List (List Nat)} (h : All2 (Spl s1 s2) o row) (hne : o ≠ []) : norm (jn sl row) = RA s1 s2 (exK false o) := by
  cases h with
  | nil => exact absurd rfl hne
  | @cons k x o row hk t =>
    obtain ⟨hk, hx⟩ := hk
    obtain ⟨a1, a2, a3, a4⟩ := T_dd h1 h2 hk
    obtain ⟨y, b, rfl, hy⟩ := spell_head h1 a4 (T_ne h1 h2 hk) hx
    have hj : jn1 sl (y :: b) = 47 :: y :: b := by
      unfold jn1
      rw [if_neg (by rw [starts_sl, decide_eq_false hy]; decide), if_pos ((ends_sl (p := sl) (by simp)).mpr ⟨[], rfl⟩)]; rfl
    have hG0 : GP sl sl = ([] : List Nat).map (textL s1 s2) := by show GP sl sl = []; decide
    have e1 : GP sl (jn1 sl (y :: b)) = (kst false [] k).map (textL s1 s2) := by
      rw [GP_jn (by simp) hy, spell_fold h1 a4 hx, hG0, np1_T h1 h2 (by simp) hk]; rfl
    obtain ⟨q1, z, q2⟩ := row_fold (init := sl) h1 h2 t (jn1 sl (y :: b)) (kst false [] k) (by rw [hj]; simp) (kst_lt (by simp) hk) e1
    have e2 : jn sl ((y :: b) :: row) = 47 :: y :: (b ++ z) := by
      unfold jn; rw [List.foldl_cons, q2, hj]; rfl
    have e3 : GP sl (jn sl ((y :: b) :: row)) = (exK false (k :: o)).map (textL s1 s2) := by
      unfold jn exK; rw [List.foldl_cons, List.foldl_cons]; exact q1
    rw [e2] at e3 ⊢
    rw [norm_abs hy, e3]; rfl
theorem loose_row (h1 : OkS s1) (h2 : OkS s2) {o : List Nat} {x : List Nat} {row : List (List Nat)} (h : All2 (Spl s1 s2) o (x :: row)) : norm (jn x row) = RR s1 s2 (exK true o) := by
  cases h with
  | @cons k _ o _ hk t =>
    obtain ⟨hk, hx⟩ := hk
    obtain ⟨a1, a2, a3, a4⟩ := T_dd h1 h2 hk
    obtain ⟨y, b, rfl, hy⟩ := spell_head h1 a4 (T_ne h1 h2 hk) hx
    have e1 : GP [] (y :: b) = (kst true [] k).map (textL s1 s2) := by
      unfold GP
      rw [spell_fold h1 a4 hx]
      exact np1_T (init := []) (ns := []) h1 h2 (by simp) hk
    obtain ⟨q1, z, q2⟩ := row_fold (init := []) h1 h2 t (y :: b) (kst true [] k) (by simp) (kst_lt (by simp) hk) e1
    have e2 : jn (y :: b) row = y :: (b ++ z) := by unfold jn; rw [q2]; rfl
    have e3 : GP [] (jn (y :: b) row) = (exK true (k :: o)).map (textL s1 s2) := by
      unfold jn exK; rw [List.foldl_cons]; exact q1
    rw [e2] at e3 ⊢
    rw [norm_rel hy, e3]; rfl
theorem laid_sp {st : List (List (List Nat))} {S : Nat → List Nat → Prop} (hS : ∀ k, k < 3 → ∀ x ∈ st.getD k [], S k x) : ∀ (o : List Nat) (u : List Nat) (r : List (List Nat)), u.length = 3 → (∀ k ∈ o, k < 3) → (∀ k, k < 3 → u.getD k 0 + o.count k ≤ (st.getD k []).length) →
    ∃ t, (o.foldl (laid1 st) (u, r)).2 = r ++ t ∧ All2 S o t
  | [], u, r, _, _, _ => ⟨[], by simp, .nil⟩
  | k :: o, u, r, hu, hO, hC => by
    have hk := hO k (.head _)
    have hck := hC k hk
    rw [List.count_cons_self] at hck
    have hx : (st.getD k []).getD (u.getD k 0) [] ∈ st.getD k [] := by
      have hlt : u.getD k 0 < (st.getD k []).length := by omega
      have e : (st.getD k []).getD (u.getD k 0) [] = (st.getD k [])[u.getD k 0]'hlt := by
        rw [List.getD_eq_getElem?_getD, List.getElem?_eq_getElem hlt]; rfl
      rw [e]
      exact List.getElem_mem _
    obtain ⟨t, e, h⟩ := laid_sp hS o (u.set k (u.getD k 0 + 1)) (r ++ [(st.getD k []).getD (u.getD k 0) []]) (by simp [hu]) (fun j hj => hO j (.tail _ hj)) (fun j hj => by
      have hcj := hC j hj
      by_cases q : j = k
      · subst q
        rw [List.getD_eq_getElem?_getD, List.getElem?_set_self (by omega)]
        show u.getD j 0 + 1 + _ ≤ _
        omega
      · rw [List.getD_eq_getElem?_getD, List.getElem?_set_ne (fun z => q z.symm), ← List.getD_eq_getElem?_getD]
        rw [List.count_cons_of_ne (fun z => q z.symm)] at hcj
        exact hcj)
    refine ⟨(st.getD k []).getD (u.getD k 0) [] :: t, ?_, .cons (hS k hk _ hx) h⟩
    rw [List.foldl_cons]
    show (o.foldl (laid1 st) (u.set k (u.getD k 0 + 1), r ++ [(st.getD k []).getD (u.getD k 0) []])).2 = _
    rw [e]; simp
theorem laid_all2 {st : List (List (List Nat))} {S : Nat → List Nat → Prop} (hS : ∀ k, k < 3 → ∀ x ∈ st.getD k [], S k x) {o : List Nat} (hO : ∀ k ∈ o, k < 3) (hC : ∀ k, k < 3 → o.count k ≤ (st.getD k []).length) : All2 S o (laidF o st) := by
  obtain ⟨t, e, h⟩ := laid_sp hS o [0, 0, 0] [] rfl hO (fun k hk => by
    have : ([0, 0, 0] : List Nat).getD k 0 = 0 := by
      match k, hk with
      | 0, _ => rfl
      | 1, _ => rfl
      | 2, _ => rfl
    rw [this, Nat.zero_add]; exact hC k hk)
  unfold laidF
  rw [e, List.nil_append]; exact h
end
end Mine
end
section
open PySem PySem.Calls PySem.W PyProof.Rows
open PySem.Builtin PySem.Builtin.Str
set_option maxRecDepth 100000
set_option maxHeartbeats 1000000
namespace Mine
theorem plc_step (c : Nat) (p : List Nat) {lo : Nat} (h : lo < p.length) : plc c p lo = (if p[lo]? = some c then [lo] else []) ++ plc c p (lo + 1) := by
  unfold plc
  rw [show p.length - lo = (p.length - (lo + 1)) + 1 by omega, List.range'_succ, List.filter_cons]
  by_cases hc : p[lo]? = some c
  · rw [if_pos (by simp [hc]), if_pos hc]; rfl
  · rw [if_neg (by simp [hc]), if_neg hc]; rfl
theorem plc_end (c : Nat) (p : List Nat) {lo : Nat} (h : p.length ≤ lo) : plc c p lo = [] := by
  unfold plc; rw [show p.length - lo = 0 by omega]; rfl
theorem plc_next (c : Nat) (p : List Nat) : ∀ (n lo k : Nat) (r : List Nat), p.length - lo = n → plc c p lo = k :: r → plc c p (k + 1) = r
  | 0, lo, k, r, hn, h => by rw [plc_end c p (by omega)] at h; cases h
  | n + 1, lo, k, r, hn, h => by
    have hlt : lo < p.length := by omega
    rw [plc_step c p hlt] at h
    by_cases hc : p[lo]? = some c
    · rw [if_pos hc] at h
      simp only [List.singleton_append, List.cons.injEq] at h
      rw [← h.1]; exact h.2
    · rw [if_neg hc, List.nil_append] at h
      exact plc_next c p n (lo + 1) k r (by omega) h
theorem find3_one (p : List Nat) (c spot : Nat) : Txt.find3 (mkS p) (mkS [c]) (spot : Int) = match plc c p spot with | k :: _ => (k : Int) | [] => -1 := by
  unfold Txt.find3
  have e : fromIndex (mkS p).length (spot : Int) = spot := by
    unfold fromIndex; rw [if_neg (by omega)]; omega
  rw [e, mkS_len, occ_one]
  cases plc c p spot with
  | nil => rfl
  | cons k r => rfl
theorem holds_one (p : List Nat) (c : Nat) : ∀ (m spot : Nat), holdsF (List.replicate m [c]) p (spot : Int) = decide (m ≤ (plc c p spot).length)
  | 0, spot => by simp [holdsF]
  | m + 1, spot => by
    rw [List.replicate_succ, holdsF, find3_one]
    cases h : plc c p spot with
    | nil => simp
    | cons k r =>
      have hk : ¬ (((k : Int) + 1 == 0) = true) := by simp; omega
      simp only
      rw [if_neg hk]
      have := holds_one p c m (k + 1)
      rw [show ((k : Int) + 1) = ((k + 1 : Nat) : Int) by omega, this, plc_next c p _ spot k r rfl h]
      simp
theorem plc_count (c : Nat) : ∀ p : List Nat, (plc c p 0).length = p.count c
  | [] => by simp [plc]
  | x :: p => by
    rw [plc_cons, List.length_append, List.length_map, plc_count c p, List.count_cons]
    by_cases h : x = c
    · simp [h]; omega
    · simp [h]
theorem holds_count (p : List Nat) (c m : Nat) : holdsF (List.replicate m [c]) p 0 = decide (m ≤ p.count c) := by
  have := holds_one p c m 0
  rw [plc_count] at this
  exact this
theorem wordsN_map (r : Nat → Nat) (signs l : List (List Nat)) : wordsN (signs.map (List.map r)) (l.map (List.map r)) = (wordsN signs l).map (List.map r) := by
  unfold wordsN
  simp only [if_true]
  rw [List.flatMap_map, List.map_flatMap]
  congr 1; funext a
  rw [List.flatMap_map, List.map_flatMap]
  congr 1; funext b
  simp
theorem wordsL_map (r : Nat → Nat) (signs : List (List Nat)) (n : Nat) : wordsL (signs.map (List.map r)) n = (wordsL signs n).map (List.map r) := by
  unfold wordsL
  have : ∀ (ks : List Nat) (p : List (List Nat) × List (List Nat)), ks.foldl (wordsF (signs.map (List.map r))) (p.1.map (List.map r), p.2.map (List.map r)) = ((ks.foldl (wordsF signs) p).1.map (List.map r), (ks.foldl (wordsF signs) p).2.map (List.map r)) := by
    intro ks
    induction ks with
    | nil => intro p; rfl
    | cons k ks ih =>
      intro p
      rw [List.foldl_cons, List.foldl_cons]
      have e : wordsF (signs.map (List.map r)) (p.1.map (List.map r), p.2.map (List.map r)) k = ((wordsF signs p k).1.map (List.map r), (wordsF signs p k).2.map (List.map r)) := by
        unfold wordsF; simp only; rw [wordsN_map, List.map_append]
      rw [e]; exact ih _
  have h := this (List.range n) ([[]], [[]])
  exact congrArg Prod.fst h
theorem joinS_flat (t : List Nat) : ∀ r : List (List Nat), joinS sl (t :: r) = t ++ (r.map (47 :: ·)).flatten
  | [] => by simp [joinS]
  | u :: r => by
    rw [joinS]
    · rw [joinS_flat u r]; simp
    · simp
theorem jn_flat : ∀ (ts : List (List Nat)) (p : List Nat), p ≠ [] → (¬ ∃ q, p = q ++ [47]) → (∀ t ∈ ts, t ≠ [] ∧ 47 ∉ t) → ts.foldl jn1 p = p ++ (ts.map (47 :: ·)).flatten
  | [], p, _, _, _ => by simp
  | t :: ts, p, hp, hq, ht => by
    obtain ⟨hn, h47⟩ := ht t (.head _)
    obtain ⟨y, b, rfl⟩ := List.exists_cons_of_ne_nil hn
    have hy : y ≠ 47 := fun q => h47 (by rw [q]; exact .head _)
    have hj : jn1 p (y :: b) = p ++ 47 :: y :: b := by
      unfold jn1
      have hs : (Txt.startswith (mkS (y :: b)) (mkS sl) || p.isEmpty) = false := by
        rw [starts_sl, decide_eq_false hy]
        cases p with
        | nil => exact absurd rfl hp
        | cons => rfl
      rw [if_neg (by rw [hs]; decide), if_neg (fun q => hq ((ends_sl hp).mp q))]; rfl
    rw [List.foldl_cons, hj, jn_flat ts _ (by simp) ?_ (fun t h => ht t (.tail _ h))]
    · simp
    · rintro ⟨q, e⟩
      have h1 : (p ++ 47 :: y :: b).getLast? = some 47 := by rw [e]; simp
      have h2 : (p ++ 47 :: y :: b).getLast? = (y :: b).getLast? := by
        rw [show p ++ 47 :: y :: b = (p ++ [47]) ++ (y :: b) by simp, List.getLast?_append]
        cases hl : (y :: b).getLast? with
        | none => simp at hl
        | some z => rfl
      rw [h2] at h1
      exact h47 (List.mem_of_getLast? h1)
theorem jn_join {ts : List (List Nat)} (ht : ∀ t ∈ ts, t ≠ [] ∧ 47 ∉ t) : jn sl ts = sl ++ joinS sl ts := by
  cases ts with
  | nil => rfl
  | cons t ts =>
    obtain ⟨hn, h47⟩ := ht t (.head _)
    obtain ⟨y, b, rfl⟩ := List.exists_cons_of_ne_nil hn
    have hy : y ≠ 47 := fun q => h47 (by rw [q]; exact .head _)
    have hj : jn1 sl (y :: b) = 47 :: y :: b := by
      unfold jn1
      rw [if_neg (by rw [starts_sl, decide_eq_false hy]; decide), if_pos ((ends_sl (p := sl) (by simp)).mpr ⟨[], rfl⟩)]; rfl
    unfold jn
    rw [List.foldl_cons, hj, jn_flat ts _ (by simp) ?_ (fun t h => ht t (.tail _ h)), joinS_flat]
    · simp
    · rintro ⟨q, e⟩
      have h1 : (47 :: y :: b).getLast? = some 47 := by rw [e]; simp
      have h2 : (47 :: y :: b).getLast? = (y :: b).getLast? := by simp [List.getLast?_cons_cons]
      rw [h2] at h1
      exact h47 (List.mem_of_getLast? h1)
end Mine
end
section
open PySem PySem.Calls PySem.W PyProof.Rows
open PySem.Builtin PySem.Builtin.Str
set_option maxRecDepth 100000
set_option maxHeartbeats 1000000
namespace Mine
/-- words, by their kinds -/
abbrev K12 (w : List Nat) : Prop := ∀ k ∈ w, k = 1 ∨ k = 2
def flT (s1 s2 : Nat) (w : List Nat) : List Nat := (w.map fun k => 47 :: textL s1 s2 k).flatten
section
variable {s1 s2 : Nat}
theorem RA_nil : RA s1 s2 [] = [47] := rfl
theorem RA_cons (k : Nat) (w : List Nat) : RA s1 s2 (k :: w) = flT s1 s2 (k :: w) := by
  unfold RA flT
  rw [List.map_cons, joinS_flat, List.map_map]
  simp [Function.comp_def]
theorem T12 {k : Nat} (h : k = 1 ∨ k = 2) : textL s1 s2 k = [if k = 1 then s1 else s2] := by
  rcases h with rfl | rfl <;> rfl
theorem flT_cons {k : Nat} (h : k = 1 ∨ k = 2) (w : List Nat) : flT s1 s2 (k :: w) = 47 :: (if k = 1 then s1 else s2) :: flT s1 s2 w := by
  unfold flT; rw [List.map_cons, List.flatten_cons, T12 h]; rfl
theorem flT_len : ∀ {w : List Nat}, K12 w → (flT s1 s2 w).length = 2 * w.length
  | [], _ => rfl
  | k :: w, h => by rw [flT_cons (h k (.head _)), List.length_cons, List.length_cons, flT_len (fun j hj => h j (.tail _ hj)), List.length_cons]; omega
theorem flT_count1 (h1 : OkS s1) (h2 : OkS s2) (hs : s1 ≠ s2) : ∀ {w : List Nat}, K12 w → (flT s1 s2 w).count s1 = w.count 1 ∧ (flT s1 s2 w).count s2 = w.count 2
  | [], _ => ⟨rfl, rfl⟩
  | k :: w, h => by
    obtain ⟨a, b⟩ := flT_count1 h1 h2 hs (w := w) (fun j hj => h j (.tail _ hj))
    rw [flT_cons (h k (.head _))]
    rcases h k (.head _) with rfl | rfl
    · simp only [if_pos]
      rw [List.count_cons_of_ne h1.2.symm, List.count_cons_of_ne h2.2.symm, List.count_cons_self, List.count_cons_self, List.count_cons_of_ne hs, List.count_cons_of_ne (by decide), a, b]; exact ⟨rfl, rfl⟩
    · simp only [show ¬ (2 = 1) by decide, if_false]
      rw [List.count_cons_of_ne h1.2.symm, List.count_cons_of_ne h2.2.symm, List.count_cons_self, List.count_cons_self, List.count_cons_of_ne (Ne.symm hs), List.count_cons_of_ne (by decide), a, b]; exact ⟨rfl, rfl⟩
theorem flT_inj (hs : s1 ≠ s2) : ∀ {v w : List Nat}, K12 v → K12 w → flT s1 s2 v = flT s1 s2 w → v = w
  | [], [], _, _, _ => rfl
  | [], k :: w, _, hw, e => by rw [flT_cons (hw k (.head _))] at e; cases e
  | k :: v, [], hv, _, e => by rw [flT_cons (hv k (.head _))] at e; cases e
  | j :: v, k :: w, hv, hw, e => by
    rw [flT_cons (hv j (.head _)), flT_cons (hw k (.head _))] at e
    simp only [List.cons.injEq, true_and] at e
    have ih := flT_inj hs (fun i hi => hv i (.tail _ hi)) (fun i hi => hw i (.tail _ hi)) e.2
    have hjk : j = k := by
      rcases hv j (.head _) with rfl | rfl <;> rcases hw k (.head _) with rfl | rfl
      · rfl
      · exact absurd e.1 (by simpa using hs)
      · exact absurd e.1 (by simpa using hs.symm)
      · rfl
    rw [hjk, ih]
theorem RA_inj (hs : s1 ≠ s2) {v w : List Nat} (hv : K12 v) (hw : K12 w) (e : RA s1 s2 v = RA s1 s2 w) : v = w := by
  cases v with
  | nil =>
    cases w with
    | nil => rfl
    | cons k w =>
      have := congrArg List.length e
      rw [RA_nil, RA_cons, flT_len hw] at this; simp at this; omega
  | cons j v =>
    cases w with
    | nil =>
      have := congrArg List.length e
      rw [RA_nil, RA_cons, flT_len hv] at this; simp at this; omega
    | cons k w => rw [RA_cons, RA_cons] at e; exact flT_inj hs hv hw e
def rn (s1 s2 : Nat) (k : Nat) : Nat := if k = 1 then s1 else s2
theorem single_T {w : List Nat} (h : K12 w) : (w.map (rn s1 s2)).map (fun x => [x]) = w.map (textL s1 s2) := by
  rw [List.map_map]
  exact List.map_congr_left fun k hk => by rw [T12 (h k hk)]; rfl
theorem word_path (h1 : OkS s1) (h2 : OkS s2) {w : List Nat} (h : K12 w) : jn sl ((w.map (rn s1 s2)).map fun x => [x]) = RA s1 s2 w := by
  rw [single_T h, jn_join]
  · rfl
  · intro t ht
    obtain ⟨k, hk, rfl⟩ := List.mem_map.mp ht
    have hk3 : k < 3 := by rcases h k hk with rfl | rfl <;> decide
    exact ⟨T_ne h1 h2 hk3, (T_dd h1 h2 hk3).2.2.2⟩
def hdL (n : Nat) : List Nat := if n = 0 then [47] else (List.replicate n [47, 46]).flatten
theorem head_eq : ∀ n ≤ 4, headV n = hdL n := by decide +kernel
theorem hd_zip : ∀ (n : Nat) {w : List Nat}, K12 w → ∀ x ∈ (List.replicate n [47, 46]).flatten.zip (flT s1 s2 w), x.1 = 46 ∨ x.1 = x.2
  | 0, w, _, x, hx => by simp at hx
  | n + 1, [], _, x, hx => by simp [flT] at hx
  | n + 1, k :: w, h, x, hx => by
    rw [List.replicate_succ, List.flatten_cons, flT_cons (h k (.head _))] at hx
    simp only [List.cons_append, List.nil_append, List.zip_cons_cons, List.mem_cons] at hx
    rcases hx with rfl | rfl | hx
    · exact .inr rfl
    · exact .inl rfl
    · exact hd_zip n (fun j hj => h j (.tail _ hj)) x hx
theorem head_zip (n : Nat) {w : List Nat} (h : K12 w) : ∀ x ∈ (hdL n).zip (RA s1 s2 w), x.1 = 46 ∨ x.1 = x.2 := by
  intro x hx
  cases w with
  | nil =>
    rw [RA_nil] at hx
    unfold hdL at hx
    split at hx
    · simp at hx; subst hx; exact .inr rfl
    · cases n with
      | zero => exact absurd rfl ‹_›
      | succ n => rw [List.replicate_succ, List.flatten_cons] at hx; simp at hx; subst hx; exact .inr rfl
  | cons k w =>
    rw [RA_cons] at hx
    unfold hdL at hx
    split at hx
    · rw [flT_cons (h k (.head _))] at hx; simp at hx; subst hx; exact .inr rfl
    · exact hd_zip n h x hx
/-- what is left, by kinds -/
def lfK (n o t : Nat) (w : List Nat) : Bool := decide (n ≤ w.length) && (decide (w.count 1 ≤ o) && decide (w.count 2 ≤ t))
theorem left_eq (h1 : OkS s1) (h2 : OkS s2) (hs : s1 ≠ s2) (n o t : Nat) {w : List Nat} (h : K12 w) : leftF (RA s1 s2 w) (hdL n) [List.replicate (o + 1) [s1], List.replicate (t + 1) [s2]] = lfK n o t w := by
  have hl : (hdL n).length = if n = 0 then 1 else 2 * n := by
    unfold hdL; split
    · rfl
    · simp [List.length_flatten]; omega
  have hr : (RA s1 s2 w).length = if w.length = 0 then 1 else 2 * w.length := by
    cases w with
    | nil => rfl
    | cons k w => rw [RA_cons, flT_len h]; simp
  have hc : (RA s1 s2 w).count s1 = w.count 1 ∧ (RA s1 s2 w).count s2 = w.count 2 := by
    cases w with
    | nil => rw [RA_nil]; simp [h1.2.symm, h2.2.symm]
    | cons k w => rw [RA_cons]; exact flT_count1 h1 h2 hs h
  unfold leftF lfK
  rw [hl, hr]
  by_cases hn : n ≤ w.length
  · rw [if_neg, decide_eq_true hn, Bool.true_and]
    · simp only [List.flatMap_cons, List.flatMap_nil, List.append_nil, holds_count, hc.1, hc.2]
      by_cases c1 : w.count 1 ≤ o <;> by_cases c2 : w.count 2 ≤ t
      · rw [if_neg (by simp; omega), if_neg (by simp; omega)]; simp [c1, c2]
      · rw [if_neg (by simp; omega), if_pos (by simp; omega)]; simp [c1, c2]
      · rw [if_pos (by simp; omega), if_neg (by simp; omega)]; simp [c1, c2]
      · rw [if_pos (by simp; omega), if_pos (by simp; omega)]; simp [c1, c2]
    · simp only [decide_eq_true_eq]
      split <;> split <;> omega
  · rw [if_pos, decide_eq_false hn, Bool.false_and]
    simp only [decide_eq_true_eq]
    split <;> split <;> omega
theorem dk_map {f : List Nat → List Nat} : ∀ (l acc : List (List Nat)), (∀ a ∈ acc ++ l, ∀ b ∈ acc ++ l, f a = f b → a = b) → (l.map f).foldl dk1 (acc.map f) = (l.foldl dk1 acc).map f
  | [], acc, _ => rfl
  | t :: l, acc, h => by
    rw [List.map_cons, List.foldl_cons, List.foldl_cons]
    have hc : (acc.map f).contains (f t) = acc.contains t := by
      rw [Bool.eq_iff_iff, List.contains_iff_mem, List.contains_iff_mem, List.mem_map]
      constructor
      · rintro ⟨a, ha, e⟩
        rw [← h a (by simp [ha]) t (by simp) e]; exact ha
      · intro ht; exact ⟨t, ht, rfl⟩
    have e : dk1 (acc.map f) (f t) = (dk1 acc t).map f := by
      unfold dk1; rw [hc]; split
      · rfl
      · rw [List.map_append]; rfl
    rw [e]
    refine dk_map l (dk1 acc t) fun a ha b hb => h a ?_ b ?_
    · unfold dk1 at ha; split at ha
      · rcases List.mem_append.mp ha with q | q
        · simp [q]
        · simp [q]
      · simpa using ha
    · unfold dk1 at hb; split at hb
      · rcases List.mem_append.mp hb with q | q
        · simp [q]
        · simp [q]
      · simpa using hb
end
end Mine
end
section
open PySem PySem.Calls PySem.W PyProof.Rows
open PySem.Builtin PySem.Builtin.Str
set_option maxRecDepth 100000
set_option maxHeartbeats 1000000
namespace Mine
def leftW (u o t : Nat) : List (List Nat) := (wordsL [[1], [2]] (o + t)).filter (lfK (o + t - u) o t)
def cntL (n o t : Nat) : List Nat := (List.range (o + 1)).flatMap fun a => if true = true then (List.range (t + 1)).flatMap (fun b : Nat => if decide (((a : Nat) : Int) + (b : Int) ≥ (n : Int)) = true then [cntF 5 a b] else []) else []
def kOk (u o t : Nat) : Bool :=
  let O := ordG 4 [u, o, t]
  let L := leftW u o t
  (O.all fun d => L.contains (exK false d)) && (L.all fun w => (O.map (exK false)).contains w)
    && (O.all fun d => (L.map fun w => List.replicate (u + w.length - (o + t)) 0 ++ w).contains (exK true d)) && (L.all fun w => (O.map (exK true)).contains (List.replicate (u + w.length - (o + t)) 0 ++ w))
    && (dkL (O.map (exK false))).length == (cntL (o + t - u) o t).sum
    && (O.all fun d => (exK false d).all fun k => k == 1 || k == 2) && ((wordsL [[1], [2]] (o + t)).all fun w => decide (w.length ≤ 4) && w.all fun k => k == 1 || k == 2)
    && (O.all fun d => d.length == 4 && d.all (fun k => decide (k < 3)) && ([0, 1, 2] : List Nat).all fun k => decide (d.count k ≤ ([u, o, t] : List Nat).getD k 0))
    && (wordsL [[1], [2]] (o + t)).length ≤ 100 && O.length ≤ 100 && (cntL (o + t - u) o t).length ≤ 100
theorem kOk_all : ∀ u ∈ [0, 1, 2, 3, 4], ∀ o ∈ [0, 1, 2, 3, 4], ∀ t ∈ [0, 1, 2, 3, 4], u + o + t = 4 → kOk u o t = true := by decide +kernel
theorem kOk_of {u o t : Nat} (h : u + o + t = 4) : kOk u o t = true := by
  have m : ∀ x : Nat, x ≤ 4 → x ∈ ([0, 1, 2, 3, 4] : List Nat) := by
    intro x hx
    have : x = 0 ∨ x = 1 ∨ x = 2 ∨ x = 3 ∨ x = 4 := by omega
    rcases this with rfl | rfl | rfl | rfl | rfl <;> decide
  exact kOk_all u (m u (by omega)) o (m o (by omega)) t (m t (by omega)) h
section
variable {s1 s2 u o t : Nat} {st : List (List (List Nat))}
theorem spell_len {k : Nat} {x : List Nat} (hx : Spl s1 s2 k x) : x.length ≤ 10 := by
  obtain ⟨hk, hx⟩ := hx
  have ht := textL_len s1 s2 k
  have e1 : lit "./" = [46, 47] := by decide
  have e2 : lit "/." = [47, 46] := by decide
  have e3 : lit "//" = [47, 47] := by decide
  have e4 : lit "/../" = [47, 46, 46, 47] := by decide
  unfold spellA at hx
  rw [e1, e2, e3, e4] at hx
  simp only [List.mem_cons, List.not_mem_nil, or_false] at hx
  rcases hx with rfl | rfl | rfl | rfl | rfl <;> simp <;> omega
/-- the facts of kinds, taken apart -/
structure KF (u o t : Nat) : Prop where
  a1 : ∀ d ∈ ordG 4 [u, o, t], exK false d ∈ leftW u o t
  a2 : ∀ w ∈ leftW u o t, ∃ d ∈ ordG 4 [u, o, t], exK false d = w
  b1 : ∀ d ∈ ordG 4 [u, o, t], ∃ w ∈ leftW u o t, List.replicate (u + w.length - (o + t)) 0 ++ w = exK true d
  b2 : ∀ w ∈ leftW u o t, ∃ d ∈ ordG 4 [u, o, t], exK true d = List.replicate (u + w.length - (o + t)) 0 ++ w
  c : (dkL ((ordG 4 [u, o, t]).map (exK false))).length = (cntL (o + t - u) o t).sum
  e : ∀ d ∈ ordG 4 [u, o, t], K12 (exK false d)
  f : ∀ w ∈ wordsL [[1], [2]] (o + t), w.length ≤ 4 ∧ K12 w
  g : ∀ d ∈ ordG 4 [u, o, t], d.length = 4 ∧ (∀ k ∈ d, k < 3) ∧ ∀ k, k < 3 → d.count k ≤ ([u, o, t] : List Nat).getD k 0
  l1 : (wordsL [[1], [2]] (o + t)).length ≤ 100
  l2 : (ordG 4 [u, o, t]).length ≤ 100
  l3 : (cntL (o + t - u) o t).length ≤ 100
theorem KF.of (h : u + o + t = 4) : KF u o t := by
  have k := kOk_of h
  unfold kOk at k
  simp only [Bool.and_eq_true, List.all_eq_true, List.contains_iff_mem, decide_eq_true_eq, beq_iff_eq, Bool.or_eq_true, List.mem_map] at k
  obtain ⟨⟨⟨⟨⟨⟨⟨⟨⟨⟨a1, a2⟩, b1⟩, b2⟩, c⟩, e⟩, f⟩, g⟩, l1⟩, l2⟩, l3⟩ := k
  refine ⟨a1, a2, b1, b2, c, e, fun w hw => ⟨(f w hw).1, (f w hw).2⟩, fun d hd => ?_, l1, l2, l3⟩
  obtain ⟨⟨g1, g2⟩, g3⟩ := g d hd
  refine ⟨g1, g2, fun k hk => g3 k ?_⟩
  have : k = 0 ∨ k = 1 ∨ k = 2 := by omega
  rcases this with rfl | rfl | rfl <;> decide
abbrev sgW (w : List Nat) : List (List Nat) := w.map fun x => [x]
def endsP (u o t : Nat) (st : List (List (List Nat))) : List (List Nat) := (ordG 4 [u, o, t]).map fun d => norm (jn sl (laidF d st))
def jrow (row : List (List Nat)) : List Nat := jn (row.headD []) row.tail
def looseP (u o t : Nat) (st : List (List (List Nat))) : List (List Nat) := (ordG 4 [u, o, t]).map fun d => norm (jrow (laidF d st))
def leftP (s1 s2 u o t : Nat) : List (List Nat) := (wordsL [[s1], [s2]] (o + t)).filter fun w => leftF (jn sl (sgW w)) (headV (o + t - u)) [List.replicate (o + 1) [s1], List.replicate (t + 1) [s2]]
def restP (u o t : Nat) (w : List Nat) : List Nat := if (joinS sl (List.replicate (u + w.length - (o + t)) dd ++ sgW w)).isEmpty = true then dt else joinS sl (List.replicate (u + w.length - (o + t)) dd ++ sgW w)
theorem left_map (h1 : OkS s1) (h2 : OkS s2) (hs : s1 ≠ s2) (h : u + o + t = 4) : leftP s1 s2 u o t = (leftW u o t).map (List.map (rn s1 s2)) := by
  have F := KF.of h
  have e : wordsL [[s1], [s2]] (o + t) = (wordsL [[1], [2]] (o + t)).map (List.map (rn s1 s2)) := by rw [← wordsL_map]; rfl
  unfold leftP leftW
  rw [e, List.filter_map]
  congr 1
  refine List.filter_congr fun w hw => ?_
  have hk := (F.f w hw).2
  simp only [Function.comp]
  rw [word_path h1 h2 hk, head_eq _ (by omega), left_eq h1 h2 hs _ _ _ hk]
theorem left_K12 (h : u + o + t = 4) {w : List Nat} (hw : w ∈ leftW u o t) : K12 w := ((KF.of h).f w (List.mem_filter.mp hw).1).2
theorem row_all2 (h : u + o + t = 4) (hS : ∀ k, k < 3 → ∀ x ∈ st.getD k [], Spl s1 s2 k x) (hL : ∀ k, k < 3 → (st.getD k []).length = ([u, o, t] : List Nat).getD k 0) {d : List Nat} (hd : d ∈ ordG 4 [u, o, t]) : All2 (Spl s1 s2) d (laidF d st) := by
  obtain ⟨g1, g2, g3⟩ := (KF.of h).g d hd
  exact laid_all2 hS g2 fun k hk => by rw [hL k hk]; exact g3 k hk
theorem ends_eq (h1 : OkS s1) (h2 : OkS s2) (h : u + o + t = 4) (hS : ∀ k, k < 3 → ∀ x ∈ st.getD k [], Spl s1 s2 k x) (hL : ∀ k, k < 3 → (st.getD k []).length = ([u, o, t] : List Nat).getD k 0) :
    endsP u o t st = ((ordG 4 [u, o, t]).map (exK false)).map (RA s1 s2) := by
  unfold endsP
  rw [List.map_map]
  refine List.map_congr_left fun d hd => ?_
  exact ends_row h1 h2 (row_all2 h hS hL hd) (by have := ((KF.of h).g d hd).1; intro q; rw [q] at this; cases this)
theorem loose_eq (h1 : OkS s1) (h2 : OkS s2) (h : u + o + t = 4) (hS : ∀ k, k < 3 → ∀ x ∈ st.getD k [], Spl s1 s2 k x) (hL : ∀ k, k < 3 → (st.getD k []).length = ([u, o, t] : List Nat).getD k 0) :
    looseP u o t st = ((ordG 4 [u, o, t]).map (exK true)).map (RR s1 s2) := by
  unfold looseP
  rw [List.map_map]
  refine List.map_congr_left fun d hd => ?_
  have a := row_all2 h hS hL hd
  have hl := a.length
  rw [((KF.of h).g d hd).1] at hl
  cases hr : laidF d st with
  | nil => rw [hr] at hl; cases hl
  | cons x row => rw [hr] at a; exact loose_row h1 h2 a
theorem ends_mem (h1 : OkS s1) (h2 : OkS s2) (hs : s1 ≠ s2) (h : u + o + t = 4) (hS : ∀ k, k < 3 → ∀ x ∈ st.getD k [], Spl s1 s2 k x) (hL : ∀ k, k < 3 → (st.getD k []).length = ([u, o, t] : List Nat).getD k 0) :
    ∀ y, y ∈ endsP u o t st ↔ y ∈ (leftP s1 s2 u o t).map fun w => jn sl (sgW w) := by
  have F := KF.of h
  have e : (leftP s1 s2 u o t).map (fun w => jn sl (sgW w)) = (leftW u o t).map (RA s1 s2) := by
    rw [left_map h1 h2 hs h, List.map_map]
    exact List.map_congr_left fun w hw => word_path h1 h2 (left_K12 h hw)
  intro y
  rw [ends_eq h1 h2 h hS hL, e, List.map_map, List.mem_map, List.mem_map]
  constructor
  · rintro ⟨d, hd, rfl⟩; exact ⟨_, F.a1 d hd, rfl⟩
  · rintro ⟨w, hw, rfl⟩
    obtain ⟨d, hd, q⟩ := F.a2 w hw
    exact ⟨d, hd, by rw [← q]; rfl⟩
theorem rest_eq {w : List Nat} (hk : K12 w) : restP u o t (w.map (rn s1 s2)) = RR s1 s2 (List.replicate (u + w.length - (o + t)) 0 ++ w) := by
  have e : (List.replicate (u + w.length - (o + t)) 0 ++ w).map (textL s1 s2) = List.replicate (u + w.length - (o + t)) dd ++ sgW (w.map (rn s1 s2)) := by
    rw [List.map_append, List.map_replicate]
    have : sgW (w.map (rn s1 s2)) = w.map (textL s1 s2) := single_T hk
    rw [this]; rfl
  unfold restP RR
  rw [e, List.length_map]
theorem loose_mem (h1 : OkS s1) (h2 : OkS s2) (hs : s1 ≠ s2) (h : u + o + t = 4) (hS : ∀ k, k < 3 → ∀ x ∈ st.getD k [], Spl s1 s2 k x) (hL : ∀ k, k < 3 → (st.getD k []).length = ([u, o, t] : List Nat).getD k 0) :
    ∀ y, y ∈ looseP u o t st ↔ y ∈ (leftP s1 s2 u o t).map (restP u o t) := by
  have F := KF.of h
  have e : (leftP s1 s2 u o t).map (restP u o t) = (leftW u o t).map fun w => RR s1 s2 (List.replicate (u + w.length - (o + t)) 0 ++ w) := by
    rw [left_map h1 h2 hs h, List.map_map]
    exact List.map_congr_left fun w hw => rest_eq (left_K12 h hw)
  intro y
  rw [loose_eq h1 h2 h hS hL, e, List.map_map, List.mem_map, List.mem_map]
  constructor
  · rintro ⟨d, hd, rfl⟩
    obtain ⟨w, hw, q⟩ := F.b1 d hd
    exact ⟨w, hw, by rw [q]; rfl⟩
  · rintro ⟨w, hw, rfl⟩
    obtain ⟨d, hd, q⟩ := F.b2 w hw
    exact ⟨d, hd, by rw [← q]; rfl⟩
theorem ends_count (h1 : OkS s1) (h2 : OkS s2) (hs : s1 ≠ s2) (h : u + o + t = 4) (hS : ∀ k, k < 3 → ∀ x ∈ st.getD k [], Spl s1 s2 k x) (hL : ∀ k, k < 3 → (st.getD k []).length = ([u, o, t] : List Nat).getD k 0) :
    (dkL (endsP u o t st)).length = (cntL (o + t - u) o t).sum := by
  have F := KF.of h
  rw [ends_eq h1 h2 h hS hL, ← F.c]
  have := dk_map (f := RA s1 s2) ((ordG 4 [u, o, t]).map (exK false)) [] (fun a ha b hb e => by
    rw [List.nil_append] at ha hb
    obtain ⟨d, hd, rfl⟩ := List.mem_map.mp ha
    obtain ⟨d', hd', rfl⟩ := List.mem_map.mp hb
    exact RA_inj hs (F.e d hd) (F.e d' hd') e)
  unfold dkL
  rw [List.map_nil] at this
  rw [this, List.length_map]
theorem left_len (hw : w ∈ wordsL [[s1], [s2]] (o + t)) (h : u + o + t = 4) : ∃ v, K12 v ∧ v.length ≤ 4 ∧ w = v.map (rn s1 s2) := by
  have e : wordsL [[s1], [s2]] (o + t) = (wordsL [[1], [2]] (o + t)).map (List.map (rn s1 s2)) := by rw [← wordsL_map]; rfl
  rw [e] at hw
  obtain ⟨v, hv, rfl⟩ := List.mem_map.mp hw
  obtain ⟨a, b⟩ := (KF.of h).f v hv
  exact ⟨v, b, a, rfl⟩
theorem words_len (h : u + o + t = 4) : (wordsL [[s1], [s2]] (o + t)).length ≤ 100 := by
  have e : wordsL [[s1], [s2]] (o + t) = (wordsL [[1], [2]] (o + t)).map (List.map (rn s1 s2)) := by rw [← wordsL_map]; rfl
  rw [e, List.length_map]; exact (KF.of h).l1
end
end Mine
end
section
open PySem PySem.Calls PySem.W PyProof.Rows
open PySem.Builtin PySem.Builtin.Str
set_option maxRecDepth 100000
set_option maxHeartbeats 1000000
namespace Mine
theorem spellL_mem (s1 s2 : Nat) (cell : Int) : spellL s1 s2 cell ∈ spellA s1 (textL s1 s2 (kN cell)) := by
  unfold spellL
  have h := (j_lt cell).2
  generalize jN cell = j at h
  have hl : (spellA s1 (textL s1 s2 (kN cell))).length = 5 := rfl
  rw [List.getD_eq_getElem?_getD, List.getElem?_eq_getElem (by rw [hl]; exact h)]
  exact List.getElem_mem _
/-- what the steps are -/
structure StP (s1 s2 n : Nat) (p : St3) : Prop where
  len : p.1.length + p.2.1.length + p.2.2.length = n
  a : ∀ x ∈ p.1, Spl s1 s2 0 x
  b : ∀ x ∈ p.2.1, Spl s1 s2 1 x
  c : ∀ x ∈ p.2.2, Spl s1 s2 2 x
theorem steps1_ok {s1 s2 n : Nat} {p : St3} (h : StP s1 s2 n p) (cell : Int) : StP s1 s2 (n + 1) (steps1 s1 s2 p cell) := by
  have hk := (kind_lt cell).2
  have hm := spellL_mem s1 s2 cell
  unfold steps1
  generalize spellL s1 s2 cell = x at hm
  generalize kN cell = k at hk hm
  obtain ⟨l, a, b, c⟩ := h
  match k, hk with
  | 0, hk =>
    refine ⟨by simp [put]; omega, fun y hy => ?_, b, c⟩
    rcases List.mem_append.mp hy with q | q
    · exact a y q
    · rw [List.mem_singleton] at q; subst q; exact ⟨hk, hm⟩
  | 1, hk =>
    refine ⟨by simp [put]; omega, a, fun y hy => ?_, c⟩
    rcases List.mem_append.mp hy with q | q
    · exact b y q
    · rw [List.mem_singleton] at q; subst q; exact ⟨hk, hm⟩
  | 2, hk =>
    refine ⟨by simp [put]; omega, a, b, fun y hy => ?_⟩
    rcases List.mem_append.mp hy with q | q
    · exact c y q
    · rw [List.mem_singleton] at q; subst q; exact ⟨hk, hm⟩
theorem steps_fold {s1 s2 : Nat} : ∀ (cells : List Int) (n : Nat) (p : St3), StP s1 s2 n p → StP s1 s2 (n + cells.length) (cells.foldl (steps1 s1 s2) p)
  | [], n, p, h => h
  | c :: cells, n, p, h => by
    rw [List.foldl_cons, List.length_cons]
    have := steps_fold cells (n + 1) _ (steps1_ok h c)
    rwa [show n + 1 + cells.length = n + (cells.length + 1) by omega] at this
/-- the steps of four cells -/
theorem steps_four {cells : List Int} (hc : cells.length = 4) (s1 s2 : Nat) : ∃ U O T, stepsL cells s1 s2 = [U, O, T] ∧ U.length + O.length + T.length = 4 ∧
    (∀ k, k < 3 → ∀ x ∈ ([U, O, T] : List (List (List Nat))).getD k [], Spl s1 s2 k x) ∧ (∀ k, k < 3 → (([U, O, T] : List (List (List Nat))).getD k []).length = ([U.length, O.length, T.length] : List Nat).getD k 0) := by
  have h := steps_fold (s1 := s1) (s2 := s2) cells 0 ([], [], []) ⟨rfl, by simp, by simp, by simp⟩
  rw [hc] at h
  refine ⟨_, _, _, rfl, h.len, fun k hk => ?_, fun k hk => ?_⟩
  · match k, hk with
    | 0, _ => exact h.a
    | 1, _ => exact h.b
    | 2, _ => exact h.c
  · match k, hk with
    | 0, _ => rfl
    | 1, _ => rfl
    | 2, _ => rfl
def sgL : List Nat := [42, 91, 63, 93, 45, 33, 94, 97]
def cellsL (ns : List Int) : List Int := (ns.take 4).map (fun c => c.fmod 1000000) ++ ([2, 7, 0, 4] : List Int).drop (ns.take 4).length
theorem cellsL_len (ns : List Int) : (cellsL ns).length = 4 := by
  unfold cellsL; rw [List.length_append, List.length_map, List.length_drop, List.length_take]; simp; omega
def pickL (ns : List Int) : Int := ((cellsL ns).map fun c => c.fdiv 20).sum
def i1 (p : Int) : Nat := (p.fmod 8).toNat
def i2 (p : Int) : Nat := ((p + 1 + (p.fdiv 8).fmod 7).fmod 8).toNat
def sg (i : Nat) : Nat := sgL.getD i 0
theorem i_lt (p : Int) : i1 p < 8 ∧ i2 p < 8 ∧ i1 p ≠ i2 p ∧ p.fmod 8 = (i1 p : Int) ∧ (p + 1 + (p.fdiv 8).fmod 7).fmod 8 = (i2 p : Int) := by
  have h1 := Int.fmod_nonneg_of_pos p (b := 8) (by decide)
  have h2 := Int.fmod_lt_of_pos p (b := 8) (by decide)
  have h3 := Int.fmod_nonneg_of_pos (p.fdiv 8) (b := 7) (by decide)
  have h4 := Int.fmod_lt_of_pos (p.fdiv 8) (b := 7) (by decide)
  have h5 := Int.fmod_nonneg_of_pos (p + 1 + (p.fdiv 8).fmod 7) (b := 8) (by decide)
  have h6 := Int.fmod_lt_of_pos (p + 1 + (p.fdiv 8).fmod 7) (b := 8) (by decide)
  unfold i1 i2
  generalize (p.fdiv 8).fmod 7 = q at *
  refine ⟨by omega, by omega, ?_, by omega, by omega⟩
  have e1 : p.fmod 8 = p % 8 := Int.fmod_eq_emod_of_nonneg p (by decide)
  have e2 : (p + 1 + q).fmod 8 = (p + 1 + q) % 8 := Int.fmod_eq_emod_of_nonneg _ (by decide)
  rw [e1, e2]
  omega
theorem sg_ok : ∀ i < 8, sg i ∈ [42, 91, 63, 93, 45, 33, 94, 97] ∧ sg i ≠ 46 ∧ sg i ≠ 47 ∧ sg i < 128 := by decide
theorem sg_ne : ∀ i < 8, ∀ j < 8, i ≠ j → sg i ≠ sg j := by decide
end Mine
end
section
open PySem PySem.Calls PySem.W PyProof.Rows
open PySem.Builtin PySem.Builtin.Str
set_option maxRecDepth 100000
set_option maxHeartbeats 8000000
namespace Mine
local macro_rules | `(tactic| trivial) => `(tactic| exact kd ‹_› (by decide +kernel))
theorem slc_take {α : Type} (n : Nat) (l : List α) : slc none (some (n : Int)) l = l.take n := by
  unfold slc clipI
  simp only
  rw [if_neg (by omega)]
  rw [List.drop_zero, Nat.sub_zero]
  by_cases h : n ≤ l.length
  · rw [show (Max.max 0 (Min.min (n : Int) (l.length : Int))).toNat = n by omega]
  · rw [show (Max.max 0 (Min.min (n : Int) (l.length : Int))).toNat = l.length by omega, List.take_of_length_le (Nat.le_refl _), List.take_of_length_le (by omega)]
theorem slc_drop {α : Type} (n : Nat) (l : List α) : slc (some (n : Int)) none l = l.drop n := by
  unfold slc clipI
  simp only
  rw [if_neg (by omega)]
  by_cases h : n ≤ l.length
  · rw [show (Max.max 0 (Min.min (n : Int) (l.length : Int))).toNat = n by omega]
    rw [List.take_of_length_le (by simp)]
  · rw [show (Max.max 0 (Min.min (n : Int) (l.length : Int))).toNat = l.length by omega, List.drop_of_length_le (Nat.le_refl _), List.drop_of_length_le (by omega)]; simp
theorem filter_flat {α : Type} (f : α → D) (p : α → Bool) (l : List α) : (l.filter p).map f = l.flatMap fun a => if p a = true then [f a] else [] := by
  induction l with
  | nil => rfl
  | cons a l ih =>
    rw [List.flatMap_cons, ← ih, List.filter_cons]
    split <;> rfl
abbrev dI (l : List Int) : List D := l.map D.int
theorem lit_sg : lit "*[?]-!^a" = sgL := by decide
theorem sg_at {i : Nat} (h : i < 8) : (lit "*[?]-!^a")[at_ (i : Int) (lit "*[?]-!^a").length]? = some (sg i) := by
  rw [lit_sg, at_nat]; unfold sg
  rw [List.getD_eq_getElem?_getD, List.getElem?_eq_getElem (show i < sgL.length from h)]; rfl
theorem pat_head : ∀ n ≤ 4, jn sl (List.replicate n [63]) ++ [42] = patOf (headTk n) := by decide +kernel
theorem jn_len : ∀ (row : List (List Nat)) (p : List Nat), (jn p row).length ≤ p.length + (row.map List.length).sum + row.length
  | [], p => by simp [jn]
  | x :: row, p => by
    have h1 := jn_len row (jn1 p x)
    have h2 := jn1_len p x
    unfold jn at h1 ⊢
    rw [List.foldl_cons]
    simp only [List.map_cons, List.sum_cons, List.length_cons]
    omega
theorem AJ.star1 {prog : Program} {w : World} {h0 : Heap} {c : Cx} {σ : St} {μ : Mu} {e : Expr} {p : Pos} {ds : List D} (h : EvJ prog w h0 c σ μ e (.lst ds)) : AJ prog w h0 c σ μ [.Starred e p] ds := by
  have := AJ.star (p := p) h AJ.nil
  rwa [List.append_nil] at this
theorem flT_lt {s1 s2 : Nat} (h1 : s1 < 128) (h2 : s2 < 128) : ∀ {v : List Nat}, K12 v → ∀ x ∈ flT s1 s2 v, x < 128
  | [], _, x, hx => by simp [flT] at hx
  | k :: v, h, x, hx => by
    rw [flT_cons (h k (.head _))] at hx
    rcases List.mem_cons.mp hx with rfl | hx
    · decide
    · rcases List.mem_cons.mp hx with rfl | hx
      · split
        · exact h1
        · exact h2
      · exact flT_lt h1 h2 (fun j hj => h j (.tail _ hj)) x hx
theorem RA_lt {s1 s2 : Nat} (h1 : s1 < 128) (h2 : s2 < 128) {v : List Nat} (h : K12 v) : ∀ x ∈ RA s1 s2 v, x < 128 := by
  cases v with
  | nil => intro x hx; rw [RA_nil] at hx; simp at hx; omega
  | cons k v => rw [RA_cons]; exact flT_lt h1 h2 h
theorem hd_lt : ∀ n ≤ 4, ∀ x ∈ headV n, x < 128 := by decide +kernel
theorem Li.app {h0 : Heap} {c : Cx} {σ : St} {μ : Mu} {A B : List (List Nat)} : LiJ h0 c σ μ (.lst (dS A ++ dS B)) (dS (A ++ B)) := by
  have e : dS (A ++ B) = dS A ++ dS B := List.map_append
  rw [e]; exact Li.lst
theorem sum_cast : ∀ l : List Nat, (l.map fun x : Nat => (x : Int)).sum = (l.sum : Int)
  | [] => rfl
  | x :: l => by rw [List.map_cons, List.sum_cons, List.sum_cons, sum_cast l]; omega
theorem sgW_sum (l : List Nat) : ((sgW l).map List.length).sum = l.length := by
  induction l with
  | nil => rfl
  | cons x l ih =>
    have ih' : ((sgW l).map List.length).sum = l.length := ih
    rw [sgW, List.map_cons, List.map_cons, List.sum_cons, List.length_cons]
    unfold sgW at ih'
    rw [ih']; simp; omega
section
variable {prog : Program} {w : World} {h0 : Heap} {c : Cx} {σ : St} {μ : Mu} {Φ : AF → Prop} {mg mb : Str → Option Value}
/-- the law's last four statements -/
theorem law_end (W : Wd prog w h0 mg mb) {add : Addr} (Dd : DedAt h0 mg add) (hc : c.env.scope = scopeS (stOf 42)) (hk : c.k = 5) (hce : ∀ x, c.env.kindOf x = some .cell → ∃ cc, c.env.cells.lookup x = some cc)
    {s1 s2 u o t : Nat} {st : List (List (List Nat))} (h1 : OkS s1) (h2 : OkS s2) (hss : s1 ≠ s2) (hsum : u + o + t = 4) (hS : ∀ k, k < 3 → ∀ x ∈ st.getD k [], Spl s1 s2 k x) (hL : ∀ k, k < 3 → (st.getD k []).length = ([u, o, t] : List Nat).getD k 0) :
    XJ prog w h0 c [("left", .lst (dS (leftP s1 s2 u o t))), ("loose", .lst (dS (looseP u o t st))), ("ends", .lst (dS (endsP u o t st))), ("ups", .int u), ("one", .int o), ("two", .int t), ("least", .int ((o + t - u : Nat) : Int))] []
      ((bodyS (stOf 42)).drop 16) (fun af => ∃ d' μ', af = .ret d' μ' ∧ Fz μ' d' (.bool true)) := by
  obtain ⟨ac, Dc⟩ := W.fn 30 (by decide)
  obtain ⟨acn, Dcn⟩ := W.fn 41 (by decide)
  have F := KF.of hsum
  have F2 := F.l2
  have F3 := F.l3
  have endl : (endsP u o t st).length ≤ 100 := by unfold endsP; rw [List.length_map]; exact F2
  have lool : (looseP u o t st).length ≤ 100 := by unfold looseP; rw [List.length_map]; exact F2
  have hl100 : (leftP s1 s2 u o t).length ≤ 100 := Nat.le_trans (List.length_filter_le _ _) (words_len hsum)
  have left_v : ∀ w ∈ leftP s1 s2 u o t, w.length ≤ 4 ∧ o + t - u ≤ w.length := fun w hw => by
    rw [left_map h1 h2 hss hsum] at hw
    obtain ⟨v, hv, rfl⟩ := List.mem_map.mp hw
    obtain ⟨q1, q2⟩ := List.mem_filter.mp hv
    have q3 := (F.f v q1).1
    unfold lfK at q2
    simp only [Bool.and_eq_true, decide_eq_true_eq] at q2
    rw [List.length_map]; exact ⟨q3, q2.1⟩
  have cdd : ∀ {c' : Cx} {σ : St} {μ : Mu} {k : Nat} {pos : Pos}, EvJ prog w h0 c' σ μ (.Constant (.str (Str.ofString "..")) k pos) (.str dd) := lit_dd ▸ cs
  have cdt : ∀ {c' : Cx} {σ : St} {μ : Mu} {k : Nat} {pos : Pos}, EvJ prog w h0 c' σ μ (.Constant (.str (Str.ofString ".")) k pos) (.str dt) := lit_dt ▸ cs
  have c47 : ∀ {c' : Cx} {σ : St} {μ : Mu} {k : Nat} {pos : Pos}, EvJ prog w h0 c' σ μ (.Constant (.str (Str.ofString "/")) k pos) (.str sl) := lit_sl ▸ cs
  -- rests
  refine X.cons (X1.comp (outs := dS ((leftP s1 s2 u o t).map (restP u o t))) ?_ (by rw [List.length_map, List.length_map]; omega) (by trivial) ?_ (by decide) (swaps_true (by rw [hc]; rfl) (by trivial) (by decide +kernel)))
  · have e : dS ((leftP s1 s2 u o t).map (restP u o t)) = (leftP s1 s2 u o t).flatMap fun w => if true = true then [D.str (restP u o t w)] else [] := by
      rw [← map_flat]; unfold dS; rw [List.map_map]; rfl
    rw [e]
    refine Comp.one (xs := leftP s1 s2 u o t) D.str (fun _ => true) (fun w => .str (restP u o t w)) (σ₀ := [("ups", .int u), ("one", .int o), ("two", .int t)]) (Ite.of nm It.lst) hce (CapOk.of ["ups", "one", "two"] hc (Sub.cons rfl (Sub.cons rfl (Sub.cons rfl Sub.nil)))) (by decide +kernel) (by decide) rfl ?_ (fun c' wd hin hw => If.no) (fun c' wd hin hw _ => ?_) (by intro _; rfl)
    · rw [← e, List.length_map, List.length_map]; omega
    · obtain ⟨w4, wn⟩ := left_v wd hw
      have em : ((u + wd.length - (o + t) : Nat) : Int) = (u : Int) - (o : Int) - (t : Int) + (wd.length : Int) := by omega
      have er : dS (List.replicate (u + wd.length - (o + t)) dd) = (List.replicate ((u + wd.length - (o + t) : Nat) : Int).toNat [D.str dd]).flatten := by
        rw [Int.toNat_natCast, List.flatten_replicate_singleton]; simp [dS]
      generalize hJ : joinS sl (List.replicate (u + wd.length - (o + t)) dd ++ sgW wd) = J at *
      refine Ev.or (dx := .str J) (q := !J.isEmpty) ?_ Tr.str (fun hq => ?_) (fun hq => ?_)
      · rw [← hJ]
        refine Ev.meth c47 Ty.str PySem.F.plainAttrs_str PySem.F.slot_str_join PySem.F.type_str_join
          (A1 (d := .lst (dS (List.replicate (u + wd.length - (o + t)) dd) ++ dS (sgW wd))) (Ev.bin (x := .lst (dS (List.replicate (u + wd.length - (o + t)) dd))) (y := .lst (dS (sgW wd))) ?_ (Ev.cb W Ca.listS (A1 nm) (hk := kd2 hin (by decide +kernel))) (Bi.addL Li.lst Li.lst ?_)))
          (Ca.join (l := List.replicate (u + wd.length - (o + t)) dd ++ sgW wd) Li.app ?_)
        · rw [er]
          exact Ev.bin (Ev.dlist (ds := [D.str dd]) (A1 cdd) (by simp)) (em ▸ Ev.bin (Ev.bin (Ev.bin nm nm Bi.sub) nm Bi.sub) (Ev.cb W Ca.lenS (A1 nm) (hk := kd2 hin (by decide +kernel))) Bi.add) (Bi.mulL Li.lst (by omega) (by omega) (by simp))
        · simp only [List.length_map, List.length_replicate]; omega
        · rw [List.map_append, List.sum_append, sgW_sum, List.length_append, List.length_replicate, List.map_replicate, List.sum_replicate_nat, List.length_map]
          simp only [List.length_cons, List.length_nil]
          omega
      · have he : J.isEmpty = true := by simpa using hq
        have : restP u o t wd = dt := by unfold restP; rw [hJ, if_pos he]
        rw [this]; exact cdt
      · have he : ¬ J.isEmpty = true := by simpa using hq
        have : restP u o t wd = J := by unfold restP; rw [hJ, if_neg he]
        rw [this]
  -- the second comparison
  refine X.cons (X1.if (q := !true) (Ts.not (Ts.plain (Ev.cf W Dc (cmp_ok W Dc (by omega) (by rw [List.length_map]; omega) (loose_mem h1 h2 hss hsum hS hL)) (A2 nm nm)) Tr.bool)) (fun h => by simp at h) fun _ => X.nil ?_)
  -- counts
  have cc : ∀ n : Nat, ((n + 1 : Nat) : Int) = (n : Int) + 1 := fun n => by omega
  have ecnt : dI ((cntL (o + t - u) o t).map fun x : Nat => (x : Int)) = (List.range (o + 1)).flatMap fun a => if true = true then (List.range (t + 1)).flatMap (fun b : Nat => if decide (((a : Nat) : Int) + (b : Int) ≥ ((o + t - u : Nat) : Int)) = true then [D.int (cntF 5 a b : Nat)] else []) else [] := by
    unfold cntL dI
    rw [List.map_map, List.map_flatMap]
    congr 1; funext a
    rw [if_pos rfl, if_pos rfl, List.map_flatMap]
    congr 1; funext b
    split <;> rfl
  have lcnt : (dI ((cntL (o + t - u) o t).map fun x : Nat => (x : Int))).length ≤ 100 := by rw [List.length_map, List.length_map]; exact F3
  refine X.cons (X1.comp (outs := dI ((cntL (o + t - u) o t).map fun x : Nat => (x : Int))) ?_ (by omega) (by trivial) ?_ (by decide) (swaps_true (by rw [hc]; rfl) (by trivial) (by decide +kernel)))
  · rw [ecnt]
    refine Comp.two (xs := List.range (o + 1)) (fun a : Nat => D.int a) (fun _ => true) (fun _ => List.range (t + 1)) (fun b : Nat => D.int b) (fun a b => decide (((a : Nat) : Int) + (b : Int) ≥ ((o + t - u : Nat) : Int))) (fun a b => D.int (cntF 5 a b : Nat))
      (σ₀ := [("two", .int t), ("least", .int ((o + t - u : Nat) : Int))]) (Ite.rng W (n := o + 1) (cc o ▸ Ev.bin nm Ev.cint Bi.add)) hce (CapOk.of ["two", "least"] hc (Sub.cons rfl (Sub.cons rfl Sub.nil))) (by decide +kernel) (by decide) rfl (by decide +kernel) (by decide) rfl (by decide) ?_
      (fun c' a hin ha => If.no) (fun c' a hin ha _ => Ite.rng W (n := t + 1) (cc t ▸ Ev.bin nm Ev.cint Bi.add) (by omega) (kd2 hin (by decide +kernel))) (fun c' a b hin ha hb => If.one (Ts.cmp (Ev.bin nm nm Bi.add) nm Cm.ge)) (fun c' a b hin ha hb _ => ?_) (by intro _; rfl) (by intro _ _; rfl)
    · rw [← ecnt]; omega
    · have ha' : a < o + 1 := List.mem_range.mp ha
      have hb' : b < t + 1 := List.mem_range.mp hb
      exact Ev.cf W Dcn (count_ok W Dcn 5 a b (by omega)) (A2 nm nm) (by have := hin.2; omega) rfl (kd2 hin (by decide +kernel))
  -- the return
  have hcount := ends_count h1 h2 hss hsum hS hL
  obtain ⟨ob, fd, kdd, m, pm, code, doc, g1, g2, g3, _⟩ := id Dd
  have hded := ded_ok W Dd (ls := endsP u o t st) (by omega)
  rw [hcount] at hded
  refine X.cons (X1.ret (d := .bool true) ?_ ⟨_, _, rfl, .refl _⟩)
  have hE : ((((cntL (o + t - u) o t).sum : Nat) : Int) == (((cntL (o + t - u) o t).map fun x : Nat => (x : Int)).sum)) = true := by rw [sum_cast]; simp
  rw [← hE]
  have hsb : (cntL (o + t - u) o t).sum ≤ 1000 := by
    rw [← hcount]
    have := dk_len (endsP u o t st) []
    simp only [List.length_nil] at this
    show (dkL (endsP u o t st)).length ≤ 1000
    unfold dkL; omega
  exact Ev.cmp (Ev.cb W (Ca.lenD (by omega)) (A1 (Ev.callF (Gl.glob W.toGd (by trivial) g1 (by decide)) g2 g3 (A1 nm) (hded.ca (by omega))))) (Ev.cb W (Ca.sum Li.lst) (A1 nm)) Cm.eqI
end
end Mine
end
section
open PySem PySem.Calls PySem.W PyProof.Rows
open PySem.Builtin PySem.Builtin.Str
set_option maxRecDepth 100000
set_option maxHeartbeats 8000000
namespace Mine
local macro_rules | `(tactic| trivial) => `(tactic| exact kd ‹_› (by decide +kernel))
section
variable {prog : Program} {w : World} {h0 : Heap} {c : Cx} {σ : St} {μ : Mu} {Φ : AF → Prop} {mg mb : Str → Option Value}
theorem law_d (W : Wd prog w h0 mg mb) (Sp : SpecAt prog w h0 mg) (Tw : TwinAt h0 mg) (hid : h0.get? P0 = none) {add : Addr} (Dd : DedAt h0 mg add) (hc : c.env.scope = scopeS (stOf 42)) (hk : c.k = 5) (hce : ∀ x, c.env.kindOf x = some .cell → ∃ cc, c.env.cells.lookup x = some cc) (hM : c.s₀.heap.get? P0 = none)
    {s1 s2 : Nat} {U O T : List (List Nat)} (m1 : s1 ∈ [42, 91, 63, 93, 45, 33, 94, 97]) (m2 : s2 ∈ [42, 91, 63, 93, 45, 33, 94, 97]) (m1c : s1 < 128) (m2c : s2 < 128) (h1 : OkS s1) (h2 : OkS s2) (hss : s1 ≠ s2)
    (hsum : U.length + O.length + T.length = 4) (hS : ∀ k, k < 3 → ∀ x ∈ ([U, O, T] : List (List (List Nat))).getD k [], Spl s1 s2 k x) (hL : ∀ k, k < 3 → (([U, O, T] : List (List (List Nat))).getD k []).length = ([U.length, O.length, T.length] : List Nat).getD k 0) :
    XJ prog w h0 c [("left", .lst (dS (leftP s1 s2 U.length O.length T.length))), ("ups", .int U.length), ("one", .int O.length), ("two", .int T.length), ("rows", .lst ((ordG 4 [U.length, O.length, T.length]).map fun d => D.lst (dS (laidF d [U, O, T])))), ("least", .int ((O.length + T.length - U.length : Nat) : Int))] [] ((bodyS (stOf 42)).drop 13) (fun af => ∃ d' μ', af = .ret d' μ' ∧ Fz μ' d' (.bool true)) := by
  obtain ⟨aj, Dj⟩ := W.fn 15 (by decide)
  obtain ⟨an, Dn⟩ := W.fn 17 (by decide)
  obtain ⟨ac, Dc⟩ := W.fn 30 (by decide)
  have hu : U.length ≤ 4 := by omega
  have ho : O.length ≤ 4 := by omega
  have ht : T.length ≤ 4 := by omega
  have F := KF.of hsum
  have F2 := F.l2
  have hn4 : O.length + T.length - U.length ≤ 4 := by omega
  have co : ((O.length + 1 : Nat) : Int) = (O.length : Int) + 1 := by omega
  have ct : ((T.length + 1 : Nat) : Int) = (T.length : Int) + 1 := by omega
  have cot : ((O.length + T.length : Nat) : Int) = (O.length : Int) + (T.length : Int) := by omega
  have c63 : ∀ {σ : St} {μ : Mu} {k : Nat} {pos : Pos}, EvJ prog w h0 c σ μ (.Constant (.str (Str.ofString "?")) k pos) (.str [63]) := (show lit "?" = [63] by decide) ▸ cs
  have c42 : ∀ {σ : St} {μ : Mu} {k : Nat} {pos : Pos}, EvJ prog w h0 c σ μ (.Constant (.str (Str.ofString "*")) k pos) (.str [42]) := (show lit "*" = [42] by decide) ▸ cs
  have c47 : ∀ {c' : Cx} {σ : St} {μ : Mu} {k : Nat} {pos : Pos}, EvJ prog w h0 c' σ μ (.Constant (.str (Str.ofString "/")) k pos) (.str sl) := lit_sl ▸ cs
  have hw100 : (wordsL [[s1], [s2]] (O.length + T.length)).length ≤ 100 := words_len hsum
  have hl100 : (leftP s1 s2 U.length O.length T.length).length ≤ 100 := Nat.le_trans (List.length_filter_le _ _) hw100
  have sgl : ∀ v : List Nat, v.length ≤ 4 → sl.length + ((sgW (v.map (rn s1 s2))).map List.length).sum + (sgW (v.map (rn s1 s2))).length ≤ 9 := fun v hv => by
    have : ∀ l : List Nat, ((sgW l).map List.length).sum = l.length := by
      intro l; induction l with
      | nil => rfl
      | cons x l ih => rw [sgW, List.map_cons, List.map_cons, List.sum_cons, List.length_cons]; have ih' : ((sgW l).map List.length).sum = l.length := ih; unfold sgW at ih'; rw [ih']; simp; omega
    rw [this, List.length_map, List.length_map]
    simp; omega
  -- ends
  have rowlen : ∀ d ∈ ordG 4 [U.length, O.length, T.length], (laidF d [U, O, T]).length = 4 ∧ ((laidF d [U, O, T]).map List.length).sum ≤ 40 := fun d hd => by
    have a := row_all2 hsum hS hL hd
    have hl := a.length
    rw [(F.g d hd).1] at hl
    refine ⟨hl.symm, ?_⟩
    have h10 := a.right (P := fun x => x.length ≤ 10) (fun k x h => spell_len h)
    have : ∀ l : List (List Nat), (∀ x ∈ l, x.length ≤ 10) → (l.map List.length).sum ≤ 10 * l.length := by
      intro l
      induction l with
      | nil => intro _; simp
      | cons x l ih =>
        intro h
        have := ih fun y hy => h y (.tail _ hy)
        have := h x (.head _)
        simp only [List.map_cons, List.sum_cons, List.length_cons]; omega
    have := this _ h10
    omega
  have endl : (endsP U.length O.length T.length [U, O, T]).length ≤ 100 := by unfold endsP; rw [List.length_map]; exact F2
  have lool : (looseP U.length O.length T.length [U, O, T]).length ≤ 100 := by unfold looseP; rw [List.length_map]; exact F2
  refine X.cons (X1.comp (outs := dS (endsP U.length O.length T.length [U, O, T])) ?_ (by rw [List.length_map]; omega) (by trivial) ?_ (by decide) (swaps_true (by rw [hc]; rfl) (by trivial) (by decide +kernel)))
  · have e : dS (endsP U.length O.length T.length [U, O, T]) = (ordG 4 [U.length, O.length, T.length]).flatMap fun d => if true = true then [D.str (norm (jn sl (laidF d [U, O, T])))] else [] := by
      rw [← map_flat]; unfold endsP dS; rw [List.map_map]; rfl
    rw [e]
    refine Comp.one (xs := ordG 4 [U.length, O.length, T.length]) (fun d => .lst (dS (laidF d [U, O, T]))) (fun _ => true) (fun d => .str (norm (jn sl (laidF d [U, O, T])))) (σ₀ := []) (Ite.of nm It.lst) hce (CapOk.of [] hc Sub.nil) (by decide +kernel) (by decide) rfl ?_ (fun c' d hin hd => If.no) (fun c' d hin hd _ => ?_) (by intro _; rfl)
    · rw [← e, List.length_map]; omega
    · obtain ⟨r1, r2⟩ := rowlen d hd
      have r3 := jn_len (laidF d [U, O, T]) sl
      exact Ev.cf W Dn (norm_ok W Dn (by simp only [List.length_singleton] at r3; omega)) (A1 (Ev.cf W Dj (join_ok W Dj (by simp only [List.length_singleton]; omega)) (AJ.cons c47 (AJ.star1 nm)) (by have := hin.2; omega) rfl (kd2 hin (by decide +kernel)))) (by have := hin.2; omega) rfl (kd2 hin (by decide +kernel))
  have left_v : ∀ w ∈ leftP s1 s2 U.length O.length T.length, ∃ v, K12 v ∧ v.length ≤ 4 ∧ w = v.map (rn s1 s2) := fun w hw => left_len (List.mem_filter.mp hw).1 hsum
  refine X.cons (X1.if (q := !true) (Ts.not (Ts.plain (Ev.cf W Dc (cmp_ok W Dc (by omega) (by rw [List.length_map]; omega) (ends_mem h1 h2 hss hsum hS hL)) (A2 nm (Ev.comp ?_ (by rw [List.length_map, List.length_map]; omega)))) Tr.bool)) (fun h => by simp at h) fun _ => X.nil ?_)
  · have e : dS ((leftP s1 s2 U.length O.length T.length).map fun w => jn sl (sgW w)) = (leftP s1 s2 U.length O.length T.length).flatMap fun w => if true = true then [D.str (jn sl (sgW w))] else [] := by
      rw [← map_flat]; unfold dS; rw [List.map_map]; rfl
    rw [e]
    refine Comp.one (xs := leftP s1 s2 U.length O.length T.length) D.str (fun _ => true) (fun w => .str (jn sl (sgW w))) (σ₀ := []) (Ite.of nm It.lst) hce (CapOk.of [] hc Sub.nil) (by decide +kernel) (by decide) rfl ?_ (fun c' w hin hw => If.no) (fun c' w hin hw _ => ?_) (by intro _; rfl)
    · rw [← e, List.length_map, List.length_map]; omega
    · obtain ⟨v, hk12, hv4, rfl⟩ := left_v w hw
      exact Ev.cf W Dj (join_ok W Dj (by have := sgl v hv4; omega)) (AJ.cons c47 (AJ.star1 (Ev.cb W Ca.listS (A1 nm) (hk := kd2 hin (by decide +kernel))))) (by have := hin.2; omega) rfl (kd2 hin (by decide +kernel))
  -- loose
  refine X.cons (X1.comp (outs := dS (looseP U.length O.length T.length [U, O, T])) ?_ (by rw [List.length_map]; omega) (by trivial) ?_ (by decide) (swaps_true (by rw [hc]; rfl) (by trivial) (by decide +kernel)))
  · have e : dS (looseP U.length O.length T.length [U, O, T]) = (ordG 4 [U.length, O.length, T.length]).flatMap fun d => if true = true then [D.str (norm (jrow (laidF d [U, O, T])))] else [] := by
      rw [← map_flat]; unfold looseP dS; rw [List.map_map]; rfl
    rw [e]
    refine Comp.one (xs := ordG 4 [U.length, O.length, T.length]) (fun d => .lst (dS (laidF d [U, O, T]))) (fun _ => true) (fun d => .str (norm (jrow (laidF d [U, O, T])))) (σ₀ := []) (Ite.of nm It.lst) hce (CapOk.of [] hc Sub.nil) (by decide +kernel) (by decide) rfl ?_ (fun c' d hin hd => If.no) (fun c' d hin hd _ => ?_) (by intro _; rfl)
    · rw [← e, List.length_map]; omega
    · obtain ⟨r1, r2⟩ := rowlen d hd
      cases hr : laidF d [U, O, T] with
      | nil => rw [hr] at r1; cases r1
      | cons x row =>
        rw [hr] at r1 r2
        simp only [List.map_cons, List.sum_cons, List.length_cons] at r1 r2
        have r3 := jn_len row x
        exact Ev.cf W Dn (norm_ok W Dn (l := jn x row) (by omega)) (A1 (Ev.cfS W Dj (join_ok W Dj (l := x) (ls := row) (by omega)) nm (by have := hin.2; omega) rfl (kd2 hin (by decide +kernel)))) (by have := hin.2; omega) rfl (kd2 hin (by decide +kernel))
  exact X.sub (law_end W Dd hc hk hce h1 h2 hss hsum hS hL) (Sub.cons rfl (Sub.cons rfl (Sub.cons rfl (Sub.cons rfl (Sub.cons rfl (Sub.cons rfl (Sub.cons rfl Sub.nil)))))))
theorem law_c (W : Wd prog w h0 mg mb) (Sp : SpecAt prog w h0 mg) (Tw : TwinAt h0 mg) (hid : h0.get? P0 = none) {add : Addr} (Dd : DedAt h0 mg add) (hc : c.env.scope = scopeS (stOf 42)) (hk : c.k = 5) (hce : ∀ x, c.env.kindOf x = some .cell → ∃ cc, c.env.cells.lookup x = some cc) (hM : c.s₀.heap.get? P0 = none)
    {s1 s2 : Nat} {U O T : List (List Nat)} (m1 : s1 ∈ [42, 91, 63, 93, 45, 33, 94, 97]) (m2 : s2 ∈ [42, 91, 63, 93, 45, 33, 94, 97]) (m1c : s1 < 128) (m2c : s2 < 128) (h1 : OkS s1) (h2 : OkS s2) (hss : s1 ≠ s2)
    (hsum : U.length + O.length + T.length = 4) (hS : ∀ k, k < 3 → ∀ x ∈ ([U, O, T] : List (List (List Nat))).getD k [], Spl s1 s2 k x) (hL : ∀ k, k < 3 → (([U, O, T] : List (List (List Nat))).getD k []).length = ([U.length, O.length, T.length] : List Nat).getD k 0) :
    XJ prog w h0 c [("signs", .lst (dS [[s1], [s2]])), ("ups", .int U.length), ("one", .int O.length), ("two", .int T.length), ("rows", .lst ((ordG 4 [U.length, O.length, T.length]).map fun d => D.lst (dS (laidF d [U, O, T])))), ("least", .int ((O.length + T.length - U.length : Nat) : Int)), ("head", .str (headV (O.length + T.length - U.length))), ("judges", .lst [D.lst (dS (List.replicate (O.length + 1) [s1])), D.lst (dS (List.replicate (T.length + 1) [s2]))])] [] ((bodyS (stOf 42)).drop 11) (fun af => ∃ d' μ', af = .ret d' μ' ∧ Fz μ' d' (.bool true)) := by
  obtain ⟨aj, Dj⟩ := W.fn 15 (by decide)
  obtain ⟨awo, Dwo⟩ := W.fn 35 (by decide)
  obtain ⟨ale, Dle⟩ := W.fn 40 (by decide)
  have hu : U.length ≤ 4 := by omega
  have ho : O.length ≤ 4 := by omega
  have ht : T.length ≤ 4 := by omega
  have F := KF.of hsum
  have F2 := F.l2
  have hn4 : O.length + T.length - U.length ≤ 4 := by omega
  have co : ((O.length + 1 : Nat) : Int) = (O.length : Int) + 1 := by omega
  have ct : ((T.length + 1 : Nat) : Int) = (T.length : Int) + 1 := by omega
  have cot : ((O.length + T.length : Nat) : Int) = (O.length : Int) + (T.length : Int) := by omega
  have c63 : ∀ {σ : St} {μ : Mu} {k : Nat} {pos : Pos}, EvJ prog w h0 c σ μ (.Constant (.str (Str.ofString "?")) k pos) (.str [63]) := (show lit "?" = [63] by decide) ▸ cs
  have c42 : ∀ {σ : St} {μ : Mu} {k : Nat} {pos : Pos}, EvJ prog w h0 c σ μ (.Constant (.str (Str.ofString "*")) k pos) (.str [42]) := (show lit "*" = [42] by decide) ▸ cs
  have c47 : ∀ {c' : Cx} {σ : St} {μ : Mu} {k : Nat} {pos : Pos}, EvJ prog w h0 c' σ μ (.Constant (.str (Str.ofString "/")) k pos) (.str sl) := lit_sl ▸ cs
  -- words
  refine X.cons (X1.as (Ev.cf W Dwo (words_ok W Dwo (n := O.length + T.length) (by omega)) (A2 nm (cot ▸ Ev.bin nm nm Bi.add))) ?_)
  -- left
  have hw100 : (wordsL [[s1], [s2]] (O.length + T.length)).length ≤ 100 := words_len hsum
  have hl100 : (leftP s1 s2 U.length O.length T.length).length ≤ 100 := Nat.le_trans (List.length_filter_le _ _) hw100
  have sgl : ∀ v : List Nat, v.length ≤ 4 → sl.length + ((sgW (v.map (rn s1 s2))).map List.length).sum + (sgW (v.map (rn s1 s2))).length ≤ 9 := fun v hv => by
    have : ∀ l : List Nat, ((sgW l).map List.length).sum = l.length := by
      intro l; induction l with
      | nil => rfl
      | cons x l ih => rw [sgW, List.map_cons, List.map_cons, List.sum_cons, List.length_cons]; have ih' : ((sgW l).map List.length).sum = l.length := ih; unfold sgW at ih'; rw [ih']; simp; omega
    rw [this, List.length_map, List.length_map]
    simp; omega
  refine X.cons (X1.comp (outs := dS (leftP s1 s2 U.length O.length T.length)) ?_ (by rw [List.length_map]; omega) (by trivial) ?_ (by decide) (swaps_true (by rw [hc]; rfl) (by trivial) (by decide +kernel)))
  · have e : dS (leftP s1 s2 U.length O.length T.length) = (wordsL [[s1], [s2]] (O.length + T.length)).flatMap fun w => if leftF (jn sl (sgW w)) (headV (O.length + T.length - U.length)) [List.replicate (O.length + 1) [s1], List.replicate (T.length + 1) [s2]] = true then [D.str w] else [] := filter_flat D.str _ _
    rw [e]
    refine Comp.one (xs := wordsL [[s1], [s2]] (O.length + T.length)) D.str (fun w => leftF (jn sl (sgW w)) (headV (O.length + T.length - U.length)) [List.replicate (O.length + 1) [s1], List.replicate (T.length + 1) [s2]]) D.str
      (σ₀ := [("head", .str (headV (O.length + T.length - U.length))), ("judges", .lst [.lst (dS (List.replicate (O.length + 1) [s1])), .lst (dS (List.replicate (T.length + 1) [s2]))])]) (Ite.of nm It.lst) hce (CapOk.of ["head", "judges"] hc (Sub.cons rfl (Sub.cons rfl Sub.nil))) (by decide +kernel) (by decide) rfl ?_ (fun c' w hin hw => ?_) (fun c' w hin hw _ => nm) (by intro _; rfl)
    · rw [← e, List.length_map]; omega
    · obtain ⟨v, hk12, hv4, rfl⟩ := left_len hw hsum
      have hpath := word_path h1 h2 hk12
      have hpath' : jn sl (sgW (v.map (rn s1 s2))) = RA s1 s2 v := hpath
      refine If.one (Ts.plain (Ev.cf W Dle (left_ok W Dle (p := jn sl (sgW (v.map (rn s1 s2)))) (hd := headV (O.length + T.length - U.length)) (js := [List.replicate (O.length + 1) [s1], List.replicate (T.length + 1) [s2]]) ?_ ?_ ?_ (by simp))
        (A3 (Ev.cf W Dj (join_ok W Dj (by have := sgl v hv4; omega)) (AJ.cons c47 (AJ.star1 (Ev.cb W Ca.listS (A1 nm) (hk := kd2 hin (by decide +kernel))))) (by have := hin.2; omega) rfl (kd2 hin (by decide +kernel))) nm nm) (by have := hin.2; omega) rfl (kd2 hin (by decide +kernel))) Tr.bool)
      · rw [hpath']; exact RA_lt m1c m2c hk12
      · exact hd_lt _ hn4
      · rw [hpath', head_eq _ hn4]; exact head_zip _ hk12
  exact X.sub (law_d W Sp Tw hid Dd hc hk hce hM m1 m2 m1c m2c h1 h2 hss hsum hS hL) (Sub.cons rfl (Sub.cons rfl (Sub.cons rfl (Sub.cons rfl (Sub.cons rfl (Sub.cons rfl Sub.nil))))))
theorem law_b (W : Wd prog w h0 mg mb) (Sp : SpecAt prog w h0 mg) (Tw : TwinAt h0 mg) (hid : h0.get? P0 = none) {add : Addr} (Dd : DedAt h0 mg add) (hc : c.env.scope = scopeS (stOf 42)) (hk : c.k = 5) (hce : ∀ x, c.env.kindOf x = some .cell → ∃ cc, c.env.cells.lookup x = some cc) (hM : c.s₀.heap.get? P0 = none)
    {s1 s2 : Nat} {U O T : List (List Nat)} (m1 : s1 ∈ [42, 91, 63, 93, 45, 33, 94, 97]) (m2 : s2 ∈ [42, 91, 63, 93, 45, 33, 94, 97]) (m1c : s1 < 128) (m2c : s2 < 128) (h1 : OkS s1) (h2 : OkS s2) (hss : s1 ≠ s2)
    (hsum : U.length + O.length + T.length = 4) (hS : ∀ k, k < 3 → ∀ x ∈ ([U, O, T] : List (List (List Nat))).getD k [], Spl s1 s2 k x) (hL : ∀ k, k < 3 → (([U, O, T] : List (List (List Nat))).getD k []).length = ([U.length, O.length, T.length] : List Nat).getD k 0) :
    XJ prog w h0 c [("signs", .lst (dS [[s1], [s2]])), ("steps", .lst (([U, O, T] : List (List (List Nat))).map fun s => .lst (dS s))), ("ups", .int U.length), ("one", .int O.length), ("two", .int T.length)] [] ((bodyS (stOf 42)).drop 6) (fun af => ∃ d' μ', af = .ret d' μ' ∧ Fz μ' d' (.bool true)) := by
  obtain ⟨aj, Dj⟩ := W.fn 15 (by decide)
  obtain ⟨aor, Dor⟩ := W.fn 33 (by decide)
  obtain ⟨ala, Dla⟩ := W.fn 34 (by decide)
  obtain ⟨ahe, Dhe⟩ := W.fn 36 (by decide)
  obtain ⟨awa, Dwa⟩ := W.fn 38 (by decide)
  have hu : U.length ≤ 4 := by omega
  have ho : O.length ≤ 4 := by omega
  have ht : T.length ≤ 4 := by omega
  have F := KF.of hsum
  have F2 := F.l2
  have hn4 : O.length + T.length - U.length ≤ 4 := by omega
  have co : ((O.length + 1 : Nat) : Int) = (O.length : Int) + 1 := by omega
  have ct : ((T.length + 1 : Nat) : Int) = (T.length : Int) + 1 := by omega
  have cot : ((O.length + T.length : Nat) : Int) = (O.length : Int) + (T.length : Int) := by omega
  have c63 : ∀ {σ : St} {μ : Mu} {k : Nat} {pos : Pos}, EvJ prog w h0 c σ μ (.Constant (.str (Str.ofString "?")) k pos) (.str [63]) := (show lit "?" = [63] by decide) ▸ cs
  have c42 : ∀ {σ : St} {μ : Mu} {k : Nat} {pos : Pos}, EvJ prog w h0 c σ μ (.Constant (.str (Str.ofString "*")) k pos) (.str [42]) := (show lit "*" = [42] by decide) ▸ cs
  have c47 : ∀ {c' : Cx} {σ : St} {μ : Mu} {k : Nat} {pos : Pos}, EvJ prog w h0 c' σ μ (.Constant (.str (Str.ofString "/")) k pos) (.str sl) := lit_sl ▸ cs
  -- rows
  refine X.cons (X1.comp (outs := (ordG 4 [U.length, O.length, T.length]).map fun d => .lst (dS (laidF d [U, O, T]))) ?_ (by rw [List.length_map]; omega) (by trivial) ?_ (by decide) (swaps_true (by rw [hc]; rfl) (by trivial) (by decide +kernel)))
  · have e := map_flat (fun d => D.lst (dS (laidF d [U, O, T]))) (ordG 4 [U.length, O.length, T.length])
    rw [e]
    refine Comp.one (xs := ordG 4 [U.length, O.length, T.length]) dO (fun _ => true) (fun d => .lst (dS (laidF d [U, O, T]))) (σ₀ := [("steps", .lst (([U, O, T] : List (List (List Nat))).map fun s => .lst (dS s)))]) (Ite.of (Ev.cf W Dor (orders_ok W Dor 4 U.length O.length T.length hsum.symm (by omega)) (A1 (Ev.dlist (A3 nm nm nm) (by simp)))) It.lst) hce (CapOk.of ["steps"] hc (Sub.cons rfl Sub.nil)) (by decide +kernel) (by decide) rfl ?_ (fun c' d hin hd => If.no) (fun c' d hin hd _ => ?_) (by intro _; rfl)
    · rw [← map_flat, List.length_map]; omega
    · obtain ⟨g1, g2, g3⟩ := F.g d hd
      exact Ev.cf W Dla (laid_ok W Dla rfl g2 (fun k hk => by rw [hL k hk]; exact g3 k hk) (by omega)) (A2 nm nm) (by have := hin.2; omega) rfl (kd2 hin (by decide +kernel))
  -- least
  have hmax : Max.max ((O.length : Int) + (T.length : Int) - (U.length : Int)) 0 = ((O.length + T.length - U.length : Nat) : Int) := by omega
  refine X.cons (X1.as (d := .int ((O.length + T.length - U.length : Nat) : Int)) (hmax ▸ Ev.cb W Ca.max (A2 (Ev.bin (Ev.bin nm nm Bi.add) nm Bi.sub) Ev.cint)) ?_)
  -- head
  refine X.cons (X1.asM hM (EvM.cf W Dhe (lawhead_ok W Sp Tw hid Dhe hn4) (A1 ?_)) ?_)
  · rw [← pat_head _ hn4]
    have hl := jn_len (List.replicate (O.length + T.length - U.length) [63]) sl
    have hsum63 : ((List.replicate (O.length + T.length - U.length) ([63] : List Nat)).map List.length).sum = O.length + T.length - U.length := by simp
    rw [hsum63, List.length_replicate] at hl
    refine Ev.bin (Ev.cf W Dj (join_ok W Dj (ls := List.replicate (O.length + T.length - U.length) [63]) (by rw [hsum63, List.length_replicate]; simp only [List.length_singleton]; omega)) (AJ.cons c47 (AJ.star1 ?_))) c42 (Bi.addS (by simp only [List.length_singleton] at *; omega))
    have e : dS (List.replicate (O.length + T.length - U.length) [63]) = (List.replicate ((O.length + T.length - U.length : Nat) : Int).toNat [D.str [63]]).flatten := by
      rw [Int.toNat_natCast, List.flatten_replicate_singleton]; simp [dS]
    rw [e]
    exact Ev.bin (Ev.dlist (ds := [D.str [63]]) (A1 c63) (by simp)) nm (Bi.mulL Li.lst (by omega) (by omega) (by simp))
  -- judges
  have five : ∀ m : Nat, m ≤ 4 → m + 1 ∈ [1, 2, 3, 4, 5] := by decide
  have hw1 := wanted_ok W Sp Tw hid Dwa m1 (five _ ho)
  rw [wantL_all s1 m1 _ (five _ ho)] at hw1
  have hw2 := wanted_ok W Sp Tw hid Dwa m2 (five _ ht)
  rw [wantL_all s2 m2 _ (five _ ht)] at hw2
  refine X.cons (X1.asM hM (EvM.list2 hid (EvM.cf W Dwa hw1 (A2 (Ev.itemL (k := 0) nm Ev.cint Li.lst rfl (by simp)) (co ▸ Ev.bin nm Ev.cint Bi.add))) (EvM.cf W Dwa hw2 (A2 (Ev.itemL (k := 1) nm Ev.cint Li.lst rfl (by simp)) (ct ▸ Ev.bin nm Ev.cint Bi.add)))) ?_)
  -- the test
  refine X.cons (X1.if (q := false) (TsJ.cast (Ts.cmp (y := .lst (dS (List.replicate (O.length + 1) [s1]) ++ dS (List.replicate (T.length + 1) [s2]))) cempty (Ev.bin (x := .lst (dS (List.replicate (O.length + 1) [s1]))) (y := .lst (dS (List.replicate (T.length + 1) [s2]))) (Ev.itemL (k := 0) nm Ev.cint Li.lst rfl (by simp)) (Ev.itemL (k := 1) nm Ev.cint Li.lst rfl (by simp)) (Bi.addL Li.lst Li.lst (by simp; omega))) (Cm.inL (l := List.replicate (O.length + 1) [s1] ++ List.replicate (T.length + 1) [s2]) Li.app)) ?_) (fun h => nomatch h) fun _ => X.nil ?_)
  · rw [Bool.eq_false_iff]
    intro q
    have := List.contains_iff_mem.mp q
    simp at this
  exact X.sub (law_c W Sp Tw hid Dd hc hk hce hM m1 m2 m1c m2c h1 h2 hss hsum hS hL) (Sub.cons rfl (Sub.cons rfl (Sub.cons rfl (Sub.cons rfl (Sub.cons rfl (Sub.cons rfl (Sub.cons rfl (Sub.cons rfl Sub.nil))))))))
theorem law_a2 (W : Wd prog w h0 mg mb) (Sp : SpecAt prog w h0 mg) (Tw : TwinAt h0 mg) (hid : h0.get? P0 = none) {add : Addr} (Dd : DedAt h0 mg add) (hc : c.env.scope = scopeS (stOf 42)) (hk : c.k = 5) (hce : ∀ x, c.env.kindOf x = some .cell → ∃ cc, c.env.cells.lookup x = some cc) (hM : c.s₀.heap.get? P0 = none)
    {s1 s2 : Nat} {cells : List Int} (m1 : s1 ∈ [42, 91, 63, 93, 45, 33, 94, 97]) (m2 : s2 ∈ [42, 91, 63, 93, 45, 33, 94, 97]) (m1c : s1 < 128) (m2c : s2 < 128) (h1 : OkS s1) (h2 : OkS s2) (hss : s1 ≠ s2) (hcl : cells.length = 4) :
    XJ prog w h0 c [("signs", .lst (dS [[s1], [s2]])), ("cells", .lst (dI cells))] [] ((bodyS (stOf 42)).drop 4) (fun af => ∃ d' μ', af = .ret d' μ' ∧ Fz μ' d' (.bool true)) := by
  obtain ⟨ast, Dst⟩ := W.fn 32 (by decide)
  -- steps
  obtain ⟨U, O, T, hst, hsum, hS, hL⟩ := steps_four hcl s1 s2
  have hsteps := steps_ok W Dst (cells := cells) (s1 := s1) (s2 := s2) (by omega)
  rw [hst] at hsteps
  refine X.cons (X1.as (d := .lst (([U, O, T] : List (List (List Nat))).map fun s => .lst (dS s))) (Ev.cf W Dst hsteps (A2 nm nm)) ?_)
  -- ups, one, two
  refine X.cons (X1.tup3 (d := .lst (dI [(U.length : Int), (O.length : Int), (T.length : Int)])) (Ev.comp ?_ (by simp)) (.inr rfl) ⟨.inr (by trivial), by decide⟩ ⟨.inr (by trivial), by decide⟩ ⟨.inr (by trivial), by decide⟩ ?_)
  · exact Comp.one (xs := [U, O, T]) (fun s => .lst (dS s)) (fun _ => true) (fun s => .int s.length) (σ₀ := []) (Ite.of nm It.lst) hce (CapOk.of [] hc Sub.nil) (by decide +kernel) (by decide) rfl (by simp) (fun c' x hin hx => If.no) (fun c' x hin hx _ => by
      have e : (x.length : Int) = ((dS x).length : Int) := by simp
      rw [e]
      exact Ev.cb W (Ca.lenL Li.lst) (A1 nm) (hk := kd2 hin (by decide +kernel))) (by intro _; rfl)
  exact X.sub (law_b W Sp Tw hid Dd hc hk hce hM m1 m2 m1c m2c h1 h2 hss hsum hS hL) (Sub.cons rfl (Sub.cons rfl (Sub.cons rfl (Sub.cons rfl (Sub.cons rfl Sub.nil)))))
theorem law_ok (W : Wd prog w h0 mg mb) (Sp : SpecAt prog w h0 mg) (Tw : TwinAt h0 mg) (hid : h0.get? P0 = none) {ad : Addr} (Da : DefAt h0 mg 42 ad) {add : Addr} (Dd : DedAt h0 mg add) {ns : List Int} (hn : ns.length ≤ 63) :
    FnM prog w h0 6 ad [.lst (dI ns)] (.bool true) := by
  refine fn_ofM (names := ["script"]) hid W.nolimit Da (by rfl) (by rfl) (by rfl) (fun pm code doc => Bind.pos1 fun u => rfl) (by decide +kernel) (by decide) (by decide) fun c hc hk hce hM hcode => ?_
  have e10 : ∀ {c' : Cx} {σ : St} {μ : Mu} {k1 k2 : Nat} {p1 p2 pos : Pos}, EvJ prog w h0 c' σ μ (.BinOp (.Constant (.int 10) k1 p1) .Pow (.Constant (.int 6) k2 p2) pos) (.int 1000000) := fun {c' σ μ k1 k2 p1 p2 pos} => by
    have := Ev.bin (prog := prog) (w := w) (h0 := h0) (c := c') (σ := σ) (μ := μ) (pos := pos) (Ev.cint (i := 10) (k := k1) (pos := p1)) (Ev.cint (i := 6) (k := k2) (pos := p2)) (Bi.pow (by decide) (by decide))
    exact this
  have hd1 : (ns.take 4).length ≤ 4 := by rw [List.length_take]; omega
  -- drawn
  refine X.cons (X1.comp (outs := dI ((ns.take 4).map fun x => x.fmod 1000000)) ?_ (by rw [List.length_map, List.length_map]; omega) (by trivial) ?_ (by decide) (swaps_true (by rw [hc]; rfl) (by trivial) (by decide +kernel)))
  · have e : dI ((ns.take 4).map fun x => x.fmod 1000000) = (ns.take 4).flatMap fun x => if true = true then [D.int (x.fmod 1000000)] else [] := by
      rw [← map_flat]; simp [List.map_map, Function.comp_def]
    rw [e]
    refine Comp.one (xs := ns.take 4) D.int (fun _ => true) (fun x => .int (x.fmod 1000000)) (σ₀ := []) ?_ hce (CapOk.of [] hc Sub.nil) (by decide +kernel) (by decide) rfl ?_ (fun c' x hin hx => If.no) (fun c' x hin hx _ => ?_) (by intro _; rfl)
    · have e2 : (ns.take 4).map D.int = slc none (some (4 : Int)) (dI ns) := by
        have := slc_take 4 (dI ns)
        rw [show ((4 : Nat) : Int) = 4 by rfl] at this
        rw [this, List.map_take]
      rw [e2]; exact Ite.of (Ev.sliceL nm Li.lst Pa.no (Pa.so Ev.cint)) It.lst
    · rw [← e, List.length_map, List.length_map]; omega
    · exact Ev.bin (Ev.cb W Ca.int (A1 nm) (hk := kd2 hin (by decide +kernel))) e10 (Bi.fmod (by decide))
  -- cells
  have hcl := cellsL_len ns
  refine X.cons (X1.as (d := .lst (dI (cellsL ns))) ?_ ?_)
  · have e : dI (cellsL ns) = dI ((ns.take 4).map fun x => x.fmod 1000000) ++ slc (some ((dI ((ns.take 4).map fun x => x.fmod 1000000)).length : Int)) none (dI [2, 7, 0, 4]) := by
      rw [slc_drop]; unfold cellsL
      rw [List.length_map, List.length_map, dI, List.map_append, List.map_drop]
    rw [e]
    refine Ev.bin nm (Ev.sliceL (Ev.dlist (ds := dI [2, 7, 0, 4]) (AJ.cons Ev.cint (AJ.cons Ev.cint (AJ.cons Ev.cint (AJ.cons Ev.cint AJ.nil)))) (by simp)) Li.lst (Pa.so (Ev.cb W (Ca.lenL Li.lst) (A1 nm))) Pa.no) (Bi.addL Li.lst Li.lst ?_)
    have := slc_len (some ((dI ((ns.take 4).map fun x => x.fmod 1000000)).length : Int)) none (dI [2, 7, 0, 4])
    simp only [List.length_map] at this ⊢
    have e4 : ([2, 7, 0, 4] : List Int).length = 4 := rfl
    omega
  -- pick
  refine X.cons (X1.as (d := .int (pickL ns)) (Ev.cb W (Ca.sum (xs := (cellsL ns).map fun x => x.fdiv 20) Li.lst) (A1 (Ev.comp ?_ (by rw [List.length_map, List.length_map]; omega)))) ?_)
  · have e : List.map D.int ((cellsL ns).map fun x => x.fdiv 20) = (cellsL ns).flatMap fun x => if true = true then [D.int (x.fdiv 20)] else [] := by
      rw [← map_flat]; simp [List.map_map, Function.comp_def]
    rw [e]
    refine Comp.one (xs := cellsL ns) D.int (fun _ => true) (fun x => .int (x.fdiv 20)) (σ₀ := []) (Ite.of nm It.lst) hce (CapOk.of [] hc Sub.nil) (by decide +kernel) (by decide) rfl ?_ (fun c' x hin hx => If.no) (fun c' x hin hx _ => ?_) (by intro _; rfl)
    · rw [← e, List.length_map, List.length_map]; omega
    · exact Ev.bin nm Ev.cint (Bi.fdiv (by decide) (PyProof.noPylong_of_log2 (by decide)))
  -- signs
  generalize pickL ns = p
  obtain ⟨l1, l2, hne, f1, f2⟩ := i_lt p
  obtain ⟨m1, m1a, m1b, m1c⟩ := sg_ok _ l1
  obtain ⟨m2, m2a, m2b, m2c⟩ := sg_ok _ l2
  have hss := sg_ne _ l1 _ l2 hne
  have q1 := sg_at l1
  have q2 := sg_at l2
  refine X.cons (X1.as (d := .lst (dS [[sg (i1 p)], [sg (i2 p)]])) (Ev.dlist (A2 (Ev.itemS (k := (i1 p : Int)) cs (f1 ▸ Ev.bin nm Ev.cint (Bi.fmod (by decide))) q1 (by omega) (by omega)) (Ev.itemS (k := (i2 p : Int)) cs (f2 ▸ Ev.bin (Ev.bin (Ev.bin nm Ev.cint Bi.add) (Ev.bin (Ev.bin nm Ev.cint (Bi.fdiv (by decide) (PyProof.noPylong_of_log2 (by decide)))) Ev.cint (Bi.fmod (by decide))) Bi.add) Ev.cint (Bi.fmod (by decide))) q2 (by omega) (by omega))) (by simp)) ?_)
  generalize sg (i1 p) = s1 at *
  generalize sg (i2 p) = s2 at *
  exact X.sub (law_a2 W Sp Tw hid Dd hc hk hce hM m1 m2 m1c m2c ⟨m1a, m1b⟩ ⟨m2a, m2b⟩ hss hcl) (Sub.cons rfl (Sub.cons rfl Sub.nil))
end
end Mine
end
section
open PySem PySem.Calls PySem.W PyProof.Rows
open PySem.Builtin PySem.Builtin.Str
set_option maxRecDepth 100000
set_option maxHeartbeats 4000000
namespace Mine
abbrev idxs : List Nat := [10, 14, 15, 16, 17, 20, 23, 25, 26, 29, 30, 32, 33, 34, 35, 36, 37, 38, 39, 40, 41, 42]
abbrev bnames : List String := ["type", "issubclass", "str", "bytes", "isinstance", "len", "object", "range", "dict", "list", "max", "sum", "zip", "int"]
def noneNone : Option (Option Value) → Bool
  | some none => true
  | _ => false
/-- the escapes' table is what we say -/
def specOk (es : Array DictEntry) : Bool :=
  (es.all fun e => match e.key with | .int k _ => e.hash == hashInt k | _ => false) &&
  ([47, 93, 45, 33, 94, 97] : List Nat).all fun c => match findBy PySem.Value.isInt es (c : Int) with
    | some (.str x _) => (c == 93 || c == 45 || c == 94) && (x == mkS [92, c])
    | none => !(c == 93 || c == 45 || c == 94)
    | _ => false
/-- what the written part of the top says -/
structure KFacts (K : Frag) : Prop where
  names : (bnames.all fun x => noneNone (nsIn K mainGlobals (Str.ofString x))) = true
  spec : ∃ d es n, nsIn K mainGlobals (Str.ofString "_special_chars_map") = some (some (.ref d)) ∧ (d == sysModules) = false ∧ d ≠ P0 ∧ K.lookup d = some { cls := .type "dict", data := .dict es n } ∧ specOk es = true
  twin : ∃ p q t u n, nsIn K mainGlobals (Str.ofString "_twin_re_1") = some (some (.ref p)) ∧ p ≠ P0 ∧ q ≠ P0 ∧ K.lookup p = some (patO q t u) ∧ K.lookup q = some { cls := .type "tuple", data := .seq reCodeV n }
  tr : ∃ cc, tabIn K (nameS (stOf 25)) = some (cc, P0) ∧ codeHdIn K cc P0 = true
  ded : ∃ a cl dd sl fd kd pm code doc c oc vs t od es n, nsIn K mainGlobals (nameS (stOf 28)) = some (some (.ref a)) ∧ K.lookup a = some ⟨cl, dd, .func fd, sl⟩ ∧
    fd = { docDef (nameS (stOf 28)) (paramsS (stOf 28)) (bodyS (stOf 28)) (scopeS (stOf 28)) pm code doc with kwdefaults := .ref kd } ∧ code = .ref c ∧ c ≠ P0 ∧ kd ≠ P0 ∧ K.lookup c = some oc ∧ oc.data = .fields vs ∧ vs[1]? = some (.str (nameS (stOf 28)) t) ∧
    K.lookup kd = some od ∧ od.data = .dict es n ∧ StrKeys es ∧ nsFind es (Str.ofString "unhashable_fallback") = some (.bool false)
/-- what we ask of the heap the top leaves -/
def Says (h : Heap) : Prop := ∃ K : Frag, K.In h ∧ KFacts K ∧ h.get? P0 = some (tabObj #[])
theorem ints_of {R : WRecords} {P : Params} {h : Heap} {av : Av} : ∀ {xs : List WData} {vs : List Value}, WShape.hasItems R xs .int = true → WellAll P h vs xs → ∃ ns : List Int, xs = ns.map WData.int ∧ RepL h av (dI ns) vs
  | [], vs, _, w => by cases w; exact ⟨[], rfl, RepL.nil⟩
  | x :: xs, vs, hh, w => by
    unfold WShape.hasItems at hh
    rw [Bool.and_eq_true] at hh
    obtain ⟨i, rfl⟩ := hasW_int hh.1
    cases w with
    | cons w1 w2 =>
      obtain ⟨ns, rfl, r⟩ := ints_of hh.2 w2
      cases w1 with
      | int _ t => exact ⟨i :: ns, rfl, RepL.cons repI r⟩
theorem hide_get {h : Heap} {b : Addr} {o : Obj} (e : h.get? b = some o) (hb : b ≠ P0) : (h.hide P0).get? b = some o := (Heap.hide_ne h hb).trans e
theorem hide_ns {h : Heap} {a : Addr} {m : Str → Option Value} (x : h.Ns a m) (hb : a ≠ P0) : (h.hide P0).Ns a m := let ⟨o, es, ep, e, r⟩ := x; ⟨o, es, ep, hide_get e hb, r⟩
theorem hide_rec {h : Heap} {cd : Value} {q : Str} (x : h.CodeRec cd q) (hP : h.get? P0 = some (tabObj #[])) : (h.hide P0).CodeRec cd q := by
  obtain ⟨c, o, vs, t, e, g, d, i⟩ := x
  have hc : c ≠ P0 := fun q => by
    rw [q, hP] at g; cases g
    have d' : (#[] : Array Value) = vs := by simpa [tabObj] using d
    rw [← d'] at i; cases i
  exact ⟨c, o, vs, t, e, hide_get g hc, d, i⟩
theorem fin {q : Program} {loose : List Str} {lv : List (Str × WData)} {d : DefRec} {kwd : List (Str × Expr)}
    (Q : ∀ i ∈ idxs, ∃ pos, (⟨nameS (stOf i), paramsS (stOf i), bodyS (stOf i), scopeS (stOf i), pos⟩ : DefRec) ∈ recsOf q) (hdn : d.name = nameS (stOf 42)) :
    WalkO q loose (XL q lv) (fun _ h => Says h) PySem.Challenge.rw_in0258_01.row.toRowW d kwd fun f vs => call f vs := by
  intro w s₀ s₁ mg mb G Y a o pm cd doc dV kV ho hd hcd hD hmg hg args vals as' hpre hlay hrd hwl hlo
  obtain ⟨K, KX, KF, hP⟩ := Y
  have T := G.T
  obtain ⟨f1, ⟨sd, ses, sn, s1, s2, s3, s4, s5⟩, ⟨tp, tq, tt, tu, tn, t1, t2, t3, t4, t5⟩, ⟨cc, c1, c2⟩, hded⟩ := KF
  have up := fun (b : Addr) (ob : Obj) (hb : K.lookup b = some ob) => KX b ob hb
  -- the world, the table hidden
  have gne : ∀ {b : Addr} {m : Str → Option Value}, s₁.heap.Ns b m → b ≠ P0 := fun {b m} x q => by
    obtain ⟨oo, es, ep, e1, e2, _⟩ := x
    rw [q, hP] at e1; cases e1; cases e2
  have W : Wd PySem.Challenge.rw_in0258_01.row.toRowW.prog w (s₁.heap.hide P0) mg mb := by
    refine { g := hide_ns T.g (gne T.g), b := hide_ns T.b (gne T.b), nolimit := ?_, fn := fun i hi => ?_, free := fun x hx => ?_, built := T.builtins }
    · obtain ⟨mc, n1, n2⟩ := T.nolimit
      exact ⟨mc, hide_ns n1 (gne n1), n2⟩
    · obtain ⟨pos, hm⟩ := Q i hi
      obtain ⟨a', o', pm', code', doc', g1, g2, g3, g4⟩ := T.fn _ hm
      exact ⟨a', o', pm', code', doc', g1, hide_get g2 (fun q => by rw [q, hP] at g2; cases g2; cases g3), g3, hide_rec g4 hP⟩
    · have := List.all_eq_true.mp f1 x hx
      refine mg_none_of KX T.g ?_
      cases hn : nsIn K mainGlobals (Str.ofString x) with
      | none => rw [hn] at this; cases this
      | some v =>
        cases v with
        | none => rfl
        | some u => rw [hn] at this; cases this
  have Sp : SpecAt PySem.Challenge.rw_in0258_01.row.toRowW.prog w (s₁.heap.hide P0) mg := by
    unfold specOk at s5
    rw [Bool.and_eq_true] at s5
    refine ⟨sd, fun k => findBy PySem.Value.isInt ses k, mg_of KX T.g s1, s2, ⟨_, ses, sn, hide_get (up _ _ s4) s3, ⟨rfl, rfl, rfl⟩, rfl, fun en hen => ?_, fun k => rfl⟩, fun c hc => ?_⟩
    · have h1 := Array.all_eq_true'.mp s5.1 en hen
      cases hk : en.key with
      | int k t => rw [hk] at h1; exact ⟨k, by simp [intKind, PySem.Value.isInt], by simpa [intKind] using h1⟩
      | _ => rw [hk] at h1; cases h1
    · have h1 := List.all_eq_true.mp s5.2 c hc
      cases hf : findBy PySem.Value.isInt ses (c : Int) with
      | none =>
        rw [hf] at h1
        have h2 : ¬ (c = 93 ∨ c = 45 ∨ c = 94) := by simpa [or_assoc, and_assoc] using h1
        rw [if_neg h2]; exact hf
      | some v =>
        rw [hf] at h1
        cases v with
        | str x t =>
          simp only [Bool.and_eq_true, Bool.or_eq_true, beq_iff_eq] at h1
          have h2 : c = 93 ∨ c = 45 ∨ c = 94 := by simpa [or_assoc] using h1.1
          rw [if_pos h2]
          exact ⟨rfl, t, by rw [← h1.2]; exact hf⟩
        | _ => cases h1
  have Tw : TwinAt (s₁.heap.hide P0) mg := by
    refine ⟨⟨tp, tq, tt, tu, tn, mg_of KX T.g t1, hide_get (up _ _ t4) t2, hide_get (up _ _ t5) t3⟩, ?_, fun a' o' pm' code' doc' g1 g2 g3 => ?_⟩
    · obtain ⟨bm, ob, b1, b2, b3, b4, b5, b6⟩ := T.bmain
      refine ⟨bm, ob, b1, b2, fun q => ?_, fun q => ?_, hide_get b3 (fun q => ?_), b4, b5, b6⟩
      · obtain ⟨oo, es, ep, e1, e2, _⟩ := T.g
        rw [q, e1] at b3; cases b3; rw [e2] at b6; cases b6
      · rw [q, hP] at b3; cases b3; cases b6
      · rw [q, hP] at b3; cases b3; cases b6
    · have hcode := law_code KX T.g c1 g1 (Heap.of_hide g2) g3
      refine ⟨cc, hcode, ?_⟩
      obtain ⟨oo, vs, z1, z2, z3, z4, z5, z6, z7, r1, r2, r3, r4, r5, r6, r7, r8, r9, r10⟩ := codeHd_of_K KX c2
      exact ⟨oo, vs, z1, z2, z3, z4, z5, z6, z7, hide_get r1 r10, r2, r3, r4, r5, r6, r7, r8, r9, r10⟩
  obtain ⟨da, cl, ddx, dsl, fd, kd, dpm, dcode, ddoc, dc, oc, vs, dt', od, es, n, d1, d2, d3, d4, d5, d6, d7, d8, d9, d10, d11, d12, d13⟩ := hded
  have Dd : DedAt (s₁.heap.hide P0) mg da := by
    refine ⟨_, fd, kd, fun x => nsFind es x, dpm, dcode, ddoc, mg_of KX T.g d1, hide_get (up _ _ d2) (fun q => ?_), rfl, ?_, d3, ⟨od, es, n, hide_get (up _ _ d10) d6, d11, d12, fun _ => rfl⟩, d13⟩
    · have := up _ _ d2
      rw [q, hP] at this; cases this
    · rw [d3]
      exact ⟨dc, oc, vs, dt', d4, hide_get (up _ _ d7) d5, d8, d9⟩
  -- the law's def
  obtain ⟨a', Da⟩ := W.fn 42 (by decide)
  have haa : a' = a := by
    obtain ⟨o', pm', code', doc', g1, _⟩ := Da
    rw [hdn, g1] at hmg; cases hmg; rfl
  subst haa
  -- the arguments
  obtain ⟨hsh, hcond⟩ := pre_splitW hpre
  obtain ⟨x, rest, rfl, hx, hr⟩ := hasAllW_cons (e := .list .int) (es := []) hsh
  have hnil := hasAllW_nil hr
  subst hnil
  obtain ⟨xs, rfl, hxs⟩ := hasW_list hx
  cases hwl with
  | @cons v vals' _ _ w1 w2 =>
  cases w2
  cases w1 with
  | @list l vsl _ hl wl =>
  have lne : l ≠ P0 := fun q => by rw [q, hP] at hl; cases hl
  obtain ⟨ns, rfl, rr⟩ := ints_of (av := fun b => b = P0) hxs wl
  have hns : ns.length ≤ 63 := by
    have h1 := (holds_andW hcond).1
    have h2 := condW_of h1 (w_not (w_lt w_lit (w_len_list (w_arg rfl))))
    simp at h2
    omega
  have RL : RepL s₁.heap (fun b => b = P0) [.lst (dI ns)] [.ref l] := by
    refine RepL.one ?_
    rw [Rep]
    exact ⟨by rw [List.length_map]; omega, l, vsl.toArray, rfl, lne, ⟨0, hl⟩, by simpa using rr⟩
  have main := law_ok W Sp Tw (Heap.hide_self _ _) Da Dd hns callerA (fun b => b = P0) s₁ [.ref l] ⟨rfl, by decide, by decide⟩ (fun b ob e => Heap.of_hide e) (fun b hb => ⟨_, hb ▸ hP⟩) rfl ⟨#[], hP, trivial⟩ RL
  refine wpAny_mono main (fun v s' z => ?_) fun _ _ z => z.elim
  obtain ⟨km', tab, rv⟩ := z
  rw [Rep] at rv
  subst rv
  refine ⟨.inl ⟨.bool true, .bool true, [], rfl, fun cls => rfl, .bool true, ?_, fun _ => ⟨List.nodup_nil, fun _ h => nomatch h⟩⟩, ⟨fun b ob e => ?_, fun b ob e => ?_⟩, ?_, .of_eq ?_⟩
  · exact postW_of (X := (true == true)) (by rfl) (w_eq_bool (k := true) (l := true) (w_res rfl) w_lit) rfl
  · by_cases hb : b = P0
    · subst hb
      rw [hP] at e; cases e
      obtain ⟨ps, e', _⟩ := tab
      obtain ⟨oo, vs, _, _, _, _, _, _, _, r1, r2, r3, r4, _⟩ := codeHd_of_K KX c2
      refine .inr (.inl ⟨⟨cc, oo, vs, r1, r2, r3, r4⟩, rfl, #[], ps, rfl, ?_⟩)
      rw [e']; simp [tabObj]
    · exact .inl (km km' b ob hb e)
  · by_cases hb : b = P0
    · subst hb
      obtain ⟨ps, e', _⟩ := tab
      exact ⟨_, e'⟩
    · exact ⟨ob, km km' b ob hb e⟩
  · obtain ⟨h', tk, rfl, _⟩ := km'; rfl
  · obtain ⟨h', tk, rfl, _⟩ := km'; exact hg
end Mine
end
section
open PySem PySem.Calls PySem.W PyProof.Rows
open PySem.Builtin PySem.Builtin.Str
set_option maxRecDepth 100000
set_option maxHeartbeats 4000000
namespace Mine
abbrev jdx : List (Nat × Nat) := [(10, 3), (14, 5), (15, 6), (16, 7), (17, 8), (20, 9), (23, 10), (25, 11), (26, 12), (29, 13), (30, 14), (32, 15), (33, 16), (34, 17), (35, 18), (36, 19), (37, 20), (38, 21), (39, 22), (40, 23), (41, 24), (42, 25)]
theorem recs_of {q : Program} (h : (jdx.map fun p => ((recsOf q)[p.2]?).map fun d => (d.name, d.params, d.body, d.scope)) = jdx.map fun p => some (nameS (stOf p.1), paramsS (stOf p.1), bodyS (stOf p.1), scopeS (stOf p.1))) :
    ∀ i ∈ idxs, ∃ pos, (⟨nameS (stOf i), paramsS (stOf i), bodyS (stOf i), scopeS (stOf i), pos⟩ : DefRec) ∈ recsOf q := fun i hi => by
  have hj : ∃ j, (i, j) ∈ jdx := by
    have : ∀ i ∈ idxs, ∃ j ∈ [3, 5, 6, 7, 8, 9, 10, 11, 12, 13, 14, 15, 16, 17, 18, 19, 20, 21, 22, 23, 24, 25], (i, j) ∈ jdx := by decide
    obtain ⟨j, _, h⟩ := this i hi
    exact ⟨j, h⟩
  obtain ⟨j, hj⟩ := hj
  have h1 := List.map_inj_left.mp h (i, j) hj
  dsimp only at h1
  cases hd : (recsOf q)[j]? with
  | none => rw [hd] at h1; cases h1
  | some d =>
    rw [hd] at h1
    simp only [Option.map_some, Option.some.injEq, Prod.mk.injEq] at h1
    obtain ⟨a1, a2, a3, a4⟩ := h1
    refine ⟨d.pos, List.mem_of_getElem? (i := j) ?_⟩
    rw [hd, ← a1, ← a2, ← a3, ← a4]
def obOf (K : Frag) (d : Addr) : Obj := match K.lookup d with | some o => o | none => bfk
def esOf (K : Frag) (d : Addr) : Array DictEntry := match K.lookup d with | some ⟨_, _, .dict es _, _⟩ => es | _ => #[]
def enOf (K : Frag) (d : Addr) : Nat := match K.lookup d with | some ⟨_, _, .dict _ n, _⟩ => n | some ⟨_, _, .seq _ n, _⟩ => n | _ => 0
def flOf (K : Frag) (d : Addr) : Array Value := match K.lookup d with | some ⟨_, _, .fields vs, _⟩ => vs | _ => #[]
def fdOf (K : Frag) (d : Addr) : FuncData := match K.lookup d with | some ⟨_, _, .func fd, _⟩ => fd | _ => docDef (Str.ofString "") default [] default .none .none .none
def tkOf : Value → Tok
  | .str _ t => t
  | .int _ t => t
  | _ => 0
def strKeys (es : Array DictEntry) : Bool := es.all fun e => match e.key with | .str _ _ => true | _ => false
theorem strKeys_of {es : Array DictEntry} (h : strKeys es = true) : StrKeys es := fun e he => by
  have h1 := Array.all_eq_true'.mp h e he
  cases hk : e.key with
  | str n t => exact ⟨n, t, rfl⟩
  | _ => rw [hk] at h1; cases h1
def fragOf (as : List Addr) (h : Heap) : Frag := as.filterMap fun a => match h.get? a with | some o => some (a, o) | none => none
theorem fragOf_in (h : Heap) : ∀ as : List Addr, (fragOf as h).In h
  | [], b, o, e => by cases e
  | a :: as, b, o, e => by
    unfold fragOf at e
    rw [List.filterMap_cons] at e
    cases hg : h.get? a with
    | none => rw [hg] at e; exact fragOf_in h as b o e
    | some o' =>
      rw [hg] at e
      dsimp only at e
      rw [List.lookup_cons] at e
      cases hb : b == a with
      | true => rw [hb] at e; cases e; rw [beq_iff_eq.mp hb]; exact hg
      | false => rw [hb] at e; exact fragOf_in h as b o e
abbrev hasF : List Addr := [mainGlobals, 160, 151, 150, 177, 176, 192, 191, 185]
def headD : Obj → Option (Value × Option Addr × Array (Option Value))
  | ⟨c, d, .dict _ _, s⟩ => some (c, d, s)
  | _ => none
def headT : Obj → Option (Value × Option Addr × Array Value × Array (Option Value))
  | ⟨c, d, .seq vs _, s⟩ => some (c, d, vs, s)
  | _ => none
def headP : Obj → Option (Value × Option Addr × Str × Int × List Value × Array (Option Value))
  | ⟨c, d, .fields ⟨.str x _ :: .int k _ :: r⟩, s⟩ => some (c, d, x, k, r, s)
  | _ => none
def headF : Obj → Option FuncData
  | ⟨_, _, .func fd, _⟩ => some { fd with pyModule := .none, doc := .none }
  | _ => none
def headC : Obj → Option Str
  | ⟨_, _, .fields vs, _⟩ => match (vs[1]? : Option Value) with
    | some (.str x _) => some x
    | _ => none
  | _ => none
def isD : Obj → Option Unit
  | ⟨_, _, .dict _ _, _⟩ => some ()
  | _ => none
def obsK (K : Frag) :=
  (bnames.all fun x => noneNone (nsIn K mainGlobals (Str.ofString x)), nsIn K mainGlobals (Str.ofString "_special_chars_map"), (K.lookup 160).bind headD, specOk (esOf K 160),
    nsIn K mainGlobals (Str.ofString "_twin_re_1"), (K.lookup 151).bind headP, (K.lookup 150).bind headT, tabIn K (nameS (stOf 25)), codeHdIn K 176 P0,
    nsIn K mainGlobals (nameS (stOf 28)), (K.lookup 192).bind headF, (K.lookup 191).bind headC, (K.lookup 185).bind isD, strKeys (esOf K 185), nsFind (esOf K 185) (Str.ofString "unhashable_fallback"))
def valK : Bool × Option (Option Value) × Option (Value × Option Addr × Array (Option Value)) × Bool × Option (Option Value) × Option (Value × Option Addr × Str × Int × List Value × Array (Option Value)) ×
    Option (Value × Option Addr × Array Value × Array (Option Value)) × Option (Addr × Addr) × Bool × Option (Option Value) × Option FuncData × Option Str × Option Unit × Bool × Option Value :=
  (true, some (some (.ref 160)), some (.type "dict", none, #[]), true, some (some (.ref 151)), some (.type "re.Pattern", none, Str.ofString "([&~|])", 32, [.int 1 0, .none, .none, .ref 150, .int 0 0], #[]),
    some (.type "tuple", none, reCodeV, #[]), some (176, P0), true, some (some (.ref 192)), some { docDef (nameS (stOf 28)) (paramsS (stOf 28)) (bodyS (stOf 28)) (scopeS (stOf 28)) .none (.ref 191) .none with kwdefaults := .ref 185 },
    some (nameS (stOf 28)), some (), true, some (.bool false))
theorem headD_of {o : Obj} {c d s} (e : headD o = some (c, d, s)) : ∃ es n, o = ⟨c, d, .dict es n, s⟩ := by
  rcases o with ⟨c', d', dt, s'⟩
  cases dt <;> simp only [headD, Option.some.injEq, Prod.mk.injEq, reduceCtorEq] at e
  obtain ⟨rfl, rfl, rfl⟩ := e
  exact ⟨_, _, rfl⟩
theorem headT_of {o : Obj} {c d v s} (e : headT o = some (c, d, v, s)) : ∃ n, o = ⟨c, d, .seq v n, s⟩ := by
  rcases o with ⟨c', d', dt, s'⟩
  cases dt <;> simp only [headT, Option.some.injEq, Prod.mk.injEq, reduceCtorEq] at e
  obtain ⟨rfl, rfl, rfl, rfl⟩ := e
  exact ⟨_, rfl⟩
theorem headP_of {o : Obj} {c d x k r s} (e : headP o = some (c, d, x, k, r, s)) : ∃ t u, o = ⟨c, d, .fields ⟨.str x t :: .int k u :: r⟩, s⟩ := by
  unfold headP at e
  split at e
  · rename_i c' d' x' t k' u r' s'
    simp only [Option.some.injEq, Prod.mk.injEq] at e
    obtain ⟨rfl, rfl, rfl, rfl, rfl, rfl⟩ := e
    exact ⟨_, _, rfl⟩
  · cases e
theorem headF_of {o : Obj} {f : FuncData} (e : headF o = some f) : ∃ c d fd s, o = ⟨c, d, .func fd, s⟩ ∧ { fd with pyModule := .none, doc := .none } = f := by
  rcases o with ⟨c', d', dt, s'⟩
  cases dt <;> simp only [headF, Option.some.injEq, reduceCtorEq] at e
  exact ⟨_, _, _, _, rfl, e⟩
theorem headC_of {o : Obj} {x : Str} (e : headC o = some x) : ∃ vs t, o.data = .fields vs ∧ vs[1]? = some (.str x t) := by
  rcases o with ⟨c', d', dt, s'⟩
  cases dt <;> simp only [headC, reduceCtorEq] at e
  rename_i vs
  split at e
  · rename_i y t hv
    cases e
    exact ⟨vs, t, rfl, hv⟩
  · cases e
theorem isD_of {o : Obj} (e : isD o = some ()) : ∃ es n, o.data = .dict es n := by
  rcases o with ⟨c', d', dt, s'⟩
  cases dt <;> simp only [isD, reduceCtorEq] at e
  exact ⟨_, _, rfl⟩
theorem bind_of {α β : Type} {x : Option α} {f : α → Option β} {b : β} (e : x.bind f = some b) : ∃ a, x = some a ∧ f a = some b := by
  cases x with
  | none => cases e
  | some a => exact ⟨a, rfl, e⟩
theorem esOf_eq {K : Frag} {a : Addr} {c d es n s} (e : K.lookup a = some ⟨c, d, .dict es n, s⟩) : esOf K a = es := by unfold esOf; rw [e]
theorem kfacts_obs {K : Frag} (e : obsK K = valK) : KFacts K := by
  unfold obsK valK at e
  simp only [Prod.mk.injEq] at e
  obtain ⟨b1, b2, b5, b6, b7, b10, b11, b12, b13, b14, b15, b19, b22, b24, b25⟩ := e
  obtain ⟨o1, c5, d5⟩ := bind_of b5
  obtain ⟨es1, n1, rfl⟩ := headD_of d5
  obtain ⟨o2, c10, d10⟩ := bind_of b10
  obtain ⟨t2, u2, rfl⟩ := headP_of d10
  obtain ⟨o3, c11, d11⟩ := bind_of b11
  obtain ⟨n3, rfl⟩ := headT_of d11
  obtain ⟨o4, c15, d15⟩ := bind_of b15
  obtain ⟨cl, dd, fd, sl, rfl, d15⟩ := headF_of d15
  obtain ⟨o5, c19, d19⟩ := bind_of b19
  obtain ⟨vs, t5, d19, e19⟩ := headC_of d19
  obtain ⟨o6, c22, d22⟩ := bind_of b22
  obtain ⟨es6, n6, d22⟩ := isD_of d22
  have q6 : esOf K 185 = es6 := by
    rcases o6 with ⟨c', d', dt, s'⟩
    cases d22
    exact esOf_eq c22
  rw [q6] at b24 b25
  rw [esOf_eq c5] at b6
  have hfd : fd = { docDef (nameS (stOf 28)) (paramsS (stOf 28)) (bodyS (stOf 28)) (scopeS (stOf 28)) fd.pyModule (.ref 191) fd.doc with kwdefaults := .ref 185 } := by
    generalize nameS (stOf 28) = x1 at d15 ⊢
    generalize paramsS (stOf 28) = x2 at d15 ⊢
    generalize bodyS (stOf 28) = x3 at d15 ⊢
    generalize scopeS (stOf 28) = x4 at d15 ⊢
    rcases fd with ⟨f1, f2, f3, f4, f5, f6, f7, f8, f9, f10, f11, f12, f13, f14, f15⟩
    unfold docDef at d15 ⊢
    cases d15
    rfl
  exact {
    names := b1
    spec := ⟨160, es1, n1, b2, by decide, by decide, c5, b6⟩
    twin := ⟨151, 150, t2, u2, n3, b7, by decide, by decide, c10, c11⟩
    tr := ⟨176, b12, b13⟩
    ded := ⟨192, cl, dd, sl, fd, 185, _, _, _, 191, o5, vs, t5, o6, es6, n6, b14, c15, hfd, rfl, by decide, by decide, c19, d19, e19, c22, d22, strKeys_of b24, b25⟩ }
def myHook : Hook where
  α := _ × Option Obj
  obs := fun s => (obsK (fragOf hasF s.heap), s.heap.get? P0)
  val := fun _ => (valK, some (tabObj #[]))
  says := fun _ h => Says h
  of := fun w s e => ⟨fragOf hasF s.heap, fragOf_in _ _, kfacts_obs (Prod.mk.inj e).1, (Prod.mk.inj e).2⟩
  keeps := fun w h h' x k => let ⟨K, k1, k2, k3⟩ := x; ⟨K, fun a o e => k _ _ (k1 a o e), k2, k _ _ k3⟩
end Mine
end
section
open PySem PySem.Calls PySem.W PyProof.Rows
set_option maxRecDepth 1000000
set_option maxHeartbeats 0
namespace Mine
def buildT : List Obj → Nat → BT → Option BT
  | [], _, T => some T
  | o :: r, n, T => match ((T.ins n o).get n).isSome with
    | true => buildT r (n + 1) (T.ins n o)
    | false => none
theorem buildT_of (life : Life) : ∀ (l : List Obj) (n : Nat) (T T' : BT), buildT l n T = some T' → absHeap T' (n + l.length) life = ⟨(absHeap T n life).objs ++ l.toArray, life⟩
  | [], n, T, T', e => by cases e; simp; rfl
  | o :: r, n, T, T', e => by
    unfold buildT at e
    cases hi : ((T.ins n o).get n).isSome with
    | false => rw [hi] at e; cases e
    | true =>
      rw [hi] at e
      have h1 := buildT_of life r (n + 1) (T.ins n o) T' e
      have h2 : n + (o :: r).length = n + 1 + r.length := by simp; omega
      rw [h2, h1, absHeap_ins hi]
      show Heap.mk _ _ = Heap.mk _ _
      refine congrArg (Heap.mk · life) ?_
      show (absHeap T n life).objs.push o ++ r.toArray = _
      simp
def toT (s : Shared) : Option SharedT := match buildT s.heap.objs.toList 0 .nil with
  | some T => some ⟨T, s.heap.objs.size, s.heap.life, s.gens, s.drawn, s.toks, s.os⟩
  | none => none
theorem toT_abs {s : Shared} {t : SharedT} (e : toT s = some t) : t.abs = s := by
  unfold toT at e
  split at e
  · rename_i T hT
    cases e
    obtain ⟨⟨os, life⟩, gens, drawn, toks, ost⟩ := s
    have h := buildT_of life _ _ _ _ hT
    unfold SharedT.abs
    show Shared.mk (absHeap T os.size life) gens drawn toks ost = _
    have h0 : (absHeap BT.nil 0 life).objs = #[] := rfl
    rw [h0] at h
    simp at h
    rw [h]
  · cases e
/-- the top, run over a tree of objects -/
def topRunG (ok : Thread → Bool) (stp : SharedT → Thread → Option (SharedT × Thread)) : Nat → SharedT → Thread → Option SharedT
  | 0, _, _ => none
  | n + 1, s, t => match through t with
    | true => some s
    | false => match ok t with
      | false => none
      | true => match stp s t with
        | some (s', t') => topRunG ok stp n s' t'
        | none => none
theorem topRunG_of {tb : String → Option Builtin} {p : Program} {w : World} {n₀ : Nat} {ann : Option Value} : ∀ {n : Nat} {s s' : SharedT} {t : Thread}, topRunG (stepOk n₀ ann) (stepT (denote tb) p w) n s t = some s' → topRun tb p w n₀ ann n s.abs t = some s'.abs
  | 0, _, _, _, h => by cases h
  | n + 1, s, s', t, h => by
    unfold topRunG at h
    unfold topRun
    cases he : through t with
    | true => rw [he] at h; cases h; rfl
    | false =>
      rw [he] at h
      cases hk : stepOk n₀ ann t with
      | false => rw [hk] at h; cases h
      | true =>
        rw [hk] at h
        cases hs : stepT (denote tb) p w s t with
        | none => rw [hs] at h; cases h
        | some r => obtain ⟨s₂, t₂⟩ := r; rw [hs] at h; dsimp only at h ⊢; rw [stepT_spec hs]; exact topRunG_of h
noncomputable def endsTr (p : Program) (w : World) (N : Nat) : Option Shared :=
  ((PySem.W.Fast.tw10274390034422433532 PySem.W.Fast.tw14364793385576792824 (opening p) w N (start (opening p)).1 (start (opening p)).2).bind (PySem.W.Fast.tw14289696077712309145 p)).bind fun s₀ => match s₀.heap.isNs mainGlobals && s₀.gens.size == 0 with
  | true => (toT s₀).bind fun sT => (topRunG (PySem.W.Fast.tw6613529449190102663 s₀.heap.objs.size (s₀.heap.nsMap mainGlobals "__annotations__")) (PySem.W.Fast.tw10156331382660048174 (PySem.W.Fast.tw11892475500146522536 PySem.W.Fast.tw14364793385576792824) p w) N sT (topStub p)).bind fun s₁ => match staticsOk (importedModules p.main.body) s₀.heap s₁.abs.heap && namesBound p s₁.abs.heap && gensDone s₁.abs && laidKept s₀.heap s₁.abs.heap with
      | true => some s₁.abs
      | false => none
  | false => none
theorem endsTr_of {p : Program} {w : World} {N : Nat} {s : Shared} (h : endsTr p w N = some s) : openEnds treeTable p w N = some s := by
  unfold endsTr at h
  rw [← PySem.W.Fast.te10274390034422433532, ← PySem.W.Fast.te14364793385576792824, ← PySem.W.Fast.te14289696077712309145, ← PySem.W.Fast.te6613529449190102663, ← PySem.W.Fast.te10156331382660048174, ← PySem.W.Fast.te11892475500146522536] at h
  unfold openEnds fencedOpening
  obtain ⟨s₀, h0, h⟩ := Option.bind_eq_some_iff.mp h
  rw [h0]
  show topFrom treeTable p w N s₀ = some s
  unfold topFrom
  split at h
  · rename_i hg
    rw [hg]
    obtain ⟨sT, hT, h⟩ := Option.bind_eq_some_iff.mp h
    obtain ⟨s₁, h1, h⟩ := Option.bind_eq_some_iff.mp h
    have h2 := topRunG_of h1
    rw [toT_abs hT] at h2
    dsimp only
    rw [h2]
    exact h
  · cases h
theorem ends_T {α : Type} {p : Program} {w : World} {N : Nat} {f : Shared → α} {c : α} (h : (endsTr p w N).map f = some c) : (openEnds treeTable p w N).map f = some c := by
  obtain ⟨s, h1, h2⟩ := Option.map_eq_some_iff.mp h
  rw [endsTr_of h1]
  exact congrArg some h2
end Mine
end
section
open PySem PySem.Calls PySem.W PyProof.Rows
open PySem.Builtin PySem.Builtin.Str
set_option maxRecDepth 1000000
set_option maxHeartbeats 0
namespace Mine
abbrev pw : Program := PySem.Challenge.pw_in0258_01
def kL : List Nat := [0, 1, 3, 5, 7, 8, 10, 12, 14, 15, 16, 17, 19, 20, 22, 23, 25, 26, 29, 30, 32, 33, 34, 35, 36, 37, 38, 39, 40, 41, 42]
def looseL : List Str := [Str.ofString "_twin_re_1", Str.ofString "_special_chars_map", Str.ofString "_deduplicate"]
abbrev Goal1 (w : World) : Prop := (openEnds treeTable pw w 6000).map (fun s => (openSeen (view pw kL) looseL (importedModules pw.main.body) (fun s => xlAt (view pw kL) [] s && recOk [] s) true s, myHook.obs s)) = some (openGood (view pw kL) looseL, myHook.val w)
theorem t00 (w : World) : Goal1 ((w.withFollow "special-get-raises" false).withFollow "comprehension-iter-twice" false) := by
  unfold Goal1
  refine ends_T ?_
  rw [PySem.W.Fast.te4187177175401517315]
  kernel_rfl
theorem t10 (w : World) : Goal1 ((w.withFollow "special-get-raises" true).withFollow "comprehension-iter-twice" false) := by
  unfold Goal1
  refine ends_T ?_
  rw [PySem.W.Fast.te4187177175401517315]
  kernel_rfl
theorem t01 (w : World) : Goal1 ((w.withFollow "special-get-raises" false).withFollow "comprehension-iter-twice" true) := by
  unfold Goal1
  refine ends_T ?_
  rw [PySem.W.Fast.te4187177175401517315]
  kernel_rfl
theorem t11 (w : World) : Goal1 ((w.withFollow "special-get-raises" true).withFollow "comprehension-iter-twice" true) := by
  unfold Goal1
  refine ends_T ?_
  rw [PySem.W.Fast.te4187177175401517315]
  kernel_rfl
theorem left (w : World) : Goal1 w :=
  byRow2 "comprehension-iter-twice" (P := Goal1) (fun w => byRow2 "special-get-raises" (P := fun w => Goal1 (w.withFollow "comprehension-iter-twice" false)) t00 t10 w)
    (fun w => byRow2 "special-get-raises" (P := fun w => Goal1 (w.withFollow "comprehension-iter-twice" true)) t01 t11 w) w
theorem qtest : (jdx.map fun p => ((recsOf (view pw kL))[p.2]?).map fun d => (d.name, d.params, d.body, d.scope)) = jdx.map fun p => some (nameS (stOf p.1), paramsS (stOf p.1), bodyS (stOf p.1), scopeS (stOf p.1)) := by kernel_rfl
end Mine
end
section
open PySem PySem.Calls PySem.W PyProof.Rows
set_option maxRecDepth 1000000
set_option maxHeartbeats 0
theorem Mine.said : OpenLaw.wellSaid PySem.Challenge.rw_in0258_01 = true := by
  rw [PySem.W.Fast.te9446332074065402090]
  kernel_rfl
theorem PySem.Challenge.cw_in0258_01_holds : PySem.Challenge.rw_in0258_01.Holds := by
  refine holds_law Mine.said fun said => ?_
  refine holds_open (q := view Mine.pw Mine.kL) (loose := Mine.looseL) (Xt := fun s => xlAt (view Mine.pw Mine.kL) [] s && recOk (RowW.records (PySem.Challenge.rw_in0258_01.row.toRowW)) s) (XP := XL (view Mine.pw Mine.kL) []) (Yf := Hook.obs Mine.myHook) (Ya := Hook.val Mine.myHook) (YP := Hook.says Mine.myHook) (N := 6000) ?hl (Hook.of Mine.myHook) (Hook.keeps Mine.myHook) (fun s e => xl_of s (Bool.and_eq_true_iff.mp e).1) XL.keeps (by rfl) (by rfl) (by rfl) (fun s e => recFacts_of (Bool.and_eq_true_iff.mp e).2) (by rfl) (by first | assumption | decide +kernel) (by decide +kernel) ⟨rfl, rfl, rfl, rfl, rfl, by decide +kernel⟩ ?hw ?hc
  case hl => exact Mine.left
  case hw => w_witness2
  case hc => exact Mine.fin (Mine.recs_of Mine.qtest) rfl
end
