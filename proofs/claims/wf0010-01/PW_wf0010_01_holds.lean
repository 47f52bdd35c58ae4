import PyProof.Rows.All
import Wide.All
import OpenK.AllK
import Wide.FinOn
import PySem.Challenge.RW_wf0010_01
set_option Elab.async false
set_option maxRecDepth 100000
set_option linter.unusedVariables false
set_option linter.unusedSimpArgs false

namespace Mine
open PySem PySem.Calls PyProof.Rows PySem.W

/-! data -/
inductive D where
  | none | bool (b : Bool) | int (i : Int) | str (s : Str) | bytes (b : Array UInt8)
  | tup (l : List D) | lst (l : List D) | raw (v : Value)

mutual
noncomputable def Rep (X : List Addr) (h : Heap) : D → Value → Prop
  | .none, v => v = .none
  | .bool b, v => v = .bool b
  | .int i, v => ∃ t, v = .int i t
  | .str x, v => ∃ t, v = .str x t
  | .bytes b, v => ∃ t, v = .bytes b t
  | .raw u, v => v = u
  | .tup l, v => ∃ a vs, v = .ref a ∧ h.IsTuple a (vs : List Value).toArray ∧ Reps X h l vs
  | .lst l, v => ∃ a vs, v = .ref a ∧ a ∉ X ∧ h.IsList a (vs : List Value).toArray ∧ Reps X h l vs
noncomputable def Reps (X : List Addr) (h : Heap) : List D → List Value → Prop
  | [], vs => vs = []
  | d :: ds, vs => ∃ v r, vs = v :: r ∧ Rep X h d v ∧ Reps X h ds r
end

/-! what stays: all but W -/
noncomputable def KeepBut (W : List Addr) (h h' : Heap) : Prop := ∀ b o, b ∉ W → h.get? b = some o → h'.get? b = some o
/-! the lists and tuples outside X stay -/
noncomputable def isSeqObj (o : Obj) : Prop := ∃ xs n, o.data = .seq xs n
noncomputable def SeqKeep (X : List Addr) (h h' : Heap) : Prop := ∀ b o, b ∉ X ∨ o.cls = .type "tuple" → isSeqObj o → h.get? b = some o → h'.get? b = some o

theorem isTuple_mv {h h' : Heap} {a : Addr} {items : Array Value} (x : h.IsTuple a items) (k : ∀ o, o.cls = .type "tuple" → isSeqObj o → h.get? a = some o → h'.get? a = some o) : h'.IsTuple a items :=
  let ⟨o, ho, hc, n, r⟩ := x; ⟨o, k o hc ⟨_, n, r⟩ ho, hc, n, r⟩
theorem isList_mv {h h' : Heap} {a : Addr} {items : Array Value} (x : h.IsList a items) (k : ∀ o, o.cls = .type "list" → isSeqObj o → h.get? a = some o → h'.get? a = some o) : h'.IsList a items :=
  let ⟨o, ho, hc, n, r⟩ := x; ⟨o, k o hc ⟨_, n, r⟩ ho, hc, n, r⟩

mutual
theorem Rep.seq {X : List Addr} {h h' : Heap} (k : SeqKeep X h h') : ∀ (d : D) (v : Value), Rep X h d v → Rep X h' d v
  | .none, _, r => r
  | .bool _, _, r => r
  | .int _, _, r => r
  | .str _, _, r => r
  | .bytes _, _, r => r
  | .raw _, _, r => r
  | .tup l, _, ⟨a, vs, e, t, r⟩ => ⟨a, vs, e, isTuple_mv t fun o hc hs ho => k a o (.inr hc) hs ho, Reps.seq k l vs r⟩
  | .lst l, _, ⟨a, vs, e, n, t, r⟩ => ⟨a, vs, e, n, isList_mv t fun o hc hs ho => k a o (.inl n) hs ho, Reps.seq k l vs r⟩
theorem Reps.seq {X : List Addr} {h h' : Heap} (k : SeqKeep X h h') : ∀ (l : List D) (vs : List Value), Reps X h l vs → Reps X h' l vs
  | [], _, r => r
  | d :: ds, _, ⟨v, r, e, hv, hr⟩ => ⟨v, r, e, Rep.seq k d v hv, Reps.seq k ds r hr⟩
end
mutual
theorem Rep.sub {X X' : List Addr} {h : Heap} (k : ∀ a, a ∈ X' → a ∈ X) : ∀ (d : D) (v : Value), Rep X h d v → Rep X' h d v
  | .none, _, r => r
  | .bool _, _, r => r
  | .int _, _, r => r
  | .str _, _, r => r
  | .bytes _, _, r => r
  | .raw _, _, r => r
  | .tup l, _, ⟨a, vs, e, t, r⟩ => ⟨a, vs, e, t, Reps.sub k l vs r⟩
  | .lst l, _, ⟨a, vs, e, n, t, r⟩ => ⟨a, vs, e, fun m => n (k a m), t, Reps.sub k l vs r⟩
theorem Reps.sub {X X' : List Addr} {h : Heap} (k : ∀ a, a ∈ X' → a ∈ X) : ∀ (l : List D) (vs : List Value), Reps X h l vs → Reps X' h l vs
  | [], _, r => r
  | d :: ds, _, ⟨v, r, e, hv, hr⟩ => ⟨v, r, e, Rep.sub k d v hv, Reps.sub k ds r hr⟩
end
/-! a new address may be put apart -/
mutual
theorem Rep.apart {X : List Addr} {h : Heap} {a₀ : Addr} (k : h.get? a₀ = none) : ∀ (d : D) (v : Value), Rep X h d v → Rep (a₀ :: X) h d v
  | .none, _, r => r
  | .bool _, _, r => r
  | .int _, _, r => r
  | .str _, _, r => r
  | .bytes _, _, r => r
  | .raw _, _, r => r
  | .tup l, _, ⟨a, vs, e, t, r⟩ => ⟨a, vs, e, t, Reps.apart k l vs r⟩
  | .lst l, _, ⟨a, vs, e, n, t, r⟩ => ⟨a, vs, e, fun m => (List.mem_cons.mp m).elim (fun q => by obtain ⟨o, ho, _⟩ := t; rw [q, k] at ho; cases ho) n, t, Reps.apart k l vs r⟩
theorem Reps.apart {X : List Addr} {h : Heap} {a₀ : Addr} (k : h.get? a₀ = none) : ∀ (l : List D) (vs : List Value), Reps X h l vs → Reps (a₀ :: X) h l vs
  | [], _, r => r
  | d :: ds, _, ⟨v, r, e, hv, hr⟩ => ⟨v, r, e, Rep.apart k d v hv, Reps.apart k ds r hr⟩
end

theorem SeqKeep.of {X W : List Addr} {h h' : Heap} (k : KeepBut W h h') (hw : ∀ b o, b ∈ W → h.get? b = some o → isSeqObj o → b ∈ X ∧ o.cls = .type "list") : SeqKeep X h h' := fun b o hb hs ho => by
  by_cases q : b ∈ W
  · obtain ⟨h1, h2⟩ := hw b o q ho hs
    rcases hb with hb | hb
    · exact absurd h1 hb
    · rw [h2] at hb; exact absurd (Value.type.inj hb) (by decide)
  · exact k b o q ho
theorem SeqKeep.all {X : List Addr} {h h' : Heap} (k : KeepBut [] h h') : SeqKeep X h h' := fun b o _ _ ho => k b o (by simp) ho
theorem Rep.keep {X : List Addr} {h h' : Heap} (k : KeepBut [] h h') {d : D} {v : Value} (r : Rep X h d v) : Rep X h' d v := Rep.seq (.all k) d v r
theorem Reps.keep {X : List Addr} {h h' : Heap} (k : KeepBut [] h h') {d : List D} {v : List Value} (r : Reps X h d v) : Reps X h' d v := Reps.seq (.all k) d v r
theorem KeepBut.refl (W : List Addr) (h : Heap) : KeepBut W h h := fun _ _ _ e => e
theorem KeepBut.trans {W : List Addr} {h h' h'' : Heap} (k : KeepBut W h h') (k' : KeepBut W h' h'') : KeepBut W h h'' := fun b o hb e => k' b o hb (k b o hb e)
theorem KeepBut.mono {W W' : List Addr} {h h' : Heap} (k : KeepBut W h h') (s : ∀ a, a ∈ W → a ∈ W') : KeepBut W' h h' := fun b o hb e => k b o (fun q => hb (s b q)) e
theorem KeepBut.all {h h' : Heap} (k : KeepBut [] h h') : ∀ b o, h.get? b = some o → h'.get? b = some o := fun b o e => k b o (by simp) e
theorem KeepBut.of_all {h h' : Heap} (k : ∀ b o, h.get? b = some o → h'.get? b = some o) : KeepBut [] h h' := fun b o _ e => k b o e
theorem KeepBut.push (h : Heap) (o : Obj) : KeepBut [] h (h.push o) := fun _ _ _ e => Heap.get?_push_of_some _ e
theorem KeepBut.same {a : Addr} {h h' : Heap} (k : Heap.SameBut a h h') : KeepBut [a] h h' := fun b o hb e => k.extBut b o (fun q => hb (by simp [q])) e
/-! what was new is no loss -/

theorem Reps.length {X : List Addr} {h : Heap} : ∀ {l : List D} {vs : List Value}, Reps X h l vs → vs.length = l.length
  | [], _, r => by cases r; rfl
  | _ :: _, _, ⟨_, _, e, _, hr⟩ => by cases e; simp [Reps.length hr]
theorem Reps.get {X : List Addr} {h : Heap} : ∀ {l : List D} {vs : List Value}, Reps X h l vs → ∀ {i : Nat} {d : D}, l[i]? = some d → ∃ v, vs[i]? = some v ∧ Rep X h d v
  | [], _, _, _, _, e => by simp at e
  | d :: ds, _, ⟨v, r, e, hv, hr⟩, 0, d', q => by cases e; simp at q; subst q; exact ⟨v, rfl, hv⟩
  | d :: ds, _, ⟨v, r, e, hv, hr⟩, i + 1, d', q => by
    cases e
    simp only [List.getElem?_cons_succ] at q ⊢
    exact Reps.get hr q
theorem Reps.append {X : List Addr} {h : Heap} : ∀ {l l' : List D} {vs vs' : List Value}, Reps X h l vs → Reps X h l' vs' → Reps X h (l ++ l') (vs ++ vs')
  | [], _, _, _, r, r' => by cases r; exact r'
  | _ :: _, _, _, _, ⟨v, r, e, hv, hr⟩, r' => by cases e; exact ⟨v, r ++ _, rfl, hv, Reps.append hr r'⟩
theorem Reps.nil {X : List Addr} {h : Heap} : Reps X h [] [] := rfl
theorem Reps.cons {X : List Addr} {h : Heap} {d : D} {ds : List D} {v : Value} {vs : List Value} (a : Rep X h d v) (b : Reps X h ds vs) : Reps X h (d :: ds) (v :: vs) := ⟨v, vs, rfl, a, b⟩
theorem Reps.take {X : List Addr} {h : Heap} : ∀ {l : List D} {vs : List Value} (n : Nat), Reps X h l vs → Reps X h (l.take n) (vs.take n)
  | l, vs, 0, r => by simpa using .nil
  | [], _, n + 1, r => by cases r; exact .nil
  | _ :: _, _, n + 1, ⟨v, r, e, hv, hr⟩ => by cases e; simpa using Reps.cons hv (Reps.take n hr)

/-! ints -/
noncomputable def dI (l : List Int) : List D := l.map D.int
noncomputable def dS (l : List Str) : List D := l.map D.str
theorem Reps.intsAre {X : List Addr} {h : Heap} : ∀ {l : List Int} {vs : List Value}, Reps X h (dI l) vs → IntsAre vs l
  | [], _, r => by cases r; exact .nil
  | _ :: _, _, ⟨v, r, e, ⟨t, hv⟩, hr⟩ => by subst e; subst hv; exact .cons _ _ (Reps.intsAre hr)
theorem Reps.of_ints {X : List Addr} {h : Heap} : ∀ {l : List Int} {vs : List Value}, IntsAre vs l → Reps X h (dI l) vs
  | _, _, .nil => rfl
  | _, _, .cons _ _ r => ⟨_, _, rfl, ⟨_, rfl⟩, Reps.of_ints r⟩

/-! the program's defs and the built-ins that it names -/
noncomputable abbrev pw : Program := PySem.Challenge.pw_wf0010_01
noncomputable def defOf : Stmt → Option DefRec
  | .FunctionDef n a b _ _ _ sc _ _ p => some ⟨n, a, b, sc, p⟩
  | _ => none
noncomputable def defs : List DefRec := pw.main.body.filterMap defOf
noncomputable def fn (i : Nat) : DefRec := defs.getD i ⟨"", ⟨[], [], none, [], [], none, []⟩, [], default, default⟩
noncomputable def blts : List Str := ["enumerate", "next", "int", "abs", "divmod", "min", "len", "list", "range", "sum", "sorted", "iter", "chr"]

structure Base (h : Heap) : Prop where
  nolimit : h.NoLimit
  glob : ∃ mg mb, h.Ns mainGlobals mg ∧ h.Ns builtinsNs mb ∧
    (∀ d ∈ defs, ∃ a o pm code doc, mg d.name = some (.ref a) ∧ h.get? a = some o ∧ o.data = .func (docDef d.name d.params d.body d.scope pm code doc) ∧ h.CodeRec code d.name) ∧
    (∀ x ∈ blts, mg x = none ∧ mb x = bootBuiltins x)

/-! where a block runs -/
structure Fx where
  w : World
  h₀ : Heap
  A : Around
  env : Env
  X₀ : List Addr
  n : Nat
  B : Base h₀
  hh : A.handled = none
  dep : A.depth + n < recursionLimit
  uni : A.units + 50 * n < cLine
noncomputable abbrev Fx.M (f : Fx) : Model := model pw f.w

noncomputable def Holds (env : Env) (h : Heap) (x : Str) (v : Value) : Prop :=
  (env.kindOf x = some .local ∧ ∃ m, h.Ns env.locals m ∧ m x = some v) ∨
  ((env.kindOf x = some .cell ∨ env.kindOf x = some .free) ∧ ∃ c, env.cells.lookup x = some c ∧ h.IsCell c (some v))
theorem Holds.keep {env : Env} {h h' : Heap} {x : Str} {v : Value} (H : Holds env h x v) (k : ∀ b o, h.get? b = some o → h'.get? b = some o) : Holds env h' x v :=
  H.imp (fun ⟨a, m, b, c⟩ => ⟨a, m, b.keeps k, c⟩) fun ⟨a, c, b, d⟩ => ⟨a, c, b, d.keeps k⟩

structure Frm (env : Env) (h : Heap) : Prop where
  fn : env.scope.kind = .function
  ns : ∃ m, h.Ns env.locals m
  cells : ∀ x c, (x, c) ∈ env.cells → ∃ v, h.IsCell c v
  inj : ∀ x y c, env.cells.lookup x = some c → env.cells.lookup y = some c → x = y
  glo : env.globals = mainGlobals
  blt : env.builtins = builtinsNs
theorem Frm.keep {env : Env} {h h' : Heap} (F : Frm env h) (k : ∀ b o, h.get? b = some o → h'.get? b = some o) : Frm env h' :=
  ⟨F.fn, (let ⟨m, q⟩ := F.ns; ⟨m, q.keeps k⟩), fun x c e => (let ⟨v, q⟩ := F.cells x c e; ⟨v, q.keeps k⟩), F.inj, F.glo, F.blt⟩

/-! what a name bears: a datum, or the frame's own list -/
inductive VD where
  | im (d : D)
  | mut (a : Addr) (l : List D)
noncomputable def VRep (X : List Addr) (h : Heap) : VD → Value → Prop
  | .im d, v => Rep X h d v
  | .mut a l, v => v = .ref a ∧ a ∈ X ∧ ∃ vs : List Value, h.PlainList a vs.toArray ∧ Reps X h l vs
theorem VRep.keep {X : List Addr} {h h' : Heap} (k : KeepBut [] h h') {d : VD} {v : Value} (r : VRep X h d v) : VRep X h' d v := by
  cases d with
  | im d => exact Rep.keep k r
  | «mut» a l => obtain ⟨e, m, vs, p, q⟩ := r; exact ⟨e, m, vs, p.at fun o e => k.all a o e, q.keep k⟩

/-! the addresses that a block's own lists bear lie in Y, those of its callers in X₀ -/
noncomputable def own (env : Env) (Y : List Addr) : List Addr := env.locals :: (env.cells.map (·.2) ++ Y)
noncomputable abbrev Sg := List (Str × VD)
structure Ok (f : Fx) (X : List Addr) (s : Shared) : Prop where
  base : ∀ b o, f.h₀.get? b = some o → s.heap.get? b = some o
  xs : ∀ a ∈ X, ∃ o, s.heap.get? a = some o
structure St (f : Fx) (Y : List Addr) (σ : Sg) (s : Shared) : Prop extends Ok f (Y ++ f.X₀) s where
  off : ∀ a ∈ own f.env Y, f.h₀.get? a = none
  frm : Frm f.env s.heap
  bare : ∀ g ∈ s.gens, g.bare = true
  ys : ∀ a ∈ Y, a ∉ f.X₀ ∧ ∃ vs, s.heap.PlainList a vs
  vars : ∀ x d, σ.lookup x = some d → ∃ v, Holds f.env s.heap x v ∧ VRep (Y ++ f.X₀) s.heap d v

/-! how a state goes on: all stays but W, and of the generators all but G -/
structure Mv (W : List Addr) (s s' : Shared) (G : List Nat := []) : Prop where
  keep : KeepBut W s.heap s'.heap
  gens : ∀ (g : Nat) st, g ∉ G → s.gens[g]? = some st → s'.gens[g]? = some st
  bare : (∀ g ∈ s.gens, g.bare = true) → ∀ g ∈ s'.gens, g.bare = true
  os : s'.os = s.os
theorem Mv.refl (W : List Addr) (s : Shared) {G : List Nat} : Mv W s s G := ⟨.refl _ _, fun _ _ _ e => e, id, rfl⟩
theorem Mv.trans {W : List Addr} {s s' s'' : Shared} {G : List Nat} (a : Mv W s s' G) (b : Mv W s' s'' G) : Mv W s s'' G :=
  ⟨a.keep.trans b.keep, fun g st n e => b.gens g st n (a.gens g st n e), fun h => b.bare (a.bare h), b.os.trans a.os⟩
theorem Mv.mono {W W' : List Addr} {s s' : Shared} {G G' : List Nat} (a : Mv W s s' G) (k : ∀ x, x ∈ W → x ∈ W') (kg : ∀ x, x ∈ G → x ∈ G') : Mv W' s s' G' := ⟨a.keep.mono k, fun g st n e => a.gens g st (fun m => n (kg g m)) e, a.bare, a.os⟩
theorem Mv.wide {W : List Addr} {s s' : Shared} {G : List Nat} (a : Mv [] s s') : Mv W s s' G := a.mono (by simp) (by simp)
theorem Mv.heap {W : List Addr} {s : Shared} {h' : Heap} {t : Nat} {G : List Nat} (k : KeepBut W s.heap h') : Mv W s { s with heap := h', toks := t } G := ⟨k, fun _ _ _ e => e, id, rfl⟩
theorem Mv.heap' {W : List Addr} {s : Shared} {h' : Heap} {G : List Nat} (k : KeepBut W s.heap h') : Mv W s { s with heap := h' } G := ⟨k, fun _ _ _ e => e, id, rfl⟩
theorem Mv.toks {W : List Addr} {s : Shared} {t : Nat} {G : List Nat} : Mv W s { s with toks := t } G := ⟨.refl _ _, fun _ _ _ e => e, id, rfl⟩
/-! seen from an older state, what has been made since is no loss -/
theorem Mv.since {W V : List Addr} {s s' s'' : Shared} {G H : List Nat} (a : Mv W s s' G) (b : Mv V s' s'' H) (v : ∀ x, x ∈ V → x ∈ W ∨ s.heap.get? x = none) (g : ∀ (x : Nat), x ∈ H → x ∈ G ∨ s.gens[x]? = none) : Mv W s s'' G :=
  ⟨fun c o n e => b.keep c o (fun m => (v c m).elim n fun q => by rw [e] at q; cases q) (a.keep c o n e), fun c st n e => b.gens c st (fun m => (g c m).elim n fun q => by rw [e] at q; cases q) (a.gens c st n e), fun h => b.bare (a.bare h), b.os.trans a.os⟩

theorem Ok.step {f : Fx} {X : List Addr} {s s' : Shared} (S : Ok f X s) (p : Mv [] s s') : Ok f X s' :=
  ⟨fun b o e => p.keep.all b o (S.base b o e), fun a m => let ⟨o, e⟩ := S.xs a m; ⟨o, p.keep.all a o e⟩⟩
theorem Ok.fresh {f : Fx} {X : List Addr} {s : Shared} (S : Ok f X s) {a : Addr} (n : s.heap.get? a = none) : a ∉ X := fun m => by obtain ⟨o, e⟩ := S.xs a m; rw [n] at e; cases e
theorem Ok.nolimit {f : Fx} {X : List Addr} {s : Shared} (S : Ok f X s) : s.heap.NoLimit := f.B.nolimit.keeps S.base
theorem St.step {f : Fx} {Y : List Addr} {σ : Sg} {s s' : Shared} (S : St f Y σ s) (p : Mv [] s s') : St f Y σ s' :=
  ⟨S.toOk.step p, S.off, S.frm.keep p.keep.all, p.bare S.bare, fun a m => let ⟨h, vs, q⟩ := S.ys a m; ⟨h, vs, q.at fun o e => p.keep.all a o e⟩, fun x d e => let ⟨v, a, b⟩ := S.vars x d e; ⟨v, a.keep p.keep.all, b.keep p.keep⟩⟩
theorem St.forget {f : Fx} {Y : List Addr} {σ σ' : Sg} {s : Shared} (S : St f Y σ s) (k : ∀ x d, σ'.lookup x = some d → σ.lookup x = some d) : St f Y σ' s :=
  ⟨S.toOk, S.off, S.frm, S.bare, S.ys, fun x d e => S.vars x d (k x d e)⟩

noncomputable abbrev NoE : Value → Shared → Prop := fun _ _ => False

/-! e gives d; nothing old is turned -/
noncomputable def Ev (f : Fx) (Y : List Addr) (σ : Sg) (e : Expr) (d : D) : Prop :=
  ∀ s, St f Y σ s → wpAny f.M f.A (eval e f.env) (fun v s' => Mv [] s s' ∧ Rep (Y ++ f.X₀) s'.heap d v) NoE s
/-! a test -/
noncomputable def Tt (f : Fx) (Y : List Addr) (σ : Sg) (e : Expr) (b : Bool) : Prop :=
  ∀ s, St f Y σ s → wpAny f.M f.A (isTrue e f.env (eval e f.env)) (fun c s' => Mv [] s s' ∧ c = b) NoE s

/-! how a block ends -/
inductive R where
  | next | brk | cont | ret (d : D)
noncomputable def FR (X : List Addr) (h : Heap) : R → Flow → Prop
  | .next, f => f = .next
  | .brk, f => f = .brk
  | .cont, f => f = .cont
  | .ret d, f => ∃ v, f = .ret v ∧ Rep X h d v
noncomputable abbrev Post := R → List Addr → Sg → Prop
noncomputable def ExR (f : Fx) (Y : List Addr) (s : Shared) (Q : Post) (fl : Flow) (s' : Shared) : Prop :=
  ∃ r Y' σ', FR (Y' ++ f.X₀) s'.heap r fl ∧ St f Y' σ' s' ∧ Mv (own f.env Y) s s' ∧ (∀ a, a ∈ Y' → a ∈ Y ∨ s.heap.get? a = none) ∧ Q r Y' σ'
noncomputable def Ex1 (f : Fx) (Y : List Addr) (σ : Sg) (st : Stmt) (Q : Post) : Prop :=
  ∀ s, St f Y σ s → wpAny f.M f.A (exec st f.env) (ExR f Y s Q) NoE s
noncomputable def Ex (f : Fx) (Y : List Addr) (σ : Sg) (ss : List Stmt) (Q : Post) : Prop :=
  ∀ s, St f Y σ s → wpAny f.M f.A (execs ss f.env) (ExR f Y s Q) NoE s
end Mine

namespace Mine
open PySem PySem.Calls PyProof.Rows PySem.W

theorem wNoE {α : Type} {M : Model} {A : Around} {t : Sem α} {Q Q' : α → Shared → Prop} {E : Value → Shared → Prop} {s : Shared} (h : wpAny M A t Q NoE s) (k : ∀ a s, Q a s → Q' a s) : wpAny M A t Q' E s :=
  wpAny_mono h k fun _ _ f => f.elim

section
variable {f : Fx} {Y : List Addr} {σ : Sg}

theorem Ev.eq {e : Expr} {d d' : D} (h : Ev f Y σ e d) (q : d = d') : Ev f Y σ e d' := q ▸ h
theorem Tt.eq {e : Expr} {d d' : Bool} (h : Tt f Y σ e d) (q : d = d') : Tt f Y σ e d' := q ▸ h

/-! names -/
theorem loadName_holds {M : Model} {A : Around} {env : Env} {x : Str} {v : Value} {Q : Value → Shared → Prop} {E : Value → Shared → Prop} {s : Shared} (F : Frm env s.heap) (H : Holds env s.heap x v) (hn : (x == ("__classdict__" : Str)) = false) (h : Q v s) :
    wpAny M A (loadName env x) Q E s := by
  rcases H with ⟨hk, m, hm, hv⟩ | ⟨hk, c, hc, hv⟩
  · exact wpAny_loadName_local F.fn hk hm hv h
  · rcases hk with hk | hk
    · exact wpAny_loadName_cell F.fn hk hc hv h
    · exact wpAny_loadName_free F.fn hk hc hv h hn
theorem Ev.name {x : Str} {pos : Pos} {d : D} (h : σ.lookup x = some (.im d)) (hd : (x == ("__debug__" : Str)) = false := by decide) (hn : (x == ("__classdict__" : Str)) = false := by decide) :
    Ev f Y σ (.Name x pos) d := fun s S => by
  obtain ⟨v, H, r⟩ := S.vars x _ h
  exact wpAny_Name (loadName_holds S.frm H hn ⟨.refl _ _, r⟩) hd
/-! a name of the frame's own list, looked at as it is -/
theorem nameMut {x : Str} {pos : Pos} {a : Addr} {l : List D} {s : Shared} {Q : Value → Shared → Prop} {E : Value → Shared → Prop} (S : St f Y σ s) (h : σ.lookup x = some (.mut a l)) (q : Q (.ref a) s)
    (hd : (x == ("__debug__" : Str)) = false := by decide) (hn : (x == ("__classdict__" : Str)) = false := by decide) : wpAny f.M f.A (eval (.Name x pos) f.env) Q E s := by
  obtain ⟨v, H, r, _⟩ := S.vars x _ h
  subst r
  exact wpAny_Name (loadName_holds S.frm H hn q) hd

/-! constants -/
theorem Ev.cInt {i : Int} {k : Nat} {pos : Pos} : Ev f Y σ (.Constant (.int i) k pos) (.int i) := fun s _ => wpAny_Constant_int ⟨.toks, _, rfl⟩
theorem Ev.cStr {x : Str} {k : Nat} {pos : Pos} : Ev f Y σ (.Constant (.str x) k pos) (.str x) := fun s _ => Constant_str ⟨.toks, _, rfl⟩
theorem Ev.cBool {b : Bool} {k : Nat} {pos : Pos} : Ev f Y σ (.Constant (.bool b) k pos) (.bool b) := fun s _ => Constant_bool ⟨.refl _ _, rfl⟩
theorem Ev.cNone {k : Nat} {pos : Pos} : Ev f Y σ (.Constant .none k pos) .none := fun s _ => Constant_none ⟨.refl _ _, rfl⟩
theorem Ev.cBytes {x : List UInt8} {k : Nat} {pos : Pos} : Ev f Y σ (.Constant (.bytes x) k pos) (.bytes x.toArray) := fun s _ _ _ _ => ⟨.toks, _, rfl⟩

/-! operators -/
noncomputable def Bin (f : Fx) (g : Value → Value → Sem Value) (a b c : D) : Prop :=
  ∀ X s v u, Ok f X s → Rep X s.heap a v → Rep X s.heap b u → wpAny f.M f.A (g v u) (fun r s' => Mv [] s s' ∧ Rep X s'.heap c r) NoE s
noncomputable def Un (f : Fx) (g : Value → Sem Value) (a c : D) : Prop :=
  ∀ X s v, Ok f X s → Rep X s.heap a v → wpAny f.M f.A (g v) (fun r s' => Mv [] s s' ∧ Rep X s'.heap c r) NoE s
noncomputable def Truth (f : Fx) (a : D) (b : Bool) : Prop := ∀ X s v, Ok f X s → Rep X s.heap a v → wpAny f.M f.A (truthy v) (fun c s' => Mv [] s s' ∧ c = b) NoE s

theorem Ev.bin {l r : Expr} {op : Operator} {pos : Pos} {a b c : D} (hl : Ev f Y σ l a) (hr : Ev f Y σ r b) (hb : Bin f (binaryOp op) a b c) : Ev f Y σ (.BinOp l op r pos) c := fun s S =>
  wpAny_BinOp (wNoE (hl s S) fun v s1 h1 => wNoE (hr s1 (S.step h1.1)) fun u s2 h2 => wNoE (hb _ s2 v u (S.toOk.step (h1.1.trans h2.1)) (h1.2.keep h2.1.keep) h2.2) fun c s3 h3 => ⟨h1.1.trans (h2.1.trans h3.1), h3.2⟩)
theorem Ev.un {x : Expr} {op : UnaryOp} {pos : Pos} {a c : D} (hl : Ev f Y σ x a) (hb : Un f (unaryOp op) a c) : Ev f Y σ (.UnaryOp op x pos) c := fun s S =>
  UnaryOp_ (wNoE (hl s S) fun v s1 h1 => wNoE (hb _ s1 v (S.toOk.step h1.1) h1.2) fun c s3 h3 => ⟨h1.1.trans h3.1, h3.2⟩)
theorem Ev.cmp {l r : Expr} {op : CmpOp} {pos : Pos} {a b c : D} (hl : Ev f Y σ l a) (hr : Ev f Y σ r b) (hb : Bin f (compareOp op) a b c) (hm : behindInMarks op r = false := by with_unfolding_all rfl) :
    Ev f Y σ (.Compare l [op] [r] pos) c := fun s S =>
  wpAny_Compare1 (wNoE (hl s S) fun v s1 h1 => wNoE (hr s1 (S.step h1.1)) fun u s2 h2 => wNoE (hb _ s2 v u (S.toOk.step (h1.1.trans h2.1)) (h1.2.keep h2.1.keep) h2.2) fun c s3 h3 => ⟨h1.1.trans (h2.1.trans h3.1), h3.2⟩) hm
theorem Ev.ifexp {t b o : Expr} {pos : Pos} {c : Bool} {d : D} (ht : Tt f Y σ t c) (hb : c = true → Ev f Y σ b d) (ho : c = false → Ev f Y σ o d) : Ev f Y σ (.IfExp t b o pos) d := fun s S =>
  IfExp_ (wNoE (ht s S) fun c' s1 h1 => by
    obtain ⟨p, rfl⟩ := h1
    cases c' with
    | true => exact wNoE (hb rfl s1 (S.step p)) fun v s2 h2 => ⟨p.trans h2.1, h2.2⟩
    | false => exact wNoE (ho rfl s1 (S.step p)) fun v s2 h2 => ⟨p.trans h2.1, h2.2⟩)

/-! tests -/
theorem Tt.cmp {l r : Expr} {op : CmpOp} {pos : Pos} {a b : D} {c : Bool} (hl : Ev f Y σ l a) (hr : Ev f Y σ r b) (hb : Bin f (compareOp op) a b (.bool c)) (hm : behindInMarks op r = false := by with_unfolding_all rfl) :
    Tt f Y σ (.Compare l [op] [r] pos) c := fun s S =>
  wpAny_isTrue_Compare1 (wNoE (hl s S) fun v s1 h1 => wNoE (hr s1 (S.step h1.1)) fun u s2 h2 => wNoE (hb _ s2 v u (S.toOk.step (h1.1.trans h2.1)) (h1.2.keep h2.1.keep) h2.2) fun c s3 h3 => by
    obtain ⟨p, q⟩ := h3
    cases q
    exact wpAny_truthy_bool ⟨h1.1.trans (h2.1.trans p), rfl⟩) hm
theorem Tt.and_nil {pos : Pos} : Tt f Y σ (.BoolOp .And [] pos) true := fun s _ => isTrue_and_nil ⟨.refl _ _, rfl⟩
theorem Tt.and_cons {x : Expr} {r : List Expr} {pos : Pos} {c d : Bool} (h : Tt f Y σ x c) (hr : c = true → Tt f Y σ (.BoolOp .And r pos) d) : Tt f Y σ (.BoolOp .And (x :: r) pos) (c && d) := fun s S =>
  isTrue_and (wNoE (h s S) fun c' s1 h1 => by
    obtain ⟨p, rfl⟩ := h1
    cases c' with
    | true => exact wNoE (hr rfl s1 (S.step p)) fun d' s2 h2 => ⟨p.trans h2.1, by rw [h2.2]; rfl⟩
    | false => exact ⟨p, rfl⟩)
theorem Tt.plain {e : Expr} {d : D} {b : Bool} (h : Ev f Y σ e d) (ht : Truth f d b) (he : isTrue e f.env (eval e f.env) = (do let v ← eval e f.env; standAt e.pos; holding [v] (truthy v)) := by rfl) : Tt f Y σ e b := fun s S =>
  isTrue_plain (wNoE (h s S) fun v s1 h1 => wNoE (ht _ s1 v (S.toOk.step h1.1) h1.2) fun c s2 h2 => ⟨h1.1.trans h2.1, h2.2⟩) he

/-! the arguments of a call, the parts of a display -/
noncomputable def Evs (f : Fx) (Y : List Addr) (σ : Sg) (pos : Pos) (es : List Expr) (ds : List D) : Prop :=
  ∀ s, St f Y σ s → wpAny f.M f.A (spliced (backTo pos (starEach es f.env))) (fun vs s' => Mv [] s s' ∧ Reps (Y ++ f.X₀) s'.heap ds vs) NoE s
theorem Evs.nil {pos : Pos} : Evs f Y σ pos [] [] := fun s _ => args_nil ⟨.refl _ _, rfl⟩
theorem Evs.cons {pos : Pos} {e : Expr} {es : List Expr} {d : D} {ds : List D} (h : Ev f Y σ e d) (hs : Evs f Y σ pos es ds) (he : starEach (e :: es) f.env = (false, eval e f.env) :: starEach es f.env := by rfl) :
    Evs f Y σ pos (e :: es) (d :: ds) := fun s S =>
  args_cons (wNoE (h s S) fun v s1 h1 => wNoE (hs s1 (S.step h1.1)) fun vs s2 h2 => ⟨h1.1.trans h2.1, .cons (h1.2.keep h2.1.keep) h2.2⟩) he

/-! new objects -/
theorem Mv.push {s : Shared} {o : Obj} : Mv [] s { s with heap := s.heap.push o } := .heap' (.push _ _)
theorem fresh_none (h : Heap) : h.get? h.objs.size = none := by
  cases e : h.get? h.objs.size with
  | none => rfl
  | some o => exact absurd (Heap.lt_size e) (Nat.lt_irrefl _)
theorem newTup {X : List Addr} {s : Shared} {ds : List D} {vs : List Value} {Q : Value → Shared → Prop} (r : Reps X s.heap ds vs) (hz : ds.length ≤ sizeLine) {E : Value → Shared → Prop}
    (q : ∀ v s', Mv [] s s' → Rep X s'.heap (.tup ds) v → Q v s') : wpAny f.M f.A (newTuple vs) Q E s :=
  wpAny_newObj_type (q _ _ .push ⟨_, vs, rfl, ⟨_, Heap.get?_push_size _ rfl, rfl, _, rfl⟩, r.keep (.push _ _)⟩) (by
    show vs.toArray.size ≤ sizeLine
    rw [List.size_toArray, r.length]; exact hz)
theorem newLst {X : List Addr} {s : Shared} {ds : List D} {vs : List Value} {Q : Value → Shared → Prop} (S : Ok f X s) (r : Reps X s.heap ds vs) (hz : ds.length ≤ sizeLine) {E : Value → Shared → Prop}
    (q : ∀ v s', Mv [] s s' → Rep X s'.heap (.lst ds) v → Q v s') : wpAny f.M f.A (newList vs) Q E s :=
  wpAny_newObj_type (q _ _ .push ⟨_, vs, rfl, S.fresh (fresh_none _), ⟨_, Heap.get?_push_size _ rfl, rfl, _, rfl⟩, r.keep (.push _ _)⟩) (by
    show vs.toArray.size ≤ sizeLine
    rw [List.size_toArray, r.length]; exact hz)
theorem Ev.tuple {es : List Expr} {k : Nat} {pos : Pos} {ds : List D} (h : Evs f Y σ pos es ds) (hz : ds.length ≤ sizeLine := by exact Nat.le_of_ble_eq_true rfl) : Ev f Y σ (.Tuple es k pos) (.tup ds) := fun s S =>
  Tuple_ (wNoE (h s S) fun vs s1 h1 => newTup h1.2 hz fun v s' p q => ⟨h1.1.trans p, q⟩)
theorem Ev.list {es : List Expr} {pos : Pos} {ds : List D} (h : Evs f Y σ pos es ds) (hz : ds.length ≤ sizeLine := by exact Nat.le_of_ble_eq_true rfl) : Ev f Y σ (.List es pos) (.lst ds) := fun s S =>
  List_ (wNoE (h s S) fun vs s1 h1 => newLst (S.toOk.step h1.1) h1.2 hz fun v s' p q => ⟨h1.1.trans p, q⟩)

/-! subscripts -/
noncomputable def Sub (f : Fx) (a b c : D) : Prop := ∀ X s v u (value slice : Expr), Ok f X s → Rep X s.heap a v → Rep X s.heap b u →
  (∀ o i, subscripted slice false o i = operate [o, i] (getItem o i)) → wpAny f.M f.A (subscriptTail value slice v u) (fun r s' => Mv [] s s' ∧ Rep X s'.heap c r) NoE s
theorem Ev.sub {o i : Expr} {pos : Pos} {a b c : D} (ho : Ev f Y σ o a) (hi : Ev f Y σ i b) (hs : Sub f a b c) (hp : ∀ o' i', subscripted i false o' i' = operate [o', i'] (getItem o' i') := by intro _ _; rfl) :
    Ev f Y σ (.Subscript o i pos) c := fun s S =>
  Subscript_ (wNoE (ho s S) fun v s1 h1 => wNoE (hi s1 (S.step h1.1)) fun u s2 h2 => wNoE (hs _ s2 v u o i (S.toOk.step (h1.1.trans h2.1)) (h1.2.keep h2.1.keep) h2.2 hp) fun c s3 h3 => ⟨h1.1.trans (h2.1.trans h3.1), h3.2⟩)
/-! a slice: its two ends are ints or none -/
noncomputable def SliceOf (f : Fx) (a : D) (lo hi : Option Int) (c : D) : Prop := ∀ X s v vl vu (value slice : Expr), Ok f X s → Rep X s.heap a v → IsPart vl lo → IsPart vu hi →
  (∀ o i, subscripted slice false o i = operate [i, o] (getItem o i)) →
  wpAny f.M f.A (subscriptTail value slice v (.ref s.heap.objs.size)) (fun r s' => Mv [] s s' ∧ Rep X s'.heap c r) NoE { s with heap := s.heap.push { cls := .type "slice", data := .fields #[vl, vu, .none] } }

/-! calls of built-ins and of the program's defs -/
noncomputable def CallOf (f : Fx) (g : Value) (ds : List D) (d : D) : Prop :=
  ∀ X s vs, Ok f X s → (∀ y ∈ s.gens, y.bare = true) → Reps X s.heap ds vs → wpAny f.M f.A (call g vs) (fun r s' => Mv [] s s' ∧ Rep X s'.heap d r) NoE s
theorem blt_name {x : Str} {pos : Pos} {v : Value} {s : Shared} {Q : Value → Shared → Prop} {E : Value → Shared → Prop} (S : St f Y σ s) (hm : x ∈ blts) (hv : bootBuiltins x = some v) (hk : f.env.kindOf x = some .globalImplicit) (q : Q v s) (hd : (x == ("__debug__" : Str)) = false) :
    wpAny f.M f.A (eval (.Name x pos) f.env) Q E s := by
  obtain ⟨mg, mb, g1, g2, _, g4⟩ := f.B.glob
  obtain ⟨h1, h2⟩ := g4 x hm
  have g1' : s.heap.Ns f.env.globals mg := S.frm.glo ▸ g1.keeps S.base
  have g2' : s.heap.Ns f.env.builtins mb := S.frm.blt ▸ g2.keeps S.base
  exact Name_function_global S.frm.fn hk (loadGlobal_builtin g1' h1 g2' (h2.trans hv) q) hd
theorem Ev.callB {x : Str} {np pos : Pos} {id : String} {e : Expr} {es : List Expr} {ds : List D} {d : D} (hv : bootBuiltins x = some (.builtin id)) (h : Evs f Y σ pos (e :: es) ds) (hc : CallOf f (.builtin id) ds d) (hm : x ∈ blts := by decide)
    (hk : f.env.kindOf x = some .globalImplicit := by rfl) (hd : (x == ("__debug__" : Str)) = false := by decide)
    (he : starEach (e :: es) f.env = (false, eval e f.env) :: starEach es f.env := by rfl) (hp : (backTo pos (starEach es f.env)).any (·.1) = false := by rfl) :
    Ev f Y σ (.Call (.Name x np) (e :: es) [] pos) d := fun s S =>
  Call_ (blt_name S hm hv hk (callWith_builtin1 (wNoE (h s S) fun vs s1 h1 => wNoE (hc _ s1 vs (S.toOk.step h1.1) (h1.1.bare S.bare) h1.2) fun r s2 h2 => ⟨h1.1.trans h2.1, h2.2⟩) he hp) hd)
theorem Ev.callT {x : Str} {np pos : Pos} {T : String} {e : Expr} {es : List Expr} {ds : List D} {d : D} (hv : bootBuiltins x = some (.type T)) (h : Evs f Y σ pos (e :: es) ds) (hc : CallOf f (.type T) ds d) (hm : x ∈ blts := by decide)
    (hk : f.env.kindOf x = some .globalImplicit := by rfl) (hd : (x == ("__debug__" : Str)) = false := by decide)
    (he : starEach (e :: es) f.env = (false, eval e f.env) :: starEach es f.env := by rfl) (hp : (backTo pos (starEach es f.env)).any (·.1) = false := by rfl) :
    Ev f Y σ (.Call (.Name x np) (e :: es) [] pos) d := fun s S =>
  Call_ (blt_name S hm hv hk (PyProof.Rows.callWith_type1 (wNoE (h s S) fun vs s1 h1 => wNoE (hc _ s1 vs (S.toOk.step h1.1) (h1.1.bare S.bare) h1.2) fun r s2 h2 => ⟨h1.1.trans h2.1, h2.2⟩) he hp) hd)

/-! a def of the program: what it gives for what it is given -/
noncomputable def Spec (k : Nat) (i : Nat) (ds : List D) (d : D) : Prop := ∀ (f : Fx), k ≤ f.n → ∀ a o pm code doc, f.h₀.get? a = some o → o.data = .func (docDef (fn i).name (fn i).params (fn i).body (fn i).scope pm code doc) → f.h₀.CodeRec code (fn i).name → CallOf f (.ref a) ds d
theorem Ev.callF {k i : Nat} {x : Str} {np pos : Pos} {e : Expr} {es : List Expr} {ds : List D} {d : D} (hc : Spec k i ds d) (h : Evs f Y σ pos (e :: es) ds) (hk' : k ≤ f.n) (hx : (fn i).name = x) (hm : fn i ∈ defs)
    (hk : f.env.kindOf x = some .globalImplicit := by rfl) (hd : (x == ("__debug__" : Str)) = false := by decide)
    (he : starEach (e :: es) f.env = (false, eval e f.env) :: starEach es f.env := by rfl) :
    Ev f Y σ (.Call (.Name x np) (e :: es) [] pos) d := fun s S => by
  obtain ⟨mg, mb, g1, g2, g3, _⟩ := f.B.glob
  obtain ⟨a, o, pm, code, doc, q1, q2, q3, q4⟩ := g3 _ hm
  have g1' : s.heap.Ns f.env.globals mg := S.frm.glo ▸ g1.keeps S.base
  refine Call_ (Name_function_global S.frm.fn hk (loadGlobal_global g1' (hx ▸ q1) ?_) hd)
  refine callWith_def q3 (wNoE (h s S) fun vs s1 h1 => ⟨h1.1.keep.all _ _ (S.base _ _ q2), ?_⟩) he
  exact wNoE (hc f hk' a o pm code doc q2 q3 q4 _ s1 vs (S.toOk.step h1.1) (h1.1.bare S.bare) h1.2) fun r s2 h2 => ⟨h1.1.trans h2.1, h2.2⟩
end
end Mine

namespace Mine
open PySem PySem.Calls PyProof.Rows PySem.W

theorem ns_unique {h : Heap} {a : Addr} {m m' : Str → Option Value} (x : h.Ns a m) (y : h.Ns a m') : m = m' := by
  obtain ⟨o, es, ep, ho, hd, _, hm⟩ := x
  obtain ⟨o', es', ep', ho', hd', _, hm'⟩ := y
  rw [ho] at ho'; cases ho'
  rw [hd] at hd'; cases hd'
  funext z; rw [← hm z, ← hm' z]
theorem ns_nonseq {h : Heap} {a : Addr} {m : Str → Option Value} (x : h.Ns a m) {o : Obj} (e : h.get? a = some o) : ¬ isSeqObj o := by
  obtain ⟨o', es, ep, ho, hd, _⟩ := x
  rw [ho] at e; cases e
  rintro ⟨xs, n, q⟩
  rw [hd] at q; cases q
theorem cell_nonseq {h : Heap} {a : Addr} {v : Option Value} (x : h.IsCell a v) {o : Obj} (e : h.get? a = some o) : ¬ isSeqObj o := by
  obtain ⟨o', ho, hd⟩ := x
  rw [ho] at e; cases e
  rintro ⟨xs, n, q⟩
  rw [hd] at q; cases q
theorem cell_ne_ns {h : Heap} {a : Addr} {v : Option Value} {m : Str → Option Value} (x : h.IsCell a v) {b : Addr} (y : h.Ns b m) : a ≠ b := by
  rintro rfl
  obtain ⟨o', ho, hd⟩ := x
  obtain ⟨o, es, ep, ho', hd', _⟩ := y
  rw [ho] at ho'; cases ho'
  rw [hd] at hd'; cases hd'

/-! one object that is no list and no tuple is turned -/
theorem VRep.turn {X W : List Addr} {h h' : Heap} (k : KeepBut W h h') (ns : ∀ a ∈ W, ∀ o, h.get? a = some o → ¬ isSeqObj o) {d : VD} {v : Value} (r : VRep X h d v) : VRep X h' d v := by
  have sk : SeqKeep X h h' := fun b o _ hs ho => k b o (fun m => ns b m o ho hs) ho
  cases d with
  | im d => exact Rep.seq sk d v r
  | «mut» a l =>
    obtain ⟨e, m, vs, p, q⟩ := r
    refine ⟨e, m, vs, ?_, Reps.seq sk _ _ q⟩
    obtain ⟨n, p⟩ := p
    exact ⟨n, k a _ (fun m => ns a m _ p ⟨_, _, rfl⟩) p⟩

section
variable {f : Fx} {Y : List Addr} {σ : Sg}

/-! a state goes on where only W is turned, W apart from it -/
theorem St.turn {s s' : Shared} {W : List Addr} {G : List Nat} (S : St f Y σ s) (p : Mv W s s' G) (ns : ∀ a ∈ W, ∀ o, s.heap.get? a = some o → ¬ isSeqObj o)
    (n0 : ∀ a ∈ W, f.h₀.get? a = none) (nl : f.env.locals ∉ W) (nc : ∀ x c, (x, c) ∈ f.env.cells → c ∉ W) (nx : ∀ a ∈ W, a ∉ Y ++ f.X₀) : St f Y σ s' := by
  have kp : ∀ b o, f.h₀.get? b = some o → s'.heap.get? b = some o := fun b o e => p.keep b o (fun m => by rw [n0 b m] at e; cases e) (S.base b o e)
  refine ⟨⟨kp, fun a m => ?_⟩, S.off, ⟨S.frm.fn, ?_, fun x c e => ?_, S.frm.inj, S.frm.glo, S.frm.blt⟩, p.bare S.bare, fun a m => (let ⟨h, vs, q⟩ := S.ys a m; ⟨h, vs, q.at fun o e => p.keep a o (fun q => nx a q (List.mem_append_left _ m)) e⟩), fun x d e => ?_⟩
  · obtain ⟨o, e⟩ := S.xs a m
    exact ⟨o, p.keep a o (fun q => nx a q m) e⟩
  · obtain ⟨m, q⟩ := S.frm.ns
    exact ⟨m, q.at' fun o e => p.keep _ o nl e⟩
  · obtain ⟨v, o, q, r⟩ := S.frm.cells x c e
    exact ⟨v, o, p.keep _ o (nc x c e) q, r⟩
  · obtain ⟨v, H, r⟩ := S.vars x d e
    refine ⟨v, H.imp (fun ⟨a, m, b, c⟩ => ⟨a, m, b.at' fun o e => p.keep _ o nl e, c⟩) (fun ⟨a, c, b, o, q, r⟩ => ⟨a, c, b, o, p.keep _ o (nc x c (mem_of_lookup b)) q, r⟩), r.turn p.keep ns⟩

theorem own_seq {s : Shared} {h' : Heap} (S : St f Y σ s) (k : KeepBut (own f.env Y) s.heap h') : SeqKeep (Y ++ f.X₀) s.heap h' := .of k fun b o m e q => by
  rcases List.mem_cons.mp m with rfl | m
  · obtain ⟨_, hn⟩ := S.frm.ns; exact absurd q (ns_nonseq hn e)
  · rcases List.mem_append.mp m with m | m
    · obtain ⟨⟨x, c⟩, hm, rfl⟩ := List.mem_map.mp m
      obtain ⟨_, hc⟩ := S.frm.cells x c hm
      exact absurd q (cell_nonseq hc e)
    · obtain ⟨_, vs, n, hp⟩ := S.ys b m
      rw [hp] at e; cases e
      exact ⟨List.mem_append_left _ m, rfl⟩
theorem own_loc : f.env.locals ∈ own f.env Y := List.mem_cons_self
theorem own_cell {x : Str} {c : Addr} (h : f.env.cells.lookup x = some c) : c ∈ own f.env Y :=
  List.mem_cons_of_mem _ (List.mem_append_left _ (List.mem_map.mpr ⟨(x, c), mem_of_lookup h, rfl⟩))
theorem own_mut {a : Addr} (h : a ∈ Y) : a ∈ own f.env Y := List.mem_cons_of_mem _ (List.mem_append_right _ h)

/-! where a name may be stored -/
noncomputable def Put (env : Env) (x : Str) : Prop := env.kindOf x = some .local ∨ (env.kindOf x = some .cell ∧ (env.cells.lookup x).isSome = true)

theorem lookup_cons_ne {σ : Sg} {x y : Str} {d : VD} (h : y ≠ x) : List.lookup y ((x, d) :: σ) = σ.lookup y := by
  rw [List.lookup_cons]
  have : (y == x) = false := beq_eq_false_iff_ne.mpr h
  rw [this]
theorem lookup_cons_self {σ : Sg} {x : Str} {d : VD} : List.lookup x ((x, d) :: σ) = some d := by
  rw [List.lookup_cons]
  simp

noncomputable def PutW (env : Env) (W : List Addr) (x : Str) : Prop := (env.kindOf x = some .local ∧ env.locals ∈ W) ∨ (env.kindOf x = some .cell ∧ ∃ c, env.cells.lookup x = some c ∧ c ∈ W)
theorem storeW {x : Str} {v : Value} {d : VD} {s : Shared} {W : List Addr} (S : St f Y σ s) (hp : PutW f.env W x) (r : VRep (Y ++ f.X₀) s.heap d v) {Q : Unit → Shared → Prop} {E : Value → Shared → Prop}
    (q : ∀ s', St f Y ((x, d) :: σ) s' → Mv W s s' → Q () s') : wpAny f.M f.A (storeName f.env x v) Q E s := by
  obtain ⟨m, hn⟩ := S.frm.ns
  rcases hp with ⟨hk, hLW⟩ | ⟨hk, hc⟩
  · refine wpAny_storeName_local hk hn (fun h' hn' hs => ?_) (by rw [S.frm.fn]; rfl)
    have nsL : ∀ a ∈ [f.env.locals], ∀ o, s.heap.get? a = some o → ¬ isSeqObj o := fun a ma o e => by
      rw [List.mem_singleton.mp ma] at e; exact ns_nonseq hn e
    have kL : KeepBut [f.env.locals] s.heap h' := .same hs
    have cne : ∀ c v, s.heap.IsCell c v → h'.IsCell c v := fun c v ⟨o, ho, hd⟩ => ⟨o, hs.extBut c o (cell_ne_ns ⟨o, ho, hd⟩ hn) ho, hd⟩
    refine q _ ⟨⟨fun b o e => hs.extBut b o (fun q => by rw [q, S.off _ own_loc] at e; cases e) (S.base b o e), fun a ma => ?_⟩, S.off, ⟨S.frm.fn, ⟨_, hn'⟩, fun y c e => ?_, S.frm.inj, S.frm.glo, S.frm.blt⟩, S.bare, fun a m => (let ⟨h, vs, n, q⟩ := S.ys a m; ⟨h, vs, n, kL a _ (fun w => nsL a w _ q ⟨_, _, rfl⟩) q⟩), fun y d' e => ?_⟩ (.heap (kL.mono fun a ma => by rw [List.mem_singleton.mp ma]; exact hLW))
    · by_cases ha : a = f.env.locals
      · subst ha; obtain ⟨o, _, _, ho, _⟩ := hn'; exact ⟨o, ho⟩
      · obtain ⟨o, e⟩ := S.xs a ma; exact ⟨o, hs.extBut a o ha e⟩
    · obtain ⟨v, hv⟩ := S.frm.cells y c e; exact ⟨v, cne c v hv⟩
    · by_cases hy : y = x
      · subst hy
        rw [lookup_cons_self] at e; cases e
        exact ⟨v, .inl ⟨hk, _, hn', by simp⟩, r.turn kL nsL⟩
      · rw [lookup_cons_ne hy] at e
        obtain ⟨u, H, ru⟩ := S.vars y d' e
        refine ⟨u, H.imp (fun ⟨a, m', b, c⟩ => ⟨a, _, hn', ?_⟩) (fun ⟨a, c, b, g⟩ => ⟨a, c, b, cne c _ g⟩), ru.turn kL nsL⟩
        rw [if_neg hy, ns_unique hn b]; exact c
  · obtain ⟨c, hc, hcW⟩ := hc
    obtain ⟨v₀, hv₀⟩ := S.frm.cells x c (mem_of_lookup hc)
    refine wpAny_storeName_cell S.frm.fn hk hc hv₀ fun h' hv' hs => ?_
    have nsL : ∀ a ∈ [c], ∀ o, s.heap.get? a = some o → ¬ isSeqObj o := fun a ma o e => by
      rw [List.mem_singleton.mp ma] at e; exact cell_nonseq hv₀ e
    have kL : KeepBut [c] s.heap h' := .same hs
    have nL : f.env.locals ≠ c := fun e => cell_ne_ns hv₀ hn e.symm
    have cne : ∀ y c' v, y ≠ x → s.heap.IsCell c' v → f.env.cells.lookup y = some c' → h'.IsCell c' v := fun y c' v hy ⟨o, ho, hd⟩ hl =>
      ⟨o, hs.extBut c' o (fun q => hy (S.frm.inj y x c (q ▸ hl) hc)) ho, hd⟩
    have hn' : h'.Ns f.env.locals m := hn.at' fun o e => hs.extBut _ o nL e
    refine q _ ⟨⟨fun b o e => hs.extBut b o (fun q => by rw [q, S.off _ (own_cell hc)] at e; cases e) (S.base b o e), fun a ma => ?_⟩, S.off, ⟨S.frm.fn, ⟨_, hn'⟩, fun y c' e => ?_, S.frm.inj, S.frm.glo, S.frm.blt⟩, S.bare, fun a m => (let ⟨h, vs, n, q⟩ := S.ys a m; ⟨h, vs, n, kL a _ (fun w => nsL a w _ q ⟨_, _, rfl⟩) q⟩), fun y d' e => ?_⟩ (.heap' (kL.mono fun a ma => by rw [List.mem_singleton.mp ma]; exact hcW))
    · by_cases ha : a = c
      · subst ha; obtain ⟨o, ho, _⟩ := hv'; exact ⟨o, ho⟩
      · obtain ⟨o, e⟩ := S.xs a ma; exact ⟨o, hs.extBut a o ha e⟩
    · by_cases hy : c' = c
      · subst hy; exact ⟨_, hv'⟩
      · obtain ⟨v, o, ho, hd⟩ := S.frm.cells y c' e; exact ⟨v, o, hs.extBut c' o hy ho, hd⟩
    · by_cases hy : y = x
      · subst hy
        rw [lookup_cons_self] at e; cases e
        exact ⟨v, .inr ⟨.inl hk, c, hc, hv'⟩, r.turn kL nsL⟩
      · rw [lookup_cons_ne hy] at e
        obtain ⟨u, H, ru⟩ := S.vars y d' e
        refine ⟨u, H.imp (fun ⟨a, m', b, g⟩ => ⟨a, m', b.at' fun o e => hs.extBut _ o nL e, g⟩) (fun ⟨a, c', b, g⟩ => ⟨a, c', b, cne y c' _ hy g b⟩), ru.turn kL nsL⟩

theorem Put.w {x : Str} (h : Put f.env x) : PutW f.env (own f.env Y) x := h.imp (fun h => ⟨h, own_loc⟩) fun ⟨h, k⟩ => by
  obtain ⟨c, hc⟩ := Option.isSome_iff_exists.mp k
  exact ⟨h, c, hc, own_cell hc⟩
theorem store {x : Str} {v : Value} {d : VD} {s : Shared} (S : St f Y σ s) (hp : Put f.env x) (r : VRep (Y ++ f.X₀) s.heap d v) {Q : Unit → Shared → Prop} {E : Value → Shared → Prop}
    (q : ∀ s', St f Y ((x, d) :: σ) s' → Mv (own f.env Y) s s' → Q () s') : wpAny f.M f.A (storeName f.env x v) Q E s := storeW S hp.w r q

/-! blocks -/
theorem Ex.nil {Q : Post} (q : Q .next Y σ) : Ex f Y σ [] Q := fun s S => wpAny_execs_nil ⟨.next, Y, σ, rfl, S, .refl _ _, fun a m => .inl m, q⟩
theorem Mv.own2 {Y' : List Addr} {s s' s'' : Shared} (a : Mv (own f.env Y) s s') (b : Mv (own f.env Y') s' s'') (y : ∀ a, a ∈ Y' → a ∈ Y ∨ s.heap.get? a = none) : Mv (own f.env Y) s s'' :=
  a.since b (fun x m => by
    rcases List.mem_cons.mp m with rfl | m
    · exact .inl own_loc
    · rcases List.mem_append.mp m with m | m
      · exact .inl (List.mem_cons_of_mem _ (List.mem_append_left _ m))
      · exact (y x m).imp own_mut id) (fun _ m => nomatch m)
theorem y_of {Y' : List Addr} {σ' : Sg} {s s' : Shared} {a : Addr} {o : Obj} (S : St f Y σ s) (S' : St f Y' σ' s') (p : Mv (own f.env Y) s s') (e : s.heap.get? a = some o) (m : s'.heap.get? a = none) : a ∈ Y := by
  by_cases q : a ∈ own f.env Y
  · rcases List.mem_cons.mp q with rfl | q
    · obtain ⟨_, o', _, _, ho, _⟩ := S'.frm.ns
      rw [m] at ho; cases ho
    · rcases List.mem_append.mp q with q | q
      · obtain ⟨⟨x, c⟩, hm, rfl⟩ := List.mem_map.mp q
        obtain ⟨v, o', ho, _⟩ := S'.frm.cells x c hm
        rw [m] at ho; cases ho
      · exact q
  · have := p.keep a o q e
    rw [m] at this; cases this
theorem Ex.cons {st : Stmt} {rest : List Stmt} {Q : Post} (h : Ex1 f Y σ st fun r Y' σ' => match r with | .next => Ex f Y' σ' rest Q | r => Q r Y' σ') : Ex f Y σ (st :: rest) Q := fun s S => by
  refine wpAny_execs_cons (wNoE (h s S) fun fl s1 h1 => ?_)
  obtain ⟨r, Y', σ', hr, S', p, y, q⟩ := h1
  cases r with
  | next =>
    cases hr
    refine wNoE (q s1 S') fun fl2 s2 h2 => ?_
    obtain ⟨r2, Y2, σ2, hr2, S2, p2, y2, q2⟩ := h2
    refine ⟨r2, Y2, σ2, hr2, S2, p.own2 p2 y, fun a m => ?_, q2⟩
    rcases y2 a m with m | m
    · exact y a m
    by_cases nY : a ∈ Y
    · exact .inl nY
    · right
      cases e : s.heap.get? a with
      | none => rfl
      | some o =>
        exfalso
        refine nY (y_of S S' p e m)
  | brk => cases hr; exact ⟨.brk, Y', σ', rfl, S', p, y, q⟩
  | cont => cases hr; exact ⟨.cont, Y', σ', rfl, S', p, y, q⟩
  | ret d => obtain ⟨v, rfl, hv⟩ := hr; exact ⟨.ret d, Y', σ', ⟨v, rfl, hv⟩, S', p, y, q⟩
end
end Mine

namespace Mine
open PySem PySem.Calls PyProof.Rows PySem.W
section
variable {f : Fx} {Y : List Addr} {σ : Sg}

theorem Ex1.ret_ {s s' : Shared} {Q : Post} {r : R} {σ' : Sg} {fl : Flow} (S : St f Y σ' s') (p : Mv (own f.env Y) s s') (hr : FR (Y ++ f.X₀) s'.heap r fl) (q : Q r Y σ') : ExR f Y s Q fl s' :=
  ⟨r, Y, σ', hr, S, p, fun a m => .inl m, q⟩

/-! x = e -/
theorem Ex1.assign {x : Str} {p' pos : Pos} {e : Expr} {d : D} {Q : Post} (h : Ev f Y σ e d) (q : Q .next Y ((x, .im d) :: σ)) (hp : Put f.env x := by first | exact .inl rfl | exact .inr ⟨rfl, rfl⟩)
    (hs : swapsWith e (some (.Name x p')) pos.line f.env = pure false := by rfl) : Ex1 f Y σ (.Assign [.Name x p'] e pos) Q := fun s S =>
  wpAny_Assign_Name (wNoE (h s S) fun v s1 h1 => store (d := .im d) (S.step h1.1) hp h1.2 fun s2 S2 p2 => Ex1.ret_ (r := .next) S2 (h1.1.wide.trans p2) rfl q) hs
/-! x = [] where x is to grow -/
theorem Ex1.newMut {x : Str} {p' lp pos : Pos} {Q : Post} (q : ∀ a, Q .next (a :: Y) ((x, .mut a []) :: σ)) (hp : Put f.env x := by first | exact .inl rfl | exact .inr ⟨rfl, rfl⟩)
    (hs : swapsWith (.List [] lp) (some (.Name x p')) pos.line f.env = pure false := by rfl) : Ex1 f Y σ (.Assign [.Name x p'] (.List [] lp) pos) Q := fun s S => by
  refine wpAny_Assign_Name (List_ (args_nil (wpAny_newObj_type ?_))) hs
  have nn := fresh_none s.heap
  generalize ha : s.heap.objs.size = a at nn
  have ga : (s.heap.push { cls := .type "list", data := .seq ([] : List Value).toArray }).get? a = some { cls := .type "list", data := .seq ([] : List Value).toArray } := by
    rw [← ha]; exact Heap.get?_push_size _ rfl
  have S1 : St f (a :: Y) σ { s with heap := s.heap.push { cls := .type "list", data := .seq ([] : List Value).toArray } } := by
    have k : ∀ b o, s.heap.get? b = some o → (s.heap.push { cls := .type "list", data := .seq ([] : List Value).toArray }).get? b = some o := fun b o e => Heap.get?_push_of_some _ e
    refine ⟨⟨fun b o e => k _ _ (S.base b o e), fun b m => ?_⟩, fun b m => ?_, S.frm.keep k, S.bare, fun b m => ?_, fun y d e => ?_⟩
    · rcases List.mem_cons.mp m with rfl | m
      · exact ⟨_, ga⟩
      · obtain ⟨o, e⟩ := S.xs b m; exact ⟨o, k _ _ e⟩
    · by_cases q : b = a
      · subst q
        cases e : f.h₀.get? b with
        | none => rfl
        | some o => have := S.base b o e; rw [nn] at this; cases this
      · refine S.off b ?_
        rcases List.mem_cons.mp m with rfl | m
        · exact own_loc
        · rcases List.mem_append.mp m with m | m
          · exact List.mem_cons_of_mem _ (List.mem_append_left _ m)
          · exact own_mut ((List.mem_cons.mp m).resolve_left q)
    · rcases List.mem_cons.mp m with rfl | m
      · exact ⟨(fun q => by obtain ⟨o, e⟩ := S.xs b (List.mem_append_right _ q); rw [nn] at e; cases e), _, _, ga⟩
      · obtain ⟨h, vs, n, p⟩ := S.ys b m; exact ⟨h, vs, n, k _ _ p⟩
    · obtain ⟨v, H, r⟩ := S.vars y d e
      refine ⟨v, H.keep k, ?_⟩
      cases d with
      | im d => exact Rep.keep (.push _ _) (Rep.apart nn d v r)
      | «mut» b l =>
        obtain ⟨e, m, vs, p, q⟩ := r
        exact ⟨e, List.mem_cons_of_mem _ m, vs, p.at fun o e => k _ o e, (Reps.apart nn _ _ q).keep (.push _ _)⟩
  refine store S1 hp (d := .mut a []) ⟨rfl, by simp, [], ⟨0, ga⟩, rfl⟩ fun s2 S2 p2 => ?_
  refine ⟨.next, a :: Y, _, rfl, S2, (Mv.push.wide (G := [])).since p2 (fun x m => ?_) (fun _ m => nomatch m), fun b m => ?_, q a⟩
  · rcases List.mem_cons.mp m with rfl | m
    · exact .inl own_loc
    · rcases List.mem_append.mp m with m | m
      · exact .inl (List.mem_cons_of_mem _ (List.mem_append_left _ m))
      · rcases List.mem_cons.mp m with rfl | m
        · exact .inr nn
        · exact .inl (own_mut m)
  · rcases List.mem_cons.mp m with rfl | m
    · exact .inr nn
    · exact .inl m

/-! x.append(e) -/
theorem Ex1.append {x : Str} {np apos cpos epos : Pos} {e : Expr} {a : Addr} {l : List D} {d : D} {Q : Post} (h : Ev f Y σ e d) (hx : σ.lookup x = some (.mut a l)) (q : Q .next Y ((x, .mut a (l ++ [d])) :: σ)) (hz : l.length ≤ sizeLine)
    (only : ∀ y b l', y ≠ x → σ.lookup y ≠ some (.mut b l')) (ha : a ∈ Y)
    (hi : interactive f.env = false := by rfl) (hd : (x == ("__debug__" : Str)) = false := by decide) (hn : (x == ("__classdict__" : Str)) = false := by decide)
    (hb : attributeBase (.Name x np) "append" f.env (eval (.Name x np) f.env) = eval (.Name x np) f.env := by rfl)
    (he : starEach [e] f.env = [(false, eval e f.env)] := by rfl)
    (hm : ∃ pl : Sem Bool, eval (.Call (.Attribute (.Name x np) "append" apos) [e] [] cpos) f.env = (do
      let ov ← eval (.Name x np) f.env
      standAt apos.atName
      let (f', first) ← holding [ov] (getMethod ov "append" pl)
      callWith cpos f' first (backTo cpos (starEach [e] f.env)) []) := by exact ⟨_, rfl⟩) :
    Ex1 f Y σ (.Expr (.Call (.Attribute (.Name x np) "append" apos) [e] [] cpos) epos) Q := fun s S => by
  obtain ⟨v, H, r, am, vs, P, R⟩ := S.vars x _ hx
  subst r
  obtain ⟨pl, hm⟩ := hm
  obtain ⟨c, hP⟩ := P
  refine wpAny_Expr (MethodCall_ (pl := pl) (wpAny_Name (loadName_holds S.frm H hn ?_) hd) hm) hi (by rfl)
  refine getMethod_list_append hP rfl rfl ?_
  refine callWith_method1 (args_cons (wNoE (h s S) fun u s1 h1 => args_nil ?_) he) he
  have S1 := S.step h1.1
  refine wpAny_list_append_plain (items := vs.toArray) ⟨c, h1.1.keep.all _ _ hP⟩ (fun h' hl hs => ?_) (by rw [List.size_toArray, R.length]; exact hz)
  have ca : s1.heap.get? a = some { cls := .type "list", data := .seq vs.toArray c } := h1.1.keep.all _ _ hP
  have sk : SeqKeep (Y ++ f.X₀) s1.heap h' := .of (W := [a]) (.same hs) fun b o m e _ => by
    rw [List.mem_singleton.mp m] at e ⊢
    rw [ca] at e; cases e
    exact ⟨List.mem_append_left _ ha, rfl⟩
  have kk : ∀ b o, (∀ xs n, o.data ≠ .seq xs n) → s1.heap.get? b = some o → h'.get? b = some o := fun b o nd e => hs.extBut b o (fun q => by rw [q, ca] at e; cases e; exact nd _ _ rfl) e
  have hkN : ∀ b m, s1.heap.Ns b m → h'.Ns b m := fun b m ⟨o, es, ep, ho, hd, r⟩ => ⟨o, es, ep, kk b o (fun _ _ q => by rw [hd] at q; cases q) ho, hd, r⟩
  have hkC : ∀ b v, s1.heap.IsCell b v → h'.IsCell b v := fun b v ⟨o, ho, hd⟩ => ⟨o, kk b o (fun _ _ q => by rw [hd] at q; cases q) ho, hd⟩
  refine Ex1.ret_ (σ' := (x, .mut a (l ++ [d])) :: σ) (r := .next) ⟨⟨fun b o e => ?_, fun b m => ?_⟩, S.off, ⟨S.frm.fn, ?_, fun y c' e => ?_, S.frm.inj, S.frm.glo, S.frm.blt⟩, S1.bare, fun b m => ?_, fun y d' e => ?_⟩ (h1.1.wide.trans (.heap' ((KeepBut.same hs).mono fun b m => by rw [List.mem_singleton.mp m]; exact own_mut ha))) rfl q
  · exact hs.extBut b o (fun q => by rw [q, S.off _ (own_mut ha)] at e; cases e) (S1.base b o e)
  · by_cases q : b = a
    · subst q; obtain ⟨n, e⟩ := hl; exact ⟨_, e⟩
    · obtain ⟨o, e⟩ := S1.xs b m; exact ⟨o, hs.extBut b o q e⟩
  · obtain ⟨m, q⟩ := S1.frm.ns; exact ⟨m, hkN _ _ q⟩
  · obtain ⟨v, q⟩ := S1.frm.cells y c' e; exact ⟨v, hkC _ _ q⟩
  · by_cases q : b = a
    · subst q; exact ⟨(S.ys b m).1, _, hl⟩
    · obtain ⟨h, vs, n, p⟩ := S1.ys b m; exact ⟨h, vs, n, hs.extBut b _ q p⟩
  · by_cases hy : y = x
    · subst hy
      rw [lookup_cons_self] at e; cases e
      obtain ⟨v, H', r', _⟩ := S1.vars y _ hx
      subst r'
      refine ⟨.ref a, H'.imp (fun ⟨a, m, b, c⟩ => ⟨a, m, hkN _ _ b, c⟩) (fun ⟨a, c, b, g⟩ => ⟨a, c, b, hkC _ _ g⟩), rfl, am, vs ++ [u], by simpa using hl, ?_⟩
      exact ((R.keep h1.1.keep).append (.cons h1.2 .nil)) |> Reps.seq sk _ _
    · rw [lookup_cons_ne hy] at e
      obtain ⟨v, H', r'⟩ := S1.vars y d' e
      refine ⟨v, H'.imp (fun ⟨a, m, b, c⟩ => ⟨a, m, hkN _ _ b, c⟩) (fun ⟨a, c, b, g⟩ => ⟨a, c, b, hkC _ _ g⟩), ?_⟩
      cases d' with
      | im d' => exact Rep.seq sk _ _ r'
      | «mut» b l' => exact absurd e (only y b l' hy)

/-! x += e and its kin -/
theorem Ex1.aug {x : Str} {p' pos : Pos} {op : Operator} {e : Expr} {a b c : D} {Q : Post} (hx : σ.lookup x = some (.im a)) (h : Ev f Y σ e b) (hb : Bin f (inplaceOp op) a b c) (q : Q .next Y ((x, .im c) :: σ))
    (hp : Put f.env x := by first | exact .inl rfl | exact .inr ⟨rfl, rfl⟩) (hn : (x == ("__classdict__" : Str)) = false := by decide) : Ex1 f Y σ (.AugAssign (.Name x p') op e pos) Q := fun s S => by
  obtain ⟨v, H, r⟩ := S.vars x _ hx
  refine wpAny_AugAssign_Name (loadName_holds S.frm H hn (wNoE (h s S) fun u s1 h1 => wNoE (hb _ s1 v u (S.toOk.step h1.1) (Rep.keep h1.1.keep r) h1.2) fun c s2 h2 => ?_))
  exact store (d := .im _) (S.step (h1.1.trans h2.1)) hp h2.2 fun s3 S3 p3 => Ex1.ret_ (r := .next) S3 ((h1.1.trans h2.1).wide.trans p3) rfl q

theorem ExR.after {s s1 s' : Shared} {Q : Post} {fl : Flow} (p : Mv [] s s1) (h : ExR f Y s1 Q fl s') : ExR f Y s Q fl s' := by
  obtain ⟨r, Y', σ', hr, S', p', y, q⟩ := h
  refine ⟨r, Y', σ', hr, S', p.wide.trans p', fun a m => (y a m).imp id fun n => ?_, q⟩
  cases e : s.heap.get? a with
  | none => rfl
  | some o => rw [p.keep.all a o e] at n; cases n
theorem ExR.mono {s s' : Shared} {Q Q' : Post} {fl : Flow} (h : ExR f Y s Q fl s') (k : ∀ r Y' σ', Q r Y' σ' → Q' r Y' σ') : ExR f Y s Q' fl s' := by
  obtain ⟨r, Y', σ', hr, S', p', y, q⟩ := h
  exact ⟨r, Y', σ', hr, S', p', y, k _ _ _ q⟩
theorem Ex.mono {ss : List Stmt} {Q Q' : Post} (h : Ex f Y σ ss Q) (k : ∀ r Y' σ', Q r Y' σ' → Q' r Y' σ') : Ex f Y σ ss Q' := fun s S => wNoE (h s S) fun fl s' x => x.mono k
theorem Ex.forget {ss : List Stmt} {Q : Post} {σ' : Sg} (h : Ex f Y σ' ss Q) (k : ∀ x d, σ'.lookup x = some d → σ.lookup x = some d) : Ex f Y σ ss Q := fun s S => h s (S.forget k)

theorem Ex1.if_ {t : Expr} {body orelse : List Stmt} {pos : Pos} {b : Bool} {Q : Post} (ht : Tt f Y σ t b) (h1 : b = true → Ex f Y σ body Q) (h2 : b = false → Ex f Y σ orelse Q) : Ex1 f Y σ (.If t body orelse pos) Q := fun s S =>
  wpAny_If (wNoE (ht s S) fun c s1 h => by
    obtain ⟨p, rfl⟩ := h
    cases c with
    | true => exact wNoE (h1 rfl s1 (S.step p)) fun fl s' x => x.after p
    | false => exact wNoE (h2 rfl s1 (S.step p)) fun fl s' x => x.after p)

theorem St.bareEnd {s : Shared} (S : St f Y σ s) : St f [] [] s :=
  ⟨⟨S.base, fun a m => S.xs a (List.mem_append_right _ (by simpa using m))⟩, fun a m => S.off a (by
    rcases List.mem_cons.mp m with rfl | m
    · exact own_loc
    · exact List.mem_cons_of_mem _ (List.mem_append_left _ (by simpa using m))), S.frm, S.bare, fun _ m => (nomatch m), fun x d e => by simp at e⟩
theorem Ex1.ret {e : Expr} {pos : Pos} {d : D} {Q : Post} (h : Ev f Y σ e d) (q : Q (.ret d) [] []) : Ex1 f Y σ (.Return (some e) pos) Q := fun s S =>
  wpAny_Return_some (wNoE (h s S) fun v s1 h1 => ⟨.ret d, [], [], ⟨v, rfl, Rep.sub (fun a m => List.mem_append_right _ (by simpa using m)) d v h1.2⟩, (S.step h1.1).bareEnd, h1.1.wide, fun _ m => (nomatch m), q⟩)
theorem Ex1.retMut {x : Str} {np pos : Pos} {a : Addr} {l : List D} {Q : Post} (hx : σ.lookup x = some (.mut a l)) (q : Q (.ret (.lst l)) [] []) (ha : a ∈ Y)
    (hd : (x == ("__debug__" : Str)) = false := by decide) (hn : (x == ("__classdict__" : Str)) = false := by decide) : Ex1 f Y σ (.Return (some (.Name x np)) pos) Q := fun s S => by
  obtain ⟨v, H, r, am, vs, P, R⟩ := S.vars x _ hx
  refine wpAny_Return_some (nameMut S hx ⟨.ret (.lst l), [], [], ⟨.ref a, rfl, a, vs, rfl, ?_, P.isList, ?_⟩, S.bareEnd, .refl _ _, fun _ m => (nomatch m), q⟩ hd hn)
  · exact fun m => (S.ys a ha).1 (by simpa using m)
  · exact Reps.sub (fun b m => List.mem_append_right _ (by simpa using m)) _ _ R

/-! while, by a word and a measure -/
theorem Ex1.while_ {t : Expr} {body : List Stmt} {pos : Pos} {Q : Post} (I : Nat → Sg → Prop) (n : Nat) (h : I n σ)
    (step : ∀ n σ', I n σ' → ∃ b, Tt f Y σ' t b ∧ (b = true → Ex f Y σ' body fun r Y' σ'' => match r with
      | .next | .cont => Y' = Y ∧ ∃ m, m < n ∧ I m σ''
      | .brk => Q .next Y' σ''
      | .ret d => Q (.ret d) Y' σ'') ∧ (b = false → Q .next Y σ')) : Ex1 f Y σ (.While t body [] pos) Q := fun s S => by
  refine wpAny_While ?_
  refine codeAny_whileLoop (fun n s' => ∃ σ', St f Y σ' s' ∧ I n σ' ∧ Mv (own f.env Y) s s') ?_ n ⟨σ, S, h, .refl _ _⟩
  rintro n s1 ⟨σ1, S1, hI, p1⟩
  obtain ⟨b, ht, hb, hq⟩ := step n σ1 hI
  refine wNoE (ht s1 S1) fun c s2 h2 => ?_
  obtain ⟨p2, rfl⟩ := h2
  have S2 := S1.step p2
  cases c with
  | false => exact wpAny_execs_nil (Ex1.ret_ (r := .next) S2 (p1.trans p2.wide) rfl (hq rfl))
  | true =>
    refine wNoE (hb rfl s2 S2) fun fl s3 h3 => ?_
    obtain ⟨r, Y', σ', hr, S', p', y, q⟩ := h3
    have p13 := (p1.trans p2.wide).trans p'
    cases r with
    | next => cases hr; obtain ⟨rfl, m, hm, hI'⟩ := q; exact ⟨m, hm, σ', S', hI', p13⟩
    | cont => cases hr; obtain ⟨rfl, m, hm, hI'⟩ := q; exact ⟨m, hm, σ', S', hI', p13⟩
    | brk => cases hr; exact ⟨.next, Y', σ', rfl, S', p13, fun a m => (y a m).elim .inl fun n => (Classical.em (a ∈ Y)).elim .inl fun nY => .inr (by
        cases e : s.heap.get? a with
        | none => rfl
        | some o => exact absurd (y_of S S2 (p1.trans p2.wide) e n) nY), q⟩
    | ret d => obtain ⟨v, rfl, hv⟩ := hr; exact ⟨.ret d, Y', σ', ⟨v, rfl, hv⟩, S', p13, fun a m => (y a m).elim .inl fun n => (Classical.em (a ∈ Y)).elim .inl fun nY => .inr (by
        cases e : s.heap.get? a with
        | none => rfl
        | some o => exact absurd (y_of S S2 (p1.trans p2.wide) e n) nY), q⟩

/-! targets: a name, or names in a row -/
noncomputable def namesOf : List Expr → Option (List Str)
  | [] => some []
  | .Name x _ :: r => (namesOf r).map (x :: ·)
  | _ => none
noncomputable def bindAll : List Str → List D → Sg → Sg
  | x :: xs, d :: ds, σ => bindAll xs ds ((x, .im d) :: σ)
  | _, _, σ => σ
/-! what a target makes of a datum -/
noncomputable def tgt : Expr → D → Sg → Option Sg
  | .Name x _, d, σ => some ((x, .im d) :: σ)
  | .Tuple es _ _, .tup ds, σ => (namesOf es).bind fun xs => if xs.length = ds.length then some (bindAll xs ds σ) else none
  | _, _, _ => none
noncomputable def tgtOk (env : Env) : Expr → Prop
  | .Name x _ => Put env x
  | .Tuple es _ _ => ∀ xs, namesOf es = some xs → ∀ x ∈ xs, Put env x
  | _ => False

theorem assignEach_Name (x : Str) (p : Pos) (r : List Expr) (env : Env) : assignEach (.Name x p :: r) env = (false, assign (.Name x p) env) :: assignEach r env := rfl
theorem namesOf_cons {e : Expr} {r : List Expr} {xs : List Str} (h : namesOf (e :: r) = some xs) : ∃ x p ys, e = .Name x p ∧ namesOf r = some ys ∧ xs = x :: ys := by
  cases e with
  | Name x p =>
    simp only [namesOf, Option.map_eq_some_iff] at h
    obtain ⟨ys, hy, rfl⟩ := h
    exact ⟨x, p, ys, rfl, hy, rfl⟩
  | _ => cases h
theorem assignEach_names {env : Env} : ∀ (es : List Expr) (xs : List Str), namesOf es = some xs → (assignEach es env).length = xs.length ∧ (assignEach es env).findIdx? (·.1) = none := by
  intro es
  induction es with
  | nil => intro xs h; cases h; exact ⟨rfl, rfl⟩
  | cons e r ih =>
    intro xs h
    obtain ⟨x, p, ys, rfl, hy, rfl⟩ := namesOf_cons h
    obtain ⟨h1, h2⟩ := ih ys hy
    rw [assignEach_Name]
    exact ⟨by simp [h1], by rw [List.findIdx?_cons, h2]; rfl⟩
theorem assign_names {W : List Addr} (hW : ∀ a ∈ W, a ∈ own f.env Y) : ∀ (es : List Expr) (xs : List Str), namesOf es = some xs → (∀ x ∈ xs, PutW f.env W x) → ∀ {ds : List D} {vs : List Value} {σ : Sg} {s : Shared}, xs.length = ds.length → St f Y σ s → Reps (Y ++ f.X₀) s.heap ds vs →
    ∀ {Q : Unit → Shared → Prop} {E : Value → Shared → Prop}, (∀ s', St f Y (bindAll xs ds σ) s' → Mv W s s' → Q () s') → wpAny f.M f.A (assignInOrder ((assignEach es f.env).map (·.2)) vs) Q E s := by
  intro es
  induction es with
  | nil =>
    intro xs h _ ds vs σ s hl S r Q E q
    cases h
    have : ds = [] := by simpa using hl.symm
    subst this; cases r
    exact wpAny_pure (q s S (.refl _ _))
  | cons e r ih =>
    intro xs h hp ds vs σ s hl S rs Q E q
    obtain ⟨x, p, ys, rfl, hy, rfl⟩ := namesOf_cons h
    cases ds with
    | nil => simp at hl
    | cons d ds =>
      obtain ⟨v, vs', rfl, hv, hr⟩ := rs
      rw [assignEach_Name]
      show wpAny f.M f.A (do holding vs' (assign (.Name x p) f.env v); assignInOrder ((assignEach r f.env).map (·.2)) vs') Q E s
      refine wpAny_bind (wpAny_holding (wpAny_assign_Name (storeW (d := .im d) S (hp x (by simp)) hv fun s1 S1 p1 => ?_)))
      exact ih ys hy (fun y m => hp y (List.mem_cons_of_mem _ m)) (by simpa using hl) S1 (Reps.seq (own_seq S (p1.keep.mono hW)) _ _ hr) fun s2 S2 p2 => q s2 S2 (p1.trans p2)
noncomputable def tgtOkW (env : Env) (W : List Addr) : Expr → Prop
  | .Name x _ => PutW env W x
  | .Tuple es _ _ => ∀ xs, namesOf es = some xs → ∀ x ∈ xs, PutW env W x
  | _ => False
theorem assign_tgtW {W : List Addr} (hW : ∀ a ∈ W, a ∈ own f.env Y) {t : Expr} {d : D} {v : Value} {σ σ' : Sg} {s : Shared} (S : St f Y σ s) (r : Rep (Y ++ f.X₀) s.heap d v) (h : tgt t d σ = some σ') (ok : tgtOkW f.env W t) {Q : Unit → Shared → Prop} {E : Value → Shared → Prop}
    (q : ∀ s', St f Y σ' s' → Mv W s s' → Q () s') : wpAny f.M f.A (assign t f.env v) Q E s := by
  cases t with
  | Name x p =>
    simp only [tgt, Option.some.injEq] at h
    subst h
    exact wpAny_assign_Name (storeW (d := .im d) S ok r q)
  | Tuple es k p =>
    cases d with
    | tup ds =>
      obtain ⟨a, vs, rfl, hT, hr⟩ := r
      cases hn : namesOf es with
      | none => simp only [tgt, hn, Option.bind_none] at h; cases h
      | some xs =>
        simp only [tgt, hn, Option.bind_some] at h
        split at h
        · rename_i hl
          cases h
          obtain ⟨e1, e2⟩ := assignEach_names (env := f.env) es xs hn
          refine wpAny_assign_Tuple f.hh hT (by rw [e1, hl, ← hr.length]; simp) e2 fun h' he => ?_
          have k : ∀ b o, s.heap.get? b = some o → h'.get? b = some o := fun b o e => he b o (Nat.ne_of_lt (Heap.lt_size e)) e
          have p : Mv [] s { s with heap := h' } := .heap' (.of_all k)
          exact assign_names hW es xs hn (ok xs hn) hl (S.step p) (hr.keep p.keep) fun s2 S2 p2 => q s2 S2 (p.wide.trans p2)
        · cases h
    | _ => simp only [tgt] at h; cases h
  | _ => simp only [tgt] at h; cases h
theorem assign_tgt {t : Expr} {d : D} {v : Value} {σ σ' : Sg} {s : Shared} (S : St f Y σ s) (r : Rep (Y ++ f.X₀) s.heap d v) (h : tgt t d σ = some σ') (ok : tgtOk f.env t) {Q : Unit → Shared → Prop} {E : Value → Shared → Prop}
    (q : ∀ s', St f Y σ' s' → Mv (own f.env Y) s s' → Q () s') : wpAny f.M f.A (assign t f.env v) Q E s :=
  assign_tgtW (fun _ m => m) S r h (by cases t <;> first | exact (show Put _ _ from ok).w | exact fun xs h x m => (ok xs h x m).w | exact ok) q

/-! a, b = e where e gives a tuple -/
theorem Ex1.unpack {es : List Expr} {k : Nat} {tp pos : Pos} {e : Expr} {d : D} {σ' : Sg} {Q : Post} (h : Ev f Y σ e d) (ht : tgt (.Tuple es k tp) d σ = some σ') (ok : tgtOk f.env (.Tuple es k tp)) (q : Q .next Y σ')
    (hs : swapsWithSole [.Tuple es k tp] e pos.line f.env = pure false := by rfl) (hw : swappedStores [.Tuple es k tp] e f.env = pure none := by rfl) : Ex1 f Y σ (.Assign [.Tuple es k tp] e pos) Q := fun s S =>
  Assign_Tuple (wNoE (h s S) fun v s1 h1 => assign_tgt (S.step h1.1) h1.2 ht ok fun s2 S2 p2 => Ex1.ret_ (r := .next) S2 (h1.1.wide.trans p2) rfl q) hs hw
end
end Mine

namespace Mine
open PySem PySem.Calls PyProof.Rows PySem.W

/-! what an iterator feeds: hs, the heap before it was made; W, what its user writes; h₀, what always stays -/
noncomputable def Foot (hs : Heap) (W : List Addr) (h : Heap) (fp : List Addr) : Prop := ∀ a ∈ fp, hs.get? a = none ∧ a ∉ W ∧ ∀ o, h.get? a = some o → ¬ isSeqObj o
structure Feed (h₀ hs : Heap) (w : World) (A : Around) (X W : List Addr) (it : Value) (G : List Nat) (ds : List D) (P : Nat → Shared → Prop) : Prop where
  stay : ∀ i s s', P i s → (∀ a o, a ∉ W → s.heap.get? a = some o → s'.heap.get? a = some o) → SeqKeep X s.heap s'.heap → (∀ (g : Nat), g ∈ G → ∀ st, s.gens[g]? = some st → s'.gens[g]? = some st) →
    (∀ b o, h₀.get? b = some o → s'.heap.get? b = some o) → P i s'
  item : ∀ i d s, ds[i]? = some d → P i s → s.heap.NoLimit → (∀ y ∈ s.gens, y.bare = true) → (∀ a ∈ W, ∃ o, s.heap.get? a = some o) → (∀ a ∈ X, ∃ o, s.heap.get? a = some o) →
    wpAny (model pw w) A (pyNext it) (fun r s' => ∃ v, r = some v ∧ Rep X s'.heap d v ∧ P (i + 1) s' ∧ ∃ fp, Foot hs W s.heap fp ∧ Mv fp s s' G) NoE s
  done : ∀ s, P ds.length s → s.heap.NoLimit → (∀ y ∈ s.gens, y.bare = true) → (∀ a ∈ W, ∃ o, s.heap.get? a = some o) → (∀ a ∈ X, ∃ o, s.heap.get? a = some o) → wpAny (model pw w) A (pyNext it) (fun r s' => r = none ∧ ∃ fp, Foot hs W s.heap fp ∧ Mv fp s s' G) NoE s
  go : ∀ i s, P i s → ∀ (t : Expr) (v : Value) (Q : Unit → Shared → Prop) (E : Value → Shared → Prop), Q () s → wpAny (model pw w) A (letOwnedTupleGo t it v) Q E s
  self : ∀ i s (Q : Value → Shared → Prop) (E : Value → Shared → Prop), P i s → Q it s → wpAny (model pw w) A (pyIter it) Q E s

section
variable {f : Fx} {Y : List Addr} {σ : Sg}

/-! where an iterator may be used -/
noncomputable def User (hs h2 : Heap) (W : List Addr) : Prop := ∀ a ∈ W, (∃ o, hs.get? a = some o) ∨ h2.get? a = none
noncomputable def IterIs (f : Fx) (Y : List Addr) (ds : List D) (s : Shared) (it : Value) (s2 : Shared) : Prop :=
  ∃ G, (∀ Z W : List Addr, (∀ a ∈ Z, s2.heap.get? a = none) → User s.heap s2.heap W → ∃ P, Feed f.h₀ s.heap f.w f.A (Z ++ (Y ++ f.X₀)) W it G ds P ∧ P 0 s2) ∧ Mv [] s s2 ∧ (∀ (g : Nat), g ∈ G → s.gens[g]? = none)
noncomputable def IterOf (f : Fx) (Y : List Addr) (σ : Sg) (iter : Expr) (ds : List D) : Prop :=
  ∀ s, St f Y σ s → wpAny f.M f.A (eval iter f.env) (fun xv s1 => wpAny f.M f.A (pyIter xv) (IterIs f Y ds s) NoE s1) NoE s

theorem St.fed {s s' s'' : Shared} {fp : List Addr} {G : List Nat} {σ' : Sg} (S : St f Y σ s) (S' : St f Y σ' s') (p : Mv fp s' s'' G) (nf : ∀ a ∈ fp, s.heap.get? a = none) (ns : ∀ a ∈ fp, ∀ o, s'.heap.get? a = some o → ¬ isSeqObj o) : St f Y σ' s'' := by
  refine S'.turn p (fun a m o e => ns a m o e) (fun a m => ?_) (fun m => ?_) (fun x c e m => ?_) (fun a m q => ?_)
  · cases e : f.h₀.get? a with
    | none => rfl
    | some o => have := S.base a o e; rw [nf a m] at this; cases this
  · obtain ⟨_, o, _, _, ho, _⟩ := S.frm.ns; have := nf _ m; rw [ho] at this; cases this
  · obtain ⟨v, o, ho, _⟩ := S.frm.cells x c e; have := nf _ m; rw [ho] at this; cases this
  · obtain ⟨o, ho⟩ := S.xs a q; have := nf _ m; rw [ho] at this; cases this
theorem St.owns {s : Shared} (S : St f Y σ s) : ∀ a ∈ own f.env Y, ∃ o, s.heap.get? a = some o := fun a q => by
  rcases List.mem_cons.mp q with rfl | q
  · obtain ⟨_, o, _, _, ho, _⟩ := S.frm.ns; exact ⟨o, ho⟩
  · rcases List.mem_append.mp q with q | q
    · obtain ⟨⟨x, c⟩, hm, rfl⟩ := List.mem_map.mp q
      obtain ⟨v, o, ho, _⟩ := S.frm.cells x c hm; exact ⟨o, ho⟩
    · obtain ⟨_, vs, k, ho⟩ := S.ys a q; exact ⟨_, ho⟩
theorem own_apart {s : Shared} {fp : List Addr} (S : St f Y σ s) (nf : ∀ a ∈ fp, s.heap.get? a = none) : ∀ a ∈ fp, a ∉ own f.env Y := fun a m q => by
  have n := nf a m
  rcases List.mem_cons.mp q with rfl | q
  · obtain ⟨_, o, _, _, ho, _⟩ := S.frm.ns; rw [ho] at n; cases n
  · rcases List.mem_append.mp q with q | q
    · obtain ⟨⟨x, c⟩, hm, rfl⟩ := List.mem_map.mp q
      obtain ⟨v, o, ho, _⟩ := S.frm.cells x c hm; rw [ho] at n; cases n
    · obtain ⟨_, vs, k, ho⟩ := S.ys a q; rw [ho] at n; cases n

/-! for t in iter: body, by what holds of what has been taken -/
theorem Ex1.for_ {t iter : Expr} {body : List Stmt} {pos : Pos} {ds : List D} {Q : Post} (hi : IterOf f Y σ iter ds) (I : List D → Sg → Prop) (h0 : I [] σ)
    (step : ∀ pre d post σ', ds = pre ++ d :: post → I pre σ' → ∃ σ'', tgt t d σ' = some σ'' ∧ Ex f Y σ'' body fun r Y' σ3 => match r with
      | .next | .cont => Y' = Y ∧ I (pre ++ [d]) σ3
      | .brk => Q .next Y' σ3
      | .ret d => Q (.ret d) Y' σ3)
    (fin : ∀ σ', I ds σ' → Q .next Y σ') (ok : tgtOk f.env t)
    (hs : ∀ x, foldedSetIterable iter f.env x = pure x := by intro _; rfl) : Ex1 f Y σ (.For t iter body [] pos) Q := fun s S => by
  refine wpAny_For (wNoE (hi s S) fun xv s1 h1 => wNoE h1 fun it s2 h2 => ?_) hs
  obtain ⟨G, hF, mv, ng⟩ := h2
  obtain ⟨P, F, hP0⟩ := hF [] (own f.env Y) (fun _ m => nomatch m) (fun a m => .inl (S.owns a m))
  simp only [List.nil_append] at F
  refine codeAny_forLoop_any (fun k s' => ∃ i σ', i ≤ ds.length ∧ k = ds.length + 1 - i ∧ St f Y σ' s' ∧ P i s' ∧ I (ds.take i) σ' ∧ Mv (own f.env Y) s s') ?_ (ds.length + 1)
    ⟨0, σ, Nat.zero_le _, rfl, S.step mv, hP0, by simpa using h0, mv.wide⟩
  rintro k s' ⟨i, σ', hi', rfl, S', hP, hI, p⟩
  by_cases hlt : i < ds.length
  · have hd : ds[i]? = some ds[i] := by simp [hlt]
    have hsplit : ds = ds.take i ++ ds[i] :: ds.drop (i + 1) := by
      rw [← List.drop_eq_getElem_cons hlt, List.take_append_drop]
    refine wNoE (F.item i _ s' hd hP S'.nolimit S'.bare S'.owns S'.xs) fun r s3 h3 => ?_
    obtain ⟨v, rfl, hv, hP3, fp, ft, p3⟩ := h3
    have nf : ∀ a ∈ fp, s.heap.get? a = none := fun a m => (ft a m).1
    have S3 : St f Y σ' s3 := St.fed S S' p3 nf (fun a m => (ft a m).2.2)
    have p03 : Mv (own f.env Y) s s3 := p.since p3 (fun a m => .inr (nf a m)) (fun g m => .inr (ng g m))
    refine F.go (i + 1) s3 hP3 t v _ _ ?_
    obtain ⟨σ'', ht, hb⟩ := step _ _ _ σ' hsplit hI
    refine assign_tgt S3 hv ht ok fun s4 S4 p4 => ?_
    refine wNoE (hb s4 S4) fun fl s5 h5 => ?_
    obtain ⟨r, Y', σ3, hr, S5, p5, y, q⟩ := h5
    have p35 : Mv (own f.env Y) s3 s5 := p4.trans p5
    have p05 := p03.trans p35
    have y' : ∀ a, a ∈ Y' → a ∈ Y ∨ s.heap.get? a = none := fun a m => (y a m).elim .inl fun n => (Classical.em (a ∈ Y)).elim .inl fun nY => .inr (by
        cases e : s.heap.get? a with
        | none => rfl
        | some o => exact absurd (y_of S S4 (p03.trans p4) e n) nY)
    have again : Y' = Y → I (ds.take i ++ [ds[i]]) σ3 → ∃ m, m < ds.length + 1 - i ∧ ∃ i σ', i ≤ ds.length ∧ m = ds.length + 1 - i ∧ St f Y σ' s5 ∧ P i s5 ∧ I (ds.take i) σ' ∧ Mv (own f.env Y) s s5 := by
      rintro rfl hI'
      refine ⟨ds.length + 1 - (i + 1), by omega, i + 1, σ3, hlt, rfl, S5, F.stay _ s3 s5 hP3 (fun a o m e => p35.keep a o m e) (own_seq S3 p35.keep) (fun g m st e => p35.gens g st (by simp) e) S5.base, ?_, p05⟩
      rw [List.take_add_one, hd]; exact hI'
    cases r with
    | next => cases hr; exact again q.1 q.2
    | cont => cases hr; exact again q.1 q.2
    | brk => cases hr; exact ⟨.next, Y', σ3, rfl, S5, p05, y', q⟩
    | ret d => obtain ⟨u, rfl, hu⟩ := hr; exact ⟨.ret d, Y', σ3, ⟨u, rfl, hu⟩, S5, p05, y', q⟩
  · have hin : i = ds.length := by omega
    subst hin
    refine wNoE (F.done s' hP S'.nolimit S'.bare S'.owns S'.xs) fun r s3 h3 => ?_
    obtain ⟨rfl, fp, ft, p3⟩ := h3
    have nf : ∀ a ∈ fp, s.heap.get? a = none := fun a m => (ft a m).1
    refine wpAny_execs_nil (Ex1.ret_ (r := .next) (St.fed S S' p3 nf (fun a m => (ft a m).2.2)) (p.since p3 (fun a m => .inr (nf a m)) (fun g m => .inr (ng g m))) rfl (fin σ' ?_))
    rw [List.take_length] at hI; exact hI

/-! lists -/
theorem go_listiter {w : World} {A : Around} {I l : Addr} {i : Nat} {s : Shared} (hit : s.heap.IsListIter I l i) (t : Expr) (v : Value) (Q : Unit → Shared → Prop) (E : Value → Shared → Prop) (q : Q () s) :
    wpAny (model pw w) A (letOwnedTupleGo t (.ref I) v) Q E s := by
  cases t with
  | Tuple es k p => cases v with
    | ref T => exact wpAny_letOwnedTupleGo_listiter hit q
    | _ => exact wpAny_pure q
  | List es p => cases v with
    | ref T => exact wpAny_letOwnedTupleGo_listiter (x1 := 0) (elts := []) (pos := default) hit q
    | _ => exact wpAny_pure q
  | _ => exact wpAny_pure q
theorem seq_of_nons {X : List Addr} {I : Addr} {h h' : Heap} (hs : Heap.ExtBut I h h') {o : Obj} (e : h.get? I = some o) (n : ¬ isSeqObj o) : SeqKeep X h h' := fun b o' _ hq ho => hs b o' (fun q => by rw [q, e] at ho; cases ho; exact n hq) ho
theorem keep_ext {I : Addr} {h h' : Heap} (hs : Heap.ExtBut I h h') : KeepBut [I] h h' := fun b o m e => hs b o (fun q => m (by simp [q])) e
theorem nonseq_fields {o : Obj} {vs} (h : o.data = .fields vs) : ¬ isSeqObj o := fun ⟨_, _, q⟩ => by rw [h] at q; cases q
theorem foot1 {hs : Heap} {W : List Addr} {h : Heap} {I : Addr} (hI : hs.get? I = none) (hW : I ∉ W) (n : ∃ o, h.get? I = some o ∧ ¬ isSeqObj o) : Foot hs W h [I] := fun a m => by
  rw [List.mem_singleton.mp m]
  obtain ⟨o, ho, hn⟩ := n
  exact ⟨hI, hW, fun o' e => by rw [ho] at e; cases e; exact hn⟩
theorem Feed.list {h₀ hs : Heap} {w : World} {A : Around} {X W : List Addr} (hh : A.handled = none) {I ax : Addr} (hax : ax ∉ X) (hI : hs.get? I = none) (hW : I ∉ W) {ds : List D} :
    Feed h₀ hs w A X W (.ref I) [] ds (fun i s => s.heap.IsListIter I ax i ∧ ∃ vs : List Value, s.heap.IsList ax vs.toArray ∧ Reps X s.heap ds vs) where
  stay := fun i s s' ⟨⟨o, ho, hc, hd⟩, vs, hl, hr⟩ k sk _ _ => ⟨⟨o, k I o hW ho, hc, hd⟩, vs, isList_mv hl fun o hc hs ho => sk ax o (.inl hax) hs ho, Reps.seq sk _ _ hr⟩
  item := fun i d s hd ⟨hit, vs, hl, hr⟩ _ _ _ _ => by
    obtain ⟨v, hv, hR⟩ := hr.get hd
    refine wpAny_pyNext_list_item hit hl (x := v) (by simpa using hv) fun h' hit' hs => ?_
    obtain ⟨o, ho, hc, hdat⟩ := hit
    have sk : SeqKeep X s.heap h' := seq_of_nons hs.extBut ho (nonseq_fields hdat)
    exact ⟨v, rfl, Rep.seq sk _ _ hR, ⟨hit', vs, isList_mv hl fun o hc hs ho => sk ax o (.inl hax) hs ho, Reps.seq sk _ _ hr⟩, [I], foot1 hI hW ⟨o, ho, nonseq_fields hdat⟩, .heap' (keep_ext hs.extBut)⟩
  done := fun s ⟨hit, vs, hl, hr⟩ _ _ _ _ => wpAny_pyNext_list_end hh hit hl (by simp [hr.length]) fun h' he => ⟨rfl, [I], foot1 hI hW (by obtain ⟨o, ho, hc, hdat⟩ := hit; exact ⟨o, ho, nonseq_fields hdat⟩), .heap' (keep_ext he)⟩
  go := fun i s ⟨hit, _⟩ t v Q E q => go_listiter hit t v Q E q
  self := fun i s Q E ⟨hit, _⟩ q => wpAny_pyIter_listiter hit q
theorem new_none {s s1 : Shared} (p : Mv [] s s1) : s.heap.get? s1.heap.objs.size = none := by
  cases e : s.heap.get? s1.heap.objs.size with
  | none => rfl
  | some o => have := p.keep.all _ _ e; rw [fresh_none] at this; cases this
theorem user_new {hs h2 : Heap} {W : List Addr} {I : Addr} (n : hs.get? I = none) (u : User hs h2 W) (e : ∃ o, h2.get? I = some o) : I ∉ W := fun m => by
  obtain ⟨o, e⟩ := e
  rcases u I m with ⟨o', q⟩ | q
  · rw [n] at q; cases q
  · rw [q] at e; cases e
theorem Reps.aparts {X : List Addr} {h : Heap} {l : List D} {vs : List Value} (r : Reps X h l vs) : ∀ (Z : List Addr), (∀ a ∈ Z, h.get? a = none) → Reps (Z ++ X) h l vs
  | [], _ => r
  | a :: Z, k => Reps.apart (k a (by simp)) _ _ (Reps.aparts r Z fun b m => k b (List.mem_cons_of_mem _ m))
theorem IterOf.list {iter : Expr} {ds : List D} (h : Ev f Y σ iter (.lst ds)) : IterOf f Y σ iter ds := fun s S =>
  wNoE (h s S) fun xv s1 h1 => by
    obtain ⟨p, a, vs, rfl, ha, hl, hr⟩ := h1
    refine wpAny_pyIter_list hl ⟨[], fun Z W hZ hW => ⟨_, Feed.list f.hh (ax := a) (fun m => ?_) (new_none p) (user_new (new_none p) hW ⟨_, Heap.get?_push_size _ rfl⟩), ⟨⟨_, Heap.get?_push_size _ rfl, rfl, rfl⟩, vs, hl.push _, (Reps.keep (.push _ _) hr).aparts Z hZ⟩⟩, p.trans .push, fun _ m => nomatch m⟩
    · rcases List.mem_append.mp m with m | m
      · have := hZ a m
        obtain ⟨o, ho, _⟩ := hl.push { cls := .type "list_iterator", data := .fields #[.ref a, .int 0 0] }
        rw [ho] at this; cases this
      · exact ha m

/-! ranges -/
theorem IsRangeIter.nonseq {h : Heap} {I : Addr} {x l c : Int} (e : IsRangeIter h I x l c) : ∃ o, h.get? I = some o ∧ ¬ isSeqObj o := ⟨_, e, nonseq_fields rfl⟩
theorem go_rangeiter {w : World} {A : Around} {I : Addr} {x l c : Int} {s : Shared} (hit : IsRangeIter s.heap I x l c) (t : Expr) (v : Value) (Q : Unit → Shared → Prop) (E : Value → Shared → Prop) (q : Q () s) :
    wpAny (model pw w) A (letOwnedTupleGo t (.ref I) v) Q E s := by
  have key : ∀ T : Addr, wpAny (model pw w) A (do
      let o ← load I
      match o.cls, o.data with
      | .type n, .fields vs =>
        if ["enumerate", "zip", "dict_itemiterator", "dict_reverseitemiterator", "odict_iterator", "itertools.zip_longest", "itertools.pairwise"].contains n && vs[0]? == some (rawInt T) then
          rule "for.unpacks-the-owned-tuple"
          updateField I 0 .none
      | _, _ => pure ()) Q E s := fun T => by
    refine wpAny_bind (wpAny_load hit ?_)
    show wpAny _ A (if (["enumerate", "zip", "dict_itemiterator", "dict_reverseitemiterator", "odict_iterator", "itertools.zip_longest", "itertools.pairwise"].contains "range_iterator" && _) = true then _ else _) Q E s
    rw [if_neg (by
      intro h
      rw [show (["enumerate", "zip", "dict_itemiterator", "dict_reverseitemiterator", "odict_iterator", "itertools.zip_longest", "itertools.pairwise"].contains "range_iterator") = false from by decide, Bool.false_and] at h
      cases h)]
    exact wpAny_pure q
  cases t with
  | Tuple es k p => cases v with
    | ref T => exact key T
    | _ => exact wpAny_pure q
  | List es p => cases v with
    | ref T => exact key T
    | _ => exact wpAny_pure q
  | _ => exact wpAny_pure q
theorem Feed.range {h₀ hs : Heap} {w : World} {A : Around} {X W : List Addr} (hh : A.handled = none) {I : Addr} (hI : hs.get? I = none) (hW : I ∉ W) (a c : Int) (n : Nat) :
    Feed h₀ hs w A X W (.ref I) [] (dI (rangeInts a c n)) (fun i s => i ≤ n ∧ IsRangeIter s.heap I (a + (i : Nat) * c) ((n : Int) - (i : Nat)) c) where
  stay := fun i s s' h k sk _ _ => ⟨h.1, k I _ hW h.2⟩
  item := fun i d s hd ⟨_, hit⟩ _ _ _ _ => by
    have hi : i < n := by
      have := (List.getElem?_eq_some_iff.mp hd).1
      simpa [dI, rangeInts] using this
    refine wpAny_pyNext_range_item hit (by omega) fun h' hit' hs => ?_
    refine ⟨_, rfl, ?_, ⟨hi, ?_⟩, [I], foot1 hI hW (IsRangeIter.nonseq hit), .heap (keep_ext hs.extBut)⟩
    · have : d = .int (a + (i : Nat) * c) := by
        simp only [dI, List.getElem?_map, rangeInts_get hi, Option.map_some, Option.some.injEq] at hd
        exact hd.symm
      subst this; exact ⟨_, rfl⟩
    · have e1 : a + (i : Nat) * c + c = a + ((i + 1 : Nat) : Int) * c := by push_cast; rw [Int.add_mul]; omega
      have e2 : (n : Int) - (i : Nat) - 1 = (n : Int) - ((i + 1 : Nat) : Int) := by push_cast; omega
      rw [e1, e2] at hit'; exact hit'
  done := fun s ⟨_, hit⟩ _ _ _ _ => wpAny_pyNext_range_end hh hit (by simp [dI, rangeInts]) fun h' he => ⟨rfl, [I], foot1 hI hW (IsRangeIter.nonseq hit), .heap' (keep_ext he)⟩
  go := fun i s h t v Q E q => go_rangeiter h.2 t v Q E q
  self := fun i s Q E h q => wpAny_pyIter_rangeiter h.2 q
theorem iter_range {s s1 : Shared} {r : Addr} {a b c : Int} {t u v : Tok} {n : Nat} (hr : IsRange s1.heap r a b c t u v) (hsm : Builtin.Range.small a b c = true) (hn : Builtin.Range.rangeSize a b c = (n : Int)) (p : Mv [] s s1) :
    wpAny f.M f.A (pyIter (.ref r)) (IterIs f Y (dI (rangeInts a c n)) s) NoE s1 := by
  refine wpAny_pyIter_range hr hsm ⟨[], fun Z W hZ hW => ⟨_, Feed.range f.hh (new_none p) (user_new (new_none p) hW ⟨_, Heap.get?_push_size _ rfl⟩) a c n, Nat.zero_le _, ?_⟩, p.trans .push, fun _ m => nomatch m⟩
  have e := Heap.get?_push_size s1.heap (o := { cls := .type "range_iterator", data := .fields #[rawInt a, rawInt (Builtin.Range.rangeSize a b c), rawInt c] }) rfl
  rw [hn] at e ⊢
  simpa using e
theorem IterOf.range1 {x np pos} {e : Expr} {b : Int} (h : Ev f Y σ e (.int b)) (hx : x = ("range" : Str)) (hb : -(2 ^ 62) ≤ b ∧ b < 2 ^ 62) (hk : f.env.kindOf x = some .globalImplicit := by rfl)
    (he : starEach [e] f.env = [(false, eval e f.env)] := by rfl) : IterOf f Y σ (.Call (.Name x np) [e] [] pos) (dI (rangeInts 0 1 b.toNat)) := fun s S => by
  subst hx
  refine Call_ (blt_name S (by decide) (v := .type "range") (by decide +kernel) hk (PyProof.Rows.callWith_type1 (args_cons (wNoE (h s S) fun v s1 h1 => args_nil ?_) he) he) (by decide))
  obtain ⟨p, t, rfl⟩ := h1
  refine call_range_1 (iter_range (IsRange.new ..) (small_one (by decide) (by decide) hb.1 hb.2) (by rw [rangeSize_nat]; simp) (p.trans (.heap (.push _ _))))
theorem IterOf.range2 {x np pos} {e e' : Expr} {a b : Int} (h : Ev f Y σ e (.int a)) (h' : Ev f Y σ e' (.int b)) (hx : x = ("range" : Str)) (ha : -(2 ^ 62) ≤ a ∧ a < 2 ^ 62) (hb : -(2 ^ 62) ≤ b ∧ b < 2 ^ 62) (hk : f.env.kindOf x = some .globalImplicit := by rfl)
    (he : starEach [e, e'] f.env = (false, eval e f.env) :: starEach [e'] f.env := by rfl) (he' : starEach [e'] f.env = [(false, eval e' f.env)] := by rfl)
    (hp : (backTo pos (starEach [e'] f.env)).any (·.1) = false := by rfl) : IterOf f Y σ (.Call (.Name x np) [e, e'] [] pos) (dI (rangeInts a 1 (b - a).toNat)) := fun s S => by
  subst hx
  refine Call_ (blt_name S (by decide) (v := .type "range") (by decide +kernel) hk (PyProof.Rows.callWith_type1 (args_cons (wNoE (h s S) fun v s1 h1 => args_cons (wNoE (h' s1 (S.step h1.1)) fun v' s2 h2 => args_nil ?_) he') he) he hp) (by decide))
  obtain ⟨p, t, rfl⟩ := h1
  obtain ⟨p2, t2, rfl⟩ := h2
  refine call_range_2 (iter_range (IsRange.new ..) (small_one ha.1 ha.2 hb.1 hb.2) (rangeSize_nat a b) ((p.trans p2).trans (.heap (.push _ _))))
theorem IterOf.range3 {x np pos} {e e' e'' : Expr} {a b c : Int} (h : Ev f Y σ e (.int a)) (h' : Ev f Y σ e' (.int b)) (h'' : Ev f Y σ e'' (.int c)) (hx : x = ("range" : Str)) (hsm : Builtin.Range.small a b c = true) (hc : c ≠ 0) (hd : Builtin.divisionGoesByPylong (b - a) c = false)
    (hk : f.env.kindOf x = some .globalImplicit := by rfl)
    (he : starEach [e, e', e''] f.env = (false, eval e f.env) :: starEach [e', e''] f.env := by rfl) (he' : starEach [e', e''] f.env = (false, eval e' f.env) :: starEach [e''] f.env := by rfl)
    (he'' : starEach [e''] f.env = [(false, eval e'' f.env)] := by rfl)
    (hp : (backTo pos (starEach [e', e''] f.env)).any (·.1) = false := by rfl) : IterOf f Y σ (.Call (.Name x np) [e, e', e''] [] pos) (dI (rangeInts a c (Builtin.Range.rangeSize a b c).toNat)) := fun s S => by
  subst hx
  refine Call_ (blt_name S (by decide) (v := .type "range") (by decide +kernel) hk (PyProof.Rows.callWith_type1 (args_cons (wNoE (h s S) fun v s1 h1 => args_cons (wNoE (h' s1 (S.step h1.1)) fun v' s2 h2 => args_cons (wNoE (h'' s2 (S.step (h1.1.trans h2.1))) fun v'' s3 h3 => args_nil ?_) he'') he') he) he hp) (by decide))
  obtain ⟨p, t, rfl⟩ := h1
  obtain ⟨p2, t2, rfl⟩ := h2
  obtain ⟨p3, t3, rfl⟩ := h3
  have hz : Builtin.Range.rangeSize a b c = ((Builtin.Range.rangeSize a b c).toNat : Int) := rangeSize_toNat a b c
  refine call_range_3 hc (iter_range (IsRange.new ..) hsm hz ((p.trans (p2.trans p3)).trans (.heap (.push _ _)))) (Or.inl hd)

/-! bytes -/
theorem Feed.bytes {h₀ hs : Heap} {w : World} {A : Around} {X W : List Addr} (hh : A.handled = none) {I : Addr} (hI : hs.get? I = none) (hW : I ∉ W) (b : Array UInt8) (t : Tok) :
    Feed h₀ hs w A X W (.ref I) [] (dI (KBw.bInts b)) (fun i s => KBw.IsBytesIter s.heap I b t i) where
  stay := fun i s s' ⟨o, ho, r⟩ k sk _ _ => ⟨o, k I o hW ho, r⟩
  item := fun i d s hd hit _ _ _ _ => by
    have hi : i < b.size := by
      have := (List.getElem?_eq_some_iff.mp hd).1
      simpa [dI, KBw.bInts] using this
    refine KBw.next_item hit (c := b[i]) (by simp [hi]) fun h' hit' hs => ?_
    refine ⟨_, rfl, ?_, hit', [I], foot1 hI hW (by obtain ⟨o, ho, _, hd⟩ := hit; exact ⟨o, ho, nonseq_fields hd⟩), .heap (keep_ext hs.extBut)⟩
    have : d = .int ((b[i]).toNat : Int) := by
      simp only [dI, List.getElem?_map, KBw.ints_get (b := b) (i := i) (c := b[i]) (by simp [hi]), Option.map_some, Option.some.injEq] at hd
      exact hd.symm
    subst this; exact ⟨_, rfl⟩
  done := fun s hit _ _ _ _ => KBw.next_end hh hit (by simp [dI, KBw.bInts]) fun h' he => ⟨rfl, [I], foot1 hI hW (by obtain ⟨o, ho, _, hd⟩ := hit; exact ⟨o, ho, nonseq_fields hd⟩), .heap' (keep_ext he)⟩
  go := fun i s ⟨o, ho, hc, hd⟩ t v Q E q => by
    have key : ∀ T : Addr, wpAny (model pw w) A (do
        let o ← load I
        match o.cls, o.data with
        | .type n, .fields vs =>
          if ["enumerate", "zip", "dict_itemiterator", "dict_reverseitemiterator", "odict_iterator", "itertools.zip_longest", "itertools.pairwise"].contains n && vs[0]? == some (rawInt T) then
            rule "for.unpacks-the-owned-tuple"
            updateField I 0 .none
        | _, _ => pure ()) Q E s := fun T => by
      refine wpAny_bind (wpAny_load ho ?_)
      rw [hc, hd]
      show wpAny _ A (if (["enumerate", "zip", "dict_itemiterator", "dict_reverseitemiterator", "odict_iterator", "itertools.zip_longest", "itertools.pairwise"].contains "bytes_iterator" && _) = true then _ else _) Q E s
      rw [if_neg (by
        intro h
        rw [show (["enumerate", "zip", "dict_itemiterator", "dict_reverseitemiterator", "odict_iterator", "itertools.zip_longest", "itertools.pairwise"].contains "bytes_iterator") = false from by decide, Bool.false_and] at h
        cases h)]
      exact wpAny_pure q
    cases t with
    | Tuple es k p => cases v with
      | ref T => exact key T
      | _ => exact wpAny_pure q
    | List es p => cases v with
      | ref T => exact key T
      | _ => exact wpAny_pure q
    | _ => exact wpAny_pure q
  self := fun i s Q E hit q => KBw.pyIter_self hit q
theorem IterOf.bytes {iter : Expr} {b : Array UInt8} (h : Ev f Y σ iter (.bytes b)) : IterOf f Y σ iter (dI (KBw.bInts b)) := fun s S =>
  wNoE (h s S) fun xv s1 h1 => by
    obtain ⟨p, t, rfl⟩ := h1
    exact KBw.pyIter_bytes ⟨[], fun Z W hZ hW => ⟨_, Feed.bytes f.hh (new_none p) (user_new (new_none p) hW ⟨_, Heap.get?_push_size _ rfl⟩) b t, ⟨_, Heap.get?_push_size _ rfl, rfl, rfl⟩⟩, p.trans .push, fun _ m => nomatch m⟩
end
end Mine

namespace Mine
open PySem PySem.Calls PyProof.Rows PySem.W

/-! what a comprehension sees of the frame around it: names that are cells there -/
noncomputable def Capt (f : Fx) (scope : Scope) (cl : List (Str × Addr)) (σ σ₁ : Sg) : Prop := ∀ x d, σ₁.lookup x = some d → ∃ d', d = .im d' ∧ σ.lookup x = some (.im d') ∧
  (f.env.kindOf x = some .cell ∨ f.env.kindOf x = some .free) ∧ ((relabel scope f.env).names.lookup x = some .cell ∨ (relabel scope f.env).names.lookup x = some .free) ∧ cl.lookup x = f.env.cells.lookup x
theorem Capt.nil {f : Fx} {scope : Scope} {cl : List (Str × Addr)} {σ : Sg} : Capt f scope cl σ [] := fun _ _ e => by simp at e
theorem Capt.cons {f : Fx} {scope : Scope} {cl : List (Str × Addr)} {σ σ₁ : Sg} {x : Str} {d : D} (r : Capt f scope cl σ σ₁) (h1 : σ.lookup x = some (.im d)) (h2 : f.env.kindOf x = some .cell ∨ f.env.kindOf x = some .free)
    (h3 : (relabel scope f.env).names.lookup x = some .cell ∨ (relabel scope f.env).names.lookup x = some .free) (h4 : cl.lookup x = f.env.cells.lookup x) : Capt f scope cl σ ((x, .im d) :: σ₁) := fun y d' e => by
  by_cases hy : y = x
  · subst hy; rw [lookup_cons_self] at e; cases e; exact ⟨d, rfl, h1, h2, h3, h4⟩
  · rw [lookup_cons_ne hy] at e; exact r y d' e

noncomputable abbrev cfx (f : Fx) (Y : List Addr) (scope : Scope) (cl : List (Str × Addr)) (C D : Addr) : Fx := { f with env := compEnvC scope cl C f.env, X₀ := D :: (Y ++ f.X₀) }

/-! one turn of a list comprehension's clause, its end left open -/
theorem codeAny_compLoop_g {prog : Program} {w : World} {A : Around} {s : Shared} {e : Expr} {d : Nat} {it acc : Value} {env : Env} {R : Result → Shared → Prop} {target iter : Expr} {ifs : List Expr} {emit : Sem Unit} (I : Nat → Shared → Prop)
    (hq : (Code.compLoop e d it acc env).quiet = true) (hu : A.under (.compLoop e d it acc env) = A)
    (ht : (model prog w).den (.compLoop e d it acc env) = (do
      standAt iter.pos
      match ← pyNext it with
      | none => pure (.done .next)
      | some v =>
        letOwnedTupleGo target it v
        assign target env v
        let mut ok := true
        for c in ifs do
          if ok then ok ← isTrue c env (eval c env)
        if ok then emit
        again (.compLoop e d it acc env) : Sem Fin).onRaise (fun x => do noteFrame x env; theTreesLotGoes x))
    (turn : ∀ n s, I n s → wpAny (model prog w) A (pyNext it) (fun r s₁ => match r with
      | none => R (.ok .next) s₁
      | some v => wpAny (model prog w) A (letOwnedTupleGo target it v) (fun _ s₁' => wpAny (model prog w) A (assign target env v) (fun _ s₂ =>
          wpAny (model prog w) A (forIn ifs true fun c r => if r = true then do let ok ← isTrue c env (eval c env); pure (ForInStep.yield ok) else pure (ForInStep.yield r)) (fun ok s₃ =>
            if ok = true then wpAny (model prog w) A emit (fun _ s₅ => ∃ m, m < n ∧ I m s₅) NoE s₃
            else ∃ m, m < n ∧ I m s₃) NoE s₂) NoE s₁') NoE s₁) NoE s)
    (n : Nat) (h : I n s) : codeAny (model prog w) A (.compLoop e d it acc env) R s := by
  refine codeAny_loop hq I (fun n s hI => ?_) n h
  rw [hu, ht]
  refine wpAny_noted ?_
  refine wpAny_bind (wpAny_standAt (wpAny_bind (wNoE (turn n s hI) fun r s₁ h₁ => ?_)))
  cases r with
  | none => exact wpAny_pure h₁
  | some v =>
    refine wpAny_bind (wNoE h₁ fun _ s₁' h₁' => ?_)
    refine wpAny_bind (wNoE h₁' fun _ s₂ h₂ => wpAny_bind (wNoE h₂ fun ok s₃ h₃ => ?_))
    cases ok with
    | false => exact wpAny_pure ⟨rfl, h₃⟩
    | true => exact wpAny_bind (wNoE h₃ fun x s₄ h₄ => wpAny_pure ⟨rfl, h₄⟩)

/-! tests in a row -/
noncomputable def Tests (f : Fx) (Y : List Addr) (σ : Sg) (ifs : List Expr) (b : Bool) : Prop :=
  ∀ s, St f Y σ s → wpAny f.M f.A (forIn ifs true fun c r => if r = true then do let ok ← isTrue c f.env (eval c f.env); pure (ForInStep.yield ok) else pure (ForInStep.yield r)) (fun ok s' => Mv [] s s' ∧ ok = b) NoE s
theorem Tests.nil {f : Fx} {Y : List Addr} {σ : Sg} : Tests f Y σ [] true := fun s S => wpAny_tests_nil ⟨.refl _ _, rfl⟩
theorem Tests.one {f : Fx} {Y : List Addr} {σ : Sg} {c : Expr} {b : Bool} (h : Tt f Y σ c b) : Tests f Y σ [c] b := fun s S => wpAny_tests_one (wNoE (h s S) fun _ _ x => x)

noncomputable def tnames : Expr → List Str
  | .Name x _ => [x]
  | .Tuple es _ _ => (namesOf es).getD []
  | _ => []
theorem bindAll_lookup {x : Str} : ∀ {xs : List Str} {ds : List D} {σ : Sg}, x ∉ xs → (bindAll xs ds σ).lookup x = σ.lookup x
  | [], _, _, _ => by unfold bindAll; rfl
  | _ :: _, [], _, _ => by unfold bindAll; rfl
  | y :: ys, d :: ds, σ, h => by
    unfold bindAll
    rw [bindAll_lookup (fun m => h (List.mem_cons_of_mem _ m)), lookup_cons_ne (fun e => h (by rw [e]; simp))]
theorem tgt_forget {t : Expr} {d : D} {σ σ' : Sg} (h : tgt t d σ = some σ') (k : ∀ x ∈ tnames t, σ.lookup x = none) : ∀ x d', σ.lookup x = some d' → σ'.lookup x = some d' := fun x d' e => by
  have nx : x ∉ tnames t := fun m => by rw [k x m] at e; cases e
  cases t with
  | Name y p =>
    simp only [tgt, Option.some.injEq] at h; subst h
    rw [lookup_cons_ne (fun q => nx (by rw [q]; simp [tnames]))]; exact e
  | Tuple es kk p =>
    cases d with
    | tup ds =>
      cases hn : namesOf es with
      | none => simp only [tgt, hn, Option.bind_none] at h; cases h
      | some xs =>
        simp only [tgt, hn, Option.bind_some] at h
        split at h
        · cases h
          rw [bindAll_lookup (by simpa [tnames, hn] using nx)]; exact e
        · cases h
    | _ => simp only [tgt] at h; cases h
  | _ => simp only [tgt] at h; cases h

section
variable {f : Fx} {Y : List Addr} {σ : Sg}

/-! the state at a comprehension's start -/
theorem St.comp {s4 s0 : Shared} {scope : Scope} {cl : List (Str × Addr)} {σ₁ : Sg} {C D : Addr} {m : Str → Option Value} {vs : Array Value} (S0 : St f Y σ s0) (p : Mv [] s0 s4) (hcap : Capt f scope cl σ σ₁) (hclx : ∀ q ∈ cl, f.env.cells.lookup q.1 = some q.2) (hkind : scope.kind = .function)
    (hn : s4.heap.Ns C m) (hC : s0.heap.get? C = none) (hD : s0.heap.get? D = none) (hl : s4.heap.PlainList D vs) : St (cfx f Y scope cl C D) [] σ₁ s4 := by
  have S4 := S0.step p
  refine ⟨⟨S4.base, fun a ma => ?_⟩, fun a ma => ?_, ⟨hkind, ⟨m, hn⟩, fun x c e => ?_, fun x y c ex ey => ?_, S4.frm.glo, S4.frm.blt⟩, S4.bare, fun _ ma => (nomatch ma), fun x d e => ?_⟩
  · rcases List.mem_cons.mp (show a ∈ D :: (Y ++ f.X₀) from ma) with rfl | ma
    · obtain ⟨n, e⟩ := hl; exact ⟨_, e⟩
    · exact S4.xs a ma
  · rcases List.mem_cons.mp ma with rfl | ma
    · show f.h₀.get? a = none
      cases e : f.h₀.get? a with
      | none => rfl
      | some o => have := S0.base _ o e; rw [hC] at this; cases this
    · have ma : a ∈ cl.map (·.2) := by simpa [compEnvC] using ma
      obtain ⟨q, mq, rfl⟩ := List.mem_map.mp ma
      exact S4.off _ (own_cell (hclx q mq))
  · exact S4.frm.cells x c (mem_of_lookup (hclx _ e))
  · exact S4.frm.inj x y c (hclx _ (mem_of_lookup ex)) (hclx _ (mem_of_lookup ey))
  · obtain ⟨d', rfl, h1, h2, h3, h4⟩ := hcap x d e
    obtain ⟨v, H, r⟩ := S0.vars x _ h1
    refine ⟨v, ?_, Rep.keep p.keep (Rep.apart hD _ _ r)⟩
    rcases H with ⟨hk, _⟩ | ⟨hk, c, hc, hv⟩
    · rcases h2 with h2 | h2 <;> rw [hk] at h2 <;> cases h2
    · exact .inr ⟨h3, c, h4.trans hc, hv.keeps p.keep.all⟩

/-! what a comprehension's body does, turn by turn: O, the list so far; J, what else holds; V, what else it turns -/
structure Turns (f' : Fx) (σ₁ : Sg) (t : Expr) (ifs : List Expr) (elt : Expr) (ds : List D) (O : List D → List D) (J : List D → Shared → Prop) (V : List Addr) : Prop where
  turn : ∀ pre d post, ds = pre ++ d :: post → ∃ σ2 b, tgt t d σ₁ = some σ2 ∧ Tests f' [] σ2 ifs b ∧ (b = false → O (pre ++ [d]) = O pre ∧ ∀ s, J pre s → J (pre ++ [d]) s) ∧
    (b = true → ∃ y, O (pre ++ [d]) = O pre ++ [y] ∧ ∀ s, St f' [] σ2 s → J pre s → wpAny f'.M f'.A (eval elt f'.env) (fun v s' => Rep f'.X₀ s'.heap y v ∧ Mv V s s' ∧ St f' [] σ2 s' ∧ J (pre ++ [d]) s') NoE s)

theorem comp_loop {s0 s4 : Shared} {scope : Scope} {cl : List (Str × Addr)} {σ₁ : Sg} {C D : Addr} {t iter elt : Expr} {ifs : List Expr} {e : Expr} {k : Nat} {it : Value} {ds : List Mine.D} {G : List Nat} {P : Nat → Shared → Prop}
    {O : List Mine.D → List Mine.D} {J : List Mine.D → Shared → Prop} {V JA : List Addr}
    (F : Feed f.h₀ s0.heap f.w f.A (D :: (Y ++ f.X₀)) (C :: D :: V) it G ds P) (hP0 : P 0 s4) (p04 : Mv V s0 s4) (ng : ∀ (g : Nat), g ∈ G → s0.gens[g]? = none)
    (S4 : St (cfx f Y scope cl C D) [] σ₁ s4) (hl4 : s4.heap.PlainList D #[]) (hD0 : s0.heap.get? D = none) (hC0 : s0.heap.get? C = none) (hDC : D ≠ C) (hcle : ∀ a ∈ cl.map (·.2), ∃ o, s0.heap.get? a = some o) (S0 : St f Y σ s0)
    (hJ0 : J [] s4) (hJ : ∀ pre s s', J pre s → (∀ b ∈ JA, ∀ o, s.heap.get? b = some o → s'.heap.get? b = some o) → J pre s') (hJA : ∀ b ∈ JA, ∃ o, s0.heap.get? b = some o) (hJc : ∀ b ∈ JA, b ∉ cl.map (·.2))
    (hV : ∀ a ∈ V, ∃ o, s0.heap.get? a = some o) (hVx : ∀ pre s, J pre s → ∀ a ∈ V, ∃ o, s.heap.get? a = some o ∧ ¬ isSeqObj o)
    (T : Turns (cfx f Y scope cl C D) σ₁ t ifs elt ds O J V) (hO : O [] = []) (hsz : ds.length ≤ sizeLine) (htg : tgtOkW (compEnvC scope cl C f.env) [C] t) (hfr : ∀ x ∈ tnames t, σ₁.lookup x = none) (hnm : ∀ x a l, σ₁.lookup x ≠ some (.mut a l))
    (hq : (Code.compLoop e k it (.ref D) (compEnvC scope cl C f.env)).quiet = true) (hu : f.A.under (.compLoop e k it (.ref D) (compEnvC scope cl C f.env)) = f.A)
    (ht : f.M.den (.compLoop e k it (.ref D) (compEnvC scope cl C f.env)) = (do
      standAt iter.pos
      match ← pyNext it with
      | none => pure (.done .next)
      | some v =>
        letOwnedTupleGo t it v
        assign t (compEnvC scope cl C f.env) v
        let mut ok := true
        for c in ifs do
          if ok then ok ← isTrue c (compEnvC scope cl C f.env) (eval c (compEnvC scope cl C f.env))
        if ok then (do let _ ← call (.builtin "list.append") [.ref D, ← eval elt (compEnvC scope cl C f.env)])
        again (.compLoop e k it (.ref D) (compEnvC scope cl C f.env)) : Sem Fin).onRaise (fun x => do noteFrame x (compEnvC scope cl C f.env); theTreesLotGoes x)) :
    codeAny f.M f.A (.compLoop e k it (.ref D) (compEnvC scope cl C f.env)) (fun r s' => r = .ok .next ∧ St (cfx f Y scope cl C D) [] σ₁ s' ∧ (∃ vs : List Value, s'.heap.PlainList D vs.toArray ∧ Reps (D :: (Y ++ f.X₀)) s'.heap (O ds) vs) ∧ J ds s' ∧ Mv V s0 s') s4 := by
  have hVn : ∀ pre s, J pre s → ∀ a ∈ V, ∀ o, s.heap.get? a = some o → ¬ isSeqObj o := fun pre s h a m o e => by
    obtain ⟨o', h1, h2⟩ := hVx pre s h a m; rw [h1] at e; cases e; exact h2
  have CV : C ∉ V := fun m => by obtain ⟨o, e⟩ := hV C m; rw [hC0] at e; cases e
  have DV : D ∉ V := fun m => by obtain ⟨o, e⟩ := hV D m; rw [hD0] at e; cases e
  have JAo : ∀ a ∈ JA, a ∉ own (compEnvC scope cl C f.env) [] := fun a m q => by
    rcases List.mem_cons.mp q with q | q
    · obtain ⟨o, e⟩ := hJA _ m
      rw [show a = C from q, hC0] at e; cases e
    · exact hJc a m (by simpa [compEnvC] using q)
  have JAD : ∀ a ∈ JA, a ≠ D := fun a m q => by obtain ⟨o, e⟩ := hJA a m; rw [q, hD0] at e; cases e
  have VD' : ∀ a ∈ V, a ≠ D := fun a m q => by obtain ⟨o, e⟩ := hV a m; rw [q, hD0] at e; cases e
  refine codeAny_compLoop_g (target := t) (iter := iter) (ifs := ifs) (fun n s' => ∃ i, i ≤ ds.length ∧ n = ds.length + 1 - i ∧ St (cfx f Y scope cl C D) [] σ₁ s' ∧ P i s' ∧ J (ds.take i) s' ∧
    (∃ vs : List Value, s'.heap.PlainList D vs.toArray ∧ Reps (D :: (Y ++ f.X₀)) s'.heap (O (ds.take i)) vs ∧ vs.length ≤ i) ∧ Mv V s0 s') hq hu ht ?_ (ds.length + 1)
    ⟨0, Nat.zero_le _, rfl, S4, hP0, by simpa using hJ0, ⟨[], hl4, by simpa [hO] using Reps.nil, Nat.zero_le _⟩, p04⟩
  rintro n s' ⟨i, hi', rfl, S', hP, hJi, ⟨vs, hl, hR, hlen⟩, p⟩
  by_cases hlt : i < ds.length
  · have hd : ds[i]? = some ds[i] := by simp [hlt]
    have hsplit : ds = ds.take i ++ ds[i] :: ds.drop (i + 1) := by
      rw [← List.drop_eq_getElem_cons hlt, List.take_append_drop]
    have htk : ds.take (i + 1) = ds.take i ++ [ds[i]] := by rw [List.take_add_one, hd]; rfl
    obtain ⟨σ2, b, hσ2, hte, hb0, hb1⟩ := T.turn _ _ _ hsplit
    have hWe : ∀ a ∈ C :: D :: V, ∃ o, s'.heap.get? a = some o := fun a m => by
      rcases List.mem_cons.mp m with rfl | m
      · obtain ⟨_, o, _, _, ho, _⟩ := S'.frm.ns; exact ⟨o, ho⟩
      · rcases List.mem_cons.mp m with rfl | m
        · obtain ⟨n, e⟩ := hl; exact ⟨_, e⟩
        · obtain ⟨o, e, _⟩ := hVx _ s' hJi a m; exact ⟨o, e⟩
    refine wNoE (F.item i _ s' hd hP S'.nolimit S'.bare hWe S'.xs) fun r s1 h1 => ?_
    obtain ⟨v, rfl, hv, hP1, fp, ft, p1⟩ := h1
    have nf : ∀ a ∈ fp, s0.heap.get? a = none := fun a m => (ft a m).1
    have hCf : C ∉ fp := fun m => (ft C m).2.1 (by simp)
    have hDf : D ∉ fp := fun m => (ft D m).2.1 (by simp)
    have hclf : ∀ a ∈ cl.map (·.2), a ∉ fp := fun a m q => by obtain ⟨o, e⟩ := hcle a m; rw [nf a q] at e; cases e
    have JAfp : ∀ a ∈ JA, a ∉ fp := fun a m q => by obtain ⟨o, e⟩ := hJA a m; rw [nf a q] at e; cases e
    have ns1 : ∀ a ∈ fp, ∀ o, s'.heap.get? a = some o → ¬ isSeqObj o := fun a m => (ft a m).2.2
    have S1 : St (cfx f Y scope cl C D) [] σ₁ s1 := by
      refine S'.turn p1 ns1 (fun a m => ?_) hCf (fun x c e m => hclf c (List.mem_map.mpr ⟨(x, c), e, rfl⟩) m) (fun a m q => ?_)
      · show f.h₀.get? a = none
        cases e : f.h₀.get? a with
        | none => rfl
        | some o => have := S0.base a o e; rw [nf a m] at this; cases this
      · rcases List.mem_cons.mp (show a ∈ D :: (Y ++ f.X₀) from q) with rfl | q
        · exact hDf m
        · obtain ⟨o, e⟩ := S0.xs a q; rw [nf a m] at e; cases e
    have sk1 : SeqKeep (D :: (Y ++ f.X₀)) s'.heap s1.heap := fun b o _ hs ho => p1.keep b o (fun m => ns1 b m o ho hs) ho
    have hl1 : s1.heap.PlainList D vs.toArray := hl.at fun o e => p1.keep D o hDf e
    have hR1 := Reps.seq sk1 _ _ hR
    have hJ1 : J (ds.take i) s1 := hJ _ _ _ hJi fun b m o e => p1.keep b o (JAfp b m) e
    have p01 : Mv V s0 s1 := p.since p1 (fun a m => .inr (nf a m)) (fun g m => .inr (ng g m))
    refine F.go (i + 1) s1 hP1 t v _ _ ?_
    have hWo : ∀ a ∈ [C], a ∈ own (cfx f Y scope cl C D).env [] := fun a m => by rw [List.mem_singleton.mp m]; exact List.mem_cons_self
    refine assign_tgtW (f := cfx f Y scope cl C D) hWo S1 hv hσ2 htg fun s2 S2 p2 => ?_
    have sk2 : SeqKeep (D :: (Y ++ f.X₀)) s1.heap s2.heap := own_seq S1 (p2.keep.mono hWo)
    have hl2 : s2.heap.PlainList D vs.toArray := hl1.at fun o e => p2.keep D o (by simpa using hDC) e
    have hR2 := Reps.seq sk2 _ _ hR1
    have hJ2 : J (ds.take i) s2 := hJ _ _ _ hJ1 fun b m o e => p2.keep b o (fun q => JAo b m (hWo b q)) e
    have p02 : Mv V s0 s2 := p01.since p2 (fun a m => .inr (by rw [List.mem_singleton.mp m]; exact hC0)) (fun _ m => nomatch m)
    have hP2 : P (i + 1) s2 := F.stay _ s1 s2 hP1 (fun a o m e => p2.keep a o (fun q => m (by rw [List.mem_singleton.mp q]; simp)) e) sk2 (fun g m st e => p2.gens g st (by simp) e) S2.base
    refine wNoE (hte s2 S2) fun ok s3 h3 => ?_
    obtain ⟨p3, rfl⟩ := h3
    have S3 := S2.step p3
    have sk3 : SeqKeep (D :: (Y ++ f.X₀)) s2.heap s3.heap := .all p3.keep
    have hl3 : s3.heap.PlainList D vs.toArray := hl2.at fun o e => p3.keep.all D o e
    have hR3 := Reps.seq sk3 _ _ hR2
    have hJ3 : J (ds.take i) s3 := hJ _ _ _ hJ2 fun b m o e => p3.keep.all b o e
    have p03 : Mv V s0 s3 := p02.trans p3.wide
    have hP3 : P (i + 1) s3 := F.stay _ s2 s3 hP2 (fun a o m e => p3.keep.all a o e) sk3 (fun g m st e => p3.gens g st (by simp) e) S3.base
    have fg := tgt_forget hσ2 hfr
    cases ok with
    | false =>
      obtain ⟨e1, e2⟩ := hb0 rfl
      refine ⟨ds.length + 1 - (i + 1), by omega, i + 1, hlt, rfl, S3.forget fg, hP3, by rw [htk]; exact e2 s3 hJ3, ⟨vs, hl3, by rw [htk, e1]; exact hR3, by omega⟩, p03⟩
    | true =>
      obtain ⟨y, ey, hy⟩ := hb1 rfl
      refine wpAny_bind (wNoE (hy s3 S3 hJ3) fun v s4 h4 => ?_)
      obtain ⟨hv4, p4, S4, hJ4⟩ := h4
      have VnD : D ∉ V := fun m => VD' D m rfl
      have sk4 : SeqKeep (D :: (Y ++ f.X₀)) s3.heap s4.heap := fun b o _ hs ho => p4.keep b o (fun m => hVn _ s3 hJ3 b m o ho hs) ho
      have hl4' : s4.heap.PlainList D vs.toArray := hl3.at fun o e => p4.keep D o VnD e
      have hR4 := Reps.seq sk4 _ _ hR3
      have hP4 : P (i + 1) s4 := F.stay _ s3 s4 hP3 (fun a o m e => p4.keep a o (fun q => m (by simp [q])) e) sk4 (fun g m st e => p4.gens g st (by simp) e) S4.base
      refine wpAny_bind (wpAny_list_append_plain hl4' (fun h' hl' hs => ?_) (by rw [List.size_toArray]; omega))
      obtain ⟨c, hDo⟩ := hl4'
      have kD : KeepBut [D] s4.heap h' := .same hs
      have sk5 : SeqKeep (D :: (Y ++ f.X₀)) s4.heap h' := .of kD fun b o m e _ => by
        rw [List.mem_singleton.mp m] at e ⊢; rw [hDo] at e; cases e
        exact ⟨List.mem_cons_self, rfl⟩
      have kk : ∀ b o, (∀ xs n, o.data ≠ .seq xs n) → s4.heap.get? b = some o → h'.get? b = some o := fun b o nd e => hs.extBut b o (fun q => by rw [q, hDo] at e; cases e; exact nd _ _ rfl) e
      have S5 : St (cfx f Y scope cl C D) [] σ₁ { s4 with heap := h' } := by
        have S4' := S4.forget fg
        refine ⟨⟨fun b o e => ?_, fun a ma => ?_⟩, S4'.off, ⟨S4'.frm.fn, ?_, fun x c e => ?_, S4'.frm.inj, S4'.frm.glo, S4'.frm.blt⟩, S4'.bare, (fun _ m => nomatch m), fun x d e => ?_⟩
        · refine hs.extBut b o (fun q => ?_) (S4'.base b o e)
          have := S0.base b o e
          rw [q, hD0] at this; cases this
        · by_cases q : a = D
          · subst q; obtain ⟨n, e⟩ := hl'; exact ⟨_, e⟩
          · obtain ⟨o, e⟩ := S4'.xs a ma; exact ⟨o, hs.extBut a o q e⟩
        · obtain ⟨m, o, es, ep, ho, hd, r⟩ := S4'.frm.ns
          exact ⟨m, o, es, ep, kk _ o (fun _ _ q => by rw [hd] at q; cases q) ho, hd, r⟩
        · obtain ⟨v, o, ho, hd⟩ := S4'.frm.cells x c e
          exact ⟨v, o, kk _ o (fun _ _ q => by rw [hd] at q; cases q) ho, hd⟩
        · obtain ⟨v, H, r⟩ := S4'.vars x d e
          refine ⟨v, H.imp (fun ⟨a, m, ⟨o, es, ep, ho, hd, r⟩, c⟩ => ⟨a, m, ⟨o, es, ep, kk _ o (fun _ _ q => by rw [hd] at q; cases q) ho, hd, r⟩, c⟩) (fun ⟨a, c, b, o, ho, hd⟩ => ⟨a, c, b, o, kk _ o (fun _ _ q => by rw [hd] at q; cases q) ho, hd⟩), ?_⟩
          cases d with
          | im d => exact Rep.seq sk5 _ _ r
          | «mut» a l => exact absurd e (hnm x a l)
      refine wpAny_pure ⟨ds.length + 1 - (i + 1), by omega, i + 1, hlt, rfl, S5, F.stay _ s4 _ hP4 (fun a o m e => kD a o (fun q => m (by rw [List.mem_singleton.mp q]; simp)) e) sk5 (fun g m st e => e) S5.base, by
        rw [htk]; exact hJ _ _ _ hJ4 fun b m o e => kD b o (by simpa using JAD b m) e, ⟨vs ++ [v], by simpa using hl', ?_, by simp; omega⟩, (p03.trans p4).since (H := []) (.heap' kD) (fun a m => .inr (by rw [List.mem_singleton.mp m]; exact hD0)) (fun _ m => (nomatch m))⟩
      rw [htk, ey]
      exact Reps.seq sk5 _ _ (hR4.append (.cons hv4 .nil))
  · have hin : i = ds.length := by omega
    subst hin
    rw [List.take_length] at hJi hR
    have hWe : ∀ a ∈ C :: D :: V, ∃ o, s'.heap.get? a = some o := fun a m => by
      rcases List.mem_cons.mp m with rfl | m
      · obtain ⟨_, o, _, _, ho, _⟩ := S'.frm.ns; exact ⟨o, ho⟩
      · rcases List.mem_cons.mp m with rfl | m
        · obtain ⟨n, e⟩ := hl; exact ⟨_, e⟩
        · obtain ⟨o, e, _⟩ := hVx _ s' hJi a m; exact ⟨o, e⟩
    refine wNoE (F.done s' hP S'.nolimit S'.bare hWe S'.xs) fun r s1 h1 => ?_
    obtain ⟨rfl, fp, ft, p1⟩ := h1
    have nf : ∀ a ∈ fp, s0.heap.get? a = none := fun a m => (ft a m).1
    have hCf : C ∉ fp := fun m => (ft C m).2.1 (by simp)
    have hDf : D ∉ fp := fun m => (ft D m).2.1 (by simp)
    have hclf : ∀ a ∈ cl.map (·.2), a ∉ fp := fun a m q => by obtain ⟨o, e⟩ := hcle a m; rw [nf a q] at e; cases e
    have JAfp : ∀ a ∈ JA, a ∉ fp := fun a m q => by obtain ⟨o, e⟩ := hJA a m; rw [nf a q] at e; cases e
    have nsf : ∀ a ∈ fp, ∀ o, s'.heap.get? a = some o → ¬ isSeqObj o := fun a m => (ft a m).2.2
    have sk1 : SeqKeep (D :: (Y ++ f.X₀)) s'.heap s1.heap := fun b o _ hs ho => p1.keep b o (fun m => nsf b m o ho hs) ho
    refine ⟨rfl, ?_, ⟨vs, hl.at fun o e => p1.keep D o hDf e, Reps.seq sk1 _ _ hR⟩, hJ _ _ _ hJi fun b m o e => p1.keep b o (JAfp b m) e, p.since p1 (fun a m => .inr (nf a m)) (fun g m => .inr (ng g m))⟩
    refine S'.turn p1 nsf (fun a m => ?_) hCf (fun x c e m => hclf c (List.mem_map.mpr ⟨(x, c), e, rfl⟩) m) (fun a m q => ?_)
    · show f.h₀.get? a = none
      cases e : f.h₀.get? a with
      | none => rfl
      | some o => have := S0.base a o e; rw [nf a m] at this; cases this
    · rcases List.mem_cons.mp (show a ∈ D :: (Y ++ f.X₀) from q) with rfl | q
      · exact hDf m
      · obtain ⟨o, e⟩ := S0.xs a q; rw [nf a m] at e; cases e

theorem comp_core {scope : Scope} {cl : List (Str × Addr)} {σ₁ : Sg} {t iter elt : Expr} {ifs : List Expr} {pos p' : Pos} {ds : List Mine.D} {O : List Mine.D → List Mine.D} {J : List Mine.D → Shared → Prop} {V JA : List Addr} {use : Option (Value → Sem Unit)} {Q : Value → Shared → Prop} {E : Value → Shared → Prop} {s0 : Shared}
    (S0 : St f Y σ s0) (hit : IterOf f Y σ iter ds) (hcap : Capt f scope cl σ σ₁) (hclos : closureFor scope f.env = pure cl) (hclx : ∀ q ∈ cl, f.env.cells.lookup q.1 = some q.2) (hcell : ∀ x ∈ scope.names, x.2 ≠ .cell) (hkind : scope.kind = .function)
    (hnames : ∀ x ∈ scope.names, x.2 = .local → scope.names.lookup x.1 = some .local) (hs : ∀ x, foldedSetIterable iter f.env x = pure x)
    (hJ0 : J [] s0) (hJ : ∀ pre s s', J pre s → (∀ b ∈ JA, ∀ o, s.heap.get? b = some o → s'.heap.get? b = some o) → J pre s') (hJA : ∀ b ∈ JA, ∃ o, s0.heap.get? b = some o) (hJc : ∀ b ∈ JA, b ∉ cl.map (·.2))
    (hV : ∀ a ∈ V, ∃ o, s0.heap.get? a = some o) (hVx : ∀ pre s, J pre s → ∀ a ∈ V, ∃ o, s.heap.get? a = some o ∧ ¬ isSeqObj o)
    (T : ∀ C D, s0.heap.get? C = none → s0.heap.get? D = none → Turns (cfx f Y scope cl C D) σ₁ t ifs elt ds O J V) (hO : O [] = []) (hsz : ds.length ≤ sizeLine) (htg : ∀ C, tgtOkW (compEnvC scope cl C f.env) [C] t) (hfr : ∀ x ∈ tnames t, σ₁.lookup x = none)
    (fin : ∀ D C m s', s'.heap.Ns C m → s0.heap.get? C = none → Rep (Y ++ f.X₀) s'.heap (.lst (O ds)) (.ref D) → J ds s' → Mv V s0 s' → compPost f.M f.A E use Q (.ref D) C (.ok .next) s') :
    wpAny f.M f.A (comprehension (.ListComp elt [⟨t, iter, ifs, 0⟩] scope pos) scope f.env p' (newList []) false (eval iter f.env) use) Q E s0 := by
  have hnm : ∀ x a l, σ₁.lookup x ≠ some (.mut a l) := fun x a l e => by obtain ⟨d', q, _⟩ := hcap x _ e; cases q
  refine wpAny_comprehension_free rfl hs hclos hkind hnames (wNoE (hit s0 S0) fun xv s1 h1 => wNoE h1 fun it s2 h2 => ?_)
  obtain ⟨G, hF, mv, ng⟩ := h2
  have hDn := fresh_none s2.heap
  refine wpAny_newObj_type ?_
  generalize hDe : s2.heap.objs.size = D at hDn
  generalize hH : s2.heap.push { cls := .type "list", data := .seq ([] : List Value).toArray } = H2
  have kH : ∀ b o, s2.heap.get? b = some o → H2.get? b = some o := fun b o e => hH ▸ Heap.get?_push_of_some _ e
  have gD : H2.get? D = some { cls := .type "list", data := .seq ([] : List Value).toArray } := by rw [← hH, ← hDe]; exact Heap.get?_push_size _ rfl
  refine wpAny_newFunctionEnv hcell (by intro y hy; simp at hy) (fun h4 hn4 hs4 => ?_) hkind
  have hCn : H2.get? H2.objs.size = none := fresh_none H2
  change h4.Ns H2.objs.size _ at hn4
  change Heap.SameBut H2.objs.size (H2.push _) h4 at hs4
  show codeAny f.M f.A (.compStart (.ListComp elt [⟨t, iter, ifs, 0⟩] scope pos) 0 it (.ref D) (compEnvC scope cl H2.objs.size f.env)) _ _
  generalize hC : H2.objs.size = C at hCn hn4 hs4
  have k4 : ∀ b o, H2.get? b = some o → h4.get? b = some o := fun b o e => hs4.extBut b o (fun q => by rw [q, hCn] at e; cases e) (Heap.get?_push_of_some _ e)
  have k24 : ∀ b o, s2.heap.get? b = some o → h4.get? b = some o := fun b o e => k4 b o (kH b o e)
  have hCn2 : s2.heap.get? C = none := by
    cases e : s2.heap.get? C with
    | none => rfl
    | some o => have := kH C o e; rw [hCn] at this; cases this
  have n0 : ∀ a, s2.heap.get? a = none → s0.heap.get? a = none := fun a n => by
    cases e : s0.heap.get? a with
    | none => rfl
    | some o => have := mv.keep.all a o e; rw [n] at this; cases this
  have hDC : D ≠ C := fun q => by rw [q, hCn] at gD; cases gD
  have hcle : ∀ a ∈ cl.map (·.2), ∃ o, s0.heap.get? a = some o := fun a m => by
    obtain ⟨⟨x, c⟩, mq, rfl⟩ := List.mem_map.mp m
    obtain ⟨v, o, ho, _⟩ := S0.frm.cells x c (mem_of_lookup (hclx _ mq))
    exact ⟨o, ho⟩
  obtain ⟨P, F, hP0⟩ := hF [D] (C :: D :: V) (fun a m => by rw [List.mem_singleton.mp m]; exact hDn) (fun a m => by
    rcases List.mem_cons.mp m with rfl | m
    · exact .inr hCn2
    · rcases List.mem_cons.mp m with rfl | m
      · exact .inr hDn
      · exact .inl (hV a m))
  replace F : Feed f.h₀ s0.heap f.w f.A (D :: (Y ++ f.X₀)) (C :: D :: V) it G ds P := F
  have main : ∀ s4 : Shared, s4 = { s2 with heap := h4, toks := s2.toks + ([] : List (Str × Value)).length } → codeAny f.M f.A (.compLoop (.ListComp elt [⟨t, iter, ifs, 0⟩] scope pos) 0 it (.ref D) (compEnvC scope cl C f.env)) (compPost f.M f.A E use Q (.ref D) C) s4 := by
    rintro s4 rfl
    have mv4 : Mv [] s0 { s2 with heap := h4, toks := s2.toks + ([] : List (Str × Value)).length } := mv.trans (.heap (.of_all k24))
    have hl4 : Heap.PlainList h4 D #[] := ⟨0, k4 _ _ gD⟩
    refine codeAny_mono (comp_loop (iter := iter) F (F.stay 0 s2 _ hP0 (fun a o _ e => k24 a o e) (.all (.of_all k24)) (fun g _ st e => e) (S0.step mv4).base) mv4.wide ng (St.comp S0 mv4 hcap hclx hkind hn4 (n0 C hCn2) (n0 D hDn) hl4) hl4 (n0 D hDn) (n0 C hCn2) hDC hcle S0
      (hJ _ _ _ hJ0 fun b _ o e => mv4.keep.all b o e) hJ hJA hJc hV hVx (T C D (n0 C hCn2) (n0 D hDn)) hO hsz (htg C) hfr hnm rfl rfl rfl) fun r s' h => ?_
    obtain ⟨rfl, S', ⟨vs, hl, hR⟩, hJs, p⟩ := h
    obtain ⟨m, hm⟩ := S'.frm.ns
    exact fin D C m s' hm (n0 C hCn2) ⟨D, vs, rfl, S0.toOk.fresh (n0 D hDn), hl.isList, Reps.sub (fun a m => List.mem_cons_of_mem _ m) _ _ hR⟩ hJs p
  refine codeAny_compStart_list (main _ rfl) ?_
  have P4 : P 0 { s2 with heap := h4, toks := s2.toks + ([] : List (Str × Value)).length } := F.stay 0 s2 _ hP0 (fun a o _ e => k24 a o e) (.all (.of_all k24)) (fun g _ st e => e) (S0.step (mv.trans (.heap (t := s2.toks + ([] : List (Str × Value)).length) (.of_all k24)))).base
  exact F.self 0 _ _ _ P4 (main _ rfl)
end
end Mine

namespace Mine
open PySem PySem.Calls PyProof.Rows PySem.W
section
variable {f : Fx} {Y : List Addr} {σ : Sg}

/-! what a comprehension asks of its own table of names -/
structure CompOk (f : Fx) (σ : Sg) (scope : Scope) (cl : List (Str × Addr)) (σ₁ : Sg) (t iter : Expr) : Prop where
  cap : Capt f scope cl σ σ₁
  clos : closureFor scope f.env = pure cl
  clx : ∀ q ∈ cl, f.env.cells.lookup q.1 = some q.2
  cell : ∀ x ∈ scope.names, x.2 ≠ .cell
  kind : scope.kind = .function
  names : ∀ x ∈ scope.names, x.2 = .local → scope.names.lookup x.1 = some .local
  fold : ∀ x, foldedSetIterable iter f.env x = pure x
  tg : ∀ C, tgtOkW (compEnvC scope cl C f.env) [C] t
  fr : ∀ x ∈ tnames t, σ₁.lookup x = none

/-! a pure comprehension -/

/-! x = [.. for ..] where the interpreter stores behind its own clean-up -/
theorem comp_assign {scope : Scope} {cl : List (Str × Addr)} {σ₁ : Sg} {t iter elt : Expr} {ifs : List Expr} {pos apos p' : Pos} {x : Str} {ds : List Mine.D} {O : List Mine.D → List Mine.D} {J : List Mine.D → Shared → Prop} {V JA : List Addr} {s0 : Shared} {E : Value → Shared → Prop} {Q : Flow → Shared → Prop}
    (S0 : St f Y σ s0) (hit : IterOf f Y σ iter ds) (ok : CompOk f σ scope cl σ₁ t iter)
    (hJ0 : J [] s0) (hJ : ∀ pre s s', J pre s → (∀ b ∈ JA, ∀ o, s.heap.get? b = some o → s'.heap.get? b = some o) → J pre s') (hJA : ∀ b ∈ JA, ∃ o, s0.heap.get? b = some o) (hJo : ∀ b ∈ JA, b ∉ own f.env Y)
    (hV : ∀ a ∈ V, ∃ o, s0.heap.get? a = some o) (hVn : ∀ pre s, J pre s → ∀ a ∈ V, ∃ o, s.heap.get? a = some o ∧ ¬ isSeqObj o)
    (T : ∀ C D, s0.heap.get? C = none → s0.heap.get? D = none → Turns (cfx f Y scope cl C D) σ₁ t ifs elt ds O J V) (hO : O [] = []) (hsz : ds.length ≤ sizeLine) (hp : Put f.env x)
    (hsw : swapsWith (.ListComp elt [⟨t, iter, ifs, 0⟩] scope pos) (some (.Name x p')) apos.line f.env = pure true) (S' : ∀ s', J ds s' → Mv V s0 s' → St f Y σ s')
    (q : ∀ s', St f Y ((x, .im (.lst (O ds))) :: σ) s' → J ds s' → Mv (V ++ own f.env Y) s0 s' → Q .next s') :
    wpAny f.M f.A (exec (.Assign [.Name x p'] (.ListComp elt [⟨t, iter, ifs, 0⟩] scope pos) apos) f.env) Q E s0 := by
  rw [exec_Assign_Name_used _ _ _ _ hsw]
  refine wpAny_bind (wpAny_standAt (wpAny_bind ?_))
  show wpAny f.M f.A (do let _ ← comprehension (.ListComp elt [⟨t, iter, ifs, 0⟩] scope pos) scope f.env _ (newList []) false (eval iter f.env) (some (assign (.Name x p') f.env))) _ _ s0
  have clo : ∀ b ∈ cl.map (·.2), b ∈ own f.env Y := fun b m => by obtain ⟨q, mq, rfl⟩ := List.mem_map.mp m; exact own_cell (ok.clx q mq)
  refine wpAny_bind (wpAny_mono (comp_core (use := some (assign (.Name x p') f.env)) (Q := fun _ s' => Q .next s') (JA := JA) S0 hit ok.cap ok.clos ok.clx ok.cell ok.kind ok.names ok.fold hJ0 hJ hJA (fun b m q => hJo b m (clo b q)) hV hVn T hO hsz ok.tg ok.fr fun D C m s' hn hC r hJs p => ?_) (fun _ s'' h'' => wpAny_pure (wpAny_pure h'')) fun _ _ e => e)
  refine wpAny_assign_Name (store (d := .im (.lst (O ds))) (S' s' hJs p) hp r fun s2 S2 p2 => ?_)
  have Co : C ∉ own f.env Y := fun ma => by
    rcases List.mem_cons.mp ma with q | ma
    · obtain ⟨_, o, _, _, ho, _⟩ := S0.frm.ns; rw [← q, hC] at ho; cases ho
    · rcases List.mem_append.mp ma with ma | ma
      · obtain ⟨⟨y, c⟩, hm, q⟩ := List.mem_map.mp ma
        obtain ⟨v, o, ho, _⟩ := S0.frm.cells y c hm
        rw [show c = C from q, hC] at ho; cases ho
      · obtain ⟨_, vs, n, ho⟩ := S0.ys C ma; rw [hC] at ho; cases ho
  have hn2 : s2.heap.Ns C m := hn.at' fun o e => p2.keep C o Co e
  refine ⟨m, hn2, fun h' hs => ?_⟩
  have nc : ∀ a ∈ [C], ∀ o, s2.heap.get? a = some o → ¬ isSeqObj o := fun a ma o e => by rw [List.mem_singleton.mp ma] at e; exact ns_nonseq hn2 e
  have pC : Mv [C] s2 { s2 with heap := h' } := .heap' (.same hs)
  have S3 : St f Y ((x, .im (.lst (O ds))) :: σ) { s2 with heap := h' } := S2.turn pC nc (fun a ma => by
      rw [List.mem_singleton.mp ma]
      cases e : f.h₀.get? C with
      | none => rfl
      | some o => have := S0.base C o e; rw [hC] at this; cases this) (fun ma => Co (by rw [← List.mem_singleton.mp ma]; exact own_loc)) (fun y c e ma => Co (by rw [← List.mem_singleton.mp ma]; exact List.mem_cons_of_mem _ (List.mem_append_left _ (List.mem_map.mpr ⟨(y, c), e, rfl⟩))))
      (fun a ma q => by rw [List.mem_singleton.mp ma] at q; obtain ⟨o, e⟩ := S0.xs C q; rw [hC] at e; cases e)
  have JC : ∀ b ∈ JA, b ≠ C := fun b m q => by obtain ⟨o, e⟩ := hJA b m; rw [q, hC] at e; cases e
  refine (q _ S3 (hJ _ _ _ (hJ _ _ _ hJs fun b m o e => p2.keep b o (hJo b m) e) fun b m o e => pC.keep b o (by simpa using JC b m) e) ?_)
  have p02 : Mv (V ++ own f.env Y) s0 s2 := (p.mono (fun a m => List.mem_append_left _ m) (fun _ m => m)).trans (p2.mono (fun a m => List.mem_append_right _ m) (fun _ m => m))
  exact p02.since (H := []) pC (fun a ma => .inr (by rw [List.mem_singleton.mp ma]; exact hC)) (fun _ m => nomatch m)
end
end Mine

namespace Mine
open PySem PySem.Calls PyProof.Rows PySem.W

theorem bindL_other {kindOf : Str → Option NameKind} {x : Str} : ∀ {binds : List (Str × Value)} {m : Str → Option Value}, x ∉ binds.map (·.1) → bindL kindOf binds m x = m x
  | [], _, _ => rfl
  | (n, v) :: r, m, h => by
    unfold bindL
    rw [bindL_other (fun q => h (List.mem_cons_of_mem _ q))]
    have hx : x ≠ n := fun e => h (by simp [e])
    split
    · simp [hx]
    · rfl
theorem bindC_other {kindOf : Str → Option NameKind} {x : Str} : ∀ {binds : List (Str × Value)} {m : Str → Option Value}, x ∉ binds.map (·.1) → bindC kindOf binds m x = m x
  | [], _, _ => rfl
  | (n, v) :: r, m, h => by
    unfold bindC
    rw [bindC_other (fun q => h (List.mem_cons_of_mem _ q))]
    have hx : x ≠ n := fun e => h (by simp [e])
    split
    · rfl
    · simp [hx]
theorem bindL_mem {kindOf : Str → Option NameKind} {x : Str} {v : Value} (hk : kindOf x = some .local) : ∀ {binds : List (Str × Value)} {m : Str → Option Value}, (binds.map (·.1)).Nodup → binds.lookup x = some v → bindL kindOf binds m x = some v
  | (n, u) :: r, m, nd, h => by
    unfold bindL
    obtain ⟨h1, h2⟩ := List.nodup_cons.mp nd
    by_cases hx : x = n
    · subst hx
      rw [bindL_other h1, if_pos hk]
      simp [List.lookup_cons] at h
      simp [h]
    · rw [List.lookup_cons, beq_eq_false_iff_ne.mpr hx] at h
      exact bindL_mem hk h2 h
theorem bindC_mem {kindOf : Str → Option NameKind} {x : Str} {v : Value} (hk : kindOf x ≠ some .local) : ∀ {binds : List (Str × Value)} {m : Str → Option Value}, (binds.map (·.1)).Nodup → binds.lookup x = some v → bindC kindOf binds m x = some v
  | (n, u) :: r, m, nd, h => by
    unfold bindC
    obtain ⟨h1, h2⟩ := List.nodup_cons.mp nd
    by_cases hx : x = n
    · subst hx
      rw [bindC_other h1, if_neg hk]
      simp [List.lookup_cons] at h
      simp [h]
    · rw [List.lookup_cons, beq_eq_false_iff_ne.mpr hx] at h
      exact bindC_mem hk h2 h
theorem lookup_of_mem {α : Type} {x : Str} {c : α} : ∀ {l : List (Str × α)}, (l.map (·.1)).Nodup → (x, c) ∈ l → l.lookup x = some c
  | (n, u) :: r, nd, h => by
    obtain ⟨h1, h2⟩ := List.nodup_cons.mp nd
    rw [List.lookup_cons]
    rcases List.mem_cons.mp h with e | h
    · cases e; simp
    · have : (x == n) = false := beq_eq_false_iff_ne.mpr fun e => h1 (e ▸ List.mem_map.mpr ⟨(x, c), h, rfl⟩)
      rw [this]; exact lookup_of_mem h2 h
theorem cellsFrom_names : ∀ (names : List (Str × NameKind)) (n m : Nat) (acc acc' : List (Str × Addr)), acc.map (·.1) = acc'.map (·.1) → (cellsFrom n names acc).map (·.1) = (cellsFrom m names acc').map (·.1)
  | [], _, _, _, _, h => h
  | (x, k) :: r, n, m, acc, acc', h => by
    unfold cellsFrom
    split
    · exact cellsFrom_names r _ _ _ _ (by simp [h])
    · exact cellsFrom_names r _ _ _ _ h

/-! a def's frame -/
noncomputable abbrev dfx (f : Fx) (X : List Addr) (e : Env) (hn : 1 ≤ f.n) : Fx :=
  { f with A := f.A.deeper e, env := e, X₀ := X, n := f.n - 1, hh := f.hh, dep := by have := f.dep; show f.A.depth + 1 + (f.n - 1) < _; omega, uni := by have := f.uni; show f.A.units + 3 + 50 * (f.n - 1) < _; omega }
noncomputable def zipS (ps : List Str) (ds : List D) : Sg := (ps.zip ds).map fun x => (x.1, .im x.2)
theorem zip_lookup {X : List Addr} {h : Heap} {x : Str} {d : VD} : ∀ {ps : List Str} {ds : List D} {vs : List Value}, Reps X h ds vs → (zipS ps ds).lookup x = some d → ∃ d' v, d = .im d' ∧ (ps.zip vs).lookup x = some v ∧ Rep X h d' v
  | [], _, _, _, e => by simp [zipS] at e
  | _ :: _, [], _, _, e => by simp [zipS] at e
  | p :: ps, d' :: ds, _, ⟨v, r, rfl, hv, hr⟩, e => by
    have e : List.lookup x ((p, VD.im d') :: zipS ps ds) = some d := e
    by_cases hx : x = p
    · subst hx
      rw [lookup_cons_self] at e; cases e
      exact ⟨d', v, rfl, by simp [List.lookup_cons], hv⟩
    · rw [lookup_cons_ne hx] at e
      obtain ⟨d2, v2, h1, h2, h3⟩ := zip_lookup hr e
      exact ⟨d2, v2, h1, by rw [List.zip_cons_cons, List.lookup_cons, beq_eq_false_iff_ne.mpr hx]; exact h2, h3⟩

theorem Spec.of {k i : Nat} {ds : List D} {d : D} {name : Str} {params : Arguments} {body : List Stmt} {scope : Scope} {pos : Pos} (hfn : fn i = ⟨name, params, body, scope, pos⟩) (ps : List Str) (hlen : ps.length = ds.length)
    (hb : ∀ pm cd doc (vs : List Value), vs.length = ps.length → bindArgs (docDef name params body scope pm cd doc) ⟨vs, []⟩ = pure (ps.zip vs))
    (hps : ps.Nodup) (hk : (ps.all fun y => scope.names.lookup y == some .local || scope.names.lookup y == some .cell) = true) (hnd : ((cellsFrom 0 scope.names []).map (·.1)).Nodup)
    (hco : scope.isCoroutine = false) (hgen : scope.isGenerator = false) (hkf : scope.kind = .function)
    (h : ∀ (f : Fx) (X : List Addr) (L a : Addr) (cd : Value) (hn : 1 ≤ f.n), k + 1 ≤ f.n → Ex (dfx f X (envOfC name scope L a cd) hn) [] (zipS ps ds) body fun r _ _ => r = .ret d) : Spec (k + 1) i ds d := by
  intro f hkn a o pm cd doc ho hdat hcd X s vs S hbare hr
  rw [hfn] at hdat hcd
  simp only at hdat hcd
  have hn : 1 ≤ f.n := by omega
  have hvl : vs.length = ps.length := by rw [hr.length, hlen]
  have hza : ∀ x ∈ ps.zip vs, x.1 ∈ ps := fun x hx => (List.of_mem_zip hx).1
  have hzm : (ps.zip vs).map (·.1) = ps := by rw [List.map_fst_zip]; omega
  refine wpAny_call (call_cells_ret (by have := f.dep; omega) (S.base _ _ ho) hdat S.nolimit (hcd.keeps S.base) (hb pm cd doc vs hvl) (fun x hx => kindsX (scope := scope) (binds := ps.zip vs) (List.all_eq_true.mpr fun y hy => List.all_eq_true.mp hk y.1 (hza y hy)) _ x hx) (fun h₁ tk F Xc => ?_) hco hgen hkf)
  have sN : ∀ b, s.heap.objs.size ≤ b → s.heap.get? b = none := fun b hb => by
    cases e : s.heap.get? b with
    | none => rfl
    | some o => exact absurd (Heap.lt_size e) (Nat.not_lt.mpr hb)
  have p1 : Mv [] s { s with heap := h₁, toks := tk } := .heap (.of_all F.keep)
  have offn : ∀ b ∈ own (envOfC name scope s.heap.objs.size a cd) [], s.heap.get? b = none := fun b hb => by
    rcases List.mem_cons.mp hb with rfl | hb
    · exact sN _ (Nat.le_refl _)
    · have hb : b ∈ (cellsFrom (s.heap.objs.size + 1) scope.names []).map (·.2) := (List.mem_append.mp hb).elim id fun m => nomatch m
      obtain ⟨⟨x, c⟩, hm, rfl⟩ := List.mem_map.mp hb
      exact sN _ (Nat.le_of_lt (Xc.above x c hm))
  have nd' : ((cellsFrom (s.heap.objs.size + 1) scope.names []).map (·.1)).Nodup := by
    rw [cellsFrom_names scope.names (s.heap.objs.size + 1) 0 [] [] rfl]; exact hnd
  have St1 : St (dfx f X (envOfC name scope s.heap.objs.size a cd) hn) [] (zipS ps ds) { s with heap := h₁, toks := tk } := by
    refine ⟨⟨(S.step p1).base, (S.step p1).xs⟩, fun b hb => ?_, ⟨hkf, ⟨_, F.ns⟩, fun x c hm => ⟨_, Xc.cell x c (lookup_of_mem nd' hm)⟩, fun x y c ex ey => name_of_addr Xc.apart (mem_of_lookup ex) (mem_of_lookup ey), rfl, rfl⟩, hbare, (fun _ m => nomatch m), fun x d' e => ?_⟩
    · show f.h₀.get? b = none
      cases e : f.h₀.get? b with
      | none => rfl
      | some o => have := S.base b o e; rw [offn b hb] at this; cases this
    · obtain ⟨d2, v, rfl, hv, hR⟩ := zip_lookup hr e
      refine ⟨v, ?_, Rep.keep p1.keep hR⟩
      have hx : x ∈ ps := hza _ (mem_of_lookup hv)
      have nz : ((ps.zip vs).map (·.1)).Nodup := by rw [hzm]; exact hps
      have hkx := List.all_eq_true.mp hk x hx
      simp only [Bool.or_eq_true, beq_iff_eq] at hkx
      rcases hkx with hkx | hkx
      · exact .inl ⟨hkx, _, F.ns, bindL_mem hkx nz hv⟩
      · have hkx' : (envOfC name scope s.heap.objs.size a cd).kindOf x = some .cell := hkx
        have hc := kindsX (scope := scope) (binds := ps.zip vs) (List.all_eq_true.mpr fun y hy => List.all_eq_true.mp hk y.1 (hza y hy)) (s.heap.objs.size + 1) _ (mem_of_lookup hv)
        rcases hc with hc | ⟨_, hc⟩
        · rw [show scope.names.lookup x = some .cell from hkx] at hc; cases hc
        · obtain ⟨c, hc⟩ := Option.isSome_iff_exists.mp hc
          have := Xc.cell x c hc
          rw [bindC_mem (by rw [hkx']; decide) nz hv] at this
          exact .inr ⟨.inl hkx', c, hc, this⟩
  refine wNoE (h f X _ a cd hn (by omega) _ St1) fun fl s' he => ?_
  obtain ⟨r, Y', σ', hr', S', p', y, rfl⟩ := he
  obtain ⟨v, rfl, hv⟩ := hr'
  refine ⟨p1.since p' (fun x hx => .inr (offn x hx)) (fun _ m => nomatch m), ?_⟩
  exact Rep.sub (fun a m => List.mem_append_right _ m) _ _ hv
end Mine

namespace Mine
open PySem PySem.Calls PyProof.Rows PySem.W
section
variable {f : Fx}

/-! ints -/
theorem toks1 {X : List Addr} {s : Shared} {i : Int} : Mv [] s { s with toks := s.toks + 1 } ∧ Rep X s.heap (.int i) (.int i s.toks) := ⟨.toks, _, rfl⟩
theorem Bin.add {a b : Int} : Bin f (binaryOp .Add) (.int a) (.int b) (.int (a + b)) := fun X s v u S ⟨_, e⟩ ⟨_, e'⟩ => by subst e; subst e'; exact PyProof.Rows.add_int toks1
theorem Bin.sub {a b : Int} : Bin f (binaryOp .Sub) (.int a) (.int b) (.int (a - b)) := fun X s v u S ⟨_, e⟩ ⟨_, e'⟩ => by subst e; subst e'; exact PyProof.Rows.sub_int toks1
theorem Bin.mul {a b : Int} (h : a.natAbs < 2 ^ 64 ∨ b.natAbs < 2 ^ 64) : Bin f (binaryOp .Mult) (.int a) (.int b) (.int (a * b)) := fun X s v u S ⟨_, e⟩ ⟨_, e'⟩ => by
  subst e; subst e'; exact PyProof.Rows.mul_int toks1 (h.elim (fun h => .of_left (intBits_le h)) fun h => .of_right (intBits_le h))
theorem Bin.mod {a b : Int} (hb : b ≠ 0) : Bin f (binaryOp .Mod) (.int a) (.int b) (.int (a.fmod b)) := fun X s v u S ⟨_, e⟩ ⟨_, e'⟩ => by subst e; subst e'; exact PyProof.Rows.mod_int hb toks1
theorem Bin.div {a b : Int} (hb : b ≠ 0) (h : b.natAbs < 1073741824) : Bin f (binaryOp .FloorDiv) (.int a) (.int b) (.int (a.fdiv b)) := fun X s v u S ⟨_, e⟩ ⟨_, e'⟩ => by
  subst e; subst e'; exact floordiv_int hb toks1 (.inl (PyProof.noPylong_small h))
theorem Bin.shl {a n : Int} (hn : 0 ≤ n) (hn2 : n ≤ 1000) (ha : a.natAbs < 2 ^ 64) : Bin f (binaryOp .LShift) (.int a) (.int n) (.int (a * 2 ^ n.toNat)) := fun X s v u S ⟨_, e⟩ ⟨_, e'⟩ => by subst e; subst e'; exact lshift_int_small hn (by omega) ha toks1
theorem Bin.shr {a n : Int} (hn : 0 ≤ n) : Bin f (binaryOp .RShift) (.int a) (.int n) (.int (a.fdiv (2 ^ n.toNat))) := fun X s v u S ⟨_, e⟩ ⟨_, e'⟩ => by subst e; subst e'; exact rshift_int hn toks1
theorem Bin.and {a b : Int} : Bin f (binaryOp .BitAnd) (.int a) (.int b) (.int (Builtin.bitAnd a b)) := fun X s v u S ⟨_, e⟩ ⟨_, e'⟩ => by subst e; subst e'; exact and_int toks1
theorem Bin.xor {a b : Int} : Bin f (binaryOp .BitXor) (.int a) (.int b) (.int (Builtin.bitXor a b)) := fun X s v u S ⟨_, e⟩ ⟨_, e'⟩ => by subst e; subst e'; exact xor_int toks1
theorem Bin.eqI {a b : Int} : Bin f (compareOp .Eq) (.int a) (.int b) (.bool (a == b)) := fun X s v u S ⟨_, e⟩ ⟨_, e'⟩ => by subst e; subst e'; exact PyProof.Rows.eq_int ⟨.refl _ _, rfl⟩
theorem Bin.neI {a b : Int} : Bin f (compareOp .NotEq) (.int a) (.int b) (.bool (a != b)) := fun X s v u S ⟨_, e⟩ ⟨_, e'⟩ => by subst e; subst e'; exact PyProof.Rows.ne_int ⟨.refl _ _, rfl⟩
theorem Bin.ltI {a b : Int} : Bin f (compareOp .Lt) (.int a) (.int b) (.bool (decide (a < b))) := fun X s v u S ⟨_, e⟩ ⟨_, e'⟩ => by subst e; subst e'; exact PyProof.Rows.lt_int ⟨.refl _ _, rfl⟩
theorem Bin.iadd {a b : Int} : Bin f (inplaceOp .Add) (.int a) (.int b) (.int (a + b)) := fun X s v u S ⟨_, e⟩ ⟨_, e'⟩ => by subst e; subst e'; exact P.iadd_int toks1
theorem Bin.isub {a b : Int} : Bin f (inplaceOp .Sub) (.int a) (.int b) (.int (a - b)) := fun X s v u S ⟨_, e⟩ ⟨_, e'⟩ => by subst e; subst e'; exact P.isub_int toks1
theorem Bin.imul {a b : Int} (h : a.natAbs < 2 ^ 64 ∨ b.natAbs < 2 ^ 64) : Bin f (inplaceOp .Mult) (.int a) (.int b) (.int (a * b)) := fun X s v u S ⟨_, e⟩ ⟨_, e'⟩ => by
  subst e; subst e'; exact P.imul_int toks1 (h.elim (fun h => .of_left (intBits_le h)) fun h => .of_right (intBits_le h))
theorem Bin.idiv {a b : Int} (hb : b ≠ 0) (h : b.natAbs < 1073741824) : Bin f (inplaceOp .FloorDiv) (.int a) (.int b) (.int (a.fdiv b)) := fun X s v u S ⟨_, e⟩ ⟨_, e'⟩ => by
  subst e; subst e'; exact ifloordiv_int hb toks1 (.inl (PyProof.noPylong_small h))
theorem Bin.ishl {a n : Int} (hn : 0 ≤ n) (hn2 : n ≤ 1000) (ha : a.natAbs < 2 ^ 64) : Bin f (inplaceOp .LShift) (.int a) (.int n) (.int (a * 2 ^ n.toNat)) := fun X s v u S ⟨_, e⟩ ⟨_, e'⟩ => by subst e; subst e'; exact ilshift_int_small hn (by omega) ha toks1
theorem Bin.ior {a b : Int} : Bin f (inplaceOp .BitOr) (.int a) (.int b) (.int (Builtin.bitOr a b)) := fun X s v u S ⟨_, e⟩ ⟨_, e'⟩ => by subst e; subst e'; exact ior_int toks1
theorem Un.neg {a : Int} : Un f (unaryOp .USub) (.int a) (.int (-a)) := fun X s v S ⟨_, e⟩ => by subst e; exact PyProof.Rows.neg_int toks1
theorem Truth.int {a : Int} : Truth f (.int a) (a != 0) := fun X s v S ⟨_, e⟩ => by subst e; exact PyProof.Rows.truthy_int ⟨.refl _ _, rfl⟩
theorem Truth.bool {a : Bool} : Truth f (.bool a) a := fun X s v S e => by cases e; exact wpAny_truthy_bool ⟨.refl _ _, rfl⟩
theorem Bin.eqB {a b : Bool} : Bin f (compareOp .NotEq) (.bool a) (.bool b) (.bool (a != b)) := fun X s v u S e e' => by cases e; cases e'; exact ne_bool ⟨.refl _ _, rfl⟩

/-! is -/
theorem Bin.isNone {d : D} {b : Bool} (h : (d = .none ∧ b = true) ∨ (∃ i, d = .int i) ∧ b = false) : Bin f (compareOp .Is) d .none (.bool b) := fun X s v u S r r' => by
  cases r'
  rcases h with ⟨rfl, rfl⟩ | ⟨⟨i, rfl⟩, rfl⟩
  · cases r; exact wpAny_is_plain (by rfl) ⟨.refl _ _, rfl⟩
  · obtain ⟨t, rfl⟩ := r; exact wpAny_is_plain (by rfl) ⟨.refl _ _, rfl⟩
theorem Bin.isB {a b : Bool} : Bin f (compareOp .Is) (.bool a) (.bool b) (.bool (a == b)) := fun X s v u S r r' => by
  cases r; cases r'; refine wpAny_is_plain (by rfl) ⟨.refl _ _, ?_⟩; cases a <;> cases b <;> rfl
theorem Bin.isNotB {a b : Bool} : Bin f (compareOp .IsNot) (.bool a) (.bool b) (.bool (a != b)) := fun X s v u S r r' => by
  cases r; cases r'; refine wpAny_isNot_plain (by rfl) ⟨.refl _ _, ?_⟩; cases a <;> cases b <;> rfl

/-! calls -/
theorem CallOf.abs {a : Int} : CallOf f (.builtin "abs") [.int a] (.int (if a < 0 then -a else a)) := fun X s vs S _ r => by
  obtain ⟨v, _, rfl, ⟨t, rfl⟩, hr⟩ := r; cases hr
  exact call_abs_int fun u tk => ⟨.toks, _, rfl⟩
theorem CallOf.int {a : Int} : CallOf f (.type "int") [.int a] (.int a) := fun X s vs S _ r => by
  obtain ⟨v, _, rfl, ⟨t, rfl⟩, hr⟩ := r; cases hr
  exact call_int_int ⟨.refl _ _, _, rfl⟩
theorem CallOf.divmod {a b : Int} (hb : b ≠ 0) (h : b.natAbs < 1073741824) : CallOf f (.builtin "divmod") [.int a, .int b] (.tup [.int (a.fdiv b), .int (a.fmod b)]) := fun X s vs S _ r => by
  obtain ⟨v, _, rfl, ⟨t, rfl⟩, _, _, rfl, ⟨u, rfl⟩, hr⟩ := r; cases hr
  exact divmod_int hb ⟨.heap (.push _ _), _, _, rfl, ⟨_, Heap.get?_push_size _ rfl, rfl, _, rfl⟩, _, _, rfl, ⟨_, rfl⟩, _, _, rfl, ⟨_, rfl⟩, rfl⟩ (.inl (PyProof.noPylong_small h))
theorem CallOf.min {a b : Int} : CallOf f (.builtin "min") [.int a, .int b] (.int (if b < a then b else a)) := fun X s vs S _ r => by
  obtain ⟨v, _, rfl, ⟨t, rfl⟩, _, _, rfl, ⟨u, rfl⟩, hr⟩ := r; cases hr
  refine min_two_ints f.hh fun h' tk k => ⟨.heap (.of_all k), ?_⟩
  split <;> exact ⟨_, rfl⟩
theorem CallOf.chr {a : Int} (h0 : 0 ≤ a) (h1 : a ≤ 1114111) : CallOf f (.builtin "chr") [.int a] (.str ⟨#[a.toNat]⟩) := fun X s vs S _ r => by
  obtain ⟨v, _, rfl, ⟨t, rfl⟩, hr⟩ := r; cases hr
  exact chr_of_range h0 h1 ⟨.toks, _, rfl⟩
theorem CallOf.lenL {l : List D} (h : l.length ≤ sizeLine) : CallOf f (.builtin "len") [.lst l] (.int l.length) := fun X s vs S _ r => by
  obtain ⟨v, _, rfl, ⟨a, us, rfl, _, hl, hu⟩, hr⟩ := r; cases hr
  refine call_len_list hl (by rw [List.size_toArray, hu.length]; have : sizeLine < 2 ^ 62 := by decide
                              omega) ⟨.toks, s.toks + 1, by rw [List.size_toArray, hu.length]⟩
theorem CallOf.lenS {x : Str} (h : x.length ≤ sizeLine) : CallOf f (.builtin "len") [.str x] (.int x.length) := fun X s vs S _ r => by
  obtain ⟨v, _, rfl, ⟨t, rfl⟩, hr⟩ := r; cases hr
  exact PyProof.Rows.len_str (by have : sizeLine < 2 ^ 62 := by decide
                                 omega) ⟨.toks, _, rfl⟩

/-! lists -/
theorem Bin.addL {a b : List D} (hz : a.length + b.length ≤ sizeLine) : Bin f (binaryOp .Add) (.lst a) (.lst b) (.lst (a ++ b)) := fun X s v u S ⟨l, vs, e, hl, h1, r⟩ ⟨l', vs', e', hl', h1', r'⟩ => by
  subst e; subst e'
  obtain ⟨⟨c, dd, data, sl⟩, g1, g2, n, g3⟩ := h1
  obtain ⟨⟨c', dd', data', sl'⟩, g1', g2', n', g3'⟩ := h1'
  simp only at g2 g3 g2' g3'
  subst g2 g3 g2' g3'
  refine concat_meets ⟨_, g1, rfl⟩ ⟨_, g1', rfl⟩ noFill_list_add seq_list_add PySem.F.slot_list_add PySem.F.entry_list_add (PySem.F.args_list_add_2 _ _) (list_addW l l' vs.toArray vs'.toArray n n' dd dd' sl sl' (by simpa [r.length, r'.length] using hz)) ⟨g1, g1', ?_⟩
  have p : Mv [] s { s with heap := s.heap.push { cls := .type "list", data := .seq (vs.toArray ++ vs'.toArray) } } := .push
  exact ⟨p, _, vs ++ vs', rfl, S.fresh (fresh_none _), ⟨_, Heap.get?_push_size _ rfl, rfl, 0, by simp⟩, (r.append r').keep p.keep⟩
theorem Sub.list {l : List D} {i : Nat} {d : D} (h : l[i]? = some d) (hi : i < 2 ^ 62) : Sub f (.lst l) (.int i) d := fun X s v u value slice S ⟨a, vs, e, ha, hl, r⟩ ⟨t, e'⟩ hs => by
  subst e; subst e'
  obtain ⟨x, hx, hR⟩ := r.get h
  exact tail_any hl.typeIs slot_list_getitem.lookup (wpAny_getItem_list hl (by omega) (by omega) (by simpa using hx) ⟨.refl _ _, hR⟩) (hs _ _)
theorem Sub.tup {l : List D} {i : Nat} {d : D} (h : l[i]? = some d) (hi : i < 2 ^ 62) : Sub f (.tup l) (.int i) d := fun X s v u value slice S ⟨a, vs, e, hl, r⟩ ⟨t, e'⟩ hs => by
  subst e; subst e'
  obtain ⟨x, hx, hR⟩ := r.get h
  have hlt : i < vs.length := by
    rw [r.length]; exact (List.getElem?_eq_some_iff.mp h).1
  refine item_tupleT (l := vs) (j := i) hl (by omega) (by omega) (by simp [seqIndex?]; omega) hx ⟨.refl _ _, hR⟩ (hs _ _)
theorem Bin.inInts {k : Int} {l : List Int} : Bin f (compareOp .In) (.int k) (.lst (dI l)) (.bool (l.any (· == k))) := fun X s v u S ⟨t, e⟩ ⟨a, vs, e', ha, hl, r⟩ => by
  subst e; subst e'
  exact in_list_ints hl r.intsAre ⟨.refl _ _, rfl⟩
theorem Bin.notInInts {k : Int} {l : List Int} : Bin f (compareOp .NotIn) (.int k) (.lst (dI l)) (.bool (!l.any (· == k))) := fun X s v u S ⟨t, e⟩ ⟨a, vs, e', ha, hl, r⟩ => by
  subst e; subst e'
  exact notin_list_ints hl r.intsAre ⟨.refl _ _, rfl⟩

/-! strings -/
theorem Bin.eqS {a b : Str} : Bin f (compareOp .Eq) (.str a) (.str b) (.bool (a == b)) := fun X s v u S ⟨_, e⟩ ⟨_, e'⟩ => by subst e; subst e'; exact PyProof.Rows.eq_str ⟨.refl _ _, rfl⟩
theorem Bin.addS {a b : Str} (h : a.length + b.length ≤ sizeLine) : Bin f (binaryOp .Add) (.str a) (.str b) (.str (a ++ b)) := fun X s v u S ⟨_, e⟩ ⟨_, e'⟩ => by subst e; subst e'; exact PyProof.Rows.add_str (fun t' tk => ⟨.toks, _, rfl⟩) h
theorem Bin.notInS {a b : Str} : Bin f (compareOp .NotIn) (.str a) (.str b) (.bool (!Txt.contains b a)) := fun X s v u S ⟨_, e⟩ ⟨_, e'⟩ => by subst e; subst e'; exact SB.notContains ⟨.refl _ _, rfl⟩
theorem Sub.str {x : Str} {i : Int} {c : Nat} (hr : -(2 ^ 62) < i ∧ i < 2 ^ 62) (hc : (seqIndex? i x.length).bind (x.cps[·]?) = some c) : Sub f (.str x) (.int i) (.str ⟨#[c]⟩) := fun X s v u value slice S ⟨t, e⟩ ⟨t', e'⟩ hs => by
  subst e; subst e'
  exact tail_any (typeIs_str _ _ _) F.slot_str_getitem.lookup (PyProof.Rows.getItem_str (by simp; omega) hc ⟨.toks, _, rfl⟩) (hs _ _)
end
end Mine

namespace Mine
open PySem PySem.Calls PyProof.Rows PySem.W
section
variable {f : Fx} {Y : List Addr} {σ : Sg}

/-! slices -/
noncomputable def EvP (f : Fx) (Y : List Addr) (σ : Sg) (x : Option Expr) (o : Option Int) : Prop :=
  (x = none ∧ o = none) ∨ ∃ e i, x = some e ∧ o = some i ∧ Ev f Y σ e (.int i)
theorem EvP.none : EvP f Y σ none none := .inl ⟨rfl, rfl⟩
theorem EvP.some {e : Expr} {i : Int} (h : Ev f Y σ e (.int i)) : EvP f Y σ (some e) (some i) := .inr ⟨e, i, rfl, rfl, h⟩
theorem EvP.run {x : Option Expr} {o : Option Int} (h : EvP f Y σ x o) {s : Shared} (S : St f Y σ s) : wpAny f.M f.A (evalPart x f.env) (fun v s' => Mv [] s s' ∧ IsPart v o) NoE s := by
  rcases h with ⟨rfl, rfl⟩ | ⟨e, i, rfl, rfl, h⟩
  · exact evalPart_none_step ⟨.refl _ _, .none⟩
  · exact evalPart_some_step (wNoE (h s S) fun v s' ⟨p, t, e⟩ => ⟨p, by rw [e]; exact .int i t⟩)
theorem Ev.slice {o : Expr} {lo hi : Option Expr} {p pos : Pos} {a c : D} {l u : Option Int} (ho : Ev f Y σ o a) (hl : EvP f Y σ lo l) (hu : EvP f Y σ hi u) (hs : SliceOf f a l u c)
    (hp : ∀ o' i', subscripted (.Slice lo hi none p) false o' i' = operate [i', o'] (getItem o' i') := by intro _ _; rfl) : Ev f Y σ (.Subscript o (.Slice lo hi none p) pos) c := fun s S =>
  Subscript_ (wNoE (ho s S) fun v s1 h1 => wpAny_Slice (wNoE (hl.run (S.step h1.1)) fun vl s2 h2 => wNoE (hu.run (S.step (h1.1.trans h2.1))) fun vu s3 h3 => evalPart_none_step (by
    have p3 := h1.1.trans (h2.1.trans h3.1)
    exact wNoE (hs _ s3 v vl vu o _ (S.toOk.step p3) (h1.2.keep (h2.1.trans h3.1).keep) h2.2 h3.2 hp) fun r s4 h4 => ⟨p3.trans (h4.1), h4.2⟩)))

theorem SliceOf.list {l c : List D} {lo hi : Option Int} (hc : ∀ vs : List Value, ∃ ws : List Value, slicePick vs.toArray lo hi none = ws.toArray ∧ ∀ X h, Reps X h l vs → Reps X h c ws) (hz : l.length ≤ sizeLine) : SliceOf f (.lst l) lo hi (.lst c) := fun X s v vl vu value slice S ⟨a, vs, e, ha, hL, r⟩ pl pu hs => by
  subst e
  obtain ⟨ws, hw, hR⟩ := hc vs
  have p1 : Mv [] s { s with heap := s.heap.push { cls := .type "slice", data := .fields #[vl, vu, .none] } } := .push
  have hL1 := hL.push { cls := .type "slice", data := .fields #[vl, vu, .none] }
  have S1 := S.step p1
  refine tail_any (Heap.IsList.typeIs (s := { s with heap := s.heap.push { cls := .type "slice", data := .fields #[vl, vu, .none] } }) hL1) list_getitem_lookup
    (wpAny_getItem_list_slice hL1 (Heap.IsSliceOf.new ..) pl pu .none (by simp) ?_ (by rw [List.size_toArray, r.length]; exact hz)) (hs _ _)
  have p2 : Mv [] s { s with heap := (s.heap.push { cls := .type "slice", data := .fields #[vl, vu, .none] }).push { cls := .type "list", data := .seq (slicePick vs.toArray lo hi none) } } := p1.trans .push
  refine ⟨p2, _, ws, rfl, S1.fresh (fresh_none _), ⟨_, Heap.get?_push_size _ rfl, rfl, 0, by rw [hw]⟩, (hR _ _ r).keep p2.keep⟩
theorem SliceOf.upto {l : List D} {n : Nat} (hz : l.length ≤ sizeLine) : SliceOf f (.lst l) none (some n) (.lst (l.take n)) :=
  .list (fun vs => ⟨vs.take n, by rw [slicePick_upto'], fun _ _ r => r.take n⟩) hz
theorem SliceOf.bytes {b : Array UInt8} {lo hi : Option Int} (hz : b.size ≤ sizeLine) : SliceOf f (.bytes b) lo hi (.bytes (KBy.picked b lo hi)) := fun X s v vl vu value slice S ⟨t, e⟩ pl pu hs => by
  subst e
  refine tail_any (typeIs_bytes _ _ _) FB.slot_bytes_getitem.lookup (getItem_meets (typeIs_bytes _ _ _) (by decide) FB.slot_bytes_getitem FB.entry_bytes_getitem (FB.args_bytes_getitem_2 _ _) (KBc.meets_slice2 b t _ pl pu)
    ⟨Heap.IsSliceOf.new _ _ _ _, ?_, fun t' k => ⟨.heap (.push _ _), _, rfl⟩⟩) (hs _ _)
  exact Nat.le_trans (KBc.size_picked_le b lo hi) hz
theorem SliceOf.str {x : Str} {lo hi : Option Int} (hz : x.length ≤ sizeLine) : SliceOf f (.str x) lo hi (.str (Txt.slice x lo hi)) := fun X s v vl vu value slice S ⟨t, e⟩ pl pu hs => by
  subst e
  have key : ∀ l u : Option (Int × Tok), vl = partValue l → vu = partValue u → l.map (·.1) = lo → u.map (·.1) = hi → wpAny f.M f.A (subscriptTail value slice (.str x t) (.ref s.heap.objs.size)) (fun r s' => Mv [] s s' ∧ Rep X s'.heap (.str (Txt.slice x lo hi)) r) NoE { s with heap := s.heap.push { cls := .type "slice", data := .fields #[vl, vu, .none] } } := by
    rintro l u rfl rfl rfl rfl
    exact tail_any (typeIs_str _ _ _) F.slot_str_getitem.lookup (wpAny_getItem_str_slice (l := l) (u := u) (st := none) ⟨_, Heap.get?_push_size _ rfl, rfl, rfl⟩ rfl
      (post_val_or_str ⟨Nat.le_trans (Txt.slice_le x _ _) hz, fun t' k => ⟨.heap (.push _ _), _, rfl⟩⟩)) (hs _ _)
  cases pl with
  | none => cases pu with
    | none => exact key none none rfl rfl rfl rfl
    | int j u => exact key none (some (j, u)) rfl rfl rfl rfl
  | int i t => cases pu with
    | none => exact key (some (i, t)) none rfl rfl rfl rfl
    | int j u => exact key (some (i, t)) (some (j, u)) rfl rfl rfl rfl

/-! bytes -/
theorem Bin.addB {a b : Array UInt8} (h : a.size + b.size ≤ 16777216) : Bin f (binaryOp .Add) (.bytes a) (.bytes b) (.bytes (a ++ b)) := fun X s v u S ⟨_, e⟩ ⟨_, e'⟩ => by
  subst e; subst e'; exact KBy.add_bytes h fun t' k => ⟨.toks, _, rfl⟩

/-! sums -/
theorem CallOf.sum {l : List Int} : CallOf f (.builtin "sum") [.lst (dI l)] (.int l.sum) := fun X s vs S _ r => by
  obtain ⟨v, _, rfl, ⟨a, us, rfl, _, hl, hu⟩, hr⟩ := r; cases hr
  have hi := hu.intsAre
  obtain ⟨xs, e⟩ := hi.allInts.items
  refine sum_intListG f.hh (xs := xs) (e ▸ hl) fun h' tk t' k => ⟨.heap (.of_all k), t', ?_⟩
  have h2 : numsOf us.toArray.toList = l := hi.numsOf
  rw [e, nums_intItems] at h2
  rw [preSum_eq, List.take_of_length_le (by simp), h2]
/-! list(range(n)) -/
theorem evRange {x : Str} {np pos : Pos} {e : Expr} {n : Nat} (hx : x = ("range" : Str)) (h : Ev f Y σ e (.int n)) (hk : f.env.kindOf x = some .globalImplicit) (he : starEach [e] f.env = [(false, eval e f.env)]) {s : Shared} (S : St f Y σ s) :
    wpAny f.M f.A (eval (.Call (.Name x np) [e] [] pos) f.env) (fun v s' => ∃ r t u t', v = .ref r ∧ IsRange s'.heap r 0 n 1 t u t' ∧ Mv [] s s') NoE s := by
  subst hx
  refine Call_ (blt_name S (by decide) (v := .type "range") (by decide +kernel) hk (PyProof.Rows.callWith_type1 (args_cons (wNoE (h s S) fun v s1 h1 => args_nil ?_) he) he) (by decide))
  obtain ⟨p, t, rfl⟩ := h1
  refine call_range_1 ⟨_, _, _, _, rfl, IsRange.new .., p.trans (.heap (.push _ _))⟩
theorem Reps.of_get {X : List Addr} {h : Heap} : ∀ {l : List D} {vs : List Value}, vs.length = l.length → (∀ (i : Nat) d v, l[i]? = some d → vs[i]? = some v → Rep X h d v) → Reps X h l vs
  | [], [], _, _ => rfl
  | [], _ :: _, e, _ => by simp at e
  | _ :: _, [], e, _ => by simp at e
  | d :: l, v :: vs, e, k => .cons (k 0 d v rfl rfl) (Reps.of_get (by simpa using e) fun i d v h1 h2 => k (i + 1) d v (by simpa using h1) (by simpa using h2))
theorem Reps.of_items {X : List Addr} {h : Heap} {n : Nat} {acc : Array Value} (H : ItemsOf (fun i v => ∃ t, v = .int ((0 : Int) + i * 1) t) acc n) : Reps X h (dI (rangeInts 0 1 n)) acc.toList := by
  obtain ⟨h1, h2⟩ := H
  refine .of_get (by simp [dI, h1, rangeInts_length]) fun i d v e1 e2 => ?_
  have hi : i < n := by have := (List.getElem?_eq_some_iff.mp e1).1; simpa [dI, rangeInts_length] using this
  simp only [dI, List.getElem?_map, rangeInts_get hi, Option.map_some, Option.some.injEq] at e1
  subst e1
  exact h2 i v (by simpa using e2)
theorem Ev.listRange {x y : Str} {np np' pos pos' : Pos} {e : Expr} {n : Nat} (hn : n ≤ 2 ^ 20) (h : Ev f Y σ e (.int n)) (hx : x = ("range" : Str)) (hy : y = ("list" : Str)) (hk : f.env.kindOf x = some .globalImplicit := by rfl) (hk' : f.env.kindOf y = some .globalImplicit := by rfl)
    (he : starEach [e] f.env = [(false, eval e f.env)] := by rfl) (he' : starEach [.Call (.Name x np') [e] [] pos'] f.env = [(false, eval (.Call (.Name x np') [e] [] pos') f.env)] := by rfl) :
    Ev f Y σ (.Call (.Name y np) [.Call (.Name x np') [e] [] pos'] [] pos) (.lst (dI (rangeInts 0 1 n))) := fun s S => by
  subst hy
  refine Call_ (blt_name S (by decide) (v := .type "list") (by decide +kernel) hk' (PyProof.Rows.callWith_type1 (args_cons (wNoE (evRange hx h hk he S) fun v s1 h1 => args_nil ?_) he') he') (by decide))
  obtain ⟨r, t, u, t', rfl, hr, p⟩ := h1
  have S1 := S.step p
  refine call_list_range f.hh hr (small_one (by decide) (by decide) (by omega) (by omega)) (rangeSize_nat 0 n) (by omega) fun h' tk acc c' k ho hi => ?_
  have p2 := p.trans (Mv.heap (t := tk) (.of_all k))
  exact ⟨p2, _, acc.toList, rfl, S1.toOk.fresh (fresh_none _), ⟨_, ho, rfl, c', by simp⟩, Reps.of_items hi⟩
end
end Mine

namespace Mine
open PySem PySem.Calls PyProof.Rows PySem.W
section
variable {f : Fx} {Y : List Addr} {σ : Sg}

/-! an own list is handed on as it stands -/
theorem Ex.freeze {x : Str} {a : Addr} {l : List D} {σ0 : Sg} {ss : List Stmt} {Q : Post} (h : Ex f Y ((x, .im (.lst l)) :: σ0) ss Q) (hx : σ.lookup x = some (.mut a l)) (ha : a ∉ Y) (hn : ∀ y d, σ0.lookup y = some d → σ.lookup y = some d ∧ ∃ d', d = .im d') : Ex f (a :: Y) σ ss Q := fun s S => by
  have hsub : ∀ b, b ∈ Y ++ f.X₀ → b ∈ (a :: Y) ++ f.X₀ := fun b m => List.mem_cons_of_mem _ m
  have S1 : St f Y ((x, .im (.lst l)) :: σ0) s := by
    refine ⟨⟨S.base, fun b m => S.xs b (hsub b m)⟩, fun b m => S.off b ?_, S.frm, S.bare, fun b m => S.ys b (List.mem_cons_of_mem _ m), fun y d e => ?_⟩
    · rcases List.mem_cons.mp m with rfl | m
      · exact own_loc
      · rcases List.mem_append.mp m with m | m
        · exact List.mem_cons_of_mem _ (List.mem_append_left _ m)
        · exact own_mut (List.mem_cons_of_mem _ m)
    · by_cases hy : y = x
      · subst hy
        rw [lookup_cons_self] at e; cases e
        obtain ⟨v, H, rfl, am, vs, P, R⟩ := S.vars y _ hx
        refine ⟨.ref a, H, a, vs, rfl, fun m => ?_, P.isList, Reps.sub hsub _ _ R⟩
        rcases List.mem_append.mp m with m | m
        · exact ha m
        · exact (S.ys a List.mem_cons_self).1 m
      · rw [lookup_cons_ne hy] at e
        obtain ⟨e1, d', rfl⟩ := hn y d e
        obtain ⟨v, H, r⟩ := S.vars y _ e1
        exact ⟨v, H, Rep.sub hsub _ _ r⟩
  refine wNoE (h s S1) fun fl s' hR => ?_
  obtain ⟨r, Y', σ', hr, S', p, y, q⟩ := hR
  refine ⟨r, Y', σ', hr, S', p.mono (fun b m => ?_) (fun _ m => m), fun b m => (y b m).imp (fun m => List.mem_cons_of_mem _ m) id, q⟩
  rcases List.mem_cons.mp m with rfl | m
  · exact own_loc
  · rcases List.mem_append.mp m with m | m
    · exact List.mem_cons_of_mem _ (List.mem_append_left _ m)
    · exact own_mut (List.mem_cons_of_mem _ m)

/-! for t in x where x is an own list that stands still meanwhile -/
theorem Ex1.forMut {t : Expr} {x : Str} {np : Pos} {a : Addr} {ds : List D} {body : List Stmt} {pos : Pos} {Q : Post} (ha : a ∈ Y) (I : List D → Sg → Prop) (hI : ∀ pre σ', I pre σ' → σ'.lookup x = some (.mut a ds)) (h0 : I [] σ)
    (step : ∀ pre d post σ', ds = pre ++ d :: post → I pre σ' → ∃ σ'', tgt t d σ' = some σ'' ∧ Ex f Y σ'' body fun r Y' σ3 => match r with
      | .next | .cont => Y' = Y ∧ I (pre ++ [d]) σ3
      | .brk => Q .next Y' σ3
      | .ret d => Q (.ret d) Y' σ3)
    (fin : ∀ σ', I ds σ' → Q .next Y σ') (ok : tgtOk f.env t) (hd : (x == ("__debug__" : Str)) = false := by decide) (hn : (x == ("__classdict__" : Str)) = false := by decide)
    (hs : ∀ y, foldedSetIterable (.Name x np) f.env y = pure y := by intro _; rfl) : Ex1 f Y σ (.For t (.Name x np) body [] pos) Q := fun s S => by
  refine wpAny_For (nameMut S (hI _ _ h0) ?_ hd hn) hs
  obtain ⟨_, _, _, _, vs0, P0, _⟩ := S.vars x _ (hI _ _ h0)
  refine wpAny_pyIter_list P0.isList ?_
  generalize hIt : s.heap.objs.size = it
  have nIt : s.heap.get? it = none := hIt ▸ fresh_none _
  generalize hH : s.heap.push { cls := .type "list_iterator", data := .fields #[.ref a, .int 0 0] } = H
  have mv : Mv [] s { s with heap := H } := hH ▸ .push
  have hit0 : H.IsListIter it a 0 := by rw [← hH, ← hIt]; exact ⟨_, Heap.get?_push_size _ rfl, rfl, rfl⟩
  have nf : ∀ b ∈ [it], s.heap.get? b = none := fun b m => by rw [List.mem_singleton.mp m]; exact nIt
  have apart := own_apart S nf
  have nons : ∀ {i : Nat} {s' : Shared}, s'.heap.IsListIter it a i → ∀ b ∈ [it], ∀ o, s'.heap.get? b = some o → ¬ isSeqObj o := fun ⟨o, ho, hc, hd⟩ b m o' e => by rw [List.mem_singleton.mp m, ho] at e; cases e; exact nonseq_fields hd
  refine codeAny_forLoop_any (fun k s' => ∃ i σ', i ≤ ds.length ∧ k = ds.length + 1 - i ∧ St f Y σ' s' ∧ s'.heap.IsListIter it a i ∧ I (ds.take i) σ' ∧ Mv (own f.env Y) s s') ?_ (ds.length + 1)
    ⟨0, σ, Nat.zero_le _, rfl, S.step mv, hit0, by simpa using h0, mv.wide⟩
  rintro k s' ⟨i, σ', hi', rfl, S', hit, hI', p⟩
  obtain ⟨_, _, _, _, vs, P, hr⟩ := S'.vars x _ (hI _ _ hI')
  have hl := P.isList
  by_cases hlt : i < ds.length
  · have hd : ds[i]? = some ds[i] := by simp [hlt]
    have hsplit : ds = ds.take i ++ ds[i] :: ds.drop (i + 1) := by
      rw [← List.drop_eq_getElem_cons hlt, List.take_append_drop]
    obtain ⟨v, hv, hR⟩ := hr.get hd
    refine wpAny_pyNext_list_item hit hl (x := v) (by simpa using hv) fun h' hit' hs => ?_
    have p3 : Mv [it] s' { s' with heap := h' } := .heap' (keep_ext hs.extBut)
    have S3 : St f Y σ' { s' with heap := h' } := St.fed S S' p3 nf (nons hit)
    have p03 : Mv (own f.env Y) s { s' with heap := h' } := p.since p3 (fun a m => .inr (nf a m)) (fun _ m => nomatch m)
    refine go_listiter hit' t v _ _ ?_
    obtain ⟨σ'', ht, hb⟩ := step _ _ _ σ' hsplit hI'
    obtain ⟨oi, hoi, _, hdi⟩ := hit
    refine assign_tgt S3 (Rep.seq (seq_of_nons hs.extBut hoi (nonseq_fields hdi)) _ _ hR) ht ok fun s4 S4 p4 => ?_
    refine wNoE (hb s4 S4) fun fl s5 h5 => ?_
    obtain ⟨r, Y', σ3, hr, S5, p5, y, q⟩ := h5
    have p35 : Mv (own f.env Y) _ s5 := p4.trans p5
    have p05 := p03.trans p35
    have y' : ∀ a, a ∈ Y' → a ∈ Y ∨ s.heap.get? a = none := fun a m => (y a m).elim .inl fun n => (Classical.em (a ∈ Y)).elim .inl fun nY => .inr (by
        cases e : s.heap.get? a with
        | none => rfl
        | some o => exact absurd (y_of S S4 (p03.trans p4) e n) nY)
    have again : Y' = Y → I (ds.take i ++ [ds[i]]) σ3 → ∃ m, m < ds.length + 1 - i ∧ ∃ i σ', i ≤ ds.length ∧ m = ds.length + 1 - i ∧ St f Y σ' s5 ∧ s5.heap.IsListIter it a i ∧ I (ds.take i) σ' ∧ Mv (own f.env Y) s s5 := by
      rintro rfl hI2
      refine ⟨ds.length + 1 - (i + 1), by omega, i + 1, σ3, hlt, rfl, S5, ?_, ?_, p05⟩
      · exact hit'.at fun o e => p35.keep it o (apart it (by simp)) e
      · rw [List.take_add_one, hd]; exact hI2
    cases r with
    | next => cases hr; exact again q.1 q.2
    | cont => cases hr; exact again q.1 q.2
    | brk => cases hr; exact ⟨.next, Y', σ3, rfl, S5, p05, y', q⟩
    | ret d => obtain ⟨u, rfl, hu⟩ := hr; exact ⟨.ret d, Y', σ3, ⟨u, rfl, hu⟩, S5, p05, y', q⟩
  · have hin : i = ds.length := by omega
    subst hin
    refine wpAny_pyNext_list_end f.hh hit hl (by simp [hr.length]) fun h' he => ?_
    have p3 : Mv [it] s' { s' with heap := h' } := .heap' (keep_ext he)
    refine wpAny_execs_nil (Ex1.ret_ (r := .next) (St.fed S S' p3 nf (nons hit)) (p.since p3 (fun a m => .inr (nf a m)) (fun _ m => nomatch m)) rfl (fin σ' ?_))
    rw [List.take_length] at hI'; exact hI'

/-! a, b = e where e gives a list -/
theorem unpackItems_list {a : Addr} {items : List Value} {s : Shared} {Q : List Value → Shared → Prop} {E : Value → Shared → Prop} (ht : s.heap.IsList a items.toArray)
    (hQ : ∀ s', Mv [] s s' → Q items s') : wpAny f.M f.A (unpackItems (.ref a) items.length none) Q E s :=
  (kun_itemsOf f.hh ht fun h' he => hQ _ (.heap' (.of_all fun b o e => he b o (Nat.ne_of_lt (Heap.lt_size e)) e)) : wpAny f.M f.A (unpackItems (.ref a) items.toArray.size none) Q E s)
theorem Ex1.unpackL {es : List Expr} {k : Nat} {tp pos : Pos} {e : Expr} {l : List D} {σ' : Sg} {Q : Post} (h : Ev f Y σ e (.lst l)) (ht : tgt (.Tuple es k tp) (.tup l) σ = some σ') (ok : tgtOk f.env (.Tuple es k tp)) (q : Q .next Y σ')
    (hs : swapsWithSole [.Tuple es k tp] e pos.line f.env = pure false := by rfl) (hw : swappedStores [.Tuple es k tp] e f.env = pure none := by rfl) : Ex1 f Y σ (.Assign [.Tuple es k tp] e pos) Q := fun s S =>
  Assign_Tuple (wNoE (h s S) fun v s1 h1 => by
    obtain ⟨p, a, vs, rfl, ha, hl, hr⟩ := h1
    cases hn : namesOf es with
    | none => simp only [tgt, hn, Option.bind_none] at ht; cases ht
    | some xs =>
      simp only [tgt, hn, Option.bind_some] at ht
      split at ht
      · rename_i hl'
        cases ht
        obtain ⟨e1, e2⟩ := assignEach_names (env := f.env) es xs hn
        rw [PyProof.Rows.assign_Tuple]
        refine wpAny_bind (wpAny_standAt ?_)
        unfold PySem.unpack
        rw [e2, show (assignEach es f.env).length = vs.length by rw [e1, hl', hr.length]]
        refine wpAny_bind (wpAny_holding (unpackItems_list hl fun s2 p2 => ?_))
        exact assign_names (fun _ m => m) es xs hn (fun x m => (ok xs hn x m).w) hl' ((S.step p).step p2) (hr.keep p2.keep) fun s3 S3 p3 => Ex1.ret_ (r := .next) S3 ((p.trans p2).wide.trans p3) rfl q
      · cases ht) hs hw

/-! sep.join(list) -/
theorem StrVals {X : List Addr} {h : Heap} : ∀ {l : List Str} {vs : List Value}, Reps X h (dS l) vs → ∃ ps : List (Str × Tok), vs = strValues ps ∧ ps.map (·.1) = l
  | [], _, r => by cases r; exact ⟨[], rfl, rfl⟩
  | x :: l, _, ⟨v, r, e, ⟨t, hv⟩, hr⟩ => by
    obtain ⟨ps, h1, h2⟩ := StrVals (l := l) hr
    subst e; subst hv; subst h1
    exact ⟨(x, t) :: ps, rfl, by simp [h2]⟩
theorem Ev.join {b e : Expr} {apos cpos : Pos} {x : Str} {l : List Str} (hb : Ev f Y σ b (.str x)) (h : Ev f Y σ e (.lst (dS l))) (hok : JoinOk x l = true)
    (he : starEach [e] f.env = [(false, eval e f.env)] := by rfl)
    (hm : ∃ pl : Sem Bool, eval (.Call (.Attribute b "join" apos) [e] [] cpos) f.env = (do
      let ov ← eval b f.env
      standAt apos.atName
      let (f', first) ← holding [ov] (getMethod ov "join" pl)
      callWith cpos f' first (backTo cpos (starEach [e] f.env)) []) := by exact ⟨_, rfl⟩) :
    Ev f Y σ (.Call (.Attribute b "join" apos) [e] [] cpos) (.str (Txt.join x l)) := fun s S => by
  obtain ⟨pl, hm⟩ := hm
  refine MethodCall_ (pl := pl) (wNoE (hb s S) fun v s1 h1 => ?_) hm
  obtain ⟨p1, t, rfl⟩ := h1
  refine GM.join (callWith_method1 (args_cons (wNoE (h s1 (S.step p1)) fun u s2 h2 => args_nil ?_) he) he)
  obtain ⟨p2, a, vs, rfl, ha, hl, hr⟩ := h2
  obtain ⟨ps, rfl, hps⟩ := StrVals hr
  exact SC.join hl hps hok fun t' k => ⟨p1.trans (p2.trans .toks), t', rfl⟩
end
end Mine

namespace Mine
open PySem PySem.Calls PyProof.Rows PySem.W

/-! what a table of names has -/
noncomputable def Has (σ τ : Sg) : Prop := ∀ x d, τ.lookup x = some d → σ.lookup x = some d
theorem Has.nil {σ : Sg} : Has σ [] := fun _ _ e => by simp at e
theorem Has.cons {σ τ : Sg} {x : Str} {d : VD} (h : Has σ τ) (e : σ.lookup x = some d := by rfl) : Has σ ((x, d) :: τ) := fun y d' e' => by
  by_cases hy : y = x
  · subst hy; rw [lookup_cons_self] at e'; cases e'; exact e
  · rw [lookup_cons_ne hy] at e'; exact h y d' e'

theorem tgtOk_all {env : Env} {es : List Expr} {k : Nat} {p : Pos} (h : (((namesOf es).getD []).all fun x => env.kindOf x == some .local || (env.kindOf x == some .cell && (env.cells.lookup x).isSome)) = true := by rfl) : tgtOk env (.Tuple es k p) := fun xs hx x m => by
  rw [hx] at h
  have := List.all_eq_true.mp h x m
  simp only [Bool.or_eq_true, Bool.and_eq_true, beq_iff_eq] at this
  exact this

/-! Int2AP -/
noncomputable def apN (n : Nat) : List Nat := if n = 0 then [] else if n < 16 then [65 + n] else [65 + n / 16, 65 + n % 16]
noncomputable def bts (l : List Nat) : Array UInt8 := (l.map UInt8.ofNat).toArray
theorem apN_step {m : Nat} (h : m ≠ 0) (h2 : m < 256) (v : List Nat) : apN (m / 16) ++ ((65 + m % 16) :: v) = apN m ++ v := by
  unfold apN
  by_cases h16 : m < 16
  · have e : m / 16 = 0 := by lia
    have e' : m % 16 = m := by lia
    simp [h, h16, e, e']
  · have e : m / 16 ≠ 0 := by lia
    have e' : m / 16 < 16 := by lia
    simp [h, h16, e, e']
theorem pick_ap : ∀ m < 16, KBy.picked #[65, 66, 67, 68, 69, 70, 71, 72, 73, 74, 75, 76, 77, 78, 79, 80] (some (m : Nat)) (some ((m : Nat) + 1)) = bts [65 + m] := by decide +kernel
theorem bts_cons (a : Nat) (l : List Nat) : bts [a] ++ bts l = bts (a :: l) := by simp [bts]
theorem bts_size (l : List Nat) : (bts l).size = l.length := by simp [bts]
theorem spec_Int2AP {n : Int} (hn : n.natAbs < 256) : Spec 1 4 [.int n] (.bytes (bts (apN n.natAbs))) := by
  refine Spec.of rfl ["num"] rfl (fun pm cd doc vs hv => ?_) ?_ ?_ ?_ ?_ ?_ ?_ ?_
  · obtain ⟨v, rfl⟩ := List.length_eq_one_iff.mp hv
    rfl
  · decide
  · rfl
  · decide
  · rfl
  · rfl
  · rfl
  · intro f X L a cd _ _
    refine Ex.cons (Ex1.assign Ev.cBytes ?_)
    refine Ex.cons (Ex1.assign Ev.cBytes ?_)
    refine Ex.cons (Ex1.assign (Ev.callT (by decide +kernel) (Evs.cons (Ev.callB (by decide +kernel) (Evs.cons (Ev.name rfl) .nil) CallOf.abs) .nil) CallOf.int) ?_)
    refine Ex.cons (Ex1.while_ (fun k σ' => ∃ v : List Nat, v.length + k ≤ 255 ∧ apN k ++ v = apN n.natAbs ∧ Has σ' [("num", .im (.int (k : Nat))), ("val", .im (.bytes (bts v))), ("AP", .im (.bytes #[65, 66, 67, 68, 69, 70, 71, 72, 73, 74, 75, 76, 77, 78, 79, 80]))]) n.natAbs
      ⟨[], by simp; lia, by simp, .cons (.cons (.cons .nil)) (by
        show some (VD.im (D.int (if n < 0 then -n else n))) = some (VD.im (D.int (n.natAbs : Int)))
        rw [show (if n < 0 then -n else n) = (n.natAbs : Int) by split <;> lia])⟩ ?_)
    rintro k σ' ⟨v, hv, he, H⟩
    refine ⟨(k : Int) != 0, Tt.plain (Ev.name (H _ _ rfl)) Truth.int, fun hk => ?_, fun hk => ?_⟩
    · have hk0 : k ≠ 0 := by simpa using hk
      refine Ex.forget (Ex.cons (Ex1.unpack (Ev.callB (by decide +kernel) (Evs.cons (Ev.name rfl) (Evs.cons Ev.cInt .nil)) (CallOf.divmod (by decide) (by decide))) rfl tgtOk_all ?_)) H
      have hm : ((k : Int).fmod 16) = ((k % 16 : Nat) : Int) := by rw [Int.fmod_eq_emod_of_nonneg _ (by decide)]; lia
      have hd : ((k : Int).fdiv 16) = ((k / 16 : Nat) : Int) := by rw [Int.fdiv_eq_ediv_of_nonneg _ (by decide)]; lia
      rw [hm, hd]
      have hk256 : k < 256 := by lia
      refine Ex.cons (Ex1.assign (Ev.bin (Ev.slice (Ev.name rfl) (.some (Ev.name rfl)) (.some (Ev.bin (Ev.name rfl) Ev.cInt Bin.add)) (SliceOf.bytes (by decide))) (Ev.name rfl) (Bin.addB ?_)) ?_)
      · rw [pick_ap (k % 16) (by lia), bts_size, bts_size]; simp; lia
      · refine Ex.nil ?_
        rw [pick_ap (k % 16) (by lia), bts_cons]
        refine ⟨rfl, k / 16, by lia, (65 + k % 16) :: v, by simp; lia, by rw [apN_step hk0 hk256, he], .cons (.cons (.cons .nil))⟩
    · have hk0 : k = 0 := by simpa using hk
      subst hk0
      refine Ex.cons (Ex1.ret (Ev.name (H _ _ rfl)) ?_)
      rw [← he]; rfl
end Mine

namespace Mine
open PySem PySem.Calls PyProof.Rows PySem.W

/-! _law_spread -/
noncomputable def sprN (n : Nat) : Nat := if n = 0 then 0 else if n < 16 then n + 1 else n % 16 + 1 + (n / 16 + 1) * 64
theorem sprN_step {m : Nat} (h : m ≠ 0) (h2 : m < 256) : sprN m = (m % 16 + 1) + 64 * sprN (m / 16) := by
  unfold sprN
  by_cases h16 : m < 16
  · have e : m / 16 = 0 := by lia
    have e' : m % 16 = m := by lia
    simp [h, h16, e, e']
  · have e : m / 16 ≠ 0 := by lia
    have e' : m / 16 < 16 := by lia
    simp [h, h16, e, e']; lia
theorem spec_spread {n : Nat} (hn : n < 256) : Spec 1 6 [.int n] (.int (sprN n)) := by
  refine Spec.of rfl ["label"] rfl (fun pm cd doc vs hv => ?_) ?_ ?_ ?_ ?_ ?_ ?_ ?_
  · obtain ⟨v, rfl⟩ := List.length_eq_one_iff.mp hv
    rfl
  · decide
  · rfl
  · decide
  · rfl
  · rfl
  · rfl
  · intro f X L a cd _ _
    refine Ex.cons (Ex1.assign Ev.cInt ?_)
    refine Ex.cons (Ex1.assign Ev.cInt ?_)
    refine Ex.cons (Ex1.assign (Ev.name rfl) ?_)
    refine Ex.cons (Ex1.while_ (fun k σ' => ∃ v w : Nat, k < 256 ∧ v + w * sprN k = sprN n ∧ Has σ' [("left", .im (.int (k : Nat))), ("value", .im (.int (v : Nat))), ("weight", .im (.int (w : Nat)))]) n
      ⟨0, 1, hn, by lia, .cons (.cons (.cons .nil))⟩ ?_)
    rintro k σ' ⟨v, w, hk, he, H⟩
    refine ⟨(k : Int) != 0, Tt.plain (Ev.name (H _ _ rfl)) Truth.int, fun hk => ?_, fun hk => ?_⟩
    · have hk0 : k ≠ 0 := by simpa using hk
      have hm : ((k : Int).fmod 16) = ((k % 16 : Nat) : Int) := by rw [Int.fmod_eq_emod_of_nonneg _ (by decide)]; lia
      have hd : ((k : Int).fdiv 16) = ((k / 16 : Nat) : Int) := by rw [Int.fdiv_eq_ediv_of_nonneg _ (by decide)]; lia
      refine Ex.forget (Ex.cons (Ex1.aug rfl (Ev.bin (Ev.bin (Ev.bin (Ev.name rfl) Ev.cInt (Bin.mod (by decide))) Ev.cInt Bin.add) (Ev.name rfl) (Bin.mul (.inl ?_))) Bin.iadd ?_)) H
      · rw [hm]; lia
      rw [hm]
      refine Ex.cons (Ex1.aug rfl Ev.cInt (Bin.imul (.inr (by decide))) ?_)
      refine Ex.cons (Ex1.aug rfl Ev.cInt (Bin.idiv (by decide) (by decide)) ?_)
      rw [hd]
      refine Ex.nil ⟨rfl, k / 16, by lia, v + (k % 16 + 1) * w, w * 64, by lia, ?_, .cons (.cons (.cons .nil) ?_) ?_⟩
      · rw [← he, sprN_step hk0 (by lia), Nat.mul_add, Nat.mul_comm w (k % 16 + 1), Nat.mul_assoc]; lia
      · show some (VD.im (D.int _)) = some (VD.im (D.int _))
        push_cast; rfl
      · show some (VD.im (D.int _)) = some (VD.im (D.int _))
        push_cast; rfl
    · have hk0 : k = 0 := by simpa using hk
      subst hk0
      refine Ex.cons (Ex1.ret (Ev.name (H _ _ rfl)) ?_)
      rw [← he]; simp [sprN]

/-! texts -/
noncomputable def tx (l : List Nat) : Str := ⟨l.toArray⟩
theorem tx_append (a b : List Nat) : tx a ++ tx b = tx (a ++ b) := by
  show Str.mk (a.toArray ++ b.toArray) = _
  simp [tx]
theorem tx_len (l : List Nat) : (tx l).length = l.length := by show l.toArray.size = _; simp
theorem tx_cps (l : List Nat) : (tx l).cps.toList = l := by simp [tx]
theorem slice_ab {l : List Nat} {a b : Nat} (h1 : a ≤ b) (h2 : b ≤ l.length) : Txt.slice (tx l) (some (a : Int)) (some (b : Int)) = tx ((l.drop a).take (b - a)) := by
  have := eq_of_beq (slice_closesL (x := tx l) (i := a) (j := b) (by lia) (by lia) (by rw [tx_len]; lia))
  rw [this, tx_cps]
  have e : ((b : Int) - a).toNat = b - a := by lia
  rw [e]; rfl
theorem slice_a {l : List Nat} {a : Nat} (h1 : a ≤ l.length) : Txt.slice (tx l) (some (a : Int)) none = tx (l.drop a) := by
  have := eq_of_beq (slice_closes_fromL (x := tx l) (i := a) (b := l.length) (by lia) (by rw [tx_len]; lia) (by rw [tx_len]))
  rw [this, tx_cps]
  have e : ((l.length : Int) - a).toNat = l.length - a := by lia
  rw [e]
  show tx ((l.drop a).take (l.length - a)) = _
  rw [List.take_of_length_le (by simp)]
theorem slice_last {l : List Nat} (h : l ≠ []) : Txt.slice (tx l) none (some (-1)) = tx l.dropLast := by
  have hl : 1 ≤ l.length := by cases l with
    | nil => exact absurd rfl h
    | cons => simp
  have := eq_of_beq (slice_closes_toL (x := tx l) (j := ((l.length : Int) - 1)) (by lia) (by rw [tx_len]; lia))
  have e : Txt.slice (tx l) none (some (-1)) = Txt.slice (tx l) none (some ((l.length : Int) - 1)) := by
    unfold Txt.slice
    rw [StrLaws.sliceIdx_neg_hi none (tx l).length (by decide) (by rw [tx_len]; lia), tx_len]
    rw [show ((-1 : Int) + l.length) = (l.length : Int) - 1 by lia]
  rw [e, this, tx_cps, List.dropLast_eq_take]
  have e2 : ((l.length : Int) - 1 - 0).toNat = l.length - 1 := by lia
  rw [e2]; rfl
theorem tx_eq (a b : List Nat) : (tx a == tx b) = decide (a = b) := by
  by_cases h : a = b
  · subst h; simp
  · rw [decide_eq_false h]
    refine beq_eq_false_iff_ne.mpr fun e => h ?_
    rw [← tx_cps a, ← tx_cps b, e]

/-! _law_hide -/
noncomputable def hideL (l : List Nat) : List Nat := if l.getLast? = some 40 then l.dropLast ++ [92, 40] else 34 :: l ++ [34]
theorem spec_hide {l : List Nat} (h : l ≠ []) (hz : l.length ≤ 1000) : Spec 1 8 [.str (tx l)] (.str (tx (hideL l))) := by
  refine Spec.of rfl ["text"] rfl (fun pm cd doc vs hv => ?_) ?_ ?_ ?_ ?_ ?_ ?_ ?_
  · obtain ⟨v, rfl⟩ := List.length_eq_one_iff.mp hv
    rfl
  · decide
  · rfl
  · decide
  · rfl
  · rfl
  · rfl
  · intro f X L a cd _ _
    have hl : 1 ≤ l.length := by cases l with
      | nil => exact absurd rfl h
      | cons => simp
    have hz' : 2000 ≤ sizeLine := by decide
    have hc : (seqIndex? (-1) (tx l).length).bind ((tx l).cps[·]?) = some (l.getLast h) := by
      rw [tx_len]
      have : seqIndex? (-1) l.length = some (l.length - 1) := by
        simp only [seqIndex?]
        rw [if_pos (by simp; lia)]
        congr 1
        simp; lia
      rw [this]
      simp [tx, List.getLast_eq_getElem]
    refine Ex.cons (Ex1.if_ (b := decide (l.getLast h = 40)) ((Tt.cmp (Ev.sub (Ev.name rfl) (Ev.un Ev.cInt Un.neg) (Sub.str (by decide) hc)) Ev.cStr Bin.eqS).eq ?_) (fun hb => ?_) fun hb => ?_)
    · show (tx [l.getLast h] == tx [40]) = _
      rw [tx_eq]; simp
    · have hg : l.getLast? = some 40 := by rw [List.getLast?_eq_some_getLast h]; simpa using hb
      refine Ex.cons (Ex1.ret (Ev.eq (Ev.bin (Ev.slice (Ev.name rfl) .none (.some (Ev.un Ev.cInt Un.neg)) (SliceOf.str (by rw [tx_len]; lia))) Ev.cStr (Bin.addS ?_)) ?_) rfl)
      · rw [slice_last h, tx_len, List.length_dropLast]
        show l.length - 1 + 2 ≤ _
        lia
      · rw [slice_last h]
        show D.str (tx _ ++ tx [92, 40]) = _
        rw [tx_append, hideL, if_pos hg]
    · have hg : ¬ l.getLast? = some 40 := by rw [List.getLast?_eq_some_getLast h]; simpa using hb
      refine Ex.nil ?_
      refine Ex.cons (Ex1.ret (Ev.eq (Ev.bin (Ev.bin Ev.cStr (Ev.name rfl) (Bin.addS ?_)) Ev.cStr (Bin.addS ?_)) ?_) rfl)
      · rw [tx_len]
        show 1 + l.length ≤ _
        lia
      · show (tx [34] ++ tx l).length + 1 ≤ _
        rw [tx_append, tx_len]; simp; lia
      · show D.str ((tx [34] ++ tx l) ++ tx [34]) = _
        rw [tx_append, tx_append, hideL, if_neg hg]; simp
end Mine

namespace Mine
open PySem PySem.Calls PyProof.Rows PySem.W

noncomputable def dN (l : List Nat) : List D := l.map fun (n : Nat) => D.int (n : Int)
theorem dN_eq (l : List Nat) : dN l = dI (l.map fun (n : Nat) => (n : Int)) := by simp [dN, dI]

noncomputable def onlyMut (x : Str) (σ : Sg) : Bool := σ.all fun p => p.1 == x || match p.2 with
  | .im _ => true
  | .mut _ _ => false
theorem only_of {x : Str} {σ : Sg} (h : onlyMut x σ = true) : ∀ y b l', y ≠ x → σ.lookup y ≠ some (.mut b l') := fun y b l' hy e => by
  have := List.all_eq_true.mp h _ (mem_of_lookup e)
  simp [hy] at this

section
variable {f : Fx} {Y : List Addr} {σ : Sg}
theorem map_at {α : Type} {g : α → D} {rows : List α} {pre : List D} {d : D} {post : List D} (h : rows.map g = pre ++ d :: post) : ∃ a q, rows = rows.take pre.length ++ a :: q ∧ d = g a ∧ rows.take (pre ++ [d]).length = rows.take pre.length ++ [a] := by
  obtain ⟨p, r, e, h1, h2⟩ := List.map_eq_append_iff.mp h
  obtain ⟨n, q, e2, h3, h4⟩ := List.map_eq_cons_iff.mp h2
  subst e2; subst e; subst h1
  refine ⟨n, q, by simp, h3.symm, by simp [List.take_append, List.take_of_length_le]⟩
theorem Ex1.forN {α : Type} {t iter : Expr} {body : List Stmt} {pos : Pos} {rows : List α} {g : α → D} {Q : Post} (hi : IterOf f Y σ iter (rows.map g)) (I : List α → Sg → Prop) (h0 : I [] σ)
    (step : ∀ p a q σ', rows = p ++ a :: q → I p σ' → ∃ σ'', tgt t (g a) σ' = some σ'' ∧ Ex f Y σ'' body fun r Y' σ3 => match r with
      | .next | .cont => Y' = Y ∧ I (p ++ [a]) σ3
      | .brk => Q .next Y' σ3
      | .ret d => Q (.ret d) Y' σ3)
    (fin : ∀ σ', I rows σ' → Q .next Y σ') (ok : tgtOk f.env t) (hs : ∀ x, foldedSetIterable iter f.env x = pure x := by intro _; rfl) : Ex1 f Y σ (.For t iter body [] pos) Q := by
  refine Ex1.for_ hi (fun pre σ' => I (rows.take pre.length) σ') (by simpa using h0) (fun pre d post σ' hs hI => ?_) (fun σ' h => fin σ' (by simpa using h)) ok hs
  obtain ⟨a, q, e1, rfl, e2⟩ := map_at hs
  obtain ⟨σ'', h1, h2⟩ := step _ a q σ' e1 hI
  exact ⟨σ'', h1, h2.mono fun r Y' σ3 h => by cases r <;> first | exact h | exact ⟨h.1, by rw [e2]; exact h.2⟩⟩
theorem Ex1.forMutN {α : Type} {t : Expr} {x : Str} {np : Pos} {a : Addr} {rows : List α} {g : α → D} {body : List Stmt} {pos : Pos} {Q : Post} (ha : a ∈ Y) (I : List α → Sg → Prop) (hI : ∀ pre σ', I pre σ' → σ'.lookup x = some (.mut a (rows.map g))) (h0 : I [] σ)
    (step : ∀ p b q σ', rows = p ++ b :: q → I p σ' → ∃ σ'', tgt t (g b) σ' = some σ'' ∧ Ex f Y σ'' body fun r Y' σ3 => match r with
      | .next | .cont => Y' = Y ∧ I (p ++ [b]) σ3
      | .brk => Q .next Y' σ3
      | .ret d => Q (.ret d) Y' σ3)
    (fin : ∀ σ', I rows σ' → Q .next Y σ') (ok : tgtOk f.env t) (hd : (x == ("__debug__" : Str)) = false := by decide) (hn : (x == ("__classdict__" : Str)) = false := by decide)
    (hs : ∀ y, foldedSetIterable (.Name x np) f.env y = pure y := by intro _; rfl) : Ex1 f Y σ (.For t (.Name x np) body [] pos) Q := by
  refine Ex1.forMut ha (fun pre σ' => I (rows.take pre.length) σ') (fun pre σ' h => hI _ _ h) (by simpa using h0) (fun pre d post σ' hs hI => ?_) (fun σ' h => fin σ' (by simpa using h)) ok hd hn hs
  obtain ⟨a, q, e1, rfl, e2⟩ := map_at hs
  obtain ⟨σ'', h1, h2⟩ := step _ a q σ' e1 hI
  exact ⟨σ'', h1, h2.mono fun r Y' σ3 h => by cases r <;> first | exact h | exact ⟨h.1, by rw [e2]; exact h.2⟩⟩
end

/-! _law_rank -/
noncomputable def redN (kept : List Nat) (l : Nat) : Nat := kept.foldl (fun l u => if l ^^^ u < l then l ^^^ u else l) l
noncomputable def rankStep (kept : List Nat) (row : Nat) : List Nat := if redN kept row = 0 then kept else kept ++ [redN kept row]
noncomputable def rankN (rows : List Nat) : Nat := (rows.foldl rankStep []).length
theorem xor_small : ∀ a < 32, ∀ b < 32, Builtin.bitXor (a : Nat) (b : Nat) = ((a ^^^ b : Nat) : Int) := by decide +kernel
theorem xor_lt : ∀ a < 32, ∀ b < 32, a ^^^ b < 32 := by decide +kernel
theorem redN_lt : ∀ (kept : List Nat) (l : Nat), (∀ u ∈ kept, u < 32) → l < 32 → redN kept l < 32 := by
  intro kept
  induction kept with
  | nil => intro l _ h; exact h
  | cons u r ih =>
    intro l hu h
    refine ih _ (fun v m => hu v (List.mem_cons_of_mem _ m)) ?_
    show (if l ^^^ u < l then l ^^^ u else l) < 32
    split
    · exact xor_lt _ h _ (hu u (by simp))
    · exact h
theorem step_lt {kept : List Nat} {row : Nat} (hk : ∀ u ∈ kept, u < 32) (h : row < 32) : ∀ u ∈ rankStep kept row, u < 32 := by
  unfold rankStep
  split
  · exact hk
  · intro u m
    rcases List.mem_append.mp m with m | m
    · exact hk u m
    · rw [List.mem_singleton.mp m]; exact redN_lt kept row hk h
theorem step_len {kept : List Nat} {row : Nat} : (rankStep kept row).length ≤ kept.length + 1 := by
  unfold rankStep
  split
  · omega
  · simp
theorem dN_len (l : List Nat) : (dN l).length = l.length := by simp [dN]
theorem dN_snoc (l : List Nat) (a : Nat) : dN (l ++ [a]) = dN l ++ [.int a] := by simp [dN]
theorem spec_rank {rows : List Nat} (hr : ∀ u ∈ rows, u < 32) (hz : rows.length ≤ 100) : Spec 1 11 [.lst (dN rows)] (.int (rankN rows)) := by
  have hzl : 1000 ≤ sizeLine := by decide
  refine Spec.of rfl ["rows"] rfl (fun pm cd doc vs hv => ?_) ?_ ?_ ?_ ?_ ?_ ?_ ?_
  · obtain ⟨v, rfl⟩ := List.length_eq_one_iff.mp hv
    rfl
  · decide
  · rfl
  · decide
  · rfl
  · rfl
  · rfl
  · intro f X L a cd _ _
    refine Ex.cons (Ex1.newMut fun b => ?_)
    refine Ex.cons (Ex1.forN (rows := rows) (IterOf.list (Ev.name rfl)) (fun p σ' => Has σ' [("kept", .mut b (dN (p.foldl rankStep [])))] ∧ (∀ u ∈ p.foldl rankStep [], u < 32) ∧ (p.foldl rankStep []).length ≤ p.length)
      ⟨.cons .nil, by simp, by simp⟩ ?_ ?_ (.inl rfl))
    · rintro p n q σ' e1 ⟨H, hlt, hln⟩
      have hn : n < 32 := hr n (by rw [e1]; simp)
      have hlen : p.length + 1 ≤ rows.length := by rw [e1]; simp
      have hK : (p ++ [n]).foldl rankStep [] = rankStep (p.foldl rankStep []) n := by simp
      rw [hK]
      generalize p.foldl rankStep [] = K at H hlt hln ⊢
      refine ⟨_, rfl, Ex.forget (Ex.cons (Ex1.assign (Ev.name rfl) ?_)) (show Has _ (("row", .im (.int (n : Nat))) :: [("kept", .mut b (dN K))]) from .cons (.cons .nil (H _ _ rfl)))⟩
      refine Ex.cons (Ex1.forMutN (x := "kept") (a := b) (rows := K) (g := fun (n : Nat) => D.int (n : Int)) (by simp) (fun p σ' => Has σ' [("left", .im (.int (redN p n : Nat))), ("kept", .mut b (dN K))] ∧ (∀ u ∈ p, u < 32)) ?_ ⟨.cons (.cons .nil), by simp⟩ ?_ ?_ (.inl rfl))
      · rintro p σ' ⟨H, _⟩; exact H _ _ rfl
      · rintro p2 m q' σ' e1 ⟨H, hlt2⟩
        have hm : m < 32 := hlt m (by rw [e1]; simp)
        have hred : redN p2 n < 32 := redN_lt _ _ hlt2 hn
        refine ⟨_, rfl, Ex.forget (Ex.cons (Ex1.assign (Ev.callB (by decide +kernel) (Evs.cons (Ev.name rfl) (Evs.cons (Ev.bin (Ev.name rfl) (Ev.name rfl) Bin.xor) .nil)) CallOf.min) ?_)) (show Has _ (("one", .im (.int (m : Nat))) :: [("left", .im (.int (redN p2 n : Nat))), ("kept", .mut b (dN K))]) from .cons (.cons (.cons .nil (H _ _ rfl)) (H _ _ rfl)))⟩
        rw [xor_small _ hred _ hm]
        refine Ex.nil ⟨rfl, .cons (.cons .nil) ?_, fun u mu => ?_⟩
        · show some (VD.im (D.int _)) = some (VD.im (D.int _))
          congr 3
          show _ = ((List.foldl _ n (p2 ++ [m]) : Nat) : Int)
          rw [List.foldl_append]
          show (if ((redN p2 n ^^^ m : Nat) : Int) < (redN p2 n : Nat) then ((redN p2 n ^^^ m : Nat) : Int) else (redN p2 n : Nat)) = ((if redN p2 n ^^^ m < redN p2 n then redN p2 n ^^^ m else redN p2 n : Nat) : Int)
          split <;> split <;> first | rfl | omega
        · rcases List.mem_append.mp mu with mu | mu
          · exact hlt2 u mu
          · rw [List.mem_singleton.mp mu]; exact hm
      · rintro σ' ⟨H, _⟩
        have hl2 := @step_lt K n hlt hn
        refine Ex.forget (Ex.cons (Ex1.if_ (b := ((redN K n : Nat) : Int) != 0) (Tt.plain (Ev.name rfl) Truth.int) (fun hb => ?_) fun hb => ?_)) H
        · have h0 : redN K n ≠ 0 := by simpa using hb
          refine Ex.cons (Ex1.append (Ev.name rfl) rfl ?_ (by rw [dN_len]; omega) (only_of rfl) (by simp))
          refine Ex.nil (Ex.nil ⟨rfl, .cons .nil ?_, hl2, ?_⟩)
          · show some (VD.mut b _) = some (VD.mut b _)
            rw [rankStep, if_neg h0, dN_snoc]
          · have := @step_len K n
            simp; omega
        · have h0 : redN K n = 0 := by simpa using hb
          refine Ex.nil (Ex.nil ⟨rfl, .cons .nil ?_, hl2, ?_⟩)
          · show some (VD.mut b _) = some (VD.mut b _)
            rw [rankStep, if_pos h0]
          · have := @step_len K n
            simp; omega
    · rintro σ' ⟨H, hlt, hln⟩
      refine Ex.freeze (x := "kept") (σ0 := []) ?_ (H _ _ rfl) (by simp) (fun y d e => by simp at e)
      refine Ex.cons (Ex1.ret (Ev.callB (by decide +kernel) (Evs.cons (Ev.name rfl) .nil) (CallOf.lenL (by rw [dN_len]; omega))) ?_)
      rw [dN_len]; rfl
end Mine

namespace Mine
open PySem PySem.Calls PyProof.Rows PySem.W

noncomputable def clOf (scope : Scope) (env : Env) : List (Str × Addr) := (scope.names.filterMap fun x => if x.2 == .free then (env.cells.lookup x.1).map (x.1, ·) else none).reverse
theorem CompOk.of {f : Fx} {σ : Sg} {scope : Scope} {σ₁ : Sg} {t iter : Expr} (cap : Capt f scope (clOf scope f.env) σ σ₁) (tg : ∀ C, tgtOkW (compEnvC scope (clOf scope f.env) C f.env) [C] t) (fr : ((tnames t).all fun x => (σ₁.lookup x).isNone) = true := by rfl)
    (clos : closureFor scope f.env = pure (clOf scope f.env) := by rfl) (cell : ∀ x ∈ scope.names, x.2 ≠ .cell := by decide) (kind : scope.kind = .function := by rfl)
    (names : ∀ x ∈ scope.names, x.2 = .local → scope.names.lookup x.1 = some .local := by decide) (fold : ∀ x, foldedSetIterable iter f.env x = pure x := by intro _; rfl) : CompOk f σ scope (clOf scope f.env) σ₁ t iter :=
  ⟨cap, clos, fun q m => (by
    obtain ⟨x, _, h⟩ := List.mem_filterMap.mp (List.mem_reverse.mp m)
    split at h
    · obtain ⟨c, hc, rfl⟩ := Option.map_eq_some_iff.mp h
      exact hc
    · cases h), cell, kind, names, fold, tg, fun x m => by simpa using List.all_eq_true.mp fr x m⟩
theorem Capt.add {f : Fx} {scope : Scope} {cl : List (Str × Addr)} {σ σ₁ : Sg} {x : Str} {d : D} (r : Capt f scope cl σ σ₁) (h1 : σ.lookup x = some (.im d) := by rfl) (h2 : f.env.kindOf x = some .cell ∨ f.env.kindOf x = some .free := by first | exact .inl rfl | exact .inr rfl)
    (h3 : (relabel scope f.env).names.lookup x = some .cell ∨ (relabel scope f.env).names.lookup x = some .free := by first | exact .inl rfl | exact .inr rfl) (h4 : cl.lookup x = f.env.cells.lookup x := by rfl) : Capt f scope cl σ ((x, .im d) :: σ₁) := r.cons h1 h2 h3 h4
theorem tgW {f : Fx} {scope : Scope} {cl : List (Str × Addr)} {x : Str} {p : Pos} (h : ∀ C, (compEnvC scope cl C f.env).kindOf x = some .local := by intro _; rfl) : ∀ C, tgtOkW (compEnvC scope cl C f.env) [C] (.Name x p) := fun C => .inl ⟨h C, List.mem_singleton.mpr rfl⟩
theorem tgWs {f : Fx} {scope : Scope} {cl : List (Str × Addr)} {es : List Expr} {k : Nat} {p : Pos} (h : ∀ C, (((namesOf es).getD []).all fun x => (compEnvC scope cl C f.env).kindOf x == some .local) = true := by intro _; rfl) : ∀ C, tgtOkW (compEnvC scope cl C f.env) [C] (.Tuple es k p) := fun C xs hx x m => by
  have := h C
  rw [hx] at this
  exact .inl ⟨by simpa using List.all_eq_true.mp this x m, List.mem_singleton.mpr rfl⟩

section
variable {f : Fx} {Y : List Addr} {σ : Sg}
theorem turns_N {α : Type} {f' : Fx} {σ₁ : Sg} {t elt : Expr} {ifs : List Expr} {rows : List α} {k : α → D} {p : α → Bool} {g : α → D}
    (T : ∀ a ∈ rows, ∃ σ2, tgt t (k a) σ₁ = some σ2 ∧ Tests f' [] σ2 ifs (p a) ∧ (p a = true → Ev f' [] σ2 elt (g a))) :
    Turns f' σ₁ t ifs elt (rows.map k) (fun l => ((rows.take l.length).filter p).map g) (fun _ _ => True) [] := ⟨fun pre d post e => by
  obtain ⟨a, q, e1, rfl, e2⟩ := map_at e
  obtain ⟨σ2, h1, h2, h3⟩ := T a (by rw [e1]; simp)
  refine ⟨σ2, p a, h1, h2, fun hp => ⟨by rw [e2]; simp [List.filter_append, hp], fun _ _ => trivial⟩, fun hp => ⟨g a, by rw [e2]; simp [List.filter_append, hp], fun s S _ => wNoE (h3 hp s S) fun v s' h => ⟨?_, h.1, S.step h.1, trivial⟩⟩⟩
  simpa using h.2⟩
theorem Ev.compN {α : Type} {scope : Scope} {cl : List (Str × Addr)} {σ₁ : Sg} {t iter elt : Expr} {ifs : List Expr} {pos : Pos} {rows : List α} {k : α → D} (p : α → Bool) (g : α → D) (hit : IterOf f Y σ iter (rows.map k)) (ok : CompOk f σ scope cl σ₁ t iter)
    (T : ∀ C D, ∀ a ∈ rows, ∃ σ2, tgt t (k a) σ₁ = some σ2 ∧ Tests (cfx f Y scope cl C D) [] σ2 ifs (p a) ∧ (p a = true → Ev (cfx f Y scope cl C D) [] σ2 elt (g a))) (hsz : rows.length ≤ sizeLine) :
    Ev f Y σ (.ListComp elt [⟨t, iter, ifs, 0⟩] scope pos) (.lst ((rows.filter p).map g)) := fun s S => by
  rw [eval_ListComp]
  refine comp_core (use := none) (V := []) (JA := []) S hit ok.cap ok.clos ok.clx ok.cell ok.kind ok.names ok.fold trivial (fun _ _ _ _ _ => trivial) (fun _ m => nomatch m) (fun _ m => nomatch m) (fun _ m => nomatch m) (fun _ _ _ _ m => nomatch m)
    (fun C D _ _ => turns_N (T C D)) rfl (by simpa using hsz) ok.tg ok.fr fun D C m s' hn hC r _ q => ⟨m, hn, fun h' hs => ?_⟩
  have nc : ∀ a ∈ [C], ∀ o, s'.heap.get? a = some o → ¬ isSeqObj o := fun a ma o e => by rw [List.mem_singleton.mp ma] at e; exact ns_nonseq hn e
  simp only [List.length_map, List.take_length] at r
  exact ⟨q.since (H := []) (.heap' (.same hs)) (fun a ma => .inr (by rw [List.mem_singleton.mp ma]; exact hC)) (fun _ m => nomatch m), Rep.seq (fun b o _ hq ho => KeepBut.same hs b o (fun m => nc b m o ho hq) ho) _ _ r⟩
theorem Ex1.compN {α : Type} {scope : Scope} {cl : List (Str × Addr)} {σ₁ : Sg} {t iter elt : Expr} {ifs : List Expr} {pos apos p' : Pos} {x : Str} {rows : List α} {k : α → D} (p : α → Bool) (g : α → D) {Q : Post} (hit : IterOf f Y σ iter (rows.map k)) (ok : CompOk f σ scope cl σ₁ t iter)
    (T : ∀ C D, ∀ a ∈ rows, ∃ σ2, tgt t (k a) σ₁ = some σ2 ∧ Tests (cfx f Y scope cl C D) [] σ2 ifs (p a) ∧ (p a = true → Ev (cfx f Y scope cl C D) [] σ2 elt (g a))) (hsz : rows.length ≤ sizeLine)
    (q : Q .next Y ((x, .im (.lst ((rows.filter p).map g))) :: σ)) (hp : Put f.env x := by first | exact .inl rfl | exact .inr ⟨rfl, rfl⟩)
    (hsw : swapsWith (.ListComp elt [⟨t, iter, ifs, 0⟩] scope pos) (some (.Name x p')) apos.line f.env = pure true := by rfl) :
    Ex1 f Y σ (.Assign [.Name x p'] (.ListComp elt [⟨t, iter, ifs, 0⟩] scope pos) apos) Q := fun s S =>
  comp_assign (JA := []) (V := []) S hit ok trivial (fun _ _ _ _ _ => trivial) (fun _ m => nomatch m) (fun _ m => nomatch m) (fun _ m => nomatch m) (fun _ _ _ _ m => nomatch m) (fun C D _ _ => turns_N (T C D)) rfl (by simpa using hsz) hp hsw
    (fun s' _ p => S.step p) fun s' S' _ p => Ex1.ret_ (r := .next) S' p rfl (by simpa using q)
end

theorem filter_tt {α : Type} (l : List α) : l.filter (fun _ => true) = l := List.filter_eq_self.mpr fun _ _ => rfl
structure Pr where
  a : Nat
  b : Nat
  t : Nat
  l : Nat
noncomputable def dP (p : Pr) : D := .tup [.int p.a, .int p.b, .int p.t, .int p.l]
noncomputable def dJ (p : Nat × Nat) : D := .tup [.int p.1, .int p.2]

theorem Ex.has {f : Fx} {Y : List Addr} {σ τ : Sg} {ss : List Stmt} {Q : Post} (h : Ex f Y τ ss Q) (H : Has σ τ) : Ex f Y σ ss Q := h.forget H

theorem Ex.consHas {f : Fx} {Y : List Addr} {σ : Sg} (τ : Sg) {st : Stmt} {rest : List Stmt} {Q : Post} (h : Ex1 f Y σ st fun r Y' σ' => r = .next ∧ Y' = Y ∧ Has σ' τ) (h2 : Ex f Y τ rest Q) : Ex f Y σ (st :: rest) Q :=
  Ex.cons fun s S => wNoE (h s S) fun fl s' x => x.mono fun r Y' σ' ⟨a, b, c⟩ => by subst a; subst b; exact h2.has c

/-! _law_meets -/
noncomputable def joinsN (c : Nat) (p : Pr) : List (Nat × Nat) := if p.t ≠ 0 then [(p.a, p.b), (p.a + 1, (p.b + 1) % c)] else [(p.a, (p.b + 1) % c), (p.a + 1, p.b)]
noncomputable def joinStep (m : List Nat) (j : Nat × Nat) : List Nat := m.map fun x => if x = m.getD j.2 0 then m.getD j.1 0 else x
noncomputable def meetsN (ps : List Pr) : List Nat := ps.foldl (fun m p => (joinsN (2 * ps.length) p).foldl joinStep m) (List.range (2 * ps.length))
theorem rangeInts_nat (n : Nat) : rangeInts 0 1 n = (List.range n).map fun (k : Nat) => (k : Int) := by simp [rangeInts]
theorem joinStep_len (m : List Nat) (j : Nat × Nat) : (joinStep m j).length = m.length := by simp [joinStep]
theorem joins_len : ∀ (js : List (Nat × Nat)) (m : List Nat), (js.foldl joinStep m).length = m.length
  | [], _ => rfl
  | j :: js, m => by rw [List.foldl_cons, joins_len js, joinStep_len]
theorem dN_get {l : List Nat} {i : Nat} (h : i < l.length) : (dN l)[i]? = some (.int (l.getD i 0 : Nat)) := by simp [dN, h]
theorem spec_meets {ps : List Pr} (hp : ∀ p ∈ ps, p.a + 1 < 2 * ps.length ∧ p.b < 2 * ps.length) (hz : ps.length ≤ 100) : Spec 1 10 [.lst (ps.map dP)] (.lst (dN (meetsN ps))) := by
  have hzl : 1000 ≤ sizeLine := by decide
  refine Spec.of rfl ["pairs"] rfl (fun pm cd doc vs hv => ?_) ?_ ?_ ?_ ?_ ?_ ?_ ?_
  · obtain ⟨v, rfl⟩ := List.length_eq_one_iff.mp hv
    rfl
  · decide
  · rfl
  · decide
  · rfl
  · rfl
  · rfl
  · intro f X L a cd _ _
    have e2 : (2 : Int) * ((ps.map dP).length : Int) = ((2 * ps.length : Nat) : Int) := by simp
    refine Ex.cons (Ex1.assign (Ev.bin Ev.cInt (Ev.callB (by decide +kernel) (Evs.cons (Ev.name rfl) .nil) (CallOf.lenL (by simp; lia))) (Bin.mul (.inl (by decide)))) ?_)
    rw [e2]
    refine Ex.cons (Ex1.assign (Ev.listRange (n := 2 * ps.length) (by lia) (Ev.name rfl) rfl rfl) ?_)
    have e3 : dI (rangeInts 0 1 (2 * ps.length)) = dN (List.range (2 * ps.length)) := by rw [dN_eq, rangeInts_nat]
    rw [e3]
    refine Ex.cons (Ex1.forN (rows := ps) (g := dP) (IterOf.list (Ev.name rfl)) (fun p σ' => Has σ' [("count", .im (.int (2 * ps.length : Nat))), ("meets", .im (.lst (dN (p.foldl (fun m p => (joinsN (2 * ps.length) p).foldl joinStep m) (List.range (2 * ps.length))))))] ∧ (p.foldl (fun m p => (joinsN (2 * ps.length) p).foldl joinStep m) (List.range (2 * ps.length))).length = 2 * ps.length)
      ⟨.cons (.cons .nil), by simp⟩ ?_ ?_ tgtOk_all)
    · rintro p n q σ' e1 ⟨H, hln⟩
      have hn := hp n (by rw [e1]; simp)
      have hc : 0 < 2 * ps.length := by lia
      rw [List.foldl_append, List.foldl_cons, List.foldl_nil]
      generalize p.foldl (fun m p => (joinsN (2 * ps.length) p).foldl joinStep m) (List.range (2 * ps.length)) = M at H hln ⊢
      refine ⟨_, rfl, Ex.has (τ := ("label", .im (.int n.l)) :: ("twist", .im (.int n.t)) :: ("second", .im (.int n.b)) :: ("first", .im (.int n.a)) :: [("count", .im (.int (2 * ps.length : Nat))), ("meets", .im (.lst (dN M)))]) ?_ (.cons (.cons (.cons (.cons (.cons (.cons .nil (H _ _ rfl)) (H _ _ rfl))))))⟩
      have hmod : (((n.b : Int) + 1).fmod ((2 * ps.length : Nat) : Int)) = (((n.b + 1) % (2 * ps.length) : Nat) : Int) := by
        rw [Int.fmod_eq_emod_of_nonneg _ (by lia)]; push_cast; rfl
      have hne : ((2 * ps.length : Nat) : Int) ≠ 0 := by lia
      refine Ex.consHas (("joins", .im (.lst ((joinsN (2 * ps.length) n).map dJ))) :: [("count", .im (.int (2 * ps.length : Nat))), ("meets", .im (.lst (dN M)))]) (Ex1.if_ (b := ((n.t : Nat) : Int) != 0) (Tt.plain (Ev.name rfl) Truth.int) (fun hb => ?_) fun hb => ?_) ?_
      · have ht : n.t ≠ 0 := by simpa using hb
        refine Ex.cons (Ex1.assign (Ev.list (Evs.cons (Ev.tuple (Evs.cons (Ev.name rfl) (Evs.cons (Ev.name rfl) .nil))) (Evs.cons (Ev.tuple (Evs.cons (Ev.bin (Ev.name rfl) Ev.cInt Bin.add) (Evs.cons (Ev.bin (Ev.bin (Ev.name rfl) Ev.cInt Bin.add) (Ev.name rfl) (Bin.mod hne)) .nil))) .nil))) ?_)
        rw [hmod]
        refine Ex.nil ⟨rfl, rfl, .cons (.cons (.cons .nil)) ?_⟩
        show some (VD.im (D.lst _)) = some (VD.im (D.lst _))
        rw [joinsN, if_pos ht]; rfl
      · have ht : n.t = 0 := by simpa using hb
        refine Ex.cons (Ex1.assign (Ev.list (Evs.cons (Ev.tuple (Evs.cons (Ev.name rfl) (Evs.cons (Ev.bin (Ev.bin (Ev.name rfl) Ev.cInt Bin.add) (Ev.name rfl) (Bin.mod hne)) .nil))) (Evs.cons (Ev.tuple (Evs.cons (Ev.bin (Ev.name rfl) Ev.cInt Bin.add) (Evs.cons (Ev.name rfl) .nil))) .nil))) ?_)
        rw [hmod]
        refine Ex.nil ⟨rfl, rfl, .cons (.cons (.cons .nil)) ?_⟩
        show some (VD.im (D.lst _)) = some (VD.im (D.lst _))
        rw [joinsN, if_neg (by lia)]; rfl
      · refine Ex.cons (Ex1.forN (rows := joinsN (2 * ps.length) n) (g := dJ) (IterOf.list (Ev.name rfl)) (fun p σ' => Has σ' [("count", .im (.int (2 * ps.length : Nat))), ("meets", .im (.lst (dN (p.foldl joinStep M))))]) (.cons (.cons .nil)) ?_ ?_ tgtOk_all)
        · rintro p2 j q2 σ' e1 H
          have hj : j.1 < 2 * ps.length ∧ j.2 < 2 * ps.length := by
            have hm : j ∈ joinsN (2 * ps.length) n := by rw [e1]; simp
            have hlt := Nat.mod_lt (n.b + 1) hc
            unfold joinsN at hm
            split at hm <;> simp at hm <;> rcases hm with rfl | rfl <;> simp <;> lia
          have hl2 := joins_len p2 M
          rw [List.foldl_append, List.foldl_cons, List.foldl_nil]
          generalize p2.foldl joinStep M = M2 at H hl2 ⊢
          refine ⟨_, rfl, Ex.has (τ := ("other", .im (.int j.2)) :: ("one", .im (.int j.1)) :: [("count", .im (.int (2 * ps.length : Nat))), ("meets", .im (.lst (dN M2)))]) ?_ (.cons (.cons (.cons (.cons .nil (H _ _ rfl)) (H _ _ rfl))))⟩
          refine Ex.cons (Ex1.assign (Ev.sub (Ev.name rfl) (Ev.name rfl) (Sub.list (dN_get (by lia)) (by lia))) ?_)
          refine Ex.cons (Ex1.assign (Ev.sub (Ev.name rfl) (Ev.name rfl) (Sub.list (dN_get (by lia)) (by lia))) ?_)
          refine Ex.cons (Ex1.compN (rows := M2) (k := fun (n : Nat) => D.int (n : Int)) (σ₁ := [("there", .im (.int (M2.getD j.2 0 : Nat))), ("here", .im (.int (M2.getD j.1 0 : Nat)))]) (fun _ => true) (fun i => .int ((if i = M2.getD j.2 0 then M2.getD j.1 0 else i : Nat) : Int)) (IterOf.list (Ev.name rfl))
            (.of (.add (.add .nil)) tgW) (fun C D i hd => ?_) (by lia) ?_)
          · refine ⟨_, rfl, .nil, fun _ => ?_⟩
            refine Ev.ifexp (Tt.cmp (Ev.name rfl) (Ev.name rfl) Bin.eqI) (fun h => (Ev.name rfl).eq ?_) fun h => (Ev.name rfl).eq ?_
            · have h : i = M2.getD j.2 0 := Int.ofNat_inj.mp (eq_of_beq h)
              rw [if_pos h]
            · have h : ¬ i = M2.getD j.2 0 := fun e => (ne_of_beq_false h) (congrArg _ e)
              rw [if_neg h]
          · refine Ex.nil ⟨rfl, .cons (.cons .nil ?_)⟩
            show some (VD.im (D.lst _)) = some (VD.im (D.lst _))
            rw [filter_tt]
            simp only [dN, joinStep, List.map_map]; rfl
        · rintro σ' H
          exact Ex.nil ⟨rfl, H, by rw [joins_len]; exact hln⟩
    · rintro σ' ⟨H, _⟩
      refine Ex.cons (Ex1.ret (Ev.name (H _ _ rfl)) rfl)
end Mine

namespace Mine
open PySem PySem.Calls PyProof.Rows PySem.W

section
variable {f : Fx} {Y : List Addr} {σ : Sg}
theorem IterOf.eq {it : Expr} {ds ds' : List D} (h : IterOf f Y σ it ds) (e : ds = ds') : IterOf f Y σ it ds' := e ▸ h
theorem IterOf.rangeN {x np pos} {e : Expr} {n : Nat} (h : Ev f Y σ e (.int n)) (hx : x = ("range" : Str) := by rfl) (hn : n ≤ 2 ^ 20 := by lia) (hk : f.env.kindOf x = some .globalImplicit := by rfl)
    (he : starEach [e] f.env = [(false, eval e f.env)] := by rfl) : IterOf f Y σ (.Call (.Name x np) [e] [] pos) ((List.range n).map fun (k : Nat) => D.int (k : Int)) :=
  (IterOf.range1 h hx (by lia) hk he).eq (by rw [Int.toNat_natCast, rangeInts_nat]; simp [dI])
end

theorem neN (a b : Nat) : ((a : Int) != (b : Int)) = (a != b) := by
  by_cases h : a = b
  · subst h; simp
  · have : (a : Int) ≠ b := fun e => h (Int.ofNat_inj.mp e)
    rw [bne_iff_ne.mpr h, bne_iff_ne.mpr this]
theorem eqN (a b : Nat) : ((a : Int) == (b : Int)) = (a == b) := by
  by_cases h : a = b
  · subst h; simp
  · have : (a : Int) ≠ b := fun e => h (Int.ofNat_inj.mp e)
    rw [beq_eq_false_iff_ne.mpr h, beq_eq_false_iff_ne.mpr this]

/-! _law_pairs -/
noncomputable def baseL : List Int := [947, 598, 6, 310, 45]
noncomputable def manyN (sc : List Int) : Nat := 3 + min sc.length 2
noncomputable def xN (sc : List Int) (k : Nat) : Nat := ((baseL.getD k 0 + ((rangeInts k (manyN sc) (Builtin.Range.rangeSize k (min sc.length 60 : Nat) (manyN sc)).toNat).map fun q => sc.getD q.toNat 0).sum).fmod 1000000).toNat
noncomputable def firstN (fr : List Nat) : Nat := fr.getD 0 0
noncomputable def secondN (fr : List Nat) (x : Nat) : Nat := fr.getD (1 + x % (fr.length - 1)) 0
noncomputable def stepP (st : List Nat × List Pr) (k x : Nat) : List Nat × List Pr :=
  (st.1.filter fun s => s != firstN st.1 && s != secondN st.1 x, st.2 ++ [⟨firstN st.1, secondN st.1 x, x / 9 % 2, k + 5 * (x / 18 % 51)⟩])
noncomputable def runP (sc : List Int) (ks : List Nat) : List Nat × List Pr := ks.foldl (fun st k => stepP st k (xN sc k)) (List.range (2 * manyN sc), [])
noncomputable def pairsN (sc : List Int) : List Pr := (runP sc (List.range (manyN sc))).2

theorem many_le (sc : List Int) : 3 ≤ manyN sc ∧ manyN sc ≤ 5 := by unfold manyN; lia
theorem stepP_pairs (st : List Nat × List Pr) (k x : Nat) : (stepP st k x).2.length = st.2.length + 1 := by simp [stepP]
theorem filter2_len : ∀ {l : List Nat} {a b : Nat}, l.Nodup → a ∈ l → b ∈ l → a ≠ b → (l.filter fun s => s != a && s != b).length + 2 = l.length := by
  intro l a b nd ha hb hab
  have h1 : (l.filter fun s => s != a && s != b) = (l.erase a).erase b := by
    rw [List.Nodup.erase_eq_filter nd, List.Nodup.erase_eq_filter (List.Pairwise.filter _ nd), List.filter_filter]
    congr 1; funext s; exact Bool.and_comm _ _
  rw [h1, List.length_erase_of_mem, List.length_erase_of_mem ha]
  · have := List.length_pos_of_mem ha
    have h2 : 2 ≤ l.length := by
      match l, ha, hb with
      | [c], ha, hb => simp at ha hb; exact absurd (ha.trans hb.symm) hab
      | _ :: _ :: _, _, _ => simp
    lia
  · exact (List.mem_erase_of_ne (Ne.symm hab)).mpr hb
theorem getD_at {l : List Nat} {i : Nat} (h : i < l.length) : l.getD i 0 = l[i] := by simp [List.getD, h]
theorem getD_mem {l : List Nat} {i : Nat} (h : i < l.length) : l.getD i 0 ∈ l := by
  rw [getD_at h]; exact List.getElem_mem h
theorem step_free {st : List Nat × List Pr} {k x : Nat} (nd : st.1.Nodup) (h : 2 ≤ st.1.length) : (stepP st k x).1.Nodup ∧ (stepP st k x).1.length + 2 = st.1.length := by
  have hlt : x % (st.1.length - 1) < st.1.length - 1 := Nat.mod_lt _ (by lia)
  refine ⟨nd.filter _, filter2_len nd (getD_mem (by lia)) (getD_mem (by lia)) fun e => ?_⟩
  unfold firstN secondN at e
  rw [getD_at (by lia), getD_at (by lia)] at e
  exact List.pairwise_iff_getElem.mp nd 0 (1 + x % (st.1.length - 1)) (by lia) (by lia) (by lia) e
theorem runP_inv (sc : List Int) : ∀ (n : Nat), n ≤ manyN sc → (runP sc (List.range n)).1.Nodup ∧ (runP sc (List.range n)).1.length + 2 * n = 2 * manyN sc ∧ (runP sc (List.range n)).2.length = n
  | 0, _ => ⟨List.nodup_range, by simp [runP], rfl⟩
  | n + 1, h => by
    obtain ⟨h1, h2, h3⟩ := runP_inv sc n (by lia)
    have e : runP sc (List.range (n + 1)) = stepP (runP sc (List.range n)) n (xN sc n) := by simp [runP, List.range_succ]
    rw [e]
    have := step_free (k := n) (x := xN sc n) h1 (by lia)
    exact ⟨this.1, by lia, by rw [stepP_pairs, h3]⟩
theorem small_ok : ∀ c < 3, ∀ a < 5, ∀ b < 61, Builtin.Range.small (a : Nat) (b : Nat) ((3 + c : Nat) : Int) = true := by decide +kernel
theorem range_in {a b c : Nat} (hc : 3 ≤ c ∧ c ≤ 5) {q : Int} (h : q ∈ rangeInts a c (Builtin.Range.rangeSize a b c).toNat) : 0 ≤ q ∧ q < b := by
  obtain ⟨i, hi, rfl⟩ := List.mem_map.mp h
  have hi := List.mem_range.mp hi
  have e : Builtin.Range.rangeSize (a : Int) b c = if (a : Int) < b then ((b : Int) - a - 1) / c + 1 else 0 := by
    unfold Builtin.Range.rangeSize
    rw [if_pos (by lia)]
  rw [e] at hi
  split at hi
  · obtain rfl | rfl | rfl : c = 3 ∨ c = 4 ∨ c = 5 := by lia
    all_goals (push_cast at hi ⊢; lia)
  · simp at hi
theorem range_le {a b c : Nat} (hc : 3 ≤ c ∧ c ≤ 5) : (Builtin.Range.rangeSize a b c).toNat ≤ b := by
  have e : Builtin.Range.rangeSize (a : Int) b c = if (a : Int) < b then ((b : Int) - a - 1) / c + 1 else 0 := by
    unfold Builtin.Range.rangeSize
    rw [if_pos (by lia)]
  rw [e]
  split
  · obtain rfl | rfl | rfl : c = 3 ∨ c = 4 ∨ c = 5 := by lia
    all_goals (push_cast; lia)
  · simp

theorem dI_get {l : List Int} {i : Nat} (h : i < l.length) : (dI l)[i]? = some (.int (l.getD i 0)) := by simp [dI, h]
theorem spec_pairs {sc : List Int} (hz : sc.length ≤ 1000) : Spec 1 5 [.lst (dI sc)] (.lst ((pairsN sc).map dP)) := by
  have hzl : 10000 ≤ sizeLine := by decide
  refine Spec.of rfl ["script"] rfl (fun pm cd doc vs hv => ?_) ?_ ?_ ?_ ?_ ?_ ?_ ?_
  · obtain ⟨v, rfl⟩ := List.length_eq_one_iff.mp hv
    rfl
  · decide
  · rfl
  · decide
  · rfl
  · rfl
  · rfl
  · intro f X L a cd _ _
    have hm := many_le sc
    have hlen : (dI sc).length = sc.length := by simp [dI]
    have emin : ∀ n : Nat, (if (n : Int) < ((dI sc).length : Int) then (n : Int) else ((dI sc).length : Int)) = ((min sc.length n : Nat) : Int) := fun n => by rw [hlen]; split <;> lia
    refine Ex.cons (Ex1.assign (Ev.list (ds := dI baseL) (Evs.cons Ev.cInt (Evs.cons Ev.cInt (Evs.cons Ev.cInt (Evs.cons Ev.cInt (Evs.cons Ev.cInt .nil)))))) ?_)
    refine Ex.cons (Ex1.assign (Ev.bin Ev.cInt (Ev.callB (by decide +kernel) (Evs.cons (Ev.callB (by decide +kernel) (Evs.cons (Ev.name rfl) .nil) (CallOf.lenL (by rw [hlen]; lia))) (Evs.cons Ev.cInt .nil)) CallOf.min) Bin.add) ?_)
    rw [show ((3 : Int) + if (2 : Int) < ((dI sc).length : Int) then 2 else ((dI sc).length : Int)) = (manyN sc : Nat) by rw [show (2 : Int) = ((2 : Nat) : Int) from rfl, emin]; unfold manyN; lia]
    refine Ex.cons (Ex1.assign (Ev.listRange (n := 2 * manyN sc) (by lia) ((Ev.bin Ev.cInt (Ev.name rfl) (Bin.mul (.inl (by decide)))).eq (by push_cast; rfl)) rfl rfl) ?_)
    rw [show dI (rangeInts 0 1 (2 * manyN sc)) = dN (List.range (2 * manyN sc)) by rw [dN_eq, rangeInts_nat]]
    refine Ex.cons (Ex1.newMut fun b => ?_)
    refine Ex.cons (Ex1.forN (rows := List.range (manyN sc)) (g := fun (k : Nat) => D.int (k : Int)) ?_ (fun p σ' => p.length ≤ manyN sc ∧ p = List.range p.length ∧ Has σ' [("script", .im (.lst (dI sc))), ("base", .im (.lst (dI baseL))), ("many", .im (.int (manyN sc : Nat))), ("free", .im (.lst (dN (runP sc p).1))), ("pairs", .mut b ((runP sc p).2.map dP))])
      ⟨Nat.zero_le _, rfl, .cons (.cons (.cons (.cons (.cons .nil))))⟩ ?_ ?_ (.inl rfl))
    · exact IterOf.rangeN (Ev.name rfl)
    · rintro p k q σ' e1 ⟨hpl, hp, H⟩
      have hlt : p.length < manyN sc := by
        have := congrArg List.length e1
        simp at this; lia
      have hk : k = p.length := by
        have h1 : (List.range (manyN sc))[p.length]? = some k := by rw [e1]; simp
        rw [List.getElem?_range hlt] at h1
        exact (Option.some.inj h1).symm
      obtain ⟨i1, i2, i3⟩ := runP_inv sc p.length (by lia)
      rw [← hp] at i1 i2 i3
      have e : runP sc (p ++ [k]) = stepP (runP sc p) k (xN sc k) := by simp [runP]
      rw [e]
      generalize runP sc p = st at H i1 i2 i3 ⊢
      obtain ⟨fr, ps⟩ := st
      simp only at H i1 i2 i3
      refine ⟨_, rfl, Ex.has (τ := ("k", .im (.int (k : Nat))) :: [("script", .im (.lst (dI sc))), ("base", .im (.lst (dI baseL))), ("many", .im (.int (manyN sc : Nat))), ("free", .im (.lst (dN fr))), ("pairs", .mut b (ps.map dP))]) ?_ (.cons (.cons (.cons (.cons (.cons (.cons .nil (H _ _ rfl)) (H _ _ rfl)) (H _ _ rfl)) (H _ _ rfl)) (H _ _ rfl)))⟩
      have hxe : ((baseL.getD k 0 + ((rangeInts k (manyN sc) (Builtin.Range.rangeSize k (min sc.length 60 : Nat) (manyN sc)).toNat).map fun q => sc.getD q.toNat 0).sum).fmod 1000000) = ((xN sc k : Nat) : Int) := by
        unfold xN
        rw [Int.toNat_of_nonneg]
        exact Int.fmod_nonneg_of_pos _ (by decide)
      refine Ex.cons (Ex1.assign ((Ev.bin (Ev.bin (Ev.sub (Ev.name rfl) (Ev.name rfl) (Sub.list (dI_get (l := baseL) (i := k) (by show k < 5; lia)) (by lia)))
        (Ev.callB (by decide +kernel) (Evs.cons (Ev.eq (Ev.compN (rows := rangeInts k (manyN sc) (Builtin.Range.rangeSize k (min sc.length 60 : Nat) (manyN sc)).toNat) (k := D.int) (σ₁ := [("script", .im (.lst (dI sc)))]) (fun _ => true) (fun q => .int (sc.getD q.toNat 0)) ?_ (.of (.add .nil) tgW) (fun C _ q hq => ?_) ?_) (d' := .lst (dI ((rangeInts k (manyN sc) (Builtin.Range.rangeSize k (min sc.length 60 : Nat) (manyN sc)).toNat).map fun q => sc.getD q.toNat 0))) ?_) .nil) CallOf.sum) Bin.add) Ev.cInt (Bin.mod (by decide))).eq (congrArg D.int hxe)) ?_)
      · refine IterOf.range3 (Ev.name rfl) ((Ev.callB (by decide +kernel) (Evs.cons (Ev.callB (by decide +kernel) (Evs.cons (Ev.name rfl) .nil) (CallOf.lenL (by rw [hlen]; lia))) (Evs.cons Ev.cInt .nil)) CallOf.min).eq (congrArg D.int (emin 60))) (Ev.name rfl) rfl ?_ (by lia) ?_
        · have := small_ok (manyN sc - 3) (by lia) k (by lia) (min sc.length 60) (by lia)
          rw [show 3 + (manyN sc - 3) = manyN sc by lia] at this
          exact this
        · exact PyProof.noPylong_small (by lia)
      · have hin := range_in (a := k) (b := min sc.length 60) hm hq
        refine ⟨_, rfl, .nil, fun _ => ?_⟩
        have e : q = ((q.toNat : Nat) : Int) := by lia
        refine Ev.sub (Ev.name rfl) ((Ev.name rfl).eq (congrArg D.int e)) (Sub.list (dI_get (by lia)) (by lia))
      · rw [rangeInts_length]
        have := range_le (a := k) (b := min sc.length 60) hm
        lia
      · rw [filter_tt]; simp [dI]
      have hfr0 : firstN fr = fr.getD 0 0 := rfl
      have hflen : (dN fr).length = fr.length := dN_len fr
      refine Ex.cons (Ex1.assign (Ev.sub (Ev.name rfl) Ev.cInt (Sub.list (i := 0) (dN_get (by lia)) (by lia))) ?_)
      have hidx : (1 : Int) + ((xN sc k : Nat) : Int).fmod (((dN fr).length : Int) - 1) = ((1 + xN sc k % (fr.length - 1) : Nat) : Int) := by
        rw [hflen, Int.fmod_eq_emod_of_nonneg _ (by lia)]
        have : ((fr.length : Int) - 1) = ((fr.length - 1 : Nat) : Int) := by lia
        rw [this]; push_cast; rfl
      have hltx : xN sc k % (fr.length - 1) < fr.length - 1 := Nat.mod_lt _ (by lia)
      refine Ex.cons (Ex1.assign (Ev.sub (Ev.name rfl) ((Ev.bin Ev.cInt (Ev.bin (Ev.name rfl) (Ev.bin (Ev.callB (by decide +kernel) (Evs.cons (Ev.name rfl) .nil) (CallOf.lenL (by rw [hflen]; lia))) Ev.cInt Bin.sub) (Bin.mod (by rw [hflen]; lia))) Bin.add).eq (congrArg D.int hidx)) (Sub.list (dN_get (by lia)) (by lia))) ?_)
      refine Ex.cons (Ex1.compN (rows := fr) (k := fun (n : Nat) => D.int (n : Int)) (σ₁ := [("second", .im (.int (secondN fr (xN sc k) : Nat))), ("first", .im (.int (firstN fr : Nat)))]) (fun s => s != firstN fr && s != secondN fr (xN sc k)) (fun (s : Nat) => .int (s : Int)) (IterOf.list (Ev.name rfl))
        (.of (.add (.add .nil)) tgW) (fun C _ s hs => ⟨_, rfl, Tests.one (Tt.eq (Tt.and_cons (Tt.cmp (Ev.name rfl) (Ev.name rfl) Bin.neI) fun _ => Tt.and_cons (Tt.cmp (Ev.name rfl) (Ev.name rfl) Bin.neI) fun _ => Tt.and_nil) ?_), fun _ => Ev.name rfl⟩) (by lia) ?_)
      · rw [Bool.and_true, neN, neN]
      · refine Ex.cons (Ex1.append (Ev.tuple (ds := [.int (firstN fr : Nat), .int (secondN fr (xN sc k) : Nat), .int (xN sc k / 9 % 2 : Nat), .int (k + 5 * (xN sc k / 18 % 51) : Nat)]) (Evs.cons (Ev.name rfl) (Evs.cons (Ev.name rfl) (Evs.cons ((Ev.bin (Ev.bin (Ev.name rfl) Ev.cInt (Bin.div (by decide) (by decide))) Ev.cInt (Bin.mod (by decide))).eq ?_) (Evs.cons ((Ev.bin (Ev.name rfl) (Ev.bin Ev.cInt (Ev.bin (Ev.bin (Ev.name rfl) Ev.cInt (Bin.div (by decide) (by decide))) Ev.cInt (Bin.mod (by decide))) (Bin.mul (.inl (by decide)))) Bin.add).eq ?_) .nil))))) rfl ?_ ?_ (only_of rfl) (by simp))
        · rw [Int.fmod_eq_emod_of_nonneg _ (by decide), Int.fdiv_eq_ediv_of_nonneg _ (by decide)]; push_cast; rfl
        · rw [Int.fmod_eq_emod_of_nonneg _ (by decide), Int.fdiv_eq_ediv_of_nonneg _ (by decide)]; push_cast; rfl
        · refine Ex.nil ⟨rfl, by simp; lia, ?_, .cons (.cons (.cons (.cons (.cons .nil ?_))))⟩
          · rw [hk]; conv => lhs; rw [hp]
            simp [List.range_succ]
          · show some (VD.mut b _) = some (VD.mut b _)
            simp [stepP, dP]
        · simp; lia
    · rintro σ' ⟨_, _, H⟩
      refine Ex.cons (Ex1.retMut (H _ _ rfl) rfl (by simp))
end Mine

namespace Mine
open PySem PySem.Calls PyProof.Rows PySem.W

/-! the sort's questions, where no two keys are alike -/
section
variable {key : Nat → Int} {N : Nat} {cmp : Nat → Nat → (Bool → Shared → Prop) → Shared → Prop} {s : Shared}
noncomputable def Pm (N : Nat) (p : Array Nat) : Prop := p.toList.Perm (List.range N)
theorem Pm.size {p : Array Nat} (h : Pm N p) : p.size = N := by simpa using h.length_eq
theorem Pm.lt {p : Array Nat} (h : Pm N p) {i : Nat} (hi : i < N) : p.getD i 0 < N := by
  have hs := h.size
  have : p.getD i 0 ∈ p.toList := by simp [Array.getD, hs, hi]
  exact List.mem_range.mp (h.mem_iff.mp this)
theorem Pm.ne {p : Array Nat} (h : Pm N p) {i j : Nat} (hij : i < j) (hj : j < N) : p.getD i 0 ≠ p.getD j 0 := by
  have hs := h.size
  have nd : p.toList.Nodup := h.nodup_iff.mpr List.nodup_range
  have := List.pairwise_iff_getElem.mp nd i j (by simp; lia) (by simp; lia) hij
  simpa [Array.getD, hs, hj, show i < N by lia] using this
theorem Pm.of {p q : Array Nat} (h : Pm N p) (k : q.Perm p) : Pm N q := (Array.perm_iff_toList_perm.mp k).trans h
noncomputable abbrev KY (key : Nat → Int) (p : Array Nat) (i : Nat) : Int := key (p.getD i 0)
noncomputable def Up (key : Nat → Int) (p : Array Nat) (k : Nat) : Prop := ∀ i j, i < j → j < k → KY key p i < KY key p j
noncomputable def Dn (key : Nat → Int) (p : Array Nat) (k : Nat) : Prop := ∀ i j, i < j → j < k → KY key p j < KY key p i
noncomputable def Asks (key : Nat → Int) (N : Nat) (cmp : Nat → Nat → (Bool → Shared → Prop) → Shared → Prop) (s : Shared) : Prop := ∀ i j (C : Bool → Shared → Prop), i < N → j < N → i ≠ j → C (decide (key i < key j)) s → cmp i j C s
noncomputable def Apart (key : Nat → Int) (N : Nat) : Prop := ∀ i j, i < N → j < N → i ≠ j → key i ≠ key j

theorem Up.step {p : Array Nat} {n : Nat} (h : Up key p n) (h1 : 1 ≤ n) (hl : KY key p (n - 1) < KY key p n) : Up key p (n + 1) := fun i j hij hj => by
  by_cases e : j = n
  · subst e
    by_cases e2 : i = j - 1
    · subst e2; exact hl
    · exact Int.lt_trans (h i (j - 1) (by lia) (by lia)) hl
  · exact h i j hij (by lia)
theorem Dn.step {p : Array Nat} {n : Nat} (h : Dn key p n) (h1 : 1 ≤ n) (hl : KY key p n < KY key p (n - 1)) : Dn key p (n + 1) := fun i j hij hj => by
  by_cases e : j = n
  · subst e
    by_cases e2 : i = j - 1
    · subst e2; exact hl
    · exact Int.lt_trans hl (h i (j - 1) (by lia) (by lia))
  · exact h i j hij (by lia)

theorem asc_wp (hc : Asks key N cmp s) (ha : Apart key N) {p : Array Nat} (hp : Pm N p) : ∀ (f n : Nat) {Q : Nat → Shared → Prop}, n + f ≤ N → 1 ≤ n → Up key p n → (∀ m, n ≤ m → m ≤ n + f → Up key p m → (m < n + f → KY key p m < KY key p (m - 1)) → Q m s) → (kas_asc p f n).kasWp cmp Q s
  | 0, n, Q, _, _, hu, h => h n (Nat.le_refl _) (Nat.le_refl _) hu fun h => absurd h (Nat.lt_irrefl _)
  | f + 1, n, Q, hn, h1, hu, h => by
    refine hc _ _ _ (hp.lt (by lia)) (hp.lt (by lia)) (hp.ne (i := n - 1) (j := n) (by lia) (by lia)).symm ?_
    show KasT.kasWp cmp (if (decide (key (p.getD n 0) < key (p.getD (n - 1) 0))) = true then _ else _) Q s
    by_cases hl : key (p.getD n 0) < key (p.getD (n - 1) 0)
    · rw [if_pos (by simpa using hl)]
      exact h n (Nat.le_refl _) (by lia) hu fun _ => hl
    · rw [if_neg (by simpa using hl)]
      have hne := ha _ _ (hp.lt (i := n - 1) (by lia)) (hp.lt (i := n) (by lia)) (hp.ne (i := n - 1) (by lia) (by lia))
      exact asc_wp hc ha hp f (n + 1) (by lia) (by lia) (hu.step h1 (show key _ < key _ by lia)) fun m a b c d => h m (by lia) (by lia) c fun e => d (by lia)
theorem desc_wp (hc : Asks key N cmp s) (ha : Apart key N) {p : Array Nat} (hp : Pm N p) : ∀ (f n : Nat) {Q : Array Nat × Nat × Nat → Shared → Prop}, n + f ≤ N → 1 ≤ n → Dn key p n → (∀ m, n ≤ m → m ≤ n + f → Dn key p m → Q (p, m, 0) s) → (kas_desc f p n 0).kasWp cmp Q s
  | 0, n, Q, _, _, hu, h => h n (Nat.le_refl _) (Nat.le_refl _) hu
  | f + 1, n, Q, hn, h1, hu, h => by
    refine hc _ _ _ (hp.lt (by lia)) (hp.lt (by lia)) (hp.ne (i := n - 1) (j := n) (by lia) (by lia)).symm ?_
    show KasT.kasWp cmp (if (decide (key (p.getD n 0) < key (p.getD (n - 1) 0))) = true then _ else _) Q s
    by_cases hl : key (p.getD n 0) < key (p.getD (n - 1) 0)
    · rw [if_pos (by simpa using hl), if_neg (by lia)]
      exact desc_wp hc ha hp f (n + 1) (by lia) (by lia) (hu.step h1 hl) fun m a b c => h m (by lia) (by lia) c
    · rw [if_neg (by simpa using hl)]
      have hne := ha _ _ (hp.lt (i := n - 1) (by lia)) (hp.lt (i := n) (by lia)) (hp.ne (i := n - 1) (by lia) (by lia))
      refine hc _ _ _ (hp.lt (by lia)) (hp.lt (by lia)) (hp.ne (i := n - 1) (j := n) (by lia) (by lia)) ?_
      show KasT.kasWp cmp (if (decide (key (p.getD (n - 1) 0) < key (p.getD n 0))) = true then _ else _) Q s
      rw [if_pos (decide_eq_true (show key (p.getD (n - 1) 0) < key (p.getD n 0) by lia))]
      exact h n (Nat.le_refl _) (by lia) hu
theorem rev_get {p : Array Nat} {j : Nat} (hj : j ≤ p.size) (k : Nat) : (kas_rev p 0 j).getD k 0 = if k < j then p.getD (j - 1 - k) 0 else p.getD k 0 := by
  have := getElem?_mirror_all (xs := p) (i := 0) hj k
  unfold kas_rev
  simp only [Nat.zero_le, true_and, Nat.zero_add] at this
  have e : ∀ (q : Array Nat) (x : Nat), q.getD x 0 = (q[x]?).getD 0 := fun q x => by simp
  rw [e (mirror p 0 j ((j - 0) / 2)) k, e p (j - 1 - k), e p k, this]
  split <;> rfl
theorem rev_pm {p : Array Nat} (hp : Pm N p) (i j : Nat) : Pm N (kas_rev p i j) := hp.of (mirror_perm _ _ _ _)
theorem tail3_wp (hc : Asks key N cmp s) (ha : Apart key N) {p : Array Nat} (hp : Pm N p) {n : Nat} {Q : Nat × Array Nat → Shared → Prop} (hn : n ≤ N) (h1 : 1 ≤ n) (hd : Dn key p n) (h : ∀ m q, Pm N q → 1 ≤ m → m ≤ N → Up key q m → Q (m, q) s) : (kas_tail3 n N p).kasWp cmp Q s := by
  unfold kas_tail3
  rw [KasT.kasWp_bind]
  refine asc_wp hc ha (rev_pm hp 0 n) (N - n) n (by lia) h1 (fun i j hij hj => ?_) fun m a b c d => ?_
  · have hs := hp.size
    show key _ < key _
    rw [rev_get (by lia), rev_get (by lia), if_pos (by lia), if_pos hj]
    exact hd _ _ (by lia) (by lia)
  · exact h m _ (rev_pm hp 0 n) (by lia) (by lia) c
theorem count_wp (hc : Asks key N cmp s) (ha : Apart key N) {p : Array Nat} (hp : Pm N p) (hN : 2 ≤ N) {Q : Nat × Array Nat → Shared → Prop} (h : ∀ m q, Pm N q → 1 ≤ m → m ≤ N → Up key q m → Q (m, q) s) : (kas_count N p).kasWp cmp Q s := by
  unfold kas_count
  rw [KasT.kasWp_bind]
  refine asc_wp hc ha hp (N - 1) 1 (by lia) (by lia) (fun i j hij hj => by lia) fun n a b hu hlast => ?_
  by_cases e : n = N
  · rw [if_pos (by simpa using e)]
    exact h n p hp a (by lia) hu
  · rw [if_neg (by simpa using e)]
    by_cases e1 : n > 1
    · rw [if_pos e1]
      refine hc _ _ _ (hp.lt (by lia)) (hp.lt (by lia)) (hp.ne (i := 0) (j := n - 1) (by lia) (by lia)) ?_
      have hl : key (p.getD 0 0) < key (p.getD (n - 1) 0) := hu 0 (n - 1) (by lia) (by lia)
      show KasT.kasWp cmp (if (decide (key (p.getD 0 0) < key (p.getD (n - 1) 0))) = true then _ else _) Q s
      rw [if_pos (by simpa using hl)]
      exact h n p hp a (by lia) hu
    · rw [if_neg e1]
      have e2 : n = 1 := by lia
      subst e2
      unfold kas_descPart
      rw [KasT.kasWp_bind]
      have hl := hlast (by lia)
      refine desc_wp hc ha hp (N - (1 + 1)) (1 + 1) (by lia) (by lia) (fun i j hij hj => ?_) fun m a b hd => ?_
      · have e1 : j = 1 := by lia
        have e0 : i = 0 := by lia
        subst e1; subst e0
        exact hl
      · rw [if_neg (by simp)]
        exact tail3_wp (n := m) hc ha hp (by lia) (by lia) hd h
theorem place_wp (hc : Asks key N cmp s) (ha : Apart key N) {p : Array Nat} (hp : Pm N p) {k : Nat} (hk : k < N) (hu : Up key p k) : ∀ (f l r : Nat) {Q : Nat → Shared → Prop}, l ≤ r → r ≤ k → r - l ≤ f → (∀ i, i < l → KY key p i < KY key p k) → (∀ i, r ≤ i → i < k → KY key p k < KY key p i) →
    (∀ m, m ≤ k → (∀ i, i < m → KY key p i < KY key p k) → (∀ i, m ≤ i → i < k → KY key p k < KY key p i) → Q m s) → (kas_place p k f l r).kasWp cmp Q s
  | 0, l, r, Q, h1, h2, h3, h4, h5, h => h l (by lia) h4 fun i a b => h5 i (by lia) b
  | f + 1, l, r, Q, h1, h2, h3, h4, h5, h => by
    show KasT.kasWp cmp (if l ≥ r then _ else _) Q s
    by_cases hge : l ≥ r
    · rw [if_pos hge]
      exact h l (by lia) h4 fun i a b => h5 i (by lia) b
    · rw [if_neg hge]
      refine hc _ _ _ (hp.lt hk) (hp.lt (by lia)) (hp.ne (i := (l + r) / 2) (j := k) (by lia) hk).symm ?_
      show KasT.kasWp cmp (if (decide (key (p.getD k 0) < key (p.getD ((l + r) / 2) 0))) = true then _ else _) Q s
      by_cases hl : key (p.getD k 0) < key (p.getD ((l + r) / 2) 0)
      · rw [if_pos (by simpa using hl)]
        refine place_wp hc ha hp hk hu f l ((l + r) / 2) (by lia) (by lia) (by lia) h4 (fun i a b => ?_) h
        by_cases e : i = (l + r) / 2
        · subst e; exact hl
        · exact Int.lt_trans hl (hu _ _ (by lia) b)
      · rw [if_neg (by simpa using hl)]
        have hne := ha _ _ (hp.lt (i := (l + r) / 2) (by lia)) (hp.lt (i := k) (by lia)) (hp.ne (i := (l + r) / 2) (by lia) hk)
        have hl' : key (p.getD ((l + r) / 2) 0) < key (p.getD k 0) := by lia
        refine place_wp hc ha hp hk hu f ((l + r) / 2 + 1) r (by lia) (by lia) (by lia) (fun i a => ?_) h5 h
        by_cases e : i = (l + r) / 2
        · subst e; exact hl'
        · exact Int.lt_trans (hu i ((l + r) / 2) (by lia) (by lia)) hl'
theorem bub_get {p : Array Nat} {k d : Nat} (hk : k < p.size) (hd : d ≤ k) (i : Nat) : (bubble p k d).getD i 0 = if i = k - d then p.getD k 0 else if k - d < i ∧ i ≤ k then p.getD (i - 1) 0 else p.getD i 0 := by
  have := getElem?_bubble hk d hd i
  have e : ∀ (q : Array Nat) (x : Nat), q.getD x 0 = (q[x]?).getD 0 := fun q x => by simp
  rw [e (bubble p k d) i, this, e p k, e p (i - 1), e p i]
  split
  · rfl
  · split <;> rfl
theorem bin_wp (hc : Asks key N cmp s) (ha : Apart key N) : ∀ (f : Nat) (p : Array Nat) (k : Nat) {Q : Array Nat → Shared → Prop}, Pm N p → k + f = N → Up key p k → (∀ q, Pm N q → Up key q N → Q q s) → (kas_bin f p k).kasWp cmp Q s
  | 0, p, k, Q, hp, hk, hu, h => h p hp (by rw [← hk]; exact hu)
  | f + 1, p, k, Q, hp, hk, hu, h => by
    show KasT.kasWp cmp ((kas_place p k k 0 k).bind fun l => kas_bin f (bubble p k (k - l)) (k + 1)) Q s
    rw [KasT.kasWp_bind]
    have hs := hp.size
    refine place_wp hc ha hp (by lia) hu k 0 k (by lia) (by lia) (by lia) (fun i a => by lia) (fun i a b => by lia) fun m hm h1 h2 => ?_
    refine bin_wp hc ha f _ (k + 1) (hp.of (bubble_perm _ _ _)) (by lia) (fun i j hij hj => ?_) h
    show key _ < key _
    rw [bub_get (by lia) (by lia), bub_get (by lia) (by lia), show k - (k - m) = m by lia]
    repeat' split
    all_goals first
      | (exfalso; lia)
      | exact h1 _ (by lia)
      | exact h2 _ (by lia) (by lia)
      | exact hu _ _ (by lia) (by lia)
theorem sort_wp (hc : Asks key N cmp s) (ha : Apart key N) (hN : 2 ≤ N) {Q : Array Nat → Shared → Prop} (h : ∀ q, Pm N q → Up key q N → Q q s) : (kas_sort N).kasWp cmp Q s := by
  unfold kas_sort
  rw [KasT.kasWp_bind]
  refine count_wp hc ha (p := List.toArray (List.range N)) (.refl _) hN fun m q hq h1 h2 hu => ?_
  by_cases e : m < N
  · rw [if_pos e, show max m 1 = m by lia]
    exact bin_wp hc ha (N - m) q m hq (by lia) hu h
  · rw [if_neg e]
    have : m = N := by lia
    subst this
    exact h q hq hu
end
end Mine

namespace Mine
open PySem PySem.Calls PyProof.Rows PySem.W

/-! sorted of tuples whose first items are ints, no two alike -/
noncomputable def TupAt (h : Heap) (key : Nat → Int) (vs : List Value) : Prop := ∀ i, i < vs.length → ∃ a o xs n t, vs[i]? = some (.ref a) ∧ h.get? a = some o ∧ o.cls = .type "tuple" ∧ o.data = .seq xs n ∧ xs[0]? = some (.int (key i) t)
theorem TupAt.keep {h h' : Heap} {key : Nat → Int} {vs : List Value} (T : TupAt h key vs) (k : ∀ b o, o.cls = .type "tuple" → h.get? b = some o → h'.get? b = some o) : TupAt h' key vs := fun i hi => by
  obtain ⟨a, o, xs, n, t, h1, h2, h3, h4, h5⟩ := T i hi
  exact ⟨a, o, xs, n, t, h1, k a o h3 h2, h3, h4, h5⟩
theorem TupAt.kat {h : Heap} : ∀ {vs : List Value} {key : Nat → Int}, TupAt h key vs → ∃ fs, KatTups h vs fs ∧ fs.length = vs.length ∧ ∀ v ∈ fs, ∃ i t, v = .int i t
  | [], _, _ => ⟨[], trivial, rfl, fun _ m => nomatch m⟩
  | v :: vs, key, T => by
    obtain ⟨a, o, xs, n, t, h1, h2, h3, h4, h5⟩ := T 0 (by simp)
    obtain ⟨fs, k1, k2, k3⟩ := TupAt.kat (vs := vs) (key := fun i => key (i + 1)) fun i hi => by
      obtain ⟨a, o, xs, n, t, h1, r⟩ := T (i + 1) (by simp; lia)
      exact ⟨a, o, xs, n, t, by simpa using h1, r⟩
    simp only [List.getElem?_cons_zero, Option.some.injEq] at h1
    subst h1
    refine ⟨.int (key 0) t :: fs, ⟨⟨a, o, xs, n, rfl, h2, h3, h4, h5⟩, k1⟩, by simp [k2], fun v m => ?_⟩
    rcases List.mem_cons.mp m with rfl | m
    · exact ⟨_, _, rfl⟩
    · exact k3 v m
section
variable {prog : Program} {w : World} {A : Around} {E : Value → Shared → Prop} {s : Shared}
theorem lt_tups {key : Nat → Int} {vs : List Value} (T : TupAt s.heap key vs) (ap : Apart key vs.length) : Asks key vs.length (kas_ask prog w A (tuples' true) vs) s := fun i j C hi hj hij h => by
  obtain ⟨a, o, xs, n, t, h1, h2, h3, h4, h5⟩ := T i hi
  obtain ⟨a', o', xs', n', t', h1', h2', h3', h4', h5'⟩ := T j hj
  show wpAny (model prog w) A (keyLt' (tuples' true) (vs.getD i .none) (vs.getD j .none)) C (fun _ _ => False) s
  rw [show vs.getD i .none = .ref a by simp [List.getD, h1], show vs.getD j .none = .ref a' by simp [List.getD, h1']]
  refine kat_lt h2 h4 h2' h4' ?_
  obtain ⟨ys, e⟩ : ∃ ys, xs.toList = .int (key i) t :: ys := by
    cases hx : xs.toList with
    | nil => rw [← Array.getElem?_toList, hx] at h5; cases h5
    | cons y ys => rw [← Array.getElem?_toList, hx] at h5; simp at h5; exact ⟨ys, by rw [h5]⟩
  obtain ⟨ys', e'⟩ : ∃ ys, xs'.toList = .int (key j) t' :: ys := by
    cases hx : xs'.toList with
    | nil => rw [← Array.getElem?_toList, hx] at h5'; cases h5'
    | cons y ys => rw [← Array.getElem?_toList, hx] at h5'; simp at h5'; exact ⟨ys, by rw [h5']⟩
  rw [e, e']
  refine kat_cons (wpAny_eqBool_int (kat_go (fun he => ?_) fun _ => kat_no ?_))
  · exact absurd (eq_of_beq he) (ap i j hi hj hij)
  · exact oneLt_int h
/-! the heaps on the way: a list emptied for its sort, a list copied ahead of it -/
theorem upd_old {h : Heap} {a b : Addr} {o : Obj} {g : Obj → Obj} (hb : b ≠ a) (e : h.get? b = some o) : (h.update a g).get? b = some o := (Heap.get?_update_ne _ _ _ _ hb).trans e
noncomputable abbrev emptied (h : Heap) (a : Addr) (vs : List Value) : Heap := ((h.update a (Obj.mapSeq fun _ => (#[] : Array Value))).push (seqObj "tuple" vs.toArray 0)).push (seqObj "list" #[] 0)
noncomputable abbrev copied (h : Heap) (vs : List Value) : Heap := ((h.push (seqObj "list" #[] 0)).update h.objs.size (Obj.mapSeq (· ++ vs.toArray))).push (seqObj "list" vs.toArray 0)
theorem emptied_old {h : Heap} {a b : Addr} {vs : List Value} {o : Obj} (hb : b ≠ a) (e : h.get? b = some o) : (emptied h a vs).get? b = some o := Heap.get?_push_of_some _ (Heap.get?_push_of_some _ (upd_old hb e))
theorem emptied_new {h : Heap} {a : Addr} {vs : List Value} {n : Nat} (ho : h.get? a = some (seqObj "list" vs.toArray n)) :
    ∃ e, (h.update a (Obj.mapSeq fun _ => (#[] : Array Value))).get? a = some (seqObj "list" #[] e) ∧ (emptied h a vs).get? a = some (seqObj "list" #[] e) :=
  have g := get?_update_seq ho fun _ => #[]
  ⟨_, g, Heap.get?_push_of_some _ (Heap.get?_push_of_some _ g)⟩
theorem copied_old {h : Heap} {b : Addr} {vs : List Value} {o : Obj} (e : h.get? b = some o) : (copied h vs).get? b = some o :=
  Heap.get?_push_of_some _ (upd_old (Nat.ne_of_lt (Heap.lt_size e)) (Heap.get?_push_of_some _ e))
theorem copied_end (h : Heap) (vs : List Value) : ((h.push (seqObj "list" #[] 0)).update h.objs.size (Obj.mapSeq (· ++ vs.toArray))).objs.size = h.objs.size + 1 := (Heap.size_update ..).trans (size_push' ..)
theorem copied_new (h : Heap) (vs : List Value) : (copied h vs).get? (h.objs.size + 1) = some (seqObj "list" vs.toArray 0) := copied_end h vs ▸ Heap.get?_push_size _ rfl
theorem fits {n : Nat} (h : n < 64) : n ≤ sizeLine := by rw [sizeLine_eq]; lia
/-! the runs, where the list stands emptied -/
noncomputable def Sorted (key : Nat → Int) (vs : List Value) (st : SortSt) : Prop := ∃ p : Array Nat, (arrOf st).map (·.2) = (p.toList.map fun i => vs.getD i Value.none).toArray ∧ failedOf st = none ∧ Pm vs.length p ∧ Up key p vs.length
theorem sort_runs {key : Nat → Int} {vs : List Value} (T : TupAt s.heap key vs) (ap : Apart key vs.length) (h2 : 2 ≤ vs.length) (h64 : vs.length < 64) :
    wpAny (model prog w) A (sortRuns'.run (SortSt.mk' (tuples' true) (vs.toArray.zip vs.toArray) #[] 7 none)) (fun r s' => s' = s ∧ Sorted key vs r.2) E s :=
  kat_run (Q := fun st s' => s' = s ∧ Sorted key vs st) (G := fun p s' => s' = s ∧ Pm vs.length p ∧ Up key p vs.length) rfl h2 h64
    (fun p st s' _ e f ⟨g1, g2, g3⟩ => ⟨g1, p, kat_snds (ks := vs) (vs := vs) rfl e, f, g2, g3⟩) (sort_wp (lt_tups T ap) ap h2 fun q hq hu => ⟨rfl, hq, hu⟩)
theorem list_sort_tup {key : Nat → Int} {a : Addr} {vs : List Value} {n : Nat} {P : PySem.Fin → Shared → Prop} (ho : s.heap.get? a = some (seqObj "list" vs.toArray n)) (T : TupAt s.heap key vs) (ap : Apart key vs.length) (h2 : 2 ≤ vs.length) (h64 : vs.length < 64)
    (h : ∀ q, Pm vs.length q → Up key q vs.length → P (.done (.ret .none)) { s with heap := sortedHeap s.heap a vs (q.toList.map fun i => vs.getD i Value.none).toArray }) :
    wpAny (model prog w) A (Builtin.«list.sort» ⟨[.ref a], []⟩) P E s := by
  obtain ⟨ep, g1, g2⟩ := emptied_new ho
  have T1 : TupAt (emptied s.heap a vs) key vs := T.keep fun b o hc e => emptied_old (fun q => by rw [q, ho] at e; cases e; exact absurd (Value.type.inj hc) (by decide)) e
  obtain ⟨fs, K, kl, ki⟩ := T1.kat
  have few : ¬ vs.toArray.size < 2 := by simpa using h2
  have sort := sort_runs (prog := prog) (w := w) (A := A) (E := E) (s := { s with heap := emptied s.heap a vs }) T1 ap h2 h64
  have z : vs.toArray.size ≤ sizeLine := by simpa using fits h64
  rw [list_sort_plain]
  refine wpAny_bind (listItems_at ho rfl (wpAny_bind (listUpdate_at ho rfl (wpAny_bind (seqEpoch_at g1 rfl (wpAny_bind (wpAny_newTuple (wpAny_bind (wpAny_newList (wpAny_holding ?_) (Nat.zero_le _))) z)))) z (Nat.zero_le _))))
  rw [if_neg few, if_neg few]
  refine wpAny_bind (kat_kind (T := .type "int") K (by lia) (fun v m => by obtain ⟨i, t, rfl⟩ := ki v m; exact .now) (by decide) (wpAny_bind (wpAny_mono sort ?_ fun _ _ e => e)))
  rintro ⟨⟨⟩, st⟩ _ ⟨rfl, p, out, ok, hp, hu⟩
  dsimp only at out ok ⊢
  rw [out, ok]
  refine wpAny_bind (seqEpoch_at g2 rfl (wpAny_bind (listUpdate_at g2 rfl ?_ (Nat.zero_le _) ?_)))
  · rw [if_neg (by simp)]
    exact wpAny_pure (h p hp hu)
  · have := hp.size
    have := fits h64
    simp; lia
/-! sorted: a list copied, and the copy sorted -/
theorem sorted_tup {key : Nat → Int} {l : Addr} {vs : List Value} {Q : Value → Shared → Prop} (hl : s.heap.IsList l vs.toArray) (T : TupAt s.heap key vs) (ap : Apart key vs.length) (h2 : 2 ≤ vs.length) (h64 : vs.length < 64)
    (h : ∀ q, Pm vs.length q → Up key q vs.length → Q (.ref (s.heap.objs.size + 1)) { s with heap := sortedAll s.heap vs (q.toList.map fun i => vs.getD i Value.none).toArray }) :
    wpAny (model prog w) A (call (.builtin "sorted") [.ref l]) Q E s := by
  have z : vs.length ≤ sizeLine := fits h64
  have sort : ∀ {A' : Around}, wpAny (model prog w) A' (call (.builtin "list.sort") [.ref (s.heap.objs.size + 1)]) (fun _ s' => Q (.ref (s.heap.objs.size + 1)) s') E { s with heap := copied s.heap vs } := fun {A'} =>
    wpAny_call_entry slot_list_sort ⟨_, copied_new _ _, rfl⟩ entry_list_sort (list_sort_tup (copied_new _ _) (T.keep fun b o _ e => copied_old e) ap h2 h64 fun q a b => ⟨_, rfl, h q a b⟩) (args_list_sort _)
  refine call_function_entry kind_sorted plain_sorted entry_sorted (args_sorted1 _) ?_
  unfold Builtin.«sorted»
  refine wpAny_bind (m := checkCount "sorted" 1 1 _) (wpAny_pure (wpAny_bind (collect_list hl (wpAny_bind (wpAny_newList ?_ z)) z)))
  rw [copied_end]
  exact wpAny_bind (wpAny_holding (wpAny_mono sort (fun _ s' q => wpAny_pure ⟨_, rfl, q⟩) fun _ _ e => e))
end

/-! as a call: the rows, told in the order of their ints -/
theorem CallOf.sorted {f : Fx} {α : Type} {rows out : List α} {i : α → Int} {r : α → List D} (hp : out.Perm rows) (hs : out.Pairwise fun a b => i a < i b) (h2 : 2 ≤ rows.length) (h64 : rows.length < 64) :
    CallOf f (.builtin "sorted") [.lst (rows.map fun a => .tup (.int (i a) :: r a))] (.lst (out.map fun a => .tup (.int (i a) :: r a))) := fun X s vs S _ rr => by
  obtain ⟨v, _, rfl, ⟨l, us, rfl, _, hl, hu⟩, hr⟩ := rr; cases hr
  have hlen : us.length = rows.length := by simpa using hu.length
  obtain ⟨d, hd⟩ : ∃ d, d ∈ rows := List.exists_mem_of_length_pos (by lia)
  have hrow : ∀ j, j < rows.length → rows[j]? = some (rows.getD j d) := fun j hj => by simp [List.getD, hj]
  have T : TupAt s.heap (fun j => i (rows.getD j d)) us := fun j hj => by
    obtain ⟨v, hv, b, vs, rfl, ⟨o, ho, hc, n, hdat⟩, hR⟩ := hu.get (i := j) (d := .tup (.int (i (rows.getD j d)) :: r (rows.getD j d))) (by rw [List.getElem?_map, hrow j (by lia)]; rfl)
    obtain ⟨v0, rest, rfl, ⟨t, rfl⟩, _⟩ := hR
    exact ⟨b, o, _, n, t, hv, ho, hc, hdat, by simp⟩
  have nd : rows.Pairwise fun a b => i a ≠ i b := (hp.pairwise_iff (fun h => Ne.symm h)).mp (hs.imp fun h => Int.ne_of_lt h)
  have ap : Apart (fun j => i (rows.getD j d)) us.length := fun a b ha hb hab => by
    have key : ∀ a b, a < b → b < rows.length → i (rows.getD a d) ≠ i (rows.getD b d) := fun a b h1 h2 => by
      have := List.pairwise_iff_getElem.mp nd a b (by lia) h2 h1
      simpa [List.getD, h2, show a < rows.length by lia] using this
    rcases Nat.lt_or_gt_of_ne hab with h | h
    · exact key a b h (by lia)
    · exact (key b a h (by lia)).symm
  refine sorted_tup hl T ap (by lia) (by lia) fun q hq hup => ?_
  obtain ⟨e, he⟩ := sortedAll_at s.heap us (q.toList.map fun i => us.getD i Value.none).toArray
  have k : KeepBut [] s.heap (sortedAll s.heap us (q.toList.map fun i => us.getD i Value.none).toArray) := .of_all fun b o e => sortedAll_old e
  have hout : out = q.toList.map fun j => rows.getD j d := by
    have hrows : rows = (List.range rows.length).map fun j => rows.getD j d := by
      refine List.ext_getElem (by simp) fun j h1 h2 => ?_
      simp [List.getD, h1]
    have p1 : (q.toList.map fun j => rows.getD j d).Perm rows := by
      have := (show q.toList.Perm (List.range us.length) from hq).map fun j => rows.getD j d
      rw [hlen, ← hrows] at this
      exact this
    have s1 : (q.toList.map fun j => rows.getD j d).Pairwise fun a b => i a < i b := by
      rw [List.pairwise_map]
      refine List.pairwise_iff_getElem.mpr fun a b h1 h2 h3 => ?_
      have hs := hq.size
      have := hup a b h3 (by simp at h2; lia)
      simp only [KY] at this
      simp only [Array.length_toList] at h1 h2
      simpa [Array.getD, h1, h2] using this
    exact List.Perm.eq_of_pairwise (fun a b _ _ h1 h2 => absurd h2 (Int.lt_asymm h1)) hs s1 (hp.trans p1.symm)
  refine ⟨.heap' k, _, q.toList.map fun i => us.getD i Value.none, rfl, S.fresh ?_, ⟨_, he, rfl, e, rfl⟩, ?_⟩
  · cases hx : s.heap.get? (s.heap.objs.size + 1) with
    | none => rfl
    | some o => exact absurd (Heap.lt_size hx) (Nat.not_lt.mpr (Nat.le_succ _))
  · subst hout
    refine Reps.of_get (by simp) fun j dd v h1 h2 => ?_
    simp only [List.getElem?_map, Option.map_eq_some_iff] at h1 h2
    obtain ⟨_, ⟨x, hx, rfl⟩, rfl⟩ := h1
    obtain ⟨y, hy, rfl⟩ := h2
    rw [hx] at hy; cases hy
    have hxl : x < rows.length := by
      have : x ∈ q.toList := List.mem_of_getElem? hx
      have := List.mem_range.mp ((show q.toList.Perm (List.range us.length) from hq).mem_iff.mp this)
      lia
    obtain ⟨v, hv, hR⟩ := hu.get (i := x) (d := .tup (.int (i (rows.getD x d)) :: r (rows.getD x d))) (by rw [List.getElem?_map, hrow x hxl]; rfl)
    rw [show us.getD x Value.none = v by simp [List.getD, hv]]
    exact hR.keep k
end Mine

namespace Mine
open PySem PySem.Calls PyProof.Rows PySem.W

theorem defs_len : defs.length = 13 := by rfl
theorem fn_mem (i : Nat) (h : i < 13) : fn i ∈ defs := by
  unfold fn
  rw [List.getD_eq_getElem?_getD, List.getElem?_eq_getElem (by rw [defs_len]; exact h)]
  exact List.getElem_mem _

/-! _law_ends -/
structure En where
  s : Nat
  o : List Nat
  n : Nat
noncomputable def dE (e : En) : D := .tup [.int e.s, .lst (dN e.o), .int e.n]
noncomputable def end1 (p : Pr) : En := ⟨p.a, apN p.l ++ [40], 64 * sprN p.l + 40⟩
noncomputable def end2 (p : Pr) : En := if p.t ≠ 0 then ⟨p.b, apN p.l ++ [92, 92, 41], 262144 * sprN p.l + 116521⟩ else ⟨p.b, apN p.l ++ [41], 64 * sprN p.l + 41⟩
noncomputable def ends0 (ps : List Pr) : List En := ps.flatMap fun p => [end1 p, end2 p]
theorem ends0_len : ∀ ps : List Pr, (ends0 ps).length = 2 * ps.length
  | [] => rfl
  | p :: ps => by
    show ([end1 p, end2 p] ++ ends0 ps).length = _
    rw [List.length_append, ends0_len ps]; simp; lia
theorem apN_lt : ∀ n < 256, ∀ c ∈ apN n, c < 128 := by decide +kernel
theorem apN_len (n : Nat) : (apN n).length ≤ 2 := by unfold apN; split <;> (try split) <;> simp
theorem bts_ints {l : List Nat} (h : ∀ c ∈ l, c < 256) : dI (KBw.bInts (bts l)) = dN l := by
  unfold KBw.bInts bts dI dN
  simp only [List.map_map]
  refine List.map_congr_left fun c hc => ?_
  simp only [Function.comp]
  rw [show (UInt8.ofNat c).toNat = c by simp [UInt8.toNat_ofNat', Nat.mod_eq_of_lt (h c hc)]]
theorem spec_ends {ps : List Pr} {out : List En} (hl : ∀ p ∈ ps, p.l < 256) (hp : out.Perm (ends0 ps)) (hs : out.Pairwise fun x y => x.s < y.s) (h1 : 1 ≤ ps.length) (hz : ps.length ≤ 20) : Spec 2 7 [.lst (ps.map dP)] (.lst (out.map dE)) := by
  have hzl : 10000 ≤ sizeLine := by decide
  refine Spec.of (k := 1) rfl ["pairs"] rfl (fun pm cd doc vs hv => ?_) ?_ ?_ ?_ ?_ ?_ ?_ ?_
  · obtain ⟨v, rfl⟩ := List.length_eq_one_iff.mp hv
    rfl
  · decide
  · rfl
  · decide
  · rfl
  · rfl
  · rfl
  · intro f X L a cd hn hk
    refine Ex.cons (Ex1.newMut fun b => ?_)
    refine Ex.cons (Ex1.forN (rows := ps) (g := dP) (IterOf.list (Ev.name rfl)) (fun p σ' => p.length ≤ ps.length ∧ Has σ' [("ends", .mut b ((ends0 p).map dE))]) ⟨Nat.zero_le _, .cons .nil⟩ ?_ ?_ tgtOk_all)
    · rintro p n q σ' e1 ⟨hpl, H⟩
      have hln : n.l < 256 := hl n (by rw [e1]; simp)
      have hpl' : p.length + 1 ≤ ps.length := by rw [e1]; simp
      have e2 : ends0 (p ++ [n]) = ends0 p ++ [end1 n, end2 n] := by simp [ends0]
      have hel := ends0_len p
      rw [e2]
      generalize ends0 p = Es at H hel ⊢
      refine ⟨_, rfl, Ex.has (τ := ("label", .im (.int n.l)) :: ("twist", .im (.int n.t)) :: ("second", .im (.int n.b)) :: ("first", .im (.int n.a)) :: [("ends", .mut b (Es.map dE))]) ?_ (.cons (.cons (.cons (.cons (.cons .nil (H _ _ rfl))))))⟩
      have hap : ∀ c ∈ apN n.l, c < 256 := fun c hc => Nat.lt_trans (apN_lt n.l hln c hc) (by decide)
      have hlen := apN_len n.l
      refine Ex.cons (Ex1.assign (Ev.callF (spec_spread hln) (Evs.cons (Ev.name rfl) .nil) (by show 1 ≤ f.n - 1; lia) rfl (fn_mem 6 (by decide))) ?_)
      refine Ex.cons (Ex1.append (Ev.tuple (ds := [.int n.a, .lst (dN (apN n.l ++ [40])), .int (64 * sprN n.l + 40 : Nat)]) (Evs.cons (Ev.name rfl) (Evs.cons (Ev.eq (Ev.bin (Ev.compN (rows := apN n.l) (k := fun (c : Nat) => D.int (c : Int)) (σ₁ := []) (fun _ => true) (fun (c : Nat) => D.int (c : Int)) ((IterOf.bytes (Ev.callF (spec_Int2AP (n := (n.l : Nat)) (by lia)) (Evs.cons (Ev.name rfl) .nil) (by show 1 ≤ f.n - 1; lia) rfl (fn_mem 4 (by decide)))).eq ?_) (.of .nil tgW) (fun C _ c hc => ⟨_, rfl, .nil, fun _ => Ev.name rfl⟩) (by lia)) (Ev.list (Evs.cons Ev.cInt .nil)) (Bin.addL ?_)) ?_) (Evs.cons (Ev.eq (Ev.bin (Ev.bin Ev.cInt (Ev.name rfl) (Bin.mul (.inl (by decide)))) Ev.cInt Bin.add) ?_) .nil)))) rfl ?_ ?_ (only_of rfl) (by simp))
      · rw [Int.natAbs_natCast, bts_ints hap]; rfl
      · rw [filter_tt]; simp; lia
      · rw [filter_tt]; simp [dN]
      · exact congrArg D.int (by lia)
      · refine Ex.cons (Ex1.compN (rows := apN n.l) (k := fun (c : Nat) => D.int (c : Int)) (σ₁ := []) (fun _ => true) (fun (c : Nat) => D.int (c : Int)) ((IterOf.bytes (Ev.callF (spec_Int2AP (n := -(n.l : Nat)) (by lia)) (Evs.cons (Ev.un (Ev.name rfl) Un.neg) .nil) (by show 1 ≤ f.n - 1; lia) rfl (fn_mem 4 (by decide)))).eq ?_) (.of .nil tgW) (fun C _ c hc => ⟨_, rfl, .nil, fun _ => Ev.name rfl⟩) (by lia) ?_)
        · rw [Int.natAbs_neg, Int.natAbs_natCast, bts_ints hap]; rfl
        · rw [filter_tt]
          refine Ex.cons (Ex1.if_ (b := ((n.t : Nat) : Int) != 0) (Tt.plain (Ev.name rfl) Truth.int) (fun hb => ?_) fun hb => ?_)
          · have ht : n.t ≠ 0 := by simpa using hb
            refine Ex.cons (Ex1.append (Ev.tuple (ds := [.int n.b, .lst (dN (apN n.l ++ [92, 92, 41])), .int (262144 * sprN n.l + 116521 : Nat)]) (Evs.cons (Ev.name rfl) (Evs.cons (Ev.eq (Ev.bin (Ev.name rfl) (Ev.list (Evs.cons Ev.cInt (Evs.cons Ev.cInt (Evs.cons Ev.cInt .nil)))) (Bin.addL ?_)) ?_) (Evs.cons (Ev.eq (Ev.bin (Ev.bin Ev.cInt (Ev.name rfl) (Bin.mul (.inl (by decide)))) Ev.cInt Bin.add) ?_) .nil)))) rfl ?_ ?_ (only_of rfl) (by simp))
            · simp; lia
            · simp [dN]
            · exact congrArg D.int (by lia)
            · refine Ex.nil (Ex.nil ⟨rfl, by simpa using hpl', .cons .nil ?_⟩)
              show some (VD.mut b _) = some (VD.mut b _)
              rw [List.map_append, show end2 n = ⟨n.b, apN n.l ++ [92, 92, 41], 262144 * sprN n.l + 116521⟩ from if_pos ht, List.append_assoc]; rfl
            · simp; lia
          · have ht : n.t = 0 := by simpa using hb
            refine Ex.cons (Ex1.append (Ev.tuple (ds := [.int n.b, .lst (dN (apN n.l ++ [41])), .int (64 * sprN n.l + 41 : Nat)]) (Evs.cons (Ev.name rfl) (Evs.cons (Ev.eq (Ev.bin (Ev.name rfl) (Ev.list (Evs.cons Ev.cInt .nil)) (Bin.addL ?_)) ?_) (Evs.cons (Ev.eq (Ev.bin (Ev.bin Ev.cInt (Ev.name rfl) (Bin.mul (.inl (by decide)))) Ev.cInt Bin.add) ?_) .nil)))) rfl ?_ ?_ (only_of rfl) (by simp))
            · simp; lia
            · simp [dN]
            · exact congrArg D.int (by lia)
            · refine Ex.nil (Ex.nil ⟨rfl, by simpa using hpl', .cons .nil ?_⟩)
              show some (VD.mut b _) = some (VD.mut b _)
              rw [List.map_append, show end2 n = ⟨n.b, apN n.l ++ [41], 64 * sprN n.l + 41⟩ from if_neg (by lia), List.append_assoc]; rfl
            · simp; lia
      · simp; lia
    · rintro σ' ⟨_, H⟩
      have hel := ends0_len ps
      refine Ex.freeze (x := "ends") (σ0 := []) ?_ (H _ _ rfl) (by simp) (fun y d e => by simp at e)
      exact Ex.cons (Ex1.ret (Ev.callB (by decide +kernel) (Evs.cons (Ev.name rfl) .nil) (CallOf.sorted (rows := ends0 ps) (out := out) (i := fun e => (e.s : Int)) (r := fun e => [.lst (dN e.o), .int e.n]) hp (hs.imp fun h => Int.ofNat_lt.mpr h) (by lia) (by lia))) rfl)
end Mine

namespace Mine
open PySem PySem.Calls PyProof.Rows PySem.W

/-! statements of a generator's body, from stop to stop -/
section
variable {M : Model} {A : Around} {R : GenEnd} {Y : Protocol} {n : Nat} {s₀ : Shared} {c : Code} {fs : List Frame} {s : Shared} {env : Env}
  {K : Flow → Sem Fin} {H : Value → Sem Fin} {gd : Bool → Bool} {lv : List Value → List Value}

theorem seg_one {st : Stmt} (h : wpAny M (A.over c fs) (exec st env) (fun f s' => Seg M A R Y n s₀ c (K f) fs s') NoE s) : Seg M A R Y n s₀ c ((exec st env).wrap K H gd lv) fs s :=
  seg_wrap (wpAny_mono h (fun _ _ x => x) fun _ _ x => x.elim)
theorem seg_If {t : Expr} {body orelse : List Stmt} {pos : Pos}
    (h : wpAny M (A.over c fs) (isTrue t env (eval t env)) (fun b s' => if b = true then Seg M A R Y n s₀ c ((execs body env).wrap K H gd lv) fs s' else Seg M A R Y n s₀ c ((execs orelse env).wrap K H gd lv) fs s') NoE s) :
    Seg M A R Y n s₀ c ((exec (.If t body orelse pos) env).wrap K H gd lv) fs s := by
  rw [exec_If]
  refine seg_bind_wrap (wpAny_standAt (seg_bind_wrap (wpAny_mono h (fun b s' hb => ?_) fun _ _ x => x.elim)))
  cases b with
  | true => exact hb
  | false => exact hb
theorem seg_For {t iter : Expr} {body orelse : List Stmt} {pos : Pos}
    (h : wpAny M (A.over c fs) (eval iter env) (fun x s1 => wpAny M (A.over c fs) (pyIter x) (fun it s2 => ∀ p, Seg M A R Y n s₀ (.forLoop t it body orelse env) (M.den (.forLoop t it body orelse env))
      (.ret (fun r => ((match r with | .ok f => (.pure f : Sem Flow) | .error e => .raise e).onRaise fun (x : Value) => do
        if (← field x 1) == Value.none then unsupported "frame.own-activation:exception-without-traceback"
        setFlight x env.frame).wrap K H gd lv) none (gd false) (lv []) c p [] :: fs) s2) NoE s1) NoE s)
    (hs : ∀ x, foldedSetIterable iter env x = pure x := by intro _; rfl) :
    Seg M A R Y n s₀ c ((exec (.For t iter body orelse pos) env).wrap K H gd lv) fs s := by
  rw [exec_For]
  refine seg_bind_wrap (wpAny_standAt (seg_bind_wrap (wpAny_mono h (fun x s1 h1 => ?_) fun _ _ x => x.elim)))
  refine seg_bind_wrap (wpAny_of_eq (hs x) (seg_bind_wrap (wpAny_standAt (seg_bind_wrap (wpAny_holding (wpAny_mono h1 (fun it s2 h2 => ?_) fun _ _ x => x.elim))))))
  exact seg_call h2
end
section
variable {prog : Program} {w : World} {A : Around} {R : GenEnd} {Y : Protocol} {n : Nat} {s₀ : Shared} {fs : List Frame} {s : Shared} {env : Env}
noncomputable def loopK (t : Expr) (it : Value) (body : List Stmt) (env : Env) : Flow → Sem Fin
  | .next | .cont => .pure (.again (.forLoop t it body [] env))
  | .brk => .pure (.done .next)
  | .ret v => .pure (.done (.ret v))
noncomputable def loopH (env : Env) (e : Value) : Sem Fin := (do noteFrame e env; theTreesLotGoes e : Sem Unit).wrap (fun _ => .raise e) .raise id id
theorem seg_forLoop {t : Expr} {it : Value} {body : List Stmt}
    (h : wpAny (model prog w) (A.over (.forLoop t it body [] env) fs) (pyNext it) (fun r s1 => match r with
      | none => Seg (model prog w) A R Y n s₀ (.block [] env) ((model prog w).den (.block [] env)) fs s1
      | some v => wpAny (model prog w) (A.over (.forLoop t it body [] env) fs) (letOwnedTupleGo t it v) (fun _ s1' => wpAny (model prog w) (A.over (.forLoop t it body [] env) fs) (assign t env v) (fun _ s2 =>
          Seg (model prog w) A R Y n s₀ (.forLoop t it body [] env) ((execs body env).wrap (loopK t it body env) (loopH env) id id) fs s2) NoE s1') NoE s1) NoE s) :
    Seg (model prog w) A R Y n s₀ (.forLoop t it body [] env) ((model prog w).den (.forLoop t it body [] env)) fs s := by
  show Seg _ A R Y n s₀ _ ((forTurn t it body [] env).onRaise (fun x => do noteFrame x env; theTreesLotGoes x)) fs s
  unfold forTurn
  rw [Sem.onRaise_eq_wrap]
  refine seg_bind_wrap (wpAny_standAt (seg_bind_wrap (wpAny_onRaise (wpAny_mono h (fun r s1 h1 => ?_) fun _ _ x => x.elim))))
  cases r with
  | none => exact seg_again rfl h1
  | some v =>
    refine seg_bind_wrap (wpAny_mono h1 (fun _ s1' h1' => ?_) fun _ _ x => x.elim)
    refine seg_bind_wrap (wpAny_mono h1' (fun _ s2 h2 => ?_) fun _ _ x => x.elim)
    rw [Sem.bind_eq_wrap', Sem.wrap_wrap]
    rw [Sem.wrap_congr (execs body env) _ _ (K' := loopK t it body env) (H' := loopH env) (fun f => by cases f <;> rfl) (fun e => by
      first | exact Sem.bind_eq_wrap _ _ | (show (do noteFrame e env; theTreesLotGoes e : Sem Unit).bind (fun _ => .raise e) = _; rw [Sem.bind_eq_wrap]; rfl))]
    exact h2
end
end Mine

namespace Mine
open PySem PySem.Calls PyProof.Rows PySem.W

/-! what a generator may turn -/
noncomputable def Since (hs : Heap) (W : List Addr) (s s' : Shared) : Prop := ∃ fp, Foot hs W s.heap fp ∧ Mv fp s s'
theorem Since.refl {hs : Heap} {W : List Addr} {s : Shared} : Since hs W s s := ⟨[], fun _ m => (nomatch m), .refl _ _⟩
theorem Since.trans {hs : Heap} {W : List Addr} {s s' s'' : Shared} (a : Since hs W s s') (b : Since hs W s' s'') : Since hs W s s'' := by
  obtain ⟨fp, ft, p⟩ := a
  obtain ⟨fp', ft', p'⟩ := b
  refine ⟨fp ++ fp', fun c m => ?_, (p.mono (fun x m => List.mem_append_left _ m) (fun _ m => m)).trans (p'.mono (fun x m => List.mem_append_right _ m) (fun _ m => m))⟩
  by_cases q : c ∈ fp
  · exact ft c q
  · have m' := (List.mem_append.mp m).resolve_left q
    exact ⟨(ft' c m').1, (ft' c m').2.1, fun o e => (ft' c m').2.2 o (p.keep c o q e)⟩
theorem Since.mv {hs : Heap} {W : List Addr} {s s' : Shared} {V : List Addr} (p : Mv V s s') (h : Foot hs W s.heap V) : Since hs W s s' := ⟨V, h, p⟩
theorem Since.mv0 {hs : Heap} {W : List Addr} {s s' : Shared} (p : Mv [] s s') : Since hs W s s' := ⟨[], fun _ m => (nomatch m), p⟩

/-! flat data hang on no heap -/
noncomputable def Flat : D → Prop
  | .none | .bool _ | .int _ | .str _ | .bytes _ | .raw _ => True
  | _ => False
theorem Rep.flat {X X' : List Addr} {h h' : Heap} {d : D} {v : Value} (hd : Flat d) (r : Rep X h d v) : Rep X' h' d v := by
  cases d <;> first | exact r | exact hd.elim
noncomputable def FlatSg (σ : Sg) : Prop := ∀ x d, σ.lookup x = some d → ∃ d', d = .im d' ∧ Flat d'
theorem FlatSg.nil : FlatSg [] := fun _ _ e => by simp at e
theorem FlatSg.cons {σ : Sg} {x : Str} {d : D} (h : FlatSg σ) (hd : Flat d := by trivial) : FlatSg ((x, .im d) :: σ) := fun y d' e => by
  by_cases hy : y = x
  · subst hy; rw [lookup_cons_self] at e; cases e; exact ⟨d, rfl, hd⟩
  · rw [lookup_cons_ne hy] at e; exact h y d' e
theorem St.later {f f' : Fx} {σ : Sg} {s s' : Shared} (S : St f [] σ s) (h0 : f'.h₀ = f.h₀) (he : f'.env = f.env) (hX : f'.X₀ = []) (hc : f.env.cells = []) (fl : FlatSg σ) (kL : ∀ o, s.heap.get? f.env.locals = some o → s'.heap.get? f.env.locals = some o)
    (base : ∀ b o, f.h₀.get? b = some o → s'.heap.get? b = some o) (bare : ∀ g ∈ s'.gens, g.bare = true) : St f' [] σ s' := by
  obtain ⟨m, hn⟩ := S.frm.ns
  refine ⟨⟨by rw [h0]; exact base, fun a ma => by rw [hX] at ma; simp at ma⟩, by rw [h0, he]; exact S.off, ⟨by rw [he]; exact S.frm.fn, ⟨m, by rw [he]; exact hn.at' kL⟩, fun x c e => by rw [he, hc] at e; simp at e, by rw [he]; exact S.frm.inj, by rw [he]; exact S.frm.glo, by rw [he]; exact S.frm.blt⟩, bare, (fun _ m => nomatch m), fun x d e => ?_⟩
  obtain ⟨d', rfl, hd⟩ := fl x d e
  obtain ⟨v, H, r⟩ := S.vars x _ e
  refine ⟨v, ?_, Rep.flat hd r⟩
  rw [he]
  rcases H with ⟨a, m', b, c⟩ | ⟨a, c, b, g⟩
  · exact .inl ⟨a, m', b.at' kL, c⟩
  · rw [hc] at b; simp at b

/-! the StopIteration with which a def's generator ends -/
theorem stop_made {M : Model} {A : Around} {Q : Value → Shared → Prop} {E : Value → Shared → Prop} {s : Shared} (h : ∀ h' e, (∀ b o, s.heap.get? b = some o → h'.get? b = some o) → (∃ o, h'.get? e = some o ∧ o.cls = .type "StopIteration") → Q (.ref e) { s with heap := h' }) :
    wpAny M A (newExc (.type "StopIteration") []) Q E s := by
  unfold newExc newTuple
  exact wpAny_bind (wpAny_newObj_type (wpAny_bind (m := firstArgMember _ _) (wpAny_of_eq (a := Value.none) (by rfl)
    (wpAny_newObj_type (h _ _ (fun b o e => Heap.get?_push_of_some _ (Heap.get?_push_of_some _ e)) ⟨_, Heap.get?_push_size _ rfl, rfl⟩) (by size_fits)))) (by size_fits))
/-! what a waking def comes to -/
noncomputable def EndOf (P : Nat → Shared → Shared → Prop) : GenEnd := fun n s₀ r s₁ => r = .ok (.ret .none) ∧ P n s₀ s₁
noncomputable def Given (w : World) (A : Around) (P : Nat → Shared → Shared → Prop) (Y : Protocol) (g n : Nat) (s : Shared) (v : Value) (gs' : GenState) (s₁ : Shared) : Prop :=
  gs'.bare = true ∧ Y (n - 1) (s.setGen g .running) v s₁ (fun r' s'' => match n with
    | 0 => False
    | m + 1 => gs'.Goes (model pw w) A (EndOf P) Y m r' s'')
theorem wake_gen {w : World} {A : Around} {s : Shared} {a : Addr} {g n : Nat} {gs : GenState} {P : Nat → Shared → Shared → Prop} {Y : Protocol} {F : PySem.Fin → Shared → Prop} {E : Value → Shared → Prop} (hh : A.handled = none)
    (room : s.heap.NoLimit ∧ A.depth < recursionLimit) (hg : s.heap.IsGen a g) (hgs : s.gens[g]? = some gs) (hgo : gs.Goes (model pw w) A (EndOf P) Y n (.send .none) (s.setGen g .running))
    (hv : ∀ v s₁ gs', Given w A P Y g n s v gs' s₁ → F (.done (.ret v)) (s₁.setGen g gs'))
    (hend : ∀ s₁, P n (s.setGen g .running) s₁ → ∀ h' e, (∀ b o, s₁.heap.get? b = some o → h'.get? b = some o) → (∃ o, h'.get? e = some o ∧ o.cls = .type "StopIteration") → E (.ref e) { s₁.setGen g .finished with heap := h' }) :
    wpAny (model pw w) A (Builtin.Generator.genWake (.ref a) (.send .none)) F E s := by
  have run : ∀ {k : GenResult → Sem PySem.Fin}, (∀ v, k (.yielded v) = ret v) → (∃ j : Unit → Sem PySem.Fin, k (.returned .none) = (newExc (.type "StopIteration") [] >>= fun e => (raiseNew e : Sem Unit) >>= j)) → wpAny (model pw w) A (.resume g (.send .none) [] k) F E s := fun {k} k1 ⟨j, k2⟩ =>
    wpAny_resumeQ hgs hgo (fun x s₁ hx => by
      rw [show (End.ret x).result = .returned .none by rw [hx.1]; rfl, k2]
      exact wpAny_bind (stop_made fun h' e kp o => wpAny_bind (wpAny_raiseNew_none hh (hend s₁ hx.2 h' e kp o)))) fun v s₁ gs' hb hy => by
      rw [k1 v]
      exact wpAny_pure (hv v s₁ gs' ⟨hb, hy⟩)
  unfold Builtin.Generator.genWake
  refine wpAny_bind (wpAny_holding (wpAny_genNumber hg (wpAny_bind (wpAny_genState hgs ?_))))
  cases gs with
  | finished | running => exact absurd hgo id
  | fresh => exact wpAny_bind (wpAny_roomToWake room.1 room.2 (run (fun _ => rfl) ⟨_, rfl⟩))
  | suspended => exact wpAny_bind (wpAny_roomToWake room.1 room.2 (run (fun _ => rfl) ⟨_, rfl⟩))
/-! next on a generator of a def -/
theorem pyNext_gen {w : World} {A : Around} {s : Shared} {a : Addr} {g n : Nat} {gs : GenState} {P : Nat → Shared → Shared → Prop} {Y : Protocol} {Q : Option Value → Shared → Prop} (hh : A.handled = none)
    (room : s.heap.NoLimit ∧ A.depth < recursionLimit) (hg : s.heap.IsGen a g) (hgs : s.gens[g]? = some gs) (hgo : gs.Goes (model pw w) A.in1 (EndOf P) Y n (.send .none) (s.setGen g .running))
    (hv : ∀ v s₁ gs', Given w A.in1 P Y g n s v gs' s₁ → Q (some v) (s₁.setGen g gs'))
    (hend : ∀ s₁, P n (s.setGen g .running) s₁ → ∀ h', (∀ b o, s₁.heap.get? b = some o → h'.get? b = some o) → Q none { s₁.setGen g .finished with heap := h' }) :
    wpAny (model pw w) A (pyNext (.ref a)) Q NoE s := by
  have wake := wake_gen (F := fun fin s' => ∃ v, fin = .done (.ret v) ∧ Q (some v) s') (E := fun e s' => (∃ i o, e = .ref i ∧ s'.heap.get? i = some o ∧ o.cls = .type "StopIteration") ∧ Q none s') (A := A.in1) hh room hg hgs hgo
    (fun v s₁ gs' y => ⟨v, rfl, hv v s₁ gs' y⟩) fun s₁ hp h' e k ⟨o, h1, h2⟩ => ⟨⟨e, o, rfl, h1, h2⟩, hend s₁ hp h' k⟩
  refine wpAny_bind (wpAny_attempt (wpAny_callSpecial?_slot hg.typeIs slot_gen_next (wpAny_call_entry slot_gen_next hg.typeIs entry_gen_next ?_ (args_gen_next _))))
  refine wpAny_mono wake (fun fin s' ⟨v, e, q⟩ => ⟨v, e, wpAny_pure q⟩) ?_
  rintro _ s' ⟨⟨i, o, rfl, h1, h2⟩, q⟩
  exact wpAny_bind (wpAny_isInstance ⟨o, h1, h2⟩ isSubtype_stop (wpAny_pure q))
end Mine

namespace Mine
open PySem PySem.Calls PyProof.Rows PySem.W

/-! _iter_escaped_chars: what it gives -/
noncomputable def escGo : List Nat → Nat → Bool → List (Nat × List Nat)
  | [], j, esc => if esc then [(j - 1, [92])] else []
  | c :: r, j, true => (j, [92, c]) :: escGo r (j + 1) false
  | c :: r, j, false => if c = 92 then escGo r (j + 1) true else (j, [c]) :: escGo r (j + 1) false
noncomputable def dG (p : Nat × List Nat) : D := .tup [.int p.1, .str (tx p.2)]

/-! its parts -/
noncomputable def gBody : List Stmt := (fn 0).body
noncomputable def forT : Stmt → Expr
  | .For t _ _ _ _ => t
  | _ => .Constant .none 0 default
noncomputable def forB : Stmt → List Stmt
  | .For _ _ b _ _ => b
  | _ => []
noncomputable def gT : Expr := forT (gBody.getD 2 (.Pass default))
noncomputable def gL : List Stmt := forB (gBody.getD 2 (.Pass default))
noncomputable def gEnv (L a : Addr) (cd : Value) : Env := newEnv (fn 0).scope L mainGlobals [] ((fn 0).name ++ ".<locals>.") (some a) cd none builtinsNs
noncomputable abbrev gCode (L a : Addr) (cd : Value) (e : Addr) : Code := .forLoop gT (.ref e) gL [] (gEnv L a cd)
noncomputable abbrev gFx (f : Fx) (L a : Addr) (cd : Value) (A : Around) (hh : A.handled = none) (dep : A.depth < recursionLimit) (uni : A.units < cLine) : Fx :=
  { f with A := A, env := gEnv L a cd, X₀ := [], n := 0, hh := hh, dep := dep, uni := uni }

theorem test1 {f : Fx} {L a : Addr} {cd : Value} {c : Code} {k g l p} (hn : 8 ≤ f.n) (e : Addr) : (f.A.in1.over (gCode L a cd e) [.ret k none g l (.func gBody (gEnv L a cd)) p []]).handled = none := by
  show f.A.handled = none
  exact f.hh
theorem test2 {f : Fx} {L a : Addr} {cd : Value} {c : Code} {k g l p} (hn : 8 ≤ f.n) (e : Addr) : (f.A.in1.over (gCode L a cd e) [.ret k none g l (.func gBody (gEnv L a cd)) p []]).depth < recursionLimit := by
  have := f.dep
  show f.A.depth + 1 + 0 < _
  omega
theorem test3 {f : Fx} {L a : Addr} {cd : Value} {c : Code} {k g l p} (hn : 8 ≤ f.n) (e : Addr) : (f.A.in1.over (gCode L a cd e) [.ret k none g l (.func gBody (gEnv L a cd)) p []]).units < cLine := by
  have := f.uni
  show f.A.units + 1 + 3 + 0 < _
  omega
theorem test4 {f : Fx} {L a : Addr} {cd : Value} (hn : 8 ≤ f.n) : (f.A.in1.over (.func gBody (gEnv L a cd)) []).handled = none ∧ (f.A.in1.over (.func gBody (gEnv L a cd)) []).depth < recursionLimit ∧ (f.A.in1.over (.func gBody (gEnv L a cd)) []).units < cLine := by
  have := f.uni
  have := f.dep
  refine ⟨f.hh, ?_, ?_⟩
  · show f.A.depth + 1 < _
    omega
  · show f.A.units + 1 + 3 < _
    omega
end Mine

namespace Mine
open PySem PySem.Calls PyProof.Rows PySem.W

noncomputable def Later (h₀ : Heap) (W : List Addr) (s s' : Shared) : Prop :=
  (∀ a o, a ∉ W → s.heap.get? a = some o → s'.heap.get? a = some o) ∧ (∀ b o, h₀.get? b = some o → s'.heap.get? b = some o) ∧ ∀ y ∈ s'.gens, y.bare = true
noncomputable def gY (h₀ hs : Heap) (W : List Addr) (items : List (Nat × List Nat)) : Protocol := fun m s₀ v s kap =>
  (∃ p, items[items.length - 1 - m]? = some p ∧ ∀ X, Rep X s.heap (dG p) v) ∧ Since hs W s₀ s ∧ ∀ s'', Later h₀ W s s'' → kap (.send .none) s''
noncomputable def gR (hs : Heap) (W : List Addr) : GenEnd := fun n s₀ r s₁ => r = .ok (.ret .none) ∧ (n = 0 ∧ Since hs W s₀ s₁)
theorem Rep.dG_any {X X' : List Addr} {h : Heap} {p : Nat × List Nat} {v : Value} (r : Rep X h (dG p) v) : Rep X' h (dG p) v := by
  obtain ⟨a, vs, e, t, _, _, e1, r1, _, _, e2, r2, e3⟩ := r
  exact ⟨a, vs, e, t, _, _, e1, r1, _, _, e2, r2, e3⟩

section
variable {f : Fx} {L a : Addr} {cd : Value} {hs : Heap} {W : List Addr} {l : List Nat} {t : Tok} {e it : Addr} {items : List (Nat × List Nat)}
noncomputable def gSg (l : List Nat) (j : Nat) (esc : Bool) : Sg := [("escape", .im (.bool esc)), ("pos", .im (.int ((j - 1 : Nat) : Int))), ("addr", .im (.str (tx l)))]
theorem gSg_flat {j : Nat} {esc : Bool} : FlatSg (gSg l j esc) := .cons (.cons (.cons .nil))
structure Own (hs h₀ : Heap) (W : List Addr) (L e it : Addr) : Prop where
  L1 : hs.get? L = none
  L2 : L ∉ W
  e1 : hs.get? e = none
  e2 : e ∉ W
  i1 : hs.get? it = none
  i2 : it ∉ W
  eL : e ≠ L
  iL : it ≠ L
  ei : e ≠ it
  hb : ∀ b o, h₀.get? b = some o → hs.get? b = some o
theorem Own.no {hs h₀ : Heap} {W : List Addr} {L e it : Addr} (O : Own hs h₀ W L e it) {b : Addr} (h : hs.get? b = none) : h₀.get? b = none := by
  cases q : h₀.get? b with
  | none => rfl
  | some o => have := O.hb b o q; rw [h] at this; cases this
structure LoopInv (g : Fx) (l : List Nat) (t : Tok) (e it : Addr) (j : Nat) (esc : Bool) (s : Shared) : Prop where
  st : St g [] (gSg l j esc) s
  en : ∃ old, IsEnum s.heap e it j old
  si : s.heap.IsStrIter it "str_ascii_iterator" (tx l) t j
theorem enum_nonseq {h : Heap} {e it : Addr} {i : Int} {old : Value} (x : IsEnum h e it i old) : ∃ o, h.get? e = some o ∧ ¬ isSeqObj o := ⟨_, x, nonseq_fields rfl⟩
theorem siter_nonseq {h : Heap} {it : Addr} {ty : String} {x : Str} {t : Tok} {i : Nat} (y : h.IsStrIter it ty x t i) : ∃ o, h.get? it = some o ∧ ¬ isSeqObj o := by
  obtain ⟨o, ho, _, hd⟩ := y; exact ⟨o, ho, nonseq_fields hd⟩
theorem foot_ei (O : Own hs f.h₀ W L e it) {h : Heap} (h1 : ∃ o, h.get? e = some o ∧ ¬ isSeqObj o) (h2 : ∃ o, h.get? it = some o ∧ ¬ isSeqObj o) : Foot hs W h [e, it] := fun b m => by
  rcases List.mem_cons.mp m with rfl | m
  · exact foot1 O.e1 O.e2 h1 b (by simp)
  · rw [List.mem_singleton.mp m]; exact foot1 O.i1 O.i2 h2 it (by simp)
theorem foot_L {g : Fx} {σ : Sg} {s : Shared} (O : Own hs f.h₀ W L e it) (S : St g [] σ s) (he : g.env = gEnv L a cd) : Foot hs W s.heap (own g.env []) := fun b m => by
  have hb : b = L := by
    rw [he] at m
    rcases List.mem_cons.mp m with q | m
    · exact q
    · simp [gEnv, newEnv] at m
  subst hb
  obtain ⟨_, hn⟩ := S.frm.ns
  rw [he] at hn
  exact ⟨O.L1, O.L2, fun o q => ns_nonseq hn q⟩
/-! a state goes on by what the block itself does -/

theorem sIf {g : Fx} {A : Around} {R : GenEnd} {Y : Protocol} {n : Nat} {s₀ : Shared} {c : Code} {fs : List Frame} {s : Shared} {K : Flow → Sem PySem.Fin} {H : Value → Sem PySem.Fin} {gd : Bool → Bool} {lv : List Value → List Value} {σ : Sg} {t : Expr} {body orelse : List Stmt} {pos : Pos} {b : Bool} (hA : A.over c fs = g.A) (S : St g [] σ s) (ht : Tt g [] σ t b)
    (h1 : b = true → ∀ s', Mv [] s s' → St g [] σ s' → Seg g.M A R Y n s₀ c ((execs body g.env).wrap K H gd lv) fs s') (h2 : b = false → ∀ s', Mv [] s s' → St g [] σ s' → Seg g.M A R Y n s₀ c ((execs orelse g.env).wrap K H gd lv) fs s') :
    Seg g.M A R Y n s₀ c ((exec (.If t body orelse pos) g.env).wrap K H gd lv) fs s := by
  refine seg_If ?_
  rw [hA]
  refine wNoE (ht s S) fun b' s' h => ?_
  obtain ⟨p, rfl⟩ := h
  cases b' with
  | true => exact h1 rfl s' p (S.step p)
  | false => exact h2 rfl s' p (S.step p)
theorem sYield {g : Fx} {A : Around} {R : GenEnd} {Y : Protocol} {n : Nat} {s₀ : Shared} {c : Code} {fs : List Frame} {s : Shared} {K : Flow → Sem PySem.Fin} {H : Value → Sem PySem.Fin} {gd : Bool → Bool} {lv : List Value → List Value} {σ : Sg} {e : Expr} {ypos pos : Pos} {d : D} (hA : A.over c fs = g.A) (S : St g [] σ s) (he : Ev g [] σ e d)
    (h : ∀ v s', Mv [] s s' → Rep ([] ++ g.X₀) s'.heap d v → St g [] σ s' → ∀ kap : Resume → Shared → Prop, (∀ s'', Seg g.M A R Y n s'' c (K .next) fs s'' → kap (.send .none) s'') → Y n s₀ v s' kap)
    (hfs : splitAtGen fs = none := by rfl) (hgd : gd false = false := by rfl) (hfg : fs.any Frame.guarded = false := by rfl) (hco : g.env.scope.isCoroutine = false := by rfl) (hi : interactive g.env = false := by rfl) :
    Seg g.M A R Y (n + 1) s₀ c ((exec (.Expr (.Yield (some e) ypos) pos) g.env).wrap K H gd lv) fs s := by
  refine seg_Expr_Yield hfs hgd hfg ?_ hco hi
  rw [hA]
  exact wpAny_mono (he s S) (fun v s' hv kap hk => h v s' hv.1 hv.2 (S.step hv.1) kap fun s'' hs => hk .none s'' hs) fun _ _ x => x.elim
theorem sOne {g : Fx} {A : Around} {R : GenEnd} {Y : Protocol} {n : Nat} {s₀ : Shared} {c : Code} {fs : List Frame} {s : Shared} {K : Flow → Sem PySem.Fin} {H : Value → Sem PySem.Fin} {gd : Bool → Bool} {lv : List Value → List Value} {σ : Sg} {st : Stmt} (τ : Sg) (hA : A.over c fs = g.A) (S : St g [] σ s)
    (h : Ex1 g [] σ st fun r Y' σ' => r = .next ∧ Y' = [] ∧ Has σ' τ) (k : ∀ s', Mv (own g.env []) s s' → St g [] τ s' → Seg g.M A R Y n s₀ c (K .next) fs s') : Seg g.M A R Y n s₀ c ((exec st g.env).wrap K H gd lv) fs s := by
  refine seg_one ?_
  rw [hA]
  refine wNoE (h s S) fun fl s' hR => ?_
  obtain ⟨r, Y', σ', hr, S', p, _, rfl, rfl, H⟩ := hR
  cases hr
  exact k s' p (S'.forget H)

theorem idx_at {α : Type} (pre rest : List α) (x : α) : (pre ++ x :: rest)[(pre ++ x :: rest).length - 1 - rest.length]? = some x := by
  have : (pre ++ x :: rest).length - 1 - rest.length = pre.length := by simp
  rw [this]; simp
theorem St.after {g : Fx} {σ : Sg} {s s' : Shared} (S : St g [] σ s) (O : Own hs f.h₀ W L e it) (he : g.env = gEnv L a cd) (hX : g.X₀ = []) (fl : FlatSg σ) (hl : Later g.h₀ W s s') : St g [] σ s' :=
  S.later rfl rfl hX (by rw [he]; rfl) fl (fun o q => hl.1 _ o (by rw [he]; exact O.L2) q) hl.2.1 hl.2.2

noncomputable abbrev g0 (f : Fx) (hn : 8 ≤ f.n) (L a : Addr) (cd : Value) : Fx := gFx f L a cd (f.A.in1.over (.func gBody (gEnv L a cd)) []) (test4 hn).1 (test4 hn).2.1 (test4 hn).2.2
noncomputable abbrev lA (f : Fx) (L a : Addr) (cd : Value) (e : Addr) (kk : Result → Sem PySem.Fin) (p : Pos) : Around := f.A.in1.over (gCode L a cd e) [.ret kk none false [] (.func gBody (gEnv L a cd)) p []]
noncomputable abbrev g1 (f : Fx) (hn : 8 ≤ f.n) (L a : Addr) (cd : Value) (e : Addr) (kk : Result → Sem PySem.Fin) (p : Pos) : Fx :=
  gFx f L a cd (lA f L a cd e kk p) (test1 (c := default) hn e) (test2 (c := default) hn e) (test3 (c := default) hn e)
theorem seg_loop (hn : 8 ≤ f.n) (O : Own hs f.h₀ W L e it) {kk : Result → Sem PySem.Fin} {p : Pos}
    (hfin : ∀ (pre : List (Nat × List Nat)) j esc s₀ s, items = pre ++ escGo [] j esc → St (g0 f hn L a cd) [] (gSg l j esc) s → Since hs W s₀ s →
      Seg (model pw f.w) f.A.in1 (gR hs W) (gY f.h₀ hs W items) (escGo [] j esc).length s₀ (.func gBody (gEnv L a cd)) (kk (.ok .next)) [] s) :
    ∀ (r : List Nat) (j : Nat) (esc : Bool) (pre : List (Nat × List Nat)) (s₀ s : Shared), l.drop j = r → j ≤ l.length → items = pre ++ escGo r j esc →
      LoopInv (g1 f hn L a cd e kk p) l t e it j esc s → Since hs W s₀ s →
      Seg (model pw f.w) f.A.in1 (gR hs W) (gY f.h₀ hs W items) (escGo r j esc).length s₀ (gCode L a cd e) ((model pw f.w).den (gCode L a cd e)) [.ret kk none false [] (.func gBody (gEnv L a cd)) p []] s := by
  intro r
  induction r with
  | nil =>
    intro j esc pre s₀ s hd hj hit I hsn
    have hjl : j = l.length := by
      have := congrArg List.length hd
      simp at this; omega
    obtain ⟨old, he⟩ := I.en
    refine seg_forLoop (wpAny_pyNext_enum_endD (Draws.strAscii (A := (lA f L a cd e kk p).in1) f.hh it (tx l) t) he (by
      have : (tx l).cps.size = j := by rw [hjl]; exact tx_len l
      rw [this]; exact I.si) fun h' hx => ?_)
    have p1 : Mv [it] s { s with heap := h' } := .heap' (keep_ext hx)
    refine seg_leaf (.ok .next) (hfin pre j esc s₀ _ hit ?_ (hsn.trans (.mv p1 (foot1 O.i1 O.i2 (siter_nonseq I.si)))))
    exact I.st.later rfl rfl rfl rfl gSg_flat (fun o q => hx _ o (fun q => O.iL q.symm) q) (fun b o q => hx b o (fun qq => by rw [qq, O.no O.i1] at q; cases q) (I.st.base b o q)) I.st.bare
  | cons c r ih =>
    intro j esc pre s₀ s hd hj hit I hsn
    have hlt : j < l.length := by
      have := congrArg List.length hd
      simp at this; omega
    have hcj : l[j]? = some c := by
      have : (l.drop j)[0]? = some c := by rw [hd]; rfl
      simpa using this
    have hd' : l.drop (j + 1) = r := by rw [← List.drop_drop, hd]; rfl
    obtain ⟨old, he⟩ := I.en
    refine seg_forLoop (wpAny_pyNext_enum_itemD (Draws.strAscii (A := (lA f L a cd e kk p).in1) f.hh it (tx l) t) he I.si (by show j < (tx l).length; rw [tx_len]; exact hlt) O.ei (by simp [O.ei]) fun x h' tk hP ho hst' hT hz hk => ?_)
    obtain ⟨c', u, hc', rfl⟩ := hP
    have hcc : c' = c := by
      have : (tx l).cps[j]? = some c := by simp [tx, hcj]
      rw [this] at hc'; exact (Option.some.inj hc').symm
    subst hcc
    have p1 : Mv [e, it] s { s with heap := h', toks := tk + 1 } := .heap fun b o m q => hk b o (fun qq => m (by simp [qq])) (fun qq => m (by simp [qq])) q
    have n1 : Since hs W s { s with heap := h', toks := tk + 1 } := .mv p1 (foot_ei O (enum_nonseq he) (siter_nonseq I.si))
    have nT : s.heap.get? s.heap.objs.size = none := fresh_none _
    have Te : s.heap.objs.size ≠ e := fun q => by rw [q, he] at nT; cases nT
    have TL : s.heap.objs.size ≠ L := fun q => by obtain ⟨_, o, _, _, ho, _⟩ := I.st.frm.ns; rw [q, show s.heap.get? L = some o from ho] at nT; cases nT
    refine wpAny_letOwnedTupleGo_enum ho fun h2 he2 hs2 => ?_
    have p2 : Mv [e] { s with heap := h', toks := tk + 1 } { s with heap := h2, toks := tk + 1 } := .heap (keep_ext hs2.extBut)
    have n2 : Since hs W s { s with heap := h2, toks := tk + 1 } := n1.trans (.mv p2 (foot1 O.e1 O.e2 ⟨_, ho, nonseq_fields rfl⟩))
    have S2 : St (g1 f hn L a cd e kk p) [] (gSg l j esc) { s with heap := h2, toks := tk + 1 } := I.st.later rfl rfl rfl rfl gSg_flat (fun o q => hs2.extBut L o O.eL.symm (hk L o O.eL.symm O.iL.symm q)) (fun b o q => by
      have hbe : b ≠ e := fun qq => by rw [qq, O.no O.e1] at q; cases q
      have hbi : b ≠ it := fun qq => by rw [qq, O.no O.i1] at q; cases q
      exact hs2.extBut b o hbe (hk b o hbe hbi (I.st.base b o q))) I.st.bare
    have hT2 : Rep ([] ++ (g1 f hn L a cd e kk p).X₀) h2 (.tup [.int (j : Nat), .str (tx [c'])]) (.ref s.heap.objs.size) :=
      ⟨_, [.int j tk, .str ⟨#[c']⟩ u], rfl, ⟨_, hs2.extBut _ _ Te hT, rfl, 0, rfl⟩, _, _, rfl, ⟨_, rfl⟩, _, _, rfl, ⟨_, rfl⟩, rfl⟩
    refine assign_tgt (f := g1 f hn L a cd e kk p) S2 hT2 (σ' := ("ch", .im (.str (tx [c']))) :: ("pos", .im (.int (j : Nat))) :: gSg l j esc) rfl tgtOk_all fun s3 S3 p3 => ?_
    have n3 : Since hs W s s3 := n2.trans (.mv p3 (foot_L O S2 rfl))
    have e3 : IsEnum s3.heap e it ((j + 1 : Nat) : Int) (.str ⟨#[c']⟩ u) := p3.keep e _ (fun m => by
      rcases List.mem_cons.mp m with q | m
      · exact O.eL q
      · simp [gEnv, newEnv] at m) (by
      have : ((j + 1 : Nat) : Int) = (j : Int) + 1 := by push_cast; rfl
      rw [this]; exact he2)
    have i3 : s3.heap.IsStrIter it "str_ascii_iterator" (tx l) t (j + 1) := by
      obtain ⟨o, ho', r⟩ := hst'
      exact ⟨o, p3.keep it o (fun m => by
        rcases List.mem_cons.mp m with q | m
        · exact O.iL q
        · simp [gEnv, newEnv] at m) (hs2.extBut it o O.ei.symm ho'), r⟩
    have hsn3 := hsn.trans n3
    have keyL : ∀ {s4 s5 : Shared}, Mv (own (g1 f hn L a cd e kk p).env []) s4 s5 → (∀ o, s4.heap.get? e = some o → s5.heap.get? e = some o) ∧ (∀ o, s4.heap.get? it = some o → s5.heap.get? it = some o) := fun pp =>
      ⟨fun o q => pp.keep e o (fun m => by
        rcases List.mem_cons.mp m with q | m
        · exact O.eL q
        · simp [gEnv, newEnv] at m) q, fun o q => pp.keep it o (fun m => by
        rcases List.mem_cons.mp m with q | m
        · exact O.iL q
        · simp [gEnv, newEnv] at m) q⟩
    have again : ∀ (esc' : Bool) (pre' : List (Nat × List Nat)) (s₀' s4 s5 : Shared), items = pre' ++ escGo r (j + 1) esc' → (∀ o, s3.heap.get? e = some o → s5.heap.get? e = some o) → (∀ o, s3.heap.get? it = some o → s5.heap.get? it = some o) → St (g1 f hn L a cd e kk p) [] (gSg l (j + 1) esc') s5 → Since hs W s₀' s5 →
        Seg (model pw f.w) f.A.in1 (gR hs W) (gY f.h₀ hs W items) (escGo r (j + 1) esc').length s₀' (gCode L a cd e) (loopK gT (.ref e) gL (gEnv L a cd) .next) [.ret kk none false [] (.func gBody (gEnv L a cd)) p []] s5 := fun esc' pre' s₀' s4 s5 hit' k1 k2 S5 n5 =>
      seg_again rfl (ih (j + 1) esc' pre' s₀' s5 hd' hlt hit' ⟨S5, ⟨_, k1 _ e3⟩, (let ⟨o, ho', r⟩ := i3; ⟨o, k2 o ho', r⟩)⟩ n5)
    refine seg_execs_cons (sIf (g := g1 f hn L a cd e kk p) (b := esc) rfl S3 (Tt.plain (Ev.name rfl) Truth.bool) (fun hb s4 p4 S4 => ?_) fun hb s4 p4 S4 => ?_)
    · subst hb
      have hn4 : Since hs W s₀ s4 := hsn3.trans (.mv0 p4)
      show Seg _ _ _ _ ((escGo r (j + 1) false).length + 1) _ _ _ _ _
      refine seg_execs_cons (sYield (g := g1 f hn L a cd e kk p) rfl S4 (Ev.tuple (Evs.cons (Ev.name rfl) (Evs.cons (Ev.bin Ev.cStr (Ev.name rfl) (Bin.addS (by exact Nat.le_of_ble_eq_true rfl))) .nil))) fun v s5 p5 hv S5 kap hk => ⟨⟨(j, [92, c']), ?_, fun X => Rep.dG_any (X := []) hv⟩, hn4.trans (.mv0 p5), fun s6 hL => hk s6 ?_⟩)
      · rw [hit]; exact idx_at _ _ _
      · have S6 := S5.after (f := f) O rfl rfl (.cons (.cons gSg_flat)) hL
        refine seg_execs_cons (sOne (g := g1 f hn L a cd e kk p) (gSg l (j + 1) false) rfl S6 (Ex1.assign Ev.cBool ⟨rfl, rfl, .cons (.cons (.cons .nil))⟩) fun s7 p7 S7 => ?_)
        have k7 := keyL p7
        exact again false (pre ++ [(j, [92, c'])]) s6 s6 s7 (by rw [hit]; simp [escGo]) (fun o q => k7.1 o (hL.1 _ _ O.e2 ((p4.trans p5).keep.all _ _ q))) (fun o q => k7.2 o (hL.1 _ _ O.i2 ((p4.trans p5).keep.all _ _ q))) S7 (.mv p7 (foot_L O S6 rfl))
    · subst hb
      refine seg_execs_cons (sIf (g := g1 f hn L a cd e kk p) (b := decide (c' = 92)) rfl S4 ((Tt.cmp (Ev.name rfl) Ev.cStr Bin.eqS).eq (by show (tx [c'] == tx [92]) = _; rw [tx_eq]; simp)) (fun hb s5 p5 S5 => ?_) fun hb s5 p5 S5 => ?_)
      · have hc92 : c' = 92 := by simpa using hb
        subst hc92
        refine seg_execs_cons (sOne (g := g1 f hn L a cd e kk p) (gSg l (j + 1) true) rfl S5 (Ex1.assign Ev.cBool ⟨rfl, rfl, .cons (.cons (.cons .nil))⟩) fun s7 p7 S7 => ?_)
        have k7 := keyL p7
        exact again true pre s₀ s5 s7 hit (fun o q => k7.1 o ((p4.trans p5).keep.all _ _ q)) (fun o q => k7.2 o ((p4.trans p5).keep.all _ _ q)) S7 ((hsn3.trans (.mv0 (p4.trans p5))).trans (.mv p7 (foot_L O S5 rfl)))
      · have hc92 : c' ≠ 92 := by simpa using hb
        have hgo : escGo (c' :: r) j false = (j, [c']) :: escGo r (j + 1) false := by simp [escGo, hc92]
        rw [hgo] at hit ⊢
        show Seg _ _ _ _ ((escGo r (j + 1) false).length + 1) _ _ _ _ _
        refine seg_execs_cons (sYield (g := g1 f hn L a cd e kk p) rfl S5 (Ev.tuple (Evs.cons (Ev.name rfl) (Evs.cons (Ev.name rfl) .nil))) fun v s6 p6 hv S6 kap hk => ⟨⟨(j, [c']), by rw [hit]; exact idx_at _ _ _, fun X => Rep.dG_any (X := []) hv⟩, (hsn3.trans (.mv0 (p4.trans p5))).trans (.mv0 p6), fun s7 hL => hk s7 ?_⟩)
        have S7 := S6.after (f := f) O rfl rfl (.cons (.cons gSg_flat)) hL
        exact again false (pre ++ [(j, [c'])]) s7 s7 s7 (by rw [hit]; simp) (fun o q => hL.1 _ _ O.e2 (((p4.trans p5).trans p6).keep.all _ _ q)) (fun o q => hL.1 _ _ O.i2 (((p4.trans p5).trans p6).keep.all _ _ q)) (S7.forget (show Has _ (gSg l (j + 1) false) from .cons (.cons (.cons .nil)))) .refl
end
end Mine

namespace Mine
open PySem PySem.Calls PyProof.Rows PySem.W

section
variable {f : Fx} {L a : Addr} {cd : Value} {hs : Heap} {W : List Addr} {l : List Nat}

theorem evEnum {g : Fx} {σ : Sg} {x : Str} {np pos : Pos} {e : Expr} (hasc : l.all (· < 128) = true) (h : Ev g [] σ e (.str (tx l))) (hx : x = ("enumerate" : Str)) {s : Shared} (S : St g [] σ s) (hk : g.env.kindOf x = some .globalImplicit := by rfl) (he : starEach [e] g.env = [(false, eval e g.env)] := by rfl) :
    wpAny g.M g.A (eval (.Call (.Name x np) [e] [] pos) g.env) (fun v s' => ∃ en it t, v = .ref en ∧ IsEnum s'.heap en it 0 .none ∧ s'.heap.IsStrIter it "str_ascii_iterator" (tx l) t 0 ∧ Mv [] s s' ∧ s.heap.get? en = none ∧ s.heap.get? it = none ∧ en ≠ it) NoE s := by
  subst hx
  refine Call_ (blt_name S (by decide) (v := .type "enumerate") (by decide +kernel) hk (PyProof.Rows.callWith_type1 (args_cons (wNoE (h s S) fun v s1 h1 => args_nil ?_) he) he) (by decide))
  obtain ⟨p, t, rfl⟩ := h1
  refine call_enumerate_str fun h' hen hit hsz hk => ⟨_, _, t, rfl, hen, ?_, p.trans (.heap' (.of_all hk)), ?_, new_none p, Nat.succ_ne_self _⟩
  · have : strIterType (tx l) = "str_ascii_iterator" := by
      unfold strIterType
      rw [if_pos (by simpa [tx] using hasc)]
    rw [this] at hit; exact hit
  · cases q : s.heap.get? (s1.heap.objs.size + 1) with
    | none => rfl
    | some o => exact absurd (Heap.lt_size (p.keep.all _ _ q)) (Nat.not_lt.mpr (Nat.le_succ _))
/-! the whole body, from its start -/
theorem escGo_len : ∀ (r : List Nat) (j : Nat) (b : Bool), (escGo r j b).length ≤ r.length + 1
  | [], j, b => by cases b <;> simp [escGo]
  | c :: r, j, true => by simp only [escGo, List.length_cons]; have := escGo_len r (j + 1) false; omega
  | c :: r, j, false => by
    simp only [escGo, List.length_cons]
    split
    · have := escGo_len r (j + 1) true; omega
    · simp only [List.length_cons]; have := escGo_len r (j + 1) false; omega
theorem seg_start (hn : 8 ≤ f.n) (hasc : l.all (· < 128) = true) (hz : l.length ≤ 100000) (hL1 : hs.get? L = none) (hL2 : L ∉ W) (hb : ∀ b o, f.h₀.get? b = some o → hs.get? b = some o) {s : Shared} (S : St (g0 f hn L a cd) [] [("addr", .im (.str (tx l)))] s)
    (hWx : ∀ x ∈ W, ∃ o, s.heap.get? x = some o) (hk : ∀ b o, hs.get? b = some o → ∃ o', s.heap.get? b = some o') :
    Seg (model pw f.w) f.A.in1 (gR hs W) (gY f.h₀ hs W (escGo l 0 false)) (escGo l 0 false).length s (.func gBody (gEnv L a cd)) ((model pw f.w).den (.func gBody (gEnv L a cd))) [] s := by
  have O0 : ∀ {σ : Sg} {s' : Shared}, St (g0 f hn L a cd) [] σ s' → Foot hs W s'.heap (own (g0 f hn L a cd).env []) := fun S' b m => by
    have hb : b = L := by
      rcases List.mem_cons.mp m with q | m
      · exact q
      · simp [gEnv, newEnv] at m
    subst hb
    obtain ⟨_, hn⟩ := S'.frm.ns
    exact ⟨hL1, hL2, fun o q => ns_nonseq hn q⟩
  refine seg_func ?_
  refine seg_execs_cons (sOne (g := g0 f hn L a cd) [("pos", .im (.int ((0 : Nat) : Int))), ("addr", .im (.str (tx l)))] rfl S (Ex1.assign Ev.cInt ⟨rfl, rfl, .cons (.cons .nil)⟩) fun s1 p1 S1 => ?_)
  refine seg_execs_cons (sOne (g := g0 f hn L a cd) (gSg l 0 false) rfl S1 (Ex1.assign Ev.cBool ⟨rfl, rfl, .cons (.cons (.cons .nil))⟩) fun s2 p2 S2 => ?_)
  have n2 : Since hs W s s2 := Since.trans (.mv p1 (O0 S)) (.mv p2 (O0 S1))
  refine seg_execs_cons (seg_For (t := gT) (body := gL) ?_)
  show wpAny f.M (g0 f hn L a cd).A _ _ NoE s2
  refine wNoE (evEnum (g := g0 f hn L a cd) hasc (Ev.name rfl) rfl S2) fun v s3 h3 => ?_
  obtain ⟨en, it, t, rfl, hen, hit, p3, ne1, ne2, ne3⟩ := h3
  refine wpAny_pyIter_enum hen fun p => ?_
  have old : ∀ b o, hs.get? b = some o → ∃ o', s2.heap.get? b = some o' := fun b o q => by
    obtain ⟨o', q'⟩ := hk b o q
    by_cases hbL : b = L
    · obtain ⟨_, ol, _, _, hol, _⟩ := S2.frm.ns; exact ⟨ol, by rw [hbL]; exact hol⟩
    · have m1 : b ∉ own (g0 f hn L a cd).env [] := fun m => by
        rcases List.mem_cons.mp m with q | m
        · exact hbL q
        · simp [gEnv, newEnv] at m
      exact ⟨o', p2.keep _ _ m1 (p1.keep _ _ m1 q')⟩
  have nhs : ∀ {b : Addr}, s2.heap.get? b = none → hs.get? b = none := fun n => by
    cases q : hs.get? _ with
    | none => rfl
    | some o => obtain ⟨o', q'⟩ := old _ _ q; rw [n] at q'; cases q'
  have nW : ∀ {b : Addr}, s2.heap.get? b = none → b ∉ W := fun {b} n m => by
    obtain ⟨o', q'⟩ := hWx _ m
    by_cases hbL : b = L
    · exact hL2 (hbL ▸ m)
    · have m1 : b ∉ own (g0 f hn L a cd).env [] := fun m => by
        rcases List.mem_cons.mp m with q | m
        · exact hbL q
        · simp [gEnv, newEnv] at m
      have := p2.keep _ _ m1 (p1.keep _ _ m1 q')
      rw [n] at this; cases this
  have nL : ∀ {b : Addr}, s2.heap.get? b = none → b ≠ L := fun n e => by
    obtain ⟨_, ol, _, _, hol, _⟩ := S2.frm.ns
    rw [e, show s2.heap.get? L = some ol from hol] at n; cases n
  have O : Own hs f.h₀ W L en it := ⟨hL1, hL2, nhs ne1, nW ne1, nhs ne2, nW ne2, nL ne1, nL ne2, ne3, hb⟩
  refine seg_loop (t := t) hn O ?_ l 0 false [] s s3 rfl (Nat.zero_le _) rfl ⟨(S2.step p3).later rfl rfl rfl rfl gSg_flat (fun _ q => q) (S2.step p3).base (S2.step p3).bare, ⟨_, hen⟩, hit⟩ (n2.trans (.mv0 p3))
  intro pre j esc s₀ s5 hit5 S5 n5
  refine seg_execs_cons (sIf (g := g0 f hn L a cd) (b := esc) rfl S5 (Tt.plain (Ev.name rfl) Truth.bool) (fun hb s6 p6 S6 => ?_) fun hb s6 p6 S6 => ?_)
  · subst hb
    show Seg _ _ _ _ (0 + 1) _ _ _ _ _
    refine seg_execs_cons (sYield (g := g0 f hn L a cd) rfl S6 (Ev.tuple (Evs.cons (Ev.name rfl) (Evs.cons Ev.cStr .nil))) fun v s7 p7 hv S7 kap hk => ⟨⟨(j - 1, [92]), by rw [hit5]; exact idx_at pre [] _, fun X => Rep.dG_any (X := []) hv⟩, (n5.trans (.mv0 p6)).trans (.mv0 p7), fun s8 hL => hk s8 ?_⟩)
    exact seg_end (.ok (.ret .none)) ⟨rfl, rfl, .refl⟩
  · subst hb
    exact seg_end (.ok (.ret .none)) ⟨rfl, rfl, n5.trans (.mv0 p6)⟩
end
end Mine

namespace Mine
open PySem PySem.Calls PyProof.Rows PySem.W

theorem setGen_ne {s : Shared} {g k : Nat} {x : GenState} (h : k ≠ g) : (s.setGen g x).gens[k]? = s.gens[k]? := (GenOnly.setGen s g x).2 k h
theorem setGen_bare {s : Shared} {g : Nat} {x : GenState} (hx : x.bare = true) (h : ∀ y ∈ s.gens, y.bare = true) : ∀ y ∈ (s.setGen g x).gens, y.bare = true := by
  by_cases hg : ∃ st, s.gens[g]? = some st
  · obtain ⟨st, hg⟩ := hg
    exact (GenOnlyQ.of (GenOnly.setGen s g x) (setGen_self hg) hx).bare h
  · intro y hy
    obtain ⟨i, hi, rfl⟩ := Array.mem_iff_getElem.mp hy
    have e : i ≠ g := fun q => hg ⟨s.gens[g]'(by have := (GenOnly.setGen s g x).1; rw [← q]; omega), by simp [q ▸ (by have := (GenOnly.setGen s g x).1; omega : i < s.gens.size)]⟩
    have h1 := setGen_ne (s := s) (x := x) e
    rw [Array.getElem?_eq_getElem hi] at h1
    obtain ⟨hi', e'⟩ := Array.getElem?_eq_some_iff.mp h1.symm
    exact e' ▸ h _ (Array.getElem_mem hi')
theorem Foot.sub {hs : Heap} {W W' : List Addr} {h : Heap} {fp : List Addr} (ft : Foot hs W' h fp) (k : ∀ a, a ∈ W → a ∈ W') : Foot hs W h fp := fun a m => ⟨(ft a m).1, fun q => (ft a m).2.1 (k a q), (ft a m).2.2⟩

section
variable {f : Fx} {hs : Heap} {W X : List Addr} {items : List (Nat × List Nat)} {G : Addr} {g : Nat}
structure GenP (f : Fx) (hs : Heap) (W : List Addr) (items : List (Nat × List Nat)) (G : Addr) (g : Nat) (i : Nat) (s : Shared) : Prop where
  isg : s.heap.IsGen G g
  base : ∀ b o, f.h₀.get? b = some o → s.heap.get? b = some o
  old : ∀ b o, hs.get? b = some o → b ∉ W → s.heap.get? b = some o
  goes : ∃ gs, s.gens[g]? = some gs ∧ ∀ s'', Later f.h₀ (G :: W) s s'' → (∀ x ∈ G :: W, ∃ o, s''.heap.get? x = some o) → (∀ b o, hs.get? b = some o → ∃ o', s''.heap.get? b = some o') →
    gs.Goes (model pw f.w) f.A.in1 (gR hs (G :: W)) (gY f.h₀ hs (G :: W) items) (items.length - i) (.send .none) s''
theorem go_gen {w : World} {A : Around} {s : Shared} (hg : s.heap.IsGen G g) (t : Expr) (v : Value) (Q : Unit → Shared → Prop) (E : Value → Shared → Prop) (q : Q () s) :
    wpAny (model pw w) A (letOwnedTupleGo t (.ref G) v) Q E s := by
  obtain ⟨o, nm, qn, ho, hc, hd, _⟩ := hg
  have key : ∀ T : Addr, wpAny (model pw w) A (do
      let o ← load G
      match o.cls, o.data with
      | .type n, .fields vs =>
        if ["enumerate", "zip", "dict_itemiterator", "dict_reverseitemiterator", "odict_iterator", "itertools.zip_longest", "itertools.pairwise"].contains n && vs[0]? == some (rawInt T) then
          rule "for.unpacks-the-owned-tuple"
          updateField G 0 .none
      | _, _ => pure ()) Q E s := fun T => by
    refine wpAny_bind (wpAny_load ho ?_)
    rw [hc, hd]
    show wpAny _ A (if (["enumerate", "zip", "dict_itemiterator", "dict_reverseitemiterator", "odict_iterator", "itertools.zip_longest", "itertools.pairwise"].contains "generator" && _) = true then _ else _) Q E s
    rw [if_neg (by
      intro h
      rw [show (["enumerate", "zip", "dict_itemiterator", "dict_reverseitemiterator", "odict_iterator", "itertools.zip_longest", "itertools.pairwise"].contains "generator") = false from by decide, Bool.false_and] at h
      cases h)]
    exact wpAny_pure q
  cases t with
  | Tuple es k p => cases v with
    | ref T => exact key T
    | _ => exact wpAny_pure q
  | List es p => cases v with
    | ref T => exact key T
    | _ => exact wpAny_pure q
  | _ => exact wpAny_pure q
theorem GenP.run {i : Nat} {s : Shared} (H : GenP f hs W items G g i s) (hb : ∀ y ∈ s.gens, y.bare = true) (hW : ∀ a ∈ W, ∃ o, s.heap.get? a = some o) :
    ∃ gs, s.gens[g]? = some gs ∧ gs.Goes (model pw f.w) f.A.in1 (gR hs (G :: W)) (gY f.h₀ hs (G :: W) items) (items.length - i) (.send .none) (s.setGen g .running) := by
  obtain ⟨gs, h1, h2⟩ := H.goes
  refine ⟨gs, h1, h2 _ ⟨fun _ _ _ q => q, H.base, setGen_bare rfl hb⟩ (fun x m => ?_) fun b o q => ?_⟩
  · rcases List.mem_cons.mp m with rfl | m
    · obtain ⟨o, _, _, ho, _⟩ := H.isg; exact ⟨o, ho⟩
    · exact hW x m
  · by_cases m : b ∈ W
    · exact hW b m
    · exact ⟨o, H.old b o q m⟩
theorem gen_mv {s s₁ : Shared} {fp : List Addr} {x : GenState} (p : Mv fp (s.setGen g .running) s₁) (hx : x.bare = true) : Mv fp s (s₁.setGen g x) [g] :=
  ⟨p.keep, fun k st n e => by
    have hk : k ≠ g := by simpa using n
    rw [setGen_ne hk]
    exact p.gens k st (by simp) (by rw [setGen_ne hk]; exact e), fun h => setGen_bare hx (p.bare (setGen_bare rfl h)), p.os⟩
theorem Feed.gen (hG : hs.get? G = none) (hGW : G ∉ W) (hb0 : ∀ b o, f.h₀.get? b = some o → hs.get? b = some o) (hroom : f.A.depth < recursionLimit) : Feed f.h₀ hs f.w f.A X W (.ref G) [g] (items.map dG) (GenP f hs W items G g) where
  stay := fun i s s' H k _ kg kb => ⟨(let ⟨o, nm, qn, ho, r⟩ := H.isg; ⟨o, nm, qn, k G o hGW ho, r⟩), kb, fun b o q m => k b o m (H.old b o q m), by
    obtain ⟨gs, h1, h2⟩ := H.goes
    exact ⟨gs, kg g (by simp) _ h1, fun s'' hl => h2 s'' ⟨fun a o m q => hl.1 a o m (k a o (fun mm => m (List.mem_cons_of_mem _ mm)) q), hl.2⟩⟩⟩
  item := fun i d s hd H hl hb hW hX => by
    obtain ⟨p, hp, rfl⟩ : ∃ p, items[i]? = some p ∧ dG p = d := by simpa using hd
    have hi : i < items.length := (List.getElem?_eq_some_iff.mp hp).1
    obtain ⟨gs, h1, h2⟩ := H.run hb hW
    obtain ⟨m, hm⟩ : ∃ m, items.length - i = m + 1 := ⟨items.length - i - 1, by omega⟩
    rw [hm] at h2
    refine pyNext_gen (P := fun n s₀ s₁ => n = 0 ∧ Since hs (G :: W) s₀ s₁) f.hh ⟨hl, hroom⟩ H.isg h1 h2 (fun v s₁ gs' ⟨hb', hv⟩ => ?_) fun s₁ hp' => absurd hp'.1 (by omega)
    obtain ⟨⟨q, hq, hR⟩, ⟨fp, ft, pm⟩, hk⟩ := hv
    have hidx : items.length - 1 - (m + 1 - 1) = i := by omega
    rw [hidx, hp] at hq
    cases hq
    have ex1 : s₁.gens[g]? = some .running := pm.gens g _ (by simp) (setGen_self h1)
    have hGf : G ∉ fp := fun mm => (ft G mm).2.1 (by simp)
    refine ⟨v, rfl, hR X, ⟨(let ⟨o, nm, qn, ho, r⟩ := H.isg; ⟨o, nm, qn, pm.keep G o hGf ho, r⟩), fun b o e => pm.keep b o (fun mm => by have := hb0 b o e; rw [(ft b mm).1] at this; cases this) (H.base b o e), fun b o e mw => pm.keep b o (fun mm => by rw [(ft b mm).1] at e; cases e) (H.old b o e mw), gs', setGen_self ex1, fun s'' hl' _ _ => ?_⟩, fp, ft.sub fun a m => List.mem_cons_of_mem _ m, gen_mv pm hb'⟩
    have e : items.length - (i + 1) = m := by omega
    rw [e]
    exact hk s'' hl'
  done := fun s H hl hb hW hX => by
    obtain ⟨gs, h1, h2⟩ := H.run hb hW
    rw [List.length_map, Nat.sub_self] at h2
    refine pyNext_gen (P := fun n s₀ s₁ => n = 0 ∧ Since hs (G :: W) s₀ s₁) f.hh ⟨hl, hroom⟩ H.isg h1 h2 (fun v s₁ gs' ⟨hb', hv⟩ => ?_) fun s₁ hp' h' k => ?_
    · obtain ⟨_, ⟨fp, ft, pm⟩, hk⟩ := hv
      exact (hk s₁ ⟨fun _ _ _ q => q, fun b o e => pm.keep b o (fun mm => by have := hb0 b o e; rw [(ft b mm).1] at this; cases this) (H.base b o e), pm.bare (setGen_bare rfl hb)⟩).elim
    · obtain ⟨_, fp, ft, pm⟩ := hp'
      refine ⟨rfl, fp, ft.sub fun a m => List.mem_cons_of_mem _ m, ?_⟩
      have p2 := gen_mv (x := .finished) pm rfl
      exact ⟨fun b o m e => k b o (p2.keep b o m e), p2.gens, p2.bare, p2.os⟩
  go := fun i s H t v Q E q => go_gen H.isg t v Q E q
  self := fun i s Q E H q => wpAny_pyIter_gen H.isg q
end
end Mine

namespace Mine
open PySem PySem.Calls PyProof.Rows PySem.W

theorem IterOf.gen {f : Fx} {Y : List Addr} {σ : Sg} {x : Str} {np pos : Pos} {e : Expr} {l : List Nat} (h : Ev f Y σ e (.str (tx l))) (hasc : l.all (· < 128) = true) (hz : l.length ≤ 100000) (hn : 8 ≤ f.n) (hx : x = (fn 0).name := by rfl)
    (hk : f.env.kindOf x = some .globalImplicit := by rfl) (hd : (x == ("__debug__" : Str)) = false := by decide)
    (he : starEach [e] f.env = (false, eval e f.env) :: starEach [] f.env := by rfl) : IterOf f Y σ (.Call (.Name x np) [e] [] pos) ((escGo l 0 false).map dG) := fun s S => by
  obtain ⟨mg, mb, q1, q2, q3, _⟩ := f.B.glob
  obtain ⟨a, o, pm, cd, doc, r1, r2, r3, r4⟩ := q3 _ (fn_mem 0 (by decide))
  have q1' : s.heap.Ns f.env.globals mg := S.frm.glo ▸ q1.keeps S.base
  refine Call_ (Name_function_global S.frm.fn hk (loadGlobal_global q1' (hx ▸ r1) ?_) hd)
  refine callWith_def r3 (args_cons (wNoE (h s S) fun v s1 h1 => args_nil ⟨h1.1.keep.all _ _ (S.base _ _ r2), ?_⟩) he) he
  obtain ⟨p1, t, rfl⟩ := h1
  have S1 := S.step p1
  refine wpAny_call (codeAny_call_generator (by have := f.dep; omega) (S1.base _ _ r2) r3 rfl rfl rfl (r4.keeps S1.base) ?_)
  show wpAny _ _ (bindArgs _ _) _ _ s1
  have hba : bindArgs (docDef (fn 0).name (fn 0).params (fn 0).body (fn 0).scope pm cd doc) ⟨[Value.str (tx l) t], []⟩ = pure [(("addr" : Str), Value.str (tx l) t)] := rfl
  refine wpAny_of_eq hba ?_
  refine wpAny_newFunctionEnv (show ∀ y ∈ (fn 0).scope.names, y.2 ≠ .cell by decide +kernel) (by intro y hy; rw [List.mem_singleton.mp hy]; rfl) (fun h4 hn4 hs4 => ?_) rfl
  have nL : s1.heap.get? s1.heap.objs.size = none := fresh_none _
  generalize hL : s1.heap.objs.size = L at hn4 hs4 nL
  have k4 : ∀ b o, s1.heap.get? b = some o → h4.get? b = some o := fun b o e => hs4.extBut b o (fun q => by rw [q, nL] at e; cases e) (Heap.get?_push_of_some _ e)
  refine ⟨f.B.nolimit.keeps fun b o e => k4 b o (S1.base b o e), ?_⟩
  have nG : h4.get? h4.objs.size = none := fresh_none _
  generalize hGe : h4.objs.size = G at nG
  generalize hs2 : ({ heap := h4.push _, gens := s1.gens.push _, drawn := s1.drawn, toks := _, os := s1.os } : Shared) = s2
  show wpAny f.M f.A (pyIter (.ref G)) _ _ s2
  have hisg : s2.heap.IsGen G s1.gens.size := by
    rw [← hs2, ← hGe]; exact ⟨_, _, _, Heap.get?_push_size _ rfl, rfl, rfl, rfl⟩
  have k2 : ∀ b o, h4.get? b = some o → s2.heap.get? b = some o := fun b o e => by rw [← hs2]; exact Heap.get?_push_of_some _ e
  have kall : ∀ b o, s.heap.get? b = some o → s2.heap.get? b = some o := fun b o e => k2 b o (k4 b o (p1.keep.all b o e))
  have hgens : s2.gens = s1.gens.push (.fresh (.func gBody (gEnv L a cd))) := by rw [← hs2]; rfl
  have mv : Mv [] s s2 := by
    refine p1.trans ⟨.of_all fun b o e => k2 b o (k4 b o e), fun g st _ e => ?_, fun hb y hy => ?_, by rw [← hs2]⟩
    · rw [hgens]
      have : g < s1.gens.size := (Array.getElem?_eq_some_iff.mp e).1
      rw [Array.getElem?_push_lt this]
      exact (Array.getElem?_eq_getElem this).symm.trans e
    · rw [hgens] at hy
      rcases Array.mem_push.mp hy with hy | rfl
      · exact hb y hy
      · rfl
  have S2 := S.step mv
  have n0 : ∀ {b : Addr}, s1.heap.get? b = none → s.heap.get? b = none := fun {b} n => by
    cases q : s.heap.get? b with
    | none => rfl
    | some o => have := p1.keep.all b o q; rw [n] at this; cases this
  have nL0 := n0 nL
  have nG0 : s.heap.get? G = none := n0 (by
    cases q : s1.heap.get? G with
    | none => rfl
    | some o => have := k4 G o q; rw [nG] at this; cases this)
  have hLG : L ≠ G := fun q => by obtain ⟨o, _, _, ho, _⟩ := hn4; rw [q, nG] at ho; cases ho
  refine wpAny_pyIter_gen hisg ⟨[s1.gens.size], fun Z W hZ hW => ⟨_, Feed.gen (hs := s.heap) nG0 (user_new nG0 hW (let ⟨o, _, _, ho, _⟩ := hisg; ⟨o, ho⟩)) S.base (by have := f.dep; omega), hisg, S2.base, fun b o e _ => kall b o e, .fresh (.func gBody (gEnv L a cd)), by rw [hgens]; exact Array.getElem?_push_size, fun s'' hl hWx hk' => ⟨rfl, ?_⟩⟩, mv, fun g m => ?_⟩
  · have hLW : L ∉ W := user_new nL0 hW (let ⟨o, _, _, ho, _⟩ := hn4; ⟨o, k2 L o ho⟩)
    refine seg_start hn hasc hz nL0 (fun m => (List.mem_cons.mp m).elim hLG hLW) S.base ?_ hWx hk'
    have hn'' : s''.heap.Ns L (fun y => ([(("addr" : Str), Value.str (tx l) t)] : List (Str × Value)).reverse.lookup y) := hn4.at' fun o e => hl.1 L o (fun m => (List.mem_cons.mp m).elim hLG hLW) (k2 L o e)
    refine ⟨⟨hl.2.1, (fun b m => nomatch (show b ∈ ([] : List Addr) from m))⟩, fun b m => ?_, ⟨rfl, ⟨_, hn''⟩, (fun y c m => nomatch (show (y, c) ∈ ([] : List (Str × Addr)) from m)), (fun y z c m _ => nomatch (show (none : Option Addr) = some c from m)), rfl, rfl⟩, hl.2.2, (fun _ m => nomatch m), fun y d ey => ?_⟩
    · have hbL : b = L := by
        rcases List.mem_cons.mp m with q | m
        · exact q
        · simp [gEnv, newEnv] at m
      subst hbL
      show f.h₀.get? b = none
      cases q : f.h₀.get? b with
      | none => rfl
      | some o => have := S.base b o q; rw [nL0] at this; cases this
    · by_cases hy : y = "addr"
      · subst hy
        rw [lookup_cons_self] at ey; cases ey
        exact ⟨.str (tx l) t, .inl ⟨rfl, _, hn'', rfl⟩, t, rfl⟩
      · rw [lookup_cons_ne hy] at ey; simp at ey
  · rw [List.mem_singleton.mp m]
    cases q : s.gens[s1.gens.size]? with
    | none => rfl
    | some st =>
      have := p1.gens _ st (by simp) q
      simp at this
end Mine

namespace Mine
open PySem PySem.Calls PyProof.Rows PySem.W

/-! _strip_quoted_realnames -/
structure SS where
  start : Nat
  op : Option Nat
  res : List Str
noncomputable def sStep (l : List Nat) (st : SS) (p : Nat × List Nat) : SS :=
  if p.2 = [34] then match st.op with
    | none => ⟨st.start, some p.1, st.res⟩
    | some o => ⟨p.1 + 1, none, if st.start ≠ o then st.res ++ [Txt.slice (tx l) (some (st.start : Int)) (some (o : Int))] else st.res⟩
  else st
noncomputable def stripSt (l : List Nat) : SS := (escGo l 0 false).foldl (sStep l) ⟨0, none, []⟩
noncomputable def stripRes (l : List Nat) (st : SS) : List Str := if st.start < l.length then st.res ++ [Txt.slice (tx l) (some (st.start : Int)) none] else st.res
noncomputable def stripS (l : List Nat) : Str := if 34 ∈ l then Txt.join (tx []) (stripRes l (stripSt l)) else tx l
noncomputable def opD : Option Nat → D
  | none => .none
  | some i => .int i
theorem sStep_len (l : List Nat) (st : SS) (p : Nat × List Nat) : (sStep l st p).res.length ≤ st.res.length + 1 := by
  unfold sStep; split
  · split
    · simp
    · simp only; split <;> simp
  · lia
theorem sStep_small {l : List Nat} {st : SS} {p : Nat × List Nat} (h : ∀ x ∈ st.res, x.length ≤ l.length) : ∀ x ∈ (sStep l st p).res, x.length ≤ l.length := by
  unfold sStep; split
  · split
    · exact h
    · simp only
      split
      · intro x m
        rcases List.mem_append.mp m with m | m
        · exact h x m
        · rw [List.mem_singleton.mp m]
          have := Txt.slice_le (tx l) (some (st.start : Int)) (some ((‹Nat› : Nat) : Int))
          rw [tx_len] at this
          exact Nat.le_trans (Txt.slice_le (tx l) _ _) (by rw [tx_len]; exact Nat.le_refl _)
      · exact h
  · exact h
theorem joinOk_of {l : List Str} {n k : Nat} (h : ∀ x ∈ l, x.length ≤ n) (hl : l.length ≤ k) (hz : k * n ≤ 16777216) : JoinOk (tx []) l = true := by
  unfold JoinOk
  have key : ∀ (l : List Str) (acc : Nat), (∀ x ∈ l, x.length ≤ n) → l.foldl (fun a x => a + x.length + (tx []).length) acc ≤ acc + l.length * n := by
    intro l
    induction l with
    | nil => intro acc _; simp
    | cons x r ih =>
      intro acc h
      have h1 := h x (by simp)
      have := ih (acc + x.length + (tx []).length) (fun y m => h y (List.mem_cons_of_mem _ m))
      have h0 : (tx []).length = 0 := rfl
      simp only [List.foldl_cons, List.length_cons]
      rw [h0] at this ⊢
      rw [Nat.add_mul]
      lia
  have h2 := key l 0 h
  have h3 : l.length * n ≤ k * n := Nat.mul_le_mul_right n hl
  simp only [Bool.not_eq_true']
  unfold Builtin.Str.tooLong
  rw [List.foldl_toArray']
  rotate_left
  · rfl
  simp only [decide_eq_false_iff_not, Nat.not_lt, sizeLine_eq]
  lia
theorem strip_inv (l : List Nat) : ∀ (p : List (Nat × List Nat)) (st : SS), st.res.length ≤ 0 + 0 ∨ True → (∀ x ∈ st.res, x.length ≤ l.length) → (p.foldl (sStep l) st).res.length ≤ st.res.length + p.length ∧ ∀ x ∈ (p.foldl (sStep l) st).res, x.length ≤ l.length
  | [], st, _, h => ⟨by simp, h⟩
  | a :: p, st, _, h => by
    have := strip_inv l p (sStep l st a) (.inr trivial) (sStep_small h)
    have h1 := sStep_len l st a
    exact ⟨by simp only [List.foldl_cons, List.length_cons]; lia, this.2⟩
theorem contains_q (l : List Nat) : Txt.contains (tx l) (tx [34]) = decide (34 ∈ l) := by
  show (!(Builtin.Str.occurrences (tx l) ⟨#[34]⟩ 0 (tx l).length 1).isEmpty) = _
  rw [StrLaws.found_one, tx_cps]
theorem spec_strip {l : List Nat} (hasc : l.all (· < 128) = true) (hz : l.length ≤ 1000) : Spec 9 1 [.str (tx l)] (.str (stripS l)) := by
  have hzl : 100000 ≤ sizeLine := by decide
  refine Spec.of (k := 8) rfl ["addr"] rfl (fun pm cd doc vs hv => ?_) ?_ ?_ ?_ ?_ ?_ ?_ ?_
  · obtain ⟨v, rfl⟩ := List.length_eq_one_iff.mp hv
    rfl
  · decide
  · rfl
  · decide
  · rfl
  · rfl
  · rfl
  · intro f X L a cd hn hk
    refine Ex.cons (Ex1.if_ (b := !decide (34 ∈ l)) ((Tt.cmp Ev.cStr (Ev.name rfl) Bin.notInS).eq (by show (!Txt.contains (tx l) (tx [34])) = _; rw [contains_q])) (fun hb => ?_) fun hb => Ex.nil ?_)
    · have hq : ¬ 34 ∈ l := by simpa using hb
      refine Ex.cons (Ex1.ret (Ev.name rfl) ?_)
      show R.ret _ = R.ret _
      rw [stripS, if_neg hq]
    · have hq : 34 ∈ l := by simpa using hb
      refine Ex.cons (Ex1.assign Ev.cInt ?_)
      refine Ex.cons (Ex1.assign Ev.cNone ?_)
      refine Ex.cons (Ex1.newMut fun b => ?_)
      refine Ex.cons (Ex1.forN (rows := escGo l 0 false) (g := dG) (IterOf.gen (Ev.name rfl) hasc (by lia) (by show 8 ≤ f.n - 1; lia)) (fun p σ' => p.length ≤ (escGo l 0 false).length ∧ Has σ' [("addr", .im (.str (tx l))), ("start", .im (.int ((p.foldl (sStep l) ⟨0, none, []⟩).start : Nat))), ("open_pos", .im (opD (p.foldl (sStep l) ⟨0, none, []⟩).op)), ("result", .mut b (dS (p.foldl (sStep l) ⟨0, none, []⟩).res))])
        ⟨Nat.zero_le _, .cons (.cons (.cons (.cons .nil)))⟩ ?_ ?_ tgtOk_all)
      · rintro p q r σ' e1 ⟨hpl, H⟩
        have hlen : p.length + 1 ≤ (escGo l 0 false).length := by rw [e1]; simp
        have hel := escGo_len l 0 false
        have hinv := strip_inv l p ⟨0, none, []⟩ (.inr trivial) (by simp)
        rw [List.foldl_append, List.foldl_cons, List.foldl_nil]
        generalize p.foldl (sStep l) ⟨0, none, []⟩ = st at H hinv ⊢
        obtain ⟨start, op, res⟩ := st
        simp only [List.length_nil, Nat.zero_add] at H hinv
        refine ⟨_, rfl, Ex.has (τ := ("ch", .im (.str (tx q.2))) :: ("pos", .im (.int (q.1 : Nat))) :: [("addr", .im (.str (tx l))), ("start", .im (.int (start : Nat))), ("open_pos", .im (opD op)), ("result", .mut b (dS res))]) ?_ (.cons (.cons (.cons (.cons (.cons (.cons .nil (H _ _ rfl)) (H _ _ rfl)) (H _ _ rfl)) (H _ _ rfl))))⟩
        refine Ex.cons (Ex1.if_ (b := decide (q.2 = [34])) ((Tt.cmp (Ev.name rfl) Ev.cStr Bin.eqS).eq (by show (tx q.2 == tx [34]) = _; rw [tx_eq])) (fun hb => ?_) fun hb => ?_)
        · have hq2 : q.2 = [34] := by simpa using hb
          cases op with
          | none =>
            refine Ex.cons (Ex1.if_ (b := true) (Tt.cmp (Ev.name rfl) Ev.cNone (Bin.isNone (.inl ⟨rfl, rfl⟩))) (fun _ => ?_) fun h => by cases h)
            refine Ex.cons (Ex1.assign (Ev.name rfl) (Ex.nil (Ex.nil (Ex.nil ⟨rfl, by simpa using hlen, ?_⟩))))
            rw [sStep, if_pos hq2]
            exact .cons (.cons (.cons (.cons .nil)))
          | some o =>
            refine Ex.cons (Ex1.if_ (b := false) (Tt.cmp (Ev.name rfl) Ev.cNone (Bin.isNone (.inr ⟨⟨_, rfl⟩, rfl⟩))) (fun h => by cases h) fun _ => ?_)
            have e2 : sStep l ⟨start, some o, res⟩ q = ⟨q.1 + 1, none, if start ≠ o then res ++ [Txt.slice (tx l) (some (start : Int)) (some (o : Int))] else res⟩ := by rw [sStep, if_pos hq2]
            rw [e2]
            refine Ex.consHas (("pos", .im (.int (q.1 : Nat))) :: [("addr", .im (.str (tx l))), ("result", .mut b (dS (if start ≠ o then res ++ [Txt.slice (tx l) (some (start : Int)) (some (o : Int))] else res)))]) (Ex1.if_ (b := start != o) ((Tt.cmp (Ev.name rfl) (Ev.name rfl) Bin.neI).eq (neN _ _)) (fun hb => ?_) fun hb => ?_) ?_
            · have hso : start ≠ o := by simpa using hb
              refine Ex.cons (Ex1.append (Ev.slice (Ev.name rfl) (.some (Ev.name rfl)) (.some (Ev.name rfl)) (SliceOf.str (by rw [tx_len]; lia))) rfl ?_ ?_ (only_of rfl) (by simp))
              · refine Ex.nil ⟨rfl, rfl, .cons (.cons (.cons .nil ?_))⟩
                show some (VD.mut b _) = some (VD.mut b _)
                rw [if_pos hso]; simp [dS]
              · simp [dS]; lia
            · have hso : ¬ start ≠ o := by simpa using hb
              refine Ex.nil ⟨rfl, rfl, .cons (.cons (.cons .nil ?_))⟩
              show some (VD.mut b _) = some (VD.mut b _)
              rw [if_neg hso]
            · refine Ex.cons (Ex1.assign (Ev.bin (Ev.name rfl) Ev.cInt Bin.add) (Ex.cons (Ex1.assign Ev.cNone (Ex.nil (Ex.nil (Ex.nil ⟨rfl, by simpa using hlen, .cons (.cons (.cons (.cons .nil) ) ?_)⟩))))))
              show some (VD.im (D.int _)) = some (VD.im (D.int _))
              push_cast; rfl
        · have hq2 : ¬ q.2 = [34] := by simpa using hb
          rw [sStep, if_neg hq2]
          exact Ex.nil (Ex.nil ⟨rfl, by simpa using hlen, .cons (.cons (.cons (.cons .nil)))⟩)
      · rintro σ' ⟨_, H⟩
        have hinv := strip_inv l (escGo l 0 false) ⟨0, none, []⟩ (.inr trivial) (by simp)
        have hel := escGo_len l 0 false
        have hS : stripS l = Txt.join (tx []) (stripRes l (stripSt l)) := by rw [stripS, if_pos hq]
        rw [hS]
        unfold stripSt
        generalize (escGo l 0 false).foldl (sStep l) ⟨0, none, []⟩ = st at H hinv ⊢
        obtain ⟨start, op, res⟩ := st
        simp only [List.length_nil, Nat.zero_add] at H hinv
        have hrr : ∀ x ∈ stripRes l ⟨start, op, res⟩, x.length ≤ l.length := by
          intro x m
          unfold stripRes at m
          split at m
          · rcases List.mem_append.mp m with m | m
            · exact hinv.2 x m
            · rw [List.mem_singleton.mp m]; exact Nat.le_trans (Txt.slice_le (tx l) _ _) (by rw [tx_len]; exact Nat.le_refl _)
          · exact hinv.2 x m
        have hrl : (stripRes l ⟨start, op, res⟩).length ≤ 1002 := by
          unfold stripRes; split <;> simp <;> lia
        refine Ex.consHas [("result", .mut b (dS (stripRes l ⟨start, op, res⟩)))] (Ex1.if_ (b := decide (start < l.length)) ((Tt.cmp (Ev.name (H _ _ rfl)) (Ev.callB (by decide +kernel) (Evs.cons (Ev.name (H _ _ rfl)) .nil) (CallOf.lenS (by rw [tx_len]; lia))) Bin.ltI).eq (by rw [tx_len]; simp)) (fun hb => ?_) fun hb => ?_) ?_
        · have hlt : start < l.length := by simpa using hb
          refine Ex.has (τ := [("addr", .im (.str (tx l))), ("start", .im (.int (start : Nat))), ("result", .mut b (dS res))]) (Ex.cons (Ex1.append (Ev.slice (Ev.name rfl) (.some (Ev.name rfl)) .none (SliceOf.str (by rw [tx_len]; lia))) rfl ?_ ?_ (only_of rfl) (by simp))) (.cons (.cons (.cons .nil (H _ _ rfl)) (H _ _ rfl)) (H _ _ rfl))
          · refine Ex.nil ⟨rfl, rfl, .cons .nil ?_⟩
            show some (VD.mut b _) = some (VD.mut b _)
            rw [stripRes, if_pos hlt]; simp [dS]
          · simp [dS]; lia
        · have hlt : ¬ start < l.length := by simpa using hb
          refine Ex.nil ⟨rfl, rfl, .cons .nil ?_⟩
          rw [stripRes, if_neg hlt]; exact H _ _ rfl
        · refine Ex.freeze (x := "result") (σ0 := []) ?_ rfl (by simp) (fun y d e => by simp at e)
          exact Ex.cons (Ex1.ret (Ev.join (x := tx []) Ev.cStr (Ev.name rfl) (joinOk_of hrr hrl (by
            have : 1002 * l.length ≤ 1002 * 1000 := Nat.mul_le_mul_left _ hz
            lia))) rfl)
end Mine

namespace Mine
open PySem PySem.Calls PyProof.Rows PySem.W

/-! _check_parenthesis -/
noncomputable def ckStep (o : Option Int) (p : Nat × List Nat) : Option Int :=
  match o with
  | none => none
  | some n => if p.2 = [40] then some (n + 1) else if p.2 = [41] then (if n - 1 < 0 then none else some (n - 1)) else some n
noncomputable def ckEnd : Option Int → Bool
  | none => false
  | some n => n == 0
noncomputable def checkB (l : List Nat) : Bool := ckEnd ((escGo l 0 false).foldl ckStep (some 0))
theorem ck_none : ∀ p : List (Nat × List Nat), p.foldl ckStep none = none
  | [] => rfl
  | _ :: p => ck_none p
theorem spec_check {l l' : List Nat} (hasc : l.all (· < 128) = true) (hz : l.length ≤ 1000) (hs : stripS l = tx l') (hasc' : l'.all (· < 128) = true) (hz' : l'.length ≤ 1000) : Spec 10 2 [.str (tx l)] (.bool (checkB l')) := by
  refine Spec.of (k := 9) rfl ["addr"] rfl (fun pm cd doc vs hv => ?_) ?_ ?_ ?_ ?_ ?_ ?_ ?_
  · obtain ⟨v, rfl⟩ := List.length_eq_one_iff.mp hv
    rfl
  · decide
  · rfl
  · decide
  · rfl
  · rfl
  · rfl
  · intro f X L a cd hn hk
    refine Ex.cons (Ex1.assign ((Ev.callF (spec_strip hasc hz) (Evs.cons (Ev.name rfl) .nil) (by show 9 ≤ f.n - 1; omega) rfl (fn_mem 1 (by decide))).eq (congrArg D.str hs)) ?_)
    refine Ex.cons (Ex1.assign Ev.cInt ?_)
    refine Ex.cons (Ex1.forN (rows := escGo l' 0 false) (g := dG) (IterOf.gen (Ev.name rfl) hasc' (by omega) (by show 8 ≤ f.n - 1; omega)) (fun p σ' => ∃ n : Int, p.foldl ckStep (some 0) = some n ∧ Has σ' [("opens", .im (.int n))])
      ⟨0, rfl, .cons .nil⟩ ?_ ?_ tgtOk_all)
    · rintro p q r σ' e1 ⟨n, hn', H⟩
      have key : ∀ o, ckStep (some n) q = o → (escGo l' 0 false).foldl ckStep (some 0) = r.foldl ckStep o := fun o ho => by
        rw [e1, List.foldl_append, hn', List.foldl_cons, ho]
      rw [List.foldl_append, hn', List.foldl_cons, List.foldl_nil]
      refine ⟨_, rfl, Ex.has (τ := ("ch", .im (.str (tx q.2))) :: ("pos", .im (.int (q.1 : Nat))) :: [("opens", .im (.int n))]) ?_ (.cons (.cons (.cons .nil (H _ _ rfl))))⟩
      refine Ex.cons (Ex1.if_ (b := decide (q.2 = [40])) ((Tt.cmp (Ev.name rfl) Ev.cStr Bin.eqS).eq (by show (tx q.2 == tx [40]) = _; rw [tx_eq])) (fun hb => ?_) fun hb => ?_)
      · have h40 : q.2 = [40] := by simpa using hb
        refine Ex.cons (Ex1.aug rfl Ev.cInt Bin.iadd (Ex.nil (Ex.nil ⟨rfl, n + 1, by simp [ckStep, h40], .cons .nil⟩)))
      · have h40 : ¬ q.2 = [40] := by simpa using hb
        refine Ex.cons (Ex1.if_ (b := decide (q.2 = [41])) ((Tt.cmp (Ev.name rfl) Ev.cStr Bin.eqS).eq (by show (tx q.2 == tx [41]) = _; rw [tx_eq])) (fun hb => ?_) fun hb => ?_)
        · have h41 : q.2 = [41] := by simpa using hb
          refine Ex.cons (Ex1.aug rfl Ev.cInt Bin.isub ?_)
          refine Ex.cons (Ex1.if_ (b := decide (n - 1 < 0)) (Tt.cmp (Ev.name rfl) Ev.cInt Bin.ltI) (fun hb => ?_) fun hb => ?_)
          · have hlt : n - 1 < 0 := by simpa using hb
            refine Ex.cons (Ex1.ret Ev.cBool ?_)
            show R.ret _ = R.ret _
            have hst : ckStep (some n) q = none := by simp only [ckStep]; rw [if_neg h40, if_pos h41, if_pos hlt]
            have := key _ hst
            rw [ck_none] at this
            rw [checkB, this]; rfl
          · have hlt : ¬ n - 1 < 0 := by simpa using hb
            have hst : ckStep (some n) q = some (n - 1) := by simp only [ckStep]; rw [if_neg h40, if_pos h41, if_neg hlt]
            exact Ex.nil (Ex.nil (Ex.nil (Ex.nil ⟨rfl, n - 1, hst, .cons .nil⟩)))
        · have h41 : ¬ q.2 = [41] := by simpa using hb
          have hst : ckStep (some n) q = some n := by simp only [ckStep]; rw [if_neg h40, if_neg h41]
          exact Ex.nil (Ex.nil (Ex.nil ⟨rfl, n, hst, .cons .nil⟩))
    · rintro σ' ⟨n, hn', H⟩
      refine Ex.cons (Ex1.ret (Ev.cmp (Ev.name (H _ _ rfl)) Ev.cInt Bin.eqI) ?_)
      rw [checkB, hn']; rfl
end Mine

namespace Mine
open PySem PySem.Calls PyProof.Rows PySem.W

/-! an iterator over a list of ints, and next -/
structure Itr (I ax : Addr) (ns : List Nat) (j : Nat) (s : Shared) : Prop where
  it : s.heap.IsListIter I ax j
  ls : ∃ vs : List Value, s.heap.IsList ax vs.toArray ∧ IntsAre vs (ns.map fun (n : Nat) => (n : Int))
theorem Itr.keep {I ax : Addr} {ns : List Nat} {j : Nat} {s s' : Shared} (h : Itr I ax ns j s) (k1 : ∀ o, s.heap.get? I = some o → s'.heap.get? I = some o) (k2 : ∀ o, s.heap.get? ax = some o → s'.heap.get? ax = some o) : Itr I ax ns j s' :=
  ⟨(let ⟨o, ho, r⟩ := h.it; ⟨o, k1 o ho, r⟩), let ⟨vs, ⟨o, ho, r⟩, q⟩ := h.ls; ⟨vs, ⟨o, k2 o ho, r⟩, q⟩⟩
theorem Itr.nons {I ax : Addr} {ns : List Nat} {j : Nat} {s : Shared} (h : Itr I ax ns j s) : ∃ o, s.heap.get? I = some o ∧ ¬ isSeqObj o := by
  obtain ⟨o, ho, _, hd⟩ := h.it; exact ⟨o, ho, nonseq_fields hd⟩
theorem Itr.ne {I ax : Addr} {ns : List Nat} {j : Nat} {s : Shared} (h : Itr I ax ns j s) : ax ≠ I := fun e => by
  obtain ⟨o, ho, _, hd⟩ := h.it
  obtain ⟨vs, ⟨o', ho', _, n, hd'⟩, _⟩ := h.ls
  rw [e, ho] at ho'; cases ho'
  rw [hd] at hd'; cases hd'
theorem ints_at {vs : List Value} {ns : List Int} (h : IntsAre vs ns) {j : Nat} {n : Int} (e : ns[j]? = some n) : ∃ t, vs[j]? = some (.int n t) := by
  induction h generalizing j with
  | nil => simp at e
  | cons m t r ih =>
    cases j with
    | zero => simp at e; subst e; exact ⟨t, rfl⟩
    | succ j => simp at e; obtain ⟨t', h⟩ := ih (by simpa using e); exact ⟨t', by simpa using h⟩
section
variable {w : World} {A : Around} {s : Shared}
/-! the next of a list's iterator, where an item is left -/
theorem special_next {it l : Addr} {i : Nat} {items : Array Value} {x : Value} {Q : Option Value → Shared → Prop} {E : Value → Shared → Prop} (hit : s.heap.IsListIter it l i) (hl : s.heap.IsList l items) (hx : items[i]? = some x)
    (hQ : ∀ h', h'.IsListIter it l (i + 1) → Heap.SameBut it s.heap h' → Q (some x) { s with heap := h' }) :
    wpAny (model pw w) A (callSpecial? (.ref it) (Str.ofString "__next__")) Q E s := by
  obtain ⟨oi, gi, ci, di⟩ := id hit
  obtain ⟨ol, gl, _, k, dl⟩ := hl
  have list0 : ∀ {A' : Around} {Q' : Value → Shared → Prop}, Q' (.ref l) s → wpAny (model pw w) A' (field (.ref it) 0) Q' E s := fun q => wpAny_field gi di rfl q
  have place : ∀ {A' : Around} {Q' : Value → Shared → Prop}, Q' (.int i 0) s → wpAny (model pw w) A' (field (.ref it) 1) Q' E s := fun q => wpAny_field gi di rfl q
  have on : ∃ h', h'.IsListIter it l (i + 1) ∧ Heap.SameBut it s.heap h' ∧ ∀ {A' : Around} {Q' : Unit → Shared → Prop}, Q' () { s with heap := h' } → wpAny (model pw w) A' (setField (.ref it) 1 (rawInt ((i : Int) + 1))) Q' E s :=
    ⟨_, ⟨_, Heap.get?_update_self _ gi (Obj.isFreed_of_fields (Obj.data_mapFields di _)), (Obj.cls_mapFields ..).trans ci, by rw [Obj.data_mapFields di]; simp [rawInt]⟩, Heap.SameBut.update .., fun q => wpAny_setField gi di (by simp) q⟩
  obtain ⟨h', i1, i2, set1⟩ := on
  refine wpAny_callSpecial?_slot hit.typeIs slot_listiter_next (wpAny_call_entry slot_listiter_next hit.typeIs entry_listiter_next ?_ (args_listiter_next _))
  refine wpAny_bind (m := field (.ref it) 0) (list0 ?_)
  refine wpAny_ite_split (fun e => by simp at e) fun _ => wpAny_bind (m := field (.ref it) 1) (place ?_)
  refine wpAny_bind (m := seqItems? (.ref l)) (wpAny_seqItems gl dl ?_)
  simp only [hx, Int.toNat_natCast]
  exact wpAny_bind (set1 (wpAny_pure ⟨x, rfl, hQ h' i1 i2⟩))
theorem call_next {I ax : Addr} {ns : List Nat} {j n : Nat} (h : Itr I ax ns j s) (hn : ns[j]? = some n) :
    wpAny (model pw w) A (call (.builtin "next") [.ref I]) (fun r s' => (∃ t, r = .int (n : Nat) t) ∧ Itr I ax ns (j + 1) s' ∧ Mv [I] s s') NoE s := by
  obtain ⟨vs, hl, hi⟩ := h.ls
  obtain ⟨t, hv⟩ := ints_at hi (j := j) (n := (n : Int)) (by simp [hn])
  refine call_function_entry (by decide +kernel) (by decide +kernel) kdk_entry_next (kdk_args_next _) ?_
  unfold Builtin.«next»
  refine wpAny_bind (m := someArgs "next" 1 2 _) (wpAny_of_eq (a := [Value.ref I]) rfl ?_)
  dsimp only
  refine wpAny_bind (wpAny_specialOf (name := Str.ofString "__next__") h.it.typeIs slot_listiter_next.lookup ?_)
  refine wpAny_ite_split (fun hab => absurd hab (by decide)) (fun _ => ?_)
  refine wpAny_bind (special_next h.it hl (x := .int (n : Nat) t) (by simpa using hv) fun h' hit' hs' => ?_)
  exact wpAny_pure ⟨_, rfl, ⟨t, rfl⟩, ⟨hit', vs, hl.extBut hs'.extBut h.ne, hi⟩, .heap' (.same hs')⟩
end
end Mine

namespace Mine
open PySem PySem.Calls PyProof.Rows PySem.W

/-! _parse_varint -/
noncomputable def vGo : Nat → Nat → List Nat → Option (Nat × List Nat)
  | v, b, [] => if b &&& 64 = 0 then some (v, []) else none
  | v, b, c :: r => if b &&& 64 = 0 then some (v, c :: r) else vGo (v * 64 ||| c &&& 63) c r
noncomputable def vParse : List Nat → Option (Nat × List Nat)
  | [] => none
  | b :: r => vGo (b &&& 63) b r
theorem or_ge (a b : Nat) : a ≤ a ||| b := Nat.left_le_or
theorem vGo_ge : ∀ (r : List Nat) (v b u : Nat) (r' : List Nat), vGo v b r = some (u, r') → v ≤ u
  | [], v, b, u, r', h => by
    unfold vGo at h; split at h
    · cases h; exact Nat.le_refl _
    · cases h
  | c :: r, v, b, u, r', h => by
    unfold vGo at h; split at h
    · cases h; exact Nat.le_refl _
    · have := vGo_ge r _ _ _ _ h
      have := or_ge (v * 64) (c &&& 63)
      lia
theorem bitAnd_nat (a b : Nat) : Builtin.bitAnd (a : Int) (b : Int) = ((a &&& b : Nat) : Int) := by
  unfold Builtin.bitAnd
  simp
theorem bitOr_nat (a b : Nat) : Builtin.bitOr (a : Int) (b : Int) = ((a ||| b : Nat) : Int) := by
  unfold Builtin.bitOr Builtin.bitAnd Builtin.bitNot
  have h1 : decide (0 ≤ -(a : Int) - 1) = false := by simp; lia
  have h2 : decide (0 ≤ -(b : Int) - 1) = false := by simp; lia
  rw [h1, h2]
  have e1 : (-(-(a : Int) - 1) - 1).toNat = a := by lia
  have e2 : (-(-(b : Int) - 1) - 1).toNat = b := by lia
  simp only [e1, e2]
  lia

section
variable {f : Fx} {Y : List Addr} {σ : Sg}
theorem ex1_run {st : Stmt} {τ : Sg} {s : Shared} (h : Ex1 f [] σ st fun r Y' σ' => r = .next ∧ Y' = [] ∧ Has σ' τ) (S : St f [] σ s) : wpAny f.M f.A (exec st f.env) (fun fl s' => fl = .next ∧ St f [] τ s' ∧ Mv (own f.env []) s s') NoE s :=
  wNoE (h s S) fun fl s' hR => by
    obtain ⟨r, Y', σ', hr, S', p, _, rfl, rfl, H⟩ := hR
    cases hr
    exact ⟨rfl, S'.forget H, p⟩
/-! one object apart is turned -/
theorem St.one {s s' : Shared} {I : Addr} (S : St f Y σ s) (p : Mv [I] s s') (n : ∃ o, s.heap.get? I = some o ∧ ¬ isSeqObj o) (n0 : f.h₀.get? I = none) (nL : I ∉ own f.env Y) (nX : I ∉ Y ++ f.X₀) : St f Y σ s' := by
  obtain ⟨o, ho, hn⟩ := n
  refine S.turn p (fun a m o' e => by rw [List.mem_singleton.mp m, ho] at e; cases e; exact hn) (fun a m => by rw [List.mem_singleton.mp m]; exact n0) (fun m => nL (List.mem_singleton.mp m ▸ own_loc)) (fun x c e m => nL (by
    rw [← List.mem_singleton.mp m]
    exact List.mem_cons_of_mem _ (List.mem_append_left _ (List.mem_map.mpr ⟨(x, c), e, rfl⟩)))) (fun a m => by rw [List.mem_singleton.mp m]; exact nX)

/-! a call of a def, told of its frame -/
theorem call_def {i : Nat} {ds : List D} {name : Str} {params : Arguments} {body : List Stmt} {scope : Scope} {pos : Pos} (hfn : fn i = ⟨name, params, body, scope, pos⟩) (ps : List Str) (hlen : ps.length = ds.length)
    (hb : ∀ pm cd doc (vs : List Value), vs.length = ps.length → bindArgs (docDef name params body scope pm cd doc) ⟨vs, []⟩ = pure (ps.zip vs))
    (hps : ps.Nodup) (hk : (ps.all fun y => scope.names.lookup y == some .local) = true) (hcell : (scope.names.all fun x => !(x.2 == .cell)) = true)
    (hco : scope.isCoroutine = false) (hgen : scope.isGenerator = false) (hkf : scope.kind = .function) (hkn : 1 ≤ f.n) {a : Addr} {o : Obj} {pm cd doc : Value} (ho : f.h₀.get? a = some o)
    (hdat : o.data = .func (docDef (fn i).name (fn i).params (fn i).body (fn i).scope pm cd doc)) (hcd : f.h₀.CodeRec cd (fn i).name) {X : List Addr} {s : Shared} {vs : List Value} (S : Ok f X s) (hbare : ∀ y ∈ s.gens, y.bare = true) (hr : Reps X s.heap ds vs)
    {Q : Value → Shared → Prop} (h : ∀ (L : Addr) s', s.heap.get? L = none → St (dfx f X (envOfC name scope L a cd) hkn) [] (zipS ps ds) s' → Mv [] s s' → (envOfC name scope L a cd).cells = [] →
      wpAny f.M (dfx f X (envOfC name scope L a cd) hkn).A (execs body (envOfC name scope L a cd)) (fun fl s'' => ∃ v, fl = .ret v ∧ Q v s'') NoE s') : wpAny f.M f.A (call (.ref a) vs) Q NoE s := by
  rw [hfn] at hdat hcd
  simp only at hdat hcd
  have hvl : vs.length = ps.length := by rw [hr.length, hlen]
  have hza : ∀ x ∈ ps.zip vs, x.1 ∈ ps := fun x hx => (List.of_mem_zip hx).1
  have hzm : (ps.zip vs).map (·.1) = ps := by rw [List.map_fst_zip]; lia
  have hcells : ∀ (n : Nat) (acc : List (Str × Addr)), cellsFrom n scope.names acc = acc := by
    intro n acc
    have : ∀ (names : List (Str × NameKind)) (n : Nat) (acc : List (Str × Addr)), (names.all fun x => !(x.2 == .cell)) = true → cellsFrom n names acc = acc := by
      intro names
      induction names with
      | nil => intros; rfl
      | cons x r ih =>
        intro n acc h
        obtain ⟨x1, x2⟩ := x
        simp only [List.all_cons, Bool.and_eq_true, Bool.not_eq_true'] at h
        unfold cellsFrom
        rw [h.1]
        exact ih _ _ h.2
    exact this _ _ _ hcell
  have hk' : (ps.all fun y => scope.names.lookup y == some .local || scope.names.lookup y == some .cell) = true := by
    rw [List.all_eq_true] at hk ⊢
    intro x hx; rw [hk x hx]; rfl
  refine wpAny_call (call_cells_ret (by have := f.dep; lia) (S.base _ _ ho) hdat S.nolimit (hcd.keeps S.base) (hb pm cd doc vs hvl) (fun x hx => kindsX (scope := scope) (binds := ps.zip vs) (List.all_eq_true.mpr fun y hy => List.all_eq_true.mp hk' y.1 (hza y hy)) _ x hx) (fun h₁ tk F Xc => ?_) hco hgen hkf)
  have sN : s.heap.get? s.heap.objs.size = none := fresh_none _
  have p1 : Mv [] s { s with heap := h₁, toks := tk } := .heap (.of_all F.keep)
  have hce : (envOfC name scope s.heap.objs.size a cd).cells = [] := hcells _ _
  have St1 : St (dfx f X (envOfC name scope s.heap.objs.size a cd) hkn) [] (zipS ps ds) { s with heap := h₁, toks := tk } := by
    refine ⟨⟨(S.step p1).base, (S.step p1).xs⟩, fun b hb => ?_, ⟨hkf, ⟨_, F.ns⟩, fun x c hm => (by rw [show (dfx f X (envOfC name scope s.heap.objs.size a cd) hkn).env.cells = [] from hce] at hm; cases hm), fun x y c ex ey => (by rw [show (dfx f X (envOfC name scope s.heap.objs.size a cd) hkn).env.cells = [] from hce] at ex; simp at ex), rfl, rfl⟩, hbare, (fun _ m => nomatch m), fun x d' e => ?_⟩
    · show f.h₀.get? b = none
      have hbL : b = s.heap.objs.size := by
        rcases List.mem_cons.mp hb with q | m
        · exact q
        · rw [show (dfx f X (envOfC name scope s.heap.objs.size a cd) hkn).env.cells = [] from hce] at m; simp at m
      cases e : f.h₀.get? b with
      | none => rfl
      | some o => have := S.base b o e; rw [hbL, sN] at this; cases this
    · obtain ⟨d2, v, rfl, hv, hR⟩ := zip_lookup hr e
      refine ⟨v, ?_, Rep.keep p1.keep hR⟩
      have hx : x ∈ ps := hza _ (mem_of_lookup hv)
      have nz : ((ps.zip vs).map (·.1)).Nodup := by rw [hzm]; exact hps
      have hkx := List.all_eq_true.mp hk x hx
      simp only [beq_iff_eq] at hkx
      exact .inl ⟨hkx, _, F.ns, bindL_mem hkx nz hv⟩
  exact wNoE (h _ _ sN St1 p1 hce) fun fl s' ⟨v, e, q⟩ => by subst e; exact q

theorem evNext {I ax : Addr} {ns : List Nat} {j n : Nat} {x y : Str} {np np' pos : Pos} {s : Shared} (S : St f Y σ s) (h : Itr I ax ns j s) (hn : ns[j]? = some n) (hy : σ.lookup y = some (.im (.raw (.ref I)))) (hx : x = ("next" : Str) := by rfl) (hk : f.env.kindOf x = some .globalImplicit := by rfl)
    (he : starEach [.Name y np'] f.env = [(false, eval (.Name y np') f.env)] := by rfl) (hd : (y == ("__debug__" : Str)) = false := by decide) (hc : (y == ("__classdict__" : Str)) = false := by decide) :
    wpAny f.M f.A (eval (.Call (.Name x np) [.Name y np'] [] pos) f.env) (fun r s' => (∃ t, r = .int (n : Nat) t) ∧ Itr I ax ns (j + 1) s' ∧ Mv [I] s s') NoE s := by
  subst hx
  refine Call_ (blt_name S (by decide) (v := .builtin "next") (by decide +kernel) hk (callWith_builtin1 (args_cons (wNoE (Ev.name hy hd hc s S) fun v s1 h1 => args_nil ?_) he) he) (by decide))
  obtain ⟨p, rfl⟩ := h1
  exact wNoE (call_next (h.keep (fun o e => p.keep.all _ _ e) fun o e => p.keep.all _ _ e) hn) fun r s2 ⟨a, b, c⟩ => ⟨a, b, p.wide.trans c⟩
/-! b = next(iterator) -/
theorem runNext {I ax : Addr} {ns : List Nat} {j n : Nat} {b x y : Str} {np bp np' cp pos : Pos} {s : Shared} (S : St f [] σ s) (h : Itr I ax ns j s) (hn : ns[j]? = some n) (hy : σ.lookup y = some (.im (.raw (.ref I)))) (n0 : f.h₀.get? I = none) (nL : I ∉ own f.env []) (nX : I ∉ [] ++ f.X₀) (nA : ax ∉ [] ++ f.X₀)
    (hp : Put f.env b := by first | exact .inl rfl | exact .inr ⟨rfl, rfl⟩) (hx : x = ("next" : Str) := by rfl) (hk : f.env.kindOf x = some .globalImplicit := by rfl)
    (he : starEach [.Name y np'] f.env = [(false, eval (.Name y np') f.env)] := by rfl) (hd : (y == ("__debug__" : Str)) = false := by decide) (hc : (y == ("__classdict__" : Str)) = false := by decide) (hs : swapsWith (.Call (.Name x np) [.Name y np'] [] cp) (some (.Name b bp)) pos.line f.env = pure false := by rfl) :
    wpAny f.M f.A (exec (.Assign [.Name b bp] (.Call (.Name x np) [.Name y np'] [] cp) pos) f.env) (fun fl s' => fl = .next ∧ St f [] ((b, .im (.int (n : Nat))) :: σ) s' ∧ Itr I ax ns (j + 1) s' ∧ Mv (I :: own f.env []) s s') NoE s := by
  refine wpAny_Assign_Name (wNoE (evNext S h hn hy hx hk he hd hc) fun v s1 h1 => ?_) hs
  obtain ⟨⟨t, rfl⟩, hi, p1⟩ := h1
  have S1 := S.one p1 h.nons n0 nL nX
  refine store (d := .im (.int (n : Nat))) S1 hp ⟨t, rfl⟩ fun s2 S2 p2 => ⟨rfl, S2, hi.keep (fun o e => p2.keep I o nL e) (fun o e => ?_), (p1.mono (fun a m => by rw [List.mem_singleton.mp m]; simp) (fun _ m => m)).trans (p2.mono (fun a m => List.mem_cons_of_mem _ m) (fun _ m => m))⟩
  obtain ⟨vs, ⟨o', ho', hc', n', hd'⟩, _⟩ := hi.ls
  have : s2.heap.get? ax = some o' := own_seq S1 p2.keep ax o' (.inl nA) ⟨_, _, hd'⟩ ho'
  rw [ho'] at e; cases e; exact this
theorem Itr.after {I ax : Addr} {ns : List Nat} {j : Nat} {s s' : Shared} (h : Itr I ax ns j s) (S : St f Y σ s) (p : Mv (own f.env Y) s s') (nL : I ∉ own f.env Y) (nA : ax ∉ Y ++ f.X₀) : Itr I ax ns j s' := h.keep (fun o e => p.keep I o nL e) fun o e => by
  obtain ⟨vs, ⟨o', ho', hc', n', hd'⟩, _⟩ := h.ls
  have : s'.heap.get? ax = some o' := own_seq S p.keep ax o' (.inl nA) ⟨_, _, hd'⟩ ho'
  rw [ho'] at e; cases e; exact this
end
end Mine

namespace Mine
open PySem PySem.Calls PyProof.Rows PySem.W

theorem drop_cons {α : Type} {l : List α} {j : Nat} {c : α} {r : List α} (h : l.drop j = c :: r) : l[j]? = some c ∧ l.drop (j + 1) = r := by
  refine ⟨?_, ?_⟩
  · have : (l.drop j)[0]? = some c := by rw [h]; rfl
    simpa using this
  · rw [← List.drop_drop, h]; rfl
theorem ev_run {f : Fx} {Y : List Addr} {σ : Sg} {e : Expr} {d : D} {s : Shared} (S : St f Y σ s) (h : Ev f Y σ e d) : wpAny f.M f.A (eval e f.env) (fun v s' => Mv [] s s' ∧ Rep (Y ++ f.X₀) s'.heap d v) NoE s := h s S
theorem call_parse {f : Fx} (hkn : 1 ≤ f.n) {a : Addr} {o : Obj} {pm cd doc : Value} (ho : f.h₀.get? a = some o) (hdat : o.data = .func (docDef (fn 3).name (fn 3).params (fn 3).body (fn 3).scope pm cd doc)) (hcd : f.h₀.CodeRec cd (fn 3).name)
    {X : List Addr} {s : Shared} (S : Ok f X s) (hbare : ∀ y ∈ s.gens, y.bare = true) {I ax : Addr} {ns : List Nat} {j v : Nat} {r' : List Nat} (h : Itr I ax ns j s) (n0 : f.h₀.get? I = none) (nX : I ∉ X) (nA : ax ∉ X) (hp : vParse (ns.drop j) = some (v, r')) (hv : v < 2 ^ 50) :
    wpAny f.M f.A (call (.ref a) [.ref I]) (fun r s' => (∃ t, r = .int (v : Nat) t) ∧ (∃ j', ns.drop j' = r' ∧ Itr I ax ns j' s') ∧ Mv [I] s s') NoE s := by
  refine call_def (i := 3) rfl ["iterator"] (ds := [.raw (.ref I)]) rfl (fun pm cd doc vs hv => ?_) ?_ ?_ ?_ ?_ ?_ ?_ hkn ho hdat hcd S hbare (.cons rfl .nil) fun L s1 nL0 S1 p1 hce => ?_
  · obtain ⟨v, rfl⟩ := List.length_eq_one_iff.mp hv
    rfl
  · decide
  · rfl
  · rfl
  · rfl
  · rfl
  · rfl
  have hI0 := h.it
  have nL : I ∉ own (dfx f X (envOfC (fn 3).name (fn 3).scope L a cd) hkn).env [] := fun m => by
    rcases List.mem_cons.mp m with q | m
    · obtain ⟨o', ho', _⟩ := hI0
      rw [show L = I from q.symm, ho'] at nL0; cases nL0
    · rw [show (dfx f X (envOfC (fn 3).name (fn 3).scope L a cd) hkn).env.cells = [] from hce] at m; simp at m
  have h1 : Itr I ax ns j s1 := h.keep (fun o e => p1.keep.all _ _ e) fun o e => p1.keep.all _ _ e
  have nXf : I ∉ [] ++ (dfx f X (envOfC (fn 3).name (fn 3).scope L a cd) hkn).X₀ := by simpa using nX
  have nAf : ax ∉ [] ++ (dfx f X (envOfC (fn 3).name (fn 3).scope L a cd) hkn).X₀ := by simpa using nA
  cases hd : ns.drop j with
  | nil => rw [hd] at hp; cases hp
  | cons b r =>
    rw [hd] at hp
    obtain ⟨hj, hd1⟩ := drop_cons hd
    refine wpAny_execs_cons (wNoE (runNext (f := dfx f X (envOfC (fn 3).name (fn 3).scope L a cd) hkn) S1 h1 hj rfl n0 nL nXf nAf) fun fl s2 h2 => ?_)
    obtain ⟨rfl, S2, i2, p2⟩ := h2
    refine wpAny_execs_cons (wNoE (ex1_run (τ := [("iterator", .im (.raw (.ref I))), ("val", .im (.int (b &&& 63 : Nat))), ("b", .im (.int (b : Nat)))]) (Ex1.assign ((Ev.bin (Ev.name rfl) Ev.cInt Bin.and).eq (congrArg D.int (bitAnd_nat b 63))) ⟨rfl, rfl, .cons (.cons (.cons .nil))⟩) S2) fun fl s3 h3 => ?_)
    obtain ⟨rfl, S3, p3⟩ := h3
    have i3 := i2.after S2 p3 nL nAf
    refine wpAny_execs_cons (wNoE (Q := fun fl s' => fl = .next ∧ St (dfx f X (envOfC (fn 3).name (fn 3).scope L a cd) hkn) [] [("val", .im (.int (v : Nat)))] s' ∧ (∃ j', ns.drop j' = r' ∧ Itr I ax ns j' s') ∧ Mv (I :: own (dfx f X (envOfC (fn 3).name (fn 3).scope L a cd) hkn).env []) s1 s') ?_ fun fl s4 h4 => ?_)
    · refine wpAny_While ?_
      refine codeAny_whileLoop (fun m s' => ∃ j' u c rest, ns.drop j' = rest ∧ m = rest.length ∧ vGo u c rest = some (v, r') ∧ St (dfx f X (envOfC (fn 3).name (fn 3).scope L a cd) hkn) [] [("iterator", .im (.raw (.ref I))), ("val", .im (.int (u : Nat))), ("b", .im (.int (c : Nat)))] s' ∧ Itr I ax ns j' s' ∧ Mv (I :: own (dfx f X (envOfC (fn 3).name (fn 3).scope L a cd) hkn).env []) s1 s') ?_ r.length
        ⟨j + 1, b &&& 63, b, r, hd1, rfl, hp, S3, i3, p2.trans (p3.mono (fun a m => List.mem_cons_of_mem _ m) (fun _ m => m))⟩
      rintro m s5 ⟨j', u, c, rest, hr, rfl, hg, S5, i5, p5⟩
      refine wNoE (Tt.plain (f := dfx f X (envOfC (fn 3).name (fn 3).scope L a cd) hkn) (b := ((c &&& 64 : Nat) : Int) != 0) ((Ev.bin (Ev.name rfl) Ev.cInt Bin.and).eq (congrArg D.int (bitAnd_nat c 64))) Truth.int rfl s5 S5) fun tt s6 h6 => ?_
      obtain ⟨p6, rfl⟩ := h6
      have S6 := S5.step p6
      have i6 := i5.keep (fun o e => p6.keep.all _ _ e) (fun o e => p6.keep.all _ _ e)
      have p56 := p5.trans (p6.wide (W := I :: own (dfx f X (envOfC (fn 3).name (fn 3).scope L a cd) hkn).env []))
      have hbit : (((c &&& 64 : Nat) : Int) != 0) = !decide (c &&& 64 = 0) := by
        rw [show (0 : Int) = ((0 : Nat) : Int) from rfl, neN]
        by_cases q : c &&& 64 = 0 <;> simp [q]
      rw [hbit]
      by_cases q : c &&& 64 = 0
      · rw [decide_eq_true q]
        have hg' : u = v ∧ rest = r' := by
          cases rest with
          | nil => unfold vGo at hg; rw [if_pos q] at hg; cases hg; exact ⟨rfl, rfl⟩
          | cons c' r2 => unfold vGo at hg; rw [if_pos q] at hg; cases hg; exact ⟨rfl, rfl⟩
        obtain ⟨rfl, rfl⟩ := hg'
        exact wpAny_execs_nil ⟨rfl, S6.forget (show Has _ [("val", .im (.int (u : Nat)))] from .cons .nil), ⟨j', hr, i6⟩, p56⟩
      · rw [decide_eq_false q]
        cases rest with
        | nil => unfold vGo at hg; rw [if_neg q] at hg; cases hg
        | cons c' r2 =>
          unfold vGo at hg; rw [if_neg q] at hg
          obtain ⟨hj', hd'⟩ := drop_cons hr
          have hu := vGo_ge _ _ _ _ _ hg
          have hu2 := or_ge (u * 64) (c' &&& 63)
          show wpAny _ _ (execs _ _) _ _ _
          refine wpAny_execs_cons (wNoE (ex1_run (f := dfx f X (envOfC (fn 3).name (fn 3).scope L a cd) hkn) (τ := [("iterator", .im (.raw (.ref I))), ("val", .im (.int (u * 64 : Nat)))]) (Ex1.aug rfl Ev.cInt (Bin.ishl (by decide) (by decide) (by omega)) ⟨rfl, rfl, .cons (.cons .nil ?_)⟩) S6) fun fl s7 h7 => ?_)
          · show some (VD.im (D.int ((u : Int) * 2 ^ (6 : Int).toNat))) = some (VD.im (D.int _))
            rw [show (2 : Int) ^ (6 : Int).toNat = 64 from rfl]; push_cast; rfl
          obtain ⟨rfl, S7, p7⟩ := h7
          have i7 := i6.after S6 p7 nL nAf
          refine wpAny_execs_cons (wNoE (runNext (f := dfx f X (envOfC (fn 3).name (fn 3).scope L a cd) hkn) S7 i7 hj' rfl n0 nL nXf nAf) fun fl s8 h8 => ?_)
          obtain ⟨rfl, S8, i8, p8⟩ := h8
          refine wpAny_execs_cons (wNoE (ex1_run (f := dfx f X (envOfC (fn 3).name (fn 3).scope L a cd) hkn) (τ := [("iterator", .im (.raw (.ref I))), ("val", .im (.int (u * 64 ||| c' &&& 63 : Nat))), ("b", .im (.int (c' : Nat)))]) (Ex1.aug rfl ((Ev.bin (Ev.name rfl) Ev.cInt Bin.and).eq (congrArg D.int (bitAnd_nat c' 63))) Bin.ior ⟨rfl, rfl, .cons (.cons (.cons .nil) ?_)⟩) S8) fun fl s9 h9 => ?_)
          · show some (VD.im (D.int (Builtin.bitOr ((u * 64 : Nat) : Int) ((c' &&& 63 : Nat) : Int)))) = some (VD.im (D.int _))
            rw [bitOr_nat]
          obtain ⟨rfl, S9, p9⟩ := h9
          refine wpAny_execs_nil ⟨r2.length, by simp, j' + 1, _, c', r2, hd', rfl, hg, S9, i8.after S8 p9 nL nAf, ?_⟩
          exact ((p56.trans (p7.mono (fun a m => List.mem_cons_of_mem _ m) (fun _ m => m))).trans p8).trans (p9.mono (fun a m => List.mem_cons_of_mem _ m) (fun _ m => m))
    · obtain ⟨rfl, S4, ⟨j', hj', i4⟩, p4⟩ := h4
      refine wpAny_execs_cons (wpAny_Return_some (wNoE (ev_run (d := .int (v : Nat)) S4 (Ev.name rfl)) fun u s5 h5 => ?_))
      obtain ⟨p5, t, rfl⟩ := h5
      refine ⟨_, rfl, ⟨t, rfl⟩, ⟨j', hj', i4.keep (fun o e => p5.keep.all _ _ e) fun o e => p5.keep.all _ _ e⟩, ?_⟩
      refine (p1.wide (W := [I])).since (H := []) (p4.trans p5.wide) (fun x m => ?_) (fun _ m => nomatch m)
      rcases List.mem_cons.mp m with rfl | m
      · exact .inl (by simp)
      · rcases List.mem_cons.mp m with q | m
        · exact .inr (by rw [show x = L from q]; exact nL0)
        · rw [show (dfx f X (envOfC (fn 3).name (fn 3).scope L a cd) hkn).env.cells = [] from hce] at m; simp at m
end Mine

namespace Mine
open PySem PySem.Calls PyProof.Rows PySem.W

/-! _law_table -/
noncomputable def mkN (n : Nat) : Nat := if n % 262144 = 116521 then n / 262144 else n / 64
noncomputable def namesN (marks : List Nat) : List Nat := ((List.range marks.length).filter fun q => !(marks.take q).any (· == marks.getD q 0)).map fun q => marks.getD q 0
noncomputable def posN (marks : List Nat) (x : Nat) : List Nat := (List.range marks.length).filter fun q => marks.getD q 0 == x
noncomputable def txt (texts : List (List Nat)) (q : Nat) : List Nat := texts.getD q []
noncomputable def shownN (marks : List Nat) (texts : List (List Nat)) (x y q : Nat) : List Nat := if marks.getD q 0 = x ∨ marks.getD q 0 = y then txt texts q else hideL (txt texts q)
noncomputable def spanN (marks : List Nat) (texts : List (List Nat)) (x y a b : Nat) : List (List Nat) := (List.range (b + 1 - a)).map fun i => shownN marks texts x y (a + i)
noncomputable def trio (s t : List Nat) : List Nat := (s ++ t) ++ t ++ s ++ (s ++ t)
structure TabOk (read : List Nat) (texts : List (List Nat)) (N : Nat) (a b : Nat → Nat) (c : Nat → Nat → Bool) : Prop where
  len : read.length = texts.length
  le : read.length ≤ 20
  nam : (namesN (read.map mkN)).length = N
  pos : ∀ k, k < N → posN (read.map mkN) ((namesN (read.map mkN)).getD k 0) = [a k, b k]
  ab : ∀ k, k < N → a k < b k ∧ b k < read.length
  tl : ∀ q, q < read.length → txt texts q ≠ [] ∧ (txt texts q).length ≤ 10
  c1 : ∀ k, k < N → Spec 10 2 [.str (tx (trio (txt texts (a k)) (txt texts (b k))))] (.bool false)
  c2 : ∀ k j, k < N → j < N → Spec 10 2 [.str (tx (spanN (read.map mkN) texts ((namesN (read.map mkN)).getD k 0) ((namesN (read.map mkN)).getD j 0) (a k) (b k)).flatten)] (.bool (c k j))
  ck : ∀ k, k < N → c k k = true
noncomputable def rowStep (c : Nat → Nat → Bool) (k r j : Nat) : Nat := if c k j = false then r + 2 ^ j else r
noncomputable def row0 (read : List Nat) (b : Nat → Nat) (k : Nat) : Nat := if read.getD (b k) 0 % 262144 = 116521 then 2 ^ k else 0
noncomputable def rowN (read : List Nat) (N : Nat) (b : Nat → Nat) (c : Nat → Nat → Bool) (k : Nat) : Nat := (List.range N).foldl (rowStep c k) (row0 read b k)
theorem join_tx : ∀ ls : List (List Nat), Txt.join (tx []) (ls.map tx) = tx ls.flatten := by
  intro ls
  show Builtin.Str.glued (tx []) (ls.map tx) = _
  have key : ∀ (l : List (List Nat)) (acc : List Nat), (l.map tx).foldl (fun acc p => acc ++ (tx []).cps ++ p.cps) acc.toArray = (acc ++ l.flatten).toArray := by
    intro l
    induction l with
    | nil => intro acc; simp
    | cons x r ih =>
      intro acc
      rw [List.map_cons, List.foldl_cons]
      have : acc.toArray ++ (tx []).cps ++ (tx x).cps = (acc ++ x).toArray := by simp [tx]
      rw [this, ih]; simp
  unfold Builtin.Str.glued
  cases ls with
  | nil => rfl
  | cons x r =>
    show Str.mk ((r.map tx).foldl _ (tx x).cps) = _
    have := key r x
    rw [show (tx x).cps = x.toArray from rfl, this]; rfl
theorem fmodN (a b : Nat) : ((a : Int).fmod b) = ((a % b : Nat) : Int) := by rw [Int.fmod_eq_emod_of_nonneg _ (by lia)]; push_cast; rfl
theorem fdivN (a b : Nat) : ((a : Int).fdiv b) = ((a / b : Nat) : Int) := by rw [Int.fdiv_eq_ediv_of_nonneg _ (by lia)]; push_cast; rfl
theorem dS_get {l : List (List Nat)} {i : Nat} (h : i < l.length) : (dS (l.map tx))[i]? = some (.str (tx (txt l i))) := by simp [dS, txt, h]
set_option maxHeartbeats 4000000 in
theorem spec_table {read : List Nat} {texts : List (List Nat)} {N : Nat} {a b : Nat → Nat} {c : Nat → Nat → Bool} (T : TabOk read texts N a b c) :
    Spec 11 9 [.lst (dN read), .lst (dS (texts.map tx))] (.lst (dN ((List.range N).map (rowN read N b c)))) := by
  have hzl : 100000 ≤ sizeLine := by decide
  refine Spec.of (k := 10) rfl ["read", "texts"] rfl (fun pm cd doc vs hv => ?_) ?_ ?_ ?_ ?_ ?_ ?_ ?_
  · match vs, hv with
    | [v, u], _ => rfl
  · decide
  · rfl
  · decide
  · rfl
  · rfl
  · rfl
  · intro f X L a' cd hn hk
    have hle := T.le
    have hlen := T.len
    have hml : (read.map mkN).length = read.length := by simp
    refine Ex.cons (Ex1.assign (Ev.eq (d' := .lst (dN (read.map mkN))) (Ev.compN (rows := read) (k := fun (n : Nat) => D.int (n : Int)) (σ₁ := []) (fun _ => true) (fun n => .int (mkN n : Nat)) (IterOf.list (Ev.name rfl)) (.of .nil tgW) (fun C _ n hnn => ⟨_, rfl, .nil, fun _ => ?_⟩) (by lia)) (by rw [filter_tt]; simp [dN])) ?_)
    · refine Ev.ifexp (c := decide (n % 262144 = 116521)) ((Tt.cmp (Ev.bin (Ev.name rfl) Ev.cInt (Bin.mod (by decide))) Ev.cInt Bin.eqI).eq ?_) (fun h => (Ev.bin (Ev.name rfl) Ev.cInt (Bin.div (by decide) (by decide))).eq ?_) fun h => (Ev.bin (Ev.name rfl) Ev.cInt (Bin.div (by decide) (by decide))).eq ?_
      · rw [show ((n : Int).fmod 262144) = ((n % 262144 : Nat) : Int) from fmodN n 262144, show (116521 : Int) = ((116521 : Nat) : Int) from rfl, eqN]; rfl
      · have h : n % 262144 = 116521 := by simpa using h
        rw [mkN, if_pos h, show ((n : Int).fdiv 262144) = ((n / 262144 : Nat) : Int) from fdivN n 262144]
      · have h : ¬ n % 262144 = 116521 := by simpa using h
        rw [mkN, if_neg h, show ((n : Int).fdiv 64) = ((n / 64 : Nat) : Int) from fdivN n 64]
    have hnam := T.nam
    have hpos := T.pos
    have hc2 := T.c2
    generalize hM : read.map mkN = M at hml hnam hpos hc2 ⊢
    have hMlen : (dN M).length = read.length := by rw [dN_len, hml]
    refine Ex.cons (Ex1.assign (Ev.eq (d' := .lst (dN (namesN M))) (Ev.compN (rows := List.range M.length) (k := fun (n : Nat) => D.int (n : Int)) (σ₁ := [("marks", .im (.lst (dN M)))]) (fun q => !(M.take q).any (· == M.getD q 0)) (fun q => .int (M.getD q 0 : Nat)) (IterOf.rangeN ((Ev.callB (by decide +kernel) (Evs.cons (Ev.name rfl) .nil) (CallOf.lenL (by rw [hMlen]; lia))).eq (congrArg D.int (by rw [dN_len])))) (.of (.add .nil) tgW) (fun C _ q hq => ⟨_, rfl, Tests.one (Tt.eq (Tt.cmp (Ev.sub (Ev.name rfl) (Ev.name rfl) (Sub.list (dN_get (by simpa using hq)) ?_)) (Ev.eq (d' := .lst (dI ((M.take q).map fun (n : Nat) => (n : Int)))) (Ev.slice (Ev.name rfl) .none (.some (Ev.name rfl)) (SliceOf.upto (by rw [hMlen]; lia))) ?_) Bin.notInInts) ?_), fun _ => Ev.sub (Ev.name rfl) (Ev.name rfl) (Sub.list (dN_get (by simpa using hq)) ?_)⟩) (by simp; lia)) (by simp [dN, namesN])) ?_)
    · have := List.mem_range.mp hq; lia
    · refine congrArg D.lst ?_
      rw [← dN_eq]; simp [dN, List.map_take]
    · rw [List.any_map]
      congr 2; funext x; exact eqN x _
    · have := List.mem_range.mp hq; lia
    have hnl : (dN (namesN M)).length = N := by rw [dN_len, hnam]
    have hNle : N ≤ 20 := by
      rw [← hnam]; unfold namesN
      rw [List.length_map]
      exact Nat.le_trans (List.length_filter_le _ _) (by simp; lia)
    refine Ex.cons (Ex1.newMut fun rb => ?_)
    refine Ex.cons (Ex1.forN (rows := List.range N) (g := fun (k : Nat) => D.int (k : Int)) (IterOf.rangeN ((Ev.callB (by decide +kernel) (Evs.cons (Ev.name rfl) .nil) (CallOf.lenL (by rw [hnl]; lia))).eq (congrArg D.int (by rw [hnl])))) (fun p σ' => p.length ≤ N ∧ Has σ' [("read", .im (.lst (dN read))), ("texts", .im (.lst (dS (texts.map tx)))), ("marks", .im (.lst (dN M))), ("names", .im (.lst (dN (namesN M)))), ("rows", .mut rb (dN (p.map (rowN read N b c))))])
      ⟨Nat.zero_le _, .cons (.cons (.cons (.cons (.cons .nil))))⟩ ?_ ?_ (.inr ⟨rfl, rfl⟩))
    · rintro p k q σ' e1 ⟨hpl, H⟩
      have hplen : p.length + 1 ≤ N := by
        have := congrArg List.length e1; simp at this; lia
      have hkN : k < N := List.mem_range.mp (by rw [e1]; simp)
      obtain ⟨hab, hbl⟩ := T.ab k hkN
      have hnk : k < (namesN M).length := by lia
      refine ⟨_, rfl, Ex.has (τ := ("k", .im (.int (k : Nat))) :: [("read", .im (.lst (dN read))), ("texts", .im (.lst (dS (texts.map tx)))), ("marks", .im (.lst (dN M))), ("names", .im (.lst (dN (namesN M)))), ("rows", .mut rb (dN (p.map (rowN read N b c))))]) ?_ (.cons (.cons (.cons (.cons (.cons (.cons .nil (H _ _ rfl)) (H _ _ rfl)) (H _ _ rfl)) (H _ _ rfl)) (H _ _ rfl)))⟩
      refine Ex.cons (Ex1.unpackL (l := [.int (a k : Nat), .int (b k : Nat)]) (Ev.eq (Ev.compN (rows := List.range M.length) (k := fun (n : Nat) => D.int (n : Int)) (σ₁ := [("k", .im (.int (k : Nat))), ("names", .im (.lst (dN (namesN M)))), ("marks", .im (.lst (dN M)))]) (fun q => M.getD q 0 == (namesN M).getD k 0) (fun (q : Nat) => .int (q : Int)) (IterOf.rangeN ((Ev.callB (by decide +kernel) (Evs.cons (Ev.name rfl) .nil) (CallOf.lenL (by rw [hMlen]; lia))).eq (congrArg D.int (by rw [dN_len])))) (.of (.add (.add (.add .nil))) tgW) (fun C _ q hq => ⟨_, rfl, Tests.one (Tt.eq (Tt.cmp (Ev.sub (Ev.name rfl) (Ev.name rfl) (Sub.list (dN_get (by simpa using hq)) ?_)) (Ev.sub (Ev.name rfl) (Ev.name rfl) (Sub.list (dN_get hnk) (by lia))) Bin.eqI) (eqN _ _)), fun _ => Ev.name rfl⟩) (by simp; lia)) ?_) rfl tgtOk_all ?_)
      · have := List.mem_range.mp hq; lia
      · refine congrArg D.lst ?_
        have := hpos k hkN
        unfold posN at this
        rw [this]; rfl
      refine Ex.cons (Ex1.assign Ev.cInt ?_)
      have hak : a k < texts.length := by lia
      have hbk : b k < texts.length := by lia
      obtain ⟨ta0, tal⟩ := T.tl (a k) (by lia)
      obtain ⟨tb0, tbl⟩ := T.tl (b k) hbl
      refine Ex.consHas (("row", .im (.int (row0 read b k : Nat))) :: ("first", .im (.int (a k : Nat))) :: ("second", .im (.int (b k : Nat))) :: ("k", .im (.int (k : Nat))) :: [("read", .im (.lst (dN read))), ("texts", .im (.lst (dS (texts.map tx)))), ("marks", .im (.lst (dN M))), ("names", .im (.lst (dN (namesN M)))), ("rows", .mut rb (dN (p.map (rowN read N b c))))]) (Ex1.if_ (b := decide (read.getD (b k) 0 % 262144 = 116521)) ((Tt.cmp (Ev.bin (Ev.sub (Ev.name rfl) (Ev.name rfl) (Sub.list (dN_get hbl) (by lia))) Ev.cInt (Bin.mod (by decide))) Ev.cInt Bin.eqI).eq ?_) (fun hb => ?_) fun hb => ?_) ?_
      · rw [show (((read.getD (b k) 0 : Nat) : Int).fmod 262144) = ((read.getD (b k) 0 % 262144 : Nat) : Int) from fmodN _ 262144, show (116521 : Int) = ((116521 : Nat) : Int) from rfl, eqN]; rfl
      · have h : read.getD (b k) 0 % 262144 = 116521 := by simpa using hb
        refine Ex.cons (Ex1.assign (Ev.bin Ev.cInt (Ev.name rfl) (Bin.shl (by lia) (by lia) (by decide))) (Ex.nil ⟨rfl, rfl, .cons (.cons (.cons (.cons (.cons (.cons (.cons (.cons (.cons .nil)))))))) ?_⟩))
        show some (VD.im (D.int (1 * 2 ^ ((k : Nat) : Int).toNat))) = some (VD.im (D.int _))
        rw [row0, if_pos h]; push_cast; simp
      · have h : ¬ read.getD (b k) 0 % 262144 = 116521 := by simpa using hb
        refine Ex.nil ⟨rfl, rfl, .cons (.cons (.cons (.cons (.cons (.cons (.cons (.cons (.cons .nil)))))))) ?_⟩
        rw [row0, if_neg h]; rfl
      have hts : ∀ (l1 l2 : List Nat), D.str (tx l1 ++ tx l2) = D.str (tx (l1 ++ l2)) := fun l1 l2 => by rw [tx_append]
      refine Ex.cons (Ex1.assign (Ev.eq (Ev.bin (Ev.sub (Ev.name rfl) (Ev.name rfl) (Sub.list (dS_get hak) (by lia))) (Ev.sub (Ev.name rfl) (Ev.name rfl) (Sub.list (dS_get hbk) (by lia))) (Bin.addS (by rw [tx_len, tx_len]; lia))) (hts _ _)) ?_)
      refine Ex.consHas (("row", .im (.int (row0 read b k : Nat))) :: ("first", .im (.int (a k : Nat))) :: ("second", .im (.int (b k : Nat))) :: ("k", .im (.int (k : Nat))) :: [("read", .im (.lst (dN read))), ("texts", .im (.lst (dS (texts.map tx)))), ("marks", .im (.lst (dN M))), ("names", .im (.lst (dN (namesN M)))), ("rows", .mut rb (dN (p.map (rowN read N b c))))]) (Ex1.if_ (b := false) (Tt.cmp (Ev.callF (T.c1 k hkN) (Evs.cons (Ev.eq (Ev.bin (Ev.eq (Ev.bin (Ev.eq (Ev.bin (Ev.name rfl) (Ev.sub (Ev.name rfl) (Ev.name rfl) (Sub.list (dS_get hbk) (by lia))) (Bin.addS ?_)) (hts _ _)) (Ev.sub (Ev.name rfl) (Ev.name rfl) (Sub.list (dS_get hak) (by lia))) (Bin.addS ?_)) (hts _ _)) (Ev.name rfl) (Bin.addS ?_)) (hts _ _)) .nil) (by show 10 ≤ f.n - 1; lia) rfl (fn_mem 2 (by decide))) Ev.cBool Bin.isNotB) (fun hb => by cases hb) fun hb => ?_) ?_
      · rw [tx_len, tx_len, List.length_append]; lia
      · rw [tx_len, tx_len, List.length_append, List.length_append]; lia
      · rw [tx_len, tx_len, List.length_append, List.length_append, List.length_append]; lia
      · exact Ex.nil ⟨rfl, rfl, .cons (.cons (.cons (.cons (.cons (.cons (.cons (.cons (.cons .nil))))))))⟩
      refine Ex.consHas (("row", .im (.int (rowN read N b c k : Nat))) :: [("read", .im (.lst (dN read))), ("texts", .im (.lst (dS (texts.map tx)))), ("marks", .im (.lst (dN M))), ("names", .im (.lst (dN (namesN M)))), ("rows", .mut rb (dN (p.map (rowN read N b c))))]) ?_ ?_
      · refine Ex1.forN (rows := List.range N) (g := fun (k : Nat) => D.int (k : Int)) (IterOf.rangeN ((Ev.callB (by decide +kernel) (Evs.cons (Ev.name rfl) .nil) (CallOf.lenL (by rw [hnl]; lia))).eq (congrArg D.int (by rw [hnl])))) (fun p2 σ' => Has σ' (("row", .im (.int (p2.foldl (rowStep c k) (row0 read b k) : Nat))) :: ("first", .im (.int (a k : Nat))) :: ("second", .im (.int (b k : Nat))) :: ("k", .im (.int (k : Nat))) :: [("read", .im (.lst (dN read))), ("texts", .im (.lst (dS (texts.map tx)))), ("marks", .im (.lst (dN M))), ("names", .im (.lst (dN (namesN M)))), ("rows", .mut rb (dN (p.map (rowN read N b c))))]))
          (.cons (.cons (.cons (.cons (.cons (.cons (.cons (.cons (.cons .nil))))))))) ?_ ?_ (.inr ⟨rfl, rfl⟩)
        · rintro p2 j q2 σ' e2 H
          have hjN : j < N := List.mem_range.mp (by rw [e2]; simp)
          have hnj : j < (namesN M).length := by lia
          rw [List.foldl_append, List.foldl_cons, List.foldl_nil]
          generalize p2.foldl (rowStep c k) (row0 read b k) = rw0 at H ⊢
          refine ⟨_, rfl, Ex.has (τ := ("j", .im (.int (j : Nat))) :: ("row", .im (.int (rw0 : Nat))) :: ("first", .im (.int (a k : Nat))) :: ("second", .im (.int (b k : Nat))) :: ("k", .im (.int (k : Nat))) :: [("read", .im (.lst (dN read))), ("texts", .im (.lst (dS (texts.map tx)))), ("marks", .im (.lst (dN M))), ("names", .im (.lst (dN (namesN M)))), ("rows", .mut rb (dN (p.map (rowN read N b c))))]) ?_ (.cons (.cons (.cons (.cons (.cons (.cons (.cons (.cons (.cons (.cons .nil (H _ _ rfl)) (H _ _ rfl)) (H _ _ rfl)) (H _ _ rfl)) (H _ _ rfl)) (H _ _ rfl)) (H _ _ rfl)) (H _ _ rfl)) (H _ _ rfl)))⟩
          have hiter : dI (rangeInts (a k : Nat) 1 (((b k : Nat) : Int) + 1 - (a k : Nat)).toNat) = (List.range (b k + 1 - a k)).map fun i => D.int ((a k + i : Nat) : Int) := by
            have e : (((b k : Nat) : Int) + 1 - (a k : Nat)).toNat = b k + 1 - a k := by lia
            rw [e]; simp [dI, rangeInts]
          have hin : ∀ i ∈ List.range (b k + 1 - a k), a k + i < read.length := fun i hi => by have := List.mem_range.mp hi; lia
          refine Ex.cons (Ex1.compN (rows := List.range (b k + 1 - a k)) (k := fun i => D.int ((a k + i : Nat) : Int)) (σ₁ := [("j", .im (.int (j : Nat))), ("k", .im (.int (k : Nat))), ("names", .im (.lst (dN (namesN M)))), ("marks", .im (.lst (dN M))), ("texts", .im (.lst (dS (texts.map tx))))]) (fun _ => true)
            (fun i => .str (tx (shownN M texts ((namesN M).getD k 0) ((namesN M).getD j 0) (a k + i)))) ((IterOf.range2 (Ev.name rfl) (Ev.bin (Ev.name rfl) Ev.cInt Bin.add) rfl (by lia) (by lia)).eq hiter) (.of (.add (.add (.add (.add (.add .nil))))) tgW) (fun C _ i hi => ⟨_, rfl, .nil, fun _ => ?_⟩) (by simp; lia) ?_)
          · have hlt := hin i hi
            obtain ⟨t0, tl⟩ := T.tl (a k + i) hlt
            refine Ev.ifexp (c := decide (M.getD (a k + i) 0 = (namesN M).getD k 0 ∨ M.getD (a k + i) 0 = (namesN M).getD j 0)) ((Tt.cmp (Ev.sub (Ev.name rfl) (Ev.name rfl) (Sub.list (dN_get (by lia)) (by lia))) (Ev.list (ds := dI [((namesN M).getD k 0 : Nat), ((namesN M).getD j 0 : Nat)]) (Evs.cons (Ev.sub (Ev.name rfl) (Ev.name rfl) (Sub.list (dN_get hnk) (by lia))) (Evs.cons (Ev.sub (Ev.name rfl) (Ev.name rfl) (Sub.list (dN_get hnj) (by lia))) .nil))) Bin.inInts).eq ?_) (fun h => ?_) fun h => ?_
            · simp only [List.any_cons, List.any_nil, Bool.or_false, eqN]
              rw [Bool.eq_iff_iff]; simp only [Bool.or_eq_true, beq_iff_eq, decide_eq_true_eq]; exact or_congr eq_comm eq_comm
            · have h : M.getD (a k + i) 0 = (namesN M).getD k 0 ∨ M.getD (a k + i) 0 = (namesN M).getD j 0 := of_decide_eq_true h
              rw [shownN, if_pos h]
              exact Ev.sub (Ev.name rfl) (Ev.name rfl) (Sub.list (dS_get (by lia)) (by lia))
            · have h : ¬ (M.getD (a k + i) 0 = (namesN M).getD k 0 ∨ M.getD (a k + i) 0 = (namesN M).getD j 0) := of_decide_eq_false h
              rw [shownN, if_neg h]
              exact Ev.callF (spec_hide t0 (by lia)) (Evs.cons (Ev.sub (Ev.name rfl) (Ev.name rfl) (Sub.list (dS_get (by lia)) (by lia))) .nil) (by show 1 ≤ f.n - 1; lia) rfl (fn_mem 8 (by decide))
          · have hspan : (((List.range (b k + 1 - a k)).filter fun _ => true).map fun i => D.str (tx (shownN M texts ((namesN M).getD k 0) ((namesN M).getD j 0) (a k + i)))) = dS ((spanN M texts ((namesN M).getD k 0) ((namesN M).getD j 0) (a k) (b k)).map tx) := by
              rw [filter_tt]; simp [dS, spanN]
            rw [hspan]
            have hsl : ∀ x ∈ (spanN M texts ((namesN M).getD k 0) ((namesN M).getD j 0) (a k) (b k)).map tx, x.length ≤ 20 := by
              intro x hx
              obtain ⟨y, hy, rfl⟩ := List.mem_map.mp hx
              obtain ⟨i, hi, rfl⟩ := List.mem_map.mp hy
              have tl := (T.tl (a k + i) (hin i hi)).2
              rw [tx_len, shownN]
              split
              · lia
              · unfold hideL; split
                · simp; lia
                · simp; lia
            have hsn : ((spanN M texts ((namesN M).getD k 0) ((namesN M).getD j 0) (a k) (b k)).map tx).length ≤ 30 := by simp [spanN]; lia
            refine Ex.cons (Ex1.assign (Ev.callF (hc2 k j hkN hjN) (Evs.cons (Ev.eq (Ev.join (x := tx []) Ev.cStr (Ev.name rfl) (joinOk_of hsl hsn (by decide))) (congrArg D.str (join_tx _))) .nil) (by show 10 ≤ f.n - 1; lia) rfl (fn_mem 2 (by decide))) ?_)
            refine Ex.cons (Ex1.if_ (b := (c k j == false) && (j != k)) (Tt.eq (Tt.and_cons (Tt.cmp (Ev.name rfl) Ev.cBool Bin.isB) fun _ => Tt.and_cons (Tt.cmp (Ev.name rfl) (Ev.name rfl) Bin.neI) fun _ => Tt.and_nil) (by rw [Bool.and_true, neN])) (fun hb => ?_) fun hb => ?_)
            · have hcf : c k j = false := by simp at hb; exact hb.1
              refine Ex.cons (Ex1.aug rfl (Ev.bin Ev.cInt (Ev.name rfl) (Bin.shl (by lia) (by lia) (by decide))) Bin.iadd (Ex.nil (Ex.nil ⟨rfl, .cons (.cons (.cons (.cons (.cons (.cons (.cons (.cons (.cons .nil)))))))) ?_⟩)))
              show some (VD.im (D.int ((rw0 : Int) + 1 * 2 ^ ((j : Nat) : Int).toNat))) = some (VD.im (D.int _))
              rw [rowStep, if_pos hcf]; push_cast; simp
            · have hct : c k j = true := by
                cases hcv : c k j with
                | true => rfl
                | false =>
                  have hjk : j ≠ k := fun q => by rw [q, T.ck k hkN] at hcv; cases hcv
                  rw [hcv] at hb; simp [hjk] at hb
              refine Ex.cons (Ex1.if_ (b := false) ((Tt.cmp (Ev.name rfl) Ev.cBool Bin.isNotB).eq (by rw [hct]; rfl)) (fun hb => by cases hb) fun hb => Ex.nil (Ex.nil (Ex.nil ⟨rfl, .cons (.cons (.cons (.cons (.cons (.cons (.cons (.cons (.cons .nil)))))))) ?_⟩)))
              rw [rowStep, if_neg (by rw [hct]; simp)]; rfl
        · rintro σ' H
          exact ⟨rfl, rfl, .cons (.cons (.cons (.cons (.cons (.cons .nil (H _ _ rfl)) (H _ _ rfl)) (H _ _ rfl)) (H _ _ rfl)) (H _ _ rfl)) (H _ _ rfl)⟩
      · refine Ex.cons (Ex1.append (Ev.name rfl) rfl ?_ (by rw [dN_len, List.length_map]; lia) (only_of rfl) (by simp))
        refine Ex.nil ⟨rfl, by simpa using hplen, .cons (.cons (.cons (.cons (.cons .nil ?_))))⟩
        show some (VD.mut rb _) = some (VD.mut rb _)
        simp [dN]
    · rintro σ' ⟨_, H⟩
      exact Ex.cons (Ex1.retMut (H _ _ rfl) rfl (by simp))
end Mine

namespace Mine
open PySem PySem.Calls PyProof.Rows PySem.W

section
variable {f : Fx} {Y : List Addr} {σ : Sg}

/-! a clause of a pure comprehension, with what it tells left open -/
structure TurnsE (g : Fx) (C D : Addr) (σ₁ : Sg) (t : Expr) (ifs : List Expr) (emit : Sem Unit) (ds L0 : List Mine.D) (O : List Mine.D → List Mine.D) : Prop where
  turn : ∀ pre d post, ds = pre ++ d :: post → ∃ σ2 b, tgt t d σ₁ = some σ2 ∧ Tests g [] σ2 ifs b ∧ (b = false → O (pre ++ [d]) = O pre) ∧
    (b = true → ∃ ys, O (pre ++ [d]) = O pre ++ ys ∧ ∀ s (vs : List Value), St g [] σ2 s → s.heap.PlainList D vs.toArray → Reps g.X₀ s.heap (L0 ++ O pre) vs →
      wpAny g.M g.A emit (fun _ s' => St g [] σ2 s' ∧ (∃ vs' : List Value, s'.heap.PlainList D vs'.toArray ∧ Reps g.X₀ s'.heap ((L0 ++ O pre) ++ ys) vs') ∧ Mv [C, D] s s') NoE s)

theorem loopE {sB s4 : Shared} {scope : Scope} {cl : List (Str × Addr)} {σ₁ : Sg} {C D : Addr} {t iter : Expr} {ifs : List Expr} {emit : Sem Unit} {e : Expr} {k : Nat} {it : Value} {ds L0 : List Mine.D} {G : List Nat} {P : Nat → Shared → Prop} {O : List Mine.D → List Mine.D} {vs0 : List Value}
    (F : Feed f.h₀ sB.heap f.w f.A (D :: (Y ++ f.X₀)) [C, D] it G ds P) (hP0 : P 0 s4) (p04 : Mv [C, D] sB s4) (ng : ∀ (g : Nat), g ∈ G → sB.gens[g]? = none)
    (S4 : St (cfx f Y scope cl C D) [] σ₁ s4) (hl4 : s4.heap.PlainList D vs0.toArray) (hR4 : Reps (D :: (Y ++ f.X₀)) s4.heap L0 vs0) (hDC : D ≠ C) (hcle : ∀ a ∈ cl.map (·.2), ∃ o, sB.heap.get? a = some o) (hb0 : ∀ b o, f.h₀.get? b = some o → sB.heap.get? b = some o) (hxs : ∀ a ∈ Y ++ f.X₀, ∃ o, sB.heap.get? a = some o)
    (T : TurnsE (cfx f Y scope cl C D) C D σ₁ t ifs emit ds L0 O) (hO : O [] = []) (htg : tgtOkW (compEnvC scope cl C f.env) [C] t) (hfr : ∀ x ∈ tnames t, σ₁.lookup x = none) (hnm : ∀ x a l, σ₁.lookup x ≠ some (.mut a l))
    (hq : (Code.compLoop e k it (.ref D) (compEnvC scope cl C f.env)).quiet = true) (hu : f.A.under (.compLoop e k it (.ref D) (compEnvC scope cl C f.env)) = f.A)
    (ht : f.M.den (.compLoop e k it (.ref D) (compEnvC scope cl C f.env)) = (do
      standAt iter.pos
      match ← pyNext it with
      | none => pure (.done .next)
      | some v =>
        letOwnedTupleGo t it v
        assign t (compEnvC scope cl C f.env) v
        let mut ok := true
        for c in ifs do
          if ok then ok ← isTrue c (compEnvC scope cl C f.env) (eval c (compEnvC scope cl C f.env))
        if ok then emit
        again (.compLoop e k it (.ref D) (compEnvC scope cl C f.env)) : Sem Fin).onRaise (fun x => do noteFrame x (compEnvC scope cl C f.env); theTreesLotGoes x)) :
    codeAny f.M f.A (.compLoop e k it (.ref D) (compEnvC scope cl C f.env)) (fun r s' => r = .ok .next ∧ St (cfx f Y scope cl C D) [] σ₁ s' ∧ (∃ vs : List Value, s'.heap.PlainList D vs.toArray ∧ Reps (D :: (Y ++ f.X₀)) s'.heap (L0 ++ O ds) vs) ∧ Mv [C, D] sB s') s4 := by
  refine codeAny_compLoop_g (target := t) (iter := iter) (ifs := ifs) (fun n s' => ∃ i, i ≤ ds.length ∧ n = ds.length + 1 - i ∧ St (cfx f Y scope cl C D) [] σ₁ s' ∧ P i s' ∧
    (∃ vs : List Value, s'.heap.PlainList D vs.toArray ∧ Reps (D :: (Y ++ f.X₀)) s'.heap (L0 ++ O (ds.take i)) vs) ∧ Mv [C, D] sB s') hq hu ht ?_ (ds.length + 1)
    ⟨0, Nat.zero_le _, rfl, S4, hP0, ⟨vs0, hl4, by simpa [hO] using hR4⟩, p04⟩
  rintro n s' ⟨i, hi', rfl, S', hP, ⟨vs, hl, hR⟩, p⟩
  have hWe : ∀ a ∈ [C, D], ∃ o, s'.heap.get? a = some o := fun a m => by
    rcases List.mem_cons.mp m with rfl | m
    · obtain ⟨_, o, _, _, ho, _⟩ := S'.frm.ns; exact ⟨o, ho⟩
    · rw [List.mem_singleton.mp m]; obtain ⟨n, e⟩ := hl; exact ⟨_, e⟩
  have goOn : ∀ {fp : List Addr} {s1 : Shared}, Foot sB.heap [C, D] s'.heap fp → Mv fp s' s1 G → St (cfx f Y scope cl C D) [] σ₁ s1 ∧ SeqKeep (D :: (Y ++ f.X₀)) s'.heap s1.heap ∧ D ∉ fp ∧ Mv [C, D] sB s1 := fun {fp s1} ft p1 => by
    have nf : ∀ a ∈ fp, sB.heap.get? a = none := fun a m => (ft a m).1
    have ns1 : ∀ a ∈ fp, ∀ o, s'.heap.get? a = some o → ¬ isSeqObj o := fun a m => (ft a m).2.2
    have hCf : C ∉ fp := fun m => (ft C m).2.1 (by simp)
    have hDf : D ∉ fp := fun m => (ft D m).2.1 (by simp)
    have hclf : ∀ a ∈ cl.map (·.2), a ∉ fp := fun a m q => by obtain ⟨o, e⟩ := hcle a m; rw [nf a q] at e; cases e
    refine ⟨?_, fun b o _ hs ho => p1.keep b o (fun m => ns1 b m o ho hs) ho, hDf, p.since p1 (fun a m => .inr (nf a m)) (fun g m => .inr (ng g m))⟩
    refine S'.turn p1 ns1 (fun a m => ?_) hCf (fun x c e m => hclf c (List.mem_map.mpr ⟨(x, c), e, rfl⟩) m) (fun a m q => ?_)
    · show f.h₀.get? a = none
      cases e : f.h₀.get? a with
      | none => rfl
      | some o => have := hb0 a o e; rw [nf a m] at this; cases this
    · rcases List.mem_cons.mp (show a ∈ D :: (Y ++ f.X₀) from q) with rfl | q
      · exact hDf m
      · obtain ⟨o, e⟩ := hxs a q; rw [nf a m] at e; cases e
  by_cases hlt : i < ds.length
  · have hd : ds[i]? = some ds[i] := by simp [hlt]
    have hsplit : ds = ds.take i ++ ds[i] :: ds.drop (i + 1) := by
      rw [← List.drop_eq_getElem_cons hlt, List.take_append_drop]
    have htk : ds.take (i + 1) = ds.take i ++ [ds[i]] := by rw [List.take_add_one, hd]; rfl
    obtain ⟨σ2, b, hσ2, hte, hb0', hb1⟩ := T.turn _ _ _ hsplit
    refine wNoE (F.item i _ s' hd hP S'.nolimit S'.bare hWe S'.xs) fun r s1 h1 => ?_
    obtain ⟨v, rfl, hv, hP1, fp, ft, p1⟩ := h1
    obtain ⟨S1, sk1, hDf, p01⟩ := goOn ft p1
    have hl1 : s1.heap.PlainList D vs.toArray := hl.at fun o e => p1.keep D o hDf e
    have hR1 := Reps.seq sk1 _ _ hR
    refine F.go (i + 1) s1 hP1 t v _ _ ?_
    have hWo : ∀ a ∈ [C], a ∈ own (cfx f Y scope cl C D).env [] := fun a m => by rw [List.mem_singleton.mp m]; exact List.mem_cons_self
    refine assign_tgtW (f := cfx f Y scope cl C D) hWo S1 hv hσ2 htg fun s2 S2 p2 => ?_
    have sk2 : SeqKeep (D :: (Y ++ f.X₀)) s1.heap s2.heap := own_seq S1 (p2.keep.mono hWo)
    have hl2 : s2.heap.PlainList D vs.toArray := hl1.at fun o e => p2.keep D o (by simpa using hDC) e
    have hR2 := Reps.seq sk2 _ _ hR1
    have p02 : Mv [C, D] sB s2 := p01.trans (p2.mono (fun a m => by rw [List.mem_singleton.mp m]; simp) (fun _ m => m))
    have hP2 : P (i + 1) s2 := F.stay _ s1 s2 hP1 (fun a o m e => p2.keep a o (fun q => m (by rw [List.mem_singleton.mp q]; simp)) e) sk2 (fun g m st e => p2.gens g st (by simp) e) S2.base
    refine wNoE (hte s2 S2) fun ok s3 h3 => ?_
    obtain ⟨p3, rfl⟩ := h3
    have S3 := S2.step p3
    have sk3 : SeqKeep (D :: (Y ++ f.X₀)) s2.heap s3.heap := .all p3.keep
    have hl3 : s3.heap.PlainList D vs.toArray := hl2.at fun o e => p3.keep.all D o e
    have hR3 := Reps.seq sk3 _ _ hR2
    have p03 : Mv [C, D] sB s3 := p02.trans p3.wide
    have hP3 : P (i + 1) s3 := F.stay _ s2 s3 hP2 (fun a o m e => p3.keep.all a o e) sk3 (fun g m st e => p3.gens g st (by simp) e) S3.base
    have fg := tgt_forget hσ2 hfr
    cases ok with
    | false =>
      have e1 := hb0' rfl
      refine ⟨ds.length + 1 - (i + 1), by omega, i + 1, hlt, rfl, S3.forget fg, hP3, ⟨vs, hl3, by rw [htk, e1]; exact hR3⟩, p03⟩
    | true =>
      obtain ⟨ys, ey, hy⟩ := hb1 rfl
      refine wNoE (hy s3 vs S3 hl3 hR3) fun _ s4 h4 => ?_
      obtain ⟨S4', ⟨vs', hl4', hR4'⟩, p4⟩ := h4
      have hCn : ∀ o, s3.heap.get? C = some o → ¬ isSeqObj o := fun o e => by
        obtain ⟨m, hm⟩ := S3.frm.ns; exact ns_nonseq hm e
      have sk4 : SeqKeep (D :: (Y ++ f.X₀)) s3.heap s4.heap := fun b o hb hs ho => p4.keep b o (fun m => by
        rcases List.mem_cons.mp m with rfl | m
        · exact hCn o ho hs
        · have hbD := List.mem_singleton.mp m
          subst hbD
          rcases hb with hb | hb
          · exact hb (by simp)
          · obtain ⟨c, hDo⟩ := hl3
            rw [hDo] at ho; cases ho
            exact absurd (Value.type.inj hb) (by decide)) ho
      refine ⟨ds.length + 1 - (i + 1), by omega, i + 1, hlt, rfl, S4'.forget fg, F.stay _ s3 s4 hP3 (fun a o m e => p4.keep a o m e) sk4 (fun g m st e => p4.gens g st (by simp) e) S4'.base, ⟨vs', hl4', by rw [htk, ey, ← List.append_assoc]; exact hR4'⟩, p03.trans p4⟩
  · have hin : i = ds.length := by omega
    subst hin
    rw [List.take_length] at hR
    refine wNoE (F.done s' hP S'.nolimit S'.bare hWe S'.xs) fun r s1 h1 => ?_
    obtain ⟨rfl, fp, ft, p1⟩ := h1
    obtain ⟨S1, sk1, hDf, p01⟩ := goOn ft p1
    exact ⟨rfl, S1, ⟨vs, hl.at fun o e => p1.keep D o hDf e, Reps.seq sk1 _ _ hR⟩, p01⟩
end
end Mine

namespace Mine
open PySem PySem.Calls PyProof.Rows PySem.W

section
variable {f : Fx} {Y : List Addr} {σ : Sg}
noncomputable def NoMut (σ : Sg) : Prop := ∀ x a l, σ.lookup x ≠ some (.mut a l)
/-! the last clause: one item more -/
theorem emit_one {scope : Scope} {cl : List (Str × Addr)} {C D : Addr} {σ2 : Sg} {elt : Expr} {y : Mine.D} {L : List Mine.D} (h0 : f.h₀.get? D = none) (h : Ev (cfx f Y scope cl C D) [] σ2 elt y) (hnm : NoMut σ2) (hz : L.length ≤ sizeLine) {s : Shared} {vs : List Value}
    (S : St (cfx f Y scope cl C D) [] σ2 s) (hl : s.heap.PlainList D vs.toArray) (hR : Reps (D :: (Y ++ f.X₀)) s.heap L vs) :
    wpAny f.M f.A (do let _ ← call (.builtin "list.append") [.ref D, ← eval elt (compEnvC scope cl C f.env)]) (fun _ s' => St (cfx f Y scope cl C D) [] σ2 s' ∧ (∃ vs' : List Value, s'.heap.PlainList D vs'.toArray ∧ Reps (D :: (Y ++ f.X₀)) s'.heap (L ++ [y]) vs') ∧ Mv [C, D] s s') NoE s := by
  refine wpAny_bind (wNoE (h s S) fun v s4 h4 => ?_)
  obtain ⟨p4, hv4⟩ := h4
  have S4 := S.step p4
  have hl4 : s4.heap.PlainList D vs.toArray := hl.at fun o e => p4.keep.all D o e
  have hR4 := hR.keep p4.keep
  refine wpAny_bind (wpAny_list_append_plain hl4 (fun h' hl' hs => ?_) (by rw [List.size_toArray, hR.length]; exact hz))
  obtain ⟨c, hDo⟩ := hl4
  have kD : KeepBut [D] s4.heap h' := .same hs
  have sk5 : SeqKeep (D :: (Y ++ f.X₀)) s4.heap h' := .of kD fun b o m e _ => by
    rw [List.mem_singleton.mp m] at e ⊢; rw [hDo] at e; cases e
    exact ⟨List.mem_cons_self, rfl⟩
  have kk : ∀ b o, (∀ xs n, o.data ≠ .seq xs n) → s4.heap.get? b = some o → h'.get? b = some o := fun b o nd e => hs.extBut b o (fun q => by rw [q, hDo] at e; cases e; exact nd _ _ rfl) e
  refine wpAny_pure ⟨⟨⟨fun b o e => ?_, fun a ma => ?_⟩, S4.off, ⟨S4.frm.fn, ?_, fun x c e => ?_, S4.frm.inj, S4.frm.glo, S4.frm.blt⟩, S4.bare, (fun _ m => nomatch m), fun x d e => ?_⟩, ⟨vs ++ [v], by simpa using hl', Reps.seq sk5 _ _ (hR4.append (.cons hv4 .nil))⟩, p4.wide.trans (.heap' (kD.mono fun a m => by rw [List.mem_singleton.mp m]; simp))⟩
  · refine hs.extBut b o (fun q => ?_) (S4.base b o e)
    rw [q, h0] at e; cases e
  · by_cases q : a = D
    · subst q; obtain ⟨n, e⟩ := hl'; exact ⟨_, e⟩
    · obtain ⟨o, e⟩ := S4.xs a ma; exact ⟨o, hs.extBut a o q e⟩
  · obtain ⟨m, o, es, ep, ho, hd, r⟩ := S4.frm.ns
    exact ⟨m, o, es, ep, kk _ o (fun _ _ q => by rw [hd] at q; cases q) ho, hd, r⟩
  · obtain ⟨v, o, ho, hd⟩ := S4.frm.cells x c e
    exact ⟨v, o, kk _ o (fun _ _ q => by rw [hd] at q; cases q) ho, hd⟩
  · obtain ⟨v, H, r⟩ := S4.vars x d e
    refine ⟨v, H.imp (fun ⟨a, m, ⟨o, es, ep, ho, hd, r⟩, c⟩ => ⟨a, m, ⟨o, es, ep, kk _ o (fun _ _ q => by rw [hd] at q; cases q) ho, hd, r⟩, c⟩) (fun ⟨a, c, b, o, ho, hd⟩ => ⟨a, c, b, o, kk _ o (fun _ _ q => by rw [hd] at q; cases q) ho, hd⟩), ?_⟩
    cases d with
    | im d => exact Rep.seq sk5 _ _ r
    | «mut» a l => exact absurd e (hnm x a l)

/-! start of the next clause -/
theorem start_two {elt t1 i1 t2 i2 : Expr} {if1 if2 : List Expr} {scope : Scope} {pos : Pos} {it acc : Value} {env : Env} :
    compStart (.ListComp elt [⟨t1, i1, if1, 0⟩, ⟨t2, i2, if2, 0⟩] scope pos) 1 it acc env = ask >>= fun a => if a.params.followText "comprehension-iter-twice" = true then again (.compLoop (.ListComp elt [⟨t1, i1, if1, 0⟩, ⟨t2, i2, if2, 0⟩] scope pos) 1 it acc env)
      else rule "comprehension.iter-twice" >>= fun _ => standAt i2.pos >>= fun _ => pyIter it >>= fun it' => again (.compLoop (.ListComp elt [⟨t1, i1, if1, 0⟩, ⟨t2, i2, if2, 0⟩] scope pos) 1 it' acc env) := by rfl
theorem start1 {elt t1 i1 t2 i2 : Expr} {if1 if2 : List Expr} {scope : Scope} {pos : Pos} {it acc : Value} {env : Env} {R : Result → Shared → Prop} {s : Shared}
    (h0 : codeAny f.M f.A (.compLoop (.ListComp elt [⟨t1, i1, if1, 0⟩, ⟨t2, i2, if2, 0⟩] scope pos) 1 it acc env) R s)
    (h : wpAny f.M f.A (pyIter it) (fun it' s' => codeAny f.M f.A (.compLoop (.ListComp elt [⟨t1, i1, if1, 0⟩, ⟨t2, i2, if2, 0⟩] scope pos) 1 it' acc env) R s') (notedBy f.M f.A env fun x s' => R (.error x) s') s) :
    codeAny f.M f.A (.compStart (.ListComp elt [⟨t1, i1, if1, 0⟩, ⟨t2, i2, if2, 0⟩] scope pos) 1 it acc env) R s := by
  refine codeAny_of_tree (wpAny_notedAt (env := env) (pos := theWindowsPlace) ?_)
  rw [start_two]
  refine wpAny_bind (wpAny_askSetting (wpAny_ite_split (fun _ => wpAny_pure ⟨rfl, h0⟩) fun _ => wpAny_bind (wpAny_rule (wpAny_bind (wpAny_standAt (wpAny_bind ?_))))))
  exact wpAny_mono h (fun it' s' q => wpAny_pure ⟨rfl, q⟩) fun _ _ x => x
end
end Mine

namespace Mine
open PySem PySem.Calls PyProof.Rows PySem.W

section
variable {f : Fx} {Y : List Addr} {σ : Sg}
theorem emit_nest {α : Type} {scope : Scope} {cl : List (Str × Addr)} {C D : Addr} {σ2 : Sg} {elt t1 i1 t2 i2 : Expr} {pos : Pos} {L : List Mine.D} {rows : List α} {k g : α → Mine.D} (h0 : f.h₀.get? D = none) (hDC : D ≠ C) (hit : IterOf (cfx f Y scope cl C D) [] σ2 i2 (rows.map k)) (htg : tgtOkW (compEnvC scope cl C f.env) [C] t2) (hfr : ∀ x ∈ tnames t2, σ2.lookup x = none) (hnm : NoMut σ2)
    (hs : ∀ x, foldedSetIterable i2 (compEnvC scope cl C f.env) x = pure x) (T : ∀ a ∈ rows, ∃ σ3, tgt t2 (k a) σ2 = some σ3 ∧ NoMut σ3 ∧ Ev (cfx f Y scope cl C D) [] σ3 elt (g a)) (hz : L.length + rows.length ≤ sizeLine) {s : Shared} {vs : List Value}
    (S : St (cfx f Y scope cl C D) [] σ2 s) (hl : s.heap.PlainList D vs.toArray) (hR : Reps (D :: (Y ++ f.X₀)) s.heap L vs) :
    wpAny f.M f.A (do
        let x ← eval i2 (compEnvC scope cl C f.env)
        standAt i2.pos
        let x ← foldedSetIterable i2 (compEnvC scope cl C f.env) x
        let _ ← runOwn (.compStart (.ListComp elt [⟨t1, i1, [], 0⟩, ⟨t2, i2, [], 0⟩] scope pos) 1 (← holding [x] (pyIter x)) (.ref D) (compEnvC scope cl C f.env)) (compEnvC scope cl C f.env))
      (fun _ s' => St (cfx f Y scope cl C D) [] σ2 s' ∧ (∃ vs' : List Value, s'.heap.PlainList D vs'.toArray ∧ Reps (D :: (Y ++ f.X₀)) s'.heap (L ++ rows.map g) vs') ∧ Mv [C, D] s s') NoE s := by
  refine wpAny_bind (wNoE (hit s S) fun xv s1 h1 => wpAny_bind (wpAny_standAt (wpAny_bind (wpAny_of_eq (hs xv) (wpAny_bind (wpAny_holding (wNoE h1 fun it s2 h2 => ?_)))))))
  obtain ⟨G, hF, mv, ng⟩ := h2
  have hWe : User s.heap s2.heap [C, D] := fun a m => by
    rcases List.mem_cons.mp m with rfl | m
    · obtain ⟨_, o, _, _, ho, _⟩ := S.frm.ns; exact .inl ⟨o, ho⟩
    · rw [List.mem_singleton.mp m]; obtain ⟨n, e⟩ := hl; exact .inl ⟨_, e⟩
  obtain ⟨P, F, hP0⟩ := hF [] [C, D] (fun _ m => nomatch m) hWe
  have S2 := S.step mv
  have main : codeAny f.M f.A (.compLoop (.ListComp elt [⟨t1, i1, [], 0⟩, ⟨t2, i2, [], 0⟩] scope pos) 1 it (.ref D) (compEnvC scope cl C f.env)) (fun r s' => r = .ok .next ∧ St (cfx f Y scope cl C D) [] σ2 s' ∧ (∃ vs : List Value, s'.heap.PlainList D vs.toArray ∧ Reps (D :: (Y ++ f.X₀)) s'.heap (L ++ (fun l => (rows.take l.length).map g) (rows.map k)) vs) ∧ Mv [C, D] s s') s2 := by
    refine loopE (iter := i2) (sB := s) (emit := do let _ ← call (.builtin "list.append") [.ref D, ← eval elt (compEnvC scope cl C f.env)]) (O := fun l => (rows.take l.length).map g) F hP0 mv.wide ng S2 (hl.at fun o e => mv.keep.all _ _ e) (hR.keep mv.keep) hDC (fun a m => ?_) S.base (fun a m => S.xs a (List.mem_cons_of_mem _ m)) ⟨fun pre d post e => ?_⟩ rfl htg hfr hnm rfl rfl rfl
    · obtain ⟨⟨x, c⟩, mq, rfl⟩ := List.mem_map.mp m
      obtain ⟨v, o, ho, _⟩ := S.frm.cells x c mq
      exact ⟨o, ho⟩
    · obtain ⟨a, q, e1, rfl, e2⟩ := map_at e
      obtain ⟨σ3, h1, h2, h3⟩ := T a (by rw [e1]; simp)
      refine ⟨σ3, true, h1, .nil, (fun h => by cases h), fun _ => ⟨[g a], by show (rows.take _).map g = (rows.take _).map g ++ _; rw [e2]; simp, fun s' vs' S' hl' hR' => ?_⟩⟩
      refine emit_one h0 h3 h2 ?_ S' hl' hR'
      simp only [List.length_append, List.length_map, List.length_take]
      omega
  refine wpAny_bind (wpAny_runOwn (start1 (codeAny_mono main fun r s' h => ?_) (F.self 0 s2 _ _ hP0 (codeAny_mono main fun r s' h => ?_))))
  all_goals
    obtain ⟨rfl, S', ⟨vs', hl', hR'⟩, p⟩ := h
    refine wpAny_pure ⟨S', ⟨vs', hl', ?_⟩, p⟩
    simpa using hR'

theorem den2 {w : World} {elt t1 i1 t2 i2 : Expr} {scope : Scope} {pos : Pos} {it acc : Value} {env : Env} :
    (model pw w).den (.compLoop (.ListComp elt [⟨t1, i1, [], 0⟩, ⟨t2, i2, [], 0⟩] scope pos) 0 it acc env) = (do
      standAt i1.pos
      match ← pyNext it with
      | none => pure (.done .next)
      | some v =>
        letOwnedTupleGo t1 it v
        assign t1 env v
        let mut ok := true
        for c in ([] : List Expr) do
          if ok then ok ← isTrue c env (eval c env)
        if ok then (do
          let x ← eval i2 env
          standAt i2.pos
          let x ← foldedSetIterable i2 env x
          let _ ← runOwn (.compStart (.ListComp elt [⟨t1, i1, [], 0⟩, ⟨t2, i2, [], 0⟩] scope pos) 1 (← holding [x] (pyIter x)) acc env) env)
        again (.compLoop (.ListComp elt [⟨t1, i1, [], 0⟩, ⟨t2, i2, [], 0⟩] scope pos) 0 it acc env) : Sem PySem.Fin).onRaise (fun x => do noteFrame x env; theTreesLotGoes x) := by
  show (compTurn (.ListComp elt [⟨t1, i1, [], 0⟩, ⟨t2, i2, [], 0⟩] scope pos) 0 it acc env).onRaise (fun x => do noteFrame x env; theTreesLotGoes x) = _
  congr 1
  unfold compTurn
  show (standAt i1.pos >>= fun _ => _) = (standAt i1.pos >>= fun _ => _)
  congr 1; funext _
  show (pyNext it >>= fun _ => _) = (pyNext it >>= fun _ => _)
  congr 1; funext r
  cases r with
  | none => rfl
  | some v =>
    simp only [bind_assoc, pure_bind]
    rfl
/-! a comprehension of two clauses, pure, no tests -/
theorem Ev.comp2 {α β : Type} {scope : Scope} {cl : List (Str × Addr)} {σ₁ : Sg} {elt t1 i1 t2 i2 : Expr} {pos : Pos} {rows : List α} {k : α → D} {rows2 : α → List β} {k2 : β → D} {g : β → D} (hit : IterOf f Y σ i1 (rows.map k)) (ok : CompOk f σ scope cl σ₁ t1 i1)
    (htg2 : ∀ C, tgtOkW (compEnvC scope cl C f.env) [C] t2) (hs2 : ∀ C x, foldedSetIterable i2 (compEnvC scope cl C f.env) x = pure x)
    (T : ∀ C D, ∀ a ∈ rows, ∃ σ2, tgt t1 (k a) σ₁ = some σ2 ∧ NoMut σ2 ∧ (∀ x ∈ tnames t2, σ2.lookup x = none) ∧ IterOf (cfx f Y scope cl C D) [] σ2 i2 ((rows2 a).map k2) ∧ ∀ b ∈ rows2 a, ∃ σ3, tgt t2 (k2 b) σ2 = some σ3 ∧ NoMut σ3 ∧ Ev (cfx f Y scope cl C D) [] σ3 elt (g b))
    (hz : (rows.flatMap rows2).length ≤ 100000) : Ev f Y σ (.ListComp elt [⟨t1, i1, [], 0⟩, ⟨t2, i2, [], 0⟩] scope pos) (.lst ((rows.flatMap rows2).map g)) := fun s0 S0 => by
  have hzl : 200000 ≤ sizeLine := by decide
  rw [eval_ListComp]
  have hnm : NoMut σ₁ := fun x a l e => by obtain ⟨d', q, _⟩ := ok.cap x _ e; cases q
  refine wpAny_comprehension_free rfl ok.fold ok.clos ok.kind ok.names (wNoE (hit s0 S0) fun xv s1 h1 => wNoE h1 fun it s2 h2 => ?_)
  obtain ⟨G, hF, mv, ng⟩ := h2
  have hDn := fresh_none s2.heap
  refine wpAny_newObj_type ?_
  generalize hDe : s2.heap.objs.size = D at hDn
  generalize hH : s2.heap.push { cls := .type "list", data := .seq ([] : List Value).toArray } = H2
  have kH : ∀ b o, s2.heap.get? b = some o → H2.get? b = some o := fun b o e => hH ▸ Heap.get?_push_of_some _ e
  have gD : H2.get? D = some { cls := .type "list", data := .seq ([] : List Value).toArray } := by rw [← hH, ← hDe]; exact Heap.get?_push_size _ rfl
  refine wpAny_newFunctionEnv ok.cell (by intro y hy; simp at hy) (fun h4 hn4 hs4 => ?_) ok.kind
  have hCn : H2.get? H2.objs.size = none := fresh_none H2
  change h4.Ns H2.objs.size _ at hn4
  change Heap.SameBut H2.objs.size (H2.push _) h4 at hs4
  show codeAny f.M f.A (.compStart (.ListComp elt [⟨t1, i1, [], 0⟩, ⟨t2, i2, [], 0⟩] scope pos) 0 it (.ref D) (compEnvC scope cl H2.objs.size f.env)) _ _
  generalize hC : H2.objs.size = C at hCn hn4 hs4
  have k4 : ∀ b o, H2.get? b = some o → h4.get? b = some o := fun b o e => hs4.extBut b o (fun q => by rw [q, hCn] at e; cases e) (Heap.get?_push_of_some _ e)
  have k24 : ∀ b o, s2.heap.get? b = some o → h4.get? b = some o := fun b o e => k4 b o (kH b o e)
  have hCn2 : s2.heap.get? C = none := by
    cases e : s2.heap.get? C with
    | none => rfl
    | some o => have := kH C o e; rw [hCn] at this; cases this
  have n0 : ∀ a, s2.heap.get? a = none → s0.heap.get? a = none := fun a n => by
    cases e : s0.heap.get? a with
    | none => rfl
    | some o => have := mv.keep.all a o e; rw [n] at this; cases this
  have hDC : D ≠ C := fun q => by rw [q, hCn] at gD; cases gD
  have hcle : ∀ a ∈ cl.map (·.2), ∃ o, s0.heap.get? a = some o := fun a m => by
    obtain ⟨⟨x, c⟩, mq, rfl⟩ := List.mem_map.mp m
    obtain ⟨v, o, ho, _⟩ := S0.frm.cells x c (mem_of_lookup (ok.clx _ mq))
    exact ⟨o, ho⟩
  obtain ⟨P, F, hP0⟩ := hF [D] [C, D] (fun a m => by rw [List.mem_singleton.mp m]; exact hDn) (fun a m => by
    rcases List.mem_cons.mp m with rfl | m
    · exact .inr hCn2
    · rw [List.mem_singleton.mp m]; exact .inr hDn)
  replace F : Feed f.h₀ s0.heap f.w f.A (D :: (Y ++ f.X₀)) [C, D] it G (rows.map k) P := F
  have hD0 : f.h₀.get? D = none := by
    cases e : f.h₀.get? D with
    | none => rfl
    | some o => have := S0.base D o e; rw [n0 D hDn] at this; cases this
  have main : ∀ s4 : Shared, s4 = { s2 with heap := h4, toks := s2.toks + ([] : List (Str × Value)).length } → codeAny f.M f.A (.compLoop (.ListComp elt [⟨t1, i1, [], 0⟩, ⟨t2, i2, [], 0⟩] scope pos) 0 it (.ref D) (compEnvC scope cl C f.env)) (compPost f.M f.A NoE none (fun v s' => Mv [] s0 s' ∧ Rep (Y ++ f.X₀) s'.heap (.lst ((rows.flatMap rows2).map g)) v) (.ref D) C) s4 := by
    rintro s4 rfl
    have mv4 : Mv [] s0 { s2 with heap := h4, toks := s2.toks + ([] : List (Str × Value)).length } := mv.trans (.heap (.of_all k24))
    have hl4 : Heap.PlainList h4 D ([] : List Value).toArray := ⟨0, k4 _ _ gD⟩
    refine codeAny_mono (loopE (iter := i1) (ifs := []) (sB := s0) (L0 := []) (vs0 := []) (emit := do
        let x ← eval i2 (compEnvC scope cl C f.env)
        standAt i2.pos
        let x ← foldedSetIterable i2 (compEnvC scope cl C f.env) x
        let _ ← runOwn (.compStart (.ListComp elt [⟨t1, i1, [], 0⟩, ⟨t2, i2, [], 0⟩] scope pos) 1 (← holding [x] (pyIter x)) (.ref D) (compEnvC scope cl C f.env)) (compEnvC scope cl C f.env))
      (O := fun l => ((rows.take l.length).flatMap rows2).map g) F (F.stay 0 s2 _ hP0 (fun a o _ e => k24 a o e) (.all (.of_all k24)) (fun g _ st e => e) (S0.step mv4).base) mv4.wide ng (St.comp S0 mv4 ok.cap ok.clx ok.kind hn4 (n0 C hCn2) (n0 D hDn) hl4) hl4 .nil hDC hcle S0.base S0.xs ⟨fun pre d post e => ?_⟩ rfl (ok.tg C) ok.fr hnm rfl rfl (den2 ..)) fun r s' h => ?_
    · obtain ⟨a, q, e1, rfl, e2⟩ := map_at e
      obtain ⟨σ2, h1, h2, h3, h4', h5⟩ := T C D a (by rw [e1]; simp)
      refine ⟨σ2, true, h1, .nil, (fun h => by cases h), fun _ => ⟨(rows2 a).map g, by show ((rows.take _).flatMap rows2).map g = ((rows.take _).flatMap rows2).map g ++ _; rw [e2]; simp, fun s' vs' S' hl' hR' => ?_⟩⟩
      have hlen : ((rows.take pre.length).flatMap rows2).length + (rows2 a).length ≤ 100000 := by
        refine Nat.le_trans ?_ hz
        conv => rhs; rw [e1]
        simp [List.flatMap_append]
      exact emit_nest hD0 hDC h4' (htg2 C) h3 h2 (hs2 C) h5 (by
        simp only [List.nil_append, List.length_map]
        omega) S' hl' hR'
    · obtain ⟨rfl, S', ⟨vs, hl, hR⟩, p⟩ := h
      obtain ⟨m, hm⟩ := S'.frm.ns
      refine ⟨m, hm, fun h' hs => ?_⟩
      have nc : ∀ a ∈ [C], ∀ o, s'.heap.get? a = some o → ¬ isSeqObj o := fun a ma o e => by rw [List.mem_singleton.mp ma] at e; exact ns_nonseq hm e
      have p' : Mv [] s0 s' := (Mv.refl [] s0 (G := [])).since p (fun a m => .inr (by
        rcases List.mem_cons.mp m with rfl | m
        · exact n0 _ hCn2
        · rw [List.mem_singleton.mp m]; exact n0 _ hDn)) (fun _ m => nomatch m)
      have r : Rep (Y ++ f.X₀) s'.heap (.lst ((rows.flatMap rows2).map g)) (.ref D) := ⟨D, vs, rfl, S0.toOk.fresh (n0 D hDn), hl.isList, by
        have := Reps.sub (X' := Y ++ f.X₀) (fun a m => List.mem_cons_of_mem _ m) _ _ hR
        simpa using this⟩
      exact ⟨p'.since (H := []) (.heap' (.same hs)) (fun a ma => .inr (by rw [List.mem_singleton.mp ma]; exact n0 _ hCn2)) (fun _ m => nomatch m), Rep.seq (fun b o _ hq ho => KeepBut.same hs b o (fun m => nc b m o ho hq) ho) _ _ r⟩
  refine codeAny_compStart_list (main _ rfl) ?_
  exact F.self 0 _ _ _ (F.stay 0 s2 _ hP0 (fun a o _ e => k24 a o e) (.all (.of_all k24)) (fun g _ st e => e) (S0.step (mv.trans (.heap (t := s2.toks + ([] : List (Str × Value)).length) (.of_all k24)))).base) (main _ rfl)
end
end Mine

namespace Mine
open PySem PySem.Calls PyProof.Rows PySem.W

/-! what law reckons -/
noncomputable def cornersN (m : List Nat) : List Nat := (List.range m.length).filter fun c => m.any (· == c)
noncomputable def prA (ps : List Pr) (k : Nat) : Nat := (ps.map fun p => p.a).getD k 0
noncomputable def cutB (ps : List Pr) (m : List Nat) (c k : Nat) : Bool := (m.getD (prA ps k) 0 == c) != (m.getD (prA ps k + 1) 0 == c)
noncomputable def cutN (ps : List Pr) (m : List Nat) (c : Nat) : Nat := (((List.range ps.length).filter (cutB ps m c)).map fun k => 2 ^ k).sum
noncomputable def parN (n x row : Nat) : Nat := ((List.range n).map fun k => ((x &&& row) >>> k) &&& 1).sum
noncomputable def rowsN (out : List En) (N : Nat) (b : Nat → Nat) (c : Nat → Nat → Bool) : List Nat := (List.range N).map (rowN (out.map En.n) N b c)
structure LawOk (sc : List Int) (out : List En) (a b : Nat → Nat) (c : Nat → Nat → Bool) : Prop where
  n1 : 1 ≤ (pairsN sc).length
  n5 : (pairsN sc).length ≤ 5
  lab : ∀ p ∈ pairsN sc, p.l < 256
  perm : out.Perm (ends0 (pairsN sc))
  sort : out.Pairwise fun x y => x.s < y.s
  tape : ∀ pre e post, out = pre ++ e :: post → vParse ((e :: post).flatMap En.o) = some (e.n, post.flatMap En.o) ∧ e.n < 2 ^ 50
  oct : ∀ e ∈ out, ∀ o ∈ e.o, o < 128
  olen : ∀ e ∈ out, e.o.length ≤ 10
  tab : TabOk (out.map En.n) (out.map En.o) (pairsN sc).length a b c
  mts : ∀ p ∈ pairsN sc, p.a + 1 < 2 * (pairsN sc).length ∧ p.b < 2 * (pairsN sc).length
  rows : ∀ r ∈ rowsN out (pairsN sc).length b c, r < 32
  par : ∀ x ∈ cornersN (meetsN (pairsN sc)), ∀ r ∈ rowsN out (pairsN sc).length b c, parN (pairsN sc).length (cutN (pairsN sc) (meetsN (pairsN sc)) x) r % 2 = 0
  rank : (rankN (rowsN out (pairsN sc).length b c) : Int) = ((pairsN sc).length : Int) + 1 - ((cornersN (meetsN (pairsN sc))).length : Int)

section
variable {f : Fx} {Y : List Addr} {σ : Sg}
theorem Bin.neL {a b : List Nat} (hu : 2 ≤ f.n) : Bin f (compareOp .NotEq) (.lst (dN a)) (.lst (dN b)) (.bool (!decide (a = b))) := fun X s v u S ⟨l, vs, e, hl, h1, r⟩ ⟨l', vs', e', hl', h1', r'⟩ => by
  subst e; subst e'
  rw [dN_eq] at r r'
  have := f.uni
  refine ke_ne_ints h1 h1' r.intsAre r'.intsAre (by omega) ⟨.refl _ _, ?_⟩
  have : (decide ((a.map fun (n : Nat) => (n : Int)) = b.map fun (n : Nat) => (n : Int))) = decide (a = b) := by
    by_cases h : a = b
    · subst h; simp
    · rw [decide_eq_false h, decide_eq_false]
      exact fun q => h (List.map_inj_right (f := fun (n : Nat) => (n : Int)) (fun x y hxy => Int.ofNat_inj.mp hxy) |>.mp q)
  show Value.bool _ = Value.bool _
  rw [this]
theorem evIter {x : Str} {np pos : Pos} {e : Expr} {ns : List Nat} (h : Ev f Y σ e (.lst (dN ns))) (hx : x = ("iter" : Str)) {s : Shared} (S : St f Y σ s) (hk : f.env.kindOf x = some .globalImplicit := by rfl) (he : starEach [e] f.env = [(false, eval e f.env)] := by rfl) :
    wpAny f.M f.A (eval (.Call (.Name x np) [e] [] pos) f.env) (fun v s' => ∃ I ax, v = .ref I ∧ Itr I ax ns 0 s' ∧ Mv [] s s' ∧ s.heap.get? I = none ∧ ax ∉ Y ++ f.X₀) NoE s := by
  subst hx
  refine Call_ (blt_name S (by decide) (v := .builtin "iter") (by decide +kernel) hk (callWith_builtin1 (args_cons (wNoE (h s S) fun v s1 h1 => args_nil ?_) he) he) (by decide))
  obtain ⟨p, ax, vs, rfl, hax, hl, hr⟩ := h1
  refine call_function_entry (by decide +kernel) (by decide +kernel) kdk_entry_iter (kdk_args_iter _) ?_
  unfold Builtin.«iter»
  refine wpAny_bind (m := someArgs "iter" 1 2 _) (wpAny_of_eq (a := [Value.ref ax]) rfl ?_)
  show wpAny _ _ (pyIter (.ref ax) >>= _) _ _ _
  refine wpAny_bind (wpAny_pyIter_list hl (wpAny_pure ⟨_, rfl, _, ax, rfl, ⟨⟨_, Heap.get?_push_size _ rfl, rfl, rfl⟩, vs, hl.push _, ?_⟩, p.trans .push, new_none p, hax⟩))
  rw [dN_eq] at hr
  exact hr.intsAre
end
end Mine

namespace Mine
open PySem PySem.Calls PyProof.Rows PySem.W

section
variable {f : Fx} {Y : List Addr} {σ : Sg}
/-! _parse_varint(reader) as an expression -/
theorem evParse {I ax : Addr} {ns : List Nat} {j v : Nat} {r' : List Nat} {x y : Str} {np np' pos : Pos} {s : Shared} (S : St f Y σ s) (h : Itr I ax ns j s) (n0 : f.h₀.get? I = none) (nX : I ∉ Y ++ f.X₀) (nA : ax ∉ Y ++ f.X₀) (hp : vParse (ns.drop j) = some (v, r')) (hv : v < 2 ^ 50) (hn : 1 ≤ f.n) (hy : σ.lookup y = some (.im (.raw (.ref I))))
    (hx : x = (fn 3).name := by rfl) (hk : f.env.kindOf x = some .globalImplicit := by rfl) (hd : (x == ("__debug__" : Str)) = false := by decide) (he : starEach [.Name y np'] f.env = (false, eval (.Name y np') f.env) :: starEach [] f.env := by rfl) (hd' : (y == ("__debug__" : Str)) = false := by decide) (hc' : (y == ("__classdict__" : Str)) = false := by decide) :
    wpAny f.M f.A (eval (.Call (.Name x np) [.Name y np'] [] pos) f.env) (fun r s' => (∃ t, r = .int (v : Nat) t) ∧ (∃ j', ns.drop j' = r' ∧ Itr I ax ns j' s') ∧ Mv [I] s s') NoE s := by
  obtain ⟨mg, mb, q1, q2, q3, _⟩ := f.B.glob
  obtain ⟨a, o, pm, cd, doc, r1, r2, r3, r4⟩ := q3 _ (fn_mem 3 (by decide))
  have q1' : s.heap.Ns f.env.globals mg := S.frm.glo ▸ q1.keeps S.base
  refine Call_ (Name_function_global S.frm.fn hk (loadGlobal_global q1' (hx ▸ r1) ?_) hd)
  refine callWith_def r3 (args_cons (wNoE (Ev.name hy hd' hc' s S) fun u s1 h1 => args_nil ⟨h1.1.keep.all _ _ (S.base _ _ r2), ?_⟩) he) he
  obtain ⟨p1, rfl⟩ := h1
  have S1 := S.step p1
  exact wNoE (call_parse hn r2 r3 r4 S1.toOk S1.bare (h.keep (fun o e => p1.keep.all _ _ e) fun o e => p1.keep.all _ _ e) n0 nX nA hp hv) fun r s2 ⟨a, b, c⟩ => ⟨a, b, p1.wide.trans c⟩
theorem own_nonseq {s : Shared} (S : St f [] σ s) {a : Addr} {o : Obj} (e : s.heap.get? a = some o) (hs : isSeqObj o) : a ∉ own f.env [] := fun m => by
  rcases List.mem_cons.mp m with rfl | m
  · obtain ⟨_, hn⟩ := S.frm.ns; exact ns_nonseq hn e hs
  · obtain ⟨⟨x, c⟩, hm, rfl⟩ := List.mem_map.mp (by simpa using m : a ∈ f.env.cells.map (·.2))
    obtain ⟨_, hc⟩ := S.frm.cells x c hm
    exact cell_nonseq hc e hs

/-! reader = iter([..]); read = [_parse_varint(reader) for end in ends] -/
theorem runRead {out : List En} {s0 : Shared} {I ax : Addr} {scope : Scope} {pos apos p' ep np np' cpos : Pos} {x t y z : Str} (S0 : St f [] σ s0) (hn : 1 ≤ f.n) (h0 : Itr I ax (out.flatMap En.o) 0 s0) (n0 : f.h₀.get? I = none) (nO : I ∉ own f.env []) (nX : I ∉ f.X₀) (nA : ax ∉ f.X₀)
    (htape : ∀ pre e post, out = pre ++ e :: post → vParse ((e :: post).flatMap En.o) = some (e.n, post.flatMap En.o) ∧ e.n < 2 ^ 50) (hz : out.length ≤ 1000) {iter : Expr} (hit : IterOf f [] σ iter (out.map dE)) (hy : σ.lookup y = some (.im (.raw (.ref I)))) (hty : t ≠ y)
    (ok : CompOk f σ scope (clOf scope f.env) [(y, .im (.raw (.ref I)))] (.Name t ep) iter) (hp : Put f.env x) (hsw : swapsWith (.ListComp (.Call (.Name z np) [.Name y np'] [] cpos) [⟨.Name t ep, iter, [], 0⟩] scope pos) (some (.Name x p')) apos.line f.env = pure true)
    (hzn : z = (fn 3).name) (hk : ∀ C, (compEnvC scope (clOf scope f.env) C f.env).kindOf z = some .globalImplicit) (hd : (z == ("__debug__" : Str)) = false)
    (hd' : (y == ("__debug__" : Str)) = false) (hc' : (y == ("__classdict__" : Str)) = false) {Q : Flow → Shared → Prop}
    (q : ∀ s', St f [] ((x, .im (.lst (dN (out.map En.n)))) :: σ) s' → Mv (I :: own f.env []) s0 s' → Q .next s') :
    wpAny f.M f.A (exec (.Assign [.Name x p'] (.ListComp (.Call (.Name z np) [.Name y np'] [] cpos) [⟨.Name t ep, iter, [], 0⟩] scope pos) apos) f.env) Q NoE s0 := by
  have hzl : 2000 ≤ sizeLine := by decide
  obtain ⟨vs, ⟨oa, hoa, hca, na, hda⟩, hia⟩ := id h0.ls
  obtain ⟨oi, hoi, _, hdi⟩ := id h0.it
  have nOa : ax ∉ own f.env [] := own_nonseq S0 hoa ⟨_, _, hda⟩
  have hcl : ∀ b ∈ (clOf scope f.env).map (·.2), b ∈ own f.env [] := fun b m => by obtain ⟨q, mq, rfl⟩ := List.mem_map.mp m; exact own_cell (ok.clx q mq)
  refine comp_assign (V := [I]) (JA := [I, ax]) (J := fun pre s => ∃ j, (out.flatMap En.o).drop j = (out.drop pre.length).flatMap En.o ∧ Itr I ax (out.flatMap En.o) j s) (O := fun pre => dN ((out.take pre.length).map En.n)) S0 hit ok ⟨0, rfl, h0⟩ (fun pre s s' ⟨j, e, h⟩ k => ⟨j, e, h.keep (fun o => k I (by simp) o) fun o => k ax (by simp) o⟩)
    (fun b m => ?_) (fun b m => ?_) (fun a m => ?_) (fun pre s ⟨j, e, h⟩ a m => ?_) (fun C D hC hD => ⟨fun pre d post e => ?_⟩) rfl (by simpa using Nat.le_trans hz (by omega)) hp hsw (fun s' ⟨j, e, h⟩ p => ?_) fun s' S' _ p => ?_
  · rcases List.mem_cons.mp m with rfl | m
    · exact ⟨_, hoi⟩
    · rw [List.mem_singleton.mp m]; exact ⟨_, hoa⟩
  · rcases List.mem_cons.mp m with rfl | m
    · exact nO
    · rw [List.mem_singleton.mp m]; exact nOa
  · rw [List.mem_singleton.mp m]; exact ⟨_, hoi⟩
  · rw [List.mem_singleton.mp m]; exact h.nons
  · obtain ⟨a, q, e1, rfl, e2⟩ := map_at e
    have hdr : out.drop pre.length = a :: q := by
      conv => lhs; rw [e1]
      have : (out.take pre.length).length = pre.length := by
        have := congrArg List.length e
        simp at this ⊢; omega
      rw [← this]; simp
    obtain ⟨hp1, hp2⟩ := htape _ a q e1
    have hdr2 : out.drop (pre ++ [dE a]).length = q := by
      rw [List.length_append, ← List.drop_drop, hdr]; rfl
    have hIC : I ≠ C := fun q => by rw [← q, hoi] at hC; cases hC
    have hID : I ≠ D := fun q => by rw [← q, hoi] at hD; cases hD
    have hAD : ax ≠ D := fun q => by rw [← q, hoa] at hD; cases hD
    have nXc : I ∉ [] ++ (cfx f [] scope (clOf scope f.env) C D).X₀ := fun m => by
      rcases List.mem_cons.mp (show I ∈ D :: ([] ++ f.X₀) from m) with q | m
      · exact hID q
      · exact nX (by simpa using m)
    have nAc : ax ∉ [] ++ (cfx f [] scope (clOf scope f.env) C D).X₀ := fun m => by
      rcases List.mem_cons.mp (show ax ∈ D :: ([] ++ f.X₀) from m) with q | m
      · exact hAD q
      · exact nA (by simpa using m)
    have nOc : I ∉ own (cfx f [] scope (clOf scope f.env) C D).env [] := fun m => by
      rcases List.mem_cons.mp m with q | m
      · exact hIC q
      · exact nO (hcl I (by simpa [compEnvC] using m))
    refine ⟨_, true, rfl, .nil, (fun h => by cases h), fun _ => ⟨.int (a.n : Nat), by show dN _ = dN _ ++ _; rw [e2]; simp [dN], fun s S ⟨j, ej, hj⟩ => ?_⟩⟩
    rw [hdr] at ej
    refine wNoE (evParse (f := cfx f [] scope (clOf scope f.env) C D) (Y := []) S hj n0 nXc nAc (by rw [ej]; exact hp1) hp2 hn (by rw [lookup_cons_ne hty.symm]; exact lookup_cons_self) hzn (hk C) hd rfl hd' hc') fun r s' h => ?_
    obtain ⟨⟨tt, rfl⟩, ⟨j', ej', hj'⟩, p⟩ := h
    exact ⟨⟨tt, rfl⟩, p, S.one p hj.nons n0 nOc nXc, j', by rw [hdr2]; exact ej', hj'⟩
  · exact S0.one p ⟨oi, hoi, nonseq_fields hdi⟩ n0 nO (by simpa using nX)
  · refine q s' (by simpa using S') (p.mono (fun a m => ?_) (fun _ m => m))
    simpa using m
end
end Mine

namespace Mine
open PySem PySem.Calls PyProof.Rows PySem.W

theorem noMut_of {σ : Sg} (h : (σ.all fun p => match p.2 with | .im _ => true | .mut _ _ => false) = true := by rfl) : NoMut σ := fun x a l e => by
  have := List.all_eq_true.mp h _ (mem_of_lookup e)
  simp at this
theorem fresh_of {σ : Sg} {t : Expr} (h : ((tnames t).all fun x => (σ.lookup x).isNone) = true := by rfl) : ∀ x ∈ tnames t, σ.lookup x = none := fun x m => by simpa using List.all_eq_true.mp h x m
theorem meetsN_len (ps : List Pr) : (meetsN ps).length = 2 * ps.length := by
  unfold meetsN
  have : ∀ (qs : List Pr) (m : List Nat), (qs.foldl (fun m p => (joinsN (2 * ps.length) p).foldl joinStep m) m).length = m.length := by
    intro qs
    induction qs with
    | nil => intro m; rfl
    | cons q r ih => intro m; rw [List.foldl_cons, ih, joins_len]
  rw [this]; simp
theorem sum_cast {α : Type} (g : α → Nat) : ∀ l : List α, (l.map fun k => ((g k : Nat) : Int)).sum = (((l.map g).sum : Nat) : Int)
  | [] => rfl
  | a :: l => by simp only [List.map_cons, List.sum_cons]; rw [sum_cast g l]; push_cast; rfl
set_option maxHeartbeats 4000000 in
theorem law_ex {sc : List Int} {out : List En} {a b : Nat → Nat} {c : Nat → Nat → Bool} (K : LawOk sc out a b c) (hz : sc.length ≤ 1000) (f : Fx) (X : List Addr) (L aa : Addr) (cd : Value) (hn : 1 ≤ f.n) (hk : 14 ≤ f.n) :
    Ex (dfx f X (envOfC (fn 12).name (fn 12).scope L aa cd) hn) [] (zipS ["script"] [.lst (dI sc)]) (fn 12).body fun r _ _ => r = .ret (.bool true) := by
  have hzl : 100000 ≤ sizeLine := by decide
  have hps5 := K.n5
  have hps1 := K.n1
  have hol : out.length = 2 * (pairsN sc).length := by rw [K.perm.length_eq, ends0_len]
  refine Ex.cons (Ex1.assign (Ev.callF (spec_pairs hz) (Evs.cons (Ev.name rfl) .nil) (by show 1 ≤ f.n - 1; lia) rfl (fn_mem 5 (by decide))) ?_)
  refine Ex.cons (Ex1.assign (Ev.callF (spec_ends K.lab K.perm K.sort hps1 (by lia)) (Evs.cons (Ev.name rfl) .nil) (by show 2 ≤ f.n - 1; lia) rfl (fn_mem 7 (by decide))) ?_)
  have htl : (out.flatMap En.o).length ≤ 100000 := by
    have : ∀ l : List En, (∀ e ∈ l, e.o.length ≤ 10) → (l.flatMap En.o).length ≤ 10 * l.length := by
      intro l
      induction l with
      | nil => intro _; simp
      | cons x r ih =>
        intro h
        have h1 := h x (by simp)
        have h2 := ih fun e m => h e (List.mem_cons_of_mem _ m)
        simp only [List.flatMap_cons, List.length_append, List.length_cons]; lia
    have := this out K.olen
    lia
  intro s S
  refine wpAny_execs_cons (wpAny_Assign_Name (wNoE (evIter (ns := out.flatMap En.o) (Ev.eq (Ev.comp2 (rows := out) (k := dE) (σ₁ := []) (rows2 := En.o) (k2 := fun (n : Nat) => D.int (n : Int)) (g := fun (n : Nat) => D.int (n : Int)) (IterOf.list (Ev.name rfl)) (.of .nil tgWs) tgW (fun C x => rfl) (fun C _ e he => ⟨_, rfl, noMut_of, fresh_of, IterOf.list (Ev.name rfl), fun o ho => ⟨_, rfl, noMut_of, Ev.name rfl⟩⟩) htl) rfl) rfl S) fun v s1 h1 => ?_) (by rfl))
  obtain ⟨I, ax, rfl, hI, p1, nI, nA⟩ := h1
  have S1 := S.step p1
  refine store (x := "reader") (d := .im (.raw (.ref I))) S1 (.inr ⟨rfl, rfl⟩) rfl fun s2 S2 p2 => ?_
  have nO : I ∉ own (dfx f X (envOfC (fn 12).name (fn 12).scope L aa cd) hn).env [] := fun m => by obtain ⟨o, e⟩ := S.owns I m; rw [nI] at e; cases e
  have i2 := hI.after S1 p2 nO nA
  have n0 : (dfx f X (envOfC (fn 12).name (fn 12).scope L aa cd) hn).h₀.get? I = none := by
    cases e : (dfx f X (envOfC (fn 12).name (fn 12).scope L aa cd) hn).h₀.get? I with
    | none => rfl
    | some o => have := S.base I o e; rw [nI] at this; cases this
  refine wpAny_execs_cons (runRead (out := out) (I := I) (ax := ax) S2 (by show 1 ≤ f.n - 1; lia) i2 n0 nO (fun m => S.toOk.fresh nI (by simpa using m)) (by simpa using nA) K.tape (by lia) (IterOf.list (Ev.name rfl)) rfl (by decide) (.of (.add .nil) tgW) (.inl rfl) rfl rfl (fun C => rfl) (by decide) (by decide) (by decide) fun s3 S3 p3 => ?_)
  have rest : ∀ {ss : List Stmt}, Ex (dfx f X (envOfC (fn 12).name (fn 12).scope L aa cd) hn) [] [("pairs", .im (.lst ((pairsN sc).map dP))), ("ends", .im (.lst (out.map dE))), ("read", .im (.lst (dN (out.map En.n))))] ss (fun r _ _ => r = .ret (.bool true)) →
      wpAny (dfx f X (envOfC (fn 12).name (fn 12).scope L aa cd) hn).M (dfx f X (envOfC (fn 12).name (fn 12).scope L aa cd) hn).A (execs ss (dfx f X (envOfC (fn 12).name (fn 12).scope L aa cd) hn).env) (ExR (dfx f X (envOfC (fn 12).name (fn 12).scope L aa cd) hn) [] s fun r _ _ => r = .ret (.bool true)) NoE s3 := fun {ss} h => by
    refine wNoE (h s3 (S3.forget (show Has _ [("pairs", .im (.lst ((pairsN sc).map dP))), ("ends", .im (.lst (out.map dE))), ("read", .im (.lst (dN (out.map En.n))))] from .cons (.cons (.cons .nil))))) fun fl s' hR => ?_
    obtain ⟨r, Y', σ', hr, S', p', y, q⟩ := hR
    refine ⟨r, Y', σ', hr, S', ?_, fun b m => (y b m).imp id fun n => ?_, q⟩
    · have p13 : Mv (own (dfx f X (envOfC (fn 12).name (fn 12).scope L aa cd) hn).env []) s s3 := (p1.wide.trans p2).since p3 (fun x m => by
        rcases List.mem_cons.mp m with rfl | m
        · exact .inr nI
        · exact .inl m) (fun _ m => nomatch m)
      exact p13.trans p'
    · cases e : s.heap.get? b with
      | none => rfl
      | some o =>
        exfalso
        by_cases hbI : b = I
        · subst hbI; rw [nI] at e; cases e
        by_cases hbo : b ∈ own (dfx f X (envOfC (fn 12).name (fn 12).scope L aa cd) hn).env []
        · obtain ⟨o', e'⟩ := S3.owns b hbo; rw [n] at e'; cases e'
        · have := p3.keep b o (fun m => by
            rcases List.mem_cons.mp m with q | m
            · exact hbI q
            · exact hbo m) (p2.keep b o hbo (p1.keep.all b o e))
          rw [n] at this; cases this
  refine rest ?_
  refine Ex.cons (Ex1.if_ (b := false) ((Tt.cmp (Ev.name rfl) (Ev.eq (d' := .lst (dN (out.map En.n))) (Ev.compN (rows := out) (k := dE) (σ₁ := []) (fun _ => true) (fun e => .int (e.n : Nat)) (IterOf.list (Ev.name rfl)) (.of .nil tgWs) (fun C _ e he => ⟨_, rfl, .nil, fun _ => Ev.name rfl⟩) (by lia)) (by rw [filter_tt]; simp [dN])) (Bin.neL (by show 2 ≤ f.n - 1; lia))).eq (by simp)) (fun h => by cases h) fun _ => Ex.nil ?_)
  refine Ex.cons (Ex1.compN (rows := out) (k := dE) (σ₁ := []) (fun _ => true) (fun e => .str (tx e.o)) (IterOf.list (Ev.name rfl)) (.of .nil tgWs) (fun C _ e he => ⟨_, rfl, .nil, fun _ => ?_⟩) (by lia) ?_)
  · have hl10 := K.olen e he
    have h128 := K.oct e he
    refine Ev.eq (Ev.join (x := tx []) Ev.cStr (Ev.eq (d' := .lst (dS (e.o.map fun o => tx [o]))) (Ev.compN (rows := e.o) (k := fun (n : Nat) => D.int (n : Int)) (σ₁ := []) (fun _ => true) (fun o => .str (tx [o])) (IterOf.list (Ev.name rfl)) (.of .nil tgW) (fun C _ o ho => ⟨_, rfl, .nil, fun _ => Ev.callB (by decide +kernel) (Evs.cons (Ev.name rfl) .nil) (CallOf.chr (by lia) (by have := h128 o ho; lia))⟩) (by lia)) (by rw [filter_tt]; simp [dS])) (joinOk_of (n := 1) (k := 10) (by
      intro x hx
      obtain ⟨o, _, rfl⟩ := List.mem_map.mp hx
      rw [tx_len]; exact Nat.le_refl _) (by simpa using hl10) (by decide))) ?_
    rw [show (e.o.map fun o => tx [o]) = (e.o.map fun o => [o]).map tx by simp, join_tx]
    congr 2
    have : ∀ l : List Nat, (l.map fun o => [o]).flatten = l := by
      intro l
      induction l with
      | nil => rfl
      | cons a r ih => simp only [List.map_cons, List.flatten_cons]; rw [ih]; rfl
    exact this _
  rw [filter_tt, show (out.map fun e => D.str (tx e.o)) = dS ((out.map En.o).map tx) by simp [dS]]
  refine Ex.cons (Ex1.assign (Ev.callF (spec_table K.tab) (Evs.cons (Ev.name rfl) (Evs.cons (Ev.name rfl) .nil)) (by show 11 ≤ f.n - 1; lia) rfl (fn_mem 9 (by decide))) ?_)
  have hrl : (dN ((List.range (pairsN sc).length).map (rowN (out.map En.n) (pairsN sc).length b c))).length = (pairsN sc).length := by rw [dN_len]; simp
  have hpl : ((pairsN sc).map dP).length = (pairsN sc).length := by simp
  refine Ex.cons (Ex1.if_ (b := false) ((Tt.cmp (Ev.callB (by decide +kernel) (Evs.cons (Ev.name rfl) .nil) (CallOf.lenL (by rw [hrl]; lia))) (Ev.callB (by decide +kernel) (Evs.cons (Ev.name rfl) .nil) (CallOf.lenL (by rw [hpl]; lia))) Bin.neI).eq (by rw [hrl, hpl]; simp)) (fun h => by cases h) fun _ => Ex.nil ?_)
  refine Ex.cons (Ex1.assign (Ev.callF (spec_meets K.mts (by lia)) (Evs.cons (Ev.name rfl) .nil) (by show 1 ≤ f.n - 1; lia) rfl (fn_mem 10 (by decide))) ?_)
  have hml := meetsN_len (pairsN sc)
  have hpar := K.par
  have hrank := K.rank
  have hmts := K.mts
  have hrows := K.rows
  have hrd : (List.range (pairsN sc).length).map (rowN (out.map En.n) (pairsN sc).length b c) = rowsN out (pairsN sc).length b c := rfl
  rw [hrd] at hrl ⊢
  generalize hps : pairsN sc = ps at *
  generalize hM : meetsN ps = m at *
  generalize hR : rowsN out ps.length b c = rw at *
  have hmd : (dN m).length = m.length := dN_len m
  refine Ex.cons (Ex1.compN (rows := List.range m.length) (k := fun (n : Nat) => D.int (n : Int)) (σ₁ := [("meets", .im (.lst (dN m)))]) (fun x => m.any (· == x)) (fun (x : Nat) => .int (x : Int)) (IterOf.rangeN ((Ev.callB (by decide +kernel) (Evs.cons (Ev.name rfl) .nil) (CallOf.lenL (by rw [hmd]; lia))).eq (congrArg D.int (by rw [hmd])))) (.of (.add .nil) tgW) (fun C _ x hx => ⟨_, rfl, Tests.one (Tt.eq (Tt.cmp (Ev.name rfl) (Ev.eq (Ev.name rfl) (congrArg D.lst (dN_eq m))) Bin.inInts) ?_), fun _ => Ev.name rfl⟩) (by simp; lia) ?_)
  · rw [List.any_map]; congr 1; funext y; exact eqN y _
  rw [show (((List.range m.length).filter fun x => m.any (· == x)).map fun (x : Nat) => D.int (x : Int)) = dN (cornersN m) from rfl]
  have hcl : (cornersN m).length ≤ 10 := by
    unfold cornersN
    exact Nat.le_trans (List.length_filter_le _ _) (by simp; lia)
  refine Ex.cons (Ex1.forN (rows := cornersN m) (g := fun (k : Nat) => D.int (k : Int)) (IterOf.list (Ev.name rfl)) (fun p σ' => Has σ' [("pairs", .im (.lst (ps.map dP))), ("rows", .im (.lst (dN rw))), ("meets", .im (.lst (dN m))), ("corners", .im (.lst (dN (cornersN m))))])
    (.cons (.cons (.cons (.cons .nil)))) ?_ ?_ (.inr ⟨rfl, rfl⟩))
  · rintro p x q σ' e1 H
    have hx : x ∈ cornersN m := by rw [e1]; simp
    refine ⟨_, rfl, Ex.has (τ := ("corner", .im (.int (x : Nat))) :: [("pairs", .im (.lst (ps.map dP))), ("rows", .im (.lst (dN rw))), ("meets", .im (.lst (dN m))), ("corners", .im (.lst (dN (cornersN m))))]) ?_ (.cons (.cons (.cons (.cons (.cons .nil (H _ _ rfl)) (H _ _ rfl)) (H _ _ rfl)) (H _ _ rfl)))⟩
    have hpk : ∀ k, k < ps.length → ∃ pr, ps[k]? = some pr ∧ (ps.map dP)[k]? = some (.tup [.int pr.a, .int pr.b, .int pr.t, .int pr.l]) ∧ prA ps k = pr.a ∧ pr.a + 1 < m.length := fun k hk => by
      have hm := hmts ps[k] (List.getElem_mem hk)
      refine ⟨ps[k], by simp [hk], by simp [hk, dP], by simp [prA, hk], by lia⟩
    refine Ex.cons (Ex1.assign (Ev.eq (d' := .int (cutN ps m x : Nat)) (Ev.callB (by decide +kernel) (Evs.cons (Ev.eq (d' := .lst (dI (((List.range ps.length).filter (cutB ps m x)).map fun k => ((2 ^ k : Nat) : Int)))) (Ev.compN (rows := List.range ps.length) (k := fun (n : Nat) => D.int (n : Int)) (σ₁ := [("corner", .im (.int (x : Nat))), ("meets", .im (.lst (dN m))), ("pairs", .im (.lst (ps.map dP)))]) (cutB ps m x) (fun k => .int ((2 ^ k : Nat) : Int)) (IterOf.rangeN ((Ev.callB (by decide +kernel) (Evs.cons (Ev.name rfl) .nil) (CallOf.lenL (by rw [hpl]; lia))).eq (congrArg D.int (by rw [hpl])))) (.of (.add (.add (.add .nil))) tgW) (fun C _ k hk => ?_) (by simp; lia)) (by simp [dI])) .nil) CallOf.sum) (congrArg D.int (sum_cast (fun k => 2 ^ k) _))) ?_)
    · have hkl := List.mem_range.mp hk
      obtain ⟨pr, h1, h2, h3, h4⟩ := hpk k hkl
      refine ⟨_, rfl, Tests.one (Tt.eq (Tt.cmp (Ev.cmp (Ev.sub (Ev.name rfl) (Ev.sub (Ev.sub (Ev.name rfl) (Ev.name rfl) (Sub.list h2 (by lia))) Ev.cInt (Sub.tup (i := 0) rfl (by lia))) (Sub.list (dN_get (by lia)) (by lia))) (Ev.name rfl) Bin.eqI) (Ev.cmp (Ev.sub (Ev.name rfl) (Ev.eq (d' := .int ((pr.a + 1 : Nat) : Int)) (Ev.bin (Ev.sub (Ev.sub (Ev.name rfl) (Ev.name rfl) (Sub.list h2 (by lia))) Ev.cInt (Sub.tup (i := 0) rfl (by lia))) Ev.cInt Bin.add) (by push_cast; rfl)) (Sub.list (dN_get (by lia)) (by lia))) (Ev.name rfl) Bin.eqI) Bin.eqB) ?_), fun _ => Ev.eq (Ev.bin Ev.cInt (Ev.name rfl) (Bin.shl (by lia) (by lia) (by decide))) ?_⟩
      · rw [eqN, eqN, cutB, h3]
      · show D.int (1 * 2 ^ ((k : Nat) : Int).toNat) = D.int _
        push_cast; simp
    refine Ex.cons (Ex1.forN (rows := rw) (g := fun (k : Nat) => D.int (k : Int)) (IterOf.list (Ev.name rfl)) (fun p2 σ' => Has σ' [("cut", .im (.int (cutN ps m x : Nat))), ("pairs", .im (.lst (ps.map dP))), ("rows", .im (.lst (dN rw))), ("meets", .im (.lst (dN m))), ("corners", .im (.lst (dN (cornersN m))))])
      (.cons (.cons (.cons (.cons (.cons .nil))))) ?_ ?_ (.inr ⟨rfl, rfl⟩))
    · rintro p2 r q2 σ' e2 H
      have hr : r ∈ rw := by rw [e2]; simp
      have hp0 := hpar x hx r hr
      refine ⟨_, rfl, Ex.has (τ := ("row", .im (.int (r : Nat))) :: [("cut", .im (.int (cutN ps m x : Nat))), ("pairs", .im (.lst (ps.map dP))), ("rows", .im (.lst (dN rw))), ("meets", .im (.lst (dN m))), ("corners", .im (.lst (dN (cornersN m))))]) ?_ (.cons (.cons (.cons (.cons (.cons (.cons .nil (H _ _ rfl)) (H _ _ rfl)) (H _ _ rfl)) (H _ _ rfl)) (H _ _ rfl)))⟩
      generalize cutN ps m x = cu at hp0 ⊢
      refine Ex.cons (Ex1.if_ (b := false) ((Tt.cmp (Ev.eq (d' := .int (parN ps.length cu r % 2 : Nat)) (Ev.bin (Ev.eq (d' := .int (parN ps.length cu r : Nat)) (Ev.callB (by decide +kernel) (Evs.cons (Ev.eq (d' := .lst (dI ((List.range ps.length).map fun k => ((((cu &&& r) >>> k) &&& 1 : Nat) : Int)))) (Ev.compN (rows := List.range ps.length) (k := fun (n : Nat) => D.int (n : Int)) (σ₁ := [("row", .im (.int (r : Nat))), ("cut", .im (.int (cu : Nat)))]) (fun _ => true) (fun k => .int ((((cu &&& r) >>> k) &&& 1 : Nat) : Int)) (IterOf.rangeN ((Ev.callB (by decide +kernel) (Evs.cons (Ev.name rfl) .nil) (CallOf.lenL (by rw [hpl]; lia))).eq (congrArg D.int (by rw [hpl])))) (.of (.add (.add .nil)) tgW) (fun C _ k hk => ⟨_, rfl, .nil, fun _ => Ev.eq (Ev.bin (Ev.eq (d' := .int ((cu &&& r) >>> k : Nat)) (Ev.bin (Ev.eq (Ev.bin (Ev.name rfl) (Ev.name rfl) Bin.and) (congrArg D.int (bitAnd_nat cu r))) (Ev.name rfl) (Bin.shr (by lia))) ?_) Ev.cInt Bin.and) (congrArg D.int (bitAnd_nat _ 1))⟩) (by simp; lia)) (by rw [filter_tt]; simp [dI])) .nil) CallOf.sum) (congrArg D.int (sum_cast (fun k => ((cu &&& r) >>> k) &&& 1) _))) Ev.cInt (Bin.mod (by decide))) (congrArg D.int (fmodN _ 2))) Ev.cInt Bin.neI).eq ?_) (fun h => by cases h) fun _ => Ex.nil (Ex.nil ⟨rfl, .cons (.cons (.cons (.cons (.cons .nil))))⟩))
      · refine congrArg D.int ?_
        rw [Int.toNat_natCast, Nat.shiftRight_eq_div_pow]
        have : ((2 : Int) ^ k) = ((2 ^ k : Nat) : Int) := by push_cast; rfl
        rw [this, fdivN]
      · rw [hp0]; rfl
    · rintro σ' H
      exact Ex.nil ⟨rfl, .cons (.cons (.cons (.cons .nil (H _ _ rfl)) (H _ _ rfl)) (H _ _ rfl)) (H _ _ rfl)⟩
  · rintro σ' H
    refine Ex.cons (Ex1.ret (Ev.eq (d' := .bool true) (Ev.cmp (Ev.callF (spec_rank hrows (by
      have := hrl; rw [dN_len] at this; lia)) (Evs.cons (Ev.name (H _ _ rfl)) .nil) (by show 1 ≤ f.n - 1; lia) rfl (fn_mem 11 (by decide))) (Ev.bin (Ev.bin (Ev.callB (by decide +kernel) (Evs.cons (Ev.name (H _ _ rfl)) .nil) (CallOf.lenL (by rw [hpl]; lia))) Ev.cInt Bin.add) (Ev.callB (by decide +kernel) (Evs.cons (Ev.name (H _ _ rfl)) .nil) (CallOf.lenL (by rw [dN_len]; lia))) Bin.sub) Bin.eqI) ?_) rfl)
    rw [hpl, dN_len, hrank]; simp
end Mine

namespace Mine

/-! plain linear algebra over two elements, on bits of Nats -/
noncomputable def xorTo (n : Nat) (g : Nat → Bool) : Bool := (List.range n).foldl (fun acc k => acc ^^ g k) false
theorem xorTo_succ (n : Nat) (g : Nat → Bool) : xorTo (n + 1) g = (xorTo n g ^^ g n) := by simp [xorTo, List.range_succ]
theorem xorTo_xor (g h : Nat → Bool) : ∀ n, xorTo n (fun k => g k ^^ h k) = (xorTo n g ^^ xorTo n h)
  | 0 => rfl
  | n + 1 => by
    rw [xorTo_succ, xorTo_succ, xorTo_succ, xorTo_xor g h n]
    cases xorTo n g <;> cases xorTo n h <;> cases g n <;> cases h n <;> rfl
theorem xorTo_congr {g h : Nat → Bool} : ∀ {n : Nat}, (∀ k, k < n → g k = h k) → xorTo n g = xorTo n h
  | 0, _ => rfl
  | n + 1, e => by rw [xorTo_succ, xorTo_succ, xorTo_congr (fun k hk => e k (by omega)), e n (by omega)]
theorem xorTo_zero : ∀ n, xorTo n (fun _ => false) = false
  | 0 => rfl
  | n + 1 => by rw [xorTo_succ, xorTo_zero n]; rfl
theorem xorTo_one {i : Nat} (g : Nat → Bool) : ∀ {n : Nat}, i < n → xorTo n (fun k => decide (k = i) && g k) = g i
  | 0, h => by omega
  | n + 1, h => by
    rw [xorTo_succ]
    by_cases e : i = n
    · subst e
      rw [xorTo_congr (h := fun _ => false) (fun k hk => by simp; omega), xorTo_zero]
      simp
    · rw [xorTo_one g (by omega)]
      simp [show n ≠ i by omega]
noncomputable def dotB (n x r : Nat) : Bool := xorTo n fun k => x.testBit k && r.testBit k
theorem dotB_xor (n x y r : Nat) : dotB n (x ^^^ y) r = (dotB n x r ^^ dotB n y r) := by
  unfold dotB
  rw [← xorTo_xor]
  refine xorTo_congr fun k _ => ?_
  rw [Nat.testBit_xor]
  cases x.testBit k <;> cases y.testBit k <;> cases r.testBit k <;> rfl
theorem dotB_xor_r (n x r s : Nat) : dotB n x (r ^^^ s) = (dotB n x r ^^ dotB n x s) := by
  unfold dotB
  rw [← xorTo_xor]
  refine xorTo_congr fun k _ => ?_
  rw [Nat.testBit_xor]
  cases x.testBit k <;> cases r.testBit k <;> cases s.testBit k <;> rfl
/-! the leading bit is cleared -/
theorem bit_above {u i : Nat} (h : u.log2 < i) : u.testBit i = false :=
  Nat.testBit_lt_two_pow (Nat.lt_of_lt_of_le Nat.lt_log2_self (Nat.pow_le_pow_right (by omega) h))
theorem lt_of_bits {x y i : Nat} (hx : x.testBit i = false) (hy : y.testBit i = true) (h : ∀ j, i < j → x.testBit j = y.testBit j) : x < y := by
  have e : x / 2 ^ (i + 1) = y / 2 ^ (i + 1) := Nat.eq_of_testBit_eq fun j => by rw [Nat.testBit_div_two_pow, Nat.testBit_div_two_pow]; exact h _ (by omega)
  rw [Nat.pow_succ, ← Nat.div_div_eq_div_mul, ← Nat.div_div_eq_div_mul] at e
  rw [Nat.testBit_eq_decide_div_mod_eq] at hx hy
  have hx' : (x / 2 ^ i) % 2 ≠ 1 := by simpa using hx
  have hy' : (y / 2 ^ i) % 2 = 1 := by simpa using hy
  have hlt : x / 2 ^ i < y / 2 ^ i := by omega
  refine Nat.lt_of_not_le fun hle => ?_
  have := Nat.div_le_div_right (c := 2 ^ i) hle
  omega
theorem red_bit {u l : Nat} (hu : u ≠ 0) : (if l ^^^ u < l then l ^^^ u else l).testBit u.log2 = false := by
  have hp : u.testBit u.log2 = true := Nat.testBit_log2 hu
  have hx : (l ^^^ u).testBit u.log2 = !l.testBit u.log2 := by rw [Nat.testBit_xor, hp]; cases l.testBit u.log2 <;> rfl
  have hj : ∀ j, u.log2 < j → (l ^^^ u).testBit j = l.testBit j := fun j h => by rw [Nat.testBit_xor, bit_above h]; simp
  cases hl : l.testBit u.log2 with
  | true =>
    rw [hl] at hx
    have : l ^^^ u < l := lt_of_bits hx hl hj
    rw [if_pos this]; exact hx
  | false =>
    rw [hl] at hx
    have : l < l ^^^ u := lt_of_bits hl hx fun j h => (hj j h).symm
    rw [if_neg (by omega)]; exact hl

theorem dotB_pow {n p : Nat} (h : p < n) (r : Nat) : dotB n (2 ^ p) r = r.testBit p := by
  unfold dotB
  rw [xorTo_congr (h := fun k => decide (k = p) && r.testBit k) (fun k _ => by rw [Nat.testBit_two_pow]; congr 1; simp [eq_comm])]
  exact xorTo_one _ h
structure Ech (kept : List Nat) : Prop where
  ne : ∀ u ∈ kept, u ≠ 0
  pw : kept.Pairwise fun u v => v.testBit u.log2 = false
theorem Ech.tail {u : Nat} {r : List Nat} (h : Ech (u :: r)) : Ech r := ⟨fun v m => h.ne v (List.mem_cons_of_mem _ m), (List.pairwise_cons.mp h.pw).2⟩
theorem redN_cons (u : Nat) (r : List Nat) (l : Nat) : redN (u :: r) l = redN r (if l ^^^ u < l then l ^^^ u else l) := rfl
theorem red_keep {p : Nat} : ∀ (r : List Nat) (l : Nat), (∀ v ∈ r, v.testBit p = false) → l.testBit p = false → (redN r l).testBit p = false
  | [], l, _, h => h
  | u :: r, l, hr, h => by
    rw [redN_cons]
    refine red_keep r _ (fun v m => hr v (List.mem_cons_of_mem _ m)) ?_
    split
    · rw [Nat.testBit_xor, h, hr u (by simp)]; rfl
    · exact h
theorem red_clears : ∀ (kept : List Nat) (l : Nat), Ech kept → ∀ u ∈ kept, (redN kept l).testBit u.log2 = false
  | u :: r, l, h, v, m => by
    rw [redN_cons]
    rcases List.mem_cons.mp m with rfl | m
    · exact red_keep r _ (List.pairwise_cons.mp h.pw).1 (red_bit (h.ne v (by simp)))
    · exact red_clears r _ h.tail v m
theorem red_dot {n x : Nat} : ∀ (kept : List Nat) (l : Nat), (∀ u ∈ kept, dotB n x u = false) → dotB n x (redN kept l) = dotB n x l
  | [], _, _ => rfl
  | u :: r, l, h => by
    rw [redN_cons, red_dot r _ (fun v m => h v (List.mem_cons_of_mem _ m))]
    split
    · rw [dotB_xor_r, h u (by simp)]; simp
    · rfl
theorem exists_dual {n : Nat} : ∀ (kept : List Nat) (l : Nat), Ech kept → (∀ u ∈ kept, u.log2 < n) → l ≠ 0 → l.log2 < n → (∀ u ∈ kept, l.testBit u.log2 = false) → ∃ z, z < 2 ^ n ∧ (∀ u ∈ kept, dotB n z u = false) ∧ dotB n z l = true
  | [], l, _, _, hl, hn, _ => ⟨2 ^ l.log2, Nat.pow_lt_pow_right (by omega) hn, by simp, by rw [dotB_pow hn]; exact Nat.testBit_log2 hl⟩
  | u :: r, l, h, hu, hl, hn, hb => by
    obtain ⟨z, hz, h1, h2⟩ := exists_dual r l h.tail (fun v m => hu v (List.mem_cons_of_mem _ m)) hl hn (fun v m => hb v (List.mem_cons_of_mem _ m))
    have hun := hu u (by simp)
    cases hd : dotB n z u with
    | false => exact ⟨z, hz, fun v m => (List.mem_cons.mp m).elim (fun e => e ▸ hd) (h1 v), h2⟩
    | true =>
      refine ⟨z ^^^ 2 ^ u.log2, Nat.xor_lt_two_pow hz (Nat.pow_lt_pow_right (by omega) hun), fun v m => ?_, ?_⟩
      · rw [dotB_xor, dotB_pow hun]
        rcases List.mem_cons.mp m with rfl | m
        · rw [hd, Nat.testBit_log2 (h.ne v (by simp))]; rfl
        · rw [h1 v m, (List.pairwise_cons.mp h.pw).1 v m]; rfl
      · rw [dotB_xor, dotB_pow hun, h2, hb u (by simp)]; rfl
end Mine

namespace Mine

noncomputable def cnt (n : Nat) (p : Nat → Bool) : Nat := ((List.range (2 ^ n)).filter p).length
theorem nodup_map {α β : Type} {g : α → β} (hg : ∀ a b, g a = g b → a = b) : ∀ {l : List α}, l.Nodup → (l.map g).Nodup
  | [], _ => by simp
  | a :: l, h => by
    obtain ⟨h1, h2⟩ := List.nodup_cons.mp h
    rw [List.map_cons, List.nodup_cons]
    refine ⟨fun m => ?_, nodup_map hg h2⟩
    obtain ⟨b, hb, e⟩ := List.mem_map.mp m
    exact h1 (hg _ _ e ▸ hb)
theorem length_eq_of_mem {α : Type} [DecidableEq α] {l l' : List α} (h : l.Nodup) (h' : l'.Nodup) (e : ∀ a, a ∈ l ↔ a ∈ l') : l.length = l'.length :=
  ((List.perm_ext_iff_of_nodup h h').mpr e).length_eq
theorem cnt_half {n z : Nat} {p q : Nat → Bool} (hz : z < 2 ^ n) (hp : ∀ x, x < 2 ^ n → p (x ^^^ z) = p x) (hq : ∀ x, x < 2 ^ n → q (x ^^^ z) = !q x) : cnt n p = 2 * cnt n fun x => p x && !q x := by
  have e1 : cnt n p = (cnt n fun x => p x && q x) + cnt n fun x => p x && !q x := by
    unfold cnt
    generalize List.range (2 ^ n) = l
    induction l with
    | nil => rfl
    | cons a r ih =>
      simp only [List.filter_cons]
      cases p a <;> cases q a <;> simp <;> omega
  have e2 : (cnt n fun x => p x && q x) = cnt n fun x => p x && !q x := by
    unfold cnt
    rw [← List.length_map (f := fun x => x ^^^ z)]
    refine length_eq_of_mem (nodup_map (fun a b h => ?_) (List.nodup_range.filter _)) (List.nodup_range.filter _) fun a => ?_
    · have := congrArg (· ^^^ z) h
      simpa [Nat.xor_assoc] using this
    · simp only [List.mem_map, List.mem_filter, List.mem_range, Bool.and_eq_true]
      constructor
      · rintro ⟨x, ⟨h1, h2, h3⟩, rfl⟩
        exact ⟨Nat.xor_lt_two_pow h1 hz, by rw [hp x h1]; exact h2, by rw [hq x h1, h3]; rfl⟩
      · rintro ⟨h1, h2, h3⟩
        refine ⟨a ^^^ z, ⟨Nat.xor_lt_two_pow h1 hz, by rw [hp a h1]; exact h2, by rw [hq a h1]; exact h3⟩, by simp [Nat.xor_assoc]⟩
  omega

noncomputable def kerB (n : Nat) (rows : List Nat) (x : Nat) : Bool := rows.all fun r => !dotB n x r
theorem dotB_zero (n x : Nat) : dotB n x 0 = false := by
  unfold dotB
  rw [xorTo_congr (h := fun _ => false) (fun k _ => by simp), xorTo_zero]
theorem redN_lt2 {n : Nat} : ∀ (kept : List Nat) (l : Nat), (∀ u ∈ kept, u < 2 ^ n) → l < 2 ^ n → redN kept l < 2 ^ n
  | [], _, _, h => h
  | u :: r, l, hu, h => by
    rw [redN_cons]
    refine redN_lt2 r _ (fun v m => hu v (List.mem_cons_of_mem _ m)) ?_
    split
    · exact Nat.xor_lt_two_pow h (hu u (by simp))
    · exact h
theorem log2_lt_of {n u : Nat} (hu : u ≠ 0) (h : u < 2 ^ n) : u.log2 < n := (Nat.log2_lt hu).mpr h
structure KInv (n : Nat) (kept : List Nat) : Prop where
  ech : Ech kept
  lt : ∀ u ∈ kept, u < 2 ^ n
  cnt : cnt n (kerB n kept) * 2 ^ kept.length = 2 ^ n
theorem cnt_congr {n : Nat} {p q : Nat → Bool} (h : ∀ x, p x = q x) : Mine.cnt n p = Mine.cnt n q := by
  have : p = q := funext h
  rw [this]
theorem KInv.nil (n : Nat) : KInv n [] := ⟨⟨by simp, .nil⟩, by simp, by
  have : Mine.cnt n (kerB n []) = 2 ^ n := by
    unfold Mine.cnt
    have : (List.range (2 ^ n)).filter (kerB n []) = List.range (2 ^ n) := List.filter_eq_self.mpr fun _ _ => rfl
    rw [this, List.length_range]
  rw [this]; simp⟩
theorem KInv.step {n : Nat} {kept : List Nat} {row : Nat} (K : KInv n kept) (hr : row < 2 ^ n) : KInv n (rankStep kept row) ∧ ∀ x, kerB n (rankStep kept row) x = (kerB n kept x && !dotB n x row) := by
  have hred : ∀ x, kerB n kept x = true → dotB n x (redN kept row) = dotB n x row := fun x hx => red_dot kept row fun u m => by
    have := List.all_eq_true.mp hx u m; simpa using this
  unfold rankStep
  by_cases h0 : redN kept row = 0
  · rw [if_pos h0]
    refine ⟨K, fun x => ?_⟩
    cases hx : kerB n kept x with
    | false => rfl
    | true => rw [← hred x hx, h0, dotB_zero]; rfl
  · rw [if_neg h0]
    have hker : ∀ x, kerB n (kept ++ [redN kept row]) x = (kerB n kept x && !dotB n x row) := fun x => by
      show (kept ++ [redN kept row]).all _ = _
      rw [List.all_append]
      show (kerB n kept x && _) = _
      cases hx : kerB n kept x with
      | false => rfl
      | true => simp [hred x hx]
    have hlt := redN_lt2 kept row K.lt hr
    have hcl := red_clears kept row K.ech
    refine ⟨⟨⟨fun u m => ?_, ?_⟩, fun u m => ?_, ?_⟩, hker⟩
    · rcases List.mem_append.mp m with m | m
      · exact K.ech.ne u m
      · rw [List.mem_singleton.mp m]; exact h0
    · rw [List.pairwise_append]
      exact ⟨K.ech.pw, by simp, fun u hu v hv => by rw [List.mem_singleton.mp hv]; exact hcl u hu⟩
    · rcases List.mem_append.mp m with m | m
      · exact K.lt u m
      · rw [List.mem_singleton.mp m]; exact hlt
    · obtain ⟨z, hz, h1, h2⟩ := exists_dual kept (redN kept row) K.ech (fun u m => log2_lt_of (K.ech.ne u m) (K.lt u m)) h0 (log2_lt_of h0 hlt) hcl
      have hzk : kerB n kept z = true := List.all_eq_true.mpr fun u m => by rw [h1 u m]; rfl
      have hp : ∀ x, x < 2 ^ n → kerB n kept (x ^^^ z) = kerB n kept x := fun x _ => by
        rw [Bool.eq_iff_iff]
        unfold kerB
        rw [List.all_eq_true, List.all_eq_true]
        refine forall_congr' fun u => imp_congr_right fun hu => ?_
        rw [dotB_xor, h1 u hu, Bool.xor_false]
      have hq : ∀ x, x < 2 ^ n → dotB n (x ^^^ z) row = !dotB n x row := fun x _ => by
        rw [dotB_xor, ← hred z hzk, h2]; simp
      have := cnt_half (q := fun x => dotB n x row) hz hp hq
      rw [cnt_congr hker, List.length_append, List.length_singleton, Nat.pow_succ, ← K.cnt, this]
      rw [Nat.mul_comm 2, Nat.mul_assoc, Nat.mul_comm 2]
theorem KInv.fold {n : Nat} : ∀ (rows kept : List Nat), KInv n kept → (∀ r ∈ rows, r < 2 ^ n) → KInv n (rows.foldl rankStep kept) ∧ ∀ x, kerB n (rows.foldl rankStep kept) x = (kerB n kept x && kerB n rows x)
  | [], kept, K, _ => ⟨K, fun x => by show kerB n kept x = (kerB n kept x && true); simp⟩
  | r :: rs, kept, K, h => by
    obtain ⟨K1, h1⟩ := K.step (h r (by simp))
    obtain ⟨K2, h2⟩ := KInv.fold rs _ K1 fun u m => h u (List.mem_cons_of_mem _ m)
    refine ⟨K2, fun x => ?_⟩
    rw [List.foldl_cons, h2, h1]
    show _ = (kerB n kept x && (!dotB n x r && kerB n rs x))
    rw [Bool.and_assoc]
theorem rank_count {n : Nat} {rows : List Nat} (h : ∀ r ∈ rows, r < 2 ^ n) : cnt n (kerB n rows) * 2 ^ rankN rows = 2 ^ n := by
  obtain ⟨K, hk⟩ := KInv.fold rows [] (.nil n) h
  have := K.cnt
  rw [cnt_congr hk] at this
  exact this
end Mine

namespace Mine

/-! how many masks are constant on equal labels -/
theorem cnt_succ (n : Nat) (p : Nat → Bool) : cnt (n + 1) p = cnt n p + cnt n fun x => p (2 ^ n + x) := by
  unfold cnt
  have : List.range (2 ^ (n + 1)) = List.range (2 ^ n) ++ (List.range (2 ^ n)).map (2 ^ n + ·) := by
    rw [Nat.pow_succ, Nat.mul_two, List.range_add]
  rw [this, List.filter_append, List.length_append, List.filter_map, List.length_map]
  rfl
noncomputable def resp (n : Nat) (m : Nat → Nat) (x : Nat) : Bool := (List.range n).all fun i => (List.range n).all fun j => !(m i == m j) || (x.testBit i == x.testBit j)
theorem resp_iff {n : Nat} {m : Nat → Nat} {x : Nat} : resp n m x = true ↔ ∀ i, i < n → ∀ j, j < n → m i = m j → x.testBit i = x.testBit j := by
  simp [resp, Decidable.imp_iff_not_or]
theorem bit_low {n x i : Nat} (h : i < n) : (2 ^ n + x).testBit i = x.testBit i := Nat.testBit_two_pow_add_gt h x
theorem bit_top {n x : Nat} (h : x < 2 ^ n) : (2 ^ n + x).testBit n = true := by
  rw [Nat.testBit_two_pow_add_eq, Nat.testBit_lt_two_pow h]; rfl
theorem cnt_congr' {n : Nat} {p q : Nat → Bool} (h : ∀ x, x < 2 ^ n → p x = q x) : cnt n p = cnt n q := by
  unfold cnt
  congr 1
  exact List.filter_congr fun x hx => h x (List.mem_range.mp hx)
theorem cnt_new {n : Nat} {m : Nat → Nat} (h : ∀ i, i < n → m i ≠ m n) (c : Nat → Bool) (hc : ∀ x, x < 2 ^ n → c (2 ^ n + x) = c x) : cnt (n + 1) (fun x => resp (n + 1) m x && c x) = 2 * cnt n fun x => resp n m x && c x := by
  rw [cnt_succ]
  have e : ∀ x, x < 2 ^ n → resp (n + 1) m x = resp n m x ∧ resp (n + 1) m (2 ^ n + x) = resp n m x := fun x hx => by
    refine ⟨?_, ?_⟩
    all_goals
      rw [Bool.eq_iff_iff, resp_iff, resp_iff]
      constructor
      · intro H i hi j hj e
        have := H i (by lia) j (by lia) e
        first | exact this | (rw [bit_low hi, bit_low hj] at this; exact this)
      · intro H i hi j hj e
        rcases Nat.lt_or_ge i n with hi' | hi' <;> rcases Nat.lt_or_ge j n with hj' | hj'
        · have := H i hi' j hj' e
          first | exact this | (rw [bit_low hi', bit_low hj']; exact this)
        · rw [show j = n by lia] at e; exact absurd e (h i hi')
        · rw [show i = n by lia] at e; exact absurd e.symm (h j hj')
        · rw [show i = n by lia, show j = n by lia]
  rw [cnt_congr' (q := fun x => resp n m x && c x) fun x hx => by rw [(e x hx).1], cnt_congr' (p := fun x => resp (n + 1) m (2 ^ n + x) && c (2 ^ n + x)) (q := fun x => resp n m x && c x) fun x hx => by rw [(e x hx).2, hc x hx]]
  lia
theorem cnt_split (n : Nat) (p q : Nat → Bool) : cnt n p = (cnt n fun x => p x && q x) + cnt n fun x => p x && !q x := by
  unfold cnt
  generalize List.range (2 ^ n) = l
  induction l with
  | nil => rfl
  | cons a r ih =>
    simp only [List.filter_cons]
    cases p a <;> cases q a <;> simp <;> lia
theorem cnt_old {n i0 : Nat} {m : Nat → Nat} (hi0 : i0 < n) (h : m i0 = m n) (c : Nat → Bool) (hc : ∀ x, x < 2 ^ n → c (2 ^ n + x) = c x) : cnt (n + 1) (fun x => resp (n + 1) m x && c x) = cnt n fun x => resp n m x && c x := by
  rw [cnt_succ]
  have key : ∀ y b, (∀ i, i < n → y.testBit i = y.testBit i) → y.testBit n = b → (resp (n + 1) m y = true ↔ (∀ i, i < n → ∀ j, j < n → m i = m j → y.testBit i = y.testBit j) ∧ y.testBit i0 = b) := fun y b _ hb => by
    rw [resp_iff]
    constructor
    · intro H
      exact ⟨fun i hi j hj e => H i (by lia) j (by lia) e, by rw [H i0 (by lia) n (by lia) h, hb]⟩
    · rintro ⟨H, h0⟩ i hi j hj e
      rcases Nat.lt_or_ge i n with hi' | hi' <;> rcases Nat.lt_or_ge j n with hj' | hj'
      · exact H i hi' j hj' e
      · have hjn : j = n := by lia
        subst hjn
        rw [hb, ← h0]; exact H i hi' i0 hi0 (by rw [e, h])
      · have hin : i = n := by lia
        subst hin
        rw [hb, ← h0]; exact H i0 hi0 j hj' (by rw [h, e])
      · rw [show i = n by lia, show j = n by lia]
  have e1 : ∀ x, x < 2 ^ n → resp (n + 1) m x = (resp n m x && !x.testBit i0) := fun x hx => by
    rw [Bool.eq_iff_iff, key x false (fun _ _ => rfl) (Nat.testBit_lt_two_pow hx), Bool.and_eq_true, resp_iff]
    simp
  have e2 : ∀ x, x < 2 ^ n → resp (n + 1) m (2 ^ n + x) = (resp n m x && x.testBit i0) := fun x hx => by
    rw [Bool.eq_iff_iff, key (2 ^ n + x) true (fun _ _ => rfl) (bit_top hx), Bool.and_eq_true, resp_iff, bit_low hi0]
    refine and_congr_left fun _ => ?_
    constructor
    · intro H i hi j hj e
      have := H i hi j hj e
      rw [bit_low hi, bit_low hj] at this; exact this
    · intro H i hi j hj e
      rw [bit_low hi, bit_low hj]; exact H i hi j hj e
  rw [cnt_congr' (q := fun x => (resp n m x && c x) && !x.testBit i0) fun x hx => by rw [e1 x hx]; cases resp n m x <;> cases c x <;> cases x.testBit i0 <;> rfl,
    cnt_congr' (p := fun x => resp (n + 1) m (2 ^ n + x) && c (2 ^ n + x)) (q := fun x => (resp n m x && c x) && x.testBit i0) fun x hx => by rw [e2 x hx, hc x hx]; cases resp n m x <;> cases c x <;> cases x.testBit i0 <;> rfl]
  have := cnt_split n (fun x => resp n m x && c x) (fun x => x.testBit i0)
  lia
/-! firsts of their label -/
noncomputable def firstOf (m : Nat → Nat) (i : Nat) : Bool := (List.range i).all fun j => !(m j == m i)
noncomputable def dCount (n : Nat) (m : Nat → Nat) : Nat := ((List.range n).filter (firstOf m)).length
theorem dCount_succ (n : Nat) (m : Nat → Nat) : dCount (n + 1) m = dCount n m + if firstOf m n then 1 else 0 := by
  unfold dCount
  rw [List.range_succ, List.filter_append, List.length_append]
  cases h : firstOf m n <;> simp [h]
theorem resp_count (m : Nat → Nat) : ∀ n, cnt (n + 1) (fun x => resp (n + 1) m x && !x.testBit 0) * 2 = 2 ^ dCount (n + 1) m
  | 0 => by
    have h1 : dCount 1 m = 1 := rfl
    rw [h1]
    have : cnt 1 (fun x => resp 1 m x && !x.testBit 0) = 1 := by
      have e : ∀ x, resp 1 m x = true := fun x => by simp [resp]
      rw [cnt_congr (q := fun x => !x.testBit 0) fun x => by rw [e x]; rfl]
      decide
    rw [this]
  | n + 1 => by
    have ih := resp_count m n
    rw [dCount_succ]
    have hc : ∀ x, x < 2 ^ (n + 1) → (!(2 ^ (n + 1) + x).testBit 0) = !x.testBit 0 := fun x _ => by rw [bit_low (by lia)]
    cases hf : firstOf m (n + 1) with
    | true =>
      have hne : ∀ i, i < n + 1 → m i ≠ m (n + 1) := fun i hi e => by
        have := List.all_eq_true.mp hf i (List.mem_range.mpr hi)
        simp [e] at this
      rw [cnt_new hne _ hc, if_pos rfl, Nat.pow_succ, ← ih]; lia
    | false =>
      obtain ⟨i0, hi0, he⟩ : ∃ i0, i0 < n + 1 ∧ m i0 = m (n + 1) := by
        have := List.all_eq_false.mp hf
        obtain ⟨i, hi, h⟩ := this
        exact ⟨i, List.mem_range.mp hi, by simpa using h⟩
      rw [cnt_old hi0 he _ hc, if_neg (by simp), ih]; rfl
end Mine

namespace Mine

/-! a polygon's chords: a k, b k the two sides of pair k; tw k, whether it is twisted; m, the corners' labels -/
structure Chords (n : Nat) (a b : Nat → Nat) : Prop where
  ab : ∀ k, k < n → a k < b k ∧ b k < 2 * n
  aa : ∀ j k, j < n → k < n → j ≠ k → a j ≠ a k ∧ b j ≠ b k
  dis : ∀ j k, j < n → k < n → a j ≠ b k
  cov : ∀ i, i < 2 * n → ∃ k, k < n ∧ (i = a k ∨ i = b k)
noncomputable def crossB (a b : Nat → Nat) (k j : Nat) : Bool := decide (a k < a j ∧ a j < b k) != decide (a k < b j ∧ b j < b k)
noncomputable def pot (n : Nat) (a b : Nat → Nat) (x i : Nat) : Bool := xorTo n fun j => x.testBit j && decide (a j < i ∧ i ≤ b j)
section
variable {n : Nat} {a b : Nat → Nat} {x : Nat}
theorem pot_xor (i i' : Nat) : (pot n a b x i ^^ pot n a b x i') = xorTo n fun j => x.testBit j && (decide (a j < i ∧ i ≤ b j) != decide (a j < i' ∧ i' ≤ b j)) := by
  unfold pot
  rw [← xorTo_xor]
  refine xorTo_congr fun j _ => ?_
  cases x.testBit j <;> simp
theorem pot_a (C : Chords n a b) {k : Nat} (hk : k < n) : (pot n a b x (a k + 1) ^^ pot n a b x (a k)) = x.testBit k := by
  rw [pot_xor, xorTo_congr (h := fun j => decide (j = k) && x.testBit j) (fun j hj => ?_), xorTo_one _ hk]
  have h1 := C.ab j hj
  have h2 := C.ab k hk
  have h4 := C.dis k j hk hj
  by_cases e : j = k
  · subst e
    rw [decide_eq_true (show a j < a j + 1 ∧ a j + 1 ≤ b j by omega), decide_eq_false (show ¬ (a j < a j ∧ a j ≤ b j) by omega)]
    cases x.testBit j <;> simp
  · have h3 := C.aa j k hj hk e
    have : decide (a j < a k + 1 ∧ a k + 1 ≤ b j) = decide (a j < a k ∧ a k ≤ b j) := by
      rw [Bool.eq_iff_iff, decide_eq_true_eq, decide_eq_true_eq]; omega
    rw [this]; simp [e]
theorem pot_b (C : Chords n a b) {k : Nat} (hk : k < n) : (pot n a b x (b k + 1) ^^ pot n a b x (b k)) = x.testBit k := by
  rw [pot_xor, xorTo_congr (h := fun j => decide (j = k) && x.testBit j) (fun j hj => ?_), xorTo_one _ hk]
  have h1 := C.ab j hj
  have h2 := C.ab k hk
  have h4 := C.dis j k hj hk
  by_cases e : j = k
  · subst e
    rw [decide_eq_false (show ¬ (a j < b j + 1 ∧ b j + 1 ≤ b j) by omega), decide_eq_true (show a j < b j ∧ b j ≤ b j by omega)]
    cases x.testBit j <;> simp
  · have h3 := C.aa j k hj hk e
    have : decide (a j < b k + 1 ∧ b k + 1 ≤ b j) = decide (a j < b k ∧ b k ≤ b j) := by
      rw [Bool.eq_iff_iff, decide_eq_true_eq, decide_eq_true_eq]; omega
    rw [this]; simp [e]
theorem pot_zero : pot n a b x 0 = false := by
  unfold pot
  rw [xorTo_congr (h := fun _ => false) (fun j _ => by simp), xorTo_zero]
theorem pot_end (C : Chords n a b) : pot n a b x (2 * n) = false := by
  unfold pot
  rw [xorTo_congr (h := fun _ => false) (fun j hj => ?_), xorTo_zero]
  have := C.ab j hj
  rw [decide_eq_false (by omega)]; simp
theorem pot_mod (C : Chords n a b) {i : Nat} (hi : i ≤ 2 * n) : pot n a b x (i % (2 * n)) = pot n a b x i := by
  rcases Nat.lt_or_ge i (2 * n) with h | h
  · rw [Nat.mod_eq_of_lt h]
  · have e : i = 2 * n := by omega
    subst e
    rw [Nat.mod_self, pot_zero, pot_end C]
/-! a row of the table: crossings, and the twist in its own place -/
noncomputable def RowOf (n : Nat) (a b : Nat → Nat) (tw : Nat → Bool) (k r : Nat) : Prop := ∀ j, j < n → r.testBit j = if j = k then tw k else crossB a b k j
theorem row_pot (C : Chords n a b) {tw : Nat → Bool} {k r : Nat} (hk : k < n) (R : RowOf n a b tw k r) : dotB n x r = ((pot n a b x (b k) ^^ pot n a b x (a k + 1)) ^^ (tw k && x.testBit k)) := by
  have h2 := C.ab k hk
  have e : (tw k && x.testBit k) = xorTo n fun j => decide (j = k) && (tw k && x.testBit j) := (xorTo_one (fun j => tw k && x.testBit j) hk).symm
  rw [pot_xor, e, ← xorTo_xor]
  unfold dotB
  refine xorTo_congr fun j hj => ?_
  rw [R j hj]
  have h1 := C.ab j hj
  by_cases q : j = k
  · subst q
    rw [if_pos rfl, decide_eq_true (show a j < b j ∧ b j ≤ b j by omega), decide_eq_true (show a j < a j + 1 ∧ a j + 1 ≤ b j by omega)]
    cases x.testBit j <;> simp
  · have h3 := C.aa j k hj hk q
    have h4 := C.dis j k hj hk
    have h5 := C.dis k j hk hj
    rw [if_neg q]
    have : crossB a b k j = (decide (a j < b k ∧ b k ≤ b j) != decide (a j < a k + 1 ∧ a k + 1 ≤ b j)) := by
      unfold crossB
      rcases Nat.lt_or_gt_of_ne h3.1 with u | u <;> rcases Nat.lt_or_gt_of_ne h3.2 with v | v <;> rcases Nat.lt_or_gt_of_ne h4 with w | w <;> rcases Nat.lt_or_gt_of_ne h5 with z | z <;>
        first
        | (exfalso; omega)
        | (rw [Bool.eq_iff_iff]; simp only [bne_iff_ne, ne_eq, decide_eq_decide]; omega)
    rw [this]; simp [q]
end
end Mine

namespace Mine

/-! a mask from its bits -/
noncomputable def maskN (n : Nat) (g : Nat → Bool) : Nat := (((List.range n).filter g).map fun k => 2 ^ k).sum
theorem maskN_succ (n : Nat) (g : Nat → Bool) : maskN (n + 1) g = maskN n g + if g n then 2 ^ n else 0 := by
  unfold maskN
  rw [List.range_succ, List.filter_append, List.map_append, List.sum_append]
  cases h : g n <;> simp [h]
theorem maskN_lt (g : Nat → Bool) : ∀ n, maskN n g < 2 ^ n
  | 0 => by simp [maskN]
  | n + 1 => by
    have := maskN_lt g n
    rw [maskN_succ, Nat.pow_succ]
    split <;> lia
theorem maskN_bit (g : Nat → Bool) : ∀ {n k : Nat}, k < n → (maskN n g).testBit k = g k
  | 0, k, h => by lia
  | n + 1, k, h => by
    have hlt := maskN_lt g n
    rw [maskN_succ]
    rcases Nat.lt_or_ge k n with h' | h'
    · cases hg : g n with
      | true => rw [if_pos rfl, Nat.add_comm, bit_low h', maskN_bit g h']
      | false => rw [if_neg (by simp), Nat.add_zero, maskN_bit g h']
    · have e : k = n := by lia
      subst e
      cases hg : g k with
      | true => rw [if_pos rfl, Nat.add_comm, bit_top hlt]
      | false => rw [if_neg (by simp), Nat.add_zero, Nat.testBit_lt_two_pow hlt]
theorem eq_of_bits {n x y : Nat} (hx : x < 2 ^ n) (hy : y < 2 ^ n) (h : ∀ k, k < n → x.testBit k = y.testBit k) : x = y := by
  refine Nat.eq_of_testBit_eq fun i => ?_
  rcases Nat.lt_or_ge i n with hi | hi
  · exact h i hi
  · rw [Nat.testBit_lt_two_pow (Nat.lt_of_lt_of_le hx (Nat.pow_le_pow_right (by lia) hi)), Nat.testBit_lt_two_pow (Nat.lt_of_lt_of_le hy (Nat.pow_le_pow_right (by lia) hi))]

/-! what respects the sewing -/
noncomputable def Sewn (n : Nat) (a b : Nat → Nat) (tw : Nat → Bool) (P : Nat → Bool) : Prop :=
  ∀ k, k < n → if tw k = true then P (a k) = P (b k) ∧ P (a k + 1) = P ((b k + 1) % (2 * n)) else P (a k) = P ((b k + 1) % (2 * n)) ∧ P (a k + 1) = P (b k)
section
variable {n : Nat} {a b : Nat → Nat} {tw : Nat → Bool} {x : Nat} {r : Nat → Nat}
theorem sewn_iff (C : Chords n a b) (hR : ∀ k, k < n → RowOf n a b tw k (r k)) : (∀ k, k < n → dotB n x (r k) = false) ↔ Sewn n a b tw (pot n a b x) := by
  refine forall_congr' fun k => imp_congr_right fun hk => ?_
  rw [row_pot C hk (hR k hk), pot_mod C (by have := C.ab k hk; lia)]
  have h1 := pot_a (x := x) C hk
  have h2 := pot_b (x := x) C hk
  revert h1 h2
  generalize pot n a b x (a k + 1) = A1
  generalize pot n a b x (a k) = A
  generalize pot n a b x (b k + 1) = B1
  generalize pot n a b x (b k) = B
  generalize x.testBit k = X
  generalize tw k = T
  revert A1 A B1 B X T
  decide
theorem pot_eq (C : Chords n a b) {P : Nat → Bool} (S : Sewn n a b tw P) (h0 : P 0 = false) (hx : ∀ k, k < n → x.testBit k = (P (a k + 1) ^^ P (a k))) : ∀ i, i < 2 * n → pot n a b x i = P i
  | 0, _ => by rw [pot_zero, h0]
  | i + 1, hi => by
    have ih := pot_eq C S h0 hx i (by lia)
    obtain ⟨k, hk, e⟩ := C.cov i (by lia)
    have hS := S k hk
    have hb := C.ab k hk
    have hX := hx k hk
    rcases e with e | e
    · have h1 := pot_a (x := x) C hk
      rw [← e] at h1 hX
      rw [hX, ih] at h1
      revert h1
      generalize pot n a b x (i + 1) = u
      generalize P (i + 1) = v
      generalize P i = w
      revert u v w
      decide
    · have h1 := pot_b (x := x) C hk
      rw [← e] at h1 hS
      rw [hX, ih] at h1
      rw [Nat.mod_eq_of_lt hi] at hS
      revert h1 hS
      generalize pot n a b x (i + 1) = u
      generalize P (i + 1) = v
      generalize P i = w
      generalize P (a k) = p
      generalize P (a k + 1) = q
      generalize tw k = t
      revert u v w p q t
      decide
theorem Sewn.congr (C : Chords n a b) {P Q : Nat → Bool} (S : Sewn n a b tw P) (h : ∀ i, i < 2 * n → Q i = P i) : Sewn n a b tw Q := fun k hk => by
  have h1 := S k hk
  have h2 := C.ab k hk
  rw [h (a k) (by lia), h (b k) (by lia), h (a k + 1) (by lia), h ((b k + 1) % (2 * n)) (Nat.mod_lt _ (by lia))]
  exact h1
/-! m tells the corners: what respects the sewing is constant on m's labels, and the other way about -/
noncomputable def Corners (n : Nat) (a b : Nat → Nat) (tw : Nat → Bool) (m : Nat → Nat) : Prop := ∀ P : Nat → Bool, Sewn n a b tw P ↔ ∀ i, i < 2 * n → ∀ j, j < 2 * n → m i = m j → P i = P j
theorem nodup_map_on {α β : Type} {g : α → β} : ∀ {l : List α}, (∀ a ∈ l, ∀ b ∈ l, g a = g b → a = b) → l.Nodup → (l.map g).Nodup
  | [], _, _ => by simp
  | a :: l, hg, h => by
    obtain ⟨h1, h2⟩ := List.nodup_cons.mp h
    rw [List.map_cons, List.nodup_cons]
    refine ⟨fun m => ?_, nodup_map_on (fun x hx y hy => hg x (List.mem_cons_of_mem _ hx) y (List.mem_cons_of_mem _ hy)) h2⟩
    obtain ⟨b, hb, e⟩ := List.mem_map.mp m
    exact h1 (hg b (List.mem_cons_of_mem _ hb) a (by simp) e ▸ hb)
theorem ker_iff {n : Nat} {r : Nat → Nat} {x : Nat} : kerB n ((List.range n).map r) x = true ↔ ∀ k, k < n → dotB n x (r k) = false := by
  unfold kerB
  simp
theorem ker_count (C : Chords n a b) {m : Nat → Nat} (hn : 1 ≤ n) (hR : ∀ k, k < n → RowOf n a b tw k (r k)) (hm : Corners n a b tw m) :
    cnt n (kerB n ((List.range n).map r)) = cnt (2 * n) fun x => resp (2 * n) m x && !x.testBit 0 := by
  unfold cnt
  rw [← List.length_map (f := fun x => maskN (2 * n) (pot n a b x))]
  refine length_eq_of_mem (nodup_map_on (fun x hx y hy e => ?_) (List.nodup_range.filter _)) (List.nodup_range.filter _) fun P => ?_
  · have hx := List.mem_range.mp (List.mem_filter.mp hx).1
    have hy := List.mem_range.mp (List.mem_filter.mp hy).1
    have hp : ∀ i, i < 2 * n → pot n a b x i = pot n a b y i := fun i hi => by
      have := congrArg (fun z => z.testBit i) e
      simpa only [maskN_bit _ hi] using this
    refine eq_of_bits hx hy fun k hk => ?_
    have := C.ab k hk
    rw [← pot_a (x := x) C hk, ← pot_a (x := y) C hk, hp _ (by lia), hp _ (by lia)]
  · simp only [List.mem_map, List.mem_filter, List.mem_range, Bool.and_eq_true]
    constructor
    · rintro ⟨x, ⟨h1, h2⟩, rfl⟩
      have hS := (sewn_iff C hR).mp (ker_iff.mp h2)
      refine ⟨maskN_lt _ _, resp_iff.mpr fun i hi j hj e => ?_, ?_⟩
      · rw [maskN_bit _ hi, maskN_bit _ hj]
        exact (hm _).mp hS i hi j hj e
      · rw [maskN_bit _ (by lia), pot_zero]; rfl
    · rintro ⟨h1, h2, h3⟩
      have hS := (hm fun i => P.testBit i).mpr (resp_iff.mp h2)
      have h0 : P.testBit 0 = false := by simpa using h3
      have hp := pot_eq (x := maskN n fun k => P.testBit (a k + 1) ^^ P.testBit (a k)) C hS h0 fun k hk => maskN_bit _ hk
      refine ⟨maskN n fun k => P.testBit (a k + 1) ^^ P.testBit (a k), ⟨maskN_lt _ _, ker_iff.mpr ((sewn_iff C hR).mpr (hS.congr C hp))⟩, ?_⟩
      exact eq_of_bits (maskN_lt _ _) h1 fun i hi => by rw [maskN_bit _ hi, hp i hi]
theorem rank_chords (C : Chords n a b) {m : Nat → Nat} (hn : 1 ≤ n) (hR : ∀ k, k < n → RowOf n a b tw k (r k)) (hr : ∀ k, k < n → r k < 2 ^ n) (hm : Corners n a b tw m) : rankN ((List.range n).map r) + dCount (2 * n) m = n + 1 := by
  have h1 := rank_count (n := n) (rows := (List.range n).map r) fun u hu => by
    obtain ⟨k, hk, rfl⟩ := List.mem_map.mp hu
    exact hr k (List.mem_range.mp hk)
  have h2 := resp_count m (2 * n - 1)
  rw [show 2 * n - 1 + 1 = 2 * n by lia, ← ker_count C hn hR hm] at h2
  have h3 : 2 ^ (rankN ((List.range n).map r) + dCount (2 * n) m) = 2 ^ (n + 1) := by
    rw [Nat.pow_add, ← h2, Nat.pow_succ, ← h1, Nat.mul_comm, Nat.mul_right_comm]
  exact (Nat.pow_right_inj (by lia)).mp h3
/-! a cut lies in the kernel -/
theorem cut_ker (C : Chords n a b) {m : Nat → Nat} (hn : 1 ≤ n) (hR : ∀ k, k < n → RowOf n a b tw k (r k)) (hm : Corners n a b tw m) (c : Nat) {k : Nat} (hk : k < n) (hx : ∀ k, k < n → x.testBit k = ((m (a k) == c) != (m (a k + 1) == c))) : dotB n x (r k) = false := by
  have hS : Sewn n a b tw fun i => (m i == c) ^^ (m 0 == c) := (hm _).mpr fun i _ j _ e => by
    show ((m i == c) ^^ (m 0 == c)) = ((m j == c) ^^ (m 0 == c))
    rw [e]
  have hp := pot_eq (x := x) C hS (by show ((m 0 == c) ^^ (m 0 == c)) = false; simp) fun k hk => by
    rw [hx k hk]
    show _ = (((m (a k + 1) == c) ^^ (m 0 == c)) ^^ ((m (a k) == c) ^^ (m 0 == c)))
    cases (m (a k) == c) <;> cases (m (a k + 1) == c) <;> cases (m 0 == c) <;> rfl
  exact (sewn_iff C hR).mpr (hS.congr C hp) k hk
end
end Mine

namespace Mine

/-! the joins, by what respects them -/
noncomputable def RespL (L : Nat) (m : List Nat) (P : Nat → Bool) : Prop := ∀ i, i < L → ∀ j, j < L → m.getD i 0 = m.getD j 0 → P i = P j
theorem joinStep_get {m : List Nat} {j : Nat × Nat} {i : Nat} (h : i < m.length) : (joinStep m j).getD i 0 = if m.getD i 0 = m.getD j.2 0 then m.getD j.1 0 else m.getD i 0 := by
  unfold joinStep
  rw [getD_at (by simpa using h), List.getElem_map, getD_at h]
theorem join_resp {L : Nat} {m : List Nat} {j : Nat × Nat} {P : Nat → Bool} (hl : m.length = L) (h1 : j.1 < L) (h2 : j.2 < L) : RespL L (joinStep m j) P ↔ RespL L m P ∧ P j.1 = P j.2 := by
  constructor
  · intro H
    refine ⟨fun i hi i' hi' e => H i hi i' hi' ?_, H _ h1 _ h2 ?_⟩
    · rw [joinStep_get (by lia), joinStep_get (by lia), e]
    · rw [joinStep_get (by lia), joinStep_get (by lia), if_pos rfl]
      split <;> rfl
  · rintro ⟨H, hP⟩ i hi i' hi' e
    rw [joinStep_get (by lia), joinStep_get (by lia)] at e
    by_cases e1 : m.getD i 0 = m.getD j.2 0 <;> by_cases e2 : m.getD i' 0 = m.getD j.2 0
    · exact H i hi i' hi' (by rw [e1, e2])
    · rw [if_pos e1, if_neg e2] at e
      rw [H i hi _ h2 e1, ← hP]
      exact H _ h1 i' hi' e
    · rw [if_neg e1, if_pos e2] at e
      rw [H i' hi' _ h2 e2, ← hP]
      exact H i hi _ h1 e
    · rw [if_neg e1, if_neg e2] at e
      exact H i hi i' hi' e
theorem joins_resp {L : Nat} {P : Nat → Bool} : ∀ (js : List (Nat × Nat)) (m : List Nat), m.length = L → (∀ j ∈ js, j.1 < L ∧ j.2 < L) → (RespL L (js.foldl joinStep m) P ↔ RespL L m P ∧ ∀ j ∈ js, P j.1 = P j.2)
  | [], m, _, _ => by simp
  | j :: js, m, hl, h => by
    have hj := h j (by simp)
    rw [List.foldl_cons, joins_resp js _ (by rw [joinStep_len]; exact hl) (fun u m => h u (List.mem_cons_of_mem _ m)), join_resp hl hj.1 hj.2]
    simp only [List.mem_cons, forall_eq_or_imp, and_assoc]
theorem meets_go {c : Nat} {P : Nat → Bool} : ∀ (ps : List Pr) (m : List Nat), m.length = c → (∀ p ∈ ps, ∀ j ∈ joinsN c p, j.1 < c ∧ j.2 < c) → (RespL c (ps.foldl (fun m p => (joinsN c p).foldl joinStep m) m) P ↔ RespL c m P ∧ ∀ p ∈ ps, ∀ j ∈ joinsN c p, P j.1 = P j.2)
  | [], m, _, _ => by simp
  | p :: ps, m, hl, h => by
    have hp := h p (by simp)
    rw [List.foldl_cons, meets_go ps _ (by rw [joins_len]; exact hl) (fun u m => h u (List.mem_cons_of_mem _ m)), joins_resp _ _ hl hp]
    simp only [List.mem_cons, forall_eq_or_imp, and_assoc]
theorem joins_lt {c : Nat} {p : Pr} (ha : p.a + 1 < c) (hb : p.b < c) : ∀ j ∈ joinsN c p, j.1 < c ∧ j.2 < c := by
  intro j hm
  have hlt := Nat.mod_lt (p.b + 1) (show 0 < c by lia)
  unfold joinsN at hm
  split at hm <;> simp at hm <;> rcases hm with rfl | rfl <;> simp <;> lia
noncomputable def prB (ps : List Pr) (k : Nat) : Nat := (ps.map fun p => p.b).getD k 0
noncomputable def prT (ps : List Pr) (k : Nat) : Bool := (ps.map fun p => p.t).getD k 0 != 0
theorem prA_at {ps : List Pr} {k : Nat} (h : k < ps.length) : prA ps k = ps[k].a := by simp [prA, h]
theorem prB_at {ps : List Pr} {k : Nat} (h : k < ps.length) : prB ps k = ps[k].b := by simp [prB, h]
theorem prT_at {ps : List Pr} {k : Nat} (h : k < ps.length) : prT ps k = (ps[k].t != 0) := by simp [prT, h]
noncomputable def PrsOk (ps : List Pr) : Prop := ∀ p ∈ ps, p.a + 1 < 2 * ps.length ∧ p.b < 2 * ps.length
theorem meets_corners {ps : List Pr} (h : PrsOk ps) : Corners ps.length (prA ps) (prB ps) (prT ps) fun i => (meetsN ps).getD i 0 := fun P => by
  have key := meets_go (c := 2 * ps.length) (P := P) ps (List.range (2 * ps.length)) (by simp) fun p hp => joins_lt (h p hp).1 (h p hp).2
  have h0 : RespL (2 * ps.length) (List.range (2 * ps.length)) P := fun i hi j hj e => by
    rw [getD_at (by simpa using hi), getD_at (by simpa using hj), List.getElem_range, List.getElem_range] at e
    rw [e]
  show _ ↔ RespL (2 * ps.length) (meetsN ps) P
  refine Iff.trans ?_ (key.trans ⟨fun q => q.2, fun q => ⟨h0, q⟩⟩).symm
  have one : ∀ p : Pr, (∀ j ∈ joinsN (2 * ps.length) p, P j.1 = P j.2) ↔ if (p.t != 0) = true then P p.a = P p.b ∧ P (p.a + 1) = P ((p.b + 1) % (2 * ps.length)) else P p.a = P ((p.b + 1) % (2 * ps.length)) ∧ P (p.a + 1) = P p.b := fun p => by
    unfold joinsN
    by_cases ht : p.t = 0
    · simp [ht]
    · simp [ht]
  constructor
  · intro H p hp
    obtain ⟨k, hk, rfl⟩ := List.mem_iff_getElem.mp hp
    have := H k hk
    rw [prA_at hk, prB_at hk, prT_at hk] at this
    exact (one _).mpr this
  · intro H k hk
    rw [prA_at hk, prB_at hk, prT_at hk]
    exact (one _).mp (H _ (List.getElem_mem hk))

/-! the corners, counted -/
theorem first_ex (g : Nat → Nat) : ∀ (n i : Nat), i < n → ∃ i0, i0 ≤ i ∧ firstOf g i0 = true ∧ g i0 = g i
  | 0, i, h => by lia
  | n + 1, i, h => by
    cases hf : firstOf g i with
    | true => exact ⟨i, Nat.le_refl _, hf, rfl⟩
    | false =>
      obtain ⟨j, hj, e⟩ := List.all_eq_false.mp hf
      have hj := List.mem_range.mp hj
      obtain ⟨i0, h1, h2, h3⟩ := first_ex g n j (by lia)
      exact ⟨i0, by lia, h2, h3.trans (by simpa using e)⟩
theorem corners_count {m : List Nat} (h : ∀ x ∈ m, x < m.length) : (cornersN m).length = dCount m.length fun i => m.getD i 0 := by
  unfold dCount
  refine Eq.trans (b := (((List.range m.length).filter (firstOf fun i => m.getD i 0)).map fun i => m.getD i 0).length) ?_ (List.length_map _)
  refine length_eq_of_mem (List.nodup_range.filter _) (nodup_map_on (fun i hi j hj e => ?_) (List.nodup_range.filter _)) fun c => ?_
  · have hi := (List.mem_filter.mp hi).2
    have hj := (List.mem_filter.mp hj).2
    rcases Nat.lt_trichotomy i j with q | q | q
    · have := List.all_eq_true.mp hj i (List.mem_range.mpr q)
      simp only [e, Bool.not_eq_true', beq_eq_false_iff_ne] at this
      exact absurd rfl this
    · exact q
    · have := List.all_eq_true.mp hi j (List.mem_range.mpr q)
      simp only [e, Bool.not_eq_true', beq_eq_false_iff_ne] at this
      exact absurd rfl this
  · unfold cornersN
    simp only [List.mem_map, List.mem_filter, List.mem_range, List.any_eq_true, beq_iff_eq]
    constructor
    · rintro ⟨hc, x, hx, rfl⟩
      obtain ⟨i, hi, rfl⟩ := List.mem_iff_getElem.mp hx
      obtain ⟨i0, h1, h2, h3⟩ := first_ex (fun i => m.getD i 0) _ i hi
      exact ⟨i0, ⟨by lia, h2⟩, by rw [h3, getD_at hi]⟩
    · rintro ⟨i, ⟨hi, _⟩, rfl⟩
      have := getD_mem hi
      exact ⟨h _ this, _, this, rfl⟩
theorem meets_lt {ps : List Pr} (h : PrsOk ps) : ∀ x ∈ meetsN ps, x < (meetsN ps).length := by
  have step : ∀ (L : Nat) (j : Nat × Nat) (m : List Nat), j.1 < L → m.length = L → (∀ x ∈ m, x < L) → ∀ x ∈ joinStep m j, x < L := by
    intro L j m hj hl H x hx
    obtain ⟨y, hy, rfl⟩ := List.mem_map.mp hx
    split
    · exact H _ (getD_mem (by lia))
    · exact H _ hy
  have js : ∀ (L : Nat) (js : List (Nat × Nat)) (m : List Nat), (∀ j ∈ js, j.1 < L) → m.length = L → (∀ x ∈ m, x < L) → ∀ x ∈ js.foldl joinStep m, x < L := by
    intro L js
    induction js with
    | nil => intro m _ _ H; exact H
    | cons j r ih =>
      intro m hj hl H
      exact ih _ (fun u m => hj u (List.mem_cons_of_mem _ m)) (by rw [joinStep_len]; exact hl) (step L j m (hj j (by simp)) hl H)
  have go : ∀ (c : Nat) (qs : List Pr) (m : List Nat), (∀ p ∈ qs, p.a + 1 < c ∧ p.b < c) → m.length = c → (∀ x ∈ m, x < c) → (qs.foldl (fun m p => (joinsN c p).foldl joinStep m) m).length = c ∧ ∀ x ∈ qs.foldl (fun m p => (joinsN c p).foldl joinStep m) m, x < c := by
    intro c qs
    induction qs with
    | nil => intro m _ hl H; exact ⟨hl, H⟩
    | cons p r ih =>
      intro m hp hl H
      have hpp := hp p (by simp)
      exact ih _ (fun u m => hp u (List.mem_cons_of_mem _ m)) (by rw [joins_len]; exact hl) (js c _ m (fun j hj => (joins_lt hpp.1 hpp.2 j hj).1) hl H)
  obtain ⟨h1, h2⟩ := go (2 * ps.length) ps (List.range (2 * ps.length)) h (by simp) (fun x hx => List.mem_range.mp hx)
  intro x hx
  have := h2 x hx
  show x < (meetsN ps).length
  unfold meetsN
  rw [h1]; exact this

/-! parities -/
theorem par_dot (x r : Nat) : ∀ n, parN n x r % 2 = if dotB n x r = true then 1 else 0
  | 0 => rfl
  | n + 1 => by
    have ih := par_dot x r n
    have e1 : parN (n + 1) x r = parN n x r + ((x &&& r) >>> n &&& 1) := by simp [parN, List.range_succ]
    have e2 : dotB (n + 1) x r = (dotB n x r ^^ (x.testBit n && r.testBit n)) := xorTo_succ n _
    have e3 : (x.testBit n && r.testBit n) = decide ((x &&& r) >>> n % 2 = 1) := by rw [← Nat.testBit_and, Nat.testBit_eq_decide_div_mod_eq, Nat.shiftRight_eq_div_pow]
    rw [e1, e2, e3, Nat.and_one_is_mod]
    generalize (x &&& r) >>> n = q
    revert ih
    generalize parN n x r = p
    intro ih
    by_cases hq : q % 2 = 1
    · rw [decide_eq_true hq]
      cases hd : dotB n x r <;> rw [hd] at ih <;> simp only [Bool.false_bne, Bool.true_bne, Bool.not_true, if_true, Bool.false_eq_true, if_false] at ih ⊢ <;> lia
    · rw [decide_eq_false hq]
      cases hd : dotB n x r <;> rw [hd] at ih <;> simp only [Bool.false_bne, Bool.true_bne, Bool.not_false, if_true, Bool.false_eq_true, if_false] at ih ⊢ <;> lia

/-! the rows -/
theorem maskN_congr {g h : Nat → Bool} : ∀ {n : Nat}, (∀ k, k < n → g k = h k) → maskN n g = maskN n h
  | 0, _ => rfl
  | n + 1, e => by rw [maskN_succ, maskN_succ, maskN_congr (fun k hk => e k (by lia)), e n (by lia)]
theorem maskN_add {g : Nat → Bool} {k : Nat} (hg : g k = false) : ∀ {n : Nat}, k < n → 2 ^ k + maskN n g = maskN n fun j => if j = k then true else g j
  | 0, h => by lia
  | n + 1, h => by
    rw [maskN_succ, maskN_succ]
    by_cases e : k = n
    · subst e
      rw [hg, if_pos rfl, maskN_congr (g := fun j => if j = k then true else g j) (h := g) fun j hj => by rw [if_neg (by lia)]]
      simp; lia
    · rw [← maskN_add hg (n := n) (by lia), if_neg (Ne.symm e)]
      lia
theorem row_fold (c : Nat → Nat → Bool) (k r0 : Nat) : ∀ n, (List.range n).foldl (rowStep c k) r0 = r0 + maskN n fun j => !c k j
  | 0 => rfl
  | n + 1 => by
    rw [List.range_succ, List.foldl_append, row_fold c k r0 n, maskN_succ]
    show rowStep c k _ n = _
    unfold rowStep
    cases c k n <;> simp; lia
theorem row_mask {read : List Nat} {n : Nat} {b : Nat → Nat} {c : Nat → Nat → Bool} {k : Nat} {t : Bool} (hk : k < n) (hc : c k k = true) (ht : (read.getD (b k) 0 % 262144 = 116521) ↔ t = true) :
    rowN read n b c k = maskN n fun j => if j = k then t else !c k j := by
  unfold rowN
  rw [row_fold]
  unfold row0
  cases t with
  | true =>
    rw [if_pos (ht.mpr rfl), maskN_add (by rw [hc]; rfl) hk]
  | false =>
    rw [if_neg (fun q => by cases ht.mp q), Nat.zero_add]
    refine maskN_congr fun j _ => ?_
    split
    · rename_i e; subst e; rw [hc]; rfl
    · rfl
end Mine

namespace Mine

/-! the pairs are the chords of a polygon -/
noncomputable def sidesOf (ps : List Pr) : List Nat := ps.flatMap fun p => [p.a, p.b]
structure PInv (M : Nat) (st : List Nat × List Pr) : Prop where
  perm : (sidesOf st.2 ++ st.1).Perm (List.range M)
  srt : st.1.Pairwise (· < ·)
  inc : st.2.Pairwise fun p q => p.a < q.a
  lo : ∀ p ∈ st.2, ∀ s ∈ st.1, p.a < s
  ab : ∀ p ∈ st.2, p.a < p.b
  lab : ∀ (k : Nat) (p : Pr), st.2[k]? = some p → p.l % 5 = k ∧ p.l < 255
theorem filter2_perm {l : List Nat} {a b : Nat} (nd : l.Nodup) (ha : a ∈ l) (hb : b ∈ l) (hab : a ≠ b) : l.Perm (a :: b :: l.filter fun s => s != a && s != b) := by
  have h1 : (l.filter fun s => s != a && s != b) = (l.erase a).erase b := by
    rw [List.Nodup.erase_eq_filter nd, List.Nodup.erase_eq_filter (List.Pairwise.filter _ nd), List.filter_filter]
    congr 1; funext s; exact Bool.and_comm _ _
  rw [h1]
  exact (List.perm_cons_erase ha).trans (.cons a (List.perm_cons_erase ((List.mem_erase_of_ne (Ne.symm hab)).mpr hb)))
theorem PInv.step {M k x : Nat} {st : List Nat × List Pr} (H : PInv M st) (h2 : 2 ≤ st.1.length) (hk : k = st.2.length) (hk5 : k < 5) : PInv M (stepP st k x) := by
  obtain ⟨fr, ps⟩ := st
  obtain ⟨perm, srt, inc, lo, ab, lab⟩ := H
  simp only at perm srt inc lo ab lab h2 hk
  have nd : fr.Nodup := srt.imp fun h => by lia
  have hlt : x % (fr.length - 1) < fr.length - 1 := Nat.mod_lt _ (by lia)
  have e1 : firstN fr = fr[0] := getD_at (by lia)
  have e2 : secondN fr x = fr[1 + x % (fr.length - 1)] := getD_at (by lia)
  have m1 : firstN fr ∈ fr := by rw [e1]; exact List.getElem_mem _
  have m2 : secondN fr x ∈ fr := by rw [e2]; exact List.getElem_mem _
  have h12 : firstN fr < secondN fr x := by
    rw [e1, e2]
    exact List.pairwise_iff_getElem.mp srt 0 _ (by lia) (by lia) (by lia)
  have hmin : ∀ s ∈ fr, s ≠ firstN fr → firstN fr < s := fun s hs hne => by
    obtain ⟨i, hi, rfl⟩ := List.mem_iff_getElem.mp hs
    rw [e1] at hne ⊢
    have : i ≠ 0 := fun e => hne (by subst e; rfl)
    exact List.pairwise_iff_getElem.mp srt 0 i (by lia) hi (by lia)
  refine ⟨?_, ?_, ?_, ?_, ?_, ?_⟩
  · have hp := filter2_perm nd m1 m2 (by lia)
    show (sidesOf (ps ++ [_]) ++ _).Perm _
    have : sidesOf (ps ++ [⟨firstN fr, secondN fr x, x / 9 % 2, k + 5 * (x / 18 % 51)⟩]) = sidesOf ps ++ [firstN fr, secondN fr x] := by simp [sidesOf]
    rw [this, List.append_assoc]
    exact (List.Perm.append_left _ hp.symm).trans perm
  · exact srt.filter _
  · show (ps ++ [_]).Pairwise _
    rw [List.pairwise_append]
    exact ⟨inc, by simp, fun p hp q hq => by rw [List.mem_singleton.mp hq]; exact lo p hp _ m1⟩
  · intro p hp s hs
    obtain ⟨hs1, hs2⟩ := List.mem_filter.mp hs
    simp only [Bool.and_eq_true, bne_iff_ne, ne_eq] at hs2
    rcases List.mem_append.mp hp with hp | hp
    · exact lo p hp s hs1
    · rw [List.mem_singleton.mp hp]
      exact hmin s hs1 hs2.1
  · intro p hp
    rcases List.mem_append.mp hp with hp | hp
    · exact ab p hp
    · rw [List.mem_singleton.mp hp]; exact h12
  · intro i p hp
    have hp : (ps ++ [(⟨firstN fr, secondN fr x, x / 9 % 2, k + 5 * (x / 18 % 51)⟩ : Pr)])[i]? = some p := hp
    rcases Nat.lt_or_ge i ps.length with hi | hi
    · rw [List.getElem?_append_left hi] at hp
      exact lab i p hp
    · rw [List.getElem?_append_right hi] at hp
      have hi0 : i - ps.length = 0 := by
        cases h : i - ps.length with
        | zero => rfl
        | succ j => rw [h] at hp; simp at hp
      rw [hi0] at hp
      simp only [List.getElem?_cons_zero, Option.some.injEq] at hp
      subst hp
      have : x / 18 % 51 < 51 := Nat.mod_lt _ (by decide)
      show (k + 5 * (x / 18 % 51)) % 5 = i ∧ k + 5 * (x / 18 % 51) < 255
      lia
theorem runP_pinv (sc : List Int) : ∀ (n : Nat), n ≤ manyN sc → PInv (2 * manyN sc) (runP sc (List.range n))
  | 0, _ => ⟨by simp [runP, sidesOf], List.pairwise_lt_range, by simp [runP], by simp [runP], by simp [runP], by simp [runP]⟩
  | n + 1, h => by
    have e : runP sc (List.range (n + 1)) = stepP (runP sc (List.range n)) n (xN sc n) := by simp [runP, List.range_succ]
    obtain ⟨_, h2, h3⟩ := runP_inv sc n (by lia)
    have := many_le sc
    rw [e]
    exact (runP_pinv sc n (by lia)).step (by lia) h3.symm (by lia)
structure PsOk (ps : List Pr) : Prop where
  n1 : 1 ≤ ps.length
  n5 : ps.length ≤ 5
  perm : (sidesOf ps).Perm (List.range (2 * ps.length))
  ab : ∀ p ∈ ps, p.a < p.b
  inc : ps.Pairwise fun p q => p.a < q.a
  lab : ∀ p ∈ ps, p.l < 255
  labi : ps.Pairwise fun p q => p.l ≠ q.l
theorem pairs_ok (sc : List Int) : PsOk (pairsN sc) := by
  obtain ⟨h1, h2, h3⟩ := runP_inv sc (manyN sc) (Nat.le_refl _)
  have H := runP_pinv sc (manyN sc) (Nat.le_refl _)
  have hm := many_le sc
  have hl : (pairsN sc).length = manyN sc := h3
  have hf : (runP sc (List.range (manyN sc))).1 = [] := List.length_eq_zero_iff.mp (by lia)
  refine ⟨by lia, by lia, ?_, H.ab, H.inc, fun p hp => ?_, ?_⟩
  · have := H.perm
    rw [hf, List.append_nil] at this
    rw [hl]; exact this
  · obtain ⟨k, hk, rfl⟩ := List.mem_iff_getElem.mp hp
    exact (H.lab k _ (List.getElem?_eq_getElem hk)).2
  · rw [List.pairwise_iff_getElem]
    intro i j hi hj hij e
    have e1 := (H.lab i _ (List.getElem?_eq_getElem hi)).1
    have e2 := (H.lab j _ (List.getElem?_eq_getElem hj)).1
    have e : ((runP sc (List.range (manyN sc))).2[i]).l = ((runP sc (List.range (manyN sc))).2[j]).l := e
    lia
theorem PsOk.b_lt {ps : List Pr} (H : PsOk ps) : ∀ p ∈ ps, p.b < 2 * ps.length := fun p hp => by
  have : p.b ∈ sidesOf ps := List.mem_flatMap.mpr ⟨p, hp, by simp⟩
  exact List.mem_range.mp (H.perm.mem_iff.mp this)
theorem PsOk.prs {ps : List Pr} (H : PsOk ps) : PrsOk ps := fun p hp => by
  have h1 := H.b_lt p hp
  have h2 := H.ab p hp
  lia
theorem PsOk.apart {ps : List Pr} (H : PsOk ps) : ps.Pairwise fun p q => p.a ≠ q.a ∧ p.a ≠ q.b ∧ p.b ≠ q.a ∧ p.b ≠ q.b := by
  have nd : (sidesOf ps).Nodup := H.perm.nodup_iff.mpr List.nodup_range
  have := (List.pairwise_flatMap.mp nd).2
  exact this.imp fun h => ⟨h _ (by simp) _ (by simp), h _ (by simp) _ (by simp), h _ (by simp) _ (by simp), h _ (by simp) _ (by simp)⟩
theorem PsOk.cov {ps : List Pr} (H : PsOk ps) {i : Nat} (hi : i < 2 * ps.length) : ∃ p ∈ ps, i = p.a ∨ i = p.b := by
  have := H.perm.mem_iff.mpr (List.mem_range.mpr hi)
  obtain ⟨p, hp, h⟩ := List.mem_flatMap.mp this
  exact ⟨p, hp, by simpa using h⟩
theorem PsOk.chords {ps : List Pr} (H : PsOk ps) : Chords ps.length (prA ps) (prB ps) := by
  have hap := List.pairwise_iff_getElem.mp H.apart
  refine ⟨fun k hk => ?_, fun j k hj hk hne => ?_, fun j k hj hk => ?_, fun i hi => ?_⟩
  · rw [prA_at hk, prB_at hk]
    exact ⟨H.ab _ (List.getElem_mem hk), H.b_lt _ (List.getElem_mem hk)⟩
  · rw [prA_at hj, prB_at hj, prA_at hk, prB_at hk]
    rcases Nat.lt_or_gt_of_ne hne with q | q
    · have := hap j k hj hk q; exact ⟨this.1, this.2.2.2⟩
    · have := hap k j hk hj q; exact ⟨this.1.symm, this.2.2.2.symm⟩
  · rw [prA_at hj, prB_at hk]
    rcases Nat.lt_trichotomy j k with q | q | q
    · have := hap j k hj hk q; exact this.2.1
    · subst q; have := H.ab _ (List.getElem_mem hj); lia
    · have := hap k j hk hj q; exact this.2.2.1.symm
  · obtain ⟨p, hp, h⟩ := H.cov hi
    obtain ⟨k, hk, rfl⟩ := List.mem_iff_getElem.mp hp
    exact ⟨k, hk, by rw [prA_at hk, prB_at hk]; exact h⟩
end Mine

namespace Mine

/-! the words of a label -/
noncomputable def w1 (l : Nat) : List Nat := apN l ++ [40]
noncomputable def w2 (l : Nat) (t : Bool) : List Nat := apN l ++ if t then [92, 92, 41] else [41]
noncomputable def n1 (l : Nat) : Nat := 64 * sprN l + 40
noncomputable def n2 (l : Nat) (t : Bool) : Nat := if t then 262144 * sprN l + 116521 else 64 * sprN l + 41
theorem end1_eq (p : Pr) : end1 p = ⟨p.a, w1 p.l, n1 p.l⟩ := rfl
theorem end2_eq (p : Pr) : end2 p = ⟨p.b, w2 p.l (p.t != 0), n2 p.l (p.t != 0)⟩ := by
  unfold end2 w2 n2
  by_cases h : p.t = 0
  · simp [h]
  · simp [h]
theorem vGo_app {v b u : Nat} : ∀ {l : List Nat} {v b : Nat} (rest : List Nat), vGo v b l = some (u, []) → vGo v b (l ++ rest) = some (u, rest)
  | [], v, b, rest, h => by
    unfold vGo at h
    split at h
    · rename_i q
      cases h
      cases rest with
      | nil => show vGo _ _ [] = _; unfold vGo; rw [if_pos q]
      | cons c r => show vGo _ _ (c :: r) = _; unfold vGo; rw [if_pos q]
    · cases h
  | c :: r, v, b, rest, h => by
    unfold vGo at h
    split at h
    · cases h
    · rename_i q
      show vGo v b (c :: (r ++ rest)) = _
      unfold vGo
      rw [if_neg q]
      exact vGo_app (v := v) (b := b) rest h
theorem vParse_app {u : Nat} {l : List Nat} (rest : List Nat) (h : vParse l = some (u, [])) : vParse (l ++ rest) = some (u, rest) := by
  cases l with
  | nil => cases h
  | cons b r => exact vGo_app (v := 0) (b := 0) rest h
theorem w1_parse : ∀ l < 256, vParse (w1 l) = some (n1 l, []) ∧ n1 l < 2 ^ 50 := by decide +kernel
theorem w2_parse : ∀ t : Bool, ∀ l < 256, vParse (w2 l t) = some (n2 l t, []) ∧ n2 l t < 2 ^ 50 := by decide +kernel
theorem w1_ok : ∀ l < 256, (w1 l).all (· < 128) = true ∧ (w1 l).length ≤ 10 ∧ w1 l ≠ [] ∧ mkN (n1 l) = sprN l := by decide +kernel
theorem w2_ok : ∀ t : Bool, ∀ l < 256, (w2 l t).all (· < 128) = true ∧ (w2 l t).length ≤ 10 ∧ w2 l t ≠ [] ∧ mkN (n2 l t) = sprN l ∧ ((n2 l t % 262144 = 116521) ↔ t = true) := by decide +kernel
noncomputable def unspr (m : Nat) : Nat := if m = 0 then 0 else if m < 64 then m - 1 else (m / 64 - 1) * 16 + m % 64 - 1
theorem unspr_spr : ∀ l < 256, unspr (sprN l) = l := by decide +kernel
theorem spr_inj {l l' : Nat} (h : l < 256) (h' : l' < 256) (e : sprN l = sprN l') : l = l' := by
  rw [← unspr_spr l h, ← unspr_spr l' h', e]

/-! the ends, sorted -/
theorem perm_lift {α : Type} {g : α → Nat} : ∀ {r : List Nat} {l : List α}, (l.map g).Perm r → ∃ out : List α, out.Perm l ∧ out.map g = r
  | [], l, h => ⟨[], by have := h.length_eq; simp at this; subst this; exact .nil, rfl⟩
  | i :: r, l, h => by
    have hm : i ∈ l.map g := h.mem_iff.mpr (by simp)
    obtain ⟨e, he, rfl⟩ := List.mem_map.mp hm
    obtain ⟨l1, l2, rfl⟩ := List.append_of_mem he
    have hp : (l1 ++ e :: l2).Perm (e :: (l1 ++ l2)) := List.perm_middle
    have h2 : ((l1 ++ l2).map g).Perm r := by
      have := (List.Perm.map g hp).symm.trans h
      exact List.Perm.cons_inv this
    obtain ⟨out, h3, h4⟩ := perm_lift h2
    exact ⟨e :: out, (h3.cons e).trans hp.symm, by rw [List.map_cons, h4]⟩
theorem ends_sides (ps : List Pr) : (ends0 ps).map En.s = sidesOf ps := by
  induction ps with
  | nil => rfl
  | cons p r ih =>
    have : ends0 (p :: r) = [end1 p, end2 p] ++ ends0 r := rfl
    rw [this, List.map_append, ih, end1_eq, end2_eq]; rfl
structure Out (ps : List Pr) (out : List En) : Prop where
  perm : out.Perm (ends0 ps)
  side : out.map En.s = List.range (2 * ps.length)
theorem PsOk.out {ps : List Pr} (H : PsOk ps) : ∃ out, Out ps out := by
  obtain ⟨out, h1, h2⟩ := perm_lift (g := En.s) (l := ends0 ps) (r := List.range (2 * ps.length)) (by rw [ends_sides]; exact H.perm)
  exact ⟨out, h1, h2⟩
section
variable {ps : List Pr} {out : List En}
theorem Out.len (O : Out ps out) : out.length = 2 * ps.length := by rw [O.perm.length_eq, ends0_len]
theorem Out.mem (O : Out ps out) {e : En} : e ∈ out ↔ ∃ p ∈ ps, e = end1 p ∨ e = end2 p := by
  rw [O.perm.mem_iff]
  unfold ends0
  simp only [List.mem_flatMap, List.mem_cons, List.not_mem_nil, or_false]
theorem Out.at (O : Out ps out) {e : En} (h : e ∈ out) : out[e.s]? = some e := by
  obtain ⟨i, hi, he⟩ := List.mem_iff_getElem.mp h
  have h1 : (out.map En.s)[i]? = some e.s := by rw [List.getElem?_map, List.getElem?_eq_getElem hi, he]; rfl
  have := O.len
  rw [O.side, List.getElem?_range (by lia)] at h1
  have : i = e.s := Option.some.inj h1
  rw [← this, List.getElem?_eq_getElem hi, he]
theorem Out.at1 (O : Out ps out) {p : Pr} (h : p ∈ ps) : out[p.a]? = some ⟨p.a, w1 p.l, n1 p.l⟩ := by
  have := O.at (O.mem.mpr ⟨p, h, .inl rfl⟩)
  rwa [end1_eq] at this
theorem Out.at2 (O : Out ps out) {p : Pr} (h : p ∈ ps) : out[p.b]? = some ⟨p.b, w2 p.l (p.t != 0), n2 p.l (p.t != 0)⟩ := by
  have := O.at (O.mem.mpr ⟨p, h, .inr rfl⟩)
  rwa [end2_eq] at this
theorem Out.sort (O : Out ps out) : out.Pairwise fun x y => x.s < y.s := by
  have : (out.map En.s).Pairwise (· < ·) := by rw [O.side]; exact List.pairwise_lt_range
  exact List.pairwise_map.mp this
theorem Out.word (H : PsOk ps) (O : Out ps out) {e : En} (h : e ∈ out) : vParse e.o = some (e.n, []) ∧ e.n < 2 ^ 50 ∧ (∀ c ∈ e.o, c < 128) ∧ e.o.length ≤ 10 := by
  obtain ⟨p, hp, rfl | rfl⟩ := O.mem.mp h
  · have hl := H.lab p hp
    rw [end1_eq]
    have h1 := w1_parse p.l (by lia)
    have h2 := w1_ok p.l (by lia)
    exact ⟨h1.1, h1.2, by simpa using h2.1, h2.2.1⟩
  · have hl := H.lab p hp
    rw [end2_eq]
    have h1 := w2_parse (p.t != 0) p.l (by lia)
    have h2 := w2_ok (p.t != 0) p.l (by lia)
    exact ⟨h1.1, h1.2, by simpa using h2.1, h2.2.1⟩
theorem Out.tape (H : PsOk ps) (O : Out ps out) : ∀ pre e post, out = pre ++ e :: post → vParse ((e :: post).flatMap En.o) = some (e.n, post.flatMap En.o) ∧ e.n < 2 ^ 50 := fun pre e post h => by
  have := O.word H (e := e) (by rw [h]; simp)
  exact ⟨vParse_app _ this.1, this.2.1⟩

/-! marks, names, places -/
noncomputable def marksN (out : List En) : List Nat := (out.map En.n).map mkN
theorem marks_len (O : Out ps out) : (marksN out).length = 2 * ps.length := by simp [marksN, O.len]
theorem mark_a (H : PsOk ps) (O : Out ps out) {p : Pr} (h : p ∈ ps) : (marksN out).getD p.a 0 = sprN p.l := by
  have hl := H.lab p h
  simp [marksN, List.getD, O.at1 h, (w1_ok p.l (by lia)).2.2.2]
theorem mark_b (H : PsOk ps) (O : Out ps out) {p : Pr} (h : p ∈ ps) : (marksN out).getD p.b 0 = sprN p.l := by
  have hl := H.lab p h
  simp [marksN, List.getD, O.at2 h, (w2_ok (p.t != 0) p.l (by lia)).2.2.2.1]
theorem txt_a (O : Out ps out) {p : Pr} (h : p ∈ ps) : txt (out.map En.o) p.a = w1 p.l := by simp [txt, O.at1 h]
theorem txt_b (O : Out ps out) {p : Pr} (h : p ∈ ps) : txt (out.map En.o) p.b = w2 p.l (p.t != 0) := by simp [txt, O.at2 h]
theorem read_b (O : Out ps out) {p : Pr} (h : p ∈ ps) : (out.map En.n).getD p.b 0 = n2 p.l (p.t != 0) := by simp [List.getD, O.at2 h]
theorem lab_one (H : PsOk ps) {p q : Pr} (hp : p ∈ ps) (hq : q ∈ ps) (e : sprN p.l = sprN q.l) : p = q := by
  have h1 := H.lab p hp
  have h2 := H.lab q hq
  have e := spr_inj (by lia) (by lia) e
  obtain ⟨i, hi, rfl⟩ := List.mem_iff_getElem.mp hp
  obtain ⟨j, hj, rfl⟩ := List.mem_iff_getElem.mp hq
  have hl := List.pairwise_iff_getElem.mp H.labi
  rcases Nat.lt_trichotomy i j with u | u | u
  · exact absurd e (hl i j hi hj u)
  · subst u; rfl
  · exact absurd e.symm (hl j i hj hi u)
theorem sorted_ext : ∀ {l l' : List Nat}, l.Pairwise (· < ·) → l'.Pairwise (· < ·) → (∀ x, x ∈ l ↔ x ∈ l') → l = l'
  | [], [], _, _, _ => rfl
  | [], b :: r', _, _, h => by have := (h b).mpr (by simp); simp at this
  | a :: r, [], _, _, h => by have := (h a).mp (by simp); simp at this
  | a :: r, b :: r', h1, h2, h => by
    obtain ⟨p1, p2⟩ := List.pairwise_cons.mp h1
    obtain ⟨q1, q2⟩ := List.pairwise_cons.mp h2
    have hab : a = b := by
      have m1 := (h a).mp (by simp)
      have m2 := (h b).mpr (by simp)
      rcases List.mem_cons.mp m1 with e | m1
      · exact e
      · rcases List.mem_cons.mp m2 with e | m2
        · exact e.symm
        · have := p1 b m2; have := q1 a m1; lia
    subst hab
    congr 1
    refine sorted_ext p2 q2 fun x => ⟨fun m => ?_, fun m => ?_⟩
    · have := p1 x m
      rcases List.mem_cons.mp ((h x).mp (List.mem_cons_of_mem _ m)) with e | m'
      · lia
      · exact m'
    · have := q1 x m
      rcases List.mem_cons.mp ((h x).mpr (List.mem_cons_of_mem _ m)) with e | m'
      · lia
      · exact m'
theorem pos_eq (H : PsOk ps) (O : Out ps out) {p : Pr} (h : p ∈ ps) : posN (marksN out) (sprN p.l) = [p.a, p.b] := by
  have hab := H.ab p h
  have hb := H.b_lt p h
  refine sorted_ext (List.pairwise_lt_range.filter _) (by simpa using hab) fun q => ?_
  unfold posN
  rw [List.mem_filter, marks_len O, List.mem_range, beq_iff_eq]
  simp only [List.mem_cons, List.not_mem_nil, or_false]
  constructor
  · rintro ⟨hq, e⟩
    obtain ⟨p', hp', he⟩ := H.cov hq
    have : p' = p := by
      rcases he with rfl | rfl
      · rw [mark_a H O hp'] at e; exact lab_one H hp' h e
      · rw [mark_b H O hp'] at e; exact lab_one H hp' h e
    subst this; exact he
  · rintro (rfl | rfl)
    · exact ⟨by lia, mark_a H O h⟩
    · exact ⟨hb, mark_b H O h⟩
theorem names_eq (H : PsOk ps) (O : Out ps out) : namesN (marksN out) = ps.map fun p => sprN p.l := by
  have key : ((List.range (marksN out).length).filter fun q => !((marksN out).take q).any (· == (marksN out).getD q 0)) = ps.map fun p => p.a := by
    refine sorted_ext (List.pairwise_lt_range.filter _) (List.pairwise_map.mpr H.inc) fun q => ?_
    rw [List.mem_filter, marks_len O, List.mem_range, Bool.not_eq_true', List.any_eq_false, List.mem_map]
    constructor
    · rintro ⟨hq, hn⟩
      obtain ⟨p, hp, rfl | rfl⟩ := H.cov hq
      · exact ⟨p, hp, rfl⟩
      · exfalso
        have hab := H.ab p hp
        refine hn ((marksN out).getD p.a 0) ?_ (by rw [mark_a H O hp, mark_b H O hp]; simp)
        have hml := marks_len O
        rw [getD_at (by lia)]
        exact List.mem_take_iff_getElem.mpr ⟨p.a, by lia, rfl⟩
    · rintro ⟨p, hp, rfl⟩
      have hb := H.b_lt p hp
      have hab := H.ab p hp
      refine ⟨by lia, fun x hx e => ?_⟩
      obtain ⟨i, hi, rfl⟩ := List.mem_take_iff_getElem.mp hx
      have hil : i < 2 * ps.length := by rw [marks_len O] at hi; lia
      have e : (marksN out).getD i 0 = (marksN out).getD p.a 0 := by rw [getD_at (by lia)]; exact eq_of_beq e
      rw [mark_a H O hp] at e
      have hip : i < p.a := by lia
      obtain ⟨p', hp', he⟩ := H.cov hil
      have : p' = p := by
        rcases he with rfl | rfl
        · rw [mark_a H O hp'] at e; exact lab_one H hp' hp e
        · rw [mark_b H O hp'] at e; exact lab_one H hp' hp e
      subst this
      lia
  unfold namesN
  rw [key, List.map_map]
  exact List.map_congr_left fun p hp => mark_a H O hp
end
end Mine

namespace Mine
open PySem PySem.Calls PyProof.Rows PySem.W

/-! pieces of tape, one behind the other -/
noncomputable def escOut : List Nat → Bool → Bool
  | [], b => b
  | c :: r, true => escOut r false
  | c :: r, false => escOut r (c == 92)
theorem escGo_app : ∀ (w rest : List Nat) (j : Nat) (b : Bool), escOut w b = false → escGo (w ++ rest) j b = escGo w j b ++ escGo rest (j + w.length) false
  | [], rest, j, b, h => by
    have hb : b = false := h
    subst hb
    simp [escGo]
  | c :: r, rest, j, true, h => by
    have h : escOut r false = false := h
    show (j, [92, c]) :: escGo (r ++ rest) (j + 1) false = ((j, [92, c]) :: escGo r (j + 1) false) ++ _
    rw [escGo_app r rest _ _ h, List.cons_append]
    congr 3
    simp; lia
  | c :: r, rest, j, false, h => by
    have h : escOut r (c == 92) = false := h
    show (if c = 92 then escGo (r ++ rest) (j + 1) true else (j, [c]) :: escGo (r ++ rest) (j + 1) false) = (if c = 92 then escGo r (j + 1) true else (j, [c]) :: escGo r (j + 1) false) ++ _
    by_cases hc : c = 92
    · rw [if_pos hc, if_pos hc]
      rw [beq_iff_eq.mpr hc] at h
      rw [escGo_app r rest _ _ h]
      congr 2
      simp; lia
    · rw [if_neg hc, if_neg hc]
      rw [beq_eq_false_iff_ne.mpr hc] at h
      rw [escGo_app r rest _ _ h, List.cons_append]
      congr 3
      simp; lia
theorem escGo_noq : ∀ (w : List Nat) (j : Nat) (b : Bool), 34 ∉ w → ∀ p ∈ escGo w j b, p.2 ≠ [34]
  | [], j, b, _, p, hp => by
    cases b with
    | false => simp [escGo] at hp
    | true => simp [escGo] at hp; subst hp; simp
  | c :: r, j, true, h, p, hp => by
    have hp : p ∈ (j, [92, c]) :: escGo r (j + 1) false := hp
    rcases List.mem_cons.mp hp with rfl | hp
    · simp
    · exact escGo_noq r _ _ (fun m => h (List.mem_cons_of_mem _ m)) p hp
  | c :: r, j, false, h, p, hp => by
    have hp : p ∈ (if c = 92 then escGo r (j + 1) true else (j, [c]) :: escGo r (j + 1) false) := hp
    split at hp
    · exact escGo_noq r _ _ (fun m => h (List.mem_cons_of_mem _ m)) p hp
    · rcases List.mem_cons.mp hp with rfl | hp
      · intro e
        simp only [List.cons.injEq, and_true] at e
        exact h (by simp [e])
      · exact escGo_noq r _ _ (fun m => h (List.mem_cons_of_mem _ m)) p hp
theorem sStep_noq (l : List Nat) : ∀ (ps : List (Nat × List Nat)) (st : SS), (∀ p ∈ ps, p.2 ≠ [34]) → ps.foldl (sStep l) st = st
  | [], st, _ => rfl
  | p :: ps, st, h => by
    have : sStep l st p = st := by unfold sStep; rw [if_neg (h p (by simp))]
    rw [List.foldl_cons, this]
    exact sStep_noq l ps st fun q m => h q (List.mem_cons_of_mem _ m)
noncomputable abbrev Piece := Bool × List Nat
noncomputable def pText (p : Piece) : List Nat := if p.1 then p.2 else 34 :: p.2 ++ [34]
noncomputable def pKeep (p : Piece) : List Nat := if p.1 then p.2 else []
noncomputable def PieceOk (p : Piece) : Prop := 34 ∉ p.2 ∧ escOut p.2 false = false
theorem drop_take_app {l pre w rest : List Nat} {st : Nat} (e : l = pre ++ (w ++ rest)) (h : st ≤ pre.length) : (l.take (pre ++ w).length).drop st = (l.take pre.length).drop st ++ w := by
  subst e
  rw [← List.append_assoc, List.take_left, List.append_assoc, List.take_left, List.drop_append_of_le_length h]
theorem strip_go (l : List Nat) : ∀ (ps : List Piece) (pre : List Nat) (st : SS) (rs : List (List Nat)), l = pre ++ ps.flatMap pText → (∀ p ∈ ps, PieceOk p) → st.op = none → st.res = rs.map tx → st.start ≤ pre.length →
    ∃ st' : SS, ∃ rs' : List (List Nat), (escGo (ps.flatMap pText) pre.length false).foldl (sStep l) st = st' ∧ st'.op = none ∧ st'.res = rs'.map tx ∧ st'.start ≤ l.length ∧ rs'.flatten ++ l.drop st'.start = rs.flatten ++ (l.take pre.length).drop st.start ++ ps.flatMap pKeep
  | [], pre, st, rs, hl, _, ho, hr, hs => ⟨st, rs, rfl, ho, hr, by subst hl; simpa using hs, by subst hl; simp⟩
  | p :: ps, pre, st, rs, hl, hp, ho, hr, hs => by
    obtain ⟨hq, hc⟩ := hp p (by simp)
    have hps : ∀ q ∈ ps, PieceOk q := fun q m => hp q (List.mem_cons_of_mem _ m)
    obtain ⟨k, w⟩ := p
    simp only at hq hc
    rw [List.flatMap_cons] at hl
    rw [List.flatMap_cons, List.flatMap_cons]
    cases k with
    | true =>
      have e1 : pText (true, w) = w := rfl
      have e2 : pKeep (true, w) = w := rfl
      rw [e1] at hl ⊢
      rw [e2, escGo_app _ _ _ _ hc, List.foldl_append, sStep_noq l _ _ (escGo_noq w _ _ hq), ← List.length_append]
      obtain ⟨st', rs', h1, h2, h3, h4, h5⟩ := strip_go l ps (pre ++ w) st rs (by rw [hl, List.append_assoc]) hps ho hr (by simp; lia)
      refine ⟨st', rs', h1, h2, h3, h4, ?_⟩
      rw [h5, drop_take_app hl hs]
      simp only [List.append_assoc]
    | false =>
      have e1 : pText (false, w) = 34 :: w ++ [34] := rfl
      have e2 : pKeep (false, w) = [] := rfl
      rw [e1] at hl ⊢
      have hlen : pre.length ≤ l.length := by rw [hl]; simp
      have eg : escGo (34 :: w ++ [34] ++ ps.flatMap pText) pre.length false = (pre.length, [34]) :: (escGo w (pre.length + 1) false ++ (pre.length + 1 + w.length, [34]) :: escGo (ps.flatMap pText) (pre ++ (34 :: w ++ [34])).length false) := by
        show escGo (34 :: (w ++ [34] ++ ps.flatMap pText)) _ _ = _
        rw [List.append_assoc]
        have : escGo (34 :: (w ++ ([34] ++ ps.flatMap pText))) pre.length false = (pre.length, [34]) :: escGo (w ++ ([34] ++ ps.flatMap pText)) (pre.length + 1) false := rfl
        rw [this, escGo_app _ _ _ _ hc]
        have : escGo ([34] ++ ps.flatMap pText) (pre.length + 1 + w.length) false = (pre.length + 1 + w.length, [34]) :: escGo (ps.flatMap pText) (pre.length + 1 + w.length + 1) false := rfl
        rw [this]
        congr 4
        simp; lia
      obtain ⟨start, op, res⟩ := st
      simp only at ho hr hs
      subst ho; subst hr
      have s1 : sStep l ⟨start, none, rs.map tx⟩ (pre.length, [34]) = ⟨start, some pre.length, rs.map tx⟩ := by rw [sStep, if_pos rfl]
      have s2 : sStep l ⟨start, some pre.length, rs.map tx⟩ (pre.length + 1 + w.length, [34]) = ⟨(pre ++ (34 :: w ++ [34])).length, none, (if start ≠ pre.length then rs ++ [(l.drop start).take (pre.length - start)] else rs).map tx⟩ := by
        rw [sStep, if_pos rfl]
        show SS.mk _ _ _ = _
        congr 1
        · simp; lia
        · simp only
          split
          · rw [slice_ab hs hlen]; simp
          · rfl
      rw [eg, List.foldl_cons, s1, List.foldl_append, sStep_noq l _ _ (escGo_noq w _ _ hq), List.foldl_cons, s2]
      have hl' : l = (pre ++ (34 :: w ++ [34])) ++ ps.flatMap pText := by rw [hl]; simp only [List.append_assoc]
      obtain ⟨st', rs', h1, h2, h3, h4, h5⟩ := strip_go l ps (pre ++ (34 :: w ++ [34])) ⟨(pre ++ (34 :: w ++ [34])).length, none, _⟩ (if start ≠ pre.length then rs ++ [(l.drop start).take (pre.length - start)] else rs) hl' hps rfl rfl (Nat.le_refl _)
      refine ⟨st', rs', h1, h2, h3, h4, ?_⟩
      rw [h5, e2]
      have e3 : (l.take (pre ++ (34 :: w ++ [34])).length).drop (pre ++ (34 :: w ++ [34])).length = [] := List.drop_eq_nil_of_le (by rw [List.length_take]; lia)
      simp only [e3, List.append_nil, List.nil_append]
      congr 1
      rw [List.drop_take]
      split
      · simp
      · rename_i q
        have : start = pre.length := by simpa using q
        subst this
        simp
theorem strip_pieces {ps : List Piece} (h : ∀ p ∈ ps, PieceOk p) : stripS (ps.flatMap pText) = tx (ps.flatMap pKeep) := by
  unfold stripS
  by_cases hq : 34 ∈ ps.flatMap pText
  · rw [if_pos hq]
    obtain ⟨st', rs', h1, h2, h3, h4, h5⟩ := strip_go (ps.flatMap pText) ps [] ⟨0, none, []⟩ [] rfl h rfl rfl (Nat.le_refl _)
    have h1 : stripSt (ps.flatMap pText) = st' := h1
    rw [h1]
    unfold stripRes
    simp only [List.flatten_nil, List.length_nil, List.take_zero, List.drop_nil, List.append_nil, List.nil_append] at h5
    by_cases hs : st'.start < (ps.flatMap pText).length
    · rw [if_pos hs, slice_a h4, h3, show rs'.map tx ++ [tx ((ps.flatMap pText).drop st'.start)] = (rs' ++ [(ps.flatMap pText).drop st'.start]).map tx by simp, join_tx, ← h5]
      simp
    · rw [if_neg hs, h3, join_tx, ← h5, List.drop_eq_nil_of_le (by lia)]
      simp
  · rw [if_neg hq]
    congr 1
    rw [List.flatMap_def, List.flatMap_def]
    congr 1
    refine List.map_congr_left fun p hp => ?_
    obtain ⟨k, w⟩ := p
    cases k with
    | true => rfl
    | false => exact absurd (List.mem_flatMap.mpr ⟨(false, w), hp, by simp [pText]⟩) hq

/-! the brackets that are left -/
noncomputable def effOf (c : List Nat) : Int := if c = [40] then 1 else if c = [41] then -1 else 0
noncomputable def effStep (o : Option Int) (e : Int) : Option Int :=
  match o with
  | none => none
  | some n => if e = 1 then some (n + 1) else if e = -1 then (if n - 1 < 0 then none else some (n - 1)) else some n
noncomputable def effs (j : Nat) (w : List Nat) : List Int := ((escGo w j false).map fun p => effOf p.2).filter (· != 0)
theorem escGo_snd : ∀ (w : List Nat) (j i : Nat) (b : Bool), (escGo w j b).map (fun p => effOf p.2) = (escGo w i b).map fun p => effOf p.2
  | [], j, i, b => by cases b <;> simp [escGo]
  | c :: r, j, i, true => by
    show effOf [92, c] :: _ = effOf [92, c] :: _
    rw [escGo_snd r (j + 1) (i + 1) false]
  | c :: r, j, i, false => by
    simp only [escGo]
    split
    · exact escGo_snd r _ _ _
    · rw [List.map_cons, List.map_cons, escGo_snd r (j + 1) (i + 1) false]
theorem effs_at (j : Nat) (w : List Nat) : effs j w = effs 0 w := by unfold effs; rw [escGo_snd w j 0]
theorem effs_app {w rest : List Nat} (h : escOut w false = false) : effs 0 (w ++ rest) = effs 0 w ++ effs 0 rest := by
  have : effs 0 (w ++ rest) = effs 0 w ++ effs (0 + w.length) rest := by
    unfold effs
    rw [escGo_app _ _ _ _ h, List.map_append, List.filter_append]
  rw [this, effs_at (0 + w.length)]
theorem effs_flat : ∀ {ps : List (List Nat)}, (∀ w ∈ ps, escOut w false = false) → effs 0 ps.flatten = ps.flatMap (effs 0)
  | [], _ => rfl
  | w :: ps, h => by
    rw [List.flatten_cons, effs_app (h w (by simp)), List.flatMap_cons, effs_flat fun u m => h u (List.mem_cons_of_mem _ m)]
theorem eff_fold : ∀ (ps : List (Nat × List Nat)) (o : Option Int), ps.foldl ckStep o = ((ps.map fun p => effOf p.2).filter (· != 0)).foldl effStep o
  | [], o => rfl
  | p :: ps, o => by
    rw [List.foldl_cons, eff_fold ps, List.map_cons, List.filter_cons]
    have e1 : p.2 = [40] → ckStep o p = effStep o 1 := fun h => by cases o <;> simp [ckStep, effStep, h]
    have e2 : p.2 = [41] → ckStep o p = effStep o (-1) := fun h => by cases o <;> simp [ckStep, effStep, h]
    have e3 : p.2 ≠ [40] → p.2 ≠ [41] → ckStep o p = o := fun h h' => by cases o <;> simp [ckStep, h, h']
    by_cases h1 : p.2 = [40]
    · have : effOf p.2 = 1 := by rw [h1]; rfl
      rw [this, e1 h1]; rfl
    · by_cases h2 : p.2 = [41]
      · have : effOf p.2 = -1 := by rw [h2]; rfl
        rw [this, e2 h2]; rfl
      · have : effOf p.2 = 0 := by unfold effOf; rw [if_neg h1, if_neg h2]
        rw [this, e3 h1 h2]; rfl
theorem checkB_effs (l : List Nat) : checkB l = ckEnd ((effs 0 l).foldl effStep (some 0)) := by
  unfold checkB effs
  rw [eff_fold]
end Mine

namespace Mine
open PySem PySem.Calls PyProof.Rows PySem.W

/-! the words, piece by piece -/
structure WOk (w : List Nat) (e : List Int) : Prop where
  asc : ∀ c ∈ w, c < 128
  len : w.length ≤ 12
  noq : 34 ∉ w
  cl : escOut w false = false
  ef : effs 0 w = e
noncomputable def wB (w : List Nat) (e : List Int) : Bool := w.all (· < 128) && decide (w.length ≤ 12) && decide (34 ∉ w) && !escOut w false && decide (effs 0 w = e)
theorem wB_ok {w : List Nat} {e : List Int} (h : wB w e = true) : WOk w e := by
  unfold wB at h
  simp only [Bool.and_eq_true, List.all_eq_true, decide_eq_true_eq, Bool.not_eq_true'] at h
  exact ⟨h.1.1.1.1, h.1.1.1.2, h.1.1.2, h.1.2, h.2⟩
theorem w1_b : ∀ l < 256, wB (w1 l) [1] = true := by decide +kernel
theorem w2_b : ∀ t : Bool, ∀ l < 256, wB (w2 l t) [-1] = true := by decide +kernel
theorem h1_b : ∀ l < 256, wB (hideL (w1 l)) [] = true ∧ (w1 l).getLast? = some 40 := by decide +kernel
theorem h2_b : ∀ t : Bool, ∀ l < 256, (w2 l t).getLast? ≠ some 40 := by decide +kernel

noncomputable def piece (marks : List Nat) (texts : List (List Nat)) (x y q : Nat) : Piece :=
  if marks.getD q 0 = x ∨ marks.getD q 0 = y then (true, txt texts q) else if (txt texts q).getLast? = some 40 then (true, hideL (txt texts q)) else (false, txt texts q)
theorem piece_text (marks : List Nat) (texts : List (List Nat)) (x y q : Nat) : pText (piece marks texts x y q) = shownN marks texts x y q := by
  unfold piece shownN
  split
  · rfl
  · split
    · rfl
    · rename_i h
      show 34 :: txt texts q ++ [34] = hideL _
      rw [hideL, if_neg h]
noncomputable def effQ (ak bk aj bj q : Nat) : List Int := if q = ak ∨ q = aj then [1] else if q = bk ∨ q = bj then [-1] else []
structure PcOk (p : Piece) (e : List Int) : Prop where
  asc : ∀ c ∈ p.2, c < 128
  len : p.2.length ≤ 12
  ok : PieceOk p
  cl : escOut (pKeep p) false = false
  ef : effs 0 (pKeep p) = e
theorem PcOk.show {w : List Nat} {e : List Int} (h : WOk w e) : PcOk (true, w) e := ⟨h.asc, h.len, ⟨h.noq, h.cl⟩, h.cl, h.ef⟩
theorem PcOk.hide {w : List Nat} {e : List Int} (h : WOk w e) : PcOk (false, w) [] := ⟨h.asc, h.len, ⟨h.noq, h.cl⟩, rfl, rfl⟩
section
variable {ps : List Pr} {out : List En}
theorem mem_apart (H : PsOk ps) {p q : Pr} (hp : p ∈ ps) (hq : q ∈ ps) (hne : p ≠ q) : p.a ≠ q.a ∧ p.a ≠ q.b ∧ p.b ≠ q.a ∧ p.b ≠ q.b := by
  obtain ⟨i, hi, rfl⟩ := List.mem_iff_getElem.mp hp
  obtain ⟨j, hj, rfl⟩ := List.mem_iff_getElem.mp hq
  have hap := List.pairwise_iff_getElem.mp H.apart
  rcases Nat.lt_trichotomy i j with u | u | u
  · exact hap i j hi hj u
  · subst u; exact absurd rfl hne
  · have := hap j i hj hi u; exact ⟨this.1.symm, this.2.2.1.symm, this.2.1.symm, this.2.2.2.symm⟩
theorem piece_ok (H : PsOk ps) (O : Out ps out) {pk pj : Pr} (hk : pk ∈ ps) (hj : pj ∈ ps) {q : Nat} (hq : q < 2 * ps.length) : PcOk (piece (marksN out) (out.map En.o) (sprN pk.l) (sprN pj.l) q) (effQ pk.a pk.b pj.a pj.b q) := by
  obtain ⟨p, hp, hpq⟩ := H.cov hq
  have hl := H.lab p hp
  have hiff : ∀ r ∈ ps, sprN p.l = sprN r.l ↔ p = r := fun r hr => ⟨fun e => lab_one H hp hr e, fun e => by rw [e]⟩
  have hab := H.ab p hp
  have hor : (sprN p.l = sprN pk.l ∨ sprN p.l = sprN pj.l) ↔ (p = pk ∨ p = pj) := or_congr (hiff pk hk) (hiff pj hj)
  rcases hpq with rfl | rfl
  · unfold piece
    rw [mark_a H O hp, txt_a O hp]
    by_cases hs : p = pk ∨ p = pj
    · rw [if_pos (hor.mpr hs)]
      have : effQ pk.a pk.b pj.a pj.b p.a = [1] := by
        unfold effQ
        rw [if_pos (by rcases hs with rfl | rfl <;> simp)]
      rw [this]
      exact .show (wB_ok (w1_b p.l (by lia)))
    · rw [if_neg fun h => hs (hor.mp h), if_pos (h1_b p.l (by lia)).2]
      have hk' := mem_apart H hp hk fun e => hs (.inl e)
      have hj' := mem_apart H hp hj fun e => hs (.inr e)
      have : effQ pk.a pk.b pj.a pj.b p.a = [] := by
        unfold effQ
        rw [if_neg (by lia), if_neg (by lia)]
      rw [this]
      exact .show (wB_ok (h1_b p.l (by lia)).1)
  · unfold piece
    rw [mark_b H O hp, txt_b O hp]
    by_cases hs : p = pk ∨ p = pj
    · rw [if_pos (hor.mpr hs)]
      have : effQ pk.a pk.b pj.a pj.b p.b = [-1] := by
        unfold effQ
        have h1 : ∀ r ∈ ps, p.b ≠ r.a := fun r hr => by
          by_cases e : p = r
          · subst e; lia
          · exact (mem_apart H hp hr e).2.2.1
        have := h1 pk hk
        have := h1 pj hj
        rw [if_neg (by lia), if_pos (by rcases hs with rfl | rfl <;> simp)]
      rw [this]
      exact .show (wB_ok (w2_b _ p.l (by lia)))
    · rw [if_neg fun h => hs (hor.mp h), if_neg (h2_b _ p.l (by lia))]
      have hk' := mem_apart H hp hk fun e => hs (.inl e)
      have hj' := mem_apart H hp hj fun e => hs (.inr e)
      have : effQ pk.a pk.b pj.a pj.b p.b = [] := by
        unfold effQ
        rw [if_neg (by lia), if_neg (by lia)]
      rw [this]
      exact .hide (wB_ok (w2_b _ p.l (by lia)))
end

/-! two chords, seen from the one -/
theorem flatMap_filter {α β : Type} (e : α → List β) (f : α → Bool) (h : ∀ x, f x = false → e x = []) : ∀ l : List α, l.flatMap e = (l.filter f).flatMap e
  | [] => rfl
  | a :: l => by
    rw [List.flatMap_cons, flatMap_filter e f h l, List.filter_cons]
    cases hf : f a with
    | true => rw [if_pos rfl, List.flatMap_cons]
    | false => rw [if_neg (by simp), h a hf]; rfl
theorem span_eff {ak bk aj bj : Nat} {l : List Nat} (hl : l.Pairwise (· < ·)) (hm : ∀ q, q ∈ l ↔ (ak ≤ q ∧ q ≤ bk) ∧ (q = ak ∨ q = aj ∨ q = bk ∨ q = bj)) :
    (List.range (bk + 1 - ak)).flatMap (fun i => effQ ak bk aj bj (ak + i)) = l.flatMap (effQ ak bk aj bj) := by
  have e1 : (List.range (bk + 1 - ak)).flatMap (fun i => effQ ak bk aj bj (ak + i)) = ((List.range (bk + 1 - ak)).map (ak + ·)).flatMap (effQ ak bk aj bj) := by
    rw [List.flatMap_map]
  rw [e1, flatMap_filter _ (fun q => decide (q = ak ∨ q = aj ∨ q = bk ∨ q = bj)) fun q hq => by
    have hq := of_decide_eq_false hq
    unfold effQ
    rw [if_neg (by lia), if_neg (by lia)]]
  congr 1
  refine sorted_ext (List.Pairwise.filter _ (List.pairwise_map.mpr (List.pairwise_lt_range.imp fun h => by lia))) hl fun q => ?_
  rw [hm, List.mem_filter, List.mem_map, decide_eq_true_eq]
  refine and_congr_left fun _ => ?_
  constructor
  · rintro ⟨i, hi, rfl⟩
    have := List.mem_range.mp hi
    lia
  · intro h
    exact ⟨q - ak, List.mem_range.mpr (by lia), by lia⟩
theorem skel {ak bk aj bj : Nat} (hk : ak < bk) (hj : aj < bj) (h : (ak = aj ∧ bk = bj) ∨ (ak ≠ aj ∧ ak ≠ bj ∧ bk ≠ aj ∧ bk ≠ bj)) :
    ckEnd (((List.range (bk + 1 - ak)).flatMap fun i => effQ ak bk aj bj (ak + i)).foldl effStep (some 0)) = !(decide (ak < aj ∧ aj < bk) != decide (ak < bj ∧ bj < bk)) := by
  have ea : effQ ak bk aj bj ak = [1] := by unfold effQ; rw [if_pos (by lia)]
  have eb : effQ ak bk aj bj bk = [-1] := by unfold effQ; rw [if_neg (by lia), if_pos (by lia)]
  have ea' : effQ ak bk aj bj aj = [1] := by unfold effQ; rw [if_pos (by lia)]
  have eb' : effQ ak bk aj bj bj = [-1] := by unfold effQ; rw [if_neg (by lia), if_pos (by lia)]
  by_cases c1 : ak < aj ∧ aj < bk <;> by_cases c2 : ak < bj ∧ bj < bk
  · rw [span_eff (l := [ak, aj, bj, bk]) (by simp; lia) (fun q => by simp only [List.mem_cons, List.not_mem_nil, or_false]; lia), decide_eq_true c1, decide_eq_true c2]
    simp only [List.flatMap_cons, List.flatMap_nil, ea, eb, ea', eb']
    rfl
  · rw [span_eff (l := [ak, aj, bk]) (by simp; lia) (fun q => by simp only [List.mem_cons, List.not_mem_nil, or_false]; lia), decide_eq_true c1, decide_eq_false c2]
    simp only [List.flatMap_cons, List.flatMap_nil, ea, eb, ea', eb']
    rfl
  · rw [span_eff (l := [ak, bj, bk]) (by simp; lia) (fun q => by simp only [List.mem_cons, List.not_mem_nil, or_false]; lia), decide_eq_false c1, decide_eq_true c2]
    simp only [List.flatMap_cons, List.flatMap_nil, ea, eb, ea', eb']
    rfl
  · rw [span_eff (l := [ak, bk]) (by simp; lia) (fun q => by simp only [List.mem_cons, List.not_mem_nil, or_false]; lia), decide_eq_false c1, decide_eq_false c2]
    simp only [List.flatMap_cons, List.flatMap_nil, ea, eb, ea', eb']
    rfl

/-! the table -/
theorem flatMap_len {α : Type} {g : α → List Nat} {n : Nat} : ∀ {l : List α}, (∀ x ∈ l, (g x).length ≤ n) → (l.flatMap g).length ≤ n * l.length
  | [], _ => by simp
  | a :: l, h => by
    have h1 := h a (by simp)
    have h2 := flatMap_len fun x m => h x (List.mem_cons_of_mem a m)
    rw [List.flatMap_cons, List.length_append, List.length_cons, Nat.mul_add]
    lia
theorem asc_flat {α : Type} {g : α → List Nat} {l : List α} (h : ∀ x ∈ l, ∀ c ∈ g x, c < 128) : (l.flatMap g).all (· < 128) = true := by
  rw [List.all_eq_true]
  intro c hc
  obtain ⟨x, hx, hc⟩ := List.mem_flatMap.mp hc
  exact decide_eq_true (h x hx c hc)
theorem check_pieces {pcs : List Piece} {e : Piece → List Int} (h : ∀ p ∈ pcs, PcOk p (e p)) (hl : pcs.length ≤ 30) : Spec 10 2 [.str (tx (pcs.flatMap pText))] (.bool (ckEnd ((pcs.flatMap e).foldl effStep (some 0)))) := by
  have hef : effs 0 (pcs.flatMap pKeep) = pcs.flatMap e := by
    rw [List.flatMap_def, effs_flat (by
      intro w hw
      obtain ⟨p, hp, rfl⟩ := List.mem_map.mp hw
      exact (h p hp).cl), List.flatMap_map, List.flatMap_def, List.flatMap_def]
    congr 1
    exact List.map_congr_left fun p hp => (h p hp).ef
  have := spec_check (l := pcs.flatMap pText) (l' := pcs.flatMap pKeep) (asc_flat fun p hp c hc => by
      have hp := (h p hp).asc
      obtain ⟨k, w⟩ := p
      cases k with
      | true => exact hp c hc
      | false =>
        have hc : c ∈ 34 :: w ++ [34] := hc
        simp only [List.cons_append, List.mem_cons, List.mem_append, List.not_mem_nil, or_false] at hc
        rcases hc with rfl | hc | rfl
        · decide
        · exact hp c hc
        · decide) (by
      have := flatMap_len (g := pText) (n := 14) (l := pcs) fun p hp => by
        have hp := (h p hp).len
        obtain ⟨k, w⟩ := p
        cases k with
        | true => show w.length ≤ 14; simp only at hp; lia
        | false => show (34 :: w ++ [34]).length ≤ 14; simp only at hp; simp; lia
      lia) (strip_pieces fun p hp => (h p hp).ok) (asc_flat fun p hp c hc => by
      have hp := (h p hp).asc
      obtain ⟨k, w⟩ := p
      cases k with
      | true => exact hp c hc
      | false => cases hc) (by
      have := flatMap_len (g := pKeep) (n := 14) (l := pcs) fun p hp => by
        have hp := (h p hp).len
        obtain ⟨k, w⟩ := p
        cases k with
        | true => show w.length ≤ 14; simp only at hp; lia
        | false => show ([] : List Nat).length ≤ 14; simp
      lia)
  rw [checkB_effs, hef] at this
  exact this
section
variable {ps : List Pr} {out : List En}
theorem name_at (H : PsOk ps) (O : Out ps out) {k : Nat} (hk : k < ps.length) : (namesN (marksN out)).getD k 0 = sprN ps[k].l := by
  rw [names_eq H O]; simp [hk]
theorem tab_ok (H : PsOk ps) (O : Out ps out) : TabOk (out.map En.n) (out.map En.o) ps.length (prA ps) (prB ps) fun k j => !crossB (prA ps) (prB ps) k j := by
  have hol := O.len
  have h5 := H.n5
  refine ⟨by simp, by simp; lia, ?_, fun k hk => ?_, fun k hk => ?_, fun q hq => ?_, fun k hk => ?_, fun k j hk hj => ?_, fun k hk => ?_⟩
  · show (namesN (marksN out)).length = _
    rw [names_eq H O]; simp
  · show posN (marksN out) ((namesN (marksN out)).getD k 0) = _
    rw [name_at H O hk, pos_eq H O (List.getElem_mem hk), prA_at hk, prB_at hk]
  · have := H.chords.ab k hk
    simp; lia
  · have hq : q < 2 * ps.length := by simpa [hol] using hq
    obtain ⟨p, hp, rfl | rfl⟩ := H.cov hq
    · have := w1_ok p.l (by have := H.lab p hp; lia)
      rw [txt_a O hp]; exact ⟨this.2.2.1, this.2.1⟩
    · have := w2_ok (p.t != 0) p.l (by have := H.lab p hp; lia)
      rw [txt_b O hp]; exact ⟨this.2.2.1, this.2.1⟩
  · have hm := List.getElem_mem hk
    have hl := H.lab _ hm
    rw [prA_at hk, prB_at hk, txt_a O hm, txt_b O hm]
    have h1 := wB_ok (w1_b ps[k].l (by lia))
    have h2 := wB_ok (w2_b (ps[k].t != 0) ps[k].l (by lia))
    revert h1 h2
    generalize w1 ps[k].l = s
    generalize w2 ps[k].l _ = t
    intro h1 h2
    have := check_pieces (pcs := [(true, s), (true, t), (true, t), (true, s), (true, s), (true, t)]) (e := fun p => effs 0 p.2) (by
      intro p hp
      have h1' : PcOk (true, s) (effs 0 s) := h1.ef.symm ▸ .show h1
      have h2' : PcOk (true, t) (effs 0 t) := h2.ef.symm ▸ .show h2
      simp only [List.mem_cons, List.not_mem_nil, or_false] at hp
      rcases hp with rfl | rfl | rfl | rfl | rfl | rfl <;> assumption) (by simp)
    have e1 : ([(true, s), (true, t), (true, t), (true, s), (true, s), (true, t)] : List Piece).flatMap pText = trio s t := by simp [pText, trio]
    have e2 : ([(true, s), (true, t), (true, t), (true, s), (true, s), (true, t)] : List Piece).flatMap (fun p => effs 0 p.2) = [1, -1, -1, 1, 1, -1] := by simp [h1.ef, h2.ef]
    rw [e1, e2] at this
    exact this
  · have hkm := List.getElem_mem hk
    have hjm := List.getElem_mem hj
    show Spec 10 2 [.str (tx (spanN (marksN out) (out.map En.o) ((namesN (marksN out)).getD k 0) ((namesN (marksN out)).getD j 0) (prA ps k) (prB ps k)).flatten)] (.bool (!crossB (prA ps) (prB ps) k j))
    have hkb := H.b_lt _ hkm
    have hka := H.ab _ hkm
    have hja := H.ab _ hjm
    have hdis : (ps[k].a = ps[j].a ∧ ps[k].b = ps[j].b) ∨ (ps[k].a ≠ ps[j].a ∧ ps[k].a ≠ ps[j].b ∧ ps[k].b ≠ ps[j].a ∧ ps[k].b ≠ ps[j].b) := by
      by_cases e : ps[k] = ps[j]
      · exact .inl (by rw [e]; exact ⟨rfl, rfl⟩)
      · exact .inr (mem_apart H hkm hjm e)
    unfold crossB
    rw [name_at H O hk, name_at H O hj, prA_at hk, prB_at hk, prA_at hj, prB_at hj, ← skel hka hja hdis]
    have e1 : (spanN (marksN out) (out.map En.o) (sprN ps[k].l) (sprN ps[j].l) ps[k].a ps[k].b).flatten = ((List.range (ps[k].b + 1 - ps[k].a)).map fun i => piece (marksN out) (out.map En.o) (sprN ps[k].l) (sprN ps[j].l) (ps[k].a + i)).flatMap pText := by
      unfold spanN
      rw [List.flatMap_map, List.flatMap_def]
      congr 1
      exact List.map_congr_left fun i _ => (piece_text _ _ _ _ _).symm
    rw [e1]
    have hpc : ∀ i ∈ List.range (ps[k].b + 1 - ps[k].a), PcOk (piece (marksN out) (out.map En.o) (sprN ps[k].l) (sprN ps[j].l) (ps[k].a + i)) (effQ ps[k].a ps[k].b ps[j].a ps[j].b (ps[k].a + i)) := fun i hi => by
      have := List.mem_range.mp hi
      exact piece_ok H O hkm hjm (by lia)
    have := check_pieces (pcs := (List.range (ps[k].b + 1 - ps[k].a)).map fun i => piece (marksN out) (out.map En.o) (sprN ps[k].l) (sprN ps[j].l) (ps[k].a + i)) (e := fun p => effs 0 (pKeep p)) (by
      intro p hp
      obtain ⟨i, hi, rfl⟩ := List.mem_map.mp hp
      have := hpc i hi
      rw [this.ef]; exact this) (by simp; lia)
    have e2 : ((List.range (ps[k].b + 1 - ps[k].a)).map fun i => piece (marksN out) (out.map En.o) (sprN ps[k].l) (sprN ps[j].l) (ps[k].a + i)).flatMap (fun p => effs 0 (pKeep p)) = (List.range (ps[k].b + 1 - ps[k].a)).flatMap fun i => effQ ps[k].a ps[k].b ps[j].a ps[j].b (ps[k].a + i) := by
      rw [List.flatMap_map, List.flatMap_def, List.flatMap_def]
      congr 1
      exact List.map_congr_left fun i hi => (hpc i hi).ef
    rw [e2] at this
    exact this
  · show (!crossB (prA ps) (prB ps) k k) = true
    unfold crossB
    rw [decide_eq_false (by lia), decide_eq_false (by lia)]; rfl
end

/-! the plain law -/
theorem law_ok (sc : List Int) : ∃ out a b c, LawOk sc out a b c := by
  have H := pairs_ok sc
  obtain ⟨out, O⟩ := H.out
  refine ⟨out, prA (pairsN sc), prB (pairsN sc), fun k j => !crossB (prA (pairsN sc)) (prB (pairsN sc)) k j, ?_⟩
  have h5 := H.n5
  have h1 := H.n1
  generalize hps : pairsN sc = ps at H O h5 h1
  have C := H.chords
  have hrow : ∀ k, k < ps.length → rowN (out.map En.n) ps.length (prB ps) (fun k j => !crossB (prA ps) (prB ps) k j) k = maskN ps.length fun j => if j = k then prT ps k else crossB (prA ps) (prB ps) k j := fun k hk => by
    have hm := List.getElem_mem hk
    have hl := H.lab _ hm
    rw [row_mask (t := prT ps k) hk ((tab_ok H O).ck k hk) (by
      rw [prB_at hk, read_b O hm, prT_at hk]
      exact (w2_ok (ps[k].t != 0) ps[k].l (by lia)).2.2.2.2)]
    refine maskN_congr fun j _ => ?_
    show (if j = k then prT ps k else !!crossB (prA ps) (prB ps) k j) = _
    rw [Bool.not_not]
  have hR : ∀ k, k < ps.length → RowOf ps.length (prA ps) (prB ps) (prT ps) k (rowN (out.map En.n) ps.length (prB ps) (fun k j => !crossB (prA ps) (prB ps) k j) k) := fun k hk j hj => by
    rw [hrow k hk, maskN_bit _ hj]
  have hlt : ∀ k, k < ps.length → rowN (out.map En.n) ps.length (prB ps) (fun k j => !crossB (prA ps) (prB ps) k j) k < 2 ^ ps.length := fun k hk => by
    rw [hrow k hk]; exact maskN_lt _ _
  have hM := meets_corners H.prs
  refine ⟨?_, ?_, ?_, ?_, O.sort, O.tape H, fun e he => (O.word H he).2.2.1, fun e he => (O.word H he).2.2.2, ?_, ?_, ?_, ?_, ?_⟩
  · rw [hps]; exact h1
  · rw [hps]; exact h5
  · rw [hps]; exact fun p hp => by have := H.lab p hp; lia
  · rw [hps]; exact O.perm
  · rw [hps]; exact tab_ok H O
  · rw [hps]; exact H.prs
  · rw [hps]
    intro r hr
    obtain ⟨k, hk, rfl⟩ := List.mem_map.mp hr
    exact Nat.lt_of_lt_of_le (hlt k (List.mem_range.mp hk)) (Nat.pow_le_pow_right (n := 2) (by lia) h5)
  · rw [hps]
    intro x hx r hr
    obtain ⟨k, hk, rfl⟩ := List.mem_map.mp hr
    have hc : cutN ps (meetsN ps) x = maskN ps.length (cutB ps (meetsN ps) x) := rfl
    rw [par_dot, hc, cut_ker C h1 hR hM x (List.mem_range.mp hk) fun k hk => maskN_bit (cutB ps (meetsN ps) x) hk]
    rfl
  · rw [hps]
    have e1 := rank_chords C h1 hR hlt hM
    have e2 := corners_count (meets_lt H.prs)
    rw [meetsN_len] at e2
    rw [← e2] at e1
    show (rankN ((List.range ps.length).map _) : Int) = _
    lia
end Mine

namespace Mine
open PySem PySem.Calls PyProof.Rows PySem.W

/-! the top's facts are the base -/
theorem base_of_top {p : Program} {loose : List Str} {mean : ExcName → Option Value} {mg mb : Str → Option Value} {h : Heap} (T : Top p loose mean mg mb h) (hr : recsOf p = defs)
    (hf : (blts.all fun x => !startupNames.contains x && !loose.contains x && !((recsOf p).map (·.name)).contains x && !((litsOf p).map (·.1)).contains x && !((clssOf p loose).map (·.name)).contains x) = true) : Base h :=
  ⟨T.nolimit, mg, mb, T.g, T.b, fun d hd => T.fn d (hr ▸ hd), fun x hx => by
    have h1 := List.all_eq_true.mp hf x hx
    simp only [Bool.and_eq_true, Bool.not_eq_true', List.contains_eq_mem, decide_eq_false_iff_not] at h1
    refine ⟨T.free x h1.1.1.1.1 h1.1.1.1.2 h1.1.1.2 h1.1.2 h1.2, T.builtins x fun e => ?_⟩
    subst e
    revert hx
    decide⟩
theorem spec_law {sc : List Int} (hz : sc.length ≤ 1000) : Spec 15 12 [.lst (dI sc)] (.bool true) := by
  obtain ⟨out, a, b, c, K⟩ := law_ok sc
  refine Spec.of (k := 14) rfl ["script"] rfl (fun pm cd doc vs hv => ?_) ?_ ?_ ?_ ?_ ?_ ?_ ?_
  · obtain ⟨v, rfl⟩ := List.length_eq_one_iff.mp hv
    rfl
  · decide
  · rfl
  · decide
  · rfl
  · rfl
  · rfl
  · intro f X L aa cd hn hk
    exact law_ex K hz f X L aa cd hn (by omega)
theorem top_dep : callerA.depth + 15 < recursionLimit := by decide +kernel
theorem top_uni : callerA.units + 50 * 15 < cLine := by decide +kernel
noncomputable def fxTop (w : World) {h : Heap} (B : Base h) (fa : Addr) (cd : Value) : Fx :=
  { w := w, h₀ := h, A := callerA, env := envOfC (fn 12).name (fn 12).scope fa fa cd, X₀ := [], n := 15, B := B, hh := rfl, dep := top_dep, uni := top_uni }
theorem law_walk {w : World} {s : Shared} (B : Base s.heap) {fa a : Addr} {o : Obj} {pm cd doc : Value} (ho : s.heap.get? fa = some o) (hd : o.data = .func (docDef (fn 12).name (fn 12).params (fn 12).body (fn 12).scope pm cd doc)) (hcd : s.heap.CodeRec cd (fn 12).name)
    (hg : s.gens = #[]) {sc : List Int} {vs : List Value} (hL : s.heap.IsList a vs.toArray) (hI : IntsAre vs sc) (hz : sc.length ≤ 1000) :
    wpAny (model pw w) callerA (call (.ref fa) [.ref a]) (fun v s' => v = .bool true ∧ (∀ b o, s.heap.get? b = some o → s'.heap.get? b = some o) ∧ s'.os = s.os ∧ AllBare s'.gens) NoE s := by
  have hb : ∀ y ∈ s.gens, y.bare = true := AllBare.of_eq hg
  have hr : Reps [] s.heap [.lst (dI sc)] [.ref a] := .cons ⟨a, vs, rfl, List.not_mem_nil, hL, Reps.of_ints hI⟩ .nil
  have hok : Ok (fxTop w B fa cd) [] s := ⟨fun _ _ e => e, fun _ m => nomatch m⟩
  have h1 := spec_law hz (fxTop w B fa cd) (Nat.le_refl _) fa o pm cd doc ho hd hcd [] s [.ref a] hok hb hr
  exact wNoE h1 fun v s' h => ⟨h.2, h.1.keep.all, h.1.os, h.1.bare hb⟩
end Mine

open PySem PySem.W PyProof.Rows
set_option maxRecDepth 100000 in
set_option maxHeartbeats 8000000 in
theorem PySem.Challenge.cw_wf0010_01_holds : PySem.Challenge.rw_wf0010_01.Holds := by
  w_on
  o_law
  o_head Hook.none
  (case hw => w_witness2)
  intro w s₀ s₁ mg mb G Y fa o pm cd doc dV kV ho hd hcd hD hmg hg args vals as hpre hlay hrd hwl hlo
  refine Ground.open G ?_
  intro T B D TE TW
  wrow_args hpre hlay hrd hwl hlo
  rename_i sc _ _ _ _ _ _ _ a vs _ hL _ _ _ hI _ hlen _
  have e1 : dV = .none := Dflts.none hD rfl
  have e2 : kV = .none := hD.kw.elim (fun x => x.2) fun x => absurd rfl x.1
  subst e1
  subst e2
  have hz : sc.length ≤ 1000 := by
    have h1 : ¬ ((63 : Nat) : Int) < (sc.length : Int) := hlen
    omega
  have hB : Mine.Base s₁.heap := Mine.base_of_top T (by kernel_rfl) (by decide +kernel)
  refine wpAny_mono (Mine.law_walk (w := w) hB ho hd hcd hg hL hI hz) (fun v s' h => ?_) (fun _ _ h => h.elim)
  obtain ⟨rfl, hk, hos, hb⟩ := h
  refine ⟨.inl ⟨_, _, _, rfl, raisesW_false ?_, .bool true, ?_, unshared_nil⟩, .of_keep hk, hos, hb⟩
  · wrow_none_raised
  · wrow_post
