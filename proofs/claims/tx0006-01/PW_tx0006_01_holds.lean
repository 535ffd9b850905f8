import PyProof.Rows.All
import Wide.All
import OpenK.AllK
import Wide.FinOn
import PySem.Challenge.RW_tx0006_01
set_option Elab.async false
set_option linter.all false
set_option autoImplicit false
set_option maxRecDepth 100000
set_option genSizeOf false
set_option genInjectivity false
local macro_rules | `(tactic| walk_at "mine:om") => `(tactic| first | lia | omega)
section
open PySem PySem.Spec PySem.Calls PyProof.Rows PySem.W
namespace Mine
noncomputable abbrev lO (its : List Value) (n : Nat) : Obj := { cls := .type "list", data := .seq its.toArray n }
noncomputable abbrev tO (its : List Value) (n : Nat) : Obj := { cls := .type "tuple", data := .seq its.toArray n }
noncomputable abbrev dO (es : Array DictEntry) (ep : Nat) : Obj := { cls := .type "dict", data := .dict es ep }
noncomputable def EntryIs (e : DictEntry) : PyData × PyData → Prop
  | (.tuple [.str k, .int h], .str v) => (∃ t, e.key = .str k t) ∧ e.hash = h ∧ ∃ u, e.val = .str v u
  | _ => False
noncomputable def EntriesAre : List DictEntry → List (PyData × PyData) → Prop
  | [], [] => True
  | e :: es, p :: ps => EntryIs e p ∧ EntriesAre es ps
  | _, _ => False
mutual
noncomputable def Rd (W : List Addr) (h : Heap) : PyData → Value → Prop
  | .none, v => v = .none
  | .bool b, v => v = .bool b
  | .int i, v => ∃ t, v = .int i t
  | .str x, v => ∃ t, v = .str x t
  | .list xs, v => ∃ a its n, v = .ref a ∧ a ∉ W ∧ h.get? a = some (lO its n) ∧ RdL W h xs its
  | .tuple xs, v => ∃ a its n, v = .ref a ∧ a ∉ W ∧ h.get? a = some (tO its n) ∧ RdL W h xs its
  | .dict kvs, v => ∃ a es ep, v = .ref a ∧ a ∉ W ∧ h.get? a = some (dO es ep) ∧ EntriesAre es.toList kvs
noncomputable def RdL (W : List Addr) (h : Heap) : List PyData → List Value → Prop
  | [], its => its = []
  | d :: ds, its => ∃ v r, its = v :: r ∧ Rd W h d v ∧ RdL W h ds r
end
mutual
theorem Rd.mono {W W' : List Addr} {h h' : Heap} (k : ∀ b o, b ∉ W → h.get? b = some o → b ∉ W' ∧ h'.get? b = some o) :
    ∀ (d : PyData) (v : Value), Rd W h d v → Rd W' h' d v
  | .none, v, r => by simpa [Rd] using r
  | .bool b, v, r => by simpa [Rd] using r
  | .int i, v, r => by simpa [Rd] using r
  | .str x, v, r => by simpa [Rd] using r
  | .list xs, v, r => by
    simp only [Rd] at r ⊢
    obtain ⟨a, its, n, e, hw, ho, hl⟩ := r
    exact ⟨a, its, n, e, (k a _ hw ho).1, (k a _ hw ho).2, RdL.mono k xs its hl⟩
  | .tuple xs, v, r => by
    simp only [Rd] at r ⊢
    obtain ⟨a, its, n, e, hw, ho, hl⟩ := r
    exact ⟨a, its, n, e, (k a _ hw ho).1, (k a _ hw ho).2, RdL.mono k xs its hl⟩
  | .dict kvs, v, r => by
    simp only [Rd] at r ⊢
    obtain ⟨a, es, ep, e, hw, ho, hl⟩ := r
    exact ⟨a, es, ep, e, (k a _ hw ho).1, (k a _ hw ho).2, hl⟩
theorem RdL.mono {W W' : List Addr} {h h' : Heap} (k : ∀ b o, b ∉ W → h.get? b = some o → b ∉ W' ∧ h'.get? b = some o) :
    ∀ (ds : List PyData) (its : List Value), RdL W h ds its → RdL W' h' ds its
  | [], its, r => by simpa [RdL] using r
  | d :: ds, its, r => by
    simp only [RdL] at r ⊢
    obtain ⟨v, r', e, h1, h2⟩ := r
    exact ⟨v, r', e, Rd.mono k d v h1, RdL.mono k ds r' h2⟩
end
mutual
theorem Rd.reads {W : List Addr} {h : Heap} : ∀ (d : PyData) (v : Value), d.canLay0 = true → Rd W h d v → ∃ as, Reads h v d as
  | .none, v, _, r => by simp only [Rd] at r; subst r; exact ⟨_, .none⟩
  | .bool b, v, _, r => by simp only [Rd] at r; subst r; exact ⟨_, .bool b⟩
  | .int i, v, _, r => by simp only [Rd] at r; obtain ⟨t, rfl⟩ := r; exact ⟨_, .int i t⟩
  | .str x, v, _, r => by simp only [Rd] at r; obtain ⟨t, rfl⟩ := r; exact ⟨_, .str x t⟩
  | .list xs, v, q, r => by
    simp only [Rd] at r
    obtain ⟨a, its, n, rfl, hw, ho, hl⟩ := r
    obtain ⟨as, ha⟩ := RdL.reads xs its (by simpa only [PyData.canLay0] using q) hl
    exact ⟨_, .list ho rfl rfl ha⟩
  | .tuple xs, v, q, r => by
    simp only [Rd] at r
    obtain ⟨a, its, n, rfl, hw, ho, hl⟩ := r
    obtain ⟨as, ha⟩ := RdL.reads xs its (by simpa only [PyData.canLay0] using q) hl
    exact ⟨_, .tuple ho rfl rfl ha⟩
  | .dict _, v, q, r => by simp [PyData.canLay0] at q
theorem RdL.reads {W : List Addr} {h : Heap} : ∀ (ds : List PyData) (its : List Value), PyData.canLayAll0 ds = true → RdL W h ds its → ∃ as, ReadsAll h its ds as
  | [], its, _, r => by simp only [RdL] at r; subst r; exact ⟨_, .nil⟩
  | d :: ds, its, q, r => by
    simp only [PyData.canLayAll0, Bool.and_eq_true] at q
    simp only [RdL] at r
    obtain ⟨v, r', rfl, h1, h2⟩ := r
    obtain ⟨as, ha⟩ := Rd.reads d v q.1 h1
    obtain ⟨bs, hb⟩ := RdL.reads ds r' q.2 h2
    exact ⟨_, .cons ha hb⟩
end
section
variable {W : List Addr} {h : Heap}
theorem RdL.nil_iff {its : List Value} : RdL W h [] its ↔ its = [] := by simp only [RdL]
theorem RdL.nil : RdL W h [] [] := by simp only [RdL]
theorem RdL.cons {d : PyData} {ds : List PyData} {v : Value} {r : List Value} (a : Rd W h d v) (b : RdL W h ds r) : RdL W h (d :: ds) (v :: r) := by
  simp only [RdL]; exact ⟨v, r, rfl, a, b⟩
theorem RdL.cons_inv {d : PyData} {ds : List PyData} {its : List Value} (x : RdL W h (d :: ds) its) : ∃ v r, its = v :: r ∧ Rd W h d v ∧ RdL W h ds r := by
  simpa only [RdL] using x
theorem RdL.length : ∀ {ds : List PyData} {its : List Value}, RdL W h ds its → its.length = ds.length
  | [], its, x => by simp [RdL.nil_iff.mp x]
  | d :: ds, its, x => by
    obtain ⟨v, r, rfl, _, b⟩ := RdL.cons_inv x
    rw [List.length_cons, List.length_cons, RdL.length b]
theorem RdL.get : ∀ {ds : List PyData} {its : List Value}, RdL W h ds its → ∀ {i : Nat} {d : PyData}, ds[i]? = some d → ∃ v, its[i]? = some v ∧ Rd W h d v
  | [], _, _, i, d, e => by simp at e
  | d :: ds, its, x, i, d', e => by
    obtain ⟨v, r, rfl, a, b⟩ := RdL.cons_inv x
    cases i with
    | zero => simp at e; subst e; exact ⟨v, rfl, a⟩
    | succ i => simpa using RdL.get b (by simpa using e)
theorem RdL.get' : ∀ {ds : List PyData} {its : List Value}, RdL W h ds its → ∀ {i : Nat} {v : Value}, its[i]? = some v → ∃ d, ds[i]? = some d ∧ Rd W h d v
  | [], its, x, i, v, e => by rw [RdL.nil_iff.mp x] at e; simp at e
  | d :: ds, its, x, i, v', e => by
    obtain ⟨v, r, rfl, a, b⟩ := RdL.cons_inv x
    cases i with
    | zero => simp at e; subst e; exact ⟨d, rfl, a⟩
    | succ i => simpa using RdL.get' b (by simpa using e)
theorem RdL.append : ∀ {ds es : List PyData} {its jts : List Value}, RdL W h ds its → RdL W h es jts → RdL W h (ds ++ es) (its ++ jts)
  | [], es, its, jts, x, y => by rw [RdL.nil_iff.mp x]; exact y
  | d :: ds, es, its, jts, x, y => by
    obtain ⟨v, r, rfl, a, b⟩ := RdL.cons_inv x
    exact RdL.cons a (RdL.append b y)
theorem RdL.one {d : PyData} {v : Value} (a : Rd W h d v) : RdL W h [d] [v] := RdL.cons a RdL.nil
theorem RdL.drop : ∀ {ds : List PyData} {its : List Value} (k : Nat), RdL W h ds its → RdL W h (ds.drop k) (its.drop k)
  | [], its, k, x => by rw [RdL.nil_iff.mp x]; simp [RdL.nil]
  | d :: ds, its, k, x => by
    obtain ⟨v, r, rfl, a, b⟩ := RdL.cons_inv x
    cases k with
    | zero => exact RdL.cons a b
    | succ k => simpa using RdL.drop k b
theorem RdL.take : ∀ {ds : List PyData} {its : List Value} (k : Nat), RdL W h ds its → RdL W h (ds.take k) (its.take k)
  | [], its, k, x => by rw [RdL.nil_iff.mp x]; simp [RdL.nil]
  | d :: ds, its, k, x => by
    obtain ⟨v, r, rfl, a, b⟩ := RdL.cons_inv x
    cases k with
    | zero => exact RdL.nil
    | succ k => simpa using RdL.cons a (RdL.take k b)
theorem RdL.eraseIdx : ∀ {ds : List PyData} {its : List Value} (k : Nat), RdL W h ds its → RdL W h (ds.eraseIdx k) (its.eraseIdx k)
  | [], its, k, x => by rw [RdL.nil_iff.mp x]; simp [RdL.nil]
  | d :: ds, its, k, x => by
    obtain ⟨v, r, rfl, a, b⟩ := RdL.cons_inv x
    cases k with
    | zero => exact b
    | succ k => simpa using RdL.cons a (RdL.eraseIdx k b)
end
noncomputable def leaf : PyData → Bool
  | .none | .bool _ | .int _ | .str _ => true
  | _ => false
theorem Rd.leaf {W W' : List Addr} {h h' : Heap} {d : PyData} {v : Value} (l : leaf d = true) (x : Rd W h d v) : Rd W' h' d v := by
  cases d <;> first | (simp only [Rd] at x ⊢; exact x) | (simp [Mine.leaf] at l)
theorem RdL.leaf {W W' : List Addr} {h h' : Heap} : ∀ {ds : List PyData} {its : List Value}, ds.all Mine.leaf = true → RdL W h ds its → RdL W' h' ds its
  | [], its, _, x => by rw [RdL.nil_iff.mp x]; exact RdL.nil
  | d :: ds, its, l, x => by
    obtain ⟨v, r, rfl, a, b⟩ := RdL.cons_inv x
    rw [List.all_cons, Bool.and_eq_true] at l
    exact RdL.cons (a.leaf l.1) (RdL.leaf l.2 b)
structure Kept (F : List Addr) (s s' : Shared) : Prop where
  os : s'.os = s.os
  gens : s'.gens = s.gens
  keep : ∀ b o, b ∉ F → s.heap.get? b = some o → s'.heap.get? b = some o
  slots : ∀ b o, s.heap.get? b = some o → ∃ sl, s'.heap.get? b = some { o with slots := sl }
  drawn : F = [] → s'.drawn = s.drawn
theorem Kept.refl (F : List Addr) (s : Shared) : Kept F s s := ⟨rfl, rfl, fun _ _ _ e => e, fun _ o e => ⟨o.slots, e⟩, fun _ => rfl⟩
theorem Kept.trans {F : List Addr} {s s₁ s₂ : Shared} (a : Kept F s s₁) (b : Kept F s₁ s₂) : Kept F s s₂ :=
  ⟨b.os.trans a.os, b.gens.trans a.gens, fun c o n e => b.keep c o n (a.keep c o n e), fun c o e => by
    obtain ⟨sl, e1⟩ := a.slots c o e
    obtain ⟨sl', e2⟩ := b.slots c _ e1
    exact ⟨sl', e2⟩, fun e => (b.drawn e).trans (a.drawn e)⟩
theorem Kept.of_keeps {F : List Addr} {s s' : Shared} (ho : s'.os = s.os) (hg : s'.gens = s.gens) (hd : s'.drawn = s.drawn) (k : ∀ b o, s.heap.get? b = some o → s'.heap.get? b = some o) : Kept F s s' :=
  ⟨ho, hg, fun b o _ e => k b o e, fun b o e => ⟨o.slots, k b o e⟩, fun _ => hd⟩
theorem Kept.heap {F : List Addr} {s : Shared} {h : Heap} {t : Nat} (k : ∀ b o, s.heap.get? b = some o → h.get? b = some o) : Kept F s { s with heap := h, toks := t } := .of_keeps rfl rfl rfl k
theorem Kept.tok {F : List Addr} {s : Shared} {t : Nat} : Kept F s { s with toks := t } := .of_keeps rfl rfl rfl fun _ _ e => e
theorem Kept.push {F : List Addr} {s : Shared} {o : Obj} {t : Nat} : Kept F s { s with heap := s.heap.push o, toks := t } := .of_keeps rfl rfl rfl fun _ _ e => Heap.get?_push_of_some _ e
theorem Kept.push' {F : List Addr} {s : Shared} {o : Obj} : Kept F s { s with heap := s.heap.push o } := .of_keeps rfl rfl rfl fun _ _ e => Heap.get?_push_of_some _ e
theorem Kept.all {s s' : Shared} (k : Kept [] s s') : Keeps s s' := by
  obtain ⟨h', g', d', tk', o'⟩ := s'
  obtain ⟨k1, k2, k3, _, k4⟩ := k
  have k5 := k4 rfl
  dsimp only at k1 k2 k3 k5
  subst k1 k2 k5
  exact ⟨h', tk', rfl, fun b o e => k3 b o (by simp) e⟩
theorem Kept.ns {F : List Addr} {s s' : Shared} (k : Kept F s s') {a : Addr} {m : Str → Option Value} (hn : s.heap.Ns a m) : s'.heap.Ns a m := by
  obtain ⟨o, es, ep, ho, hd, r⟩ := hn
  obtain ⟨sl, e⟩ := k.slots a o ho
  exact ⟨_, es, ep, e, hd, r⟩
theorem Kept.cell {F : List Addr} {s s' : Shared} (k : Kept F s s') {a : Addr} {v : Option Value} (hn : s.heap.IsCell a v) : s'.heap.IsCell a v := by
  obtain ⟨o, ho, hd⟩ := hn
  obtain ⟨sl, e⟩ := k.slots a o ho
  exact ⟨_, e, hd⟩
theorem Kept.rd {F W : List Addr} {s s' : Shared} (k : Kept F s s') (hF : ∀ a ∈ F, a ∈ W) {d : PyData} {v : Value} (x : Rd W s.heap d v) : Rd W s'.heap d v :=
  Rd.mono (fun b o n e => ⟨n, k.keep b o (fun m => n (hF b m)) e⟩) d v x
theorem Kept.rdl {F W : List Addr} {s s' : Shared} (k : Kept F s s') (hF : ∀ a ∈ F, a ∈ W) {ds : List PyData} {vs : List Value} (x : RdL W s.heap ds vs) : RdL W s'.heap ds vs :=
  RdL.mono (fun b o n e => ⟨n, k.keep b o (fun m => n (hF b m)) e⟩) ds vs x
inductive Slot where
  | val (d : PyData)
  | own (ds : List PyData)
noncomputable abbrev Loc := List (Str × Slot)
noncomputable def Loads (env : Env) (h : Heap) (x : Str) (v : Value) : Prop :=
  (env.kindOf x = some .local ∧ ∃ m, h.Ns env.locals m ∧ m x = some v) ∨
  ((env.kindOf x = some .cell ∨ (env.kindOf x = some .free ∧ (x == ("__classdict__" : Str)) = false)) ∧ ∃ c, env.cells.lookup x = some c ∧ h.IsCell c (some v))
theorem Loads.kept {F : List Addr} {s s' : Shared} (k : Kept F s s') {env : Env} {x : Str} {v : Value} (l : Loads env s.heap x v) : Loads env s'.heap x v := by
  rcases l with ⟨a, m, b, c⟩ | ⟨a, c, b, d⟩
  · exact .inl ⟨a, m, k.ns b, c⟩
  · exact .inr ⟨a, c, b, k.cell d⟩
structure Cx where
  prog : Program
  w : World
  A : Around
  env : Env
  F : List Addr
  B : Heap
  X : List Addr
  xF : ∀ a ∈ X, a ∉ F
  xC : ∀ p ∈ env.cells, p.2 ∉ X
  K : List (Addr × Obj)
noncomputable def SlotOk (C : Cx) (W : List Addr) (h : Heap) (x : Str) : Slot → Prop
  | .val d => ∃ v, Loads C.env h x v ∧ Rd W h d v
  | .own ds => ∃ a its n, Loads C.env h x (.ref a) ∧ a ∈ W ∧ a ∉ C.F ∧ h.get? a = some (lO its n) ∧ RdL W h ds its
noncomputable def GlobalIs (B : Heap) (x : Str) (v : Value) : Prop :=
  ∃ mg, B.Ns mainGlobals mg ∧ (mg x = some v ∨ (mg x = none ∧ ∃ mb, B.Ns builtinsNs mb ∧ mb x = some v))
noncomputable def gtable : List (Str × Value) := [("len", .builtin "len"), ("sorted", .builtin "sorted"), ("sum", .builtin "sum"), ("chr", .builtin "chr"), ("range", .type "range"), ("list", .type "list"), ("set", .type "set"),
  ("IndexError", .type "IndexError"), ("ValueError", .type "ValueError"), ("sorted_list_difference", .ref 38), ("unorderable_list_difference", .ref 45), ("quotedata", .ref 62), ("_fix_eols", .ref 69),
  ("_law_rests", .ref 76), ("_law_rounds", .ref 81), ("_law_two_hands", .ref 88), ("_law_read", .ref 95), ("_law_bags", .ref 100), ("_law_alone", .ref 105), ("_twin_re_1", .ref 50), ("_twin_re_2", .ref 55)]
structure Has (C : Cx) (σ : Loc) (W : List Addr) (h : Heap) : Prop where
  fun_ : C.env.scope.kind = .function
  genv : C.env.globals = mainGlobals ∧ C.env.builtins = builtinsNs
  units : C.A.units + 300 < cLine
  depth : C.A.depth < recursionLimit
  glob : ∀ x v, (x, v) ∈ gtable → GlobalIs C.B x v
  nolim : C.B.NoLimit
  sub : ∀ a ∈ C.F, a ∈ W
  alive : ∀ a ∈ W, ∃ o, h.get? a = some o
  base : ∀ b o, C.B.get? b = some o → h.get? b = some o
  low : ∀ a ∈ W, C.B.get? a = none
  frm : ∀ a ∈ C.F, ∃ o es ep, h.get? a = some o ∧ o.data = .dict es ep
  slot : ∀ x sl, (x, sl) ∈ σ → SlotOk C W h x sl
theorem Has.kept {C : Cx} {σ : Loc} {W : List Addr} {s s' : Shared} (H : Has C σ W s.heap) (k : Kept C.F s s') : Has C σ W s'.heap where
  fun_ := H.fun_
  genv := H.genv
  units := H.units
  depth := H.depth
  glob := H.glob
  nolim := H.nolim
  sub := H.sub
  alive := fun a ha => let ⟨o, ho⟩ := H.alive a ha; let ⟨_, e⟩ := k.slots a o ho; ⟨_, e⟩
  base := fun b o e => k.keep b o (fun m => by rw [H.low b (H.sub b m)] at e; cases e) (H.base b o e)
  low := H.low
  frm := fun a ha => let ⟨o, es, ep, ho, hd⟩ := H.frm a ha; let ⟨_, e⟩ := k.slots a o ho; ⟨_, es, ep, e, hd⟩
  slot := fun x sl hm => by
    have q := H.slot x sl hm
    cases sl with
    | val d => obtain ⟨v, l, r⟩ := q; exact ⟨v, l.kept k, k.rd H.sub r⟩
    | own ds => obtain ⟨a, its, n, l, h1, h2, h3, h4⟩ := q; exact ⟨a, its, n, l.kept k, h1, h2, k.keep _ _ h2 h3, k.rdl H.sub h4⟩
theorem Has.list_off {C : Cx} {σ : Loc} {W : List Addr} {h : Heap} (H : Has C σ W h) {a : Addr} {its : Array Value} (hl : h.IsList a its) : a ∉ C.F := fun m => by
  obtain ⟨o, es, ep, ho, hd⟩ := H.frm a m
  obtain ⟨o', ho', _, n, hd'⟩ := hl
  rw [ho] at ho'; cases ho'; rw [hd] at hd'; cases hd'
theorem Has.not_new {C : Cx} {σ : Loc} {W : List Addr} {h : Heap} (H : Has C σ W h) : h.objs.size ∉ W := fun m => by
  obtain ⟨o, ho⟩ := H.alive _ m
  exact absurd (Heap.lt_size ho) (Nat.lt_irrefl _)
theorem Has.of_none {C : Cx} {σ : Loc} {W : List Addr} {h : Heap} (H : Has C σ W h) {a : Addr} (e : h.get? a = none) : a ∉ W := fun m => by
  obtain ⟨o, ho⟩ := H.alive _ m
  rw [e] at ho; cases ho
noncomputable def EvT (C : Cx) (σ : Loc) (t : Sem Value) (d : PyData) : Prop :=
  ∀ (W : List Addr) (s : Shared) (Q : Value → Shared → Prop) (E : Value → Shared → Prop), Has C σ W s.heap →
    (∀ s' v, Kept C.F s s' → Rd W s'.heap d v → Q v s') → wpAny (model C.prog C.w) C.A t Q E s
noncomputable abbrev Ev (C : Cx) (σ : Loc) (e : Expr) (d : PyData) : Prop := EvT C σ (eval e C.env) d
noncomputable def ElT (C : Cx) (σ : Loc) (t : Sem Value) (ds : List PyData) : Prop :=
  ∀ (W : List Addr) (s : Shared) (Q : Value → Shared → Prop) (E : Value → Shared → Prop), Has C σ W s.heap →
    (∀ s' a its, Kept C.F s s' → s'.heap.IsList a its.toArray → RdL W s'.heap ds its → a ∉ C.F → Q (.ref a) s') → wpAny (model C.prog C.w) C.A t Q E s
noncomputable abbrev El (C : Cx) (σ : Loc) (e : Expr) (ds : List PyData) : Prop := ElT C σ (eval e C.env) ds
noncomputable def EnT (C : Cx) (σ : Loc) (t : Sem Value) (ds : List PyData) : Prop :=
  ∀ (W : List Addr) (s : Shared) (Q : Value → Shared → Prop) (E : Value → Shared → Prop), Has C σ W s.heap →
    (∀ s' a its n, Kept C.F s s' → s.heap.get? a = none → s'.heap.get? a = some (lO its n) → RdL (a :: W) s'.heap ds its → Q (.ref a) s') → wpAny (model C.prog C.w) C.A t Q E s
noncomputable abbrev En (C : Cx) (σ : Loc) (e : Expr) (ds : List PyData) : Prop := EnT C σ (eval e C.env) ds
theorem EnT.ev {C : Cx} {σ : Loc} {t : Sem Value} {ds : List PyData} (h : EnT C σ t ds) : EvT C σ t (.list ds) := fun W s Q E H k =>
  h W s Q E H fun s' a its n K e1 e2 e3 => k s' _ K (by
    simp only [Rd]
    exact ⟨a, its, n, rfl, H.of_none e1, e2, RdL.mono (fun b o nb e => ⟨fun m => nb (.tail _ m), e⟩) _ _ e3⟩)
theorem EvT.el {C : Cx} {σ : Loc} {t : Sem Value} {ds : List PyData} (h : EvT C σ t (.list ds)) : ElT C σ t ds := fun W s Q E H k =>
  h W s Q E H fun s' v K r => by
    simp only [Rd] at r
    obtain ⟨a, its, n, rfl, e1, e2, e3⟩ := r
    exact k s' a its K ⟨_, e2, rfl, n, rfl⟩ e3 fun m => e1 (H.sub a m)
theorem EnT.el {C : Cx} {σ : Loc} {t : Sem Value} {ds : List PyData} (h : EnT C σ t ds) : ElT C σ t ds := h.ev.el
theorem EnT.of_leaves {C : Cx} {σ : Loc} {t : Sem Value} {ds : List PyData}
    (h : ∀ (W : List Addr) (s : Shared) (Q : Value → Shared → Prop) (E : Value → Shared → Prop), Has C σ W s.heap →
      (∀ s' a its n, Kept C.F s s' → s.heap.get? a = none → s'.heap.get? a = some (lO its n) → RdL W s'.heap ds its → Q (.ref a) s') → wpAny (model C.prog C.w) C.A t Q E s)
    (hl : ds.all leaf = true) : EnT C σ t ds := fun W s Q E H k =>
  h W s Q E H fun s' a its n K e1 e2 e3 => k s' a its n K e1 e2 (e3.leaf hl)
section
variable {C : Cx} {σ : Loc}
theorem Ev_name {x : Str} {d : PyData} {pos : Pos} (hm : (x, Slot.val d) ∈ σ) (hd : (x == ("__debug__" : Str)) = false) : Ev C σ (.Name x pos) d := fun W s Q E H k => by
  obtain ⟨v, l, r⟩ := H.slot _ _ hm
  refine wpAny_Name ?_ hd
  rcases l with ⟨a, m, b, c⟩ | ⟨a | a, c, b, e⟩
  · exact wpAny_loadName_local H.fun_ a b c (k s v (.refl _ _) r)
  · exact wpAny_loadName_cell H.fun_ a b e (k s v (.refl _ _) r)
  · exact wpAny_loadName_free H.fun_ a.1 b e (k s v (.refl _ _) r) a.2
theorem El_own {x : Str} {ds : List PyData} {pos : Pos} (hm : (x, Slot.own ds) ∈ σ) (hd : (x == ("__debug__" : Str)) = false) : El C σ (.Name x pos) ds := fun W s Q E H k => by
  obtain ⟨a', its, n, l, h1, h2, h3, h4⟩ := H.slot _ _ hm
  have kk := k s a' its (.refl _ _) ⟨_, h3, rfl, n, rfl⟩ h4 h2
  refine wpAny_Name ?_ hd
  rcases l with ⟨a, m, b, c⟩ | ⟨a | a, c, b, e⟩
  · exact wpAny_loadName_local H.fun_ a b c kk
  · exact wpAny_loadName_cell H.fun_ a b e kk
  · exact wpAny_loadName_free H.fun_ a.1 b e kk a.2
theorem Ev_int {i : Int} {k : Nat} {pos : Pos} : Ev C σ (.Constant (.int i) k pos) (.int i) := fun W s Q E H kk =>
  wpAny_Constant_int (kk _ _ .tok (by simp only [Rd]; exact ⟨_, rfl⟩))
theorem Ev_str {x : Str} {k : Nat} {pos : Pos} : Ev C σ (.Constant (.str x) k pos) (.str x) := fun W s Q E H kk =>
  Constant_str (kk _ _ .tok (by simp only [Rd]; exact ⟨_, rfl⟩))
theorem Ev_bool {b : Bool} {k : Nat} {pos : Pos} : Ev C σ (.Constant (.bool b) k pos) (.bool b) := fun W s Q E H kk =>
  wpAny_pure (M := model C.prog C.w) (kk _ _ (.refl _ _) (by simp only [Rd]))
theorem Ev_none {k : Nat} {pos : Pos} : Ev C σ (.Constant .none k pos) .none := fun W s Q E H kk =>
  wpAny_pure (M := model C.prog C.w) (kk _ _ (.refl _ _) (by simp only [Rd]))
end
end Mine
end
section
open PySem PySem.Spec PySem.Calls PyProof.Rows PySem.W
namespace Mine
section
variable {C : Cx} {σ : Loc} {W : List Addr} {s : Shared} {Q : Value → Shared → Prop} {E : Value → Shared → Prop}
theorem Rd.int_inv {h : Heap} {i : Int} {v : Value} (r : Rd W h (.int i) v) : ∃ t, v = .int i t := by simpa only [Rd] using r
theorem Rd.str_inv {h : Heap} {x : Str} {v : Value} (r : Rd W h (.str x) v) : ∃ t, v = .str x t := by simpa only [Rd] using r
theorem Rd.bool_inv {h : Heap} {b : Bool} {v : Value} (r : Rd W h (.bool b) v) : v = .bool b := by simpa only [Rd] using r
theorem Rd.none_inv {h : Heap} {v : Value} (r : Rd W h .none v) : v = .none := by simpa only [Rd] using r
theorem Rd.list_inv {h : Heap} {ds : List PyData} {v : Value} (r : Rd W h (.list ds) v) : ∃ a its n, v = .ref a ∧ a ∉ W ∧ h.get? a = some (lO its n) ∧ RdL W h ds its := by simpa only [Rd] using r
theorem Rd.tuple_inv {h : Heap} {ds : List PyData} {v : Value} (r : Rd W h (.tuple ds) v) : ∃ a its n, v = .ref a ∧ a ∉ W ∧ h.get? a = some (tO its n) ∧ RdL W h ds its := by simpa only [Rd] using r
theorem Rd.int {h : Heap} {i : Int} {t : Tok} : Rd W h (.int i) (.int i t) := by simp only [Rd]; exact ⟨_, rfl⟩
theorem Rd.str {h : Heap} {x : Str} {t : Tok} : Rd W h (.str x) (.str x t) := by simp only [Rd]; exact ⟨_, rfl⟩
theorem Rd.bool {h : Heap} {b : Bool} : Rd W h (.bool b) (.bool b) := by simp only [Rd]
theorem Rd.none {h : Heap} : Rd W h .none .none := by simp only [Rd]
theorem Rd.list {h : Heap} {ds : List PyData} {a : Addr} {its : List Value} {n : Nat} (hw : a ∉ W) (ho : h.get? a = some (lO its n)) (hl : RdL W h ds its) : Rd W h (.list ds) (.ref a) := by
  simp only [Rd]; exact ⟨a, its, n, rfl, hw, ho, hl⟩
theorem Rd.tuple {h : Heap} {ds : List PyData} {a : Addr} {its : List Value} {n : Nat} (hw : a ∉ W) (ho : h.get? a = some (tO its n)) (hl : RdL W h ds its) : Rd W h (.tuple ds) (.ref a) := by
  simp only [Rd]; exact ⟨a, its, n, rfl, hw, ho, hl⟩
theorem rdl_new {h h' : Heap} {ds : List PyData} {its : List Value} (k : ∀ b o, h.get? b = some o → h'.get? b = some o) {a : Addr} (ha : h.get? a = Option.none) (x : RdL W h ds its) : RdL (a :: W) h' ds its :=
  RdL.mono (fun b o n e => ⟨fun m => by rcases List.mem_cons.mp m with rfl | m; (· rw [ha] at e; cases e); exact n m, k b o e⟩) _ _ x
theorem none_of_kept {F : List Addr} {s s' : Shared} (k : Kept F s s') {a : Addr} (e : s'.heap.get? a = Option.none) : s.heap.get? a = Option.none := by
  cases q : s.heap.get? a with
  | none => rfl
  | some o => obtain ⟨sl, z⟩ := k.slots a o q; rw [e] at z; cases z
theorem none_at_size (h : Heap) : h.get? h.objs.size = Option.none := Heap.get?_none_of_le (Nat.le_refl _)
theorem new_list {W : List Addr} {s s₂ : Shared} {ds : List PyData} {its : List Value} {n : Nat} {o : Obj} (K : Kept C.F s s₂) (r : RdL W s₂.heap ds its) (ho : o = lO its n)
    (k : ∀ s' a its n, Kept C.F s s' → s.heap.get? a = Option.none → s'.heap.get? a = some (lO its n) → RdL (a :: W) s'.heap ds its → Q (.ref a) s') (t : Nat) :
    Q (.ref s₂.heap.objs.size) { s₂ with heap := s₂.heap.push o, toks := t } := by
  subst ho
  exact k _ _ its n (K.trans .push) (none_of_kept K (none_at_size _)) (Heap.get?_push_size _ rfl) (rdl_new (fun _ _ e => Heap.get?_push_of_some _ e) (none_at_size _) r)
inductive BinRes : Operator → PyData → PyData → PyData → Prop
  | add (a b : Int) : BinRes .Add (.int a) (.int b) (.int (a + b))
  | sub (a b : Int) : BinRes .Sub (.int a) (.int b) (.int (a - b))
  | mul (a b : Int) (h : IntMulOk a b) : BinRes .Mult (.int a) (.int b) (.int (a * b))
  | fdiv (a b : Int) (h : b ≠ 0) (hs : b.natAbs < 1073741824) : BinRes .FloorDiv (.int a) (.int b) (.int (a.fdiv b))
  | fmod (a b : Int) (h : b ≠ 0) : BinRes .Mod (.int a) (.int b) (.int (a.fmod b))
  | pow (a n : Int) (h : 0 ≤ n) (h2 : n ≤ 1000000) (h3 : a.natAbs < 2 ^ 64) : BinRes .Pow (.int a) (.int n) (.int (a ^ n.toNat))
  | cat (x y : Str) (h : x.length + y.length ≤ sizeLine) : BinRes .Add (.str x) (.str y) (.str (x ++ y))
  | rep (x : Str) (n : Int) (h : MulOk x n) : BinRes .Mult (.str x) (.int n) (.str (Txt.mul x n))
theorem bin_sound {op : Operator} {a b c : PyData} {va vb : Value} (r : BinRes op a b c) (ha : Rd W s.heap a va) (hb : Rd W s.heap b vb)
    (k : ∀ s' v, Kept C.F s s' → Rd W s'.heap c v → Q v s') : wpAny (model C.prog C.w) C.A (binaryOp op va vb) Q E s := by
  cases r with
  | add a b => obtain ⟨t, rfl⟩ := ha.int_inv; obtain ⟨u, rfl⟩ := hb.int_inv; exact PyProof.Rows.add_int (k _ _ .tok .int)
  | sub a b => obtain ⟨t, rfl⟩ := ha.int_inv; obtain ⟨u, rfl⟩ := hb.int_inv; exact PyProof.Rows.sub_int (k _ _ .tok .int)
  | mul a b h => obtain ⟨t, rfl⟩ := ha.int_inv; obtain ⟨u, rfl⟩ := hb.int_inv; exact PyProof.Rows.mul_int (k _ _ .tok .int) h
  | fdiv a b h hs => obtain ⟨t, rfl⟩ := ha.int_inv; obtain ⟨u, rfl⟩ := hb.int_inv; exact PyProof.Rows.floordiv_int h (k _ _ .tok .int) (.inl (PyProof.noPylong_small hs))
  | fmod a b h => obtain ⟨t, rfl⟩ := ha.int_inv; obtain ⟨u, rfl⟩ := hb.int_inv; exact PyProof.Rows.mod_int' h (k _ _ .tok .int)
  | pow a n h h2 h3 => obtain ⟨t, rfl⟩ := ha.int_inv; obtain ⟨u, rfl⟩ := hb.int_inv; exact PyProof.Rows.pow_int_small h h2 h3 (k _ _ .tok .int)
  | cat x y h => obtain ⟨t, rfl⟩ := ha.str_inv; obtain ⟨u, rfl⟩ := hb.str_inv; exact SB.add (fun t' k' => k _ _ .tok .str) h
  | rep x n h => obtain ⟨t, rfl⟩ := ha.str_inv; obtain ⟨u, rfl⟩ := hb.int_inv; exact SB.mul h (fun t' k' => k _ _ .tok .str)
theorem Ev_bin {l r : Expr} {op : Operator} {pos : Pos} {a b c : PyData} (hl : Ev C σ l a) (hr : Ev C σ r b) (h : BinRes op a b c) : Ev C σ (.BinOp l op r pos) c := fun W s Q E H k =>
  wpAny_BinOp (hl W s _ E H fun s₁ va K₁ ra => hr W s₁ _ E (H.kept K₁) fun s₂ vb K₂ rb => bin_sound h (K₂.rd H.sub ra) rb fun s₃ v K₃ rc => k s₃ v ((K₁.trans K₂).trans K₃) rc)
theorem Ev_neg {e : Expr} {i : Int} {pos : Pos} (h : Ev C σ e (.int i)) : Ev C σ (.UnaryOp .USub e pos) (.int (-i)) := fun W s Q E H k => by
  show wpAny _ _ (do let v ← eval e C.env; standAt pos; holding [v] (unaryOp .USub v)) _ _ _
  refine wpAny_bind (h W s _ E H fun s₁ v K r => ?_)
  obtain ⟨t, rfl⟩ := r.int_inv
  exact wpAny_bind (wpAny_standAt (wpAny_holding (PyProof.Rows.neg_int (k _ _ (K.trans .tok) .int))))
theorem En_add {l r : Expr} {pos : Pos} {ds es : List PyData} (hl : Ev C σ l (.list ds)) (hr : Ev C σ r (.list es)) (hz : ds.length + es.length ≤ sizeLine) : En C σ (.BinOp l .Add r pos) (ds ++ es) := fun W s Q E H k =>
  wpAny_BinOp (hl W s _ E H fun s₁ va K₁ ra => hr W s₁ _ E (H.kept K₁) fun s₂ vb K₂ rb => by
    obtain ⟨a, its, n, rfl, _, ho, hl'⟩ := (K₂.rd H.sub ra).list_inv
    obtain ⟨b, jts, n', rfl, _, ho', hl''⟩ := rb.list_inv
    exact P.add_list ho ho' (new_list (n := 0) (K₁.trans K₂) (hl'.append hl'') (by simp) k _) (by simpa [hl'.length, hl''.length] using hz))
noncomputable def deep (d : PyData) : Bool := d.canLay0 && decide (d.depth ≤ 100)
theorem deep_iff {d : PyData} : deep d = true ↔ d.canLay0 = true ∧ d.depth ≤ 100 := by simp [deep]
inductive CmpRes : CmpOp → PyData → PyData → Bool → Prop
  | eq (a b : PyData) (ha : deep a = true) (hb : deep b = true) : CmpRes .Eq a b (PyData.eqv a b)
  | ne (a b : PyData) (ha : deep a = true) (hb : deep b = true) : CmpRes .NotEq a b (!PyData.eqv a b)
  | lt (a b : Int) : CmpRes .Lt (.int a) (.int b) (decide (a < b))
  | gt (a b : Int) : CmpRes .Gt (.int a) (.int b) (decide (b < a))
  | lts (x y : Str) : CmpRes .Lt (.str x) (.str y) (decide (x.cps.toList < y.cps.toList))
  | gts (x y : Str) : CmpRes .Gt (.str x) (.str y) (decide (y.cps.toList < x.cps.toList))
  | inl (a : PyData) (xs : List PyData) (ha : deep a = true) (hb : PyData.canLayAll0 xs = true) : CmpRes .In a (.list xs) (xs.any fun y => PyData.eqv y a)
  | notinl (a : PyData) (xs : List PyData) (ha : deep a = true) (hb : PyData.canLayAll0 xs = true) : CmpRes .NotIn a (.list xs) (!xs.any fun y => PyData.eqv y a)
  | ins (x y : Str) : CmpRes .In (.str y) (.str x) (Txt.contains x y)
  | isn (xs : List PyData) : CmpRes .Is (.list xs) .none false
  | isnn : CmpRes .Is .none .none true
theorem depth_room {u a b : Nat} (h : u + 300 < cLine) (ha : a ≤ 100) : u + 1 + min b a < cLine := by walk_at "mine:om"
theorem cmp_sound {op : CmpOp} {a b : PyData} {r : Bool} {va vb : Value} (hu : C.A.units + 300 < cLine) (q : CmpRes op a b r) (ha : Rd W s.heap a va) (hb : Rd W s.heap b vb)
    (k : ∀ s', Kept C.F s s' → Q (.bool r) s') : wpAny (model C.prog C.w) C.A (compareOp op va vb) Q E s := by
  cases q with
  | eq a b da db =>
    rw [deep_iff] at da db
    obtain ⟨as, ra⟩ := Rd.reads _ _ da.1 ha; obtain ⟨bs, rb⟩ := Rd.reads _ _ db.1 hb
    exact SeqAt.compareEq_reads ra rb da.1 db.1 (by walk_at "mine:om") (k s (.refl _ _))
  | ne a b da db =>
    rw [deep_iff] at da db
    obtain ⟨as, ra⟩ := Rd.reads _ _ da.1 ha; obtain ⟨bs, rb⟩ := Rd.reads _ _ db.1 hb
    exact SeqAt.compareNe_reads ra rb da.1 db.1 (by walk_at "mine:om") (k s (.refl _ _))
  | lt a b => obtain ⟨t, rfl⟩ := ha.int_inv; obtain ⟨u, rfl⟩ := hb.int_inv; exact PyProof.Rows.lt_int (k s (.refl _ _))
  | gt a b => obtain ⟨t, rfl⟩ := ha.int_inv; obtain ⟨u, rfl⟩ := hb.int_inv; exact PyProof.Rows.gt_int (k s (.refl _ _))
  | lts x y => obtain ⟨t, rfl⟩ := ha.str_inv; obtain ⟨u, rfl⟩ := hb.str_inv; exact PyProof.Rows.lt_str (k s (.refl _ _))
  | gts x y => obtain ⟨t, rfl⟩ := ha.str_inv; obtain ⟨u, rfl⟩ := hb.str_inv; exact P.gt_str (k s (.refl _ _))
  | inl a xs da dx =>
    rw [deep_iff] at da
    obtain ⟨as, ra⟩ := Rd.reads _ _ da.1 ha; obtain ⟨bs, rb⟩ := Rd.reads _ _ (show PyData.canLay0 (.list xs) = true by simpa only [PyData.canLay0] using dx) hb
    exact SeqAt.in_list_reads rb ra dx da.1 (depth_room hu da.2) (k s (.refl _ _))
  | notinl a xs da dx =>
    rw [deep_iff] at da
    obtain ⟨as, ra⟩ := Rd.reads _ _ da.1 ha; obtain ⟨bs, rb⟩ := Rd.reads _ _ (show PyData.canLay0 (.list xs) = true by simpa only [PyData.canLay0] using dx) hb
    exact SeqAt.notIn_list_reads rb ra dx da.1 (depth_room hu da.2) (k s (.refl _ _))
  | ins x y => obtain ⟨t, rfl⟩ := ha.str_inv; obtain ⟨u, rfl⟩ := hb.str_inv; exact SB.contains (k s (.refl _ _))
  | isn xs => obtain ⟨a, its, n, rfl, _⟩ := ha.list_inv; rw [hb.none_inv]; exact PyProof.Rows.is_none_ne (by intro x; cases x) (k s (.refl _ _))
  | isnn => rw [ha.none_inv, hb.none_inv]; exact PyProof.Rows.is_none_none (k s (.refl _ _))
theorem Ev_cmp {l r : Expr} {op : CmpOp} {pos : Pos} {a b : PyData} {c : Bool} (hl : Ev C σ l a) (hr : Ev C σ r b) (h : CmpRes op a b c) (hm : behindInMarks op r = false) : Ev C σ (.Compare l [op] [r] pos) (.bool c) := fun W s Q E H k =>
  wpAny_Compare1 (hl W s _ E H fun s₁ va K₁ ra => hr W s₁ _ E (H.kept K₁) fun s₂ vb K₂ rb => cmp_sound H.units h (K₂.rd H.sub ra) rb fun s₃ K₃ => k s₃ _ ((K₁.trans K₂).trans K₃) .bool) hm
noncomputable def It (C : Cx) (σ : Loc) (e : Expr) (b : Bool) : Prop :=
  ∀ (W : List Addr) (s : Shared) (Q : Bool → Shared → Prop) (E : Value → Shared → Prop), Has C σ W s.heap → (∀ s', Kept C.F s s' → Q b s') → wpAny (model C.prog C.w) C.A (isTrue e C.env (eval e C.env)) Q E s
theorem It_cmp {l r : Expr} {op : CmpOp} {pos : Pos} {a b : PyData} {c : Bool} (hl : Ev C σ l a) (hr : Ev C σ r b) (h : CmpRes op a b c) (hm : behindInMarks op r = false) : It C σ (.Compare l [op] [r] pos) c := fun W s Q E H k =>
  wpAny_isTrue_Compare1 (hl W s _ E H fun s₁ va K₁ ra => hr W s₁ _ E (H.kept K₁) fun s₂ vb K₂ rb => cmp_sound H.units h (K₂.rd H.sub ra) rb fun s₃ K₃ => wpAny_truthy_bool (k s₃ ((K₁.trans K₂).trans K₃))) hm
theorem It_in_el {l r : Expr} {pos : Pos} {a : PyData} {xs : List PyData} (hl : Ev C σ l a) (hr : El C σ r xs) (ha : deep a = true) (hx : PyData.canLayAll0 xs = true) (hm : behindInMarks .NotIn r = false) :
    It C σ (.Compare l [.NotIn] [r] pos) (!xs.any fun y => PyData.eqv y a) := fun W s Q E H k =>
  wpAny_isTrue_Compare1 (hl W s _ E H fun s₁ va K₁ ra => hr W s₁ _ E (H.kept K₁) fun s₂ b its K₂ hb rb hF => by
    rw [deep_iff] at ha
    obtain ⟨as, ra⟩ := Rd.reads _ _ ha.1 (K₂.rd H.sub ra)
    obtain ⟨o, ho, hc, n, hd⟩ := hb
    obtain ⟨bs, rb⟩ := RdL.reads _ _ hx rb
    exact SeqAt.notIn_list_reads (.list ho hc hd rb) ra hx ha.1 (depth_room H.units ha.2) (wpAny_truthy_bool (k _ (K₁.trans K₂)))) hm
theorem It_eq_el {l r : Expr} {pos : Pos} {b : PyData} {xs : List PyData} (hl : El C σ l xs) (hr : Ev C σ r b) (hx : deep (.list xs) = true) (hb : deep b = true) (hm : behindInMarks .NotEq r = false) :
    It C σ (.Compare l [.NotEq] [r] pos) (!PyData.eqv (.list xs) b) := fun W s Q E H k =>
  wpAny_isTrue_Compare1 (hl W s _ E H fun s₁ a its K₁ ha ra hF => hr W s₁ _ E (H.kept K₁) fun s₂ vb K₂ rb => by
    obtain ⟨o, ho, hc, n, hd⟩ := ha
    rw [deep_iff] at hx hb
    obtain ⟨as, ra⟩ := RdL.reads _ _ (by simpa only [PyData.canLay0] using hx.1) (K₂.rdl H.sub ra)
    obtain ⟨bs, rb⟩ := Rd.reads _ _ hb.1 rb
    exact SeqAt.compareNe_reads (.list (K₂.keep _ _ hF ho) hc hd ra) rb hx.1 hb.1 (by have := H.units; walk_at "mine:om") (wpAny_truthy_bool (k _ (K₁.trans K₂)))) hm
theorem It_el {e : Expr} {ds : List PyData} (h : El C σ e ds) (hz : ds.length < 2 ^ 62) (he : ∀ whole : Sem Value, isTrue e C.env whole = (do let v ← whole; standAt e.pos; holding [v] (truthy v))) : It C σ e (!ds.isEmpty) := fun W s Q E H k =>
  PyProof.Rows.isTrue_plain (h W s _ E H fun s₁ a its K₁ ha ra hF => by
    have hl := ra.length
    refine wpAny_truthy_list ha (by simp [hl]; walk_at "mine:om") ?_
    have : (!ds.isEmpty) = !its.toArray.isEmpty := by cases ds <;> cases its <;> simp_all
    first | (rw [← this]; exact k _ (K₁.trans .tok)) | (intro _; rw [← this]; exact k _ (K₁.trans .tok)) | skip) (he _)
theorem It_and_nil {pos : Pos} : It C σ (.BoolOp .And [] pos) true := fun W s Q E H k => PyProof.Rows.isTrue_and_nil (k s (.refl _ _))
theorem It_or_nil {pos : Pos} : It C σ (.BoolOp .Or [] pos) false := fun W s Q E H k => PyProof.Rows.isTrue_or_nil (k s (.refl _ _))
theorem It_and {x : Expr} {rest : List Expr} {pos : Pos} {a b : Bool} (hx : It C σ x a) (hr : a = true → It C σ (.BoolOp .And rest pos) b) : It C σ (.BoolOp .And (x :: rest) pos) (a && b) := fun W s Q E H k =>
  PyProof.Rows.isTrue_and (hx W s _ E H fun s₁ K₁ => by
    cases a with
    | false => simpa using k s₁ K₁
    | true => rw [if_pos rfl]; exact (show _ from hr rfl W s₁ Q E (H.kept K₁) fun s₂ K₂ => by simpa using k s₂ (K₁.trans K₂)))
theorem It_or {x : Expr} {rest : List Expr} {pos : Pos} {a b : Bool} (hx : It C σ x a) (hr : a = false → It C σ (.BoolOp .Or rest pos) b) : It C σ (.BoolOp .Or (x :: rest) pos) (a || b) := fun W s Q E H k =>
  PyProof.Rows.isTrue_or (hx W s _ E H fun s₁ K₁ => by
    cases a with
    | true => simpa using k s₁ K₁
    | false => rw [if_neg (by decide)]; exact (show _ from hr rfl W s₁ Q E (H.kept K₁) fun s₂ K₂ => by simpa using k s₂ (K₁.trans K₂)))
end
end Mine
end
section
open PySem PySem.Spec PySem.Calls PyProof.Rows PySem.W PySem.Builtin PySem.Builtin.Str
namespace Mine
section
variable {C : Cx} {σ : Loc} {W : List Addr} {s : Shared} {Q : Value → Shared → Prop} {E : Value → Shared → Prop}
noncomputable def At (n : Nat) (i : Int) (j : Nat) : Prop := j < n ∧ (i = j ∨ i = (j : Int) - n)
theorem getItem_at {l : Addr} {its : List Value} {i : Int} {t : Tok} {j : Nat} {x : Value} (hl : s.heap.IsList l its.toArray) (hz : its.length < 2 ^ 62) (ha : At its.length i j) (hx : its[j]? = some x) (h : Q x s) :
    wpAny (model C.prog C.w) C.A (getItem (.ref l) (.int i t)) Q E s := by
  obtain ⟨hj, e | e⟩ := ha
  · subst e; exact wpAny_getItem_list hl (by walk_at "mine:om") (by walk_at "mine:om") (by simpa using hx) h
  · refine wpAny_getItem_list_neg hl (by walk_at "mine:om") (by simp; walk_at "mine:om") (by walk_at "mine:om") ?_ h
    have : (i + (its.toArray.size : Int)).toNat = j := by simp; walk_at "mine:om"
    rw [this]; simpa using hx
noncomputable abbrev PlainSub (slice : Expr) : Prop := ∀ o i, subscripted slice false o i = operate [o, i] (getItem o i)
theorem Ev_item {value slice : Expr} {pos : Pos} {ds : List PyData} {i : Int} {j : Nat} {d : PyData} (hv : Ev C σ value (.list ds)) (hi : Ev C σ slice (.int i)) (ha : At ds.length i j) (hd : ds[j]? = some d) (hz : ds.length < 2 ^ 62)
    (hs : PlainSub slice) : Ev C σ (.Subscript value slice pos) d := fun W s Q E H k =>
  PyProof.Rows.Subscript_ (hv W s _ E H fun s₁ va K₁ ra => hi W s₁ _ E (H.kept K₁) fun s₂ vi K₂ ri => by
    obtain ⟨l, its, n, rfl, _, ho, hl⟩ := (K₂.rd H.sub ra).list_inv
    obtain ⟨t, rfl⟩ := ri.int_inv
    obtain ⟨x, hx, rx⟩ := hl.get hd
    exact tail_any (Heap.IsList.typeIs ⟨_, ho, rfl, n, rfl⟩) slot_list_getitem.lookup (getItem_at ⟨_, ho, rfl, n, rfl⟩ (by rw [hl.length]; exact hz) (by rw [hl.length]; exact ha) hx (k _ _ (K₁.trans K₂) rx)) (hs _ _))
theorem Ev_item_own {x : Str} {px : Pos} {slice : Expr} {pos : Pos} {ds : List PyData} {i : Int} {j : Nat} {d : PyData} (hv : (x, Slot.own ds) ∈ σ) (hx' : (x == ("__debug__" : Str)) = false) (hi : Ev C σ slice (.int i)) (ha : At ds.length i j) (hd : ds[j]? = some d) (hz : ds.length < 2 ^ 62)
    (hs : PlainSub slice) : Ev C σ (.Subscript (.Name x px) slice pos) d := fun W s Q E H k =>
  PyProof.Rows.Subscript_ (El_own (pos := px) hv hx' W s _ E H fun s₁ l its K₁ hl rl hF => hi W s₁ _ E (H.kept K₁) fun s₂ vi K₂ ri => by
    obtain ⟨t, rfl⟩ := ri.int_inv
    have rl' := K₂.rdl H.sub rl
    obtain ⟨x, hx, rx⟩ := rl'.get hd
    obtain ⟨o, ho, hc, n, hd'⟩ := hl
    have hl' : s₂.heap.IsList l its.toArray := ⟨o, K₂.keep _ _ hF ho, hc, n, hd'⟩
    exact tail_any hl'.typeIs slot_list_getitem.lookup (getItem_at hl' (by rw [rl'.length]; exact hz) (by rw [rl'.length]; exact ha) hx (k _ _ (K₁.trans K₂) rx)) (hs _ _))
theorem Ev_titem {value slice : Expr} {pos : Pos} {ds : List PyData} {i : Int} {j : Nat} {d : PyData} (hv : Ev C σ value (.tuple ds)) (hi : Ev C σ slice (.int i)) (ha : i = (j : Int) ∧ j < ds.length) (hd : ds[j]? = some d) (hz : ds.length < 2 ^ 62)
    (hs : PlainSub slice) (ht : ∀ o r, letTemporaryGo value o r = pure ()) : Ev C σ (.Subscript value slice pos) d := fun W s Q E H k =>
  PyProof.Rows.Subscript_ (hv W s _ E H fun s₁ va K₁ ra => hi W s₁ _ E (H.kept K₁) fun s₂ vi K₂ ri => by
    obtain ⟨l, its, n, rfl, _, ho, hl⟩ := (K₂.rd H.sub ra).tuple_inv
    obtain ⟨t, rfl⟩ := ri.int_inv
    obtain ⟨x, hx, rx⟩ := hl.get hd
    obtain ⟨rfl, hj⟩ := ha
    refine PyProof.Rows.item_tuple (j := j) ⟨_, ho, rfl, n, rfl⟩ (by walk_at "mine:om") (by walk_at "mine:om") ?_ (by simpa using hx) (k _ _ (K₁.trans K₂) rx) (hs _ _) (ht _)
    have := hl.length
    simp only [seqIndex?, List.size_toArray, this]
    have e1 : ¬ ((j : Int) < 0) := by walk_at "mine:om"
    simp only [if_neg e1]
    rw [if_pos (by simp; walk_at "mine:om")]; simp)
theorem Ev_sitem {value slice : Expr} {pos : Pos} {x : Str} {i : Int} (hv : Ev C σ value (.str x)) (hi : Ev C σ slice (.int i)) (h0 : fitsSsize i = true) (hin : (Txt.charAt x i).isSome = true)
    (hs : PlainSub slice) : Ev C σ (.Subscript value slice pos) (.str (Txt.item x i)) := fun W s Q E H k =>
  PyProof.Rows.Subscript_ (hv W s _ E H fun s₁ va K₁ ra => hi W s₁ _ E (H.kept K₁) fun s₂ vi K₂ ri => by
    obtain ⟨u, rfl⟩ := ra.str_inv
    obtain ⟨t, rfl⟩ := ri.int_inv
    exact tail_any (typeIs_str _ _ _) F.slot_str_getitem.lookup (SB.getItem h0 hin (k _ _ ((K₁.trans K₂).trans .tok) .str)) (hs _ _))
noncomputable def cut {α : Type} (xs : List α) (lo hi : Option Int) : List α := (xs.drop (lo.elim 0 (clipAt xs.length))).take (hi.elim xs.length (clipAt xs.length) - lo.elim 0 (clipAt xs.length))
theorem RdL.cut {h : Heap} {ds : List PyData} {its : List Value} (x : RdL W h ds its) (lo hi : Option Int) : RdL W h (Mine.cut ds lo hi) (Mine.cut its lo hi) := by
  unfold Mine.cut
  rw [x.length]
  exact (x.drop _).take _
noncomputable def Part (C : Cx) (σ : Loc) : Option Expr → Option Int → Prop
  | .none, .none => True
  | some e, some i => Ev C σ e (.int i)
  | _, _ => False
theorem part_sound {o : Option Expr} {i : Option Int} (h : Part C σ o i) (H : Has C σ W s.heap) (k : ∀ s' v, Kept C.F s s' → (∃ p : Option (Int × Tok), v = partValue p ∧ p.map (·.1) = i) → Q v s') : wpAny (model C.prog C.w) C.A (evalPart o C.env) Q E s := by
  cases o with
  | none => cases i with
    | none => rw [evalPart_none]; exact wpAny_pure (k s _ (.refl _ _) ⟨.none, rfl, rfl⟩)
    | some i => exact h.elim
  | some e => cases i with
    | none => exact h.elim
    | some i =>
      rw [evalPart_some]
      refine h W s _ E H fun s' v K r => ?_
      obtain ⟨t, rfl⟩ := r.int_inv
      exact k s' _ K ⟨some (i, t), rfl, rfl⟩
theorem isPart_of {v : Value} {i : Option Int} (h : ∃ p : Option (Int × Tok), v = partValue p ∧ p.map (·.1) = i) : IsPart v i := by
  obtain ⟨p, rfl, rfl⟩ := h
  cases p with
  | none => exact .none
  | some q => exact .int q.1 q.2
theorem pick_cut {its : List Value} (lo hi : Option Int) : slicePick its.toArray lo hi .none = (cut its lo hi).toArray := by
  rw [slicePick_plain]; rfl
theorem En_slice {value : Expr} {lower upper : Option Expr} {p pos : Pos} {ds : List PyData} {lo hi : Option Int} (hv : Ev C σ value (.list ds)) (hlo : Part C σ lower lo) (hhi : Part C σ upper hi) (hz : ds.length ≤ sizeLine)
    (ht : ∀ o r, letTemporaryGo value o r = pure ()) : En C σ (.Subscript value (.Slice lower upper .none p) pos) (cut ds lo hi) := fun W s Q E H k =>
  wpAny_Subscript_list_slice (hv W s _ E H fun s₁ va K₁ ra => part_sound hlo (H.kept K₁) fun s₂ v2 K₂ p2 => part_sound hhi ((H.kept K₁).kept K₂) fun s₃ v3 K₃ p3 => by
    obtain ⟨l, its, n, rfl, _, ho, hl⟩ := (K₃.rd H.sub (K₂.rd H.sub ra)).list_inv
    refine ⟨l, its.toArray, lo, hi, rfl, ⟨_, ho, rfl, n, rfl⟩, by simpa [hl.length] using hz, isPart_of p2, isPart_of p3, ?_⟩
    have Kp : Kept C.F s { s₃ with heap := s₃.heap.push { cls := .type "slice", data := .fields #[v2, v3, .none] } } := ((K₁.trans K₂).trans K₃).trans .push'
    have r' : RdL W (s₃.heap.push { cls := .type "slice", data := .fields #[v2, v3, .none] }) (cut ds lo hi) (cut its lo hi) := RdL.mono (fun b o nb e => ⟨nb, Heap.get?_push_of_some _ e⟩) _ _ (hl.cut lo hi)
    have := new_list (Q := Q) (o := { cls := .type "list", data := .seq (slicePick its.toArray lo hi .none) }) Kp r' (n := 0) (by rw [pick_cut]) k s₃.toks
    simpa using this) ht
theorem En_slice_el {value : Expr} {lower upper : Option Expr} {p pos : Pos} {ds : List PyData} {lo hi : Option Int} (hv : El C σ value ds) (hlo : Part C σ lower lo) (hhi : Part C σ upper hi) (hz : ds.length ≤ sizeLine)
    (ht : ∀ o r, letTemporaryGo value o r = pure ()) : En C σ (.Subscript value (.Slice lower upper .none p) pos) (cut ds lo hi) := fun W s Q E H k =>
  wpAny_Subscript_list_slice (hv W s _ E H fun s₁ l its K₁ ho ra hF => part_sound hlo (H.kept K₁) fun s₂ v2 K₂ p2 => part_sound hhi ((H.kept K₁).kept K₂) fun s₃ v3 K₃ p3 => by
    obtain ⟨o, ho, hc, n, hd⟩ := ho
    have hl := K₃.rdl H.sub (K₂.rdl H.sub ra)
    refine ⟨l, its.toArray, lo, hi, rfl, ⟨o, K₃.keep _ _ hF (K₂.keep _ _ hF ho), hc, n, hd⟩, by simpa [hl.length] using hz, isPart_of p2, isPart_of p3, ?_⟩
    have Kp : Kept C.F s { s₃ with heap := s₃.heap.push { cls := .type "slice", data := .fields #[v2, v3, .none] } } := ((K₁.trans K₂).trans K₃).trans .push'
    have r' : RdL W (s₃.heap.push { cls := .type "slice", data := .fields #[v2, v3, .none] }) (cut ds lo hi) (cut its lo hi) := RdL.mono (fun b o nb e => ⟨nb, Heap.get?_push_of_some _ e⟩) _ _ (hl.cut lo hi)
    have := new_list (Q := Q) (o := { cls := .type "list", data := .seq (slicePick its.toArray lo hi .none) }) Kp r' (n := 0) (by rw [pick_cut]) k s₃.toks
    simpa using this) ht
noncomputable def scut (x : Str) (lo hi : Option Int) : Str := ⟨(cut x.cps.toList lo hi).toArray⟩
theorem strIdx_bounds (lo hi : Option Int) (n : Nat) : strSliceIndices lo hi 1 n = sliceRange (sliceBounds lo hi .none n).1 (sliceBounds lo hi .none n).2.1 1 := by
  unfold strSliceIndices sliceBounds
  cases lo <;> cases hi <;> rfl
theorem strIdx_cut (x : Str) (lo hi : Option Int) : (strSliceIndices lo hi 1 x.length).filterMap (x.cps[·]?) = cut x.cps.toList lo hi := by
  rw [strIdx_bounds, sliceBounds_plain, sliceRange_one, pick_run]
  simp [cut, Str.length]
theorem strIdx_len (x : Str) (lo hi : Option Int) (h : (strSliceIndices lo hi 1 x.length).length = x.length) : cut x.cps.toList lo hi = x.cps.toList := by
  rw [strIdx_bounds, sliceBounds_plain, sliceRange_one] at h
  have h' : (hi.elim x.length (clipAt x.length)) - (lo.elim 0 (clipAt x.length)) = x.length := by simpa using h
  have hn : x.cps.toList.length = x.length := by simp [Str.length]
  have hb : hi.elim x.length (clipAt x.length) ≤ x.length := by
    cases hi with
    | none => exact Nat.le_refl _
    | some i => simp [clipAt]; walk_at "mine:om"
  unfold cut
  rw [hn]
  by_cases h0 : x.length = 0
  · have : x.cps.toList = [] := List.eq_nil_of_length_eq_zero (by walk_at "mine:om")
    simp [this]
  · have hl : lo.elim 0 (clipAt x.length) = 0 := by walk_at "mine:om"
    rw [hl] at h' ⊢
    simp only [Nat.sub_zero] at h' ⊢
    rw [h', List.drop_zero, ← hn, List.take_length]
theorem Ev_slice_str {value : Expr} {lower upper : Option Expr} {p pos : Pos} {x : Str} {lo hi : Option Int} (hv : Ev C σ value (.str x)) (hlo : Part C σ lower lo) (hhi : Part C σ upper hi) (hz : x.length ≤ sizeLine)
    (ht : ∀ o r, letTemporaryGo value o r = pure ()) : Ev C σ (.Subscript value (.Slice lower upper .none p) pos) (.str (scut x lo hi)) := fun W s Q E H k =>
  wpAny_Subscript_str_slice (hv W s _ E H fun s₁ va K₁ ra => part_sound hlo (H.kept K₁) fun s₂ v2 K₂ p2 => part_sound hhi ((H.kept K₁).kept K₂) fun s₃ v3 K₃ p3 => by
    obtain ⟨t, rfl⟩ := ra.str_inv
    obtain ⟨l, rfl, rfl⟩ := p2
    obtain ⟨u, rfl, rfl⟩ := p3
    refine ⟨x, t, l, u, rfl, rfl, rfl, ?_⟩
    have Kp : Kept C.F s { s₃ with heap := s₃.heap.push { cls := .type "slice", data := .fields #[partValue l, partValue u, .none] } } := ((K₁.trans K₂).trans K₃).trans .push'
    unfold sliceMade slicePicked
    simp only [Option.map_none, Option.getD_none]
    split
    · rename_i hh
      simp only [Bool.and_eq_true, beq_iff_eq] at hh
      have e : scut x (l.map (·.1)) (u.map (·.1)) = x := by unfold scut; rw [strIdx_len x _ _ hh.2]
      rw [e] at k
      exact k _ _ Kp .str
    · rw [strIdx_cut]
      refine ⟨?_, ?_⟩
      · show (cut x.cps.toList _ _).toArray.size ≤ sizeLine
        have : (cut x.cps.toList (l.map (·.1)) (u.map (·.1))).length ≤ x.cps.toList.length := by
          unfold cut; simp only [List.length_take, List.length_drop]; walk_at "mine:om"
        simp [Str.length] at hz this ⊢; walk_at "mine:om"
      · exact k _ _ (Kp.trans .tok) .str) ht
end
end Mine
end
section
open PySem PySem.Spec PySem.Calls PyProof.Rows PySem.W PySem.Builtin PySem.Builtin.Str
namespace Mine
section
variable {C : Cx} {σ : Loc} {W : List Addr} {s : Shared} {Q : Value → Shared → Prop} {E : Value → Shared → Prop}
theorem global_sound {x : Str} {v : Value} {pos : Pos} (H : Has C σ W s.heap) (hk : C.env.kindOf x = some .globalImplicit) (hm : (x, v) ∈ gtable) (hd : (x == ("__debug__" : Str)) = false) (k : Q v s) :
    wpAny (model C.prog C.w) C.A (eval (.Name x pos) C.env) Q E s := by
  obtain ⟨mg, hg, h | ⟨h, mb, hb, h'⟩⟩ := H.glob x v hm
  · exact Name_function_global H.fun_ hk (loadGlobal_global (by rw [H.genv.1]; exact hg.keeps H.base) h k) hd
  · exact Name_function_global H.fun_ hk (loadGlobal_builtin (by rw [H.genv.1]; exact hg.keeps H.base) h (by rw [H.genv.2]; exact hb.keeps H.base) h' k) hd
noncomputable abbrev Star1 (C : Cx) (e : Expr) : Prop := starEach [e] C.env = [(false, eval e C.env)]
theorem call1 {f : Str} {id : String} {np pos : Pos} {e : Expr} (H : Has C σ W s.heap) (hk : C.env.kindOf f = some .globalImplicit) (hm : (f, Value.builtin id) ∈ gtable) (hd : (f == ("__debug__" : Str)) = false) (hs : Star1 C e)
    (h : wpAny (model C.prog C.w) C.A (eval e C.env) (fun v s₁ => wpAny (model C.prog C.w) C.A (call (.builtin id) [v]) Q E s₁) E s) :
    wpAny (model C.prog C.w) C.A (eval (.Call (.Name f np) [e] [] pos) C.env) Q E s :=
  Call_name1 hs (global_sound H hk hm hd (PySem.callWith_builtin1 h))
theorem callT1 {f : Str} {T : String} {np pos : Pos} {e : Expr} (H : Has C σ W s.heap) (hk : C.env.kindOf f = some .globalImplicit) (hm : (f, Value.type T) ∈ gtable) (hd : (f == ("__debug__" : Str)) = false) (hs : Star1 C e)
    (h : wpAny (model C.prog C.w) C.A (eval e C.env) (fun v s₁ => wpAny (model C.prog C.w) C.A (call (.type T) [v]) Q E s₁) E s) :
    wpAny (model C.prog C.w) C.A (eval (.Call (.Name f np) [e] [] pos) C.env) Q E s :=
  Call_name1 hs (global_sound H hk hm hd (PySem.callWith_type1 h))
theorem in_len : (("len" : Str), Value.builtin "len") ∈ gtable := .head _
theorem Ev_len {np pos : Pos} {e : Expr} {ds : List PyData} (he : El C σ e ds) (hk : C.env.kindOf "len" = some .globalImplicit) (hs : Star1 C e) (hz : ds.length < 2 ^ 62) :
    Ev C σ (.Call (.Name "len" np) [e] [] pos) (.int ds.length) := fun W s Q E H k =>
  call1 H hk in_len (by decide +kernel) hs (he W s _ E H fun s₁ a its K₁ ha ra hF => call_len_list ha (by simp [ra.length]; walk_at "mine:om") (by
    have := k { s₁ with toks := s₁.toks + 1 + 1 } (.int its.toArray.size (s₁.toks + 1)) (K₁.trans .tok) (by simp [Rd, ra.length])
    exact this))
theorem Ev_len_str {np pos : Pos} {e : Expr} {x : Str} (he : Ev C σ e (.str x)) (hk : C.env.kindOf "len" = some .globalImplicit) (hs : Star1 C e) (hz : x.length < 2 ^ 62) :
    Ev C σ (.Call (.Name "len" np) [e] [] pos) (.int x.length) := fun W s Q E H k =>
  call1 H hk in_len (by decide +kernel) hs (he W s _ E H fun s₁ v K₁ r => by
    obtain ⟨t, rfl⟩ := r.str_inv
    exact P.len_str (by walk_at "mine:om") (k _ _ (K₁.trans .tok) .int))
theorem in_chr : (("chr" : Str), Value.builtin "chr") ∈ gtable := .tail _ (.tail _ (.tail _ (.head _)))
theorem Ev_chr {np pos : Pos} {e : Expr} {i : Int} (he : Ev C σ e (.int i)) (hk : C.env.kindOf "chr" = some .globalImplicit) (hs : Star1 C e) (h0 : 0 ≤ i) (h1 : i ≤ 1114111) :
    Ev C σ (.Call (.Name "chr" np) [e] [] pos) (.str ⟨#[i.toNat]⟩) := fun W s Q E H k =>
  call1 H hk in_chr (by decide +kernel) hs (he W s _ E H fun s₁ v K₁ r => by
    obtain ⟨t, rfl⟩ := r.int_inv
    exact P.chr_of_int (by simp; walk_at "mine:om") (k _ _ (K₁.trans .tok) .str))
theorem in_list : (("list" : Str), Value.type "list") ∈ gtable := .tail _ (.tail _ (.tail _ (.tail _ (.tail _ (.head _)))))
theorem En_list {np pos : Pos} {e : Expr} {ds : List PyData} (he : El C σ e ds) (hk : C.env.kindOf "list" = some .globalImplicit) (hs : Star1 C e) (hz : ds.length ≤ sizeLine) :
    En C σ (.Call (.Name "list" np) [e] [] pos) ds := fun W s Q E H k =>
  callT1 H hk in_list (by decide +kernel) hs (he W s _ E H fun s₁ a its K₁ ha ra hF => by
    obtain ⟨o, ho, hc, n, hd⟩ := ha
    refine call_list_seq a (.inl rfl) ho hc hd (fun h' c' hk' hnew => ?_) (by simpa [ra.length] using hz)
    exact k _ _ its c' (K₁.trans (.of_keeps rfl rfl rfl hk')) (none_of_kept K₁ (none_at_size _)) hnew (rdl_new hk' (none_at_size _) ra))
theorem preSum_take (xs : Array (Int × Tok)) : ∀ k, k ≤ xs.size → preSum (numAt xs) k = ((xs.toList.map (·.1)).take k).sum
  | 0, _ => by simp [preSum]
  | k + 1, h => by
    have hk : k < xs.toList.length := by rw [Array.length_toList]; exact h
    rw [preSum, preSum_take xs k (by walk_at "mine:om"), List.take_add_one, List.sum_append]
    simp only [numAt, List.getElem?_map]
    have : xs[k]? = some xs[k] := Array.getElem?_eq_getElem (by walk_at "mine:om")
    simp [this]
theorem ints_of {h : Heap} : ∀ {ns : List Int} {its : List Value}, RdL W h (ns.map PyData.int) its → AllInts its.toArray ∧ ∀ xs : Array (Int × Tok), its.toArray = intItems xs → xs.toList.map (·.1) = ns := by
  intro ns its r
  have key : ∀ (ns : List Int) (its : List Value), RdL W h (ns.map PyData.int) its → (∀ v ∈ its, ∃ a t, v = .int a t) ∧ ∀ l : List (Int × Tok), its = l.map (fun p => Value.int p.1 p.2) → l.map (·.1) = ns := by
    intro ns
    induction ns with
    | nil =>
      intro its r
      rw [List.map_nil, RdL.nil_iff] at r
      subst r
      exact ⟨fun v hv => (nomatch hv), fun l e => by cases l with | nil => rfl | cons _ _ => simp at e⟩
    | cons n ns ih =>
      intro its r
      obtain ⟨v, r', rfl, a, b⟩ := RdL.cons_inv r
      obtain ⟨t, rfl⟩ := a.int_inv
      obtain ⟨h1, h2⟩ := ih r' b
      refine ⟨fun v hv => ?_, fun l e => ?_⟩
      · rcases List.mem_cons.mp hv with rfl | hv
        · exact ⟨_, _, rfl⟩
        · exact h1 v hv
      · cases l with
        | nil => simp at e
        | cons p l =>
          simp only [List.map_cons, List.cons.injEq, Value.int.injEq] at e
          rw [List.map_cons, ← e.1.1, h2 l e.2]
  obtain ⟨h1, h2⟩ := key ns its r
  refine ⟨fun v hv => h1 v (by simpa using hv), fun xs e => h2 xs.toList ?_⟩
  have := congrArg Array.toList e
  simpa [intItems] using this
theorem in_sum : (("sum" : Str), Value.builtin "sum") ∈ gtable := .tail _ (.tail _ (.head _))
theorem Ev_sum {np pos : Pos} {e : Expr} {ns : List Int} (he : El C σ e (ns.map .int)) (hk : C.env.kindOf "sum" = some .globalImplicit) (hs : Star1 C e) (hh : C.A.handled = .none) :
    Ev C σ (.Call (.Name "sum" np) [e] [] pos) (.int ns.sum) := fun W s Q E H k =>
  call1 H hk in_sum (by decide +kernel) hs (he W s _ E H fun s₁ a its K₁ ha ra hF => by
    obtain ⟨hall, hx⟩ := ints_of ra
    obtain ⟨xs, hxs⟩ := hall.items
    have e := hx xs hxs
    rw [hxs] at ha
    refine sum_intListG hh ha fun h' tk t' hk' => ?_
    have e2 : preSum (numAt xs) xs.size = ns.sum := by
      rw [preSum_take xs _ (Nat.le_refl _), e]
      have : ns.length = xs.size := by rw [← e]; simp
      rw [← this, List.take_length]
    rw [e2]
    exact k _ _ (K₁.trans (.heap hk')) .int)
theorem strsAre_of {h : Heap} : ∀ {xs : List Str} {its : List Value}, RdL W h (xs.map PyData.str) its → StrsAre its xs
  | [], its, r => by rw [List.map_nil, RdL.nil_iff] at r; subst r; exact .nil
  | x :: xs, its, r => by
    obtain ⟨v, r', rfl, a, b⟩ := RdL.cons_inv r
    obtain ⟨t, rfl⟩ := a.str_inv
    exact .cons x t (strsAre_of b)
theorem rdl_of_strs {h : Heap} : ∀ {xs : List Str} {its : List Value}, StrsAre its xs → RdL W h (xs.map PyData.str) its := by
  intro xs its p
  induction p with
  | nil => exact RdL.nil
  | cons y t _ ih => exact RdL.cons .str ih
theorem sortedAll_keeps (h : Heap) (vs : List Value) (out : Array Value) : (∀ b o, h.get? b = some o → (sortedAll h vs out).get? b = some o) ∧ ∃ n, (sortedAll h vs out).get? (h.objs.size + 1) = some (lO out.toList n) := by
  unfold sortedAll sortedHeap
  have s1 : (h.push (seqObj "list" #[] 0)).objs.size = h.objs.size + 1 := Heap.size_push ..
  have s2 : ((h.push (seqObj "list" #[] 0)).update h.objs.size (Obj.mapSeq (· ++ vs.toArray))).objs.size = h.objs.size + 1 := by rw [Heap.size_after_update, s1]
  have g2 : (((h.push (seqObj "list" #[] 0)).update h.objs.size (Obj.mapSeq (· ++ vs.toArray))).push (seqObj "list" vs.toArray 0)).get? (h.objs.size + 1) = some (seqObj "list" vs.toArray 0) := by
    have := Heap.get?_push_size ((h.push (seqObj "list" #[] 0)).update h.objs.size (Obj.mapSeq (· ++ vs.toArray))) (o := seqObj "list" vs.toArray 0) rfl
    rw [s2] at this; exact this
  have g3 := get?_update_seq g2 (fun _ => #[])
  have g4 := Heap.get?_push_of_some (seqObj "tuple" vs.toArray 0) g3
  have g5 := Heap.get?_push_of_some (seqObj "list" #[] 0) g4
  refine ⟨fun b o e => ?_, ?_⟩
  · have hb := Heap.lt_size e
    have b1 : b ≠ h.objs.size := Nat.ne_of_lt hb
    have b2 : b ≠ h.objs.size + 1 := Nat.ne_of_lt (Nat.lt_succ_of_lt hb)
    have e1 : (h.push (seqObj "list" #[] 0)).get? b = some o := Heap.get?_push_of_some _ e
    have e2 := (Heap.get?_update_ne (h.push (seqObj "list" #[] 0)) b h.objs.size (Obj.mapSeq (· ++ vs.toArray)) b1).trans e1
    have e3 := Heap.get?_push_of_some (seqObj "list" vs.toArray 0) e2
    have e4 := (Heap.get?_update_ne _ b (h.objs.size + 1) (Obj.mapSeq fun _ => #[]) b2).trans e3
    have e5 := Heap.get?_push_of_some (seqObj "tuple" vs.toArray 0) e4
    have e6 := Heap.get?_push_of_some (seqObj "list" #[] 0) e5
    exact (Heap.get?_update_ne _ b (h.objs.size + 1) (Obj.mapSeq fun _ => out) b2).trans e6
  · have g6 := get?_update_seq g5 (fun _ => out)
    have e : ∀ n, seqObj "list" out n = lO out.toList n := fun n => by simp only [lO, seqObj, Array.toArray_toList]
    rw [e] at g6
    exact ⟨_, g6⟩
theorem in_sorted : (("sorted" : Str), Value.builtin "sorted") ∈ gtable := .tail _ (.head _)
theorem En_sorted {np pos : Pos} {e : Expr} {xs ys : List Str} (he : El C σ e (xs.map .str)) (hk : C.env.kindOf "sorted" = some .globalImplicit) (hs : Star1 C e) (hz : xs.length < 64)
    (hy : ∀ zs : List Str, zs.Perm xs → sortedS zs = true → zs = ys) :
    En C σ (.Call (.Name "sorted" np) [e] [] pos) (ys.map .str) := fun W s Q E H k =>
  call1 H hk in_sorted (by decide +kernel) hs (he W s _ E H fun s₁ a its K₁ ha ra hF => by
    refine PyProof.Rows.sorted_strs ha (strsAre_of ra) (by rw [ra.length]; simpa using hz) fun out ss' h1 h2 h3 => ?_
    obtain ⟨k1, n, k2⟩ := sortedAll_keeps s₁.heap its out
    have e := hy ss' h2 h3
    subst e
    refine k _ _ out.toList n (K₁.trans (.of_keeps rfl rfl rfl k1)) (none_of_kept K₁ (Heap.get?_none_of_le (Nat.le_succ _))) k2 ?_
    exact rdl_of_strs h1)
end
end Mine
end
section
open PySem PySem.Spec PySem.Calls PyProof.Rows PySem.W PySem.Builtin PySem.Builtin.Str
namespace Mine
section
variable {C : Cx} {σ : Loc} {W : List Addr} {s : Shared} {Q : Value → Shared → Prop} {E : Value → Shared → Prop}
noncomputable def EvL (C : Cx) (σ : Loc) (pos : Pos) (es : List Expr) (ds : List PyData) : Prop :=
  ∀ (W : List Addr) (s : Shared) (Q : List Value → Shared → Prop) (E : Value → Shared → Prop), Has C σ W s.heap →
    (∀ s' vs, Kept C.F s s' → RdL W s'.heap ds vs → Q vs s') → wpAny (model C.prog C.w) C.A (spliced (backTo pos (starEach es C.env))) Q E s
theorem EvL_nil {pos : Pos} : EvL C σ pos [] [] := fun W s Q E H k => spliced_nil (k s [] (.refl _ _) RdL.nil)
theorem EvL_cons {pos : Pos} {e : Expr} {es : List Expr} {d : PyData} {ds : List PyData} (he : Ev C σ e d) (hr : EvL C σ pos es ds) (hs : starEach (e :: es) C.env = (false, eval e C.env) :: starEach es C.env) : EvL C σ pos (e :: es) (d :: ds) := fun W s Q E H k => by
  rw [hs]
  exact spliced_cons (he W s _ E H fun s₁ v K₁ r => hr W s₁ _ E (H.kept K₁) fun s₂ vs K₂ rs => k s₂ _ (K₁.trans K₂) (RdL.cons (K₂.rd H.sub r) rs))
theorem En_listd {es : List Expr} {pos : Pos} {ds : List PyData} (h : EvL C σ pos es ds) (hz : ds.length ≤ sizeLine) : En C σ (.List es pos) ds := fun W s Q E H k =>
  PyProof.Rows.List_ (h W s _ E H fun s₁ vs K₁ rs => wpAny_newObj_type (by
    have := new_list (Q := Q) (n := 0) K₁ rs (o := lO vs 0) rfl k s₁.toks
    exact this) (by show vs.toArray.size ≤ sizeLine; rw [List.size_toArray, rs.length]; exact hz))
theorem Ev_tuple {es : List Expr} {pos : Pos} {n : Nat} {ds : List PyData} (h : EvL C σ pos es ds) (hz : ds.length ≤ sizeLine) : Ev C σ (.Tuple es n pos) (.tuple ds) := fun W s Q E H k =>
  PyProof.Rows.Tuple_ (h W s _ E H fun s₁ vs K₁ rs => wpAny_newObj_type (by
    refine k _ _ (K₁.trans .push') (Rd.tuple (its := vs) (n := 0) ((H.kept K₁).not_new) (Heap.get?_push_size _ rfl) ?_)
    exact RdL.mono (fun b o nb e => ⟨nb, Heap.get?_push_of_some _ e⟩) _ _ rs) (by show vs.toArray.size ≤ sizeLine; rw [List.size_toArray, rs.length]; exact hz))
noncomputable abbrev MBase (C : Cx) (o : Expr) (name : Str) : Prop := attributeBase o name C.env (eval o C.env) = eval o C.env
theorem Ev_count {o e : Expr} {apos pos : Pos} {x y : Str} (ho : Ev C σ o (.str x)) (he : Ev C σ e (.str y)) (hb : MBase C o "count") (hs : Star1 C e) (hl : (apos.endLine == pos.line) = true) :
    Ev C σ (.Call (.Attribute o "count" apos) [e] [] pos) (.int (Txt.count x y)) := fun W s Q E H k =>
  Call_method1 hb hs hl (ho W s _ E H fun s₁ v K₁ r => by
    obtain ⟨t, rfl⟩ := r.str_inv
    exact SB.count (he W s₁ _ E (H.kept K₁) fun s₂ v2 K₂ r2 => by
      obtain ⟨u, rfl⟩ := r2.str_inv
      exact ⟨y, u, rfl, k _ _ ((K₁.trans K₂).trans .tok) .int⟩))
theorem strValues_rdl {h : Heap} : ∀ (l : List (Str × Tok)), RdL W h ((l.map (·.1)).map PyData.str) (strValues l)
  | [] => RdL.nil
  | p :: l => RdL.cons .str (strValues_rdl l)
theorem El_split {o e : Expr} {apos pos : Pos} {x y : Str} (ho : Ev C σ o (.str x)) (he : Ev C σ e (.str y)) (hb : MBase C o "split") (hs : Star1 C e) (hl : (apos.endLine == pos.line) = true) (hy : (y.length == 0) = false)
    (hx : x.length ≤ sizeLine) (hp : (partsBetween x (occurrences x y 0 x.length (x.length + 1)) y.length).length ≤ sizeLine) :
    El C σ (.Call (.Attribute o "split" apos) [e] [] pos) ((Txt.split x y).map .str) := fun W s Q E H k =>
  Call_method1 hb hs hl (ho W s _ E H fun s₁ v K₁ r => by
    obtain ⟨t, rfl⟩ := r.str_inv
    refine SBG.split1 (Fm := fun s' => Kept C.F s s') (fun s' ob tk K => K.trans .push) (he W s₁ _ E (H.kept K₁) fun s₂ v2 K₂ r2 => ?_) hx
    obtain ⟨u, rfl⟩ := r2.str_inv
    refine ⟨y, u, rfl, hy, K₁.trans K₂, hp, fun D l s' e K hD => ?_⟩
    rw [← e] at k
    exact k s' D (strValues l) K hD (strValues_rdl l) ((H.kept K).list_off hD))
theorem rdl_strValues {h : Heap} : ∀ {xs : List Str} {its : List Value}, RdL W h (xs.map PyData.str) its → ∃ l : List (Str × Tok), its = strValues l ∧ l.map (·.1) = xs
  | [], its, r => by rw [List.map_nil, RdL.nil_iff] at r; exact ⟨[], r, rfl⟩
  | x :: xs, its, r => by
    obtain ⟨v, r', rfl, a, b⟩ := RdL.cons_inv r
    obtain ⟨t, rfl⟩ := a.str_inv
    obtain ⟨l, rfl, rfl⟩ := rdl_strValues b
    exact ⟨(x, t) :: l, rfl, rfl⟩
theorem Ev_join {o e : Expr} {apos pos : Pos} {x : Str} {xs : List Str} (ho : Ev C σ o (.str x)) (he : El C σ e (xs.map .str)) (hb : MBase C o "join") (hs : Star1 C e) (hl : (apos.endLine == pos.line) = true) (hok : JoinOk x xs = true) :
    Ev C σ (.Call (.Attribute o "join" apos) [e] [] pos) (.str (Txt.join x xs)) := fun W s Q E H k =>
  Call_method1 hb hs hl (ho W s _ E H fun s₁ v K₁ r => by
    obtain ⟨t, rfl⟩ := r.str_inv
    refine SB.join (he W s₁ _ E (H.kept K₁) fun s₂ a its K₂ ha ra hF => ?_)
    obtain ⟨l, rfl, hm⟩ := rdl_strValues ra
    exact ⟨a, l, rfl, ha, xs, hm, hok, fun t' tk => k _ _ ((K₁.trans K₂).trans .tok) .str⟩)
noncomputable def strIs (x : Str) : Value → Bool
  | .str z _ => z == x
  | _ => false
theorem strIs_gives {x : Str} {u : Tok} {h : Heap} : ∀ {xs : List Str} {its : List Value}, RdL W h (xs.map PyData.str) its → ∀ y, y ∈ its.toArray → MeetsSeq.EqGives y (.str x u) (strIs x y) := by
  intro xs its r y hy
  have hy' : y ∈ its := by simpa using hy
  obtain ⟨i, hi⟩ := List.getElem?_of_mem hy'
  obtain ⟨d, hd, rd⟩ := r.get' hi
  rw [List.getElem?_map] at hd
  cases e : xs[i]? with
  | none => rw [e] at hd; cases hd
  | some z =>
    rw [e] at hd; cases hd
    obtain ⟨t, rfl⟩ := rd.str_inv
    exact PyProof.Rows.eqGives_str z x t u
theorem strIs_count {x : Str} {h : Heap} : ∀ {xs : List Str} {its : List Value}, RdL W h (xs.map PyData.str) its → its.countP (strIs x) = xs.count x
  | [], its, r => by rw [List.map_nil, RdL.nil_iff] at r; subst r; rfl
  | z :: xs, its, r => by
    obtain ⟨v, r', rfl, a, b⟩ := RdL.cons_inv r
    obtain ⟨t, rfl⟩ := a.str_inv
    rw [List.countP_cons, List.count_cons, strIs_count b]
    rfl
theorem Ev_lcount {o e : Expr} {apos pos : Pos} {x : Str} {xs : List Str} (ho : Ev C σ o (.list (xs.map .str))) (he : Ev C σ e (.str x)) (hb : MBase C o "count") (hs : Star1 C e) (hl : (apos.endLine == pos.line) = true) :
    Ev C σ (.Call (.Attribute o "count" apos) [e] [] pos) (.int (xs.count x : Nat)) := fun W s Q E H k =>
  Call_method1 hb hs hl (ho W s _ E H fun s₁ v K₁ r => by
    obtain ⟨a, its, n, rfl, hw, hob, hr⟩ := r.list_inv
    refine ⟨"list", "list.count", F.plainAttrs_list, F.slot_list_count, F.type_list_count, Heap.IsList.typeIs ⟨_, hob, rfl, n, rfl⟩, fun b e => by cases e; exact ⟨_, hob, rfl⟩, ?_⟩
    refine P.count_list (he W s₁ _ E (H.kept K₁) fun s₂ v2 K₂ r2 => ?_)
    obtain ⟨u, rfl⟩ := r2.str_inv
    have hr' := K₂.rdl H.sub hr
    refine ⟨its.toArray, n, strIs x, K₂.keep _ _ (fun m => hw (H.sub a m)) hob, strIs_gives hr', ?_⟩
    have : its.toArray.toList.countP (strIs x) = xs.count x := strIs_count hr'
    rw [this]
    exact k _ _ ((K₁.trans K₂).trans .tok) .int)
end
end Mine
end
section
open PySem PySem.Spec PySem.Calls PyProof.Rows PySem.W PySem.Builtin PySem.Builtin.Str
namespace Mine
noncomputable abbrev Own := List (Str × Addr)
noncomputable def Cx.M (C : Cx) : List Addr := C.F ++ (C.X ++ C.env.cells.map (·.2))
theorem Cx.cM {C : Cx} {x : Str} {c : Addr} (h : (x, c) ∈ C.env.cells) : c ∈ C.M := List.mem_append_right _ (List.mem_append_right _ (List.mem_map_of_mem (f := (·.2)) h))
theorem Cx.fM {C : Cx} {a : Addr} (h : a ∈ C.F) : a ∈ C.M := List.mem_append_left _ h
theorem Cx.xM {C : Cx} {a : Addr} (h : a ∈ C.X) : a ∈ C.M := List.mem_append_right _ (List.mem_append_left _ h)
noncomputable abbrev Cx.W (C : Cx) (α : Own) : List Addr := C.M ++ α.map (·.2)
structure St (C : Cx) (α : Own) (σ : Loc) (s : Shared) : Prop where
  has : Has C σ (C.W α) s.heap
  L : C.env.locals ∈ C.F
  ns : ∃ m, s.heap.Ns C.env.locals m
  cells : ∀ x c, C.env.cells.lookup x = some c → ∃ v, s.heap.IsCell c v
  apart : C.env.cells.Pairwise fun x y => x.2 ≠ y.2
  cF : ∀ x c, (x, c) ∈ C.env.cells → c ∉ C.F
  nodup : (α.map (·.2)).Nodup
  off : ∀ a ∈ α.map (·.2), a ∉ C.M
  own : ∀ x ds, (x, Slot.own ds) ∈ σ → ∃ a its n, α.lookup x = some a ∧ Loads C.env s.heap x (.ref a) ∧ s.heap.get? a = some (lO its n) ∧ RdL (C.W α) s.heap ds its
  pin : ∀ p ∈ C.K, p.1 ∉ C.W α ∧ s.heap.get? p.1 = some p.2
  lst : ∀ a ∈ α.map (·.2), ∃ o its n, s.heap.get? a = some o ∧ o.data = .seq its n
structure Stays (C : Cx) (W : List Addr) (s s' : Shared) : Prop where
  os : s'.os = s.os
  gens : s'.gens = s.gens
  keep : ∀ b o, b ∉ W → s.heap.get? b = some o → s'.heap.get? b = some o
  fr : ∀ b o, b ∈ C.F → b ≠ C.env.locals → s.heap.get? b = some o → ∃ sl, s'.heap.get? b = some { o with slots := sl }
  alive : ∀ b o, s.heap.get? b = some o → ∃ o', s'.heap.get? b = some o'
  ex : ∀ b o, b ∈ C.X → s.heap.get? b = some o → s'.heap.get? b = some o
noncomputable def New (α α' : Own) (s : Shared) : Prop := ∀ a ∈ α'.map (·.2), a ∈ α.map (·.2) ∨ s.heap.get? a = none
theorem New.refl (α : Own) (s : Shared) : New α α s := fun a ha => .inl ha
theorem none_of_stays {C : Cx} {W : List Addr} {s s' : Shared} (k : Stays C W s s') {a : Addr} (e : s'.heap.get? a = none) : s.heap.get? a = none := by
  cases q : s.heap.get? a with
  | none => rfl
  | some o => obtain ⟨o', z⟩ := k.alive a o q; rw [e] at z; cases z
theorem New.trans {C : Cx} {W : List Addr} {α α₁ α₂ : Own} {s s₁ : Shared} (a : New α α₁ s) (k : Stays C W s s₁) (b : New α₁ α₂ s₁) : New α α₂ s := fun x hx => by
  rcases b x hx with h | h
  · exact a x h
  · exact .inr (none_of_stays k h)
theorem Stays.refl {C : Cx} {W : List Addr} (s : Shared) : Stays C W s s := ⟨rfl, rfl, fun _ _ _ e => e, fun b o _ _ e => ⟨o.slots, e⟩, fun b o e => ⟨o, e⟩, fun _ _ _ e => e⟩
theorem Stays.trans {C : Cx} {α α₁ : Own} {s s₁ s₂ : Shared} (a : Stays C (C.W α) s s₁) (n : New α α₁ s) (b : Stays C (C.W α₁) s₁ s₂) : Stays C (C.W α) s s₂ :=
  ⟨b.os.trans a.os, b.gens.trans a.gens, fun c o h e => b.keep c o (fun m => by
      rcases List.mem_append.mp m with m | m
      · exact h (List.mem_append_left _ m)
      · rcases n c m with q | q
        · exact h (List.mem_append_right _ q)
        · rw [q] at e; cases e) (a.keep c o h e),
    fun c o hF hL e => by
      obtain ⟨sl, e1⟩ := a.fr c o hF hL e
      obtain ⟨sl', e2⟩ := b.fr c _ hF hL e1
      exact ⟨sl', e2⟩,
    fun c o e => by obtain ⟨o', e1⟩ := a.alive c o e; exact b.alive c o' e1, fun c o h e => b.ex c o h (a.ex c o h e)⟩
theorem Kept.stays {C : Cx} {W : List Addr} {s s' : Shared} (k : Kept C.F s s') (hF : ∀ a ∈ C.F, a ∈ W) : Stays C W s s' :=
  ⟨k.os, k.gens, fun b o h e => k.keep b o (fun m => h (hF b m)) e, fun b o _ _ e => k.slots b o e, fun b o e => by obtain ⟨sl, z⟩ := k.slots b o e; exact ⟨_, z⟩, fun b o h e => k.keep b o (C.xF b h) e⟩
noncomputable abbrev Exn := String × Bool
inductive Out where
  | next | brk | cont
  | ret (d : PyData)
  | retOwn (ds : List PyData)
  | exc (cls : Exn)
inductive FlowIs (C : Cx) (α : Own) (s : Shared) : Out → Flow → Prop
  | next : FlowIs C α s .next .next
  | brk : FlowIs C α s .brk .brk
  | cont : FlowIs C α s .cont .cont
  | ret {d : PyData} {v : Value} (r : Rd (C.W α) s.heap d v) : FlowIs C α s (.ret d) (.ret v)
  | retOwn {ds : List PyData} {a : Addr} {its : List Value} {n : Nat} (m : a ∈ α.map (·.2)) (o : s.heap.get? a = some (lO its n)) (r : RdL (C.W α) s.heap ds its) : FlowIs C α s (.retOwn ds) (.ret (.ref a))
structure Fly (C : Cx) (s : Shared) (e : Addr) (cls : Exn) (s' : Shared) : Prop where
  new : s.heap.get? e = none
  there : ∃ oe vs, s'.heap.get? e = some oe ∧ oe.cls = .type cls.1 ∧ oe.data = .fields vs ∧ (cls.2 = true → vs[2]? = some .none) ∧
    (vs[1]? = some .none ∨ ∃ T oT ts, vs[1]? = some (.ref T) ∧ T ≠ e ∧ s.heap.get? T = none ∧ s'.heap.get? T = some oT ∧ oT.data = .fields ts ∧ 3 < ts.size)
theorem SameStack.trans {A B D : Around} (x : SameStack A B) (y : SameStack B D) : SameStack A D := fun Γ h => by
  obtain ⟨Γ₁, h1, c1, b1⟩ := x Γ h
  obtain ⟨Γ₂, h2, c2, b2⟩ := y Γ₁ h1
  exact ⟨Γ₂, h2, c2.trans c1, b2.trans b1⟩
noncomputable def GoodE (M : Model) (A : Around) (env : Env) (E : Value → Shared → Prop) : Prop := ∀ A' A'' : Around, SameStack A' A → PassesOwnAt M A' A'' env E
theorem GoodE.never {M : Model} {A : Around} {env : Env} : GoodE M A env (fun _ _ => False) := fun _ _ _ => PassesOwnAt.never
theorem GoodE.looking {M : Model} {A : Around} {env : Env} {K : Value → Shared → Prop} {E₁ : Value → Shared → Prop} : GoodE M A env (fun e s' => wpAny M A (noteFrame e env) (fun _ s'' => K e s'') E₁ s') :=
  fun _ _ h => fun _ _ x => wpAny_look_again h x
theorem GoodE.mark {M : Model} {A : Around} {env : Env} {E : Value → Shared → Prop} (h : GoodE M A env E) (hd : Option Value) : GoodE M (A.mark hd) env E := fun A' A'' x => h A' A'' (Mine.SameStack.trans x (SameStack.mark A hd))
theorem GoodE.own {M : Model} {A : Around} {env : Env} {E : Value → Shared → Prop} (h : GoodE M A env E) : PassesOwn M A env E := h A A (SameStack.refl A)
noncomputable def ExT (C : Cx) (σ : Loc) (t : Sem Flow) (R : Out → Loc → Prop) : Prop :=
  ∀ (α : Own) (s : Shared) (Q : Flow → Shared → Prop) (E : Value → Shared → Prop), GoodE (model C.prog C.w) C.A C.env E → St C α σ s →
    (∀ fl f α' σ' s', R fl σ' → St C α' σ' s' → Stays C (C.W α) s s' → New α α' s → FlowIs C α' s' fl f → Q f s') →
    (∀ cls e α' σ' s', R (.exc cls) σ' → St C α' σ' s' → Stays C (C.W α) s s' → New α α' s → Fly C s e cls s' → E (.ref e) s') →
    wpAny (model C.prog C.w) C.A t Q E s
noncomputable abbrev Ex (C : Cx) (σ : Loc) (st : Stmt) (R : Out → Loc → Prop) : Prop := ExT C σ (exec st C.env) R
noncomputable abbrev Exs (C : Cx) (σ : Loc) (sts : List Stmt) (R : Out → Loc → Prop) : Prop := ExT C σ (execs sts C.env) R
theorem ExT.mono {C : Cx} {σ : Loc} {t : Sem Flow} {R R' : Out → Loc → Prop} (h : ExT C σ t R) (hR : ∀ fl σ', R fl σ' → R' fl σ') : ExT C σ t R' := fun α s Q E hE S k kE =>
  h α s Q E hE S (fun fl f α' σ' s' r => k fl f α' σ' s' (hR _ _ r)) (fun cls e α' σ' s' r => kE cls e α' σ' s' (hR _ _ r))
section
variable {C : Cx} {σ : Loc} {R : Out → Loc → Prop}
theorem W_F (α : Own) : ∀ a ∈ C.F, a ∈ C.W α := fun a h => List.mem_append_left _ (List.mem_append_left _ h)
theorem St.kept {α : Own} {s s' : Shared} (S : St C α σ s) (k : Kept C.F s s') : St C α σ s' where
  has := S.has.kept k
  L := S.L
  ns := let ⟨m, h⟩ := S.ns; ⟨m, k.ns h⟩
  cells := fun x c h => let ⟨v, e⟩ := S.cells x c h; ⟨v, k.cell e⟩
  apart := S.apart
  cF := S.cF
  nodup := S.nodup
  off := S.off
  own := fun x ds h => by
    obtain ⟨a, its, n, h1, h2, h3, h4⟩ := S.own x ds h
    exact ⟨a, its, n, h1, h2.kept k, k.keep _ _ (fun m => S.off a (List.mem_map_of_mem (f := (·.2)) (mem_of_lookup h1)) (List.mem_append_left _ m)) h3, k.rdl (W_F α) h4⟩
  pin := fun p hp => ⟨(S.pin p hp).1, k.keep _ _ (fun m => (S.pin p hp).1 (W_F α _ m)) (S.pin p hp).2⟩
  lst := fun a ha => let ⟨o, its, n, ho, hd⟩ := S.lst a ha; ⟨o, its, n, k.keep _ _ (fun m => S.off a ha (Cx.fM m)) ho, hd⟩
theorem Exs_nil (h : R .next σ) : Exs C σ [] R := fun α s Q E hE S k kE => wpAny_execs_nil (k .next _ α σ s h S (.refl _) (.refl _ _) .next)
theorem Fly.before {s s₁ s' : Shared} {e : Addr} {cls : Exn} {W : List Addr} (k : Stays C W s s₁) (f : Fly C s₁ e cls s') : Fly C s e cls s' := by
  obtain ⟨h1, oe, vs, a1, a2, a3, a4, a5⟩ := f
  refine ⟨none_of_stays k h1, oe, vs, a1, a2, a3, a4, ?_⟩
  rcases a5 with a5 | ⟨T, oT, ts, b1, b2, b3, b4⟩
  · exact .inl a5
  · exact .inr ⟨T, oT, ts, b1, b2, none_of_stays k b3, b4⟩
theorem Exs_cons {st : Stmt} {rest : List Stmt} {R₁ : Out → Loc → Prop} (h : Ex C σ st R₁) (hn : ∀ σ', R₁ .next σ' → Exs C σ' rest R) (ho : ∀ fl σ', fl ≠ .next → R₁ fl σ' → R fl σ') : Exs C σ (st :: rest) R := fun α s Q E hE S k kE =>
  wpAny_execs_cons (h α s _ E hE S (fun fl f α' σ' s' r S' y n F => by
    cases F with
    | next => exact hn σ' r α' s' Q E hE S' (fun fl f α'' σ'' s'' r' S'' y' n' F' => k fl f α'' σ'' s'' r' S'' (y.trans n y') (n.trans y n') F') (fun cls e α'' σ'' s'' r' S'' y' n' f' => kE cls e α'' σ'' s'' r' S'' (y.trans n y') (n.trans y n') (f'.before y))
    | brk => exact k _ _ _ _ _ (ho _ _ (by intro q; cases q) r) S' y n .brk
    | cont => exact k _ _ _ _ _ (ho _ _ (by intro q; cases q) r) S' y n .cont
    | ret rd => exact k _ _ _ _ _ (ho _ _ (by intro q; cases q) r) S' y n (.ret rd)
    | retOwn m o rd => exact k _ _ _ _ _ (ho _ _ (by intro q; cases q) r) S' y n (.retOwn m o rd))
    (fun cls e α' σ' s' r S' y n f => kE cls e α' σ' s' (ho _ _ (by intro q; cases q) r) S' y n f))
theorem Exs_step {st : Stmt} {rest : List Stmt} {σ₁ : Loc} (h : Ex C σ st fun fl σ' => fl = .next ∧ σ' = σ₁) (hn : Exs C σ₁ rest R) : Exs C σ (st :: rest) R :=
  Exs_cons h (fun σ' r => r.2 ▸ hn) (fun fl σ' q r => absurd r.1 q)
theorem Ex_if {test : Expr} {body orelse : List Stmt} {pos : Pos} {b : Bool} (ht : It C σ test b) (h1 : b = true → Exs C σ body R) (h2 : b = false → Exs C σ orelse R) : Ex C σ (.If test body orelse pos) R := fun α s Q E hE S k kE =>
  wpAny_If (ht (C.W α) s _ E S.has fun s₁ K => by
    have S₁ := S.kept K
    have y : Stays C (C.W α) s s₁ := K.stays (W_F α)
    have n : New α α s := .refl _ _
    cases b with
    | true => exact h1 rfl α s₁ Q E hE S₁ (fun fl f α'' σ'' s'' r' S'' y' n' F' => k fl f α'' σ'' s'' r' S'' (y.trans n y') (n.trans y n') F') (fun cls e α'' σ'' s'' r' S'' y' n' f' => kE cls e α'' σ'' s'' r' S'' (y.trans n y') (n.trans y n') (f'.before y))
    | false => exact h2 rfl α s₁ Q E hE S₁ (fun fl f α'' σ'' s'' r' S'' y' n' F' => k fl f α'' σ'' s'' r' S'' (y.trans n y') (n.trans y n') F') (fun cls e α'' σ'' s'' r' S'' y' n' f' => kE cls e α'' σ'' s'' r' S'' (y.trans n y') (n.trans y n') (f'.before y)))
theorem Ex_return {e : Expr} {pos : Pos} {d : PyData} (h : Ev C σ e d) (hr : R (.ret d) σ) : Ex C σ (.Return (some e) pos) R := fun α s Q E hE S k kE =>
  wpAny_Return_some (h (C.W α) s _ E S.has fun s₁ v K r => k _ _ α σ s₁ hr (S.kept K) (K.stays (W_F α)) (.refl _ _) (.ret r))
theorem Ex_break {pos : Pos} (hr : R .brk σ) : Ex C σ (.Break pos) R := fun α s Q E hE S k kE => by
  show wpAny _ _ (do standAt pos; pure Flow.brk : Sem Flow) _ _ _
  exact wpAny_bind (wpAny_standAt (wpAny_pure (k _ _ α σ s hr S (.refl _) (.refl _ _) .brk)))
theorem St.drop {α α' : Own} {σ' : Loc} {s : Shared} (S : St C α σ s) (hσ : ∀ p ∈ σ', p ∈ σ) (hα : α'.Sublist α) (hl : ∀ x ds, (x, Slot.own ds) ∈ σ' → ∀ a, α.lookup x = some a → α'.lookup x = some a) : St C α' σ' s := by
  have sub : ∀ a ∈ C.W α', a ∈ C.W α := fun a h => by
    rcases List.mem_append.mp h with h | h
    · exact List.mem_append_left _ h
    · exact List.mem_append_right _ ((hα.map (·.2)).subset h)
  have mono : ∀ ds its, RdL (C.W α) s.heap ds its → RdL (C.W α') s.heap ds its := fun ds its => RdL.mono (fun b o nb e => ⟨fun m => nb (sub b m), e⟩) ds its
  have own' : ∀ x ds, (x, Slot.own ds) ∈ σ' → ∃ a its n, α'.lookup x = some a ∧ Loads C.env s.heap x (.ref a) ∧ s.heap.get? a = some (lO its n) ∧ RdL (C.W α') s.heap ds its := fun x ds h => by
    obtain ⟨a, its, n, h1, h2, h3, h4⟩ := S.own x ds (hσ _ h)
    exact ⟨a, its, n, hl x ds h a h1, h2, h3, mono _ _ h4⟩
  exact {
    has := { S.has with
      sub := W_F α'
      alive := fun a h => S.has.alive a (sub a h)
      low := fun a h => S.has.low a (sub a h)
      slot := fun x sl h => by
        cases sl with
        | val d =>
          obtain ⟨v, l, r⟩ := S.has.slot x _ (hσ _ h)
          exact ⟨v, l, Rd.mono (fun b o nb e => ⟨fun m => nb (sub b m), e⟩) d v r⟩
        | own ds =>
          obtain ⟨a, its, n, h1, h2, h3, h4⟩ := own' x ds h
          have hm := List.mem_map_of_mem (f := (·.2)) (mem_of_lookup h1)
          exact ⟨a, its, n, h2, List.mem_append_right _ hm, fun m => S.off a ((hα.map (·.2)).subset hm) (List.mem_append_left _ m), h3, h4⟩ }
    L := S.L
    ns := S.ns
    cells := S.cells
    apart := S.apart
    cF := S.cF
    nodup := S.nodup.sublist (hα.map (·.2))
    off := fun a h => S.off a ((hα.map (·.2)).subset h)
    own := own'
    pin := fun p hp => ⟨fun m => (S.pin p hp).1 (sub _ m), (S.pin p hp).2⟩
    lst := fun a ha => S.lst a ((hα.map (·.2)).subset ha) }
end
end Mine
end
section
open PySem PySem.Spec PySem.Calls PyProof.Rows PySem.W PySem.Builtin PySem.Builtin.Str
namespace Mine
noncomputable def NoKey (σ : Loc) (x : Str) : Prop := ∀ p ∈ σ, p.1 ≠ x
theorem NoKey.nil {x : Str} : NoKey [] x := fun p h => nomatch h
theorem NoKey.cons {x y : Str} {sl : Slot} {σ : Loc} (h : y ≠ x) (r : NoKey σ x) : NoKey ((y, sl) :: σ) x := fun p m => by
  rcases List.mem_cons.mp m with rfl | m
  · exact h
  · exact r p m
noncomputable def Upd (σ : Loc) (x : Str) (sl : Slot) (σ' : Loc) : Prop := ∀ p ∈ σ', p = (x, sl) ∨ (p ∈ σ ∧ p.1 ≠ x)
theorem Upd.nil {x : Str} {sl : Slot} : Upd [] x sl [(x, sl)] := fun p m => .inl (by simpa using m)
theorem Upd.here {x : Str} {s₀ sl : Slot} {σ : Loc} (h : NoKey σ x) : Upd ((x, s₀) :: σ) x sl ((x, sl) :: σ) := fun p m => by
  rcases List.mem_cons.mp m with rfl | m
  · exact .inl rfl
  · exact .inr ⟨.tail _ m, h p m⟩
theorem Upd.there {x y : Str} {s₀ sl : Slot} {σ σ' : Loc} (h : y ≠ x) (r : Upd σ x sl σ') : Upd ((y, s₀) :: σ) x sl ((y, s₀) :: σ') := fun p m => by
  rcases List.mem_cons.mp m with rfl | m
  · exact .inr ⟨.head _, h⟩
  · rcases r p m with q | q
    · exact .inl q
    · exact .inr ⟨.tail _ q.1, q.2⟩
theorem Ns_unique {h : Heap} {a : Addr} {m m' : Str → Option Value} (x : h.Ns a m) (y : h.Ns a m') : m = m' := by
  obtain ⟨o, es, ep, ho, hd, _, hf⟩ := x
  obtain ⟨o', es', ep', ho', hd', _, hf'⟩ := y
  rw [ho] at ho'; cases ho'
  rw [hd] at hd'; cases hd'
  funext n
  rw [← hf, ← hf']
section
variable {C : Cx} {σ : Loc} {R : Out → Loc → Prop} {Q : Unit → Shared → Prop} {E : Value → Shared → Prop}
inductive Place (C : Cx) (x : Str) : Prop
  | loc (h : C.env.kindOf x = some .local)
  | cell (c : Addr) (h : C.env.kindOf x = some .cell) (hc : C.env.cells.lookup x = some c)
theorem storeName_plain_kind {C : Cx} (h : C.env.scope.kind = .function) : (C.env.scope.kind == .class || (C.env.scope.kind == .module && C.env.locals != C.env.globals)) = false := by rw [h]; rfl
theorem St.changed {α α' : Own} {σ' : Loc} {s : Shared} {h' : Heap} {t : Nat} (S : St C α σ s) {a : Addr} (hs : Heap.SameBut a s.heap h') (ha : a ∈ C.M ∨ a ∈ α.map (·.2)) (haX : a ∉ C.X) (hal : a ∈ α.map (·.2) → ∃ o its n, h'.get? a = some o ∧ o.data = .seq its n) (hao : ∃ o, h'.get? a = some o)
    (hfr : a ∈ C.F → a = C.env.locals) (hns : ∃ m, h'.Ns C.env.locals m) (hcl : ∀ x c, C.env.cells.lookup x = some c → ∃ v, h'.IsCell c v)
    (hα : α' = α)
    (hslot : ∀ x d, (x, Slot.val d) ∈ σ' → ∃ v, Loads C.env h' x v ∧ Rd (C.W α) h' d v)
    (hown : ∀ x ds, (x, Slot.own ds) ∈ σ' → ∃ b its n, α.lookup x = some b ∧ Loads C.env h' x (.ref b) ∧ h'.get? b = some (lO its n) ∧ RdL (C.W α) h' ds its) :
    St C α' σ' { s with heap := h', toks := t } ∧ Stays C (C.W α) s { s with heap := h', toks := t } := by
  subst hα
  have haW : a ∈ C.W α' := by
    rcases ha with h | h
    · exact List.mem_append_left _ h
    · exact List.mem_append_right _ h
  have alive : ∀ b o, s.heap.get? b = some o → ∃ o', h'.get? b = some o' := fun b o e => by
    by_cases hb : b = a
    · subst hb; exact hao
    · exact ⟨o, (hs.2 b hb).trans e⟩
  have hHas : Has C σ' (C.W α') h' :=
    { S.has with
      alive := fun b hb => let ⟨o, ho⟩ := S.has.alive b hb; alive b o ho
      base := fun b o e => (hs.2 b (fun q => by rw [q, S.has.low a haW] at e; cases e)).trans (S.has.base b o e)
      frm := fun b hb => by
        by_cases hq : b = a
        · subst hq
          obtain ⟨m, o, es, ep, ho, hd, _⟩ := hns
          rw [← hfr hb] at ho
          exact ⟨o, es, ep, ho, hd⟩
        · obtain ⟨o, es, ep, ho, hd⟩ := S.has.frm b hb
          exact ⟨o, es, ep, (hs.2 b hq).trans ho, hd⟩
      slot := fun x sl hm => by
        cases sl with
        | val d => exact hslot x d hm
        | own ds =>
          obtain ⟨b, its, n, h1, h2, h3, h4⟩ := hown x ds hm
          have hm' := List.mem_map_of_mem (f := (·.2)) (mem_of_lookup h1)
          exact ⟨b, its, n, h2, List.mem_append_right _ hm', fun q => S.off b hm' (List.mem_append_left _ q), h3, h4⟩ }
  refine ⟨⟨hHas, S.L, hns, hcl, S.apart, S.cF, S.nodup, S.off, hown, fun p hp => ⟨(S.pin p hp).1, (hs.2 _ (fun q => (S.pin p hp).1 (by rw [q]; exact haW))).trans (S.pin p hp).2⟩, fun b hb => ?_⟩, ?_⟩
  · by_cases q : b = a
    · subst q; exact hal hb
    · obtain ⟨o, its, n, ho, hd⟩ := S.lst b hb
      exact ⟨o, its, n, (hs.2 b q).trans ho, hd⟩
  · exact ⟨rfl, rfl, fun b o hb e => (hs.2 b (fun q => hb (q ▸ haW))).trans e, fun b o hF hL e => ⟨o.slots, (hs.2 b (fun q => hL (q.trans (hfr (q ▸ hF))))).trans e⟩, alive, fun b o hX e => (hs.2 b (fun q => haX (q ▸ hX))).trans e⟩
theorem St.M_not_own {α : Own} {s : Shared} (S : St C α σ s) {x : Str} {b : Addr} (h : α.lookup x = some b) : b ∉ C.M := S.off b (List.mem_map_of_mem (f := (·.2)) (mem_of_lookup h))
noncomputable def SlotIs (C : Cx) (α : Own) (s : Shared) (x : Str) (v : Value) : Slot → Prop
  | .val d => Rd (C.W α) s.heap d v
  | .own ds => ∃ a its n, v = .ref a ∧ α.lookup x = some a ∧ s.heap.get? a = some (lO its n) ∧ RdL (C.W α) s.heap ds its
theorem store_slot {α : Own} {s : Shared} {x : Str} {v : Value} {sl : Slot} {σ' : Loc} (S : St C α σ s) (hp : Place C x) (r : SlotIs C α s x v sl) (u : Upd σ x sl σ')
    (k : ∀ s', St C α σ' s' → Stays C (C.W α) s s' → 1 ≤ s'.toks ∨ C.env.kindOf x = some .cell → Q () s') : wpAny (model C.prog C.w) C.A (storeName C.env x v) Q E s := by
  have rdk : ∀ {a : Addr} {h' : Heap}, a ∈ C.M → Heap.SameBut a s.heap h' → ∀ d v, Rd (C.W α) s.heap d v → Rd (C.W α) h' d v := fun ha hs d v => Rd.mono (fun b o nb e => ⟨nb, (hs.2 b (fun q => nb (q ▸ List.mem_append_left _ ha))).trans e⟩) d v
  have rdlk : ∀ {a : Addr} {h' : Heap}, a ∈ C.M → Heap.SameBut a s.heap h' → ∀ d v, RdL (C.W α) s.heap d v → RdL (C.W α) h' d v := fun ha hs d v => RdL.mono (fun b o nb e => ⟨nb, (hs.2 b (fun q => nb (q ▸ List.mem_append_left _ ha))).trans e⟩) d v
  cases hp with
  | loc hl =>
    obtain ⟨m, hn⟩ := S.ns
    refine wpAny_storeName_local hl hn (fun h' hn' hs => ?_) (storeName_plain_kind S.has.fun_)
    have hLM : C.env.locals ∈ C.M := List.mem_append_left _ S.L
    have ldk : ∀ y v, y ≠ x → Loads C.env s.heap y v → Loads C.env h' y v := fun y v hy l => by
      rcases l with ⟨a, m', b, c⟩ | ⟨a, c, b, e⟩
      · have := Ns_unique hn b; subst this
        exact .inl ⟨a, _, hn', by simp [hy, c]⟩
      · exact .inr ⟨a, c, b, e.sameBut hs (fun q => S.cF _ _ (mem_of_lookup b) (q ▸ S.L))⟩
    have := S.changed (σ' := σ') (t := s.toks + 1) hs (.inl hLM) (fun q => C.xF _ q S.L) (fun q => absurd hLM (S.off _ q)) (let ⟨o, es, ep, ho, _⟩ := hn'; ⟨o, ho⟩) (fun _ => rfl) ⟨_, hn'⟩
      (fun y c hc => let ⟨v, hv⟩ := S.cells y c hc; ⟨v, hv.sameBut hs (fun q => S.cF _ _ (mem_of_lookup hc) (q ▸ S.L))⟩) rfl
      (fun y d' hm => by
        rcases u _ hm with q | q
        · cases q
          exact ⟨v, .inl ⟨hl, _, hn', by simp⟩, rdk hLM hs _ _ r⟩
        · obtain ⟨v', l, r'⟩ := S.has.slot y _ q.1
          exact ⟨v', ldk y v' q.2 l, rdk hLM hs _ _ r'⟩)
      (fun y ds hm => by
        rcases u _ hm with q | q
        · cases q
          obtain ⟨b, its, n, rfl, h1, h3, h4⟩ := r
          exact ⟨b, its, n, h1, .inl ⟨hl, _, hn', by simp⟩, (hs.2 b (fun e => S.M_not_own h1 (e ▸ hLM))).trans h3, rdlk hLM hs _ _ h4⟩
        · obtain ⟨b, its, n, h1, h2, h3, h4⟩ := S.own y ds q.1
          exact ⟨b, its, n, h1, ldk y _ q.2 h2, (hs.2 b (fun e => S.M_not_own h1 (e ▸ hLM))).trans h3, rdlk hLM hs _ _ h4⟩)
    exact k _ this.1 this.2 (.inl (by show 1 ≤ s.toks + 1; walk_at "mine:om"))
  | cell c hl hc =>
    obtain ⟨v₀, hv⟩ := S.cells x c hc
    refine wpAny_storeName_cell S.has.fun_ hl hc hv fun h' hv' hs => ?_
    have hcM : c ∈ C.M := Cx.cM (mem_of_lookup hc)
    have hLc : C.env.locals ≠ c := fun q => S.cF _ _ (mem_of_lookup hc) (q ▸ S.L)
    obtain ⟨m, hn⟩ := S.ns
    have hn' : h'.Ns C.env.locals m := hn.sameBut hs hLc
    have ldk : ∀ y v, y ≠ x → Loads C.env s.heap y v → Loads C.env h' y v := fun y v hy l => by
      rcases l with ⟨a, m', b, e⟩ | ⟨a, c', b, e⟩
      · exact .inl ⟨a, m', b.sameBut hs hLc, e⟩
      · exact .inr ⟨a, c', b, e.sameBut hs (fun q => hy (name_of_addr S.apart (mem_of_lookup b) (q ▸ mem_of_lookup hc)))⟩
    have := S.changed (σ' := σ') (t := s.toks) hs (.inl hcM) (C.xC _ (mem_of_lookup hc)) (fun q => absurd hcM (S.off _ q)) (let ⟨o, ho, _⟩ := hv'; ⟨o, ho⟩) (fun hF => absurd hF (S.cF _ _ (mem_of_lookup hc))) ⟨_, hn'⟩
      (fun y c' hc' => by
        obtain ⟨v, hv2⟩ := S.cells y c' hc'
        by_cases q : c' = c
        · subst q; exact ⟨_, hv'⟩
        · exact ⟨v, hv2.sameBut hs q⟩) rfl
      (fun y d' hm => by
        rcases u _ hm with q | q
        · cases q
          exact ⟨v, .inr ⟨.inl hl, c, hc, hv'⟩, rdk hcM hs _ _ r⟩
        · obtain ⟨v', l, r'⟩ := S.has.slot y _ q.1
          exact ⟨v', ldk y v' q.2 l, rdk hcM hs _ _ r'⟩)
      (fun y ds hm => by
        rcases u _ hm with q | q
        · cases q
          obtain ⟨b, its, n, rfl, h1, h3, h4⟩ := r
          exact ⟨b, its, n, h1, .inr ⟨.inl hl, c, hc, hv'⟩, (hs.2 b (fun e => S.M_not_own h1 (e ▸ hcM))).trans h3, rdlk hcM hs _ _ h4⟩
        · obtain ⟨b, its, n, h1, h2, h3, h4⟩ := S.own y ds q.1
          exact ⟨b, its, n, h1, ldk y _ q.2 h2, (hs.2 b (fun e => S.M_not_own h1 (e ▸ hcM))).trans h3, rdlk hcM hs _ _ h4⟩)
    exact k _ this.1 this.2 (.inr hl)
end
end Mine
end
section
open PySem PySem.Spec PySem.Calls PyProof.Rows PySem.W PySem.Builtin PySem.Builtin.Str
namespace Mine
section
variable {C : Cx} {σ : Loc} {R : Out → Loc → Prop} {Q : Unit → Shared → Prop} {E : Value → Shared → Prop}
noncomputable abbrev NoSwap (C : Cx) (value : Expr) (x : Str) (px pos : Pos) : Prop := swapsWith value (some (.Name x px)) pos.line C.env = pure false
theorem Ex_assign {x : Str} {px pos : Pos} {value : Expr} {d : PyData} {σ' : Loc} (h : Ev C σ value d) (hp : Place C x) (u : Upd σ x (.val d) σ') (hs : NoSwap C value x px pos) (hR : R .next σ') :
    Ex C σ (.Assign [.Name x px] value pos) R := fun α s Q E hE S k kE =>
  wpAny_Assign_Name (h (C.W α) s _ E S.has fun s₁ v K r => store_slot (sl := .val d) (S.kept K) hp r u fun s₂ S₂ y _ =>
    k _ _ α σ' s₂ hR S₂ ((K.stays (W_F α)).trans (.refl _ _) y) (.refl _ _) .next) hs
theorem St.grow {α : Own} {s s₁ : Shared} {x : Str} {a : Addr} {its : List Value} {n : Nat} (S : St C α σ s) (K : Kept C.F s s₁) (h0 : s.heap.get? a = none) (h1 : s₁.heap.get? a = some (lO its n))
    (hx : ∀ y ds, (y, Slot.own ds) ∈ σ → y ≠ x) : St C ((x, a) :: α) σ s₁ ∧ New α ((x, a) :: α) s ∧ a ∉ C.W α := by
  have haW : a ∉ C.W α := S.has.of_none h0
  have mem : ∀ b, b ∈ C.W ((x, a) :: α) ↔ b = a ∨ b ∈ C.W α := fun b => by
    simp only [Cx.W, List.map_cons, List.mem_append, List.mem_cons]
    constructor
    · rintro (q | q | q)
      · exact .inr (.inl q)
      · exact .inl q
      · exact .inr (.inr q)
    · rintro (q | q | q)
      · exact .inr (.inl q)
      · exact .inl q
      · exact .inr (.inr q)
  have nm : ∀ b o, b ∉ C.W α → s.heap.get? b = some o → b ∉ C.W ((x, a) :: α) ∧ s₁.heap.get? b = some o := fun b o hb e =>
    ⟨fun m => by rcases (mem b).mp m with q | q; (· rw [q, h0] at e; cases e); exact hb q, K.keep b o (fun m => hb (W_F α b m)) e⟩
  have S₁ := S.kept K
  have own' : ∀ y ds, (y, Slot.own ds) ∈ σ → ∃ b jts n, ((x, a) :: α).lookup y = some b ∧ Loads C.env s₁.heap y (.ref b) ∧ s₁.heap.get? b = some (lO jts n) ∧ RdL (C.W ((x, a) :: α)) s₁.heap ds jts := fun y ds hm => by
    obtain ⟨b, jts, n, q1, q2, q3, q4⟩ := S.own y ds hm
    have hyx := hx y ds hm
    exact ⟨b, jts, n, by rw [List.lookup_cons, show (y == x) = false from by simpa using hyx]; exact q1, q2.kept K, K.keep _ _ (fun m => S.M_not_own q1 (List.mem_append_left _ m)) q3, RdL.mono nm _ _ q4⟩
  have hHas : Has C σ (C.W ((x, a) :: α)) s₁.heap :=
    { S₁.has with
      sub := W_F _
      alive := fun b hb => by rcases (mem b).mp hb with q | q; (· subst q; exact ⟨_, h1⟩); exact S₁.has.alive b q
      low := fun b hb => by
        rcases (mem b).mp hb with q | q
        · subst q
          cases z : C.B.get? b with
          | none => rfl
          | some o => have := S.has.base b o z; rw [h0] at this; cases this
        · exact S₁.has.low b q
      slot := fun y sl hm => by
        cases sl with
        | val d => obtain ⟨v, l, r⟩ := S.has.slot y _ hm; exact ⟨v, l.kept K, Rd.mono nm _ _ r⟩
        | own ds =>
          obtain ⟨b, jts, n, q1, q2, q3, q4⟩ := own' y ds hm
          obtain ⟨b', _, _, q1', _⟩ := S.own y ds hm
          have hyx := hx y ds hm
          have e : b = b' := by
            rw [List.lookup_cons, show (y == x) = false from by simpa using hyx] at q1
            exact Option.some.inj (q1.symm.trans q1')
          subst e
          exact ⟨b, jts, n, q2, (mem b).mpr (.inr (List.mem_append_right _ (List.mem_map_of_mem (f := (·.2)) (mem_of_lookup q1')))), fun m => S.M_not_own q1' (List.mem_append_left _ m), q3, q4⟩ }
  refine ⟨⟨hHas, S₁.L, S₁.ns, S₁.cells, S₁.apart, S₁.cF, ?_, ?_, own', fun p hp => ⟨fun m => ?_, (S₁.pin p hp).2⟩, fun b hb => ?_⟩, ?_, haW⟩
  · rw [List.map_cons, List.nodup_cons]
    exact ⟨fun m => haW (List.mem_append_right _ m), S.nodup⟩
  · intro b hb
    rw [List.map_cons, List.mem_cons] at hb
    rcases hb with q | q
    · subst q; exact fun m => haW (List.mem_append_left _ m)
    · exact S.off b q
  · rcases (mem _).mp m with q | q
    · have := (S.pin p hp).2; rw [q, h0] at this; cases this
    · exact (S.pin p hp).1 q
  · rw [List.map_cons, List.mem_cons] at hb
    rcases hb with q | q
    · subst q; exact ⟨_, _, _, h1, rfl⟩
    · exact S₁.lst b q
  · intro b hb
    rw [List.map_cons, List.mem_cons] at hb
    rcases hb with q | q
    · subst q; exact .inr h0
    · exact .inl q
theorem W_cons_mem {α : Own} {x : Str} {a : Addr} : ∀ b, b ∈ a :: C.W α ↔ b ∈ C.W ((x, a) :: α) := fun b => by
  simp only [Cx.W, List.map_cons, List.mem_append, List.mem_cons]
  constructor
  · rintro (q | q | q)
    · exact .inr (.inl q)
    · exact .inl q
    · exact .inr (.inr q)
  · rintro (q | q | q)
    · exact .inr (.inl q)
    · exact .inl q
    · exact .inr (.inr q)
theorem rdl_W {α : Own} {x : Str} {a : Addr} {h : Heap} {ds : List PyData} {its : List Value} (r : RdL (a :: C.W α) h ds its) : RdL (C.W ((x, a) :: α)) h ds its :=
  RdL.mono (fun b o nb e => ⟨fun m => nb ((W_cons_mem b).mpr m), e⟩) _ _ r
theorem Ex_assign_new {x : Str} {px pos : Pos} {value : Expr} {ds : List PyData} {σ' : Loc} (h : En C σ value ds) (hp : Place C x) (u : Upd σ x (.own ds) σ') (hx : ∀ y es, (y, Slot.own es) ∈ σ → y ≠ x) (hs : NoSwap C value x px pos) (hR : R .next σ') :
    Ex C σ (.Assign [.Name x px] value pos) R := fun α s Q E hE S k kE =>
  wpAny_Assign_Name (h (C.W α) s _ E S.has fun s₁ a its n K h0 h1 r => by
    obtain ⟨S₁, nw, haW⟩ := S.grow (x := x) K h0 h1 hx
    refine store_slot S₁ hp (sl := .own ds) ⟨a, its, n, rfl, by simp, h1, rdl_W r⟩ u fun s₂ S₂ y _ => k _ _ _ σ' s₂ hR S₂ ?_ nw .next
    exact (K.stays (W_F α)).trans nw y) hs
theorem lookup_filter_ne {x y : Str} (hy : y ≠ x) : ∀ α : Own, (α.filter (fun p => !(p.1 == x))).lookup y = α.lookup y
  | [] => rfl
  | (z, a) :: α => by
    by_cases hz : z = x
    · subst hz
      rw [List.filter_cons_of_neg (by simp), lookup_filter_ne hy α, List.lookup_cons, show (y == z) = false from by simpa using hy]
    · rw [List.filter_cons_of_pos (by simpa using hz), List.lookup_cons, List.lookup_cons, lookup_filter_ne hy α]
theorem St.withVal {α : Own} {s : Shared} {x : Str} {d : PyData} {σ' : Loc} (S : St C α σ s) (hv : ∃ v, Loads C.env s.heap x v ∧ Rd (C.W α) s.heap d v) (u : ∀ p ∈ σ', p = (x, .val d) ∨ p ∈ σ) : St C α σ' s where
  has := { S.has with
    slot := fun y sl hm => by
      rcases u _ hm with q | q
      · cases q; exact hv
      · exact S.has.slot y sl q }
  L := S.L
  ns := S.ns
  cells := S.cells
  apart := S.apart
  cF := S.cF
  nodup := S.nodup
  off := S.off
  pin := S.pin
  lst := S.lst
  own := fun y ds hm => by
    rcases u _ hm with q | q
    · cases q
    · exact S.own y ds q
theorem own_inj : ∀ {α : Own}, (α.map (·.2)).Nodup → ∀ {p q : Str × Addr}, p ∈ α → q ∈ α → p.2 = q.2 → p = q
  | r :: α, nd, p, q, hp, hq, e => by
    rw [List.map_cons, List.nodup_cons] at nd
    rcases List.mem_cons.mp hp with h1 | h1
    · rcases List.mem_cons.mp hq with h2 | h2
      · rw [h1, h2]
      · exact absurd (by rw [← h1, e]; exact List.mem_map_of_mem (f := (·.2)) h2) nd.1
    · rcases List.mem_cons.mp hq with h2 | h2
      · exact absurd (by rw [← h2, ← e]; exact List.mem_map_of_mem (f := (·.2)) h1) nd.1
      · exact own_inj nd.2 h1 h2 e
theorem St.freeze {α : Own} {s : Shared} {x : Str} {ds : List PyData} {σ' : Loc} (S : St C α σ s) (hm : (x, Slot.own ds) ∈ σ) (u : Upd σ x (.val (.list ds)) σ') :
    ∃ α', St C α' σ' s ∧ New α α' s ∧ ∀ b ∈ C.W α', b ∈ C.W α := by
  have sl : (α.filter (fun p => !(p.1 == x))).Sublist α := List.filter_sublist
  have nw : New α (α.filter (fun p => !(p.1 == x))) s := fun a ha => .inl ((sl.map (·.2)).subset ha)
  have sub : ∀ b ∈ C.W (α.filter (fun p => !(p.1 == x))), b ∈ C.W α := fun b hb => by
    rcases List.mem_append.mp hb with h | h
    · exact List.mem_append_left _ h
    · exact List.mem_append_right _ ((sl.map (·.2)).subset h)
  obtain ⟨a, its, n, q1, q2, q3, q4⟩ := S.own x ds hm
  have S₁ : St C (α.filter (fun p => !(p.1 == x))) (σ.filter (fun p => !(p.1 == x))) s := S.drop (fun p hp => (List.mem_filter.mp hp).1) sl fun y es hy b hb => by
    have hyx : y ≠ x := by simpa using (List.mem_filter.mp hy).2
    rw [lookup_filter_ne hyx]; exact hb
  have ha : a ∉ C.W (α.filter (fun p => !(p.1 == x))) := fun m => by
    rcases List.mem_append.mp m with m | m
    · exact S.M_not_own q1 m
    · obtain ⟨p, hp, e⟩ := List.mem_map.mp m
      have hp' := List.mem_filter.mp hp
      have hne : p.1 ≠ x := by simpa using hp'.2
      have hxa := mem_of_lookup q1
      have := own_inj S.nodup hp'.1 hxa e
      exact hne (by rw [this])
  refine ⟨_, S₁.withVal (x := x) (d := .list ds) ⟨.ref a, q2, Rd.list ha q3 (RdL.mono (fun b o nb e => ⟨fun m => nb (sub b m), e⟩) _ _ q4)⟩ fun p hp => ?_, nw, sub⟩
  rcases u p hp with q | q
  · exact .inl q
  · exact .inr (List.mem_filter.mpr ⟨q.1, by simpa using q.2⟩)
theorem Exs_freeze {x : Str} {ds : List PyData} {σ₁ : Loc} {sts : List Stmt} (hm : (x, Slot.own ds) ∈ σ) (u : Upd σ x (.val (.list ds)) σ₁) (h : Exs C σ₁ sts R) : Exs C σ sts R := fun α s Q E hE S k kE => by
  obtain ⟨α', S', nw, sub⟩ := S.freeze hm u
  have y : Stays C (C.W α) s s := .refl _
  have up : ∀ {s' : Shared}, Stays C (C.W α') s s' → Stays C (C.W α) s s' := fun z => y.trans nw z
  exact h α' s Q E hE S' (fun fl f α'' σ'' s'' r S'' y' n' F => k fl f α'' σ'' s'' r S'' (up y') (nw.trans y n') F) (fun cls e α'' σ'' s'' r S'' y' n' f => kE cls e α'' σ'' s'' r S'' (up y') (nw.trans y n') f)
theorem Exs_drop {σ₁ : Loc} {sts : List Stmt} (hσ : ∀ p ∈ σ₁, p ∈ σ) (h : Exs C σ₁ sts R) : Exs C σ sts R := fun α s Q E hE S k kE =>
  h α s Q E hE (S.drop hσ (.refl _) fun _ _ _ _ q => q) k kE
theorem St.own_changed {α : Own} {s : Shared} {x : Str} {es : List PyData} {a : Addr} {jts : List Value} {n' : Nat} {h' : Heap} {t : Nat} {σ' : Loc} (S : St C α σ s) (ha : α.lookup x = some a) (hl : Loads C.env s.heap x (.ref a))
    (hs : Heap.SameBut a s.heap h') (hn : h'.get? a = some (lO jts n')) (hr : RdL (C.W α) s.heap es jts) (u : Upd σ x (.own es) σ') :
    St C α σ' { s with heap := h', toks := t } ∧ Stays C (C.W α) s { s with heap := h', toks := t } := by
  have haα := List.mem_map_of_mem (f := (·.2)) (mem_of_lookup ha)
  have haM : a ∉ C.M := S.off a haα
  have haL : C.env.locals ≠ a := fun q => haM (q ▸ List.mem_append_left _ S.L)
  have haC : ∀ y c, C.env.cells.lookup y = some c → c ≠ a := fun y c hc q => haM (q ▸ Cx.cM (mem_of_lookup hc))
  have hac : ∀ y c, C.env.cells.lookup y = some c → ∀ v, s.heap.IsCell c v → h'.IsCell c v := fun y c hc v hv => hv.sameBut hs (haC y c hc)
  have ldk : ∀ y v, Loads C.env s.heap y v → Loads C.env h' y v := fun y v l => by
    rcases l with ⟨b, m', c, d⟩ | ⟨b, c, d, e⟩
    · exact .inl ⟨b, m', c.sameBut hs haL, d⟩
    · exact .inr ⟨b, c, d, hac _ _ d _ e⟩
  have rdk : ∀ d v, Rd (C.W α) s.heap d v → Rd (C.W α) h' d v := fun d v => Rd.mono (fun b o nb e => ⟨nb, (hs.2 b (fun q => nb (q ▸ List.mem_append_right _ haα))).trans e⟩) d v
  have rdlk : ∀ d v, RdL (C.W α) s.heap d v → RdL (C.W α) h' d v := fun d v => RdL.mono (fun b o nb e => ⟨nb, (hs.2 b (fun q => nb (q ▸ List.mem_append_right _ haα))).trans e⟩) d v
  obtain ⟨m, hm⟩ := S.ns
  exact S.changed hs (.inr haα) (fun q => haM (Cx.xM q)) (fun _ => ⟨_, _, _, hn, rfl⟩) ⟨_, hn⟩ (fun hF => absurd (List.mem_append_left _ hF) haM) ⟨m, hm.sameBut hs haL⟩
    (fun y c hc => let ⟨v, hv⟩ := S.cells y c hc; ⟨v, hac y c hc v hv⟩) rfl
    (fun y d hm => by
      rcases u _ hm with q | q
      · cases q
      · obtain ⟨v, l, r⟩ := S.has.slot y _ q.1
        exact ⟨v, ldk y v l, rdk d v r⟩)
    (fun y fs hm => by
      rcases u _ hm with q | q
      · cases q
        exact ⟨a, jts, n', ha, ldk x _ hl, hn, rdlk _ _ hr⟩
      · obtain ⟨b, kts, n₂, h1, h2, h3, h4⟩ := S.own y fs q.1
        have hba : b ≠ a := fun e => by
          have := own_inj S.nodup (mem_of_lookup h1) (mem_of_lookup ha) e
          exact q.2 (by cases this; rfl)
        exact ⟨b, kts, n₂, h1, ldk y _ h2, (hs.2 b hba).trans h3, rdlk _ _ h4⟩)
end
end Mine
end
section
open PySem PySem.Spec PySem.Calls PyProof.Rows PySem.W PySem.Builtin PySem.Builtin.Str
namespace Mine
section
variable {C : Cx} {σ : Loc} {R : Out → Loc → Prop}
theorem load_name {s : Shared} {Q : Value → Shared → Prop} {E : Value → Shared → Prop} {x : Str} {v : Value} {pos : Pos} (hf : C.env.scope.kind = .function) (l : Loads C.env s.heap x v) (hd : (x == ("__debug__" : Str)) = false) (k : Q v s) :
    wpAny (model C.prog C.w) C.A (eval (.Name x pos) C.env) Q E s := by
  refine wpAny_Name ?_ hd
  rcases l with ⟨a, m, b, c⟩ | ⟨a | a, c, b, e⟩
  · exact wpAny_loadName_local hf a b c k
  · exact wpAny_loadName_cell hf a b e k
  · exact wpAny_loadName_free hf a.1 b e k a.2
theorem load_raw {s : Shared} {Q : Value → Shared → Prop} {E : Value → Shared → Prop} {x : Str} {v : Value} (hf : C.env.scope.kind = .function) (l : Loads C.env s.heap x v) (k : Q v s) :
    wpAny (model C.prog C.w) C.A (loadName C.env x) Q E s := by
  rcases l with ⟨a, m, b, c⟩ | ⟨a | a, c, b, e⟩
  · exact wpAny_loadName_local hf a b c k
  · exact wpAny_loadName_cell hf a b e k
  · exact wpAny_loadName_free hf a.1 b e k a.2
theorem list_update {h : Heap} {a : Addr} {its jts : List Value} {n : Nat} {f : Array Value → Array Value} (ho : h.get? a = some (lO its n)) (e : f its.toArray = jts.toArray) :
    Heap.SameBut a h (h.update a (Obj.mapSeq f)) ∧ ∃ n', (h.update a (Obj.mapSeq f)).get? a = some (lO jts n') := by
  refine ⟨.update .., ?_⟩
  have := IsL.update (l := a) ho f
  rw [e] at this
  exact ⟨_, this⟩
theorem on_list {s : Shared} {Q : Value → Shared → Prop} {E : Value → Shared → Prop} {a : Addr} {its : List Value} {n : Nat} {name : Str} {id : String} {pos : Pos} {args : List (Bool × Sem Value)} (ho : s.heap.get? a = some (lO its n))
    (h1 : PySem.Slot "list" name id) (h2 : typeOf (.builtin id) = pure (.type "method_descriptor")) (h : wpAny (model C.prog C.w) C.A (callWith pos (.builtin id) [.ref a] args []) Q E s) :
    MethodOnS C.prog C.w C.A E name (.ref a) pos args Q s :=
  ⟨"list", id, F.plainAttrs_list, h1, h2, Heap.IsList.typeIs ⟨_, ho, rfl, n, rfl⟩, fun b e => by cases e; exact ⟨_, ho, rfl⟩, h⟩
theorem quiet_env {C : Cx} (h : C.env.scope.kind = .function) : interactive C.env = false := by unfold interactive; rw [h]; rfl
noncomputable abbrev NoSwapE (C : Cx) (e : Expr) (pos : Pos) : Prop := swapsWith e none pos.line C.env = pure false
theorem Ex_append {x : Str} {px ap p1 pos : Pos} {e : Expr} {ds : List PyData} {d : PyData} {σ' : Loc} (hm : (x, Slot.own ds) ∈ σ) (he : Ev C σ e d) (u : Upd σ x (.own (ds ++ [d])) σ') (hR : R .next σ') (hz : ds.length ≤ sizeLine)
    (hb : MBase C (.Name x px) "append") (hs : Star1 C e) (hl : (ap.endLine == p1.line) = true) (hd : (x == ("__debug__" : Str)) = false) (hsw : NoSwapE C (.Call (.Attribute (.Name x px) "append" ap) [e] [] p1) pos) :
    Ex C σ (.Expr (.Call (.Attribute (.Name x px) "append" ap) [e] [] p1) pos) R := fun α s Q E hE S k kE => by
  obtain ⟨a, its, n, h1, h2, h3, h4⟩ := S.own x ds hm
  refine wpAny_Expr_any ?_ (quiet_env S.has.fun_) hsw
  refine Call_method1 hb hs hl (load_name S.has.fun_ h2 hd (on_list h3 F.slot_list_append F.type_list_append (P.append_list (he (C.W α) s _ E S.has fun s₁ v K r => ?_))))
  have S₁ := S.kept K
  have h3' := K.keep _ _ (fun m => S.M_not_own h1 (List.mem_append_left _ m)) h3
  obtain ⟨q1, n', q2⟩ := list_update (f := fun xs => xs.push v) (jts := its ++ [v]) h3' (by simp)
  obtain ⟨S₂, y⟩ := S₁.own_changed (t := s₁.toks) h1 (h2.kept K) q1 q2 ((K.rdl (W_F α) h4).append (RdL.one r)) u
  exact ⟨its.toArray, n, by simpa [h4.length] using hz, h3', k _ _ α σ' _ hR S₂ ((K.stays (W_F α)).trans (.refl _ _) y) (.refl _ _) .next⟩
theorem Ex_extend {x : Str} {px ap p1 pos : Pos} {e : Expr} {ds es : List PyData} {σ' : Loc} (hm : (x, Slot.own ds) ∈ σ) (he : Ev C σ e (.list es)) (u : Upd σ x (.own (ds ++ es)) σ') (hR : R .next σ') (hz : ds.length + es.length ≤ 1000000)
    (hb : MBase C (.Name x px) "extend") (hs : Star1 C e) (hl : (ap.endLine == p1.line) = true) (hd : (x == ("__debug__" : Str)) = false) (hsw : NoSwapE C (.Call (.Attribute (.Name x px) "extend" ap) [e] [] p1) pos) :
    Ex C σ (.Expr (.Call (.Attribute (.Name x px) "extend" ap) [e] [] p1) pos) R := fun α s Q E hE S k kE => by
  obtain ⟨a, its, n, h1, h2, h3, h4⟩ := S.own x ds hm
  refine wpAny_Expr_any ?_ (quiet_env S.has.fun_) hsw
  refine Call_method1 hb hs hl (load_name S.has.fun_ h2 hd (on_list h3 F.slot_list_extend F.type_list_extend (P.extend_list (he (C.W α) s _ E S.has fun s₁ v K r => ?_))))
  obtain ⟨b, jts, n₂, rfl, _, hob, hr⟩ := r.list_inv
  have S₁ := S.kept K
  have h3' := K.keep _ _ (fun m => S.M_not_own h1 (List.mem_append_left _ m)) h3
  obtain ⟨q1, n', q2⟩ := list_update (f := fun xs => xs ++ jts.toArray) (jts := its ++ jts) h3' (by simp)
  obtain ⟨S₂, y⟩ := S₁.own_changed (t := s₁.toks) h1 (h2.kept K) q1 q2 ((K.rdl (W_F α) h4).append hr) u
  have e1 := h4.length
  have e2 := hr.length
  have hsl : sizeLine = 16777216 := by decide
  refine ⟨b, its.toArray, jts.toArray, n, n₂, by simp [hsl]; walk_at "mine:om", by simp [hsl]; walk_at "mine:om", ?_, rfl, h3', hob, k _ _ α σ' _ hR S₂ ((K.stays (W_F α)).trans (.refl _ _) y) (.refl _ _) .next⟩
  simp only [Bool.and_eq_true, not_and]
  intro _
  have : its.length + jts.length ≤ 1000000 := by walk_at "mine:om"
  simp [Builtin.List.listTooLong, sizeLine]
  walk_at "mine:om"
theorem Ex_pop {x y : Str} {px ap p1 py pos : Pos} {ds : List PyData} {d : PyData} {σ₁ σ' : Loc} (hm : (x, Slot.own (ds ++ [d])) ∈ σ) (hp : Place C y) (u : Upd σ x (.own ds) σ₁) (u' : Upd σ₁ y (.val d) σ') (hR : R .next σ') (hz : ds.length < sizeLine)
    (hb : MBase C (.Name x px) "pop") (hl : (ap.endLine == p1.line) = true) (hd : (x == ("__debug__" : Str)) = false) (hs : NoSwap C (.Call (.Attribute (.Name x px) "pop" ap) [] [] p1) y py pos) :
    Ex C σ (.Assign [.Name y py] (.Call (.Attribute (.Name x px) "pop" ap) [] [] p1) pos) R := fun α s Q E hE S k kE => by
  obtain ⟨a, its, n, h1, h2, h3, h4⟩ := S.own x _ hm
  have hlen := h4.length
  have hlast : (ds ++ [d])[ds.length]? = some d := by simp
  obtain ⟨v, hv, rv⟩ := h4.get hlast
  refine wpAny_Assign_Name ?_ hs
  refine Call_method0 hb hl (load_name S.has.fun_ h2 hd (on_list h3 F.slot_list_pop F.type_list_pop (P.pop_list (y := v) h3 ?_ ?_ ?_)))
  · have : its.toArray.size - 1 = ds.length := by simp at hlen ⊢; walk_at "mine:om"
    rw [this]; simpa using hv
  · have e : its = its.take ds.length ++ [v] := by
      have h5 : its.length = ds.length + 1 := by simpa using hlen
      have h6 := List.take_append_drop ds.length its
      have h7 : its.drop ds.length = [v] := by
        have : ds.length < its.length := by walk_at "mine:om"
        rw [List.drop_eq_getElem_cons this]
        have hv' : its[ds.length] = v := by rw [List.getElem?_eq_getElem this] at hv; exact Option.some.inj hv
        rw [hv', List.drop_eq_nil_of_le (by walk_at "mine:om")]
      rw [h7] at h6; exact h6.symm
    obtain ⟨q1, n', q2⟩ := list_update (f := fun xs => xs.eraseIdxIfInBounds (its.toArray.size - 1)) (jts := its.take ds.length) h3 (by
      have h5 : its.length = ds.length + 1 := by simpa using hlen
      have hi : its.toArray.size - 1 < its.toArray.size := by simp; walk_at "mine:om"
      rw [Array.eraseIdxIfInBounds, dif_pos hi]
      apply Array.toList_inj.mp
      simp only [Array.toList_eraseIdx, List.size_toArray]
      have : its.length - 1 = ds.length := by walk_at "mine:om"
      rw [this]
      conv => lhs; rw [e]
      rw [List.eraseIdx_append_of_length_le (by simp; walk_at "mine:om")]
      simp
      walk_at "mine:om")
    have hr : RdL (C.W α) s.heap ds (its.take ds.length) := by
      have := h4.take ds.length
      simpa using this
    obtain ⟨S₂, y'⟩ := S.own_changed (t := s.toks) h1 h2 q1 q2 hr u
    refine store_slot (sl := .val d) S₂ hp (Rd.mono (fun b o nb e => ⟨nb, y'.keep b o nb e⟩) _ _ rv) u' fun s₃ S₃ y'' _ => ?_
    exact k _ _ α σ' s₃ hR S₃ (y'.trans (.refl _ _) y'') (.refl _ _) .next
  · simp at hlen ⊢; walk_at "mine:om"
end
end Mine
end
section
open PySem PySem.Spec PySem.Calls PyProof.Rows PySem.W PySem.Builtin PySem.Builtin.Str
namespace Mine
section
variable {C : Cx} {σ : Loc} {R : Out → Loc → Prop}
noncomputable def EvX (C : Cx) (σ : Loc) (e : Expr) (cls : Exn) : Prop :=
  ∀ (α : Own) (s : Shared) (Q : Value → Shared → Prop) (E : Value → Shared → Prop), St C α σ s → (∀ e' s', St C α σ s' → Stays C (C.W α) s s' → Fly C s e' cls s' → E (.ref e') s') → wpAny (model C.prog C.w) C.A (eval e C.env) Q E s
noncomputable def ItX (C : Cx) (σ : Loc) (e : Expr) (cls : Exn) : Prop :=
  ∀ (α : Own) (s : Shared) (Q : Bool → Shared → Prop) (E : Value → Shared → Prop), St C α σ s → (∀ e' s', St C α σ s' → Stays C (C.W α) s s' → Fly C s e' cls s' → E (.ref e') s') → wpAny (model C.prog C.w) C.A (isTrue e C.env (eval e C.env)) Q E s
theorem ItX_cmp {l r : Expr} {op : CmpOp} {pos : Pos} {cls : Exn} (h : EvX C σ l cls) (hm : behindInMarks op r = false) : ItX C σ (.Compare l [op] [r] pos) cls := fun α s Q E S k =>
  wpAny_isTrue_Compare1 (h α s _ E S k) hm
theorem Ex_assign_x {x : Str} {px pos : Pos} {value : Expr} {cls : Exn} (h : EvX C σ value cls) (hs : NoSwap C value x px pos) (hR : R (.exc cls) σ) : Ex C σ (.Assign [.Name x px] value pos) R := fun α s Q E hE S k kE =>
  wpAny_Assign_Name (h α s _ E S fun e' s' S' y f => kE cls e' α σ s' hR S' y (.refl _ _) f) hs
theorem fly_new {s s₁ : Shared} {h' : Heap} {tk : Nat} {e : Addr} {cls : String} (K : Kept C.F s s₁) (x : Heap.NewExc s₁.heap h' e cls) : Kept C.F s { s₁ with heap := h', toks := tk } ∧ Fly C s e (cls, true) { s₁ with heap := h', toks := tk } := by
  obtain ⟨ob, t, h1, h2, h3⟩ := x.there
  exact ⟨K.trans (.of_keeps rfl rfl rfl x.keeps), none_of_kept K x.new, ob, _, h1, h2, h3, fun _ => rfl, .inl rfl⟩
theorem EvX_item {value slice : Expr} {pos : Pos} {ds : List PyData} {i : Int} (hv : El C σ value ds) (hi : Ev C σ slice (.int i)) (hh : C.A.handled = none) (ho : (ds.length : Int) ≤ i) (hz : i < 2 ^ 63)
    (hs : PlainSub slice) : EvX C σ (.Subscript value slice pos) ("IndexError", true) := fun α s Q E S k =>
  PyProof.Rows.Subscript_ (hv (C.W α) s _ E S.has fun s₁ l its K₁ hl rl hF => hi (C.W α) s₁ _ E (S.has.kept K₁) fun s₂ vi K₂ ri => by
    obtain ⟨t, rfl⟩ := ri.int_inv
    obtain ⟨o, ho', hc, n, hd'⟩ := hl
    have hl' : s₂.heap.IsList l its.toArray := ⟨o, K₂.keep _ _ hF ho', hc, n, hd'⟩
    have hlen : its.toArray.size = ds.length := by simpa using rl.length
    refine tail_any hl'.typeIs slot_list_getitem.lookup (wpAny_getItem_list_out hh hl' (.inr (by rw [hlen]; exact ho)) (by have := Int.natCast_nonneg ds.length; walk_at "mine:om") hz fun h' tk e hx => ?_) (hs _ _)
    obtain ⟨K₃, f⟩ := fly_new (C := C) (tk := tk) (K₁.trans K₂) hx
    exact k e _ (S.kept K₃) (K₃.stays (W_F α)) f)
inductive IncRes : Operator → PyData → PyData → PyData → Prop
  | add (a b : Int) : IncRes .Add (.int a) (.int b) (.int (a + b))
  | cat (x y : Str) (h : x.length + y.length ≤ sizeLine) : IncRes .Add (.str x) (.str y) (.str (x ++ y))
theorem inc_sound {W : List Addr} {s : Shared} {Q E : Value → Shared → Prop} {op : Operator} {a b c : PyData} {va vb : Value} (r : IncRes op a b c) (ha : Rd W s.heap a va) (hb : Rd W s.heap b vb)
    (k : ∀ s' v, Kept C.F s s' → Rd W s'.heap c v → Q v s') : wpAny (model C.prog C.w) C.A (inplaceOp op va vb) Q E s := by
  cases r with
  | add a b => obtain ⟨t, rfl⟩ := ha.int_inv; obtain ⟨u, rfl⟩ := hb.int_inv; exact PyProof.Rows.iadd_int (k _ _ .tok .int)
  | cat x y h => obtain ⟨t, rfl⟩ := ha.str_inv; obtain ⟨u, rfl⟩ := hb.str_inv; exact SB.iadd (fun t' k' => k _ _ .tok .str) h
theorem Ex_aug {x : Str} {px pos : Pos} {op : Operator} {value : Expr} {a b c : PyData} {σ' : Loc} (hm : (x, Slot.val a) ∈ σ) (h : Ev C σ value b) (hc : IncRes op a b c) (hp : Place C x) (u : Upd σ x (.val c) σ') (hR : R .next σ') :
    Ex C σ (.AugAssign (.Name x px) op value pos) R := fun α s Q E hE S k kE => by
  obtain ⟨v, l, r⟩ := S.has.slot _ _ hm
  refine wpAny_AugAssign_Name (load_raw S.has.fun_ l (h (C.W α) s _ E S.has fun s₁ v₁ K₁ r₁ => inc_sound hc (K₁.rd (W_F α) r) r₁ fun s₂ v₂ K₂ r₂ => ?_))
  exact store_slot (sl := .val c) ((S.kept K₁).kept K₂) hp r₂ u fun s₃ S₃ y _ => k _ _ α σ' s₃ hR S₃ (((K₁.trans K₂).stays (W_F α)).trans (.refl _ _) y) (.refl _ _) .next
theorem Ex_assign2 {x y : Str} {px py pos : Pos} {value : Expr} {d : PyData} {σ₁ σ' : Loc} (h : Ev C σ value d) (hl : leaf d = true) (hp : Place C x) (hp' : Place C y) (u : Upd σ x (.val d) σ₁) (u' : Upd σ₁ y (.val d) σ')
    (hw : swappedStores [.Name x px, .Name y py] value C.env = pure none) (hR : R .next σ') :
    Ex C σ (.Assign [.Name x px, .Name y py] value pos) R := fun α s Q E hE S k kE =>
  wpAny_Assign_two (h (C.W α) s _ E S.has fun s₁ v K r => wpAny_assign_Name (store_slot (sl := .val d) (S.kept K) hp r u fun s₂ S₂ y₂ _ => wpAny_assign_Name (store_slot (sl := .val d) S₂ hp' (r.leaf hl) u' fun s₃ S₃ y₃ _ =>
    k _ _ α σ' s₃ hR S₃ (((K.stays (W_F α)).trans (.refl _ _) y₂).trans (.refl _ _) y₃) (.refl _ _) .next))) rfl hw
theorem Ex_pop_at {x y : Str} {px ap p1 py pos : Pos} {e : Expr} {ds : List PyData} {d : PyData} {i : Int} {j : Nat} {σ₁ σ' : Loc} (hm : (x, Slot.own ds) ∈ σ) (he : Ev C σ e (.int i)) (hi : i = (j : Int)) (hd' : ds[j]? = some d)
    (hp : Place C y) (u : Upd σ x (.own (ds.eraseIdx j)) σ₁) (u' : Upd σ₁ y (.val d) σ') (hR : R .next σ') (hz : ds.length < 1000000)
    (hb : MBase C (.Name x px) "pop") (hst : Star1 C e) (hl : (ap.endLine == p1.line) = true) (hd : (x == ("__debug__" : Str)) = false) (hs : NoSwap C (.Call (.Attribute (.Name x px) "pop" ap) [e] [] p1) y py pos) :
    Ex C σ (.Assign [.Name y py] (.Call (.Attribute (.Name x px) "pop" ap) [e] [] p1) pos) R := fun α s Q E hE S k kE => by
  obtain ⟨a, its, n, h1, h2, h3, h4⟩ := S.own x _ hm
  have hlen := h4.length
  refine wpAny_Assign_Name ?_ hs
  refine Call_method1 hb hst hl (load_name S.has.fun_ h2 hd (on_list h3 F.slot_list_pop F.type_list_pop (P.pop_at_list (he (C.W α) s _ E S.has fun s₁ vi K ri => ?_))))
  obtain ⟨t, rfl⟩ := ri.int_inv
  have S₁ := S.kept K
  have h3' := K.keep _ _ (fun m => S.M_not_own h1 (List.mem_append_left _ m)) h3
  have h4' := K.rdl (W_F α) h4
  obtain ⟨v, hv, rv⟩ := h4'.get hd'
  have hj : j < ds.length := (List.getElem?_eq_some_iff.mp hd').1
  obtain ⟨q1, n', q2⟩ := list_update (f := fun xs => xs.eraseIdxIfInBounds j) (jts := its.eraseIdx j) h3' (by
    rw [Array.eraseIdxIfInBounds, dif_pos (by simp; walk_at "mine:om")]
    apply Array.toList_inj.mp
    simp)
  obtain ⟨S₂, y'⟩ := S₁.own_changed (t := s₁.toks) h1 (h2.kept K) q1 q2 (h4'.eraseIdx j) u
  have hsl : sizeLine = 16777216 := by decide
  refine ⟨its.toArray, n, i, t, j, v, by simp [hsl]; walk_at "mine:om", rfl, h3', ?_, ?_, by simpa using hv, ?_⟩
  · subst hi; exact fitsIndex_both (by walk_at "mine:om") (by walk_at "mine:om")
  · subst hi
    simp only [seqIndex?, List.size_toArray, hlen]
    rw [if_neg (show ¬ ((j : Int) < 0) by walk_at "mine:om")]
    rw [if_pos (by simp; walk_at "mine:om")]; simp
  · refine store_slot (sl := .val d) S₂ hp (Rd.mono (fun b o nb e => ⟨nb, y'.keep b o nb e⟩) _ _ rv) u' fun s₃ S₃ y'' _ => ?_
    exact k _ _ α σ' s₃ hR S₃ (((K.stays (W_F α)).trans (.refl _ _) y').trans (.refl _ _) y'') (.refl _ _) .next
noncomputable def Turn (C : Cx) (I : Nat → Loc → Prop) (R : Out → Loc → Prop) (test : Expr) (body : List Stmt) (n : Nat) (σ : Loc) : Prop :=
  (∃ b, It C σ test b ∧ (b = true → Exs C σ body (fun fl σ' => match fl with | .next | .cont => ∃ m, m < n ∧ I m σ' | .brk => R .next σ' | fl => R fl σ')) ∧ (b = false → R .next σ)) ∨ (∃ cls, ItX C σ test cls ∧ R (.exc cls) σ)
theorem Ex_while {test : Expr} {body : List Stmt} {pos : Pos} (I : Nat → Loc → Prop) (n : Nat) (h0 : I n σ) (turn : ∀ n σ, I n σ → Turn C I R test body n σ) : Ex C σ (.While test body [] pos) R := fun α s Q E hE S k kE => by
  refine wpAny_While ?_
  refine codeAny_whileLoop (fun n s' => ∃ α' σ', I n σ' ∧ St C α' σ' s' ∧ Stays C (C.W α) s s' ∧ New α α' s) ?_ n ⟨α, σ, h0, S, .refl _, .refl _ _⟩
  rintro n s₁ ⟨α₁, σ₁, hI, S₁, y₁, n₁⟩
  have up : ∀ {W : Prop} {t : Sem Bool} {Q' : Bool → Shared → Prop}, wpAny (model C.prog C.w) C.A t Q' E s₁ → wpAny (model C.prog C.w) C.A t Q' (notedBy (model C.prog C.w) C.A C.env fun e s' => cameBackBy (model C.prog C.w) C.A C.env E e s') s₁ := fun h => wpAny_passesOwn hE.own h
  rcases turn n σ₁ hI with ⟨b, hb, hbody, hend⟩ | ⟨cls, hx, hR⟩
  · refine up (W := True) (hb (C.W α₁) s₁ _ E S₁.has fun s₂ K => ?_)
    have S₂ := S₁.kept K
    have y₂ : Stays C (C.W α) s s₂ := y₁.trans n₁ (K.stays (W_F α₁))
    cases b with
    | true =>
      rw [if_pos rfl]
      refine wpAny_passesOwn hE.own (hbody rfl α₁ s₂ _ E hE S₂ (fun fl f α₃ σ₃ s₃ r S₃ y₃ n₃ F => ?_) (fun cls e α₃ σ₃ s₃ r S₃ y₃ n₃ f => kE cls e α₃ σ₃ s₃ r S₃ (y₂.trans n₁ y₃) (n₁.trans y₂ n₃) (f.before y₂)))
      have yy := y₂.trans n₁ y₃
      have nn := n₁.trans y₂ n₃
      cases F with
      | next => obtain ⟨m, hm, hI'⟩ := r; exact ⟨m, hm, α₃, σ₃, hI', S₃, yy, nn⟩
      | cont => obtain ⟨m, hm, hI'⟩ := r; exact ⟨m, hm, α₃, σ₃, hI', S₃, yy, nn⟩
      | brk => exact k _ _ α₃ σ₃ s₃ r S₃ yy nn .next
      | ret rd => exact k _ _ α₃ σ₃ s₃ r S₃ yy nn (.ret rd)
      | retOwn m o rd => exact k _ _ α₃ σ₃ s₃ r S₃ yy nn (.retOwn m o rd)
    | false =>
      rw [if_neg (by decide)]
      exact wpAny_execs_nil (k _ _ α₁ σ₁ s₂ (hend rfl) S₂ y₂ n₁ .next)
  · exact up (W := True) (hx α₁ s₁ _ E S₁ fun e s' S' y' f => kE cls e α₁ σ₁ s' hR S' (y₁.trans n₁ y') n₁ (f.before y₁))
end
end Mine
end
section
open PySem PySem.Spec PySem.Calls PyProof.Rows PySem.W PySem.Builtin PySem.Builtin.Str
namespace Mine
noncomputable def Hold (o : Obj) : Prop := (∃ xs n, o.data = .seq xs n) ∨ ∃ es ep, o.data = .dict es ep
mutual
theorem Rd.seqs {W W' : List Addr} {h h' : Heap} (k : ∀ b o, b ∉ W → Hold o → h.get? b = some o → b ∉ W' ∧ h'.get? b = some o) :
    ∀ (d : PyData) (v : Value), Rd W h d v → Rd W' h' d v
  | .none, v, r => by simpa [Rd] using r
  | .bool b, v, r => by simpa [Rd] using r
  | .int i, v, r => by simpa [Rd] using r
  | .str x, v, r => by simpa [Rd] using r
  | .list xs, v, r => by
    simp only [Rd] at r ⊢
    obtain ⟨a, its, n, e, hw, ho, hl⟩ := r
    exact ⟨a, its, n, e, (k a _ hw (.inl ⟨_, _, rfl⟩) ho).1, (k a _ hw (.inl ⟨_, _, rfl⟩) ho).2, RdL.seqs k xs its hl⟩
  | .tuple xs, v, r => by
    simp only [Rd] at r ⊢
    obtain ⟨a, its, n, e, hw, ho, hl⟩ := r
    exact ⟨a, its, n, e, (k a _ hw (.inl ⟨_, _, rfl⟩) ho).1, (k a _ hw (.inl ⟨_, _, rfl⟩) ho).2, RdL.seqs k xs its hl⟩
  | .dict kvs, v, r => by
    simp only [Rd] at r ⊢
    obtain ⟨a, es, ep, e, hw, ho, hl⟩ := r
    exact ⟨a, es, ep, e, (k a _ hw (.inr ⟨_, _, rfl⟩) ho).1, (k a _ hw (.inr ⟨_, _, rfl⟩) ho).2, hl⟩
theorem RdL.seqs {W W' : List Addr} {h h' : Heap} (k : ∀ b o, b ∉ W → Hold o → h.get? b = some o → b ∉ W' ∧ h'.get? b = some o) :
    ∀ (ds : List PyData) (its : List Value), RdL W h ds its → RdL W' h' ds its
  | [], its, r => by simpa [RdL] using r
  | d :: ds, its, r => by
    simp only [RdL] at r ⊢
    obtain ⟨v, r', e, h1, h2⟩ := r
    exact ⟨v, r', e, Rd.seqs k d v h1, RdL.seqs k ds r' h2⟩
end
section
variable {C : Cx} {σ : Loc} {R : Out → Loc → Prop}
structure Itr (C : Cx) (W : List Addr) (s s₂ : Shared) (I : Addr) (ds : List PyData) : Prop where
  ex : ∃ (fp : List Addr) (P : Nat → Value → Prop) (ST : Nat → Heap → Prop), Walks C.prog C.w C.A I fp [I] ds.length P ST ∧ ST 0 s₂.heap ∧ (∀ b ∈ fp, b ∉ W ∧ ∃ o, s₂.heap.get? b = some o) ∧
    (∀ i v, i < ds.length → P i v → ∃ d, ds[i]? = some d ∧ Rd (I :: W) s₂.heap d v) ∧ (∀ i h, ST i h → ∃ o vs, h.get? I = some o ∧ o.data = .fields vs)
  new : s.heap.get? I = none
noncomputable def IterT (C : Cx) (σ : Loc) (t : Sem Value) (ds : List PyData) : Prop :=
  ∀ (W : List Addr) (s : Shared) (Q : Value → Shared → Prop) (E : Value → Shared → Prop), Has C σ W s.heap → (∀ s₂ I, Kept C.F s s₂ → Itr C W s s₂ I ds → Q (.ref I) s₂) →
    wpAny (model C.prog C.w) C.A t (fun xv s₁ => wpAny (model C.prog C.w) C.A (pyIter xv) Q E s₁) E s
noncomputable abbrev Iter (C : Cx) (σ : Loc) (e : Expr) (ds : List PyData) : Prop := IterT C σ (eval e C.env) ds
theorem Iter_list {t : Sem Value} {ds : List PyData} (h : EvT C σ t (.list ds)) (hh : C.A.handled = none) : IterT C σ t ds := fun W s Q E H k =>
  h W s _ E H fun s₁ v K r => by
    obtain ⟨a, its, n, rfl, hw, ho, hl⟩ := r.list_inv
    have hlt : a ≠ s₁.heap.objs.size := Nat.ne_of_lt (Heap.lt_size ho)
    have hlist : s₁.heap.IsList a its.toArray := ⟨_, ho, rfl, n, rfl⟩
    refine wpAny_pyIter_list hlist (k _ _ (K.trans .push') ⟨⟨[s₁.heap.objs.size, a], (fun i v => its.toArray[i]? = some v), (fun i h => h.IsListIter s₁.heap.objs.size a i ∧ h.IsList a its.toArray), ?_, ?_, ?_, ?_, ?_⟩, none_of_kept K (none_at_size _)⟩)
    · have e : its.toArray.size = ds.length := by simpa using hl.length
      rw [← e]
      exact Walks.list hh _ _ hlt _
    · exact ⟨⟨_, Heap.get?_push_size _ rfl, rfl, rfl⟩, hlist.push _⟩
    · intro b hb
      simp only [List.mem_cons, List.not_mem_nil, or_false] at hb
      rcases hb with rfl | rfl
      · exact ⟨(H.kept K).not_new, _, Heap.get?_push_size _ rfl⟩
      · exact ⟨hw, _, Heap.get?_push_of_some _ ho⟩
    · intro i v _ hv
      obtain ⟨d, hd, r⟩ := hl.get' (i := i) (v := v) (by simpa using hv)
      refine ⟨d, hd, Rd.mono (fun b o nb e => ⟨fun m => ?_, Heap.get?_push_of_some _ e⟩) _ _ r⟩
      rcases List.mem_cons.mp m with q | q
      · rw [q, none_at_size] at e; cases e
      · exact nb q
    · rintro i h ⟨⟨o, ho, _, hd⟩, _⟩
      exact ⟨o, _, ho, hd⟩
theorem St.but {α : Own} {s s' : Shared} {I : Addr} (S : St C α σ s) (hk : ∀ b o, b ≠ I → s.heap.get? b = some o → s'.heap.get? b = some o) (hI : I ∉ C.W α) (hIo : ∃ o vs, s.heap.get? I = some o ∧ o.data = .fields vs) (hB : C.B.get? I = none) (hp' : ∀ p ∈ C.K, p.1 ≠ I) : St C α σ s' := by
  have ne : ∀ {b}, b ∈ C.W α → b ≠ I := fun hb q => hI (q ▸ hb)
  have nL : C.env.locals ≠ I := ne (W_F α _ S.L)
  have nC : ∀ {x c}, C.env.cells.lookup x = some c → c ≠ I := fun hc => ne (List.mem_append_left _ (Cx.cM (mem_of_lookup hc)))
  have ns : ∀ {m}, s.heap.Ns C.env.locals m → s'.heap.Ns C.env.locals m := fun ⟨o, es, ep, ho, r⟩ => ⟨o, es, ep, hk _ o nL ho, r⟩
  have cl : ∀ {x c v}, C.env.cells.lookup x = some c → s.heap.IsCell c v → s'.heap.IsCell c v := fun hc ⟨o, ho, hd⟩ => ⟨o, hk _ o (nC hc) ho, hd⟩
  have ld : ∀ {x v}, Loads C.env s.heap x v → Loads C.env s'.heap x v := fun l => by
    rcases l with ⟨a, m, b, c⟩ | ⟨a, c, b, d⟩
    · exact .inl ⟨a, m, ns b, c⟩
    · exact .inr ⟨a, c, b, cl b d⟩
  obtain ⟨oI, vs, hoI, hdI⟩ := hIo
  have sq : ∀ b o, b ∉ C.W α → Hold o → s.heap.get? b = some o → b ∉ C.W α ∧ s'.heap.get? b = some o := fun b o hb hd e => ⟨hb, hk b o (fun q => by rw [q, hoI] at e; cases e; rcases hd with ⟨_, _, hd⟩ | ⟨_, _, hd⟩ <;> (rw [hdI] at hd; cases hd)) e⟩
  exact {
    has := { S.has with
      alive := fun a ha => let ⟨o, ho⟩ := S.has.alive a ha; ⟨o, hk a o (ne ha) ho⟩
      base := fun b o e => hk b o (fun q => by rw [q, hB] at e; cases e) (S.has.base b o e)
      frm := fun a ha => let ⟨o, es, ep, ho, hd⟩ := S.has.frm a ha; ⟨o, es, ep, hk a o (ne (W_F α a ha)) ho, hd⟩
      slot := fun x sl hm => by
        have q := S.has.slot x sl hm
        cases sl with
        | val d => obtain ⟨v, l, r⟩ := q; exact ⟨v, ld l, Rd.seqs sq _ _ r⟩
        | own ds => obtain ⟨a, its, n, l, h1, h2, h3, h4⟩ := q; exact ⟨a, its, n, ld l, h1, h2, hk _ _ (ne h1) h3, RdL.seqs sq _ _ h4⟩ }
    L := S.L
    ns := let ⟨m, h⟩ := S.ns; ⟨m, ns h⟩
    cells := fun x c h => let ⟨v, e⟩ := S.cells x c h; ⟨v, cl h e⟩
    apart := S.apart
    cF := S.cF
    nodup := S.nodup
    off := S.off
    own := fun x ds h => by
      obtain ⟨a, its, n, h1, h2, h3, h4⟩ := S.own x ds h
      exact ⟨a, its, n, h1, ld h2, hk _ _ (ne (List.mem_append_right _ (List.mem_map_of_mem (f := (·.2)) (mem_of_lookup h1)))) h3, RdL.seqs sq _ _ h4⟩
    pin := fun p hp => ⟨(S.pin p hp).1, hk _ _ (hp' p hp) (S.pin p hp).2⟩
    lst := fun a ha => let ⟨o, its, n, ho, hd⟩ := S.lst a ha; ⟨o, its, n, hk a o (ne (List.mem_append_right _ ha)) ho, hd⟩ }
noncomputable def ExT1 (C : Cx) (σ : Loc) (t : Sem Flow) (R : Out → Loc → Prop) : Prop :=
  ∀ (α : Own) (s : Shared) (Q : Flow → Shared → Prop) (E : Value → Shared → Prop), 1 ≤ s.toks → GoodE (model C.prog C.w) C.A C.env E → St C α σ s →
    (∀ fl f α' σ' s', R fl σ' → St C α' σ' s' → Stays C (C.W α) s s' → New α α' s → FlowIs C α' s' fl f → Q f s') →
    (∀ cls e α' σ' s', R (.exc cls) σ' → St C α' σ' s' → Stays C (C.W α) s s' → New α α' s → Fly C s e cls s' → E (.ref e) s') →
    wpAny (model C.prog C.w) C.A t Q E s
noncomputable abbrev Ex1 (C : Cx) (σ : Loc) (st : Stmt) (R : Out → Loc → Prop) : Prop := ExT1 C σ (exec st C.env) R
noncomputable abbrev Exs1 (C : Cx) (σ : Loc) (sts : List Stmt) (R : Out → Loc → Prop) : Prop := ExT1 C σ (execs sts C.env) R
theorem ExT.to1 {t : Sem Flow} (h : ExT C σ t R) : ExT1 C σ t R := fun α s Q E _ => h α s Q E
theorem Exs1_cons {st : Stmt} {rest : List Stmt} {R₁ : Out → Loc → Prop} (h : Ex1 C σ st R₁) (hn : ∀ σ', R₁ .next σ' → Exs C σ' rest R) (ho : ∀ fl σ', fl ≠ .next → R₁ fl σ' → R fl σ') : Exs1 C σ (st :: rest) R := fun α s Q E ht hE S k kE =>
  wpAny_execs_cons (h α s _ E ht hE S (fun fl f α' σ' s' r S' y n F => by
    cases F with
    | next => exact hn σ' r α' s' Q E hE S' (fun fl f α'' σ'' s'' r' S'' y' n' F' => k fl f α'' σ'' s'' r' S'' (y.trans n y') (n.trans y n') F') (fun cls e α'' σ'' s'' r' S'' y' n' f' => kE cls e α'' σ'' s'' r' S'' (y.trans n y') (n.trans y n') (f'.before y))
    | brk => exact k _ _ _ _ _ (ho _ _ (by intro q; cases q) r) S' y n .brk
    | cont => exact k _ _ _ _ _ (ho _ _ (by intro q; cases q) r) S' y n .cont
    | ret rd => exact k _ _ _ _ _ (ho _ _ (by intro q; cases q) r) S' y n (.ret rd)
    | retOwn m o rd => exact k _ _ _ _ _ (ho _ _ (by intro q; cases q) r) S' y n (.retOwn m o rd))
    (fun cls e α' σ' s' r S' y n f => kE cls e α' σ' s' (ho _ _ (by intro q; cases q) r) S' y n f))
theorem Exs_end {σ₁ : Loc} (hσ : ∀ p ∈ σ₁, p ∈ σ) (h : R .next σ₁) : Exs C σ [] R := Exs_drop hσ (Exs_nil h)
theorem Ex_for {x : Str} {px pos : Pos} {iter : Expr} {body : List Stmt} {ds : List PyData} (hi : Iter C σ iter ds) (hx : C.env.kindOf x = some .local) (J : Nat → Loc → Prop) (h0 : J 0 σ)
    (step : ∀ i d σ₁, ds[i]? = some d → J i σ₁ → ∃ σ₂, Upd σ₁ x (.val d) σ₂ ∧ Exs1 C σ₂ body (fun fl σ' => match fl with | .next | .cont => J (i + 1) σ' | .brk => R .next σ' | fl => R fl σ'))
    (hend : ∀ σ', J ds.length σ' → R .next σ') (hs : ∀ v, foldedSetIterable iter C.env v = pure v) : Ex C σ (.For (.Name x px) iter body [] pos) R := fun α s Q E hE S k kE => by
  refine wpAny_For (hi (C.W α) s _ E S.has fun s₂ I K T => ?_) hs
  obtain ⟨⟨fp, P, ST, Wk, st0, hfp, hP, hST⟩, hnew⟩ := T
  have hIW : I ∉ C.W α := S.has.of_none hnew
  have hB : C.B.get? I = none := by
    cases q : C.B.get? I with
    | none => rfl
    | some o => have := S.has.base I o q; rw [hnew] at this; cases this
  refine codeAny_forLoop (fun n s' => ∃ i α' σ', n = ds.length - i ∧ i ≤ ds.length ∧ J i σ' ∧ St C α' σ' s' ∧ Stays C (C.W α) s s' ∧ New α α' s ∧ ST i s'.heap ∧ I ∉ C.W α' ∧
    (∀ b o, b ∉ I :: C.W α → s₂.heap.get? b = some o → s'.heap.get? b = some o ∧ b ∉ C.W α')) ?_ ds.length
    ⟨0, α, σ, rfl, Nat.zero_le _, h0, S.kept K, K.stays (W_F α), .refl _ _, st0, hIW, fun b o hb e => ⟨e, fun m => hb (.tail _ m)⟩⟩
  rintro n s' ⟨i, α', σ', rfl, hi', hJ, S', y', n', st', hI', hk'⟩
  have ro : ∀ {W : Prop} {β : Type} {t : Sem β} {Q' : β → Shared → Prop} {s₁ : Shared}, wpAny (model C.prog C.w) C.A t Q' E s₁ → wpAny (model C.prog C.w) C.A t Q' (notedBy (model C.prog C.w) C.A C.env fun e s' => cameBackBy (model C.prog C.w) C.A C.env E e s') s₁ := fun h => wpAny_passesOwn hE.own h
  have stepI : ∀ {h' : Heap} {tk : Nat}, (∀ b o, b ∉ [I] → s'.heap.get? b = some o → h'.get? b = some o) → St C α' σ' { s' with heap := h', toks := tk } ∧ Stays C (C.W α) s { s' with heap := h', toks := tk } := fun {h' tk} hk => by
    have hk1 : ∀ b o, b ≠ I → s'.heap.get? b = some o → h'.get? b = some o := fun b o hb e => hk b o (by simpa using hb) e
    have ne : ∀ {b o}, s.heap.get? b = some o → b ≠ I := fun e q => by rw [q, hnew] at e; cases e
    refine ⟨S'.but hk1 hI' (hST i _ st') hB (fun p hp q => by have := (S.pin p hp).2; rw [q, hnew] at this; cases this), ⟨y'.os, y'.gens, fun b o hb e => hk1 b o (ne e) (y'.keep b o hb e), fun b o hF hL e => ?_, fun b o e => ?_, fun b o hX e => hk1 b o (ne e) (y'.ex b o hX e)⟩⟩
    · obtain ⟨sl, z⟩ := y'.fr b o hF hL e
      exact ⟨sl, hk1 b _ (ne e) z⟩
    · obtain ⟨o', z⟩ := y'.alive b o e
      exact ⟨o', hk1 b _ (ne e) z⟩
  by_cases hlt : i < ds.length
  · refine ro (W := True) (Wk.item i s' _ E hlt st' fun v h' tk hPv st1 hk1 => ?_)
    obtain ⟨S₁, y₁⟩ := stepI (tk := tk) hk1
    obtain ⟨d, hd, rd⟩ := hP i v hlt hPv
    obtain ⟨σ₂, hu, hbody⟩ := step i d σ' hd hJ
    have rd' : Rd (C.W α') h' d v := Rd.mono (fun b o hb e => by
      obtain ⟨z1, z2⟩ := hk' b o hb e
      exact ⟨z2, hk1 b o (by simpa using fun q : b = I => hb (q ▸ .head _)) z1⟩) _ _ rd
    refine ro (W := True) (wpAny_assign_Name (store_slot (sl := .val d) (C := C) S₁ (.loc hx) rd' hu fun s₃ S₃ y₃ ht => ?_))
    have ht' : 1 ≤ s₃.toks := by
      rcases ht with ht | ht
      · exact ht
      · rw [hx] at ht; cases ht
    have y3 := y₁.trans n' y₃
    refine ro (W := True) (hbody α' s₃ _ E ht' hE S₃ (fun fl f α₄ σ₄ s₄ r S₄ y₄ n₄ F => ?_) (fun cls e α₄ σ₄ s₄ r S₄ y₄ n₄ f => kE cls e α₄ σ₄ s₄ r S₄ (y3.trans n' y₄) (n'.trans y3 n₄) (f.before y3)))
    have yy := y3.trans n' y₄
    have nn := n'.trans y3 n₄
    have nx : (∃ m, m < ds.length - i ∧ J (i + 1) σ₄) → ∃ m, m < ds.length - i ∧ ∃ i α' σ', m = ds.length - i ∧ i ≤ ds.length ∧ J i σ' ∧ St C α' σ' s₄ ∧ Stays C (C.W α) s s₄ ∧ New α α' s ∧ ST i s₄.heap ∧ I ∉ C.W α' ∧
        (∀ b o, b ∉ I :: C.W α → s₂.heap.get? b = some o → s₄.heap.get? b = some o ∧ b ∉ C.W α') := by
      rintro ⟨_, _, hJ'⟩
      obtain ⟨oI, vsI, hoI, hdI⟩ := hST _ _ st1
      have old : ∀ b o, b ∉ C.W α' → h'.get? b = some o → s₄.heap.get? b = some o ∧ b ∉ C.W α₄ := fun b o hb e => by
        have e3 := y₃.keep b o hb e
        refine ⟨y₄.keep b o hb e3, fun m => ?_⟩
        rcases List.mem_append.mp m with m | m
        · exact hb (List.mem_append_left _ m)
        · rcases n₄ b m with q | q
          · exact hb (List.mem_append_right _ q)
          · rw [q] at e3; cases e3
      refine ⟨ds.length - (i + 1), by walk_at "mine:om", i + 1, α₄, σ₄, rfl, hlt, hJ', S₄, yy, nn, ?_, (old I oI hI' hoI).2, fun b o hb e => ?_⟩
      · refine Wk.frame _ _ _ st1 fun b hb o e => ?_
        obtain ⟨q1, o', q2⟩ := hfp b hb
        by_cases hbI : b = I
        · subst hbI; exact (old b o hI' e).1
        · exact (old b o (hk' b o' (by simp only [List.mem_cons, not_or]; exact ⟨hbI, q1⟩) q2).2 e).1
      · obtain ⟨z1, z2⟩ := hk' b o hb e
        have z3 := hk1 b o (by simpa using fun q : b = I => hb (q ▸ .head _)) z1
        exact old b o z2 z3
    cases F with
    | next => exact nx ⟨0, by walk_at "mine:om", r⟩
    | cont => exact nx ⟨0, by walk_at "mine:om", r⟩
    | brk => exact k _ _ α₄ σ₄ s₄ r S₄ yy nn .next
    | ret rd => exact k _ _ α₄ σ₄ s₄ r S₄ yy nn (.ret rd)
    | retOwn m o rd => exact k _ _ α₄ σ₄ s₄ r S₄ yy nn (.retOwn m o rd)
  · have hin : i = ds.length := by walk_at "mine:om"
    subst hin
    refine ro (W := True) (Wk.done s' _ E st' fun h' tk hk1 => wpAny_execs_nil ?_)
    obtain ⟨S₁, y₁⟩ := stepI (tk := tk) hk1
    exact k _ _ α' σ' _ (hend σ' hJ) S₁ y₁ n' .next
end
end Mine
end
section
open PySem PySem.Spec PySem.Calls PyProof.Rows PySem.W PySem.Builtin PySem.Builtin.Str
namespace Mine
section
variable {C : Cx} {σ : Loc} {R : Out → Loc → Prop}
noncomputable def signs (x : Str) : List PyData := x.cps.toList.map fun c => .str ⟨#[c]⟩
theorem Iter_str {t : Sem Value} {x : Str} (h : EvT C σ t (.str x)) (hh : C.A.handled = none) : IterT C σ t (signs x) := fun W s Q E H k =>
  h W s _ E H fun s₁ v K r => by
    obtain ⟨u, rfl⟩ := r.str_inv
    have len : (signs x).length = x.cps.size := by simp [signs]
    have items : ∀ i v, i < (signs x).length → SignAt x i v → ∃ d, (signs x)[i]? = some d ∧ Rd (s₁.heap.objs.size :: W) (s₁.heap.push { cls := .type (strIterType x), data := .fields #[.str x u, .int 0 0] }) d v := by
      rintro i v _ ⟨c, u', hc, rfl⟩
      exact ⟨.str ⟨#[c]⟩, by simp [signs, hc], .str⟩
    have fps : ∀ b ∈ [s₁.heap.objs.size], b ∉ W ∧ ∃ o, (s₁.heap.push { cls := .type (strIterType x), data := .fields #[.str x u, .int 0 0] }).get? b = some o := by
      intro b hb
      rw [List.mem_singleton] at hb
      subst hb
      exact ⟨(H.kept K).not_new, _, Heap.get?_push_size _ rfl⟩
    refine wpAny_pyIter_strU (k _ _ (K.trans .push') ⟨⟨[s₁.heap.objs.size], SignAt x, (fun i h => h.IsStrIter s₁.heap.objs.size (strIterType x) x u i), ?_, ⟨_, Heap.get?_push_size _ rfl, rfl, rfl⟩, fps, items, fun i h ⟨o, ho, _, hd⟩ => ⟨o, _, ho, hd⟩⟩, none_of_kept K (none_at_size _)⟩)
    rw [len]
    cases ha : x.cps.all (· < 128)
    · have e : strIterType x = "str_iterator" := by simp [strIterType, ha]
      rw [e]; exact Walks.strWide hh _ x u
    · have e : strIterType x = "str_ascii_iterator" := by simp [strIterType, ha]
      rw [e]; exact Walks.strAscii hh _ x u
theorem Itr_range {W : List Addr} {s s₁ : Shared} {a c : Int} {n : Nat} (H : Has C σ W s.heap) (hh : C.A.handled = none) (K : Kept C.F s s₁) {o : Obj} (ho : o = { cls := .type "range_iterator", data := .fields #[rawInt a, rawInt n, rawInt c] }) {ds : List PyData} (hds : ds = (List.range n).map fun i => .int (a + (i : Nat) * c)) :
    Itr C W s { s₁ with heap := s₁.heap.push o } s₁.heap.objs.size ds := by
  subst ho hds
  refine ⟨⟨[s₁.heap.objs.size], _, _, by rw [List.length_map, List.length_range]; exact Walks.range hh s₁.heap.objs.size a c n, ?_, ?_, ?_, ?_⟩, none_of_kept K (none_at_size _)⟩
  · simpa using (Heap.get?_push_size s₁.heap rfl)
  · intro b hb
    rw [List.mem_singleton] at hb
    subst hb
    exact ⟨(H.kept K).not_new, _, Heap.get?_push_size _ rfl⟩
  · rintro i v hi ⟨t, rfl⟩
    exact ⟨.int (a + (i : Nat) * c), by
      have hi' : i < n := by simpa using hi
      rw [List.getElem?_map, List.getElem?_range hi']; rfl, .int⟩
  · rintro i h e
    exact ⟨_, _, e, rfl⟩
theorem in_range : (("range" : Str), Value.type "range") ∈ gtable := .tail _ (.tail _ (.tail _ (.tail _ (.head _))))
theorem Iter_range1 {np pos : Pos} {e : Expr} {n : Nat} (he : Ev C σ e (.int n)) (hk : C.env.kindOf "range" = some .globalImplicit) (hs : Star1 C e) (hn : n < 2 ^ 60) (hh : C.A.handled = none) :
    Iter C σ (.Call (.Name "range" np) [e] [] pos) ((List.range n).map fun i : Nat => .int (i : Int)) := fun W s Q E H k =>
  callT1 H hk in_range (by decide +kernel) hs (he W s _ E H fun s₁ v K r => by
    obtain ⟨t, rfl⟩ := r.int_inv
    refine call_range_1 (wpAny_pyIter_range (IsRange.new _ _ _ _ _ _ _) (small_one (by decide) (by decide) (by walk_at "mine:om") (by walk_at "mine:om")) ?_)
    have e : Builtin.Range.rangeSize 0 n 1 = (n : Int) := by
      rw [rangeSize_one]
      split
      · walk_at "mine:om"
      · walk_at "mine:om"
    rw [e]
    have K' : Kept C.F s { s₁ with heap := s₁.heap.push { cls := .type "range", data := .fields #[.int 0 s₁.toks, .int n t, .int 1 (s₁.toks + 1)] }, toks := s₁.toks + 1 + 1 } := K.trans .push
    refine k _ _ (K'.trans .push') (Itr_range H hh K' rfl ?_)
    apply List.map_congr_left
    intro i _
    simp)
theorem Call_name {f : Str} {np pos : Pos} {es : List Expr} {s : Shared} {Q : Value → Shared → Prop} {E : Value → Shared → Prop}
    (h : wpAny (model C.prog C.w) C.A (eval (.Name f np) C.env) (fun v s₁ => wpAny (model C.prog C.w) C.A (callWith pos v [] (backTo pos (starEach es C.env)) []) Q E s₁) E s) :
    wpAny (model C.prog C.w) C.A (eval (.Call (.Name f np) es [] pos) C.env) Q E s := by
  show wpAny _ _ (do callWith pos (← eval (.Name f np) C.env) [] (backTo pos (starEach es C.env)) (backToKw pos (keywordEach [] C.env))) Q E s
  exact wpAny_bind h
theorem Iter_range3 {np pos : Pos} {e₁ e₂ e₃ : Expr} {n : Nat} (he : EvL C σ pos [e₁, e₂, e₃] [.int ((n : Int) - 1), .int (-1), .int (-1)]) (hk : C.env.kindOf "range" = some .globalImplicit)
    (hs1 : starEach [e₁, e₂, e₃] C.env = (false, eval e₁ C.env) :: starEach [e₂, e₃] C.env) (hs2 : starEach [e₂, e₃] C.env = (false, eval e₂ C.env) :: starEach [e₃] C.env) (hs3 : Star1 C e₃) (hn : n < 2 ^ 60) (hh : C.A.handled = none) :
    Iter C σ (.Call (.Name "range" np) [e₁, e₂, e₃] [] pos) ((List.range n).map fun i : Nat => .int ((n : Int) - 1 - (i : Int))) := fun W s Q E H k => by
  refine Call_name (global_sound H hk in_range (by decide +kernel) (PyProof.Rows.callWith_type1 (he W s _ E H fun s₁ vs K r => ?_) hs1 ?_))
  · obtain ⟨v₁, r₁, rfl, h1, r⟩ := r.cons_inv
    obtain ⟨v₂, r₂, rfl, h2, r⟩ := r.cons_inv
    obtain ⟨v₃, r₃, rfl, h3, r⟩ := r.cons_inv
    rw [RdL.nil_iff.mp r]
    obtain ⟨t, rfl⟩ := h1.int_inv
    obtain ⟨u, rfl⟩ := h2.int_inv
    obtain ⟨w, rfl⟩ := h3.int_inv
    have e : Builtin.Range.rangeSize ((n : Int) - 1) (-1) (-1) = (n : Int) := by
      unfold Builtin.Range.rangeSize
      simp
      walk_at "mine:om"
    refine call_range_3 (by decide) (wpAny_pyIter_range (IsRange.new _ _ _ _ _ _ _) ?_ ?_) (.inl (PyProof.noPylong_small (by decide)))
    · unfold Builtin.Range.small
      rw [e]
      simp only [Builtin.Range.rangeFitsLong, Bool.and_eq_true, Bool.or_eq_true, decide_eq_true_eq, beq_iff_eq]
      refine ⟨⟨⟨⟨by walk_at "mine:om", by walk_at "mine:om"⟩, by walk_at "mine:om"⟩, by walk_at "mine:om"⟩, .inr ?_⟩
      rw [if_neg (by decide)]
      simp
    · rw [e]
      have K' : Kept C.F s { s₁ with heap := s₁.heap.push { cls := .type "range", data := .fields #[.int ((n : Int) - 1) t, .int (-1) u, .int (-1) w] }, toks := s₁.toks } := K.trans .push
      refine k _ _ (K'.trans .push') (Itr_range H hh K' rfl ?_)
      apply List.map_congr_left
      intro i _
      congr 1
      walk_at "mine:om"
  · rw [hs2, hs3]; rfl
end
end Mine
end
section
open PySem PySem.Spec PySem.Calls PyProof.Rows PySem.W PySem.Builtin PySem.Builtin.Str
namespace Mine
section
variable {C : Cx} {σ : Loc} {R : Out → Loc → Prop}
noncomputable def leafOf : Value → PyData
  | .bool b => .bool b
  | .int i _ => .int i
  | .str x _ => .str x
  | _ => .none
theorem leafOf_rd {W : List Addr} {h : Heap} {d : PyData} {v : Value} (l : leaf d = true) (r : Rd W h d v) : leafOf v = d := by
  cases d with
  | none => rw [r.none_inv]; rfl
  | bool b => rw [r.bool_inv]; rfl
  | int i => obtain ⟨t, rfl⟩ := r.int_inv; rfl
  | str x => obtain ⟨t, rfl⟩ := r.str_inv; rfl
  | _ => simp [leaf] at l
noncomputable abbrev Cx.comp (C : Cx) (sc : Scope) (cl : List (Str × Addr)) (A : Addr) : Cx := { C with env := compEnvC sc cl A C.env, F := [], X := [], xF := (fun _ h => nomatch h), xC := (fun _ _ h => nomatch h), K := [] }
structure Vis (C : Cx) (sc : Scope) (cl : List (Str × Addr)) (y : Str) : Prop where
  cell : ∃ c, cl.lookup y = some c ∧ C.env.cells.lookup y = some c
  out : C.env.kindOf y ≠ some .local
  inn : ∀ A, (compEnvC sc cl A C.env).kindOf y = some .cell ∨ ((compEnvC sc cl A C.env).kindOf y = some .free ∧ (y == ("__classdict__" : Str)) = false)
noncomputable def TestsT (C : Cx) (σ : Loc) (ifs : List Expr) (b : Bool) : Prop :=
  ∀ (W : List Addr) (s : Shared) (Q : Bool → Shared → Prop) (E : Value → Shared → Prop), Has C σ W s.heap → (∀ s', Kept C.F s s' → Q b s') →
    wpAny (model C.prog C.w) C.A (forIn ifs true fun c r => if r = true then do let ok ← isTrue c C.env (eval c C.env); pure (ForInStep.yield ok) else pure (ForInStep.yield r)) Q E s
theorem Tests_nil : TestsT C σ [] true := fun W s Q E H k => by rw [List.forIn_nil]; exact wpAny_pure (k s (.refl _ _))
theorem Tests_one {t : Expr} {b : Bool} (h : It C σ t b) : TestsT C σ [t] b := fun W s Q E H k => by
  rw [List.forIn_cons]
  refine wpAny_bind ?_
  rw [if_pos rfl]
  refine wpAny_bind (h W s _ E H fun s' K => wpAny_pure ?_)
  dsimp only
  rw [List.forIn_nil]
  exact wpAny_pure (k s' K)
structure CompOk (C : Cx) (sc : Scope) (cl : List (Str × Addr)) (x : Str) (σc : Loc) (ifs : List Expr) (elt : Expr) (ds : List PyData) (pd : PyData → Bool) (f : PyData → PyData) : Prop where
  leaves : ds.all leaf = true
  outs : ∀ d ∈ ds, pd d = true → leaf (f d) = true
  tests : ∀ A d, d ∈ ds → TestsT (C.comp sc cl A) ((x, .val d) :: σc) ifs (pd d)
  elt : ∀ A d, d ∈ ds → pd d = true → Ev (C.comp sc cl A) ((x, .val d) :: σc) elt (f d)
structure CompAt (C : Cx) (sc : Scope) (cl : List (Str × Addr)) (x : Str) : Prop where
  clos : closureFor sc C.env = pure cl
  cell : ∀ y ∈ sc.names, y.2 ≠ .cell
  kind : sc.kind = .function
  names : ∀ y ∈ sc.names, y.2 = .local → sc.names.lookup y.1 = some .local
  var : sc.names.lookup x = some .local
noncomputable def Sees (C : Cx) (sc : Scope) (cl : List (Str × Addr)) (x : Str) (σ σc : Loc) : Prop := ∀ p ∈ σc, p ∈ σ ∧ Vis C sc cl p.1
theorem comp_has {sc : Scope} {cl : List (Str × Addr)} {x : Str} {σc : Loc} {W : List Addr} {s₀ s₂ : Shared} {I A : Addr} {h : Heap} {m : Str → Option Value} {d : PyData} {v : Value} (at' : CompAt C sc cl x) (see : Sees C sc cl x σ σc) (H₀ : Has C σ W s₀.heap) (H : Has C σ W s₂.heap) (hnew : s₀.heap.get? I = none)
    (hI : ∃ o vs, s₂.heap.get? I = some o ∧ o.data = .fields vs) (hk : ∀ b o, b ∉ [I] → s₂.heap.get? b = some o → h.get? b = some o) (hn : h.Ns A m) (hm : m x = some v) (r : Rd W h d v) :
    Has (C.comp sc cl A) ((x, .val d) :: σc) W h := by
  have hk1 : ∀ b o, b ≠ I → s₂.heap.get? b = some o → h.get? b = some o := fun b o hb e => hk b o (by simpa using hb) e
  have hB : C.B.get? I = none := by
    cases q : C.B.get? I with
    | none => rfl
    | some o => have := H₀.base I o q; rw [hnew] at this; cases this
  have hIW : I ∉ W := H₀.of_none hnew
  obtain ⟨oI, vs, hoI, hdI⟩ := hI
  have sq : ∀ b o, b ∉ W → Hold o → s₂.heap.get? b = some o → b ∉ W ∧ h.get? b = some o := fun b o hb hd e => ⟨hb, hk1 b o (fun q => by rw [q, hoI] at e; cases e; rcases hd with ⟨_, _, hd⟩ | ⟨_, _, hd⟩ <;> (rw [hdI] at hd; cases hd)) e⟩
  have ld : ∀ y, Vis C sc cl y → ∀ v, Loads C.env s₂.heap y v → Loads (C.comp sc cl A).env h y v := fun y hy v l => by
    obtain ⟨⟨c, h1, h2⟩, hout, hinn⟩ := hy
    rcases l with ⟨a, _⟩ | ⟨a, c', b, o, ho, hd⟩
    · exact absurd a hout
    · rw [h2] at b; cases b
      exact .inr ⟨hinn A, c, h1, o, hk1 c o (fun q => by rw [q, hoI] at ho; cases ho; rw [hdI] at hd; cases hd) ho, hd⟩
  exact {
    fun_ := by simp [Cx.comp, compEnvC, relabel, at'.kind]
    genv := H.genv
    units := H.units
    depth := H.depth
    glob := H.glob
    nolim := H.nolim
    sub := fun a ha => by cases ha
    alive := fun a ha => let ⟨o, ho⟩ := H.alive a ha; ⟨o, hk1 a o (fun q => hIW (q ▸ ha)) ho⟩
    base := fun b o e => hk1 b o (fun q => by rw [q, hB] at e; cases e) (H.base b o e)
    low := H.low
    frm := fun a ha => by cases ha
    slot := fun y sl hm' => by
      rcases List.mem_cons.mp hm' with q | q
      · cases q
        exact ⟨v, .inl ⟨lookup_relabel_local at'.var, m, hn, hm⟩, r⟩
      · obtain ⟨q1, q2⟩ := see _ q
        have z := H.slot y sl q1
        cases sl with
        | val d => obtain ⟨v, l, r⟩ := z; exact ⟨v, ld y q2 v l, Rd.seqs sq _ _ r⟩
        | own ds => obtain ⟨a, its, n, l, h1, h2, h3, h4⟩ := z; exact ⟨a, its, n, ld y q2 _ l, h1, (by simp), hk1 a _ (fun q => hIW (q ▸ h1)) h3, RdL.seqs sq _ _ h4⟩ }
theorem leaves_of {W : List Addr} {h : Heap} {ds : List PyData} {vs : List Value} (hl : ds.all leaf = true) (hlen : vs.length = ds.length) (hP : ∀ (j : Nat) v, vs[j]? = some v → ∃ d, ds[j]? = some d ∧ Rd W h d v) : vs.map leafOf = ds := by
  apply List.ext_getElem?
  intro j
  rw [List.getElem?_map]
  cases q : vs[j]? with
  | none =>
    have : ds.length ≤ j := by rw [← hlen]; exact List.getElem?_eq_none_iff.mp q
    simp [this]
  | some v =>
    obtain ⟨d, hd, r⟩ := hP j v q
    rw [hd]
    exact congrArg some (leafOf_rd (List.all_eq_true.mp hl d (List.mem_of_getElem? hd)) r)
theorem paired_rdl {W : List Addr} {h : Heap} {f : PyData → PyData} : ∀ {us zs : List Value}, Paired (fun v y => leaf (f (leafOf v)) = true ∧ Rd [] {} (f (leafOf v)) y) us zs → RdL W h (us.map fun v => f (leafOf v)) zs := by
  intro us zs p
  induction p with
  | nil => exact RdL.nil
  | cons h _ ih => exact RdL.cons (h.2.leaf h.1) ih
theorem comp_quiet {sc : Scope} {cl : List (Str × Addr)} {x : Str} {σc : Loc} {ifs : List Expr} {elt : Expr} {ds : List PyData} {pd : PyData → Bool} {f : PyData → PyData} {W : List Addr} {s s₂ : Shared} {I : Addr} {P : Nat → Value → Prop} (at' : CompAt C sc cl x) (see : Sees C sc cl x σ σc) (ok : CompOk C sc cl x σc ifs elt ds pd f)
    (H : Has C σ W s.heap) (K : Kept C.F s s₂) (hnew : s.heap.get? I = none) (hI : ∃ o vs, s₂.heap.get? I = some o ∧ o.data = .fields vs)
    (hP : ∀ i v, i < ds.length → P i v → ∃ d, ds[i]? = some d ∧ Rd (I :: W) s₂.heap d v) :
    QuietOnC C.prog C.w C.A C.env sc cl x ifs elt [I] (fun i v => i < ds.length ∧ P i v) (fun v => pd (leafOf v)) (fun v y => leaf (f (leafOf v)) = true ∧ Rd [] {} (f (leafOf v)) y) s₂ := by
  have base : ∀ A i v (s₃ : Shared) m₃, (i < ds.length ∧ P i v) → s₃.heap.Ns A m₃ → m₃ x = some v → (∀ b o, b ∉ [I] → s₂.heap.get? b = some o → s₃.heap.get? b = some o) →
      ∃ d, d ∈ ds ∧ leafOf v = d ∧ Has (C.comp sc cl A) ((x, .val d) :: σc) W s₃.heap := fun A i v s₃ m₃ hp hn hm hk => by
    obtain ⟨d, hd, r⟩ := hP i v hp.1 hp.2
    have hmem := List.mem_of_getElem? hd
    have hlf := List.all_eq_true.mp ok.leaves d hmem
    exact ⟨d, hmem, leafOf_rd hlf r, comp_has at' see H (H.kept K) hnew hI hk hn hm (r.leaf hlf)⟩
  constructor
  · intro A i v s₃ m₃ E' hA hp hn hm hk ht
    obtain ⟨d, hmem, hlf, H'⟩ := base A i v s₃ m₃ hp hn hm hk
    exact ok.tests A d hmem W s₃ _ E' H' fun s' K' => ⟨by rw [hlf], K'.all⟩
  · intro A i v s₃ m₃ E' hA hp hpv hn hm hk ht
    obtain ⟨d, hmem, hlf, H'⟩ := base A i v s₃ m₃ hp hn hm hk
    rw [hlf] at hpv
    refine ok.elt A d hmem hpv W s₃ _ E' H' fun s' v' K' r' => ⟨?_, K'.all⟩
    rw [hlf]
    exact ⟨ok.outs d hmem hpv, r'.leaf (ok.outs d hmem hpv)⟩
theorem walks_lt {prog : Program} {w : World} {A : Around} {I : Addr} {fp wr : List Addr} {n : Nat} {P : Nat → Value → Prop} {ST : Nat → Heap → Prop} (Wk : Walks prog w A I fp wr n P ST) : Walks prog w A I fp wr n (fun i v => i < n ∧ P i v) ST where
  sub := Wk.sub
  frame := Wk.frame
  item := fun i s Q E hi st hQ => Wk.item i s Q E hi st fun v h' tk hp => hQ v h' tk ⟨hi, hp⟩
  done := Wk.done
  self := Wk.self
theorem comp_end {ds : List PyData} {pd : PyData → Bool} {f : PyData → PyData} {W W' : List Addr} {s₂ : Shared} {I : Addr} {P : Nat → Value → Prop} {vs : List Value} {ys : Array Value} {h' : Heap} (hl : ds.all leaf = true)
    (hP : ∀ i v, i < ds.length → P i v → ∃ d, ds[i]? = some d ∧ Rd (I :: W) s₂.heap d v) (hlen : vs.length = ds.length) (hP' : ∀ (j : Nat) v, vs[j]? = some v → j < ds.length ∧ P j v)
    (hF : Paired (fun v y => leaf (f (leafOf v)) = true ∧ Rd [] {} (f (leafOf v)) y) (vs.filter fun v => pd (leafOf v)) ys.toList) : RdL W' h' ((ds.filter pd).map f) ys.toList := by
  have e := leaves_of hl hlen (fun j v hj => hP j v (hP' j v hj).1 (hP' j v hj).2)
  have := paired_rdl (W := W') (h := h') hF
  rw [← e, List.filter_map, List.map_map]
  exact this
theorem En_comp {elt iter : Expr} {x : Str} {px pos : Pos} {ifs : List Expr} {sc : Scope} {cl : List (Str × Addr)} {σc : Loc} {ds : List PyData} {pd : PyData → Bool} {f : PyData → PyData} (hi : Iter C σ iter ds) (at' : CompAt C sc cl x) (see : Sees C sc cl x σ σc)
    (ok : CompOk C sc cl x σc ifs elt ds pd f) (hz : ds.length ≤ sizeLine) (hs : ∀ v, foldedSetIterable iter C.env v = pure v) : En C σ (.ListComp elt [⟨.Name x px, iter, ifs, 0⟩] sc pos) ((ds.filter pd).map f) := fun W s Q E H k =>
  wpAny_ListComp_free (fun v => pd (leafOf v)) (fun v y => leaf (f (leafOf v)) = true ∧ Rd [] {} (f (leafOf v)) y) at'.clos at'.cell at'.kind at'.names at'.var (hi W s _ E H fun s₂ I K T => by
    obtain ⟨⟨fp, P, ST, Wk, st0, hfp, hP, hST⟩, hnew⟩ := T
    refine ⟨I, fp, [I], ds.length, _, ST, rfl, walks_lt Wk, hz, st0, fun b hb => let ⟨_, o, ho⟩ := hfp b hb; Heap.lt_size ho, comp_quiet at' see ok H K hnew (hST _ _ st0) hP, ?_⟩
    intro D h' tk ys vs hD hl hpl hlen hP' hF hk
    obtain ⟨n, hn⟩ := hpl
    refine k _ D ys.toList n ⟨K.os, K.gens, fun b o hb e => ?_, fun b o e => ?_, K.drawn⟩ (none_of_kept K hD) (by simpa using hn) (comp_end ok.leaves hP hlen hP' hF)
    · exact hk b o (by rw [List.mem_singleton]; rintro rfl; rw [hnew] at e; cases e) (K.keep b o hb e)
    · obtain ⟨sl, z⟩ := K.slots b o e
      exact ⟨sl, hk b _ (by rw [List.mem_singleton]; rintro rfl; rw [hnew] at e; cases e) z⟩) hs
end
end Mine
end
section
open PySem PySem.Spec PySem.Calls PyProof.Rows PySem.W PySem.Builtin PySem.Builtin.Str
namespace Mine
section
variable {C : Cx} {σ : Loc} {R : Out → Loc → Prop}
theorem St.put {α : Own} {s s' : Shared} {I : Addr} {x : Str} {d : PyData} {v : Value} {m : Str → Option Value} {σ' : Loc} (S : St C α σ s) (hk : ∀ b o, b ≠ C.env.locals → b ≠ I → s.heap.get? b = some o → s'.heap.get? b = some o)
    (hI : I ∉ C.W α) (hIo : ∃ o vs, s.heap.get? I = some o ∧ o.data = .fields vs) (hB : C.B.get? I = none) (hp' : ∀ p ∈ C.K, p.1 ≠ I) (hx : C.env.kindOf x = some .local) (hm : s.heap.Ns C.env.locals m) (hn : s'.heap.Ns C.env.locals (fun z => if z = x then some v else m z))
    (r : Rd (C.W α) s'.heap d v) (u : Upd σ x (.val d) σ') : St C α σ' s' := by
  have LW : C.env.locals ∈ C.W α := W_F α _ S.L
  have nL : C.env.locals ≠ I := fun q => hI (q ▸ LW)
  obtain ⟨oI, vs, hoI, hdI⟩ := hIo
  obtain ⟨oL, es, ep, hoL, hdL, _⟩ := id hm
  have hk2 : ∀ b o, s.heap.get? b = some o → (∀ vs, o.data ≠ .fields vs) → (∀ es ep, o.data ≠ .dict es ep) → s'.heap.get? b = some o := fun b o e h1 h2 =>
    hk b o (fun q => by rw [q, hoL] at e; cases e; exact h2 _ _ hdL) (fun q => by rw [q, hoI] at e; cases e; exact h1 _ hdI) e
  have cl : ∀ {c v}, s.heap.IsCell c v → s'.heap.IsCell c v := fun ⟨o, ho, hd⟩ => ⟨o, hk2 _ o ho (fun _ q => by rw [hd] at q; cases q) (fun _ _ q => by rw [hd] at q; cases q), hd⟩
  have sq0 : ∀ b o xs n, o.data = .seq xs n → s.heap.get? b = some o → s'.heap.get? b = some o := fun b o xs n hd e => hk2 b o e (fun _ q => by rw [hd] at q; cases q) (fun _ _ q => by rw [hd] at q; cases q)
  have sq : ∀ b o, b ∉ C.W α → Hold o → s.heap.get? b = some o → b ∉ C.W α ∧ s'.heap.get? b = some o := fun b o hb hd e => ⟨hb, hk b o (fun q => hb (by rw [q]; exact LW)) (fun q => by rw [q, hoI] at e; cases e; rcases hd with ⟨_, _, hd⟩ | ⟨_, _, hd⟩ <;> (rw [hdI] at hd; cases hd)) e⟩
  have ld : ∀ {y v}, y ≠ x → Loads C.env s.heap y v → Loads C.env s'.heap y v := fun {y v} hy l => by
    rcases l with ⟨a, m', b, c⟩ | ⟨a, c, b, d⟩
    · have := Ns_unique hm b; subst this
      exact .inl ⟨a, _, hn, by simp [hy, c]⟩
    · exact .inr ⟨a, c, b, cl d⟩
  have own' : ∀ y ds, (y, Slot.own ds) ∈ σ' → ∃ a its n, α.lookup y = some a ∧ Loads C.env s'.heap y (.ref a) ∧ s'.heap.get? a = some (lO its n) ∧ RdL (C.W α) s'.heap ds its := fun y ds hy => by
    rcases u _ hy with q | q
    · cases q
    · obtain ⟨a, its, n, h1, h2, h3, h4⟩ := S.own y ds q.1
      exact ⟨a, its, n, h1, ld q.2 h2, sq0 a _ _ _ rfl h3, RdL.seqs sq _ _ h4⟩
  have alive : ∀ a o, a ≠ I → s.heap.get? a = some o → ∃ o, s'.heap.get? a = some o := fun a o hne e => by
    by_cases q : a = C.env.locals
    · obtain ⟨o', _, _, z, _⟩ := hn
      exact ⟨o', q ▸ z⟩
    · exact ⟨o, hk a o q hne e⟩
  exact {
    has := { S.has with
      alive := fun a ha => let ⟨o, ho⟩ := S.has.alive a ha; alive a o (fun q => hI (q ▸ ha)) ho
      base := fun b o e => hk b o (fun q => by rw [q, S.has.low _ LW] at e; cases e) (fun q => by rw [q, hB] at e; cases e) (S.has.base b o e)
      frm := fun a ha => by
        obtain ⟨o, es, ep, ho, hd⟩ := S.has.frm a ha
        by_cases q : a = C.env.locals
        · obtain ⟨o', es', ep', z, hd', _⟩ := hn
          exact ⟨o', es', ep', q ▸ z, hd'⟩
        · exact ⟨o, es, ep, hk a o q (fun q => hI (q ▸ W_F α a ha)) ho, hd⟩
      slot := fun y sl hy => by
        cases sl with
        | val d' =>
          rcases u _ hy with q | q
          · cases q
            exact ⟨v, .inl ⟨hx, _, hn, by simp⟩, r⟩
          · obtain ⟨v', l, r'⟩ := S.has.slot y _ q.1
            exact ⟨v', ld q.2 l, Rd.seqs sq _ _ r'⟩
        | own ds =>
          obtain ⟨a, its, n, h1, h2, h3, h4⟩ := own' y ds hy
          have hm' := List.mem_map_of_mem (f := (·.2)) (mem_of_lookup h1)
          exact ⟨a, its, n, h2, List.mem_append_right _ hm', fun q => S.off a hm' (List.mem_append_left _ q), h3, h4⟩ }
    L := S.L
    ns := ⟨_, hn⟩
    cells := fun x c h => let ⟨v, e⟩ := S.cells x c h; ⟨v, cl e⟩
    apart := S.apart
    cF := S.cF
    nodup := S.nodup
    off := S.off
    own := own'
    pin := fun p hp => ⟨(S.pin p hp).1, hk _ _ (fun q => (S.pin p hp).1 (by rw [q]; exact LW)) (hp' p hp) (S.pin p hp).2⟩
    lst := fun a ha => let ⟨o, its, n, ho, hd⟩ := S.lst a ha; ⟨o, its, n, sq0 a o _ _ hd ho, hd⟩ }
theorem Ex_assign_comp {elt iter : Expr} {x y : Str} {px py pos spos : Pos} {ifs : List Expr} {sc : Scope} {cl : List (Str × Addr)} {σc σ' : Loc} {ds : List PyData} {pd : PyData → Bool} {f : PyData → PyData}
    (hi : Iter C σ iter ds) (at' : CompAt C sc cl x) (see : Sees C sc cl x σ σc) (ok : CompOk C sc cl x σc ifs elt ds pd f) (hz : ds.length ≤ sizeLine)
    (hsw : swapsWith (.ListComp elt [⟨.Name x px, iter, ifs, 0⟩] sc pos) (some (.Name y py)) spos.line C.env = pure true) (hy : C.env.kindOf y = some .local) (u : Upd σ y (.val (.list ((ds.filter pd).map f))) σ') (hR : R .next σ')
    (hs : ∀ v, foldedSetIterable iter C.env v = pure v) : Ex C σ (.Assign [.Name y py] (.ListComp elt [⟨.Name x px, iter, ifs, 0⟩] sc pos) spos) R := fun α s Q E hE S k kE =>
  wpAny_Assign_ListComp_free (fun v => pd (leafOf v)) (fun v y => leaf (f (leafOf v)) = true ∧ Rd [] {} (f (leafOf v)) y) hsw at'.clos at'.cell at'.kind at'.names at'.var hy (storeName_plain_kind S.has.fun_) (hi (C.W α) s _ E S.has fun s₂ I K T => by
    obtain ⟨⟨fp, P, ST, Wk, st0, hfp, hP, hST⟩, hnew⟩ := T
    have S₂ := S.kept K
    obtain ⟨m, hm⟩ := S₂.ns
    have hIW : I ∉ C.W α := S.has.of_none hnew
    have LW : C.env.locals ∈ C.W α := W_F α _ S.L
    refine ⟨I, fp, [I], ds.length, _, ST, m, rfl, walks_lt Wk, hz, st0, fun b hb => let ⟨_, o, ho⟩ := hfp b hb; Heap.lt_size ho, by rw [List.mem_singleton]; exact fun q => hIW (q ▸ LW), hm, comp_quiet at' see ok S.has K hnew (hST _ _ st0) hP, ?_⟩
    intro D h' tk ys vs hD hl hpl hlen hP' hF hn hk
    obtain ⟨n, hD'⟩ := hpl
    have hB : C.B.get? I = none := by
      cases q : C.B.get? I with
      | none => rfl
      | some o => have := S.has.base I o q; rw [hnew] at this; cases this
    have hDW : D ∉ C.W α := S₂.has.of_none hD
    have ne : ∀ {b o}, s.heap.get? b = some o → b ∉ [I] := fun e => by rw [List.mem_singleton]; rintro rfl; rw [hnew] at e; cases e
    have y0 : Stays C (C.W α) s s₂ := K.stays (W_F α)
    refine k .next _ α σ' _ hR (S₂.put (v := .ref D) (fun b o h1 h2 e => hk b o h1 (by simpa using h2) e) hIW (hST _ _ st0) hB (fun p hp q => by have := (S.pin p hp).2; rw [q, hnew] at this; cases this) hy hm hn (Rd.list (its := ys.toList) hDW (by simpa using hD') (comp_end ok.leaves hP hlen hP' hF)) u)
      ⟨K.os, K.gens, fun b o hb e => ?_, fun b o hF hL e => ?_, fun b o e => ?_, fun b o hX e => hk b o (fun q => C.xF b hX (q ▸ S.L)) (ne e) (y0.ex b o hX e)⟩ (.refl _ _) .next
    · exact hk b o (fun q => hb (q ▸ LW)) (ne e) (y0.keep b o hb e)
    · obtain ⟨sl, z⟩ := y0.fr b o hF hL e
      exact ⟨sl, hk b _ hL (ne e) z⟩
    · obtain ⟨o', z⟩ := y0.alive b o e
      by_cases q : b = C.env.locals
      · obtain ⟨oL, _, _, zL, _⟩ := hn
        exact ⟨oL, q ▸ zL⟩
      · exact ⟨o', hk b o' q (ne e) z⟩) hs
end
end Mine
end
section
open PySem PySem.Spec PySem.Calls PyProof.Rows PySem.W PySem.Builtin PySem.Builtin.Str
namespace Mine
structure FunAt (B : Heap) (a : Addr) (name : Str) (params : Arguments) (body : List Stmt) (scope : Scope) (pm cd doc : Value) : Prop where
  obj : ∃ o, B.get? a = some o ∧ o.data = .func (docDef name params body scope pm cd doc)
  code : B.CodeRec cd name
structure Enter (name : Str) (params : Arguments) (body : List Stmt) (scope : Scope) (pm cd doc : Value) (names : List Str) : Prop where
  bind : ∀ vs : List Value, vs.length = names.length → bindArgs (docDef name params body scope pm cd doc) ⟨vs, []⟩ = pure (names.zip vs)
  kinds : ∀ x ∈ names, scope.names.lookup x = some .local ∨ (scope.names.lookup x = some .cell ∧ ∀ L, ((cellsFrom (L + 1) scope.names []).lookup x).isSome = true)
  nd : names.Nodup
  co : scope.isCoroutine = false
  gen : scope.isGenerator = false
  kind : scope.kind = .function
  cells : ∀ L p, p ∈ cellsFrom (L + 1) scope.names [] → (cellsFrom (L + 1) scope.names []).lookup p.1 = some p.2
theorem bindL_off {kf : Str → Option NameKind} {x : Str} : ∀ {bs : List (Str × Value)} {m : Str → Option Value}, x ∉ bs.map (·.1) → bindL kf bs m x = m x
  | [], m, _ => rfl
  | (n, v) :: r, m, h => by
    rw [List.map_cons, List.mem_cons, not_or] at h
    unfold bindL
    rw [bindL_off h.2]
    by_cases q : kf n = some .local
    · rw [if_pos q, if_neg h.1]
    · rw [if_neg q]
theorem bindL_get {kf : Str → Option NameKind} {x : Str} {v : Value} (hk : kf x = some .local) : ∀ {bs : List (Str × Value)} {m : Str → Option Value}, (bs.map (·.1)).Nodup → (x, v) ∈ bs → bindL kf bs m x = some v
  | (n, v') :: r, m, nd, h => by
    rw [List.map_cons, List.nodup_cons] at nd
    unfold bindL
    rcases List.mem_cons.mp h with q | q
    · cases q
      rw [bindL_off nd.1, if_pos hk, if_pos rfl]
    · exact bindL_get hk nd.2 q
theorem bindC_off {kf : Str → Option NameKind} {x : Str} : ∀ {bs : List (Str × Value)} {m : Str → Option Value}, x ∉ bs.map (·.1) → bindC kf bs m x = m x
  | [], m, _ => rfl
  | (n, v) :: r, m, h => by
    rw [List.map_cons, List.mem_cons, not_or] at h
    unfold bindC
    rw [bindC_off h.2]
    by_cases q : kf n = some .local
    · rw [if_pos q]
    · rw [if_neg q, if_neg h.1]
theorem bindC_get {kf : Str → Option NameKind} {x : Str} {v : Value} (hk : kf x ≠ some .local) : ∀ {bs : List (Str × Value)} {m : Str → Option Value}, (bs.map (·.1)).Nodup → (x, v) ∈ bs → bindC kf bs m x = some v
  | (n, v') :: r, m, nd, h => by
    rw [List.map_cons, List.nodup_cons] at nd
    unfold bindC
    rcases List.mem_cons.mp h with q | q
    · cases q
      rw [bindC_off nd.1, if_neg hk, if_pos rfl]
    · exact bindC_get hk nd.2 q
noncomputable def calleeCx (C : Cx) (name : Str) (scope : Scope) (a : Addr) (cd : Value) (L : Addr) (X : List Addr) (h1 : ∀ b ∈ X, b ∉ L :: C.F) (h2 : ∀ p ∈ cellsFrom (L + 1) scope.names [], p.2 ∉ X) : Cx :=
  { prog := C.prog, w := C.w, A := C.A.deeper (envOfC name scope L a cd), env := envOfC name scope L a cd, F := L :: C.F, B := C.B, X := X, xF := h1, xC := h2, K := [] }
noncomputable def ArgIs (W : List Addr) (α : Own) (h : Heap) (x : Str) (v : Value) : Slot → Prop
  | .val d => Rd W h d v
  | .own ds => ∃ a its n, v = .ref a ∧ α.lookup x = some a ∧ h.get? a = some (lO its n) ∧ RdL W h ds its
section
variable {C : Cx} {name : Str} {params : Arguments} {body : List Stmt} {scope : Scope} {pm cd doc : Value} {names : List Str} {a : Addr}
theorem call_run {W : List Addr} {s : Shared} {vs : List Value} {Q : Value → Shared → Prop} {E : Value → Shared → Prop} {α₀ : Own} {sls : List Slot} {R : Out → Loc → Prop}
    (fa : FunAt C.B a name params body scope pm cd doc) (en : Enter name params body scope pm cd doc names) (hd : C.A.depth + 1 < recursionLimit) (hu : C.A.units + 303 < cLine)
    (H : Has C [] W s.heap) (hα : ∀ b ∈ α₀.map (·.2), b ∈ W ∧ b ∉ C.F) (hαl : ∀ b ∈ α₀.map (·.2), ∃ o its n, s.heap.get? b = some o ∧ o.data = .seq its n) (nd : (α₀.map (·.2)).Nodup) (hlen : vs.length = names.length)
    (hargs : ∀ x v sl, (x, v) ∈ names.zip vs → (x, sl) ∈ names.zip sls → ArgIs W α₀ s.heap x v sl)
    (hzip : ∀ x sl, (x, sl) ∈ names.zip sls → ∃ v, (x, v) ∈ names.zip vs)
    (hbody : ∀ L X h1 h2, Exs (calleeCx C name scope a cd L X h1 h2) (names.zip sls) body R)
    (hx : ∀ cls σ', ¬ R (.exc cls) σ')
    (k : ∀ (C' : Cx) α' σ' fl f s', R fl σ' → (∀ b ∈ W, b ∈ C'.W α₀) → (∀ b ∈ W, b ∈ C'.M ∨ b ∈ α₀.map (·.2)) → FlowIs C' α' s' fl f → s'.os = s.os → s'.gens = s.gens →
      (∀ b o, b ∉ C.F → b ∉ α₀.map (·.2) → s.heap.get? b = some o → s'.heap.get? b = some o) → (∀ b o, b ∈ C.F → s.heap.get? b = some o → ∃ sl, s'.heap.get? b = some { o with slots := sl }) →
      (∀ b o, s.heap.get? b = some o → ∃ o', s'.heap.get? b = some o') → New α₀ α' s → Q (match f with | .ret v => v | _ => .none) s') :
    wpAny (model C.prog C.w) C.A (call (.ref a) vs) Q E s := by
  obtain ⟨⟨o, hoB, hdat⟩, hcd⟩ := fa
  refine wpAny_call (call_cells_ret (Nat.lt_of_succ_lt hd) (H.base a o hoB) hdat (H.nolim.keeps H.base) (hcd.keeps H.base) (en.bind vs hlen) ?_ (fun h₁ tk Fr₁ Cl₁ => ?_) en.co en.gen en.kind)
  · intro x hx
    rcases en.kinds x.1 (List.of_mem_zip hx).1 with q | q
    · exact .inl q
    · exact .inr ⟨q.1, q.2 _⟩
  · have keys : ((names.zip vs).map (·.1)) = names := by
      rw [← List.unzip_fst, List.unzip_zip_left]; walk_at "mine:om"
    have ndk : ((names.zip vs).map (·.1)).Nodup := by rw [keys]; exact en.nd
    have lt : ∀ {b o}, s.heap.get? b = some o → b < s.heap.objs.size := fun e => Heap.lt_size e
    have Wlt : ∀ {b}, b ∈ W → b < s.heap.objs.size := fun hb => let ⟨o, ho⟩ := H.alive _ hb; lt ho
    let X := W.filter fun b => decide (b ∉ C.F) && decide (b ∉ α₀.map (·.2))
    have hX : ∀ {b}, b ∈ X ↔ b ∈ W ∧ b ∉ C.F ∧ b ∉ α₀.map (·.2) := fun {b} => by simp [X]
    have h1 : ∀ b ∈ X, b ∉ s.heap.objs.size :: C.F := fun b hb => by
      rw [hX] at hb
      rw [List.mem_cons, not_or]
      exact ⟨Nat.ne_of_lt (Wlt hb.1), hb.2.1⟩
    have h2 : ∀ p ∈ cellsFrom (s.heap.objs.size + 1) scope.names [], p.2 ∉ X := fun p hp hb => by
      rw [hX] at hb
      exact Nat.lt_asymm (Wlt hb.1) (Cl₁.above p.1 p.2 hp)
    let C' := calleeCx C name scope a cd s.heap.objs.size X h1 h2
    have memM : ∀ {b}, b ∈ C'.M ↔ b = s.heap.objs.size ∨ b ∈ C.F ∨ b ∈ X ∨ b ∈ (cellsFrom (s.heap.objs.size + 1) scope.names []).map (·.2) := fun {b} => by
      show b ∈ (s.heap.objs.size :: C.F) ++ (X ++ (cellsFrom (s.heap.objs.size + 1) scope.names []).map (·.2)) ↔ _
      simp only [List.mem_append, List.mem_cons, or_assoc]
    have cellGt : ∀ {b}, b ∈ (cellsFrom (s.heap.objs.size + 1) scope.names []).map (·.2) → s.heap.objs.size < b := fun {b} hb => by
      obtain ⟨p, hp, rfl⟩ := List.mem_map.mp hb
      exact Cl₁.above p.1 p.2 hp
    have WM : ∀ b ∈ W, b ∈ C'.M ∨ b ∈ α₀.map (·.2) := fun b hb => by
      by_cases q : b ∈ C.F
      · exact .inl (memM.mpr (.inr (.inl q)))
      · by_cases q' : b ∈ α₀.map (·.2)
        · exact .inr q'
        · exact .inl (memM.mpr (.inr (.inr (.inl (hX.mpr ⟨hb, q, q'⟩)))))
    have WW : ∀ b ∈ W, b ∈ C'.W α₀ := fun b hb => by
      rcases WM b hb with q | q
      · exact List.mem_append_left _ q
      · exact List.mem_append_right _ q
    have back : ∀ {b o}, s.heap.get? b = some o → b ∈ C'.W α₀ → b ∈ W := fun {b o} e hb => by
      rcases List.mem_append.mp hb with q | q
      · rcases memM.mp q with q | q | q | q
        · exact absurd (lt e) (by rw [q]; exact Nat.lt_irrefl _)
        · exact H.sub b q
        · exact (hX.mp q).1
        · exact absurd (lt e) (Nat.not_lt.mpr (Nat.le_of_lt (cellGt q)))
      · exact (hα b q).1
    have rd : ∀ {d v}, Rd W s.heap d v → Rd (C'.W α₀) h₁ d v := fun {d v} => Rd.mono (fun b o nb e => ⟨fun m => nb (back e m), Fr₁.keep b o e⟩) d v
    have rdl : ∀ {d v}, RdL W s.heap d v → RdL (C'.W α₀) h₁ d v := fun {d v} => RdL.mono (fun b o nb e => ⟨fun m => nb (back e m), Fr₁.keep b o e⟩) d v
    have kd : ∀ {x}, C'.env.kindOf x = scope.names.lookup x := fun {x} => rfl
    have loads : ∀ x v, (x, v) ∈ names.zip vs → Loads C'.env h₁ x v := fun x v hm => by
      rcases en.kinds x (List.of_mem_zip hm).1 with q | q
      · exact .inl ⟨q, _, Fr₁.ns, bindL_get (kf := (envOfC name scope s.heap.objs.size a cd).kindOf) q ndk hm⟩
      · obtain ⟨c, hc⟩ := Option.isSome_iff_exists.mp (q.2 s.heap.objs.size)
        refine .inr ⟨.inl q.1, c, hc, ?_⟩
        have := Cl₁.cell x c hc
        rwa [bindC_get (kf := (envOfC name scope s.heap.objs.size a cd).kindOf) (by show scope.names.lookup x ≠ _; rw [q.1]; decide) ndk hm] at this
    have argsOk : ∀ x sl, (x, sl) ∈ names.zip sls → ∃ v, Loads C'.env h₁ x v ∧ ArgIs W α₀ s.heap x v sl := fun x sl hm => by
      obtain ⟨v, hv⟩ := hzip x sl hm
      exact ⟨v, loads x v hv, hargs x v sl hv hm⟩
    have ownOk : ∀ x ds, (x, Slot.own ds) ∈ names.zip sls → ∃ b its n, α₀.lookup x = some b ∧ Loads C'.env h₁ x (.ref b) ∧ h₁.get? b = some (lO its n) ∧ RdL (C'.W α₀) h₁ ds its := fun x ds hm => by
      obtain ⟨v, l, b, its, n, rfl, q1, q2, q3⟩ := argsOk x _ hm
      exact ⟨b, its, n, q1, l, Fr₁.keep _ _ q2, rdl q3⟩
    have Bnone : ∀ {b}, s.heap.objs.size ≤ b → C.B.get? b = none := fun {b} hb => by
      cases q : C.B.get? b with
      | none => rfl
      | some o => exact absurd (lt (H.base b o q)) (Nat.not_lt.mpr hb)
    have offα : ∀ b ∈ α₀.map (·.2), b ∉ C'.M := fun b hb hM => by
      have hb' := hα b hb
      rcases memM.mp hM with q | q | q | q
      · exact absurd (Wlt hb'.1) (by rw [q]; exact Nat.lt_irrefl _)
      · exact hb'.2 q
      · exact (hX.mp q).2.2 hb
      · exact absurd (Wlt hb'.1) (Nat.not_lt.mpr (Nat.le_of_lt (cellGt q)))
    have hHas : Has C' (names.zip sls) (C'.W α₀) h₁ := {
      fun_ := en.kind
      genv := ⟨rfl, rfl⟩
      units := by show C.A.units + 3 + 300 < cLine; walk_at "mine:om"
      depth := hd
      glob := H.glob
      nolim := H.nolim
      sub := fun b hb => List.mem_append_left _ (Cx.fM hb)
      alive := fun b hb => by
        rcases List.mem_append.mp hb with q | q
        · rcases memM.mp q with q | q | q | q
          · subst q; obtain ⟨o, _, _, ho, _⟩ := Fr₁.ns; exact ⟨o, ho⟩
          · obtain ⟨o, ho⟩ := H.alive b (H.sub b q); exact ⟨o, Fr₁.keep _ _ ho⟩
          · obtain ⟨o, ho⟩ := H.alive b (hX.mp q).1; exact ⟨o, Fr₁.keep _ _ ho⟩
          · obtain ⟨p, hp, rfl⟩ := List.mem_map.mp q
            obtain ⟨o, ho, _⟩ := Cl₁.cell p.1 p.2 (en.cells _ _ hp)
            exact ⟨o, ho⟩
        · obtain ⟨o, ho⟩ := H.alive b (hα b q).1; exact ⟨o, Fr₁.keep _ _ ho⟩
      base := fun b o e => Fr₁.keep _ _ (H.base b o e)
      low := fun b hb => by
        rcases List.mem_append.mp hb with q | q
        · rcases memM.mp q with q | q | q | q
          · exact Bnone (Nat.le_of_eq q.symm)
          · exact H.low b (H.sub b q)
          · exact H.low b (hX.mp q).1
          · exact Bnone (Nat.le_of_lt (cellGt q))
        · exact H.low b (hα b q).1
      frm := fun b hb => by
        rcases List.mem_cons.mp hb with q | q
        · subst q; obtain ⟨o, es, ep, ho, hd, _⟩ := Fr₁.ns; exact ⟨o, es, ep, ho, hd⟩
        · obtain ⟨o, es, ep, ho, hd⟩ := H.frm b q; exact ⟨o, es, ep, Fr₁.keep _ _ ho, hd⟩
      slot := fun x sl hm => by
        cases sl with
        | val d => obtain ⟨v, l, r⟩ := argsOk x _ hm; exact ⟨v, l, rd r⟩
        | own ds =>
          obtain ⟨b, its, n, q1, q2, q3, q4⟩ := ownOk x ds hm
          have hb := List.mem_map_of_mem (f := (·.2)) (mem_of_lookup q1)
          exact ⟨b, its, n, q2, List.mem_append_right _ hb, fun q => offα b hb (Cx.fM q), q3, q4⟩ }
    have S₁ : St C' α₀ (names.zip sls) { s with heap := h₁, toks := tk } := {
      has := hHas
      L := .head _
      ns := ⟨_, Fr₁.ns⟩
      cells := fun x c hc => ⟨_, Cl₁.cell x c hc⟩
      apart := Cl₁.apart
      cF := fun x c hc q => by
        have := Cl₁.above x c hc
        rcases List.mem_cons.mp q with q | q
        · exact absurd this (by rw [q]; exact Nat.lt_irrefl _)
        · exact Nat.lt_asymm this (Wlt (H.sub c q))
      nodup := nd
      off := offα
      own := ownOk
      pin := fun p hp => nomatch hp
      lst := fun b hb => let ⟨o, its, n, ho, hd⟩ := hαl b hb; ⟨o, its, n, Fr₁.keep _ _ ho, hd⟩ }
    refine hbody s.heap.objs.size X h1 h2 α₀ _ _ _ GoodE.never S₁ (fun fl f α' σ' s' r S' y n F => ?_) (fun cls e α' σ' s' r _ _ _ _ => hx cls σ' r)
    refine k C' α' σ' fl f s' r WW WM F y.os y.gens (fun b o h3 h4 e => ?_) (fun b o h3 e => ?_) (fun b o e => y.alive b o (Fr₁.keep b o e)) (fun b hb => ?_)
    · by_cases q : b ∈ C'.W α₀
      · have hW := back e q
        exact y.ex b o (hX.mpr ⟨hW, h3, h4⟩) (Fr₁.keep _ _ e)
      · exact y.keep b o q (Fr₁.keep _ _ e)
    · exact y.fr b o (.tail _ h3) (Nat.ne_of_lt (lt e)) (Fr₁.keep _ _ e)
    · rcases n b hb with q | q
      · exact .inl q
      · refine .inr ?_
        cases z : s.heap.get? b with
        | none => rfl
        | some o => have := Fr₁.keep _ _ z; rw [q] at this; cases this
noncomputable def FnOk (C : Cx) (a : Addr) (args : List PyData) (res : PyData) : Prop :=
  ∀ (W : List Addr) (s : Shared) (vs : List Value) (Q : Value → Shared → Prop) (E : Value → Shared → Prop), Has C [] W s.heap → RdL W s.heap args vs → (∀ s' v, Kept C.F s s' → Rd W s'.heap res v → Q v s') →
    wpAny (model C.prog C.w) C.A (call (.ref a) vs) Q E s
noncomputable def FnNew (C : Cx) (a : Addr) (args : List PyData) (ds : List PyData) : Prop :=
  ∀ (W : List Addr) (s : Shared) (vs : List Value) (Q : Value → Shared → Prop) (E : Value → Shared → Prop), Has C [] W s.heap → RdL W s.heap args vs →
    (∀ s' a its n, Kept C.F s s' → s.heap.get? a = none → s'.heap.get? a = some (lO its n) → RdL (a :: W) s'.heap ds its → Q (.ref a) s') →
    wpAny (model C.prog C.w) C.A (call (.ref a) vs) Q E s
theorem zip_args {W : List Addr} {h : Heap} : ∀ {names : List Str} {args : List PyData} {vs : List Value}, RdL W h args vs → ∀ x v sl, names.Nodup → (x, v) ∈ names.zip vs → (x, sl) ∈ names.zip (args.map Slot.val) → ArgIs W [] h x v sl
  | [], _, _, _, x, v, sl, _, h1, _ => by simp at h1
  | n :: names, [], vs, _, x, v, sl, _, _, h2 => by simp at h2
  | n :: names, d :: args, vs, r, x, v, sl, nd, h1, h2 => by
    obtain ⟨v₀, r₀, rfl, a, b⟩ := r.cons_inv
    rw [List.nodup_cons] at nd
    rw [List.zip_cons_cons, List.mem_cons] at h1
    rw [List.map_cons, List.zip_cons_cons, List.mem_cons] at h2
    rcases h1 with h1 | h1
    · rcases h2 with h2 | h2
      · cases h1; cases h2; exact a
      · cases h1; exact absurd (List.of_mem_zip h2).1 nd.1
    · rcases h2 with h2 | h2
      · cases h2; exact absurd (List.of_mem_zip h1).1 nd.1
      · exact zip_args b x v sl nd.2 h1 h2
theorem zip_some {names : List Str} {sls : List Slot} {vs : List Value} (hlen : sls.length = vs.length) : ∀ x sl, (x, sl) ∈ names.zip sls → ∃ v, (x, v) ∈ names.zip vs := fun x sl hm => by
  obtain ⟨i, hi⟩ := List.mem_iff_getElem?.mp hm
  rw [List.getElem?_zip_eq_some] at hi
  have : i < vs.length := by rw [← hlen]; exact (List.getElem?_eq_some_iff.mp hi.2).1
  exact ⟨vs[i], List.mem_iff_getElem?.mpr ⟨i, List.getElem?_zip_eq_some.mpr ⟨hi.1, List.getElem?_eq_getElem this⟩⟩⟩
theorem FnOk.of_body {args : List PyData} {res : PyData} {R : Out → Loc → Prop} (fa : FunAt C.B a name params body scope pm cd doc) (en : Enter name params body scope pm cd doc names) (hd : C.A.depth + 1 < recursionLimit) (hu : C.A.units + 303 < cLine)
    (hF : C.F ≠ []) (hlen : args.length = names.length) (hR : ∀ fl σ', R fl σ' → fl = .ret res)
    (hbody : ∀ L X h1 h2, Exs (calleeCx C name scope a cd L X h1 h2) (names.zip (args.map .val)) body R) : FnOk C a args res := fun W s vs Q E H r k =>
  call_run (α₀ := []) (R := R) fa en hd hu H (by simp) (by simp) (by simp) (by rw [r.length, hlen]) (fun x v sl h1 h2 => zip_args r x v sl en.nd h1 h2) (zip_some (by rw [List.length_map, r.length])) hbody
    (fun cls σ' hr => nomatch hR _ _ hr) fun C' α' σ' fl f s' hr hW hW' F ho hg hk hfr hal hn => by
      have := hR _ _ hr
      subst this
      cases F with
      | ret rd =>
        refine k s' _ ⟨ho, hg, fun b o h e => hk b o h (by simp) e, fun b o e => ?_, fun q => absurd q hF⟩ (Rd.mono (fun b o nb e => ⟨fun m => nb ?_, e⟩) _ _ rd)
        · by_cases q : b ∈ C.F
          · exact hfr b o q e
          · exact ⟨o.slots, hk b o q (by simp) e⟩
        · rcases hW' b m with q | q
          · exact List.mem_append_left _ q
          · simp at q
theorem FnNew.of_body {args : List PyData} {ds : List PyData} {R : Out → Loc → Prop} (fa : FunAt C.B a name params body scope pm cd doc) (en : Enter name params body scope pm cd doc names) (hd : C.A.depth + 1 < recursionLimit) (hu : C.A.units + 303 < cLine)
    (hF : C.F ≠ []) (hlen : args.length = names.length) (hR : ∀ fl σ', R fl σ' → fl = .retOwn ds)
    (hbody : ∀ L X h1 h2, Exs (calleeCx C name scope a cd L X h1 h2) (names.zip (args.map .val)) body R) : FnNew C a args ds := fun W s vs Q E H r k =>
  call_run (α₀ := []) (R := R) fa en hd hu H (by simp) (by simp) (by simp) (by rw [r.length, hlen]) (fun x v sl h1 h2 => zip_args r x v sl en.nd h1 h2) (zip_some (by rw [List.length_map, r.length])) hbody
    (fun cls σ' hr => nomatch hR _ _ hr) fun C' α' σ' fl f s' hr hW hW' F ho hg hk hfr hal hn => by
      have := hR _ _ hr
      subst this
      cases F with
      | retOwn hm ho' rd =>
        have hnew := (hn _ hm).resolve_left (by simp)
        refine k s' _ _ _ ⟨ho, hg, fun b o h e => hk b o h (by simp) e, fun b o e => ?_, fun q => absurd q hF⟩ hnew ho' (RdL.mono (fun b o nb e => ⟨fun m => nb ?_, e⟩) _ _ rd)
        · by_cases q : b ∈ C.F
          · exact hfr b o q e
          · exact ⟨o.slots, hk b o q (by simp) e⟩
        · rcases List.mem_cons.mp m with q | q
          · subst q; exact List.mem_append_right _ hm
          · rcases hW' b q with q | q
            · exact List.mem_append_left _ q
            · simp at q
variable {σ : Loc}
theorem Has.bare {W : List Addr} {h : Heap} (H : Has C σ W h) : Has C [] W h := { H with slot := fun x sl hm => nomatch hm }
theorem Ev_call {f : Str} {np pos : Pos} {e : Expr} {es : List Expr} {args : List PyData} {res : PyData} (hk : C.env.kindOf f = some .globalImplicit) (hm : (f, Value.ref a) ∈ gtable) (hd : (f == ("__debug__" : Str)) = false)
    (fa : ∃ name params body scope pm cd doc, FunAt C.B a name params body scope pm cd doc) (he : EvL C σ pos (e :: es) args) (hs : starEach (e :: es) C.env = (false, eval e C.env) :: starEach es C.env) (h : FnOk C a args res) :
    Ev C σ (.Call (.Name f np) (e :: es) [] pos) res := fun W s Q E H k => by
  obtain ⟨name, params, body, scope, pm, cd, doc, ⟨o, ho, hdat⟩, _⟩ := fa
  refine Call_name (global_sound H hk hm hd (callWith_def hdat (he W s _ E H fun s₁ vs K r => ⟨K.keep a o (fun q => ?_) (H.base a o ho), h W s₁ vs _ _ (H.kept K).bare r fun s₂ v K₂ r₂ => k s₂ v (K.trans K₂) r₂⟩) hs))
  rw [H.low a (H.sub a q)] at ho; cases ho
theorem En_call {f : Str} {np pos : Pos} {e : Expr} {es : List Expr} {args : List PyData} {ds : List PyData} (hk : C.env.kindOf f = some .globalImplicit) (hm : (f, Value.ref a) ∈ gtable) (hd : (f == ("__debug__" : Str)) = false)
    (fa : ∃ name params body scope pm cd doc, FunAt C.B a name params body scope pm cd doc) (he : EvL C σ pos (e :: es) args) (hs : starEach (e :: es) C.env = (false, eval e C.env) :: starEach es C.env) (h : FnNew C a args ds) :
    En C σ (.Call (.Name f np) (e :: es) [] pos) ds := fun W s Q E H k => by
  obtain ⟨name, params, body, scope, pm, cd, doc, ⟨o, ho, hdat⟩, _⟩ := fa
  refine Call_name (global_sound H hk hm hd (callWith_def hdat (he W s _ E H fun s₁ vs K r => ⟨K.keep a o (fun q => ?_) (H.base a o ho), h W s₁ vs _ _ (H.kept K).bare r fun s₂ b its n K₂ h0 h1 r₂ => k s₂ b its n (K.trans K₂) (none_of_kept K h0) h1 r₂⟩) hs))
  rw [H.low a (H.sub a q)] at ho; cases ho
end
end Mine
end
section
open PySem PySem.Spec PySem.Calls PyProof.Rows PySem.W PySem.Builtin PySem.Builtin.Str
namespace Mine
section
variable {M : Model} {A : Around} {E : Value → Shared → Prop} {s : Shared}
noncomputable abbrev fr0 (env : Env) (outer : List Env) : List Addr := (env :: outer).filterMap (·.frame)
theorem entry_part {env : Env} {outer : List Env} {L e : Addr} {oe : Obj} {vs : Array Value} {head : Value} {hadNext : Bool} {Q : Unit → Shared → Prop}
    (hfr : A.frames = some (env :: outer)) (hl : s.heap.FunFrames {} (env :: outer)) (hf : env.frame = some L) (he : s.heap.get? e = some oe) (hd : oe.data = .fields vs) (hsz : 1 < vs.size)
    (k : ∀ h' T, s.heap.get? T = none → (∀ b o, b ∉ fr0 env outer → b ≠ e → s.heap.get? b = some o → h'.get? b = some o) → (∀ b o, b ≠ e → s.heap.get? b = some o → ∃ sl, h'.get? b = some { o with slots := sl }) →
      (∃ oe', h'.get? e = some oe' ∧ oe'.cls = oe.cls ∧ oe'.data = .fields (vs.setIfInBounds 1 (.ref T))) → (∃ oT ts, h'.get? T = some oT ∧ oT.data = .fields ts ∧ ts[3]? = some (rawInt L)) → Q () { s with heap := h' }) :
    wpAny M A (do let a ← frameOf env; let pl ← entryPlaceOf L hadNext; let b ← EntryCells.newEntry head a .none (rawInt L) .none pl; setField (.ref e) 1 b) Q E s := by
  have hene : e ∉ (env :: outer).filterMap (·.frame) := fun hm => by
    obtain ⟨_, o, ho, hnf⟩ := hl.mem hm
    rw [he] at ho; injection ho with ho; subst ho; exact hnf vs hd
  refine wpAny_bind (wpAny_frameOf_fun hfr hl hf fun h₁ hs₁ => ?_)
  refine wpAny_bind (wpAny_entryPlaceOf fun pl hpl => ?_)
  unfold EntryCells.newEntry newFields
  refine wpAny_bind (wpAny_newObj_type ?_ (hpl.sizeOk5 _ _ _ _ _))
  have he₁ : h₁.get? e = some oe := (hs₁.2.1 e hene).trans he
  have he₂ := Heap.get?_push_of_some (h := h₁) { cls := .type "traceback", dict := none, data := .fields ([head, .ref L, .none, rawInt L, .none] ++ (if pl.isEmpty then List.replicate 6 Value.none else pl)).toArray } he₁
  refine wpAny_setField he₂ hd hsz (k _ h₁.objs.size ?_ ?_ ?_ ?_ ?_)
  · cases q : s.heap.get? h₁.objs.size with
    | none => rfl
    | some o => exact absurd (Heap.lt_size q) (by rw [hs₁.1]; exact Nat.lt_irrefl _)
  · intro b o hb hbe e0
    rw [Heap.get?_update_other _ _ (Ne.symm hbe)]
    exact Heap.get?_push_of_some _ ((hs₁.2.1 b hb).trans e0)
  · intro b o hbe e0
    obtain ⟨sl, z⟩ := hs₁.2.2 b o e0
    exact ⟨sl, by rw [Heap.get?_update_other _ _ (Ne.symm hbe)]; exact Heap.get?_push_of_some _ z⟩
  · have hd₃ := Obj.data_mapFields hd (·.setIfInBounds 1 (Value.ref h₁.objs.size))
    exact ⟨_, Heap.get?_update_self (Obj.mapFields (·.setIfInBounds 1 (Value.ref h₁.objs.size))) he₂ (Obj.isFreed_of_fields hd₃), Obj.cls_mapFields _ _, hd₃⟩
  · have hTe : h₁.objs.size ≠ e := Nat.ne_of_gt (Heap.lt_size he₁)
    refine ⟨_, _, (Heap.get?_update_other _ _ (Ne.symm hTe)).trans (Heap.get?_push_size h₁ rfl), rfl, ?_⟩
    simp
noncomputable def HeadOk (h : Heap) (e : Addr) (vs : Array Value) : Prop := vs[1]? = some .none ∨ ∃ T oT ts, vs[1]? = some (.ref T) ∧ T ≠ e ∧ h.get? T = some oT ∧ oT.data = .fields ts ∧ 3 < ts.size
theorem note {env : Env} {outer : List Env} {L e : Addr} {oe : Obj} {vs : Array Value} {Q : Unit → Shared → Prop} (N : Addr → Prop)
    (hfr : A.frames = some (env :: outer)) (hl : s.heap.FunFrames {} (env :: outer)) (hf : env.frame = some L) (he : s.heap.get? e = some oe) (hd : oe.data = .fields vs) (hNe : N e)
    (hh : vs[1]? = some .none ∨ ∃ T oT ts, vs[1]? = some (.ref T) ∧ T ≠ e ∧ N T ∧ s.heap.get? T = some oT ∧ oT.data = .fields ts ∧ 3 < ts.size)
    (k : ∀ h', (∀ b o, b ∉ fr0 env outer → ¬ N b → s.heap.get? b = some o → h'.get? b = some o) → (∀ b o, ¬ N b → s.heap.get? b = some o → ∃ sl, h'.get? b = some { o with slots := sl }) → (∀ b o, s.heap.get? b = some o → ∃ o', h'.get? b = some o') →
      (∃ oe' vs' T oT ts, h'.get? e = some oe' ∧ oe'.cls = oe.cls ∧ oe'.data = .fields vs' ∧ vs'[2]? = vs[2]? ∧ vs'[1]? = some (.ref T) ∧ T ≠ e ∧ (N T ∨ s.heap.get? T = none) ∧ h'.get? T = some oT ∧ oT.data = .fields ts ∧ ts[3]? = some (rawInt L)) → Q () { s with heap := h' }) :
    wpAny M A (noteFrame (.ref e) env) Q E s := by
  have sz : 1 < vs.size := by
    rcases hh with h | ⟨_, _, _, h, _⟩
    · exact (Array.getElem?_eq_some_iff.mp h).1
    · exact (Array.getElem?_eq_some_iff.mp h).1
  have ends : ∀ {s₁ : Shared} {oe₁ : Obj} {head : Value} {hadNext : Bool}, (∀ b o, b ∉ fr0 env outer → ¬ N b → s.heap.get? b = some o → s₁.heap.get? b = some o) → (∀ b o, ¬ N b → s.heap.get? b = some o → ∃ sl, s₁.heap.get? b = some { o with slots := sl }) → (∀ b o, s.heap.get? b = some o → ∃ o', s₁.heap.get? b = some o') →
      (∀ h, { s₁ with heap := h } = { s with heap := h }) → s₁.heap.FunFrames {} (env :: outer) → s₁.heap.get? e = some oe₁ → oe₁.cls = oe.cls → oe₁.data = .fields vs →
      wpAny M A (do let a ← frameOf env; let pl ← entryPlaceOf L hadNext; let b ← EntryCells.newEntry head a .none (rawInt L) .none pl; setField (.ref e) 1 b) Q E s₁ := fun {s₁ oe₁ head hadNext} k1 k2 k3 ks hl₁ he₁ hc₁ hd₁ => by
    refine entry_part hfr hl₁ hf he₁ hd₁ sz fun h' T hT q1 q2 ⟨oe', r1, r2, r3⟩ ⟨oT, ts, t1, t2, t3⟩ => ?_
    rw [ks]
    have hTe : T ≠ e := fun q => by rw [q, he₁] at hT; cases hT
    refine k h' (fun b o h1 h2 e0 => q1 b o h1 (fun q => h2 (q ▸ hNe)) (k1 b o h1 h2 e0)) (fun b o h2 e0 => ?_) (fun b o e0 => ?_) ⟨oe', _, T, oT, ts, r1, r2.trans hc₁, r3, ?_, ?_, hTe, .inr ?_, t1, t2, t3⟩
    · obtain ⟨sl, z⟩ := k2 b o h2 e0
      obtain ⟨sl', z'⟩ := q2 b _ (fun q => h2 (q ▸ hNe)) z
      exact ⟨sl', z'⟩
    · obtain ⟨o₁, z⟩ := k3 b o e0
      by_cases hb : b = e
      · exact ⟨oe', hb ▸ r1⟩
      · obtain ⟨sl, z'⟩ := q2 b _ hb z
        exact ⟨_, z'⟩
    · rw [Array.getElem?_setIfInBounds_ne (by decide)]
    · simp [sz]
    · cases q : s.heap.get? T with
      | none => rfl
      | some o => obtain ⟨o', z⟩ := k3 T o q; rw [hT] at z; cases z
  unfold noteFrame
  simp only [hf]
  rcases hh with h1 | ⟨T, oT, ts, h1, hTe, hNT, hT, hdT, h3⟩
  · refine wpAny_bind (wpAny_field he hd h1 ?_)
    rw [if_neg (by decide)]
    exact ends (fun _ _ _ _ e => e) (fun b o _ e => ⟨o.slots, e⟩) (fun b o e => ⟨o, e⟩) (fun _ => rfl) hl he rfl hd
  · refine wpAny_bind (wpAny_field he hd h1 ?_)
    rw [if_pos (show (Value.ref T != Value.none) = true from by simp)]
    refine wpAny_bind (wpAny_field hT hdT (Array.getElem?_eq_getElem h3) ?_)
    by_cases hq : (ts[3] == rawInt L) = true
    · rw [if_pos hq]
      refine wpAny_pure ?_
      have := k s.heap (fun _ _ _ _ e => e) (fun b o _ e => ⟨o.slots, e⟩) (fun b o e => ⟨o, e⟩) ⟨oe, vs, T, oT, ts, he, rfl, hd, rfl, h1, hTe, .inl hNT, hT, hdT, by rw [Array.getElem?_eq_getElem h3, eq_of_beq hq]⟩
      exact this
    · rw [if_neg hq]
      refine wpAny_bind (wpAny_setField hT hdT h3 ?_)
      have other : ∀ b, b ≠ T → (s.heap.update T (Obj.mapFields (·.setIfInBounds 3 Value.none))).get? b = s.heap.get? b := fun b hb => Heap.get?_update_other _ _ (Ne.symm hb)
      have noRecord : ∀ b o, s.heap.get? b = some o → (∀ vs, o.data ≠ .fields vs) → b ≠ T := fun b o hb hnf q => by
        rw [q, hT] at hb; injection hb with hb; subst hb; exact hnf ts hdT
      refine ends (fun b o _ h2 e => (other b (fun q => h2 (q ▸ hNT))).trans e) (fun b o h2 e => ⟨o.slots, (other b (fun q => h2 (q ▸ hNT))).trans e⟩) (fun b o e => ?_) (fun _ => rfl)
        (hl.of_keeps fun b o hb hnf => ⟨o, (other b (noRecord b o hb hnf)).trans hb, rfl⟩) ((other e (Ne.symm hTe)).trans he) rfl hd
      by_cases hb : b = T
      · subst hb; exact ⟨_, Heap.get?_update_self _ hT (Obj.isFreed_of_fields (Obj.data_mapFields hdT _))⟩
      · exact ⟨o, (other b hb).trans e⟩
theorem set_flight {e : Addr} {oe : Obj} {vs : Array Value} {T : Addr} {oT : Obj} {ts : Array Value} {fl : Option Addr} {Q : Unit → Shared → Prop} (he : s.heap.get? e = some oe) (hd : oe.data = .fields vs) (h1 : vs[1]? = some (.ref T)) (hTe : T ≠ e) (hT : s.heap.get? T = some oT) (hdT : oT.data = .fields ts) (h3 : 3 < ts.size)
    (k : ∀ h', (∀ b, b ≠ T → h'.get? b = s.heap.get? b) → (∃ oT' ts', h'.get? T = some oT' ∧ oT'.data = .fields ts' ∧ 3 < ts'.size) → Q () { s with heap := h' }) : wpAny M A (setFlight (.ref e) fl) Q E s := by
  unfold setFlight
  refine wpAny_bind (wpAny_field he hd h1 ?_)
  rw [if_pos (show (Value.ref T != Value.none) = true from by simp)]
  refine wpAny_setField hT hdT h3 (k _ (fun b hb => Heap.get?_update_other _ _ (Ne.symm hb)) ⟨_, _, Heap.get?_update_self _ hT (Obj.isFreed_of_fields (Obj.data_mapFields hdT _)), Obj.data_mapFields hdT _, by simpa using h3⟩)
end
end Mine
end
section
open PySem PySem.Spec PySem.Calls PyProof.Rows PySem.W PySem.Builtin PySem.Builtin.Str
namespace Mine
structure Framed (C : Cx) : Prop where
  own : C.env.frame = some C.env.locals
  fr : ∃ outer : List Env, C.A.frames = some (C.env :: outer) ∧ ∀ e ∈ outer, e.scope.kind ≠ .module ∧ ∃ L, e.frame = some L ∧ L ∈ C.F
section
variable {C : Cx} {σ : Loc} {R : Out → Loc → Prop}
theorem fun_frames {W : List Addr} {h : Heap} (H : Has C σ W h) : ∀ {l : List Env}, (∀ e ∈ l, e.scope.kind ≠ .module ∧ ∃ L, e.frame = some L ∧ L ∈ C.F) → h.FunFrames {} l
  | [], _ => trivial
  | e :: l, k => by
    obtain ⟨h1, L, h2, h3⟩ := k e (.head _)
    obtain ⟨o, es, ep, ho, hd⟩ := H.frm L h3
    exact ⟨h1, ⟨L, o, h2, Heap.get?_none_of_le (Nat.zero_le _), ho, fun vs q => by rw [hd] at q; cases q⟩, fun_frames H fun e' he => k e' (.tail _ he)⟩
theorem fr_in {l : List Env} (k : ∀ e ∈ l, e.scope.kind ≠ .module ∧ ∃ L, e.frame = some L ∧ L ∈ C.F) : ∀ b ∈ l.filterMap (·.frame), b ∈ C.F := fun b hb => by
  obtain ⟨e, he, hf⟩ := List.mem_filterMap.mp hb
  obtain ⟨_, L, h2, h3⟩ := k e he
  rw [h2] at hf; cases hf; exact h3
theorem St.noted {α : Own} {s : Shared} {h' : Heap} {N : Addr → Prop} (S : St C α σ s) (k1 : ∀ b o, b ∉ C.F → ¬ N b → s.heap.get? b = some o → h'.get? b = some o) (k2 : ∀ b o, ¬ N b → s.heap.get? b = some o → ∃ sl, h'.get? b = some { o with slots := sl })
    (hN : ∀ b, N b → b ∉ C.W α ∧ C.B.get? b = none ∧ (∀ o, s.heap.get? b = some o → ∃ vs, o.data = .fields vs) ∧ ∀ p ∈ C.K, p.1 ≠ b) : St C α σ { s with heap := h' } := by
  have nW : ∀ {b}, b ∈ C.W α → ¬ N b := fun hb q => (hN _ q).1 hb
  have nM : ∀ {b}, b ∈ C.M → ¬ N b := fun hb => nW (List.mem_append_left _ hb)
  have seq : ∀ b o xs n, b ∉ C.F → o.data = .seq xs n → s.heap.get? b = some o → h'.get? b = some o := fun b o xs n hb hd e => k1 b o hb (fun q => by obtain ⟨vs, z⟩ := (hN b q).2.2.1 o e; rw [hd] at z; cases z) e
  have sq : ∀ b o, b ∉ C.W α → Hold o → s.heap.get? b = some o → b ∉ C.W α ∧ h'.get? b = some o := fun b o hb hd e => ⟨hb, k1 b o (fun m => hb (W_F α b m)) (fun q => by obtain ⟨vs, z⟩ := (hN b q).2.2.1 o e; rcases hd with ⟨_, _, hd⟩ | ⟨_, _, hd⟩ <;> (rw [hd] at z; cases z)) e⟩
  have ns : ∀ {m}, s.heap.Ns C.env.locals m → h'.Ns C.env.locals m := fun ⟨o, es, ep, ho, hd, r⟩ => by
    obtain ⟨sl, z⟩ := k2 _ o (nM (Cx.fM S.L)) ho
    exact ⟨_, es, ep, z, hd, r⟩
  have cl : ∀ {x c v}, C.env.cells.lookup x = some c → s.heap.IsCell c v → h'.IsCell c v := fun hc ⟨o, ho, hd⟩ => by
    obtain ⟨sl, z⟩ := k2 _ o (nM (Cx.cM (mem_of_lookup hc))) ho
    exact ⟨_, z, hd⟩
  have ld : ∀ {x v}, Loads C.env s.heap x v → Loads C.env h' x v := fun l => by
    rcases l with ⟨a, m, b, c⟩ | ⟨a, c, b, d⟩
    · exact .inl ⟨a, m, ns b, c⟩
    · exact .inr ⟨a, c, b, cl b d⟩
  exact {
    has := { S.has with
      alive := fun a ha => let ⟨o, ho⟩ := S.has.alive a ha; let ⟨_, z⟩ := k2 a o (nW ha) ho; ⟨_, z⟩
      base := fun b o e => k1 b o (fun m => by rw [S.has.low b (S.has.sub b m)] at e; cases e) (fun q => by rw [(hN b q).2.1] at e; cases e) (S.has.base b o e)
      frm := fun a ha => let ⟨o, es, ep, ho, hd⟩ := S.has.frm a ha; let ⟨_, z⟩ := k2 a o (nM (Cx.fM ha)) ho; ⟨_, es, ep, z, hd⟩
      slot := fun x sl hm => by
        have q := S.has.slot x sl hm
        cases sl with
        | val d => obtain ⟨v, l, r⟩ := q; exact ⟨v, ld l, Rd.seqs sq _ _ r⟩
        | own ds => obtain ⟨a, its, n, l, h1, h2, h3, h4⟩ := q; exact ⟨a, its, n, ld l, h1, h2, seq a _ _ _ h2 rfl h3, RdL.seqs sq _ _ h4⟩ }
    L := S.L
    ns := let ⟨m, h⟩ := S.ns; ⟨m, ns h⟩
    cells := fun x c h => let ⟨v, e⟩ := S.cells x c h; ⟨v, cl h e⟩
    apart := S.apart
    cF := S.cF
    nodup := S.nodup
    off := S.off
    own := fun x ds h => by
      obtain ⟨a, its, n, h1, h2, h3, h4⟩ := S.own x ds h
      exact ⟨a, its, n, h1, ld h2, seq a _ _ _ (fun m => S.off a (List.mem_map_of_mem (f := (·.2)) (mem_of_lookup h1)) (Cx.fM m)) rfl h3, RdL.seqs sq _ _ h4⟩
    pin := fun p hp => ⟨(S.pin p hp).1, k1 _ _ (fun m => (S.pin p hp).1 (W_F α _ m)) (fun q => (hN _ q).2.2.2 p hp rfl) (S.pin p hp).2⟩
    lst := fun a ha => let ⟨o, its, n, ho, hd⟩ := S.lst a ha; ⟨o, its, n, seq a o _ _ (fun m => S.off a ha (Cx.fM m)) hd ho, hd⟩ }
theorem Stays.noted {α α' : Own} {s₀ s : Shared} {h' : Heap} {N : Addr → Prop} (y : Stays C (C.W α) s₀ s) (k1 : ∀ b o, b ∉ C.F → ¬ N b → s.heap.get? b = some o → h'.get? b = some o) (k2 : ∀ b o, ¬ N b → s.heap.get? b = some o → ∃ sl, h'.get? b = some { o with slots := sl })
    (k3 : ∀ b o, s.heap.get? b = some o → ∃ o', h'.get? b = some o') (hN : ∀ b, N b → s₀.heap.get? b = none) : Stays C (C.W α) s₀ { s with heap := h' } := by
  have nN : ∀ {b o}, s₀.heap.get? b = some o → ¬ N b := fun e q => by rw [hN _ q] at e; cases e
  exact ⟨y.os, y.gens, fun b o hb e => k1 b o (fun m => hb (W_F α b m)) (nN e) (y.keep b o hb e), fun b o hF hL e => by
      obtain ⟨sl, z⟩ := y.fr b o hF hL e
      obtain ⟨sl', z'⟩ := k2 b _ (nN e) z
      exact ⟨sl', z'⟩, fun b o e => by
      obtain ⟨o', z⟩ := y.alive b o e
      exact k3 b o' z, fun b o hX e => k1 b o (C.xF b hX) (nN e) (y.ex b o hX e)⟩
structure Fled (C : Cx) (s : Shared) (e : Addr) (cls : Exn) (s' : Shared) : Prop where
  new : s.heap.get? e = none
  there : ∃ oe vs T oT ts, s'.heap.get? e = some oe ∧ oe.cls = .type cls.1 ∧ oe.data = .fields vs ∧ (cls.2 = true → vs[2]? = some .none) ∧ vs[1]? = some (.ref T) ∧ T ≠ e ∧ s.heap.get? T = none ∧ s'.heap.get? T = some oT ∧ oT.data = .fields ts ∧ 3 < ts.size
theorem Fled.fly {s s' : Shared} {e : Addr} {cls : Exn} (f : Fled C s e cls s') : Fly C s e cls s' := by
  obtain ⟨h, oe, vs, T, oT, ts, a1, a2, a3, a4, a5, a6, a7, a8, a9, a10⟩ := f
  exact ⟨h, oe, vs, a1, a2, a3, a4, .inr ⟨T, oT, ts, a5, a6, a7, a8, a9, a10⟩⟩
theorem off_state {α α' : Own} {σ₀ σ' : Loc} {s₀ s' : Shared} {b : Addr} (S₀ : St C α σ₀ s₀) (S' : St C α' σ' s') (h0 : s₀.heap.get? b = none) (h1 : ∀ o, s'.heap.get? b = some o → ∃ vs, o.data = .fields vs) :
    b ∉ C.W α' ∧ C.B.get? b = none ∧ (∀ o, s'.heap.get? b = some o → ∃ vs, o.data = .fields vs) ∧ ∀ p ∈ C.K, p.1 ≠ b := by
  refine ⟨fun m => ?_, ?_, h1, fun p hp q => ?_⟩
  · rcases List.mem_append.mp m with m | m
    · obtain ⟨o, ho⟩ := S₀.has.alive b (List.mem_append_left _ m)
      rw [h0] at ho; cases ho
    · obtain ⟨o, its, n, ho, hd⟩ := S'.lst b m
      obtain ⟨vs, hv⟩ := h1 o ho
      rw [hd] at hv; cases hv
  · cases q : C.B.get? b with
    | none => rfl
    | some o => have := S₀.has.base b o q; rw [h0] at this; cases this
  · have := (S₀.pin p hp).2
    rw [q, h0] at this; cases this
theorem fly_note {α α' : Own} {σ₀ σ' : Loc} {s₀ s' : Shared} {e : Addr} {cls : Exn} {A' : Around} {Q : Unit → Shared → Prop} {E : Value → Shared → Prop} (Fm : Framed C) (hA : A'.frames = C.A.frames) (S₀ : St C α σ₀ s₀) (S' : St C α' σ' s') (y : Stays C (C.W α) s₀ s') (f : Fly C s₀ e cls s')
    (k : ∀ s'', St C α' σ' s'' → Stays C (C.W α) s₀ s'' → Fled C s₀ e cls s'' → Q () s'') : wpAny (model C.prog C.w) A' (noteFrame (.ref e) C.env) Q E s' := by
  obtain ⟨outer, hfr, hout⟩ := Fm.fr
  have hall : ∀ e ∈ C.env :: outer, e.scope.kind ≠ .module ∧ ∃ L, e.frame = some L ∧ L ∈ C.F := fun e he => by
    rcases List.mem_cons.mp he with rfl | he
    · exact ⟨by rw [S'.has.fun_]; decide, _, Fm.own, S'.L⟩
    · exact hout e he
  obtain ⟨hnew, oe, vs, a1, a2, a3, a4, a5⟩ := f
  let N : Addr → Prop := fun b => b = e ∨ (vs[1]? = some (.ref b))
  have hN0 : ∀ b, N b → s₀.heap.get? b = none ∧ ∀ o, s'.heap.get? b = some o → ∃ vs, o.data = .fields vs := fun b hb => by
    rcases hb with rfl | hb
    · exact ⟨hnew, fun o ho => by rw [a1] at ho; cases ho; exact ⟨_, a3⟩⟩
    · rcases a5 with a5 | ⟨T, oT, ts, b1, b2, b3, b4, b5, b6⟩
      · rw [a5] at hb; cases hb
      · rw [b1] at hb; cases hb
        exact ⟨b3, fun o ho => by rw [b4] at ho; cases ho; exact ⟨_, b5⟩⟩
  refine note N (hA.trans hfr) (fun_frames S'.has hall) Fm.own a1 a3 (.inl rfl) ?_ fun h' k1 k2 k3 hh => ?_
  · rcases a5 with a5 | ⟨T, oT, ts, b1, b2, b3, b4, b5, b6⟩
    · exact .inl a5
    · exact .inr ⟨T, oT, ts, b1, b2, .inr b1, b4, b5, b6⟩
  · obtain ⟨oe', vs', T, oT, ts, c1, c2, c3, c4, c5, c6, c7, c8, c9, c10⟩ := hh
    have kF : ∀ b o, b ∉ C.F → ¬ N b → s'.heap.get? b = some o → h'.get? b = some o := fun b o hb hn e0 => k1 b o (fun m => hb (fr_in hall b m)) hn e0
    refine k _ (S'.noted kF k2 fun b hb => off_state S₀ S' (hN0 b hb).1 (hN0 b hb).2) (y.noted (α' := α') kF k2 k3 fun b hb => (hN0 b hb).1)
      ⟨hnew, oe', vs', T, oT, ts, c1, c2.trans a2, c3, fun q => c4.trans (a4 q), c5, c6, ?_, c8, c9, (Array.getElem?_eq_some_iff.mp c10).1⟩
    rcases c7 with q | q
    · exact (hN0 T q).1
    · exact none_of_stays y q
theorem fly_set {α α' : Own} {σ₀ σ' : Loc} {s₀ s' : Shared} {e : Addr} {cls : Exn} {A' : Around} {fl : Option Addr} {Q : Unit → Shared → Prop} {E : Value → Shared → Prop} (S₀ : St C α σ₀ s₀) (S' : St C α' σ' s') (y : Stays C (C.W α) s₀ s') (f : Fled C s₀ e cls s')
    (k : ∀ s'', St C α' σ' s'' → Stays C (C.W α) s₀ s'' → Fled C s₀ e cls s'' → Q () s'') : wpAny (model C.prog C.w) A' (setFlight (.ref e) fl) Q E s' := by
  obtain ⟨h, oe, vs, T, oT, ts, a1, a2, a3, a4, a5, a6, a7, a8, a9, a10⟩ := f
  refine set_flight a1 a3 a5 a6 a8 a9 a10 fun h' q1 ⟨oT', ts', r1, r2, r3⟩ => ?_
  have hN : ∀ b, b = T → s₀.heap.get? b = none ∧ ∀ o, s'.heap.get? b = some o → ∃ vs, o.data = .fields vs := fun b hb => by
    subst hb; exact ⟨a7, fun o ho => by rw [a8] at ho; cases ho; exact ⟨_, a9⟩⟩
  have k1 : ∀ b o, b ∉ C.F → ¬ b = T → s'.heap.get? b = some o → h'.get? b = some o := fun b o _ hn e => (q1 b hn).trans e
  have k2 : ∀ b o, ¬ b = T → s'.heap.get? b = some o → ∃ sl, h'.get? b = some { o with slots := sl } := fun b o hn e => ⟨o.slots, (q1 b hn).trans e⟩
  have k3 : ∀ b o, s'.heap.get? b = some o → ∃ o', h'.get? b = some o' := fun b o e => by
    by_cases hb : b = T
    · subst hb; exact ⟨_, r1⟩
    · exact ⟨o, (q1 b hb).trans e⟩
  exact k _ (S'.noted (N := fun b => b = T) k1 k2 fun b hb => off_state S₀ S' (hN b hb).1 (hN b hb).2) (y.noted (α' := α') (N := fun b => b = T) k1 k2 k3 fun b hb => (hN b hb).1)
    ⟨h, oe, vs, T, oT', ts', (q1 e (Ne.symm a6)).trans a1, a2, a3, a4, a5, a6, a7, r1, r2, r3⟩
theorem fly_back {α α' : Own} {σ₀ σ' : Loc} {s₀ s' : Shared} {e : Addr} {cls : Exn} {A' : Around} {E : Value → Shared → Prop} (S₀ : St C α σ₀ s₀) (S' : St C α' σ' s') (y : Stays C (C.W α) s₀ s') (f : Fled C s₀ e cls s')
    (k : ∀ s'', St C α' σ' s'' → Stays C (C.W α) s₀ s'' → Fled C s₀ e cls s'' → E (.ref e) s'') : cameBackBy (model C.prog C.w) A' C.env E (.ref e) s' := by
  have f' := f
  obtain ⟨h, oe, vs, T, oT, ts, a1, a2, a3, a4, a5, a6, a7, a8, a9, a10⟩ := f
  unfold cameBackBy
  refine wpAny_bind (wpAny_field a1 a3 a5 ?_)
  rw [if_neg (show ¬ ((Value.ref T == Value.none) = true) from by simp)]
  first
    | exact fly_set S₀ S' y f' k
    | exact wpAny_bind (wpAny_pure (fly_set S₀ S' y f' k))
theorem fly_up {α α' : Own} {σ₀ σ' : Loc} {s₀ s' : Shared} {e : Addr} {cls : Exn} {A' : Around} {E : Value → Shared → Prop} (Fm : Framed C) (hA : A'.frames = C.A.frames) (S₀ : St C α σ₀ s₀) (S' : St C α' σ' s') (y : Stays C (C.W α) s₀ s') (f : Fly C s₀ e cls s')
    (k : ∀ s'', St C α' σ' s'' → Stays C (C.W α) s₀ s'' → Fled C s₀ e cls s'' → E (.ref e) s'') : notedBy (model C.prog C.w) A' C.env (cameBackBy (model C.prog C.w) C.A C.env E) (.ref e) s' :=
  fly_note Fm hA S₀ S' y f fun s'' S'' y'' f'' => fly_back S₀ S'' y'' f'' k
end
end Mine
end
section
open PySem PySem.Spec PySem.Calls PyProof.Rows PySem.W PySem.Builtin PySem.Builtin.Str
namespace Mine
section
variable {C : Cx} {σ : Loc} {R : Out → Loc → Prop}
noncomputable abbrev Cx.mk' (C : Cx) (e : Addr) (K : List (Addr × Obj)) : Cx := { C with A := C.A.mark (some (.ref e)), K := K }
theorem Has.toMk {e : Addr} {K : List (Addr × Obj)} {W : List Addr} {h : Heap} (H : Has C σ W h) : Has (C.mk' e K) σ W h :=
  { fun_ := H.fun_, genv := H.genv, units := H.units, depth := H.depth, glob := H.glob, nolim := H.nolim, sub := H.sub, alive := H.alive, base := H.base, low := H.low, frm := H.frm, slot := H.slot }
theorem Has.ofMk {e : Addr} {K : List (Addr × Obj)} {W : List Addr} {h : Heap} (H : Has (C.mk' e K) σ W h) : Has C σ W h :=
  { fun_ := H.fun_, genv := H.genv, units := H.units, depth := H.depth, glob := H.glob, nolim := H.nolim, sub := H.sub, alive := H.alive, base := H.base, low := H.low, frm := H.frm, slot := H.slot }
theorem St.toMk {e : Addr} {K : List (Addr × Obj)} {α : Own} {s : Shared} (S : St C α σ s) (hp : ∀ p ∈ K, p.1 ∉ C.W α ∧ s.heap.get? p.1 = some p.2) : St (C.mk' e K) α σ s :=
  { has := S.has.toMk, L := S.L, ns := S.ns, cells := S.cells, apart := S.apart, cF := S.cF, nodup := S.nodup, off := S.off, own := S.own, pin := hp, lst := S.lst }
theorem St.ofMk {e : Addr} {K : List (Addr × Obj)} {α : Own} {s : Shared} (hK : C.K = []) (S : St (C.mk' e K) α σ s) : St C α σ s :=
  { has := S.has.ofMk, L := S.L, ns := S.ns, cells := S.cells, apart := S.apart, cF := S.cF, nodup := S.nodup, off := S.off, own := S.own, pin := (by rw [hK]; exact fun p hp => nomatch hp), lst := S.lst }
theorem Stays.ofMk {e : Addr} {K : List (Addr × Obj)} {W : List Addr} {s s' : Shared} (y : Stays (C.mk' e K) W s s') : Stays C W s s' := ⟨y.os, y.gens, y.keep, y.fr, y.alive, y.ex⟩
theorem FlowIs.ofMk {e : Addr} {K : List (Addr × Obj)} {α : Own} {s : Shared} {fl : Out} {f : Flow} (F : FlowIs (C.mk' e K) α s fl f) : FlowIs C α s fl f := by
  cases F with
  | next => exact .next
  | brk => exact .brk
  | cont => exact .cont
  | ret r => exact .ret r
  | retOwn m o r => exact .retOwn m o r
theorem Fly.ofMk {e : Addr} {K : List (Addr × Obj)} {s s' : Shared} {x : Addr} {cls : Exn} (f : Fly (C.mk' e K) s x cls s') : Fly C s x cls s' := ⟨f.new, f.there⟩
structure Clause (C : Cx) (t : Expr) (T : String) : Prop where
  is : ∃ x p, t = .Name x p ∧ C.env.kindOf x = some .globalImplicit ∧ (x, Value.type T) ∈ gtable ∧ (x == ("__debug__" : Str)) = false
  exc : isSubtype (.type T) (.type "BaseException") = pure true
  nt : isSubtype (.type ((Manifest.find? T).elim "type" fun x => x.metatype)) (.type "tuple") = pure false
  sub : isSubtype (.type T) (.type T) = pure true
theorem Ex_try {body suite : List Stmt} {b₀ : Stmt} {t : Expr} {hpos pos : Pos} {T : String} {R₁ : Out → Loc → Prop} (Fm : Framed C) (hK : C.K = []) (hc : Clause C t T) (hb : Exs C σ body R₁)
    (hh : ∀ σ' c, R₁ (.exc (T, c)) σ' → ∀ e, Exs (C.mk' e []) σ' (b₀ :: suite) R) (hx : ∀ cls σ', R₁ (.exc cls) σ' → cls.1 = T) (hR : ∀ cls σ', ¬ R (.exc cls) σ') (ho : ∀ fl σ', (∀ c, fl ≠ .exc c) → R₁ fl σ' → R fl σ') :
    Ex C σ (.Try body [.ExceptHandler (some t) none (b₀ :: suite) hpos] [] [] pos) R := fun α s Q E hE S k kE => by
  refine wpAny_Try_except (hb α s _ _ GoodE.looking S (fun fl f α' σ' s' r S' y n F => ?_) (fun cls e α' σ' s' r S' y n f => ?_))
  · cases F with
    | next => exact wpAny_execs_nil (k _ _ α' σ' s' (ho _ _ (by intro c q; cases q) r) S' y n .next)
    | brk => exact k _ _ α' σ' s' (ho _ _ (by intro c q; cases q) r) S' y n .brk
    | cont => exact k _ _ α' σ' s' (ho _ _ (by intro c q; cases q) r) S' y n .cont
    | ret rd => exact k _ _ α' σ' s' (ho _ _ (by intro c q; cases q) r) S' y n (.ret rd)
    | retOwn m o rd => exact k _ _ α' σ' s' (ho _ _ (by intro c q; cases q) r) S' y n (.retOwn m o rd)
  · obtain ⟨T', c⟩ := cls
    have hT : T' = T := hx _ _ r
    subst hT
    refine fly_note Fm rfl S S' y f fun s₂ S₂ y₂ f₂ => fly_set S S₂ y₂ f₂ fun s₃ S₃ y₃ f₃ => ?_
    obtain ⟨x, p, rfl, hk, hm, hd⟩ := hc.is
    refine wpAny_handleBy_builtin (X := T') (T := T') (b := true) hc.exc hc.nt hc.sub (global_sound (C := C.mk' e []) (σ := σ') (W := C.W α') S₃.has.toMk hk hm hd ⟨rfl, ?_, ?_⟩)
    · obtain ⟨_, oe, vs, T, oT, ts, a1, a2, _⟩ := f₃
      exact ⟨oe, a1, a2⟩
    · rw [if_pos rfl]
      refine fly_set S S₃ y₃ f₃ fun s₄ S₄ y₄ f₄ => ?_
      refine hh σ' c r e α' s₄ Q _ GoodE.looking (S₄.toMk fun p hp => nomatch hp) (fun fl f' α'' σ'' s'' r' S'' y'' n'' F => ?_) (fun cls e' α'' σ'' s'' r' _ _ _ _ => absurd r' (hR _ _))
      have y5 := y₄.trans n y''.ofMk
      exact k fl f' α'' σ'' s'' r' (S''.ofMk hK) y5 (n.trans y₄ n'') F.ofMk
theorem Ex_finally {body fs : List Stmt} {f₀ : Stmt} {pos : Pos} {R₁ : Out → Loc → Prop} (Fm : Framed C) (hK : C.K = []) (hb : Exs C σ body R₁)
    (hR1 : ∀ fl σ', R₁ fl σ' → fl = .next ∨ ∃ T, fl = .exc (T, true)) (hn : ∀ σ', R₁ .next σ' → Exs C σ' (f₀ :: fs) R)
    (hx : ∀ σ' T, R₁ (.exc (T, true)) σ' → ∀ e o vs, o.data = .fields vs → vs[2]? = some .none → Exs (C.mk' e [(e, o)]) σ' (f₀ :: fs) (fun fl σ'' => match fl with | .next => R (.exc (T, false)) σ'' | .exc c => R (.exc c) σ'' | _ => False)) :
    Ex C σ (.Try body [] [] (f₀ :: fs) pos) R := fun α s Q E hE S k kE => by
  refine wpAny_Try_finally (hb α s _ _ GoodE.looking S (fun fl f α' σ' s' r S' y n F => ?_) (fun cls e α' σ' s' r S' y n f => ?_))
  · rcases hR1 fl σ' r with rfl | ⟨T, rfl⟩
    · cases F with
      | next =>
        refine wpAny_execs_nil (hn σ' r α' s' _ _ GoodE.looking S' (fun fl f α'' σ'' s'' r' S'' y'' n'' F => ?_) (fun cls e α'' σ'' s'' r' S'' y'' n'' f => ?_))
        · have y5 := y.trans n y''
          have n5 := n.trans y n''
          cases F with
          | next => exact k _ _ α'' σ'' s'' r' S'' y5 n5 .next
          | brk => exact k _ _ α'' σ'' s'' r' S'' y5 n5 .brk
          | cont => exact k _ _ α'' σ'' s'' r' S'' y5 n5 .cont
          | ret rd => exact k _ _ α'' σ'' s'' r' S'' y5 n5 (.ret rd)
          | retOwn m o rd => exact k _ _ α'' σ'' s'' r' S'' y5 n5 (.retOwn m o rd)
        · exact fly_up Fm rfl S S'' (y.trans n y'') (f.before y) fun s₃ S₃ y₃ f₃ => kE cls e α'' σ'' s₃ r' S₃ y₃ (n.trans y n'') f₃.fly
    · cases F
  · rcases hR1 _ _ r with q | ⟨T, q⟩
    · cases q
    cases q
    refine fly_note Fm rfl S S' y f fun s₂ S₂ y₂ f₂ => ⟨(by intro q; cases q), fly_note Fm rfl S S₂ y₂ f₂.fly fun s₃ S₃ y₃ f₃ => fly_set S S₃ y₃ f₃ fun s₄ S₄ y₄ f₄ => ?_⟩
    obtain ⟨hnew, oe, vs, Tb, oT, ts, a1, a2, a3, a4, a5, a6, a7, a8, a9, a10⟩ := f₄
    have off : ∀ {b o ws}, s.heap.get? b = none → s₄.heap.get? b = some o → o.data = .fields ws → b ∉ C.W α' := fun {b o ws} h0 h1 h2 => (off_state S S₄ h0 fun o' ho => by rw [h1] at ho; cases ho; exact ⟨_, h2⟩).1
    have heW : e ∉ C.W α' := off hnew a1 a3
    have hTW : Tb ∉ C.W α' := off a7 a8 a9
    refine hx σ' T r e oe vs a3 (a4 rfl) α' s₄ _ _ GoodE.looking (S₄.toMk fun p hp => ?_) (fun fl f' α'' σ'' s'' r' S'' y'' n'' F => ?_) (fun cls e' α'' σ'' s'' r' S'' y'' n'' f' => ?_)
    · rw [List.mem_singleton] at hp; subst hp; exact ⟨heW, a1⟩
    · have y5 : Stays C (C.W α) s s'' := y₄.trans n y''.ofMk
      have n5 := n.trans y₄ n''
      have f5 : Fled C s e (T, false) s'' := ⟨hnew, oe, vs, Tb, oT, ts, y''.keep _ _ heW a1, a2, a3, (by intro q; cases q), a5, a6, a7, y''.keep _ _ hTW a8, a9, a10⟩
      cases F with
      | next =>
        show wpAny _ _ (PySem.passOn "try.finally" (.ref e) C.env : Sem Flow) _ _ _
        have S6 : St C α'' σ'' s'' := S''.ofMk hK
        unfold PySem.passOn
        refine wpAny_bind (wpAny_field (y''.keep _ _ heW a1) a3 a5 ?_)
        rw [if_neg (show ¬ ((Value.ref _ == Value.none) = true) from by simp)]
        first
          | exact wpAny_bind (fly_set S S6 y5 f5 fun s₇ S₇ y₇ f₇ => wpAny_throw (kE _ _ α'' σ'' s₇ r' S₇ y₇ n5 f₇.fly))
          | exact wpAny_bind (wpAny_pure (wpAny_bind (fly_set S S6 y5 f5 fun s₇ S₇ y₇ f₇ => wpAny_throw (kE _ _ α'' σ'' s₇ r' S₇ y₇ n5 f₇.fly))))
      | brk => exact absurd r' id
      | cont => exact absurd r' id
      | ret rd => exact absurd r' id
      | retOwn m o rd => exact absurd r' id
    · have y5 : Stays C (C.W α) s s'' := y₄.trans n y''.ofMk
      have f6 : Fly C s₄ e' cls s'' := ⟨f'.new, f'.there⟩
      exact fly_up (A' := C.A.mark (some (.ref e))) Fm rfl S (S''.ofMk hK) y5 (f6.before y₄) fun s₃ S₃ y₃ f₃ => kE cls e' α'' σ'' s₃ r' S₃ y₃ (n.trans y₄ n'') f₃.fly
end
end Mine
end
section
open PySem PySem.Spec PySem.Calls PyProof.Rows PySem.W PySem.Builtin PySem.Builtin.Str
namespace Mine
theorem entry_unchain : entryFor table "proto.unchain" = some Builtin.«proto.unchain» := entryFor_of_fast (by kernel_rfl)
section
variable {prog : Program} {w : World} {A : Around} {E : Value → Shared → Prop} {s : Shared}
structure Chained (h h' : Heap) (e : Addr) (cls : String) : Prop where
  keeps : ∀ b o, h.get? b = some o → h'.get? b = some o
  new : h.get? e = none
  there : ∃ ob vs, h'.get? e = some ob ∧ ob.cls = .type cls ∧ ob.data = .fields vs ∧ vs[1]? = some .none
theorem raise_handled {α : Type} {cls msg : String} {Q : α → Shared → Prop} {x : Addr} {ox : Obj} {xs : Array Value} (hp : PlainExc cls) (hA : A.handled = some (.ref x)) (hx : s.heap.get? x = some ox) (hdx : ox.data = .fields xs) (h2 : xs[2]? = some .none)
    (k : ∀ h' tk e, Chained s.heap h' e cls → E (.ref e) { s with heap := h', toks := tk }) : wpAny (model prog w) A (raiseErrorWords cls msg : Sem α) Q E s := by
  unfold raiseErrorWords
  refine wpAny_bind (wpAny_mkText (wpAny_bind ?_))
  unfold newExc newTuple
  refine wpAny_bind (wpAny_newObj_type ?_)
  refine wpAny_bind (m := firstArgMember _ _) (wpAny_of_eq (a := Value.none) (by simp only [firstArgMember, hp.first]; rfl) ?_)
  rw [hp.own]
  refine wpAny_newObj_type ?_
  unfold raiseNew
  refine wpAny_bind (wpAny_handled ?_)
  rw [hA]
  dsimp only
  have hlt := Heap.lt_size hx
  have hne : ¬ x = s.heap.objs.size + 1 := fun q => absurd hlt (by rw [q]; exact Nat.not_lt.mpr (Nat.le_succ _))
  rw [if_pos (by simpa using hne)]
  have get2 : ∀ o₁ o₂ b o, s.heap.get? b = some o → ((s.heap.push o₁).push o₂).get? b = some o := fun o₁ o₂ b o hb => Heap.get?_push_of_some _ (Heap.get?_push_of_some _ hb)
  refine wpAny_bind (wpAny_holding (wpAny_runValue (codeAny_builtin entry_unchain ?_)))
  show wpAny _ _ (field (.ref x) 2 >>= _) _ _ _
  refine wpAny_bind (wpAny_field (get2 _ _ _ _ hx) hdx h2 ?_)
  rw [if_pos (by rfl)]
  show wpAny _ _ (ret .none >>= _) _ _ _
  refine wpAny_bind (wpAny_pure (wpAny_pure ?_))
  have fin : ∀ (o₁ o₂ : Obj) (e : Addr) (tk : Nat), e = (s.heap.push o₁).objs.size → o₂ = { cls := .type cls, data := .fields (#[.ref s.heap.objs.size, .none, .none, .none, .bool false, .none] ++ #[]) } →
      wpAny (model prog w) A (do updateField e 2 (.ref x); throw (.ref e) : Sem α) Q E { s with heap := (s.heap.push o₁).push o₂, toks := tk } := fun o₁ o₂ e tk he ho2 => by
    subst he
    have q3 := Heap.get?_push_size (s.heap.push o₁) (o := o₂) (by subst ho2; rfl)
    have q5 : o₂.data = .fields (#[.ref s.heap.objs.size, .none, .none, .none, .bool false, .none] ++ #[]) := by rw [ho2]
    have q2 : s.heap.get? (s.heap.push o₁).objs.size = none := Heap.get?_none_of_le (by simp)
    refine wpAny_bind (show wpAny _ _ (setField (.ref (s.heap.push o₁).objs.size) 2 (.ref x)) _ _ _ from wpAny_setField q3 q5 (by simp) (wpAny_throw (k _ tk _ ⟨fun b o hb => (Heap.get?_update_other _ _ (by rintro rfl; rw [q2] at hb; cases hb)).trans (get2 _ _ b o hb), q2,
        _, _, Heap.get?_update_self _ q3 (Obj.isFreed_of_fields (Obj.data_mapFields q5 _)), (Obj.cls_mapFields _ _).trans (by rw [ho2]), Obj.data_mapFields q5 _, by simp⟩)))
  exact fin _ _ _ _ rfl rfl
theorem getItem_out_handled {l : Addr} {items : Array Value} {k : Int} {t : Tok} {Q : Value → Shared → Prop} {x : Addr} {ox : Obj} {xs : Array Value} (hA : A.handled = some (.ref x)) (hx : s.heap.get? x = some ox) (hdx : ox.data = .fields xs) (h2 : xs[2]? = some .none) (hl : s.heap.IsList l items)
    (hout : (items.size : Int) ≤ k) (hlo : -(2 ^ 63) ≤ k) (hhi : k < 2 ^ 63)
    (hE : ∀ h' tk e, Chained s.heap h' e "IndexError" → E (.ref e) { s with heap := h', toks := tk }) :
    wpAny (model prog w) A (getItem (.ref l) (.int k t)) Q E s := by
  obtain ⟨o, ho, hc, ne, hd⟩ := id hl
  unfold getItem
  try with_reducible refine wpAny_holding ?_
  first | refine wpAny_bind (wpAny_pure ?_) | skip
  refine wpAny_bind (wpAny_sequenceKey hl.typeIs (by decide) ?_)
  refine wpAny_bind (wpAny_callSpecial?_slot (name := Str.ofString "__getitem__") hl.typeIs slot_list_getitem
    (wpAny_call_entry slot_list_getitem hl.typeIs entry_list_getitem ?_ (args_list_getitem _ _)))
  show wpAny _ _ (Builtin.List.listSubscript? (.int k t) >>= _) _ _ s
  refine wpAny_bind (wpAny_listSubscript_int (fitsIndex_both hlo hhi) ?_)
  clear hlo hhi
  cases k with
  | ofNat j =>
    have hx' : items[j]? = none := Array.getElem?_eq_none (by have : (items.size : Int) ≤ (j : Int) := hout; walk_at "mine:om")
    show wpAny _ _ ((seqItemAt l j >>= fun r => pure (r.map (j, ·))) >>= _) _ _ s
    refine wpAny_bind (wpAny_bind (wpAny_seqItemAt ho hd (wpAny_pure ?_)))
    rw [hx']
    first
      | exact wpAny_bind (wpAny_rule (raise_handled plainExc_IndexError hA hx hdx h2 hE))
      | exact wpAny_bind (wpAny_rule (wpAny_bind (raise_handled plainExc_IndexError hA hx hdx h2 hE)))
      | exact wpAny_bind (wpAny_bind (wpAny_rule (raise_handled plainExc_IndexError hA hx hdx h2 hE)))
      | exact wpAny_rule (raise_handled plainExc_IndexError hA hx hdx h2 hE)
  | negSucc j => exact absurd hout (by have := Int.negSucc_lt_zero j; walk_at "mine:om")
end
section
variable {C : Cx} {σ : Loc}
theorem fly_chain {s s₁ : Shared} {h' : Heap} {tk : Nat} {e : Addr} {cls : String} (K : Kept C.F s s₁) (x : Chained s₁.heap h' e cls) : Kept C.F s { s₁ with heap := h', toks := tk } ∧ Fly C s e (cls, false) { s₁ with heap := h', toks := tk } := by
  obtain ⟨ob, vs, h1, h2, h3, h4⟩ := x.there
  exact ⟨K.trans (.of_keeps rfl rfl rfl x.keeps), none_of_kept K x.new, ob, vs, h1, h2, h3, (fun q => by cases q), .inl h4⟩
theorem EvX_item_in {value slice : Expr} {pos : Pos} {ds : List PyData} {i : Int} {e : Addr} {o : Obj} {vs : Array Value} (hv : El (C.mk' e [(e, o)]) σ value ds) (hi : Ev (C.mk' e [(e, o)]) σ slice (.int i)) (hd : o.data = .fields vs) (h2 : vs[2]? = some .none) (ho : (ds.length : Int) ≤ i) (hz : i < 2 ^ 63)
    (hs : PlainSub slice) : EvX (C.mk' e [(e, o)]) σ (.Subscript value slice pos) ("IndexError", false) := fun α s Q E S k =>
  PyProof.Rows.Subscript_ (hv (C.W α) s _ E S.has fun s₁ l its K₁ hl rl hF => hi (C.W α) s₁ _ E (S.has.kept K₁) fun s₂ vi K₂ ri => by
    obtain ⟨t, rfl⟩ := ri.int_inv
    obtain ⟨o', ho', hc, n, hd'⟩ := hl
    have hl' : s₂.heap.IsList l its.toArray := ⟨o', K₂.keep _ _ hF ho', hc, n, hd'⟩
    have hlen : its.toArray.size = ds.length := by simpa using rl.length
    have S₂ := (S.kept K₁).kept K₂
    have hp := (S₂.pin (e, o) (.head _)).2
    refine tail_any hl'.typeIs slot_list_getitem.lookup (getItem_out_handled rfl hp hd h2 hl' (by rw [hlen]; exact ho) (by have := Int.natCast_nonneg ds.length; walk_at "mine:om") hz fun h' tk e' hx => ?_) (hs _ _)
    obtain ⟨K₃, f⟩ := fly_chain (C := C.mk' e [(e, o)]) (tk := tk) (K₁.trans K₂) hx
    exact k e' _ (S.kept K₃) (K₃.stays (W_F α)) f)
end
end Mine
end
local macro_rules | `(tactic| walk_at "mine:mem") => `(tactic| first | exact List.Mem.head _ | (refine List.Mem.tail _ ?_; walk_at "mine:mem"))
local macro_rules | `(tactic| walk_at "mine:nm") => `(tactic| exact Mine.Ev_name (by walk_at "mine:mem") (by rfl))
local macro_rules | `(tactic| walk_at "mine:nmo") => `(tactic| exact Mine.El_own (by walk_at "mine:mem") (by rfl))
local macro_rules | `(tactic| walk_at "mine:vis") => `(tactic| exact ⟨⟨_, rfl, rfl⟩, (by show ¬ (some PySem.NameKind.cell = some PySem.NameKind.local); decide), fun _ => .inl rfl⟩)
local macro_rules | `(tactic| walk_at "mine:compat") => `(tactic| exact ⟨by rfl, by decide, by rfl, by decide, by rfl⟩)
section
open PySem PySem.Spec PySem.Calls PyProof.Rows PySem.W PySem.Builtin PySem.Builtin.Str
namespace Mine
noncomputable def stm (i : Nat) : Stmt := (PySem.Challenge.pw_tx0006_01.main.body[i]?).getD (.Pass ⟨0,0,0,0⟩)
noncomputable def bodyOf (i : Nat) : List Stmt := match stm i with | .FunctionDef _ _ b _ _ _ _ _ _ _ => b | _ => []
noncomputable def nameOf (i : Nat) : Str := match stm i with | .FunctionDef n _ _ _ _ _ _ _ _ _ => n | _ => ""
noncomputable def paramsOf (i : Nat) : Arguments := match stm i with | .FunctionDef _ p _ _ _ _ _ _ _ _ => p | _ => { posonlyargs := [], args := [], vararg := none, kwonlyargs := [], kw_defaults := [], kwarg := none, defaults := [] }
noncomputable def scopeOf (i : Nat) : Scope := match stm i with | .FunctionDef _ _ _ _ _ _ s _ _ _ => s | _ => default
noncomputable abbrev dS (xs : List Str) : List PyData := xs.map .str
noncomputable abbrev dI (xs : List Int) : List PyData := xs.map .int
noncomputable abbrev dN (xs : List Nat) : List PyData := xs.map fun i : Nat => PyData.int (i : Int)
theorem eqv_str (a b : Str) : PyData.eqv (.str a) (.str b) = (a == b) := by simp [PyData.eqv]
theorem any_strs (ys : List Str) (a : Str) : ((dS ys).any fun y => PyData.eqv y (.str a)) = decide (a ∈ ys) := by
  induction ys with
  | nil => rfl
  | cons y ys ih =>
    show (PyData.eqv (.str y) (.str a) || (dS ys).any fun y => PyData.eqv y (.str a)) = _
    rw [ih, eqv_str]
    by_cases h : y = a
    · subst h; simp
    · have h' : ¬ a = y := fun q => h q.symm
      simp [h, h']
noncomputable def okS (x : Str) : Bool := PyData.strOk x
theorem deep_str {x : Str} (h : okS x = true) : deep (.str x) = true := by
  rw [deep_iff]; exact ⟨by simp only [PyData.canLay0]; exact h, by simp [PyData.depth]⟩
theorem layAll_strs : ∀ {xs : List Str}, (∀ x ∈ xs, okS x = true) → PyData.canLayAll0 (dS xs) = true
  | [], _ => by simp [PyData.canLayAll0]
  | x :: xs, h => by
    have h1 := h x (.head _)
    have h2 := layAll_strs (xs := xs) fun y hy => h y (.tail _ hy)
    simp only [dS, List.map_cons, PyData.canLayAll0, PyData.canLay0, Bool.and_eq_true]
    exact ⟨h1, h2⟩
end Mine
namespace Mine
theorem Sees.nil {C : Cx} {sc : Scope} {cl : List (Str × Addr)} {x : Str} {σ : Loc} : Sees C sc cl x σ [] := fun p hp => nomatch hp
theorem Sees.cons {C : Cx} {sc : Scope} {cl : List (Str × Addr)} {x y : Str} {sl : Slot} {σ σc : Loc} (h1 : (y, sl) ∈ σ) (h2 : Vis C sc cl y) (h : Sees C sc cl x σ σc) : Sees C sc cl x σ ((y, sl) :: σc) := fun p hp => by
  rcases List.mem_cons.mp hp with rfl | hp
  · exact ⟨h1, h2⟩
  · exact h p hp
theorem cut_from {α : Type} {l : List α} {i : Nat} (h : i ≤ l.length) : cut l (some (i : Int)) none = l.drop i := by
  have e : clipAt l.length (i : Int) = i := by simp [clipAt]; walk_at "mine:om"
  unfold cut
  simp only [Option.elim_some, Option.elim_none, e]
  exact List.take_of_length_le (by rw [List.length_drop]; exact Nat.le_refl _)
theorem cut_to {α : Type} {l : List α} {i : Nat} : cut l none (some (i : Int)) = l.take i := by
  have e : clipAt l.length (i : Int) = min i l.length := by simp [clipAt]; walk_at "mine:om"
  unfold cut
  simp only [Option.elim_some, Option.elim_none, e, List.drop_zero, Nat.sub_zero]
  rw [List.take_eq_take_iff]; walk_at "mine:om"
theorem dS_get {xs : List Str} {k : Nat} (hk : k < xs.length) : (dS xs)[k]? = some (.str (xs.getD k "")) := by
  rw [List.getElem?_map, List.getElem?_eq_getElem hk, List.getD_eq_getElem?_getD, List.getElem?_eq_getElem hk]; rfl
theorem getD_mem {xs : List Str} {k : Nat} (hk : k < xs.length) : xs.getD k "" ∈ xs := by
  rw [List.getD_eq_getElem?_getD, List.getElem?_eq_getElem hk]; exact List.getElem_mem hk
end Mine
end
local macro_rules | `(tactic| walk_at "mine:sees") => `(tactic| first | exact Mine.Sees.nil | (refine Mine.Sees.cons (by walk_at "mine:mem") (by walk_at "mine:vis") ?_; walk_at "mine:sees"))
local macro_rules | `(tactic| walk_at "mine:nokey") => `(tactic| first | exact Mine.NoKey.nil | (refine Mine.NoKey.cons (by decide) ?_; walk_at "mine:nokey"))
local macro_rules | `(tactic| walk_at "mine:upd") => `(tactic| first | exact Mine.Upd.nil | (apply Mine.Upd.here; walk_at "mine:nokey") | (apply Mine.Upd.there (by decide); walk_at "mine:upd"))
section
open PySem PySem.Spec PySem.Calls PyProof.Rows PySem.W PySem.Builtin PySem.Builtin.Str
namespace Mine
noncomputable abbrev Subs (σ' σ : Loc) : Prop := ∀ p ∈ σ', p ∈ σ
theorem Subs.nil {σ : Loc} : Subs [] σ := fun _ h => nomatch h
theorem Subs.cons {σ' σ : Loc} {q : Str × Slot} (h : q ∈ σ) (r : Subs σ' σ) : Subs (q :: σ') σ := fun p hp => by
  cases hp with
  | head => exact h
  | tail _ h' => exact r p h'
noncomputable abbrev Less (σ' σ : Loc) (x : Str) : Prop := ∀ p ∈ σ', p ∈ σ ∧ p.1 ≠ x
theorem Less.nil {σ : Loc} {x : Str} : Less [] σ x := fun _ h => nomatch h
theorem Less.cons {σ' σ : Loc} {x y : Str} {sl : Slot} (h : (y, sl) ∈ σ) (hn : y ≠ x) (r : Less σ' σ x) : Less ((y, sl) :: σ') σ x := fun p hp => by
  cases hp with
  | head => exact ⟨h, hn⟩
  | tail _ h' => exact r p h'
theorem own_ne {σ : Loc} {y : Str} (h : NoKey σ y) : ∀ z ds, (z, Slot.own ds) ∈ σ → z ≠ y := fun z ds hm => h _ hm
section
variable {C : Cx} {σ : Loc} {R : Out → Loc → Prop}
theorem It_true {k : Nat} {pos : Pos} : It C σ (.Constant (.bool true) k pos) true := fun W s Q E H kk =>
  PyProof.Rows.isTrue_plain (Ev_bool (b := true) W s _ E H fun s₁ v K r => by rw [r.bool_inv]; exact wpAny_truthy_bool (kk s₁ K)) (by rfl)
theorem skip_loop {x ix v : Str} {xs : List Str} {e : Str} (σf : Nat → Loc) {p1 p2 p3 p4 p5 p6 p7 p8 p9 : Pos} {kk : Nat}
    (hx : ∀ k, (x, Slot.val (.list (dS xs))) ∈ σf k) (hix : ∀ k : Nat, (ix, Slot.val (.int (k : Int))) ∈ σf k) (hv : ∀ k, (v, Slot.val (.str e)) ∈ σf k) (hu : ∀ k k' : Nat, Upd (σf k) ix (.val (.int (k' : Int))) (σf k'))
    (dx : (x == ("__debug__" : Str)) = false) (dix : (ix == ("__debug__" : Str)) = false) (dv : (v == ("__debug__" : Str)) = false)
    (hp : Place C ix) (exn : Exn) (hexc : ∀ k : Nat, k = xs.length → EvX C (σf k) (.Subscript (.Name x p1) (.Name ix p2) p3) exn) (ox : ∀ x ∈ xs, okS x = true) (oe : okS e = true) (hz : xs.length < 2 ^ 60) (i : Nat) (hi : i ≤ xs.length) :
    Ex C (σf i) (.While (.Compare (.Subscript (.Name x p1) (.Name ix p2) p3) [.Eq] [.Name v p4] p5) [.AugAssign (.Name ix p6) .Add (.Constant (.int 1) kk p7) p8] [] p9)
      (fun fl σ' => (fl = .next ∧ ∃ k, k < xs.length ∧ xs.drop k = (xs.drop i).dropWhile (· == e) ∧ σ' = σf k) ∨ (fl = .exc exn ∧ (xs.drop i).dropWhile (· == e) = [] ∧ σ' = σf xs.length)) := by
  refine Ex_while (fun n σ' => ∃ k, n = xs.length - k ∧ k ≤ xs.length ∧ (xs.drop k).dropWhile (· == e) = (xs.drop i).dropWhile (· == e) ∧ σ' = σf k) (xs.length - i) ⟨i, rfl, hi, rfl, rfl⟩ ?_
  rintro n σ' ⟨k, rfl, hk, hdw, rfl⟩
  by_cases hlt : k < xs.length
  · have hgk : (dS xs)[k]? = some (.str xs[k]) := by rw [List.getElem?_map, List.getElem?_eq_getElem hlt]; rfl
    have hd : xs.drop k = xs[k] :: xs.drop (k + 1) := List.drop_eq_getElem_cons hlt
    refine .inl ⟨PyData.eqv (.str xs[k]) (.str e), It_cmp (Ev_item (j := k) (Ev_name (hx k) dx) (Ev_name (hix k) dix) ⟨by simpa using hlt, .inl rfl⟩ hgk (by simp; walk_at "mine:om") (fun _ _ => rfl)) (Ev_name (hv k) dv) (.eq _ _ (deep_str (ox _ (List.getElem_mem hlt))) (deep_str oe)) (by rfl), fun hb => ?_, fun hb => ?_⟩
    · rw [eqv_str] at hb
      refine Exs_step (Ex_aug (hix k) Ev_int (.add _ _) hp (by have := hu k (k + 1); push_cast at this; exact this) ⟨rfl, rfl⟩) (Exs_nil ⟨xs.length - (k + 1), by walk_at "mine:om", k + 1, rfl, hlt, ?_, rfl⟩)
      rw [← hdw, hd]; simp only [List.dropWhile_cons, hb, if_true]
    · rw [eqv_str] at hb
      refine .inl ⟨rfl, k, hlt, ?_, rfl⟩
      rw [← hdw, hd]; simp only [List.dropWhile_cons, hb]; rfl
  · have hk' : k = xs.length := by walk_at "mine:om"
    subst hk'
    refine .inr ⟨exn, ItX_cmp (hexc _ rfl) (by rfl), .inr ⟨rfl, ?_, rfl⟩⟩
    rw [← hdw, List.drop_length]; rfl
end
end Mine
end
local macro_rules | `(tactic| walk_at "mine:subs") => `(tactic| first | exact Mine.Subs.nil | (refine Mine.Subs.cons (by walk_at "mine:mem") ?_; walk_at "mine:subs"))
local macro_rules | `(tactic| walk_at "mine:less") => `(tactic| first | exact Mine.Less.nil | (refine Mine.Less.cons (by walk_at "mine:mem") (by decide) ?_; walk_at "mine:less"))
section
open PySem PySem.Spec PySem.Calls PyProof.Rows PySem.W PySem.Builtin PySem.Builtin.Str
namespace Mine
noncomputable def strLt (a b : Str) : Bool := decide (a.cps.toList < b.cps.toList)
theorem dropWhile_le {α : Type} (p : α → Bool) : ∀ l : List α, (l.dropWhile p).length ≤ l.length
  | [] => Nat.le_refl _
  | a :: l => by
    rw [List.dropWhile_cons]
    split
    · exact Nat.le_succ_of_le (dropWhile_le p l)
    · exact Nat.le_refl _
noncomputable def sld : List Str → List Str → List Str × List Str
  | [], ys => ([], ys)
  | x :: xs, [] => (x :: xs, [])
  | x :: xs, y :: ys =>
    if strLt x y then (x :: (sld (xs.dropWhile (· == x)) (y :: ys)).1, (sld (xs.dropWhile (· == x)) (y :: ys)).2)
    else if strLt y x then ((sld (x :: xs) (ys.dropWhile (· == y))).1, y :: (sld (x :: xs) (ys.dropWhile (· == y))).2)
    else sld (xs.dropWhile (· == x)) (ys.dropWhile (· == y))
termination_by xs ys => xs.length + ys.length
decreasing_by all_goals (have h1 := dropWhile_le (· == x) xs; have h2 := dropWhile_le (· == y) ys; simp only [List.length_cons]; walk_at "mine:om")
section
variable {C : Cx} {R : Out → Loc → Prop}
noncomputable def σS (xs ys : List Str) (i j : Nat) (m u : List Str) : Loc :=
  [("expected", .val (.list (dS xs))), ("actual", .val (.list (dS ys))), ("i", .val (.int (i : Int))), ("j", .val (.int (j : Int))), ("missing", .own (dS m)), ("unexpected", .own (dS u))]
noncomputable def σE (xs ys : List Str) (i j : Nat) (m u : List Str) (e : Str) : Loc := [("expected", .val (.list (dS xs))), ("actual", .val (.list (dS ys))), ("i", .val (.int (i : Int))), ("j", .val (.int (j : Int))), ("missing", .own (dS m)), ("unexpected", .own (dS u)), ("e", .val (.str e))]
noncomputable def σA (xs ys : List Str) (i j : Nat) (m u : List Str) (e a : Str) : Loc := [("expected", .val (.list (dS xs))), ("actual", .val (.list (dS ys))), ("i", .val (.int (i : Int))), ("j", .val (.int (j : Int))), ("missing", .own (dS m)), ("unexpected", .own (dS u)), ("e", .val (.str e)), ("a", .val (.str a))]
structure Sofar (xs ys : List Str) (M U : List Str) (i j : Nat) (m u : List Str) : Prop where
  hi : i ≤ xs.length
  hj : j ≤ ys.length
  hm : m.length ≤ i
  hu : u.length ≤ j
  e1 : m ++ (sld (xs.drop i) (ys.drop j)).1 = M
  e2 : u ++ (sld (xs.drop i) (ys.drop j)).2 = U
noncomputable def Ended (xs ys : List Str) (i j : Nat) : Prop := xs.drop i = [] ∨ ys.drop j = []
theorem sld_nil_right (xs : List Str) : sld xs [] = (xs, []) := by cases xs <;> rw [sld]
theorem Sofar.fin {xs ys M U m u : List Str} {i j : Nat} (h : Sofar xs ys M U i j m u) (he : Ended xs ys i j) : m ++ xs.drop i = M ∧ u ++ ys.drop j = U := by
  have e1 := h.e1
  have e2 := h.e2
  rcases he with q | q
  · rw [q, sld] at e1 e2
    exact ⟨by rw [q]; exact e1, e2⟩
  · rw [q, sld_nil_right] at e1 e2
    exact ⟨e1, by rw [q]; exact e2⟩
noncomputable def RT (xs ys M U : List Str) (n : Nat) (fl : Out) (σ' : Loc) : Prop :=
  (fl = .next ∧ ∃ i j m u, xs.length + ys.length - i - j < n ∧ Sofar xs ys M U i j m u ∧ ∀ p ∈ σS xs ys i j m u, p ∈ σ') ∨
  (∃ c, fl = .exc ("IndexError", c) ∧ ∃ i j m u, Sofar xs ys M U i j m u ∧ Ended xs ys i j ∧ ∀ p ∈ σS xs ys i j m u, p ∈ σ')
theorem S_of_A {xs ys : List Str} {i j : Nat} {m u : List Str} {e a : Str} : ∀ p ∈ σS xs ys i j m u, p ∈ σA xs ys i j m u e a := by walk_at "mine:subs"
theorem S_of_E {xs ys : List Str} {i j : Nat} {m u : List Str} {e : Str} : ∀ p ∈ σS xs ys i j m u, p ∈ σE xs ys i j m u e := by walk_at "mine:subs"
theorem drop_succ_of {α : Type} {xs : List α} {i : Nat} {x : α} {r : List α} (h : xs.drop i = x :: r) : xs.drop (i + 1) = r := by
  rw [← List.drop_drop, h]; rfl
theorem drop_len_of_nil {α : Type} {xs : List α} : xs.drop xs.length = [] := List.drop_length
noncomputable def Outer (C : Cx) : Prop := ∃ outer : List Env, C.A.frames = some outer ∧ ∀ e ∈ outer, e.scope.kind ≠ .module ∧ ∃ L, e.frame = some L ∧ L ∈ C.F
theorem Outer.framed {name : Str} {scope : Scope} {a : Addr} {cd : Value} {L : Addr} {X : List Addr} {h1 : ∀ b ∈ X, b ∉ L :: C.F} {h2 : ∀ p ∈ cellsFrom (L + 1) scope.names [], p.2 ∉ X} (h : Outer C) : Framed (calleeCx C name scope a cd L X h1 h2) := by
  obtain ⟨outer, hf, hall⟩ := h
  exact ⟨rfl, outer, Around.frames_deeper hf, fun e he => let ⟨q1, L', q2, q3⟩ := hall e he; ⟨q1, L', q2, .tail _ q3⟩⟩
theorem Framed.outer (h : Framed C) (hk : C.env.scope.kind = .function) (hL : C.env.locals ∈ C.F) : Outer C := by
  obtain ⟨outer, hf, hall⟩ := h.fr
  refine ⟨_, hf, fun e he => ?_⟩
  rcases List.mem_cons.mp he with rfl | he
  · exact ⟨by rw [hk]; decide, _, h.own, hL⟩
  · exact hall e he
theorem Sofar.lt {xs ys M U m u : List Str} {i j k : Nat} {x y : Str} {X Y : List Str} (h : Sofar xs ys M U i j m u) (hX : xs.drop i = x :: X) (hY : ys.drop j = y :: Y) (hlt : strLt x y = true) (hk : k ≤ xs.length) (hd : xs.drop k = X.dropWhile (· == x)) :
    Sofar xs ys M U k j (m ++ [x]) u ∧ i < k := by
  have l1 : xs.length - i = X.length + 1 := by rw [← List.length_drop, hX]; rfl
  have l2 : xs.length - k = (X.dropWhile (· == x)).length := by rw [← List.length_drop, hd]
  have l3 := dropWhile_le (· == x) X
  have hik : i < k := by have := h.hi; walk_at "mine:om"
  have e1 := h.e1
  have e2 := h.e2
  rw [hX, hY, sld, if_pos hlt] at e1 e2
  refine ⟨⟨hk, h.hj, by have := h.hm; simp; walk_at "mine:om", h.hu, ?_, ?_⟩, hik⟩
  · rw [hd, hY, List.append_assoc]; exact e1
  · rw [hd, hY]; exact e2
theorem Sofar.gt {xs ys M U m u : List Str} {i j l : Nat} {x y : Str} {X Y : List Str} (h : Sofar xs ys M U i j m u) (hX : xs.drop i = x :: X) (hY : ys.drop j = y :: Y) (hlt : strLt x y = false) (hgt : strLt y x = true) (hk : l ≤ ys.length) (hd : ys.drop l = Y.dropWhile (· == y)) :
    Sofar xs ys M U i l m (u ++ [y]) ∧ j < l := by
  have l1 : ys.length - j = Y.length + 1 := by rw [← List.length_drop, hY]; rfl
  have l2 : ys.length - l = (Y.dropWhile (· == y)).length := by rw [← List.length_drop, hd]
  have l3 := dropWhile_le (· == y) Y
  have hik : j < l := by have := h.hj; walk_at "mine:om"
  have e1 := h.e1
  have e2 := h.e2
  rw [hX, hY, sld, if_neg (by rw [hlt]; decide), if_pos hgt] at e1 e2
  refine ⟨⟨h.hi, hk, h.hm, by have := h.hu; simp; walk_at "mine:om", ?_, ?_⟩, hik⟩
  · rw [hd, hX]; exact e1
  · rw [hd, hX, List.append_assoc]; exact e2
theorem Sofar.eq {xs ys M U m u : List Str} {i j k l : Nat} {x y : Str} {X Y : List Str} (h : Sofar xs ys M U i j m u) (hX : xs.drop i = x :: X) (hY : ys.drop j = y :: Y) (hlt : strLt x y = false) (hgt : strLt y x = false) (hk : k ≤ xs.length) (hd : xs.drop k = X.dropWhile (· == x)) (hl : l ≤ ys.length) (hd' : ys.drop l = Y.dropWhile (· == y)) :
    Sofar xs ys M U k l m u ∧ i < k ∧ j < l := by
  have l1 : xs.length - i = X.length + 1 := by rw [← List.length_drop, hX]; rfl
  have l2 : xs.length - k = (X.dropWhile (· == x)).length := by rw [← List.length_drop, hd]
  have l3 := dropWhile_le (· == x) X
  have hik : i < k := by have := h.hi; walk_at "mine:om"
  have l1' : ys.length - j = Y.length + 1 := by rw [← List.length_drop, hY]; rfl
  have l2' : ys.length - l = (Y.dropWhile (· == y)).length := by rw [← List.length_drop, hd']
  have l3' := dropWhile_le (· == y) Y
  have hjl : j < l := by have := h.hj; walk_at "mine:om"
  have e1 := h.e1
  have e2 := h.e2
  rw [hX, hY, sld, if_neg (by rw [hlt]; decide), if_neg (by rw [hgt]; decide)] at e1 e2
  refine ⟨⟨hk, hl, by have := h.hm; walk_at "mine:om", by have := h.hu; walk_at "mine:om", ?_, ?_⟩, hik, hjl⟩
  · rw [hd, hd']; exact e1
  · rw [hd, hd']; exact e2
theorem clause_IndexError {C : Cx} {p : Pos} (hk : C.env.kindOf "IndexError" = some .globalImplicit) : Clause C (.Name "IndexError" p) "IndexError" :=
  ⟨⟨_, p, rfl, hk, by walk_at "mine:mem", by decide⟩, PySem.F.isExc_IndexError, PySem.F.notTuple_IndexError, PySem.F.self_IndexError⟩
theorem sld_body {xs ys : List Str} (ho : Outer C) (hh : C.A.handled = none) (ox : ∀ x ∈ xs, okS x = true) (oy : ∀ y ∈ ys, okS y = true) (hx : xs.length < 100000) (hy : ys.length < 100000)
    {a : Addr} {cd : Value} {L : Addr} {X : List Addr} {h1 : ∀ b ∈ X, b ∉ L :: C.F} {h2 : ∀ p ∈ cellsFrom (L + 1) (scopeOf 2).names [], p.2 ∉ X} :
    Exs (calleeCx C (nameOf 2) (scopeOf 2) a cd L X h1 h2) [("expected", .val (.list (dS xs))), ("actual", .val (.list (dS ys)))] (bodyOf 2)
      (fun fl _ => fl = .ret (.tuple [.list (dS (sld xs ys).1), .list (dS (sld xs ys).2)])) := by
  have hsl : sizeLine = 16777216 := by decide
  refine Exs_step (Ex_assign2 Ev_int rfl (.loc rfl) (.loc rfl) (by walk_at "mine:upd") (by walk_at "mine:upd") rfl ⟨rfl, rfl⟩) ?_
  refine Exs_step (Ex_assign_new (ds := []) (En_listd EvL_nil (by decide)) (.loc rfl) (by walk_at "mine:upd") (fun y ds hm => ?_) rfl ⟨rfl, rfl⟩) ?_
  · simp at hm
  refine Exs_step (Ex_assign_new (ds := []) (En_listd EvL_nil (by decide)) (.loc rfl) (by walk_at "mine:upd") (fun y ds hm => ?_) rfl ⟨rfl, rfl⟩) ?_
  · simp at hm; rw [hm.1]; decide
  refine Exs_cons (R₁ := fun fl σ' => fl = .next ∧ ∀ p ∈ ([("missing", Slot.own (dS (sld xs ys).1)), ("unexpected", .own (dS (sld xs ys).2))] : Loc), p ∈ σ') (Ex_while (fun n σ' => ∃ i j m u, xs.length + ys.length - i - j = n ∧ Sofar xs ys (sld xs ys).1 (sld xs ys).2 i j m u ∧ σ' = σS xs ys i j m u) (xs.length + ys.length)
    ⟨0, 0, [], [], rfl, ⟨Nat.zero_le _, Nat.zero_le _, Nat.le_refl _, Nat.le_refl _, rfl, rfl⟩, rfl⟩ ?_) (fun σ' q => Exs_drop q.2 ?_) (fun fl σ' hne q => absurd q.1 hne)
  · rintro n σ' ⟨i, j, m, u, rfl, hs, rfl⟩
    refine .inl ⟨true, It_true, fun _ => ?_, fun q => by cases q⟩
    refine Exs_cons (R₁ := fun fl σ' => (fl = .next ∧ ∃ i' j' m' u', xs.length + ys.length - i' - j' < xs.length + ys.length - i - j ∧ Sofar xs ys (sld xs ys).1 (sld xs ys).2 i' j' m' u' ∧ ∀ p ∈ σS xs ys i' j' m' u', p ∈ σ') ∨ (fl = .brk ∧ ∀ p ∈ ([("missing", Slot.own (dS (sld xs ys).1)), ("unexpected", .own (dS (sld xs ys).2))] : Loc), p ∈ σ'))
      (Ex_try (R₁ := RT xs ys (sld xs ys).1 (sld xs ys).2 (xs.length + ys.length - i - j)) ho.framed rfl (clause_IndexError rfl) ?_ ?_ ?_ ?_ ?_) ?_ ?_
    · have bi := hs.hi
      have bj := hs.hj
      by_cases hi : i < xs.length
      rotate_left
      · have hi' : i = xs.length := by walk_at "mine:om"
        refine Exs_cons (R₁ := fun fl σ' => fl = .exc ("IndexError", true) ∧ σ' = σS xs ys i j m u) (Ex_assign_x (EvX_item (EvT.el (by walk_at "mine:nm")) (by walk_at "mine:nm") hh (by simp; walk_at "mine:om") (by walk_at "mine:om") (fun _ _ => rfl)) rfl ⟨rfl, rfl⟩) (fun σ' q => nomatch q.1) (fun fl σ' _ q => ?_)
        obtain ⟨rfl, rfl⟩ := q
        exact .inr ⟨true, rfl, i, j, m, u, hs, .inl (by rw [hi']; exact List.drop_length), fun p hp => hp⟩
      have hX := List.drop_eq_getElem_cons hi
      generalize hxe : xs[i] = x at hX
      generalize xs.drop (i + 1) = X' at hX
      have okx : okS x = true := by rw [← hxe]; exact ox _ (List.getElem_mem hi)
      have hgi : (dS xs)[i]? = some (.str x) := by rw [List.getElem?_map, List.getElem?_eq_getElem hi, hxe]; rfl
      refine Exs_step (σ₁ := σE xs ys i j m u x) (Ex_assign (Ev_item (j := i) (by walk_at "mine:nm") (by walk_at "mine:nm") ⟨by simpa using hi, .inl rfl⟩ hgi (by simp; walk_at "mine:om") (fun _ _ => rfl)) (.loc rfl) (by walk_at "mine:upd") rfl ⟨rfl, rfl⟩) ?_
      by_cases hj : j < ys.length
      rotate_left
      · have hj' : j = ys.length := by walk_at "mine:om"
        refine Exs_cons (R₁ := fun fl σ' => fl = .exc ("IndexError", true) ∧ σ' = σE xs ys i j m u x) (Ex_assign_x (EvX_item (EvT.el (by walk_at "mine:nm")) (by walk_at "mine:nm") hh (by simp; walk_at "mine:om") (by walk_at "mine:om") (fun _ _ => rfl)) rfl ⟨rfl, rfl⟩) (fun σ' q => nomatch q.1) (fun fl σ' _ q => ?_)
        obtain ⟨rfl, rfl⟩ := q
        exact .inr ⟨true, rfl, i, j, m, u, hs, .inr (by rw [hj']; exact List.drop_length), S_of_E⟩
      have hY := List.drop_eq_getElem_cons hj
      generalize hye : ys[j] = y at hY
      generalize ys.drop (j + 1) = Y' at hY
      have oky : okS y = true := by rw [← hye]; exact oy _ (List.getElem_mem hj)
      have hgj : (dS ys)[j]? = some (.str y) := by rw [List.getElem?_map, List.getElem?_eq_getElem hj, hye]; rfl
      refine Exs_step (σ₁ := σA xs ys i j m u x y) (Ex_assign (Ev_item (j := j) (by walk_at "mine:nm") (by walk_at "mine:nm") ⟨by simpa using hj, .inl rfl⟩ hgj (by simp; walk_at "mine:om") (fun _ _ => rfl)) (.loc rfl) (by walk_at "mine:upd") rfl ⟨rfl, rfl⟩) ?_
      have X1 : xs.drop (i + 1) = X' := drop_succ_of hX
      have Y1 : ys.drop (j + 1) = Y' := drop_succ_of hY
      have exi : ∀ (σ : Loc) p1 p2 p3, (("expected", Slot.val (.list (dS xs))) : Str × Slot) ∈ σ → (("i", Slot.val (.int (xs.length : Int))) : Str × Slot) ∈ σ → EvX (calleeCx C (nameOf 2) (scopeOf 2) a cd L X h1 h2) σ (.Subscript (.Name "expected" p1) (.Name "i" p2) p3) ("IndexError", true) :=
        fun σ p1 p2 p3 q1 q2 => EvX_item (EvT.el (Ev_name q1 rfl)) (Ev_name q2 rfl) hh (by simp) (by walk_at "mine:om") (fun _ _ => rfl)
      have exj : ∀ (σ : Loc) p1 p2 p3, (("actual", Slot.val (.list (dS ys))) : Str × Slot) ∈ σ → (("j", Slot.val (.int (ys.length : Int))) : Str × Slot) ∈ σ → EvX (calleeCx C (nameOf 2) (scopeOf 2) a cd L X h1 h2) σ (.Subscript (.Name "actual" p1) (.Name "j" p2) p3) ("IndexError", true) :=
        fun σ p1 p2 p3 q1 q2 => EvX_item (EvT.el (Ev_name q1 rfl)) (Ev_name q2 rfl) hh (by simp) (by walk_at "mine:om") (fun _ _ => rfl)
      refine Exs_cons (R₁ := RT xs ys (sld xs ys).1 (sld xs ys).2 (xs.length + ys.length - i - j)) (Ex_if (b := strLt x y) (It_cmp (by walk_at "mine:nm") (by walk_at "mine:nm") (.lts _ _) rfl) (fun hlt => ?_) (fun hlt => ?_)) (fun σ' q => Exs_nil q) (fun fl σ' _ q => q)
      · have g : dS m ++ [PyData.str x] = dS (m ++ [x]) := by simp
        refine Exs_step (σ₁ := σA xs ys i j (m ++ [x]) u x y) (Ex_append (by walk_at "mine:mem") (by walk_at "mine:nm") (by rw [g]; walk_at "mine:upd") ⟨rfl, rfl⟩ (by have := hs.hm; simp; walk_at "mine:om") rfl rfl rfl rfl rfl) ?_
        refine Exs_step (σ₁ := σA xs ys (i + 1) j (m ++ [x]) u x y) (Ex_aug (by walk_at "mine:mem") Ev_int (.add _ _) (.loc rfl) (by walk_at "mine:upd") ⟨rfl, rfl⟩) ?_
        refine Exs_cons (skip_loop (xs := xs) (e := x) (σf := fun k => σA xs ys k j (m ++ [x]) u x y) (fun k => by walk_at "mine:mem") (fun k => by walk_at "mine:mem") (fun k => by walk_at "mine:mem") (fun k k' => by walk_at "mine:upd") rfl rfl rfl (.loc rfl) ("IndexError", true) (fun k hk => by subst hk; exact exi _ _ _ _ (by walk_at "mine:mem") (by walk_at "mine:mem")) ox okx (by walk_at "mine:om") (i + 1) hi) (fun σ' q => ?_) (fun fl σ' hne q => ?_)
        · rcases q with ⟨_, k, hk, hd, rfl⟩ | ⟨q, _⟩
          · rw [X1] at hd
            obtain ⟨s1, s2⟩ := hs.lt hX hY hlt (Nat.le_of_lt hk) hd
            exact Exs_nil (.inl ⟨rfl, k, j, _, u, by walk_at "mine:om", s1, S_of_A⟩)
          · cases q
        · rcases q with ⟨rfl, _⟩ | ⟨rfl, hd, rfl⟩
          · exact absurd rfl hne
          · rw [X1] at hd
            obtain ⟨s1, s2⟩ := hs.lt hX hY hlt (Nat.le_refl _) (by rw [hd]; exact List.drop_length)
            exact .inr ⟨true, rfl, xs.length, j, _, u, s1, .inl List.drop_length, S_of_A⟩
      · refine Exs_cons (R₁ := RT xs ys (sld xs ys).1 (sld xs ys).2 (xs.length + ys.length - i - j)) (Ex_if (b := strLt y x) (It_cmp (by walk_at "mine:nm") (by walk_at "mine:nm") (.gts _ _) rfl) (fun hgt => ?_) (fun hgt => ?_)) (fun σ' q => Exs_nil q) (fun fl σ' _ q => q)
        · have g : dS u ++ [PyData.str y] = dS (u ++ [y]) := by simp
          refine Exs_step (σ₁ := σA xs ys i j m (u ++ [y]) x y) (Ex_append (by walk_at "mine:mem") (by walk_at "mine:nm") (by rw [g]; walk_at "mine:upd") ⟨rfl, rfl⟩ (by have := hs.hu; simp; walk_at "mine:om") rfl rfl rfl rfl rfl) ?_
          refine Exs_step (σ₁ := σA xs ys i (j + 1) m (u ++ [y]) x y) (Ex_aug (by walk_at "mine:mem") Ev_int (.add _ _) (.loc rfl) (by walk_at "mine:upd") ⟨rfl, rfl⟩) ?_
          refine Exs_cons (skip_loop (xs := ys) (e := y) (σf := fun k => σA xs ys i k m (u ++ [y]) x y) (fun k => by walk_at "mine:mem") (fun k => by walk_at "mine:mem") (fun k => by walk_at "mine:mem") (fun k k' => by walk_at "mine:upd") rfl rfl rfl (.loc rfl) ("IndexError", true) (fun k hk => by subst hk; exact exj _ _ _ _ (by walk_at "mine:mem") (by walk_at "mine:mem")) oy oky (by walk_at "mine:om") (j + 1) hj) (fun σ' q => ?_) (fun fl σ' hne q => ?_)
          · rcases q with ⟨_, k, hk, hd, rfl⟩ | ⟨q, _⟩
            · rw [Y1] at hd
              obtain ⟨s1, s2⟩ := hs.gt hX hY hlt hgt (Nat.le_of_lt hk) hd
              exact Exs_nil (.inl ⟨rfl, i, k, m, _, by walk_at "mine:om", s1, S_of_A⟩)
            · cases q
          · rcases q with ⟨rfl, _⟩ | ⟨rfl, hd, rfl⟩
            · exact absurd rfl hne
            · rw [Y1] at hd
              obtain ⟨s1, s2⟩ := hs.gt hX hY hlt hgt (Nat.le_refl _) (by rw [hd]; exact List.drop_length)
              exact .inr ⟨true, rfl, i, ys.length, m, _, s1, .inr List.drop_length, S_of_A⟩
        · refine Exs_step (σ₁ := σA xs ys (i + 1) j m u x y) (Ex_aug (by walk_at "mine:mem") Ev_int (.add _ _) (.loc rfl) (by walk_at "mine:upd") ⟨rfl, rfl⟩) ?_
          refine Exs_cons (R₁ := RT xs ys (sld xs ys).1 (sld xs ys).2 (xs.length + ys.length - i - j)) (Ex_finally ho.framed rfl
            (Exs_cons (R := fun fl σ' => (fl = .next ∧ ∃ k, k < xs.length ∧ xs.drop k = X'.dropWhile (· == x) ∧ σ' = σA xs ys k j m u x y) ∨ (fl = .exc ("IndexError", true) ∧ X'.dropWhile (· == x) = [] ∧ σ' = σA xs ys xs.length j m u x y))
              (skip_loop (xs := xs) (e := x) (σf := fun k => σA xs ys k j m u x y) (fun k => by walk_at "mine:mem") (fun k => by walk_at "mine:mem") (fun k => by walk_at "mine:mem") (fun k k' => by walk_at "mine:upd") rfl rfl rfl (.loc rfl) ("IndexError", true) (fun k hk => by subst hk; exact exi _ _ _ _ (by walk_at "mine:mem") (by walk_at "mine:mem")) ox okx (by walk_at "mine:om") (i + 1) hi)
              (fun σ' q => Exs_nil (by rw [X1] at q; exact q)) (fun fl σ' _ q => by rw [X1] at q; exact q)) ?_ ?_ ?_) (fun σ' q => Exs_nil q) (fun fl σ' _ q => q)
          · rintro fl σ' (⟨rfl, _⟩ | ⟨rfl, _⟩)
            · exact .inl rfl
            · exact .inr ⟨_, rfl⟩
          · rintro σ' (⟨_, k, hk, hd, rfl⟩ | ⟨q, _⟩)
            · refine Exs_step (σ₁ := σA xs ys k (j + 1) m u x y) (Ex_aug (by walk_at "mine:mem") Ev_int (.add _ _) (.loc rfl) (by walk_at "mine:upd") ⟨rfl, rfl⟩) ?_
              refine Exs_cons (skip_loop (xs := ys) (e := y) (σf := fun l => σA xs ys k l m u x y) (fun k => by walk_at "mine:mem") (fun k => by walk_at "mine:mem") (fun k => by walk_at "mine:mem") (fun k k' => by walk_at "mine:upd") rfl rfl rfl (.loc rfl) ("IndexError", true) (fun k hk => by subst hk; exact exj _ _ _ _ (by walk_at "mine:mem") (by walk_at "mine:mem")) oy oky (by walk_at "mine:om") (j + 1) hj) (fun σ' q => ?_) (fun fl σ' hne q => ?_)
              · rcases q with ⟨_, l, hl, hd', rfl⟩ | ⟨q, _⟩
                · rw [Y1] at hd'
                  obtain ⟨s1, s2, s3⟩ := hs.eq hX hY hlt hgt (Nat.le_of_lt hk) hd (Nat.le_of_lt hl) hd'
                  exact Exs_nil (.inl ⟨rfl, k, l, m, u, by walk_at "mine:om", s1, S_of_A⟩)
                · cases q
              · rcases q with ⟨rfl, _⟩ | ⟨rfl, hd', rfl⟩
                · exact absurd rfl hne
                · rw [Y1] at hd'
                  obtain ⟨s1, s2, s3⟩ := hs.eq hX hY hlt hgt (Nat.le_of_lt hk) hd (Nat.le_refl _) (by rw [hd']; exact List.drop_length)
                  exact .inr ⟨true, rfl, k, ys.length, m, u, s1, .inr List.drop_length, S_of_A⟩
            · cases q
          · rintro σ' T (⟨q, _⟩ | ⟨q, hd, rfl⟩) e o vs hv hv2
            · cases q
            cases q
            have exj' : ∀ (σ : Loc) p1 p2 p3, (("actual", Slot.val (.list (dS ys))) : Str × Slot) ∈ σ → (("j", Slot.val (.int (ys.length : Int))) : Str × Slot) ∈ σ → EvX ((calleeCx C (nameOf 2) (scopeOf 2) a cd L X h1 h2).mk' e [(e, o)]) σ (.Subscript (.Name "actual" p1) (.Name "j" p2) p3) ("IndexError", false) :=
              fun σ p1 p2 p3 q1 q2 => EvX_item_in (EvT.el (Ev_name q1 rfl)) (Ev_name q2 rfl) hv hv2 (by simp) (by walk_at "mine:om") (fun _ _ => rfl)
            refine Exs_step (σ₁ := σA xs ys xs.length (j + 1) m u x y) (Ex_aug (by walk_at "mine:mem") Ev_int (.add _ _) (.loc rfl) (by walk_at "mine:upd") ⟨rfl, rfl⟩) ?_
            refine Exs_cons (skip_loop (xs := ys) (e := y) (σf := fun l => σA xs ys xs.length l m u x y) (fun k => by walk_at "mine:mem") (fun k => by walk_at "mine:mem") (fun k => by walk_at "mine:mem") (fun k k' => by walk_at "mine:upd") rfl rfl rfl (.loc rfl) ("IndexError", false) (fun k hk => by subst hk; exact exj' _ _ _ _ (by walk_at "mine:mem") (by walk_at "mine:mem")) oy oky (by walk_at "mine:om") (j + 1) hj) (fun σ' q => ?_) (fun fl σ' hne q => ?_)
            · rcases q with ⟨_, l, hl, hd', rfl⟩ | ⟨q, _⟩
              · rw [Y1] at hd'
                obtain ⟨s1, s2, s3⟩ := hs.eq hX hY hlt hgt (Nat.le_refl _) (by rw [hd]; exact List.drop_length) (Nat.le_of_lt hl) hd'
                exact Exs_nil (.inr ⟨false, rfl, xs.length, l, m, u, s1, .inl List.drop_length, S_of_A⟩)
              · cases q
            · rcases q with ⟨rfl, _⟩ | ⟨rfl, hd', rfl⟩
              · exact absurd rfl hne
              · rw [Y1] at hd'
                obtain ⟨s1, s2, s3⟩ := hs.eq hX hY hlt hgt (Nat.le_refl _) (by rw [hd]; exact List.drop_length) (Nat.le_refl _) (by rw [hd']; exact List.drop_length)
                exact .inr ⟨false, rfl, xs.length, ys.length, m, u, s1, .inl List.drop_length, S_of_A⟩
    · rintro σ' c (⟨q, _⟩ | ⟨c', q, i', j', m', u', hs', hend, hsub⟩) e
      · cases q
      obtain ⟨f1, f2⟩ := hs'.fin hend
      refine Exs_drop hsub ?_
      have b1 := hs'.hm
      have b2 := hs'.hu
      have b3 := hs'.hi
      have b4 := hs'.hj
      have c1 : cut (dS xs) (some (i' : Int)) none = dS (xs.drop i') := by rw [cut_from (by simpa using b3)]; simp
      have c2 : cut (dS ys) (some (j' : Int)) none = dS (ys.drop j') := by rw [cut_from (by simpa using b4)]; simp
      refine Exs_step (Ex_extend (ds := dS m') (es := dS (xs.drop i')) (by walk_at "mine:mem") (c1 ▸ EnT.ev (En_slice (by walk_at "mine:nm") (show Ev _ _ _ _ by walk_at "mine:nm") trivial (by simp; walk_at "mine:om") (fun _ _ => by rfl))) (by walk_at "mine:upd") ⟨rfl, rfl⟩ (by simp; walk_at "mine:om") rfl rfl rfl rfl rfl) ?_
      refine Exs_step (Ex_extend (ds := dS u') (es := dS (ys.drop j')) (by walk_at "mine:mem") (c2 ▸ EnT.ev (En_slice (by walk_at "mine:nm") (show Ev _ _ _ _ by walk_at "mine:nm") trivial (by simp; walk_at "mine:om") (fun _ _ => by rfl))) (by walk_at "mine:upd") ⟨rfl, rfl⟩ (by simp; walk_at "mine:om") rfl rfl rfl rfl rfl) ?_
      refine Exs_cons (Ex_break (R := fun fl σ' => fl = .brk ∧ ∀ p ∈ ([("missing", Slot.own (dS (sld xs ys).1)), ("unexpected", .own (dS (sld xs ys).2))] : Loc), p ∈ σ') ⟨rfl, ?_⟩) (fun σ' q => nomatch q.1) (fun fl σ' _ q => .inr q)
      intro p hp
      have g1 : dS m' ++ dS (xs.drop i') = dS (sld xs ys).1 := by rw [← f1]; simp
      have g2 : dS u' ++ dS (ys.drop j') = dS (sld xs ys).2 := by rw [← f2]; simp
      rw [g1, g2]
      simp only [List.mem_cons, List.not_mem_nil, or_false] at hp
      rcases hp with rfl | rfl
      · walk_at "mine:mem"
      · walk_at "mine:mem"
    · rintro cls σ' (⟨q, _⟩ | ⟨c, q, _⟩)
      · cases q
      · cases q; rfl
    · rintro cls σ' (⟨q, _⟩ | ⟨q, _⟩) <;> cases q
    · rintro fl σ' hne (⟨rfl, q⟩ | ⟨c, rfl, _⟩)
      · exact .inl ⟨rfl, q⟩
      · exact absurd rfl (hne _)
    · rintro σ' (⟨_, i', j', m', u', hlt, hs', hsub⟩ | ⟨q, _⟩)
      · exact Exs_end hsub ⟨_, hlt, i', j', m', u', rfl, hs', rfl⟩
      · cases q
    · rintro fl σ' hne (⟨rfl, _⟩ | ⟨rfl, hsub⟩)
      · exact absurd rfl hne
      · exact ⟨rfl, hsub⟩
  · refine Exs_freeze (.head _) (Upd.here (by walk_at "mine:nokey")) (Exs_freeze (.tail _ (.head _)) (by walk_at "mine:upd") (Exs_cons (Ex_return (Ev_tuple (EvL_cons (by walk_at "mine:nm") (EvL_cons (by walk_at "mine:nm") EvL_nil rfl) rfl) (by show 2 ≤ sizeLine; decide)) rfl) (fun _ q => nomatch q) fun _ _ _ q => q))
end
end Mine
end
section
open PySem PySem.Spec PySem.Calls PyProof.Rows PySem.W PySem.Builtin PySem.Builtin.Str
namespace Mine
section
variable {C : Cx} {σ : Loc} {R : Out → Loc → Prop}
theorem Ex_return_own {x : Str} {px pos : Pos} {ds : List PyData} (hm : (x, Slot.own ds) ∈ σ) (hd : (x == ("__debug__" : Str)) = false) (hr : R (.retOwn ds) σ) : Ex C σ (.Return (some (.Name x px)) pos) R := fun α s Q E hE S k kE => by
  obtain ⟨a, its, n, h1, h2, h3, h4⟩ := S.own x ds hm
  exact wpAny_Return_some (load_name S.has.fun_ h2 hd (k _ _ α σ s hr S (.refl _) (.refl _ _) (.retOwn (List.mem_map_of_mem (f := (·.2)) (mem_of_lookup h1)) h3 h4)))
theorem En_slice_call {value : Expr} {lower upper : Option Expr} {p pos : Pos} {ds : List PyData} {lo hi : Option Int} (hv : El C σ value ds) (hlo : Part C σ lower lo) (hhi : Part C σ upper hi) (hz : ds.length ≤ sizeLine) : En C σ (.Subscript value (.Slice lower upper .none p) pos) (cut ds lo hi) := fun W s Q E H k =>
  PyProof.Rows.Subscript_ (hv W s _ E H fun s₁ l its K₁ ho ra hF => wpAny_Slice (part_sound hlo (H.kept K₁) fun s₂ v2 K₂ p2 => part_sound hhi ((H.kept K₁).kept K₂) fun s₃ v3 K₃ p3 => by
    obtain ⟨o, ho, hc, n, hd⟩ := ho
    have hl := K₃.rdl H.sub (K₂.rdl H.sub ra)
    have hL : s₃.heap.IsList l its.toArray := ⟨o, K₃.keep _ _ hF (K₂.keep _ _ hF ho), hc, n, hd⟩
    rw [evalPart_none]
    refine wpAny_pure (tail_any (hL.push _).typeIs slot_list_getitem.lookup (wpAny_getItem_list_slice (hL.push _) (Heap.IsSliceOf.new ..) (isPart_of p2) (isPart_of p3) .none (by simp) ?_ (by simpa [hl.length] using hz)) (by rfl))
    have Kp : Kept C.F s { s₃ with heap := s₃.heap.push { cls := .type "slice", data := .fields #[v2, v3, .none] } } := ((K₁.trans K₂).trans K₃).trans .push'
    have r' : RdL W (s₃.heap.push { cls := .type "slice", data := .fields #[v2, v3, .none] }) (cut ds lo hi) (cut its lo hi) := RdL.mono (fun b o nb e => ⟨nb, Heap.get?_push_of_some _ e⟩) _ _ (hl.cut lo hi)
    have := new_list (Q := Q) (o := { cls := .type "list", data := .seq (slicePick its.toArray lo hi .none) }) Kp r' (n := 0) (by rw [pick_cut]) k s₃.toks
    simpa using this))
theorem Upd.new {σ σ₁ : Loc} {x : Str} {sl : Slot} (h : ∀ p ∈ σ, p.1 ≠ x) : Upd σ x sl (σ ++ [(x, sl)]) := fun p hp => by
  rcases List.mem_append.mp hp with q | q
  · exact .inr ⟨q, h p q⟩
  · exact .inl (by simpa using q)
end
theorem cut_to_last {α : Type} {l : List α} : cut l none (some (-1)) = l.dropLast := by
  have e : clipAt l.length (-1) = l.length - 1 := by simp [clipAt]; walk_at "mine:om"
  unfold cut
  simp only [Option.elim_some, Option.elim_none, e, List.drop_zero, Nat.sub_zero]
  rw [List.dropLast_eq_take]
theorem length_app (x y : Str) : (x ++ y).length = x.length + y.length := by
  show (x.cps ++ y.cps).size = _
  simp [Str.length]
theorem scut_le (x : Str) (lo hi : Option Int) : (scut x lo hi).length ≤ x.length := by
  show (cut x.cps.toList lo hi).toArray.size ≤ _
  unfold cut
  simp [Str.length]
  walk_at "mine:om"
end Mine
end
section
open PySem PySem.Spec PySem.Calls PyProof.Rows PySem.W PySem.Builtin PySem.Builtin.Str
namespace Mine
section
variable {C : Cx} {σ : Loc} {R : Out → Loc → Prop}
theorem Stays.rd {α : Own} {s s' : Shared} (y : Stays C (C.W α) s s') {d : PyData} {v : Value} (r : Rd (C.W α) s.heap d v) : Rd (C.W α) s'.heap d v := Rd.mono (fun b o nb e => ⟨nb, y.keep b o nb e⟩) _ _ r
theorem Ex_unpack4 {x1 x2 x3 x4 : Str} {p1 p2 p3 p4 tpos pos : Pos} {k : Nat} {value : Expr} {d1 d2 d3 d4 : PyData} {σ₁ σ₂ σ₃ σ₄ : Loc} (h : Ev C σ value (.tuple [d1, d2, d3, d4])) (hp1 : Place C x1) (hp2 : Place C x2) (hp3 : Place C x3) (hp4 : Place C x4)
    (u1 : Upd σ x1 (.val d1) σ₁) (u2 : Upd σ₁ x2 (.val d2) σ₂) (u3 : Upd σ₂ x3 (.val d3) σ₃) (u4 : Upd σ₃ x4 (.val d4) σ₄) (hh : C.A.handled = none) (hR : R .next σ₄)
    (hs : swapsWithSole [.Tuple [.Name x1 p1, .Name x2 p2, .Name x3 p3, .Name x4 p4] k tpos] value pos.line C.env = pure false) (hw : swappedStores [.Tuple [.Name x1 p1, .Name x2 p2, .Name x3 p3, .Name x4 p4] k tpos] value C.env = pure none) :
    Ex C σ (.Assign [.Tuple [.Name x1 p1, .Name x2 p2, .Name x3 p3, .Name x4 p4] k tpos] value pos) R := fun α s Q E hE S kk kE =>
  PyProof.Rows.Assign_Tuple (h (C.W α) s _ E S.has fun s₁ v K r => by
    obtain ⟨a, its, n, rfl, hw, ho, hl⟩ := r.tuple_inv
    obtain ⟨v1, r1, rfl, a1, hl⟩ := hl.cons_inv
    obtain ⟨v2, r2, rfl, a2, hl⟩ := hl.cons_inv
    obtain ⟨v3, r3, rfl, a3, hl⟩ := hl.cons_inv
    obtain ⟨v4, r4, rfl, a4, hl⟩ := hl.cons_inv
    rw [RdL.nil_iff.mp hl] at ho
    refine assign_Tuple_tuple (items := #[v1, v2, v3, v4]) hh ⟨_, ho, rfl, n, rfl⟩ rfl rfl fun h' he => ?_
    have K' : Kept C.F s { s₁ with heap := h' } := K.trans (.of_keeps rfl rfl rfl fun b o e => he b o (Nat.ne_of_lt (Heap.lt_size e)) e)
    have K₂ : Kept C.F s₁ { s₁ with heap := h' } := .of_keeps rfl rfl rfl fun b o e => he b o (Nat.ne_of_lt (Heap.lt_size e)) e
    have S₁ := S.kept K'
    show wpAny _ _ (assignInOrder [assign (.Name x1 p1) C.env, assign (.Name x2 p2) C.env, assign (.Name x3 p3) C.env, assign (.Name x4 p4) C.env] [v1, v2, v3, v4]) _ _ _
    refine wpAny_assignInOrder_more (wpAny_assign_Name (store_slot (sl := .val d1) S₁ hp1 (K₂.rd (W_F α) a1) u1 fun s₃ S₃ y₃ _ => ?_))
    have b2 := y₃.rd (K₂.rd (W_F α) a2)
    have b3 := y₃.rd (K₂.rd (W_F α) a3)
    have b4 := y₃.rd (K₂.rd (W_F α) a4)
    refine wpAny_assignInOrder_more (wpAny_assign_Name (store_slot (sl := .val d2) S₃ hp2 b2 u2 fun s₄ S₄ y₄ _ => ?_))
    refine wpAny_assignInOrder_more (wpAny_assign_Name (store_slot (sl := .val d3) S₄ hp3 (y₄.rd b3) u3 fun s₅ S₅ y₅ _ => ?_))
    refine wpAny_assignInOrder_more (wpAny_assign_Name (store_slot (sl := .val d4) S₅ hp4 (y₅.rd (y₄.rd b4)) u4 fun s₆ S₆ y₆ _ => ?_))
    refine wpAny_assignInOrder_none ?_
    exact kk _ _ α σ₄ s₆ hR S₆ (((((K'.stays (W_F α)).trans (.refl _ _) y₃).trans (.refl _ _) y₄).trans (.refl _ _) y₅).trans (.refl _ _) y₆) (.refl _ _) .next) hs hw
end
noncomputable def onNat (p : Nat → Bool) : PyData → Bool
  | .int i => p i.toNat
  | _ => false
noncomputable def toStr (f : Nat → Str) : PyData → PyData
  | .int i => .str (f i.toNat)
  | _ => .none
theorem dN_comp (n : Nat) (p : Nat → Bool) (f : Nat → Str) : ((dN (List.range n)).filter (onNat p)).map (toStr f) = dS (((List.range n).filter p).map f) := by
  simp only [dN, dS, List.filter_map, List.map_map]
  rfl
theorem down_comp (n : Nat) (p : Nat → Bool) (f : Nat → Str) : (((List.range n).map fun i : Nat => PyData.int ((n : Int) - 1 - (i : Int))).filter (onNat p)).map (toStr f) = dS ((((List.range n).map fun i => n - 1 - i).filter p).map f) := by
  simp only [dS, List.filter_map, List.map_map]
  have e : ∀ i : Nat, ((n : Int) - 1 - (i : Int)).toNat = n - 1 - i := fun i => by walk_at "mine:om"
  have e1 : (onNat p ∘ fun i : Nat => PyData.int ((n : Int) - 1 - (i : Int))) = (p ∘ fun i => n - 1 - i) := by
    funext i; simp only [Function.comp, onNat, e]
  have e2 : (toStr f ∘ fun i : Nat => PyData.int ((n : Int) - 1 - (i : Int))) = (PyData.str ∘ (f ∘ fun i => n - 1 - i)) := by
    funext i; simp only [Function.comp, toStr, e]
  rw [e1, e2]
section
variable {C : Cx}
theorem Ev_lenS {σ : Loc} {np pos : Pos} {e : Expr} {xs : List Str} (he : El C σ e (dS xs)) (hk : C.env.kindOf "len" = some .globalImplicit) (hs : Star1 C e) (hz : xs.length < 2 ^ 62) :
    Ev C σ (.Call (.Name "len" np) [e] [] pos) (.int (xs.length : Nat)) := by
  have := Ev_len (np := np) (pos := pos) he hk hs (by simpa using hz)
  simpa using this
end
theorem okS_sub {x y : Str} (h : okS x = true) (hs : ∀ c ∈ y.cps.toList, c ∈ x.cps.toList) : okS y = true := by
  simp only [okS, PyData.strOk, Array.all_eq_true] at h ⊢
  intro i hi
  have hm : y.cps[i] ∈ x.cps.toList := hs _ (by simp)
  obtain ⟨j, hj, e⟩ := List.getElem_of_mem hm
  have := h j (by simpa using hj)
  rw [← e]
  simpa using this
theorem cut_sub {α : Type} {l : List α} {lo hi : Option Int} : ∀ c ∈ cut l lo hi, c ∈ l := fun c hc => List.mem_of_mem_drop (List.mem_of_mem_take hc)
theorem okS_scut {x : Str} {lo hi : Option Int} (h : okS x = true) : okS (scut x lo hi) = true := okS_sub h fun c hc => cut_sub c (by simpa [scut] using hc)
theorem str_ext {x y : Str} (h : x.cps.toList = y.cps.toList) : x = y := by
  cases x; cases y; simp only [Str.mk.injEq]; exact Array.toList_inj.mp h
end Mine
end
section
open PySem PySem.Spec PySem.Calls PyProof.Rows PySem.W PySem.Builtin PySem.Builtin.Str
namespace Mine
noncomputable abbrev kS (prog : Program) (w : World) := PySem.strKind prog w
noncomputable def txt : Value → Str
  | .str x _ => x
  | _ => ""
noncomputable abbrev sO (es : Array (Int × Value)) (ep : Nat) (t : SetTable) : Obj := { cls := .type "set", dict := none, data := .set es ep t }
structure TabOk (led : Bool) (es : Array (Int × Value)) (t : SetTable) : Prop where
  fits : t.fits es.size = true
  led : t.led = led
  plain : 0 < es.size → t.plain = false
structure SetIs (prog : Program) (w : World) (h : Heap) (a : Addr) (xs : List Str) (led : Bool) : Prop where
  ex : ∃ es ep t, h.get? a = some (sO es ep t) ∧ ElemsOf (kS prog w) es.toList ∧ TabOk led es t ∧ (∀ e ∈ es.toList, ∃ x u, e.2 = .str x u) ∧ (es.toList.map fun e => txt e.2).Perm xs
  nd : xs.Nodup
theorem layNew_led (t : SetTable) (es : Array (Int × Value)) (h : Int) (x : Value) : (layNew t es h x).2.1.led = t.led := by
  unfold layNew
  split
  · simp only [SetTable.orStandIn]
    split <;> rfl
  · rfl
theorem relayAll_led (t : SetTable) (es : Array (Int × Value)) (n : Nat) : (relayAll t es n).2.1.led = t.led := by
  unfold relayAll
  split
  · rename_i t' order hr
    have e : t'.led = t.led := by
      unfold SetTable.relaid SetTable.laid at hr
      simp only [Option.bind_eq_bind, Option.bind_eq_some_iff] at hr
      obtain ⟨owner, _, h2⟩ := hr
      have := Option.some.inj h2
      have := (Prod.mk.inj this).1
      rw [← this]
    dsimp only
    split
    · exact e
    · rfl
  · rfl
theorem relayAll_plain (t : SetTable) (es : Array (Int × Value)) (n : Nat) (h : t.plain = false) : (relayAll t es n).2.1.plain = false := by
  unfold relayAll
  split
  · rename_i t' order hr
    have e : t'.plain = t.plain := by
      unfold SetTable.relaid SetTable.laid at hr
      simp only [Option.bind_eq_bind, Option.bind_eq_some_iff] at hr
      obtain ⟨owner, _, h2⟩ := hr
      have := Option.some.inj h2
      have := (Prod.mk.inj this).1
      rw [← this]
    dsimp only
    split
    · exact e.trans h
    · rfl
  · rfl
section
variable {prog : Program} {w : World} {A : Around} {E : Value → Shared → Prop} {s : Shared}
theorem set_add {a : Addr} {xs : List Str} {led : Bool} {k : Str} {u : Tok} {Q : Shared → Prop} (hS : SetIs prog w s.heap a xs led) (hroom : xs.length + 1 < scanBound)
    (h : ∀ h', Heap.SameBut a s.heap h' → SetIs prog w h' a (if k ∈ xs then xs else xs ++ [k]) led → Q { s with heap := h' }) :
    wpAny (model prog w) A (setAddHashed a (.str k u) ((kS prog w).hash k)) (fun _ s' => Q s') E s := by
  obtain ⟨⟨es, ep, t, ho, hel, ⟨hf, hled, hpl⟩, hstr, hperm⟩, hnd⟩ := hS
  have hkey : (kS prog w).is k (.str k u) = true := strKind_is _ _ _ _
  have hsc : Value.scannable (.str k u) = true := rfl
  have hn : es.size = xs.length := by have := hperm.length_eq; simpa using this
  have hb : es.size < scanBound := by walk_at "mine:om"
  have iskey : ∀ e ∈ es.toList, ∀ k', (kS prog w).is k' e.2 = true ↔ k' = txt e.2 := fun e he k' => by
    obtain ⟨x, u', hx⟩ := hstr e he
    rw [hx]
    constructor
    · intro q; exact (kS prog w).inj _ _ _ q (strKind_is _ _ _ _)
    · rintro rfl; exact strKind_is _ _ _ _
  unfold setAddHashed setAddHashedIn
  refine wpAny_holding (wpAny_bind (wpAny_setState_of ho rfl hf ?_))
  dsimp only
  rw [byScan_of hsc hb hel]
  simp only [↓reduceIte]
  unfold setAddByScan
  refine wpAny_bind (wpAny_bind (wpAny_rule (wpAny_bind (wpAny_setScan_of hkey ho rfl hf hel ?_))))
  cases hr : List.findIdx? (fun e => (kS prog w).is k e.2) es.toList with
  | some j =>
    obtain ⟨hj, hpj, _⟩ := List.findIdx?_eq_some_iff_getElem.mp hr
    have hmem : k ∈ xs := by
      refine hperm.mem_iff.mp (List.mem_map.mpr ⟨es.toList[j], List.getElem_mem hj, ?_⟩)
      exact ((iskey _ (List.getElem_mem hj) k).mp hpj).symm
    dsimp only
    refine wpAny_pure (wpAny_pure ?_)
    have e : s = { s with heap := s.heap } := by cases s; rfl
    rw [e]
    exact h s.heap (Heap.SameBut.refl a s.heap) (by rw [if_pos hmem]; exact ⟨⟨es, ep, t, ho, hel, ⟨hf, hled, hpl⟩, hstr, hperm⟩, hnd⟩)
  | none =>
    have hmem : k ∉ xs := fun hm => by
      obtain ⟨e, he, hk⟩ := List.mem_map.mp (hperm.mem_iff.mpr hm)
      have := List.findIdx?_eq_none_iff.mp hr e he
      rw [(iskey e he k).mpr hk.symm] at this
      cases this
    dsimp only
    have hgw : ∀ (b : Bool) {s₁ : Shared} {Q' : Unit → Shared → Prop}, Q' () s₁ → wpAny (model prog w) A (match b with | true => rule "set.scan.the-table-gave-way" | false => pure ()) Q' E s₁ :=
      fun b s₁ Q' hq => by cases b <;> first | exact wpAny_pure hq | exact wpAny_rule hq
    have lp := layNew_perm t es ((kS prog w).hash k) (.str k u)
    have lf := layNew_fits t es ((kS prog w).hash k) (.str k u)
    have ll := layNew_led t es ((kS prog w).hash k) (.str k u)
    generalize layNew t es ((kS prog w).hash k) (.str k u) = Ly at lp lf ll
    obtain ⟨es1, t1, wasDummy, gave⟩ := Ly
    dsimp only at lp lf ll ⊢
    rw [Array.toList_push] at lp
    have hel1 : ElemsOf (kS prog w) es1.toList := (hel.push hkey hsc).perm lp
    have hstr1 : ∀ e ∈ es1.toList, ∃ x u, e.2 = .str x u := fun e he => by
      rcases List.mem_append.mp (lp.mem_iff.mp he) with q | q
      · exact hstr e q
      · rw [List.mem_singleton] at q; subst q; exact ⟨k, u, rfl⟩
    have hperm1 : (es1.toList.map fun e => txt e.2).Perm (xs ++ [k]) := by
      have := lp.map (fun e => txt e.2)
      rw [List.map_append] at this
      exact this.trans (hperm.append (List.Perm.refl _))
    have hnd1 : (xs ++ [k]).Nodup := by
      rw [List.nodup_append]
      exact ⟨hnd, by simp, fun x hx y hy q => hmem (by rw [List.mem_singleton] at hy; rw [← hy, ← q]; exact hx)⟩
    have hsz1 : es1.size = xs.length + 1 := by have := hperm1.length_eq; simpa using this
    have hz1 : es1.size ≤ sizeLine := fits_of_scanBound (by walk_at "mine:om")
    have fin : ∀ (g : Bool → Sem Unit) (t2 : SetTable), (∀ (b : Bool) (s₁ : Shared) (Q' : Unit → Shared → Prop), Q' () s₁ → wpAny (model prog w) A (g b) Q' E s₁) → t2.fits es1.size = true → t2.led = led → t2.plain = false →
        wpAny (model prog w) A (do
          storeSet a es1 t2
          if (!wasDummy && t2.tooFull) = true then do
              g (relayAll t2 es1 (SetTable.grown es1.size)).2.2
              storeSet a (relayAll t2 es1 (SetTable.grown es1.size)).1 (relayAll t2 es1 (SetTable.grown es1.size)).2.1
              pure (some true)
            else pure (some true)) (fun r s' => r = some true ∧ Q s') E s := fun g t2 hg f2 l2 p2 => by
      refine wpAny_bind (wpAny_storeSet_of ho rfl ?_ hz1)
      have g1 := Heap.get?_update_self (Obj.putSet es1 t2) ho rfl
      have hsb1 := Heap.SameBut.update s.heap a (Obj.putSet es1 t2)
      split
      · have rp := relayAll_perm t2 es1 (SetTable.grown es1.size)
        have rf := relayAll_fits t2 es1 (SetTable.grown es1.size)
        have rl := relayAll_led t2 es1 (SetTable.grown es1.size)
        have rpl := relayAll_plain t2 es1 (SetTable.grown es1.size) p2
        generalize relayAll t2 es1 (SetTable.grown es1.size) = Rl at rp rf rl rpl
        obtain ⟨es2, t3, gave2⟩ := Rl
        dsimp only at rp rf rl rpl ⊢
        have hsz : es2.size = es1.size := by have := rp.length_eq; simpa using this
        refine wpAny_bind (hg _ _ _ (wpAny_bind (wpAny_storeSet_of g1 rfl ?_ (by rw [hsz]; exact hz1))))
        refine wpAny_pure ⟨rfl, h _ (hsb1.trans (Heap.SameBut.update _ a _)) ?_⟩
        rw [if_neg hmem]
        refine ⟨⟨es2, _, t3, Heap.get?_update_self (Obj.putSet es2 t3) g1 rfl, hel1.perm rp, ⟨rf, rl.trans l2, fun _ => rpl⟩, fun e he => hstr1 e (rp.mem_iff.mp he), (rp.map _).trans hperm1⟩, hnd1⟩
      · refine wpAny_pure ⟨rfl, h _ hsb1 ?_⟩
        rw [if_neg hmem]
        exact ⟨⟨es1, _, t2, g1, hel1, ⟨f2, l2, fun _ => p2⟩, hstr1, hperm1⟩, hnd1⟩
    refine wpAny_bind (hgw _ ?_)
    split
    · refine wpAny_bind ?_
      rw [hashByValue_scannable 8 hsc]
      refine wpAny_pure ?_
      refine wpAny_mono (fin _ { t1 with plain := false } ?_ (SetTable.fits_plain_off lf) (ll.trans hled) rfl) (fun r s' hq => ?_) fun _ _ e => e
      · intro b s₁ Q' hq; cases b <;> first | exact wpAny_pure hq | exact wpAny_rule hq
      · obtain ⟨rfl, hq⟩ := hq
        exact wpAny_pure hq
    · rename_i hp
      refine wpAny_bind (wpAny_pure ?_)
      simp only [↓reduceIte]
      refine wpAny_mono (fin _ t1 ?_ lf (ll.trans hled) (by simpa using hp)) (fun r s' hq => ?_) fun _ _ e => e
      · intro b s₁ Q' hq; cases b <;> first | exact wpAny_pure hq | exact wpAny_rule hq
      · obtain ⟨rfl, hq⟩ := hq
        exact wpAny_pure hq
end
end Mine
end
section
open PySem PySem.Spec PySem.Calls PyProof.Rows PySem.W PySem.Builtin PySem.Builtin.Str
namespace Mine
noncomputable def addOne (acc : List Str) (k : Str) : List Str := if k ∈ acc then acc else acc ++ [k]
noncomputable def dedup (xs : List Str) : List Str := xs.foldl addOne []
theorem addOne_len (acc : List Str) (k : Str) : (addOne acc k).length ≤ acc.length + 1 := by
  unfold addOne; split <;> simp
theorem dedup_len : ∀ (xs acc : List Str), (xs.foldl addOne acc).length ≤ acc.length + xs.length
  | [], acc => by simp
  | x :: xs, acc => by
    have h1 := dedup_len xs (addOne acc x)
    have h2 := addOne_len acc x
    simp only [List.foldl_cons, List.length_cons]
    walk_at "mine:om"
theorem strs_at : ∀ {vs : List Value} {ss : List Str}, StrsAre vs ss → ∀ {i : Nat} {v : Value} {x : Str}, vs[i]? = some v → ss[i]? = some x → ∃ u, v = .str x u := by
  intro vs ss p
  induction p with
  | nil => intro i v x h; exact nomatch h
  | cons y t _ ih =>
    intro i v x h1 h2
    cases i with
    | zero => cases h1; cases h2; exact ⟨_, rfl⟩
    | succ i => exact ih h1 h2
section
variable {prog : Program} {w : World} {A : Around} {E : Value → Shared → Prop} {s : Shared}
theorem set_loop {I S l : Addr} {items : List Value} {ks : List Str} {led : Bool} {R : Result → Shared → Prop} (hh : A.handled = none) (hlI : l ≠ I) (hSI : S ≠ I) (hSl : S ≠ l) (hk : StrsAre items ks) (hb : ks.length + 1 < scanBound) :
    ∀ (k i : Nat) (s : Shared), ks.length - i = k → i ≤ ks.length → s.heap.IsListIter I l i → s.heap.IsList l items.toArray → SetIs prog w s.heap S (dedup (ks.take i)) led →
      (∀ h' tk, (∀ b o, b ≠ S → b ≠ I → s.heap.get? b = some o → h'.get? b = some o) → SetIs prog w h' S (dedup ks) led → R (.ok (.ret .none)) { s with heap := h', toks := tk }) →
      codeAny (model prog w) A (.builtin "set.update.loop" ⟨[.ref S, .ref I], []⟩) R s := by
  have hlen : items.length = ks.length := hk.length
  have hA : A.in1.handled = none := hh
  intro k
  induction k with
  | zero =>
    intro i s hk' hi hit hl hS hR
    have hin : i = ks.length := by walk_at "mine:om"
    subst hin
    refine codeAny_builtin PyProof.Rows.F.entry_set_update_loop ?_
    rw [Around.under_plainId PyProof.Rows.F.plain_set_update_loop _]
    show wpAny _ A.in1 (pyNext (.ref I) >>= _) _ _ s
    refine wpAny_bind ((Walks.list hA I l hlI items.toArray).done s _ _ (by rw [List.size_toArray, hlen]; exact ⟨hit, hl⟩) fun h' tk hm => ?_)
    show wpAny _ A.in1 (ret Value.none) _ _ _
    refine wpAny_pure (hR h' tk (fun b o h1 h2 e => hm b o (by simpa using h2) e) ?_)
    rw [List.take_length] at hS
    obtain ⟨⟨es, ep, t, ho, r⟩, nd⟩ := hS
    exact ⟨⟨es, ep, t, hm _ _ (by simpa using hSI) ho, r⟩, nd⟩
  | succ k ih =>
    intro i s hk' hi hit hl hS hR
    have hlt : i < ks.length := by walk_at "mine:om"
    refine codeAny_builtin PyProof.Rows.F.entry_set_update_loop ?_
    rw [Around.under_plainId PyProof.Rows.F.plain_set_update_loop _]
    show wpAny _ A.in1 (pyNext (.ref I) >>= _) _ _ s
    refine wpAny_bind ((Walks.list hA I l hlI items.toArray).item i s _ _ (by rw [List.size_toArray, hlen]; exact hlt) ⟨hit, hl⟩ fun v h' tk hv hst hm => ?_)
    have hv' : ∃ u, v = .str ks[i] u := by
      have hv2 : items[i]? = some v := by simpa using hv
      exact strs_at hk hv2 (List.getElem?_eq_getElem hlt)
    obtain ⟨u, rfl⟩ := hv'
    show wpAny _ A.in1 (holding [Value.str ks[i] u] (setAdd S (.str ks[i] u)) >>= _) _ _ _
    refine wpAny_bind (wpAny_holding ?_)
    unfold setAdd
    refine wpAny_holding ?_
    refine wpAny_bind ((kS prog w).pyHash (k := ks[i]) (strKind_is _ _ _ _) ?_)
    have hS' : SetIs prog w h' S (dedup (ks.take i)) led := by
      obtain ⟨⟨es, ep, t, ho, r⟩, nd⟩ := hS
      exact ⟨⟨es, ep, t, hm _ _ (by simpa using hSI) ho, r⟩, nd⟩
    have hlenD : (dedup (ks.take i)).length ≤ i := by
      have := dedup_len (ks.take i) []
      simp only [dedup, List.length_nil, List.length_take] at this ⊢
      walk_at "mine:om"
    have e1 : dedup (ks.take (i + 1)) = (if ks[i] ∈ dedup (ks.take i) then dedup (ks.take i) else dedup (ks.take i) ++ [ks[i]]) := by
      rw [List.take_succ_eq_append_getElem hlt]
      unfold dedup
      rw [List.foldl_append]
      rfl
    refine set_add (s := { s with heap := h', toks := tk + 1 }) hS' (by walk_at "mine:om") fun h₂ hsb hS2 => ?_
    rw [← e1] at hS2
    refine wpAny_pure ⟨plainId_quiet PyProof.Rows.F.plain_set_update_loop _, ih (i + 1) _ (by walk_at "mine:om") hlt ?_ ?_ hS2 fun h₃ tk₃ hk3 hS3 => ?_⟩
    · exact hst.1.at fun o e => (hsb.2 I (Ne.symm hSI)).trans e
    · exact hst.2.at fun o e => (hsb.2 l (Ne.symm hSl)).trans e
    · exact hR h₃ tk₃ (fun b o h1 h2 e => hk3 b o h1 h2 ((hsb.2 b h1).trans (hm b o (by simpa using h2) e))) hS3
end
end Mine
end
section
open PySem PySem.Spec PySem.Calls PyProof.Rows PySem.W PySem.Builtin PySem.Builtin.Str
namespace Mine
section
variable {prog : Program} {w : World} {A : Around} {E : Value → Shared → Prop} {s : Shared}
noncomputable abbrev ledW (w : World) : Bool := !w.params.followText "set-order"
noncomputable abbrev newSetO (w : World) : Obj := { cls := .type "set", dict := none, data := .set #[] 0 (.fresh 0 0 (ledW w)) }
theorem set_new1 (a : Value) {Q₁ : Value → Shared → Prop} (h : Q₁ (.ref s.heap.objs.size) { s with heap := s.heap.push (newSetO w) }) :
    codeAny (model prog w) A (.call (.builtin "set.__new__") ⟨[.type "set", a], []⟩) (wants Q₁ E) s := by
  refine codeAny_of_tree ?_
  show wpAny _ A.in1 (do checkBuiltinCall "set.__new__" ⟨[.type "set", a], []⟩; again (.builtin "set.__new__" ⟨[.type "set", a], []⟩)) _ _ s
  refine wpAny_bind (wpAny_of_eq (PySem.F.newCall_set_1 a) (wpAny_pure ⟨plainId_quiet PySem.F.plain_set_new _, codeAny_builtin PySem.F.entry_set_new ?_⟩))
  rw [Around.under_plainId PySem.F.plain_set_new _]
  unfold Builtin.«set.__new__» Builtin.Frozenset.newClass
  have hsub := sub_set_self
  obtain ⟨hp, g, d, tk, os⟩ := s
  dsimp only
  wp_walk
  refine wpAny_askSetting (wpAny_pure ?_)
  dsimp only
  simp only [newObj]
  refine wpAny_bind (wpAny_alloc (wpAny_pure ?_))
  exact wpAny_pure h
set_option maxHeartbeats 3200000 in
theorem call_set {l : Addr} {items : List Value} {ks : List Str} {Q : Value → Shared → Prop} (hh : A.handled = none) (hl : s.heap.IsList l items.toArray) (hk : StrsAre items ks) (hb : ks.length + 1 < scanBound)
    (h : ∀ (h' : Heap) (tk : Nat), SetIs prog w h' s.heap.objs.size (dedup ks) (ledW w) → (∀ b o, s.heap.get? b = some o → h'.get? b = some o) → Q (.ref s.heap.objs.size) { s with heap := h', toks := tk }) :
    wpAny (model prog w) A (call (.type "set") [.ref l]) Q E s := by
  obtain ⟨c, tl, hmro⟩ := PySem.F.called_set.mro
  have hmade := PySem.F.called_set.made
  have hsub := PySem.F.called_set.sub
  refine wpAny_call (codeAny_of_tree ?_)
  show wpAny _ _ (callAny (.type "set") _) _ _ _
  refine wpAny_pure ⟨Code.quiet_builtin _ (by decide +kernel), codeAny_builtin PySem.F.entry_type_call ?_⟩
  rw [Around.under_plain (weight_type_call_type "set" [.ref l] []) rfl]
  have h1 := PySem.F.called_set.notType
  have h2 := PySem.F.called_set.canCreate
  have hct := PySem.F.typeCall_set_1 (.ref l)
  repeat (any_goals (first | assumption | wp_step))
  refine codeAny_mono (set_new1 (.ref l) (E := E) (Q₁ := fun obj s₁ => obj = .ref s.heap.objs.size ∧ s₁ = { s with heap := s.heap.push (newSetO w) }) ⟨rfl, rfl⟩) fun r s₁ hr => ?_
  cases r with
  | error e => exact hr
  | ok fl =>
    cases fl with
    | ret obj =>
      obtain ⟨rfl, rfl⟩ := hr
      have hS : (s.heap.push (newSetO w)).get? s.heap.objs.size = some (newSetO w) := Heap.get?_push_size _ rfl
      have hT : Shared.TypeIs { s with heap := s.heap.push (newSetO w) } (.ref s.heap.objs.size) "set" := ⟨_, hS, rfl⟩
      have hli := PySem.F.called_set.init.lookup
      have hbi := PySem.F.called_set.init.bind (.ref s.heap.objs.size)
      repeat (any_goals (first | assumption | wp_step))
      refine codeAny_mono (codeAny_call_builtin (R := wants (fun r s₂ => r = .none ∧ ∃ h' tk, s₂ = { s with heap := h', toks := tk } ∧ SetIs prog w h' s.heap.objs.size (dedup ks) (ledW w) ∧ (∀ b o, s.heap.get? b = some o → h'.get? b = some o)) E)
        PySem.F.called_set.init.plain PySem.F.entry_set_init (check_set_init_1 hT ?_)) fun r₂ s₂ hr₂ => ?_
      · obtain ⟨ol, hol, hcl, nl, hdl⟩ := hl
        obtain ⟨ocls, odict, odata, oslots⟩ := ol
        simp only at hcl hdl
        subst hcl; subst hdl
        have hol' : (s.heap.push (newSetO w)).get? l = some { cls := .type "list", dict := odict, data := .seq items.toArray nl, slots := oslots } := Heap.get?_push_of_some _ hol
        have hsls := PySem.F.sub_list_set
        have hslf := PySem.F.sub_list_frozenset
        have hne : (Value.type "list" == Value.type "dict") = false := by decide
        have hl1 : (s.heap.push (newSetO w)).IsList l items.toArray := ⟨_, hol', rfl, nl, rfl⟩
        unfold Builtin.«set.__init__» noKeywords Builtin.Frozenset.updateFrom
        generalize hPI : pyIter = PI
        wp_walk
        subst hPI
        refine wpAny_pyIter_list hl1 ?_
        refine wpAny_bind (wpAny_runValue ?_)
        have hlS : l < s.heap.objs.size := Heap.lt_size hol
        have e1 : (s.heap.push (newSetO w)).objs.size = s.heap.objs.size + 1 := Heap.size_push ..
        refine set_loop (A := A.in1.in1) (led := ledW w) (by simpa using hh) (Nat.ne_of_lt (by rw [e1]; exact Nat.lt_succ_of_lt hlS)) (Nat.ne_of_lt (by rw [e1]; exact Nat.lt_succ_self _)) (Nat.ne_of_gt hlS) hk hb (ks.length - 0) 0 _ (by walk_at "mine:om") (Nat.zero_le _) ⟨_, Heap.get?_push_size _ rfl, rfl, rfl⟩ (hl1.push _) ?_ fun h' tk hkeep hS' => ?_
        · refine ⟨⟨#[], 0, _, Heap.get?_push_of_some _ hS, (fun e he => by simp at he), ⟨rfl, rfl, fun q => by simp at q⟩, (fun e he => by simp at he), by simp [dedup]⟩, by simp [dedup]⟩
        · show wpAny _ _ _ _ _ _
          refine wpAny_pure ?_
          show wpAny _ _ (ret Value.none) _ _ _
          refine wpAny_pure ⟨rfl, h', tk, rfl, hS', fun b o e => ?_⟩
          have hb := Heap.lt_size e
          exact hkeep b o (Nat.ne_of_lt hb) (Nat.ne_of_lt (by rw [e1]; exact Nat.lt_succ_of_lt hb)) (Heap.get?_push_of_some _ (Heap.get?_push_of_some _ e))
      · cases r₂ with
        | error e => exact hr₂
        | ok fl₂ =>
          cases fl₂ with
          | ret r =>
            obtain ⟨rfl, h', tk, rfl, hS', hk'⟩ := hr₂
            repeat (any_goals (first | assumption | wp_step))
            exact h _ _ hS' hk'
          | _ => exact hr₂.elim
    | _ => exact hr.elim
end
end Mine
end
section
open PySem PySem.Spec PySem.Calls PyProof.Rows PySem.W PySem.Builtin PySem.Builtin.Str
namespace Mine
theorem erase_perm {α : Type} : ∀ {l : List α} {i : Nat} (h : i < l.length), (l[i] :: l.eraseIdx i).Perm l
  | [], i, h => by simp at h
  | a :: l, 0, h => List.Perm.refl _
  | a :: l, i + 1, h => by
    have ih := erase_perm (l := l) (i := i) (by simpa using h)
    simp only [List.getElem_cons_succ, List.eraseIdx_cons_succ]
    exact (List.Perm.swap _ _ _).trans (ih.cons a)
section
variable {prog : Program} {w : World} {A : Around} {E : Value → Shared → Prop} {s : Shared}
theorem choose_any {n : Nat} {Q : Nat → Shared → Prop} (hn : n ≠ 0) (h : ∀ i d, i < n → Q i { s with drawn := d }) : wpAny (model prog w) A (choose .order n) Q E s := fun Γ p hΓ => by
  unfold choose
  rw [Sem.wp_choose]
  refine ⟨hn, ?_⟩
  have := h ((model prog w).w.draws .order (s.drawn.get .order) % n) (s.drawn.bump .order) (Nat.mod_lt _ (Nat.pos_of_ne_zero hn))
  first
    | exact this
    | (rw [Sem.wp_pure]; exact this)
theorem draw_order {α : Type} : ∀ (n : Nat) (xs : List α) (s : Shared) (Q : List α → Shared → Prop), n = xs.length → (∀ ys d, ys.Perm xs → Q ys { s with drawn := d }) → wpAny (model prog w) A (drawOrder n xs) Q E s
  | 0, xs, s, Q, hn, h => by
    have : xs = [] := List.eq_nil_of_length_eq_zero hn.symm
    subst this
    show wpAny (model prog w) A (pure [] : Sem (List α)) Q E s
    have e : s = { s with drawn := s.drawn } := by cases s; rfl
    exact wpAny_pure (by rw [e]; exact h [] s.drawn (List.Perm.refl _))
  | n + 1, [], s, Q, hn, h => by simp at hn
  | n + 1, x :: xs, s, Q, hn, h => by
    show wpAny (model prog w) A (choose .order (x :: xs).length >>= fun i => match (x :: xs)[i]? with | some y => (drawOrder n ((x :: xs).eraseIdx i) >>= fun ys => pure (y :: ys)) | none => unsupported "internal:drawOrder") Q E s
    refine wpAny_bind (choose_any (by simp) fun i d hi => ?_)
    rw [List.getElem?_eq_getElem hi]
    dsimp only
    refine wpAny_bind (draw_order n ((x :: xs).eraseIdx i) _ _ (by rw [List.length_eraseIdx_of_lt hi]; simp at hn ⊢; walk_at "mine:om") fun ys d hp => wpAny_pure ?_)
    exact h _ d ((List.Perm.cons _ hp).trans (erase_perm hi))
end
end Mine
end
section
open PySem PySem.Spec PySem.Calls PyProof.Rows PySem.W PySem.Builtin PySem.Builtin.Str
namespace Mine
theorem entry_set_iter : entryFor table "set.__iter__" = some Builtin.«frozenset.__iter__» := entryFor_alias (id' := "frozenset.__iter__") (by kernel_rfl) rfl (by decide +kernel) (by kernel_rfl)
theorem slot_setit : PySem.Slot "set_iterator" "__next__" "set_iterator.__next__" :=
  .of (owner := "set_iterator") (n := "__next__") (by rw [typeLookup_type, builtinLookup_eq_fast]; kernel_rfl) (by decide +kernel) (by decide +kernel) (by decide +kernel)
    (by first | exact .inl (by decide +kernel) | exact .inr (by decide +kernel)) (by rw [isSubtype_type]; kernel_rfl)
theorem entry_setit : entryFor table "set_iterator.__next__" = some Builtin.«set_iterator.__next__» := entryFor_of_tree (by kernel_rfl)
theorem args_setit (a : Value) : argsOk "set_iterator.__next__" ⟨[a], []⟩ := by unfold argsOk; kernel_rfl
section
variable {prog : Program} {w : World} {A : Around} {E : Value → Shared → Prop} {s : Shared}
theorem next_end {it : Addr} {T id : String} {B : Builtin} {Q : Option Value → Shared → Prop} (hh : A.handled = none) (hT : s.TypeIs (.ref it) T) (sl : PySem.Slot T "__next__" id) (en : entryFor table id = some B) (ar : argsOk id ⟨[.ref it], []⟩)
    (hB : ∀ (P : Fin → Shared → Prop) (E' : Value → Shared → Prop), (∀ h' e, (∀ b o, b ≠ it → s.heap.get? b = some o → h'.get? b = some o) → (∃ o, h'.get? e = some o ∧ o.cls = .type "StopIteration") → E' (.ref e) { s with heap := h' }) → wpAny (model prog w) A.in1 (B ⟨[.ref it], []⟩) P E' s)
    (hQ : ∀ h', (∀ b o, b ≠ it → s.heap.get? b = some o → h'.get? b = some o) → Q none { s with heap := h' }) : wpAny (model prog w) A (pyNext (.ref it)) Q E s := by
  unfold pyNext
  refine wpAny_bind (wpAny_attempt (wpAny_callSpecial?_slot (name := Str.ofString "__next__") hT sl (wpAny_call_entry sl hT en ?_ ar)))
  refine hB _ _ fun h' e hk ⟨o, ho, hc⟩ => ?_
  refine wpAny_bind (wpAny_isInstance (T := "StopIteration") (b := true) ⟨o, ho, hc⟩ isSubtype_stop ?_)
  exact wpAny_pure (hQ h' hk)
theorem stop_raise {α : Type} {it : Addr} {h₀ : Heap} {Q : α → Shared → Prop} (hA : A.handled = none) (hk : ∀ b o, b ≠ it → h₀.get? b = some o → s.heap.get? b = some o)
    (k : ∀ h' e, (∀ b o, b ≠ it → h₀.get? b = some o → h'.get? b = some o) → (∃ o, h'.get? e = some o ∧ o.cls = .type "StopIteration") → E (.ref e) { s with heap := h' }) :
    wpAny (model prog w) A (do raiseNew (← newExc (.type "StopIteration") []) : Sem α) Q E s := by
  refine wpAny_bind ?_
  simp only [newExc, newTuple]
  refine wpAny_bind (wpAny_newObj_type ?_ (by size_fits))
  refine wpAny_bind (m := firstArgMember _ _) (wpAny_of_eq (a := Value.none) (by first | rfl | (simp only [firstArgMember]; rfl)) ?_)
  refine wpAny_newObj_type ?_ (by size_fits)
  simp only [raiseNew]
  refine wpAny_bind (wpAny_handled ?_)
  rw [hA]
  refine wpAny_bind (wpAny_pure (wpAny_throw ?_))
  exact k _ _ (fun b o hb e => Heap.get?_push_of_some _ (Heap.get?_push_of_some _ (hk b o hb e))) ⟨_, Heap.get?_push_size _ rfl, rfl⟩
noncomputable abbrev siO (f : Value) (i : Nat) (sa : Value) (n ep : Nat) : Obj := { cls := .type "set_iterator", data := .fields #[f, rawInt i, sa, rawInt n, rawInt ep] }
end
end Mine
end
section
open PySem PySem.Spec PySem.Calls PyProof.Rows PySem.W PySem.Builtin PySem.Builtin.Str
namespace Mine
theorem slot_setit_iter : PySem.Slot "set_iterator" "__iter__" "set_iterator.__iter__" :=
  .of (owner := "set_iterator") (n := "__iter__") (by rw [typeLookup_type, builtinLookup_eq_fast]; kernel_rfl) (by decide +kernel) (by decide +kernel) (by decide +kernel)
    (by first | exact .inl (by decide +kernel) | exact .inr (by decide +kernel)) (by rw [isSubtype_type]; kernel_rfl)
theorem entry_setit_iter : entryFor table "set_iterator.__iter__" = some Builtin.«dict_keyiterator.__iter__» := entryFor_alias (id' := "dict_keyiterator.__iter__") (by kernel_rfl) rfl (by decide +kernel) (by kernel_rfl)
theorem args_setit_iter (a : Value) : argsOk "set_iterator.__iter__" ⟨[a], []⟩ := by unfold argsOk; kernel_rfl
section
variable {prog : Program} {w : World} {A : Around}
theorem setit_self {I : Addr} {f sa : Value} {i n ep : Nat} {s : Shared} {Q : Value → Shared → Prop} {E : Value → Shared → Prop} (h : s.heap.get? I = some (siO f i sa n ep)) (hQ : Q (.ref I) s) : wpAny (model prog w) A (pyIter (.ref I)) Q E s := by
  have hT : s.TypeIs (.ref I) "set_iterator" := ⟨_, h, rfl⟩
  refine wpAny_pyIter_slot hT slot_setit_iter (wpAny_call_entry slot_setit_iter hT entry_setit_iter ?_ (args_setit_iter _))
  show wpAny _ _ (ret (.ref I)) _ _ s
  exact wpAny_pure ⟨_, rfl, "set_iterator", _, hT, slot_setit.lookup, hQ⟩
noncomputable abbrev plO (places : List Nat) (n : Nat) : Obj := { cls := .type "tuple", data := .seq (places.map fun i : Nat => rawInt i).toArray n }
structure DrawnAt (I sa tup : Addr) (es : Array (Int × Value)) (ep : Nat) (t : SetTable) (places : List Nat) (m i : Nat) (h : Heap) : Prop where
  it : h.get? I = some (siO (.ref tup) i (.ref sa) es.size ep)
  set : h.get? sa = some (sO es ep t)
  tup : h.get? tup = some (plO places m)
theorem walks_drawn (hh : A.handled = none) {I sa tup : Addr} {es : Array (Int × Value)} {ep : Nat} {t : SetTable} {places : List Nat} {m : Nat} (h1 : sa ≠ I) (h2 : tup ≠ I) (hf : t.fits es.size = true) (hp : places.Perm (List.range es.size)) :
    Walks prog w A I [I, sa, tup] [I] es.size (fun i v => ∃ (j : Nat) (e : Int × Value), places[i]? = some j ∧ es[j]? = some e ∧ v = e.2) (fun i h => DrawnAt I sa tup es ep t places m i h) where
  sub := fun b hb => by simp at hb; simp [hb]
  frame := fun i h h' st hk => ⟨hk I (by simp) _ st.it, hk sa (by simp) _ st.set, hk tup (by simp) _ st.tup⟩
  item := fun i s Q E hi st hQ => by
    have hlen : places.length = es.size := by have := hp.length_eq; simpa using this
    have hj : i < places.length := by walk_at "mine:om"
    have hjm : places[i] < es.size := by
      have : places[i] ∈ List.range es.size := hp.mem_iff.mp (List.getElem_mem hj)
      simpa using this
    have hT : s.TypeIs (.ref I) "set_iterator" := ⟨_, st.it, rfl⟩
    unfold pyNext
    refine wpAny_bind (wpAny_attempt (wpAny_callSpecial?_slot (name := Str.ofString "__next__") hT slot_setit (wpAny_call_entry slot_setit hT entry_setit ?_ (args_setit _))))
    unfold Builtin.«set_iterator.__next__»
    refine wpAny_bind (wpAny_pure ?_)
    dsimp only
    refine wpAny_bind (wpAny_fieldsOf st.it rfl ?_)
    dsimp only [siO, rawInt]
    refine wpAny_bind (wpAny_setEntries_of st.set rfl hf ?_)
    rw [if_neg (by simp)]
    refine wpAny_bind (wpAny_seqItems st.tup rfl ?_)
    dsimp only
    have hpl : ((places.map fun i : Nat => rawInt i).toArray)[Int.toNat (i : Int)]? = some (rawInt places[i]) := by
      simp [hj]
    rw [hpl]
    dsimp only [rawInt]
    unfold setNextDrawn
    refine wpAny_bind (wpAny_bind (wpAny_setState_of st.set rfl hf ?_))
    dsimp only
    rw [if_neg (by simp)]
    have hes : es[Int.toNat (places[i] : Int)]? = some es[places[i]] := by simp [hjm]
    rw [hes]
    dsimp only
    refine wpAny_pure ?_
    refine wpAny_bind (wpAny_setField st.it rfl (by simp) ?_)
    refine wpAny_pure ⟨_, rfl, ?_⟩
    refine wpAny_pure ?_
    refine hQ _ _ s.toks ⟨places[i], es[places[i]], List.getElem?_eq_getElem hj, by simp [hjm], rfl⟩ ⟨?_, ?_, ?_⟩ fun b o hb e => (Heap.get?_update_other _ _ (by simpa using fun q : I = b => hb (by simp [q]))).trans e
    · have := Heap.get?_update_self (Obj.mapFields (·.setIfInBounds 1 (rawInt ((i : Int) + 1)))) st.it rfl
      simpa [siO, Obj.mapFields, rawInt] using this
    · exact (Heap.get?_update_other _ _ (Ne.symm h1)).trans st.set
    · exact (Heap.get?_update_other _ _ (Ne.symm h2)).trans st.tup
  done := fun s Q E st hQ => by
    have hlen : places.length = es.size := by have := hp.length_eq; simpa using this
    refine next_end hh ⟨_, st.it, rfl⟩ slot_setit entry_setit (args_setit _) (fun P E' hE => ?_) fun h' hk => hQ h' s.toks fun b o hb e => hk b o (by simpa using hb) e
    unfold Builtin.«set_iterator.__next__»
    refine wpAny_bind (wpAny_pure ?_)
    dsimp only
    refine wpAny_bind (wpAny_fieldsOf st.it rfl ?_)
    dsimp only [siO, rawInt]
    refine wpAny_bind (wpAny_setEntries_of st.set rfl hf ?_)
    rw [if_neg (by simp)]
    refine wpAny_bind (wpAny_seqItems st.tup rfl ?_)
    dsimp only
    have hpl : ((places.map fun i : Nat => rawInt i).toArray)[Int.toNat (es.size : Int)]? = none := by simp [hlen]
    rw [hpl]
    dsimp only
    refine wpAny_bind (wpAny_setField st.it rfl (by simp) ?_)
    have g1 := Heap.get?_update_self (Obj.mapFields (·.setIfInBounds 0 (rawInt 0))) st.it rfl
    refine wpAny_bind (wpAny_setField g1 rfl (by simp) ?_)
    exact stop_raise (it := I) (h₀ := s.heap) hh (fun b o hb e => (Heap.get?_update_other _ _ (Ne.symm hb)).trans ((Heap.get?_update_other _ _ (Ne.symm hb)).trans e)) hE
  self := fun i s Q E st hQ => setit_self st.it hQ
theorem size_one {α : Type} {xs : Array α} (h : xs.size = 1) : ∃ p, xs = #[p] := by
  match xs, h with
  | ⟨[a]⟩, _ => exact ⟨a, rfl⟩
theorem below_zero (j : Nat) : SetTable.below #[] j = 0 := rfl
theorem below_one (p : Nat) : SetTable.below #[p] 0 = 0 ∧ SetTable.below #[p] (p + 1) = 1 := by
  constructor
  · simp [SetTable.below, SetTable.below.go]
  · simp [SetTable.below, SetTable.below.go]
structure SlotAt (I sa : Addr) (es : Array (Int × Value)) (ep : Nat) (t : SetTable) (i : Nat) (h : Heap) : Prop where
  it : ∃ sl : Nat, h.get? I = some (siO (rawInt sl) i (.ref sa) es.size ep) ∧ (i = 0 → sl = 0) ∧ (i = 1 → ∃ p, t.place = #[p] ∧ sl = p + 1)
  set : h.get? sa = some (sO es ep t)
theorem walks_slot (hh : A.handled = none) {I sa : Addr} {es : Array (Int × Value)} {ep : Nat} {t : SetTable} (h1 : sa ≠ I) (hf : t.fits es.size = true) (hn : es.size ≤ 1) (hb : w.params.followText "set-order" = false) (hl : t.led = true) :
    Walks prog w A I [I, sa] [I] es.size (fun i v => ∃ e : Int × Value, es[i]? = some e ∧ v = e.2) (fun i h => SlotAt I sa es ep t i h) where
  sub := fun b hb => by simp at hb; simp [hb]
  frame := fun i h h' st hk => by
    obtain ⟨⟨sl, a, b⟩, c⟩ := st
    exact ⟨⟨sl, hk I (by simp) _ a, b⟩, hk sa (by simp) _ c⟩
  item := fun i s Q E hi st hQ => by
    have hps : t.place.size = es.size := by
      unfold SetTable.fits at hf
      simp only [Bool.and_eq_true, beq_iff_eq] at hf
      exact hf.1
    have hi0 : i = 0 := by walk_at "mine:om"
    subst hi0
    obtain ⟨⟨sl, hit, hz, _⟩, hset⟩ := st
    have hsl := hz rfl
    subst hsl
    have hT : s.TypeIs (.ref I) "set_iterator" := ⟨_, hit, rfl⟩
    obtain ⟨p, hp⟩ := size_one (hps.trans (by walk_at "mine:om") : t.place.size = 1)
    unfold pyNext
    refine wpAny_bind (wpAny_attempt (wpAny_callSpecial?_slot (name := Str.ofString "__next__") hT slot_setit (wpAny_call_entry slot_setit hT entry_setit ?_ (args_setit _))))
    unfold Builtin.«set_iterator.__next__»
    refine wpAny_bind (wpAny_pure ?_)
    dsimp only
    refine wpAny_bind (wpAny_fieldsOf hit rfl ?_)
    dsimp only [siO, rawInt]
    refine wpAny_bind (wpAny_setEntries_of hset rfl hf ?_)
    rw [if_neg (by simp)]
    unfold setNext setsByText
    refine wpAny_bind (wpAny_bind (wpAny_setState_of hset rfl hf ?_))
    dsimp only
    refine wpAny_bind (wpAny_bind (wpAny_askSetting (wpAny_pure ?_)))
    rw [show (model prog w).w.params.followText "set-order" = false from hb]
    rw [if_neg (by decide)]
    show wpAny _ _ (if (!t.plain && decide (es.size > 1)) = true then _ else _) _ _ _
    rw [if_neg (by simp; walk_at "mine:om")]
    refine wpAny_bind ?_
    show wpAny _ _ (if (!t.led && !es.isEmpty) = true then _ else _) _ _ _
    rw [if_neg (by simp [hl])]
    refine wpAny_pure (wpAny_pure ?_)
    have he : es[SetTable.below t.place (((0 : Nat) : Int).toNat)]? = some es[0] := by
      show es[SetTable.below t.place 0]? = _
      rw [hp, (below_one p).1]; simp [hi]
    have hpl : t.place[SetTable.below t.place (((0 : Nat) : Int).toNat)]? = some p := by
      show t.place[SetTable.below t.place 0]? = _
      rw [hp, (below_one p).1]; rfl
    rw [he, hpl]
    dsimp only
    refine wpAny_bind (wpAny_setField hit rfl (by simp) ?_)
    have g1 := Heap.get?_update_self (Obj.mapFields (·.setIfInBounds 0 (rawInt (p + 1 : Nat)))) hit rfl
    refine wpAny_bind (wpAny_setField g1 rfl (by simp) ?_)
    have g2 := Heap.get?_update_self (Obj.mapFields (·.setIfInBounds 1 (rawInt 1))) g1 rfl
    refine wpAny_pure ⟨_, rfl, wpAny_pure ?_⟩
    refine hQ _ _ s.toks ⟨es[0], by simp [hi], rfl⟩ ⟨⟨p + 1, ?_, fun q => by walk_at "mine:om", fun _ => ⟨p, hp, rfl⟩⟩, ?_⟩ fun b o hb e => ?_
    · simpa [siO, Obj.mapFields, rawInt] using g2
    · exact (Heap.get?_update_other _ _ (Ne.symm h1)).trans ((Heap.get?_update_other _ _ (Ne.symm h1)).trans hset)
    · have hbI : I ≠ b := fun q => hb (by simp [q])
      exact (Heap.get?_update_other _ _ hbI).trans ((Heap.get?_update_other _ _ hbI).trans e)
  done := fun s Q E st hQ => by
    have hps : t.place.size = es.size := by
      unfold SetTable.fits at hf
      simp only [Bool.and_eq_true, beq_iff_eq] at hf
      exact hf.1
    obtain ⟨⟨sl, hit, hz, ho⟩, hset⟩ := st
    have hnone : es[SetTable.below t.place (((sl : Nat) : Int).toNat)]? = none := by
      have e1 : (((sl : Nat) : Int).toNat) = sl := by simp
      rw [e1]
      rcases Nat.lt_or_ge 0 es.size with q | q
      · have q1 : es.size = 1 := by walk_at "mine:om"
        obtain ⟨p, hp, rfl⟩ := ho q1
        rw [hp, (below_one p).2]
        exact Array.getElem?_eq_none (by walk_at "mine:om")
      · exact Array.getElem?_eq_none (by walk_at "mine:om")
    refine next_end hh ⟨_, hit, rfl⟩ slot_setit entry_setit (args_setit _) (fun P E' hE => ?_) fun h' hk => hQ h' s.toks fun b o hb e => hk b o (by simpa using hb) e
    unfold Builtin.«set_iterator.__next__»
    refine wpAny_bind (wpAny_pure ?_)
    dsimp only
    refine wpAny_bind (wpAny_fieldsOf hit rfl ?_)
    dsimp only [siO, rawInt]
    refine wpAny_bind (wpAny_setEntries_of hset rfl hf ?_)
    rw [if_neg (by simp)]
    unfold setNext setsByText
    refine wpAny_bind (wpAny_bind (wpAny_setState_of hset rfl hf ?_))
    dsimp only
    refine wpAny_bind (wpAny_bind (wpAny_askSetting (wpAny_pure ?_)))
    rw [show (model prog w).w.params.followText "set-order" = false from hb]
    rw [if_neg (by decide)]
    show wpAny _ _ (if (!t.plain && decide (es.size > 1)) = true then _ else _) _ _ _
    rw [if_neg (by simp; walk_at "mine:om")]
    refine wpAny_bind ?_
    show wpAny _ _ (if (!t.led && !es.isEmpty) = true then _ else _) _ _ _
    rw [if_neg (by simp [hl])]
    refine wpAny_pure (wpAny_pure ?_)
    rw [hnone]
    dsimp only
    refine wpAny_bind (wpAny_setField hit rfl (by simp) ?_)
    exact stop_raise (it := I) (h₀ := s.heap) hh (fun b o hb e => (Heap.get?_update_other _ _ (Ne.symm hb)).trans e) hE
  self := fun i s Q E st hQ => by
    obtain ⟨⟨sl, a, b⟩, c⟩ := st
    exact setit_self a hQ
end
end Mine
end
section
open PySem PySem.Spec PySem.Calls PyProof.Rows PySem.W PySem.Builtin PySem.Builtin.Str
namespace Mine
theorem go_perm {α : Type} (next : Nat → Nat) : ∀ (fuel k : Nat) (left : List α) (out : Array α), left.length ≤ fuel → (pickOrder.go next fuel k left out).toList.Perm (out.toList ++ left)
  | 0, k, left, out, h => by
    have : left = [] := List.eq_nil_of_length_eq_zero (by walk_at "mine:om")
    subst this
    simp [pickOrder.go]
  | fuel + 1, k, left, out, h => by
    unfold pickOrder.go
    cases left with
    | nil => simp
    | cons a l =>
      have hi : next k % (a :: l).length < (a :: l).length := Nat.mod_lt _ (by simp)
      rw [List.getElem?_eq_getElem hi]
      dsimp only
      refine (go_perm next fuel (k + 1) _ _ (by rw [List.length_eraseIdx_of_lt hi]; simp at h ⊢; walk_at "mine:om")).trans ?_
      rw [Array.toList_push, List.append_assoc]
      exact (erase_perm hi).append_left _
theorem pick_perm {α : Type} (next : Nat → Nat) (xs : Array α) : (pickOrder next xs).toList.Perm xs.toList := by
  have := go_perm next xs.size 0 xs.toList #[] (by simp)
  simpa [pickOrder] using this
section
variable {prog : Program} {w : World} {A : Around}
structure TextAt (I sa : Addr) (es : Array (Int × Value)) (ep : Nat) (t : SetTable) (i : Nat) (h : Heap) : Prop where
  it : h.get? I = some (siO (rawInt 0) i (.ref sa) es.size ep)
  set : h.get? sa = some (sO es ep t)
noncomputable abbrev permW (w : World) (sa : Addr) (ep : Nat) (es : Array (Int × Value)) : Array (Int × Value) := pickOrder (w.params.setOrder sa ep) es
theorem next_text {sa : Addr} {es : Array (Int × Value)} {ep : Nat} {t : SetTable} {i : Nat} {s : Shared} {Q : Option (Value × Nat) → Shared → Prop} {E : Value → Shared → Prop} (hb : w.params.followText "set-order" = true) (hf : t.fits es.size = true) (hset : s.heap.get? sa = some (sO es ep t))
    (h : Q (((permW w sa ep es)[i]?).map fun e => (e.2, 0)) s) : wpAny (model prog w) A (setNext sa 0 i ep) Q E s := by
  unfold setNext setsByText
  refine wpAny_bind (wpAny_setState_of hset rfl hf ?_)
  dsimp only
  refine wpAny_bind (wpAny_bind (wpAny_askSetting (wpAny_pure ?_)))
  rw [show (model prog w).w.params.followText "set-order" = true from hb]
  rw [if_pos rfl, if_neg (by simp)]
  unfold setWalk setsByText
  refine wpAny_bind (wpAny_bind (wpAny_setState_of hset rfl hf ?_))
  dsimp only
  refine wpAny_bind (wpAny_bind (wpAny_askSetting (wpAny_pure ?_)))
  rw [show (model prog w).w.params.followText "set-order" = true from hb]
  rw [if_pos rfl]
  refine wpAny_bind (wpAny_askSetting (wpAny_pure ?_))
  exact wpAny_pure h
theorem walks_text (hh : A.handled = none) {I sa : Addr} {es : Array (Int × Value)} {ep : Nat} {t : SetTable} (h1 : sa ≠ I) (hf : t.fits es.size = true) (hb : w.params.followText "set-order" = true) :
    Walks prog w A I [I, sa] [I] es.size (fun i v => ∃ e : Int × Value, (permW w sa ep es)[i]? = some e ∧ v = e.2) (fun i h => TextAt I sa es ep t i h) where
  sub := fun b hb => by simp at hb; simp [hb]
  frame := fun i h h' st hk => ⟨hk I (by simp) _ st.it, hk sa (by simp) _ st.set⟩
  item := fun i s Q E hi st hQ => by
    have hlen : (permW w sa ep es).size = es.size := by have := (pick_perm (w.params.setOrder sa ep) es).length_eq; simpa using this
    have hj : i < (permW w sa ep es).size := by walk_at "mine:om"
    have hT : s.TypeIs (.ref I) "set_iterator" := ⟨_, st.it, rfl⟩
    unfold pyNext
    refine wpAny_bind (wpAny_attempt (wpAny_callSpecial?_slot (name := Str.ofString "__next__") hT slot_setit (wpAny_call_entry slot_setit hT entry_setit ?_ (args_setit _))))
    unfold Builtin.«set_iterator.__next__»
    refine wpAny_bind (wpAny_pure ?_)
    dsimp only
    refine wpAny_bind (wpAny_fieldsOf st.it rfl ?_)
    dsimp only [siO, rawInt]
    refine wpAny_bind (wpAny_setEntries_of st.set rfl hf ?_)
    rw [if_neg (by simp)]
    have e1 : ((i : Int)).toNat = i := by simp
    have e2 : ((ep : Int)).toNat = ep := by simp
    rw [e1, e2]
    refine wpAny_bind (next_text (i := i) hb hf st.set ?_)
    rw [Array.getElem?_eq_getElem hj]
    dsimp only [Option.map_some]
    refine wpAny_bind (wpAny_setField st.it rfl (by simp) ?_)
    have g1 := Heap.get?_update_self (Obj.mapFields (·.setIfInBounds 0 (rawInt 0))) st.it rfl
    refine wpAny_bind (wpAny_setField g1 rfl (by simp) ?_)
    have g2 := Heap.get?_update_self (Obj.mapFields (·.setIfInBounds 1 (rawInt ((i : Int) + 1)))) g1 rfl
    refine wpAny_pure ⟨_, rfl, wpAny_pure ?_⟩
    refine hQ _ _ s.toks ⟨_, Array.getElem?_eq_getElem hj, rfl⟩ ⟨?_, ?_⟩ fun b o hb e => ?_
    · simpa [siO, Obj.mapFields, rawInt] using g2
    · exact (Heap.get?_update_other _ _ (Ne.symm h1)).trans ((Heap.get?_update_other _ _ (Ne.symm h1)).trans st.set)
    · have hbI : I ≠ b := fun q => hb (by simp [q])
      exact (Heap.get?_update_other _ _ hbI).trans ((Heap.get?_update_other _ _ hbI).trans e)
  done := fun s Q E st hQ => by
    have hlen : (permW w sa ep es).size = es.size := by have := (pick_perm (w.params.setOrder sa ep) es).length_eq; simpa using this
    refine next_end hh ⟨_, st.it, rfl⟩ slot_setit entry_setit (args_setit _) (fun P E' hE => ?_) fun h' hk => hQ h' s.toks fun b o hb e => hk b o (by simpa using hb) e
    unfold Builtin.«set_iterator.__next__»
    refine wpAny_bind (wpAny_pure ?_)
    dsimp only
    refine wpAny_bind (wpAny_fieldsOf st.it rfl ?_)
    dsimp only [siO, rawInt]
    refine wpAny_bind (wpAny_setEntries_of st.set rfl hf ?_)
    rw [if_neg (by simp)]
    have e1 : ((es.size : Int)).toNat = es.size := by simp
    have e2 : ((ep : Int)).toNat = ep := by simp
    rw [e1, e2]
    refine wpAny_bind (next_text (i := es.size) hb hf st.set ?_)
    rw [Array.getElem?_eq_none (by walk_at "mine:om")]
    dsimp only [Option.map_none]
    refine wpAny_bind (wpAny_setField st.it rfl (by simp) ?_)
    exact stop_raise (it := I) (h₀ := s.heap) hh (fun b o hb e => (Heap.get?_update_other _ _ (Ne.symm hb)).trans e) hE
  self := fun i s Q E st hQ => setit_self (n := es.size) (i := i) (f := rawInt 0) st.it hQ
end
end Mine
end
section
open PySem PySem.Spec PySem.Calls PyProof.Rows PySem.W PySem.Builtin PySem.Builtin.Str
namespace Mine
theorem strsAre_txt : ∀ (L : List Value), (∀ v ∈ L, ∃ x u, v = .str x u) → StrsAre L (L.map txt)
  | [], _ => .nil
  | v :: L, h => by
    obtain ⟨x, u, rfl⟩ := h v (.head _)
    exact .cons x u (strsAre_txt L fun v hv => h v (.tail _ hv))
section
variable {prog : Program} {w : World} {A : Around} {E : Value → Shared → Prop} {s : Shared}
structure Elems (es : Array (Int × Value)) (L : List Value) (ks : List Str) (xs : List Str) : Prop where
  are : StrsAre L ks
  perm : ks.Perm xs
  len : L.length = es.size
theorem elems_of {es : Array (Int × Value)} {xs : List Str} {L : List Value} (hstr : ∀ e ∈ es.toList, ∃ x u, e.2 = .str x u) (hp : (es.toList.map fun e => txt e.2).Perm xs) (hL : L.Perm (es.toList.map (·.2))) : Elems es L (L.map txt) xs := by
  refine ⟨strsAre_txt L fun v hv => ?_, ?_, ?_⟩
  · obtain ⟨e, he, rfl⟩ := List.mem_map.mp (hL.mem_iff.mp hv)
    exact hstr e he
  · have := hL.map txt
    rw [List.map_map] at this
    exact this.trans hp
  · have := hL.length_eq; simpa using this
theorem iter_set {sa : Addr} {xs : List Str} {Q : Value → Shared → Prop} (hh : A.handled = none) (hS : SetIs prog w s.heap sa xs (ledW w)) (hz : xs.length ≤ 10000)
    (h : ∀ (h' : Heap) d (I : Addr) fp P ST (L : List Value) (ks : List Str), (∀ b o, s.heap.get? b = some o → h'.get? b = some o) → s.heap.get? I = none → (∀ A' : Around, A'.handled = none → Walks prog w A' I fp [I] xs.length P ST) → ST 0 h' →
      (∀ b ∈ fp, (∃ o, h'.get? b = some o) ∧ (b = sa ∨ s.heap.get? b = none)) → StrsAre L ks → ks.Perm xs → (∀ (j : Nat) v, j < xs.length → P j v → L[j]? = some v) → Q (.ref I) { s with heap := h', drawn := d }) :
    wpAny (model prog w) A (pyIter (.ref sa)) Q E s := by
  obtain ⟨⟨es, ep, t, ho, hel, ⟨hf, hled, hpl⟩, hstr, hperm⟩, hnd⟩ := hS
  have hn : es.size = xs.length := by have := hperm.length_eq; simpa using this
  have hT : s.TypeIs (.ref sa) "set" := ⟨_, ho, rfl⟩
  have hlt := Heap.lt_size ho
  refine wpAny_pyIter_slot hT PySem.F.slot_set_iter (wpAny_call_entry PySem.F.slot_set_iter hT entry_set_iter ?_ (PySem.F.args_set_iter_1 _))
  unfold Builtin.«frozenset.__iter__» Builtin.Frozenset.slot0 slotArgs
  simp only [List.isEmpty_nil, Bool.not_true, Bool.false_eq_true, ↓reduceIte, bind_assoc, List.length_nil, bne_self_eq_false]
  unfold Builtin.Frozenset.addrOf Builtin.Frozenset.sizeOf
  refine wpAny_bind (wpAny_pure ?_)
  try dsimp only
  refine wpAny_bind (wpAny_pure ?_)
  refine wpAny_bind (wpAny_bind (wpAny_setEntries_of ho rfl hf (wpAny_pure ?_)))
  unfold setDrawn setsByText
  refine wpAny_bind (wpAny_bind (wpAny_setState_of ho rfl hf ?_))
  dsimp only
  refine wpAny_bind (wpAny_bind (wpAny_askSetting (wpAny_pure ?_)))
  refine wpAny_pure ?_
  show wpAny _ _ (if (!w.params.followText "set-order" && (!t.plain && decide (es.size > 1))) = true then _ else _) _ _ _
  have plain : ∀ {Pf : Fin → Shared → Prop} {E' : Value → Shared → Prop}, (Pf (.done (.ret (.ref s.heap.objs.size))) { s with heap := s.heap.push (siO (rawInt 0) 0 (.ref sa) es.size ep) }) →
      wpAny (model prog w) A.in1 (do
        let first ← pure (rawInt 0)
        ret (← newFields "set_iterator" [first, rawInt 0, .ref sa, rawInt es.size, rawInt (← setEpoch sa)])) Pf E' s := fun {Pf E'} hP => by
    refine wpAny_bind (wpAny_pure ?_)
    refine wpAny_bind (wpAny_setEpoch_of ho rfl hf ?_)
    unfold newFields
    refine wpAny_bind (wpAny_newObj_type ?_)
    exact wpAny_pure hP
  have hsz : s.heap.objs.size ≠ sa := Nat.ne_of_gt hlt
  have alive1 : ∀ b ∈ [s.heap.objs.size, sa], (∃ o, (s.heap.push (siO (rawInt 0) 0 (.ref sa) es.size ep)).get? b = some o) ∧ (b = sa ∨ s.heap.get? b = none) := fun b hb => by
    simp only [List.mem_cons, List.not_mem_nil, or_false] at hb
    rcases hb with rfl | rfl
    · exact ⟨⟨_, Heap.get?_push_size _ rfl⟩, .inr (none_at_size _)⟩
    · exact ⟨⟨_, Heap.get?_push_of_some _ ho⟩, .inl rfl⟩
  have hT1 : ∀ (f : Value) (d : Drawn) (h : Heap), Shared.TypeIs { s with heap := h.push (siO f 0 (.ref sa) es.size ep), drawn := d } (.ref h.objs.size) "set_iterator" := fun f d h => ⟨_, Heap.get?_push_size _ rfl, rfl⟩
  cases hby : w.params.followText "set-order" with
  | true =>
    rw [if_neg (by simp)]
    refine plain ⟨_, rfl, "set_iterator", _, hT1 _ s.drawn s.heap, slot_setit.lookup, ?_⟩
    refine h _ s.drawn _ [s.heap.objs.size, sa] (fun i v => ∃ e : Int × Value, (permW w sa ep es)[i]? = some e ∧ v = e.2) (fun i h => TextAt s.heap.objs.size sa es ep t i h) ((permW w sa ep es).toList.map (·.2)) _ (fun b o e => Heap.get?_push_of_some _ e) (none_at_size _) (fun A' hA => by rw [← hn]; exact walks_text hA (Ne.symm hsz) hf hby) ⟨Heap.get?_push_size _ rfl, Heap.get?_push_of_some _ ho⟩ alive1
      (elems_of hstr hperm ((pick_perm _ _).map _)).are (elems_of hstr hperm ((pick_perm _ _).map _)).perm ?_
    rintro j v _ ⟨e, he, rfl⟩
    rw [List.getElem?_map]
    have : (permW w sa ep es).toList[j]? = some e := by simpa using he
    rw [this]; rfl
  | false =>
    have hled' : t.led = true := by rw [hled]; simp [ledW, hby]
    by_cases h2 : es.size > 1
    · have hp := hpl (by walk_at "mine:om")
      rw [if_pos (by simp [hp, h2])]
      refine wpAny_bind (draw_order es.size (List.range es.size) _ _ (by simp) fun places d hpp => ?_)
      have hlenp : places.length = es.size := by have := hpp.length_eq; simpa using this
      refine wpAny_bind (wpAny_newTuple ?_ (by rw [List.length_map, hlenp, hn]; exact Nat.le_trans hz (by decide)))
      refine wpAny_bind (wpAny_setEpoch_of (es := es) (ep := ep) (t := t) (Heap.get?_push_of_some _ ho) rfl hf ?_)
      unfold newFields
      refine wpAny_bind (wpAny_newObj_type ?_)
      refine wpAny_pure ⟨_, rfl, "set_iterator", _, ⟨_, Heap.get?_push_size _ rfl, rfl⟩, slot_setit.lookup, ?_⟩
      have s1 : (s.heap.push (plO places 0)).objs.size = s.heap.objs.size + 1 := Heap.size_push ..
      have gt : ((s.heap.push (plO places 0)).push (siO (.ref s.heap.objs.size) 0 (.ref sa) es.size ep)).get? s.heap.objs.size = some (plO places 0) := Heap.get?_push_of_some _ (Heap.get?_push_size _ rfl)
      have gs : ((s.heap.push (plO places 0)).push (siO (.ref s.heap.objs.size) 0 (.ref sa) es.size ep)).get? sa = some (sO es ep t) := Heap.get?_push_of_some _ (Heap.get?_push_of_some _ ho)
      have gi : ((s.heap.push (plO places 0)).push (siO (.ref s.heap.objs.size) 0 (.ref sa) es.size ep)).get? (s.heap.push (plO places 0)).objs.size = some (siO (.ref s.heap.objs.size) 0 (.ref sa) es.size ep) := Heap.get?_push_size _ rfl
      have hL : (places.map fun j => ((es[j]?).map (·.2)).getD Value.none).Perm (es.toList.map (·.2)) := by
        refine (hpp.map _).trans ?_
        have : (List.range es.size).map (fun j => ((es[j]?).map (·.2)).getD Value.none) = es.toList.map (·.2) := by
          apply List.ext_getElem
          · simp
          · intro n h1 h2
            simp at h1
            simp [h1]
        rw [this]
      have n1 : sa ≠ (s.heap.push (plO places 0)).objs.size := Nat.ne_of_lt (by rw [Heap.size_push]; exact Nat.lt_succ_of_lt hlt)
      have n2 : s.heap.objs.size ≠ (s.heap.push (plO places 0)).objs.size := Nat.ne_of_lt (by rw [Heap.size_push]; exact Nat.lt_succ_self _)
      refine h _ d _ [(s.heap.push (plO places 0)).objs.size, sa, s.heap.objs.size] (fun i v => ∃ (j : Nat) (e : Int × Value), places[i]? = some j ∧ es[j]? = some e ∧ v = e.2) (fun i h => DrawnAt (s.heap.push (plO places 0)).objs.size sa s.heap.objs.size es ep t places 0 i h) (places.map fun j => ((es[j]?).map (·.2)).getD Value.none) _ (fun b o e => Heap.get?_push_of_some _ (Heap.get?_push_of_some _ e)) (Heap.get?_none_of_le (by rw [Heap.size_push]; exact Nat.le_succ _)) (fun A' hA => by rw [← hn]; exact walks_drawn (m := 0) hA n1 n2 hf hpp) ⟨gi, gs, gt⟩ ?_
        (elems_of hstr hperm hL).are (elems_of hstr hperm hL).perm ?_
      · intro b hb
        simp only [List.mem_cons, List.not_mem_nil, or_false] at hb
        rcases hb with rfl | rfl | rfl
        · exact ⟨⟨_, gi⟩, .inr (Heap.get?_none_of_le (by rw [Heap.size_push]; exact Nat.le_succ _))⟩
        · exact ⟨⟨_, gs⟩, .inl rfl⟩
        · exact ⟨⟨_, gt⟩, .inr (none_at_size _)⟩
      · rintro j v _ ⟨j', e, h1, h3, rfl⟩
        rw [List.getElem?_map, h1]
        simp [h3]
    · rw [if_neg (by simp; walk_at "mine:om")]
      refine plain ⟨_, rfl, "set_iterator", _, hT1 _ s.drawn s.heap, slot_setit.lookup, ?_⟩
      refine h _ s.drawn _ [s.heap.objs.size, sa] (fun i v => ∃ e : Int × Value, es[i]? = some e ∧ v = e.2) (fun i h => SlotAt s.heap.objs.size sa es ep t i h) (es.toList.map (·.2)) _ (fun b o e => Heap.get?_push_of_some _ e) (none_at_size _) (fun A' hA => by rw [← hn]; exact walks_slot hA (Ne.symm hsz) hf (by walk_at "mine:om") hby hled') ⟨⟨0, Heap.get?_push_size _ rfl, fun _ => rfl, fun q => by walk_at "mine:om"⟩, Heap.get?_push_of_some _ ho⟩ alive1
        (elems_of hstr hperm (List.Perm.refl _)).are (elems_of hstr hperm (List.Perm.refl _)).perm ?_
      rintro j v _ ⟨e, he, rfl⟩
      rw [List.getElem?_map]
      have : es.toList[j]? = some e := by simpa using he
      rw [this]; rfl
end
end Mine
end
section
open PySem PySem.Spec PySem.Calls PyProof.Rows PySem.W PySem.Builtin PySem.Builtin.Str
namespace Mine
section
variable {prog : Program} {w : World} {A : Around} {E : Value → Shared → Prop} {s : Shared}
theorem hint_set {r : Addr} {Q : Bool → Shared → Prop} (hT : s.TypeIs (.ref r) "set") (h : Q false s) : wpAny (model prog w) A (Builtin.List.listLengthHint (.ref r)) Q E s := by
  unfold Builtin.List.listLengthHint
  refine wpAny_bind (wpAny_specialOf hT PySem.F.slot_set_len.lookup ?_)
  generalize hid : ("set.__len__" : String) = id0
  wp_delta
  rw [show splitId id0 = some ("set", "__len__") from by subst hid; decide +kernel]
  subst hid
  refine wpAny_bind (wpAny_isInstance (T := "set") (b := true) hT (by rw [isSubtype_type]; kernel_rfl) ?_)
  refine wpAny_ite_split (fun hab => absurd hab (by decide)) (fun _ => ?_)
  refine wpAny_ite_split (fun _ => ?_) (fun hab => absurd (by decide +kernel) hab)
  refine wpAny_bind (wpAny_typeOf hT ?_)
  exact wpAny_pure h
theorem SetIs.keep {h h' : Heap} {a : Addr} {xs : List Str} {led : Bool} (x : SetIs prog w h a xs led) (hk : ∀ b o, h.get? b = some o → h'.get? b = some o) : SetIs prog w h' a xs led :=
  let ⟨⟨es, ep, t, ho, r⟩, nd⟩ := x; ⟨⟨es, ep, t, hk _ _ ho, r⟩, nd⟩
theorem SetIs.typeIs {a : Addr} {xs : List Str} {led : Bool} (x : SetIs prog w s.heap a xs led) : s.TypeIs (.ref a) "set" :=
  let ⟨⟨es, ep, t, ho, r⟩, nd⟩ := x; ⟨_, ho, rfl⟩
theorem items_eq {P : Nat → Value → Prop} {n : Nat} {acc : Array Value} {L : List Value} (h : ItemsOf P acc n) (hL : L.length = n) (hP : ∀ (j : Nat) v, j < n → P j v → L[j]? = some v) : acc.toList = L := by
  have hs : acc.size = n := h.1
  apply List.ext_getElem?
  intro j
  rcases Nat.lt_or_ge j n with q | q
  · have hj : acc.toList[j]? = some acc[j] := by simp [hs, q]
    rw [hj, hP j acc[j] q (h.2 j _ (Array.getElem?_eq_getElem (by walk_at "mine:om")))]
  · rw [List.getElem?_eq_none (by simp [hs]; walk_at "mine:om"), List.getElem?_eq_none (by walk_at "mine:om")]
theorem collect_set {sa : Addr} {xs : List Str} {R : List Value → Shared → Prop} (hh : A.handled = none) (hS : SetIs prog w s.heap sa xs (ledW w)) (hz : xs.length ≤ 10000)
    (h : ∀ (h' : Heap) d tk (L : List Value) (ks : List Str), (∀ b o, s.heap.get? b = some o → h'.get? b = some o) → StrsAre L ks → ks.Perm xs → R L { s with heap := h', drawn := d, toks := tk }) :
    wpAny (model prog w) A (collect (.ref sa)) R E s := by
  unfold collect
  refine wpAny_bind (wpAny_runValue (codeAny_builtin entry_proto_collect' ?_))
  rw [Around.under_plainId PySem.F.plain_proto_collect _]
  show wpAny _ A.in1 (newList [] >>= fun l => again (.builtin "list.__iadd__" ⟨[l, .ref sa], []⟩)) _ _ s
  refine wpAny_bind (wpAny_newObj_type ?_)
  refine wpAny_pure ⟨plainId_quiet PySem.F.plain_list_iadd _, codeAny_builtin entry_list_iadd' ?_⟩
  rw [Around.under_plainId PySem.F.plain_list_iadd _]
  have hS₁ : (s.heap.push { cls := .type "list", data := .seq ([] : List Value).toArray }).get? s.heap.objs.size = some { cls := .type "list", data := .seq #[] } := Heap.get?_push_size _ rfl
  show wpAny _ A.in1 (Builtin.List.listExtendWith (.ref s.heap.objs.size) (.ref sa) (.ref s.heap.objs.size)) _ _ _
  have hlt : sa < s.heap.objs.size := by obtain ⟨⟨es, ep, t, ho, r⟩, nd⟩ := hS; exact Heap.lt_size ho
  have hSr : s.heap.objs.size ≠ sa := Nat.ne_of_gt hlt
  have hS' : SetIs prog w (s.heap.push { cls := .type "list", data := .seq ([] : List Value).toArray }) sa xs (ledW w) := hS.keep fun b o e => Heap.get?_push_of_some _ e
  unfold Builtin.List.listExtendWith
  refine wpAny_bind (wpAny_typeOf (T := "set") (SetIs.typeIs (s := { s with heap := s.heap.push { cls := .type "list", data := .seq ([] : List Value).toArray } }) hS') ?_)
  have h1 : Builtin.List.listSameRef (.ref s.heap.objs.size) (.ref sa) = false := by simp [Builtin.List.listSameRef, hSr]
  have n1 : (Value.type "set" == Value.type "list") = false := by decide
  have n2 : (Value.type "set" == Value.type "tuple") = false := by decide
  simp only [h1, n1, n2, Bool.or_false, Bool.false_eq_true, if_false]
  refine wpAny_bind (iter_set (s := { s with heap := s.heap.push { cls := .type "list", data := .seq ([] : List Value).toArray } }) hh hS' hz fun h' d I fp P ST L ks hk hI hW st0 hfp hA hp hL => ?_)
  have hS2 := hk _ _ hS₁
  have hSI : s.heap.objs.size ≠ I := fun q => by rw [← q, hS₁] at hI; cases hI
  have hlenL : L.length = xs.length := by have := hA.length; rw [this]; exact hp.length_eq
  have hSf : s.heap.objs.size ∉ fp := fun hm => by
    rcases (hfp _ hm).2 with q | q
    · exact hSr q
    · rw [hS₁] at q; cases q
  have key : ∀ (RR : Result → Shared → Prop), (∀ (h₂ : Heap) (tk : Nat) acc' c', (∀ b o, s.heap.get? b = some o → h₂.get? b = some o) → h₂.get? s.heap.objs.size = some { cls := .type "list", dict := none, data := .seq acc' c', slots := #[] } → acc'.toList = L → RR (.ok (.ret (.ref s.heap.objs.size))) { s with heap := h₂, drawn := d, toks := tk }) →
      ∀ (h : Heap) (c₁ : Nat), ST 0 h → (∀ b o, b ≠ s.heap.objs.size → h'.get? b = some o → h.get? b = some o) → h.get? s.heap.objs.size = some { cls := .type "list", data := .seq #[] c₁ } →
      codeAny (model prog w) A (.builtin "list.extend.loop" ⟨[.ref s.heap.objs.size, .ref I, .ref s.heap.objs.size], []⟩) RR { s with heap := h, drawn := d } := fun RR hRR h c₁ hst hk2 hSl => by
    refine codeAny_extend_loopS (hW A.in1 hh).toS (Nat.le_trans hz (by decide)) s.heap.objs.size hSf (.ref s.heap.objs.size) xs.length 0 _ #[] c₁ rfl (Nat.zero_le _) hst hSl (ItemsOf.nil _) fun s' acc' c' hm hS3 hacc => ?_
    rw [Moved.eq_with hm]
    refine hRR s'.heap s'.toks acc' c' (fun b o e => ?_) hS3 (items_eq hacc hlenL hL)
    have hbS : b ≠ s.heap.objs.size := Nat.ne_of_lt (Heap.lt_size e)
    have e2 := hk b o (Heap.get?_push_of_some _ e)
    have hbI : b ≠ I := fun q => by rw [← q] at hI; rw [Heap.get?_push_of_some _ e] at hI; cases hI
    exact hm.heap b o (by simp [hbS, hbI]) (hk2 b o hbS e2)
  refine wpAny_bind (wpAny_holding (hint_set (s := { s with heap := h', drawn := d }) (SetIs.typeIs (s := { s with heap := h', drawn := d }) (hS'.keep hk)) ?_))
  refine wpAny_ite_split (fun _ => ?_) (fun _ => wpAny_pure ⟨plainId_quiet PySem.F.plain_extend_loop _, key _ ?_ _ _ st0 (fun _ _ _ e => e) hS2⟩)
  · refine wpAny_bind (wpAny_rule ?_)
    refine wpAny_bind ?_
    show wpAny _ _ (updateSeq s.heap.objs.size (·.push .none) >>= fun _ => updateSeq s.heap.objs.size (·.pop)) _ _ _
    refine wpAny_bind (wpAny_updateSeq hS2 rfl ?_)
    have hS3 := Heap.get?_update_self (Obj.mapSeq (·.push Value.none)) hS2 rfl
    refine wpAny_updateSeq (hz := by seq_fits) hS3 rfl ?_
    have hS4 := Heap.get?_update_self (Obj.mapSeq (·.pop)) hS3 rfl
    refine wpAny_pure ⟨plainId_quiet PySem.F.plain_extend_loop _, key _ ?_ _ _ ?_ (fun b o hb e => ?_) hS4⟩
    · intro h₂ tk acc' c' q1 q2 q3
      refine wpAny_bind (wpAny_load q2 ?_)
      subst q3
      exact wpAny_pure (h h₂ d tk _ ks q1 hA hp)
    · refine (hW A.in1 hh).frame 0 _ _ st0 fun b hb o e => ?_
      have hbS : b ≠ s.heap.objs.size := fun h => hSf (h ▸ hb)
      exact (Heap.get?_update_other _ _ (Ne.symm hbS)).trans ((Heap.get?_update_other _ _ (Ne.symm hbS)).trans e)
    · exact (Heap.get?_update_other _ _ (Ne.symm hb)).trans ((Heap.get?_update_other _ _ (Ne.symm hb)).trans e)
  · intro h₂ tk acc' c' q1 q2 q3
    refine wpAny_bind (wpAny_load q2 ?_)
    subst q3
    exact wpAny_pure (h h₂ d tk _ ks q1 hA hp)
theorem sorted_set {sa : Addr} {xs ys : List Str} {Q : Value → Shared → Prop} (hh : A.handled = none) (hS : SetIs prog w s.heap sa xs (ledW w)) (h64 : xs.length < 64) (hy : ∀ zs : List Str, zs.Perm xs → sortedS zs = true → zs = ys)
    (h : ∀ (h' : Heap) d tk (a : Addr) (vs : List Value) n, (∀ b o, s.heap.get? b = some o → h'.get? b = some o) → s.heap.get? a = none → h'.get? a = some (lO vs n) → StrsAre vs ys → Q (.ref a) { s with heap := h', drawn := d, toks := tk }) :
    wpAny (model prog w) A (call (.builtin "sorted") [.ref sa]) Q E s := by
  refine Calls.call_function_entry kind_sorted plain_sorted entry_sorted (args_sorted1 _) ?_
  unfold Builtin.«sorted»
  refine wpAny_bind (m := checkCount "sorted" 1 1 _) (wpAny_pure ?_)
  refine wpAny_bind (collect_set (A := A.in1) hh hS (by walk_at "mine:om") fun h' d tk L ks hk hA hp => ?_)
  have hl : L.length = xs.length := by rw [hA.length]; exact hp.length_eq
  refine wpAny_bind (wpAny_newList ?_ (by rw [hl]; exact Nat.le_trans (Nat.le_of_lt h64) (by decide)))
  have hoL : (h'.push (seqObj "list" L.toArray 0)).get? h'.objs.size = some (seqObj "list" L.toArray 0) := Heap.get?_push_size _ rfl
  refine wpAny_bind (wpAny_holding (wpAny_call_entry slot_list_sort ⟨_, hoL, rfl⟩ entry_list_sort (list_sort_treeK strKind_oneLt hoL hA.keysOf (fun v₁ v₂ rest e => keyKind_strs (by rw [← e]; exact hA)) (by walk_at "mine:om") fun st' a1 a2 => ⟨_, rfl, ?_⟩) (args_list_sort _)))
  obtain ⟨ss', z1, z2, z3⟩ := sorted_out_str hA a1 a2
  have hys := hy ss' (z2.trans hp) z3
  subst hys
  refine wpAny_pure ⟨_, rfl, ?_⟩
  obtain ⟨n, hn⟩ := sortedHeap_at hoL (out := (arrOf st').map (·.2))
  refine h _ d tk h'.objs.size ((arrOf st').map (·.2)).toList n (fun b o e => ?_) ?_ ?_ z1
  · have hb := Heap.lt_size (hk b o e)
    rw [sortedHeap_old (Nat.ne_of_lt hb) (by rw [Heap.size_push]; exact Nat.lt_succ_of_lt hb)]
    exact Heap.get?_push_of_some _ (hk b o e)
  · cases q : s.heap.get? h'.objs.size with
    | none => rfl
    | some o => exact absurd (Heap.lt_size (hk _ _ q)) (Nat.lt_irrefl _)
  · have e : lO ((arrOf st').map (·.2)).toList n = seqObj "list" ((arrOf st').map (·.2)) n := by simp only [lO, seqObj, Array.toArray_toList]
    rw [e]; exact hn
end
end Mine
end
section
open PySem PySem.Spec PySem.Calls PyProof.Rows PySem.W PySem.Builtin PySem.Builtin.Str
namespace Mine
section
variable {C : Cx} {σ : Loc}
theorem in_set : (("set" : Str), Value.type "set") ∈ gtable := by walk_at "mine:mem"
theorem Kept.draw {F : List Addr} (hF : F ≠ []) {s : Shared} {h : Heap} {d : Drawn} {t : Nat} (k : ∀ b o, s.heap.get? b = some o → h.get? b = some o) : Kept F s { s with heap := h, drawn := d, toks := t } :=
  ⟨rfl, rfl, fun b o _ e => k b o e, fun b o e => ⟨o.slots, k b o e⟩, fun q => absurd q hF⟩
theorem En_sorted_set {np np' pos pos' : Pos} {e : Expr} {xs ys : List Str} (he : El C σ e (dS xs)) (hk : C.env.kindOf "sorted" = some .globalImplicit) (hk' : C.env.kindOf "set" = some .globalImplicit) (hs : Star1 C (.Call (.Name "set" np') [e] [] pos')) (hs' : Star1 C e) (hh : C.A.handled = none) (hF : C.F ≠ [])
    (hx : xs.length < 4000) (h64 : (dedup xs).length < 64) (hy : ∀ zs : List Str, zs.Perm (dedup xs) → sortedS zs = true → zs = ys) :
    En C σ (.Call (.Name "sorted" np) [.Call (.Name "set" np') [e] [] pos'] [] pos) (dS ys) := fun W s Q E H k =>
  call1 H hk in_sorted (by decide +kernel) hs (callT1 H hk' in_set (by decide +kernel) hs' (he W s _ E H fun s₁ a its K₁ ha ra hF' => by
    have hA := strsAre_of ra
    refine call_set hh ha hA (by unfold scanBound; walk_at "mine:om") fun h₁ tk₁ hS hk1 => ?_
    have K₂ : Kept C.F s₁ { s₁ with heap := h₁, toks := tk₁ } := .heap hk1
    refine sorted_set (s := { s₁ with heap := h₁, toks := tk₁ }) hh hS h64 hy fun h₂ d tk₂ b vs n hk2 hb hb2 hvs => ?_
    have K₃ : Kept C.F { s₁ with heap := h₁, toks := tk₁ } { s₁ with heap := h₂, drawn := d, toks := tk₂ } := .draw (s := { s₁ with heap := h₁, toks := tk₁ }) hF hk2
    have K₄ := (K₁.trans K₂).trans K₃
    exact k _ b vs n K₄ (none_of_kept (K₁.trans K₂) hb) hb2 (rdl_of_strs hvs)))
end
end Mine
end
section
open PySem PySem.Spec PySem.Calls PyProof.Rows PySem.W PySem.Builtin PySem.Builtin.Str
namespace Mine
theorem eraseIdx_dS : ∀ (ys : List Str) (k : Nat), (dS ys).eraseIdx k = dS (ys.eraseIdx k)
  | [], k => by simp
  | y :: ys, 0 => rfl
  | y :: ys, k + 1 => by
    have := eraseIdx_dS ys k
    simp only [dS, List.map_cons, List.eraseIdx_cons_succ] at this ⊢
    rw [this]
theorem ne_of_lt_idxOf {v : Str} : ∀ {ys : List Str} {m : Nat}, m < ys.idxOf v → ∀ hm : m < ys.length, ys[m] ≠ v
  | [], m, h, hm => by simp at hm
  | y :: ys, m, h, hm => by
    rw [List.idxOf_cons] at h
    by_cases q : (y == v) = true
    · rw [q] at h; simp at h
    · have q' : (y == v) = false := by simpa using q
      rw [q'] at h
      cases m with
      | zero => simpa using q
      | succ m =>
        simp only [List.getElem_cons_succ]
        exact ne_of_lt_idxOf (by simpa using h) _
section
variable {C : Cx} {σ : Loc} {R : Out → Loc → Prop}
theorem strIs_at {W : List Addr} {h : Heap} {v : Str} {ys : List Str} {its : List Value} (r : RdL W h (dS ys) its) {m : Nat} (hm : m < its.length) : ∃ hy : m < ys.length, strIs v its[m] = (ys[m] == v) := by
  have hl : its.length = ys.length := by simpa using r.length
  have hy : m < ys.length := by walk_at "mine:om"
  refine ⟨hy, ?_⟩
  obtain ⟨d, hd, rd⟩ := r.get' (List.getElem?_eq_getElem hm)
  rw [List.getElem?_map, List.getElem?_eq_getElem hy] at hd
  cases hd
  obtain ⟨t, ht⟩ := rd.str_inv
  rw [ht]; rfl
theorem Ex_remove {x : Str} {px ap p1 pos : Pos} {e : Expr} {ys : List Str} {v : Str} {σ' : Loc} (hm : (x, Slot.own (dS ys)) ∈ σ) (he : Ev C σ e (.str v)) (u : Upd σ x (.own (dS (ys.eraseIdx (ys.idxOf v)))) σ') (hh : C.A.handled = none)
    (hR : v ∈ ys → R .next σ') (hX : v ∉ ys → R (.exc ("ValueError", true)) σ) (hz : ys.length ≤ 1000000)
    (hb : MBase C (.Name x px) "remove") (hs : Star1 C e) (hl : (ap.endLine == p1.line) = true) (hd : (x == ("__debug__" : Str)) = false) (hsw : NoSwapE C (.Call (.Attribute (.Name x px) "remove" ap) [e] [] p1) pos) :
    Ex C σ (.Expr (.Call (.Attribute (.Name x px) "remove" ap) [e] [] p1) pos) R := fun α s Q E hE S k kE => by
  obtain ⟨a, its, n, h1, h2, h3, h4⟩ := S.own x _ hm
  have hlen : its.length = ys.length := by simpa using h4.length
  refine wpAny_Expr_any ?_ (quiet_env S.has.fun_) hsw
  refine Call_method1 hb hs hl (load_name S.has.fun_ h2 hd (on_list h3 PySem.F.slot_list_remove (by first | exact PySem.F.type_list_remove | kernel_rfl) ?_))
  by_cases hv : v ∈ ys
  · refine P.remove_list (he (C.W α) s _ E S.has fun s₁ v' K r => ?_)
    obtain ⟨t, rfl⟩ := r.str_inv
    have S₁ := S.kept K
    have h3' := K.keep _ _ (fun m => S.M_not_own h1 (List.mem_append_left _ m)) h3
    have h4' := K.rdl (W_F α) h4
    have hj : ys.idxOf v < ys.length := List.idxOf_lt_length_of_mem hv
    obtain ⟨q1, n', q2⟩ := list_update (f := fun xs => xs.eraseIdxIfInBounds (ys.idxOf v)) (jts := its.eraseIdx (ys.idxOf v)) h3' (by
      rw [Array.eraseIdxIfInBounds, dif_pos (by simp; walk_at "mine:om")]
      apply Array.toList_inj.mp
      simp)
    have hr : RdL (C.W α) s₁.heap (dS (ys.eraseIdx (ys.idxOf v))) (its.eraseIdx (ys.idxOf v)) := by
      have := h4'.eraseIdx (ys.idxOf v)
      rwa [show (dS ys).eraseIdx (ys.idxOf v) = dS (ys.eraseIdx (ys.idxOf v)) from eraseIdx_dS _ _] at this
    obtain ⟨S₂, y'⟩ := S₁.own_changed (t := s₁.toks) h1 (h2.kept K) q1 q2 hr u
    refine ⟨its.toArray, n, strIs v, ys.idxOf v, by simp; walk_at "mine:om", ?_, h3', strIs_gives h4', ?_, ?_, ?_⟩
    · simp only [List.size_toArray]; rw [hlen]; exact Nat.le_trans hz (by decide)
    · obtain ⟨hy, e1⟩ := strIs_at (v := v) h4' (m := ys.idxOf v) (by walk_at "mine:om")
      simp only [List.getElem_toArray]
      rw [e1]; simp
    · intro m hm' hlt
      have hm2 : m < its.length := by simpa using hm'
      obtain ⟨hy, e1⟩ := strIs_at (v := v) h4' hm2
      simp only [List.getElem_toArray]
      rw [e1]
      have := ne_of_lt_idxOf hlt hy
      simpa using this
    · exact k _ _ α σ' _ (hR hv) S₂ ((K.stays (W_F α)).trans (.refl _ _) y') (.refl _ _) .next
  · refine seqMethod1_meets PySem.F.slot_list_remove PySem.F.entry_list_remove (he (C.W α) s _ E S.has fun s₁ v' K r => ?_)
    obtain ⟨t, rfl⟩ := r.str_inv
    have S₁ := S.kept K
    have h3' := K.keep _ _ (fun m => S.M_not_own h1 (List.mem_append_left _ m)) h3
    have h4' := K.rdl (W_F α) h4
    refine ⟨⟨_, h3', rfl⟩, PySem.F.args_list_remove_2 _ _, _, MeetsSeq.list_remove_none a its.toArray n _ (strIs v) (strIs_gives h4') (fun m hm' => ?_), h3', hh, fun h' tk e' hx => ?_⟩
    · have hm2 : m < its.length := by simpa using hm'
      obtain ⟨hy, e1⟩ := strIs_at (v := v) h4' hm2
      simp only [List.getElem_toArray]
      rw [e1]
      have : ys[m] ≠ v := fun q => hv (q ▸ List.getElem_mem hy)
      simpa using this
    · obtain ⟨K₃, f⟩ := fly_new (C := C) (tk := tk) K hx
      exact kE _ e' α σ _ (hX hv) (S.kept K₃) (K₃.stays (W_F α)) (.refl _ _) f
end
theorem len1 {α : Type} : ∀ {l : List α}, l.length = 1 → ∃ v, l = [v] | [v], _ => ⟨v, rfl⟩
theorem len2 {α : Type} : ∀ {l : List α}, l.length = 2 → ∃ v w, l = [v, w] | [v, w], _ => ⟨v, w, rfl⟩
end Mine
end
local macro_rules | `(tactic| walk_at "mine:bind1") => `(tactic| (intro vs h; obtain ⟨v, e⟩ := Mine.len1 h; subst e; rfl))
local macro_rules | `(tactic| walk_at "mine:bind2") => `(tactic| (intro vs h; obtain ⟨v, w, e⟩ := Mine.len2 h; subst e; rfl))
local macro_rules | `(tactic| walk_at "mine:nocells") => `(tactic| (intro L p hp; exact absurd hp (by show p ∉ ([] : List (PySem.Str × PySem.Addr)); simp)))
section
open PySem PySem.Spec PySem.Calls PyProof.Rows PySem.W PySem.Builtin PySem.Builtin.Str
namespace Mine
theorem all1 {P : Str → Prop} {a : Str} (h : P a) : ∀ x ∈ [a], P x := fun x hx => by rw [List.mem_singleton] at hx; subst hx; exact h
theorem all2 {P : Str → Prop} {a b : Str} (h : P a) (h' : P b) : ∀ x ∈ [a, b], P x := fun x hx => by
  simp only [List.mem_cons, List.not_mem_nil, or_false] at hx
  rcases hx with rfl | rfl
  · exact h
  · exact h'
section
variable (pm cd doc : Value)
noncomputable abbrev En1 (i : Nat) (x : Str) : Prop := Enter (nameOf i) (paramsOf i) (bodyOf i) (scopeOf i) pm cd doc [x]
noncomputable abbrev En2 (i : Nat) (x y : Str) : Prop := Enter (nameOf i) (paramsOf i) (bodyOf i) (scopeOf i) pm cd doc [x, y]
theorem enter2 : En2 pm cd doc 2 "expected" "actual" := ⟨by walk_at "mine:bind2", all2 (.inl rfl) (.inl rfl), by decide, rfl, rfl, rfl, by walk_at "mine:nocells"⟩
theorem enter3 : En2 pm cd doc 3 "expected" "actual" := ⟨by walk_at "mine:bind2", all2 (.inl rfl) (.inl rfl), by decide, rfl, rfl, rfl, by walk_at "mine:nocells"⟩
theorem enter8 : En1 pm cd doc 8 "data" := ⟨by walk_at "mine:bind1", all1 (.inl rfl), by decide, rfl, rfl, rfl, by walk_at "mine:nocells"⟩
theorem enter9 : En1 pm cd doc 9 "data" := ⟨by walk_at "mine:bind1", all1 (.inl rfl), by decide, rfl, rfl, rfl, by walk_at "mine:nocells"⟩
theorem enter11 : En2 pm cd doc 11 "words" "others" := ⟨by walk_at "mine:bind2", all2 (.inl rfl) (.inl rfl), by decide, rfl, rfl, rfl, by walk_at "mine:nocells"⟩
theorem enter13 : En1 pm cd doc 13 "words" := ⟨by walk_at "mine:bind1", all1 (.inl rfl), by decide, rfl, rfl, rfl, by walk_at "mine:nocells"⟩
theorem enter14 : En1 pm cd doc 14 "stream" := ⟨by walk_at "mine:bind1", all1 (.inl rfl), by decide, rfl, rfl, rfl, by walk_at "mine:nocells"⟩
theorem enter12 : En1 pm cd doc 12 "words" := ⟨by walk_at "mine:bind1", all1 (.inl rfl), by decide, rfl, rfl, rfl, by
  intro L p hp
  have hp' : p ∈ ([("seen", L + 1 + 1), ("fresh", L + 1)] : List (Str × Addr)) := hp
  simp only [List.mem_cons, List.not_mem_nil, or_false] at hp'
  rcases hp' with rfl | rfl <;> rfl⟩
theorem enter15 : En2 pm cd doc 15 "due" "got" := ⟨by walk_at "mine:bind2", all2 (.inr ⟨rfl, fun _ => rfl⟩) (.inr ⟨rfl, fun _ => rfl⟩), by decide, rfl, rfl, rfl, by
  intro L p hp
  have hp' : p ∈ ([("got", L + 1 + 1), ("due", L + 1)] : List (Str × Addr)) := hp
  simp only [List.mem_cons, List.not_mem_nil, or_false] at hp'
  rcases hp' with rfl | rfl <;> rfl⟩
theorem enter16 : En2 pm cd doc 16 "one" "other" := ⟨by walk_at "mine:bind2", all2 (.inr ⟨rfl, fun _ => rfl⟩) (.inr ⟨rfl, fun _ => rfl⟩), by decide, rfl, rfl, rfl, by
  intro L p hp
  have hp' : p ∈ ([("other", L + 1 + 1), ("one", L + 1)] : List (Str × Addr)) := hp
  simp only [List.mem_cons, List.not_mem_nil, or_false] at hp'
  rcases hp' with rfl | rfl <;> rfl⟩
end
end Mine
end
section
open PySem PySem.Spec PySem.Calls PyProof.Rows PySem.W PySem.Builtin PySem.Builtin.Str
namespace Mine
noncomputable def uldR : List Str → List Str → List Str → List Str × List Str
  | [], m, a => (m, a)
  | x :: r, m, a => if x ∈ a then uldR r m (a.eraseIdx (a.idxOf x)) else uldR r (m ++ [x]) a
noncomputable def uld (xs ys : List Str) : List Str × List Str := uldR xs.reverse [] ys
theorem clause_ValueError {C : Cx} {p : Pos} (hk : C.env.kindOf "ValueError" = some .globalImplicit) : Clause C (.Name "ValueError" p) "ValueError" :=
  ⟨⟨_, p, rfl, hk, by walk_at "mine:mem", by decide⟩, PySem.F.isExc_ValueError, PySem.F.notTuple_ValueError, PySem.F.self_ValueError⟩
section
variable {C : Cx}
noncomputable def σU (es a m : List Str) : Loc := [("expected", .own (dS es)), ("actual", .own (dS a)), ("missing", .own (dS m))]
noncomputable def σUi (es a m : List Str) (x : Str) : Loc := [("expected", .own (dS es)), ("actual", .own (dS a)), ("missing", .own (dS m)), ("item", .val (.str x))]
theorem U_of_i {es a m : List Str} {x : Str} : ∀ p ∈ σU es a m, p ∈ σUi es a m x := by walk_at "mine:subs"
theorem uld_body {xs ys : List Str} (ho : Outer C) (hh : C.A.handled = none) (hx : xs.length ≤ 10000) (hy : ys.length ≤ 10000)
    {a : Addr} {cd : Value} {L : Addr} {X : List Addr} {h1 : ∀ b ∈ X, b ∉ L :: C.F} {h2 : ∀ p ∈ cellsFrom (L + 1) (scopeOf 3).names [], p.2 ∉ X} :
    Exs (calleeCx C (nameOf 3) (scopeOf 3) a cd L X h1 h2) [("expected", .own (dS xs)), ("actual", .own (dS ys))] (bodyOf 3)
      (fun fl _ => fl = .ret (.tuple [.list (dS (uld xs ys).1), .list (dS (uld xs ys).2)])) := by
  have hsl : sizeLine = 16777216 := by decide
  refine Exs_step (σ₁ := σU xs ys []) (Ex_assign_new (ds := []) (En_listd EvL_nil (by decide)) (.loc rfl) (by walk_at "mine:upd") (own_ne (by walk_at "mine:nokey")) rfl ⟨rfl, rfl⟩) ?_
  refine Exs_cons (R₁ := fun fl σ' => fl = .next ∧ σ' = σU [] (uld xs ys).2 (uld xs ys).1) (Ex_while (fun n σ' => ∃ es m b, n = es.length ∧ uldR es.reverse m b = uld xs ys ∧ es.length ≤ 10000 ∧ b.length ≤ 10000 ∧ m.length + es.length ≤ 10000 ∧ σ' = σU es b m) xs.length ⟨xs, [], ys, rfl, rfl, hx, hy, by simpa using hx, rfl⟩ ?_) (fun σ' q => q.2 ▸ ?_) (fun fl σ' hne q => absurd q.1 hne)
  · rintro n σ' ⟨es, m, b, rfl, hr, q1, q2, q3, rfl⟩
    refine .inl ⟨!(dS es).isEmpty, It_el (by walk_at "mine:nmo") (by simp; walk_at "mine:om") (fun _ => by rfl), fun hb => ?_, fun hb => ?_⟩
    rotate_left
    · have : es = [] := by cases es with | nil => rfl | cons _ _ => simp at hb
      subst this
      rw [List.reverse_nil, uldR] at hr
      exact ⟨rfl, by rw [← hr]⟩
    obtain ⟨es', x, rfl⟩ : ∃ es' x, es = es' ++ [x] := by
      rcases List.eq_nil_or_concat es with q | ⟨l, z, q⟩
      · subst q; simp at hb
      · exact ⟨l, z, by rw [q]; simp⟩
    rw [List.reverse_append, List.reverse_singleton, List.singleton_append, uldR] at hr
    simp only [List.length_append, List.length_singleton] at q1 q3
    have snoc : ∀ (l : List Str) z, dS l ++ [PyData.str z] = dS (l ++ [z]) := fun l z => by simp
    refine Exs_step (σ₁ := σUi es' b m x) (Ex_pop (ds := dS es') (d := .str x) (σ₁ := σU es' b m) (by rw [snoc]; walk_at "mine:mem") (.loc rfl) (by walk_at "mine:upd") (by walk_at "mine:upd") ⟨rfl, rfl⟩ (by simp; walk_at "mine:om") rfl rfl rfl rfl) ?_
    refine Exs_cons (R₁ := fun fl σ' => fl = .next ∧ ((x ∈ b ∧ σ' = σUi es' (b.eraseIdx (b.idxOf x)) m x) ∨ (x ∉ b ∧ σ' = σUi es' b (m ++ [x]) x))) (Ex_try (R₁ := fun fl σ' => (fl = .next ∧ x ∈ b ∧ σ' = σUi es' (b.eraseIdx (b.idxOf x)) m x) ∨ (fl = .exc ("ValueError", true) ∧ x ∉ b ∧ σ' = σUi es' b m x)) ho.framed rfl (clause_ValueError rfl) ?_ ?_ ?_ ?_ ?_) (fun σ' q => ?_) (fun fl σ' hne q => absurd q.1 hne)
    · refine Exs_cons (R₁ := fun fl σ' => (fl = .next ∧ x ∈ b ∧ σ' = σUi es' (b.eraseIdx (b.idxOf x)) m x) ∨ (fl = .exc ("ValueError", true) ∧ x ∉ b ∧ σ' = σUi es' b m x)) (Ex_remove (ys := b) (v := x) (σ' := σUi es' (b.eraseIdx (b.idxOf x)) m x) (by walk_at "mine:mem") (by walk_at "mine:nm") (by walk_at "mine:upd") hh (fun hv => .inl ⟨rfl, hv, rfl⟩) (fun hv => .inr ⟨rfl, hv, rfl⟩) (by walk_at "mine:om") rfl rfl rfl rfl rfl) (fun σ' q => Exs_nil q) (fun fl σ' _ q => q)
    · rintro σ' c (⟨q, _⟩ | ⟨q, hv, rfl⟩) e
      · cases q
      · exact Exs_step (σ₁ := σUi es' b (m ++ [x]) x) (Ex_append (by walk_at "mine:mem") (by walk_at "mine:nm") (by rw [snoc]; walk_at "mine:upd") ⟨rfl, rfl⟩ (by simp; walk_at "mine:om") rfl rfl rfl rfl rfl) (Exs_nil ⟨rfl, .inr ⟨hv, rfl⟩⟩)
    · rintro cls σ' (⟨q, _⟩ | ⟨q, _⟩) <;> cases q
      rfl
    · rintro cls σ' ⟨q, _⟩; cases q
    · rintro fl σ' hne (⟨rfl, hv, rfl⟩ | ⟨rfl, _⟩)
      · exact ⟨rfl, .inl ⟨hv, rfl⟩⟩
      · exact absurd rfl (hne _)
    · obtain ⟨_, ⟨hv, rfl⟩ | ⟨hv, rfl⟩⟩ := q
      · rw [if_pos hv] at hr
        exact Exs_end U_of_i ⟨es'.length, by simp, es', m, _, rfl, hr, by walk_at "mine:om", by rw [List.length_eraseIdx]; split <;> walk_at "mine:om", by walk_at "mine:om", rfl⟩
      · rw [if_neg hv] at hr
        exact Exs_end U_of_i ⟨es'.length, by simp, es', m ++ [x], b, rfl, hr, by walk_at "mine:om", q2, by simp; walk_at "mine:om", rfl⟩
  · refine Exs_freeze (x := "missing") (ds := dS (uld xs ys).1) (by walk_at "mine:mem") (by walk_at "mine:upd") (Exs_freeze (x := "actual") (ds := dS (uld xs ys).2) (by walk_at "mine:mem") (by walk_at "mine:upd") (Exs_cons (Ex_return (Ev_tuple (EvL_cons (by walk_at "mine:nm") (EvL_cons (by walk_at "mine:nm") EvL_nil rfl) rfl) (by show 2 ≤ sizeLine; decide)) rfl) (fun _ q => nomatch q) fun _ _ _ q => q))
end
end Mine
end
section
open PySem PySem.Spec PySem.Calls PyProof.Rows PySem.W PySem.Builtin PySem.Builtin.Str
namespace Mine
noncomputable def rest2 (w o : Str) : List Str :=
  (if scut o none (some (w.length : Int)) == w then [scut o (some (w.length : Int)) none] else []) ++ (if scut w none (some (o.length : Int)) == o then [scut w (some (o.length : Int)) none] else [])
noncomputable def restsOf (words others : List Str) : List Str := words.flatMap fun w => others.flatMap (rest2 w)
noncomputable def σT (words others rests : List Str) : Loc := [("words", .val (.list (dS words))), ("others", .val (.list (dS others))), ("rests", .own (dS rests))]
noncomputable def σTw (words others rests : List Str) (w : Str) : Loc := [("words", .val (.list (dS words))), ("others", .val (.list (dS others))), ("rests", .own (dS rests)), ("word", .val (.str w))]
noncomputable def σTo (words others rests : List Str) (w o : Str) : Loc := [("words", .val (.list (dS words))), ("others", .val (.list (dS others))), ("rests", .own (dS rests)), ("word", .val (.str w)), ("other", .val (.str o))]
theorem T_of_w {words others rests : List Str} {w : Str} : ∀ p ∈ σT words others rests, p ∈ σTw words others rests w := by walk_at "mine:subs"
theorem w_of_o {words others rests : List Str} {w o : Str} : ∀ p ∈ σTw words others rests w, p ∈ σTo words others rests w o := by walk_at "mine:subs"
structure WordsOk' (words : List Str) : Prop where
  ok : ∀ x ∈ words, okS x = true ∧ x.length ≤ 1000
  len : words.length ≤ 40
theorem rest2_len (w o : Str) : (rest2 w o).length ≤ 2 := by
  unfold rest2
  split <;> split <;> simp
theorem flat_len {α β : Type} (f : α → List β) (n : Nat) (h : ∀ a, (f a).length ≤ n) : ∀ l : List α, (l.flatMap f).length ≤ n * l.length
  | [] => by simp
  | a :: l => by
    have h1 := h a
    have h2 := flat_len f n h l
    rw [List.flatMap_cons, List.length_append, List.length_cons, Nat.mul_add]
    walk_at "mine:om"
theorem dS_at {xs : List Str} {i : Nat} {d : PyData} (h : (dS xs)[i]? = some d) : ∃ hi : i < xs.length, d = .str xs[i] := by
  have hi : i < xs.length := by simpa using (List.getElem?_eq_some_iff.mp h).1
  rw [List.getElem?_map, List.getElem?_eq_getElem hi] at h
  exact ⟨hi, (Option.some.inj h).symm⟩
section
variable {C : Cx}
theorem rests_body {words others ys : List Str} (hw : WordsOk' words) (ho : WordsOk' others) (h64 : (dedup (restsOf words others)).length < 64) (hy : ∀ zs : List Str, zs.Perm (dedup (restsOf words others)) → sortedS zs = true → zs = ys) (hh : C.A.handled = none)
    {a : Addr} {cd : Value} {L : Addr} {X : List Addr} {h1 : ∀ b ∈ X, b ∉ L :: C.F} {h2 : ∀ p ∈ cellsFrom (L + 1) (scopeOf 11).names [], p.2 ∉ X} :
    Exs (calleeCx C (nameOf 11) (scopeOf 11) a cd L X h1 h2) [("words", .val (.list (dS words))), ("others", .val (.list (dS others)))] (bodyOf 11) (fun fl _ => fl = .ret (.list (dS ys))) := by
  have hsl : sizeLine = 16777216 := by decide
  have lw := hw.len
  have lo := ho.len
  refine Exs_step (σ₁ := σT words others []) (Ex_assign_new (ds := []) (En_listd EvL_nil (by decide)) (.loc rfl) (by walk_at "mine:upd") (own_ne (by walk_at "mine:nokey")) rfl ⟨rfl, rfl⟩) ?_
  have bound : ∀ ws os : List Str, ws.length ≤ 40 → os.length ≤ 40 → (restsOf ws os).length ≤ 3200 := fun ws os q1 q2 => by
    have := flat_len (fun w => os.flatMap (rest2 w)) (2 * os.length) (fun w => flat_len (rest2 w) 2 (rest2_len w) os) ws
    have h3 : 2 * os.length * ws.length ≤ 2 * 40 * 40 := Nat.mul_le_mul (by walk_at "mine:om") q1
    show (ws.flatMap fun w => os.flatMap (rest2 w)).length ≤ 3200
    walk_at "mine:om"
  refine Exs_cons (R₁ := fun fl σ' => fl = .next ∧ σ' = σT words others (restsOf words others)) (Ex_for (ds := dS words) (Iter_list (by walk_at "mine:nm") hh) rfl (fun i σ' => σ' = σT words others (restsOf (words.take i) others)) (by simp [restsOf]) ?_ ?_ (fun _ => rfl)) (fun σ' q => q.2 ▸ ?_) (fun fl σ' hne q => absurd q.1 hne)
  · rintro i d σ' hd rfl
    obtain ⟨hi, rfl⟩ := dS_at hd
    have next : restsOf (words.take (i + 1)) others = restsOf (words.take i) others ++ others.flatMap (rest2 words[i]) := by
      unfold restsOf; rw [List.take_succ_eq_append_getElem hi, List.flatMap_append]; simp
    have b1 := bound (words.take i) others (by simp; walk_at "mine:om") lo
    generalize hr : restsOf (words.take i) others = rs at next b1
    obtain ⟨w1, w2⟩ := hw.ok _ (List.getElem_mem hi)
    generalize words[i] = w at next w1 w2
    refine ⟨σTw words others rs w, by walk_at "mine:upd", ExT.to1 ?_⟩
    refine Exs_cons (R₁ := fun fl σ' => fl = .next ∧ σ' = σTw words others (rs ++ others.flatMap (rest2 w)) w) (Ex_for (ds := dS others) (Iter_list (by walk_at "mine:nm") hh) rfl (fun j σ' => σ' = σTw words others (rs ++ (others.take j).flatMap (rest2 w)) w) (by simp) ?_ ?_ (fun _ => rfl)) (fun σ' q => q.2 ▸ ?_) (fun fl σ' hne q => absurd q.1 hne)
    · rintro j d σ' hd rfl
      obtain ⟨hj, rfl⟩ := dS_at hd
      have next2 : rs ++ (others.take (j + 1)).flatMap (rest2 w) = (rs ++ (others.take j).flatMap (rest2 w)) ++ rest2 w others[j] := by
        rw [List.take_succ_eq_append_getElem hj, List.flatMap_append, List.append_assoc]; simp
      have b2 : (rs ++ (others.take j).flatMap (rest2 w)).length ≤ 3300 := by
        have h3 := flat_len (rest2 w) 2 (rest2_len w) (others.take j)
        rw [List.length_take] at h3
        rw [List.length_append]
        walk_at "mine:om"
      generalize rs ++ (others.take j).flatMap (rest2 w) = rr at next2 b2
      obtain ⟨o1, o2⟩ := ho.ok _ (List.getElem_mem hj)
      generalize others[j] = o at next2 o1 o2
      refine ⟨σTo words others rr w o, by walk_at "mine:upd", ExT.to1 ?_⟩
      have snoc : ∀ (xs : List Str) x, dS xs ++ [PyData.str x] = dS (xs ++ [x]) := fun xs x => by simp
      refine Exs_step (σ₁ := σTo words others (rr ++ if scut o none (some (w.length : Int)) == w then [scut o (some (w.length : Int)) none] else []) w o) (Ex_if (b := scut o none (some (w.length : Int)) == w)
        (It_cmp (Ev_slice_str (lo := none) (hi := some (w.length : Int)) (by walk_at "mine:nm") trivial (show Ev _ _ _ _ from Ev_len_str (by walk_at "mine:nm") rfl rfl (by walk_at "mine:om")) (by walk_at "mine:om") (fun _ _ => by rfl)) (by walk_at "mine:nm") (by rw [← eqv_str]; exact .eq _ _ (deep_str (okS_scut o1)) (deep_str w1)) rfl) (fun hb => ?_) (fun hb => ?_)) ?_
      · rw [if_pos hb]
        exact Exs_step (σ₁ := σTo words others (rr ++ [scut o (some (w.length : Int)) none]) w o) (Ex_append (d := .str (scut o (some (w.length : Int)) none)) (by walk_at "mine:mem") (Ev_slice_str (lo := some (w.length : Int)) (hi := none) (by walk_at "mine:nm") (show Ev _ _ _ _ from Ev_len_str (by walk_at "mine:nm") rfl rfl (by walk_at "mine:om")) trivial (by walk_at "mine:om") (fun _ _ => by rfl)) (by rw [snoc]; walk_at "mine:upd") ⟨rfl, rfl⟩ (by simp; walk_at "mine:om") rfl rfl rfl rfl rfl) (Exs_nil ⟨rfl, rfl⟩)
      · rw [if_neg (by rw [hb]; decide), List.append_nil]
        exact Exs_nil ⟨rfl, rfl⟩
      have b3 : (rr ++ if scut o none (some (w.length : Int)) == w then [scut o (some (w.length : Int)) none] else []).length ≤ 3301 := by
        rw [List.length_append]; split <;> simp <;> walk_at "mine:om"
      have next3 : rr ++ rest2 w o = (rr ++ if scut o none (some (w.length : Int)) == w then [scut o (some (w.length : Int)) none] else []) ++ (if scut w none (some (o.length : Int)) == o then [scut w (some (o.length : Int)) none] else []) := by
        unfold rest2; rw [List.append_assoc]
      rw [next3] at next2
      generalize (rr ++ if scut o none (some (w.length : Int)) == w then [scut o (some (w.length : Int)) none] else []) = r3 at next2 b3
      refine Exs_step (σ₁ := σTo words others (r3 ++ if scut w none (some (o.length : Int)) == o then [scut w (some (o.length : Int)) none] else []) w o) (Ex_if (b := scut w none (some (o.length : Int)) == o)
        (It_cmp (Ev_slice_str (lo := none) (hi := some (o.length : Int)) (by walk_at "mine:nm") trivial (show Ev _ _ _ _ from Ev_len_str (by walk_at "mine:nm") rfl rfl (by walk_at "mine:om")) (by walk_at "mine:om") (fun _ _ => by rfl)) (by walk_at "mine:nm") (by rw [← eqv_str]; exact .eq _ _ (deep_str (okS_scut w1)) (deep_str o1)) rfl) (fun hb => ?_) (fun hb => ?_)) ?_
      · rw [if_pos hb]
        exact Exs_step (σ₁ := σTo words others (r3 ++ [scut w (some (o.length : Int)) none]) w o) (Ex_append (d := .str (scut w (some (o.length : Int)) none)) (by walk_at "mine:mem") (Ev_slice_str (lo := some (o.length : Int)) (hi := none) (by walk_at "mine:nm") (show Ev _ _ _ _ from Ev_len_str (by walk_at "mine:nm") rfl rfl (by walk_at "mine:om")) trivial (by walk_at "mine:om") (fun _ _ => by rfl)) (by rw [snoc]; walk_at "mine:upd") ⟨rfl, rfl⟩ (by simp; walk_at "mine:om") rfl rfl rfl rfl rfl) (Exs_nil ⟨rfl, rfl⟩)
      · rw [if_neg (by rw [hb]; decide), List.append_nil]
        exact Exs_nil ⟨rfl, rfl⟩
      exact Exs_end w_of_o (by rw [next2])
    · rintro σ' rfl
      exact ⟨rfl, by rw [List.length_map, List.take_length]⟩
    · refine Exs_end T_of_w ?_
      rw [next]
  · rintro σ' rfl
    exact ⟨rfl, by rw [List.length_map, List.take_length]⟩
  · refine Exs_cons (R₁ := fun fl _ => fl = .ret (.list (dS ys))) (Ex_return (EnT.ev (En_sorted_set (xs := restsOf words others) (by walk_at "mine:nmo") rfl rfl rfl rfl hh (by simp [calleeCx]) (by have := bound words others lw lo; walk_at "mine:om") h64 hy)) rfl) (fun _ q => nomatch q) (fun _ _ _ q => q)
end
end Mine
end
section
open PySem PySem.Spec PySem.Calls PyProof.Rows PySem.W PySem.Builtin PySem.Builtin.Str
namespace Mine
noncomputable def onStr (p : Str → Bool) : PyData → Bool
  | .str x => p x
  | _ => false
theorem dS_filter (xs : List Str) (p : Str → Bool) : ((dS xs).filter (onStr p)).map (fun d => d) = dS (xs.filter p) := by
  simp only [List.map_id', dS, List.filter_map]
  rfl
structure SortedOf (xs ys : List Str) : Prop where
  len : xs.length < 64
  is : ∀ zs : List Str, zs.Perm xs → sortedS zs = true → zs = ys
  perm : ys.Perm xs
inductive RRun (RI : List Str → List Str → Prop) : Nat → List Str → List Str → List Str → Prop
  | done {n : Nat} {fresh seen : List Str} (h : fresh = [] ∨ ("" : Str) ∈ seen) : RRun RI n fresh seen seen
  | step {n : Nat} {fresh seen seen' fresh' r : List Str} (h1 : fresh ≠ []) (h2 : ("" : Str) ∉ seen) (h3 : sld fresh seen = (fresh.filter fun x => !decide (x ∈ seen), seen.filter fun x => !decide (x ∈ fresh)))
      (h4 : SortedOf (seen ++ fresh.filter fun x => !decide (x ∈ seen)) seen') (h5 : RI (fresh.filter fun x => !decide (x ∈ seen)) fresh') (h6 : RRun RI n fresh' seen' r) : RRun RI (n + 1) fresh seen r
structure SetOk (xs : List Str) : Prop where
  ok : ∀ x ∈ xs, okS x = true
  len : xs.length ≤ 1000
theorem depthAll_strs : ∀ xs : List Str, PyData.depthAll (dS xs) = 0
  | [] => rfl
  | x :: xs => by
    have := depthAll_strs xs
    simp only [dS, List.map_cons, PyData.depthAll, PyData.depth] at this ⊢
    walk_at "mine:om"
theorem deep_list {xs : List Str} (h : ∀ x ∈ xs, okS x = true) : deep (.list (dS xs)) = true := by
  rw [deep_iff]
  refine ⟨by simp only [PyData.canLay0]; exact layAll_strs h, ?_⟩
  unfold PyData.depth
  rw [depthAll_strs]; decide
theorem deep_two {xs ys : List Str} (h1 : ∀ x ∈ xs, okS x = true) (h2 : ∀ x ∈ ys, okS x = true) : deep (.tuple [.list (dS xs), .list (dS ys)]) = true := by
  rw [deep_iff]
  refine ⟨?_, ?_⟩
  · simp only [PyData.canLay0, PyData.canLayAll0, Bool.and_true, Bool.and_eq_true]
    exact ⟨layAll_strs h1, layAll_strs h2⟩
  · simp only [PyData.depth, PyData.depthAll, depthAll_strs]; decide
theorem eqvAll_strs : ∀ xs ys : List Str, PyData.eqvAll (dS xs) (dS ys) = decide (xs = ys)
  | [], [] => by simp [PyData.eqvAll]
  | [], y :: ys => by simp [PyData.eqvAll]
  | x :: xs, [] => by simp [PyData.eqvAll]
  | x :: xs, y :: ys => by
    have := eqvAll_strs xs ys
    simp only [dS, List.map_cons, PyData.eqvAll, PyData.eqv] at this ⊢
    rw [this]
    by_cases h1 : x = y <;> by_cases h2 : xs = ys <;> simp [h1, h2]
theorem eqv_list (xs ys : List Str) : PyData.eqv (.list (dS xs)) (.list (dS ys)) = decide (xs = ys) := by
  simp only [PyData.eqv]; exact eqvAll_strs xs ys
theorem eqv_two (a b c d : List Str) : PyData.eqv (.tuple [.list (dS a), .list (dS b)]) (.tuple [.list (dS c), .list (dS d)]) = decide (a = c ∧ b = d) := by
  simp only [PyData.eqv, PyData.eqvAll, Bool.and_true]
  rw [eqvAll_strs, eqvAll_strs]
  by_cases h1 : a = c <;> by_cases h2 : b = d <;> simp [h1, h2]
theorem sld_ok : ∀ (n : Nat) (xs ys : List Str), xs.length + ys.length ≤ n → (∀ x ∈ (sld xs ys).1, x ∈ xs) ∧ (∀ y ∈ (sld xs ys).2, y ∈ ys) := by
  intro n
  induction n with
  | zero =>
    intro xs ys h
    have h1 : xs = [] := List.eq_nil_of_length_eq_zero (by walk_at "mine:om")
    have h2 : ys = [] := List.eq_nil_of_length_eq_zero (by walk_at "mine:om")
    subst h1 h2
    rw [sld]; simp
  | succ n ih =>
    intro xs ys h
    cases xs with
    | nil => rw [sld]; simp
    | cons x xs =>
      cases ys with
      | nil => rw [sld]; simp
      | cons y ys =>
        have l1 := dropWhile_le (· == x) xs
        have l2 := dropWhile_le (· == y) ys
        have s1 : ∀ z ∈ xs.dropWhile (· == x), z ∈ x :: xs := fun z hz => .tail _ ((List.dropWhile_sublist _).subset hz)
        have s2 : ∀ z ∈ ys.dropWhile (· == y), z ∈ y :: ys := fun z hz => .tail _ ((List.dropWhile_sublist _).subset hz)
        simp only [List.length_cons] at h
        rw [sld]
        split
        · obtain ⟨a, b⟩ := ih (xs.dropWhile (· == x)) (y :: ys) (by simp only [List.length_cons]; walk_at "mine:om")
          refine ⟨fun z hz => ?_, b⟩
          rcases List.mem_cons.mp hz with rfl | hz
          · exact .head _
          · exact s1 _ (a z hz)
        · split
          · obtain ⟨a, b⟩ := ih (x :: xs) (ys.dropWhile (· == y)) (by simp only [List.length_cons]; walk_at "mine:om")
            refine ⟨a, fun z hz => ?_⟩
            rcases List.mem_cons.mp hz with rfl | hz
            · exact .head _
            · exact s2 _ (b z hz)
          · obtain ⟨a, b⟩ := ih (xs.dropWhile (· == x)) (ys.dropWhile (· == y)) (by walk_at "mine:om")
            exact ⟨fun z hz => s1 _ (a z hz), fun z hz => s2 _ (b z hz)⟩
section
variable {C : Cx}
theorem It_of_eq {σ : Loc} {e : Expr} {b b' : Bool} (h : It C σ e b) (q : b = b') : It C σ e b' := q ▸ h
noncomputable def σN (words fresh seen : List Str) : Loc := [("words", .val (.list (dS words))), ("fresh", .val (.list (dS fresh))), ("seen", .val (.list (dS seen)))]
noncomputable def σNt (words fresh seen : List Str) (told : List Str × List Str) : Loc := [("words", .val (.list (dS words))), ("fresh", .val (.list (dS fresh))), ("seen", .val (.list (dS seen))), ("told", .val (.tuple [.list (dS told.1), .list (dS told.2)]))]
noncomputable def σNn (words fresh seen : List Str) (told : List Str × List Str) (new : List Str) : Loc := [("words", .val (.list (dS words))), ("fresh", .val (.list (dS fresh))), ("seen", .val (.list (dS seen))), ("told", .val (.tuple [.list (dS told.1), .list (dS told.2)])), ("new", .val (.list (dS new)))]
theorem N_of_n {words fresh seen : List Str} {told : List Str × List Str} {new : List Str} : ∀ p ∈ σN words fresh seen, p ∈ σNn words fresh seen told new := by walk_at "mine:subs"
theorem rounds_body {words fresh0 all0 r : List Str} {RI : List Str → List Str → Prop} {n : Nat} (hfr : fresh0 = all0.filter fun x : Str => !decide (x = ("" : Str))) (hrun : RRun RI n fresh0 [] r) (hh : C.A.handled = none)
    {a : Addr} {cd : Value} {L : Addr} {X : List Addr} {h1 : ∀ b ∈ X, b ∉ L :: C.F} {h2 : ∀ p ∈ cellsFrom (L + 1) (scopeOf 12).names [], p.2 ∉ X}
    (h0 : SetOk all0) (hRI : ∀ others ys, RI others ys → SetOk ys) (faR : ∃ name params body scope pm cd doc, FunAt C.B 76 name params body scope pm cd doc) (faS : ∃ name params body scope pm cd doc, FunAt C.B 38 name params body scope pm cd doc)
    (c0 : FnOk (calleeCx C (nameOf 12) (scopeOf 12) a cd L X h1 h2) 76 [.list (dS words), .list (dS words)] (.list (dS all0)))
    (cR : ∀ others ys, RI others ys → FnOk (calleeCx C (nameOf 12) (scopeOf 12) a cd L X h1 h2) 76 [.list (dS words), .list (dS others)] (.list (dS ys)))
    (cS : ∀ xs ys, SetOk xs → SetOk ys → FnOk (calleeCx C (nameOf 12) (scopeOf 12) a cd L X h1 h2) 38 [.list (dS xs), .list (dS ys)] (.tuple [.list (dS (sld xs ys).1), .list (dS (sld xs ys).2)])) :
    Exs (calleeCx C (nameOf 12) (scopeOf 12) a cd L X h1 h2) [("words", .val (.list (dS words)))] (bodyOf 12) (fun fl _ => fl = .ret (.list (dS r))) := by
  have hsl : sizeLine = 16777216 := by decide
  have okn : okS "" = true := by decide +kernel
  refine Exs_step (σ₁ := [("words", .val (.list (dS words))), ("fresh", .val (.list (dS fresh0)))]) (Ex_assign (d := .list (dS fresh0)) ?_ (.cell (L + 1) rfl rfl) (by walk_at "mine:upd") rfl ⟨rfl, rfl⟩) ?_
  · rw [hfr, ← dS_filter]
    refine EnT.ev (En_comp (σc := []) (Iter_list (Ev_call rfl (by walk_at "mine:mem") rfl faR (EvL_cons (by walk_at "mine:nm") (EvL_cons (by walk_at "mine:nm") EvL_nil rfl) rfl) rfl c0) hh) (by walk_at "mine:compat") (by walk_at "mine:sees") ⟨?_, ?_, ?_, ?_⟩ (by simp; have := h0.len; walk_at "mine:om") (fun _ => rfl))
    · simp [leaf]
    · intro d hd _
      obtain ⟨x, _, rfl⟩ := List.mem_map.mp hd
      rfl
    · intro A d hd
      obtain ⟨x, hx, rfl⟩ := List.mem_map.mp hd
      refine Tests_one ?_
      show It _ _ _ (!decide (x = ""))
      have e : (!decide (x = ("" : Str))) = !PyData.eqv (.str x) (.str "") := by rw [eqv_str]; rfl
      rw [e]
      exact It_cmp (by walk_at "mine:nm") Ev_str (.ne _ _ (deep_str (h0.ok x hx)) (deep_str okn)) rfl
    · intro A d hd _
      obtain ⟨x, hx, rfl⟩ := List.mem_map.mp hd
      exact (by walk_at "mine:nm")
  have hfo : SetOk fresh0 := by
    rw [hfr]
    exact ⟨fun x hx => h0.ok x (List.mem_filter.mp hx).1, Nat.le_trans (List.length_filter_le _ _) h0.len⟩
  refine Exs_step (σ₁ := σN words fresh0 []) (Ex_assign (d := .list (dS [])) (EnT.ev (En_listd EvL_nil (by decide))) (.cell (L + 1 + 1) rfl rfl) (by walk_at "mine:upd") rfl ⟨rfl, rfl⟩) ?_
  refine Exs_cons (R₁ := fun fl σ' => fl = .next ∧ ∃ fresh, σ' = σN words fresh r) (Ex_while (fun n σ' => ∃ fresh seen, RRun RI n fresh seen r ∧ SetOk fresh ∧ SetOk seen ∧ σ' = σN words fresh seen) n ⟨fresh0, [], hrun, hfo, ⟨by simp, by simp⟩, rfl⟩ ?_) ?_ (fun fl σ' hne q => absurd q.1 hne)
  · rintro m σ' ⟨fresh, seen, hr, hf, hs, rfl⟩
    have lf := hf.len
    have ls := hs.len
    refine .inl ⟨_, It_and (It_cmp (by walk_at "mine:nm") (EnT.ev (En_listd EvL_nil (by decide))) (.ne _ _ (deep_list hf.ok) (deep_list (xs := []) (by simp))) rfl) fun _ =>
        It_and (It_cmp Ev_str (by walk_at "mine:nm") (.notinl _ _ (deep_str okn) (layAll_strs hs.ok)) rfl) fun _ => It_and_nil, fun hb => ?_, fun hb => ?_⟩
    rotate_left
    · rw [show (PyData.list []) = PyData.list (dS []) from rfl, eqv_list, any_strs] at hb
      refine ⟨rfl, fresh, ?_⟩
      cases hr with
      | done h => rfl
      | step q1 q2 => simp [q1, q2] at hb
    rw [show (PyData.list []) = PyData.list (dS []) from rfl, eqv_list, any_strs] at hb
    have hb2 : fresh ≠ [] ∧ ("" : Str) ∉ seen := by simpa using hb
    cases hr with
    | done h => exact absurd h (by rintro (q | q); exact hb2.1 q; exact hb2.2 q)
    | @step m _ _ seen' fresh' _ q1 q2 q3 q4 q5 q6 =>
    have hf' := hRI _ _ q5
    have hsub := sld_ok _ fresh seen (Nat.le_refl _)
    generalize htold : sld fresh seen = told at q3 hsub
    have oknew : ∀ x ∈ (fresh.filter fun x => !decide (x ∈ seen)), okS x = true := fun x hx => hf.ok x (List.mem_filter.mp hx).1
    have okrest : ∀ x ∈ (seen.filter fun x => !decide (x ∈ fresh)), okS x = true := fun x hx => hs.ok x (List.mem_filter.mp hx).1
    refine Exs_step (σ₁ := σNt words fresh seen told) (Ex_assign (d := .tuple [.list (dS told.1), .list (dS told.2)]) (by
      have := cS fresh seen hf hs
      rw [htold] at this
      exact Ev_call rfl (by walk_at "mine:mem") rfl faS (EvL_cons (EnT.ev (En_list (EvT.el (by walk_at "mine:nm")) rfl rfl (by simp; walk_at "mine:om"))) (EvL_cons (EnT.ev (En_list (EvT.el (by walk_at "mine:nm")) rfl rfl (by simp; walk_at "mine:om"))) EvL_nil rfl) rfl) rfl this) (.loc rfl) (by walk_at "mine:upd") rfl ⟨rfl, rfl⟩) ?_
    refine Exs_step (σ₁ := σNn words fresh seen told (fresh.filter fun x => !decide (x ∈ seen))) (Ex_assign_comp (σc := [("seen", .val (.list (dS seen)))]) (pd := onStr fun x => !decide (x ∈ seen)) (f := fun d => d) (Iter_list (by walk_at "mine:nm") hh) (by walk_at "mine:compat") (by walk_at "mine:sees") ⟨?_, ?_, ?_, ?_⟩ (by simp; walk_at "mine:om") rfl rfl (by rw [dS_filter]; walk_at "mine:upd") ⟨rfl, rfl⟩ (fun _ => rfl)) ?_
    · simp [leaf]
    · intro d hd _
      obtain ⟨x, _, rfl⟩ := List.mem_map.mp hd
      rfl
    · intro A d hd
      obtain ⟨x, hx, rfl⟩ := List.mem_map.mp hd
      refine Tests_one ?_
      show It _ _ _ (!decide (x ∈ seen))
      rw [← any_strs]
      exact It_cmp (by walk_at "mine:nm") (by walk_at "mine:nm") (.notinl _ _ (deep_str (hf.ok x hx)) (layAll_strs hs.ok)) rfl
    · intro A d hd _
      obtain ⟨x, hx, rfl⟩ := List.mem_map.mp hd
      exact (by walk_at "mine:nm")
    have t1 : told.1 = fresh.filter fun x => !decide (x ∈ seen) := by rw [q3]
    have t2 : told.2 = seen.filter fun x => !decide (x ∈ fresh) := by rw [q3]
    refine Exs_step (σ₁ := σNn words fresh seen told (fresh.filter fun x => !decide (x ∈ seen))) (Ex_if (b := false) ?_ (fun q => nomatch q) (fun _ => Exs_nil ⟨rfl, rfl⟩)) ?_
    · have e : (!PyData.eqv (.tuple [.list (dS told.1), .list (dS told.2)]) (.tuple [.list (dS (fresh.filter fun x => !decide (x ∈ seen))), .list (dS (seen.filter fun x => !decide (x ∈ fresh)))])) = false := by
        rw [eqv_two, t1, t2]; simp
      refine It_of_eq (It_cmp (by walk_at "mine:nm") (Ev_tuple (EvL_cons (by walk_at "mine:nm") (EvL_cons (d := .list (dS (seen.filter fun x => !decide (x ∈ fresh)))) ?_ EvL_nil rfl) rfl) (by show 2 ≤ sizeLine; decide)) (.ne _ _ (deep_two (by rw [t1]; exact oknew) (by rw [t2]; exact okrest)) (deep_two oknew okrest)) rfl) e
      rw [← dS_filter seen]
      refine EnT.ev (En_comp (σc := [("fresh", .val (.list (dS fresh)))]) (Iter_list (by walk_at "mine:nm") hh) (by walk_at "mine:compat") (by walk_at "mine:sees") ⟨?_, ?_, ?_, ?_⟩ (by simp; walk_at "mine:om") (fun _ => rfl))
      · simp [leaf]
      · intro d hd _
        obtain ⟨x, _, rfl⟩ := List.mem_map.mp hd
        rfl
      · intro A d hd
        obtain ⟨x, hx, rfl⟩ := List.mem_map.mp hd
        refine Tests_one ?_
        show It _ _ _ (!decide (x ∈ fresh))
        rw [← any_strs]
        exact It_cmp (by walk_at "mine:nm") (by walk_at "mine:nm") (.notinl _ _ (deep_str (hs.ok x hx)) (layAll_strs hf.ok)) rfl
      · intro A d hd _
        obtain ⟨x, hx, rfl⟩ := List.mem_map.mp hd
        exact (by walk_at "mine:nm")
    have l4 := q4.len
    refine Exs_step (σ₁ := σNn words fresh seen' told (fresh.filter fun x => !decide (x ∈ seen))) (Ex_assign (d := .list (dS seen')) (EnT.ev (En_sorted (xs := seen ++ fresh.filter fun x => !decide (x ∈ seen)) ?_ rfl rfl q4.len q4.is)) (.cell (L + 1 + 1) rfl rfl) (by walk_at "mine:upd") rfl ⟨rfl, rfl⟩) ?_
    · have e : (seen ++ fresh.filter fun x => !decide (x ∈ seen)).map PyData.str = dS seen ++ dS (fresh.filter fun x => !decide (x ∈ seen)) := by simp
      rw [e]
      exact EnT.el (En_add (by walk_at "mine:nm") (by walk_at "mine:nm") (by rw [List.length_map, List.length_map]; rw [List.length_append] at l4; walk_at "mine:om"))
    refine Exs_step (σ₁ := σNn words fresh' seen' told (fresh.filter fun x => !decide (x ∈ seen))) (Ex_assign (d := .list (dS fresh')) ?_ (.cell (L + 1) rfl rfl) (by walk_at "mine:upd") rfl ⟨rfl, rfl⟩) ?_
    · have c := cR _ _ q5
      rw [← t1] at c
      exact Ev_call rfl (by walk_at "mine:mem") rfl faR (EvL_cons (by walk_at "mine:nm") (EvL_cons (Ev_titem (j := 0) (by walk_at "mine:nm") Ev_int ⟨rfl, by simp⟩ rfl (by simp) (fun _ _ => rfl) (fun _ _ => rfl)) EvL_nil rfl) rfl) rfl c
    have hs' : SetOk seen' := ⟨fun x hx => by
      rcases List.mem_append.mp (q4.perm.mem_iff.mp hx) with q | q
      · exact hs.ok x q
      · exact oknew x q, by rw [q4.perm.length_eq]; walk_at "mine:om"⟩
    exact Exs_end N_of_n ⟨m, Nat.lt_succ_self _, fresh', seen', q6, hf', hs', rfl⟩
  · rintro σ' ⟨_, fresh, rfl⟩
    exact Exs_cons (R₁ := fun fl _ => fl = .ret (.list (dS r))) (Ex_return (by walk_at "mine:nm") rfl) (fun _ q => nomatch q) (fun _ _ _ q => q)
end
end Mine
end
section
open PySem PySem.Spec PySem.Calls PyProof.Rows PySem.W PySem.Builtin PySem.Builtin.Str
namespace Mine
structure Way where
  one : Str
  other : Str
  first : List Nat
  second : List Nat
noncomputable def dW (w : Way) : PyData := .tuple [.str w.one, .str w.other, .list (dN w.first), .list (dN w.second)]
noncomputable def dP (p : Str × Str) : PyData := .tuple [.str p.1, .str p.2]
noncomputable def tlS (x : Str) : Str := scut x (some 1) none
noncomputable def hdS (x : Str) : Str := Txt.item x 0
structure HSt where
  ways : List Way
  seen : List (Str × Str)
  at_ : Nat
noncomputable def initWays (words : List Str) : List Way := (List.range words.length).flatMap fun k => (List.range k).map fun j => ⟨words.getD j "", words.getD k "", [j], [k]⟩
noncomputable def expand1 (words : List Str) (w : Way) (k : Nat) : Way := ⟨words.getD k "", tlS w.other, w.first ++ [k], w.second⟩
noncomputable def expand2 (words : List Str) (w : Way) (k : Nat) : Way := ⟨tlS w.one, words.getD k "", w.first, w.second ++ [k]⟩
noncomputable def expand (words : List Str) (w : Way) : List Way :=
  if tlS w.one == "" then (List.range words.length).map (expand1 words w)
  else if tlS w.other == "" then (List.range words.length).map (expand2 words w)
  else [⟨tlS w.one, tlS w.other, w.first, w.second⟩]
noncomputable def hrun (words : List Str) : Nat → HSt → Option (Option Way)
  | 0, _ => none
  | n + 1, s => match s.ways[s.at_]? with
    | none => some none
    | some w =>
      if hdS w.one == hdS w.other && !decide ((w.one, w.other) ∈ s.seen) then
        if tlS w.one == "" && tlS w.other == "" then some (some w)
        else hrun words n ⟨s.ways ++ expand words w, s.seen ++ [(w.one, w.other)], s.at_ + 1⟩
      else hrun words n ⟨s.ways, s.seen, s.at_ + 1⟩
noncomputable def dRes : Option Way → List PyData
  | none => []
  | some w => [.list (dN w.first), .list (dN w.second)]
structure WayOk (n : Nat) (w : Way) : Prop where
  o1 : okS w.one = true
  o2 : okS w.other = true
  l1 : 0 < w.one.length
  l2 : 0 < w.other.length
  s1 : w.one.length ≤ 1000
  s2 : w.other.length ≤ 1000
  f1 : w.first.length + n ≤ 1000000
  f2 : w.second.length + n ≤ 1000000
structure HOk (n : Nat) (s : HSt) : Prop where
  ws : ∀ w ∈ s.ways, WayOk n w
  ps : ∀ p ∈ s.seen, okS p.1 = true ∧ okS p.2 = true
  lw : s.ways.length + 100 * n ≤ 10000000
  ls : s.seen.length + n ≤ 1000000
structure WordsOk (words : List Str) : Prop where
  ok : ∀ x ∈ words, okS x = true ∧ 0 < x.length ∧ x.length ≤ 1000
  len : words.length ≤ 100
theorem tlS_list {x : Str} (h : 0 < x.length) : (tlS x).cps.toList = x.cps.toList.drop 1 := by
  show (cut x.cps.toList (some ((1 : Nat) : Int)) none).toArray.toList = _
  rw [cut_from (by have : 0 < x.cps.size := h; simp; walk_at "mine:om")]
theorem tlS_len {x : Str} (h : 0 < x.length) : (tlS x).length = x.length - 1 := by
  have := congrArg List.length (tlS_list h)
  simpa [Str.length] using this
theorem str_nil {x : Str} : (x == ("" : Str)) = decide (x.length = 0) := by
  by_cases h : x.length = 0
  · have : x = "" := str_ext (by have : x.cps.toList = [] := List.eq_nil_of_length_eq_zero (by simpa [Str.length] using h); rw [this]; rfl)
    subst this; rfl
  · have : x ≠ "" := fun q => h (by rw [q]; rfl)
    simp [this, h]
theorem charAt_some {x : Str} (h : 0 < x.length) : (Txt.charAt x 0).isSome = true := by
  unfold Txt.charAt
  have : x.length ≠ 0 := by walk_at "mine:om"
  have h' : 0 < x.cps.size := h
  simp [seqIndex?, h, h']
theorem any_pairs (ps : List (Str × Str)) (p : Str × Str) : ((ps.map dP).any fun y => PyData.eqv y (dP p)) = decide (p ∈ ps) := by
  induction ps with
  | nil => rfl
  | cons q ps ih =>
    rw [List.map_cons, List.any_cons, ih]
    have e : PyData.eqv (dP q) (dP p) = decide (q = p) := by
      simp only [dP, PyData.eqv, PyData.eqvAll, Bool.and_true]
      obtain ⟨a, b⟩ := q
      obtain ⟨c, d⟩ := p
      by_cases h1 : a = c <;> by_cases h2 : b = d <;> simp [h1, h2]
    rw [e]
    by_cases h : q = p
    · subst h; simp
    · have h' : ¬ p = q := fun x => h x.symm
      simp [h, h']
theorem deep_pair {p : Str × Str} (h1 : okS p.1 = true) (h2 : okS p.2 = true) : deep (dP p) = true := by
  rw [deep_iff]
  refine ⟨?_, ?_⟩
  · simp only [dP, PyData.canLay0, PyData.canLayAll0, Bool.and_true, Bool.and_eq_true]; exact ⟨h1, h2⟩
  · simp [dP, PyData.depth, PyData.depthAll]
theorem lay_pairs : ∀ {ps : List (Str × Str)}, (∀ p ∈ ps, okS p.1 = true ∧ okS p.2 = true) → PyData.canLayAll0 (ps.map dP) = true
  | [], _ => by simp [PyData.canLayAll0]
  | p :: ps, h => by
    have h1 := h p (.head _)
    have h2 := lay_pairs (ps := ps) fun y hy => h y (.tail _ hy)
    simp only [List.map_cons, PyData.canLayAll0, Bool.and_eq_true]
    exact ⟨by simp only [dP, PyData.canLay0, PyData.canLayAll0, Bool.and_true, Bool.and_eq_true]; exact h1, h2⟩
section
variable {C : Cx}
noncomputable def σH (words : List Str) (s : HSt) : Loc := [("words", .val (.list (dS words))), ("ways", .own (s.ways.map dW)), ("seen", .own (s.seen.map dP)), ("at", .val (.int (s.at_ : Int)))]
noncomputable def σW (words : List Str) (s : HSt) (w : Way) : Loc := [("words", .val (.list (dS words))), ("ways", .own (s.ways.map dW)), ("seen", .own (s.seen.map dP)), ("at", .val (.int (s.at_ : Int))),
  ("one", .val (.str w.one)), ("other", .val (.str w.other)), ("first", .val (.list (dN w.first))), ("second", .val (.list (dN w.second)))]
theorem H_of_W {words : List Str} {s : HSt} {w : Way} : ∀ p ∈ σH words s, p ∈ σW words s w := by walk_at "mine:subs"
noncomputable def σ1 (words : List Str) (ways : List Way) : Loc := [("words", .val (.list (dS words))), ("ways", .own (ways.map dW))]
noncomputable def σ1k (words : List Str) (ways : List Way) (k : Nat) : Loc := [("words", .val (.list (dS words))), ("ways", .own (ways.map dW)), ("k", .val (.int (k : Int)))]
noncomputable def σ1kj (words : List Str) (ways : List Way) (k j : Nat) : Loc := [("words", .val (.list (dS words))), ("ways", .own (ways.map dW)), ("k", .val (.int (k : Int))), ("j", .val (.int (j : Int)))]
theorem s1_of_k {words : List Str} {ways : List Way} {k : Nat} : ∀ p ∈ σ1 words ways, p ∈ σ1k words ways k := by walk_at "mine:subs"
theorem s1k_of_kj {words : List Str} {ways : List Way} {k j : Nat} : ∀ p ∈ σ1k words ways k, p ∈ σ1kj words ways k j := by walk_at "mine:subs"
theorem tri_le (n : Nat) (f : Nat → Nat → Way) : ((List.range n).flatMap fun k => (List.range k).map (f k)).length ≤ n * n := by
  induction n with
  | zero => simp
  | succ n ih =>
    rw [List.range_succ, List.flatMap_append, List.length_append]
    simp only [List.flatMap_cons, List.flatMap_nil, List.append_nil, List.length_map, List.length_range]
    have : (n + 1) * (n + 1) = n * n + n + (n + 1) := by rw [Nat.add_mul, Nat.mul_add]; walk_at "mine:om"
    walk_at "mine:om"
theorem getD_ok {words : List Str} (hw : WordsOk words) {k : Nat} (hk : k < words.length) : okS (words.getD k "") = true ∧ 0 < (words.getD k "").length ∧ (words.getD k "").length ≤ 1000 := hw.ok _ (getD_mem hk)
theorem Ev_word {C : Cx} {σ : Loc} {words : List Str} {x y : Str} {p1 p2 p3 : Pos} {k : Nat} (hw : words.length ≤ 100) (hk : k < words.length) (m1 : (x, Slot.val (.list (dS words))) ∈ σ) (m2 : (y, Slot.val (.int (k : Int))) ∈ σ) (d1 : (x == ("__debug__" : Str)) = false) (d2 : (y == ("__debug__" : Str)) = false) :
    Ev C σ (.Subscript (.Name x p1) (.Name y p2) p3) (.str (words.getD k "")) :=
  Ev_item (j := k) (Ev_name m1 d1) (Ev_name m2 d2) ⟨by simpa using hk, .inl rfl⟩ (dS_get hk) (by simp; walk_at "mine:om") (fun _ _ => rfl)
theorem dN_at {n k : Nat} {d : PyData} (h : (dN (List.range n))[k]? = some d) : k < n ∧ d = .int (k : Int) := by
  have hk : k < n := by simpa using (List.getElem?_eq_some_iff.mp h).1
  rw [List.getElem?_map, List.getElem?_range hk] at h
  exact ⟨hk, (Option.some.inj h).symm⟩
theorem okS_hd {x : Str} (h : okS x = true) (hl : 0 < x.length) : okS (hdS x) = true := by
  have hl' : 0 < x.cps.size := hl
  refine okS_sub h fun c hc => ?_
  have e : hdS x = ⟨#[x.cps[0]]⟩ := by
    unfold hdS Txt.item Txt.charAt
    simp [seqIndex?, hl, hl']
  rw [e] at hc
  simp at hc
  rw [hc]; simp
theorem WayOk.less {n : Nat} {w : Way} (h : WayOk (n + 1) w) : WayOk n w := ⟨h.o1, h.o2, h.l1, h.l2, h.s1, h.s2, by have := h.f1; walk_at "mine:om", by have := h.f2; walk_at "mine:om"⟩
theorem expand_len (words : List Str) (w : Way) (h : words.length ≤ 100) : (expand words w).length ≤ 100 := by
  unfold expand
  split
  · simp; walk_at "mine:om"
  · split
    · simp; walk_at "mine:om"
    · simp
theorem expand_ok {words : List Str} {w : Way} {n : Nat} (hw : WordsOk words) (h : WayOk (n + 1) w) (hne : ¬ ((tlS w.one == "") = true ∧ (tlS w.other == "") = true)) : ∀ v ∈ expand words w, WayOk n v := fun v hv => by
  have t1 := tlS_len h.l1
  have t2 := tlS_len h.l2
  have f1 := h.f1
  have f2 := h.f2
  have s1 := h.s1
  have s2 := h.s2
  rw [str_nil, str_nil, decide_eq_true_eq, decide_eq_true_eq] at hne
  unfold expand at hv
  rw [str_nil, str_nil] at hv
  by_cases h1 : (tlS w.one).length = 0
  · rw [if_pos (by simpa using h1), List.mem_map] at hv
    obtain ⟨k, hk, rfl⟩ := hv
    obtain ⟨a1, a2, a3⟩ := getD_ok hw (List.mem_range.mp hk)
    exact ⟨a1, okS_scut h.o2, a2, by show 0 < (tlS w.other).length; walk_at "mine:om", a3, by show (tlS w.other).length ≤ _; walk_at "mine:om", by show (w.first ++ [k]).length + n ≤ _; rw [List.length_append]; simp; walk_at "mine:om", by show w.second.length + n ≤ _; walk_at "mine:om"⟩
  · rw [if_neg (by simpa using h1)] at hv
    by_cases h2 : (tlS w.other).length = 0
    · rw [if_pos (by simpa using h2), List.mem_map] at hv
      obtain ⟨k, hk, rfl⟩ := hv
      obtain ⟨a1, a2, a3⟩ := getD_ok hw (List.mem_range.mp hk)
      exact ⟨okS_scut h.o1, a1, by show 0 < (tlS w.one).length; walk_at "mine:om", a2, by show (tlS w.one).length ≤ _; walk_at "mine:om", a3, by show w.first.length + n ≤ _; walk_at "mine:om", by show (w.second ++ [k]).length + n ≤ _; rw [List.length_append]; simp; walk_at "mine:om"⟩
    · rw [if_neg (by simpa using h2), List.mem_singleton] at hv
      subst hv
      exact ⟨okS_scut h.o1, okS_scut h.o2, by show 0 < (tlS w.one).length; walk_at "mine:om", by show 0 < (tlS w.other).length; walk_at "mine:om", by show (tlS w.one).length ≤ _; walk_at "mine:om", by show (tlS w.other).length ≤ _; walk_at "mine:om", by show w.first.length + n ≤ _; walk_at "mine:om", by show w.second.length + n ≤ _; walk_at "mine:om"⟩
theorem pair_snoc (ps : List (Str × Str)) (p : Str × Str) : (ps ++ [p]).map dP = ps.map dP ++ [dP p] := by simp
noncomputable def σWk (words : List Str) (s : HSt) (w : Way) (k : Nat) : Loc := [("words", .val (.list (dS words))), ("ways", .own (s.ways.map dW)), ("seen", .own (s.seen.map dP)), ("at", .val (.int (s.at_ : Int))),
  ("one", .val (.str w.one)), ("other", .val (.str w.other)), ("first", .val (.list (dN w.first))), ("second", .val (.list (dN w.second))), ("k", .val (.int (k : Int)))]
theorem W_of_Wk {words : List Str} {s : HSt} {w : Way} {k : Nat} : ∀ p ∈ σW words s w, p ∈ σWk words s w k := by walk_at "mine:subs"
theorem Wk_upd {words : List Str} {s : HSt} {w : Way} {k : Nat} {σ : Loc} (h : ∀ p ∈ σW words s w, p ∈ σ) : Upd σ "k" (.val (.int (k : Int))) (σWk words s w k) := fun p hp => by
  simp only [σWk, List.mem_cons, List.not_mem_nil, or_false] at hp
  rcases hp with q | q | q | q | q | q | q | q | q
  · subst q; exact .inr ⟨h _ (by walk_at "mine:mem"), by dsimp only; decide⟩
  · subst q; exact .inr ⟨h _ (by walk_at "mine:mem"), by dsimp only; decide⟩
  · subst q; exact .inr ⟨h _ (by walk_at "mine:mem"), by dsimp only; decide⟩
  · subst q; exact .inr ⟨h _ (by walk_at "mine:mem"), by dsimp only; decide⟩
  · subst q; exact .inr ⟨h _ (by walk_at "mine:mem"), by dsimp only; decide⟩
  · subst q; exact .inr ⟨h _ (by walk_at "mine:mem"), by dsimp only; decide⟩
  · subst q; exact .inr ⟨h _ (by walk_at "mine:mem"), by dsimp only; decide⟩
  · subst q; exact .inr ⟨h _ (by walk_at "mine:mem"), by dsimp only; decide⟩
  · exact .inl q
theorem range_snoc {α : Type} (ws : List α) (f : Nat → α) (j : Nat) : ws ++ (List.range (j + 1)).map f = (ws ++ (List.range j).map f) ++ [f j] := by
  rw [List.range_succ, List.map_append, ← List.append_assoc]; rfl
theorem dN_snoc (xs : List Nat) (k : Nat) : dN (xs ++ [k]) = dN xs ++ [PyData.int (k : Int)] := by simp
theorem way_snoc (ws : List Way) (w : Way) : (ws ++ [w]).map dW = ws.map dW ++ [dW w] := by simp
theorem hands_body {words : List Str} {N : Nat} {r : Option Way} (hw : WordsOk words) (hr : hrun words N ⟨initWays words, [], 0⟩ = some r) (hN : N ≤ 50000) (hh : C.A.handled = none)
    {a : Addr} {cd : Value} {L : Addr} {X : List Addr} {h1 : ∀ b ∈ X, b ∉ L :: C.F} {h2 : ∀ p ∈ cellsFrom (L + 1) (scopeOf 13).names [], p.2 ∉ X} :
    Exs (calleeCx C (nameOf 13) (scopeOf 13) a cd L X h1 h2) [("words", .val (.list (dS words)))] (bodyOf 13) (fun fl _ => fl = .ret (.list (dRes r))) := by
  have hsl : sizeLine = 16777216 := by decide
  have lw := hw.len
  refine Exs_step (σ₁ := σ1 words []) (Ex_assign_new (ds := []) (En_listd EvL_nil (by decide)) (.loc rfl) (by walk_at "mine:upd") (own_ne (by walk_at "mine:nokey")) rfl ⟨rfl, rfl⟩) ?_
  refine Exs_cons (R₁ := fun fl σ' => fl = .next ∧ σ' = σ1 words (initWays words)) (Ex_for (ds := dN (List.range words.length)) (Iter_range1 (Ev_lenS (EvT.el (by walk_at "mine:nm")) rfl rfl (by walk_at "mine:om")) rfl rfl (by walk_at "mine:om") hh) rfl
    (fun i σ' => σ' = σ1 words ((List.range i).flatMap fun k => (List.range k).map fun j => ⟨words.getD j "", words.getD k "", [j], [k]⟩)) rfl ?_ ?_ (fun _ => rfl)) (fun σ' q => q.2 ▸ ?_) (fun fl σ' hne q => absurd q.1 hne)
  · rintro k d σ' hd rfl
    obtain ⟨hk, rfl⟩ := dN_at hd
    generalize hws : ((List.range k).flatMap fun k => (List.range k).map fun j => (⟨words.getD j "", words.getD k "", [j], [k]⟩ : Way)) = ws
    have hwl : ws.length ≤ 10000 := by
      rw [← hws]
      have h1 := tri_le k fun k j => (⟨words.getD j "", words.getD k "", [j], [k]⟩ : Way)
      have h2 : k * k ≤ 100 * 100 := Nat.mul_le_mul (by walk_at "mine:om") (by walk_at "mine:om")
      walk_at "mine:om"
    refine ⟨σ1k words ws k, by walk_at "mine:upd", ExT.to1 ?_⟩
    refine Exs_cons (R₁ := fun fl σ' => fl = .next ∧ σ' = σ1k words (ws ++ (List.range k).map fun j => ⟨words.getD j "", words.getD k "", [j], [k]⟩) k) (Ex_for (ds := dN (List.range k)) (Iter_range1 (by walk_at "mine:nm") rfl rfl (by walk_at "mine:om") hh) rfl
      (fun i σ' => σ' = σ1k words (ws ++ (List.range i).map fun j => ⟨words.getD j "", words.getD k "", [j], [k]⟩) k) (by simp) ?_ ?_ (fun _ => rfl)) (fun σ' q => q.2 ▸ ?_) (fun fl σ' hne q => absurd q.1 hne)
    · rintro j d σ' hd rfl
      obtain ⟨hj, rfl⟩ := dN_at hd
      refine ⟨σ1kj words (ws ++ (List.range j).map fun j => ⟨words.getD j "", words.getD k "", [j], [k]⟩) k j, by walk_at "mine:upd", ExT.to1 ?_⟩
      refine Exs_step (σ₁ := σ1kj words (ws ++ (List.range (j + 1)).map fun j => ⟨words.getD j "", words.getD k "", [j], [k]⟩) k j) (Ex_append (d := dW ⟨words.getD j "", words.getD k "", [j], [k]⟩) (by walk_at "mine:mem")
        (Ev_tuple (EvL_cons (Ev_word lw (by walk_at "mine:om") (by walk_at "mine:mem") (by walk_at "mine:mem") rfl rfl) (EvL_cons (Ev_word lw (by walk_at "mine:om") (by walk_at "mine:mem") (by walk_at "mine:mem") rfl rfl) (EvL_cons (EnT.ev (En_listd (EvL_cons (by walk_at "mine:nm") EvL_nil rfl) (by show 1 ≤ sizeLine; decide))) (EvL_cons (EnT.ev (En_listd (EvL_cons (by walk_at "mine:nm") EvL_nil rfl) (by show 1 ≤ sizeLine; decide))) EvL_nil rfl) rfl) rfl) rfl) (by show 4 ≤ sizeLine; decide))
        (by rw [range_snoc]; simp only [σ1kj, way_snoc]; walk_at "mine:upd") ⟨rfl, rfl⟩ (by simp; walk_at "mine:om") rfl rfl rfl rfl rfl) ?_
      exact Exs_end s1k_of_kj rfl
    · rintro σ' rfl
      exact ⟨rfl, by rw [List.length_map, List.length_range]⟩
    · refine Exs_end s1_of_k ?_
      rw [List.range_succ, List.flatMap_append, hws]
      simp
  · rintro σ' rfl
    exact ⟨rfl, by rw [List.length_map, List.length_range]; rfl⟩
  refine Exs_step (Ex_assign_new (ds := []) (En_listd EvL_nil (by decide)) (.loc rfl) (by walk_at "mine:upd") (own_ne (by walk_at "mine:nokey")) rfl ⟨rfl, rfl⟩) ?_
  refine Exs_step (σ₁ := σH words ⟨initWays words, [], 0⟩) (Ex_assign Ev_int (.loc rfl) (by walk_at "mine:upd") rfl ⟨rfl, rfl⟩) ?_
  refine Exs_cons (R₁ := fun fl σ' => (fl = .next ∧ r = none) ∨ fl = .ret (.list (dRes r))) (Ex_while (fun n σ' => ∃ s, hrun words n s = some r ∧ HOk n s ∧ σ' = σH words s) N ⟨_, hr, ?_, rfl⟩ ?_) ?_ ?_
  · refine ⟨fun w hw' => ?_, (fun p hp => nomatch hp), ?_, by simp; walk_at "mine:om"⟩
    · simp only [initWays, List.mem_flatMap, List.mem_map, List.mem_range] at hw'
      obtain ⟨k, hk, j, hj, rfl⟩ := hw'
      obtain ⟨a1, a2, a3⟩ := getD_ok hw (k := j) (by walk_at "mine:om")
      obtain ⟨b1, b2, b3⟩ := getD_ok hw hk
      exact ⟨a1, b1, a2, b2, a3, b3, by show 1 + N ≤ _; walk_at "mine:om", by show 1 + N ≤ _; walk_at "mine:om"⟩
    · have h1 := tri_le words.length fun k j => (⟨words.getD j "", words.getD k "", [j], [k]⟩ : Way)
      have h2 : words.length * words.length ≤ 100 * 100 := Nat.mul_le_mul (by walk_at "mine:om") (by walk_at "mine:om")
      show (initWays words).length + _ ≤ _
      unfold initWays
      walk_at "mine:om"
  · rintro n σ' ⟨s, hrs, hok, rfl⟩
    cases n with
    | zero => cases hrs
    | succ n =>
    have lwy := hok.lw
    have lsn := hok.ls
    have hlenI : (((s.ways.map dW).length : Nat) : Int) = ((s.ways.length : Nat) : Int) := by simp
    refine .inl ⟨decide ((s.at_ : Int) < (s.ways.length : Int)), It_cmp (by walk_at "mine:nm") (by rw [← hlenI]; exact Ev_len (by walk_at "mine:nmo") rfl rfl (by simp; walk_at "mine:om")) (.lt _ _) rfl, fun hb => ?_, fun hb => ?_⟩
    rotate_left
    · have hge : s.ways[s.at_]? = none := List.getElem?_eq_none (by have := of_decide_eq_false hb; walk_at "mine:om")
      rw [hrun, hge] at hrs
      exact .inl ⟨rfl, (Option.some.inj hrs).symm⟩
    have hlt : s.at_ < s.ways.length := by have := of_decide_eq_true hb; walk_at "mine:om"
    have hgw : s.ways[s.at_]? = some s.ways[s.at_] := List.getElem?_eq_getElem hlt
    rw [hrun, hgw] at hrs
    have okw := hok.ws _ (List.getElem_mem hlt)
    generalize s.ways[s.at_] = w at hgw hrs okw
    dsimp only at hrs
    have hgd : (s.ways.map dW)[s.at_]? = some (.tuple [.str w.one, .str w.other, .list (dN w.first), .list (dN w.second)]) := by rw [List.getElem?_map, hgw]; rfl
    refine Exs_step (σ₁ := σW words s w) (Ex_unpack4 (Ev_item_own (j := s.at_) (by walk_at "mine:mem") rfl (by walk_at "mine:nm") ⟨by simpa using hlt, .inl rfl⟩ hgd (by simp; walk_at "mine:om") (fun _ _ => rfl)) (.loc rfl) (.loc rfl) (.loc rfl) (.loc rfl) (by walk_at "mine:upd") (by walk_at "mine:upd") (by walk_at "mine:upd") (by walk_at "mine:upd") hh ⟨rfl, rfl⟩ rfl rfl) ?_
    refine Exs_step (σ₁ := σW words ⟨s.ways, s.seen, s.at_ + 1⟩ w) (Ex_aug (by walk_at "mine:mem") Ev_int (.add _ _) (.loc rfl) (by walk_at "mine:upd") ⟨rfl, rfl⟩) ?_
    have okn : okS "" = true := by decide +kernel
    refine Exs_cons (R₁ := fun fl σ' => (fl = .next ∧ ∃ s', hrun words n s' = some r ∧ HOk n s' ∧ ∀ p ∈ σH words s', p ∈ σ') ∨ fl = .ret (.list (dRes r)))
      (Ex_if (b := hdS w.one == hdS w.other && !decide ((w.one, w.other) ∈ s.seen)) ?_ (fun hb => ?_) (fun hb => ?_)) (fun σ' q => ?_) (fun fl σ' hne q => ?_)
    · have e : (hdS w.one == hdS w.other && !decide ((w.one, w.other) ∈ s.seen)) = (PyData.eqv (.str (hdS w.one)) (.str (hdS w.other)) && (!((s.seen.map dP).any fun y => PyData.eqv y (dP (w.one, w.other))) && true)) := by rw [eqv_str, any_pairs, Bool.and_true]
      rw [e]
      exact It_and (It_cmp (Ev_sitem (by walk_at "mine:nm") Ev_int rfl (charAt_some okw.l1) (fun _ _ => rfl)) (Ev_sitem (by walk_at "mine:nm") Ev_int rfl (charAt_some okw.l2) (fun _ _ => rfl)) (.eq _ _ (deep_str (okS_hd okw.o1 okw.l1)) (deep_str (okS_hd okw.o2 okw.l2))) rfl) fun _ =>
        It_and (It_in_el (Ev_tuple (EvL_cons (by walk_at "mine:nm") (EvL_cons (by walk_at "mine:nm") EvL_nil rfl) rfl) (by show 2 ≤ sizeLine; decide)) (by walk_at "mine:nmo") (deep_pair okw.o1 okw.o2) (lay_pairs hok.ps) rfl) fun _ => It_and_nil
    · rw [if_pos hb] at hrs
      refine Exs_step (σ₁ := σW words ⟨s.ways, s.seen ++ [(w.one, w.other)], s.at_ + 1⟩ w) (Ex_append (d := dP (w.one, w.other)) (by walk_at "mine:mem") (Ev_tuple (EvL_cons (by walk_at "mine:nm") (EvL_cons (by walk_at "mine:nm") EvL_nil rfl) rfl) (by show 2 ≤ sizeLine; decide)) (by simp only [σW, pair_snoc]; walk_at "mine:upd") ⟨rfl, rfl⟩ (by simp; walk_at "mine:om") rfl rfl rfl rfl rfl) ?_
      have sl1 : ∀ p1 p2 p3 p4 k, Ev (calleeCx C (nameOf 13) (scopeOf 13) a cd L X h1 h2) (σW words ⟨s.ways, s.seen ++ [(w.one, w.other)], s.at_ + 1⟩ w) (.Subscript (.Name "one" p1) (.Slice (some (.Constant (.int 1) k p2)) none none p3) p4) (.str (tlS w.one)) := fun p1 p2 p3 p4 k =>
        Ev_slice_str (lo := some 1) (hi := none) (by walk_at "mine:nm") (show Ev _ _ _ _ from Ev_int) trivial (by have := okw.s1; walk_at "mine:om") (fun _ _ => by rfl)
      have sl2 : ∀ p1 p2 p3 p4 k, Ev (calleeCx C (nameOf 13) (scopeOf 13) a cd L X h1 h2) (σW words ⟨s.ways, s.seen ++ [(w.one, w.other)], s.at_ + 1⟩ w) (.Subscript (.Name "other" p1) (.Slice (some (.Constant (.int 1) k p2)) none none p3) p4) (.str (tlS w.other)) := fun p1 p2 p3 p4 k =>
        Ev_slice_str (lo := some 1) (hi := none) (by walk_at "mine:nm") (show Ev _ _ _ _ from Ev_int) trivial (by have := okw.s2; walk_at "mine:om") (fun _ _ => by rfl)
      refine Exs_cons (R₁ := fun fl σ' => (fl = .next ∧ ¬ ((tlS w.one == "") = true ∧ (tlS w.other == "") = true) ∧ σ' = σW words ⟨s.ways, s.seen ++ [(w.one, w.other)], s.at_ + 1⟩ w) ∨ fl = .ret (.list (dRes r)))
        (Ex_if (b := tlS w.one == "" && tlS w.other == "") ?_ (fun hc => ?_) (fun hc => ?_)) (fun σ' q => ?_) (fun fl σ' hne q => ?_)
      · have e : (tlS w.one == "" && tlS w.other == "") = (PyData.eqv (.str (tlS w.one)) (.str "") && (PyData.eqv (.str (tlS w.other)) (.str "") && true)) := by rw [eqv_str, eqv_str, Bool.and_true]
        rw [e]
        exact It_and (It_cmp (sl1 _ _ _ _ _) Ev_str (.eq _ _ (deep_str (okS_scut okw.o1)) (deep_str okn)) rfl) fun _ => It_and (It_cmp (sl2 _ _ _ _ _) Ev_str (.eq _ _ (deep_str (okS_scut okw.o2)) (deep_str okn)) rfl) fun _ => It_and_nil
      · rw [if_pos hc] at hrs
        have er := Option.some.inj hrs
        subst er
        exact Exs_cons (R₁ := fun fl _ => fl = .ret (.list (dRes (some w)))) (Ex_return (EnT.ev (En_listd (EvL_cons (by walk_at "mine:nm") (EvL_cons (by walk_at "mine:nm") EvL_nil rfl) rfl) (by show 2 ≤ sizeLine; decide))) rfl) (fun _ q => nomatch q) (fun _ _ _ q => .inr q)
      · exact Exs_nil (.inl ⟨rfl, by rw [← Bool.and_eq_true, hc]; decide, rfl⟩)
      · rcases q with ⟨_, hne, rfl⟩ | q
        · rw [if_neg (by rw [Bool.and_eq_true]; exact hne)] at hrs
          have hok' : HOk n ⟨s.ways ++ expand words w, s.seen ++ [(w.one, w.other)], s.at_ + 1⟩ := by
            have hel := expand_len words w lw
            refine ⟨fun v hv => ?_, fun p hp => ?_, by show (s.ways ++ expand words w).length + _ ≤ _; rw [List.length_append]; walk_at "mine:om", by show (s.seen ++ [(w.one, w.other)]).length + _ ≤ _; rw [List.length_append]; simp; walk_at "mine:om"⟩
            · rcases List.mem_append.mp hv with q | q
              · exact (hok.ws v q).less
              · exact expand_ok hw okw hne v q
            · rcases List.mem_append.mp hp with q | q
              · exact hok.ps p q
              · rw [List.mem_singleton] at q; subst q; exact ⟨okw.o1, okw.o2⟩
          have fin : ∀ σ'', (∃ ws, ws = s.ways ++ expand words w ∧ σ'' = σW words ⟨ws, s.seen ++ [(w.one, w.other)], s.at_ + 1⟩ w) → ∃ s', hrun words n s' = some r ∧ HOk n s' ∧ ∀ p ∈ σH words s', p ∈ σ'' := by
            rintro σ'' ⟨ws, rfl, rfl⟩
            exact ⟨_, hrs, hok', H_of_W⟩
          refine Exs_cons (R₁ := fun fl σ'' => fl = .next ∧ ∃ s', hrun words n s' = some r ∧ HOk n s' ∧ ∀ p ∈ σH words s', p ∈ σ'') (Ex_if (b := tlS w.one == "") (It_cmp (sl1 _ _ _ _ _) Ev_str (by rw [← eqv_str]; exact .eq _ _ (deep_str (okS_scut okw.o1)) (deep_str okn)) rfl) (fun hc => ?_) (fun hc => ?_)) (fun σ'' q => Exs_nil (.inl q)) (fun fl σ'' hne q => absurd q.1 hne)
          · have he : expand words w = (List.range words.length).map (expand1 words w) := by unfold expand; rw [if_pos hc]
            rw [he] at fin
            refine Exs_cons (R₁ := fun fl σ'' => fl = .next ∧ ∀ p ∈ σW words ⟨s.ways ++ (List.range words.length).map (expand1 words w), s.seen ++ [(w.one, w.other)], s.at_ + 1⟩ w, p ∈ σ'') (Ex_for (ds := dN (List.range words.length)) (Iter_range1 (Ev_lenS (EvT.el (by walk_at "mine:nm")) rfl rfl (by walk_at "mine:om")) rfl rfl (by walk_at "mine:om") hh) rfl
              (fun i σ'' => ∀ p ∈ σW words ⟨s.ways ++ (List.range i).map (expand1 words w), s.seen ++ [(w.one, w.other)], s.at_ + 1⟩ w, p ∈ σ'') (fun p hp => by simpa using hp) ?_ ?_ (fun _ => rfl)) (fun σ'' q => Exs_drop q.2 (Exs_nil ⟨rfl, fin _ ⟨_, rfl, rfl⟩⟩)) (fun fl σ'' hne q => absurd q.1 hne)
            · rintro k d σ'' hd hsub
              obtain ⟨hk, rfl⟩ := dN_at hd
              refine ⟨σWk words ⟨s.ways ++ (List.range k).map (expand1 words w), s.seen ++ [(w.one, w.other)], s.at_ + 1⟩ w k, Wk_upd hsub, ExT.to1 ?_⟩
              refine Exs_step (σ₁ := σWk words ⟨s.ways ++ (List.range (k + 1)).map (expand1 words w), s.seen ++ [(w.one, w.other)], s.at_ + 1⟩ w k) (Ex_append (d := dW (expand1 words w k)) (by walk_at "mine:mem")
                (Ev_tuple (EvL_cons (Ev_word lw hk (by walk_at "mine:mem") (by walk_at "mine:mem") rfl rfl) (EvL_cons (Ev_slice_str (lo := some 1) (hi := none) (x := w.other) (Ev_name (by walk_at "mine:mem") rfl) (show Ev _ _ _ _ from Ev_int) trivial (by have := okw.s2; walk_at "mine:om") (fun _ _ => by rfl))
                  (EvL_cons (d := .list (dN (w.first ++ [k]))) (by rw [dN_snoc]; exact EnT.ev (En_add (Ev_name (by walk_at "mine:mem") rfl) (EnT.ev (En_listd (EvL_cons (Ev_name (by walk_at "mine:mem") rfl) EvL_nil rfl) (by show 1 ≤ sizeLine; decide))) (by have := okw.f1; simp; walk_at "mine:om")))
                    (EvL_cons (Ev_name (by walk_at "mine:mem") rfl) EvL_nil rfl) rfl) rfl) rfl) (by show 4 ≤ sizeLine; decide))
                (by rw [range_snoc]; simp only [σWk, way_snoc]; walk_at "mine:upd") ⟨rfl, rfl⟩ (by simp; walk_at "mine:om") rfl rfl rfl rfl rfl) ?_
              exact Exs_nil W_of_Wk
            · intro σ'' hsub
              refine ⟨rfl, ?_⟩
              rwa [List.length_map, List.length_range] at hsub
          · refine Exs_cons (R₁ := fun fl σ'' => fl = .next ∧ ∃ s', hrun words n s' = some r ∧ HOk n s' ∧ ∀ p ∈ σH words s', p ∈ σ'') (Ex_if (b := tlS w.other == "") (It_cmp (sl2 _ _ _ _ _) Ev_str (by rw [← eqv_str]; exact .eq _ _ (deep_str (okS_scut okw.o2)) (deep_str okn)) rfl) (fun hc2 => ?_) (fun hc2 => ?_)) (fun σ'' q => Exs_nil q) (fun fl σ'' hne q => absurd q.1 hne)
            · have he : expand words w = (List.range words.length).map (expand2 words w) := by unfold expand; rw [if_neg (by rw [hc]; decide), if_pos hc2]
              rw [he] at fin
              refine Exs_cons (R₁ := fun fl σ'' => fl = .next ∧ ∀ p ∈ σW words ⟨s.ways ++ (List.range words.length).map (expand2 words w), s.seen ++ [(w.one, w.other)], s.at_ + 1⟩ w, p ∈ σ'') (Ex_for (ds := dN (List.range words.length)) (Iter_range1 (Ev_lenS (EvT.el (by walk_at "mine:nm")) rfl rfl (by walk_at "mine:om")) rfl rfl (by walk_at "mine:om") hh) rfl
                (fun i σ'' => ∀ p ∈ σW words ⟨s.ways ++ (List.range i).map (expand2 words w), s.seen ++ [(w.one, w.other)], s.at_ + 1⟩ w, p ∈ σ'') (fun p hp => by simpa using hp) ?_ ?_ (fun _ => rfl)) (fun σ'' q => Exs_drop q.2 (Exs_nil ⟨rfl, fin _ ⟨_, rfl, rfl⟩⟩)) (fun fl σ'' hne q => absurd q.1 hne)
              · rintro k d σ'' hd hsub
                obtain ⟨hk, rfl⟩ := dN_at hd
                refine ⟨σWk words ⟨s.ways ++ (List.range k).map (expand2 words w), s.seen ++ [(w.one, w.other)], s.at_ + 1⟩ w k, Wk_upd hsub, ExT.to1 ?_⟩
                refine Exs_step (σ₁ := σWk words ⟨s.ways ++ (List.range (k + 1)).map (expand2 words w), s.seen ++ [(w.one, w.other)], s.at_ + 1⟩ w k) (Ex_append (d := dW (expand2 words w k)) (by walk_at "mine:mem")
                  (Ev_tuple (EvL_cons (Ev_slice_str (lo := some 1) (hi := none) (x := w.one) (Ev_name (by walk_at "mine:mem") rfl) (show Ev _ _ _ _ from Ev_int) trivial (by have := okw.s1; walk_at "mine:om") (fun _ _ => by rfl)) (EvL_cons (Ev_word lw hk (by walk_at "mine:mem") (by walk_at "mine:mem") rfl rfl)
                    (EvL_cons (Ev_name (by walk_at "mine:mem") rfl) (EvL_cons (d := .list (dN (w.second ++ [k]))) (by rw [dN_snoc]; exact EnT.ev (En_add (Ev_name (by walk_at "mine:mem") rfl) (EnT.ev (En_listd (EvL_cons (Ev_name (by walk_at "mine:mem") rfl) EvL_nil rfl) (by show 1 ≤ sizeLine; decide))) (by have := okw.f2; simp; walk_at "mine:om")))
                      EvL_nil rfl) rfl) rfl) rfl) (by show 4 ≤ sizeLine; decide))
                  (by rw [range_snoc]; simp only [σWk, way_snoc]; walk_at "mine:upd") ⟨rfl, rfl⟩ (by simp; walk_at "mine:om") rfl rfl rfl rfl rfl) ?_
                exact Exs_nil W_of_Wk
              · intro σ'' hsub
                refine ⟨rfl, ?_⟩
                rwa [List.length_map, List.length_range] at hsub
            · have he : expand words w = [⟨tlS w.one, tlS w.other, w.first, w.second⟩] := by unfold expand; rw [if_neg (by rw [hc]; decide), if_neg (by rw [hc2]; decide)]
              rw [he] at fin
              refine Exs_step (σ₁ := σW words ⟨s.ways ++ [⟨tlS w.one, tlS w.other, w.first, w.second⟩], s.seen ++ [(w.one, w.other)], s.at_ + 1⟩ w) (Ex_append (d := dW ⟨tlS w.one, tlS w.other, w.first, w.second⟩) (by walk_at "mine:mem")
                (Ev_tuple (EvL_cons (sl1 _ _ _ _ _) (EvL_cons (sl2 _ _ _ _ _) (EvL_cons (by walk_at "mine:nm") (EvL_cons (by walk_at "mine:nm") EvL_nil rfl) rfl) rfl) rfl) (by show 4 ≤ sizeLine; decide))
                (by simp only [σW, way_snoc]; walk_at "mine:upd") ⟨rfl, rfl⟩ (by simp; walk_at "mine:om") rfl rfl rfl rfl rfl) ?_
              exact Exs_nil ⟨rfl, fin _ ⟨_, rfl, rfl⟩⟩
        · cases q
      · rcases q with ⟨rfl, _⟩ | q
        · exact absurd rfl hne
        · exact .inr q
    · rw [if_neg (by rw [hb]; decide)] at hrs
      exact Exs_nil (.inl ⟨rfl, _, hrs, ⟨fun w hw => (hok.ws w hw).less, hok.ps, by show s.ways.length + _ ≤ _; walk_at "mine:om", by show s.seen.length + _ ≤ _; walk_at "mine:om"⟩, H_of_W⟩)
    · rcases q with ⟨_, s', a1, a2, a3⟩ | q
      · exact Exs_end a3 ⟨n, Nat.lt_succ_self _, s', a1, a2, rfl⟩
      · cases q
    · rcases q with ⟨rfl, _⟩ | q
      · exact absurd rfl hne
      · subst q; exact .inr rfl
  · rintro σ' (⟨_, rfl⟩ | q)
    · exact Exs_cons (R₁ := fun fl _ => fl = .ret (.list (dRes none))) (Ex_return (EnT.ev (En_listd EvL_nil (by decide))) rfl) (fun _ q => nomatch q) (fun _ _ _ q => q)
    · cases q
  · rintro fl σ' hne (⟨rfl, _⟩ | q)
    · exact absurd rfl hne
    · exact q
end
end Mine
end
section
open PySem PySem.Spec PySem.Calls PyProof.Rows PySem.W PySem.Builtin PySem.Builtin.Str
namespace Mine
noncomputable def readStep (st : List Str × Str) (row : Str) : List Str × Str :=
  if row == "." then (st.1 ++ [st.2], "") else if scut row none (some 1) == "." then (st.1, st.2 ++ (scut row (some 1) none ++ "\n")) else (st.1, st.2 ++ (row ++ "\n"))
noncomputable def readRows (rows : List Str) : List Str × Str := rows.foldl readStep ([], "")
noncomputable def rowsOf (stream : Str) : List Str := (Txt.split stream "\r\n").dropLast
noncomputable def readL (stream : Str) : List Str := (readRows (rowsOf stream)).1
section
variable {C : Cx}
noncomputable def σR (st : Str) (ms : List Str) (m : Str) : Loc := [("stream", .val (.str st)), ("mails", .own (dS ms)), ("mail", .val (.str m))]
noncomputable def σRr (st : Str) (ms : List Str) (m row : Str) : Loc := [("stream", .val (.str st)), ("mails", .own (dS ms)), ("mail", .val (.str m)), ("row", .val (.str row))]
theorem R_of_Rr {st : Str} {ms : List Str} {m row : Str} : ∀ p ∈ σR st ms m, p ∈ σRr st ms m row := by walk_at "mine:subs"
theorem read_body {st : Str} (hl : st.length ≤ 100000) (hp : (partsBetween st (occurrences st "\r\n" 0 st.length (st.length + 1)) ("\r\n" : Str).length).length ≤ 100000)
    (hn : (Txt.split st "\r\n").length ≤ 10000) (hr : ∀ r ∈ rowsOf st, r.length ≤ 100 ∧ okS r = true ∧ Txt.contains r "\r" = false ∧ Txt.contains r "\n" = false ∧ okS (scut r none (some 1)) = true) (hh : C.A.handled = none)
    {a : Addr} {cd : Value} {L : Addr} {X : List Addr} {h1 : ∀ b ∈ X, b ∉ L :: C.F} {h2 : ∀ p ∈ cellsFrom (L + 1) (scopeOf 14).names [], p.2 ∉ X} :
    Exs (calleeCx C (nameOf 14) (scopeOf 14) a cd L X h1 h2) [("stream", .val (.str st))] (bodyOf 14) (fun fl _ => fl = .retOwn (dS (readL st))) := by
  have hsl : sizeLine = 16777216 := by decide
  have hn' : (rowsOf st).length ≤ 10000 := by unfold rowsOf; rw [List.length_dropLast]; walk_at "mine:om"
  refine Exs_step (Ex_assign_new (ds := []) (En_listd EvL_nil (by decide)) (.loc rfl) (by walk_at "mine:upd") (own_ne (by walk_at "mine:nokey")) rfl ⟨rfl, rfl⟩) ?_
  refine Exs_step (Ex_assign Ev_str (.loc rfl) (by walk_at "mine:upd") rfl ⟨rfl, rfl⟩) ?_
  refine Exs_cons (R₁ := fun fl σ' => fl = .next ∧ σ' = σR st (readL st) (readRows (rowsOf st)).2)
    (Ex_for (ds := dS (rowsOf st)) (Iter_list (EnT.ev ?_) hh) rfl (fun i σ' => ∃ ms m, readRows ((rowsOf st).take i) = (ms, m) ∧ ms.length ≤ i ∧ m.length ≤ 200 * i ∧ σ' = σR st ms m) ⟨[], "", by simp [readRows], by simp, by decide, rfl⟩ ?_ ?_ (fun _ => rfl)) (fun σ' q => ?_) (fun fl σ' hne q => absurd q.1 hne)
  · have e : dS (rowsOf st) = cut (dS (Txt.split st "\r\n")) none (some (-1)) := by rw [cut_to_last]; simp [rowsOf]
    rw [e]
    refine En_slice_call (El_split (by walk_at "mine:nm") Ev_str rfl rfl rfl (by decide) (by walk_at "mine:om") (by walk_at "mine:om")) trivial (show Ev _ _ _ _ from Ev_neg Ev_int) (by rw [List.length_map]; walk_at "mine:om")
  · rintro i d σ' hd ⟨ms, m, hst, q1, q2, rfl⟩
    have hi : i < (rowsOf st).length := by simpa using (List.getElem?_eq_some_iff.mp hd).1
    have hd' : d = .str (rowsOf st)[i] := by
      rw [List.getElem?_map, List.getElem?_eq_getElem hi] at hd
      exact (Option.some.inj hd).symm
    subst hd'
    obtain ⟨r1, r2, r3, r4, r5⟩ := hr _ (List.getElem_mem hi)
    generalize hrow : (rowsOf st)[i] = row at r1 r2 r3 r4 r5
    have next : readRows ((rowsOf st).take (i + 1)) = readStep (ms, m) row := by
      rw [List.take_succ_eq_append_getElem hi, hrow]
      unfold readRows at hst ⊢
      rw [List.foldl_append, hst]; rfl
    refine ⟨σRr st ms m row, by walk_at "mine:upd", ExT.to1 ?_⟩
    have okdot : okS "." = true := by decide +kernel
    have lnl : ("\n" : Str).length = 1 := by decide +kernel
    refine Exs_cons (R₁ := fun fl σ' => fl = .next ∧ σ' = σRr st ms m row) (Ex_if (b := false) ?_ (fun q => nomatch q) (fun _ => Exs_nil ⟨rfl, rfl⟩)) (fun σ' q => q.2 ▸ ?_) (fun fl σ' hne q => absurd q.1 hne)
    · exact It_or (a := false) (It_cmp Ev_str (by walk_at "mine:nm") (by have := CmpRes.ins row "\r"; rw [r3] at this; exact this) rfl) fun _ => It_or (a := false) (It_cmp Ev_str (by walk_at "mine:nm") (by have := CmpRes.ins row "\n"; rw [r4] at this; exact this) rfl) fun _ => It_or_nil
    · refine Exs_cons (R₁ := fun fl σ' => fl = .next ∧ σ' = σRr st (readStep (ms, m) row).1 (readStep (ms, m) row).2 row ∧ (readStep (ms, m) row).1.length ≤ i + 1 ∧ (readStep (ms, m) row).2.length ≤ 200 * (i + 1)) (Ex_if (b := row == ".") (It_cmp (by walk_at "mine:nm") Ev_str (by rw [← eqv_str]; exact .eq _ _ (deep_str r2) (deep_str okdot)) rfl) (fun hb => ?_) (fun hb => ?_)) (fun σ' q => ?_) (fun fl σ' hne q => absurd q.1 hne)
      · have e : readStep (ms, m) row = (ms ++ [m], ("" : Str)) := by unfold readStep; rw [if_pos hb]
        rw [e]
        have g : dS ms ++ [PyData.str m] = dS (ms ++ [m]) := by simp
        refine Exs_step (σ₁ := σRr st (ms ++ [m]) m row) (Ex_append (by walk_at "mine:mem") (by walk_at "mine:nm") (by rw [g]; walk_at "mine:upd") ⟨rfl, rfl⟩ (by simp; walk_at "mine:om") rfl rfl rfl rfl rfl) ?_
        exact Exs_step (σ₁ := σRr st (ms ++ [m]) "" row) (Ex_assign Ev_str (.loc rfl) (by walk_at "mine:upd") rfl ⟨rfl, rfl⟩) (Exs_nil ⟨rfl, rfl, by simp; walk_at "mine:om", by show 0 ≤ _; walk_at "mine:om"⟩)
      · refine Exs_cons (R₁ := fun fl σ' => fl = .next ∧ σ' = σRr st (readStep (ms, m) row).1 (readStep (ms, m) row).2 row ∧ (readStep (ms, m) row).1.length ≤ i + 1 ∧ (readStep (ms, m) row).2.length ≤ 200 * (i + 1)) (Ex_if (b := scut row none (some 1) == ".") (It_cmp (Ev_slice_str (lo := none) (hi := some 1) (by walk_at "mine:nm") trivial (show Ev _ _ _ _ from Ev_int) (by walk_at "mine:om") (fun _ _ => by rfl)) Ev_str (by rw [← eqv_str]; exact .eq _ _ (deep_str r5) (deep_str okdot)) rfl) (fun hc => ?_) (fun hc => ?_)) (fun σ' q => Exs_nil q) (fun fl σ' _ q => q)
        · have e : readStep (ms, m) row = (ms, m ++ (scut row (some 1) none ++ "\n")) := by unfold readStep; rw [if_neg (by rw [hb]; decide), if_pos hc]
          have l1 := scut_le row (some 1) none
          have l2 : (scut row (some 1) none ++ "\n" : Str).length = (scut row (some 1) none).length + 1 := by rw [length_app, lnl]
          have l3 : (m ++ (scut row (some 1) none ++ "\n") : Str).length = m.length + ((scut row (some 1) none).length + 1) := by rw [length_app, l2]
          rw [e]
          exact Exs_step (σ₁ := σRr st ms (m ++ (scut row (some 1) none ++ "\n")) row) (Ex_aug (by walk_at "mine:mem") (Ev_bin (Ev_slice_str (lo := some 1) (hi := none) (by walk_at "mine:nm") (show Ev _ _ _ _ from Ev_int) trivial (by walk_at "mine:om") (fun _ _ => by rfl)) Ev_str (.cat _ _ (by rw [lnl]; walk_at "mine:om"))) (.cat _ _ (by rw [l2]; walk_at "mine:om")) (.loc rfl) (by walk_at "mine:upd") ⟨rfl, rfl⟩) (Exs_nil ⟨rfl, rfl, by show ms.length ≤ i + 1; walk_at "mine:om", by rw [l3]; walk_at "mine:om"⟩)
        · have e : readStep (ms, m) row = (ms, m ++ (row ++ "\n")) := by unfold readStep; rw [if_neg (by rw [hb]; decide), if_neg (by rw [hc]; decide)]
          have l2 : (row ++ "\n" : Str).length = row.length + 1 := by rw [length_app, lnl]
          have l3 : (m ++ (row ++ "\n") : Str).length = m.length + (row.length + 1) := by rw [length_app, l2]
          rw [e]
          exact Exs_step (σ₁ := σRr st ms (m ++ (row ++ "\n")) row) (Ex_aug (by walk_at "mine:mem") (Ev_bin (by walk_at "mine:nm") Ev_str (.cat _ _ (by rw [lnl]; walk_at "mine:om"))) (.cat _ _ (by rw [l2]; walk_at "mine:om")) (.loc rfl) (by walk_at "mine:upd") ⟨rfl, rfl⟩) (Exs_nil ⟨rfl, rfl, by show ms.length ≤ i + 1; walk_at "mine:om", by rw [l3]; walk_at "mine:om"⟩)
      · obtain ⟨_, rfl, b1, b2⟩ := q
        exact Exs_end R_of_Rr ⟨_, _, next, b1, b2, rfl⟩
  · rintro σ' ⟨ms, m, hst, q1, q2, rfl⟩
    have e : (rowsOf st).take (dS (rowsOf st)).length = rowsOf st := by rw [List.length_map, List.take_length]
    rw [e] at hst
    exact ⟨rfl, by unfold readL; rw [hst]⟩
  · obtain ⟨_, rfl⟩ := q
    exact Exs_cons (R₁ := fun fl _ => fl = .retOwn (dS (readL st))) (Ex_return_own (by walk_at "mine:mem") rfl rfl) (fun _ q => nomatch q) (fun _ _ _ q => q)
end
end Mine
end
section
open PySem PySem.Spec PySem.Calls PyProof.Rows PySem.W PySem.Builtin PySem.Builtin.Str
namespace Mine
noncomputable def lostP (due got : List Str) (k : Nat) : Bool := decide (((got.count (due.getD k "") : Nat) : Int) < (((due.drop k).count (due.getD k "") : Nat) : Int))
noncomputable def toldP (due got : List Str) (k : Nat) : Bool := decide (((due.count (got.getD k "") : Nat) : Int) < (((got.take (k + 1)).count (got.getD k "") : Nat) : Int))
noncomputable def bagLost (due got : List Str) : List Str := (((List.range due.length).map fun i => due.length - 1 - i).filter (lostP due got)).map fun k => due.getD k ""
noncomputable def bagTold (due got : List Str) : List Str := ((List.range got.length).filter (toldP due got)).map fun k => got.getD k ""
section
variable {C : Cx}
theorem bags_body {due got : List Str} (hx : due.length < 10000) (hy : got.length < 10000) (hh : C.A.handled = none)
    {a : Addr} {cd : Value} {L : Addr} {X : List Addr} {h1 : ∀ b ∈ X, b ∉ L :: C.F} {h2 : ∀ p ∈ cellsFrom (L + 1) (scopeOf 15).names [], p.2 ∉ X} :
    Exs (calleeCx C (nameOf 15) (scopeOf 15) a cd L X h1 h2) [("due", .val (.list (dS due))), ("got", .val (.list (dS got)))] (bodyOf 15)
      (fun fl _ => fl = .ret (.tuple [.list (dS (bagLost due got)), .list (dS (bagTold due got))])) := by
  have hsl : sizeLine = 16777216 := by decide
  have itd : ∀ (C₂ : Cx) (σ : Loc) k p1 p2 p3, k < due.length → (("k", Slot.val (.int (k : Int))) : Str × Slot) ∈ σ → (("due", Slot.val (.list (dS due))) : Str × Slot) ∈ σ → Ev C₂ σ (.Subscript (.Name "due" p1) (.Name "k" p2) p3) (.str (due.getD k "")) := fun C₂ σ k p1 p2 p3 hk m1 m2 =>
    Ev_item (j := k) (Ev_name m2 rfl) (Ev_name m1 rfl) ⟨by simpa using hk, .inl rfl⟩ (dS_get hk) (by simp; walk_at "mine:om") (fun _ _ => rfl)
  have itg : ∀ (C₂ : Cx) (σ : Loc) k p1 p2 p3, k < got.length → (("k", Slot.val (.int (k : Int))) : Str × Slot) ∈ σ → (("got", Slot.val (.list (dS got))) : Str × Slot) ∈ σ → Ev C₂ σ (.Subscript (.Name "got" p1) (.Name "k" p2) p3) (.str (got.getD k "")) := fun C₂ σ k p1 p2 p3 hk m1 m2 =>
    Ev_item (j := k) (Ev_name m2 rfl) (Ev_name m1 rfl) ⟨by simpa using hk, .inl rfl⟩ (dS_get hk) (by simp; walk_at "mine:om") (fun _ _ => rfl)
  refine Exs_step (σ₁ := [("due", .val (.list (dS due))), ("got", .val (.list (dS got))), ("lost", .val (.list (dS (bagLost due got))))])
    (Ex_assign_comp (σc := [("due", .val (.list (dS due))), ("got", .val (.list (dS got)))]) (ds := (List.range due.length).map fun i : Nat => PyData.int ((due.length : Int) - 1 - (i : Int))) (pd := onNat (lostP due got)) (f := toStr fun k => due.getD k "")
      (Iter_range3 ?_ rfl rfl rfl rfl (by walk_at "mine:om") hh) (by walk_at "mine:compat") (by walk_at "mine:sees") ⟨?_, ?_, ?_, ?_⟩ (by simp; walk_at "mine:om") rfl rfl (by rw [down_comp]; walk_at "mine:upd") ⟨rfl, rfl⟩ (fun _ => rfl)) ?_
  · exact EvL_cons (Ev_bin (Ev_lenS (EvT.el (by walk_at "mine:nm")) rfl rfl (by walk_at "mine:om")) Ev_int (.sub _ _)) (EvL_cons (Ev_neg Ev_int) (EvL_cons (Ev_neg Ev_int) EvL_nil rfl) rfl) rfl
  · simp [leaf]
  · intro d hd _
    obtain ⟨k, _, rfl⟩ := List.mem_map.mp hd
    rfl
  · intro A d hd
    obtain ⟨k, hk, rfl⟩ := List.mem_map.mp hd
    rw [List.mem_range] at hk
    have e : (due.length : Int) - 1 - (k : Int) = ((due.length - 1 - k : Nat) : Int) := by walk_at "mine:om"
    rw [e]
    have hk' : due.length - 1 - k < due.length := by walk_at "mine:om"
    refine Tests_one ?_
    show It _ _ _ (lostP due got (due.length - 1 - k))
    refine It_cmp (Ev_lcount (xs := due.drop (due.length - 1 - k)) ?_ (itd _ _ _ _ _ _ hk' (by walk_at "mine:mem") (by walk_at "mine:mem")) rfl rfl rfl) (Ev_lcount (by walk_at "mine:nm") (itd _ _ _ _ _ _ hk' (by walk_at "mine:mem") (by walk_at "mine:mem")) rfl rfl rfl) (.gt _ _) rfl
    have c1 : dS (due.drop (due.length - 1 - k)) = cut (dS due) (some ((due.length - 1 - k : Nat) : Int)) none := by rw [cut_from (by simp; walk_at "mine:om")]; simp
    show Ev _ _ _ (.list (dS (due.drop (due.length - 1 - k))))
    rw [c1]
    exact EnT.ev (En_slice (by walk_at "mine:nm") (show Ev _ _ _ _ by walk_at "mine:nm") trivial (by simp; walk_at "mine:om") (fun _ _ => by rfl))
  · intro A d hd _
    obtain ⟨k, hk, rfl⟩ := List.mem_map.mp hd
    rw [List.mem_range] at hk
    have e : (due.length : Int) - 1 - (k : Int) = ((due.length - 1 - k : Nat) : Int) := by walk_at "mine:om"
    rw [e]
    exact itd _ _ _ _ _ _ (by walk_at "mine:om") (by walk_at "mine:mem") (by walk_at "mine:mem")
  · refine Exs_cons (R₁ := fun fl _ => fl = .ret (.tuple [.list (dS (bagLost due got)), .list (dS (bagTold due got))])) (Ex_return (Ev_tuple (EvL_cons (by walk_at "mine:nm") (EvL_cons (d := .list (dS (bagTold due got))) ?_ EvL_nil rfl) rfl) (by show 2 ≤ sizeLine; decide)) rfl) (fun _ q => nomatch q) (fun _ _ _ q => q)
    have e : dS (bagTold due got) = ((dN (List.range got.length)).filter (onNat (toldP due got))).map (toStr fun k => got.getD k "") := (dN_comp _ _ _).symm
    rw [e]
    refine EnT.ev (En_comp (σc := [("due", .val (.list (dS due))), ("got", .val (.list (dS got)))]) (Iter_range1 (Ev_lenS (EvT.el (by walk_at "mine:nm")) rfl rfl (by walk_at "mine:om")) rfl rfl (by walk_at "mine:om") hh) (by walk_at "mine:compat") (by walk_at "mine:sees") ⟨?_, ?_, ?_, ?_⟩ (by simp; walk_at "mine:om") (fun _ => rfl))
    · simp [leaf]
    · intro d hd _
      obtain ⟨k, _, rfl⟩ := List.mem_map.mp hd
      rfl
    · intro A d hd
      obtain ⟨k, hk, rfl⟩ := List.mem_map.mp hd
      rw [List.mem_range] at hk
      refine Tests_one ?_
      show It _ _ _ (toldP due got k)
      refine It_cmp (Ev_lcount (xs := got.take (k + 1)) ?_ (itg _ _ _ _ _ _ hk (by walk_at "mine:mem") (by walk_at "mine:mem")) rfl rfl rfl) (Ev_lcount (by walk_at "mine:nm") (itg _ _ _ _ _ _ hk (by walk_at "mine:mem") (by walk_at "mine:mem")) rfl rfl rfl) (.gt _ _) rfl
      have c1 : dS (got.take (k + 1)) = cut (dS got) none (some ((k + 1 : Nat) : Int)) := by rw [cut_to]; simp
      show Ev _ _ _ (.list (dS (got.take (k + 1))))
      rw [c1]
      exact EnT.ev (En_slice (by walk_at "mine:nm") trivial (show Ev _ _ _ _ from Ev_bin (by walk_at "mine:nm") Ev_int (.add _ _)) (by simp; walk_at "mine:om") (fun _ _ => by rfl))
    · intro A d hd _
      obtain ⟨k, hk, rfl⟩ := List.mem_map.mp hd
      rw [List.mem_range] at hk
      exact itg _ _ _ _ _ _ hk (by walk_at "mine:mem") (by walk_at "mine:mem")
end
end Mine
end
section
open PySem PySem.Spec PySem.Calls PyProof.Rows PySem.W PySem.Builtin PySem.Builtin.Str
set_option maxHeartbeats 4000000
namespace Mine
noncomputable def aloneP (xs ys : List Str) (k : Nat) : Bool :=
  !decide (xs.getD k "" ∈ ys) && (decide ((ys.getLastD "").cps.toList < (xs.getD k "").cps.toList) || !decide (xs.getD k "" ∈ xs.take k))
noncomputable def aloneL (xs ys : List Str) : List Str := ((List.range xs.length).filter (aloneP xs ys)).map fun k => xs.getD k ""
section
variable {C : Cx} {a : Addr} {cd : Value} {L : Addr} {X : List Addr}
theorem alone_body {xs ys : List Str} (hy : ys ≠ []) (hx : xs.length < 10000) (hyl : ys.length < 10000) (ox : ∀ x ∈ xs, okS x = true) (oy : ∀ y ∈ ys, okS y = true) (hh : C.A.handled = none) {h1 : ∀ b ∈ X, b ∉ L :: C.F} {h2 : ∀ p ∈ cellsFrom (L + 1) (scopeOf 16).names [], p.2 ∉ X} :
    Exs (calleeCx C (nameOf 16) (scopeOf 16) a cd L X h1 h2) [("one", .val (.list (dS xs))), ("other", .val (.list (dS ys)))] (bodyOf 16) (fun fl _ => fl = .ret (.list (dS (aloneL xs ys)))) := by
  have hsl : sizeLine = 16777216 := by decide
  refine Exs_cons (R₁ := fun fl _ => fl = .ret (.list (dS (aloneL xs ys)))) (Ex_return (d := .list (dS (aloneL xs ys))) ?_ rfl) (fun _ h => nomatch h) (fun _ _ _ h => h)
  have e : dS (aloneL xs ys) = ((dN (List.range xs.length)).filter fun d => match d with | .int i => aloneP xs ys i.toNat | _ => false).map fun d => match d with | .int i => .str (xs.getD i.toNat "") | _ => .none := by
    simp only [dN, dS, aloneL, List.filter_map, List.map_map]
    rfl
  rw [e]
  refine EnT.ev (En_comp (cl := [("other", L + 1 + 1), ("one", L + 1)]) (σc := [("one", .val (.list (dS xs))), ("other", .val (.list (dS ys)))]) (Iter_range1 ?_ rfl rfl ?_ hh) ⟨by rfl, by decide, by rfl, by decide, by rfl⟩ ?_ ⟨?_, ?_, ?_, ?_⟩ ?_ ?_)
  · have : ((xs.length : Nat) : Int) = (((dS xs).length : Nat) : Int) := by simp
    rw [this]
    exact Ev_len (EvT.el (by walk_at "mine:nm")) rfl rfl (by simp; walk_at "mine:om")
  · walk_at "mine:om"
  · intro p hp
    refine ⟨hp, ?_⟩
    rcases List.mem_cons.mp hp with rfl | hp
    · exact ⟨⟨_, rfl, rfl⟩, by show ¬ (some NameKind.cell = some NameKind.local); decide, fun _ => .inl rfl⟩
    · rcases List.mem_cons.mp hp with rfl | hp
      · exact ⟨⟨_, rfl, rfl⟩, by show ¬ (some NameKind.cell = some NameKind.local); decide, fun _ => .inl rfl⟩
      · cases hp
  · simp [dN, leaf]
  · intro d hd _
    simp only [dN, List.mem_map] at hd
    obtain ⟨k, _, rfl⟩ := hd
    rfl
  · intro A d hd
    simp only [dN, List.mem_map, List.mem_range] at hd
    obtain ⟨k, hk, rfl⟩ := hd
    have hgk : (dS xs)[k]? = some (.str (xs.getD k "")) := by
      rw [List.getElem?_map, List.getElem?_eq_getElem hk, List.getD_eq_getElem?_getD, List.getElem?_eq_getElem hk]; rfl
    have it : ∀ (C₂ : Cx) p1 p2 p3, Ev C₂ [("k", .val (.int (k : Int))), ("one", .val (.list (dS xs))), ("other", .val (.list (dS ys)))] (.Subscript (.Name "one" p1) (.Name "k" p2) p3) (.str (xs.getD k "")) := fun C₂ p1 p2 p3 =>
      Ev_item (j := k) (by walk_at "mine:nm") (by walk_at "mine:nm") ⟨by simpa using hk, .inl rfl⟩ hgk (by simp; walk_at "mine:om") (fun _ _ => rfl)
    have okk : okS (xs.getD k "") = true := by
      rw [List.getD_eq_getElem?_getD, List.getElem?_eq_getElem hk]; exact ox _ (List.getElem_mem hk)
    refine Tests_one ?_
    show It _ _ _ (aloneP xs ys k)
    have e2 : aloneP xs ys k = ((!(dS ys).any fun y => PyData.eqv y (.str (xs.getD k ""))) && ((decide ((ys.getLastD "").cps.toList < (xs.getD k "").cps.toList) || ((!(dS (xs.take k)).any fun y => PyData.eqv y (.str (xs.getD k ""))) || false)) && true)) := by
      rw [any_strs, any_strs, Bool.or_false, Bool.and_true]; rfl
    rw [e2]
    refine It_and (It_cmp (it _ _ _ _) (by walk_at "mine:nm") (.notinl _ _ (deep_str okk) (layAll_strs oy)) (by rfl)) fun _ => It_and (It_or (It_cmp (it _ _ _ _) ?_ (.gts _ _) (by rfl)) fun _ => It_or (It_cmp (it _ _ _ _) ?_ (.notinl _ _ (deep_str okk) (layAll_strs fun x hx => ox x (List.mem_of_mem_take hx))) (by rfl)) fun _ => It_or_nil) fun _ => It_and_nil
    · refine Ev_item (i := -1) (j := ys.length - 1) (by walk_at "mine:nm") (Ev_neg Ev_int) ⟨?_, .inr ?_⟩ ?_ ?_ (fun _ _ => rfl)
      · have := List.length_pos_iff.mpr hy; simp; walk_at "mine:om"
      · have := List.length_pos_iff.mpr hy; simp; walk_at "mine:om"
      · have := List.length_pos_iff.mpr hy
        rw [List.getElem?_map, List.getElem?_eq_getElem (by walk_at "mine:om"), List.getLastD_eq_getLast?, List.getLast?_eq_getElem?, List.getElem?_eq_getElem (by walk_at "mine:om")]; rfl
      · simp; walk_at "mine:om"
    · have e3 : dS (xs.take k) = cut (dS xs) none (some (k : Int)) := by
        simp [cut, clipAt]; walk_at "mine:om"
      rw [e3]
      exact EnT.ev (En_slice (by walk_at "mine:nm") trivial (show Ev _ _ _ _ by walk_at "mine:nm") (by simp; walk_at "mine:om") (fun _ _ => by rfl))
  · intro A d hd _
    simp only [dN, List.mem_map, List.mem_range] at hd
    obtain ⟨k, hk, rfl⟩ := hd
    have hgk : (dS xs)[k]? = some (.str (xs.getD k "")) := by
      rw [List.getElem?_map, List.getElem?_eq_getElem hk, List.getD_eq_getElem?_getD, List.getElem?_eq_getElem hk]; rfl
    exact Ev_item (j := k) (by walk_at "mine:nm") (by walk_at "mine:nm") ⟨by simpa using hk, .inl rfl⟩ hgk (by simp; walk_at "mine:om") (fun _ _ => rfl)
  · simp; walk_at "mine:om"
  · intro v; rfl
end
end Mine
end
section
open PySem PySem.Spec PySem.Calls PyProof.Rows PySem.W PySem.Builtin PySem.Builtin.Str
namespace Mine
noncomputable def DefAt (B : Heap) (a : Addr) (i : Nat) : Prop := ∃ pm cd doc, FunAt B a (nameOf i) (paramsOf i) (bodyOf i) (scopeOf i) pm cd doc
theorem DefAt.any {B : Heap} {a : Addr} {i : Nat} (h : DefAt B a i) : ∃ name params body scope pm cd doc, FunAt B a name params body scope pm cd doc := let ⟨pm, cd, doc, f⟩ := h; ⟨_, _, _, _, pm, cd, doc, f⟩
structure Room (C : Cx) (k : Nat) : Prop where
  depth : C.A.depth + k < recursionLimit
  units : C.A.units + 300 + 3 * k < cLine
  frame : C.F ≠ []
  handled : C.A.handled = none
  outer : Outer C
section
variable {C : Cx} {k : Nat}
theorem Room.one (r : Room C (k + 1)) : C.A.depth + 1 < recursionLimit ∧ C.A.units + 303 < cLine := ⟨by have := r.depth; walk_at "mine:om", by have := r.units; walk_at "mine:om"⟩
theorem alone_ok {xs ys : List Str} (r : Room C (k + 1)) (d : DefAt C.B 105 16) (hy : ys ≠ []) (hx : xs.length < 10000) (hyl : ys.length < 10000) (ox : ∀ x ∈ xs, okS x = true) (oy : ∀ y ∈ ys, okS y = true) :
    FnOk C 105 [.list (dS xs), .list (dS ys)] (.list (dS (aloneL xs ys))) :=
  let ⟨pm, cd, doc, f⟩ := d
  FnOk.of_body f (enter16 pm cd doc) r.one.1 r.one.2 r.frame rfl (fun fl σ' h => h) fun L X h1 h2 => alone_body hy hx hyl ox oy r.handled
theorem bags_ok {due got : List Str} (r : Room C (k + 1)) (d : DefAt C.B 100 15) (hx : due.length < 10000) (hy : got.length < 10000) :
    FnOk C 100 [.list (dS due), .list (dS got)] (.tuple [.list (dS (bagLost due got)), .list (dS (bagTold due got))]) :=
  let ⟨pm, cd, doc, f⟩ := d
  FnOk.of_body f (enter15 pm cd doc) r.one.1 r.one.2 r.frame rfl (fun fl σ' h => h) fun L X h1 h2 => bags_body hx hy r.handled
theorem sld_fn {xs ys : List Str} (r : Room C (k + 1)) (d : DefAt C.B 38 2) (ox : ∀ x ∈ xs, okS x = true) (oy : ∀ y ∈ ys, okS y = true) (hx : xs.length < 100000) (hy : ys.length < 100000) :
    FnOk C 38 [.list (dS xs), .list (dS ys)] (.tuple [.list (dS (sld xs ys).1), .list (dS (sld xs ys).2)]) :=
  let ⟨pm, cd, doc, f⟩ := d
  FnOk.of_body f (enter2 pm cd doc) r.one.1 r.one.2 r.frame rfl (fun fl σ' h => h) fun L X h1 h2 => sld_body r.outer r.handled ox oy hx hy
theorem hands_ok {words : List Str} {N : Nat} {w : Option Way} (r : Room C (k + 1)) (d : DefAt C.B 88 13) (hw : WordsOk words) (hr : hrun words N ⟨initWays words, [], 0⟩ = some w) (hN : N ≤ 50000) :
    FnOk C 88 [.list (dS words)] (.list (dRes w)) :=
  let ⟨pm, cd, doc, f⟩ := d
  FnOk.of_body f (enter13 pm cd doc) r.one.1 r.one.2 r.frame rfl (fun fl σ' h => h) fun L X h1 h2 => hands_body hw hr hN r.handled
structure RestsIs (words others ys : List Str) : Prop where
  o : WordsOk' others
  l : (dedup (restsOf words others)).length < 64
  is : ∀ zs : List Str, zs.Perm (dedup (restsOf words others)) → sortedS zs = true → zs = ys
  ys : SetOk ys
theorem rests_ok {words others ys : List Str} (r : Room C (k + 1)) (d : DefAt C.B 76 11) (hw : WordsOk' words) (h : RestsIs words others ys) :
    FnOk C 76 [.list (dS words), .list (dS others)] (.list (dS ys)) :=
  let ⟨pm, cd, doc, f⟩ := d
  FnOk.of_body f (enter11 pm cd doc) r.one.1 r.one.2 r.frame rfl (fun fl σ' h => h) fun L X h1 h2 => rests_body hw h.o h.l h.is r.handled
theorem Room.callee {name : Str} {scope : Scope} {a : Addr} {cd : Value} {L : Addr} {X : List Addr} {h1 : ∀ b ∈ X, b ∉ L :: C.F} {h2 : ∀ p ∈ cellsFrom (L + 1) scope.names [], p.2 ∉ X} (r : Room C (k + 1)) (hs : scope.kind = .function) : Room (calleeCx C name scope a cd L X h1 h2) k where
  depth := by show C.A.depth + 1 + k < _; have := r.depth; walk_at "mine:om"
  units := by show C.A.units + 3 + 300 + 3 * k < _; have := r.units; walk_at "mine:om"
  frame := by simp [calleeCx]
  handled := r.handled
  outer := Framed.outer r.outer.framed hs (.head _)
theorem rounds_ok {words all0 r : List Str} {n : Nat} (rm : Room C (k + 2)) (d : DefAt C.B 81 12) (dR : DefAt C.B 76 11) (dS' : DefAt C.B 38 2) (hw : WordsOk' words) (h0 : RestsIs words words all0)
    (hrun : RRun (RestsIs words) n (all0.filter fun x : Str => !decide (x = ("" : Str))) [] r) : FnOk C 81 [.list (dS words)] (.list (dS r)) :=
  let ⟨pm, cd, doc, f⟩ := d
  FnOk.of_body f (enter12 pm cd doc) rm.one.1 rm.one.2 rm.frame rfl (fun fl σ' h => h) fun L X h1 h2 =>
    have rc : Room (calleeCx C (nameOf 12) (scopeOf 12) 81 cd L X h1 h2) (k + 1) := rm.callee rfl
    rounds_body (RI := RestsIs words) rfl hrun rm.handled h0.ys (fun _ _ q => q.ys) dR.any dS'.any (rests_ok rc dR hw h0) (fun others ys q => rests_ok rc dR hw q)
      (fun xs ys q1 q2 => sld_fn rc dS' q1.ok q2.ok (Nat.lt_of_le_of_lt q1.len (by decide)) (Nat.lt_of_le_of_lt q2.len (by decide)))
structure ReadOk (st : Str) : Prop where
  l : st.length ≤ 100000
  p : (partsBetween st (occurrences st "\r\n" 0 st.length (st.length + 1)) ("\r\n" : Str).length).length ≤ 100000
  n : (Txt.split st "\r\n").length ≤ 10000
  r : ∀ r ∈ rowsOf st, r.length ≤ 100 ∧ okS r = true ∧ Txt.contains r "\r" = false ∧ Txt.contains r "\n" = false ∧ okS (scut r none (some 1)) = true
theorem read_ok {st : Str} (r : Room C (k + 1)) (d : DefAt C.B 95 14) (h : ReadOk st) : FnNew C 95 [.str st] (dS (readL st)) :=
  let ⟨pm, cd, doc, f⟩ := d
  FnNew.of_body f (enter14 pm cd doc) r.one.1 r.one.2 r.frame rfl (fun fl σ' h => h) fun L X h1 h2 => read_body h.l h.p h.n h.r r.handled
end
end Mine
end
section
open PySem PySem.Spec PySem.Calls PyProof.Rows PySem.W PySem.Builtin PySem.Builtin.Str
namespace Mine
section
open StrLaws
theorem strKind_pos (x : Str) : 1 ≤ PySem.Builtin.Str.strKind x := by unfold PySem.Builtin.Str.strKind; split; decide; split <;> decide
noncomputable def rowsCat (y : List Nat) (rows : List (List Nat)) : List Nat := (rows.map (· ++ y)).flatten
theorem rowsCat_cons (y r : List Nat) (rows : List (List Nat)) : rowsCat y (r :: rows) = r ++ (y ++ rowsCat y rows) := by simp [rowsCat]
theorem at_here {x y : Str} {a : Nat} {r rest : List Nat} (h : x.cps.toList.drop a = r ++ (y.cps.toList ++ rest)) (ha : a ≤ x.length) : PySem.StrLaws.At x y x.length (a + r.length) := by
  have hl : x.cps.toList.length = x.length := by simp [Str.length]
  have hy : y.cps.toList.length = y.length := by simp [Str.length]
  have hlen := congrArg List.length h
  simp only [List.length_drop, List.length_append, hl, hy] at hlen
  refine ⟨by walk_at "mine:om", ?_⟩
  rw [subAt_eq]
  have : x.cps.toList.drop (a + r.length) = y.cps.toList ++ rest := by
    rw [← List.drop_drop, h, List.drop_left]
  rw [this, ← hy, List.take_left]
  simp
theorem at_head {x y : Str} {k c : Nat} (h : PySem.StrLaws.At x y x.length k) (hy : y.cps.toList.head? = some c) : x.cps.toList[k]? = some c := by
  obtain ⟨h1, h2⟩ := h
  rw [subAt_eq] at h2
  have e := eq_of_beq h2
  have : ((x.cps.toList.drop k).take y.length).head? = some c := by rw [e]; exact hy
  rw [List.head?_take] at this
  split at this
  · cases this
  · rwa [List.head?_drop] at this
theorem chain_rows {x y : Str} {y0 : Nat} (hy : y.cps.toList.head? = some y0) : ∀ (rows : List (List Nat)) (a : Nat) (cuts : List Nat) (f : Nat), (∀ r ∈ rows, y0 ∉ r) → a ≤ x.length → x.cps.toList.drop a = rowsCat y.cps.toList rows →
    ChainG x y x.length a cuts f → (∀ k, f ≤ k → ¬ PySem.StrLaws.At x y x.length k) → cuts.length = rows.length ∧ (partsFrom x y.length a cuts).map (fun p => p.cps.toList) = rows ++ [[]]
  | [], a, cuts, f, _, ha, hd, hc, hf => by
    have hl : x.cps.toList.length = x.length := by simp [Str.length]
    have hz : x.length ≤ a := by
      have := congrArg List.length hd
      simp [rowsCat, hl] at this
      walk_at "mine:om"
    have hy1 : 1 ≤ y.length := by
      have : y.cps.toList.length = y.length := by simp [Str.length]
      rw [← this]
      cases h : y.cps.toList with
      | nil => rw [h] at hy; cases hy
      | cons => simp
    cases cuts with
    | nil =>
      refine ⟨rfl, ?_⟩
      show [(strSub x a x.length).cps.toList] = [[]]
      rw [strSub_toList, hd]; simp [rowsCat]
    | cons c r =>
      obtain ⟨q1, q2, _⟩ := hc
      have := q2.1
      walk_at "mine:om"
  | r :: rows, a, cuts, f, hr, ha, hd, hc, hf => by
    have hl : x.cps.toList.length = x.length := by simp [Str.length]
    have hyl : y.cps.toList.length = y.length := by simp [Str.length]
    rw [rowsCat_cons] at hd
    have hA := at_here hd ha
    have hlen := congrArg List.length hd
    simp only [List.length_drop, List.length_append, hl, hyl] at hlen
    have hno : ∀ k, a ≤ k → k < a + r.length → ¬ PySem.StrLaws.At x y x.length k := fun k h1 h2 h3 => by
      have := at_head h3 hy
      have e : x.cps.toList[k]? = (x.cps.toList.drop a)[k - a]? := by rw [List.getElem?_drop]; congr 1; walk_at "mine:om"
      rw [e, hd, List.getElem?_append_left (by walk_at "mine:om")] at this
      exact hr r (.head _) (List.mem_of_getElem? this)
    cases cuts with
    | nil =>
      have e : f = a := hc
      exact absurd hA (hf _ (by walk_at "mine:om"))
    | cons c cs =>
      obtain ⟨q1, q2, q3, q4⟩ := hc
      have ec : c = a + r.length := by
        rcases Nat.lt_trichotomy c (a + r.length) with q | q | q
        · exact absurd q2 (hno c q1 q)
        · exact q
        · exact absurd hA (q3 _ (by walk_at "mine:om") q)
      subst ec
      have hd' : x.cps.toList.drop (a + r.length + y.length) = rowsCat y.cps.toList rows := by
        have : a + r.length + y.length = a + (r ++ y.cps.toList).length := by rw [List.length_append, hyl]; walk_at "mine:om"
        rw [this, ← List.drop_drop, hd, ← List.append_assoc, List.drop_left]
      obtain ⟨i1, i2⟩ := chain_rows hy rows (a + r.length + y.length) cs f (fun r' h => hr r' (.tail _ h)) (by walk_at "mine:om") hd' q4 hf
      refine ⟨by simp [i1], ?_⟩
      show (strSub x a (a + r.length)).cps.toList :: (partsFrom x y.length (a + r.length + y.length) cs).map (fun p => p.cps.toList) = _
      rw [i2, strSub_toList, hd, Nat.add_sub_cancel_left, List.take_left]; rfl
noncomputable def toS (l : List Nat) : Str := ⟨l.toArray⟩
theorem toS_list (l : List Nat) : (toS l).cps.toList = l := by simp [toS]
theorem toS_of (x : Str) : toS x.cps.toList = x := by
  cases x with
  | mk c => simp [toS]
theorem toS_len (l : List Nat) : (toS l).length = l.length := by simp [toS, Str.length]
theorem toS_inj {a b : List Nat} (h : toS a = toS b) : a = b := by rw [← toS_list a, h, toS_list]
theorem map_toS {ps : List Str} {ls : List (List Nat)} (h : ps.map (fun p => p.cps.toList) = ls) : ps = ls.map toS := by
  rw [← h, List.map_map]
  have : (toS ∘ fun p : Str => p.cps.toList) = _root_.id := by funext p; exact toS_of p
  rw [this, List.map_id]
theorem occ_rows {x y : Str} {y0 : Nat} (hy : y.cps.toList.head? = some y0) {rows : List (List Nat)} (hr : ∀ r ∈ rows, y0 ∉ r) (hx : x.cps.toList = rowsCat y.cps.toList rows) :
    (occurrences x y 0 x.length (x.length + 1)).length = rows.length ∧ partsBetween x (occurrences x y 0 x.length (x.length + 1)) y.length = (rows.map toS) ++ [("" : Str)] := by
  have hy1 : 1 ≤ y.length := by
    have : y.cps.toList.length = y.length := by simp [Str.length]
    rw [← this]
    cases h : y.cps.toList with
    | nil => rw [h] at hy; cases hy
    | cons => simp
  obtain ⟨f, h1, h2⟩ := occ_tight x y hy1
  obtain ⟨q1, q2⟩ := chain_rows hy rows 0 _ f hr (Nat.zero_le _) (by rw [List.drop_zero]; exact hx) h1 h2
  refine ⟨q1, ?_⟩
  rw [partsBetween_eq, map_toS q2]
  simp; rfl
theorem split_rows {x y : Str} {y0 : Nat} (hy : y.cps.toList.head? = some y0) (hk : PySem.Builtin.Str.strKind y = 1) {rows : List (List Nat)} (hne : rows ≠ []) (hr : ∀ r ∈ rows, y0 ∉ r) (hx : x.cps.toList = rowsCat y.cps.toList rows) :
    Txt.split x y = (rows.map toS) ++ [("" : Str)] := by
  obtain ⟨h1, h2⟩ := occ_rows hy hr hx
  unfold Txt.split
  have hpos := strKind_pos x
  have hlen : y.length ≤ x.length := by
    have := congrArg List.length hx
    cases rows with
    | nil => exact absurd rfl hne
    | cons r rs =>
      rw [rowsCat_cons] at this
      simp only [List.length_append, Array.length_toList] at this
      simp only [Str.length]; walk_at "mine:om"
  rw [if_neg (by simp; walk_at "mine:om"), if_neg (by
    rw [List.isEmpty_iff]
    intro q
    rw [q] at h1
    cases rows with
    | nil => exact hne rfl
    | cons => simp at h1), h2]
theorem count_rows {x y : Str} {y0 : Nat} (hy : y.cps.toList.head? = some y0) {rows : List (List Nat)} (hr : ∀ r ∈ rows, y0 ∉ r) (hx : x.cps.toList = rowsCat y.cps.toList rows) : Txt.count x y = (rows.length : Int) := by
  unfold Txt.count
  rw [(occ_rows hy hr hx).1]
noncomputable def rep1 (c : Nat) (z : List Nat) (l : List Nat) : List Nat := l.flatMap fun k => if k = c then z else [k]
theorem rep1_free (c : Nat) (z l : List Nat) (h : c ∉ l) : rep1 c z l = l := by
  induction l with
  | nil => rfl
  | cons k l ih =>
    simp only [List.mem_cons, not_or] at h
    have : rep1 c z (k :: l) = (if k = c then z else [k]) ++ rep1 c z l := by simp [rep1]
    rw [this, if_neg (fun q => h.1 q.symm), ih h.2]; rfl
theorem rep1_join (c : Nat) (z : Str) : ∀ parts : List Str, (∀ p ∈ parts, c ∉ p.cps.toList) → rep1 c z.cps.toList (Str.join ⟨#[c]⟩ parts).cps.toList = (Str.join z parts).cps.toList
  | [], _ => rfl
  | [p], h => rep1_free c _ _ (h p (List.mem_singleton.mpr rfl))
  | p :: q :: r, h => by
    have ih := rep1_join c z (q :: r) fun a ha => h a (List.mem_cons_of_mem _ ha)
    show rep1 c z.cps.toList (p ++ ⟨#[c]⟩ ++ Str.join ⟨#[c]⟩ (q :: r)).cps.toList = (p ++ z ++ Str.join z (q :: r)).cps.toList
    simp only [Str.cps_append, Array.toList_append]
    have ap : ∀ a b : List Nat, rep1 c z.cps.toList (a ++ b) = rep1 c z.cps.toList a ++ rep1 c z.cps.toList b := fun a b => by simp [rep1]
    rw [ap, ap, ih, rep1_free c _ _ (h p (List.mem_cons_self ..))]
    congr 2
    simp [rep1]
theorem replace_rep1 (x z : Str) (c : Nat) : (Txt.replace x ⟨#[c]⟩ z).cps.toList = rep1 c z.cps.toList x.cps.toList := by
  rw [replace_one, ← rep1_join c z _ (split_free x c), join_split]
theorem contains_one (x : Str) (c : Nat) : Txt.contains x ⟨#[c]⟩ = decide (c ∈ x.cps.toList) := found_one x c
theorem join_list (xs : List Str) : (Txt.join "" xs).cps.toList = (xs.map fun x => x.cps.toList).flatten := by
  induction xs with
  | nil => rfl
  | cons x xs ih =>
    unfold Txt.join at ih ⊢
    rw [glued_eq_join] at ih ⊢
    cases xs with
    | nil => show x.cps.toList = _; simp
    | cons y r =>
      show (x ++ ("" : Str) ++ Str.join "" (y :: r)).cps.toList = _
      rw [Str.cps_append, Str.cps_append, Array.toList_append, Array.toList_append, ih]
      simp
      rfl
theorem mul_list (x : Str) (n : Nat) : (Txt.mul x (n : Int)).cps.toList = (List.replicate n x.cps.toList).flatten := by
  have fold : ∀ (k : Nat) (acc : Array Nat), ((List.replicate k x.cps).foldl (· ++ ·) acc).toList = acc.toList ++ (List.replicate k x.cps.toList).flatten := by
    intro k
    induction k with
    | zero => intro acc; simp
    | succ k ih => intro acc; rw [List.replicate_succ, List.foldl_cons, ih, List.replicate_succ, List.flatten_cons, Array.toList_append, List.append_assoc]
  unfold Txt.mul
  split
  · have : n = 0 := by walk_at "mine:om"
    subst this; rfl
  · split
    · rename_i h1 h2
      simp only [Bool.or_eq_true, beq_iff_eq] at h2
      rcases h2 with h2 | h2
      · have : n = 1 := by walk_at "mine:om"
        subst this; simp
      · have : x.cps.toList = [] := List.eq_nil_of_length_eq_zero (by simpa [Str.length] using h2)
        rw [this]
        simp
    · show ((List.replicate ((n : Int)).toNat x.cps).foldl (· ++ ·) #[]).toList = _
      rw [Int.toNat_natCast, fold]; simp
end
end Mine
end
section
open PySem PySem.Spec PySem.Calls PyProof.Rows PySem.W PySem.Builtin PySem.Builtin.Str
namespace Mine
noncomputable def tab (w : World) (kvs : List (Str × Str)) : List (PyData × PyData) := kvs.map fun p => (.tuple [.str p.1, .int (hashStr w p.1)], .str p.2)
theorem ent_get {prog : Program} {w : World} : ∀ {es : List DictEntry} {kvs : List (Str × Str)}, EntriesAre es (tab w kvs) →
    (∀ e ∈ es, ∃ k, (strKind prog w).is k e.key = true ∧ e.hash = (strKind prog w).hash k) ∧
    ∀ {x y : Str}, kvs.lookup x = some y → ∃ u, (es.find? fun e => (strKind prog w).is x e.key).map (·.val) = some (.str y u)
  | [], [], _ => by
    refine ⟨fun e h => (nomatch h), fun {x y} h => ?_⟩
    simp at h
  | [], _ :: _, h => by simp [tab, EntriesAre] at h
  | _ :: _, [], h => by simp [tab, EntriesAre] at h
  | e :: es, p :: kvs, h => by
    have h' : EntryIs e (.tuple [.str p.1, .int (hashStr w p.1)], .str p.2) ∧ EntriesAre es (tab w kvs) := h
    obtain ⟨⟨⟨t, hk⟩, hh, u, hv⟩, hr⟩ := h'
    obtain ⟨r1, r2⟩ := ent_get (prog := prog) hr
    have his : ∀ z, (strKind prog w).is z e.key = decide (z = p.1) := fun z => KeyKind.is_eq_decide (knd := strKind prog w) (show Value.isStrOf p.1 e.key = true by rw [hk]; simp [Value.isStrOf]) z
    refine ⟨fun e' he' => ?_, fun {x y} hl => ?_⟩
    · rcases List.mem_cons.mp he' with rfl | hm
      · exact ⟨p.1, by rw [his]; simp, hh⟩
      · exact r1 e' hm
    · rw [List.find?_cons, his]
      obtain ⟨k, v⟩ := p
      by_cases hx : x = k
      · subst hx
        simp only [List.lookup_cons, beq_self_eq_true, Option.some.injEq] at hl
        subst hl
        simp only [decide_true, Option.map_some, Option.some.injEq]
        exact ⟨u, hv⟩
      · have hb : (x == k) = false := by simpa using hx
        simp only [List.lookup_cons, hb] at hl
        simp only [decide_eq_false hx]
        exact r2 hl
theorem tab_map {prog : Program} {w : World} {h : Heap} {a : Addr} {es : Array DictEntry} {ep : Nat} {kvs : List (Str × Str)} (ho : h.get? a = some (dO es ep)) (he : EntriesAre es.toList (tab w kvs)) :
    ∃ f, h.MapOf (strKind prog w) a f ∧ ∀ x y, kvs.lookup x = some y → ∃ u, f x = some (.str y u) := by
  obtain ⟨r1, r2⟩ := ent_get (prog := prog) he
  refine ⟨fun k => findBy (strKind prog w).is es k, ⟨_, es, ep, ho, ⟨rfl, rfl, rfl⟩, rfl, fun e m => r1 e (by simpa using m), fun _ => rfl⟩, fun x y hl => ?_⟩
  obtain ⟨u, q⟩ := r2 hl
  exact ⟨u, by show (es.find? _).map _ = _; rw [← Array.find?_toList]; exact q⟩
theorem Pairs_ent {prog : Program} {w : World} : ∀ {es : List DictEntry} {kvs : List (Str × Value)}, Pairs (strKind prog w) es kvs → (∀ e ∈ es, ∃ k, (strKind prog w).is k e.key = true ∧ e.hash = (strKind prog w).hash k) →
    ∀ {ps : List (Str × Str)}, ps.length = kvs.length → (∀ (i : Nat) (p : Str × Str) (q : Str × Value), ps[i]? = some p → kvs[i]? = some q → p.1 = q.1 ∧ ∃ u, q.2 = .str p.2 u) → EntriesAre es (tab w ps) := by
  intro es kvs hp
  induction hp with
  | nil =>
    intro _ ps hl _
    cases ps with
    | nil => trivial
    | cons => exact nomatch hl
  | @cons e kv es kvs h1 h2 h3 ih =>
    intro hk ps hl hq
    cases ps with
    | nil => exact nomatch hl
    | cons p ps =>
      obtain ⟨e1, u, e2⟩ := hq 0 p kv rfl rfl
      refine ⟨⟨?_, ?_, u, by rw [h2, e2]⟩, ih (fun e' m => hk e' (.tail _ m)) (Nat.succ.inj hl) fun i p' q' a b => hq (i + 1) p' q' a b⟩
      · obtain ⟨t, ht⟩ := Value.isStrOf_shape (show Value.isStrOf kv.1 e.key = true from h1)
        exact ⟨t, by rw [ht, e1]⟩
      · obtain ⟨k, hk1, hk2⟩ := hk e (.head _)
        have : k = kv.1 := Value.isStrOf_inj _ _ _ hk1 h1
        rw [hk2, this, ← e1]; rfl
section
variable {C : Cx} {σ : Loc}
theorem Rd.dict_inv {W : List Addr} {h : Heap} {kvs : List (PyData × PyData)} {v : Value} (r : Rd W h (.dict kvs) v) : ∃ a es ep, v = .ref a ∧ a ∉ W ∧ h.get? a = some (dO es ep) ∧ EntriesAre es.toList kvs := by simpa only [Rd] using r
theorem Ev_ditem {value slice : Expr} {pos : Pos} {kvs : List (Str × Str)} {x y : Str} (hv : Ev C σ value (.dict (tab C.w kvs))) (hi : Ev C σ slice (.str x)) (hl : kvs.lookup x = some y) (hs : PlainSub slice) :
    Ev C σ (.Subscript value slice pos) (.str y) := fun W s Q E H k =>
  PyProof.Rows.Subscript_ (hv W s _ E H fun s₁ va K₁ ra => hi W s₁ _ E (H.kept K₁) fun s₂ vi K₂ ri => by
    obtain ⟨t, rfl⟩ := ri.str_inv
    obtain ⟨a, es, ep, rfl, hw, ho, he⟩ := (K₂.rd H.sub ra).dict_inv
    obtain ⟨f, hm, hf⟩ := tab_map (prog := C.prog) ho he
    obtain ⟨u, hu⟩ := hf x y hl
    exact tail_any hm.typeIs slot_dict_getitem.lookup (wpAny_getItem_of (knd := strKind C.prog C.w) (k := x) (show Value.isStrOf x (.str x t) = true by simp [Value.isStrOf]) hm hu (k _ _ ((K₁.trans K₂).trans .tok) Rd.str)) (hs _ _))
theorem Ev_dict2 {k1 k2 v1 v2 : Expr} {pos : Pos} {x1 x2 y1 y2 : Str} (h1 : Ev C σ k1 (.str x1)) (g1 : Ev C σ v1 (.str y1)) (h2 : Ev C σ k2 (.str x2)) (g2 : Ev C σ v2 (.str y2)) (hne : x1 ≠ x2) :
    Ev C σ (.Dict [some k1, some k2] [v1, v2] pos) (.dict (tab C.w [(x1, y1), (x2, y2)])) := fun W s Q E H k => by
  refine wpAny_Dict_walk (knd := strKind C.prog C.w) rfl rfl (by simp) (by show 2 ≤ 15; decide) ?_
  have K0 : Kept C.F s { s with heap := s.heap.push (dO #[] 0) } := .push'
  refine pairTrees_cons_walk (h1 W _ _ E (H.kept K0) fun s1 w1 K1 r1 => g1 W s1 _ E ((H.kept K0).kept K1) fun s2 w2 K2 r2 => pairTrees_cons_walk (h2 W s2 _ E (((H.kept K0).kept K1).kept K2) fun s3 w3 K3 r3 => g2 W s3 _ E ((((H.kept K0).kept K1).kept K2).kept K3) fun s4 w4 K4 r4 => pairTrees_nil_walk ?_))
  obtain ⟨t1, rfl⟩ := r1.str_inv
  obtain ⟨t2, rfl⟩ := r2.str_inv
  obtain ⟨t3, rfl⟩ := r3.str_inv
  obtain ⟨t4, rfl⟩ := r4.str_inv
  have KK : Kept C.F { s with heap := s.heap.push (dO #[] 0) } s4 := ((K1.trans K2).trans K3).trans K4
  have hd0 : s4.heap.get? s.heap.objs.size = some (dO #[] 0) := KK.keep _ _ (fun m => H.not_new (H.sub _ m)) (Heap.get?_push_size _ rfl)
  refine ⟨[(x1, .str y1 t2), (x2, .str y2 t4)], ⟨by show Value.isStrOf x1 (.str x1 t1) = true; simp [Value.isStrOf], rfl, by show Value.isStrOf x2 (.str x2 t3) = true; simp [Value.isStrOf], rfl, trivial⟩, ⟨_, #[], 0, hd0, ⟨rfl, rfl, rfl⟩, rfl, fun e m => by simp at m, .nil, by simp⟩, fun h' hD hS => ?_⟩
  have em : merged [] [(x1, Value.str y1 t2), (x2, Value.str y2 t4)] = [(x1, Value.str y1 t2), (x2, Value.str y2 t4)] := by
    rw [merged_append_of_fresh _ _ (by simpa using hne)]; rfl
  rw [em] at hD
  obtain ⟨⟨cls, dct, dat, sl⟩, es, ep, ho, ⟨e1, e2, e3⟩, hd, hk, hp, hn⟩ := hD
  simp only at e1 e2 e3 hd
  subst e1; subst e2; subst e3; subst hd
  have KF : Kept C.F s { s4 with heap := h', toks := s4.toks + 2 } := by
    refine ⟨KK.os, KK.gens, fun b o hb e => ?_, fun b o e => ?_, fun hF => KK.drawn hF⟩
    · have hlt : b ≠ s.heap.objs.size := fun q => by rw [q, none_at_size] at e; cases e
      exact (hS.2 b hlt).trans (KK.keep b o hb (Heap.get?_push_of_some _ e))
    · have hlt : b ≠ s.heap.objs.size := fun q => by rw [q, none_at_size] at e; cases e
      obtain ⟨sl, q⟩ := KK.slots b o (Heap.get?_push_of_some _ e)
      exact ⟨sl, (hS.2 b hlt).trans q⟩
  refine k _ _ KF ?_
  simp only [Rd]
  refine ⟨_, es, ep, rfl, H.not_new, ho, Pairs_ent hp (fun e m => hk e (by simpa using m)) rfl fun i p q a b => ?_⟩
  match i with
  | 0 =>
    simp only [List.getElem?_cons_zero, Option.some.injEq] at a b
    subst a; subst b; exact ⟨rfl, _, rfl⟩
  | 1 =>
    simp only [List.getElem?_cons_succ, List.getElem?_cons_zero, Option.some.injEq] at a b
    subst a; subst b; exact ⟨rfl, _, rfl⟩
  | i + 2 => simp at a
end
end Mine
end
section
open PySem PySem.Spec PySem.Calls PyProof.Rows PySem.W PySem.Builtin PySem.Builtin.Str
namespace Mine
section
open Sre
theorem runFor_add : ∀ (a b : Nat) (m : M), M.runFor (a + b) m = M.runFor b (M.runFor a m)
  | 0, b, m => by rw [Nat.zero_add]; rfl
  | a + 1, b, m => by
    rw [Nat.add_right_comm]
    show (if m.outcome.isSome then m else M.runFor (a + b) m.step) = M.runFor b (if m.outcome.isSome then m else M.runFor a m.step)
    cases h : m.outcome.isSome
    · exact runFor_add a b m.step
    · simp only [if_true]
      cases b with
      | zero => rfl
      | succ b => show m = (if m.outcome.isSome then m else _); rw [h]; rfl
theorem runFor_done {m : M} (h : m.outcome.isSome = true) : ∀ n, M.runFor n m = m
  | 0 => rfl
  | n + 1 => by show (if m.outcome.isSome then m else _) = m; rw [h]; rfl
noncomputable def Ends (n : Nat) (m m' : M) : Prop := M.runFor n m = m' ∧ m'.outcome.isSome = true
theorem Ends.le {n k : Nat} {m m' : M} (h : Ends n m m') (hk : n ≤ k) : Ends k m m' := by
  obtain ⟨d, rfl⟩ := Nat.exists_eq_add_of_le hk
  exact ⟨by rw [runFor_add, h.1, runFor_done h.2], h.2⟩
theorem Ends.step {n : Nat} {m m₁ m' : M} (ho : m.outcome = none) (e : m.step = m₁) (r : Ends n m₁ m') : Ends (n + 1) m m' := by
  refine ⟨?_, r.2⟩
  show (if m.outcome.isSome then m else M.runFor n m.step) = m'
  rw [ho, e]; exact r.1
theorem Ends.done {m : M} (h : m.outcome.isSome = true) : Ends 0 m m := ⟨rfl, h⟩
variable {m : M}
theorem step_exec (h1 : m.outcome = none) (h2 : m.answer = none) (h3 : m.pc < m.code.size) : m.step = m.exec := by
  unfold M.step
  rw [h1, h2]
  simp only [Option.isSome_none, Bool.false_eq_true, if_false, h3, if_true]
theorem step_lit (h1 : m.outcome = none) (h2 : m.answer = none) (h3 : m.pc < m.code.size) (hop : ops[m.code.getD (m.pc + 0) 0]? = some .LITERAL) (hp : m.pos < m.lim) (hc : m.text.getD m.pos 0 = m.code.getD (m.pc + 1) 0) :
    m.step = { m with seen := m.seen.add (m.word 0), pc := m.pc + 2, pos := m.pos + 1 } := by
  rw [step_exec h1 h2 h3]
  unfold M.exec
  have e0 : ops[m.word 0]? = some .LITERAL := hop
  rw [e0]
  have hop' : ops[m.code.getD m.pc 0]? = some .LITERAL := hop
  simp only [accepts, hop', itemWidth, hc, beq_self_eq_true, if_neg (Nat.not_le.mpr hp), ge_iff_le]
theorem step_lit_no (h1 : m.outcome = none) (h2 : m.answer = none) (h3 : m.pc < m.code.size) (hop : ops[m.code.getD (m.pc + 0) 0]? = some .LITERAL) (hc : m.pos < m.lim → m.text.getD m.pos 0 ≠ m.code.getD (m.pc + 1) 0) :
    m.step = { m with seen := m.seen.add (m.word 0), answer := some false } := by
  rw [step_exec h1 h2 h3]
  unfold M.exec
  have e0 : ops[m.word 0]? = some .LITERAL := hop
  rw [e0]
  have hop' : ops[m.code.getD m.pc 0]? = some .LITERAL := hop
  by_cases hp : m.lim ≤ m.pos
  · simp only [ge_iff_le, if_pos hp, M.say]
  · have := hc (by walk_at "mine:om")
    have hb : (m.text.getD m.pos 0 == m.code.getD (m.pc + 1) 0) = false := by simpa using this
    simp only [accepts, hop', hb, ge_iff_le, if_neg hp, M.say]
theorem step_jump (h1 : m.outcome = none) (h2 : m.answer = none) (h3 : m.pc < m.code.size) (hop : ops[m.code.getD (m.pc + 0) 0]? = some .JUMP) :
    m.step = { m with seen := m.seen.add (m.word 0), pc := m.pc + 1 + m.word 1 } := by
  rw [step_exec h1 h2 h3]
  unfold M.exec
  have e0 : ops[m.word 0]? = some .JUMP := hop
  rw [e0]
  rfl
theorem step_success (h1 : m.outcome = none) (h2 : m.answer = none) (h3 : m.pc < m.code.size) (hop : ops[m.code.getD (m.pc + 0) 0]? = some .SUCCESS) (hw : m.wholeText = false) (ha : m.mustAdvance = false) :
    m.step = { m with seen := m.seen.add (m.word 0), handed := m.pos, answer := some true } := by
  rw [step_exec h1 h2 h3]
  unfold M.exec
  have e0 : ops[m.word 0]? = some .SUCCESS := hop
  rw [e0]
  simp only [hw, ha, Bool.false_and, Bool.or_false, Bool.and_false, Bool.false_eq_true, if_false, M.say]
theorem step_branch (h1 : m.outcome = none) (h2 : m.answer = none) (h3 : m.pc < m.code.size) (hop : ops[m.code.getD (m.pc + 0) 0]? = some .BRANCH) (hi : m.inner = none) (hz : (m.code.getD (m.pc + 1) 0 == 0) = false) (hw : m.weight < 100) :
    m.step = { m with seen := m.seen.add (m.word 0), frames := { wait := .nextBranch, pc := m.pc + 1, pos := m.pos, outermost := m.outermost, kept := ⟨m.lastmark, m.lastindex, false, #[]⟩ } :: m.frames, weight := m.weight + 1, pc := m.pc + 2, handed := m.pos } := by
  rw [step_exec h1 h2 h3]
  unfold M.exec
  have e0 : ops[m.word 0]? = some .BRANCH := hop
  rw [e0]
  simp only [M.alternative, hz, Bool.false_eq_true, if_false, M.attempt, M.keep, M.frame, hi, Option.isSome_none]
  rw [if_neg (by simp; walk_at "mine:om")]
  rfl
theorem step_assert_not (h1 : m.outcome = none) (h2 : m.answer = none) (h3 : m.pc < m.code.size) (hop : ops[m.code.getD (m.pc + 0) 0]? = some .ASSERT_NOT) (hi : m.inner = none) (hz : m.code.getD (m.pc + 2) 0 = 0) (hw : m.weight < 100) :
    m.step = { m with seen := m.seen.add (m.word 0), frames := { wait := .lookNot, pc := m.pc, pos := m.pos, outermost := m.outermost, kept := ⟨m.lastmark, m.lastindex, false, #[]⟩ } :: m.frames, weight := m.weight + 1, pc := m.pc + 3, handed := m.pos, outermost := false } := by
  rw [step_exec h1 h2 h3]
  unfold M.exec
  have e0 : ops[m.word 0]? = some .ASSERT_NOT := hop
  rw [e0]
  simp only [M.word, hz, Nat.not_lt_zero, if_false, M.attempt, M.keep, M.frame, hi, Option.isSome_none, Nat.sub_zero, Bool.and_false, Bool.true_and, Bool.false_eq_true, if_true]
  rw [if_neg (by simp; walk_at "mine:om")]
  rfl
theorem step_at1 (h1 : m.outcome = none) (h2 : m.answer = none) (h3 : m.pc < m.code.size) (hop : ops[m.code.getD (m.pc + 0) 0]? = some .AT) (hk : m.code.getD (m.pc + 1) 0 = 1) :
    m.step = if (m.pos == 0 || m.text.getD (m.pos - 1) 0 == 10) = true then { m with seen := (m.seen.add (m.word 0)).add 44, pc := m.pc + 2 } else { m with seen := (m.seen.add (m.word 0)).add 44, answer := some false } := by
  rw [step_exec h1 h2 h3]
  unfold M.exec
  have e0 : ops[m.word 0]? = some .AT := hop
  rw [e0]
  have e1 : ∀ m : M, M.isAt m 1 = .ok (m.pos == 0 || m.text.getD (m.pos - 1) 0 == 10) := fun _ => rfl
  simp only [M.word, hk, e1, M.say]
theorem step_end {yes : Bool} (h1 : m.outcome = none) (h2 : m.answer = some yes) (hf : m.frames = []) : m.step = { m with outcome := some (if yes then .matched else .failed) } := by
  unfold M.step
  rw [h1, h2, hf]
  rfl
theorem step_pop {yes : Bool} {f : Sre.Frame} {fs : List Sre.Frame} (h1 : m.outcome = none) (h2 : m.answer = some yes) (hf : m.frames = f :: fs) :
    m.step = M.resume { m with answer := none, frames := fs, weight := m.weight - (1 + f.kept.marks.size), pc := f.pc, pos := f.pos, outermost := f.outermost } f yes := by
  unfold M.step
  rw [h1, h2, hf]
  rfl
theorem step_yes {f : Sre.Frame} {fs : List Sre.Frame} (h1 : m.outcome = none) (h2 : m.answer = some true) (hf : m.frames = f :: fs) (hw : f.wait = .nextStart ∨ f.wait = .nextBranch) :
    m.step = { m with answer := some true, frames := fs, weight := m.weight - (1 + f.kept.marks.size), pc := f.pc, pos := f.pos, outermost := f.outermost } := by
  rw [step_pop h1 h2 hf]
  unfold M.resume
  rcases hw with h | h <;> rw [h] <;> rfl
theorem step_branch_no {f : Sre.Frame} {fs : List Sre.Frame} {k : Nat} (h1 : m.outcome = none) (h2 : m.answer = some false) (hf : m.frames = f :: fs) (hw : f.wait = .nextBranch) (hk : f.kept = ⟨m.lastmark, m.lastindex, false, #[]⟩)
    (ht : f.pc + m.code.getD f.pc 0 = k) (hz : (m.code.getD k 0 == 0) = false) (hwt : m.weight < 100) :
    m.step = { m with answer := none, frames := { wait := .nextBranch, pc := k, pos := f.pos, outermost := f.outermost, kept := ⟨m.lastmark, m.lastindex, false, #[]⟩ } :: fs, weight := m.weight - 1 + 1, pc := k + 1, pos := f.pos, handed := f.pos, outermost := f.outermost } := by
  rw [step_pop h1 h2 hf]
  unfold M.resume
  rw [hw]
  simp only [M.alternative, M.putBack, hk, ht, hz, Bool.false_eq_true, if_false, M.attempt, M.frame]
  rw [if_neg (by simp; walk_at "mine:om")]
  rfl
theorem step_look_no {f : Sre.Frame} {fs : List Sre.Frame} (h1 : m.outcome = none) (h2 : m.answer = some false) (hf : m.frames = f :: fs) (hw : f.wait = .lookNot) (hk : f.kept = ⟨m.lastmark, m.lastindex, false, #[]⟩) :
    m.step = { m with answer := none, frames := fs, weight := m.weight - 1, pc := f.pc + 1 + m.code.getD (f.pc + 1) 0, pos := f.pos, outermost := f.outermost } := by
  rw [step_pop h1 h2 hf]
  unfold M.resume
  rw [hw]
  simp only [M.putBack, hk, M.word, Bool.false_eq_true, if_false]
  rfl
theorem step_start_no {f : Sre.Frame} {fs : List Sre.Frame} (h1 : m.outcome = none) (h2 : m.answer = some false) (hf : m.frames = f :: fs) (hw : f.wait = .nextStart) :
    m.step = if f.pos < m.lastStart then M.attemptFrom { m with answer := none, frames := fs, weight := m.weight - (1 + f.kept.marks.size), pc := f.pc, pos := f.pos, outermost := f.outermost, mustAdvance := false } (f.pos + 1) false
      else { m with answer := some false, frames := fs, weight := m.weight - (1 + f.kept.marks.size), pc := f.pc, pos := f.pos, outermost := f.outermost } := by
  rw [step_pop h1 h2 hf]
  unfold M.resume
  rw [hw]
  simp only [M.say, Bool.false_eq_true, if_false]
end
end Mine
end
section
open PySem PySem.Spec PySem.Calls PyProof.Rows PySem.W PySem.Builtin PySem.Builtin.Str
namespace Mine
section
open Sre
noncomputable abbrev c2 : Array Nat := #[14, 9, 4, 1, 2, 16, 10, 16, 13, 0, 7, 7, 16, 13, 16, 10, 15, 18, 5, 16, 10, 15, 13, 11, 16, 13, 5, 5, 0, 16, 10, 1, 15, 2, 0, 1]
noncomputable abbrev c1 : Array Nat := #[14, 4, 0, 1, 1, 6, 1, 16, 46, 1]
noncomputable def isEol (c : Nat) : Bool := c == 10 || c == 13
noncomputable def eolLen (text : Array Nat) (s : Nat) : Nat := if text.getD s 0 = 13 ∧ s + 1 < text.size ∧ text.getD (s + 1) 0 = 10 then 2 else 1
theorem inSet2 (c : Nat) (seen : Sre.Seen) : ∃ seen', inSet c2 c c2.size 5 true seen = .ok (isEol c, seen') := by
  have hz : c2.size = 36 := rfl
  rw [hz]
  by_cases h1 : c = 10
  · subst h1; exact ⟨_, rfl⟩
  · by_cases h2 : c = 13
    · subst h2; exact ⟨_, rfl⟩
    · have b1 : (c == 10) = false := by simpa using h1
      have b2 : (c == 13) = false := by simpa using h2
      have e : isEol c = false := by simp [isEol, b1, b2]
      rw [e]
      refine ⟨((seen.add 16).add 16).add 0, ?_⟩
      show (if (c == 10) = true then _ else if (c == 13) = true then _ else _) = _
      rw [b1, b2]; rfl
theorem admitted2 {m : M} (hc : m.code = c2) : ∀ (fuel s : Nat) (seen : Sre.Seen), m.lim ≤ s + fuel →
    (∃ seen', M.admitted m fuel s seen = .ok (none, seen') ∧ ∀ i, s ≤ i → i < m.lim → isEol (m.text.getD i 0) = false) ∨
    (∃ s' seen', M.admitted m fuel s seen = .ok (some s', seen') ∧ s ≤ s' ∧ s' < m.lim ∧ isEol (m.text.getD s' 0) = true ∧ ∀ i, s ≤ i → i < s' → isEol (m.text.getD i 0) = false)
  | 0, s, seen, h => .inl ⟨seen, rfl, fun i a b => by walk_at "mine:om"⟩
  | fuel + 1, s, seen, h => by
    unfold M.admitted
    by_cases hs : s ≥ m.lim
    · rw [if_pos hs]
      exact .inl ⟨seen, rfl, fun i a b => by walk_at "mine:om"⟩
    · rw [if_neg hs, hc]
      obtain ⟨seen', e⟩ := inSet2 (m.text.getD s 0) seen
      rw [e]
      cases hb : isEol (m.text.getD s 0)
      · simp only
        rcases admitted2 hc fuel (s + 1) seen' (by walk_at "mine:om") with ⟨q, e1, e2⟩ | ⟨s', q, e1, e2, e3, e4, e5⟩
        · refine .inl ⟨q, e1, fun i a b => ?_⟩
          by_cases hi : i = s
          · rw [hi]; exact hb
          · exact e2 i (by walk_at "mine:om") b
        · refine .inr ⟨s', q, e1, by walk_at "mine:om", e3, e4, fun i a b => ?_⟩
          by_cases hi : i = s
          · rw [hi]; exact hb
          · exact e5 i (by walk_at "mine:om") b
      · exact .inr ⟨s, seen', rfl, Nat.le_refl _, by walk_at "mine:om", hb, fun i a b => by walk_at "mine:om"⟩
structure V (c text : Array Nat) (s last pc pos handed : Nat) (outer : Bool) (fs : List Sre.Frame) (wt : Nat) (ans : Option Bool) (m : M) : Prop where
  c : m.code = c
  t : m.text = text
  l : m.lim = text.size
  s : m.start = s
  last : m.lastStart = last
  pc : m.pc = pc
  pos : m.pos = pos
  h : m.handed = handed
  out : m.outermost = outer
  fs : m.frames = fs
  w : m.weight = wt
  ans : m.answer = ans
  inner : m.inner = none
  wh : m.wholeText = false
  must : m.mustAdvance = false
  oc : m.outcome = none
  lm : m.lastmark = -1
  li : m.lastindex = -1
noncomputable def FinP (n : Nat) (P : M → Prop) (m : M) : Prop := ∃ m', Ends n m m' ∧ P m'
theorem FinP.le {n k : Nat} {P : M → Prop} {m : M} (h : FinP n P m) (hk : n ≤ k) : FinP k P m := let ⟨m', a, b⟩ := h; ⟨m', a.le hk, b⟩
theorem FinP.step {n : Nat} {P : M → Prop} {m m₁ : M} (ho : m.outcome = none) (e : m.step = m₁) (r : FinP n P m₁) : FinP (n + 1) P m := let ⟨m', a, b⟩ := r; ⟨m', .step ho e a, b⟩
noncomputable def kp : Sre.Kept := ⟨-1, -1, false, #[]⟩
section
variable {c text : Array Nat} {s last pc pos handed n wt : Nat} {outer : Bool} {fs : List Sre.Frame} {P : M → Prop} {m : M}
theorem V.lit (v : V c text s last pc pos handed outer fs wt none m) (hz : pc < c.size) (hop : ops[c.getD pc 0]? = some .LITERAL) (hp : pos < text.size) (hc : text.getD pos 0 = c.getD (pc + 1) 0)
    (k : ∀ m', V c text s last (pc + 2) (pos + 1) handed outer fs wt none m' → FinP n P m') : FinP (n + 1) P m := by
  refine .step v.oc (step_lit v.oc v.ans (by rw [v.pc, v.c]; exact hz) (by rw [v.pc, v.c]; exact hop) (by rw [v.pos, v.l]; exact hp) (by rw [v.t, v.pos, v.c, v.pc]; exact hc)) (k _ ?_)
  exact { v with pc := by show m.pc + 2 = _; rw [v.pc], pos := by show m.pos + 1 = _; rw [v.pos] }
theorem V.lit_no (v : V c text s last pc pos handed outer fs wt none m) (hz : pc < c.size) (hop : ops[c.getD pc 0]? = some .LITERAL) (hc : pos < text.size → text.getD pos 0 ≠ c.getD (pc + 1) 0)
    (k : ∀ m', V c text s last pc pos handed outer fs wt (some false) m' → FinP n P m') : FinP (n + 1) P m := by
  refine .step v.oc (step_lit_no v.oc v.ans (by rw [v.pc, v.c]; exact hz) (by rw [v.pc, v.c]; exact hop) (by rw [v.t, v.pos, v.c, v.pc, v.l]; exact hc)) (k _ ?_)
  exact { v with ans := rfl }
theorem V.jump {pc' : Nat} (v : V c text s last pc pos handed outer fs wt none m) (hz : pc < c.size) (hop : ops[c.getD pc 0]? = some .JUMP) (hp : pc + 1 + c.getD (pc + 1) 0 = pc')
    (k : ∀ m', V c text s last pc' pos handed outer fs wt none m' → FinP n P m') : FinP (n + 1) P m := by
  refine .step v.oc (step_jump v.oc v.ans (by rw [v.pc, v.c]; exact hz) (by rw [v.pc, v.c]; exact hop)) (k _ ?_)
  exact { v with pc := by show m.pc + 1 + m.code.getD (m.pc + 1) 0 = _; rw [v.pc, v.c]; exact hp }
theorem V.success (v : V c text s last pc pos handed outer fs wt none m) (hz : pc < c.size) (hop : ops[c.getD pc 0]? = some .SUCCESS)
    (k : ∀ m', V c text s last pc pos pos outer fs wt (some true) m' → FinP n P m') : FinP (n + 1) P m := by
  refine .step v.oc (step_success v.oc v.ans (by rw [v.pc, v.c]; exact hz) (by rw [v.pc, v.c]; exact hop) v.wh v.must) (k _ ?_)
  exact { v with ans := rfl, h := v.pos }
theorem V.branch (v : V c text s last pc pos handed outer fs wt none m) (hz : pc < c.size) (hop : ops[c.getD pc 0]? = some .BRANCH) (hn : (c.getD (pc + 1) 0 == 0) = false) (hw : wt < 100)
    (k : ∀ m', V c text s last (pc + 2) pos pos outer ({ wait := .nextBranch, pc := pc + 1, pos := pos, outermost := outer, kept := kp } :: fs) (wt + 1) none m' → FinP n P m') : FinP (n + 1) P m := by
  refine .step v.oc (step_branch v.oc v.ans (by rw [v.pc, v.c]; exact hz) (by rw [v.pc, v.c]; exact hop) v.inner (by rw [v.c, v.pc]; exact hn) (by rw [v.w]; exact hw)) (k _ ?_)
  exact { v with
    pc := by show m.pc + 2 = _; rw [v.pc]
    h := v.pos
    fs := by show _ :: m.frames = _; rw [v.fs, v.pc, v.pos, v.out, v.lm, v.li]; rfl
    w := by show m.weight + 1 = _; rw [v.w] }
theorem V.assert_not (v : V c text s last pc pos handed outer fs wt none m) (hz : pc < c.size) (hop : ops[c.getD pc 0]? = some .ASSERT_NOT) (hn : c.getD (pc + 2) 0 = 0) (hw : wt < 100)
    (k : ∀ m', V c text s last (pc + 3) pos pos false ({ wait := .lookNot, pc := pc, pos := pos, outermost := outer, kept := kp } :: fs) (wt + 1) none m' → FinP n P m') : FinP (n + 1) P m := by
  refine .step v.oc (step_assert_not v.oc v.ans (by rw [v.pc, v.c]; exact hz) (by rw [v.pc, v.c]; exact hop) v.inner (by rw [v.c, v.pc]; exact hn) (by rw [v.w]; exact hw)) (k _ ?_)
  exact { v with
    pc := by show m.pc + 3 = _; rw [v.pc]
    h := v.pos
    out := rfl
    fs := by show _ :: m.frames = _; rw [v.fs, v.pc, v.pos, v.out, v.lm, v.li]; rfl
    w := by show m.weight + 1 = _; rw [v.w] }
theorem V.at_yes (v : V c text s last pc pos handed outer fs wt none m) (hz : pc < c.size) (hop : ops[c.getD pc 0]? = some .AT) (hk : c.getD (pc + 1) 0 = 1) (h : (pos == 0 || text.getD (pos - 1) 0 == 10) = true)
    (k : ∀ m', V c text s last (pc + 2) pos handed outer fs wt none m' → FinP n P m') : FinP (n + 1) P m := by
  refine .step v.oc ((step_at1 v.oc v.ans (by rw [v.pc, v.c]; exact hz) (by rw [v.pc, v.c]; exact hop) (by rw [v.pc, v.c]; exact hk)).trans (if_pos (by rw [v.pos, v.t]; exact h))) (k _ ?_)
  exact { v with pc := by show m.pc + 2 = _; rw [v.pc] }
theorem V.at_no (v : V c text s last pc pos handed outer fs wt none m) (hz : pc < c.size) (hop : ops[c.getD pc 0]? = some .AT) (hk : c.getD (pc + 1) 0 = 1) (h : (pos == 0 || text.getD (pos - 1) 0 == 10) = false)
    (k : ∀ m', V c text s last pc pos handed outer fs wt (some false) m' → FinP n P m') : FinP (n + 1) P m := by
  refine .step v.oc ((step_at1 v.oc v.ans (by rw [v.pc, v.c]; exact hz) (by rw [v.pc, v.c]; exact hop) (by rw [v.pc, v.c]; exact hk)).trans (if_neg (by rw [v.pos, v.t, h]; decide))) (k _ ?_)
  exact { v with ans := rfl }
theorem V.end_ {yes : Bool} (v : V c text s last pc pos handed outer [] wt (some yes) m) (h : ∀ m', m'.start = s → m'.handed = handed → m'.outcome = some (if yes then .matched else .failed) → P m') : FinP (n + 1) P m :=
  .step v.oc (step_end v.oc v.ans v.fs) ((FinP.le ⟨_, Ends.done rfl, h _ v.s v.h rfl⟩ (Nat.zero_le _)))
theorem V.yes {f : Sre.Frame} (v : V c text s last pc pos handed outer (f :: fs) wt (some true) m) (hw : f.wait = .nextStart ∨ f.wait = .nextBranch)
    (k : ∀ m', V c text s last f.pc f.pos handed f.outermost fs (wt - (1 + f.kept.marks.size)) (some true) m' → FinP n P m') : FinP (n + 1) P m := by
  refine .step v.oc (step_yes v.oc v.ans v.fs hw) (k _ ?_)
  exact { v with pc := rfl, pos := rfl, out := rfl, fs := rfl, w := by show m.weight - _ = _; rw [v.w], ans := rfl }
theorem V.branch_no {p q k' : Nat} {o : Bool} (v : V c text s last pc pos handed outer ({ wait := .nextBranch, pc := p, pos := q, outermost := o, kept := kp } :: fs) wt (some false) m) (ht : p + c.getD p 0 = k') (hz : (c.getD k' 0 == 0) = false) (hw : wt < 100)
    (k : ∀ m', V c text s last (k' + 1) q q o ({ wait := .nextBranch, pc := k', pos := q, outermost := o, kept := kp } :: fs) (wt - 1 + 1) none m' → FinP n P m') : FinP (n + 1) P m := by
  refine .step v.oc (step_branch_no (k := k') v.oc v.ans v.fs rfl (by rw [v.lm, v.li]; rfl) (by rw [v.c]; exact ht) (by rw [v.c]; exact hz) (by rw [v.w]; exact hw)) (k _ ?_)
  exact { v with pc := rfl, pos := rfl, h := rfl, out := rfl, fs := by show _ :: fs = _; rw [v.lm, v.li]; rfl, w := by show m.weight - 1 + 1 = _; rw [v.w], ans := rfl }
theorem V.look_no {p q : Nat} {o : Bool} {pc' : Nat} (v : V c text s last pc pos handed outer ({ wait := .lookNot, pc := p, pos := q, outermost := o, kept := kp } :: fs) wt (some false) m) (hp : p + 1 + c.getD (p + 1) 0 = pc')
    (k : ∀ m', V c text s last pc' q handed o fs (wt - 1) none m' → FinP n P m') : FinP (n + 1) P m := by
  refine .step v.oc (step_look_no v.oc v.ans v.fs rfl (by rw [v.lm, v.li]; rfl)) (k _ ?_)
  exact { v with pc := by show p + 1 + m.code.getD (p + 1) 0 = _; rw [v.c]; exact hp, pos := rfl, out := rfl, fs := rfl, w := by show m.weight - 1 = _; rw [v.w], ans := rfl }
end
noncomputable def Hit (s e : Nat) (m' : M) : Prop := m'.start = s ∧ m'.handed = e ∧ m'.outcome = some .matched
noncomputable def fst (p s : Nat) (b : Bool) : Sre.Frame := { wait := .nextStart, pc := p, pos := s, outermost := b }
theorem match2 {text : Array Nat} {s last : Nat} {m : M} (v : V c2 text s last 10 s s true [fst 10 s true] 1 none m) (hs : s < text.size) (he : isEol (text.getD s 0) = true) : FinP 24 (Hit s (s + eolLen text s)) m := by
  by_cases h13 : text.getD s 0 = 13
  · by_cases h2 : s + 1 < text.size ∧ text.getD (s + 1) 0 = 10
    · have el : eolLen text s = 2 := if_pos ⟨h13, h2⟩
      rw [el]
      refine FinP.le (n := 8) ?_ (by decide)
      refine v.branch (by decide) rfl rfl (by decide) fun m v => v.lit (by decide) rfl hs h13 fun m v => v.lit (by decide) rfl h2.1 h2.2 fun m v => v.jump (by decide) rfl rfl fun m v => v.success (by decide) rfl fun m v =>
        v.yes (.inr rfl) fun m v => v.yes (.inl rfl) fun m v => v.end_ fun m' a b c => ⟨a, b, c⟩
    · have el : eolLen text s = 1 := if_neg fun q => h2 q.2
      rw [el]
      have hno : s + 1 < text.size → text.getD (s + 1) 0 ≠ 10 := fun a b => h2 ⟨a, b⟩
      refine FinP.le (n := 15) ?_ (by decide)
      refine v.branch (by decide) rfl rfl (by decide) fun m v => v.lit (by decide) rfl hs h13 fun m v => v.lit_no (by decide) rfl hno fun m v => v.branch_no rfl rfl (by decide) fun m v =>
        v.lit_no (by decide) rfl (fun _ => by show text.getD s 0 ≠ 10; walk_at "mine:om") fun m v => v.branch_no rfl rfl (by decide) fun m v => v.lit (by decide) rfl hs h13 fun m v => v.assert_not (by decide) rfl rfl (by decide) fun m v =>
        v.lit_no (by decide) rfl hno fun m v => v.look_no rfl fun m v => v.jump (by decide) rfl rfl fun m v => v.success (by decide) rfl fun m v =>
        v.yes (.inr rfl) fun m v => v.yes (.inl rfl) fun m v => v.end_ fun m' a b c => ⟨a, b, c⟩
  · have h10 : text.getD s 0 = 10 := by
      simp only [isEol, Bool.or_eq_true, beq_iff_eq] at he
      rcases he with h | h
      · exact h
      · exact absurd h h13
    have el : eolLen text s = 1 := if_neg fun q => h13 q.1
    rw [el]
    refine FinP.le (n := 9) ?_ (by decide)
    refine v.branch (by decide) rfl rfl (by decide) fun m v => v.lit_no (by decide) rfl (fun _ => h13) fun m v => v.branch_no rfl rfl (by decide) fun m v => v.lit (by decide) rfl hs h10 fun m v => v.jump (by decide) rfl rfl fun m v =>
      v.success (by decide) rfl fun m v => v.yes (.inr rfl) fun m v => v.yes (.inl rfl) fun m v => v.end_ fun m' a b c => ⟨a, b, c⟩
theorem from2 {text : Array Nat} {p : Nat} {m : M} (hc : m.code = c2) (ht : m.text = text) (hl : m.lim = text.size) (ho : m.outcome = none) (ha : m.answer = none) (hi : m.inner = none) (hf : m.frames = []) (hw : m.weight = 0) (hpc : m.pc = 10) (hwh : m.wholeText = false) :
    (FinP 24 (fun m' => m'.outcome = some .failed) (M.attemptFrom m p true) ∧ ∀ i, p ≤ i → i < text.size → isEol (text.getD i 0) = false) ∨
    (∃ s, FinP 24 (Hit s (s + eolLen text s)) (M.attemptFrom m p true) ∧ p ≤ s ∧ s < text.size ∧ isEol (text.getD s 0) = true ∧ ∀ i, p ≤ i → i < s → isEol (text.getD i 0) = false) := by
  have hfs : m.hasFirstSet = true := by unfold M.hasFirstSet; rw [hc]; rfl
  unfold M.attemptFrom
  rw [hfs, if_neg (by decide)]
  rcases admitted2 hc (m.lim + 1 - p) p m.seen (by walk_at "mine:om") with ⟨q, e1, e2⟩ | ⟨s', q, e1, e2, e3, e4, e5⟩
  · rw [e1]
    rw [ht, hl] at e2
    exact .inl ⟨⟨_, Ends.le (Ends.step ho (step_end (yes := false) ho rfl hf) (Ends.done rfl)) (by decide), rfl⟩, e2⟩
  · rw [e1]
    rw [hl] at e3
    rw [ht] at e4 e5
    refine .inr ⟨s', ?_, e2, e3, e4, e5⟩
    show FinP 24 _ (if m.weight + 1 + 0 > 16777216 then _ else _)
    rw [if_neg (by rw [hw]; decide)]
    refine match2 (last := m.lastStart) ⟨hc, ht, hl, rfl, rfl, hpc, rfl, rfl, rfl, ?_, ?_, ha, hi, hwh, rfl, ho, rfl, rfl⟩ e3 e4
    · show _ :: m.frames = _; rw [hf, hpc]; rfl
    · show m.weight + 1 + 0 = _; rw [hw]
theorem search2 (text : Array Nat) (p : Nat) (hp : p ≤ text.size) :
    (FinP 24 (fun m' => m'.outcome = some .failed) (forSearch c2 text 0 p text.size false) ∧ ∀ i, p ≤ i → i < text.size → isEol (text.getD i 0) = false) ∨
    (∃ s, FinP 24 (Hit s (s + eolLen text s)) (forSearch c2 text 0 p text.size false) ∧ p ≤ s ∧ s < text.size ∧ isEol (text.getD s 0) = true ∧ ∀ i, p ≤ i → i < s → isEol (text.getD i 0) = false) := by
  unfold forSearch
  by_cases hz : p > text.size ∨ text.size - p < 1
  · rw [if_pos (by simpa [header, ops] using hz)]
    exact .inl ⟨⟨_, Ends.le (Ends.step rfl (step_end rfl rfl rfl) (Ends.done rfl)) (by decide), rfl⟩, fun i a b => by walk_at "mine:om"⟩
  · rw [if_neg (by simpa [header, ops] using hz)]
    exact from2 rfl rfl rfl rfl rfl rfl rfl rfl rfl rfl
end
end Mine
end
section
open PySem PySem.Spec PySem.Calls PyProof.Rows PySem.W PySem.Builtin PySem.Builtin.Str
namespace Mine
section
open Sre
noncomputable def isDot (text : Array Nat) (s : Nat) : Bool := (s == 0 || text.getD (s - 1) 0 == 10) && text.getD s 0 == 46
theorem next1 {text : Array Nat} {s last pc pos handed : Nat} {outer b : Bool} {m : M} (v : V c1 text s last pc pos handed outer [fst 5 s b] 1 (some false) m) (hs : s < last) :
    V c1 text (s + 1) last 5 (s + 1) (s + 1) false [fst 5 (s + 1) false] 1 none m.step := by
  have e := step_start_no v.oc v.ans v.fs rfl
  rw [if_pos (by show s < m.lastStart; rw [v.last]; exact hs)] at e
  unfold M.attemptFrom at e
  have hfs : M.hasFirstSet { m with answer := none, frames := [], weight := m.weight - (1 + (fst 5 s b).kept.marks.size), pc := (fst 5 s b).pc, pos := (fst 5 s b).pos, outermost := (fst 5 s b).outermost, mustAdvance := false } = false := by
    unfold M.hasFirstSet
    show (_ && m.code.getD 2 0 == 4) = false
    rw [v.c]; rfl
  rw [hfs, if_pos (by rfl)] at e
  have e2 : m.step = (if m.weight - 1 + 1 + 0 > 16777216 then _ else _) := e
  rw [if_neg (by rw [v.w]; decide)] at e2
  rw [e2]
  exact ⟨v.c, v.t, v.l, rfl, v.last, rfl, rfl, rfl, rfl, rfl, by show m.weight - 1 + 1 + 0 = 1; rw [v.w], rfl, v.inner, v.wh, rfl, v.oc, rfl, rfl⟩
theorem V.start_end {text : Array Nat} {s last pc pos handed n : Nat} {outer b : Bool} {P : M → Prop} {m : M} (v : V c1 text s last pc pos handed outer [fst 5 s b] 1 (some false) m) (hs : ¬ s < last)
    (k : ∀ m', V c1 text s last 5 s handed b [] 0 (some false) m' → FinP n P m') : FinP (n + 1) P m := by
  have e := step_start_no v.oc v.ans v.fs rfl
  rw [if_neg (by show ¬ s < m.lastStart; rw [v.last]; exact hs)] at e
  refine .step v.oc e (k _ ?_)
  exact { v with pc := rfl, pos := rfl, out := rfl, fs := rfl, w := by show m.weight - 1 = 0; rw [v.w], ans := rfl }
theorem from1 {text : Array Nat} : ∀ (k s : Nat) (b : Bool) (m : M), text.size = s + k → V c1 text s text.size 5 s s b [fst 5 s b] 1 none m →
    (FinP (6 * k + 6) (fun m' => m'.outcome = some .failed) m ∧ ∀ i, s ≤ i → i < text.size → isDot text i = false) ∨
    (∃ s', FinP (6 * k + 6) (Hit s' (s' + 1)) m ∧ s ≤ s' ∧ s' < text.size ∧ isDot text s' = true ∧ ∀ i, s ≤ i → i < s' → isDot text i = false)
  | 0, s, b, m, hk, v => by
    refine .inl ⟨?_, fun i a b => by walk_at "mine:om"⟩
    cases hb : (s == 0 || text.getD (s - 1) 0 == 10)
    · exact FinP.le (n := 3) (v.at_no (by decide) rfl rfl hb fun m v => v.start_end (by walk_at "mine:om") fun m v => v.end_ fun m' _ _ q => q) (by walk_at "mine:om")
    · exact FinP.le (n := 4) (v.at_yes (by decide) rfl rfl hb fun m v => v.lit_no (by decide) rfl (fun q => by walk_at "mine:om") fun m v => v.start_end (by walk_at "mine:om") fun m v => v.end_ fun m' _ _ q => q) (by walk_at "mine:om")
  | k + 1, s, b, m, hk, v => by
    have hs : s < text.size := by walk_at "mine:om"
    cases hd : isDot text s
    · have next : ∀ m', V c1 text (s + 1) text.size 5 (s + 1) (s + 1) false [fst 5 (s + 1) false] 1 none m' → (∀ m, (∀ n P, FinP n P m' → FinP (n + 3) P m) →
          (FinP (6 * (k + 1) + 6) (fun m' => m'.outcome = some .failed) m ∧ ∀ i, s ≤ i → i < text.size → isDot text i = false) ∨
          (∃ s', FinP (6 * (k + 1) + 6) (Hit s' (s' + 1)) m ∧ s ≤ s' ∧ s' < text.size ∧ isDot text s' = true ∧ ∀ i, s ≤ i → i < s' → isDot text i = false)) := fun m' v' m hm => by
        rcases from1 k (s + 1) false m' (by walk_at "mine:om") v' with ⟨e1, e2⟩ | ⟨s', e1, e2, e3, e4, e5⟩
        · refine .inl ⟨FinP.le (hm _ _ e1) (by walk_at "mine:om"), fun i a b => ?_⟩
          by_cases hi : i = s
          · rw [hi]; exact hd
          · exact e2 i (by walk_at "mine:om") b
        · refine .inr ⟨s', FinP.le (hm _ _ e1) (by walk_at "mine:om"), by walk_at "mine:om", e3, e4, fun i a b => ?_⟩
          by_cases hi : i = s
          · rw [hi]; exact hd
          · exact e5 i (by walk_at "mine:om") b
      have key : ∃ m', V c1 text (s + 1) text.size 5 (s + 1) (s + 1) false [fst 5 (s + 1) false] 1 none m' ∧ ∀ n P, FinP n P m' → FinP (n + 3) P m := by
        cases hb : (s == 0 || text.getD (s - 1) 0 == 10)
        · have h1 := step_at1 v.oc v.ans (by rw [v.pc, v.c]; decide) (by rw [v.pc, v.c]; rfl) (by rw [v.pc, v.c]; rfl)
          rw [if_neg (by rw [v.pos, v.t, hb]; decide)] at h1
          have v1 : V c1 text s text.size 5 s s b [fst 5 s b] 1 (some false) m.step := by rw [h1]; exact { v with ans := rfl }
          refine ⟨m.step.step, ?_, fun n P h => FinP.le (n := n + 2) (.step v.oc rfl (.step v1.oc rfl h)) (by walk_at "mine:om")⟩
          exact next1 v1 hs
        · have hne : text.getD s 0 ≠ 46 := fun q => by
            simp only [isDot, hb, q] at hd
            exact absurd hd (by decide)
          have h1 := step_at1 v.oc v.ans (by rw [v.pc, v.c]; decide) (by rw [v.pc, v.c]; rfl) (by rw [v.pc, v.c]; rfl)
          rw [if_pos (by rw [v.pos, v.t, hb])] at h1
          have v1 : V c1 text s text.size 7 s s b [fst 5 s b] 1 none m.step := by rw [h1]; exact { v with pc := by show m.pc + 2 = 7; rw [v.pc] }
          have h2 := step_lit_no v1.oc v1.ans (by rw [v1.pc, v1.c]; decide) (by rw [v1.pc, v1.c]; rfl) (by rw [v1.t, v1.pos, v1.c, v1.pc]; exact fun _ => hne)
          have v2 : V c1 text s text.size 7 s s b [fst 5 s b] 1 (some false) m.step.step := by rw [h2]; exact { v1 with ans := rfl }
          exact ⟨m.step.step.step, next1 v2 hs, fun n P h => .step v.oc rfl (.step v1.oc rfl (.step v2.oc rfl h))⟩
      obtain ⟨m', v', hm⟩ := key
      exact next m' v' m hm
    · refine .inr ⟨s, ?_, Nat.le_refl _, hs, hd, fun i a b => by walk_at "mine:om"⟩
      simp only [isDot, Bool.and_eq_true, beq_iff_eq] at hd
      exact FinP.le (n := 5) (v.at_yes (by decide) rfl rfl (by simpa using hd.1) fun m v => v.lit (by decide) rfl hs hd.2 fun m v => v.success (by decide) rfl fun m v => v.yes (.inl rfl) fun m v => v.end_ fun m' a b c => ⟨a, b, c⟩) (by walk_at "mine:om")
theorem at1 {text : Array Nat} {p : Nat} {m : M} (hc : m.code = c1) (ht : m.text = text) (hl : m.lim = text.size) (hla : m.lastStart = text.size) (ho : m.outcome = none) (ha : m.answer = none) (hi : m.inner = none) (hf : m.frames = []) (hw : m.weight = 0) (hpc : m.pc = 5) (hwh : m.wholeText = false) (hma : m.mustAdvance = false) :
    V c1 text p text.size 5 p p true [fst 5 p true] 1 none (M.attemptAt m p true) := by
  have e : M.attemptAt m p true = (if m.weight + 1 + 0 > 16777216 then _ else _) := rfl
  rw [if_neg (by rw [hw]; decide)] at e
  rw [e]
  exact ⟨hc, ht, hl, rfl, hla, hpc, rfl, rfl, rfl, by show _ :: m.frames = _; rw [hf, hpc]; rfl, by show m.weight + 1 + 0 = _; rw [hw], ha, hi, hwh, hma, ho, rfl, rfl⟩
theorem from1' {text : Array Nat} {p : Nat} {m : M} (hp : p ≤ text.size) (v : V c1 text p text.size 5 p p true [fst 5 p true] 1 none m) :
    (FinP (6 * text.size + 12) (fun m' => m'.outcome = some .failed) m ∧ ∀ i, p ≤ i → i < text.size → isDot text i = false) ∨
    (∃ s, FinP (6 * text.size + 12) (Hit s (s + 1)) m ∧ p ≤ s ∧ s < text.size ∧ isDot text s = true ∧ ∀ i, p ≤ i → i < s → isDot text i = false) := by
  rcases from1 (text := text) (text.size - p) p true _ (by walk_at "mine:om") v with ⟨e1, e2⟩ | ⟨s', e1, e2⟩
  · exact .inl ⟨FinP.le e1 (by walk_at "mine:om"), e2⟩
  · exact .inr ⟨s', FinP.le e1 (by walk_at "mine:om"), e2⟩
theorem search1 (text : Array Nat) (p : Nat) (hp : p ≤ text.size) :
    (FinP (6 * text.size + 12) (fun m' => m'.outcome = some .failed) (forSearch c1 text 0 p text.size false) ∧ ∀ i, p ≤ i → i < text.size → isDot text i = false) ∨
    (∃ s, FinP (6 * text.size + 12) (Hit s (s + 1)) (forSearch c1 text 0 p text.size false) ∧ p ≤ s ∧ s < text.size ∧ isDot text s = true ∧ ∀ i, p ≤ i → i < s → isDot text i = false) := by
  unfold forSearch
  by_cases hz : p > text.size ∨ text.size - p < 1
  · rw [if_pos (by simpa [header, ops] using hz)]
    exact .inl ⟨⟨_, Ends.le (Ends.step rfl (step_end rfl rfl rfl) (Ends.done rfl)) (by walk_at "mine:om"), rfl⟩, fun i a b => by walk_at "mine:om"⟩
  · rw [if_neg (by simpa [header, ops] using hz)]
    unfold M.attemptFrom
    rw [if_pos (by show ((!false) = true); decide)]
    exact from1' hp (at1 rfl rfl rfl rfl rfl rfl rfl rfl rfl rfl rfl rfl)
end
end Mine
end
section
open PySem PySem.Spec PySem.Calls PyProof.Rows PySem.W PySem.Builtin PySem.Builtin.Str
namespace Mine
section
variable {prog : Program} {w : World} {A : Around} {E : Value → Shared → Prop} {s : Shared}
open PySem.Builtin.Re
theorem drive : ∀ (k : Nat) {m m' : Sre.M} (t : Nat) {Q : Sre.M → Shared → Prop}, Ends (4 * (k + 1)) m m' → k < t → Q m' s → wpAny (model prog w) A (reDrive t m) Q E s
  | k, m, m', 0, Q, h, ht, hq => by walk_at "mine:om"
  | 0, m, m', t + 1, Q, h, ht, hq => by
    unfold reDrive
    have e : m.runFor reTurnSteps = m' := h.1
    simp only [e, h.2, if_true]
    exact wpAny_pure hq
  | k + 1, m, m', t + 1, Q, h, ht, hq => by
    unfold reDrive
    have e : Sre.M.runFor (4 + 4 * (k + 1)) m = m' := by have := h.1; rwa [show 4 * (k + 1 + 1) = 4 + 4 * (k + 1) from by walk_at "mine:om"] at this
    rw [runFor_add] at e
    cases ho : (Sre.M.runFor 4 m).outcome.isSome
    · show wpAny _ _ (if (Sre.M.runFor 4 m).outcome.isSome = true then _ else _) _ _ _
      rw [ho, if_neg (by decide)]
      exact wpAny_bind (wpAny_rule (drive k t ⟨e, h.2⟩ (by walk_at "mine:om") hq))
    · rw [runFor_done ho] at e
      show wpAny _ _ (if (Sre.M.runFor 4 m).outcome.isSome = true then _ else _) _ _ _
      rw [ho, if_pos rfl]
      exact wpAny_pure (by show Q (Sre.M.runFor 4 m) s; rw [e]; exact hq)
theorem runToEnd {m : Sre.M} {n : Nat} {P : Sre.M → Prop} {Q : Option Sre.M → Shared → Prop} (h : FinP n P m) (hn : n ≤ 100000000) (k1 : ∀ m', P m' → m'.outcome = some .matched → Q (some m') s) (k2 : ∀ m', P m' → m'.outcome = some .failed → Q none s)
    (hP : ∀ m', P m' → m'.outcome = some .matched ∨ m'.outcome = some .failed) : wpAny (model prog w) A (reRunToEnd m) Q E s := by
  obtain ⟨m', he, hp⟩ := h
  unfold reRunToEnd
  refine wpAny_bind (drive n _ (he.le (by walk_at "mine:om")) (by walk_at "mine:om") ?_)
  refine wpAny_bind (wpAny_forIn_list _ (fun _ _ s' => s' = s) _ (fun x rest b s' hs => ?_) (fun b s' hs => ?_) _ _ rfl)
  · subst hs
    refine wpAny_ite_split (fun _ => ?_) (fun _ => ?_)
    · exact wpAny_bind (wpAny_rule (wpAny_pure rfl))
    · exact wpAny_pure rfl
  · subst hs
    rcases hP m' hp with q | q
    · rw [q]; exact wpAny_pure (k1 m' hp q)
    · rw [q]; exact wpAny_pure (k2 m' hp q)
theorem entry_sub : entryFor table "re.Pattern.sub" = some Builtin.«re.Pattern.sub» := entryFor_of_tree (by kernel_rfl)
theorem entry_sub_loop : entryFor table "re.Pattern.sub.loop" = some Builtin.«re.Pattern.sub.loop» := entryFor_of_tree (by kernel_rfl)
theorem plain_sub_loop : plainId "re.Pattern.sub.loop" = true := by decide +kernel
theorem plain_sub : plainId "re.Pattern.sub" = true := by decide +kernel
theorem slot_sub : PySem.Slot "re.Pattern" "sub" "re.Pattern.sub" :=
  .of (owner := "re.Pattern") (n := "sub") (by rw [typeLookup_type, builtinLookup_eq_fast]; kernel_rfl) (by decide +kernel) (by decide +kernel) (by decide +kernel)
    (by first | exact .inl (by decide +kernel) | exact .inr (by decide +kernel)) (by rw [isSubtype_type]; kernel_rfl)
theorem type_sub : typeOf (.builtin "re.Pattern.sub") = pure (.type "method_descriptor") := by show builtinType _ = _; rw [builtinType_eq_fast]; kernel_rfl
theorem plainAttrs_pattern : PlainAttrs "re.Pattern" :=
  ⟨⟨"object.__getattribute__", by rw [typeLookup_type, builtinLookup_eq_fast]; kernel_rfl, by decide +kernel⟩, by rw [typeLookup_type, builtinLookup_eq_fast]; kernel_rfl⟩
theorem str_no_call : typeLookup (.type "str") "__call__" = pure none := by rw [typeLookup_type, builtinLookup_eq_fast]; kernel_rfl
theorem args_sub (a b c : Value) : argsOk "re.Pattern.sub" ⟨[a, b, c], []⟩ := by
  unfold argsOk; kernel_rfl
end
end Mine
end
section
open PySem PySem.Spec PySem.Calls PyProof.Rows PySem.W PySem.Builtin PySem.Builtin.Str
namespace Mine
inductive SubIs (hit : Array Nat → Nat → Bool) (len : Array Nat → Nat → Nat) (text : Array Nat) (repl : List Nat) : Nat → List Nat → Prop
  | stop (p : Nat) (h : ∀ i, p ≤ i → i < text.size → hit text i = false) (hp : p ≤ text.size) : SubIs hit len text repl p (text.toList.drop p)
  | hit (p s : Nat) (r : List Nat) (h1 : p ≤ s) (h2 : s < text.size) (h3 : hit text s = true) (h4 : ∀ i, p ≤ i → i < s → hit text i = false) (h : SubIs hit len text repl (s + len text s) r) :
      SubIs hit len text repl p ((text.toList.drop p).take (s - p) ++ (repl ++ r))
structure PatOk (code : Array Nat) (hit : Array Nat → Nat → Bool) (len : Array Nat → Nat → Nat) : Prop where
  find : ∀ (text : Array Nat) (p : Nat), p ≤ text.size → text.size ≤ 10000 → ∃ n, n ≤ 100000000 ∧
    ((FinP n (fun m' => m'.outcome = some .failed) (Sre.forSearch code text 0 p text.size false) ∧ ∀ i, p ≤ i → i < text.size → hit text i = false) ∨
    (∃ s, FinP n (Hit s (s + len text s)) (Sre.forSearch code text 0 p text.size false) ∧ p ≤ s ∧ s < text.size ∧ hit text s = true ∧ ∀ i, p ≤ i → i < s → hit text i = false))
  pos : ∀ text s, 1 ≤ len text s
theorem pat2 : PatOk c2 (fun text i => isEol (text.getD i 0)) eolLen where
  find text p hp hz := ⟨24, by decide, search2 text p hp⟩
  pos text s := by unfold eolLen; split <;> walk_at "mine:om"
theorem pat1 : PatOk c1 isDot (fun _ _ => 1) where
  find text p hp hz := ⟨6 * text.size + 12, by walk_at "mine:om", search1 text p hp⟩
  pos text s := Nat.le_refl _
structure PatAt (h : Heap) (P : Addr) (code : Array Nat) : Prop where
  ex : ∃ (fs : Array Value) (T : Addr) (ws : Array Value) (n : Nat), h.get? P = some { cls := .type "re.Pattern", data := .fields fs } ∧ fs.getD 5 .none = .ref T ∧ Builtin.Re.reRawNat (fs.getD 2 .none) = 0 ∧ Builtin.Re.reRawNat (fs.getD 6 .none) = 0 ∧
    h.get? T = some { cls := .type "tuple", data := .seq ws n } ∧ (ws.map Builtin.Re.reRawOf).map (·.toNat) = code
section
variable {prog : Program} {w : World} {A : Around} {E : Value → Shared → Prop} {s : Shared} {code : Array Nat} {hit : Array Nat → Nat → Bool} {len : Array Nat → Nat → Nat}
open PySem.Builtin.Re
theorem whole_target {P : Addr} {x : Str} {v : Tok} {Q : ReTarget → Shared → Prop} (hp : PatAt s.heap P code) (h : Q { pattern := .ref P, string := .str x v, code, text := x.cps, kind := 0, groups := 0, pos := 0, lim := x.cps.size } s) :
    wpAny (model prog w) A (reWholeTarget (.ref P) (.str x v)) Q E s := by
  obtain ⟨fs, T, ws, n, h1, h2, h3, h4, h5, h6⟩ := hp.ex
  unfold reWholeTarget
  refine wpAny_bind (wpAny_fieldsOf h1 rfl ?_)
  refine wpAny_bind (wpAny_pure (a := (x.cps, 0)) ?_)
  simp only [h4, h3, h2]
  refine wpAny_ite_split (fun q => absurd q (by decide)) (fun _ => ?_)
  refine wpAny_ite_split (fun q => absurd q (by decide)) (fun _ => ?_)
  refine wpAny_bind (wpAny_pure ?_)
  unfold reRawItems
  refine wpAny_bind (wpAny_bind (wpAny_seqItems h5 rfl (wpAny_pure ?_)))
  refine wpAny_pure ?_
  simpa [h6] using h
end
end Mine
end
section
open PySem PySem.Spec PySem.Calls PyProof.Rows PySem.W PySem.Builtin PySem.Builtin.Str
namespace Mine
theorem PatAt.keep {h h' : Heap} {P l : Addr} {code : Array Nat} {its : List Value} {n : Nat} (x : PatAt h P code) (hl : h.get? l = some (lO its n)) (k : ∀ b o, b ≠ l → h.get? b = some o → h'.get? b = some o) : PatAt h' P code := by
  obtain ⟨fs, T, ws, m, h1, h2, h3, h4, h5, h6⟩ := x.ex
  refine ⟨fs, T, ws, m, k _ _ (fun q => ?_) h1, h2, h3, h4, k _ _ (fun q => ?_) h5, h6⟩
  · rw [q, hl] at h1; have h1' := congrArg Obj.cls (Option.some.inj h1); simp at h1'
  · rw [q, hl] at h5; have h5' := congrArg Obj.cls (Option.some.inj h5); simp at h5'
noncomputable def cat (L : List (Str × Tok)) : List Nat := (L.map fun p => p.1.cps.toList).flatten
theorem cat_snoc (L : List (Str × Tok)) (p : Str × Tok) : cat (L ++ [p]) = cat L ++ p.1.cps.toList := by simp [cat]
theorem lens_snoc (L : List (Str × Tok)) (p : Str × Tok) : ((L ++ [p]).map (·.1.length)).sum = (L.map (·.1.length)).sum + p.1.length := by simp
theorem strValues_snoc (L : List (Str × Tok)) (x : Str) (t : Tok) : strValues (L ++ [(x, t)]) = strValues L ++ [.str x t] := by simp [strValues]
theorem join_empty_cps : ∀ (xs : List Str), (Txt.join "" xs).cps.toList = (xs.map fun x => x.cps.toList).flatten
  | [] => rfl
  | [x] => by
    show (glued "" [x]).cps.toList = _
    rw [StrLaws.glued_eq_join]
    show x.cps.toList = _
    simp
  | x :: y :: r => by
    have ih := join_empty_cps (y :: r)
    unfold Txt.join at ih ⊢
    rw [StrLaws.glued_eq_join] at ih ⊢
    show (x ++ ("" : Str) ++ Str.join "" (y :: r)).cps.toList = _
    rw [Str.cps_append, Str.cps_append, Array.toList_append, Array.toList_append, ih]
    simp
    rfl
section
variable {prog : Program} {w : World} {A : Around} {E : Value → Shared → Prop} {code : Array Nat} {hit : Array Nat → Nat → Bool} {len : Array Nat → Nat → Nat}
open PySem.Builtin.Re
theorem push_piece {s : Shared} {l : Addr} {L : List (Str × Tok)} {k : Nat} {x : Str} {t : Tok} {Q : Unit → Shared → Prop} (hl : s.heap.get? l = some (lO (strValues L) k)) (hz : L.length ≤ 30000)
    (h : ∀ h' k', (∀ b o, b ≠ l → s.heap.get? b = some o → h'.get? b = some o) → h'.get? l = some (lO (strValues (L ++ [(x, t)])) k') → Q () { s with heap := h' }) : wpAny (model prog w) A (updateSeq l (·.push (.str x t))) Q E s := by
  obtain ⟨q1, n', q2⟩ := list_update (f := fun xs => xs.push (.str x t)) (jts := strValues (L ++ [(x, t)])) hl (by rw [strValues_snoc]; simp)
  have hlen : (strValues L).length = L.length := by simp [strValues]
  refine wpAny_updateSeq hl rfl (h _ n' (fun b o hb e => (q1.2 b hb).trans e) q2) ?_ ?_
  · show (strValues L).toArray.size ≤ sizeLine
    rw [List.size_toArray, hlen]; exact Nat.le_trans hz (by decide)
  · show ((strValues L).toArray.push _).size ≤ sizeLine + 1
    rw [Array.size_push, List.size_toArray, hlen]; exact Nat.succ_le_succ (Nat.le_trans hz (by decide))
theorem slice_cps (x : Str) (a b : Nat) (hb : b ≤ x.cps.size) : (x.cps.extract a b).toList = (x.cps.toList.drop a).take (b - a) := by
  simp [Array.toList_extract]
theorem slice_wp {s : Shared} {A : Around} {text : Array Nat} {a b : Nat} {Q : Value → Shared → Prop} (hb : (text.extract a b).size ≤ sizeLine) (h : Q (.str ⟨text.extract a b⟩ s.toks) { s with toks := s.toks + 1 }) : wpAny (model prog w) A (reSlice text 0 a b) Q E s := by
  unfold reSlice
  exact wpAny_ite_split (fun _ => wpAny_mkStr (x := ⟨text.extract a b⟩) h hb) (fun q => absurd rfl q)
theorem loop_end {n : Int} {s : Shared} {x : Str} {l : Addr} {L : List (Str × Tok)} {k : Nat} {R : Result → Shared → Prop} (hl : s.heap.get? l = some (lO (strValues L) k)) (hL : L.length ≤ 30000) (hsum : (L.map (·.1.length)).sum ≤ 1000000)
    (hR : ∀ tk t, R (.ok (.ret (.str ⟨(cat L).toArray⟩ t))) { s with toks := tk }) :
    wpAny (model prog w) A.in1 (do
      let joiner ← reSlice x.cps 0 0 0
      let text ← if ((← seqItems? (.ref l)).getD #[]).isEmpty then pure joiner else call (.builtin (if 0 == 0 then "str.join" else "bytes.join")) [joiner, .ref l]
      if false then ret (← holding [text] do newTuple [text, ← mkInt n]) else ret text) (fun fin s' => match fin with | .done f => R (.ok f) s' | .again c' => c'.quiet = true ∧ codeAny (model prog w) A c' R s') (fun e s' => R (.error e) s') s := by
  have hsl : sizeLine = 16777216 := by decide
  have e0 : (⟨x.cps.extract 0 0⟩ : Str) = "" := by
    have : x.cps.extract 0 0 = #[] := by simp
    rw [this]; rfl
  refine wpAny_bind (slice_wp (by simp) ?_)
  refine wpAny_bind (wpAny_seqItems (s := { s with toks := s.toks + 1 }) hl rfl ?_)
  rw [e0]
  show wpAny _ _ (if ((strValues L).toArray).isEmpty = true then _ else _) _ _ _
  cases L with
  | nil =>
    refine wpAny_ite_split (fun _ => ?_) (fun q => absurd (by rfl) q)
    exact wpAny_bind (wpAny_pure (wpAny_ite_split (fun q => absurd q (by decide)) (fun _ => wpAny_pure (hR _ _))))
  | cons p L =>
    refine wpAny_ite_split (fun q => absurd q (by simp [strValues])) (fun _ => ?_)
    refine wpAny_bind (SC.join (D := l) (l := p :: L) (x := "") (texts := (p :: L).map (·.1)) ⟨_, hl, rfl, _, rfl⟩ rfl ?_ fun t' tk => wpAny_ite_split (fun q => absurd q (by decide)) (fun _ => wpAny_pure ?_))
    · unfold JoinOk tooLong
      rw [StrLaws.joinTotal, hsl]
      have : (("" : Str)).length = 0 := rfl
      rw [this]
      simp only [Bool.not_eq_true', decide_eq_false_iff_not, Nat.not_lt, List.map_map, Nat.mul_zero, Nat.add_zero]
      refine Nat.le_trans (Nat.le_of_eq ?_) (Nat.le_trans hsum (by decide))
      rfl
    · have e : Txt.join "" ((p :: L).map (·.1)) = ⟨(cat (p :: L)).toArray⟩ := by
        have h := join_empty_cps ((p :: L).map (·.1))
        have : (Txt.join "" ((p :: L).map (·.1))).cps = (cat (p :: L)).toArray := by
          rw [← Array.toList_inj]
          rw [h, List.map_map]; rfl
        cases hq : Txt.join "" ((p :: L).map (·.1)) with
        | mk c => rw [hq] at this; simp only at this; rw [this]
      rw [e]
      exact hR _ _
theorem sub_loop {P l : Addr} {x z : Str} {u v : Tok} {R : Result → Shared → Prop} (pk : PatOk code hit len) (hz : x.cps.size ≤ 10000) (hzz : z.length ≤ 10) :
    ∀ {p : Nat} {r : List Nat}, SubIs hit len x.cps z.cps.toList p r → ∀ (n : Int) (s : Shared) (L : List (Str × Tok)) (k : Nat), PatAt s.heap P code → s.heap.get? l = some (lO (strValues L) k) → L.length ≤ 2 * p → (L.map (·.1.length)).sum ≤ 11 * p →
    (∀ h' tk t, (∀ b o, b ≠ l → s.heap.get? b = some o → h'.get? b = some o) → R (.ok (.ret (.str ⟨(cat L ++ r).toArray⟩ t))) { s with heap := h', toks := tk }) →
    codeAny (model prog w) A (.builtin "re.Pattern.sub.loop" ⟨[.ref P, .str x v, .str z u, .int 0 0, .int 0 0, .int n 0, .int (p : Int) 0, .int (p : Int) 0, .bool false, .ref l, .bool false], []⟩) R s := by
  intro p r hs
  have hsl : sizeLine = 16777216 := by decide
  induction hs with
  | stop p h hp =>
    intro n s L k hpat hl hL hsum hR
    refine codeAny_builtin entry_sub_loop ?_
    rw [Around.under_plainId plain_sub_loop]
    unfold Builtin.«re.Pattern.sub.loop»
    refine wpAny_bind (whole_target hpat ?_)
    refine wpAny_ite_split (fun _ => ?_) (fun q => absurd rfl q)
    refine wpAny_bind ?_
    refine wpAny_bind (wpAny_pure (a := some z) ?_)
    refine wpAny_ite_split (fun q => absurd q (by simp)) (fun _ => wpAny_pure ?_)
    refine wpAny_bind ?_
    show wpAny _ _ (reNextFound _ ((p : Int).toNat) false) _ _ _
    rw [Int.toNat_natCast]
    unfold reNextFound
    obtain ⟨n0, hn0, hf⟩ := pk.find x.cps p hp hz
    rcases hf.symm with ⟨s', f, a, b, c, d⟩ | ⟨f, hnone⟩
    · exact absurd (h s' a b) (by rw [c]; decide)
    refine runToEnd f hn0 (fun m' q o => by rw [q] at o; cases o) (fun m' _ _ => ?_) (fun m' q => .inr q)
    have hlt : (strValues L).length = L.length := by simp [strValues]
    refine wpAny_ite_split (fun hlt => ?_) (fun hge => ?_)
    · have hp' : p < x.cps.size := hlt
      have hlen : (⟨x.cps.extract p x.cps.size⟩ : Str).length = x.cps.size - p := by show (x.cps.extract p x.cps.size).size = _; simp
      refine wpAny_bind (slice_wp (text := x.cps) (a := p) (b := x.cps.size) (by show (⟨x.cps.extract p x.cps.size⟩ : Str).length ≤ _; rw [hlen]; walk_at "mine:om") ?_)
      refine wpAny_bind (push_piece (s := { s with toks := s.toks + 1 }) hl (by walk_at "mine:om") fun h' k' hk hl' => ?_)
      refine loop_end (s := { s with heap := h', toks := s.toks + 1 }) hl' (by simp; walk_at "mine:om") (by rw [lens_snoc, hlen]; walk_at "mine:om") fun tk t => ?_
      have := hR h' tk t hk
      rw [cat_snoc]
      have e : (x.cps.extract p x.cps.size).toList = List.drop p x.cps.toList := by
        rw [slice_cps _ _ _ (Nat.le_refl _)]
        exact List.take_of_length_le (by simp)
      show R (.ok (.ret (.str ⟨(cat L ++ (x.cps.extract p x.cps.size).toList).toArray⟩ t))) _
      rw [e]; exact this
    · have hp' : ¬ p < x.cps.size := hge
      refine loop_end hl (by walk_at "mine:om") (by walk_at "mine:om") fun tk t => ?_
      have := hR s.heap tk t fun b o _ e => e
      rw [List.drop_of_length_le (by simp; walk_at "mine:om"), List.append_nil] at this
      exact this
  | hit p s' r h1 h2 h3 h4 h ih =>
    intro n s L k hpat hl hL hsum hR
    refine codeAny_builtin entry_sub_loop ?_
    rw [Around.under_plainId plain_sub_loop]
    unfold Builtin.«re.Pattern.sub.loop»
    refine wpAny_bind (whole_target hpat ?_)
    refine wpAny_ite_split (fun _ => ?_) (fun q => absurd rfl q)
    refine wpAny_bind ?_
    refine wpAny_bind (wpAny_pure (a := some z) ?_)
    refine wpAny_ite_split (fun q => absurd q (by simp)) (fun _ => wpAny_pure ?_)
    refine wpAny_bind ?_
    show wpAny _ _ (reNextFound _ ((p : Int).toNat) false) _ _ _
    rw [Int.toNat_natCast]
    unfold reNextFound
    obtain ⟨n0, hn0, hf⟩ := pk.find x.cps p (by walk_at "mine:om") hz
    rcases hf with ⟨f, hnone⟩ | ⟨s'', f, a, b, c, d⟩
    · rw [hnone s' h1 h2] at h3; cases h3
    have es : s'' = s' := by
      rcases Nat.lt_trichotomy s'' s' with q | q | q
      · rw [h4 s'' a q] at c; cases c
      · exact q
      · rw [d s' h1 q] at h3; cases h3
    subst es
    refine runToEnd f hn0 (fun m' q _ => ?_) (fun m' q o => by rw [q.2.2] at o; cases o) (fun m' q => .inl q.2.2)
    obtain ⟨q1, q2, q3⟩ := q
    have hpos := pk.pos x.cps s''
    have hlt : (strValues L).length = L.length := by simp [strValues]
    have tail : ∀ (s : Shared) (L' : List (Str × Tok)) (k' : Nat), PatAt s.heap P code → s.heap.get? l = some (lO (strValues L') k') → L'.length ≤ 2 * p + 1 → (L'.map (·.1.length)).sum ≤ 11 * p + (s'' - p) →
        (∀ h' tk t, (∀ b o, b ≠ l → s.heap.get? b = some o → h'.get? b = some o) → R (.ok (.ret (.str ⟨(cat L' ++ (z.cps.toList ++ r)).toArray⟩ t))) { s with heap := h', toks := tk }) →
        wpAny (model prog w) A.in1 (do
          updateSeq l fun x => x.push (.str z u)
          again (.builtin "re.Pattern.sub.loop" ⟨[.ref P, .str x v, .str z u, rawInt 0, rawInt 0, rawInt (n + 1), rawInt m'.handed, rawInt m'.handed, .bool (m'.handed == m'.start), .ref l, .bool false], []⟩))
          (fun fin s' => match fin with | .done f => R (.ok f) s' | .again c' => c'.quiet = true ∧ codeAny (model prog w) A c' R s') (fun e s' => R (.error e) s') s := fun s L' k' hp' hl' hL' hsum' hR' => by
      refine wpAny_bind (push_piece hl' (by walk_at "mine:om") fun h' k'' hk hl'' => wpAny_pure ⟨plainId_quiet plain_sub_loop _, ?_⟩)
      have hb : (m'.handed == m'.start) = false := by rw [q1, q2]; simp; walk_at "mine:om"
      rw [hb, q2]
      refine ih (n + 1) { s with heap := h' } (L' ++ [(z, u)]) k'' (hp'.keep hl' hk) hl'' (by simp; walk_at "mine:om") (by rw [lens_snoc]; show _ + z.length ≤ _; walk_at "mine:om") fun h2 tk t hk2 => ?_
      have := hR' h2 tk t fun b o hb e => hk2 b o hb (hk b o hb e)
      rw [cat_snoc]
      simpa using this
    refine wpAny_ite_split (fun hlt => ?_) (fun hge => ?_)
    · rw [q1] at hlt ⊢
      have hlen : (⟨x.cps.extract p s''⟩ : Str).length = s'' - p := by show (x.cps.extract p s'').size = _; simp; walk_at "mine:om"
      refine wpAny_bind (slice_wp (text := x.cps) (a := p) (b := s'') (by show (⟨x.cps.extract p s''⟩ : Str).length ≤ _; rw [hlen]; walk_at "mine:om") ?_)
      refine wpAny_bind (push_piece (s := { s with toks := s.toks + 1 }) hl (by walk_at "mine:om") fun h' k' hk hl' => ?_)
      refine wpAny_ite_split (fun _ => ?_) (fun q => absurd rfl q)
      refine wpAny_bind (wpAny_pure ?_)
      refine wpAny_ite_split (fun _ => ?_) (fun q => absurd (by rfl) q)
      refine q1 ▸ tail { s with heap := h', toks := s.toks + 1 } _ k' (hpat.keep hl hk) hl' (by simp; walk_at "mine:om") (by rw [lens_snoc, hlen]; walk_at "mine:om") fun h2 tk t hk2 => ?_
      have := hR h2 tk t fun b o hb e => hk2 b o hb (hk b o hb e)
      rw [cat_snoc]
      have e : (x.cps.extract p s'').toList = (List.drop p x.cps.toList).take (s'' - p) := slice_cps _ _ _ (by walk_at "mine:om")
      show R (.ok (.ret (.str ⟨(cat L ++ (x.cps.extract p s'').toList ++ (z.cps.toList ++ r)).toArray⟩ t))) _
      rw [e]
      simpa using this
    · have hps : s'' = p := by rw [q1] at hge; have : ¬ p < s'' := hge; walk_at "mine:om"
      refine wpAny_ite_split (fun _ => ?_) (fun q => absurd rfl q)
      refine wpAny_bind (wpAny_pure ?_)
      refine wpAny_ite_split (fun _ => ?_) (fun q => absurd (by rfl) q)
      refine tail s _ k hpat hl (by walk_at "mine:om") (by walk_at "mine:om") fun h2 tk t hk2 => ?_
      have := hR h2 tk t hk2
      rw [hps, Nat.sub_self, List.take_zero, List.nil_append] at this
      exact this
end
end Mine
end
section
open PySem PySem.Spec PySem.Calls PyProof.Rows PySem.W PySem.Builtin PySem.Builtin.Str
namespace Mine
theorem PatAt.all {h h' : Heap} {P : Addr} {code : Array Nat} (x : PatAt h P code) (k : ∀ b o, h.get? b = some o → h'.get? b = some o) : PatAt h' P code := by
  obtain ⟨fs, T, ws, m, h1, h2, h3, h4, h5, h6⟩ := x.ex
  exact ⟨fs, T, ws, m, k _ _ h1, h2, h3, h4, k _ _ h5, h6⟩
section
variable {prog : Program} {w : World} {A : Around} {E : Value → Shared → Prop} {code : Array Nat} {hit : Array Nat → Nat → Bool} {len : Array Nat → Nat → Nat}
open PySem.Builtin.Re
theorem call_sub {s : Shared} {P : Addr} {x z : Str} {u v : Tok} {r : List Nat} {Q : Value → Shared → Prop} (pk : PatOk code hit len) (hp : PatAt s.heap P code) (hz : x.cps.size ≤ 10000) (hzz : z.length ≤ 10) (h92 : z.cps.contains 92 = false)
    (hs : SubIs hit len x.cps z.cps.toList 0 r) (k : ∀ h' tk t, (∀ b o, s.heap.get? b = some o → h'.get? b = some o) → Q (.str ⟨r.toArray⟩ t) { s with heap := h', toks := tk }) :
    wpAny (model prog w) A (call (.builtin "re.Pattern.sub") [.ref P, .str z u, .str x v]) Q E s := by
  obtain ⟨fs, T, ws, m, h1, _⟩ := hp.ex
  have hT : s.TypeIs (.ref P) "re.Pattern" := ⟨_, h1, rfl⟩
  refine wpAny_call (codeAny_call_builtin slot_sub.plain entry_sub (slot_sub.check _ _ _ _ _ _ _ _ hT (args_sub _ _ _) ?_))
  show wpAny _ _ (reSubstitute "re.Pattern.sub" "sub" false ⟨[.ref P, .str z u, .str x v], []⟩) _ _ _
  unfold reSubstitute
  have hn : reNamed "re.Pattern.sub" "sub" ["repl", "string", "count"] 2 [.str z u, .str x v] [] = pure [some (.str z u), some (.str x v), none] := by rfl
  show wpAny _ _ (reNamed "re.Pattern.sub" "sub" ["repl", "string", "count"] 2 [.str z u, .str x v] [] >>= _) _ _ _
  rw [hn]
  refine wpAny_bind (wpAny_pure ?_)
  refine wpAny_bind (wpAny_pure (a := (0 : Int)) ?_)
  refine wpAny_bind (wpAny_specialOf (typeIs_str _ _ _) str_no_call ?_)
  refine wpAny_ite_split (fun q => absurd q (by decide)) (fun _ => ?_)
  refine wpAny_bind (wpAny_pure (a := some z) (wpAny_bind (wpAny_pure ?_)))
  refine wpAny_ite_split (fun q => absurd q (by decide)) (fun _ => ?_)
  refine wpAny_ite_split (fun _ => ?_) (fun q => absurd (by rw [h92]; rfl) q)
  refine wpAny_bind (wpAny_pure ?_)
  refine wpAny_bind (wpAny_holding (whole_target hp ?_))
  refine wpAny_ite_split (fun q => absurd q (by decide)) (fun _ => ?_)
  refine wpAny_bind (wpAny_newList ?_ (by decide))
  refine wpAny_pure ⟨plainId_quiet plain_sub_loop _, ?_⟩
  refine sub_loop (l := s.heap.objs.size) pk hz hzz hs 0 _ [] 0 (hp.all fun b o e => Heap.get?_push_of_some _ e) (Heap.get?_push_size _ rfl) (by simp) (by simp) fun h' tk t hk => ?_
  exact k h' tk t fun b o e => hk b o (fun q => by rw [q, none_at_size] at e; cases e) (Heap.get?_push_of_some _ e)
end
section
variable {C : Cx} {σ : Loc} {code : Array Nat} {hit : Array Nat → Nat → Bool} {len : Array Nat → Nat → Nat}
theorem Ev_gstr {x y : Str} {t : Tok} {pos : Pos} (hg : GlobalIs C.B x (.str y t)) (hk : C.env.kindOf x = some .globalImplicit) (hd : (x == ("__debug__" : Str)) = false) : Ev C σ (.Name x pos) (.str y) := fun W s Q E H k => by
  have k' := k s (.str y t) (.refl _ _) Rd.str
  obtain ⟨mg, hg, h | ⟨h, mb, hb, h'⟩⟩ := hg
  · exact Name_function_global H.fun_ hk (loadGlobal_global (by rw [H.genv.1]; exact hg.keeps H.base) h k') hd
  · exact Name_function_global H.fun_ hk (loadGlobal_builtin (by rw [H.genv.1]; exact hg.keeps H.base) h (by rw [H.genv.2]; exact hb.keeps H.base) h' k') hd
theorem Ev_sub {pn : Str} {P : Addr} {np apos pos : Pos} {e1 e2 : Expr} {x z : Str} {r : List Nat} (pk : PatOk code hit len) (hP : PatAt C.B P code) (hk : C.env.kindOf pn = some .globalImplicit) (hm : (pn, Value.ref P) ∈ gtable) (hd : (pn == ("__debug__" : Str)) = false)
    (h1 : Ev C σ e1 (.str z)) (h2 : Ev C σ e2 (.str x)) (hz : x.cps.size ≤ 10000) (hzz : z.length ≤ 10) (h92 : z.cps.contains 92 = false) (hs : SubIs hit len x.cps z.cps.toList 0 r)
    (hb : MBase C (.Name pn np) "sub") (hst : starEach [e1, e2] C.env = [(false, eval e1 C.env), (false, eval e2 C.env)]) (hl : (apos.endLine == pos.line) = true) :
    Ev C σ (.Call (.Attribute (.Name pn np) "sub" apos) [e1, e2] [] pos) (.str ⟨r.toArray⟩) := fun W s Q E H k => by
  refine Call_method2 hb hst hl (global_sound H hk hm hd ?_)
  have hP' : PatAt s.heap P code := hP.all H.base
  obtain ⟨fs, T, ws, m, g1, _⟩ := hP'.ex
  refine ⟨"re.Pattern", "re.Pattern.sub", plainAttrs_pattern, slot_sub, type_sub, ⟨_, g1, rfl⟩, fun a e => by cases e; exact ⟨_, g1, rfl⟩, ?_⟩
  refine callWith_builtin (by rfl) (evalArgs_plain (spliced_cons (h1 W s _ E H fun s₁ v1 K₁ r1 => spliced_cons (h2 W s₁ _ E (H.kept K₁) fun s₂ v2 K₂ r2 => spliced_nil ?_))))
  obtain ⟨t1, rfl⟩ := r1.str_inv
  obtain ⟨t2, rfl⟩ := r2.str_inv
  refine call_sub pk (hP.all ((H.kept K₁).kept K₂).base) hz hzz h92 hs fun h' tk t hk' => ?_
  exact k _ _ ((K₁.trans K₂).trans (.heap hk')) Rd.str
end
end Mine
end
section
open PySem PySem.Spec PySem.Calls PyProof.Rows PySem.W PySem.Builtin PySem.Builtin.Str
namespace Mine
noncomputable def fixE : List Nat → List Nat
  | [] => []
  | 13 :: 10 :: r => 13 :: 10 :: fixE r
  | c :: r => if c = 10 ∨ c = 13 then 13 :: 10 :: fixE r else c :: fixE r
noncomputable def dotE : Bool → List Nat → List Nat
  | _, [] => []
  | b, c :: r => if (b && c == 46) = true then 46 :: 46 :: dotE false r else c :: dotE (c == 10) r
theorem SubIs.back {hit : Array Nat → Nat → Bool} {len : Array Nat → Nat → Nat} {text : Array Nat} {repl r : List Nat} {p : Nat} (hp : p < text.size) (hh : hit text p = false) (h : SubIs hit len text repl (p + 1) r) :
    SubIs hit len text repl p (text.getD p 0 :: r) := by
  have ed : text.toList.drop p = text.getD p 0 :: text.toList.drop (p + 1) := by
    rw [List.drop_eq_getElem_cons (by simpa using hp)]
    simp [Array.getD, hp]
  cases h with
  | stop _ h hp' =>
    rw [← ed]
    refine .stop p (fun i a b => ?_) (by walk_at "mine:om")
    by_cases hi : i = p
    · rw [hi]; exact hh
    · exact h i (by walk_at "mine:om") b
  | hit _ s r h1 h2 h3 h4 h =>
    have e : text.getD p 0 :: ((text.toList.drop (p + 1)).take (s - (p + 1)) ++ (repl ++ r)) = (text.toList.drop p).take (s - p) ++ (repl ++ r) := by
      rw [ed]
      have : s - p = (s - (p + 1)) + 1 := by walk_at "mine:om"
      rw [this, List.take_succ_cons]; rfl
    rw [e]
    refine .hit p s r (by walk_at "mine:om") h2 h3 (fun i a b => ?_) h
    by_cases hi : i = p
    · rw [hi]; exact hh
    · exact h4 i (by walk_at "mine:om") b
theorem drop_cons (text : Array Nat) {p : Nat} (hp : p < text.size) : text.toList.drop p = text.getD p 0 :: text.toList.drop (p + 1) := by
  rw [List.drop_eq_getElem_cons (by simpa using hp)]
  simp [Array.getD, hp]
theorem fixE_cons {c : Nat} {r : List Nat} (h : ¬ (c = 13 ∧ ∃ r', r = 10 :: r')) : fixE (c :: r) = if c = 10 ∨ c = 13 then 13 :: 10 :: fixE r else c :: fixE r := by
  rw [fixE.eq_def]
  split
  · rename_i e; exact nomatch e
  · rename_i r' e
    injection e with e1 e2
    exact absurd ⟨e1, r', e2⟩ h
  · rename_i e
    injection e with e1 e2
    subst e1; subst e2
    rfl
theorem sub_fix (text : Array Nat) : ∀ (k p : Nat), p + k = text.size → SubIs (fun text i => isEol (text.getD i 0)) eolLen text [13, 10] p (fixE (text.toList.drop p)) := by
  intro k
  induction k using Nat.strongRecOn with
  | ind k ih =>
    intro p hk
    by_cases hp : p < text.size
    · rw [drop_cons text hp]
      by_cases h2 : text.getD p 0 = 13 ∧ p + 1 < text.size ∧ text.getD (p + 1) 0 = 10
      · have el : eolLen text p = 2 := if_pos h2
        rw [drop_cons text h2.2.1, h2.1, h2.2.2]
        have := SubIs.hit (hit := fun text i => isEol (text.getD i 0)) (len := eolLen) (text := text) (repl := [13, 10]) p p _ (Nat.le_refl _) hp (by show isEol (text.getD p 0) = true; rw [h2.1]; rfl) (fun i a b => by walk_at "mine:om")
          (by rw [el]; exact ih (k - 2) (by walk_at "mine:om") (p + 2) (by walk_at "mine:om"))
        rw [Nat.sub_self, List.take_zero] at this
        exact this
      · have el : eolLen text p = 1 := if_neg h2
        have hn : ¬ (text.getD p 0 = 13 ∧ ∃ r', text.toList.drop (p + 1) = 10 :: r') := fun ⟨a, r', b⟩ => by
          by_cases h3 : p + 1 < text.size
          · rw [drop_cons text h3] at b
            injection b with b1 _
            exact h2 ⟨a, h3, b1⟩
          · rw [List.drop_of_length_le (by simp; walk_at "mine:om")] at b
            exact nomatch b
        rw [fixE_cons hn]
        by_cases he : text.getD p 0 = 10 ∨ text.getD p 0 = 13
        · rw [if_pos he]
          have := SubIs.hit (hit := fun text i => isEol (text.getD i 0)) (len := eolLen) (text := text) (repl := [13, 10]) p p _ (Nat.le_refl _) hp (by show isEol (text.getD p 0) = true; rcases he with h | h <;> rw [h] <;> rfl) (fun i a b => by walk_at "mine:om")
            (by rw [el]; exact ih (k - 1) (by walk_at "mine:om") (p + 1) (by walk_at "mine:om"))
          rw [Nat.sub_self, List.take_zero] at this
          exact this
        · rw [if_neg he]
          refine SubIs.back hp ?_ (ih (k - 1) (by walk_at "mine:om") (p + 1) (by walk_at "mine:om"))
          show (text.getD p 0 == 10 || text.getD p 0 == 13) = false
          simp only [not_or] at he
          rw [Bool.or_eq_false_iff]; exact ⟨by simpa only [beq_eq_false_iff_ne] using he.1, by simpa only [beq_eq_false_iff_ne] using he.2⟩
    · rw [List.drop_of_length_le (by simp; walk_at "mine:om")]
      have := SubIs.stop (hit := fun text i => isEol (text.getD i 0)) (len := eolLen) (text := text) (repl := [13, 10]) p (fun i a b => by walk_at "mine:om") (by walk_at "mine:om")
      rw [List.drop_of_length_le (by simp; walk_at "mine:om")] at this
      exact this
theorem sub_dot (text : Array Nat) : ∀ (k p : Nat), p + k = text.size → SubIs isDot (fun _ _ => 1) text [46, 46] p (dotE (p == 0 || text.getD (p - 1) 0 == 10) (text.toList.drop p))
  | 0, p, hk => by
    rw [List.drop_of_length_le (by simp; walk_at "mine:om")]
    have := SubIs.stop (hit := isDot) (len := fun _ _ => 1) (text := text) (repl := [46, 46]) p (fun i a b => by walk_at "mine:om") (by walk_at "mine:om")
    rw [List.drop_of_length_le (by simp; walk_at "mine:om")] at this
    exact this
  | k + 1, p, hk => by
    have hp : p < text.size := by walk_at "mine:om"
    have ih := sub_dot text k (p + 1) (by walk_at "mine:om")
    have ez : (p + 1 == 0) = false := by simp
    rw [ez, Bool.false_or, Nat.add_sub_cancel] at ih
    rw [drop_cons text hp, dotE]
    by_cases h : ((p == 0 || text.getD (p - 1) 0 == 10) && text.getD p 0 == 46) = true
    · rw [if_pos h]
      simp only [Bool.and_eq_true, beq_iff_eq] at h
      rw [h.2] at ih
      have := SubIs.hit (hit := isDot) (len := fun _ _ => 1) (text := text) (repl := [46, 46]) p p _ (Nat.le_refl _) hp (by simp only [isDot, Bool.and_eq_true, beq_iff_eq]; exact h) (fun i a b => by walk_at "mine:om") ih
      rw [Nat.sub_self, List.take_zero] at this
      exact this
    · rw [if_neg h]
      exact SubIs.back hp (by unfold isDot; simpa using h) ih
noncomputable def fixS (x : Str) : Str := ⟨(fixE x.cps.toList).toArray⟩
noncomputable def dotS (x : Str) : Str := ⟨(dotE true x.cps.toList).toArray⟩
structure Eols (B : Heap) : Prop where
  crlf : ∃ t, GlobalIs B "CRLF" (.str "\r\n" t)
  p1 : PatAt B 50 c1
  p2 : PatAt B 55 c2
section
variable {C : Cx} {k : Nat}
theorem Ev_fix {σ : Loc} {np apos pos p1 : Pos} {e2 : Expr} {x : Str} (g : Eols C.B) (hk : C.env.kindOf "_twin_re_2" = some .globalImplicit) (hk' : C.env.kindOf "CRLF" = some .globalImplicit) (h2 : Ev C σ e2 (.str x)) (hz : x.length ≤ 10000)
    (hb : MBase C (.Name "_twin_re_2" np) "sub") (hst : starEach [.Name "CRLF" p1, e2] C.env = [(false, eval (.Name "CRLF" p1) C.env), (false, eval e2 C.env)]) (hl : (apos.endLine == pos.line) = true) :
    Ev C σ (.Call (.Attribute (.Name "_twin_re_2" np) "sub" apos) [.Name "CRLF" p1, e2] [] pos) (.str (fixS x)) := by
  obtain ⟨t, hg⟩ := g.crlf
  refine Ev_sub (z := "\r\n") pat2 g.p2 hk (by walk_at "mine:mem") (by decide) (Ev_gstr hg hk' (by decide)) h2 hz (by decide) (by decide +kernel) ?_ hb hst hl
  have := sub_fix x.cps x.cps.size 0 (by walk_at "mine:om")
  rw [List.drop_zero] at this
  exact this
theorem Ev_dots {σ : Loc} {np apos pos p1 : Pos} {kk : Nat} {e2 : Expr} {x : Str} (g : Eols C.B) (hk : C.env.kindOf "_twin_re_1" = some .globalImplicit) (h2 : Ev C σ e2 (.str x)) (hz : x.length ≤ 10000)
    (hb : MBase C (.Name "_twin_re_1" np) "sub") (hst : starEach [.Constant (.str "..") kk p1, e2] C.env = [(false, eval (.Constant (.str "..") kk p1) C.env), (false, eval e2 C.env)]) (hl : (apos.endLine == pos.line) = true) :
    Ev C σ (.Call (.Attribute (.Name "_twin_re_1" np) "sub" apos) [.Constant (.str "..") kk p1, e2] [] pos) (.str (dotS x)) := by
  refine Ev_sub (z := "..") pat1 g.p1 hk (by walk_at "mine:mem") (by decide) Ev_str h2 hz (by decide) (by decide +kernel) ?_ hb hst hl
  have := sub_dot x.cps x.cps.size 0 (by walk_at "mine:om")
  rw [List.drop_zero] at this
  exact this
theorem fixE_len : ∀ (n : Nat) (l : List Nat), l.length ≤ n → (fixE l).length ≤ 2 * l.length
  | _, [], _ => by simp [fixE]
  | 0, _ :: _, h => by simp at h
  | n + 1, c :: r, h => by
    by_cases hc : c = 13 ∧ ∃ r', r = 10 :: r'
    · obtain ⟨rfl, r', rfl⟩ := hc
      have := fixE_len n r' (by simp at h; walk_at "mine:om")
      rw [fixE]; simp; walk_at "mine:om"
    · have := fixE_len n r (by simpa using h)
      rw [fixE_cons hc]; split <;> simp <;> walk_at "mine:om"
theorem fix_ok {x : Str} (r : Room C (k + 1)) (d : DefAt C.B 69 9) (g : Eols C.B) (hx : x.length ≤ 1000) : FnOk C 69 [.str x] (.str (fixS x)) :=
  let ⟨pm, cd, doc, f⟩ := d
  FnOk.of_body (R := fun fl _ => fl = .ret (.str (fixS x))) f (enter9 pm cd doc) r.one.1 r.one.2 r.frame rfl (fun fl σ' h => h) fun L X h1 h2 =>
    Exs_cons (Ex_return (R := fun fl _ => fl = .ret (.str (fixS x))) (Ev_fix g rfl rfl (by walk_at "mine:nm") (by walk_at "mine:om") rfl rfl rfl) rfl) (fun _ q => nomatch q) (fun _ _ _ q => q)
theorem quote_ok {x : Str} (r : Room C (k + 1)) (d : DefAt C.B 62 8) (g : Eols C.B) (hx : x.length ≤ 1000) : FnOk C 62 [.str x] (.str (dotS (fixS x))) :=
  let ⟨pm, cd, doc, f⟩ := d
  FnOk.of_body (R := fun fl _ => fl = .ret (.str (dotS (fixS x)))) f (enter8 pm cd doc) r.one.1 r.one.2 r.frame rfl (fun fl σ' h => h) fun L X h1 h2 =>
    Exs_cons (Ex_return (R := fun fl _ => fl = .ret (.str (dotS (fixS x)))) (Ev_dots g rfl (Ev_fix g rfl rfl (by walk_at "mine:nm") (by walk_at "mine:om") rfl rfl rfl) (by
      have := fixE_len _ x.cps.toList (Nat.le_refl _)
      show (fixE x.cps.toList).toArray.size ≤ _
      have hx' : x.cps.toList.length ≤ 1000 := by rw [Array.length_toList]; exact hx
      rw [List.size_toArray]; walk_at "mine:om") rfl rfl rfl) rfl) (fun _ q => nomatch q) (fun _ _ _ q => q)
end
end Mine
end
section
open PySem PySem.Spec PySem.Calls PyProof.Rows PySem.W PySem.Builtin PySem.Builtin.Str
namespace Mine
section
variable {C : Cx} {σ : Loc} {R : Out → Loc → Prop}
theorem Ex1_aug_replace {tx pn pc : Str} {px q1 q2 q3 ap p0 pz0 pz1 pz2 lp sp pos apos : Pos} {k0 k1 k2 k3 : Nat} {x0 z0 z1 z2 a key y z : Str} {idx : Expr} {i : Nat} {kvs : List (Str × Str)} {σ' : Loc}
    (hN : NoneBooked C.B) (hm : (tx, Slot.val (.str a)) ∈ σ) (hput : (pn, Slot.val (.dict (tab C.w kvs))) ∈ σ) (hpc : (pc, Slot.val (.str key)) ∈ σ) (hl : kvs.lookup key = some y) (hi : Ev C σ idx (.int (i : Int))) (hz : [z0, z1, z2][i]? = some z)
    (d1 : (pn == ("__debug__" : Str)) = false) (d2 : (pc == ("__debug__" : Str)) = false) (hlen : a.length + (Txt.replace y x0 z).length ≤ sizeLine) (hlen2 : y.length + (y.length + 1) * z.length ≤ 16777216)
    (hb : MBase C (.Subscript (.Name pn q1) (.Name pc q2) q3) "replace") (hs2 : PlainSub idx)
    (hst : starEach [.Constant (.str x0) k0 p0, .Subscript (.List [.Constant (.str z0) k1 pz0, .Constant (.str z1) k2 pz1, .Constant (.str z2) k3 pz2] lp) idx sp] C.env =
      [(false, eval (.Constant (.str x0) k0 p0) C.env), (false, eval (.Subscript (.List [.Constant (.str z0) k1 pz0, .Constant (.str z1) k2 pz1, .Constant (.str z2) k3 pz2] lp) idx sp) C.env)])
    (hli : (ap.endLine == pos.line) = true) (hp : Place C tx) (u : Upd σ tx (.val (.str (a ++ Txt.replace y x0 z))) σ') (hR : R .next σ') :
    Ex1 C σ (.AugAssign (.Name tx px) .Add (.Call (.Attribute (.Subscript (.Name pn q1) (.Name pc q2) q3) "replace" ap) [.Constant (.str x0) k0 p0, .Subscript (.List [.Constant (.str z0) k1 pz0, .Constant (.str z1) k2 pz1, .Constant (.str z2) k3 pz2] lp) idx sp] [] pos) apos) R := fun α s Q E ht hE S k kE => by
  obtain ⟨v, l, r⟩ := S.has.slot _ _ hm
  obtain ⟨vp, lp', rp⟩ := S.has.slot _ _ hput
  obtain ⟨vc, lc, rc⟩ := S.has.slot _ _ hpc
  obtain ⟨tc, rfl⟩ := rc.str_inv
  obtain ⟨da, es, ep, rfl, hw, ho, he⟩ := rp.dict_inv
  obtain ⟨f, hmap, hf⟩ := tab_map (prog := C.prog) ho he
  obtain ⟨u1, hu1⟩ := hf key y hl
  refine wpAny_AugAssign_Name (load_raw S.has.fun_ l ?_)
  refine Call_method2 hb hst hli ?_
  refine PyProof.Rows.Subscript_ (load_name S.has.fun_ lp' d1 (load_name S.has.fun_ lc d2 ?_))
  refine tail_any hmap.typeIs slot_dict_getitem.lookup (wpAny_getItem_of (knd := strKind C.prog C.w) (k := key) (show Value.isStrOf key (.str key tc) = true by simp [Value.isStrOf]) hmap hu1 ?_) rfl
  refine ⟨"str", "str.replace", F.plainAttrs_str, F.slot_str_replace, F.type_str_replace, typeIs_str _ _ _, (fun _ e => nomatch e), ?_⟩
  have K1 : Kept C.F s { s with toks := s.toks + 1 + 1 } := .tok
  refine callWith_builtin (by rfl) (evalArgs_plain (spliced_cons (Constant_str (pos := p0) (k := k0) (spliced_cons ?_))))
  refine PyProof.Rows.Subscript_ (List_ (spliced_cons (Constant_str (pos := pz0) (k := k1) (spliced_cons (Constant_str (pos := pz1) (k := k2) (spliced_cons (Constant_str (pos := pz2) (k := k3) (spliced_nil (wpAny_newObj_type ?_ (by show 3 ≤ sizeLine; decide)))))))))) 
  have K2 : Kept C.F s { s with heap := s.heap.push (lO [.str z0 (s.toks + 1 + 1), .str z1 (s.toks + 1 + 1 + 1), .str z2 (s.toks + 1 + 1 + 1 + 1)] 0), toks := s.toks + 1 + 1 + 1 + 1 + 1 } := .push
  refine hi (C.W α) _ _ E (S.has.kept K2) fun s₂ vi K₃ ri => ?_
  obtain ⟨ti, rfl⟩ := ri.int_inv
  have hlo : s₂.heap.get? s.heap.objs.size = some (lO [.str z0 (s.toks + 1 + 1), .str z1 (s.toks + 1 + 1 + 1), .str z2 (s.toks + 1 + 1 + 1 + 1)] 0) := K₃.keep _ _ (fun m => S.has.not_new (W_F α _ m)) (Heap.get?_push_size _ rfl)
  obtain ⟨tz, hz', hne⟩ : ∃ tz, [Value.str z0 (s.toks + 1 + 1), .str z1 (s.toks + 1 + 1 + 1), .str z2 (s.toks + 1 + 1 + 1 + 1)][i]? = some (.str z tz) ∧ s.toks + 1 < tz := by
    match i, hz with
    | 0, hz => simp only [List.getElem?_cons_zero, Option.some.injEq] at hz; subst hz; exact ⟨_, rfl, by walk_at "mine:om"⟩
    | 1, hz => simp only [List.getElem?_cons_succ, List.getElem?_cons_zero, Option.some.injEq] at hz; subst hz; exact ⟨_, rfl, by walk_at "mine:om"⟩
    | 2, hz => simp only [List.getElem?_cons_succ, List.getElem?_cons_zero, Option.some.injEq] at hz; subst hz; exact ⟨_, rfl, by walk_at "mine:om"⟩
    | i + 3, hz => simp at hz
  have hi3 : i < 3 := by
    have := (List.getElem?_eq_some_iff.mp hz).1
    simpa using this
  refine tail_any (Heap.IsList.typeIs ⟨_, hlo, rfl, _, rfl⟩) slot_list_getitem.lookup (getItem_at ⟨_, hlo, rfl, _, rfl⟩ (by show 3 < 2 ^ 62; decide) ⟨hi3, .inl rfl⟩ hz' ?_) (hs2 _ _)
  refine spliced_nil ?_
  obtain ⟨mc, hns, hk⟩ := hN
  have hnb : NoneBooked s₂.heap := ⟨mc, hns.keeps ((S.has.kept K2).kept K₃).base, hk⟩
  refine SC.replaceA (Nat.ne_of_gt (show 0 < s.toks + 1 by walk_at "mine:om")) (Nat.ne_of_gt (Nat.lt_of_le_of_lt (Nat.zero_le _) hne)) (Nat.ne_of_lt (show s.toks + 1 < tz from hne)) hlen2 (fun t' tk => ?_) hnb
  have K4 : Kept C.F s { s₂ with toks := tk } := (K2.trans K₃).trans .tok
  refine inc_sound (.cat a _ hlen) (K4.rd (W_F α) r) Rd.str fun s₃ v₃ K₅ r₃ => ?_
  exact store_slot (sl := .val (.str (a ++ Txt.replace y x0 z))) ((S.kept K4).kept K₅) hp r₃ u fun s₄ S₄ y' _ => k _ _ α σ' s₄ hR S₄ (((K4.trans K₅).stays (W_F α)).trans (.refl _ _) y') (.refl _ _) .next
end
end Mine
end
section
open PySem PySem.Spec PySem.Calls PyProof.Rows PySem.W PySem.Builtin PySem.Builtin.Str
namespace Mine
section
variable {C : Cx} {σ : Loc} {R : Out → Loc → Prop}
noncomputable def EvS (C : Cx) (σ : Loc) (e : Expr) (d : PyData) (σ' : Loc) : Prop :=
  ∀ (α : Own) (s : Shared) (Q : Value → Shared → Prop) (E : Value → Shared → Prop), St C α σ s → (∀ α' s' v, St C α' σ' s' → Stays C (C.W α) s s' → New α α' s → Rd (C.W α') s'.heap d v → Q v s') →
    wpAny (model C.prog C.w) C.A (eval e C.env) Q E s
noncomputable def ItS (C : Cx) (σ : Loc) (e : Expr) (b : Bool) (σ' : Loc) : Prop :=
  ∀ (α : Own) (s : Shared) (Q : Bool → Shared → Prop) (E : Value → Shared → Prop), St C α σ s → (∀ α' s', St C α' σ' s' → Stays C (C.W α) s s' → New α α' s → Q b s') →
    wpAny (model C.prog C.w) C.A (isTrue e C.env (eval e C.env)) Q E s
theorem ItS_cmp {l r : Expr} {op : CmpOp} {pos : Pos} {a b : PyData} {c : Bool} {σ' : Loc} (hl : EvS C σ l a σ') (hr : Ev C σ' r b) (h : CmpRes op a b c) (hm : behindInMarks op r = false) : ItS C σ (.Compare l [op] [r] pos) c σ' := fun α s Q E S k =>
  wpAny_isTrue_Compare1 (hl α s _ E S fun α' s₁ va S₁ y n ra => hr (C.W α') s₁ _ E S₁.has fun s₂ vb K₂ rb => cmp_sound S₁.has.units h (K₂.rd (W_F α') ra) rb fun s₃ K₃ =>
    wpAny_truthy_bool (k α' s₃ (S₁.kept (K₂.trans K₃)) (y.trans n ((K₂.trans K₃).stays (W_F α'))) n)) hm
theorem Ex_if_s {test : Expr} {body orelse : List Stmt} {pos : Pos} {b : Bool} {σ₁ : Loc} (ht : ItS C σ test b σ₁) (h1 : b = true → Exs C σ₁ body R) (h2 : b = false → Exs C σ₁ orelse R) : Ex C σ (.If test body orelse pos) R := fun α s Q E hE S k kE =>
  wpAny_If (ht α s _ E S fun α₁ s₁ S₁ y n => by
    cases b with
    | true => exact h1 rfl α₁ s₁ Q E hE S₁ (fun fl f α'' σ'' s'' r' S'' y' n' F' => k fl f α'' σ'' s'' r' S'' (y.trans n y') (n.trans y n') F') (fun cls e α'' σ'' s'' r' S'' y' n' f' => kE cls e α'' σ'' s'' r' S'' (y.trans n y') (n.trans y n') (f'.before y))
    | false => exact h2 rfl α₁ s₁ Q E hE S₁ (fun fl f α'' σ'' s'' r' S'' y' n' F' => k fl f α'' σ'' s'' r' S'' (y.trans n y') (n.trans y n') F') (fun cls e α'' σ'' s'' r' S'' y' n' f' => kE cls e α'' σ'' s'' r' S'' (y.trans n y') (n.trans y n') (f'.before y)))
noncomputable def FnOwn2 (C : Cx) (a : Addr) (xs ys : List PyData) (res : PyData) : Prop :=
  ∀ (W : List Addr) (s : Shared) (a₁ a₂ : Addr) (i₁ i₂ : List Value) (n₁ n₂ : Nat) (Q : Value → Shared → Prop) (E : Value → Shared → Prop), Has C [] W s.heap → a₁ ≠ a₂ → a₁ ∈ W → a₂ ∈ W → a₁ ∉ C.F → a₂ ∉ C.F →
    s.heap.get? a₁ = some (lO i₁ n₁) → s.heap.get? a₂ = some (lO i₂ n₂) → RdL W s.heap xs i₁ → RdL W s.heap ys i₂ →
    (∀ s' v, s'.os = s.os → s'.gens = s.gens → (∀ b o, b ∉ C.F → b ≠ a₁ → b ≠ a₂ → s.heap.get? b = some o → s'.heap.get? b = some o) → (∀ b o, b ∈ C.F → s.heap.get? b = some o → ∃ sl, s'.heap.get? b = some { o with slots := sl }) →
      (∀ b o, s.heap.get? b = some o → ∃ o', s'.heap.get? b = some o') → (∀ W', (∀ b ∈ W', b ∈ W ∧ b ≠ a₁ ∧ b ≠ a₂) → Rd W' s'.heap res v) → Q v s') →
    wpAny (model C.prog C.w) C.A (call (.ref a) [.ref a₁, .ref a₂]) Q E s
theorem FnOwn2.of_body {a : Addr} {name : Str} {params : Arguments} {body : List Stmt} {scope : Scope} {pm cd doc : Value} {x1 x2 : Str} {xs ys : List PyData} {res : PyData} {R : Out → Loc → Prop} (fa : FunAt C.B a name params body scope pm cd doc) (en : Enter name params body scope pm cd doc [x1, x2]) (hd : C.A.depth + 1 < recursionLimit) (hu : C.A.units + 303 < cLine)
    (hR : ∀ fl σ', R fl σ' → fl = .ret res)
    (hbody : ∀ L X h1 h2, Exs (calleeCx C name scope a cd L X h1 h2) [(x1, .own xs), (x2, .own ys)] body R) : FnOwn2 C a xs ys res := fun W s a₁ a₂ i₁ i₂ n₁ n₂ Q E H hne hw1 hw2 hf1 hf2 g1 g2 r1 r2 k => by
  have hx : x1 ≠ x2 := by have := en.nd; simp at this; exact this
  have hx' : (x2 == x1) = false := by simpa using fun e => hx e.symm
  refine call_run (α₀ := [(x1, a₁), (x2, a₂)]) (R := R) (sls := [.own xs, .own ys]) fa en hd hu H ?_ ?_ ?_ rfl ?_ ?_ hbody (fun cls σ' hr => nomatch hR _ _ hr) fun C' α' σ' fl f s' hr hW hW' F ho hg hk hfr hal hn => ?_
  · intro b hb
    simp only [List.map_cons, List.map_nil, List.mem_cons, List.not_mem_nil, or_false] at hb
    rcases hb with rfl | rfl
    · exact ⟨hw1, hf1⟩
    · exact ⟨hw2, hf2⟩
  · intro b hb
    simp only [List.map_cons, List.map_nil, List.mem_cons, List.not_mem_nil, or_false] at hb
    rcases hb with rfl | rfl
    · exact ⟨_, _, _, g1, rfl⟩
    · exact ⟨_, _, _, g2, rfl⟩
  · simpa using hne
  · intro x v sl h1 h2
    simp only [List.zip_cons_cons, List.zip_nil_left, List.mem_cons, Prod.mk.injEq, List.not_mem_nil, or_false] at h1 h2
    rcases h1 with ⟨rfl, rfl⟩ | ⟨rfl, rfl⟩
    · rcases h2 with ⟨_, rfl⟩ | ⟨q, _⟩
      · exact ⟨a₁, i₁, n₁, rfl, by simp, g1, r1⟩
      · exact absurd q hx
    · rcases h2 with ⟨q, _⟩ | ⟨_, rfl⟩
      · exact absurd q.symm hx
      · exact ⟨a₂, i₂, n₂, rfl, by simp [List.lookup_cons, hx'], g2, r2⟩
  · intro x sl h
    simp only [List.zip_cons_cons, List.zip_nil_left, List.mem_cons, Prod.mk.injEq, List.not_mem_nil, or_false] at h
    rcases h with ⟨rfl, _⟩ | ⟨rfl, _⟩
    · exact ⟨.ref a₁, by simp⟩
    · exact ⟨.ref a₂, by simp⟩
  · have := hR _ _ hr
    subst this
    cases F with
    | ret rd =>
      refine k s' _ ho hg (fun b o h h1 h2 e => hk b o h (by simp [h1, h2]) e) hfr hal fun W' hW'' => Rd.mono (fun b o nb e => ⟨fun m => nb ?_, e⟩) _ _ rd
      obtain ⟨m1, m2, m3⟩ := hW'' b m
      rcases hW' b m1 with q | q
      · exact List.mem_append_left _ q
      · simp only [List.map_cons, List.map_nil, List.mem_cons, List.not_mem_nil, or_false] at q
        rcases q with q | q
        · exact absurd q m2
        · exact absurd q m3
theorem St.spent {α : Own} {s s' : Shared} {x : Str} {a₂ : Addr} {σ' : Loc} (S : St C α σ s) (ha : α.lookup x = some a₂) (hσ : ∀ p ∈ σ', p ∈ σ ∧ p.1 ≠ x) (ho : s'.os = s.os) (hg : s'.gens = s.gens)
    (hk : ∀ b o, b ∉ C.F → b ≠ a₂ → s.heap.get? b = some o → s'.heap.get? b = some o) (hf : ∀ b o, b ∈ C.F → s.heap.get? b = some o → ∃ sl, s'.heap.get? b = some { o with slots := sl })
    (hal : ∀ b o, s.heap.get? b = some o → ∃ o', s'.heap.get? b = some o') : ∃ α', St C α' σ' s' ∧ Stays C (C.W α) s s' ∧ New α α' s ∧ ∀ b ∈ C.W α', b ∈ C.W α ∧ b ≠ a₂ := by
  have sl : (α.filter (fun p => !(p.1 == x))).Sublist α := List.filter_sublist
  have haM : a₂ ∉ C.M := S.M_not_own ha
  have haW : a₂ ∈ C.W α := List.mem_append_right _ (List.mem_map_of_mem (f := (·.2)) (mem_of_lookup ha))
  have sub : ∀ b ∈ C.W (α.filter (fun p => !(p.1 == x))), b ∈ C.W α ∧ b ≠ a₂ := fun b hb => by
    rcases List.mem_append.mp hb with h | h
    · exact ⟨List.mem_append_left _ h, fun q => haM (q ▸ h)⟩
    · refine ⟨List.mem_append_right _ ((sl.map (·.2)).subset h), fun q => ?_⟩
      obtain ⟨p, hp, e⟩ := List.mem_map.mp h
      have hp' := List.mem_filter.mp hp
      have hne : p.1 ≠ x := by simpa using hp'.2
      have := own_inj S.nodup hp'.1 (mem_of_lookup ha) (e.trans q)
      exact hne (by rw [this])
  have km : ∀ b o, b ∉ C.W α → s.heap.get? b = some o → b ∉ C.W (α.filter (fun p => !(p.1 == x))) ∧ s'.heap.get? b = some o := fun b o nb e =>
    ⟨fun m => nb (sub b m).1, hk b o (fun m => nb (W_F α b m)) (fun q => nb (q ▸ haW)) e⟩
  have kslots : ∀ b o, b ≠ a₂ → s.heap.get? b = some o → ∃ sl, s'.heap.get? b = some { o with slots := sl } := fun b o hb e => by
    by_cases q : b ∈ C.F
    · exact hf b o q e
    · exact ⟨o.slots, hk b o q hb e⟩
  have kns : ∀ {m}, s.heap.Ns C.env.locals m → s'.heap.Ns C.env.locals m := fun ⟨o, es, ep, ho, hd, r⟩ => by
    obtain ⟨sl, e⟩ := kslots _ o (fun q => haM (q ▸ Cx.fM S.L)) ho
    exact ⟨_, es, ep, e, hd, r⟩
  have kcell : ∀ {y c v}, C.env.cells.lookup y = some c → s.heap.IsCell c v → s'.heap.IsCell c v := fun hc ⟨o, ho, hd⟩ => by
    obtain ⟨sl, e⟩ := kslots _ o (fun q => haM (q ▸ Cx.cM (mem_of_lookup hc))) ho
    exact ⟨_, e, hd⟩
  have kload : ∀ {y v}, Loads C.env s.heap y v → Loads C.env s'.heap y v := fun l => by
    rcases l with ⟨a, m, b, c⟩ | ⟨a, c, b, d⟩
    · exact .inl ⟨a, m, kns b, c⟩
    · exact .inr ⟨a, c, b, kcell b d⟩
  have own' : ∀ y ds, (y, Slot.own ds) ∈ σ' → ∃ a its n, (α.filter (fun p => !(p.1 == x))).lookup y = some a ∧ Loads C.env s'.heap y (.ref a) ∧ s'.heap.get? a = some (lO its n) ∧ RdL (C.W (α.filter (fun p => !(p.1 == x)))) s'.heap ds its := fun y ds h => by
    obtain ⟨h0, hyx⟩ := hσ _ h
    obtain ⟨a, its, n, h1, h2, h3, h4⟩ := S.own y ds h0
    have hne : a ≠ a₂ := fun q => by
      have := own_inj S.nodup (mem_of_lookup h1) (mem_of_lookup ha) q
      exact hyx (congrArg Prod.fst this)
    exact ⟨a, its, n, by rw [lookup_filter_ne hyx]; exact h1, kload h2, hk _ _ (fun m => S.M_not_own h1 (Cx.fM m)) hne h3, RdL.mono km _ _ h4⟩
  refine ⟨α.filter (fun p => !(p.1 == x)), ?_, ⟨ho, hg, fun b o nb e => (km b o nb e).2, fun b o hb _ e => hf b o hb e, hal, fun b o hb e => hk b o (C.xF b hb) (fun q => haM (q ▸ Cx.xM hb)) e⟩, fun a ha => .inl ((sl.map (·.2)).subset ha), sub⟩
  exact {
    has := { S.has with
      sub := W_F _
      alive := fun a h => let ⟨o, e⟩ := S.has.alive a (sub a h).1; hal a o e
      base := fun b o e => hk b o (fun m => by rw [S.has.low b (W_F α b m)] at e; cases e) (fun q => by rw [q, S.has.low a₂ haW] at e; cases e) (S.has.base b o e)
      low := fun a h => S.has.low a (sub a h).1
      frm := fun a ha => let ⟨o, es, ep, ho, hd⟩ := S.has.frm a ha; let ⟨_, e⟩ := hf a o ha ho; ⟨_, es, ep, e, hd⟩
      slot := fun y sl' h => by
        obtain ⟨h0, hyx⟩ := hσ _ h
        cases sl' with
        | val d =>
          obtain ⟨v, l, r⟩ := S.has.slot y _ h0
          exact ⟨v, kload l, Rd.mono km d v r⟩
        | own ds =>
          obtain ⟨a, its, n, h1, h2, h3, h4⟩ := own' y ds h
          have hm := List.mem_map_of_mem (f := (·.2)) (mem_of_lookup h1)
          exact ⟨a, its, n, h2, List.mem_append_right _ hm, fun m => S.off a ((sl.map (·.2)).subset hm) (List.mem_append_left _ m), h3, h4⟩ }
    L := S.L
    ns := let ⟨m, h⟩ := S.ns; ⟨m, kns h⟩
    cells := fun y c h => let ⟨v, e⟩ := S.cells y c h; ⟨v, kcell h e⟩
    apart := S.apart
    cF := S.cF
    nodup := S.nodup.sublist (sl.map (·.2))
    off := fun a h => S.off a ((sl.map (·.2)).subset h)
    own := own'
    pin := fun p hp => let ⟨h1, h2⟩ := S.pin p hp; ⟨fun m => h1 (sub _ m).1, (km _ _ h1 h2).2⟩
    lst := fun a h => by
      have hm := (sl.map (·.2)).subset h
      obtain ⟨o, its, n, ho, hd⟩ := S.lst a hm
      exact ⟨o, its, n, hk _ _ (fun m => S.off a hm (Cx.fM m)) (sub a (List.mem_append_right _ h)).2 ho, hd⟩ }
end
end Mine
end
section
open PySem PySem.Spec PySem.Calls PyProof.Rows PySem.W PySem.Builtin PySem.Builtin.Str
namespace Mine
section
variable {C : Cx} {σ : Loc} {R : Out → Loc → Prop}
theorem Has.add {W : List Addr} {s s₁ : Shared} {a : Addr} {o : Obj} (H : Has C σ W s.heap) (K : Kept C.F s s₁) (h0 : s.heap.get? a = none) (h1 : s₁.heap.get? a = some o) : Has C σ (a :: W) s₁.heap :=
  have km : ∀ b o, b ∉ W → s.heap.get? b = some o → b ∉ a :: W ∧ s₁.heap.get? b = some o := fun b o nb e =>
    ⟨fun m => by rcases List.mem_cons.mp m with q | q; (· rw [q, h0] at e; cases e); exact nb q, K.keep b o (fun m => nb (H.sub b m)) e⟩
  { H.kept K with
    sub := fun b hb => .tail _ (H.sub b hb)
    alive := fun b hb => by rcases List.mem_cons.mp hb with q | q; (· subst q; exact ⟨_, h1⟩); exact (H.kept K).alive b q
    low := fun b hb => by
      rcases List.mem_cons.mp hb with q | q
      · subst q
        cases z : C.B.get? b with
        | none => rfl
        | some o => have := H.base b o z; rw [h0] at this; cases this
      · exact H.low b q
    slot := fun x sl hm => by
      have q := H.slot x sl hm
      cases sl with
      | val d => obtain ⟨v, l, r⟩ := q; exact ⟨v, l.kept K, Rd.mono km _ _ r⟩
      | own ds => obtain ⟨b, its, n, l, g1, g2, g3, g4⟩ := q; exact ⟨b, its, n, l.kept K, .tail _ g1, g2, K.keep _ _ g2 g3, RdL.mono km _ _ g4⟩ }
theorem EvS_call {f : Str} {a : Addr} {np px pos : Pos} {e : Expr} {x : Str} {xs ys : List PyData} {res : PyData} {σ' : Loc} (hk : C.env.kindOf f = some .globalImplicit) (hm : (f, Value.ref a) ∈ gtable) (hd : (f == ("__debug__" : Str)) = false)
    (fa : ∃ name params body scope pm cd doc, FunAt C.B a name params body scope pm cd doc) (he : En C σ e xs) (hx : (x, Slot.own ys) ∈ σ) (hxd : (x == ("__debug__" : Str)) = false) (hs : starEach [e, .Name x px] C.env = (false, eval e C.env) :: starEach [.Name x px] C.env)
    (h : FnOwn2 C a xs ys res) (hσ : ∀ p ∈ σ', p ∈ σ ∧ p.1 ≠ x) : EvS C σ (.Call (.Name f np) [e, .Name x px] [] pos) res σ' := fun α s Q E S k => by
  obtain ⟨name, params, body, scope, pm, cd, doc, ⟨o, ho, hdat⟩, _⟩ := fa
  have H := S.has
  have hF := W_F (C := C) α
  have hoff : a ∉ C.F := fun q => by rw [H.low a (H.sub a q)] at ho; cases ho
  refine Call_name (global_sound H hk hm hd (callWith_def hdat ?_ hs))
  rw [hs]
  refine spliced_cons (he (C.W α) s _ E H fun s₁ a₁ i₁ n₁ K h0 h1 r1 => ?_)
  obtain ⟨a₂, i₂, n₂, q1, q2, q3, q4⟩ := S.own x ys hx
  refine spliced_cons (load_name H.fun_ (q2.kept K) hxd (spliced_nil ⟨K.keep a o hoff (H.base a o ho), ?_⟩))
  have haW : a₂ ∈ C.W α := List.mem_append_right _ (List.mem_map_of_mem (f := (·.2)) (mem_of_lookup q1))
  have haF : a₂ ∉ C.F := fun m => S.M_not_own q1 (Cx.fM m)
  have hne : a₁ ≠ a₂ := fun q => by rw [q, q3] at h0; cases h0
  have ha1W : a₁ ∉ C.W α := H.of_none h0
  refine h (a₁ :: C.W α) s₁ a₁ a₂ i₁ i₂ n₁ n₂ _ E (H.bare.add K h0 h1) hne (.head _) (.tail _ haW) (fun m => ha1W (hF _ m)) haF h1 (K.keep _ _ haF q3) r1 ?_ fun s' v ho' hg' hk' hf' hal' rd => ?_
  · exact RdL.mono (fun b o nb e => ⟨fun m => by rcases List.mem_cons.mp m with q | q; (· rw [q, h0] at e; cases e); exact nb q, K.keep b o (fun m => nb (hF b m)) e⟩) _ _ q4
  · obtain ⟨α', S', y, n, sub⟩ := S.spent (s' := s') q1 hσ (ho'.trans K.os) (hg'.trans K.gens)
      (fun b o hb hb2 e => hk' b o hb (fun q => by rw [q, h0] at e; cases e) hb2 (K.keep b o hb e))
      (fun b o hb e => by
        obtain ⟨sl, e1⟩ := K.slots b o e
        obtain ⟨sl2, e2⟩ := hf' b _ hb e1
        exact ⟨sl2, e2⟩)
      (fun b o e => by obtain ⟨sl, e1⟩ := K.slots b o e; exact hal' b _ e1)
    exact k α' s' v S' y n (rd _ fun b hb => ⟨.tail _ (sub b hb).1, fun q => ha1W (q ▸ (sub b hb).1), (sub b hb).2⟩)
theorem Ev_call_new2 {f : Str} {a : Addr} {np pos : Pos} {e1 e2 : Expr} {xs ys : List PyData} {res : PyData} (hF : C.F ≠ []) (hk : C.env.kindOf f = some .globalImplicit) (hm : (f, Value.ref a) ∈ gtable) (hd : (f == ("__debug__" : Str)) = false)
    (fa : ∃ name params body scope pm cd doc, FunAt C.B a name params body scope pm cd doc) (he1 : En C σ e1 xs) (he2 : En C σ e2 ys)
    (hs : starEach [e1, e2] C.env = (false, eval e1 C.env) :: starEach [e2] C.env) (hs2 : starEach [e2] C.env = (false, eval e2 C.env) :: starEach [] C.env)
    (h : FnOwn2 C a xs ys res) : Ev C σ (.Call (.Name f np) [e1, e2] [] pos) res := fun W s Q E H k => by
  obtain ⟨name, params, body, scope, pm, cd, doc, ⟨o, ho, hdat⟩, _⟩ := fa
  have hoff : a ∉ C.F := fun q => by rw [H.low a (H.sub a q)] at ho; cases ho
  refine Call_name (global_sound H hk hm hd (callWith_def hdat ?_ hs))
  rw [hs]
  refine spliced_cons (he1 W s _ E H fun s₁ a₁ i₁ n₁ K h0 h1 r1 => ?_)
  rw [hs2]
  refine spliced_cons (he2 (a₁ :: W) s₁ _ E (H.add K h0 h1) fun s₂ a₂ i₂ n₂ K₂ h0' h1' r2 => spliced_nil ⟨K₂.keep a o hoff (K.keep a o hoff (H.base a o ho)), ?_⟩)
  have hne : a₁ ≠ a₂ := fun q => by rw [q, h0'] at h1; cases h1
  have H1 := H.bare.add K h0 h1
  have hn1 : a₁ ∉ C.F := fun m => by have := H.alive a₁ (H.sub _ m); obtain ⟨o, e⟩ := this; rw [h0] at e; cases e
  have hn2 : a₂ ∉ C.F := fun m => by have := (H.kept K).alive a₂ (H.sub _ m); obtain ⟨o, e⟩ := this; rw [h0'] at e; cases e
  have h0s : s.heap.get? a₂ = none := none_of_kept K h0'
  have m2 : ∀ b o, b ∉ a₁ :: W → s₁.heap.get? b = some o → b ∉ a₂ :: a₁ :: W ∧ s₂.heap.get? b = some o := fun b o nb e =>
    ⟨fun m => by rcases List.mem_cons.mp m with q | q; (· rw [q, h0'] at e; cases e); exact nb q, K₂.keep b o (fun m => nb (.tail _ (H.sub b m))) e⟩
  refine h (a₂ :: a₁ :: W) s₂ a₁ a₂ i₁ i₂ n₁ n₂ _ E (H1.add K₂ h0' h1') hne (.tail _ (.head _)) (.head _) hn1 hn2 (K₂.keep _ _ hn1 h1) h1' (RdL.mono m2 _ _ r1) r2 fun s' v ho' hg' hk' hf' hal' rd => ?_
  refine k s' v ⟨ho'.trans (K.trans K₂).os, hg'.trans (K.trans K₂).gens, fun b o hb e => ?_, fun b o e => ?_, fun q => absurd q hF⟩ (rd _ fun b hb => ?_)
  · exact hk' b o hb (fun q => by rw [q, h0] at e; cases e) (fun q => by rw [q, h0s] at e; cases e) ((K.trans K₂).keep b o hb e)
  · obtain ⟨sl, e1⟩ := (K.trans K₂).slots b o e
    by_cases q : b ∈ C.F
    · obtain ⟨sl2, e2⟩ := hf' b _ q e1
      exact ⟨sl2, e2⟩
    · exact ⟨sl, hk' b _ q (fun q => by rw [q, h0] at e; cases e) (fun q => by rw [q, h0s] at e; cases e) e1⟩
  · obtain ⟨o', e'⟩ := H.alive b hb
    exact ⟨.tail _ (.tail _ hb), (fun q => by rw [q, h0] at e'; cases e'), (fun q => by rw [q, h0s] at e'; cases e')⟩
theorem uld_own {k : Nat} {xs ys : List Str} (r : Room C (k + 1)) (d : DefAt C.B 45 3) (hx : xs.length ≤ 10000) (hy : ys.length ≤ 10000) :
    FnOwn2 C 45 (dS xs) (dS ys) (.tuple [.list (dS (uld xs ys).1), .list (dS (uld xs ys).2)]) :=
  let ⟨pm, cd, doc, f⟩ := d
  FnOwn2.of_body f (enter3 pm cd doc) r.one.1 r.one.2 (fun fl σ' h => h) fun L X h1 h2 => uld_body r.outer r.handled hx hy
end
end Mine
end
section
open PySem PySem.Spec PySem.Calls PyProof.Rows PySem.W PySem.Builtin PySem.Builtin.Str
namespace Mine
noncomputable def numsOf (script : List Int) : List Nat := ((script.take 5).map fun x => (x.fmod 1000000).toNat) ++ [140, 72, 50, 0, 30].drop ((script.take 5).map fun x => (x.fmod 1000000).toNat).length
noncomputable def isOdd (q : Nat) : Bool := q == 13 || q == 10 || q == 46
noncomputable def letterOf (ns : List Nat) : Nat := if isOdd (ns.sum / 3 % 55296) then 97 else ns.sum / 3 % 55296
noncomputable abbrev oneS (q : Nat) : Str := ⟨#[q]⟩
noncomputable def putA (c : Nat) : Str := oneS c ++ ".\n\n"
noncomputable def putT (c : Nat) : List (Str × Str) := [("a", putA c), (".", ".\n")]
noncomputable def spell (w : List Bool) : Str := ⟨(w.map fun b => if b then 97 else 46).toArray⟩
noncomputable def allWords : List (List Bool) := [[true], [false], [true, true], [true, false], [false, true], [false, false], [true, true, true], [true, true, false], [true, false, true], [true, false, false], [false, true, true], [false, true, false], [false, false, true], [false, false, false]]
theorem spell_all : allWords.map spell = (["a", ".", "aa", "a.", ".a", "..", "aaa", "aa.", "a.a", "a..", ".aa", ".a.", "..a", "..."] : List Str) := by decide +kernel
theorem Upd.skip {σ σ' : Loc} {x : Str} {sl : Slot} {p : Str × Slot} (h : Upd σ x sl σ') : Upd (p :: σ) x sl σ' := fun q hq => by
  rcases h q hq with e | ⟨e1, e2⟩
  · exact .inl e
  · exact .inr ⟨.tail _ e1, e2⟩
theorem numsOf_len (script : List Int) : (numsOf script).length = 5 := by
  unfold numsOf
  simp only [List.length_append, List.length_drop, List.length_map, List.length_take, List.length_cons, List.length_nil]
  walk_at "mine:om"
noncomputable def onMod : PyData → PyData
  | .int x => .int (x.fmod 1000000)
  | _ => .none
theorem nums_data (l : List Int) : ((dI l).filter fun _ => true).map onMod = dN (l.map fun x => (x.fmod 1000000).toNat) := by
  rw [List.filter_eq_self.mpr (fun _ _ => rfl)]
  simp only [dI, dN, List.map_map]
  apply List.map_congr_left
  intro x _
  show PyData.int (x.fmod 1000000) = PyData.int (((x.fmod 1000000).toNat : Nat) : Int)
  rw [Int.toNat_of_nonneg (Int.fmod_nonneg_of_pos _ (by decide))]
theorem sum_cast : ∀ ns : List Nat, (ns.map fun i : Nat => (i : Int)).sum = ((ns.sum : Nat) : Int)
  | [] => rfl
  | n :: ns => by
    rw [List.map_cons, List.sum_cons, List.sum_cons, sum_cast ns]; walk_at "mine:om"
theorem drop_step {α : Type} {l : List α} (k k' : Nat) {st : α} (h : l[k]? = some st) (hk : k' = k + 1) : l.drop k = st :: l.drop k' := by
  subst hk
  obtain ⟨hk, e⟩ := List.getElem?_eq_some_iff.mp h
  rw [List.drop_eq_getElem_cons hk, e]
noncomputable def constsOf : List Expr → Option (List Str)
  | [] => some []
  | .Constant (.str x) _ _ :: es => (constsOf es).map (x :: ·)
  | _ => none
theorem EvL_strs {C : Cx} {σ : Loc} {pos : Pos} : ∀ {es : List Expr} {xs : List Str}, constsOf es = some xs → EvL C σ pos es (dS xs)
  | [], xs, h => by
    simp only [constsOf, Option.some.injEq] at h
    subst h; exact EvL_nil
  | e :: es, xs, h => by
    unfold constsOf at h
    split at h
    · rename_i e; exact nomatch e
    · rename_i x k p es' e
      injection e with e1 e2
      subst e1; subst e2
      simp only [Option.map_eq_some_iff] at h
      obtain ⟨ys, hy, rfl⟩ := h
      exact EvL_cons Ev_str (EvL_strs hy) rfl
    · cases h
theorem En_strs {C : Cx} {σ : Loc} {pos : Pos} {es : List Expr} {xs : List Str} (h : constsOf es = some xs) (hz : xs.length ≤ sizeLine) : En C σ (.List es pos) (dS xs) := En_listd (EvL_strs h) (by rw [List.length_map]; exact hz)
theorem Ev_chrN {C : Cx} {σ : Loc} {np pos : Pos} {e : Expr} {q : Nat} (he : Ev C σ e (.int (q : Int))) (hk : C.env.kindOf "chr" = some .globalImplicit) (hs : Star1 C e) (hq : q ≤ 1114111) :
    Ev C σ (.Call (.Name "chr" np) [e] [] pos) (.str (oneS q)) := by
  have := Ev_chr (np := np) (pos := pos) he hk hs (by walk_at "mine:om") (by walk_at "mine:om")
  rw [Int.toNat_natCast] at this
  exact this
section
variable {C : Cx} {a : Addr} {cd : Value} {L : Addr} {X : List Addr} {h1 : ∀ b ∈ X, b ∉ L :: C.F} {h2 : ∀ p ∈ cellsFrom (L + 1) (scopeOf 17).names [], p.2 ∉ X}
noncomputable def σ0 (ns : List Nat) : Loc := [("numbers", .val (.list (dN ns)))]
noncomputable def σL (w : World) (ns : List Nat) (c : Nat) (left : List (List Bool)) (wo ma ra se : List Str) : Loc :=
  [("numbers", .val (.list (dN ns))), ("put", .val (.dict (tab w (putT c)))), ("left", .own (dS (left.map spell))), ("words", .own (dS wo)), ("mails", .own (dS ma)), ("raw", .own (dS ra)), ("sent", .own (dS se))]
set_option maxHeartbeats 1000000 in
theorem law_A2 {r5 : List Stmt} (hr5 : (bodyOf 17).drop 5 = r5) {ns : List Nat} {c : Nat} {lw : List (List Bool)} {R : Out → Loc → Prop} (hlw : lw.map spell = (["a", ".", "aa", "a.", ".a", "..", "aaa", "aa.", "a.a", "a..", ".aa", ".a.", "..a", "..."] : List Str))
    (h : Exs (calleeCx C (nameOf 17) (scopeOf 17) a cd L X h1 h2) (σL C.w ns c lw [] [] [] []) ((bodyOf 17).drop 10) R) :
    Exs (calleeCx C (nameOf 17) (scopeOf 17) a cd L X h1 h2) [("numbers", .val (.list (dN ns))), ("put", .val (.dict (tab C.w (putT c))))] r5 R := by
  rw [← hr5]
  obtain ⟨px, es, lp, pos, he, hx⟩ : ∃ px es lp pos, (bodyOf 17)[5]? = some (.Assign [.Name "left" px] (.List es lp) pos) ∧ constsOf es = some (["a", ".", "aa", "a.", ".a", "..", "aaa", "aa.", "a.a", "a..", ".aa", ".a.", "..a", "..."] : List Str) := ⟨_, _, _, _, rfl, rfl⟩
  rw [drop_step 5 6 he rfl]
  refine Exs_step (σ₁ := [("numbers", .val (.list (dN ns))), ("put", .val (.dict (tab C.w (putT c)))), ("left", .own (dS (lw.map spell)))]) (Ex_assign_new (ds := dS (lw.map spell)) ?_ (.loc rfl) (by walk_at "mine:upd") (own_ne (by walk_at "mine:nokey")) rfl ⟨rfl, rfl⟩) ?_
  · rw [hlw]
    exact En_strs hx (by show 14 ≤ sizeLine; decide)
  refine Exs_step (σ₁ := [("numbers", .val (.list (dN ns))), ("put", .val (.dict (tab C.w (putT c)))), ("left", .own (dS (lw.map spell))), ("words", .own (dS []))]) (Ex_assign_new (ds := dS []) (En_listd EvL_nil (by decide)) (.cell (L + 3) rfl rfl) (by walk_at "mine:upd") (own_ne (by walk_at "mine:nokey")) rfl ⟨rfl, rfl⟩) ?_
  refine Exs_step (σ₁ := [("numbers", .val (.list (dN ns))), ("put", .val (.dict (tab C.w (putT c)))), ("left", .own (dS (lw.map spell))), ("words", .own (dS [])), ("mails", .own (dS []))]) (Ex_assign_new (ds := dS []) (En_listd EvL_nil (by decide)) (.cell (L + 4) rfl rfl) (by walk_at "mine:upd") (own_ne (by walk_at "mine:nokey")) rfl ⟨rfl, rfl⟩) ?_
  refine Exs_step (σ₁ := [("numbers", .val (.list (dN ns))), ("put", .val (.dict (tab C.w (putT c)))), ("left", .own (dS (lw.map spell))), ("words", .own (dS [])), ("mails", .own (dS [])), ("raw", .own (dS []))]) (Ex_assign_new (ds := dS []) (En_listd EvL_nil (by decide)) (.cell (L + 5) rfl rfl) (by walk_at "mine:upd") (own_ne (by walk_at "mine:nokey")) rfl ⟨rfl, rfl⟩) ?_
  refine Exs_step (σ₁ := σL C.w ns c lw [] [] [] []) (Ex_assign_new (ds := dS []) (En_listd EvL_nil (by decide)) (.cell (L + 6) rfl rfl) (by walk_at "mine:upd") (own_ne (by walk_at "mine:nokey")) rfl ⟨rfl, rfl⟩) ?_
  exact h
set_option maxHeartbeats 1000000 in
theorem law_A {script : List Int} {R : Out → Loc → Prop} (hl : script.length ≤ 63) (hh : C.A.handled = none) (hc : ∀ q, Txt.contains "\r\n." (oneS q) = isOdd q)
    (h : Exs (calleeCx C (nameOf 17) (scopeOf 17) a cd L X h1 h2) (σL C.w (numsOf script) (letterOf (numsOf script)) allWords [] [] [] []) ((bodyOf 17).drop 10) R) :
    Exs (calleeCx C (nameOf 17) (scopeOf 17) a cd L X h1 h2) [("script", .val (.list (dI script)))] (bodyOf 17) R := by
  have hsl : sizeLine = 16777216 := by decide
  rw [show bodyOf 17 = (bodyOf 17).drop 0 from rfl, drop_step (l := bodyOf 17) 0 1 rfl rfl]
  refine Exs_step (σ₁ := [("script", .val (.list (dI script))), ("numbers", .val (.list (dN ((script.take 5).map fun x => (x.fmod 1000000).toNat))))]) (Ex_assign (d := .list (dN ((script.take 5).map fun x => (x.fmod 1000000).toNat))) ?_ (.cell (L + 1) rfl rfl) (by walk_at "mine:upd") rfl ⟨rfl, rfl⟩) ?_
  · rw [← nums_data]
    refine EnT.ev (En_comp (σc := []) (ds := dI (script.take 5)) (Iter_list ?_ hh) (by walk_at "mine:compat") (by walk_at "mine:sees") ⟨?_, ?_, ?_, ?_⟩ (by simp; walk_at "mine:om") (fun _ => rfl))
    · have c1 : dI (script.take 5) = cut (dI script) none (some ((5 : Nat) : Int)) := by rw [cut_to]; simp
      rw [c1]
      exact EnT.ev (En_slice (by walk_at "mine:nm") trivial (show Ev _ _ _ _ from Ev_int) (by simp; walk_at "mine:om") (fun _ _ => by rfl))
    · exact List.all_eq_true.mpr fun d hd => by obtain ⟨x, _, rfl⟩ := List.mem_map.mp hd; rfl
    · intro d hd _
      obtain ⟨x, _, rfl⟩ := List.mem_map.mp hd
      rfl
    · intro A d hd
      exact Tests_nil
    · intro A d hd _
      obtain ⟨x, hx, rfl⟩ := List.mem_map.mp hd
      exact Ev_bin (by walk_at "mine:nm") (Ev_bin Ev_int Ev_int (.pow 10 6 (by decide) (by decide) (by decide))) (.fmod _ _ (by decide))
  generalize hm : ((script.take 5).map fun x => (x.fmod 1000000).toNat) = ms
  have hml : ms.length ≤ 5 := by rw [← hm]; simp; walk_at "mine:om"
  have hns : numsOf script = ms ++ [140, 72, 50, 0, 30].drop ms.length := by unfold numsOf; rw [hm]
  have hnl := numsOf_len script
  rw [hns] at hnl h
  generalize hq : ms ++ [140, 72, 50, 0, 30].drop ms.length = ns at hnl h
  rw [drop_step (l := bodyOf 17) 1 2 rfl rfl]
  refine Exs_step (σ₁ := σ0 ns) (Ex_assign (d := .list (dN ns)) ?_ (.cell (L + 1) rfl rfl) (Upd.skip (by unfold σ0; walk_at "mine:upd")) rfl ⟨rfl, rfl⟩) ?_
  · have e : dN ns = dN ms ++ cut (dN [140, 72, 50, 0, 30]) (some ((ms.length : Nat) : Int)) none := by
      rw [cut_from (by simp; walk_at "mine:om"), ← hq]
      simp only [dN, List.map_append, List.map_drop]
    rw [e]
    refine EnT.ev (En_add (by walk_at "mine:nm") (EnT.ev (En_slice_call (EnT.el (En_listd (ds := dN [140, 72, 50, 0, 30]) (EvL_cons Ev_int (EvL_cons Ev_int (EvL_cons Ev_int (EvL_cons Ev_int (EvL_cons Ev_int EvL_nil rfl) rfl) rfl) rfl) rfl) (by show 5 ≤ sizeLine; decide))) (show Ev _ _ _ _ from ?_) trivial (by show 5 ≤ sizeLine; decide))) ?_)
    · have : ((ms.length : Nat) : Int) = (((dN ms).length : Nat) : Int) := by simp
      rw [this]
      exact Ev_len (EvT.el (by walk_at "mine:nm")) rfl rfl (by simp; walk_at "mine:om")
    · rw [cut_from (by simp; walk_at "mine:om")]
      simp; walk_at "mine:om"
  generalize hsum : ns.sum / 3 % 55296 = q
  have hqlt : q < 55296 := by rw [← hsum]; walk_at "mine:om"
  rw [drop_step (l := bodyOf 17) 2 3 rfl rfl]
  refine Exs_step (σ₁ := [("numbers", .val (.list (dN ns))), ("letter", .val (.str (oneS q)))]) (Ex_assign (d := .str (oneS q)) ?_ (.loc rfl) (by unfold σ0; walk_at "mine:upd") rfl ⟨rfl, rfl⟩) ?_
  · have ev : ∀ p1 p2 p3 p4 p5 p6 p7 k1 k2, Ev (calleeCx C (nameOf 17) (scopeOf 17) a cd L X h1 h2) (σ0 ns) (.BinOp (.BinOp (.Call (.Name "sum" p1) [.Name "numbers" p2] [] p3) .FloorDiv (.Constant (.int 3) k1 p4) p5) .Mod (.Constant (.int 55296) k2 p6) p7) (.int (q : Int)) := fun p1 p2 p3 p4 p5 p6 p7 k1 k2 => by
      have e : (q : Int) = (((ns.map fun i : Nat => (i : Int)).sum).fdiv 3).fmod 55296 := by
        rw [sum_cast, ← hsum, Int.fdiv_eq_ediv_of_nonneg _ (by decide), Int.fmod_eq_emod_of_nonneg _ (by decide)]
        walk_at "mine:om"
      rw [e]
      refine Ev_bin (Ev_bin (Ev_sum (ns := ns.map fun i : Nat => (i : Int)) ?_ rfl rfl hh) Ev_int (.fdiv _ _ (by decide) (by decide))) Ev_int (.fmod _ _ (by decide))
      have e2 : (ns.map fun i : Nat => (i : Int)).map PyData.int = dN ns := by simp [dN]
      rw [e2]
      exact EvT.el (by walk_at "mine:nm")
    exact Ev_chrN (ev _ _ _ _ _ _ _ _ _) rfl rfl (by walk_at "mine:om")
  have hlet : letterOf ns = if isOdd q then 97 else q := by unfold letterOf; rw [hsum]
  rw [hlet] at h
  generalize hcc : (if isOdd q = true then 97 else q) = c at h
  rw [drop_step (l := bodyOf 17) 3 4 rfl rfl]
  refine Exs_step (σ₁ := [("numbers", .val (.list (dN ns))), ("letter", .val (.str (oneS c)))]) (Ex_if (b := isOdd q) ?_ (fun hb => ?_) (fun hb => ?_)) ?_
  · rw [← hc q]
    exact It_cmp (by walk_at "mine:nm") Ev_str (.ins _ _) rfl
  · rw [hb, if_pos rfl] at hcc
    subst hcc
    exact Exs_step (σ₁ := [("numbers", .val (.list (dN ns))), ("letter", .val (.str (oneS 97)))]) (Ex_assign (d := .str (oneS 97)) Ev_str (.loc rfl) (by walk_at "mine:upd") rfl ⟨rfl, rfl⟩) (Exs_nil ⟨rfl, rfl⟩)
  · rw [hb, if_neg (by decide)] at hcc
    subst hcc
    exact Exs_nil ⟨rfl, rfl⟩
  rw [drop_step (l := bodyOf 17) 4 5 rfl rfl]
  refine Exs_step (σ₁ := [("numbers", .val (.list (dN ns))), ("put", .val (.dict (tab C.w (putT c))))]) (Ex_assign (d := .dict (tab C.w (putT c))) (Ev_dict2 Ev_str (Ev_bin (by walk_at "mine:nm") Ev_str (.cat _ _ (by show 1 + 3 ≤ _; walk_at "mine:om"))) Ev_str Ev_str (by decide)) (.cell (L + 2) rfl rfl) (Upd.there (by decide) (Upd.skip (by walk_at "mine:upd"))) rfl ⟨rfl, rfl⟩) ?_
  generalize hr5 : (bodyOf 17).drop 5 = r5
  exact law_A2 hr5 spell_all h
end
end Mine
end
section
open PySem PySem.Spec PySem.Calls PyProof.Rows PySem.W PySem.Builtin PySem.Builtin.Str
namespace Mine
noncomputable def eolOf (t : Nat) : Str := if t % 3 = 0 then "\n" else if t % 3 = 1 then "\r" else "\r\n"
noncomputable def pieceOf (c : Nat) (b : Bool) : Str := if b then putA c else ".\n"
noncomputable def textStep (c : Nat) (p : Str × Nat) (b : Bool) : Str × Nat := (p.1 ++ Txt.replace (pieceOf c b) "\n" (eolOf p.2), p.2 / 3)
noncomputable def textOf (c : Nat) (w : List Bool) (t : Nat) : Str := (w.foldl (textStep c) ("", t)).1
noncomputable def mailOf (c : Nat) (w : List Bool) : Str := Txt.join "" (w.map (pieceOf c))
noncomputable def pickStep (p : List (List Bool) × List (List Bool × Nat)) (n : Nat) : List (List Bool) × List (List Bool × Nat) := (p.1.eraseIdx (n % p.1.length), p.2 ++ [(p.1.getD (n % p.1.length) [], n / 20)])
noncomputable def picks (ns : List Nat) : List (List Bool) × List (List Bool × Nat) := ns.foldl pickStep (allWords, [])
noncomputable def wordsOf (ch : List (List Bool × Nat)) : List Str := ch.map fun p => spell p.1 ++ "."
noncomputable def mailsOf (c : Nat) (ch : List (List Bool × Nat)) : List Str := ch.map fun p => mailOf c p.1
noncomputable def rawsOf (c : Nat) (ch : List (List Bool × Nat)) : List Str := ch.map fun p => fixS (textOf c p.1 p.2) ++ ".\r\n"
noncomputable def sentsOf (c : Nat) (ch : List (List Bool × Nat)) : List Str := ch.map fun p => dotS (fixS (textOf c p.1 p.2)) ++ ".\r\n"
structure LawEnv (C : Cx) : Prop where
  room : Room C 5
  d38 : DefAt C.B 38 2
  d45 : DefAt C.B 45 3
  d62 : DefAt C.B 62 8
  d69 : DefAt C.B 69 9
  d76 : DefAt C.B 76 11
  d81 : DefAt C.B 81 12
  d88 : DefAt C.B 88 13
  d95 : DefAt C.B 95 14
  d100 : DefAt C.B 100 15
  d105 : DefAt C.B 105 16
  eols : Eols C.B
  nb : NoneBooked C.B
structure WordFits (c : Nat) (w : List Bool) (t : Nat) : Prop where
  len : w.length ≤ 3
  text : ∀ i, ((w.take i).foldl (textStep c) ("", t)).1.length ≤ 100
  rep : ∀ b t, (Txt.replace (pieceOf c b) "\n" (eolOf t)).length ≤ 100
theorem signs_at {w : List Bool} {i : Nat} {d : PyData} (h : (signs (spell w))[i]? = some d) : ∃ hi : i < w.length, d = .str (oneS (if w[i] then 97 else 46)) := by
  unfold signs spell at h
  simp only [List.map_map, List.getElem?_map, Option.map_eq_some_iff] at h
  obtain ⟨b, hb, rfl⟩ := h
  obtain ⟨hi, rfl⟩ := List.getElem?_eq_some_iff.mp hb
  exact ⟨hi, rfl⟩
theorem signs_len (w : List Bool) : (signs (spell w)).length = w.length := by simp [signs, spell]
theorem put_look (c : Nat) (b : Bool) : (putT c).lookup (oneS (if b then 97 else 46)) = some (pieceOf c b) := by
  have e1 : (oneS 97 == ("a" : Str)) = true := by decide +kernel
  have e2 : (oneS 46 == ("a" : Str)) = false := by decide +kernel
  have e3 : (oneS 46 == (".": Str)) = true := by decide +kernel
  unfold putT
  cases b
  · simp only [List.lookup_cons, Bool.false_eq_true, if_false, e2, e3]; rfl
  · simp only [List.lookup_cons, if_true, e1]; rfl
theorem eol_at (t : Nat) : (["\n", "\r", "\r\n"] : List Str)[t % 3]? = some (eolOf t) := by
  have h : t % 3 < 3 := Nat.mod_lt _ (by decide)
  unfold eolOf
  rcases (by walk_at "mine:om" : t % 3 = 0 ∨ t % 3 = 1 ∨ t % 3 = 2) with e | e | e <;> rw [e] <;> rfl
section
variable {C : Cx} {a : Addr} {cd : Value} {L : Addr} {X : List Addr} {h1 : ∀ b ∈ X, b ∉ L :: C.F} {h2 : ∀ p ∈ cellsFrom (L + 1) (scopeOf 17).names [], p.2 ∉ X}
noncomputable def forBody (st : Stmt) : List Stmt := match st with | .For _ _ b _ _ => b | _ => []
noncomputable def σW' (w : World) (ns : List Nat) (c : Nat) (left : List (List Bool)) (wo ma ra se : List Str) (n : Nat) (wd : List Bool) (x : Str) (t : Nat) : Loc :=
  [("numbers", .val (.list (dN ns))), ("put", .val (.dict (tab w (putT c)))), ("left", .own (dS (left.map spell))), ("words", .own (dS wo)), ("mails", .own (dS ma)), ("raw", .own (dS ra)), ("sent", .own (dS se)),
   ("number", .val (.int (n : Int))), ("word", .val (.str (spell wd))), ("text", .val (.str x)), ("turn", .val (.int (t : Int)))]
theorem int_div (t k : Nat) : ((t : Int).fdiv k) = ((t / k : Nat) : Int) := by
  rw [Int.fdiv_eq_ediv_of_nonneg _ (by walk_at "mine:om")]; rfl
theorem int_mod (t k : Nat) : ((t : Int).fmod k) = ((t % k : Nat) : Int) := by
  rw [Int.fmod_eq_emod_of_nonneg _ (by walk_at "mine:om")]; rfl
theorem eraseIdx_map' {α β : Type} (f : α → β) : ∀ (l : List α) (k : Nat), (l.map f).eraseIdx k = (l.eraseIdx k).map f
  | [], k => by simp
  | x :: l, 0 => rfl
  | x :: l, k + 1 => by
    rw [List.map_cons, List.eraseIdx_cons_succ, List.eraseIdx_cons_succ, List.map_cons, eraseIdx_map' f l k]
theorem dNs_at {xs : List Nat} {k : Nat} {d : PyData} (h : (dN xs)[k]? = some d) : ∃ hk : k < xs.length, d = .int ((xs[k] : Nat) : Int) := by
  have hk : k < xs.length := by simpa using (List.getElem?_eq_some_iff.mp h).1
  rw [List.getElem?_map, List.getElem?_eq_getElem hk] at h
  exact ⟨hk, (Option.some.inj h).symm⟩
theorem dotE_len : ∀ (b : Bool) (l : List Nat), (dotE b l).length ≤ 2 * l.length
  | _, [] => by simp [dotE]
  | b, c :: r => by
    rw [dotE]
    split
    · have := dotE_len false r; simp; walk_at "mine:om"
    · have := dotE_len (c == 10) r; simp; walk_at "mine:om"
theorem picks_snoc {ns : List Nat} {i : Nat} (hi : i < ns.length) : picks (ns.take (i + 1)) = pickStep (picks (ns.take i)) ns[i] := by
  unfold picks
  rw [← List.take_append_getElem hi, List.foldl_append]; rfl
theorem text_snoc {c : Nat} {w : List Bool} {p : Str × Nat} {i : Nat} (hi : i < w.length) : (w.take (i + 1)).foldl (textStep c) p = textStep c ((w.take i).foldl (textStep c) p) w[i] := by
  rw [← List.take_append_getElem hi, List.foldl_append]; rfl
theorem all_len3 : ∀ w ∈ allWords, w.length ≤ 3 := by decide
theorem picks_inv : ∀ (ns : List Nat) (i : Nat), i ≤ ns.length → i ≤ 13 → (picks (ns.take i)).1.length = 14 - i ∧ (∀ w ∈ (picks (ns.take i)).1, w ∈ allWords) ∧ (picks (ns.take i)).2.length = i ∧ ∀ p ∈ (picks (ns.take i)).2, p.1 ∈ allWords
  | ns, 0, _, _ => ⟨rfl, fun w hw => hw, rfl, fun p hp => nomatch hp⟩
  | ns, i + 1, h, h13 => by
    obtain ⟨a1, a2, a3, a4⟩ := picks_inv ns i (by walk_at "mine:om") (by walk_at "mine:om")
    rw [picks_snoc (show i < ns.length by walk_at "mine:om")]
    unfold pickStep
    have hj : ns[i] % (picks (ns.take i)).1.length < (picks (ns.take i)).1.length := Nat.mod_lt _ (by walk_at "mine:om")
    refine ⟨?_, fun w hw => a2 w (List.mem_of_mem_eraseIdx hw), by rw [List.length_append, a3]; rfl, fun p hp => ?_⟩
    · rw [List.length_eraseIdx, if_pos hj]; walk_at "mine:om"
    · rcases List.mem_append.mp hp with q | q
      · exact a4 p q
      · rw [List.mem_singleton] at q; subst q
        refine a2 _ ?_
        show List.getD _ _ _ ∈ _
        rw [List.getD_eq_getElem?_getD, List.getElem?_eq_getElem hj]
        exact List.getElem_mem hj
theorem piece_len (c : Nat) (b : Bool) : (pieceOf c b).length ≤ 4 := by
  cases b
  · show (2 : Nat) ≤ 4; decide
  · show (1 + 3 : Nat) ≤ 4; decide
theorem signs_map (c : Nat) (w : List Bool) : ((signs (spell w)).filter fun _ => true).map (fun d => match d with | .str s => .str (((putT c).lookup s).getD "") | _ => .none) = dS (w.map (pieceOf c)) := by
  rw [List.filter_eq_self.mpr (fun _ _ => rfl)]
  simp only [signs, spell, List.map_map, dS]
  apply List.map_congr_left
  intro b _
  show PyData.str (((putT c).lookup (oneS (if b then 97 else 46))).getD "") = _
  rw [put_look]; rfl
theorem joinOk_small {xs : List Str} (h1 : xs.length ≤ 100) (h2 : ∀ x ∈ xs, x.length ≤ 1000) : JoinOk "" xs = true := by
  unfold JoinOk tooLong
  rw [StrLaws.joinTotal]
  have h0 : (("" : Str)).length = 0 := rfl
  rw [h0]
  have : (xs.map (·.length)).sum ≤ xs.length * 1000 := by
    clear h1
    induction xs with
    | nil => simp
    | cons x xs ih =>
      have a := h2 x (.head _)
      have b := ih fun y hy => h2 y (.tail _ hy)
      simp only [List.map_cons, List.sum_cons, List.length_cons]; walk_at "mine:om"
  have hs : sizeLine = 16777216 := by decide
  rw [hs]
  simp only [Bool.not_eq_true', decide_eq_false_iff_not, Nat.not_lt]
  walk_at "mine:om"
noncomputable abbrev asLoc (x : Loc) : Loc := x
set_option maxHeartbeats 2000000 in
theorem law_B {ns : List Nat} {c : Nat} {R : Out → Loc → Prop} (ev : LawEnv (calleeCx C (nameOf 17) (scopeOf 17) a cd L X h1 h2)) (hh : C.A.handled = none) (hns : ns.length = 5) (hfit : ∀ w ∈ allWords, ∀ t, WordFits c w t)
    (h : Exs (calleeCx C (nameOf 17) (scopeOf 17) a cd L X h1 h2) (σL C.w ns c (picks (ns.take 4)).1 (wordsOf (picks (ns.take 4)).2) (mailsOf c (picks (ns.take 4)).2) (rawsOf c (picks (ns.take 4)).2) (sentsOf c (picks (ns.take 4)).2)) ((bodyOf 17).drop 11) R) :
    Exs (calleeCx C (nameOf 17) (scopeOf 17) a cd L X h1 h2) (σL C.w ns c allWords [] [] [] []) ((bodyOf 17).drop 10) R := by
  have hsl : sizeLine = 16777216 := by decide
  rw [drop_step (l := bodyOf 17) 10 11 rfl rfl]
  generalize (bodyOf 17).drop 11 = rest at h ⊢
  refine Exs_cons (R₁ := fun fl σ' => fl = .next ∧ σ' = σL C.w ns c (picks (ns.take 4)).1 (wordsOf (picks (ns.take 4)).2) (mailsOf c (picks (ns.take 4)).2) (rawsOf c (picks (ns.take 4)).2) (sentsOf c (picks (ns.take 4)).2))
    (Ex_for (ds := dN (ns.take 4)) (Iter_list ?_ hh) rfl (fun i σ' => σ' = σL C.w ns c (picks ((ns.take 4).take i)).1 (wordsOf (picks ((ns.take 4).take i)).2) (mailsOf c (picks ((ns.take 4).take i)).2) (rawsOf c (picks ((ns.take 4).take i)).2) (sentsOf c (picks ((ns.take 4).take i)).2)) rfl ?_ ?_ (fun _ => rfl)) (fun σ' q => q.2 ▸ h) (fun fl σ' hne q => absurd q.1 hne)
  · have c1 : dN (ns.take 4) = cut (dN ns) none (some ((4 : Nat) : Int)) := by rw [cut_to]; simp
    rw [c1]
    exact EnT.ev (En_slice (by unfold σL; walk_at "mine:nm") trivial (show Ev _ _ _ _ from Ev_int) (by simp; walk_at "mine:om") (fun _ _ => by rfl))
  · rintro i d σ' hd rfl
    obtain ⟨hi, rfl⟩ := dNs_at hd
    obtain ⟨v1, v2, v3, v4⟩ := picks_inv (ns.take 4) i (by walk_at "mine:om") (by simp at hi; walk_at "mine:om")
    rw [picks_snoc hi]
    have hi4 : i < 4 := by simp at hi; walk_at "mine:om"
    generalize (ns.take 4)[i] = n
    generalize picks ((ns.take 4).take i) = pk at v1 v2 v3 v4 ⊢
    obtain ⟨left, ch⟩ := pk
    simp only at v1 v2 v3 v4
    unfold pickStep
    simp only
    have hj : n % left.length < left.length := Nat.mod_lt _ (by walk_at "mine:om")
    have hw : left[n % left.length]? = some (left.getD (n % left.length) []) := by rw [List.getD_eq_getElem?_getD, List.getElem?_eq_getElem hj]; rfl
    have hwm : left.getD (n % left.length) [] ∈ allWords := v2 _ (by rw [List.getD_eq_getElem?_getD, List.getElem?_eq_getElem hj]; exact List.getElem_mem hj)
    have hjI : ((n : Int).fmod ((left.length : Nat) : Int)) = ((n % left.length : Nat) : Int) := int_mod _ _
    generalize hjj : n % left.length = j at hj hw hwm hjI ⊢
    generalize left.getD j [] = wd at hw hwm ⊢
    have fit := hfit wd hwm (n / 20)
    have lwd := fit.len
    refine ⟨σL C.w ns c left (wordsOf ch) (mailsOf c ch) (rawsOf c ch) (sentsOf c ch) ++ asLoc [("number", .val (.int (n : Int)))], by unfold σL; walk_at "mine:upd", ExT.to1 ?_⟩
    refine Exs_step (σ₁ := σL C.w ns c (left.eraseIdx j) (wordsOf ch) (mailsOf c ch) (rawsOf c ch) (sentsOf c ch) ++ asLoc [("number", .val (.int (n : Int))), ("word", .val (.str (spell wd)))])
      (Ex_pop_at (ds := dS (left.map spell)) (d := .str (spell wd)) (i := (j : Int)) (j := j) (σ₁ := σL C.w ns c (left.eraseIdx j) (wordsOf ch) (mailsOf c ch) (rawsOf c ch) (sentsOf c ch) ++ asLoc [("number", .val (.int (n : Int)))]) (by unfold σL; walk_at "mine:mem") ?_ rfl (by rw [List.getElem?_map, List.getElem?_map, hw]; rfl) (.loc rfl)
        (by rw [eraseIdx_map', eraseIdx_map']; unfold σL; walk_at "mine:upd") (by unfold σL; walk_at "mine:upd") ⟨rfl, rfl⟩ (by simp; walk_at "mine:om") rfl rfl rfl rfl rfl) ?_
    · rw [← hjI]
      refine Ev_bin (by unfold σL; walk_at "mine:nm") (show Ev _ _ _ (.int ((left.length : Nat) : Int)) from ?_) (.fmod _ _ (by walk_at "mine:om"))
      have : ((left.length : Nat) : Int) = (((dS (left.map spell)).length : Nat) : Int) := by simp
      rw [this]
      exact Ev_len (by unfold σL; walk_at "mine:nmo") rfl rfl (by simp; walk_at "mine:om")
    refine Exs_step (σ₁ := σL C.w ns c (left.eraseIdx j) (wordsOf ch) (mailsOf c ch) (rawsOf c ch) (sentsOf c ch) ++ asLoc [("number", .val (.int (n : Int))), ("word", .val (.str (spell wd))), ("text", .val (.str ""))]) (Ex_assign Ev_str (.loc rfl) (by unfold σL; walk_at "mine:upd") rfl ⟨rfl, rfl⟩) ?_
    refine Exs_step (σ₁ := σW' C.w ns c (left.eraseIdx j) (wordsOf ch) (mailsOf c ch) (rawsOf c ch) (sentsOf c ch) n wd "" (n / 20)) (Ex_assign (d := .int ((n / 20 : Nat) : Int)) (by rw [← int_div]; exact Ev_bin (by unfold σL; walk_at "mine:nm") Ev_int (.fdiv _ _ (by decide) (by decide))) (.loc rfl) (by unfold σL σW'; walk_at "mine:upd") rfl ⟨rfl, rfl⟩) ?_
    generalize hl' : left.eraseIdx j = left'
    refine Exs_cons (R₁ := fun fl σ' => fl = .next ∧ σ' = σW' C.w ns c left' (wordsOf ch) (mailsOf c ch) (rawsOf c ch) (sentsOf c ch) n wd (textOf c wd (n / 20)) (wd.foldl (textStep c) ("", n / 20)).2)
      (Ex_for (ds := signs (spell wd)) (Iter_str (by unfold σW'; walk_at "mine:nm") hh) rfl (fun i σ' => σ' = σW' C.w ns c left' (wordsOf ch) (mailsOf c ch) (rawsOf c ch) (sentsOf c ch) n wd ((wd.take i).foldl (textStep c) ("", n / 20)).1 ((wd.take i).foldl (textStep c) ("", n / 20)).2) rfl ?_ ?_ (fun _ => rfl)) (fun σ' q => q.2 ▸ ?_) (fun fl σ' hne q => absurd q.1 hne)
    · rintro k d σ' hd rfl
      obtain ⟨hk, rfl⟩ := signs_at hd
      have ft1 := fit.text k
      have fr := fit.rep wd[k] ((wd.take k).foldl (textStep c) ("", n / 20)).2
      rw [text_snoc hk]
      generalize wd[k] = b at fr ⊢
      generalize (wd.take k).foldl (textStep c) ("", n / 20) = st at ft1 fr ⊢
      obtain ⟨x, t⟩ := st
      simp only at ft1 fr
      refine ⟨σW' C.w ns c left' (wordsOf ch) (mailsOf c ch) (rawsOf c ch) (sentsOf c ch) n wd x t ++ asLoc [("piece", .val (.str (oneS (if b then 97 else 46))))], by unfold σW'; walk_at "mine:upd", ?_⟩
      refine Exs1_cons (R₁ := fun fl σ' => fl = .next ∧ σ' = σW' C.w ns c left' (wordsOf ch) (mailsOf c ch) (rawsOf c ch) (sentsOf c ch) n wd (x ++ Txt.replace (pieceOf c b) "\n" (eolOf t)) t ++ asLoc [("piece", .val (.str (oneS (if b then 97 else 46))))])
        (Ex1_aug_replace (i := t % 3) ev.nb (by unfold σW'; walk_at "mine:mem") (by unfold σW'; walk_at "mine:mem") (by unfold σW'; walk_at "mine:mem") (put_look c b) (by rw [← int_mod]; exact Ev_bin (by unfold σW'; walk_at "mine:nm") Ev_int (.fmod _ _ (by decide))) (eol_at t) rfl rfl (by walk_at "mine:om") ?_ rfl (fun _ _ => rfl) rfl rfl (.loc rfl) (by unfold σW'; walk_at "mine:upd") ⟨rfl, rfl⟩) (fun σ' q => q.2 ▸ ?_) (fun fl σ' hne q => absurd q.1 hne)
      · have := piece_len c b
        have e3 : (eolOf t).length ≤ 2 := by unfold eolOf; split; decide; split <;> decide
        have := Nat.mul_le_mul (show (pieceOf c b).length + 1 ≤ 5 by walk_at "mine:om") e3
        walk_at "mine:om"
      refine Exs_step (σ₁ := σW' C.w ns c left' (wordsOf ch) (mailsOf c ch) (rawsOf c ch) (sentsOf c ch) n wd (x ++ Txt.replace (pieceOf c b) "\n" (eolOf t)) (t / 3) ++ asLoc [("piece", .val (.str (oneS (if b then 97 else 46))))]) (Ex_assign (d := .int ((t / 3 : Nat) : Int)) (by rw [← int_div]; exact Ev_bin (by unfold σW'; walk_at "mine:nm") Ev_int (.fdiv _ _ (by decide) (by decide))) (.loc rfl) (by unfold σW'; walk_at "mine:upd") rfl ⟨rfl, rfl⟩) ?_
      exact Exs_end (fun p hp => List.mem_append_left _ hp) rfl
    · rintro σ' rfl
      refine ⟨rfl, ?_⟩
      rw [signs_len, List.take_of_length_le (Nat.le_refl _)]; rfl
    have ftl := fit.text wd.length
    rw [List.take_of_length_le (Nat.le_refl _)] at ftl
    have ftl' : (textOf c wd (n / 20)).length ≤ 100 := ftl
    have hmail : ∀ y ∈ wd.map (pieceOf c), y.length ≤ 1000 := fun y hy => by
      obtain ⟨b, _, rfl⟩ := List.mem_map.mp hy
      have := piece_len c b; walk_at "mine:om"
    have hspl : (spell wd).length ≤ 3 := by show (List.toArray _).size ≤ 3; simp; exact lwd
    have lfix : (fixS (textOf c wd (n / 20))).length ≤ 200 := by
      have := fixE_len _ (textOf c wd (n / 20)).cps.toList (Nat.le_refl _)
      show (fixE (textOf c wd (n / 20)).cps.toList).toArray.size ≤ _
      have e : (textOf c wd (n / 20)).cps.toList.length = (textOf c wd (n / 20)).length := by simp [Str.length]
      rw [List.size_toArray]; walk_at "mine:om"
    have ldot : (dotS (fixS (textOf c wd (n / 20)))).length ≤ 400 := by
      have := dotE_len true (fixS (textOf c wd (n / 20))).cps.toList
      show (dotE true (fixS (textOf c wd (n / 20))).cps.toList).toArray.size ≤ _
      have e : (fixS (textOf c wd (n / 20))).cps.toList.length = (fixS (textOf c wd (n / 20))).length := by simp [Str.length]
      rw [List.size_toArray]; walk_at "mine:om"
    generalize (wd.foldl (textStep c) ("", n / 20)).2 = t'
    have lch : ch.length ≤ 4 := by walk_at "mine:om"
    refine Exs_step (σ₁ := σW' C.w ns c left' (wordsOf (ch ++ [(wd, n / 20)])) (mailsOf c ch) (rawsOf c ch) (sentsOf c ch) n wd (textOf c wd (n / 20)) t') (Ex_append (d := .str (spell wd ++ ".")) (by unfold σW'; walk_at "mine:mem") (Ev_bin (by unfold σW'; walk_at "mine:nm") Ev_str (.cat _ _ (by show (spell wd).length + 1 ≤ _; walk_at "mine:om"))) (by unfold wordsOf; rw [List.map_append]; unfold σW'; simp only [dS, List.map_append]; walk_at "mine:upd") ⟨rfl, rfl⟩ (by simp [wordsOf]; walk_at "mine:om") rfl rfl rfl rfl rfl) ?_
    refine Exs_step (σ₁ := σW' C.w ns c left' (wordsOf (ch ++ [(wd, n / 20)])) (mailsOf c (ch ++ [(wd, n / 20)])) (rawsOf c ch) (sentsOf c ch) n wd (textOf c wd (n / 20)) t') (Ex_append (d := .str (mailOf c wd)) (by unfold σW'; walk_at "mine:mem") (Ev_join Ev_str ?_ rfl rfl rfl (joinOk_small (by simp; walk_at "mine:om") hmail)) (by unfold mailsOf; rw [List.map_append]; unfold σW'; simp only [dS, List.map_append]; walk_at "mine:upd") ⟨rfl, rfl⟩ (by simp [mailsOf]; walk_at "mine:om") rfl rfl rfl rfl rfl) ?_
    · rw [show (wd.map (pieceOf c)).map PyData.str = dS (wd.map (pieceOf c)) from rfl, ← signs_map]
      refine EnT.el (En_comp (σc := [("put", .val (.dict (tab C.w (putT c))))]) (Iter_str (by unfold σW'; walk_at "mine:nm") hh) (by walk_at "mine:compat") (by unfold σW'; walk_at "mine:sees") ⟨?_, ?_, ?_, ?_⟩ (by rw [signs_len]; walk_at "mine:om") (fun _ => rfl))
      · exact List.all_eq_true.mpr fun d hd => by obtain ⟨x, _, rfl⟩ := List.mem_map.mp hd; rfl
      · intro d hd _
        obtain ⟨x, _, rfl⟩ := List.mem_map.mp hd
        rfl
      · intro A d hd
        exact Tests_nil
      · intro A d hd _
        obtain ⟨k, hk, e⟩ := List.mem_iff_getElem.mp hd
        obtain ⟨hk', rfl⟩ := signs_at (List.getElem?_eq_some_iff.mpr ⟨hk, e⟩)
        show Ev _ _ _ (.str (((putT c).lookup (oneS (if wd[k] then 97 else 46))).getD ""))
        rw [put_look]
        exact Ev_ditem (by walk_at "mine:nm") (by walk_at "mine:nm") (put_look c _) (fun _ _ => rfl)
    refine Exs_step (σ₁ := σW' C.w ns c left' (wordsOf (ch ++ [(wd, n / 20)])) (mailsOf c (ch ++ [(wd, n / 20)])) (rawsOf c (ch ++ [(wd, n / 20)])) (sentsOf c ch) n wd (textOf c wd (n / 20)) t') (Ex_append (d := .str (fixS (textOf c wd (n / 20)) ++ ".\r\n")) (by unfold σW'; walk_at "mine:mem") (Ev_bin (Ev_call rfl (by walk_at "mine:mem") rfl ev.d69.any (EvL_cons (by unfold σW'; walk_at "mine:nm") EvL_nil rfl) rfl (fix_ok ev.room ev.d69 ev.eols (by walk_at "mine:om"))) Ev_str (.cat _ _ (by show _ + 3 ≤ _; walk_at "mine:om"))) (by unfold rawsOf; rw [List.map_append]; unfold σW'; simp only [dS, List.map_append]; walk_at "mine:upd") ⟨rfl, rfl⟩ (by simp [rawsOf]; walk_at "mine:om") rfl rfl rfl rfl rfl) ?_
    refine Exs_step (σ₁ := σW' C.w ns c left' (wordsOf (ch ++ [(wd, n / 20)])) (mailsOf c (ch ++ [(wd, n / 20)])) (rawsOf c (ch ++ [(wd, n / 20)])) (sentsOf c (ch ++ [(wd, n / 20)])) n wd (textOf c wd (n / 20)) t') (Ex_append (d := .str (dotS (fixS (textOf c wd (n / 20))) ++ ".\r\n")) (by unfold σW'; walk_at "mine:mem") (Ev_bin (Ev_call rfl (by walk_at "mine:mem") rfl ev.d62.any (EvL_cons (by unfold σW'; walk_at "mine:nm") EvL_nil rfl) rfl (quote_ok ev.room ev.d62 ev.eols (by walk_at "mine:om"))) Ev_str (.cat _ _ (by show _ + 3 ≤ _; walk_at "mine:om"))) (by unfold sentsOf; rw [List.map_append]; unfold σW'; simp only [dS, List.map_append]; walk_at "mine:upd") ⟨rfl, rfl⟩ (by simp [sentsOf]; walk_at "mine:om") rfl rfl rfl rfl rfl) ?_
    have hsub : σW' C.w ns c left' (wordsOf (ch ++ [(wd, n / 20)])) (mailsOf c (ch ++ [(wd, n / 20)])) (rawsOf c (ch ++ [(wd, n / 20)])) (sentsOf c (ch ++ [(wd, n / 20)])) n wd (textOf c wd (n / 20)) t' =
      σL C.w ns c left' (wordsOf (ch ++ [(wd, n / 20)])) (mailsOf c (ch ++ [(wd, n / 20)])) (rawsOf c (ch ++ [(wd, n / 20)])) (sentsOf c (ch ++ [(wd, n / 20)])) ++ asLoc [("number", .val (.int (n : Int))), ("word", .val (.str (spell wd))), ("text", .val (.str (textOf c wd (n / 20)))), ("turn", .val (.int (t' : Int)))] := rfl
    rw [hsub]
    exact Exs_end (fun p hp => List.mem_append_left _ hp) rfl
  · rintro σ' rfl
    refine ⟨rfl, ?_⟩
    rw [List.take_of_length_le (by simp)]
end
end Mine
end
section
open PySem PySem.Spec PySem.Calls PyProof.Rows PySem.W PySem.Builtin PySem.Builtin.Str
namespace Mine
noncomputable def pickAt (xs : List Str) (is : List Nat) : List Str := is.map fun k => xs.getD k ""
noncomputable def joinAt (xs : List Str) (is : List Nat) : Str := Txt.join "" (pickAt xs is)
theorem pick_comp (xs : List Str) (is : List Nat) : ((dN is).filter fun _ => true).map (toStr fun k => xs.getD k "") = dS (pickAt xs is) := by
  rw [List.filter_eq_self.mpr (fun _ _ => rfl)]
  simp only [pickAt, dS, dN, List.map_map]
  rfl
section
variable {C : Cx} {σ : Loc}
theorem En_pick {x : Str} {xs : List Str} {is : List Nat} {iter : Expr} {sc : Scope} {cl : List (Str × Addr)} {p1 p2 p3 px pos : Pos} (hi : Iter C σ iter (dN is)) (at' : CompAt C sc cl "k") (see : Sees C sc cl "k" σ [(x, .val (.list (dS xs)))])
    (hx : ("k" : Str) ≠ x) (hd : (x == ("__debug__" : Str)) = false) (hlt : ∀ k ∈ is, k < xs.length) (hl : xs.length ≤ 1000) (hl2 : is.length ≤ 1000) (hs : ∀ v, foldedSetIterable iter C.env v = pure v) :
    En C σ (.ListComp (.Subscript (.Name x p1) (.Name "k" p2) p3) [⟨.Name "k" px, iter, [], 0⟩] sc pos) (dS (pickAt xs is)) := by
  have hsl : sizeLine = 16777216 := by decide
  rw [← pick_comp]
  refine En_comp (σc := [(x, .val (.list (dS xs)))]) hi at' see ⟨?_, ?_, ?_, ?_⟩ (by simp; walk_at "mine:om") hs
  · exact List.all_eq_true.mpr fun d hd => by obtain ⟨k, _, rfl⟩ := List.mem_map.mp hd; rfl
  · intro d hd _
    obtain ⟨k, _, rfl⟩ := List.mem_map.mp hd
    rfl
  · intro A d hd
    exact Tests_nil
  · intro A d hd' _
    obtain ⟨k, hk, rfl⟩ := List.mem_map.mp hd'
    have := hlt k hk
    exact Ev_item (j := k) (Ev_name (.tail _ (.head _)) hd) (Ev_name (.head _) rfl) ⟨by simpa using this, .inl rfl⟩ (dS_get this) (by simp; walk_at "mine:om") (fun _ _ => rfl)
end
theorem layN : ∀ xs : List Nat, PyData.canLayAll0 (dN xs) = true
  | [] => by simp [PyData.canLayAll0]
  | x :: xs => by
    have := layN xs
    simp only [dN, List.map_cons, PyData.canLayAll0, PyData.canLay0, Bool.true_and] at this ⊢
    exact this
theorem depthN : ∀ xs : List Nat, PyData.depthAll (dN xs) = 0
  | [] => rfl
  | x :: xs => by
    have := depthN xs
    simp only [dN, List.map_cons, PyData.depthAll, PyData.depth] at this ⊢
    walk_at "mine:om"
theorem deep_res (w : Option Way) : deep (.list (dRes w)) = true := by
  rw [deep_iff]
  cases w with
  | none => exact ⟨by simp [dRes, PyData.canLay0, PyData.canLayAll0], by simp [dRes, PyData.depth, PyData.depthAll]⟩
  | some w =>
    refine ⟨?_, ?_⟩
    · simp only [dRes, PyData.canLay0, PyData.canLayAll0, Bool.and_true, Bool.and_eq_true]
      exact ⟨layN _, layN _⟩
    · simp only [dRes, PyData.depth, PyData.depthAll, depthN]; decide
theorem eqv_res (w : Option Way) : PyData.eqv (.list (dRes w)) (.list []) = decide (w = none) := by
  cases w <;> simp [dRes, PyData.eqv, PyData.eqvAll]
theorem deep_nil : deep (.list []) = true := by rw [deep_iff]; exact ⟨by simp [PyData.canLay0, PyData.canLayAll0], by simp [PyData.depth, PyData.depthAll]⟩
theorem deep_bool (b : Bool) : deep (.bool b) = true := by cases b <;> decide +kernel
theorem eqv_bool (a b : Bool) : PyData.eqv (.bool a) (.bool b) = (a == b) := by cases a <;> cases b <;> decide +kernel
structure Facts1 (Wd Rw Se : List Str) (w : Option Way) (r : List Str) : Prop where
  wl : Wd.length = 4 ∧ Rw.length = 4 ∧ Se.length = 4
  wok : WordsOk Wd
  hands : ∃ N, N ≤ 50000 ∧ hrun Wd N ⟨initWays Wd, [], 0⟩ = some w
  rok : WordsOk' Rw
  rounds : ∃ all0 n, RestsIs Rw Rw all0 ∧ RRun (RestsIs Rw) n (all0.filter fun x : Str => !decide (x = ("" : Str))) [] r
  rset : SetOk r
  sok : WordsOk' Se
  srounds : ∃ all0 n, RestsIs Se Se all0 ∧ RRun (RestsIs Se) n (all0.filter fun x : Str => !decide (x = ("" : Str))) [] []
  sp : ("" : Str) ∈ r ↔ w ≠ none
  way : ∀ y, w = some y → (∀ k ∈ y.first, k < 4) ∧ (∀ k ∈ y.second, k < 4) ∧ y.first.length ≤ 15 ∧ y.second.length ≤ 15 ∧ y.first ≠ [] ∧ y.second ≠ [] ∧ joinAt Rw y.first = joinAt Rw y.second ∧ joinAt Se y.first ≠ joinAt Se y.second
  rs : ∀ is : List Nat, (∀ k ∈ is, k < 4) → is.length ≤ 15 → JoinOk "" (pickAt Rw is) = true ∧ JoinOk "" (pickAt Se is) = true ∧ okS (joinAt Rw is) = true ∧ okS (joinAt Se is) = true
noncomputable def σF (w : World) (ns : List Nat) (c : Nat) (Wd Ma Rw Se : List Str) (y : Option Way) : Loc :=
  [("numbers", .val (.list (dN ns))), ("put", .val (.dict (tab w (putT c)))), ("words", .val (.list (dS Wd))), ("mails", .val (.list (dS Ma))), ("raw", .val (.list (dS Rw))), ("sent", .val (.list (dS Se))), ("found", .val (.list (dRes y)))]
section
variable {C : Cx} {a : Addr} {cd : Value} {L : Addr} {X : List Addr} {h1 : ∀ b ∈ X, b ∉ L :: C.F} {h2 : ∀ p ∈ cellsFrom (L + 1) (scopeOf 17).names [], p.2 ∉ X}
set_option maxHeartbeats 2000000 in
theorem law_C1 {ns : List Nat} {c : Nat} {left : List (List Bool)} {Wd Ma Rw Se r : List Str} {w : Option Way} {R : Out → Loc → Prop} (ev : LawEnv (calleeCx C (nameOf 17) (scopeOf 17) a cd L X h1 h2)) (hh : C.A.handled = none) (f : Facts1 Wd Rw Se w r)
    (h : Exs (calleeCx C (nameOf 17) (scopeOf 17) a cd L X h1 h2) (σF C.w ns c Wd Ma Rw Se w) ((bodyOf 17).drop 14) R) :
    Exs (calleeCx C (nameOf 17) (scopeOf 17) a cd L X h1 h2) (σL C.w ns c left Wd Ma Rw Se) ((bodyOf 17).drop 11) R := by
  have hsl : sizeLine = 16777216 := by decide
  have okn : okS "" = true := by decide +kernel
  obtain ⟨N, hN, hr⟩ := f.hands
  obtain ⟨all0, n, q1, q2⟩ := f.rounds
  obtain ⟨all1, n1, s1, s2⟩ := f.srounds
  unfold σL
  refine Exs_freeze (x := "words") (ds := dS Wd) (σ₁ := [("numbers", .val (.list (dN ns))), ("put", .val (.dict (tab C.w (putT c)))), ("left", .own (dS (left.map spell))), ("words", .val (.list (dS Wd))), ("mails", .own (dS Ma)), ("raw", .own (dS Rw)), ("sent", .own (dS Se))]) (by walk_at "mine:mem") (by walk_at "mine:upd") ?_
  refine Exs_freeze (x := "mails") (ds := dS Ma) (σ₁ := [("numbers", .val (.list (dN ns))), ("put", .val (.dict (tab C.w (putT c)))), ("left", .own (dS (left.map spell))), ("words", .val (.list (dS Wd))), ("mails", .val (.list (dS Ma))), ("raw", .own (dS Rw)), ("sent", .own (dS Se))]) (by walk_at "mine:mem") (by walk_at "mine:upd") ?_
  refine Exs_freeze (x := "raw") (ds := dS Rw) (σ₁ := [("numbers", .val (.list (dN ns))), ("put", .val (.dict (tab C.w (putT c)))), ("left", .own (dS (left.map spell))), ("words", .val (.list (dS Wd))), ("mails", .val (.list (dS Ma))), ("raw", .val (.list (dS Rw))), ("sent", .own (dS Se))]) (by walk_at "mine:mem") (by walk_at "mine:upd") ?_
  refine Exs_freeze (x := "sent") (ds := dS Se) (σ₁ := [("numbers", .val (.list (dN ns))), ("put", .val (.dict (tab C.w (putT c)))), ("left", .own (dS (left.map spell))), ("words", .val (.list (dS Wd))), ("mails", .val (.list (dS Ma))), ("raw", .val (.list (dS Rw))), ("sent", .val (.list (dS Se)))]) (by walk_at "mine:mem") (by walk_at "mine:upd") ?_
  refine Exs_drop (σ₁ := [("numbers", .val (.list (dN ns))), ("put", .val (.dict (tab C.w (putT c)))), ("words", .val (.list (dS Wd))), ("mails", .val (.list (dS Ma))), ("raw", .val (.list (dS Rw))), ("sent", .val (.list (dS Se)))]) (by walk_at "mine:subs") ?_
  rw [drop_step (l := bodyOf 17) 11 12 rfl rfl]
  refine Exs_step (σ₁ := σF C.w ns c Wd Ma Rw Se w) (Ex_assign (d := .list (dRes w)) (Ev_call rfl (by walk_at "mine:mem") rfl ev.d88.any (EvL_cons (by walk_at "mine:nm") EvL_nil rfl) rfl (hands_ok ev.room ev.d88 f.wok hr hN)) (.loc rfl) (by unfold σF; walk_at "mine:upd") rfl ⟨rfl, rfl⟩) ?_
  rw [drop_step (l := bodyOf 17) 12 13 rfl rfl]
  refine Exs_step (σ₁ := σF C.w ns c Wd Ma Rw Se w ++ asLoc [("rests", .val (.list (dS r)))]) (Ex_assign (d := .list (dS r)) (Ev_call rfl (by walk_at "mine:mem") rfl ev.d81.any (EvL_cons (by unfold σF; walk_at "mine:nm") EvL_nil rfl) rfl (rounds_ok ev.room ev.d81 ev.d76 ev.d38 f.rok q1 q2)) (.loc rfl) (by unfold σF; walk_at "mine:upd") rfl ⟨rfl, rfl⟩) ?_
  rw [drop_step (l := bodyOf 17) 13 14 rfl rfl]
  generalize (bodyOf 17).drop 14 = rest at h ⊢
  refine Exs_step (σ₁ := σF C.w ns c Wd Ma Rw Se w ++ asLoc [("rests", .val (.list (dS r)))]) (Ex_if (b := false) ?_ (fun q => nomatch q) (fun _ => Exs_nil ⟨rfl, rfl⟩)) (Exs_drop (fun p hp => List.mem_append_left _ hp) h)
  have e : (false || (!(decide (("" : Str) ∈ r) == !decide (w = none)) || (!decide (([] : List Str) = []) || false))) = false := by
    have := f.sp
    by_cases hw : w = none
    · subst hw; simp at this; simp [this]
    · simp only [ne_eq, hw, not_false_eq_true, iff_true] at this; simp [this, hw]
  refine It_of_eq (It_or (It_cmp (by unfold σF; walk_at "mine:nm") Ev_none (.isn _) rfl) fun _ => It_or (It_cmp (Ev_cmp Ev_str (by unfold σF; walk_at "mine:nm") (.inl _ _ (deep_str okn) (layAll_strs f.rset.ok)) rfl) (Ev_cmp (by unfold σF; walk_at "mine:nm") (EnT.ev (En_listd EvL_nil (by decide))) (.ne _ _ (deep_res w) deep_nil) rfl) (.ne _ _ (deep_bool _) (deep_bool _)) rfl) fun _ =>
    It_or (It_cmp (Ev_call rfl (by walk_at "mine:mem") rfl ev.d81.any (EvL_cons (by unfold σF; walk_at "mine:nm") EvL_nil rfl) rfl (rounds_ok ev.room ev.d81 ev.d76 ev.d38 f.sok s1 s2)) (EnT.ev (En_listd EvL_nil (by decide))) (.ne _ _ (deep_list (xs := []) (by simp)) deep_nil) rfl) fun _ => It_or_nil) ?_
  rw [eqv_bool, any_strs, eqv_res, show (PyData.list []) = PyData.list (dS []) from rfl, eqv_list]
  exact e
end
end Mine
end
section
open PySem PySem.Spec PySem.Calls PyProof.Rows PySem.W PySem.Builtin PySem.Builtin.Str
namespace Mine
section
variable {C : Cx} {a : Addr} {cd : Value} {L : Addr} {X : List Addr} {h1 : ∀ b ∈ X, b ∉ L :: C.F} {h2 : ∀ p ∈ cellsFrom (L + 1) (scopeOf 17).names [], p.2 ∉ X}
set_option maxHeartbeats 2000000 in
theorem law_C2 {ns : List Nat} {c : Nat} {Wd Ma Rw Se r : List Str} {w : Option Way} {R : Out → Loc → Prop} (hh : C.A.handled = none) (f : Facts1 Wd Rw Se w r)
    (h : Exs (calleeCx C (nameOf 17) (scopeOf 17) a cd L X h1 h2) (σF C.w ns c Wd Ma Rw Se w) ((bodyOf 17).drop 16) R) :
    Exs (calleeCx C (nameOf 17) (scopeOf 17) a cd L X h1 h2) (σF C.w ns c Wd Ma Rw Se w) ((bodyOf 17).drop 14) R := by
  have hsl : sizeLine = 16777216 := by decide
  obtain ⟨lw, lr, ls⟩ := f.wl
  rw [drop_step (l := bodyOf 17) 14 15 rfl rfl]
  refine Exs_step (σ₁ := σF C.w ns c Wd Ma Rw Se w) (Ex_if (b := false) ?_ (fun q => nomatch q) (fun _ => Exs_nil ⟨rfl, rfl⟩)) ?_
  · cases w with
    | none =>
      refine It_of_eq (It_and (b := true) (It_cmp (by unfold σF; walk_at "mine:nm") (EnT.ev (En_listd EvL_nil (by decide))) (.ne _ _ (deep_res none) deep_nil) rfl) fun q => ?_) ?_
      · rw [eqv_res] at q; simp at q
      · rw [eqv_res]; simp
    | some y =>
      obtain ⟨y1, y2, y3, y4, y5, y6, y7, y8⟩ := f.way y rfl
      obtain ⟨r1, _, o1, _⟩ := f.rs y.first y1 y3
      obtain ⟨r2, _, o2, _⟩ := f.rs y.second y2 y4
      refine It_of_eq (It_and (b := !(PyData.eqv (.str (joinAt Rw y.first)) (.str (joinAt Rw y.second))) && true) (It_cmp (by unfold σF; walk_at "mine:nm") (EnT.ev (En_listd EvL_nil (by decide))) (.ne _ _ (deep_res (some y)) deep_nil) rfl) fun q => It_and (It_cmp ?_ ?_ (.ne _ _ (deep_str o1) (deep_str o2)) rfl) fun _ => It_and_nil) ?_
      · exact Ev_join Ev_str (EnT.el (En_pick (is := y.first) (Iter_list (Ev_item (j := 0) (ds := dRes (some y)) (by unfold σF; walk_at "mine:nm") Ev_int ⟨by simp [dRes], .inl rfl⟩ rfl (by show 2 < 2 ^ 62; decide) (fun _ _ => rfl)) hh) (by walk_at "mine:compat") (by unfold σF; walk_at "mine:sees") (by decide) rfl (fun k hk => by rw [lr]; exact y1 k hk) (by walk_at "mine:om") (by walk_at "mine:om") (fun _ => rfl))) rfl rfl rfl r1
      · exact Ev_join Ev_str (EnT.el (En_pick (is := y.second) (Iter_list (Ev_item (j := 1) (ds := dRes (some y)) (by unfold σF; walk_at "mine:nm") Ev_int ⟨by simp [dRes], .inl rfl⟩ rfl (by show 2 < 2 ^ 62; decide) (fun _ _ => rfl)) hh) (by walk_at "mine:compat") (by unfold σF; walk_at "mine:sees") (by decide) rfl (fun k hk => by rw [lr]; exact y2 k hk) (by walk_at "mine:om") (by walk_at "mine:om") (fun _ => rfl))) rfl rfl rfl r2
      · rw [eqv_str, y7]; simp
  rw [drop_step (l := bodyOf 17) 15 16 rfl rfl]
  generalize (bodyOf 17).drop 16 = rest at h ⊢
  refine Exs_step (σ₁ := σF C.w ns c Wd Ma Rw Se w) (Ex_if (b := false) ?_ (fun q => nomatch q) (fun _ => Exs_nil ⟨rfl, rfl⟩)) h
  · cases w with
    | none =>
      refine It_of_eq (It_and (b := true) (It_cmp (by unfold σF; walk_at "mine:nm") (EnT.ev (En_listd EvL_nil (by decide))) (.ne _ _ (deep_res none) deep_nil) rfl) fun q => ?_) ?_
      · rw [eqv_res] at q; simp at q
      · rw [eqv_res]; simp
    | some y =>
      obtain ⟨y1, y2, y3, y4, y5, y6, y7, y8⟩ := f.way y rfl
      obtain ⟨_, r1, _, o1⟩ := f.rs y.first y1 y3
      obtain ⟨_, r2, _, o2⟩ := f.rs y.second y2 y4
      refine It_of_eq (It_and (b := (PyData.eqv (.str (joinAt Se y.first)) (.str (joinAt Se y.second))) && true) (It_cmp (by unfold σF; walk_at "mine:nm") (EnT.ev (En_listd EvL_nil (by decide))) (.ne _ _ (deep_res (some y)) deep_nil) rfl) fun q => It_and (It_cmp ?_ ?_ (.eq _ _ (deep_str o1) (deep_str o2)) rfl) fun _ => It_and_nil) ?_
      · exact Ev_join Ev_str (EnT.el (En_pick (is := y.first) (Iter_list (Ev_item (j := 0) (ds := dRes (some y)) (by unfold σF; walk_at "mine:nm") Ev_int ⟨by simp [dRes], .inl rfl⟩ rfl (by show 2 < 2 ^ 62; decide) (fun _ _ => rfl)) hh) (by walk_at "mine:compat") (by unfold σF; walk_at "mine:sees") (by decide) rfl (fun k hk => by rw [ls]; exact y1 k hk) (by walk_at "mine:om") (by walk_at "mine:om") (fun _ => rfl))) rfl rfl rfl r1
      · exact Ev_join Ev_str (EnT.el (En_pick (is := y.second) (Iter_list (Ev_item (j := 1) (ds := dRes (some y)) (by unfold σF; walk_at "mine:nm") Ev_int ⟨by simp [dRes], .inl rfl⟩ rfl (by show 2 < 2 ^ 62; decide) (fun _ _ => rfl)) hh) (by walk_at "mine:compat") (by unfold σF; walk_at "mine:sees") (by decide) rfl (fun k hk => by rw [ls]; exact y2 k hk) (by walk_at "mine:om") (by walk_at "mine:om") (fun _ => rfl))) rfl rfl rfl r2
      · rw [eqv_str]; simp [y8]
end
end Mine
end
section
open PySem PySem.Spec PySem.Calls PyProof.Rows PySem.W PySem.Builtin PySem.Builtin.Str
namespace Mine
noncomputable def partsOf (c : Nat) (x : Str) : List Str := ((Txt.split x ".").dropLast).map fun p => Txt.mul (putA c) (p.length : Int)
noncomputable def lenSum (post : List Str) : Int := (post.map fun m => (m.length : Int) + Txt.count m "\n" + 3).sum
noncomputable def dotSum (Wd : List Str) (is : List Nat) : Int := (is.map fun k => Txt.count (Wd.getD k "") "." - 1).sum
structure Facts2 (c : Nat) (Wd Ma Rw Se : List Str) (is : List Nat) : Prop where
  lt : ∀ k ∈ is, k < 4
  len : is.length ≤ 15
  jw : JoinOk "" (pickAt Wd is) = true
  jwl : (joinAt Wd is).length ≤ 1000
  sp1 : (partsBetween (joinAt Wd is) (occurrences (joinAt Wd is) "." 0 (joinAt Wd is).length ((joinAt Wd is).length + 1)) (("." : Str)).length).length ≤ 1000
  sp2 : (Txt.split (joinAt Wd is) ".").length ≤ 1000
  mul : ∀ p ∈ Txt.split (joinAt Wd is) ".", MulOk (putA c) (p.length : Int) ∧ p.length ≤ 1000
  js : JoinOk "" (pickAt Se is) = true
  jr : JoinOk "" (pickAt Rw is) = true
  okp : ∀ x ∈ pickAt Ma is, okS x = true ∧ x.length ≤ 1000
  okq : ∀ x ∈ partsOf c (joinAt Wd is), okS x = true
  lp : (partsOf c (joinAt Wd is)).length < 64
  np : pickAt Ma is ≠ []
  nq : partsOf c (joinAt Wd is) ≠ []
  rdS : ReadOk (joinAt Se is)
  rdR : ReadOk (joinAt Rw is)
  eqS : readL (joinAt Se is) = pickAt Ma is
  eqR : readL (joinAt Rw is) = partsOf c (joinAt Wd is)
  len1 : ((joinAt Rw is).length : Int) = lenSum (pickAt Ma is)
  len2 : ((joinAt Se is).length : Int) - ((joinAt Rw is).length : Int) = dotSum Wd is
  wdl : ∀ x ∈ Wd, x.length ≤ 1000
  u1 : uld (pickAt Ma is) (pickAt Ma is) = ([], [])
  u2 : uld (pickAt Ma is) (partsOf c (joinAt Wd is)) = (bagLost (pickAt Ma is) (partsOf c (joinAt Wd is)), bagTold (pickAt Ma is) (partsOf c (joinAt Wd is)))
  srt : ∃ ys zs, (∀ l : List Str, l.Perm (pickAt Ma is) → sortedS l = true → l = ys) ∧ (∀ l : List Str, l.Perm (partsOf c (joinAt Wd is)) → sortedS l = true → l = zs) ∧ ys ≠ [] ∧ zs ≠ [] ∧ ys.length < 64 ∧ zs.length < 64 ∧
    (∀ x ∈ ys, okS x = true) ∧ (∀ x ∈ zs, okS x = true) ∧ sld ys zs = (aloneL ys zs, aloneL zs ys)
theorem Ev_lenStr {C : Cx} {σ : Loc} {np pos : Pos} {e : Expr} {x : Str} {i : Int} (he : Ev C σ e (.str x)) (hk : C.env.kindOf "len" = some .globalImplicit) (hs : Star1 C e) (hz : x.length < 2 ^ 62) (hi : i = x.length) :
    Ev C σ (.Call (.Name "len" np) [e] [] pos) (.int i) := by subst hi; exact Ev_len_str he hk hs hz
noncomputable def wayBody : List Stmt := forBody (((bodyOf 17)[16]?).getD (.Pass ⟨0, 0, 0, 0⟩))
noncomputable def onLen : PyData → PyData
  | .str m => .int ((m.length : Int) + Txt.count m "\n" + 3)
  | _ => .none
noncomputable def onDots (Wd : List Str) : PyData → PyData
  | .int k => .int (Txt.count (Wd.getD k.toNat "") "." - 1)
  | _ => .none
noncomputable def onPart (c : Nat) : PyData → PyData
  | .str s => .str (Txt.mul (putA c) (s.length : Int))
  | _ => .none
theorem len_comp (l : List Str) : ((dS l).filter fun _ => true).map onLen = (l.map fun m => (m.length : Int) + Txt.count m "\n" + 3).map PyData.int := by
  rw [List.filter_eq_self.mpr (fun _ _ => rfl)]
  simp only [dS, List.map_map]
  rfl
theorem dots_comp (Wd : List Str) (is : List Nat) : ((dN is).filter fun _ => true).map (onDots Wd) = (is.map fun k => Txt.count (Wd.getD k "") "." - 1).map PyData.int := by
  rw [List.filter_eq_self.mpr (fun _ _ => rfl)]
  simp only [dN, List.map_map]
  rfl
theorem part_comp (c : Nat) (l : List Str) : ((dS l).filter fun _ => true).map (onPart c) = dS (l.map fun p => Txt.mul (putA c) (p.length : Int)) := by
  rw [List.filter_eq_self.mpr (fun _ _ => rfl)]
  simp only [dS, List.map_map]
  rfl
section
variable {C : Cx} {σ : Loc}
theorem pick_ok {x : Str} {xs : List Str} {is : List Nat} {sc : Scope} {cl : List (Str × Addr)} {p1 p2 p3 : Pos} (hd : (x == ("__debug__" : Str)) = false) (hlt : ∀ k ∈ is, k < xs.length) (hl : xs.length ≤ 1000) :
    CompOk C sc cl "k" [(x, .val (.list (dS xs)))] [] (.Subscript (.Name x p1) (.Name "k" p2) p3) (dN is) (fun _ => true) (toStr fun k => xs.getD k "") := by
  refine ⟨?_, ?_, ?_, ?_⟩
  · exact List.all_eq_true.mpr fun d hd => by obtain ⟨k, _, rfl⟩ := List.mem_map.mp hd; rfl
  · intro d hd _
    obtain ⟨k, _, rfl⟩ := List.mem_map.mp hd
    rfl
  · intro A d hd
    exact Tests_nil
  · intro A d hd' _
    obtain ⟨k, hk, rfl⟩ := List.mem_map.mp hd'
    have := hlt k hk
    exact Ev_item (j := k) (Ev_name (.tail _ (.head _)) hd) (Ev_name (.head _) rfl) ⟨by simpa using this, .inl rfl⟩ (dS_get this) (by simp; walk_at "mine:om") (fun _ _ => rfl)
end
section
variable {C : Cx} {a : Addr} {cd : Value} {L : Addr} {X : List Addr} {h1 : ∀ b ∈ X, b ∉ L :: C.F} {h2 : ∀ p ∈ cellsFrom (L + 1) (scopeOf 17).names [], p.2 ∉ X}
noncomputable def τ1 (is : List Nat) (post parts : List Str) (line wire : Str) : Loc := [("way", .val (.list (dN is))), ("post", .val (.list (dS post))), ("parts", .val (.list (dS parts))), ("line", .val (.str line)), ("wire", .val (.str wire))]
noncomputable def τ2 (is : List Nat) (post parts : List Str) (line wire : Str) (whole cut : List Str) : Loc := τ1 is post parts line wire ++ asLoc [("whole", .own (dS whole)), ("cut", .own (dS cut))]
noncomputable def τ3 (is : List Nat) (post parts : List Str) (line wire : Str) (cut : List Str) : Loc := τ1 is post parts line wire ++ asLoc [("cut", .own (dS cut))]
set_option maxHeartbeats 4000000 in
theorem law_way1 {ns : List Nat} {c : Nat} {Wd Ma Rw Se : List Str} {w : Option Way} {is : List Nat} {R : Out → Loc → Prop} (ev : LawEnv (calleeCx C (nameOf 17) (scopeOf 17) a cd L X h1 h2)) (hh : C.A.handled = none) (hl : Wd.length = 4 ∧ Ma.length = 4 ∧ Rw.length = 4 ∧ Se.length = 4) (f : Facts2 c Wd Ma Rw Se is)
    (h : Exs (calleeCx C (nameOf 17) (scopeOf 17) a cd L X h1 h2) (σF C.w ns c Wd Ma Rw Se w ++ τ2 is (pickAt Ma is) (partsOf c (joinAt Wd is)) (joinAt Se is) (joinAt Rw is) (readL (joinAt Se is)) (readL (joinAt Rw is))) (wayBody.drop 6) R) :
    Exs (calleeCx C (nameOf 17) (scopeOf 17) a cd L X h1 h2) (σF C.w ns c Wd Ma Rw Se w ++ asLoc [("way", .val (.list (dN is)))]) wayBody R := by
  have hsl : sizeLine = 16777216 := by decide
  obtain ⟨l1, l2, l3, l4⟩ := hl
  have lis := f.len
  rw [show wayBody = wayBody.drop 0 from rfl, drop_step (l := wayBody) 0 1 rfl rfl]
  refine Exs_step (σ₁ := σF C.w ns c Wd Ma Rw Se w ++ asLoc [("way", .val (.list (dN is))), ("post", .val (.list (dS (pickAt Ma is))))]) (Ex_assign_comp (Iter_list (by unfold σF; walk_at "mine:nm") hh) (by walk_at "mine:compat") (by unfold σF; walk_at "mine:sees") (pick_ok (x := "mails") (xs := Ma) (is := is) rfl (fun k hk => by rw [l2]; exact f.lt k hk) (by walk_at "mine:om")) (by simp; walk_at "mine:om") rfl rfl (by rw [pick_comp]; unfold σF; walk_at "mine:upd") ⟨rfl, rfl⟩ (fun _ => rfl)) ?_
  rw [drop_step (l := wayBody) 1 2 rfl rfl]
  refine Exs_step (σ₁ := σF C.w ns c Wd Ma Rw Se w ++ asLoc [("way", .val (.list (dN is))), ("post", .val (.list (dS (pickAt Ma is)))), ("parts", .val (.list (dS (partsOf c (joinAt Wd is)))))])
    (Ex_assign_comp (σc := [("put", .val (.dict (tab C.w (putT c))))]) (ds := dS (Txt.split (joinAt Wd is) ".").dropLast) (pd := fun _ => true) (f := onPart c) (Iter_list (EnT.ev ?_) hh) (by walk_at "mine:compat") (by unfold σF; walk_at "mine:sees") ⟨?_, ?_, ?_, ?_⟩ (by have := f.sp2; simp; walk_at "mine:om") rfl rfl (by rw [part_comp]; unfold σF partsOf; walk_at "mine:upd") ⟨rfl, rfl⟩ (fun _ => rfl)) ?_
  · have e : dS (Txt.split (joinAt Wd is) ".").dropLast = cut (dS (Txt.split (joinAt Wd is) ".")) none (some (-1)) := by rw [cut_to_last]; simp
    rw [e]
    have sp1 := f.sp1
    have sp2 := f.sp2
    have jwl := f.jwl
    refine En_slice_call (El_split (Ev_join Ev_str (EnT.el (En_pick (is := is) (Iter_list (by unfold σF; walk_at "mine:nm") hh) (by walk_at "mine:compat") (by unfold σF; walk_at "mine:sees") (by decide) rfl (fun k hk => by rw [l1]; exact f.lt k hk) (by walk_at "mine:om") (by walk_at "mine:om") (fun _ => rfl))) rfl rfl rfl f.jw) Ev_str rfl rfl rfl (by decide) (by show (joinAt Wd is).length ≤ _; walk_at "mine:om") (by show (partsBetween (joinAt Wd is) (occurrences (joinAt Wd is) "." 0 (joinAt Wd is).length ((joinAt Wd is).length + 1)) (("." : Str)).length).length ≤ _; walk_at "mine:om")) trivial (show Ev _ _ _ _ from Ev_neg Ev_int) (by rw [List.length_map]; show (Txt.split (joinAt Wd is) ".").length ≤ _; walk_at "mine:om")
  · exact List.all_eq_true.mpr fun d hd => by obtain ⟨x, _, rfl⟩ := List.mem_map.mp hd; rfl
  · intro d hd _
    obtain ⟨x, _, rfl⟩ := List.mem_map.mp hd
    rfl
  · intro A d hd
    exact Tests_nil
  · intro A d hd _
    obtain ⟨x, hx, rfl⟩ := List.mem_map.mp hd
    obtain ⟨m1, m2⟩ := f.mul x ((List.dropLast_sublist _).subset hx)
    exact Ev_bin (Ev_ditem (by walk_at "mine:nm") Ev_str (by rfl) (fun _ _ => rfl)) (Ev_lenStr (by walk_at "mine:nm") rfl rfl (by walk_at "mine:om") rfl) (.rep _ _ m1)
  rw [drop_step (l := wayBody) 2 3 rfl rfl]
  refine Exs_step (σ₁ := σF C.w ns c Wd Ma Rw Se w ++ asLoc [("way", .val (.list (dN is))), ("post", .val (.list (dS (pickAt Ma is)))), ("parts", .val (.list (dS (partsOf c (joinAt Wd is))))), ("line", .val (.str (joinAt Se is)))])
    (Ex_assign (d := .str (joinAt Se is)) (Ev_join Ev_str (EnT.el (En_pick (is := is) (Iter_list (by unfold σF; walk_at "mine:nm") hh) (by walk_at "mine:compat") (by unfold σF; walk_at "mine:sees") (by decide) rfl (fun k hk => by rw [l4]; exact f.lt k hk) (by walk_at "mine:om") (by walk_at "mine:om") (fun _ => rfl))) rfl rfl rfl f.js) (.loc rfl) (by unfold σF; walk_at "mine:upd") rfl ⟨rfl, rfl⟩) ?_
  rw [drop_step (l := wayBody) 3 4 rfl rfl]
  refine Exs_step (σ₁ := σF C.w ns c Wd Ma Rw Se w ++ τ1 is (pickAt Ma is) (partsOf c (joinAt Wd is)) (joinAt Se is) (joinAt Rw is))
    (Ex_assign (d := .str (joinAt Rw is)) (Ev_join Ev_str (EnT.el (En_pick (is := is) (Iter_list (by unfold σF; walk_at "mine:nm") hh) (by walk_at "mine:compat") (by unfold σF; walk_at "mine:sees") (by decide) rfl (fun k hk => by rw [l3]; exact f.lt k hk) (by walk_at "mine:om") (by walk_at "mine:om") (fun _ => rfl))) rfl rfl rfl f.jr) (.loc rfl) (by unfold σF τ1; walk_at "mine:upd") rfl ⟨rfl, rfl⟩) ?_
  rw [drop_step (l := wayBody) 4 5 rfl rfl]
  refine Exs_step (σ₁ := σF C.w ns c Wd Ma Rw Se w ++ (τ1 is (pickAt Ma is) (partsOf c (joinAt Wd is)) (joinAt Se is) (joinAt Rw is) ++ asLoc [("whole", .own (dS (readL (joinAt Se is))))]))
    (Ex_assign_new (ds := dS (readL (joinAt Se is))) (En_call rfl (by walk_at "mine:mem") rfl ev.d95.any (EvL_cons (by unfold σF τ1; walk_at "mine:nm") EvL_nil rfl) rfl (read_ok ev.room ev.d95 f.rdS)) (.loc rfl) (by unfold σF τ1; walk_at "mine:upd") (own_ne (by walk_at "mine:nokey")) rfl ⟨rfl, rfl⟩) ?_
  rw [drop_step (l := wayBody) 5 6 rfl rfl]
  refine Exs_step (σ₁ := σF C.w ns c Wd Ma Rw Se w ++ τ2 is (pickAt Ma is) (partsOf c (joinAt Wd is)) (joinAt Se is) (joinAt Rw is) (readL (joinAt Se is)) (readL (joinAt Rw is)))
    (Ex_assign_new (ds := dS (readL (joinAt Rw is))) (En_call rfl (by walk_at "mine:mem") rfl ev.d95.any (EvL_cons (by unfold σF τ1; walk_at "mine:nm") EvL_nil rfl) rfl (read_ok ev.room ev.d95 f.rdR)) (.loc rfl) (by unfold σF τ2 τ1; walk_at "mine:upd") (own_ne (by walk_at "mine:nokey")) rfl ⟨rfl, rfl⟩) ?_
  exact h
end
end Mine
end
section
open PySem PySem.Spec PySem.Calls PyProof.Rows PySem.W PySem.Builtin PySem.Builtin.Str
namespace Mine
section
variable {C : Cx} {a : Addr} {cd : Value} {L : Addr} {X : List Addr} {h1 : ∀ b ∈ X, b ∉ L :: C.F} {h2 : ∀ p ∈ cellsFrom (L + 1) (scopeOf 17).names [], p.2 ∉ X}
set_option maxHeartbeats 4000000 in
theorem law_way2 {ns : List Nat} {c : Nat} {Wd Ma Rw Se : List Str} {w : Option Way} {is : List Nat} {R : Out → Loc → Prop} (ev : LawEnv (calleeCx C (nameOf 17) (scopeOf 17) a cd L X h1 h2)) (hh : C.A.handled = none) (hl : Wd.length = 4 ∧ Ma.length = 4 ∧ Rw.length = 4 ∧ Se.length = 4) (f : Facts2 c Wd Ma Rw Se is)
    (h : Exs (calleeCx C (nameOf 17) (scopeOf 17) a cd L X h1 h2) (σF C.w ns c Wd Ma Rw Se w ++ τ1 is (pickAt Ma is) (partsOf c (joinAt Wd is)) (joinAt Se is) (joinAt Rw is)) (wayBody.drop 11) R) :
    Exs (calleeCx C (nameOf 17) (scopeOf 17) a cd L X h1 h2) (σF C.w ns c Wd Ma Rw Se w ++ τ2 is (pickAt Ma is) (partsOf c (joinAt Wd is)) (joinAt Se is) (joinAt Rw is) (readL (joinAt Se is)) (readL (joinAt Rw is))) (wayBody.drop 6) R := by
  have hsl : sizeLine = 16777216 := by decide
  obtain ⟨l1, l2, l3, l4⟩ := hl
  have lis := f.len
  have lp := f.lp
  have okp : ∀ x ∈ pickAt Ma is, okS x = true := fun x hx => (f.okp x hx).1
  have okq := f.okq
  have lpost : (pickAt Ma is).length ≤ 15 := by simp [pickAt]; exact lis
  rw [drop_step (l := wayBody) 6 7 rfl rfl, f.eqS, f.eqR]
  refine Exs_step (σ₁ := σF C.w ns c Wd Ma Rw Se w ++ τ2 is (pickAt Ma is) (partsOf c (joinAt Wd is)) (joinAt Se is) (joinAt Rw is) (pickAt Ma is) (partsOf c (joinAt Wd is))) (Ex_if (b := false) ?_ (fun q => nomatch q) (fun _ => Exs_nil ⟨rfl, rfl⟩)) ?_
  · refine It_of_eq (It_or (It_eq_el (by unfold σF τ2 τ1; walk_at "mine:nmo") (by unfold σF τ2 τ1; walk_at "mine:nm") (deep_list okp) (deep_list okp) rfl) fun _ => It_or (It_eq_el (by unfold σF τ2 τ1; walk_at "mine:nmo") (by unfold σF τ2 τ1; walk_at "mine:nm") (deep_list okq) (deep_list okq) rfl) fun _ => It_or_nil) ?_
    rw [eqv_list, eqv_list]; simp
  rw [drop_step (l := wayBody) 7 8 rfl rfl]
  refine Exs_step (σ₁ := σF C.w ns c Wd Ma Rw Se w ++ τ2 is (pickAt Ma is) (partsOf c (joinAt Wd is)) (joinAt Se is) (joinAt Rw is) (pickAt Ma is) (partsOf c (joinAt Wd is))) (Ex_if (b := false) ?_ (fun q => nomatch q) (fun _ => Exs_nil ⟨rfl, rfl⟩)) ?_
  · have jl := joinOk_length f.jr
    refine It_of_eq (It_cmp (b := .int (lenSum (pickAt Ma is))) (Ev_lenStr (i := (joinAt Rw is).length) (by unfold σF τ2 τ1; walk_at "mine:nm") rfl rfl (by unfold joinAt; walk_at "mine:om") rfl) (Ev_sum (ns := (pickAt Ma is).map fun m => (m.length : Int) + Txt.count m "\n" + 3) ?_ rfl rfl hh) (.ne _ _ (by rw [deep_iff]; exact ⟨by simp [PyData.canLay0], by simp [PyData.depth]⟩) (by rw [deep_iff]; exact ⟨by simp [PyData.canLay0], by simp [PyData.depth]⟩)) rfl) ?_
    · rw [← len_comp]
      refine EnT.el (En_comp (σc := []) (Iter_list (by unfold σF τ2 τ1; walk_at "mine:nm") hh) (by walk_at "mine:compat") (by walk_at "mine:sees") ⟨?_, ?_, ?_, ?_⟩ (by simp; walk_at "mine:om") (fun _ => rfl))
      · exact List.all_eq_true.mpr fun d hd => by obtain ⟨x, _, rfl⟩ := List.mem_map.mp hd; rfl
      · intro d hd _
        obtain ⟨x, _, rfl⟩ := List.mem_map.mp hd
        rfl
      · intro A d hd
        exact Tests_nil
      · intro A d hd _
        obtain ⟨x, hx, rfl⟩ := List.mem_map.mp hd
        have := (f.okp x hx).2
        exact Ev_bin (Ev_bin (Ev_lenStr (by walk_at "mine:nm") rfl rfl (by walk_at "mine:om") rfl) (Ev_count (by walk_at "mine:nm") Ev_str rfl rfl rfl) (.add _ _)) Ev_int (.add _ _)
    · rw [f.len1]; simp [PyData.eqv]
  rw [drop_step (l := wayBody) 8 9 rfl rfl]
  refine Exs_step (σ₁ := σF C.w ns c Wd Ma Rw Se w ++ τ2 is (pickAt Ma is) (partsOf c (joinAt Wd is)) (joinAt Se is) (joinAt Rw is) (pickAt Ma is) (partsOf c (joinAt Wd is))) (Ex_if (b := false) ?_ (fun q => nomatch q) (fun _ => Exs_nil ⟨rfl, rfl⟩)) ?_
  · have jl := joinOk_length f.jr
    have jl2 := joinOk_length f.js
    refine It_of_eq (It_cmp (b := .int (dotSum Wd is)) (Ev_bin (Ev_lenStr (i := (joinAt Se is).length) (by unfold σF τ2 τ1; walk_at "mine:nm") rfl rfl (by unfold joinAt; walk_at "mine:om") rfl) (Ev_lenStr (i := (joinAt Rw is).length) (by unfold σF τ2 τ1; walk_at "mine:nm") rfl rfl (by unfold joinAt; walk_at "mine:om") rfl) (.sub _ _)) (Ev_sum (ns := is.map fun k => Txt.count (Wd.getD k "") "." - 1) ?_ rfl rfl hh) (.ne _ _ (by rw [deep_iff]; exact ⟨by simp [PyData.canLay0], by simp [PyData.depth]⟩) (by rw [deep_iff]; exact ⟨by simp [PyData.canLay0], by simp [PyData.depth]⟩)) rfl) ?_
    · rw [← dots_comp]
      refine EnT.el (En_comp (σc := [("words", .val (.list (dS Wd)))]) (Iter_list (by unfold σF τ2 τ1; walk_at "mine:nm") hh) (by walk_at "mine:compat") (by unfold σF τ2 τ1; walk_at "mine:sees") ⟨?_, ?_, ?_, ?_⟩ (by simp; walk_at "mine:om") (fun _ => rfl))
      · exact List.all_eq_true.mpr fun d hd => by obtain ⟨x, _, rfl⟩ := List.mem_map.mp hd; rfl
      · intro d hd _
        obtain ⟨x, _, rfl⟩ := List.mem_map.mp hd
        rfl
      · intro A d hd
        exact Tests_nil
      · intro A d hd' _
        obtain ⟨k, hk, rfl⟩ := List.mem_map.mp hd'
        have := f.lt k hk
        exact Ev_bin (Ev_count (x := Wd.getD k "") (Ev_item (j := k) (by walk_at "mine:nm") (by walk_at "mine:nm") ⟨by simp; walk_at "mine:om", .inl rfl⟩ (dS_get (by walk_at "mine:om")) (by simp; walk_at "mine:om") (fun _ _ => rfl)) Ev_str rfl rfl rfl) Ev_int (.sub _ _)
    · rw [f.len2]; simp [PyData.eqv]
  rw [drop_step (l := wayBody) 9 10 rfl rfl]
  refine Exs_step (σ₁ := σF C.w ns c Wd Ma Rw Se w ++ τ3 is (pickAt Ma is) (partsOf c (joinAt Wd is)) (joinAt Se is) (joinAt Rw is) (partsOf c (joinAt Wd is))) (Ex_if_s (b := false) ?_ (fun q => nomatch q) (fun _ => Exs_nil ⟨rfl, rfl⟩)) ?_
  · have e : (!PyData.eqv (.tuple [.list (dS (uld (pickAt Ma is) (pickAt Ma is)).1), .list (dS (uld (pickAt Ma is) (pickAt Ma is)).2)]) (.tuple [.list (dS []), .list (dS [])])) = false := by rw [f.u1, eqv_two]; simp
    rw [← e]
    refine ItS_cmp (EvS_call (xs := dS (pickAt Ma is)) (ys := dS (pickAt Ma is)) rfl (by walk_at "mine:mem") rfl ev.d45.any (En_list (EvT.el (by unfold σF τ2 τ1; walk_at "mine:nm")) rfl rfl (by simp; walk_at "mine:om")) (by unfold σF τ2 τ1; walk_at "mine:mem") rfl rfl (uld_own ev.room ev.d45 (by walk_at "mine:om") (by walk_at "mine:om")) ?_) (Ev_tuple (EvL_cons (EnT.ev (En_listd EvL_nil (by decide))) (EvL_cons (EnT.ev (En_listd EvL_nil (by decide))) EvL_nil rfl) rfl) (by show 2 ≤ sizeLine; decide)) (.ne _ _ ?_ (deep_two (xs := []) (ys := []) (by simp) (by simp))) rfl
    · walk_at "mine:less"
    · rw [f.u1]; exact deep_two (xs := []) (ys := []) (by simp) (by simp)
  rw [drop_step (l := wayBody) 10 11 rfl rfl]
  generalize wayBody.drop 11 = rest at h ⊢
  have okl : (∀ x ∈ bagLost (pickAt Ma is) (partsOf c (joinAt Wd is)), okS x = true) ∧ (∀ x ∈ bagTold (pickAt Ma is) (partsOf c (joinAt Wd is)), okS x = true) := by
    refine ⟨fun x hx => ?_, fun x hx => ?_⟩
    · simp only [bagLost, List.mem_map, List.mem_filter, List.mem_range] at hx
      obtain ⟨k, ⟨⟨i, hi, rfl⟩, _⟩, rfl⟩ := hx
      exact okp _ (getD_mem (by walk_at "mine:om"))
    · simp only [bagTold, List.mem_map, List.mem_filter, List.mem_range] at hx
      obtain ⟨k, ⟨hk, _⟩, rfl⟩ := hx
      exact okq _ (getD_mem hk)
  refine Exs_step (σ₁ := σF C.w ns c Wd Ma Rw Se w ++ τ1 is (pickAt Ma is) (partsOf c (joinAt Wd is)) (joinAt Se is) (joinAt Rw is)) (Ex_if_s (b := false) ?_ (fun q => nomatch q) (fun _ => Exs_nil ⟨rfl, rfl⟩)) h
  · have e : (!PyData.eqv (.tuple [.list (dS (uld (pickAt Ma is) (partsOf c (joinAt Wd is))).1), .list (dS (uld (pickAt Ma is) (partsOf c (joinAt Wd is))).2)]) (.tuple [.list (dS (bagLost (pickAt Ma is) (partsOf c (joinAt Wd is)))), .list (dS (bagTold (pickAt Ma is) (partsOf c (joinAt Wd is))))])) = false := by rw [f.u2, eqv_two]; simp
    rw [← e]
    refine ItS_cmp (EvS_call (xs := dS (pickAt Ma is)) (ys := dS (partsOf c (joinAt Wd is))) rfl (by walk_at "mine:mem") rfl ev.d45.any (En_list (EvT.el (by unfold σF τ3 τ1; walk_at "mine:nm")) rfl rfl (by simp; walk_at "mine:om")) (by unfold σF τ3 τ1; walk_at "mine:mem") rfl rfl (uld_own ev.room ev.d45 (by walk_at "mine:om") (by walk_at "mine:om")) ?_) (Ev_call rfl (by walk_at "mine:mem") rfl ev.d100.any (EvL_cons (by unfold σF τ1; walk_at "mine:nm") (EvL_cons (by unfold σF τ1; walk_at "mine:nm") EvL_nil rfl) rfl) rfl (bags_ok ev.room ev.d100 (by walk_at "mine:om") (by walk_at "mine:om"))) (.ne _ _ ?_ (deep_two okl.1 okl.2)) rfl
    · walk_at "mine:less"
    · rw [f.u2]; exact deep_two okl.1 okl.2
set_option maxHeartbeats 4000000 in
theorem law_way3 {ns : List Nat} {c : Nat} {Wd Ma Rw Se : List Str} {w : Option Way} {is : List Nat} (ev : LawEnv (calleeCx C (nameOf 17) (scopeOf 17) a cd L X h1 h2)) (hh : C.A.handled = none) (hl : Wd.length = 4 ∧ Ma.length = 4 ∧ Rw.length = 4 ∧ Se.length = 4) (f : Facts2 c Wd Ma Rw Se is) :
    Exs (calleeCx C (nameOf 17) (scopeOf 17) a cd L X h1 h2) (σF C.w ns c Wd Ma Rw Se w ++ τ1 is (pickAt Ma is) (partsOf c (joinAt Wd is)) (joinAt Se is) (joinAt Rw is)) (wayBody.drop 11) (fun fl σ' => fl = .next ∧ σ' = σF C.w ns c Wd Ma Rw Se w) := by
  have hsl : sizeLine = 16777216 := by decide
  obtain ⟨l1, l2, l3, l4⟩ := hl
  have lis := f.len
  have lp := f.lp
  have lpost : (pickAt Ma is).length ≤ 15 := by simp [pickAt]; exact lis
  obtain ⟨ys, zs, s1, s2, n1, n2, g1, g2, o1, o2, hs⟩ := f.srt
  rw [drop_step (l := wayBody) 11 12 rfl rfl]
  have okal : ∀ xs ys : List Str, (∀ x ∈ xs, okS x = true) → ∀ x ∈ aloneL xs ys, okS x = true := fun xs ys h x hx => by
    simp only [aloneL, List.mem_map, List.mem_filter, List.mem_range] at hx
    obtain ⟨k, ⟨hk, _⟩, rfl⟩ := hx
    exact h _ (getD_mem hk)
  have sy : ∀ (σ : Loc) np pos p1, (("post", Slot.val (.list (dS (pickAt Ma is)))) : Str × Slot) ∈ σ → Ev (calleeCx C (nameOf 17) (scopeOf 17) a cd L X h1 h2) σ (.Call (.Name "sorted" np) [.Name "post" p1] [] pos) (.list (dS ys)) := fun σ np pos p1 hm =>
    EnT.ev (En_sorted (xs := pickAt Ma is) (EvT.el (Ev_name hm rfl)) rfl rfl (by walk_at "mine:om") s1)
  have sz : ∀ (σ : Loc) np pos p1, (("parts", Slot.val (.list (dS (partsOf c (joinAt Wd is))))) : Str × Slot) ∈ σ → Ev (calleeCx C (nameOf 17) (scopeOf 17) a cd L X h1 h2) σ (.Call (.Name "sorted" np) [.Name "parts" p1] [] pos) (.list (dS zs)) := fun σ np pos p1 hm =>
    EnT.ev (En_sorted (xs := partsOf c (joinAt Wd is)) (EvT.el (Ev_name hm rfl)) rfl rfl lp s2)
  refine Exs_step (σ₁ := σF C.w ns c Wd Ma Rw Se w ++ (τ1 is (pickAt Ma is) (partsOf c (joinAt Wd is)) (joinAt Se is) (joinAt Rw is) ++ asLoc [("due", .val (.tuple [.list (dS (aloneL ys zs)), .list (dS (aloneL zs ys))]))]))
    (Ex_assign (d := .tuple [.list (dS (aloneL ys zs)), .list (dS (aloneL zs ys))]) (Ev_tuple (EvL_cons (Ev_call rfl (by walk_at "mine:mem") rfl ev.d105.any (EvL_cons (sy _ _ _ _ (by unfold σF τ1; walk_at "mine:mem")) (EvL_cons (sz _ _ _ _ (by unfold σF τ1; walk_at "mine:mem")) EvL_nil rfl) rfl) rfl (alone_ok ev.room ev.d105 n2 (by walk_at "mine:om") (by walk_at "mine:om") o1 o2))
      (EvL_cons (Ev_call rfl (by walk_at "mine:mem") rfl ev.d105.any (EvL_cons (sz _ _ _ _ (by unfold σF τ1; walk_at "mine:mem")) (EvL_cons (sy _ _ _ _ (by unfold σF τ1; walk_at "mine:mem")) EvL_nil rfl) rfl) rfl (alone_ok ev.room ev.d105 n1 (by walk_at "mine:om") (by walk_at "mine:om") o2 o1)) EvL_nil rfl) rfl) (by show 2 ≤ sizeLine; decide)) (.loc rfl) (by unfold σF τ1; walk_at "mine:upd") rfl ⟨rfl, rfl⟩) ?_
  rw [drop_step (l := wayBody) 12 13 rfl rfl]
  refine Exs_step (σ₁ := σF C.w ns c Wd Ma Rw Se w ++ (τ1 is (pickAt Ma is) (partsOf c (joinAt Wd is)) (joinAt Se is) (joinAt Rw is) ++ asLoc [("due", .val (.tuple [.list (dS (aloneL ys zs)), .list (dS (aloneL zs ys))]))])) (Ex_if (b := false) ?_ (fun q => nomatch q) (fun _ => Exs_nil ⟨rfl, rfl⟩)) ?_
  · have e : (!PyData.eqv (.tuple [.list (dS (sld ys zs).1), .list (dS (sld ys zs).2)]) (.tuple [.list (dS (aloneL ys zs)), .list (dS (aloneL zs ys))])) = false := by rw [hs, eqv_two]; simp
    refine It_of_eq (It_cmp (Ev_call rfl (by walk_at "mine:mem") rfl ev.d38.any (EvL_cons (sy _ _ _ _ (by unfold σF τ1; walk_at "mine:mem")) (EvL_cons (sz _ _ _ _ (by unfold σF τ1; walk_at "mine:mem")) EvL_nil rfl) rfl) rfl (sld_fn ev.room ev.d38 o1 o2 (by walk_at "mine:om") (by walk_at "mine:om"))) (by unfold σF τ1; walk_at "mine:nm") (.ne _ _ (by rw [hs]; exact deep_two (okal _ _ o1) (okal _ _ o2)) (deep_two (okal _ _ o1) (okal _ _ o2))) rfl) e
  exact Exs_end (fun p hp => List.mem_append_left _ hp) ⟨rfl, rfl⟩
end
end Mine
end
section
open PySem PySem.Spec PySem.Calls PyProof.Rows PySem.W PySem.Builtin PySem.Builtin.Str
namespace Mine
noncomputable def way1 (n : Nat) : List Nat := [0, 1, 2, 3] ++ (List.range 4).map fun k => n / 4 ^ k % 4
noncomputable def waysOf (n : Nat) : Option Way → List (List Nat)
  | none => [way1 n]
  | some y => [way1 n, y.first, y.second]
theorem ways_data (n : Nat) (w : Option Way) : [PyData.list (dN (way1 n))] ++ dRes w = (waysOf n w).map fun is => PyData.list (dN is) := by
  cases w <;> rfl
noncomputable def onWay (n : Nat) : PyData → PyData
  | .int k => .int ((n / 4 ^ k.toNat % 4 : Nat) : Int)
  | _ => .none
theorem way_comp (n : Nat) : ((dN (List.range 4)).filter fun _ => true).map (onWay n) = dN ((List.range 4).map fun k => n / 4 ^ k % 4) := by
  rw [List.filter_eq_self.mpr (fun _ _ => rfl)]
  simp only [dN, List.map_map]
  rfl
section
variable {C : Cx} {a : Addr} {cd : Value} {L : Addr} {X : List Addr} {h1 : ∀ b ∈ X, b ∉ L :: C.F} {h2 : ∀ p ∈ cellsFrom (L + 1) (scopeOf 17).names [], p.2 ∉ X}
set_option maxHeartbeats 4000000 in
theorem law_D {ns : List Nat} {c : Nat} {Wd Ma Rw Se : List Str} {w : Option Way} {R : Out → Loc → Prop} (ev : LawEnv (calleeCx C (nameOf 17) (scopeOf 17) a cd L X h1 h2)) (hh : C.A.handled = none) (hl : Wd.length = 4 ∧ Ma.length = 4 ∧ Rw.length = 4 ∧ Se.length = 4) (hn : ns.length = 5)
    (f : ∀ is ∈ waysOf (ns.getD 4 0) w, Facts2 c Wd Ma Rw Se is)
    (h : Exs (calleeCx C (nameOf 17) (scopeOf 17) a cd L X h1 h2) (σF C.w ns c Wd Ma Rw Se w) ((bodyOf 17).drop 17) R) :
    Exs (calleeCx C (nameOf 17) (scopeOf 17) a cd L X h1 h2) (σF C.w ns c Wd Ma Rw Se w) ((bodyOf 17).drop 16) R := by
  have hsl : sizeLine = 16777216 := by decide
  have hg : (dN ns)[4]? = some (.int ((ns.getD 4 0 : Nat) : Int)) := by
    rw [List.getElem?_map, List.getD_eq_getElem?_getD, List.getElem?_eq_getElem (by walk_at "mine:om")]; rfl
  generalize ns.getD 4 0 = n5 at f hg
  have it : ∃ px iter body pos, (bodyOf 17)[16]? = some (.For (.Name "way" px) iter body [] pos) ∧ wayBody = body ∧ Iter (calleeCx C (nameOf 17) (scopeOf 17) a cd L X h1 h2) (σF C.w ns c Wd Ma Rw Se w) iter ([PyData.list (dN (way1 n5))] ++ dRes w) ∧
      (∀ v, foldedSetIterable iter (calleeCx C (nameOf 17) (scopeOf 17) a cd L X h1 h2).env v = pure v) := by
    refine ⟨_, _, _, _, rfl, rfl, Iter_list (EnT.ev (En_add (EnT.ev (En_listd (EvL_cons (EnT.ev (En_add (ds := dN [0, 1, 2, 3]) (es := dN ((List.range 4).map fun k => n5 / 4 ^ k % 4)) (EnT.ev (En_listd (EvL_cons Ev_int (EvL_cons Ev_int (EvL_cons Ev_int (EvL_cons Ev_int EvL_nil rfl) rfl) rfl) rfl) (by show 4 ≤ sizeLine; decide))) ?_ (by show 4 + 4 ≤ sizeLine; decide))) EvL_nil rfl) (by show 1 ≤ sizeLine; decide))) (by unfold σF; walk_at "mine:nm") ?_)) hh, fun _ => rfl⟩
    · rw [← way_comp]
      refine EnT.ev (En_comp (σc := [("numbers", .val (.list (dN ns)))]) (Iter_range1 (n := 4) Ev_int rfl rfl (by decide) hh) (by walk_at "mine:compat") (by unfold σF; walk_at "mine:sees") ⟨?_, ?_, ?_, ?_⟩ (by show 4 ≤ sizeLine; decide) (fun _ => rfl))
      · exact List.all_eq_true.mpr fun d hd => by obtain ⟨x, _, rfl⟩ := List.mem_map.mp hd; rfl
      · intro d hd _
        obtain ⟨x, _, rfl⟩ := List.mem_map.mp hd
        rfl
      · intro A d hd
        exact Tests_nil
      · intro A d hd' _
        obtain ⟨k, hk, rfl⟩ := List.mem_map.mp hd'
        rw [List.mem_range] at hk
        show Ev _ _ _ (.int ((n5 / 4 ^ k % 4 : Nat) : Int))
        have e : ((n5 / 4 ^ k % 4 : Nat) : Int) = ((n5 : Int).fdiv ((4 : Int) ^ ((k : Nat) : Int).toNat)).fmod 4 := by
          rw [Int.toNat_natCast, show ((4 : Int) ^ k) = ((4 ^ k : Nat) : Int) from by simp, int_div]
          exact (int_mod _ 4).symm
        rw [e]
        have hp : (4 : Int) ^ ((k : Nat) : Int).toNat ≠ 0 ∧ ((4 : Int) ^ ((k : Nat) : Int).toNat).natAbs < 1073741824 := by
          rw [Int.toNat_natCast]
          rcases (by walk_at "mine:om" : k = 0 ∨ k = 1 ∨ k = 2 ∨ k = 3) with rfl | rfl | rfl | rfl <;> decide
        exact Ev_bin (Ev_bin (Ev_item (j := 4) (by walk_at "mine:nm") Ev_int ⟨by simp; walk_at "mine:om", .inl rfl⟩ hg (by simp; walk_at "mine:om") (fun _ _ => rfl)) (Ev_bin Ev_int (by walk_at "mine:nm") (.pow 4 _ (by walk_at "mine:om") (by walk_at "mine:om") (by decide))) (.fdiv _ _ hp.1 hp.2)) Ev_int (.fmod _ _ (by decide))
    · cases w with
      | none => show 1 + 0 ≤ sizeLine; decide
      | some y => show 1 + 2 ≤ sizeLine; decide
  obtain ⟨px, iter, body, pos, e1, e2, e3, e4⟩ := it
  rw [drop_step 16 17 e1 rfl]
  generalize (bodyOf 17).drop 17 = rest at h ⊢
  refine Exs_cons (R₁ := fun fl σ' => fl = .next ∧ σ' = σF C.w ns c Wd Ma Rw Se w) (Ex_for e3 rfl (fun i σ' => σ' = σF C.w ns c Wd Ma Rw Se w) rfl ?_ (fun σ' q => ⟨rfl, q⟩) e4) (fun σ' q => q.2 ▸ h) (fun fl σ' hne q => absurd q.1 hne)
  rintro i d σ' hd rfl
  rw [ways_data] at hd
  rw [List.getElem?_map, Option.map_eq_some_iff] at hd
  obtain ⟨is, his, rfl⟩ := hd
  have fi := f is (List.mem_of_getElem? his)
  refine ⟨σF C.w ns c Wd Ma Rw Se w ++ asLoc [("way", .val (.list (dN is)))], by unfold σF; walk_at "mine:upd", ExT.to1 ?_⟩
  rw [← e2]
  refine ExT.mono (law_way1 (R := fun fl σ' => fl = .next ∧ σ' = σF C.w ns c Wd Ma Rw Se w) ev hh hl fi (law_way2 ev hh hl fi (law_way3 ev hh hl fi))) ?_
  rintro fl σ' ⟨rfl, rfl⟩
  rfl
set_option maxHeartbeats 4000000 in
theorem law_E {ns : List Nat} {c : Nat} {Wd Ma Rw Se : List Str} {w : Option Way} (ev : LawEnv (calleeCx C (nameOf 17) (scopeOf 17) a cd L X h1 h2)) (hh : C.A.handled = none) (hl : Wd.length = 4 ∧ Ma.length = 4 ∧ Rw.length = 4 ∧ Se.length = 4) (okm : ∀ x ∈ Ma, okS x = true)
    (hw : ∀ y, w = some y → (∀ k ∈ y.first, k < 4) ∧ (∀ k ∈ y.second, k < 4) ∧ y.first.length ≤ 15 ∧ y.second.length ≤ 15)
    (hu : ∀ xs ys : List Str, uld xs ys = (bagLost xs ys, bagTold xs ys)) :
    Exs (calleeCx C (nameOf 17) (scopeOf 17) a cd L X h1 h2) (σF C.w ns c Wd Ma Rw Se w) ((bodyOf 17).drop 17) (fun fl _ => fl = .ret (.bool true)) := by
  have hsl : sizeLine = 16777216 := by decide
  obtain ⟨l1, l2, l3, l4⟩ := hl
  rw [drop_step (l := bodyOf 17) 17 18 rfl rfl]
  refine Exs_cons (R₁ := fun fl σ' => (fl = .next ∧ w ≠ none ∧ σ' = σF C.w ns c Wd Ma Rw Se w) ∨ fl = .ret (.bool true)) (Ex_if (b := decide (w = none)) ?_ (fun q => ?_) (fun q => Exs_nil (.inl ⟨rfl, by simpa using q, rfl⟩))) (fun σ' q => ?_) (fun fl σ' hne q => q.resolve_left fun z => hne z.1)
  · rw [← eqv_res]
    exact It_cmp (by unfold σF; walk_at "mine:nm") (EnT.ev (En_listd EvL_nil (by decide))) (.eq _ _ (deep_res w) deep_nil) rfl
  · exact Exs_cons (R₁ := fun fl _ => fl = .ret (.bool true)) (Ex_return Ev_bool rfl) (fun _ q => nomatch q) (fun _ _ _ q => .inr q)
  obtain ⟨_, hne, rfl⟩ := q.resolve_right (fun z => nomatch z)
  obtain ⟨y, rfl⟩ := Option.ne_none_iff_exists'.mp hne
  obtain ⟨y1, y2, y3, y4⟩ := hw y rfl
  rw [drop_step (l := bodyOf 17) 18 19 rfl rfl]
  refine Exs_step (σ₁ := σF C.w ns c Wd Ma Rw Se (some y) ++ asLoc [("one", .val (.list (dS (pickAt Ma y.first))))]) (Ex_assign_comp (Iter_list (Ev_item (j := 0) (ds := dRes (some y)) (by unfold σF; walk_at "mine:nm") Ev_int ⟨by simp [dRes], .inl rfl⟩ rfl (by show 2 < 2 ^ 62; decide) (fun _ _ => rfl)) hh) (by walk_at "mine:compat") (by unfold σF; walk_at "mine:sees") (pick_ok (x := "mails") (xs := Ma) (is := y.first) rfl (fun k hk => by rw [l2]; exact y1 k hk) (by walk_at "mine:om")) (by simp; walk_at "mine:om") rfl rfl (by rw [pick_comp]; unfold σF; walk_at "mine:upd") ⟨rfl, rfl⟩ (fun _ => rfl)) ?_
  rw [drop_step (l := bodyOf 17) 19 20 rfl rfl]
  refine Exs_step (σ₁ := σF C.w ns c Wd Ma Rw Se (some y) ++ asLoc [("one", .val (.list (dS (pickAt Ma y.first)))), ("other", .val (.list (dS (pickAt Ma y.second))))]) (Ex_assign_comp (Iter_list (Ev_item (j := 1) (ds := dRes (some y)) (by unfold σF; walk_at "mine:nm") Ev_int ⟨by simp [dRes], .inl rfl⟩ rfl (by show 2 < 2 ^ 62; decide) (fun _ _ => rfl)) hh) (by walk_at "mine:compat") (by unfold σF; walk_at "mine:sees") (pick_ok (x := "mails") (xs := Ma) (is := y.second) rfl (fun k hk => by rw [l2]; exact y2 k hk) (by walk_at "mine:om")) (by simp; walk_at "mine:om") rfl rfl (by rw [pick_comp]; unfold σF; walk_at "mine:upd") ⟨rfl, rfl⟩ (fun _ => rfl)) ?_
  rw [drop_step (l := bodyOf 17) 20 21 rfl rfl]
  have okp : ∀ is : List Nat, (∀ k ∈ is, k < 4) → ∀ x ∈ pickAt Ma is, okS x = true := fun is his x hx => by
    obtain ⟨k, hk, rfl⟩ := List.mem_map.mp hx
    exact okm _ (getD_mem (by have := his k hk; walk_at "mine:om"))
  have o1 := okp _ y1
  have o2 := okp _ y2
  have e1 : (pickAt Ma y.first).length ≤ 15 := by simp [pickAt]; exact y3
  have e2 : (pickAt Ma y.second).length ≤ 15 := by simp [pickAt]; exact y4
  generalize pickAt Ma y.first = p1 at o1 e1 ⊢
  generalize pickAt Ma y.second = p2 at o2 e2 ⊢
  have okl : (∀ x ∈ bagLost p1 p2, okS x = true) ∧ (∀ x ∈ bagTold p1 p2, okS x = true) := by
    refine ⟨fun x hx => ?_, fun x hx => ?_⟩
    · simp only [bagLost, List.mem_map, List.mem_filter, List.mem_range] at hx
      obtain ⟨k, ⟨⟨i, hi, rfl⟩, _⟩, rfl⟩ := hx
      exact o1 _ (getD_mem (by walk_at "mine:om"))
    · simp only [bagTold, List.mem_map, List.mem_filter, List.mem_range] at hx
      obtain ⟨k, ⟨hk, _⟩, rfl⟩ := hx
      exact o2 _ (getD_mem hk)
  refine Exs_cons (R₁ := fun fl _ => fl = .ret (.bool true)) (Ex_return (d := .bool true) ?_ rfl) (fun _ q => nomatch q) (fun _ _ _ q => q)
  have e : PyData.eqv (.tuple [.list (dS (uld p1 p2).1), .list (dS (uld p1 p2).2)]) (.tuple [.list (dS (bagLost p1 p2)), .list (dS (bagTold p1 p2))]) = true := by rw [hu, eqv_two]; simp
  rw [← e]
  exact Ev_cmp (Ev_call_new2 (by simp [calleeCx]) rfl (by walk_at "mine:mem") rfl ev.d45.any (En_list (EvT.el (by unfold σF; walk_at "mine:nm")) rfl rfl (by simp; walk_at "mine:om")) (En_list (EvT.el (by unfold σF; walk_at "mine:nm")) rfl rfl (by simp; walk_at "mine:om")) rfl rfl (uld_own ev.room ev.d45 (by walk_at "mine:om") (by walk_at "mine:om")))
    (Ev_call rfl (by walk_at "mine:mem") rfl ev.d100.any (EvL_cons (by unfold σF; walk_at "mine:nm") (EvL_cons (by unfold σF; walk_at "mine:nm") EvL_nil rfl) rfl) rfl (bags_ok ev.room ev.d100 (by walk_at "mine:om") (by walk_at "mine:om"))) (.eq _ _ (by rw [hu]; exact deep_two okl.1 okl.2) (deep_two okl.1 okl.2)) rfl
end
end Mine
end
section
open PySem PySem.Spec PySem.Calls PyProof.Rows PySem.W PySem.Builtin PySem.Builtin.Str
namespace Mine
noncomputable def encM (c : Nat) (b : Bool) : List Nat := if b then [c, 46, 10, 10] else [46, 10]
noncomputable def encR (c : Nat) (b : Bool) : List Nat := if b then [c, 46, 13, 10, 13, 10] else [46, 13, 10]
noncomputable def encS (c : Nat) (b : Bool) : List Nat := if b then [c, 46, 13, 10, 13, 10] else [46, 46, 13, 10]
structure LetterOk (c : Nat) : Prop where
  n10 : c ≠ 10
  n13 : c ≠ 13
  n46 : c ≠ 46
  lt : c < 55296
theorem letterOf_ok (ns : List Nat) : LetterOk (letterOf ns) := by
  unfold letterOf
  have h : ns.sum / 3 % 55296 < 55296 := Nat.mod_lt _ (by decide)
  generalize ns.sum / 3 % 55296 = q at h ⊢
  cases hb : isOdd q
  · rw [if_neg (by decide)]
    simp only [isOdd, Bool.or_eq_false_iff, beq_eq_false_iff_ne] at hb
    exact ⟨hb.1.2, hb.1.1, hb.2, h⟩
  · rw [if_pos rfl]; exact ⟨by decide, by decide, by decide, by decide⟩
noncomputable def eolL (t : Nat) : List Nat := if t % 3 = 0 then [10] else if t % 3 = 1 then [13] else [13, 10]
theorem eolL_of (t : Nat) : (eolOf t).cps.toList = eolL t := by
  unfold eolOf eolL
  split
  · rfl
  · split <;> rfl
theorem piece_list (c : Nat) (b : Bool) : (pieceOf c b).cps.toList = encM c b := by cases b <;> rfl
noncomputable def pieceL (c t : Nat) (b : Bool) : List Nat := if b then c :: 46 :: (eolL t ++ eolL t) else 46 :: eolL t
theorem replace_list {c : Nat} (hc : LetterOk c) (b : Bool) (t : Nat) : (Txt.replace (pieceOf c b) "\n" (eolOf t)).cps.toList = pieceL c t b := by
  have : ("\n" : Str) = ⟨#[10]⟩ := by rfl
  rw [this, replace_rep1, piece_list, eolL_of]
  cases b
  · simp [rep1, encM, pieceL]
  · simp [rep1, encM, pieceL, hc.n10]
noncomputable def textL (c : Nat) : List Bool → Nat → List Nat
  | [], _ => []
  | b :: w, t => pieceL c t b ++ textL c w (t / 3)
theorem text_fold {c : Nat} (hc : LetterOk c) : ∀ (w : List Bool) (x : Str) (t : Nat), (w.foldl (textStep c) (x, t)).1.cps.toList = x.cps.toList ++ textL c w t
  | [], x, t => by simp [textL]
  | b :: w, x, t => by
    rw [List.foldl_cons]
    show (w.foldl (textStep c) (x ++ Txt.replace (pieceOf c b) "\n" (eolOf t), t / 3)).1.cps.toList = _
    rw [text_fold hc w, Str.cps_append, Array.toList_append, replace_list hc, textL, List.append_assoc]
theorem piece_len6 (c t : Nat) (b : Bool) : (pieceL c t b).length ≤ 6 := by
  have h : (eolL t).length ≤ 2 := by unfold eolL; split; decide; split <;> decide
  unfold pieceL
  cases b <;> simp <;> walk_at "mine:om"
theorem text_len (c : Nat) : ∀ (w : List Bool) (t : Nat), (textL c w t).length ≤ 6 * w.length
  | [], t => by simp [textL]
  | b :: w, t => by
    have := piece_len6 c t b
    have := text_len c w (t / 3)
    rw [textL, List.length_append, List.length_cons]; walk_at "mine:om"
theorem str_len (x : Str) : x.length = x.cps.toList.length := by simp [Str.length]
theorem fits {c : Nat} (hc : LetterOk c) : ∀ w ∈ allWords, ∀ t, WordFits c w t := fun w hw t => by
  have hl := all_len3 w hw
  refine ⟨hl, fun i => ?_, fun b t => ?_⟩
  · rw [str_len, text_fold hc]
    have h1 := text_len c (w.take i) t
    have h2 : (w.take i).length ≤ w.length := by rw [List.length_take]; exact Nat.min_le_right _ _
    have : (("" : Str)).cps.toList = [] := by rfl
    rw [this, List.nil_append]; walk_at "mine:om"
  · rw [str_len, replace_list hc]
    have := piece_len6 c t b; walk_at "mine:om"
theorem fix_one {c : Nat} (h1 : c ≠ 10) (h2 : c ≠ 13) (r : List Nat) : fixE (c :: r) = c :: fixE r := by
  rw [fixE_cons (fun q => h2 q.1), if_neg (by simp [h1, h2])]
theorem fix_10 (r : List Nat) : fixE (10 :: r) = 13 :: 10 :: fixE r := by
  rw [fixE_cons (fun q => absurd q.1 (by decide)), if_pos (.inl rfl)]
theorem fix_13 (r : List Nat) (h : r.head? ≠ some 10) : fixE (13 :: r) = 13 :: 10 :: fixE r := by
  rw [fixE_cons (fun q => by obtain ⟨_, r', rfl⟩ := q; exact h rfl), if_pos (.inr rfl)]
theorem fix_1310 (r : List Nat) : fixE (13 :: 10 :: r) = 13 :: 10 :: fixE r := by rw [fixE]
theorem text_head {c : Nat} (hc : LetterOk c) (w : List Bool) (t : Nat) : (textL c w t).head? ≠ some 10 := by
  cases w with
  | nil => simp [textL]
  | cons b w =>
    rw [textL]
    cases b
    · simp [pieceL]
    · simp [pieceL, hc.n10]
theorem fix_text {c : Nat} (hc : LetterOk c) : ∀ (w : List Bool) (t : Nat), fixE (textL c w t) = w.flatMap (encR c)
  | [], t => by simp [textL, fixE]
  | b :: w, t => by
    have ih := fix_text hc w (t / 3)
    have hh := text_head hc w (t / 3)
    rw [textL, List.flatMap_cons, ← ih]
    generalize textL c w (t / 3) = r at hh
    have d46 : ∀ r, fixE (46 :: r) = 46 :: fixE r := fix_one (by decide) (by decide)
    unfold pieceL eolL
    cases b
    · simp only [Bool.false_eq_true, if_false, encR]
      split
      · simp only [List.cons_append, List.nil_append, d46, fix_10]
      · split
        · simp only [List.cons_append, List.nil_append, d46, fix_13 r hh]
        · simp only [List.cons_append, List.nil_append, d46, fix_1310]
    · simp only [if_true, encR]
      split
      · simp only [List.cons_append, List.nil_append, fix_one hc.n10 hc.n13, d46, fix_10]
      · split
        · simp only [List.cons_append, List.nil_append, fix_one hc.n10 hc.n13, d46]
          rw [fix_13 _ (by simp), fix_13 r hh]
        · simp only [List.cons_append, List.nil_append, fix_one hc.n10 hc.n13, d46, fix_1310]
theorem dot_raw {c : Nat} (hc : LetterOk c) : ∀ w : List Bool, dotE true (w.flatMap (encR c)) = w.flatMap (encS c)
  | [] => rfl
  | b :: w => by
    have ih := dot_raw hc w
    rw [List.flatMap_cons, List.flatMap_cons, ← ih]
    have hb : (c == 46) = false := by simpa using hc.n46
    have hb2 : (c == 10) = false := by simpa using hc.n10
    cases b
    · simp [encR, encS, dotE]
    · simp [encR, encS, dotE, hb, hb2]
theorem fix_list {c : Nat} (hc : LetterOk c) (w : List Bool) (t : Nat) : (fixS (textOf c w t)).cps.toList = w.flatMap (encR c) := by
  have : (textOf c w t).cps.toList = textL c w t := by
    unfold textOf
    rw [text_fold hc]; rfl
  show (fixE (textOf c w t).cps.toList).toArray.toList = _
  rw [this, fix_text hc]
theorem dots_list {c : Nat} (hc : LetterOk c) (w : List Bool) (t : Nat) : (dotS (fixS (textOf c w t))).cps.toList = w.flatMap (encS c) := by
  show (dotE true (fixS (textOf c w t)).cps.toList).toArray.toList = _
  rw [fix_list hc, dot_raw hc]
theorem mail_list (c : Nat) (w : List Bool) : (mailOf c w).cps.toList = w.flatMap (encM c) := by
  unfold mailOf
  rw [join_list, List.map_map, List.flatMap_def]
  congr 1
  apply List.map_congr_left
  intro b _
  exact piece_list c b
noncomputable def fin (w : List Bool) : List Bool := w ++ [false]
noncomputable def spellL (w : List Bool) : List Nat := w.map fun b => if b then 97 else 46
theorem spell_toS (w : List Bool) : spell w = toS (spellL w) := rfl
theorem rawsOf_eq {c : Nat} (hc : LetterOk c) (ch : List (List Bool × Nat)) : rawsOf c ch = (ch.map (·.1)).map fun w => toS ((fin w).flatMap (encR c)) := by
  unfold rawsOf
  rw [List.map_map]
  apply List.map_congr_left
  intro p _
  rw [← toS_of (fixS _ ++ _), Str.cps_append, Array.toList_append, fix_list hc]
  show _ = toS ((fin p.1).flatMap (encR c))
  congr 1
  simp [fin, encR]; rfl
theorem sentsOf_eq {c : Nat} (hc : LetterOk c) (ch : List (List Bool × Nat)) : sentsOf c ch = (ch.map (·.1)).map fun w => toS (w.flatMap (encS c) ++ [46, 13, 10]) := by
  unfold sentsOf
  rw [List.map_map]
  apply List.map_congr_left
  intro p _
  rw [← toS_of (dotS _ ++ _), Str.cps_append, Array.toList_append, dots_list hc]; rfl
theorem mailsOf_eq (c : Nat) (ch : List (List Bool × Nat)) : mailsOf c ch = (ch.map (·.1)).map fun w => toS (w.flatMap (encM c)) := by
  unfold mailsOf
  rw [List.map_map]
  apply List.map_congr_left
  intro p _
  rw [← toS_of (mailOf c p.1), mail_list]; rfl
theorem wordsOf_eq (ch : List (List Bool × Nat)) : wordsOf ch = (ch.map (·.1)).map fun w => spell (fin w) := by
  unfold wordsOf
  rw [List.map_map]
  apply List.map_congr_left
  intro p _
  rw [← toS_of (spell p.1 ++ "."), Str.cps_append, Array.toList_append]
  show _ = toS (spellL (fin p.1))
  congr 1
  simp [fin, spellL, spell]; rfl
end Mine
end
section
open PySem PySem.Spec PySem.Calls PyProof.Rows PySem.W PySem.Builtin PySem.Builtin.Str
namespace Mine
noncomputable abbrev leS (a b : Str) : Prop := a.cps.toList ≤ b.cps.toList
noncomputable abbrev ltS (a b : Str) : Prop := a.cps.toList < b.cps.toList
theorem leS_antisymm {a b : Str} (h1 : leS a b) (h2 : leS b a) : a = b := by
  have := List.le_antisymm h1 h2
  cases a; cases b; simp only [Array.toList_inj] at this; rw [this]
theorem leS_trans {a b c : Str} (h1 : leS a b) (h2 : leS b c) : leS a c := List.le_trans h1 h2
theorem leS_total (a b : Str) : leS a b ∨ leS b a := List.le_total _ _
theorem not_ltS {a b : Str} : ¬ ltS a b ↔ leS b a := List.not_lt
theorem ltS_le {a b : Str} (h : ltS a b) : leS a b := by
  rcases leS_total a b with q | q
  · exact q
  · exact absurd h (not_ltS.mpr q)
theorem ltS_irrefl (a : Str) : ¬ ltS a a := List.lt_irrefl _
theorem ltS_of_le {a b : Str} (h : leS a b) (hne : a ≠ b) : ltS a b := by
  by_cases q : ltS a b
  · exact q
  · exact absurd (leS_antisymm h (not_ltS.mp q)) hne
theorem ltS_of_lt_le {a b c : Str} (h1 : ltS a b) (h2 : leS b c) : ltS a c := by
  refine ltS_of_le (leS_trans (ltS_le h1) h2) fun q => ?_
  subst q
  exact not_ltS.mpr h2 h1
theorem ltS_of_le_lt {a b c : Str} (h1 : leS a b) (h2 : ltS b c) : ltS a c := List.lt_of_le_of_lt h1 h2
theorem ltS_ne {a b : Str} (h : ltS a b) : a ≠ b := fun q => ltS_irrefl b (by rw [q] at h; exact h)
theorem strLt_iff {a b : Str} : strLt a b = true ↔ ltS a b := by unfold strLt; exact decide_eq_true_iff
noncomputable abbrev Sor (xs : List Str) : Prop := xs.Pairwise leS
theorem rising_iff : ∀ (r : List Str) (p : Str), risingS p r = true ↔ (p :: r).Pairwise leS
  | [], p => by simp [risingS]
  | x :: r, p => by
    have e : ltCps x.cps.toList p.cps.toList = decide (ltS x p) := ltCps_eq _ _
    rw [risingS, Bool.and_eq_true, rising_iff r x, e]
    simp only [Bool.not_eq_true', decide_eq_false_iff_not, not_ltS]
    constructor
    · rintro ⟨h1, h2⟩
      refine List.pairwise_cons.mpr ⟨fun z hz => ?_, h2⟩
      rcases List.mem_cons.mp hz with rfl | hz
      · exact h1
      · exact leS_trans h1 ((List.pairwise_cons.mp h2).1 z hz)
    · intro h
      have h' := List.pairwise_cons.mp h
      exact ⟨h'.1 x (.head _), h'.2⟩
theorem sorted_iff (xs : List Str) : sortedS xs = true ↔ Sor xs := by
  cases xs with
  | nil => simp [sortedS, Sor]
  | cons x r => exact rising_iff r x
theorem sort_ex (xs : List Str) : ∃ ys : List Str, ys.Perm xs ∧ Sor ys ∧ ∀ zs : List Str, zs.Perm xs → sortedS zs = true → zs = ys := by
  have ht : ∀ a b : Str, ((!strLt b a) = true ↔ leS a b) := fun a b => by
    rw [← not_ltS, ← strLt_iff]; simp
  refine ⟨xs.mergeSort fun a b => !strLt b a, List.mergeSort_perm _ _, ?_, fun zs hp hs => ?_⟩
  · refine (List.pairwise_mergeSort (le := fun a b => !strLt b a) (fun a b c h1 h2 => ?_) (fun a b => ?_) xs).imp fun {a b} h => (ht a b).mp h
    · exact (ht a c).mpr (leS_trans ((ht a b).mp h1) ((ht b c).mp h2))
    · rw [Bool.or_eq_true, ht, ht]; exact leS_total a b
  · refine List.Perm.eq_of_pairwise (le := leS) (fun a b _ _ h1 h2 => leS_antisymm h1 h2) ((sorted_iff zs).mp hs) ?_ (hp.trans (List.mergeSort_perm _ _).symm)
    refine (List.pairwise_mergeSort (le := fun a b => !strLt b a) (fun a b c h1 h2 => ?_) (fun a b => ?_) xs).imp fun {a b} h => (ht a b).mp h
    · exact (ht a c).mpr (leS_trans ((ht a b).mp h1) ((ht b c).mp h2))
    · rw [Bool.or_eq_true, ht, ht]; exact leS_total a b
noncomputable def al (Y : List Str) (l : Str) : List Str → List Str → List Str
  | _, [] => []
  | s, x :: r => (if x ∉ Y ∧ (ltS l x ∨ x ∉ s) then [x] else []) ++ al Y l (s ++ [x]) r
theorem al_rec (Y : List Str) : ∀ (xs s : List Str), ((List.range xs.length).filter fun k => !decide (xs.getD k "" ∈ Y) && (decide (ltS (Y.getLastD "") (xs.getD k "")) || !decide (xs.getD k "" ∈ (s ++ xs).take (s.length + k)))).map (fun k => xs.getD k "") = al Y (Y.getLastD "") s xs
  | [], s => rfl
  | x :: r, s => by
    have ih := al_rec Y r (s ++ [x])
    rw [List.length_cons, List.range_succ_eq_map, al, ← ih, List.filter_cons]
    have h0 : (s ++ x :: r).take (s.length + 0) = s := by simp
    simp only [List.getD_cons_zero, h0]
    have tl : ((List.map Nat.succ (List.range r.length)).filter fun k => !decide ((x :: r).getD k "" ∈ Y) && (decide (ltS (Y.getLastD "") ((x :: r).getD k "")) || !decide ((x :: r).getD k "" ∈ (s ++ x :: r).take (s.length + k)))).map (fun k => (x :: r).getD k "") =
        ((List.range r.length).filter fun k => !decide (r.getD k "" ∈ Y) && (decide (ltS (Y.getLastD "") (r.getD k "")) || !decide (r.getD k "" ∈ (s ++ [x] ++ r).take ((s ++ [x]).length + k)))).map (fun k => r.getD k "") := by
      rw [List.filter_map, List.map_map]
      have e1 : ((fun k => !decide ((x :: r).getD k "" ∈ Y) && (decide (ltS (Y.getLastD "") ((x :: r).getD k "")) || !decide ((x :: r).getD k "" ∈ (s ++ x :: r).take (s.length + k)))) ∘ Nat.succ) = fun k => !decide (r.getD k "" ∈ Y) && (decide (ltS (Y.getLastD "") (r.getD k "")) || !decide (r.getD k "" ∈ (s ++ [x] ++ r).take ((s ++ [x]).length + k))) := by
        funext k
        have e2 : s.length + (k + 1) = (s ++ [x]).length + k := by simp; walk_at "mine:om"
        have e3 : s ++ x :: r = s ++ [x] ++ r := by simp
        show (!decide ((x :: r).getD (k + 1) "" ∈ Y) && (decide (ltS (Y.getLastD "") ((x :: r).getD (k + 1) "")) || !decide ((x :: r).getD (k + 1) "" ∈ (s ++ x :: r).take (s.length + (k + 1))))) = _
        rw [List.getD_cons_succ, e2, e3]
      rw [e1]
      rfl
    by_cases h : x ∉ Y ∧ (ltS (Y.getLastD "") x ∨ x ∉ s)
    · have hb : (!decide (x ∈ Y) && (decide (ltS (Y.getLastD "") x) || !decide (x ∈ s))) = true := by simpa using h
      rw [hb, if_pos h]
      simp only [if_true, List.map_cons, List.getD_cons_zero, tl]; rfl
    · have hb : (!decide (x ∈ Y) && (decide (ltS (Y.getLastD "") x) || !decide (x ∈ s))) = false := by
        rw [← Bool.not_eq_true]; simpa using h
      rw [hb, if_neg h]
      simp only [Bool.false_eq_true, if_false, tl]; rfl
theorem alone_al (xs ys : List Str) : aloneL xs ys = al ys (ys.getLastD "") [] xs := by
  rw [← al_rec]
  unfold aloneL
  congr 1
  apply List.filter_congr
  intro k _
  unfold aloneP
  simp only [List.nil_append, List.length_nil, Nat.zero_add]
theorem al_skip {Y : List Str} {l x : Str} (h : x ∈ Y ∨ (¬ ltS l x)) : ∀ (run s rest : List Str), (∀ z ∈ run, z = x) → (x ∈ Y ∨ x ∈ s) → al Y l s (run ++ rest) = al Y l (s ++ run) rest
  | [], s, rest, _, _ => by simp
  | z :: run, s, rest, hr, hs => by
    have hz := hr z (.head _)
    subst hz
    rw [List.cons_append, al, al_skip h run (s ++ [z]) rest (fun w hw => hr w (.tail _ hw)) (by rcases hs with q | q; exact .inl q; exact .inr (List.mem_append_left _ q)), if_neg ?_]
    · simp
    · rintro ⟨h1, h2⟩
      rcases hs with q | q
      · exact h1 q
      · rcases h with h | h
        · exact h1 h
        · rcases h2 with h2 | h2
          · exact h h2
          · exact h2 q
theorem al_all {Y : List Str} {l : Str} : ∀ (xs s : List Str), (∀ x ∈ xs, x ∉ Y ∧ ltS l x) → al Y l s xs = xs
  | [], s, _ => rfl
  | x :: r, s, h => by
    rw [al, if_pos ⟨(h x (.head _)).1, .inl (h x (.head _)).2⟩, al_all r _ fun z hz => h z (.tail _ hz)]; rfl
theorem al_nodup {Y : List Str} {l : Str} : ∀ (xs s : List Str), xs.Nodup → (∀ x ∈ xs, x ∉ s) → al Y l s xs = xs.filter fun x => !decide (x ∈ Y)
  | [], s, _, _ => rfl
  | x :: r, s, hn, hs => by
    have hn' := List.nodup_cons.mp hn
    rw [al, al_nodup r (s ++ [x]) hn'.2 (fun z hz m => by
      rcases List.mem_append.mp m with q | q
      · exact hs z (.tail _ hz) q
      · rw [List.mem_singleton] at q; subst q; exact hn'.1 hz), List.filter_cons]
    by_cases q : x ∈ Y
    · rw [if_neg (fun z => z.1 q)]; simp [q]
    · rw [if_pos ⟨q, .inr (hs x (.head _))⟩]; simp [q]
theorem run_split (x : Str) (r : List Str) : ∃ run, r = run ++ r.dropWhile (· == x) ∧ (∀ z ∈ run, z = x) :=
  ⟨r.takeWhile (· == x), (List.takeWhile_append_dropWhile).symm, fun z hz => by
    have := List.all_takeWhile (p := (· == x)) (l := r)
    exact eq_of_beq (List.all_eq_true.mp this z hz)⟩
theorem drop_gt {x : Str} {r : List Str} (h : Sor (x :: r)) : ∀ z ∈ r.dropWhile (· == x), ltS x z := by
  intro z hz
  have hs : (r.dropWhile (· == x)).Sublist r := List.dropWhile_sublist _
  have hp := List.pairwise_cons.mp h
  cases hd : r.dropWhile (· == x) with
  | nil => rw [hd] at hz; cases hz
  | cons y t =>
    have hy : (y == x) = false := by
      have := List.head?_dropWhile_not (· == x) r
      rw [hd] at this
      simpa using this
    have hxy : ltS x y := ltS_of_le (hp.1 y (hs.subset (by rw [hd]; exact .head _))) (fun q => by subst q; simp at hy)
    rw [hd] at hz
    rcases List.mem_cons.mp hz with rfl | hz
    · exact hxy
    · have := hp.2.sublist hs
      rw [hd] at this
      exact ltS_of_lt_le hxy ((List.pairwise_cons.mp this).1 z hz)
theorem last_ge {Y : List Str} (h : Sor Y) : ∀ y ∈ Y, leS y (Y.getLastD "") := by
  intro y hy
  have hne : Y ≠ [] := fun q => by subst q; cases hy
  have e : Y = Y.dropLast ++ [Y.getLastD ""] := by
    rw [List.getLastD_eq_getLast?, List.getLast?_eq_some_getLast hne]
    exact (List.dropLast_concat_getLast hne).symm
  rw [e] at hy h
  rcases List.mem_append.mp hy with q | q
  · exact (List.pairwise_append.mp h).2.2 y q _ (.head _)
  · rw [List.mem_singleton] at q
    rw [← q]
    rcases leS_total y y with z | z <;> exact z
theorem last_mem {Y : List Str} (hne : Y ≠ []) : Y.getLastD "" ∈ Y := by
  rw [List.getLastD_eq_getLast?, List.getLast?_eq_some_getLast hne]
  exact List.getLast_mem hne
structure Two (X Y sx xs sy ys : List Str) : Prop where
  X : X = sx ++ xs
  Y : Y = sy ++ ys
  a : ∀ a ∈ sx, ∀ x ∈ xs, ltS a x
  b : ∀ b ∈ sy, ∀ y ∈ ys, ltS b y
  c : ∀ b ∈ sy, ∀ x ∈ xs, ltS b x
  d : ∀ a ∈ sx, ∀ y ∈ ys, ltS a y
theorem sld_al {X Y : List Str} (hX : Sor X) (hY : Sor Y) (nX : X ≠ []) (nY : Y ≠ []) : ∀ (n : Nat) (sx xs sy ys : List Str), xs.length + ys.length ≤ n → Two X Y sx xs sy ys → sld xs ys = (al Y (Y.getLastD "") sx xs, al X (X.getLastD "") sy ys) := by
  intro n
  induction n with
  | zero =>
    intro sx xs sy ys h t
    have e1 : xs = [] := List.eq_nil_of_length_eq_zero (by walk_at "mine:om")
    have e2 : ys = [] := List.eq_nil_of_length_eq_zero (by walk_at "mine:om")
    subst e1 e2
    rw [sld]; rfl
  | succ n ih =>
    intro sx xs sy ys h t
    match xs, ys, h, t with
    | [], ys, h, t =>
      rw [sld, al_all ys sy fun y hy => ?_]; rfl
      have hs : ∀ a ∈ X, ltS a y := fun a ha => by
        rw [t.X, List.append_nil] at ha
        exact t.d a ha y hy
      exact ⟨fun m => ltS_irrefl y (hs y m), hs _ (last_mem nX)⟩
    | x :: r, [], h, t =>
      rw [sld, al_all (x :: r) sx fun z hz => ?_]; rfl
      have hs : ∀ b ∈ Y, ltS b z := fun b hb => by
        rw [t.Y, List.append_nil] at hb
        exact t.c b hb z hz
      exact ⟨fun m => ltS_irrefl z (hs z m), hs _ (last_mem nY)⟩
    | x :: xs, y :: ys, h, t =>
      have hXs : Sor (x :: xs) := by have := hX; rw [t.X] at this; exact (List.pairwise_append.mp this).2.1
      have hYs : Sor (y :: ys) := by have := hY; rw [t.Y] at this; exact (List.pairwise_append.mp this).2.1
      obtain ⟨rx, ex, qx⟩ := run_split x xs
      obtain ⟨ry, ey, qy⟩ := run_split y ys
      have gx := drop_gt hXs
      have gy := drop_gt hYs
      have l1 := dropWhile_le (· == x) xs
      have l2 := dropWhile_le (· == y) ys
      have dx : ∀ z ∈ xs.dropWhile (· == x), z ∈ xs := fun z hz => (List.dropWhile_sublist _).subset hz
      have dy : ∀ z ∈ ys.dropWhile (· == y), z ∈ ys := fun z hz => (List.dropWhile_sublist _).subset hz
      simp only [List.length_cons] at h
      rw [sld]
      generalize xs.dropWhile (· == x) = xs' at ex gx l1 dx
      generalize ys.dropWhile (· == y) = ys' at ey gy l2 dy
      have mx : ∀ a ∈ sx ++ x :: rx, a ∈ sx ∨ a = x := fun a ha => by
        rcases List.mem_append.mp ha with q | q
        · exact .inl q
        · rcases List.mem_cons.mp q with q | q
          · exact .inr q
          · exact .inr (qx a q)
      have my : ∀ b ∈ sy ++ y :: ry, b ∈ sy ∨ b = y := fun b hb => by
        rcases List.mem_append.mp hb with q | q
        · exact .inl q
        · rcases List.mem_cons.mp q with q | q
          · exact .inr q
          · exact .inr (qy b q)
      have xnot : ltS x y → x ∉ Y := fun hlt m => by
        rw [t.Y] at m
        rcases List.mem_append.mp m with q | q
        · exact ltS_irrefl x (t.c x q x (.head _))
        · rcases List.mem_cons.mp q with q | q
          · exact ltS_ne hlt q
          · exact ltS_irrefl x (ltS_of_lt_le hlt ((List.pairwise_cons.mp hYs).1 x q))
      have ynot : ltS y x → y ∉ X := fun hlt m => by
        rw [t.X] at m
        rcases List.mem_append.mp m with q | q
        · exact ltS_irrefl y (t.d y q y (.head _))
        · rcases List.mem_cons.mp q with q | q
          · exact ltS_ne hlt q
          · exact ltS_irrefl y (ltS_of_lt_le hlt ((List.pairwise_cons.mp hXs).1 y q))
      have yX : y ∈ Y := by rw [t.Y]; simp
      have xX : x ∈ X := by rw [t.X]; simp
      have eX : X = (sx ++ x :: rx) ++ xs' := by rw [t.X, ex]; simp
      have eY : Y = (sy ++ y :: ry) ++ ys' := by rw [t.Y, ey]; simp
      by_cases hlt : ltS x y
      · rw [if_pos (strLt_iff.mpr hlt)]
        have nl : ¬ ltS (Y.getLastD "") x := fun q => ltS_irrefl x (ltS_of_lt_le (ltS_of_lt_le hlt (last_ge hY y yX)) (ltS_le q))
        rw [ih (sx ++ x :: rx) xs' sy (y :: ys) (by simp only [List.length_cons]; walk_at "mine:om") ⟨eX, t.Y, fun a ha z hz => by
            rcases mx a ha with q | q
            · exact t.a a q z (.tail _ (dx z hz))
            · rw [q]; exact gx z hz, t.b, fun b hb z hz => t.c b hb z (.tail _ (dx z hz)), fun a ha z hz => by
            rcases mx a ha with q | q
            · exact t.d a q z hz
            · rw [q]
              rcases List.mem_cons.mp hz with e | hz
              · rw [e]; exact hlt
              · exact ltS_of_lt_le hlt ((List.pairwise_cons.mp hYs).1 z hz)⟩]
        have e1 : al Y (Y.getLastD "") sx (x :: xs) = x :: al Y (Y.getLastD "") (sx ++ x :: rx) xs' := by
          rw [al, if_pos ⟨xnot hlt, .inr fun m => ltS_irrefl x (t.a x m x (.head _))⟩, ex, al_skip (x := x) (.inr nl) rx (sx ++ [x]) xs' qx (.inr (by simp))]
          simp
        rw [e1]
      · rw [if_neg (fun q => hlt (strLt_iff.mp q))]
        by_cases hgt : ltS y x
        · rw [if_pos (strLt_iff.mpr hgt)]
          have nl : ¬ ltS (X.getLastD "") y := fun q => ltS_irrefl y (ltS_of_lt_le (ltS_of_lt_le hgt (last_ge hX x xX)) (ltS_le q))
          rw [ih sx (x :: xs) (sy ++ y :: ry) ys' (by simp only [List.length_cons]; walk_at "mine:om") ⟨t.X, eY, t.a, fun b hb z hz => by
              rcases my b hb with q | q
              · exact t.b b q z (.tail _ (dy z hz))
              · rw [q]; exact gy z hz, fun b hb z hz => by
              rcases my b hb with q | q
              · exact t.c b q z hz
              · rw [q]
                rcases List.mem_cons.mp hz with e | hz
                · rw [e]; exact hgt
                · exact ltS_of_lt_le hgt ((List.pairwise_cons.mp hXs).1 z hz), fun a ha z hz => t.d a ha z (.tail _ (dy z hz))⟩]
          have e1 : al X (X.getLastD "") sy (y :: ys) = y :: al X (X.getLastD "") (sy ++ y :: ry) ys' := by
            rw [al, if_pos ⟨ynot hgt, .inr fun m => ltS_irrefl y (t.b y m y (.head _))⟩, ey, al_skip (x := y) (.inr nl) ry (sy ++ [y]) ys' qy (.inr (by simp))]
            simp
          rw [e1]
        · rw [if_neg (fun q => hgt (strLt_iff.mp q))]
          have e : x = y := leS_antisymm (not_ltS.mp hgt) (not_ltS.mp hlt)
          subst e
          rw [ih (sx ++ x :: rx) xs' (sy ++ x :: ry) ys' (by walk_at "mine:om") ⟨eX, eY, fun a ha z hz => by
              rcases mx a ha with q | q
              · exact t.a a q z (.tail _ (dx z hz))
              · rw [q]; exact gx z hz, fun b hb z hz => by
              rcases my b hb with q | q
              · exact t.b b q z (.tail _ (dy z hz))
              · rw [q]; exact gy z hz, fun b hb z hz => by
              rcases my b hb with q | q
              · exact t.c b q z (.tail _ (dx z hz))
              · rw [q]; exact gx z hz, fun a ha z hz => by
              rcases mx a ha with q | q
              · exact t.d a q z (.tail _ (dy z hz))
              · rw [q]; exact gy z hz⟩]
          have e1 : al Y (Y.getLastD "") sx (x :: xs) = al Y (Y.getLastD "") (sx ++ x :: rx) xs' := by
            rw [ex]
            exact al_skip (x := x) (.inl yX) (x :: rx) sx xs' (fun z hz => by rcases List.mem_cons.mp hz with q | q; exact q; exact qx z q) (.inl yX)
          have e2 : al X (X.getLastD "") sy (x :: ys) = al X (X.getLastD "") (sy ++ x :: ry) ys' := by
            rw [ey]
            exact al_skip (x := x) (.inl xX) (x :: ry) sy ys' (fun z hz => by rcases List.mem_cons.mp hz with q | q; exact q; exact qy z q) (.inl xX)
          rw [e1, e2]
theorem sld_alone {X Y : List Str} (hX : Sor X) (hY : Sor Y) (nX : X ≠ []) (nY : Y ≠ []) : sld X Y = (aloneL X Y, aloneL Y X) := by
  rw [alone_al, alone_al]
  exact sld_al hX hY nX nY _ [] X [] Y (Nat.le_refl _) ⟨rfl, rfl, (fun _ h => nomatch h), (fun _ h => nomatch h), (fun _ h => nomatch h), (fun _ h => nomatch h)⟩
theorem sld_filter {X Y : List Str} (hX : Sor X) (hY : Sor Y) (dX : X.Nodup) (dY : Y.Nodup) (nX : X ≠ []) : sld X Y = (X.filter fun x => !decide (x ∈ Y), Y.filter fun x => !decide (x ∈ X)) := by
  by_cases nY : Y = []
  · subst nY
    rw [sld_nil_right]
    congr 1
    · exact (List.filter_eq_self.mpr fun x _ => by simp).symm
  · rw [sld_al hX hY nX nY _ [] X [] Y (Nat.le_refl _) ⟨rfl, rfl, (fun _ h => nomatch h), (fun _ h => nomatch h), (fun _ h => nomatch h), (fun _ h => nomatch h)⟩]
    rw [al_nodup X [] dX (by simp), al_nodup Y [] dY (by simp)]
end Mine
end
section
open PySem PySem.Spec PySem.Calls PyProof.Rows PySem.W PySem.Builtin PySem.Builtin.Str
namespace Mine
theorem addOne_mem (acc : List Str) (k v : Str) : v ∈ addOne acc k ↔ v ∈ acc ∨ v = k := by
  unfold addOne
  split
  · rename_i h
    constructor
    · exact .inl
    · rintro (q | q)
      · exact q
      · subst q; simpa using h
  · simp
theorem addOne_nodup {acc : List Str} (k : Str) (h : acc.Nodup) : (addOne acc k).Nodup := by
  unfold addOne
  split
  · exact h
  · rename_i hk
    rw [List.nodup_append]
    refine ⟨h, by simp, fun a ha b hb => ?_⟩
    rw [List.mem_singleton] at hb
    subst hb
    intro q
    subst q
    exact hk (by simpa using ha)
theorem fold_mem (v : Str) : ∀ (xs acc : List Str), v ∈ xs.foldl addOne acc ↔ v ∈ acc ∨ v ∈ xs
  | [], acc => by simp
  | x :: xs, acc => by
    rw [List.foldl_cons, fold_mem v xs, addOne_mem, List.mem_cons]
    constructor
    · rintro ((h | h) | h) <;> simp [h]
    · rintro (h | h | h) <;> simp [h]
theorem fold_nodup : ∀ (xs acc : List Str), acc.Nodup → (xs.foldl addOne acc).Nodup
  | [], acc, h => h
  | x :: xs, acc, h => fold_nodup xs _ (addOne_nodup x h)
theorem mem_dedup' {v : Str} {xs : List Str} : v ∈ dedup xs ↔ v ∈ xs := by unfold dedup; rw [fold_mem]; simp
theorem dedup_nodup (xs : List Str) : (dedup xs).Nodup := fold_nodup xs [] (by simp)
theorem nodup_le {α : Type} [BEq α] [LawfulBEq α] : ∀ (l U : List α), l.Nodup → (∀ x ∈ l, x ∈ U) → l.length ≤ U.length
  | [], U, _, _ => Nat.zero_le _
  | x :: l, U, hn, hs => by
    have hn' := List.nodup_cons.mp hn
    have hx := hs x (.head _)
    have ih := nodup_le l (U.erase x) hn'.2 fun y hy => (List.mem_erase_of_ne (a := y) (b := x) (fun q => hn'.1 (by rw [← q]; exact hy))).mpr (hs y (.tail _ hy))
    rw [List.length_erase_of_mem hx] at ih
    have : 0 < U.length := List.length_pos_of_mem hx
    simp only [List.length_cons]; walk_at "mine:om"
theorem mem_rests {W others : List Str} {s : Str} : s ∈ restsOf W others ↔ ∃ w ∈ W, ∃ o ∈ others, s ∈ rest2 w o := by
  simp [restsOf, List.mem_flatMap]
inductive Rch (W : List Str) : Str → Prop
  | base (s : Str) (h : s ∈ restsOf W W) (hn : s ≠ "") : Rch W s
  | step (t s : Str) (h : Rch W t) (hs : s ∈ restsOf W [t]) : Rch W s
structure Univ (W U : List Str) : Prop where
  sub : ∀ w ∈ W, w ∈ U
  clo : ∀ w ∈ W, ∀ o ∈ U, ∀ s ∈ rest2 w o, s ∈ U
  len : U.length ≤ 40
  wl : W.length ≤ 40
  ok : ∀ x ∈ U, okS x = true ∧ x.length ≤ 1000
theorem rests_ex {W U others : List Str} (u : Univ W U) (ho : ∀ o ∈ others, o ∈ U) (hn : others.length ≤ 40) : ∃ ys : List Str, RestsIs W others ys ∧ Sor ys ∧ ys.Nodup ∧ (∀ s, s ∈ ys ↔ s ∈ restsOf W others) ∧ ∀ s ∈ ys, s ∈ U := by
  obtain ⟨ys, h1, h2, h3⟩ := sort_ex (dedup (restsOf W others))
  have hm : ∀ s, s ∈ ys ↔ s ∈ restsOf W others := fun s => by rw [h1.mem_iff, mem_dedup']
  have hU : ∀ s ∈ ys, s ∈ U := fun s hs => by
    obtain ⟨w, hw, o, ho', q⟩ := mem_rests.mp ((hm s).mp hs)
    exact u.clo w hw o (ho o ho') s q
  have hd : ys.Nodup := h1.nodup_iff.mpr (dedup_nodup _)
  have hl := nodup_le ys U hd hU
  have ul := u.len
  refine ⟨ys, ⟨⟨fun x hx => u.ok x (ho x hx), hn⟩, ?_, h3, ⟨fun x hx => (u.ok x (hU x hx)).1, by walk_at "mine:om"⟩⟩, h2, hd, hm, hU⟩
  rw [← h1.length_eq]; walk_at "mine:om"
structure Inv (W U fresh seen : List Str) : Prop where
  sf : Sor fresh
  ss : Sor seen
  nf : fresh.Nodup
  ns : seen.Nodup
  uf : ∀ s ∈ fresh, s ∈ U
  us : ∀ s ∈ seen, s ∈ U
  rf : ∀ s ∈ fresh, Rch W s
  rs : ∀ s ∈ seen, Rch W s
  base : ∀ s ∈ restsOf W W, s ≠ "" → s ∈ seen ∨ s ∈ fresh
  clo : ∀ t ∈ seen, ∀ s ∈ restsOf W [t], s ∈ seen ∨ s ∈ fresh
theorem rounds_go {W U : List Str} (u : Univ W U) : ∀ (m : Nat) (fresh seen : List Str), Inv W U fresh seen → 2 * (U.length - seen.length) + (if fresh = [] then 0 else 1) ≤ m →
    ∃ n r, RRun (RestsIs W) n fresh seen r ∧ SetOk r ∧ (("" : Str) ∈ r ↔ Rch W "") := by
  intro m
  induction m with
  | zero =>
    intro fresh seen I hm
    have hf : fresh = [] := by
      by_cases q : fresh = []
      · exact q
      · rw [if_neg q] at hm; walk_at "mine:om"
    exact fin fresh seen I (.inl hf)
  | succ m ih =>
    intro fresh seen I hm
    by_cases hdone : fresh = [] ∨ ("" : Str) ∈ seen
    · exact fin fresh seen I hdone
    · simp only [not_or] at hdone
      obtain ⟨hf, hs⟩ := hdone
      rw [if_neg hf] at hm
      generalize hnew : (fresh.filter fun x => !decide (x ∈ seen)) = new
      have mnew : ∀ s, s ∈ new ↔ s ∈ fresh ∧ s ∉ seen := fun s => by rw [← hnew]; simp
      have nnew : new.Nodup := by rw [← hnew]; exact I.nf.sublist List.filter_sublist
      have unew : ∀ s ∈ new, s ∈ U := fun s hs => I.uf s ((mnew s).mp hs).1
      have lnew := nodup_le new U nnew unew
      have ul := u.len
      obtain ⟨fresh', g1, g2, g3, g4, g5⟩ := rests_ex u unew (by walk_at "mine:om")
      obtain ⟨seen', s1, s2, s3⟩ := sort_ex (seen ++ new)
      have nd : (seen ++ new).Nodup := by
        rw [List.nodup_append]
        refine ⟨I.ns, nnew, fun a ha b hb q => ?_⟩
        subst q
        exact ((mnew a).mp hb).2 ha
      have uall : ∀ s ∈ seen ++ new, s ∈ U := fun s hs => by
        rcases List.mem_append.mp hs with q | q
        · exact I.us s q
        · exact unew s q
      have lall := nodup_le _ U nd uall
      have ms : ∀ s, s ∈ seen' ↔ s ∈ seen ∨ s ∈ new := fun s => by rw [s1.mem_iff, List.mem_append]
      have old : ∀ s, s ∈ seen ∨ s ∈ fresh → s ∈ seen' := fun s h => (ms s).mpr (by
        by_cases q : s ∈ seen
        · exact .inl q
        · exact .inr ((mnew s).mpr ⟨h.resolve_left q, q⟩))
      have I' : Inv W U fresh' seen' := {
        sf := g2
        ss := s2
        nf := g3
        ns := s1.nodup_iff.mpr nd
        uf := g5
        us := fun s hs => uall s (s1.mem_iff.mp hs)
        rf := fun s hs => by
          obtain ⟨w, hw, o, ho, q⟩ := mem_rests.mp ((g4 s).mp hs)
          exact .step o s (I.rf o ((mnew o).mp ho).1) (mem_rests.mpr ⟨w, hw, o, .head _, q⟩)
        rs := fun s hs => by
          rcases (ms s).mp hs with q | q
          · exact I.rs s q
          · exact I.rf s ((mnew s).mp q).1
        base := fun s hs hn => .inl (old s (I.base s hs hn))
        clo := fun t ht s hs => by
          rcases (ms t).mp ht with q | q
          · exact .inl (old s (I.clo t q s hs))
          · obtain ⟨w, hw, o, ho, z⟩ := mem_rests.mp hs
            rw [List.mem_singleton] at ho
            subst ho
            exact .inr ((g4 s).mpr (mem_rests.mpr ⟨w, hw, o, q, z⟩)) }
      have hlen : seen'.length = seen.length + new.length := by rw [s1.length_eq, List.length_append]
      have hme : 2 * (U.length - seen'.length) + (if fresh' = [] then 0 else 1) ≤ m := by
        cases hz : new with
        | nil =>
          have e : fresh' = [] := List.eq_nil_iff_forall_not_mem.mpr fun s hs => by
            obtain ⟨w, hw, o, ho, z⟩ := mem_rests.mp ((g4 s).mp hs)
            rw [hz] at ho; cases ho
          rw [if_pos e, hlen, hz]
          simp only [List.length_nil]; walk_at "mine:om"
        | cons y t =>
          rw [List.length_append] at lall
          rw [hz] at hlen lall
          simp only [List.length_cons] at hlen lall
          rw [hlen]
          split <;> walk_at "mine:om"
      obtain ⟨n, r, q1, q2, q3⟩ := ih fresh' seen' I' hme
      refine ⟨n + 1, r, .step hf hs ?_ ?_ ?_ q1, q2, q3⟩
      · exact sld_filter I.sf I.ss I.nf I.ns hf
      · rw [hnew]
        refine ⟨?_, s3, s1⟩
        rw [List.length_append] at lall ⊢; walk_at "mine:om"
      · rw [hnew]; exact g1
where
  fin (fresh seen : List Str) (I : Inv W U fresh seen) (h : fresh = [] ∨ ("" : Str) ∈ seen) : ∃ n r, RRun (RestsIs W) n fresh seen r ∧ SetOk r ∧ (("" : Str) ∈ r ↔ Rch W "") := by
    have ul := u.len
    have ls := nodup_le seen U I.ns I.us
    refine ⟨0, seen, .done h, ⟨fun x hx => (u.ok x (I.us x hx)).1, by walk_at "mine:om"⟩, fun q => I.rs _ q, fun q => ?_⟩
    rcases h with h | h
    · subst h
      have all : ∀ s, Rch W s → s ∈ seen := fun s hs => by
        induction hs with
        | base s h hn => exact (I.base s h hn).resolve_right (by simp)
        | step t s ht hs ih => exact (I.clo t ih s hs).resolve_right (by simp)
      exact all _ q
    · exact h
theorem rounds_ex {W U : List Str} (u : Univ W U) : ∃ all0 n r, RestsIs W W all0 ∧ RRun (RestsIs W) n (all0.filter fun x : Str => !decide (x = ("" : Str))) [] r ∧ SetOk r ∧ (("" : Str) ∈ r ↔ Rch W "") := by
  obtain ⟨all0, g1, g2, g3, g4, g5⟩ := rests_ex u u.sub u.wl
  have hm : ∀ s, s ∈ (all0.filter fun x : Str => !decide (x = ("" : Str))) ↔ s ∈ restsOf W W ∧ s ≠ "" := fun s => by rw [List.mem_filter, g4]; simp
  obtain ⟨n, r, q1, q2, q3⟩ := rounds_go u _ (all0.filter fun x : Str => !decide (x = ("" : Str))) [] {
    sf := List.Pairwise.sublist List.filter_sublist g2
    ss := List.Pairwise.nil
    nf := g3.sublist List.filter_sublist
    ns := by simp
    uf := fun s hs => g5 s (List.mem_filter.mp hs).1
    us := fun _ h => nomatch h
    rf := fun s hs => .base s ((hm s).mp hs).1 ((hm s).mp hs).2
    rs := fun _ h => nomatch h
    base := fun s hs hn => .inr ((hm s).mpr ⟨hs, hn⟩)
    clo := fun _ h => nomatch h } (Nat.le_refl _)
  exact ⟨all0, n, r, g1, q1, q2, q3⟩
end Mine
end
section
namespace Mine
noncomputable abbrev BL := List Bool
noncomputable def suf : BL → List BL
  | [] => [[]]
  | b :: r => (b :: r) :: suf r
theorem suf_self (u : BL) : u ∈ suf u := by cases u <;> exact .head _
theorem suf_append : ∀ (u s : BL), s ∈ suf (u ++ s)
  | [], s => suf_self s
  | b :: u, s => .tail _ (suf_append u s)
theorem suf_iff {s : BL} : ∀ {v : BL}, s ∈ suf v → ∃ u, v = u ++ s
  | [], h => by
    simp only [suf, List.mem_singleton] at h
    subst h; exact ⟨[], rfl⟩
  | b :: r, h => by
    rcases List.mem_cons.mp h with q | q
    · subst q; exact ⟨[], rfl⟩
    · obtain ⟨u, e⟩ := suf_iff q
      exact ⟨b :: u, by rw [e]; rfl⟩
theorem suf_trans {s o v : BL} (h1 : s ∈ suf o) (h2 : o ∈ suf v) : s ∈ suf v := by
  obtain ⟨a, rfl⟩ := suf_iff h1
  obtain ⟨b, rfl⟩ := suf_iff h2
  rw [← List.append_assoc]
  exact suf_append _ _
section
variable (As : List BL)
inductive RchA : BL → Prop
  | base (u v s : BL) (hu : u ∈ As) (hv : v ∈ As) (h : u ++ s = v ∨ v ++ s = u) (hn : s ≠ []) : RchA s
  | step (t u s : BL) (ht : RchA t) (hu : u ∈ As) (h : u ++ s = t ∨ t ++ s = u) : RchA s
inductive PR : BL → BL → Prop
  | start (j k : Nat) (u v : BL) (h : j < k) (hj : As[j]? = some u) (hk : As[k]? = some v) : PR u v
  | left (x : Bool) (q u : BL) (h : PR [x] (x :: q)) (hq : q ≠ []) (hu : u ∈ As) : PR u q
  | right (x : Bool) (p u : BL) (h : PR (x :: p) [x]) (hp : p ≠ []) (hu : u ∈ As) : PR p u
  | both (x : Bool) (p q : BL) (h : PR (x :: p) (x :: q)) (hp : p ≠ []) (hq : q ≠ []) : PR p q
noncomputable def Goal : Prop := ∃ x, PR As [x] [x]
variable {As}
theorem PR.run : ∀ (u p q : BL), PR As (u ++ p) (u ++ q) → p ≠ [] → q ≠ [] → PR As p q
  | [], p, q, h, _, _ => h
  | x :: u, p, q, h, hp, hq => PR.run u p q (.both x _ _ h (by simp [hp]) (by simp [hq])) hp hq
theorem snoc_of {u : BL} (h : u ≠ []) : ∃ v x, u = v ++ [x] := ⟨u.dropLast, u.getLast h, (List.dropLast_concat_getLast h).symm⟩
theorem PR.runL {u q : BL} (h : PR As u (u ++ q)) (hu : u ≠ []) (hq : q ≠ []) : ∀ w ∈ As, PR As w q := fun w hw => by
  obtain ⟨v, x, rfl⟩ := snoc_of hu
  rw [List.append_assoc] at h
  exact .left x q w (PR.run v [x] ([x] ++ q) h (by simp) (by simp)) hq hw
theorem PR.runR {u p : BL} (h : PR As (u ++ p) u) (hu : u ≠ []) (hp : p ≠ []) : ∀ w ∈ As, PR As p w := fun w hw => by
  obtain ⟨v, x, rfl⟩ := snoc_of hu
  rw [List.append_assoc] at h
  exact .right x p w (PR.run v ([x] ++ p) [x] h (by simp) (by simp)) hp hw
theorem PR.runG {u : BL} (h : PR As u u) (hu : u ≠ []) : Goal As := by
  obtain ⟨v, x, rfl⟩ := snoc_of hu
  exact ⟨x, PR.run v [x] [x] h (by simp) (by simp)⟩
theorem goal_of_rch (hne : ∀ u ∈ As, u ≠ []) {s : BL} (h : RchA As s) : Goal As ∨ (s ≠ [] ∧ ((∀ w ∈ As, PR As w s) ∨ (∀ w ∈ As, PR As s w))) := by
  have pair : ∀ u v s : BL, u ∈ As → v ∈ As → u ++ s = v → s ≠ [] → (∀ w ∈ As, PR As w s) ∨ (∀ w ∈ As, PR As s w) := fun u v s hu hv e hn => by
    obtain ⟨j, hj⟩ := List.mem_iff_getElem?.mp hu
    obtain ⟨k, hk⟩ := List.mem_iff_getElem?.mp hv
    rcases Nat.lt_trichotomy j k with q | q | q
    · left
      have := PR.start (As := As) j k u v q hj hk
      rw [← e] at this
      exact this.runL (hne u hu) hn
    · subst q
      rw [hj] at hk
      have := Option.some.inj hk
      rw [this] at e
      exact absurd (List.append_right_eq_self.mp e) hn
    · right
      have := PR.start (As := As) k j v u q hk hj
      rw [← e] at this
      exact this.runR (hne u hu) hn
  induction h with
  | base u v s hu hv h hn =>
    right
    refine ⟨hn, ?_⟩
    rcases h with h | h
    · exact pair u v s hu hv h hn
    · exact pair v u s hv hu h hn
  | step t u s ht hu h ih =>
    rcases ih with g | ⟨tn, ih⟩
    · exact .inl g
    by_cases hs : s = []
    · left
      subst hs
      rw [List.append_nil, List.append_nil] at h
      have e : u = t := h.elim _root_.id Eq.symm
      subst e
      rcases ih with ih | ih
      · exact (ih u hu).runG tn
      · exact (ih u hu).runG tn
    · right
      refine ⟨hs, ?_⟩
      rcases ih with ih | ih
      · rcases h with h | h
        · have := ih u hu
          rw [← h] at this
          exact .inl (this.runL (hne u hu) hs)
        · have := ih u hu
          rw [← h] at this
          exact .inr (this.runR tn hs)
      · rcases h with h | h
        · have := ih u hu
          rw [← h] at this
          exact .inr (this.runR (hne u hu) hs)
        · have := ih u hu
          rw [← h] at this
          exact .inl (this.runL tn hs)
noncomputable def StP (As : List BL) (a b : BL) : Prop := (∃ j k : Nat, j < k ∧ As[j]? = some a ∧ As[k]? = some b) ∨ (a ∈ As ∧ RchA As b) ∨ (RchA As a ∧ b ∈ As)
theorem StP.restR {u q : BL} (h : StP As u (u ++ q)) (hq : q ≠ []) : RchA As q := by
  rcases h with ⟨j, k, _, hj, hk⟩ | ⟨h1, h2⟩ | ⟨h1, h2⟩
  · exact .base u (u ++ q) q (List.mem_of_getElem? hj) (List.mem_of_getElem? hk) (.inl rfl) hq
  · exact .step (u ++ q) u q h2 h1 (.inl rfl)
  · exact .step u (u ++ q) q h1 h2 (.inr rfl)
theorem StP.restL {u p : BL} (h : StP As (u ++ p) u) (hp : p ≠ []) : RchA As p := by
  rcases h with ⟨j, k, _, hj, hk⟩ | ⟨h1, h2⟩ | ⟨h1, h2⟩
  · exact .base (u ++ p) u p (List.mem_of_getElem? hj) (List.mem_of_getElem? hk) (.inr rfl) hp
  · exact .step u (u ++ p) p h2 h1 (.inr rfl)
  · exact .step (u ++ p) u p h1 h2 (.inl rfl)
theorem PR.stp {p q : BL} (h : PR As p q) : ∃ u, StP As (u ++ p) (u ++ q) := by
  induction h with
  | start j k u v h hj hk => exact ⟨[], Or.inl ⟨j, k, h, hj, hk⟩⟩
  | left x q u h hq hu ih =>
    obtain ⟨v, s⟩ := ih
    have s' : StP As (v ++ [x]) ((v ++ [x]) ++ q) := by rw [List.append_assoc]; exact s
    exact ⟨[], Or.inr (Or.inl ⟨hu, s'.restR hq⟩)⟩
  | right x p u h hp hu ih =>
    obtain ⟨v, s⟩ := ih
    have s' : StP As ((v ++ [x]) ++ p) (v ++ [x]) := by rw [List.append_assoc]; exact s
    exact ⟨[], Or.inr (Or.inr ⟨s'.restL hp, hu⟩)⟩
  | both x p q h hp hq ih =>
    obtain ⟨v, s⟩ := ih
    exact ⟨v ++ [x], by rw [List.append_assoc, List.append_assoc]; exact s⟩
theorem rch_iff_goal (hne : ∀ u ∈ As, u ≠ []) (hnd : As.Nodup) : RchA As [] ↔ Goal As := by
  constructor
  · intro h
    rcases goal_of_rch hne h with g | ⟨q, _⟩
    · exact g
    · exact absurd rfl q
  · rintro ⟨x, h⟩
    obtain ⟨u, s⟩ := h.stp
    rcases s with ⟨j, k, hjk, hj, hk⟩ | ⟨h1, h2⟩ | ⟨h1, h2⟩
    · exfalso
      obtain ⟨lj, ej⟩ := List.getElem?_eq_some_iff.mp hj
      obtain ⟨lk, ek⟩ := List.getElem?_eq_some_iff.mp hk
      exact List.pairwise_iff_getElem.mp hnd j k lj lk hjk (ej.trans ek.symm)
    · exact .step _ _ [] h2 h1 (.inl (by simp))
    · exact .step _ _ [] h1 h2 (.inl (by simp))
theorem PR.nonempty (hne : ∀ u ∈ As, u ≠ []) {p q : BL} (h : PR As p q) : p ≠ [] ∧ q ≠ [] := by
  induction h with
  | start j k u v h hj hk => exact ⟨hne u (List.mem_of_getElem? hj), hne v (List.mem_of_getElem? hk)⟩
  | left x q u h hq hu ih => exact ⟨hne u hu, hq⟩
  | right x p u h hp hu ih => exact ⟨hp, hne u hu⟩
  | both x p q h hp hq ih => exact ⟨hp, hq⟩
noncomputable def sufs (As : List BL) : List BL := As.flatMap suf
theorem mem_sufs {s : BL} : s ∈ sufs As ↔ ∃ u ∈ As, s ∈ suf u := by simp [sufs, List.mem_flatMap]
theorem sufs_tail {x : Bool} {p : BL} (h : (x :: p) ∈ sufs As) : p ∈ sufs As := by
  obtain ⟨u, hu, hs⟩ := mem_sufs.mp h
  exact mem_sufs.mpr ⟨u, hu, suf_trans (o := x :: p) (List.mem_cons_of_mem _ (suf_self p)) hs⟩
theorem sufs_self {u : BL} (h : u ∈ As) : u ∈ sufs As := mem_sufs.mpr ⟨u, h, suf_self u⟩
theorem PR.sufs {p q : BL} (h : PR As p q) : p ∈ Mine.sufs As ∧ q ∈ Mine.sufs As := by
  induction h with
  | start j k u v h hj hk => exact ⟨sufs_self (List.mem_of_getElem? hj), sufs_self (List.mem_of_getElem? hk)⟩
  | left x q u h hq hu ih => exact ⟨sufs_self hu, sufs_tail ih.2⟩
  | right x p u h hp hu ih => exact ⟨sufs_tail ih.1, sufs_self hu⟩
  | both x p q h hp hq ih => exact ⟨sufs_tail ih.1, sufs_tail ih.2⟩
end
end Mine
end
section
open PySem PySem.Spec PySem.Calls PyProof.Rows PySem.W PySem.Builtin PySem.Builtin.Str
namespace Mine
theorem spell_list (p : BL) : (spell p).cps.toList = spellL p := by simp [spell, spellL]
theorem spellL_inj : ∀ {p q : BL}, spellL p = spellL q → p = q
  | [], [], _ => rfl
  | [], _ :: _, h => by simp [spellL] at h
  | _ :: _, [], h => by simp [spellL] at h
  | a :: p, b :: q, h => by
    simp only [spellL, List.map_cons, List.cons.injEq] at h
    have e : a = b := by cases a <;> cases b <;> simp_all
    rw [e, spellL_inj (p := p) (q := q) h.2]
theorem spell_inj {p q : BL} (h : spell p = spell q) : p = q := spellL_inj (by rw [← spell_list, h, spell_list])
theorem spell_length (p : BL) : (spell p).length = p.length := by rw [str_len, spell_list]; simp [spellL]
theorem spell_nil (p : BL) : (spell p == ("" : Str)) = decide (p = []) := by
  rw [str_nil, spell_length]
  cases p <;> simp
theorem tl_spell (b : Bool) (p : BL) : tlS (spell (b :: p)) = spell p := by
  have h := tlS_list (x := spell (b :: p)) (by rw [spell_length]; simp)
  rw [spell_list] at h
  rw [← toS_of (tlS _), h, ← toS_of (spell p), spell_list]
  rfl
theorem hd_spell (b : Bool) (p : BL) : hdS (spell (b :: p)) = oneS (if b then 97 else 46) := by
  unfold hdS Txt.item Txt.charAt
  have hl : (spell (b :: p)).length = p.length + 1 := by rw [spell_length]; rfl
  have h0 : seqIndex? 0 (spell (b :: p)).length = some 0 := by
    rw [hl]; unfold seqIndex?
    simp
  rw [h0]
  simp [spell]
theorem hd_eq (a b : Bool) (p q : BL) : (hdS (spell (a :: p)) == hdS (spell (b :: q))) = decide (a = b) := by
  rw [hd_spell, hd_spell]
  cases a <;> cases b <;> decide +kernel
noncomputable def cat' (As : List BL) (is : List Nat) : BL := (is.map fun k => As.getD k []).flatten
theorem cat_snoc' (As : List BL) (is : List Nat) (k : Nat) : cat' As (is ++ [k]) = cat' As is ++ As.getD k [] := by simp [cat']
noncomputable def cnt1 (seen : List (Str × Str)) : Nat := (seen.filter fun a => tlS a.1 == "").length
noncomputable def cnt2 (seen : List (Str × Str)) : Nat := (seen.filter fun a => !(tlS a.1 == "") && tlS a.2 == "").length
theorem cnt1_snoc (seen : List (Str × Str)) (a : Str × Str) : cnt1 (seen ++ [a]) = cnt1 seen + if (tlS a.1 == "") = true then 1 else 0 := by
  unfold cnt1
  rw [List.filter_append, List.length_append, List.filter_cons, List.filter_nil]
  split <;> simp
theorem cnt2_snoc (seen : List (Str × Str)) (a : Str × Str) : cnt2 (seen ++ [a]) = cnt2 seen + if (!(tlS a.1 == "") && tlS a.2 == "") = true then 1 else 0 := by
  unfold cnt2
  rw [List.filter_append, List.length_append, List.filter_cons, List.filter_nil]
  split <;> simp
structure WInv (As : List BL) (seen : List (Str × Str)) (w : Way) (p q : BL) : Prop where
  o1 : w.one = spell p
  o2 : w.other = spell q
  pr : PR As p q
  m : ∃ M, cat' As w.first = M ++ p ∧ cat' As w.second = M ++ q
  h : ∃ j k f g, w.first = j :: f ∧ w.second = k :: g ∧ j < k
  i1 : ∀ i ∈ w.first, i < As.length
  i2 : ∀ i ∈ w.second, i < As.length
  l1 : w.first.length ≤ 1 + cnt1 seen
  l2 : w.second.length ≤ 1 + cnt2 seen
structure SInv (As : List BL) (ways : List Way) (a : Str × Str) (x : Bool) (p q : BL) : Prop where
  a : a = (spell (x :: p), spell (x :: q))
  pr : PR As (x :: p) (x :: q)
  ng : ¬ (p = [] ∧ q = [])
  e1 : p = [] → ∀ u ∈ As, ∃ w ∈ ways, w.one = spell u ∧ w.other = spell q
  e2 : p ≠ [] → q = [] → ∀ u ∈ As, ∃ w ∈ ways, w.one = spell p ∧ w.other = spell u
  e3 : p ≠ [] → q ≠ [] → ∃ w ∈ ways, w.one = spell p ∧ w.other = spell q
structure HInv (As : List BL) (s : HSt) : Prop where
  ways : ∀ w ∈ s.ways, ∃ p q, WInv As s.seen w p q
  starts : ∀ (j k : Nat) u v, j < k → As[j]? = some u → As[k]? = some v → ∃ w ∈ s.ways, w.one = spell u ∧ w.other = spell v
  done : ∀ i w, i < s.at_ → s.ways[i]? = some w → (hdS w.one == hdS w.other) = true → (w.one, w.other) ∈ s.seen
  seen : ∀ a ∈ s.seen, ∃ x p q, SInv As s.ways a x p q
  nd : s.seen.Nodup
  le : s.at_ ≤ s.ways.length
theorem WInv.mono {As : List BL} {seen seen' : List (Str × Str)} {w : Way} {p q : BL} (h : WInv As seen w p q) (h1 : cnt1 seen ≤ cnt1 seen') (h2 : cnt2 seen ≤ cnt2 seen') : WInv As seen' w p q :=
  { h with l1 := by have := h.l1; walk_at "mine:om", l2 := by have := h.l2; walk_at "mine:om" }
theorem SInv.mono {As : List BL} {ways ways' : List Way} {a : Str × Str} {x : Bool} {p q : BL} (h : SInv As ways a x p q) (hs : ∀ w ∈ ways, w ∈ ways') : SInv As ways' a x p q :=
  { h with
    e1 := fun a u hu => let ⟨w, b, c⟩ := h.e1 a u hu; ⟨w, hs w b, c⟩
    e2 := fun a b u hu => let ⟨w, c, d⟩ := h.e2 a b u hu; ⟨w, hs w c, d⟩
    e3 := fun a b => let ⟨w, c, d⟩ := h.e3 a b; ⟨w, hs w c, d⟩ }
theorem HInv.all {As : List BL} {s : HSt} (I : HInv As s) (hat : s.at_ = s.ways.length) {p q : BL} (h : PR As p q) : ∃ w ∈ s.ways, w.one = spell p ∧ w.other = spell q := by
  have key : ∀ (x : Bool) (p q : BL), (∃ w ∈ s.ways, w.one = spell (x :: p) ∧ w.other = spell (x :: q)) → SInv As s.ways (spell (x :: p), spell (x :: q)) x p q := fun x p q ⟨w, hw, h1, h2⟩ => by
    obtain ⟨i, hi⟩ := List.mem_iff_getElem?.mp hw
    have hlt := (List.getElem?_eq_some_iff.mp hi).1
    have := I.done i w (by walk_at "mine:om") hi (by rw [h1, h2, hd_eq]; simp)
    rw [h1, h2] at this
    obtain ⟨x', p', q', S⟩ := I.seen _ this
    have e := S.a
    simp only [Prod.mk.injEq] at e
    have e1 := spell_inj e.1
    have e2 := spell_inj e.2
    injection e1 with a1 a2
    injection e2 with b1 b2
    subst a1; subst a2; subst b2
    exact S
  induction h with
  | start j k u v h hj hk => exact I.starts j k u v h hj hk
  | left x q u h hq hu ih => exact (key x [] q ih).e1 rfl u hu
  | right x p u h hp hu ih => exact (key x p [] ih).e2 hp rfl u hu
  | both x p q h hp hq ih => exact (key x p q ih).e3 hp hq
theorem HInv.nogoal {As : List BL} {s : HSt} (I : HInv As s) (hat : s.at_ = s.ways.length) : ¬ Goal As := by
  rintro ⟨x, h⟩
  obtain ⟨w, hw, h1, h2⟩ := I.all hat h
  obtain ⟨i, hi⟩ := List.mem_iff_getElem?.mp hw
  have hlt := (List.getElem?_eq_some_iff.mp hi).1
  have := I.done i w (by walk_at "mine:om") hi (by rw [h1, h2, hd_eq]; simp)
  rw [h1, h2] at this
  obtain ⟨x', p', q', S⟩ := I.seen _ this
  have e := S.a
  simp only [Prod.mk.injEq] at e
  have e1 := spell_inj e.1
  have e2 := spell_inj e.2
  injection e1 with a1 a2
  injection e2 with b1 b2
  exact S.ng ⟨a2.symm, b2.symm⟩
theorem getD_spell {As : List BL} {k : Nat} (hk : k < As.length) : (As.map spell).getD k "" = spell (As.getD k []) := by
  rw [List.getD_eq_getElem?_getD, List.getD_eq_getElem?_getD, List.getElem?_map, List.getElem?_eq_getElem hk]; rfl
theorem getD_at {As : List BL} {k : Nat} (hk : k < As.length) : As[k]? = some (As.getD k []) ∧ As.getD k [] ∈ As := by
  rw [List.getD_eq_getElem?_getD, List.getElem?_eq_getElem hk]
  exact ⟨rfl, List.getElem_mem hk⟩
theorem HInv.grow {As : List BL} {s : HSt} {w : Way} {p q : BL} {x : Bool} (hne : ∀ u ∈ As, u ≠ []) (I : HInv As s) (hw : s.ways[s.at_]? = some w) (W : WInv As s.seen w (x :: p) (x :: q)) (hn : (w.one, w.other) ∉ s.seen) (hg : ¬ (p = [] ∧ q = [])) :
    HInv As ⟨s.ways ++ expand (As.map spell) w, s.seen ++ [(w.one, w.other)], s.at_ + 1⟩ := by
  have hlt := (List.getElem?_eq_some_iff.mp hw).1
  have c1 := cnt1_snoc s.seen (w.one, w.other)
  have c2 := cnt2_snoc s.seen (w.one, w.other)
  have t1 : tlS w.one = spell p := by rw [W.o1, tl_spell]
  have t2 : tlS w.other = spell q := by rw [W.o2, tl_spell]
  simp only [t1, t2, spell_nil] at c1 c2
  obtain ⟨M, m1, m2⟩ := W.m
  obtain ⟨j, k0, f, g, hj, hk, hjk⟩ := W.h
  have l1 := W.l1
  have l2 := W.l2
  have mk : ∀ w', (∃ p q, WInv As (s.seen ++ [(w.one, w.other)]) w' p q) → True := fun _ _ => trivial
  have hex : (∀ w' ∈ expand (As.map spell) w, ∃ p q, WInv As (s.seen ++ [(w.one, w.other)]) w' p q) ∧ SInv As (s.ways ++ expand (As.map spell) w) (w.one, w.other) x p q := by
    unfold expand
    rw [t1, t2, spell_nil, spell_nil]
    by_cases hp : p = []
    · subst hp
      have hq : q ≠ [] := fun z => hg ⟨rfl, z⟩
      simp only [decide_true, if_true] at c1 ⊢
      refine ⟨fun w' hw' => ?_, ⟨by rw [W.o1, W.o2], W.pr, hg, fun _ u hu => ?_, fun z => absurd rfl z, fun z => absurd rfl z⟩⟩
      · obtain ⟨k, hk', rfl⟩ := List.mem_map.mp hw'
        rw [List.mem_range, List.length_map] at hk'
        obtain ⟨a1, a2⟩ := getD_at hk'
        refine ⟨As.getD k [], q, getD_spell hk', t2, .left x q _ W.pr hq a2, ⟨M ++ [x], ?_, ?_⟩, ⟨j, k0, f ++ [k], g, ?_, hk, hjk⟩, ?_, W.i2, ?_, ?_⟩
        · show cat' As (w.first ++ [k]) = _
          rw [cat_snoc', m1]
        · show cat' As w.second = _
          rw [m2]; simp
        · show w.first ++ [k] = _
          rw [hj]; rfl
        · intro i hi
          rcases List.mem_append.mp hi with z | z
          · exact W.i1 i z
          · rw [List.mem_singleton] at z; walk_at "mine:om"
        · show (w.first ++ [k]).length ≤ _
          rw [List.length_append, c1]; simp; walk_at "mine:om"
        · show w.second.length ≤ _
          rw [c2]; walk_at "mine:om"
      · obtain ⟨k, hk'⟩ := List.mem_iff_getElem?.mp hu
        have hkl := (List.getElem?_eq_some_iff.mp hk').1
        obtain ⟨a1, a2⟩ := getD_at hkl
        rw [hk'] at a1
        refine ⟨expand1 (As.map spell) w k, List.mem_append_right _ (List.mem_map.mpr ⟨k, by simpa using hkl, rfl⟩), ?_, t2⟩
        show (As.map spell).getD k "" = _
        rw [getD_spell hkl, ← Option.some.inj a1]
    · have dp : decide (p = []) = false := by simp [hp]
      rw [dp] at c1 c2 ⊢
      simp only [Bool.false_eq_true, if_false, Bool.not_false, Bool.true_and] at c1 c2 ⊢
      by_cases hq : q = []
      · subst hq
        simp only [decide_true, if_true] at c2 ⊢
        refine ⟨fun w' hw' => ?_, ⟨by rw [W.o1, W.o2], W.pr, hg, fun z => absurd z hp, fun _ _ u hu => ?_, fun _ z => absurd rfl z⟩⟩
        · obtain ⟨k, hk', rfl⟩ := List.mem_map.mp hw'
          rw [List.mem_range, List.length_map] at hk'
          obtain ⟨a1, a2⟩ := getD_at hk'
          refine ⟨p, As.getD k [], t1, getD_spell hk', .right x p _ W.pr hp a2, ⟨M ++ [x], ?_, ?_⟩, ⟨j, k0, f, g ++ [k], hj, ?_, hjk⟩, W.i1, ?_, ?_, ?_⟩
          · show cat' As w.first = _
            rw [m1]; simp
          · show cat' As (w.second ++ [k]) = _
            rw [cat_snoc', m2]
          · show w.second ++ [k] = _
            rw [hk]; rfl
          · intro i hi
            rcases List.mem_append.mp hi with z | z
            · exact W.i2 i z
            · rw [List.mem_singleton] at z; walk_at "mine:om"
          · show w.first.length ≤ _
            rw [c1]; walk_at "mine:om"
          · show (w.second ++ [k]).length ≤ _
            rw [List.length_append, c2]; simp; walk_at "mine:om"
        · obtain ⟨k, hk'⟩ := List.mem_iff_getElem?.mp hu
          have hkl := (List.getElem?_eq_some_iff.mp hk').1
          obtain ⟨a1, a2⟩ := getD_at hkl
          rw [hk'] at a1
          refine ⟨expand2 (As.map spell) w k, List.mem_append_right _ (List.mem_map.mpr ⟨k, by simpa using hkl, rfl⟩), t1, ?_⟩
          show (As.map spell).getD k "" = _
          rw [getD_spell hkl, ← Option.some.inj a1]
      · have dq : decide (q = []) = false := by simp [hq]
        rw [dq] at c2 ⊢
        simp only [Bool.false_eq_true, if_false] at c2 ⊢
        refine ⟨fun w' hw' => ?_, ⟨by rw [W.o1, W.o2], W.pr, hg, fun z => absurd z hp, fun _ z => absurd z hq, fun _ _ => ⟨_, List.mem_append_right _ (List.mem_singleton.mpr rfl), rfl, rfl⟩⟩⟩
        rw [List.mem_singleton] at hw'
        subst hw'
        exact ⟨p, q, rfl, rfl, .both x p q W.pr hp hq, ⟨M ++ [x], by show cat' As w.first = _; rw [m1]; simp, by show cat' As w.second = _; rw [m2]; simp⟩, ⟨j, k0, f, g, hj, hk, hjk⟩, W.i1, W.i2, by show w.first.length ≤ _; rw [c1]; walk_at "mine:om", by show w.second.length ≤ _; rw [c2]; walk_at "mine:om"⟩
  refine ⟨fun w' hw' => ?_, fun j k u v h hj hk => ?_, fun i w' hi hw' hh => ?_, fun a ha => ?_, ?_, ?_⟩
  · rcases List.mem_append.mp hw' with z | z
    · obtain ⟨p', q', W'⟩ := I.ways w' z
      exact ⟨p', q', W'.mono (by rw [c1]; walk_at "mine:om") (by rw [c2]; walk_at "mine:om")⟩
    · exact hex.1 w' z
  · obtain ⟨w', hw', e⟩ := I.starts j k u v h hj hk
    exact ⟨w', List.mem_append_left _ hw', e⟩
  · have hi' : i < s.ways.length := by show i < s.ways.length; have : i < s.at_ + 1 := hi; walk_at "mine:om"
    have hw'' : s.ways[i]? = some w' := by
      have : (s.ways ++ expand (As.map spell) w)[i]? = some w' := hw'
      rwa [List.getElem?_append_left hi'] at this
    by_cases z : i < s.at_
    · exact List.mem_append_left _ (I.done i w' z hw'' hh)
    · have e : i = s.at_ := by have : i < s.at_ + 1 := hi; walk_at "mine:om"
      subst e
      rw [hw] at hw''
      cases hw''
      exact List.mem_append_right _ (List.mem_singleton.mpr rfl)
  · rcases List.mem_append.mp ha with z | z
    · obtain ⟨x', p', q', S⟩ := I.seen a z
      exact ⟨x', p', q', S.mono fun w' h => List.mem_append_left _ h⟩
    · rw [List.mem_singleton] at z
      subst z
      exact ⟨x, p, q, hex.2⟩
  · show (s.seen ++ [(w.one, w.other)]).Nodup
    rw [List.nodup_append]
    refine ⟨I.nd, by simp, fun a ha b hb z => ?_⟩
    rw [List.mem_singleton] at hb
    subst hb; subst z
    exact hn ha
  · show s.at_ + 1 ≤ (s.ways ++ _).length
    rw [List.length_append]; walk_at "mine:om"
theorem HInv.skip {As : List BL} {s : HSt} {w : Way} (I : HInv As s) (hw : s.ways[s.at_]? = some w) (hn : (hdS w.one == hdS w.other) = true → (w.one, w.other) ∈ s.seen) : HInv As ⟨s.ways, s.seen, s.at_ + 1⟩ := by
  have hlt := (List.getElem?_eq_some_iff.mp hw).1
  refine ⟨I.ways, I.starts, fun i w' hi hw' hh => ?_, I.seen, I.nd, hlt⟩
  by_cases z : i < s.at_
  · exact I.done i w' z hw' hh
  · have e : i = s.at_ := by have : i < s.at_ + 1 := hi; walk_at "mine:om"
    subst e
    have hw'' : s.ways[s.at_]? = some w' := hw'
    rw [hw] at hw''
    cases hw''
    exact hn hh
end Mine
end
section
open PySem PySem.Spec PySem.Calls PyProof.Rows PySem.W PySem.Builtin PySem.Builtin.Str
namespace Mine
structure AsOk (As : List BL) : Prop where
  len : As.length = 4
  nd : As.Nodup
  mem : ∀ u ∈ As, ∃ w ∈ allWords, u = fin w
noncomputable def F8 : List BL := [[false], [false, false], [false, true, false], [false, false, false], [false, true, true, false], [false, true, false, false], [false, false, true, false], [false, false, false, false]]
theorem suf_dots : ∀ w ∈ allWords, ∀ s ∈ suf (fin w), (s.length = 1 → s = [false]) ∧ (s.head? = some false → s ∈ F8) := by decide
theorem AsOk.ne {As : List BL} (h : AsOk As) : ∀ u ∈ As, u ≠ [] := fun u hu => by
  obtain ⟨w, _, rfl⟩ := h.mem u hu
  simp [fin]
theorem AsOk.dots {As : List BL} (h : AsOk As) {s : BL} (hs : s ∈ sufs As) : (s.length = 1 → s = [false]) ∧ (s.head? = some false → s ∈ F8) := by
  obtain ⟨u, hu, hm⟩ := mem_sufs.mp hs
  obtain ⟨w, hw, rfl⟩ := h.mem u hu
  exact suf_dots w hw s hm
theorem suf_len : ∀ u : BL, (suf u).length = u.length + 1
  | [] => rfl
  | _ :: u => by simp [suf, suf_len u]
theorem fin_len {w : BL} (h : w ∈ allWords) : (fin w).length ≤ 4 := by
  have := all_len3 w h
  simp [fin]; walk_at "mine:om"
theorem AsOk.len4 {As : List BL} (h : AsOk As) : ∀ u ∈ As, u.length ≤ 4 := fun u hu => by
  obtain ⟨w, hw, rfl⟩ := h.mem u hu
  exact fin_len hw
theorem flat_le {α β : Type} (f : α → List β) (n : Nat) : ∀ l : List α, (∀ a ∈ l, (f a).length ≤ n) → (l.flatMap f).length ≤ n * l.length
  | [], _ => by simp
  | a :: l, h => by
    have h1 := h a (.head _)
    have h2 := flat_le f n l fun b hb => h b (.tail _ hb)
    rw [List.flatMap_cons, List.length_append, List.length_cons, Nat.mul_add]; walk_at "mine:om"
theorem AsOk.sufs_len {As : List BL} (h : AsOk As) : (sufs As).length ≤ 20 := by
  have := flat_le suf 5 As fun u hu => by rw [suf_len]; have := h.len4 u hu; walk_at "mine:om"
  rw [h.len] at this
  exact this
theorem HInv.seen_len {As : List BL} (h : AsOk As) {s : HSt} (I : HInv As s) : s.seen.length ≤ 400 := by
  have hl := h.sufs_len
  obtain ⟨U, hU⟩ : ∃ U : List (Str × Str), U = (sufs As).flatMap fun a => (sufs As).map fun b => (spell a, spell b) := ⟨_, rfl⟩
  have h2 := nodup_le s.seen U I.nd fun a ha => by
    obtain ⟨x, p, q, S⟩ := I.seen a ha
    obtain ⟨m1, m2⟩ := S.pr.sufs
    rw [S.a, hU]
    exact List.mem_flatMap.mpr ⟨_, m1, List.mem_map.mpr ⟨_, m2, rfl⟩⟩
  have h3 := flat_le (fun a : BL => (sufs As).map fun b => (spell a, spell b)) 20 (sufs As) fun a _ => by rw [List.length_map]; exact hl
  rw [← hU] at h3
  have := Nat.mul_le_mul_left 20 hl
  walk_at "mine:om"
theorem HInv.cnt1_le {As : List BL} (h : AsOk As) {s : HSt} (I : HInv As s) : cnt1 s.seen ≤ 8 := by
  unfold cnt1
  refine nodup_le _ (F8.map fun q => (spell [false], spell q)) (I.nd.sublist List.filter_sublist) fun a ha => ?_
  obtain ⟨ha1, ha2⟩ := List.mem_filter.mp ha
  obtain ⟨x, p, q, S⟩ := I.seen a ha1
  rw [S.a] at ha2 ⊢
  simp only [tl_spell, spell_nil, decide_eq_true_eq] at ha2
  subst ha2
  obtain ⟨m1, m2⟩ := S.pr.sufs
  have e := (h.dots m1).1 rfl
  injection e with e _
  subst e
  exact List.mem_map.mpr ⟨_, (h.dots m2).2 rfl, rfl⟩
theorem HInv.cnt2_le {As : List BL} (h : AsOk As) {s : HSt} (I : HInv As s) : cnt2 s.seen ≤ 8 := by
  unfold cnt2
  refine nodup_le _ (F8.map fun q => (spell q, spell [false])) (I.nd.sublist List.filter_sublist) fun a ha => ?_
  obtain ⟨ha1, ha2⟩ := List.mem_filter.mp ha
  obtain ⟨x, p, q, S⟩ := I.seen a ha1
  rw [S.a] at ha2 ⊢
  simp only [tl_spell, spell_nil, Bool.and_eq_true, decide_eq_true_eq] at ha2
  have ha3 := ha2.2
  subst ha3
  obtain ⟨m1, m2⟩ := S.pr.sufs
  have e := (h.dots m2).1 rfl
  injection e with e _
  subst e
  exact List.mem_map.mpr ⟨_, (h.dots m1).2 rfl, rfl⟩
structure Res (As : List BL) (w : Way) : Prop where
  goal : Goal As
  m : cat' As w.first = cat' As w.second
  h : ∃ j k f g, w.first = j :: f ∧ w.second = k :: g ∧ j < k
  i1 : ∀ i ∈ w.first, i < As.length
  i2 : ∀ i ∈ w.second, i < As.length
  l1 : w.first.length ≤ 9
  l2 : w.second.length ≤ 9
theorem hands_run {As : List BL} (h : AsOk As) : ∀ (n : Nat) (s : HSt), HInv As s → (s.ways.length - s.at_) + 5 * (400 - s.seen.length) + 1 ≤ n →
    (∃ w, hrun (As.map spell) n s = some (some w) ∧ Res As w) ∨ (hrun (As.map spell) n s = some none ∧ ¬ Goal As)
  | 0, s, I, hn => by walk_at "mine:om"
  | n + 1, s, I, hn => by
    have hle := I.le
    rw [hrun]
    cases hw : s.ways[s.at_]? with
    | none =>
      have hge := List.getElem?_eq_none_iff.mp hw
      exact .inr ⟨rfl, I.nogoal (by walk_at "mine:om")⟩
    | some w =>
      have hlt := (List.getElem?_eq_some_iff.mp hw).1
      obtain ⟨p0, q0, W⟩ := I.ways w (List.mem_of_getElem? hw)
      obtain ⟨np, nq⟩ := W.pr.nonempty h.ne
      obtain ⟨x, p, rfl⟩ := List.exists_cons_of_ne_nil np
      obtain ⟨y, q, rfl⟩ := List.exists_cons_of_ne_nil nq
      simp only
      by_cases hc : (hdS w.one == hdS w.other && !decide ((w.one, w.other) ∈ s.seen)) = true
      · rw [if_pos hc]
        simp only [Bool.and_eq_true, Bool.not_eq_true', decide_eq_false_iff_not] at hc
        obtain ⟨hxy, hns⟩ := hc
        rw [W.o1, W.o2, hd_eq, decide_eq_true_eq] at hxy
        subst hxy
        have et : (tlS w.one == "" && tlS w.other == "") = decide (p = [] ∧ q = []) := by
          rw [W.o1, W.o2, tl_spell, tl_spell, spell_nil, spell_nil]
          by_cases a : p = [] <;> by_cases b : q = [] <;> simp [a, b]
        rw [et]
        by_cases hg : p = [] ∧ q = []
        · rw [if_pos (by simpa using hg)]
          left
          obtain ⟨hp, hq⟩ := hg
          subst hp; subst hq
          obtain ⟨M, m1, m2⟩ := W.m
          have c1 := I.cnt1_le h
          have c2 := I.cnt2_le h
          have l1 := W.l1
          have l2 := W.l2
          exact ⟨w, rfl, ⟨x, W.pr⟩, by rw [m1, m2], W.h, W.i1, W.i2, by walk_at "mine:om", by walk_at "mine:om"⟩
        · rw [if_neg (by simpa using hg)]
          have I' := I.grow h.ne hw W hns hg
          have sl := I'.seen_len h
          have el : (expand (As.map spell) w).length ≤ 4 := by
            unfold expand
            split
            · simp [h.len]
            · split
              · simp [h.len]
              · simp
          refine hands_run h n _ I' ?_
          have sl' : (s.seen ++ [(w.one, w.other)]).length ≤ 400 := sl
          show ((s.ways ++ expand (As.map spell) w).length - (s.at_ + 1)) + 5 * (400 - (s.seen ++ [(w.one, w.other)]).length) + 1 ≤ n
          rw [List.length_append] at sl' ⊢
          rw [List.length_append]
          simp only [List.length_cons, List.length_nil] at sl' ⊢
          walk_at "mine:om"
      · rw [if_neg hc]
        refine hands_run h n _ (I.skip hw fun hh => ?_) ?_
        · rw [hh] at hc
          simpa using hc
        · show (s.ways.length - (s.at_ + 1)) + 5 * (400 - s.seen.length) + 1 ≤ n
          walk_at "mine:om"
theorem hands_init {As : List BL} (h : AsOk As) : HInv As ⟨initWays (As.map spell), [], 0⟩ := by
  have hl := h.len
  have mem : ∀ w, w ∈ initWays (As.map spell) ↔ ∃ j k, j < k ∧ k < 4 ∧ w = ⟨spell (As.getD j []), spell (As.getD k []), [j], [k]⟩ := fun w => by
    unfold initWays
    simp only [List.mem_flatMap, List.mem_map, List.mem_range, List.length_map, hl]
    constructor
    · rintro ⟨k, hk, j, hj, rfl⟩
      exact ⟨j, k, hj, hk, by rw [getD_spell (by walk_at "mine:om"), getD_spell (by walk_at "mine:om")]⟩
    · rintro ⟨j, k, hj, hk, rfl⟩
      exact ⟨k, hk, j, hj, by rw [getD_spell (by walk_at "mine:om"), getD_spell (by walk_at "mine:om")]⟩
  refine ⟨fun w hw => ?_, fun j k u v hjk hj hk => ?_, fun i w hi => absurd hi (Nat.not_lt_zero _), (fun a ha => nomatch ha), by simp, Nat.zero_le _⟩
  · obtain ⟨j, k, hjk, hk, rfl⟩ := (mem w).mp hw
    refine ⟨_, _, rfl, rfl, .start j k _ _ hjk (getD_at (by walk_at "mine:om")).1 (getD_at (by walk_at "mine:om")).1, ⟨[], by simp [cat'], by simp [cat']⟩, ⟨j, k, [], [], rfl, rfl, hjk⟩, ?_, ?_, by show 1 ≤ _; walk_at "mine:om", by show 1 ≤ _; walk_at "mine:om"⟩
    · intro i hi
      rw [List.mem_singleton] at hi; walk_at "mine:om"
    · intro i hi
      rw [List.mem_singleton] at hi; walk_at "mine:om"
  · have lk := (List.getElem?_eq_some_iff.mp hk).1
    have e1 := (getD_at (As := As) (k := j) (by walk_at "mine:om")).1
    have e2 := (getD_at (As := As) (k := k) lk).1
    rw [hj] at e1
    rw [hk] at e2
    refine ⟨⟨spell (As.getD j []), spell (As.getD k []), [j], [k]⟩, (mem _).mpr ⟨j, k, hjk, by walk_at "mine:om", rfl⟩, ?_, ?_⟩
    · show spell (As.getD j []) = _
      rw [← Option.some.inj e1]
    · show spell (As.getD k []) = _
      rw [← Option.some.inj e2]
theorem hands_ex {As : List BL} (h : AsOk As) : ∃ w : Option Way, hrun (As.map spell) 10000 ⟨initWays (As.map spell), [], 0⟩ = some w ∧ (w ≠ none ↔ Goal As) ∧ ∀ y, w = some y → Res As y := by
  have hI := hands_init h
  have hl : (initWays (As.map spell)).length ≤ 16 := by
    unfold initWays
    rw [List.length_map, h.len]
    exact flat_le _ 4 (List.range 4) fun k hk => by rw [List.length_map, List.length_range]; have := List.mem_range.mp hk; walk_at "mine:om"
  rcases hands_run h 10000 _ hI (by show ((initWays (As.map spell)).length - 0) + 5 * (400 - 0) + 1 ≤ 10000; walk_at "mine:om") with ⟨w, e, r⟩ | ⟨e, g⟩
  · exact ⟨some w, e, ⟨fun _ => r.goal, fun _ => by simp⟩, fun y hy => by cases hy; exact r⟩
  · exact ⟨none, e, ⟨fun q => absurd rfl q, fun q => absurd q g⟩, fun y hy => nomatch hy⟩
end Mine
end
section
open PySem PySem.Spec PySem.Calls PyProof.Rows PySem.W PySem.Builtin PySem.Builtin.Str
namespace Mine
noncomputable def E (c : Nat) (s : BL) : List Nat := s.flatMap (encR c)
theorem E_cons (c : Nat) (b : Bool) (s : BL) : E c (b :: s) = encR c b ++ E c s := by simp [E]
theorem E_append (c : Nat) (a b : BL) : E c (a ++ b) = E c a ++ E c b := by simp [E]
theorem pre_code {c : Nat} (hc : LetterOk c) : ∀ (u v : BL) (r : List Nat), E c u ++ r = E c v → ∃ s, v = u ++ s ∧ r = E c s
  | [], v, r, h => ⟨v, rfl, h⟩
  | b :: u, [], r, h => by
    rw [E_cons] at h
    cases b <;> simp [encR, E] at h
  | b :: u, b' :: v, r, h => by
    have h46 := hc.n46
    rw [E_cons, E_cons] at h
    have e : b = b' := by
      cases b <;> cases b'
      · rfl
      · simp [encR] at h <;> exact absurd h.1.symm h46
      · simp [encR] at h <;> exact absurd h.1 h46
      · rfl
    subst e
    rw [List.append_assoc] at h
    obtain ⟨s, e1, e2⟩ := pre_code hc u v r (List.append_cancel_left h)
    exact ⟨s, by rw [e1]; rfl, e2⟩
theorem E_inj {c : Nat} (hc : LetterOk c) {u v : BL} (h : E c u = E c v) : u = v := by
  obtain ⟨s, e1, e2⟩ := pre_code hc u v [] (by rw [List.append_nil]; exact h)
  have : s = [] := by
    cases s with
    | nil => rfl
    | cons b s => rw [E_cons] at e2; cases b <;> simp [encR] at e2
  rw [e1, this, List.append_nil]
noncomputable abbrev L (x : Str) : List Nat := x.cps.toList
theorem L_inj {x y : Str} (h : L x = L y) : x = y := by rw [← toS_of x, ← toS_of y]; exact congrArg toS h
theorem scut_to (o : Str) (n : Nat) : L (scut o none (some (n : Int))) = (L o).take n := by
  show (cut o.cps.toList none (some ((n : Nat) : Int))).toArray.toList = _
  rw [cut_to]
theorem scut_from (o : Str) (n : Nat) (h : n ≤ (L o).length) : L (scut o (some (n : Int)) none) = (L o).drop n := by
  show (cut o.cps.toList (some ((n : Nat) : Int)) none).toArray.toList = _
  rw [cut_from h]
theorem half_rest (w o s : Str) : s ∈ (if scut o none (some (w.length : Int)) == w then [scut o (some (w.length : Int)) none] else []) ↔ L w ++ L s = L o := by
  have hw : w.length = (L w).length := str_len w
  constructor
  · intro h
    split at h
    · rename_i hb
      have e := congrArg L (eq_of_beq hb)
      rw [scut_to] at e
      rw [List.mem_singleton] at h
      have hl : w.length ≤ (L o).length := by
        have := congrArg List.length e
        rw [List.length_take] at this
        walk_at "mine:om"
      rw [h, scut_from _ _ hl, ← e]
      exact List.take_append_drop _ _
    · cases h
  · intro h
    have hl : w.length ≤ (L o).length := by rw [← h, List.length_append]; walk_at "mine:om"
    have e1 : scut o none (some (w.length : Int)) = w := L_inj (by rw [scut_to, ← h, hw, List.take_left])
    have e2 : scut o (some (w.length : Int)) none = s := L_inj (by rw [scut_from _ _ hl, ← h, hw, List.drop_left])
    rw [e1, e2]; simp
theorem mem_rest2 (w o s : Str) : s ∈ rest2 w o ↔ L w ++ L s = L o ∨ L o ++ L s = L w := by
  unfold rest2
  rw [List.mem_append, half_rest, half_rest]
noncomputable def RS (c : Nat) (s : BL) : Str := toS (E c s)
theorem RS_list (c : Nat) (s : BL) : L (RS c s) = E c s := toS_list _
theorem RS_inj {c : Nat} (hc : LetterOk c) {u v : BL} (h : RS c u = RS c v) : u = v := E_inj hc (by rw [← RS_list, h, RS_list])
theorem rest_RS {c : Nat} (hc : LetterOk c) (u v : BL) (s : Str) : s ∈ rest2 (RS c u) (RS c v) ↔ ∃ s', s = RS c s' ∧ (u ++ s' = v ∨ v ++ s' = u) := by
  rw [mem_rest2, RS_list, RS_list]
  constructor
  · rintro (h | h)
    · obtain ⟨s', e1, e2⟩ := pre_code hc u v (L s) h
      exact ⟨s', L_inj (by rw [e2, RS_list]), .inl e1.symm⟩
    · obtain ⟨s', e1, e2⟩ := pre_code hc v u (L s) h
      exact ⟨s', L_inj (by rw [e2, RS_list]), .inr e1.symm⟩
  · rintro ⟨s', rfl, h | h⟩
    · left; rw [RS_list, ← h, E_append]
    · right; rw [RS_list, ← h, E_append]
theorem RS_nil {c : Nat} {s : BL} : RS c s = "" ↔ s = [] := by
  constructor
  · intro h
    have := congrArg L h
    rw [RS_list] at this
    cases s with
    | nil => rfl
    | cons b s =>
      rw [E_cons] at this
      have e : L ("" : Str) = [] := rfl
      rw [e] at this
      cases b <;> simp [encR] at this
  · rintro rfl; rfl
theorem rch_RS {c : Nat} (hc : LetterOk c) {As : List BL} (s : Str) : Rch (As.map (RS c)) s ↔ ∃ s', s = RS c s' ∧ RchA As s' := by
  constructor
  · intro h
    induction h with
    | base s h hn =>
      obtain ⟨w, hw, o, ho, q⟩ := mem_rests.mp h
      obtain ⟨u, hu, rfl⟩ := List.mem_map.mp hw
      obtain ⟨v, hv, rfl⟩ := List.mem_map.mp ho
      obtain ⟨s', rfl, e⟩ := (rest_RS hc u v s).mp q
      exact ⟨s', rfl, .base u v s' hu hv e fun z => hn (RS_nil.mpr z)⟩
    | step t s ht hs ih =>
      obtain ⟨t', rfl, hr⟩ := ih
      obtain ⟨w, hw, o, ho, q⟩ := mem_rests.mp hs
      obtain ⟨u, hu, rfl⟩ := List.mem_map.mp hw
      rw [List.mem_singleton] at ho
      subst ho
      obtain ⟨s', rfl, e⟩ := (rest_RS hc u t' s).mp q
      exact ⟨s', rfl, .step t' u s' hr hu e⟩
  · rintro ⟨s', rfl, h⟩
    induction h with
    | base u v s hu hv h hn => exact .base _ (mem_rests.mpr ⟨_, List.mem_map_of_mem hu, _, List.mem_map_of_mem hv, (rest_RS hc u v _).mpr ⟨s, rfl, h⟩⟩) fun z => hn (RS_nil.mp z)
    | step t u s ht hu h ih => exact .step _ _ ih (mem_rests.mpr ⟨_, List.mem_map_of_mem hu, _, .head _, (rest_RS hc u t _).mpr ⟨s, rfl, h⟩⟩)
theorem okS_of {x : Str} (h : ∀ k ∈ L x, k < 55296) : okS x = true := by
  show x.cps.all (· < 0x110000) = true
  rw [← Array.all_toList]
  exact List.all_eq_true.mpr fun k hk => by have := h k hk; simp; walk_at "mine:om"
theorem enc_lt {c : Nat} (hc : LetterOk c) (b : Bool) : (∀ k ∈ encR c b, k < 55296) ∧ (∀ k ∈ encS c b, k < 55296) ∧ (∀ k ∈ encM c b, k < 55296) := by
  have := hc.lt
  cases b <;> simp [encR, encS, encM] <;> walk_at "mine:om"
theorem enc_len (c : Nat) (b : Bool) : (encR c b).length ≤ 6 ∧ (encS c b).length ≤ 6 ∧ (encM c b).length ≤ 6 := by
  cases b <;> simp [encR, encS, encM]
theorem E_lt {c : Nat} (hc : LetterOk c) (s : BL) : ∀ k ∈ E c s, k < 55296 := fun k hk => by
  obtain ⟨b, _, h⟩ := List.mem_flatMap.mp hk
  exact (enc_lt hc b).1 k h
theorem E_len (c : Nat) (s : BL) : (E c s).length ≤ 6 * s.length := flat_le _ 6 s fun b _ => (enc_len c b).1
theorem RS_ok {c : Nat} (hc : LetterOk c) (s : BL) (h : s.length ≤ 100) : okS (RS c s) = true ∧ (RS c s).length ≤ 1000 := by
  refine ⟨okS_of fun k hk => E_lt hc s k (by rw [RS_list] at hk; exact hk), ?_⟩
  rw [str_len]
  have := E_len c s
  have e := congrArg List.length (RS_list c s)
  show (L (RS c s)).length ≤ 1000
  walk_at "mine:om"
theorem univ_raw {c : Nat} (hc : LetterOk c) {As : List BL} (h : AsOk As) : Univ (As.map (RS c)) ((sufs As).map (RS c)) where
  sub w hw := by
    obtain ⟨u, hu, rfl⟩ := List.mem_map.mp hw
    exact List.mem_map_of_mem (sufs_self hu)
  clo w hw o ho s hs := by
    obtain ⟨u, hu, rfl⟩ := List.mem_map.mp hw
    obtain ⟨v, hv, rfl⟩ := List.mem_map.mp ho
    obtain ⟨s', rfl, e⟩ := (rest_RS hc u v s).mp hs
    refine List.mem_map_of_mem ?_
    rcases e with e | e
    · obtain ⟨z, hz, hm⟩ := mem_sufs.mp hv
      exact mem_sufs.mpr ⟨z, hz, suf_trans (by rw [← e]; exact suf_append _ _) hm⟩
    · exact mem_sufs.mpr ⟨u, hu, by rw [← e]; exact suf_append _ _⟩
  len := by rw [List.length_map]; have := h.sufs_len; walk_at "mine:om"
  wl := by rw [List.length_map, h.len]; decide
  ok x hx := by
    obtain ⟨s, hs, rfl⟩ := List.mem_map.mp hx
    obtain ⟨u, hu, hm⟩ := mem_sufs.mp hs
    obtain ⟨z, rfl⟩ := suf_iff hm
    have := h.len4 _ hu
    rw [List.length_append] at this
    exact RS_ok hc s (by walk_at "mine:om")
noncomputable def SL (c : Nat) (w : BL) : List Nat := w.flatMap (encS c) ++ [46, 13, 10]
noncomputable def SS (c : Nat) (w : BL) : Str := toS (SL c w)
theorem SL_cons (c : Nat) (b : Bool) (w : BL) : SL c (b :: w) = encS c b ++ SL c w := by simp [SL]
theorem sent_code {c : Nat} (hc : LetterOk c) : ∀ (u v : BL) (r t : List Nat), SL c u ++ r = SL c v ++ t → u = v ∧ r = t
  | [], [], r, t, h => by simp [SL] at h; exact ⟨rfl, h⟩
  | [], b :: v, r, t, h => by
    have h46 := hc.n46
    rw [SL_cons] at h
    cases b
    · simp [SL, encS] at h
    · simp [SL, encS] at h <;> exact absurd h.1.symm h46
  | b :: u, [], r, t, h => by
    have h46 := hc.n46
    rw [SL_cons] at h
    cases b
    · simp [SL, encS] at h
    · simp [SL, encS] at h <;> exact absurd h.1 h46
  | b :: u, b' :: v, r, t, h => by
    have h46 := hc.n46
    rw [SL_cons, SL_cons] at h
    have e : b = b' := by
      cases b <;> cases b'
      · rfl
      · simp [encS] at h <;> exact absurd h.1.symm h46
      · simp [encS] at h <;> exact absurd h.1 h46
      · rfl
    subst e
    rw [List.append_assoc, List.append_assoc] at h
    obtain ⟨e1, e2⟩ := sent_code hc u v r t (List.append_cancel_left h)
    exact ⟨by rw [e1], e2⟩
theorem SS_list (c : Nat) (w : BL) : L (SS c w) = SL c w := toS_list _
theorem SS_ok {c : Nat} (hc : LetterOk c) (w : BL) (h : w.length ≤ 100) : okS (SS c w) = true ∧ (SS c w).length ≤ 1000 := by
  refine ⟨okS_of fun k hk => ?_, ?_⟩
  · rw [SS_list] at hk
    rcases List.mem_append.mp hk with q | q
    · obtain ⟨b, _, h⟩ := List.mem_flatMap.mp q
      exact (enc_lt hc b).2.1 k h
    · simp only [List.mem_cons, List.not_mem_nil, or_false] at q
      walk_at "mine:om"
  · rw [str_len]
    have e := congrArg List.length (SS_list c w)
    have := flat_le (encS c) 6 w fun b _ => (enc_len c b).2.1
    unfold SL at e
    rw [List.length_append] at e
    simp only [List.length_cons, List.length_nil] at e
    show (L (SS c w)).length ≤ 1000
    walk_at "mine:om"
theorem rest_SS {c : Nat} (hc : LetterOk c) (u v : BL) (s : Str) (h : s ∈ rest2 (SS c u) (SS c v)) : s = "" := by
  rw [mem_rest2, SS_list, SS_list] at h
  refine L_inj ?_
  rcases h with h | h
  · exact (sent_code hc u v (L s) [] (by rw [List.append_nil]; exact h)).2
  · exact (sent_code hc v u (L s) [] (by rw [List.append_nil]; exact h)).2
theorem SS_ne (c : Nat) (w : BL) : SS c w ≠ "" := fun q => by
  have := congrArg L q
  rw [SS_list] at this
  have e : L ("" : Str) = [] := rfl
  rw [e] at this
  simp [SL] at this
theorem sent_rounds {c : Nat} (hc : LetterOk c) {ws : List BL} (hl : ws.length = 4) (h3 : ∀ w ∈ ws, w.length ≤ 100) : ∃ all0 n, RestsIs (ws.map (SS c)) (ws.map (SS c)) all0 ∧ RRun (RestsIs (ws.map (SS c))) n (all0.filter fun x : Str => !decide (x = ("" : Str))) [] [] := by
  have u : Univ (ws.map (SS c)) ("" :: ws.map (SS c)) := {
    sub := fun w hw => .tail _ hw
    clo := fun w hw o ho s hs => by
      obtain ⟨x, hx, rfl⟩ := List.mem_map.mp hw
      rcases List.mem_cons.mp ho with rfl | ho
      · rw [mem_rest2] at hs
        rcases hs with h | h
        · have e : L ("" : Str) = [] := rfl
          rw [e, SS_list] at h
          simp [SL] at h
        · have : s = SS c x := L_inj (by have e : L ("" : Str) = [] := rfl; rw [e, List.nil_append] at h; exact h)
          rw [this]; exact .tail _ hw
      · obtain ⟨y, hy, rfl⟩ := List.mem_map.mp ho
        rw [rest_SS hc x y s hs]; exact .head _
    len := by simp [hl]
    wl := by simp [hl]
    ok := fun x hx => by
      rcases List.mem_cons.mp hx with rfl | hx
      · exact ⟨by decide +kernel, by decide⟩
      · obtain ⟨y, hy, rfl⟩ := List.mem_map.mp hx
        exact SS_ok hc y (h3 y hy) }
  obtain ⟨all0, g1, g2, g3, g4, g5⟩ := rests_ex u u.sub u.wl
  refine ⟨all0, 0, g1, ?_⟩
  have e : (all0.filter fun x : Str => !decide (x = ("" : Str))) = [] := by
    rw [List.filter_eq_nil_iff]
    intro s hs
    obtain ⟨w, hw, o, ho, q⟩ := mem_rests.mp ((g4 s).mp hs)
    obtain ⟨x, hx, rfl⟩ := List.mem_map.mp hw
    obtain ⟨y, hy, rfl⟩ := List.mem_map.mp ho
    rw [rest_SS hc x y s q]
    simp
  rw [e]
  exact .done (.inl rfl)
end Mine
end
section
open PySem PySem.Spec PySem.Calls PyProof.Rows PySem.W PySem.Builtin PySem.Builtin.Str
namespace Mine
structure WsOk (ws : List BL) : Prop where
  len : ws.length = 4
  nd : ws.Nodup
  mem : ∀ w ∈ ws, w ∈ allWords
theorem fin_inj {u v : BL} (h : fin u = fin v) : u = v := List.append_cancel_right h
theorem WsOk.as {ws : List BL} (h : WsOk ws) : AsOk (ws.map fin) where
  len := by rw [List.length_map, h.len]
  nd := by
    rw [List.Nodup, List.pairwise_map]
    exact h.nd.imp fun hne q => hne (fin_inj q)
  mem u hu := by
    obtain ⟨w, hw, rfl⟩ := List.mem_map.mp hu
    exact ⟨w, h.mem w hw, rfl⟩
theorem WsOk.len3 {ws : List BL} (h : WsOk ws) : ∀ w ∈ ws, w.length ≤ 3 := fun w hw => all_len3 w (h.mem w hw)
noncomputable def MS (c : Nat) (w : BL) : Str := toS (w.flatMap (encM c))
theorem MS_list (c : Nat) (w : BL) : L (MS c w) = w.flatMap (encM c) := toS_list _
noncomputable def WdOf (ws : List BL) : List Str := (ws.map fin).map spell
noncomputable def MaOf (c : Nat) (ws : List BL) : List Str := ws.map (MS c)
noncomputable def RwOf (c : Nat) (ws : List BL) : List Str := (ws.map fin).map (RS c)
noncomputable def SeOf (c : Nat) (ws : List BL) : List Str := ws.map (SS c)
theorem getD_map' {α : Type} (f : α → Str) (d : α) {xs : List α} {k : Nat} (hk : k < xs.length) : (xs.map f).getD k "" = f (xs.getD k d) := by
  rw [List.getD_eq_getElem?_getD, List.getD_eq_getElem?_getD, List.getElem?_map, List.getElem?_eq_getElem hk]; rfl
theorem pick_map {α : Type} (f : α → Str) (d : α) {xs : List α} {is : List Nat} (h : ∀ k ∈ is, k < xs.length) : pickAt (xs.map f) is = is.map fun k => f (xs.getD k d) := by
  unfold pickAt
  exact List.map_congr_left fun k hk => getD_map' f d (h k hk)
theorem join_map {α : Type} (f : α → Str) (d : α) {xs : List α} {is : List Nat} (h : ∀ k ∈ is, k < xs.length) : L (joinAt (xs.map f) is) = (is.map fun k => L (f (xs.getD k d))).flatten := by
  unfold joinAt
  show (Txt.join "" (pickAt (xs.map f) is)).cps.toList = _
  rw [join_list, pick_map f d h, List.map_map]; rfl
theorem join_raw (c : Nat) {As : List BL} {is : List Nat} (h : ∀ k ∈ is, k < As.length) : L (joinAt (As.map (RS c)) is) = E c (cat' As is) := by
  rw [join_map (RS c) [] h]
  clear h
  induction is with
  | nil => rfl
  | cons k is ih =>
    rw [List.map_cons, List.flatten_cons, ih, RS_list]
    have : cat' As (k :: is) = As.getD k [] ++ cat' As is := by simp [cat']
    rw [this, E_append]
theorem pick_small {xs : List Str} {is : List Nat} (h : ∀ k ∈ is, k < xs.length) (hx : ∀ x ∈ xs, x.length ≤ 1000) (hl : is.length ≤ 100) : JoinOk "" (pickAt xs is) = true :=
  joinOk_small (by unfold pickAt; rw [List.length_map]; exact hl) fun x hx' => by
    obtain ⟨k, hk, rfl⟩ := List.mem_map.mp hx'
    exact hx _ (getD_mem (h k hk))
theorem join_ok {xs : List Str} {is : List Nat} (h : ∀ k ∈ is, k < xs.length) (hx : ∀ x ∈ xs, ∀ k ∈ L x, k < 55296) : okS (joinAt xs is) = true := okS_of fun k hk => by
  unfold joinAt at hk
  have hk' : k ∈ ((pickAt xs is).map fun x => x.cps.toList).flatten := by rw [← join_list]; exact hk
  obtain ⟨l, hl, hm⟩ := List.mem_flatten.mp hk'
  obtain ⟨x, hx', rfl⟩ := List.mem_map.mp hl
  obtain ⟨i, hi, rfl⟩ := List.mem_map.mp hx'
  exact hx _ (getD_mem (h i hi)) k hm
theorem SL_lt {c : Nat} (hc : LetterOk c) (w : BL) : ∀ k ∈ SL c w, k < 55296 := fun k hk => by
  rcases List.mem_append.mp hk with q | q
  · obtain ⟨b, _, h⟩ := List.mem_flatMap.mp q
    exact (enc_lt hc b).2.1 k h
  · simp only [List.mem_cons, List.not_mem_nil, or_false] at q
    walk_at "mine:om"
theorem facts1 {c : Nat} (hc : LetterOk c) {ws : List BL} (h : WsOk ws) : ∃ (w : Option Way) (r : List Str), Facts1 (WdOf ws) (RwOf c ws) (SeOf c ws) w r ∧ ∀ y, w = some y → Res (ws.map fin) y := by
  have hA := h.as
  obtain ⟨w, e1, e2, e3⟩ := hands_ex hA
  obtain ⟨all0, n, r, q1, q2, q3, q4⟩ := rounds_ex (univ_raw hc hA)
  have lA : (ws.map fin).length = 4 := by rw [List.length_map, h.len]
  have rl : (RwOf c ws).length = 4 := by unfold RwOf; rw [List.length_map, lA]
  have sl : (SeOf c ws).length = 4 := by unfold SeOf; rw [List.length_map, h.len]
  have rawok : ∀ x ∈ RwOf c ws, okS x = true ∧ x.length ≤ 1000 := fun x hx => by
    obtain ⟨u, hu, rfl⟩ := List.mem_map.mp hx
    have := hA.len4 u hu
    exact RS_ok hc u (by walk_at "mine:om")
  have sentok : ∀ x ∈ SeOf c ws, okS x = true ∧ x.length ≤ 1000 := fun x hx => by
    obtain ⟨u, hu, rfl⟩ := List.mem_map.mp hx
    have := h.len3 u hu
    exact SS_ok hc u (by walk_at "mine:om")
  refine ⟨w, r, ⟨⟨by unfold WdOf; rw [List.length_map, lA], rl, sl⟩, ⟨fun x hx => ?_, by unfold WdOf; rw [List.length_map, lA]; decide⟩, ⟨10000, by decide, e1⟩, ⟨rawok, by walk_at "mine:om"⟩, ⟨all0, n, q1, q2⟩, q3, ⟨sentok, by walk_at "mine:om"⟩, sent_rounds hc h.len fun w hw => by have := h.len3 w hw; walk_at "mine:om", ?_, fun y hy => ?_, fun is his hl => ?_⟩, e3⟩
  · obtain ⟨u, hu, rfl⟩ := List.mem_map.mp hx
    have l4 := hA.len4 u hu
    have ne := hA.ne u hu
    refine ⟨okS_of fun k hk => ?_, ?_, ?_⟩
    · have hk' : k ∈ spellL u := by rw [← spell_list]; exact hk
      obtain ⟨b, _, rfl⟩ := List.mem_map.mp hk'
      cases b <;> decide
    · rw [spell_length]; exact List.length_pos_iff.mpr ne
    · rw [spell_length]; walk_at "mine:om"
  · rw [q4, rch_RS hc, e2, ← rch_iff_goal hA.ne hA.nd]
    constructor
    · rintro ⟨s', e, hr⟩
      rw [RS_nil.mp e.symm] at hr; exact hr
    · intro hr
      exact ⟨[], (RS_nil.mpr rfl).symm, hr⟩
  · have R := e3 y hy
    obtain ⟨j, k, f, g, hj, hk, hjk⟩ := R.h
    have i1 := R.i1
    have i2 := R.i2
    have l1 := R.l1
    have l2 := R.l2
    rw [lA] at i1 i2
    refine ⟨i1, i2, by walk_at "mine:om", by walk_at "mine:om", by rw [hj]; simp, by rw [hk]; simp, ?_, fun q => ?_⟩
    · refine L_inj ?_
      unfold RwOf
      rw [join_raw c R.i1, join_raw c R.i2, R.m]
    · have e := congrArg L q
      unfold SeOf at e
      rw [join_map (SS c) [] (fun k hk => by rw [h.len]; exact i1 k hk), join_map (SS c) [] (fun k hk => by rw [h.len]; exact i2 k hk), hj, hk] at e
      simp only [List.map_cons, List.flatten_cons, SS_list] at e
      have ew := (sent_code hc _ _ _ _ e).1
      have bj := i1 j (by rw [hj]; exact .head _)
      have bk := i2 k (by rw [hk]; exact .head _)
      have lj : j < ws.length := by rw [h.len]; exact bj
      have lk : k < ws.length := by rw [h.len]; exact bk
      rw [List.getD_eq_getElem?_getD, List.getD_eq_getElem?_getD, List.getElem?_eq_getElem lj, List.getElem?_eq_getElem lk] at ew
      exact List.pairwise_iff_getElem.mp h.nd j k lj lk hjk ew
  · refine ⟨pick_small (fun k hk => by rw [rl]; exact his k hk) (fun x hx => (rawok x hx).2) (by walk_at "mine:om"), pick_small (fun k hk => by rw [sl]; exact his k hk) (fun x hx => (sentok x hx).2) (by walk_at "mine:om"), join_ok (fun k hk => by rw [rl]; exact his k hk) fun x hx k hk => ?_, join_ok (fun k hk => by rw [sl]; exact his k hk) fun x hx k hk => ?_⟩
    · obtain ⟨u, hu, rfl⟩ := List.mem_map.mp hx
      rw [RS_list] at hk
      exact E_lt hc u k hk
    · obtain ⟨u, hu, rfl⟩ := List.mem_map.mp hx
      rw [SS_list] at hk
      exact SL_lt hc u k hk
theorem picks_perm : ∀ (ns : List Nat) (i : Nat), i ≤ ns.length → i ≤ 13 → ((picks (ns.take i)).2.map (·.1) ++ (picks (ns.take i)).1).Perm allWords
  | ns, 0, _, _ => List.Perm.refl _
  | ns, i + 1, h, h13 => by
    have ih := picks_perm ns i (by walk_at "mine:om") (by walk_at "mine:om")
    obtain ⟨a1, _, _, _⟩ := picks_inv ns i (by walk_at "mine:om") (by walk_at "mine:om")
    rw [picks_snoc (show i < ns.length by walk_at "mine:om")]
    unfold pickStep
    have hj : ns[i] % (picks (ns.take i)).1.length < (picks (ns.take i)).1.length := Nat.mod_lt _ (by walk_at "mine:om")
    generalize ns[i] % (picks (ns.take i)).1.length = j at hj
    generalize hl : (picks (ns.take i)).1 = left at ih hj
    generalize (picks (ns.take i)).2 = ch at ih
    simp only [List.map_append, List.map_cons, List.map_nil]
    refine List.Perm.trans ?_ ih
    rw [List.append_assoc]
    refine List.Perm.append_left _ ?_
    show (left.getD j [] :: left.eraseIdx j).Perm left
    rw [List.getD_eq_getElem?_getD, List.getElem?_eq_getElem hj, List.eraseIdx_eq_take_drop_succ]
    have e : left = left.take j ++ left[j] :: left.drop (j + 1) := by
      rw [← List.drop_eq_getElem_cons hj, List.take_append_drop]
    refine List.Perm.trans List.perm_middle.symm ?_
    show (left.take j ++ left[j] :: left.drop (j + 1)).Perm left
    rw [← e]
theorem picks_ok (ns : List Nat) (h : ns.length = 5) : WsOk ((picks (ns.take 4)).2.map (·.1)) := by
  have l4 : (ns.take 4).length = 4 := by simp [h]
  have hp := picks_perm (ns.take 4) 4 (by walk_at "mine:om") (by walk_at "mine:om")
  obtain ⟨a1, a2, a3, a4⟩ := picks_inv (ns.take 4) 4 (by walk_at "mine:om") (by walk_at "mine:om")
  have e : (ns.take 4).take 4 = ns.take 4 := List.take_of_length_le (by walk_at "mine:om")
  rw [e] at hp a1 a2 a3 a4
  have nd : allWords.Nodup := by decide
  have nd2 := hp.nodup_iff.mpr nd
  refine ⟨by rw [List.length_map, a3], (List.nodup_append.mp nd2).1, fun w hw => ?_⟩
  obtain ⟨p, hp', rfl⟩ := List.mem_map.mp hw
  exact a4 p hp'
theorem wd_eq (ch : List (BL × Nat)) : wordsOf ch = WdOf (ch.map (·.1)) := by simp only [wordsOf_eq, WdOf, List.map_map]; rfl
theorem ma_eq (c : Nat) (ch : List (BL × Nat)) : mailsOf c ch = MaOf c (ch.map (·.1)) := by rw [mailsOf_eq]; rfl
theorem rw_eq {c : Nat} (hc : LetterOk c) (ch : List (BL × Nat)) : rawsOf c ch = RwOf c (ch.map (·.1)) := by simp only [rawsOf_eq hc, RwOf, List.map_map]; rfl
theorem se_eq {c : Nat} (hc : LetterOk c) (ch : List (BL × Nat)) : sentsOf c ch = SeOf c (ch.map (·.1)) := by rw [sentsOf_eq hc]; rfl
end Mine
end
section
open PySem PySem.Spec PySem.Calls PyProof.Rows PySem.W PySem.Builtin PySem.Builtin.Str
namespace Mine
theorem erase_idx (x : Str) : ∀ a : List Str, a.eraseIdx (a.idxOf x) = a.erase x
  | [] => by simp
  | y :: a => by
    rw [List.idxOf_cons, List.erase_cons]
    by_cases h : (y == x) = true
    · rw [h]; simp
    · have h' : (y == x) = false := by simpa using h
      rw [h']
      simp only [cond_false, List.eraseIdx_cons_succ, Bool.false_eq_true, if_false]
      rw [erase_idx x a]
theorem uldR_snoc (x : Str) : ∀ (r m a : List Str), uldR (r ++ [x]) m a = (if x ∈ (uldR r m a).2 then (uldR r m a).1 else (uldR r m a).1 ++ [x], (uldR r m a).2.erase x)
  | [], m, a => by
    show uldR [x] m a = _
    simp only [uldR]
    split
    · rename_i h
      simp only [erase_idx]
      show _ = (if x ∈ a then m else m ++ [x], a.erase x)
      rw [if_pos h]
    · rename_i h
      simp only [List.erase_of_not_mem h]
      show _ = (if x ∈ a then m else m ++ [x], a)
      rw [if_neg h]
  | y :: r, m, a => by
    show uldR (y :: (r ++ [x])) m a = _
    rw [uldR, uldR]
    split
    · exact uldR_snoc x r _ _
    · exact uldR_snoc x r _ _
noncomputable def leftOver (xs ys : List Str) : List Str := xs.foldr (fun x a => a.erase x) ys
noncomputable def lostL : List Str → List Str → List Str
  | [], _ => []
  | x :: s, ys => lostL s ys ++ if x ∈ leftOver s ys then [] else [x]
theorem uld_rec (ys : List Str) : ∀ xs : List Str, uldR xs.reverse [] ys = (lostL xs ys, leftOver xs ys)
  | [] => rfl
  | x :: s => by
    rw [List.reverse_cons, uldR_snoc, uld_rec ys s]
    simp only [lostL, leftOver, List.foldr_cons]
    congr 1
    show (if x ∈ leftOver s ys then lostL s ys else lostL s ys ++ [x]) = lostL s ys ++ (if x ∈ leftOver s ys then [] else [x])
    split <;> simp
theorem left_count (v : Str) (ys : List Str) : ∀ xs : List Str, (leftOver xs ys).count v = ys.count v - xs.count v
  | [] => by simp [leftOver]
  | x :: s => by
    have ih := left_count v ys s
    show ((leftOver s ys).erase x).count v = _
    rw [List.count_erase, ih, List.count_cons]
    by_cases h : x = v
    · subst h; simp; walk_at "mine:om"
    · have h1 : (v == x) = false := by simpa using fun q => h q.symm
      have h2 : (x == v) = false := by simpa using h
      simp [h1, h2]
theorem lost_rec (ys : List Str) : ∀ xs : List Str, bagLost xs ys = lostL xs ys
  | [] => rfl
  | x :: s => by
    have ih := lost_rec ys s
    have hidx : ((List.range (x :: s).length).map fun i => (x :: s).length - 1 - i) = ((List.range s.length).map fun i => (s.length - 1 - i) + 1) ++ [0] := by
      rw [List.length_cons, List.range_succ, List.map_append]
      congr 1
      · apply List.map_congr_left
        intro i hi
        rw [List.mem_range] at hi
        walk_at "mine:om"
      · simp
    have hp : ∀ k, lostP (x :: s) ys (k + 1) = lostP s ys k := fun k => by
      unfold lostP
      simp only [List.getD_cons_succ, List.drop_succ_cons]
    have h0 : lostP (x :: s) ys 0 = !decide (x ∈ leftOver s ys) := by
      unfold lostP
      simp only [List.getD_cons_zero, List.drop_zero, List.count_cons_self]
      have hc := left_count x ys s
      have hm : x ∈ leftOver s ys ↔ 0 < (leftOver s ys).count x := by rw [List.count_pos_iff]
      by_cases h : x ∈ leftOver s ys
      · have := hm.mp h
        rw [hc] at this
        simp [h]; walk_at "mine:om"
      · have : ¬ 0 < (leftOver s ys).count x := fun q => h (hm.mpr q)
        rw [hc] at this
        simp [h]; walk_at "mine:om"
    unfold bagLost at ih ⊢
    rw [hidx, List.filter_append, List.map_append, lostL, ← ih]
    congr 1
    · have : ((List.range s.length).map fun i => (s.length - 1 - i) + 1) = ((List.range s.length).map fun i => s.length - 1 - i).map (· + 1) := by rw [List.map_map]; rfl
      rw [this, List.filter_map, List.map_map]
      have e1 : (lostP (x :: s) ys ∘ fun k => k + 1) = lostP s ys := by funext k; exact hp k
      rw [e1]
      rfl
    · simp only [List.filter_cons, List.filter_nil, h0]
      by_cases h : x ∈ leftOver s ys <;> simp [h]
noncomputable def toldF (n : Str → Nat) : List Str → List Str → List Str
  | _, [] => []
  | s, y :: r => (if n y < (s ++ [y]).count y then [y] else []) ++ toldF n (s ++ [y]) r
noncomputable def bump (n : Str → Nat) (x : Str) : Str → Nat := fun v => n v + if v = x then 1 else 0
theorem told_same {n : Str → Nat} {x : Str} : ∀ (ys s : List Str), n x + 1 ≤ s.count x → toldF (bump n x) s ys = toldF n s ys
  | [], s, h => rfl
  | y :: r, s, h => by
    have hs : n x + 1 ≤ (s ++ [y]).count x := by rw [List.count_append]; walk_at "mine:om"
    simp only [toldF]
    rw [told_same r (s ++ [y]) hs]
    congr 1
    by_cases q : y = x
    · subst q
      have h1 : (s ++ [y]).count y = s.count y + 1 := by simp
      have : bump n y y = n y + 1 := by simp [bump]
      rw [h1, this, if_pos (by walk_at "mine:om"), if_pos (by walk_at "mine:om")]
    · have : bump n x y = n y := by simp [bump, q]
      rw [this]
theorem told_erase {n : Str → Nat} {x : Str} : ∀ (ys s : List Str), s.count x ≤ n x → toldF (bump n x) s ys = (toldF n s ys).erase x
  | [], s, h => rfl
  | y :: r, s, h => by
    simp only [toldF]
    by_cases q : y = x
    · subst q
      have h1 : (s ++ [y]).count y = s.count y + 1 := by simp
      have hb : bump n y y = n y + 1 := by simp [bump]
      rw [h1, hb, if_neg (by walk_at "mine:om")]
      by_cases e : s.count y = n y
      · rw [if_pos (by walk_at "mine:om")]
        simp only [List.nil_append, List.cons_append, List.erase_cons_head]
        exact told_same r (s ++ [y]) (by walk_at "mine:om")
      · rw [if_neg (by walk_at "mine:om")]
        simp only [List.nil_append]
        exact told_erase r (s ++ [y]) (by walk_at "mine:om")
    · have hb : bump n x y = n y := by simp [bump, q]
      have hs : (s ++ [y]).count x ≤ n x := by
        rw [List.count_append]
        have : [y].count x = 0 := by simp [q]
        walk_at "mine:om"
      rw [hb, told_erase r (s ++ [y]) hs]
      have hyx : (y == x) = false := by simpa using q
      split
      · simp [List.erase_cons, hyx]
      · simp
theorem told_zero : ∀ (ys s : List Str), toldF (fun _ => 0) s ys = ys
  | [], s => rfl
  | y :: r, s => by
    simp only [toldF]
    rw [told_zero r, if_pos (by simp [List.count_append])]; rfl
theorem left_told (ys : List Str) : ∀ xs : List Str, leftOver xs ys = toldF (fun v => xs.count v) [] ys
  | [] => by
    have := (told_zero ys []).symm
    simpa [leftOver] using this
  | x :: s => by
    show (leftOver s ys).erase x = _
    rw [left_told ys s, ← told_erase ys [] (by simp)]
    congr 1
    funext v
    unfold bump
    rw [List.count_cons]
    by_cases h : v = x
    · subst h; simp
    · have : (x == v) = false := by simpa using fun q => h q.symm
      simp [h, this]
theorem told_rec (n : Str → Nat) : ∀ (ys s : List Str), ((List.range ys.length).filter fun k => decide (n (ys.getD k "") < ((s ++ ys).take (s.length + k + 1)).count (ys.getD k ""))).map (fun k => ys.getD k "") = toldF n s ys
  | [], s => rfl
  | y :: r, s => by
    have ih := told_rec n r (s ++ [y])
    rw [List.length_cons, List.range_succ_eq_map, toldF, ← ih, List.filter_cons]
    have h0 : (s ++ y :: r).take (s.length + 0 + 1) = s ++ [y] := by
      rw [show s ++ y :: r = (s ++ [y]) ++ r from by simp]
      rw [List.take_append_of_le_length (by simp)]
      exact List.take_of_length_le (by simp)
    simp only [List.getD_cons_zero, h0]
    have tl : ((List.map Nat.succ (List.range r.length)).filter fun k => decide (n ((y :: r).getD k "") < ((s ++ y :: r).take (s.length + k + 1)).count ((y :: r).getD k ""))).map (fun k => (y :: r).getD k "") =
        ((List.range r.length).filter fun k => decide (n (r.getD k "") < ((s ++ [y] ++ r).take ((s ++ [y]).length + k + 1)).count (r.getD k ""))).map (fun k => r.getD k "") := by
      rw [List.filter_map, List.map_map]
      have e1 : ((fun k => decide (n ((y :: r).getD k "") < ((s ++ y :: r).take (s.length + k + 1)).count ((y :: r).getD k ""))) ∘ Nat.succ) = fun k => decide (n (r.getD k "") < ((s ++ [y] ++ r).take ((s ++ [y]).length + k + 1)).count (r.getD k "")) := by
        funext k
        have e2 : s.length + (k + 1) + 1 = (s ++ [y]).length + k + 1 := by simp; walk_at "mine:om"
        have e3 : s ++ y :: r = s ++ [y] ++ r := by simp
        show decide (n ((y :: r).getD (k + 1) "") < ((s ++ y :: r).take (s.length + (k + 1) + 1)).count ((y :: r).getD (k + 1) "")) = _
        rw [List.getD_cons_succ, e2, e3]
      rw [e1]
      rfl
    by_cases h : n y < (s ++ [y]).count y
    · simp only [h, decide_true, if_true, List.map_cons, List.getD_cons_zero, tl]; rfl
    · simp only [h, decide_false, Bool.false_eq_true, if_false, tl]; rfl
theorem uld_bags (xs ys : List Str) : uld xs ys = (bagLost xs ys, bagTold xs ys) := by
  unfold uld
  rw [uld_rec, lost_rec, left_told, ← told_rec]
  congr 1
  unfold bagTold
  congr 1
  apply List.filter_congr
  intro k _
  unfold toldP
  simp only [List.nil_append, List.length_nil, Nat.zero_add]
  by_cases h : xs.count (ys.getD k "") < (ys.take (k + 1)).count (ys.getD k "")
  · simp [h]
  · simp [h]
theorem left_self : ∀ xs : List Str, leftOver xs xs = [] := fun xs => by
  apply List.eq_nil_iff_forall_not_mem.mpr
  intro v hv
  have h := left_count v xs xs
  have : 0 < (leftOver xs xs).count v := List.count_pos_iff.mpr hv
  walk_at "mine:om"
theorem lost_self : ∀ (xs ys : List Str), (∀ v, xs.count v ≤ ys.count v) → lostL xs ys = []
  | [], ys, _ => rfl
  | x :: s, ys, h => by
    have ih := lost_self s ys fun v => by have := h v; rw [List.count_cons] at this; walk_at "mine:om"
    have hx := h x
    rw [List.count_cons_self] at hx
    have hc := left_count x ys s
    have : x ∈ leftOver s ys := List.count_pos_iff.mp (by walk_at "mine:om")
    rw [lostL, ih, if_pos this]; rfl
theorem uld_same (xs : List Str) : uld xs xs = ([], []) := by
  unfold uld
  rw [uld_rec, left_self, lost_self xs xs fun _ => Nat.le_refl _]
end Mine
end
section
open PySem PySem.Spec PySem.Calls PyProof.Rows PySem.W PySem.Builtin PySem.Builtin.Str
namespace Mine
theorem rowsCat_append (y : List Nat) (a b : List (List Nat)) : rowsCat y (a ++ b) = rowsCat y a ++ rowsCat y b := by simp [rowsCat]
theorem rowsCat_flat {α : Type} (y : List Nat) (f : α → List (List Nat)) (g : α → List Nat) (h : ∀ a, rowsCat y (f a) = g a) : ∀ l : List α, rowsCat y (l.flatMap f) = l.flatMap g
  | [] => rfl
  | a :: l => by rw [List.flatMap_cons, rowsCat_append, List.flatMap_cons, h, rowsCat_flat y f g h l]
noncomputable def rowR (c : Nat) (b : Bool) : List (List Nat) := if b then [[c, 46], []] else [[46]]
noncomputable def rowS (c : Nat) (b : Bool) : List (List Nat) := if b then [[c, 46], []] else [[46, 46]]
theorem rows_raw (c : Nat) (J : BL) : E c J = rowsCat [13, 10] (J.flatMap (rowR c)) := (rowsCat_flat [13, 10] (rowR c) (encR c) (fun b => by cases b <;> rfl) J).symm
theorem rows_mail (c : Nat) (w : BL) : w.flatMap (encM c) = rowsCat [10] (w.flatMap (rowR c)) := (rowsCat_flat [10] (rowR c) (encM c) (fun b => by cases b <;> rfl) w).symm
theorem rows_sent (c : Nat) (w : BL) : SL c w = rowsCat [13, 10] (w.flatMap (rowS c) ++ [[46]]) := by
  rw [rowsCat_append, rowsCat_flat [13, 10] (rowS c) (encS c) (fun b => by cases b <;> rfl) w]; rfl
noncomputable def runsGo : Nat → BL → List Nat
  | _, [] => []
  | n, true :: r => runsGo (n + 1) r
  | n, false :: r => n :: runsGo 0 r
noncomputable def closed : Nat → BL → Prop
  | n, [] => n = 0
  | n, true :: r => closed (n + 1) r
  | _, false :: r => closed 0 r
theorem closed_fin {J : BL} (h : closed 0 J) : ∀ (w : BL) (n : Nat), closed n (fin w ++ J)
  | [], n => h
  | true :: w, n => closed_fin h w (n + 1)
  | false :: w, n => closed_fin h w 0
theorem closed_cat {As : List BL} (hA : ∀ u ∈ As, ∃ w, u = fin w) : ∀ is : List Nat, (∀ k ∈ is, k < As.length) → closed 0 (cat' As is)
  | [], _ => rfl
  | k :: is, h => by
    have ih := closed_cat hA is fun i hi => h i (.tail _ hi)
    obtain ⟨a1, a2⟩ := getD_at (As := As) (h k (.head _))
    obtain ⟨w, e⟩ := hA _ a2
    have : cat' As (k :: is) = As.getD k [] ++ cat' As is := by simp [cat']
    rw [this, e]
    exact closed_fin ih w 0
theorem runs_rows : ∀ (J : BL) (n : Nat), closed n J → List.replicate n 97 ++ spellL J = rowsCat [46] ((runsGo n J).map fun n => List.replicate n 97)
  | [], n, h => by
    have : n = 0 := h
    subst this; rfl
  | true :: r, n, h => by
    have ih := runs_rows r (n + 1) h
    rw [runsGo, ← ih]
    show List.replicate n 97 ++ 97 :: spellL r = _
    rw [List.replicate_succ', List.append_assoc]; rfl
  | false :: r, n, h => by
    have ih := runs_rows r 0 h
    rw [runsGo, List.map_cons, rowsCat_cons, ← ih]
    rfl
theorem runs_len : ∀ (J : BL) (n : Nat), (runsGo n J).length ≤ J.length
  | [], n => by simp [runsGo]
  | true :: r, n => by have := runs_len r (n + 1); rw [runsGo, List.length_cons]; walk_at "mine:om"
  | false :: r, n => by have := runs_len r 0; rw [runsGo, List.length_cons, List.length_cons]; walk_at "mine:om"
theorem runs_le : ∀ (J : BL) (n : Nat), ∀ m ∈ runsGo n J, m ≤ n + J.length
  | [], n, m, h => by simp [runsGo] at h
  | true :: r, n, m, h => by have := runs_le r (n + 1) m h; rw [List.length_cons]; walk_at "mine:om"
  | false :: r, n, m, h => by
    rcases List.mem_cons.mp h with q | q
    · walk_at "mine:om"
    · have := runs_le r 0 m q; rw [List.length_cons]; walk_at "mine:om"
theorem runs_ne : ∀ (J : BL) (n : Nat), closed n J → J ≠ [] → runsGo n J ≠ []
  | [], n, _, h => absurd rfl h
  | [true], n, h, _ => by have : n + 1 = 0 := h; walk_at "mine:om"
  | true :: b :: r, n, h, _ => runs_ne (b :: r) (n + 1) h (by simp)
  | false :: r, n, _, _ => by simp [runsGo]
theorem runs_count : ∀ (w : BL) (n : Nat), (runsGo n (fin w)).length = w.count false + 1
  | [], n => rfl
  | true :: w, n => by
    show (runsGo (n + 1) (fin w)).length = _
    rw [runs_count w (n + 1)]; simp
  | false :: w, n => by
    show (n :: runsGo 0 (fin w)).length = _
    rw [List.length_cons, runs_count w 0]; simp
theorem run_free (l : List Nat) : ∀ r ∈ l.map (fun n => List.replicate n 97), 46 ∉ r := fun r hr => by
  obtain ⟨n, _, rfl⟩ := List.mem_map.mp hr
  intro q
  have := (List.mem_replicate.mp q).2
  walk_at "mine:om"
theorem step_dot (ms : List Str) (m : Str) : readStep (ms, m) (toS [46]) = (ms ++ [m], ("" : Str)) := by
  unfold readStep
  have : (toS [46] == ("." : Str)) = true := by decide +kernel
  rw [this]; rfl
theorem toS_ne {a b : List Nat} (h : a ≠ b) : (toS a == toS b) = false := by
  rw [beq_eq_false_iff_ne]; exact fun q => h (toS_inj q)
theorem scut1 (l : List Nat) : scut (toS l) none (some 1) = toS (l.take 1) := L_inj (by
  have := scut_to (toS l) 1
  rw [show ((1 : Nat) : Int) = 1 from rfl] at this
  rw [this, show L (toS l) = l from toS_list l]
  exact (toS_list _).symm)
theorem step_plain {ms : List Str} {l row : List Nat} (h1 : row ≠ [46]) (h2 : row.take 1 ≠ [46]) : readStep (ms, toS l) (toS row) = (ms, toS (l ++ (row ++ [10]))) := by
  unfold readStep
  have e : ("." : Str) = toS [46] := rfl
  rw [e, toS_ne h1, scut1, toS_ne h2]
  simp only [Bool.false_eq_true, if_false]
  congr 1
  refine L_inj ?_
  show (toS l ++ (toS row ++ ("\n" : Str))).cps.toList = _
  rw [Str.cps_append, Str.cps_append, Array.toList_append, Array.toList_append, toS_list, toS_list]
  exact (toS_list _).symm
theorem step_twice {ms : List Str} {l : List Nat} : readStep (ms, toS l) (toS [46, 46]) = (ms, toS (l ++ [46, 10])) := by
  unfold readStep
  have e : ("." : Str) = toS [46] := rfl
  rw [e, toS_ne (by decide), scut1]
  have : (toS ([46, 46].take 1) == toS [46]) = true := by decide +kernel
  rw [this]
  simp only [Bool.false_eq_true, if_false, if_true]
  congr 1
  refine L_inj ?_
  have h1 : (scut (toS [46, 46]) (some 1) none).cps.toList = [46] := by
    have := scut_from (toS [46, 46]) 1 (by rw [show L (toS [46, 46]) = [46, 46] from toS_list _]; decide)
    rw [show ((1 : Nat) : Int) = 1 from rfl] at this
    rw [show (scut (toS [46, 46]) (some 1) none).cps.toList = L (scut (toS [46, 46]) (some 1) none) from rfl, this, show L (toS [46, 46]) = [46, 46] from toS_list _]; rfl
  show (toS l ++ (scut (toS [46, 46]) (some 1) none ++ ("\n" : Str))).cps.toList = _
  rw [Str.cps_append, Str.cps_append, Array.toList_append, Array.toList_append, toS_list, h1]
  exact (toS_list _).symm
noncomputable def repL (c n : Nat) : List Nat := (List.replicate n [c, 46, 10, 10]).flatten
theorem repL_succ (c n : Nat) : repL c n ++ [c, 46, 10, 10] = repL c (n + 1) := by
  unfold repL
  rw [List.replicate_succ', List.flatten_append]; simp
theorem fold_raw {c : Nat} (hc : LetterOk c) : ∀ (J : BL) (n : Nat) (ms : List Str), (((J.flatMap (rowR c)).map toS).foldl readStep (ms, toS (repL c n))).1 = ms ++ (runsGo n J).map fun n => toS (repL c n)
  | [], n, ms => by simp [runsGo]
  | true :: r, n, ms => by
    have h46 := hc.n46
    rw [List.flatMap_cons, List.map_append, List.foldl_append]
    show (((r.flatMap (rowR c)).map toS).foldl readStep (readStep (readStep (ms, toS (repL c n)) (toS [c, 46])) (toS []))).1 = _
    rw [step_plain (by simp) (by simpa using h46), step_plain (by simp) (by simp)]
    have : repL c n ++ ([c, 46] ++ [10]) ++ ([] ++ [10]) = repL c (n + 1) := by rw [← repL_succ]; simp
    rw [this, fold_raw hc r (n + 1) ms]; rfl
  | false :: r, n, ms => by
    rw [List.flatMap_cons, List.map_append, List.foldl_append]
    show (((r.flatMap (rowR c)).map toS).foldl readStep (readStep (ms, toS (repL c n)) (toS [46]))).1 = _
    rw [step_dot]
    have : ("" : Str) = toS (repL c 0) := rfl
    rw [this, fold_raw hc r 0 (ms ++ [toS (repL c n)]), runsGo]; simp
theorem fold_sent1 {c : Nat} (hc : LetterOk c) : ∀ (w : BL) (l : List Nat) (ms : List Str), ((w.flatMap (rowS c)).map toS).foldl readStep (ms, toS l) = (ms, toS (l ++ w.flatMap (encM c)))
  | [], l, ms => by simp
  | true :: r, l, ms => by
    have h46 := hc.n46
    rw [List.flatMap_cons, List.map_append, List.foldl_append]
    show ((r.flatMap (rowS c)).map toS).foldl readStep (readStep (readStep (ms, toS l) (toS [c, 46])) (toS [])) = _
    rw [step_plain (by simp) (by simpa using h46), step_plain (by simp) (by simp), fold_sent1 hc r _ ms]
    congr 2
    simp [encM]
  | false :: r, l, ms => by
    rw [List.flatMap_cons, List.map_append, List.foldl_append]
    show ((r.flatMap (rowS c)).map toS).foldl readStep (readStep (ms, toS l) (toS [46, 46])) = _
    rw [step_twice, fold_sent1 hc r _ ms]
    congr 2
    simp [encM]
theorem fold_sent {c : Nat} (hc : LetterOk c) : ∀ (vs : List BL) (ms : List Str), (((vs.flatMap fun w => w.flatMap (rowS c) ++ [[46]]).map toS).foldl readStep (ms, "")).1 = ms ++ vs.map (MS c)
  | [], ms => by simp
  | w :: vs, ms => by
    rw [List.flatMap_cons, List.map_append, List.map_append, List.foldl_append, List.foldl_append]
    have : ("" : Str) = toS [] := rfl
    rw [this, fold_sent1 hc w [] ms]
    show (((vs.flatMap fun w => w.flatMap (rowS c) ++ [[46]]).map toS).foldl readStep (readStep (ms, toS ([] ++ w.flatMap (encM c))) (toS [46]))).1 = _
    rw [step_dot, fold_sent hc vs]
    simp [MS]
theorem rowsOf_rows {x : Str} {rows : List (List Nat)} (hne : rows ≠ []) (h13 : ∀ r ∈ rows, 13 ∉ r) (hx : L x = rowsCat [13, 10] rows) :
    Txt.split x "\r\n" = rows.map toS ++ [("" : Str)] ∧ rowsOf x = rows.map toS ∧ (partsBetween x (occurrences x "\r\n" 0 x.length (x.length + 1)) ("\r\n" : Str).length).length = rows.length + 1 := by
  have hs := split_rows (y := "\r\n") (y0 := 13) rfl (by decide +kernel) hne h13 hx
  refine ⟨hs, ?_, ?_⟩
  · unfold rowsOf; rw [hs]; simp
  · rw [(occ_rows (y := "\r\n") (y0 := 13) rfl h13 hx).2]; simp
theorem read_good {x : Str} {rows : List (List Nat)} (hne : rows ≠ []) (hx : L x = rowsCat [13, 10] rows) (hr : ∀ r ∈ rows, r.length ≤ 100 ∧ (∀ k ∈ r, k < 55296) ∧ 13 ∉ r ∧ 10 ∉ r) (hl : rows.length ≤ 900) : ReadOk x := by
  obtain ⟨h1, h2, h3⟩ := rowsOf_rows hne (fun r h => (hr r h).2.2.1) hx
  refine ⟨?_, by rw [h3]; walk_at "mine:om", by rw [h1]; simp; walk_at "mine:om", fun r hr' => ?_⟩
  · rw [str_len]
    show (L x).length ≤ _
    rw [hx]
    have hb : (rowsCat [13, 10] rows).length ≤ 102 * rows.length := by
      unfold rowsCat
      rw [← List.flatMap_def]
      exact flat_le _ 102 rows fun r h => by rw [List.length_append]; have := (hr r h).1; simp; walk_at "mine:om"
    walk_at "mine:om"
  · rw [h2] at hr'
    obtain ⟨l, hl', rfl⟩ := List.mem_map.mp hr'
    obtain ⟨a1, a2, a3, a4⟩ := hr l hl'
    refine ⟨by rw [toS_len]; exact a1, okS_of fun k hk => a2 k (by rw [show L (toS l) = l from toS_list l] at hk; exact hk), ?_, ?_, ?_⟩
    · have e : ("\r" : Str) = ⟨#[13]⟩ := rfl
      rw [e, contains_one, toS_list]; simpa using a3
    · have e : ("\n" : Str) = ⟨#[10]⟩ := rfl
      rw [e, contains_one, toS_list]; simpa using a4
    · rw [scut1]
      exact okS_of fun k hk => a2 k (by rw [show L (toS (l.take 1)) = l.take 1 from toS_list _] at hk; exact List.mem_of_mem_take hk)
end Mine
end
section
open PySem PySem.Spec PySem.Calls PyProof.Rows PySem.W PySem.Builtin PySem.Builtin.Str
namespace Mine
theorem cat'_cons (As : List BL) (k : Nat) (is : List Nat) : cat' As (k :: is) = As.getD k [] ++ cat' As is := by simp [cat']
theorem join_words {As : List BL} {is : List Nat} (h : ∀ k ∈ is, k < As.length) : L (joinAt (As.map spell) is) = spellL (cat' As is) := by
  rw [join_map spell [] h]
  clear h
  induction is with
  | nil => rfl
  | cons k is ih =>
    rw [List.map_cons, List.flatten_cons, ih, cat'_cons]
    show (spell (As.getD k [])).cps.toList ++ _ = _
    rw [spell_list]
    simp [spellL]
noncomputable def vsOf (ws : List BL) (is : List Nat) : List BL := is.map fun k => ws.getD k []
theorem join_sent (c : Nat) {ws : List BL} {is : List Nat} (h : ∀ k ∈ is, k < ws.length) : L (joinAt (SeOf c ws) is) = (vsOf ws is).flatMap (SL c) := by
  unfold SeOf
  rw [join_map (SS c) [] h, vsOf, List.flatMap_map, List.flatMap_def]
  congr 1
theorem pick_mails (c : Nat) {ws : List BL} {is : List Nat} (h : ∀ k ∈ is, k < ws.length) : pickAt (MaOf c ws) is = (vsOf ws is).map (MS c) := by
  unfold MaOf
  rw [pick_map (MS c) [] h, vsOf, List.map_map]; rfl
theorem cat_fin {ws : List BL} : ∀ {is : List Nat}, (∀ k ∈ is, k < ws.length) → cat' (ws.map fin) is = (vsOf ws is).flatMap fin
  | [], _ => rfl
  | k :: is, h => by
    rw [cat'_cons, cat_fin fun i hi => h i (.tail _ hi)]
    have hk := h k (.head _)
    have e : (ws.map fin).getD k [] = fin (ws.getD k []) := by
      rw [List.getD_eq_getElem?_getD, List.getD_eq_getElem?_getD, List.getElem?_map, List.getElem?_eq_getElem hk]; rfl
    rw [e]; rfl
theorem vs_len3 {ws : List BL} (h : WsOk ws) {is : List Nat} (hi : ∀ k ∈ is, k < 4) : ∀ w ∈ vsOf ws is, w.length ≤ 3 := fun w hw => by
  obtain ⟨k, hk, rfl⟩ := List.mem_map.mp hw
  have := hi k hk
  rw [List.getD_eq_getElem?_getD, List.getElem?_eq_getElem (by rw [h.len]; exact this)]
  exact h.len3 _ (List.getElem_mem _)
theorem sentCat (c : Nat) (vs : List BL) : vs.flatMap (SL c) = rowsCat [13, 10] (vs.flatMap fun w => w.flatMap (rowS c) ++ [[46]]) :=
  (rowsCat_flat [13, 10] (fun w => w.flatMap (rowS c) ++ [[46]]) (SL c) (fun w => (rows_sent c w).symm) vs).symm
theorem putA_list (c : Nat) : (putA c).cps.toList = [c, 46, 10, 10] := rfl
theorem part_list (c n : Nat) : Txt.mul (putA c) (n : Int) = toS (repL c n) := L_inj (by
  rw [show L (toS (repL c n)) = repL c n from toS_list _]
  show (Txt.mul (putA c) (n : Int)).cps.toList = _
  rw [mul_list, putA_list]; rfl)
theorem mulOk_small (c n : Nat) (hn : n ≤ 1000) : MulOk (putA c) (n : Int) := by
  have hl : (putA c).length = 4 := rfl
  refine ⟨?_, fun h1 h2 => ?_, fun h1 h2 => ?_⟩
  · simp only [Bool.or_eq_false_iff, decide_eq_false_iff_not]
    walk_at "mine:om"
  · rw [hl]
    have : (4 : Int) ≤ (2 ^ 63 - 1) / (n : Int) := by
      rw [Int.le_ediv_iff_mul_le (by walk_at "mine:om")]
      walk_at "mine:om"
    walk_at "mine:om"
  · rw [hl, Int.toNat_natCast]
    unfold tooLong
    have : sizeLine = 16777216 := by decide
    rw [this]
    simp; walk_at "mine:om"
theorem parts_eq (c : Nat) {x : Str} {J : BL} (hx : L x = spellL J) (hc : closed 0 J) (hne : J ≠ []) :
    Txt.split x "." = ((runsGo 0 J).map fun n => toS (List.replicate n 97)) ++ [("" : Str)] ∧ partsOf c x = (runsGo 0 J).map (fun n => toS (repL c n)) ∧
    (partsBetween x (occurrences x "." 0 x.length (x.length + 1)) ("." : Str).length).length = (runsGo 0 J).length + 1 := by
  have hr : L x = rowsCat [46] ((runsGo 0 J).map fun n => List.replicate n 97) := by rw [← runs_rows J 0 hc, hx]; rfl
  have hn : (runsGo 0 J).map (fun n => List.replicate n 97) ≠ [] := by simp [runs_ne J 0 hc hne]
  have hs := split_rows (y := ".") (y0 := 46) rfl (by decide +kernel) hn (run_free _) hr
  rw [List.map_map] at hs
  refine ⟨hs, ?_, ?_⟩
  · unfold partsOf
    rw [hs, List.dropLast_concat, List.map_map]
    apply List.map_congr_left
    intro n _
    show Txt.mul (putA c) (((toS (List.replicate n 97)).length : Nat) : Int) = _
    rw [toS_len, List.length_replicate, part_list]
  · rw [(occ_rows (y := ".") (y0 := 46) rfl (run_free _) hr).2]; simp
theorem raw_rows_ok {c : Nat} (hc : LetterOk c) (J : BL) : ∀ r ∈ J.flatMap (rowR c), r.length ≤ 100 ∧ (∀ k ∈ r, k < 55296) ∧ 13 ∉ r ∧ 10 ∉ r := fun r hr => by
  obtain ⟨b, _, hb⟩ := List.mem_flatMap.mp hr
  have h1 := hc.lt
  have h2 := hc.n10
  have h3 := hc.n13
  cases b
  · simp only [rowR, Bool.false_eq_true, if_false, List.mem_singleton] at hb
    subst hb; simp
  · simp only [rowR, if_true, List.mem_cons, List.not_mem_nil, or_false] at hb
    rcases hb with rfl | rfl
    · simp [h1]; walk_at "mine:om"
    · simp
theorem sent_rows_ok {c : Nat} (hc : LetterOk c) (vs : List BL) : ∀ r ∈ (vs.flatMap fun w => w.flatMap (rowS c) ++ [[46]]), r.length ≤ 100 ∧ (∀ k ∈ r, k < 55296) ∧ 13 ∉ r ∧ 10 ∉ r := fun r hr => by
  obtain ⟨w, _, hw⟩ := List.mem_flatMap.mp hr
  have h1 := hc.lt
  have h2 := hc.n10
  have h3 := hc.n13
  rcases List.mem_append.mp hw with q | q
  · obtain ⟨b, _, hb⟩ := List.mem_flatMap.mp q
    cases b
    · simp only [rowS, Bool.false_eq_true, if_false, List.mem_singleton] at hb
      subst hb; simp
    · simp only [rowS, if_true, List.mem_cons, List.not_mem_nil, or_false] at hb
      rcases hb with rfl | rfl
      · simp [h1]; walk_at "mine:om"
      · simp
  · rw [List.mem_singleton] at q
    subst q; simp
theorem count_nl {c : Nat} (hc : LetterOk c) (w : BL) : Txt.count (MS c w) "\n" = ((w.flatMap (rowR c)).length : Int) :=
  count_rows (y := "\n") (y0 := 10) rfl (fun r hr => (raw_rows_ok hc w r hr).2.2.2) (by show L (MS c w) = rowsCat [10] _; rw [← rows_mail]; exact MS_list c w)
theorem count_dot (w : BL) : Txt.count (spell (fin w)) "." = (w.count false : Int) + 1 := by
  have h := count_rows (x := spell (fin w)) (y := ".") (y0 := 46) rfl (run_free (runsGo 0 (fin w))) (by show (spell (fin w)).cps.toList = rowsCat [46] _; rw [← runs_rows (fin w) 0 (by have := closed_fin (J := []) rfl w 0; rwa [List.append_nil] at this), spell_list]; rfl)
  rw [h, List.length_map, runs_count]; walk_at "mine:om"
theorem len_word (c : Nat) : ∀ w : BL, (E c w).length = (w.flatMap (encM c)).length + (w.flatMap (rowR c)).length
  | [] => rfl
  | b :: w => by
    have ih := len_word c w
    rw [E_cons, List.flatMap_cons, List.flatMap_cons, List.length_append, List.length_append, List.length_append, ih]
    cases b <;> simp [encR, encM, rowR] <;> walk_at "mine:om"
theorem len_sent (c : Nat) : ∀ w : BL, (SL c w).length = (E c (fin w)).length + w.count false
  | [] => rfl
  | b :: w => by
    have ih := len_sent c w
    rw [SL_cons, show fin (b :: w) = b :: fin w from rfl, E_cons, List.length_append, List.length_append, ih]
    cases b <;> simp [encR, encS] <;> walk_at "mine:om"
theorem len_raw (c : Nat) (w : BL) : (E c (fin w)).length = (w.flatMap (encM c)).length + (w.flatMap (rowR c)).length + 3 := by
  unfold fin
  rw [E_append, List.length_append, len_word]; rfl
theorem facts2 {c : Nat} (hc : LetterOk c) {ws : List BL} (h : WsOk ws) {is : List Nat} (hi : ∀ k ∈ is, k < 4) (hl : is.length ≤ 15) (hne : is ≠ []) : Facts2 c (WdOf ws) (MaOf c ws) (RwOf c ws) (SeOf c ws) is := by
  have hA := h.as
  have lA : (ws.map fin).length = 4 := by rw [List.length_map, h.len]
  have hiA : ∀ k ∈ is, k < (ws.map fin).length := fun k hk => by rw [lA]; exact hi k hk
  have hiW : ∀ k ∈ is, k < ws.length := fun k hk => by rw [h.len]; exact hi k hk
  have ewd : (WdOf ws).length = 4 := by unfold WdOf; rw [List.length_map, lA]
  have erw : (RwOf c ws).length = 4 := by unfold RwOf; rw [List.length_map, lA]
  have ese : (SeOf c ws).length = 4 := by unfold SeOf; rw [List.length_map, h.len]
  have v3 := vs_len3 h hi
  have vl : (vsOf ws is).length = is.length := by simp [vsOf]
  have jW : L (joinAt (WdOf ws) is) = spellL (cat' (ws.map fin) is) := join_words hiA
  have jR : L (joinAt (RwOf c ws) is) = E c (cat' (ws.map fin) is) := join_raw c hiA
  have jS := join_sent c hiW
  have pM := pick_mails c hiW
  have hcl : closed 0 (cat' (ws.map fin) is) := closed_cat (fun u hu => by obtain ⟨w, _, e⟩ := hA.mem u hu; exact ⟨w, e⟩) is hiA
  have eJ := cat_fin hiW
  have lJ : (cat' (ws.map fin) is).length ≤ 60 := by
    rw [eJ]
    have := flat_le fin 4 (vsOf ws is) fun w hw => by have := v3 w hw; simp [fin]; walk_at "mine:om"
    walk_at "mine:om"
  have nJ : cat' (ws.map fin) is ≠ [] := by
    obtain ⟨k, r, rfl⟩ := List.exists_cons_of_ne_nil hne
    rw [eJ]
    simp [vsOf, fin]
  obtain ⟨p1, p2, p3⟩ := parts_eq c jW hcl nJ
  have rl := runs_len (cat' (ws.map fin) is) 0
  have rle := runs_le (cat' (ws.map fin) is) 0
  have rne := runs_ne _ 0 hcl nJ
  have wdl : ∀ x ∈ WdOf ws, x.length ≤ 1000 := fun x hx => by
    obtain ⟨u, hu, rfl⟩ := List.mem_map.mp hx
    rw [spell_length]
    have := hA.len4 u hu; walk_at "mine:om"
  have okMS : ∀ w : BL, w.length ≤ 3 → okS (MS c w) = true ∧ (MS c w).length ≤ 1000 := fun w hw => by
    refine ⟨okS_of fun k hk => ?_, ?_⟩
    · rw [MS_list] at hk
      obtain ⟨b, _, hb⟩ := List.mem_flatMap.mp hk
      exact (enc_lt hc b).2.2 k hb
    · rw [str_len]
      have e := congrArg List.length (MS_list c w)
      have := flat_le (encM c) 6 w fun b _ => (enc_len c b).2.2
      show (L (MS c w)).length ≤ 1000
      walk_at "mine:om"
  have okp : ∀ x ∈ pickAt (MaOf c ws) is, okS x = true ∧ x.length ≤ 1000 := fun x hx => by
    rw [pM] at hx
    obtain ⟨w, hw, rfl⟩ := List.mem_map.mp hx
    exact okMS w (v3 w hw)
  have okq : ∀ x ∈ partsOf c (joinAt (WdOf ws) is), okS x = true := fun x hx => by
    rw [p2] at hx
    obtain ⟨n, hn, rfl⟩ := List.mem_map.mp hx
    refine okS_of fun k hk => ?_
    rw [show L (toS (repL c n)) = repL c n from toS_list _] at hk
    obtain ⟨l, hl', hm⟩ := List.mem_flatten.mp hk
    rw [(List.mem_replicate.mp hl').2] at hm
    have := hc.lt
    simp only [List.mem_cons, List.not_mem_nil, or_false] at hm
    walk_at "mine:om"
  have lparts : (partsOf c (joinAt (WdOf ws) is)).length = (runsGo 0 (cat' (ws.map fin) is)).length := by rw [p2, List.length_map]
  have npost : pickAt (MaOf c ws) is ≠ [] := by unfold pickAt; simp [hne]
  have nparts : partsOf c (joinAt (WdOf ws) is) ≠ [] := by rw [p2]; simp [rne]
  have rowsR : L (joinAt (RwOf c ws) is) = rowsCat [13, 10] ((cat' (ws.map fin) is).flatMap (rowR c)) := by rw [jR, rows_raw]
  have rowsS : L (joinAt (SeOf c ws) is) = rowsCat [13, 10] ((vsOf ws is).flatMap fun w => w.flatMap (rowS c) ++ [[46]]) := by rw [jS, sentCat]
  have nrR : (cat' (ws.map fin) is).flatMap (rowR c) ≠ [] := by
    obtain ⟨b, r, e⟩ := List.exists_cons_of_ne_nil nJ
    rw [e]
    cases b <;> simp [rowR]
  have nrS : ((vsOf ws is).flatMap fun w => w.flatMap (rowS c) ++ [[46]]) ≠ [] := by
    obtain ⟨k, r, rfl⟩ := List.exists_cons_of_ne_nil hne
    simp [vsOf]
  have lrR : ((cat' (ws.map fin) is).flatMap (rowR c)).length ≤ 900 := by
    have := flat_le (rowR c) 2 (cat' (ws.map fin) is) fun b _ => by cases b <;> simp [rowR]
    walk_at "mine:om"
  have lrS : ((vsOf ws is).flatMap fun w => w.flatMap (rowS c) ++ [[46]]).length ≤ 900 := by
    have := flat_le (fun w : BL => w.flatMap (rowS c) ++ [[46]]) 7 (vsOf ws is) fun w hw => by
      have a := flat_le (rowS c) 2 w fun b _ => by cases b <;> simp [rowS]
      have b := v3 w hw
      rw [List.length_append, List.length_singleton]; walk_at "mine:om"
    walk_at "mine:om"
  have okR := raw_rows_ok hc (cat' (ws.map fin) is)
  have okSr := sent_rows_ok hc (vsOf ws is)
  obtain ⟨ys, y1, y2, y3⟩ := sort_ex (pickAt (MaOf c ws) is)
  obtain ⟨zs, z1, z2, z3⟩ := sort_ex (partsOf c (joinAt (WdOf ws) is))
  have nys : ys ≠ [] := fun q => by subst q; exact npost (List.nil_perm.mp y1)
  have nzs : zs ≠ [] := fun q => by subst q; exact nparts (List.nil_perm.mp z1)
  have lpost : (pickAt (MaOf c ws) is).length ≤ 15 := by unfold pickAt; rw [List.length_map]; exact hl
  exact {
    lt := hi
    len := hl
    jw := pick_small (fun k hk => by rw [ewd]; exact hi k hk) wdl (by walk_at "mine:om")
    jwl := by
      rw [str_len]
      show (L (joinAt (WdOf ws) is)).length ≤ 1000
      rw [jW]; simp [spellL]; walk_at "mine:om"
    sp1 := by rw [p3]; walk_at "mine:om"
    sp2 := by rw [p1]; simp; walk_at "mine:om"
    mul := fun p hp => by
      rw [p1] at hp
      rcases List.mem_append.mp hp with q | q
      · obtain ⟨n, hn, rfl⟩ := List.mem_map.mp q
        have := rle n hn
        rw [toS_len, List.length_replicate]
        exact ⟨mulOk_small c n (by walk_at "mine:om"), by walk_at "mine:om"⟩
      · rw [List.mem_singleton] at q
        subst q
        exact ⟨mulOk_small c 0 (by walk_at "mine:om"), by decide⟩
    js := pick_small (fun k hk => by rw [ese]; exact hi k hk) (fun x hx => by obtain ⟨u, hu, rfl⟩ := List.mem_map.mp hx; exact (SS_ok hc u (by have := h.len3 u hu; walk_at "mine:om")).2) (by walk_at "mine:om")
    jr := pick_small (fun k hk => by rw [erw]; exact hi k hk) (fun x hx => by obtain ⟨u, hu, rfl⟩ := List.mem_map.mp hx; exact (RS_ok hc u (by have := hA.len4 u hu; walk_at "mine:om")).2) (by walk_at "mine:om")
    okp := okp
    okq := okq
    lp := by rw [lparts]; walk_at "mine:om"
    np := npost
    nq := nparts
    rdS := read_good nrS rowsS okSr lrS
    rdR := read_good nrR rowsR okR lrR
    eqS := by
      unfold readL readRows
      rw [(rowsOf_rows nrS (fun r hr => (okSr r hr).2.2.1) rowsS).2.1, pM]
      exact (fold_sent hc (vsOf ws is) []).trans (List.nil_append _)
    eqR := by
      unfold readL readRows
      rw [(rowsOf_rows nrR (fun r hr => (okR r hr).2.2.1) rowsR).2.1, p2]
      exact (fold_raw hc _ 0 []).trans (List.nil_append _)
    len1 := by
      rw [str_len]
      show ((L (joinAt (RwOf c ws) is)).length : Int) = _
      rw [jR, eJ, pM]
      unfold lenSum
      rw [List.map_map]
      generalize vsOf ws is = vs
      induction vs with
      | nil => rfl
      | cons w vs ih =>
        rw [List.flatMap_cons, E_append, List.length_append, List.map_cons, List.sum_cons, ← ih]
        show _ = ((MS c w).length : Int) + Txt.count (MS c w) "\n" + 3 + _
        rw [count_nl hc, len_raw, str_len, show (MS c w).cps.toList = _ from MS_list c w]
        walk_at "mine:om"
    len2 := by
      rw [str_len, str_len]
      show ((L (joinAt (SeOf c ws) is)).length : Int) - ((L (joinAt (RwOf c ws) is)).length : Int) = _
      rw [jR, jS, eJ]
      have : dotSum (WdOf ws) is = ((vsOf ws is).map fun w => (w.count false : Int)).sum := by
        unfold dotSum vsOf
        rw [List.map_map]
        congr 1
        apply List.map_congr_left
        intro k hk
        unfold WdOf
        rw [getD_map' spell [] (hiA k hk)]
        have e : (ws.map fin).getD k [] = fin (ws.getD k []) := by
          rw [List.getD_eq_getElem?_getD, List.getD_eq_getElem?_getD, List.getElem?_map, List.getElem?_eq_getElem (hiW k hk)]; rfl
        rw [e, count_dot]
        show _ = ((ws.getD k []).count false : Int)
        walk_at "mine:om"
      rw [this]
      generalize vsOf ws is = vs
      induction vs with
      | nil => rfl
      | cons w vs ih =>
        rw [List.flatMap_cons, List.flatMap_cons, E_append, List.length_append, List.length_append, List.map_cons, List.sum_cons, ← ih, len_sent]
        walk_at "mine:om"
    wdl := wdl
    u1 := uld_same _
    u2 := uld_bags _ _
    srt := ⟨ys, zs, y3, z3, nys, nzs, by rw [y1.length_eq]; walk_at "mine:om", by rw [z1.length_eq, lparts]; walk_at "mine:om", fun x hx => (okp x (y1.mem_iff.mp hx)).1, fun x hx => okq x (z1.mem_iff.mp hx), sld_alone y2 z2 nys nzs⟩ }
end Mine
end
section
open PySem PySem.Spec PySem.Calls PyProof.Rows PySem.W PySem.Builtin PySem.Builtin.Str
namespace Mine
theorem odd_contains (q : Nat) : Txt.contains "\r\n." (oneS q) = isOdd q := by
  rw [contains_one]
  have e : ("\r\n." : Str).cps.toList = [13, 10, 46] := rfl
  rw [e]
  unfold isOdd
  by_cases h1 : q = 13
  · subst h1; rfl
  · by_cases h2 : q = 10
    · subst h2; rfl
    · by_cases h3 : q = 46
      · subst h3; rfl
      · simp [h1, h2, h3]
section
variable {C : Cx} {a : Addr} {cd : Value} {L : Addr} {X : List Addr} {h1 : ∀ b ∈ X, b ∉ L :: C.F} {h2 : ∀ p ∈ cellsFrom (L + 1) (scopeOf 17).names [], p.2 ∉ X}
theorem law_body {script : List Int} (hl : script.length ≤ 63) (ev : LawEnv (calleeCx C (nameOf 17) (scopeOf 17) a cd L X h1 h2)) (hh : C.A.handled = none) :
    Exs (calleeCx C (nameOf 17) (scopeOf 17) a cd L X h1 h2) [("script", .val (.list (dI script)))] (bodyOf 17) (fun fl _ => fl = .ret (.bool true)) := by
  have hn := numsOf_len script
  have hc := letterOf_ok (numsOf script)
  refine law_A hl hh odd_contains ?_
  refine law_B ev hh hn (fits hc) ?_
  generalize letterOf (numsOf script) = c at hc ⊢
  have hw := picks_ok (numsOf script) hn
  rw [wd_eq, ma_eq, rw_eq hc, se_eq hc]
  generalize (picks ((numsOf script).take 4)).2.map (·.1) = ws at hw ⊢
  obtain ⟨w, r, f1, hres⟩ := facts1 hc hw
  have lA : (ws.map fin).length = 4 := by rw [List.length_map, hw.len]
  have hl4 : (WdOf ws).length = 4 ∧ (MaOf c ws).length = 4 ∧ (RwOf c ws).length = 4 ∧ (SeOf c ws).length = 4 := by
    refine ⟨?_, ?_, ?_, ?_⟩
    · unfold WdOf; rw [List.length_map, lA]
    · unfold MaOf; rw [List.length_map, hw.len]
    · unfold RwOf; rw [List.length_map, lA]
    · unfold SeOf; rw [List.length_map, hw.len]
  have okm : ∀ x ∈ MaOf c ws, okS x = true := fun x hx => by
    obtain ⟨u, hu, rfl⟩ := List.mem_map.mp hx
    refine okS_of fun k hk => ?_
    rw [MS_list] at hk
    obtain ⟨b, _, hb⟩ := List.mem_flatMap.mp hk
    exact (enc_lt hc b).2.2 k hb
  refine law_C1 ev hh f1 ?_
  refine law_C2 hh f1 ?_
  have hD := @law_D C a cd L X h1 h2 (numsOf script) c (WdOf ws) (MaOf c ws) (RwOf c ws) (SeOf c ws) w (fun fl _ => fl = .ret (.bool true)) ev hh hl4 hn
  have hE := @law_E C a cd L X h1 h2 (numsOf script) c (WdOf ws) (MaOf c ws) (RwOf c ws) (SeOf c ws) w ev hh hl4 okm (fun y hy => by obtain ⟨y1, y2, y3, y4, _⟩ := f1.way y hy; exact ⟨y1, y2, y3, y4⟩) uld_bags
  generalize (bodyOf 17).drop 17 = r17 at hD hE
  generalize (bodyOf 17).drop 16 = r16 at hD ⊢
  refine hD (fun is his => ?_) hE
  · have w1 : (∀ k ∈ way1 ((numsOf script).getD 4 0), k < 4) ∧ (way1 ((numsOf script).getD 4 0)).length = 8 := by
      generalize (numsOf script).getD 4 0 = n
      refine ⟨fun k hk => ?_, by simp [way1]⟩
      rcases List.mem_append.mp hk with q | q
      · simp only [List.mem_cons, List.not_mem_nil, or_false] at q; walk_at "mine:om"
      · obtain ⟨i, _, rfl⟩ := List.mem_map.mp q
        exact Nat.mod_lt _ (by decide)
    have one : Facts2 c (WdOf ws) (MaOf c ws) (RwOf c ws) (SeOf c ws) (way1 ((numsOf script).getD 4 0)) := facts2 hc hw w1.1 (by walk_at "mine:om") (fun q => by have := w1.2; rw [q] at this; cases this)
    cases w with
    | none =>
      have : is = way1 ((numsOf script).getD 4 0) := by simpa [waysOf] using his
      rw [this]; exact one
    | some y =>
      obtain ⟨y1, y2, y3, y4, y5, y6, _, _⟩ := f1.way y rfl
      simp only [waysOf, List.mem_cons, List.not_mem_nil, or_false] at his
      rcases his with q | q | q
      · rw [q]; exact one
      · rw [q]; exact facts2 hc hw y1 y3 y5
      · rw [q]; exact facts2 hc hw y2 y4 y6
end
end Mine
end
section
open PySem PySem.Spec PySem.Calls PyProof.Rows PySem.W PySem.Builtin PySem.Builtin.Str
namespace Mine
theorem ns_some_of {K : Frag} {h : Heap} {N : Addr} {mg : Str → Option Value} {n : Str} {v : Value} (X : K.In h) (G : h.Ns N mg) (e : nsIn K N n = some (some v)) : mg n = some v := by
  obtain ⟨o, es, ep, ho, hd, _, hf⟩ := G
  unfold nsIn at e
  split at e
  · rename_i c d es' n' sl q
    have := X _ _ q
    rw [ho] at this
    cases this
    cases hd
    split at e
    · rename_i en he
      rw [← hf]
      unfold nsFind findBy
      rw [← Array.find?_toList, he]
      simp only [Option.some.injEq] at e
      rw [← e]; rfl
    · split at e <;> cases e
  · cases e
noncomputable def fdIn (K : Frag) (a : Addr) : Option FuncData := match K.lookup a with
  | some ⟨_, _, .func fd, _⟩ => some fd
  | _ => none
noncomputable def pmIn (K : Frag) (a : Addr) : Value := ((fdIn K a).map (·.pyModule)).getD .none
noncomputable def cdIn (K : Frag) (a : Addr) : Value := ((fdIn K a).map (·.code)).getD .none
noncomputable def docIn (K : Frag) (a : Addr) : Value := ((fdIn K a).map (·.doc)).getD .none
theorem def_of {K : Frag} {h : Heap} {a : Addr} {i : Nat} (X : K.In h) (e : fdIn K a = some (docDef (nameOf i) (paramsOf i) (bodyOf i) (scopeOf i) (pmIn K a) (cdIn K a) (docIn K a))) (c : codeIn K (cdIn K a) (nameOf i) = true) : DefAt h a i := by
  refine ⟨pmIn K a, cdIn K a, docIn K a, ⟨?_, codeRec_of X c⟩⟩
  unfold fdIn at e
  split at e
  · rename_i c' d fd sl q
    exact ⟨_, X _ _ q, by simp only [Option.some.injEq] at e; rw [← e]⟩
  · cases e
noncomputable def patIn (K : Frag) (a : Addr) : Option (Array Nat) := match K.lookup a with
  | some ⟨.type c, none, .fields fs, sl⟩ => if c == "re.Pattern" && sl.size == 0 && Builtin.Re.reRawNat (fs.getD 2 .none) == 0 && Builtin.Re.reRawNat (fs.getD 6 .none) == 0 then (match fs.getD 5 .none with
      | .ref T => (match K.lookup T with
        | some ⟨.type c2, none, .seq ws _, sl2⟩ => if c2 == "tuple" && sl2.size == 0 then some ((ws.map Builtin.Re.reRawOf).map (·.toNat)) else none
        | _ => none)
      | _ => none) else none
  | _ => none
theorem pat_of {K : Frag} {h : Heap} {a : Addr} {code : Array Nat} (X : K.In h) (e : patIn K a = some code) : PatAt h a code := by
  unfold patIn at e
  split at e
  · rename_i c fs sl q
    split at e
    · rename_i hb
      simp only [Bool.and_eq_true, beq_iff_eq, Array.size_eq_zero_iff] at hb
      obtain ⟨⟨⟨rfl, rfl⟩, h3⟩, h4⟩ := hb
      split at e
      · rename_i T hf
        split at e
        · rename_i c2 ws n sl2 q2
          split at e
          · rename_i hb2
            simp only [Bool.and_eq_true, beq_iff_eq, Array.size_eq_zero_iff] at hb2
            obtain ⟨rfl, rfl⟩ := hb2
            simp only [Option.some.injEq] at e
            exact ⟨fs, T, ws, n, X _ _ q, hf, h3, h4, X _ _ q2, e⟩
          · cases e
        · cases e
      · cases e
    · cases e
  · cases e
noncomputable def crlfTok (K : Frag) : Tok := match nsIn K mainGlobals "CRLF" with | some (some (.str _ t)) => t | _ => 0
structure KOk (K : Frag) : Prop where
  d38 : fdIn K 38 = some (docDef (nameOf 2) (paramsOf 2) (bodyOf 2) (scopeOf 2) (pmIn K 38) (cdIn K 38) (docIn K 38)) ∧ codeIn K (cdIn K 38) (nameOf 2) = true
  d45 : fdIn K 45 = some (docDef (nameOf 3) (paramsOf 3) (bodyOf 3) (scopeOf 3) (pmIn K 45) (cdIn K 45) (docIn K 45)) ∧ codeIn K (cdIn K 45) (nameOf 3) = true
  d62 : fdIn K 62 = some (docDef (nameOf 8) (paramsOf 8) (bodyOf 8) (scopeOf 8) (pmIn K 62) (cdIn K 62) (docIn K 62)) ∧ codeIn K (cdIn K 62) (nameOf 8) = true
  d69 : fdIn K 69 = some (docDef (nameOf 9) (paramsOf 9) (bodyOf 9) (scopeOf 9) (pmIn K 69) (cdIn K 69) (docIn K 69)) ∧ codeIn K (cdIn K 69) (nameOf 9) = true
  d76 : fdIn K 76 = some (docDef (nameOf 11) (paramsOf 11) (bodyOf 11) (scopeOf 11) (pmIn K 76) (cdIn K 76) (docIn K 76)) ∧ codeIn K (cdIn K 76) (nameOf 11) = true
  d81 : fdIn K 81 = some (docDef (nameOf 12) (paramsOf 12) (bodyOf 12) (scopeOf 12) (pmIn K 81) (cdIn K 81) (docIn K 81)) ∧ codeIn K (cdIn K 81) (nameOf 12) = true
  d88 : fdIn K 88 = some (docDef (nameOf 13) (paramsOf 13) (bodyOf 13) (scopeOf 13) (pmIn K 88) (cdIn K 88) (docIn K 88)) ∧ codeIn K (cdIn K 88) (nameOf 13) = true
  d95 : fdIn K 95 = some (docDef (nameOf 14) (paramsOf 14) (bodyOf 14) (scopeOf 14) (pmIn K 95) (cdIn K 95) (docIn K 95)) ∧ codeIn K (cdIn K 95) (nameOf 14) = true
  d100 : fdIn K 100 = some (docDef (nameOf 15) (paramsOf 15) (bodyOf 15) (scopeOf 15) (pmIn K 100) (cdIn K 100) (docIn K 100)) ∧ codeIn K (cdIn K 100) (nameOf 15) = true
  d105 : fdIn K 105 = some (docDef (nameOf 16) (paramsOf 16) (bodyOf 16) (scopeOf 16) (pmIn K 105) (cdIn K 105) (docIn K 105)) ∧ codeIn K (cdIn K 105) (nameOf 16) = true
  d110 : fdIn K 110 = some (docDef (nameOf 17) (paramsOf 17) (bodyOf 17) (scopeOf 17) (pmIn K 110) (cdIn K 110) (docIn K 110)) ∧ codeIn K (cdIn K 110) (nameOf 17) = true
  g1 : nsIn K mainGlobals "sorted_list_difference" = some (some (.ref 38)) ∧ nsIn K mainGlobals "unorderable_list_difference" = some (some (.ref 45)) ∧ nsIn K mainGlobals "quotedata" = some (some (.ref 62)) ∧ nsIn K mainGlobals "_fix_eols" = some (some (.ref 69)) ∧
    nsIn K mainGlobals "_law_rests" = some (some (.ref 76)) ∧ nsIn K mainGlobals "_law_rounds" = some (some (.ref 81)) ∧ nsIn K mainGlobals "_law_two_hands" = some (some (.ref 88)) ∧ nsIn K mainGlobals "_law_read" = some (some (.ref 95)) ∧
    nsIn K mainGlobals "_law_bags" = some (some (.ref 100)) ∧ nsIn K mainGlobals "_law_alone" = some (some (.ref 105)) ∧ nsIn K mainGlobals "_twin_re_1" = some (some (.ref 50)) ∧ nsIn K mainGlobals "_twin_re_2" = some (some (.ref 55)) ∧ nsIn K mainGlobals "law" = some (some (.ref 110))
  g2 : nsIn K mainGlobals "len" = some none ∧ nsIn K mainGlobals "sorted" = some none ∧ nsIn K mainGlobals "sum" = some none ∧ nsIn K mainGlobals "chr" = some none ∧ nsIn K mainGlobals "range" = some none ∧ nsIn K mainGlobals "list" = some none ∧ nsIn K mainGlobals "set" = some none ∧
    nsIn K mainGlobals "IndexError" = some none ∧ nsIn K mainGlobals "ValueError" = some none
  crlf : nsIn K mainGlobals "CRLF" = some (some (.str "\r\n" (crlfTok K)))
  p1 : patIn K 50 = some c1
  p2 : patIn K 55 = some c2
  st : nsIn K cStatics sharingNotToldKey = some none
theorem boot : bootBuiltins "len" = some (.builtin "len") ∧ bootBuiltins "sorted" = some (.builtin "sorted") ∧ bootBuiltins "sum" = some (.builtin "sum") ∧ bootBuiltins "chr" = some (.builtin "chr") ∧ bootBuiltins "range" = some (.type "range") ∧ bootBuiltins "list" = some (.type "list") ∧ bootBuiltins "set" = some (.type "set") ∧
    bootBuiltins "IndexError" = some (.type "IndexError") ∧ bootBuiltins "ValueError" = some (.type "ValueError") := ⟨by kernel_rfl, by kernel_rfl, by kernel_rfl, by kernel_rfl, by kernel_rfl, by kernel_rfl, by kernel_rfl, by kernel_rfl, by kernel_rfl⟩
theorem enter17 (pm cd doc : Value) : En1 pm cd doc 17 "script" := ⟨by walk_at "mine:bind1", all1 (.inl rfl), by decide, rfl, rfl, rfl, by
  intro L p hp
  have hp' : p ∈ ([("sent", L + 1 + 1 + 1 + 1 + 1 + 1), ("raw", L + 1 + 1 + 1 + 1 + 1), ("mails", L + 1 + 1 + 1 + 1), ("words", L + 1 + 1 + 1), ("put", L + 1 + 1), ("numbers", L + 1)] : List (Str × Addr)) := hp
  simp only [List.mem_cons, List.not_mem_nil, or_false] at hp'
  rcases hp' with rfl | rfl | rfl | rfl | rfl | rfl <;> rfl⟩
end Mine
end
section
open PySem PySem.Spec PySem.Calls PyProof.Rows PySem.W PySem.Builtin PySem.Builtin.Str
namespace Mine
theorem ints_rdl {W : List Addr} {h : Heap} : ∀ {its : List Value} {ns : List Int}, IntsAre its ns → RdL W h (dI ns) its := by
  intro its ns p
  induction p with
  | nil => exact RdL.nil
  | cons n t _ ih => exact RdL.cons Rd.int ih
noncomputable def topCx (prog : Program) (w : World) (h : Heap) (cd : Value) : Cx :=
  { prog, w, A := callerA, env := envOfC (nameOf 17) (scopeOf 17) 0 110 cd, F := [], B := h, X := [], xF := (fun _ h => nomatch h), xC := (fun _ _ h => nomatch h), K := [] }
theorem all_cons {P : Str → Value → Prop} {a : Str} {b : Value} {l : List (Str × Value)} (h : P a b) (r : ∀ x v, (x, v) ∈ l → P x v) : ∀ x v, (x, v) ∈ (a, b) :: l → P x v := fun x v m => by
  cases m with
  | head => exact h
  | tail _ m => exact r x v m
theorem top_has {K : Frag} {prog : Program} {w : World} {h : Heap} {cd : Value} {p : Program} {loose : List Str} {mean : ExcName → Option Value} {mg mb : Str → Option Value} (X : K.In h) (T : Top p loose mean mg mb h) (k : KOk K) : Has (topCx prog w h cd) [] [] h where
  fun_ := rfl
  genv := ⟨rfl, rfl⟩
  units := by show 4 + 300 < cLine; decide
  depth := by show callerA.depth < recursionLimit; decide +kernel
  glob := fun x v hm => by
    refine ⟨mg, T.g, ?_⟩
    obtain ⟨a1, a2, a3, a4, a5, a6, a7, a8, a9, a10, a11, a12, a13⟩ := k.g1
    obtain ⟨b1, b2, b3, b4, b5, b6, b7, b8, b9⟩ := k.g2
    obtain ⟨c1, c2, c3, c4, c5, c6, c7, c8, c9⟩ := boot
    have bi : ∀ {x : Str} {v : Value}, nsIn K mainGlobals x = some none → bootBuiltins x = some v → x ≠ "__name__" → mg x = some v ∨ (mg x = none ∧ ∃ mb, h.Ns builtinsNs mb ∧ mb x = some v) := fun e1 e2 hn =>
      .inr ⟨ns_none_of X T.g e1, mb, T.b, (T.builtins _ hn).trans e2⟩
    let P : Str → Value → Prop := fun x v => mg x = some v ∨ (mg x = none ∧ ∃ mb, h.Ns builtinsNs mb ∧ mb x = some v)
    have all : ∀ x v, (x, v) ∈ gtable → P x v := by
      refine all_cons (P := P) (bi b1 c1 (by decide)) (all_cons (P := P) (bi b2 c2 (by decide)) (all_cons (P := P) (bi b3 c3 (by decide)) (all_cons (P := P) (bi b4 c4 (by decide)) (all_cons (P := P) (bi b5 c5 (by decide)) (all_cons (P := P) (bi b6 c6 (by decide)) (all_cons (P := P) (bi b7 c7 (by decide)) (all_cons (P := P) (bi b8 c8 (by decide)) (all_cons (P := P) (bi b9 c9 (by decide)) (all_cons (P := P) (.inl (ns_some_of X T.g a1)) (all_cons (P := P) (.inl (ns_some_of X T.g a2)) (all_cons (P := P) (.inl (ns_some_of X T.g a3)) (all_cons (P := P) (.inl (ns_some_of X T.g a4)) (all_cons (P := P) (.inl (ns_some_of X T.g a5)) (all_cons (P := P) (.inl (ns_some_of X T.g a6)) (all_cons (P := P) (.inl (ns_some_of X T.g a7)) (all_cons (P := P) (.inl (ns_some_of X T.g a8)) (all_cons (P := P) (.inl (ns_some_of X T.g a9)) (all_cons (P := P) (.inl (ns_some_of X T.g a10)) (all_cons (P := P) (.inl (ns_some_of X T.g a11)) (all_cons (P := P) (.inl (ns_some_of X T.g a12)) (fun _ _ h => nomatch h)))))))))))))))))))))
    exact all x v hm
  nolim := T.nolimit
  sub := fun a h => nomatch h
  alive := fun a h => nomatch h
  base := fun b o e => e
  low := fun a h => nomatch h
  frm := fun a h => nomatch h
  slot := fun x sl h => nomatch h
theorem top_env {K : Frag} {prog : Program} {w : World} {h : Heap} {cd : Value} {p : Program} {loose : List Str} {mean : ExcName → Option Value} {mg mb : Str → Option Value} (X : K.In h) (T : Top p loose mean mg mb h) (k : KOk K)
    {L : Addr} {Y : List Addr} {h1 : ∀ b ∈ Y, b ∉ L :: (topCx prog w h cd).F} {h2 : ∀ p ∈ cellsFrom (L + 1) (scopeOf 17).names [], p.2 ∉ Y} :
    LawEnv (calleeCx (topCx prog w h cd) (nameOf 17) (scopeOf 17) 110 cd L Y h1 h2) where
  room := {
    depth := by show callerA.depth + 1 + 5 < recursionLimit; decide +kernel
    units := by show 4 + 3 + 300 + 3 * 5 < cLine; decide
    frame := by simp [calleeCx]
    handled := rfl
    outer := Framed.outer (Outer.framed (C := topCx prog w h cd) ⟨[], rfl, fun e he => nomatch he⟩) rfl (.head _) }
  d38 := def_of X k.d38.1 k.d38.2
  d45 := def_of X k.d45.1 k.d45.2
  d62 := def_of X k.d62.1 k.d62.2
  d69 := def_of X k.d69.1 k.d69.2
  d76 := def_of X k.d76.1 k.d76.2
  d81 := def_of X k.d81.1 k.d81.2
  d88 := def_of X k.d88.1 k.d88.2
  d95 := def_of X k.d95.1 k.d95.2
  d100 := def_of X k.d100.1 k.d100.2
  d105 := def_of X k.d105.1 k.d105.2
  eols := {
    crlf := by
      exact ⟨crlfTok K, mg, T.g, .inl (ns_some_of X T.g k.crlf)⟩
    p1 := pat_of X k.p1
    p2 := pat_of X k.p2 }
  nb := by
    obtain ⟨mc, hn, _⟩ := T.nolimit
    exact ⟨mc, hn, ns_none_of X hn k.st⟩
theorem join {K : Frag} {prog : Program} {w : World} {s : Shared} {p : Program} {loose : List Str} {mean : ExcName → Option Value} {mg mb : Str → Option Value} (X : K.In s.heap) (T : Top p loose mean mg mb s.heap) (k : KOk K)
    {fa l : Addr} {its : List Value} {script : List Int} {n : Nat} (hfa : mg "law" = some (.ref fa)) (hl : s.heap.get? l = some (lO its n)) (hi : IntsAre its script) (h63 : script.length ≤ 63)
    {Q : Value → Shared → Prop} {E : Value → Shared → Prop} (hQ : ∀ s', s'.os = s.os → s'.gens = s.gens → (∀ b o, s.heap.get? b = some o → s'.heap.get? b = some o) → Q (.bool true) s') :
    wpAny (model prog w) callerA (call (.ref fa) [.ref l]) Q E s := by
  obtain ⟨a1, a2, a3, a4, a5, a6, a7, a8, a9, a10, a11, a12, a13⟩ := k.g1
  have e := ns_some_of X T.g a13
  rw [hfa] at e
  cases e
  obtain ⟨pm, cd, doc, fA⟩ := def_of X k.d110.1 k.d110.2
  have H : Has (topCx prog w s.heap cd) [] [] s.heap := top_has X T k
  refine call_run (C := topCx prog w s.heap cd) (W := []) (vs := [.ref l]) (α₀ := []) (sls := [.val (.list (dI script))]) (R := fun fl _ => fl = .ret (.bool true)) fA (enter17 pm cd doc) (by show callerA.depth + 1 < recursionLimit; decide +kernel) (by show 4 + 303 < cLine; decide) H (by simp) (by simp) (by simp) rfl ?_ ?_ ?_ (fun cls σ' h => nomatch h) fun C' α' σ' fl f s' hr hW hW' F ho hg hk hfr hal hn => ?_
  · intro x v sl q1 q2
    simp only [List.zip_cons_cons, List.zip_nil_left, List.mem_singleton, Prod.mk.injEq] at q1 q2
    obtain ⟨_, rfl⟩ := q1
    obtain ⟨_, rfl⟩ := q2
    exact Rd.list (by simp) hl (ints_rdl hi)
  · intro x sl q
    simp only [List.zip_cons_cons, List.zip_nil_left, List.mem_singleton, Prod.mk.injEq] at q
    exact ⟨.ref l, by simp [q.1]⟩
  · intro L Y g1 g2
    exact law_body h63 (top_env X T k) rfl
  · subst hr
    cases F with
    | ret rd =>
      have := rd.bool_inv
      subst this
      exact hQ s' ho hg fun b o e => hk b o (by simp [topCx]) (by simp) e
end Mine
end
open PySem PySem.W PyProof.Rows
set_option maxHeartbeats 8000000
theorem Mine.exact_list {P : Params} {h : Heap} {a : Addr} {its : List Value} {ns : List Int} (hL : h.IsList a its.toArray) (x : Well P h (.ref a) (ofPy (PyData.list (ns.map PyData.int)))) : h.get? a = some (Mine.lO its 0) := by
  obtain ⟨o, ho, hc, n, hd⟩ := hL
  generalize hq : ofPy (PyData.list (ns.map PyData.int)) = q at x
  have hq' : ∃ xs, q = .list xs := by
    rw [← hq]; exact ⟨_, by rw [ofPy]⟩
  obtain ⟨xs, rfl⟩ := hq'
  cases x with
  | list h1 h2 =>
    rw [h1] at ho
    cases ho
    cases hd
    exact h1
theorem PySem.Challenge.cw_tx0006_01_holds : PySem.Challenge.rw_tx0006_01.Holds := by
  w_on
  o_law
  k_head
  (case hw => w_witness2)
  k_fill
  intro w s₀ s₁ mg mb G Y fa o pm cd doc dV kV ho hd hcd hD hmg hg args vals as hpre hlay hrd hwl hlo
  have KX := kIn_of Y
  clear hcd hd hD ho
  have hfa : mg "law" = some (.ref fa) := hmg
  clear hmg
  refine Ground.open G ?_
  intro T B D TE TW
  try (refine guard_noD D (by decide +kernel) ?_; clear D)
  wrow_args hpre hlay hrd hwl hlo
  rename_i script hs hlay0 hL1 hr1 hl2 x4 x3 l its x hL ra w1 r0 hI hr hc hct
  refine Mine.join KX T ?kok hfa (Mine.exact_list hL w1) hI (by walk_at "mine:om") fun s' ho' hg' hk' => ?good
  case good =>
    exact GoodW.toG ⟨.inl ⟨.bool true, .bool true, [], rfl, fun _ => rfl, .bool true, by wrow_post, unshared_nil⟩, hk', ho', hg'.trans hg⟩
  case kok =>
    exact {
      d38 := ⟨by kernel_rfl, by kernel_rfl⟩
      d45 := ⟨by kernel_rfl, by kernel_rfl⟩
      d62 := ⟨by kernel_rfl, by kernel_rfl⟩
      d69 := ⟨by kernel_rfl, by kernel_rfl⟩
      d76 := ⟨by kernel_rfl, by kernel_rfl⟩
      d81 := ⟨by kernel_rfl, by kernel_rfl⟩
      d88 := ⟨by kernel_rfl, by kernel_rfl⟩
      d95 := ⟨by kernel_rfl, by kernel_rfl⟩
      d100 := ⟨by kernel_rfl, by kernel_rfl⟩
      d105 := ⟨by kernel_rfl, by kernel_rfl⟩
      d110 := ⟨by kernel_rfl, by kernel_rfl⟩
      g1 := ⟨by kernel_rfl, by kernel_rfl, by kernel_rfl, by kernel_rfl, by kernel_rfl, by kernel_rfl, by kernel_rfl, by kernel_rfl, by kernel_rfl, by kernel_rfl, by kernel_rfl, by kernel_rfl, by kernel_rfl⟩
      g2 := ⟨by kernel_rfl, by kernel_rfl, by kernel_rfl, by kernel_rfl, by kernel_rfl, by kernel_rfl, by kernel_rfl, by kernel_rfl, by kernel_rfl⟩
      crlf := by kernel_rfl
      p1 := by kernel_rfl
      p2 := by kernel_rfl
      st := by kernel_rfl }
