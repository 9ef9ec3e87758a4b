import PyProof.Rows.All
import Wide.All
import OpenK.AllK
import Wide.FinOn
import PySem.Challenge.RW_pk0112_01
open PySem PySem.W PyProof.Rows
set_option Elab.async false
set_option maxRecDepth 100000
set_option linter.all false
set_option genSizeOf false
-- Top1
namespace Mine
set_option maxHeartbeats 8000000 in
open_top hd for PySem.Challenge.rw_pk0112_01
end Mine
-- F1
namespace Mine

mutual
noncomputable def flat : PyData → Bool
  | .none => true
  | .bool _ => true
  | .int _ => true
  | .str _ => true
  | .tuple xs => flats xs
  | .list _ => false
  | .dict _ => false
noncomputable def flats : List PyData → Bool
  | [] => true
  | d :: ds => flat d && flats ds
end

inductive AV where
  | dat (d : PyData)
  | ref (i : Nat)
  | cst (v : Value)
  | pair (i j : Nat)
  | rng (a b : Int)

noncomputable abbrev AV.int (i : Int) : AV := .dat (.int i)
noncomputable abbrev AV.str (x : Str) : AV := .dat (.str x)
noncomputable abbrev AV.bool (b : Bool) : AV := .dat (.bool b)
noncomputable abbrev AV.none : AV := .dat .none
noncomputable abbrev AV.tup (ds : List PyData) : AV := .dat (.tuple ds)

inductive AO where
  | list (ds : List PyData)
  | inst (d : Nat)
  | idict (att : Option Nat)

noncomputable abbrev Mem := List AO
noncomputable abbrev Loc := List (Str × AV)

noncomputable def listObj (vs : Array Value) (n : Nat) : Obj := { cls := .type "list", dict := none, data := .seq vs n, slots := #[] }
noncomputable def tupObj (vs : Array Value) (n : Nat) : Obj := { cls := .type "tuple", dict := none, data := .seq vs n, slots := #[] }

noncomputable def RepV (ρ : List Addr) (h : Heap) : AV → Value → Prop
  | .dat d, v => flat d = true ∧ ∃ as, Reads h v d as
  | .ref i, v => ∃ a, ρ[i]? = some a ∧ v = .ref a
  | .cst c, v => v = c
  | .pair i j, v => ∃ t a b n, v = .ref t ∧ ρ[i]? = some a ∧ ρ[j]? = some b ∧ h.get? t = some (tupObj #[.ref a, .ref b] n)
  | .rng a b, v => ∃ r t u x, v = .ref r ∧ IsRange h r a b 1 t u x

noncomputable def headersKey : Str := "_headers"

noncomputable def RepO (ρ : List Addr) (h : Heap) : AO → Addr → Prop
  | .list ds, a => flats ds = true ∧ ∃ vs n as, h.get? a = some (listObj vs n) ∧ ReadsAll h vs.toList ds as
  | .inst d, a => ∃ b, ρ[d]? = some b ∧ h.get? a = some { cls := .ref 178, dict := some b, data := .plain, slots := #[] }
  | .idict none, a => h.get? a = some (dictOf [] 0)
  | .idict (some j), a => ∃ l hsh t n, ρ[j]? = some l ∧ h.get? a = some (dictOf [⟨hsh, .str headersKey t, .ref l⟩] n)

noncomputable def isTup (o : Obj) : Prop := (o.cls = .type "tuple" ∧ ∃ vs n, o.data = .seq vs n) ∨ (o.cls = .type "range" ∧ ∃ vs, o.data = .fields vs)
noncomputable def TupKeep (h h' : Heap) : Prop := ∀ b o, h.get? b = some o → isTup o → h'.get? b = some o
mutual
theorem reads_move {h h' : Heap} (k : TupKeep h h') :
    ∀ (d : PyData) (v : Value) (as : List Addr), flat d = true → Reads h v d as → Reads h' v d as
  | .none, _, _, _, r => by cases r; exact .none
  | .bool _, _, _, _, r => by cases r; exact .bool _
  | .int _, _, _, _, r => by cases r; exact .int _ _
  | .str _, _, _, _, r => by cases r; exact .str _ _
  | .tuple xs, _, _, f, r => by
    cases r with
    | tuple h1 h2 h3 h4 => exact .tuple (k _ _ h1 (.inl ⟨h2, _, _, h3⟩)) h2 h3 (readsAll_move k xs _ _ (by simpa [flat] using f) h4)
  | .list _, _, _, f, _ => by simp [flat] at f
  | .dict _, _, _, f, _ => by simp [flat] at f
theorem readsAll_move {h h' : Heap} (k : TupKeep h h') :
    ∀ (ds : List PyData) (vs : List Value) (as : List Addr), flats ds = true → ReadsAll h vs ds as → ReadsAll h' vs ds as
  | [], _, _, _, r => by cases r; exact .nil
  | d :: ds, _, _, f, r => by
    have f' : flat d = true ∧ flats ds = true := by simpa [flats] using f
    cases r with
    | cons a b => exact .cons (reads_move k d _ _ f'.1 a) (readsAll_move k ds _ _ f'.2 b)
end

theorem prefix_get {α : Type} {ρ ρ' : List α} (h : ρ <+: ρ') {i : Nat} {a : α} (e : ρ[i]? = some a) : ρ'[i]? = some a := by
  obtain ⟨t, rfl⟩ := h
  rw [List.getElem?_append_left]
  · exact e
  · exact (List.getElem?_eq_some_iff.mp e).1

theorem RepV.move {ρ ρ' : List Addr} {h h' : Heap} (p : ρ <+: ρ') (k : TupKeep h h') : ∀ {v : AV} {v' : Value}, RepV ρ h v v' → RepV ρ' h' v v'
  | .dat d, _, ⟨f, as, r⟩ => ⟨f, as, reads_move k d _ _ f r⟩
  | .ref _, _, ⟨a, e, r⟩ => ⟨a, prefix_get p e, r⟩
  | .cst _, _, e => e
  | .pair _ _, _, ⟨t, a, b, n, e, e1, e2, e3⟩ => ⟨t, a, b, n, e, prefix_get p e1, prefix_get p e2, k _ _ e3 (.inl ⟨rfl, _, _, rfl⟩)⟩
  | .rng _ _, _, ⟨r, t, u, x, e, e1⟩ => ⟨r, t, u, x, e, k _ _ e1 (.inr ⟨rfl, _, rfl⟩)⟩

structure Frm (s₀ : Shared) (env : Env) (ρ : List Addr) (loc : Loc) (h : Heap) : Prop where
  kind : env.scope.kind = .function
  glob : env.globals = 3
  blt : env.builtins = 0
  ns : ∃ m, h.Ns env.locals m ∧ ∀ x v, loc.lookup x = some v → env.kindOf x = some .local → ∃ v', m x = some v' ∧ RepV ρ h v v'
  cel : ∀ x v, loc.lookup x = some v → env.kindOf x = some .cell ∨ env.kindOf x = some .free → ∃ c v', env.cells.lookup x = some c ∧ h.IsCell c (some v') ∧ RepV ρ h v v'
  cells : ∀ x c, (x, c) ∈ env.cells → (∃ v, h.IsCell c v) ∧ s₀.heap.objs.size ≤ c
  apart : env.cells.Pairwise fun x y => x.2 ≠ y.2
  lfree : env.locals ∉ ρ
  lhigh : s₀.heap.objs.size ≤ env.locals

structure Rep (s₀ : Shared) (env : Env) (ρ : List Addr) (loc : Loc) (mem : Mem) (s : Shared) : Prop where
  keep0 : ∀ b o, s₀.heap.get? b = some o → s.heap.get? b = some o
  gens : s.gens = s₀.gens
  os : s.os = s₀.os
  nodup : ρ.Nodup
  high : ∀ a ∈ ρ, s₀.heap.objs.size ≤ a
  len : ρ.length = mem.length
  objs : ∀ (i : Nat) (o : AO), mem[i]? = some o → ∃ a, ρ[i]? = some a ∧ RepO ρ s.heap o a
  fr : Frm s₀ env ρ loc s.heap

structure Ext (F : List Addr) (ρ : List Addr) (s : Shared) (ρ' : List Addr) (s' : Shared) : Prop where
  pre : ρ <+: ρ'
  new : ∀ a ∈ ρ', a ∈ ρ ∨ s.heap.get? a = none
  alive : ∀ b, (s.heap.get? b).isSome = true → (s'.heap.get? b).isSome = true
  keep : ∀ b o, s.heap.get? b = some o → b ∉ ρ → b ∉ F → s'.heap.get? b = some o
  tup : TupKeep s.heap s'.heap

theorem isSome_of {h : Heap} {b : Addr} {o : Obj} (e : h.get? b = some o) : (h.get? b).isSome = true := by rw [e]; rfl
theorem Ext.refl (F ρ s) : Ext F ρ s ρ s := ⟨List.prefix_refl _, fun _ h => .inl h, fun _ h => h, fun _ _ e _ _ => e, fun _ _ e _ => e⟩
theorem Ext.old {F ρ s ρ₁ s₁} (x : Ext F ρ s ρ₁ s₁) {a : Addr} (h : s₁.heap.get? a = none) : s.heap.get? a = none := by
  cases e : s.heap.get? a with
  | none => rfl
  | some o => have := x.alive a (isSome_of e); rw [h] at this; cases this
theorem Ext.trans {F ρ s ρ₁ s₁ ρ₂ s₂} (x : Ext F ρ s ρ₁ s₁) (y : Ext F ρ₁ s₁ ρ₂ s₂) : Ext F ρ s ρ₂ s₂ where
  pre := x.pre.trans y.pre
  new := fun a h => (y.new a h).elim (x.new a) fun h => .inr (x.old h)
  alive := fun b h => y.alive b (x.alive b h)
  keep := fun b o e n f => y.keep b o (x.keep b o e n f) (fun h => (x.new b h).elim n fun h => by rw [e] at h; cases h) f
  tup := fun b o e t => y.tup b o (x.tup b o e t) t
theorem Ext.weaken {F F' ρ s ρ₁ s₁} (x : Ext F ρ s ρ₁ s₁) (h : ∀ a ∈ F, a ∈ F' ∨ s.heap.get? a = none) : Ext F' ρ s ρ₁ s₁ :=
  ⟨x.pre, x.new, x.alive, fun b o e n f => x.keep b o e n fun hb => (h b hb).elim f fun hl => (by rw [e] at hl; cases hl), x.tup⟩
theorem Ext.nil {F ρ s ρ₁ s₁} (x : Ext [] ρ s ρ₁ s₁) : Ext F ρ s ρ₁ s₁ := x.weaken fun _ h => nomatch h
theorem Ext.toks {F ρ s ρ₁ s₁} (x : Ext F ρ s ρ₁ s₁) (t : Nat) : Ext F ρ s ρ₁ { s₁ with toks := t } := ⟨x.pre, x.new, x.alive, x.keep, x.tup⟩
theorem get_none {h : Heap} {a : Addr} (hl : h.objs.size ≤ a) : h.get? a = none := by
  cases e : h.get? a with
  | none => rfl
  | some o => exact absurd (Heap.lt_size e) (Nat.not_lt.mpr hl)

noncomputable def cellAddrs (env : Env) : List Addr := env.cells.map (·.2)
noncomputable def own (env : Env) : List Addr := env.locals :: cellAddrs env

theorem Rep.toks {s₀ env ρ loc mem s} (R : Rep s₀ env ρ loc mem s) (t : Nat) : Rep s₀ env ρ loc mem { s with toks := t } :=
  ⟨R.keep0, R.gens, R.os, R.nodup, R.high, R.len, R.objs, R.fr⟩

theorem Rep.cell_free {s₀ env ρ loc mem s} (R : Rep s₀ env ρ loc mem s) {x c} (hc : (x, c) ∈ env.cells) : c ∉ ρ := by
  intro hm
  obtain ⟨i, hi, rfl⟩ := List.getElem_of_mem hm
  have hl : i < mem.length := by rw [← R.len]; exact hi
  obtain ⟨a, ha, ho⟩ := R.objs i mem[i] (List.getElem?_eq_getElem hl)
  rw [List.getElem?_eq_getElem hi] at ha; cases ha
  obtain ⟨⟨v, o, e1, e2⟩, _⟩ := R.fr.cells _ _ hc
  generalize mem[i] = ob at ho
  cases ob with
  | list ds => obtain ⟨_, vs, n, as, e, _⟩ := ho; rw [e] at e1; cases e1; cases e2
  | inst d => obtain ⟨b, _, e⟩ := ho; rw [e] at e1; cases e1; cases e2
  | idict att =>
    cases att with
    | none => have e : s.heap.get? _ = some (dictOf [] 0) := ho; rw [e] at e1; cases e1; cases e2
    | some j => obtain ⟨l, hsh, t, n, _, e⟩ := ho; rw [e] at e1; cases e1; cases e2
theorem Frm.cell_ne {s₀ env ρ loc h} (f : Frm s₀ env ρ loc h) {x c} (hc : (x, c) ∈ env.cells) : c ≠ env.locals := by
  rintro rfl
  obtain ⟨⟨v, o, e1, e2⟩, _⟩ := f.cells _ _ hc
  obtain ⟨m, ⟨o', es, ep, e, ed, _⟩, _⟩ := f.ns
  rw [e] at e1; cases e1; rw [ed] at e2; cases e2

theorem Frm.move {s₀ env ρ loc h ρ' h'} (f : Frm s₀ env ρ loc h) (p : ρ <+: ρ') (t : TupKeep h h')
    (k : ∀ b o, h.get? b = some o → b ∈ own env → h'.get? b = some o) (lf : env.locals ∉ ρ') : Frm s₀ env ρ' loc h' where
  kind := f.kind
  glob := f.glob
  blt := f.blt
  ns := by
    obtain ⟨m, ⟨o, es, ep, e, r⟩, q⟩ := f.ns
    refine ⟨m, ⟨o, es, ep, k _ _ e (.head _), r⟩, fun x v hx hl => ?_⟩
    obtain ⟨v', h1, h2⟩ := q x v hx hl
    exact ⟨v', h1, h2.move p t⟩
  cel := fun x v hx hk => by
    obtain ⟨c, v', h1, ⟨o, e, d⟩, h3⟩ := f.cel x v hx hk
    exact ⟨c, v', h1, ⟨o, k _ _ e (.tail _ (List.mem_map.mpr ⟨_, mem_of_lookup h1, rfl⟩)), d⟩, h3.move p t⟩
  cells := fun x c hc => by
    obtain ⟨⟨v, o, e, d⟩, h2⟩ := f.cells x c hc
    exact ⟨⟨v, o, k _ _ e (.tail _ (List.mem_map.mpr ⟨_, hc, rfl⟩)), d⟩, h2⟩
  apart := f.apart
  lfree := lf
  lhigh := f.lhigh

theorem Rep.back {s₀ env ρ loc mem s env' loc' mem' ρ' s' F} (R : Rep s₀ env ρ loc mem s) (R' : Rep s₀ env' ρ' loc' mem' s') (x : Ext F ρ s ρ' s')
    (hF : ∀ a ∈ F, s.heap.get? a = none) : Rep s₀ env ρ' loc mem' s' := by
  have hb : ∀ b o, s.heap.get? b = some o → b ∈ own env → s'.heap.get? b = some o := by
    intro b o e hm
    refine x.keep b o e ?_ fun hf => (by have := hF b hf; rw [e] at this; cases this)
    rcases List.mem_cons.mp hm with rfl | hm
    · exact R.fr.lfree
    · obtain ⟨⟨n, c⟩, hc, rfl⟩ := List.mem_map.mp hm
      exact R.cell_free hc
  refine ⟨R'.keep0, R'.gens, R'.os, R'.nodup, R'.high, R'.len, R'.objs, R.fr.move x.pre x.tup hb fun hm => ?_⟩
  rcases x.new _ hm with h | h
  · exact R.fr.lfree h
  · obtain ⟨m, ⟨o, es, ep, e, _⟩, _⟩ := R.fr.ns
    rw [e] at h; cases h

end Mine
-- F2
namespace Mine

structure Room (k : Nat) (A : Around) : Prop where
  dep : A.depth + k < recursionLimit
  un : A.units + 10 * k + 200 < cLine
  no : A.handled = none

noncomputable def PostV (s₀ : Shared) (env : Env) (ρ : List Addr) (loc : Loc) (s : Shared) (Q : AV → Mem → Prop) : Value → Shared → Prop :=
  fun v' s' => ∃ v mem' ρ', Q v mem' ∧ RepV ρ' s'.heap v v' ∧ Rep s₀ env ρ' loc mem' s' ∧ Ext [] ρ s ρ' s'
noncomputable def PostB (s₀ : Shared) (env : Env) (ρ : List Addr) (loc : Loc) (s : Shared) (Q : Bool → Mem → Prop) : Bool → Shared → Prop :=
  fun b s' => ∃ mem' ρ', Q b mem' ∧ Rep s₀ env ρ' loc mem' s' ∧ Ext [] ρ s ρ' s'
inductive AFlow where
  | next
  | ret (v : AV)
noncomputable def RepF (ρ : List Addr) (h : Heap) : AFlow → Flow → Prop
  | .next, f => f = .next
  | .ret v, f => ∃ v', f = .ret v' ∧ RepV ρ h v v'
noncomputable def PostX (s₀ : Shared) (env : Env) (ρ : List Addr) (s : Shared) (Q : AFlow → Loc → Mem → Prop) : Flow → Shared → Prop :=
  fun f s' => ∃ fl loc' mem' ρ', Q fl loc' mem' ∧ RepF ρ' s'.heap fl f ∧ Rep s₀ env ρ' loc' mem' s' ∧ Ext (own env) ρ s ρ' s'
noncomputable abbrev NoE : Value → Shared → Prop := fun _ _ => False

section
variable (prog : Program) (w : World) (s₀ : Shared) (k : Nat) (env : Env) (loc : Loc)
noncomputable def WV (t : Sem Value) (mem : Mem) (Q : AV → Mem → Prop) : Prop :=
  ∀ (A : Around) (s : Shared) (ρ : List Addr), Room k A → Rep s₀ env ρ loc mem s → wpAny (model prog w) A t (PostV s₀ env ρ loc s Q) NoE s
noncomputable def WE (e : Expr) (mem : Mem) (Q : AV → Mem → Prop) : Prop := WV prog w s₀ k env loc (eval e env) mem Q
noncomputable def WT (e : Expr) (mem : Mem) (Q : Bool → Mem → Prop) : Prop :=
  ∀ (A : Around) (s : Shared) (ρ : List Addr), Room k A → Rep s₀ env ρ loc mem s → wpAny (model prog w) A (isTrue e env (eval e env)) (PostB s₀ env ρ loc s Q) NoE s
noncomputable def WX (st : Stmt) (mem : Mem) (Q : AFlow → Loc → Mem → Prop) : Prop :=
  ∀ (A : Around) (s : Shared) (ρ : List Addr), Room k A → Rep s₀ env ρ loc mem s → wpAny (model prog w) A (exec st env) (PostX s₀ env ρ s Q) NoE s
noncomputable def WXs (st : List Stmt) (mem : Mem) (Q : AFlow → Loc → Mem → Prop) : Prop :=
  ∀ (A : Around) (s : Shared) (ρ : List Addr), Room k A → Rep s₀ env ρ loc mem s → wpAny (model prog w) A (execs st env) (PostX s₀ env ρ s Q) NoE s
end

section
variable {prog : Program} {w : World} {s₀ : Shared} {k : Nat} {env : Env} {loc : Loc} {mem : Mem} {Q : AV → Mem → Prop}
  {A : Around} {s : Shared} {ρ : List Addr}

theorem WV.mono {t : Sem Value} {Q Q' : AV → Mem → Prop} (h : WV prog w s₀ k env loc t mem Q) (hQ : ∀ v m, Q v m → Q' v m) : WV prog w s₀ k env loc t mem Q' :=
  fun A s ρ hA R => wpAny_mono (h A s ρ hA R) (fun _ _ ⟨v, m, ρ', q, r⟩ => ⟨v, m, ρ', hQ _ _ q, r⟩) fun _ _ x => x

theorem WV.go {t : Sem Value} (h : WV prog w s₀ k env loc t mem Q) (hA : Room k A) (R : Rep s₀ env ρ loc mem s) {α : Type} {f : Value → Sem α} {P : α → Shared → Prop}
    (hk : ∀ v m ρ₁ v' s₁, Q v m → RepV ρ₁ s₁.heap v v' → Rep s₀ env ρ₁ loc m s₁ → Ext [] ρ s ρ₁ s₁ → wpAny (model prog w) A (f v') P NoE s₁) :
    wpAny (model prog w) A (t >>= f) P NoE s :=
  wpAny_bind (wpAny_mono (h A s ρ hA R) (fun _ _ ⟨_, _, _, q, r, r', x⟩ => hk _ _ _ _ _ q r r' x) fun _ _ x => x)
theorem WV.goH {t : Sem Value} (h : WV prog w s₀ k env loc t mem Q) (hA : Room k A) (R : Rep s₀ env ρ loc mem s) {α : Type} {vs : List Value} {f : Value → Sem α} {P : α → Shared → Prop}
    (hk : ∀ v m ρ₁ v' s₁, Q v m → RepV ρ₁ s₁.heap v v' → Rep s₀ env ρ₁ loc m s₁ → Ext [] ρ s ρ₁ s₁ → wpAny (model prog w) A (f v') P NoE s₁) :
    wpAny (model prog w) A (holding vs t >>= f) P NoE s :=
  wpAny_bind (wpAny_holding (wpAny_mono (h A s ρ hA R) (fun _ _ ⟨_, _, _, q, r, r', x⟩ => hk _ _ _ _ _ q r r' x) fun _ _ x => x))

theorem wpAny_release {vs ks : List Value} {P : Unit → Shared → Prop} {E : Value → Shared → Prop} {M : Model} (h : P () s) : wpAny M A (release vs ks) P E s :=
  fun Γ p _ => by rw [Sem.wp_release]; exact h

theorem PostV.trans {ρ₁ s₁ v' s'} (x : Ext [] ρ s ρ₁ s₁) (h : PostV s₀ env ρ₁ loc s₁ Q v' s') : PostV s₀ env ρ loc s Q v' s' :=
  let ⟨v, m, ρ', q, r, r', y⟩ := h; ⟨v, m, ρ', q, r, r', x.trans y⟩
theorem PostB.trans {Q : Bool → Mem → Prop} {ρ₁ s₁ b s'} (x : Ext [] ρ s ρ₁ s₁) (h : PostB s₀ env ρ₁ loc s₁ Q b s') : PostB s₀ env ρ loc s Q b s' :=
  let ⟨m, ρ', q, r', y⟩ := h; ⟨m, ρ', q, r', x.trans y⟩
theorem PostX.trans {Q : AFlow → Loc → Mem → Prop} {ρ₁ s₁ f s'} (x : Ext (own env) ρ s ρ₁ s₁) (h : PostX s₀ env ρ₁ s₁ Q f s') : PostX s₀ env ρ s Q f s' :=
  let ⟨fl, l, m, ρ', q, r, r', y⟩ := h; ⟨fl, l, m, ρ', q, r, r', x.trans y⟩

theorem PostV.of {v : AV} {v' : Value} {t : Nat} (q : Q v mem) (hv : RepV ρ s.heap v v') (R : Rep s₀ env ρ loc mem s) : PostV s₀ env ρ loc s Q v' { s with toks := t } :=
  ⟨v, mem, ρ, q, hv, R.toks t, (Ext.refl _ _ _).toks t⟩
theorem PostV.of' {v : AV} {v' : Value} (q : Q v mem) (hv : RepV ρ s.heap v v') (R : Rep s₀ env ρ loc mem s) : PostV s₀ env ρ loc s Q v' s :=
  ⟨v, mem, ρ, q, hv, R, Ext.refl _ _ _⟩

theorem repV_int {i : Int} {t : Tok} {h : Heap} : RepV ρ h (.int i) (.int i t) := ⟨rfl, _, .int _ _⟩
theorem repV_str {x : Str} {t : Tok} {h : Heap} : RepV ρ h (.str x) (.str x t) := ⟨rfl, _, .str _ _⟩
theorem repV_bool {b : Bool} {h : Heap} : RepV ρ h (.bool b) (.bool b) := ⟨rfl, _, .bool _⟩
theorem repV_none {h : Heap} : RepV ρ h .none .none := ⟨rfl, _, .none⟩
theorem RepV.int {i : Int} {h : Heap} {v' : Value} (r : RepV ρ h (.int i) v') : ∃ t, v' = .int i t := by obtain ⟨_, as, r⟩ := r; cases r; exact ⟨_, rfl⟩
theorem RepV.str {x : Str} {h : Heap} {v' : Value} (r : RepV ρ h (.str x) v') : ∃ t, v' = .str x t := by obtain ⟨_, as, r⟩ := r; cases r; exact ⟨_, rfl⟩
theorem RepV.bool {b : Bool} {h : Heap} {v' : Value} (r : RepV ρ h (.bool b) v') : v' = .bool b := by obtain ⟨_, as, r⟩ := r; cases r; rfl
theorem RepV.none {h : Heap} {v' : Value} (r : RepV ρ h .none v') : v' = .none := by obtain ⟨_, as, r⟩ := r; cases r; rfl

theorem we_none {kk : Nat} {pos : Pos} (q : Q .none mem) : WE prog w s₀ k env loc (.Constant .none kk pos) mem Q :=
  fun _ _ _ _ R => wpAny_pure (PostV.of' q repV_none R)
theorem we_bool {b : Bool} {kk : Nat} {pos : Pos} (q : Q (.bool b) mem) : WE prog w s₀ k env loc (.Constant (.bool b) kk pos) mem Q :=
  fun _ _ _ _ R => wpAny_pure (PostV.of' q repV_bool R)
theorem we_int {i : Int} {kk : Nat} {pos : Pos} (q : Q (.int i) mem) : WE prog w s₀ k env loc (.Constant (.int i) kk pos) mem Q :=
  fun _ _ _ _ R => wpAny_Constant_int (PostV.of q repV_int R)
theorem we_str {x : Str} {kk : Nat} {pos : Pos} (q : Q (.str x) mem) : WE prog w s₀ k env loc (.Constant (.str x) kk pos) mem Q :=
  fun _ _ _ _ R => wpAny_mkText (PostV.of q repV_str R)

theorem we_name {x : Str} {pos : Pos} {v : AV} (hv : loc.lookup x = some v) (q : Q v mem)
    (hk : env.kindOf x = some .local ∨ env.kindOf x = some .cell ∨ env.kindOf x = some .free)
    (hd : (x == ("__debug__" : Str)) = false) (hn : (x == ("__classdict__" : Str)) = false) : WE prog w s₀ k env loc (.Name x pos) mem Q := by
  intro A s ρ _ R
  refine wpAny_Name ?_ hd
  rcases hk with hk | hk | hk
  · obtain ⟨m, hn, hm⟩ := R.fr.ns
    obtain ⟨v', e, r⟩ := hm x v hv hk
    exact wpAny_loadName_local R.fr.kind hk hn e (PostV.of' q r R)
  · obtain ⟨c, v', e, r1, r⟩ := R.fr.cel x v hv (.inl hk)
    exact wpAny_loadName_cell R.fr.kind hk e r1 (PostV.of' q r R)
  · obtain ⟨c, v', e, r1, r⟩ := R.fr.cel x v hv (.inr hk)
    exact wpAny_loadName_free R.fr.kind hk e r1 (PostV.of' q r R) hn

structure Gr (w : World) (s₀ : Shared) (K : Frag) : Prop where
  k : K.In s₀.heap
  b : ∃ mb, s₀.heap.Ns builtinsNs mb ∧ ∀ x : Str, x ≠ "__name__" → mb x = bootBuiltins x
  lim : s₀.heap.NoLimit
  dig : ∃ mc, s₀.heap.Ns cStatics mc ∧ mc "sys.int_max_str_digits" = none

theorem wpAny_loadGlobal_K {K : Frag} {M : Model} {x : Str} {v : Value} {P : Value → Shared → Prop} {E : Value → Shared → Prop} (hg : env.globals = 3) (X : K.In s.heap) (e : nsIn K 3 x = some (some v)) (h : P v s) :
    wpAny M A (loadGlobal env x) P E s := by
  unfold loadGlobal
  rw [hg]
  exact wpAny_bind (looks_nsIn X e A _ _ s (fun _ _ e => e) (wpAny_pure h))
theorem wpAny_loadGlobal_B {K : Frag} {M : Model} {x : Str} {v : Value} {mb : Str → Option Value} {P : Value → Shared → Prop} {E : Value → Shared → Prop} (hg : env.globals = 3) (hb : env.builtins = 0) (X : K.In s.heap)
    (e : nsIn K 3 x = some none) (hn : s.heap.Ns 0 mb) (hv : mb x = some v) (h : P v s) : wpAny M A (loadGlobal env x) P E s := by
  unfold loadGlobal
  rw [hg, hb]
  refine wpAny_bind (looks_nsIn X e A _ _ s (fun _ _ e => e) (wpAny_bind (wpAny_nsGet hn ?_)))
  rw [hv]
  exact wpAny_pure h
theorem wpAny_loadName_global {M : Model} {x : Str} {P : Value → Shared → Prop} {E : Value → Shared → Prop} (hk : env.scope.kind = .function) (hl : env.kindOf x = some .globalImplicit)
    (h : wpAny M A (loadGlobal env x) P E s) : wpAny M A (loadName env x) P E s := by
  unfold loadName
  simp only [Env.blockKind, hk, hl, ScopeKind.isAnnotationScope, Bool.false_and, Bool.false_eq_true, if_false]
  exact h

theorem we_global {K : Frag} (G : Gr w s₀ K) {x : Str} {pos : Pos} {v : Value} (e : nsIn K 3 x = some (some v)) (hk : env.kindOf x = some .globalImplicit) (hd : (x == ("__debug__" : Str)) = false) (q : Q (.cst v) mem) :
    WE prog w s₀ k env loc (.Name x pos) mem Q :=
  fun _ _ _ _ R => wpAny_Name (wpAny_loadName_global R.fr.kind hk (wpAny_loadGlobal_K R.fr.glob (G.k.keeps R.keep0) e (PostV.of' (v := .cst v) q (by rfl) R))) hd
theorem we_globalStr {K : Frag} (G : Gr w s₀ K) {x y : Str} {t : Tok} {pos : Pos} (e : nsIn K 3 x = some (some (.str y t))) (hk : env.kindOf x = some .globalImplicit) (hd : (x == ("__debug__" : Str)) = false) (q : Q (.str y) mem) :
    WE prog w s₀ k env loc (.Name x pos) mem Q :=
  fun _ _ _ _ R => wpAny_Name (wpAny_loadName_global R.fr.kind hk (wpAny_loadGlobal_K R.fr.glob (G.k.keeps R.keep0) e (PostV.of' (v := .str y) q repV_str R))) hd
theorem we_builtin {K : Frag} (G : Gr w s₀ K) {x : Str} {pos : Pos} {v : Value} (e : nsIn K 3 x = some none) (hv : bootBuiltins x = some v) (hn : x ≠ "__name__") (hk : env.kindOf x = some .globalImplicit)
    (hd : (x == ("__debug__" : Str)) = false) (q : Q (.cst v) mem) : WE prog w s₀ k env loc (.Name x pos) mem Q := by
  intro A s ρ _ R
  obtain ⟨mb, h1, h2⟩ := G.b
  exact wpAny_Name (wpAny_loadName_global R.fr.kind hk (wpAny_loadGlobal_B R.fr.glob R.fr.blt (G.k.keeps R.keep0) e (h1.keeps R.keep0) ((h2 x hn).trans hv) (PostV.of' (v := .cst v) q (by rfl) R))) hd

inductive BinOk : Operator → AV → AV → AV → Prop where
  | addI (x y : Int) : BinOk .Add (.int x) (.int y) (.int (x + y))
  | subI (x y : Int) : BinOk .Sub (.int x) (.int y) (.int (x - y))
  | mulI (x y : Int) : IntMulOk x y → BinOk .Mult (.int x) (.int y) (.int (x * y))
  | modI (x y : Int) : y ≠ 0 → BinOk .Mod (.int x) (.int y) (.int (x.fmod y))
  | divI (x y : Int) : y ≠ 0 → Builtin.divisionGoesByPylong x y = false → BinOk .FloorDiv (.int x) (.int y) (.int (x.fdiv y))
  | powI (x y : Int) : 0 ≤ y → (Builtin.Int.intBits x : Int) * y ≤ 2 ^ 27 → BinOk .Pow (.int x) (.int y) (.int (x ^ y.toNat))
  | addS (x y : Str) : x.length + y.length ≤ sizeLine → BinOk .Add (.str x) (.str y) (.str (x ++ y))
  | mulS (x : Str) (n : Nat) : 1 ≤ n → n ≤ 1000 → x.length ≤ 1000 → 1 ≤ x.length → BinOk .Mult (.str x) (.int n) (.str ⟨(List.replicate n x.cps).foldl (· ++ ·) #[]⟩)
end
end Mine
-- F3
namespace Mine
section
variable {prog : Program} {w : World} {s₀ : Shared} {k : Nat} {env : Env} {loc : Loc} {mem : Mem} {Q : AV → Mem → Prop}
  {A : Around} {s : Shared} {ρ : List Addr}


theorem bin_ok {op : Operator} {a b v : AV} {a' b' : Value} (ok : BinOk op a b v) (ra : RepV ρ s.heap a a') (rb : RepV ρ s.heap b b') (R : Rep s₀ env ρ loc mem s) (q : Q v mem) :
    wpAny (model prog w) A (binaryOp op a' b') (PostV s₀ env ρ loc s Q) NoE s := by
  cases ok with
  | addI x y => obtain ⟨t, rfl⟩ := ra.int; obtain ⟨u, rfl⟩ := rb.int; exact add_int (PostV.of q repV_int R)
  | subI x y => obtain ⟨t, rfl⟩ := ra.int; obtain ⟨u, rfl⟩ := rb.int; exact sub_int (PostV.of q repV_int R)
  | mulI x y hm => obtain ⟨t, rfl⟩ := ra.int; obtain ⟨u, rfl⟩ := rb.int; exact mul_int (PostV.of q repV_int R) hm
  | modI x y hy => obtain ⟨t, rfl⟩ := ra.int; obtain ⟨u, rfl⟩ := rb.int; exact mod_int' hy (PostV.of q repV_int R)
  | divI x y hy hs => obtain ⟨t, rfl⟩ := ra.int; obtain ⟨u, rfl⟩ := rb.int; exact floordiv_int hy (PostV.of q repV_int R) (.inl hs)
  | powI x y hy hs => obtain ⟨t, rfl⟩ := ra.int; obtain ⟨u, rfl⟩ := rb.int; exact pow_int hy hs (PostV.of q repV_int R)
  | addS x y hl => obtain ⟨t, rfl⟩ := ra.str; obtain ⟨u, rfl⟩ := rb.str; exact add_str (fun _ _ => PostV.of q repV_str R) hl
  | mulS x n h1 h2 h3 h4 =>
    obtain ⟨t, rfl⟩ := ra.str; obtain ⟨u, rfl⟩ := rb.int
    have hm : x.length * n ≤ 1000000 := Nat.mul_le_mul h3 h2
    refine PySem.P.mul_str ?_ (fun _ _ => ?_) (fun _ _ => ?_) ?_
    · rw [decide_eq_false (by omega), decide_eq_false (by omega)]; rfl
    · have : (n : Int) ≤ 1000 := by omega
      have h5 : ((2 : Int) ^ 63 - 1) / 1000 ≤ (2 ^ 63 - 1) / (n : Int) := by
        refine Int.le_ediv_of_mul_le (by omega) ?_
        have : ((2 : Int) ^ 63 - 1) / 1000 * n ≤ ((2 : Int) ^ 63 - 1) / 1000 * 1000 := Int.mul_le_mul_of_nonneg_left this (by decide)
        omega
      have h6 : ((2 : Int) ^ 63 - 1) / 1000 = 9223372036854775 := by decide
      omega
    · unfold Builtin.Str.tooLong
      have : ((n : Int)).toNat = n := by simp
      rw [this]
      have := sizeLine_eq
      exact decide_eq_false (by omega)
    · rw [if_neg (by omega)]
      split
      · rename_i hc
        have hn : n = 1 := by
          simp only [Bool.or_eq_true, beq_iff_eq] at hc
          omega
        subst hn
        have e : (⟨(List.replicate 1 x.cps).foldl (· ++ ·) #[]⟩ : Str) = x := by
          show (⟨#[] ++ x.cps⟩ : Str) = x
          simp
        rw [e] at q
        exact PostV.of' q repV_str R
      · refine ⟨?_, PostV.of q repV_str R⟩
        have key : ∀ (n : Nat) (a : Array Nat), ((List.replicate n x.cps).foldl (· ++ ·) a).size = a.size + n * x.cps.size := by
          intro n
          induction n with
          | zero => intro a; simp
          | succ n ih => intro a; rw [List.replicate_succ, List.foldl_cons, ih, Array.size_append, Nat.succ_mul]; omega
        show ((List.replicate n x.cps).foldl (· ++ ·) #[]).size ≤ sizeLine
        rw [key, sizeLine_eq]
        have e2 : x.cps.size = x.length := rfl
        rw [e2, Nat.mul_comm]
        simp; omega

theorem we_bin {l r : Expr} {op : Operator} {pos : Pos} (h : WE prog w s₀ k env loc l mem fun a m1 => WE prog w s₀ k env loc r m1 fun b m2 => ∃ v, BinOk op a b v ∧ Q v m2) :
    WE prog w s₀ k env loc (.BinOp l op r pos) mem Q := by
  intro A s ρ hA R
  refine wpAny_BinOp (wpAny_mono (h A s ρ hA R) ?_ fun _ _ x => x)
  rintro a' s1 ⟨a, m1, ρ1, q, ra, R1, x1⟩
  refine wpAny_mono (q A s1 ρ1 hA R1) ?_ fun _ _ x => x
  rintro b' s2 ⟨b, m2, ρ2, ⟨v, ok, q⟩, rb, R2, x2⟩
  exact wpAny_mono (bin_ok ok (ra.move x2.pre x2.tup) rb R2 q) (fun _ _ p => (p.trans x2).trans x1) fun _ _ x => x

theorem Rep.list {i : Nat} {ds : List PyData} {v' : Value} (R : Rep s₀ env ρ loc mem s) (hi : mem[i]? = some (.list ds)) (r : RepV ρ s.heap (.ref i) v') :
    ∃ a vs n as, v' = .ref a ∧ ρ[i]? = some a ∧ flats ds = true ∧ s.heap.get? a = some (listObj vs n) ∧ ReadsAll s.heap vs.toList ds as := by
  obtain ⟨a, e, rfl⟩ := r
  obtain ⟨b, e', f, vs, n, as, h1, h2⟩ := R.objs i _ hi
  rw [e] at e'; cases e'
  exact ⟨a, vs, n, as, rfl, e, f, h1, h2⟩
theorem Rep.readsList {i : Nat} {ds : List PyData} {v' : Value} (R : Rep s₀ env ρ loc mem s) (hi : mem[i]? = some (.list ds)) (r : RepV ρ s.heap (.ref i) v') :
    flats ds = true ∧ ∃ as, Reads s.heap v' (.list ds) as := by
  obtain ⟨a, vs, n, as, rfl, _, f, h1, h2⟩ := R.list hi r
  exact ⟨f, _, .list h1 rfl rfl h2⟩

inductive CmpOk (mem : Mem) : CmpOp → AV → AV → Bool → Prop where
  | eqI (x y : Int) : CmpOk mem .Eq (.int x) (.int y) (x == y)
  | neI (x y : Int) : CmpOk mem .NotEq (.int x) (.int y) (x != y)
  | ltI (x y : Int) : CmpOk mem .Lt (.int x) (.int y) (decide (x < y))
  | leI (x y : Int) : CmpOk mem .LtE (.int x) (.int y) (decide (x ≤ y))
  | gtI (x y : Int) : CmpOk mem .Gt (.int x) (.int y) (decide (y < x))
  | geI (x y : Int) : CmpOk mem .GtE (.int x) (.int y) (decide (y ≤ x))
  | eqS (x y : Str) : CmpOk mem .Eq (.str x) (.str y) (x == y)
  | neS (x y : Str) : CmpOk mem .NotEq (.str x) (.str y) (x != y)
  | inS (x y : Str) : CmpOk mem .In (.str x) (.str y) (Txt.contains y x)
  | notInS (x y : Str) : CmpOk mem .NotIn (.str x) (.str y) (!Txt.contains y x)
  | inL (x : Str) (i : Nat) (ds : List PyData) : mem[i]? = some (.list ds) → PyData.depthAll ds ≤ 60 → PyData.canLayAll0 ds = true → PyData.strOk x = true → CmpOk mem .In (.str x) (.ref i) (ds.any fun y => PyData.eqv y (.str x))
  | eqL (i j : Nat) (ds es : List PyData) : mem[i]? = some (.list ds) → mem[j]? = some (.list es) → PyData.depthAll ds ≤ 60 → PyData.canLayAll0 ds = true → PyData.canLayAll0 es = true → CmpOk mem .Eq (.ref i) (.ref j) (PyData.eqv (.list ds) (.list es))
  | neL (i j : Nat) (ds es : List PyData) : mem[i]? = some (.list ds) → mem[j]? = some (.list es) → PyData.depthAll ds ≤ 60 → PyData.canLayAll0 ds = true → PyData.canLayAll0 es = true → CmpOk mem .NotEq (.ref i) (.ref j) (!PyData.eqv (.list ds) (.list es))
  | isNotB (x y : Bool) : CmpOk mem .IsNot (.bool x) (.bool y) (x != y)
  | isB (x y : Bool) : CmpOk mem .Is (.bool x) (.bool y) (x == y)
  | isNotNone : CmpOk mem .IsNot .none .none false
  | isNotNoneR (i : Nat) : CmpOk mem .IsNot (.ref i) .none true
  | isT (x y : String) : CmpOk mem .Is (.cst (.type x)) (.cst (.type y)) (x == y)
  | isNotT (x y : String) : CmpOk mem .IsNot (.cst (.type x)) (.cst (.type y)) (x != y)

theorem Room.units {A : Around} (h : Room k A) : A.units + 200 < cLine := by have := h.un; omega


theorem cmp_ok {op : CmpOp} {a b : AV} {r : Bool} {a' b' : Value} {P : Value → Shared → Prop} (ok : CmpOk mem op a b r) (hA : Room k A) (ra : RepV ρ s.heap a a') (rb : RepV ρ s.heap b b') (R : Rep s₀ env ρ loc mem s)
    (q : P (.bool r) s) : wpAny (model prog w) A (compareOp op a' b') P NoE s := by
  have hu := hA.units
  cases ok with
  | eqI x y => obtain ⟨t, rfl⟩ := ra.int; obtain ⟨u, rfl⟩ := rb.int; exact eq_int q
  | neI x y => obtain ⟨t, rfl⟩ := ra.int; obtain ⟨u, rfl⟩ := rb.int; exact ne_int q
  | ltI x y => obtain ⟨t, rfl⟩ := ra.int; obtain ⟨u, rfl⟩ := rb.int; exact lt_int q
  | leI x y => obtain ⟨t, rfl⟩ := ra.int; obtain ⟨u, rfl⟩ := rb.int; exact le_int q
  | gtI x y => obtain ⟨t, rfl⟩ := ra.int; obtain ⟨u, rfl⟩ := rb.int; exact gt_int q
  | geI x y => obtain ⟨t, rfl⟩ := ra.int; obtain ⟨u, rfl⟩ := rb.int; exact ge_int q
  | eqS x y => obtain ⟨t, rfl⟩ := ra.str; obtain ⟨u, rfl⟩ := rb.str; exact eq_str q
  | neS x y => obtain ⟨t, rfl⟩ := ra.str; obtain ⟨u, rfl⟩ := rb.str; exact ne_str q
  | inS x y => obtain ⟨t, rfl⟩ := ra.str; obtain ⟨u, rfl⟩ := rb.str; exact SB.contains q
  | notInS x y => obtain ⟨t, rfl⟩ := ra.str; obtain ⟨u, rfl⟩ := rb.str; exact SB.notContains q
  | inL x i ds hi hd hc hx =>
    obtain ⟨_, as, ra⟩ := ra
    obtain ⟨_, bs, rb⟩ := R.readsList hi rb
    exact SeqAt.in_list_reads rb ra hc hx (by have := Nat.min_le_left (PyData.depthAll ds) (PyData.str x).depth; omega) q
  | eqL i j ds es hi hj hd hc he =>
    obtain ⟨_, as, ra⟩ := R.readsList hi ra
    obtain ⟨_, bs, rb⟩ := R.readsList hj rb
    refine SeqAt.compareEq_reads ra rb hc he ?_ q
    have h1 := Nat.min_le_left (PyData.list ds).depth (PyData.list es).depth
    have h2 : (PyData.list ds).depth = PyData.depthAll ds + 1 := rfl
    omega
  | neL i j ds es hi hj hd hc he =>
    obtain ⟨_, as, ra⟩ := R.readsList hi ra
    obtain ⟨_, bs, rb⟩ := R.readsList hj rb
    refine SeqAt.compareNe_reads ra rb hc he ?_ q
    have h1 := Nat.min_le_left (PyData.list ds).depth (PyData.list es).depth
    have h2 : (PyData.list ds).depth = PyData.depthAll ds + 1 := rfl
    omega
  | isNotB x y => obtain rfl := ra.bool; obtain rfl := rb.bool; exact wpAny_isNot_plain rfl (by cases x <;> cases y <;> exact q)
  | isB x y => obtain rfl := ra.bool; obtain rfl := rb.bool; exact wpAny_is_plain rfl (by cases x <;> cases y <;> exact q)
  | isNotNone => obtain rfl := ra.none; obtain rfl := rb.none; exact wpAny_isNot_plain rfl q
  | isNotNoneR i => obtain ⟨a, _, rfl⟩ := ra; obtain rfl := rb.none; exact wpAny_isNot_plain rfl q
  | isT x y =>
    obtain rfl := ra; obtain rfl := rb
    refine wpAny_is_plain rfl ?_
    rwa [show (Value.type x == Value.type y) = (x == y) by rw [Bool.eq_iff_iff]; simp]
  | isNotT x y =>
    obtain rfl := ra; obtain rfl := rb
    refine wpAny_isNot_plain rfl ?_
    rwa [show (!(Value.type x == Value.type y)) = (x != y) by rw [Bool.eq_iff_iff]; simp]

theorem we_cmp {l r : Expr} {op : CmpOp} {pos : Pos} (h : WE prog w s₀ k env loc l mem fun a m1 => WE prog w s₀ k env loc r m1 fun b m2 => ∃ c, CmpOk m2 op a b c ∧ Q (.bool c) m2)
    (hm : behindInMarks op r = false) : WE prog w s₀ k env loc (.Compare l [op] [r] pos) mem Q := by
  intro A s ρ hA R
  refine wpAny_Compare1 (wpAny_mono (h A s ρ hA R) ?_ fun _ _ x => x) hm
  rintro a' s1 ⟨a, m1, ρ1, q, ra, R1, x1⟩
  refine wpAny_mono (q A s1 ρ1 hA R1) ?_ fun _ _ x => x
  rintro b' s2 ⟨b, m2, ρ2, ⟨v, ok, q⟩, rb, R2, x2⟩
  exact cmp_ok ok hA (ra.move x2.pre x2.tup) rb R2 (((PostV.of' q repV_bool R2).trans x2).trans x1)

theorem wt_cmp {l r : Expr} {op : CmpOp} {pos : Pos} {Q : Bool → Mem → Prop} (h : WE prog w s₀ k env loc l mem fun a m1 => WE prog w s₀ k env loc r m1 fun b m2 => ∃ c, CmpOk m2 op a b c ∧ Q c m2)
    (hm : behindInMarks op r = false) : WT prog w s₀ k env loc (.Compare l [op] [r] pos) mem Q := by
  intro A s ρ hA R
  refine wpAny_isTrue_Compare1 (wpAny_mono (h A s ρ hA R) ?_ fun _ _ x => x) hm
  rintro a' s1 ⟨a, m1, ρ1, q, ra, R1, x1⟩
  refine wpAny_mono (q A s1 ρ1 hA R1) ?_ fun _ _ x => x
  rintro b' s2 ⟨b, m2, ρ2, ⟨v, ok, q⟩, rb, R2, x2⟩
  exact cmp_ok ok hA (ra.move x2.pre x2.tup) rb R2 (wpAny_truthy_bool ⟨m2, ρ2, q, R2, x1.trans x2⟩)

inductive TruOk (mem : Mem) : AV → Bool → Prop where
  | bool (b : Bool) : TruOk mem (.bool b) b
  | str (x : Str) : x.length ≤ sizeLine → TruOk mem (.str x) ((x.length : Int) != 0)
  | none : TruOk mem .none false

theorem tru_ok {a : AV} {b : Bool} {a' : Value} {P : Bool → Shared → Prop} (ok : TruOk mem a b) (ra : RepV ρ s.heap a a') (q : ∀ t, P b { s with toks := t }) : wpAny (model prog w) A (truthy a') P NoE s := by
  cases ok with
  | bool b => obtain rfl := ra.bool; exact wpAny_truthy_bool (q s.toks)
  | str x hx => obtain ⟨t, rfl⟩ := ra.str; exact PySem.P.truthy_str (by have := sizeLine_eq; omega) (q _)
  | none => obtain rfl := ra.none; exact wpAny_pure (q s.toks)

theorem wt_plain {e : Expr} {Q : Bool → Mem → Prop} (h : WE prog w s₀ k env loc e mem fun a m => ∃ b, TruOk m a b ∧ Q b m)
    (hp : PySem.isTrue e env (eval e env) = (do let v ← eval e env; standAt e.pos; holding [v] (truthy v))) : WT prog w s₀ k env loc e mem Q := by
  intro A s ρ hA R
  rw [hp]
  refine WV.go h hA R ?_
  rintro v m ρ₁ v' s₁ ⟨b, ok, q⟩ rv R1 x1
  exact wpAny_bind (wpAny_standAt (wpAny_holding (tru_ok ok rv fun t => ⟨m, ρ₁, q, R1.toks t, x1.toks t⟩)))

theorem wt_not {e : Expr} {pos : Pos} {Q : Bool → Mem → Prop} (h : WT prog w s₀ k env loc e mem fun b m => Q (!b) m) : WT prog w s₀ k env loc (.UnaryOp .Not e pos) mem Q := by
  intro A s ρ hA R
  show wpAny _ A (do return !(← PySem.isTrue e env (eval e env))) _ _ s
  refine wpAny_bind (wpAny_mono (h A s ρ hA R) ?_ fun _ _ x => x)
  rintro b s1 ⟨m, ρ1, q, R1, x1⟩
  exact wpAny_pure ⟨m, ρ1, q, R1, x1⟩

theorem wt_and {x : Expr} {y : Expr} {pos : Pos} {Q : Bool → Mem → Prop} (h : WT prog w s₀ k env loc x mem fun b m => if b then WT prog w s₀ k env loc y m Q else Q false m) :
    WT prog w s₀ k env loc (.BoolOp .And [x, y] pos) mem Q := by
  intro A s ρ hA R
  show wpAny _ A (do match BoolOp.And, ← PySem.isTrue x env (eval x env) with | .And, false => pure false | .Or, true => pure true | _, _ => allTrue .And [y] env) _ _ s
  refine wpAny_bind (wpAny_mono (h A s ρ hA R) ?_ fun _ _ x => x)
  rintro b s1 ⟨m, ρ1, q, R1, x1⟩
  cases b with
  | false => exact wpAny_pure ⟨m, ρ1, q, R1, x1⟩
  | true =>
    show wpAny _ A (do match BoolOp.And, ← PySem.isTrue y env (eval y env) with | .And, false => pure false | .Or, true => pure true | _, _ => pure true) _ _ s1
    refine wpAny_bind (wpAny_mono (q A s1 ρ1 hA R1) ?_ fun _ _ x => x)
    rintro b s2 ⟨m2, ρ2, q2, R2, x2⟩
    cases b <;> exact wpAny_pure ⟨m2, ρ2, q2, R2, x1.trans x2⟩

theorem wt_and3 {x y z : Expr} {pos : Pos} {Q : Bool → Mem → Prop} (h : WT prog w s₀ k env loc x mem fun b m => if b then WT prog w s₀ k env loc (.BoolOp .And [y, z] pos) m Q else Q false m) :
    WT prog w s₀ k env loc (.BoolOp .And [x, y, z] pos) mem Q := by
  intro A s ρ hA R
  show wpAny _ A (do match BoolOp.And, ← PySem.isTrue x env (eval x env) with | .And, false => pure false | .Or, true => pure true | _, _ => allTrue .And [y, z] env) _ _ s
  refine wpAny_bind (wpAny_mono (h A s ρ hA R) ?_ fun _ _ x => x)
  rintro b s1 ⟨m, ρ1, q, R1, x1⟩
  cases b with
  | false => exact wpAny_pure ⟨m, ρ1, q, R1, x1⟩
  | true => exact wpAny_mono (q A s1 ρ1 hA R1) (fun _ _ p => p.trans x1) fun _ _ x => x

theorem wt_or {x y : Expr} {pos : Pos} {Q : Bool → Mem → Prop} (h : WT prog w s₀ k env loc x mem fun b m => if b then Q true m else WT prog w s₀ k env loc y m Q) :
    WT prog w s₀ k env loc (.BoolOp .Or [x, y] pos) mem Q := by
  intro A s ρ hA R
  show wpAny _ A (do match BoolOp.Or, ← PySem.isTrue x env (eval x env) with | .And, false => pure false | .Or, true => pure true | _, _ => allTrue .Or [y] env) _ _ s
  refine wpAny_bind (wpAny_mono (h A s ρ hA R) ?_ fun _ _ x => x)
  rintro b s1 ⟨m, ρ1, q, R1, x1⟩
  cases b with
  | true => exact wpAny_pure ⟨m, ρ1, q, R1, x1⟩
  | false =>
    show wpAny _ A (do match BoolOp.Or, ← PySem.isTrue y env (eval y env) with | .And, false => pure false | .Or, true => pure true | _, _ => pure false) _ _ s1
    refine wpAny_bind (wpAny_mono (q A s1 ρ1 hA R1) ?_ fun _ _ x => x)
    rintro b s2 ⟨m2, ρ2, q2, R2, x2⟩
    cases b <;> exact wpAny_pure ⟨m2, ρ2, q2, R2, x1.trans x2⟩

theorem we_ifexp {t b o : Expr} {pos : Pos} (h : WT prog w s₀ k env loc t mem fun c m => if c then WE prog w s₀ k env loc b m Q else WE prog w s₀ k env loc o m Q) :
    WE prog w s₀ k env loc (.IfExp t b o pos) mem Q := by
  intro A s ρ hA R
  show wpAny _ A (do if ← PySem.isTrue t env (eval t env) then eval b env else eval o env) _ _ s
  refine wpAny_bind (wpAny_mono (h A s ρ hA R) ?_ fun _ _ x => x)
  rintro c s1 ⟨m, ρ1, q, R1, x1⟩
  cases c with
  | true => exact wpAny_mono (q A s1 ρ1 hA R1) (fun _ _ p => p.trans x1) fun _ _ x => x
  | false => exact wpAny_mono (q A s1 ρ1 hA R1) (fun _ _ p => p.trans x1) fun _ _ x => x

theorem we_and {x y : Expr} {pos : Pos} (h : WE prog w s₀ k env loc x mem fun a m => ∃ b, a = .bool b ∧ if b then WE prog w s₀ k env loc y m Q else Q (.bool false) m) :
    WE prog w s₀ k env loc (.BoolOp .And [x, y] pos) mem Q := by
  intro A s ρ hA R
  show wpAny _ A (do let v ← eval x env; standAt pos; let t ← holding [v] (truthy v); match BoolOp.And, t with | .And, false => pure v | .Or, true => pure v | _, _ => eval y env) _ _ s
  refine WV.go h hA R ?_
  rintro v m ρ₁ v' s₁ ⟨b, rfl, q⟩ rv R1 x1
  obtain rfl := rv.bool
  refine wpAny_bind (wpAny_standAt (wpAny_bind (wpAny_holding (wpAny_truthy_bool ?_))))
  cases b with
  | false => exact wpAny_pure ⟨_, m, ρ₁, q, repV_bool, R1, x1⟩
  | true => exact wpAny_mono (q A s₁ ρ₁ hA R1) (fun _ _ p => p.trans x1) fun _ _ x => x
theorem we_and3 {x y z : Expr} {pos : Pos} (h : WE prog w s₀ k env loc x mem fun a m => ∃ b, a = .bool b ∧ if b then WE prog w s₀ k env loc (.BoolOp .And [y, z] pos) m Q else Q (.bool false) m) :
    WE prog w s₀ k env loc (.BoolOp .And [x, y, z] pos) mem Q := by
  intro A s ρ hA R
  show wpAny _ A (do let v ← eval x env; standAt pos; let t ← holding [v] (truthy v); match BoolOp.And, t with | .And, false => pure v | .Or, true => pure v | _, _ => boolOp pos .And (evalEach [y, z] env)) _ _ s
  refine WV.go h hA R ?_
  rintro v m ρ₁ v' s₁ ⟨b, rfl, q⟩ rv R1 x1
  obtain rfl := rv.bool
  refine wpAny_bind (wpAny_standAt (wpAny_bind (wpAny_holding (wpAny_truthy_bool ?_))))
  cases b with
  | false => exact wpAny_pure ⟨_, m, ρ₁, q, repV_bool, R1, x1⟩
  | true => exact wpAny_mono (q A s₁ ρ₁ hA R1) (fun _ _ p => p.trans x1) fun _ _ x => x
end
end Mine
-- F4
namespace Mine

noncomputable def setL : Loc → Str → AV → Loc
  | [], x, v => [(x, v)]
  | (y, u) :: r, x, v => if y == x then (x, v) :: r else (y, u) :: setL r x v

theorem setL_lookup (loc : Loc) (x : Str) (v : AV) (y : Str) : (setL loc x v).lookup y = if y = x then some v else loc.lookup y := by
  induction loc with
  | nil =>
    simp only [setL, List.lookup_cons, List.lookup_nil]
    by_cases h : y = x
    · subst h; simp
    · have : (y == x) = false := by simpa using h
      simp [h, this]
  | cons p r ih =>
    obtain ⟨z, u⟩ := p
    unfold setL
    by_cases hz : z = x
    · subst hz
      simp only [beq_self_eq_true, if_true, List.lookup_cons]
      by_cases h : y = z
      · subst h; simp
      · have : (y == z) = false := by simpa using h
        simp [h, this]
    · have : (z == x) = false := by simpa using hz
      simp only [this, Bool.false_eq_true, if_false, List.lookup_cons, ih]
      by_cases h : y = x
      · subst h
        have : (y == z) = false := by simpa using fun e => hz e.symm
        simp [this]
      · simp [h]

section
variable {prog : Program} {w : World} {s₀ : Shared} {k : Nat} {env : Env} {loc : Loc} {mem : Mem} {Q : AV → Mem → Prop}
  {A : Around} {s : Shared} {ρ ρ' : List Addr} {h h' : Heap}

theorem RepO.move {o : AO} {a : Addr} (p : ρ <+: ρ') (t : TupKeep h h') (ka : ∀ b ob, h.get? b = some ob → b = a → h'.get? b = some ob) (r : RepO ρ h o a) : RepO ρ' h' o a := by
  cases o with
  | list ds =>
    obtain ⟨f, vs, n, as, e, ra⟩ := r
    exact ⟨f, vs, n, as, ka _ _ e rfl, readsAll_move t _ _ _ f ra⟩
  | inst d =>
    obtain ⟨b, e1, e⟩ := r
    exact ⟨b, prefix_get p e1, ka _ _ e rfl⟩
  | idict att =>
    cases att with
    | none => exact ka _ _ r rfl
    | some j => obtain ⟨l, hsh, t, n, el, e⟩ := r; exact ⟨l, hsh, t, n, prefix_get p el, ka _ _ e rfl⟩

theorem alive_of {h h' : Heap} (hk : ∀ b o, h.get? b = some o → h'.get? b = some o) (b : Addr) (hb : (h.get? b).isSome = true) : (h'.get? b).isSome = true := by
  obtain ⟨o, e⟩ := Option.isSome_iff_exists.mp hb
  rw [hk b o e]; rfl
theorem Ext.ofKeeps {F : List Addr} {h' : Heap} {t : Nat} (hk : ∀ b o, s.heap.get? b = some o → h'.get? b = some o) :
    Ext F ρ s ρ { s with heap := h', toks := t } := ⟨List.prefix_refl _, fun _ h => .inl h, alive_of hk, fun b o e _ _ => hk b o e, fun b o e _ => hk b o e⟩

theorem Rep.keeps {h' : Heap} {t : Nat} (R : Rep s₀ env ρ loc mem s) (hk : ∀ b o, s.heap.get? b = some o → h'.get? b = some o) : Rep s₀ env ρ loc mem { s with heap := h', toks := t } where
  keep0 := fun b o e => hk _ _ (R.keep0 b o e)
  gens := R.gens
  os := R.os
  nodup := R.nodup
  high := R.high
  len := R.len
  objs := fun i o e => by
    obtain ⟨a, ea, r⟩ := R.objs i o e
    exact ⟨a, ea, r.move (List.prefix_refl _) (fun b o e _ => hk b o e) fun b o e _ => hk b o e⟩
  fr := R.fr.move (List.prefix_refl _) (fun b o e _ => hk b o e) (fun b o e _ => hk b o e) R.fr.lfree

theorem Rep.fresh (R : Rep s₀ env ρ loc mem s) : s.heap.objs.size ∉ ρ := by
  intro hm
  obtain ⟨i, hi, e⟩ := List.getElem_of_mem hm
  have hl : i < mem.length := by rw [← R.len]; exact hi
  obtain ⟨a, ha, ho⟩ := R.objs i mem[i] (List.getElem?_eq_getElem hl)
  rw [List.getElem?_eq_getElem hi, e] at ha; cases ha
  have : ∃ o, s.heap.get? s.heap.objs.size = some o := by
    generalize mem[i] = ob at ho
    cases ob with
    | list ds => obtain ⟨_, vs, n, as, e, _⟩ := ho; exact ⟨_, e⟩
    | inst d => obtain ⟨b, _, e⟩ := ho; exact ⟨_, e⟩
    | idict att =>
      cases att with
      | none => exact ⟨_, ho⟩
      | some j => obtain ⟨l, hsh, t, n, _, e⟩ := ho; exact ⟨_, e⟩
  obtain ⟨o, e⟩ := this
  exact absurd (Heap.lt_size e) (Nat.lt_irrefl _)
theorem size0_le (hk : ∀ b o, s₀.heap.get? b = some o → s.heap.get? b = some o) (R : Rep s₀ env ρ loc mem s) : s₀.heap.objs.size ≤ s.heap.objs.size := by
  obtain ⟨m, hn, _⟩ := R.fr.ns
  exact Nat.le_of_lt (Nat.lt_of_le_of_lt R.fr.lhigh hn.lt)

theorem Rep.push {ob : Obj} {o : AO} {t : Nat} (R : Rep s₀ env ρ loc mem s) (hf : ob.isFreed = false) (ho : RepO (ρ ++ [s.heap.objs.size]) (s.heap.push ob) o s.heap.objs.size) :
    Rep s₀ env (ρ ++ [s.heap.objs.size]) loc (mem ++ [o]) { s with heap := s.heap.push ob, toks := t } := by
  have R1 := R.keeps (h' := s.heap.push ob) (t := t) fun b o e => Heap.get?_push_of_some _ e
  have fr := R.fresh
  refine ⟨R1.keep0, R1.gens, R1.os, ?_, ?_, ?_, ?_, ?_⟩
  · exact List.nodup_append.mpr ⟨R.nodup, by simp, fun a ha b hb => by simp at hb; subst hb; rintro rfl; exact fr ha⟩
  · intro a ha
    rcases List.mem_append.mp ha with ha | ha
    · exact R.high a ha
    · simp at ha; subst ha; exact size0_le R.keep0 R
  · simp [R.len]
  · intro i x e
    by_cases hi : i < mem.length
    · rw [List.getElem?_append_left hi] at e
      obtain ⟨a, ea, r⟩ := R1.objs i x e
      exact ⟨a, prefix_get (List.prefix_append _ _) ea, r.move (List.prefix_append _ _) (fun b o e _ => e) fun b o e _ => e⟩
    · have hi' : i = mem.length := by
        have := (List.getElem?_eq_some_iff.mp e).1
        simp at this; omega
      subst hi'
      simp at e; subst e
      exact ⟨s.heap.objs.size, by rw [← R.len]; simp, ho⟩
  · refine R1.fr.move (List.prefix_append _ _) (fun b o e _ => e) (fun b o e _ => e) fun hm => ?_
    rcases List.mem_append.mp hm with hm | hm
    · exact R.fr.lfree hm
    · simp at hm
      obtain ⟨m, hn, _⟩ := R.fr.ns
      exact absurd hn.lt (by rw [hm]; exact Nat.lt_irrefl _)
theorem Ext.push {F : List Addr} {ob : Obj} {t : Nat} : Ext F ρ s (ρ ++ [s.heap.objs.size]) { s with heap := s.heap.push ob, toks := t } where
  pre := List.prefix_append _ _
  new := fun a ha => by
    rcases List.mem_append.mp ha with ha | ha
    · exact .inl ha
    · simp at ha; exact .inr (get_none (Nat.le_of_eq ha.symm))
  alive := alive_of fun b o e => Heap.get?_push_of_some _ e
  keep := fun b o e _ _ => Heap.get?_push_of_some _ e
  tup := fun b o e _ => Heap.get?_push_of_some _ e

theorem get_push_new {ob : Obj} (hf : ob.isFreed = false) : (s.heap.push ob).get? s.heap.objs.size = some ob := Heap.get?_push_size _ hf

theorem repO_newList {ds : List PyData} {vs : List Value} {as : List Addr} (hfl : flats ds = true) (r : ReadsAll s.heap vs ds as) :
    RepO (ρ ++ [s.heap.objs.size]) (s.heap.push (listObj vs.toArray 0)) (.list ds) s.heap.objs.size :=
  ⟨hfl, vs.toArray, 0, as, get_push_new rfl, by simpa using readsAll_move (fun b o e _ => Heap.get?_push_of_some _ e) _ _ _ hfl r⟩

theorem Rep.write {i : Nat} {a : Addr} {o o' : AO} {h' : Heap} {t : Nat} (R : Rep s₀ env ρ loc mem s) (hi : mem[i]? = some o) (ha : ρ[i]? = some a) (hs : Heap.SameBut a s.heap h') (hnt : TupKeep s.heap h')
    (ho : RepO ρ h' o' a) : Rep s₀ env ρ loc (mem.set i o') { s with heap := h', toks := t } := by
  have hmem : a ∈ ρ := List.mem_of_getElem? ha
  have hne : ∀ b, b ∈ own env → b ≠ a := by
    rintro b hb rfl
    rcases List.mem_cons.mp hb with rfl | hb
    · exact R.fr.lfree hmem
    · obtain ⟨⟨n, c⟩, hc, rfl⟩ := List.mem_map.mp hb
      exact R.cell_free hc hmem
  refine ⟨fun b o e => ?_, R.gens, R.os, R.nodup, R.high, by simp [R.len], fun j x e => ?_, R.fr.move (List.prefix_refl _) hnt (fun b o e hb => (hs.2 b (hne b hb)).trans e) R.fr.lfree⟩
  · have hb : b ≠ a := by
      rintro rfl
      have := R.high b hmem
      exact absurd (Heap.lt_size e) (Nat.not_lt.mpr this)
    exact (hs.2 b hb).trans (R.keep0 b o e)
  · by_cases hji : j = i
    · subst hji
      have hl : j < mem.length := (List.getElem?_eq_some_iff.mp hi).1
      rw [List.getElem?_set_self hl] at e; cases e
      exact ⟨a, ha, ho⟩
    · rw [List.getElem?_set_ne (fun e => hji e.symm)] at e
      obtain ⟨b, eb, r⟩ := R.objs j x e
      have hb : b ≠ a := by
        rintro rfl
        obtain ⟨h1, e1⟩ := List.getElem?_eq_some_iff.mp eb
        obtain ⟨h2, e2⟩ := List.getElem?_eq_some_iff.mp ha
        exact hji ((List.getElem_inj R.nodup).mp (e1.trans e2.symm))
      exact ⟨b, eb, r.move (List.prefix_refl _) hnt fun c ob e hc => by subst hc; exact (hs.2 c hb).trans e⟩
theorem alive_but {a : Addr} {o' : Obj} (hs : Heap.SameBut a h h') (e : h'.get? a = some o') (b : Addr) (hb : (h.get? b).isSome = true) : (h'.get? b).isSome = true := by
  by_cases hba : b = a
  · subst hba; rw [e]; rfl
  · rw [hs.2 b hba]; exact hb
theorem Ext.write {F : List Addr} {a : Addr} {o' : Obj} {h' : Heap} {t : Nat} (ha : a ∈ ρ) (hs : Heap.SameBut a s.heap h') (e : h'.get? a = some o') (hnt : TupKeep s.heap h') : Ext F ρ s ρ { s with heap := h', toks := t } :=
  ⟨List.prefix_refl _, fun _ h => .inl h, alive_but hs e, fun b o e hb _ => (hs.2 b (by rintro rfl; exact hb ha)).trans e, hnt⟩
theorem tupKeep_sameBut {a : Addr} {o : Obj} (hs : Heap.SameBut a h h') (e : h.get? a = some o) (hc : ¬ isTup o) : TupKeep h h' := fun b ob eb ht => by
  by_cases hb : b = a
  · subst hb; rw [e] at eb; cases eb; exact absurd ht hc
  · exact (hs.2 b hb).trans eb

theorem not_tup_dict {o : Obj} {es ep} (hd : o.data = .dict es ep) : ¬ isTup o := fun h => by
  rcases h with ⟨_, vs, n, e⟩ | ⟨_, vs, e⟩ <;> (rw [hd] at e; cases e)
theorem not_tup_cell {o : Obj} {v} (hd : o.data = .cell v) : ¬ isTup o := fun h => by
  rcases h with ⟨_, vs, n, e⟩ | ⟨_, vs, e⟩ <;> (rw [hd] at e; cases e)
theorem not_tup_cls {o : Obj} {T : String} (hc : o.cls = .type T) (h1 : T ≠ "tuple") (h2 : T ≠ "range") : ¬ isTup o := fun h => by
  rcases h with ⟨e, _⟩ | ⟨e, _⟩ <;> (rw [hc] at e; injection e with e; first | exact h1 e | exact h2 e)
theorem not_tup_list {vs n} : ¬ isTup (listObj vs n) := not_tup_cls (T := "list") rfl (by decide) (by decide)

theorem tupKeep_but {a : Addr} {o : Obj} (hk : ∀ b ob, b ≠ a → h.get? b = some ob → h'.get? b = some ob) (e : h.get? a = some o) (hc : ¬ isTup o) : TupKeep h h' := fun b ob eb ht => by
  by_cases hb : b = a
  · subst hb; rw [e] at eb; cases eb; exact absurd ht hc
  · exact hk b ob hb eb
theorem Rep.otherK {a : Addr} {o : Obj} {h' : Heap} (R : Rep s₀ env ρ loc mem s) (ha : a ∉ ρ) (hlo : s₀.heap.objs.size ≤ a) (hk : ∀ b ob, b ≠ a → s.heap.get? b = some ob → h'.get? b = some ob) (e : s.heap.get? a = some o) (hnt : ¬ isTup o)
    {env' : Env} {loc' : Loc} (fr : Frm s₀ env' ρ loc' h') {t : Nat} : Rep s₀ env' ρ loc' mem { s with heap := h', toks := t } := by
  refine ⟨fun b o' eb => ?_, R.gens, R.os, R.nodup, R.high, R.len, fun i x ex => ?_, fr⟩
  · have hb : b ≠ a := by rintro rfl; exact absurd (Heap.lt_size eb) (Nat.not_lt.mpr hlo)
    exact hk b _ hb (R.keep0 b o' eb)
  · obtain ⟨c, ec, r⟩ := R.objs i x ex
    refine ⟨c, ec, r.move (List.prefix_refl _) (tupKeep_but hk e hnt) fun b ob eb hb => ?_⟩
    subst hb
    exact hk b _ (by rintro rfl; exact ha (List.mem_of_getElem? ec)) eb
theorem Rep.other {a : Addr} {o : Obj} {h' : Heap} (R : Rep s₀ env ρ loc mem s) (ha : a ∉ ρ) (hlo : s₀.heap.objs.size ≤ a) (hs : Heap.SameBut a s.heap h') (e : s.heap.get? a = some o) (hnt : ¬ isTup o)
    {env' : Env} {loc' : Loc} (fr : Frm s₀ env' ρ loc' h') {t : Nat} : Rep s₀ env' ρ loc' mem { s with heap := h', toks := t } :=
  R.otherK ha hlo (fun b ob hb eb => (hs.2 b hb).trans eb) e hnt fr
theorem Rep.aside {a : Addr} {o : Obj} {h' : Heap} (R : Rep s₀ env ρ loc mem s) (ha : a ∉ ρ) (hlo : s₀.heap.objs.size ≤ a) (hk : ∀ b ob, b ≠ a → s.heap.get? b = some ob → h'.get? b = some ob) (e : s.heap.get? a = some o) (hnt : ¬ isTup o)
    (hown : a ∉ own env) {t : Nat} : Rep s₀ env ρ loc mem { s with heap := h', toks := t } :=
  R.otherK ha hlo hk e hnt (R.fr.move (List.prefix_refl _) (tupKeep_but hk e hnt) (fun b o' eb hb => hk b _ (by rintro rfl; exact hown hb) eb) R.fr.lfree)
theorem Ext.other {F : List Addr} {a : Addr} {o o' : Obj} {h' : Heap} {t : Nat} (hF : a ∈ F) (hs : Heap.SameBut a s.heap h') (e : s.heap.get? a = some o) (e' : h'.get? a = some o') (hnt : ¬ isTup o) : Ext F ρ s ρ { s with heap := h', toks := t } :=
  ⟨List.prefix_refl _, fun _ h => .inl h, alive_but hs e', fun b o eb _ hb => (hs.2 b (by rintro rfl; exact hb hF)).trans eb, tupKeep_sameBut hs e hnt⟩

theorem Rep.store {x : Str} {v : AV} {v' : Value} {P : Unit → Shared → Prop} (R : Rep s₀ env ρ loc mem s) (rv : RepV ρ s.heap v v')
    (hk : env.kindOf x = some .local ∨ (env.kindOf x = some .cell ∧ (env.cells.lookup x).isSome = true))
    (h : ∀ s', Rep s₀ env ρ (setL loc x v) mem s' → Ext (own env) ρ s ρ s' → P () s') : wpAny (model prog w) A (storeName env x v') P NoE s := by
  obtain ⟨m, hn, hm⟩ := R.fr.ns
  rcases hk with hk | ⟨hk, hc⟩
  · refine wpAny_storeName_local hk hn (fun h' hn' hs => ?_) (by rw [R.fr.kind]; rfl)
    obtain ⟨o, es, ep, e, ed, _⟩ := hn
    obtain ⟨o', es', ep', e', ed', _⟩ := id hn'
    have hnt := tupKeep_sameBut hs e (not_tup_dict ed)
    refine h _ (R.other R.fr.lfree R.fr.lhigh hs e (not_tup_dict ed) (env' := env) ?_) (Ext.other (.head _) hs e e' (not_tup_dict ed))
    have f := R.fr
    have kc : ∀ y c, (y, c) ∈ env.cells → ∀ ob, s.heap.get? c = some ob → h'.get? c = some ob := fun y c hc ob eb => (hs.2 c (f.cell_ne hc)).trans eb
    refine ⟨f.kind, f.glob, f.blt, ⟨_, hn', fun y u hy hl => ?_⟩, fun y u hy hl => ?_, fun y c hc => ?_, f.apart, f.lfree, f.lhigh⟩
    · rw [setL_lookup] at hy
      by_cases hyx : y = x
      · rw [if_pos hyx] at hy; cases hy
        exact ⟨v', by rw [if_pos hyx], rv.move (List.prefix_refl _) hnt⟩
      · rw [if_neg hyx] at hy
        obtain ⟨u', e1, e2⟩ := hm y u hy hl
        exact ⟨u', by rw [if_neg hyx]; exact e1, e2.move (List.prefix_refl _) hnt⟩
    · rw [setL_lookup] at hy
      by_cases hyx : y = x
      · subst hyx; rw [hk] at hl; rcases hl with hl | hl <;> cases hl
      · rw [if_neg hyx] at hy
        obtain ⟨c, u', e1, ⟨ob, e2, e3⟩, e4⟩ := f.cel y u hy hl
        exact ⟨c, u', e1, ⟨ob, kc y c (mem_of_lookup e1) ob e2, e3⟩, e4.move (List.prefix_refl _) hnt⟩
    · obtain ⟨⟨u, ob, e1, e2⟩, hlo⟩ := f.cells y c hc
      exact ⟨⟨u, ob, kc y c hc ob e1, e2⟩, hlo⟩
  · obtain ⟨c, hc⟩ := Option.isSome_iff_exists.mp hc
    have f := R.fr
    obtain ⟨⟨u0, hcell⟩, hlo⟩ := f.cells x c (mem_of_lookup hc)
    refine wpAny_storeName_cell R.fr.kind hk hc hcell (fun h' hc' hs => ?_)
    obtain ⟨o, e, ed⟩ := hcell
    obtain ⟨o', e', ed'⟩ := id hc'
    have hnt := tupKeep_sameBut hs e (not_tup_cell ed)
    have hcl : env.locals ≠ c := fun e => f.cell_ne (mem_of_lookup hc) e.symm
    refine h _ (R.other (R.cell_free (mem_of_lookup hc)) hlo hs e (not_tup_cell ed) (env' := env) ?_) (Ext.other (.tail _ (List.mem_map.mpr ⟨_, mem_of_lookup hc, rfl⟩)) hs e e' (not_tup_cell ed))
    have kc : ∀ y d, (y, d) ∈ env.cells → y ≠ x → ∀ ob, s.heap.get? d = some ob → h'.get? d = some ob := fun y d hd hyx ob eb =>
      (hs.2 d (by rintro rfl; exact hyx (name_of_addr f.apart hd (mem_of_lookup hc)))).trans eb
    refine ⟨f.kind, f.glob, f.blt, ⟨m, hn.sameBut hs hcl, fun y u hy hl => ?_⟩, fun y u hy hl => ?_, fun y d hd => ?_, f.apart, f.lfree, f.lhigh⟩
    · rw [setL_lookup] at hy
      by_cases hyx : y = x
      · subst hyx; rw [hk] at hl; cases hl
      · rw [if_neg hyx] at hy
        obtain ⟨u', e1, e2⟩ := hm y u hy hl
        exact ⟨u', e1, e2.move (List.prefix_refl _) hnt⟩
    · rw [setL_lookup] at hy
      by_cases hyx : y = x
      · subst hyx; rw [if_pos rfl] at hy; cases hy
        exact ⟨c, v', hc, hc', rv.move (List.prefix_refl _) hnt⟩
      · rw [if_neg hyx] at hy
        obtain ⟨d, u', e1, ⟨ob, e2, e3⟩, e4⟩ := f.cel y u hy hl
        exact ⟨d, u', e1, ⟨ob, kc y d (mem_of_lookup e1) hyx ob e2, e3⟩, e4.move (List.prefix_refl _) hnt⟩
    · by_cases hyx : d = c
      · subst hyx; exact ⟨⟨_, hc'⟩, hlo⟩
      · obtain ⟨⟨u, ob, e1, e2⟩, hlo'⟩ := f.cells y d hd
        exact ⟨⟨u, ob, (hs.2 d hyx).trans e1, e2⟩, hlo'⟩
end
end Mine
-- F5
namespace Mine
section
variable {prog : Program} {w : World} {s₀ : Shared} {k : Nat} {env : Env} {loc : Loc} {mem : Mem} {Q : AFlow → Loc → Mem → Prop}
  {A : Around} {s : Shared} {ρ ρ' : List Addr} {h h' : Heap}

theorem wxs_nil (q : Q .next loc mem) : WXs prog w s₀ k env loc [] mem Q :=
  fun _ _ ρ _ R => wpAny_execs_nil ⟨.next, loc, mem, ρ, q, rfl, R, Ext.refl _ _ _⟩

noncomputable abbrev SeqP (prog : Program) (w : World) (s₀ : Shared) (k : Nat) (env : Env) (rest : List Stmt) (Q : AFlow → Loc → Mem → Prop) : AFlow → Loc → Mem → Prop
  | .next, l, m => WXs prog w s₀ k env l rest m Q
  | .ret v, l, m => Q (.ret v) l m
noncomputable abbrev LoopP (I : Loc → Mem → Prop) (Q : AFlow → Loc → Mem → Prop) : AFlow → Loc → Mem → Prop
  | .next, l, m => I l m
  | .ret v, l, m => Q (.ret v) l m
noncomputable abbrev FnP (Q : AV → Mem → Prop) : AFlow → Loc → Mem → Prop
  | .next, _, m => Q .none m
  | .ret v, _, m => Q v m
theorem wxs_cons {st : Stmt} {rest : List Stmt} (h : WX prog w s₀ k env loc st mem (SeqP prog w s₀ k env rest Q)) : WXs prog w s₀ k env loc (st :: rest) mem Q := by
  intro A s ρ hA R
  refine wpAny_execs_cons (wpAny_mono (h A s ρ hA R) ?_ fun _ _ x => x)
  rintro f s1 ⟨fl, l, m, ρ1, q, rf, R1, x1⟩
  cases fl with
  | next => obtain rfl := rf; exact wpAny_mono (q A s1 ρ1 hA R1) (fun _ _ p => p.trans x1) fun _ _ x => x
  | ret v => obtain ⟨v', rfl, rv⟩ := rf; exact ⟨.ret v, l, m, ρ1, q, ⟨v', rfl, rv⟩, R1, x1⟩

theorem wx_return {e : Expr} {pos : Pos} (h : WE prog w s₀ k env loc e mem fun v m => Q (.ret v) loc m) : WX prog w s₀ k env loc (.Return (some e) pos) mem Q := by
  intro A s ρ hA R
  refine wpAny_Return_some (wpAny_mono (h A s ρ hA R) ?_ fun _ _ x => x)
  rintro v' s1 ⟨v, m, ρ1, q, rv, R1, x1⟩
  exact ⟨.ret v, loc, m, ρ1, q, ⟨v', rfl, rv⟩, R1, x1.nil⟩

theorem wx_if {t : Expr} {b o : List Stmt} {pos : Pos} (h : WT prog w s₀ k env loc t mem fun c m => if c then WXs prog w s₀ k env loc b m Q else WXs prog w s₀ k env loc o m Q) :
    WX prog w s₀ k env loc (.If t b o pos) mem Q := by
  intro A s ρ hA R
  refine wpAny_If (wpAny_mono (h A s ρ hA R) ?_ fun _ _ x => x)
  rintro c s1 ⟨m, ρ1, q, R1, x1⟩
  cases c with
  | true => exact wpAny_mono (q A s1 ρ1 hA R1) (fun _ _ p => p.trans x1.nil) fun _ _ x => x
  | false => exact wpAny_mono (q A s1 ρ1 hA R1) (fun _ _ p => p.trans x1.nil) fun _ _ x => x

noncomputable def Storable (env : Env) (x : Str) : Prop := env.kindOf x = some .local ∨ (env.kindOf x = some .cell ∧ (env.cells.lookup x).isSome = true)

theorem wx_assign {x : Str} {p pos : Pos} {e : Expr} (h : WE prog w s₀ k env loc e mem fun v m => Q .next (setL loc x v) m) (hk : Storable env x)
    (hs : swapsWith e (some (.Name x p)) pos.line env = pure false) : WX prog w s₀ k env loc (.Assign [.Name x p] e pos) mem Q := by
  intro A s ρ hA R
  refine wpAny_Assign_Name (wpAny_mono (h A s ρ hA R) ?_ fun _ _ x => x) hs
  rintro v' s1 ⟨v, m, ρ1, q, rv, R1, x1⟩
  exact R1.store rv hk fun s' R' x' => ⟨.next, _, m, ρ1, q, rfl, R', x1.nil.trans x'⟩

theorem wx_assert {t : Expr} {pos : Pos} (h : WT prog w s₀ k env loc t mem fun c m => c = true ∧ Q .next loc m) : WX prog w s₀ k env loc (.Assert t none pos) mem Q := by
  intro A s ρ hA R
  show wpAny _ A (do standAt pos; if ← PySem.isTrue t env (eval t env) then pure .next else assertFails t.pos (evalOpt none env)) _ _ s
  refine wpAny_bind (wpAny_standAt (wpAny_bind (wpAny_mono (h A s ρ hA R) ?_ fun _ _ x => x)))
  rintro c s1 ⟨m, ρ1, ⟨rfl, q⟩, R1, x1⟩
  exact wpAny_pure ⟨.next, loc, m, ρ1, q, rfl, R1, x1.nil⟩

theorem wx_aug {x : Str} {p pos : Pos} {op : Operator} {e : Expr} {v : AV} (hv : loc.lookup x = some v)
    (h : WE prog w s₀ k env loc e mem fun u m => ∃ r, (∀ A s ρ v' u', RepV ρ s.heap v v' → RepV ρ s.heap u u' → ∀ P : Value → Shared → Prop, (∀ r' t, RepV ρ s.heap r r' → P r' { s with toks := t }) →
        wpAny (model prog w) A (inplaceOp op v' u') P NoE s) ∧ Q .next (setL loc x r) m) (hk : Storable env x)
    (hn : env.kindOf x = some .local) : WX prog w s₀ k env loc (.AugAssign (.Name x p) op e pos) mem Q := by
  intro A s ρ hA R
  obtain ⟨m, hns, hm⟩ := R.fr.ns
  obtain ⟨v', e1, rv⟩ := hm x v hv hn
  refine wpAny_AugAssign_Name (wpAny_loadName_local R.fr.kind hn hns e1 (wpAny_mono (h A s ρ hA R) ?_ fun _ _ x => x))
  rintro u' s1 ⟨u, m, ρ1, ⟨r, hr, q⟩, ru, R1, x1⟩
  refine hr A s1 ρ1 v' u' (rv.move x1.pre x1.tup) ru _ fun r' t rr => ?_
  exact (R1.toks t).store rr hk fun s' R' x' => ⟨.next, _, m, ρ1, q, rfl, R', (x1.toks t).nil.trans x'⟩
theorem aug_addI {x y : Int} {A : Around} {s : Shared} {ρ : List Addr} {v' u' : Value} (rv : RepV ρ s.heap (.int x) v') (ru : RepV ρ s.heap (.int y) u') (P : Value → Shared → Prop)
    (hP : ∀ r' t, RepV ρ s.heap (.int (x + y)) r' → P r' { s with toks := t }) : wpAny (model prog w) A (inplaceOp .Add v' u') P NoE s := by
  obtain ⟨t, rfl⟩ := rv.int; obtain ⟨u, rfl⟩ := ru.int
  exact iadd_int (hP _ _ repV_int)
theorem aug_subI {x y : Int} {A : Around} {s : Shared} {ρ : List Addr} {v' u' : Value} (rv : RepV ρ s.heap (.int x) v') (ru : RepV ρ s.heap (.int y) u') (P : Value → Shared → Prop)
    (hP : ∀ r' t, RepV ρ s.heap (.int (x - y)) r' → P r' { s with toks := t }) : wpAny (model prog w) A (inplaceOp .Sub v' u') P NoE s := by
  obtain ⟨t, rfl⟩ := rv.int; obtain ⟨u, rfl⟩ := ru.int
  exact isub_int (hP _ _ repV_int)
end
end Mine
-- F6
namespace Mine

inductive RepVs (ρ : List Addr) (h : Heap) : List AV → List Value → Prop where
  | nil : RepVs ρ h [] []
  | cons {v : AV} {v' : Value} {vs : List AV} {vs' : List Value} : RepV ρ h v v' → RepVs ρ h vs vs' → RepVs ρ h (v :: vs) (v' :: vs')
theorem RepVs.move {ρ ρ' : List Addr} {h h' : Heap} (p : ρ <+: ρ') (k : TupKeep h h') {vs : List AV} {vs' : List Value} (r : RepVs ρ h vs vs') : RepVs ρ' h' vs vs' := by
  induction r with
  | nil => exact .nil
  | cons a _ ih => exact .cons (a.move p k) ih
theorem RepVs.data {ρ : List Addr} {h : Heap} : ∀ {ds : List PyData} {vs' : List Value}, RepVs ρ h (ds.map .dat) vs' → flats ds = true ∧ ∃ as, ReadsAll h vs' ds as
  | [], _, .nil => ⟨rfl, _, .nil⟩
  | d :: ds, _, .cons a r => by
    obtain ⟨f, as, ra⟩ := a
    obtain ⟨f', bs, rb⟩ := RepVs.data (ds := ds) r
    exact ⟨by simp [flats, f, f'], _, .cons ra rb⟩
theorem RepVs.length {ρ : List Addr} {h : Heap} {vs : List AV} {vs' : List Value} (r : RepVs ρ h vs vs') : vs'.length = vs.length := by
  induction r with
  | nil => rfl
  | cons _ _ ih => simp [ih]

section
variable {prog : Program} {w : World} {s₀ : Shared} {k : Nat} {env : Env} {loc : Loc} {mem : Mem} {Q : AV → Mem → Prop}
  {A : Around} {s : Shared} {ρ ρ' : List Addr} {h h' : Heap} {K : Frag}

noncomputable def PostVs (s₀ : Shared) (env : Env) (ρ : List Addr) (loc : Loc) (s : Shared) (Q : List AV → Mem → Prop) : List Value → Shared → Prop :=
  fun v' s' => ∃ v mem' ρ', Q v mem' ∧ RepVs ρ' s'.heap v v' ∧ Rep s₀ env ρ' loc mem' s' ∧ Ext [] ρ s ρ' s'
noncomputable def WA (prog : Program) (w : World) (s₀ : Shared) (k : Nat) (env : Env) (loc : Loc) (pos : Pos) (es : List Expr) (mem : Mem) (Q : List AV → Mem → Prop) : Prop :=
  ∀ (A : Around) (s : Shared) (ρ : List Addr), Room k A → Rep s₀ env ρ loc mem s → wpAny (model prog w) A (spliced (backTo pos (starEach es env))) (PostVs s₀ env ρ loc s Q) NoE s

theorem wa_nil {pos : Pos} {Q : List AV → Mem → Prop} (q : Q [] mem) : WA prog w s₀ k env loc pos [] mem Q :=
  fun _ _ ρ _ R => Calls.spliced_nil ⟨[], mem, ρ, q, .nil, R, Ext.refl _ _ _⟩
theorem wa_cons {pos : Pos} {e : Expr} {es : List Expr} {Q : List AV → Mem → Prop} (h : WE prog w s₀ k env loc e mem fun v m => WA prog w s₀ k env loc pos es m fun vs m' => Q (v :: vs) m')
    (hs : starEach (e :: es) env = (false, eval e env) :: starEach es env) : WA prog w s₀ k env loc pos (e :: es) mem Q := by
  intro A s ρ hA R
  rw [hs]
  refine Calls.spliced_cons (wpAny_mono (h A s ρ hA R) ?_ fun _ _ x => x)
  rintro v' s1 ⟨v, m, ρ1, q, rv, R1, x1⟩
  refine wpAny_mono (q A s1 ρ1 hA R1) ?_ fun _ _ x => x
  rintro vs' s2 ⟨vs, m2, ρ2, q2, rvs, R2, x2⟩
  exact ⟨v :: vs, m2, ρ2, q2, .cons (rv.move x2.pre x2.tup) rvs, R2, x1.trans x2⟩

theorem Rep.newList {ds : List PyData} {vs : List Value} {as : List Addr} (R : Rep s₀ env ρ loc mem s) (hf : flats ds = true) (r : ReadsAll s.heap vs ds as) (hl : ds.length ≤ sizeLine) (q : Q (.ref mem.length) (mem ++ [.list ds])) :
    wpAny (model prog w) A (newList vs) (PostV s₀ env ρ loc s Q) NoE s := by
  refine wpAny_newObj_type ?_ ?_
  · refine ⟨.ref mem.length, mem ++ [.list ds], ρ ++ [s.heap.objs.size], q, ⟨_, ?_, rfl⟩, R.push (t := s.toks) rfl (repO_newList hf r), Ext.push (t := s.toks)⟩
    rw [← R.len]; simp
  · show vs.toArray.size ≤ sizeLine
    rw [List.size_toArray, SeqAt.ReadsAll.length _ _ _ r]; exact hl

theorem we_list {es : List Expr} {pos : Pos} (h : WA prog w s₀ k env loc pos es mem fun vs m => ∃ ds, vs = ds.map .dat ∧ ds.length ≤ sizeLine ∧ Q (.ref m.length) (m ++ [.list ds])) :
    WE prog w s₀ k env loc (.List es pos) mem Q := by
  intro A s ρ hA R
  refine List_ (wpAny_mono (h A s ρ hA R) ?_ fun _ _ x => x)
  rintro vs' s1 ⟨vs, m, ρ1, ⟨ds, rfl, hl, q⟩, rvs, R1, x1⟩
  obtain ⟨hf, as, ra⟩ := rvs.data
  exact wpAny_mono (R1.newList hf ra hl q) (fun _ _ p => p.trans x1) fun _ _ x => x

theorem we_tuple {es : List Expr} {kk : Nat} {pos : Pos} (h : WA prog w s₀ k env loc pos es mem fun vs m => ∃ ds, vs = ds.map .dat ∧ ds.length ≤ sizeLine ∧ Q (.tup ds) m) :
    WE prog w s₀ k env loc (.Tuple es kk pos) mem Q := by
  intro A s ρ hA R
  refine Tuple_ (wpAny_mono (h A s ρ hA R) ?_ fun _ _ x => x)
  rintro vs' s1 ⟨vs, m, ρ1, ⟨ds, rfl, hl, q⟩, rvs, R1, x1⟩
  obtain ⟨hf, as, ra⟩ := rvs.data
  refine wpAny_newObj_type ?_ ?_
  · refine ⟨.tup ds, m, ρ1, q, ⟨hf, as, ?_⟩, R1.keeps (t := s1.toks) fun b o e => Heap.get?_push_of_some _ e, x1.trans (Ext.ofKeeps (t := s1.toks) (fun b o e => Heap.get?_push_of_some _ e))⟩
    exact .tuple (Heap.get?_push_size _ rfl) rfl rfl (by simpa using readsAll_move (fun b o e _ => Heap.get?_push_of_some _ e) _ _ _ hf ra)
  · show vs'.toArray.size ≤ sizeLine
    rw [List.size_toArray, SeqAt.ReadsAll.length _ _ _ ra]; exact hl

theorem we_pair {x y : Expr} {kk : Nat} {pos : Pos} (h : WA prog w s₀ k env loc pos [x, y] mem fun vs m => ∃ i j, vs = [.ref i, .ref j] ∧ Q (.pair i j) m) :
    WE prog w s₀ k env loc (.Tuple [x, y] kk pos) mem Q := by
  intro A s ρ hA R
  refine Tuple_ (wpAny_mono (h A s ρ hA R) ?_ fun _ _ x => x)
  rintro vs' s1 ⟨vs, m, ρ1, ⟨i, j, rfl, q⟩, rvs, R1, x1⟩
  cases rvs with
  | cons ri r =>
    cases r with
    | cons rj r =>
      cases r
      obtain ⟨a, ea, rfl⟩ := ri
      obtain ⟨b, eb, rfl⟩ := rj
      refine wpAny_newObj_type ?_ ?_
      · exact ⟨.pair i j, m, ρ1, q, ⟨_, a, b, 0, rfl, ea, eb, Heap.get?_push_size _ rfl⟩, R1.keeps (t := s1.toks) fun b o e => Heap.get?_push_of_some _ e, x1.trans (Ext.ofKeeps (t := s1.toks) (fun b o e => Heap.get?_push_of_some _ e))⟩
      · show 2 ≤ sizeLine
        rw [sizeLine_eq]; omega

noncomputable def CallW (prog : Program) (w : World) (s₀ : Shared) (k : Nat) (f : Value) (avs : List AV) (kw : List (Str × AV)) (mem : Mem) (Q : AV → Mem → Prop) : Prop :=
  ∀ (env : Env) (loc : Loc) (A : Around) (s : Shared) (ρ : List Addr) (vs : List Value) (kvs : List Value), Room k A → Rep s₀ env ρ loc mem s → RepVs ρ s.heap avs vs → RepVs ρ s.heap (kw.map (·.2)) kvs →
    wpAny (model prog w) A (call f vs ((kw.map (·.1)).zip kvs)) (PostV s₀ env ρ loc s Q) NoE s


noncomputable def Called (K : Frag) (f : Value) : Prop := (∃ id, f = .builtin id) ∨ (∃ T, f = .type T) ∨ keepIn K f = true
theorem Called.looks {f : Value} (c : Called K f) {M : Model} (h : Heap) (X : K.In h) : ∃ kp, (kp = Keeper.frame ∨ kp = Keeper.machine ∨ kp = Keeper.boundFrame) ∧ Looks M h (keeperOf f) kp := by
  rcases c with ⟨id, rfl⟩ | ⟨T, rfl⟩ | hk
  · exact ⟨.machine, .inr (.inl rfl), Looks.of_pure rfl⟩
  · exact ⟨.machine, .inr (.inl rfl), Looks.of_pure rfl⟩
  · exact keeps_K hk h X

theorem evalArgs_nil_any {M : Model} {f : Value} {E : Value → Shared → Prop} {Q : Args → Shared → Prop} (h : wpAny M A (spliced []) (fun vs s' => Q ⟨vs, []⟩ s') E s) : wpAny M A (evalArgs f true [] []) Q E s := by
  unfold evalArgs
  show wpAny M A (spliced [] >>= _) Q E s
  refine wpAny_bind (wpAny_mono h (fun vs s' h' => ?_) fun _ _ x => x)
  refine wpAny_bind (wpAny_pure (wpAny_holding ?_))
  exact wpAny_bind (wpAny_pure (wpAny_bind (wpAny_pure (wpAny_pure h'))))
theorem we_call (G : Gr w s₀ K) {f : Expr} {args : List Expr} {pos : Pos}
    (h : WE prog w s₀ k env loc f mem fun fv m => ∃ v, fv = .cst v ∧ Called K v ∧ WA prog w s₀ k env loc pos args m fun avs m' => CallW prog w s₀ k v avs [] m' Q)
    (he : eval (.Call f args [] pos) env = (do callWith pos (← eval f env) [] (backTo pos (starEach args env)) (backToKw pos (keywordEach [] env))))
    (hp : (backTo pos (starEach args env)).any (·.1) = false)
    (hn : (match starEach args env with | (false, _) :: _ => true | [] => true | _ => false) = true) :
    WE prog w s₀ k env loc (.Call f args [] pos) mem Q := by
  intro A s ρ hA R
  rw [he]
  refine WV.go h hA R ?_
  rintro fv m ρ1 v' s1 ⟨v, rfl, hc, ha⟩ rv R1 x1
  obtain rfl := rv
  refine callWith_of (P := fun h => K.In h) (by rw [hp]; rfl) (fun h X => hc.looks h X) ?_
  have main : wpAny (model prog w) A (spliced (backTo pos (starEach args env))) (fun vs s₁ => K.In s₁.heap ∧ wpAny (model prog w) A (call v' ([] ++ vs) []) (PostV s₀ env ρ loc s Q) NoE s₁) NoE s1 := by
    refine wpAny_mono (ha A s1 ρ1 hA R1) ?_ fun _ _ x => x
    rintro vs' s2 ⟨vs, m2, ρ2, q, rvs, R2, x2⟩
    exact ⟨G.k.keeps R2.keep0, wpAny_mono (q env loc A s2 ρ2 vs' [] hA R2 rvs .nil) (fun _ _ p => (p.trans x2).trans x1) fun _ _ x => x⟩
  cases hst : starEach args env with
  | nil =>
    rw [hst] at main
    exact evalArgs_nil_any main
  | cons y r =>
    obtain ⟨b, t⟩ := y
    rw [hst] at hn main
    cases b with
    | true => cases hn
    | false => exact Calls.evalArgs_plain main
end
end Mine
-- F7
namespace Mine

noncomputable def Closed (n : Nat) : AV → Prop
  | .dat _ => True
  | .ref i => i < n
  | .cst _ => True
  | .pair i j => i < n ∧ j < n
  | .rng _ _ => True
noncomputable def ClosedO (n : Nat) : AO → Prop
  | .list _ => True
  | .inst d => d < n
  | .idict none => True
  | .idict (some j) => j < n
noncomputable def ClosedM (m : Mem) : Prop := ∀ (i : Nat) (o : AO), m[i]? = some o → ClosedO m.length o

theorem take_get {α : Type} {l : List α} {n i : Nat} {a : α} (hi : i < n) (e : l[i]? = some a) : (l.take n)[i]? = some a := by
  rw [List.getElem?_take_of_lt hi]; exact e
theorem RepV.closed {ρ : List Addr} {h : Heap} : ∀ {v : AV} {v' : Value}, RepV ρ h v v' → Closed ρ.length v
  | .dat _, _, _ => trivial
  | .ref _, _, ⟨_, e, _⟩ => (List.getElem?_eq_some_iff.mp e).1
  | .cst _, _, _ => trivial
  | .pair _ _, _, ⟨_, _, _, _, _, e1, e2, _⟩ => ⟨(List.getElem?_eq_some_iff.mp e1).1, (List.getElem?_eq_some_iff.mp e2).1⟩
  | .rng _ _, _, _ => trivial
theorem Closed.le {n m : Nat} (hnm : n ≤ m) : ∀ {v : AV}, Closed n v → Closed m v
  | .dat _, _ => trivial
  | .ref _, h => Nat.lt_of_lt_of_le h hnm
  | .cst _, _ => trivial
  | .pair _ _, h => ⟨Nat.lt_of_lt_of_le h.1 hnm, Nat.lt_of_lt_of_le h.2 hnm⟩
  | .rng _ _, _ => trivial
theorem RepV.take {ρ : List Addr} {h : Heap} {n : Nat} : ∀ {v : AV} {v' : Value}, Closed n v → RepV ρ h v v' → RepV (ρ.take n) h v v'
  | .dat _, _, _, r => r
  | .ref _, _, c, ⟨a, e, r⟩ => ⟨a, take_get c e, r⟩
  | .cst _, _, _, r => r
  | .pair _ _, _, c, ⟨t, a, b, n', e, e1, e2, e3⟩ => ⟨t, a, b, n', e, take_get c.1 e1, take_get c.2 e2, e3⟩
  | .rng _ _, _, _, r => r
theorem RepO.take {ρ : List Addr} {h : Heap} {n : Nat} {a : Addr} : ∀ {o : AO}, ClosedO n o → RepO ρ h o a → RepO (ρ.take n) h o a
  | .list _, _, r => r
  | .inst _, c, ⟨b, e, r⟩ => ⟨b, take_get c e, r⟩
  | .idict none, _, r => r
  | .idict (some _), c, ⟨l, hsh, t, n, e, r⟩ => ⟨l, hsh, t, n, take_get c e, r⟩

section
variable {prog : Program} {w : World} {s₀ : Shared} {k : Nat} {env : Env} {loc : Loc} {mem : Mem} {Q : AV → Mem → Prop}
  {A : Around} {s : Shared} {ρ ρ' : List Addr} {h h' : Heap} {K : Frag}

theorem Rep.closedM (R : Rep s₀ env ρ loc mem s) : ClosedM mem := by
  intro i o e
  obtain ⟨a, _, r⟩ := R.objs i o e
  rw [← R.len]
  cases o with
  | list ds => trivial
  | inst d => obtain ⟨b, eb, _⟩ := r; exact (List.getElem?_eq_some_iff.mp eb).1
  | idict att =>
    cases att with
    | none => trivial
    | some j => obtain ⟨_, _, _, _, el, _⟩ := r; exact (List.getElem?_eq_some_iff.mp el).1

noncomputable def ClosedL (n : Nat) (env : Env) (loc : Loc) : Prop := ∀ x v, loc.lookup x = some v → (env.kindOf x = some .local ∨ env.kindOf x = some .cell ∨ env.kindOf x = some .free) → Closed n v
theorem Rep.closedL (R : Rep s₀ env ρ loc mem s) : ClosedL mem.length env loc := by
  intro x v hx hk
  rw [← R.len]
  rcases hk with hk | hk | hk
  · obtain ⟨m, _, hm⟩ := R.fr.ns
    obtain ⟨v', _, r⟩ := hm x v hx hk
    exact r.closed
  · obtain ⟨c, v', _, _, r⟩ := R.fr.cel x v hx (.inl hk); exact r.closed
  · obtain ⟨c, v', _, _, r⟩ := R.fr.cel x v hx (.inr hk); exact r.closed

theorem Rep.take {m j : Mem} (R : Rep s₀ env ρ loc (m ++ j) s) (hm : ClosedM m) (hl : ClosedL m.length env loc) : Rep s₀ env (ρ.take m.length) loc m s where
  keep0 := R.keep0
  gens := R.gens
  os := R.os
  nodup := R.nodup.sublist (List.take_sublist _ _)
  high := fun a ha => R.high a (List.mem_of_mem_take ha)
  len := by have := R.len; simp at this; simp; omega
  objs := fun i o e => by
    have hi := (List.getElem?_eq_some_iff.mp e).1
    obtain ⟨a, ea, r⟩ := R.objs i o (by rw [List.getElem?_append_left hi]; exact e)
    exact ⟨a, take_get hi ea, r.take (hm i o e)⟩
  fr := by
    have f := R.fr
    refine ⟨f.kind, f.glob, f.blt, ?_, ?_, f.cells, f.apart, fun hm => f.lfree (List.mem_of_mem_take hm), f.lhigh⟩
    · obtain ⟨mm, hn, q⟩ := f.ns
      refine ⟨mm, hn, fun x v hx hk => ?_⟩
      obtain ⟨v', e1, r⟩ := q x v hx hk
      exact ⟨v', e1, r.take (hl x v hx (.inl hk))⟩
    · intro x v hx hk
      obtain ⟨c, v', e1, e2, r⟩ := f.cel x v hx hk
      exact ⟨c, v', e1, e2, r.take (hl x v hx (.inr hk))⟩

theorem Ext.take {F : List Addr} {s' : Shared} {n : Nat} (x : Ext F ρ s ρ' s') (hn : ρ.length ≤ n) : Ext F ρ s (ρ'.take n) s' where
  pre := by
    obtain ⟨t, rfl⟩ := x.pre
    rw [List.take_append]
    rw [List.take_of_length_le hn]
    exact List.prefix_append _ _
  new := fun a ha => x.new a (List.mem_of_mem_take ha)
  alive := x.alive
  keep := x.keep
  tup := x.tup

noncomputable def Dropped (mem : Mem) (Q : AV → Mem → Prop) : AV → Mem → Prop :=
  fun v m => ∃ m' j, m = m' ++ j ∧ mem.length ≤ m'.length ∧ Closed m'.length v ∧ (ClosedM mem → ClosedM m') ∧ Q v m'

theorem PostV.drop {v' : Value} {s' : Shared} (R : Rep s₀ env ρ loc mem s) (h : PostV s₀ env ρ loc s (Dropped mem Q) v' s') : PostV s₀ env ρ loc s Q v' s' := by
  obtain ⟨v, m, ρ1, ⟨m', j, rfl, hl, hc, hm, q⟩, rv, R1, x1⟩ := h
  refine ⟨v, m', ρ1.take m'.length, q, rv.take hc, R1.take (hm R.closedM) ?_, x1.take (by rw [R.len]; exact hl)⟩
  intro x u hx hk
  exact (R.closedL x u hx hk).le hl
theorem WV.drop {t : Sem Value} (h : WV prog w s₀ k env loc t mem (Dropped mem Q)) : WV prog w s₀ k env loc t mem Q :=
  fun A s ρ hA R => wpAny_mono (h A s ρ hA R) (fun _ _ p => p.drop R) fun _ _ x => x
theorem WE.drop {e : Expr} (h : WE prog w s₀ k env loc e mem (Dropped mem Q)) : WE prog w s₀ k env loc e mem Q := WV.drop h
theorem CallW.drop {f : Value} {avs : List AV} {kw : List (Str × AV)} (h : CallW prog w s₀ k f avs kw mem (Dropped mem Q)) : CallW prog w s₀ k f avs kw mem Q :=
  fun env loc A s ρ vs kvs hA R r r' => wpAny_mono (h env loc A s ρ vs kvs hA R r r') (fun _ _ p => p.drop R) fun _ _ x => x

theorem bindL_lookup (kind : Str → Option NameKind) : ∀ (ps : List Str) (vs : List Value) (m : Str → Option Value) (x : Str) (v : Value), ps.Nodup → kind x = some .local → (ps.zip vs).lookup x = some v → bindL kind (ps.zip vs) m x = some v
  | [], _, _, _, _, _, _, h => by simp at h
  | _ :: _, [], _, _, _, _, _, h => by simp at h
  | p :: ps, u :: vs, m, x, v, hn, hk, h => by
    simp only [List.zip_cons_cons] at h ⊢
    unfold bindL
    obtain ⟨hp, hn'⟩ := List.nodup_cons.mp hn
    rw [List.lookup_cons] at h
    by_cases hx : x = p
    · subst hx
      simp only [beq_self_eq_true] at h
      cases h
      rw [if_pos hk]
      have key : ∀ (qs : List Str) (ws : List Value) (m : Str → Option Value), x ∉ qs → bindL kind (qs.zip ws) m x = m x := by
        intro qs
        induction qs with
        | nil => intro ws m _; rfl
        | cons q qs ih =>
          intro ws m hq
          cases ws with
          | nil => rfl
          | cons y ws =>
            simp only [List.zip_cons_cons]
            unfold bindL
            rw [ih ws _ (fun h => hq (.tail _ h))]
            have : x ≠ q := fun e => hq (e ▸ .head _)
            split <;> simp [this]
      rw [key ps vs _ hp]; simp
    · have : (x == p) = false := by simpa using hx
      rw [this] at h
      exact bindL_lookup kind ps vs _ x v hn' hk h
theorem bindC_lookup (kind : Str → Option NameKind) : ∀ (ps : List Str) (vs : List Value) (m : Str → Option Value) (x : Str) (v : Value), ps.Nodup → kind x = some .cell → (ps.zip vs).lookup x = some v → bindC kind (ps.zip vs) m x = some v
  | [], _, _, _, _, _, _, h => by simp at h
  | _ :: _, [], _, _, _, _, _, h => by simp at h
  | p :: ps, u :: vs, m, x, v, hn, hk, h => by
    simp only [List.zip_cons_cons] at h ⊢
    unfold bindC
    obtain ⟨hp, hn'⟩ := List.nodup_cons.mp hn
    rw [List.lookup_cons] at h
    by_cases hx : x = p
    · subst hx
      simp only [beq_self_eq_true] at h
      cases h
      rw [if_neg (by rw [hk]; decide)]
      have key : ∀ (qs : List Str) (ws : List Value) (m : Str → Option Value), x ∉ qs → bindC kind (qs.zip ws) m x = m x := by
        intro qs
        induction qs with
        | nil => intro ws m _; rfl
        | cons q qs ih =>
          intro ws m hq
          cases ws with
          | nil => rfl
          | cons y ws =>
            simp only [List.zip_cons_cons]
            unfold bindC
            rw [ih ws _ (fun h => hq (.tail _ h))]
            have : x ≠ q := fun e => hq (e ▸ .head _)
            split <;> simp [this]
      rw [key ps vs _ hp]; simp
    · have : (x == p) = false := by simpa using hx
      rw [this] at h
      exact bindC_lookup kind ps vs _ x v hn' hk h

theorem RepVs.lookup {vs : List AV} {vs' : List Value} (r : RepVs ρ h vs vs') : ∀ (ps : List Str) (x : Str) (v : AV), (ps.zip vs).lookup x = some v → ∃ v', (ps.zip vs').lookup x = some v' ∧ RepV ρ h v v' := by
  induction r with
  | nil => intro ps x v e; simp at e
  | cons a _ ih =>
    intro ps x v e
    cases ps with
    | nil => simp at e
    | cons p ps =>
      simp only [List.zip_cons_cons, List.lookup_cons] at e ⊢
      cases hx : x == p with
      | true => rw [hx] at e; cases e; exact ⟨_, rfl, a⟩
      | false => rw [hx] at e; exact ih ps x v e

noncomputable def cellNames : List (Str × NameKind) → List Str → List Str
  | [], acc => acc
  | (n, kd) :: r, acc => cellNames r (if kd == .cell then n :: acc else acc)
theorem cellsFrom_names : ∀ (names : List (Str × NameKind)) (n : Nat) (acc : List (Str × Addr)), (cellsFrom n names acc).map (·.1) = cellNames names (acc.map (·.1))
  | [], _, _ => rfl
  | (x, kd) :: r, n, acc => by
    unfold cellsFrom cellNames
    split
    · rw [cellsFrom_names r]; rfl
    · rw [cellsFrom_names r]
theorem lookup_of_mem {α : Type} : ∀ {l : List (Str × α)} {x : Str} {c : α}, (l.map (·.1)).Nodup → (x, c) ∈ l → l.lookup x = some c
  | (y, d) :: r, x, c, hn, hm => by
    obtain ⟨h1, h2⟩ := List.nodup_cons.mp hn
    rw [List.lookup_cons]
    rcases List.mem_cons.mp hm with e | hm
    · cases e; simp
    · rename_i hm'
      have : (x == y) = false := by
        have : x ≠ y := by rintro rfl; exact h1 (List.mem_map.mpr ⟨(x, c), by assumption, rfl⟩)
        simpa using this
      rw [this]; exact lookup_of_mem h2 (by assumption)
theorem cells_isSome {names : List (Str × NameKind)} {x : Str} (hx : x ∈ cellNames names []) (n : Nat) : ((cellsFrom n names []).lookup x).isSome = true := by
  have h := cellsFrom_names names n []
  rw [List.map_nil] at h
  rw [← h] at hx
  obtain ⟨⟨y, c⟩, hm, rfl⟩ := List.mem_map.mp hx
  cases e : (cellsFrom n names []).lookup y with
  | some _ => rfl
  | none =>
    exfalso
    rw [List.lookup_eq_none_iff] at e
    have := e _ hm
    simp at this

structure FnAt (K : Frag) (a : Addr) (fd : FuncData) (body : List Stmt) : Prop where
  at_ : ∃ o, K.lookup a = some o ∧ o.data = .func fd
  body : fd.body = .stmts body
  code : codeIn K fd.code fd.qualname = true
  glob : fd.globals = 3
  blt : fd.builtins = 0
  clo : fd.closure = []
  kind : fd.scope.kind = .function
  co : fd.scope.isCoroutine = false
  gen : fd.scope.isGenerator = false
  cnd : (cellNames fd.scope.names []).Nodup
  free : fd.scope.names.all (fun x => x.2 != .free) = true

noncomputable def CallC (prog : Program) (w : World) (s₀ : Shared) (k : Nat) (f : Value) (avs : List AV) (kw : List (Str × AV)) (mem : Mem) (Q : AV → Mem → Prop) : Prop :=
  ∀ (env : Env) (loc : Loc) (A : Around) (s : Shared) (ρ : List Addr) (vs : List Value) (kvs : List Value), Room k A → Rep s₀ env ρ loc mem s → RepVs ρ s.heap avs vs → RepVs ρ s.heap (kw.map (·.2)) kvs →
    codeAny (model prog w) A (.call f ⟨vs, (kw.map (·.1)).zip kvs⟩) (fun r s' => match r with | .ok (.ret v) => PostV s₀ env ρ loc s Q v s' | .ok _ => False | .error e => NoE e s') s
theorem CallC.toW {f : Value} {avs : List AV} {kw : List (Str × AV)} (h : CallC prog w s₀ k f avs kw mem Q) : CallW prog w s₀ k f avs kw mem Q :=
  fun env loc A s ρ vs kvs hA R r r' => wpAny_call (h env loc A s ρ vs kvs hA R r r')

theorem callC_fn (G : Gr w s₀ K) {a : Addr} {fd : FuncData} {body : List Stmt} (H : FnAt K a fd body) {avs exA : List AV} {kw : List (Str × AV)} {ps : List Str} {ex : List Value}
    (hex : ∀ ρ h, RepVs ρ h exA ex)
    (hb : ∀ vs kvs : List Value, vs.length = avs.length → kvs.length = kw.length → Looks (model prog w) s₀.heap (bindArgs fd ⟨vs, (kw.map (·.1)).zip kvs⟩) (ps.zip (vs ++ kvs ++ ex)))
    (hps : ps.Nodup)
    (hkind : ∀ x ∈ ps, fd.scope.names.lookup x = some .local ∨ (fd.scope.names.lookup x = some .cell ∧ x ∈ cellNames fd.scope.names []))
    (h : ∀ (L : Addr), WXs prog w s₀ k (callEnvC fd L a) (ps.zip (avs ++ kw.map (·.2) ++ exA)) body mem (FnP Q)) :
    CallC prog w s₀ (k + 1) (.ref a) avs kw mem Q := by
  intro env loc A s ρ vs kvs hA R rvs rkvs
  obtain ⟨o, hlk, hdat⟩ := H.at_
  have X : K.In s.heap := G.k.keeps R.keep0
  have hroom : A.depth < recursionLimit := by have := hA.dep; omega
  refine codeAny_call_function hroom (X _ _ hlk) hdat H.co H.gen H.body (codeRec_of X H.code) ?_
  refine hb vs kvs rvs.length (by simpa using rkvs.length) A.in1 _ _ s R.keep0 ?_
  rw [H.clo]
  have rall : RepVs ρ s.heap (avs ++ kw.map (·.2) ++ exA) (vs ++ kvs ++ ex) := by
    have app : ∀ {a b : List AV} {a' b' : List Value}, RepVs ρ s.heap a a' → RepVs ρ s.heap b b' → RepVs ρ s.heap (a ++ b) (a' ++ b') := by
      intro a b a' b' r1 r2
      induction r1 with
      | nil => exact r2
      | cons x _ ih => exact .cons x ih
    exact app (app rvs rkvs) (hex _ _)
  refine wpAny_newFunctionEnv_cells H.kind (fun x hx => ?_) (fun env' he s' C => ?_)
  · have hm : x.1 ∈ ps := (List.of_mem_zip (a := x.1) (b := x.2) hx).1
    rcases hkind x.1 hm with h1 | ⟨h1, h2⟩
    · exact .inl h1
    · exact .inr ⟨h1, cells_isSome h2 _⟩
  · have he' : env' = callEnvC fd s.heap.objs.size a := by rw [he]; rfl
    obtain ⟨hh, tk, hs'⟩ := C.toInCall.same
    have hk := C.toInCall.keep
    have hgrow : s.heap.objs.size ≤ s'.heap.objs.size := Nat.le_of_lt (Nat.lt_of_le_of_lt C.toInCall.fresh C.toInCall.ns.lt)
    have hL : env'.locals = s.heap.objs.size := by rw [he']; rfl
    have htup : TupKeep s.heap s'.heap := fun b o e _ => hk b o e
    have rall' := rall.move (List.prefix_refl _) htup
    have hkof : env'.kindOf = fun x => fd.scope.names.lookup x := by rw [he']; rfl
    have R' : Rep s₀ env' ρ (ps.zip (avs ++ kw.map (·.2) ++ exA)) mem s' := by
      have R0 := R.keeps (h' := hh) (t := tk) (by rw [hs'] at hk; exact hk)
      rw [← hs'] at R0
      refine ⟨R0.keep0, R0.gens, R0.os, R0.nodup, R0.high, R0.len, R0.objs, ?_⟩
      refine ⟨by rw [he']; exact H.kind, by rw [he']; exact H.glob, by rw [he']; exact H.blt, ⟨_, C.toInCall.ns, fun x v hx hl => ?_⟩, fun x v hx hl => ?_, fun x c hc => ?_, C.apart, ?_, ?_⟩
      · obtain ⟨v', e1, r⟩ := rall'.lookup ps x v hx
        exact ⟨v', bindL_lookup _ ps _ _ x v' hps hl e1, r⟩
      · obtain ⟨v', e1, r⟩ := rall'.lookup ps x v hx
        rcases hl with hl | hl
        · have hm : x ∈ ps := (List.of_mem_zip (mem_of_lookup hx)).1
          have hl' : fd.scope.names.lookup x = some .cell := by rw [hkof] at hl; exact hl
          rcases hkind x hm with h1 | ⟨_, h2⟩
          · rw [h1] at hl'; cases hl'
          · obtain ⟨c, hc⟩ := Option.isSome_iff_exists.mp (cells_isSome h2 (s.heap.objs.size + 1))
            have hc' : env'.cells.lookup x = some c := by rw [he']; exact hc
            refine ⟨c, v', hc', ?_, r⟩
            have := C.cell x c hc'
            rwa [bindC_lookup _ ps _ _ x v' hps hl e1] at this
        · rw [hkof] at hl
          have := List.all_eq_true.mp H.free _ (mem_of_lookup hl)
          simp at this
      · refine ⟨?_, Nat.le_trans (size0_le R.keep0 R) (by have := C.above x c hc; rw [hL] at this; exact Nat.le_of_lt this)⟩
        have hc' : env'.cells.lookup x = some c := by
          refine lookup_of_mem ?_ hc
          rw [he']
          show ((cellsFrom (s.heap.objs.size + 1) fd.scope.names []).map (·.1)).Nodup
          rw [cellsFrom_names]
          exact H.cnd
        exact ⟨_, C.cell x c hc'⟩
      · rw [hL]; exact R.fresh
      · rw [hL]; exact size0_le R.keep0 R
    refine ⟨G.lim.keeps R'.keep0, codeAny_func ?_⟩
    have hA' : Room k (A.deeper env') := ⟨by have := hA.dep; show A.depth + 1 + k < _; omega, by have := hA.un; show A.units + 3 + 10 * k + 200 < _; omega, hA.no⟩
    rw [he'] at R' hA' ⊢
    refine wpAny_mono (h s.heap.objs.size (A.deeper _) s' ρ hA' R') ?_ fun _ _ x => x.elim
    rintro f s2 ⟨fl, l, m, ρ2, q, rf, R2, x2⟩
    have hx : Ext [] ρ s ρ2 s2 := by
      have x1 : Ext (own (callEnvC fd s.heap.objs.size a)) ρ s ρ s' := by
        rw [hs']; exact Ext.ofKeeps (by rw [hs'] at hk; exact hk)
      refine (x1.trans x2).weaken fun b hb => .inr (get_none ?_)
      rcases List.mem_cons.mp hb with rfl | hb
      · exact Nat.le_refl _
      · obtain ⟨⟨n, c⟩, hc, rfl⟩ := List.mem_map.mp hb
        have := C.above n c (by rw [he']; exact hc)
        rw [hL] at this; exact Nat.le_of_lt this
    have R3 : Rep s₀ env ρ2 loc m s2 := R.back R2 hx (fun _ h => nomatch h)
    cases fl with
    | next => obtain rfl := rf; exact ⟨.none, m, ρ2, q, repV_none, R3, hx⟩
    | ret v => obtain ⟨v', rfl, rv⟩ := rf; exact ⟨v, m, ρ2, q, rv, R3, hx⟩

theorem callW_fn (G : Gr w s₀ K) {a : Addr} {fd : FuncData} {body : List Stmt} (H : FnAt K a fd body) {avs exA : List AV} {kw : List (Str × AV)} {ps : List Str} {ex : List Value}
    (hex : ∀ ρ h, RepVs ρ h exA ex)
    (hb : ∀ vs kvs : List Value, vs.length = avs.length → kvs.length = kw.length → Looks (model prog w) s₀.heap (bindArgs fd ⟨vs, (kw.map (·.1)).zip kvs⟩) (ps.zip (vs ++ kvs ++ ex)))
    (hps : ps.Nodup)
    (hkind : ∀ x ∈ ps, fd.scope.names.lookup x = some .local ∨ (fd.scope.names.lookup x = some .cell ∧ x ∈ cellNames fd.scope.names []))
    (h : ∀ (L : Addr), WXs prog w s₀ k (callEnvC fd L a) (ps.zip (avs ++ kw.map (·.2) ++ exA)) body mem (FnP Q)) :
    CallW prog w s₀ (k + 1) (.ref a) avs kw mem Q := (callC_fn G H hex hb hps hkind h).toW
end
end Mine
-- F8
namespace Mine
section
variable {prog : Program} {w : World} {s₀ : Shared} {k : Nat} {env : Env} {loc : Loc} {mem : Mem} {Q : AV → Mem → Prop}
  {A : Around} {s : Shared} {ρ ρ' : List Addr} {h h' : Heap} {K : Frag}

theorem readsAll_get {ds : List PyData} : ∀ {vs : List Value} {as : List Addr} {i : Nat} {d : PyData}, flats ds = true → ReadsAll h vs ds as → ds[i]? = some d → ∃ v bs, vs[i]? = some v ∧ flat d = true ∧ Reads h v d bs := by
  induction ds with
  | nil => intro vs as i d _ _ e; simp at e
  | cons x ds ih =>
    intro vs as i d f r e
    have f' : flat x = true ∧ flats ds = true := by simpa [flats] using f
    cases r with
    | cons a b =>
      cases i with
      | zero => simp at e; subst e; exact ⟨_, _, rfl, f'.1, a⟩
      | succ i => simp only [List.getElem?_cons_succ] at e ⊢; exact ih f'.2 b e

inductive SubOk (mem : Mem) : AV → AV → AV → Prop where
  | strI (x : Str) (i : Int) : fitsSsize i = true → (Txt.charAt x i).isSome = true → SubOk mem (.str x) (.int i) (.str (Txt.item x i))
  | listI (j : Nat) (ds : List PyData) (i : Int) (d : PyData) : mem[j]? = some (.list ds) → 0 ≤ i → i < 2 ^ 63 → ds[i.toNat]? = some d → SubOk mem (.ref j) (.int i) (.dat d)
  | listN (j : Nat) (ds : List PyData) (i : Int) (d : PyData) : mem[j]? = some (.list ds) → i < 0 → -(ds.length : Int) ≤ i → -(2 ^ 63) ≤ i → ds[(i + ds.length).toNat]? = some d → SubOk mem (.ref j) (.int i) (.dat d)
  | tupI (ds : List PyData) (i : Int) (n : Nat) (d : PyData) : -(2 ^ 63) ≤ i → i < 2 ^ 63 → seqIndex? i ds.length = some n → ds[n]? = some d → SubOk mem (.tup ds) (.int i) (.dat d)

theorem sub_ok {o i v : AV} {o' i' : Value} {value slice : Expr} (ok : SubOk mem o i v) (ro : RepV ρ s.heap o o') (ri : RepV ρ s.heap i i') (R : Rep s₀ env ρ loc mem s) (q : Q v mem)
    (hs : ∀ o i, subscripted slice false o i = operate [o, i] (getItem o i)) :
    wpAny (model prog w) A (subscriptTail value slice o' i') (PostV s₀ env ρ loc s Q) NoE s := by
  cases ok with
  | strI x i hf hc =>
    obtain ⟨t, rfl⟩ := ro.str; obtain ⟨u, rfl⟩ := ri.int
    exact tail_any (typeIs_str _ _ _) F.slot_str_getitem.lookup (SB.getItem hf hc (PostV.of q repV_str R)) (hs _ _)
  | listI j ds i d hj h0 h1 hd =>
    obtain ⟨a, vs, n, as, rfl, _, f, e, ra⟩ := R.list hj ro
    obtain ⟨u, rfl⟩ := ri.int
    obtain ⟨v, bs, hv, fd, rv⟩ := readsAll_get f ra hd
    have hl : s.heap.IsList a vs := ⟨_, e, rfl, n, rfl⟩
    exact tail_any hl.typeIs slot_list_getitem.lookup (wpAny_getItem_list hl h0 h1 (by simpa using hv) (PostV.of' q ⟨fd, bs, rv⟩ R)) (hs _ _)
  | listN j ds i d hj h0 h1 h2 hd =>
    obtain ⟨a, vs, n, as, rfl, _, f, e, ra⟩ := R.list hj ro
    obtain ⟨u, rfl⟩ := ri.int
    obtain ⟨v, bs, hv, fd, rv⟩ := readsAll_get f ra hd
    have hl : s.heap.IsList a vs := ⟨_, e, rfl, n, rfl⟩
    have hsz : vs.size = ds.length := by have := SeqAt.ReadsAll.length _ _ _ ra; simpa using this
    exact tail_any hl.typeIs slot_list_getitem.lookup (wpAny_getItem_list_neg hl h0 (by rw [hsz]; exact h1) h2 (by rw [hsz]; simpa using hv) (PostV.of' q ⟨fd, bs, rv⟩ R)) (hs _ _)
  | tupI ds i n d h1 h2 hn hd =>
    obtain ⟨f, as, r⟩ := ro
    obtain ⟨u, rfl⟩ := ri.int
    cases r with
    | tuple e1 e2 e3 e4 =>
      obtain ⟨v, bs, hv, fd, rv⟩ := readsAll_get (by simpa [flat] using f) e4 hd
      have ht : IsTup s.heap _ _ := ⟨_, e1, e2, _, e3⟩
      have hsz := SeqAt.ReadsAll.length _ _ _ e4
      rw [Array.length_toList] at hsz
      exact tail_any ht.typeIs slot_tuple_getitem.lookup (getItem_tuple ht h1 h2 (by rw [hsz]; exact hn) (by simpa using hv) (PostV.of' q ⟨fd, bs, rv⟩ R)) (hs _ _)

theorem we_sub {value slice : Expr} {pos : Pos} (h : WE prog w s₀ k env loc value mem fun o m1 => WE prog w s₀ k env loc slice m1 fun i m2 => ∃ v, SubOk m2 o i v ∧ Q v m2)
    (hs : ∀ o i, subscripted slice false o i = operate [o, i] (getItem o i)) : WE prog w s₀ k env loc (.Subscript value slice pos) mem Q := by
  intro A s ρ hA R
  refine Subscript_ (wpAny_mono (h A s ρ hA R) ?_ fun _ _ x => x)
  rintro a' s1 ⟨a, m1, ρ1, q, ra, R1, x1⟩
  refine wpAny_mono (q A s1 ρ1 hA R1) ?_ fun _ _ x => x
  rintro b' s2 ⟨b, m2, ρ2, ⟨v, ok, q⟩, rb, R2, x2⟩
  exact wpAny_mono (sub_ok ok (ra.move x2.pre x2.tup) rb R2 q hs) (fun _ _ p => (p.trans x2).trans x1) fun _ _ x => x

noncomputable def WO (prog : Program) (w : World) (s₀ : Shared) (k : Nat) (env : Env) (loc : Loc) (e : Option Expr) (mem : Mem) (Q : Option Int → Mem → Prop) : Prop :=
  match e with
  | none => Q none mem
  | some e => WE prog w s₀ k env loc e mem fun v m => ∃ i, v = .int i ∧ Q (some i) m
theorem WO.go {e : Option Expr} {Q : Option Int → Mem → Prop} (h : WO prog w s₀ k env loc e mem Q) (hA : Room k A) (R : Rep s₀ env ρ loc mem s) :
    wpAny (model prog w) A (evalPart e env) (fun v' s' => ∃ o m ρ' , Q (o.map (·.1)) m ∧ v' = partValue o ∧ Rep s₀ env ρ' loc m s' ∧ Ext [] ρ s ρ' s') NoE s := by
  cases e with
  | none => rw [evalPart_none]; exact wpAny_pure ⟨none, mem, ρ, h, rfl, R, Ext.refl _ _ _⟩
  | some e =>
    rw [evalPart_some]
    refine wpAny_mono (h A s ρ hA R) ?_ fun _ _ x => x
    rintro v' s' ⟨v, m, ρ', ⟨i, rfl, q⟩, rv, R', x⟩
    obtain ⟨t, rfl⟩ := rv.int
    exact ⟨some (i, t), m, ρ', q, rfl, R', x⟩

theorem we_sliceS {value : Expr} {lo hi : Option Expr} {p pos : Pos} (h : WE prog w s₀ k env loc value mem fun o m1 => ∃ x, o = .str x ∧ x.length ≤ sizeLine ∧
      WO prog w s₀ k env loc lo m1 fun l m2 => WO prog w s₀ k env loc hi m2 fun u m3 => Q (.str (Txt.slice x l u)) m3) :
    WE prog w s₀ k env loc (.Subscript value (.Slice lo hi none p) pos) mem Q := by
  intro A s ρ hA R
  refine Subscript_ (wpAny_mono (h A s ρ hA R) ?_ fun _ _ x => x)
  rintro a' s1 ⟨a, m1, ρ1, ⟨x, rfl, hx, q⟩, ra, R1, x1⟩
  obtain ⟨t, rfl⟩ := ra.str
  refine wpAny_Slice (wpAny_mono (WO.go q hA R1) ?_ fun _ _ x => x)
  rintro l' s2 ⟨l, m2, ρ2, q2, rfl, R2, x2⟩
  refine wpAny_mono (WO.go q2 hA R2) ?_ fun _ _ x => x
  rintro u' s3 ⟨u, m3, ρ3, q3, rfl, R3, x3⟩
  rw [evalPart_none]
  refine wpAny_pure (tail_any (typeIs_str _ _ _) F.slot_str_getitem.lookup ?_ rfl)
  refine wpAny_getItem_str_slice (l := l) (u := u) (st := none) ⟨_, Heap.get?_push_size _ rfl, rfl, rfl⟩ rfl ?_
  have key : ∀ t' tk, PostV s₀ env ρ loc s Q (.str (Txt.slice x (l.map (·.1)) (u.map (·.1))) t') { s3 with heap := s3.heap.push { cls := .type "slice", data := .fields #[partValue l, partValue u, .none] }, toks := tk } := fun t' tk =>
    ⟨_, m3, ρ3, q3, repV_str, R3.keeps fun b o e => Heap.get?_push_of_some _ e, ((x1.trans x2).trans x3).trans (Ext.ofKeeps (fun b o e => Heap.get?_push_of_some _ e))⟩
  exact post_val_or_str ⟨Nat.le_trans (Txt.slice_le x _ _) hx, fun t' tk => key t' tk⟩

theorem repVs1 {a : AV} {vs : List Value} (r : RepVs ρ h [a] vs) : ∃ v, vs = [v] ∧ RepV ρ h a v := by
  cases r with | cons x r => cases r; exact ⟨_, rfl, x⟩
theorem repVs2 {a b : AV} {vs : List Value} (r : RepVs ρ h [a, b] vs) : ∃ v u, vs = [v, u] ∧ RepV ρ h a v ∧ RepV ρ h b u := by
  cases r with | cons x r => cases r with | cons y r => cases r; exact ⟨_, _, rfl, x, y⟩
theorem repVs4 {a b c d : AV} {vs : List Value} (r : RepVs ρ h [a, b, c, d] vs) : ∃ v u z y, vs = [v, u, z, y] ∧ RepV ρ h a v ∧ RepV ρ h b u ∧ RepV ρ h c z ∧ RepV ρ h d y := by
  cases r with | cons x r => cases r with | cons y r => cases r with | cons z r => cases r with | cons t r => cases r; exact ⟨_, _, _, _, rfl, x, y, z, t⟩

theorem callW_of {f : Value} {avs : List AV} (h : ∀ (env : Env) (loc : Loc) (A : Around) (s : Shared) (ρ : List Addr) (vs : List Value), Room k A → Rep s₀ env ρ loc mem s → RepVs ρ s.heap avs vs →
    wpAny (model prog w) A (call f vs []) (PostV s₀ env ρ loc s Q) NoE s) : CallW prog w s₀ k f avs [] mem Q := by
  intro env loc A s ρ vs kvs hA R rvs rk
  cases rk
  exact h env loc A s ρ vs hA R rvs

theorem cw_lenS {x : Str} (hx : x.length ≤ sizeLine) (q : Q (.int x.length) mem) : CallW prog w s₀ k (.builtin "len") [.str x] [] mem Q :=
  callW_of fun env loc A s ρ vs hA R r => by
    obtain ⟨v, rfl, rv⟩ := repVs1 r
    obtain ⟨t, rfl⟩ := rv.str
    exact len_str (by have := sizeLine_eq; omega) (PostV.of q repV_int R)
theorem cw_lenL {i : Nat} {ds : List PyData} (hi : mem[i]? = some (.list ds)) (hl : ds.length ≤ sizeLine) (q : Q (.int ds.length) mem) : CallW prog w s₀ k (.builtin "len") [.ref i] [] mem Q :=
  callW_of fun env loc A s ρ vs hA R r => by
    obtain ⟨v, rfl, rv⟩ := repVs1 r
    obtain ⟨a, vs, n, as, rfl, _, f, e, ra⟩ := R.list hi rv
    have hsz : vs.size = ds.length := by have := SeqAt.ReadsAll.length _ _ _ ra; simpa using this
    refine len_list (items := vs) ⟨_, e, rfl, n, rfl⟩ (by rw [hsz]; have := sizeLine_eq; omega) ?_
    rw [hsz]
    exact PostV.of q repV_int R

theorem cw_startswith {x y : Str} (q : Q (.bool (Txt.startswith x y)) mem) : CallW prog w s₀ k (.builtin "str.startswith") [.str x, .str y] [] mem Q :=
  callW_of fun env loc A s ρ vs hA R r => by
    obtain ⟨v, u, rfl, rv, ru⟩ := repVs2 r
    obtain ⟨t, rfl⟩ := rv.str; obtain ⟨t', rfl⟩ := ru.str
    exact SC.startswith (PostV.of' q repV_bool R)
theorem cw_endswith {x y : Str} (q : Q (.bool (Txt.endswith x y)) mem) : CallW prog w s₀ k (.builtin "str.endswith") [.str x, .str y] [] mem Q :=
  callW_of fun env loc A s ρ vs hA R r => by
    obtain ⟨v, u, rfl, rv, ru⟩ := repVs2 r
    obtain ⟨t, rfl⟩ := rv.str; obtain ⟨t', rfl⟩ := ru.str
    exact SC.endswith (PostV.of' q repV_bool R)

noncomputable def find4 (x y : Str) (i j : Int) : Int := match Builtin.Str.occurrences x y (fromIndex x.length i) (min (fromIndex x.length j) x.length) 1 with | n :: _ => (n : Int) | [] => -1
theorem gives_find4 (x y : Str) (i j : Int) (t u v z : Tok) : Gives (Builtin.«str.find» ⟨[.str x t, .str y u, .int i v, .int j z], []⟩) (.int (find4 x y i j)) := by
  show Gives (match Builtin.Str.occurrences x y (fromIndex x.length i) (min (fromIndex x.length j) x.length) 1 with | k :: _ => retInt k | [] => (do rule "str.find.not-found"; retInt (-1))) _
  unfold find4
  cases Builtin.Str.occurrences x y (fromIndex x.length i) (min (fromIndex x.length j) x.length) 1 with
  | nil => exact .rule (.of_eq rfl)
  | cons k _ => exact .of_eq rfl

theorem cw_find4 {x y : Str} {i j : Int} (q : Q (.int (find4 x y i j)) mem) : CallW prog w s₀ k (.builtin "str.find") [.str x, .str y, .int i, .int j] [] mem Q :=
  callW_of fun env loc A s ρ vs hA R r => by
    obtain ⟨v, u, z, y, rfl, rv, ru, rz, ry⟩ := repVs4 r
    obtain ⟨t, rfl⟩ := rv.str; obtain ⟨t', rfl⟩ := ru.str; obtain ⟨t2, rfl⟩ := rz.int; obtain ⟨t3, rfl⟩ := ry.int
    exact call_gives F.slot_str_find (typeIs_str _ _ _) F.entry_str_find (F.args_str_find_4 _ _ _ _) (gives_find4 _ _ _ _ _ _ _ _) (PostV.of q repV_int R)

theorem readsAll_strs : ∀ (l : List (Str × Tok)), ReadsAll h (strValues l) ((l.map (·.1)).map .str) []
  | [] => .nil
  | (x, t) :: l => .cons (.str x t) (readsAll_strs l)
theorem flats_strs : ∀ l : List Str, flats (l.map .str) = true
  | [] => rfl
  | x :: l => by rw [List.map_cons, flats, flats_strs l]; rfl
theorem Rep.newStrs {l : List (Str × Tok)} {t : Nat} (R : Rep s₀ env ρ loc mem s) (q : Q (.ref mem.length) (mem ++ [.list ((l.map (·.1)).map .str)])) :
    PostV s₀ env ρ loc s Q (.ref s.heap.objs.size) { s with heap := s.heap.push { cls := .type "list", data := .seq (strValues l).toArray }, toks := t } :=
  ⟨.ref mem.length, _, ρ ++ [s.heap.objs.size], q, ⟨_, by rw [← R.len]; simp, rfl⟩, R.push rfl (repO_newList (flats_strs _) (readsAll_strs l)), Ext.push⟩

theorem cw_split {x y : Str} (hy : (y.length == 0) = false) (hx : x.length ≤ sizeLine) (hn : (Builtin.Str.partsBetween x (Builtin.Str.occurrences x y 0 x.length (x.length + 1)) y.length).length ≤ sizeLine)
    (q : Q (.ref mem.length) (mem ++ [.list ((Txt.split x y).map .str)])) : CallW prog w s₀ k (.builtin "str.split") [.str x, .str y] [] mem Q :=
  callW_of fun env loc A s ρ vs hA R r => by
    obtain ⟨v, u, rfl, rv, ru⟩ := repVs2 r
    obtain ⟨t, rfl⟩ := rv.str; obtain ⟨u, rfl⟩ := ru.str
    have fin : ∀ (l : List (Str × Tok)) (tk : Nat), l.map (·.1) = Txt.split x y → PostV s₀ env ρ loc s Q (.ref s.heap.objs.size) { s with heap := s.heap.push { cls := .type "list", data := .seq (strValues l).toArray }, toks := tk } := by
      intro l tk e
      refine R.newStrs ?_
      rw [e]; exact q
    cases h1 : (decide (x.length < y.length) || decide (Builtin.Str.strKind x < Builtin.Str.strKind y))
    · cases hf : (Builtin.Str.occurrences x y 0 x.length (x.length + 1)).isEmpty
      · refine call_meets F.slot_str_split (typeIs_str _ _ _) F.entry_str_split (F.args_str_split_2 _ _) (meets_str_split_sep x y t u h1 hy hf hx hn) ?_
        show wants _ NoE _ { s with toks := _, heap := s.heap.push { cls := .type "list", data := .seq (strsFrom s.toks (Builtin.Str.partsBetween x (Builtin.Str.occurrences x y 0 x.length (x.length + 1)) y.length)).toArray } }
        rw [strsFrom_eq]
        exact fin (numbered s.toks _) _ ((numbered_texts _ _).trans ((if_neg (ne_true_of_eq_false h1)).trans (if_neg (ne_true_of_eq_false hf))).symm)
      · exact call_meets F.slot_str_split (typeIs_str _ _ _) F.entry_str_split (F.args_str_split_2 _ _) (meets_str_split_not_found x y t u h1 hy hf)
          (fin [(x, t)] _ ((if_neg (ne_true_of_eq_false h1)).trans (if_pos hf)).symm)
    · exact call_meets F.slot_str_split (typeIs_str _ _ _) F.entry_str_split (F.args_str_split_2 _ _) (meets_str_split_cannot_occur x y t u h1)
        (fin [(x, t)] _ (if_pos h1).symm)

structure MethT (T : String) (name : Str) (id : String) : Prop where
  pa : PlainAttrs T
  slot : Slot T name id
  ty : typeOf (.builtin id) = pure (.type "method_descriptor")

inductive TypeOk (mem : Mem) : AV → String → Prop where
  | str (x : Str) : TypeOk mem (.str x) "str"
  | list (i : Nat) (ds : List PyData) : mem[i]? = some (.list ds) → TypeOk mem (.ref i) "list"
theorem TypeOk.is {T : String} {v : AV} {v' : Value} (ok : TypeOk mem v T) (rv : RepV ρ s.heap v v') (R : Rep s₀ env ρ loc mem s) : s.TypeIs v' T ∧ ∀ a, v' = .ref a → ∃ o, s.heap.get? a = some o ∧ o.dict = none := by
  cases ok with
  | str x => obtain ⟨t, rfl⟩ := rv.str; exact ⟨typeIs_str _ _ _, fun _ e => nomatch e⟩
  | list i ds hi =>
    obtain ⟨a, vs, n, as, rfl, _, f, e, ra⟩ := R.list hi rv
    exact ⟨⟨_, e, rfl⟩, fun b hb => by cases hb; exact ⟨_, e, rfl⟩⟩

theorem we_meth (G : Gr w s₀ K) {o : Expr} {name : Str} {apos pos : Pos} {args : List Expr} {pl : Sem Bool}
    (h : WE prog w s₀ k env loc o mem fun ov m => ∃ T id, MethT T name id ∧ TypeOk m ov T ∧ WA prog w s₀ k env loc pos args m fun avs m' => CallW prog w s₀ k (.builtin id) (ov :: avs) [] m' Q)
    (he : eval (.Call (.Attribute o name apos) args [] pos) env = (do
      let ov ← eval o env
      standAt apos.atName
      let (f, first) ← holding [ov] (getMethod ov name pl)
      callWith pos f first (backTo pos (starEach args env)) (backToKw pos (keywordEach [] env))))
    (hp : (backTo pos (starEach args env)).any (·.1) = false)
    (hn : (match starEach args env with | (false, _) :: _ => true | [] => true | _ => false) = true) :
    WE prog w s₀ k env loc (.Call (.Attribute o name apos) args [] pos) mem Q := by
  intro A s ρ hA R
  rw [he]
  refine WV.go h hA R ?_
  rintro ov m ρ1 v' s1 ⟨T, id, mt, ty, ha⟩ rv R1 x1
  obtain ⟨hT, hd⟩ := ty.is rv R1
  refine wpAny_bind (wpAny_standAt (wpAny_bind (wpAny_holding (getMethod_builtin hT mt.pa mt.slot mt.ty hd ?_))))
  refine callWith_of (P := fun h => K.In h) (by rw [hp]; rfl) (fun h X => (show Called K (.builtin id) from .inl ⟨_, rfl⟩).looks h X) ?_
  have main : wpAny (model prog w) A (spliced (backTo pos (starEach args env))) (fun vs s₁ => K.In s₁.heap ∧ wpAny (model prog w) A (call (.builtin id) ([v'] ++ vs) []) (PostV s₀ env ρ loc s Q) NoE s₁) NoE s1 := by
    refine wpAny_mono (ha A s1 ρ1 hA R1) ?_ fun _ _ x => x
    rintro vs' s2 ⟨vs, m2, ρ2, q, rvs, R2, x2⟩
    exact ⟨G.k.keeps R2.keep0, wpAny_mono (q env loc A s2 ρ2 (v' :: vs') [] hA R2 (.cons (rv.move x2.pre x2.tup) rvs) .nil) (fun _ _ p => (p.trans x2).trans x1) fun _ _ x => x⟩
  cases hst : starEach args env with
  | nil => rw [hst] at main; exact evalArgs_nil_any main
  | cons y r =>
    obtain ⟨b, t⟩ := y
    rw [hst] at hn main
    cases b with
    | true => cases hn
    | false => exact Calls.evalArgs_plain main

theorem mt_split : MethT "str" "split" "str.split" := ⟨F.plainAttrs_str, F.slot_str_split, F.type_str_split⟩
theorem mt_startswith : MethT "str" "startswith" "str.startswith" := ⟨F.plainAttrs_str, F.slot_str_startswith, F.type_str_startswith⟩
theorem mt_endswith : MethT "str" "endswith" "str.endswith" := ⟨F.plainAttrs_str, F.slot_str_endswith, F.type_str_endswith⟩
theorem mt_find : MethT "str" "find" "str.find" := ⟨F.plainAttrs_str, F.slot_str_find, F.type_str_find⟩
theorem mt_join : MethT "str" "join" "str.join" := ⟨F.plainAttrs_str, F.slot_str_join, F.type_str_join⟩
theorem mt_upper : MethT "str" "upper" "str.upper" := ⟨F.plainAttrs_str, F.slot_str_upper, F.type_str_upper⟩
theorem mt_lower : MethT "str" "lower" "str.lower" := ⟨F.plainAttrs_str, F.slot_str_lower, F.type_str_lower⟩
theorem mt_append : MethT "list" "append" "list.append" := ⟨F.plainAttrs_list, F.slot_list_append, F.type_list_append⟩
theorem mt_extend : MethT "list" "extend" "list.extend" := ⟨F.plainAttrs_list, F.slot_list_extend, F.type_list_extend⟩
theorem mt_count : MethT "list" "count" "list.count" := ⟨F.plainAttrs_list, F.slot_list_count, F.type_list_count⟩
end
end Mine
-- F9
namespace Mine

inductive Src where
  | list (j : Nat)
  | str (x : Str)
  | range (a : Int) (n : Nat)

noncomputable def signs (x : Str) : List PyData := x.cps.toList.map fun c => .str ⟨#[c]⟩
noncomputable def intsD (a : Int) (n : Nat) : List PyData := (List.range n).map fun i => .int (a + (i : Nat))
noncomputable def SrcIn (mem : Mem) : Src → List PyData → Prop
  | .list j, ds => mem[j]? = some (.list ds)
  | .str x, ds => ds = signs x
  | .range a n, ds => ds = intsD a n
noncomputable def ItSt (ρ : List Addr) (h : Heap) (it : Addr) : Src → Nat → Prop
  | .list j, i => ∃ l, ρ[j]? = some l ∧ h.IsListIter it l i
  | .str x, i => ∃ t, h.IsStrIter it "str_ascii_iterator" x t i
  | .range a n, i => IsRangeIter h it (a + (i : Nat)) ((n : Int) - (i : Nat)) 1

inductive IterOk (mem : Mem) : AV → Src → List PyData → Prop where
  | list (j : Nat) (ds : List PyData) : mem[j]? = some (.list ds) → IterOk mem (.ref j) (.list j) ds
  | str (x : Str) : x.cps.all (· < 128) = true → IterOk mem (.str x) (.str x) (signs x)
  | range (a : Int) (n : Nat) : Builtin.Range.small a (a + n) 1 = true → IterOk mem (.rng a (a + n)) (.range a n) (intsD a n)

section
variable {prog : Program} {w : World} {s₀ : Shared} {k : Nat} {env : Env} {loc : Loc} {mem : Mem}
  {A : Around} {s : Shared} {ρ ρ' : List Addr} {h h' : Heap} {K : Frag}

theorem IterOk.src {a : AV} {src : Src} {ds : List PyData} (ok : IterOk mem a src ds) : SrcIn mem src ds := by
  cases ok with
  | list j ds hj => exact hj
  | str x _ => rfl
  | range a n _ => rfl
theorem ItSt.obj {it : Addr} {src : Src} {i : Nat} (st : ItSt ρ h it src i) : ∃ o, h.get? it = some o ∧ (∃ T, o.cls = .type T ∧ T ≠ "tuple" ∧ T ≠ "range" ∧ T ∈ ["list_iterator", "str_ascii_iterator", "range_iterator"]) := by
  cases src with
  | list j => obtain ⟨l, _, o, e, c, _⟩ := st; exact ⟨o, e, _, c, by decide, by decide, by decide⟩
  | str x => obtain ⟨t, o, e, c, _⟩ := st; exact ⟨o, e, _, c, by decide, by decide, by decide⟩
  | range a n => exact ⟨_, st, _, rfl, by decide, by decide, by decide⟩
theorem ItSt.move {it : Addr} {src : Src} {i : Nat} (st : ItSt ρ h it src i) (p : ρ <+: ρ') (k : ∀ o, h.get? it = some o → h'.get? it = some o) : ItSt ρ' h' it src i := by
  cases src with
  | list j => obtain ⟨l, e1, o, e, c, d⟩ := st; exact ⟨l, prefix_get p e1, o, k _ e, c, d⟩
  | str x => obtain ⟨t, o, e, c⟩ := st; exact ⟨t, o, k _ e, c⟩
  | range a n => exact k _ st

structure Loop (F : List Addr) (s₀ : Shared) (env : Env) (ρ : List Addr) (s : Shared) (it : Addr) (ρ' : List Addr) (l : Loc) (m : Mem) (s' : Shared) : Prop where
  rep : Rep s₀ env ρ' l m s'
  pre : ρ <+: ρ'
  new : ∀ a ∈ ρ', a ∈ ρ ∨ s.heap.get? a = none
  alive : ∀ b, (s.heap.get? b).isSome = true → (s'.heap.get? b).isSome = true
  keep : ∀ b o, s.heap.get? b = some o → b ∉ ρ → b ∉ F → s'.heap.get? b = some o
  tup : TupKeep s.heap s'.heap
  it0 : s.heap.get? it = none
  itρ : it ∉ ρ'
  itlo : s₀.heap.objs.size ≤ it
  itown : it ∉ own env
  itF : it ∉ F
theorem Loop.ext {F : List Addr} {it : Addr} {l : Loc} {m : Mem} {s' : Shared} (L : Loop F s₀ env ρ s it ρ' l m s') : Ext F ρ s ρ' s' := ⟨L.pre, L.new, L.alive, L.keep, L.tup⟩

theorem Loop.grow {it : Addr} {l : Loc} {m : Mem} {s' : Shared} (L : Loop [] s₀ env ρ s it ρ' l m s') {F : List Addr} (hF : it ∉ F) : Loop F s₀ env ρ s it ρ' l m s' :=
  ⟨L.rep, L.pre, L.new, L.alive, fun b o e n _ => L.keep b o e n (fun h => nomatch h), L.tup, L.it0, L.itρ, L.itlo, L.itown, hF⟩
theorem Loop.step {F : List Addr} {it : Addr} {l : Loc} {m : Mem} {s' : Shared} {h' : Heap} {t : Nat} {src : Src} {i : Nat} (L : Loop F s₀ env ρ s it ρ' l m s') (st : ItSt ρ' s'.heap it src i)
    (hk : ∀ b o, b ≠ it → s'.heap.get? b = some o → h'.get? b = some o) : Loop F s₀ env ρ s it ρ' l m { s' with heap := h', toks := t } := by
  obtain ⟨o, e, T, hc, h1, h2, _⟩ := st.obj
  have ne : ∀ b o, s.heap.get? b = some o → b ≠ it := fun b o eb hb => by rw [hb, L.it0] at eb; cases eb
  refine ⟨L.rep.aside L.itρ L.itlo hk e (not_tup_cls hc h1 h2) L.itown, L.pre, L.new, fun b hb => ?_, fun b o eb n f => hk b o (ne b o eb) (L.keep b o eb n f), fun b o eb ht => hk b o (ne b o eb) (L.tup b o eb ht), L.it0, L.itρ, L.itlo, L.itown, L.itF⟩
  obtain ⟨o1, e1⟩ := Option.isSome_iff_exists.mp hb
  obtain ⟨o2, e2⟩ := Option.isSome_iff_exists.mp (L.alive b hb)
  rw [hk b o2 (ne b o1 e1) e2]; rfl

theorem Loop.body {F : List Addr} {it : Addr} {l l2 : Loc} {m m2 : Mem} {s' s2 : Shared} {ρ2 : List Addr} (L : Loop F s₀ env ρ s it ρ' l m s') (R2 : Rep s₀ env ρ2 l2 m2 s2) (x : Ext F ρ' s' ρ2 s2) {src : Src} {i : Nat} (st : ItSt ρ' s'.heap it src i) :
    Loop F s₀ env ρ s it ρ2 l2 m2 s2 ∧ ItSt ρ2 s2.heap it src i := by
  have y := L.ext.trans x
  obtain ⟨o, e, _⟩ := st.obj
  refine ⟨⟨R2, y.pre, y.new, y.alive, y.keep, y.tup, L.it0, fun hm => ?_, L.itlo, L.itown, L.itF⟩, st.move x.pre fun o e => x.keep it o e L.itρ L.itF⟩
  rcases x.new it hm with h | h
  · exact L.itρ h
  · rw [e] at h; cases h

theorem own_alive (R : Rep s₀ env ρ loc mem s) {a : Addr} (ha : a ∈ own env) : ∃ o, s.heap.get? a = some o := by
  rcases List.mem_cons.mp ha with rfl | ha
  · obtain ⟨m, ⟨o, _, _, e, _⟩, _⟩ := R.fr.ns; exact ⟨o, e⟩
  · obtain ⟨⟨n, c⟩, hc, rfl⟩ := List.mem_map.mp ha
    obtain ⟨⟨v, o, e, _⟩, _⟩ := R.fr.cells n c hc
    exact ⟨o, e⟩

theorem iter_ok {a : AV} {a' : Value} {src : Src} {ds : List PyData} {P : Value → Shared → Prop} (ok : IterOk mem a src ds) (ra : RepV ρ s.heap a a') (R : Rep s₀ env ρ loc mem s)
    (hP : ∀ it s', Loop [] s₀ env ρ s it ρ loc mem s' → ItSt ρ s'.heap it src 0 → P (.ref it) s') : wpAny (model prog w) A (pyIter a') P NoE s := by
  have fresh : ∀ {ob : Obj}, ob.isFreed = false → Loop [] s₀ env ρ s s.heap.objs.size ρ loc mem { s with heap := s.heap.push ob } := by
    intro ob hf
    have hno : s.heap.objs.size ∉ own env := fun hm => by
      obtain ⟨o, e⟩ := own_alive R hm
      exact absurd (Heap.lt_size e) (Nat.lt_irrefl _)
    have x : Ext [] ρ s ρ { s with heap := s.heap.push ob } := Ext.ofKeeps (t := s.toks) fun b o e => Heap.get?_push_of_some _ e
    refine ⟨R.keeps (t := s.toks) fun b o e => Heap.get?_push_of_some _ e, x.pre, x.new, x.alive, x.keep, x.tup, get_none (Nat.le_refl _), R.fresh, size0_le R.keep0 R, hno, fun h => nomatch h⟩
  cases ok with
  | list j ds hj =>
    obtain ⟨l, vs, n, as, rfl, el, f, e, _⟩ := R.list hj ra
    exact wpAny_pyIter_list (items := vs) ⟨_, e, rfl, n, rfl⟩ (hP _ _ (fresh rfl) ⟨l, el, _, Heap.get?_push_size _ rfl, rfl, rfl⟩)
  | str x hx =>
    obtain ⟨t, rfl⟩ := ra.str
    exact wpAny_pyIter_ascii hx (hP _ _ (fresh rfl) ⟨t, _, Heap.get?_push_size _ rfl, rfl, rfl⟩)
  | range a n hs =>
    obtain ⟨r, t, u, x, rfl, hr⟩ := ra
    refine wpAny_pyIter_range hr hs (hP _ _ (fresh rfl) ?_)
    have e1 : Builtin.Range.rangeSize a (a + n) 1 = (n : Int) := by
      unfold Builtin.Range.rangeSize
      rw [if_pos (by decide)]
      by_cases hn : a < a + (n : Int)
      · rw [if_pos hn, Int.ediv_one]; omega
      · rw [if_neg hn]; omega
    show IsRangeIter _ _ _ _ _
    unfold IsRangeIter
    rw [e1]
    simpa using Heap.get?_push_size _ rfl

theorem intsD_get {a : Int} {n i : Nat} : (intsD a n)[i]? = if i < n then some (.int (a + (i : Nat))) else none := by
  unfold intsD
  rw [List.getElem?_map]
  by_cases hi : i < n
  · rw [List.getElem?_range hi, if_pos hi]; rfl
  · rw [if_neg hi, List.getElem?_eq_none (by simpa using hi)]; rfl

theorem next_ok {F : List Addr} {it : Addr} {l : Loc} {m : Mem} {s' : Shared} {src : Src} {i : Nat} {ds : List PyData} {d : PyData} {P : Option Value → Shared → Prop} (L : Loop F s₀ env ρ s it ρ' l m s') (st : ItSt ρ' s'.heap it src i)
    (hsrc : SrcIn m src ds) (hd : ds[i]? = some d)
    (hP : ∀ v' s2, RepV ρ' s2.heap (.dat d) v' → Loop F s₀ env ρ s it ρ' l m s2 → ItSt ρ' s2.heap it src (i + 1) → P (some v') s2) : wpAny (model prog w) A (pyNext (.ref it)) P NoE s' := by
  cases src with
  | list j =>
    obtain ⟨lst, el, hit⟩ := st
    obtain ⟨a, ea, f, vs, n, as, e, ra⟩ := L.rep.objs j _ hsrc
    rw [el] at ea; cases ea
    obtain ⟨v, bs, hv, fd, rv⟩ := readsAll_get f ra hd
    refine wpAny_pyNext_list_item hit (items := vs) ⟨_, e, rfl, n, rfl⟩ (by simpa using hv) fun h' hit' hs => ?_
    have hk : ∀ b o, b ≠ it → s'.heap.get? b = some o → h'.get? b = some o := fun b o hb eb => (hs.2 b hb).trans eb
    have L2 := L.step (t := s'.toks) (src := .list j) ⟨lst, el, hit⟩ hk
    obtain ⟨o, eo, T, hc, h1, h2, _⟩ := ItSt.obj (src := .list j) ⟨lst, el, hit⟩
    exact hP v _ ⟨fd, bs, reads_move (tupKeep_but hk eo (not_tup_cls hc h1 h2)) _ _ _ fd rv⟩ L2 ⟨lst, el, hit'⟩
  | str x =>
    obtain ⟨t, hit⟩ := st
    obtain rfl := hsrc
    unfold signs at hd
    rw [List.getElem?_map] at hd
    obtain ⟨c, hc, rfl⟩ := Option.map_eq_some_iff.mp hd
    refine wpAny_pyNext_ascii_item hit (by simpa using hc) fun h' hit' hs => ?_
    exact hP _ _ repV_str (L.step (src := .str x) ⟨t, hit⟩ fun b o hb eb => (hs.2 b hb).trans eb) ⟨t, hit'⟩
  | range a n =>
    obtain rfl := hsrc
    rw [intsD_get] at hd
    by_cases hi : i < n
    · rw [if_pos hi] at hd; cases hd
      refine wpAny_pyNext_range_item st (by omega) fun h' hit' hs => ?_
      refine hP _ _ repV_int (L.step (src := .range a n) st fun b o hb eb => (hs.2 b hb).trans eb) ?_
      have e1 : a + ((i + 1 : Nat) : Int) = a + (i : Int) + 1 := by omega
      have e2 : (n : Int) - ((i + 1 : Nat) : Int) = (n : Int) - (i : Int) - 1 := by omega
      show IsRangeIter h' it (a + ((i + 1 : Nat) : Int)) ((n : Int) - ((i + 1 : Nat) : Int)) 1
      rw [e1, e2]; exact hit'
    · rw [if_neg hi] at hd; cases hd

theorem next_end {F : List Addr} {it : Addr} {l : Loc} {m : Mem} {s' : Shared} {src : Src} {i : Nat} {ds : List PyData} {P : Option Value → Shared → Prop} (hA : A.handled = none) (L : Loop F s₀ env ρ s it ρ' l m s') (st : ItSt ρ' s'.heap it src i)
    (hsrc : SrcIn m src ds) (hd : ds[i]? = none) (hP : ∀ s2, Loop F s₀ env ρ s it ρ' l m s2 → P none s2) : wpAny (model prog w) A (pyNext (.ref it)) P NoE s' := by
  cases src with
  | list j =>
    obtain ⟨lst, el, hit⟩ := st
    obtain ⟨a, ea, f, vs, n, as, e, ra⟩ := L.rep.objs j _ hsrc
    rw [el] at ea; cases ea
    have hsz : vs.size = ds.length := by have := SeqAt.ReadsAll.length _ _ _ ra; simpa using this
    refine wpAny_pyNext_list_end hA hit (items := vs) ⟨_, e, rfl, n, rfl⟩ ?_ fun h' hs => hP _ (L.step (t := s'.toks) (src := .list j) ⟨lst, el, hit⟩ fun b o hb eb => hs b o hb eb)
    rw [List.getElem?_eq_none_iff] at hd
    exact Array.getElem?_eq_none (by omega)
  | str x =>
    obtain ⟨t, hit⟩ := st
    obtain rfl := hsrc
    unfold signs at hd
    rw [List.getElem?_map, Option.map_eq_none_iff] at hd
    exact wpAny_pyNext_ascii_end hA hit (by simpa using hd) fun h' hs => hP _ (L.step (t := s'.toks) (src := .str x) ⟨t, hit⟩ fun b o hb eb => hs b o hb eb)
  | range a n =>
    obtain rfl := hsrc
    rw [intsD_get] at hd
    by_cases hi : i < n
    · rw [if_pos hi] at hd; cases hd
    · exact wpAny_pyNext_range_end hA st (by omega) fun h' hs => hP _ (L.step (t := s'.toks) (src := .range a n) st fun b o hb eb => hs b o hb eb)
end
end Mine
-- F10
namespace Mine
section
variable {prog : Program} {w : World} {s₀ : Shared} {k : Nat} {env : Env} {loc : Loc} {mem : Mem} {Q : AFlow → Loc → Mem → Prop}
  {A : Around} {s : Shared} {ρ ρ' : List Addr} {h h' : Heap} {K : Frag}

inductive Tgt where
  | one (x : Str) (v : PyData)
  | two (x y : Str) (a b : PyData)
  | no
noncomputable def nmOf : Expr → Option Str
  | .Name x _ => some x
  | _ => none
noncomputable def two? (a b : Expr) : Option (Str × Str) := match nmOf a, nmOf b with
  | some x, some y => some (x, y)
  | _, _ => none
noncomputable def pr2 : List Expr → Option (Str × Str)
  | [a, b] => two? a b
  | _ => none
noncomputable def prOf : Expr → Option (Str × Str)
  | .Tuple es _ _ => pr2 es
  | _ => none
noncomputable def dPair : PyData → Option (PyData × PyData)
  | .tuple [d, e] => some (d, e)
  | _ => none
noncomputable def tgtOf (t : Expr) (d : PyData) : Tgt := match nmOf t with
  | some x => .one x d
  | none => match prOf t, dPair d with
    | some (x, y), some (a, b) => .two x y a b
    | _, _ => .no
theorem nmOf_eq {t : Expr} {x : Str} (h : nmOf t = some x) : ∃ p, t = .Name x p := by
  cases t <;> simp only [nmOf, reduceCtorEq, Option.some.injEq] at h
  subst h
  exact ⟨_, rfl⟩
theorem prOf_eq {t : Expr} {x y : Str} (h : prOf t = some (x, y)) : ∃ px py kk pos, t = .Tuple [.Name x px, .Name y py] kk pos := by
  cases t <;> simp only [prOf, reduceCtorEq] at h
  rename_i es kk pos
  match es, h with
  | [a, b], h =>
    have h : two? a b = some (x, y) := h
    unfold two? at h
    cases ha : nmOf a with
    | none => rw [ha] at h; cases h
    | some u =>
      cases hb : nmOf b with
      | none => rw [ha, hb] at h; cases h
      | some v =>
        rw [ha, hb] at h
        cases h
        obtain ⟨p, rfl⟩ := nmOf_eq ha
        obtain ⟨p', rfl⟩ := nmOf_eq hb
        exact ⟨p, p', kk, pos, rfl⟩
  | [], h => cases h
  | [_], h => cases h
  | _ :: _ :: _ :: _, h => cases h
theorem dPair_eq {d a b : PyData} (h : dPair d = some (a, b)) : d = .tuple [a, b] := by
  cases d with
  | tuple ds =>
    match ds, h with
    | [_, _], h => cases h; rfl
    | [], h => cases h
    | [_], h => cases h
    | _ :: _ :: _ :: _, h => cases h
  | _ => cases h
theorem tgt_one {t : Expr} {d v : PyData} {x : Str} (h : tgtOf t d = .one x v) : v = d ∧ ∃ p, t = .Name x p := by
  unfold tgtOf at h
  cases hn : nmOf t with
  | some y => rw [hn] at h; cases h; exact ⟨rfl, nmOf_eq hn⟩
  | none =>
    rw [hn] at h
    cases hp : prOf t with
    | none => rw [hp] at h; cases h
    | some xy =>
      cases hd : dPair d with
      | none => rw [hp, hd] at h; cases h
      | some ab => rw [hp, hd] at h; cases h
theorem tgt_two {t : Expr} {d a b : PyData} {x y : Str} (h : tgtOf t d = .two x y a b) : d = .tuple [a, b] ∧ ∃ px py kk pos, t = .Tuple [.Name x px, .Name y py] kk pos := by
  unfold tgtOf at h
  cases hn : nmOf t with
  | some y => rw [hn] at h; cases h
  | none =>
    rw [hn] at h
    cases hp : prOf t with
    | none => rw [hp] at h; cases h
    | some xy =>
      cases hd : dPair d with
      | none => rw [hp, hd] at h; cases h
      | some ab =>
        rw [hp, hd] at h
        cases h
        exact ⟨dPair_eq hd, prOf_eq hp⟩
noncomputable def AssP (env : Env) (t : Expr) (d : PyData) (l : Loc) (P : Loc → Prop) : Prop := match tgtOf t d with
  | .one x v => Storable env x ∧ P (setL l x (.dat v))
  | .two x y a b => Storable env x ∧ Storable env y ∧ P (setL (setL l x (.dat a)) y (.dat b))
  | .no => False
theorem AssP.elim {t : Expr} {d : PyData} {l : Loc} {P : Loc → Prop} (h : AssP env t d l P) : (∃ x p, t = .Name x p ∧ Storable env x ∧ P (setL l x (.dat d))) ∨
    ∃ x px y py kk pos a b, t = .Tuple [.Name x px, .Name y py] kk pos ∧ d = .tuple [a, b] ∧ Storable env x ∧ Storable env y ∧ P (setL (setL l x (.dat a)) y (.dat b)) := by
  unfold AssP at h
  cases ht : tgtOf t d with
  | one x v =>
    rw [ht] at h
    obtain ⟨rfl, p, rfl⟩ := tgt_one ht
    exact .inl ⟨x, p, rfl, h⟩
  | two x y a b =>
    rw [ht] at h
    obtain ⟨rfl, px, py, kk, pos, rfl⟩ := tgt_two ht
    exact .inr ⟨x, px, y, py, kk, pos, a, b, rfl, rfl, h⟩
  | no => rw [ht] at h; exact h.elim

theorem wpAny_assign_Name' {x : Str} {p : Pos} {d : PyData} {v' : Value} {P : Unit → Shared → Prop} (R : Rep s₀ env ρ loc mem s) (rv : RepV ρ s.heap (.dat d) v') (hk : Storable env x)
    (hP : ∀ s', Rep s₀ env ρ (setL loc x (.dat d)) mem s' → Ext (own env) ρ s ρ s' → P () s') : wpAny (model prog w) A (assign (.Name x p) env v') P NoE s :=
  PySem.wpAny_assign_Name (R.store rv hk hP)

theorem readsAll2 {vs : List Value} {d e : PyData} {as : List Addr} (r : ReadsAll h vs [d, e] as) : ∃ v u bs cs, vs = [v, u] ∧ Reads h v d bs ∧ Reads h u e cs := by
  cases r with
  | cons a r => cases r with
    | cons b r => cases r; exact ⟨_, _, _, _, rfl, a, b⟩
theorem ass_ok {t : Expr} {d : PyData} {v' : Value} {PL : Loc → Prop} {P : Unit → Shared → Prop} (ha : AssP env t d loc PL) (hA : A.handled = none) (R : Rep s₀ env ρ loc mem s) (rv : RepV ρ s.heap (.dat d) v')
    (hP : ∀ l s', PL l → Rep s₀ env ρ l mem s' → Ext (own env) ρ s ρ s' → P () s') : wpAny (model prog w) A (assign t env v') P NoE s := by
  rcases ha.elim with ⟨x, p, rfl, hx, q⟩ | ⟨x, px, y, py, kk, pos, d, e, rfl, rfl, hx, hy, q⟩
  · exact wpAny_assign_Name' R rv hx fun s' R' x => hP _ s' q R' x
  · skip
    obtain ⟨f, as, r⟩ := rv
    cases r with
    | tuple e1 e2 e3 e4 =>
      have hsz := SeqAt.ReadsAll.length _ _ _ e4
      rw [Array.length_toList] at hsz
      have f' : flat d = true ∧ flat e = true := by simpa [flat, flats] using f
      refine assign_Tuple_tuple hA ⟨_, e1, e2, _, e3⟩ (by rw [hsz]; rfl) rfl fun h' hb => ?_
      have hk : ∀ b o, s.heap.get? b = some o → h'.get? b = some o := fun b o eb => hb b o (Nat.ne_of_lt (Heap.lt_size eb)) eb
      have R1 : Rep s₀ env ρ loc mem { s with heap := h' } := R.keeps (t := s.toks) hk
      have x1 : Ext (own env) ρ s ρ { s with heap := h' } := Ext.ofKeeps (t := s.toks) hk
      obtain ⟨v, u, bs, cs, hv, r1, r2⟩ := readsAll2 e4
      rw [hv]
      show wpAny _ A (do holding [u] (assign (.Name x px) env v); assignInOrder [assign (.Name y py) env] [u]) P NoE _
      refine wpAny_bind (wpAny_holding (wpAny_assign_Name' R1 (d := d) ⟨f'.1, bs, reads_move (fun b o eb _ => hk b o eb) _ _ _ f'.1 r1⟩ hx fun s2 R2 x2 => ?_))
      show wpAny _ A (do holding [] (assign (.Name y py) env u); pure ()) P NoE _
      refine wpAny_bind (wpAny_holding (wpAny_assign_Name' R2 (d := e) ⟨f'.2, cs, reads_move x2.tup _ _ _ f'.2 (reads_move (fun b o eb _ => hk b o eb) _ _ _ f'.2 r2)⟩ hy fun s3 R3 x3 => ?_))
      exact wpAny_pure (hP _ s3 q R3 ((x1.trans x2).trans x3))

theorem letOwned_ok {t : Expr} {it : Addr} {v : Value} {src : Src} {i : Nat} {P : Unit → Shared → Prop} (st : ItSt ρ s.heap it src i) (hP : P () s) : wpAny (model prog w) A (letOwnedTupleGo t (.ref it) v) P NoE s := by
  obtain ⟨o, e, T, hc, _, _, hT⟩ := st.obj
  unfold letOwnedTupleGo
  have key : ∀ {m : Sem Unit}, (m = (match (Value.ref it, v) with
      | (.ref r, .ref a) => do
        let o ← load r
        match o.cls, o.data with
        | .type n, .fields vs =>
          if ["enumerate", "zip", "dict_itemiterator", "dict_reverseitemiterator", "odict_iterator", "itertools.zip_longest", "itertools.pairwise"].contains n && vs[0]? == some (rawInt a) then
            rule "for.unpacks-the-owned-tuple"
            updateField r 0 .none
        | _, _ => pure ()
      | _ => pure ())) → wpAny (model prog w) A m P NoE s := by
    rintro m rfl
    cases v with
    | ref a =>
      refine wpAny_bind (wpAny_load e ?_)
      rw [hc]
      cases o.data with
      | fields vs =>
        dsimp only
        have : (["enumerate", "zip", "dict_itemiterator", "dict_reverseitemiterator", "odict_iterator", "itertools.zip_longest", "itertools.pairwise"].contains T) = false := by
          simp at hT
          rcases hT with rfl | rfl | rfl <;> decide
        rw [this]
        exact wpAny_pure hP
      | _ => exact wpAny_pure hP
    | _ => exact wpAny_pure hP
  split
  · exact key rfl
  · exact key rfl
  · exact wpAny_pure hP

theorem wx_for {target iter : Expr} {body : List Stmt} {pos : Pos}
    (h : WE prog w s₀ k env loc iter mem fun a m => ∃ (src : Src) (ds : List PyData) (Inv : List PyData → Loc → Mem → Prop), IterOk m a src ds ∧
      (∀ rest l m', Inv rest l m' → SrcIn m' src ds) ∧ Inv ds loc m ∧
      (∀ d rest l m', d ∈ ds → Inv (d :: rest) l m' → AssP env target d l fun l' => WXs prog w s₀ k env l' body m' (LoopP (Inv rest) Q)) ∧
      (∀ l m', Inv [] l m' → Q .next l m'))
    (hs : ∀ x, foldedSetIterable iter env x = pure x) : WX prog w s₀ k env loc (.For target iter body [] pos) mem Q := by
  intro A s ρ hA R
  refine wpAny_For (wpAny_mono (h A s ρ hA R) ?_ fun _ _ x => x) hs
  rintro a' s1 ⟨a, m, ρ1, ⟨src, ds, Inv, ok, hsrc, hinv, hturn, hend⟩, ra, R1, x1⟩
  refine iter_ok ok ra R1 fun it s2 L st => ?_
  replace L := L.grow L.itown
  refine codeAny_forLoop_any (fun n s' => ∃ pre rest l m' ρ', rest.length = n ∧ ds = pre ++ rest ∧ Inv rest l m' ∧ Loop (own env) s₀ env ρ1 s1 it ρ' l m' s' ∧ ItSt ρ' s'.heap it src pre.length) ?_ ds.length ⟨[], ds, loc, m, ρ1, rfl, rfl, hinv, L, st⟩
  rintro n s' ⟨pre, rest, l, m', ρ', rfl, hds, hI, L, st⟩
  cases rest with
  | nil =>
    refine wpAny_mono (next_end (A := A) hA.no L st (hsrc _ _ _ hI) (by rw [hds]; simp) fun s2 L2 => ?_) (fun _ _ x => x) fun _ _ x => x.elim
    exact wpAny_execs_nil ⟨.next, l, m', ρ', hend l m' hI, rfl, L2.rep, x1.nil.trans L2.ext⟩
  | cons d rest =>
    refine wpAny_mono (next_ok (A := A) L st (hsrc _ _ _ hI) (d := d) (by rw [hds]; simp) fun v' s2 rv L2 st2 => ?_) (fun _ _ x => x) fun _ _ x => x.elim
    refine wpAny_mono (letOwned_ok st2 ?_) (fun _ _ x => x) fun _ _ x => x.elim
    refine wpAny_mono (ass_ok (hturn d rest l m' (by rw [hds]; simp) hI) hA.no L2.rep rv fun l' s3 q R3 x3 => ?_) (fun _ _ x => x) fun _ _ x => x.elim
    obtain ⟨L3, st3⟩ := L2.body R3 x3 st2
    refine wpAny_mono (q A s3 ρ' hA R3) ?_ fun _ _ x => x.elim
    rintro f s4 ⟨fl, l4, m4, ρ4, q4, rf, R4, x4⟩
    obtain ⟨L4, st4⟩ := L3.body R4 x4 st3
    cases fl with
    | next =>
      obtain rfl := rf
      exact ⟨rest.length, by simp, pre ++ [d], rest, l4, m4, ρ4, rfl, by rw [hds]; simp, q4, L4, by simpa using st4⟩
    | ret v =>
      obtain ⟨v', rfl, rv⟩ := rf
      exact ⟨.ret v, l4, m4, ρ4, q4, ⟨v', rfl, rv⟩, R4, x1.nil.trans L4.ext⟩
end
end Mine
-- F11
namespace Mine
section
variable {prog : Program} {w : World} {s₀ : Shared} {k : Nat} {env : Env} {loc : Loc} {mem : Mem} {Q : AFlow → Loc → Mem → Prop}
  {A : Around} {s : Shared} {ρ ρ' : List Addr} {h h' : Heap} {K : Frag}

theorem readsAll_erase {ds : List PyData} : ∀ {vs : List Value} {as : List Addr} (i : Nat), ReadsAll h vs ds as → ∃ bs, ReadsAll h (vs.eraseIdx i) (ds.eraseIdx i) bs := by
  induction ds with
  | nil => intro vs as i r; cases r; exact ⟨_, by simpa using ReadsAll.nil⟩
  | cons d ds ih =>
    intro vs as i r
    cases r with
    | cons a b =>
      cases i with
      | zero => exact ⟨_, b⟩
      | succ i => obtain ⟨bs, r⟩ := ih i b; exact ⟨_, .cons a r⟩
theorem flats_erase : ∀ (ds : List PyData) (i : Nat), flats ds = true → flats (ds.eraseIdx i) = true
  | [], _, _ => rfl
  | d :: ds, 0, h => by have h' : flat d = true ∧ flats ds = true := by simpa [flats] using h
                        exact h'.2
  | d :: ds, i + 1, h => by
    have h' : flat d = true ∧ flats ds = true := by simpa [flats] using h
    rw [List.eraseIdx_cons_succ, flats, h'.1, flats_erase ds i h'.2]; rfl

theorem seqIndex_lt {z : Int} {len n : Nat} (hn : seqIndex? z len = some n) : n < len := by
  unfold seqIndex? at hn
  by_cases hz : z < 0
  · simp only [hz, if_true] at hn
    by_cases hc : (decide (0 ≤ z + (len : Int)) && decide (z + (len : Int) < len)) = true
    · rw [if_pos hc] at hn
      injection hn with hn
      simp only [Bool.and_eq_true, decide_eq_true_eq] at hc
      omega
    · rw [if_neg hc] at hn; cases hn
  · simp only [hz, if_false] at hn
    by_cases hc : (decide (0 ≤ z) && decide (z < (len : Int))) = true
    · rw [if_pos hc] at hn
      injection hn with hn
      simp only [Bool.and_eq_true, decide_eq_true_eq] at hc
      omega
    · rw [if_neg hc] at hn; cases hn
theorem Rep.setList {i : Nat} {a : Addr} {ds ds' : List PyData} {vs' : Array Value} {n' : Nat} {as : List Addr} {h' : Heap} {t : Nat} {vs : Array Value} {n : Nat} (R : Rep s₀ env ρ loc mem s) (hi : mem[i]? = some (.list ds)) (ha : ρ[i]? = some a)
    (e : s.heap.get? a = some (listObj vs n)) (hs : Heap.SameBut a s.heap h') (e' : h'.get? a = some (listObj vs' n')) (hf : flats ds' = true) (ra : ReadsAll s.heap vs'.toList ds' as) :
    Rep s₀ env ρ loc (mem.set i (.list ds')) { s with heap := h', toks := t } ∧ ∀ F, Ext F ρ s ρ { s with heap := h', toks := t } := by
  have hnt := tupKeep_sameBut hs e not_tup_list
  exact ⟨R.write hi ha hs hnt ⟨hf, vs', n', as, e', readsAll_move hnt _ _ _ hf ra⟩, fun F => Ext.write (List.mem_of_getElem? ha) hs e' hnt⟩

theorem wx_delI {o i : Expr} {p pos : Pos} (h : WE prog w s₀ k env loc o mem fun ov m => WE prog w s₀ k env loc i m fun iv m' => ∃ j ds z n, ov = .ref j ∧ iv = .int z ∧ m'[j]? = some (.list ds) ∧ ds.length ≤ sizeLine ∧
      Builtin.List.listFitsIndex z = true ∧ seqIndex? z ds.length = some n ∧ Q .next loc (m'.set j (.list (ds.eraseIdx n)))) : WX prog w s₀ k env loc (.Delete [.Subscript o i p] pos) mem Q := by
  intro A s ρ hA R
  refine wpAny_Delete (wpAny_deleteEach_cons ?_)
  show wpAny _ A (do let ov ← eval o env; let iv ← holding [ov] (eval i env); standAt p; holding [ov, iv] (delItem ov iv); release [ov, iv] []) _ _ s
  refine WV.go h hA R ?_
  rintro ov m ρ1 ov' s1 q ro R1 x1
  refine WV.goH q hA R1 ?_
  rintro iv m2 ρ2 iv' s2 ⟨j, ds, z, n, rfl, rfl, hj, hl, hf, hn, q⟩ ri R2 x2
  obtain ⟨a, vs, en, as, rfl, ea, f, e, ra⟩ := R2.list hj (ro.move x2.pre x2.tup)
  obtain ⟨t, rfl⟩ := ri.int
  have hsz : vs.size = ds.length := by have := SeqAt.ReadsAll.length _ _ _ ra; simpa using this
  refine wpAny_bind (wpAny_standAt (wpAny_bind (wpAny_holding (wpAny_delItem_plain (k := n) ⟨en, e⟩ hf (by rw [hsz]; exact hn) (fun h' hp hs => ?_) (by rw [hsz]; exact hl)))))
  obtain ⟨n', e'⟩ := hp
  obtain ⟨bs, rb⟩ := readsAll_erase n ra
  have hlt : n < vs.size := by rw [hsz]; exact seqIndex_lt hn
  have hte : (vs.eraseIdxIfInBounds n).toList = vs.toList.eraseIdx n := by
    unfold Array.eraseIdxIfInBounds
    rw [dif_pos hlt, Array.toList_eraseIdx]
  obtain ⟨R3, x3⟩ := R2.setList (t := s2.toks) hj ea e hs e' (flats_erase ds n f) (by rw [hte]; exact rb)
  exact wpAny_release (wpAny_deleteEach_nil ⟨.next, loc, _, ρ2, q, rfl, R3, ((x1.trans x2).nil).trans (x3 _)⟩)

theorem wx_swap {x y : Str} {px py tpos vpos pos : Pos} {kk kv : Nat} {e₁ e₂ : Expr}
    (h : WE prog w s₀ k env loc (.Tuple [e₁, e₂] kv vpos) mem fun v m => ∃ d e, v = .tup [d, e] ∧ Q .next (setL (setL loc y (.dat e)) x (.dat d)) m)
    (hx : Storable env x) (hy : Storable env y)
    (hs : swapsWithSole [.Tuple [.Name x px, .Name y py] kk tpos] (.Tuple [e₁, e₂] kv vpos) pos.line env = pure false)
    (hw : swappedStores [.Tuple [.Name x px, .Name y py] kk tpos] (.Tuple [e₁, e₂] kv vpos) env = pure (some [x, y])) :
    WX prog w s₀ k env loc (.Assign [.Tuple [.Name x px, .Name y py] kk tpos] (.Tuple [e₁, e₂] kv vpos) pos) mem Q := by
  intro A s ρ hA R
  refine Assign_Tuple_swapped (names := [x, y]) (wpAny_mono (h A s ρ hA R) ?_ fun _ _ x => x) hs hw
  rintro v' s1 ⟨v, m, ρ1, ⟨d, e, rfl, q⟩, rv, R1, x1⟩
  obtain ⟨f, as, r⟩ := rv
  cases r with
  | tuple e1 e2 e3 e4 =>
    have hsz := SeqAt.ReadsAll.length _ _ _ e4
    rw [Array.length_toList] at hsz
    have f' : flat d = true ∧ flat e = true := by simpa [flat, flats] using f
    have key := unpackItems_tuple (A := A) (prog := prog) (w := w) (E := NoE) (Q := fun items s₂ => wpAny (model prog w) A (assignInOrder ([x, y].reverse.map fun n => bindName env n) items.reverse) (fun _ => PostX s₀ env ρ s Q .next) NoE s₂) hA.no ⟨_, e1, e2, _, e3⟩ fun h' hb => ?_
    · rw [hsz] at key; exact key
    · have hk : ∀ b o, s1.heap.get? b = some o → h'.get? b = some o := fun b o eb => hb b o (Nat.ne_of_lt (Heap.lt_size eb)) eb
      have R2 : Rep s₀ env ρ1 loc m { s1 with heap := h' } := R1.keeps (t := s1.toks) hk
      have x2 : Ext (own env) ρ1 s1 ρ1 { s1 with heap := h' } := Ext.ofKeeps (t := s1.toks) hk
      obtain ⟨v, u, bs, cs, hv, r1, r2⟩ := readsAll2 e4
      rw [hv]
      show wpAny _ A (do holding [v] (bindName env y u); assignInOrder [fun z => bindName env x z] [v]) _ NoE _
      refine wpAny_bind (wpAny_holding (wpAny_bindName (R2.store (v := .dat e) ⟨f'.2, cs, reads_move (fun b o eb _ => hk b o eb) _ _ _ f'.2 r2⟩ hy fun s3 R3 x3 => ?_)))
      show wpAny _ A (do holding [] (bindName env x v); pure ()) _ NoE _
      refine wpAny_bind (wpAny_holding (wpAny_bindName (R3.store (v := .dat d) ⟨f'.1, bs, reads_move x3.tup _ _ _ f'.1 (reads_move (fun b o eb _ => hk b o eb) _ _ _ f'.1 r1)⟩ hx fun s4 R4 x4 => ?_)))
      exact wpAny_pure ⟨.next, _, m, ρ1, q, rfl, R4, ((x1.nil.trans x2).trans x3).trans x4⟩

noncomputable abbrev DownP (Inv : Nat → Loc → Mem → Prop) (n : Nat) (l : Loc) (m : Mem) : Prop := ∃ n', n' < n ∧ Inv n' l m
theorem wx_while {test : Expr} {body : List Stmt} {pos : Pos} (Inv : Nat → Loc → Mem → Prop) (n : Nat) (h0 : Inv n loc mem)
    (hturn : ∀ n l m, Inv n l m → WT prog w s₀ k env l test m fun b m' => if b then WXs prog w s₀ k env l body m' (LoopP (DownP Inv n) Q)
      else Q .next l m') : WX prog w s₀ k env loc (.While test body [] pos) mem Q := by
  intro A s ρ hA R
  refine wpAny_While (codeAny_whileLoop (fun n s' => ∃ l m ρ', Inv n l m ∧ Rep s₀ env ρ' l m s' ∧ Ext (own env) ρ s ρ' s') ?_ n ⟨loc, mem, ρ, h0, R, Ext.refl _ _ _⟩)
  rintro n s' ⟨l, m, ρ', hI, R', x'⟩
  refine wpAny_mono (hturn n l m hI A s' ρ' hA R') ?_ fun _ _ x => x.elim
  rintro b s2 ⟨m2, ρ2, q, R2, x2⟩
  cases b with
  | true =>
    simp only [if_true] at q ⊢
    refine wpAny_mono (q A s2 ρ2 hA R2) ?_ fun _ _ x => x.elim
    rintro f s3 ⟨fl, l3, m3, ρ3, q3, rf, R3, x3⟩
    cases fl with
    | next =>
      obtain rfl := rf
      obtain ⟨n', hn, hI'⟩ := q3
      exact ⟨n', hn, l3, m3, ρ3, hI', R3, (x'.trans x2.nil).trans x3⟩
    | ret v =>
      obtain ⟨v', rfl, rv⟩ := rf
      exact ⟨.ret v, l3, m3, ρ3, q3, ⟨v', rfl, rv⟩, R3, (x'.trans x2.nil).trans x3⟩
  | false =>
    simp only [Bool.false_eq_true, if_false] at q ⊢
    exact wpAny_execs_nil ⟨.next, l, m2, ρ2, q, rfl, R2, x'.trans x2.nil⟩
end
end Mine
-- E0
namespace Mine
noncomputable abbrev KK (w : World) : Frag := hd.heap_39 w.params
noncomputable def fdAt (K : Frag) (a : Addr) : FuncData := match K.lookup a with
  | some ⟨_, _, .func fd, _⟩ => fd
  | _ => default
noncomputable def bodyAt (K : Frag) (a : Addr) : List Stmt := match (fdAt K a).body with
  | .stmts b => b
  | _ => []
section
variable {prog : Program} {w : World} {s₀ : Shared} {k : Nat} {env : Env} {loc : Loc} {mem : Mem} {Q : AV → Mem → Prop} {pos : Pos}
theorem n_len (G : Gr w s₀ (KK w)) (hk : env.kindOf "len" = some .globalImplicit) (q : Q (.cst (.builtin "len")) mem) : WE prog w s₀ k env loc (.Name "len" pos) mem Q := we_builtin G (by rfl) Boot.len (by decide) hk (by rfl) q
theorem n_sum (G : Gr w s₀ (KK w)) (hk : env.kindOf "sum" = some .globalImplicit) (q : Q (.cst (.builtin "sum")) mem) : WE prog w s₀ k env loc (.Name "sum" pos) mem Q := we_builtin G (by rfl) Boot.sum (by decide) hk (by rfl) q
theorem n_max (G : Gr w s₀ (KK w)) (hk : env.kindOf "max" = some .globalImplicit) (q : Q (.cst (.builtin "max")) mem) : WE prog w s₀ k env loc (.Name "max" pos) mem Q := we_builtin G (by rfl) Boot.max (by decide) hk (by rfl) q
theorem n_int (G : Gr w s₀ (KK w)) (hk : env.kindOf "int" = some .globalImplicit) (q : Q (.cst (.type "int")) mem) : WE prog w s₀ k env loc (.Name "int" pos) mem Q := we_builtin G (by rfl) Boot.int (by decide) hk (by rfl) q
theorem n_str (G : Gr w s₀ (KK w)) (hk : env.kindOf "str" = some .globalImplicit) (q : Q (.cst (.type "str")) mem) : WE prog w s₀ k env loc (.Name "str" pos) mem Q := we_builtin G (by rfl) Boot.str (by decide) hk (by rfl) q
theorem n_type (G : Gr w s₀ (KK w)) (hk : env.kindOf "type" = some .globalImplicit) (q : Q (.cst (.type "type")) mem) : WE prog w s₀ k env loc (.Name "type" pos) mem Q := we_builtin G (by rfl) Boot.type (by decide) hk (by rfl) q
theorem n_list (G : Gr w s₀ (KK w)) (hk : env.kindOf "list" = some .globalImplicit) (q : Q (.cst (.type "list")) mem) : WE prog w s₀ k env loc (.Name "list" pos) mem Q := we_builtin G (by rfl) Boot.list (by decide) hk (by rfl) q
theorem n_range (G : Gr w s₀ (KK w)) (hk : env.kindOf "range" = some .globalImplicit) (q : Q (.cst (.type "range")) mem) : WE prog w s₀ k env loc (.Name "range" pos) mem Q := we_builtin G (by rfl) Boot.range (by decide) hk (by rfl) q
theorem n_marker (G : Gr w s₀ (KK w)) (hk : env.kindOf "ELLIPSIS_MARKER" = some .globalImplicit) (q : Q (.str "...") mem) : WE prog w s₀ k env loc (.Name "ELLIPSIS_MARKER" pos) mem Q := we_globalStr G (by rfl) hk (by rfl) q
theorem n_ellipsis (G : Gr w s₀ (KK w)) (hk : env.kindOf "_ellipsis_match" = some .globalImplicit) (q : Q (.cst (.ref 45)) mem) : WE prog w s₀ k env loc (.Name "_ellipsis_match" pos) mem Q := we_global G (by rfl) hk (by rfl) q
theorem n_nre (G : Gr w s₀ (KK w)) (hk : env.kindOf "_name_disallowed_re" = some .globalImplicit) (q : Q (.cst (.ref 50)) mem) : WE prog w s₀ k env loc (.Name "_name_disallowed_re" pos) mem Q := we_global G (by rfl) hk (by rfl) q
theorem n_vre (G : Gr w s₀ (KK w)) (hk : env.kindOf "_value_disallowed_re" = some .globalImplicit) (q : Q (.cst (.ref 55)) mem) : WE prog w s₀ k env loc (.Name "_value_disallowed_re" pos) mem Q := we_global G (by rfl) hk (by rfl) q
theorem n_headers (G : Gr w s₀ (KK w)) (hk : env.kindOf "Headers" = some .globalImplicit) (q : Q (.cst (.ref 178)) mem) : WE prog w s₀ k env loc (.Name "Headers" pos) mem Q := we_global G (by rfl) hk (by rfl) q
theorem n_name (G : Gr w s₀ (KK w)) (hk : env.kindOf "_law_name" = some .globalImplicit) (q : Q (.cst (.ref 189)) mem) : WE prog w s₀ k env loc (.Name "_law_name" pos) mem Q := we_global G (by rfl) hk (by rfl) q
theorem n_words (G : Gr w s₀ (KK w)) (hk : env.kindOf "_law_words" = some .globalImplicit) (q : Q (.cst (.ref 194)) mem) : WE prog w s₀ k env loc (.Name "_law_words" pos) mem Q := we_global G (by rfl) hk (by rfl) q
theorem n_ends (G : Gr w s₀ (KK w)) (hk : env.kindOf "_law_ends" = some .globalImplicit) (q : Q (.cst (.ref 199)) mem) : WE prog w s₀ k env loc (.Name "_law_ends" pos) mem Q := we_global G (by rfl) hk (by rfl) q
theorem n_least (G : Gr w s₀ (KK w)) (hk : env.kindOf "_law_least" = some .globalImplicit) (q : Q (.cst (.ref 206)) mem) : WE prog w s₀ k env loc (.Name "_law_least" pos) mem Q := we_global G (by rfl) hk (by rfl) q
theorem n_read (G : Gr w s₀ (KK w)) (hk : env.kindOf "_law_read" = some .globalImplicit) (q : Q (.cst (.ref 211)) mem) : WE prog w s₀ k env loc (.Name "_law_read" pos) mem Q := we_global G (by rfl) hk (by rfl) q
theorem n_fill (G : Gr w s₀ (KK w)) (hk : env.kindOf "_law_fill" = some .globalImplicit) (q : Q (.cst (.ref 218)) mem) : WE prog w s₀ k env loc (.Name "_law_fill" pos) mem Q := we_global G (by rfl) hk (by rfl) q
theorem n_back (G : Gr w s₀ (KK w)) (hk : env.kindOf "_law_back" = some .globalImplicit) (q : Q (.cst (.ref 223)) mem) : WE prog w s₀ k env loc (.Name "_law_back" pos) mem Q := we_global G (by rfl) hk (by rfl) q
end

theorem called_b {K : Frag} {id : String} : Called K (.builtin id) := .inl ⟨_, rfl⟩
theorem called_t {K : Frag} {id : String} : Called K (.type id) := .inr (.inl ⟨_, rfl⟩)
theorem called45 (w : World) : Called (KK w) (.ref 45) := .inr (.inr (by rfl))
theorem called178 (w : World) : Called (KK w) (.ref 178) := .inr (.inr (by rfl))
theorem called189 (w : World) : Called (KK w) (.ref 189) := .inr (.inr (by rfl))
theorem called194 (w : World) : Called (KK w) (.ref 194) := .inr (.inr (by rfl))
theorem called199 (w : World) : Called (KK w) (.ref 199) := .inr (.inr (by rfl))
theorem called206 (w : World) : Called (KK w) (.ref 206) := .inr (.inr (by rfl))
theorem called211 (w : World) : Called (KK w) (.ref 211) := .inr (.inr (by rfl))
theorem called218 (w : World) : Called (KK w) (.ref 218) := .inr (.inr (by rfl))
theorem called223 (w : World) : Called (KK w) (.ref 223) := .inr (.inr (by rfl))
noncomputable def gtab : List (Str × AV) := [("len", .cst (.builtin "len")), ("range", .cst (.type "range")), ("str", .cst (.type "str")), ("int", .cst (.type "int")), ("sum", .cst (.builtin "sum")), ("max", .cst (.builtin "max")), ("type", .cst (.type "type")), ("list", .cst (.type "list")), ("ELLIPSIS_MARKER", .str "..."), ("_ellipsis_match", .cst (.ref 45)), ("_name_disallowed_re", .cst (.ref 50)), ("_value_disallowed_re", .cst (.ref 55)), ("Headers", .cst (.ref 178)), ("_law_name", .cst (.ref 189)), ("_law_words", .cst (.ref 194)), ("_law_ends", .cst (.ref 199)), ("_law_least", .cst (.ref 206)), ("_law_read", .cst (.ref 211)), ("_law_fill", .cst (.ref 218)), ("_law_back", .cst (.ref 223))]
theorem n_any {prog : Program} {w : World} {s₀ : Shared} {k : Nat} {env : Env} {loc : Loc} {mem : Mem} {Q : AV → Mem → Prop} {pos : Pos} (G : Gr w s₀ (KK w)) {x : Str} {v : AV} (h : gtab.lookup x = some v) (hk : env.kindOf x = some .globalImplicit) (q : Q v mem) : WE prog w s₀ k env loc (.Name x pos) mem Q := by
  have hm := mem_of_lookup h
  simp only [gtab, List.mem_cons, List.not_mem_nil, or_false, Prod.mk.injEq] at hm
  rcases hm with ⟨rfl, rfl⟩ | ⟨rfl, rfl⟩ | ⟨rfl, rfl⟩ | ⟨rfl, rfl⟩ | ⟨rfl, rfl⟩ | ⟨rfl, rfl⟩ | ⟨rfl, rfl⟩ | ⟨rfl, rfl⟩ | ⟨rfl, rfl⟩ | ⟨rfl, rfl⟩ | ⟨rfl, rfl⟩ | ⟨rfl, rfl⟩ | ⟨rfl, rfl⟩ | ⟨rfl, rfl⟩ | ⟨rfl, rfl⟩ | ⟨rfl, rfl⟩ | ⟨rfl, rfl⟩ | ⟨rfl, rfl⟩ | ⟨rfl, rfl⟩ | ⟨rfl, rfl⟩
  · exact n_len G hk q
  · exact n_range G hk q
  · exact n_str G hk q
  · exact n_int G hk q
  · exact n_sum G hk q
  · exact n_max G hk q
  · exact n_type G hk q
  · exact n_list G hk q
  · exact n_marker G hk q
  · exact n_ellipsis G hk q
  · exact n_nre G hk q
  · exact n_vre G hk q
  · exact n_headers G hk q
  · exact n_name G hk q
  · exact n_words G hk q
  · exact n_ends G hk q
  · exact n_least G hk q
  · exact n_read G hk q
  · exact n_fill G hk q
  · exact n_back G hk q
noncomputable def calledQ : Value → Bool
  | .builtin _ => true
  | .type _ => true
  | .ref n => [45, 178, 189, 194, 199, 206, 211, 218, 223].any fun m => m == n
  | _ => false
theorem called_q {w : World} {v : Value} (h : calledQ v = true) : Called (KK w) v := by
  unfold calledQ at h
  split at h
  · exact called_b
  · exact called_t
  · simp only [List.any_cons, List.any_nil, Bool.or_false, Bool.or_eq_true, beq_iff_eq] at h
    rcases h with rfl | rfl | rfl | rfl | rfl | rfl | rfl | rfl | rfl
    · exact called45 w
    · exact called178 w
    · exact called189 w
    · exact called194 w
    · exact called199 w
    · exact called206 w
    · exact called211 w
    · exact called218 w
    · exact called223 w
  · cases h
theorem ex_calledQ {w : World} {v : Value} {P : Value → Prop} (c : calledQ v = true) (h : P v) : ∃ u, AV.cst v = .cst u ∧ Called (KK w) u ∧ P u := ⟨v, rfl, called_q c, h⟩
theorem szl {α : Type} {l : List α} (h : l.length ≤ 1000) : l.length ≤ sizeLine := Nat.le_trans h (by rw [sizeLine_eq]; decide)
theorem szm {α β : Type} {f : α → β} {l : List α} (h : l.length ≤ 1000) : (l.map f).length ≤ sizeLine := szl (by rw [List.length_map]; exact h)
end Mine
-- F12
namespace Mine
section
variable {prog : Program} {w : World} {s₀ : Shared} {k : Nat} {env : Env} {loc : Loc} {mem : Mem}
  {A : Around} {s : Shared} {ρ ρ' : List Addr} {h h' : Heap} {K : Frag}

theorem Rep.sub {loc' : Loc} (R : Rep s₀ env ρ loc mem s) (hs : ∀ x v, loc'.lookup x = some v → loc.lookup x = some v) : Rep s₀ env ρ loc' mem s := by
  have f := R.fr
  refine ⟨R.keep0, R.gens, R.os, R.nodup, R.high, R.len, R.objs, ⟨f.kind, f.glob, f.blt, ?_, fun x v hx hk => f.cel x v (hs x v hx) hk, f.cells, f.apart, f.lfree, f.lhigh⟩⟩
  obtain ⟨m, hn, q⟩ := f.ns
  exact ⟨m, hn, fun x v hx hk => q x v (hs x v hx) hk⟩

noncomputable def fp (env : Env) : List Addr := (own env).filter fun a => decide (env.locals ≤ a)
theorem fp_own {a : Addr} (h : a ∈ fp env) : a ∈ own env := (List.mem_filter.mp h).1
theorem fp_le {a : Addr} (h : a ∈ fp env) : env.locals ≤ a := by simpa using (List.mem_filter.mp h).2
theorem locals_fp : env.locals ∈ fp env := List.mem_filter.mpr ⟨.head _, by simp⟩
noncomputable def StorL (env : Env) (x : Str) : Prop := env.kindOf x = some .local ∨ (env.kindOf x = some .cell ∧ ∃ c, env.cells.lookup x = some c ∧ env.locals ≤ c)

theorem Rep.storeL {x : Str} {v : AV} {v' : Value} {P : Unit → Shared → Prop} (R : Rep s₀ env ρ loc mem s) (rv : RepV ρ s.heap v v') (hk : StorL env x)
    (h : ∀ s', Rep s₀ env ρ (setL loc x v) mem s' → Ext (fp env) ρ s ρ s' → P () s') : wpAny (model prog w) A (storeName env x v') P NoE s := by
  obtain ⟨m, hn, hm⟩ := R.fr.ns
  rcases hk with hk | ⟨hk, c, hc, hle⟩
  · refine wpAny_storeName_local hk hn (fun h' hn' hs => ?_) (by rw [R.fr.kind]; rfl)
    obtain ⟨o, es, ep, e, ed, _⟩ := hn
    obtain ⟨o', es', ep', e', ed', _⟩ := id hn'
    have hnt := tupKeep_sameBut hs e (not_tup_dict ed)
    refine h _ (R.other R.fr.lfree R.fr.lhigh hs e (not_tup_dict ed) (env' := env) ?_) (Ext.other locals_fp hs e e' (not_tup_dict ed))
    have f := R.fr
    have kc : ∀ y c, (y, c) ∈ env.cells → ∀ ob, s.heap.get? c = some ob → h'.get? c = some ob := fun y c hc ob eb => (hs.2 c (f.cell_ne hc)).trans eb
    refine ⟨f.kind, f.glob, f.blt, ⟨_, hn', fun y u hy hl => ?_⟩, fun y u hy hl => ?_, fun y c hc => ?_, f.apart, f.lfree, f.lhigh⟩
    · rw [setL_lookup] at hy
      by_cases hyx : y = x
      · rw [if_pos hyx] at hy; cases hy
        exact ⟨v', by rw [if_pos hyx], rv.move (List.prefix_refl _) hnt⟩
      · rw [if_neg hyx] at hy
        obtain ⟨u', e1, e2⟩ := hm y u hy hl
        exact ⟨u', by rw [if_neg hyx]; exact e1, e2.move (List.prefix_refl _) hnt⟩
    · rw [setL_lookup] at hy
      by_cases hyx : y = x
      · subst hyx; rw [hk] at hl; rcases hl with hl | hl <;> cases hl
      · rw [if_neg hyx] at hy
        obtain ⟨c, u', e1, ⟨ob, e2, e3⟩, e4⟩ := f.cel y u hy hl
        exact ⟨c, u', e1, ⟨ob, kc y c (mem_of_lookup e1) ob e2, e3⟩, e4.move (List.prefix_refl _) hnt⟩
    · obtain ⟨⟨u, ob, e1, e2⟩, hlo⟩ := f.cells y c hc
      exact ⟨⟨u, ob, kc y c hc ob e1, e2⟩, hlo⟩
  · have f := R.fr
    obtain ⟨⟨u0, hcell⟩, hlo⟩ := f.cells x c (mem_of_lookup hc)
    have hfp : c ∈ fp env := List.mem_filter.mpr ⟨.tail _ (List.mem_map.mpr ⟨_, mem_of_lookup hc, rfl⟩), by simpa using hle⟩
    refine wpAny_storeName_cell R.fr.kind hk hc hcell (fun h' hc' hs => ?_)
    obtain ⟨o, e, ed⟩ := hcell
    obtain ⟨o', e', ed'⟩ := id hc'
    have hnt := tupKeep_sameBut hs e (not_tup_cell ed)
    have hcl : env.locals ≠ c := fun e => f.cell_ne (mem_of_lookup hc) e.symm
    refine h _ (R.other (R.cell_free (mem_of_lookup hc)) hlo hs e (not_tup_cell ed) (env' := env) ?_) (Ext.other hfp hs e e' (not_tup_cell ed))
    have kc : ∀ y d, (y, d) ∈ env.cells → y ≠ x → ∀ ob, s.heap.get? d = some ob → h'.get? d = some ob := fun y d hd hyx ob eb =>
      (hs.2 d (by rintro rfl; exact hyx (name_of_addr f.apart hd (mem_of_lookup hc)))).trans eb
    refine ⟨f.kind, f.glob, f.blt, ⟨m, hn.sameBut hs hcl, fun y u hy hl => ?_⟩, fun y u hy hl => ?_, fun y d hd => ?_, f.apart, f.lfree, f.lhigh⟩
    · rw [setL_lookup] at hy
      by_cases hyx : y = x
      · subst hyx; rw [hk] at hl; cases hl
      · rw [if_neg hyx] at hy
        obtain ⟨u', e1, e2⟩ := hm y u hy hl
        exact ⟨u', e1, e2.move (List.prefix_refl _) hnt⟩
    · rw [setL_lookup] at hy
      by_cases hyx : y = x
      · subst hyx; rw [if_pos rfl] at hy; cases hy
        exact ⟨c, v', hc, hc', rv.move (List.prefix_refl _) hnt⟩
      · rw [if_neg hyx] at hy
        obtain ⟨d, u', e1, ⟨ob, e2, e3⟩, e4⟩ := f.cel y u hy hl
        exact ⟨d, u', e1, ⟨ob, kc y d (mem_of_lookup e1) hyx ob e2, e3⟩, e4.move (List.prefix_refl _) hnt⟩
    · by_cases hyx : d = c
      · subst hyx; exact ⟨⟨_, hc'⟩, hlo⟩
      · obtain ⟨⟨u, ob, e1, e2⟩, hlo'⟩ := f.cells y d hd
        exact ⟨⟨u, ob, (hs.2 d hyx).trans e1, e2⟩, hlo'⟩

noncomputable def AssL (env : Env) (t : Expr) (d : PyData) (l : Loc) (P : Loc → Prop) : Prop := match tgtOf t d with
  | .one x v => StorL env x ∧ l.lookup x = none ∧ P (setL l x (.dat v))
  | .two x y a b => StorL env x ∧ StorL env y ∧ l.lookup x = none ∧ l.lookup y = none ∧ P (setL (setL l x (.dat a)) y (.dat b))
  | .no => False
theorem AssL.elim {t : Expr} {d : PyData} {l : Loc} {P : Loc → Prop} (h : AssL env t d l P) : (∃ x p, t = .Name x p ∧ StorL env x ∧ l.lookup x = none ∧ P (setL l x (.dat d))) ∨
    ∃ x px y py kk pos a b, t = .Tuple [.Name x px, .Name y py] kk pos ∧ d = .tuple [a, b] ∧ StorL env x ∧ StorL env y ∧ l.lookup x = none ∧ l.lookup y = none ∧ P (setL (setL l x (.dat a)) y (.dat b)) := by
  unfold AssL at h
  cases ht : tgtOf t d with
  | one x v =>
    rw [ht] at h
    obtain ⟨rfl, p, rfl⟩ := tgt_one ht
    exact .inl ⟨x, p, rfl, h⟩
  | two x y a b =>
    rw [ht] at h
    obtain ⟨rfl, px, py, kk, pos, rfl⟩ := tgt_two ht
    exact .inr ⟨x, px, y, py, kk, pos, a, b, rfl, rfl, h⟩
  | no => rw [ht] at h; exact h.elim

theorem assL_ok {t : Expr} {d : PyData} {v' : Value} {PL : Loc → Prop} {P : Unit → Shared → Prop} (ha : AssL env t d loc PL) (hA : A.handled = none) (R : Rep s₀ env ρ loc mem s) (rv : RepV ρ s.heap (.dat d) v')
    (hP : ∀ l s', PL l → (∀ x v, loc.lookup x = some v → l.lookup x = some v) → Rep s₀ env ρ l mem s' → Ext (fp env) ρ s ρ s' → P () s') : wpAny (model prog w) A (assign t env v') P NoE s := by
  have sub : ∀ {l : Loc} {x : Str} {v : AV}, l.lookup x = none → ∀ y u, l.lookup y = some u → (setL l x v).lookup y = some u := by
    intro l x v hx y u hy
    rw [setL_lookup]
    by_cases e : y = x
    · subst e; rw [hx] at hy; cases hy
    · rw [if_neg e]; exact hy
  rcases ha.elim with ⟨x, p, rfl, hx, lx, q⟩ | ⟨x, px, y, py, kk, pos, d, e, rfl, rfl, hx, hy, lx, ly, q⟩
  · exact PySem.wpAny_assign_Name (R.storeL rv hx fun s' R' x => hP _ s' q (sub lx) R' x)
  · skip
    obtain ⟨f, as, r⟩ := rv
    cases r with
    | tuple e1 e2 e3 e4 =>
      have hsz := SeqAt.ReadsAll.length _ _ _ e4
      rw [Array.length_toList] at hsz
      have f' : flat d = true ∧ flat e = true := by simpa [flat, flats] using f
      refine assign_Tuple_tuple hA ⟨_, e1, e2, _, e3⟩ (by rw [hsz]; rfl) rfl fun h' hb => ?_
      have hk : ∀ b o, s.heap.get? b = some o → h'.get? b = some o := fun b o eb => hb b o (Nat.ne_of_lt (Heap.lt_size eb)) eb
      have R1 : Rep s₀ env ρ loc mem { s with heap := h' } := R.keeps (t := s.toks) hk
      have x1 : Ext (fp env) ρ s ρ { s with heap := h' } := Ext.ofKeeps (t := s.toks) hk
      obtain ⟨v, u, bs, cs, hv, r1, r2⟩ := readsAll2 e4
      rw [hv]
      show wpAny _ A (do holding [u] (assign (.Name x px) env v); assignInOrder [assign (.Name y py) env] [u]) P NoE _
      refine wpAny_bind (wpAny_holding (PySem.wpAny_assign_Name (R1.storeL (v := .dat d) ⟨f'.1, bs, reads_move (fun b o eb _ => hk b o eb) _ _ _ f'.1 r1⟩ hx fun s2 R2 x2 => ?_)))
      show wpAny _ A (do holding [] (assign (.Name y py) env u); pure ()) P NoE _
      refine wpAny_bind (wpAny_holding (PySem.wpAny_assign_Name (R2.storeL (v := .dat e) ⟨f'.2, cs, reads_move x2.tup _ _ _ f'.2 (reads_move (fun b o eb _ => hk b o eb) _ _ _ f'.2 r2)⟩ hy fun s3 R3 x3 => ?_)))
      refine wpAny_pure (hP _ s3 q (fun z vz hz => ?_) R3 ((x1.trans x2).trans x3))
      rw [setL_lookup]
      by_cases hzy : z = y
      · subst hzy; rw [ly] at hz; cases hz
      · rw [if_neg hzy]; exact sub lx z vz hz

noncomputable def tests (ifs : List Expr) (env : Env) : Sem Bool := forIn ifs true fun c r => if r = true then do let ok ← PySem.isTrue c env (eval c env); pure (ForInStep.yield ok) else pure (ForInStep.yield r)

noncomputable def MidW (prog : Program) (w : World) (s₀ : Shared) (k : Nat) (cenv : Env) (cl : Loc) (aacc : Addr) (j : Nat) (ifs : List Expr) (mid : Sem Unit) (Ma Mb : Mem) : Prop :=
  ∀ (A : Around) (s : Shared) (ρ : List Addr), Room k A → Rep s₀ cenv ρ cl Ma s → ρ[j]? = some aacc →
    wpAny (model prog w) A (tests ifs cenv >>= fun ok => if ok = true then mid else pure ()) (fun _ s2 => ∃ ρ2, Rep s₀ cenv ρ2 cl Mb s2 ∧ Ext (fp cenv) ρ s ρ2 s2) NoE s

theorem compLoop_ok {e : Expr} {depth : Nat} {target iter : Expr} {ifs : List Expr} {mid : Sem Unit} {it aacc : Addr} {cenv : Env}
    (heq : compTurn e depth (.ref it) (.ref aacc) cenv = (standAt iter.pos >>= fun _ => pyNext (.ref it) >>= fun r => match r with
      | none => pure (.done .next)
      | some v => letOwnedTupleGo target (.ref it) v >>= fun _ => assign target cenv v >>= fun _ => tests ifs cenv >>= fun ok => (if ok = true then mid else pure ()) >>= fun _ => again (.compLoop e depth (.ref it) (.ref aacc) cenv)))
    (hden : (model prog w).den (.compLoop e depth (.ref it) (.ref aacc) cenv) = (compTurn e depth (.ref it) (.ref aacc) cenv).onRaise (fun x => do noteFrame x cenv; theTreesLotGoes x))
    (hund : A.under (.compLoop e depth (.ref it) (.ref aacc) cenv) = A)
    (hq : (Code.compLoop e depth (.ref it) (.ref aacc) cenv).quiet = true)
    {cl : Loc} {M : Mem} {j : Nat} {o0 : List PyData} {src : Src} {ds : List PyData} {gf : PyData → List PyData} {ρb : List Addr} {sb s' : Shared} (hA : Room k A)
    (hacc : ρb[j]? = some aacc)
    (hturn : ∀ d ∈ ds, ∀ o, o.length + (gf d).length ≤ o0.length + (ds.flatMap gf).length → AssL cenv target d cl fun cl' => MidW prog w s₀ k cenv cl' aacc j ifs mid (M.set j (.list o)) (M.set j (.list (o ++ gf d))))
    (hsrc : ∀ o, SrcIn (M.set j (.list o)) src ds)
    (L : Loop (fp cenv) s₀ cenv ρb sb it ρ' cl (M.set j (.list o0)) s') (st : ItSt ρ' s'.heap it src 0)
    {R : Result → Shared → Prop} (hR : ∀ ρ2 s2, Rep s₀ cenv ρ2 cl (M.set j (.list (o0 ++ ds.flatMap gf))) s2 → Ext (fp cenv) ρb sb ρ2 s2 → R (.ok .next) s2) :
    codeAny (model prog w) A (.compLoop e depth (.ref it) (.ref aacc) cenv) R s' := by
  refine codeAny_loop hq (fun n s' => ∃ pre rest ρ', rest.length = n ∧ ds = pre ++ rest ∧ Loop (fp cenv) s₀ cenv ρb sb it ρ' cl (M.set j (.list (o0 ++ pre.flatMap gf))) s' ∧ ItSt ρ' s'.heap it src pre.length) ?_ ds.length
    ⟨[], ds, ρ', rfl, rfl, by simpa using L, st⟩
  rintro n s1 ⟨pre, rest, ρ1, rfl, hds, L, st⟩
  rw [hund, hden]
  refine wpAny_noted ?_
  rw [heq]
  refine wpAny_bind (wpAny_standAt (wpAny_bind ?_))
  cases rest with
  | nil =>
    refine wpAny_mono (next_end (A := A) hA.no L st (hsrc _) (by rw [hds]; simp) fun s2 L2 => ?_) (fun _ _ x => x) fun _ _ x => x.elim
    refine wpAny_pure (hR ρ1 s2 ?_ L2.ext)
    have := L2.rep
    rwa [show pre = ds by simp [hds]] at this
  | cons d rest =>
    refine wpAny_mono (next_ok (A := A) L st (hsrc _) (d := d) (by rw [hds]; simp) fun v' s2 rv L2 st2 => ?_) (fun _ _ x => x) fun _ _ x => x.elim
    refine wpAny_bind (wpAny_mono (letOwned_ok st2 ?_) (fun _ _ x => x) fun _ _ x => x.elim)
    have hlen : (o0 ++ pre.flatMap gf).length + (gf d).length ≤ o0.length + (ds.flatMap gf).length := by
      rw [hds]; simp; omega
    refine wpAny_bind (wpAny_mono (assL_ok (hturn d (by rw [hds]; simp) _ hlen) hA.no L2.rep rv fun l' s3 q hsub R3 x3 => ?_) (fun _ _ x => x) fun _ _ x => x.elim)
    obtain ⟨L3, st3⟩ := L2.body R3 x3 st2
    have key := q A s3 ρ1 hA R3 (prefix_get L3.pre hacc)
    have main : wpAny (model prog w) A (tests ifs cenv >>= fun ok => (if ok = true then mid else pure ()) >>= fun _ => again (.compLoop e depth (.ref it) (.ref aacc) cenv))
        (fun fin s' => match fin with | .done f => R (.ok f) s' | .again c' => c' = .compLoop e depth (.ref it) (.ref aacc) cenv ∧ ∃ m, m < (d :: rest).length ∧ ∃ pre rest ρ', rest.length = m ∧ ds = pre ++ rest ∧ Loop (fp cenv) s₀ cenv ρb sb it ρ' cl (M.set j (.list (o0 ++ pre.flatMap gf))) s' ∧ ItSt ρ' s'.heap it src pre.length) NoE s3 := by
      have assoc : (tests ifs cenv >>= fun ok => (if ok = true then mid else pure ()) >>= fun _ => (again (.compLoop e depth (.ref it) (.ref aacc) cenv) : Sem Fin)) =
          ((tests ifs cenv >>= fun ok => if ok = true then mid else pure ()) >>= fun _ => again (.compLoop e depth (.ref it) (.ref aacc) cenv)) := by rw [bind_assoc]
      rw [assoc]
      refine wpAny_bind (wpAny_mono key ?_ fun _ _ x => x)
      rintro _ s4 ⟨ρ4, R4, x4⟩
      obtain ⟨L4, st4⟩ := L3.body (R4.sub hsub) x4 st3
      refine wpAny_pure ⟨rfl, rest.length, by simp, pre ++ [d], rest, ρ4, rfl, by rw [hds]; simp, ?_, by simpa using st4⟩
      have e1 : o0 ++ (pre ++ [d]).flatMap gf = o0 ++ pre.flatMap gf ++ gf d := by simp
      rw [e1]; exact L4
    exact wpAny_mono main (fun _ _ x => x) fun _ _ x => x.elim
end
end Mine
-- F13
namespace Mine

noncomputable def emit (elt : Expr) (acc : Value) (cenv : Env) : Sem Unit := do let _ ← call (.builtin "list.append") [acc, ← eval elt cenv]

theorem readsAll_snoc {h : Heap} {x : PyData} {v : Value} {bs : List Addr} : ∀ {ds : List PyData} {vs : List Value} {as : List Addr}, ReadsAll h vs ds as → Reads h v x bs → ∃ cs, ReadsAll h (vs ++ [v]) (ds ++ [x]) cs
  | [], _, _, .nil, r => ⟨_, .cons r .nil⟩
  | _ :: _, _, _, .cons a b, r => by
    obtain ⟨cs, q⟩ := readsAll_snoc b r
    exact ⟨_, .cons a q⟩
theorem flats_append : ∀ (ds es : List PyData), flats (ds ++ es) = (flats ds && flats es)
  | [], es => rfl
  | d :: ds, es => by rw [List.cons_append, flats, flats, flats_append ds es, Bool.and_assoc]

section
variable {prog : Program} {w : World} {s₀ : Shared} {k : Nat} {env cenv : Env} {loc cl : Loc} {mem M : Mem}
  {A : Around} {s : Shared} {ρ ρ' : List Addr} {h h' : Heap} {K : Frag}

theorem append_ok {j : Nat} {o : List PyData} {x : PyData} {a : Addr} {v' : Value} {P : Value → Shared → Prop} (R : Rep s₀ env ρ loc mem s) (hj : mem[j]? = some (.list o)) (ha : ρ[j]? = some a) (rv : RepV ρ s.heap (.dat x) v') (hl : o.length ≤ sizeLine)
    (hP : ∀ s', Rep s₀ env ρ loc (mem.set j (.list (o ++ [x]))) s' → (∀ F, Ext F ρ s ρ s') → P .none s') : wpAny (model prog w) A (call (.builtin "list.append") [.ref a, v']) P NoE s := by
  obtain ⟨b, eb, f, vs, n, as, e, ra⟩ := R.objs j _ hj
  rw [ha] at eb; cases eb
  obtain ⟨fx, bs, rx⟩ := rv
  have hsz : vs.size = o.length := by have := SeqAt.ReadsAll.length _ _ _ ra; simpa using this
  refine wpAny_list_append_plain (items := vs) ⟨n, e⟩ (fun h' hp hs => ?_) (by rw [hsz]; exact hl)
  obtain ⟨n', e'⟩ := hp
  obtain ⟨cs, rc⟩ := readsAll_snoc ra rx
  obtain ⟨R', x'⟩ := R.setList (t := s.toks) hj ha e hs e' (ds' := o ++ [x]) (as := cs) (by rw [flats_append, f]; simp [flats, fx]) (by simpa using rc)
  exact hP _ R' x'

theorem tests_nil {P : Bool → Shared → Prop} (h : P true s) : wpAny (model prog w) A (tests [] cenv) P NoE s := wpAny_pure h
theorem tests_one {c : Expr} {P : Bool → Shared → Prop} (h : wpAny (model prog w) A (PySem.isTrue c cenv (eval c cenv)) P NoE s) : wpAny (model prog w) A (tests [c] cenv) P NoE s := wpAny_tests_one h

theorem emit_ok {elt : Expr} {aacc : Addr} {j : Nat} {o : List PyData} {out : List PyData} (hM : j < M.length) (ho : o.length ≤ sizeLine)
    (h : WE prog w s₀ k cenv cl elt (M.set j (.list o)) fun v m => m = M.set j (.list o) ∧ ∃ x, v = .dat x ∧ out = [x]) (hA : Room k A) (R : Rep s₀ cenv ρ cl (M.set j (.list o)) s) (ha : ρ[j]? = some aacc) :
    wpAny (model prog w) A (emit elt (.ref aacc) cenv) (fun _ s2 => ∃ ρ2, Rep s₀ cenv ρ2 cl (M.set j (.list (o ++ out))) s2 ∧ Ext (fp cenv) ρ s ρ2 s2) NoE s := by
  unfold emit
  refine WV.go h hA R ?_
  rintro v m ρ1 v' s1 ⟨rfl, x, rfl, rfl⟩ rv R1 x1
  refine wpAny_bind (append_ok R1 (by rw [List.getElem?_set_self hM]) (prefix_get x1.pre ha) rv ho fun s' R' x' => wpAny_pure ⟨ρ1, ?_, x1.nil.trans (x' _)⟩)
  simpa using R'

theorem mid_emit0 {elt : Expr} {aacc : Addr} {j : Nat} {o out : List PyData} (hM : j < M.length) (ho : o.length ≤ sizeLine)
    (h : WE prog w s₀ k cenv cl elt (M.set j (.list o)) fun v m => m = M.set j (.list o) ∧ ∃ x, v = .dat x ∧ out = [x]) :
    MidW prog w s₀ k cenv cl aacc j [] (emit elt (.ref aacc) cenv) (M.set j (.list o)) (M.set j (.list (o ++ out))) :=
  fun A s ρ hA R ha => wpAny_bind (tests_nil (by rw [if_pos rfl]; exact emit_ok hM ho h hA R ha))

theorem mid_emit1 {c elt : Expr} {aacc : Addr} {j : Nat} {o out : List PyData} (hM : j < M.length) (ho : o.length ≤ sizeLine)
    (h : WT prog w s₀ k cenv cl c (M.set j (.list o)) fun b m => m = M.set j (.list o) ∧ if b = true then WE prog w s₀ k cenv cl elt (M.set j (.list o)) fun v m => m = M.set j (.list o) ∧ ∃ x, v = .dat x ∧ out = [x] else out = []) :
    MidW prog w s₀ k cenv cl aacc j [c] (emit elt (.ref aacc) cenv) (M.set j (.list o)) (M.set j (.list (o ++ out))) := by
  intro A s ρ hA R ha
  refine wpAny_bind (tests_one (wpAny_mono (h A s ρ hA R) ?_ fun _ _ x => x))
  rintro b s1 ⟨m, ρ1, ⟨rfl, q⟩, R1, x1⟩
  cases b with
  | true =>
    rw [if_pos rfl] at q ⊢
    refine wpAny_mono (emit_ok hM ho q hA R1 (prefix_get x1.pre ha)) ?_ fun _ _ x => x
    rintro _ s2 ⟨ρ2, R2, x2⟩
    exact ⟨ρ2, R2, x1.nil.trans x2⟩
  | false =>
    rw [if_neg (by decide)] at q ⊢
    subst q
    exact wpAny_pure ⟨ρ1, by simpa using R1, x1.nil⟩

theorem self_ok {it : Addr} {src : Src} {i : Nat} {P : Value → Shared → Prop} (st : ItSt ρ s.heap it src i) (hP : P (.ref it) s) : wpAny (model prog w) A (pyIter (.ref it)) P NoE s := by
  cases src with
  | list j => obtain ⟨l, _, hit⟩ := st; exact wpAny_pyIter_listiter hit hP
  | str x => obtain ⟨t, hit⟩ := st; exact wpAny_pyIter_striter_ascii hit hP
  | range a n => exact wpAny_pyIter_rangeiter st hP

theorem compStart_ok {elt : Expr} {gens : List Comprehension} {scope : Scope} {pos : Pos} {depth : Nat} {it acc : Value} {cenv : Env} {g : Comprehension} (hg : gens[depth]? = some g) (hga : g.is_async = 0) {R : Result → Shared → Prop}
    (h0 : codeAny (model prog w) A (.compLoop (.ListComp elt gens scope pos) depth it acc cenv) R s)
    (h : wpAny (model prog w) A (pyIter it) (fun it' s' => codeAny (model prog w) A (.compLoop (.ListComp elt gens scope pos) depth it' acc cenv) R s') NoE s) :
    codeAny (model prog w) A (.compStart (.ListComp elt gens scope pos) depth it acc cenv) R s := by
  refine codeAny_of_tree ?_
  show wpAny _ _ ((compStart (.ListComp elt gens scope pos) depth it acc cenv).onRaise (fun x => do noteFrame x cenv; standAt theWindowsPlace)) _ _ s
  refine wpAny_notedAt ?_
  unfold compStart
  have e1 : ((clausesOf (.ListComp elt gens scope pos))[depth]?).elim false (fun x => x.is_async != 0) = false := by
    show (gens[depth]?).elim false _ = false
    rw [hg]; simp [hga]
  have e2 : (clausesOf (.ListComp elt gens scope pos))[depth]? = some g := hg
  rw [e1, e2, if_neg (by decide)]
  refine wpAny_bind (wpAny_askSetting (wpAny_ite ?_))
  split
  · exact wpAny_pure (And.intro rfl h0)
  · exact wpAny_bind (wpAny_rule (wpAny_bind (wpAny_standAt (wpAny_bind (wpAny_mono h (fun it' s' h' => wpAny_pure (And.intro rfl h')) fun _ _ x => x.elim)))))
end
end Mine
-- F14
namespace Mine

noncomputable def cloFrom (env : Env) : List (Str × NameKind) → List (Str × Addr) → List (Str × Addr)
  | [], acc => acc
  | (n, kd) :: r, acc => cloFrom env r (if kd == .free then (n, (env.cells.lookup n).getD 0) :: acc else acc)
noncomputable def freeNames : List (Str × NameKind) → List Str → List Str
  | [], acc => acc
  | (n, kd) :: r, acc => freeNames r (if kd == .free then n :: acc else acc)
noncomputable def cloLoc (loc : Loc) : List (Str × NameKind) → Loc
  | [] => []
  | (n, kd) :: r => if kd == .free then (match loc.lookup n with | some v => (n, v) :: cloLoc loc r | none => cloLoc loc r) else cloLoc loc r

theorem cloFrom_names (env : Env) : ∀ (names : List (Str × NameKind)) (acc : List (Str × Addr)), (cloFrom env names acc).map (·.1) = freeNames names (acc.map (·.1))
  | [], _ => rfl
  | (x, kd) :: r, acc => by
    unfold cloFrom freeNames
    rw [cloFrom_names env r]
    split <;> rfl
theorem mem_cloFrom {env : Env} : ∀ {names : List (Str × NameKind)} {acc : List (Str × Addr)} {x : Str} {c : Addr}, (x, c) ∈ cloFrom env names acc → (x, c) ∈ acc ∨ ((x, .free) ∈ names ∧ c = (env.cells.lookup x).getD 0)
  | [], _, _, _, h => .inl h
  | (n, kd) :: r, acc, x, c, h => by
    unfold cloFrom at h
    rcases mem_cloFrom h with h | ⟨h1, h2⟩
    · by_cases hk : kd = .free
      · subst hk
        simp only [beq_self_eq_true, if_true] at h
        rcases List.mem_cons.mp h with e | h
        · cases e; exact .inr ⟨.head _, rfl⟩
        · exact .inl h
      · have : (kd == NameKind.free) = false := by simpa using hk
        rw [this] at h
        exact .inl (by simpa using h)
    · exact .inr ⟨.tail _ h1, h2⟩
theorem free_mem {env : Env} : ∀ {names : List (Str × NameKind)} {acc : List (Str × Addr)} {x : Str}, (x, .free) ∈ names ∨ (x, (env.cells.lookup x).getD 0) ∈ acc → (x, (env.cells.lookup x).getD 0) ∈ cloFrom env names acc
  | [], _, _, h => h.elim (fun h => nomatch h) id
  | (n, kd) :: r, acc, x, h => by
    unfold cloFrom
    refine free_mem ?_
    rcases h with h | h
    · rcases List.mem_cons.mp h with e | h
      · cases e; exact .inr (by simp)
      · exact .inl h
    · right
      split
      · exact .tail _ h
      · exact h
theorem cloLoc_lookup {loc : Loc} : ∀ {names : List (Str × NameKind)} {x : Str} {v : AV}, (cloLoc loc names).lookup x = some v → loc.lookup x = some v ∧ (x, .free) ∈ names
  | [], _, _, h => by simp [cloLoc] at h
  | (n, kd) :: r, x, v, h => by
    unfold cloLoc at h
    by_cases hk : kd = .free
    · subst hk
      simp only [beq_self_eq_true, if_true] at h
      cases hl : loc.lookup n with
      | none => rw [hl] at h; exact ⟨(cloLoc_lookup h).1, .tail _ (cloLoc_lookup h).2⟩
      | some u =>
        rw [hl] at h
        simp only [List.lookup_cons] at h
        by_cases hx : x = n
        · subst hx; simp at h; subst h; exact ⟨hl, .head _⟩
        · have : (x == n) = false := by simpa using hx
          rw [this] at h
          exact ⟨(cloLoc_lookup h).1, .tail _ (cloLoc_lookup h).2⟩
    · have : (kd == NameKind.free) = false := by simpa using hk
      rw [this] at h
      simp only [Bool.false_eq_true, if_false] at h
      exact ⟨(cloLoc_lookup h).1, .tail _ (cloLoc_lookup h).2⟩
theorem relabel_lookup {env : Env} : ∀ {names : List (Str × NameKind)} {x : Str}, (names.map (·.1)).Nodup → (x, NameKind.free) ∈ names →
    (names.map fun (n, k) => if (k == NameKind.free && env.scope.kind == .function && env.kindOf n == some .cell) then (n, NameKind.cell) else (n, k)).lookup x = some .cell ∨
    (names.map fun (n, k) => if (k == NameKind.free && env.scope.kind == .function && env.kindOf n == some .cell) then (n, NameKind.cell) else (n, k)).lookup x = some .free
  | (n, kd) :: r, x, hn, hm => by
    obtain ⟨h1, h2⟩ := List.nodup_cons.mp hn
    rcases List.mem_cons.mp hm with e | hm2
    · cases e
      simp only [List.map_cons, beq_self_eq_true, Bool.true_and]
      split
      · left; simp
      · right; simp
    · have hx : x ≠ n := fun ee => h1 (List.mem_map.mpr ⟨(x, .free), hm2, ee⟩)
      have hb : (x == n) = false := by simpa using hx
      have ih := relabel_lookup (env := env) h2 hm2
      simp only [List.map_cons]
      split <;> (simp only [List.lookup_cons, hb]; exact ih)

section
variable {prog : Program} {w : World} {s₀ : Shared} {k : Nat} {env cenv : Env} {loc cl : Loc} {mem M : Mem}
  {A : Around} {s : Shared} {ρ ρ' : List Addr} {h h' : Heap} {K : Frag}

theorem closure_ok {scope : Scope} (hf : ∀ x ∈ scope.names, x.2 = .free → (env.cells.lookup x.1).isSome = true) : closureFor scope env = pure (cloFrom env scope.names []) := by
  simp only [closureFor]
  have key : ∀ (names : List (Str × NameKind)) (acc : List (Str × Addr)), (∀ x ∈ names, x.2 = .free → (env.cells.lookup x.1).isSome = true) →
      (forIn names acc fun x cs => if (x.2 == NameKind.free) = true then do let a ← cellOf env x.1; pure (ForInStep.yield ((x.1, a) :: cs)) else pure (ForInStep.yield cs)) = (pure (cloFrom env names acc) : Sem _) := by
    intro names
    induction names with
    | nil => intro acc _; rfl
    | cons p r ih =>
      intro acc hf
      obtain ⟨n, kd⟩ := p
      rw [List.forIn_cons]
      by_cases hk : kd = .free
      · subst hk
        obtain ⟨c, hc⟩ := Option.isSome_iff_exists.mp (hf _ (.head _) rfl)
        simp only [beq_self_eq_true, if_true]
        have e : cellOf env n = pure c := by unfold cellOf; rw [hc]
        rw [e, pure_bind, pure_bind]
        show forIn r ((n, c) :: acc) _ = _
        rw [ih _ (fun x hx => hf x (.tail _ hx)), cloFrom]
        simp [hc]
      · have hb : (kd == NameKind.free) = false := by simpa using hk
        simp only [hb, Bool.false_eq_true, if_false, pure_bind]
        rw [ih _ (fun x hx => hf x (.tail _ hx)), cloFrom, hb]
        simp
  have := key scope.names [] hf
  rw [this]
  rfl

structure CompOk (env : Env) (scope : Scope) : Prop where
  kind : scope.kind = .function
  nd : (scope.names.map (·.1)).Nodup
  free : scope.names.all (fun x => x.2 != .free || ((env.cells.lookup x.1).isSome && (env.kindOf x.1 == some .cell || env.kindOf x.1 == some .free))) = true

theorem CompOk.of_free {scope : Scope} (C : CompOk env scope) {x : Str} (hx : (x, NameKind.free) ∈ scope.names) : (∃ c, env.cells.lookup x = some c) ∧ (env.kindOf x = some .cell ∨ env.kindOf x = some .free) := by
  have := List.all_eq_true.mp C.free _ hx
  simp only [bne_self_eq_false, Bool.false_or, Bool.and_eq_true, Bool.or_eq_true, beq_iff_eq] at this
  exact ⟨Option.isSome_iff_exists.mp this.1, this.2⟩

theorem freeNames_nodup : ∀ {names : List (Str × NameKind)} {acc : List Str}, (names.map (·.1)).Nodup → acc.Nodup → (∀ x ∈ acc, x ∉ names.map (·.1)) → (freeNames names acc).Nodup
  | [], _, _, h, _ => h
  | (n, kd) :: r, acc, hn, ha, hd => by
    obtain ⟨h1, h2⟩ := List.nodup_cons.mp hn
    unfold freeNames
    refine freeNames_nodup h2 ?_ ?_
    · split
      · exact List.nodup_cons.mpr ⟨fun hm => hd n hm (.head _), ha⟩
      · exact ha
    · intro x hx
      split at hx
      · rcases List.mem_cons.mp hx with rfl | hx
        · exact h1
        · exact fun hm => hd x hx (.tail _ hm)
      · exact fun hm => hd x hx (.tail _ hm)

theorem cellsFrom_app : ∀ (names : List (Str × NameKind)) (n : Nat) (acc : List (Str × Addr)), cellsFrom n names acc = cellsFrom n names [] ++ acc
  | [], _, _ => rfl
  | (x, kd) :: r, n, acc => by
    unfold cellsFrom
    split
    · rw [cellsFrom_app r (n + 1) ((x, n) :: acc), cellsFrom_app r (n + 1) [(x, n)]]; simp
    · exact cellsFrom_app r n acc
theorem mem_cellNames : ∀ {names : List (Str × NameKind)} {acc : List Str} {x : Str}, x ∈ cellNames names acc → x ∈ acc ∨ (x, NameKind.cell) ∈ names
  | [], _, _, h => .inl h
  | (n, kd) :: r, acc, x, h => by
    unfold cellNames at h
    rcases mem_cellNames h with h | h
    · by_cases hk : kd = .cell
      · subst hk
        simp only [beq_self_eq_true, if_true] at h
        rcases List.mem_cons.mp h with rfl | h
        · exact .inr (.head _)
        · exact .inl h
      · have : (kd == NameKind.cell) = false := by simpa using hk
        rw [this] at h
        exact .inl (by simpa using h)
    · exact .inr (.tail _ h)
theorem mem_freeNames : ∀ {names : List (Str × NameKind)} {acc : List Str} {x : Str}, x ∈ freeNames names acc → x ∈ acc ∨ (x, NameKind.free) ∈ names
  | [], _, _, h => .inl h
  | (n, kd) :: r, acc, x, h => by
    unfold freeNames at h
    rcases mem_freeNames h with h | h
    · by_cases hk : kd = .free
      · subst hk
        simp only [beq_self_eq_true, if_true] at h
        rcases List.mem_cons.mp h with rfl | h
        · exact .inr (.head _)
        · exact .inl h
      · have : (kd == NameKind.free) = false := by simpa using hk
        rw [this] at h
        exact .inl (by simpa using h)
    · exact .inr (.tail _ h)
theorem cellNames_nodup : ∀ {names : List (Str × NameKind)} {acc : List Str}, (names.map (·.1)).Nodup → acc.Nodup → (∀ x ∈ acc, x ∉ names.map (·.1)) → (cellNames names acc).Nodup
  | [], _, _, h, _ => h
  | (n, kd) :: r, acc, hn, ha, hd => by
    obtain ⟨h1, h2⟩ := List.nodup_cons.mp hn
    unfold cellNames
    refine cellNames_nodup h2 ?_ ?_
    · split
      · exact List.nodup_cons.mpr ⟨fun hm => hd n hm (.head _), ha⟩
      · exact ha
    · intro x hx
      split at hx
      · rcases List.mem_cons.mp hx with rfl | hx
        · exact h1
        · exact fun hm => hd x hx (.tail _ hm)
      · exact fun hm => hd x hx (.tail _ hm)
theorem kind_uniq : ∀ {names : List (Str × NameKind)} {x : Str} {a b : NameKind}, (names.map (·.1)).Nodup → (x, a) ∈ names → (x, b) ∈ names → a = b
  | (n, kd) :: r, x, a, b, hn, h, h' => by
    obtain ⟨h1, h2⟩ := List.nodup_cons.mp hn
    rcases List.mem_cons.mp h with e | hh <;> rcases List.mem_cons.mp h' with e' | hh'
    · cases e; cases e'; rfl
    · cases e; exact absurd (List.mem_map.mpr ⟨_, hh', rfl⟩) h1
    · cases e'; exact absurd (List.mem_map.mpr ⟨_, hh, rfl⟩) h1
    · exact kind_uniq h2 hh hh'

noncomputable def cCells (env : Env) (scope : Scope) (C : Addr) : List (Str × Addr) := cellsFrom (C + 1) scope.names (cloFrom env scope.names [])

theorem Rep.comp {scope : Scope} {C : Addr} (R : Rep s₀ env ρ loc mem s) (ok : CompOk env scope) (hC : s.heap.Ns C fun _ => none) (hCρ : C ∉ ρ) (hClo : s₀.heap.objs.size ≤ C)
    (hnew : ∀ x c, (x, c) ∈ cellsFrom (C + 1) scope.names [] → s.heap.IsCell c none ∧ C < c) (hap : (cellsFrom (C + 1) scope.names []).Pairwise fun x y => x.2 ≠ y.2) (hold : ∀ x c, (x, c) ∈ env.cells → c < C) :
    Rep s₀ (compEnvC scope (cCells env scope C) C env) ρ (cloLoc loc scope.names) mem s := by
  have f := R.fr
  have hcn : ((cloFrom env scope.names []).map (·.1)).Nodup := by
    rw [cloFrom_names]; exact freeNames_nodup ok.nd List.nodup_nil (fun _ h => nomatch h)
  have hcc : ((cCells env scope C).map (·.1)).Nodup := by
    unfold cCells
    rw [cellsFrom_app, List.map_append, cellsFrom_names, cloFrom_names]
    refine List.nodup_append.mpr ⟨cellNames_nodup ok.nd List.nodup_nil (fun _ h => nomatch h), freeNames_nodup ok.nd List.nodup_nil (fun _ h => nomatch h), fun a ha b hb hab => ?_⟩
    subst hab
    rcases mem_cellNames ha with h | h
    · cases h
    · rcases mem_freeNames hb with h' | h'
      · cases h'
      · have := kind_uniq ok.nd h h'; cases this
  have hclo : ∀ x c, (x, c) ∈ cloFrom env scope.names [] → (x, c) ∈ env.cells := by
    intro x c hc
    rcases mem_cloFrom hc with h | ⟨hm, rfl⟩
    · cases h
    · obtain ⟨⟨c0, hc0⟩, _⟩ := ok.of_free hm
      rw [hc0]; exact mem_of_lookup hc0
  refine ⟨R.keep0, R.gens, R.os, R.nodup, R.high, R.len, R.objs, ⟨ok.kind, f.glob, f.blt, ⟨_, hC, fun x v hx hk => ?_⟩, fun x v hx hk => ?_, fun x c hc => ?_, ?_, hCρ, hClo⟩⟩
  · exfalso
    obtain ⟨_, hm⟩ := cloLoc_lookup hx
    rcases relabel_lookup (env := env) ok.nd hm with e | e
    · have : (relabel scope env).names.lookup x = some .cell := e
      rw [show (compEnvC scope (cCells env scope C) C env).kindOf x = (relabel scope env).names.lookup x from rfl, this] at hk
      cases hk
    · have : (relabel scope env).names.lookup x = some .free := e
      rw [show (compEnvC scope (cCells env scope C) C env).kindOf x = (relabel scope env).names.lookup x from rfl, this] at hk
      cases hk
  · obtain ⟨hl, hm⟩ := cloLoc_lookup hx
    obtain ⟨⟨c0, hc0⟩, hkk⟩ := ok.of_free hm
    obtain ⟨c, v', e1, e2, r⟩ := f.cel x v hl hkk
    refine ⟨c, v', lookup_of_mem hcc ?_, e2, r⟩
    have := free_mem (env := env) (acc := []) (.inl hm)
    rw [e1] at this
    unfold cCells
    rw [cellsFrom_app]
    exact List.mem_append_right _ this
  · have hc' : (x, c) ∈ cellsFrom (C + 1) scope.names [] ++ cloFrom env scope.names [] := by rw [← cellsFrom_app]; exact hc
    rcases List.mem_append.mp hc' with h | h
    · obtain ⟨h1, h2⟩ := hnew x c h
      exact ⟨⟨_, h1⟩, Nat.le_trans hClo (Nat.le_of_lt h2)⟩
    · exact f.cells x c (hclo x c h)
  · have : ∀ l : List (Str × Addr), (l.map (·.1)).Nodup → (∀ x c, (x, c) ∈ l → (x, c) ∈ env.cells) → l.Pairwise fun x y => x.2 ≠ y.2 := by
      intro l
      induction l with
      | nil => intro _ _; exact .nil
      | cons p r ih =>
        intro hn hm
        obtain ⟨n, c⟩ := p
        obtain ⟨h1, h2⟩ := List.nodup_cons.mp hn
        refine List.pairwise_cons.mpr ⟨fun y hy e => ?_, ih h2 fun x c h => hm x c (.tail _ h)⟩
        obtain ⟨n', c'⟩ := y
        have e' : c = c' := e
        subst e'
        have := name_of_addr f.apart (hm n c (.head _)) (hm n' c (.tail _ hy))
        subst this
        exact h1 (List.mem_map.mpr ⟨(n, c), hy, rfl⟩)
    show (cCells env scope C).Pairwise _
    unfold cCells
    rw [cellsFrom_app]
    refine List.pairwise_append.mpr ⟨hap, this _ hcn hclo, fun a ha b hb e => ?_⟩
    obtain ⟨n, c⟩ := a
    obtain ⟨n', c'⟩ := b
    have h1 := (hnew n c ha).2
    have h2 := hold n' c' (hclo n' c' hb)
    have e' : c = c' := e
    subst e'
    exact Nat.lt_asymm h1 h2

theorem newCompEnv {scope : Scope} {cl : List (Str × Addr)} {Q : Env → Shared → Prop}
    (hQ : ∀ h', h'.Ns s.heap.objs.size (fun _ => none) → (∀ b o, s.heap.get? b = some o → h'.get? b = some o) → (∀ x c, (x, c) ∈ cellsFrom (s.heap.objs.size + 1) scope.names [] → h'.IsCell c none ∧ s.heap.objs.size < c) →
      ((cellsFrom (s.heap.objs.size + 1) scope.names []).Pairwise fun x y => x.2 ≠ y.2) →
      Q { scope := scope, locals := s.heap.objs.size, globals := env.globals, cells := cellsFrom (s.heap.objs.size + 1) scope.names cl, qual := env.qual, func := none, code := env.code, frame := env.frame, builtins := env.builtins } { s with heap := h' }) :
    wpAny (model prog w) A (newFunctionEnv scope env.globals cl [] env.qual none .none (some env)) Q NoE s := by
  simp only [newFunctionEnv, Option.isSome_some, if_true]
  refine wpAny_bind (wpAny_alloc ?_)
  refine wpAny_bind (wpAny_layCells _ (fun name kind cells => by cases hkc : kind == NameKind.cell <;> simp [hkc]) _ _ _ _ ?_)
  have ok := cellsFrom_ok scope.names (s.heap.push { cls := .type "dict", data := .dict #[] }) (s.heap.objs.size + 1) [] ⟨fun _ _ hm => (nomatch hm), List.Pairwise.nil⟩ (by rw [Heap.size_push]; exact Nat.le_refl _)
  rw [Heap.size_push] at ok
  rw [show ({ s with heap := s.heap.push { cls := .type "dict", data := .dict #[] } } : Shared).heap.objs.size = s.heap.objs.size + 1 from Heap.size_push ..]
  refine wpAny_bind (wpAny_pure (wpAny_pure (hQ _ ((Heap.Ns.new s.heap (.type "dict")).keeps (pushCells_keeps _ _)) (fun b o e => pushCells_keeps _ _ b o (Heap.get?_push_of_some _ e)) (fun x c hc => ?_) ok.apart)))
  exact ⟨(ok.empty x c hc).1, (ok.empty x c hc).2⟩
end
end Mine
-- F15
namespace Mine
section
variable {prog : Program} {w : World} {s₀ : Shared} {k : Nat} {env cenv : Env} {loc cl : Loc} {mem M : Mem}
  {A : Around} {s : Shared} {ρ ρ' : List Addr} {h h' : Heap} {K : Frag}

theorem Ext.aside1 {F : List Addr} {s' : Shared} {h' : Heap} {c : Addr} {t : Nat} (x : Ext F ρ s ρ' s') (hc : s.heap.get? c = none) (hk : ∀ b o, b ≠ c → s'.heap.get? b = some o → h'.get? b = some o) : Ext F ρ s ρ' { s' with heap := h', toks := t } := by
  have ne : ∀ b o, s.heap.get? b = some o → b ≠ c := fun b o eb hb => by rw [hb, hc] at eb; cases eb
  refine ⟨x.pre, x.new, fun b hb => ?_, fun b o eb n f => hk b o (ne b o eb) (x.keep b o eb n f), fun b o eb ht => hk b o (ne b o eb) (x.tup b o eb ht)⟩
  obtain ⟨o1, e1⟩ := Option.isSome_iff_exists.mp hb
  obtain ⟨o2, e2⟩ := Option.isSome_iff_exists.mp (x.alive b hb)
  rw [hk b o2 (ne b o1 e1) e2]; rfl

theorem SrcIn.app {src : Src} {ds : List PyData} {m l : Mem} (h : SrcIn m src ds) : SrcIn (m ++ l) src ds := by
  cases src with
  | list j =>
    show (m ++ l)[j]? = _
    rw [List.getElem?_append_left (List.getElem?_eq_some_iff.mp h).1]; exact h
  | str x => exact h
  | range a n => exact h

noncomputable def CompTurn (elt : Expr) (gens : List Comprehension) (scope : Scope) (pos : Pos) (depth : Nat) (target iter : Expr) (ifs : List Expr) (mid : Addr → Env → Sem Unit) : Prop :=
  ∀ (it aacc : Addr) (cenv : Env), compTurn (.ListComp elt gens scope pos) depth (.ref it) (.ref aacc) cenv = (standAt iter.pos >>= fun _ => pyNext (.ref it) >>= fun r => match r with
      | none => pure (.done .next)
      | some v => letOwnedTupleGo target (.ref it) v >>= fun _ => assign target cenv v >>= fun _ => tests ifs cenv >>= fun ok => (if ok = true then mid aacc cenv else pure ()) >>= fun _ => again (.compLoop (.ListComp elt gens scope pos) depth (.ref it) (.ref aacc) cenv))

noncomputable abbrev cEnv (env : Env) (scope : Scope) (C : Addr) : Env := compEnvC scope (cCells env scope C) C env

theorem comp_core {elt : Expr} {gens gs : List Comprehension} {scope : Scope} {pos : Pos} {target iter : Expr} {ifs : List Expr} {mid : Addr → Env → Sem Unit} (hgens : gens = ⟨target, iter, ifs, 0⟩ :: gs)
    (ht : CompTurn elt gens scope pos 0 target iter ifs mid) (ok : CompOk env scope) {a : AV} {a' : Value} {src : Src} {ds : List PyData} {gf : PyData → List PyData} (hA : Room k A)
    (R : Rep s₀ env ρ loc mem s) (ra : RepV ρ s.heap a a') (hit : IterOk mem a src ds)
    (hturn : ∀ (C aacc : Addr) (d : PyData) (o : List PyData), d ∈ ds → o.length + (gf d).length ≤ (ds.flatMap gf).length →
      AssL (cEnv env scope C) target d (cloLoc loc scope.names) fun cl' => MidW prog w s₀ k (cEnv env scope C) cl' aacc mem.length ifs (mid aacc (cEnv env scope C)) (mem ++ [.list o]) (mem ++ [.list (o ++ gf d)]))
    {RR : Value → Addr → Result → Shared → Prop}
    (hR : ∀ (D C : Addr) (ρ2 : List Addr) (s2 : Shared), ρ2[mem.length]? = some D → Rep s₀ env ρ2 loc (mem ++ [.list (ds.flatMap gf)]) s2 → Ext [] ρ s ρ2 s2 → (∃ m, s2.heap.Ns C m) → s.heap.get? C = none → C ∉ ρ2 → C ∉ own env → s₀.heap.objs.size ≤ C →
      RR (.ref D) C (.ok .next) s2) :
    wpAny (model prog w) A (pyIter a') (fun it s₂ => wpAny (model prog w) A (newList []) (fun acc s₃ =>
      wpAny (model prog w) A (newFunctionEnv scope env.globals (cloFrom env scope.names []) [] env.qual none .none (some env)) (fun cenv s₄ =>
        codeAny (model prog w) A (.compStart (.ListComp elt gens scope pos) 0 it acc { cenv with scope := relabel scope env }) (RR acc cenv.locals) s₄) NoE s₃) NoE s₂) NoE s := by
  refine iter_ok hit ra R fun it s2 L st => ?_
  refine wpAny_newObj_type ?_ (by show (0 : Nat) ≤ sizeLine; omega)
  -- the list that is filled
  have R3 : Rep s₀ env (ρ ++ [s2.heap.objs.size]) loc (mem ++ [.list []]) { s2 with heap := s2.heap.push { cls := .type "list", data := .seq ([] : List Value).toArray } } :=
    L.rep.push (t := s2.toks) (o := .list []) rfl (repO_newList rfl .nil)
  obtain ⟨oit, eit, _⟩ := st.obj
  have hDfresh : s.heap.get? s2.heap.objs.size = none := L.ext.old (get_none (Nat.le_refl _))
  generalize hD : s2.heap.objs.size = D at R3 hDfresh ⊢
  generalize hs3 : ({ s2 with heap := s2.heap.push { cls := .type "list", data := .seq ([] : List Value).toArray } } : Shared) = s3 at R3 ⊢
  have k3 : ∀ b o, s2.heap.get? b = some o → s3.heap.get? b = some o := fun b o e => by rw [← hs3]; exact Heap.get?_push_of_some _ e
  refine newCompEnv fun h1 hn k4 hnew hap => ?_
  have hCfresh3 : s3.heap.get? s3.heap.objs.size = none := get_none (Nat.le_refl _)
  have hClo : s₀.heap.objs.size ≤ s3.heap.objs.size := size0_le R3.keep0 R3
  have hCρ : s3.heap.objs.size ∉ ρ ++ [D] := R3.fresh
  have hCall : ∀ b, s3.heap.objs.size ≤ b → s2.heap.get? b = none := fun b hb => by
    cases e : s2.heap.get? b with
    | none => rfl
    | some o => have := k3 _ o e; rw [get_none hb] at this; cases this
  have hCs2 := hCall _ (Nat.le_refl _)
  have hCs : s.heap.get? s3.heap.objs.size = none := L.ext.old hCs2
  have hold : ∀ x c, (x, c) ∈ env.cells → c < s3.heap.objs.size := fun x c hc => by
    obtain ⟨⟨v, o, e, _⟩, _⟩ := R3.fr.cells x c hc
    exact Heap.lt_size e
  generalize hC : s3.heap.objs.size = C at hn hnew hap hCfresh3 hClo hCρ hCall hCs2 hCs hold ⊢
  have R4 : Rep s₀ env (ρ ++ [D]) loc (mem ++ [.list []]) { s3 with heap := h1 } := R3.keeps (t := s3.toks) k4
  generalize hs4 : ({ s3 with heap := h1 } : Shared) = s4 at R4 ⊢
  have hn4 : s4.heap.Ns C fun _ => none := by rw [← hs4]; exact hn
  have hnew4 : ∀ x c, (x, c) ∈ cellsFrom (C + 1) scope.names [] → s4.heap.IsCell c none ∧ C < c := by rw [← hs4]; exact hnew
  have kk : ∀ b o, s2.heap.get? b = some o → s4.heap.get? b = some o := fun b o e => by rw [← hs4]; exact k4 b o (k3 b o e)
  have R5 := R4.comp ok hn4 hCρ hClo hnew4 hap hold
  have hitC : it ≠ C := by rintro rfl; rw [eit] at hCs2; cases hCs2
  have hCown : C ∉ own env := fun hm => by obtain ⟨o, e⟩ := own_alive R hm; rw [hCs] at e; cases e
  have cellsub : ∀ x c, (x, c) ∈ cloFrom env scope.names [] → (x, c) ∈ env.cells := by
    intro x c hc
    rcases mem_cloFrom hc with h | ⟨hm, rfl⟩
    · cases h
    · obtain ⟨⟨c0, hc0⟩, _⟩ := ok.of_free hm
      rw [hc0]; exact mem_of_lookup hc0
  have hitD : it ≠ D := by rintro rfl; exact absurd (Heap.lt_size eit) (by rw [hD]; exact Nat.lt_irrefl _)
  have st5 : ItSt (ρ ++ [D]) s4.heap it src 0 := st.move (List.prefix_append _ _) fun o e => kk _ o e
  have itbelow : it < C := by
    rcases Nat.lt_or_ge it C with h | h
    · exact h
    · rw [hCall it h] at eit; cases eit
  have itown' : it ∉ own (cEnv env scope C) := by
    intro hm
    rcases List.mem_cons.mp hm with e | hm
    · exact hitC e
    · obtain ⟨⟨n, c⟩, hc, rfl⟩ := List.mem_map.mp hm
      have hc' : (n, c) ∈ cellsFrom (C + 1) scope.names [] ++ cloFrom env scope.names [] := by rw [← cellsFrom_app]; exact hc
      rcases List.mem_append.mp hc' with h | h
      · have := (hnew4 n c h).2
        exact Nat.lt_asymm this itbelow
      · exact L.itown (.tail _ (List.mem_map.mpr ⟨_, cellsub n c h, rfl⟩))
  have L5 : Loop (fp (cEnv env scope C)) s₀ (cEnv env scope C) (ρ ++ [D]) s it (ρ ++ [D]) (cloLoc loc scope.names) (mem ++ [.list []]) s4 := by
    refine ⟨R5, List.prefix_refl _, fun a ha => .inl ha, fun b hb => alive_of kk b (L.alive b hb), fun b o e hb _ => kk b o ?_, fun b o e ht => kk b o (L.tup b o e ht), L.it0, ?_, L.itlo, itown', fun hm => itown' (fp_own hm)⟩
    · exact L.keep b o e (fun hm => hb (List.mem_append_left _ hm)) fun h => nomatch h
    · intro hm
      rcases List.mem_append.mp hm with hm | hm
      · exact L.itρ hm
      · simp at hm; exact hitD hm
  have hset : ∀ o : List PyData, (mem ++ [AO.list []]).set mem.length (.list o) = mem ++ [.list o] := fun o => by simp
  have hacc : (ρ ++ [D])[mem.length]? = some D := by rw [← R.len]; simp
  have loop : codeAny (model prog w) A (.compLoop (.ListComp elt gens scope pos) 0 (.ref it) (.ref D) (cEnv env scope C)) (RR (.ref D) C) s4 := by
    refine compLoop_ok (ht it D _) rfl rfl rfl (M := mem ++ [.list []]) (j := mem.length) (o0 := []) (ds := ds) (gf := gf) hA hacc (fun d hd o ho => ?_) (fun o => ?_) (by rw [hset]; exact L5) st5 fun ρ2 s2' R2 x2 => ?_
    · simp only [hset]
      exact hturn C D d o hd (by simpa using ho)
    · rw [hset]; exact hit.src.app
    · rw [hset, List.nil_append] at R2
      have x3 : Ext [] ρ s ρ2 s2' := by
        refine ⟨(List.prefix_append _ _).trans x2.pre, fun a ha => ?_, x2.alive, fun b o e hb _ => x2.keep b o e (fun hm => ?_) (fun hm => ?_), x2.tup⟩
        · rcases x2.new a ha with h | h
          · rcases List.mem_append.mp h with h | h
            · exact .inl h
            · simp at h; subst h; exact .inr hDfresh
          · exact .inr h
        · rcases List.mem_append.mp hm with h | h
          · exact hb h
          · simp at h; subst h; rw [hDfresh] at e; cases e
        · have hb : C ≤ b := fp_le hm
          rw [L.ext.old (hCall b hb)] at e; cases e
      obtain ⟨mm, hnn, _⟩ := R2.fr.ns
      exact hR D C ρ2 s2' (prefix_get x2.pre hacc) (R.back R2 x3 (fun _ h => nomatch h)) x3 ⟨mm, hnn⟩ hCs R2.fr.lfree hCown hClo
  subst hgens
  exact compStart_ok (g := ⟨target, iter, ifs, 0⟩) rfl rfl loop (self_ok st5 loop)
end
end Mine
-- F16
namespace Mine

noncomputable def inner (elt : Expr) (gens : List Comprehension) (scope : Scope) (pos : Pos) (i2 : Expr) (aacc : Addr) (cenv : Env) : Sem Unit :=
  eval i2 cenv >>= fun x => standAt i2.pos >>= fun _ => foldedSetIterable i2 cenv x >>= fun x => holding [x] (pyIter x) >>= fun it => runOwn (.compStart (.ListComp elt gens scope pos) 1 it (.ref aacc) cenv) cenv >>= fun _ => pure ()

theorem jp_eq {α : Type} {mid : Sem Unit} {f : Unit → Sem α} (ok : Bool) : (if ok = true then mid >>= f else f ()) = ((if ok = true then mid else pure ()) >>= f) := by
  cases ok
  · exact (pure_bind () f).symm
  · rfl
theorem ct_of {elt : Expr} {gens : List Comprehension} {scope : Scope} {pos : Pos} {depth : Nat} {target iter : Expr} {ifs : List Expr} {mid : Addr → Env → Sem Unit}
    (h : ∀ (it aacc : Addr) (cenv : Env), compTurn (.ListComp elt gens scope pos) depth (.ref it) (.ref aacc) cenv = (standAt iter.pos >>= fun _ => pyNext (.ref it) >>= fun r => match r with
      | none => pure (.done .next)
      | some v => letOwnedTupleGo target (.ref it) v >>= fun _ => assign target cenv v >>= fun _ => tests ifs cenv >>= fun ok =>
        if ok = true then mid aacc cenv >>= fun _ => again (.compLoop (.ListComp elt gens scope pos) depth (.ref it) (.ref aacc) cenv) else again (.compLoop (.ListComp elt gens scope pos) depth (.ref it) (.ref aacc) cenv))) :
    CompTurn elt gens scope pos depth target iter ifs mid := by
  intro it aacc cenv
  rw [h]
  refine bind_congr fun _ => bind_congr fun r => ?_
  cases r with
  | none => rfl
  | some v => exact bind_congr fun _ => bind_congr fun _ => bind_congr fun ok => jp_eq (f := fun _ => again (.compLoop (.ListComp elt gens scope pos) depth (.ref it) (.ref aacc) cenv)) ok

theorem ct1 {elt target iter : Expr} {ifs : List Expr} {scope : Scope} {pos : Pos} : CompTurn elt [⟨target, iter, ifs, 0⟩] scope pos 0 target iter ifs fun aacc cenv => emit elt (.ref aacc) cenv := ct_of fun _ _ _ => rfl
theorem ct2a {elt t1 i1 t2 i2 : Expr} {ifs1 ifs2 : List Expr} {scope : Scope} {pos : Pos} :
    CompTurn elt [⟨t1, i1, ifs1, 0⟩, ⟨t2, i2, ifs2, 0⟩] scope pos 0 t1 i1 ifs1 fun aacc cenv => inner elt [⟨t1, i1, ifs1, 0⟩, ⟨t2, i2, ifs2, 0⟩] scope pos i2 aacc cenv := by
  refine ct_of fun it aacc cenv => ?_
  have e : compTurn (.ListComp elt [⟨t1, i1, ifs1, 0⟩, ⟨t2, i2, ifs2, 0⟩] scope pos) 0 (.ref it) (.ref aacc) cenv = (standAt i1.pos >>= fun _ => pyNext (.ref it) >>= fun r => match r with
      | none => pure (.done .next)
      | some v => letOwnedTupleGo t1 (.ref it) v >>= fun _ => assign t1 cenv v >>= fun _ => tests ifs1 cenv >>= fun ok =>
        if ok = true then eval i2 cenv >>= fun x => standAt i2.pos >>= fun _ => foldedSetIterable i2 cenv x >>= fun x => holding [x] (pyIter x) >>= fun it2 =>
          runOwn (.compStart (.ListComp elt [⟨t1, i1, ifs1, 0⟩, ⟨t2, i2, ifs2, 0⟩] scope pos) 1 it2 (.ref aacc) cenv) cenv >>= fun _ => again (.compLoop (.ListComp elt [⟨t1, i1, ifs1, 0⟩, ⟨t2, i2, ifs2, 0⟩] scope pos) 0 (.ref it) (.ref aacc) cenv)
        else again (.compLoop (.ListComp elt [⟨t1, i1, ifs1, 0⟩, ⟨t2, i2, ifs2, 0⟩] scope pos) 0 (.ref it) (.ref aacc) cenv)) := rfl
  rw [e]
  refine bind_congr fun _ => bind_congr fun r => ?_
  cases r with
  | none => rfl
  | some v =>
    refine bind_congr fun _ => bind_congr fun _ => bind_congr fun ok => ?_
    cases ok with
    | false => rfl
    | true =>
      rw [if_pos rfl, if_pos rfl]
      unfold inner
      simp only [bind_assoc, pure_bind]
theorem ct2b {elt t1 i1 t2 i2 : Expr} {ifs1 ifs2 : List Expr} {scope : Scope} {pos : Pos} :
    CompTurn elt [⟨t1, i1, ifs1, 0⟩, ⟨t2, i2, ifs2, 0⟩] scope pos 1 t2 i2 ifs2 fun aacc cenv => emit elt (.ref aacc) cenv := ct_of fun _ _ _ => rfl

section
variable {prog : Program} {w : World} {s₀ : Shared} {k : Nat} {env cenv : Env} {loc cl : Loc} {mem M : Mem} {Q : AV → Mem → Prop}
  {A : Around} {s : Shared} {ρ ρ' : List Addr} {h h' : Heap} {K : Frag}

theorem closure_of {scope : Scope} (ok : CompOk env scope) : closureFor scope env = pure (cloFrom env scope.names []) :=
  closure_ok fun x hx hf => by
    obtain ⟨n, kd⟩ := x
    cases hf
    obtain ⟨⟨c, hc⟩, _⟩ := ok.of_free hx
    rw [hc]; rfl
theorem names_of {scope : Scope} (ok : CompOk env scope) : ∀ x ∈ scope.names, x.2 = .local → scope.names.lookup x.1 = some .local := by
  rintro ⟨n, kd⟩ hx hl
  cases hl
  exact lookup_of_mem ok.nd hx

set_option maxHeartbeats 1000000 in
theorem we_compG {elt : Expr} {gens gs : List Comprehension} {scope : Scope} {pos : Pos} {target iter : Expr} {ifs : List Expr} {mid : Addr → Env → Sem Unit} (hgens : gens = ⟨target, iter, ifs, 0⟩ :: gs)
    (ht : CompTurn elt gens scope pos 0 target iter ifs mid) (ok : CompOk env scope)
    (h : WE prog w s₀ k env loc iter mem fun a m => ∃ src ds, ∃ gf : PyData → List PyData, IterOk m a src ds ∧
      (∀ (C aacc : Addr) (d : PyData) (o : List PyData), d ∈ ds → o.length + (gf d).length ≤ (ds.flatMap gf).length →
        AssL (cEnv env scope C) target d (cloLoc loc scope.names) fun cl' => MidW prog w s₀ k (cEnv env scope C) cl' aacc m.length ifs (mid aacc (cEnv env scope C)) (m ++ [.list o]) (m ++ [.list (o ++ gf d)])) ∧
      Q (.ref m.length) (m ++ [.list (ds.flatMap gf)]))
    (hs : ∀ x, foldedSetIterable iter env x = pure x) : WE prog w s₀ k env loc (.ListComp elt gens scope pos) mem Q := by
  intro A s ρ hA R
  rw [eval_ListComp]
  subst hgens
  refine wpAny_comprehension_free (use := none) rfl hs (closure_of ok) ok.kind (names_of ok) (wpAny_mono (h A s ρ hA R) ?_ fun _ _ x => x)
  rintro a' s1 ⟨a, m, ρ1, ⟨src, ds, gf, hit, hturn, q⟩, ra, R1, x1⟩
  refine comp_core (RR := fun acc C => compPost (model prog w) A NoE none (PostV s₀ env ρ loc s Q) acc C) rfl ht ok hA R1 ra hit hturn ?_
  rintro D C ρ2 s2 hD R2 x2 ⟨mm, hn⟩ hC hCρ hCown hClo
  refine ⟨mm, hn, fun h' hsb => ?_⟩
  obtain ⟨o, es, ep, e, ed, _⟩ := hn
  have hk : ∀ b ob, b ≠ C → s2.heap.get? b = some ob → h'.get? b = some ob := fun b ob hb eb => (hsb.2 b hb).trans eb
  exact ⟨_, _, ρ2, q, ⟨D, hD, rfl⟩, R2.aside (t := s2.toks) hCρ hClo hk e (not_tup_dict ed) hCown, x1.trans (x2.aside1 (t := s2.toks) hC hk)⟩

set_option maxHeartbeats 1000000 in
theorem wx_compG {x : Str} {px spos : Pos} {elt : Expr} {gens gs : List Comprehension} {scope : Scope} {pos : Pos} {target iter : Expr} {ifs : List Expr} {mid : Addr → Env → Sem Unit} (hgens : gens = ⟨target, iter, ifs, 0⟩ :: gs)
    (ht : CompTurn elt gens scope pos 0 target iter ifs mid) (ok : CompOk env scope) {Q : AFlow → Loc → Mem → Prop}
    (h : WE prog w s₀ k env loc iter mem fun a m => ∃ src ds, ∃ gf : PyData → List PyData, IterOk m a src ds ∧
      (∀ (C aacc : Addr) (d : PyData) (o : List PyData), d ∈ ds → o.length + (gf d).length ≤ (ds.flatMap gf).length →
        AssL (cEnv env scope C) target d (cloLoc loc scope.names) fun cl' => MidW prog w s₀ k (cEnv env scope C) cl' aacc m.length ifs (mid aacc (cEnv env scope C)) (m ++ [.list o]) (m ++ [.list (o ++ gf d)])) ∧
      Q .next (setL loc x (.ref m.length)) (m ++ [.list (ds.flatMap gf)]))
    (hx : Storable env x)
    (hsw : swapsWith (.ListComp elt gens scope pos) (some (.Name x px)) spos.line env = pure true)
    (hs : ∀ x, foldedSetIterable iter env x = pure x) : WX prog w s₀ k env loc (.Assign [.Name x px] (.ListComp elt gens scope pos) spos) mem Q := by
  intro A s ρ hA R
  subst hgens
  rw [exec_Assign_Name_used _ _ _ _ hsw]
  refine wpAny_bind (wpAny_standAt (wpAny_bind ?_))
  show wpAny _ A (do let _ ← comprehension (.ListComp elt (⟨target, iter, ifs, 0⟩ :: gs) scope pos) scope env _ (newList []) false (eval iter env) (some (assign (.Name x px) env))) _ _ s
  refine wpAny_bind (wpAny_mono (wpAny_comprehension_free (use := some (assign (.Name x px) env)) (Q := fun _ s' => PostX s₀ env ρ s Q .next s') rfl hs (closure_of ok) ok.kind (names_of ok)
    (wpAny_mono (h A s ρ hA R) ?_ fun _ _ x => x)) (fun _ s' hq => wpAny_pure (wpAny_pure hq)) fun _ _ e => e)
  rintro a' s1 ⟨a, m, ρ1, ⟨src, ds, gf, hit, hturn, q⟩, ra, R1, x1⟩
  refine comp_core (RR := fun acc C => compPost (model prog w) A NoE (some (assign (.Name x px) env)) (fun _ s' => PostX s₀ env ρ s Q .next s') acc C) rfl ht ok hA R1 ra hit hturn ?_
  rintro D C ρ2 s2 hD R2 x2 ⟨mm, hn⟩ hC hCρ hCown hClo
  show wpAny _ A (assign (.Name x px) env (.ref D)) _ _ s2
  refine PySem.wpAny_assign_Name (R2.store (v := .ref m.length) ⟨D, hD, rfl⟩ hx fun s3 R3 x3 => ?_)
  obtain ⟨o, es, ep, e, ed, er⟩ := hn
  have e3 := x3.keep C o e hCρ hCown
  refine ⟨mm, ⟨o, es, ep, e3, ed, er⟩, fun h' hsb => ?_⟩
  have hk : ∀ b ob, b ≠ C → s3.heap.get? b = some ob → h'.get? b = some ob := fun b ob hb eb => (hsb.2 b hb).trans eb
  exact ⟨.next, _, _, ρ2, q, rfl, R3.aside (t := s3.toks) hCρ hClo hk e3 (not_tup_dict ed) hCown, x1.nil.trans ((x2.nil.trans x3).aside1 (t := s3.toks) hC hk)⟩
end
end Mine
-- F17
namespace Mine
section
variable {prog : Program} {w : World} {s₀ : Shared} {k : Nat} {env cenv : Env} {loc cl : Loc} {mem M : Mem} {Q : AV → Mem → Prop}
  {A : Around} {s : Shared} {ρ ρ' : List Addr} {h h' : Heap} {K : Frag}

theorem flatMap_one (f : PyData → PyData) : ∀ ds : List PyData, ds.flatMap (fun d => [f d]) = ds.map f
  | [] => rfl
  | d :: ds => by rw [List.flatMap_cons, flatMap_one f ds]; rfl
theorem flatMap_if (p : PyData → Bool) (f : PyData → PyData) : ∀ ds : List PyData, ds.flatMap (fun d => if p d then [f d] else []) = (ds.filter p).map f
  | [] => rfl
  | d :: ds => by
    rw [List.flatMap_cons, flatMap_if p f ds, List.filter_cons]
    split <;> simp
theorem AssL.mono {t : Expr} {d : PyData} {P P' : Loc → Prop} (h : AssL env t d loc P) (hp : ∀ l, P l → P' l) : AssL env t d loc P' := by
  rcases h.elim with ⟨x, p, rfl, hx, lx, q⟩ | ⟨x, px, y, py, kk, pos, d, e, rfl, rfl, hx, hy, lx, ly, q⟩
  · exact ⟨hx, lx, hp _ q⟩
  · exact ⟨hx, hy, lx, ly, hp _ q⟩

noncomputable def CompBody (prog : Program) (w : World) (s₀ : Shared) (k : Nat) (env : Env) (loc : Loc) (scope : Scope) (target : Expr) (ifs : List Expr) (mid : Addr → Env → Sem Unit) (m : Mem) (ds : List PyData) (gf : PyData → List PyData) : Prop :=
  ∀ (C aacc : Addr) (d : PyData) (o : List PyData), d ∈ ds → o.length + (gf d).length ≤ (ds.flatMap gf).length →
        AssL (cEnv env scope C) target d (cloLoc loc scope.names) fun cl' => MidW prog w s₀ k (cEnv env scope C) cl' aacc m.length ifs (mid aacc (cEnv env scope C)) (m ++ [.list o]) (m ++ [.list (o ++ gf d)])

noncomputable abbrev emits (elt : Expr) : Addr → Env → Sem Unit := fun aacc cenv => emit elt (.ref aacc) cenv

theorem cb0 {elt target : Expr} {scope : Scope} {m : Mem} {ds : List PyData} (f : PyData → PyData) (hl : ds.length ≤ sizeLine)
    (h : ∀ (C : Addr) (d : PyData) (o : List PyData), d ∈ ds → AssL (cEnv env scope C) target d (cloLoc loc scope.names) fun cl' => WE prog w s₀ k (cEnv env scope C) cl' elt (m ++ [.list o]) fun v m' => m' = m ++ [.list o] ∧ v = .dat (f d)) :
    CompBody prog w s₀ k env loc scope target [] (emits elt) m ds fun d => [f d] := by
  intro C aacc d o hd ho
  refine (h C d o hd).mono fun cl' q => ?_
  have hset : ∀ o : List PyData, (m ++ [AO.list []]).set m.length (.list o) = m ++ [.list o] := fun o => by simp
  have key := mid_emit0 (prog := prog) (w := w) (s₀ := s₀) (k := k) (cenv := cEnv env scope C) (cl := cl') (M := m ++ [.list []]) (elt := elt) (aacc := aacc) (j := m.length) (o := o) (out := [f d]) (by simp)
    (by rw [flatMap_one, List.length_map] at ho; have := Nat.le_trans (Nat.le_add_right _ _) ho; omega)
    (by rw [hset]; exact WV.mono q fun v m' q => ⟨q.1, _, q.2, rfl⟩)
  rw [hset, hset] at key
  exact key

theorem cb1 {elt c target : Expr} {scope : Scope} {m : Mem} {ds : List PyData} (p : PyData → Bool) (f : PyData → PyData) (hl : ds.length ≤ sizeLine)
    (h : ∀ (C : Addr) (d : PyData) (o : List PyData), d ∈ ds → AssL (cEnv env scope C) target d (cloLoc loc scope.names) fun cl' => WT prog w s₀ k (cEnv env scope C) cl' c (m ++ [.list o]) fun b m' => m' = m ++ [.list o] ∧ b = p d ∧ (b = true → WE prog w s₀ k (cEnv env scope C) cl' elt (m ++ [.list o]) fun v m' => m' = m ++ [.list o] ∧ v = .dat (f d))) :
    CompBody prog w s₀ k env loc scope target [c] (emits elt) m ds fun d => if p d then [f d] else [] := by
  intro C aacc d o hd ho
  refine (h C d o hd).mono fun cl' q => ?_
  have hset : ∀ o : List PyData, (m ++ [AO.list []]).set m.length (.list o) = m ++ [.list o] := fun o => by simp
  have hlen : (ds.flatMap fun d => if p d then [f d] else []).length ≤ ds.length := by
    rw [flatMap_if, List.length_map]; exact List.length_filter_le _ _
  have key := mid_emit1 (prog := prog) (w := w) (s₀ := s₀) (k := k) (cenv := cEnv env scope C) (cl := cl') (M := m ++ [.list []]) (c := c) (elt := elt) (aacc := aacc) (j := m.length) (o := o) (out := if p d then [f d] else []) (by simp)
    (by omega)
    (by
      rw [hset]
      intro A s ρ hA R
      refine wpAny_mono (q A s ρ hA R) ?_ fun _ _ x => x
      rintro b s1 ⟨m1, ρ1, ⟨rfl, hb, q1⟩, R1, x1⟩
      refine ⟨_, ρ1, ⟨rfl, ?_⟩, R1, x1⟩
      subst hb
      split
      · exact WV.mono (q1 (by assumption)) fun v m' q => ⟨q.1, _, q.2, rfl⟩
      · rfl)
  rw [hset, hset] at key
  exact key

theorem we_comp {elt target iter : Expr} {ifs : List Expr} {scope : Scope} {pos : Pos} (ok : CompOk env scope)
    (h : WE prog w s₀ k env loc iter mem fun a m => ∃ src ds, ∃ gf : PyData → List PyData, IterOk m a src ds ∧ CompBody prog w s₀ k env loc scope target ifs (emits elt) m ds gf ∧ Q (.ref m.length) (m ++ [.list (ds.flatMap gf)]))
    (hs : ∀ x, foldedSetIterable iter env x = pure x) : WE prog w s₀ k env loc (.ListComp elt [⟨target, iter, ifs, 0⟩] scope pos) mem Q :=
  we_compG rfl ct1 ok h hs
theorem wx_comp {x : Str} {px spos : Pos} {elt target iter : Expr} {ifs : List Expr} {scope : Scope} {pos : Pos} {Q : AFlow → Loc → Mem → Prop} (ok : CompOk env scope)
    (h : WE prog w s₀ k env loc iter mem fun a m => ∃ src ds, ∃ gf : PyData → List PyData, IterOk m a src ds ∧ CompBody prog w s₀ k env loc scope target ifs (emits elt) m ds gf ∧ Q .next (setL loc x (.ref m.length)) (m ++ [.list (ds.flatMap gf)]))
    (hx : Storable env x)
    (hsw : swapsWith (.ListComp elt [⟨target, iter, ifs, 0⟩] scope pos) (some (.Name x px)) spos.line env = pure true)
    (hs : ∀ x, foldedSetIterable iter env x = pure x) : WX prog w s₀ k env loc (.Assign [.Name x px] (.ListComp elt [⟨target, iter, ifs, 0⟩] scope pos) spos) mem Q :=
  wx_compG rfl ct1 ok h hx hsw hs

theorem closedM_set {j : Nat} {o o' : List PyData} (h : ClosedM (M.set j (.list o))) : ClosedM (M.set j (.list o')) := by
  intro i ob e
  rw [List.getElem?_set] at e
  split at e
  · split at e
    · cases e; trivial
    · cases e
  · rename_i hne
    have := h i ob (by rw [List.getElem?_set, if_neg hne]; exact e)
    simpa using this

set_option maxHeartbeats 1000000 in
theorem mid_inner {elt t1 i1 t2 i2 : Expr} {ifs2 : List Expr} {scope : Scope} {pos : Pos} {aacc : Addr} {j : Nat} {o out : List PyData} (hM : j < M.length)
    (h : WE prog w s₀ k cenv cl i2 (M.set j (.list o)) fun a m => ∃ jk src ds, ∃ gf : PyData → List PyData, m = M.set j (.list o) ++ jk ∧ IterOk m a src ds ∧ (∀ o', SrcIn (M.set j (.list o') ++ jk) src ds) ∧ out = ds.flatMap gf ∧
      ∀ d ∈ ds, ∀ o' : List PyData, o'.length + (gf d).length ≤ o.length + out.length → AssL cenv t2 d cl fun cl' => MidW prog w s₀ k cenv cl' aacc j ifs2 (emits elt aacc cenv) (M.set j (.list o') ++ jk) (M.set j (.list (o' ++ gf d)) ++ jk))
    (hs : ∀ x, foldedSetIterable i2 cenv x = pure x) :
    MidW prog w s₀ k cenv cl aacc j [] (inner elt [⟨t1, i1, [], 0⟩, ⟨t2, i2, ifs2, 0⟩] scope pos i2 aacc cenv) (M.set j (.list o)) (M.set j (.list (o ++ out))) := by
  intro A s ρ hA R ha
  refine wpAny_bind (tests_nil ?_)
  rw [if_pos rfl]
  unfold inner
  refine WV.go h hA R ?_
  rintro a m ρ1 a' s1 ⟨jk, src, ds, gf, rfl, hit, hsrc, rfl, hturn⟩ ra R1 x1
  refine wpAny_bind (wpAny_standAt ?_)
  rw [hs, pure_bind]
  refine wpAny_bind (wpAny_holding (iter_ok hit ra R1 fun it s2 L st => ?_))
  refine wpAny_bind (wpAny_runOwn ?_)
  have L' : Loop (fp cenv) s₀ cenv ρ1 s1 it ρ1 cl ((M ++ jk).set j (.list o)) s2 := by
    rw [List.set_append_left _ _ hM]
    exact L.grow (fun hm => L.itown (fp_own hm))
  have loop : codeAny (model prog w) A (.compLoop (.ListComp elt [⟨t1, i1, [], 0⟩, ⟨t2, i2, ifs2, 0⟩] scope pos) 1 (.ref it) (.ref aacc) cenv) (fun r s' => match r with
      | .ok f => wpAny (model prog w) A (pure () : Sem Unit) (fun _ s2 => ∃ ρ2, Rep s₀ cenv ρ2 cl (M.set j (.list (o ++ ds.flatMap gf))) s2 ∧ Ext (fp cenv) ρ s ρ2 s2) NoE s'
      | .error e => cameBackBy (model prog w) A cenv NoE e s') s2 := by
    refine compLoop_ok (ct2b it aacc cenv) rfl rfl rfl (M := M ++ jk) (j := j) (o0 := o) (ds := ds) (gf := gf) hA (prefix_get x1.pre ha) (fun d hd o' ho => ?_) (fun o' => ?_) L' st fun ρ2 s3 R2 x2 => ?_
    · simp only [List.set_append_left _ _ hM]
      exact hturn d hd o' ho
    · rw [List.set_append_left _ _ hM]; exact hsrc o'
    · rw [List.set_append_left _ _ hM] at R2
      have hcl : ClosedL (M.set j (.list (o ++ ds.flatMap gf))).length cenv cl := by
        have := R.closedL
        simpa using this
      refine wpAny_pure ⟨ρ2.take _, R2.take (closedM_set R.closedM) hcl, ((x1.nil).trans x2).take ?_⟩
      rw [R.len]; simp
  exact compStart_ok (g := ⟨t2, i2, ifs2, 0⟩) rfl rfl loop (self_ok st loop)

theorem wx_comp2 {x : Str} {px spos : Pos} {elt t1 i1 t2 i2 : Expr} {ifs2 : List Expr} {scope : Scope} {pos : Pos} {Q : AFlow → Loc → Mem → Prop} (ok : CompOk env scope)
    (h : WE prog w s₀ k env loc i1 mem fun a m => ∃ src ds, ∃ gf : PyData → List PyData, IterOk m a src ds ∧ CompBody prog w s₀ k env loc scope t1 [] (inner elt [⟨t1, i1, [], 0⟩, ⟨t2, i2, ifs2, 0⟩] scope pos i2) m ds gf ∧ Q .next (setL loc x (.ref m.length)) (m ++ [.list (ds.flatMap gf)]))
    (hx : Storable env x)
    (hsw : swapsWith (.ListComp elt [⟨t1, i1, [], 0⟩, ⟨t2, i2, ifs2, 0⟩] scope pos) (some (.Name x px)) spos.line env = pure true)
    (hs : ∀ x, foldedSetIterable i1 env x = pure x) : WX prog w s₀ k env loc (.Assign [.Name x px] (.ListComp elt [⟨t1, i1, [], 0⟩, ⟨t2, i2, ifs2, 0⟩] scope pos) spos) mem Q :=
  wx_compG rfl ct2a ok h hx hsw hs

theorem cb2 {elt t1 i1 t2 i2 : Expr} {scope : Scope} {pos : Pos} {m : Mem} {ds : List PyData} (gf : PyData → List PyData) (hl : (ds.flatMap gf).length ≤ sizeLine)
    (h : ∀ (C : Addr) (d : PyData) (o : List PyData), d ∈ ds → AssL (cEnv env scope C) t1 d (cloLoc loc scope.names) fun cl => WE prog w s₀ k (cEnv env scope C) cl i2 (m ++ [.list o]) fun a m2 => ∃ jk src es, ∃ f : PyData → PyData, m2 = m ++ [.list o] ++ jk ∧ IterOk m2 a src es ∧ (∀ o', SrcIn (m ++ [.list o'] ++ jk) src es) ∧ gf d = es.map f ∧
      ∀ e ∈ es, ∀ o' : List PyData, AssL (cEnv env scope C) t2 e cl fun cl' => WE prog w s₀ k (cEnv env scope C) cl' elt (m ++ [.list o'] ++ jk) fun v m' => m' = m ++ [.list o'] ++ jk ∧ v = .dat (f e))
    (hs : ∀ C x, foldedSetIterable i2 (cEnv env scope C) x = pure x) :
    CompBody prog w s₀ k env loc scope t1 [] (inner elt [⟨t1, i1, [], 0⟩, ⟨t2, i2, [], 0⟩] scope pos i2) m ds gf := by
  intro C aacc d o hd ho
  refine (h C d o hd).mono fun cl' q => ?_
  have hset : ∀ o : List PyData, (m ++ [AO.list []]).set m.length (.list o) = m ++ [.list o] := fun o => by simp
  have key := mid_inner (prog := prog) (w := w) (s₀ := s₀) (k := k) (cenv := cEnv env scope C) (cl := cl') (M := m ++ [.list []]) (elt := elt) (t1 := t1) (i1 := i1) (t2 := t2) (i2 := i2) (ifs2 := []) (scope := scope) (pos := pos) (aacc := aacc) (j := m.length) (o := o) (out := gf d) (by simp)
    (by
      rw [hset]
      refine WV.mono q ?_
      rintro a m2 ⟨jk, src, es, f, rfl, hit, hsrc, hgf, hturn⟩
      refine ⟨jk, src, es, fun e => [f e], rfl, hit, fun o' => by rw [hset]; exact hsrc o', by rw [hgf, flatMap_one], fun e he o' ho' => ?_⟩
      refine (hturn e he o').mono fun cl2 q2 => ?_
      have hset2 : ∀ o : List PyData, (m ++ [AO.list []] ++ jk).set m.length (.list o) = m ++ [.list o] ++ jk := fun o => by simp
      have key := mid_emit0 (prog := prog) (w := w) (s₀ := s₀) (k := k) (cenv := cEnv env scope C) (cl := cl2) (M := m ++ [.list []] ++ jk) (elt := elt) (aacc := aacc) (j := m.length) (o := o') (out := [f e]) (by simp)
        (by have := Nat.le_trans (Nat.le_add_right _ _) ho'; omega)
        (by rw [hset2]; exact WV.mono q2 fun v m' q => ⟨q.1, _, q.2, rfl⟩)
      rw [hset2, hset2] at key
      rw [hset, hset]
      exact key) (hs C)
  rw [hset, hset] at key
  exact key
end
end Mine
-- S1
namespace Mine
open Builtin.Str StrLaws

theorem parts_len (x : Str) (cuts : List Nat) (wd : Nat) : (partsBetween x cuts wd).length = cuts.length + 1 := by
  simp [partsBetween]
theorem strSub_len (x : Str) (i j : Nat) : (strSub x i j).length ≤ x.length := by
  simp only [strSub, Str.length, Array.size_extract]; omega
theorem parts_le {x : Str} {cuts : List Nat} {wd : Nat} {p : Str} (hp : p ∈ partsBetween x cuts wd) : p.length ≤ x.length := by
  simp only [partsBetween, List.mem_map] at hp
  obtain ⟨⟨i, j⟩, _, rfl⟩ := hp
  exact strSub_len _ _ _
theorem split_parts (x y : Str) : (Txt.split x y).length ≤ x.length + 2 := by
  unfold Txt.split
  split
  · simp
  · split
    · simp
    · rw [parts_len]
      have := occ_length_le x y 0 x.length (x.length + 1)
      omega
theorem split_le {x y p : Str} (hp : p ∈ Txt.split x y) : p.length ≤ x.length := by
  unfold Txt.split at hp
  split at hp
  · simp at hp; subst hp; exact Nat.le_refl _
  · split at hp
    · simp at hp; subst hp; exact Nat.le_refl _
    · exact parts_le hp
theorem split_two {x y : Str} (hk : Builtin.Str.strKind y ≤ Builtin.Str.strKind x) (hc : Txt.contains x y = true) : 2 ≤ (Txt.split x y).length := by
  have h0 := (found_iff x y).mp hc
  obtain ⟨i, hi, hs⟩ := h0
  unfold Txt.split
  have h1 : (decide (x.length < y.length) || decide (Builtin.Str.strKind x < Builtin.Str.strKind y)) = false := by
    simp only [Bool.or_eq_false_iff, decide_eq_false_iff_not]
    omega
  rw [h1, if_neg (by decide)]
  rcases occ_head x y (x.length + 1) (by omega) with ⟨_, hn⟩ | ⟨j, r, e, _⟩
  · exact absurd ⟨hi, hs⟩ (hn i)
  · rw [e, if_neg (by simp), parts_len]; simp
theorem strKind_pos (x : Str) : 1 ≤ Builtin.Str.strKind x := by
  unfold Builtin.Str.strKind; split
  · omega
  · split <;> omega

section
variable {prog : Program} {w : World} {s₀ : Shared} {k : Nat} {env : Env} {loc : Loc} {mem : Mem} {Q : AV → Mem → Prop}
theorem we_neg {i : Int} {kk : Nat} {p pos : Pos} (q : Q (.int (-i)) mem) : WE prog w s₀ k env loc (.UnaryOp .USub (.Constant (.int i) kk p) pos) mem Q := by
  intro A s ρ hA R
  show wpAny _ A (do let v ← eval (.Constant (.int i) kk p) env; standAt pos; holding [v] (unaryOp .USub v)) _ _ s
  refine wpAny_bind (wpAny_Constant_int (wpAny_bind (wpAny_standAt (wpAny_holding ?_))))
  exact neg_int (PostV.of q repV_int R)
theorem dropped_dat {d : PyData} {j : Mem} (q : Q (.dat d) mem) : Dropped mem Q (.dat d) (mem ++ j) := ⟨mem, j, rfl, Nat.le_refl _, trivial, id, q⟩
theorem dropped_dat0 {d : PyData} (q : Q (.dat d) mem) : Dropped mem Q (.dat d) mem := ⟨mem, [], by simp, Nat.le_refl _, trivial, id, q⟩
end
end Mine
-- F18
namespace Mine
section
variable {prog : Program} {w : World} {s₀ : Shared} {k : Nat} {env : Env} {loc : Loc} {mem : Mem} {Q : AV → Mem → Prop}
  {A : Around} {s : Shared} {ρ ρ' : List Addr} {h h' : Heap} {K : Frag}

theorem ints_of {h : Heap} : ∀ {ns : List Int} {vs : List Value} {as : List Addr}, ReadsAll h vs (ns.map .int) as → IntsAre vs ns
  | [], _, _, r => by cases r; exact .nil
  | _ :: _, _, _, r => by
    cases r with
    | cons a b => cases a; exact .cons _ _ (ints_of b)
theorem strs_of {h : Heap} : ∀ {xs : List Str} {vs : List Value} {as : List Addr}, ReadsAll h vs (xs.map .str) as → ∃ l : List (Str × Tok), vs = strValues l ∧ l.map (·.1) = xs
  | [], _, _, r => by cases r; exact ⟨[], rfl, rfl⟩
  | x :: _, _, _, r => by
    cases r with
    | cons a b =>
      cases a with
      | str _ t =>
        obtain ⟨l, e1, e2⟩ := strs_of b
        exact ⟨(x, t) :: l, by rw [e1]; rfl, by simp [e2]⟩

theorem PostV.keeps {v : AV} {v' : Value} {h' : Heap} {t : Nat} (q : Q v mem) (hv : RepV ρ h' v v') (R : Rep s₀ env ρ loc mem s) (hk : ∀ b o, s.heap.get? b = some o → h'.get? b = some o) :
    PostV s₀ env ρ loc s Q v' { s with heap := h', toks := t } := ⟨v, mem, ρ, q, hv, R.keeps hk, Ext.ofKeeps hk⟩

theorem cw_sum {i : Nat} {ns : List Int} (hi : mem[i]? = some (.list (ns.map .int))) (q : Q (.int ns.sum) mem) : CallW prog w s₀ k (.builtin "sum") [.ref i] [] mem Q :=
  callW_of fun env loc A s ρ vs hA R r => by
    obtain ⟨v, rfl, rv⟩ := repVs1 r
    obtain ⟨a, vs, n, as, rfl, _, f, e, ra⟩ := R.list hi rv
    have hi := ints_of ra
    obtain ⟨xs, hx⟩ := hi.allInts.items
    have hx' : vs = intItems xs := hx
    refine sum_intListG hA.no (l := a) (xs := xs) ⟨_, e, rfl, n, by rw [← hx']; rfl⟩ fun h' tk t' hk => ?_
    have e1 : ns = xs.toList.map (·.1) := by
      rw [← nums_intItems, ← hx']
      exact hi.numsOf.symm
    have e2 : preSum (numAt xs) xs.size = ns.sum := by rw [preSum_eq, List.take_of_length_le (by simp), e1]
    rw [e2]
    exact PostV.keeps q repV_int R hk

theorem cw_range1 {n : Int} (q : Q (.rng 0 n) mem) : CallW prog w s₀ k (.type "range") [.int n] [] mem Q :=
  callW_of fun env loc A s ρ vs hA R r => by
    obtain ⟨v, rfl, rv⟩ := repVs1 r
    obtain ⟨t, rfl⟩ := rv.int
    exact call_range_1 (PostV.keeps q ⟨_, _, _, _, rfl, IsRange.new ..⟩ R fun b o e => Heap.get?_push_of_some _ e)
theorem cw_range2 {a n : Int} (q : Q (.rng a n) mem) : CallW prog w s₀ k (.type "range") [.int a, .int n] [] mem Q :=
  callW_of fun env loc A s ρ vs hA R r => by
    obtain ⟨v, u, rfl, rv, ru⟩ := repVs2 r
    obtain ⟨t, rfl⟩ := rv.int; obtain ⟨t', rfl⟩ := ru.int
    exact call_range_2 (PostV.keeps q ⟨_, _, _, _, rfl, IsRange.new ..⟩ R fun b o e => Heap.get?_push_of_some _ e)

noncomputable def dec (n : Int) : Str := Str.ofString (toString n)
theorem len_dec {n : Int} (h0 : 0 ≤ n) (h1 : n < 10 ^ 30) : (dec n).length ≤ 30 := by
  obtain ⟨m, rfl⟩ := Int.eq_ofNat_of_zero_le h0
  have e : (dec (m : Int)).length = (Nat.toDigits 10 m).length := by
    have := KIN.signs_num m
    show (Str.ofString (toString ((m : Nat) : Int))).cps.size = _
    rw [← Array.length_toList, this, List.length_map]
  rw [e]
  have : m < 10 ^ 30 := by have : (10 : Int) ^ 30 = ((10 ^ 30 : Nat) : Int) := by norm_cast
                           omega
  rw [Nat.length_toDigits_le_iff (by decide) (by decide)]
  exact this
theorem dec_reads {n : Int} (h0 : 0 ≤ n) (h1 : n < 10 ^ 30) : PySem.intText? (dec n) = some n := by
  have hl := len_dec h0 h1
  obtain ⟨m, rfl⟩ := Int.eq_ofNat_of_zero_le h0
  have hd : NumText.AllDigits (dec (m : Int)).cps.toList := by
    intro c hc
    rw [show (dec (m : Int)).cps.toList = _ from KIN.signs_num m] at hc
    obtain ⟨ch, hch, e⟩ := List.mem_map.mp hc
    have r := digit_range (Nat.isDigit_of_mem_toDigits (by decide) (by decide) hch)
    rw [← e]
    exact r
  have hne : (dec (m : Int)).cps.toList ≠ [] := by
    rw [show (dec (m : Int)).cps.toList = _ from KIN.signs_num m]
    intro e
    have h := toDigits_len_ge 10 m
    rw [List.map_eq_nil_iff.mp e] at h
    exact absurd h (by decide)
  have e := PySem.intText_digits hd hne (Nat.le_trans hl (by decide))
  rw [show (dec (m : Int)).cps.toList = _ from KIN.signs_num m, KIN.val_back] at e
  exact e

theorem cw_int {n : Int} (h0 : 0 ≤ n) (h1 : n < 10 ^ 30) (q : Q (.int n) mem) : CallW prog w s₀ k (.type "int") [.str (dec n)] [] mem Q :=
  callW_of fun env loc A s ρ vs hA R r => by
    obtain ⟨v, rfl, rv⟩ := repVs1 r
    obtain ⟨t, rfl⟩ := rv.str
    exact KIN.call_text (dec_reads h0 h1) (Nat.le_trans (len_dec h0 h1) (by decide)) (PostV.of q repV_int R)
theorem cw_str {n : Int} (hn : n.natAbs.log2 < 1920) (q : Q (.str (dec n)) mem) : CallW prog w s₀ k (.type "str") [.int n] [] mem Q :=
  callW_of fun env loc A s ρ vs hA R r => by
    obtain ⟨v, rfl, rv⟩ := repVs1 r
    obtain ⟨t, rfl⟩ := rv.int
    exact PySem.P.str_of_int hn (PostV.of q repV_str R)
theorem cw_typeS {x : Str} (q : Q (.cst (.type "str")) mem) : CallW prog w s₀ k (.type "type") [.str x] [] mem Q :=
  callW_of fun env loc A s ρ vs hA R r => by
    obtain ⟨v, rfl, rv⟩ := repVs1 r
    obtain ⟨t, rfl⟩ := rv.str
    exact call_type_of (typeIs_str _ _ _) (by decide) (PostV.of' (v := .cst (.type "str")) q (by rfl) R)
theorem cw_typeL {i : Nat} {ds : List PyData} (hi : mem[i]? = some (.list ds)) (q : Q (.cst (.type "list")) mem) : CallW prog w s₀ k (.type "type") [.ref i] [] mem Q :=
  callW_of fun env loc A s ρ vs hA R r => by
    obtain ⟨v, rfl, rv⟩ := repVs1 r
    obtain ⟨a, vs, n, as, rfl, _, f, e, ra⟩ := R.list hi rv
    exact call_type_of (Tx := "list") ⟨_, e, rfl⟩ (by decide) (PostV.of' (v := .cst (.type "list")) q (by rfl) R)
theorem cw_join {x : Str} {i : Nat} {xs : List Str} (hi : mem[i]? = some (.list (xs.map .str))) (hok : JoinOk x xs = true) (q : Q (.str (Txt.join x xs)) mem) : CallW prog w s₀ k (.builtin "str.join") [.str x, .ref i] [] mem Q :=
  callW_of fun env loc A s ρ vs hA R r => by
    obtain ⟨v, u, rfl, rv, ru⟩ := repVs2 r
    obtain ⟨t, rfl⟩ := rv.str
    obtain ⟨a, vs, n, as, rfl, _, f, e, ra⟩ := R.list hi ru
    obtain ⟨l, hl1, hl2⟩ := strs_of ra
    exact SC.join (l := l) ⟨_, e, rfl, n, by rw [← hl1]; rfl⟩ hl2 hok fun t' k => PostV.of q repV_str R
theorem cw_upper {x : Str} (hx : x.length ≤ 5592405) (q : Q (.str (Txt.upper x)) mem) : CallW prog w s₀ k (.builtin "str.upper") [.str x] [] mem Q :=
  callW_of fun env loc A s ρ vs hA R r => by
    obtain ⟨v, rfl, rv⟩ := repVs1 r
    obtain ⟨t, rfl⟩ := rv.str
    exact SC.upper (fit_upper hx) (PostV.of q repV_str R)
theorem cw_lower {x : Str} (hx : x.length ≤ 5592405) (q : Q (.str (Txt.lower x)) mem) : CallW prog w s₀ k (.builtin "str.lower") [.str x] [] mem Q :=
  callW_of fun env loc A s ρ vs hA R r => by
    obtain ⟨v, rfl, rv⟩ := repVs1 r
    obtain ⟨t, rfl⟩ := rv.str
    exact SC.lower (fit_lower hx) (PostV.of q repV_str R)
theorem cw_append {j : Nat} {o : List PyData} {x : PyData} (hj : mem[j]? = some (.list o)) (hl : o.length ≤ sizeLine) (q : Q .none (mem.set j (.list (o ++ [x])))) : CallW prog w s₀ k (.builtin "list.append") [.ref j, .dat x] [] mem Q :=
  callW_of fun env loc A s ρ vs hA R r => by
    obtain ⟨v, u, rfl, rv, ru⟩ := repVs2 r
    obtain ⟨a, ea, rfl⟩ := rv
    exact append_ok R hj ea ru hl fun s' R' x' => ⟨_, _, ρ, q, repV_none, R', x' _⟩
theorem readsAll_append {es : List PyData} {us : List Value} {bs : List Addr} (r' : ReadsAll h us es bs) : ∀ {ds : List PyData} {vs : List Value} {as : List Addr}, ReadsAll h vs ds as → ∃ cs, ReadsAll h (vs ++ us) (ds ++ es) cs
  | [], _, _, .nil => ⟨_, r'⟩
  | _ :: _, _, _, .cons a b => by
    obtain ⟨cs, q⟩ := readsAll_append r' b
    exact ⟨_, .cons a q⟩
theorem cw_extend {i j : Nat} {o o' : List PyData} (hi : mem[i]? = some (.list o)) (hj : mem[j]? = some (.list o')) (hl : o.length + o'.length ≤ sizeLine) (q : Q .none (mem.set i (.list (o ++ o')))) : CallW prog w s₀ k (.builtin "list.extend") [.ref i, .ref j] [] mem Q :=
  callW_of fun env loc A s ρ vs hA R r => by
    obtain ⟨v, u, rfl, rv, ru⟩ := repVs2 r
    obtain ⟨a, vs, n, as, rfl, ea, f, e, ra⟩ := R.list hi rv
    obtain ⟨b, us, n2, bs, rfl, eb, f2, e2, rb⟩ := R.list hj ru
    have hs1 : vs.size = o.length := by have := SeqAt.ReadsAll.length _ _ _ ra; simpa using this
    have hs2 : us.size = o'.length := by have := SeqAt.ReadsAll.length _ _ _ rb; simpa using this
    have hsz : vs.size + us.size ≤ sizeLine := by rw [hs1, hs2]; exact hl
    refine call_meets PySem.F.slot_list_extend ⟨_, e, rfl⟩ PySem.F.entry_list_extend (PySem.F.args_list_extend_2 _ _) (AutoSeq1.list_extend_list_list_0 a vs n b us n2 (extend_door hsz) (Nat.le_trans (Nat.le_add_right _ _) hsz) (by omega)) ⟨e, e2, ?_⟩
    have ho' : (s.heap.update a (Obj.mapSeq fun x => x ++ us)).get? a = some (listObj (vs ++ us) (if (vs ++ us).size == vs.size then n else n + 1)) := by
      rw [Heap.get?_update_self _ e (by show (Obj.mapSeq _ (listObj vs n)).isFreed = _; unfold listObj; rw [mapSeq_app]; rfl)]
      unfold listObj; rw [mapSeq_app]
    obtain ⟨cs, rc⟩ := readsAll_append rb ra
    obtain ⟨R', x'⟩ := R.setList (t := s.toks) hi ea e (Heap.SameBut.update ..) ho' (ds' := o ++ o') (as := cs) (by rw [flats_append, f, f2]; rfl) (by simpa using rc)
    exact ⟨_, _, ρ, q, repV_none, R', x' _⟩
theorem cw_count {i : Nat} {ns : List Int} {z : Int} (hi : mem[i]? = some (.list (ns.map .int))) (q : Q (.int (ns.count z : Nat)) mem) : CallW prog w s₀ k (.builtin "list.count") [.ref i, .int z] [] mem Q :=
  callW_of fun env loc A s ρ vs hA R r => by
    obtain ⟨v, u, rfl, rv, ru⟩ := repVs2 r
    obtain ⟨a, vs, n, as, rfl, _, f, e, ra⟩ := R.list hi rv
    obtain ⟨t, rfl⟩ := ru.int
    exact count_list_ints (vs := vs.toList) ⟨_, e, rfl, n, rfl⟩ (ints_of ra) (PostV.of q repV_int R)

theorem readsAll_take : ∀ {ds : List PyData} {vs : List Value} {as : List Addr} (n : Nat), ReadsAll h vs ds as → ∃ bs, ReadsAll h (vs.take n) (ds.take n) bs
  | _, _, _, 0, _ => ⟨_, .nil⟩
  | [], _, _, _ + 1, .nil => ⟨_, .nil⟩
  | _ :: _, _, _, n + 1, .cons a b => by
    obtain ⟨bs, r⟩ := readsAll_take n b
    exact ⟨_, .cons a r⟩
theorem flats_take : ∀ (n : Nat) (ds : List PyData), flats ds = true → flats (ds.take n) = true
  | 0, _, _ => rfl
  | _ + 1, [], _ => rfl
  | n + 1, d :: ds, h => by
    have h' : flat d = true ∧ flats ds = true := by simpa [flats] using h
    rw [List.take_succ_cons, flats, h'.1, flats_take n ds h'.2]; rfl

noncomputable def cutTo (u : Option Int) (ds : List PyData) : List PyData := match u with
  | none => ds
  | some n => ds.take n.toNat
theorem we_sliceL {value : Expr} {hi : Option Expr} {p pos : Pos} (h : WE prog w s₀ k env loc value mem fun o m1 => ∃ j, o = .ref j ∧
      WO prog w s₀ k env loc hi m1 fun u m2 => ∃ ds, m2[j]? = some (.list ds) ∧ ds.length ≤ sizeLine ∧ (∀ n, u = some n → 0 ≤ n) ∧ Q (.ref m2.length) (m2 ++ [.list (cutTo u ds)])) :
    WE prog w s₀ k env loc (.Subscript value (.Slice none hi none p) pos) mem Q := by
  intro A s ρ hA R
  refine Subscript_ (wpAny_mono (h A s ρ hA R) ?_ fun _ _ x => x)
  rintro a' s1 ⟨a, m1, ρ1, ⟨j, rfl, q⟩, ra, R1, x1⟩
  refine wpAny_Slice ?_
  rw [evalPart_none]
  refine wpAny_pure (wpAny_mono (WO.go q hA R1) ?_ fun _ _ x => x)
  rintro u' s3 ⟨u, m3, ρ3, ⟨ds, hj, hl, hu, q3⟩, rfl, R3, x3⟩
  refine wpAny_pure ?_
  obtain ⟨l, vs, n, as, rfl, el, f, e, rl⟩ := R3.list hj (ra.move x3.pre x3.tup)
  have hsz : vs.size = ds.length := by have := SeqAt.ReadsAll.length _ _ _ rl; simpa using this
  have hlist : s3.heap.IsList l vs := ⟨_, e, rfl, n, rfl⟩
  have R4 : Rep s₀ env ρ3 loc m3 { s3 with heap := s3.heap.push { cls := .type "slice", data := .fields #[.none, partValue u, .none] } } := R3.keeps (t := s3.toks) fun b o e => Heap.get?_push_of_some _ e
  have x4 : Ext [] ρ3 s3 ρ3 { s3 with heap := s3.heap.push { cls := .type "slice", data := .fields #[.none, partValue u, .none] } } := Ext.ofKeeps (t := s3.toks) fun b o e => Heap.get?_push_of_some _ e
  have hpart : IsPart (partValue u) (u.map (·.1)) := by
    cases u with
    | none => exact .none
    | some u => exact .int _ _
  have hpick : ∃ bs, flats (cutTo (u.map (·.1)) ds) = true ∧ ReadsAll s3.heap (slicePick vs none (u.map (·.1)) none).toList (cutTo (u.map (·.1)) ds) bs := by
    cases u with
    | none => rw [show Option.map (·.1) (none : Option (Int × Tok)) = none from rfl, slicePick_all]; exact ⟨_, f, rl⟩
    | some u =>
      obtain ⟨z, t⟩ := u
      have hz := hu z rfl
      show ∃ bs, flats (ds.take z.toNat) = true ∧ ReadsAll s3.heap (slicePick vs none (some z) none).toList (ds.take z.toNat) bs
      obtain ⟨z', rfl⟩ := Int.eq_ofNat_of_zero_le hz
      rw [slicePick_upto']
      obtain ⟨bs, r⟩ := readsAll_take z' rl
      exact ⟨bs, flats_take _ _ f, by simpa using r⟩
  obtain ⟨bs, hf, hr⟩ := hpick
  refine tail_any (Heap.IsList.typeIs (s := { s3 with heap := s3.heap.push { cls := .type "slice", data := .fields #[.none, partValue u, .none] } }) (hlist.push _)) slot_list_getitem.lookup
    (wpAny_getItem_list_slice (hlist.push _) (Heap.IsSliceOf.new ..) .none hpart .none (by simp) ?_ (by rw [hsz]; exact hl)) rfl
  have hr' := readsAll_move x4.tup _ _ _ hf hr
  have R5 := R4.push (t := s3.toks) (o := .list (cutTo (u.map (·.1)) ds)) (ob := { cls := .type "list", data := .seq (slicePick vs none (u.map (·.1)) none) }) rfl (by
    have := repO_newList (ρ := ρ3) hf hr'
    simpa [listObj] using this)
  refine ⟨.ref m3.length, _, _, q3, ⟨_, ?_, rfl⟩, R5, ((x1.trans x3).trans x4).trans (Ext.push (t := s3.toks))⟩
  rw [← R4.len]; simp

theorem wx_expr {e : Expr} {pos : Pos} {Q : AFlow → Loc → Mem → Prop} (h : WE prog w s₀ k env loc e mem fun v m => ((∃ x, v = .str x) ∨ v = .none) ∧ Q .next loc m) (hi : interactive env = false) (hs : swapsWith e none pos.line env = pure false) : WX prog w s₀ k env loc (.Expr e pos) mem Q := by
  intro A s ρ hA R
  refine wpAny_Expr (wpAny_mono (h A s ρ hA R) ?_ fun _ _ x => x) hi hs
  rintro v' s1 ⟨v, m, ρ1, ⟨hv, q⟩, rv, R1, x1⟩
  rcases hv with ⟨x, rfl⟩ | rfl
  · obtain ⟨t, rfl⟩ := rv.str
    exact ⟨.next, loc, m, ρ1, q, rfl, R1, x1.nil⟩
  · obtain rfl := rv.none
    exact ⟨.next, loc, m, ρ1, q, rfl, R1, x1.nil⟩
end
end Mine
-- P1
namespace Mine
open Builtin.Re

theorem plainAttrs_pat : PlainAttrs "re.Pattern" :=
  ⟨⟨"object.__getattribute__", by rw [typeLookup_type, builtinLookup_eq_fast]; kernel_rfl, by decide +kernel⟩, by rw [typeLookup_type, builtinLookup_eq_fast]; kernel_rfl⟩
theorem owner_pat : Manifest.owners.lookup (String.ofList ['n', 'r', 'e', 't', 't', 'a', 'P', '.', 'e', 'r'].reverse) = some Manifest.sig_re_Pattern := by kernel_rfl
theorem slot_pat_search : Slot "re.Pattern" "search" "re.Pattern.search" :=
  .of (owner := "re.Pattern") (n := "search") (by rw [typeLookup_type, builtinLookup_eq_fast]; kernel_rfl) (by decide +kernel) (by decide +kernel) (by decide +kernel)
    (by first | exact .inl (by decide +kernel) | exact .inr (by decide +kernel)) (by rw [isSubtype_type]; kernel_rfl)
theorem type_pat_search : typeOf (.builtin "re.Pattern.search") = pure (.type "method_descriptor") := by show builtinType _ = _; rw [builtinType_eq_fast]; kernel_rfl
theorem entry_pat_search : entryFor table "re.Pattern.search" = some Builtin.«re.Pattern.search» := entryFor_of_tree (by kernel_rfl)
theorem args_pat_search (a b : Value) : argsOk "re.Pattern.search" ⟨[a, b], []⟩ := by
  unfold argsOk; rw [signature?_of (id := "re.Pattern.search") (n := ['h', 'c', 'r', 'a', 'e', 's']) (o := ['n', 'r', 'e', 't', 't', 'a', 'P', '.', 'e', 'r']) (by kernel_rfl) owner_pat]; kernel_rfl
theorem mt_search : MethT "re.Pattern" "search" "re.Pattern.search" := ⟨plainAttrs_pat, slot_pat_search, type_pat_search⟩

noncomputable def codeN : Array Nat := #[14, 10, 4, 1, 1, 22, 0, 31, 16, 127, 0, 13, 7, 22, 0, 31, 16, 127, 0, 1]
noncomputable def codeV : Array Nat := #[14, 14, 4, 1, 1, 9, 4294966783, 0, 0, 2147483648, 0, 0, 0, 0, 0, 13, 11, 9, 4294966783, 0, 0, 2147483648, 0, 0, 0, 0, 0, 1]
noncomputable def safe : List Nat := [48, 49, 50, 51, 52, 53, 54, 55, 56, 57, 88, 120]
noncomputable def isCode (c : Array Nat) : Prop := c = codeN ∨ c = codeV

theorem inSet_safe {code : Array Nat} (hc : isCode code) {c : Nat} (h : c ∈ safe) (seen : Sre.Seen) : ∃ seen', Sre.inSet code c code.size 5 true seen = .ok (false, seen') := by
  simp only [safe, List.mem_cons, List.not_mem_nil, or_false] at h
  rcases hc with rfl | rfl <;> rcases h with rfl | rfl | rfl | rfl | rfl | rfl | rfl | rfl | rfl | rfl | rfl | rfl <;> exact ⟨_, rfl⟩

theorem admitted_safe {m : Sre.M} (hc : isCode m.code) (ht : ∀ c ∈ m.text, c ∈ safe) (hl : m.lim = m.text.size) : ∀ (fuel s : Nat) (seen : Sre.Seen), ∃ seen', Sre.M.admitted m fuel s seen = .ok (none, seen')
  | 0, _, seen => ⟨seen, rfl⟩
  | fuel + 1, s, seen => by
    unfold Sre.M.admitted
    by_cases h : s ≥ m.lim
    · rw [if_pos h]; exact ⟨_, rfl⟩
    · rw [if_neg h]
      have hlt : s < m.text.size := by omega
      have hm : m.text.getD s 0 ∈ safe := by
        have e : m.text.getD s 0 = m.text[s] := by simp [Array.getD, hlt]
        rw [e]; exact ht _ (Array.getElem_mem hlt)
      obtain ⟨seen', e⟩ := inSet_safe hc hm seen
      rw [e]
      exact admitted_safe hc ht hl fuel (s + 1) seen'

noncomputable def Fail (m : Sre.M) : Prop := m.answer = some false ∧ m.frames = [] ∧ m.outcome = none
theorem attemptFrom_fail {m : Sre.M} (hc : isCode m.code) (ht : ∀ c ∈ m.text, c ∈ safe) (hl : m.lim = m.text.size) (hf : m.frames = []) (ho : m.outcome = none) (s : Nat) (first : Bool) : Fail (m.attemptFrom s first) := by
  have hs : m.hasFirstSet = true := by
    unfold Sre.M.hasFirstSet
    rcases hc with h | h <;> rw [h] <;> rfl
  unfold Sre.M.attemptFrom
  rw [hs, if_neg (by decide)]
  obtain ⟨seen', e⟩ := admitted_safe hc ht hl (m.lim + 1 - s) s m.seen
  rw [e]
  exact ⟨rfl, hf, ho⟩
theorem forSearch_safe {code text : Array Nat} (hc : isCode code) (ht : ∀ c ∈ text, c ∈ safe) : Fail (Sre.forSearch code text 0 0 text.size false) := by
  unfold Sre.forSearch
  by_cases h : (decide (0 > text.size) || decide (text.size - 0 < (Sre.header code).1)) = true
  · simp only [h, if_true]
    exact ⟨rfl, rfl, rfl⟩
  · simp only [h]
    exact attemptFrom_fail hc ht rfl rfl rfl _ _
theorem runFor_fail {m : Sre.M} (h : Fail m) : (m.runFor reTurnSteps).outcome = some .failed := by
  obtain ⟨h1, h2, h3⟩ := h
  have e : m.step = { m with outcome := some .failed } := by
    unfold Sre.M.step
    rw [h3, h1, h2]; rfl
  show (Sre.M.runFor 4 m).outcome = _
  unfold Sre.M.runFor
  rw [h3, if_neg (by decide), e]
  rfl

section
variable {prog : Program} {w : World} {A : Around} {E : Value → Shared → Prop} {s : Shared}
theorem runToEnd_fail {M : Model} {m : Sre.M} {Q : Option Sre.M → Shared → Prop} (h : Fail m) (hq : Q none s) : wpAny M A (reRunToEnd m) Q E s := by
  have h1 := runFor_fail h
  have e : reDrive (2 ^ 64) m = pure (m.runFor reTurnSteps) := by
    have : (2 : Nat) ^ 64 = (2 ^ 64 - 1) + 1 := by decide
    rw [this, reDrive]
    simp only [h1, Option.isSome_some, if_true]
  unfold reRunToEnd
  rw [e, pure_bind]
  refine wpAny_bind ?_
  generalize m.runFor reTurnSteps = m1 at h1 ⊢
  have key : ∀ (l : List Nat) {Q : PUnit → Shared → Prop}, Q ⟨⟩ s → wpAny M A (forIn l PUnit.unit fun i _ => if m1.seen.has i = true then do rule (Sre.names.getD i ""); pure (ForInStep.yield PUnit.unit) else pure (ForInStep.yield PUnit.unit)) Q E s := by
    intro l
    induction l with
    | nil => intro Q hq; exact wpAny_pure hq
    | cons i l ih =>
      intro Q hq
      rw [List.forIn_cons]
      refine wpAny_bind ?_
      split
      · exact wpAny_bind (wpAny_rule (wpAny_pure (ih hq)))
      · exact wpAny_pure (ih hq)
  refine key _ ?_
  rw [h1]
  exact wpAny_pure hq

structure PatAt (h : Heap) (p : Addr) (code : Array Nat) : Prop where
  obj : ∃ o fs c vs, h.get? p = some o ∧ o.cls = .type "re.Pattern" ∧ o.dict = none ∧ o.data = .fields fs ∧ reRawNat (fs.getD 6 .none) = 0 ∧ fs.getD 5 .none = .ref c ∧ reRawNat (fs.getD 2 .none) = 0 ∧
    ∃ oc k, h.get? c = some oc ∧ oc.data = .seq vs k ∧ vs.map (fun v => (reRawOf v).toNat) = code

set_option maxHeartbeats 2000000 in
theorem search_none {p : Addr} {x : Str} {t : Tok} {code : Array Nat} {Q : Value → Shared → Prop} (hp : PatAt s.heap p code) (hc : isCode code) (hx : ∀ c ∈ x.cps, c ∈ safe) (hl : x.length ≤ 1000) (hq : Q .none s) :
    wpAny (model prog w) A (call (.builtin "re.Pattern.search") [.ref p, .str x t]) Q E s := by
  obtain ⟨o, fs, c, vs, e1, e2, _, e3, h6, h5, h2, oc, kk, e4, e6, e7⟩ := hp
  refine wpAny_call_entry slot_pat_search ⟨o, e1, e2⟩ entry_pat_search ?_ (args_pat_search _ _)
  unfold Builtin.«re.Pattern.search»
  refine wpAny_bind ?_
  unfold reTarget
  dsimp only
  refine wpAny_bind (wpAny_of_eq (show reNamed "re.Pattern.search" "search" ["string", "pos", "endpos"] 1 [.str x t] [] = pure [some (.str x t), none, none] from rfl) ?_)
  dsimp only
  refine wpAny_bind (wpAny_pure ?_)
  refine wpAny_bind (wpAny_pure ?_)
  refine wpAny_bind (wpAny_fieldsOf e1 e3 ?_)
  refine wpAny_bind (wpAny_of_eq (show reTextOf (.str x t) = pure (x.cps, 0) from rfl) ?_)
  dsimp only
  rw [h6, h5, h2]
  rw [if_neg (by decide), if_neg (by decide)]
  refine wpAny_bind (wpAny_of_eq (show reNoCollectionInside (.str x t) 0 = pure () from rfl) ?_)
  refine wpAny_bind ?_
  show wpAny _ _ (reRawItems (.ref c)) _ _ _
  unfold reRawItems
  refine wpAny_bind ?_
  show wpAny _ _ (do match (← load c).data with | .seq xs _ => pure (some xs) | _ => pure none) _ _ _
  refine wpAny_bind (wpAny_load e4 ?_)
  rw [e6]
  refine wpAny_pure (wpAny_pure ?_)
  refine wpAny_pure ?_
  unfold reAnswer
  have ec : (((some vs).getD #[]).map reRawOf).map (·.toNat) = code := by rw [← e7]; simp
  refine wpAny_bind (runToEnd_fail ?_ (wpAny_pure ⟨_, rfl, hq⟩))
  dsimp only
  rw [ec]
  have e8 : min (Int.toNat 0) x.cps.size = 0 := by simp
  rw [e8, Nat.min_eq_right]
  · exact forSearch_safe hc hx
  · have : x.cps.size = x.length := rfl
    rw [this]; omega
end
end Mine
-- F19
namespace Mine
noncomputable abbrev instO (dx : Addr) : Obj := { cls := .ref 178, dict := some dx, data := .plain, slots := #[] }
noncomputable abbrev headD (hsh : Int) (t : Tok) (l : Addr) (n : Nat) : Obj := dictOf [⟨hsh, .str headersKey t, .ref l⟩] n
section
variable {prog : Program} {w : World} {s₀ : Shared} {k : Nat} {env : Env} {loc : Loc} {mem : Mem} {Q : AV → Mem → Prop}
  {A : Around} {s : Shared} {ρ ρ' : List Addr} {h h' : Heap}

theorem kga (w : World) : findIn (KK w) (.ref 178) "__getattribute__" = some (some (.builtin "object.__getattribute__")) := by rfl
theorem kgt (w : World) : findIn (KK w) (.ref 178) "__getattr__" = some none := by rfl
theorem ksa (w : World) : findIn (KK w) (.ref 178) "__setattr__" = some (some (.builtin "object.__setattr__")) := by rfl
theorem khd (w : World) : hasDictIn (KK w) 178 = true := by rfl
theorem kfh (w : World) : findIn (KK w) (.ref 178) headersKey = some none := by rfl
theorem kpo (w : World) : plainOver (KK w) 178 = true := by rfl
theorem ktk (w : World) : takerIn (KK w) 178 headersKey = some none := by rfl
theorem kmk (w : World) : makesIn (KK w) 178 = true := by rfl
theorem kns (w : World) : noSeq (KK w) 178 = true := by rfl

theorem Rep.inst {i d j : Nat} (R : Rep s₀ env ρ loc mem s) (hi : mem[i]? = some (.inst d)) (hd : mem[d]? = some (.idict (some j))) :
    ∃ x dx l hsh t n, ρ[i]? = some x ∧ ρ[d]? = some dx ∧ ρ[j]? = some l ∧ PySem.W.InstAt s.heap x (instO dx) 178 (some (headD hsh t l n)) := by
  obtain ⟨x, ex, b, eb, e1⟩ := R.objs i _ hi
  obtain ⟨dx, ed, l, hsh, t, n, el, e2⟩ := R.objs d _ hd
  rw [eb] at ed; cases ed
  exact ⟨x, b, l, hsh, t, n, ex, eb, el, ⟨e1, rfl, rfl, e2⟩⟩
theorem getL_h {hsh : Int} {t : Tok} {l : Addr} {n : Nat} : lookIn headersKey (headD hsh t l n) = some (some (.ref l)) := by
  show getL headersKey [⟨hsh, .str headersKey t, .ref l⟩] = _
  rfl

theorem we_headers (G : Gr w s₀ (KK w)) {o : Expr} {pos : Pos} (h : WE prog w s₀ k env loc o mem fun ov m => ∃ i d j, ov = .ref i ∧ m[i]? = some (.inst d) ∧ m[d]? = some (.idict (some j)) ∧ Q (.ref j) m)
    (he : eval (.Attribute o headersKey pos) env = (do let ov ← eval o env; standAt pos.atName; let r ← holding [ov] (getAttr ov headersKey true); letTemporaryGo o ov r; pure r))
    (ht : ∀ v r, letTemporaryGo o v r = pure ()) : WE prog w s₀ k env loc (.Attribute o headersKey pos) mem Q := by
  intro A s ρ hA R
  rw [he]
  refine WV.go h hA R ?_
  rintro ov m ρ1 v' s1 ⟨i, d, j, rfl, hi, hd, q⟩ rv R1 x1
  obtain ⟨x, ex, rfl⟩ := rv
  obtain ⟨x', dx, l, hsh, t, n, ex', ed, el, I⟩ := R1.inst hi hd
  rw [ex] at ex'; cases ex'
  have X : (KK w).In s1.heap := G.k.keeps R1.keep0
  refine wpAny_bind (wpAny_standAt (wpAny_bind (wpAny_holding (get_value X I (kga w) (findObj_own (khd w) (kfh w) rfl getL_h) rfl ?_))))
  rw [ht, pure_bind]
  exact wpAny_pure (PostV.trans x1 (PostV.of q ⟨l, el, rfl⟩ R1))

inductive Method : Str → Addr → Prop where
  | conv : Method "_convert_string_type" 77
  | get : Method "get" 125
  | keys : Method "keys" 130
  | values : Method "values" 135
  | items : Method "items" 142
theorem Method.find {name : Str} {f : Addr} (m : Method name f) (w : World) : findIn (KK w) (.ref 178) name = some (some (.ref f)) ∧ typeIn (KK w) (.ref f) = some (.type "function") ∧ Called (KK w) (.ref f) ∧
    ∀ hsh t l n, shadowIn (some (headD hsh t l n)) name = some false := by
  cases m <;> exact ⟨by rfl, by rfl, .inr (.inr (by rfl)), fun _ _ _ _ => by rfl⟩

theorem we_methI (G : Gr w s₀ (KK w)) {o : Expr} {name : Str} {apos pos : Pos} {args : List Expr} {pl : Sem Bool}
    (h : WE prog w s₀ k env loc o mem fun ov m => ∃ i d j f, ov = .ref i ∧ m[i]? = some (.inst d) ∧ m[d]? = some (.idict (some j)) ∧ Method name f ∧ WA prog w s₀ k env loc pos args m fun avs m' => CallW prog w s₀ k (.ref f) (ov :: avs) [] m' Q)
    (he : eval (.Call (.Attribute o name apos) args [] pos) env = (do
      let ov ← eval o env
      standAt apos.atName
      let (f, first) ← holding [ov] (getMethod ov name pl)
      callWith pos f first (backTo pos (starEach args env)) (backToKw pos (keywordEach [] env))))
    (hp : (backTo pos (starEach args env)).any (·.1) = false)
    (hn : (match starEach args env with | (false, _) :: _ => true | [] => true | _ => false) = true) :
    WE prog w s₀ k env loc (.Call (.Attribute o name apos) args [] pos) mem Q := by
  intro A s ρ hA R
  rw [he]
  refine WV.go h hA R ?_
  rintro ov m ρ1 v' s1 ⟨i, d, j, f, rfl, hi, hd, mt, ha⟩ rv R1 x1
  obtain ⟨x, ex, rfl⟩ := id rv
  obtain ⟨x', dx, l, hsh, t, n, ex', ed, el, I⟩ := R1.inst hi hd
  rw [ex] at ex'; cases ex'
  have X : (KK w).In s1.heap := G.k.keeps R1.keep0
  obtain ⟨m1, m2, m3, m4⟩ := mt.find w
  refine wpAny_bind (wpAny_standAt (wpAny_bind (wpAny_holding (method_fn X I (kga w) (kgt w) m1 m2 (m4 _ _ _ _) ?_))))
  refine callWith_of (P := fun h => (KK w).In h) (by rw [hp]; rfl) (fun h X => m3.looks h X) ?_
  have main : wpAny (model prog w) A (spliced (backTo pos (starEach args env))) (fun vs s₁ => (KK w).In s₁.heap ∧ wpAny (model prog w) A (call (.ref f) ([.ref x] ++ vs) []) (PostV s₀ env ρ loc s Q) NoE s₁) NoE s1 := by
    refine wpAny_mono (ha A s1 ρ1 hA R1) ?_ fun _ _ x => x
    rintro vs' s2 ⟨vs, m2, ρ2, q, rvs, R2, x2⟩
    exact ⟨G.k.keeps R2.keep0, wpAny_mono (q env loc A s2 ρ2 (.ref x :: vs') [] hA R2 (.cons (rv.move x2.pre x2.tup) rvs) .nil) (fun _ _ p => (p.trans x2).trans x1) fun _ _ x => x⟩
  cases hst : starEach args env with
  | nil => rw [hst] at main; exact evalArgs_nil_any main
  | cons y r =>
    obtain ⟨b, t⟩ := y
    rw [hst] at hn main
    cases b with
    | true => cases hn
    | false => exact Calls.evalArgs_plain main

theorem we_methK (G : Gr w s₀ (KK w)) {o a kv : Expr} {name kn : Str} {apos pos p : Pos} {pl : Sem Bool}
    (h : WE prog w s₀ k env loc o mem fun ov m => ∃ i d j f, ov = .ref i ∧ m[i]? = some (.inst d) ∧ m[d]? = some (.idict (some j)) ∧ Method name f ∧ WA prog w s₀ k env loc pos [a] m fun avs m' =>
      WE prog w s₀ k env loc kv m' fun u m'' => CallW prog w s₀ k (.ref f) (ov :: avs) [(kn, u)] m'' Q)
    (he : eval (.Call (.Attribute o name apos) [a] [⟨some kn, kv, p⟩] pos) env = (do
      let ov ← eval o env
      standAt apos.atName
      let (f, first) ← holding [ov] (getMethod ov name pl)
      callWith pos f first (backTo pos (starEach [a] env)) (backToKw pos (keywordEach [⟨some kn, kv, p⟩] env))))
    (hplain : ((backTo pos (starEach [a] env)).any (·.1) || (backToKw pos (keywordEach [⟨some kn, kv, p⟩] env)).any (·.1.isNone)) = false)
    (hst : starEach [a] env = (false, eval a env) :: starEach [] env) :
    WE prog w s₀ k env loc (.Call (.Attribute o name apos) [a] [⟨some kn, kv, p⟩] pos) mem Q := by
  intro A s ρ hA R
  rw [he]
  refine WV.go h hA R ?_
  rintro ov m ρ1 v' s1 ⟨i, d, j, f, rfl, hi, hd, mt, ha⟩ rv R1 x1
  obtain ⟨x, ex, rfl⟩ := id rv
  obtain ⟨x', dx, l, hsh, t, n, ex', ed, el, I⟩ := R1.inst hi hd
  rw [ex] at ex'; cases ex'
  have X : (KK w).In s1.heap := G.k.keeps R1.keep0
  obtain ⟨m1, m2, m3, m4⟩ := mt.find w
  refine wpAny_bind (wpAny_standAt (wpAny_bind (wpAny_holding (method_fn X I (kga w) (kgt w) m1 m2 (m4 _ _ _ _) ?_))))
  refine callWith_of (P := fun h => (KK w).In h) hplain (fun h X => m3.looks h X) (evalArgs_kw2 rfl ?_ hst)
  refine wpAny_mono (ha A s1 ρ1 hA R1) ?_ fun _ _ x => x
  rintro vs' s2 ⟨vs, m2, ρ2, q, rvs, R2, x2⟩
  refine kwAll_cons (wpAny_mono (q A s2 ρ2 hA R2) ?_ fun _ _ x => x)
  rintro u' s3 ⟨u, m3, ρ3, q3, ru, R3, x3⟩
  refine kwAll_nil ⟨G.k.keeps R3.keep0, ?_⟩
  exact wpAny_mono (q3 env loc A s3 ρ3 (.ref x :: vs') [u'] hA R3 (.cons ((rv.move x2.pre x2.tup).move x3.pre x3.tup) (rvs.move x3.pre x3.tup)) (.cons ru .nil)) (fun _ _ p => ((p.trans x3).trans x2).trans x1) fun _ _ x => x
end
end Mine
-- F20
namespace Mine
section
variable {prog : Program} {w : World} {s₀ : Shared} {k : Nat} {env : Env} {loc : Loc} {mem : Mem}
  {A : Around} {E : Value → Shared → Prop} {s : Shared} {ρ ρ' : List Addr} {h h' : Heap}

theorem setAll_list {l b sl : Addr} {xs ys : Array Value} {n n2 : Nat} {P : Unit → Shared → Prop} (hl : s.heap.get? l = some (listObj xs n)) (hb : s.heap.get? b = some (listObj ys n2)) (hne : l ≠ b)
    (hs : s.heap.IsSliceOf sl .none .none .none) (hx : xs.size ≤ sizeLine) (hy : xs.size + ys.size ≤ sizeLine)
    (hP : ∀ h' n', h'.get? l = some (listObj ys n') → Heap.SameBut l s.heap h' → P () { s with heap := h' }) :
    wpAny (model prog w) A (setItem (.ref l) (.ref sl) (.ref b)) P E s := by
  have hlist : s.heap.IsList l xs := ⟨_, hl, rfl, n, rfl⟩
  have hlist2 : s.heap.IsList b ys := ⟨_, hb, rfl, n2, rfl⟩
  obtain ⟨os, hos, hcs, hds⟩ := id hs
  have hTs : s.TypeIs (.ref sl) "slice" := ⟨os, hos, hcs⟩
  unfold setItem
  try with_reducible refine wpAny_holding ?_
  first | refine wpAny_bind (wpAny_pure ?_) | skip
  refine wpAny_bind (wpAny_sequenceKey hlist.typeIs (by decide) ?_)
  refine wpAny_bind (wpAny_callSpecial?_slot (name := Str.ofString "__setitem__") hlist.typeIs slot_list_setitem
    (wpAny_call_entry slot_list_setitem hlist.typeIs entry_list_setitem ?_ (args_list_setitem _ _ _)))
  show wpAny _ _ (Builtin.List.listSubscript? (.ref sl) >>= _) _ _ s
  refine wpAny_bind ?_
  unfold Builtin.List.listSubscript?
  refine wpAny_bind (wpAny_specialOf hTs slice_no_index ?_)
  simp only [Option.isNone_none, if_true]
  refine wpAny_pure ?_
  show wpAny _ _ (typeOf (.ref sl) >>= _) _ _ s
  refine wpAny_bind (wpAny_typeOf hTs ?_)
  rw [if_neg (by decide)]
  rw [listSliceParts_eq]
  refine wpAny_bind (wpAny_bind (wpAny_field hos hds (x := .none) rfl (wpAny_bind (wpAny_listPart .none ?_))))
  rw [if_neg (by exact Bool.false_ne_true)]
  refine wpAny_bind (wpAny_field hos hds (x := .none) rfl (wpAny_bind (wpAny_listPart .none ?_)))
  refine wpAny_bind (wpAny_field hos hds (x := .none) rfl (wpAny_bind (wpAny_listPart .none (wpAny_pure ?_))))
  dsimp only
  have hsr : Builtin.List.listSameRef (.ref l) (.ref b) = false := by
    show (l == b) = false
    simpa using hne
  rw [hsr, if_neg Bool.false_ne_true]
  refine wpAny_bind ?_
  unfold Builtin.List.listAllItems
  refine wpAny_bind (wpAny_typeOf hlist2.typeIs ?_)
  rw [if_pos (by decide)]
  unfold Builtin.List.listItems
  refine wpAny_bind (wpAny_seqItems hb rfl (wpAny_pure ?_))
  refine wpAny_bind (wpAny_bind (wpAny_seqItems hl rfl (wpAny_pure ?_)))
  refine wpAny_bind (wpAny_of_eq (sliceIndices_raw none none none xs.size (by simp)) ?_)
  have hbd : sliceBounds none none none xs.size = (0, (xs.size : Int), 1) := rfl
  rw [hbd]
  dsimp only
  rw [if_pos (by decide)]
  refine wpAny_bind (wpAny_rule ?_)
  have hlong : Builtin.List.listTooLong (xs.size + ys.size) = false := by
    unfold Builtin.List.listTooLong
    have := sizeLine_eq
    exact decide_eq_false (by omega)
  rw [hlong, if_neg Bool.false_ne_true]
  have hf : (fun zs : Array Value => zs.extract 0 (Int.toNat 0) ++ ys ++ zs.extract (max (0 : Int) (xs.size : Int)).toNat) xs = ys := by
    have e1 : (max (0 : Int) (xs.size : Int)).toNat = xs.size := by omega
    show xs.extract 0 0 ++ ys ++ xs.extract (max (0 : Int) (xs.size : Int)).toNat = ys
    rw [e1]; simp
  refine wpAny_bind ?_
  show wpAny _ _ (updateSeq l (fun zs : Array Value => zs.extract 0 (Int.toNat 0) ++ ys ++ zs.extract (max (0 : Int) (xs.size : Int)).toNat)) _ _ s
  generalize (fun zs : Array Value => zs.extract 0 (Int.toNat 0) ++ ys ++ zs.extract (max (0 : Int) (xs.size : Int)).toNat) = f at hf ⊢
  refine wpAny_updateSeq hl rfl ?_ hx (by rw [hf]; omega)
  refine wpAny_bind (wpAny_letGo ?_)
  have hup : (s.heap.update l (Obj.mapSeq f)).get? l = some (listObj ys (if (f xs).size == xs.size then n else n + 1)) := by
    have hm : Obj.mapSeq f (listObj xs n) = listObj (f xs) (if (f xs).size == xs.size then n else n + 1) := rfl
    rw [Heap.get?_update_self _ hl (by rw [hm]; rfl), hm, hf]
  exact wpAny_pure ⟨.none, rfl, wpAny_pure (hP _ _ hup (Heap.SameBut.update ..))⟩
end
end Mine
-- F21
namespace Mine
section
variable {prog : Program} {w : World} {s₀ : Shared} {k : Nat} {env : Env} {loc : Loc} {mem : Mem}
  {A : Around} {s : Shared} {ρ ρ' : List Addr} {h h' : Heap}

theorem wx_setAll {o value : Expr} {p p' pos : Pos} {Q : AFlow → Loc → Mem → Prop}
    (h : WE prog w s₀ k env loc value mem fun v m => WE prog w s₀ k env loc o m fun ov m' => ∃ i j xs ys, v = .ref j ∧ ov = .ref i ∧ i ≠ j ∧ m'[i]? = some (.list xs) ∧ m'[j]? = some (.list ys) ∧ xs.length + ys.length ≤ sizeLine ∧ Q .next loc (m'.set i (.list ys)))
    (hs : swapsWith value (some (.Subscript o (.Slice none none none p) p')) pos.line env = pure false) :
    WX prog w s₀ k env loc (.Assign [.Subscript o (.Slice none none none p) p'] value pos) mem Q := by
  intro A s ρ hA R
  refine wpAny_Assign_Subscript (wpAny_mono (h A s ρ hA R) ?_ fun _ _ x => x) hs
  rintro v' s1 ⟨v, m, ρ1, q, rv, R1, x1⟩
  refine wpAny_mono (q A s1 ρ1 hA R1) ?_ fun _ _ x => x
  rintro ov' s2 ⟨ov, m2, ρ2, ⟨i, j, xs, ys, rfl, rfl, hne, hi, hj, hl, q2⟩, ro, R2, x2⟩
  obtain ⟨a, vs, n, as, rfl, ea, f, e, ra⟩ := R2.list hi ro
  obtain ⟨b, us, n2, bs, rfl, eb, f2, e2, rb⟩ := R2.list hj (rv.move x2.pre x2.tup)
  have hs1 : vs.size = xs.length := by have := SeqAt.ReadsAll.length _ _ _ ra; simpa using this
  have hs2 : us.size = ys.length := by have := SeqAt.ReadsAll.length _ _ _ rb; simpa using this
  have hab : a ≠ b := by
    rintro rfl
    obtain ⟨hi', ei⟩ := List.getElem?_eq_some_iff.mp ea
    obtain ⟨hj', ej⟩ := List.getElem?_eq_some_iff.mp eb
    have nd := List.pairwise_iff_getElem.mp R2.nodup
    rcases Nat.lt_trichotomy i j with hlt | heq | hlt
    · exact nd i j hi' hj' hlt (ei.trans ej.symm)
    · exact hne heq
    · exact nd j i hj' hi' hlt (ej.trans ei.symm)
  refine wpAny_Slice ?_
  rw [evalPart_none]
  refine wpAny_pure (wpAny_pure (wpAny_pure ?_))
  have kp : ∀ b o, s2.heap.get? b = some o → (s2.heap.push { cls := .type "slice", data := .fields #[.none, .none, .none] }).get? b = some o := fun b o e => Heap.get?_push_of_some _ e
  have R3 : Rep s₀ env ρ2 loc m2 { s2 with heap := s2.heap.push { cls := .type "slice", data := .fields #[.none, .none, .none] } } := R2.keeps (t := s2.toks) kp
  have x3 : Ext [] ρ2 s2 ρ2 { s2 with heap := s2.heap.push { cls := .type "slice", data := .fields #[.none, .none, .none] } } := Ext.ofKeeps (t := s2.toks) kp
  refine setAll_list (kp _ _ e) (kp _ _ e2) hab (Heap.IsSliceOf.new ..) (by rw [hs1]; omega) (by rw [hs1, hs2]; exact hl) fun h' n' e' hsb => ?_
  obtain ⟨R4, x4⟩ := R3.setList (t := s2.toks) hi ea (kp _ _ e) hsb e' f2 (readsAll_move x3.tup _ _ _ f2 rb)
  exact ⟨.next, loc, _, ρ2, q2, rfl, R4, (((x1.trans x2).trans x3).nil).trans (x4 _)⟩

theorem Room.in1 {A : Around} (h : Room (k + 1) A) : Room k A.in1 := ⟨by have := h.dep; show A.depth + k < _; omega, by have := h.un; show A.units + 1 + 10 * k + 200 < _; omega, h.no⟩
theorem kln (w : World) : findIn (KK w) (.ref 178) "__len__" = some (some (.ref 84)) ∧ typeIn (KK w) (.ref 84) = some (.type "function") := ⟨by rfl, by rfl⟩
theorem ksi (w : World) : findIn (KK w) (.ref 178) "__setitem__" = some (some (.ref 91)) ∧ typeIn (KK w) (.ref 91) = some (.type "function") := ⟨by rfl, by rfl⟩
theorem kdi (w : World) : findIn (KK w) (.ref 178) "__delitem__" = some (some (.ref 96)) ∧ typeIn (KK w) (.ref 96) = some (.type "function") := ⟨by rfl, by rfl⟩
theorem kin (w : World) : findIn (KK w) (.ref 178) "__init__" = some (some (.ref 70)) ∧ typeIn (KK w) (.ref 70) = some (.type "function") := ⟨by rfl, by rfl⟩

theorem cw_lenI (G : Gr w s₀ (KK w)) {i d j : Nat} {Q : AV → Mem → Prop} (hi : mem[i]? = some (.inst d)) (hd : mem[d]? = some (.idict (some j)))
    (h : CallW prog w s₀ k (.ref 84) [.ref i] [] mem fun v m => ∃ n : Nat, v = .int n ∧ n < 1000 ∧ Q (.int n) m) : CallW prog w s₀ (k + 1) (.builtin "len") [.ref i] [] mem Q :=
  callW_of fun env loc A s ρ vs hA R r => by
    obtain ⟨v, rfl, rv⟩ := repVs1 r
    obtain ⟨x, ex, rfl⟩ := id rv
    obtain ⟨x', dx, l, hsh, t, n, ex', ed, el, I⟩ := R.inst hi hd
    rw [ex] at ex'; cases ex'
    have X : (KK w).In s.heap := G.k.keeps R.keep0
    refine Calls.call_function_entry kind_len plain_len entry_len (args_len1 _) ?_
    unfold Builtin.«len»
    refine wpAny_bind (m := oneArg "len" _) (wpAny_pure ?_)
    refine wpAny_bind (m := callSpecial? (.ref x) (Str.ofString "__len__")) (special_fn X I (kln w).1 (kln w).2 ?_)
    refine wpAny_mono (h env loc A.in1 s ρ [.ref x] [] hA.in1 R r .nil) ?_ fun _ _ x => x.elim
    rintro r' s1 ⟨v, m, ρ1, ⟨n, rfl, hn, q⟩, rv1, R1, x1⟩
    obtain ⟨t1, rfl⟩ := rv1.int
    refine wpAny_bind (wpAny_holding (wpAny_pure ?_))
    refine wpAny_bind (wpAny_letGo ?_)
    show wpAny _ _ (if (n : Int) < 0 then _ else _) _ _ _
    rw [if_neg (by omega)]
    show wpAny _ _ (if (n : Int) ≥ 2 ^ 63 then _ else _) _ _ _
    rw [if_neg (by omega)]
    exact wpAny_bind (wpAny_mkInt (wpAny_pure ⟨_, rfl, PostV.trans x1 (PostV.of q repV_int R1)⟩))

theorem setI_ok (G : Gr w s₀ (KK w)) {i d j : Nat} {iv v : AV} {x : Addr} {iv' v' : Value} {Q : AV → Mem → Prop} (hA : Room k A) (R : Rep s₀ env ρ loc mem s) (hi : mem[i]? = some (.inst d)) (hd : mem[d]? = some (.idict (some j))) (ex : ρ[i]? = some x)
    (ri : RepV ρ s.heap iv iv') (rv : RepV ρ s.heap v v') (h : CallW prog w s₀ k (.ref 91) [.ref i, iv, v] [] mem Q) :
    wpAny (model prog w) A (setItem (.ref x) iv' v') (fun _ s' => ∃ r, PostV s₀ env ρ loc s Q r s') NoE s := by
  obtain ⟨x', dx, l, hsh, t, n, ex', ed, el, I⟩ := R.inst hi hd
  rw [ex] at ex'; cases ex'
  have X : (KK w).In s.heap := G.k.keeps R.keep0
  unfold setItem sequenceKey
  refine wpAny_holding (wpAny_bind (wpAny_bind (I.type.here ?_)))
  refine wpAny_bind ((anyM_none X (kns w)).here ?_)
  rw [if_pos (show (!false) = true from rfl)]
  refine wpAny_pure (wpAny_bind (special_fn X I (ksi w).1 (ksi w).2 ?_))
  exact wpAny_mono (h env loc A s ρ [.ref x, iv', v'] [] hA R (.cons ⟨x, ex, rfl⟩ (.cons ri (.cons rv .nil))) .nil) (fun r s' p => wpAny_pure ⟨r, p⟩) fun _ _ x => x

theorem wx_setI (G : Gr w s₀ (KK w)) {o i value : Expr} {p' pos : Pos} {Q : AFlow → Loc → Mem → Prop}
    (h : WE prog w s₀ k env loc value mem fun v m => WE prog w s₀ k env loc o m fun ov m' => WE prog w s₀ k env loc i m' fun iv m'' => ∃ a d j, ov = .ref a ∧ m''[a]? = some (.inst d) ∧ m''[d]? = some (.idict (some j)) ∧
      CallW prog w s₀ k (.ref 91) [.ref a, iv, v] [] m'' fun _ m3 => Q .next loc m3)
    (hs : swapsWith value (some (.Subscript o i p')) pos.line env = pure false) :
    WX prog w s₀ k env loc (.Assign [.Subscript o i p'] value pos) mem Q := by
  intro A s ρ hA R
  refine wpAny_Assign_Subscript (wpAny_mono (h A s ρ hA R) ?_ fun _ _ x => x) hs
  rintro v' s1 ⟨v, m, ρ1, q, rv, R1, x1⟩
  refine wpAny_mono (q A s1 ρ1 hA R1) ?_ fun _ _ x => x
  rintro ov' s2 ⟨ov, m2, ρ2, q2, ro, R2, x2⟩
  refine wpAny_mono (q2 A s2 ρ2 hA R2) ?_ fun _ _ x => x
  rintro iv' s3 ⟨iv, m3, ρ3, ⟨a, d, j, rfl, ha, hd, q3⟩, ri, R3, x3⟩
  obtain ⟨x, ex, rfl⟩ := ro.move x3.pre x3.tup
  refine wpAny_mono (setI_ok G hA R3 ha hd ex ri ((rv.move x2.pre x2.tup).move x3.pre x3.tup) q3) ?_ fun _ _ x => x
  rintro _ s4 ⟨r, u, m4, ρ4, q4, ru, R4, x4⟩
  exact ⟨.next, loc, m4, ρ4, q4, rfl, R4, (((x1.trans x2).trans x3).trans x4).nil⟩

theorem wx_delIn (G : Gr w s₀ (KK w)) {o i : Expr} {p pos : Pos} {Q : AFlow → Loc → Mem → Prop}
    (h : WE prog w s₀ k env loc o mem fun ov m => WE prog w s₀ k env loc i m fun iv m' => ∃ a d j, ov = .ref a ∧ m'[a]? = some (.inst d) ∧ m'[d]? = some (.idict (some j)) ∧
      CallW prog w s₀ k (.ref 96) [.ref a, iv] [] m' fun _ m3 => Q .next loc m3) :
    WX prog w s₀ k env loc (.Delete [.Subscript o i p] pos) mem Q := by
  intro A s ρ hA R
  refine wpAny_Delete (wpAny_deleteEach_cons ?_)
  show wpAny _ A (do let ov ← eval o env; let iv ← holding [ov] (eval i env); standAt p; holding [ov, iv] (delItem ov iv); release [ov, iv] []) _ _ s
  refine WV.go h hA R ?_
  rintro ov m ρ1 ov' s1 q ro R1 x1
  refine WV.goH q hA R1 ?_
  rintro iv m2 ρ2 iv' s2 ⟨a, d, j, rfl, ha, hd, q2⟩ ri R2 x2
  obtain ⟨x, ex, rfl⟩ := ro.move x2.pre x2.tup
  obtain ⟨x', dx, l, hsh, t, n, ex', ed, el, I⟩ := R2.inst ha hd
  rw [ex] at ex'; cases ex'
  have X : (KK w).In s2.heap := G.k.keeps R2.keep0
  refine wpAny_bind (wpAny_standAt (wpAny_bind (wpAny_holding ?_)))
  unfold delItem sequenceKey
  refine wpAny_holding (wpAny_bind (wpAny_bind (I.type.here ?_)))
  refine wpAny_bind ((anyM_none X (kns w)).here ?_)
  rw [if_pos (show (!false) = true from rfl)]
  refine wpAny_pure (wpAny_bind (special_fn X I (kdi w).1 (kdi w).2 ?_))
  refine wpAny_mono (q2 env loc A s2 ρ2 [.ref x, iv'] [] hA R2 (.cons ⟨x, ex, rfl⟩ (.cons ri .nil)) .nil) ?_ fun _ _ x => x
  rintro r s3 ⟨u, m3, ρ3, q3, ru, R3, x3⟩
  exact wpAny_pure (wpAny_release (wpAny_deleteEach_nil ⟨.next, loc, m3, ρ3, q3, rfl, R3, ((x1.trans x2).trans x3).nil⟩))
end
end Mine
-- F22
namespace Mine
section
variable {prog : Program} {w : World} {s₀ : Shared} {k : Nat} {env : Env} {loc : Loc} {mem : Mem}
  {A : Around} {s : Shared} {ρ ρ' : List Addr} {h h' : Heap}

theorem setAttr_ok (G : Gr w s₀ (KK w)) {i d j : Nat} {x l : Addr} {P : Unit → Shared → Prop} (R : Rep s₀ env ρ loc mem s) (hi : mem[i]? = some (.inst d)) (hd : mem[d]? = some (.idict none)) (ex : ρ[i]? = some x) (el : ρ[j]? = some l)
    (hP : ∀ s', Rep s₀ env ρ loc (mem.set d (.idict (some j))) s' → (∀ F, Ext F ρ s ρ s') → P () s') : wpAny (model prog w) A (setAttr (.ref x) headersKey (.ref l)) P NoE s := by
  obtain ⟨x', ex', dx, ed, e1⟩ := R.objs i _ hi
  rw [ex] at ex'; cases ex'
  obtain ⟨dx', ed', e2⟩ := R.objs d _ hd
  rw [ed] at ed'; cases ed'
  have e2 : s.heap.get? dx = some (dictOf [] 0) := e2
  have X : (KK w).In s.heap := G.k.keeps R.keep0
  have I : PySem.W.InstAt s.heap x (instO dx) 178 (some (dictOf [] 0)) := ⟨e1, rfl, rfl, e2⟩
  refine set_plain X I (ksa w) (osa_open (s := { s with toks := s.toks + 1 }) X I (kpo w) (ktk w) fun b => ?_)
  obtain ⟨cd, hc, hd'⟩ := any_some (show (clsIn (KK w) 178).any (·.hasDict) = true from khd w)
  refine wpAny_bind (wpAny_pure (wpAny_bind (wpAny_bind (wpAny_loadPart e1 (wpAny_bind (Looks.here (s := { s with toks := s.toks + 1 }) (looks_clsIn X hc) ?_))))))
  rw [hd']
  refine wpAny_pure (a := some dx) (wpAny_bind (wpAny_pure (wpAny_bind ?_)))
  unfold nsSet
  refine wpAny_bind (wpAny_bind (wpAny_askSetting (wpAny_pure (wpAny_bind (wpAny_mkText (wpAny_bind (wpAny_loadPart e2 ?_)))))))
  dsimp only
  rw [aRefKeyMayBeTheName_at]
  have hput : ∀ hsh key v, Obj.putName headersKey hsh key v (dictOf [] 0) = dictOf [⟨hsh, key, v⟩] 1 := fun hsh key v => by rw [putName_dict]; rfl
  rw [if_neg (by simp)]
  have e3 : ∀ hsh key v, (s.heap.update dx (Obj.putName headersKey hsh key v)).get? dx = some (dictOf [⟨hsh, key, v⟩] 1) := fun hsh key v => by
    rw [Heap.get?_update_self _ e2 (by rw [hput]; rfl), hput]
  refine wpAny_updatePart (s := { s with toks := s.toks + 1 + 1 }) e2 ?_
  refine wpAny_bind (wpAny_lookBehind (e3 _ _ _) (pastItsLine_dict (by rw [sizeLine_eq]; show 1 ≤ _; decide)) ?_)
  refine wpAny_pure ?_
  generalize (if headersKey.cps.isEmpty = true then 0 else reduceHash ((model prog w).w.params.strHash headersKey.cps)) = hsh
  have hsb : Heap.SameBut dx s.heap (s.heap.update dx (Obj.putName headersKey hsh (.str headersKey (s.toks + 1)) (.ref l))) := Heap.SameBut.update ..
  have hnt := tupKeep_sameBut hsb e2 (not_tup_dict rfl)
  exact hP _ (R.write (t := s.toks + 1 + 1) hd ed hsb hnt ⟨l, _, _, _, el, e3 _ _ _⟩) fun F => Ext.write (t := s.toks + 1 + 1) (List.mem_of_getElem? ed) hsb (e3 _ _ _) hnt

theorem wx_headers (G : Gr w s₀ (KK w)) {o value : Expr} {p' pos : Pos} {Q : AFlow → Loc → Mem → Prop}
    (h : WE prog w s₀ k env loc value mem fun v m => WE prog w s₀ k env loc o m fun ov m' => ∃ i d j, v = .ref j ∧ ov = .ref i ∧ m'[i]? = some (.inst d) ∧ m'[d]? = some (.idict none) ∧ Q .next loc (m'.set d (.idict (some j))))
    (hs : swapsWith value (some (.Attribute o headersKey p')) pos.line env = pure false) :
    WX prog w s₀ k env loc (.Assign [.Attribute o headersKey p'] value pos) mem Q := by
  intro A s ρ hA R
  refine plainObj_wpAny_Assign_Attribute (wpAny_mono (h A s ρ hA R) ?_ fun _ _ x => x) hs
  rintro v' s1 ⟨v, m, ρ1, q, rv, R1, x1⟩
  refine wpAny_mono (q A s1 ρ1 hA R1) ?_ fun _ _ x => x
  rintro ov' s2 ⟨ov, m2, ρ2, ⟨i, d, j, rfl, rfl, hi, hd, q2⟩, ro, R2, x2⟩
  obtain ⟨x, ex, rfl⟩ := ro
  obtain ⟨l, el, rfl⟩ := rv.move x2.pre x2.tup
  exact setAttr_ok G R2 hi hd ex el fun s' R' x' => ⟨.next, loc, _, ρ2, q2, rfl, R', ((x1.trans x2).nil).trans (x' _)⟩

theorem cw_new (G : Gr w s₀ (KK w)) {avs : List AV} {Q : AV → Mem → Prop}
    (h : CallC prog w s₀ k (.ref 70) (.ref (mem.length + 1) :: avs) [] (mem ++ [.idict none, .inst mem.length]) fun v m => v = .none ∧ Q (.ref (mem.length + 1)) m) :
    CallW prog w s₀ (k + 1) (.ref 178) avs [] mem Q :=
  callW_of fun env loc A s ρ vs hA R r => by
    have X : (KK w).In s.heap := G.k.keeps R.keep0
    have R1 := R.push (t := s.toks) (ob := PySem.W.emptyDict) (o := .idict none) rfl (Heap.get?_push_size _ rfl)
    have ei : (ρ ++ [s.heap.objs.size])[mem.length]? = some s.heap.objs.size := by rw [← R.len]; simp
    have R2 := R1.push (t := s.toks) (ob := instO s.heap.objs.size) (o := .inst mem.length) rfl ⟨s.heap.objs.size, by rw [List.getElem?_append_left (by rw [← R.len]; simp)]; exact ei, Heap.get?_push_size _ rfl⟩
    have x2 : Ext [] ρ s ((ρ ++ [s.heap.objs.size]) ++ [(s.heap.push PySem.W.emptyDict).objs.size]) { s with heap := (s.heap.push PySem.W.emptyDict).push (instO s.heap.objs.size) } :=
      (Ext.push (t := s.toks) (ob := PySem.W.emptyDict)).trans (Ext.push (s := { s with heap := s.heap.push PySem.W.emptyDict }) (t := s.toks) (ob := instO s.heap.objs.size))
    have hsz : (s.heap.push PySem.W.emptyDict).objs.size = s.heap.objs.size + 1 := Heap.size_push ..
    have hA' : Room k (A.under (.builtin "type.__call__" ⟨.ref 178 :: vs, []⟩)) := ⟨by have := hA.dep; show A.depth + 1 + k < _; omega, by have := hA.un; show A.units + 1 + 10 * k + 200 < _; omega, hA.no⟩
    have eix : ((ρ ++ [s.heap.objs.size]) ++ [(s.heap.push PySem.W.emptyDict).objs.size])[mem.length + 1]? = some (s.heap.objs.size + 1) := by
      rw [hsz, ← R.len]; simp
    have key := h env loc (A.under (.builtin "type.__call__" ⟨.ref 178 :: vs, []⟩)) _ _ (.ref (s.heap.objs.size + 1) :: vs) [] hA' (by simpa using R2) (.cons ⟨_, eix, rfl⟩ (r.move x2.pre x2.tup)) .nil
    obtain ⟨hh, g, dd, tk, os⟩ := s
    refine wpAny_call (make_core (makes_of X (kmk w)) (looks_findIn X (kin w).1) (fun self => bind_fn X self (kin w).2) (.inl rfl) (codeAny_mono key fun r' s' z => ?_))
    rcases r' with e | (v | _ | _ | _) <;> first | exact z.elim | skip
    obtain ⟨u, m, ρ3, ⟨rfl, q⟩, ru, R3, x3⟩ := z
    obtain rfl := ru.none
    refine ⟨rfl, .ref (mem.length + 1), m, ρ3, q, ⟨_, prefix_get x3.pre eix, rfl⟩, R3, x2.trans x3⟩
end
end Mine
-- F23
namespace Mine
noncomputable def Sub (b l : Loc) : Prop := ∀ x v, b.lookup x = some v → l.lookup x = some v
theorem Sub.refl (l : Loc) : Sub l l := fun _ _ h => h
theorem Sub.set {b l : Loc} (h : Sub b l) (x : Str) (v : AV) : Sub (setL b x v) (setL l x v) := by
  intro y u e
  rw [setL_lookup] at e ⊢
  by_cases hy : y = x
  · rw [if_pos hy] at e ⊢; exact e
  · rw [if_neg hy] at e ⊢; exact h y u e
theorem Sub.app (l e : Loc) : Sub l (l ++ e) := by
  intro x v h
  induction l with
  | nil => simp at h
  | cons p l ih =>
    obtain ⟨y, u⟩ := p
    rw [List.cons_append, List.lookup_cons] at *
    cases hx : x == y with
    | true => rw [hx] at h; exact h
    | false => rw [hx] at h; exact ih h
section
variable {prog : Program} {w : World} {s₀ : Shared} {k : Nat} {env : Env} {loc base : Loc} {mem : Mem}
  {A : Around} {s : Shared} {ρ ρ' : List Addr} {h h' : Heap}
theorem WXs.sub {st : List Stmt} {Q : AFlow → Loc → Mem → Prop} (hs : Sub base loc) (h : WXs prog w s₀ k env base st mem Q) : WXs prog w s₀ k env loc st mem Q :=
  fun A s ρ hA R => h A s ρ hA (R.sub hs)
theorem WT.sub {e : Expr} {Q : Bool → Mem → Prop} (hs : Sub base loc) (h : WT prog w s₀ k env base e mem Q) : WT prog w s₀ k env loc e mem Q :=
  fun A s ρ hA R => wpAny_mono (h A s ρ hA (R.sub hs)) (fun _ _ ⟨m, ρ', q, R', x⟩ => ⟨m, ρ', q, R.back R' x (fun _ h => nomatch h), x⟩) fun _ _ x => x
theorem AssP.sub {t : Expr} {d : PyData} {P P' : Loc → Prop} (hs : Sub base loc) (h : AssP env t d base P) (hp : ∀ b l, Sub b l → P b → P' l) : AssP env t d loc P' := by
  rcases h.elim with ⟨x, p, rfl, hx, q⟩ | ⟨x, px, y, py, kk, pos, d, e, rfl, rfl, hx, hy, q⟩
  · exact ⟨hx, hp _ _ (hs.set _ _) q⟩
  · exact ⟨hx, hy, hp _ _ ((hs.set _ _).set _ _) q⟩

noncomputable abbrev SubP (base : Loc) (I : Mem → Prop) (l : Loc) (m : Mem) : Prop := Sub base l ∧ I m
theorem wxs_for {target iter : Expr} {body rest : List Stmt} {pos : Pos} {Q : AFlow → Loc → Mem → Prop} (base : Loc) (hb : Sub base loc)
    (h : WE prog w s₀ k env loc iter mem fun a m => ∃ (src : Src) (ds : List PyData) (Inv : List PyData → Mem → Prop), IterOk m a src ds ∧
      (∀ r m', Inv r m' → SrcIn m' src ds) ∧ Inv ds m ∧
      (∀ d r m', d ∈ ds → Inv (d :: r) m' → AssP env target d base fun l' => WXs prog w s₀ k env l' body m' (LoopP (SubP base (Inv r)) Q)) ∧
      (∀ m', Inv [] m' → WXs prog w s₀ k env base rest m' Q))
    (hs : ∀ x, foldedSetIterable iter env x = pure x) : WXs prog w s₀ k env loc (.For target iter body [] pos :: rest) mem Q := by
  refine wxs_cons (wx_for (WV.mono h ?_) hs)
  rintro a m ⟨src, ds, Inv, ok, h1, h2, h3, h4⟩
  refine ⟨src, ds, fun r l m' => Sub base l ∧ Inv r m', ok, fun r l m' hi => h1 r m' hi.2, ⟨hb, h2⟩, ?_, fun l m' hi => WXs.sub hi.1 (h4 m' hi.2)⟩
  rintro d r l m' hd ⟨hl, hi⟩
  refine AssP.sub hl (h3 d r m' hd hi) fun b l' hs' hw => WXs.sub hs' ?_
  intro A s ρ hA R
  refine wpAny_mono (hw A s ρ hA R) ?_ fun _ _ x => x
  rintro f s' ⟨fl, l'', m'', ρ', q, y⟩
  refine ⟨fl, l'', m'', ρ', ?_, y⟩
  cases fl with
  | next => exact q
  | ret v => exact q
end

theorem get_app {m : Mem} {i : Nat} {o : AO} (h : m[i]? = some o) (t : Mem) : (m ++ t)[i]? = some o := by
  rw [List.getElem?_append_left (List.getElem?_eq_some_iff.mp h).1]; exact h
theorem pre_app {a m : Mem} (h : a <+: m) (t : Mem) : a <+: m ++ t := h.trans (List.prefix_append _ _)
theorem pre_set {a m : Mem} (h : a <+: m) {i : Nat} (hi : a.length ≤ i) (o : AO) : a <+: m.set i o := by
  obtain ⟨t, rfl⟩ := h
  rw [List.set_append_right _ _ hi]
  exact List.prefix_append _ _
theorem get_pre {a m : Mem} (h : a <+: m) {i : Nat} {o : AO} (e : a[i]? = some o) : m[i]? = some o := by
  obtain ⟨t, rfl⟩ := h
  exact get_app e t
theorem dropped_pre {mem m : Mem} {Q : AV → Mem → Prop} {d : PyData} (h : mem <+: m) (q : Q (.dat d) mem) : Dropped mem Q (.dat d) m := by
  obtain ⟨t, rfl⟩ := h
  exact ⟨mem, t, rfl, Nat.le_refl _, trivial, id, q⟩
end Mine
-- M1
namespace Mine
open MeetsSeq AutoSeq1
noncomputable def pgt (p q : Int × Int) : Bool := if p.1 == q.1 then (if p.2 == q.2 then false else decide (p.2 > q.2)) else decide (p.1 > q.1)
noncomputable def PairO (p : Int × Int) (o : Obj) : Prop := o.cls = .type "tuple" ∧ ∃ t1 t2 n, o.data = .seq #[.int p.1 t1, .int p.2 t2] n
theorem pair_gtAt (l b : Addr) (p q : Int × Int) :
    Meets (Builtin.«tuple.__gt__» ⟨[.ref l, .ref b], []⟩)
      (fun A R s => (∃ o, s.heap.get? l = some o ∧ PairO p o) ∧ (∃ o, s.heap.get? b = some o ∧ PairO q o) ∧
        R (.ok (.ret (.bool (pgt p q)))) s) :=
  .of_wp fun prog w A R s h => by
    obtain ⟨hp, g, d, tk, os⟩ := s
    obtain ⟨⟨⟨c1, dd1, da1, sl1⟩, hl, rfl, t1, t2, n, rfl⟩, ⟨⟨c2, dd2, da2, sl2⟩, hb, rfl, u1, u2, n2, rfl⟩, h⟩ := h
    have f2 := AutoSeq1.sub_tuple_tuple
    wp_walk using wpAny_loadPart' hl, wpAny_loadPart' hb
    show wpAny _ _ (eqBool (.int p.1 t1) (.int q.1 u1)) _ _ _
    refine wpAny_eqBool_int ?_
    unfold pgt at h
    cases h1 : p.1 == q.1 with
    | false =>
      rw [h1, if_neg (by decide)] at h
      rw [if_pos (by decide)]
      refine wpAny_bind (wpAny_rule (wpAny_bind ?_))
      refine richCompare_gives (op := .Gt) (typeIs_int _ _ t1) (typeIs_int _ _ u1) F.slot_int_gt F.entry_int_gt (F.args_int_gt_2 _ _) (gives_int_gt _ _ t1 u1) (fun x => nomatch x) ?_
      refine wpAny_bind (wpAny_pure (wpAny_pure ?_))
      exact wpAny_pure (wpAny_pure ⟨_, rfl, h⟩)
    | true =>
      rw [h1, if_pos rfl] at h
      rw [if_neg (by decide)]
      refine wpAny_pure ?_
      refine wpAny_bind ?_
      show wpAny _ _ (eqBool (.int p.2 t2) (.int q.2 u2) >>= _) _ _ _
      refine wpAny_bind (wpAny_eqBool_int ?_)
      cases h2 : p.2 == q.2 with
      | false =>
        rw [h2, if_neg (by decide)] at h
        rw [if_pos (by decide)]
        refine wpAny_bind (wpAny_rule (wpAny_bind ?_))
        refine richCompare_gives (op := .Gt) (typeIs_int _ _ t2) (typeIs_int _ _ u2) F.slot_int_gt F.entry_int_gt (F.args_int_gt_2 _ _) (gives_int_gt _ _ t2 u2) (fun x => nomatch x) ?_
        refine wpAny_bind (wpAny_pure (wpAny_pure ?_))
        exact wpAny_pure (wpAny_pure ⟨_, rfl, h⟩)
      | true =>
        rw [h2, if_pos rfl] at h
        rw [if_neg (by decide)]
        refine wpAny_pure ?_
        exact wpAny_pure (wpAny_pure ⟨_, rfl, h⟩)
theorem rc_pair {prog : Program} {w : World} {A : Around} {s : Shared} {l b : Addr} {p q : Int × Int} {P : Value → Shared → Prop} {E : Value → Shared → Prop} (hu : A.units < cLine)
    (hl : ∃ o, s.heap.get? l = some o ∧ PairO p o) (hb : ∃ o, s.heap.get? b = some o ∧ PairO q o) (h : P (.bool (pgt p q)) s) :
    wpAny (model prog w) A (richCompare .Gt (.ref l) (.ref b)) P E s := by
  have hl' := hl
  have hb' := hb
  obtain ⟨o, e, c, _⟩ := hl
  obtain ⟨o', e', c', _⟩ := hb
  exact richCompare_meets_room (op := .Gt) (show s.TypeIs (.ref l) "tuple" from ⟨_, e, c⟩) (show s.TypeIs (.ref b) "tuple" from ⟨_, e', c'⟩) F.slot_tuple_gt F.entry_tuple_gt (F.args_tuple_gt_2 _ _) (pair_gtAt l b p q)
    ⟨hl', hb', show Value.bool (pgt p q) ≠ Value.notImplemented ∧ P (.bool (pgt p q)) s from ⟨(fun x => nomatch x), h⟩⟩ hu
end Mine
-- M2
namespace Mine
noncomputable def CmpIn (prog : Program) (w : World) (A : Around) (St : Nat → Heap → Prop) (P : Nat → Value → Prop) (bt : Nat → Nat → Bool) : Prop :=
  ∀ i j m vi vj (s : Shared) (Q : Value → Shared → Prop) (E : Value → Shared → Prop), St m s.heap → P i vi → P j vj → Q (.bool (bt i j)) s → wpAny (model prog w) A (richCompare .Gt vi vj) Q E s
noncomputable def holdO (v : Value) (c : Nat) : Obj := { cls := .type "list", dict := none, data := .seq #[v, v] c, slots := #[] }
section
variable {prog : Program} {w : World} {A : Around} {R : Result → Shared → Prop} {I S : Addr} {fp wr : List Addr} {n : Nat} {P : Nat → Value → Prop} {St : Nat → Heap → Prop} {bt : Nat → Nat → Bool}
noncomputable def After (wr : List Addr) (S : Addr) (R : Result → Shared → Prop) (s : Shared) (P : Value → Prop) : Prop :=
  ∀ v h' tk, P v → (∀ b o, b ∉ wr → b ≠ S → s.heap.get? b = some o → h'.get? b = some o) → R (.ok (.ret v)) { s with heap := h', toks := tk }
theorem After.step {s : Shared} {h1 : Heap} {tk : Nat} {P : Value → Prop} (a : After wr S R s P) (hk : ∀ b o, b ∉ wr → b ≠ S → s.heap.get? b = some o → h1.get? b = some o) : After wr S R { s with heap := h1, toks := tk } P :=
  fun v h' tk' hp hk' => a v h' tk' hp fun b o h1 h2 e => hk' b o h1 h2 (hk b o h1 h2 e)
theorem loop_id : (toString "max" ++ toString ".loop" : String) = "max.loop" := by decide

theorem maxTurns (W : Walks prog w A.in1 I fp wr n P St) (hc : CmpIn prog w A.in1 St P bt) (hSf : S ∉ fp) :
    ∀ (k j : Nat) (s : Shared) (vb : Value) (c : Nat), n - (j + 1) = k → j + 1 ≤ n → St (j + 1) s.heap → P (argBest bt j) vb →
    s.heap.get? S = some (holdO vb c) → After wr S R s (P (argBest bt (n - 1))) →
    codeAny (model prog w) A (.builtin "max.loop" ⟨[.ref I, .none, .ref S], []⟩) R s
  | 0, j, s, vb, c, hk, hj, hst, hPb, hS, hR => by
    have hin : n = j + 1 := by omega
    subst hin
    have hSw : S ∉ wr := fun h => hSf (W.sub _ h)
    refine codeAny_builtin F.entry_max_loop ?_
    rw [Around.under_plainId F.plain_max_loop _]
    show wpAny _ A.in1 (seqItems? (.ref S) >>= _) _ _ s
    refine wpAny_bind (wpAny_seqItems hS rfl (wpAny_bind (wpAny_tryCatch (W.done s _ _ hst fun h' tk hk' => ?_))))
    have hS' := hk' S _ hSw hS
    show wpAny _ A.in1 (updateSeq S (fun _ => #[]) >>= _) _ _ _
    refine wpAny_bind (wpAny_updateSeq hS' rfl (wpAny_bind (wpAny_letGo (wpAny_pure ?_))))
    exact hR vb _ tk hPb fun b o h1 h2 e => (Heap.get?_update_other _ _ (Ne.symm h2)).trans (hk' b o h1 e)
  | k + 1, j, s, vb, c, hk, hj, hst, hPb, hS, hR => by
    have hlt : j + 1 < n := by omega
    have hSw : S ∉ wr := fun h => hSf (W.sub _ h)
    refine codeAny_builtin F.entry_max_loop ?_
    rw [Around.under_plainId F.plain_max_loop _]
    show wpAny _ A.in1 (seqItems? (.ref S) >>= _) _ _ s
    refine wpAny_bind (wpAny_seqItems hS rfl (wpAny_bind (wpAny_tryCatch (W.item (j + 1) s _ _ hlt hst fun v h' tk hP hst' hk' => ?_))))
    have hS' := hk' S _ hSw hS
    have hR' := hR.step (tk := tk) fun b o h1 _ e => hk' b o h1 e
    show wpAny _ A.in1 (tryCatch (holding [v, v] (richCompare .Gt v vb >>= _)) _ >>= _) _ _ _
    refine wpAny_bind (wpAny_tryCatch (wpAny_holding (wpAny_bind (hc (j + 1) (argBest bt j) _ v vb _ _ _ hst' hP hPb ?_))))
    refine wpAny_bind (wpAny_holding (wpAny_truthy_bool (wpAny_bind (wpAny_letGo (wpAny_pure ?_)))))
    cases hb : bt (j + 1) (argBest bt j) with
    | true =>
      simp only [if_true]
      refine wpAny_bind (wpAny_updateSeq hS' rfl (wpAny_bind (wpAny_letGo ?_)))
      rw [loop_id]
      refine wpAny_pure ⟨plainId_quiet F.plain_max_loop _, maxTurns W hc hSf k (j + 1) _ v _ (by omega) hlt (W.frame _ _ _ hst' fun b hbf o e => ?_) ?_ (Heap.get?_update_self _ hS' rfl) (hR'.step fun b o _ h2 e => ?_)⟩
      · exact (Heap.get?_update_other _ _ (fun h : S = b => hSf (by rw [h]; exact hbf))).trans e
      · rw [argBest, if_pos hb]; exact hP
      · exact (Heap.get?_update_other _ _ (Ne.symm h2)).trans e
    | false =>
      simp only [Bool.false_eq_true, if_false]
      refine wpAny_bind (wpAny_letGo ?_)
      rw [loop_id]
      refine wpAny_pure ⟨plainId_quiet F.plain_max_loop _, maxTurns W hc hSf k (j + 1) _ vb c (by omega) hlt hst' ?_ hS' hR'⟩
      rw [argBest, hb]; exact hPb

theorem maxFirst (W : Walks prog w A.in1 I fp wr n P St) (hc : CmpIn prog w A.in1 St P bt) (hSf : S ∉ fp) (hn : 0 < n) {s : Shared} {c : Nat} (hst : St 0 s.heap)
    (hS : s.heap.get? S = some { cls := .type "list", dict := none, data := .seq #[] c, slots := #[] }) (hR : After wr S R s (P (argBest bt (n - 1)))) :
    codeAny (model prog w) A (.builtin "max.loop" ⟨[.ref I, .none, .ref S], []⟩) R s := by
  have hSw : S ∉ wr := fun h => hSf (W.sub _ h)
  refine codeAny_builtin F.entry_max_loop ?_
  rw [Around.under_plainId F.plain_max_loop _]
  show wpAny _ A.in1 (seqItems? (.ref S) >>= _) _ _ s
  refine wpAny_bind (wpAny_seqItems hS rfl (wpAny_bind (wpAny_tryCatch (W.item 0 s _ _ hn hst fun v h' tk hP hst' hk' => ?_))))
  have hS' := hk' S _ hSw hS
  show wpAny _ A.in1 (updateSeq S (fun _ => #[v, v]) >>= _) _ _ _
  refine wpAny_bind (wpAny_updateSeq hS' rfl ?_)
  rw [loop_id]
  refine wpAny_pure ⟨plainId_quiet F.plain_max_loop _, maxTurns W hc hSf _ 0 _ v _ rfl hn (W.frame _ _ _ hst' fun b hbf o e => ?_) hP (Heap.get?_update_self _ hS' rfl)
    ((hR.step (tk := tk) fun b o h1 _ e => hk' b o h1 e).step fun b o _ h2 e => ?_)⟩
  · exact (Heap.get?_update_other _ _ (fun h : S = b => hSf (by rw [h]; exact hbf))).trans e
  · exact (Heap.get?_update_other _ _ (Ne.symm h2)).trans e

theorem walks_with (W : Walks prog w A I fp wr n P St) (tl : List (Addr × Obj)) (ht : ∀ b o, (b, o) ∈ tl → b ∉ wr) :
    Walks prog w A I (fp ++ tl.map (·.1)) wr n P (fun i h => St i h ∧ ∀ b o, (b, o) ∈ tl → h.get? b = some o) where
  sub := fun b hb => List.mem_append.mpr (.inl (W.sub b hb))
  frame := fun i h h' st hk => ⟨W.frame i h h' st.1 fun b hb o e => hk b (List.mem_append.mpr (.inl hb)) o e,
    fun b o hm => hk b (List.mem_append.mpr (.inr (List.mem_map.mpr ⟨_, hm, rfl⟩))) o (st.2 b o hm)⟩
  item := fun i s Q E hi st hQ => W.item i s Q E hi st.1 fun v h' tk hp hst hk => hQ v h' tk hp ⟨hst, fun b o hm => hk b o (ht b o hm) (st.2 b o hm)⟩ hk
  done := fun s Q E st hQ => W.done s Q E st.1 hQ
  self := fun i s Q E st hQ => W.self i s Q E st.1 hQ
end

noncomputable def pairD (p : Int × Int) : PyData := .tuple [.int p.1, .int p.2]
theorem pair_reads {h : Heap} {v : Value} {p : Int × Int} {as : List Addr} (r : Reads h v (pairD p) as) : ∃ x o, v = .ref x ∧ h.get? x = some o ∧ PairO p o := by
  unfold pairD at r
  cases r with
  | @tuple a o vs n _ _ h1 h2 h3 h4 =>
    refine ⟨_, _, rfl, h1, h2, ?_⟩
    cases hv : vs.toList with
    | nil => rw [hv] at h4; cases h4
    | cons x r =>
      rw [hv] at h4
      cases h4 with
      | cons a b =>
        cases a
        cases b with
        | cons c d =>
          cases c
          cases d
          exact ⟨_, _, n, by rw [h3]; congr 1; exact Array.toList_inj.mp hv⟩
theorem pairs_tl {h : Heap} : ∀ {ps : List (Int × Int)} {vs : List Value} {as : List Addr}, ReadsAll h vs (ps.map pairD) as →
    ∃ tl : List (Addr × Obj), (∀ b o, (b, o) ∈ tl → h.get? b = some o) ∧ ∀ (i : Nat) (v : Value), vs[i]? = some v → ∃ (p : Int × Int) (x : Addr) (o : Obj), ps[i]? = some p ∧ v = .ref x ∧ (x, o) ∈ tl ∧ PairO p o
  | [], _, _, r => by
    cases r
    exact ⟨[], fun _ _ h => (nomatch h), fun i v h => by simp at h⟩
  | p :: ps, _, _, r => by
    cases r with
    | cons a b =>
      obtain ⟨tl, h1, h2⟩ := pairs_tl b
      obtain ⟨x, o, rfl, e, po⟩ := pair_reads a
      refine ⟨(x, o) :: tl, fun b o h => ?_, fun i v h => ?_⟩
      · rcases List.mem_cons.mp h with h | h
        · cases h; exact e
        · exact h1 _ _ h
      · cases i with
        | zero => simp at h; subst h; exact ⟨p, x, o, rfl, rfl, .head _, po⟩
        | succ i =>
          obtain ⟨p', x', o', e1, e2, e3, e4⟩ := h2 i v (by simpa using h)
          exact ⟨p', x', o', by simpa using e1, e2, .tail _ e3, e4⟩

noncomputable def maxP : List (Int × Int) → Int × Int
  | [] => (0, 0)
  | p :: ps => ps.foldl (fun b a => if pgt a b then a else b) p
noncomputable def btP (ps : List (Int × Int)) (i j : Nat) : Bool := pgt (ps.getD i (0, 0)) (ps.getD j (0, 0))
theorem argBest_maxP (p : Int × Int) (ps : List (Int × Int)) : ∀ k, k ≤ ps.length → (p :: ps).getD (argBest (btP (p :: ps)) k) (0, 0) = (ps.take k).foldl (fun b a => if pgt a b then a else b) p
  | 0, _ => rfl
  | k + 1, hk => by
    have ih := argBest_maxP p ps k (by omega)
    have e : ps.take (k + 1) = ps.take k ++ [ps[k]'(by omega)] := by rw [List.take_append_getElem]
    rw [e, List.foldl_append, List.foldl_cons, List.foldl_nil, ← ih, argBest]
    have e2 : (p :: ps).getD (k + 1) (0, 0) = ps[k]'(by omega) := by
      simp [List.getD, List.getElem?_eq_getElem (show k < ps.length by omega)]
    have e3 : btP (p :: ps) (k + 1) (argBest (btP (p :: ps)) k) = pgt (ps[k]'(by omega)) ((p :: ps).getD (argBest (btP (p :: ps)) k) (0, 0)) := by
      unfold btP; rw [e2]
    rw [e3]
    split
    · exact e2
    · rfl
theorem argBest_maxP' {ps : List (Int × Int)} (h : ps ≠ []) : ps.getD (argBest (btP ps) (ps.length - 1)) (0, 0) = maxP ps := by
  cases ps with
  | nil => exact absurd rfl h
  | cons p ps =>
    have := argBest_maxP p ps ps.length (Nat.le_refl _)
    rw [List.take_of_length_le (Nat.le_refl _)] at this
    exact this

section
variable {prog : Program} {w : World} {s₀ : Shared} {k : Nat} {env : Env} {loc : Loc} {mem : Mem} {Q : AV → Mem → Prop}
theorem cw_max {i : Nat} {ps : List (Int × Int)} (hi : mem[i]? = some (.list (ps.map pairD))) (hne : ps ≠ []) (q : Q (.dat (pairD (maxP ps))) mem) : CallW prog w s₀ k (.builtin "max") [.ref i] [] mem Q :=
  callW_of fun env loc A s ρ vs hA R r => by
    obtain ⟨v, rfl, rv⟩ := repVs1 r
    obtain ⟨a, vs, n, as, rfl, _, f, e, ra⟩ := R.list hi rv
    obtain ⟨tl, t1, t2⟩ := pairs_tl ra
    have hsz : vs.size = ps.length := by have := SeqAt.ReadsAll.length _ _ _ ra; simpa using this
    have hps : 0 < ps.length := List.length_pos_iff.mpr hne
    have hl : s.heap.IsList a vs := ⟨_, e, rfl, n, rfl⟩
    have hlt : a < s.heap.objs.size := Heap.lt_size e
    refine call_function_tree F.kind_max F.plain_max F.entry_max (F.args_max1 _) ?_
    show wpAny _ A.in1 (Builtin.Builtins.bindParams "max" ["key", "default"] 0 ⟨[], []⟩ >>= _) _ _ s
    refine wpAny_bind (wpAny_of_eq (show Builtin.Builtins.bindParams "max" ["key", "default"] 0 ⟨[], []⟩ = pure [none, none] from rfl) ?_)
    refine wpAny_bind (wpAny_pure (wpAny_bind ?_))
    refine wpAny_pyIter_list hl ?_
    have W := walks_with (Walks.list (prog := prog) (w := w) (A := A.in1) hA.no s.heap.objs.size a (Nat.ne_of_lt hlt) vs) tl fun b o hm hb => by
      simp at hb; subst hb
      exact absurd (Heap.lt_size (t1 _ _ hm)) (Nat.lt_irrefl _)
    refine wpAny_bind (wpAny_newObj_type ?_)
    rw [loop_id]
    have hin : ∀ b o, s.heap.get? b = some o → ((s.heap.push { cls := .type "list_iterator", data := .fields #[.ref a, .int 0 0] }).push { cls := .type "list", data := .seq #[] }).get? b = some o := fun b o e => Heap.get?_push_of_some _ (Heap.get?_push_of_some _ e)
    have hat : ∀ {i : Nat} {v : Value}, vs[i]? = some v → ∃ x o, v = .ref x ∧ (x, o) ∈ tl ∧ PairO (ps.getD i (0, 0)) o := by
      intro i v h
      obtain ⟨p, x, o, e1, e2, e3, e4⟩ := t2 i v (by simpa using h)
      refine ⟨x, o, e2, e3, ?_⟩
      rw [List.getD, e1]; exact e4
    refine wpAny_pure ⟨plainId_quiet F.plain_max_loop _, maxFirst (A := A) W (bt := btP ps) ?_ ?_ (by omega) ⟨⟨⟨_, Heap.get?_push_of_some _ (Heap.get?_push_size _ rfl), rfl, rfl⟩, ⟨_, hin _ _ e, rfl, n, rfl⟩⟩, fun b o hm => hin _ _ (t1 _ _ hm)⟩ (Heap.get?_push_size _ rfl) ?_⟩
    · intro i j m vi vj s Q E st hvi hvj hq
      obtain ⟨x, o, rfl, m1, p1⟩ := hat hvi
      obtain ⟨y, o', rfl, m2, p2⟩ := hat hvj
      exact rc_pair (by have := hA.un; show A.units + 1 < cLine; omega) ⟨o, st.2 _ _ m1, p1⟩ ⟨o', st.2 _ _ m2, p2⟩ hq
    · show _ ∉ _
      have hs1 : (s.heap.push { cls := .type "list_iterator", data := .fields #[.ref a, .int 0 0] }).objs.size = s.heap.objs.size + 1 := Heap.size_push ..
      rw [hs1]
      intro hm
      have hlow : ∀ b ∈ [s.heap.objs.size, a] ++ tl.map (·.1), b ≤ s.heap.objs.size := by
        intro b hb
        rcases List.mem_append.mp hb with hb | hb
        · rcases List.mem_cons.mp hb with rfl | hb
          · exact Nat.le_refl _
          · rcases List.mem_cons.mp hb with rfl | hb
            · exact Nat.le_of_lt hlt
            · cases hb
        · obtain ⟨⟨b', o⟩, hm, rfl⟩ := List.mem_map.mp hb
          exact Nat.le_of_lt (Heap.lt_size (t1 _ _ hm))
      exact Nat.not_succ_le_self _ (hlow _ hm)
    · intro v h' tk hv hk
      have hkeep : ∀ b o, s.heap.get? b = some o → h'.get? b = some o := fun b o e => by
        have hb := Heap.lt_size e
        refine hk b o (fun hm => ?_) (fun he => ?_) (hin b o e)
        · rcases List.mem_cons.mp hm with rfl | hm
          · exact Nat.lt_irrefl _ hb
          · cases hm
        · have hs1 : (s.heap.push { cls := .type "list_iterator", data := .fields #[.ref a, .int 0 0] }).objs.size = s.heap.objs.size + 1 := Heap.size_push ..
          rw [he] at hb
          exact Nat.not_succ_lt_self (hs1 ▸ hb)
      refine PostV.keeps q ?_ R hkeep
      rw [hsz] at hv
      obtain ⟨x, o, rfl, m1, p1, t, u, n', p2⟩ := hat hv
      rw [argBest_maxP' hne] at p2
      exact ⟨rfl, _, .tuple (hkeep _ _ (t1 _ _ m1)) p1 p2 (.cons (.int _ _) (.cons (.int _ _) .nil))⟩
end
end Mine
-- M3
namespace Mine
section
variable {prog : Program} {w : World} {s₀ : Shared} {k : Nat} {env : Env} {loc : Loc} {mem : Mem} {Q : AFlow → Loc → Mem → Prop}
theorem wx_unD {x y : Str} {px py tpos pos : Pos} {kk : Nat} {e : Expr}
    (h : WE prog w s₀ k env loc e mem fun v m => ∃ d d', v = .tup [d, d'] ∧ Q .next (setL (setL loc x (.dat d)) y (.dat d')) m)
    (hx : Storable env x) (hy : Storable env y)
    (hs : swapsWithSole [.Tuple [.Name x px, .Name y py] kk tpos] e pos.line env = pure false)
    (hw : swappedStores [.Tuple [.Name x px, .Name y py] kk tpos] e env = pure none) :
    WX prog w s₀ k env loc (.Assign [.Tuple [.Name x px, .Name y py] kk tpos] e pos) mem Q := by
  intro A s ρ hA R
  refine Assign_Tuple (wpAny_mono (h A s ρ hA R) ?_ fun _ _ x => x) hs hw
  rintro v' s1 ⟨v, m, ρ1, ⟨d, d', rfl, q⟩, rv, R1, x1⟩
  exact ass_ok (t := .Tuple [.Name x px, .Name y py] kk tpos) (d := .tuple [d, d']) (PL := fun l => l = setL (setL loc x (.dat d)) y (.dat d')) ⟨hx, hy, rfl⟩ hA.no R1 rv fun l s' hl R' x' => ⟨.next, l, m, ρ1, by subst hl; exact q, rfl, R', x1.nil.trans x'⟩
theorem wx_unP {x y : Str} {px py tpos pos : Pos} {kk : Nat} {e : Expr}
    (h : WE prog w s₀ k env loc e mem fun v m => ∃ i j, v = .pair i j ∧ Q .next (setL (setL loc x (.ref i)) y (.ref j)) m)
    (hx : Storable env x) (hy : Storable env y)
    (hs : swapsWithSole [.Tuple [.Name x px, .Name y py] kk tpos] e pos.line env = pure false)
    (hw : swappedStores [.Tuple [.Name x px, .Name y py] kk tpos] e env = pure none) :
    WX prog w s₀ k env loc (.Assign [.Tuple [.Name x px, .Name y py] kk tpos] e pos) mem Q := by
  intro A s ρ hA R
  refine Assign_Tuple (wpAny_mono (h A s ρ hA R) ?_ fun _ _ x => x) hs hw
  rintro v' s1 ⟨v, m, ρ1, ⟨i, j, rfl, q⟩, ⟨t, a, b, n, rfl, ea, eb, et⟩, R1, x1⟩
  refine assign_Tuple_tuple hA.no ⟨_, et, rfl, n, rfl⟩ rfl rfl fun h' hb => ?_
  have hk : ∀ b o, s1.heap.get? b = some o → h'.get? b = some o := fun b o eb => hb b o (Nat.ne_of_lt (Heap.lt_size eb)) eb
  have R2 : Rep s₀ env ρ1 loc m { s1 with heap := h' } := R1.keeps (t := s1.toks) hk
  have x2 : Ext (own env) ρ1 s1 ρ1 { s1 with heap := h' } := Ext.ofKeeps (t := s1.toks) hk
  show wpAny _ A (do holding [.ref b] (assign (.Name x px) env (.ref a)); assignInOrder [assign (.Name y py) env] [.ref b]) _ NoE _
  refine wpAny_bind (wpAny_holding (assign_Name (R2.store (v := .ref i) ⟨a, ea, rfl⟩ hx fun s3 R3 x3 => ?_)))
  show wpAny _ A (do holding [] (assign (.Name y py) env (.ref b)); pure ()) _ NoE _
  refine wpAny_bind (wpAny_holding (assign_Name (R3.store (v := .ref j) ⟨b, eb, rfl⟩ hy fun s4 R4 x4 => ?_)))
  exact wpAny_pure ⟨.next, _, m, ρ1, q, rfl, R4, ((x1.nil.trans x2).trans x3).trans x4⟩
noncomputable abbrev DownS (Inv : Nat → Loc → Mem → Prop) (n : Nat) (l : Loc) (m : Mem) : Prop := ∃ n' l', n' < n ∧ Sub l' l ∧ Inv n' l' m
theorem wxs_while {test : Expr} {body rest : List Stmt} {pos : Pos} (Inv : Nat → Loc → Mem → Prop) (n : Nat) (base : Loc) (hb : Sub base loc) (h0 : Inv n base mem)
    (hturn : ∀ n l m, Inv n l m → WT prog w s₀ k env l test m fun b m' => if b then WXs prog w s₀ k env l body m' (LoopP (DownS Inv n) Q)
      else WXs prog w s₀ k env l rest m' Q) : WXs prog w s₀ k env loc (.While test body [] pos :: rest) mem Q := by
  refine wxs_cons (wx_while (fun n l m => ∃ b, Sub b l ∧ Inv n b m) n ⟨base, hb, h0⟩ ?_)
  rintro n l m ⟨b, hs, hI⟩
  refine WT.sub hs ?_
  intro A s ρ hA R
  refine wpAny_mono (hturn n b m hI A s ρ hA R) ?_ fun _ _ x => x
  rintro c s' ⟨m', ρ', q, y⟩
  refine ⟨m', ρ', ?_, y⟩
  cases c with
  | true =>
    rw [if_pos rfl] at q ⊢
    refine WXs.sub hs ?_
    intro A s ρ hA R
    refine wpAny_mono (q A s ρ hA R) ?_ fun _ _ x => x
    rintro f s' ⟨fl, l'', m'', ρ', q, y⟩
    refine ⟨fl, l'', m'', ρ', ?_, y⟩
    cases fl with
    | next =>
      obtain ⟨n', l', h1, h2, h3⟩ := q
      exact ⟨n', h1, l', h2, h3⟩
    | ret v => exact q
  | false =>
    rw [if_neg (by decide)] at q ⊢
    exact WXs.sub hs q
end
end Mine
-- H0
namespace Mine
section
variable {prog : Program} {w : World} {s₀ : Shared} {k : Nat} {env : Env} {loc : Loc} {mem : Mem} {Q : AV → Mem → Prop}
  {A : Around} {s : Shared} {ρ ρ' : List Addr} {h h' : Heap}
noncomputable def isMeth (name : Str) : Bool := ([("split" : Str), "startswith", "endswith", "find", "join", "upper", "lower", "append", "extend", "count"] : List Str).any fun x => x == name
theorem we_methB (G : Gr w s₀ (KK w)) {o : Expr} {name : Str} {apos pos : Pos} {args : List Expr} {pl : Sem Bool} (_hn : isMeth name = true)
    (h : WE prog w s₀ k env loc o mem fun ov m => ∃ T id, MethT T name id ∧ TypeOk m ov T ∧ WA prog w s₀ k env loc pos args m fun avs m' => CallW prog w s₀ k (.builtin id) (ov :: avs) [] m' Q)
    (he : eval (.Call (.Attribute o name apos) args [] pos) env = (do
      let ov ← eval o env
      standAt apos.atName
      let (f, first) ← holding [ov] (getMethod ov name pl)
      callWith pos f first (backTo pos (starEach args env)) (backToKw pos (keywordEach [] env))))
    (hp : (backTo pos (starEach args env)).any (·.1) = false)
    (hn : (match starEach args env with | (false, _) :: _ => true | [] => true | _ => false) = true) :
    WE prog w s₀ k env loc (.Call (.Attribute o name apos) args [] pos) mem Q := we_meth G h he hp hn

theorem we_headersL (G : Gr w s₀ (KK w)) {o : Expr} {pos : Pos} (h : WE prog w s₀ k env loc o mem fun ov m => ∃ i d j, ov = .ref i ∧ m[i]? = some (.inst d) ∧ m[d]? = some (.idict (some j)) ∧ Q (.ref j) m)
    (he : eval (.Attribute o "_headers" pos) env = (do let ov ← eval o env; standAt pos.atName; let r ← holding [ov] (getAttr ov "_headers" true); letTemporaryGo o ov r; pure r))
    (ht : ∀ v r, letTemporaryGo o v r = pure ()) : WE prog w s₀ k env loc (.Attribute o "_headers" pos) mem Q := we_headers G h he ht
theorem wx_headersL (G : Gr w s₀ (KK w)) {o value : Expr} {p' pos : Pos} {Q : AFlow → Loc → Mem → Prop}
    (h : WE prog w s₀ k env loc value mem fun v m => WE prog w s₀ k env loc o m fun ov m' => ∃ i d j, v = .ref j ∧ ov = .ref i ∧ m'[i]? = some (.inst d) ∧ m'[d]? = some (.idict none) ∧ Q .next loc (m'.set d (.idict (some j))))
    (hs : swapsWith value (some (.Attribute o "_headers" p')) pos.line env = pure false) :
    WX prog w s₀ k env loc (.Assign [.Attribute o "_headers" p'] value pos) mem Q := wx_headers G h hs

theorem pat50 (w : World) {h : Heap} (X : (KK w).In h) : PatAt h 50 codeN := by
  refine ⟨⟨_, _, 49, _, X 50 _ rfl, rfl, rfl, rfl, rfl, rfl, rfl, _, _, X 49 _ rfl, rfl, by decide +kernel⟩⟩
theorem pat55 (w : World) {h : Heap} (X : (KK w).In h) : PatAt h 55 codeV := by
  refine ⟨⟨_, _, 54, _, X 55 _ rfl, rfl, rfl, rfl, rfl, rfl, rfl, _, _, X 54 _ rfl, rfl, by decide +kernel⟩⟩
noncomputable def isPat (p : Addr) : Prop := p = 50 ∨ p = 55
theorem pat_at (w : World) {h : Heap} (X : (KK w).In h) {p : Addr} (hp : isPat p) : ∃ c, isCode c ∧ PatAt h p c := by
  rcases hp with rfl | rfl
  · exact ⟨_, .inl rfl, pat50 w X⟩
  · exact ⟨_, .inr rfl, pat55 w X⟩

theorem we_methP (G : Gr w s₀ (KK w)) {o : Expr} {apos pos : Pos} {args : List Expr} {pl : Sem Bool}
    (h : WE prog w s₀ k env loc o mem fun ov m => ∃ p, ov = .cst (.ref p) ∧ isPat p ∧ WA prog w s₀ k env loc pos args m fun avs m' => CallW prog w s₀ k (.builtin "re.Pattern.search") (ov :: avs) [] m' Q)
    (he : eval (.Call (.Attribute o "search" apos) args [] pos) env = (do
      let ov ← eval o env
      standAt apos.atName
      let (f, first) ← holding [ov] (getMethod ov "search" pl)
      callWith pos f first (backTo pos (starEach args env)) (backToKw pos (keywordEach [] env))))
    (hp : (backTo pos (starEach args env)).any (·.1) = false)
    (hn : (match starEach args env with | (false, _) :: _ => true | [] => true | _ => false) = true) :
    WE prog w s₀ k env loc (.Call (.Attribute o "search" apos) args [] pos) mem Q := by
  intro A s ρ hA R
  rw [he]
  refine WV.go h hA R ?_
  rintro ov m ρ1 v' s1 ⟨p, rfl, hpat, ha⟩ rv R1 x1
  obtain rfl : v' = .ref p := rv
  have X : (KK w).In s1.heap := G.k.keeps R1.keep0
  obtain ⟨c, hc, P⟩ := pat_at w X hpat
  obtain ⟨o', fs, cc, vs, e1, e2, e3, _⟩ := P.obj
  refine wpAny_bind (wpAny_standAt (wpAny_bind (wpAny_holding (getMethod_builtin (T := "re.Pattern") ⟨o', e1, e2⟩ mt_search.pa mt_search.slot mt_search.ty (fun a ea => by cases ea; exact ⟨o', e1, e3⟩) ?_))))
  refine callWith_of (P := fun h => (KK w).In h) (by rw [hp]; rfl) (fun h X => (show Called (KK w) (.builtin "re.Pattern.search") from .inl ⟨_, rfl⟩).looks h X) ?_
  have main : wpAny (model prog w) A (spliced (backTo pos (starEach args env))) (fun vs s₁ => (KK w).In s₁.heap ∧ wpAny (model prog w) A (call (.builtin "re.Pattern.search") ([.ref p] ++ vs) []) (PostV s₀ env ρ loc s Q) NoE s₁) NoE s1 := by
    refine wpAny_mono (ha A s1 ρ1 hA R1) ?_ fun _ _ x => x
    rintro vs' s2 ⟨vs, m2, ρ2, q, rvs, R2, x2⟩
    exact ⟨G.k.keeps R2.keep0, wpAny_mono (q env loc A s2 ρ2 (.ref p :: vs') [] hA R2 (.cons (by rfl) rvs) .nil) (fun _ _ p => (p.trans x2).trans x1) fun _ _ x => x⟩
  cases hst : starEach args env with
  | nil => rw [hst] at main; exact evalArgs_nil_any main
  | cons y r =>
    obtain ⟨b, t⟩ := y
    rw [hst] at hn main
    cases b with
    | true => cases hn
    | false => exact Calls.evalArgs_plain main

noncomputable def Safe (x : Str) : Prop := (∀ c ∈ x.cps, c ∈ safe) ∧ x.length ≤ 1000
theorem cw_search (G : Gr w s₀ (KK w)) {p : Addr} {x : Str} (hp : isPat p) (hx : Safe x) (q : Q .none mem) : CallW prog w s₀ k (.builtin "re.Pattern.search") [.cst (.ref p), .str x] [] mem Q :=
  callW_of fun env loc A s ρ vs hA R r => by
    obtain ⟨v, u, rfl, rv, ru⟩ := repVs2 r
    obtain rfl : v = .ref p := rv
    obtain ⟨t, rfl⟩ := ru.str
    obtain ⟨c, hc, P⟩ := pat_at w (G.k.keeps R.keep0) hp
    exact search_none P hc hx.1 hx.2 (PostV.of' q repV_none R)
end
end Mine
namespace Mine
set_option compiler.extract_closed false
local macro_rules | `(tactic| walk_at "nm") => `(tactic| ((with_reducible refine' we_name ?h1 ?_ ?h2 ?h3 ?h4); (case h1 => exact rfl); (case h2 => first | exact .inl rfl | exact .inr (.inl rfl) | exact .inr (.inr rfl)); (case h3 => exact rfl); (case h4 => exact rfl)))
local macro_rules | `(tactic| walk_at "st") => `(tactic| first | exact .inl rfl | exact .inr ⟨rfl, rfl⟩)
local macro_rules | `(tactic| walk_at "gl") => `(tactic| ((with_reducible refine' n_any (by assumption) ?h0 ?h ?_); (case h0 => exact rfl); (case h => exact rfl)))
local macro_rules | `(tactic| walk_at "m") => `(tactic| first
  | with_reducible refine' wxs_cons ?_
  | with_reducible refine' wxs_nil ?_
  | with_reducible refine' wx_return ?_
  | with_reducible refine' wx_if ?_
  | with_reducible refine' wx_assert ?_
  | ((with_reducible refine' wx_assign ?_ ?h1 ?h2); (case h1 => walk_at "st"); (case h2 => exact rfl))
  | ((with_reducible refine' wx_headersL (by assumption) ?_ ?h1); (case h1 => exact rfl))
  | ((with_reducible refine' wx_setAll ?_ ?h1); (case h1 => exact rfl))
  | ((with_reducible refine' wx_setI (by assumption) ?_ ?h1); (case h1 => exact rfl))
  | ((with_reducible refine' wx_expr ?_ ?h1 ?h2); (case h1 => exact rfl); (case h2 => exact rfl))
  | ((with_reducible refine' wt_cmp ?_ ?h1); (case h1 => exact rfl))
  | with_reducible refine' wt_not ?_
  | with_reducible refine' wt_and ?_
  | with_reducible refine' wt_and3 ?_
  | with_reducible refine' wt_or ?_
  | with_reducible refine' we_none ?_
  | with_reducible refine' we_bool ?_
  | with_reducible refine' we_int ?_
  | with_reducible refine' we_neg ?_
  | with_reducible refine' we_str ?_
  | walk_at "gl"
  | walk_at "nm"
  | with_reducible refine' we_bin ?_
  | ((with_reducible refine' we_cmp ?_ ?h1); (case h1 => exact rfl))
  | ((with_reducible refine' we_methB (by assumption) ?h0 ?_ ?h1 ?h2 ?h3); (case h0 => exact rfl); (case h1 => exact rfl); (case h2 => exact rfl); (case h3 => exact rfl))
  | ((with_reducible refine' we_methP (by assumption) ?_ ?h1 ?h2 ?h3); (case h1 => exact rfl); (case h2 => exact rfl); (case h3 => exact rfl))
  | ((with_reducible refine' we_methI (by assumption) ?_ ?h1 ?h2 ?h3); (case h1 => exact rfl); (case h2 => exact rfl); (case h3 => exact rfl))
  | ((with_reducible refine' we_methK (by assumption) ?_ ?h1 ?h2 ?h3); (case h1 => exact rfl); (case h2 => exact rfl); (case h3 => exact rfl))
  | ((with_reducible refine' we_headersL (by assumption) ?_ ?h1 ?h2); (case h1 => exact rfl); (case h2 => (intro _ _; exact rfl)))
  | ((with_reducible refine' we_call (by assumption) ?_ ?h1 ?h2 ?h3); (case h1 => exact rfl); (case h2 => exact rfl); (case h3 => exact rfl))
  | with_reducible refine' we_ifexp ?_
  | ((with_reducible refine' we_sub ?_ ?h1); (case h1 => (intro _ _; exact rfl)))
  | with_reducible refine' wa_nil ?_
  | ((with_reducible refine' wa_cons ?_ ?h1); (case h1 => exact rfl))
  | ((with_reducible refine' ex_calledQ ?h1 ?_); (case h1 => exact rfl))
  | with_reducible refine' we_tuple ?_
  | with_reducible refine' we_list ?_
  | ((with_reducible refine' wt_plain ?_ ?h1); (case h1 => exact rfl)))
set_option compiler.extract_closed true
-- E1
section
noncomputable abbrev dots : Str := "..."
noncomputable def eloop (got : Str) (ep : Int) : List Str → Int → Bool
  | [], _ => true
  | w :: ws, sp => if find4 got w sp ep < 0 then false else eloop got ep ws (find4 got w sp ep + w.length)
noncomputable def estart (got : Str) (ws : List Str) (sp ep : Int) : Bool := if ep < sp then false else eloop got ep ws sp
noncomputable def elast (got : Str) (ws : List Str) (sp : Int) : Bool :=
  if ((ws.getLastD "").length : Int) != 0 then
    if Txt.endswith got (ws.getLastD "") then estart got (ws.eraseIdx (ws.length - 1)) sp ((got.length : Int) - ((ws.getLastD "").length : Int)) else false
  else estart got ws sp got.length
noncomputable def ematch (want got : Str) : Bool :=
  if !Txt.contains want dots then want == got
  else if (((Txt.split want dots).headD "").length : Int) != 0 then
    if Txt.startswith got ((Txt.split want dots).headD "") then elast got ((Txt.split want dots).eraseIdx 0) (((Txt.split want dots).headD "").length) else false
  else elast got (Txt.split want dots) 0

section
variable {prog : Program} {w : World} {s₀ : Shared} {k : Nat} {mem : Mem} {Q : AV → Mem → Prop}
theorem fn45 (w : World) : FnAt (KK w) 45 (fdAt (KK w) 45) (bodyAt (KK w) 45) :=
  ⟨⟨((KK w).lookup 45).getD default, rfl, rfl⟩, rfl, by rfl, rfl, rfl, rfl, rfl, rfl, rfl, of_decide_eq_true rfl, by rfl⟩
theorem len2 {α : Type} {l : List α} (h : l.length = 2) : ∃ a b, l = [a, b] := by
  match l, h with
  | [a, b], _ => exact ⟨a, b, rfl⟩
theorem len0 {α : Type} {l : List α} (h : l.length = 0) : l = [] := List.length_eq_zero_iff.mp h


noncomputable def elocs (want got : Str) (n : Nat) (ep sp : Int) (wv : Str) : Loc := [("want", .str want), ("got", .str got), ("ws", .ref n), ("endpos", .int ep), ("startpos", .int sp), ("w", .str wv)]

set_option maxHeartbeats 2000000 in
theorem e_c (G : Gr w s₀ (KK w)) {L n : Nat} {want got wv : Str} {ws : List Str} {sp ep : Int} (hg : got.length ≤ 1000) (hm : mem[n]? = some (.list (ws.map .str))) (hws : ∀ p ∈ ws, p.length ≤ 1000)
    {Q : AFlow → Loc → Mem → Prop} (q : ∀ l, Q (.ret (.bool (estart got ws sp ep))) l mem) :
    WXs prog w s₀ k (callEnvC (fdAt (KK w) 45) L 45) (elocs want got n ep sp wv) ((bodyAt (KK w) 45).drop 8) mem Q := by
  refine wxs_cons ?_
  repeat walk_at "m"
  refine ⟨_, .gtI _ _, ?_⟩
  split
  · rename_i hc
    repeat walk_at "m"
    have e : estart got ws sp ep = false := by unfold estart; rw [if_pos (by simpa using hc)]
    rw [e] at q
    exact q _
  · rename_i hc
    have e : estart got ws sp ep = eloop got ep ws sp := by unfold estart; rw [if_neg (by simpa using hc)]
    rw [e] at q
    walk_at "m"
    walk_at "m"
    refine wx_for ?_ (by intro _; rfl)
    walk_at "m"
    refine ⟨.list n, ws.map .str, fun rest l m => m = mem ∧ ∃ rs sp' wv', rest = rs.map .str ∧ l = elocs want got n ep sp' wv' ∧ eloop got ep rs sp' = eloop got ep ws sp ∧ ∀ p ∈ rs, p.length ≤ 1000,
      .list _ _ hm, fun rest l m' h => by obtain ⟨rfl, _⟩ := h; exact hm, ⟨rfl, ws, sp, wv, rfl, rfl, rfl, hws⟩, ?_, ?_⟩
    · rintro d rest l m' _ ⟨rfl, rs, sp', wv', hr, rfl, he, hrs⟩
      cases rs with
      | nil => cases hr
      | cons p rs =>
        injection hr with h1 h2
        subst h1 h2
        refine ⟨.inl rfl, ?_⟩
        have hp : p.length ≤ 1000 := hrs p (.head _)
        repeat walk_at "m"
        refine ⟨_, _, mt_find, .str _, ?_⟩
        repeat walk_at "m"
        refine cw_find4 ?_
        repeat walk_at "m"
        refine ⟨_, .ltI _ _, ?_⟩
        split
        · rename_i hlt
          repeat walk_at "m"
          have e2 : eloop got ep ws sp = false := by rw [← he, eloop, if_pos (by simpa using hlt)]
          rw [e2] at q
          exact q _
        · rename_i hlt
          repeat walk_at "m"
          refine wx_aug (by rfl) ?_ (.inl rfl) (by rfl)
          repeat walk_at "m"
          refine cw_lenS (by rw [sizeLine_eq]; omega) ?_
          refine ⟨_, fun A s ρ v' u' rv ru P hP => aug_addI rv ru P hP, ?_⟩
          refine wxs_nil ⟨rfl, rs, _, p, rfl, rfl, ?_, fun x hx => hrs x (.tail _ hx)⟩
          rw [← he, eloop, if_neg (by simpa using hlt)]
    · rintro l m' ⟨rfl, rs, sp', wv', hr, rfl, he, hrs⟩
      cases rs with
      | cons p rs => cases hr
      | nil =>
        show WXs _ _ _ _ _ _ _ _ _
        repeat walk_at "m"
        rw [← he] at q
        exact q _

theorem kind_dots : Builtin.Str.strKind dots = 1 := by decide +kernel
theorem map_erase {α β : Type} (f : α → β) : ∀ (l : List α) (n : Nat), (l.map f).eraseIdx n = (l.eraseIdx n).map f
  | [], _ => rfl
  | _ :: _, 0 => rfl
  | a :: l, n + 1 => by simp only [List.map_cons, List.eraseIdx_cons_succ, map_erase f l n]

set_option maxHeartbeats 2000000 in
theorem e_b (G : Gr w s₀ (KK w)) {L n : Nat} {want got wv : Str} {ws : List Str} {sp : Int} (hg : got.length ≤ 1000) (hm : n = mem.length) (hws : ∀ p ∈ ws, p.length ≤ 1000) (hne : ws ≠ []) (hl : ws.length ≤ 1002)
    {Q : AFlow → Loc → Mem → Prop} (q : ∀ l j, Q (.ret (.bool (elast got ws sp))) l (mem ++ j)) :
    WXs prog w s₀ k (callEnvC (fdAt (KK w) 45) L 45) (elocs want got n got.length sp wv) ((bodyAt (KK w) 45).drop 6) (mem ++ [.list (ws.map .str)]) Q := by
  subst hm
  have hpos : 0 < ws.length := List.length_pos_iff.mpr hne
  have hlast : (ws.map PyData.str)[(ws.map PyData.str).length - 1]? = some (.str (ws.getLastD "")) := by
    rw [List.length_map, List.getElem?_map, List.getLastD_eq_getLast?, List.getLast?_eq_getElem?]
    cases e : ws[ws.length - 1]? with
    | some x => rfl
    | none => rw [List.getElem?_eq_none_iff] at e; omega
  have hlm : ws.getLastD "" ∈ ws := by
    rw [List.getLastD_eq_getLast?, List.getLast?_eq_some_getLast hne]
    exact List.getLast_mem hne
  have hll : (ws.getLastD "").length ≤ 1000 := hws _ hlm
  refine wxs_cons ?_
  repeat walk_at "m"
  refine ⟨_, .listN mem.length (ws.map .str) _ (.str (ws.getLastD "")) (by simp) (by decide) (by simp; omega) (by decide) ?_, ?_⟩
  · have e : ((-1 : Int) + ((ws.map PyData.str).length : Nat)).toNat = (ws.map PyData.str).length - 1 := by simp; omega
    rw [e]; exact hlast
  repeat walk_at "m"
  refine ⟨_, .str _ (by rw [sizeLine_eq]; omega), ?_⟩
  split
  · rename_i h0
    repeat walk_at "m"
    refine ⟨_, _, mt_endswith, .str _, ?_⟩
    repeat walk_at "m"
    refine cw_endswith ?_
    refine ⟨_, .bool _, ?_⟩
    split
    · rename_i h1
      repeat walk_at "m"
      refine wx_aug (by rfl) ?_ (.inl rfl) (by rfl)
      repeat walk_at "m"
      refine cw_lenS (by rw [sizeLine_eq]; omega) ?_
      refine ⟨_, fun A s ρ v' u' rv ru P hP => aug_subI rv ru P hP, ?_⟩
      repeat walk_at "m"
      refine wx_delI ?_
      repeat walk_at "m"
      refine ⟨mem.length, ws.map .str, _, ws.length - 1, rfl, rfl, by simp, by rw [sizeLine_eq]; simp; omega, by decide, ?_, ?_⟩
      · rw [List.length_map]
        exact (StrLaws.seqIndex_neg (by decide) (by omega)).trans (by congr 1; omega)
      · repeat (with_reducible refine wxs_nil ?_)
        have e : elast got ws sp = estart got (ws.eraseIdx (ws.length - 1)) sp ((got.length : Int) - ((ws.getLastD "").length : Int)) := by
          unfold elast; rw [if_pos h0, if_pos h1]
        rw [e] at q
        have hset : (mem ++ [AO.list (ws.map PyData.str)]).set mem.length (.list ((ws.map PyData.str).eraseIdx (ws.length - 1))) = mem ++ [.list ((ws.eraseIdx (ws.length - 1)).map .str)] := by
          rw [map_erase]; simp
        rw [hset]
        exact e_c (n := mem.length) (mem := mem ++ [.list ((ws.eraseIdx (ws.length - 1)).map .str)]) (ws := ws.eraseIdx (ws.length - 1)) G hg (by simp) (fun p hp => hws p (List.mem_of_mem_eraseIdx hp)) fun l => q l _
    · rename_i h1
      repeat walk_at "m"
      have e : elast got ws sp = false := by unfold elast; rw [if_pos h0, if_neg h1]
      rw [e] at q
      exact q _ _
  · rename_i h0
    repeat (with_reducible refine wxs_nil ?_)
    have e : elast got ws sp = estart got ws sp got.length := by unfold elast; rw [if_neg h0]
    rw [e] at q
    exact e_c (n := mem.length) (mem := mem ++ [.list (ws.map .str)]) G hg (by simp) hws fun l => q l _

set_option maxHeartbeats 2000000 in
theorem cw_ellipsis (G : Gr w s₀ (KK w)) {want got : Str} (hw : want.length ≤ 1000) (hg : got.length ≤ 1000) (q : Q (.bool (ematch want got)) mem) :
    CallW prog w s₀ (k + 1) (.ref 45) [.str want, .str got] [] mem Q := by
  refine CallW.drop (callW_fn G (fn45 w) (ps := ["want", "got"]) (exA := []) (ex := []) (fun _ _ => .nil) ?_ ?_ ?_ ?_)
  · intro vs kvs h1 h2
    obtain ⟨a, b, rfl⟩ := len2 h1
    obtain rfl := len0 h2
    refine Looks.of_pure ?_
    kernel_rfl
  · exact of_decide_eq_true rfl
  · intro x hx
    simp at hx
    rcases hx with rfl | rfl <;> exact .inl rfl
  · intro L
    refine wxs_cons ?_
    repeat walk_at "m"
    refine ⟨_, .notInS _ _, ?_⟩
    split
    · rename_i hc
      repeat walk_at "m"
      refine ⟨_, .eqS _ _, ?_⟩
      have e : ematch want got = (want == got) := by unfold ematch; rw [if_pos hc]
      rw [e] at q
      exact dropped_dat0 q
    · rename_i hc
      have hc' : Txt.contains want dots = true := by simpa [dots] using hc
      have h2 := split_two (y := dots) (by rw [kind_dots]; exact strKind_pos want) hc'
      have hsl := fun p (hp : p ∈ Txt.split want dots) => Nat.le_trans (split_le hp) hw
      have hsn : (Txt.split want dots).length ≤ 1002 := Nat.le_trans (split_parts want dots) (by omega)
      repeat walk_at "m"
      refine ⟨_, _, mt_split, .str _, ?_⟩
      repeat walk_at "m"
      refine cw_split (by rfl) (by rw [sizeLine_eq]; omega) ?_ ?_
      · rw [parts_len, sizeLine_eq]
        have := StrLaws.occ_length_le want "..." 0 want.length (want.length + 1)
        omega
      have hem : ematch want got = if (((Txt.split want dots).headD "").length : Int) != 0 then
          if Txt.startswith got ((Txt.split want dots).headD "") then elast got ((Txt.split want dots).eraseIdx 0) (((Txt.split want dots).headD "").length) else false
        else elast got (Txt.split want dots) 0 := by unfold ematch; rw [hc']; rfl
      rw [hem] at q
      generalize Txt.split want dots = ws at *
      cases ws with
      | nil => simp at h2
      | cons w0 ws =>
        have hw0 : w0.length ≤ 1000 := hsl w0 (.head _)
        simp only [List.length_cons] at h2 hsn
        simp only [List.headD_cons, List.eraseIdx_zero, List.tail_cons] at q
        repeat walk_at "m"
        refine cw_lenL (ds := (w0 :: ws).map .str) (by simp) (by rw [sizeLine_eq]; simp; omega) ?_
        repeat walk_at "m"
        refine ⟨_, .geI _ _, ?_⟩
        refine ⟨by simp; omega, ?_⟩
        repeat walk_at "m"
        refine wx_swap ?_ (.inl rfl) (.inl rfl) (by rfl) (by rfl)
        repeat walk_at "m"
        refine cw_lenS (by rw [sizeLine_eq]; omega) ?_
        repeat walk_at "m"
        refine ⟨[.int 0, .int got.length], rfl, szl (Nat.le_of_ble_eq_true rfl), ?_⟩
        refine ⟨_, _, rfl, ?_⟩
        repeat walk_at "m"
        refine ⟨_, .listI mem.length ((w0 :: ws).map .str) _ (.str w0) (by simp) (by decide) (by decide) (by rfl), ?_⟩
        repeat walk_at "m"
        refine ⟨_, .str _ (by rw [sizeLine_eq]; omega), ?_⟩
        split
        · rename_i h0
          rw [if_pos h0] at q
          repeat walk_at "m"
          refine ⟨_, _, mt_startswith, .str _, ?_⟩
          repeat walk_at "m"
          refine cw_startswith ?_
          refine ⟨_, .bool _, ?_⟩
          split
          · rename_i h1
            rw [if_pos h1] at q
            repeat walk_at "m"
            refine cw_lenS (by rw [sizeLine_eq]; omega) ?_
            repeat walk_at "m"
            refine wx_delI ?_
            repeat walk_at "m"
            refine ⟨mem.length, (w0 :: ws).map .str, _, 0, rfl, rfl, by simp, by rw [sizeLine_eq]; simp; omega, by decide, ?_, ?_⟩
            · simp [seqIndex?]
            · repeat (with_reducible refine wxs_nil ?_)
              have hset : (mem ++ [AO.list ((w0 :: ws).map PyData.str)]).set mem.length (.list (((w0 :: ws).map PyData.str).eraseIdx 0)) = mem ++ [.list (ws.map .str)] := by simp
              rw [hset]
              refine e_b (want := want) (wv := w0) G hg rfl (fun p hp => hsl p (.tail _ hp)) ?_ (by omega) fun l j => dropped_dat q
              rintro rfl
              simp at h2
          · rename_i h1
            rw [if_neg h1] at q
            repeat walk_at "m"
            exact dropped_dat q
        · rename_i h0
          rw [if_neg h0] at q
          repeat (with_reducible refine wxs_nil ?_)
          exact e_b (want := want) (wv := w0) G hg rfl hsl (by simp) (by simp; omega) fun l j => dropped_dat q
end
end
-- H1
section
section
variable {prog : Program} {w : World} {s₀ : Shared} {k : Nat} {mem : Mem} {Q : AV → Mem → Prop}
theorem len1 {α : Type} {l : List α} (h : l.length = 1) : ∃ a, l = [a] := by
  match l, h with
  | [a], _ => exact ⟨a, rfl⟩
theorem len3 {α : Type} {l : List α} (h : l.length = 3) : ∃ a b c, l = [a, b, c] := by
  match l, h with
  | [a, b, c], _ => exact ⟨a, b, c, rfl⟩
theorem fn77 (w : World) : FnAt (KK w) 77 (fdAt (KK w) 77) (bodyAt (KK w) 77) :=
  ⟨⟨((KK w).lookup 77).getD default, rfl, rfl⟩, rfl, by rfl, rfl, rfl, rfl, rfl, rfl, rfl, of_decide_eq_true rfl, by rfl⟩

set_option maxHeartbeats 2000000 in
theorem cw_conv (G : Gr w s₀ (KK w)) {i : Nat} {x : Str} {b : Bool} (hx : Safe x) (q : Q (.str x) mem) :
    CallW prog w s₀ (k + 1) (.ref 77) [.ref i, .str x] [("name", .bool b)] mem Q := by
  refine callW_fn G (fn77 w) (ps := ["self", "value", "name"]) (exA := []) (ex := []) (fun _ _ => .nil) ?_ ?_ ?_ ?_
  · intro vs kvs h1 h2
    obtain ⟨a, b, rfl⟩ := len2 h1
    obtain ⟨c, rfl⟩ := len1 h2
    refine Looks.of_pure ?_
    kernel_rfl
  · exact of_decide_eq_true rfl
  · intro x hx
    simp at hx
    rcases hx with rfl | rfl | rfl <;> exact .inl rfl
  · intro L
    refine wxs_cons ?_
    repeat walk_at "m"
    refine cw_typeS ?_
    repeat walk_at "m"
    refine ⟨_, .isT _ _, ?_⟩
    rw [if_pos (by decide)]
    refine wxs_cons ?_
    repeat walk_at "m"
    refine ⟨_, .bool _, ?_⟩
    cases b
    · rw [if_neg (by decide)]
      repeat walk_at "m"
      refine ⟨_, rfl, .inr rfl, ?_⟩
      repeat walk_at "m"
      refine cw_search G (.inr rfl) hx ?_
      refine ⟨_, .none, ?_⟩
      rw [if_neg (by decide)]
      repeat walk_at "m"
      exact q
    · rw [if_pos rfl]
      repeat walk_at "m"
      refine ⟨_, rfl, .inl rfl, ?_⟩
      repeat walk_at "m"
      refine cw_search G (.inl rfl) hx ?_
      refine ⟨_, .none, ?_⟩
      rw [if_neg (by decide)]
      repeat walk_at "m"
      exact q
end
end
-- H2
section
noncomputable def kvD (p : Str × Str) : PyData := .tuple [.str p.1, .str p.2]
noncomputable def Tab (mem : Mem) (i d l : Nat) (kvs : List (Str × Str)) : Prop := mem[i]? = some (.inst d) ∧ mem[d]? = some (.idict (some l)) ∧ mem[l]? = some (.list (kvs.map kvD))
section
variable {prog : Program} {w : World} {s₀ : Shared} {k : Nat} {mem : Mem} {Q : AV → Mem → Prop}
theorem fn84 (w : World) : FnAt (KK w) 84 (fdAt (KK w) 84) (bodyAt (KK w) 84) :=
  ⟨⟨((KK w).lookup 84).getD default, rfl, rfl⟩, rfl, by rfl, rfl, rfl, rfl, rfl, rfl, rfl, of_decide_eq_true rfl, by rfl⟩
theorem fn130 (w : World) : FnAt (KK w) 130 (fdAt (KK w) 130) (bodyAt (KK w) 130) :=
  ⟨⟨((KK w).lookup 130).getD default, rfl, rfl⟩, rfl, by rfl, rfl, rfl, rfl, rfl, rfl, rfl, of_decide_eq_true rfl, by rfl⟩
theorem fn135 (w : World) : FnAt (KK w) 135 (fdAt (KK w) 135) (bodyAt (KK w) 135) :=
  ⟨⟨((KK w).lookup 135).getD default, rfl, rfl⟩, rfl, by rfl, rfl, rfl, rfl, rfl, rfl, rfl, of_decide_eq_true rfl, by rfl⟩
theorem fn142 (w : World) : FnAt (KK w) 142 (fdAt (KK w) 142) (bodyAt (KK w) 142) :=
  ⟨⟨((KK w).lookup 142).getD default, rfl, rfl⟩, rfl, by rfl, rfl, rfl, rfl, rfl, rfl, rfl, of_decide_eq_true rfl, by rfl⟩

theorem cw_len84 (G : Gr w s₀ (KK w)) {i d l : Nat} {kvs : List (Str × Str)} (T : Tab mem i d l kvs) (hl : kvs.length < 1000) (q : Q (.int kvs.length) mem) :
    CallW prog w s₀ (k + 1) (.ref 84) [.ref i] [] mem Q := by
  refine callW_fn G (fn84 w) (ps := ["self"]) (exA := []) (ex := []) (fun _ _ => .nil) ?_ ?_ ?_ ?_
  · intro vs kvs h1 h2
    obtain ⟨a, rfl⟩ := len1 h1
    obtain rfl := len0 h2
    refine Looks.of_pure ?_
    kernel_rfl
  · exact of_decide_eq_true rfl
  · intro x hx
    simp at hx
    subst hx; exact .inl rfl
  · intro L
    refine wxs_cons ?_
    repeat walk_at "m"
    refine ⟨i, d, l, rfl, T.1, T.2.1, ?_⟩
    repeat walk_at "m"
    refine cw_lenL T.2.2 (by rw [sizeLine_eq, List.length_map]; omega) ?_
    rw [List.length_map]
    exact q

theorem cw_items (G : Gr w s₀ (KK w)) {i d l : Nat} {kvs : List (Str × Str)} (T : Tab mem i d l kvs) (hl : kvs.length < 1000) (q : Q (.ref mem.length) (mem ++ [.list (kvs.map kvD)])) :
    CallW prog w s₀ (k + 1) (.ref 142) [.ref i] [] mem Q := by
  refine callW_fn G (fn142 w) (ps := ["self"]) (exA := []) (ex := []) (fun _ _ => .nil) ?_ ?_ ?_ ?_
  · intro vs kvs h1 h2
    obtain ⟨a, rfl⟩ := len1 h1
    obtain rfl := len0 h2
    refine Looks.of_pure ?_
    kernel_rfl
  · exact of_decide_eq_true rfl
  · intro x hx
    simp at hx
    subst hx; exact .inl rfl
  · intro L
    refine wxs_cons ?_
    refine wx_return ?_
    refine we_sliceL ?_
    repeat walk_at "m"
    refine ⟨i, d, l, rfl, T.1, T.2.1, ?_⟩
    exact ⟨l, rfl, _, T.2.2, by rw [sizeLine_eq, List.length_map]; omega, (fun _ h => by cases h), q⟩

theorem cw_keys (G : Gr w s₀ (KK w)) {i d l : Nat} {kvs : List (Str × Str)} (T : Tab mem i d l kvs) (hl : kvs.length < 1000) (q : Q (.ref mem.length) (mem ++ [.list (kvs.map fun p => .str p.1)])) :
    CallW prog w s₀ (k + 1) (.ref 130) [.ref i] [] mem Q := by
  refine callW_fn G (fn130 w) (ps := ["self"]) (exA := []) (ex := []) (fun _ _ => .nil) ?_ ?_ ?_ ?_
  · intro vs kvs h1 h2
    obtain ⟨a, rfl⟩ := len1 h1
    obtain rfl := len0 h2
    refine Looks.of_pure ?_
    kernel_rfl
  · exact of_decide_eq_true rfl
  · intro x hx
    simp at hx
    subst hx; exact .inl rfl
  · intro L
    refine wxs_cons ?_
    refine wx_return ?_
    refine we_comp ⟨rfl, of_decide_eq_true rfl, rfl⟩ ?_ (by intro _; rfl)
    repeat walk_at "m"
    refine ⟨i, d, l, rfl, T.1, T.2.1, ?_⟩
    refine ⟨_, _, _, .list _ _ T.2.2, cb0 (fun d => match d with | .tuple [a, _] => a | _ => .none) (by rw [sizeLine_eq, List.length_map]; omega) ?_, ?_⟩
    · intro C d' o hd'
      obtain ⟨⟨a, b⟩, hm, rfl⟩ := List.mem_map.mp hd'
      refine ⟨.inl rfl, .inl rfl, rfl, rfl, ?_⟩
      repeat walk_at "m"
      exact ⟨rfl, rfl⟩
    · rw [flatMap_one, List.map_map]
      exact q

theorem cw_values (G : Gr w s₀ (KK w)) {i d l : Nat} {kvs : List (Str × Str)} (T : Tab mem i d l kvs) (hl : kvs.length < 1000) (q : Q (.ref mem.length) (mem ++ [.list (kvs.map fun p => .str p.2)])) :
    CallW prog w s₀ (k + 1) (.ref 135) [.ref i] [] mem Q := by
  refine callW_fn G (fn135 w) (ps := ["self"]) (exA := []) (ex := []) (fun _ _ => .nil) ?_ ?_ ?_ ?_
  · intro vs kvs h1 h2
    obtain ⟨a, rfl⟩ := len1 h1
    obtain rfl := len0 h2
    refine Looks.of_pure ?_
    kernel_rfl
  · exact of_decide_eq_true rfl
  · intro x hx
    simp at hx
    subst hx; exact .inl rfl
  · intro L
    refine wxs_cons ?_
    refine wx_return ?_
    refine we_comp ⟨rfl, of_decide_eq_true rfl, rfl⟩ ?_ (by intro _; rfl)
    repeat walk_at "m"
    refine ⟨i, d, l, rfl, T.1, T.2.1, ?_⟩
    refine ⟨_, _, _, .list _ _ T.2.2, cb0 (fun d => match d with | .tuple [_, a] => a | _ => .none) (by rw [sizeLine_eq, List.length_map]; omega) ?_, ?_⟩
    · intro C d' o hd'
      obtain ⟨⟨a, b⟩, hm, rfl⟩ := List.mem_map.mp hd'
      refine ⟨.inl rfl, .inl rfl, rfl, rfl, ?_⟩
      repeat walk_at "m"
      exact ⟨rfl, rfl⟩
    · rw [flatMap_one, List.map_map]
      exact q
end
end
-- H3
section
section
variable {prog : Program} {w : World} {s₀ : Shared} {k : Nat} {mem : Mem} {Q : AV → Mem → Prop}
theorem get_set_ne {i d : Nat} {o o' : AO} (h : mem[i]? = some o) (hd : i ≠ d) : (mem.set d o')[i]? = some o := by rw [List.getElem?_set_ne (Ne.symm hd)]; exact h
theorem get_set_eq {d : Nat} {o o' : AO} (h : mem[d]? = some o) : (mem.set d o')[d]? = some o' := by rw [List.getElem?_set_self (List.getElem?_eq_some_iff.mp h).1]
theorem ne_of_get {i d : Nat} {o o' : AO} (h : mem[i]? = some o) (h' : mem[d]? = some o') (hne : o ≠ o') : i ≠ d := by
  rintro rfl
  rw [h] at h'
  exact hne (Option.some.inj h')
theorem fn70 (w : World) : FnAt (KK w) 70 (fdAt (KK w) 70) (bodyAt (KK w) 70) :=
  ⟨⟨((KK w).lookup 70).getD default, rfl, rfl⟩, rfl, by rfl, rfl, rfl, rfl, rfl, rfl, rfl, of_decide_eq_true rfl, by rfl⟩
noncomputable def ilocs (i j : Nat) (ex : Loc) : Loc := ("self", .ref i) :: ("headers", .ref j) :: ex
noncomputable def exl (a b : AV) : Loc := [("k", a), ("v", b)]
noncomputable def SafeKv (p : Str × Str) : Prop := Safe p.1 ∧ Safe p.2

set_option maxHeartbeats 2000000 in
theorem init_tail (G : Gr w s₀ (KK w)) {L i d j : Nat} {kvs : List (Str × Str)} (hi : mem[i]? = some (.inst d)) (hd : mem[d]? = some (.idict none)) (hj : mem[j]? = some (.list (kvs.map kvD))) (hs : ∀ p ∈ kvs, SafeKv p)
    {Q : AFlow → Loc → Mem → Prop} (q : ∀ l, Q .next l (mem.set d (.idict (some j)))) :
    WXs prog w s₀ (k + 1) (callEnvC (fdAt (KK w) 70) L 70) [("self", .ref i), ("headers", .ref j)] ((bodyAt (KK w) 70).drop 1) mem Q := by
  refine wxs_cons ?_
  repeat walk_at "m"
  refine cw_typeL hj ?_
  repeat walk_at "m"
  refine ⟨_, .isNotT _ _, ?_⟩
  rw [if_neg (by decide)]
  repeat walk_at "m"
  refine ⟨i, d, j, rfl, rfl, hi, hd, ?_⟩
  refine wxs_cons ?_
  refine wx_if ?_
  refine wt_plain ?_ (by rfl)
  refine we_bool ⟨_, .bool _, ?_⟩
  rw [if_pos rfl]
  refine wxs_cons ?_
  have e1 : (mem.set d (.idict (some j)))[i]? = some (.inst d) := get_set_ne hi (ne_of_get hi hd (by simp))
  have e2 : (mem.set d (.idict (some j)))[d]? = some (.idict (some j)) := get_set_eq hd
  have e3 : (mem.set d (.idict (some j)))[j]? = some (.list (kvs.map kvD)) := get_set_ne hj (ne_of_get hj hd (by simp))
  refine wx_for ?_ (by intro _; rfl)
  walk_at "m"
  refine ⟨.list j, kvs.map kvD, fun rest l m => m = mem.set d (.idict (some j)) ∧ ∃ ex, l = ilocs i j ex ∧ (ex = [] ∨ ∃ a b, ex = exl a b), .list _ _ e3, fun rest l m' h => by obtain ⟨rfl, _⟩ := h; exact e3,
    ⟨rfl, [], rfl, .inl rfl⟩, ?_, ?_⟩
  · rintro d' rest l m' hd' ⟨rfl, ex, rfl, hex⟩
    obtain ⟨⟨a, b⟩, hm, rfl⟩ := List.mem_map.mp hd'
    obtain ⟨sa, sb⟩ := hs _ hm
    rcases hex with rfl | ⟨u, v, rfl⟩
    all_goals
      refine ⟨.inl rfl, .inl rfl, ?_⟩
      refine wxs_cons ?_
      repeat walk_at "m"
      refine ⟨i, d, j, 77, rfl, e1, e2, .conv, ?_⟩
      repeat walk_at "m"
      refine cw_conv G sa ⟨.inl ⟨_, rfl⟩, ?_⟩
      repeat walk_at "m"
      refine ⟨i, d, j, 77, rfl, e1, e2, .conv, ?_⟩
      repeat walk_at "m"
      refine cw_conv G sb ⟨.inl ⟨_, rfl⟩, ?_⟩
      exact wxs_nil ⟨rfl, exl (.str a) (.str b), rfl, .inr ⟨_, _, rfl⟩⟩
  · rintro l m' ⟨rfl, ex, rfl, hex⟩
    exact wxs_nil (wxs_nil (q _))

set_option maxHeartbeats 2000000 in
theorem cw_init0 (G : Gr w s₀ (KK w)) {i d : Nat} (hi : mem[i]? = some (.inst d)) (hd : mem[d]? = some (.idict none)) (q : Q .none ((mem ++ [AO.list []]).set d (.idict (some mem.length)))) :
    CallC prog w s₀ (k + 2) (.ref 70) [.ref i] [] mem Q := by
  refine callC_fn G (fn70 w) (ps := ["self", "headers"]) (exA := [.none]) (ex := [.none]) (fun _ _ => .cons repV_none .nil) ?_ ?_ ?_ ?_
  · intro vs kvs h1 h2
    obtain ⟨a, rfl⟩ := len1 h1
    obtain rfl := len0 h2
    refine Looks.of_peek G.k ?_
    kernel_rfl
  · exact of_decide_eq_true rfl
  · intro x hx
    simp at hx
    rcases hx with rfl | rfl <;> exact .inl rfl
  · intro L
    refine wxs_cons ?_
    repeat walk_at "m"
    refine ⟨_, .isNotNone, ?_⟩
    rw [if_neg (by decide)]
    repeat walk_at "m"
    refine ⟨[], rfl, szl (Nat.le_of_ble_eq_true rfl), ?_⟩
    have hli := (List.getElem?_eq_some_iff.mp hi).1
    have hld := (List.getElem?_eq_some_iff.mp hd).1
    refine init_tail (kvs := []) G (d := d) (by rw [List.getElem?_append_left hli]; exact hi) (by rw [List.getElem?_append_left hld]; exact hd) (by simp) (fun _ h => nomatch h) fun l => ?_
    exact q
end
end
-- H4
section
section
variable {prog : Program} {w : World} {s₀ : Shared} {k : Nat} {mem : Mem} {Q : AV → Mem → Prop}
theorem fn91 (w : World) : FnAt (KK w) 91 (fdAt (KK w) 91) (bodyAt (KK w) 91) :=
  ⟨⟨((KK w).lookup 91).getD default, rfl, rfl⟩, rfl, by rfl, rfl, rfl, rfl, rfl, rfl, rfl, of_decide_eq_true rfl, by rfl⟩
theorem fn96 (w : World) : FnAt (KK w) 96 (fdAt (KK w) 96) (bodyAt (KK w) 96) :=
  ⟨⟨((KK w).lookup 96).getD default, rfl, rfl⟩, rfl, by rfl, rfl, rfl, rfl, rfl, rfl, rfl, of_decide_eq_true rfl, by rfl⟩
theorem fn125 (w : World) : FnAt (KK w) 125 (fdAt (KK w) 125) (bodyAt (KK w) 125) :=
  ⟨⟨((KK w).lookup 125).getD default, rfl, rfl⟩, rfl, by rfl, rfl, rfl, rfl, rfl, rfl, rfl, of_decide_eq_true rfl, by rfl⟩

set_option maxHeartbeats 2000000 in
theorem cw_init1 (G : Gr w s₀ (KK w)) {i d j : Nat} {kvs : List (Str × Str)} (hi : mem[i]? = some (.inst d)) (hd : mem[d]? = some (.idict none)) (hj : mem[j]? = some (.list (kvs.map kvD))) (hs : ∀ p ∈ kvs, SafeKv p)
    (q : Q .none (mem.set d (.idict (some j)))) : CallC prog w s₀ (k + 2) (.ref 70) [.ref i, .ref j] [] mem Q := by
  refine callC_fn G (fn70 w) (ps := ["self", "headers"]) (exA := []) (ex := []) (fun _ _ => .nil) ?_ ?_ ?_ ?_
  · intro vs kvs h1 h2
    obtain ⟨a, b, rfl⟩ := len2 h1
    obtain rfl := len0 h2
    refine Looks.of_peek G.k ?_
    kernel_rfl
  · exact of_decide_eq_true rfl
  · intro x hx
    simp at hx
    rcases hx with rfl | rfl <;> exact .inl rfl
  · intro L
    refine wxs_cons ?_
    repeat walk_at "m"
    refine ⟨_, .isNotNoneR _, ?_⟩
    rw [if_pos (by decide)]
    walk_at "m"
    refine init_tail G hi hd hj hs fun l => ?_
    exact q

theorem closedM_put {l : Nat} {o : List PyData} (h : ClosedM mem) : ClosedM (mem.set l (.list o)) := by
  intro i ob e
  rw [List.getElem?_set] at e
  split at e
  · split at e
    · cases e; trivial
    · cases e
  · have := h i ob e
    simpa using this

noncomputable def delT (kvs : List (Str × Str)) (name : Str) : List (Str × Str) := kvs.filter fun p => Txt.lower p.1 != name
theorem filter_kv (f : Str × Str → Bool) (g : PyData → Bool) (h : ∀ p, g (kvD p) = f p) : ∀ kvs : List (Str × Str), ((kvs.map kvD).filter g).map (fun d => d) = (kvs.filter f).map kvD
  | [] => rfl
  | p :: r => by
    rw [List.map_cons, List.filter_cons, List.filter_cons, h]
    split
    · rw [List.map_cons, List.map_cons, filter_kv f g h r]
    · exact filter_kv f g h r

set_option maxHeartbeats 2000000 in
theorem cw_del (G : Gr w s₀ (KK w)) {i d l : Nat} {kvs : List (Str × Str)} {name : Str} (T : Tab mem i d l kvs) (hl : kvs.length < 1000) (hn : Safe name) (hn' : Safe (Txt.lower name)) (hs : ∀ p ∈ kvs, p.1.length ≤ 1000)
    (q : Q .none (mem.set l (.list ((delT kvs (Txt.lower name)).map kvD)))) : CallW prog w s₀ (k + 2) (.ref 96) [.ref i, .str name] [] mem Q := by
  refine CallW.drop (callW_fn G (fn96 w) (ps := ["self", "name"]) (exA := []) (ex := []) (fun _ _ => .nil) ?_ ?_ ?_ ?_)
  · intro vs kvs h1 h2
    obtain ⟨a, b, rfl⟩ := len2 h1
    obtain rfl := len0 h2
    refine Looks.of_pure ?_
    kernel_rfl
  · exact of_decide_eq_true rfl
  · intro x hx
    simp at hx
    rcases hx with rfl | rfl
    · exact .inl rfl
    · exact .inr ⟨rfl, List.Mem.head _⟩
  · intro L
    refine wxs_cons ?_
    repeat walk_at "m"
    refine ⟨i, d, l, 77, rfl, T.1, T.2.1, .conv, ?_⟩
    repeat walk_at "m"
    refine ⟨_, _, mt_lower, .str _, ?_⟩
    repeat walk_at "m"
    refine cw_lower (by have := hn.2; omega) ?_
    repeat walk_at "m"
    refine cw_conv G hn' ?_
    repeat walk_at "m"
    refine we_comp ⟨rfl, of_decide_eq_true rfl, rfl⟩ ?_ (by intro _; rfl)
    repeat walk_at "m"
    refine ⟨i, d, l, rfl, T.1, T.2.1, ?_⟩
    refine ⟨_, _, _, .list _ _ T.2.2, cb1 (fun d => match d with | .tuple [.str a, _] => Txt.lower a != Txt.lower name | _ => false) (fun d => d) (by rw [sizeLine_eq, List.length_map]; omega) ?_, ?_⟩
    · intro C d' o hd'
      obtain ⟨⟨a, b⟩, hm, rfl⟩ := List.mem_map.mp hd'
      refine ⟨.inl rfl, rfl, ?_⟩
      repeat walk_at "m"
      refine ⟨_, .tupI _ _ 0 (.str a) (by decide) (by decide) rfl rfl, ?_⟩
      refine ⟨_, _, mt_lower, .str _, ?_⟩
      repeat walk_at "m"
      refine cw_lower (by have := hs _ hm; dsimp only at this; omega) ?_
      repeat walk_at "m"
      refine ⟨_, .neS _ _, ⟨rfl, rfl, ?_⟩⟩
      intro _
      repeat walk_at "m"
      exact ⟨rfl, rfl⟩
    · rw [flatMap_if, filter_kv (fun p => Txt.lower p.1 != Txt.lower name) _ (fun _ => rfl)]
      repeat walk_at "m"
      have hll := (List.getElem?_eq_some_iff.mp T.2.2).1
      have hli := (List.getElem?_eq_some_iff.mp T.1).1
      have hld := (List.getElem?_eq_some_iff.mp T.2.1).1
      refine ⟨i, d, l, rfl, by rw [List.getElem?_append_left hli]; exact T.1, by rw [List.getElem?_append_left hld]; exact T.2.1, ?_⟩
      refine ⟨l, mem.length, _, _, rfl, rfl, by omega, by rw [List.getElem?_append_left hll]; exact T.2.2, by simp; rfl, ?_, ?_⟩
      · have := List.length_filter_le (fun p : Str × Str => Txt.lower p.1 != Txt.lower name) kvs
        rw [sizeLine_eq, List.length_map, List.length_map]; omega
      · refine wxs_nil ⟨mem.set l (.list ((delT kvs (Txt.lower name)).map kvD)), _, by rw [List.set_append_left _ _ hll]; rfl, by simp, trivial, closedM_put, q⟩
end
end
-- H5
section
section
variable {prog : Program} {w : World} {s₀ : Shared} {k : Nat} {mem : Mem} {Q : AV → Mem → Prop}
noncomputable def setT (kvs : List (Str × Str)) (name val : Str) : List (Str × Str) := delT kvs (Txt.lower name) ++ [(name, val)]
theorem Tab.put {i d l : Nat} {kvs kvs' : List (Str × Str)} (T : Tab mem i d l kvs) : Tab (mem.set l (.list (kvs'.map kvD))) i d l kvs' :=
  ⟨get_set_ne T.1 (ne_of_get T.1 T.2.2 (by simp)), get_set_ne T.2.1 (ne_of_get T.2.1 T.2.2 (by simp)), get_set_eq T.2.2⟩

set_option maxHeartbeats 2000000 in
theorem cw_set (G : Gr w s₀ (KK w)) {i d l : Nat} {kvs : List (Str × Str)} {name val : Str} (T : Tab mem i d l kvs) (hl : kvs.length < 1000) (hn : Safe name) (hn' : Safe (Txt.lower name)) (hv : Safe val) (hs : ∀ p ∈ kvs, p.1.length ≤ 1000)
    (q : Q .none (mem.set l (.list ((setT kvs name val).map kvD)))) : CallW prog w s₀ (k + 3) (.ref 91) [.ref i, .str name, .str val] [] mem Q := by
  refine callW_fn G (fn91 w) (ps := ["self", "name", "val"]) (exA := []) (ex := []) (fun _ _ => .nil) ?_ ?_ ?_ ?_
  · intro vs kvs h1 h2
    obtain ⟨a, b, c, rfl⟩ := len3 h1
    obtain rfl := len0 h2
    refine Looks.of_pure ?_
    kernel_rfl
  · exact of_decide_eq_true rfl
  · intro x hx
    simp at hx
    rcases hx with rfl | rfl | rfl <;> exact .inl rfl
  · intro L
    refine wxs_cons ?_
    refine wx_delIn G ?_
    repeat walk_at "m"
    refine ⟨i, d, l, rfl, T.1, T.2.1, ?_⟩
    refine cw_del G T hl hn hn' hs ?_
    have T' : Tab (mem.set l (.list ((delT kvs (Txt.lower name)).map kvD))) i d l (delT kvs (Txt.lower name)) := T.put
    repeat walk_at "m"
    refine ⟨i, d, l, rfl, T'.1, T'.2.1, ?_⟩
    refine ⟨_, _, mt_append, .list _ _ T'.2.2, ?_⟩
    repeat walk_at "m"
    refine ⟨i, d, l, 77, rfl, T'.1, T'.2.1, .conv, ?_⟩
    repeat walk_at "m"
    refine cw_conv G hn ?_
    repeat walk_at "m"
    refine ⟨i, d, l, 77, rfl, T'.1, T'.2.1, .conv, ?_⟩
    repeat walk_at "m"
    refine cw_conv G hv ?_
    repeat walk_at "m"
    refine ⟨[.str name, .str val], rfl, szl (Nat.le_of_ble_eq_true rfl), ?_⟩
    repeat walk_at "m"
    have hlen : (delT kvs (Txt.lower name)).length ≤ kvs.length := List.length_filter_le _ _
    refine cw_append T'.2.2 (by rw [sizeLine_eq, List.length_map]; omega) ⟨.inr rfl, ?_⟩
    refine wxs_nil ?_
    have e : (mem.set l (.list ((delT kvs (Txt.lower name)).map kvD))).set l (.list ((delT kvs (Txt.lower name)).map kvD ++ [.tuple [.str name, .str val]])) = mem.set l (.list ((setT kvs name val).map kvD)) := by
      rw [List.set_set]; simp [setT, kvD]
    rw [e]
    exact q

noncomputable def getT (name dflt : Str) : List (Str × Str) → Str
  | [] => dflt
  | (a, b) :: r => if Txt.lower a == name then b else getT name dflt r

noncomputable def glocs (i : Nat) (name dflt : Str) (ex : Loc) : Loc := ("self", .ref i) :: ("name", .str (Txt.lower name)) :: ("default", .str dflt) :: ex
set_option maxHeartbeats 2000000 in
theorem cw_get (G : Gr w s₀ (KK w)) {i d l : Nat} {kvs : List (Str × Str)} {name dflt : Str} (T : Tab mem i d l kvs) (hl : kvs.length < 1000) (hn : Safe name) (hn' : Safe (Txt.lower name)) (hs : ∀ p ∈ kvs, p.1.length ≤ 1000)
    (q : Q (.str (getT (Txt.lower name) dflt kvs)) mem) : CallW prog w s₀ (k + 2) (.ref 125) [.ref i, .str name, .str dflt] [] mem Q := by
  refine callW_fn G (fn125 w) (ps := ["self", "name", "default"]) (exA := []) (ex := []) (fun _ _ => .nil) ?_ ?_ ?_ ?_
  · intro vs kvs h1 h2
    obtain ⟨a, b, c, rfl⟩ := len3 h1
    obtain rfl := len0 h2
    refine Looks.of_peek G.k ?_
    kernel_rfl
  · exact of_decide_eq_true rfl
  · intro x hx
    simp at hx
    rcases hx with rfl | rfl | rfl <;> exact .inl rfl
  · intro L
    refine wxs_cons ?_
    repeat walk_at "m"
    refine ⟨i, d, l, 77, rfl, T.1, T.2.1, .conv, ?_⟩
    repeat walk_at "m"
    refine ⟨_, _, mt_lower, .str _, ?_⟩
    repeat walk_at "m"
    refine cw_lower (by have := hn.2; omega) ?_
    repeat walk_at "m"
    refine cw_conv G hn' ?_
    refine wxs_cons ?_
    refine wx_for ?_ (by intro _; rfl)
    repeat walk_at "m"
    refine ⟨i, d, l, rfl, T.1, T.2.1, ?_⟩
    refine ⟨.list l, kvs.map kvD, fun rest lo m => m = mem ∧ ∃ rs, rest = rs.map kvD ∧ (∀ p ∈ rs, p.1.length ≤ 1000) ∧ getT (Txt.lower name) dflt rs = getT (Txt.lower name) dflt kvs ∧ ∃ ex, lo = glocs i name dflt ex ∧ (ex = [] ∨ ∃ a b, ex = exl a b),
      .list _ _ T.2.2, fun rest lo m' h => by obtain ⟨rfl, _⟩ := h; exact T.2.2, ⟨rfl, kvs, rfl, hs, rfl, [], rfl, .inl rfl⟩, ?_, ?_⟩
    · rintro d' rest lo m' hd' ⟨rfl, rs, hr, hrs, hg, ex, rfl, hex⟩
      cases rs with
      | nil => cases hr
      | cons p rs =>
        injection hr with h1 h2
        subst h1 h2
        obtain ⟨a, b⟩ := p
        have hla : a.length ≤ 1000 := hrs _ (.head _)
        rcases hex with rfl | ⟨u, v, rfl⟩
        all_goals
          refine ⟨.inl rfl, .inl rfl, ?_⟩
          refine wxs_cons ?_
          repeat walk_at "m"
          refine ⟨_, _, mt_lower, .str _, ?_⟩
          repeat walk_at "m"
          refine cw_lower (by dsimp only; omega) ?_
          repeat walk_at "m"
          refine ⟨_, .eqS _ _, ?_⟩
          split
          · rename_i hc
            repeat walk_at "m"
            rw [← hg, getT, if_pos hc] at q
            exact q
          · rename_i hc
            repeat (with_reducible refine wxs_nil ?_)
            rw [getT, if_neg hc] at hg
            exact ⟨rfl, rs, rfl, fun p hp => hrs p (.tail _ hp), hg, exl (.str a) (.str b), rfl, .inr ⟨_, _, rfl⟩⟩
    · rintro lo m' ⟨rfl, rs, hr, hrs, hg, ex, rfl, hex⟩
      cases rs with
      | cons p rs => cases hr
      | nil =>
        show WXs _ _ _ _ _ _ _ _ _
        repeat walk_at "m"
        rw [← hg] at q
        exact q
end
end
-- J1
section
section
variable {prog : Program} {w : World} {s₀ : Shared} {k : Nat} {mem : Mem} {Q : AV → Mem → Prop}
theorem fn189 (w : World) : FnAt (KK w) 189 (fdAt (KK w) 189) (bodyAt (KK w) 189) :=
  ⟨⟨((KK w).lookup 189).getD default, rfl, rfl⟩, rfl, by rfl, rfl, rfl, rfl, rfl, rfl, rfl, of_decide_eq_true rfl, by rfl⟩
noncomputable def xs (p : Nat) : Str := ⟨(List.replicate (p + 1) ("x" : Str).cps).foldl (· ++ ·) #[]⟩
noncomputable def nm (p : Nat) (g : Bool) : Str := if g then Txt.upper (xs p) else xs p
theorem xs_len {p : Nat} (hp : p < 3) : (xs p).length ≤ 3 := by
  match p, hp with
  | 0, _ => decide
  | 1, _ => decide
  | 2, _ => decide

set_option maxHeartbeats 2000000 in
theorem cw_name (G : Gr w s₀ (KK w)) {p : Nat} {g : Bool} (hp : p < 3) (q : Q (.str (nm p g)) mem) :
    CallW prog w s₀ (k + 1) (.ref 189) [.int p, .bool g] [] mem Q := by
  refine callW_fn G (fn189 w) (ps := ["place", "great"]) (exA := []) (ex := []) (fun _ _ => .nil) ?_ ?_ ?_ ?_
  · intro vs kvs h1 h2
    obtain ⟨a, b, rfl⟩ := len2 h1
    obtain rfl := len0 h2
    refine Looks.of_pure ?_
    kernel_rfl
  · exact of_decide_eq_true rfl
  · intro x hx
    simp at hx
    rcases hx with rfl | rfl <;> exact .inl rfl
  · intro L
    refine wxs_cons ?_
    repeat walk_at "m"
    refine ⟨_, .addI _ _, ?_⟩
    have e : (p : Int) + 1 = ((p + 1 : Nat) : Int) := by omega
    rw [e]
    refine ⟨_, .mulS _ (p + 1) (by omega) (by omega) (by decide) (by decide), ?_⟩
    repeat walk_at "m"
    refine ⟨_, .bool _, ?_⟩
    have hl := xs_len hp
    cases g
    · rw [if_neg (by decide)]
      repeat walk_at "m"
      exact q
    · rw [if_pos rfl]
      repeat walk_at "m"
      refine ⟨_, _, mt_upper, .str _, ?_⟩
      repeat walk_at "m"
      refine cw_upper (by show (xs p).length ≤ _; omega) ?_
      exact q
end
end
-- J2
section
noncomputable def S (l : List Nat) : Str := ⟨l.toArray⟩
theorem S_app (a b : List Nat) : S a ++ S b = S (a ++ b) := by
  show (⟨a.toArray ++ b.toArray⟩ : Str) = ⟨(a ++ b).toArray⟩
  simp
theorem S_len (a : List Nat) : (S a).length = a.length := by
  show a.toArray.size = _
  simp
theorem dots_S : (("..." : Str)) = S [46, 46, 46] := by decide +kernel
theorem nil_S : (("" : Str)) = S [] := by decide +kernel
theorem S_inj {a b : List Nat} (h : S a = S b) : a = b := by
  have : (S a).cps.toList = (S b).cps.toList := by rw [h]
  simpa [S] using this
theorem S_beq (a b : List Nat) : (S a == S b) = (a == b) := by
  rw [Bool.eq_iff_iff, beq_iff_eq, beq_iff_eq]
  exact ⟨S_inj, fun h => by rw [h]⟩
noncomputable def Low (l : List Nat) : Prop := ∀ c ∈ l, c < 128
theorem S_ascii {l : List Nat} (h : Low l) : (S l).cps.all (· < 128) = true := by
  show l.toArray.all _ = true
  simp
  exact h
theorem S_ok {l : List Nat} (h : Low l) : PyData.strOk (S l) = true := by
  show l.toArray.all _ = true
  simp
  intro c hc
  have := h c hc
  omega
theorem signs_S (l : List Nat) : signs (S l) = l.map fun c => .str (S [c]) := by
  show (l.toArray.toList.map fun c => PyData.str ⟨#[c]⟩) = _
  simp [S]

noncomputable abbrev W2 := List Nat × List Nat
noncomputable def pd (p : W2) : PyData := .tuple [.str (S p.1), .str (S p.2)]
noncomputable def wlong (sg : List Nat) (lv : List W2) : List W2 := lv.flatMap fun p => sg.map fun c => (p.1 ++ [c], p.2 ++ [c, 46, 46, 46])
noncomputable def wkeep (T : List Nat) (l : List W2) : List W2 := l.filter fun p => ematch (S p.2) (S T)
noncomputable def wl (T sg : List Nat) : Nat → List W2 → List (List Nat) → List (List Nat)
  | 0, _, ws => ws
  | n + 1, lv, ws => if lv ≠ [] ∧ ws.length ≤ 2 ^ T.length then wl T sg n (wkeep T (wlong sg lv)) (ws ++ (wkeep T (wlong sg lv)).map (·.1)) else ws
noncomputable def wordsP (T sg : List Nat) : List (List Nat) := wl T sg (2 ^ T.length + 1) [([], [46, 46, 46])] [[]]

noncomputable def sd (w : List Nat) : PyData := .str (S w)
theorem canLay_map {α : Type} (f : α → PyData) : ∀ {l : List α}, (∀ a ∈ l, (f a).canLay0 = true) → PyData.canLayAll0 (l.map f) = true
  | [], _ => rfl
  | a :: l, h => by
    rw [List.map_cons, PyData.canLayAll0, h a (.head _), canLay_map f fun b hb => h b (.tail _ hb)]; rfl
theorem depth_map {α : Type} (f : α → PyData) (n : Nat) : ∀ {l : List α}, (∀ a ∈ l, (f a).depth ≤ n) → PyData.depthAll (l.map f) ≤ n
  | [], _ => Nat.zero_le _
  | a :: l, h => by
    rw [List.map_cons, PyData.depthAll]
    exact Nat.max_le.mpr ⟨h a (.head _), depth_map f n fun b hb => h b (.tail _ hb)⟩
theorem pd_ok {p : W2} (h1 : Low p.1) (h2 : Low p.2) : (pd p).canLay0 = true := by
  simp [pd, PyData.canLay0, PyData.canLayAll0, S_ok h1, S_ok h2]
theorem pd_depth (p : W2) : (pd p).depth ≤ 60 := by simp [pd, PyData.depth, PyData.depthAll]
theorem sd_ok {p : List Nat} (h1 : Low p) : (sd p).canLay0 = true := by simp [sd, PyData.canLay0, S_ok h1]
theorem eqv_nil (ds : List PyData) : PyData.eqv (.list ds) (.list []) = ds.isEmpty := by
  cases ds <;> simp [PyData.eqv, PyData.eqvAll]

noncomputable def wlocs (T sg : List Nat) (n j : Nat) (ex : Loc) : Loc := ("text", .str (S T)) :: ("signs", .str (S sg)) :: ("words", .ref n) :: ("level", .ref j) :: ex
noncomputable def lonL (v : AV) : Loc := [("longer", v)]
structure WInv (mem : Mem) (T sg : List Nat) (R : List (List Nat)) (n : Nat) (l : Loc) (m : Mem) (lv : List W2) (ws : List (List Nat)) (jk : Mem) (j : Nat) : Prop where
  hloc : ∃ ex, l = wlocs T sg mem.length j ex ∧ (ex = [] ∨ ∃ v, ex = lonL v)
  hm : m = mem ++ .list (ws.map sd) :: jk
  hlv : m[j]? = some (.list (lv.map pd))
  run : wl T sg n lv ws = R
  fuel : lv ≠ [] → 2 ^ T.length + 2 ≤ n + ws.length
  nn : n ≤ 2 ^ T.length + 1
  sz : ws.length ≤ 256
  le : lv.length ≤ ws.length
  wlen : ∀ p ∈ lv, p.1.length + n ≤ 2 ^ T.length + 1 ∧ p.2.length + 4 * n ≤ 3 + 4 * (2 ^ T.length + 1)
  low : ∀ p ∈ lv, Low p.1 ∧ Low p.2

theorem low_app {a b : List Nat} (ha : Low a) (hb : Low b) : Low (a ++ b) := fun c hc => (List.mem_append.mp hc).elim (ha c) (hb c)
theorem fm_len {α β : Type} (f : α → List β) (k : Nat) (h : ∀ a, (f a).length = k) : ∀ l : List α, (l.flatMap f).length = l.length * k
  | [] => by simp
  | a :: l => by rw [List.flatMap_cons, List.length_append, h, fm_len f k h l, List.length_cons, Nat.succ_mul]; omega

theorem wdrop {mem m m' : Mem} {ws : List (List Nat)} {jk : Mem} {Q : AV → Mem → Prop} (hm : m = mem ++ .list (ws.map sd) :: jk) (hp : m <+: m') (q : Q (.ref mem.length) (mem ++ [.list (ws.map sd)])) : Dropped mem Q (.ref mem.length) m' := by
  subst hm
  obtain ⟨t, rfl⟩ := hp
  refine ⟨mem ++ [.list (ws.map sd)], jk ++ t, by simp, by simp, by show mem.length < _; simp, fun h => ?_, q⟩
  intro i o e
  rcases Nat.lt_or_ge i mem.length with hi | hi
  · rw [List.getElem?_append_left hi] at e
    have := h i o e
    cases o with
    | list _ => trivial
    | inst d => exact Nat.lt_of_lt_of_le this (by first | exact List.getElem?_concat_length | simp)
    | idict a =>
      cases a with
      | none => trivial
      | some j => exact Nat.lt_of_lt_of_le this (by first | exact List.getElem?_concat_length | simp)
  · rw [List.getElem?_append_right hi] at e
    cases hh : i - mem.length with
    | zero => rw [hh] at e; simp at e; subst e; trivial
    | succ k => rw [hh] at e; simp at e
theorem filter_map_of {α : Type} (h : α → PyData) (f : α → Bool) (g : PyData → Bool) (e : ∀ p, g (h p) = f p) : ∀ l : List α, ((l.map h).filter g).map (fun d => d) = (l.filter f).map h
  | [] => rfl
  | p :: r => by
    rw [List.map_cons, List.filter_cons, List.filter_cons, e]
    split
    · rw [List.map_cons, List.map_cons, filter_map_of h f g e r]
    · exact filter_map_of h f g e r
noncomputable def fL (p : W2) (e : PyData) : PyData := match e with
  | .str c => .tuple [.str (S p.1 ++ c), .str (S p.2 ++ c ++ "...")]
  | _ => .none
noncomputable def gfL (sg : List Nat) (d : PyData) : List PyData := match d with
  | .tuple [.str a, .str b] => sg.map fun c => .tuple [.str (a ++ S [c]), .str (b ++ S [c] ++ "...")]
  | _ => []
theorem gfL_map (sg : List Nat) : ∀ lv : List W2, (lv.map pd).flatMap (gfL sg) = (wlong sg lv).map pd
  | [] => rfl
  | p :: lv => by
    rw [List.map_cons, List.flatMap_cons, gfL_map sg lv, show wlong sg (p :: lv) = (sg.map fun c => (p.1 ++ [c], p.2 ++ [c, 46, 46, 46])) ++ wlong sg lv from rfl, List.map_append]
    congr 1
    show (sg.map fun c => PyData.tuple [.str (S p.1 ++ S [c]), .str (S p.2 ++ S [c] ++ "...")]) = _
    rw [List.map_map]
    refine List.map_congr_left fun c _ => ?_
    show _ = PyData.tuple [.str (S (p.1 ++ [c])), .str (S (p.2 ++ [c, 46, 46, 46]))]
    rw [S_app, S_app, dots_S, S_app]
    simp
section
variable {prog : Program} {w : World} {s₀ : Shared} {k : Nat} {mem : Mem} {Q : AV → Mem → Prop}
theorem fn194 (w : World) : FnAt (KK w) 194 (fdAt (KK w) 194) (bodyAt (KK w) 194) :=
  ⟨⟨((KK w).lookup 194).getD default, rfl, rfl⟩, rfl, by rfl, rfl, rfl, rfl, rfl, rfl, rfl, of_decide_eq_true rfl, by rfl⟩

set_option maxHeartbeats 4000000 in
theorem cw_words (G : Gr w s₀ (KK w)) {T sg : List Nat} (hT : T.length ≤ 6) (hs : sg.length ≤ 3) (hlow : Low sg)
    (q : Q (.ref mem.length) (mem ++ [.list ((wordsP T sg).map sd)])) : CallW prog w s₀ (k + 2) (.ref 194) [.str (S T), .str (S sg)] [] mem Q := by
  have hp : 2 ^ T.length ≤ 64 := Nat.pow_le_pow_right (n := 2) (by decide) hT
  refine CallW.drop (callW_fn G (fn194 w) (ps := ["text", "signs"]) (exA := []) (ex := []) (fun _ _ => .nil) ?_ ?_ ?_ ?_)
  · intro vs kvs h1 h2
    obtain ⟨a, b, rfl⟩ := len2 h1
    obtain rfl := len0 h2
    refine Looks.of_pure ?_
    kernel_rfl
  · exact of_decide_eq_true rfl
  · intro x hx
    simp at hx
    rcases hx with rfl | rfl
    · exact .inr ⟨rfl, .tail _ (.head _)⟩
    · exact .inr ⟨rfl, .head _⟩
  · intro L
    refine wxs_cons ?_
    repeat walk_at "m"
    refine ⟨[.str ""], rfl, szl (Nat.le_of_ble_eq_true rfl), ?_⟩
    repeat walk_at "m"
    refine ⟨[.str "", .str "..."], rfl, szl (Nat.le_of_ble_eq_true rfl), ?_⟩
    repeat walk_at "m"
    refine ⟨[.tuple [.str "", .str "..."]], rfl, szl (Nat.le_of_ble_eq_true rfl), ?_⟩
    refine wxs_cons ?_
    refine wx_while (fun n l m => ∃ lv ws jk j, WInv mem T sg (wordsP T sg) n l m lv ws jk j) (2 ^ T.length + 1)
      ⟨[([], [46, 46, 46])], [[]], [.list [.tuple [.str "", .str "..."]]], mem.length + 1, ?_⟩ ?_
    · refine ⟨⟨[], ?_, .inl rfl⟩, ?_, ?_, rfl, fun _ => ?_, by simp, by simp, by simp, ?_, ?_⟩
      · rw [List.length_append]; rfl
      · simp [sd, nil_S]
      · simp [pd, nil_S, dots_S]
      · simp
      · intro p hp
        simp at hp; subst hp; simp
      · intro p hp
        simp at hp; subst hp
        exact ⟨fun _ h => (by cases h), fun c hc => (by simp at hc; omega)⟩
    · rintro n l m ⟨lv, ws, jk, j, ⟨ex, rfl, hex⟩, hm, hlv, hrun, hfuel, hnn, hsz, hle, hwlen, hlw⟩
      have e1 : ∀ v, setL (wlocs T sg mem.length j ex) "longer" v = wlocs T sg mem.length j (lonL v) := by
        rcases hex with rfl | ⟨u, rfl⟩ <;> (intro v; rfl)
      have hjl : j < m.length := (List.getElem?_eq_some_iff.mp hlv).1
      have hlvD : PyData.depthAll (lv.map pd) ≤ 60 := depth_map _ _ fun p _ => pd_depth p
      have hlvC : PyData.canLayAll0 (lv.map pd) = true := canLay_map _ fun p hp => pd_ok (hlw p hp).1 (hlw p hp).2
      refine wt_and ?_
      repeat walk_at "m"
      refine ⟨[], rfl, szl (Nat.le_of_ble_eq_true rfl), ?_⟩
      refine ⟨_, .neL j m.length (lv.map pd) [] (by rw [List.getElem?_append_left hjl]; exact hlv) (by first | exact List.getElem?_concat_length | simp) hlvD hlvC rfl, ?_⟩
      rw [eqv_nil]
      cases hlv0 : lv with
      | nil =>
        rw [if_neg (by first | exact List.getElem?_concat_length | simp)]
        show WXs _ _ _ _ _ _ _ _ _
        repeat walk_at "m"
        have hR : wordsP T sg = ws := by
          rw [← hrun, hlv0]
          cases n with
          | zero => rfl
          | succ n => rw [wl, if_neg (by first | exact List.getElem?_concat_length | simp)]
        rw [hR] at q
        exact wdrop hm (by first | exact List.getElem?_concat_length | simp) q
      | cons p0 lv0 =>
        rw [← hlv0]
        have hne : lv ≠ [] := by rw [hlv0]; exact List.cons_ne_nil _ _
        rw [if_pos (by rw [hlv0]; rfl)]
        refine wt_cmp ?_ rfl
        repeat walk_at "m"
        refine cw_lenL (ds := ws.map sd) (by subst hm; simp) (by rw [sizeLine_eq, List.length_map]; omega) ?_
        repeat walk_at "m"
        refine cw_lenS (by rw [S_len, sizeLine_eq]; omega) ?_
        refine ⟨_, .powI _ _ (by omega) ?_, ?_⟩
        · rw [S_len]
          have : Builtin.Int.intBits 2 = 2 := by decide
          rw [this]; omega
        refine ⟨_, .leI _ _, ?_⟩
        have hpc : (((ws.map sd).length : Nat) : Int) ≤ (2 : Int) ^ (((S T).length : Nat) : Int).toNat ↔ ws.length ≤ 2 ^ T.length := by
          rw [List.length_map, S_len]
          have : ((2 : Int) ^ ((T.length : Nat) : Int).toNat) = ((2 ^ T.length : Nat) : Int) := by simp
          rw [this]; omega
        split
        · rename_i hc
          have hc' : ws.length ≤ 2 ^ T.length := hpc.mp (by simpa using hc)
          cases n with
          | zero => have := hfuel hne; omega
          | succ n =>
          have hlv1 : (m ++ [AO.list []])[j]? = some (.list (lv.map pd)) := by rw [List.getElem?_append_left hjl]; exact hlv
          have hlen : (wlong sg lv).length = lv.length * sg.length := fm_len _ _ (fun p => by simp) lv
          have hlen2 : (wlong sg lv).length ≤ 192 := by
            rw [hlen]
            exact Nat.mul_le_mul (by omega : lv.length ≤ 64) hs
          have hlong : (lv.map pd).flatMap (gfL sg) = (wlong sg lv).map pd := gfL_map sg lv
          have hkeep : (wkeep T (wlong sg lv)).length ≤ 192 := Nat.le_trans (List.length_filter_le _ _) hlen2
          have hall : ∀ p ∈ wlong sg lv, (p.1.length + n ≤ 2 ^ T.length + 1 ∧ p.2.length + 4 * n ≤ 3 + 4 * (2 ^ T.length + 1)) ∧ Low p.1 ∧ Low p.2 := by
            intro p hp
            obtain ⟨p', hp', hm'⟩ := List.mem_flatMap.mp hp
            obtain ⟨c, hcs, rfl⟩ := List.mem_map.mp hm'
            have h1 := hwlen p' hp'
            have h2 := hlw p' hp'
            refine ⟨⟨by simp; omega, by simp; omega⟩, low_app h2.1 ?_, low_app h2.2 ?_⟩
            · intro c' hc'; simp at hc'; subst hc'; exact hlow _ hcs
            · intro c' hc'
              simp at hc'
              rcases hc' with rfl | rfl
              · exact hlow _ hcs
              · decide
          refine wxs_cons ?_
          refine wx_comp2 ⟨rfl, of_decide_eq_true rfl, rfl⟩ ?_ (.inl rfl) (by rfl) (by intro _; rfl)
          walk_at "m"
          refine ⟨_, _, _, .list j _ hlv1, cb2 (gfL sg) ?_ ?_ (by intro _ _; rfl), ?_⟩
          · rw [hlong, List.length_map, sizeLine_eq]; omega
          · intro C d o hd
            obtain ⟨p, hp, rfl⟩ := List.mem_map.mp hd
            have h1 := hwlen p hp
            refine ⟨.inl rfl, .inl rfl, rfl, rfl, ?_⟩
            walk_at "m"
            refine ⟨[], _, _, fL p, by simp, .str _ (S_ascii hlow), fun o' => rfl, ?_, ?_⟩
            · rw [signs_S, List.map_map]; rfl
            · intro e he o'
              rw [signs_S] at he
              obtain ⟨c, hc, rfl⟩ := List.mem_map.mp he
              refine ⟨.inl rfl, rfl, ?_⟩
              repeat walk_at "m"
              refine ⟨_, .addS _ _ (by rw [S_len, S_len, sizeLine_eq]; simp; omega), ?_⟩
              repeat walk_at "m"
              refine ⟨_, .addS _ _ (by rw [S_len, S_len, sizeLine_eq]; simp; omega), ?_⟩
              repeat walk_at "m"
              refine ⟨_, .addS _ _ (by rw [S_app, S_len, sizeLine_eq]; simp; show _ + ("..." : Str).length ≤ _; rw [dots_S, S_len]; simp; omega), ?_⟩
              repeat walk_at "m"
              exact ⟨[_, _], rfl, by rw [sizeLine_eq]; simp, by simp, rfl⟩
          · rw [hlong, e1]
            refine wxs_cons ?_
            refine wx_comp ⟨rfl, of_decide_eq_true rfl, rfl⟩ ?_ (.inl rfl) (by rfl) (by intro _; rfl)
            walk_at "m"
            refine ⟨_, _, _, .list _ ((wlong sg lv).map pd) (by first | exact List.getElem?_concat_length | simp), cb1 (fun d => match d with | .tuple [_, .str b] => ematch b (S T) | _ => false) (fun d => d) ?_ ?_, ?_⟩
            · rw [List.length_map, sizeLine_eq]; omega
            · intro C d o hd
              obtain ⟨p, hp, rfl⟩ := List.mem_map.mp hd
              have hb := hall p hp
              refine ⟨.inl rfl, rfl, ?_⟩
              repeat walk_at "m"
              refine ⟨_, .tupI _ _ 1 (.str (S p.2)) (by decide) (by decide) rfl rfl, ?_⟩
              repeat walk_at "m"
              refine cw_ellipsis G (by rw [S_len]; omega) (by rw [S_len]; omega) ?_
              repeat walk_at "m"
              refine ⟨_, .isB _ _, ⟨rfl, ?_, ?_⟩⟩
              · simp [pd]
              · intro _
                repeat walk_at "m"
                exact ⟨rfl, rfl⟩
            · rw [flatMap_if, filter_map_of pd (fun p => ematch (S p.2) (S T)) _ (fun _ => rfl)]
              show WXs _ _ _ _ _ _ _ _ _
              refine wxs_cons ?_
              repeat walk_at "m"
              have hlm : mem.length < m.length := by rw [hm]; simp
              have hw0 : m[mem.length]? = some (.list (ws.map sd)) := by rw [hm]; simp
              refine ⟨_, _, mt_extend, .list mem.length (ws.map sd) ?_, ?_⟩
              · rw [List.getElem?_append_left (by simp; omega), List.getElem?_append_left (by simp; omega), List.getElem?_append_left hlm]; exact hw0
              repeat walk_at "m"
              refine we_comp ⟨rfl, of_decide_eq_true rfl, rfl⟩ ?_ (by intro _; rfl)
              walk_at "m"
              refine ⟨_, _, _, .list _ ((wkeep T (wlong sg lv)).map pd) (by simp [wkeep]), cb0 (fun d => match d with | .tuple [a, _] => a | _ => .none) ?_ ?_, ?_⟩
              · rw [List.length_map, sizeLine_eq]; omega
              · intro C d o hd
                obtain ⟨p, hp, rfl⟩ := List.mem_map.mp hd
                refine ⟨.inl rfl, rfl, ?_⟩
                repeat walk_at "m"
                exact ⟨_, .tupI _ _ 0 (.str (S p.1)) (by decide) (by decide) rfl rfl, rfl, rfl⟩
              rw [flatMap_one, List.map_map]
              repeat walk_at "m"
              refine cw_extend (o := ws.map sd) (o' := ((wkeep T (wlong sg lv)).map (·.1)).map sd) ?_ ?_ ?_ ⟨.inr rfl, ?_⟩
              · rw [List.getElem?_append_left (by simp; omega), List.getElem?_append_left (by simp; omega), List.getElem?_append_left (by simp; omega), List.getElem?_append_left hlm]; exact hw0
              · simp
                intro a b _; rfl
              · rw [List.length_map, List.length_map, List.length_map, sizeLine_eq]; omega
              have fin : ∀ (M : Mem) (j' : Nat), m <+: M → j' ≠ mem.length → M[j']? = some (.list ((wkeep T (wlong sg lv)).map pd)) →
                  WInv mem T sg (wordsP T sg) n (wlocs T sg mem.length j' (lonL (.ref (m ++ [AO.list []]).length))) (M.set mem.length (.list (ws.map sd ++ ((wkeep T (wlong sg lv)).map (·.1)).map sd))) (wkeep T (wlong sg lv)) (ws ++ (wkeep T (wlong sg lv)).map (·.1)) (jk ++ M.drop m.length) j' := by
                rintro M j' ⟨t, rfl⟩ hj' hl
                refine ⟨⟨_, rfl, .inr ⟨_, rfl⟩⟩, ?_, ?_, ?_, ?_, by omega, ?_, ?_, ?_, ?_⟩
                · rw [hm]; simp
                · rw [List.getElem?_set_ne (Ne.symm hj')]; exact hl
                · rw [← hrun, wl, if_pos ⟨hne, hc'⟩]
                · intro hk
                  have h0 := hfuel hne
                  have h1 : 1 ≤ (wkeep T (wlong sg lv)).length := List.length_pos_iff.mpr hk
                  simp; omega
                · simp; omega
                · simp
                · intro p hp
                  exact (hall p (List.mem_filter.mp hp).1).1
                · intro p hp
                  exact (hall p (List.mem_filter.mp hp).1).2
              refine wxs_nil ⟨n, by omega, wkeep T (wlong sg lv), ws ++ (wkeep T (wlong sg lv)).map (·.1), _, _, fin _ _ ?_ ?_ ?_⟩
              · simp
              · simp; omega
              · rw [List.getElem?_append_left (by first | exact List.getElem?_concat_length | simp)]
                simp [wkeep]
        · rename_i hc
          have hc' : ¬ ws.length ≤ 2 ^ T.length := fun h => hc (by simpa using hpc.mpr h)
          show WXs _ _ _ _ _ _ _ _ _
          repeat walk_at "m"
          have hR : wordsP T sg = ws := by
            rw [← hrun]
            cases n with
            | zero => rfl
            | succ n => rw [wl, if_neg (fun h => hc' h.2)]
          rw [hR] at q
          exact wdrop hm (by first | exact List.getElem?_concat_length | simp) q
end
end
-- S2
section
theorem S_cps (l : List Nat) : (S l).cps.toList = l := by simp [S]
theorem slice_to {T : List Nat} {n : Nat} (h : n ≤ T.length) : Txt.slice (S T) none (some (n : Int)) = S (T.take n) := by
  have := beq_iff_eq.mp (slice_closes_toL (x := S T) (j := (n : Int)) (by omega) (by rw [S_len]; omega))
  rw [this, S_cps]
  simp [S]
theorem slice_from {T : List Nat} {n : Nat} : Txt.slice (S T) (some (n : Int)) none = S (T.drop n) := by
  by_cases h : n ≤ T.length
  · have := beq_iff_eq.mp (slice_closes_fromL (x := S T) (i := (n : Int)) (b := (T.length : Int)) (by omega) (by rw [S_len]; omega) (by rw [S_len]))
    rw [this, S_cps]
    show (⟨_⟩ : Str) = ⟨_⟩
    congr 2
    rw [Int.toNat_natCast, List.take_of_length_le]
    rw [List.length_drop]; omega
  · rw [slice_beyond (by rw [S_len]; omega), List.drop_eq_nil_of_le (by omega)]
    rfl
theorem slice_to' {T : List Nat} {n : Nat} {z : Int} (hz : z = (n : Int)) (h : n ≤ T.length) : Txt.slice (S T) none (some z) = S (T.take n) := by rw [hz, slice_to h]
theorem slice_from' {T : List Nat} {n : Nat} {z : Int} (hz : z = (n : Int)) : Txt.slice (S T) (some z) none = S (T.drop n) := by rw [hz, slice_from]
theorem slice_last {T : List Nat} : Txt.slice (S T) (some (-1)) none = S (T.drop (T.length - 1)) := by
  by_cases h : 1 ≤ T.length
  · have := beq_iff_eq.mp (slice_closes_from_neg (x := S T) (i := (-1)) (a := -1 + (T.length : Int)) (b := (T.length : Int)) (by omega) (by rw [S_len]; omega) (by rw [S_len]) (by rw [S_len]))
    rw [this, S_cps]
    show (⟨_⟩ : Str) = ⟨_⟩
    congr 2
    have e : (-1 + (T.length : Int)).toNat = T.length - 1 := by omega
    rw [e, List.take_of_length_le]
    rw [List.length_drop]; omega
  · have : T = [] := List.length_eq_zero_iff.mp (by omega)
    subst this
    decide +kernel
theorem item_S {T : List Nat} {n : Nat} {c : Nat} (h : T[n]? = some c) : Txt.item (S T) (n : Int) = S [c] := by
  have hl := (List.getElem?_eq_some_iff.mp h).1
  unfold Txt.item Txt.charAt
  have e : seqIndex? (n : Int) (S T).length = some n := by
    unfold seqIndex?
    rw [S_len]
    have : ¬ ((n : Int) < 0) := by omega
    simp only [this, if_false]
    rw [if_pos (by simp; omega)]
    simp
  rw [e]
  simp [S, h]
theorem charAt_S {T : List Nat} {n : Nat} (h : n < T.length) : (Txt.charAt (S T) (n : Int)).isSome = true := by
  unfold Txt.charAt
  have e : seqIndex? (n : Int) (S T).length = some n := by
    unfold seqIndex?
    rw [S_len]
    have : ¬ ((n : Int) < 0) := by omega
    simp only [this, if_false]
    rw [if_pos (by simp; omega)]
    simp
  rw [e]
  simp [S, h]
theorem last_S {T : List Nat} (h : 1 ≤ T.length) : Txt.charAt (S T) (-1) = T[T.length - 1]? := by
  unfold Txt.charAt
  have e : seqIndex? (-1) (S T).length = some (T.length - 1) := by
    rw [S_len]
    exact (StrLaws.seqIndex_neg (by decide) (by omega)).trans (by congr 1; omega)
  rw [e]
  simp [S]
theorem itemLast_S {T : List Nat} {c : Nat} (h : T[T.length - 1]? = some c) : Txt.item (S T) (-1) = S [c] := by
  have hl := (List.getElem?_eq_some_iff.mp h).1
  unfold Txt.item
  rw [last_S (by omega), h]
  rfl
theorem join_S (sep : List Nat) (l : List (List Nat)) : Txt.join (S sep) (l.map S) = S ((l.drop 1).foldl (fun acc p => acc ++ sep ++ p) (l.headD [])) := by
  show Builtin.Str.glued _ _ = _
  unfold Builtin.Str.glued
  have key : ∀ (l : List (List Nat)) (acc : List Nat), (l.map S).foldl (fun acc p => acc ++ (S sep).cps ++ p.cps) acc.toArray = (l.foldl (fun acc p => acc ++ sep ++ p) acc).toArray := by
    intro l
    induction l with
    | nil => intro acc; rfl
    | cons p l ih =>
      intro acc
      rw [List.map_cons, List.foldl_cons, List.foldl_cons]
      rw [show acc.toArray ++ (S sep).cps ++ (S p).cps = (acc ++ sep ++ p).toArray by simp [S]]
      exact ih _
  cases l with
  | nil => rfl
  | cons p l => exact congrArg Str.mk (key l p)
theorem fits_nat {p : Nat} (h : p < 10) : fitsSsize ((p : Nat) : Int) = true := by
  match p, h with
  | 0, _ | 1, _ | 2, _ | 3, _ | 4, _ | 5, _ | 6, _ | 7, _ | 8, _ | 9, _ => decide
theorem small0 {n : Nat} (h : n ≤ 8) : Builtin.Range.small 0 ((0 : Int) + ((n : Nat) : Int)) 1 = true := by
  match n, h with
  | 0, _ | 1, _ | 2, _ | 3, _ | 4, _ | 5, _ | 6, _ | 7, _ | 8, _ => decide
theorem small1 {n : Nat} (h : n ≤ 8) : Builtin.Range.small 1 ((1 : Int) + ((n : Nat) : Int)) 1 = true := by
  match n, h with
  | 0, _ | 1, _ | 2, _ | 3, _ | 4, _ | 5, _ | 6, _ | 7, _ | 8, _ => decide
theorem subQ {mem : Mem} {j p : Nat} {ds : List PyData} {d : PyData} (h : mem[j]? = some (.list ds)) (hp : p < 1000) (hd : ds[((p : Nat) : Int).toNat]? = some d) : SubOk mem (.ref j) (.int ((p : Nat) : Int)) (.dat d) :=
  .listI j ds _ d h (Int.natCast_nonneg _) (by omega) hd
theorem szS {l : List Nat} (h : l.length ≤ 1000) : (S l).length ≤ sizeLine := by rw [S_len]; exact szl h
end
-- J3
section
noncomputable def D3 : List Nat := [46, 46, 46]
noncomputable def at0 (T : List Nat) : Nat := (T[0]?).getD 0
noncomputable def atz (T : List Nat) : Nat := (T[T.length - 1]?).getD 0
noncomputable abbrev Row := List Nat × Bool
noncomputable def rd (r : Row) : PyData := .tuple [.str (S r.1), .bool r.2]
noncomputable def rowsA (T : List Nat) : List Row := [([], false), (D3, true), ([46, 46, 46, 46], false), ([46, 46, 46, 46, 46, 46], true), (D3 ++ [at0 T, atz T] ++ D3, Txt.contains (S T) (S [at0 T, atz T]))]
noncomputable def rowB (T : List Nat) (f r : Nat) : Row := (T.take (1 + f) ++ D3 ++ T.drop r, decide (1 + f ≤ r))
noncomputable def rowBs (T : List Nat) (f : Nat) : List Row := (List.range T.length).map (rowB T f)
noncomputable def rowsB (T : List Nat) : List Row := (List.range T.length).flatMap (rowBs T)
noncomputable def joinD (wd : List Nat) : List Nat := ((wd.map fun c => [c]).drop 1).foldl (fun acc p => acc ++ D3 ++ p) ((wd.map fun c => [c]).headD [])
noncomputable def dueP (T : List Nat) (W : List (List Nat)) (c : Nat) (wd : List Nat) (ht : W2) : Bool :=
  !(ht.1 ++ ht.2 == [] && (wd == [c] && decide (1 < T.length))) && (!(ht.2 == [] && atz T != c) && (!(ht.1 == [] && at0 T != c) && W.any (· == wd)))
noncomputable def rowC (T : List Nat) (W : List (List Nat)) (c : Nat) (wd : List Nat) (ht : W2) : Row := (ht.1 ++ joinD wd ++ ht.2, dueP T W c wd ht)
noncomputable def hts : List W2 := [([], []), ([], D3), (D3, [])]
noncomputable def rowCs (T : List Nat) (W : List (List Nat)) (c : Nat) (wd : List Nat) : List Row := hts.map (rowC T W c wd)
noncomputable def rowCss (T : List Nat) (W : List (List Nat)) (c : Nat) : List Row := [[c], [c, c]].flatMap (rowCs T W c)
noncomputable def rowsC (T sg : List Nat) (W : List (List Nat)) : List Row := sg.flatMap (rowCss T W)
noncomputable def rowsP (T sg : List Nat) (W : List (List Nat)) : List Row := rowsA T ++ rowsB T ++ rowsC T sg W

section
variable {prog : Program} {w : World} {s₀ : Shared} {k : Nat} {env : Env} {loc base : Loc} {mem : Mem}
theorem wxs_ifFalse {x : Str} {t : Expr} {rest : List Stmt} {p pp pos' pos : Pos} {kk : Nat} {d cv : Bool} {Q : AFlow → Loc → Mem → Prop} (h : WT prog w s₀ k env loc t mem fun c m => m = mem ∧ c = cv)
    (hd : loc.lookup x = some (.bool d)) (hk : Storable env x) (hsw : swapsWith (.Constant (.bool false) kk pp) (some (.Name x p)) pos'.line env = pure false)
    (hq : WXs prog w s₀ k env (setL loc x (.bool (!cv && d))) rest mem Q) :
    WXs prog w s₀ k env loc (.If t [.Assign [.Name x p] (.Constant (.bool false) kk pp) pos'] [] pos :: rest) mem Q := by
  refine wxs_cons (wx_if ?_)
  intro A s ρ hA R
  refine wpAny_mono (h A s ρ hA R) ?_ fun _ _ x => x
  rintro b s' ⟨m, ρ', ⟨rfl, rfl⟩, y⟩
  refine ⟨_, ρ', ?_, y⟩
  cases b with
  | true =>
    rw [if_pos rfl]
    exact wxs_cons (wx_assign (we_bool (wxs_nil hq)) hk hsw)
  | false =>
    rw [if_neg (by decide)]
    refine wxs_nil (WXs.sub ?_ hq)
    intro y u e
    rw [setL_lookup] at e
    by_cases hy : y = x
    · rw [if_pos hy] at e
      subst hy
      rw [hd]; simpa using e
    · rw [if_neg hy] at e; exact e
end

theorem any_eqv (W : List (List Nat)) (wd : List Nat) : ((W.map sd).any fun y => PyData.eqv y (.str (S wd))) = W.any (· == wd) := by
  induction W with
  | nil => rfl
  | cons a W ih =>
    rw [List.map_cons, List.any_cons, List.any_cons, ih]
    congr 1
    show PyData.eqv (.str (S a)) (.str (S wd)) = _
    rw [PyData.eqv, S_beq]

section
variable {prog : Program} {w : World} {s₀ : Shared} {k : Nat} {mem : Mem} {Q : AV → Mem → Prop}
theorem fn199 (w : World) : FnAt (KK w) 199 (fdAt (KK w) 199) (bodyAt (KK w) 199) :=
  ⟨⟨((KK w).lookup 199).getD default, rfl, rfl⟩, rfl, by rfl, rfl, rfl, rfl, rfl, rfl, rfl, of_decide_eq_true rfl, by rfl⟩
noncomputable def nlocs (T sg : List Nat) (wi ri : Nat) : Loc := [("text", .str (S T)), ("signs", .str (S sg)), ("words", .ref wi), ("both", .str (S [at0 T, atz T])), ("rows", .ref ri)]

theorem ends_tail (G : Gr w s₀ (KK w)) {T sg : List Nat} {wi ri L : Nat} {R : List Row} (hT : T.length ≤ 6) (hr : mem[ri]? = some (.list (R.map rd)))
    (hrows : ∀ r ∈ R, ematch (S r.1) (S T) = r.2 ∧ r.1.length ≤ 1000) {Q : AFlow → Loc → Mem → Prop} (q : ∀ l, Q (.ret (.bool true)) l mem) :
    WXs prog w s₀ (k + 1) (callEnvC (fdAt (KK w) 199) L 199) (nlocs T sg wi ri) ((bodyAt (KK w) 199).drop 4) mem Q := by
  refine wxs_for (nlocs T sg wi ri) (Sub.refl _) ?_ (by intro _; rfl)
  walk_at "m"
  refine ⟨.list ri, R.map rd, fun rest m => m = mem, .list _ _ hr, fun r m' h => by subst h; exact hr, rfl, ?_, ?_⟩
  · rintro d r m' hd rfl
    obtain ⟨⟨want, due⟩, hm, rfl⟩ := List.mem_map.mp hd
    obtain ⟨h1, h2⟩ := hrows _ hm
    refine ⟨.inl rfl, .inl rfl, ?_⟩
    refine wxs_cons ?_
    repeat walk_at "m"
    refine cw_ellipsis G (by rw [S_len]; exact h2) (by rw [S_len]; omega) ?_
    repeat walk_at "m"
    refine ⟨_, .isNotB _ _, ?_⟩
    rw [if_neg (by rw [h1]; simp)]
    exact wxs_nil (wxs_nil ⟨Sub.app _ _, rfl⟩)
  · rintro m' rfl
    show WXs _ _ _ _ _ _ _ _ _
    repeat walk_at "m"
    exact q _
end
end
-- J4
section
theorem S_nil_beq (l : List Nat) : (S l == ("" : Str)) = (l == []) := by rw [nil_S, S_beq]
theorem getElem_at0 {T : List Nat} (h : 1 ≤ T.length) : T[0]? = some (at0 T) := by
  cases T with
  | nil => simp at h
  | cons a T => rfl
theorem getElem_atz {T : List Nat} (h : 1 ≤ T.length) : T[T.length - 1]? = some (atz T) := by
  unfold atz
  rw [List.getElem?_eq_getElem (by omega)]
  rfl
theorem S_one_ne (a c : Nat) : (S [a] != S [c]) = (a != c) := by
  show (!(S [a] == S [c])) = !(a == c)
  rw [S_beq]
  simp
theorem joinD_S (wd : List Nat) : Txt.join ("..." : Str) (wd.map fun c => S [c]) = S (joinD wd) := by
  have := join_S D3 (wd.map fun c => [c])
  rw [List.map_map] at this
  rw [dots_S]
  exact this
theorem sum_ones : ∀ l : List Nat, (l.map fun _ => 1).sum = l.length
  | [] => rfl
  | _ :: l => by rw [List.map_cons, List.sum_cons, sum_ones l, List.length_cons]; omega
section
variable {prog : Program} {w : World} {s₀ : Shared} {k : Nat} {mem : Mem}

noncomputable def rowBody (b : List Stmt) : List Stmt := match b[3]? with
  | some (Stmt.For _ _ [Stmt.For _ _ [Stmt.For _ _ b _ _] _ _] _ _) => b
  | _ => []
noncomputable def hv (ht : W2) : PyData := .tuple [.str (S ht.1), .str (S ht.2)]
noncomputable def rlocs (T sg : List Nat) (wi ri c : Nat) (wd : List Nat) : Loc := nlocs T sg wi ri ++ ([("sign", .str (S [c])), ("word", .str (S wd))] : Loc)

set_option maxHeartbeats 4000000 in
theorem ends_row (G : Gr w s₀ (KK w)) {T sg wd : List Nat} {W : List (List Nat)} {wi ri c L : Nat} {R : List Row} {ht : W2} (hT0 : 1 ≤ T.length) (hT : T.length ≤ 6) (hW : mem[wi]? = some (.list (W.map sd))) (hWl : ∀ w ∈ W, Low w) (hc : c < 128)
    (hwd : Low wd) (hwl : wd.length ≤ 2) (hht : ht.1.length ≤ 3 ∧ ht.2.length ≤ 3)
    (hr : mem[ri]? = some (.list (R.map rd))) (hl : R.length ≤ 1000) {Q : AFlow → Loc → Mem → Prop}
    (q : ∀ e j, Q .next (rlocs T sg wi ri c wd ++ e) ((mem ++ j).set ri (.list ((R ++ [rowC T W c wd ht]).map rd)))) :
    WXs prog w s₀ (k + 1) (callEnvC (fdAt (KK w) 199) L 199) (rlocs T sg wi ri c wd ++ ([("head", .str (S ht.1)), ("tail", .str (S ht.2))] : Loc))
      (rowBody (bodyAt (KK w) 199)) mem Q := by
  have hWc : PyData.canLayAll0 (W.map sd) = true := canLay_map _ fun p hp => sd_ok (hWl p hp)
  have hWd : PyData.depthAll (W.map sd) ≤ 60 := depth_map _ _ fun p _ => by simp [sd, PyData.depth]
  refine wxs_cons ?_
  repeat walk_at "m"
  refine ⟨_, .inL _ wi (W.map sd) hW hWd hWc (S_ok hwd), ?_⟩
  rw [any_eqv]
  refine wxs_ifFalse (d := W.any (· == wd)) (cv := ht.1 == [] && at0 T != c) ?_ (by rfl) (.inl rfl) (by rfl) ?_
  · refine wt_and ?_
    repeat walk_at "m"
    refine ⟨_, .eqS _ _, ?_⟩
    rw [S_nil_beq]
    split
    · rename_i hh
      repeat walk_at "m"
      refine ⟨_, .strI _ _ (by decide) (charAt_S (n := 0) (by omega)), ?_⟩
      repeat walk_at "m"
      refine ⟨_, .neS _ _, rfl, ?_⟩
      rw [show Txt.item (S T) 0 = S [at0 T] from item_S (n := 0) (getElem_at0 hT0), S_one_ne, hh]; rfl
    · rename_i hh
      exact ⟨rfl, by simp only [Bool.not_eq_true] at hh; rw [hh]; rfl⟩
  refine wxs_ifFalse (d := (!(ht.1 == [] && at0 T != c) && W.any (· == wd))) (cv := ht.2 == [] && atz T != c) ?_ (by rfl) (.inl rfl) (by rfl) ?_
  · refine wt_and ?_
    repeat walk_at "m"
    refine ⟨_, .eqS _ _, ?_⟩
    rw [S_nil_beq]
    split
    · rename_i hh
      repeat walk_at "m"
      refine ⟨_, .strI _ _ (by decide) (by rw [last_S hT0, getElem_atz hT0]; rfl), ?_⟩
      repeat walk_at "m"
      refine ⟨_, .neS _ _, rfl, ?_⟩
      rw [itemLast_S (getElem_atz hT0), S_one_ne, hh]; rfl
    · rename_i hh
      exact ⟨rfl, by simp only [Bool.not_eq_true] at hh; rw [hh]; rfl⟩
  refine wxs_ifFalse (d := (!(ht.2 == [] && atz T != c) && (!(ht.1 == [] && at0 T != c) && W.any (· == wd)))) (cv := ht.1 ++ ht.2 == [] && (wd == [c] && decide (1 < T.length))) ?_ (by rfl) (.inl rfl) (by rfl) ?_
  · refine wt_and3 ?_
    repeat walk_at "m"
    refine ⟨_, .addS _ _ (by rw [S_len, S_len, sizeLine_eq]; omega), ?_⟩
    repeat walk_at "m"
    refine ⟨_, .eqS _ _, ?_⟩
    rw [S_app, S_nil_beq]
    split
    · rename_i hh
      refine wt_and ?_
      repeat walk_at "m"
      refine ⟨_, .eqS _ _, ?_⟩
      rw [S_beq]
      split
      · rename_i h2
        repeat walk_at "m"
        refine cw_lenS (szS (by omega)) ?_
        repeat walk_at "m"
        refine ⟨_, .gtI _ _, rfl, ?_⟩
        rw [hh, h2, S_len]
        simp
        omega
      · rename_i h2
        exact ⟨rfl, by simp only [Bool.not_eq_true] at h2; rw [h2]; simp⟩
    · rename_i hh
      exact ⟨rfl, by simp only [Bool.not_eq_true] at hh; rw [hh]; rfl⟩
  refine wxs_cons ?_
  repeat walk_at "m"
  refine ⟨_, _, mt_append, .list ri _ hr, ?_⟩
  repeat walk_at "m"
  refine ⟨_, _, mt_join, .str _, ?_⟩
  repeat walk_at "m"
  refine we_comp ⟨rfl, of_decide_eq_true rfl, rfl⟩ ?_ (by intro _; rfl)
  walk_at "m"
  refine ⟨_, _, _, .str _ (S_ascii hwd), cb0 (fun d => d) ?_ ?_, ?_⟩
  · rw [signs_S, List.length_map, sizeLine_eq]; omega
  · intro C d o hd
    refine ⟨.inl rfl, rfl, ?_⟩
    repeat walk_at "m"
    exact ⟨rfl, rfl⟩
  rw [flatMap_one, signs_S]
  repeat walk_at "m"
  refine cw_join (xs := wd.map fun c => S [c]) (by first | exact List.getElem?_concat_length | simp) (joinOk_of ?_) ?_
  · have h1 : ((wd.map fun c => S [c]).map (·.length)).sum ≤ 2 := by
      rw [List.map_map]
      have : ((Str.length ∘ fun c => S [c]) : Nat → Nat) = fun _ => 1 := by funext c; exact S_len [c]
      rw [this]
      rw [sum_ones]; exact hwl
    have h2 : ("..." : Str).length = 3 := by rw [dots_S, S_len]; rfl
    rw [List.length_map, h2]; omega
  rw [joinD_S]
  have hjl : (joinD wd).length ≤ 8 := by
    match wd, hwl with
    | [], _ => decide
    | [a], _ => simp [joinD]
    | [a, b], _ => simp [joinD, D3]
  refine ⟨_, .addS _ _ (by rw [S_len, S_len, sizeLine_eq]; omega), ?_⟩
  repeat walk_at "m"
  refine ⟨_, .addS _ _ (by rw [S_app, S_len, S_len, sizeLine_eq, List.length_append]; omega), ?_⟩
  repeat walk_at "m"
  refine ⟨[_, _], rfl, szl (Nat.le_of_ble_eq_true rfl), ?_⟩
  repeat walk_at "m"
  refine cw_append (get_app hr _) (by rw [sizeLine_eq, List.length_map]; omega) ⟨.inr rfl, ?_⟩
  refine wxs_nil ?_
  have e : R.map rd ++ [.tuple [.str (S ht.1 ++ S (joinD wd) ++ S ht.2), .bool (!(ht.1 ++ ht.2 == [] && (wd == [c] && decide (1 < T.length))) && (!(ht.2 == [] && atz T != c) && (!(ht.1 == [] && at0 T != c) && W.any (· == wd))))]] = (R ++ [rowC T W c wd ht]).map rd := by
    rw [List.map_append, S_app, S_app]; rfl
  rw [e]
  exact q [_, _, _] _
end
end
-- J5
section
section
variable {prog : Program} {w : World} {s₀ : Shared} {k : Nat} {mem : Mem} {Q : AV → Mem → Prop}
theorem len_le_of_app {α : Type} {a b c : List α} (h : a ++ b = c) : a.length ≤ c.length := by rw [← h]; simp

set_option maxHeartbeats 4000000 in
theorem ends_c (G : Gr w s₀ (KK w)) {mem0 : Mem} {T sg : List Nat} {W : List (List Nat)} {wi ri L : Nat} (hT0 : 1 ≤ T.length) (hT : T.length ≤ 6) (hlow : Low sg) (hpre : mem0 <+: mem) (hW : mem0[wi]? = some (.list (W.map sd))) (hWl : ∀ w ∈ W, Low w)
    (hri : mem0.length ≤ ri) (hr : mem[ri]? = some (.list ((rowsA T ++ rowsB T).map rd))) (hlen : (rowsP T sg W).length ≤ 1000)
    (hrows : ∀ r ∈ rowsP T sg W, ematch (S r.1) (S T) = r.2 ∧ r.1.length ≤ 1000) {Q : AFlow → Loc → Mem → Prop} (q : ∀ l m, mem0 <+: m → Q (.ret (.bool true)) l m) :
    WXs prog w s₀ (k + 1) (callEnvC (fdAt (KK w) 199) L 199) (nlocs T sg wi ri) ((bodyAt (KK w) 199).drop 3) mem Q := by
  refine wxs_for (nlocs T sg wi ri) (Sub.refl _) ?_ (by intro _; rfl)
  walk_at "m"
  refine ⟨.str (S sg), _, fun rest m => mem0 <+: m ∧ ∃ (cs : List Nat) (R : List Row), rest = cs.map (fun c => .str (S [c])) ∧ (∀ c ∈ cs, c < 128) ∧ m[ri]? = some (.list (R.map rd)) ∧ R ++ cs.flatMap (rowCss T W) = rowsP T sg W,
    .str _ (S_ascii hlow), fun _ _ _ => rfl, ⟨hpre, sg, _, signs_S sg, hlow, hr, rfl⟩, ?_, ?_⟩
  · rintro d r m' - ⟨hp, cs, R, hrest, hcs, hr', hR⟩
    cases cs with
    | nil => cases hrest
    | cons c cs =>
      injection hrest with h1 h2
      subst h1 h2
      have hc : c < 128 := hcs c (.head _)
      refine ⟨.inl rfl, ?_⟩
      have hri' : ri < m'.length := (List.getElem?_eq_some_iff.mp hr').1
      refine wxs_for (nlocs T sg wi ri ++ ([("sign", .str (S [c]))] : Loc)) (Sub.refl _) ?_ (by intro _; rfl)
      repeat walk_at "m"
      refine ⟨_, .addS _ _ (by rw [S_len, sizeLine_eq]; simp), ?_⟩
      repeat walk_at "m"
      refine ⟨[.str (S [c]), .str (S [c] ++ S [c])], rfl, szl (Nat.le_of_ble_eq_true rfl), ?_⟩
      have e1 : [PyData.str (S [c]), .str (S [c] ++ S [c])] = [[c], [c, c]].map sd := by rw [S_app]; rfl
      rw [e1]
      have hj1 : (m' ++ [AO.list ([[c], [c, c]].map sd)])[m'.length]? = some (.list ([[c], [c, c]].map sd)) := by simp
      refine ⟨.list m'.length, [[c], [c, c]].map sd, fun rest m => mem0 <+: m ∧ m[m'.length]? = some (.list ([[c], [c, c]].map sd)) ∧ ∃ (wds : List (List Nat)) (R : List Row), rest = wds.map sd ∧ (∀ wd ∈ wds, Low wd ∧ wd.length ≤ 2) ∧ m[ri]? = some (.list (R.map rd)) ∧ R ++ (wds.flatMap (rowCs T W c) ++ cs.flatMap (rowCss T W)) = rowsP T sg W,
        .list _ _ hj1, fun _ _ h => h.2.1, ⟨pre_app hp _, hj1, _, R, rfl, ?_, get_app hr' _, by rw [← hR]; rfl⟩, ?_, ?_⟩
      · intro wd hwd
        simp at hwd
        rcases hwd with rfl | rfl
        · exact ⟨fun x hx => by simp at hx; omega, by simp⟩
        · exact ⟨fun x hx => by simp at hx; omega, by simp⟩
      · rintro d r m2 - ⟨hp2, hj1', wds, R2, hrest, hwds, hr2, hR2⟩
        cases wds with
        | nil => cases hrest
        | cons wd wds =>
          injection hrest with h1 h2
          subst h1 h2
          obtain ⟨hwl, hwn⟩ := hwds wd (.head _)
          refine ⟨.inl rfl, ?_⟩
          have hri2 : ri < m2.length := (List.getElem?_eq_some_iff.mp hr2).1
          have hj2lt : m'.length < m2.length := (List.getElem?_eq_some_iff.mp hj1').1
          refine wxs_for (rlocs T sg wi ri c wd) (Sub.refl _) ?_ (by intro _; rfl)
          repeat walk_at "m"
          refine ⟨[.str "", .str ""], rfl, szl (Nat.le_of_ble_eq_true rfl), ?_⟩
          repeat walk_at "m"
          refine ⟨[.str "", .str "..."], rfl, szl (Nat.le_of_ble_eq_true rfl), ?_⟩
          repeat walk_at "m"
          refine ⟨[.str "...", .str ""], rfl, szl (Nat.le_of_ble_eq_true rfl), ?_⟩
          repeat walk_at "m"
          refine ⟨[.tuple [.str "", .str ""], .tuple [.str "", .str "..."], .tuple [.str "...", .str ""]], rfl, szl (Nat.le_of_ble_eq_true rfl), ?_⟩
          have e2 : [PyData.tuple [.str "", .str ""], .tuple [.str "", .str "..."], .tuple [.str "...", .str ""]] = hts.map hv := by
            rw [nil_S, dots_S]; rfl
          rw [e2]
          have hj2 : (m2 ++ [AO.list (hts.map hv)])[m2.length]? = some (.list (hts.map hv)) := by simp
          refine ⟨.list m2.length, hts.map hv, fun rest m => mem0 <+: m ∧ m[m'.length]? = some (.list ([[c], [c, c]].map sd)) ∧ m[m2.length]? = some (.list (hts.map hv)) ∧ ∃ (hs : List W2) (R : List Row), rest = hs.map hv ∧ (∀ h ∈ hs, h.1.length ≤ 3 ∧ h.2.length ≤ 3) ∧ m[ri]? = some (.list (R.map rd)) ∧ R ++ (hs.map (rowC T W c wd) ++ (wds.flatMap (rowCs T W c) ++ cs.flatMap (rowCss T W))) = rowsP T sg W,
            .list _ _ hj2, fun _ _ h => h.2.2.1, ⟨pre_app hp2 _, get_app hj1' _, hj2, hts, R2, rfl, by decide, get_app hr2 _, by rw [← hR2, List.flatMap_cons, List.append_assoc]; rfl⟩, ?_, ?_⟩
          · rintro d r m3 - ⟨hp3, hj13, hj23, hs, R3, hrest, hhs, hr3, hR3⟩
            cases hs with
            | nil => cases hrest
            | cons ht hs =>
              injection hrest with h1 h2
              subst h1 h2
              refine ⟨.inl rfl, .inl rfl, ?_⟩
              have hj13lt := (List.getElem?_eq_some_iff.mp hj13).1
              have hj23lt := (List.getElem?_eq_some_iff.mp hj23).1
              have hlR : R3.length ≤ 1000 := Nat.le_trans (len_le_of_app hR3) hlen
              have hri3 : ri < m3.length := (List.getElem?_eq_some_iff.mp hr3).1
              refine @ends_row prog w s₀ k m3 G T sg wd W wi ri c L R3 ht hT0 hT (get_pre hp3 hW) hWl hc hwl hwn (hhs ht (.head _)) hr3 hlR _ fun e j => ?_
              refine ⟨Sub.app _ _, pre_set (pre_app hp3 _) hri _, get_set_ne (get_app hj13 _) (by omega), get_set_ne (get_app hj23 _) (by omega), hs, R3 ++ [rowC T W c wd ht], rfl, fun h hh => hhs h (.tail _ hh), get_set_eq (get_app hr3 _), ?_⟩
              rw [← hR3]; simp
          · rintro m3 ⟨hp3, hj13, hj23, hs, R3, hrest, hhs, hr3, hR3⟩
            cases hs with
            | cons _ _ => cases hrest
            | nil =>
              exact wxs_nil ⟨Sub.app _ _, hp3, hj13, wds, R3, rfl, fun x hx => hwds x (.tail _ hx), hr3, by rw [← hR3]; simp⟩
      · rintro m2 ⟨hp2, hj1', wds, R2, hrest, hwds, hr2, hR2⟩
        cases wds with
        | cons _ _ => cases hrest
        | nil => exact wxs_nil ⟨Sub.app _ _, hp2, cs, R2, rfl, fun x hx => hcs x (.tail _ hx), hr2, by rw [← hR2]; simp⟩
  · rintro m' ⟨hp, cs, R, hrest, hcs, hr', hR⟩
    cases cs with
    | cons _ _ => cases hrest
    | nil =>
      have hR' : R = rowsP T sg W := by rw [← hR]; simp
      subst hR'
      exact ends_tail G hT hr' hrows fun l => q l m' hp

set_option maxHeartbeats 4000000 in
theorem ends_b (G : Gr w s₀ (KK w)) {mem0 : Mem} {T sg : List Nat} {W : List (List Nat)} {wi ri L : Nat} (hT0 : 1 ≤ T.length) (hT : T.length ≤ 6) (hlow : Low sg) (hpre : mem0 <+: mem) (hW : mem0[wi]? = some (.list (W.map sd))) (hWl : ∀ w ∈ W, Low w)
    (hri : mem0.length ≤ ri) (hr : mem[ri]? = some (.list ((rowsA T).map rd))) (hlen : (rowsP T sg W).length ≤ 1000)
    (hrows : ∀ r ∈ rowsP T sg W, ematch (S r.1) (S T) = r.2 ∧ r.1.length ≤ 1000) {Q : AFlow → Loc → Mem → Prop} (q : ∀ l m, mem0 <+: m → Q (.ret (.bool true)) l m) :
    WXs prog w s₀ (k + 1) (callEnvC (fdAt (KK w) 199) L 199) (nlocs T sg wi ri) ((bodyAt (KK w) 199).drop 2) mem Q := by
  refine wxs_for (nlocs T sg wi ri) (Sub.refl _) ?_ (by intro _; rfl)
  repeat walk_at "m"
  refine cw_lenS (szS (by omega)) ?_
  repeat walk_at "m"
  refine ⟨_, .addI _ _, ?_⟩
  repeat walk_at "m"
  refine cw_range2 ?_
  have hsm := small1 (n := T.length) (Nat.le_trans hT (by decide))
  have hsm0 := small0 (n := T.length) (Nat.le_trans hT (by decide))
  rw [show (((S T).length : Nat) : Int) + 1 = (1 : Int) + (T.length : Nat) by rw [S_len]; omega]
  refine ⟨.range 1 T.length, _, fun rest m => mem0 <+: m ∧ ∃ (fs : List Nat) (R : List Row), rest = fs.map (fun f => .int (1 + (f : Nat))) ∧ (∀ f ∈ fs, f < T.length) ∧ m[ri]? = some (.list (R.map rd)) ∧ R ++ fs.flatMap (rowBs T) = rowsA T ++ rowsB T,
    .range 1 T.length hsm, fun _ _ _ => rfl, ⟨hpre, List.range T.length, _, rfl, fun f hf => List.mem_range.mp hf, hr, rfl⟩, ?_, ?_⟩
  · rintro d r m' - ⟨hp, fs, R, hrest, hfs, hr', hR⟩
    cases fs with
    | nil => cases hrest
    | cons f fs =>
      injection hrest with h1 h2
      subst h1 h2
      have hf : f < T.length := hfs f (.head _)
      refine ⟨.inl rfl, ?_⟩
      refine wxs_for (nlocs T sg wi ri ++ ([("front", .int (1 + (f : Nat)))] : Loc)) (Sub.refl _) ?_ (by intro _; rfl)
      repeat walk_at "m"
      refine cw_lenS (szS (by omega)) ?_
      repeat walk_at "m"
      refine cw_range1 ?_
      rw [show (((S T).length : Nat) : Int) = (0 : Int) + (T.length : Nat) by rw [S_len]; omega]
      refine ⟨.range 0 T.length, _, fun rest m => mem0 <+: m ∧ ∃ (rs : List Nat) (R : List Row), rest = rs.map (fun f => .int (0 + (f : Nat))) ∧ (∀ f ∈ rs, f < T.length) ∧ m[ri]? = some (.list (R.map rd)) ∧ R ++ (rs.map (rowB T f) ++ fs.flatMap (rowBs T)) = rowsA T ++ rowsB T,
        .range 0 T.length hsm0, fun _ _ _ => rfl, ⟨hp, List.range T.length, R, rfl, fun f hf => List.mem_range.mp hf, hr', by rw [← hR]; rfl⟩, ?_, ?_⟩
      · rintro d r m2 - ⟨hp2, rs, R2, hrest, hrs, hr2, hR2⟩
        cases rs with
        | nil => cases hrest
        | cons r rs =>
          injection hrest with h1 h2
          subst h1 h2
          have hrl : r < T.length := hrs r (.head _)
          have hlR : R2.length ≤ 1000 := by
            have h1 := len_le_of_app hR2
            have h2 : (rowsA T ++ rowsB T).length ≤ (rowsP T sg W).length := by unfold rowsP; simp
            omega
          refine ⟨.inl rfl, ?_⟩
          refine wxs_cons ?_
          repeat walk_at "m"
          refine ⟨_, _, mt_append, .list ri _ hr2, ?_⟩
          refine wa_cons ?_ (by rfl)
          refine we_tuple ?_
          refine wa_cons ?_ (by rfl)
          refine WV.mono (Q := fun v m => m = m2 ∧ v = .str (S (T.take (1 + f) ++ D3 ++ T.drop r))) ?_ ?_
          · refine we_bin ?_
            refine we_bin ?_
            refine we_sliceS ?_
            walk_at "m"
            refine ⟨_, rfl, by rw [S_len, sizeLine_eq]; omega, ?_⟩
            show WE _ _ _ _ _ _ _ _ _
            walk_at "m"
            refine ⟨_, rfl, ?_⟩
            show WE _ _ _ _ _ _ _ _ _
            rw [slice_to' (n := 1 + f) (by omega) (by omega)]
            walk_at "m"
            refine ⟨_, .addS _ _ (by rw [S_len, dots_S, S_len, sizeLine_eq, List.length_take]; simp; omega), ?_⟩
            refine we_sliceS ?_
            walk_at "m"
            refine ⟨_, rfl, by rw [S_len, sizeLine_eq]; omega, ?_⟩
            show WE _ _ _ _ _ _ _ _ _
            walk_at "m"
            refine ⟨_, rfl, ?_⟩
            show ∃ v, _ ∧ _
            rw [slice_from' (n := r) (by omega), dots_S, S_app]
            refine ⟨_, .addS _ _ (by rw [S_len, S_len, sizeLine_eq, List.length_append, List.length_take, List.length_drop]; simp; omega), ?_⟩
            rw [S_app]
            exact ⟨rfl, rfl⟩
          rintro v m ⟨rfl, rfl⟩
          repeat walk_at "m"
          refine ⟨_, .leI _ _, ?_⟩
          repeat walk_at "m"
          refine ⟨[_, _], rfl, szl (Nat.le_of_ble_eq_true rfl), ?_⟩
          repeat walk_at "m"
          refine cw_append hr2 (by rw [sizeLine_eq, List.length_map]; omega) ⟨.inr rfl, ?_⟩
          refine wxs_nil ⟨Sub.app _ _, pre_set hp2 hri _, rs, R2 ++ [rowB T f r], rfl, fun x hx => hrs x (.tail _ hx), ?_, by rw [← hR2]; simp⟩
          refine (get_set_eq hr2).trans ?_
          rw [List.map_append]
          have e : decide ((1 : Int) + (f : Nat) ≤ 0 + (r : Nat)) = decide (1 + f ≤ r) := by
            rw [decide_eq_decide]; omega
          show some (AO.list (R2.map rd ++ [.tuple [.str (S (T.take (1 + f) ++ D3 ++ T.drop r)), .bool (decide ((1 : Int) + (f : Nat) ≤ 0 + (r : Nat)))]])) = _
          rw [e]; rfl
      · rintro m2 ⟨hp2, rs, R2, hrest, hrs, hr2, hR2⟩
        cases rs with
        | cons _ _ => cases hrest
        | nil => exact wxs_nil ⟨Sub.app _ _, hp2, fs, R2, rfl, fun x hx => hfs x (.tail _ hx), hr2, by rw [← hR2]; simp⟩
  · rintro m' ⟨hp, fs, R, hrest, hfs, hr', hR⟩
    cases fs with
    | cons _ _ => cases hrest
    | nil =>
      have hR' : R = rowsA T ++ rowsB T := by rw [← hR]; simp
      subst hR'
      exact ends_c G hT0 hT hlow hp hW hWl hri hr' hlen hrows q
end
end
-- J6
section
section
variable {prog : Program} {w : World} {s₀ : Shared} {k : Nat} {mem : Mem} {Q : AV → Mem → Prop}
set_option maxHeartbeats 4000000 in
theorem cw_ends (G : Gr w s₀ (KK w)) {T sg : List Nat} {W : List (List Nat)} {wi : Nat} (hT0 : 1 ≤ T.length) (hT : T.length ≤ 6) (hlow : Low sg) (hW : mem[wi]? = some (.list (W.map sd))) (hWl : ∀ w ∈ W, Low w)
    (hlen : (rowsP T sg W).length ≤ 1000) (hrows : ∀ r ∈ rowsP T sg W, ematch (S r.1) (S T) = r.2 ∧ r.1.length ≤ 1000) (q : Q (.bool true) mem) :
    CallW prog w s₀ (k + 2) (.ref 199) [.str (S T), .str (S sg), .ref wi] [] mem Q := by
  refine CallW.drop (callW_fn G (fn199 w) (ps := ["text", "signs", "words"]) (exA := []) (ex := []) (fun _ _ => .nil) ?_ ?_ ?_ ?_)
  · intro vs kvs h1 h2
    obtain ⟨a, b, c, rfl⟩ := len3 h1
    obtain rfl := len0 h2
    refine Looks.of_pure ?_
    kernel_rfl
  · exact of_decide_eq_true rfl
  · intro x hx
    simp at hx
    rcases hx with rfl | rfl | rfl <;> exact .inl rfl
  · intro L
    refine wxs_cons ?_
    repeat walk_at "m"
    refine ⟨_, .strI _ _ (by decide) (charAt_S (n := 0) (by omega)), ?_⟩
    rw [show Txt.item (S T) 0 = S [at0 T] from item_S (n := 0) (getElem_at0 hT0)]
    repeat walk_at "m"
    refine ⟨_, .strI _ _ (by decide) (by rw [last_S hT0, getElem_atz hT0]; rfl), ?_⟩
    rw [itemLast_S (getElem_atz hT0)]
    refine ⟨_, .addS _ _ (by rw [S_len, S_len, sizeLine_eq]; simp), ?_⟩
    rw [S_app]
    repeat walk_at "m"
    refine ⟨[.str "", .bool false], rfl, szl (Nat.le_of_ble_eq_true rfl), ?_⟩
    repeat walk_at "m"
    refine ⟨[.str "...", .bool true], rfl, szl (Nat.le_of_ble_eq_true rfl), ?_⟩
    repeat walk_at "m"
    refine ⟨[.str "....", .bool false], rfl, szl (Nat.le_of_ble_eq_true rfl), ?_⟩
    repeat walk_at "m"
    refine ⟨[.str "......", .bool true], rfl, szl (Nat.le_of_ble_eq_true rfl), ?_⟩
    repeat walk_at "m"
    refine ⟨_, .addS _ _ (by rw [S_len, dots_S, S_len, sizeLine_eq]; simp), ?_⟩
    repeat walk_at "m"
    refine ⟨_, .addS _ _ (by rw [dots_S, S_app, S_len, S_len, sizeLine_eq]; simp), ?_⟩
    repeat walk_at "m"
    refine ⟨_, .inS _ _, ?_⟩
    repeat walk_at "m"
    refine ⟨[_, _], rfl, szl (Nat.le_of_ble_eq_true rfl), ?_⟩
    repeat walk_at "m"
    refine ⟨[_, _, _, _, _], rfl, szl (Nat.le_of_ble_eq_true rfl), ?_⟩
    refine ends_b (ri := mem.length) (mem0 := mem) G hT0 hT hlow (List.prefix_append _ _) hW hWl (Nat.le_refl _) ?_ hlen hrows fun l m hp => dropped_pre hp q
    have e4 : ("...." : Str) = S [46, 46, 46, 46] := by decide +kernel
    have e6 : ("......" : Str) = S [46, 46, 46, 46, 46, 46] := by decide +kernel
    rw [nil_S, dots_S, e4, e6, S_app, S_app]
    simp [rowsA, rd, D3]
end
end
-- J7
section
noncomputable abbrev Ent := Str × Nat
noncomputable def tabD (e : Ent) : Str × Str := (e.1, dec e.2)
noncomputable def leastP (es : List Ent) (count : Nat) : Nat := if es.length < count then 1 else 1 + (es.map (·.2)).headD 0
theorem dec_safe {n : Nat} (h : n < 10 ^ 30) : Safe (dec n) := by
  refine ⟨?_, Nat.le_trans (len_dec (by omega) (by omega)) (by decide)⟩
  intro c hc
  have hc' : c ∈ (dec (n : Int)).cps.toList := by simpa using hc
  rw [show (dec (n : Int)).cps.toList = _ from KIN.signs_num n] at hc'
  obtain ⟨ch, hch, e⟩ := List.mem_map.mp hc'
  have r := digit_range (Nat.isDigit_of_mem_toDigits (by decide) (by decide) hch)
  rw [← e]
  have : ∀ x : Nat, 48 ≤ x → x ≤ 57 → x ∈ safe := by
    intro x h1 h2
    have h3 : ∀ y, y < 10 → 48 + y ∈ safe := by decide
    have := h3 (x - 48) (by omega)
    rwa [Nat.add_sub_cancel' h1] at this
  exact this _ r.1 r.2
theorem big30 {n : Nat} (h : n < 10 ^ 30) : (n : Int) < 10 ^ 30 := by omega
section
variable {prog : Program} {w : World} {s₀ : Shared} {k : Nat} {mem : Mem} {Q : AV → Mem → Prop}
theorem fn206 (w : World) : FnAt (KK w) 206 (fdAt (KK w) 206) (bodyAt (KK w) 206) :=
  ⟨⟨((KK w).lookup 206).getD default, rfl, rfl⟩, rfl, by rfl, rfl, rfl, rfl, rfl, rfl, rfl, of_decide_eq_true rfl, by rfl⟩
theorem fn211 (w : World) : FnAt (KK w) 211 (fdAt (KK w) 211) (bodyAt (KK w) 211) :=
  ⟨⟨((KK w).lookup 211).getD default, rfl, rfl⟩, rfl, by rfl, rfl, rfl, rfl, rfl, rfl, rfl, of_decide_eq_true rfl, by rfl⟩

set_option maxHeartbeats 4000000 in
theorem cw_least (G : Gr w s₀ (KK w)) {i d l count : Nat} {es : List Ent} (T : Tab mem i d l (es.map tabD)) (hl : es.length < 1000) (hc : 1 ≤ count) (hv : ∀ e ∈ es, e.2 < 10 ^ 30) (q : Q (.int (leastP es count : Nat)) mem) :
    CallW prog w s₀ (k + 3) (.ref 206) [.ref i, .int count] [] mem Q := by
  refine CallW.drop (callW_fn G (fn206 w) (ps := ["depths", "count"]) (exA := []) (ex := []) (fun _ _ => .nil) ?_ ?_ ?_ ?_)
  · intro vs kvs h1 h2
    obtain ⟨a, b, rfl⟩ := len2 h1
    obtain rfl := len0 h2
    refine Looks.of_pure ?_
    kernel_rfl
  · exact of_decide_eq_true rfl
  · intro x hx
    simp at hx
    rcases hx with rfl | rfl <;> exact .inl rfl
  · intro L
    refine wxs_cons ?_
    repeat walk_at "m"
    refine cw_lenI G T.1 T.2.1 (cw_len84 G T (by rw [List.length_map]; exact hl) ⟨_, rfl, by rw [List.length_map]; exact hl, ?_⟩)
    repeat walk_at "m"
    refine ⟨_, .ltI _ _, ?_⟩
    rw [List.length_map]
    split
    · rename_i hh
      have hh' : es.length < count := by simpa using hh
      repeat walk_at "m"
      rw [leastP, if_pos hh'] at q
      exact dropped_dat0 q
    · rename_i hh
      have hh' : ¬ es.length < count := by simpa using hh
      rw [leastP, if_neg hh'] at q
      cases es with
      | nil => exact absurd hc (by simpa using hh')
      | cons e es =>
        have he := hv e (.head _)
        refine wxs_nil ?_
        refine wxs_cons ?_
        repeat walk_at "m"
        refine ⟨i, d, l, 135, rfl, T.1, T.2.1, .values, ?_⟩
        repeat walk_at "m"
        refine cw_values G T (by rw [List.length_map]; exact hl) ?_
        repeat walk_at "m"
        refine ⟨_, .listI mem.length _ _ (.str (dec e.2)) (by simp; rfl) (by decide) (by decide) (by rfl), ?_⟩
        repeat walk_at "m"
        refine cw_int (by omega) (big30 he) ?_
        refine ⟨_, .addI _ _, ?_⟩
        refine dropped_pre (List.prefix_append _ _) ?_
        have e1 : (1 : Int) + (e.2 : Nat) = ((1 + ((e :: es).map (·.2)).headD 0 : Nat) : Int) := by simp
        rw [e1]
        exact q
end
end
-- J8
section
noncomputable def tot (es : List Ent) : Nat := (es.map (·.2)).sum
noncomputable def setN (es : List Ent) (name : Str) (v : Nat) : List Ent := es.filter (fun e => Txt.lower e.1 != Txt.lower name) ++ [(name, v)]
theorem setT_map (es : List Ent) (name : Str) (v : Nat) : setT (es.map tabD) name (dec v) = (setN es name v).map tabD := by
  unfold setT delT setN
  rw [List.map_append, List.filter_map]
  rfl
theorem tot_filter (p : Ent → Bool) : ∀ es : List Ent, tot (es.filter p) ≤ tot es
  | [] => Nat.le_refl _
  | e :: es => by
    have ih := tot_filter p es
    rw [List.filter_cons]
    split
    · show e.2 + tot (es.filter p) ≤ e.2 + tot es
      omega
    · show tot (es.filter p) ≤ e.2 + tot es
      omega
theorem tot_app (a b : List Ent) : tot (a ++ b) = tot a + tot b := by simp [tot]
theorem tot_setN (es : List Ent) (name : Str) (v : Nat) : tot (setN es name v) ≤ tot es + v := by
  unfold setN
  rw [tot_app]
  have := tot_filter (fun e => Txt.lower e.1 != Txt.lower name) es
  show _ + (v + 0) ≤ _
  omega
theorem le_tot : ∀ {es : List Ent} {e : Ent}, e ∈ es → e.2 ≤ tot es
  | a :: es, e, h => by
    rcases List.mem_cons.mp h with rfl | h'
    · show e.2 ≤ e.2 + tot es
      omega
    · have := le_tot (es := es) (by assumption)
      show e.2 ≤ a.2 + tot es
      omega
theorem setN_len (es : List Ent) (name : Str) (v : Nat) : (setN es name v).length ≤ es.length + 1 := by
  unfold setN
  rw [List.length_append]
  have := List.length_filter_le (fun e : Ent => Txt.lower e.1 != Txt.lower name) es
  simp; omega
theorem setN_mem {es : List Ent} {name : Str} {v : Nat} {e : Ent} (h : e ∈ setN es name v) : e ∈ es ∨ e = (name, v) := by
  rcases List.mem_append.mp h with h | h
  · exact .inl (List.mem_filter.mp h).1
  · exact .inr (by simpa using h)
noncomputable def readP (count : Nat) : List Str → List Ent → List Ent → List Ent × List Ent
  | [], A, B => (A, B)
  | x :: r, A, B => readP count r (setN A x (100 + 100 * tot A)) (setN B x (leastP B count))

noncomputable def rmem (mem : Mem) (A B : List Ent) : Mem :=
  mem ++ [.idict (some (mem.length + 2)), .inst mem.length, .list ((A.map tabD).map kvD), .idict (some (mem.length + 5)), .inst (mem.length + 3), .list ((B.map tabD).map kvD)]
theorem rtabA (mem : Mem) (A B : List Ent) (j : Mem) : Tab (rmem mem A B ++ j) (mem.length + 1) mem.length (mem.length + 2) (A.map tabD) := by
  refine ⟨?_, ?_, ?_⟩ <;> (unfold rmem; rw [List.append_assoc, List.getElem?_append_right (by omega)]; simp)
theorem rtabB (mem : Mem) (A B : List Ent) (j : Mem) : Tab (rmem mem A B ++ j) (mem.length + 4) (mem.length + 3) (mem.length + 5) (B.map tabD) := by
  refine ⟨?_, ?_, ?_⟩ <;> (unfold rmem; rw [List.append_assoc, List.getElem?_append_right (by omega)]; simp)
theorem rsetA (mem : Mem) (A A' B : List Ent) (j : Mem) : (rmem mem A B ++ j).set (mem.length + 2) (.list ((A'.map tabD).map kvD)) = rmem mem A' B ++ j := by
  unfold rmem
  rw [List.append_assoc, List.set_append_right _ _ (by omega)]
  simp
theorem rsetB (mem : Mem) (A B B' : List Ent) (j : Mem) : (rmem mem A B ++ j).set (mem.length + 5) (.list ((B'.map tabD).map kvD)) = rmem mem A B' ++ j := by
  unfold rmem
  rw [List.append_assoc, List.set_append_right _ _ (by omega)]
  simp
theorem rclosed {mem : Mem} {A B : List Ent} (h : ClosedM mem) : ClosedM (rmem mem A B) := by
  intro i o e
  have hl : (rmem mem A B).length = mem.length + 6 := by simp [rmem]
  rw [hl]
  unfold rmem at e
  rcases Nat.lt_or_ge i mem.length with hi | hi
  · rw [List.getElem?_append_left hi] at e
    have := h i o e
    cases o with
    | list _ => trivial
    | inst d => exact Nat.lt_of_lt_of_le this (by omega)
    | idict a =>
      cases a with
      | none => trivial
      | some j => exact Nat.lt_of_lt_of_le this (by omega)
  · rw [List.getElem?_append_right hi] at e
    match i - mem.length, e with
    | 0, e => simp at e; subst e; show _ < _; omega
    | 1, e => simp at e; subst e; show _ < _; omega
    | 2, e => simp at e; subst e; trivial
    | 3, e => simp at e; subst e; show _ < _; omega
    | 4, e => simp at e; subst e; show _ < _; omega
    | 5, e => simp at e; subst e; trivial
    | n + 6, e => simp at e
structure RInv (names : List Str) (t : Nat) (A B : List Ent) : Prop where
  ta : tot A + 1 ≤ 101 ^ t
  la : A.length ≤ t
  tb : ∀ e ∈ B, e.2 ≤ t
  lb : B.length ≤ t
  na : ∀ e ∈ A, e.1.length ≤ 1000
  nb : ∀ e ∈ B, e.1.length ≤ 1000
theorem leastP_le {B : List Ent} {count t : Nat} (h : ∀ e ∈ B, e.2 ≤ t) : leastP B count ≤ t + 1 := by
  unfold leastP
  split
  · omega
  · cases B with
    | nil => simp
    | cons e B => have := h e (.head _); simp; omega
theorem RInv.step {names : List Str} {t count : Nat} {A B : List Ent} (h : RInv names t A B) {x : Str} (hx : x.length ≤ 1000) : RInv names (t + 1) (setN A x (100 + 100 * tot A)) (setN B x (leastP B count)) where
  ta := by
    have h1 := tot_setN A x (100 + 100 * tot A)
    have h2 := h.ta
    rw [Nat.pow_succ]
    omega
  la := Nat.le_trans (setN_len ..) (by have := h.la; omega)
  tb := fun e he => by
    rcases setN_mem he with h' | rfl
    · have := h.tb e h'; omega
    · exact leastP_le h.tb
  lb := Nat.le_trans (setN_len ..) (by have := h.lb; omega)
  na := fun e he => by
    rcases setN_mem he with h' | rfl
    · exact h.na e h'
    · exact hx
  nb := fun e he => by
    rcases setN_mem he with h' | rfl
    · exact h.nb e h'
    · exact hx
theorem sum_ints (A : List Ent) : (A.map fun e => ((e.2 : Nat) : Int)).sum = (tot A : Nat) := by
  induction A with
  | nil => rfl
  | cons e A ih => rw [List.map_cons, List.sum_cons, ih]; show _ = ((e.2 + tot A : Nat) : Int); omega
noncomputable def intOf (d : PyData) : PyData := match d with
  | .str x => match PySem.intText? x with | some n => .int n | none => .none
  | _ => .none
theorem intOf_dec {n : Nat} (h : n < 10 ^ 30) : intOf (.str (dec n)) = .int n := by
  unfold intOf
  simp only [dec_reads (n := (n : Int)) (by omega) (big30 h)]
theorem pow6 {t : Nat} (h : t ≤ 6) : 101 ^ t ≤ 101 ^ 6 := Nat.pow_le_pow_right (by decide) h
theorem log_small {n : Nat} (h : n < 10 ^ 30) : ((n : Int)).natAbs.log2 < 1920 := by
  rw [Int.natAbs_natCast]
  by_cases h0 : n = 0
  · subst h0; decide
  · have : n.log2 < 100 := (Nat.log2_lt h0).mpr (Nat.lt_trans h (by decide))
    omega
section
variable {prog : Program} {w : World} {s₀ : Shared} {k : Nat} {mem : Mem} {Q : AV → Mem → Prop}
theorem cw_new0 (G : Gr w s₀ (KK w)) (q : Q (.ref (mem.length + 1)) (mem ++ [.idict (some (mem.length + 2)), .inst mem.length, .list []])) : CallW prog w s₀ (k + 3) (.ref 178) [] [] mem Q := by
  refine cw_new G (cw_init0 G (d := mem.length) (by first | exact List.getElem?_concat_length | simp) (by first | exact List.getElem?_concat_length | simp) ⟨rfl, ?_⟩)
  have e : ((mem ++ [AO.idict none, AO.inst mem.length]) ++ [AO.list []]).set mem.length (.idict (some (mem ++ [AO.idict none, AO.inst mem.length]).length)) = mem ++ [.idict (some (mem.length + 2)), .inst mem.length, .list []] := by
    rw [List.append_assoc, List.set_append_right _ _ (by omega)]
    simp
  rw [e]; exact q
noncomputable def rdlocs (ni count n : Nat) : Loc := [("names", .ref ni), ("count", .int count), ("sums", .ref (n + 1)), ("depths", .ref (n + 4))]
set_option maxHeartbeats 4000000 in
theorem cw_read (G : Gr w s₀ (KK w)) {ni count : Nat} {names : List Str} (hn : mem[ni]? = some (.list (names.map .str))) (hl : names.length ≤ 6) (hc : 1 ≤ count) (hs : ∀ x ∈ names, Safe x ∧ Safe (Txt.lower x))
    (q : Q (.pair (mem.length + 1) (mem.length + 4)) (rmem mem (readP count names [] []).1 (readP count names [] []).2)) : CallW prog w s₀ (k + 4) (.ref 211) [.ref ni, .int count] [] mem Q := by
  refine CallW.drop (callW_fn G (fn211 w) (ps := ["names", "count"]) (exA := []) (ex := []) (fun _ _ => .nil) ?_ ?_ ?_ ?_)
  · intro vs kvs h1 h2
    obtain ⟨a, b, rfl⟩ := len2 h1
    obtain rfl := len0 h2
    refine Looks.of_pure ?_
    kernel_rfl
  · exact of_decide_eq_true rfl
  · intro x hx
    simp at hx
    rcases hx with rfl | rfl <;> exact .inl rfl
  · intro L
    refine wxs_cons ?_
    repeat walk_at "m"
    refine cw_new0 G ?_
    repeat walk_at "m"
    refine cw_new0 G ?_
    have hle : (mem ++ [AO.idict (some (mem.length + 2)), AO.inst mem.length, AO.list []]).length = mem.length + 3 := by simp
    have hme : (mem ++ [AO.idict (some (mem.length + 2)), AO.inst mem.length, AO.list []]) ++ [AO.idict (some (mem.length + 3 + 2)), AO.inst (mem.length + 3), AO.list []] = rmem mem [] [] ++ [] := by simp [rmem]
    rw [hle, hme]
    refine wxs_for (rdlocs ni count mem.length) (Sub.refl _) ?_ (by intro _; rfl)
    have hpre : ∀ A B j, (rmem mem A B ++ j)[ni]? = some (.list (names.map .str)) := fun A B j => by
      unfold rmem; rw [List.append_assoc]; exact get_app hn _
    walk_at "m"
    refine ⟨.list ni, names.map .str, fun rest m => ∃ (xs : List Str) (t : Nat) (A B : List Ent) (j : Mem), rest = xs.map .str ∧ t + xs.length = names.length ∧ (∀ x ∈ xs, x ∈ names) ∧ m = rmem mem A B ++ j ∧ RInv names t A B ∧ readP count xs A B = readP count names [] [],
      .list _ _ (hpre _ _ _), ?_, ⟨names, 0, [], [], [], rfl, by simp, fun x h => h, rfl, ⟨by decide, by simp, (fun _ h => nomatch h), by simp, (fun _ h => nomatch h), fun _ h => nomatch h⟩, rfl⟩, ?_, ?_⟩
    · rintro r m' ⟨xs, t, A, B, j, _, _, _, rfl, _, _⟩
      exact hpre _ _ _
    · rintro d r m' - ⟨xs, t, A, B, j, hrest, ht, hxs, rfl, I, hrun⟩
      cases xs with
      | nil => cases hrest
      | cons x xs =>
        injection hrest with h1 h2
        subst h1 h2
        obtain ⟨sx, sx'⟩ := hs x (hxs x (.head _))
        rw [List.length_cons] at ht
        have ht6 : t ≤ 5 := by omega
        have hp6 := pow6 (t := t) (by omega)
        have hta := I.ta
        have hbig : (101 : Nat) ^ 6 * 200 < 10 ^ 30 := by decide
        have hA30 : ∀ e ∈ A, e.2 < 10 ^ 30 := fun e he => by have := le_tot he; omega
        have hB30 : ∀ e ∈ B, e.2 < 10 ^ 30 := fun e he => by have := I.tb e he; omega
        have hla := I.la
        have hlb := I.lb
        have TA := rtabA mem A B j
        refine ⟨.inl rfl, ?_⟩
        refine wxs_cons ?_
        repeat walk_at "m"
        refine we_comp ⟨rfl, of_decide_eq_true rfl, rfl⟩ ?_ (by intro _; rfl)
        repeat walk_at "m"
        refine ⟨_, _, _, 135, rfl, TA.1, TA.2.1, .values, ?_⟩
        repeat walk_at "m"
        refine cw_values G TA (by rw [List.length_map]; omega) ?_
        refine ⟨_, _, _, .list _ ((A.map tabD).map fun p => .str p.2) (by first | exact List.getElem?_concat_length | simp), cb0 intOf (by rw [List.length_map, List.length_map, sizeLine_eq]; omega) ?_, ?_⟩
        · intro C d o hd
          rw [List.map_map] at hd
          obtain ⟨e, he, rfl⟩ := List.mem_map.mp hd
          refine ⟨.inl rfl, rfl, ?_⟩
          repeat walk_at "m"
          refine cw_int (n := (e.2 : Int)) (by omega) (big30 (hA30 e he)) ⟨rfl, ?_⟩
          show _ = AV.dat (intOf (.str (dec e.2)))
          rw [intOf_dec (hA30 e he)]
        have hints : (((A.map tabD).map fun p => PyData.str p.2).flatMap fun d => [intOf d]) = (A.map fun e => ((e.2 : Nat) : Int)).map .int := by
          rw [flatMap_one, List.map_map, List.map_map, List.map_map]
          refine List.map_congr_left fun e he => ?_
          exact intOf_dec (hA30 e he)
        rw [hints]
        repeat walk_at "m"
        refine cw_sum (ns := A.map fun e => ((e.2 : Nat) : Int)) (by first | exact List.getElem?_concat_length | simp) ?_
        rw [sum_ints]
        refine ⟨_, .mulI _ _ (IntMulOk.of_left (by decide)), _, .addI _ _, ?_⟩
        have hval : (100 : Int) + 100 * ((tot A : Nat) : Int) = ((100 + 100 * tot A : Nat) : Int) := by omega
        rw [hval]
        repeat walk_at "m"
        refine cw_str (log_small (by omega)) ?_
        repeat walk_at "m"
        rw [List.append_assoc, List.append_assoc]
        refine ⟨_, _, _, rfl, (rtabA mem A B _).1, (rtabA mem A B _).2.1, ?_⟩
        refine cw_set G (rtabA mem A B _) (by rw [List.length_map]; omega) sx sx' (dec_safe (by omega)) ?_ ?_
        · intro p hp
          obtain ⟨e, he, rfl⟩ := List.mem_map.mp hp
          exact I.na e he
        rw [setT_map, rsetA]
        repeat walk_at "m"
        refine cw_least G (rtabB mem _ B _) (by omega) hc hB30 ?_
        repeat walk_at "m"
        have hlp := leastP_le (count := count) I.tb
        refine cw_str (log_small (by omega)) ?_
        repeat walk_at "m"
        refine ⟨_, _, _, rfl, (rtabB mem _ B _).1, (rtabB mem _ B _).2.1, ?_⟩
        refine cw_set G (rtabB mem _ B _) (by rw [List.length_map]; omega) sx sx' (dec_safe (by omega)) ?_ ?_
        · intro p hp
          obtain ⟨e, he, rfl⟩ := List.mem_map.mp hp
          exact I.nb e he
        rw [setT_map, rsetB]
        exact wxs_nil ⟨Sub.app _ _, xs, t + 1, _, _, _, rfl, by omega, fun y hy => hxs y (.tail _ hy), rfl, I.step sx.2, hrun⟩
    · rintro m' ⟨xs, t, A, B, j, hrest, ht, hxs, rfl, I, hrun⟩
      cases xs with
      | cons _ _ => cases hrest
      | nil =>
        rw [← hrun] at q
        refine wxs_cons ?_
        refine wx_return ?_
        refine we_pair ?_
        repeat walk_at "m"
        refine ⟨_, _, rfl, ?_⟩
        exact ⟨rmem mem A B, j, rfl, by simp [rmem], ⟨by simp [rmem], by simp [rmem]⟩, rclosed, q⟩
end
end
-- J9
section
theorem nm_safe : ∀ p, p < 3 → ∀ g, Safe (nm p g) ∧ Safe (Txt.lower (nm p g)) := by
  have key : ∀ p g, p < 3 → (decide (∀ c ∈ (nm p g).cps.toList, c ∈ safe) && decide ((nm p g).length ≤ 1000) && decide (∀ c ∈ (Txt.lower (nm p g)).cps.toList, c ∈ safe) && decide ((Txt.lower (nm p g)).length ≤ 1000)) = true := by
    intro p g hp
    match p, g, hp with
    | 0, true, _ => decide +kernel
    | 0, false, _ => decide +kernel
    | 1, true, _ => decide +kernel
    | 1, false, _ => decide +kernel
    | 2, true, _ => decide +kernel
    | 2, false, _ => decide +kernel
  intro p hp g
  have := key p g hp
  simp only [Bool.and_eq_true, decide_eq_true_eq] at this
  exact ⟨⟨fun c hc => this.1.1.1 c (Array.mem_toList_iff.mpr hc), this.1.1.2⟩, fun c hc => this.1.2 c (Array.mem_toList_iff.mpr hc), this.2⟩
noncomputable def fillP (dues : List Nat) : List Nat → List (Str × Str) → List (Str × Str)
  | [], kvs => kvs
  | p :: fs, kvs => fillP dues fs (if 0 < dues.getD p 0 then setT kvs (nm p (p == 1)) (dec (dues.getD p 0 : Nat)) else delT kvs (Txt.lower (nm p (p == 1))))
theorem delT_len (kvs : List (Str × Str)) (name : Str) : (delT kvs name).length ≤ kvs.length := List.length_filter_le _ _
theorem setT_len (kvs : List (Str × Str)) (name v : Str) : (setT kvs name v).length ≤ kvs.length + 1 := by
  unfold setT
  have := delT_len kvs (Txt.lower name)
  simp; omega
theorem delT_mem {kvs : List (Str × Str)} {name : Str} {p : Str × Str} (h : p ∈ delT kvs name) : p ∈ kvs := (List.mem_filter.mp h).1
theorem setT_mem {kvs : List (Str × Str)} {name v : Str} {p : Str × Str} (h : p ∈ setT kvs name v) : p ∈ kvs ∨ p = (name, v) := by
  rcases List.mem_append.mp h with h | h
  · exact .inl (delT_mem h)
  · exact .inr (by simpa using h)
theorem set_same {mem : Mem} {l : Nat} {o : AO} (h : mem[l]? = some o) : mem.set l o = mem := by
  obtain ⟨hl, e⟩ := List.getElem?_eq_some_iff.mp h
  rw [← e, List.set_getElem_self]
section
variable {prog : Program} {w : World} {s₀ : Shared} {k : Nat} {mem : Mem} {Q : AV → Mem → Prop}
theorem fn218 (w : World) : FnAt (KK w) 218 (fdAt (KK w) 218) (bodyAt (KK w) 218) :=
  ⟨⟨((KK w).lookup 218).getD default, rfl, rfl⟩, rfl, by rfl, rfl, rfl, rfl, rfl, rfl, rfl, of_decide_eq_true rfl, by rfl⟩

set_option maxHeartbeats 4000000 in
theorem cw_fill (G : Gr w s₀ (KK w)) {i d l di : Nat} {kvs : List (Str × Str)} {dues : List Nat} (T : Tab mem i d l kvs) (hdu : mem[di]? = some (.list (dues.map fun n => .int (n : Nat)))) (hne : di ≠ l)
    (hn : dues.length ≤ 3) (hb : ∀ n ∈ dues, n < 10 ^ 30) (hl : kvs.length ≤ 100) (hs : ∀ p ∈ kvs, p.1.length ≤ 1000)
    (q : Q (.ref mem.length) (mem.set l (.list ((fillP dues (List.range dues.length) kvs).map kvD)) ++ [.list ((fillP dues (List.range dues.length) kvs).map kvD)])) :
    CallW prog w s₀ (k + 5) (.ref 218) [.ref i, .ref di] [] mem Q := by
  refine callW_fn G (fn218 w) (ps := ["told", "dues"]) (exA := []) (ex := []) (fun _ _ => .nil) ?_ ?_ ?_ ?_
  · intro vs kvs h1 h2
    obtain ⟨a, b, rfl⟩ := len2 h1
    obtain rfl := len0 h2
    refine Looks.of_pure ?_
    kernel_rfl
  · exact of_decide_eq_true rfl
  · intro x hx
    simp at hx
    rcases hx with rfl | rfl <;> exact .inl rfl
  · intro L
    refine wxs_for ([("told", .ref i), ("dues", .ref di)] : Loc) (Sub.refl _) ?_ (by intro _; rfl)
    repeat walk_at "m"
    refine cw_lenL hdu (szm (by omega)) ?_
    repeat walk_at "m"
    refine cw_range1 ?_
    rw [List.length_map, show ((dues.length : Nat) : Int) = (0 : Int) + (dues.length : Nat) by omega]
    have hsm0 : Builtin.Range.small 0 ((0 : Int) + (dues.length : Nat)) 1 = true := by
      match dues.length, hn with
      | 0, _ | 1, _ | 2, _ | 3, _ => decide
    refine ⟨.range 0 dues.length, _, fun rest m => ∃ (fs : List Nat) (kvs' : List (Str × Str)), rest = fs.map (fun f => .int ((f : Nat) : Int)) ∧ (∀ f ∈ fs, f < dues.length) ∧ m = mem.set l (.list (kvs'.map kvD)) ∧
        fillP dues fs kvs' = fillP dues (List.range dues.length) kvs ∧ kvs'.length + fs.length ≤ 103 ∧ ∀ p ∈ kvs', p.1.length ≤ 1000,
      .range 0 dues.length hsm0, fun _ _ _ => rfl, ⟨List.range dues.length, kvs, by simp [intsD], fun f hf => List.mem_range.mp hf, (set_same T.2.2).symm, rfl, by simp; omega, hs⟩, ?_, ?_⟩
    · rintro dd r m' - ⟨fs, kvs', hrest, hfs, rfl, hrun, hlen, hs'⟩
      cases fs with
      | nil => cases hrest
      | cons f fs =>
        injection hrest with h1 h2
        subst h1 h2
        have hf : f < dues.length := hfs f (.head _)
        have T' : Tab (mem.set l (.list (kvs'.map kvD))) i d l kvs' := T.put
        have hdu' : (mem.set l (.list (kvs'.map kvD)))[di]? = some (.list (dues.map fun n => .int (n : Nat))) := get_set_ne hdu hne
        have hget : (dues.map fun n => PyData.int (n : Nat))[((f : Nat) : Int).toNat]? = some (.int (dues.getD f 0 : Nat)) := by
          rw [Int.toNat_natCast, List.getElem?_map, List.getD, List.getElem?_eq_getElem hf]; rfl
        have hdf : dues.getD f 0 < 10 ^ 30 := by
          rw [List.getD, List.getElem?_eq_getElem hf]
          exact hb _ (List.getElem_mem hf)
        obtain ⟨sn, sn'⟩ := nm_safe f (by omega) (f == 1)
        rw [List.length_cons] at hlen
        show AssP _ _ (PyData.int ((f : Nat) : Int)) _ _
        refine ⟨.inl rfl, ?_⟩
        refine wxs_cons ?_
        repeat walk_at "m"
        refine ⟨_, .eqI _ _, ?_⟩
        have e1 : (((f : Nat) : Int) == 1) = (f == 1) := by
          rw [Bool.eq_iff_iff, beq_iff_eq, beq_iff_eq]; omega
        rw [e1]
        repeat walk_at "m"
        refine cw_name G (by omega) ?_
        repeat walk_at "m"
        refine ⟨_, subQ hdu' (by omega) hget, ?_⟩
        repeat walk_at "m"
        refine ⟨_, .gtI _ _, ?_⟩
        rw [fillP] at hrun
        split
        · rename_i hp
          have hp' : 0 < dues.getD f 0 := by simpa using hp
          rw [if_pos hp'] at hrun
          repeat walk_at "m"
          refine ⟨_, subQ hdu' (by omega) hget, ?_⟩
          repeat walk_at "m"
          refine cw_str (log_small hdf) ?_
          repeat walk_at "m"
          refine ⟨_, _, _, rfl, T'.1, T'.2.1, ?_⟩
          refine cw_set G T' (by omega) sn sn' (dec_safe hdf) hs' ?_
          refine wxs_nil (wxs_nil ⟨Sub.app _ _, fs, _, rfl, fun x hx => hfs x (.tail _ hx), by rw [List.set_set], hrun, ?_, ?_⟩)
          · have := setT_len kvs' (nm f (f == 1)) (dec (dues.getD f 0 : Nat))
            omega
          · intro p hp
            rcases setT_mem hp with h | rfl
            · exact hs' p h
            · exact sn.2
        · rename_i hp
          have hp' : ¬ 0 < dues.getD f 0 := fun h => hp (by simpa using h)
          rw [if_neg hp'] at hrun
          refine wxs_cons ?_
          refine wx_delIn G ?_
          repeat walk_at "m"
          refine ⟨_, _, _, rfl, T'.1, T'.2.1, ?_⟩
          refine cw_del G T' (by omega) sn sn' hs' ?_
          refine wxs_nil (wxs_nil ⟨Sub.app _ _, fs, _, rfl, fun x hx => hfs x (.tail _ hx), by rw [List.set_set], hrun, ?_, ?_⟩)
          · have := delT_len kvs' (Txt.lower (nm f (f == 1)))
            omega
          · intro p hp
            exact hs' p (delT_mem hp)
    · rintro m' ⟨fs, kvs', hrest, hfs, rfl, hrun, hlen, hs'⟩
      cases fs with
      | cons _ _ => cases hrest
      | nil =>
        have hrun' : kvs' = fillP dues (List.range dues.length) kvs := hrun
        rw [← hrun'] at q
        have T' : Tab (mem.set l (.list (kvs'.map kvD))) i d l kvs' := T.put
        show WXs _ _ _ _ _ _ _ _ _
        repeat walk_at "m"
        refine ⟨i, d, l, 142, rfl, T'.1, T'.2.1, .items, ?_⟩
        repeat walk_at "m"
        refine cw_items G T' (by simp at hlen; omega) ?_
        rw [List.length_set]
        exact q
end
end
-- J10
section
theorem nm_len : ∀ p, p < 3 → ∀ g, (nm p g).length = p + 1 := by
  intro p hp g
  match p, g, hp with
  | 0, true, _ => decide +kernel
  | 0, false, _ => decide +kernel
  | 1, true, _ => decide +kernel
  | 1, false, _ => decide +kernel
  | 2, true, _ => decide +kernel
  | 2, false, _ => decide +kernel
theorem nm_low : ∀ p, p < 3 → ∀ g, Txt.lower (nm p g) = xs p := by
  intro p hp g
  match p, g, hp with
  | 0, true, _ => decide +kernel
  | 0, false, _ => decide +kernel
  | 1, true, _ => decide +kernel
  | 1, false, _ => decide +kernel
  | 2, true, _ => decide +kernel
  | 2, false, _ => decide +kernel
theorem xs_bne {p q : Nat} (hp : p < 3) (hq : q < 3) : (xs p != xs q) = (p != q) := by
  match p, q, hp, hq with
  | 0, 0, _, _ | 0, 1, _, _ | 0, 2, _, _ | 1, 0, _, _ | 1, 1, _, _ | 1, 2, _, _ | 2, 0, _, _ | 2, 1, _, _ | 2, 2, _, _ => decide +kernel
theorem xs_beq {p q : Nat} (hp : p < 3) (hq : q < 3) : (xs p == xs q) = (p == q) := by
  match p, q, hp, hq with
  | 0, 0, _, _ | 0, 1, _, _ | 0, 2, _, _ | 1, 0, _, _ | 1, 1, _, _ | 1, 2, _, _ | 2, 0, _, _ | 2, 1, _, _ | 2, 2, _, _ => decide +kernel

noncomputable abbrev PE := Nat × Bool × Nat
noncomputable def peK (e : PE) : Str × Str := (nm e.1 e.2.1, dec (e.2.2 : Nat))
noncomputable def offP (l : List PE) (p : Nat) : List PE := l.filter fun e => e.1 != p
noncomputable def putP (l : List PE) (p : Nat) (g : Bool) (v : Nat) : List PE := offP l p ++ [(p, g, v)]
theorem delT_pe {l : List PE} {p : Nat} {g : Bool} (hl : ∀ e ∈ l, e.1 < 3) (hp : p < 3) : delT (l.map peK) (Txt.lower (nm p g)) = (offP l p).map peK := by
  unfold delT offP
  rw [List.filter_map, List.filter_congr]
  intro e he
  show (Txt.lower (nm e.1 e.2.1) != Txt.lower (nm p g)) = _
  rw [nm_low _ (hl e he), nm_low _ hp, xs_bne (hl e he) hp]
theorem setT_pe {l : List PE} {p : Nat} {g : Bool} {v : Nat} (hl : ∀ e ∈ l, e.1 < 3) (hp : p < 3) : setT (l.map peK) (nm p g) (dec (v : Nat)) = (putP l p g v).map peK := by
  unfold setT putP
  rw [delT_pe hl hp, List.map_append]; rfl
theorem offP_mem {l : List PE} {p : Nat} {e : PE} (h : e ∈ offP l p) : e ∈ l := (List.mem_filter.mp h).1
theorem putP_mem {l : List PE} {p : Nat} {g : Bool} {v : Nat} {e : PE} (h : e ∈ putP l p g v) : e ∈ l ∨ e = (p, g, v) := by
  rcases List.mem_append.mp h with h | h
  · exact .inl (offP_mem h)
  · exact .inr (by simpa using h)
theorem offP_len (l : List PE) (p : Nat) : (offP l p).length ≤ l.length := List.length_filter_le _ _
theorem offP_less {l : List PE} {p : Nat} {e : PE} (he : e ∈ l) (hp : e.1 = p) : (offP l p).length + 1 ≤ l.length := by
  have : (offP l p).length < l.length := by
    refine List.length_filter_lt_length_iff_exists.mpr ⟨e, he, ?_⟩
    simp [hp]
  omega

noncomputable def mxA (b a : Nat × Nat) : Nat × Nat := if a.1 == b.1 then (if b.2 < a.2 then a else b) else if b.1 < a.1 then a else b
noncomputable def maxA : List (Nat × Nat) → Nat × Nat
  | [] => (0, 0)
  | p :: ps => ps.foldl mxA p
noncomputable def ciP (a : Nat × Nat) : Int × Int := ((a.1 : Int), ((a.2 + 1 : Nat) : Int))
theorem beq_cast (a b : Nat) : (((a : Nat) : Int) == ((b : Nat) : Int)) = (a == b) := by
  rw [Bool.eq_iff_iff, beq_iff_eq, beq_iff_eq]; omega
theorem pgt_ci (a b : Nat × Nat) : pgt (ciP a) (ciP b) = if a.1 == b.1 then decide (b.2 < a.2) else decide (b.1 < a.1) := by
  unfold pgt ciP
  rw [beq_cast, beq_cast]
  cases h : a.1 == b.1 with
  | true =>
    rw [if_pos rfl, if_pos rfl]
    by_cases h3 : a.2 = b.2
    · rw [if_pos (by simpa using h3)]
      have : ¬ b.2 < a.2 := by omega
      simp [this]
    · rw [if_neg (by simpa using h3), decide_eq_decide]
      omega
  | false =>
    rw [if_neg (by decide), if_neg (by decide), decide_eq_decide]
    omega
theorem mxA_ci (b a : Nat × Nat) : (if pgt (ciP a) (ciP b) then ciP a else ciP b) = ciP (mxA b a) := by
  rw [pgt_ci]
  unfold mxA
  cases h : a.1 == b.1 with
  | true =>
    rw [if_pos rfl, if_pos rfl]
    by_cases h3 : b.2 < a.2 <;> simp [h3]
  | false =>
    simp only [Bool.false_eq_true, if_false]
    by_cases h3 : b.1 < a.1 <;> simp [h3]
theorem foldl_ci : ∀ (l : List (Nat × Nat)) (b : Nat × Nat), (l.map ciP).foldl (fun b a => if pgt a b then a else b) (ciP b) = ciP (l.foldl mxA b)
  | [], _ => rfl
  | a :: l, b => by
    rw [List.map_cons, List.foldl_cons, List.foldl_cons, mxA_ci, foldl_ci l]
theorem maxP_ci {l : List (Nat × Nat)} (h : l ≠ []) : maxP (l.map ciP) = ciP (maxA l) := by
  cases l with
  | nil => exact absurd rfl h
  | cons a l => exact foldl_ci l a
theorem foldl_mem : ∀ (l : List (Nat × Nat)) (b : Nat × Nat), l.foldl mxA b = b ∨ l.foldl mxA b ∈ l
  | [], _ => .inl rfl
  | a :: l, b => by
    rw [List.foldl_cons]
    rcases foldl_mem l (mxA b a) with h | h
    · rw [h]
      have : mxA b a = a ∨ mxA b a = b := by unfold mxA; split <;> split <;> simp
      rcases this with h | h
      · rw [h]; exact .inr (.head _)
      · rw [h]; exact .inl rfl
    · exact .inr (.tail _ h)
theorem maxA_mem {l : List (Nat × Nat)} (h : l ≠ []) : maxA l ∈ l := by
  cases l with
  | nil => exact absurd rfl h
  | cons a l =>
    rcases foldl_mem l a with h | h
    · show l.foldl mxA a ∈ _
      rw [h]; exact .head _
    · exact .tail _ h
noncomputable def vpP (e : PE) : Nat × Nat := (e.2.2, e.1)
noncomputable def sumP (l : List PE) : Nat := (l.map fun e => e.2.2).sum
theorem sumP_ints (l : List PE) : (l.map fun e => ((e.2.2 : Nat) : Int)).sum = ((sumP l : Nat) : Int) := by
  induction l with
  | nil => rfl
  | cons e l ih => rw [List.map_cons, List.sum_cons, ih]; show _ = ((e.2.2 + sumP l : Nat) : Int); omega
noncomputable def backA (sg : List Nat) : Nat → List PE → List Nat → Option (List Nat)
  | 0, _, _ => none
  | f + 1, l, back =>
    if l.isEmpty || decide (7 ≤ back.length) then some back
    else if (maxA (l.map vpP)).1 / 100 < 1 + sumP (offP l (maxA (l.map vpP)).2) then none
    else if (maxA (l.map vpP)).1 / 100 == 1 + sumP (offP l (maxA (l.map vpP)).2) then
      backA sg f (offP l (maxA (l.map vpP)).2) (sg.getD (maxA (l.map vpP)).2 0 :: back)
    else backA sg f (putP l (maxA (l.map vpP)).2 ((back.length + 1) % 2 == 1) ((maxA (l.map vpP)).1 / 100 - 1 - sumP (offP l (maxA (l.map vpP)).2))) (sg.getD (maxA (l.map vpP)).2 0 :: back)
end
-- J11
section
section
variable {prog : Program} {w : World} {s₀ : Shared} {k : Nat} {mem : Mem} {Q : AV → Mem → Prop}
theorem fn223 (w : World) : FnAt (KK w) 223 (fdAt (KK w) 223) (bodyAt (KK w) 223) :=
  ⟨⟨((KK w).lookup 223).getD default, rfl, rfl⟩, rfl, by rfl, rfl, rfl, rfl, rfl, rfl, rfl, of_decide_eq_true rfl, by rfl⟩
noncomputable def mxF (d : PyData) : PyData := match d with
  | .tuple [.str a, .str b] => .tuple [intOf (.str b), .int a.length]
  | _ => .none
noncomputable def smF (d : PyData) : PyData := match d with
  | .tuple [_, b] => intOf b
  | _ => .none
noncomputable def smB (z : Int) (d : PyData) : Bool := match d with
  | .tuple [.str a, _] => ((a.length : Int) != z)
  | _ => false
structure PeOk (sg : List Nat) (l : List PE) : Prop where
  lt : ∀ e ∈ l, e.1 < sg.length
  small : ∀ e ∈ l, e.2.2 < 10 ^ 20
  len : l.length ≤ 100
theorem mxF_map {l : List PE} (h3 : ∀ e ∈ l, e.1 < 3) (hs : ∀ e ∈ l, e.2.2 < 10 ^ 20) : ((l.map peK).map kvD).map mxF = ((l.map vpP).map ciP).map pairD := by
  rw [List.map_map, List.map_map, List.map_map, List.map_map]
  refine List.map_congr_left fun e he => ?_
  show PyData.tuple [intOf (.str (dec (e.2.2 : Nat))), .int ((nm e.1 e.2.1).length : Nat)] = PyData.tuple [.int ((e.2.2 : Nat) : Int), .int ((e.1 + 1 : Nat) : Int)]
  rw [intOf_dec (by have := hs e he; omega), nm_len _ (h3 e he)]
theorem smF_map {l : List PE} {p : Nat} (h3 : ∀ e ∈ l, e.1 < 3) (hs : ∀ e ∈ l, e.2.2 < 10 ^ 20) :
    (((l.map peK).map kvD).filter (smB ((p + 1 : Nat) : Int))).map smF = ((offP l p).map fun e => ((e.2.2 : Nat) : Int)).map .int := by
  rw [List.map_map, List.filter_map, List.map_map, List.map_map]
  have e1 : l.filter (smB ((p + 1 : Nat) : Int) ∘ (kvD ∘ peK)) = offP l p := by
    refine List.filter_congr fun e he => ?_
    show ((((nm e.1 e.2.1).length : Nat) : Int) != ((p + 1 : Nat) : Int)) = _
    rw [nm_len _ (h3 e he)]
    show (!((((e.1 + 1 : Nat)) : Int) == ((p + 1 : Nat) : Int))) = !(e.1 == p)
    rw [beq_cast]
    congr 1
    rw [Bool.eq_iff_iff]; simp
  rw [e1]
  refine List.map_congr_left fun e he => ?_
  exact intOf_dec (by have := hs e (offP_mem he); omega)

theorem mt_div (v : Nat) : ((v : Nat) : Int).fdiv 100 = ((v / 100 : Nat) : Int) := by
  rw [Int.fdiv_eq_ediv_of_nonneg _ (by omega)]; omega
noncomputable def blocs (i : Nat) (sg back : List Nat) : Loc := [("told", .ref i), ("signs", .str (S sg)), ("back", .str (S back))]
structure BInv (mem : Mem) (i l : Nat) (sg r : List Nat) (n : Nat) (b : Loc) (m : Mem) (es : List PE) (back : List Nat) (j : Mem) : Prop where
  hb : b = blocs i sg back
  hm : m = mem.set l (.list ((es.map peK).map kvD)) ++ j
  run : backA sg n es back = some r
  ok : PeOk sg es
  bl : back.length ≤ 7

set_option maxHeartbeats 4000000 in
theorem cw_back (G : Gr w s₀ (KK w)) {i d l : Nat} {es : List PE} {sg r : List Nat} {n : Nat} (T : Tab mem i d l (es.map peK)) (hsg : sg.length ≤ 3) (ok : PeOk sg es) (hrun : backA sg n es [] = some r)
    (q : ∀ o, Q (.str (S r)) (mem.set l (.list o))) :
    CallW prog w s₀ (k + 5) (.ref 223) [.ref i, .str (S sg)] [] mem Q := by
  refine CallW.drop (callW_fn G (fn223 w) (ps := ["told", "signs"]) (exA := []) (ex := []) (fun _ _ => .nil) ?_ ?_ ?_ ?_)
  · intro vs kvs h1 h2
    obtain ⟨a, b, rfl⟩ := len2 h1
    obtain rfl := len0 h2
    refine Looks.of_pure ?_
    kernel_rfl
  · exact of_decide_eq_true rfl
  · intro x hx
    simp at hx
    rcases hx with rfl | rfl <;> exact .inl rfl
  · intro L
    refine wxs_cons ?_
    walk_at "m"
    walk_at "m"
    show WXs _ _ _ _ _ _ _ _ _
    refine wxs_while (fun n b m => ∃ es back j, BInv mem i l sg r n b m es back j) n (blocs i sg []) (by rw [blocs, ← nil_S]; exact Sub.refl _) ⟨es, [], [], rfl, by rw [set_same T.2.2, List.append_nil], hrun, ok, by simp⟩ ?_
    rintro n b m ⟨es, back, j, rfl, rfl, hrun, ok, hbl⟩
    have T' : Tab (mem.set l (.list ((es.map peK).map kvD)) ++ j) i d l (es.map peK) := by
      have := T.put (kvs' := es.map peK)
      exact ⟨get_app this.1 _, get_app this.2.1 _, get_app this.2.2 _⟩
    have h3 : ∀ e ∈ es, e.1 < 3 := fun e he => Nat.lt_of_lt_of_le (ok.lt e he) hsg
    cases n with
    | zero => cases hrun
    | succ n =>
    rw [backA] at hrun
    refine wt_and ?_
    repeat walk_at "m"
    refine cw_lenI G T'.1 T'.2.1 (cw_len84 G T' (by rw [List.length_map]; have := ok.len; omega) ⟨_, rfl, by rw [List.length_map]; have := ok.len; omega, ?_⟩)
    repeat walk_at "m"
    refine ⟨_, .gtI _ _, ?_⟩
    rw [List.length_map]
    have done : some back = some r → Dropped mem Q (.str (S back)) (mem.set l (.list ((es.map peK).map kvD)) ++ j) := fun h => by
      injection h with h
      subst h
      exact ⟨_, j, rfl, by simp, trivial, closedM_put, q _⟩
    split
    · rename_i hc
      have hc' : 0 < es.length := by simpa using hc
      have hne : es ≠ [] := List.length_pos_iff.mp hc'
      refine wt_cmp ?_ rfl
      repeat walk_at "m"
      refine cw_lenS (szS (by omega)) ?_
      repeat walk_at "m"
      refine ⟨_, .ltI _ _, ?_⟩
      rw [S_len]
      split
      · rename_i hc2
        have hc2' : back.length < 7 := by have := of_decide_eq_true hc2; omega
        rw [if_neg (by simp [hne]; omega)] at hrun
        have hvp : es.map vpP ≠ [] := by simp [hne]
        obtain ⟨em, hem, hev⟩ := List.mem_map.mp (maxA_mem hvp)
        generalize hM : maxA (es.map vpP) = M at hrun hev
        obtain ⟨V, p⟩ := M
        injection hev with e1 e2
        have hp : p < sg.length := by rw [← e2]; exact ok.lt em hem
        have hp3 : p < 3 := by omega
        have hV : V < 10 ^ 20 := by rw [← e1]; exact ok.small em hem
        have hlen100 := ok.len
        have hsm := ok.small
        simp only at hrun
        split at hrun
        · cases hrun
        rename_i hrest
        refine wxs_cons ?_
        refine wx_unD ?_ (by first | exact .inl rfl | exact .inr ⟨rfl, rfl⟩) (by first | exact .inl rfl | exact .inr ⟨rfl, rfl⟩) (by rfl) (by rfl)
        repeat walk_at "m"
        refine we_comp ⟨rfl, of_decide_eq_true rfl, rfl⟩ ?_ (by intro _; rfl)
        repeat walk_at "m"
        refine ⟨i, d, l, 142, rfl, T'.1, T'.2.1, .items, ?_⟩
        repeat walk_at "m"
        refine cw_items G T' (by rw [List.length_map]; omega) ?_
        refine ⟨_, _, _, .list _ ((es.map peK).map kvD) (by first | exact List.getElem?_concat_length | simp), cb0 mxF (by rw [List.length_map, List.length_map, sizeLine_eq]; omega) ?_, ?_⟩
        · intro C dd o hd
          rw [List.map_map] at hd
          obtain ⟨e, he, rfl⟩ := List.mem_map.mp hd
          have h30 : e.2.2 < 10 ^ 30 := by have := hsm e he; omega
          have hnl := nm_len _ (h3 e he) e.2.1
          refine ⟨.inl rfl, .inl rfl, rfl, rfl, ?_⟩
          repeat walk_at "m"
          refine cw_int (n := (e.2.2 : Int)) (by omega) (big30 h30) ?_
          repeat walk_at "m"
          refine cw_lenS (by show (nm e.1 e.2.1).length ≤ _; rw [hnl, sizeLine_eq]; have := h3 e he; omega) ?_
          repeat walk_at "m"
          refine ⟨[_, _], rfl, szl (Nat.le_of_ble_eq_true rfl), rfl, ?_⟩
          show _ = AV.dat (.tuple [intOf (.str (dec (e.2.2 : Nat))), .int ((nm e.1 e.2.1).length : Nat)])
          rw [intOf_dec h30]
          rfl
        rw [flatMap_one, mxF_map h3 hsm]
        repeat walk_at "m"
        refine cw_max (ps := (es.map vpP).map ciP) (by first | exact List.getElem?_concat_length | simp) (by simp [hne]) ?_
        rw [maxP_ci hvp, hM]
        refine ⟨.int ((V : Nat) : Int), .int ((p + 1 : Nat) : Int), rfl, ?_⟩
        show WXs _ _ _ _ _ _ _ _ _
        have hsum : sumP (offP es p) < 10 ^ 20 := by omega
        refine wxs_cons ?_
        repeat walk_at "m"
        refine ⟨_, .divI _ _ (by decide) (by rfl), ?_⟩
        rw [mt_div]
        repeat walk_at "m"
        refine ⟨_, .subI _ _, ?_⟩
        repeat walk_at "m"
        refine we_comp ⟨rfl, of_decide_eq_true rfl, rfl⟩ ?_ (by intro _; rfl)
        repeat walk_at "m"
        rw [List.append_assoc, List.append_assoc]
        have T2 : ∀ j', Tab (mem.set l (.list ((es.map peK).map kvD)) ++ (j ++ j')) i d l (es.map peK) := fun j' => by
          rw [← List.append_assoc]
          exact ⟨get_app T'.1 _, get_app T'.2.1 _, get_app T'.2.2 _⟩
        refine ⟨i, d, l, 142, rfl, (T2 _).1, (T2 _).2.1, .items, ?_⟩
        repeat walk_at "m"
        refine cw_items G (T2 _) (by rw [List.length_map]; omega) ?_
        refine ⟨_, _, _, .list _ ((es.map peK).map kvD) (by first | exact List.getElem?_concat_length | simp), cb1 (smB ((p + 1 : Nat) : Int)) smF (by rw [List.length_map, List.length_map, sizeLine_eq]; omega) ?_, ?_⟩
        · intro C dd o hd
          rw [List.map_map] at hd
          obtain ⟨e, he, rfl⟩ := List.mem_map.mp hd
          have h30 : e.2.2 < 10 ^ 30 := by have := hsm e he; omega
          have hnl := nm_len _ (h3 e he) e.2.1
          refine ⟨.inl rfl, .inl rfl, rfl, rfl, ?_⟩
          repeat walk_at "m"
          refine cw_lenS (by show (nm e.1 e.2.1).length ≤ _; rw [hnl, sizeLine_eq]; have := h3 e he; omega) ?_
          repeat walk_at "m"
          refine ⟨_, .neI _ _, rfl, rfl, fun _ => ?_⟩
          repeat walk_at "m"
          refine cw_int (n := (e.2.2 : Int)) (by omega) (big30 h30) ⟨rfl, ?_⟩
          show _ = AV.dat (intOf (.str (dec (e.2.2 : Nat))))
          rw [intOf_dec h30]
        rw [flatMap_if, smF_map h3 hsm]
        repeat walk_at "m"
        refine cw_sum (ns := (offP es p).map fun e => ((e.2.2 : Nat) : Int)) (by first | exact List.getElem?_concat_length | simp) ?_
        rw [sumP_ints]
        refine ⟨_, .subI _ _, ?_⟩
        have hval : (((V / 100 : Nat) : Int) - 1 - ((sumP (offP es p) : Nat) : Int)) = ((V / 100 - 1 - sumP (offP es p) : Nat) : Int) := by omega
        rw [hval]
        have hpz : ((p + 1 : Nat) : Int) - 1 = ((p : Nat) : Int) := by omega
        have hgp : sg[p]? = some (sg.getD p 0) := by rw [List.getD, List.getElem?_eq_getElem hp]; rfl
        repeat walk_at "m"
        refine ⟨_, .subI _ _, ?_⟩
        rw [hpz]
        refine ⟨_, .strI _ _ (fits_nat (Nat.lt_of_lt_of_le hp3 (by decide))) (charAt_S hp), ?_⟩
        rw [item_S hgp]
        repeat walk_at "m"
        refine ⟨_, .addS _ _ (by rw [S_len, S_len, sizeLine_eq]; simp; omega), ?_⟩
        rw [S_app]
        repeat walk_at "m"
        refine ⟨_, .subI _ _, ?_⟩
        rw [hpz]
        repeat walk_at "m"
        refine cw_lenS (by rw [S_len, sizeLine_eq]; simp; omega) ?_
        repeat walk_at "m"
        refine ⟨_, .modI _ _ (by decide), ?_⟩
        repeat walk_at "m"
        refine ⟨_, .eqI _ _, ?_⟩
        have hmod : (((((S ([sg.getD p 0] ++ back)).length : Nat) : Int).fmod 2) == 1) = ((back.length + 1) % 2 == 1) := by
          rw [S_len, Int.fmod_eq_emod_of_nonneg _ (by omega), Bool.eq_iff_iff, beq_iff_eq, beq_iff_eq, List.length_append, List.length_singleton]
          omega
        rw [hmod]
        repeat walk_at "m"
        refine cw_name G hp3 ?_
        repeat walk_at "m"
        refine ⟨_, .eqI _ _, ?_⟩
        obtain ⟨sn, sn'⟩ := nm_safe p hp3 ((back.length + 1) % 2 == 1)
        have hkv : ∀ q ∈ es.map peK, q.1.length ≤ 1000 := by
          intro q hq
          obtain ⟨e, he, rfl⟩ := List.mem_map.mp hq
          show (nm e.1 e.2.1).length ≤ _
          rw [nm_len _ (h3 e he)]
          have := h3 e he
          omega
        have hlm : l < (mem.set l (.list ((es.map peK).map kvD))).length := by
          rw [List.length_set]; exact (List.getElem?_eq_some_iff.mp T.2.2).1
        have hset : ∀ (o : List PyData) (j' : Mem), ((mem.set l (.list ((es.map peK).map kvD))) ++ (j ++ j')).set l (.list o) = mem.set l (.list o) ++ (j ++ j') := fun o j' => by
          rw [List.set_append_left _ _ hlm, List.set_set]
        have hbb : [sg.getD p 0] ++ back = sg.getD p 0 :: back := rfl
        rw [hbb]
        split
        · rename_i hr
          have hr' : V / 100 = 1 + sumP (offP es p) := by
            have := eq_of_beq hr
            omega
          rw [if_pos (by simpa using hr')] at hrun
          refine wxs_cons ?_
          refine wx_delIn G ?_
          repeat walk_at "m"
          rw [List.append_assoc, List.append_assoc, List.append_assoc j]
          refine ⟨_, _, _, rfl, (T2 _).1, (T2 _).2.1, ?_⟩
          refine cw_del G (T2 _) (by rw [List.length_map]; omega) sn sn' hkv ?_
          rw [delT_pe h3 hp3, hset]
          refine wxs_nil (wxs_nil ⟨n, blocs i sg (sg.getD p 0 :: back), by omega, ?_, offP es p, _, _, rfl, rfl, hrun, ⟨fun e he => ok.lt e (offP_mem he), fun e he => ok.small e (offP_mem he), by have := offP_len es p; omega⟩, by simp; omega⟩)
          exact Sub.app _ _
        · rename_i hr
          have hr' : ¬ V / 100 = 1 + sumP (offP es p) := by
            intro h
            refine hr (beq_iff_eq.mpr ?_)
            omega
          rw [if_neg (by simpa using hr')] at hrun
          have hv20 : V / 100 - 1 - sumP (offP es p) < 10 ^ 20 := by omega
          repeat walk_at "m"
          refine cw_str (log_small (by omega)) ?_
          repeat walk_at "m"
          rw [List.append_assoc, List.append_assoc, List.append_assoc j]
          refine ⟨_, _, _, rfl, (T2 _).1, (T2 _).2.1, ?_⟩
          refine cw_set G (T2 _) (by rw [List.length_map]; omega) sn sn' (dec_safe (by omega)) hkv ?_
          rw [setT_pe h3 hp3, hset]
          refine wxs_nil (wxs_nil ⟨n, blocs i sg (sg.getD p 0 :: back), by omega, ?_, putP es p ((back.length + 1) % 2 == 1) (V / 100 - 1 - sumP (offP es p)), _, _, rfl, rfl, hrun, ⟨?_, ?_, ?_⟩, by simp; omega⟩)
          · exact Sub.app _ _
          · intro e he
            rcases putP_mem he with h | rfl
            · exact ok.lt e h
            · exact hp
          · intro e he
            rcases putP_mem he with h | rfl
            · exact ok.small e h
            · exact hv20
          · have := offP_less hem e2
            unfold putP
            rw [List.length_append]
            simp; omega
      · rename_i hc2
        have hc2' : ¬ back.length < 7 := fun h => hc2 (decide_eq_true (by omega))
        rw [if_pos (by simp; omega)] at hrun
        show WXs _ _ _ _ _ _ _ _ _
        repeat walk_at "m"
        exact done hrun
    · rename_i hc
      have hc' : es = [] := by
        cases es with
        | nil => rfl
        | cons _ _ => simp at hc
      rw [if_pos (by simp [hc'])] at hrun
      show WXs _ _ _ _ _ _ _ _ _
      repeat walk_at "m"
      exact done hrun
end
end
-- E2
section
open Builtin.Str StrLaws
noncomputable def subL (T y : List Nat) (i : Nat) : Bool := (T.drop i).take y.length == y
theorem S_extract (T : List Nat) (i j : Nat) : (S T).cps.extract i j = ((T.take j).drop i).toArray := by
  show T.toArray.extract i j = _
  rw [List.extract_toArray]
  simp [List.extract_eq_take_drop, List.take_drop]
  by_cases h : i ≤ j
  · rw [Nat.add_sub_cancel' h]
  · rw [List.drop_eq_nil_of_le (by simp; omega), List.drop_eq_nil_of_le (by simp; omega)]
theorem subAt_S (T y : List Nat) (i : Nat) : subAt (S T) (S y) i = subL T y i := by
  unfold subAt subL
  rw [S_extract, S_len, List.take_drop]
  show (_ == y.toArray) = _
  rw [Bool.eq_iff_iff, beq_iff_eq, beq_iff_eq]
  constructor
  · intro h
    have := congrArg Array.toList h
    simpa using this
  · intro h
    rw [h]
noncomputable def occF (T y : List Nat) (hi limit : Nat) : List Nat → Nat → Nat → List Nat
  | [], _, _ => []
  | i :: is, free, n => if decide (n < limit) && (decide (free ≤ i) && (decide (i + y.length ≤ hi) && subL T y i)) then i :: occF T y hi limit is (i + y.length) (n + 1) else occF T y hi limit is free n
theorem occ_list_go (T y : List Nat) (hi limit : Nat) : ∀ (is : List Nat) (found : Array Nat) (free : Nat),
    (forIn is (found, free) (occBody (S T) (S y) hi limit)).run.fst.toList = found.toList ++ occF T y hi limit is free found.size
  | [], found, free => by simp [occF]
  | i :: is, found, free => by
    rw [List.forIn_cons]
    unfold occBody
    rw [occF]
    by_cases h : (((found, free).fst.size < limit ∧ (found, free).snd ≤ i) ∧ i + (S y).length ≤ hi) ∧ subAt (S T) (S y) i = true
    · have h' := h
      rw [S_len, subAt_S] at h'
      rw [if_pos h, if_pos (by simp; exact ⟨h'.1.1.1, h'.1.1.2, h'.1.2, h'.2⟩)]
      have := occ_list_go T y hi limit is (found.push i) (i + (S y).length)
      refine this.trans ?_
      rw [S_len]; simp
    · have h' := h
      rw [S_len, subAt_S] at h'
      rw [if_neg h, if_neg (by simp; intro a b c; simpa using fun d => h' ⟨⟨⟨a, b⟩, c⟩, d⟩)]
      exact occ_list_go T y hi limit is found free
theorem occ_S (T y : List Nat) (lo hi limit : Nat) : occurrences (S T) (S y) lo hi limit = occF T y hi limit (List.range' lo (hi + 1 - lo)) lo 0 := by
  rw [occ_eq, occ_list_go]; simp
noncomputable def hasL (T y : List Nat) : Bool := !(occF T y T.length 1 (List.range' 0 (T.length + 1)) 0 0).isEmpty
theorem contains_S (T y : List Nat) : Txt.contains (S T) (S y) = hasL T y := by
  unfold Txt.contains hasL
  rw [occ_S, S_len]; rfl
noncomputable def partsL (T : List Nat) (cuts : List Nat) (wd : Nat) : List (List Nat) := ((0 :: cuts.map (· + wd)).zip (cuts ++ [T.length])).map fun p => (T.take p.2).drop p.1
theorem parts_S (T cuts : List Nat) (wd : Nat) : partsBetween (S T) cuts wd = (partsL T cuts wd).map S := by
  unfold partsBetween partsL
  rw [S_len, List.map_map]
  refine List.map_congr_left fun p _ => ?_
  show strSub (S T) p.1 p.2 = S _
  unfold strSub
  rw [S_extract]; rfl
theorem kind_S {l : List Nat} (h : Low l) : Builtin.Str.strKind (S l) = 1 := by
  unfold Builtin.Str.strKind
  rw [if_pos]
  have := S_ascii h
  rw [Array.all_eq_true] at this ⊢
  intro i hi
  have := this i hi
  simp at this ⊢
  omega
noncomputable def cutsL (T y : List Nat) : List Nat := occF T y T.length (T.length + 1) (List.range' 0 (T.length + 1)) 0 0
noncomputable def splitC (T : List Nat) (wd : Nat) : List Nat → List (List Nat)
  | [] => [T]
  | c :: cs => partsL T (c :: cs) wd
theorem split_S {T y : List Nat} (hT : Low T) (hy : Low y) (hl : y.length ≤ T.length) : Txt.split (S T) (S y) = (splitC T y.length (cutsL T y)).map S := by
  unfold Txt.split
  rw [if_neg (by rw [kind_S hT, kind_S hy, S_len, S_len]; simp; omega), occ_S, S_len]
  show (if (cutsL T y).isEmpty = true then _ else partsBetween (S T) (cutsL T y) _) = _
  cases h : cutsL T y with
  | nil => rfl
  | cons c cs =>
    rw [if_neg (by simp), parts_S, S_len]; rfl
noncomputable def loopL (T : List Nat) (ep : Nat) : List (List Nat) → Nat → Bool
  | [], _ => true
  | w :: ws, sp => match occF T w ep 1 (List.range' sp (ep + 1 - sp)) sp 0 with
    | [] => false
    | i :: _ => loopL T ep ws (i + w.length)
theorem find4_S {T w : List Nat} {sp ep : Nat} (he : ep ≤ T.length) : find4 (S T) (S w) (sp : Nat) (ep : Nat) = match occF T w ep 1 (List.range' sp (ep + 1 - sp)) sp 0 with | n :: _ => (n : Int) | [] => -1 := by
  unfold find4
  have e1 : fromIndex (S T).length ((sp : Nat) : Int) = sp := by unfold fromIndex; rw [if_neg (by omega)]; omega
  have e2 : min (fromIndex (S T).length ((ep : Nat) : Int)) (S T).length = ep := by
    have : fromIndex (S T).length ((ep : Nat) : Int) = ep := by unfold fromIndex; rw [if_neg (by omega)]; omega
    rw [this, S_len]; omega
  rw [e1, e2, occ_S]
  all_goals (cases occF T w ep 1 (List.range' sp (ep + 1 - sp)) sp 0 <;> rfl)
theorem eloop_S {T : List Nat} {ep : Nat} (he : ep ≤ T.length) : ∀ (ws : List (List Nat)) (sp : Nat), eloop (S T) (ep : Nat) (ws.map S) (sp : Nat) = loopL T ep ws sp
  | [], _ => rfl
  | w :: ws, sp => by
    rw [List.map_cons, eloop, find4_S he, loopL]
    cases h : occF T w ep 1 (List.range' sp (ep + 1 - sp)) sp 0 with
    | nil => rfl
    | cons n ns =>
      rw [if_neg (by simp)]
      show eloop _ _ _ ((n : Int) + ((S w).length : Nat)) = _
      rw [S_len]
      exact eloop_S he ws (n + w.length)
noncomputable def startL (T : List Nat) (ws : List (List Nat)) (sp ep : Nat) : Bool := if ep < sp then false else loopL T ep ws sp
noncomputable def endsL (T y : List Nat) : Bool := decide (y.length ≤ T.length) && subL T y (T.length - y.length)
noncomputable def startsL (T y : List Nat) : Bool := decide (y.length ≤ T.length) && subL T y 0
theorem ends_S (T y : List Nat) : Txt.endswith (S T) (S y) = endsL T y := by
  unfold Txt.endswith endsL
  rw [S_len, S_len, subAt_S, Nat.zero_add]
theorem starts_S (T y : List Nat) : Txt.startswith (S T) (S y) = startsL T y := by
  unfold Txt.startswith startsL
  rw [S_len, S_len, subAt_S, Nat.zero_add]
theorem estart_S {T : List Nat} {ws : List (List Nat)} {sp ep : Nat} (he : ep ≤ T.length) : estart (S T) (ws.map S) (sp : Nat) (ep : Nat) = startL T ws sp ep := by
  unfold estart startL
  rw [eloop_S he]
  by_cases h : ep < sp
  · rw [if_pos h, if_pos (by omega)]
  · rw [if_neg h, if_neg (by omega)]
noncomputable def lastL (T : List Nat) (ws : List (List Nat)) (sp : Nat) : Bool :=
  match ws.getLastD [] with
  | [] => startL T ws sp T.length
  | c :: cs => if endsL T (c :: cs) then startL T (ws.eraseIdx (ws.length - 1)) sp (T.length - (c :: cs).length) else false
theorem map_eraseIdx' {α β : Type} (f : α → β) : ∀ (l : List α) (n : Nat), (l.map f).eraseIdx n = (l.eraseIdx n).map f
  | [], _ => rfl
  | _ :: _, 0 => rfl
  | a :: l, n + 1 => by
    show f a :: (l.map f).eraseIdx n = f a :: (l.eraseIdx n).map f
    rw [map_eraseIdx' f l n]
theorem getLastD_S (ws : List (List Nat)) : (ws.map S).getLastD "" = S (ws.getLastD []) := by
  rw [nil_S]
  have key : ∀ (ws : List (List Nat)) (d : List Nat), (ws.map S).getLastD (S d) = S (ws.getLastD d) := by
    intro ws
    induction ws with
    | nil => intro d; rfl
    | cons w ws ih => intro d; rw [List.map_cons, List.getLastD_cons, List.getLastD_cons, ih]
  exact key ws []
theorem elast_S (T : List Nat) (ws : List (List Nat)) (sp : Nat) : elast (S T) (ws.map S) (sp : Nat) = lastL T ws sp := by
  unfold elast lastL
  rw [getLastD_S, S_len, S_len, ends_S, List.length_map, map_eraseIdx']
  cases h : ws.getLastD [] with
  | nil =>
    rw [if_neg (by decide)]
    exact estart_S (Nat.le_refl _)
  | cons c cs =>
    rw [if_pos (by simp; omega)]
    simp only
    by_cases he : endsL T (c :: cs) = true
    · rw [if_pos he, if_pos he]
      have hl : (c :: cs).length ≤ T.length := by
        unfold endsL at he
        simp only [Bool.and_eq_true, decide_eq_true_eq] at he
        exact he.1
      have e : ((T.length : Nat) : Int) - (((c :: cs).length : Nat) : Int) = ((T.length - (c :: cs).length : Nat) : Int) := by omega
      rw [e]
      exact estart_S (by omega)
    · rw [if_neg he, if_neg he]
noncomputable def headL (T : List Nat) (ps : List (List Nat)) : Bool :=
  match ps with
  | (c :: cs) :: r => if startsL T (c :: cs) then lastL T r (c :: cs).length else false
  | ps => lastL T ps 0
noncomputable def ematchL (w T : List Nat) : Bool :=
  match cutsL w [46, 46, 46] with
  | [] => w == T
  | c :: cs => headL T (partsL w (c :: cs) 3)
theorem occF_lim (T y : List Nat) (hi : Nat) : ∀ (is : List Nat) (free n : Nat) (limit limit' : Nat), n < limit → n < limit' → (occF T y hi limit is free n).isEmpty = (occF T y hi limit' is free n).isEmpty
  | [], _, _, _, _, _, _ => rfl
  | i :: is, free, n, l, l', h, h' => by
    rw [occF, occF]
    by_cases hc : (decide (free ≤ i) && (decide (i + y.length ≤ hi) && subL T y i)) = true
    · rw [if_pos (by rw [hc]; simpa using h), if_pos (by rw [hc]; simpa using h')]; rfl
    · rw [if_neg (by simp only [Bool.and_eq_true]; exact fun x => hc (by simpa using x.2)), if_neg (by simp only [Bool.and_eq_true]; exact fun x => hc (by simpa using x.2))]
      exact occF_lim T y hi is free n l l' h h'
theorem ematch_S {w T : List Nat} (hw : Low w) : ematch (S w) (S T) = ematchL w T := by
  have hd : dots = S [46, 46, 46] := dots_S
  unfold ematch ematchL
  rw [hd, contains_S, S_beq]
  have e : hasL w [46, 46, 46] = !(cutsL w [46, 46, 46]).isEmpty := by
    unfold hasL cutsL
    rw [occF_lim _ _ _ _ 0 0 1 (w.length + 1) (by omega) (by omega)]
  rw [e]
  cases h : cutsL w [46, 46, 46] with
  | nil => rfl
  | cons c cs =>
    rw [if_neg (by simp)]
    have hl : ([46, 46, 46] : List Nat).length ≤ w.length := by
      rcases Nat.lt_or_ge w.length 3 with h3 | h3
      · exfalso
        have : Txt.contains (S w) (S [46, 46, 46]) = true := by rw [contains_S, e, h]; rfl
        unfold Txt.contains at this
        obtain ⟨i, h1, h2⟩ := (found_iff _ _).mp this
        rw [S_len, S_len] at h1
        simp at h1; omega
      · exact h3
    rw [split_S hw (show Low [46, 46, 46] from fun c hc => by simp at hc; omega) hl, h]
    show (if (((((partsL w (c :: cs) 3).map S).headD "").length : Nat) : Int) != 0 then (if Txt.startswith (S T) (((partsL w (c :: cs) 3).map S).headD "") then elast (S T) (((partsL w (c :: cs) 3).map S).eraseIdx 0) (((partsL w (c :: cs) 3).map S).headD "").length else false) else elast (S T) ((partsL w (c :: cs) 3).map S) 0) = headL T (partsL w (c :: cs) 3)
    cases hp : partsL w (c :: cs) 3 with
    | nil =>
      rw [if_neg (by rw [nil_S]; decide)]
      exact elast_S T [] 0
    | cons p r =>
      cases p with
      | nil =>
        rw [if_neg (by show ¬ ((((S []).length : Nat) : Int) != 0) = true; rw [S_len]; decide)]
        exact elast_S T ([] :: r) 0
      | cons a p =>
        rw [if_pos (by show ((((S (a :: p)).length : Nat) : Int) != 0) = true; rw [S_len]; simp; omega)]
        show (if Txt.startswith (S T) (S (a :: p)) = true then elast (S T) (r.map S) ((S (a :: p)).length : Nat) else false) = headL T ((a :: p) :: r)
        rw [starts_S, S_len, headL]
        by_cases hs : startsL T (a :: p) = true
        · rw [if_pos hs, if_pos hs]
          exact elast_S T r _
        · rw [if_neg hs, if_neg hs]
end
-- E3
section
noncomputable def joinP : List (List Nat) → List Nat
  | [] => []
  | [p] => p
  | p :: q :: ps => p ++ (D3 ++ joinP (q :: ps))
noncomputable def NoDot (p : List Nat) : Prop := ∀ c ∈ p, c ≠ 46
noncomputable def cutsFrom : Nat → List (List Nat) → List Nat
  | _, [] => []
  | _, [_] => []
  | off, p :: q :: ps => (off + p.length) :: cutsFrom (off + p.length + 3) (q :: ps)
theorem subL_app (pre r y : List Nat) : subL (pre ++ r) y pre.length = (r.take y.length == y) := by
  unfold subL
  rw [List.drop_left]
theorem occF_cons (T y : List Nat) (hi lim i : Nat) (is : List Nat) (free n : Nat) :
    occF T y hi lim (i :: is) free n = if decide (n < lim) && (decide (free ≤ i) && (decide (i + y.length ≤ hi) && subL T y i)) then i :: occF T y hi lim is (i + y.length) (n + 1) else occF T y hi lim is free n := by rw [occF]
theorem occF_skip {T y : List Nat} {hi lim i : Nat} {is : List Nat} {free n : Nat} (h : ¬ (free ≤ i ∧ subL T y i = true)) :
    occF T y hi lim (i :: is) free n = occF T y hi lim is free n := by
  rw [occF_cons, if_neg]
  simp only [Bool.and_eq_true, decide_eq_true_eq]
  exact fun x => h ⟨x.2.1, x.2.2.2⟩
theorem scan_piece (lim : Nat) : ∀ (p pre r : List Nat) (m free n : Nat), NoDot p →
    occF (pre ++ (p ++ r)) D3 (pre ++ (p ++ r)).length lim (List.range' pre.length (p.length + m)) free n
      = occF ((pre ++ p) ++ r) D3 ((pre ++ p) ++ r).length lim (List.range' (pre ++ p).length m) free n
  | [], pre, r, m, free, n, _ => by simp
  | a :: p, pre, r, m, free, n, hp => by
    have ha : a ≠ 46 := hp a (.head _)
    have e0 : (a :: p).length + m = (p.length + m) + 1 := by simp; omega
    rw [e0, List.range'_succ, occF_skip]
    · have ih := scan_piece lim p (pre ++ [a]) r m free n fun c hc => hp c (.tail _ hc)
      have e1 : pre ++ (a :: p ++ r) = (pre ++ [a]) ++ (p ++ r) := by simp
      have e2 : pre ++ a :: p = (pre ++ [a]) ++ p := by simp
      have e3 : pre.length + 1 = (pre ++ [a]).length := by simp
      rw [e1, e2, e3]
      exact ih
    · rw [subL_app]
      intro h
      have := beq_iff_eq.mp h.2
      have := congrArg (·[0]?) this
      simp [D3] at this
      exact ha this
theorem cuts_join : ∀ (ps : List (List Nat)) (pre : List Nat) (free n lim : Nat), ps ≠ [] → (∀ p ∈ ps, NoDot p) → free ≤ pre.length → n + ps.length ≤ lim →
    occF (pre ++ joinP ps) D3 (pre ++ joinP ps).length lim (List.range' pre.length ((joinP ps).length + 1)) free n = cutsFrom pre.length ps
  | [], _, _, _, _, h, _, _, _ => absurd rfl h
  | [p], pre, free, n, lim, _, hp, hf, hn => by
    have := scan_piece lim p pre [] 1 free n (hp p (.head _))
    rw [List.append_nil, List.append_nil] at this
    rw [show joinP [p] = p from rfl, this]
    rw [show List.range' (pre ++ p).length 1 = [(pre ++ p).length] from rfl, occF_cons, if_neg, occF]
    · rfl
    · simp [D3]
      intro _ _ h
      omega
  | p :: q :: ps, pre, free, n, lim, _, hp, hf, hn => by
    have hj : joinP (p :: q :: ps) = p ++ (D3 ++ joinP (q :: ps)) := rfl
    have hl : (joinP (p :: q :: ps)).length + 1 = p.length + (3 + ((joinP (q :: ps)).length + 1)) := by rw [hj]; simp [D3]; omega
    rw [hl, hj, scan_piece lim p pre (D3 ++ joinP (q :: ps)) _ free n (hp p (.head _))]
    have e3 : List.range' (pre ++ p).length (3 + ((joinP (q :: ps)).length + 1)) = (pre ++ p).length :: ((pre ++ p).length + 1) :: ((pre ++ p).length + 2) :: List.range' ((pre ++ p).length + 3) ((joinP (q :: ps)).length + 1) := by
      rw [show 3 + ((joinP (q :: ps)).length + 1) = (((joinP (q :: ps)).length + 1) + 1 + 1) + 1 by omega, List.range'_succ, List.range'_succ, List.range'_succ]
    rw [e3, occF_cons, if_pos]
    · rw [occF_skip (by intro h; have := h.1; simp [D3] at this), occF_skip (by intro h; have := h.1; simp [D3] at this)]
      have ih := cuts_join (q :: ps) ((pre ++ p) ++ D3) ((pre ++ p).length + D3.length) (n + 1) lim (by simp) (fun x hx => hp x (.tail _ hx)) (by rw [List.length_append (as := pre ++ p) (bs := D3)]; omega) (by simp at hn ⊢; omega)
      have e4 : ((pre ++ p) ++ D3).length = (pre ++ p).length + 3 := by rw [List.length_append]; rfl
      rw [List.append_assoc (pre ++ p) D3, e4] at ih
      rw [ih, cutsFrom]
      simp
    · rw [subL_app]
      simp [D3] at hn ⊢
      omega
theorem zip_parts : ∀ (ps : List (List Nat)) (pre : List Nat), ps ≠ [] →
    ((pre.length :: (cutsFrom pre.length ps).map (· + 3)).zip (cutsFrom pre.length ps ++ [(pre ++ joinP ps).length])).map (fun p => ((pre ++ joinP ps).take p.2).drop p.1) = ps
  | [], _, h => absurd rfl h
  | [p], pre, _ => by
    simp [cutsFrom, joinP]
    rw [← List.length_append, List.take_length, List.drop_left]
  | p :: q :: ps, pre, _ => by
    have ih := zip_parts (q :: ps) ((pre ++ p) ++ D3) (by simp)
    have e4 : ((pre ++ p) ++ D3).length = pre.length + p.length + 3 := by simp [D3]; omega
    have e5 : ((pre ++ p) ++ D3) ++ joinP (q :: ps) = pre ++ joinP (p :: q :: ps) := by
      rw [show joinP (p :: q :: ps) = p ++ (D3 ++ joinP (q :: ps)) from rfl]; simp
    rw [e4, e5] at ih
    rw [cutsFrom, List.map_cons, List.cons_append, List.zip_cons_cons, List.map_cons, ih]
    congr 1
    show ((pre ++ (p ++ (D3 ++ joinP (q :: ps)))).take (pre.length + p.length)).drop pre.length = p
    rw [List.take_length_add_append, List.drop_left, List.take_left]
theorem cuts_joinL {ps : List (List Nat)} (h : ps ≠ []) (hp : ∀ p ∈ ps, NoDot p) : cutsL (joinP ps) [46, 46, 46] = cutsFrom 0 ps := by
  have hlen : ∀ ps : List (List Nat), ps.length ≤ (joinP ps).length + 1 := by
    intro ps
    induction ps with
    | nil => simp
    | cons p ps ih =>
      cases ps with
      | nil => simp
      | cons q ps => rw [show joinP (p :: q :: ps) = p ++ (D3 ++ joinP (q :: ps)) from rfl]; simp [D3] at ih ⊢; omega
  have := cuts_join ps [] 0 0 ((joinP ps).length + 1) h hp (Nat.le_refl _) (by have := hlen ps; omega)
  exact this
noncomputable def ematchQ (T : List Nat) : List (List Nat) → Bool
  | [p] => p == T
  | ps => headL T ps
theorem low_joinP : ∀ {ps : List (List Nat)}, (∀ p ∈ ps, Low p) → Low (joinP ps)
  | [], _ => fun _ h => nomatch h
  | [p], h => h p (.head _)
  | p :: q :: ps, h => low_app (h p (.head _)) (low_app (fun c hc => by simp [D3] at hc; omega) (low_joinP fun x hx => h x (.tail _ hx)))
theorem ematch_join {ps : List (List Nat)} {T : List Nat} (h : ps ≠ []) (hp : ∀ p ∈ ps, NoDot p) (hl : ∀ p ∈ ps, Low p) : ematch (S (joinP ps)) (S T) = ematchQ T ps := by
  rw [ematch_S (low_joinP hl), ematchL, cuts_joinL h hp]
  cases ps with
  | nil => exact absurd rfl h
  | cons p ps =>
    cases ps with
    | nil => rfl
    | cons q ps =>
      have := zip_parts (p :: q :: ps) [] (by simp)
      show headL T (partsL (joinP (p :: q :: ps)) (cutsFrom 0 (p :: q :: ps)) 3) = headL T (p :: q :: ps)
      congr 1
noncomputable def preL : List Nat → List Nat → Bool
  | [], _ => true
  | _ :: _, [] => false
  | a :: y, b :: l => if Nat.beq a b then preL y l else false
noncomputable def afterY (y : List Nat) : List Nat → Option (List Nat)
  | [] => match y with
    | [] => some []
    | _ :: _ => none
  | b :: l => if preL y (b :: l) then some ((b :: l).drop y.length) else afterY y l
noncomputable def segL : List (List Nat) → List Nat → Bool
  | [], _ => true
  | w :: ws, l => match afterY w l with
    | none => false
    | some l' => segL ws l'
theorem preL_iff : ∀ (y l : List Nat), preL y l = true ↔ l.take y.length = y
  | [], l => by simp [preL]
  | a :: y, [] => by simp [preL]
  | a :: y, b :: l => by
    rw [preL]
    by_cases h : Nat.beq a b = true
    · rw [if_pos h, preL_iff y l]
      have := Nat.eq_of_beq_eq_true h
      subst this
      simp
    · rw [if_neg h]
      have : a ≠ b := fun e => h (by subst e; exact Nat.beq_refl a)
      simp
      intro e
      exact absurd e.symm this
theorem seg_at {T : List Nat} {ep i : Nat} (he : ep ≤ T.length) (hi : i ≤ ep) (y : List Nat) : (decide (i + y.length ≤ ep) && subL T y i) = preL y ((T.take ep).drop i) := by
  rw [Bool.eq_iff_iff, preL_iff]
  unfold subL
  simp only [Bool.and_eq_true, decide_eq_true_eq, beq_iff_eq]
  rw [List.take_drop, List.take_drop, List.take_take]
  constructor
  · rintro ⟨h1, h2⟩
    rw [Nat.min_eq_left h1]; exact h2
  · intro h
    have hl := congrArg List.length h
    rw [List.length_drop, List.length_take] at hl
    have h1 : i + y.length ≤ ep := by omega
    rw [Nat.min_eq_left h1] at h
    exact ⟨h1, h⟩
theorem occ_after {T y : List Nat} {ep : Nat} (he : ep ≤ T.length) : ∀ (m i free : Nat), i + m = ep → free ≤ i →
    match occF T y ep 1 (List.range' i (m + 1)) free 0 with
    | [] => afterY y ((T.take ep).drop i) = none
    | j :: _ => afterY y ((T.take ep).drop i) = some ((T.take ep).drop (j + y.length)) ∧ j + y.length ≤ ep
  | m, i, free, hm, hf => by
    have hcond : (decide (0 < 1) && (decide (free ≤ i) && (decide (i + y.length ≤ ep) && subL T y i))) = preL y ((T.take ep).drop i) := by
      rw [← seg_at he (by omega) y]
      simp [hf]
    rw [List.range'_succ, occF_cons, hcond]
    by_cases hp : preL y ((T.take ep).drop i) = true
    · rw [if_pos hp]
      show afterY y ((T.take ep).drop i) = _ ∧ _
      have hle : i + y.length ≤ ep := by
        rw [← seg_at he (by omega) y] at hp
        simp at hp
        exact hp.1
      refine ⟨?_, hle⟩
      have hd : (T.take ep).drop (i + y.length) = ((T.take ep).drop i).drop y.length := by rw [List.drop_drop]
      rw [hd]
      generalize (T.take ep).drop i = l at hp
      cases l with
      | nil =>
        cases y with
        | nil => rfl
        | cons a y => simp [preL] at hp
      | cons b l => rw [afterY, if_pos hp]
    · rw [if_neg hp]
      cases m with
      | zero =>
        show afterY y ((T.take ep).drop i) = none
        have : (T.take ep).drop i = [] := List.drop_eq_nil_of_le (by simp; omega)
        rw [this] at hp ⊢
        cases y with
        | nil => exact absurd rfl hp
        | cons a y => rfl
      | succ m =>
        have ih := occ_after (y := y) he m (i + 1) free (by omega) (by omega)
        have hlt : i < (T.take ep).length := by simp; omega
        have hd : (T.take ep).drop i = (T.take ep)[i] :: (T.take ep).drop (i + 1) := List.drop_eq_getElem_cons hlt
        have ha : afterY y ((T.take ep).drop i) = afterY y ((T.take ep).drop (i + 1)) := by
          rw [hd] at hp ⊢
          rw [afterY, if_neg hp]
        rw [ha]
        exact ih
theorem loop_seg {T : List Nat} {ep : Nat} (he : ep ≤ T.length) : ∀ (ws : List (List Nat)) (sp : Nat), sp ≤ ep → loopL T ep ws sp = segL ws ((T.take ep).drop sp)
  | [], _, _ => rfl
  | w :: ws, sp, hs => by
    have := occ_after (y := w) he (ep - sp) sp sp (by omega) (Nat.le_refl _)
    rw [loopL, segL, show ep + 1 - sp = ep - sp + 1 by omega]
    revert this
    cases occF T w ep 1 (List.range' sp (ep - sp + 1)) sp 0 with
    | nil =>
      intro this
      have this : afterY w ((T.take ep).drop sp) = none := this
      rw [this]
    | cons j r =>
      intro this
      obtain ⟨h1, h2⟩ := this
      rw [h1]
      exact loop_seg he ws _ h2
end
-- E4
section
noncomputable def isSub : List Nat → List Nat → Bool
  | [], [] => true
  | [], _ :: _ => false
  | _ :: _, [] => true
  | t :: T, c :: w => if Nat.beq c t then isSub T w else isSub T (c :: w)
noncomputable def sgl (c : Nat) : List Nat := [c]
theorem afterY_nil : ∀ l : List Nat, afterY [] l = some l
  | [] => rfl
  | _ :: _ => rfl
theorem seg_sub : ∀ (l w : List Nat), segL (w.map sgl ++ [[]]) l = isSub l w
  | [], [] => rfl
  | [], _ :: _ => rfl
  | _ :: _, [] => rfl
  | t :: l, c :: w => by
    rw [List.map_cons, List.cons_append, segL, isSub, afterY, sgl, preL]
    by_cases h : Nat.beq c t = true
    · rw [if_pos h, if_pos h]
      exact seg_sub l w
    · rw [if_neg h, if_neg h, if_neg (by decide)]
      have := seg_sub l (c :: w)
      rw [List.map_cons, List.cons_append, segL, sgl] at this
      exact this
noncomputable def wantOf (w : List Nat) : List Nat := D3 ++ w.flatMap fun c => [c, 46, 46, 46]
theorem join_sgl : ∀ w : List Nat, joinP (w.map sgl ++ [[]]) = w.flatMap fun c => [c, 46, 46, 46]
  | [] => rfl
  | c :: w => by
    have ih := join_sgl w
    have : ∃ q ps, w.map sgl ++ [[]] = q :: ps := by cases w <;> exact ⟨_, _, rfl⟩
    obtain ⟨q, ps, e⟩ := this
    rw [List.map_cons, List.cons_append, List.flatMap_cons]
    rw [e] at ih ⊢
    show sgl c ++ (D3 ++ joinP (q :: ps)) = _
    rw [ih]; rfl
theorem join_want (w : List Nat) : joinP ([] :: (w.map sgl ++ [[]])) = wantOf w := by
  have : ∃ q ps, w.map sgl ++ [[]] = q :: ps := by cases w <;> exact ⟨_, _, rfl⟩
  obtain ⟨q, ps, e⟩ := this
  have h := join_sgl w
  rw [e] at h ⊢
  show [] ++ (D3 ++ joinP (q :: ps)) = _
  rw [h]; rfl
theorem head_want (T : List Nat) (w : List Nat) : headL T ([] :: (w.map sgl ++ [[]])) = isSub T w := by
  have hlast : ([] :: (w.map sgl ++ [[]])).getLastD [] = [] := by
    rw [List.getLastD_cons, List.getLastD_concat]
  unfold headL lastL
  simp only [hlast]
  unfold startL
  rw [if_neg (by omega), loop_seg (Nat.le_refl _) _ _ (Nat.zero_le _)]
  rw [List.take_length, List.drop_zero, segL, afterY_nil]
  exact seg_sub T w
noncomputable def Let (l : List Nat) : Prop := ∀ c ∈ l, c < 128 ∧ c ≠ 46
theorem Let.low {l : List Nat} (h : Let l) : Low l := fun c hc => (h c hc).1
theorem Let.nd {l : List Nat} (h : Let l) : NoDot l := fun c hc => (h c hc).2
theorem let_app {a b : List Nat} (ha : Let a) (hb : Let b) : Let (a ++ b) := fun c hc => (List.mem_append.mp hc).elim (ha c) (hb c)
theorem ematch_want {T w : List Nat} (h : Let w) : ematch (S (wantOf w)) (S T) = isSub T w := by
  rw [← join_want]
  have hps : ∀ p ∈ ([] :: (w.map sgl ++ [[]])), Let p := by
    intro p hp
    rcases List.mem_cons.mp hp with rfl | hp
    · exact fun _ h => nomatch h
    · rcases List.mem_append.mp hp with hp | hp
      · obtain ⟨c, hc, rfl⟩ := List.mem_map.mp hp
        intro x hx
        simp [sgl] at hx
        subst hx
        exact h _ hc
      · simp at hp; subst hp
        exact fun _ h => nomatch h
  rw [ematch_join (by simp) (fun p hp => (hps p hp).nd) (fun p hp => (hps p hp).low)]
  have : ∃ q ps, w.map sgl ++ [[]] = q :: ps := by cases w <;> exact ⟨_, _, rfl⟩
  obtain ⟨q, ps, e⟩ := this
  have hh := head_want T w
  rw [e] at hh ⊢
  exact hh
noncomputable def longI (sg : List Nat) (lv : List (List Nat)) : List (List Nat) := lv.flatMap fun w => sg.map fun c => w ++ [c]
noncomputable def keepI (T : List Nat) (l : List (List Nat)) : List (List Nat) := l.filter fun w => isSub T w
noncomputable def wlI (T sg : List Nat) : Nat → List (List Nat) → List (List Nat) → List (List Nat)
  | 0, _, ws => ws
  | n + 1, lv, ws => if !lv.isEmpty && Nat.ble ws.length (2 ^ T.length) then wlI T sg n (keepI T (longI sg lv)) (ws ++ keepI T (longI sg lv)) else ws
noncomputable def wp (w : List Nat) : W2 := (w, wantOf w)
theorem wlong_I (sg : List Nat) : ∀ lv : List (List Nat), wlong sg (lv.map wp) = (longI sg lv).map wp
  | [] => rfl
  | w :: lv => by
    show (sg.map fun c => (w ++ [c], wantOf w ++ [c, 46, 46, 46])) ++ wlong sg (lv.map wp) = ((sg.map fun c => w ++ [c]) ++ longI sg lv).map wp
    rw [wlong_I sg lv, List.map_append, List.map_map]
    congr 1
    refine List.map_congr_left fun c _ => ?_
    show _ = (w ++ [c], wantOf (w ++ [c]))
    simp [wantOf]
theorem wkeep_I {T : List Nat} {l : List (List Nat)} (h : ∀ w ∈ l, Let w) : wkeep T (l.map wp) = (keepI T l).map wp := by
  unfold wkeep keepI
  rw [List.filter_map]
  congr 1
  exact List.filter_congr fun w hw => ematch_want (h w hw)
theorem longI_let {sg : List Nat} (hs : Let sg) {lv : List (List Nat)} (h : ∀ w ∈ lv, Let w) : ∀ w ∈ longI sg lv, Let w := by
  intro w hw
  obtain ⟨v, hv, hw⟩ := List.mem_flatMap.mp hw
  obtain ⟨c, hc, rfl⟩ := List.mem_map.mp hw
  exact let_app (h v hv) fun x hx => by simp at hx; subst hx; exact hs _ hc
theorem wl_I {T sg : List Nat} (hs : Let sg) : ∀ (n : Nat) (lv ws : List (List Nat)), (∀ w ∈ lv, Let w) → wl T sg n (lv.map wp) ws = wlI T sg n lv ws
  | 0, _, _, _ => rfl
  | n + 1, lv, ws, h => by
    have h1 : wkeep T (wlong sg (lv.map wp)) = (keepI T (longI sg lv)).map wp := by rw [wlong_I, wkeep_I (longI_let hs h)]
    have h2 : ((keepI T (longI sg lv)).map wp).map (·.1) = keepI T (longI sg lv) := by rw [List.map_map]; simp [wp, Function.comp_def]
    rw [wl, wlI, h1, h2]
    by_cases hc : lv.map wp ≠ [] ∧ ws.length ≤ 2 ^ T.length
    · rw [if_pos hc, if_pos]
      · exact wl_I hs n _ _ fun w hw => longI_let hs h w (List.mem_filter.mp hw).1
      · have : lv ≠ [] := fun e => hc.1 (by rw [e]; rfl)
        simp [this, hc.2]
    · rw [if_neg hc, if_neg]
      intro hh
      simp at hh
      exact hc ⟨by simpa using hh.1, hh.2⟩
noncomputable def wordsI (T sg : List Nat) : List (List Nat) := wlI T sg (2 ^ T.length + 1) [[]] [[]]
theorem words_I {T sg : List Nat} (hs : Let sg) : wordsP T sg = wordsI T sg := wl_I hs _ [[]] [[]] fun w hw => by simp at hw; subst hw; exact fun _ h => nomatch h
theorem wlI_let {T sg : List Nat} (hs : Let sg) : ∀ (n : Nat) (lv ws : List (List Nat)), (∀ w ∈ lv, Let w) → (∀ w ∈ ws, Let w) → ∀ w ∈ wlI T sg n lv ws, Let w
  | 0, _, _, _, h => h
  | n + 1, lv, ws, h, h' => by
    rw [wlI]
    split
    · have hk : ∀ w ∈ keepI T (longI sg lv), Let w := fun w hw => longI_let hs h w (List.mem_filter.mp hw).1
      exact wlI_let hs n _ _ hk fun w hw => (List.mem_append.mp hw).elim (h' w) (hk w)
    · exact h'
theorem wordsI_let {T sg : List Nat} (hs : Let sg) : ∀ w ∈ wordsI T sg, Let w :=
  wlI_let hs _ _ _ (fun w hw => by simp at hw; subst hw; exact fun _ h => nomatch h) (fun w hw => by simp at hw; subst hw; exact fun _ h => nomatch h)

noncomputable def startF (T : List Nat) (ws : List (List Nat)) (sp ep : Nat) : Bool := if Nat.blt ep sp then false else segL ws ((T.take ep).drop sp)
noncomputable def endsF (T y : List Nat) : Bool := if Nat.ble y.length T.length then preL y (T.drop (T.length - y.length)) else false
noncomputable def lastF (T : List Nat) (ws : List (List Nat)) (sp : Nat) : Bool :=
  match ws.getLastD [] with
  | [] => startF T ws sp T.length
  | c :: cs => if endsF T (c :: cs) then startF T (ws.eraseIdx (ws.length - 1)) sp (T.length - (c :: cs).length) else false
noncomputable def headF (T : List Nat) : List (List Nat) → Bool
  | (c :: cs) :: r => if preL (c :: cs) T then lastF T r (c :: cs).length else false
  | ps => lastF T ps 0
noncomputable def eqF : List Nat → List Nat → Bool
  | [], [] => true
  | a :: x, b :: y => if Nat.beq a b then eqF x y else false
  | _, _ => false
noncomputable def ematchF (T : List Nat) : List (List Nat) → Bool
  | [p] => eqF p T
  | ps => headF T ps
theorem eqF_eq : ∀ x y : List Nat, eqF x y = (x == y)
  | [], [] => rfl
  | [], _ :: _ => rfl
  | _ :: _, [] => rfl
  | a :: x, b :: y => by
    rw [eqF, eqF_eq x y, List.cons_beq_cons]
    cases h : Nat.beq a b with
    | true => rw [Nat.eq_of_beq_eq_true h]; simp
    | false =>
      have : a ≠ b := fun e => by subst e; rw [Nat.beq_refl] at h; cases h
      simp [this]
theorem startF_eq {T : List Nat} {ws : List (List Nat)} {sp ep : Nat} (he : ep ≤ T.length) : startL T ws sp ep = startF T ws sp ep := by
  unfold startL startF
  by_cases h : ep < sp
  · rw [if_pos h, if_pos (by simp [Nat.blt]; omega)]
  · rw [if_neg h, if_neg (by simp [Nat.blt]; omega), loop_seg he _ _ (by omega)]
theorem endsF_eq (T y : List Nat) : endsL T y = endsF T y := by
  unfold endsL endsF
  by_cases h : y.length ≤ T.length
  · rw [if_pos (by simpa using h), decide_eq_true h, Bool.true_and, Bool.eq_iff_iff, preL_iff]
    unfold subL
    rw [beq_iff_eq]
  · rw [if_neg (by simpa using h), decide_eq_false h, Bool.false_and]
theorem startsF_eq (T y : List Nat) : startsL T y = preL y T := by
  unfold startsL
  rw [Bool.eq_iff_iff, preL_iff]
  unfold subL
  simp only [Bool.and_eq_true, decide_eq_true_eq, beq_iff_eq, List.drop_zero]
  constructor
  · exact fun h => h.2
  · intro h
    refine ⟨?_, h⟩
    have := congrArg List.length h
    rw [List.length_take] at this
    omega
theorem lastF_eq (T : List Nat) (ws : List (List Nat)) (sp : Nat) : lastL T ws sp = lastF T ws sp := by
  unfold lastL lastF
  cases ws.getLastD [] with
  | nil => exact startF_eq (Nat.le_refl _)
  | cons c cs =>
    simp only
    rw [endsF_eq]
    split
    · exact startF_eq (by omega)
    · rfl
theorem headF_eq (T : List Nat) : ∀ ps : List (List Nat), headL T ps = headF T ps
  | [] => lastF_eq T [] 0
  | [] :: r => lastF_eq T ([] :: r) 0
  | (c :: cs) :: r => by
    rw [headL, headF, startsF_eq, lastF_eq]
theorem ematchF_eq (T : List Nat) : ∀ ps : List (List Nat), ematchQ T ps = ematchF T ps
  | [] => headF_eq T []
  | [p] => by rw [ematchQ, ematchF, eqF_eq]
  | p :: q :: r => headF_eq T (p :: q :: r)
theorem ematch_joinF {ps : List (List Nat)} {T : List Nat} (h : ps ≠ []) (hp : ∀ p ∈ ps, Let p) : ematch (S (joinP ps)) (S T) = ematchF T ps := by
  rw [ematch_join h (fun p x => (hp p x).nd) (fun p x => (hp p x).low), ematchF_eq]
end
-- E5
section
theorem let_nil : Let [] := fun _ h => nomatch h
theorem let_one {c : Nat} (h : c < 128 ∧ c ≠ 46) : Let [c] := fun x hx => by simp at hx; subst hx; exact h
theorem segL_nil (l : List Nat) (ws : List (List Nat)) : segL ([] :: ws) l = segL ws l := by rw [segL, afterY_nil]
theorem has_after {T y : List Nat} : hasL T y = (afterY y T).isSome := by
  unfold hasL
  have h := occ_after (T := T) (y := y) (Nat.le_refl T.length) T.length 0 0 (by omega) (Nat.le_refl _)
  rw [List.take_length, List.drop_zero] at h
  revert h
  cases occF T y T.length 1 (List.range' 0 (T.length + 1)) 0 0 with
  | nil =>
    intro h
    have h : afterY y T = none := h
    rw [h]; rfl
  | cons j r =>
    intro h
    obtain ⟨h, _⟩ := h
    rw [h]; rfl
theorem at0_mem {T : List Nat} (h : 1 ≤ T.length) : at0 T ∈ T := by
  unfold at0
  rw [List.getElem?_eq_getElem (by omega)]
  exact List.getElem_mem _
theorem atz_mem {T : List Nat} (h : 1 ≤ T.length) : atz T ∈ T := by
  unfold atz
  rw [List.getElem?_eq_getElem (by omega)]
  exact List.getElem_mem _
theorem four_dots {T : List Nat} (hT : Let T) : ematch (S [46, 46, 46, 46]) (S T) = false := by
  rw [ematch_S (fun c hc => by simp at hc; omega)]
  have e : cutsL [46, 46, 46, 46] [46, 46, 46] = [0] := by decide +kernel
  rw [ematchL, e]
  show headL T [[], [46]] = false
  rw [headF_eq]
  show (if endsF T [46] then startF T [[]] 0 (T.length - 1) else false) = false
  rw [if_neg]
  intro h
  rw [← endsF_eq] at h
  unfold endsL at h
  simp only [Bool.and_eq_true, decide_eq_true_eq] at h
  have h2 := h.2
  unfold subL at h2
  have : 46 ∈ T := by
    have e2 : (T.drop (T.length - [46].length)).take [46].length = [46] := by simpa using h2
    have : 46 ∈ (T.drop (T.length - [46].length)).take [46].length := by rw [e2]; simp
    exact List.mem_of_mem_drop (List.mem_of_mem_take this)
  exact (hT 46 this).2 rfl
theorem rowsA_ok {T : List Nat} (hT : Let T) (h1 : 1 ≤ T.length) : ∀ r ∈ rowsA T, ematch (S r.1) (S T) = r.2 ∧ r.1.length ≤ 1000 := by
  have hl2 : Let [at0 T, atz T] := fun x hx => by
    simp at hx
    rcases hx with rfl | rfl
    · exact hT _ (at0_mem h1)
    · exact hT _ (atz_mem h1)
  intro r hr
  unfold rowsA at hr
  simp only [List.mem_cons, List.not_mem_nil, or_false] at hr
  rcases hr with rfl | rfl | rfl | rfl | rfl
  · refine ⟨?_, by simp⟩
    have := ematch_joinF (ps := [[]]) (T := T) (by simp) (fun p hp => by simp at hp; subst hp; exact let_nil)
    refine this.trans ?_
    cases T with
    | nil => simp at h1
    | cons a T => rfl
  · refine ⟨?_, by simp [D3]⟩
    have := ematch_joinF (ps := [[], []]) (T := T) (by simp) (fun p hp => by simp at hp; subst hp; exact let_nil)
    refine this.trans ?_
    show startF T [[], []] 0 T.length = true
    unfold startF
    rw [if_neg (by simp [Nat.blt]), List.take_length, List.drop_zero, segL_nil, segL_nil]; rfl
  · exact ⟨four_dots hT, by simp⟩
  · refine ⟨?_, by simp⟩
    have := ematch_joinF (ps := [[], [], []]) (T := T) (by simp) (fun p hp => by simp at hp; subst hp; exact let_nil)
    refine this.trans ?_
    show startF T [[], [], []] 0 T.length = true
    unfold startF
    rw [if_neg (by simp [Nat.blt]), List.take_length, List.drop_zero, segL_nil, segL_nil, segL_nil]; rfl
  · refine ⟨?_, by simp [D3]⟩
    have := ematch_joinF (ps := [[], [at0 T, atz T], []]) (T := T) (by simp) (fun p hp => by
      simp at hp
      rcases hp with rfl | rfl | rfl
      · exact let_nil
      · exact hl2
      · exact let_nil)
    have e : joinP [[], [at0 T, atz T], []] = D3 ++ [at0 T, atz T] ++ D3 := by simp [joinP]
    rw [e] at this
    refine this.trans ?_
    show startF T [[], [at0 T, atz T], []] 0 T.length = Txt.contains (S T) (S [at0 T, atz T])
    rw [contains_S, has_after]
    unfold startF
    rw [if_neg (by simp [Nat.blt]), List.take_length, List.drop_zero, segL_nil, segL]
    cases afterY [at0 T, atz T] T with
    | none => rfl
    | some l =>
      show segL [[]] l = true
      rw [segL_nil]; rfl
theorem rowB_ok {T : List Nat} (hT : Let T) {f r : Nat} (hf : f < T.length) (hr : r < T.length) : ematch (S (rowB T f r).1) (S T) = (rowB T f r).2 := by
  have := ematch_joinF (ps := [T.take (1 + f), T.drop r]) (T := T) (by simp) (fun p hp => by
    simp at hp
    rcases hp with rfl | rfl
    · exact fun c hc => hT c (List.mem_of_mem_take hc)
    · exact fun c hc => hT c (List.mem_of_mem_drop hc))
  have e : joinP [T.take (1 + f), T.drop r] = T.take (1 + f) ++ D3 ++ T.drop r := by simp [joinP]
  rw [e] at this
  refine this.trans ?_
  show headF T [T.take (1 + f), T.drop r] = decide (1 + f ≤ r)
  have hp : preL (T.take (1 + f)) T = true := by
    rw [preL_iff]
    rw [List.length_take, Nat.min_eq_left (by omega)]
  have hq : endsF T (T.drop r) = true := by
    unfold endsF
    rw [if_pos (by simp)]
    rw [preL_iff, List.length_drop, show T.length - (T.length - r) = r by omega, List.take_of_length_le (by simp)]
  have hpl : (T.take (1 + f)).length = 1 + f := by rw [List.length_take]; omega
  have hql : (T.drop r).length = T.length - r := List.length_drop
  cases hp0 : T.take (1 + f) with
  | nil => rw [hp0] at hpl; simp at hpl; omega
  | cons a p =>
    rw [hp0] at hp hpl
    rw [headF, if_pos hp]
    unfold lastF
    show (match T.drop r with | [] => startF T [T.drop r] (a :: p).length T.length | c :: cs => if endsF T (c :: cs) then startF T ([T.drop r].eraseIdx ([T.drop r].length - 1)) (a :: p).length (T.length - (c :: cs).length) else false) = _
    cases hq0 : T.drop r with
    | nil => rw [hq0] at hql; simp at hql; omega
    | cons b q =>
      rw [hq0] at hq hql
      simp only
      rw [if_pos hq, hpl, hql]
      show startF T [] (1 + f) (T.length - (T.length - r)) = _
      unfold startF
      rw [show T.length - (T.length - r) = r by omega]
      by_cases h : r < 1 + f
      · rw [if_pos (by simp [Nat.blt]; omega), decide_eq_false (by omega)]
      · rw [if_neg (by simp [Nat.blt]; omega), decide_eq_true (by omega)]; rfl
noncomputable def piecesC (wd : List Nat) (h t : Bool) : List (List Nat) := (if h then [[]] else []) ++ (wd.map sgl ++ (if t then [[]] else []))
noncomputable def dueF (T : List Nat) (W : List (List Nat)) (c : Nat) (wd : List Nat) (h t : Bool) : Bool :=
  if !h && !t && eqF wd [c] && Nat.blt 1 T.length then false
  else if !t && !Nat.beq (atz T) c then false
  else if !h && !Nat.beq (at0 T) c then false
  else W.any (eqF · wd)
noncomputable def htB : List (Bool × Bool) := [(false, false), (false, true), (true, false)]
noncomputable def chkC (T sg : List Nat) (W : List (List Nat)) : Bool :=
  sg.all fun c => [[c], [c, c]].all fun wd => htB.all fun p => ematchF T (piecesC wd p.1 p.2) == dueF T W c wd p.1 p.2
noncomputable def htOf (p : Bool × Bool) : W2 := (if p.1 then D3 else [], if p.2 then D3 else [])
theorem natbne (a c : Nat) : (a != c) = !Nat.beq a c := by
  cases h : Nat.beq a c with
  | true => rw [Nat.eq_of_beq_eq_true h]; simp
  | false =>
    have : a ≠ c := fun e => by subst e; rw [Nat.beq_refl] at h; cases h
    simp [this]
theorem due_F (T : List Nat) (W : List (List Nat)) (c : Nat) (wd : List Nat) : ∀ p ∈ htB, dueP T W c wd (htOf p) = dueF T W c wd p.1 p.2 := by
  have ha : (fun x : List Nat => x == wd) = fun x => eqF x wd := by funext x; rw [eqF_eq]
  have hb : decide (1 < T.length) = Nat.blt 1 T.length := by
    rw [Bool.eq_iff_iff]; simp [Nat.blt]; omega
  intro p hp
  unfold dueP dueF
  rw [ha, natbne, natbne, hb, ← eqF_eq wd [c]]
  simp only [htB, List.mem_cons, List.not_mem_nil, or_false] at hp
  rcases hp with rfl | rfl | rfl
  · cases eqF wd [c] <;> cases Nat.blt 1 T.length <;> cases Nat.beq (atz T) c <;> cases Nat.beq (at0 T) c <;> rfl
  · cases eqF wd [c] <;> cases Nat.blt 1 T.length <;> cases Nat.beq (atz T) c <;> cases Nat.beq (at0 T) c <;> rfl
  · cases eqF wd [c] <;> cases Nat.blt 1 T.length <;> cases Nat.beq (atz T) c <;> cases Nat.beq (at0 T) c <;> rfl
theorem join_C (c : Nat) : ∀ wd ∈ [[c], [c, c]], ∀ p ∈ htB, (htOf p).1 ++ joinD wd ++ (htOf p).2 = joinP (piecesC wd p.1 p.2) := by
  intro wd hwd p hp
  simp only [htB, List.mem_cons, List.not_mem_nil, or_false] at hp hwd
  rcases hwd with rfl | rfl <;> rcases hp with rfl | rfl | rfl <;> simp [htOf, piecesC, joinD, joinP, sgl, D3]
theorem hts_B : hts = htB.map htOf := rfl
theorem rowsC_ok {T sg : List Nat} {W : List (List Nat)} (hs : Let sg) (h : chkC T sg W = true) : ∀ r ∈ rowsC T sg W, ematch (S r.1) (S T) = r.2 ∧ r.1.length ≤ 1000 := by
  intro r hr
  obtain ⟨c, hc, hr⟩ := List.mem_flatMap.mp hr
  obtain ⟨wd, hwd, hr⟩ := List.mem_flatMap.mp hr
  unfold rowCs at hr
  rw [hts_B, List.map_map] at hr
  obtain ⟨p, hp, rfl⟩ := List.mem_map.mp hr
  have h1 := List.all_eq_true.mp (List.all_eq_true.mp (List.all_eq_true.mp h c hc) wd hwd) p hp
  have h2 : ematchF T (piecesC wd p.1 p.2) = dueF T W c wd p.1 p.2 := by simpa using h1
  have hl : ∀ x ∈ wd, x = c := by
    simp only [List.mem_cons, List.not_mem_nil, or_false] at hwd
    rcases hwd with rfl | rfl <;> simp
  have hpl : ∀ q ∈ piecesC wd p.1 p.2, Let q := by
    intro q hq
    have h0 : ∀ b : Bool, q ∈ (if b then [[]] else [] : List (List Nat)) → Let q := by
      intro b hb
      cases b with
      | true => simp at hb; subst hb; exact let_nil
      | false => simp at hb
    rcases List.mem_append.mp hq with hq | hq
    · exact h0 _ hq
    · rcases List.mem_append.mp hq with hq | hq
      · obtain ⟨x, hx, rfl⟩ := List.mem_map.mp hq
        rw [hl x hx]
        exact let_one (hs _ hc)
      · exact h0 _ hq
  have hne : piecesC wd p.1 p.2 ≠ [] := by
    simp only [List.mem_cons, List.not_mem_nil, or_false] at hwd
    rcases hwd with rfl | rfl <;> simp [piecesC]
  show ematch (S ((htOf p).1 ++ joinD wd ++ (htOf p).2)) (S T) = dueP T W c wd (htOf p) ∧ _
  rw [join_C c wd hwd p hp]
  refine ⟨(ematch_joinF hne hpl).trans (h2.trans (due_F T W c wd p hp).symm), ?_⟩
  show ((htOf p).1 ++ joinD wd ++ (htOf p).2).length ≤ 1000
  simp only [htB, List.mem_cons, List.not_mem_nil, or_false] at hp hwd
  rcases hwd with rfl | rfl <;> rcases hp with rfl | rfl | rfl <;> simp [htOf, joinD, D3]
theorem rowsP_ok {T sg : List Nat} {W : List (List Nat)} (hT : Let T) (h1 : 1 ≤ T.length) (h6 : T.length ≤ 6) (hs : Let sg) (h : chkC T sg W = true) : ∀ r ∈ rowsP T sg W, ematch (S r.1) (S T) = r.2 ∧ r.1.length ≤ 1000 := by
  intro r hr
  rcases List.mem_append.mp hr with hr | hr
  · rcases List.mem_append.mp hr with hr | hr
    · exact rowsA_ok hT h1 r hr
    · obtain ⟨f, hf, hr⟩ := List.mem_flatMap.mp hr
      obtain ⟨q, hq, rfl⟩ := List.mem_map.mp hr
      rw [List.mem_range] at hf hq
      refine ⟨rowB_ok hT hf hq, ?_⟩
      show (T.take (1 + f) ++ D3 ++ T.drop q).length ≤ 1000
      simp [D3]; omega
  · exact rowsC_ok hs h r hr
theorem rowsP_len {T sg : List Nat} {W : List (List Nat)} (h6 : T.length ≤ 6) (h3 : sg.length ≤ 3) : (rowsP T sg W).length ≤ 1000 := by
  have e1 : (rowsB T).length = T.length * T.length := by
    unfold rowsB
    rw [fm_len _ T.length (fun f => by simp [rowBs]), List.length_range]
  have e2 : (rowsC T sg W).length = sg.length * 6 := fm_len _ 6 (fun c => rfl) sg
  have e3 : T.length * T.length ≤ 36 := Nat.mul_le_mul h6 h6
  unfold rowsP
  rw [List.length_append, List.length_append, e1, e2]
  simp [rowsA]
  omega
end
-- E6
section
noncomputable def textI (sg is : List Nat) : List Nat := is.map fun i => sg.getD i 0
noncomputable def dueI (W : List (List Nat)) (c : Nat) : Nat := ((W.filter fun w => eqF (w.drop (w.length - 1)) [c]).map fun w => 100 ^ w.length).sum
noncomputable def duesI (sg : List Nat) (W : List (List Nat)) : List Nat := sg.map (dueI W)
noncomputable def lastI (T : List Nat) : List Nat := (List.range T.length).filter fun p => !(afterY [T.getD p 0] (T.drop (p + 1))).isSome
noncomputable abbrev IE := Nat × Nat × Nat
noncomputable def offI (l : List IE) (p : Nat) : List IE := l.filter fun e => !Nat.beq e.2.1 p
noncomputable def putI (l : List IE) (j p v : Nat) : List IE := offI l p ++ [(j, p, v)]
noncomputable def totI (l : List IE) : Nat := (l.map fun e => e.2.2).sum
noncomputable def leastI (l : List IE) (k : Nat) : Nat := if Nat.blt l.length k then 1 else 1 + (l.map fun e => e.2.2).headD 0
noncomputable def readI (k : Nat) : List (Nat × Nat) → List IE → List IE → List IE × List IE
  | [], A, B => (A, B)
  | (j, p) :: r, A, B => readI k r (putI A j p (100 + 100 * totI A)) (putI B j p (leastI B k))
noncomputable def jsI (is : List Nat) : List (Nat × Nat) := (List.range is.length).map fun j => (j, is.getD j 0)
noncomputable def getI (p : Nat) : List IE → Nat
  | [] => 0
  | e :: r => if Nat.beq e.2.1 p then e.2.2 else getI p r
noncomputable def eqI : List IE → List IE → Bool
  | [], [] => true
  | a :: x, b :: y => if Nat.beq a.1 b.1 && Nat.beq a.2.1 b.2.1 && Nat.beq a.2.2 b.2.2 then eqI x y else false
  | _, _ => false
noncomputable def countI (s : Nat) (W : List (List Nat)) : Nat := (W.filter fun w => Nat.beq w.length s).length
noncomputable def lackI (k n : Nat) (W : List (List Nat)) : List Nat := (List.range (n + 2)).filter fun s => Nat.blt (countI s W) (k ^ s)
noncomputable def pairsI (ds : List Nat) : List PE := ((List.range ds.length).filter fun p => Nat.blt 0 (ds.getD p 0)).map fun p => (p, Nat.beq p 1, ds.getD p 0)
noncomputable def chkR (sg is ds last : List Nat) (AB : List IE × List IE) (lack : List Nat) : Bool :=
  eqI AB.1 (last.map fun j => (j, is.getD j 0, ds.getD (is.getD j 0) 0))
  && (List.range sg.length).all (fun p => Nat.beq (getI p AB.1) (ds.getD p 0))
  && eqF (AB.2.map fun e => e.1) last
  && AB.2.all (fun e => Nat.blt e.2.2 1000)
  && (match lack with | [] => false | a :: _ => Nat.beq a (leastI AB.2 sg.length))
noncomputable def chkB (sg T ds : List Nat) : Bool := ds.all (fun d => Nat.blt d (10 ^ 20)) && (match backA sg 8 (pairsI ds) [] with | some r => eqF r T | none => false)
noncomputable def chk2 (sg is T : List Nat) (W : List (List Nat)) : Bool :=
  Nat.ble W.length 256 && W.all (fun w => Nat.ble w.length 100) && chkC T sg W && chkR sg is (duesI sg W) (lastI T) (readI sg.length (jsI is) [] []) (lackI sg.length T.length W) && chkB sg T (duesI sg W)
noncomputable def chk (sg is : List Nat) : Bool := chk2 sg is (textI sg is) (wordsI (textI sg is) sg)
end
-- J12
section
theorem safe_ok {x : Str} (h : Safe x) : PyData.strOk x = true := by
  unfold PyData.strOk
  rw [Array.all_eq_true]
  intro i hi
  have hs : ∀ c ∈ safe, c < 0x110000 := by decide
  exact decide_eq_true (hs _ (h.1 _ (Array.getElem_mem hi)))
theorem lay_strs {xs : List Str} (h : ∀ x ∈ xs, Safe x) : PyData.canLayAll0 (xs.map .str) = true := canLay_map _ fun x hx => by simp [PyData.canLay0, safe_ok (h x hx)]
theorem lay_kvs {kvs : List (Str × Str)} (h : ∀ p ∈ kvs, SafeKv p) : PyData.canLayAll0 (kvs.map kvD) = true :=
  canLay_map _ fun p hp => by simp [kvD, PyData.canLay0, PyData.canLayAll0, safe_ok (h p hp).1, safe_ok (h p hp).2]
theorem depth_strs (xs : List Str) : PyData.depthAll (xs.map .str) ≤ 60 := depth_map _ _ fun x _ => by simp [PyData.depth]
theorem depth_kvs (kvs : List (Str × Str)) : PyData.depthAll (kvs.map kvD) ≤ 60 := depth_map _ _ fun x _ => by simp [kvD, PyData.depth, PyData.depthAll]
theorem eqv_self {ds : List PyData} (h : PyData.canLayAll0 ds = true) : PyData.eqv (.list ds) (.list ds) = true := SeqAt.eqv_refl _ (by simpa [PyData.canLay0] using h)

noncomputable abbrev KV := Nat × Bool × Str
noncomputable def kvO (e : KV) : Str × Str := (nm e.1 e.2.1, e.2.2)
theorem delT_kv {l : List KV} {p : Nat} {g : Bool} (hl : ∀ e ∈ l, e.1 < 3) (hp : p < 3) : delT (l.map kvO) (Txt.lower (nm p g)) = (l.filter fun e => e.1 != p).map kvO := by
  unfold delT
  rw [List.filter_map, List.filter_congr]
  intro e he
  show (Txt.lower (nm e.1 e.2.1) != Txt.lower (nm p g)) = _
  rw [nm_low _ (hl e he), nm_low _ hp, xs_bne (hl e he) hp]
noncomputable def fillK (dues : List Nat) : List Nat → List KV → List KV
  | [], l => l
  | p :: fs, l => fillK dues fs (if 0 < dues.getD p 0 then (l.filter fun e => e.1 != p) ++ [(p, p == 1, dec (dues.getD p 0 : Nat))] else l.filter fun e => e.1 != p)
theorem fill_K (dues : List Nat) : ∀ (fs : List Nat) (l : List KV), (∀ p ∈ fs, p < 3) → (∀ e ∈ l, e.1 < 3) → fillP dues fs (l.map kvO) = (fillK dues fs l).map kvO
  | [], _, _, _ => rfl
  | p :: fs, l, hf, hl => by
    have hp := hf p (.head _)
    rw [fillP, fillK]
    by_cases h : 0 < dues.getD p 0
    · rw [if_pos h, if_pos h]
      have e : setT (l.map kvO) (nm p (p == 1)) (dec (dues.getD p 0 : Nat)) = ((l.filter fun e => e.1 != p) ++ [(p, p == 1, dec (dues.getD p 0 : Nat))]).map kvO := by
        unfold setT
        rw [delT_kv hl hp, List.map_append]; rfl
      rw [e]
      refine fill_K dues fs _ (fun x hx => hf x (.tail _ hx)) fun e he => ?_
      rcases List.mem_append.mp he with he | he
      · exact hl e (List.mem_filter.mp he).1
      · simp at he; subst he; exact hp
    · rw [if_neg h, if_neg h, delT_kv hl hp]
      exact fill_K dues fs _ (fun x hx => hf x (.tail _ hx)) fun e he => hl e (List.mem_filter.mp he).1
noncomputable def twiceK (k : Nat) : List KV := (List.range k).flatMap fun p => [(p, true, nm p true), (p, false, nm p false)]
theorem fill_twice {dues : List Nat} (h : dues.length = 2 ∨ dues.length = 3) : (fillK dues (List.range dues.length) (twiceK dues.length)).map kvO = (pairsI dues).map peK := by
  match dues, h with
  | [a, b], _ => cases a <;> cases b <;> rfl
  | [a, b, c], _ => cases a <;> cases b <;> cases c <;> rfl
end
-- J13
section
noncomputable def twS (n : Nat) : List Str := (List.range n).flatMap fun p => [nm p true, nm p false]
noncomputable def twG (d : PyData) : List PyData := match d with
  | .int z => [.str (nm z.toNat true), .str (nm z.toNat false)]
  | _ => []
theorem twG_map (n : Nat) : (intsD 0 n).flatMap twG = (twS n).map .str := by
  unfold intsD twS
  rw [List.flatMap_map, List.map_flatMap]
  refine congrArg (fun f => List.flatMap f (List.range n)) ?_
  funext p
  simp [twG]
theorem twS_safe {n : Nat} (hn : n ≤ 3) : ∀ x ∈ twS n, Safe x := by
  intro x hx
  obtain ⟨p, hp, hx⟩ := List.mem_flatMap.mp hx
  rw [List.mem_range] at hp
  simp at hx
  rcases hx with rfl | rfl <;> exact (nm_safe p (by omega) _).1
theorem twS_len (n : Nat) : (twS n).length = n * 2 := by
  unfold twS
  rw [fm_len _ 2 (fun _ => rfl), List.length_range]
noncomputable def dbl (x : Str) : Str × Str := (x, x)
theorem tw_K (n : Nat) : (twS n).map dbl = (twiceK n).map kvO := by
  unfold twS twiceK
  rw [List.map_flatMap, List.map_flatMap]
  rfl
noncomputable def dbF (d : PyData) : PyData := match d with
  | .str a => .tuple [.str a, .str a]
  | _ => .none
noncomputable def prP (dues : List Nat) (d : PyData) : Bool := match d with
  | .int z => decide (0 < dues.getD z.toNat 0)
  | _ => false
noncomputable def prF (dues : List Nat) (d : PyData) : PyData := match d with
  | .int z => .tuple [.str (nm z.toNat (z == 1)), .str (dec (dues.getD z.toNat 0 : Nat))]
  | _ => .none
theorem pr_map (dues : List Nat) : ((intsD 0 dues.length).filter (prP dues)).map (prF dues) = ((pairsI dues).map peK).map kvD := by
  unfold intsD pairsI
  rw [List.filter_map, List.map_map, List.map_map, List.map_map]
  have e : (List.range dues.length).filter (prP dues ∘ fun i => PyData.int (0 + ((i : Nat) : Int))) = (List.range dues.length).filter fun p => Nat.blt 0 (dues.getD p 0) := by
    refine List.filter_congr fun p _ => ?_
    show decide (0 < dues.getD ((0 : Int) + ((p : Nat) : Int)).toNat 0) = Nat.blt 0 (dues.getD p 0)
    rw [show ((0 : Int) + ((p : Nat) : Int)).toNat = p by omega, Bool.eq_iff_iff]
    simp [Nat.blt]; omega
  rw [e]
  refine List.map_congr_left fun p _ => ?_
  show PyData.tuple [.str (nm ((0 : Int) + ((p : Nat) : Int)).toNat ((0 : Int) + ((p : Nat) : Int) == 1)), .str (dec (dues.getD ((0 : Int) + ((p : Nat) : Int)).toNat 0 : Nat))] = PyData.tuple [.str (nm p (Nat.beq p 1)), .str (dec (dues.getD p 0 : Nat))]
  rw [show ((0 : Int) + ((p : Nat) : Int)).toNat = p by omega]
  have e2 : ((0 : Int) + ((p : Nat) : Int) == 1) = Nat.beq p 1 := by
    rw [Bool.eq_iff_iff, beq_iff_eq]
    constructor
    · intro h
      have : p = 1 := by omega
      subst this; rfl
    · intro h
      have := Nat.eq_of_beq_eq_true h
      omega
  rw [e2]
theorem pairs_ok {dues sg : List Nat} (hdl : dues.length = sg.length) (hk : sg.length ≤ 3) (hb : ∀ n ∈ dues, n < 10 ^ 20) : PeOk sg (pairsI dues) := by
  have hm : ∀ e ∈ pairsI dues, e.1 < dues.length ∧ e.2.2 ∈ dues := by
    intro e he
    obtain ⟨p, hp, rfl⟩ := List.mem_map.mp he
    have hp' := List.mem_range.mp (List.mem_filter.mp hp).1
    refine ⟨hp', ?_⟩
    show dues.getD p 0 ∈ dues
    rw [List.getD, List.getElem?_eq_getElem hp']
    exact List.getElem_mem _
  refine ⟨fun e he => by rw [← hdl]; exact (hm e he).1, fun e he => hb _ (hm e he).2, ?_⟩
  unfold pairsI
  rw [List.length_map]
  refine Nat.le_trans (List.length_filter_le _ _) ?_
  rw [List.length_range]; omega
section
variable {prog : Program} {w : World} {s₀ : Shared} {k : Nat} {mem : Mem} {Q : AV → Mem → Prop}
theorem cw_new1 (G : Gr w s₀ (KK w)) {j : Nat} {kvs : List (Str × Str)} (hj : mem[j]? = some (.list (kvs.map kvD))) (hs : ∀ p ∈ kvs, SafeKv p) (q : Q (.ref (mem.length + 1)) (mem ++ [.idict (some j), .inst mem.length])) :
    CallW prog w s₀ (k + 3) (.ref 178) [.ref j] [] mem Q := by
  refine cw_new G (cw_init1 G (d := mem.length) (by first | exact List.getElem?_concat_length | simp) (by first | exact List.getElem?_concat_length | simp) (get_app hj _) hs ⟨rfl, ?_⟩)
  have e : (mem ++ [AO.idict none, AO.inst mem.length]).set mem.length (.idict (some j)) = mem ++ [.idict (some j), .inst mem.length] := by
    rw [List.set_append_right _ _ (Nat.le_refl _)]
    simp
  rw [e]; exact q

set_option maxHeartbeats 4000000 in
theorem law_g2 (G : Gr w s₀ (KK w)) {T sg dues : List Nat} {di ti i d l L : Nat} (hk : sg.length = 2 ∨ sg.length = 3) (hd : mem[di]? = some (.list (dues.map fun n => .int (n : Nat)))) (hdl : dues.length = sg.length)
    (hb : ∀ n ∈ dues, n < 10 ^ 20) (hback : backA sg 8 (pairsI dues) [] = some T) (htw : mem[ti]? = some (.list ((twS sg.length).map .str))) (Tt : Tab mem i d l ((twS sg.length).map dbl)) (hne : di ≠ l)
    {Q : AFlow → Loc → Mem → Prop} (q : ∀ l m, Q (.ret (.bool true)) l m) :
    WXs prog w s₀ (k + 5) (callEnvC (fdAt (KK w) 228) L 228) [("signs", .str (S sg)), ("text", .str (S T)), ("dues", .ref di), ("twice", .ref ti), ("told", .ref i)] ((bodyAt (KK w) 228).drop 18) mem Q := by
  have hk3 : sg.length ≤ 3 := by omega
  have hsgz : (S sg).length ≤ sizeLine := by rw [S_len, sizeLine_eq]; omega
  have hsm0 : Builtin.Range.small 0 ((0 : Int) + (sg.length : Nat)) 1 = true := by
    rcases hk with h | h <;> rw [h] <;> decide
  have hdi : di < mem.length := (List.getElem?_eq_some_iff.mp hd).1
  have hsk : ∀ p ∈ (twS sg.length).map dbl, SafeKv p := by
    intro p hp
    obtain ⟨x, hx, rfl⟩ := List.mem_map.mp hp
    exact ⟨twS_safe hk3 x hx, twS_safe hk3 x hx⟩
  have hvals : ((twS sg.length).map dbl).map (fun p => PyData.str p.2) = (twS sg.length).map .str := by rw [List.map_map]; rfl
  have hlen6 : ((twS sg.length).map dbl).length ≤ 6 := by rw [List.length_map, twS_len]; omega
  have hlay := lay_strs (twS_safe hk3)
  -- if told.values() != twice or ..
  refine wxs_cons ?_
  refine wx_if ?_
  refine wt_or ?_
  repeat walk_at "m"
  refine ⟨i, d, l, 135, rfl, Tt.1, Tt.2.1, .values, ?_⟩
  repeat walk_at "m"
  refine cw_values G Tt (by omega) ?_
  rw [hvals]
  repeat walk_at "m"
  refine ⟨_, .neL _ _ _ _ (by first | exact List.getElem?_concat_length | simp) (get_app htw _) (depth_strs _) hlay hlay, ?_⟩
  rw [eqv_self hlay]
  rw [if_neg (by decide)]
  refine wt_cmp ?_ rfl
  repeat walk_at "m"
  have T1 : Tab (mem ++ [.list ((twS sg.length).map .str)]) i d l ((twS sg.length).map dbl) := ⟨get_app Tt.1 _, get_app Tt.2.1 _, get_app Tt.2.2 _⟩
  refine cw_lenI G T1.1 T1.2.1 (cw_len84 G T1 (by omega) ⟨_, rfl, by omega, ?_⟩)
  repeat walk_at "m"
  refine cw_lenL (get_app htw _) (by rw [List.length_map, twS_len, sizeLine_eq]; omega) ?_
  refine ⟨_, .neI _ _, ?_⟩
  rw [List.length_map, List.length_map]
  rw [if_neg (by first | exact List.getElem?_concat_length | simp)]
  refine wxs_nil ?_
  -- kept
  refine wxs_cons ?_
  repeat walk_at "m"
  refine cw_fill G T1 (get_app hd _) hne (by omega) (fun n hn => by have := hb n hn; omega) (by omega) (fun p hp => (hsk p hp).1.2) ?_
  have hfill : fillP dues (List.range dues.length) ((twS sg.length).map dbl) = (pairsI dues).map peK := by
    rw [tw_K, ← hdl, fill_K, fill_twice (by omega)]
    · intro p hp
      rw [List.mem_range] at hp
      omega
    · intro e he
      obtain ⟨p, hp, he⟩ := List.mem_flatMap.mp he
      rw [List.mem_range] at hp
      simp at he
      rcases he with rfl | rfl <;> (show p < 3; omega)
  rw [hfill]
  show WXs _ _ _ _ _ _ _ _ _
  have hd1 : (((mem ++ [AO.list ((twS sg.length).map PyData.str)]).set l (AO.list (((pairsI dues).map peK).map kvD))) ++ [AO.list (((pairsI dues).map peK).map kvD)])[di]? = some (.list (dues.map fun n => .int (n : Nat))) := get_app (get_set_ne (get_app hd _) hne) _
  have hk1 : (((mem ++ [AO.list ((twS sg.length).map PyData.str)]).set l (AO.list (((pairsI dues).map peK).map kvD))) ++ [AO.list (((pairsI dues).map peK).map kvD)])[(mem ++ [AO.list ((twS sg.length).map PyData.str)]).length]? = some (.list (((pairsI dues).map peK).map kvD)) := by
    rw [List.getElem?_append_right (by first | exact List.getElem?_concat_length | simp)]; simp
  have T2 : Tab (((mem ++ [AO.list ((twS sg.length).map PyData.str)]).set l (AO.list (((pairsI dues).map peK).map kvD))) ++ [AO.list (((pairsI dues).map peK).map kvD)]) i d l ((pairsI dues).map peK) := by
    have := T1.put (kvs' := (pairsI dues).map peK)
    exact ⟨get_app this.1 _, get_app this.2.1 _, get_app this.2.2 _⟩
  have hkl : (mem ++ [AO.list ((twS sg.length).map PyData.str)]).length ≠ l := by
    have := (List.getElem?_eq_some_iff.mp Tt.2.2).1
    simp; omega
  generalize ((mem ++ [AO.list ((twS sg.length).map PyData.str)]).set l (AO.list (((pairsI dues).map peK).map kvD))) ++ [AO.list (((pairsI dues).map peK).map kvD)] = M at hd1 hk1 T2
  generalize (mem ++ [AO.list ((twS sg.length).map PyData.str)]).length = kp at hk1 hkl
  -- pairs
  refine wxs_cons ?_
  refine wx_comp ⟨rfl, of_decide_eq_true rfl, rfl⟩ ?_ (.inl rfl) (by rfl) (by intro _; rfl)
  repeat walk_at "m"
  refine cw_lenS (by first | exact hsgz | exact szS (by omega)) ?_
  repeat walk_at "m"
  refine cw_range1 ?_
  rw [show (((S sg).length : Nat) : Int) = (0 : Int) + (sg.length : Nat) by rw [S_len]; omega]
  refine ⟨_, _, _, .range 0 sg.length hsm0, cb1 (prP dues) (prF dues) ?_ ?_, ?_⟩
  · rw [sizeLine_eq, intsD, List.length_map, List.length_range]; omega
  · intro C dd o hdd
    obtain ⟨p, hp, rfl⟩ := List.mem_map.mp hdd
    rw [List.mem_range] at hp
    have hpd : p < dues.length := by omega
    have hget : (dues.map fun n => PyData.int (n : Nat))[((p : Nat) : Int).toNat]? = some (.int (dues.getD p 0 : Nat)) := by
      rw [Int.toNat_natCast, List.getElem?_map, List.getD, List.getElem?_eq_getElem hpd]; rfl
    have hdb : dues.getD p 0 < 10 ^ 20 := by
      rw [List.getD, List.getElem?_eq_getElem hpd]
      exact hb _ (List.getElem_mem hpd)
    rw [show (0 : Int) + (p : Nat) = ((p : Nat) : Int) by omega]
    refine ⟨.inl rfl, rfl, ?_⟩
    repeat walk_at "m"
    refine ⟨_, subQ (get_app hd1 _) (by omega) hget, ?_⟩
    repeat walk_at "m"
    refine ⟨_, .gtI _ _, rfl, ?_, fun _ => ?_⟩
    · show decide ((0 : Int) < ((dues.getD p 0 : Nat) : Int)) = decide (0 < dues.getD ((p : Nat) : Int).toNat 0)
      rw [Int.toNat_natCast, decide_eq_decide]; omega
    · repeat walk_at "m"
      refine ⟨_, .eqI _ _, ?_⟩
      repeat walk_at "m"
      refine cw_name G (by omega) ?_
      repeat walk_at "m"
      refine ⟨_, subQ (get_app hd1 _) (by omega) hget, ?_⟩
      repeat walk_at "m"
      refine cw_str (log_small (by omega)) ?_
      repeat walk_at "m"
      refine ⟨[_, _], rfl, szl (Nat.le_of_ble_eq_true rfl), rfl, ?_⟩
      show _ = AV.dat (.tuple [.str (nm ((p : Nat) : Int).toNat (((p : Nat) : Int) == 1)), .str (dec (dues.getD ((p : Nat) : Int).toNat 0 : Nat))])
      rw [Int.toNat_natCast]
  have hpr : (intsD 0 sg.length).flatMap (fun d => if prP dues d then [prF dues d] else []) = ((pairsI dues).map peK).map kvD := by
    rw [flatMap_if, ← hdl, pr_map]
  rw [hpr]
  have hps : ∀ p ∈ (pairsI dues).map peK, SafeKv p := by
    have ok := pairs_ok hdl hk3 hb
    intro p hp
    obtain ⟨e, he, rfl⟩ := List.mem_map.mp hp
    have h1 := ok.lt e he
    have h2 := ok.small e he
    exact ⟨(nm_safe e.1 (by omega) _).1, dec_safe (by omega)⟩
  have hlk := lay_kvs hps
  show WXs _ _ _ _ _ _ _ _ _
  -- return
  refine wxs_cons ?_
  refine wx_return ?_
  refine we_and3 ?_
  repeat walk_at "m"
  refine ⟨_, .eqL _ _ _ _ (get_app hk1 _) (by first | exact List.getElem?_concat_length | simp) (depth_kvs _) hlk hlk, ?_⟩
  rw [eqv_self hlk]
  refine ⟨true, rfl, ?_⟩
  rw [if_pos rfl]
  refine we_and ?_
  repeat walk_at "m"
  have T3 : ∀ t, Tab (M ++ t) i d l ((pairsI dues).map peK) := fun t => ⟨get_app T2.1 _, get_app T2.2.1 _, get_app T2.2.2 _⟩
  refine cw_back G (T3 _) hk3 (pairs_ok hdl hk3 hb) hback fun oo => ?_
  repeat walk_at "m"
  refine ⟨_, .eqS _ _, ?_⟩
  refine ⟨_, rfl, ?_⟩
  rw [if_pos (by first | exact List.getElem?_concat_length | simp)]
  repeat walk_at "m"
  refine ⟨_, .eqL _ _ _ _ (get_set_ne (get_app hk1 _) hkl) (get_set_ne (by first | exact List.getElem?_concat_length | simp) ?_) (depth_kvs _) hlk hlk, ?_⟩
  · have := (List.getElem?_eq_some_iff.mp T2.2.2).1
    omega
  rw [eqv_self hlk]
  exact q _ _
set_option maxHeartbeats 4000000 in
theorem law_g (G : Gr w s₀ (KK w)) {T sg dues : List Nat} {di L : Nat} (hk : sg.length = 2 ∨ sg.length = 3) (hd : mem[di]? = some (.list (dues.map fun n => .int (n : Nat)))) (hdl : dues.length = sg.length)
    (hb : ∀ n ∈ dues, n < 10 ^ 20) (hback : backA sg 8 (pairsI dues) [] = some T) {Q : AFlow → Loc → Mem → Prop} (q : ∀ l m, Q (.ret (.bool true)) l m) :
    WXs prog w s₀ (k + 5) (callEnvC (fdAt (KK w) 228) L 228) [("signs", .str (S sg)), ("text", .str (S T)), ("dues", .ref di)] ((bodyAt (KK w) 228).drop 16) mem Q := by
  have hk3 : sg.length ≤ 3 := by omega
  have hsgz : (S sg).length ≤ sizeLine := by rw [S_len, sizeLine_eq]; omega
  have hsm0 : Builtin.Range.small 0 ((0 : Int) + (sg.length : Nat)) 1 = true := by
    rcases hk with h | h <;> rw [h] <;> decide
  have hdi : di < mem.length := (List.getElem?_eq_some_iff.mp hd).1
  -- twice
  refine wxs_cons ?_
  refine wx_comp2 ⟨rfl, of_decide_eq_true rfl, rfl⟩ ?_ (.inl rfl) (by rfl) (by intro _; rfl)
  repeat walk_at "m"
  refine cw_lenS (by first | exact hsgz | exact szS (by omega)) ?_
  repeat walk_at "m"
  refine cw_range1 ?_
  rw [show (((S sg).length : Nat) : Int) = (0 : Int) + (sg.length : Nat) by rw [S_len]; omega]
  refine ⟨_, _, _, .range 0 sg.length hsm0, cb2 twG ?_ ?_ (by intro _ _; rfl), ?_⟩
  · rw [twG_map, List.length_map, twS_len, sizeLine_eq]; omega
  · intro C d o hd
    obtain ⟨p, hp, rfl⟩ := List.mem_map.mp hd
    rw [List.mem_range] at hp
    rw [show (0 : Int) + (p : Nat) = ((p : Nat) : Int) by omega]
    refine ⟨.inl rfl, rfl, ?_⟩
    repeat walk_at "m"
    refine ⟨[.bool true, .bool false], rfl, szl (Nat.le_of_ble_eq_true rfl), ?_⟩
    refine ⟨[.list [.bool true, .bool false]], _, _, fun e => match e with | .bool b => .str (nm p b) | _ => .none, rfl, .list _ [.bool true, .bool false] (by first | exact List.getElem?_concat_length | simp), fun o' => ?_, ?_, ?_⟩
    · show (_ : Mem)[_]? = _
      simp
    · show [PyData.str (nm ((p : Nat) : Int).toNat true), .str (nm ((p : Nat) : Int).toNat false)] = _
      rw [Int.toNat_natCast]; rfl
    · intro e he o'
      have : ∃ b, e = .bool b := by
        simp at he
        rcases he with rfl | rfl <;> exact ⟨_, rfl⟩
      obtain ⟨b, rfl⟩ := this
      refine ⟨.inl rfl, rfl, ?_⟩
      repeat walk_at "m"
      exact cw_name G (by omega) ⟨rfl, rfl⟩
  rw [twG_map]
  show WXs _ _ _ _ _ _ _ _ _
  -- told
  refine wxs_cons ?_
  repeat walk_at "m"
  refine we_comp ⟨rfl, of_decide_eq_true rfl, rfl⟩ ?_ (by intro _; rfl)
  walk_at "m"
  refine ⟨_, _, _, .list _ ((twS sg.length).map .str) (by first | exact List.getElem?_concat_length | simp), cb0 dbF ?_ ?_, ?_⟩
  · rw [List.length_map, twS_len, sizeLine_eq]; omega
  · intro C d o hd
    obtain ⟨x, hx, rfl⟩ := List.mem_map.mp hd
    refine ⟨.inl rfl, rfl, ?_⟩
    repeat walk_at "m"
    exact ⟨[_, _], rfl, szl (Nat.le_of_ble_eq_true rfl), rfl, rfl⟩
  have hdb : ((twS sg.length).map PyData.str).flatMap (fun d => [dbF d]) = ((twS sg.length).map dbl).map kvD := by
    rw [flatMap_one, List.map_map, List.map_map]; rfl
  rw [hdb]
  repeat walk_at "m"
  have hsk : ∀ p ∈ (twS sg.length).map dbl, SafeKv p := by
    intro p hp
    obtain ⟨x, hx, rfl⟩ := List.mem_map.mp hp
    exact ⟨twS_safe hk3 x hx, twS_safe hk3 x hx⟩
  refine cw_new1 G (kvs := (twS sg.length).map dbl) (by first | exact List.getElem?_concat_length | simp) hsk ?_
  refine law_g2 (i := _) (d := (mem ++ [AO.list ((twS sg.length).map .str)] ++ [AO.list (((twS sg.length).map dbl).map kvD)]).length) (l := (mem ++ [AO.list ((twS sg.length).map .str)]).length) G hk (get_app (get_app (get_app hd _) _) _) hdl hb hback (get_app (get_app (by first | exact List.getElem?_concat_length | simp) _) _) ⟨by rw [List.getElem?_append_right (by first | exact List.getElem?_concat_length | simp)]; simp, by simp, get_app (by first | exact List.getElem?_concat_length | simp) _⟩ (by simp; omega) q
end
end
-- J14
section
theorem Sub.nil (l : Loc) : Sub [] l := fun _ _ h => nomatch h
theorem Sub.cons {x : Str} {v : AV} {b l : Loc} (h : l.lookup x = some v) (hb : Sub b l) : Sub ((x, v) :: b) l := by
  intro y u e
  rw [List.lookup_cons] at e
  cases hy : y == x with
  | true =>
    rw [hy] at e
    have : y = x := eq_of_beq hy
    subst this
    rw [h]; exact e
  | false => rw [hy] at e; exact hb y u e
noncomputable def szF (d : PyData) : PyData := match d with
  | .str s => .int s.length
  | _ => .none
noncomputable def lkP (k : Nat) (W : List (List Nat)) (d : PyData) : Bool := match d with
  | .int z => decide (countI z.toNat W < k ^ z.toNat)
  | _ => false
theorem sz_map (W : List (List Nat)) : (W.map sd).map szF = (W.map fun w => ((w.length : Nat) : Int)).map .int := by
  rw [List.map_map, List.map_map]
  refine List.map_congr_left fun w _ => ?_
  show PyData.int ((S w).length : Nat) = _
  rw [S_len]; rfl
theorem count_W (W : List (List Nat)) (p : Nat) : (W.map fun w => ((w.length : Nat) : Int)).count ((p : Nat) : Int) = countI p W := by
  induction W with
  | nil => rfl
  | cons w W ih =>
    rw [List.map_cons, List.count_cons, ih]
    unfold countI
    rw [List.filter_cons]
    cases h : Nat.beq w.length p with
    | true =>
      have hw : w.length = p := Nat.eq_of_beq_eq_true h
      simp [hw]
    | false =>
      have hw : w.length ≠ p := fun e => by rw [e, Nat.beq_refl] at h; cases h
      have hw' : ¬ ((w.length : Nat) : Int) = ((p : Nat) : Int) := by omega
      simp [hw']
theorem lk_map (k n : Nat) (W : List (List Nat)) : ((intsD 0 (n + 2)).filter (lkP k W)).map (fun d => d) = (lackI k n W).map fun s => .int (s : Nat) := by
  unfold intsD lackI
  rw [List.filter_map, List.map_map]
  have e : (List.range (n + 2)).filter (lkP k W ∘ fun i => PyData.int (0 + ((i : Nat) : Int))) = (List.range (n + 2)).filter fun s => Nat.blt (countI s W) (k ^ s) := by
    refine List.filter_congr fun p _ => ?_
    show decide (countI ((0 : Int) + ((p : Nat) : Int)).toNat W < k ^ ((0 : Int) + ((p : Nat) : Int)).toNat) = Nat.blt (countI p W) (k ^ p)
    rw [show ((0 : Int) + ((p : Nat) : Int)).toNat = p by omega, Bool.eq_iff_iff]
    simp [Nat.blt]; omega
  rw [e]
  refine List.map_congr_left fun p _ => ?_
  show PyData.int (0 + ((p : Nat) : Int)) = _
  rw [Int.zero_add]
noncomputable def kyF (nms : List Str) (d : PyData) : PyData := match d with
  | .int z => .str (nms.getD z.toNat "")
  | _ => .none
section
variable {prog : Program} {w : World} {s₀ : Shared} {k : Nat} {mem : Mem}
set_option maxHeartbeats 4000000 in
theorem law_f (G : Gr w s₀ (KK w)) {T sg dues last : List Nat} {W : List (List Nat)} {nms : List Str} {B : List Ent} {di wi ni li i d l L : Nat} (hk : sg.length = 2 ∨ sg.length = 3) (hd : mem[di]? = some (.list (dues.map fun n => .int (n : Nat)))) (hdl : dues.length = sg.length)
    (hb : ∀ n ∈ dues, n < 10 ^ 20) (hback : backA sg 8 (pairsI dues) [] = some T) (hT : T.length ≤ 6)
    (hW : mem[wi]? = some (.list (W.map sd))) (hWl : W.length ≤ 256) (hWw : ∀ w ∈ W, w.length ≤ 100) (hn : mem[ni]? = some (.list (nms.map .str))) (hns : ∀ x ∈ nms, Safe x) (hla : mem[li]? = some (.list (last.map fun p => .int (p : Nat)))) (hlast : ∀ p ∈ last, p < nms.length) (hnl : last.length ≤ 6) (hnn : nms.length ≤ 6)
    (Tt : Tab mem i d l (B.map tabD)) (hB : B.length ≤ 6) (hBv : ∀ e ∈ B, e.2 < 10 ^ 30) (hkeys : B.map (·.1) = last.map fun j => nms.getD j "") (hleast : ∃ r, lackI sg.length T.length W = leastP B sg.length :: r)
    {Q : AFlow → Loc → Mem → Prop} (q : ∀ l m, Q (.ret (.bool true)) l m) :
    WXs prog w s₀ (k + 5) (callEnvC (fdAt (KK w) 228) L 228) [("signs", .str (S sg)), ("text", .str (S T)), ("words", .ref wi), ("dues", .ref di), ("depths", .ref i), ("names", .ref ni), ("last", .ref li)] ((bodyAt (KK w) 228).drop 13) mem Q := by
  have hk3 : sg.length ≤ 3 := by omega
  have hsgz : (S sg).length ≤ sizeLine := by rw [S_len, sizeLine_eq]; omega
  -- sizes
  refine wxs_cons ?_
  repeat walk_at "m"
  refine we_comp ⟨rfl, of_decide_eq_true rfl, rfl⟩ ?_ (by intro _; rfl)
  walk_at "m"
  refine ⟨_, _, _, .list wi _ hW, cb0 szF ?_ ?_, ?_⟩
  · rw [List.length_map, sizeLine_eq]; omega
  · intro C dd o hdd
    obtain ⟨v, hv, rfl⟩ := List.mem_map.mp hdd
    refine ⟨.inl rfl, rfl, ?_⟩
    repeat walk_at "m"
    exact cw_lenS (by rw [S_len, sizeLine_eq]; have := hWw v hv; omega) ⟨rfl, rfl⟩
  rw [flatMap_one, sz_map]
  show WXs _ _ _ _ _ _ _ _ _
  -- lacking
  refine wxs_cons ?_
  refine wx_comp ⟨rfl, of_decide_eq_true rfl, rfl⟩ ?_ (.inl rfl) (by rfl) (by intro _; rfl)
  repeat walk_at "m"
  refine cw_lenS (by first | exact hsgz | exact szS (by omega)) ?_
  repeat walk_at "m"
  refine ⟨_, .addI _ _, ?_⟩
  repeat walk_at "m"
  refine cw_range1 ?_
  rw [show (((S T).length : Nat) : Int) + 2 = (0 : Int) + ((T.length + 2 : Nat) : Int) by rw [S_len]; omega]
  have hsm := small0 (n := T.length + 2) (Nat.add_le_add_right hT 2)
  refine ⟨_, _, _, .range 0 (T.length + 2) hsm, cb1 (lkP sg.length W) (fun d => d) ?_ ?_, ?_⟩
  · rw [sizeLine_eq, intsD, List.length_map, List.length_range]; omega
  · intro C dd o hdd
    obtain ⟨p, hp, rfl⟩ := List.mem_map.mp hdd
    rw [List.mem_range] at hp
    rw [show (0 : Int) + (p : Nat) = ((p : Nat) : Int) by omega]
    refine ⟨.inl rfl, rfl, ?_⟩
    repeat walk_at "m"
    refine ⟨_, _, mt_count, .list _ ((W.map fun w => ((w.length : Nat) : Int)).map .int) (by first | exact List.getElem?_concat_length | simp), ?_⟩
    repeat walk_at "m"
    refine cw_count (ns := W.map fun w => ((w.length : Nat) : Int)) (by first | exact List.getElem?_concat_length | simp) ?_
    rw [count_W]
    repeat walk_at "m"
    refine cw_lenS (by first | exact hsgz | exact szS (by omega)) ?_
    repeat walk_at "m"
    rw [S_len]
    refine ⟨_, .powI _ _ (by omega) ?_, ?_⟩
    · have : Builtin.Int.intBits ((sg.length : Nat) : Int) = 2 := by
        rcases hk with h | h <;> rw [h] <;> decide
      rw [this]; omega
    refine ⟨_, .ltI _ _, rfl, ?_, fun _ => ?_⟩
    · show decide (((countI p W : Nat) : Int) < ((sg.length : Nat) : Int) ^ ((p : Nat) : Int).toNat) = decide (countI ((p : Nat) : Int).toNat W < sg.length ^ ((p : Nat) : Int).toNat)
      rw [Int.toNat_natCast, decide_eq_decide, ← Int.natCast_pow]
      omega
    · repeat walk_at "m"
      exact ⟨rfl, rfl⟩
  rw [flatMap_if, lk_map]
  show WXs _ _ _ _ _ _ _ _ _
  obtain ⟨lr, hlr⟩ := hleast
  rw [hlr]
  -- if
  have T1 : ∀ t, Tab (mem ++ t) i d l (B.map tabD) := fun t => ⟨get_app Tt.1 _, get_app Tt.2.1 _, get_app Tt.2.2 _⟩
  rw [List.append_assoc]
  refine wxs_cons ?_
  refine wx_if ?_
  refine wt_or ?_
  repeat walk_at "m"
  refine ⟨i, d, l, 130, rfl, (T1 _).1, (T1 _).2.1, .keys, ?_⟩
  repeat walk_at "m"
  refine cw_keys G (T1 _) (by rw [List.length_map]; omega) ?_
  refine we_comp ⟨rfl, of_decide_eq_true rfl, rfl⟩ ?_ (by intro _; rfl)
  walk_at "m"
  rw [List.append_assoc]
  refine ⟨_, _, _, .list li _ (get_app hla _), cb0 (kyF nms) ?_ ?_, ?_⟩
  · rw [List.length_map, sizeLine_eq]; omega
  · intro C dd o hdd
    obtain ⟨p, hp, rfl⟩ := List.mem_map.mp hdd
    have hpn := hlast p hp
    refine ⟨.inl rfl, rfl, ?_⟩
    repeat walk_at "m"
    rw [List.append_assoc]
    refine ⟨_, subQ (d := (.str (nms.getD p ""))) (get_app hn _) (by omega) ?_, rfl, ?_⟩
    · rw [Int.toNat_natCast, List.getElem?_map, List.getD, List.getElem?_eq_getElem hpn]; rfl
    · show _ = AV.dat (.str (nms.getD ((p : Nat) : Int).toNat ""))
      rw [Int.toNat_natCast]
  have hBs : ∀ x ∈ B.map (·.1), Safe x := by
    rw [hkeys]
    intro x hx
    obtain ⟨j, hj, rfl⟩ := List.mem_map.mp hx
    rw [List.getD, List.getElem?_eq_getElem (hlast j hj)]
    exact hns _ (List.getElem_mem _)
  have hk1 : (B.map tabD).map (fun p => PyData.str p.1) = (B.map (·.1)).map .str := by rw [List.map_map, List.map_map]; rfl
  have hky : (last.map fun p => PyData.int (p : Nat)).flatMap (fun d => [kyF nms d]) = (B.map (·.1)).map .str := by
    rw [flatMap_one, hkeys, List.map_map, List.map_map]
    refine List.map_congr_left fun p _ => ?_
    show PyData.str (nms.getD ((p : Nat) : Int).toNat "") = _
    rw [Int.toNat_natCast]; rfl
  rw [hky, hk1]
  have hlay := lay_strs hBs
  refine ⟨_, .neL _ _ _ _ (get_app (by rw [List.getElem?_append_right (by first | exact List.getElem?_concat_length | simp)]; simp) _) (by first | exact List.getElem?_concat_length | simp) (depth_strs _) hlay hlay, ?_⟩
  rw [eqv_self hlay, if_neg (by decide)]
  refine wt_cmp ?_ rfl
  repeat walk_at "m"
  refine cw_lenS (by first | exact hsgz | exact szS (by omega)) ?_
  repeat walk_at "m"
  rw [S_len, List.append_assoc]
  refine cw_least G (T1 _) (by omega) (by omega) hBv ?_
  repeat walk_at "m"
  refine ⟨_, .listI _ _ _ (.int (leastP B sg.length : Nat)) (by rw [List.getElem?_append_right (by first | exact List.getElem?_concat_length | simp)]; simp; rfl) (by decide) (by decide) (by rfl), ?_⟩
  refine ⟨_, .neI _ _, ?_⟩
  rw [if_neg (by first | exact List.getElem?_concat_length | simp)]
  refine wxs_nil ?_
  refine WXs.sub ?_ (law_g G hk (get_app hd _) hdl hb hback q)
  exact .cons rfl (.cons rfl (.cons rfl (.nil _)))
end
end
-- J15
section
structure LawG (mem : Mem) (sg T dues last : List Nat) (W : List (List Nat)) (nms : List Str) (B : List Ent) (di wi ni li i d l : Nat) : Prop where
  hk : sg.length = 2 ∨ sg.length = 3
  hd : mem[di]? = some (.list (dues.map fun n => .int (n : Nat)))
  hdl : dues.length = sg.length
  hb : ∀ n ∈ dues, n < 10 ^ 20
  hback : backA sg 8 (pairsI dues) [] = some T
  hT : T.length ≤ 6
  hW : mem[wi]? = some (.list (W.map sd))
  hWl : W.length ≤ 256
  hWw : ∀ w ∈ W, w.length ≤ 100
  hn : mem[ni]? = some (.list (nms.map .str))
  hns : ∀ x ∈ nms, Safe x
  hla : mem[li]? = some (.list (last.map fun p => .int (p : Nat)))
  hlast : ∀ p ∈ last, p < nms.length
  hnl : last.length ≤ 6
  hnn : nms.length ≤ 6
  Tt : Tab mem i d l (B.map tabD)
  hB : B.length ≤ 6
  hBv : ∀ e ∈ B, e.2 < 10 ^ 30
  hkeys : B.map (·.1) = last.map fun j => nms.getD j ""
  hleast : ∃ r, lackI sg.length T.length W = leastP B sg.length :: r
theorem Tab.app {mem : Mem} {i d l : Nat} {kvs : List (Str × Str)} (T : Tab mem i d l kvs) (t : Mem) : Tab (mem ++ t) i d l kvs := ⟨get_app T.1 _, get_app T.2.1 _, get_app T.2.2 _⟩
noncomputable def flocs (T sg : List Nat) (wi di i ni li i2 : Nat) : Loc := [("signs", .str (S sg)), ("text", .str (S T)), ("words", .ref wi), ("dues", .ref di), ("depths", .ref i), ("names", .ref ni), ("last", .ref li), ("sums", .ref i2)]
section
variable {prog : Program} {w : World} {s₀ : Shared} {k : Nat} {mem : Mem}
set_option maxHeartbeats 4000000 in
theorem law_e (G : Gr w s₀ (KK w)) {T sg dues last : List Nat} {W : List (List Nat)} {nms : List Str} {A B : List Ent} {di wi ni li i d l i2 d2 l2 L : Nat} (H : LawG mem sg T dues last W nms B di wi ni li i d l)
    (T2 : Tab mem i2 d2 l2 (A.map tabD)) (hA : A.length ≤ 6) (hAs : ∀ e ∈ A, e.1.length ≤ 1000) (hget : ∀ p < sg.length, getT (xs p) "0" (A.map tabD) = dec (dues.getD p 0 : Nat))
    {Q : AFlow → Loc → Mem → Prop} (q : ∀ l m, Q (.ret (.bool true)) l m) :
    WXs prog w s₀ (k + 5) (callEnvC (fdAt (KK w) 228) L 228) (flocs T sg wi di i ni li i2) ((bodyAt (KK w) 228).drop 12) mem Q := by
  have hk := H.hk
  have hk3 : sg.length ≤ 3 := by omega
  have hsgz : (S sg).length ≤ sizeLine := by rw [S_len, sizeLine_eq]; omega
  have hsm0 : Builtin.Range.small 0 ((0 : Int) + (sg.length : Nat)) 1 = true := by
    rcases hk with h | h <;> rw [h] <;> decide
  have hAk : ∀ p ∈ A.map tabD, p.1.length ≤ 1000 := by
    intro p hp
    obtain ⟨e, he, rfl⟩ := List.mem_map.mp hp
    exact hAs e he
  refine wxs_for (flocs T sg wi di i ni li i2) (Sub.refl _) ?_ (by intro _; rfl)
  repeat walk_at "m"
  refine cw_lenS (by first | exact hsgz | exact szS (by omega)) ?_
  repeat walk_at "m"
  refine cw_range1 ?_
  rw [show (((S sg).length : Nat) : Int) = (0 : Int) + (sg.length : Nat) by rw [S_len]; omega]
  refine ⟨.range 0 sg.length, _, fun rest m => ∃ (j : Mem) (fs : List Nat), m = mem ++ j ∧ rest = fs.map (fun f => .int ((f : Nat) : Int)) ∧ (∀ f ∈ fs, f < sg.length),
    .range 0 sg.length hsm0, fun _ _ _ => rfl, ⟨[], List.range sg.length, by simp, by simp [intsD], fun f hf => List.mem_range.mp hf⟩, ?_, ?_⟩
  · rintro dd r m' - ⟨j, fs, rfl, hrest, hfs⟩
    cases fs with
    | nil => cases hrest
    | cons f fs =>
      injection hrest with h1 h2
      subst h1 h2
      have hf : f < sg.length := hfs f (.head _)
      have hfd : f < dues.length := by rw [H.hdl]; exact hf
      have hgd : (dues.map fun n => PyData.int (n : Nat))[((f : Nat) : Int).toNat]? = some (.int (dues.getD f 0 : Nat)) := by
        rw [Int.toNat_natCast, List.getElem?_map, List.getD, List.getElem?_eq_getElem hfd]; rfl
      have hdb : dues.getD f 0 < 10 ^ 20 := by
        rw [List.getD, List.getElem?_eq_getElem hfd]
        exact H.hb _ (List.getElem_mem hfd)
      show AssP _ _ (PyData.int ((f : Nat) : Int)) _ _
      refine ⟨.inl rfl, ?_⟩
      refine wxs_for (flocs T sg wi di i ni li i2 ++ ([("place", .int ((f : Nat) : Int))] : Loc)) (Sub.refl _) ?_ (by intro _; rfl)
      repeat walk_at "m"
      refine ⟨[.bool false, .bool true], rfl, szl (Nat.le_of_ble_eq_true rfl), ?_⟩
      refine ⟨.list (mem ++ j).length, [.bool false, .bool true], fun rest m => ∃ (j2 : Mem) (bs : List Bool), m = mem ++ j ++ [AO.list [.bool false, .bool true]] ++ j2 ∧ rest = bs.map .bool,
        .list _ _ (by first | exact List.getElem?_concat_length | simp), ?_, ⟨[], [false, true], by simp, rfl⟩, ?_, ?_⟩
      · rintro r m' ⟨j2, bs, rfl, _⟩
        exact get_app (by first | exact List.getElem?_concat_length | simp) _
      · rintro dd r m' - ⟨j2, bs, rfl, hrest⟩
        cases bs with
        | nil => cases hrest
        | cons b bs =>
          injection hrest with h1 h2
          subst h1 h2
          show AssP _ _ (PyData.bool b) _ _
          refine ⟨.inl rfl, ?_⟩
          obtain ⟨sn, sn'⟩ := nm_safe f (by omega) b
          rw [List.append_assoc, List.append_assoc]
          refine wxs_cons ?_
          repeat walk_at "m"
          have T3 := T2.app (j ++ ([AO.list [.bool false, .bool true]] ++ j2))
          refine ⟨i2, d2, l2, 125, rfl, T3.1, T3.2.1, .get, ?_⟩
          repeat walk_at "m"
          refine cw_name G (by omega) ?_
          repeat walk_at "m"
          refine cw_get G T3 (by rw [List.length_map]; omega) sn sn' hAk ?_
          rw [nm_low f (by omega) b, hget f hf]
          repeat walk_at "m"
          refine ⟨_, subQ (get_app H.hd _) (by omega) hgd, ?_⟩
          repeat walk_at "m"
          refine cw_str (log_small (by omega)) ?_
          refine ⟨_, .neS _ _, ?_⟩
          rw [if_neg (by first | exact List.getElem?_concat_length | simp)]
          exact wxs_nil (wxs_nil ⟨Sub.app _ _, j2, bs, by simp, rfl⟩)
      · rintro m' ⟨j2, bs, rfl, hrest⟩
        cases bs with
        | cons _ _ => cases hrest
        | nil => exact wxs_nil ⟨Sub.app _ _, _, fs, by rw [List.append_assoc, List.append_assoc], rfl, fun x hx => hfs x (.tail _ hx)⟩
  · rintro m' ⟨j, fs, rfl, hrest, hfs⟩
    refine WXs.sub ?_ (law_f G H.hk (get_app H.hd _) H.hdl H.hb H.hback H.hT (get_app H.hW _) H.hWl H.hWw (get_app H.hn _) H.hns (get_app H.hla _) H.hlast H.hnl H.hnn (H.Tt.app _) H.hB H.hBv H.hkeys H.hleast q)
    exact Sub.app _ _
end
end
-- J16
section
noncomputable def plz (k : Nat) (z : Int) : Nat := (z.fmod ((k : Nat) : Int)).toNat
theorem plz_lt {k : Nat} (hk : 0 < k) (z : Int) : plz k z < k := by
  unfold plz
  have h1 := Int.fmod_nonneg_of_pos z (b := ((k : Nat) : Int)) (by omega)
  have h2 := Int.fmod_lt_of_pos z (b := ((k : Nat) : Int)) (by omega)
  omega
theorem plz_int {k : Nat} (hk : 0 < k) (z : Int) : z.fmod ((k : Nat) : Int) = ((plz k z : Nat) : Int) := by
  unfold plz
  have h1 := Int.fmod_nonneg_of_pos z (b := ((k : Nat) : Int)) (by omega)
  omega
structure LawP (sg T dues last is : List Nat) (W : List (List Nat)) (nms : List Str) : Prop where
  hk : sg.length = 2 ∨ sg.length = 3
  hT0 : 1 ≤ T.length
  hT : T.length ≤ 6
  hTi : T = textI sg is
  hW : W = wordsI T sg
  hWl : W.length ≤ 256
  hWw : ∀ w ∈ W, w.length ≤ 100
  hdu : dues = duesI sg W
  hb : ∀ n ∈ dues, n < 10 ^ 20
  hback : backA sg 8 (pairsI dues) [] = some T
  hla : last = lastI T
  hns : ∀ x ∈ nms, Safe x ∧ Safe (Txt.lower x)
  hnl : nms.length = T.length
  hA : (readP sg.length nms [] []).1 = last.map fun j => (nms.getD j "", dues.getD (is.getD j 0) 0)
  hget : ∀ p < sg.length, getT (xs p) "0" ((readP sg.length nms [] []).1.map tabD) = dec (dues.getD p 0 : Nat)
  hkeys : (readP sg.length nms [] []).2.map (·.1) = last.map fun j => nms.getD j ""
  hleast : ∃ r, lackI sg.length T.length W = leastP (readP sg.length nms [] []).2 sg.length :: r
  hBv : ∀ e ∈ (readP sg.length nms [] []).2, e.2 < 10 ^ 30
noncomputable def laP (T : List Nat) (d : PyData) : Bool := match d with
  | .int z => !(afterY [T.getD z.toNat 0] (T.drop (z.toNat + 1))).isSome
  | _ => false
theorem la_map (T : List Nat) : ((intsD 0 T.length).filter (laP T)).map (fun d => d) = (lastI T).map fun p => .int (p : Nat) := by
  unfold intsD lastI
  rw [List.filter_map, List.map_map]
  have e : (List.range T.length).filter (laP T ∘ fun i => PyData.int (0 + ((i : Nat) : Int))) = (List.range T.length).filter fun p => !(afterY [T.getD p 0] (T.drop (p + 1))).isSome := by
    refine List.filter_congr fun p _ => ?_
    show (!(afterY [T.getD ((0 : Int) + ((p : Nat) : Int)).toNat 0] (T.drop (((0 : Int) + ((p : Nat) : Int)).toNat + 1))).isSome) = _
    rw [show ((0 : Int) + ((p : Nat) : Int)).toNat = p by omega]
  rw [e]
  refine List.map_congr_left fun p _ => ?_
  show PyData.int (0 + ((p : Nat) : Int)) = _
  rw [Int.zero_add]
noncomputable def itF (nms : List Str) (dues is : List Nat) (d : PyData) : PyData := match d with
  | .int z => .tuple [.str (nms.getD z.toNat ""), .str (dec (dues.getD (is.getD z.toNat 0) 0 : Nat))]
  | _ => .none
section
variable {prog : Program} {w : World} {s₀ : Shared} {k : Nat} {mem : Mem}
set_option maxHeartbeats 4000000 in
theorem law_d (G : Gr w s₀ (KK w)) {T sg dues last is : List Nat} {W : List (List Nat)} {nms : List Str} {ns : List Int} {di wi ni nu L : Nat} (P : LawP sg T dues last is W nms) (his : is = ns.map (plz sg.length))
    (hd : mem[di]? = some (.list (dues.map fun n => .int (n : Nat)))) (hW : mem[wi]? = some (.list (W.map sd))) (hn : mem[ni]? = some (.list (nms.map .str))) (hnu : mem[nu]? = some (.list (ns.map .int)))
    {Q : AFlow → Loc → Mem → Prop} (q : ∀ l m, Q (.ret (.bool true)) l m) :
    WXs prog w s₀ (k + 5) (callEnvC (fdAt (KK w) 228) L 228) [("signs", .str (S sg)), ("text", .str (S T)), ("words", .ref wi), ("dues", .ref di), ("names", .ref ni), ("numbers", .ref nu)] ((bodyAt (KK w) 228).drop 9) mem Q := by
  have hk := P.hk
  have hk3 : sg.length ≤ 3 := by omega
  have hsgz : (S sg).length ≤ sizeLine := by rw [S_len, sizeLine_eq]; omega
  have hT6 := P.hT
  have hdl : dues.length = sg.length := by rw [P.hdu, duesI, List.length_map]
  have hlast : ∀ p ∈ last, p < T.length := by
    intro p hp
    rw [P.hla] at hp
    exact List.mem_range.mp (List.mem_filter.mp hp).1
  have hlal : last.length ≤ 6 := by
    rw [P.hla, lastI]
    refine Nat.le_trans (List.length_filter_le _ _) ?_
    rw [List.length_range]; exact hT6
  have hnsl : ns.length = T.length := by rw [P.hTi, textI, his, List.length_map, List.length_map]
  have hsm0 := small0 (n := T.length) (Nat.le_trans hT6 (by decide))
  -- last
  refine wxs_cons ?_
  refine wx_comp ⟨rfl, of_decide_eq_true rfl, rfl⟩ ?_ (.inl rfl) (by rfl) (by intro _; rfl)
  repeat walk_at "m"
  refine cw_lenS (by first | exact hsgz | exact szS (by omega)) ?_
  repeat walk_at "m"
  refine cw_range1 ?_
  rw [show (((S T).length : Nat) : Int) = (0 : Int) + (T.length : Nat) by rw [S_len]; omega]
  refine ⟨_, _, _, .range 0 T.length hsm0, cb1 (laP T) (fun d => d) ?_ ?_, ?_⟩
  · rw [sizeLine_eq, intsD, List.length_map, List.length_range]; omega
  · intro C dd o hdd
    obtain ⟨p, hp, rfl⟩ := List.mem_map.mp hdd
    rw [List.mem_range] at hp
    rw [show (0 : Int) + (p : Nat) = ((p : Nat) : Int) by omega]
    refine ⟨.inl rfl, rfl, ?_⟩
    have hgp : T[p]? = some (T.getD p 0) := by rw [List.getD, List.getElem?_eq_getElem hp]; rfl
    repeat walk_at "m"
    refine ⟨_, .strI _ _ (fits_nat (by omega)) (charAt_S hp), ?_⟩
    rw [item_S hgp]
    refine we_sliceS ?_
    walk_at "m"
    refine ⟨_, rfl, by rw [S_len, sizeLine_eq]; omega, ?_⟩
    show WE _ _ _ _ _ _ _ _ _
    repeat walk_at "m"
    refine ⟨_, .addI _ _, ?_⟩
    refine ⟨_, rfl, ?_⟩
    show ∃ c, _ ∧ _
    rw [slice_from' (n := p + 1) (by omega)]
    refine ⟨_, .notInS _ _, rfl, ?_, fun _ => ?_⟩
    · rw [contains_S, has_after]
      show _ = !(afterY [T.getD ((p : Nat) : Int).toNat 0] (T.drop (((p : Nat) : Int).toNat + 1))).isSome
      rw [Int.toNat_natCast]
    · repeat walk_at "m"
      exact ⟨rfl, rfl⟩
  rw [flatMap_if, la_map, ← P.hla]
  show WXs _ _ _ _ _ _ _ _ _
  -- sums, depths
  refine wxs_cons ?_
  refine wx_unP ?_ (.inl rfl) (.inl rfl) (by rfl) (by rfl)
  repeat walk_at "m"
  refine cw_lenS (by first | exact hsgz | exact szS (by omega)) ?_
  repeat walk_at "m"
  rw [S_len]
  refine cw_read G (get_app hn _) (by rw [P.hnl]; exact hT6) (by omega) P.hns ?_
  refine ⟨_, _, rfl, ?_⟩
  have hA := P.hA
  have hget := P.hget
  have hkeys := P.hkeys
  have hleast := P.hleast
  have hBv := P.hBv
  generalize (readP sg.length nms [] []).1 = A at hA hget ⊢
  generalize (readP sg.length nms [] []).2 = B at hkeys hleast hBv ⊢
  have hAl : A.length ≤ 6 := by rw [hA, List.length_map]; exact hlal
  have hBl : B.length ≤ 6 := by
    have := congrArg List.length hkeys
    rw [List.length_map, List.length_map] at this
    omega
  have hli : (mem ++ [AO.list (last.map fun p => PyData.int (p : Nat))])[mem.length]? = some (.list (last.map fun p => .int (p : Nat))) := by simp
  have hd' := get_app hd [AO.list (last.map fun p => PyData.int (p : Nat))]
  have hW' := get_app hW [AO.list (last.map fun p => PyData.int (p : Nat))]
  have hn' := get_app hn [AO.list (last.map fun p => PyData.int (p : Nat))]
  have hnu' := get_app hnu [AO.list (last.map fun p => PyData.int (p : Nat))]
  generalize hMe : mem ++ [AO.list (last.map fun p => PyData.int (p : Nat))] = M at hli hd' hW' hn' hnu' ⊢
  have TA : Tab (rmem M A B) (M.length + 1) M.length (M.length + 2) (A.map tabD) := by
    have := rtabA M A B []
    rw [List.append_nil] at this; exact this
  have TB : Tab (rmem M A B) (M.length + 4) (M.length + 3) (M.length + 5) (B.map tabD) := by
    have := rtabB M A B []
    rw [List.append_nil] at this; exact this
  have hg : ∀ {i : Nat} {o : AO}, M[i]? = some o → (rmem M A B)[i]? = some o := fun h => by unfold rmem; exact get_app h _
  show WXs _ _ _ _ _ _ _ _ _
  refine wxs_cons ?_
  refine wx_if ?_
  repeat walk_at "m"
  refine ⟨_, _, _, 142, rfl, TA.1, TA.2.1, .items, ?_⟩
  repeat walk_at "m"
  refine cw_items G TA (by rw [List.length_map]; omega) ?_
  refine we_comp ⟨rfl, of_decide_eq_true rfl, rfl⟩ ?_ (by intro _; rfl)
  walk_at "m"
  refine ⟨_, _, _, .list mem.length _ (get_app (hg hli) _), cb0 (itF nms dues is) ?_ ?_, ?_⟩
  · rw [List.length_map, sizeLine_eq]; omega
  · intro C dd o hdd
    obtain ⟨p, hp, rfl⟩ := List.mem_map.mp hdd
    have hpT := hlast p hp
    have hpn : p < nms.length := by rw [P.hnl]; exact hpT
    have hpz : p < ns.length := by omega
    have hip : is.getD p 0 = plz sg.length ns[p] := by
      rw [his, List.getD, List.getElem?_map, List.getElem?_eq_getElem hpz]; rfl
    have hil : is.getD p 0 < dues.length := by rw [hip, hdl]; exact plz_lt (by omega) _
    have hdb : dues.getD (is.getD p 0) 0 < 10 ^ 20 := by
      rw [List.getD, List.getElem?_eq_getElem hil]
      exact P.hb _ (List.getElem_mem hil)
    refine ⟨.inl rfl, rfl, ?_⟩
    repeat walk_at "m"
    refine ⟨_, subQ (d := (.str (nms.getD p ""))) (get_app (get_app (hg hn') _) _) (by omega) ?_, ?_⟩
    · rw [Int.toNat_natCast, List.getElem?_map, List.getD, List.getElem?_eq_getElem hpn]; rfl
    repeat walk_at "m"
    refine ⟨_, subQ (d := (.int ns[p])) (get_app (get_app (hg hnu') _) _) (by omega) ?_, ?_⟩
    · rw [Int.toNat_natCast, List.getElem?_map, List.getElem?_eq_getElem hpz]; rfl
    repeat walk_at "m"
    refine cw_lenS (by first | exact hsgz | exact szS (by omega)) ?_
    rw [S_len]
    refine ⟨_, .modI _ _ (by omega), ?_⟩
    rw [plz_int (by omega), ← hip]
    refine ⟨_, subQ (d := (.int (dues.getD (is.getD p 0) 0 : Nat))) (get_app (get_app (hg hd') _) _) (by omega) ?_, ?_⟩
    · rw [Int.toNat_natCast, List.getElem?_map]
      show Option.map _ (dues[is.getD p 0]?) = some (PyData.int (((dues[is.getD p 0]?).getD 0 : Nat) : Int))
      rw [List.getElem?_eq_getElem hil]; rfl
    repeat walk_at "m"
    refine cw_str (log_small (by omega)) ?_
    repeat walk_at "m"
    refine ⟨[_, _], rfl, szl (Nat.le_of_ble_eq_true rfl), rfl, ?_⟩
    show _ = AV.dat (.tuple [.str (nms.getD ((p : Nat) : Int).toNat ""), .str (dec (dues.getD (is.getD ((p : Nat) : Int).toNat 0) 0 : Nat))])
    rw [Int.toNat_natCast]
  have hit : (last.map fun p => PyData.int (p : Nat)).flatMap (fun d => [itF nms dues is d]) = (A.map tabD).map kvD := by
    rw [flatMap_one, hA, List.map_map, List.map_map, List.map_map]
    refine List.map_congr_left fun p _ => ?_
    show PyData.tuple [.str (nms.getD ((p : Nat) : Int).toNat ""), .str (dec (dues.getD (is.getD ((p : Nat) : Int).toNat 0) 0 : Nat))] = _
    rw [Int.toNat_natCast]; rfl
  rw [hit]
  have hAs : ∀ e ∈ A, Safe e.1 ∧ e.2 < 10 ^ 20 := by
    rw [hA]
    intro e he
    obtain ⟨p, hp, rfl⟩ := List.mem_map.mp he
    have hpT := hlast p hp
    have hpn : p < nms.length := by rw [P.hnl]; exact hpT
    have hpz : p < ns.length := by omega
    have hip : is.getD p 0 = plz sg.length ns[p] := by
      rw [his, List.getD, List.getElem?_map, List.getElem?_eq_getElem hpz]; rfl
    have hil : is.getD p 0 < dues.length := by rw [hip, hdl]; exact plz_lt (by omega) _
    constructor
    · show Safe (nms.getD p "")
      rw [List.getD, List.getElem?_eq_getElem hpn]
      exact (P.hns _ (List.getElem_mem _)).1
    · show dues.getD (is.getD p 0) 0 < 10 ^ 20
      rw [List.getD, List.getElem?_eq_getElem hil]
      exact P.hb _ (List.getElem_mem hil)
  have hlay : PyData.canLayAll0 ((A.map tabD).map kvD) = true := lay_kvs fun p hp => by
    obtain ⟨e, he, rfl⟩ := List.mem_map.mp hp
    exact ⟨(hAs e he).1, dec_safe (by have := (hAs e he).2; omega)⟩
  refine ⟨_, .neL _ _ _ _ (get_app (by first | exact List.getElem?_concat_length | simp) _) (by first | exact List.getElem?_concat_length | simp) (depth_kvs _) hlay hlay, ?_⟩
  rw [eqv_self hlay, if_neg (by decide)]
  refine wxs_nil ?_
  refine WXs.sub ?_ (law_e (A := A) (B := B) (last := last) (nms := nms) (ni := ni) (li := mem.length) G ⟨hk, get_app (get_app (hg hd') _) _, hdl, P.hb, P.hback, hT6, get_app (get_app (hg hW') _) _, P.hWl, P.hWw, get_app (get_app (hg hn') _) _, fun x hx => (P.hns x hx).1, get_app (get_app (hg hli) _) _, fun p hp => by rw [P.hnl]; exact hlast p hp, hlal, by rw [P.hnl]; exact hT6, (TB.app _).app _, hBl, hBv, hkeys, hleast⟩
    ((TA.app _).app _) hAl (fun e he => (hAs e he).1.2) hget q)
  exact .cons rfl (.cons rfl (.cons rfl (.cons rfl (.cons rfl (.cons rfl (.cons rfl (.cons rfl (.nil _))))))))
end
end
-- J17
section
noncomputable def gz (k : Nat) (z : Int) : Bool := (z.fdiv ((k : Nat) : Int)).fmod 2 == 1
noncomputable def txF (sg : List Nat) (d : PyData) : PyData := match d with
  | .int z => .str (S [sg.getD (plz sg.length z) 0])
  | _ => .none
noncomputable def nsF (k : Nat) (d : PyData) : PyData := match d with
  | .int z => .str (nm (plz k z) (gz k z))
  | _ => .none
noncomputable def wdP (c : Nat) (d : PyData) : Bool := match d with
  | .str s => eqF (s.cps.toList.drop (s.cps.toList.length - 1)) [c]
  | _ => false
noncomputable def wdF (d : PyData) : PyData := match d with
  | .str s => .int ((100 ^ s.cps.toList.length : Nat) : Int)
  | _ => .none
noncomputable def duF (W : List (List Nat)) (d : PyData) : PyData := match d with
  | .str s => .int ((dueI W (s.cps.toList.headD 0) : Nat) : Int)
  | _ => .none
theorem wd_map (W : List (List Nat)) (c : Nat) : ((W.map sd).filter (wdP c)).map wdF = ((W.filter fun w => eqF (w.drop (w.length - 1)) [c]).map fun w => ((100 ^ w.length : Nat) : Int)).map .int := by
  rw [List.filter_map, List.map_map, List.map_map]
  have e : W.filter (wdP c ∘ sd) = W.filter fun w => eqF (w.drop (w.length - 1)) [c] := by
    refine List.filter_congr fun w _ => ?_
    show eqF ((S w).cps.toList.drop ((S w).cps.toList.length - 1)) [c] = _
    rw [S_cps]
  rw [e]
  refine List.map_congr_left fun w _ => ?_
  show PyData.int ((100 ^ (S w).cps.toList.length : Nat) : Int) = _
  rw [S_cps]; rfl
theorem due_ints (W : List (List Nat)) (c : Nat) : ((W.filter fun w => eqF (w.drop (w.length - 1)) [c]).map fun w => ((100 ^ w.length : Nat) : Int)).sum = ((dueI W c : Nat) : Int) := by
  unfold dueI
  generalize W.filter (fun w => eqF (w.drop (w.length - 1)) [c]) = V
  induction V with
  | nil => rfl
  | cons w V ih =>
    rw [List.map_cons, List.sum_cons, ih, List.map_cons, List.sum_cons, Int.natCast_add]
theorem glue_one : ∀ (is : List Nat) (f : Nat → Nat) (acc : List Nat), (is.map fun i => [f i]).foldl (fun acc p => acc ++ [] ++ p) acc = acc ++ is.map f
  | [], _, _ => by simp
  | i :: is, f, acc => by
    rw [List.map_cons, List.foldl_cons, glue_one is f]
    simp
theorem text_join (sg is : List Nat) : Txt.join ("" : Str) (is.map fun i => S [sg.getD i 0]) = S (textI sg is) := by
  have := join_S [] (is.map fun i => [sg.getD i 0])
  rw [List.map_map] at this
  rw [nil_S]
  refine this.trans ?_
  cases is with
  | nil => rfl
  | cons i is =>
    rw [List.map_cons]
    show S ((is.map fun i => [sg.getD i 0]).foldl _ [sg.getD i 0]) = _
    rw [glue_one]; rfl
section
variable {prog : Program} {w : World} {s₀ : Shared} {k : Nat} {mem : Mem}
set_option maxHeartbeats 4000000 in
theorem law_c (G : Gr w s₀ (KK w)) {T sg dues last is : List Nat} {W : List (List Nat)} {nms : List Str} {ns : List Int} {wi ni nu L : Nat} (P : LawP sg T dues last is W nms) (his : is = ns.map (plz sg.length)) (hs : Let sg)
    (hW : mem[wi]? = some (.list (W.map sd))) (hn : mem[ni]? = some (.list (nms.map .str))) (hnu : mem[nu]? = some (.list (ns.map .int)))
    {Q : AFlow → Loc → Mem → Prop} (q : ∀ l m, Q (.ret (.bool true)) l m) :
    WXs prog w s₀ (k + 5) (callEnvC (fdAt (KK w) 228) L 228) [("signs", .str (S sg)), ("text", .str (S T)), ("words", .ref wi), ("names", .ref ni), ("numbers", .ref nu)] ((bodyAt (KK w) 228).drop 8) mem Q := by
  have hk := P.hk
  have hk3 : sg.length ≤ 3 := by omega
  have hsgz : (S sg).length ≤ sizeLine := by rw [S_len, sizeLine_eq]; omega
  refine wxs_cons ?_
  repeat walk_at "m"
  refine we_comp ⟨rfl, of_decide_eq_true rfl, rfl⟩ ?_ (by intro _; rfl)
  walk_at "m"
  refine ⟨_, _, _, .str _ (S_ascii hs.low), cb0 (duF W) ?_ ?_, ?_⟩
  · rw [signs_S, List.length_map, sizeLine_eq]; omega
  · intro C dd o hdd
    rw [signs_S] at hdd
    obtain ⟨c, hc, rfl⟩ := List.mem_map.mp hdd
    refine ⟨.inr ⟨rfl, _, rfl, Nat.le_succ _⟩, rfl, ?_⟩
    refine WE.drop ?_
    repeat walk_at "m"
    refine we_comp ⟨rfl, of_decide_eq_true rfl, rfl⟩ ?_ (by intro _; rfl)
    walk_at "m"
    refine ⟨_, _, _, .list wi _ (get_app hW _), cb1 (wdP c) wdF ?_ ?_, ?_⟩
    · rw [List.length_map, sizeLine_eq]; have := P.hWl; omega
    · intro C2 d2 o2 hd2
      obtain ⟨v, hv, rfl⟩ := List.mem_map.mp hd2
      have hvl := P.hWw v hv
      refine ⟨.inl rfl, rfl, ?_⟩
      refine wt_cmp ?_ rfl
      refine we_sliceS ?_
      walk_at "m"
      refine ⟨_, rfl, by rw [S_len, sizeLine_eq]; omega, ?_⟩
      show WE _ _ _ _ _ _ _ _ _
      repeat walk_at "m"
      refine ⟨_, rfl, ?_⟩
      show WE _ _ _ _ _ _ _ _ _
      rw [slice_last]
      repeat walk_at "m"
      refine ⟨_, .eqS _ _, rfl, ?_, fun _ => ?_⟩
      · rw [S_beq, ← eqF_eq]
        show _ = eqF ((S v).cps.toList.drop ((S v).cps.toList.length - 1)) [c]
        rw [S_cps]
      · repeat walk_at "m"
        refine cw_lenS (by first | exact hsgz | exact szS (by omega)) ?_
        refine ⟨_, .powI _ _ (by omega) ?_, rfl, ?_⟩
        · rw [S_len]
          have : Builtin.Int.intBits 100 = 7 := by decide
          rw [this]; omega
        · show AV.dat (.int ((100 : Int) ^ (((S v).length : Nat) : Int).toNat)) = AV.dat (.int ((100 ^ (S v).cps.toList.length : Nat) : Int))
          rw [Int.toNat_natCast, S_len, S_cps, Int.natCast_pow]; rfl
    rw [flatMap_if, wd_map]
    repeat walk_at "m"
    refine cw_sum (ns := (W.filter fun w => eqF (w.drop (w.length - 1)) [c]).map fun w => ((100 ^ w.length : Nat) : Int)) (by first | exact List.getElem?_concat_length | simp) ?_
    rw [due_ints]
    refine dropped_dat ⟨rfl, ?_⟩
    show _ = AV.dat (.int ((dueI W ((S [c]).cps.toList.headD 0) : Nat) : Int))
    rw [S_cps]; rfl
  have hdu : (signs (S sg)).flatMap (fun d => [duF W d]) = dues.map fun n => .int (n : Nat) := by
    rw [flatMap_one, signs_S, P.hdu, duesI, List.map_map, List.map_map]
    refine List.map_congr_left fun c _ => ?_
    show PyData.int ((dueI W ((S [c]).cps.toList.headD 0) : Nat) : Int) = _
    rw [S_cps]; rfl
  rw [hdu]
  show WXs _ _ _ _ _ _ _ _ _
  refine WXs.sub ?_ (law_d G P his (di := mem.length) (by first | exact List.getElem?_concat_length | simp) (get_app hW _) (get_app hn _) (get_app hnu _) q)
  exact .cons rfl (.cons rfl (.cons rfl (.cons rfl (.cons rfl (.cons rfl (.nil _))))))
end
end
-- J18
section
section
variable {prog : Program} {w : World} {s₀ : Shared} {k : Nat} {mem : Mem}
theorem pyl_small {z : Int} {n : Nat} (h : n = 2 ∨ n = 3) : Builtin.divisionGoesByPylong z ((n : Nat) : Int) = false := by
  rcases h with h | h <;> rw [h] <;> rfl
set_option maxHeartbeats 4000000 in
theorem law_b (G : Gr w s₀ (KK w)) {T sg dues last is : List Nat} {W : List (List Nat)} {nms : List Str} {ns : List Int} {nu L : Nat} (P : LawP sg T dues last is W nms) (his : is = ns.map (plz sg.length)) (hnms : nms = ns.map fun z => nm (plz sg.length z) (gz sg.length z))
    (hs : Let sg) (hC : chkC T sg W = true) (hnu : mem[nu]? = some (.list (ns.map .int)))
    {Q : AFlow → Loc → Mem → Prop} (q : ∀ l m, Q (.ret (.bool true)) l m) :
    WXs prog w s₀ (k + 5) (callEnvC (fdAt (KK w) 228) L 228) [("signs", .str (S sg)), ("numbers", .ref nu)] ((bodyAt (KK w) 228).drop 4) mem Q := by
  have hk := P.hk
  have hk3 : sg.length ≤ 3 := by omega
  have hsgz : (S sg).length ≤ sizeLine := by rw [S_len, sizeLine_eq]; omega
  have hk0 : 0 < sg.length := by omega
  have hT6 := P.hT
  have hnsl : ns.length = T.length := by rw [P.hTi, textI, his, List.length_map, List.length_map]
  have hTlet : Let T := by
    rw [P.hTi, textI]
    intro c hc
    obtain ⟨i, hi, rfl⟩ := List.mem_map.mp hc
    rw [his] at hi
    obtain ⟨z, _, rfl⟩ := List.mem_map.mp hi
    have := plz_lt hk0 z
    rw [List.getD, List.getElem?_eq_getElem this]
    exact hs _ (List.getElem_mem _)
  -- text
  refine wxs_cons ?_
  repeat walk_at "m"
  refine ⟨_, _, mt_join, .str _, ?_⟩
  refine wa_cons ?_ (by rfl)
  refine we_comp ⟨rfl, of_decide_eq_true rfl, rfl⟩ ?_ (by intro _; rfl)
  walk_at "m"
  refine ⟨_, _, _, .list nu _ hnu, cb0 (txF sg) ?_ ?_, ?_⟩
  · rw [List.length_map, sizeLine_eq]; omega
  · intro C dd o hdd
    obtain ⟨z, hz, rfl⟩ := List.mem_map.mp hdd
    have hp := plz_lt hk0 z
    refine ⟨.inl rfl, rfl, ?_⟩
    repeat walk_at "m"
    refine cw_lenS (by first | exact hsgz | exact szS (by omega)) ?_
    rw [S_len]
    refine ⟨_, .modI _ _ (by omega), ?_⟩
    rw [plz_int hk0]
    refine ⟨_, .strI _ _ (fits_nat (by omega)) (charAt_S hp), ?_⟩
    refine ⟨rfl, ?_⟩
    rw [item_S (c := sg.getD (plz sg.length z) 0) (by rw [List.getD, List.getElem?_eq_getElem hp]; rfl)]
    rfl
  have htx : (ns.map PyData.int).flatMap (fun d => [txF sg d]) = (is.map fun i => S [sg.getD i 0]).map .str := by
    rw [flatMap_one, his, List.map_map, List.map_map, List.map_map]; rfl
  rw [htx]
  repeat walk_at "m"
  refine cw_join (xs := is.map fun i => S [sg.getD i 0]) (by first | exact List.getElem?_concat_length | simp) (joinOk_of ?_) ?_
  · have h1 : ((is.map fun i => S [sg.getD i 0]).map (·.length)).sum ≤ 6 := by
      rw [List.map_map]
      have : ((Str.length ∘ fun i => S [sg.getD i 0]) : Nat → Nat) = fun _ => 1 := by funext c; exact S_len [_]
      rw [this, sum_ones, his, List.length_map]; omega
    have h2 : ("" : Str).length = 0 := by rw [nil_S, S_len]; rfl
    have h3 : is.length ≤ 6 := by rw [his, List.length_map]; omega
    rw [List.length_map, h2]; omega
  rw [text_join, ← P.hTi]
  show WXs _ _ _ _ _ _ _ _ _
  -- names
  refine wxs_cons ?_
  repeat walk_at "m"
  refine we_comp ⟨rfl, of_decide_eq_true rfl, rfl⟩ ?_ (by intro _; rfl)
  walk_at "m"
  refine ⟨_, _, _, .list nu _ (get_app hnu _), cb0 (nsF sg.length) ?_ ?_, ?_⟩
  · rw [List.length_map, sizeLine_eq]; omega
  · intro C dd o hdd
    obtain ⟨z, hz, rfl⟩ := List.mem_map.mp hdd
    have hp := plz_lt hk0 z
    refine ⟨.inl rfl, rfl, ?_⟩
    repeat walk_at "m"
    refine cw_lenS (by first | exact hsgz | exact szS (by omega)) ?_
    rw [S_len]
    refine ⟨_, .modI _ _ (by omega), ?_⟩
    rw [plz_int hk0]
    repeat walk_at "m"
    refine cw_lenS (by first | exact hsgz | exact szS (by omega)) ?_
    rw [S_len]
    refine ⟨_, .divI _ _ (by omega) (pyl_small hk), ?_⟩
    repeat walk_at "m"
    refine ⟨_, .modI _ _ (by decide), ?_⟩
    repeat walk_at "m"
    refine ⟨_, .eqI _ _, ?_⟩
    repeat walk_at "m"
    exact cw_name G (by omega) ⟨rfl, rfl⟩
  have hnn : (ns.map PyData.int).flatMap (fun d => [nsF sg.length d]) = nms.map .str := by
    rw [flatMap_one, hnms, List.map_map, List.map_map]; rfl
  rw [hnn]
  show WXs _ _ _ _ _ _ _ _ _
  -- words
  refine wxs_cons ?_
  repeat walk_at "m"
  refine cw_words G hT6 hk3 hs.low ?_
  rw [words_I hs, ← P.hW]
  show WXs _ _ _ _ _ _ _ _ _
  -- if
  refine wxs_cons ?_
  repeat walk_at "m"
  refine cw_ends (W := W) G P.hT0 hT6 hs.low (by first | exact List.getElem?_concat_length | simp) ?_ (rowsP_len hT6 hk3) (rowsP_ok hTlet P.hT0 hT6 hs hC) ?_
  · intro v hv
    rw [P.hW] at hv
    exact (wordsI_let hs v hv).low
  refine ⟨_, .bool _, ?_⟩
  rw [if_neg (by decide)]
  refine wxs_nil ?_
  show WXs _ _ _ _ _ _ _ _ _
  refine WXs.sub ?_ (law_c G P his hs List.getElem?_concat_length (get_app (List.getElem?_concat_length) _) (get_app (get_app (get_app hnu _) _) _) q)
  exact .cons rfl (.cons rfl (.cons rfl (.cons rfl (.cons rfl (.nil _)))))
end
end
-- E7
section
theorem eqI_eq : ∀ x y : List IE, eqI x y = true → x = y
  | [], [], _ => rfl
  | [], _ :: _, h => by cases h
  | _ :: _, [], h => by cases h
  | (a1, a2, a3) :: x, (b1, b2, b3) :: y, h => by
    rw [eqI] at h
    split at h
    · rename_i hc
      simp only [Bool.and_eq_true] at hc
      rw [eqI_eq x y h, Nat.eq_of_beq_eq_true hc.1.1, Nat.eq_of_beq_eq_true hc.1.2, Nat.eq_of_beq_eq_true hc.2]
    · cases h
theorem eqF_of {x y : List Nat} (h : eqF x y = true) : x = y := by
  rw [eqF_eq] at h
  exact eq_of_beq h
section
variable (nmj : Nat → Str)
noncomputable def entI (e : IE) : Ent := (nmj e.1, e.2.2)
noncomputable def OkI (l : List IE) : Prop := ∀ e ∈ l, Txt.lower (nmj e.1) = xs e.2.1 ∧ e.2.1 < 3
variable {nmj}
theorem setN_I {l : List IE} {j p v : Nat} (hl : OkI nmj l) (hj : Txt.lower (nmj j) = xs p) (hp : p < 3) : setN (l.map (entI nmj)) (nmj j) v = (putI l j p v).map (entI nmj) := by
  unfold setN putI offI
  rw [List.map_append, List.filter_map]
  congr 1
  congr 1
  refine List.filter_congr fun e he => ?_
  obtain ⟨h1, h2⟩ := hl e he
  show (Txt.lower (nmj e.1) != Txt.lower (nmj j)) = !Nat.beq e.2.1 p
  rw [h1, hj, xs_bne h2 hp, natbne]
theorem okI_put {l : List IE} {j p v : Nat} (hl : OkI nmj l) (hj : Txt.lower (nmj j) = xs p) (hp : p < 3) : OkI nmj (putI l j p v) := by
  intro e he
  rcases List.mem_append.mp he with he | he
  · exact hl e (List.mem_filter.mp he).1
  · simp at he; subst he; exact ⟨hj, hp⟩
theorem tot_I (l : List IE) : tot (l.map (entI nmj)) = totI l := by
  unfold tot totI
  rw [List.map_map]; rfl
theorem least_I (l : List IE) (k : Nat) : leastP (l.map (entI nmj)) k = leastI l k := by
  unfold leastP leastI
  rw [List.length_map, List.map_map]
  by_cases h : l.length < k
  · rw [if_pos h, if_pos (by simp [Nat.blt]; omega)]
  · rw [if_neg h, if_neg (by simp [Nat.blt]; omega)]; rfl
theorem read_I (k : Nat) : ∀ (js : List (Nat × Nat)) (A B : List IE), (∀ x ∈ js, Txt.lower (nmj x.1) = xs x.2 ∧ x.2 < 3) → OkI nmj A → OkI nmj B →
    readP k (js.map fun x => nmj x.1) (A.map (entI nmj)) (B.map (entI nmj)) = ((readI k js A B).1.map (entI nmj), (readI k js A B).2.map (entI nmj)) ∧ OkI nmj (readI k js A B).1
  | [], _, _, _, hA, _ => ⟨rfl, hA⟩
  | (j, p) :: js, A, B, h, hA, hB => by
    obtain ⟨hj, hp⟩ := h (j, p) (.head _)
    rw [List.map_cons, readP, readI, tot_I, least_I, setN_I hA hj hp, setN_I hB hj hp]
    exact read_I k js _ _ (fun x hx => h x (.tail _ hx)) (okI_put hA hj hp) (okI_put hB hj hp)
theorem dec0 : dec 0 = "0" := by decide +kernel
theorem get_I {p : Nat} (hp : p < 3) : ∀ {l : List IE}, OkI nmj l → getT (xs p) "0" ((l.map (entI nmj)).map tabD) = dec (getI p l : Nat)
  | [], _ => dec0.symm
  | e :: l, h => by
    obtain ⟨h1, h2⟩ := h e (.head _)
    have ih := get_I hp (l := l) fun x hx => h x (.tail _ hx)
    show (if Txt.lower (nmj e.1) == xs p then dec (e.2.2 : Nat) else getT (xs p) "0" ((l.map (entI nmj)).map tabD)) = dec ((if Nat.beq e.2.1 p then e.2.2 else getI p l : Nat) : Int)
    rw [h1, xs_beq h2 hp, ih]
    cases hb : Nat.beq e.2.1 p with
    | true =>
      rw [Nat.eq_of_beq_eq_true hb]; simp
    | false =>
      have : e.2.1 ≠ p := fun x => by rw [x, Nat.beq_refl] at hb; cases hb
      simp [this]
end
theorem law_facts {sg is : List Nat} {nms : List Str} (hk : sg.length = 2 ∨ sg.length = 3) (h1 : 1 ≤ is.length) (h6 : is.length ≤ 6) (hlt : ∀ i ∈ is, i < sg.length) (hnl : nms.length = is.length)
    (hnm : ∀ j < is.length, ∃ g, nms.getD j "" = nm (is.getD j 0) g) (hc : chk sg is = true) :
    LawP sg (textI sg is) (duesI sg (wordsI (textI sg is) sg)) (lastI (textI sg is)) is (wordsI (textI sg is) sg) nms ∧ chkC (textI sg is) sg (wordsI (textI sg is) sg) = true := by
  have hTl : (textI sg is).length = is.length := by unfold textI; rw [List.length_map]
  unfold chk at hc
  generalize hT : textI sg is = T at hc hTl ⊢
  generalize hW : wordsI T sg = W at hc ⊢
  unfold chk2 at hc
  simp only [Bool.and_eq_true] at hc
  obtain ⟨⟨⟨⟨c1, c2⟩, c3⟩, c4⟩, c5⟩ := hc
  generalize hD : duesI sg W = ds at c4 c5 ⊢
  generalize hL : lastI T = last at c4 ⊢
  have hk3 : sg.length ≤ 3 := by omega
  have hat : ∀ j < is.length, is.getD j 0 < sg.length := by
    intro j hj
    rw [List.getD, List.getElem?_eq_getElem hj]
    exact hlt _ (List.getElem_mem _)
  have hjs : ∀ x ∈ jsI is, Txt.lower (nms.getD x.1 "") = xs x.2 ∧ x.2 < 3 := by
    intro x hx
    obtain ⟨j, hj, rfl⟩ := List.mem_map.mp hx
    rw [List.mem_range] at hj
    obtain ⟨g, hg⟩ := hnm j hj
    have := hat j hj
    show Txt.lower (nms.getD j "") = xs (is.getD j 0) ∧ is.getD j 0 < 3
    rw [hg]
    exact ⟨nm_low _ (by omega) g, by omega⟩
  have hmap : (jsI is).map (fun x => nms.getD x.1 "") = nms := by
    unfold jsI
    rw [List.map_map]
    refine List.ext_getElem (by simp [hnl]) fun i h h' => ?_
    simp [List.getElem?_eq_getElem h']
  obtain ⟨hread, hokA⟩ := read_I (nmj := fun j => nms.getD j "") sg.length (jsI is) [] [] hjs (fun _ h => nomatch h) (fun _ h => nomatch h)
  rw [hmap] at hread
  have hread : readP sg.length nms [] [] = _ := hread
  generalize hAB : readI sg.length (jsI is) [] [] = AB at c4 hread hokA
  unfold chkR at c4
  simp only [Bool.and_eq_true] at c4
  obtain ⟨⟨⟨⟨d1, d2⟩, d3⟩, d4⟩, d5⟩ := c4
  have d1 := eqI_eq _ _ d1
  have d3 := eqF_of d3
  unfold chkB at c5
  simp only [Bool.and_eq_true] at c5
  obtain ⟨e1, e2⟩ := c5
  have hns : ∀ x ∈ nms, Safe x ∧ Safe (Txt.lower x) := by
    intro x hx
    obtain ⟨j, hj, rfl⟩ := List.getElem_of_mem hx
    obtain ⟨g, hg⟩ := hnm j (by omega)
    rw [List.getD, List.getElem?_eq_getElem hj] at hg
    have hg : nms[j] = _ := hg
    rw [hg]
    exact nm_safe _ (by have := hat j (by omega); omega) g
  refine ⟨⟨hk, by omega, by omega, hT.symm, hW.symm, by simpa using c1, fun w hw => by simpa using List.all_eq_true.mp c2 w hw, hD.symm, fun n hn => ?_, ?_, hL.symm, hns, by omega, ?_, ?_, ?_, ?_, ?_⟩, c3⟩
  · have := List.all_eq_true.mp e1 n hn
    simp [Nat.blt] at this
    omega
  · cases hb : backA sg 8 (pairsI ds) [] with
    | none => rw [hb] at e2; cases e2
    | some r =>
      rw [hb] at e2
      rw [eqF_of e2]
  · rw [hread, d1, List.map_map]; rfl
  · intro p hp
    rw [hread]
    have := get_I (nmj := fun j => nms.getD j "") (show p < 3 by omega) hokA
    refine this.trans ?_
    have hp2 := List.all_eq_true.mp d2 p (List.mem_range.mpr hp)
    rw [Nat.eq_of_beq_eq_true hp2]
  · rw [hread, ← d3, List.map_map, List.map_map]; rfl
  · cases hl : lackI sg.length T.length W with
    | nil => rw [hl] at d5; cases d5
    | cons a r =>
      rw [hl] at d5
      refine ⟨r, ?_⟩
      rw [hread, least_I, Nat.eq_of_beq_eq_true d5]
  · rw [hread]
    intro e he
    obtain ⟨x, hx, rfl⟩ := List.mem_map.mp he
    have := List.all_eq_true.mp d4 x hx
    show x.2.2 < 10 ^ 30
    simp [Nat.blt] at this
    omega
end
-- J19
section
section
variable {prog : Program} {w : World} {s₀ : Shared} {k : Nat} {env : Env} {loc : Loc} {mem : Mem}
theorem we_sliceC {value : Expr} {hi : Option Expr} {p pos : Pos} {l : Addr} {vs : Array Value} {ds : List PyData} {as : List Addr} (hl0 : s₀.heap.IsList l vs) (hr0 : ReadsAll s₀.heap vs.toList ds as) (hf : flats ds = true) (hlen : ds.length ≤ sizeLine) {Q : AV → Mem → Prop}
    (h : WE prog w s₀ k env loc value mem fun o m1 => o = .cst (.ref l) ∧ WO prog w s₀ k env loc hi m1 fun u m2 => (∀ n, u = some n → 0 ≤ n) ∧ Q (.ref m2.length) (m2 ++ [.list (cutTo u ds)])) :
    WE prog w s₀ k env loc (.Subscript value (.Slice none hi none p) pos) mem Q := by
  intro A s ρ hA R
  refine Subscript_ (wpAny_mono (h A s ρ hA R) ?_ fun _ _ x => x)
  rintro a' s1 ⟨a, m1, ρ1, ⟨rfl, q⟩, ra, R1, x1⟩
  obtain rfl : a' = .ref l := ra
  refine wpAny_Slice ?_
  rw [evalPart_none]
  refine wpAny_pure (wpAny_mono (WO.go q hA R1) ?_ fun _ _ x => x)
  rintro u' s3 ⟨u, m3, ρ3, ⟨hu, q3⟩, rfl, R3, x3⟩
  refine wpAny_pure ?_
  have hsz : vs.size = ds.length := by have := SeqAt.ReadsAll.length _ _ _ hr0; simpa using this
  have rl : ReadsAll s3.heap vs.toList ds as := readsAll_move (fun b o e _ => R3.keep0 b o e) _ _ _ hf hr0
  have hlist : s3.heap.IsList l vs := by
    obtain ⟨o, e, r⟩ := hl0
    exact ⟨o, R3.keep0 _ _ e, r⟩
  have R4 : Rep s₀ env ρ3 loc m3 { s3 with heap := s3.heap.push { cls := .type "slice", data := .fields #[.none, partValue u, .none] } } := R3.keeps (t := s3.toks) fun b o e => Heap.get?_push_of_some _ e
  have x4 : Ext [] ρ3 s3 ρ3 { s3 with heap := s3.heap.push { cls := .type "slice", data := .fields #[.none, partValue u, .none] } } := Ext.ofKeeps (t := s3.toks) fun b o e => Heap.get?_push_of_some _ e
  have hpart : IsPart (partValue u) (u.map (·.1)) := by
    cases u with
    | none => exact .none
    | some u => exact .int _ _
  have hpick : ∃ bs, flats (cutTo (u.map (·.1)) ds) = true ∧ ReadsAll s3.heap (slicePick vs none (u.map (·.1)) none).toList (cutTo (u.map (·.1)) ds) bs := by
    cases u with
    | none => rw [show Option.map (·.1) (none : Option (Int × Tok)) = none from rfl, slicePick_all]; exact ⟨_, hf, rl⟩
    | some u =>
      obtain ⟨z, t⟩ := u
      have hz := hu z rfl
      show ∃ bs, flats (ds.take z.toNat) = true ∧ ReadsAll s3.heap (slicePick vs none (some z) none).toList (ds.take z.toNat) bs
      obtain ⟨z', rfl⟩ := Int.eq_ofNat_of_zero_le hz
      rw [slicePick_upto']
      obtain ⟨bs, r⟩ := readsAll_take z' rl
      exact ⟨bs, flats_take _ _ hf, by simpa using r⟩
  obtain ⟨bs, hff, hr⟩ := hpick
  refine tail_any (Heap.IsList.typeIs (s := { s3 with heap := s3.heap.push { cls := .type "slice", data := .fields #[.none, partValue u, .none] } }) (hlist.push _)) slot_list_getitem.lookup
    (wpAny_getItem_list_slice (hlist.push _) (Heap.IsSliceOf.new ..) .none hpart .none (by first | exact List.getElem?_concat_length | simp) ?_ (by rw [hsz]; exact hlen)) rfl
  have hr' := readsAll_move x4.tup _ _ _ hff hr
  have R5 := R4.push (t := s3.toks) (o := .list (cutTo (u.map (·.1)) ds)) (ob := { cls := .type "list", data := .seq (slicePick vs none (u.map (·.1)) none) }) rfl (by
    have := repO_newList (ρ := ρ3) hff hr'
    simpa [listObj] using this)
  refine ⟨.ref m3.length, _, _, q3, ⟨_, ?_, rfl⟩, R5, ((x1.trans x3).trans x4).trans (Ext.push (t := s3.toks))⟩
  rw [← R4.len]; simp
end
theorem flats_ints : ∀ l : List Int, flats (l.map .int) = true
  | [] => rfl
  | x :: l => by rw [List.map_cons, flats, flats_ints l]; rfl
theorem lay_ints (l : List Int) : PyData.canLayAll0 (l.map .int) = true := canLay_map _ fun _ _ => rfl
theorem depth_ints (l : List Int) : PyData.depthAll (l.map .int) ≤ 60 := depth_map _ _ fun _ _ => by simp [PyData.depth]
noncomputable def sg3 : List Nat := [97, 65, 10]
noncomputable def sg2 : List Nat := [97, 10]
theorem sg3_S : ("aA\n" : Str) = S sg3 := by decide +kernel
theorem sg2_S : ("a\n" : Str) = S sg2 := by decide +kernel
noncomputable def Pick (sg : List Nat) (n : Nat) : Prop := (sg = sg3 ∧ n = 5) ∨ (sg = sg2 ∧ n = 6)
noncomputable def Checked : Prop := ∀ sg n, Pick sg n → ∀ is : List Nat, 1 ≤ is.length → is.length ≤ n → (∀ i ∈ is, i < sg.length) → chk sg is = true
section
variable {prog : Program} {w : World} {s₀ : Shared} {k : Nat} {mem : Mem}
theorem pick_k {sg : List Nat} {n : Nat} (hp : Pick sg n) : sg.length = 2 ∨ sg.length = 3 := by
  rcases hp with ⟨rfl, _⟩ | ⟨rfl, _⟩
  · exact .inr rfl
  · exact .inl rfl
theorem pick_let {sg : List Nat} {n : Nat} (hp : Pick sg n) : Let sg := by
  rcases hp with ⟨rfl, _⟩ | ⟨rfl, _⟩ <;> (intro c hc; simp [sg3, sg2] at hc; omega)
theorem pick_P (hchk : Checked) {sg : List Nat} {n : Nat} (hp : Pick sg n) {ns : List Int} {is : List Nat} {nms : List Str} (h1 : 1 ≤ ns.length) (hn : ns.length ≤ n) (his : is = ns.map (plz sg.length)) (hnms : nms = ns.map fun z => nm (plz sg.length z) (gz sg.length z)) :
    ∃ T dues last W, LawP sg T dues last is W nms ∧ chkC T sg W = true := by
  have hk := pick_k hp
  have hn6 : n ≤ 6 := by rcases hp with ⟨_, rfl⟩ | ⟨_, rfl⟩ <;> omega
  have hl : is.length = ns.length := by rw [his, List.length_map]
  have hlt : ∀ i ∈ is, i < sg.length := by
    rw [his]
    intro i hi
    obtain ⟨z, _, rfl⟩ := List.mem_map.mp hi
    exact plz_lt (by omega) z
  have hc : chk sg is = true := hchk sg n hp is (by omega) (by omega) hlt
  have hnl : nms.length = is.length := by rw [hnms, hl, List.length_map]
  have hg : ∀ j < is.length, ∃ g, nms.getD j "" = nm (is.getD j 0) g := by
    intro j hj
    have hj' : j < ns.length := by omega
    refine ⟨gz sg.length ns[j], ?_⟩
    rw [hnms, his, List.getD, List.getD, List.getElem?_map, List.getElem?_map, List.getElem?_eq_getElem hj']; rfl
  exact ⟨_, _, _, _, law_facts hk (by omega) (by omega) hlt hnl hg hc⟩
set_option maxHeartbeats 4000000 in
theorem law_a4 (G : Gr w s₀ (KK w)) (hchk : Checked) {sg : List Nat} {n : Nat} (hp : Pick sg n) {ns : List Int} {nu L : Nat} (h1 : 1 ≤ ns.length) (hn : ns.length ≤ n) (hnu : mem[nu]? = some (.list (ns.map .int)))
    {Q : AFlow → Loc → Mem → Prop} (q : ∀ l m, Q (.ret (.bool true)) l m) :
    WXs prog w s₀ (k + 5) (callEnvC (fdAt (KK w) 228) L 228) [("signs", .str (S sg)), ("numbers", .ref nu)] ((bodyAt (KK w) 228).drop 4) mem Q := by
  obtain ⟨T, dues, last, W, P, hC⟩ := pick_P hchk hp h1 hn rfl rfl
  exact @law_b prog w s₀ k mem G T sg dues last _ W _ ns nu L P rfl rfl (pick_let hp) hC hnu Q q
set_option maxHeartbeats 4000000 in
theorem law_a3 (G : Gr w s₀ (KK w)) (hchk : Checked) {sg : List Nat} {n : Nat} (hp : Pick sg n) {ns : List Int} {nu L : Nat} (hn : ns.length ≤ n) (hnu : mem[nu]? = some (.list (ns.map .int)))
    {Q : AFlow → Loc → Mem → Prop} (q : ∀ l m, Q (.ret (.bool true)) l m) :
    WXs prog w s₀ (k + 5) (callEnvC (fdAt (KK w) 228) L 228) [("signs", .str (S sg)), ("numbers", .ref nu)] ((bodyAt (KK w) 228).drop 3) mem Q := by
  have hnl := (List.getElem?_eq_some_iff.mp hnu).1
  refine wxs_cons ?_
  repeat walk_at "m"
  refine ⟨[], rfl, szl (Nat.le_of_ble_eq_true rfl), ?_⟩
  refine ⟨_, .eqL _ _ (ns.map .int) [] (get_app hnu _) (by first | exact List.getElem?_concat_length | simp) (depth_ints _) (lay_ints _) rfl, ?_⟩
  rw [eqv_nil]
  cases ns with
  | nil =>
    rw [show (List.map PyData.int ([] : List Int)).isEmpty = true from rfl, if_pos rfl]
    repeat walk_at "m"
    refine ⟨[.int 0, .int 4, .int 2, .int 3], rfl, szl (Nat.le_of_ble_eq_true rfl), ?_⟩
    refine wxs_nil ?_
    show WXs _ _ _ _ _ _ _ _ _
    exact @law_a4 prog w s₀ k _ G hchk sg n hp [0, 4, 2, 3] _ L (by decide) (by rcases hp with ⟨_, rfl⟩ | ⟨_, rfl⟩ <;> decide) (by first | exact List.getElem?_concat_length | simp) Q q
  | cons z ns =>
    rw [if_neg (by first | exact List.getElem?_concat_length | simp)]
    refine wxs_nil ?_
    show WXs _ _ _ _ _ _ _ _ _
    exact @law_a4 prog w s₀ k _ G hchk sg n hp (z :: ns) nu L (by first | exact List.getElem?_concat_length | simp) hn (get_app hnu _) Q q
set_option maxHeartbeats 4000000 in
theorem law_a (G : Gr w s₀ (KK w)) (hchk : Checked) {L : Nat} {l : Addr} {vs : Array Value} {zs : List Int} {as : List Addr} (hl0 : s₀.heap.IsList l vs) (hr0 : ReadsAll s₀.heap vs.toList (zs.map .int) as) (hzl : zs.length ≤ 63)
    {Q : AFlow → Loc → Mem → Prop} (q : ∀ l m, Q (.ret (.bool true)) l m) :
    WXs prog w s₀ (k + 5) (callEnvC (fdAt (KK w) 228) L 228) [("script", .cst (.ref l))] (bodyAt (KK w) 228) mem Q := by
  have hlen : (zs.map PyData.int).length ≤ sizeLine := szm (by omega)
  have hcut : ∀ n : Nat, cutTo (some (n : Int)) (zs.map PyData.int) = (zs.take n).map .int := fun n => by
    show (zs.map PyData.int).take ((n : Int)).toNat = _
    rw [Int.toNat_natCast, List.map_take]
  refine wxs_cons ?_
  repeat walk_at "m"
  refine we_sliceC hl0 hr0 (flats_ints _) hlen ?_
  walk_at "m"
  refine ⟨rfl, ?_⟩
  show WE _ _ _ _ _ _ _ _ _
  walk_at "m"
  refine ⟨_, rfl, fun n h => by injection h with h; subst h; decide, ?_⟩
  have h5 := hcut 5
  have h6 := hcut 6
  rw [show ((5 : Nat) : Int) = 5 from rfl] at h5
  rw [show ((6 : Nat) : Int) = 6 from rfl] at h6
  rw [h5]
  show WXs _ _ _ _ _ _ _ _ _
  refine wxs_cons ?_
  repeat walk_at "m"
  refine we_sliceC hl0 hr0 (flats_ints _) hlen ?_
  walk_at "m"
  refine ⟨rfl, ?_⟩
  show WE _ _ _ _ _ _ _ _ _
  walk_at "m"
  refine ⟨_, rfl, fun n h => by injection h with h; subst h; decide, ?_⟩
  rw [h6]
  repeat walk_at "m"
  refine cw_sum (ns := zs.take 6) (by first | exact List.getElem?_concat_length | simp) ?_
  repeat walk_at "m"
  refine ⟨_, .modI _ _ (by decide), ?_⟩
  repeat walk_at "m"
  refine ⟨_, .eqI _ _, ?_⟩
  split
  · repeat walk_at "m"
    refine we_sliceC hl0 hr0 (flats_ints _) hlen ?_
    walk_at "m"
    refine ⟨rfl, ?_⟩
    show WE _ _ _ _ _ _ _ _ _
    walk_at "m"
    refine ⟨_, rfl, fun n h => by injection h with h; subst h; decide, ?_⟩
    rw [h6, sg2_S]
    refine wxs_nil ?_
    show WXs _ _ _ _ _ _ _ _ _
    refine WXs.sub ?_ (law_a3 G hchk (.inr ⟨rfl, rfl⟩) (ns := zs.take 6) (by simp; omega) List.getElem?_concat_length q)
    exact .cons rfl (.cons rfl (.nil _))
  · rw [sg3_S]
    refine wxs_nil ?_
    show WXs _ _ _ _ _ _ _ _ _
    refine WXs.sub ?_ (law_a3 G hchk (.inl ⟨rfl, rfl⟩) (ns := zs.take 5) (by simp; omega) (get_app List.getElem?_concat_length _) q)
    exact .cons rfl (.cons rfl (.nil _))
end
end
-- E8
section
noncomputable def allOf (k : Nat) : Nat → (List Nat → Bool) → Bool
  | 0, P => P []
  | n + 1, P => (List.range k).all fun i => allOf k n fun r => P (i :: r)
theorem allOf_spec (k : Nat) : ∀ (n : Nat) (P : List Nat → Bool), allOf k n P = true → ∀ l : List Nat, l.length = n → (∀ i ∈ l, i < k) → P l = true
  | 0, P, h, l, hl, _ => by
    rw [List.length_eq_zero_iff.mp hl]; exact h
  | n + 1, P, h, [], hl, _ => by cases hl
  | n + 1, P, h, i :: r, hl, hb => by
    have hi := List.all_eq_true.mp h i (List.mem_range.mpr (hb i (.head _)))
    exact allOf_spec k n (fun r => P (i :: r)) hi r (by simpa using hl) fun x hx => hb x (.tail _ hx)
end
-- E9
section
theorem allOf_cons {k n : Nat} {P : List Nat → Bool} (h : ∀ i, i < k → allOf k n (fun r => P (i :: r)) = true) : allOf k (n + 1) P = true := List.all_eq_true.mpr fun i hi => h i (List.mem_range.mp hi)
theorem lt3 {P : Nat → Prop} (a : P 0) (b : P 1) (c : P 2) : ∀ i, i < 3 → P i
  | 0, _ => a
  | 1, _ => b
  | 2, _ => c
theorem lt2 {P : Nat → Prop} (a : P 0) (b : P 1) : ∀ i, i < 2 → P i
  | 0, _ => a
  | 1, _ => b
theorem c3_1 : allOf 3 1 (fun r => chk [97, 65, 10] (r)) = true := by decide +kernel
theorem c3_2 : allOf 3 2 (fun r => chk [97, 65, 10] (r)) = true := by decide +kernel
theorem c3_3 : allOf 3 3 (fun r => chk [97, 65, 10] (r)) = true := by decide +kernel
theorem c3_4_0 : allOf 3 3 (fun r => chk [97, 65, 10] (0 :: r)) = true := by decide +kernel
theorem c3_4_1 : allOf 3 3 (fun r => chk [97, 65, 10] (1 :: r)) = true := by decide +kernel
theorem c3_4_2 : allOf 3 3 (fun r => chk [97, 65, 10] (2 :: r)) = true := by decide +kernel
theorem c3_4 : allOf 3 4 (fun r => chk [97, 65, 10] r) = true := (allOf_cons (lt3 c3_4_0 c3_4_1 c3_4_2))
theorem c3_5_00 : allOf 3 3 (fun r => chk [97, 65, 10] (0 :: 0 :: r)) = true := by decide +kernel
theorem c3_5_01 : allOf 3 3 (fun r => chk [97, 65, 10] (0 :: 1 :: r)) = true := by decide +kernel
theorem c3_5_02 : allOf 3 3 (fun r => chk [97, 65, 10] (0 :: 2 :: r)) = true := by decide +kernel
theorem c3_5_10 : allOf 3 3 (fun r => chk [97, 65, 10] (1 :: 0 :: r)) = true := by decide +kernel
theorem c3_5_11 : allOf 3 3 (fun r => chk [97, 65, 10] (1 :: 1 :: r)) = true := by decide +kernel
theorem c3_5_12 : allOf 3 3 (fun r => chk [97, 65, 10] (1 :: 2 :: r)) = true := by decide +kernel
theorem c3_5_20 : allOf 3 3 (fun r => chk [97, 65, 10] (2 :: 0 :: r)) = true := by decide +kernel
theorem c3_5_21 : allOf 3 3 (fun r => chk [97, 65, 10] (2 :: 1 :: r)) = true := by decide +kernel
theorem c3_5_22 : allOf 3 3 (fun r => chk [97, 65, 10] (2 :: 2 :: r)) = true := by decide +kernel
theorem c3_5 : allOf 3 5 (fun r => chk [97, 65, 10] r) = true := (allOf_cons (lt3 (allOf_cons (lt3 c3_5_00 c3_5_01 c3_5_02)) (allOf_cons (lt3 c3_5_10 c3_5_11 c3_5_12)) (allOf_cons (lt3 c3_5_20 c3_5_21 c3_5_22))))
theorem chk_all3 (is : List Nat) (h1 : 1 ≤ is.length) (h5 : is.length ≤ 5) (h : ∀ i ∈ is, i < 3) : chk [97, 65, 10] is = true := by
  have e : is.length = 1 ∨ is.length = 2 ∨ is.length = 3 ∨ is.length = 4 ∨ is.length = 5 := by omega
  rcases e with e | e | e | e | e
  · exact allOf_spec 3 1 _ c3_1 is e h
  · exact allOf_spec 3 2 _ c3_2 is e h
  · exact allOf_spec 3 3 _ c3_3 is e h
  · exact allOf_spec 3 4 _ c3_4 is e h
  · exact allOf_spec 3 5 _ c3_5 is e h
theorem c2_1 : allOf 2 1 (fun r => chk [97, 10] (r)) = true := by decide +kernel
theorem c2_2 : allOf 2 2 (fun r => chk [97, 10] (r)) = true := by decide +kernel
theorem c2_3 : allOf 2 3 (fun r => chk [97, 10] (r)) = true := by decide +kernel
theorem c2_4_0 : allOf 2 3 (fun r => chk [97, 10] (0 :: r)) = true := by decide +kernel
theorem c2_4_1 : allOf 2 3 (fun r => chk [97, 10] (1 :: r)) = true := by decide +kernel
theorem c2_4 : allOf 2 4 (fun r => chk [97, 10] r) = true := (allOf_cons (lt2 c2_4_0 c2_4_1))
theorem c2_5_00 : allOf 2 3 (fun r => chk [97, 10] (0 :: 0 :: r)) = true := by decide +kernel
theorem c2_5_01 : allOf 2 3 (fun r => chk [97, 10] (0 :: 1 :: r)) = true := by decide +kernel
theorem c2_5_10 : allOf 2 3 (fun r => chk [97, 10] (1 :: 0 :: r)) = true := by decide +kernel
theorem c2_5_11 : allOf 2 3 (fun r => chk [97, 10] (1 :: 1 :: r)) = true := by decide +kernel
theorem c2_5 : allOf 2 5 (fun r => chk [97, 10] r) = true := (allOf_cons (lt2 (allOf_cons (lt2 c2_5_00 c2_5_01)) (allOf_cons (lt2 c2_5_10 c2_5_11))))
theorem c2_6_000 : allOf 2 3 (fun r => chk [97, 10] (0 :: 0 :: 0 :: r)) = true := by decide +kernel
theorem c2_6_001 : allOf 2 3 (fun r => chk [97, 10] (0 :: 0 :: 1 :: r)) = true := by decide +kernel
theorem c2_6_010 : allOf 2 3 (fun r => chk [97, 10] (0 :: 1 :: 0 :: r)) = true := by decide +kernel
theorem c2_6_011 : allOf 2 3 (fun r => chk [97, 10] (0 :: 1 :: 1 :: r)) = true := by decide +kernel
theorem c2_6_100 : allOf 2 3 (fun r => chk [97, 10] (1 :: 0 :: 0 :: r)) = true := by decide +kernel
theorem c2_6_101 : allOf 2 3 (fun r => chk [97, 10] (1 :: 0 :: 1 :: r)) = true := by decide +kernel
theorem c2_6_110 : allOf 2 3 (fun r => chk [97, 10] (1 :: 1 :: 0 :: r)) = true := by decide +kernel
theorem c2_6_111 : allOf 2 3 (fun r => chk [97, 10] (1 :: 1 :: 1 :: r)) = true := by decide +kernel
theorem c2_6 : allOf 2 6 (fun r => chk [97, 10] r) = true := (allOf_cons (lt2 (allOf_cons (lt2 (allOf_cons (lt2 c2_6_000 c2_6_001)) (allOf_cons (lt2 c2_6_010 c2_6_011)))) (allOf_cons (lt2 (allOf_cons (lt2 c2_6_100 c2_6_101)) (allOf_cons (lt2 c2_6_110 c2_6_111))))))
theorem chk_all2 (is : List Nat) (h1 : 1 ≤ is.length) (h5 : is.length ≤ 6) (h : ∀ i ∈ is, i < 2) : chk [97, 10] is = true := by
  have e : is.length = 1 ∨ is.length = 2 ∨ is.length = 3 ∨ is.length = 4 ∨ is.length = 5 ∨ is.length = 6 := by omega
  rcases e with e | e | e | e | e | e
  · exact allOf_spec 2 1 _ c2_1 is e h
  · exact allOf_spec 2 2 _ c2_2 is e h
  · exact allOf_spec 2 3 _ c2_3 is e h
  · exact allOf_spec 2 4 _ c2_4 is e h
  · exact allOf_spec 2 5 _ c2_5 is e h
  · exact allOf_spec 2 6 _ c2_6 is e h
end
-- J20
section
theorem checked : Checked := by
  intro sg n hp is h1 hn hb
  rcases hp with ⟨rfl, rfl⟩ | ⟨rfl, rfl⟩
  · exact chk_all3 is h1 hn hb
  · exact chk_all2 is h1 hn hb
theorem ns_some_of {K : Frag} {h : Heap} {N : Addr} {mg : Str → Option Value} {n : Str} {v : Value} (X : K.In h) (G : h.Ns N mg) (e : nsIn K N n = some (some v)) : mg n = some v := by
  obtain ⟨o, es, ep, ho, hd, _, hf⟩ := G
  unfold nsIn at e
  split at e
  · rename_i c d es' n' sl q
    have hq := X _ _ q
    rw [ho] at hq
    cases hq
    cases hd
    rw [← hf]
    unfold nsFind findBy
    split at e
    · rename_i en he
      rw [← Array.find?_toList, he]
      cases e
      rfl
    · split at e <;> cases e
  · cases e
section
variable {prog : Program} {w : World} {s₀ : Shared} {k : Nat} {K : Frag} {A : Around}
theorem top_fn (G : Gr w s₀ K) {a : Addr} {fd : FuncData} {body : List Stmt} (H : FnAt K a fd body) {x : Str} {v : Value} (hb : Looks (model prog w) s₀.heap (bindArgs fd ⟨[v], []⟩) [(x, v)])
    (hkind : fd.scope.names.lookup x = some .local) (hA : Room (k + 1) A)
    (h : ∀ (L : Addr), WXs prog w s₀ k (callEnvC fd L a) [(x, .cst v)] body [] fun fl _ _ => fl = .ret (.bool true)) :
    wpAny (model prog w) A (call (.ref a) [v]) (fun r s' => r = .bool true ∧ (∀ b o, s₀.heap.get? b = some o → s'.heap.get? b = some o) ∧ s'.gens = s₀.gens ∧ s'.os = s₀.os) NoE s₀ := by
  obtain ⟨o, hlk, hdat⟩ := H.at_
  have X : K.In s₀.heap := G.k
  have hroom : A.depth < recursionLimit := by have := hA.dep; omega
  refine wpAny_call (codeAny_call_function hroom (X _ _ hlk) hdat H.co H.gen H.body (codeRec_of X H.code) ?_)
  refine hb A.in1 _ _ s₀ (fun _ _ e => e) ?_
  rw [H.clo]
  refine wpAny_newFunctionEnv_cells H.kind (fun y hy => ?_) (fun env' he s' C => ?_)
  · have : y.1 = x := by simp at hy; exact congrArg (·.1) hy
    rw [this]
    exact .inl hkind
  · have he' : env' = callEnvC fd s₀.heap.objs.size a := by rw [he]; rfl
    obtain ⟨hh, tk, hs'⟩ := C.toInCall.same
    have hk := C.toInCall.keep
    have hL : env'.locals = s₀.heap.objs.size := by rw [he']; rfl
    have hkof : env'.kindOf = fun x => fd.scope.names.lookup x := by rw [he']; rfl
    have lone : ∀ y u, List.lookup y [(x, AV.cst v)] = some u → y = x ∧ u = .cst v := by
      intro y u e
      rw [List.lookup_cons] at e
      cases hy : y == x with
      | true => rw [hy] at e; injection e with e; exact ⟨eq_of_beq hy, e.symm⟩
      | false => rw [hy] at e; cases e
    have R' : Rep s₀ env' [] [(x, .cst v)] [] s' := by
      refine ⟨hk, by rw [hs'], by rw [hs'], .nil, (fun _ h => nomatch h), rfl, (fun i o e => by simp at e), ?_⟩
      refine ⟨by rw [he']; exact H.kind, by rw [he']; exact H.glob, by rw [he']; exact H.blt, ⟨_, C.toInCall.ns, fun y u hy hl => ?_⟩, fun y u hy hl => ?_, fun y c hc => ?_, C.apart, (fun h => nomatch h), by rw [hL]; exact Nat.le_refl _⟩
      · obtain ⟨rfl, rfl⟩ := lone y u hy
        refine ⟨v, ?_, rfl⟩
        exact bindL_lookup _ [y] [v] _ y v (by simp) hl (by simp)
      · obtain ⟨rfl, rfl⟩ := lone y u hy
        rw [hkof] at hl
        have hl' : fd.scope.names.lookup y = some .cell ∨ fd.scope.names.lookup y = some .free := hl
        rw [hkind] at hl'
        rcases hl' with hl' | hl' <;> cases hl'
      · refine ⟨?_, by have := C.above y c hc; rw [hL] at this; exact Nat.le_of_lt this⟩
        have hc' : env'.cells.lookup y = some c := by
          refine lookup_of_mem ?_ hc
          rw [he']
          show ((cellsFrom (s₀.heap.objs.size + 1) fd.scope.names []).map (·.1)).Nodup
          rw [cellsFrom_names]
          exact H.cnd
        exact ⟨_, C.cell y c hc'⟩
    refine ⟨G.lim.keeps R'.keep0, codeAny_func ?_⟩
    have hA' : Room k (A.deeper env') := ⟨by have := hA.dep; show A.depth + 1 + k < _; omega, by have := hA.un; show A.units + 3 + 10 * k + 200 < _; omega, hA.no⟩
    rw [he'] at R' hA' ⊢
    refine wpAny_mono (h s₀.heap.objs.size (A.deeper _) s' [] hA' R') ?_ fun _ _ x => x.elim
    rintro f s2 ⟨fl, l, m, ρ2, rfl, ⟨v', rfl, rv⟩, R2, x2⟩
    obtain rfl := rv.bool
    exact ⟨rfl, R2.keep0, R2.gens, R2.os⟩
theorem fn228 (w : World) : FnAt (KK w) 228 (fdAt (KK w) 228) (bodyAt (KK w) 228) :=
  ⟨⟨((KK w).lookup 228).getD default, rfl, rfl⟩, rfl, by rfl, rfl, rfl, rfl, rfl, rfl, rfl, of_decide_eq_true rfl, by rfl⟩
theorem law_run (G : Gr w s₀ (KK w)) {l : Addr} {vs : Array Value} {zs : List Int} {as : List Addr} (hl0 : s₀.heap.IsList l vs) (hr0 : ReadsAll s₀.heap vs.toList (zs.map .int) as) (hzl : zs.length ≤ 63) :
    wpAny (model prog w) callerA (call (.ref 228) [.ref l]) (fun r s' => r = .bool true ∧ (∀ b o, s₀.heap.get? b = some o → s'.heap.get? b = some o) ∧ s'.gens = s₀.gens ∧ s'.os = s₀.os) NoE s₀ := by
  refine top_fn (k := 5) G (fn228 w) (x := "script") ?_ rfl ⟨?_, ?_, rfl⟩ fun L => ?_
  · refine Looks.of_pure ?_
    kernel_rfl
  · decide
  · decide
  · exact @law_a prog w s₀ 0 [] G checked L l vs zs as hl0 hr0 hzl _ fun _ _ => rfl
end
end
end Mine
-- FIN
namespace Mine
theorem all_bare {s s' : Shared} (h : s'.gens = s.gens) (h0 : s.gens = #[]) : AllBare s'.gens := .of_eq (by rw [h, h0])
end Mine
open Mine
set_option maxRecDepth 100000 in
set_option maxHeartbeats 8000000 in
theorem PySem.Challenge.cw_pk0112_01_holds : PySem.Challenge.rw_pk0112_01.Holds := by
  refine hd ?_
  intro w s₀ s₁ mg mb G Y a o pm cd doc dV kV ho hdd hcd hD hmg hg args vals as hpre hlay hrd hwl hlo
  have KX := kIn_of Y
  have T := G.T
  clear G Y hdd hcd hD
  wrow_args hpre hlay hrd hwl hlo
  rename_i zs _ _ _ _ _ _ _ l vs as' hl hr _ _ _ _ hz _
  have ha : a = 228 := by
    have e : mg (Str.ofString "law") = some (.ref 228) := ns_some_of KX T.g (by rfl)
    have h2 : mg (Str.ofString "law") = some (.ref a) := hmg
    rw [e] at h2
    injection h2 with h2
    injection h2 with h2
    exact h2.symm
  subst ha
  have GG : Gr w s₁ (KK w) := ⟨KX, ⟨mb, T.b, T.builtins⟩, T.nolimit, T.nodigits⟩
  refine wpAny_mono (law_run (prog := PySem.Challenge.rw_pk0112_01.row.prog) GG (l := l) (vs := vs.toArray) (zs := zs) hl (by simpa using hr) (by omega)) ?_ fun _ _ x => x.elim
  rintro v s' ⟨rfl, hk, hge, hos⟩
  refine ⟨.inl ⟨_, .bool true, [], rfl, fun _ => rfl, .bool true, ?_, fun _ => ⟨.nil, fun _ h => nomatch h⟩⟩, .of_keep hk, hos, all_bare hge hg⟩
  wrow_post
